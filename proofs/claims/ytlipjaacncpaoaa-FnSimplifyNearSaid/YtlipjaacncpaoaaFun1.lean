/-
  Plain functions for the Go functions that this law reaches, and that each call does what its plain function says. Printed by a program of ours.
-/
import Derived.Test.YtlipjaacncpaoaaProg
import Derived.Test.YtlipjaacncpaoaaSxX
namespace Go.Proofs.Ytlipjaacncpaoaa
open Go.Sx
set_option linter.unusedVariables false
set_option maxRecDepth 100000

theorem isn33 : (Try.f33.name == "runtime.NumGoroutine") = false := by kernel_rfl
theorem info38 : (Try.prog.info? 38).map (fun i => (i.zero, i.size, i.bytes)) = some (some (.float .f64 0), 1, 8) := by kernel_rfl
theorem flat38 : Flat Try.prog 38 := ⟨_, Try.underlying38, fun _ h => (nomatch h), fun _ _ h => (nomatch h)⟩
theorem isn68 : (Try.f68.name == "runtime.NumGoroutine") = false := by kernel_rfl
theorem isn105 : (Try.f105.name == "runtime.NumGoroutine") = false := by kernel_rfl
theorem extf138 : ∀ {x r : Nat}, gint .zero x = r → ∀ y, (y = x ∨ (isn x = true ∧ isn y = true)) → RunsF Try.prog (callFunc 138 #[.float .f64 y]) (Fl r) := fun hz y hy => hz ▸ runs_ext (e := Extern.MathFloor.toIntegral "math.archTrunc" .zero) Try.func138 (by kernel_rfl) (by kernel_rfl) (by kernel_rfl) (by kernel_rfl) (gint_runs hy)
theorem isn46 : (Try.f46.name == "runtime.NumGoroutine") = false := by kernel_rfl
theorem ext53 : ∀ {args : Array Value} {v : Value}, Runs Try.prog ((Extern.MathFloatBits.float64bits) args) v → Runs Try.prog (callFunc 53 args) (.value v) := fun hr => ru_ext Try.func53 (by kernel_rfl) (by kernel_rfl) (by kernel_rfl) (by kernel_rfl) hr
theorem ext92 : ∀ {args : Array Value} {v : Value}, Runs Try.prog ((Extern.MathFloatBits.float64frombits) args) v → Runs Try.prog (callFunc 92 args) (.value v) := fun hr => ru_ext Try.func92 (by kernel_rfl) (by kernel_rfl) (by kernel_rfl) (by kernel_rfl) hr
theorem mixed : Try.prog.follows .mixedOrders = true := by kernel_rfl
theorem isn69 : (Try.f69.name == "runtime.NumGoroutine") = false := by kernel_rfl
theorem isn91 : (Try.f91.name == "runtime.NumGoroutine") = false := by kernel_rfl
theorem isn126 : (Try.f126.name == "runtime.NumGoroutine") = false := by kernel_rfl
theorem places74 : placesOf Try.prog [{ name := "N", type := 72, offset := 0, embedded := false, tag := "", pkgPath := "", byteOffset := 0 }, { name := "E", type := 3, offset := 2, embedded := false, tag := "", pkgPath := "", byteOffset := 32 }] = [(0, 2), (2, 1)] := by kernel_rfl
theorem has74 : ∀ f ∈ ([{ name := "N", type := 72, offset := 0, embedded := false, tag := "", pkgPath := "", byteOffset := 0 }, { name := "E", type := 3, offset := 2, embedded := false, tag := "", pkgPath := "", byteOffset := 32 }] : List Field), (Try.prog.info? f.type).isSome = true := fun f hf => all_of (p := fun f => (Try.prog.info? f.type).isSome) (by kernel_rfl) f hf
theorem info74 : (Try.prog.info? 74).map (fun i => (i.zero, i.size, i.bytes)) = some (some (.agg #[.bool false, .slice none 0 0, .int .i64 0]), 3, 40) := by kernel_rfl
theorem isn141 : (Try.f141.name == "runtime.NumGoroutine") = false := by kernel_rfl
theorem isn147 : (Try.f147.name == "runtime.NumGoroutine") = false := by kernel_rfl
theorem info183 : (Try.prog.info? 183).map (fun i => (i.zero, i.size, i.bytes)) = some (some (.int .u32 0), 1, 4) := by kernel_rfl
theorem flat183 : Flat Try.prog 183 := ⟨_, Try.underlying183, fun _ h => (nomatch h), fun _ _ h => (nomatch h)⟩
theorem places72 : placesOf Try.prog [{ name := "Neg", type := 4, offset := 0, embedded := false, tag := "", pkgPath := "", byteOffset := 0 }, { name := "L", type := 70, offset := 1, embedded := false, tag := "", pkgPath := "", byteOffset := 8 }] = [(0, 1), (1, 1)] := by kernel_rfl
theorem has72 : ∀ f ∈ ([{ name := "Neg", type := 4, offset := 0, embedded := false, tag := "", pkgPath := "", byteOffset := 0 }, { name := "L", type := 70, offset := 1, embedded := false, tag := "", pkgPath := "", byteOffset := 8 }] : List Field), (Try.prog.info? f.type).isSome = true := fun f hf => all_of (p := fun f => (Try.prog.info? f.type).isSome) (by kernel_rfl) f hf
theorem info72 : (Try.prog.info? 72).map (fun i => (i.zero, i.size, i.bytes)) = some (some (.agg #[.bool false, .slice none 0 0]), 2, 32) := by kernel_rfl
theorem agg72 : Agg Try.prog 72 2 := ⟨⟨_, Try.underlying72, .inl ⟨_, rfl⟩⟩, info_size info72⟩
theorem agg74 : Agg Try.prog 74 3 := ⟨⟨_, Try.underlying74, .inl ⟨_, rfl⟩⟩, info_size info74⟩
theorem places96 : placesOf Try.prog [{ name := "X", type := 74, offset := 0, embedded := false, tag := "", pkgPath := "", byteOffset := 0 }, { name := "Y", type := 74, offset := 3, embedded := false, tag := "", pkgPath := "", byteOffset := 40 }] = [(0, 3), (3, 3)] := by kernel_rfl
theorem has96 : ∀ f ∈ ([{ name := "X", type := 74, offset := 0, embedded := false, tag := "", pkgPath := "", byteOffset := 0 }, { name := "Y", type := 74, offset := 3, embedded := false, tag := "", pkgPath := "", byteOffset := 40 }] : List Field), (Try.prog.info? f.type).isSome = true := fun f hf => all_of (p := fun f => (Try.prog.info? f.type).isSome) (by kernel_rfl) f hf
theorem info96 : (Try.prog.info? 96).map (fun i => (i.zero, i.size, i.bytes)) = some (some (.agg #[.bool false, .slice none 0 0, .int .i64 0, .bool false, .slice none 0 0, .int .i64 0]), 6, 80) := by kernel_rfl
theorem agg96 : Agg Try.prog 96 6 := ⟨⟨_, Try.underlying96, .inl ⟨_, rfl⟩⟩, info_size info96⟩
theorem isn34 : (Try.f34.name == "runtime.NumGoroutine") = false := by kernel_rfl
theorem isn71 : (Try.f71.name == "runtime.NumGoroutine") = false := by kernel_rfl
theorem info3 : (Try.prog.info? 3).map (fun i => (i.zero, i.size, i.bytes)) = some (some (.int .i64 0), 1, 8) := by kernel_rfl
theorem info5 : (Try.prog.info? 5).map (fun i => (i.zero, i.size, i.bytes)) = some (some (.int .u8 0), 1, 1) := by kernel_rfl
theorem isn106 : (Try.f106.name == "runtime.NumGoroutine") = false := by kernel_rfl
theorem flat3 : Flat Try.prog 3 := ⟨_, Try.underlying3, fun _ h => (nomatch h), fun _ _ h => (nomatch h)⟩
theorem isn140 : (Try.f140.name == "runtime.NumGoroutine") = false := by kernel_rfl
theorem flat5 : Flat Try.prog 5 := ⟨_, Try.underlying5, fun _ h => (nomatch h), fun _ _ h => (nomatch h)⟩
theorem isn60 : (Try.f60.name == "runtime.NumGoroutine") = false := by kernel_rfl
theorem idle70 : Idle Try.prog 70 2 := fun vs w hv => by
  obtain ⟨v0, v1, rfl⟩ : ∃ v0 v1, vs = [v0, v1] := by
    obtain _ | ⟨v0, vs⟩ := vs
    · simp at hv
    obtain _ | ⟨v1, vs⟩ := vs
    · simp at hv
    obtain _ | ⟨u, vs⟩ := vs
    · exact ⟨v0, v1, rfl⟩
    · simp at hv
  refine callsD_of_wpS Try.func70 rfl fun c₀ cs hu => ?_
  apply wpS_seq
  apply wpS_region
  simp [wpOpsS, go_sem, recoverD, hu, Try.ntmps70, Exit.thenS]
  refine wpS_cond (t := false) (by simp [Act.eval, Array.replicate]) ?_
  simp only [Bool.false_eq_true, if_false]
  refine wpS_of_wp (wp_skip ?_)
  cases c₀
  simp_all [bodyPostS, results, Try.results70]
theorem isn70 : (Try.f70.name == "runtime.NumGoroutine") = false := by kernel_rfl
theorem info4 : (Try.prog.info? 4).map (fun i => (i.zero, i.size, i.bytes)) = some (some (.bool false), 1, 1) := by kernel_rfl
theorem info34 : (Try.prog.info? 34).map (fun i => (i.zero, i.size, i.bytes)) = some (some (.slice none 0 0), 1, 24) := by kernel_rfl
theorem flat34 : Flat Try.prog 34 := ⟨_, Try.underlying34, fun _ h => (nomatch h), fun _ _ h => (nomatch h)⟩
theorem flat4 : Flat Try.prog 4 := ⟨_, Try.underlying4, fun _ h => (nomatch h), fun _ _ h => (nomatch h)⟩
theorem isn35 : (Try.f35.name == "runtime.NumGoroutine") = false := by kernel_rfl
theorem isn72 : (Try.f72.name == "runtime.NumGoroutine") = false := by kernel_rfl
theorem isn107 : (Try.f107.name == "runtime.NumGoroutine") = false := by kernel_rfl
theorem isn95 : (Try.f95.name == "runtime.NumGoroutine") = false := by kernel_rfl
theorem isn81 : (Try.f81.name == "runtime.NumGoroutine") = false := by kernel_rfl
theorem isn122 : (Try.f122.name == "runtime.NumGoroutine") = false := by kernel_rfl
theorem isn148 : (Try.f148.name == "runtime.NumGoroutine") = false := by kernel_rfl
theorem info70 : (Try.prog.info? 70).map (fun i => (i.zero, i.size, i.bytes)) = some (some (.slice none 0 0), 1, 24) := by kernel_rfl
theorem flat70 : Flat Try.prog 70 := ⟨_, Try.underlying70, fun _ h => (nomatch h), fun _ _ h => (nomatch h)⟩
theorem isn120 : (Try.f120.name == "runtime.NumGoroutine") = false := by kernel_rfl
theorem isn82 : (Try.f82.name == "runtime.NumGoroutine") = false := by kernel_rfl
theorem isn123 : (Try.f123.name == "runtime.NumGoroutine") = false := by kernel_rfl
theorem isn145 : (Try.f145.name == "runtime.NumGoroutine") = false := by kernel_rfl
theorem isn146 : (Try.f146.name == "runtime.NumGoroutine") = false := by kernel_rfl
theorem isn158 : (Try.f158.name == "runtime.NumGoroutine") = false := by kernel_rfl
theorem isn159 : (Try.f159.name == "runtime.NumGoroutine") = false := by kernel_rfl
theorem isn160 : (Try.f160.name == "runtime.NumGoroutine") = false := by kernel_rfl
theorem isn80 : (Try.f80.name == "runtime.NumGoroutine") = false := by kernel_rfl
theorem isn121 : (Try.f121.name == "runtime.NumGoroutine") = false := by kernel_rfl
theorem isn108 : (Try.f108.name == "runtime.NumGoroutine") = false := by kernel_rfl
theorem places76 : placesOf Try.prog [{ name := "N", type := 74, offset := 0, embedded := false, tag := "", pkgPath := "", byteOffset := 0 }, { name := "D", type := 74, offset := 3, embedded := false, tag := "", pkgPath := "", byteOffset := 40 }] = [(0, 3), (3, 3)] := by kernel_rfl
theorem has76 : ∀ f ∈ ([{ name := "N", type := 74, offset := 0, embedded := false, tag := "", pkgPath := "", byteOffset := 0 }, { name := "D", type := 74, offset := 3, embedded := false, tag := "", pkgPath := "", byteOffset := 40 }] : List Field), (Try.prog.info? f.type).isSome = true := fun f hf => all_of (p := fun f => (Try.prog.info? f.type).isSome) (by kernel_rfl) f hf
theorem info76 : (Try.prog.info? 76).map (fun i => (i.zero, i.size, i.bytes)) = some (some (.agg #[.bool false, .slice none 0 0, .int .i64 0, .bool false, .slice none 0 0, .int .i64 0]), 6, 80) := by kernel_rfl
theorem isn109 : (Try.f109.name == "runtime.NumGoroutine") = false := by kernel_rfl
theorem isn90 : (Try.f90.name == "runtime.NumGoroutine") = false := by kernel_rfl
theorem agg76 : Agg Try.prog 76 6 := ⟨⟨_, Try.underlying76, .inl ⟨_, rfl⟩⟩, info_size info76⟩
theorem isn36 : (Try.f36.name == "runtime.NumGoroutine") = false := by kernel_rfl
theorem isn74 : (Try.f74.name == "runtime.NumGoroutine") = false := by kernel_rfl
theorem isn111 : (Try.f111.name == "runtime.NumGoroutine") = false := by kernel_rfl
theorem isn112 : (Try.f112.name == "runtime.NumGoroutine") = false := by kernel_rfl
theorem isn113 : (Try.f113.name == "runtime.NumGoroutine") = false := by kernel_rfl
theorem isn114 : (Try.f114.name == "runtime.NumGoroutine") = false := by kernel_rfl
theorem isn143 : (Try.f143.name == "runtime.NumGoroutine") = false := by kernel_rfl
theorem isn149 : (Try.f149.name == "runtime.NumGoroutine") = false := by kernel_rfl
theorem isn118 : (Try.f118.name == "runtime.NumGoroutine") = false := by kernel_rfl
theorem isn156 : (Try.f156.name == "runtime.NumGoroutine") = false := by kernel_rfl
theorem isn153 : (Try.f153.name == "runtime.NumGoroutine") = false := by kernel_rfl
theorem isn135 : (Try.f135.name == "runtime.NumGoroutine") = false := by kernel_rfl
theorem isn73 : (Try.f73.name == "runtime.NumGoroutine") = false := by kernel_rfl
theorem extf110 : ∀ {x r : Nat}, gsqrt x = r → ∀ y, (y = x ∨ (isn x = true ∧ isn y = true)) → RunsF Try.prog (callFunc 110 #[.float .f64 y]) (Fl r) := fun hz y hy => hz ▸ runs_ext (e := Extern.MathSqrt.sqrt) Try.func110 (by kernel_rfl) (by kernel_rfl) (by kernel_rfl) (by kernel_rfl) (gsqrt_runs hy)
def KT96 : Kd (Bool × (List Int) × Int × Bool × (List Int) × Int) := ⟨6, fun x => [(Vl (.bool x.1)), (Sl (Ki .u32) x.2.1), (Vl (.int .i64 x.2.2.1)), (Vl (.bool x.2.2.2.1)), (Sl (Ki .u32) x.2.2.2.2.1), (Vl (.int .i64 x.2.2.2.2.2))], fun _ => rfl⟩
def KT76 : Kd (Bool × (List Int) × Int × Bool × (List Int) × Int) := ⟨6, fun x => [(Vl (.bool x.1)), (Sl (Ki .u32) x.2.1), (Vl (.int .i64 x.2.2.1)), (Vl (.bool x.2.2.2.1)), (Sl (Ki .u32) x.2.2.2.2.1), (Vl (.int .i64 x.2.2.2.2.2))], fun _ => rfl⟩

def math_Trunc (k : Nat) (a0 : Nat) : Option (Nat) :=
 (some (gint .zero a0)) >>= fun r4 =>
 some r4

theorem math_Trunc_sim {k : Nat}  (a0 : Nat) {out : Nat} (hp : math_Trunc k a0 = some out) : Sx.Fn Try.prog 105 [(Vg a0)] [] (fun w : Unit => (Fl out)) (fun w => []) := by
 unfold math_Trunc at hp
 refine fn_of Try.func105 rfl Try.ntmps105 rfl fun E hM => ?_
 refine cr fun K1 hK1 => ?_
 refine s0 (rd_assign' rfl) ?_
 refine nk hK1 ?_
 refine cx_seq' fun K2 hK2 => ?_
 refine cx_cond_t' rfl rfl ?_
 refine cr fun K3 hK3 => ?_
 refine s0 (rd_move' rfl) ?_
 obtain ⟨r4, hr4, hp⟩ := bind_some hp
 refine sx_ox' (ox_extf' rfl (fl_v rfl) Try.func138 (extf138 (Option.some.inj hr4)) rfl rfl) (wt_none' rfl) fun _ => ?_
 refine s0 (rd_assign' rfl) ?_
 refine nk hK3 ?_
 refine cx_retc' ?_
 replace hp := Option.some.inj hp
 subst hp
 refine tx_pick' (L' := [(2, (Fl r4))]) (H' := []) [] (sub_cons rfl sub_nil) (by decide) pick_nil ?_
 exact tx_ret1' Try.results105 rfl () (rv_tmp' rfl) (List.Sublist.refl _)

def math_Abs (k : Nat) (a0 : Nat) : Option (Nat) :=
 some (ffrom (iandn .u64 (fbits a0) 9223372036854775808))

theorem math_Abs_sim {k : Nat}  (a0 : Nat) {out : Nat} (hp : math_Abs k a0 = some out) : Sx.Fn Try.prog 46 [(Vg a0)] [] (fun w : Unit => (Vg out)) (fun w => []) := by
 unfold math_Abs at hp
 refine fn_of Try.func46 rfl Try.ntmps46 rfl fun E hM => ?_
 refine cr fun K1 hK1 => ?_
 refine s0 (rd_assign' rfl) ?_
 refine nk hK1 ?_
 refine cr fun K2 hK2 => ?_
 refine s0 (rd_move' rfl) ?_
 refine s0 (rd_ext' (us := [.float .f64 a0]) rfl (ext53 ex_bits)) ?_
 refine s0 (rd_bin' rfl rfl eg_int ru_andn) ?_
 refine s0 (rd_ext' (us := [.int .u64 (iandn .u64 (fbits a0) 9223372036854775808)]) rfl (ext92 ex_from)) ?_
 refine s0 (rd_assign' rfl) ?_
 refine nk hK2 ?_
 refine cx_retc' ?_
 replace hp := Option.some.inj hp
 subst hp
 refine tx_pick' (L' := [(2, (Vg (ffrom (iandn .u64 (fbits a0) 9223372036854775808))))]) (H' := []) [] (sub_cons rfl sub_nil) (by decide) pick_nil ?_
 exact tx_ret1' Try.results46 rfl () (rv_tmp' rfl) (List.Sublist.refl _)

def laws_wholeTo_j2 (k : Nat) (rec1 : Int → Option (Unit ⊕ Unit)) (x3 : Int) (x2 : Bool) : Option (Unit ⊕ Unit) :=
 br x2
  (some (.inl ()))
  (rec1 (iadd .i64 x3 1))
def laws_wholeTo_l1s (a1 : List Nat) (a0 : Nat) (k : Nat) (rec1 : Int → Option (Unit ⊕ Unit)) (x3 : Int) : Option (Unit ⊕ Unit) :=
 br (decide (x3 < (a1.length : Int)))
  ((idx a1 x3) >>= fun r11 =>
  (math_Trunc k r11) >>= fun r15 =>
  br (fne r11 r15)
   (laws_wholeTo_j2 k rec1 x3 true)
   ((math_Abs k r11) >>= fun r19 =>
   laws_wholeTo_j2 k rec1 x3 (fgt r19 a0)))
  (some (.inr ()))
def laws_wholeTo_l1 (a1 : List Nat) (a0 : Nat) : Nat → Int → Option (Unit ⊕ Unit)
 | 0, _ => none
 | k + 1, v => laws_wholeTo_l1s a1 a0 k (laws_wholeTo_l1 a1 a0 k) v
def laws_wholeTo (k : Nat) (a0 : Nat) (a1 : List Nat) : Option (Bool) :=
 (laws_wholeTo_l1 a1 a0 k 0) >>= fun y1 => match y1 with
  | (.inl v4) =>
   (some false)
  | (.inr v5) =>
   (some true)

theorem laws_wholeTo_sim {k : Nat}  (a0 : Nat) (a1 : List Nat) {out : Bool} (hp : laws_wholeTo k a0 a1 = some out) : Sx.Fn Try.prog 68 [(Vg a0), (Sl Kf a1)] [] (fun w : Unit => (Vb out)) (fun w => []) := by
 unfold laws_wholeTo at hp
 refine fn_of Try.func68 rfl Try.ntmps68 rfl fun E hM => ?_
 refine cr fun K1 hK1 => ?_
 refine s0 (rd_assign' rfl) ?_
 refine nk hK1 ?_
 refine cx_seq' fun K2 hK2 => ?_
 refine cr fun K3 hK3 => ?_
 refine s0 (rd_move' rfl) ?_
 refine s0 (rd_len' rfl Try.underlying22) ?_
 refine s0 (rd_move' rfl) ?_
 refine nk hK3 ?_
 refine cx_block' ?_
 obtain ⟨y1, hy1, hp⟩ := bind_some hp
 refine cx_loopg' (F := laws_wholeTo_l1 a1 a0) (G := fun k R v => laws_wholeTo_l1s a1 a0 k R v) (x := 0) (gh := ()) (fun (v2 : Int) (w2 : Unit) => (⟨24, [], [(0, (Vg a0)), (7, (Sl Kf a1)), (8, (Vi (a1.length : Int))), (9, (Vi v2))], []⟩ : St)) (fun (y : Unit ⊕ Unit) => match y with | (.inl v4) => Zg E Exit.ret (fun (w4 : Unit) => (⟨24, [], [(4, (Vb false))], []⟩ : St)) | (.inr v5) => Zg E (Exit.exit 0) (fun (w5 : Unit) => (⟨24, [], [], []⟩ : St))) (fun _ => rfl) (fun _ _ => rfl) ?_ hy1 (tx_to' rfl [] (sub_cons rfl (sub_cons rfl (sub_cons rfl (sub_cons rfl sub_nil)))) (by decide) pick_nil) ?_
 ·clear hp hy1
  clear y1
  intro k rec1 KY1 ih1
  rintro x3 ⟨⟩ y1 hp
  replace hp : laws_wholeTo_l1s a1 a0 k rec1 x3 = some y1 := hp
  unfold laws_wholeTo_l1s at hp
  refine cr fun K11 hK11 => ?_
  refine s0 (rd_bin' rfl rfl eg_int ru_lss) ?_
  refine nk hK11 ?_
  refine cx_seq' fun K12 hK12 => ?_
  refine cx_cond' rfl (fun h5 => ?_) (fun h5 => ?_)
  ·replace hp := (br_t h5).symm.trans hp
   refine cx_skip' ?_
   show TX E K12 _
   refine tx_k' hK12 ?_
   refine cx_seq' fun K13 hK13 => ?_
   refine cx_block' ?_
   refine cr fun K14 hK14 => ?_
   obtain ⟨r11, hr11, hp⟩ := bind_some hp
   refine s0 (rd_at' (K := Kf) rfl rfl hr11 Try.underlying22 info38) ?_
   refine s0 (rd_load_pt' rfl rfl flat38) ?_
   refine s0 (rd_assign' rfl) ?_
   refine nk hK14 ?_
   refine cr fun K15 hK15 => ?_
   refine s0 (rd_move' rfl) ?_
   refine s0 (rd_move' rfl) ?_
   obtain ⟨r15, hr15, hp⟩ := bind_some hp
   refine sx_ox' (ox_calln' (ent_fn' Try.func105 isn105 rfl rfl) (math_Trunc_sim _ hr15 : Sx.Fn Try.prog 105 [(Vg r11)] [] (fun x : Unit => (Fl r15)) (fun x => [])) (Hn := fun x : Unit => []) (fun _ => rfl) rfl rfl) (wt_none' rfl) fun ⟨⟩ => ?_
   refine s0 (rd_fcmp' (fl_v rfl) (fl_f rfl) rfl) ?_
   refine s0 (rd_move' rfl) ?_
   refine sx_cutn' 5 (fun (v3 : Bool) => (⟨24, [], [(0, (Vg a0)), (7, (Sl Kf a1)), (8, (Vi (a1.length : Int))), (9, (Vi x3)), (22, (Vb v3))], []⟩ : St)) (fun (v3 : Bool) => laws_wholeTo_j2 k rec1 x3 v3 = some y1) ?_ ?_
   ·rintro x2 hp
    replace hp : laws_wholeTo_j2 k rec1 x3 x2 = some y1 := hp
    unfold laws_wholeTo_j2 at hp
    refine nk hK15 ?_
    refine cx_cond' rfl (fun h7 => ?_) (fun h7 => ?_)
    ·replace hp := (br_t h7).symm.trans hp
     refine cr fun K17 hK17 => ?_
     refine s0 (rd_assign' rfl) ?_
     refine nk hK17 ?_
     refine cx_retc' ?_
     replace hp := Option.some.inj hp
     subst hp
     show TX E (Zg E Exit.ret _ Exit.ret) _
     exact tx_zend' () rfl [] (sub_cons rfl sub_nil) (by decide) pick_nil
    replace hp := (br_f h7).symm.trans hp
    refine cx_skip' ?_
    show TX E K13 _
    refine tx_k' hK13 ?_
    refine cx_region' ?_
    refine s0 (rd_bin' rfl rfl eg_int ru_add) ?_
    refine s0 (rd_move' rfl) ?_
    refine sx_nil' ?_
    show TX E (KY1 _) _
    exact tx_pick' [] (sub_cons rfl (sub_cons rfl (sub_cons rfl (sub_cons rfl sub_nil)))) (by decide) pick_nil (ih1 (iadd .i64 x3 1) () _ hp)
   intro K16 hK16
   rcases br_cases hp with ⟨h6, hp⟩ | ⟨h6, hp⟩
   ·refine sx_skip' rfl rfl (wt_is' (wt_guard' rfl rfl rfl) (beq_tf h6)) ?_
    refine sx_skip' rfl rfl (wt_is' (wt_guard' rfl rfl rfl) (beq_tf h6)) ?_
    refine sx_skip' rfl rfl (wt_is' (wt_guard' rfl rfl rfl) (beq_tf h6)) ?_
    refine sx_skip' rfl rfl (wt_is' (wt_guard' rfl rfl rfl) (beq_tf h6)) ?_
    refine s0 (rd_pick_true' rfl h6 rfl) ?_
    refine sx_nil' ?_
    show TX E K16 _
    exact tx_pick' [] (sub_cons rfl (sub_cons rfl (sub_cons rfl (sub_cons rfl (sub_cons rfl sub_nil))))) (by decide) pick_nil (hK16 true hp)
   refine sx_rd' (rd_move' rfl) rfl rfl (wt_is' (wt_guard' rfl rfl rfl) (beq_ff h6)) ?_
   obtain ⟨r19, hr19, hp⟩ := bind_some hp
   refine sx_ox' (ox_calln' (ent_fn' Try.func46 isn46 rfl rfl) (math_Abs_sim _ hr19 : Sx.Fn Try.prog 46 [(Vg r11)] [] (fun x : Unit => (Vg r19)) (fun x => [])) (Hn := fun x : Unit => []) (fun _ => rfl) rfl rfl) (wt_is' (wt_guard' rfl rfl rfl) (beq_ff h6)) fun ⟨⟩ => ?_
   refine sx_rd' (rd_move' rfl) rfl rfl (wt_is' (wt_guard' rfl rfl rfl) (beq_ff h6)) ?_
   refine sx_rd' (rd_bin' rfl rfl eg_flt ru_fgt) rfl rfl (wt_is' (wt_guard' rfl rfl rfl) (beq_ff h6)) ?_
   refine s0 (rd_pick_false' rfl h6 rfl) ?_
   refine sx_nil' ?_
   show TX E K16 _
   exact tx_pick' [] (sub_cons rfl (sub_cons rfl (sub_cons rfl (sub_cons rfl (sub_cons rfl sub_nil))))) (by decide) pick_nil (hK16 (fgt r19 a0) hp)
  replace hp := (br_f h5).symm.trans hp
  refine cx_exit' ?_
  replace hp := Option.some.inj hp
  subst hp
  show TX E (Zg E (Exit.exit 0) _ (Exit.exit 0)) _
  exact tx_zend' () rfl [] sub_nil (by decide) pick_nil
 rcases y1 with v4 | v5
 ·dsimp only at hp
  refine zg_out fun w4 => ?_
  replace hp := Option.some.inj hp
  subst hp
  refine tx_pick' (L' := [(4, (Vb false))]) (H' := []) [] (sub_cons rfl sub_nil) (by decide) pick_nil ?_
  exact tx_ret1' Try.results68 rfl () (rv_tmp' rfl) (List.Sublist.refl _)
 dsimp only at hp
 refine zg_out fun w5 => ?_
 show TX E K2 _
 refine tx_k' hK2 ?_
 refine cr fun K18 hK18 => ?_
 refine s0 (rd_assign' rfl) ?_
 refine nk hK18 ?_
 refine cx_retc' ?_
 replace hp := Option.some.inj hp
 subst hp
 refine tx_pick' (L' := [(4, (Vb true))]) (H' := []) [] (sub_cons rfl sub_nil) (by decide) pick_nil ?_
 exact tx_ret1' Try.results68 rfl () (rv_tmp' rfl) (List.Sublist.refl _)

def spec_trim_j2 (k : Nat) (x3 : List Int) (rec1 : (List Int) → Option ((List Int))) (x2 : Bool) : Option ((List Int)) :=
 br x2
  ((cut x3 0 (isub .i64 (x3.length : Int) 1)) >>= fun r19 =>
  rec1 r19)
  (some x3)
def spec_trim_l1s  (k : Nat) (rec1 : (List Int) → Option ((List Int))) (x3 : List Int) : Option ((List Int)) :=
 br (decide (0 < (x3.length : Int)))
  ((idx x3 (isub .i64 (x3.length : Int) 1)) >>= fun r11 =>
  spec_trim_j2 k x3 rec1 (decide (r11 = 0)))
  (spec_trim_j2 k x3 rec1 false)
def spec_trim_l1  : Nat → (List Int) → Option ((List Int))
 | 0, _ => none
 | k + 1, v => spec_trim_l1s k (spec_trim_l1 k) v
def spec_trim (k : Nat) (a0 : List Int) : Option ((List Int)) :=
 (spec_trim_l1 k a0) >>= fun v4 =>
 some v4

theorem spec_trim_sim {k : Nat}  (a0 : List Int) {out : (List Int)} (hp : spec_trim k a0 = some out) : Sx.Fn Try.prog 147 [(Sl (Ki .u32) a0)] [] (fun w : Unit => (Sl (Ki .u32) out)) (fun w => []) := by
 unfold spec_trim at hp
 refine fn_of Try.func147 rfl Try.ntmps147 rfl fun E hM => ?_
 refine cr fun K1 hK1 => ?_
 refine s0 (rd_assign' rfl) ?_
 refine nk hK1 ?_
 refine cx_seq' fun K2 hK2 => ?_
 refine cx_block' ?_
 obtain ⟨v4, hy1, hp⟩ := bind_some hp
 refine cx_loopg' (F := spec_trim_l1) (G := fun k R v => spec_trim_l1s k R v) (x := a0) (gh := ()) (fun (v2 : (List Int)) (w2 : Unit) => (⟨21, [], [(0, (Sl (Ki .u32) v2))], []⟩ : St)) (fun (v4 : (List Int)) => Zg E (Exit.exit 0) (fun (w4 : Unit) => (⟨21, [], [(0, (Sl (Ki .u32) v4))], []⟩ : St))) (fun _ => rfl) (fun _ _ => rfl) ?_ hy1 (tx_to' rfl [] (sub_cons rfl sub_nil) (by decide) pick_nil) ?_
 ·clear hp hy1
  clear v4
  intro k rec1 KY1 ih1
  rintro x3 ⟨⟩ y1 hp
  replace hp : spec_trim_l1s k rec1 x3 = some y1 := hp
  unfold spec_trim_l1s at hp
  refine cx_seq' fun K6 hK6 => ?_
  refine cr fun K7 hK7 => ?_
  refine s0 (rd_move' rfl) ?_
  refine s0 (rd_len' rfl Try.underlying70) ?_
  refine s0 (rd_bin' rfl rfl eg_int ru_gtr) ?_
  refine s0 (rd_move' rfl) ?_
  refine sx_cutn' 8 (fun (v3 : Bool) => (⟨21, [], [(0, (Sl (Ki .u32) x3)), (14, (Vb v3))], []⟩ : St)) (fun (v3 : Bool) => spec_trim_j2 k x3 rec1 v3 = some y1) ?_ ?_
  ·rintro x2 hp
   replace hp : spec_trim_j2 k x3 rec1 x2 = some y1 := hp
   unfold spec_trim_j2 at hp
   refine nk hK7 ?_
   refine cx_cond' rfl (fun h5 => ?_) (fun h5 => ?_)
   ·replace hp := (br_t h5).symm.trans hp
    refine cx_skip' ?_
    show TX E K6 _
    refine tx_k' hK6 ?_
    refine cx_block' ?_
    refine cx_region' ?_
    refine s0 (rd_move' rfl) ?_
    refine s0 (rd_move' rfl) ?_
    refine s0 (rd_len' rfl Try.underlying70) ?_
    refine s0 (rd_bin' rfl rfl eg_int ru_sub) ?_
    obtain ⟨r19, hr19, hp⟩ := bind_some hp
    refine s0 (rd_cut_h' rfl rfl hr19 Try.underlying70 info183) ?_
    refine s0 (rd_assign' rfl) ?_
    refine sx_nil' ?_
    show TX E (KY1 _) _
    exact tx_pick' [] (sub_cons rfl sub_nil) (by decide) pick_nil (ih1 r19 () _ hp)
   replace hp := (br_f h5).symm.trans hp
   refine cx_exit' ?_
   replace hp := Option.some.inj hp
   subst hp
   show TX E (Zg E (Exit.exit 0) _ (Exit.exit 0)) _
   exact tx_zend' () rfl [] (sub_cons rfl sub_nil) (by decide) pick_nil
  intro K8 hK8
  rcases br_cases hp with ⟨h4, hp⟩ | ⟨h4, hp⟩
  ·refine sx_rd' (rd_move' rfl) rfl rfl (wt_is' (wt_guard' rfl rfl rfl) (beq_tt h4)) ?_
   refine sx_rd' (rd_move' rfl) rfl rfl (wt_is' (wt_guard' rfl rfl rfl) (beq_tt h4)) ?_
   refine sx_rd' (rd_len' rfl Try.underlying70) rfl rfl (wt_is' (wt_guard' rfl rfl rfl) (beq_tt h4)) ?_
   refine sx_rd' (rd_bin' rfl rfl eg_int ru_sub) rfl rfl (wt_is' (wt_guard' rfl rfl rfl) (beq_tt h4)) ?_
   obtain ⟨r11, hr11, hp⟩ := bind_some hp
   refine sx_rd' (rd_at' (K := (Ki .u32)) rfl rfl hr11 Try.underlying70 info183) rfl rfl (wt_is' (wt_guard' rfl rfl rfl) (beq_tt h4)) ?_
   refine sx_rd' (rd_load_pt' rfl rfl flat183) rfl rfl (wt_is' (wt_guard' rfl rfl rfl) (beq_tt h4)) ?_
   refine sx_rd' (rd_bin' rfl rfl eg_int ru_eql) rfl rfl (wt_is' (wt_guard' rfl rfl rfl) (beq_tt h4)) ?_
   refine s0 (rd_pick_true' rfl h4 rfl) ?_
   refine sx_nil' ?_
   show TX E K8 _
   exact tx_pick' [] (sub_cons rfl (sub_cons rfl sub_nil)) (by decide) pick_nil (hK8 (decide (r11 = 0)) hp)
  refine sx_skip' rfl rfl (wt_is' (wt_guard' rfl rfl rfl) (beq_ft h4)) ?_
  refine sx_skip' rfl rfl (wt_is' (wt_guard' rfl rfl rfl) (beq_ft h4)) ?_
  refine sx_skip' rfl rfl (wt_is' (wt_guard' rfl rfl rfl) (beq_ft h4)) ?_
  refine sx_skip' rfl rfl (wt_is' (wt_guard' rfl rfl rfl) (beq_ft h4)) ?_
  refine sx_skip' rfl rfl (wt_is' (wt_guard' rfl rfl rfl) (beq_ft h4)) ?_
  refine sx_skip' rfl rfl (wt_is' (wt_guard' rfl rfl rfl) (beq_ft h4)) ?_
  refine sx_skip' rfl rfl (wt_is' (wt_guard' rfl rfl rfl) (beq_ft h4)) ?_
  refine s0 (rd_pick_false' rfl h4 rfl) ?_
  refine sx_nil' ?_
  show TX E K8 _
  exact tx_pick' [] (sub_cons rfl (sub_cons rfl sub_nil)) (by decide) pick_nil (hK8 false hp)
 refine zg_out fun w4 => ?_
 show TX E K2 _
 refine tx_k' hK2 ?_
 refine cr fun K9 hK9 => ?_
 refine s0 (rd_move' rfl) ?_
 refine s0 (rd_assign' rfl) ?_
 refine nk hK9 ?_
 refine cx_retc' ?_
 replace hp := Option.some.inj hp
 subst hp
 refine tx_pick' (L' := [(2, (Sl (Ki .u32) v4))]) (H' := []) [] (sub_cons rfl sub_nil) (by decide) pick_nil ?_
 exact tx_ret1' Try.results147 rfl () (rv_tmp' rfl) (List.Sublist.refl _)

def spec_WholeOf_j1 (k : Nat) (a0 : Int) (x1 : Int) : Option (Bool × (List Int)) :=
 (ishr .u64 x1 32) >>= fun r15 =>
 (spec_trim k ([icv .u32 x1, icv .u32 r15])) >>= fun r18 =>
 some (decide (a0 < 0), r18)
def spec_WholeOf (k : Nat) (a0 : Int) : Option (Bool × (List Int)) :=
 br (decide (a0 < 0))
  (spec_WholeOf_j1 k a0 (isub .u64 0 (icv .u64 a0)))
  (spec_WholeOf_j1 k a0 (icv .u64 a0))

theorem spec_WholeOf_sim {k : Nat}  (a0 : Int) {out : Bool × (List Int)} (hp : spec_WholeOf k a0 = some out) : Sx.Fn Try.prog 141 [(Vi a0)] [] (fun w : Unit => (Ag [(Vb out.1), (Sl (Ki .u32) out.2)])) (fun w => []) := by
 unfold spec_WholeOf at hp
 refine fn_of Try.func141 rfl Try.ntmps141 rfl fun E hM => ?_
 refine cr fun K1 hK1 => ?_
 refine sx_ox' (ox_alloc' info72 rfl rfl rfl rfl (l := [(Vb false), Vn]) rfl) (wt_none' rfl) fun q2 => ?_
 refine nk hK1 ?_
 refine cr fun K2 hK2 => ?_
 refine s0 (rd_move' rfl) ?_
 refine s0 (rd_conv' rfl (ru_i2i (by rw [Try.underlying2]; rfl) Try.underlying107)) ?_
 refine s0 (rd_assign' rfl) ?_
 refine nk hK2 ?_
 refine cx_join' (fun (v1 : Int) => (⟨20, [], [(0, (Vi a0)), (2, (Vp q2)), (3, (Vl (.int .u64 v1)))], [⟨.pointer (some q2), [(Vb false), Vn], 72, none⟩]⟩ : St)) (fun (v1 : Int) => spec_WholeOf_j1 k a0 v1 = some out) ?_ ?_
 ·rintro x1 hp
  replace hp : spec_WholeOf_j1 k a0 x1 = some out := hp
  unfold spec_WholeOf_j1 at hp
  refine cr fun K5 hK5 => ?_
  refine s0 (rd_move' rfl) ?_
  refine s0 (rd_bin' rfl rfl eg_int ru_lss) ?_
  refine s0 (rd_move' rfl) ?_
  refine s0 (rd_conv' rfl (ru_i2i (by rw [Try.underlying107]; rfl) Try.underlying183)) ?_
  refine s0 (rd_move' rfl) ?_
  obtain ⟨r15, hr15, hp⟩ := bind_some hp
  refine s0 (rd_bin' rfl rfl eg_int (ru_shr hr15)) ?_
  refine s0 (rd_conv' rfl (ru_i2i (by rw [Try.underlying107]; rfl) Try.underlying183)) ?_
  refine sx_ox' (ox_rowlit' (K := (Ki .u32)) (xs := [icv .u32 x1, icv .u32 r15]) (qs := [(0, [(Vl (.int .u32 (icv .u32 x1)))]), (1, [(Vl (.int .u32 (icv .u32 r15)))])]) ⟨rfl, ⟨_, rfl, (lv_vl rfl rfl)⟩, ⟨rfl, ⟨_, rfl, (lv_vl rfl rfl)⟩, trivial⟩⟩ Try.underlying70 info183 rfl rfl rfl rfl rfl (by kernel_rfl) rfl rfl rfl) (wt_none' rfl) fun g17 => ?_
  refine tx_fz' (frz_row 0 [(17, (Vl (Vs g17)), (Sl (Ki .u32) ([icv .u32 x1, icv .u32 r15])))] (K := (Ki .u32)) (xs := [icv .u32 x1, icv .u32 r15]) (by decide) rfl ⟨⟨rfl, frz_it⟩, trivial⟩ (H' := [⟨.pointer (some q2), [(Vb false), Vn], 72, none⟩]) frzH_refl) ?_
  obtain ⟨r18, hr18, hp⟩ := bind_some hp
  refine sx_ox' (ox_calln' (ent_fn' Try.func147 isn147 rfl rfl) (spec_trim_sim _ hr18 : Sx.Fn Try.prog 147 [(Sl (Ki .u32) ([icv .u32 x1, icv .u32 r15]))] [] (fun x : Unit => (Sl (Ki .u32) r18)) (fun x => [])) (Hn := fun x : Unit => [⟨.pointer (some q2), [(Vb false), Vn], 72, none⟩]) (fun _ => rfl) rfl rfl) (wt_none' rfl) fun ⟨⟩ => ?_
  refine s0 (rd_build' (pls := [(0, 1), (1, 1)]) (qs := [(0, [(Vb (decide (a0 < 0)))]), (1, [(Sl (Ki .u32) r18)])]) (r := [(Vb (decide (a0 < 0))), (Sl (Ki .u32) r18)]) ⟨rfl, ⟨_, rfl, (lv_vl rfl rfl)⟩, ⟨rfl, ⟨_, rfl, (lv_sl _ _)⟩, trivial⟩⟩ Try.underlying72 has72 places72 info72 rfl rfl rfl) ?_
  refine sx_ox' (ox_store' (i := 0) (o := 0) rfl rfl (lv_ag _) ⟨rfl, rfl, rfl, rfl⟩ rfl info72 rfl (H' := [⟨.pointer (some q2), [(Vb (decide (a0 < 0))), (Sl (Ki .u32) r18)], 72, none⟩]) rfl) (wt_none' rfl) fun _ => ?_
  refine nk hK5 ?_
  refine cx_retc' ?_
  replace hp := Option.some.inj hp
  subst hp
  refine tx_pick' (L' := [(2, (Vp q2))]) (H' := [⟨.pointer (some q2), [(Vb (decide (a0 < 0))), (Sl (Ki .u32) r18)], 72, none⟩]) [0] (sub_cons rfl sub_nil) (by decide) (pick_cons rfl pick_nil) ?_
  exact tx_ret1' Try.results141 rfl () (rv_cell_agg' (i := 0) (o := 0) (nn := 2) rfl ⟨rfl, rfl, rfl, rfl⟩ rfl agg72 rfl) (List.nil_sublist _)
 intro K3 hK3
 refine cr fun K4 hK4 => ?_
 refine s0 (rd_move' rfl) ?_
 refine s0 (rd_bin' rfl rfl eg_int ru_lss) ?_
 refine nk hK4 ?_
 refine cx_cond' rfl (fun h1 => ?_) (fun h1 => ?_)
 ·replace hp := (br_t h1).symm.trans hp
  refine cx_region' ?_
  refine s0 (rd_move' rfl) ?_
  refine s0 (rd_un' rfl ru_ineg) ?_
  refine s0 (rd_assign' rfl) ?_
  refine sx_nil' ?_
  show TX E K3 _
  exact tx_pick' [0] (sub_cons rfl (sub_cons rfl (sub_cons rfl sub_nil))) (by decide) (pick_cons rfl pick_nil) (hK3 (isub .u64 0 (icv .u64 a0)) hp)
 replace hp := (br_f h1).symm.trans hp
 refine cx_skip' ?_
 show TX E K3 _
 exact tx_pick' [0] (sub_cons rfl (sub_cons rfl (sub_cons rfl sub_nil))) (by decide) (pick_cons rfl pick_nil) (hK3 (icv .u64 a0) hp)

def spec_DyadicOf_j2 (k : Nat) (x2 : Int) (x3 : Int) : Option (Bool × (List Int) × Int) :=
 (spec_WholeOf k x3) >>= fun r29 =>
 some (r29.1, r29.2, isub .i64 x2 1075)
def spec_DyadicOf_j1 (k : Nat) (a0 : Nat) (x1 : Int) (x2 : Int) : Option (Bool × (List Int) × Int) :=
 (ishr .u64 (fbits a0) 63) >>= fun r24 =>
 br (decide (r24 = 1))
  (spec_DyadicOf_j2 k x2 (isub .i64 0 x1))
  (spec_DyadicOf_j2 k x2 x1)
def spec_DyadicOf (k : Nat) (a0 : Nat) : Option (Bool × (List Int) × Int) :=
 (ishr .u64 (fbits a0) 52) >>= fun r12 =>
 br (decide ((icv .i64 (iand .u64 r12 2047)) = 2047))
  (some (false, [], 0))
  (br (decide ((icv .i64 (iand .u64 r12 2047)) = 0))
   (spec_DyadicOf_j1 k a0 (icv .i64 (iand .u64 (fbits a0) 4503599627370495)) 1)
   (spec_DyadicOf_j1 k a0 (iadd .i64 (icv .i64 (iand .u64 (fbits a0) 4503599627370495)) 4503599627370496) (icv .i64 (iand .u64 r12 2047))))

theorem spec_DyadicOf_sim {k : Nat}  (a0 : Nat) {out : Bool × (List Int) × Int} (hp : spec_DyadicOf k a0 = some out) : Sx.Fn Try.prog 126 [(Vg a0)] [] (fun w : Unit => (Ag [(Vb out.1), (Sl (Ki .u32) out.2.1), (Vi out.2.2)])) (fun w => []) := by
 unfold spec_DyadicOf at hp
 refine fn_of Try.func126 rfl Try.ntmps126 rfl fun E hM => ?_
 refine cr fun K1 hK1 => ?_
 refine sx_ox' (ox_alloc' info74 rfl rfl rfl rfl (l := [(Vb false), Vn, (Vi 0)]) rfl) (wt_none' rfl) fun q2 => ?_
 refine nk hK1 ?_
 refine cr fun K2 hK2 => ?_
 refine s0 (rd_move' rfl) ?_
 refine s0 (rd_ext' (us := [.float .f64 a0]) rfl (ext53 ex_bits)) ?_
 refine s0 (rd_assign' rfl) ?_
 refine nk hK2 ?_
 refine cr fun K3 hK3 => ?_
 refine s0 (rd_move' rfl) ?_
 refine s0 (rd_bin' rfl rfl eg_int ru_and) ?_
 refine s0 (rd_conv' rfl (ru_i2i (by rw [Try.underlying107]; rfl) Try.underlying2)) ?_
 refine s0 (rd_move' rfl) ?_
 obtain ⟨r12, hr12, hp⟩ := bind_some hp
 refine s0 (rd_bin' rfl rfl eg_int (ru_shr hr12)) ?_
 refine s0 (rd_bin' rfl rfl eg_int ru_and) ?_
 refine s0 (rd_conv' rfl (ru_i2i (by rw [Try.underlying107]; rfl) Try.underlying3)) ?_
 refine s0 (rd_assign' rfl) ?_
 refine s0 (rd_assign' rfl) ?_
 refine nk hK3 ?_
 refine cx_join' (fun (v1 : Int × Int) => (⟨33, [], [(2, (Vp q2)), (3, (Vl (.int .u64 (fbits a0)))), (4, (Vi v1.1)), (5, (Vi v1.2))], [⟨.pointer (some q2), [(Vb false), Vn, (Vi 0)], 74, none⟩]⟩ : St)) (fun (v1 : Int × Int) => spec_DyadicOf_j1 k a0 v1.1 v1.2 = some out) ?_ ?_
 ·rintro ⟨x1, x2⟩ hp
  replace hp : spec_DyadicOf_j1 k a0 x1 x2 = some out := hp
  unfold spec_DyadicOf_j1 at hp
  refine cx_join' (fun (v2 : Int) => (⟨33, [], [(2, (Vp q2)), (4, (Vi v2)), (5, (Vi x2))], [⟨.pointer (some q2), [(Vb false), Vn, (Vi 0)], 74, none⟩]⟩ : St)) (fun (v2 : Int) => spec_DyadicOf_j2 k x2 v2 = some out) ?_ ?_
  ·rintro x3 hp
   replace hp : spec_DyadicOf_j2 k x2 x3 = some out := hp
   unfold spec_DyadicOf_j2 at hp
   refine cr fun K11 hK11 => ?_
   refine s0 (rd_move' rfl) ?_
   obtain ⟨r29, hr29, hp⟩ := bind_some hp
   refine sx_ox' (ox_calln' (ent_fn' Try.func141 isn141 rfl rfl) (spec_WholeOf_sim _ hr29 : Sx.Fn Try.prog 141 [(Vi x3)] [] (fun x : Unit => (Ag [(Vb r29.1), (Sl (Ki .u32) r29.2)])) (fun x => [])) (Hn := fun x : Unit => [⟨.pointer (some q2), [(Vb false), Vn, (Vi 0)], 74, none⟩]) (fun _ => rfl) rfl rfl) (wt_none' rfl) fun ⟨⟩ => ?_
   refine s0 (rd_move' rfl) ?_
   refine s0 (rd_bin' rfl rfl eg_int ru_sub) ?_
   refine s0 (rd_build' (pls := [(0, 2), (2, 1)]) (qs := [(0, [(Vb r29.1), (Sl (Ki .u32) r29.2)]), (1, [(Vi (isub .i64 x2 1075))])]) (r := [(Vb r29.1), (Sl (Ki .u32) r29.2), (Vi (isub .i64 x2 1075))]) ⟨rfl, ⟨_, rfl, (lv_ag _)⟩, ⟨rfl, ⟨_, rfl, (lv_vl rfl rfl)⟩, trivial⟩⟩ Try.underlying74 has74 places74 info74 rfl rfl rfl) ?_
   refine sx_ox' (ox_store' (i := 0) (o := 0) rfl rfl (lv_ag _) ⟨rfl, rfl, rfl, rfl⟩ rfl info74 rfl (H' := [⟨.pointer (some q2), [(Vb r29.1), (Sl (Ki .u32) r29.2), (Vi (isub .i64 x2 1075))], 74, none⟩]) rfl) (wt_none' rfl) fun _ => ?_
   refine nk hK11 ?_
   refine cx_retc' ?_
   replace hp := Option.some.inj hp
   subst hp
   refine tx_pick' (L' := [(2, (Vp q2))]) (H' := [⟨.pointer (some q2), [(Vb r29.1), (Sl (Ki .u32) r29.2), (Vi (isub .i64 x2 1075))], 74, none⟩]) [0] (sub_cons rfl sub_nil) (by decide) (pick_cons rfl pick_nil) ?_
   exact tx_ret1' Try.results126 rfl () (rv_cell_agg' (i := 0) (o := 0) (nn := 3) rfl ⟨rfl, rfl, rfl, rfl⟩ rfl agg74 rfl) (List.nil_sublist _)
  intro K9 hK9
  refine cr fun K10 hK10 => ?_
  refine s0 (rd_move' rfl) ?_
  obtain ⟨r24, hr24, hp⟩ := bind_some hp
  refine s0 (rd_bin' rfl rfl eg_int (ru_shr hr24)) ?_
  refine s0 (rd_bin' rfl rfl eg_int ru_eql) ?_
  refine nk hK10 ?_
  refine cx_cond' rfl (fun h3 => ?_) (fun h3 => ?_)
  ·replace hp := (br_t h3).symm.trans hp
   refine cx_region' ?_
   refine s0 (rd_move' rfl) ?_
   refine s0 (rd_un' rfl ru_ineg) ?_
   refine s0 (rd_assign' rfl) ?_
   refine sx_nil' ?_
   show TX E K9 _
   exact tx_pick' [0] (sub_cons rfl (sub_cons rfl (sub_cons rfl sub_nil))) (by decide) (pick_cons rfl pick_nil) (hK9 (isub .i64 0 x1) hp)
  replace hp := (br_f h3).symm.trans hp
  refine cx_skip' ?_
  show TX E K9 _
  exact tx_pick' [0] (sub_cons rfl (sub_cons rfl (sub_cons rfl sub_nil))) (by decide) (pick_cons rfl pick_nil) (hK9 x1 hp)
 intro K4 hK4
 refine cr fun K5 hK5 => ?_
 refine s0 (rd_move' rfl) ?_
 refine nk hK5 ?_
 refine cx_block' ?_
 refine cr fun K6 hK6 => ?_
 refine s0 (rd_bin' rfl rfl eg_int ru_eql) ?_
 refine s0 (rd_assign' rfl) ?_
 refine nk hK6 ?_
 refine cx_cond' rfl (fun h1 => ?_) (fun h1 => ?_)
 ·replace hp := (br_t h1).symm.trans hp
  refine cr fun K7 hK7 => ?_
  refine s0 (rd_build' (pls := [(0, 2), (2, 1)]) (qs := []) (r := [(Vb false), Vn, (Vi 0)]) trivial Try.underlying74 has74 places74 info74 rfl rfl rfl) ?_
  refine sx_ox' (ox_store' (i := 0) (o := 0) rfl rfl (lv_ag _) ⟨rfl, rfl, rfl, rfl⟩ rfl info74 rfl (H' := [⟨.pointer (some q2), [(Vb false), Vn, (Vi 0)], 74, none⟩]) rfl) (wt_none' rfl) fun _ => ?_
  refine nk hK7 ?_
  refine cx_retc' ?_
  replace hp := Option.some.inj hp
  subst hp
  refine tx_pick' (L' := [(2, (Vp q2))]) (H' := [⟨.pointer (some q2), [(Vb false), Vn, (Vi 0)], 74, none⟩]) [0] (sub_cons rfl sub_nil) (by decide) (pick_cons rfl pick_nil) ?_
  exact tx_ret1' Try.results126 rfl () (rv_imp' (x := (Ag [(Vb false), Vn, (Vi 0)])) (y := (Ag [(Vb false), (Sl (Ki .u32) []), (Vi 0)])) (rv_cell_agg' (i := 0) (o := 0) (nn := 3) rfl ⟨rfl, rfl, rfl, rfl⟩ rfl agg74 rfl) (imp_ag ⟨imp_refl, imp_nil, imp_refl, trivial⟩)) (List.nil_sublist _)
 replace hp := (br_f h1).symm.trans hp
 refine cr fun K8 hK8 => ?_
 refine s0 (rd_bin' rfl rfl eg_int ru_eql) ?_
 refine s0 (rd_assign' rfl) ?_
 refine nk hK8 ?_
 refine cx_cond' rfl (fun h2 => ?_) (fun h2 => ?_)
 ·replace hp := (br_t h2).symm.trans hp
  refine cx_region' ?_
  refine s0 (rd_assign' rfl) ?_
  refine sx_nil' ?_
  show TX E K4 _
  exact tx_pick' [0] (sub_cons rfl (sub_cons rfl (sub_cons rfl (sub_cons rfl sub_nil)))) (by decide) (pick_cons rfl pick_nil) (hK4 ((icv .i64 (iand .u64 (fbits a0) 4503599627370495)), 1) hp)
 replace hp := (br_f h2).symm.trans hp
 refine cx_region' ?_
 refine s0 (rd_move' rfl) ?_
 refine s0 (rd_bin' rfl rfl eg_int ru_add) ?_
 refine s0 (rd_assign' rfl) ?_
 refine sx_nil' ?_
 show TX E K4 _
 exact tx_pick' [0] (sub_cons rfl (sub_cons rfl (sub_cons rfl (sub_cons rfl sub_nil)))) (by decide) (pick_cons rfl pick_nil) (hK4 ((iadd .i64 (icv .i64 (iand .u64 (fbits a0) 4503599627370495)) 4503599627370496), (icv .i64 (iand .u64 r12 2047))) hp)

def spec_PointOf (k : Nat) (a0 : Nat) (a1 : Nat) : Option (Bool × (List Int) × Int × Bool × (List Int) × Int) :=
 (spec_DyadicOf k a0) >>= fun r6 =>
 (spec_DyadicOf k a1) >>= fun r8 =>
 some (r6.1, r6.2.1, r6.2.2, r8.1, r8.2.1, r8.2.2)

theorem spec_PointOf_sim {k : Nat}  (a0 : Nat) (a1 : Nat) {out : Bool × (List Int) × Int × Bool × (List Int) × Int} (hp : spec_PointOf k a0 a1 = some out) : Sx.Fn Try.prog 91 [(Vg a0), (Vg a1)] [] (fun w : Unit => (Ag [(Vb out.1), (Sl (Ki .u32) out.2.1), (Vi out.2.2.1), (Vb out.2.2.2.1), (Sl (Ki .u32) out.2.2.2.2.1), (Vi out.2.2.2.2.2)])) (fun w => []) := by
 unfold spec_PointOf at hp
 refine fn_of Try.func91 rfl Try.ntmps91 rfl fun E hM => ?_
 refine cr fun K1 hK1 => ?_
 refine sx_ox' (ox_alloc' info96 rfl rfl rfl rfl (l := [(Vb false), Vn, (Vi 0), (Vb false), Vn, (Vi 0)]) rfl) (wt_none' rfl) fun q4 => ?_
 refine nk hK1 ?_
 refine cr fun K2 hK2 => ?_
 refine s0 (rd_move' rfl) ?_
 obtain ⟨r6, hr6, hp⟩ := bind_some hp
 refine sx_ox' (ox_calln' (ent_fn' Try.func126 isn126 rfl rfl) (spec_DyadicOf_sim _ hr6 : Sx.Fn Try.prog 126 [(Vg a0)] [] (fun x : Unit => (Ag [(Vb r6.1), (Sl (Ki .u32) r6.2.1), (Vi r6.2.2)])) (fun x => [])) (Hn := fun x : Unit => [⟨.pointer (some q4), [(Vb false), Vn, (Vi 0), (Vb false), Vn, (Vi 0)], 96, none⟩]) (fun _ => rfl) rfl rfl) (wt_none' rfl) fun ⟨⟩ => ?_
 refine s0 (rd_move' rfl) ?_
 obtain ⟨r8, hr8, hp⟩ := bind_some hp
 refine sx_ox' (ox_calln' (ent_fn' Try.func126 isn126 rfl rfl) (spec_DyadicOf_sim _ hr8 : Sx.Fn Try.prog 126 [(Vg a1)] [] (fun x : Unit => (Ag [(Vb r8.1), (Sl (Ki .u32) r8.2.1), (Vi r8.2.2)])) (fun x => [])) (Hn := fun x : Unit => [⟨.pointer (some q4), [(Vb false), Vn, (Vi 0), (Vb false), Vn, (Vi 0)], 96, none⟩]) (fun _ => rfl) rfl rfl) (wt_none' rfl) fun ⟨⟩ => ?_
 refine s0 (rd_build' (pls := [(0, 3), (3, 3)]) (qs := [(0, [(Vb r6.1), (Sl (Ki .u32) r6.2.1), (Vi r6.2.2)]), (1, [(Vb r8.1), (Sl (Ki .u32) r8.2.1), (Vi r8.2.2)])]) (r := [(Vb r6.1), (Sl (Ki .u32) r6.2.1), (Vi r6.2.2), (Vb r8.1), (Sl (Ki .u32) r8.2.1), (Vi r8.2.2)]) ⟨rfl, ⟨_, rfl, (lv_ag _)⟩, ⟨rfl, ⟨_, rfl, (lv_ag _)⟩, trivial⟩⟩ Try.underlying96 has96 places96 info96 rfl rfl rfl) ?_
 refine sx_ox' (ox_store' (i := 0) (o := 0) rfl rfl (lv_ag _) ⟨rfl, rfl, rfl, rfl⟩ rfl info96 rfl (H' := [⟨.pointer (some q4), [(Vb r6.1), (Sl (Ki .u32) r6.2.1), (Vi r6.2.2), (Vb r8.1), (Sl (Ki .u32) r8.2.1), (Vi r8.2.2)], 96, none⟩]) rfl) (wt_none' rfl) fun _ => ?_
 refine nk hK2 ?_
 refine cx_retc' ?_
 replace hp := Option.some.inj hp
 subst hp
 refine tx_pick' (L' := [(4, (Vp q4))]) (H' := [⟨.pointer (some q4), [(Vb r6.1), (Sl (Ki .u32) r6.2.1), (Vi r6.2.2), (Vb r8.1), (Sl (Ki .u32) r8.2.1), (Vi r8.2.2)], 96, none⟩]) [0] (sub_cons rfl sub_nil) (by decide) (pick_cons rfl pick_nil) ?_
 exact tx_ret1' Try.results91 rfl () (rv_cell_agg' (i := 0) (o := 0) (nn := 6) rfl ⟨rfl, rfl, rfl, rfl⟩ rfl agg96 rfl) (List.nil_sublist _)

def spec_Places_j2 (k : Nat) (a0 : List Nat) (x4 : Int) (x3 : List (Bool × (List Int) × Int × Bool × (List Int) × Int)) (rec1 : ((List (Bool × (List Int) × Int × Bool × (List Int) × Int)) × Int) → Option ((List (Bool × (List Int) × Int × Bool × (List Int) × Int)))) (a1 : Int) (x2 : Bool) : Option ((List (Bool × (List Int) × Int × Bool × (List Int) × Int))) :=
 br x2
  ((idx a0 x4) >>= fun r23 =>
  (idx a0 (iadd .i64 x4 1)) >>= fun r28 =>
  (spec_PointOf k r23 r28) >>= fun r30 =>
  (apd 80 x3 ([(r30.1, r30.2.1, r30.2.2.1, r30.2.2.2.1, r30.2.2.2.2.1, r30.2.2.2.2.2)])) >>= fun r32 =>
  rec1 (r32, (iadd .i64 x4 a1)))
  (some x3)
def spec_Places_l1s (a1 : Int) (a0 : List Nat) (k : Nat) (rec1 : ((List (Bool × (List Int) × Int × Bool × (List Int) × Int)) × Int) → Option ((List (Bool × (List Int) × Int × Bool × (List Int) × Int)))) (x3 : List (Bool × (List Int) × Int × Bool × (List Int) × Int)) (x4 : Int) : Option ((List (Bool × (List Int) × Int × Bool × (List Int) × Int))) :=
 br (decide (1 < a1))
  (spec_Places_j2 k a0 x4 x3 rec1 a1 (decide ((iadd .i64 x4 a1) ≤ (a0.length : Int))))
  (spec_Places_j2 k a0 x4 x3 rec1 a1 false)
def spec_Places_l1 (a1 : Int) (a0 : List Nat) : Nat → ((List (Bool × (List Int) × Int × Bool × (List Int) × Int)) × Int) → Option ((List (Bool × (List Int) × Int × Bool × (List Int) × Int)))
 | 0, _ => none
 | k + 1, v => spec_Places_l1s a1 a0 k (spec_Places_l1 a1 a0 k) v.1 v.2
def spec_Places (k : Nat) (a0 : List Nat) (a1 : Int) : Option ((List (Bool × (List Int) × Int × Bool × (List Int) × Int))) :=
 (spec_Places_l1 a1 a0 k ([], 0)) >>= fun v4 =>
 some v4

theorem spec_Places_sim {k : Nat}  (a0 : List Nat) (a1 : Int) {out : (List (Bool × (List Int) × Int × Bool × (List Int) × Int))} (hp : spec_Places k a0 a1 = some out) : Sx.Fn Try.prog 69 [(Sl Kf a0), (Vi a1)] [] (fun w : Unit => (Sl KT96 out)) (fun w => []) := by
 unfold spec_Places at hp
 refine fn_of Try.func69 rfl Try.ntmps69 rfl fun E hM => ?_
 refine cr fun K1 hK1 => ?_
 refine s0 (rd_assign' rfl) ?_
 refine nk hK1 ?_
 refine cr fun K2 hK2 => ?_
 refine s0 (rd_assign' rfl) ?_
 refine nk hK2 ?_
 refine cx_seq' fun K3 hK3 => ?_
 refine cr fun K4 hK4 => ?_
 refine s0 (rd_assign' rfl) ?_
 refine nk hK4 ?_
 refine cx_block' ?_
 obtain ⟨v4, hy1, hp⟩ := bind_some hp
 refine tx_nilrow' KT96 96 ?_
 refine cx_loopg' (F := spec_Places_l1 a1 a0) (G := fun k R v => spec_Places_l1s a1 a0 k R v.1 v.2) (x := ([], 0)) (gh := (none, 0, 0)) (fun (v2 : (List (Bool × (List Int) × Int × Bool × (List Int) × Int)) × Int) (w2 : Gs) => (⟨34, [], [(0, (Sl Kf a0)), (1, (Vi a1)), (5, (Vl (Vs w2))), (6, (Vi v2.2))], [(Rw KT96 96 (Vs w2) v2.1)]⟩ : St)) (fun (v4 : (List (Bool × (List Int) × Int × Bool × (List Int) × Int))) => Zg E (Exit.exit 0) (fun (w4 : Gs) => (⟨34, [], [(5, (Vl (Vs w4)))], [(Rw KT96 96 (Vs w4) v4)]⟩ : St))) (fun _ => rfl) (fun _ _ => rfl) ?_ hy1 (tx_to' rfl [0] (sub_cons rfl (sub_cons rfl (sub_cons rfl (sub_cons rfl sub_nil)))) (by decide) (pick_cons rfl pick_nil)) ?_
 ·clear hp hy1
  clear v4
  intro k rec1 KY1 ih1
  rintro ⟨x3, x4⟩ g901 y1 hp
  replace hp : spec_Places_l1s a1 a0 k rec1 x3 x4 = some y1 := hp
  unfold spec_Places_l1s at hp
  refine cx_seq' fun K9 hK9 => ?_
  refine cr fun K10 hK10 => ?_
  refine s0 (rd_move' rfl) ?_
  refine s0 (rd_bin' rfl rfl eg_int ru_gtr) ?_
  refine s0 (rd_move' rfl) ?_
  refine sx_cutn' 7 (fun (v3 : Bool) => (⟨34, [], [(0, (Sl Kf a0)), (1, (Vi a1)), (5, (Vl (Vs g901))), (6, (Vi x4)), (16, (Vb v3))], [(Rw KT96 96 (Vs g901) x3)]⟩ : St)) (fun (v3 : Bool) => spec_Places_j2 k a0 x4 x3 rec1 a1 v3 = some y1) ?_ ?_
  ·rintro x2 hp
   replace hp : spec_Places_j2 k a0 x4 x3 rec1 a1 x2 = some y1 := hp
   unfold spec_Places_j2 at hp
   refine nk hK10 ?_
   refine cx_cond' rfl (fun h5 => ?_) (fun h5 => ?_)
   ·replace hp := (br_t h5).symm.trans hp
    refine cx_skip' ?_
    show TX E K9 _
    refine tx_k' hK9 ?_
    refine cx_seq' fun K12 hK12 => ?_
    refine cx_block' ?_
    refine cx_plan' [] [(12, 1)] [(0, 1), (1, 1), (2, 1), (3, 1), (4, 1), (5, 1), (6, 1), (7, 1), (8, 1), (9, 1), (10, 0), (11, 0), (12, 0), (13, 1)] mixed (by kernel_rfl) ?_
    refine px_rd' rfl (rd_move' rfl) rfl rfl (wt_none' rfl) ?_
    refine px_rd' rfl (rd_move' rfl) rfl rfl (wt_none' rfl) ?_
    refine px_rd' rfl (rd_move' rfl) rfl rfl (wt_none' rfl) ?_
    obtain ⟨r23, hr23, hp⟩ := bind_some hp
    refine px_rd' rfl (rd_at' (K := Kf) rfl rfl hr23 Try.underlying22 info38) rfl rfl (wt_none' rfl) ?_
    refine px_rd' rfl (rd_load_pt' rfl rfl flat38) rfl rfl (wt_none' rfl) ?_
    refine px_rd' rfl (rd_move' rfl) rfl rfl (wt_none' rfl) ?_
    refine px_rd' rfl (rd_move' rfl) rfl rfl (wt_none' rfl) ?_
    refine px_rd' rfl (rd_bin' rfl rfl eg_int ru_add) rfl rfl (wt_none' rfl) ?_
    obtain ⟨r28, hr28, hp⟩ := bind_some hp
    refine px_rd' rfl (rd_at' (K := Kf) rfl rfl hr28 Try.underlying22 info38) rfl rfl (wt_none' rfl) ?_
    refine px_rd' rfl (rd_load_pt' rfl rfl flat38) rfl rfl (wt_none' rfl) ?_
    obtain ⟨r30, hr30, hp⟩ := bind_some hp
    refine px_ox' rfl (ox_calln' (ent_fn' Try.func91 isn91 rfl rfl) (spec_PointOf_sim _ _ hr30 : Sx.Fn Try.prog 91 [(Vg r23), (Vg r28)] [] (fun x : Unit => (Ag [(Vb r30.1), (Sl (Ki .u32) r30.2.1), (Vi r30.2.2.1), (Vb r30.2.2.2.1), (Sl (Ki .u32) r30.2.2.2.2.1), (Vi r30.2.2.2.2.2)])) (fun x => [])) (Hn := fun x : Unit => [(Rw KT96 96 (Vs g901) x3)]) (fun _ => rfl) rfl rfl) rfl bs_nil (wt_none' rfl) fun ⟨⟩ => ?_
    refine px_ox' rfl (ox_rowlit' (K := KT96) (xs := [(r30.1, r30.2.1, r30.2.2.1, r30.2.2.2.1, r30.2.2.2.2.1, r30.2.2.2.2.2)]) (qs := [(0, [(Vb r30.1), (Sl (Ki .u32) r30.2.1), (Vi r30.2.2.1), (Vb r30.2.2.2.1), (Sl (Ki .u32) r30.2.2.2.2.1), (Vi r30.2.2.2.2.2)])]) ⟨rfl, ⟨_, rfl, (lv_ag _)⟩, trivial⟩ Try.underlying63 info96 rfl rfl rfl rfl rfl (by kernel_rfl) rfl rfl rfl) rfl bs_nil (wt_none' rfl) fun g31 => ?_
    obtain ⟨r32, hr32, hp⟩ := bind_some hp
    refine px_ox' rfl (ox_append' (K := KT96) (i := 1) (xs := x3) (ys := ([(r30.1, r30.2.1, r30.2.2.1, r30.2.2.2.1, r30.2.2.2.2.1, r30.2.2.2.2.2)])) rfl rfl rfl (sr_row' (j := 0) rfl rfl rfl Try.underlying63) hr32 Try.underlying63 info96 rfl rfl rfl (H' := [(Rw KT96 96 (Vs g31) ([(r30.1, r30.2.1, r30.2.2.1, r30.2.2.2.1, r30.2.2.2.2.1, r30.2.2.2.2.2)]))]) rfl) rfl bs_nil (wt_none' rfl) fun g32 => ?_
    refine px_rd' rfl (rd_assign' rfl) rfl rfl (wt_none' rfl) ?_
    refine px_nil' ?_
    show TX E K12 _
    refine tx_k' hK12 ?_
    refine cx_region' ?_
    refine s0 (rd_move' rfl) ?_
    refine s0 (rd_move' rfl) ?_
    refine s0 (rd_bin' rfl rfl eg_int ru_add) ?_
    refine s0 (rd_assign' rfl) ?_
    refine sx_nil' ?_
    show TX E (KY1 _) _
    exact tx_pick' [0] (sub_cons rfl (sub_cons rfl (sub_cons rfl (sub_cons rfl sub_nil)))) (by decide) (pick_cons rfl pick_nil) (ih1 (r32, (iadd .i64 x4 a1)) g32 _ hp)
   replace hp := (br_f h5).symm.trans hp
   refine cx_exit' ?_
   replace hp := Option.some.inj hp
   subst hp
   show TX E (Zg E (Exit.exit 0) _ (Exit.exit 0)) _
   exact tx_zend' g901 rfl [0] (sub_cons rfl sub_nil) (by decide) (pick_cons rfl pick_nil)
  intro K11 hK11
  rcases br_cases hp with ⟨h4, hp⟩ | ⟨h4, hp⟩
  ·refine sx_rd' (rd_move' rfl) rfl rfl (wt_is' (wt_guard' rfl rfl rfl) (beq_tt h4)) ?_
   refine sx_rd' (rd_move' rfl) rfl rfl (wt_is' (wt_guard' rfl rfl rfl) (beq_tt h4)) ?_
   refine sx_rd' (rd_bin' rfl rfl eg_int ru_add) rfl rfl (wt_is' (wt_guard' rfl rfl rfl) (beq_tt h4)) ?_
   refine sx_rd' (rd_move' rfl) rfl rfl (wt_is' (wt_guard' rfl rfl rfl) (beq_tt h4)) ?_
   refine sx_rd' (rd_len' rfl Try.underlying22) rfl rfl (wt_is' (wt_guard' rfl rfl rfl) (beq_tt h4)) ?_
   refine sx_rd' (rd_bin' rfl rfl eg_int ru_leq) rfl rfl (wt_is' (wt_guard' rfl rfl rfl) (beq_tt h4)) ?_
   refine s0 (rd_pick_true' rfl h4 rfl) ?_
   refine sx_nil' ?_
   show TX E K11 _
   exact tx_pick' [0] (sub_cons rfl (sub_cons rfl (sub_cons rfl (sub_cons rfl (sub_cons rfl sub_nil))))) (by decide) (pick_cons rfl pick_nil) (hK11 (decide ((iadd .i64 x4 a1) ≤ (a0.length : Int))) hp)
  refine sx_skip' rfl rfl (wt_is' (wt_guard' rfl rfl rfl) (beq_ft h4)) ?_
  refine sx_skip' rfl rfl (wt_is' (wt_guard' rfl rfl rfl) (beq_ft h4)) ?_
  refine sx_skip' rfl rfl (wt_is' (wt_guard' rfl rfl rfl) (beq_ft h4)) ?_
  refine sx_skip' rfl rfl (wt_is' (wt_guard' rfl rfl rfl) (beq_ft h4)) ?_
  refine sx_skip' rfl rfl (wt_is' (wt_guard' rfl rfl rfl) (beq_ft h4)) ?_
  refine sx_skip' rfl rfl (wt_is' (wt_guard' rfl rfl rfl) (beq_ft h4)) ?_
  refine s0 (rd_pick_false' rfl h4 rfl) ?_
  refine sx_nil' ?_
  show TX E K11 _
  exact tx_pick' [0] (sub_cons rfl (sub_cons rfl (sub_cons rfl (sub_cons rfl (sub_cons rfl sub_nil))))) (by decide) (pick_cons rfl pick_nil) (hK11 false hp)
 refine zg_out fun w4 => ?_
 show TX E K3 _
 refine tx_k' hK3 ?_
 refine cr fun K13 hK13 => ?_
 refine s0 (rd_move' rfl) ?_
 refine s0 (rd_assign' rfl) ?_
 refine nk hK13 ?_
 refine cx_retc' ?_
 replace hp := Option.some.inj hp
 subst hp
 refine tx_fz' (frz_row 0 [(5, (Vl (Vs w4)), (Sl KT96 v4)), (33, (Vl (Vs w4)), (Sl KT96 v4)), (4, (Vl (Vs w4)), (Sl KT96 v4))] (K := KT96) (xs := v4) (by decide) rfl ⟨⟨rfl, frz_it⟩, ⟨rfl, frz_it⟩, ⟨rfl, frz_it⟩, trivial⟩ (H' := []) frzH_refl) ?_
 refine tx_pick' (L' := [(4, (Sl KT96 v4))]) (H' := []) [] (sub_cons rfl sub_nil) (by decide) pick_nil ?_
 exact tx_ret1' Try.results69 rfl () (rv_tmp' rfl) (List.Sublist.refl _)

def laws_flatPoints_l1s (a1 : List Nat) (a0 : Int) (k : Nat) (rec1 : Int → Option (Unit ⊕ Unit)) (x4 : Int) : Option (Unit ⊕ Unit) :=
 br (decide (x4 < (a1.length : Int)))
  ((idx a1 x4) >>= fun r36 =>
  (idx a1 (iadd .i64 x4 1)) >>= fun r41 =>
  (laws_wholeTo k 4665729213955833856 ([r36, r41])) >>= fun r44 =>
  br (!r44)
   (some (.inl ()))
   (rec1 (iadd .i64 x4 a0)))
  (some (.inr ()))
def laws_flatPoints_l1 (a1 : List Nat) (a0 : Int) : Nat → Int → Option (Unit ⊕ Unit)
 | 0, _ => none
 | k + 1, v => laws_flatPoints_l1s a1 a0 k (laws_flatPoints_l1 a1 a0 k) v
def laws_flatPoints_j3 (k : Nat) (a1 : List Nat) (a0 : Int) (x3 : Bool) : Option ((List (Bool × (List Int) × Int × Bool × (List Int) × Int)) × Bool) :=
 br x3
  (some ([], false))
  ((laws_flatPoints_l1 a1 a0 k 0) >>= fun y1 => match y1 with
   | (.inl v5) =>
    (some ([], false))
   | (.inr v6) =>
    ((spec_Places k a1 a0) >>= fun r48 =>
    some (r48, true)))
def laws_flatPoints_j2 (k : Nat) (a1 : List Nat) (a0 : Int) (x2 : Bool) : Option ((List (Bool × (List Int) × Int × Bool × (List Int) × Int)) × Bool) :=
 br x2
  (laws_flatPoints_j3 k a1 a0 true)
  (laws_flatPoints_j3 k a1 a0 (decide ((imul .i64 60 a0) < (a1.length : Int))))
def laws_flatPoints_j1 (k : Nat) (a1 : List Nat) (a0 : Int) (x1 : Bool) : Option ((List (Bool × (List Int) × Int × Bool × (List Int) × Int)) × Bool) :=
 br x1
  (laws_flatPoints_j2 k a1 a0 true)
  ((irem (a1.length : Int) a0) >>= fun r17 =>
  laws_flatPoints_j2 k a1 a0 (!decide (r17 = 0)))
def laws_flatPoints (k : Nat) (a0 : Int) (a1 : List Nat) : Option ((List (Bool × (List Int) × Int × Bool × (List Int) × Int)) × Bool) :=
 br (decide (a0 < 2))
  (laws_flatPoints_j1 k a1 a0 true)
  (laws_flatPoints_j1 k a1 a0 (decide (8 < a0)))

theorem laws_flatPoints_sim {k : Nat}  (a0 : Int) (a1 : List Nat) {out : (List (Bool × (List Int) × Int × Bool × (List Int) × Int)) × Bool} (hp : laws_flatPoints k a0 a1 = some out) : Sx.Fn Try.prog 33 [(Vi a0), (Sl Kf a1)] [] (fun w : Unit => (Tu [(Sl KT96 out.1), (Vb out.2)])) (fun w => []) := by
 unfold laws_flatPoints at hp
 refine fn_of Try.func33 rfl Try.ntmps33 rfl fun E hM => ?_
 refine cr fun K1 hK1 => ?_
 refine s0 (rd_assign' rfl) ?_
 refine s0 (rd_assign' rfl) ?_
 refine nk hK1 ?_
 refine cx_seq' fun K2 hK2 => ?_
 refine cr fun K3 hK3 => ?_
 refine s0 (rd_move' rfl) ?_
 refine s0 (rd_bin' rfl rfl eg_int ru_lss) ?_
 refine s0 (rd_move' rfl) ?_
 refine sx_cutn' 3 (fun (v1 : Bool) => (⟨49, [], [(0, (Vi a0)), (1, (Sl Kf a1)), (12, (Vb v1))], []⟩ : St)) (fun (v1 : Bool) => laws_flatPoints_j1 k a1 a0 v1 = some out) ?_ ?_
 ·rintro x1 hp
  replace hp : laws_flatPoints_j1 k a1 a0 x1 = some out := hp
  unfold laws_flatPoints_j1 at hp
  refine s0 (rd_move' rfl) ?_
  refine sx_cutn' 6 (fun (v2 : Bool) => (⟨49, [], [(0, (Vi a0)), (1, (Sl Kf a1)), (19, (Vb v2))], []⟩ : St)) (fun (v2 : Bool) => laws_flatPoints_j2 k a1 a0 v2 = some out) ?_ ?_
  ·rintro x2 hp
   replace hp : laws_flatPoints_j2 k a1 a0 x2 = some out := hp
   unfold laws_flatPoints_j2 at hp
   refine s0 (rd_move' rfl) ?_
   refine sx_cutn' 6 (fun (v3 : Bool) => (⟨49, [], [(0, (Vi a0)), (1, (Sl Kf a1)), (26, (Vb v3))], []⟩ : St)) (fun (v3 : Bool) => laws_flatPoints_j3 k a1 a0 v3 = some out) ?_ ?_
   ·rintro x3 hp
    replace hp : laws_flatPoints_j3 k a1 a0 x3 = some out := hp
    unfold laws_flatPoints_j3 at hp
    refine nk hK3 ?_
    refine cx_cond' rfl (fun h4 => ?_) (fun h4 => ?_)
    ·replace hp := (br_t h4).symm.trans hp
     refine cr fun K7 hK7 => ?_
     refine s0 (rd_assign' rfl) ?_
     refine s0 (rd_assign' rfl) ?_
     refine nk hK7 ?_
     refine cx_retc' ?_
     replace hp := Option.some.inj hp
     subst hp
     refine tx_pick' (L' := [(4, Vn), (5, (Vb false))]) (H' := []) [] (sub_cons rfl (sub_cons rfl sub_nil)) (by decide) pick_nil ?_
     exact tx_ret2' Try.results33 rfl () (rv_imp' (x := Vn) (y := (Sl KT96 [])) (rv_tmp' rfl) imp_nil) (rv_tmp' rfl) rfl (List.Sublist.refl _)
    replace hp := (br_f h4).symm.trans hp
    refine cx_skip' ?_
    show TX E K2 _
    refine tx_k' hK2 ?_
    refine cx_seq' fun K8 hK8 => ?_
    refine cr fun K9 hK9 => ?_
    refine s0 (rd_assign' rfl) ?_
    refine nk hK9 ?_
    refine cx_block' ?_
    obtain ⟨y1, hy1, hp⟩ := bind_some hp
    refine cx_loopg' (F := laws_flatPoints_l1 a1 a0) (G := fun k R v => laws_flatPoints_l1s a1 a0 k R v) (x := 0) (gh := ()) (fun (v4 : Int) (w4 : Unit) => (⟨49, [], [(0, (Vi a0)), (1, (Sl Kf a1)), (6, (Vi v4))], []⟩ : St)) (fun (y : Unit ⊕ Unit) => match y with | (.inl v5) => Zg E Exit.ret (fun (w5 : Unit) => (⟨49, [], [(4, Vn), (5, (Vb false))], []⟩ : St)) | (.inr v6) => Zg E (Exit.exit 0) (fun (w6 : Unit) => (⟨49, [], [(0, (Vi a0)), (1, (Sl Kf a1))], []⟩ : St))) (fun _ => rfl) (fun _ _ => rfl) ?_ hy1 (tx_to' rfl [] (sub_cons rfl (sub_cons rfl (sub_cons rfl sub_nil))) (by decide) pick_nil) ?_
    ·clear hp hy1
     clear y1
     intro k rec1 KY1 ih1
     rintro x4 ⟨⟩ y1 hp
     replace hp : laws_flatPoints_l1s a1 a0 k rec1 x4 = some y1 := hp
     unfold laws_flatPoints_l1s at hp
     refine cx_seq' fun K15 hK15 => ?_
     refine cr fun K16 hK16 => ?_
     refine s0 (rd_move' rfl) ?_
     refine s0 (rd_move' rfl) ?_
     refine s0 (rd_len' rfl Try.underlying22) ?_
     refine s0 (rd_bin' rfl rfl eg_int ru_lss) ?_
     refine nk hK16 ?_
     refine cx_cond' rfl (fun h8 => ?_) (fun h8 => ?_)
     ·replace hp := (br_t h8).symm.trans hp
      refine cx_skip' ?_
      show TX E K15 _
      refine tx_k' hK15 ?_
      refine cx_seq' fun K17 hK17 => ?_
      refine cx_block' ?_
      refine cx_seq' fun K18 hK18 => ?_
      refine cx_plan' [] [] [(0, 1), (1, 1), (2, 1), (3, 1), (4, 1), (5, 1), (6, 1), (7, 1), (8, 1), (9, 0), (10, 0), (11, 1)] mixed (by kernel_rfl) ?_
      refine px_rd' rfl (rd_move' rfl) rfl rfl (wt_none' rfl) ?_
      refine px_rd' rfl (rd_move' rfl) rfl rfl (wt_none' rfl) ?_
      obtain ⟨r36, hr36, hp⟩ := bind_some hp
      refine px_rd' rfl (rd_at' (K := Kf) rfl rfl hr36 Try.underlying22 info38) rfl rfl (wt_none' rfl) ?_
      refine px_rd' rfl (rd_load_pt' rfl rfl flat38) rfl rfl (wt_none' rfl) ?_
      refine px_rd' rfl (rd_move' rfl) rfl rfl (wt_none' rfl) ?_
      refine px_rd' rfl (rd_move' rfl) rfl rfl (wt_none' rfl) ?_
      refine px_rd' rfl (rd_bin' rfl rfl eg_int ru_add) rfl rfl (wt_none' rfl) ?_
      obtain ⟨r41, hr41, hp⟩ := bind_some hp
      refine px_rd' rfl (rd_at' (K := Kf) rfl rfl hr41 Try.underlying22 info38) rfl rfl (wt_none' rfl) ?_
      refine px_rd' rfl (rd_load_pt' rfl rfl flat38) rfl rfl (wt_none' rfl) ?_
      refine px_ox' rfl (ox_rowlit' (K := Kf) (xs := [r36, r41]) (qs := [(0, [(Vg r36)]), (1, [(Vg r41)])]) ⟨rfl, ⟨_, rfl, (lv_vl rfl rfl)⟩, ⟨rfl, ⟨_, rfl, (lv_vl rfl rfl)⟩, trivial⟩⟩ Try.underlying22 info38 rfl rfl rfl rfl rfl (by kernel_rfl) rfl rfl rfl) rfl bs_nil (wt_none' rfl) fun g43 => ?_
      obtain ⟨r44, hr44, hp⟩ := bind_some hp
      refine px_ox' rfl (ox_brw' (frz_row 0 [(43, (Vl (Vs g43)), (Sl Kf ([r36, r41])))] (K := Kf) (xs := [r36, r41]) (by decide) rfl ⟨⟨rfl, frz_it⟩, trivial⟩ (H' := []) frzH_refl) (ent_fn' Try.func68 isn68 rfl rfl) (laws_wholeTo_sim _ _ hr44 : Sx.Fn Try.prog 68 [(Vg 4665729213955833856), (Sl Kf ([r36, r41]))] [] (fun x : Unit => (Vb r44)) (fun x => [])) pu_vl rfl rfl) rfl bs_nil (wt_none' rfl) fun ⟨⟩ => ?_
      refine px_rd' rfl (rd_un' rfl ru_not) rfl rfl (wt_none' rfl) ?_
      refine px_nil' ?_
      show TX E K18 _
      refine tx_k' hK18 ?_
      refine cx_cond' rfl (fun h9 => ?_) (fun h9 => ?_)
      ·replace hp := (br_t h9).symm.trans hp
       refine cr fun K19 hK19 => ?_
       refine s0 (rd_assign' rfl) ?_
       refine s0 (rd_assign' rfl) ?_
       refine nk hK19 ?_
       refine cx_retc' ?_
       replace hp := Option.some.inj hp
       subst hp
       show TX E (Zg E Exit.ret _ Exit.ret) _
       exact tx_zend' () rfl [] (sub_cons rfl (sub_cons rfl sub_nil)) (by decide) pick_nil
      replace hp := (br_f h9).symm.trans hp
      refine cx_skip' ?_
      show TX E K17 _
      refine tx_k' hK17 ?_
      refine cx_region' ?_
      refine s0 (rd_move' rfl) ?_
      refine s0 (rd_move' rfl) ?_
      refine s0 (rd_bin' rfl rfl eg_int ru_add) ?_
      refine s0 (rd_assign' rfl) ?_
      refine sx_nil' ?_
      show TX E (KY1 _) _
      exact tx_pick' [] (sub_cons rfl (sub_cons rfl (sub_cons rfl sub_nil))) (by decide) pick_nil (ih1 (iadd .i64 x4 a0) () _ hp)
     replace hp := (br_f h8).symm.trans hp
     refine cx_exit' ?_
     replace hp := Option.some.inj hp
     subst hp
     show TX E (Zg E (Exit.exit 0) _ (Exit.exit 0)) _
     exact tx_zend' () rfl [] (sub_cons rfl (sub_cons rfl sub_nil)) (by decide) pick_nil
    rcases y1 with v5 | v6
    ·dsimp only at hp
     refine zg_out fun w5 => ?_
     replace hp := Option.some.inj hp
     subst hp
     refine tx_pick' (L' := [(4, Vn), (5, (Vb false))]) (H' := []) [] (sub_cons rfl (sub_cons rfl sub_nil)) (by decide) pick_nil ?_
     exact tx_ret2' Try.results33 rfl () (rv_imp' (x := Vn) (y := (Sl KT96 [])) (rv_tmp' rfl) imp_nil) (rv_tmp' rfl) rfl (List.Sublist.refl _)
    dsimp only at hp
    refine zg_out fun w6 => ?_
    show TX E K8 _
    refine tx_k' hK8 ?_
    refine cr fun K20 hK20 => ?_
    refine s0 (rd_move' rfl) ?_
    refine s0 (rd_move' rfl) ?_
    obtain ⟨r48, hr48, hp⟩ := bind_some hp
    refine sx_ox' (ox_calln' (ent_fn' Try.func69 isn69 rfl rfl) (spec_Places_sim _ _ hr48 : Sx.Fn Try.prog 69 [(Sl Kf a1), (Vi a0)] [] (fun x : Unit => (Sl KT96 r48)) (fun x => [])) (Hn := fun x : Unit => []) (fun _ => rfl) rfl rfl) (wt_none' rfl) fun ⟨⟩ => ?_
    refine s0 (rd_assign' rfl) ?_
    refine s0 (rd_assign' rfl) ?_
    refine nk hK20 ?_
    refine cx_retc' ?_
    replace hp := Option.some.inj hp
    subst hp
    refine tx_pick' (L' := [(4, (Sl KT96 r48)), (5, (Vb true))]) (H' := []) [] (sub_cons rfl (sub_cons rfl sub_nil)) (by decide) pick_nil ?_
    exact tx_ret2' Try.results33 rfl () (rv_tmp' rfl) (rv_tmp' rfl) rfl (List.Sublist.refl _)
   intro K6 hK6
   rcases br_cases hp with ⟨h3, hp⟩ | ⟨h3, hp⟩
   ·refine sx_skip' rfl rfl (wt_is' (wt_guard' rfl rfl rfl) (beq_tf h3)) ?_
    refine sx_skip' rfl rfl (wt_is' (wt_guard' rfl rfl rfl) (beq_tf h3)) ?_
    refine sx_skip' rfl rfl (wt_is' (wt_guard' rfl rfl rfl) (beq_tf h3)) ?_
    refine sx_skip' rfl rfl (wt_is' (wt_guard' rfl rfl rfl) (beq_tf h3)) ?_
    refine sx_skip' rfl rfl (wt_is' (wt_guard' rfl rfl rfl) (beq_tf h3)) ?_
    refine s0 (rd_pick_true' rfl h3 rfl) ?_
    refine sx_nil' ?_
    show TX E K6 _
    exact tx_pick' [] (sub_cons rfl (sub_cons rfl (sub_cons rfl sub_nil))) (by decide) pick_nil (hK6 true hp)
   refine sx_rd' (rd_move' rfl) rfl rfl (wt_is' (wt_guard' rfl rfl rfl) (beq_ff h3)) ?_
   refine sx_rd' (rd_len' rfl Try.underlying22) rfl rfl (wt_is' (wt_guard' rfl rfl rfl) (beq_ff h3)) ?_
   refine sx_rd' (rd_move' rfl) rfl rfl (wt_is' (wt_guard' rfl rfl rfl) (beq_ff h3)) ?_
   refine sx_rd' (rd_bin' rfl rfl eg_int ru_mul) rfl rfl (wt_is' (wt_guard' rfl rfl rfl) (beq_ff h3)) ?_
   refine sx_rd' (rd_bin' rfl rfl eg_int ru_gtr) rfl rfl (wt_is' (wt_guard' rfl rfl rfl) (beq_ff h3)) ?_
   refine s0 (rd_pick_false' rfl h3 rfl) ?_
   refine sx_nil' ?_
   show TX E K6 _
   exact tx_pick' [] (sub_cons rfl (sub_cons rfl (sub_cons rfl sub_nil))) (by decide) pick_nil (hK6 (decide ((imul .i64 60 a0) < (a1.length : Int))) hp)
  intro K5 hK5
  rcases br_cases hp with ⟨h2, hp⟩ | ⟨h2, hp⟩
  ·refine sx_skip' rfl rfl (wt_is' (wt_guard' rfl rfl rfl) (beq_tf h2)) ?_
   refine sx_skip' rfl rfl (wt_is' (wt_guard' rfl rfl rfl) (beq_tf h2)) ?_
   refine sx_skip' rfl rfl (wt_is' (wt_guard' rfl rfl rfl) (beq_tf h2)) ?_
   refine sx_skip' rfl rfl (wt_is' (wt_guard' rfl rfl rfl) (beq_tf h2)) ?_
   refine sx_skip' rfl rfl (wt_is' (wt_guard' rfl rfl rfl) (beq_tf h2)) ?_
   refine s0 (rd_pick_true' rfl h2 rfl) ?_
   refine sx_nil' ?_
   show TX E K5 _
   exact tx_pick' [] (sub_cons rfl (sub_cons rfl (sub_cons rfl sub_nil))) (by decide) pick_nil (hK5 true hp)
  refine sx_rd' (rd_move' rfl) rfl rfl (wt_is' (wt_guard' rfl rfl rfl) (beq_ff h2)) ?_
  refine sx_rd' (rd_len' rfl Try.underlying22) rfl rfl (wt_is' (wt_guard' rfl rfl rfl) (beq_ff h2)) ?_
  refine sx_rd' (rd_move' rfl) rfl rfl (wt_is' (wt_guard' rfl rfl rfl) (beq_ff h2)) ?_
  obtain ⟨r17, hr17, hp⟩ := bind_some hp
  refine sx_rd' (rd_bin' rfl rfl eg_int (ru_rem hr17)) rfl rfl (wt_is' (wt_guard' rfl rfl rfl) (beq_ff h2)) ?_
  refine sx_rd' (rd_bin' rfl rfl eg_int ru_neq) rfl rfl (wt_is' (wt_guard' rfl rfl rfl) (beq_ff h2)) ?_
  refine s0 (rd_pick_false' rfl h2 rfl) ?_
  refine sx_nil' ?_
  show TX E K5 _
  exact tx_pick' [] (sub_cons rfl (sub_cons rfl (sub_cons rfl sub_nil))) (by decide) pick_nil (hK5 (!decide (r17 = 0)) hp)
 intro K4 hK4
 rcases br_cases hp with ⟨h1, hp⟩ | ⟨h1, hp⟩
 ·refine sx_skip' rfl rfl (wt_is' (wt_guard' rfl rfl rfl) (beq_tf h1)) ?_
  refine sx_skip' rfl rfl (wt_is' (wt_guard' rfl rfl rfl) (beq_tf h1)) ?_
  refine s0 (rd_pick_true' rfl h1 rfl) ?_
  refine sx_nil' ?_
  show TX E K4 _
  exact tx_pick' [] (sub_cons rfl (sub_cons rfl (sub_cons rfl sub_nil))) (by decide) pick_nil (hK4 true hp)
 refine sx_rd' (rd_move' rfl) rfl rfl (wt_is' (wt_guard' rfl rfl rfl) (beq_ff h1)) ?_
 refine sx_rd' (rd_bin' rfl rfl eg_int ru_gtr) rfl rfl (wt_is' (wt_guard' rfl rfl rfl) (beq_ff h1)) ?_
 refine s0 (rd_pick_false' rfl h1 rfl) ?_
 refine sx_nil' ?_
 show TX E K4 _
 exact tx_pick' [] (sub_cons rfl (sub_cons rfl (sub_cons rfl sub_nil))) (by decide) pick_nil (hK4 (decide (8 < a0)) hp)

def xy_distanceFromSegmentSquared_j2 (k : Nat) (a2 : List Nat) (x2 : Nat) (x3 : Nat) : Option (Nat) :=
 (idx a2 0) >>= fun r78 =>
 (some (gsub r78 x2)) >>= fun r81 =>
 (idx a2 1) >>= fun r83 =>
 (some (gsub r83 x3)) >>= fun r86 =>
 (some (gmul r81 r81)) >>= fun r89 =>
 (some (gmul r86 r86)) >>= fun r92 =>
 (some (gadd r89 r92)) >>= fun r93 =>
 some r93
def xy_distanceFromSegmentSquared_j1 (k : Nat) (a2 : List Nat) (r13 : Nat) (r22 : Nat) (r16 : Nat) (r27 : Nat) (a1 : List Nat) (x1 : Bool) : Option (Nat) :=
 br x1
  ((idx a2 0) >>= fun r35 =>
  (fsub r35 r13) >>= fun r38 =>
  (num r22) >>= fun u1 =>
  (fmul r38 r22) >>= fun r40 =>
  (idx a2 1) >>= fun r42 =>
  (fsub r42 r16) >>= fun r45 =>
  (num r27) >>= fun u2 =>
  (fmul r45 r27) >>= fun r47 =>
  (fadd r40 r47) >>= fun r48 =>
  (num r22) >>= fun u3 =>
  (num r22) >>= fun u4 =>
  (fmul r22 r22) >>= fun r51 =>
  (num r27) >>= fun u5 =>
  (num r27) >>= fun u6 =>
  (fmul r27 r27) >>= fun r54 =>
  (fadd r51 r54) >>= fun r55 =>
  (fdiv r48 r55) >>= fun r56 =>
  br (fgt r56 4607182418800017408)
   ((idx a1 0) >>= fun r60 =>
   (idx a1 1) >>= fun r63 =>
   xy_distanceFromSegmentSquared_j2 k a2 r60 r63)
   (br (fgt r56 0)
    ((some (gmul r22 r56)) >>= fun r70 =>
    (some (gadd r13 r70)) >>= fun r71 =>
    (some (gmul r27 r56)) >>= fun r75 =>
    (some (gadd r16 r75)) >>= fun r76 =>
    xy_distanceFromSegmentSquared_j2 k a2 r71 r76)
    (xy_distanceFromSegmentSquared_j2 k a2 r13 r16)))
  (xy_distanceFromSegmentSquared_j2 k a2 r13 r16)
def xy_distanceFromSegmentSquared (k : Nat) (a0 : List Nat) (a1 : List Nat) (a2 : List Nat) : Option (Nat) :=
 (idx a0 0) >>= fun r13 =>
 (idx a0 1) >>= fun r16 =>
 (idx a1 0) >>= fun r19 =>
 (some (gsub r19 r13)) >>= fun r22 =>
 (idx a1 1) >>= fun r24 =>
 (some (gsub r24 r16)) >>= fun r27 =>
 br (fne r22 0)
  (xy_distanceFromSegmentSquared_j1 k a2 r13 r22 r16 r27 a1 true)
  (xy_distanceFromSegmentSquared_j1 k a2 r13 r22 r16 r27 a1 (fne r27 0))

theorem xy_distanceFromSegmentSquared_sim {k : Nat}  (a0 : List Nat) (a1 : List Nat) (a2 : List Nat) {out : Nat} (hp : xy_distanceFromSegmentSquared k a0 a1 a2 = some out) : Sx.Fn Try.prog 140 [(Sl Kf a0), (Sl Kf a1), (Sl Kf a2)] [] (fun w : Unit => (Fl out)) (fun w => []) := by
 unfold xy_distanceFromSegmentSquared at hp
 refine fn_of Try.func140 rfl Try.ntmps140 rfl fun E hM => ?_
 refine cr fun K1 hK1 => ?_
 refine s0 (rd_assign' rfl) ?_
 refine nk hK1 ?_
 refine cr fun K2 hK2 => ?_
 refine s0 (rd_move' rfl) ?_
 obtain ⟨r13, hr13, hp⟩ := bind_some hp
 refine s0 (rd_at' (K := Kf) rfl rfl hr13 Try.underlying22 info38) ?_
 refine s0 (rd_load_pt' rfl rfl flat38) ?_
 refine s0 (rd_assign' rfl) ?_
 refine nk hK2 ?_
 refine cr fun K3 hK3 => ?_
 refine s0 (rd_move' rfl) ?_
 obtain ⟨r16, hr16, hp⟩ := bind_some hp
 refine s0 (rd_at' (K := Kf) rfl rfl hr16 Try.underlying22 info38) ?_
 refine s0 (rd_load_pt' rfl rfl flat38) ?_
 refine s0 (rd_assign' rfl) ?_
 refine nk hK3 ?_
 refine cr fun K4 hK4 => ?_
 refine s0 (rd_move' rfl) ?_
 obtain ⟨r19, hr19, hp⟩ := bind_some hp
 refine s0 (rd_at' (K := Kf) rfl rfl hr19 Try.underlying22 info38) ?_
 refine s0 (rd_load_pt' rfl rfl flat38) ?_
 refine s0 (rd_move' rfl) ?_
 obtain ⟨r22, hr22, hp⟩ := bind_some hp
 refine sx_ox' (ox_fop' (.inr (.inl rfl)) (fl_v rfl) (fl_v rfl) (Option.some.inj hr22) rfl rfl) (wt_none' rfl) fun _ => ?_
 refine s0 (rd_assign' rfl) ?_
 refine nk hK4 ?_
 refine cr fun K5 hK5 => ?_
 refine s0 (rd_move' rfl) ?_
 obtain ⟨r24, hr24, hp⟩ := bind_some hp
 refine s0 (rd_at' (K := Kf) rfl rfl hr24 Try.underlying22 info38) ?_
 refine s0 (rd_load_pt' rfl rfl flat38) ?_
 refine s0 (rd_move' rfl) ?_
 obtain ⟨r27, hr27, hp⟩ := bind_some hp
 refine sx_ox' (ox_fop' (.inr (.inl rfl)) (fl_v rfl) (fl_v rfl) (Option.some.inj hr27) rfl rfl) (wt_none' rfl) fun _ => ?_
 refine s0 (rd_assign' rfl) ?_
 refine nk hK5 ?_
 refine cx_join' (fun (v2 : Nat × Nat) => (⟨94, [], [(2, (Sl Kf a2)), (7, (Fl v2.1)), (8, (Fl v2.2))], []⟩ : St)) (fun (v2 : Nat × Nat) => xy_distanceFromSegmentSquared_j2 k a2 v2.1 v2.2 = some out) ?_ ?_
 ·rintro ⟨x2, x3⟩ hp
  replace hp : xy_distanceFromSegmentSquared_j2 k a2 x2 x3 = some out := hp
  unfold xy_distanceFromSegmentSquared_j2 at hp
  refine cr fun K14 hK14 => ?_
  refine s0 (rd_move' rfl) ?_
  obtain ⟨r78, hr78, hp⟩ := bind_some hp
  refine s0 (rd_at' (K := Kf) rfl rfl hr78 Try.underlying22 info38) ?_
  refine s0 (rd_load_pt' rfl rfl flat38) ?_
  refine s0 (rd_move' rfl) ?_
  obtain ⟨r81, hr81, hp⟩ := bind_some hp
  refine sx_ox' (ox_fop' (.inr (.inl rfl)) (fl_v rfl) (fl_f rfl) (Option.some.inj hr81) rfl rfl) (wt_none' rfl) fun _ => ?_
  refine s0 (rd_assign' rfl) ?_
  refine nk hK14 ?_
  refine cr fun K15 hK15 => ?_
  refine s0 (rd_move' rfl) ?_
  obtain ⟨r83, hr83, hp⟩ := bind_some hp
  refine s0 (rd_at' (K := Kf) rfl rfl hr83 Try.underlying22 info38) ?_
  refine s0 (rd_load_pt' rfl rfl flat38) ?_
  refine s0 (rd_move' rfl) ?_
  obtain ⟨r86, hr86, hp⟩ := bind_some hp
  refine sx_ox' (ox_fop' (.inr (.inl rfl)) (fl_v rfl) (fl_f rfl) (Option.some.inj hr86) rfl rfl) (wt_none' rfl) fun _ => ?_
  refine s0 (rd_assign' rfl) ?_
  refine nk hK15 ?_
  refine cr fun K16 hK16 => ?_
  refine s0 (rd_move' rfl) ?_
  refine s0 (rd_move' rfl) ?_
  obtain ⟨r89, hr89, hp⟩ := bind_some hp
  refine sx_ox' (ox_fop' (.inr (.inr (.inl rfl))) (fl_f rfl) (fl_f rfl) (Option.some.inj hr89) rfl rfl) (wt_none' rfl) fun _ => ?_
  refine s0 (rd_move' rfl) ?_
  refine s0 (rd_move' rfl) ?_
  obtain ⟨r92, hr92, hp⟩ := bind_some hp
  refine sx_ox' (ox_fop' (.inr (.inr (.inl rfl))) (fl_f rfl) (fl_f rfl) (Option.some.inj hr92) rfl rfl) (wt_none' rfl) fun _ => ?_
  obtain ⟨r93, hr93, hp⟩ := bind_some hp
  refine sx_ox' (ox_fop' (.inl rfl) (fl_f rfl) (fl_f rfl) (Option.some.inj hr93) rfl rfl) (wt_none' rfl) fun _ => ?_
  refine s0 (rd_assign' rfl) ?_
  refine nk hK16 ?_
  refine cx_retc' ?_
  replace hp := Option.some.inj hp
  subst hp
  refine tx_pick' (L' := [(6, (Fl r93))]) (H' := []) [] (sub_cons rfl sub_nil) (by decide) pick_nil ?_
  exact tx_ret1' Try.results140 rfl () (rv_tmp' rfl) (List.Sublist.refl _)
 intro K6 hK6
 refine cr fun K7 hK7 => ?_
 refine s0 (rd_move' rfl) ?_
 refine s0 (rd_fcmp' (fl_f rfl) (fl_v rfl) rfl) ?_
 refine s0 (rd_move' rfl) ?_
 refine sx_cutn' 3 (fun (v1 : Bool) => (⟨94, [], [(1, (Sl Kf a1)), (2, (Sl Kf a2)), (7, (Vg r13)), (8, (Vg r16)), (9, (Fl r22)), (10, (Fl r27)), (33, (Vb v1))], []⟩ : St)) (fun (v1 : Bool) => xy_distanceFromSegmentSquared_j1 k a2 r13 r22 r16 r27 a1 v1 = some out) ?_ ?_
 ·rintro x1 hp
  replace hp : xy_distanceFromSegmentSquared_j1 k a2 r13 r22 r16 r27 a1 x1 = some out := hp
  unfold xy_distanceFromSegmentSquared_j1 at hp
  refine nk hK7 ?_
  refine cx_cond' rfl (fun h2 => ?_) (fun h2 => ?_)
  ·replace hp := (br_t h2).symm.trans hp
   refine cx_seq' fun K9 hK9 => ?_
   refine cx_draw' mixed (by kernel_rfl) ?_
   refine qx_rd' (rd_move' rfl) rfl rfl (wt_none' rfl) ?_
   obtain ⟨r35, hr35, hp⟩ := bind_some hp
   refine qx_rd' (rd_at' (K := Kf) rfl rfl hr35 Try.underlying22 info38) rfl rfl (wt_none' rfl) ?_
   refine qx_rd' (rd_load_pt' rfl rfl flat38) rfl rfl (wt_none' rfl) ?_
   refine qx_rd' (rd_move' rfl) rfl rfl (wt_none' rfl) ?_
   obtain ⟨r38, hr38, hp⟩ := bind_some hp
   refine qx_rd' (rd_bin' rfl rfl eg_flt (ru_fsub hr38)) rfl rfl (wt_none' rfl) ?_
   refine qx_rd' (rd_move' rfl) rfl rfl (wt_none' rfl) ?_
   obtain ⟨u1, hu1, hp⟩ := bind_some hp
   refine tq_slot' 39 (y := (Vg r22)) rfl (imp_num (num_some hu1).2) ?_
   obtain ⟨r40, hr40, hp⟩ := bind_some hp
   refine qx_rd' (rd_bin' rfl rfl eg_flt (ru_fmul hr40)) rfl rfl (wt_none' rfl) ?_
   refine qx_rd' (rd_move' rfl) rfl rfl (wt_none' rfl) ?_
   obtain ⟨r42, hr42, hp⟩ := bind_some hp
   refine qx_rd' (rd_at' (K := Kf) rfl rfl hr42 Try.underlying22 info38) rfl rfl (wt_none' rfl) ?_
   refine qx_rd' (rd_load_pt' rfl rfl flat38) rfl rfl (wt_none' rfl) ?_
   refine qx_rd' (rd_move' rfl) rfl rfl (wt_none' rfl) ?_
   obtain ⟨r45, hr45, hp⟩ := bind_some hp
   refine qx_rd' (rd_bin' rfl rfl eg_flt (ru_fsub hr45)) rfl rfl (wt_none' rfl) ?_
   refine qx_rd' (rd_move' rfl) rfl rfl (wt_none' rfl) ?_
   obtain ⟨u2, hu2, hp⟩ := bind_some hp
   refine tq_slot' 46 (y := (Vg r27)) rfl (imp_num (num_some hu2).2) ?_
   obtain ⟨r47, hr47, hp⟩ := bind_some hp
   refine qx_rd' (rd_bin' rfl rfl eg_flt (ru_fmul hr47)) rfl rfl (wt_none' rfl) ?_
   obtain ⟨r48, hr48, hp⟩ := bind_some hp
   refine qx_rd' (rd_bin' rfl rfl eg_flt (ru_fadd hr48)) rfl rfl (wt_none' rfl) ?_
   refine qx_rd' (rd_move' rfl) rfl rfl (wt_none' rfl) ?_
   refine qx_rd' (rd_move' rfl) rfl rfl (wt_none' rfl) ?_
   obtain ⟨u3, hu3, hp⟩ := bind_some hp
   refine tq_slot' 49 (y := (Vg r22)) rfl (imp_num (num_some hu3).2) ?_
   obtain ⟨u4, hu4, hp⟩ := bind_some hp
   refine tq_slot' 50 (y := (Vg r22)) rfl (imp_num (num_some hu4).2) ?_
   obtain ⟨r51, hr51, hp⟩ := bind_some hp
   refine qx_rd' (rd_bin' rfl rfl eg_flt (ru_fmul hr51)) rfl rfl (wt_none' rfl) ?_
   refine qx_rd' (rd_move' rfl) rfl rfl (wt_none' rfl) ?_
   refine qx_rd' (rd_move' rfl) rfl rfl (wt_none' rfl) ?_
   obtain ⟨u5, hu5, hp⟩ := bind_some hp
   refine tq_slot' 52 (y := (Vg r27)) rfl (imp_num (num_some hu5).2) ?_
   obtain ⟨u6, hu6, hp⟩ := bind_some hp
   refine tq_slot' 53 (y := (Vg r27)) rfl (imp_num (num_some hu6).2) ?_
   obtain ⟨r54, hr54, hp⟩ := bind_some hp
   refine qx_rd' (rd_bin' rfl rfl eg_flt (ru_fmul hr54)) rfl rfl (wt_none' rfl) ?_
   obtain ⟨r55, hr55, hp⟩ := bind_some hp
   refine qx_rd' (rd_bin' rfl rfl eg_flt (ru_fadd hr55)) rfl rfl (wt_none' rfl) ?_
   obtain ⟨r56, hr56, hp⟩ := bind_some hp
   refine qx_rd' (rd_bin' rfl rfl eg_flt (ru_fdiv hr56)) rfl rfl (wt_none' rfl) ?_
   refine qx_rd' (rd_assign' rfl) rfl rfl (wt_none' rfl) ?_
   refine qx_nil' ?_
   show TX E K9 _
   refine tx_k' hK9 ?_
   refine cr fun K10 hK10 => ?_
   refine s0 (rd_move' rfl) ?_
   refine s0 (rd_bin' rfl rfl eg_flt ru_fgt) ?_
   refine nk hK10 ?_
   refine cx_cond' rfl (fun h3 => ?_) (fun h3 => ?_)
   ·replace hp := (br_t h3).symm.trans hp
    refine cr fun K11 hK11 => ?_
    refine s0 (rd_move' rfl) ?_
    obtain ⟨r60, hr60, hp⟩ := bind_some hp
    refine s0 (rd_at' (K := Kf) rfl rfl hr60 Try.underlying22 info38) ?_
    refine s0 (rd_load_pt' rfl rfl flat38) ?_
    refine s0 (rd_assign' rfl) ?_
    refine nk hK11 ?_
    refine cx_region' ?_
    refine s0 (rd_move' rfl) ?_
    obtain ⟨r63, hr63, hp⟩ := bind_some hp
    refine s0 (rd_at' (K := Kf) rfl rfl hr63 Try.underlying22 info38) ?_
    refine s0 (rd_load_pt' rfl rfl flat38) ?_
    refine s0 (rd_assign' rfl) ?_
    refine sx_nil' ?_
    show TX E K6 _
    refine tx_slot' 7 (y := (Fl r60)) rfl imp_vf ?_
    refine tx_slot' 8 (y := (Fl r63)) rfl imp_vf ?_
    exact tx_pick' [] (sub_cons rfl (sub_cons rfl (sub_cons rfl sub_nil))) (by decide) pick_nil (hK6 (r60, r63) hp)
   replace hp := (br_f h3).symm.trans hp
   refine cr fun K12 hK12 => ?_
   refine s0 (rd_move' rfl) ?_
   refine s0 (rd_bin' rfl rfl eg_flt ru_fgt) ?_
   refine nk hK12 ?_
   refine cx_cond' rfl (fun h4 => ?_) (fun h4 => ?_)
   ·replace hp := (br_t h4).symm.trans hp
    refine cr fun K13 hK13 => ?_
    refine s0 (rd_move' rfl) ?_
    refine s0 (rd_move' rfl) ?_
    refine s0 (rd_move' rfl) ?_
    obtain ⟨r70, hr70, hp⟩ := bind_some hp
    refine sx_ox' (ox_fop' (.inr (.inr (.inl rfl))) (fl_f rfl) (fl_v rfl) (Option.some.inj hr70) rfl rfl) (wt_none' rfl) fun _ => ?_
    obtain ⟨r71, hr71, hp⟩ := bind_some hp
    refine sx_ox' (ox_fop' (.inl rfl) (fl_v rfl) (fl_f rfl) (Option.some.inj hr71) rfl rfl) (wt_none' rfl) fun _ => ?_
    refine s0 (rd_assign' rfl) ?_
    refine nk hK13 ?_
    refine cx_region' ?_
    refine s0 (rd_move' rfl) ?_
    refine s0 (rd_move' rfl) ?_
    refine s0 (rd_move' rfl) ?_
    obtain ⟨r75, hr75, hp⟩ := bind_some hp
    refine sx_ox' (ox_fop' (.inr (.inr (.inl rfl))) (fl_f rfl) (fl_v rfl) (Option.some.inj hr75) rfl rfl) (wt_none' rfl) fun _ => ?_
    obtain ⟨r76, hr76, hp⟩ := bind_some hp
    refine sx_ox' (ox_fop' (.inl rfl) (fl_v rfl) (fl_f rfl) (Option.some.inj hr76) rfl rfl) (wt_none' rfl) fun _ => ?_
    refine s0 (rd_assign' rfl) ?_
    refine sx_nil' ?_
    show TX E K6 _
    exact tx_pick' [] (sub_cons rfl (sub_cons rfl (sub_cons rfl sub_nil))) (by decide) pick_nil (hK6 (r71, r76) hp)
   replace hp := (br_f h4).symm.trans hp
   refine cx_skip' ?_
   show TX E K6 _
   refine tx_slot' 7 (y := (Fl r13)) rfl imp_vf ?_
   refine tx_slot' 8 (y := (Fl r16)) rfl imp_vf ?_
   exact tx_pick' [] (sub_cons rfl (sub_cons rfl (sub_cons rfl sub_nil))) (by decide) pick_nil (hK6 (r13, r16) hp)
  replace hp := (br_f h2).symm.trans hp
  refine cx_skip' ?_
  show TX E K6 _
  refine tx_slot' 7 (y := (Fl r13)) rfl imp_vf ?_
  refine tx_slot' 8 (y := (Fl r16)) rfl imp_vf ?_
  exact tx_pick' [] (sub_cons rfl (sub_cons rfl (sub_cons rfl sub_nil))) (by decide) pick_nil (hK6 (r13, r16) hp)
 intro K8 hK8
 rcases br_cases hp with ⟨h1, hp⟩ | ⟨h1, hp⟩
 ·refine sx_skip' rfl rfl (wt_is' (wt_guard' rfl rfl rfl) (beq_tf h1)) ?_
  refine sx_skip' rfl rfl (wt_is' (wt_guard' rfl rfl rfl) (beq_tf h1)) ?_
  refine s0 (rd_pick_true' rfl h1 rfl) ?_
  refine sx_nil' ?_
  show TX E K8 _
  exact tx_pick' [] (sub_cons rfl (sub_cons rfl (sub_cons rfl (sub_cons rfl (sub_cons rfl (sub_cons rfl (sub_cons rfl sub_nil))))))) (by decide) pick_nil (hK8 true hp)
 refine sx_rd' (rd_move' rfl) rfl rfl (wt_is' (wt_guard' rfl rfl rfl) (beq_ff h1)) ?_
 refine sx_rd' (rd_fcmp' (fl_f rfl) (fl_v rfl) rfl) rfl rfl (wt_is' (wt_guard' rfl rfl rfl) (beq_ff h1)) ?_
 refine s0 (rd_pick_false' rfl h1 rfl) ?_
 refine sx_nil' ?_
 show TX E K8 _
 exact tx_pick' [] (sub_cons rfl (sub_cons rfl (sub_cons rfl (sub_cons rfl (sub_cons rfl (sub_cons rfl (sub_cons rfl sub_nil))))))) (by decide) pick_nil (hK8 (fne r27 0) hp)

def xy_dpWorker_j5 (k : Nat) (rec2 : (Nat × Int × Int) → Option (Nat × Int)) (x19 : Int) (x15 : Nat) (x16 : Int) : Option (Nat × Int) :=
 rec2 (x15, x16, (iadd .i64 x19 1))
def xy_dpWorker_l2s (r41 : Int) (a0 : List Nat) (a3 : Int) (r52 : List Nat) (r62 : List Nat) (k : Nat) (rec2 : (Nat × Int × Int) → Option (Nat × Int)) (x17 : Nat) (x18 : Int) (x19 : Int) : Option (Nat × Int) :=
 br (decide (x19 < r41))
  ((cut a0 (imul .i64 x19 a3) (iadd .i64 (imul .i64 x19 a3) a3)) >>= fun r79 =>
  (xy_distanceFromSegmentSquared k r52 r62 r79) >>= fun r83 =>
  br (fgt r83 x17)
   (xy_dpWorker_j5 k rec2 x19 r83 x19)
   (xy_dpWorker_j5 k rec2 x19 x17 x18))
  (some (x17, x18))
def xy_dpWorker_l2 (r41 : Int) (a0 : List Nat) (a3 : Int) (r52 : List Nat) (r62 : List Nat) : Nat → (Nat × Int × Int) → Option (Nat × Int)
 | 0, _ => none
 | k + 1, v => xy_dpWorker_l2s r41 a0 a3 r52 r62 k (xy_dpWorker_l2 r41 a0 a3 r52 r62 k) v.1 v.2.1 v.2.2
def xy_dpWorker_j6 (k : Nat) (rec3 : ((List Int) × Int × (List Int) × Int) → Option (Int × (List Int))) (x22 : List Int) (x23 : Int) (x24 : List Int) : Option (Int × (List Int)) :=
 rec3 (x22, x23, x24, (x24.length : Int))
def xy_dpWorker_l3s (a0 : List Nat) (a3 : Int) (a1 : Nat) (k : Nat) (rec3 : ((List Int) × Int × (List Int) × Int) → Option (Int × (List Int))) (x25 : List Int) (x26 : Int) (x27 : List Int) (x28 : Int) : Option (Int × (List Int)) :=
 br (decide (0 < x28))
  ((idx x27 (isub .i64 x28 2)) >>= fun r36 =>
  (idx x27 (isub .i64 x28 1)) >>= fun r41 =>
  (cut a0 (imul .i64 r36 a3) (iadd .i64 (imul .i64 r36 a3) a3)) >>= fun r52 =>
  (cut a0 (imul .i64 r41 a3) (iadd .i64 (imul .i64 r41 a3) a3)) >>= fun r62 =>
  (xy_dpWorker_l2 r41 a0 a3 r52 r62 k (0, 0, (iadd .i64 r36 1))) >>= fun v10 =>
  (some (gmul a1 a1)) >>= fun r92 =>
  br (fgt v10.1 r92)
   ((idx x25 v10.2) >>= fun r98 =>
   (idx x27 (isub .i64 x28 1)) >>= fun r103 =>
   (apd 8 (x27.set (isub .i64 x28 1).toNat v10.2) ([v10.2, r41])) >>= fun r108 =>
   xy_dpWorker_j6 k rec3 (x25.set v10.2.toNat 1) (iadd .i64 x26 1) r108)
   ((cut x27 0 (isub .i64 x28 2)) >>= fun r112 =>
   xy_dpWorker_j6 k rec3 x25 x26 r112))
  (some (x26, x25))
def xy_dpWorker_l3 (a0 : List Nat) (a3 : Int) (a1 : Nat) : Nat → ((List Int) × Int × (List Int) × Int) → Option (Int × (List Int))
 | 0, _ => none
 | k + 1, v => xy_dpWorker_l3s a0 a3 a1 k (xy_dpWorker_l3 a0 a3 a1 k) v.1 v.2.1 v.2.2.1 v.2.2.2
def xy_dpWorker (k : Nat) (a0 : List Nat) (a1 : Nat) (a2 : List Int) (a3 : Int) : Option ((List Int) × Int) :=
 (iquo .i64 (a0.length : Int) a3) >>= fun r25 =>
 (apd 8 [] ([0, isub .i64 r25 1])) >>= fun r28 =>
 (xy_dpWorker_l3 a0 a3 a1 k (a2, 2, r28, (r28.length : Int))) >>= fun v12 =>
 some (v12.2, v12.1)

theorem xy_dpWorker_sim {k : Nat} {wa2 : Gs} (a0 : List Nat) (a1 : Nat) (a2 : List Int) (a3 : Int) {out : (List Int) × Int} (hp : xy_dpWorker k a0 a1 a2 a3 = some out) : Sx.Fn Try.prog 106 [(Sl Kf a0), (Vg a1), (Vl (Vs wa2)), (Vi a3)] [(Rw (Ki .u8) 5 (Vs wa2) a2)] (fun w : Unit => (Vi out.2)) (fun w => [(Rw (Ki .u8) 5 (Vs wa2) out.1)]) := by
 unfold xy_dpWorker at hp
 refine fn_of Try.func106 rfl Try.ntmps106 rfl fun E hM => ?_
 refine cr fun K1 hK1 => ?_
 refine s0 (rd_assign' rfl) ?_
 refine nk hK1 ?_
 refine cr fun K2 hK2 => ?_
 refine s0 (rd_assign' rfl) ?_
 refine nk hK2 ?_
 refine cr fun K3 hK3 => ?_
 refine s0 (rd_assign' rfl) ?_
 refine nk hK3 ?_
 refine cr fun K4 hK4 => ?_
 refine s0 (rd_move' rfl) ?_
 refine s0 (rd_move' rfl) ?_
 refine s0 (rd_len' rfl Try.underlying22) ?_
 refine s0 (rd_move' rfl) ?_
 obtain ⟨r25, hr25, hp⟩ := bind_some hp
 refine s0 (rd_bin' rfl rfl eg_int (ru_quo hr25)) ?_
 refine s0 (rd_bin' rfl rfl eg_int ru_sub) ?_
 refine sx_ox' (ox_rowlit' (K := (Ki .i64)) (xs := [0, isub .i64 r25 1]) (qs := [(0, [(Vi 0)]), (1, [(Vi (isub .i64 r25 1))])]) ⟨rfl, ⟨_, rfl, (lv_vl rfl rfl)⟩, ⟨rfl, ⟨_, rfl, (lv_vl rfl rfl)⟩, trivial⟩⟩ Try.underlying34 info3 rfl rfl rfl rfl rfl (by kernel_rfl) rfl rfl rfl) (wt_none' rfl) fun g27 => ?_
 refine tx_nilrow' (Ki .i64) 3 ?_
 obtain ⟨r28, hr28, hp⟩ := bind_some hp
 refine sx_ox' (ox_append' (K := (Ki .i64)) (i := 0) (xs := []) (ys := ([0, isub .i64 r25 1])) rfl rfl rfl (sr_row' (j := 1) rfl rfl rfl Try.underlying34) hr28 Try.underlying34 info3 rfl rfl rfl (H' := [(Rw (Ki .i64) 3 (Vs g27) ([0, isub .i64 r25 1])), (Rw (Ki .u8) 5 (Vs wa2) a2)]) rfl) (wt_none' rfl) fun g28 => ?_
 refine s0 (rd_assign' rfl) ?_
 refine nk hK4 ?_
 refine cr fun K5 hK5 => ?_
 refine s0 (rd_move' rfl) ?_
 refine s0 (rd_lenr' (i := 0) rfl rfl rfl Try.underlying34) ?_
 refine s0 (rd_assign' rfl) ?_
 refine nk hK5 ?_
 refine cx_seq' fun K6 hK6 => ?_
 refine cx_block' ?_
 obtain ⟨v12, hy3, hp⟩ := bind_some hp
 refine cx_loopg' (F := xy_dpWorker_l3 a0 a3 a1) (G := fun k R v => xy_dpWorker_l3s a0 a3 a1 k R v.1 v.2.1 v.2.2.1 v.2.2.2) (x := (a2, 2, r28, (r28.length : Int))) (gh := g28) (fun (v6 : (List Int) × Int × (List Int) × Int) (w6 : Gs) => (⟨116, [], [(0, (Sl Kf a0)), (1, (Vg a1)), (2, (Vl (Vs wa2))), (3, (Vi a3)), (9, (Vi v6.2.1)), (10, (Vl (Vs w6))), (11, (Vi v6.2.2.2))], [(Rw (Ki .u8) 5 (Vs wa2) v6.1), (Rw (Ki .i64) 3 (Vs w6) v6.2.2.1)]⟩ : St)) (fun (v12 : Int × (List Int)) => Zg E (Exit.exit 0) (fun (w12 : Unit) => (⟨116, [], [(9, (Vi v12.1))], [(Rw (Ki .u8) 5 (Vs wa2) v12.2)]⟩ : St))) (fun _ => rfl) (fun _ _ => rfl) ?_ hy3 (tx_to' rfl [2, 0] (sub_cons rfl (sub_cons rfl (sub_cons rfl (sub_cons rfl (sub_cons rfl (sub_cons rfl (sub_cons rfl sub_nil))))))) (by decide) (pick_cons rfl (pick_cons rfl pick_nil))) ?_
 ·clear hp hy3
  clear v12
  intro k rec3 KY3 ih3
  rintro ⟨x25, x26, x27, x28⟩ g903 y3 hp
  replace hp : xy_dpWorker_l3s a0 a3 a1 k rec3 x25 x26 x27 x28 = some y3 := hp
  unfold xy_dpWorker_l3s at hp
  refine cx_seq' fun K36 hK36 => ?_
  refine cr fun K37 hK37 => ?_
  refine s0 (rd_move' rfl) ?_
  refine s0 (rd_bin' rfl rfl eg_int ru_gtr) ?_
  refine nk hK37 ?_
  refine cx_cond' rfl (fun h9 => ?_) (fun h9 => ?_)
  ·replace hp := (br_t h9).symm.trans hp
   refine cx_skip' ?_
   show TX E K36 _
   refine tx_k' hK36 ?_
   refine cx_block' ?_
   refine cr fun K38 hK38 => ?_
   refine s0 (rd_move' rfl) ?_
   refine s0 (rd_move' rfl) ?_
   refine s0 (rd_bin' rfl rfl eg_int ru_sub) ?_
   obtain ⟨r36, hr36, hp⟩ := bind_some hp
   refine s0 (rd_atr' (m := 1) rfl rfl rfl rfl hr36 Try.underlying34 info3) ?_
   refine s0 (rd_loadr' rfl (m := 1) (i := (isub .i64 x28 2)) (j := 0) rfl rfl hr36 rfl rfl flat3) ?_
   refine s0 (rd_assign' rfl) ?_
   refine nk hK38 ?_
   refine cr fun K39 hK39 => ?_
   refine s0 (rd_move' rfl) ?_
   refine s0 (rd_move' rfl) ?_
   refine s0 (rd_bin' rfl rfl eg_int ru_sub) ?_
   obtain ⟨r41, hr41, hp⟩ := bind_some hp
   refine s0 (rd_atr' (m := 1) rfl rfl rfl rfl hr41 Try.underlying34 info3) ?_
   refine s0 (rd_loadr' rfl (m := 1) (i := (isub .i64 x28 1)) (j := 0) rfl rfl hr41 rfl rfl flat3) ?_
   refine s0 (rd_assign' rfl) ?_
   refine nk hK39 ?_
   refine cr fun K40 hK40 => ?_
   refine s0 (rd_assign' rfl) ?_
   refine nk hK40 ?_
   refine cr fun K41 hK41 => ?_
   refine s0 (rd_assign' rfl) ?_
   refine nk hK41 ?_
   refine cr fun K42 hK42 => ?_
   refine s0 (rd_move' rfl) ?_
   refine s0 (rd_move' rfl) ?_
   refine s0 (rd_move' rfl) ?_
   refine s0 (rd_bin' rfl rfl eg_int ru_mul) ?_
   refine s0 (rd_move' rfl) ?_
   refine s0 (rd_move' rfl) ?_
   refine s0 (rd_bin' rfl rfl eg_int ru_mul) ?_
   refine s0 (rd_move' rfl) ?_
   refine s0 (rd_bin' rfl rfl eg_int ru_add) ?_
   obtain ⟨r52, hr52, hp⟩ := bind_some hp
   refine s0 (rd_cut_lh' rfl rfl rfl hr52 Try.underlying22 info38) ?_
   refine s0 (rd_assign' rfl) ?_
   refine nk hK42 ?_
   refine cr fun K43 hK43 => ?_
   refine s0 (rd_move' rfl) ?_
   refine s0 (rd_move' rfl) ?_
   refine s0 (rd_move' rfl) ?_
   refine s0 (rd_bin' rfl rfl eg_int ru_mul) ?_
   refine s0 (rd_move' rfl) ?_
   refine s0 (rd_move' rfl) ?_
   refine s0 (rd_bin' rfl rfl eg_int ru_mul) ?_
   refine s0 (rd_move' rfl) ?_
   refine s0 (rd_bin' rfl rfl eg_int ru_add) ?_
   obtain ⟨r62, hr62, hp⟩ := bind_some hp
   refine s0 (rd_cut_lh' rfl rfl rfl hr62 Try.underlying22 info38) ?_
   refine s0 (rd_assign' rfl) ?_
   refine nk hK43 ?_
   refine cx_seq' fun K44 hK44 => ?_
   refine cr fun K45 hK45 => ?_
   refine s0 (rd_move' rfl) ?_
   refine s0 (rd_bin' rfl rfl eg_int ru_add) ?_
   refine s0 (rd_assign' rfl) ?_
   refine nk hK45 ?_
   refine cx_block' ?_
   obtain ⟨v10, hy2, hp⟩ := bind_some hp
   refine tx_slot' 14 (y := (Fl 0)) rfl imp_vf ?_
   refine cx_loopg' (F := xy_dpWorker_l2 r41 a0 a3 r52 r62) (G := fun k R v => xy_dpWorker_l2s r41 a0 a3 r52 r62 k R v.1 v.2.1 v.2.2) (x := (0, 0, (iadd .i64 r36 1))) (gh := ()) (fun (v8 : Nat × Int × Int) (w8 : Unit) => (⟨116, [], [(0, (Sl Kf a0)), (1, (Vg a1)), (2, (Vl (Vs wa2))), (3, (Vi a3)), (9, (Vi x26)), (10, (Vl (Vs g903))), (11, (Vi x28)), (13, (Vi r41)), (14, (Fl v8.1)), (15, (Vi v8.2.1)), (16, (Sl Kf r52)), (17, (Sl Kf r62)), (18, (Vi v8.2.2))], [(Rw (Ki .u8) 5 (Vs wa2) x25), (Rw (Ki .i64) 3 (Vs g903) x27)]⟩ : St)) (fun (v10 : Nat × Int) => Zg E (Exit.exit 2) (fun (w10 : Unit) => (⟨116, [], [(0, (Sl Kf a0)), (1, (Vg a1)), (2, (Vl (Vs wa2))), (3, (Vi a3)), (9, (Vi x26)), (10, (Vl (Vs g903))), (11, (Vi x28)), (13, (Vi r41)), (14, (Fl v10.1)), (15, (Vi v10.2))], [(Rw (Ki .u8) 5 (Vs wa2) x25), (Rw (Ki .i64) 3 (Vs g903) x27)]⟩ : St))) (fun _ => rfl) (fun _ _ => rfl) ?_ hy2 (tx_to' rfl [0, 1] (sub_cons rfl (sub_cons rfl (sub_cons rfl (sub_cons rfl (sub_cons rfl (sub_cons rfl (sub_cons rfl (sub_cons rfl (sub_cons rfl (sub_cons rfl (sub_cons rfl (sub_cons rfl (sub_cons rfl sub_nil))))))))))))) (by decide) (pick_cons rfl (pick_cons rfl pick_nil))) ?_
   ·clear hp hy2
    clear v10
    intro k rec2 KY2 ih2
    rintro ⟨x17, x18, x19⟩ ⟨⟩ y2 hp
    replace hp : xy_dpWorker_l2s r41 a0 a3 r52 r62 k rec2 x17 x18 x19 = some y2 := hp
    unfold xy_dpWorker_l2s at hp
    refine cx_seq' fun K53 hK53 => ?_
    refine cr fun K54 hK54 => ?_
    refine s0 (rd_move' rfl) ?_
    refine s0 (rd_move' rfl) ?_
    refine s0 (rd_bin' rfl rfl eg_int ru_lss) ?_
    refine nk hK54 ?_
    refine cx_cond' rfl (fun h13 => ?_) (fun h13 => ?_)
    ·replace hp := (br_t h13).symm.trans hp
     refine cx_skip' ?_
     show TX E K53 _
     refine tx_k' hK53 ?_
     refine cx_join' (fun (v9 : Nat × Int) => (⟨116, [], [(0, (Sl Kf a0)), (1, (Vg a1)), (2, (Vl (Vs wa2))), (3, (Vi a3)), (9, (Vi x26)), (10, (Vl (Vs g903))), (11, (Vi x28)), (13, (Vi r41)), (14, (Fl v9.1)), (15, (Vi v9.2)), (16, (Sl Kf r52)), (17, (Sl Kf r62)), (18, (Vi x19))], [(Rw (Ki .u8) 5 (Vs wa2) x25), (Rw (Ki .i64) 3 (Vs g903) x27)]⟩ : St)) (fun (v9 : Nat × Int) => xy_dpWorker_j5 k rec2 x19 v9.1 v9.2 = some y2) ?_ ?_
     ·rintro ⟨x15, x16⟩ hp
      replace hp : xy_dpWorker_j5 k rec2 x19 x15 x16 = some y2 := hp
      unfold xy_dpWorker_j5 at hp
      refine cx_region' ?_
      refine s0 (rd_move' rfl) ?_
      refine s0 (rd_bin' rfl rfl eg_int ru_add) ?_
      refine s0 (rd_assign' rfl) ?_
      refine sx_nil' ?_
      show TX E (KY2 _) _
      exact tx_pick' [0, 1] (sub_cons rfl (sub_cons rfl (sub_cons rfl (sub_cons rfl (sub_cons rfl (sub_cons rfl (sub_cons rfl (sub_cons rfl (sub_cons rfl (sub_cons rfl (sub_cons rfl (sub_cons rfl (sub_cons rfl sub_nil))))))))))))) (by decide) (pick_cons rfl (pick_cons rfl pick_nil)) (ih2 (x15, x16, (iadd .i64 x19 1)) () _ hp)
     intro K55 hK55
     refine cx_block' ?_
     refine cr fun K56 hK56 => ?_
     refine s0 (rd_move' rfl) ?_
     refine s0 (rd_move' rfl) ?_
     refine s0 (rd_move' rfl) ?_
     refine s0 (rd_bin' rfl rfl eg_int ru_mul) ?_
     refine s0 (rd_move' rfl) ?_
     refine s0 (rd_move' rfl) ?_
     refine s0 (rd_bin' rfl rfl eg_int ru_mul) ?_
     refine s0 (rd_move' rfl) ?_
     refine s0 (rd_bin' rfl rfl eg_int ru_add) ?_
     obtain ⟨r79, hr79, hp⟩ := bind_some hp
     refine s0 (rd_cut_lh' rfl rfl rfl hr79 Try.underlying22 info38) ?_
     refine s0 (rd_assign' rfl) ?_
     refine nk hK56 ?_
     refine cr fun K57 hK57 => ?_
     refine s0 (rd_move' rfl) ?_
     refine s0 (rd_move' rfl) ?_
     refine s0 (rd_move' rfl) ?_
     obtain ⟨r83, hr83, hp⟩ := bind_some hp
     refine sx_ox' (ox_calln' (ent_fn' Try.func140 isn140 rfl rfl) (xy_distanceFromSegmentSquared_sim _ _ _ hr83 : Sx.Fn Try.prog 140 [(Sl Kf r52), (Sl Kf r62), (Sl Kf r79)] [] (fun x : Unit => (Fl r83)) (fun x => [])) (Hn := fun x : Unit => [(Rw (Ki .u8) 5 (Vs wa2) x25), (Rw (Ki .i64) 3 (Vs g903) x27)]) (fun _ => rfl) rfl rfl) (wt_none' rfl) fun ⟨⟩ => ?_
     refine s0 (rd_assign' rfl) ?_
     refine nk hK57 ?_
     refine cr fun K58 hK58 => ?_
     refine s0 (rd_move' rfl) ?_
     refine s0 (rd_move' rfl) ?_
     refine s0 (rd_fcmp' (fl_f rfl) (fl_f rfl) rfl) ?_
     refine nk hK58 ?_
     refine cx_cond' rfl (fun h14 => ?_) (fun h14 => ?_)
     ·replace hp := (br_t h14).symm.trans hp
      refine cr fun K59 hK59 => ?_
      refine s0 (rd_move' rfl) ?_
      refine s0 (rd_assign' rfl) ?_
      refine nk hK59 ?_
      refine cx_region' ?_
      refine s0 (rd_move' rfl) ?_
      refine s0 (rd_assign' rfl) ?_
      refine sx_nil' ?_
      show TX E K55 _
      exact tx_pick' [0, 1] (sub_cons rfl (sub_cons rfl (sub_cons rfl (sub_cons rfl (sub_cons rfl (sub_cons rfl (sub_cons rfl (sub_cons rfl (sub_cons rfl (sub_cons rfl (sub_cons rfl (sub_cons rfl (sub_cons rfl sub_nil))))))))))))) (by decide) (pick_cons rfl (pick_cons rfl pick_nil)) (hK55 (r83, x19) hp)
     replace hp := (br_f h14).symm.trans hp
     refine cx_skip' ?_
     show TX E K55 _
     exact tx_pick' [0, 1] (sub_cons rfl (sub_cons rfl (sub_cons rfl (sub_cons rfl (sub_cons rfl (sub_cons rfl (sub_cons rfl (sub_cons rfl (sub_cons rfl (sub_cons rfl (sub_cons rfl (sub_cons rfl (sub_cons rfl sub_nil))))))))))))) (by decide) (pick_cons rfl (pick_cons rfl pick_nil)) (hK55 (x17, x18) hp)
    replace hp := (br_f h13).symm.trans hp
    refine cx_exit' ?_
    replace hp := Option.some.inj hp
    subst hp
    show TX E (Zg E (Exit.exit 2) _ (Exit.exit 2)) _
    exact tx_zend' () rfl [0, 1] (sub_cons rfl (sub_cons rfl (sub_cons rfl (sub_cons rfl (sub_cons rfl (sub_cons rfl (sub_cons rfl (sub_cons rfl (sub_cons rfl (sub_cons rfl sub_nil)))))))))) (by decide) (pick_cons rfl (pick_cons rfl pick_nil))
   refine zg_out fun w10 => ?_
   show TX E K44 _
   refine tx_k' hK44 ?_
   refine cx_join' (fun (v11 : (List Int) × Int × (List Int) × Gs) => (⟨116, [], [(0, (Sl Kf a0)), (1, (Vg a1)), (2, (Vl (Vs wa2))), (3, (Vi a3)), (9, (Vi v11.2.1)), (10, (Vl (Vs v11.2.2.2)))], [(Rw (Ki .u8) 5 (Vs wa2) v11.1), (Rw (Ki .i64) 3 (Vs v11.2.2.2) v11.2.2.1)]⟩ : St)) (fun (v11 : (List Int) × Int × (List Int) × Gs) => xy_dpWorker_j6 k rec3 v11.1 v11.2.1 v11.2.2.1 = some y3) ?_ ?_
   ·rintro ⟨x22, x23, x24, g902⟩ hp
    replace hp : xy_dpWorker_j6 k rec3 x22 x23 x24 = some y3 := hp
    unfold xy_dpWorker_j6 at hp
    refine cx_region' ?_
    refine s0 (rd_move' rfl) ?_
    refine s0 (rd_lenr' (i := 1) rfl rfl rfl Try.underlying34) ?_
    refine s0 (rd_assign' rfl) ?_
    refine sx_nil' ?_
    show TX E (KY3 _) _
    exact tx_pick' [0, 1] (sub_cons rfl (sub_cons rfl (sub_cons rfl (sub_cons rfl (sub_cons rfl (sub_cons rfl (sub_cons rfl sub_nil))))))) (by decide) (pick_cons rfl (pick_cons rfl pick_nil)) (ih3 (x22, x23, x24, (x24.length : Int)) g902 _ hp)
   intro K60 hK60
   refine cr fun K61 hK61 => ?_
   refine s0 (rd_move' rfl) ?_
   refine s0 (rd_move' rfl) ?_
   refine s0 (rd_move' rfl) ?_
   obtain ⟨r92, hr92, hp⟩ := bind_some hp
   refine sx_ox' (ox_fop' (.inr (.inr (.inl rfl))) (fl_v rfl) (fl_v rfl) (Option.some.inj hr92) rfl rfl) (wt_none' rfl) fun _ => ?_
   refine s0 (rd_fcmp' (fl_f rfl) (fl_f rfl) rfl) ?_
   refine nk hK61 ?_
   refine cx_cond' rfl (fun h15 => ?_) (fun h15 => ?_)
   ·replace hp := (br_t h15).symm.trans hp
    refine cr fun K62 hK62 => ?_
    refine s0 (rd_move' rfl) ?_
    refine s0 (rd_bin' rfl rfl eg_int ru_add) ?_
    refine s0 (rd_assign' rfl) ?_
    refine nk hK62 ?_
    refine cr fun K63 hK63 => ?_
    refine s0 (rd_move' rfl) ?_
    refine s0 (rd_move' rfl) ?_
    obtain ⟨r98, hr98, hp⟩ := bind_some hp
    refine s0 (rd_atr' (m := 0) rfl rfl rfl rfl hr98 Try.underlying162 info5) ?_
    refine sx_ox' (ox_storer' (m := 0) (i := v10.2) (j := 0) (x' := 1) rfl rfl (lv_vl rfl rfl) rfl rfl hr98 rfl rfl rfl info5 rfl (H' := [(Rw (Ki .u8) 5 (Vs wa2) (x25.set v10.2.toNat 1)), (Rw (Ki .i64) 3 (Vs g903) x27)]) rfl) (wt_none' rfl) fun _ => ?_
    refine nk hK63 ?_
    refine cr fun K64 hK64 => ?_
    refine s0 (rd_move' rfl) ?_
    refine s0 (rd_move' rfl) ?_
    refine s0 (rd_bin' rfl rfl eg_int ru_sub) ?_
    refine s0 (rd_move' rfl) ?_
    obtain ⟨r103, hr103, hp⟩ := bind_some hp
    refine s0 (rd_atr' (m := 1) rfl rfl rfl rfl hr103 Try.underlying34 info3) ?_
    refine sx_ox' (ox_storer' (m := 1) (i := (isub .i64 x28 1)) (j := 0) (x' := v10.2) rfl rfl (lv_vl rfl rfl) rfl rfl hr103 rfl rfl rfl info3 rfl (H' := [(Rw (Ki .u8) 5 (Vs wa2) (x25.set v10.2.toNat 1)), (Rw (Ki .i64) 3 (Vs g903) (x27.set (isub .i64 x28 1).toNat v10.2))]) rfl) (wt_none' rfl) fun _ => ?_
    refine nk hK64 ?_
    refine cx_region' ?_
    refine s0 (rd_move' rfl) ?_
    refine s0 (rd_move' rfl) ?_
    refine s0 (rd_move' rfl) ?_
    refine sx_ox' (ox_rowlit' (K := (Ki .i64)) (xs := [v10.2, r41]) (qs := [(0, [(Vi v10.2)]), (1, [(Vi r41)])]) ⟨rfl, ⟨_, rfl, (lv_vl rfl rfl)⟩, ⟨rfl, ⟨_, rfl, (lv_vl rfl rfl)⟩, trivial⟩⟩ Try.underlying34 info3 rfl rfl rfl rfl rfl (by kernel_rfl) rfl rfl rfl) (wt_none' rfl) fun g107 => ?_
    obtain ⟨r108, hr108, hp⟩ := bind_some hp
    refine sx_ox' (ox_append' (K := (Ki .i64)) (i := 2) (xs := (x27.set (isub .i64 x28 1).toNat v10.2)) (ys := ([v10.2, r41])) rfl rfl rfl (sr_row' (j := 0) rfl rfl rfl Try.underlying34) hr108 Try.underlying34 info3 rfl rfl rfl (H' := [(Rw (Ki .i64) 3 (Vs g107) ([v10.2, r41])), (Rw (Ki .u8) 5 (Vs wa2) (x25.set v10.2.toNat 1))]) rfl) (wt_none' rfl) fun g108 => ?_
    refine s0 (rd_assign' rfl) ?_
    refine sx_nil' ?_
    show TX E K60 _
    exact tx_pick' [2, 0] (sub_cons rfl (sub_cons rfl (sub_cons rfl (sub_cons rfl (sub_cons rfl (sub_cons rfl sub_nil)))))) (by decide) (pick_cons rfl (pick_cons rfl pick_nil)) (hK60 ((x25.set v10.2.toNat 1), (iadd .i64 x26 1), r108, g108) hp)
   replace hp := (br_f h15).symm.trans hp
   refine cx_region' ?_
   refine s0 (rd_move' rfl) ?_
   refine s0 (rd_move' rfl) ?_
   refine s0 (rd_bin' rfl rfl eg_int ru_sub) ?_
   obtain ⟨r112, hr112, hp⟩ := bind_some hp
   refine s0 (rd_cutpre' (K := (Ki .i64)) (i := 1) (k1 := .i64) rfl rfl rfl (.inl rfl) rfl hr112 Try.underlying34 info3) ?_
   refine tx_pre' 112 1 (K := (Ki .i64)) rfl rfl rfl (cut_pre hr112) fun g15 => ?_
   refine s0 (rd_assign' rfl) ?_
   refine sx_nil' ?_
   show TX E K60 _
   exact tx_pick' [0, 1] (sub_cons rfl (sub_cons rfl (sub_cons rfl (sub_cons rfl (sub_cons rfl (sub_cons rfl sub_nil)))))) (by decide) (pick_cons rfl (pick_cons rfl pick_nil)) (hK60 (x25, x26, r112, g15) hp)
  replace hp := (br_f h9).symm.trans hp
  refine cx_exit' ?_
  replace hp := Option.some.inj hp
  subst hp
  show TX E (Zg E (Exit.exit 0) _ (Exit.exit 0)) _
  exact tx_zend' () rfl [0] (sub_cons rfl sub_nil) (by decide) (pick_cons rfl pick_nil)
 refine zg_out fun w12 => ?_
 show TX E K6 _
 refine tx_k' hK6 ?_
 refine cr fun K65 hK65 => ?_
 refine s0 (rd_move' rfl) ?_
 refine s0 (rd_assign' rfl) ?_
 refine nk hK65 ?_
 refine cx_retc' ?_
 replace hp := Option.some.inj hp
 subst hp
 refine tx_pick' (L' := [(8, (Vi v12.1))]) (H' := [(Rw (Ki .u8) 5 (Vs wa2) v12.2)]) [0] (sub_cons rfl sub_nil) (by decide) (pick_cons rfl pick_nil) ?_
 exact tx_ret1' Try.results106 rfl () (rv_tmp' rfl) (List.Sublist.refl _)

def xy_SimplifyFlatCoords_l1s (r18 : Int) (k : Nat) (rec1 : ((List Int) × Int) → Option ((List Int))) (x1 : List Int) (x2 : Int) : Option ((List Int)) :=
 br (decide (x2 < r18))
  ((idx x1 x2) >>= fun r30 =>
  rec1 ((x1.set x2.toNat x2), (iadd .i64 x2 1)))
  (some x1)
def xy_SimplifyFlatCoords_l1 (r18 : Int) : Nat → ((List Int) × Int) → Option ((List Int))
 | 0, _ => none
 | k + 1, v => xy_SimplifyFlatCoords_l1s r18 k (xy_SimplifyFlatCoords_l1 r18 k) v.1 v.2
def xy_SimplifyFlatCoords_j2 (k : Nat) (rec2 : ((List Int) × Int) → Option ((List Int))) (x7 : Int) (x5 : List Int) : Option ((List Int)) :=
 rec2 (x5, (iadd .i64 x7 1))
def xy_SimplifyFlatCoords_l2s (r46 : (List Int) × Int) (k : Nat) (rec2 : ((List Int) × Int) → Option ((List Int))) (x6 : List Int) (x7 : Int) : Option ((List Int)) :=
 br (decide (x7 < (r46.1.length : Int)))
  ((idx r46.1 x7) >>= fun r54 =>
  br (decide (r54 = 1))
   ((apd 8 x6 ([x7])) >>= fun r61 =>
   xy_SimplifyFlatCoords_j2 k rec2 x7 r61)
   (xy_SimplifyFlatCoords_j2 k rec2 x7 x6))
  (some x6)
def xy_SimplifyFlatCoords_l2 (r46 : (List Int) × Int) : Nat → ((List Int) × Int) → Option ((List Int))
 | 0, _ => none
 | k + 1, v => xy_SimplifyFlatCoords_l2s r46 k (xy_SimplifyFlatCoords_l2 r46 k) v.1 v.2
def xy_SimplifyFlatCoords (k : Nat) (a0 : List Nat) (a1 : Nat) (a2 : Int) : Option ((List Int)) :=
 (iquo .i64 (a0.length : Int) a2) >>= fun r18 =>
 br (decide (r18 < 3))
  ((mk 8 0 r18 r18) >>= fun r22 =>
  (xy_SimplifyFlatCoords_l1 r18 k (r22, 0)) >>= fun v2 =>
  some v2)
  ((mk 1 0 r18 r18) >>= fun r34 =>
  (idx r34 0) >>= fun r36 =>
  (idx (r34.set (0 : Int).toNat 1) (isub .i64 ((r34.set (0 : Int).toNat 1).length : Int) 1)) >>= fun r41 =>
  (xy_dpWorker k a0 a1 ((r34.set (0 : Int).toNat 1).set (isub .i64 ((r34.set (0 : Int).toNat 1).length : Int) 1).toNat 1) a2) >>= fun r46 =>
  (mk 8 0 0 r46.2) >>= fun r48 =>
  (xy_SimplifyFlatCoords_l2 r46 k (r48, 0)) >>= fun v6 =>
  some v6)

theorem xy_SimplifyFlatCoords_sim {k : Nat}  (a0 : List Nat) (a1 : Nat) (a2 : Int) {out : (List Int)} (hp : xy_SimplifyFlatCoords k a0 a1 a2 = some out) : Sx.Fn Try.prog 71 [(Sl Kf a0), (Vg a1), (Vi a2)] [] (fun w : Unit => (Sl (Ki .i64) out)) (fun w => []) := by
 unfold xy_SimplifyFlatCoords at hp
 refine fn_of Try.func71 rfl Try.ntmps71 rfl fun E hM => ?_
 refine cr fun K1 hK1 => ?_
 refine s0 (rd_assign' rfl) ?_
 refine nk hK1 ?_
 refine cr fun K2 hK2 => ?_
 refine s0 (rd_move' rfl) ?_
 refine s0 (rd_len' rfl Try.underlying22) ?_
 refine s0 (rd_move' rfl) ?_
 obtain ⟨r18, hr18, hp⟩ := bind_some hp
 refine s0 (rd_bin' rfl rfl eg_int (ru_quo hr18)) ?_
 refine s0 (rd_assign' rfl) ?_
 refine nk hK2 ?_
 refine cx_seq' fun K3 hK3 => ?_
 refine cr fun K4 hK4 => ?_
 refine s0 (rd_move' rfl) ?_
 refine s0 (rd_bin' rfl rfl eg_int ru_lss) ?_
 refine nk hK4 ?_
 refine cx_cond' rfl (fun h1 => ?_) (fun h1 => ?_)
 ·replace hp := (br_t h1).symm.trans hp
  refine cr fun K5 hK5 => ?_
  refine s0 (rd_move' rfl) ?_
  obtain ⟨r22, hr22, hp⟩ := bind_some hp
  refine sx_ox' (ox_make' (K := (Ki .i64)) rfl rfl hr22 rfl Try.underlying34 info3 rfl rfl rfl rfl rfl) (wt_none' rfl) fun g22 => ?_
  refine s0 (rd_assign' rfl) ?_
  refine nk hK5 ?_
  refine cx_seq' fun K6 hK6 => ?_
  refine cr fun K7 hK7 => ?_
  refine s0 (rd_move' rfl) ?_
  refine s0 (rd_move' rfl) ?_
  refine nk hK7 ?_
  refine cx_block' ?_
  obtain ⟨v2, hy1, hp⟩ := bind_some hp
  refine cx_loopg' (F := xy_SimplifyFlatCoords_l1 r18) (G := fun k R v => xy_SimplifyFlatCoords_l1s r18 k R v.1 v.2) (x := (r22, 0)) (gh := ()) (fun (v1 : (List Int) × Int) (w1 : Unit) => (⟨64, [], [(8, (Vl (Vs g22))), (23, (Vi r18)), (24, (Vi v1.2))], [(Rw (Ki .i64) 3 (Vs g22) v1.1)]⟩ : St)) (fun (v2 : (List Int)) => Zg E (Exit.exit 0) (fun (w2 : Unit) => (⟨64, [], [(8, (Vl (Vs g22)))], [(Rw (Ki .i64) 3 (Vs g22) v2)]⟩ : St))) (fun _ => rfl) (fun _ _ => rfl) ?_ hy1 (tx_to' rfl [0] (sub_cons rfl (sub_cons rfl (sub_cons rfl sub_nil))) (by decide) (pick_cons rfl pick_nil)) ?_
  ·clear hp hy1
   clear v2
   intro k rec1 KY1 ih1
   rintro ⟨x1, x2⟩ ⟨⟩ y1 hp
   replace hp : xy_SimplifyFlatCoords_l1s r18 k rec1 x1 x2 = some y1 := hp
   unfold xy_SimplifyFlatCoords_l1s at hp
   refine cr fun K12 hK12 => ?_
   refine s0 (rd_bin' rfl rfl eg_int ru_lss) ?_
   refine nk hK12 ?_
   refine cx_seq' fun K13 hK13 => ?_
   refine cx_cond' rfl (fun h4 => ?_) (fun h4 => ?_)
   ·replace hp := (br_t h4).symm.trans hp
    refine cx_skip' ?_
    show TX E K13 _
    refine tx_k' hK13 ?_
    refine cx_seq' fun K14 hK14 => ?_
    refine cx_block' ?_
    refine cr fun K15 hK15 => ?_
    refine s0 (rd_move' rfl) ?_
    refine s0 (rd_assign' rfl) ?_
    refine nk hK15 ?_
    refine cx_region' ?_
    refine s0 (rd_move' rfl) ?_
    refine s0 (rd_move' rfl) ?_
    refine s0 (rd_move' rfl) ?_
    obtain ⟨r30, hr30, hp⟩ := bind_some hp
    refine s0 (rd_atr' (m := 0) rfl rfl rfl rfl hr30 Try.underlying34 info3) ?_
    refine sx_ox' (ox_storer' (m := 0) (i := x2) (j := 0) (x' := x2) rfl rfl (lv_vl rfl rfl) rfl rfl hr30 rfl rfl rfl info3 rfl (H' := [(Rw (Ki .i64) 3 (Vs g22) (x1.set x2.toNat x2))]) rfl) (wt_none' rfl) fun _ => ?_
    refine nk hK14 ?_
    refine cx_region' ?_
    refine s0 (rd_bin' rfl rfl eg_int ru_add) ?_
    refine s0 (rd_move' rfl) ?_
    refine sx_nil' ?_
    show TX E (KY1 _) _
    exact tx_pick' [0] (sub_cons rfl (sub_cons rfl (sub_cons rfl sub_nil))) (by decide) (pick_cons rfl pick_nil) (ih1 ((x1.set x2.toNat x2), (iadd .i64 x2 1)) () _ hp)
   replace hp := (br_f h4).symm.trans hp
   refine cx_exit' ?_
   replace hp := Option.some.inj hp
   subst hp
   show TX E (Zg E (Exit.exit 0) _ (Exit.exit 0)) _
   exact tx_zend' () rfl [0] (sub_cons rfl sub_nil) (by decide) (pick_cons rfl pick_nil)
  refine zg_out fun w2 => ?_
  show TX E K6 _
  refine tx_k' hK6 ?_
  refine cr fun K16 hK16 => ?_
  refine s0 (rd_move' rfl) ?_
  refine s0 (rd_assign' rfl) ?_
  refine nk hK16 ?_
  refine cx_retc' ?_
  replace hp := Option.some.inj hp
  subst hp
  refine tx_fz' (frz_row 0 [(8, (Vl (Vs g22)), (Sl (Ki .i64) v2)), (32, (Vl (Vs g22)), (Sl (Ki .i64) v2)), (6, (Vl (Vs g22)), (Sl (Ki .i64) v2))] (K := (Ki .i64)) (xs := v2) (by decide) rfl ⟨⟨rfl, frz_it⟩, ⟨rfl, frz_it⟩, ⟨rfl, frz_it⟩, trivial⟩ (H' := []) frzH_refl) ?_
  refine tx_pick' (L' := [(6, (Sl (Ki .i64) v2))]) (H' := []) [] (sub_cons rfl sub_nil) (by decide) pick_nil ?_
  exact tx_ret1' Try.results71 rfl () (rv_tmp' rfl) (List.Sublist.refl _)
 replace hp := (br_f h1).symm.trans hp
 refine cx_skip' ?_
 show TX E K3 _
 refine tx_k' hK3 ?_
 refine cr fun K17 hK17 => ?_
 refine s0 (rd_move' rfl) ?_
 obtain ⟨r34, hr34, hp⟩ := bind_some hp
 refine sx_ox' (ox_make' (K := (Ki .u8)) rfl rfl hr34 rfl Try.underlying162 info5 rfl rfl rfl rfl rfl) (wt_none' rfl) fun g34 => ?_
 refine s0 (rd_assign' rfl) ?_
 refine nk hK17 ?_
 refine cr fun K18 hK18 => ?_
 refine s0 (rd_move' rfl) ?_
 obtain ⟨r36, hr36, hp⟩ := bind_some hp
 refine s0 (rd_atr' (m := 0) rfl rfl rfl rfl hr36 Try.underlying162 info5) ?_
 refine sx_ox' (ox_storer' (m := 0) (i := 0) (j := 0) (x' := 1) rfl rfl (lv_vl rfl rfl) rfl rfl hr36 rfl rfl rfl info5 rfl (H' := [(Rw (Ki .u8) 5 (Vs g34) (r34.set (0 : Int).toNat 1))]) rfl) (wt_none' rfl) fun _ => ?_
 refine nk hK18 ?_
 refine cr fun K19 hK19 => ?_
 refine s0 (rd_move' rfl) ?_
 refine s0 (rd_move' rfl) ?_
 refine s0 (rd_lenr' (i := 0) rfl rfl rfl Try.underlying162) ?_
 refine s0 (rd_bin' rfl rfl eg_int ru_sub) ?_
 obtain ⟨r41, hr41, hp⟩ := bind_some hp
 refine s0 (rd_atr' (m := 0) rfl rfl rfl rfl hr41 Try.underlying162 info5) ?_
 refine sx_ox' (ox_storer' (m := 0) (i := (isub .i64 ((r34.set (0 : Int).toNat 1).length : Int) 1)) (j := 0) (x' := 1) rfl rfl (lv_vl rfl rfl) rfl rfl hr41 rfl rfl rfl info5 rfl (H' := [(Rw (Ki .u8) 5 (Vs g34) ((r34.set (0 : Int).toNat 1).set (isub .i64 ((r34.set (0 : Int).toNat 1).length : Int) 1).toNat 1))]) rfl) (wt_none' rfl) fun _ => ?_
 refine nk hK19 ?_
 refine cr fun K20 hK20 => ?_
 refine s0 (rd_move' rfl) ?_
 refine s0 (rd_move' rfl) ?_
 refine s0 (rd_move' rfl) ?_
 refine s0 (rd_move' rfl) ?_
 obtain ⟨r46, hr46, hp⟩ := bind_some hp
 refine sx_ox' (ox_callg' (ent_fn' Try.func106 isn106 rfl rfl) (xy_dpWorker_sim _ _ _ _ hr46 : Sx.Fn Try.prog 106 [(Sl Kf a0), (Vg a1), (Vl (Vs g34)), (Vi a2)] [(Rw (Ki .u8) 5 (Vs g34) ((r34.set (0 : Int).toNat 1).set (isub .i64 ((r34.set (0 : Int).toNat 1).length : Int) 1).toNat 1))] (fun x : Unit => (Vi r46.2)) (fun x => [(Rw (Ki .u8) 5 (Vs g34) r46.1)])) [0] [] (by decide) (pick_cons rfl pick_nil) pick_nil (Hn := fun x : Unit => [(Rw (Ki .u8) 5 (Vs g34) r46.1)]) (fun _ => rfl) rfl rfl) (wt_none' rfl) fun ⟨⟩ => ?_
 refine s0 (rd_assign' rfl) ?_
 refine nk hK20 ?_
 refine cr fun K21 hK21 => ?_
 refine s0 (rd_move' rfl) ?_
 obtain ⟨r48, hr48, hp⟩ := bind_some hp
 refine sx_ox' (ox_make' (K := (Ki .i64)) rfl rfl hr48 rfl Try.underlying34 info3 rfl rfl rfl rfl rfl) (wt_none' rfl) fun g48 => ?_
 refine s0 (rd_assign' rfl) ?_
 refine nk hK21 ?_
 refine cx_seq' fun K22 hK22 => ?_
 refine cr fun K23 hK23 => ?_
 refine s0 (rd_move' rfl) ?_
 refine s0 (rd_lenr' (i := 1) rfl rfl rfl Try.underlying162) ?_
 refine s0 (rd_move' rfl) ?_
 refine nk hK23 ?_
 refine cx_block' ?_
 obtain ⟨v6, hy2, hp⟩ := bind_some hp
 refine cx_loopg' (F := xy_SimplifyFlatCoords_l2 r46) (G := fun k R v => xy_SimplifyFlatCoords_l2s r46 k R v.1 v.2) (x := (r48, 0)) (gh := g48) (fun (v4 : (List Int) × Int) (w4 : Gs) => (⟨64, [], [(12, (Vl (Vs w4))), (49, (Vl (Vs g34))), (50, (Vi (r46.1.length : Int))), (51, (Vi v4.2))], [(Rw (Ki .i64) 3 (Vs w4) v4.1), (Rw (Ki .u8) 5 (Vs g34) r46.1)]⟩ : St)) (fun (v6 : (List Int)) => Zg E (Exit.exit 2) (fun (w6 : Gs) => (⟨64, [], [(12, (Vl (Vs w6)))], [(Rw (Ki .i64) 3 (Vs w6) v6)]⟩ : St))) (fun _ => rfl) (fun _ _ => rfl) ?_ hy2 (tx_to' rfl [0, 1] (sub_cons rfl (sub_cons rfl (sub_cons rfl (sub_cons rfl sub_nil)))) (by decide) (pick_cons rfl (pick_cons rfl pick_nil))) ?_
 ·clear hp hy2
  clear v6
  intro k rec2 KY2 ih2
  rintro ⟨x6, x7⟩ g903 y2 hp
  replace hp : xy_SimplifyFlatCoords_l2s r46 k rec2 x6 x7 = some y2 := hp
  unfold xy_SimplifyFlatCoords_l2s at hp
  refine cr fun K29 hK29 => ?_
  refine s0 (rd_bin' rfl rfl eg_int ru_lss) ?_
  refine nk hK29 ?_
  refine cx_seq' fun K30 hK30 => ?_
  refine cx_cond' rfl (fun h8 => ?_) (fun h8 => ?_)
  ·replace hp := (br_t h8).symm.trans hp
   refine cx_skip' ?_
   show TX E K30 _
   refine tx_k' hK30 ?_
   refine cx_join' (fun (v5 : (List Int) × Gs) => (⟨64, [], [(12, (Vl (Vs v5.2))), (49, (Vl (Vs g34))), (50, (Vi (r46.1.length : Int))), (51, (Vi x7))], [(Rw (Ki .i64) 3 (Vs v5.2) v5.1), (Rw (Ki .u8) 5 (Vs g34) r46.1)]⟩ : St)) (fun (v5 : (List Int) × Gs) => xy_SimplifyFlatCoords_j2 k rec2 x7 v5.1 = some y2) ?_ ?_
   ·rintro ⟨x5, g902⟩ hp
    replace hp : xy_SimplifyFlatCoords_j2 k rec2 x7 x5 = some y2 := hp
    unfold xy_SimplifyFlatCoords_j2 at hp
    refine cx_region' ?_
    refine s0 (rd_bin' rfl rfl eg_int ru_add) ?_
    refine s0 (rd_move' rfl) ?_
    refine sx_nil' ?_
    show TX E (KY2 _) _
    exact tx_pick' [0, 1] (sub_cons rfl (sub_cons rfl (sub_cons rfl (sub_cons rfl sub_nil)))) (by decide) (pick_cons rfl (pick_cons rfl pick_nil)) (ih2 (x5, (iadd .i64 x7 1)) g902 _ hp)
   intro K31 hK31
   refine cx_block' ?_
   refine cr fun K32 hK32 => ?_
   refine s0 (rd_move' rfl) ?_
   obtain ⟨r54, hr54, hp⟩ := bind_some hp
   refine s0 (rd_atr' (m := 1) rfl rfl rfl rfl hr54 Try.underlying162 info5) ?_
   refine s0 (rd_loadr' rfl (m := 1) (i := x7) (j := 0) rfl rfl hr54 rfl rfl flat5) ?_
   refine s0 (rd_assign' rfl) ?_
   refine s0 (rd_assign' rfl) ?_
   refine nk hK32 ?_
   refine cr fun K33 hK33 => ?_
   refine s0 (rd_move' rfl) ?_
   refine s0 (rd_bin' rfl rfl eg_int ru_eql) ?_
   refine nk hK33 ?_
   refine cx_cond' rfl (fun h9 => ?_) (fun h9 => ?_)
   ·replace hp := (br_t h9).symm.trans hp
    refine cx_region' ?_
    refine s0 (rd_move' rfl) ?_
    refine s0 (rd_move' rfl) ?_
    refine sx_ox' (ox_rowlit' (K := (Ki .i64)) (xs := [x7]) (qs := [(0, [(Vi x7)])]) ⟨rfl, ⟨_, rfl, (lv_vl rfl rfl)⟩, trivial⟩ Try.underlying34 info3 rfl rfl rfl rfl rfl (by kernel_rfl) rfl rfl rfl) (wt_none' rfl) fun g60 => ?_
    obtain ⟨r61, hr61, hp⟩ := bind_some hp
    refine sx_ox' (ox_append' (K := (Ki .i64)) (i := 1) (xs := x6) (ys := ([x7])) rfl rfl rfl (sr_row' (j := 0) rfl rfl rfl Try.underlying34) hr61 Try.underlying34 info3 rfl rfl rfl (H' := [(Rw (Ki .i64) 3 (Vs g60) ([x7])), (Rw (Ki .u8) 5 (Vs g34) r46.1)]) rfl) (wt_none' rfl) fun g61 => ?_
    refine s0 (rd_assign' rfl) ?_
    refine sx_nil' ?_
    show TX E K31 _
    exact tx_pick' [0, 2] (sub_cons rfl (sub_cons rfl (sub_cons rfl (sub_cons rfl sub_nil)))) (by decide) (pick_cons rfl (pick_cons rfl pick_nil)) (hK31 (r61, g61) hp)
   replace hp := (br_f h9).symm.trans hp
   refine cx_skip' ?_
   show TX E K31 _
   exact tx_pick' [0, 1] (sub_cons rfl (sub_cons rfl (sub_cons rfl (sub_cons rfl sub_nil)))) (by decide) (pick_cons rfl (pick_cons rfl pick_nil)) (hK31 (x6, g903) hp)
  replace hp := (br_f h8).symm.trans hp
  refine cx_exit' ?_
  replace hp := Option.some.inj hp
  subst hp
  show TX E (Zg E (Exit.exit 2) _ (Exit.exit 2)) _
  exact tx_zend' g903 rfl [0] (sub_cons rfl sub_nil) (by decide) (pick_cons rfl pick_nil)
 refine zg_out fun w6 => ?_
 show TX E K22 _
 refine tx_k' hK22 ?_
 refine cr fun K34 hK34 => ?_
 refine s0 (rd_move' rfl) ?_
 refine s0 (rd_assign' rfl) ?_
 refine nk hK34 ?_
 refine cx_retc' ?_
 replace hp := Option.some.inj hp
 subst hp
 refine tx_fz' (frz_row 0 [(12, (Vl (Vs w6)), (Sl (Ki .i64) v6)), (63, (Vl (Vs w6)), (Sl (Ki .i64) v6)), (6, (Vl (Vs w6)), (Sl (Ki .i64) v6))] (K := (Ki .i64)) (xs := v6) (by decide) rfl ⟨⟨rfl, frz_it⟩, ⟨rfl, frz_it⟩, ⟨rfl, frz_it⟩, trivial⟩ (H' := []) frzH_refl) ?_
 refine tx_pick' (L' := [(6, (Sl (Ki .i64) v6))]) (H' := []) [] (sub_cons rfl sub_nil) (by decide) pick_nil ?_
 exact tx_ret1' Try.results71 rfl () (rv_tmp' rfl) (List.Sublist.refl _)

def impl_ints (k : Nat) (a0 : List Int) : Option ((List Int)) :=
 (apd 8 [] a0) >>= fun r4 =>
 some r4

theorem impl_ints_sim {k : Nat}  (a0 : List Int) {out : (List Int)} (hp : impl_ints k a0 = some out) : Sx.Fn Try.prog 60 [(Sl (Ki .i64) a0)] [] (fun w : Unit => (Sl (Ki .i64) out)) (fun w => []) := by
 unfold impl_ints at hp
 refine fn_of Try.func60 rfl Try.ntmps60 rfl fun E hM => ?_
 refine cr fun K1 hK1 => ?_
 refine s0 (rd_assign' rfl) ?_
 refine nk hK1 ?_
 refine cr fun K2 hK2 => ?_
 refine s0 (rd_move' rfl) ?_
 refine tx_nilrow' (Ki .i64) 3 ?_
 obtain ⟨r4, hr4, hp⟩ := bind_some hp
 refine sx_ox' (ox_append' (K := (Ki .i64)) (i := 0) (xs := []) (ys := a0) rfl rfl rfl (sr_sl' rfl Try.underlying34) hr4 Try.underlying34 info3 rfl rfl rfl (H' := []) rfl) (wt_none' rfl) fun g4 => ?_
 refine s0 (rd_assign' rfl) ?_
 refine nk hK2 ?_
 refine cx_retc' ?_
 replace hp := Option.some.inj hp
 subst hp
 refine tx_fz' (frz_row 0 [(2, (Vl (Vs g4)), (Sl (Ki .i64) r4)), (4, (Vl (Vs g4)), (Sl (Ki .i64) r4))] (K := (Ki .i64)) (xs := r4) (by decide) rfl ⟨⟨rfl, frz_it⟩, ⟨rfl, frz_it⟩, trivial⟩ (H' := []) frzH_refl) ?_
 refine tx_pick' (L' := [(2, (Sl (Ki .i64) r4))]) (H' := []) [] (sub_cons rfl sub_nil) (by decide) pick_nil ?_
 exact tx_ret1' Try.results60 rfl () (rv_tmp' rfl) (List.Sublist.refl _)

def impl_Simplify (k : Nat) (a0 : List Nat) (a1 : Nat) (a2 : Int) : Option ((List Int) × Bool) :=
 (xy_SimplifyFlatCoords k a0 a1 a2) >>= fun r12 =>
 (impl_ints k r12) >>= fun r13 =>
 some (r13, true)

theorem impl_Simplify_sim {k : Nat}  (a0 : List Nat) (a1 : Nat) (a2 : Int) {out : (List Int) × Bool} (hp : impl_Simplify k a0 a1 a2 = some out) : Sx.Fn Try.prog 34 [(Sl Kf a0), (Vg a1), (Vi a2)] [] (fun w : Unit => (Tu [(Sl (Ki .i64) out.1), (Vb out.2)])) (fun w => []) := by
 unfold impl_Simplify at hp
 refine fnD_of Try.func34 rfl Try.ntmps34 rfl fun E hM => ?_
 refine cr fun K1 hK1 => ?_
 refine sx_ox' (ox_alloc' info34 rfl rfl rfl rfl (l := [Vn]) rfl) (wt_none' rfl) fun q6 => ?_
 refine sx_ox' (ox_alloc' info4 rfl rfl rfl rfl (l := [(Vb false)]) rfl) (wt_none' rfl) fun q7 => ?_
 refine nk hK1 ?_
 refine cr fun K2 hK2 => ?_
 refine s0 (rd_mkfunc' (us := [.pointer (some q6), .pointer (some q7)]) rfl) ?_
 refine sx_ox' (ox_defer' rfl rfl) (wt_none' rfl) fun _ => ?_
 refine nk hK2 ?_
 refine cr fun K3 hK3 => ?_
 refine s0 (rd_move' rfl) ?_
 refine s0 (rd_move' rfl) ?_
 refine s0 (rd_move' rfl) ?_
 obtain ⟨r12, hr12, hp⟩ := bind_some hp
 refine sx_ox' (ox_calln' (ent_fn' Try.func71 isn71 rfl rfl) (xy_SimplifyFlatCoords_sim _ _ _ hr12 : Sx.Fn Try.prog 71 [(Sl Kf a0), (Vg a1), (Vi a2)] [] (fun x : Unit => (Sl (Ki .i64) r12)) (fun x => [])) (Hn := fun x : Unit => [⟨.pointer (some q7), [(Vb false)], 4, none⟩, ⟨.pointer (some q6), [Vn], 34, none⟩]) (fun _ => rfl) rfl rfl) (wt_none' rfl) fun ⟨⟩ => ?_
 obtain ⟨r13, hr13, hp⟩ := bind_some hp
 refine sx_ox' (ox_calln' (ent_fn' Try.func60 isn60 rfl rfl) (impl_ints_sim _ hr13 : Sx.Fn Try.prog 60 [(Sl (Ki .i64) r12)] [] (fun x : Unit => (Sl (Ki .i64) r13)) (fun x => [])) (Hn := fun x : Unit => [⟨.pointer (some q7), [(Vb false)], 4, none⟩, ⟨.pointer (some q6), [Vn], 34, none⟩]) (fun _ => rfl) rfl rfl) (wt_none' rfl) fun ⟨⟩ => ?_
 refine sx_ox' (ox_store' (i := 1) (o := 0) rfl rfl (lv_sl _ _) ⟨rfl, rfl, rfl, rfl⟩ rfl info34 rfl (H' := [⟨.pointer (some q7), [(Vb false)], 4, none⟩, ⟨.pointer (some q6), [(Sl (Ki .i64) r13)], 34, none⟩]) rfl) (wt_none' rfl) fun _ => ?_
 refine sx_ox' (ox_store' (i := 0) (o := 0) rfl rfl (lv_vl rfl rfl) ⟨rfl, rfl, rfl, rfl⟩ rfl info4 rfl (H' := [⟨.pointer (some q7), [(Vb true)], 4, none⟩, ⟨.pointer (some q6), [(Sl (Ki .i64) r13)], 34, none⟩]) rfl) (wt_none' rfl) fun _ => ?_
 refine nk hK3 ?_
 refine cx_retc' ?_
 replace hp := Option.some.inj hp
 subst hp
 refine tx_leave' (.inl rfl) rfl idle70 rfl Try.func70 isn70 rfl ?_
 refine tx_pick' (L' := [(6, (Vp q6)), (7, (Vp q7))]) (H' := [⟨.pointer (some q6), [(Sl (Ki .i64) r13)], 34, none⟩, ⟨.pointer (some q7), [(Vb true)], 4, none⟩]) [1, 0] (sub_cons rfl (sub_cons rfl sub_nil)) (by decide) (pick_cons rfl (pick_cons rfl pick_nil)) ?_
 exact tx_ret2' Try.results34 rfl () (rv_cell' (i := 0) (o := 0) rfl ⟨rfl, rfl, rfl, rfl⟩ rfl flat34) (rv_cell' (i := 1) (o := 0) rfl ⟨rfl, rfl, rfl, rfl⟩ rfl flat4) rfl (List.nil_sublist _)

def spec_Whole_Minus_j1 (k : Nat) (a0_1 : List Int) (x1 : Bool) : Option (Bool × (List Int)) :=
 some (x1, a0_1)
def spec_Whole_Minus (k : Nat) (a0_0 : Bool) (a0_1 : List Int) : Option (Bool × (List Int)) :=
 br (!a0_0)
  (spec_Whole_Minus_j1 k a0_1 (decide (0 < (a0_1.length : Int))))
  (spec_Whole_Minus_j1 k a0_1 false)

theorem spec_Whole_Minus_sim {k : Nat}  (a0_0 : Bool) (a0_1 : List Int) {out : Bool × (List Int)} (hp : spec_Whole_Minus k a0_0 a0_1 = some out) : Sx.Fn Try.prog 148 [(Ag [(Vb a0_0), (Sl (Ki .u32) a0_1)])] [] (fun w : Unit => (Ag [(Vb out.1), (Sl (Ki .u32) out.2)])) (fun w => []) := by
 unfold spec_Whole_Minus at hp
 refine fn_of Try.func148 rfl Try.ntmps148 rfl fun E hM => ?_
 refine cr fun K1 hK1 => ?_
 refine sx_ox' (ox_box' rfl (lv_ag _) rfl rfl) (wt_none' rfl) fun q1 => ?_
 refine sx_ox' (ox_alloc' info72 rfl rfl rfl rfl (l := [(Vb false), Vn]) rfl) (wt_none' rfl) fun q2 => ?_
 refine nk hK1 ?_
 refine cr fun K2 hK2 => ?_
 refine s0 (rd_field0' rfl Try.underlying72 rfl info4 rfl) ?_
 refine s0 (rd_load' (i := 1) (o := 0) rfl ⟨rfl, rfl, rfl, rfl⟩ rfl flat4) ?_
 refine s0 (rd_un' rfl ru_not) ?_
 refine s0 (rd_move' rfl) ?_
 refine sx_cutn' 5 (fun (v1 : Bool) => (⟨15, [], [(1, (Vp q1)), (2, (Vp q2)), (11, (Vb v1))], [⟨.pointer (some q1), [(Vb a0_0), (Sl (Ki .u32) a0_1)], 72, none⟩, ⟨.pointer (some q2), [(Vb false), Vn], 72, none⟩]⟩ : St)) (fun (v1 : Bool) => spec_Whole_Minus_j1 k a0_1 v1 = some out) ?_ ?_
 ·rintro x1 hp
  replace hp : spec_Whole_Minus_j1 k a0_1 x1 = some out := hp
  unfold spec_Whole_Minus_j1 at hp
  refine s0 (rd_field' (off := 1) rfl Try.underlying72 rfl info70 rfl) ?_
  refine s0 (rd_load' (i := 0) (o := 1) rfl ⟨rfl, rfl, rfl, rfl⟩ rfl flat70) ?_
  refine s0 (rd_build' (pls := [(0, 1), (1, 1)]) (qs := [(0, [(Vb x1)]), (1, [(Sl (Ki .u32) a0_1)])]) (r := [(Vb x1), (Sl (Ki .u32) a0_1)]) ⟨rfl, ⟨_, rfl, (lv_vl rfl rfl)⟩, ⟨rfl, ⟨_, rfl, (lv_sl _ _)⟩, trivial⟩⟩ Try.underlying72 has72 places72 info72 rfl rfl rfl) ?_
  refine sx_ox' (ox_store' (i := 1) (o := 0) rfl rfl (lv_ag _) ⟨rfl, rfl, rfl, rfl⟩ rfl info72 rfl (H' := [⟨.pointer (some q1), [(Vb a0_0), (Sl (Ki .u32) a0_1)], 72, none⟩, ⟨.pointer (some q2), [(Vb x1), (Sl (Ki .u32) a0_1)], 72, none⟩]) rfl) (wt_none' rfl) fun _ => ?_
  refine nk hK2 ?_
  refine cx_retc' ?_
  replace hp := Option.some.inj hp
  subst hp
  refine tx_pick' (L' := [(2, (Vp q2))]) (H' := [⟨.pointer (some q2), [(Vb x1), (Sl (Ki .u32) a0_1)], 72, none⟩]) [1] (sub_cons rfl sub_nil) (by decide) (pick_cons rfl pick_nil) ?_
  exact tx_ret1' Try.results148 rfl () (rv_cell_agg' (i := 0) (o := 0) (nn := 2) rfl ⟨rfl, rfl, rfl, rfl⟩ rfl agg72 rfl) (List.nil_sublist _)
 intro K3 hK3
 rcases br_cases hp with ⟨h1, hp⟩ | ⟨h1, hp⟩
 ·refine sx_rd' (rd_field' (off := 1) rfl Try.underlying72 rfl info70 rfl) rfl rfl (wt_is' (wt_guard' rfl rfl rfl) (beq_tt h1)) ?_
  refine sx_rd' (rd_load' (i := 1) (o := 1) rfl ⟨rfl, rfl, rfl, rfl⟩ rfl flat70) rfl rfl (wt_is' (wt_guard' rfl rfl rfl) (beq_tt h1)) ?_
  refine sx_rd' (rd_len' rfl Try.underlying70) rfl rfl (wt_is' (wt_guard' rfl rfl rfl) (beq_tt h1)) ?_
  refine sx_rd' (rd_bin' rfl rfl eg_int ru_gtr) rfl rfl (wt_is' (wt_guard' rfl rfl rfl) (beq_tt h1)) ?_
  refine s0 (rd_pick_true' rfl h1 rfl) ?_
  refine sx_nil' ?_
  show TX E K3 _
  exact tx_pick' [1, 0] (sub_cons rfl (sub_cons rfl (sub_cons rfl sub_nil))) (by decide) (pick_cons rfl (pick_cons rfl pick_nil)) (hK3 (decide (0 < (a0_1.length : Int))) hp)
 refine sx_skip' rfl rfl (wt_is' (wt_guard' rfl rfl rfl) (beq_ft h1)) ?_
 refine sx_skip' rfl rfl (wt_is' (wt_guard' rfl rfl rfl) (beq_ft h1)) ?_
 refine sx_skip' rfl rfl (wt_is' (wt_guard' rfl rfl rfl) (beq_ft h1)) ?_
 refine sx_skip' rfl rfl (wt_is' (wt_guard' rfl rfl rfl) (beq_ft h1)) ?_
 refine s0 (rd_pick_false' rfl h1 rfl) ?_
 refine sx_nil' ?_
 show TX E K3 _
 exact tx_pick' [1, 0] (sub_cons rfl (sub_cons rfl (sub_cons rfl sub_nil))) (by decide) (pick_cons rfl (pick_cons rfl pick_nil)) (hK3 false hp)

def spec_Dyadic_Minus (k : Nat) (a0_0 : Bool) (a0_1 : List Int) (a0_2 : Int) : Option (Bool × (List Int) × Int) :=
 (spec_Whole_Minus k a0_0 a0_1) >>= fun r5 =>
 some (r5.1, r5.2, a0_2)

theorem spec_Dyadic_Minus_sim {k : Nat}  (a0_0 : Bool) (a0_1 : List Int) (a0_2 : Int) {out : Bool × (List Int) × Int} (hp : spec_Dyadic_Minus k a0_0 a0_1 a0_2 = some out) : Sx.Fn Try.prog 122 [(Ag [(Vb a0_0), (Sl (Ki .u32) a0_1), (Vi a0_2)])] [] (fun w : Unit => (Ag [(Vb out.1), (Sl (Ki .u32) out.2.1), (Vi out.2.2)])) (fun w => []) := by
 unfold spec_Dyadic_Minus at hp
 refine fn_of Try.func122 rfl Try.ntmps122 rfl fun E hM => ?_
 refine cr fun K1 hK1 => ?_
 refine sx_ox' (ox_box' rfl (lv_ag _) rfl rfl) (wt_none' rfl) fun q1 => ?_
 refine sx_ox' (ox_alloc' info74 rfl rfl rfl rfl (l := [(Vb false), Vn, (Vi 0)]) rfl) (wt_none' rfl) fun q2 => ?_
 refine nk hK1 ?_
 refine cx_seq' fun K2 hK2 => ?_
 refine cx_plan' [] [(6, 1)] [(0, 1), (1, 1), (3, 1), (4, 1), (2, 0), (5, 1), (6, 0)] mixed (by kernel_rfl) ?_
 refine px_rd' rfl (rd_field0' rfl Try.underlying74 rfl info72 rfl) rfl rfl (wt_none' rfl) ?_
 refine px_rd' rfl (rd_load_agg' (i := 1) (o := 0) (nn := 2) rfl ⟨rfl, rfl, rfl, rfl⟩ rfl agg72 (l' := [(Vb a0_0), (Sl (Ki .u32) a0_1)]) rfl) rfl rfl (wt_none' rfl) ?_
 refine px_rd' rfl (rd_field' (off := 2) rfl Try.underlying74 rfl info3 rfl) rfl rfl (wt_none' rfl) ?_
 refine px_rd' rfl (rd_load' (i := 1) (o := 2) rfl ⟨rfl, rfl, rfl, rfl⟩ rfl flat3) rfl rfl (wt_none' rfl) ?_
 obtain ⟨r5, hr5, hp⟩ := bind_some hp
 refine px_ox' rfl (ox_calln' (ent_fn' Try.func148 isn148 rfl rfl) (spec_Whole_Minus_sim _ _ hr5 : Sx.Fn Try.prog 148 [(Ag [(Vb a0_0), (Sl (Ki .u32) a0_1)])] [] (fun x : Unit => (Ag [(Vb r5.1), (Sl (Ki .u32) r5.2)])) (fun x => [])) (Hn := fun x : Unit => [⟨.pointer (some q2), [(Vb false), Vn, (Vi 0)], 74, none⟩, ⟨.pointer (some q1), [(Vb a0_0), (Sl (Ki .u32) a0_1), (Vi a0_2)], 74, none⟩]) (fun _ => rfl) rfl rfl) rfl bs_nil (wt_none' rfl) fun ⟨⟩ => ?_
 refine px_rd' rfl (rd_build' (pls := [(0, 2), (2, 1)]) (qs := [(0, [(Vb r5.1), (Sl (Ki .u32) r5.2)]), (1, [(Vi a0_2)])]) (r := [(Vb r5.1), (Sl (Ki .u32) r5.2), (Vi a0_2)]) ⟨rfl, ⟨_, rfl, (lv_ag _)⟩, ⟨rfl, ⟨_, rfl, (lv_vl rfl rfl)⟩, trivial⟩⟩ Try.underlying74 has74 places74 info74 rfl rfl rfl) rfl rfl (wt_none' rfl) ?_
 refine px_oxv' rfl (oxv_store (i := 0) (o := 0) rfl rfl (lv_ag _) ⟨rfl, rfl, rfl, rfl⟩ rfl info74 rfl (H' := [⟨.pointer (some q2), [(Vb r5.1), (Sl (Ki .u32) r5.2), (Vi a0_2)], 74, none⟩, ⟨.pointer (some q1), [(Vb a0_0), (Sl (Ki .u32) a0_1), (Vi a0_2)], 74, none⟩]) rfl) rfl rfl bo_nil (wt_none' rfl) fun _ => ?_
 refine px_nil' ?_
 show TX E K2 _
 refine tx_k' hK2 ?_
 refine cx_retc' ?_
 replace hp := Option.some.inj hp
 subst hp
 refine tx_pick' (L' := [(2, (Vp q2))]) (H' := [⟨.pointer (some q2), [(Vb r5.1), (Sl (Ki .u32) r5.2), (Vi a0_2)], 74, none⟩]) [0] (sub_cons rfl sub_nil) (by decide) (pick_cons rfl pick_nil) ?_
 exact tx_ret1' Try.results122 rfl () (rv_cell_agg' (i := 0) (o := 0) (nn := 3) rfl ⟨rfl, rfl, rfl, rfl⟩ rfl agg74 rfl) (List.nil_sublist _)

def spec_Whole_Sign (k : Nat) (a0_0 : Bool) (a0_1 : List Int) : Option (Int) :=
 br (decide ((a0_1.length : Int) = 0))
  (some 0)
  (br a0_0
   (some (-1))
   (some 1))

theorem spec_Whole_Sign_sim {k : Nat}  (a0_0 : Bool) (a0_1 : List Int) {out : Int} (hp : spec_Whole_Sign k a0_0 a0_1 = some out) : Sx.Fn Try.prog 123 [(Ag [(Vb a0_0), (Sl (Ki .u32) a0_1)])] [] (fun w : Unit => (Vi out)) (fun w => []) := by
 unfold spec_Whole_Sign at hp
 refine fn_of Try.func123 rfl Try.ntmps123 rfl fun E hM => ?_
 refine cr fun K1 hK1 => ?_
 refine sx_ox' (ox_box' rfl (lv_ag _) rfl rfl) (wt_none' rfl) fun q1 => ?_
 refine s0 (rd_assign' rfl) ?_
 refine nk hK1 ?_
 refine cx_seq' fun K2 hK2 => ?_
 refine cx_block' ?_
 refine cr fun K3 hK3 => ?_
 refine s0 (rd_field' (off := 1) rfl Try.underlying72 rfl info70 rfl) ?_
 refine s0 (rd_load' (i := 0) (o := 1) rfl ⟨rfl, rfl, rfl, rfl⟩ rfl flat70) ?_
 refine s0 (rd_len' rfl Try.underlying70) ?_
 refine s0 (rd_bin' rfl rfl eg_int ru_eql) ?_
 refine s0 (rd_assign' rfl) ?_
 refine nk hK3 ?_
 refine cx_cond' rfl (fun h1 => ?_) (fun h1 => ?_)
 ·replace hp := (br_t h1).symm.trans hp
  refine cr fun K4 hK4 => ?_
  refine s0 (rd_assign' rfl) ?_
  refine nk hK4 ?_
  refine cx_retc' ?_
  replace hp := Option.some.inj hp
  subst hp
  refine tx_pick' (L' := [(2, (Vi 0))]) (H' := []) [] (sub_cons rfl sub_nil) (by decide) pick_nil ?_
  exact tx_ret1' Try.results123 rfl () (rv_tmp' rfl) (List.Sublist.refl _)
 replace hp := (br_f h1).symm.trans hp
 refine cr fun K5 hK5 => ?_
 refine s0 (rd_field0' rfl Try.underlying72 rfl info4 rfl) ?_
 refine s0 (rd_load' (i := 0) (o := 0) rfl ⟨rfl, rfl, rfl, rfl⟩ rfl flat4) ?_
 refine s0 (rd_assign' rfl) ?_
 refine nk hK5 ?_
 refine cx_cond' rfl (fun h2 => ?_) (fun h2 => ?_)
 ·replace hp := (br_t h2).symm.trans hp
  refine cr fun K6 hK6 => ?_
  refine s0 (rd_assign' rfl) ?_
  refine nk hK6 ?_
  refine cx_retc' ?_
  replace hp := Option.some.inj hp
  subst hp
  refine tx_pick' (L' := [(2, (Vi (-1)))]) (H' := []) [] (sub_cons rfl sub_nil) (by decide) pick_nil ?_
  exact tx_ret1' Try.results123 rfl () (rv_tmp' rfl) (List.Sublist.refl _)
 replace hp := (br_f h2).symm.trans hp
 refine cx_skip' ?_
 show TX E K2 _
 refine tx_k' hK2 ?_
 refine cr fun K7 hK7 => ?_
 refine s0 (rd_assign' rfl) ?_
 refine nk hK7 ?_
 refine cx_retc' ?_
 replace hp := Option.some.inj hp
 subst hp
 refine tx_pick' (L' := [(2, (Vi 1))]) (H' := []) [] (sub_cons rfl sub_nil) (by decide) pick_nil ?_
 exact tx_ret1' Try.results123 rfl () (rv_tmp' rfl) (List.Sublist.refl _)

def spec_Dyadic_Sign (k : Nat) (a0_0 : Bool) (a0_1 : List Int) (a0_2 : Int) : Option (Int) :=
 (spec_Whole_Sign k a0_0 a0_1) >>= fun r5 =>
 some r5

theorem spec_Dyadic_Sign_sim {k : Nat}  (a0_0 : Bool) (a0_1 : List Int) (a0_2 : Int) {out : Int} (hp : spec_Dyadic_Sign k a0_0 a0_1 a0_2 = some out) : Sx.Fn Try.prog 82 [(Ag [(Vb a0_0), (Sl (Ki .u32) a0_1), (Vi a0_2)])] [] (fun w : Unit => (Vi out)) (fun w => []) := by
 unfold spec_Dyadic_Sign at hp
 refine fn_of Try.func82 rfl Try.ntmps82 rfl fun E hM => ?_
 refine cr fun K1 hK1 => ?_
 refine sx_ox' (ox_box' rfl (lv_ag _) rfl rfl) (wt_none' rfl) fun q1 => ?_
 refine s0 (rd_assign' rfl) ?_
 refine nk hK1 ?_
 refine cr fun K2 hK2 => ?_
 refine s0 (rd_field0' rfl Try.underlying74 rfl info72 rfl) ?_
 refine s0 (rd_load_agg' (i := 0) (o := 0) (nn := 2) rfl ⟨rfl, rfl, rfl, rfl⟩ rfl agg72 (l' := [(Vb a0_0), (Sl (Ki .u32) a0_1)]) rfl) ?_
 obtain ⟨r5, hr5, hp⟩ := bind_some hp
 refine sx_ox' (ox_calln' (ent_fn' Try.func123 isn123 rfl rfl) (spec_Whole_Sign_sim _ _ hr5 : Sx.Fn Try.prog 123 [(Ag [(Vb a0_0), (Sl (Ki .u32) a0_1)])] [] (fun x : Unit => (Vi r5)) (fun x => [])) (Hn := fun x : Unit => [⟨.pointer (some q1), [(Vb a0_0), (Sl (Ki .u32) a0_1), (Vi a0_2)], 74, none⟩]) (fun _ => rfl) rfl rfl) (wt_none' rfl) fun ⟨⟩ => ?_
 refine s0 (rd_assign' rfl) ?_
 refine nk hK2 ?_
 refine cx_retc' ?_
 replace hp := Option.some.inj hp
 subst hp
 refine tx_pick' (L' := [(2, (Vi r5))]) (H' := []) [] (sub_cons rfl sub_nil) (by decide) pick_nil ?_
 exact tx_ret1' Try.results82 rfl () (rv_tmp' rfl) (List.Sublist.refl _)

def spec_Whole_Up_l1s (a0_1 : List Int) (a1 : Int) (k : Nat) (rec1 : ((List Int) × Int × Int) → Option ((List Int) × Int)) (x1 : List Int) (x2 : Int) (x3 : Int) : Option ((List Int) × Int) :=
 br (decide (x3 < (a0_1.length : Int)))
  ((idx a0_1 x3) >>= fun r30 =>
  (irem a1 32) >>= fun r35 =>
  (ishl .u64 (icv .u64 r30) r35) >>= fun r36 =>
  (apd 4 x1 ([ior .u32 (icv .u32 r36) x2])) >>= fun r43 =>
  (ishr .u64 r36 32) >>= fun r45 =>
  rec1 (r43, (icv .u32 r45), (iadd .i64 x3 1)))
  (some (x1, x2))
def spec_Whole_Up_l1 (a0_1 : List Int) (a1 : Int) : Nat → ((List Int) × Int × Int) → Option ((List Int) × Int)
 | 0, _ => none
 | k + 1, v => spec_Whole_Up_l1s a0_1 a1 k (spec_Whole_Up_l1 a0_1 a1 k) v.1 v.2.1 v.2.2
def spec_Whole_Up (k : Nat) (a0_0 : Bool) (a0_1 : List Int) (a1 : Int) : Option (Bool × (List Int)) :=
 br (decide ((a0_1.length : Int) = 0))
  (some (a0_0, a0_1))
  ((iquo .i64 a1 32) >>= fun r16 =>
  (iquo .i64 a1 32) >>= fun r18 =>
  (mk 4 0 r16 (iadd .i64 (iadd .i64 r18 (a0_1.length : Int)) 1)) >>= fun r24 =>
  (spec_Whole_Up_l1 a0_1 a1 k (r24, 0, 0)) >>= fun v2 =>
  (apd 4 v2.1 ([v2.2])) >>= fun r53 =>
  (spec_trim k r53) >>= fun r54 =>
  some (a0_0, r54))

theorem spec_Whole_Up_sim {k : Nat}  (a0_0 : Bool) (a0_1 : List Int) (a1 : Int) {out : Bool × (List Int)} (hp : spec_Whole_Up k a0_0 a0_1 a1 = some out) : Sx.Fn Try.prog 145 [(Ag [(Vb a0_0), (Sl (Ki .u32) a0_1)]), (Vi a1)] [] (fun w : Unit => (Ag [(Vb out.1), (Sl (Ki .u32) out.2)])) (fun w => []) := by
 unfold spec_Whole_Up at hp
 refine fn_of Try.func145 rfl Try.ntmps145 rfl fun E hM => ?_
 refine cr fun K1 hK1 => ?_
 refine sx_ox' (ox_box' rfl (lv_ag _) rfl rfl) (wt_none' rfl) fun q2 => ?_
 refine sx_ox' (ox_alloc' info72 rfl rfl rfl rfl (l := [(Vb false), Vn]) rfl) (wt_none' rfl) fun q4 => ?_
 refine nk hK1 ?_
 refine cx_seq' fun K2 hK2 => ?_
 refine cr fun K3 hK3 => ?_
 refine s0 (rd_field' (off := 1) rfl Try.underlying72 rfl info70 rfl) ?_
 refine s0 (rd_load' (i := 1) (o := 1) rfl ⟨rfl, rfl, rfl, rfl⟩ rfl flat70) ?_
 refine s0 (rd_len' rfl Try.underlying70) ?_
 refine s0 (rd_bin' rfl rfl eg_int ru_eql) ?_
 refine nk hK3 ?_
 refine cx_cond' rfl (fun h1 => ?_) (fun h1 => ?_)
 ·replace hp := (br_t h1).symm.trans hp
  refine cr fun K4 hK4 => ?_
  refine s0 (rd_load_agg' (i := 1) (o := 0) (nn := 2) rfl ⟨rfl, rfl, rfl, rfl⟩ rfl agg72 (l' := [(Vb a0_0), (Sl (Ki .u32) a0_1)]) rfl) ?_
  refine sx_ox' (ox_store' (i := 0) (o := 0) rfl rfl (lv_ag _) ⟨rfl, rfl, rfl, rfl⟩ rfl info72 rfl (H' := [⟨.pointer (some q4), [(Vb a0_0), (Sl (Ki .u32) a0_1)], 72, none⟩, ⟨.pointer (some q2), [(Vb a0_0), (Sl (Ki .u32) a0_1)], 72, none⟩]) rfl) (wt_none' rfl) fun _ => ?_
  refine nk hK4 ?_
  refine cx_retc' ?_
  replace hp := Option.some.inj hp
  subst hp
  refine tx_pick' (L' := [(4, (Vp q4))]) (H' := [⟨.pointer (some q4), [(Vb a0_0), (Sl (Ki .u32) a0_1)], 72, none⟩]) [0] (sub_cons rfl sub_nil) (by decide) (pick_cons rfl pick_nil) ?_
  exact tx_ret1' Try.results145 rfl () (rv_cell_agg' (i := 0) (o := 0) (nn := 2) rfl ⟨rfl, rfl, rfl, rfl⟩ rfl agg72 rfl) (List.nil_sublist _)
 replace hp := (br_f h1).symm.trans hp
 refine cx_skip' ?_
 show TX E K2 _
 refine tx_k' hK2 ?_
 refine cr fun K5 hK5 => ?_
 refine s0 (rd_move' rfl) ?_
 obtain ⟨r16, hr16, hp⟩ := bind_some hp
 refine s0 (rd_bin' rfl rfl eg_int (ru_quo hr16)) ?_
 refine s0 (rd_move' rfl) ?_
 obtain ⟨r18, hr18, hp⟩ := bind_some hp
 refine s0 (rd_bin' rfl rfl eg_int (ru_quo hr18)) ?_
 refine s0 (rd_field' (off := 1) rfl Try.underlying72 rfl info70 rfl) ?_
 refine s0 (rd_load' (i := 1) (o := 1) rfl ⟨rfl, rfl, rfl, rfl⟩ rfl flat70) ?_
 refine s0 (rd_len' rfl Try.underlying70) ?_
 refine s0 (rd_bin' rfl rfl eg_int ru_add) ?_
 refine s0 (rd_bin' rfl rfl eg_int ru_add) ?_
 obtain ⟨r24, hr24, hp⟩ := bind_some hp
 refine sx_ox' (ox_make' (K := (Ki .u32)) rfl rfl hr24 rfl Try.underlying70 info183 rfl rfl rfl rfl rfl) (wt_none' rfl) fun g24 => ?_
 refine s0 (rd_assign' rfl) ?_
 refine nk hK5 ?_
 refine cr fun K6 hK6 => ?_
 refine s0 (rd_assign' rfl) ?_
 refine nk hK6 ?_
 refine cx_seq' fun K7 hK7 => ?_
 refine cr fun K8 hK8 => ?_
 refine s0 (rd_field' (off := 1) rfl Try.underlying72 rfl info70 rfl) ?_
 refine s0 (rd_load' (i := 2) (o := 1) rfl ⟨rfl, rfl, rfl, rfl⟩ rfl flat70) ?_
 refine s0 (rd_len' rfl Try.underlying70) ?_
 refine s0 (rd_move' rfl) ?_
 refine nk hK8 ?_
 refine cx_block' ?_
 obtain ⟨v2, hy1, hp⟩ := bind_some hp
 refine cx_loopg' (F := spec_Whole_Up_l1 a0_1 a1) (G := fun k R v => spec_Whole_Up_l1s a0_1 a1 k R v.1 v.2.1 v.2.2) (x := (r24, 0, 0)) (gh := g24) (fun (v1 : (List Int) × Int × Int) (w1 : Gs) => (⟨56, [], [(1, (Vi a1)), (2, (Vp q2)), (4, (Vp q4)), (5, (Vl (Vs w1))), (6, (Vl (.int .u32 v1.2.1))), (26, (Sl (Ki .u32) a0_1)), (27, (Vi (a0_1.length : Int))), (28, (Vi v1.2.2))], [⟨.pointer (some q2), [(Vb a0_0), (Sl (Ki .u32) a0_1)], 72, none⟩, ⟨.pointer (some q4), [(Vb false), Vn], 72, none⟩, (Rw (Ki .u32) 183 (Vs w1) v1.1)]⟩ : St)) (fun (v2 : (List Int) × Int) => Zg E (Exit.exit 0) (fun (w2 : Gs) => (⟨56, [], [(2, (Vp q2)), (4, (Vp q4)), (5, (Vl (Vs w2))), (6, (Vl (.int .u32 v2.2)))], [⟨.pointer (some q2), [(Vb a0_0), (Sl (Ki .u32) a0_1)], 72, none⟩, ⟨.pointer (some q4), [(Vb false), Vn], 72, none⟩, (Rw (Ki .u32) 183 (Vs w2) v2.1)]⟩ : St))) (fun _ => rfl) (fun _ _ => rfl) ?_ hy1 (tx_to' rfl [2, 1, 0] (sub_cons rfl (sub_cons rfl (sub_cons rfl (sub_cons rfl (sub_cons rfl (sub_cons rfl (sub_cons rfl (sub_cons rfl sub_nil)))))))) (by decide) (pick_cons rfl (pick_cons rfl (pick_cons rfl pick_nil)))) ?_
 ·clear hp hy1
  clear v2
  intro k rec1 KY1 ih1
  rintro ⟨x1, x2, x3⟩ g901 y1 hp
  replace hp : spec_Whole_Up_l1s a0_1 a1 k rec1 x1 x2 x3 = some y1 := hp
  unfold spec_Whole_Up_l1s at hp
  refine cr fun K15 hK15 => ?_
  refine s0 (rd_bin' rfl rfl eg_int ru_lss) ?_
  refine nk hK15 ?_
  refine cx_seq' fun K16 hK16 => ?_
  refine cx_cond' rfl (fun h4 => ?_) (fun h4 => ?_)
  ·replace hp := (br_t h4).symm.trans hp
   refine cx_skip' ?_
   show TX E K16 _
   refine tx_k' hK16 ?_
   refine cx_seq' fun K17 hK17 => ?_
   refine cx_block' ?_
   refine cr fun K18 hK18 => ?_
   obtain ⟨r30, hr30, hp⟩ := bind_some hp
   refine s0 (rd_at' (K := (Ki .u32)) rfl rfl hr30 Try.underlying70 info183) ?_
   refine s0 (rd_load_pt' rfl rfl flat183) ?_
   refine s0 (rd_assign' rfl) ?_
   refine nk hK18 ?_
   refine cr fun K19 hK19 => ?_
   refine s0 (rd_move' rfl) ?_
   refine s0 (rd_conv' rfl (ru_i2i (by rw [Try.underlying183]; rfl) Try.underlying107)) ?_
   refine s0 (rd_move' rfl) ?_
   obtain ⟨r35, hr35, hp⟩ := bind_some hp
   refine s0 (rd_bin' rfl rfl eg_int (ru_rem hr35)) ?_
   obtain ⟨r36, hr36, hp⟩ := bind_some hp
   refine s0 (rd_bin' rfl rfl eg_int (ru_shl hr36)) ?_
   refine s0 (rd_assign' rfl) ?_
   refine nk hK19 ?_
   refine cr fun K20 hK20 => ?_
   refine s0 (rd_move' rfl) ?_
   refine s0 (rd_move' rfl) ?_
   refine s0 (rd_conv' rfl (ru_i2i (by rw [Try.underlying107]; rfl) Try.underlying183)) ?_
   refine s0 (rd_move' rfl) ?_
   refine s0 (rd_bin' rfl rfl eg_int ru_or) ?_
   refine sx_ox' (ox_rowlit' (K := (Ki .u32)) (xs := [ior .u32 (icv .u32 r36) x2]) (qs := [(0, [(Vl (.int .u32 (ior .u32 (icv .u32 r36) x2)))])]) ⟨rfl, ⟨_, rfl, (lv_vl rfl rfl)⟩, trivial⟩ Try.underlying70 info183 rfl rfl rfl rfl rfl (by kernel_rfl) rfl rfl rfl) (wt_none' rfl) fun g42 => ?_
   obtain ⟨r43, hr43, hp⟩ := bind_some hp
   refine sx_ox' (ox_append' (K := (Ki .u32)) (i := 3) (xs := x1) (ys := ([ior .u32 (icv .u32 r36) x2])) rfl rfl rfl (sr_row' (j := 0) rfl rfl rfl Try.underlying70) hr43 Try.underlying70 info183 rfl rfl rfl (H' := [(Rw (Ki .u32) 183 (Vs g42) ([ior .u32 (icv .u32 r36) x2])), ⟨.pointer (some q2), [(Vb a0_0), (Sl (Ki .u32) a0_1)], 72, none⟩, ⟨.pointer (some q4), [(Vb false), Vn], 72, none⟩]) rfl) (wt_none' rfl) fun g43 => ?_
   refine s0 (rd_assign' rfl) ?_
   refine nk hK20 ?_
   refine cx_region' ?_
   refine s0 (rd_move' rfl) ?_
   obtain ⟨r45, hr45, hp⟩ := bind_some hp
   refine s0 (rd_bin' rfl rfl eg_int (ru_shr hr45)) ?_
   refine s0 (rd_conv' rfl (ru_i2i (by rw [Try.underlying107]; rfl) Try.underlying183)) ?_
   refine s0 (rd_assign' rfl) ?_
   refine nk hK17 ?_
   refine cx_region' ?_
   refine s0 (rd_bin' rfl rfl eg_int ru_add) ?_
   refine s0 (rd_move' rfl) ?_
   refine sx_nil' ?_
   show TX E (KY1 _) _
   exact tx_pick' [2, 3, 0] (sub_cons rfl (sub_cons rfl (sub_cons rfl (sub_cons rfl (sub_cons rfl (sub_cons rfl (sub_cons rfl (sub_cons rfl sub_nil)))))))) (by decide) (pick_cons rfl (pick_cons rfl (pick_cons rfl pick_nil))) (ih1 (r43, (icv .u32 r45), (iadd .i64 x3 1)) g43 _ hp)
  replace hp := (br_f h4).symm.trans hp
  refine cx_exit' ?_
  replace hp := Option.some.inj hp
  subst hp
  show TX E (Zg E (Exit.exit 0) _ (Exit.exit 0)) _
  exact tx_zend' g901 rfl [0, 1, 2] (sub_cons rfl (sub_cons rfl (sub_cons rfl (sub_cons rfl sub_nil)))) (by decide) (pick_cons rfl (pick_cons rfl (pick_cons rfl pick_nil)))
 refine zg_out fun w2 => ?_
 show TX E K7 _
 refine tx_k' hK7 ?_
 refine cx_seq' fun K21 hK21 => ?_
 refine cx_plan' [q2.block] [(5, 1), (8, 1)] [(0, 2), (1, 2), (2, 1), (3, 1), (4, 0), (5, 0), (6, 0), (7, 1), (8, 0)] mixed (by kernel_rfl) ?_
 refine px_rb' rfl (rb_field0' rfl Try.underlying72 rfl info4 rfl) rfl rfl (wt_none' rfl) ?_
 refine px_rb' rfl (rb_load' (i := 0) (o := 0) rfl ⟨rfl, rfl, rfl, rfl⟩ rfl flat4 (by simp)) rfl rfl (wt_none' rfl) ?_
 refine px_rd' rfl (rd_move' rfl) rfl rfl (wt_none' rfl) ?_
 refine px_rd' rfl (rd_move' rfl) rfl rfl (wt_none' rfl) ?_
 refine px_ox' rfl (ox_rowlit' (K := (Ki .u32)) (xs := [v2.2]) (qs := [(0, [(Vl (.int .u32 v2.2))])]) ⟨rfl, ⟨_, rfl, (lv_vl rfl rfl)⟩, trivial⟩ Try.underlying70 info183 rfl rfl rfl rfl rfl (by kernel_rfl) rfl rfl rfl) rfl (bs_cons (m := 0) rfl rfl rfl bs_nil) (wt_none' rfl) fun g52 => ?_
 obtain ⟨r53, hr53, hp⟩ := bind_some hp
 refine px_ox' rfl (ox_append' (K := (Ki .u32)) (i := 3) (xs := v2.1) (ys := ([v2.2])) rfl rfl rfl (sr_row' (j := 0) rfl rfl rfl Try.underlying70) hr53 Try.underlying70 info183 rfl rfl rfl (H' := [(Rw (Ki .u32) 183 (Vs g52) ([v2.2])), ⟨.pointer (some q2), [(Vb a0_0), (Sl (Ki .u32) a0_1)], 72, none⟩, ⟨.pointer (some q4), [(Vb false), Vn], 72, none⟩]) rfl) rfl (bs_cons (m := 1) rfl rfl rfl bs_nil) (wt_none' rfl) fun g53 => ?_
 refine tx_fz' (frz_row 0 [(53, (Vl (Vs g53)), (Sl (Ki .u32) r53))] (K := (Ki .u32)) (xs := r53) (by decide) rfl ⟨⟨rfl, frz_it⟩, trivial⟩ (H' := [(Rw (Ki .u32) 183 (Vs g52) ([v2.2])), ⟨.pointer (some q2), [(Vb a0_0), (Sl (Ki .u32) a0_1)], 72, none⟩, ⟨.pointer (some q4), [(Vb false), Vn], 72, none⟩]) frzH_refl) ?_
 obtain ⟨r54, hr54, hp⟩ := bind_some hp
 refine px_ox' rfl (ox_calln' (ent_fn' Try.func147 isn147 rfl rfl) (spec_trim_sim _ hr54 : Sx.Fn Try.prog 147 [(Sl (Ki .u32) r53)] [] (fun x : Unit => (Sl (Ki .u32) r54)) (fun x => [])) (Hn := fun x : Unit => [(Rw (Ki .u32) 183 (Vs g52) ([v2.2])), ⟨.pointer (some q2), [(Vb a0_0), (Sl (Ki .u32) a0_1)], 72, none⟩, ⟨.pointer (some q4), [(Vb false), Vn], 72, none⟩]) (fun _ => rfl) rfl rfl) rfl (bs_cons (m := 1) rfl rfl rfl bs_nil) (wt_none' rfl) fun ⟨⟩ => ?_
 refine px_rd' rfl (rd_build' (pls := [(0, 1), (1, 1)]) (qs := [(0, [(Vb a0_0)]), (1, [(Sl (Ki .u32) r54)])]) (r := [(Vb a0_0), (Sl (Ki .u32) r54)]) ⟨rfl, ⟨_, rfl, (lv_vl rfl rfl)⟩, ⟨rfl, ⟨_, rfl, (lv_sl _ _)⟩, trivial⟩⟩ Try.underlying72 has72 places72 info72 rfl rfl rfl) rfl rfl (wt_none' rfl) ?_
 refine px_oxv' rfl (oxv_store (i := 2) (o := 0) rfl rfl (lv_ag _) ⟨rfl, rfl, rfl, rfl⟩ rfl info72 rfl (H' := [(Rw (Ki .u32) 183 (Vs g52) ([v2.2])), ⟨.pointer (some q2), [(Vb a0_0), (Sl (Ki .u32) a0_1)], 72, none⟩, ⟨.pointer (some q4), [(Vb a0_0), (Sl (Ki .u32) r54)], 72, none⟩]) rfl) rfl rfl (bo_cons (m := 1) (by decide) rfl rfl bo_nil) (wt_none' rfl) fun _ => ?_
 refine px_nil' ?_
 show TX E K21 _
 refine tx_k' hK21 ?_
 refine cx_retc' ?_
 replace hp := Option.some.inj hp
 subst hp
 refine tx_pick' (L' := [(4, (Vp q4))]) (H' := [⟨.pointer (some q4), [(Vb a0_0), (Sl (Ki .u32) r54)], 72, none⟩]) [2] (sub_cons rfl sub_nil) (by decide) (pick_cons rfl pick_nil) ?_
 exact tx_ret1' Try.results145 rfl () (rv_cell_agg' (i := 0) (o := 0) (nn := 2) rfl ⟨rfl, rfl, rfl, rfl⟩ rfl agg72 rfl) (List.nil_sublist _)

def spec_addLimbs_j3 (k : Nat) (x5 : List Int) (rec1 : ((List Int) × Int × Int) → Option ((List Int) × Int)) (x7 : Int) (x4 : Int) : Option ((List Int) × Int) :=
 (apd 4 x5 ([icv .u32 x4])) >>= fun r47 =>
 (ishr .u64 x4 32) >>= fun r49 =>
 rec1 (r47, r49, (iadd .i64 x7 1))
def spec_addLimbs_l1s (x1 : List Int) (x2 : List Int) (k : Nat) (rec1 : ((List Int) × Int × Int) → Option ((List Int) × Int)) (x5 : List Int) (x6 : Int) (x7 : Int) : Option ((List Int) × Int) :=
 br (decide (x7 < (x1.length : Int)))
  ((idx x1 x7) >>= fun r26 =>
  br (decide (x7 < (x2.length : Int)))
   ((idx x2 x7) >>= fun r39 =>
   spec_addLimbs_j3 k x5 rec1 x7 (iadd .u64 (iadd .u64 (icv .u64 r26) x6) (icv .u64 r39)))
   (spec_addLimbs_j3 k x5 rec1 x7 (iadd .u64 (icv .u64 r26) x6)))
  (some (x5, x6))
def spec_addLimbs_l1 (x1 : List Int) (x2 : List Int) : Nat → ((List Int) × Int × Int) → Option ((List Int) × Int)
 | 0, _ => none
 | k + 1, v => spec_addLimbs_l1s x1 x2 k (spec_addLimbs_l1 x1 x2 k) v.1 v.2.1 v.2.2
def spec_addLimbs_j1 (k : Nat) (x1 : List Int) (x2 : List Int) : Option ((List Int)) :=
 (mk 4 0 0 (iadd .i64 (x1.length : Int) 1)) >>= fun r20 =>
 (spec_addLimbs_l1 x1 x2 k (r20, 0, 0)) >>= fun v5 =>
 (apd 4 v5.1 ([icv .u32 v5.2])) >>= fun r55 =>
 (spec_trim k r55) >>= fun r56 =>
 some r56
def spec_addLimbs (k : Nat) (a0 : List Int) (a1 : List Int) : Option ((List Int)) :=
 br (decide ((a0.length : Int) < (a1.length : Int)))
  (spec_addLimbs_j1 k a1 a0)
  (spec_addLimbs_j1 k a0 a1)

theorem spec_addLimbs_sim {k : Nat}  (a0 : List Int) (a1 : List Int) {out : (List Int)} (hp : spec_addLimbs k a0 a1 = some out) : Sx.Fn Try.prog 158 [(Sl (Ki .u32) a0), (Sl (Ki .u32) a1)] [] (fun w : Unit => (Sl (Ki .u32) out)) (fun w => []) := by
 unfold spec_addLimbs at hp
 refine fn_of Try.func158 rfl Try.ntmps158 rfl fun E hM => ?_
 refine cr fun K1 hK1 => ?_
 refine s0 (rd_assign' rfl) ?_
 refine nk hK1 ?_
 refine cx_join' (fun (v1 : (List Int) × (List Int)) => (⟨57, [], [(0, (Sl (Ki .u32) v1.1)), (1, (Sl (Ki .u32) v1.2))], []⟩ : St)) (fun (v1 : (List Int) × (List Int)) => spec_addLimbs_j1 k v1.1 v1.2 = some out) ?_ ?_
 ·rintro ⟨x1, x2⟩ hp
  replace hp : spec_addLimbs_j1 k x1 x2 = some out := hp
  unfold spec_addLimbs_j1 at hp
  refine cr fun K4 hK4 => ?_
  refine s0 (rd_move' rfl) ?_
  refine s0 (rd_len' rfl Try.underlying70) ?_
  refine s0 (rd_bin' rfl rfl eg_int ru_add) ?_
  obtain ⟨r20, hr20, hp⟩ := bind_some hp
  refine sx_ox' (ox_make' (K := (Ki .u32)) rfl rfl hr20 rfl Try.underlying70 info183 rfl rfl rfl rfl rfl) (wt_none' rfl) fun g20 => ?_
  refine s0 (rd_assign' rfl) ?_
  refine nk hK4 ?_
  refine cr fun K5 hK5 => ?_
  refine s0 (rd_assign' rfl) ?_
  refine nk hK5 ?_
  refine cx_seq' fun K6 hK6 => ?_
  refine cr fun K7 hK7 => ?_
  refine s0 (rd_move' rfl) ?_
  refine s0 (rd_len' rfl Try.underlying70) ?_
  refine s0 (rd_move' rfl) ?_
  refine nk hK7 ?_
  refine cx_block' ?_
  obtain ⟨v5, hy1, hp⟩ := bind_some hp
  refine cx_loopg' (F := spec_addLimbs_l1 x1 x2) (G := fun k R v => spec_addLimbs_l1s x1 x2 k R v.1 v.2.1 v.2.2) (x := (r20, 0, 0)) (gh := g20) (fun (v3 : (List Int) × Int × Int) (w3 : Gs) => (⟨57, [], [(1, (Sl (Ki .u32) x2)), (5, (Vl (Vs w3))), (6, (Vl (.int .u64 v3.2.1))), (21, (Sl (Ki .u32) x1)), (22, (Vi (x1.length : Int))), (23, (Vi v3.2.2))], [(Rw (Ki .u32) 183 (Vs w3) v3.1)]⟩ : St)) (fun (v5 : (List Int) × Int) => Zg E (Exit.exit 0) (fun (w5 : Gs) => (⟨57, [], [(5, (Vl (Vs w5))), (6, (Vl (.int .u64 v5.2)))], [(Rw (Ki .u32) 183 (Vs w5) v5.1)]⟩ : St))) (fun _ => rfl) (fun _ _ => rfl) ?_ hy1 (tx_to' rfl [0] (sub_cons rfl (sub_cons rfl (sub_cons rfl (sub_cons rfl (sub_cons rfl (sub_cons rfl sub_nil)))))) (by decide) (pick_cons rfl pick_nil)) ?_
  ·clear hp hy1
   clear v5
   intro k rec1 KY1 ih1
   rintro ⟨x5, x6, x7⟩ g901 y1 hp
   replace hp : spec_addLimbs_l1s x1 x2 k rec1 x5 x6 x7 = some y1 := hp
   unfold spec_addLimbs_l1s at hp
   refine cr fun K16 hK16 => ?_
   refine s0 (rd_bin' rfl rfl eg_int ru_lss) ?_
   refine nk hK16 ?_
   refine cx_seq' fun K17 hK17 => ?_
   refine cx_cond' rfl (fun h5 => ?_) (fun h5 => ?_)
   ·replace hp := (br_t h5).symm.trans hp
    refine cx_skip' ?_
    show TX E K17 _
    refine tx_k' hK17 ?_
    refine cx_seq' fun K18 hK18 => ?_
    refine cx_block' ?_
    refine cr fun K19 hK19 => ?_
    refine s0 (rd_move' rfl) ?_
    obtain ⟨r26, hr26, hp⟩ := bind_some hp
    refine s0 (rd_at' (K := (Ki .u32)) rfl rfl hr26 Try.underlying70 info183) ?_
    refine s0 (rd_load_pt' rfl rfl flat183) ?_
    refine s0 (rd_assign' rfl) ?_
    refine s0 (rd_assign' rfl) ?_
    refine nk hK19 ?_
    refine cr fun K20 hK20 => ?_
    refine s0 (rd_move' rfl) ?_
    refine s0 (rd_conv' rfl (ru_i2i (by rw [Try.underlying183]; rfl) Try.underlying107)) ?_
    refine s0 (rd_move' rfl) ?_
    refine s0 (rd_bin' rfl rfl eg_int ru_add) ?_
    refine s0 (rd_assign' rfl) ?_
    refine nk hK20 ?_
    refine cx_join' (fun (v4 : Int) => (⟨57, [], [(1, (Sl (Ki .u32) x2)), (5, (Vl (Vs g901))), (9, (Vl (.int .u64 v4))), (21, (Sl (Ki .u32) x1)), (22, (Vi (x1.length : Int))), (23, (Vi x7))], [(Rw (Ki .u32) 183 (Vs g901) x5)]⟩ : St)) (fun (v4 : Int) => spec_addLimbs_j3 k x5 rec1 x7 v4 = some y1) ?_ ?_
    ·rintro x4 hp
     replace hp : spec_addLimbs_j3 k x5 rec1 x7 x4 = some y1 := hp
     unfold spec_addLimbs_j3 at hp
     refine cr fun K23 hK23 => ?_
     refine s0 (rd_move' rfl) ?_
     refine s0 (rd_move' rfl) ?_
     refine s0 (rd_conv' rfl (ru_i2i (by rw [Try.underlying107]; rfl) Try.underlying183)) ?_
     refine sx_ox' (ox_rowlit' (K := (Ki .u32)) (xs := [icv .u32 x4]) (qs := [(0, [(Vl (.int .u32 (icv .u32 x4)))])]) ⟨rfl, ⟨_, rfl, (lv_vl rfl rfl)⟩, trivial⟩ Try.underlying70 info183 rfl rfl rfl rfl rfl (by kernel_rfl) rfl rfl rfl) (wt_none' rfl) fun g46 => ?_
     obtain ⟨r47, hr47, hp⟩ := bind_some hp
     refine sx_ox' (ox_append' (K := (Ki .u32)) (i := 1) (xs := x5) (ys := ([icv .u32 x4])) rfl rfl rfl (sr_row' (j := 0) rfl rfl rfl Try.underlying70) hr47 Try.underlying70 info183 rfl rfl rfl (H' := [(Rw (Ki .u32) 183 (Vs g46) ([icv .u32 x4]))]) rfl) (wt_none' rfl) fun g47 => ?_
     refine s0 (rd_assign' rfl) ?_
     refine nk hK23 ?_
     refine cx_region' ?_
     refine s0 (rd_move' rfl) ?_
     obtain ⟨r49, hr49, hp⟩ := bind_some hp
     refine s0 (rd_bin' rfl rfl eg_int (ru_shr hr49)) ?_
     refine s0 (rd_assign' rfl) ?_
     refine nk hK18 ?_
     refine cx_region' ?_
     refine s0 (rd_bin' rfl rfl eg_int ru_add) ?_
     refine s0 (rd_move' rfl) ?_
     refine sx_nil' ?_
     show TX E (KY1 _) _
     exact tx_pick' [0] (sub_cons rfl (sub_cons rfl (sub_cons rfl (sub_cons rfl (sub_cons rfl (sub_cons rfl sub_nil)))))) (by decide) (pick_cons rfl pick_nil) (ih1 (r47, r49, (iadd .i64 x7 1)) g47 _ hp)
    intro K21 hK21
    refine cr fun K22 hK22 => ?_
    refine s0 (rd_move' rfl) ?_
    refine s0 (rd_move' rfl) ?_
    refine s0 (rd_len' rfl Try.underlying70) ?_
    refine s0 (rd_bin' rfl rfl eg_int ru_lss) ?_
    refine nk hK22 ?_
    refine cx_cond' rfl (fun h6 => ?_) (fun h6 => ?_)
    ·replace hp := (br_t h6).symm.trans hp
     refine cx_region' ?_
     refine s0 (rd_move' rfl) ?_
     refine s0 (rd_move' rfl) ?_
     refine s0 (rd_move' rfl) ?_
     obtain ⟨r39, hr39, hp⟩ := bind_some hp
     refine s0 (rd_at' (K := (Ki .u32)) rfl rfl hr39 Try.underlying70 info183) ?_
     refine s0 (rd_load_pt' rfl rfl flat183) ?_
     refine s0 (rd_conv' rfl (ru_i2i (by rw [Try.underlying183]; rfl) Try.underlying107)) ?_
     refine s0 (rd_bin' rfl rfl eg_int ru_add) ?_
     refine s0 (rd_assign' rfl) ?_
     refine sx_nil' ?_
     show TX E K21 _
     exact tx_pick' [0] (sub_cons rfl (sub_cons rfl (sub_cons rfl (sub_cons rfl (sub_cons rfl (sub_cons rfl sub_nil)))))) (by decide) (pick_cons rfl pick_nil) (hK21 (iadd .u64 (iadd .u64 (icv .u64 r26) x6) (icv .u64 r39)) hp)
    replace hp := (br_f h6).symm.trans hp
    refine cx_skip' ?_
    show TX E K21 _
    exact tx_pick' [0] (sub_cons rfl (sub_cons rfl (sub_cons rfl (sub_cons rfl (sub_cons rfl (sub_cons rfl sub_nil)))))) (by decide) (pick_cons rfl pick_nil) (hK21 (iadd .u64 (icv .u64 r26) x6) hp)
   replace hp := (br_f h5).symm.trans hp
   refine cx_exit' ?_
   replace hp := Option.some.inj hp
   subst hp
   show TX E (Zg E (Exit.exit 0) _ (Exit.exit 0)) _
   exact tx_zend' g901 rfl [0] (sub_cons rfl (sub_cons rfl sub_nil)) (by decide) (pick_cons rfl pick_nil)
  refine zg_out fun w5 => ?_
  show TX E K6 _
  refine tx_k' hK6 ?_
  refine cr fun K24 hK24 => ?_
  refine s0 (rd_move' rfl) ?_
  refine s0 (rd_move' rfl) ?_
  refine s0 (rd_conv' rfl (ru_i2i (by rw [Try.underlying107]; rfl) Try.underlying183)) ?_
  refine sx_ox' (ox_rowlit' (K := (Ki .u32)) (xs := [icv .u32 v5.2]) (qs := [(0, [(Vl (.int .u32 (icv .u32 v5.2)))])]) ⟨rfl, ⟨_, rfl, (lv_vl rfl rfl)⟩, trivial⟩ Try.underlying70 info183 rfl rfl rfl rfl rfl (by kernel_rfl) rfl rfl rfl) (wt_none' rfl) fun g54 => ?_
  obtain ⟨r55, hr55, hp⟩ := bind_some hp
  refine sx_ox' (ox_append' (K := (Ki .u32)) (i := 1) (xs := v5.1) (ys := ([icv .u32 v5.2])) rfl rfl rfl (sr_row' (j := 0) rfl rfl rfl Try.underlying70) hr55 Try.underlying70 info183 rfl rfl rfl (H' := [(Rw (Ki .u32) 183 (Vs g54) ([icv .u32 v5.2]))]) rfl) (wt_none' rfl) fun g55 => ?_
  refine tx_fz' (frz_row 0 [(55, (Vl (Vs g55)), (Sl (Ki .u32) r55))] (K := (Ki .u32)) (xs := r55) (by decide) rfl ⟨⟨rfl, frz_it⟩, trivial⟩ (H' := [(Rw (Ki .u32) 183 (Vs g54) ([icv .u32 v5.2]))]) frzH_refl) ?_
  obtain ⟨r56, hr56, hp⟩ := bind_some hp
  refine sx_ox' (ox_calln' (ent_fn' Try.func147 isn147 rfl rfl) (spec_trim_sim _ hr56 : Sx.Fn Try.prog 147 [(Sl (Ki .u32) r55)] [] (fun x : Unit => (Sl (Ki .u32) r56)) (fun x => [])) (Hn := fun x : Unit => [(Rw (Ki .u32) 183 (Vs g54) ([icv .u32 v5.2]))]) (fun _ => rfl) rfl rfl) (wt_none' rfl) fun ⟨⟩ => ?_
  refine s0 (rd_assign' rfl) ?_
  refine nk hK24 ?_
  refine cx_retc' ?_
  replace hp := Option.some.inj hp
  subst hp
  refine tx_pick' (L' := [(4, (Sl (Ki .u32) r56))]) (H' := []) [] (sub_cons rfl sub_nil) (by decide) pick_nil ?_
  exact tx_ret1' Try.results158 rfl () (rv_tmp' rfl) (List.Sublist.refl _)
 intro K2 hK2
 refine cr fun K3 hK3 => ?_
 refine s0 (rd_move' rfl) ?_
 refine s0 (rd_len' rfl Try.underlying70) ?_
 refine s0 (rd_move' rfl) ?_
 refine s0 (rd_len' rfl Try.underlying70) ?_
 refine s0 (rd_bin' rfl rfl eg_int ru_lss) ?_
 refine nk hK3 ?_
 refine cx_cond' rfl (fun h1 => ?_) (fun h1 => ?_)
 ·replace hp := (br_t h1).symm.trans hp
  refine cx_region' ?_
  refine s0 (rd_move' rfl) ?_
  refine s0 (rd_move' rfl) ?_
  refine s0 (rd_assign' rfl) ?_
  refine s0 (rd_assign' rfl) ?_
  refine sx_nil' ?_
  show TX E K2 _
  exact tx_pick' [] (sub_cons rfl (sub_cons rfl sub_nil)) (by decide) pick_nil (hK2 (a1, a0) hp)
 replace hp := (br_f h1).symm.trans hp
 refine cx_skip' ?_
 show TX E K2 _
 exact tx_pick' [] (sub_cons rfl (sub_cons rfl sub_nil)) (by decide) pick_nil (hK2 (a0, a1) hp)

def spec_cmpLimbs_l1s (a0 : List Int) (a1 : List Int) (k : Nat) (rec1 : Int → Option (Int ⊕ Unit)) (x1 : Int) : Option (Int ⊕ Unit) :=
 br (decide (0 ≤ x1))
  ((idx a0 x1) >>= fun r25 =>
  (idx a1 x1) >>= fun r29 =>
  br (!decide (r25 = r29))
   ((idx a0 x1) >>= fun r34 =>
   (idx a1 x1) >>= fun r38 =>
   br (decide (r34 < r38))
    (some (.inl (-1)))
    (some (.inl 1)))
   (rec1 (isub .i64 x1 1)))
  (some (.inr ()))
def spec_cmpLimbs_l1 (a0 : List Int) (a1 : List Int) : Nat → Int → Option (Int ⊕ Unit)
 | 0, _ => none
 | k + 1, v => spec_cmpLimbs_l1s a0 a1 k (spec_cmpLimbs_l1 a0 a1 k) v
def spec_cmpLimbs (k : Nat) (a0 : List Int) (a1 : List Int) : Option (Int) :=
 br (!decide ((a0.length : Int) = (a1.length : Int)))
  (br (decide ((a0.length : Int) < (a1.length : Int)))
   (some (-1))
   (some 1))
  ((spec_cmpLimbs_l1 a0 a1 k (isub .i64 (a0.length : Int) 1)) >>= fun y1 => match y1 with
   | (.inl v2) =>
    (some v2)
   | (.inr v3) =>
    (some 0))

theorem spec_cmpLimbs_sim {k : Nat}  (a0 : List Int) (a1 : List Int) {out : Int} (hp : spec_cmpLimbs k a0 a1 = some out) : Sx.Fn Try.prog 159 [(Sl (Ki .u32) a0), (Sl (Ki .u32) a1)] [] (fun w : Unit => (Vi out)) (fun w => []) := by
 unfold spec_cmpLimbs at hp
 refine fn_of Try.func159 rfl Try.ntmps159 rfl fun E hM => ?_
 refine cr fun K1 hK1 => ?_
 refine s0 (rd_assign' rfl) ?_
 refine nk hK1 ?_
 refine cx_seq' fun K2 hK2 => ?_
 refine cr fun K3 hK3 => ?_
 refine s0 (rd_move' rfl) ?_
 refine s0 (rd_len' rfl Try.underlying70) ?_
 refine s0 (rd_move' rfl) ?_
 refine s0 (rd_len' rfl Try.underlying70) ?_
 refine s0 (rd_bin' rfl rfl eg_int ru_neq) ?_
 refine nk hK3 ?_
 refine cx_cond' rfl (fun h1 => ?_) (fun h1 => ?_)
 ·replace hp := (br_t h1).symm.trans hp
  refine cx_seq' fun K4 hK4 => ?_
  refine cr fun K5 hK5 => ?_
  refine s0 (rd_move' rfl) ?_
  refine s0 (rd_len' rfl Try.underlying70) ?_
  refine s0 (rd_move' rfl) ?_
  refine s0 (rd_len' rfl Try.underlying70) ?_
  refine s0 (rd_bin' rfl rfl eg_int ru_lss) ?_
  refine nk hK5 ?_
  refine cx_cond' rfl (fun h2 => ?_) (fun h2 => ?_)
  ·replace hp := (br_t h2).symm.trans hp
   refine cr fun K6 hK6 => ?_
   refine s0 (rd_assign' rfl) ?_
   refine nk hK6 ?_
   refine cx_retc' ?_
   replace hp := Option.some.inj hp
   subst hp
   refine tx_pick' (L' := [(4, (Vi (-1)))]) (H' := []) [] (sub_cons rfl sub_nil) (by decide) pick_nil ?_
   exact tx_ret1' Try.results159 rfl () (rv_tmp' rfl) (List.Sublist.refl _)
  replace hp := (br_f h2).symm.trans hp
  refine cx_skip' ?_
  show TX E K4 _
  refine tx_k' hK4 ?_
  refine cr fun K7 hK7 => ?_
  refine s0 (rd_assign' rfl) ?_
  refine nk hK7 ?_
  refine cx_retc' ?_
  replace hp := Option.some.inj hp
  subst hp
  refine tx_pick' (L' := [(4, (Vi 1))]) (H' := []) [] (sub_cons rfl sub_nil) (by decide) pick_nil ?_
  exact tx_ret1' Try.results159 rfl () (rv_tmp' rfl) (List.Sublist.refl _)
 replace hp := (br_f h1).symm.trans hp
 refine cx_skip' ?_
 show TX E K2 _
 refine tx_k' hK2 ?_
 refine cx_seq' fun K8 hK8 => ?_
 refine cr fun K9 hK9 => ?_
 refine s0 (rd_move' rfl) ?_
 refine s0 (rd_len' rfl Try.underlying70) ?_
 refine s0 (rd_bin' rfl rfl eg_int ru_sub) ?_
 refine s0 (rd_assign' rfl) ?_
 refine nk hK9 ?_
 refine cx_block' ?_
 obtain ⟨y1, hy1, hp⟩ := bind_some hp
 refine cx_loopg' (F := spec_cmpLimbs_l1 a0 a1) (G := fun k R v => spec_cmpLimbs_l1s a0 a1 k R v) (x := (isub .i64 (a0.length : Int) 1)) (gh := ()) (fun (v1 : Int) (w1 : Unit) => (⟨41, [], [(0, (Sl (Ki .u32) a0)), (1, (Sl (Ki .u32) a1)), (5, (Vi v1))], []⟩ : St)) (fun (y : Int ⊕ Unit) => match y with | (.inl v2) => Zg E Exit.ret (fun (w2 : Unit) => (⟨41, [], [(4, (Vi v2))], []⟩ : St)) | (.inr v3) => Zg E (Exit.exit 0) (fun (w3 : Unit) => (⟨41, [], [], []⟩ : St))) (fun _ => rfl) (fun _ _ => rfl) ?_ hy1 (tx_to' rfl [] (sub_cons rfl (sub_cons rfl (sub_cons rfl sub_nil))) (by decide) pick_nil) ?_
 ·clear hp hy1
  clear y1
  intro k rec1 KY1 ih1
  rintro x1 ⟨⟩ y1 hp
  replace hp : spec_cmpLimbs_l1s a0 a1 k rec1 x1 = some y1 := hp
  unfold spec_cmpLimbs_l1s at hp
  refine cx_seq' fun K18 hK18 => ?_
  refine cr fun K19 hK19 => ?_
  refine s0 (rd_move' rfl) ?_
  refine s0 (rd_bin' rfl rfl eg_int ru_geq) ?_
  refine nk hK19 ?_
  refine cx_cond' rfl (fun h7 => ?_) (fun h7 => ?_)
  ·replace hp := (br_t h7).symm.trans hp
   refine cx_skip' ?_
   show TX E K18 _
   refine tx_k' hK18 ?_
   refine cx_seq' fun K20 hK20 => ?_
   refine cx_block' ?_
   refine cx_seq' fun K21 hK21 => ?_
   refine cx_draw' mixed (by kernel_rfl) ?_
   refine qx_rd' (rd_move' rfl) rfl rfl (wt_none' rfl) ?_
   refine qx_rd' (rd_move' rfl) rfl rfl (wt_none' rfl) ?_
   obtain ⟨r25, hr25, hp⟩ := bind_some hp
   refine qx_rd' (rd_at' (K := (Ki .u32)) rfl rfl hr25 Try.underlying70 info183) rfl rfl (wt_none' rfl) ?_
   refine qx_rd' (rd_load_pt' rfl rfl flat183) rfl rfl (wt_none' rfl) ?_
   refine qx_rd' (rd_move' rfl) rfl rfl (wt_none' rfl) ?_
   refine qx_rd' (rd_move' rfl) rfl rfl (wt_none' rfl) ?_
   obtain ⟨r29, hr29, hp⟩ := bind_some hp
   refine qx_rd' (rd_at' (K := (Ki .u32)) rfl rfl hr29 Try.underlying70 info183) rfl rfl (wt_none' rfl) ?_
   refine qx_rd' (rd_load_pt' rfl rfl flat183) rfl rfl (wt_none' rfl) ?_
   refine qx_rd' (rd_bin' rfl rfl eg_int ru_neq) rfl rfl (wt_none' rfl) ?_
   refine qx_nil' ?_
   show TX E K21 _
   refine tx_k' hK21 ?_
   refine cx_cond' rfl (fun h8 => ?_) (fun h8 => ?_)
   ·replace hp := (br_t h8).symm.trans hp
    refine cx_seq' fun K22 hK22 => ?_
    refine cx_seq' fun K23 hK23 => ?_
    refine cx_draw' mixed (by kernel_rfl) ?_
    refine qx_rd' (rd_move' rfl) rfl rfl (wt_none' rfl) ?_
    refine qx_rd' (rd_move' rfl) rfl rfl (wt_none' rfl) ?_
    obtain ⟨r34, hr34, hp⟩ := bind_some hp
    refine qx_rd' (rd_at' (K := (Ki .u32)) rfl rfl hr34 Try.underlying70 info183) rfl rfl (wt_none' rfl) ?_
    refine qx_rd' (rd_load_pt' rfl rfl flat183) rfl rfl (wt_none' rfl) ?_
    refine qx_rd' (rd_move' rfl) rfl rfl (wt_none' rfl) ?_
    refine qx_rd' (rd_move' rfl) rfl rfl (wt_none' rfl) ?_
    obtain ⟨r38, hr38, hp⟩ := bind_some hp
    refine qx_rd' (rd_at' (K := (Ki .u32)) rfl rfl hr38 Try.underlying70 info183) rfl rfl (wt_none' rfl) ?_
    refine qx_rd' (rd_load_pt' rfl rfl flat183) rfl rfl (wt_none' rfl) ?_
    refine qx_rd' (rd_bin' rfl rfl eg_int ru_lss) rfl rfl (wt_none' rfl) ?_
    refine qx_nil' ?_
    show TX E K23 _
    refine tx_k' hK23 ?_
    refine cx_cond' rfl (fun h9 => ?_) (fun h9 => ?_)
    ·replace hp := (br_t h9).symm.trans hp
     refine cr fun K24 hK24 => ?_
     refine s0 (rd_assign' rfl) ?_
     refine nk hK24 ?_
     refine cx_retc' ?_
     replace hp := Option.some.inj hp
     subst hp
     show TX E (Zg E Exit.ret _ Exit.ret) _
     exact tx_zend' () rfl [] (sub_cons rfl sub_nil) (by decide) pick_nil
    replace hp := (br_f h9).symm.trans hp
    refine cx_skip' ?_
    show TX E K22 _
    refine tx_k' hK22 ?_
    refine cr fun K25 hK25 => ?_
    refine s0 (rd_assign' rfl) ?_
    refine nk hK25 ?_
    refine cx_retc' ?_
    replace hp := Option.some.inj hp
    subst hp
    show TX E (Zg E Exit.ret _ Exit.ret) _
    exact tx_zend' () rfl [] (sub_cons rfl sub_nil) (by decide) pick_nil
   replace hp := (br_f h8).symm.trans hp
   refine cx_skip' ?_
   show TX E K20 _
   refine tx_k' hK20 ?_
   refine cx_region' ?_
   refine s0 (rd_move' rfl) ?_
   refine s0 (rd_bin' rfl rfl eg_int ru_sub) ?_
   refine s0 (rd_assign' rfl) ?_
   refine sx_nil' ?_
   show TX E (KY1 _) _
   exact tx_pick' [] (sub_cons rfl (sub_cons rfl (sub_cons rfl sub_nil))) (by decide) pick_nil (ih1 (isub .i64 x1 1) () _ hp)
  replace hp := (br_f h7).symm.trans hp
  refine cx_exit' ?_
  replace hp := Option.some.inj hp
  subst hp
  show TX E (Zg E (Exit.exit 0) _ (Exit.exit 0)) _
  exact tx_zend' () rfl [] sub_nil (by decide) pick_nil
 rcases y1 with v2 | v3
 ·dsimp only at hp
  refine zg_out fun w2 => ?_
  replace hp := Option.some.inj hp
  subst hp
  refine tx_pick' (L' := [(4, (Vi v2))]) (H' := []) [] (sub_cons rfl sub_nil) (by decide) pick_nil ?_
  exact tx_ret1' Try.results159 rfl () (rv_tmp' rfl) (List.Sublist.refl _)
 dsimp only at hp
 refine zg_out fun w3 => ?_
 show TX E K8 _
 refine tx_k' hK8 ?_
 refine cr fun K26 hK26 => ?_
 refine s0 (rd_assign' rfl) ?_
 refine nk hK26 ?_
 refine cx_retc' ?_
 replace hp := Option.some.inj hp
 subst hp
 refine tx_pick' (L' := [(4, (Vi 0))]) (H' := []) [] (sub_cons rfl sub_nil) (by decide) pick_nil ?_
 exact tx_ret1' Try.results159 rfl () (rv_tmp' rfl) (List.Sublist.refl _)

def spec_subLimbs_j4 (k : Nat) (x5 : List Int) (r18 : Int) (x3 : Int) (rec1 : ((List Int) × Int × Int) → Option ((List Int))) (x7 : Int) (x4 : Int) : Option ((List Int)) :=
 (ishl .u64 x4 32) >>= fun r40 =>
 (apd 4 x5 ([icv .u32 (isub .u64 (iadd .u64 (icv .u64 r18) r40) x3)])) >>= fun r46 =>
 rec1 (r46, x4, (iadd .i64 x7 1))
def spec_subLimbs_j3 (k : Nat) (r18 : Int) (x5 : List Int) (rec1 : ((List Int) × Int × Int) → Option ((List Int))) (x7 : Int) (x3 : Int) : Option ((List Int)) :=
 br (decide ((icv .u64 r18) < x3))
  (spec_subLimbs_j4 k x5 r18 x3 rec1 x7 1)
  (spec_subLimbs_j4 k x5 r18 x3 rec1 x7 0)
def spec_subLimbs_l1s (a0 : List Int) (a1 : List Int) (k : Nat) (rec1 : ((List Int) × Int × Int) → Option ((List Int))) (x5 : List Int) (x6 : Int) (x7 : Int) : Option ((List Int)) :=
 br (decide (x7 < (a0.length : Int)))
  ((idx a0 x7) >>= fun r18 =>
  br (decide (x7 < (a1.length : Int)))
   ((idx a1 x7) >>= fun r28 =>
   spec_subLimbs_j3 k r18 x5 rec1 x7 (iadd .u64 x6 (icv .u64 r28)))
   (spec_subLimbs_j3 k r18 x5 rec1 x7 x6))
  (some x5)
def spec_subLimbs_l1 (a0 : List Int) (a1 : List Int) : Nat → ((List Int) × Int × Int) → Option ((List Int))
 | 0, _ => none
 | k + 1, v => spec_subLimbs_l1s a0 a1 k (spec_subLimbs_l1 a0 a1 k) v.1 v.2.1 v.2.2
def spec_subLimbs (k : Nat) (a0 : List Int) (a1 : List Int) : Option ((List Int)) :=
 (mk 4 0 0 (a0.length : Int)) >>= fun r12 =>
 (spec_subLimbs_l1 a0 a1 k (r12, 0, 0)) >>= fun v6 =>
 (spec_trim k v6) >>= fun r49 =>
 some r49

theorem spec_subLimbs_sim {k : Nat}  (a0 : List Int) (a1 : List Int) {out : (List Int)} (hp : spec_subLimbs k a0 a1 = some out) : Sx.Fn Try.prog 160 [(Sl (Ki .u32) a0), (Sl (Ki .u32) a1)] [] (fun w : Unit => (Sl (Ki .u32) out)) (fun w => []) := by
 unfold spec_subLimbs at hp
 refine fn_of Try.func160 rfl Try.ntmps160 rfl fun E hM => ?_
 refine cr fun K1 hK1 => ?_
 refine s0 (rd_assign' rfl) ?_
 refine nk hK1 ?_
 refine cr fun K2 hK2 => ?_
 refine s0 (rd_move' rfl) ?_
 refine s0 (rd_len' rfl Try.underlying70) ?_
 obtain ⟨r12, hr12, hp⟩ := bind_some hp
 refine sx_ox' (ox_make' (K := (Ki .u32)) rfl rfl hr12 rfl Try.underlying70 info183 rfl rfl rfl rfl rfl) (wt_none' rfl) fun g12 => ?_
 refine s0 (rd_assign' rfl) ?_
 refine nk hK2 ?_
 refine cr fun K3 hK3 => ?_
 refine s0 (rd_assign' rfl) ?_
 refine nk hK3 ?_
 refine cx_seq' fun K4 hK4 => ?_
 refine cr fun K5 hK5 => ?_
 refine s0 (rd_move' rfl) ?_
 refine s0 (rd_len' rfl Try.underlying70) ?_
 refine s0 (rd_move' rfl) ?_
 refine nk hK5 ?_
 refine cx_block' ?_
 obtain ⟨v6, hy1, hp⟩ := bind_some hp
 refine cx_loopg' (F := spec_subLimbs_l1 a0 a1) (G := fun k R v => spec_subLimbs_l1s a0 a1 k R v.1 v.2.1 v.2.2) (x := (r12, 0, 0)) (gh := g12) (fun (v3 : (List Int) × Int × Int) (w3 : Gs) => (⟨50, [], [(1, (Sl (Ki .u32) a1)), (5, (Vl (Vs w3))), (6, (Vl (.int .u64 v3.2.1))), (13, (Sl (Ki .u32) a0)), (14, (Vi (a0.length : Int))), (15, (Vi v3.2.2))], [(Rw (Ki .u32) 183 (Vs w3) v3.1)]⟩ : St)) (fun (v6 : (List Int)) => Zg E (Exit.exit 0) (fun (w6 : Gs) => (⟨50, [], [(5, (Vl (Vs w6)))], [(Rw (Ki .u32) 183 (Vs w6) v6)]⟩ : St))) (fun _ => rfl) (fun _ _ => rfl) ?_ hy1 (tx_to' rfl [0] (sub_cons rfl (sub_cons rfl (sub_cons rfl (sub_cons rfl (sub_cons rfl (sub_cons rfl sub_nil)))))) (by decide) (pick_cons rfl pick_nil)) ?_
 ·clear hp hy1
  clear v6
  intro k rec1 KY1 ih1
  rintro ⟨x5, x6, x7⟩ g901 y1 hp
  replace hp : spec_subLimbs_l1s a0 a1 k rec1 x5 x6 x7 = some y1 := hp
  unfold spec_subLimbs_l1s at hp
  refine cr fun K16 hK16 => ?_
  refine s0 (rd_bin' rfl rfl eg_int ru_lss) ?_
  refine nk hK16 ?_
  refine cx_seq' fun K17 hK17 => ?_
  refine cx_cond' rfl (fun h5 => ?_) (fun h5 => ?_)
  ·replace hp := (br_t h5).symm.trans hp
   refine cx_skip' ?_
   show TX E K17 _
   refine tx_k' hK17 ?_
   refine cx_seq' fun K18 hK18 => ?_
   refine cx_block' ?_
   refine cr fun K19 hK19 => ?_
   refine s0 (rd_move' rfl) ?_
   obtain ⟨r18, hr18, hp⟩ := bind_some hp
   refine s0 (rd_at' (K := (Ki .u32)) rfl rfl hr18 Try.underlying70 info183) ?_
   refine s0 (rd_load_pt' rfl rfl flat183) ?_
   refine s0 (rd_assign' rfl) ?_
   refine s0 (rd_assign' rfl) ?_
   refine nk hK19 ?_
   refine cr fun K20 hK20 => ?_
   refine s0 (rd_move' rfl) ?_
   refine s0 (rd_assign' rfl) ?_
   refine nk hK20 ?_
   refine cx_join' (fun (v4 : Int) => (⟨50, [], [(1, (Sl (Ki .u32) a1)), (5, (Vl (Vs g901))), (8, (Vl (.int .u32 r18))), (9, (Vl (.int .u64 v4))), (13, (Sl (Ki .u32) a0)), (14, (Vi (a0.length : Int))), (15, (Vi x7))], [(Rw (Ki .u32) 183 (Vs g901) x5)]⟩ : St)) (fun (v4 : Int) => spec_subLimbs_j3 k r18 x5 rec1 x7 v4 = some y1) ?_ ?_
   ·rintro x3 hp
    replace hp : spec_subLimbs_j3 k r18 x5 rec1 x7 x3 = some y1 := hp
    unfold spec_subLimbs_j3 at hp
    refine cr fun K23 hK23 => ?_
    refine s0 (rd_assign' rfl) ?_
    refine nk hK23 ?_
    refine cx_join' (fun (v5 : Int) => (⟨50, [], [(1, (Sl (Ki .u32) a1)), (5, (Vl (Vs g901))), (6, (Vl (.int .u64 v5))), (8, (Vl (.int .u32 r18))), (9, (Vl (.int .u64 x3))), (13, (Sl (Ki .u32) a0)), (14, (Vi (a0.length : Int))), (15, (Vi x7))], [(Rw (Ki .u32) 183 (Vs g901) x5)]⟩ : St)) (fun (v5 : Int) => spec_subLimbs_j4 k x5 r18 x3 rec1 x7 v5 = some y1) ?_ ?_
    ·rintro x4 hp
     replace hp : spec_subLimbs_j4 k x5 r18 x3 rec1 x7 x4 = some y1 := hp
     unfold spec_subLimbs_j4 at hp
     refine cx_region' ?_
     refine s0 (rd_move' rfl) ?_
     refine s0 (rd_move' rfl) ?_
     refine s0 (rd_conv' rfl (ru_i2i (by rw [Try.underlying183]; rfl) Try.underlying107)) ?_
     refine s0 (rd_move' rfl) ?_
     obtain ⟨r40, hr40, hp⟩ := bind_some hp
     refine s0 (rd_bin' rfl rfl eg_int (ru_shl hr40)) ?_
     refine s0 (rd_bin' rfl rfl eg_int ru_add) ?_
     refine s0 (rd_move' rfl) ?_
     refine s0 (rd_bin' rfl rfl eg_int ru_sub) ?_
     refine s0 (rd_conv' rfl (ru_i2i (by rw [Try.underlying107]; rfl) Try.underlying183)) ?_
     refine sx_ox' (ox_rowlit' (K := (Ki .u32)) (xs := [icv .u32 (isub .u64 (iadd .u64 (icv .u64 r18) r40) x3)]) (qs := [(0, [(Vl (.int .u32 (icv .u32 (isub .u64 (iadd .u64 (icv .u64 r18) r40) x3))))])]) ⟨rfl, ⟨_, rfl, (lv_vl rfl rfl)⟩, trivial⟩ Try.underlying70 info183 rfl rfl rfl rfl rfl (by kernel_rfl) rfl rfl rfl) (wt_none' rfl) fun g45 => ?_
     obtain ⟨r46, hr46, hp⟩ := bind_some hp
     refine sx_ox' (ox_append' (K := (Ki .u32)) (i := 1) (xs := x5) (ys := ([icv .u32 (isub .u64 (iadd .u64 (icv .u64 r18) r40) x3)])) rfl rfl rfl (sr_row' (j := 0) rfl rfl rfl Try.underlying70) hr46 Try.underlying70 info183 rfl rfl rfl (H' := [(Rw (Ki .u32) 183 (Vs g45) ([icv .u32 (isub .u64 (iadd .u64 (icv .u64 r18) r40) x3)]))]) rfl) (wt_none' rfl) fun g46 => ?_
     refine s0 (rd_assign' rfl) ?_
     refine nk hK18 ?_
     refine cx_region' ?_
     refine s0 (rd_bin' rfl rfl eg_int ru_add) ?_
     refine s0 (rd_move' rfl) ?_
     refine sx_nil' ?_
     show TX E (KY1 _) _
     exact tx_pick' [0] (sub_cons rfl (sub_cons rfl (sub_cons rfl (sub_cons rfl (sub_cons rfl (sub_cons rfl sub_nil)))))) (by decide) (pick_cons rfl pick_nil) (ih1 (r46, x4, (iadd .i64 x7 1)) g46 _ hp)
    intro K24 hK24
    refine cr fun K25 hK25 => ?_
    refine s0 (rd_move' rfl) ?_
    refine s0 (rd_conv' rfl (ru_i2i (by rw [Try.underlying183]; rfl) Try.underlying107)) ?_
    refine s0 (rd_move' rfl) ?_
    refine s0 (rd_bin' rfl rfl eg_int ru_lss) ?_
    refine nk hK25 ?_
    refine cx_cond' rfl (fun h7 => ?_) (fun h7 => ?_)
    ·replace hp := (br_t h7).symm.trans hp
     refine cx_region' ?_
     refine s0 (rd_assign' rfl) ?_
     refine sx_nil' ?_
     show TX E K24 _
     exact tx_pick' [0] (sub_cons rfl (sub_cons rfl (sub_cons rfl (sub_cons rfl (sub_cons rfl (sub_cons rfl (sub_cons rfl (sub_cons rfl sub_nil)))))))) (by decide) (pick_cons rfl pick_nil) (hK24 1 hp)
    replace hp := (br_f h7).symm.trans hp
    refine cx_skip' ?_
    show TX E K24 _
    exact tx_pick' [0] (sub_cons rfl (sub_cons rfl (sub_cons rfl (sub_cons rfl (sub_cons rfl (sub_cons rfl (sub_cons rfl (sub_cons rfl sub_nil)))))))) (by decide) (pick_cons rfl pick_nil) (hK24 0 hp)
   intro K21 hK21
   refine cr fun K22 hK22 => ?_
   refine s0 (rd_move' rfl) ?_
   refine s0 (rd_move' rfl) ?_
   refine s0 (rd_len' rfl Try.underlying70) ?_
   refine s0 (rd_bin' rfl rfl eg_int ru_lss) ?_
   refine nk hK22 ?_
   refine cx_cond' rfl (fun h6 => ?_) (fun h6 => ?_)
   ·replace hp := (br_t h6).symm.trans hp
    refine cx_region' ?_
    refine s0 (rd_move' rfl) ?_
    refine s0 (rd_move' rfl) ?_
    refine s0 (rd_move' rfl) ?_
    obtain ⟨r28, hr28, hp⟩ := bind_some hp
    refine s0 (rd_at' (K := (Ki .u32)) rfl rfl hr28 Try.underlying70 info183) ?_
    refine s0 (rd_load_pt' rfl rfl flat183) ?_
    refine s0 (rd_conv' rfl (ru_i2i (by rw [Try.underlying183]; rfl) Try.underlying107)) ?_
    refine s0 (rd_bin' rfl rfl eg_int ru_add) ?_
    refine s0 (rd_assign' rfl) ?_
    refine sx_nil' ?_
    show TX E K21 _
    exact tx_pick' [0] (sub_cons rfl (sub_cons rfl (sub_cons rfl (sub_cons rfl (sub_cons rfl (sub_cons rfl (sub_cons rfl sub_nil))))))) (by decide) (pick_cons rfl pick_nil) (hK21 (iadd .u64 x6 (icv .u64 r28)) hp)
   replace hp := (br_f h6).symm.trans hp
   refine cx_skip' ?_
   show TX E K21 _
   exact tx_pick' [0] (sub_cons rfl (sub_cons rfl (sub_cons rfl (sub_cons rfl (sub_cons rfl (sub_cons rfl (sub_cons rfl sub_nil))))))) (by decide) (pick_cons rfl pick_nil) (hK21 x6 hp)
  replace hp := (br_f h5).symm.trans hp
  refine cx_exit' ?_
  replace hp := Option.some.inj hp
  subst hp
  show TX E (Zg E (Exit.exit 0) _ (Exit.exit 0)) _
  exact tx_zend' g901 rfl [0] (sub_cons rfl sub_nil) (by decide) (pick_cons rfl pick_nil)
 refine zg_out fun w6 => ?_
 show TX E K4 _
 refine tx_k' hK4 ?_
 refine cr fun K26 hK26 => ?_
 refine s0 (rd_move' rfl) ?_
 refine tx_fz' (frz_row 0 [(5, (Vl (Vs w6)), (Sl (Ki .u32) v6)), (48, (Vl (Vs w6)), (Sl (Ki .u32) v6))] (K := (Ki .u32)) (xs := v6) (by decide) rfl ⟨⟨rfl, frz_it⟩, ⟨rfl, frz_it⟩, trivial⟩ (H' := []) frzH_refl) ?_
 obtain ⟨r49, hr49, hp⟩ := bind_some hp
 refine sx_ox' (ox_calln' (ent_fn' Try.func147 isn147 rfl rfl) (spec_trim_sim _ hr49 : Sx.Fn Try.prog 147 [(Sl (Ki .u32) v6)] [] (fun x : Unit => (Sl (Ki .u32) r49)) (fun x => [])) (Hn := fun x : Unit => []) (fun _ => rfl) rfl rfl) (wt_none' rfl) fun ⟨⟩ => ?_
 refine s0 (rd_assign' rfl) ?_
 refine nk hK26 ?_
 refine cx_retc' ?_
 replace hp := Option.some.inj hp
 subst hp
 refine tx_pick' (L' := [(4, (Sl (Ki .u32) r49))]) (H' := []) [] (sub_cons rfl sub_nil) (by decide) pick_nil ?_
 exact tx_ret1' Try.results160 rfl () (rv_tmp' rfl) (List.Sublist.refl _)

def spec_Whole_Add (k : Nat) (a0_0 : Bool) (a0_1 : List Int) (a1_0 : Bool) (a1_1 : List Int) : Option (Bool × (List Int)) :=
 br (a0_0 == a1_0)
  ((spec_addLimbs k a0_1 a1_1) >>= fun r16 =>
  some (a0_0, r16))
  ((spec_cmpLimbs k a0_1 a1_1) >>= fun r22 =>
  br (decide (r22 = 0))
   (some (false, []))
   (br (decide (r22 = 1))
    ((spec_subLimbs k a0_1 a1_1) >>= fun r34 =>
    some (a0_0, r34))
    ((spec_subLimbs k a1_1 a0_1) >>= fun r42 =>
    some (a1_0, r42))))

theorem spec_Whole_Add_sim {k : Nat}  (a0_0 : Bool) (a0_1 : List Int) (a1_0 : Bool) (a1_1 : List Int) {out : Bool × (List Int)} (hp : spec_Whole_Add k a0_0 a0_1 a1_0 a1_1 = some out) : Sx.Fn Try.prog 146 [(Ag [(Vb a0_0), (Sl (Ki .u32) a0_1)]), (Ag [(Vb a1_0), (Sl (Ki .u32) a1_1)])] [] (fun w : Unit => (Ag [(Vb out.1), (Sl (Ki .u32) out.2)])) (fun w => []) := by
 unfold spec_Whole_Add at hp
 refine fn_of Try.func146 rfl Try.ntmps146 rfl fun E hM => ?_
 refine cr fun K1 hK1 => ?_
 refine sx_ox' (ox_box' rfl (lv_ag _) rfl rfl) (wt_none' rfl) fun q2 => ?_
 refine sx_ox' (ox_box' rfl (lv_ag _) rfl rfl) (wt_none' rfl) fun q3 => ?_
 refine sx_ox' (ox_alloc' info72 rfl rfl rfl rfl (l := [(Vb false), Vn]) rfl) (wt_none' rfl) fun q4 => ?_
 refine nk hK1 ?_
 refine cx_seq' fun K2 hK2 => ?_
 refine cr fun K3 hK3 => ?_
 refine s0 (rd_field0' rfl Try.underlying72 rfl info4 rfl) ?_
 refine s0 (rd_load' (i := 2) (o := 0) rfl ⟨rfl, rfl, rfl, rfl⟩ rfl flat4) ?_
 refine s0 (rd_field0' rfl Try.underlying72 rfl info4 rfl) ?_
 refine s0 (rd_load' (i := 1) (o := 0) rfl ⟨rfl, rfl, rfl, rfl⟩ rfl flat4) ?_
 refine s0 (rd_bin' rfl rfl eg_bool (ru_beq Try.underlying4)) ?_
 refine nk hK3 ?_
 refine cx_cond' rfl (fun h1 => ?_) (fun h1 => ?_)
 ·replace hp := (br_t h1).symm.trans hp
  refine cx_seq' fun K4 hK4 => ?_
  refine cx_plan' [] [(8, 1)] [(0, 1), (1, 1), (2, 1), (3, 1), (4, 1), (5, 1), (6, 0), (7, 1), (8, 0)] mixed (by kernel_rfl) ?_
  refine px_rd' rfl (rd_field0' rfl Try.underlying72 rfl info4 rfl) rfl rfl (wt_none' rfl) ?_
  refine px_rd' rfl (rd_load' (i := 2) (o := 0) rfl ⟨rfl, rfl, rfl, rfl⟩ rfl flat4) rfl rfl (wt_none' rfl) ?_
  refine px_rd' rfl (rd_field' (off := 1) rfl Try.underlying72 rfl info70 rfl) rfl rfl (wt_none' rfl) ?_
  refine px_rd' rfl (rd_load' (i := 2) (o := 1) rfl ⟨rfl, rfl, rfl, rfl⟩ rfl flat70) rfl rfl (wt_none' rfl) ?_
  refine px_rd' rfl (rd_field' (off := 1) rfl Try.underlying72 rfl info70 rfl) rfl rfl (wt_none' rfl) ?_
  refine px_rd' rfl (rd_load' (i := 1) (o := 1) rfl ⟨rfl, rfl, rfl, rfl⟩ rfl flat70) rfl rfl (wt_none' rfl) ?_
  obtain ⟨r16, hr16, hp⟩ := bind_some hp
  refine px_ox' rfl (ox_calln' (ent_fn' Try.func158 isn158 rfl rfl) (spec_addLimbs_sim _ _ hr16 : Sx.Fn Try.prog 158 [(Sl (Ki .u32) a0_1), (Sl (Ki .u32) a1_1)] [] (fun x : Unit => (Sl (Ki .u32) r16)) (fun x => [])) (Hn := fun x : Unit => [⟨.pointer (some q4), [(Vb false), Vn], 72, none⟩, ⟨.pointer (some q3), [(Vb a1_0), (Sl (Ki .u32) a1_1)], 72, none⟩, ⟨.pointer (some q2), [(Vb a0_0), (Sl (Ki .u32) a0_1)], 72, none⟩]) (fun _ => rfl) rfl rfl) rfl bs_nil (wt_none' rfl) fun ⟨⟩ => ?_
  refine px_rd' rfl (rd_build' (pls := [(0, 1), (1, 1)]) (qs := [(0, [(Vb a0_0)]), (1, [(Sl (Ki .u32) r16)])]) (r := [(Vb a0_0), (Sl (Ki .u32) r16)]) ⟨rfl, ⟨_, rfl, (lv_vl rfl rfl)⟩, ⟨rfl, ⟨_, rfl, (lv_sl _ _)⟩, trivial⟩⟩ Try.underlying72 has72 places72 info72 rfl rfl rfl) rfl rfl (wt_none' rfl) ?_
  refine px_oxv' rfl (oxv_store (i := 0) (o := 0) rfl rfl (lv_ag _) ⟨rfl, rfl, rfl, rfl⟩ rfl info72 rfl (H' := [⟨.pointer (some q4), [(Vb a0_0), (Sl (Ki .u32) r16)], 72, none⟩, ⟨.pointer (some q3), [(Vb a1_0), (Sl (Ki .u32) a1_1)], 72, none⟩, ⟨.pointer (some q2), [(Vb a0_0), (Sl (Ki .u32) a0_1)], 72, none⟩]) rfl) rfl rfl bo_nil (wt_none' rfl) fun _ => ?_
  refine px_nil' ?_
  show TX E K4 _
  refine tx_k' hK4 ?_
  refine cx_retc' ?_
  replace hp := Option.some.inj hp
  subst hp
  refine tx_pick' (L' := [(4, (Vp q4))]) (H' := [⟨.pointer (some q4), [(Vb a0_0), (Sl (Ki .u32) r16)], 72, none⟩]) [0] (sub_cons rfl sub_nil) (by decide) (pick_cons rfl pick_nil) ?_
  exact tx_ret1' Try.results146 rfl () (rv_cell_agg' (i := 0) (o := 0) (nn := 2) rfl ⟨rfl, rfl, rfl, rfl⟩ rfl agg72 rfl) (List.nil_sublist _)
 replace hp := (br_f h1).symm.trans hp
 refine cx_skip' ?_
 show TX E K2 _
 refine tx_k' hK2 ?_
 refine cx_seq' fun K5 hK5 => ?_
 refine cr fun K6 hK6 => ?_
 refine s0 (rd_field' (off := 1) rfl Try.underlying72 rfl info70 rfl) ?_
 refine s0 (rd_load' (i := 2) (o := 1) rfl ⟨rfl, rfl, rfl, rfl⟩ rfl flat70) ?_
 refine s0 (rd_field' (off := 1) rfl Try.underlying72 rfl info70 rfl) ?_
 refine s0 (rd_load' (i := 1) (o := 1) rfl ⟨rfl, rfl, rfl, rfl⟩ rfl flat70) ?_
 obtain ⟨r22, hr22, hp⟩ := bind_some hp
 refine sx_ox' (ox_calln' (ent_fn' Try.func159 isn159 rfl rfl) (spec_cmpLimbs_sim _ _ hr22 : Sx.Fn Try.prog 159 [(Sl (Ki .u32) a0_1), (Sl (Ki .u32) a1_1)] [] (fun x : Unit => (Vi r22)) (fun x => [])) (Hn := fun x : Unit => [⟨.pointer (some q4), [(Vb false), Vn], 72, none⟩, ⟨.pointer (some q3), [(Vb a1_0), (Sl (Ki .u32) a1_1)], 72, none⟩, ⟨.pointer (some q2), [(Vb a0_0), (Sl (Ki .u32) a0_1)], 72, none⟩]) (fun _ => rfl) rfl rfl) (wt_none' rfl) fun ⟨⟩ => ?_
 refine nk hK6 ?_
 refine cx_block' ?_
 refine cr fun K7 hK7 => ?_
 refine s0 (rd_bin' rfl rfl eg_int ru_eql) ?_
 refine s0 (rd_assign' rfl) ?_
 refine nk hK7 ?_
 refine cx_cond' rfl (fun h2 => ?_) (fun h2 => ?_)
 ·replace hp := (br_t h2).symm.trans hp
  refine cr fun K8 hK8 => ?_
  refine s0 (rd_build' (pls := [(0, 1), (1, 1)]) (qs := []) (r := [(Vb false), Vn]) trivial Try.underlying72 has72 places72 info72 rfl rfl rfl) ?_
  refine sx_ox' (ox_store' (i := 0) (o := 0) rfl rfl (lv_ag _) ⟨rfl, rfl, rfl, rfl⟩ rfl info72 rfl (H' := [⟨.pointer (some q4), [(Vb false), Vn], 72, none⟩, ⟨.pointer (some q3), [(Vb a1_0), (Sl (Ki .u32) a1_1)], 72, none⟩, ⟨.pointer (some q2), [(Vb a0_0), (Sl (Ki .u32) a0_1)], 72, none⟩]) rfl) (wt_none' rfl) fun _ => ?_
  refine nk hK8 ?_
  refine cx_retc' ?_
  replace hp := Option.some.inj hp
  subst hp
  refine tx_pick' (L' := [(4, (Vp q4))]) (H' := [⟨.pointer (some q4), [(Vb false), Vn], 72, none⟩]) [0] (sub_cons rfl sub_nil) (by decide) (pick_cons rfl pick_nil) ?_
  exact tx_ret1' Try.results146 rfl () (rv_imp' (x := (Ag [(Vb false), Vn])) (y := (Ag [(Vb false), (Sl (Ki .u32) [])])) (rv_cell_agg' (i := 0) (o := 0) (nn := 2) rfl ⟨rfl, rfl, rfl, rfl⟩ rfl agg72 rfl) (imp_ag ⟨imp_refl, imp_nil, trivial⟩)) (List.nil_sublist _)
 replace hp := (br_f h2).symm.trans hp
 refine cr fun K9 hK9 => ?_
 refine s0 (rd_bin' rfl rfl eg_int ru_eql) ?_
 refine s0 (rd_assign' rfl) ?_
 refine nk hK9 ?_
 refine cx_cond' rfl (fun h3 => ?_) (fun h3 => ?_)
 ·replace hp := (br_t h3).symm.trans hp
  refine cx_seq' fun K10 hK10 => ?_
  refine cx_plan' [] [(8, 1)] [(0, 1), (1, 1), (2, 1), (3, 1), (4, 1), (5, 1), (6, 0), (7, 1), (8, 0)] mixed (by kernel_rfl) ?_
  refine px_rd' rfl (rd_field0' rfl Try.underlying72 rfl info4 rfl) rfl rfl (wt_none' rfl) ?_
  refine px_rd' rfl (rd_load' (i := 2) (o := 0) rfl ⟨rfl, rfl, rfl, rfl⟩ rfl flat4) rfl rfl (wt_none' rfl) ?_
  refine px_rd' rfl (rd_field' (off := 1) rfl Try.underlying72 rfl info70 rfl) rfl rfl (wt_none' rfl) ?_
  refine px_rd' rfl (rd_load' (i := 2) (o := 1) rfl ⟨rfl, rfl, rfl, rfl⟩ rfl flat70) rfl rfl (wt_none' rfl) ?_
  refine px_rd' rfl (rd_field' (off := 1) rfl Try.underlying72 rfl info70 rfl) rfl rfl (wt_none' rfl) ?_
  refine px_rd' rfl (rd_load' (i := 1) (o := 1) rfl ⟨rfl, rfl, rfl, rfl⟩ rfl flat70) rfl rfl (wt_none' rfl) ?_
  obtain ⟨r34, hr34, hp⟩ := bind_some hp
  refine px_ox' rfl (ox_calln' (ent_fn' Try.func160 isn160 rfl rfl) (spec_subLimbs_sim _ _ hr34 : Sx.Fn Try.prog 160 [(Sl (Ki .u32) a0_1), (Sl (Ki .u32) a1_1)] [] (fun x : Unit => (Sl (Ki .u32) r34)) (fun x => [])) (Hn := fun x : Unit => [⟨.pointer (some q4), [(Vb false), Vn], 72, none⟩, ⟨.pointer (some q3), [(Vb a1_0), (Sl (Ki .u32) a1_1)], 72, none⟩, ⟨.pointer (some q2), [(Vb a0_0), (Sl (Ki .u32) a0_1)], 72, none⟩]) (fun _ => rfl) rfl rfl) rfl bs_nil (wt_none' rfl) fun ⟨⟩ => ?_
  refine px_rd' rfl (rd_build' (pls := [(0, 1), (1, 1)]) (qs := [(0, [(Vb a0_0)]), (1, [(Sl (Ki .u32) r34)])]) (r := [(Vb a0_0), (Sl (Ki .u32) r34)]) ⟨rfl, ⟨_, rfl, (lv_vl rfl rfl)⟩, ⟨rfl, ⟨_, rfl, (lv_sl _ _)⟩, trivial⟩⟩ Try.underlying72 has72 places72 info72 rfl rfl rfl) rfl rfl (wt_none' rfl) ?_
  refine px_oxv' rfl (oxv_store (i := 0) (o := 0) rfl rfl (lv_ag _) ⟨rfl, rfl, rfl, rfl⟩ rfl info72 rfl (H' := [⟨.pointer (some q4), [(Vb a0_0), (Sl (Ki .u32) r34)], 72, none⟩, ⟨.pointer (some q3), [(Vb a1_0), (Sl (Ki .u32) a1_1)], 72, none⟩, ⟨.pointer (some q2), [(Vb a0_0), (Sl (Ki .u32) a0_1)], 72, none⟩]) rfl) rfl rfl bo_nil (wt_none' rfl) fun _ => ?_
  refine px_nil' ?_
  show TX E K10 _
  refine tx_k' hK10 ?_
  refine cx_retc' ?_
  replace hp := Option.some.inj hp
  subst hp
  refine tx_pick' (L' := [(4, (Vp q4))]) (H' := [⟨.pointer (some q4), [(Vb a0_0), (Sl (Ki .u32) r34)], 72, none⟩]) [0] (sub_cons rfl sub_nil) (by decide) (pick_cons rfl pick_nil) ?_
  exact tx_ret1' Try.results146 rfl () (rv_cell_agg' (i := 0) (o := 0) (nn := 2) rfl ⟨rfl, rfl, rfl, rfl⟩ rfl agg72 rfl) (List.nil_sublist _)
 replace hp := (br_f h3).symm.trans hp
 refine cx_skip' ?_
 show TX E K5 _
 refine tx_k' hK5 ?_
 refine cx_seq' fun K11 hK11 => ?_
 refine cx_plan' [] [(8, 1)] [(0, 1), (1, 1), (2, 1), (3, 1), (4, 1), (5, 1), (6, 0), (7, 1), (8, 0)] mixed (by kernel_rfl) ?_
 refine px_rd' rfl (rd_field0' rfl Try.underlying72 rfl info4 rfl) rfl rfl (wt_none' rfl) ?_
 refine px_rd' rfl (rd_load' (i := 1) (o := 0) rfl ⟨rfl, rfl, rfl, rfl⟩ rfl flat4) rfl rfl (wt_none' rfl) ?_
 refine px_rd' rfl (rd_field' (off := 1) rfl Try.underlying72 rfl info70 rfl) rfl rfl (wt_none' rfl) ?_
 refine px_rd' rfl (rd_load' (i := 1) (o := 1) rfl ⟨rfl, rfl, rfl, rfl⟩ rfl flat70) rfl rfl (wt_none' rfl) ?_
 refine px_rd' rfl (rd_field' (off := 1) rfl Try.underlying72 rfl info70 rfl) rfl rfl (wt_none' rfl) ?_
 refine px_rd' rfl (rd_load' (i := 2) (o := 1) rfl ⟨rfl, rfl, rfl, rfl⟩ rfl flat70) rfl rfl (wt_none' rfl) ?_
 obtain ⟨r42, hr42, hp⟩ := bind_some hp
 refine px_ox' rfl (ox_calln' (ent_fn' Try.func160 isn160 rfl rfl) (spec_subLimbs_sim _ _ hr42 : Sx.Fn Try.prog 160 [(Sl (Ki .u32) a1_1), (Sl (Ki .u32) a0_1)] [] (fun x : Unit => (Sl (Ki .u32) r42)) (fun x => [])) (Hn := fun x : Unit => [⟨.pointer (some q4), [(Vb false), Vn], 72, none⟩, ⟨.pointer (some q3), [(Vb a1_0), (Sl (Ki .u32) a1_1)], 72, none⟩, ⟨.pointer (some q2), [(Vb a0_0), (Sl (Ki .u32) a0_1)], 72, none⟩]) (fun _ => rfl) rfl rfl) rfl bs_nil (wt_none' rfl) fun ⟨⟩ => ?_
 refine px_rd' rfl (rd_build' (pls := [(0, 1), (1, 1)]) (qs := [(0, [(Vb a1_0)]), (1, [(Sl (Ki .u32) r42)])]) (r := [(Vb a1_0), (Sl (Ki .u32) r42)]) ⟨rfl, ⟨_, rfl, (lv_vl rfl rfl)⟩, ⟨rfl, ⟨_, rfl, (lv_sl _ _)⟩, trivial⟩⟩ Try.underlying72 has72 places72 info72 rfl rfl rfl) rfl rfl (wt_none' rfl) ?_
 refine px_oxv' rfl (oxv_store (i := 0) (o := 0) rfl rfl (lv_ag _) ⟨rfl, rfl, rfl, rfl⟩ rfl info72 rfl (H' := [⟨.pointer (some q4), [(Vb a1_0), (Sl (Ki .u32) r42)], 72, none⟩, ⟨.pointer (some q3), [(Vb a1_0), (Sl (Ki .u32) a1_1)], 72, none⟩, ⟨.pointer (some q2), [(Vb a0_0), (Sl (Ki .u32) a0_1)], 72, none⟩]) rfl) rfl rfl bo_nil (wt_none' rfl) fun _ => ?_
 refine px_nil' ?_
 show TX E K11 _
 refine tx_k' hK11 ?_
 refine cx_retc' ?_
 replace hp := Option.some.inj hp
 subst hp
 refine tx_pick' (L' := [(4, (Vp q4))]) (H' := [⟨.pointer (some q4), [(Vb a1_0), (Sl (Ki .u32) r42)], 72, none⟩]) [0] (sub_cons rfl sub_nil) (by decide) (pick_cons rfl pick_nil) ?_
 exact tx_ret1' Try.results146 rfl () (rv_cell_agg' (i := 0) (o := 0) (nn := 2) rfl ⟨rfl, rfl, rfl, rfl⟩ rfl agg72 rfl) (List.nil_sublist _)

def spec_Dyadic_Add (k : Nat) (a0_0 : Bool) (a0_1 : List Int) (a0_2 : Int) (a1_0 : Bool) (a1_1 : List Int) (a1_2 : Int) : Option (Bool × (List Int) × Int) :=
 (spec_Dyadic_Sign k a0_0 a0_1 a0_2) >>= fun r7 =>
 br (decide (r7 = 0))
  (some (a1_0, a1_1, a1_2))
  ((spec_Dyadic_Sign k a1_0 a1_1 a1_2) >>= fun r12 =>
  br (decide (r12 = 0))
   (some (a0_0, a0_1, a0_2))
   (br (decide (a1_2 < a0_2))
    ((spec_Whole_Up k a0_0 a0_1 (isub .i64 a0_2 a1_2)) >>= fun r28 =>
    (spec_Whole_Add k r28.1 r28.2 a1_0 a1_1) >>= fun r31 =>
    some (r31.1, r31.2, a1_2))
    ((spec_Whole_Up k a1_0 a1_1 (isub .i64 a1_2 a0_2)) >>= fun r42 =>
    (spec_Whole_Add k r42.1 r42.2 a0_0 a0_1) >>= fun r45 =>
    some (r45.1, r45.2, a0_2))))

theorem spec_Dyadic_Add_sim {k : Nat}  (a0_0 : Bool) (a0_1 : List Int) (a0_2 : Int) (a1_0 : Bool) (a1_1 : List Int) (a1_2 : Int) {out : Bool × (List Int) × Int} (hp : spec_Dyadic_Add k a0_0 a0_1 a0_2 a1_0 a1_1 a1_2 = some out) : Sx.Fn Try.prog 120 [(Ag [(Vb a0_0), (Sl (Ki .u32) a0_1), (Vi a0_2)]), (Ag [(Vb a1_0), (Sl (Ki .u32) a1_1), (Vi a1_2)])] [] (fun w : Unit => (Ag [(Vb out.1), (Sl (Ki .u32) out.2.1), (Vi out.2.2)])) (fun w => []) := by
 unfold spec_Dyadic_Add at hp
 refine fn_of Try.func120 rfl Try.ntmps120 rfl fun E hM => ?_
 refine cr fun K1 hK1 => ?_
 refine sx_ox' (ox_box' rfl (lv_ag _) rfl rfl) (wt_none' rfl) fun q2 => ?_
 refine sx_ox' (ox_box' rfl (lv_ag _) rfl rfl) (wt_none' rfl) fun q3 => ?_
 refine sx_ox' (ox_alloc' info74 rfl rfl rfl rfl (l := [(Vb false), Vn, (Vi 0)]) rfl) (wt_none' rfl) fun q4 => ?_
 refine nk hK1 ?_
 refine cx_seq' fun K2 hK2 => ?_
 refine cx_block' ?_
 refine cr fun K3 hK3 => ?_
 refine s0 (rd_load_agg' (i := 2) (o := 0) (nn := 3) rfl ⟨rfl, rfl, rfl, rfl⟩ rfl agg74 (l' := [(Vb a0_0), (Sl (Ki .u32) a0_1), (Vi a0_2)]) rfl) ?_
 obtain ⟨r7, hr7, hp⟩ := bind_some hp
 refine sx_ox' (ox_calln' (ent_fn' Try.func82 isn82 rfl rfl) (spec_Dyadic_Sign_sim _ _ _ hr7 : Sx.Fn Try.prog 82 [(Ag [(Vb a0_0), (Sl (Ki .u32) a0_1), (Vi a0_2)])] [] (fun x : Unit => (Vi r7)) (fun x => [])) (Hn := fun x : Unit => [⟨.pointer (some q4), [(Vb false), Vn, (Vi 0)], 74, none⟩, ⟨.pointer (some q3), [(Vb a1_0), (Sl (Ki .u32) a1_1), (Vi a1_2)], 74, none⟩, ⟨.pointer (some q2), [(Vb a0_0), (Sl (Ki .u32) a0_1), (Vi a0_2)], 74, none⟩]) (fun _ => rfl) rfl rfl) (wt_none' rfl) fun ⟨⟩ => ?_
 refine s0 (rd_bin' rfl rfl eg_int ru_eql) ?_
 refine s0 (rd_assign' rfl) ?_
 refine nk hK3 ?_
 refine cx_cond' rfl (fun h1 => ?_) (fun h1 => ?_)
 ·replace hp := (br_t h1).symm.trans hp
  refine cr fun K4 hK4 => ?_
  refine s0 (rd_load_agg' (i := 1) (o := 0) (nn := 3) rfl ⟨rfl, rfl, rfl, rfl⟩ rfl agg74 (l' := [(Vb a1_0), (Sl (Ki .u32) a1_1), (Vi a1_2)]) rfl) ?_
  refine sx_ox' (ox_store' (i := 0) (o := 0) rfl rfl (lv_ag _) ⟨rfl, rfl, rfl, rfl⟩ rfl info74 rfl (H' := [⟨.pointer (some q4), [(Vb a1_0), (Sl (Ki .u32) a1_1), (Vi a1_2)], 74, none⟩, ⟨.pointer (some q3), [(Vb a1_0), (Sl (Ki .u32) a1_1), (Vi a1_2)], 74, none⟩, ⟨.pointer (some q2), [(Vb a0_0), (Sl (Ki .u32) a0_1), (Vi a0_2)], 74, none⟩]) rfl) (wt_none' rfl) fun _ => ?_
  refine nk hK4 ?_
  refine cx_retc' ?_
  replace hp := Option.some.inj hp
  subst hp
  refine tx_pick' (L' := [(4, (Vp q4))]) (H' := [⟨.pointer (some q4), [(Vb a1_0), (Sl (Ki .u32) a1_1), (Vi a1_2)], 74, none⟩]) [0] (sub_cons rfl sub_nil) (by decide) (pick_cons rfl pick_nil) ?_
  exact tx_ret1' Try.results120 rfl () (rv_cell_agg' (i := 0) (o := 0) (nn := 3) rfl ⟨rfl, rfl, rfl, rfl⟩ rfl agg74 rfl) (List.nil_sublist _)
 replace hp := (br_f h1).symm.trans hp
 refine cr fun K5 hK5 => ?_
 refine s0 (rd_load_agg' (i := 1) (o := 0) (nn := 3) rfl ⟨rfl, rfl, rfl, rfl⟩ rfl agg74 (l' := [(Vb a1_0), (Sl (Ki .u32) a1_1), (Vi a1_2)]) rfl) ?_
 obtain ⟨r12, hr12, hp⟩ := bind_some hp
 refine sx_ox' (ox_calln' (ent_fn' Try.func82 isn82 rfl rfl) (spec_Dyadic_Sign_sim _ _ _ hr12 : Sx.Fn Try.prog 82 [(Ag [(Vb a1_0), (Sl (Ki .u32) a1_1), (Vi a1_2)])] [] (fun x : Unit => (Vi r12)) (fun x => [])) (Hn := fun x : Unit => [⟨.pointer (some q4), [(Vb false), Vn, (Vi 0)], 74, none⟩, ⟨.pointer (some q3), [(Vb a1_0), (Sl (Ki .u32) a1_1), (Vi a1_2)], 74, none⟩, ⟨.pointer (some q2), [(Vb a0_0), (Sl (Ki .u32) a0_1), (Vi a0_2)], 74, none⟩]) (fun _ => rfl) rfl rfl) (wt_none' rfl) fun ⟨⟩ => ?_
 refine s0 (rd_bin' rfl rfl eg_int ru_eql) ?_
 refine s0 (rd_assign' rfl) ?_
 refine nk hK5 ?_
 refine cx_cond' rfl (fun h2 => ?_) (fun h2 => ?_)
 ·replace hp := (br_t h2).symm.trans hp
  refine cr fun K6 hK6 => ?_
  refine s0 (rd_load_agg' (i := 2) (o := 0) (nn := 3) rfl ⟨rfl, rfl, rfl, rfl⟩ rfl agg74 (l' := [(Vb a0_0), (Sl (Ki .u32) a0_1), (Vi a0_2)]) rfl) ?_
  refine sx_ox' (ox_store' (i := 0) (o := 0) rfl rfl (lv_ag _) ⟨rfl, rfl, rfl, rfl⟩ rfl info74 rfl (H' := [⟨.pointer (some q4), [(Vb a0_0), (Sl (Ki .u32) a0_1), (Vi a0_2)], 74, none⟩, ⟨.pointer (some q3), [(Vb a1_0), (Sl (Ki .u32) a1_1), (Vi a1_2)], 74, none⟩, ⟨.pointer (some q2), [(Vb a0_0), (Sl (Ki .u32) a0_1), (Vi a0_2)], 74, none⟩]) rfl) (wt_none' rfl) fun _ => ?_
  refine nk hK6 ?_
  refine cx_retc' ?_
  replace hp := Option.some.inj hp
  subst hp
  refine tx_pick' (L' := [(4, (Vp q4))]) (H' := [⟨.pointer (some q4), [(Vb a0_0), (Sl (Ki .u32) a0_1), (Vi a0_2)], 74, none⟩]) [0] (sub_cons rfl sub_nil) (by decide) (pick_cons rfl pick_nil) ?_
  exact tx_ret1' Try.results120 rfl () (rv_cell_agg' (i := 0) (o := 0) (nn := 3) rfl ⟨rfl, rfl, rfl, rfl⟩ rfl agg74 rfl) (List.nil_sublist _)
 replace hp := (br_f h2).symm.trans hp
 refine cr fun K7 hK7 => ?_
 refine s0 (rd_field' (off := 2) rfl Try.underlying74 rfl info3 rfl) ?_
 refine s0 (rd_load' (i := 2) (o := 2) rfl ⟨rfl, rfl, rfl, rfl⟩ rfl flat3) ?_
 refine s0 (rd_field' (off := 2) rfl Try.underlying74 rfl info3 rfl) ?_
 refine s0 (rd_load' (i := 1) (o := 2) rfl ⟨rfl, rfl, rfl, rfl⟩ rfl flat3) ?_
 refine s0 (rd_bin' rfl rfl eg_int ru_gtr) ?_
 refine s0 (rd_assign' rfl) ?_
 refine nk hK7 ?_
 refine cx_cond' rfl (fun h3 => ?_) (fun h3 => ?_)
 ·replace hp := (br_t h3).symm.trans hp
  refine cx_seq' fun K8 hK8 => ?_
  refine cx_plan' [] [(14, 1)] [(0, 1), (1, 1), (2, 1), (3, 1), (4, 1), (5, 1), (6, 1), (8, 1), (9, 1), (11, 1), (12, 1), (7, 0), (10, 0), (13, 1), (14, 0)] mixed (by kernel_rfl) ?_
  refine px_rd' rfl (rd_field0' rfl Try.underlying74 rfl info72 rfl) rfl rfl (wt_none' rfl) ?_
  refine px_rd' rfl (rd_load_agg' (i := 2) (o := 0) (nn := 2) rfl ⟨rfl, rfl, rfl, rfl⟩ rfl agg72 (l' := [(Vb a0_0), (Sl (Ki .u32) a0_1)]) rfl) rfl rfl (wt_none' rfl) ?_
  refine px_rd' rfl (rd_field' (off := 2) rfl Try.underlying74 rfl info3 rfl) rfl rfl (wt_none' rfl) ?_
  refine px_rd' rfl (rd_load' (i := 2) (o := 2) rfl ⟨rfl, rfl, rfl, rfl⟩ rfl flat3) rfl rfl (wt_none' rfl) ?_
  refine px_rd' rfl (rd_field' (off := 2) rfl Try.underlying74 rfl info3 rfl) rfl rfl (wt_none' rfl) ?_
  refine px_rd' rfl (rd_load' (i := 1) (o := 2) rfl ⟨rfl, rfl, rfl, rfl⟩ rfl flat3) rfl rfl (wt_none' rfl) ?_
  refine px_rd' rfl (rd_bin' rfl rfl eg_int ru_sub) rfl rfl (wt_none' rfl) ?_
  refine px_rd' rfl (rd_field0' rfl Try.underlying74 rfl info72 rfl) rfl rfl (wt_none' rfl) ?_
  refine px_rd' rfl (rd_load_agg' (i := 1) (o := 0) (nn := 2) rfl ⟨rfl, rfl, rfl, rfl⟩ rfl agg72 (l' := [(Vb a1_0), (Sl (Ki .u32) a1_1)]) rfl) rfl rfl (wt_none' rfl) ?_
  refine px_rd' rfl (rd_field' (off := 2) rfl Try.underlying74 rfl info3 rfl) rfl rfl (wt_none' rfl) ?_
  refine px_rd' rfl (rd_load' (i := 1) (o := 2) rfl ⟨rfl, rfl, rfl, rfl⟩ rfl flat3) rfl rfl (wt_none' rfl) ?_
  obtain ⟨r28, hr28, hp⟩ := bind_some hp
  refine px_ox' rfl (ox_calln' (ent_fn' Try.func145 isn145 rfl rfl) (spec_Whole_Up_sim _ _ _ hr28 : Sx.Fn Try.prog 145 [(Ag [(Vb a0_0), (Sl (Ki .u32) a0_1)]), (Vi (isub .i64 a0_2 a1_2))] [] (fun x : Unit => (Ag [(Vb r28.1), (Sl (Ki .u32) r28.2)])) (fun x => [])) (Hn := fun x : Unit => [⟨.pointer (some q4), [(Vb false), Vn, (Vi 0)], 74, none⟩, ⟨.pointer (some q3), [(Vb a1_0), (Sl (Ki .u32) a1_1), (Vi a1_2)], 74, none⟩, ⟨.pointer (some q2), [(Vb a0_0), (Sl (Ki .u32) a0_1), (Vi a0_2)], 74, none⟩]) (fun _ => rfl) rfl rfl) rfl bs_nil (wt_none' rfl) fun ⟨⟩ => ?_
  obtain ⟨r31, hr31, hp⟩ := bind_some hp
  refine px_ox' rfl (ox_calln' (ent_fn' Try.func146 isn146 rfl rfl) (spec_Whole_Add_sim _ _ _ _ hr31 : Sx.Fn Try.prog 146 [(Ag [(Vb r28.1), (Sl (Ki .u32) r28.2)]), (Ag [(Vb a1_0), (Sl (Ki .u32) a1_1)])] [] (fun x : Unit => (Ag [(Vb r31.1), (Sl (Ki .u32) r31.2)])) (fun x => [])) (Hn := fun x : Unit => [⟨.pointer (some q4), [(Vb false), Vn, (Vi 0)], 74, none⟩, ⟨.pointer (some q3), [(Vb a1_0), (Sl (Ki .u32) a1_1), (Vi a1_2)], 74, none⟩, ⟨.pointer (some q2), [(Vb a0_0), (Sl (Ki .u32) a0_1), (Vi a0_2)], 74, none⟩]) (fun _ => rfl) rfl rfl) rfl bs_nil (wt_none' rfl) fun ⟨⟩ => ?_
  refine px_rd' rfl (rd_build' (pls := [(0, 2), (2, 1)]) (qs := [(0, [(Vb r31.1), (Sl (Ki .u32) r31.2)]), (1, [(Vi a1_2)])]) (r := [(Vb r31.1), (Sl (Ki .u32) r31.2), (Vi a1_2)]) ⟨rfl, ⟨_, rfl, (lv_ag _)⟩, ⟨rfl, ⟨_, rfl, (lv_vl rfl rfl)⟩, trivial⟩⟩ Try.underlying74 has74 places74 info74 rfl rfl rfl) rfl rfl (wt_none' rfl) ?_
  refine px_oxv' rfl (oxv_store (i := 0) (o := 0) rfl rfl (lv_ag _) ⟨rfl, rfl, rfl, rfl⟩ rfl info74 rfl (H' := [⟨.pointer (some q4), [(Vb r31.1), (Sl (Ki .u32) r31.2), (Vi a1_2)], 74, none⟩, ⟨.pointer (some q3), [(Vb a1_0), (Sl (Ki .u32) a1_1), (Vi a1_2)], 74, none⟩, ⟨.pointer (some q2), [(Vb a0_0), (Sl (Ki .u32) a0_1), (Vi a0_2)], 74, none⟩]) rfl) rfl rfl bo_nil (wt_none' rfl) fun _ => ?_
  refine px_nil' ?_
  show TX E K8 _
  refine tx_k' hK8 ?_
  refine cx_retc' ?_
  replace hp := Option.some.inj hp
  subst hp
  refine tx_pick' (L' := [(4, (Vp q4))]) (H' := [⟨.pointer (some q4), [(Vb r31.1), (Sl (Ki .u32) r31.2), (Vi a1_2)], 74, none⟩]) [0] (sub_cons rfl sub_nil) (by decide) (pick_cons rfl pick_nil) ?_
  exact tx_ret1' Try.results120 rfl () (rv_cell_agg' (i := 0) (o := 0) (nn := 3) rfl ⟨rfl, rfl, rfl, rfl⟩ rfl agg74 rfl) (List.nil_sublist _)
 replace hp := (br_f h3).symm.trans hp
 refine cx_skip' ?_
 show TX E K2 _
 refine tx_k' hK2 ?_
 refine cx_seq' fun K9 hK9 => ?_
 refine cx_plan' [] [(14, 1)] [(0, 1), (1, 1), (2, 1), (3, 1), (4, 1), (5, 1), (6, 1), (8, 1), (9, 1), (11, 1), (12, 1), (7, 0), (10, 0), (13, 1), (14, 0)] mixed (by kernel_rfl) ?_
 refine px_rd' rfl (rd_field0' rfl Try.underlying74 rfl info72 rfl) rfl rfl (wt_none' rfl) ?_
 refine px_rd' rfl (rd_load_agg' (i := 1) (o := 0) (nn := 2) rfl ⟨rfl, rfl, rfl, rfl⟩ rfl agg72 (l' := [(Vb a1_0), (Sl (Ki .u32) a1_1)]) rfl) rfl rfl (wt_none' rfl) ?_
 refine px_rd' rfl (rd_field' (off := 2) rfl Try.underlying74 rfl info3 rfl) rfl rfl (wt_none' rfl) ?_
 refine px_rd' rfl (rd_load' (i := 1) (o := 2) rfl ⟨rfl, rfl, rfl, rfl⟩ rfl flat3) rfl rfl (wt_none' rfl) ?_
 refine px_rd' rfl (rd_field' (off := 2) rfl Try.underlying74 rfl info3 rfl) rfl rfl (wt_none' rfl) ?_
 refine px_rd' rfl (rd_load' (i := 2) (o := 2) rfl ⟨rfl, rfl, rfl, rfl⟩ rfl flat3) rfl rfl (wt_none' rfl) ?_
 refine px_rd' rfl (rd_bin' rfl rfl eg_int ru_sub) rfl rfl (wt_none' rfl) ?_
 refine px_rd' rfl (rd_field0' rfl Try.underlying74 rfl info72 rfl) rfl rfl (wt_none' rfl) ?_
 refine px_rd' rfl (rd_load_agg' (i := 2) (o := 0) (nn := 2) rfl ⟨rfl, rfl, rfl, rfl⟩ rfl agg72 (l' := [(Vb a0_0), (Sl (Ki .u32) a0_1)]) rfl) rfl rfl (wt_none' rfl) ?_
 refine px_rd' rfl (rd_field' (off := 2) rfl Try.underlying74 rfl info3 rfl) rfl rfl (wt_none' rfl) ?_
 refine px_rd' rfl (rd_load' (i := 2) (o := 2) rfl ⟨rfl, rfl, rfl, rfl⟩ rfl flat3) rfl rfl (wt_none' rfl) ?_
 obtain ⟨r42, hr42, hp⟩ := bind_some hp
 refine px_ox' rfl (ox_calln' (ent_fn' Try.func145 isn145 rfl rfl) (spec_Whole_Up_sim _ _ _ hr42 : Sx.Fn Try.prog 145 [(Ag [(Vb a1_0), (Sl (Ki .u32) a1_1)]), (Vi (isub .i64 a1_2 a0_2))] [] (fun x : Unit => (Ag [(Vb r42.1), (Sl (Ki .u32) r42.2)])) (fun x => [])) (Hn := fun x : Unit => [⟨.pointer (some q4), [(Vb false), Vn, (Vi 0)], 74, none⟩, ⟨.pointer (some q3), [(Vb a1_0), (Sl (Ki .u32) a1_1), (Vi a1_2)], 74, none⟩, ⟨.pointer (some q2), [(Vb a0_0), (Sl (Ki .u32) a0_1), (Vi a0_2)], 74, none⟩]) (fun _ => rfl) rfl rfl) rfl bs_nil (wt_none' rfl) fun ⟨⟩ => ?_
 obtain ⟨r45, hr45, hp⟩ := bind_some hp
 refine px_ox' rfl (ox_calln' (ent_fn' Try.func146 isn146 rfl rfl) (spec_Whole_Add_sim _ _ _ _ hr45 : Sx.Fn Try.prog 146 [(Ag [(Vb r42.1), (Sl (Ki .u32) r42.2)]), (Ag [(Vb a0_0), (Sl (Ki .u32) a0_1)])] [] (fun x : Unit => (Ag [(Vb r45.1), (Sl (Ki .u32) r45.2)])) (fun x => [])) (Hn := fun x : Unit => [⟨.pointer (some q4), [(Vb false), Vn, (Vi 0)], 74, none⟩, ⟨.pointer (some q3), [(Vb a1_0), (Sl (Ki .u32) a1_1), (Vi a1_2)], 74, none⟩, ⟨.pointer (some q2), [(Vb a0_0), (Sl (Ki .u32) a0_1), (Vi a0_2)], 74, none⟩]) (fun _ => rfl) rfl rfl) rfl bs_nil (wt_none' rfl) fun ⟨⟩ => ?_
 refine px_rd' rfl (rd_build' (pls := [(0, 2), (2, 1)]) (qs := [(0, [(Vb r45.1), (Sl (Ki .u32) r45.2)]), (1, [(Vi a0_2)])]) (r := [(Vb r45.1), (Sl (Ki .u32) r45.2), (Vi a0_2)]) ⟨rfl, ⟨_, rfl, (lv_ag _)⟩, ⟨rfl, ⟨_, rfl, (lv_vl rfl rfl)⟩, trivial⟩⟩ Try.underlying74 has74 places74 info74 rfl rfl rfl) rfl rfl (wt_none' rfl) ?_
 refine px_oxv' rfl (oxv_store (i := 0) (o := 0) rfl rfl (lv_ag _) ⟨rfl, rfl, rfl, rfl⟩ rfl info74 rfl (H' := [⟨.pointer (some q4), [(Vb r45.1), (Sl (Ki .u32) r45.2), (Vi a0_2)], 74, none⟩, ⟨.pointer (some q3), [(Vb a1_0), (Sl (Ki .u32) a1_1), (Vi a1_2)], 74, none⟩, ⟨.pointer (some q2), [(Vb a0_0), (Sl (Ki .u32) a0_1), (Vi a0_2)], 74, none⟩]) rfl) rfl rfl bo_nil (wt_none' rfl) fun _ => ?_
 refine px_nil' ?_
 show TX E K9 _
 refine tx_k' hK9 ?_
 refine cx_retc' ?_
 replace hp := Option.some.inj hp
 subst hp
 refine tx_pick' (L' := [(4, (Vp q4))]) (H' := [⟨.pointer (some q4), [(Vb r45.1), (Sl (Ki .u32) r45.2), (Vi a0_2)], 74, none⟩]) [0] (sub_cons rfl sub_nil) (by decide) (pick_cons rfl pick_nil) ?_
 exact tx_ret1' Try.results120 rfl () (rv_cell_agg' (i := 0) (o := 0) (nn := 3) rfl ⟨rfl, rfl, rfl, rfl⟩ rfl agg74 rfl) (List.nil_sublist _)

def spec_Dyadic_Sub (k : Nat) (a0_0 : Bool) (a0_1 : List Int) (a0_2 : Int) (a1_0 : Bool) (a1_1 : List Int) (a1_2 : Int) : Option (Bool × (List Int) × Int) :=
 (spec_Dyadic_Minus k a1_0 a1_1 a1_2) >>= fun r7 =>
 (spec_Dyadic_Add k a0_0 a0_1 a0_2 r7.1 r7.2.1 r7.2.2) >>= fun r8 =>
 some (r8.1, r8.2.1, r8.2.2)

theorem spec_Dyadic_Sub_sim {k : Nat}  (a0_0 : Bool) (a0_1 : List Int) (a0_2 : Int) (a1_0 : Bool) (a1_1 : List Int) (a1_2 : Int) {out : Bool × (List Int) × Int} (hp : spec_Dyadic_Sub k a0_0 a0_1 a0_2 a1_0 a1_1 a1_2 = some out) : Sx.Fn Try.prog 81 [(Ag [(Vb a0_0), (Sl (Ki .u32) a0_1), (Vi a0_2)]), (Ag [(Vb a1_0), (Sl (Ki .u32) a1_1), (Vi a1_2)])] [] (fun w : Unit => (Ag [(Vb out.1), (Sl (Ki .u32) out.2.1), (Vi out.2.2)])) (fun w => []) := by
 unfold spec_Dyadic_Sub at hp
 refine fn_of Try.func81 rfl Try.ntmps81 rfl fun E hM => ?_
 refine cr fun K1 hK1 => ?_
 refine sx_ox' (ox_box' rfl (lv_ag _) rfl rfl) (wt_none' rfl) fun q2 => ?_
 refine sx_ox' (ox_box' rfl (lv_ag _) rfl rfl) (wt_none' rfl) fun q3 => ?_
 refine sx_ox' (ox_alloc' info74 rfl rfl rfl rfl (l := [(Vb false), Vn, (Vi 0)]) rfl) (wt_none' rfl) fun q4 => ?_
 refine nk hK1 ?_
 refine cx_seq' fun K2 hK2 => ?_
 refine cx_plan' [] [(4, 1)] [(0, 1), (1, 1), (2, 0), (3, 0), (4, 0)] mixed (by kernel_rfl) ?_
 refine px_rd' rfl (rd_load_agg' (i := 2) (o := 0) (nn := 3) rfl ⟨rfl, rfl, rfl, rfl⟩ rfl agg74 (l' := [(Vb a0_0), (Sl (Ki .u32) a0_1), (Vi a0_2)]) rfl) rfl rfl (wt_none' rfl) ?_
 refine px_rd' rfl (rd_load_agg' (i := 1) (o := 0) (nn := 3) rfl ⟨rfl, rfl, rfl, rfl⟩ rfl agg74 (l' := [(Vb a1_0), (Sl (Ki .u32) a1_1), (Vi a1_2)]) rfl) rfl rfl (wt_none' rfl) ?_
 obtain ⟨r7, hr7, hp⟩ := bind_some hp
 refine px_ox' rfl (ox_calln' (ent_fn' Try.func122 isn122 rfl rfl) (spec_Dyadic_Minus_sim _ _ _ hr7 : Sx.Fn Try.prog 122 [(Ag [(Vb a1_0), (Sl (Ki .u32) a1_1), (Vi a1_2)])] [] (fun x : Unit => (Ag [(Vb r7.1), (Sl (Ki .u32) r7.2.1), (Vi r7.2.2)])) (fun x => [])) (Hn := fun x : Unit => [⟨.pointer (some q4), [(Vb false), Vn, (Vi 0)], 74, none⟩, ⟨.pointer (some q3), [(Vb a1_0), (Sl (Ki .u32) a1_1), (Vi a1_2)], 74, none⟩, ⟨.pointer (some q2), [(Vb a0_0), (Sl (Ki .u32) a0_1), (Vi a0_2)], 74, none⟩]) (fun _ => rfl) rfl rfl) rfl bs_nil (wt_none' rfl) fun ⟨⟩ => ?_
 obtain ⟨r8, hr8, hp⟩ := bind_some hp
 refine px_ox' rfl (ox_calln' (ent_fn' Try.func120 isn120 rfl rfl) (spec_Dyadic_Add_sim _ _ _ _ _ _ hr8 : Sx.Fn Try.prog 120 [(Ag [(Vb a0_0), (Sl (Ki .u32) a0_1), (Vi a0_2)]), (Ag [(Vb r7.1), (Sl (Ki .u32) r7.2.1), (Vi r7.2.2)])] [] (fun x : Unit => (Ag [(Vb r8.1), (Sl (Ki .u32) r8.2.1), (Vi r8.2.2)])) (fun x => [])) (Hn := fun x : Unit => [⟨.pointer (some q4), [(Vb false), Vn, (Vi 0)], 74, none⟩, ⟨.pointer (some q3), [(Vb a1_0), (Sl (Ki .u32) a1_1), (Vi a1_2)], 74, none⟩, ⟨.pointer (some q2), [(Vb a0_0), (Sl (Ki .u32) a0_1), (Vi a0_2)], 74, none⟩]) (fun _ => rfl) rfl rfl) rfl bs_nil (wt_none' rfl) fun ⟨⟩ => ?_
 refine px_oxv' rfl (oxv_store (i := 0) (o := 0) rfl rfl (lv_ag _) ⟨rfl, rfl, rfl, rfl⟩ rfl info74 rfl (H' := [⟨.pointer (some q4), [(Vb r8.1), (Sl (Ki .u32) r8.2.1), (Vi r8.2.2)], 74, none⟩, ⟨.pointer (some q3), [(Vb a1_0), (Sl (Ki .u32) a1_1), (Vi a1_2)], 74, none⟩, ⟨.pointer (some q2), [(Vb a0_0), (Sl (Ki .u32) a0_1), (Vi a0_2)], 74, none⟩]) rfl) rfl rfl bo_nil (wt_none' rfl) fun _ => ?_
 refine px_nil' ?_
 show TX E K2 _
 refine tx_k' hK2 ?_
 refine cx_retc' ?_
 replace hp := Option.some.inj hp
 subst hp
 refine tx_pick' (L' := [(4, (Vp q4))]) (H' := [⟨.pointer (some q4), [(Vb r8.1), (Sl (Ki .u32) r8.2.1), (Vi r8.2.2)], 74, none⟩]) [0] (sub_cons rfl sub_nil) (by decide) (pick_cons rfl pick_nil) ?_
 exact tx_ret1' Try.results81 rfl () (rv_cell_agg' (i := 0) (o := 0) (nn := 3) rfl ⟨rfl, rfl, rfl, rfl⟩ rfl agg74 rfl) (List.nil_sublist _)

def spec_Whole_Mul_l2s (a1_1 : List Int) (x12 : Int) (r26 : Int) (k : Nat) (rec2 : ((List Int) × Int × Int) → Option ((List Int) × Int)) (x6 : List Int) (x7 : Int) (x8 : Int) : Option ((List Int) × Int) :=
 br (decide (x8 < (a1_1.length : Int)))
  ((idx a1_1 x8) >>= fun r34 =>
  (idx x6 (iadd .i64 x12 x8)) >>= fun r45 =>
  (idx x6 (iadd .i64 x12 x8)) >>= fun r57 =>
  (ishr .u64 (iadd .u64 (iadd .u64 (imul .u64 (icv .u64 r26) (icv .u64 r34)) (icv .u64 r45)) x7) 32) >>= fun r59 =>
  rec2 ((x6.set (iadd .i64 x12 x8).toNat (icv .u32 (iadd .u64 (iadd .u64 (imul .u64 (icv .u64 r26) (icv .u64 r34)) (icv .u64 r45)) x7))), r59, (iadd .i64 x8 1)))
  (some (x6, x7))
def spec_Whole_Mul_l2 (a1_1 : List Int) (x12 : Int) (r26 : Int) : Nat → ((List Int) × Int × Int) → Option ((List Int) × Int)
 | 0, _ => none
 | k + 1, v => spec_Whole_Mul_l2s a1_1 x12 r26 k (spec_Whole_Mul_l2 a1_1 x12 r26 k) v.1 v.2.1 v.2.2
def spec_Whole_Mul_l3s (a0_1 : List Int) (a1_1 : List Int) (k : Nat) (rec3 : ((List Int) × Int) → Option ((List Int))) (x11 : List Int) (x12 : Int) : Option ((List Int)) :=
 br (decide (x12 < (a0_1.length : Int)))
  ((idx a0_1 x12) >>= fun r26 =>
  (spec_Whole_Mul_l2 a1_1 x12 r26 k (x11, 0, 0)) >>= fun v5 =>
  (idx v5.1 (iadd .i64 x12 (a1_1.length : Int))) >>= fun r69 =>
  rec3 ((v5.1.set (iadd .i64 x12 (a1_1.length : Int)).toNat (icv .u32 v5.2)), (iadd .i64 x12 1)))
  (some x11)
def spec_Whole_Mul_l3 (a0_1 : List Int) (a1_1 : List Int) : Nat → ((List Int) × Int) → Option ((List Int))
 | 0, _ => none
 | k + 1, v => spec_Whole_Mul_l3s a0_1 a1_1 k (spec_Whole_Mul_l3 a0_1 a1_1 k) v.1 v.2
def spec_Whole_Mul_j1 (k : Nat) (r72 : (List Int)) (x14 : Bool) : Option (Bool × (List Int)) :=
 some (x14, r72)
def spec_Whole_Mul (k : Nat) (a0_0 : Bool) (a0_1 : List Int) (a1_0 : Bool) (a1_1 : List Int) : Option (Bool × (List Int)) :=
 (mk 4 0 (iadd .i64 (a0_1.length : Int) (a1_1.length : Int)) (iadd .i64 (a0_1.length : Int) (a1_1.length : Int))) >>= fun r19 =>
 (spec_Whole_Mul_l3 a0_1 a1_1 k (r19, 0)) >>= fun v6 =>
 (spec_trim k v6) >>= fun r72 =>
 br (decide (0 < (r72.length : Int)))
  (spec_Whole_Mul_j1 k r72 (!(a0_0 == a1_0)))
  (spec_Whole_Mul_j1 k r72 false)

theorem spec_Whole_Mul_sim {k : Nat}  (a0_0 : Bool) (a0_1 : List Int) (a1_0 : Bool) (a1_1 : List Int) {out : Bool × (List Int)} (hp : spec_Whole_Mul k a0_0 a0_1 a1_0 a1_1 = some out) : Sx.Fn Try.prog 121 [(Ag [(Vb a0_0), (Sl (Ki .u32) a0_1)]), (Ag [(Vb a1_0), (Sl (Ki .u32) a1_1)])] [] (fun w : Unit => (Ag [(Vb out.1), (Sl (Ki .u32) out.2)])) (fun w => []) := by
 unfold spec_Whole_Mul at hp
 refine fn_of Try.func121 rfl Try.ntmps121 rfl fun E hM => ?_
 refine cr fun K1 hK1 => ?_
 refine sx_ox' (ox_box' rfl (lv_ag _) rfl rfl) (wt_none' rfl) fun q2 => ?_
 refine sx_ox' (ox_box' rfl (lv_ag _) rfl rfl) (wt_none' rfl) fun q3 => ?_
 refine sx_ox' (ox_alloc' info72 rfl rfl rfl rfl (l := [(Vb false), Vn]) rfl) (wt_none' rfl) fun q4 => ?_
 refine nk hK1 ?_
 refine cr fun K2 hK2 => ?_
 refine s0 (rd_field' (off := 1) rfl Try.underlying72 rfl info70 rfl) ?_
 refine s0 (rd_load' (i := 2) (o := 1) rfl ⟨rfl, rfl, rfl, rfl⟩ rfl flat70) ?_
 refine s0 (rd_len' rfl Try.underlying70) ?_
 refine s0 (rd_field' (off := 1) rfl Try.underlying72 rfl info70 rfl) ?_
 refine s0 (rd_load' (i := 1) (o := 1) rfl ⟨rfl, rfl, rfl, rfl⟩ rfl flat70) ?_
 refine s0 (rd_len' rfl Try.underlying70) ?_
 refine s0 (rd_bin' rfl rfl eg_int ru_add) ?_
 obtain ⟨r19, hr19, hp⟩ := bind_some hp
 refine sx_ox' (ox_make' (K := (Ki .u32)) rfl rfl hr19 rfl Try.underlying70 info183 rfl rfl rfl rfl rfl) (wt_none' rfl) fun g19 => ?_
 refine s0 (rd_assign' rfl) ?_
 refine nk hK2 ?_
 refine cx_seq' fun K3 hK3 => ?_
 refine cr fun K4 hK4 => ?_
 refine s0 (rd_field' (off := 1) rfl Try.underlying72 rfl info70 rfl) ?_
 refine s0 (rd_load' (i := 3) (o := 1) rfl ⟨rfl, rfl, rfl, rfl⟩ rfl flat70) ?_
 refine s0 (rd_len' rfl Try.underlying70) ?_
 refine s0 (rd_move' rfl) ?_
 refine nk hK4 ?_
 refine cx_block' ?_
 obtain ⟨v6, hy3, hp⟩ := bind_some hp
 refine cx_loopg' (F := spec_Whole_Mul_l3 a0_1 a1_1) (G := fun k R v => spec_Whole_Mul_l3s a0_1 a1_1 k R v.1 v.2) (x := (r19, 0)) (gh := ()) (fun (v3 : (List Int) × Int) (w3 : Unit) => (⟨85, [], [(2, (Vp q2)), (3, (Vp q3)), (4, (Vp q4)), (5, (Vl (Vs g19))), (21, (Sl (Ki .u32) a0_1)), (22, (Vi (a0_1.length : Int))), (23, (Vi v3.2))], [⟨.pointer (some q2), [(Vb a0_0), (Sl (Ki .u32) a0_1)], 72, none⟩, ⟨.pointer (some q3), [(Vb a1_0), (Sl (Ki .u32) a1_1)], 72, none⟩, ⟨.pointer (some q4), [(Vb false), Vn], 72, none⟩, (Rw (Ki .u32) 183 (Vs g19) v3.1)]⟩ : St)) (fun (v6 : (List Int)) => Zg E (Exit.exit 0) (fun (w6 : Unit) => (⟨85, [], [(2, (Vp q2)), (3, (Vp q3)), (4, (Vp q4)), (5, (Vl (Vs g19)))], [⟨.pointer (some q2), [(Vb a0_0), (Sl (Ki .u32) a0_1)], 72, none⟩, ⟨.pointer (some q3), [(Vb a1_0), (Sl (Ki .u32) a1_1)], 72, none⟩, ⟨.pointer (some q4), [(Vb false), Vn], 72, none⟩, (Rw (Ki .u32) 183 (Vs g19) v6)]⟩ : St))) (fun _ => rfl) (fun _ _ => rfl) ?_ hy3 (tx_to' rfl [3, 2, 1, 0] (sub_cons rfl (sub_cons rfl (sub_cons rfl (sub_cons rfl (sub_cons rfl (sub_cons rfl (sub_cons rfl sub_nil))))))) (by decide) (pick_cons rfl (pick_cons rfl (pick_cons rfl (pick_cons rfl pick_nil))))) ?_
 ·clear hp hy3
  clear v6
  intro k rec3 KY3 ih3
  rintro ⟨x11, x12⟩ ⟨⟩ y3 hp
  replace hp : spec_Whole_Mul_l3s a0_1 a1_1 k rec3 x11 x12 = some y3 := hp
  unfold spec_Whole_Mul_l3s at hp
  refine cr fun K24 hK24 => ?_
  refine s0 (rd_bin' rfl rfl eg_int ru_lss) ?_
  refine nk hK24 ?_
  refine cx_seq' fun K25 hK25 => ?_
  refine cx_cond' rfl (fun h6 => ?_) (fun h6 => ?_)
  ·replace hp := (br_t h6).symm.trans hp
   refine cx_skip' ?_
   show TX E K25 _
   refine tx_k' hK25 ?_
   refine cx_seq' fun K26 hK26 => ?_
   refine cx_block' ?_
   refine cr fun K27 hK27 => ?_
   refine s0 (rd_move' rfl) ?_
   obtain ⟨r26, hr26, hp⟩ := bind_some hp
   refine s0 (rd_at' (K := (Ki .u32)) rfl rfl hr26 Try.underlying70 info183) ?_
   refine s0 (rd_load_pt' rfl rfl flat183) ?_
   refine s0 (rd_assign' rfl) ?_
   refine s0 (rd_assign' rfl) ?_
   refine nk hK27 ?_
   refine cr fun K28 hK28 => ?_
   refine s0 (rd_assign' rfl) ?_
   refine nk hK28 ?_
   refine cx_seq' fun K29 hK29 => ?_
   refine cr fun K30 hK30 => ?_
   refine s0 (rd_field' (off := 1) rfl Try.underlying72 rfl info70 rfl) ?_
   refine s0 (rd_load' (i := 1) (o := 1) rfl ⟨rfl, rfl, rfl, rfl⟩ rfl flat70) ?_
   refine s0 (rd_len' rfl Try.underlying70) ?_
   refine s0 (rd_move' rfl) ?_
   refine nk hK30 ?_
   refine cx_block' ?_
   obtain ⟨v5, hy2, hp⟩ := bind_some hp
   refine cx_loopg' (F := spec_Whole_Mul_l2 a1_1 x12 r26) (G := fun k R v => spec_Whole_Mul_l2s a1_1 x12 r26 k R v.1 v.2.1 v.2.2) (x := (x11, 0, 0)) (gh := ()) (fun (v4 : (List Int) × Int × Int) (w4 : Unit) => (⟨85, [], [(2, (Vp q2)), (3, (Vp q3)), (4, (Vp q4)), (5, (Vl (Vs g19))), (6, (Vi x12)), (7, (Vl (.int .u32 r26))), (8, (Vl (.int .u64 v4.2.1))), (21, (Sl (Ki .u32) a0_1)), (22, (Vi (a0_1.length : Int))), (23, (Vi x12)), (29, (Sl (Ki .u32) a1_1)), (30, (Vi (a1_1.length : Int))), (31, (Vi v4.2.2))], [⟨.pointer (some q2), [(Vb a0_0), (Sl (Ki .u32) a0_1)], 72, none⟩, ⟨.pointer (some q3), [(Vb a1_0), (Sl (Ki .u32) a1_1)], 72, none⟩, ⟨.pointer (some q4), [(Vb false), Vn], 72, none⟩, (Rw (Ki .u32) 183 (Vs g19) v4.1)]⟩ : St)) (fun (v5 : (List Int) × Int) => Zg E (Exit.exit 2) (fun (w5 : Unit) => (⟨85, [], [(2, (Vp q2)), (3, (Vp q3)), (4, (Vp q4)), (5, (Vl (Vs g19))), (6, (Vi x12)), (8, (Vl (.int .u64 v5.2))), (21, (Sl (Ki .u32) a0_1)), (22, (Vi (a0_1.length : Int))), (23, (Vi x12))], [⟨.pointer (some q2), [(Vb a0_0), (Sl (Ki .u32) a0_1)], 72, none⟩, ⟨.pointer (some q3), [(Vb a1_0), (Sl (Ki .u32) a1_1)], 72, none⟩, ⟨.pointer (some q4), [(Vb false), Vn], 72, none⟩, (Rw (Ki .u32) 183 (Vs g19) v5.1)]⟩ : St))) (fun _ => rfl) (fun _ _ => rfl) ?_ hy2 (tx_to' rfl [0, 1, 2, 3] (sub_cons rfl (sub_cons rfl (sub_cons rfl (sub_cons rfl (sub_cons rfl (sub_cons rfl (sub_cons rfl (sub_cons rfl (sub_cons rfl (sub_cons rfl (sub_cons rfl (sub_cons rfl (sub_cons rfl sub_nil))))))))))))) (by decide) (pick_cons rfl (pick_cons rfl (pick_cons rfl (pick_cons rfl pick_nil))))) ?_
   ·clear hp hy2
    clear v5
    intro k rec2 KY2 ih2
    rintro ⟨x6, x7, x8⟩ ⟨⟩ y2 hp
    replace hp : spec_Whole_Mul_l2s a1_1 x12 r26 k rec2 x6 x7 x8 = some y2 := hp
    unfold spec_Whole_Mul_l2s at hp
    refine cr fun K37 hK37 => ?_
    refine s0 (rd_bin' rfl rfl eg_int ru_lss) ?_
    refine nk hK37 ?_
    refine cx_seq' fun K38 hK38 => ?_
    refine cx_cond' rfl (fun h9 => ?_) (fun h9 => ?_)
    ·replace hp := (br_t h9).symm.trans hp
     refine cx_skip' ?_
     show TX E K38 _
     refine tx_k' hK38 ?_
     refine cx_seq' fun K39 hK39 => ?_
     refine cx_block' ?_
     refine cr fun K40 hK40 => ?_
     refine s0 (rd_move' rfl) ?_
     obtain ⟨r34, hr34, hp⟩ := bind_some hp
     refine s0 (rd_at' (K := (Ki .u32)) rfl rfl hr34 Try.underlying70 info183) ?_
     refine s0 (rd_load_pt' rfl rfl flat183) ?_
     refine s0 (rd_assign' rfl) ?_
     refine s0 (rd_assign' rfl) ?_
     refine nk hK40 ?_
     refine cr fun K41 hK41 => ?_
     refine s0 (rd_move' rfl) ?_
     refine s0 (rd_conv' rfl (ru_i2i (by rw [Try.underlying183]; rfl) Try.underlying107)) ?_
     refine s0 (rd_move' rfl) ?_
     refine s0 (rd_conv' rfl (ru_i2i (by rw [Try.underlying183]; rfl) Try.underlying107)) ?_
     refine s0 (rd_bin' rfl rfl eg_int ru_mul) ?_
     refine s0 (rd_move' rfl) ?_
     refine s0 (rd_move' rfl) ?_
     refine s0 (rd_move' rfl) ?_
     refine s0 (rd_bin' rfl rfl eg_int ru_add) ?_
     obtain ⟨r45, hr45, hp⟩ := bind_some hp
     refine s0 (rd_atr' (m := 3) rfl rfl rfl rfl hr45 Try.underlying70 info183) ?_
     refine s0 (rd_loadr' rfl (m := 3) (i := (iadd .i64 x12 x8)) (j := 0) rfl rfl hr45 rfl rfl flat183) ?_
     refine s0 (rd_conv' rfl (ru_i2i (by rw [Try.underlying183]; rfl) Try.underlying107)) ?_
     refine s0 (rd_bin' rfl rfl eg_int ru_add) ?_
     refine s0 (rd_move' rfl) ?_
     refine s0 (rd_bin' rfl rfl eg_int ru_add) ?_
     refine s0 (rd_assign' rfl) ?_
     refine nk hK41 ?_
     refine cr fun K42 hK42 => ?_
     refine s0 (rd_move' rfl) ?_
     refine s0 (rd_move' rfl) ?_
     refine s0 (rd_move' rfl) ?_
     refine s0 (rd_bin' rfl rfl eg_int ru_add) ?_
     refine s0 (rd_move' rfl) ?_
     refine s0 (rd_conv' rfl (ru_i2i (by rw [Try.underlying107]; rfl) Try.underlying183)) ?_
     obtain ⟨r57, hr57, hp⟩ := bind_some hp
     refine s0 (rd_atr' (m := 3) rfl rfl rfl rfl hr57 Try.underlying70 info183) ?_
     refine sx_ox' (ox_storer' (m := 3) (i := (iadd .i64 x12 x8)) (j := 0) (x' := (icv .u32 (iadd .u64 (iadd .u64 (imul .u64 (icv .u64 r26) (icv .u64 r34)) (icv .u64 r45)) x7))) rfl rfl (lv_vl rfl rfl) rfl rfl hr57 rfl rfl rfl info183 rfl (H' := [⟨.pointer (some q2), [(Vb a0_0), (Sl (Ki .u32) a0_1)], 72, none⟩, ⟨.pointer (some q3), [(Vb a1_0), (Sl (Ki .u32) a1_1)], 72, none⟩, ⟨.pointer (some q4), [(Vb false), Vn], 72, none⟩, (Rw (Ki .u32) 183 (Vs g19) (x6.set (iadd .i64 x12 x8).toNat (icv .u32 (iadd .u64 (iadd .u64 (imul .u64 (icv .u64 r26) (icv .u64 r34)) (icv .u64 r45)) x7))))]) rfl) (wt_none' rfl) fun _ => ?_
     refine nk hK42 ?_
     refine cx_region' ?_
     refine s0 (rd_move' rfl) ?_
     obtain ⟨r59, hr59, hp⟩ := bind_some hp
     refine s0 (rd_bin' rfl rfl eg_int (ru_shr hr59)) ?_
     refine s0 (rd_assign' rfl) ?_
     refine nk hK39 ?_
     refine cx_region' ?_
     refine s0 (rd_bin' rfl rfl eg_int ru_add) ?_
     refine s0 (rd_move' rfl) ?_
     refine sx_nil' ?_
     show TX E (KY2 _) _
     exact tx_pick' [0, 1, 2, 3] (sub_cons rfl (sub_cons rfl (sub_cons rfl (sub_cons rfl (sub_cons rfl (sub_cons rfl (sub_cons rfl (sub_cons rfl (sub_cons rfl (sub_cons rfl (sub_cons rfl (sub_cons rfl (sub_cons rfl sub_nil))))))))))))) (by decide) (pick_cons rfl (pick_cons rfl (pick_cons rfl (pick_cons rfl pick_nil)))) (ih2 ((x6.set (iadd .i64 x12 x8).toNat (icv .u32 (iadd .u64 (iadd .u64 (imul .u64 (icv .u64 r26) (icv .u64 r34)) (icv .u64 r45)) x7))), r59, (iadd .i64 x8 1)) () _ hp)
    replace hp := (br_f h9).symm.trans hp
    refine cx_exit' ?_
    replace hp := Option.some.inj hp
    subst hp
    show TX E (Zg E (Exit.exit 2) _ (Exit.exit 2)) _
    exact tx_zend' () rfl [0, 1, 2, 3] (sub_cons rfl (sub_cons rfl (sub_cons rfl (sub_cons rfl (sub_cons rfl (sub_cons rfl (sub_cons rfl (sub_cons rfl (sub_cons rfl sub_nil))))))))) (by decide) (pick_cons rfl (pick_cons rfl (pick_cons rfl (pick_cons rfl pick_nil))))
   refine zg_out fun w5 => ?_
   show TX E K29 _
   refine tx_k' hK29 ?_
   refine cx_region' ?_
   refine s0 (rd_move' rfl) ?_
   refine s0 (rd_move' rfl) ?_
   refine s0 (rd_field' (off := 1) rfl Try.underlying72 rfl info70 rfl) ?_
   refine s0 (rd_load' (i := 1) (o := 1) rfl ⟨rfl, rfl, rfl, rfl⟩ rfl flat70) ?_
   refine s0 (rd_len' rfl Try.underlying70) ?_
   refine s0 (rd_bin' rfl rfl eg_int ru_add) ?_
   refine s0 (rd_move' rfl) ?_
   refine s0 (rd_conv' rfl (ru_i2i (by rw [Try.underlying107]; rfl) Try.underlying183)) ?_
   obtain ⟨r69, hr69, hp⟩ := bind_some hp
   refine s0 (rd_atr' (m := 3) rfl rfl rfl rfl hr69 Try.underlying70 info183) ?_
   refine sx_ox' (ox_storer' (m := 3) (i := (iadd .i64 x12 (a1_1.length : Int))) (j := 0) (x' := (icv .u32 v5.2)) rfl rfl (lv_vl rfl rfl) rfl rfl hr69 rfl rfl rfl info183 rfl (H' := [⟨.pointer (some q2), [(Vb a0_0), (Sl (Ki .u32) a0_1)], 72, none⟩, ⟨.pointer (some q3), [(Vb a1_0), (Sl (Ki .u32) a1_1)], 72, none⟩, ⟨.pointer (some q4), [(Vb false), Vn], 72, none⟩, (Rw (Ki .u32) 183 (Vs g19) (v5.1.set (iadd .i64 x12 (a1_1.length : Int)).toNat (icv .u32 v5.2)))]) rfl) (wt_none' rfl) fun _ => ?_
   refine nk hK26 ?_
   refine cx_region' ?_
   refine s0 (rd_bin' rfl rfl eg_int ru_add) ?_
   refine s0 (rd_move' rfl) ?_
   refine sx_nil' ?_
   show TX E (KY3 _) _
   exact tx_pick' [0, 1, 2, 3] (sub_cons rfl (sub_cons rfl (sub_cons rfl (sub_cons rfl (sub_cons rfl (sub_cons rfl (sub_cons rfl sub_nil))))))) (by decide) (pick_cons rfl (pick_cons rfl (pick_cons rfl (pick_cons rfl pick_nil)))) (ih3 ((v5.1.set (iadd .i64 x12 (a1_1.length : Int)).toNat (icv .u32 v5.2)), (iadd .i64 x12 1)) () _ hp)
  replace hp := (br_f h6).symm.trans hp
  refine cx_exit' ?_
  replace hp := Option.some.inj hp
  subst hp
  show TX E (Zg E (Exit.exit 0) _ (Exit.exit 0)) _
  exact tx_zend' () rfl [0, 1, 2, 3] (sub_cons rfl (sub_cons rfl (sub_cons rfl (sub_cons rfl sub_nil)))) (by decide) (pick_cons rfl (pick_cons rfl (pick_cons rfl (pick_cons rfl pick_nil))))
 refine zg_out fun w6 => ?_
 show TX E K3 _
 refine tx_k' hK3 ?_
 refine cr fun K43 hK43 => ?_
 refine s0 (rd_move' rfl) ?_
 refine tx_fz' (frz_row 3 [(5, (Vl (Vs g19)), (Sl (Ki .u32) v6)), (71, (Vl (Vs g19)), (Sl (Ki .u32) v6))] (K := (Ki .u32)) (xs := v6) (by decide) rfl ⟨⟨rfl, frz_it⟩, ⟨rfl, frz_it⟩, trivial⟩ (H' := [⟨.pointer (some q2), [(Vb a0_0), (Sl (Ki .u32) a0_1)], 72, none⟩, ⟨.pointer (some q3), [(Vb a1_0), (Sl (Ki .u32) a1_1)], 72, none⟩, ⟨.pointer (some q4), [(Vb false), Vn], 72, none⟩]) frzH_refl) ?_
 obtain ⟨r72, hr72, hp⟩ := bind_some hp
 refine sx_ox' (ox_calln' (ent_fn' Try.func147 isn147 rfl rfl) (spec_trim_sim _ hr72 : Sx.Fn Try.prog 147 [(Sl (Ki .u32) v6)] [] (fun x : Unit => (Sl (Ki .u32) r72)) (fun x => [])) (Hn := fun x : Unit => [⟨.pointer (some q2), [(Vb a0_0), (Sl (Ki .u32) a0_1)], 72, none⟩, ⟨.pointer (some q3), [(Vb a1_0), (Sl (Ki .u32) a1_1)], 72, none⟩, ⟨.pointer (some q4), [(Vb false), Vn], 72, none⟩]) (fun _ => rfl) rfl rfl) (wt_none' rfl) fun ⟨⟩ => ?_
 refine s0 (rd_assign' rfl) ?_
 refine nk hK43 ?_
 refine cr fun K44 hK44 => ?_
 refine s0 (rd_move' rfl) ?_
 refine s0 (rd_len' rfl Try.underlying70) ?_
 refine s0 (rd_bin' rfl rfl eg_int ru_gtr) ?_
 refine s0 (rd_move' rfl) ?_
 refine sx_cutn' 6 (fun (v7 : Bool) => (⟨85, [], [(4, (Vp q4)), (5, (Sl (Ki .u32) r72)), (82, (Vb v7))], [⟨.pointer (some q4), [(Vb false), Vn], 72, none⟩]⟩ : St)) (fun (v7 : Bool) => spec_Whole_Mul_j1 k r72 v7 = some out) ?_ ?_
 ·rintro x14 hp
  replace hp : spec_Whole_Mul_j1 k r72 x14 = some out := hp
  unfold spec_Whole_Mul_j1 at hp
  refine s0 (rd_move' rfl) ?_
  refine s0 (rd_build' (pls := [(0, 1), (1, 1)]) (qs := [(0, [(Vb x14)]), (1, [(Sl (Ki .u32) r72)])]) (r := [(Vb x14), (Sl (Ki .u32) r72)]) ⟨rfl, ⟨_, rfl, (lv_vl rfl rfl)⟩, ⟨rfl, ⟨_, rfl, (lv_sl _ _)⟩, trivial⟩⟩ Try.underlying72 has72 places72 info72 rfl rfl rfl) ?_
  refine sx_ox' (ox_store' (i := 0) (o := 0) rfl rfl (lv_ag _) ⟨rfl, rfl, rfl, rfl⟩ rfl info72 rfl (H' := [⟨.pointer (some q4), [(Vb x14), (Sl (Ki .u32) r72)], 72, none⟩]) rfl) (wt_none' rfl) fun _ => ?_
  refine nk hK44 ?_
  refine cx_retc' ?_
  replace hp := Option.some.inj hp
  subst hp
  refine tx_pick' (L' := [(4, (Vp q4))]) (H' := [⟨.pointer (some q4), [(Vb x14), (Sl (Ki .u32) r72)], 72, none⟩]) [0] (sub_cons rfl sub_nil) (by decide) (pick_cons rfl pick_nil) ?_
  exact tx_ret1' Try.results121 rfl () (rv_cell_agg' (i := 0) (o := 0) (nn := 2) rfl ⟨rfl, rfl, rfl, rfl⟩ rfl agg72 rfl) (List.nil_sublist _)
 intro K45 hK45
 rcases br_cases hp with ⟨h10, hp⟩ | ⟨h10, hp⟩
 ·refine sx_rd' (rd_field0' rfl Try.underlying72 rfl info4 rfl) rfl rfl (wt_is' (wt_guard' rfl rfl rfl) (beq_tt h10)) ?_
  refine sx_rd' (rd_load' (i := 0) (o := 0) rfl ⟨rfl, rfl, rfl, rfl⟩ rfl flat4) rfl rfl (wt_is' (wt_guard' rfl rfl rfl) (beq_tt h10)) ?_
  refine sx_rd' (rd_field0' rfl Try.underlying72 rfl info4 rfl) rfl rfl (wt_is' (wt_guard' rfl rfl rfl) (beq_tt h10)) ?_
  refine sx_rd' (rd_load' (i := 1) (o := 0) rfl ⟨rfl, rfl, rfl, rfl⟩ rfl flat4) rfl rfl (wt_is' (wt_guard' rfl rfl rfl) (beq_tt h10)) ?_
  refine sx_rd' (rd_bin' rfl rfl eg_bool (ru_bne Try.underlying4)) rfl rfl (wt_is' (wt_guard' rfl rfl rfl) (beq_tt h10)) ?_
  refine s0 (rd_pick_true' rfl h10 rfl) ?_
  refine sx_nil' ?_
  show TX E K45 _
  exact tx_pick' [2] (sub_cons rfl (sub_cons rfl (sub_cons rfl sub_nil))) (by decide) (pick_cons rfl pick_nil) (hK45 (!(a0_0 == a1_0)) hp)
 refine sx_skip' rfl rfl (wt_is' (wt_guard' rfl rfl rfl) (beq_ft h10)) ?_
 refine sx_skip' rfl rfl (wt_is' (wt_guard' rfl rfl rfl) (beq_ft h10)) ?_
 refine sx_skip' rfl rfl (wt_is' (wt_guard' rfl rfl rfl) (beq_ft h10)) ?_
 refine sx_skip' rfl rfl (wt_is' (wt_guard' rfl rfl rfl) (beq_ft h10)) ?_
 refine sx_skip' rfl rfl (wt_is' (wt_guard' rfl rfl rfl) (beq_ft h10)) ?_
 refine s0 (rd_pick_false' rfl h10 rfl) ?_
 refine sx_nil' ?_
 show TX E K45 _
 exact tx_pick' [2] (sub_cons rfl (sub_cons rfl (sub_cons rfl sub_nil))) (by decide) (pick_cons rfl pick_nil) (hK45 false hp)

def spec_Dyadic_Mul (k : Nat) (a0_0 : Bool) (a0_1 : List Int) (a0_2 : Int) (a1_0 : Bool) (a1_1 : List Int) (a1_2 : Int) : Option (Bool × (List Int) × Int) :=
 (spec_Whole_Mul k a0_0 a0_1 a1_0 a1_1) >>= fun r9 =>
 some (r9.1, r9.2, iadd .i64 a0_2 a1_2)

theorem spec_Dyadic_Mul_sim {k : Nat}  (a0_0 : Bool) (a0_1 : List Int) (a0_2 : Int) (a1_0 : Bool) (a1_1 : List Int) (a1_2 : Int) {out : Bool × (List Int) × Int} (hp : spec_Dyadic_Mul k a0_0 a0_1 a0_2 a1_0 a1_1 a1_2 = some out) : Sx.Fn Try.prog 80 [(Ag [(Vb a0_0), (Sl (Ki .u32) a0_1), (Vi a0_2)]), (Ag [(Vb a1_0), (Sl (Ki .u32) a1_1), (Vi a1_2)])] [] (fun w : Unit => (Ag [(Vb out.1), (Sl (Ki .u32) out.2.1), (Vi out.2.2)])) (fun w => []) := by
 unfold spec_Dyadic_Mul at hp
 refine fn_of Try.func80 rfl Try.ntmps80 rfl fun E hM => ?_
 refine cr fun K1 hK1 => ?_
 refine sx_ox' (ox_box' rfl (lv_ag _) rfl rfl) (wt_none' rfl) fun q2 => ?_
 refine sx_ox' (ox_box' rfl (lv_ag _) rfl rfl) (wt_none' rfl) fun q3 => ?_
 refine sx_ox' (ox_alloc' info74 rfl rfl rfl rfl (l := [(Vb false), Vn, (Vi 0)]) rfl) (wt_none' rfl) fun q4 => ?_
 refine nk hK1 ?_
 refine cx_seq' fun K2 hK2 => ?_
 refine cx_plan' [] [(11, 1)] [(0, 1), (1, 1), (2, 1), (3, 1), (5, 1), (6, 1), (7, 1), (8, 1), (9, 1), (4, 0), (10, 1), (11, 0)] mixed (by kernel_rfl) ?_
 refine px_rd' rfl (rd_field0' rfl Try.underlying74 rfl info72 rfl) rfl rfl (wt_none' rfl) ?_
 refine px_rd' rfl (rd_load_agg' (i := 2) (o := 0) (nn := 2) rfl ⟨rfl, rfl, rfl, rfl⟩ rfl agg72 (l' := [(Vb a0_0), (Sl (Ki .u32) a0_1)]) rfl) rfl rfl (wt_none' rfl) ?_
 refine px_rd' rfl (rd_field0' rfl Try.underlying74 rfl info72 rfl) rfl rfl (wt_none' rfl) ?_
 refine px_rd' rfl (rd_load_agg' (i := 1) (o := 0) (nn := 2) rfl ⟨rfl, rfl, rfl, rfl⟩ rfl agg72 (l' := [(Vb a1_0), (Sl (Ki .u32) a1_1)]) rfl) rfl rfl (wt_none' rfl) ?_
 refine px_rd' rfl (rd_field' (off := 2) rfl Try.underlying74 rfl info3 rfl) rfl rfl (wt_none' rfl) ?_
 refine px_rd' rfl (rd_load' (i := 2) (o := 2) rfl ⟨rfl, rfl, rfl, rfl⟩ rfl flat3) rfl rfl (wt_none' rfl) ?_
 refine px_rd' rfl (rd_field' (off := 2) rfl Try.underlying74 rfl info3 rfl) rfl rfl (wt_none' rfl) ?_
 refine px_rd' rfl (rd_load' (i := 1) (o := 2) rfl ⟨rfl, rfl, rfl, rfl⟩ rfl flat3) rfl rfl (wt_none' rfl) ?_
 refine px_rd' rfl (rd_bin' rfl rfl eg_int ru_add) rfl rfl (wt_none' rfl) ?_
 obtain ⟨r9, hr9, hp⟩ := bind_some hp
 refine px_ox' rfl (ox_calln' (ent_fn' Try.func121 isn121 rfl rfl) (spec_Whole_Mul_sim _ _ _ _ hr9 : Sx.Fn Try.prog 121 [(Ag [(Vb a0_0), (Sl (Ki .u32) a0_1)]), (Ag [(Vb a1_0), (Sl (Ki .u32) a1_1)])] [] (fun x : Unit => (Ag [(Vb r9.1), (Sl (Ki .u32) r9.2)])) (fun x => [])) (Hn := fun x : Unit => [⟨.pointer (some q4), [(Vb false), Vn, (Vi 0)], 74, none⟩, ⟨.pointer (some q3), [(Vb a1_0), (Sl (Ki .u32) a1_1), (Vi a1_2)], 74, none⟩, ⟨.pointer (some q2), [(Vb a0_0), (Sl (Ki .u32) a0_1), (Vi a0_2)], 74, none⟩]) (fun _ => rfl) rfl rfl) rfl bs_nil (wt_none' rfl) fun ⟨⟩ => ?_
 refine px_rd' rfl (rd_build' (pls := [(0, 2), (2, 1)]) (qs := [(0, [(Vb r9.1), (Sl (Ki .u32) r9.2)]), (1, [(Vi (iadd .i64 a0_2 a1_2))])]) (r := [(Vb r9.1), (Sl (Ki .u32) r9.2), (Vi (iadd .i64 a0_2 a1_2))]) ⟨rfl, ⟨_, rfl, (lv_ag _)⟩, ⟨rfl, ⟨_, rfl, (lv_vl rfl rfl)⟩, trivial⟩⟩ Try.underlying74 has74 places74 info74 rfl rfl rfl) rfl rfl (wt_none' rfl) ?_
 refine px_oxv' rfl (oxv_store (i := 0) (o := 0) rfl rfl (lv_ag _) ⟨rfl, rfl, rfl, rfl⟩ rfl info74 rfl (H' := [⟨.pointer (some q4), [(Vb r9.1), (Sl (Ki .u32) r9.2), (Vi (iadd .i64 a0_2 a1_2))], 74, none⟩, ⟨.pointer (some q3), [(Vb a1_0), (Sl (Ki .u32) a1_1), (Vi a1_2)], 74, none⟩, ⟨.pointer (some q2), [(Vb a0_0), (Sl (Ki .u32) a0_1), (Vi a0_2)], 74, none⟩]) rfl) rfl rfl bo_nil (wt_none' rfl) fun _ => ?_
 refine px_nil' ?_
 show TX E K2 _
 refine tx_k' hK2 ?_
 refine cx_retc' ?_
 replace hp := Option.some.inj hp
 subst hp
 refine tx_pick' (L' := [(4, (Vp q4))]) (H' := [⟨.pointer (some q4), [(Vb r9.1), (Sl (Ki .u32) r9.2), (Vi (iadd .i64 a0_2 a1_2))], 74, none⟩]) [0] (sub_cons rfl sub_nil) (by decide) (pick_cons rfl pick_nil) ?_
 exact tx_ret1' Try.results80 rfl () (rv_cell_agg' (i := 0) (o := 0) (nn := 3) rfl ⟨rfl, rfl, rfl, rfl⟩ rfl agg74 rfl) (List.nil_sublist _)

def spec_Dot (k : Nat) (a0_0 : Bool) (a0_1 : List Int) (a0_2 : Int) (a0_3 : Bool) (a0_4 : List Int) (a0_5 : Int) (a1_0 : Bool) (a1_1 : List Int) (a1_2 : Int) (a1_3 : Bool) (a1_4 : List Int) (a1_5 : Int) (a2_0 : Bool) (a2_1 : List Int) (a2_2 : Int) (a2_3 : Bool) (a2_4 : List Int) (a2_5 : Int) (a3_0 : Bool) (a3_1 : List Int) (a3_2 : Int) (a3_3 : Bool) (a3_4 : List Int) (a3_5 : Int) : Option (Bool × (List Int) × Int) :=
 (spec_Dyadic_Sub k a1_0 a1_1 a1_2 a0_0 a0_1 a0_2) >>= fun r13 =>
 (spec_Dyadic_Sub k a3_0 a3_1 a3_2 a2_0 a2_1 a2_2) >>= fun r18 =>
 (spec_Dyadic_Mul k r13.1 r13.2.1 r13.2.2 r18.1 r18.2.1 r18.2.2) >>= fun r19 =>
 (spec_Dyadic_Sub k a1_3 a1_4 a1_5 a0_3 a0_4 a0_5) >>= fun r24 =>
 (spec_Dyadic_Sub k a3_3 a3_4 a3_5 a2_3 a2_4 a2_5) >>= fun r29 =>
 (spec_Dyadic_Mul k r24.1 r24.2.1 r24.2.2 r29.1 r29.2.1 r29.2.2) >>= fun r30 =>
 (spec_Dyadic_Add k r19.1 r19.2.1 r19.2.2 r30.1 r30.2.1 r30.2.2) >>= fun r31 =>
 some (r31.1, r31.2.1, r31.2.2)

theorem spec_Dot_sim {k : Nat}  (a0_0 : Bool) (a0_1 : List Int) (a0_2 : Int) (a0_3 : Bool) (a0_4 : List Int) (a0_5 : Int) (a1_0 : Bool) (a1_1 : List Int) (a1_2 : Int) (a1_3 : Bool) (a1_4 : List Int) (a1_5 : Int) (a2_0 : Bool) (a2_1 : List Int) (a2_2 : Int) (a2_3 : Bool) (a2_4 : List Int) (a2_5 : Int) (a3_0 : Bool) (a3_1 : List Int) (a3_2 : Int) (a3_3 : Bool) (a3_4 : List Int) (a3_5 : Int) {out : Bool × (List Int) × Int} (hp : spec_Dot k a0_0 a0_1 a0_2 a0_3 a0_4 a0_5 a1_0 a1_1 a1_2 a1_3 a1_4 a1_5 a2_0 a2_1 a2_2 a2_3 a2_4 a2_5 a3_0 a3_1 a3_2 a3_3 a3_4 a3_5 = some out) : Sx.Fn Try.prog 95 [(Ag [(Vb a0_0), (Sl (Ki .u32) a0_1), (Vi a0_2), (Vb a0_3), (Sl (Ki .u32) a0_4), (Vi a0_5)]), (Ag [(Vb a1_0), (Sl (Ki .u32) a1_1), (Vi a1_2), (Vb a1_3), (Sl (Ki .u32) a1_4), (Vi a1_5)]), (Ag [(Vb a2_0), (Sl (Ki .u32) a2_1), (Vi a2_2), (Vb a2_3), (Sl (Ki .u32) a2_4), (Vi a2_5)]), (Ag [(Vb a3_0), (Sl (Ki .u32) a3_1), (Vi a3_2), (Vb a3_3), (Sl (Ki .u32) a3_4), (Vi a3_5)])] [] (fun w : Unit => (Ag [(Vb out.1), (Sl (Ki .u32) out.2.1), (Vi out.2.2)])) (fun w => []) := by
 unfold spec_Dot at hp
 refine fn_of Try.func95 rfl Try.ntmps95 rfl fun E hM => ?_
 refine cr fun K1 hK1 => ?_
 refine sx_ox' (ox_box' rfl (lv_ag _) rfl rfl) (wt_none' rfl) fun q4 => ?_
 refine sx_ox' (ox_box' rfl (lv_ag _) rfl rfl) (wt_none' rfl) fun q5 => ?_
 refine sx_ox' (ox_box' rfl (lv_ag _) rfl rfl) (wt_none' rfl) fun q6 => ?_
 refine sx_ox' (ox_box' rfl (lv_ag _) rfl rfl) (wt_none' rfl) fun q7 => ?_
 refine sx_ox' (ox_alloc' info74 rfl rfl rfl rfl (l := [(Vb false), Vn, (Vi 0)]) rfl) (wt_none' rfl) fun q8 => ?_
 refine nk hK1 ?_
 refine cx_seq' fun K2 hK2 => ?_
 refine cx_plan' [] [(23, 1)] [(0, 1), (1, 1), (2, 1), (3, 1), (5, 1), (6, 1), (7, 1), (8, 1), (11, 1), (12, 1), (13, 1), (14, 1), (16, 1), (17, 1), (18, 1), (19, 1), (4, 0), (9, 0), (10, 0), (15, 0), (20, 0), (21, 0), (22, 0), (23, 0)] mixed (by kernel_rfl) ?_
 refine px_rd' rfl (rd_field0' rfl Try.underlying96 rfl info74 rfl) rfl rfl (wt_none' rfl) ?_
 refine px_rd' rfl (rd_load_agg' (i := 3) (o := 0) (nn := 3) rfl ⟨rfl, rfl, rfl, rfl⟩ rfl agg74 (l' := [(Vb a1_0), (Sl (Ki .u32) a1_1), (Vi a1_2)]) rfl) rfl rfl (wt_none' rfl) ?_
 refine px_rd' rfl (rd_field0' rfl Try.underlying96 rfl info74 rfl) rfl rfl (wt_none' rfl) ?_
 refine px_rd' rfl (rd_load_agg' (i := 4) (o := 0) (nn := 3) rfl ⟨rfl, rfl, rfl, rfl⟩ rfl agg74 (l' := [(Vb a0_0), (Sl (Ki .u32) a0_1), (Vi a0_2)]) rfl) rfl rfl (wt_none' rfl) ?_
 refine px_rd' rfl (rd_field0' rfl Try.underlying96 rfl info74 rfl) rfl rfl (wt_none' rfl) ?_
 refine px_rd' rfl (rd_load_agg' (i := 1) (o := 0) (nn := 3) rfl ⟨rfl, rfl, rfl, rfl⟩ rfl agg74 (l' := [(Vb a3_0), (Sl (Ki .u32) a3_1), (Vi a3_2)]) rfl) rfl rfl (wt_none' rfl) ?_
 refine px_rd' rfl (rd_field0' rfl Try.underlying96 rfl info74 rfl) rfl rfl (wt_none' rfl) ?_
 refine px_rd' rfl (rd_load_agg' (i := 2) (o := 0) (nn := 3) rfl ⟨rfl, rfl, rfl, rfl⟩ rfl agg74 (l' := [(Vb a2_0), (Sl (Ki .u32) a2_1), (Vi a2_2)]) rfl) rfl rfl (wt_none' rfl) ?_
 refine px_rd' rfl (rd_field' (off := 3) rfl Try.underlying96 rfl info74 rfl) rfl rfl (wt_none' rfl) ?_
 refine px_rd' rfl (rd_load_agg' (i := 3) (o := 3) (nn := 3) rfl ⟨rfl, rfl, rfl, rfl⟩ rfl agg74 (l' := [(Vb a1_3), (Sl (Ki .u32) a1_4), (Vi a1_5)]) rfl) rfl rfl (wt_none' rfl) ?_
 refine px_rd' rfl (rd_field' (off := 3) rfl Try.underlying96 rfl info74 rfl) rfl rfl (wt_none' rfl) ?_
 refine px_rd' rfl (rd_load_agg' (i := 4) (o := 3) (nn := 3) rfl ⟨rfl, rfl, rfl, rfl⟩ rfl agg74 (l' := [(Vb a0_3), (Sl (Ki .u32) a0_4), (Vi a0_5)]) rfl) rfl rfl (wt_none' rfl) ?_
 refine px_rd' rfl (rd_field' (off := 3) rfl Try.underlying96 rfl info74 rfl) rfl rfl (wt_none' rfl) ?_
 refine px_rd' rfl (rd_load_agg' (i := 1) (o := 3) (nn := 3) rfl ⟨rfl, rfl, rfl, rfl⟩ rfl agg74 (l' := [(Vb a3_3), (Sl (Ki .u32) a3_4), (Vi a3_5)]) rfl) rfl rfl (wt_none' rfl) ?_
 refine px_rd' rfl (rd_field' (off := 3) rfl Try.underlying96 rfl info74 rfl) rfl rfl (wt_none' rfl) ?_
 refine px_rd' rfl (rd_load_agg' (i := 2) (o := 3) (nn := 3) rfl ⟨rfl, rfl, rfl, rfl⟩ rfl agg74 (l' := [(Vb a2_3), (Sl (Ki .u32) a2_4), (Vi a2_5)]) rfl) rfl rfl (wt_none' rfl) ?_
 obtain ⟨r13, hr13, hp⟩ := bind_some hp
 refine px_ox' rfl (ox_calln' (ent_fn' Try.func81 isn81 rfl rfl) (spec_Dyadic_Sub_sim _ _ _ _ _ _ hr13 : Sx.Fn Try.prog 81 [(Ag [(Vb a1_0), (Sl (Ki .u32) a1_1), (Vi a1_2)]), (Ag [(Vb a0_0), (Sl (Ki .u32) a0_1), (Vi a0_2)])] [] (fun x : Unit => (Ag [(Vb r13.1), (Sl (Ki .u32) r13.2.1), (Vi r13.2.2)])) (fun x => [])) (Hn := fun x : Unit => [⟨.pointer (some q8), [(Vb false), Vn, (Vi 0)], 74, none⟩, ⟨.pointer (some q7), [(Vb a3_0), (Sl (Ki .u32) a3_1), (Vi a3_2), (Vb a3_3), (Sl (Ki .u32) a3_4), (Vi a3_5)], 96, none⟩, ⟨.pointer (some q6), [(Vb a2_0), (Sl (Ki .u32) a2_1), (Vi a2_2), (Vb a2_3), (Sl (Ki .u32) a2_4), (Vi a2_5)], 96, none⟩, ⟨.pointer (some q5), [(Vb a1_0), (Sl (Ki .u32) a1_1), (Vi a1_2), (Vb a1_3), (Sl (Ki .u32) a1_4), (Vi a1_5)], 96, none⟩, ⟨.pointer (some q4), [(Vb a0_0), (Sl (Ki .u32) a0_1), (Vi a0_2), (Vb a0_3), (Sl (Ki .u32) a0_4), (Vi a0_5)], 96, none⟩]) (fun _ => rfl) rfl rfl) rfl bs_nil (wt_none' rfl) fun ⟨⟩ => ?_
 obtain ⟨r18, hr18, hp⟩ := bind_some hp
 refine px_ox' rfl (ox_calln' (ent_fn' Try.func81 isn81 rfl rfl) (spec_Dyadic_Sub_sim _ _ _ _ _ _ hr18 : Sx.Fn Try.prog 81 [(Ag [(Vb a3_0), (Sl (Ki .u32) a3_1), (Vi a3_2)]), (Ag [(Vb a2_0), (Sl (Ki .u32) a2_1), (Vi a2_2)])] [] (fun x : Unit => (Ag [(Vb r18.1), (Sl (Ki .u32) r18.2.1), (Vi r18.2.2)])) (fun x => [])) (Hn := fun x : Unit => [⟨.pointer (some q8), [(Vb false), Vn, (Vi 0)], 74, none⟩, ⟨.pointer (some q7), [(Vb a3_0), (Sl (Ki .u32) a3_1), (Vi a3_2), (Vb a3_3), (Sl (Ki .u32) a3_4), (Vi a3_5)], 96, none⟩, ⟨.pointer (some q6), [(Vb a2_0), (Sl (Ki .u32) a2_1), (Vi a2_2), (Vb a2_3), (Sl (Ki .u32) a2_4), (Vi a2_5)], 96, none⟩, ⟨.pointer (some q5), [(Vb a1_0), (Sl (Ki .u32) a1_1), (Vi a1_2), (Vb a1_3), (Sl (Ki .u32) a1_4), (Vi a1_5)], 96, none⟩, ⟨.pointer (some q4), [(Vb a0_0), (Sl (Ki .u32) a0_1), (Vi a0_2), (Vb a0_3), (Sl (Ki .u32) a0_4), (Vi a0_5)], 96, none⟩]) (fun _ => rfl) rfl rfl) rfl bs_nil (wt_none' rfl) fun ⟨⟩ => ?_
 obtain ⟨r19, hr19, hp⟩ := bind_some hp
 refine px_ox' rfl (ox_calln' (ent_fn' Try.func80 isn80 rfl rfl) (spec_Dyadic_Mul_sim _ _ _ _ _ _ hr19 : Sx.Fn Try.prog 80 [(Ag [(Vb r13.1), (Sl (Ki .u32) r13.2.1), (Vi r13.2.2)]), (Ag [(Vb r18.1), (Sl (Ki .u32) r18.2.1), (Vi r18.2.2)])] [] (fun x : Unit => (Ag [(Vb r19.1), (Sl (Ki .u32) r19.2.1), (Vi r19.2.2)])) (fun x => [])) (Hn := fun x : Unit => [⟨.pointer (some q8), [(Vb false), Vn, (Vi 0)], 74, none⟩, ⟨.pointer (some q7), [(Vb a3_0), (Sl (Ki .u32) a3_1), (Vi a3_2), (Vb a3_3), (Sl (Ki .u32) a3_4), (Vi a3_5)], 96, none⟩, ⟨.pointer (some q6), [(Vb a2_0), (Sl (Ki .u32) a2_1), (Vi a2_2), (Vb a2_3), (Sl (Ki .u32) a2_4), (Vi a2_5)], 96, none⟩, ⟨.pointer (some q5), [(Vb a1_0), (Sl (Ki .u32) a1_1), (Vi a1_2), (Vb a1_3), (Sl (Ki .u32) a1_4), (Vi a1_5)], 96, none⟩, ⟨.pointer (some q4), [(Vb a0_0), (Sl (Ki .u32) a0_1), (Vi a0_2), (Vb a0_3), (Sl (Ki .u32) a0_4), (Vi a0_5)], 96, none⟩]) (fun _ => rfl) rfl rfl) rfl bs_nil (wt_none' rfl) fun ⟨⟩ => ?_
 obtain ⟨r24, hr24, hp⟩ := bind_some hp
 refine px_ox' rfl (ox_calln' (ent_fn' Try.func81 isn81 rfl rfl) (spec_Dyadic_Sub_sim _ _ _ _ _ _ hr24 : Sx.Fn Try.prog 81 [(Ag [(Vb a1_3), (Sl (Ki .u32) a1_4), (Vi a1_5)]), (Ag [(Vb a0_3), (Sl (Ki .u32) a0_4), (Vi a0_5)])] [] (fun x : Unit => (Ag [(Vb r24.1), (Sl (Ki .u32) r24.2.1), (Vi r24.2.2)])) (fun x => [])) (Hn := fun x : Unit => [⟨.pointer (some q8), [(Vb false), Vn, (Vi 0)], 74, none⟩, ⟨.pointer (some q7), [(Vb a3_0), (Sl (Ki .u32) a3_1), (Vi a3_2), (Vb a3_3), (Sl (Ki .u32) a3_4), (Vi a3_5)], 96, none⟩, ⟨.pointer (some q6), [(Vb a2_0), (Sl (Ki .u32) a2_1), (Vi a2_2), (Vb a2_3), (Sl (Ki .u32) a2_4), (Vi a2_5)], 96, none⟩, ⟨.pointer (some q5), [(Vb a1_0), (Sl (Ki .u32) a1_1), (Vi a1_2), (Vb a1_3), (Sl (Ki .u32) a1_4), (Vi a1_5)], 96, none⟩, ⟨.pointer (some q4), [(Vb a0_0), (Sl (Ki .u32) a0_1), (Vi a0_2), (Vb a0_3), (Sl (Ki .u32) a0_4), (Vi a0_5)], 96, none⟩]) (fun _ => rfl) rfl rfl) rfl bs_nil (wt_none' rfl) fun ⟨⟩ => ?_
 obtain ⟨r29, hr29, hp⟩ := bind_some hp
 refine px_ox' rfl (ox_calln' (ent_fn' Try.func81 isn81 rfl rfl) (spec_Dyadic_Sub_sim _ _ _ _ _ _ hr29 : Sx.Fn Try.prog 81 [(Ag [(Vb a3_3), (Sl (Ki .u32) a3_4), (Vi a3_5)]), (Ag [(Vb a2_3), (Sl (Ki .u32) a2_4), (Vi a2_5)])] [] (fun x : Unit => (Ag [(Vb r29.1), (Sl (Ki .u32) r29.2.1), (Vi r29.2.2)])) (fun x => [])) (Hn := fun x : Unit => [⟨.pointer (some q8), [(Vb false), Vn, (Vi 0)], 74, none⟩, ⟨.pointer (some q7), [(Vb a3_0), (Sl (Ki .u32) a3_1), (Vi a3_2), (Vb a3_3), (Sl (Ki .u32) a3_4), (Vi a3_5)], 96, none⟩, ⟨.pointer (some q6), [(Vb a2_0), (Sl (Ki .u32) a2_1), (Vi a2_2), (Vb a2_3), (Sl (Ki .u32) a2_4), (Vi a2_5)], 96, none⟩, ⟨.pointer (some q5), [(Vb a1_0), (Sl (Ki .u32) a1_1), (Vi a1_2), (Vb a1_3), (Sl (Ki .u32) a1_4), (Vi a1_5)], 96, none⟩, ⟨.pointer (some q4), [(Vb a0_0), (Sl (Ki .u32) a0_1), (Vi a0_2), (Vb a0_3), (Sl (Ki .u32) a0_4), (Vi a0_5)], 96, none⟩]) (fun _ => rfl) rfl rfl) rfl bs_nil (wt_none' rfl) fun ⟨⟩ => ?_
 obtain ⟨r30, hr30, hp⟩ := bind_some hp
 refine px_ox' rfl (ox_calln' (ent_fn' Try.func80 isn80 rfl rfl) (spec_Dyadic_Mul_sim _ _ _ _ _ _ hr30 : Sx.Fn Try.prog 80 [(Ag [(Vb r24.1), (Sl (Ki .u32) r24.2.1), (Vi r24.2.2)]), (Ag [(Vb r29.1), (Sl (Ki .u32) r29.2.1), (Vi r29.2.2)])] [] (fun x : Unit => (Ag [(Vb r30.1), (Sl (Ki .u32) r30.2.1), (Vi r30.2.2)])) (fun x => [])) (Hn := fun x : Unit => [⟨.pointer (some q8), [(Vb false), Vn, (Vi 0)], 74, none⟩, ⟨.pointer (some q7), [(Vb a3_0), (Sl (Ki .u32) a3_1), (Vi a3_2), (Vb a3_3), (Sl (Ki .u32) a3_4), (Vi a3_5)], 96, none⟩, ⟨.pointer (some q6), [(Vb a2_0), (Sl (Ki .u32) a2_1), (Vi a2_2), (Vb a2_3), (Sl (Ki .u32) a2_4), (Vi a2_5)], 96, none⟩, ⟨.pointer (some q5), [(Vb a1_0), (Sl (Ki .u32) a1_1), (Vi a1_2), (Vb a1_3), (Sl (Ki .u32) a1_4), (Vi a1_5)], 96, none⟩, ⟨.pointer (some q4), [(Vb a0_0), (Sl (Ki .u32) a0_1), (Vi a0_2), (Vb a0_3), (Sl (Ki .u32) a0_4), (Vi a0_5)], 96, none⟩]) (fun _ => rfl) rfl rfl) rfl bs_nil (wt_none' rfl) fun ⟨⟩ => ?_
 obtain ⟨r31, hr31, hp⟩ := bind_some hp
 refine px_ox' rfl (ox_calln' (ent_fn' Try.func120 isn120 rfl rfl) (spec_Dyadic_Add_sim _ _ _ _ _ _ hr31 : Sx.Fn Try.prog 120 [(Ag [(Vb r19.1), (Sl (Ki .u32) r19.2.1), (Vi r19.2.2)]), (Ag [(Vb r30.1), (Sl (Ki .u32) r30.2.1), (Vi r30.2.2)])] [] (fun x : Unit => (Ag [(Vb r31.1), (Sl (Ki .u32) r31.2.1), (Vi r31.2.2)])) (fun x => [])) (Hn := fun x : Unit => [⟨.pointer (some q8), [(Vb false), Vn, (Vi 0)], 74, none⟩, ⟨.pointer (some q7), [(Vb a3_0), (Sl (Ki .u32) a3_1), (Vi a3_2), (Vb a3_3), (Sl (Ki .u32) a3_4), (Vi a3_5)], 96, none⟩, ⟨.pointer (some q6), [(Vb a2_0), (Sl (Ki .u32) a2_1), (Vi a2_2), (Vb a2_3), (Sl (Ki .u32) a2_4), (Vi a2_5)], 96, none⟩, ⟨.pointer (some q5), [(Vb a1_0), (Sl (Ki .u32) a1_1), (Vi a1_2), (Vb a1_3), (Sl (Ki .u32) a1_4), (Vi a1_5)], 96, none⟩, ⟨.pointer (some q4), [(Vb a0_0), (Sl (Ki .u32) a0_1), (Vi a0_2), (Vb a0_3), (Sl (Ki .u32) a0_4), (Vi a0_5)], 96, none⟩]) (fun _ => rfl) rfl rfl) rfl bs_nil (wt_none' rfl) fun ⟨⟩ => ?_
 refine px_oxv' rfl (oxv_store (i := 0) (o := 0) rfl rfl (lv_ag _) ⟨rfl, rfl, rfl, rfl⟩ rfl info74 rfl (H' := [⟨.pointer (some q8), [(Vb r31.1), (Sl (Ki .u32) r31.2.1), (Vi r31.2.2)], 74, none⟩, ⟨.pointer (some q7), [(Vb a3_0), (Sl (Ki .u32) a3_1), (Vi a3_2), (Vb a3_3), (Sl (Ki .u32) a3_4), (Vi a3_5)], 96, none⟩, ⟨.pointer (some q6), [(Vb a2_0), (Sl (Ki .u32) a2_1), (Vi a2_2), (Vb a2_3), (Sl (Ki .u32) a2_4), (Vi a2_5)], 96, none⟩, ⟨.pointer (some q5), [(Vb a1_0), (Sl (Ki .u32) a1_1), (Vi a1_2), (Vb a1_3), (Sl (Ki .u32) a1_4), (Vi a1_5)], 96, none⟩, ⟨.pointer (some q4), [(Vb a0_0), (Sl (Ki .u32) a0_1), (Vi a0_2), (Vb a0_3), (Sl (Ki .u32) a0_4), (Vi a0_5)], 96, none⟩]) rfl) rfl rfl bo_nil (wt_none' rfl) fun _ => ?_
 refine px_nil' ?_
 show TX E K2 _
 refine tx_k' hK2 ?_
 refine cx_retc' ?_
 replace hp := Option.some.inj hp
 subst hp
 refine tx_pick' (L' := [(8, (Vp q8))]) (H' := [⟨.pointer (some q8), [(Vb r31.1), (Sl (Ki .u32) r31.2.1), (Vi r31.2.2)], 74, none⟩]) [0] (sub_cons rfl sub_nil) (by decide) (pick_cons rfl pick_nil) ?_
 exact tx_ret1' Try.results95 rfl () (rv_cell_agg' (i := 0) (o := 0) (nn := 3) rfl ⟨rfl, rfl, rfl, rfl⟩ rfl agg74 rfl) (List.nil_sublist _)

def spec_Square (k : Nat) (a0_0 : Bool) (a0_1 : List Int) (a0_2 : Int) (a0_3 : Bool) (a0_4 : List Int) (a0_5 : Int) (a1_0 : Bool) (a1_1 : List Int) (a1_2 : Int) (a1_3 : Bool) (a1_4 : List Int) (a1_5 : Int) : Option (Bool × (List Int) × Int) :=
 (spec_Dot k a0_0 a0_1 a0_2 a0_3 a0_4 a0_5 a1_0 a1_1 a1_2 a1_3 a1_4 a1_5 a0_0 a0_1 a0_2 a0_3 a0_4 a0_5 a1_0 a1_1 a1_2 a1_3 a1_4 a1_5) >>= fun r9 =>
 some (r9.1, r9.2.1, r9.2.2)

theorem spec_Square_sim {k : Nat}  (a0_0 : Bool) (a0_1 : List Int) (a0_2 : Int) (a0_3 : Bool) (a0_4 : List Int) (a0_5 : Int) (a1_0 : Bool) (a1_1 : List Int) (a1_2 : Int) (a1_3 : Bool) (a1_4 : List Int) (a1_5 : Int) {out : Bool × (List Int) × Int} (hp : spec_Square k a0_0 a0_1 a0_2 a0_3 a0_4 a0_5 a1_0 a1_1 a1_2 a1_3 a1_4 a1_5 = some out) : Sx.Fn Try.prog 107 [(Ag [(Vb a0_0), (Sl (Ki .u32) a0_1), (Vi a0_2), (Vb a0_3), (Sl (Ki .u32) a0_4), (Vi a0_5)]), (Ag [(Vb a1_0), (Sl (Ki .u32) a1_1), (Vi a1_2), (Vb a1_3), (Sl (Ki .u32) a1_4), (Vi a1_5)])] [] (fun w : Unit => (Ag [(Vb out.1), (Sl (Ki .u32) out.2.1), (Vi out.2.2)])) (fun w => []) := by
 unfold spec_Square at hp
 refine fn_of Try.func107 rfl Try.ntmps107 rfl fun E hM => ?_
 refine cr fun K1 hK1 => ?_
 refine sx_ox' (ox_box' rfl (lv_ag _) rfl rfl) (wt_none' rfl) fun q2 => ?_
 refine sx_ox' (ox_box' rfl (lv_ag _) rfl rfl) (wt_none' rfl) fun q3 => ?_
 refine sx_ox' (ox_alloc' info74 rfl rfl rfl rfl (l := [(Vb false), Vn, (Vi 0)]) rfl) (wt_none' rfl) fun q4 => ?_
 refine nk hK1 ?_
 refine cr fun K2 hK2 => ?_
 refine s0 (rd_load_agg' (i := 2) (o := 0) (nn := 6) rfl ⟨rfl, rfl, rfl, rfl⟩ rfl agg96 (l' := [(Vb a0_0), (Sl (Ki .u32) a0_1), (Vi a0_2), (Vb a0_3), (Sl (Ki .u32) a0_4), (Vi a0_5)]) rfl) ?_
 refine s0 (rd_load_agg' (i := 1) (o := 0) (nn := 6) rfl ⟨rfl, rfl, rfl, rfl⟩ rfl agg96 (l' := [(Vb a1_0), (Sl (Ki .u32) a1_1), (Vi a1_2), (Vb a1_3), (Sl (Ki .u32) a1_4), (Vi a1_5)]) rfl) ?_
 refine s0 (rd_load_agg' (i := 2) (o := 0) (nn := 6) rfl ⟨rfl, rfl, rfl, rfl⟩ rfl agg96 (l' := [(Vb a0_0), (Sl (Ki .u32) a0_1), (Vi a0_2), (Vb a0_3), (Sl (Ki .u32) a0_4), (Vi a0_5)]) rfl) ?_
 refine s0 (rd_load_agg' (i := 1) (o := 0) (nn := 6) rfl ⟨rfl, rfl, rfl, rfl⟩ rfl agg96 (l' := [(Vb a1_0), (Sl (Ki .u32) a1_1), (Vi a1_2), (Vb a1_3), (Sl (Ki .u32) a1_4), (Vi a1_5)]) rfl) ?_
 obtain ⟨r9, hr9, hp⟩ := bind_some hp
 refine sx_ox' (ox_calln' (ent_fn' Try.func95 isn95 rfl rfl) (spec_Dot_sim _ _ _ _ _ _ _ _ _ _ _ _ _ _ _ _ _ _ _ _ _ _ _ _ hr9 : Sx.Fn Try.prog 95 [(Ag [(Vb a0_0), (Sl (Ki .u32) a0_1), (Vi a0_2), (Vb a0_3), (Sl (Ki .u32) a0_4), (Vi a0_5)]), (Ag [(Vb a1_0), (Sl (Ki .u32) a1_1), (Vi a1_2), (Vb a1_3), (Sl (Ki .u32) a1_4), (Vi a1_5)]), (Ag [(Vb a0_0), (Sl (Ki .u32) a0_1), (Vi a0_2), (Vb a0_3), (Sl (Ki .u32) a0_4), (Vi a0_5)]), (Ag [(Vb a1_0), (Sl (Ki .u32) a1_1), (Vi a1_2), (Vb a1_3), (Sl (Ki .u32) a1_4), (Vi a1_5)])] [] (fun x : Unit => (Ag [(Vb r9.1), (Sl (Ki .u32) r9.2.1), (Vi r9.2.2)])) (fun x => [])) (Hn := fun x : Unit => [⟨.pointer (some q4), [(Vb false), Vn, (Vi 0)], 74, none⟩, ⟨.pointer (some q3), [(Vb a1_0), (Sl (Ki .u32) a1_1), (Vi a1_2), (Vb a1_3), (Sl (Ki .u32) a1_4), (Vi a1_5)], 96, none⟩, ⟨.pointer (some q2), [(Vb a0_0), (Sl (Ki .u32) a0_1), (Vi a0_2), (Vb a0_3), (Sl (Ki .u32) a0_4), (Vi a0_5)], 96, none⟩]) (fun _ => rfl) rfl rfl) (wt_none' rfl) fun ⟨⟩ => ?_
 refine sx_ox' (ox_store' (i := 0) (o := 0) rfl rfl (lv_ag _) ⟨rfl, rfl, rfl, rfl⟩ rfl info74 rfl (H' := [⟨.pointer (some q4), [(Vb r9.1), (Sl (Ki .u32) r9.2.1), (Vi r9.2.2)], 74, none⟩, ⟨.pointer (some q3), [(Vb a1_0), (Sl (Ki .u32) a1_1), (Vi a1_2), (Vb a1_3), (Sl (Ki .u32) a1_4), (Vi a1_5)], 96, none⟩, ⟨.pointer (some q2), [(Vb a0_0), (Sl (Ki .u32) a0_1), (Vi a0_2), (Vb a0_3), (Sl (Ki .u32) a0_4), (Vi a0_5)], 96, none⟩]) rfl) (wt_none' rfl) fun _ => ?_
 refine nk hK2 ?_
 refine cx_retc' ?_
 replace hp := Option.some.inj hp
 subst hp
 refine tx_pick' (L' := [(4, (Vp q4))]) (H' := [⟨.pointer (some q4), [(Vb r9.1), (Sl (Ki .u32) r9.2.1), (Vi r9.2.2)], 74, none⟩]) [0] (sub_cons rfl sub_nil) (by decide) (pick_cons rfl pick_nil) ?_
 exact tx_ret1' Try.results107 rfl () (rv_cell_agg' (i := 0) (o := 0) (nn := 3) rfl ⟨rfl, rfl, rfl, rfl⟩ rfl agg74 rfl) (List.nil_sublist _)

def spec_IntOf (k : Nat) (a0 : Int) : Option (Bool × (List Int) × Int) :=
 (spec_WholeOf k a0) >>= fun r4 =>
 some (r4.1, r4.2, 0)

theorem spec_IntOf_sim {k : Nat}  (a0 : Int) {out : Bool × (List Int) × Int} (hp : spec_IntOf k a0 = some out) : Sx.Fn Try.prog 108 [(Vi a0)] [] (fun w : Unit => (Ag [(Vb out.1), (Sl (Ki .u32) out.2.1), (Vi out.2.2)])) (fun w => []) := by
 unfold spec_IntOf at hp
 refine fn_of Try.func108 rfl Try.ntmps108 rfl fun E hM => ?_
 refine cr fun K1 hK1 => ?_
 refine sx_ox' (ox_alloc' info74 rfl rfl rfl rfl (l := [(Vb false), Vn, (Vi 0)]) rfl) (wt_none' rfl) fun q2 => ?_
 refine nk hK1 ?_
 refine cr fun K2 hK2 => ?_
 refine s0 (rd_move' rfl) ?_
 obtain ⟨r4, hr4, hp⟩ := bind_some hp
 refine sx_ox' (ox_calln' (ent_fn' Try.func141 isn141 rfl rfl) (spec_WholeOf_sim _ hr4 : Sx.Fn Try.prog 141 [(Vi a0)] [] (fun x : Unit => (Ag [(Vb r4.1), (Sl (Ki .u32) r4.2)])) (fun x => [])) (Hn := fun x : Unit => [⟨.pointer (some q2), [(Vb false), Vn, (Vi 0)], 74, none⟩]) (fun _ => rfl) rfl rfl) (wt_none' rfl) fun ⟨⟩ => ?_
 refine s0 (rd_build' (pls := [(0, 2), (2, 1)]) (qs := [(0, [(Vb r4.1), (Sl (Ki .u32) r4.2)]), (1, [(Vi 0)])]) (r := [(Vb r4.1), (Sl (Ki .u32) r4.2), (Vi 0)]) ⟨rfl, ⟨_, rfl, (lv_ag _)⟩, ⟨rfl, ⟨_, rfl, (lv_vl rfl rfl)⟩, trivial⟩⟩ Try.underlying74 has74 places74 info74 rfl rfl rfl) ?_
 refine sx_ox' (ox_store' (i := 0) (o := 0) rfl rfl (lv_ag _) ⟨rfl, rfl, rfl, rfl⟩ rfl info74 rfl (H' := [⟨.pointer (some q2), [(Vb r4.1), (Sl (Ki .u32) r4.2), (Vi 0)], 74, none⟩]) rfl) (wt_none' rfl) fun _ => ?_
 refine nk hK2 ?_
 refine cx_retc' ?_
 replace hp := Option.some.inj hp
 subst hp
 refine tx_pick' (L' := [(2, (Vp q2))]) (H' := [⟨.pointer (some q2), [(Vb r4.1), (Sl (Ki .u32) r4.2), (Vi 0)], 74, none⟩]) [0] (sub_cons rfl sub_nil) (by decide) (pick_cons rfl pick_nil) ?_
 exact tx_ret1' Try.results108 rfl () (rv_cell_agg' (i := 0) (o := 0) (nn := 3) rfl ⟨rfl, rfl, rfl, rfl⟩ rfl agg74 rfl) (List.nil_sublist _)

def spec_Dyadic_Cmp (k : Nat) (a0_0 : Bool) (a0_1 : List Int) (a0_2 : Int) (a1_0 : Bool) (a1_1 : List Int) (a1_2 : Int) : Option (Int) :=
 (spec_Dyadic_Sub k a0_0 a0_1 a0_2 a1_0 a1_1 a1_2) >>= fun r7 =>
 (spec_Dyadic_Sign k r7.1 r7.2.1 r7.2.2) >>= fun r8 =>
 some r8

theorem spec_Dyadic_Cmp_sim {k : Nat}  (a0_0 : Bool) (a0_1 : List Int) (a0_2 : Int) (a1_0 : Bool) (a1_1 : List Int) (a1_2 : Int) {out : Int} (hp : spec_Dyadic_Cmp k a0_0 a0_1 a0_2 a1_0 a1_1 a1_2 = some out) : Sx.Fn Try.prog 109 [(Ag [(Vb a0_0), (Sl (Ki .u32) a0_1), (Vi a0_2)]), (Ag [(Vb a1_0), (Sl (Ki .u32) a1_1), (Vi a1_2)])] [] (fun w : Unit => (Vi out)) (fun w => []) := by
 unfold spec_Dyadic_Cmp at hp
 refine fn_of Try.func109 rfl Try.ntmps109 rfl fun E hM => ?_
 refine cr fun K1 hK1 => ?_
 refine sx_ox' (ox_box' rfl (lv_ag _) rfl rfl) (wt_none' rfl) fun q2 => ?_
 refine sx_ox' (ox_box' rfl (lv_ag _) rfl rfl) (wt_none' rfl) fun q3 => ?_
 refine s0 (rd_assign' rfl) ?_
 refine nk hK1 ?_
 refine cr fun K2 hK2 => ?_
 refine s0 (rd_load_agg' (i := 1) (o := 0) (nn := 3) rfl ⟨rfl, rfl, rfl, rfl⟩ rfl agg74 (l' := [(Vb a0_0), (Sl (Ki .u32) a0_1), (Vi a0_2)]) rfl) ?_
 refine s0 (rd_load_agg' (i := 0) (o := 0) (nn := 3) rfl ⟨rfl, rfl, rfl, rfl⟩ rfl agg74 (l' := [(Vb a1_0), (Sl (Ki .u32) a1_1), (Vi a1_2)]) rfl) ?_
 obtain ⟨r7, hr7, hp⟩ := bind_some hp
 refine sx_ox' (ox_calln' (ent_fn' Try.func81 isn81 rfl rfl) (spec_Dyadic_Sub_sim _ _ _ _ _ _ hr7 : Sx.Fn Try.prog 81 [(Ag [(Vb a0_0), (Sl (Ki .u32) a0_1), (Vi a0_2)]), (Ag [(Vb a1_0), (Sl (Ki .u32) a1_1), (Vi a1_2)])] [] (fun x : Unit => (Ag [(Vb r7.1), (Sl (Ki .u32) r7.2.1), (Vi r7.2.2)])) (fun x => [])) (Hn := fun x : Unit => [⟨.pointer (some q3), [(Vb a1_0), (Sl (Ki .u32) a1_1), (Vi a1_2)], 74, none⟩, ⟨.pointer (some q2), [(Vb a0_0), (Sl (Ki .u32) a0_1), (Vi a0_2)], 74, none⟩]) (fun _ => rfl) rfl rfl) (wt_none' rfl) fun ⟨⟩ => ?_
 obtain ⟨r8, hr8, hp⟩ := bind_some hp
 refine sx_ox' (ox_calln' (ent_fn' Try.func82 isn82 rfl rfl) (spec_Dyadic_Sign_sim _ _ _ hr8 : Sx.Fn Try.prog 82 [(Ag [(Vb r7.1), (Sl (Ki .u32) r7.2.1), (Vi r7.2.2)])] [] (fun x : Unit => (Vi r8)) (fun x => [])) (Hn := fun x : Unit => [⟨.pointer (some q3), [(Vb a1_0), (Sl (Ki .u32) a1_1), (Vi a1_2)], 74, none⟩, ⟨.pointer (some q2), [(Vb a0_0), (Sl (Ki .u32) a0_1), (Vi a0_2)], 74, none⟩]) (fun _ => rfl) rfl rfl) (wt_none' rfl) fun ⟨⟩ => ?_
 refine s0 (rd_assign' rfl) ?_
 refine nk hK2 ?_
 refine cx_retc' ?_
 replace hp := Option.some.inj hp
 subst hp
 refine tx_pick' (L' := [(4, (Vi r8))]) (H' := []) [] (sub_cons rfl sub_nil) (by decide) pick_nil ?_
 exact tx_ret1' Try.results109 rfl () (rv_tmp' rfl) (List.Sublist.refl _)

def spec_Cross (k : Nat) (a0_0 : Bool) (a0_1 : List Int) (a0_2 : Int) (a0_3 : Bool) (a0_4 : List Int) (a0_5 : Int) (a1_0 : Bool) (a1_1 : List Int) (a1_2 : Int) (a1_3 : Bool) (a1_4 : List Int) (a1_5 : Int) (a2_0 : Bool) (a2_1 : List Int) (a2_2 : Int) (a2_3 : Bool) (a2_4 : List Int) (a2_5 : Int) : Option (Bool × (List Int) × Int) :=
 (spec_Dyadic_Sub k a1_0 a1_1 a1_2 a0_0 a0_1 a0_2) >>= fun r11 =>
 (spec_Dyadic_Sub k a2_3 a2_4 a2_5 a0_3 a0_4 a0_5) >>= fun r16 =>
 (spec_Dyadic_Mul k r11.1 r11.2.1 r11.2.2 r16.1 r16.2.1 r16.2.2) >>= fun r17 =>
 (spec_Dyadic_Sub k a1_3 a1_4 a1_5 a0_3 a0_4 a0_5) >>= fun r22 =>
 (spec_Dyadic_Sub k a2_0 a2_1 a2_2 a0_0 a0_1 a0_2) >>= fun r27 =>
 (spec_Dyadic_Mul k r22.1 r22.2.1 r22.2.2 r27.1 r27.2.1 r27.2.2) >>= fun r28 =>
 (spec_Dyadic_Sub k r17.1 r17.2.1 r17.2.2 r28.1 r28.2.1 r28.2.2) >>= fun r29 =>
 some (r29.1, r29.2.1, r29.2.2)

theorem spec_Cross_sim {k : Nat}  (a0_0 : Bool) (a0_1 : List Int) (a0_2 : Int) (a0_3 : Bool) (a0_4 : List Int) (a0_5 : Int) (a1_0 : Bool) (a1_1 : List Int) (a1_2 : Int) (a1_3 : Bool) (a1_4 : List Int) (a1_5 : Int) (a2_0 : Bool) (a2_1 : List Int) (a2_2 : Int) (a2_3 : Bool) (a2_4 : List Int) (a2_5 : Int) {out : Bool × (List Int) × Int} (hp : spec_Cross k a0_0 a0_1 a0_2 a0_3 a0_4 a0_5 a1_0 a1_1 a1_2 a1_3 a1_4 a1_5 a2_0 a2_1 a2_2 a2_3 a2_4 a2_5 = some out) : Sx.Fn Try.prog 90 [(Ag [(Vb a0_0), (Sl (Ki .u32) a0_1), (Vi a0_2), (Vb a0_3), (Sl (Ki .u32) a0_4), (Vi a0_5)]), (Ag [(Vb a1_0), (Sl (Ki .u32) a1_1), (Vi a1_2), (Vb a1_3), (Sl (Ki .u32) a1_4), (Vi a1_5)]), (Ag [(Vb a2_0), (Sl (Ki .u32) a2_1), (Vi a2_2), (Vb a2_3), (Sl (Ki .u32) a2_4), (Vi a2_5)])] [] (fun w : Unit => (Ag [(Vb out.1), (Sl (Ki .u32) out.2.1), (Vi out.2.2)])) (fun w => []) := by
 unfold spec_Cross at hp
 refine fn_of Try.func90 rfl Try.ntmps90 rfl fun E hM => ?_
 refine cr fun K1 hK1 => ?_
 refine sx_ox' (ox_box' rfl (lv_ag _) rfl rfl) (wt_none' rfl) fun q3 => ?_
 refine sx_ox' (ox_box' rfl (lv_ag _) rfl rfl) (wt_none' rfl) fun q4 => ?_
 refine sx_ox' (ox_box' rfl (lv_ag _) rfl rfl) (wt_none' rfl) fun q5 => ?_
 refine sx_ox' (ox_alloc' info74 rfl rfl rfl rfl (l := [(Vb false), Vn, (Vi 0)]) rfl) (wt_none' rfl) fun q6 => ?_
 refine nk hK1 ?_
 refine cx_seq' fun K2 hK2 => ?_
 refine cx_plan' [] [(23, 1)] [(0, 1), (1, 1), (2, 1), (3, 1), (5, 1), (6, 1), (7, 1), (8, 1), (11, 1), (12, 1), (13, 1), (14, 1), (16, 1), (17, 1), (18, 1), (19, 1), (4, 0), (9, 0), (10, 0), (15, 0), (20, 0), (21, 0), (22, 0), (23, 0)] mixed (by kernel_rfl) ?_
 refine px_rd' rfl (rd_field0' rfl Try.underlying96 rfl info74 rfl) rfl rfl (wt_none' rfl) ?_
 refine px_rd' rfl (rd_load_agg' (i := 2) (o := 0) (nn := 3) rfl ⟨rfl, rfl, rfl, rfl⟩ rfl agg74 (l' := [(Vb a1_0), (Sl (Ki .u32) a1_1), (Vi a1_2)]) rfl) rfl rfl (wt_none' rfl) ?_
 refine px_rd' rfl (rd_field0' rfl Try.underlying96 rfl info74 rfl) rfl rfl (wt_none' rfl) ?_
 refine px_rd' rfl (rd_load_agg' (i := 3) (o := 0) (nn := 3) rfl ⟨rfl, rfl, rfl, rfl⟩ rfl agg74 (l' := [(Vb a0_0), (Sl (Ki .u32) a0_1), (Vi a0_2)]) rfl) rfl rfl (wt_none' rfl) ?_
 refine px_rd' rfl (rd_field' (off := 3) rfl Try.underlying96 rfl info74 rfl) rfl rfl (wt_none' rfl) ?_
 refine px_rd' rfl (rd_load_agg' (i := 1) (o := 3) (nn := 3) rfl ⟨rfl, rfl, rfl, rfl⟩ rfl agg74 (l' := [(Vb a2_3), (Sl (Ki .u32) a2_4), (Vi a2_5)]) rfl) rfl rfl (wt_none' rfl) ?_
 refine px_rd' rfl (rd_field' (off := 3) rfl Try.underlying96 rfl info74 rfl) rfl rfl (wt_none' rfl) ?_
 refine px_rd' rfl (rd_load_agg' (i := 3) (o := 3) (nn := 3) rfl ⟨rfl, rfl, rfl, rfl⟩ rfl agg74 (l' := [(Vb a0_3), (Sl (Ki .u32) a0_4), (Vi a0_5)]) rfl) rfl rfl (wt_none' rfl) ?_
 refine px_rd' rfl (rd_field' (off := 3) rfl Try.underlying96 rfl info74 rfl) rfl rfl (wt_none' rfl) ?_
 refine px_rd' rfl (rd_load_agg' (i := 2) (o := 3) (nn := 3) rfl ⟨rfl, rfl, rfl, rfl⟩ rfl agg74 (l' := [(Vb a1_3), (Sl (Ki .u32) a1_4), (Vi a1_5)]) rfl) rfl rfl (wt_none' rfl) ?_
 refine px_rd' rfl (rd_field' (off := 3) rfl Try.underlying96 rfl info74 rfl) rfl rfl (wt_none' rfl) ?_
 refine px_rd' rfl (rd_load_agg' (i := 3) (o := 3) (nn := 3) rfl ⟨rfl, rfl, rfl, rfl⟩ rfl agg74 (l' := [(Vb a0_3), (Sl (Ki .u32) a0_4), (Vi a0_5)]) rfl) rfl rfl (wt_none' rfl) ?_
 refine px_rd' rfl (rd_field0' rfl Try.underlying96 rfl info74 rfl) rfl rfl (wt_none' rfl) ?_
 refine px_rd' rfl (rd_load_agg' (i := 1) (o := 0) (nn := 3) rfl ⟨rfl, rfl, rfl, rfl⟩ rfl agg74 (l' := [(Vb a2_0), (Sl (Ki .u32) a2_1), (Vi a2_2)]) rfl) rfl rfl (wt_none' rfl) ?_
 refine px_rd' rfl (rd_field0' rfl Try.underlying96 rfl info74 rfl) rfl rfl (wt_none' rfl) ?_
 refine px_rd' rfl (rd_load_agg' (i := 3) (o := 0) (nn := 3) rfl ⟨rfl, rfl, rfl, rfl⟩ rfl agg74 (l' := [(Vb a0_0), (Sl (Ki .u32) a0_1), (Vi a0_2)]) rfl) rfl rfl (wt_none' rfl) ?_
 obtain ⟨r11, hr11, hp⟩ := bind_some hp
 refine px_ox' rfl (ox_calln' (ent_fn' Try.func81 isn81 rfl rfl) (spec_Dyadic_Sub_sim _ _ _ _ _ _ hr11 : Sx.Fn Try.prog 81 [(Ag [(Vb a1_0), (Sl (Ki .u32) a1_1), (Vi a1_2)]), (Ag [(Vb a0_0), (Sl (Ki .u32) a0_1), (Vi a0_2)])] [] (fun x : Unit => (Ag [(Vb r11.1), (Sl (Ki .u32) r11.2.1), (Vi r11.2.2)])) (fun x => [])) (Hn := fun x : Unit => [⟨.pointer (some q6), [(Vb false), Vn, (Vi 0)], 74, none⟩, ⟨.pointer (some q5), [(Vb a2_0), (Sl (Ki .u32) a2_1), (Vi a2_2), (Vb a2_3), (Sl (Ki .u32) a2_4), (Vi a2_5)], 96, none⟩, ⟨.pointer (some q4), [(Vb a1_0), (Sl (Ki .u32) a1_1), (Vi a1_2), (Vb a1_3), (Sl (Ki .u32) a1_4), (Vi a1_5)], 96, none⟩, ⟨.pointer (some q3), [(Vb a0_0), (Sl (Ki .u32) a0_1), (Vi a0_2), (Vb a0_3), (Sl (Ki .u32) a0_4), (Vi a0_5)], 96, none⟩]) (fun _ => rfl) rfl rfl) rfl bs_nil (wt_none' rfl) fun ⟨⟩ => ?_
 obtain ⟨r16, hr16, hp⟩ := bind_some hp
 refine px_ox' rfl (ox_calln' (ent_fn' Try.func81 isn81 rfl rfl) (spec_Dyadic_Sub_sim _ _ _ _ _ _ hr16 : Sx.Fn Try.prog 81 [(Ag [(Vb a2_3), (Sl (Ki .u32) a2_4), (Vi a2_5)]), (Ag [(Vb a0_3), (Sl (Ki .u32) a0_4), (Vi a0_5)])] [] (fun x : Unit => (Ag [(Vb r16.1), (Sl (Ki .u32) r16.2.1), (Vi r16.2.2)])) (fun x => [])) (Hn := fun x : Unit => [⟨.pointer (some q6), [(Vb false), Vn, (Vi 0)], 74, none⟩, ⟨.pointer (some q5), [(Vb a2_0), (Sl (Ki .u32) a2_1), (Vi a2_2), (Vb a2_3), (Sl (Ki .u32) a2_4), (Vi a2_5)], 96, none⟩, ⟨.pointer (some q4), [(Vb a1_0), (Sl (Ki .u32) a1_1), (Vi a1_2), (Vb a1_3), (Sl (Ki .u32) a1_4), (Vi a1_5)], 96, none⟩, ⟨.pointer (some q3), [(Vb a0_0), (Sl (Ki .u32) a0_1), (Vi a0_2), (Vb a0_3), (Sl (Ki .u32) a0_4), (Vi a0_5)], 96, none⟩]) (fun _ => rfl) rfl rfl) rfl bs_nil (wt_none' rfl) fun ⟨⟩ => ?_
 obtain ⟨r17, hr17, hp⟩ := bind_some hp
 refine px_ox' rfl (ox_calln' (ent_fn' Try.func80 isn80 rfl rfl) (spec_Dyadic_Mul_sim _ _ _ _ _ _ hr17 : Sx.Fn Try.prog 80 [(Ag [(Vb r11.1), (Sl (Ki .u32) r11.2.1), (Vi r11.2.2)]), (Ag [(Vb r16.1), (Sl (Ki .u32) r16.2.1), (Vi r16.2.2)])] [] (fun x : Unit => (Ag [(Vb r17.1), (Sl (Ki .u32) r17.2.1), (Vi r17.2.2)])) (fun x => [])) (Hn := fun x : Unit => [⟨.pointer (some q6), [(Vb false), Vn, (Vi 0)], 74, none⟩, ⟨.pointer (some q5), [(Vb a2_0), (Sl (Ki .u32) a2_1), (Vi a2_2), (Vb a2_3), (Sl (Ki .u32) a2_4), (Vi a2_5)], 96, none⟩, ⟨.pointer (some q4), [(Vb a1_0), (Sl (Ki .u32) a1_1), (Vi a1_2), (Vb a1_3), (Sl (Ki .u32) a1_4), (Vi a1_5)], 96, none⟩, ⟨.pointer (some q3), [(Vb a0_0), (Sl (Ki .u32) a0_1), (Vi a0_2), (Vb a0_3), (Sl (Ki .u32) a0_4), (Vi a0_5)], 96, none⟩]) (fun _ => rfl) rfl rfl) rfl bs_nil (wt_none' rfl) fun ⟨⟩ => ?_
 obtain ⟨r22, hr22, hp⟩ := bind_some hp
 refine px_ox' rfl (ox_calln' (ent_fn' Try.func81 isn81 rfl rfl) (spec_Dyadic_Sub_sim _ _ _ _ _ _ hr22 : Sx.Fn Try.prog 81 [(Ag [(Vb a1_3), (Sl (Ki .u32) a1_4), (Vi a1_5)]), (Ag [(Vb a0_3), (Sl (Ki .u32) a0_4), (Vi a0_5)])] [] (fun x : Unit => (Ag [(Vb r22.1), (Sl (Ki .u32) r22.2.1), (Vi r22.2.2)])) (fun x => [])) (Hn := fun x : Unit => [⟨.pointer (some q6), [(Vb false), Vn, (Vi 0)], 74, none⟩, ⟨.pointer (some q5), [(Vb a2_0), (Sl (Ki .u32) a2_1), (Vi a2_2), (Vb a2_3), (Sl (Ki .u32) a2_4), (Vi a2_5)], 96, none⟩, ⟨.pointer (some q4), [(Vb a1_0), (Sl (Ki .u32) a1_1), (Vi a1_2), (Vb a1_3), (Sl (Ki .u32) a1_4), (Vi a1_5)], 96, none⟩, ⟨.pointer (some q3), [(Vb a0_0), (Sl (Ki .u32) a0_1), (Vi a0_2), (Vb a0_3), (Sl (Ki .u32) a0_4), (Vi a0_5)], 96, none⟩]) (fun _ => rfl) rfl rfl) rfl bs_nil (wt_none' rfl) fun ⟨⟩ => ?_
 obtain ⟨r27, hr27, hp⟩ := bind_some hp
 refine px_ox' rfl (ox_calln' (ent_fn' Try.func81 isn81 rfl rfl) (spec_Dyadic_Sub_sim _ _ _ _ _ _ hr27 : Sx.Fn Try.prog 81 [(Ag [(Vb a2_0), (Sl (Ki .u32) a2_1), (Vi a2_2)]), (Ag [(Vb a0_0), (Sl (Ki .u32) a0_1), (Vi a0_2)])] [] (fun x : Unit => (Ag [(Vb r27.1), (Sl (Ki .u32) r27.2.1), (Vi r27.2.2)])) (fun x => [])) (Hn := fun x : Unit => [⟨.pointer (some q6), [(Vb false), Vn, (Vi 0)], 74, none⟩, ⟨.pointer (some q5), [(Vb a2_0), (Sl (Ki .u32) a2_1), (Vi a2_2), (Vb a2_3), (Sl (Ki .u32) a2_4), (Vi a2_5)], 96, none⟩, ⟨.pointer (some q4), [(Vb a1_0), (Sl (Ki .u32) a1_1), (Vi a1_2), (Vb a1_3), (Sl (Ki .u32) a1_4), (Vi a1_5)], 96, none⟩, ⟨.pointer (some q3), [(Vb a0_0), (Sl (Ki .u32) a0_1), (Vi a0_2), (Vb a0_3), (Sl (Ki .u32) a0_4), (Vi a0_5)], 96, none⟩]) (fun _ => rfl) rfl rfl) rfl bs_nil (wt_none' rfl) fun ⟨⟩ => ?_
 obtain ⟨r28, hr28, hp⟩ := bind_some hp
 refine px_ox' rfl (ox_calln' (ent_fn' Try.func80 isn80 rfl rfl) (spec_Dyadic_Mul_sim _ _ _ _ _ _ hr28 : Sx.Fn Try.prog 80 [(Ag [(Vb r22.1), (Sl (Ki .u32) r22.2.1), (Vi r22.2.2)]), (Ag [(Vb r27.1), (Sl (Ki .u32) r27.2.1), (Vi r27.2.2)])] [] (fun x : Unit => (Ag [(Vb r28.1), (Sl (Ki .u32) r28.2.1), (Vi r28.2.2)])) (fun x => [])) (Hn := fun x : Unit => [⟨.pointer (some q6), [(Vb false), Vn, (Vi 0)], 74, none⟩, ⟨.pointer (some q5), [(Vb a2_0), (Sl (Ki .u32) a2_1), (Vi a2_2), (Vb a2_3), (Sl (Ki .u32) a2_4), (Vi a2_5)], 96, none⟩, ⟨.pointer (some q4), [(Vb a1_0), (Sl (Ki .u32) a1_1), (Vi a1_2), (Vb a1_3), (Sl (Ki .u32) a1_4), (Vi a1_5)], 96, none⟩, ⟨.pointer (some q3), [(Vb a0_0), (Sl (Ki .u32) a0_1), (Vi a0_2), (Vb a0_3), (Sl (Ki .u32) a0_4), (Vi a0_5)], 96, none⟩]) (fun _ => rfl) rfl rfl) rfl bs_nil (wt_none' rfl) fun ⟨⟩ => ?_
 obtain ⟨r29, hr29, hp⟩ := bind_some hp
 refine px_ox' rfl (ox_calln' (ent_fn' Try.func81 isn81 rfl rfl) (spec_Dyadic_Sub_sim _ _ _ _ _ _ hr29 : Sx.Fn Try.prog 81 [(Ag [(Vb r17.1), (Sl (Ki .u32) r17.2.1), (Vi r17.2.2)]), (Ag [(Vb r28.1), (Sl (Ki .u32) r28.2.1), (Vi r28.2.2)])] [] (fun x : Unit => (Ag [(Vb r29.1), (Sl (Ki .u32) r29.2.1), (Vi r29.2.2)])) (fun x => [])) (Hn := fun x : Unit => [⟨.pointer (some q6), [(Vb false), Vn, (Vi 0)], 74, none⟩, ⟨.pointer (some q5), [(Vb a2_0), (Sl (Ki .u32) a2_1), (Vi a2_2), (Vb a2_3), (Sl (Ki .u32) a2_4), (Vi a2_5)], 96, none⟩, ⟨.pointer (some q4), [(Vb a1_0), (Sl (Ki .u32) a1_1), (Vi a1_2), (Vb a1_3), (Sl (Ki .u32) a1_4), (Vi a1_5)], 96, none⟩, ⟨.pointer (some q3), [(Vb a0_0), (Sl (Ki .u32) a0_1), (Vi a0_2), (Vb a0_3), (Sl (Ki .u32) a0_4), (Vi a0_5)], 96, none⟩]) (fun _ => rfl) rfl rfl) rfl bs_nil (wt_none' rfl) fun ⟨⟩ => ?_
 refine px_oxv' rfl (oxv_store (i := 0) (o := 0) rfl rfl (lv_ag _) ⟨rfl, rfl, rfl, rfl⟩ rfl info74 rfl (H' := [⟨.pointer (some q6), [(Vb r29.1), (Sl (Ki .u32) r29.2.1), (Vi r29.2.2)], 74, none⟩, ⟨.pointer (some q5), [(Vb a2_0), (Sl (Ki .u32) a2_1), (Vi a2_2), (Vb a2_3), (Sl (Ki .u32) a2_4), (Vi a2_5)], 96, none⟩, ⟨.pointer (some q4), [(Vb a1_0), (Sl (Ki .u32) a1_1), (Vi a1_2), (Vb a1_3), (Sl (Ki .u32) a1_4), (Vi a1_5)], 96, none⟩, ⟨.pointer (some q3), [(Vb a0_0), (Sl (Ki .u32) a0_1), (Vi a0_2), (Vb a0_3), (Sl (Ki .u32) a0_4), (Vi a0_5)], 96, none⟩]) rfl) rfl rfl bo_nil (wt_none' rfl) fun _ => ?_
 refine px_nil' ?_
 show TX E K2 _
 refine tx_k' hK2 ?_
 refine cx_retc' ?_
 replace hp := Option.some.inj hp
 subst hp
 refine tx_pick' (L' := [(6, (Vp q6))]) (H' := [⟨.pointer (some q6), [(Vb r29.1), (Sl (Ki .u32) r29.2.1), (Vi r29.2.2)], 74, none⟩]) [0] (sub_cons rfl sub_nil) (by decide) (pick_cons rfl pick_nil) ?_
 exact tx_ret1' Try.results90 rfl () (rv_cell_agg' (i := 0) (o := 0) (nn := 3) rfl ⟨rfl, rfl, rfl, rfl⟩ rfl agg74 rfl) (List.nil_sublist _)

end Go.Proofs.Ytlipjaacncpaoaa
