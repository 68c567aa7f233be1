/-
  Plain functions for the Go functions that this law reaches, and that each call does what its plain function says. Printed by a program of ours.
-/
import Derived.Test.YtmkhoplffiakmaaProg
import Derived.Test.YtmkhoplffiakmaaSxX
namespace Go.Proofs.Ytmkhoplffiakmaa
open Go.Sx
set_option linter.unusedVariables false
set_option linter.unusedSimpArgs false
set_option maxRecDepth 100000
set_option maxHeartbeats 4000000

theorem info24 : (Try.prog.info? 24).map (fun i => (i.zero, i.size, i.bytes)) = some (some (.agg #[.float .f64 0, .float .f64 0, .float .f64 0]), 3, 24) := by kernel_rfl
theorem agg24 : Agg Try.prog 24 3 := ⟨⟨_, Try.underlying24, .inl ⟨_, rfl⟩⟩, info_size info24⟩
theorem isn5 : (Try.f5.name == "runtime.NumGoroutine") = false := by kernel_rfl
theorem info22 : (Try.prog.info? 22).map (fun i => (i.zero, i.size, i.bytes)) = some (some (.float .f64 0), 1, 8) := by kernel_rfl
theorem flat22 : Flat Try.prog 22 := ⟨_, Try.underlying22, fun _ h => (nomatch h), fun _ _ h => (nomatch h)⟩
theorem isn18 : (Try.f18.name == "runtime.NumGoroutine") = false := by kernel_rfl
theorem isn43 : (Try.f43.name == "runtime.NumGoroutine") = false := by kernel_rfl
theorem extf69 : ∀ {x r : Nat}, gint .zero x = r → ∀ y, (y = x ∨ (isn x = true ∧ isn y = true)) → RunsF Try.prog (callFunc 69 #[.float .f64 y]) (Fl r) := fun hz y hy => hz ▸ runs_ext (e := Extern.MathFloor.toIntegral "math.archTrunc" .zero) Try.func69 (by kernel_rfl) (by kernel_rfl) (by kernel_rfl) (by kernel_rfl) (gint_runs hy)
theorem isn15 : (Try.f15.name == "runtime.NumGoroutine") = false := by kernel_rfl
theorem ext39 : ∀ {args : Array Value} {v : Value}, Runs Try.prog ((Extern.MathFloatBits.float64bits) args) v → Runs Try.prog (callFunc 39 args) (.value v) := fun hr => ru_ext Try.func39 (by kernel_rfl) (by kernel_rfl) (by kernel_rfl) (by kernel_rfl) hr
theorem ext38 : ∀ {args : Array Value} {v : Value}, Runs Try.prog ((Extern.MathFloatBits.float64frombits) args) v → Runs Try.prog (callFunc 38 args) (.value v) := fun hr => ru_ext Try.func38 (by kernel_rfl) (by kernel_rfl) (by kernel_rfl) (by kernel_rfl) hr
theorem places24 : placesOf Try.prog [{ name := "X", type := 22, offset := 0, embedded := false, tag := "", pkgPath := "", byteOffset := 0 }, { name := "Y", type := 22, offset := 1, embedded := false, tag := "", pkgPath := "", byteOffset := 8 }, { name := "Z", type := 22, offset := 2, embedded := false, tag := "", pkgPath := "", byteOffset := 16 }] = [(0, 1), (1, 1), (2, 1)] := by kernel_rfl
theorem has24 : ∀ f ∈ ([{ name := "X", type := 22, offset := 0, embedded := false, tag := "", pkgPath := "", byteOffset := 0 }, { name := "Y", type := 22, offset := 1, embedded := false, tag := "", pkgPath := "", byteOffset := 8 }, { name := "Z", type := 22, offset := 2, embedded := false, tag := "", pkgPath := "", byteOffset := 16 }] : List Field), (Try.prog.info? f.type).isSome = true := fun f hf => all_of (p := fun f => (Try.prog.info? f.type).isSome) (by kernel_rfl) f hf
theorem held24 : Try.prog.stoodInHeld 24 = false := by kernel_rfl
theorem eqg24 : Try.prog.eqGuardType Try.prog.depth 24 = false := by kernel_rfl
theorem isn6 : (Try.f6.name == "runtime.NumGoroutine") = false := by kernel_rfl
theorem isn21 : (Try.f21.name == "runtime.NumGoroutine") = false := by kernel_rfl
theorem isn20 : (Try.f20.name == "runtime.NumGoroutine") = false := by kernel_rfl
theorem isn44 : (Try.f44.name == "runtime.NumGoroutine") = false := by kernel_rfl
theorem isn47 : (Try.f47.name == "runtime.NumGoroutine") = false := by kernel_rfl
theorem mixed : Try.prog.follows .mixedOrders = true := by kernel_rfl
theorem isn45 : (Try.f45.name == "runtime.NumGoroutine") = false := by kernel_rfl
theorem isn48 : (Try.f48.name == "runtime.NumGoroutine") = false := by kernel_rfl
theorem isn71 : (Try.f71.name == "runtime.NumGoroutine") = false := by kernel_rfl
theorem isn85 : (Try.f85.name == "runtime.NumGoroutine") = false := by kernel_rfl
theorem isn22 : (Try.f22.name == "runtime.NumGoroutine") = false := by kernel_rfl
theorem extf49 : ∀ {x r : Nat}, gsqrt x = r → ∀ y, (y = x ∨ (isn x = true ∧ isn y = true)) → RunsF Try.prog (callFunc 49 #[.float .f64 y]) (Fl r) := fun hz y hy => hz ▸ runs_ext (e := Extern.MathSqrt.sqrt) Try.func49 (by kernel_rfl) (by kernel_rfl) (by kernel_rfl) (by kernel_rfl) (gsqrt_runs hy)
theorem isn46 : (Try.f46.name == "runtime.NumGoroutine") = false := by kernel_rfl
theorem idle19 : Idle Try.prog 19 2 := fun vs w hv => by
  obtain ⟨v0, v1, rfl⟩ : ∃ v0 v1, vs = [v0, v1] := by
    obtain _ | ⟨v0, vs⟩ := vs
    · simp at hv
    obtain _ | ⟨v1, vs⟩ := vs
    · simp at hv
    obtain _ | ⟨u, vs⟩ := vs
    · exact ⟨v0, v1, rfl⟩
    · simp at hv
  refine callsD_of_wpS Try.func19 rfl fun c₀ cs hu => ?_
  apply wpS_seq
  apply wpS_region
  simp [wpOpsS, go_sem, recoverD, hu, Try.ntmps19, Exit.thenS]
  refine wpS_cond (t := false) (by simp [Act.eval, Array.replicate]) ?_
  simp only [Bool.false_eq_true, if_false]
  refine wpS_of_wp (wp_skip ?_)
  cases c₀
  simp_all [bodyPostS, results, Try.results19]
theorem isn19 : (Try.f19.name == "runtime.NumGoroutine") = false := by kernel_rfl
theorem info4 : (Try.prog.info? 4).map (fun i => (i.zero, i.size, i.bytes)) = some (some (.bool false), 1, 1) := by kernel_rfl
theorem flat4 : Flat Try.prog 4 := ⟨_, Try.underlying4, fun _ h => (nomatch h), fun _ _ h => (nomatch h)⟩
theorem isn10 : (Try.f10.name == "runtime.NumGoroutine") = false := by kernel_rfl
theorem isn33 : (Try.f33.name == "runtime.NumGoroutine") = false := by kernel_rfl
theorem isn62 : (Try.f62.name == "runtime.NumGoroutine") = false := by kernel_rfl
theorem places34 : placesOf Try.prog [{ name := "N", type := 32, offset := 0, embedded := false, tag := "", pkgPath := "", byteOffset := 0 }, { name := "E", type := 3, offset := 2, embedded := false, tag := "", pkgPath := "", byteOffset := 32 }] = [(0, 2), (2, 1)] := by kernel_rfl
theorem has34 : ∀ f ∈ ([{ name := "N", type := 32, offset := 0, embedded := false, tag := "", pkgPath := "", byteOffset := 0 }, { name := "E", type := 3, offset := 2, embedded := false, tag := "", pkgPath := "", byteOffset := 32 }] : List Field), (Try.prog.info? f.type).isSome = true := fun f hf => all_of (p := fun f => (Try.prog.info? f.type).isSome) (by kernel_rfl) f hf
theorem info34 : (Try.prog.info? 34).map (fun i => (i.zero, i.size, i.bytes)) = some (some (.agg #[.bool false, .slice none 0 0, .int .i64 0]), 3, 40) := by kernel_rfl
theorem isn78 : (Try.f78.name == "runtime.NumGoroutine") = false := by kernel_rfl
theorem isn76 : (Try.f76.name == "runtime.NumGoroutine") = false := by kernel_rfl
theorem info91 : (Try.prog.info? 91).map (fun i => (i.zero, i.size, i.bytes)) = some (some (.int .u32 0), 1, 4) := by kernel_rfl
theorem flat91 : Flat Try.prog 91 := ⟨_, Try.underlying91, fun _ h => (nomatch h), fun _ _ h => (nomatch h)⟩
theorem places32 : placesOf Try.prog [{ name := "Neg", type := 4, offset := 0, embedded := false, tag := "", pkgPath := "", byteOffset := 0 }, { name := "L", type := 30, offset := 1, embedded := false, tag := "", pkgPath := "", byteOffset := 8 }] = [(0, 1), (1, 1)] := by kernel_rfl
theorem has32 : ∀ f ∈ ([{ name := "Neg", type := 4, offset := 0, embedded := false, tag := "", pkgPath := "", byteOffset := 0 }, { name := "L", type := 30, offset := 1, embedded := false, tag := "", pkgPath := "", byteOffset := 8 }] : List Field), (Try.prog.info? f.type).isSome = true := fun f hf => all_of (p := fun f => (Try.prog.info? f.type).isSome) (by kernel_rfl) f hf
theorem info32 : (Try.prog.info? 32).map (fun i => (i.zero, i.size, i.bytes)) = some (some (.agg #[.bool false, .slice none 0 0]), 2, 32) := by kernel_rfl
theorem agg32 : Agg Try.prog 32 2 := ⟨⟨_, Try.underlying32, .inl ⟨_, rfl⟩⟩, info_size info32⟩
theorem agg34 : Agg Try.prog 34 3 := ⟨⟨_, Try.underlying34, .inl ⟨_, rfl⟩⟩, info_size info34⟩
theorem places39 : placesOf Try.prog [{ name := "X", type := 34, offset := 0, embedded := false, tag := "", pkgPath := "", byteOffset := 0 }, { name := "Y", type := 34, offset := 3, embedded := false, tag := "", pkgPath := "", byteOffset := 40 }, { name := "Z", type := 34, offset := 6, embedded := false, tag := "", pkgPath := "", byteOffset := 80 }] = [(0, 3), (3, 3), (6, 3)] := by kernel_rfl
theorem has39 : ∀ f ∈ ([{ name := "X", type := 34, offset := 0, embedded := false, tag := "", pkgPath := "", byteOffset := 0 }, { name := "Y", type := 34, offset := 3, embedded := false, tag := "", pkgPath := "", byteOffset := 40 }, { name := "Z", type := 34, offset := 6, embedded := false, tag := "", pkgPath := "", byteOffset := 80 }] : List Field), (Try.prog.info? f.type).isSome = true := fun f hf => all_of (p := fun f => (Try.prog.info? f.type).isSome) (by kernel_rfl) f hf
theorem info39 : (Try.prog.info? 39).map (fun i => (i.zero, i.size, i.bytes)) = some (some (.agg #[.bool false, .slice none 0 0, .int .i64 0, .bool false, .slice none 0 0, .int .i64 0, .bool false, .slice none 0 0, .int .i64 0]), 9, 120) := by kernel_rfl
theorem agg39 : Agg Try.prog 39 9 := ⟨⟨_, Try.underlying39, .inl ⟨_, rfl⟩⟩, info_size info39⟩
theorem isn9 : (Try.f9.name == "runtime.NumGoroutine") = false := by kernel_rfl
theorem isn24 : (Try.f24.name == "runtime.NumGoroutine") = false := by kernel_rfl
theorem isn27 : (Try.f27.name == "runtime.NumGoroutine") = false := by kernel_rfl
theorem isn56 : (Try.f56.name == "runtime.NumGoroutine") = false := by kernel_rfl
theorem info3 : (Try.prog.info? 3).map (fun i => (i.zero, i.size, i.bytes)) = some (some (.int .i64 0), 1, 8) := by kernel_rfl
theorem flat3 : Flat Try.prog 3 := ⟨_, Try.underlying3, fun _ h => (nomatch h), fun _ _ h => (nomatch h)⟩
theorem isn77 : (Try.f77.name == "runtime.NumGoroutine") = false := by kernel_rfl
theorem info30 : (Try.prog.info? 30).map (fun i => (i.zero, i.size, i.bytes)) = some (some (.slice none 0 0), 1, 24) := by kernel_rfl
theorem flat30 : Flat Try.prog 30 := ⟨_, Try.underlying30, fun _ h => (nomatch h), fun _ _ h => (nomatch h)⟩
theorem isn54 : (Try.f54.name == "runtime.NumGoroutine") = false := by kernel_rfl
theorem isn28 : (Try.f28.name == "runtime.NumGoroutine") = false := by kernel_rfl
theorem isn57 : (Try.f57.name == "runtime.NumGoroutine") = false := by kernel_rfl
theorem isn74 : (Try.f74.name == "runtime.NumGoroutine") = false := by kernel_rfl
theorem isn75 : (Try.f75.name == "runtime.NumGoroutine") = false := by kernel_rfl
theorem isn88 : (Try.f88.name == "runtime.NumGoroutine") = false := by kernel_rfl
theorem isn89 : (Try.f89.name == "runtime.NumGoroutine") = false := by kernel_rfl
theorem isn90 : (Try.f90.name == "runtime.NumGoroutine") = false := by kernel_rfl
theorem isn25 : (Try.f25.name == "runtime.NumGoroutine") = false := by kernel_rfl
theorem isn26 : (Try.f26.name == "runtime.NumGoroutine") = false := by kernel_rfl
theorem isn55 : (Try.f55.name == "runtime.NumGoroutine") = false := by kernel_rfl
theorem isn29 : (Try.f29.name == "runtime.NumGoroutine") = false := by kernel_rfl
theorem isn58 : (Try.f58.name == "runtime.NumGoroutine") = false := by kernel_rfl
theorem isn30 : (Try.f30.name == "runtime.NumGoroutine") = false := by kernel_rfl
theorem places36 : placesOf Try.prog [{ name := "N", type := 34, offset := 0, embedded := false, tag := "", pkgPath := "", byteOffset := 0 }, { name := "D", type := 34, offset := 3, embedded := false, tag := "", pkgPath := "", byteOffset := 40 }] = [(0, 3), (3, 3)] := by kernel_rfl
theorem has36 : ∀ f ∈ ([{ name := "N", type := 34, offset := 0, embedded := false, tag := "", pkgPath := "", byteOffset := 0 }, { name := "D", type := 34, offset := 3, embedded := false, tag := "", pkgPath := "", byteOffset := 40 }] : List Field), (Try.prog.info? f.type).isSome = true := fun f hf => all_of (p := fun f => (Try.prog.info? f.type).isSome) (by kernel_rfl) f hf
theorem info36 : (Try.prog.info? 36).map (fun i => (i.zero, i.size, i.bytes)) = some (some (.agg #[.bool false, .slice none 0 0, .int .i64 0, .bool false, .slice none 0 0, .int .i64 0]), 6, 80) := by kernel_rfl
theorem isn32 : (Try.f32.name == "runtime.NumGoroutine") = false := by kernel_rfl
theorem isn60 : (Try.f60.name == "runtime.NumGoroutine") = false := by kernel_rfl
theorem isn61 : (Try.f61.name == "runtime.NumGoroutine") = false := by kernel_rfl
theorem agg36 : Agg Try.prog 36 6 := ⟨⟨_, Try.underlying36, .inl ⟨_, rfl⟩⟩, info_size info36⟩
theorem isn31 : (Try.f31.name == "runtime.NumGoroutine") = false := by kernel_rfl
theorem isn59 : (Try.f59.name == "runtime.NumGoroutine") = false := by kernel_rfl
theorem isn8 : (Try.f8.name == "runtime.NumGoroutine") = false := by kernel_rfl
theorem isn23 : (Try.f23.name == "runtime.NumGoroutine") = false := by kernel_rfl
theorem isn50 : (Try.f50.name == "runtime.NumGoroutine") = false := by kernel_rfl
theorem isn51 : (Try.f51.name == "runtime.NumGoroutine") = false := by kernel_rfl
theorem isn52 : (Try.f52.name == "runtime.NumGoroutine") = false := by kernel_rfl
theorem isn53 : (Try.f53.name == "runtime.NumGoroutine") = false := by kernel_rfl
theorem isn73 : (Try.f73.name == "runtime.NumGoroutine") = false := by kernel_rfl
theorem isn79 : (Try.f79.name == "runtime.NumGoroutine") = false := by kernel_rfl
theorem isn86 : (Try.f86.name == "runtime.NumGoroutine") = false := by kernel_rfl
theorem isn83 : (Try.f83.name == "runtime.NumGoroutine") = false := by kernel_rfl
theorem isn87 : (Try.f87.name == "runtime.NumGoroutine") = false := by kernel_rfl
theorem isn7 : (Try.f7.name == "runtime.NumGoroutine") = false := by kernel_rfl
def KT24 : Kd (Nat × Nat × Nat) := ⟨3, fun x => [(Vl (.float .f64 x.1)), (Vl (.float .f64 x.2.1)), (Vl (.float .f64 x.2.2))], fun _ => rfl⟩
def KT36 : Kd (Bool × (List Int) × Int × Bool × (List Int) × Int) := ⟨6, fun x => [(Vl (.bool x.1)), (Sl (Ki .u32) x.2.1), (Vl (.int .i64 x.2.2.1)), (Vl (.bool x.2.2.2.1)), (Sl (Ki .u32) x.2.2.2.2.1), (Vl (.int .i64 x.2.2.2.2.2))], fun _ => rfl⟩

def math_Trunc (k a0 : Nat) : Option (Nat) :=
 (some (gint .zero a0)) >>= fun r4 =>
 some r4

theorem math_Trunc_sim {k : Nat}  (a0 : Nat) {out : Nat} (hp : math_Trunc k a0 = some out) : Sx.Fn Try.prog 43 [(Vg a0)] [] (fun w : Unit => (Fl out)) (fun w => []) := by
 unfold math_Trunc at hp
 refine fn_of Try.func43 rfl Try.ntmps43 rfl fun E hM => ?_
 refine cr fun K1 hK1 => ?_
 refine sa rfl ?_
 refine nk hK1 ?_
 refine cx_seq' fun K2 hK2 => ?_
 refine cx_cond_t' rfl rfl ?_
 refine cr fun K3 hK3 => ?_
 refine sm rfl ?_
 obtain ⟨r4, hr4, hp⟩ := bind_some hp
 refine so (ox_extf' rfl (fl_v rfl) Try.func69 (extf69 (Option.some.inj hr4)) rfl rfl) fun _ => ?_
 refine sa rfl ?_
 refine nk hK3 ?_
 refine cx_retc' ?_
 replace hp := sj hp
 subst hp
 refine tk (L' := [(2, (Fl r4))]) (H' := []) [] (uc rfl un) pn ?_
 exact tx_ret1' Try.results43 rfl () (rv_tmp' rfl) lr

def math_Abs (k a0 : Nat) : Option (Nat) :=
 some (ffrom (iandn .u64 (fbits a0) 9223372036854775808))

theorem math_Abs_sim {k : Nat}  (a0 : Nat) {out : Nat} (hp : math_Abs k a0 = some out) : Sx.Fn Try.prog 15 [(Vg a0)] [] (fun w : Unit => (Vg out)) (fun w => []) := by
 unfold math_Abs at hp
 refine fn_of Try.func15 rfl Try.ntmps15 rfl fun E hM => ?_
 refine cr fun K1 hK1 => ?_
 refine sa rfl ?_
 refine nk hK1 ?_
 refine cr fun K2 hK2 => ?_
 refine sm rfl ?_
 refine s0 (rd_ext' (us := [.float .f64 a0]) rfl (ext39 ex_bits)) ?_
 refine sb rfl rfl eg_int ru_andn ?_
 refine s0 (rd_ext' (us := [.int .u64 (iandn .u64 (fbits a0) 9223372036854775808)]) rfl (ext38 ex_from)) ?_
 refine sa rfl ?_
 refine nk hK2 ?_
 refine cx_retc' ?_
 replace hp := sj hp
 subst hp
 refine tk (L' := [(2, (Vg (ffrom (iandn .u64 (fbits a0) 9223372036854775808))))]) (H' := []) [] (uc rfl un) pn ?_
 exact tx_ret1' Try.results15 rfl () (rv_tmp' rfl) lr

def laws_wholeTo_j2 (k : Nat) (rec1 : Int → Option (Unit ⊕ Unit)) (x3 : Int) (x2 : Bool) : Option (Unit ⊕ Unit) :=
 br x2
  (some (.inl ()))
  (rec1 (iadd .i64 x3 1))
def laws_wholeTo_l1s (a1 : List Nat) (a0 k : Nat) (rec1 : Int → Option (Unit ⊕ Unit)) (x3 : Int) : Option (Unit ⊕ Unit) :=
 br (decide (x3 < (a1.length : Int)))
  ((idx a1 x3) >>= fun r11 =>
  (math_Trunc k r11) >>= fun r15 =>
  br (fne r11 r15)
   (laws_wholeTo_j2 k rec1 x3 true)
   ((math_Abs k r11) >>= fun r19 =>
   laws_wholeTo_j2 k rec1 x3 (fgt r19 a0)))
  (some (.inr ()))
def laws_wholeTo_l1 (a1 : List Nat) (a0 : Nat) : Nat → Int → Option (Unit ⊕ Unit)
 | 0, _ => none
 | k + 1, v => laws_wholeTo_l1s a1 a0 k (laws_wholeTo_l1 a1 a0 k) v
def laws_wholeTo (k a0 : Nat) (a1 : List Nat) : Option (Bool) :=
 (laws_wholeTo_l1 a1 a0 k 0) >>= fun y1 => match y1 with
  | (.inl v4) =>
   (some false)
  | (.inr v5) =>
   (some true)

theorem laws_wholeTo_sim {k : Nat}  (a0 : Nat) (a1 : List Nat) {out : Bool} (hp : laws_wholeTo k a0 a1 = some out) : Sx.Fn Try.prog 18 [(Vg a0), (Sl Kf a1)] [] (fun w : Unit => (Vb out)) (fun w => []) := by
 unfold laws_wholeTo at hp
 refine fn_of Try.func18 rfl Try.ntmps18 rfl fun E hM => ?_
 refine cr fun K1 hK1 => ?_
 refine sa rfl ?_
 refine nk hK1 ?_
 refine cx_seq' fun K2 hK2 => ?_
 refine cr fun K3 hK3 => ?_
 refine sm rfl ?_
 refine sk rfl Try.underlying55 ?_
 refine sm rfl ?_
 refine nk hK3 ?_
 refine cx_block' ?_
 obtain ⟨y1, hy1, hp⟩ := bind_some hp
 refine cx_loopg' (F := laws_wholeTo_l1 a1 a0) (G := fun k R v => laws_wholeTo_l1s a1 a0 k R v) (x := 0) (gh := ()) (fun (v2 : Int) (w2 : Unit) => (⟨24, [], [(0, (Vg a0)), (7, (Sl Kf a1)), (8, (Vi (a1.length : Int))), (9, (Vi v2))], []⟩ : St)) (fun (y : Unit ⊕ Unit) => match y with | (.inl v4) => Zg E Exit.ret (fun (w4 : Unit) => (⟨24, [], [(4, (Vb false))], []⟩ : St)) | (.inr v5) => Zg E (Exit.exit 0) (fun (w5 : Unit) => (⟨24, [], [], []⟩ : St))) (fun _ => rfl) (fun _ _ => rfl) ?_ hy1 (tx_to' rfl [] (u4 rfl rfl rfl rfl) (by decide) pn) ?_
 ·clear hp hy1
  clear y1
  intro k rec1 KY1 ih1
  rintro x3 ⟨⟩ y1 hp
  replace hp : laws_wholeTo_l1s a1 a0 k rec1 x3 = some y1 := hp
  unfold laws_wholeTo_l1s at hp
  refine cr fun K11 hK11 => ?_
  refine sb rfl rfl eg_int ru_lss ?_
  refine nk hK11 ?_
  refine cx_seq' fun K12 hK12 => ?_
  refine cx_cond' rfl (fun h5 => ?_) (fun h5 => ?_)
  ·replace hp := (br_t h5).symm.trans hp
   refine cx_skip' ?_
   show TX E K12 _
   refine tx_k' hK12 ?_
   refine cx_seq' fun K13 hK13 => ?_
   refine cx_block' ?_
   refine cr fun K14 hK14 => ?_
   obtain ⟨r11, hr11, hp⟩ := bind_some hp
   refine s0 (rd_at' (K := Kf) rfl rfl hr11 Try.underlying55 info22) ?_
   refine s0 (rd_load_pt' rfl rfl flat22) ?_
   refine sa rfl ?_
   refine nk hK14 ?_
   refine cr fun K15 hK15 => ?_
   iterate 2 refine sm rfl ?_
   obtain ⟨r15, hr15, hp⟩ := bind_some hp
   refine so (oz (ent_fn' Try.func43 isn43 rfl rfl) (math_Trunc_sim _ hr15)) fun ⟨⟩ => ?_
   refine s0 (rd_fcmp' (fl_v rfl) (fl_f rfl) rfl) ?_
   refine sm rfl ?_
   refine sx_cutn' 5 (fun (v3 : Bool) => (⟨24, [], [(0, (Vg a0)), (7, (Sl Kf a1)), (8, (Vi (a1.length : Int))), (9, (Vi x3)), (22, (Vb v3))], []⟩ : St)) (fun (v3 : Bool) => laws_wholeTo_j2 k rec1 x3 v3 = some y1) ?_ ?_
   ·rintro x2 hp
    replace hp : laws_wholeTo_j2 k rec1 x3 x2 = some y1 := hp
    unfold laws_wholeTo_j2 at hp
    refine nk hK15 ?_
    refine cx_cond' rfl (fun h7 => ?_) (fun h7 => ?_)
    ·replace hp := (br_t h7).symm.trans hp
     refine cr fun K17 hK17 => ?_
     refine sa rfl ?_
     refine nk hK17 ?_
     refine cx_retc' ?_
     replace hp := sj hp
     subst hp
     show TX E (Zg E Exit.ret _ Exit.ret) _
     exact tx_zend' () rfl [] (uc rfl un) (by decide) pn
    replace hp := (br_f h7).symm.trans hp
    refine cx_skip' ?_
    show TX E K13 _
    refine tx_k' hK13 ?_
    refine cx_region' ?_
    refine sb rfl rfl eg_int ru_add ?_
    refine sm rfl ?_
    refine sx_nil' ?_
    show TX E (KY1 _) _
    exact tk [] (u4 rfl rfl rfl rfl) pn (ih1 (iadd .i64 x3 1) () _ hp)
   intro K16 hK16
   rcases br_cases hp with ⟨h6, hp⟩ | ⟨h6, hp⟩
   ·refine sx_skip' rfl rfl (wt_is' (wt_guard' rfl rfl rfl) (beq_tf h6)) ?_
    iterate 3 refine sx_skip' rfl rfl (wt_is' (wt_guard' rfl rfl rfl) (beq_tf h6)) ?_
    refine s0 (rd_pick_true' rfl h6 rfl) ?_
    refine sx_nil' ?_
    show TX E K16 _
    exact tk [] (u5 rfl rfl rfl rfl rfl) pn (hK16 true hp)
   refine sx_rd' (rd_move' rfl) rfl rfl (wt_is' (wt_guard' rfl rfl rfl) (beq_ff h6)) ?_
   obtain ⟨r19, hr19, hp⟩ := bind_some hp
   refine sx_ox' (oz (ent_fn' Try.func15 isn15 rfl rfl) (math_Abs_sim _ hr19)) (wt_is' (wt_guard' rfl rfl rfl) (beq_ff h6)) fun ⟨⟩ => ?_
   refine sx_rd' (rd_move' rfl) rfl rfl (wt_is' (wt_guard' rfl rfl rfl) (beq_ff h6)) ?_
   refine sx_rd' (rd_bin' rfl rfl eg_flt ru_fgt) rfl rfl (wt_is' (wt_guard' rfl rfl rfl) (beq_ff h6)) ?_
   refine s0 (rd_pick_false' rfl h6 rfl) ?_
   refine sx_nil' ?_
   show TX E K16 _
   exact tk [] (u5 rfl rfl rfl rfl rfl) pn (hK16 (fgt r19 a0) hp)
  replace hp := (br_f h5).symm.trans hp
  refine cx_exit' ?_
  replace hp := sj hp
  subst hp
  show TX E (Zg E (Exit.exit 0) _ (Exit.exit 0)) _
  exact tx_zend' () rfl [] un (by decide) pn
 rcases y1 with v4 | v5
 ·dsimp only at hp
  refine zg_out fun w4 => ?_
  replace hp := sj hp
  subst hp
  refine tk (L' := [(4, (Vb false))]) (H' := []) [] (uc rfl un) pn ?_
  exact tx_ret1' Try.results18 rfl () (rv_tmp' rfl) lr
 dsimp only at hp
 refine zg_out fun w5 => ?_
 show TX E K2 _
 refine tx_k' hK2 ?_
 refine cr fun K18 hK18 => ?_
 refine sa rfl ?_
 refine nk hK18 ?_
 refine cx_retc' ?_
 replace hp := sj hp
 subst hp
 refine tk (L' := [(4, (Vb true))]) (H' := []) [] (uc rfl un) pn ?_
 exact tx_ret1' Try.results18 rfl () (rv_tmp' rfl) lr

abbrev C0 (x0 : Bool) (x1 : _) (x2 : Int) (x3 : Bool) (x4 : _) (x5 : Int) (x6 : Bool) (x7 : _) (x8 : Int) := ([(Vb x0), (Sl (Ki .u32) x1), (Vi x2), (Vb x3), (Sl (Ki .u32) x4), (Vi x5), (Vb x6), (Sl (Ki .u32) x7), (Vi x8)] : List SV)
abbrev C1 (x0 : Bool) (x2 : Int) := ([(Vb x0), Vn, (Vi x2)] : List SV)
abbrev C2 (x0 : Bool) (x1 : _) (x2 : Int) := ([(Vb x0), (Sl (Ki .u32) x1), (Vi x2)] : List SV)
abbrev C3 (x0 : Bool) (x2 : Int) (x3 : Bool) (x5 : Int) (x6 : Bool) (x8 : Int) := ([(Vb x0), Vn, (Vi x2), (Vb x3), Vn, (Vi x5), (Vb x6), Vn, (Vi x8)] : List SV)
abbrev C4 (x0 : Bool) (x1 : _) (x2 : Int) (x3 : Bool) (x4 : _) (x5 : Int) := ([(Vb x0), (Sl (Ki .u32) x1), (Vi x2), (Vb x3), (Sl (Ki .u32) x4), (Vi x5)] : List SV)
abbrev C5 (x0 : Bool) (x2 : Int) (x3 : Bool) (x5 : Int) := ([(Vb x0), Vn, (Vi x2), (Vb x3), Vn, (Vi x5)] : List SV)
abbrev C6 (x0 : Bool) (x1 : _) := ([(Vb x0), (Sl (Ki .u32) x1)] : List SV)
abbrev C7 (x0 : Nat) (x1 : Nat) (x2 : Nat) := ([(Vg x0), (Vg x1), (Vg x2)] : List SV)
def laws_spaceTo_l1s (a1 : List (Nat × Nat × Nat)) (a0 k : Nat) (rec1 : Int → Option (Unit ⊕ Unit)) (x1 : Int) : Option (Unit ⊕ Unit) :=
 br (decide (x1 < (a1.length : Int)))
  ((idx a1 x1) >>= fun r11 =>
  (laws_wholeTo k a0 ([r11.1, r11.2.1, r11.2.2])) >>= fun r21 =>
  br (!r21)
   (some (.inl ()))
   (rec1 (iadd .i64 x1 1)))
  (some (.inr ()))
def laws_spaceTo_l1 (a1 : List (Nat × Nat × Nat)) (a0 : Nat) : Nat → Int → Option (Unit ⊕ Unit)
 | 0, _ => none
 | k + 1, v => laws_spaceTo_l1s a1 a0 k (laws_spaceTo_l1 a1 a0 k) v
def laws_spaceTo (k a0 : Nat) (a1 : List (Nat × Nat × Nat)) : Option (Bool) :=
 (laws_spaceTo_l1 a1 a0 k 0) >>= fun y1 => match y1 with
  | (.inl v2) =>
   (some false)
  | (.inr v3) =>
   (some true)

theorem laws_spaceTo_sim {k : Nat}  (a0 : Nat) (a1 : List (Nat × Nat × Nat)) {out : Bool} (hp : laws_spaceTo k a0 a1 = some out) : Sx.Fn Try.prog 5 [(Vg a0), (Sl KT24 a1)] [] (fun w : Unit => (Vb out)) (fun w => []) := by
 unfold laws_spaceTo at hp
 refine fn_of Try.func5 rfl Try.ntmps5 rfl fun E hM => ?_
 refine cr fun K1 hK1 => ?_
 refine sa rfl ?_
 refine nk hK1 ?_
 refine cx_seq' fun K2 hK2 => ?_
 refine cr fun K3 hK3 => ?_
 refine sm rfl ?_
 refine sk rfl Try.underlying52 ?_
 refine sm rfl ?_
 refine nk hK3 ?_
 refine cx_block' ?_
 obtain ⟨y1, hy1, hp⟩ := bind_some hp
 refine cx_loopg' (F := laws_spaceTo_l1 a1 a0) (G := fun k R v => laws_spaceTo_l1s a1 a0 k R v) (x := 0) (gh := ()) (fun (v1 : Int) (w1 : Unit) => (⟨24, [], [(0, (Vg a0)), (7, (Sl KT24 a1)), (8, (Vi (a1.length : Int))), (9, (Vi v1))], []⟩ : St)) (fun (y : Unit ⊕ Unit) => match y with | (.inl v2) => Zg E Exit.ret (fun (w2 : Unit) => (⟨24, [], [(4, (Vb false))], []⟩ : St)) | (.inr v3) => Zg E (Exit.exit 0) (fun (w3 : Unit) => (⟨24, [], [], []⟩ : St))) (fun _ => rfl) (fun _ _ => rfl) ?_ hy1 (tx_to' rfl [] (u4 rfl rfl rfl rfl) (by decide) pn) ?_
 ·clear hp hy1
  clear y1
  intro k rec1 KY1 ih1
  rintro x1 ⟨⟩ y1 hp
  replace hp : laws_spaceTo_l1s a1 a0 k rec1 x1 = some y1 := hp
  unfold laws_spaceTo_l1s at hp
  refine cr fun K10 hK10 => ?_
  refine sb rfl rfl eg_int ru_lss ?_
  refine nk hK10 ?_
  refine cx_seq' fun K11 hK11 => ?_
  refine cx_cond' rfl (fun h4 => ?_) (fun h4 => ?_)
  ·replace hp := (br_t h4).symm.trans hp
   refine cx_skip' ?_
   show TX E K11 _
   refine tx_k' hK11 ?_
   refine cx_seq' fun K12 hK12 => ?_
   refine cx_block' ?_
   refine cr fun K13 hK13 => ?_
   obtain ⟨r11, hr11, hp⟩ := bind_some hp
   refine s0 (rd_at' (K := KT24) rfl rfl hr11 Try.underlying52 info24) ?_
   refine s0 (rd_load_pt_agg' (nn := 3) rfl rfl agg24 (l' := (C7 r11.1 r11.2.1 r11.2.2)) rfl) ?_
   refine so (ox_alloc' info24 rfl rfl rfl rfl (l := (C7 0 0 0)) rfl) fun q6 => ?_
   refine so (ox_store' (i := 0) (o := 0) rfl rfl (lv_ag _) (ar rfl rfl rfl rfl) rfl info24 rfl (H' := [(Ur q6 24 (C7 r11.1 r11.2.1 r11.2.2))]) rfl) fun _ => ?_
   refine nk hK13 ?_
   refine cr fun K14 hK14 => ?_
   refine sm rfl ?_
   refine sf rfl Try.underlying24 rfl info22 rfl ?_
   refine sl (i := 0) (o := 0) rfl (ar rfl rfl rfl rfl) rfl flat22 ?_
   refine sg (off := 1) rfl Try.underlying24 rfl info22 rfl ?_
   refine sl (i := 0) (o := 1) rfl (ar rfl rfl rfl rfl) rfl flat22 ?_
   refine sg (off := 2) rfl Try.underlying24 rfl info22 rfl ?_
   refine sl (i := 0) (o := 2) rfl (ar rfl rfl rfl rfl) rfl flat22 ?_
   refine so (ox_rowlit' (K := Kf) (xs := [r11.1, r11.2.1, r11.2.2]) (qs := [(0, [(Vg r11.1)]), (1, [(Vg r11.2.1)]), (2, [(Vg r11.2.2)])]) ⟨rfl, ⟨_, rfl, (lv_vl rfl rfl)⟩, ⟨rfl, ⟨_, rfl, (lv_vl rfl rfl)⟩, ⟨rfl, ⟨_, rfl, (lv_vl rfl rfl)⟩, trivial⟩⟩⟩ Try.underlying55 info22 rfl rfl rfl rfl rfl (by kernel_rfl) rfl rfl rfl) fun g20 => ?_
   obtain ⟨r21, hr21, hp⟩ := bind_some hp
   refine so (ox_brw' (frz_row 0 [(20, (Vw g20), (Sl Kf ([r11.1, r11.2.1, r11.2.2])))] (K := Kf) (xs := [r11.1, r11.2.1, r11.2.2]) (by decide) rfl ⟨⟨rfl, frz_it⟩, trivial⟩ (H' := [(Ur q6 24 (C7 r11.1 r11.2.1 r11.2.2))]) frzH_refl) (ent_fn' Try.func18 isn18 rfl rfl) (laws_wholeTo_sim _ _ hr21 : Sx.Fn Try.prog 18 [(Vg a0), (Sl Kf ([r11.1, r11.2.1, r11.2.2]))] [] (fun x : Unit => (Vb r21)) (fun x => [])) pu_vl rfl rfl) fun ⟨⟩ => ?_
   refine s0 (rd_un' rfl ru_not) ?_
   refine nk hK14 ?_
   refine cx_cond' rfl (fun h5 => ?_) (fun h5 => ?_)
   ·replace hp := (br_t h5).symm.trans hp
    refine cr fun K15 hK15 => ?_
    refine sa rfl ?_
    refine nk hK15 ?_
    refine cx_retc' ?_
    replace hp := sj hp
    subst hp
    show TX E (Zg E Exit.ret _ Exit.ret) _
    exact tx_zend' () rfl [] (uc rfl un) (by decide) pn
   replace hp := (br_f h5).symm.trans hp
   refine cx_skip' ?_
   show TX E K12 _
   refine tx_k' hK12 ?_
   refine cx_region' ?_
   refine sb rfl rfl eg_int ru_add ?_
   refine sm rfl ?_
   refine sx_nil' ?_
   show TX E (KY1 _) _
   exact tk [] (u4 rfl rfl rfl rfl) pn (ih1 (iadd .i64 x1 1) () _ hp)
  replace hp := (br_f h4).symm.trans hp
  refine cx_exit' ?_
  replace hp := sj hp
  subst hp
  show TX E (Zg E (Exit.exit 0) _ (Exit.exit 0)) _
  exact tx_zend' () rfl [] un (by decide) pn
 rcases y1 with v2 | v3
 ·dsimp only at hp
  refine zg_out fun w2 => ?_
  replace hp := sj hp
  subst hp
  refine tk (L' := [(4, (Vb false))]) (H' := []) [] (uc rfl un) pn ?_
  exact tx_ret1' Try.results5 rfl () (rv_tmp' rfl) lr
 dsimp only at hp
 refine zg_out fun w3 => ?_
 show TX E K2 _
 refine tx_k' hK2 ?_
 refine cr fun K16 hK16 => ?_
 refine sa rfl ?_
 refine nk hK16 ?_
 refine cx_retc' ?_
 replace hp := sj hp
 subst hp
 refine tk (L' := [(4, (Vb true))]) (H' := []) [] (uc rfl un) pn ?_
 exact tx_ret1' Try.results5 rfl () (rv_tmp' rfl) lr

def impl_coord3 (k a0_0 : Nat) (a0_1 a0_2 : Nat) : Option ((List Nat)) :=
 some ([a0_0, a0_1, a0_2])

theorem impl_coord3_sim {k : Nat}  (a0_0 a0_1 a0_2 : Nat) {out : (List Nat)} (hp : impl_coord3 k a0_0 a0_1 a0_2 = some out) : Sx.Fn Try.prog 21 [(Ag (C7 a0_0 a0_1 a0_2))] [] (fun w : Unit => (Sl Kf out)) (fun w => []) := by
 unfold impl_coord3 at hp
 refine fn_of Try.func21 rfl Try.ntmps21 rfl fun E hM => ?_
 refine cr fun K1 hK1 => ?_
 refine so (ox_box' rfl (lv_ag _) rfl rfl) fun q1 => ?_
 refine sa rfl ?_
 refine nk hK1 ?_
 refine cr fun K2 hK2 => ?_
 refine sf rfl Try.underlying24 rfl info22 rfl ?_
 refine sl (i := 0) (o := 0) rfl (ar rfl rfl rfl rfl) rfl flat22 ?_
 refine sg (off := 1) rfl Try.underlying24 rfl info22 rfl ?_
 refine sl (i := 0) (o := 1) rfl (ar rfl rfl rfl rfl) rfl flat22 ?_
 refine sg (off := 2) rfl Try.underlying24 rfl info22 rfl ?_
 refine sl (i := 0) (o := 2) rfl (ar rfl rfl rfl rfl) rfl flat22 ?_
 refine so (ox_rowlit' (K := Kf) (xs := [a0_0, a0_1, a0_2]) (qs := [(0, [(Vg a0_0)]), (1, [(Vg a0_1)]), (2, [(Vg a0_2)])]) ⟨rfl, ⟨_, rfl, (lv_vl rfl rfl)⟩, ⟨rfl, ⟨_, rfl, (lv_vl rfl rfl)⟩, ⟨rfl, ⟨_, rfl, (lv_vl rfl rfl)⟩, trivial⟩⟩⟩ Try.underlying56 info22 rfl rfl rfl rfl rfl (by kernel_rfl) rfl rfl rfl) fun g9 => ?_
 refine sa rfl ?_
 refine nk hK2 ?_
 refine cx_retc' ?_
 replace hp := sj hp
 subst hp
 refine tx_fz' (frz_row 0 [(2, (Vw g9), (Sl Kf ([a0_0, a0_1, a0_2]))), (9, (Vw g9), (Sl Kf ([a0_0, a0_1, a0_2])))] (K := Kf) (xs := [a0_0, a0_1, a0_2]) (by decide) rfl ⟨⟨rfl, frz_it⟩, ⟨rfl, frz_it⟩, trivial⟩ (H' := [(Ur q1 24 (C7 a0_0 a0_1 a0_2))]) frzH_refl) ?_
 refine tk (L' := [(2, (Sl Kf ([a0_0, a0_1, a0_2])))]) (H' := []) [] (uc rfl un) pn ?_
 exact tx_ret1' Try.results21 rfl () (rv_tmp' rfl) lr

def math_IsNaN (k a0 : Nat) : Option (Bool) :=
 some (fne a0 a0)

theorem math_IsNaN_sim {k : Nat}  (a0 : Nat) {out : Bool} (hp : math_IsNaN k a0 = some out) : Sx.Fn Try.prog 47 [(Vg a0)] [] (fun w : Unit => (Vb out)) (fun w => []) := by
 unfold math_IsNaN at hp
 refine fn_of Try.func47 rfl Try.ntmps47 rfl fun E hM => ?_
 refine cr fun K1 hK1 => ?_
 refine sa rfl ?_
 refine nk hK1 ?_
 refine cr fun K2 hK2 => ?_
 iterate 2 refine sm rfl ?_
 refine sb rfl rfl eg_flt ru_fne ?_
 refine sa rfl ?_
 refine nk hK2 ?_
 refine cx_retc' ?_
 replace hp := sj hp
 subst hp
 refine tk (L' := [(2, (Vb (fne a0 a0)))]) (H' := []) [] (uc rfl un) pn ?_
 exact tx_ret1' Try.results47 rfl () (rv_tmp' rfl) lr

def xyz_Equals_j4 (k : Nat) (x4 : Bool) : Option (Bool) :=
 some x4
def xyz_Equals_j3 (k : Nat) (x3 : Bool) : Option (Bool) :=
 xyz_Equals_j4 k x3
def xyz_Equals_j2 (k : Nat) (x2 : Bool) : Option (Bool) :=
 xyz_Equals_j3 k x2
def xyz_Equals_j1 (k : Nat) (a0 a1 : List Nat) (x1 : Bool) : Option (Bool) :=
 br x1
  ((idx a0 2) >>= fun r23 =>
  (idx a1 2) >>= fun r26 =>
  br (feq r23 r26)
   (xyz_Equals_j3 k true)
   ((idx a0 2) >>= fun r31 =>
   (math_IsNaN k r31) >>= fun r33 =>
   br r33
    ((idx a1 2) >>= fun r36 =>
    (math_IsNaN k r36) >>= fun r38 =>
    xyz_Equals_j2 k r38)
    (xyz_Equals_j2 k false)))
  (xyz_Equals_j4 k false)
def xyz_Equals (k : Nat) (a0 a1 : List Nat) : Option (Bool) :=
 (idx a0 0) >>= fun r6 =>
 (idx a1 0) >>= fun r9 =>
 br (feq r6 r9)
  ((idx a0 1) >>= fun r14 =>
  (idx a1 1) >>= fun r17 =>
  xyz_Equals_j1 k a0 a1 (feq r14 r17))
  (xyz_Equals_j1 k a0 a1 false)

theorem xyz_Equals_sim {k : Nat}  (a0 a1 : List Nat) {out : Bool} (hp : xyz_Equals k a0 a1 = some out) : Sx.Fn Try.prog 44 [(Sl Kf a0), (Sl Kf a1)] [] (fun w : Unit => (Vb out)) (fun w => []) := by
 unfold xyz_Equals at hp
 refine fn_of Try.func44 rfl Try.ntmps44 rfl fun E hM => ?_
 refine cr fun K1 hK1 => ?_
 refine sa rfl ?_
 refine nk hK1 ?_
 refine cx_seq' fun K2 hK2 => ?_
 refine cx_plan' [] [] [(0, 1), (1, 1), (2, 1), (3, 1), (4, 1), (5, 1), (6, 1), (7, 1), (8, 1), (9, 1), (10, 1), (11, 1), (12, 1), (13, 1), (14, 1), (15, 1), (16, 1), (17, 1), (18, 1), (19, 1), (20, 1), (21, 1), (22, 1), (23, 1), (24, 1), (25, 1), (26, 1), (27, 1), (28, 0), (29, 1), (30, 1), (31, 1), (32, 1), (33, 0), (34, 1), (35, 1), (36, 1), (37, 1)] mixed (by kernel_rfl) ?_
 refine pd rfl (rd_move' rfl) ?_
 obtain ⟨r6, hr6, hp⟩ := bind_some hp
 refine pd rfl (rd_at' (K := Kf) rfl rfl hr6 Try.underlying56 info22) ?_
 refine pd rfl (rd_load_pt' rfl rfl flat22) ?_
 refine pd rfl (rd_move' rfl) ?_
 obtain ⟨r9, hr9, hp⟩ := bind_some hp
 refine pd rfl (rd_at' (K := Kf) rfl rfl hr9 Try.underlying56 info22) ?_
 refine pd rfl (rd_load_pt' rfl rfl flat22) ?_
 refine pd rfl (rd_bin' rfl rfl eg_flt ru_feq) ?_
 refine pd rfl (rd_move' rfl) ?_
 refine px_cutn' 8 (fun (v1 : Bool) => (⟨42, [], [(0, (Sl Kf a0)), (1, (Sl Kf a1)), (20, (Vb v1))], []⟩ : St)) (fun (v1 : Bool) => xyz_Equals_j1 k a0 a1 v1 = some out) ?_ ?_
 ·rintro x1 hp
  replace hp : xyz_Equals_j1 k a0 a1 x1 = some out := hp
  unfold xyz_Equals_j1 at hp
  refine pd rfl (rd_move' rfl) ?_
  refine px_cutn' 20 (fun (v4 : Bool) => (⟨42, [], [(41, (Vb v4))], []⟩ : St)) (fun (v4 : Bool) => xyz_Equals_j4 k v4 = some out) ?_ ?_
  ·rintro x4 hp
   replace hp : xyz_Equals_j4 k x4 = some out := hp
   unfold xyz_Equals_j4 at hp
   refine pd rfl (rd_assign' rfl) ?_
   refine px_nil' ?_
   show TX E K2 _
   refine tx_k' hK2 ?_
   refine cx_retc' ?_
   replace hp := sj hp
   subst hp
   refine tk (L' := [(4, (Vb x4))]) (H' := []) [] (uc rfl un) pn ?_
   exact tx_ret1' Try.results44 rfl () (rv_tmp' rfl) lr
  intro K6 hK6
  rcases br_cases hp with ⟨h2, hp⟩ | ⟨h2, hp⟩
  ·refine px_rd' rfl (rd_move' rfl) rfl rfl (wt_is' (wt_guard' rfl rfl rfl) (beq_tt h2)) ?_
   obtain ⟨r23, hr23, hp⟩ := bind_some hp
   refine px_rd' rfl (rd_at' (K := Kf) rfl rfl hr23 Try.underlying56 info22) rfl rfl (wt_is' (wt_guard' rfl rfl rfl) (beq_tt h2)) ?_
   refine px_rd' rfl (rd_load_pt' rfl rfl flat22) rfl rfl (wt_is' (wt_guard' rfl rfl rfl) (beq_tt h2)) ?_
   refine px_rd' rfl (rd_move' rfl) rfl rfl (wt_is' (wt_guard' rfl rfl rfl) (beq_tt h2)) ?_
   obtain ⟨r26, hr26, hp⟩ := bind_some hp
   refine px_rd' rfl (rd_at' (K := Kf) rfl rfl hr26 Try.underlying56 info22) rfl rfl (wt_is' (wt_guard' rfl rfl rfl) (beq_tt h2)) ?_
   refine px_rd' rfl (rd_load_pt' rfl rfl flat22) rfl rfl (wt_is' (wt_guard' rfl rfl rfl) (beq_tt h2)) ?_
   refine px_rd' rfl (rd_bin' rfl rfl eg_flt ru_feq) rfl rfl (wt_is' (wt_guard' rfl rfl rfl) (beq_tt h2)) ?_
   refine px_rd' rfl (rd_move' rfl) rfl rfl (wt_is' (wt_guard' rfl rfl rfl) (beq_tt h2)) ?_
   refine px_cutn' 12 (fun (v3 : Bool) => (⟨42, [], [(41, (Vb v3))], []⟩ : St)) (fun (v3 : Bool) => xyz_Equals_j3 k v3 = some out) ?_ ?_
   ·rintro x3 hp
    replace hp : xyz_Equals_j3 k x3 = some out := hp
    unfold xyz_Equals_j3 at hp
    refine px_nil' ?_
    show TX E K6 _
    exact tk [] (uc rfl un) pn (hK6 x3 hp)
   intro K5 hK5
   rcases br_cases hp with ⟨h3, hp⟩ | ⟨h3, hp⟩
   ·refine px_skip' rfl rfl rfl (wt_is' (wt_guard' rfl rfl rfl) (beq_tf h3)) ?_
    iterate 2 refine px_skip' rfl rfl rfl (wt_is' (wt_guard' rfl rfl rfl) (beq_tf h3)) ?_
    refine px_oskip' rfl rfl rfl (wt_is' (wt_guard' rfl rfl rfl) (beq_tf h3)) ?_
    refine px_skip' rfl rfl rfl (wt_is' (wt_guard' rfl rfl rfl) (beq_tf h3)) ?_
    iterate 3 refine px_skip' rfl rfl rfl (wt_undef' rfl rfl rfl) ?_
    refine px_oskip' rfl rfl rfl (wt_undef' rfl rfl rfl) ?_
    refine px_skip' rfl rfl rfl (wt_is' (wt_guard' rfl rfl rfl) (beq_tf h3)) ?_
    refine px_rd' rfl (rd_pick_true' rfl h3 rfl) rfl rfl (wt_is' (wt_guard' rfl rfl rfl) (beq_tt h2)) ?_
    refine pd rfl (rd_pick_true' rfl h2 rfl) ?_
    refine px_nil' ?_
    show TX E K5 _
    exact tk [] (uc rfl un) pn (hK5 true hp)
   refine px_rd' rfl (rd_move' rfl) rfl rfl (wt_is' (wt_guard' rfl rfl rfl) (beq_ff h3)) ?_
   obtain ⟨r31, hr31, hp⟩ := bind_some hp
   refine px_rd' rfl (rd_at' (K := Kf) rfl rfl hr31 Try.underlying56 info22) rfl rfl (wt_is' (wt_guard' rfl rfl rfl) (beq_ff h3)) ?_
   refine px_rd' rfl (rd_load_pt' rfl rfl flat22) rfl rfl (wt_is' (wt_guard' rfl rfl rfl) (beq_ff h3)) ?_
   obtain ⟨r33, hr33, hp⟩ := bind_some hp
   refine px_ox' rfl (oz (ent_fn' Try.func47 isn47 rfl rfl) (math_IsNaN_sim _ hr33)) rfl bs_nil (wt_is' (wt_guard' rfl rfl rfl) (beq_ff h3)) fun ⟨⟩ => ?_
   refine px_rd' rfl (rd_move' rfl) rfl rfl (wt_is' (wt_guard' rfl rfl rfl) (beq_ff h3)) ?_
   refine px_cutn' 7 (fun (v2 : Bool) => (⟨42, [], [(41, (Vb v2))], []⟩ : St)) (fun (v2 : Bool) => xyz_Equals_j2 k v2 = some out) ?_ ?_
   ·rintro x2 hp
    replace hp : xyz_Equals_j2 k x2 = some out := hp
    unfold xyz_Equals_j2 at hp
    refine px_nil' ?_
    show TX E K5 _
    exact tk [] (uc rfl un) pn (hK5 x2 hp)
   intro K4 hK4
   rcases br_cases hp with ⟨h4, hp⟩ | ⟨h4, hp⟩
   ·refine px_rd' rfl (rd_move' rfl) rfl rfl (wt_is' (wt_guard' rfl rfl rfl) (beq_tt h4)) ?_
    obtain ⟨r36, hr36, hp⟩ := bind_some hp
    refine px_rd' rfl (rd_at' (K := Kf) rfl rfl hr36 Try.underlying56 info22) rfl rfl (wt_is' (wt_guard' rfl rfl rfl) (beq_tt h4)) ?_
    refine px_rd' rfl (rd_load_pt' rfl rfl flat22) rfl rfl (wt_is' (wt_guard' rfl rfl rfl) (beq_tt h4)) ?_
    obtain ⟨r38, hr38, hp⟩ := bind_some hp
    refine px_ox' rfl (oz (ent_fn' Try.func47 isn47 rfl rfl) (math_IsNaN_sim _ hr38)) rfl bs_nil (wt_is' (wt_guard' rfl rfl rfl) (beq_tt h4)) fun ⟨⟩ => ?_
    refine px_rd' rfl (rd_pick_true' rfl h4 rfl) rfl rfl (wt_is' (wt_guard' rfl rfl rfl) (beq_ff h3)) ?_
    refine px_rd' rfl (rd_pick_false' rfl h3 rfl) rfl rfl (wt_is' (wt_guard' rfl rfl rfl) (beq_tt h2)) ?_
    refine pd rfl (rd_pick_true' rfl h2 rfl) ?_
    refine px_nil' ?_
    show TX E K4 _
    exact tk [] (uc rfl un) pn (hK4 r38 hp)
   iterate 3 refine px_skip' rfl rfl rfl (wt_is' (wt_guard' rfl rfl rfl) (beq_ft h4)) ?_
   refine px_oskip' rfl rfl rfl (wt_is' (wt_guard' rfl rfl rfl) (beq_ft h4)) ?_
   refine px_rd' rfl (rd_pick_false' rfl h4 rfl) rfl rfl (wt_is' (wt_guard' rfl rfl rfl) (beq_ff h3)) ?_
   refine px_rd' rfl (rd_pick_false' rfl h3 rfl) rfl rfl (wt_is' (wt_guard' rfl rfl rfl) (beq_tt h2)) ?_
   refine pd rfl (rd_pick_true' rfl h2 rfl) ?_
   refine px_nil' ?_
   show TX E K4 _
   exact tk [] (uc rfl un) pn (hK4 false hp)
  iterate 8 refine px_skip' rfl rfl rfl (wt_is' (wt_guard' rfl rfl rfl) (beq_ft h2)) ?_
  iterate 3 refine px_skip' rfl rfl rfl (wt_undef' rfl rfl rfl) ?_
  refine px_oskip' rfl rfl rfl (wt_undef' rfl rfl rfl) ?_
  iterate 4 refine px_skip' rfl rfl rfl (wt_undef' rfl rfl rfl) ?_
  refine px_oskip' rfl rfl rfl (wt_undef' rfl rfl rfl) ?_
  refine px_skip' rfl rfl rfl (wt_undef' rfl rfl rfl) ?_
  refine px_skip' rfl rfl rfl (wt_is' (wt_guard' rfl rfl rfl) (beq_ft h2)) ?_
  refine pd rfl (rd_pick_false' rfl h2 rfl) ?_
  refine px_nil' ?_
  show TX E K6 _
  exact tk [] (uc rfl un) pn (hK6 false hp)
 intro K3 hK3
 rcases br_cases hp with ⟨h1, hp⟩ | ⟨h1, hp⟩
 ·refine px_rd' rfl (rd_move' rfl) rfl rfl (wt_is' (wt_guard' rfl rfl rfl) (beq_tt h1)) ?_
  obtain ⟨r14, hr14, hp⟩ := bind_some hp
  refine px_rd' rfl (rd_at' (K := Kf) rfl rfl hr14 Try.underlying56 info22) rfl rfl (wt_is' (wt_guard' rfl rfl rfl) (beq_tt h1)) ?_
  refine px_rd' rfl (rd_load_pt' rfl rfl flat22) rfl rfl (wt_is' (wt_guard' rfl rfl rfl) (beq_tt h1)) ?_
  refine px_rd' rfl (rd_move' rfl) rfl rfl (wt_is' (wt_guard' rfl rfl rfl) (beq_tt h1)) ?_
  obtain ⟨r17, hr17, hp⟩ := bind_some hp
  refine px_rd' rfl (rd_at' (K := Kf) rfl rfl hr17 Try.underlying56 info22) rfl rfl (wt_is' (wt_guard' rfl rfl rfl) (beq_tt h1)) ?_
  refine px_rd' rfl (rd_load_pt' rfl rfl flat22) rfl rfl (wt_is' (wt_guard' rfl rfl rfl) (beq_tt h1)) ?_
  refine px_rd' rfl (rd_bin' rfl rfl eg_flt ru_feq) rfl rfl (wt_is' (wt_guard' rfl rfl rfl) (beq_tt h1)) ?_
  refine pd rfl (rd_pick_true' rfl h1 rfl) ?_
  refine px_nil' ?_
  show TX E K3 _
  exact tk [] (u3 rfl rfl rfl) pn (hK3 (feq r14 r17) hp)
 iterate 7 refine px_skip' rfl rfl rfl (wt_is' (wt_guard' rfl rfl rfl) (beq_ft h1)) ?_
 refine pd rfl (rd_pick_false' rfl h1 rfl) ?_
 refine px_nil' ?_
 show TX E K3 _
 exact tk [] (u3 rfl rfl rfl) pn (hK3 false hp)

def math_Sqrt (k a0 : Nat) : Option (Nat) :=
 (some (gsqrt a0)) >>= fun r4 =>
 some r4

theorem math_Sqrt_sim {k : Nat}  (a0 : Nat) {out : Nat} (hp : math_Sqrt k a0 = some out) : Sx.Fn Try.prog 22 [(Vg a0)] [] (fun w : Unit => (Fl out)) (fun w => []) := by
 unfold math_Sqrt at hp
 refine fn_of Try.func22 rfl Try.ntmps22 rfl fun E hM => ?_
 refine cr fun K1 hK1 => ?_
 refine sa rfl ?_
 refine nk hK1 ?_
 refine cr fun K2 hK2 => ?_
 refine sm rfl ?_
 obtain ⟨r4, hr4, hp⟩ := bind_some hp
 refine so (ox_extf' rfl (fl_v rfl) Try.func49 (extf49 (Option.some.inj hr4)) rfl rfl) fun _ => ?_
 refine sa rfl ?_
 refine nk hK2 ?_
 refine cx_retc' ?_
 replace hp := sj hp
 subst hp
 refine tk (L' := [(2, (Fl r4))]) (H' := []) [] (uc rfl un) pn ?_
 exact tx_ret1' Try.results22 rfl () (rv_tmp' rfl) lr

def inner_Distance2D (k : Nat) (a0 a1 : List Nat) : Option (Nat) :=
 (idx a0 0) >>= fun r8 =>
 (idx a1 0) >>= fun r11 =>
 (fsub r8 r11) >>= fun r13 =>
 (idx a0 1) >>= fun r15 =>
 (idx a1 1) >>= fun r18 =>
 (fsub r15 r18) >>= fun r20 =>
 (some (gmul r13 r13)) >>= fun r23 =>
 (some (gmul r20 r20)) >>= fun r26 =>
 (some (gadd r23 r26)) >>= fun r27 =>
 (num r27) >>= fun u1 =>
 (math_Sqrt k r27) >>= fun r28 =>
 some r28

theorem inner_Distance2D_sim {k : Nat}  (a0 a1 : List Nat) {out : Nat} (hp : inner_Distance2D k a0 a1 = some out) : Sx.Fn Try.prog 85 [(Sl Kf a0), (Sl Kf a1)] [] (fun w : Unit => (Fl out)) (fun w => []) := by
 unfold inner_Distance2D at hp
 refine fn_of Try.func85 rfl Try.ntmps85 rfl fun E hM => ?_
 refine cr fun K1 hK1 => ?_
 refine sa rfl ?_
 refine nk hK1 ?_
 refine cx_seq' fun K2 hK2 => ?_
 refine cx_draw' mixed (by kernel_rfl) ?_
 refine qd (rd_move' rfl) ?_
 obtain ⟨r8, hr8, hp⟩ := bind_some hp
 refine qd (rd_at' (K := Kf) rfl rfl hr8 Try.underlying56 info22) ?_
 refine qd (rd_load_pt' rfl rfl flat22) ?_
 refine qd (rd_move' rfl) ?_
 obtain ⟨r11, hr11, hp⟩ := bind_some hp
 refine qd (rd_at' (K := Kf) rfl rfl hr11 Try.underlying56 info22) ?_
 refine qd (rd_load_pt' rfl rfl flat22) ?_
 obtain ⟨r13, hr13, hp⟩ := bind_some hp
 refine qd (rd_bin' rfl rfl eg_flt (ru_fsub hr13)) ?_
 refine qd (rd_assign' rfl) ?_
 refine qx_nil' ?_
 show TX E K2 _
 refine tx_k' hK2 ?_
 refine cx_seq' fun K3 hK3 => ?_
 refine cx_draw' mixed (by kernel_rfl) ?_
 refine qd (rd_move' rfl) ?_
 obtain ⟨r15, hr15, hp⟩ := bind_some hp
 refine qd (rd_at' (K := Kf) rfl rfl hr15 Try.underlying56 info22) ?_
 refine qd (rd_load_pt' rfl rfl flat22) ?_
 refine qd (rd_move' rfl) ?_
 obtain ⟨r18, hr18, hp⟩ := bind_some hp
 refine qd (rd_at' (K := Kf) rfl rfl hr18 Try.underlying56 info22) ?_
 refine qd (rd_load_pt' rfl rfl flat22) ?_
 obtain ⟨r20, hr20, hp⟩ := bind_some hp
 refine qd (rd_bin' rfl rfl eg_flt (ru_fsub hr20)) ?_
 refine qd (rd_assign' rfl) ?_
 refine qx_nil' ?_
 show TX E K3 _
 refine tx_k' hK3 ?_
 refine cr fun K4 hK4 => ?_
 iterate 2 refine sm rfl ?_
 obtain ⟨r23, hr23, hp⟩ := bind_some hp
 refine so (ox_fop' (.inr (.inr (.inl rfl))) (fl_v rfl) (fl_v rfl) (Option.some.inj hr23) rfl rfl) fun _ => ?_
 iterate 2 refine sm rfl ?_
 obtain ⟨r26, hr26, hp⟩ := bind_some hp
 refine so (ox_fop' (.inr (.inr (.inl rfl))) (fl_v rfl) (fl_v rfl) (Option.some.inj hr26) rfl rfl) fun _ => ?_
 obtain ⟨r27, hr27, hp⟩ := bind_some hp
 refine so (ox_fop' (.inl rfl) (fl_f rfl) (fl_f rfl) (Option.some.inj hr27) rfl rfl) fun _ => ?_
 obtain ⟨u1, hu1, hp⟩ := bind_some hp
 refine tx_slot' 27 (y := (Vg r27)) rfl (imp_num (num_some hu1).2) ?_
 obtain ⟨r28, hr28, hp⟩ := bind_some hp
 refine so (oz (ent_fn' Try.func22 isn22 rfl rfl) (math_Sqrt_sim _ hr28)) fun ⟨⟩ => ?_
 refine sa rfl ?_
 refine nk hK4 ?_
 refine cx_retc' ?_
 replace hp := sj hp
 subst hp
 refine tk (L' := [(4, (Fl r28))]) (H' := []) [] (uc rfl un) pn ?_
 exact tx_ret1' Try.results85 rfl () (rv_tmp' rfl) lr

def xy_Distance (k : Nat) (a0 a1 : List Nat) : Option (Nat) :=
 (inner_Distance2D k a0 a1) >>= fun r7 =>
 some r7

theorem xy_Distance_sim {k : Nat}  (a0 a1 : List Nat) {out : Nat} (hp : xy_Distance k a0 a1 = some out) : Sx.Fn Try.prog 71 [(Sl Kf a0), (Sl Kf a1)] [] (fun w : Unit => (Fl out)) (fun w => []) := by
 unfold xy_Distance at hp
 refine fn_of Try.func71 rfl Try.ntmps71 rfl fun E hM => ?_
 refine cr fun K1 hK1 => ?_
 refine sa rfl ?_
 refine nk hK1 ?_
 refine cr fun K2 hK2 => ?_
 iterate 2 refine sm rfl ?_
 obtain ⟨r7, hr7, hp⟩ := bind_some hp
 refine so (oz (ent_fn' Try.func85 isn85 rfl rfl) (inner_Distance2D_sim _ _ hr7)) fun ⟨⟩ => ?_
 refine sa rfl ?_
 refine nk hK2 ?_
 refine cx_retc' ?_
 replace hp := sj hp
 subst hp
 refine tk (L' := [(4, (Fl r7))]) (H' := []) [] (uc rfl un) pn ?_
 exact tx_ret1' Try.results71 rfl () (rv_tmp' rfl) lr

def xyz_Distance_j1 (k : Nat) (a0 a1 : List Nat) (x1 : Bool) : Option (Nat) :=
 br x1
  ((xy_Distance k a0 a1) >>= fun r20 =>
  some r20)
  ((idx a0 0) >>= fun r22 =>
  (idx a1 0) >>= fun r25 =>
  (fsub r22 r25) >>= fun r27 =>
  (idx a0 1) >>= fun r29 =>
  (idx a1 1) >>= fun r32 =>
  (fsub r29 r32) >>= fun r34 =>
  (idx a0 2) >>= fun r36 =>
  (idx a1 2) >>= fun r39 =>
  (fsub r36 r39) >>= fun r41 =>
  (some (gmul r27 r27)) >>= fun r44 =>
  (some (gmul r34 r34)) >>= fun r47 =>
  (some (gadd r44 r47)) >>= fun r48 =>
  (some (gmul r41 r41)) >>= fun r51 =>
  (some (gadd r48 r51)) >>= fun r52 =>
  (num r52) >>= fun u1 =>
  (math_Sqrt k r52) >>= fun r53 =>
  some r53)
def xyz_Distance (k : Nat) (a0 a1 : List Nat) : Option (Nat) :=
 (idx a0 2) >>= fun r9 =>
 (math_IsNaN k r9) >>= fun r11 =>
 br r11
  (xyz_Distance_j1 k a0 a1 true)
  ((idx a1 2) >>= fun r14 =>
  (math_IsNaN k r14) >>= fun r16 =>
  xyz_Distance_j1 k a0 a1 r16)

theorem xyz_Distance_sim {k : Nat}  (a0 a1 : List Nat) {out : Nat} (hp : xyz_Distance k a0 a1 = some out) : Sx.Fn Try.prog 48 [(Sl Kf a0), (Sl Kf a1)] [] (fun w : Unit => (Fl out)) (fun w => []) := by
 unfold xyz_Distance at hp
 refine fn_of Try.func48 rfl Try.ntmps48 rfl fun E hM => ?_
 refine cr fun K1 hK1 => ?_
 refine sa rfl ?_
 refine nk hK1 ?_
 refine cx_seq' fun K2 hK2 => ?_
 refine cr fun K3 hK3 => ?_
 refine sm rfl ?_
 obtain ⟨r9, hr9, hp⟩ := bind_some hp
 refine s0 (rd_at' (K := Kf) rfl rfl hr9 Try.underlying56 info22) ?_
 refine s0 (rd_load_pt' rfl rfl flat22) ?_
 obtain ⟨r11, hr11, hp⟩ := bind_some hp
 refine so (oz (ent_fn' Try.func47 isn47 rfl rfl) (math_IsNaN_sim _ hr11)) fun ⟨⟩ => ?_
 refine sm rfl ?_
 refine sx_cutn' 5 (fun (v1 : Bool) => (⟨54, [], [(0, (Sl Kf a0)), (1, (Sl Kf a1)), (17, (Vb v1))], []⟩ : St)) (fun (v1 : Bool) => xyz_Distance_j1 k a0 a1 v1 = some out) ?_ ?_
 ·rintro x1 hp
  replace hp : xyz_Distance_j1 k a0 a1 x1 = some out := hp
  unfold xyz_Distance_j1 at hp
  refine nk hK3 ?_
  refine cx_cond' rfl (fun h2 => ?_) (fun h2 => ?_)
  ·replace hp := (br_t h2).symm.trans hp
   refine cr fun K5 hK5 => ?_
   iterate 2 refine sm rfl ?_
   obtain ⟨r20, hr20, hp⟩ := bind_some hp
   refine so (oz (ent_fn' Try.func71 isn71 rfl rfl) (xy_Distance_sim _ _ hr20)) fun ⟨⟩ => ?_
   refine sa rfl ?_
   refine nk hK5 ?_
   refine cx_retc' ?_
   replace hp := sj hp
   subst hp
   refine tk (L' := [(4, (Fl r20))]) (H' := []) [] (uc rfl un) pn ?_
   exact tx_ret1' Try.results48 rfl () (rv_tmp' rfl) lr
  replace hp := (br_f h2).symm.trans hp
  refine cx_skip' ?_
  show TX E K2 _
  refine tx_k' hK2 ?_
  refine cx_seq' fun K6 hK6 => ?_
  refine cx_draw' mixed (by kernel_rfl) ?_
  refine qd (rd_move' rfl) ?_
  obtain ⟨r22, hr22, hp⟩ := bind_some hp
  refine qd (rd_at' (K := Kf) rfl rfl hr22 Try.underlying56 info22) ?_
  refine qd (rd_load_pt' rfl rfl flat22) ?_
  refine qd (rd_move' rfl) ?_
  obtain ⟨r25, hr25, hp⟩ := bind_some hp
  refine qd (rd_at' (K := Kf) rfl rfl hr25 Try.underlying56 info22) ?_
  refine qd (rd_load_pt' rfl rfl flat22) ?_
  obtain ⟨r27, hr27, hp⟩ := bind_some hp
  refine qd (rd_bin' rfl rfl eg_flt (ru_fsub hr27)) ?_
  refine qd (rd_assign' rfl) ?_
  refine qx_nil' ?_
  show TX E K6 _
  refine tx_k' hK6 ?_
  refine cx_seq' fun K7 hK7 => ?_
  refine cx_draw' mixed (by kernel_rfl) ?_
  refine qd (rd_move' rfl) ?_
  obtain ⟨r29, hr29, hp⟩ := bind_some hp
  refine qd (rd_at' (K := Kf) rfl rfl hr29 Try.underlying56 info22) ?_
  refine qd (rd_load_pt' rfl rfl flat22) ?_
  refine qd (rd_move' rfl) ?_
  obtain ⟨r32, hr32, hp⟩ := bind_some hp
  refine qd (rd_at' (K := Kf) rfl rfl hr32 Try.underlying56 info22) ?_
  refine qd (rd_load_pt' rfl rfl flat22) ?_
  obtain ⟨r34, hr34, hp⟩ := bind_some hp
  refine qd (rd_bin' rfl rfl eg_flt (ru_fsub hr34)) ?_
  refine qd (rd_assign' rfl) ?_
  refine qx_nil' ?_
  show TX E K7 _
  refine tx_k' hK7 ?_
  refine cx_seq' fun K8 hK8 => ?_
  refine cx_draw' mixed (by kernel_rfl) ?_
  refine qd (rd_move' rfl) ?_
  obtain ⟨r36, hr36, hp⟩ := bind_some hp
  refine qd (rd_at' (K := Kf) rfl rfl hr36 Try.underlying56 info22) ?_
  refine qd (rd_load_pt' rfl rfl flat22) ?_
  refine qd (rd_move' rfl) ?_
  obtain ⟨r39, hr39, hp⟩ := bind_some hp
  refine qd (rd_at' (K := Kf) rfl rfl hr39 Try.underlying56 info22) ?_
  refine qd (rd_load_pt' rfl rfl flat22) ?_
  obtain ⟨r41, hr41, hp⟩ := bind_some hp
  refine qd (rd_bin' rfl rfl eg_flt (ru_fsub hr41)) ?_
  refine qd (rd_assign' rfl) ?_
  refine qx_nil' ?_
  show TX E K8 _
  refine tx_k' hK8 ?_
  refine cr fun K9 hK9 => ?_
  iterate 2 refine sm rfl ?_
  obtain ⟨r44, hr44, hp⟩ := bind_some hp
  refine so (ox_fop' (.inr (.inr (.inl rfl))) (fl_v rfl) (fl_v rfl) (Option.some.inj hr44) rfl rfl) fun _ => ?_
  iterate 2 refine sm rfl ?_
  obtain ⟨r47, hr47, hp⟩ := bind_some hp
  refine so (ox_fop' (.inr (.inr (.inl rfl))) (fl_v rfl) (fl_v rfl) (Option.some.inj hr47) rfl rfl) fun _ => ?_
  obtain ⟨r48, hr48, hp⟩ := bind_some hp
  refine so (ox_fop' (.inl rfl) (fl_f rfl) (fl_f rfl) (Option.some.inj hr48) rfl rfl) fun _ => ?_
  iterate 2 refine sm rfl ?_
  obtain ⟨r51, hr51, hp⟩ := bind_some hp
  refine so (ox_fop' (.inr (.inr (.inl rfl))) (fl_v rfl) (fl_v rfl) (Option.some.inj hr51) rfl rfl) fun _ => ?_
  obtain ⟨r52, hr52, hp⟩ := bind_some hp
  refine so (ox_fop' (.inl rfl) (fl_f rfl) (fl_f rfl) (Option.some.inj hr52) rfl rfl) fun _ => ?_
  obtain ⟨u1, hu1, hp⟩ := bind_some hp
  refine tx_slot' 52 (y := (Vg r52)) rfl (imp_num (num_some hu1).2) ?_
  obtain ⟨r53, hr53, hp⟩ := bind_some hp
  refine so (oz (ent_fn' Try.func22 isn22 rfl rfl) (math_Sqrt_sim _ hr53)) fun ⟨⟩ => ?_
  refine sa rfl ?_
  refine nk hK9 ?_
  refine cx_retc' ?_
  replace hp := sj hp
  subst hp
  refine tk (L' := [(4, (Fl r53))]) (H' := []) [] (uc rfl un) pn ?_
  exact tx_ret1' Try.results48 rfl () (rv_tmp' rfl) lr
 intro K4 hK4
 rcases br_cases hp with ⟨h1, hp⟩ | ⟨h1, hp⟩
 ·refine sx_skip' rfl rfl (wt_is' (wt_guard' rfl rfl rfl) (beq_tf h1)) ?_
  iterate 3 refine sx_skip' rfl rfl (wt_is' (wt_guard' rfl rfl rfl) (beq_tf h1)) ?_
  refine s0 (rd_pick_true' rfl h1 rfl) ?_
  refine sx_nil' ?_
  show TX E K4 _
  exact tk [] (u3 rfl rfl rfl) pn (hK4 true hp)
 refine sx_rd' (rd_move' rfl) rfl rfl (wt_is' (wt_guard' rfl rfl rfl) (beq_ff h1)) ?_
 obtain ⟨r14, hr14, hp⟩ := bind_some hp
 refine sx_rd' (rd_at' (K := Kf) rfl rfl hr14 Try.underlying56 info22) rfl rfl (wt_is' (wt_guard' rfl rfl rfl) (beq_ff h1)) ?_
 refine sx_rd' (rd_load_pt' rfl rfl flat22) rfl rfl (wt_is' (wt_guard' rfl rfl rfl) (beq_ff h1)) ?_
 obtain ⟨r16, hr16, hp⟩ := bind_some hp
 refine sx_ox' (oz (ent_fn' Try.func47 isn47 rfl rfl) (math_IsNaN_sim _ hr16)) (wt_is' (wt_guard' rfl rfl rfl) (beq_ff h1)) fun ⟨⟩ => ?_
 refine s0 (rd_pick_false' rfl h1 rfl) ?_
 refine sx_nil' ?_
 show TX E K4 _
 exact tk [] (u3 rfl rfl rfl) pn (hK4 r16 hp)

def xyz_DistancePointToLine (k : Nat) (a0 a1 a2 : List Nat) : Option (Nat) :=
 (xyz_Equals k a1 a2) >>= fun r17 =>
 br r17
  ((xyz_Distance k a0 a1) >>= fun r20 =>
  some r20)
  ((idx a2 0) >>= fun r22 =>
  (idx a1 0) >>= fun r25 =>
  (fsub r22 r25) >>= fun r27 =>
  (idx a2 0) >>= fun r29 =>
  (idx a1 0) >>= fun r32 =>
  (fsub r29 r32) >>= fun r34 =>
  (fmul r27 r34) >>= fun r35 =>
  (idx a2 1) >>= fun r37 =>
  (idx a1 1) >>= fun r40 =>
  (fsub r37 r40) >>= fun r42 =>
  (idx a2 1) >>= fun r44 =>
  (idx a1 1) >>= fun r47 =>
  (fsub r44 r47) >>= fun r49 =>
  (fmul r42 r49) >>= fun r50 =>
  (fadd r35 r50) >>= fun r51 =>
  (idx a2 2) >>= fun r53 =>
  (idx a1 2) >>= fun r56 =>
  (fsub r53 r56) >>= fun r58 =>
  (idx a2 2) >>= fun r60 =>
  (idx a1 2) >>= fun r63 =>
  (fsub r60 r63) >>= fun r65 =>
  (fmul r58 r65) >>= fun r66 =>
  (fadd r51 r66) >>= fun r67 =>
  (math_IsNaN k r67) >>= fun r69 =>
  br r69
   (none)
   ((idx a0 0) >>= fun r72 =>
   (idx a1 0) >>= fun r75 =>
   (fsub r72 r75) >>= fun r77 =>
   (idx a2 0) >>= fun r79 =>
   (idx a1 0) >>= fun r82 =>
   (fsub r79 r82) >>= fun r84 =>
   (fmul r77 r84) >>= fun r85 =>
   (idx a0 1) >>= fun r87 =>
   (idx a1 1) >>= fun r90 =>
   (fsub r87 r90) >>= fun r92 =>
   (idx a2 1) >>= fun r94 =>
   (idx a1 1) >>= fun r97 =>
   (fsub r94 r97) >>= fun r99 =>
   (fmul r92 r99) >>= fun r100 =>
   (fadd r85 r100) >>= fun r101 =>
   (idx a0 2) >>= fun r103 =>
   (idx a1 2) >>= fun r106 =>
   (fsub r103 r106) >>= fun r108 =>
   (idx a2 2) >>= fun r110 =>
   (idx a1 2) >>= fun r113 =>
   (fsub r110 r113) >>= fun r115 =>
   (fmul r108 r115) >>= fun r116 =>
   (fadd r101 r116) >>= fun r117 =>
   (fdiv r117 r67) >>= fun r119 =>
   br (fle r119 0)
    ((xyz_Distance k a0 a1) >>= fun r124 =>
    some r124)
    (br (fge r119 4607182418800017408)
     ((xyz_Distance k a0 a2) >>= fun r129 =>
     some r129)
     ((idx a1 0) >>= fun r131 =>
     (idx a2 0) >>= fun r135 =>
     (idx a1 0) >>= fun r138 =>
     (fsub r135 r138) >>= fun r140 =>
     (fmul r119 r140) >>= fun r141 =>
     (fadd r131 r141) >>= fun r142 =>
     (idx a1 1) >>= fun r144 =>
     (idx a2 1) >>= fun r148 =>
     (idx a1 1) >>= fun r151 =>
     (fsub r148 r151) >>= fun r153 =>
     (fmul r119 r153) >>= fun r154 =>
     (fadd r144 r154) >>= fun r155 =>
     (idx a1 2) >>= fun r157 =>
     (idx a2 2) >>= fun r161 =>
     (idx a1 2) >>= fun r164 =>
     (fsub r161 r164) >>= fun r166 =>
     (fmul r119 r166) >>= fun r167 =>
     (fadd r157 r167) >>= fun r168 =>
     (idx a0 0) >>= fun r170 =>
     (some (gsub r170 r142)) >>= fun r173 =>
     (idx a0 1) >>= fun r175 =>
     (some (gsub r175 r155)) >>= fun r178 =>
     (idx a0 2) >>= fun r180 =>
     (some (gsub r180 r168)) >>= fun r183 =>
     (some (gmul r173 r173)) >>= fun r186 =>
     (some (gmul r178 r178)) >>= fun r189 =>
     (some (gadd r186 r189)) >>= fun r190 =>
     (some (gmul r183 r183)) >>= fun r193 =>
     (some (gadd r190 r193)) >>= fun r194 =>
     (num r194) >>= fun u1 =>
     (math_Sqrt k r194) >>= fun r195 =>
     some r195))))

theorem xyz_DistancePointToLine_sim {k : Nat}  (a0 a1 a2 : List Nat) {out : Nat} (hp : xyz_DistancePointToLine k a0 a1 a2 = some out) : Sx.Fn Try.prog 45 [(Sl Kf a0), (Sl Kf a1), (Sl Kf a2)] [] (fun w : Unit => (Fl out)) (fun w => []) := by
 unfold xyz_DistancePointToLine at hp
 refine fn_of Try.func45 rfl Try.ntmps45 rfl fun E hM => ?_
 refine cr fun K1 hK1 => ?_
 refine sa rfl ?_
 refine nk hK1 ?_
 refine cx_seq' fun K2 hK2 => ?_
 refine cr fun K3 hK3 => ?_
 iterate 2 refine sm rfl ?_
 obtain ⟨r17, hr17, hp⟩ := bind_some hp
 refine so (oz (ent_fn' Try.func44 isn44 rfl rfl) (xyz_Equals_sim _ _ hr17)) fun ⟨⟩ => ?_
 refine nk hK3 ?_
 refine cx_cond' rfl (fun h1 => ?_) (fun h1 => ?_)
 ·replace hp := (br_t h1).symm.trans hp
  refine cr fun K4 hK4 => ?_
  iterate 2 refine sm rfl ?_
  obtain ⟨r20, hr20, hp⟩ := bind_some hp
  refine so (oz (ent_fn' Try.func48 isn48 rfl rfl) (xyz_Distance_sim _ _ hr20)) fun ⟨⟩ => ?_
  refine sa rfl ?_
  refine nk hK4 ?_
  refine cx_retc' ?_
  replace hp := sj hp
  subst hp
  refine tk (L' := [(6, (Fl r20))]) (H' := []) [] (uc rfl un) pn ?_
  exact tx_ret1' Try.results45 rfl () (rv_tmp' rfl) lr
 replace hp := (br_f h1).symm.trans hp
 refine cx_skip' ?_
 show TX E K2 _
 refine tx_k' hK2 ?_
 refine cx_seq' fun K5 hK5 => ?_
 refine cx_draw' mixed (by kernel_rfl) ?_
 refine qd (rd_move' rfl) ?_
 obtain ⟨r22, hr22, hp⟩ := bind_some hp
 refine qd (rd_at' (K := Kf) rfl rfl hr22 Try.underlying56 info22) ?_
 refine qd (rd_load_pt' rfl rfl flat22) ?_
 refine qd (rd_move' rfl) ?_
 obtain ⟨r25, hr25, hp⟩ := bind_some hp
 refine qd (rd_at' (K := Kf) rfl rfl hr25 Try.underlying56 info22) ?_
 refine qd (rd_load_pt' rfl rfl flat22) ?_
 obtain ⟨r27, hr27, hp⟩ := bind_some hp
 refine qd (rd_bin' rfl rfl eg_flt (ru_fsub hr27)) ?_
 refine qd (rd_move' rfl) ?_
 obtain ⟨r29, hr29, hp⟩ := bind_some hp
 refine qd (rd_at' (K := Kf) rfl rfl hr29 Try.underlying56 info22) ?_
 refine qd (rd_load_pt' rfl rfl flat22) ?_
 refine qd (rd_move' rfl) ?_
 obtain ⟨r32, hr32, hp⟩ := bind_some hp
 refine qd (rd_at' (K := Kf) rfl rfl hr32 Try.underlying56 info22) ?_
 refine qd (rd_load_pt' rfl rfl flat22) ?_
 obtain ⟨r34, hr34, hp⟩ := bind_some hp
 refine qd (rd_bin' rfl rfl eg_flt (ru_fsub hr34)) ?_
 obtain ⟨r35, hr35, hp⟩ := bind_some hp
 refine qd (rd_bin' rfl rfl eg_flt (ru_fmul hr35)) ?_
 refine qd (rd_move' rfl) ?_
 obtain ⟨r37, hr37, hp⟩ := bind_some hp
 refine qd (rd_at' (K := Kf) rfl rfl hr37 Try.underlying56 info22) ?_
 refine qd (rd_load_pt' rfl rfl flat22) ?_
 refine qd (rd_move' rfl) ?_
 obtain ⟨r40, hr40, hp⟩ := bind_some hp
 refine qd (rd_at' (K := Kf) rfl rfl hr40 Try.underlying56 info22) ?_
 refine qd (rd_load_pt' rfl rfl flat22) ?_
 obtain ⟨r42, hr42, hp⟩ := bind_some hp
 refine qd (rd_bin' rfl rfl eg_flt (ru_fsub hr42)) ?_
 refine qd (rd_move' rfl) ?_
 obtain ⟨r44, hr44, hp⟩ := bind_some hp
 refine qd (rd_at' (K := Kf) rfl rfl hr44 Try.underlying56 info22) ?_
 refine qd (rd_load_pt' rfl rfl flat22) ?_
 refine qd (rd_move' rfl) ?_
 obtain ⟨r47, hr47, hp⟩ := bind_some hp
 refine qd (rd_at' (K := Kf) rfl rfl hr47 Try.underlying56 info22) ?_
 refine qd (rd_load_pt' rfl rfl flat22) ?_
 obtain ⟨r49, hr49, hp⟩ := bind_some hp
 refine qd (rd_bin' rfl rfl eg_flt (ru_fsub hr49)) ?_
 obtain ⟨r50, hr50, hp⟩ := bind_some hp
 refine qd (rd_bin' rfl rfl eg_flt (ru_fmul hr50)) ?_
 obtain ⟨r51, hr51, hp⟩ := bind_some hp
 refine qd (rd_bin' rfl rfl eg_flt (ru_fadd hr51)) ?_
 refine qd (rd_move' rfl) ?_
 obtain ⟨r53, hr53, hp⟩ := bind_some hp
 refine qd (rd_at' (K := Kf) rfl rfl hr53 Try.underlying56 info22) ?_
 refine qd (rd_load_pt' rfl rfl flat22) ?_
 refine qd (rd_move' rfl) ?_
 obtain ⟨r56, hr56, hp⟩ := bind_some hp
 refine qd (rd_at' (K := Kf) rfl rfl hr56 Try.underlying56 info22) ?_
 refine qd (rd_load_pt' rfl rfl flat22) ?_
 obtain ⟨r58, hr58, hp⟩ := bind_some hp
 refine qd (rd_bin' rfl rfl eg_flt (ru_fsub hr58)) ?_
 refine qd (rd_move' rfl) ?_
 obtain ⟨r60, hr60, hp⟩ := bind_some hp
 refine qd (rd_at' (K := Kf) rfl rfl hr60 Try.underlying56 info22) ?_
 refine qd (rd_load_pt' rfl rfl flat22) ?_
 refine qd (rd_move' rfl) ?_
 obtain ⟨r63, hr63, hp⟩ := bind_some hp
 refine qd (rd_at' (K := Kf) rfl rfl hr63 Try.underlying56 info22) ?_
 refine qd (rd_load_pt' rfl rfl flat22) ?_
 obtain ⟨r65, hr65, hp⟩ := bind_some hp
 refine qd (rd_bin' rfl rfl eg_flt (ru_fsub hr65)) ?_
 obtain ⟨r66, hr66, hp⟩ := bind_some hp
 refine qd (rd_bin' rfl rfl eg_flt (ru_fmul hr66)) ?_
 obtain ⟨r67, hr67, hp⟩ := bind_some hp
 refine qd (rd_bin' rfl rfl eg_flt (ru_fadd hr67)) ?_
 refine qd (rd_assign' rfl) ?_
 refine qx_nil' ?_
 show TX E K5 _
 refine tx_k' hK5 ?_
 refine cx_seq' fun K6 hK6 => ?_
 refine cr fun K7 hK7 => ?_
 refine sm rfl ?_
 obtain ⟨r69, hr69, hp⟩ := bind_some hp
 refine so (oz (ent_fn' Try.func47 isn47 rfl rfl) (math_IsNaN_sim _ hr69)) fun ⟨⟩ => ?_
 refine nk hK7 ?_
 refine cx_cond' rfl (fun h2 => ?_) (fun h2 => ?_)
 ·replace hp := (br_t h2).symm.trans hp
  refine cx_region' ?_
  refine s0 (rd_iface' rfl ⟨_, Try.underlying9, fun _ h => (nomatch h)⟩) ?_
  cases hp
 replace hp := (br_f h2).symm.trans hp
 refine cx_skip' ?_
 show TX E K6 _
 refine tx_k' hK6 ?_
 refine cx_seq' fun K8 hK8 => ?_
 refine cx_draw' mixed (by kernel_rfl) ?_
 refine qd (rd_move' rfl) ?_
 obtain ⟨r72, hr72, hp⟩ := bind_some hp
 refine qd (rd_at' (K := Kf) rfl rfl hr72 Try.underlying56 info22) ?_
 refine qd (rd_load_pt' rfl rfl flat22) ?_
 refine qd (rd_move' rfl) ?_
 obtain ⟨r75, hr75, hp⟩ := bind_some hp
 refine qd (rd_at' (K := Kf) rfl rfl hr75 Try.underlying56 info22) ?_
 refine qd (rd_load_pt' rfl rfl flat22) ?_
 obtain ⟨r77, hr77, hp⟩ := bind_some hp
 refine qd (rd_bin' rfl rfl eg_flt (ru_fsub hr77)) ?_
 refine qd (rd_move' rfl) ?_
 obtain ⟨r79, hr79, hp⟩ := bind_some hp
 refine qd (rd_at' (K := Kf) rfl rfl hr79 Try.underlying56 info22) ?_
 refine qd (rd_load_pt' rfl rfl flat22) ?_
 refine qd (rd_move' rfl) ?_
 obtain ⟨r82, hr82, hp⟩ := bind_some hp
 refine qd (rd_at' (K := Kf) rfl rfl hr82 Try.underlying56 info22) ?_
 refine qd (rd_load_pt' rfl rfl flat22) ?_
 obtain ⟨r84, hr84, hp⟩ := bind_some hp
 refine qd (rd_bin' rfl rfl eg_flt (ru_fsub hr84)) ?_
 obtain ⟨r85, hr85, hp⟩ := bind_some hp
 refine qd (rd_bin' rfl rfl eg_flt (ru_fmul hr85)) ?_
 refine qd (rd_move' rfl) ?_
 obtain ⟨r87, hr87, hp⟩ := bind_some hp
 refine qd (rd_at' (K := Kf) rfl rfl hr87 Try.underlying56 info22) ?_
 refine qd (rd_load_pt' rfl rfl flat22) ?_
 refine qd (rd_move' rfl) ?_
 obtain ⟨r90, hr90, hp⟩ := bind_some hp
 refine qd (rd_at' (K := Kf) rfl rfl hr90 Try.underlying56 info22) ?_
 refine qd (rd_load_pt' rfl rfl flat22) ?_
 obtain ⟨r92, hr92, hp⟩ := bind_some hp
 refine qd (rd_bin' rfl rfl eg_flt (ru_fsub hr92)) ?_
 refine qd (rd_move' rfl) ?_
 obtain ⟨r94, hr94, hp⟩ := bind_some hp
 refine qd (rd_at' (K := Kf) rfl rfl hr94 Try.underlying56 info22) ?_
 refine qd (rd_load_pt' rfl rfl flat22) ?_
 refine qd (rd_move' rfl) ?_
 obtain ⟨r97, hr97, hp⟩ := bind_some hp
 refine qd (rd_at' (K := Kf) rfl rfl hr97 Try.underlying56 info22) ?_
 refine qd (rd_load_pt' rfl rfl flat22) ?_
 obtain ⟨r99, hr99, hp⟩ := bind_some hp
 refine qd (rd_bin' rfl rfl eg_flt (ru_fsub hr99)) ?_
 obtain ⟨r100, hr100, hp⟩ := bind_some hp
 refine qd (rd_bin' rfl rfl eg_flt (ru_fmul hr100)) ?_
 obtain ⟨r101, hr101, hp⟩ := bind_some hp
 refine qd (rd_bin' rfl rfl eg_flt (ru_fadd hr101)) ?_
 refine qd (rd_move' rfl) ?_
 obtain ⟨r103, hr103, hp⟩ := bind_some hp
 refine qd (rd_at' (K := Kf) rfl rfl hr103 Try.underlying56 info22) ?_
 refine qd (rd_load_pt' rfl rfl flat22) ?_
 refine qd (rd_move' rfl) ?_
 obtain ⟨r106, hr106, hp⟩ := bind_some hp
 refine qd (rd_at' (K := Kf) rfl rfl hr106 Try.underlying56 info22) ?_
 refine qd (rd_load_pt' rfl rfl flat22) ?_
 obtain ⟨r108, hr108, hp⟩ := bind_some hp
 refine qd (rd_bin' rfl rfl eg_flt (ru_fsub hr108)) ?_
 refine qd (rd_move' rfl) ?_
 obtain ⟨r110, hr110, hp⟩ := bind_some hp
 refine qd (rd_at' (K := Kf) rfl rfl hr110 Try.underlying56 info22) ?_
 refine qd (rd_load_pt' rfl rfl flat22) ?_
 refine qd (rd_move' rfl) ?_
 obtain ⟨r113, hr113, hp⟩ := bind_some hp
 refine qd (rd_at' (K := Kf) rfl rfl hr113 Try.underlying56 info22) ?_
 refine qd (rd_load_pt' rfl rfl flat22) ?_
 obtain ⟨r115, hr115, hp⟩ := bind_some hp
 refine qd (rd_bin' rfl rfl eg_flt (ru_fsub hr115)) ?_
 obtain ⟨r116, hr116, hp⟩ := bind_some hp
 refine qd (rd_bin' rfl rfl eg_flt (ru_fmul hr116)) ?_
 obtain ⟨r117, hr117, hp⟩ := bind_some hp
 refine qd (rd_bin' rfl rfl eg_flt (ru_fadd hr117)) ?_
 refine qd (rd_move' rfl) ?_
 obtain ⟨r119, hr119, hp⟩ := bind_some hp
 refine qd (rd_bin' rfl rfl eg_flt (ru_fdiv hr119)) ?_
 refine qd (rd_assign' rfl) ?_
 refine qx_nil' ?_
 show TX E K8 _
 refine tx_k' hK8 ?_
 refine cx_seq' fun K9 hK9 => ?_
 refine cr fun K10 hK10 => ?_
 refine sm rfl ?_
 refine sb rfl rfl eg_flt ru_fle ?_
 refine nk hK10 ?_
 refine cx_cond' rfl (fun h3 => ?_) (fun h3 => ?_)
 ·replace hp := (br_t h3).symm.trans hp
  refine cr fun K11 hK11 => ?_
  iterate 2 refine sm rfl ?_
  obtain ⟨r124, hr124, hp⟩ := bind_some hp
  refine so (oz (ent_fn' Try.func48 isn48 rfl rfl) (xyz_Distance_sim _ _ hr124)) fun ⟨⟩ => ?_
  refine sa rfl ?_
  refine nk hK11 ?_
  refine cx_retc' ?_
  replace hp := sj hp
  subst hp
  refine tk (L' := [(6, (Fl r124))]) (H' := []) [] (uc rfl un) pn ?_
  exact tx_ret1' Try.results45 rfl () (rv_tmp' rfl) lr
 replace hp := (br_f h3).symm.trans hp
 refine cx_skip' ?_
 show TX E K9 _
 refine tx_k' hK9 ?_
 refine cx_seq' fun K12 hK12 => ?_
 refine cr fun K13 hK13 => ?_
 refine sm rfl ?_
 refine sb rfl rfl eg_flt ru_fge ?_
 refine nk hK13 ?_
 refine cx_cond' rfl (fun h4 => ?_) (fun h4 => ?_)
 ·replace hp := (br_t h4).symm.trans hp
  refine cr fun K14 hK14 => ?_
  iterate 2 refine sm rfl ?_
  obtain ⟨r129, hr129, hp⟩ := bind_some hp
  refine so (oz (ent_fn' Try.func48 isn48 rfl rfl) (xyz_Distance_sim _ _ hr129)) fun ⟨⟩ => ?_
  refine sa rfl ?_
  refine nk hK14 ?_
  refine cx_retc' ?_
  replace hp := sj hp
  subst hp
  refine tk (L' := [(6, (Fl r129))]) (H' := []) [] (uc rfl un) pn ?_
  exact tx_ret1' Try.results45 rfl () (rv_tmp' rfl) lr
 replace hp := (br_f h4).symm.trans hp
 refine cx_skip' ?_
 show TX E K12 _
 refine tx_k' hK12 ?_
 refine cx_seq' fun K15 hK15 => ?_
 refine cx_draw' mixed (by kernel_rfl) ?_
 refine qd (rd_move' rfl) ?_
 obtain ⟨r131, hr131, hp⟩ := bind_some hp
 refine qd (rd_at' (K := Kf) rfl rfl hr131 Try.underlying56 info22) ?_
 refine qd (rd_load_pt' rfl rfl flat22) ?_
 iterate 2 refine qd (rd_move' rfl) ?_
 obtain ⟨r135, hr135, hp⟩ := bind_some hp
 refine qd (rd_at' (K := Kf) rfl rfl hr135 Try.underlying56 info22) ?_
 refine qd (rd_load_pt' rfl rfl flat22) ?_
 refine qd (rd_move' rfl) ?_
 obtain ⟨r138, hr138, hp⟩ := bind_some hp
 refine qd (rd_at' (K := Kf) rfl rfl hr138 Try.underlying56 info22) ?_
 refine qd (rd_load_pt' rfl rfl flat22) ?_
 obtain ⟨r140, hr140, hp⟩ := bind_some hp
 refine qd (rd_bin' rfl rfl eg_flt (ru_fsub hr140)) ?_
 obtain ⟨r141, hr141, hp⟩ := bind_some hp
 refine qd (rd_bin' rfl rfl eg_flt (ru_fmul hr141)) ?_
 obtain ⟨r142, hr142, hp⟩ := bind_some hp
 refine qd (rd_bin' rfl rfl eg_flt (ru_fadd hr142)) ?_
 refine qd (rd_assign' rfl) ?_
 refine qx_nil' ?_
 show TX E K15 _
 refine tx_k' hK15 ?_
 refine cx_seq' fun K16 hK16 => ?_
 refine cx_draw' mixed (by kernel_rfl) ?_
 refine qd (rd_move' rfl) ?_
 obtain ⟨r144, hr144, hp⟩ := bind_some hp
 refine qd (rd_at' (K := Kf) rfl rfl hr144 Try.underlying56 info22) ?_
 refine qd (rd_load_pt' rfl rfl flat22) ?_
 iterate 2 refine qd (rd_move' rfl) ?_
 obtain ⟨r148, hr148, hp⟩ := bind_some hp
 refine qd (rd_at' (K := Kf) rfl rfl hr148 Try.underlying56 info22) ?_
 refine qd (rd_load_pt' rfl rfl flat22) ?_
 refine qd (rd_move' rfl) ?_
 obtain ⟨r151, hr151, hp⟩ := bind_some hp
 refine qd (rd_at' (K := Kf) rfl rfl hr151 Try.underlying56 info22) ?_
 refine qd (rd_load_pt' rfl rfl flat22) ?_
 obtain ⟨r153, hr153, hp⟩ := bind_some hp
 refine qd (rd_bin' rfl rfl eg_flt (ru_fsub hr153)) ?_
 obtain ⟨r154, hr154, hp⟩ := bind_some hp
 refine qd (rd_bin' rfl rfl eg_flt (ru_fmul hr154)) ?_
 obtain ⟨r155, hr155, hp⟩ := bind_some hp
 refine qd (rd_bin' rfl rfl eg_flt (ru_fadd hr155)) ?_
 refine qd (rd_assign' rfl) ?_
 refine qx_nil' ?_
 show TX E K16 _
 refine tx_k' hK16 ?_
 refine cx_seq' fun K17 hK17 => ?_
 refine cx_draw' mixed (by kernel_rfl) ?_
 refine qd (rd_move' rfl) ?_
 obtain ⟨r157, hr157, hp⟩ := bind_some hp
 refine qd (rd_at' (K := Kf) rfl rfl hr157 Try.underlying56 info22) ?_
 refine qd (rd_load_pt' rfl rfl flat22) ?_
 iterate 2 refine qd (rd_move' rfl) ?_
 obtain ⟨r161, hr161, hp⟩ := bind_some hp
 refine qd (rd_at' (K := Kf) rfl rfl hr161 Try.underlying56 info22) ?_
 refine qd (rd_load_pt' rfl rfl flat22) ?_
 refine qd (rd_move' rfl) ?_
 obtain ⟨r164, hr164, hp⟩ := bind_some hp
 refine qd (rd_at' (K := Kf) rfl rfl hr164 Try.underlying56 info22) ?_
 refine qd (rd_load_pt' rfl rfl flat22) ?_
 obtain ⟨r166, hr166, hp⟩ := bind_some hp
 refine qd (rd_bin' rfl rfl eg_flt (ru_fsub hr166)) ?_
 obtain ⟨r167, hr167, hp⟩ := bind_some hp
 refine qd (rd_bin' rfl rfl eg_flt (ru_fmul hr167)) ?_
 obtain ⟨r168, hr168, hp⟩ := bind_some hp
 refine qd (rd_bin' rfl rfl eg_flt (ru_fadd hr168)) ?_
 refine qd (rd_assign' rfl) ?_
 refine qx_nil' ?_
 show TX E K17 _
 refine tx_k' hK17 ?_
 refine cr fun K18 hK18 => ?_
 refine sm rfl ?_
 obtain ⟨r170, hr170, hp⟩ := bind_some hp
 refine s0 (rd_at' (K := Kf) rfl rfl hr170 Try.underlying56 info22) ?_
 refine s0 (rd_load_pt' rfl rfl flat22) ?_
 refine sm rfl ?_
 obtain ⟨r173, hr173, hp⟩ := bind_some hp
 refine so (ox_fop' (.inr (.inl rfl)) (fl_v rfl) (fl_v rfl) (Option.some.inj hr173) rfl rfl) fun _ => ?_
 refine sa rfl ?_
 refine nk hK18 ?_
 refine cr fun K19 hK19 => ?_
 refine sm rfl ?_
 obtain ⟨r175, hr175, hp⟩ := bind_some hp
 refine s0 (rd_at' (K := Kf) rfl rfl hr175 Try.underlying56 info22) ?_
 refine s0 (rd_load_pt' rfl rfl flat22) ?_
 refine sm rfl ?_
 obtain ⟨r178, hr178, hp⟩ := bind_some hp
 refine so (ox_fop' (.inr (.inl rfl)) (fl_v rfl) (fl_v rfl) (Option.some.inj hr178) rfl rfl) fun _ => ?_
 refine sa rfl ?_
 refine nk hK19 ?_
 refine cr fun K20 hK20 => ?_
 refine sm rfl ?_
 obtain ⟨r180, hr180, hp⟩ := bind_some hp
 refine s0 (rd_at' (K := Kf) rfl rfl hr180 Try.underlying56 info22) ?_
 refine s0 (rd_load_pt' rfl rfl flat22) ?_
 refine sm rfl ?_
 obtain ⟨r183, hr183, hp⟩ := bind_some hp
 refine so (ox_fop' (.inr (.inl rfl)) (fl_v rfl) (fl_v rfl) (Option.some.inj hr183) rfl rfl) fun _ => ?_
 refine sa rfl ?_
 refine nk hK20 ?_
 refine cr fun K21 hK21 => ?_
 iterate 2 refine sm rfl ?_
 obtain ⟨r186, hr186, hp⟩ := bind_some hp
 refine so (ox_fop' (.inr (.inr (.inl rfl))) (fl_f rfl) (fl_f rfl) (Option.some.inj hr186) rfl rfl) fun _ => ?_
 iterate 2 refine sm rfl ?_
 obtain ⟨r189, hr189, hp⟩ := bind_some hp
 refine so (ox_fop' (.inr (.inr (.inl rfl))) (fl_f rfl) (fl_f rfl) (Option.some.inj hr189) rfl rfl) fun _ => ?_
 obtain ⟨r190, hr190, hp⟩ := bind_some hp
 refine so (ox_fop' (.inl rfl) (fl_f rfl) (fl_f rfl) (Option.some.inj hr190) rfl rfl) fun _ => ?_
 iterate 2 refine sm rfl ?_
 obtain ⟨r193, hr193, hp⟩ := bind_some hp
 refine so (ox_fop' (.inr (.inr (.inl rfl))) (fl_f rfl) (fl_f rfl) (Option.some.inj hr193) rfl rfl) fun _ => ?_
 obtain ⟨r194, hr194, hp⟩ := bind_some hp
 refine so (ox_fop' (.inl rfl) (fl_f rfl) (fl_f rfl) (Option.some.inj hr194) rfl rfl) fun _ => ?_
 obtain ⟨u1, hu1, hp⟩ := bind_some hp
 refine tx_slot' 194 (y := (Vg r194)) rfl (imp_num (num_some hu1).2) ?_
 obtain ⟨r195, hr195, hp⟩ := bind_some hp
 refine so (oz (ent_fn' Try.func22 isn22 rfl rfl) (math_Sqrt_sim _ hr195)) fun ⟨⟩ => ?_
 refine sa rfl ?_
 refine nk hK21 ?_
 refine cx_retc' ?_
 replace hp := sj hp
 subst hp
 refine tk (L' := [(6, (Fl r195))]) (H' := []) [] (uc rfl un) pn ?_
 exact tx_ret1' Try.results45 rfl () (rv_tmp' rfl) lr

def xyz_VectorDot (k : Nat) (a0 a1 : List Nat) (a2 a3 : List Nat) : Option (Nat) :=
 (idx a1 0) >>= fun r16 =>
 (idx a0 0) >>= fun r19 =>
 (fsub r16 r19) >>= fun r21 =>
 (idx a1 1) >>= fun r23 =>
 (idx a0 1) >>= fun r26 =>
 (fsub r23 r26) >>= fun r28 =>
 (idx a1 2) >>= fun r30 =>
 (idx a0 2) >>= fun r33 =>
 (fsub r30 r33) >>= fun r35 =>
 (idx a3 0) >>= fun r37 =>
 (idx a2 0) >>= fun r40 =>
 (fsub r37 r40) >>= fun r42 =>
 (idx a3 1) >>= fun r44 =>
 (idx a2 1) >>= fun r47 =>
 (fsub r44 r47) >>= fun r49 =>
 (idx a3 2) >>= fun r51 =>
 (idx a2 2) >>= fun r54 =>
 (fsub r51 r54) >>= fun r56 =>
 (some (gmul r21 r42)) >>= fun r59 =>
 (some (gmul r28 r49)) >>= fun r62 =>
 (some (gadd r59 r62)) >>= fun r63 =>
 (some (gmul r35 r56)) >>= fun r66 =>
 (some (gadd r63 r66)) >>= fun r67 =>
 some r67

theorem xyz_VectorDot_sim {k : Nat}  (a0 a1 : List Nat) (a2 a3 : List Nat) {out : Nat} (hp : xyz_VectorDot k a0 a1 a2 a3 = some out) : Sx.Fn Try.prog 46 [(Sl Kf a0), (Sl Kf a1), (Sl Kf a2), (Sl Kf a3)] [] (fun w : Unit => (Fl out)) (fun w => []) := by
 unfold xyz_VectorDot at hp
 refine fn_of Try.func46 rfl Try.ntmps46 rfl fun E hM => ?_
 refine cr fun K1 hK1 => ?_
 refine sa rfl ?_
 refine nk hK1 ?_
 refine cx_seq' fun K2 hK2 => ?_
 refine cx_draw' mixed (by kernel_rfl) ?_
 refine qd (rd_move' rfl) ?_
 obtain ⟨r16, hr16, hp⟩ := bind_some hp
 refine qd (rd_at' (K := Kf) rfl rfl hr16 Try.underlying56 info22) ?_
 refine qd (rd_load_pt' rfl rfl flat22) ?_
 refine qd (rd_move' rfl) ?_
 obtain ⟨r19, hr19, hp⟩ := bind_some hp
 refine qd (rd_at' (K := Kf) rfl rfl hr19 Try.underlying56 info22) ?_
 refine qd (rd_load_pt' rfl rfl flat22) ?_
 obtain ⟨r21, hr21, hp⟩ := bind_some hp
 refine qd (rd_bin' rfl rfl eg_flt (ru_fsub hr21)) ?_
 refine qd (rd_assign' rfl) ?_
 refine qx_nil' ?_
 show TX E K2 _
 refine tx_k' hK2 ?_
 refine cx_seq' fun K3 hK3 => ?_
 refine cx_draw' mixed (by kernel_rfl) ?_
 refine qd (rd_move' rfl) ?_
 obtain ⟨r23, hr23, hp⟩ := bind_some hp
 refine qd (rd_at' (K := Kf) rfl rfl hr23 Try.underlying56 info22) ?_
 refine qd (rd_load_pt' rfl rfl flat22) ?_
 refine qd (rd_move' rfl) ?_
 obtain ⟨r26, hr26, hp⟩ := bind_some hp
 refine qd (rd_at' (K := Kf) rfl rfl hr26 Try.underlying56 info22) ?_
 refine qd (rd_load_pt' rfl rfl flat22) ?_
 obtain ⟨r28, hr28, hp⟩ := bind_some hp
 refine qd (rd_bin' rfl rfl eg_flt (ru_fsub hr28)) ?_
 refine qd (rd_assign' rfl) ?_
 refine qx_nil' ?_
 show TX E K3 _
 refine tx_k' hK3 ?_
 refine cx_seq' fun K4 hK4 => ?_
 refine cx_draw' mixed (by kernel_rfl) ?_
 refine qd (rd_move' rfl) ?_
 obtain ⟨r30, hr30, hp⟩ := bind_some hp
 refine qd (rd_at' (K := Kf) rfl rfl hr30 Try.underlying56 info22) ?_
 refine qd (rd_load_pt' rfl rfl flat22) ?_
 refine qd (rd_move' rfl) ?_
 obtain ⟨r33, hr33, hp⟩ := bind_some hp
 refine qd (rd_at' (K := Kf) rfl rfl hr33 Try.underlying56 info22) ?_
 refine qd (rd_load_pt' rfl rfl flat22) ?_
 obtain ⟨r35, hr35, hp⟩ := bind_some hp
 refine qd (rd_bin' rfl rfl eg_flt (ru_fsub hr35)) ?_
 refine qd (rd_assign' rfl) ?_
 refine qx_nil' ?_
 show TX E K4 _
 refine tx_k' hK4 ?_
 refine cx_seq' fun K5 hK5 => ?_
 refine cx_draw' mixed (by kernel_rfl) ?_
 refine qd (rd_move' rfl) ?_
 obtain ⟨r37, hr37, hp⟩ := bind_some hp
 refine qd (rd_at' (K := Kf) rfl rfl hr37 Try.underlying56 info22) ?_
 refine qd (rd_load_pt' rfl rfl flat22) ?_
 refine qd (rd_move' rfl) ?_
 obtain ⟨r40, hr40, hp⟩ := bind_some hp
 refine qd (rd_at' (K := Kf) rfl rfl hr40 Try.underlying56 info22) ?_
 refine qd (rd_load_pt' rfl rfl flat22) ?_
 obtain ⟨r42, hr42, hp⟩ := bind_some hp
 refine qd (rd_bin' rfl rfl eg_flt (ru_fsub hr42)) ?_
 refine qd (rd_assign' rfl) ?_
 refine qx_nil' ?_
 show TX E K5 _
 refine tx_k' hK5 ?_
 refine cx_seq' fun K6 hK6 => ?_
 refine cx_draw' mixed (by kernel_rfl) ?_
 refine qd (rd_move' rfl) ?_
 obtain ⟨r44, hr44, hp⟩ := bind_some hp
 refine qd (rd_at' (K := Kf) rfl rfl hr44 Try.underlying56 info22) ?_
 refine qd (rd_load_pt' rfl rfl flat22) ?_
 refine qd (rd_move' rfl) ?_
 obtain ⟨r47, hr47, hp⟩ := bind_some hp
 refine qd (rd_at' (K := Kf) rfl rfl hr47 Try.underlying56 info22) ?_
 refine qd (rd_load_pt' rfl rfl flat22) ?_
 obtain ⟨r49, hr49, hp⟩ := bind_some hp
 refine qd (rd_bin' rfl rfl eg_flt (ru_fsub hr49)) ?_
 refine qd (rd_assign' rfl) ?_
 refine qx_nil' ?_
 show TX E K6 _
 refine tx_k' hK6 ?_
 refine cx_seq' fun K7 hK7 => ?_
 refine cx_draw' mixed (by kernel_rfl) ?_
 refine qd (rd_move' rfl) ?_
 obtain ⟨r51, hr51, hp⟩ := bind_some hp
 refine qd (rd_at' (K := Kf) rfl rfl hr51 Try.underlying56 info22) ?_
 refine qd (rd_load_pt' rfl rfl flat22) ?_
 refine qd (rd_move' rfl) ?_
 obtain ⟨r54, hr54, hp⟩ := bind_some hp
 refine qd (rd_at' (K := Kf) rfl rfl hr54 Try.underlying56 info22) ?_
 refine qd (rd_load_pt' rfl rfl flat22) ?_
 obtain ⟨r56, hr56, hp⟩ := bind_some hp
 refine qd (rd_bin' rfl rfl eg_flt (ru_fsub hr56)) ?_
 refine qd (rd_assign' rfl) ?_
 refine qx_nil' ?_
 show TX E K7 _
 refine tx_k' hK7 ?_
 refine cr fun K8 hK8 => ?_
 iterate 2 refine sm rfl ?_
 obtain ⟨r59, hr59, hp⟩ := bind_some hp
 refine so (ox_fop' (.inr (.inr (.inl rfl))) (fl_v rfl) (fl_v rfl) (Option.some.inj hr59) rfl rfl) fun _ => ?_
 iterate 2 refine sm rfl ?_
 obtain ⟨r62, hr62, hp⟩ := bind_some hp
 refine so (ox_fop' (.inr (.inr (.inl rfl))) (fl_v rfl) (fl_v rfl) (Option.some.inj hr62) rfl rfl) fun _ => ?_
 obtain ⟨r63, hr63, hp⟩ := bind_some hp
 refine so (ox_fop' (.inl rfl) (fl_f rfl) (fl_f rfl) (Option.some.inj hr63) rfl rfl) fun _ => ?_
 iterate 2 refine sm rfl ?_
 obtain ⟨r66, hr66, hp⟩ := bind_some hp
 refine so (ox_fop' (.inr (.inr (.inl rfl))) (fl_v rfl) (fl_v rfl) (Option.some.inj hr66) rfl rfl) fun _ => ?_
 obtain ⟨r67, hr67, hp⟩ := bind_some hp
 refine so (ox_fop' (.inl rfl) (fl_f rfl) (fl_f rfl) (Option.some.inj hr67) rfl rfl) fun _ => ?_
 refine sa rfl ?_
 refine nk hK8 ?_
 refine cx_retc' ?_
 replace hp := sj hp
 subst hp
 refine tk (L' := [(8, (Fl r67))]) (H' := []) [] (uc rfl un) pn ?_
 exact tx_ret1' Try.results46 rfl () (rv_tmp' rfl) lr

def xyz_DistanceLineToLine_j1 (k : Nat) (a0 a2 : List Nat) (a3 a1 : List Nat) (x1 x2 : Nat) : Option (Nat) :=
 br (flt x1 0)
  ((xyz_DistancePointToLine k a0 a2 a3) >>= fun r107 =>
  some r107)
  (br (fgt x1 4607182418800017408)
   ((xyz_DistancePointToLine k a1 a2 a3) >>= fun r114 =>
   some r114)
   (br (flt x2 0)
    ((xyz_DistancePointToLine k a2 a0 a1) >>= fun r121 =>
    some r121)
    (br (fgt x2 4607182418800017408)
     ((xyz_DistancePointToLine k a3 a0 a1) >>= fun r128 =>
     some r128)
     ((idx a0 0) >>= fun r130 =>
     (idx a1 0) >>= fun r134 =>
     (idx a0 0) >>= fun r137 =>
     (fsub r134 r137) >>= fun r139 =>
     (num x1) >>= fun u2 =>
     (fmul x1 r139) >>= fun r140 =>
     (fadd r130 r140) >>= fun r141 =>
     (idx a0 1) >>= fun r143 =>
     (idx a1 1) >>= fun r147 =>
     (idx a0 1) >>= fun r150 =>
     (fsub r147 r150) >>= fun r152 =>
     (num x1) >>= fun u3 =>
     (fmul x1 r152) >>= fun r153 =>
     (fadd r143 r153) >>= fun r154 =>
     (idx a0 2) >>= fun r156 =>
     (idx a1 2) >>= fun r160 =>
     (idx a0 2) >>= fun r163 =>
     (fsub r160 r163) >>= fun r165 =>
     (num x1) >>= fun u4 =>
     (fmul x1 r165) >>= fun r166 =>
     (fadd r156 r166) >>= fun r167 =>
     (idx a2 0) >>= fun r169 =>
     (idx a3 0) >>= fun r173 =>
     (idx a2 0) >>= fun r176 =>
     (fsub r173 r176) >>= fun r178 =>
     (num x2) >>= fun u5 =>
     (fmul x2 r178) >>= fun r179 =>
     (fadd r169 r179) >>= fun r180 =>
     (idx a2 1) >>= fun r182 =>
     (idx a3 1) >>= fun r186 =>
     (idx a2 1) >>= fun r189 =>
     (fsub r186 r189) >>= fun r191 =>
     (num x2) >>= fun u6 =>
     (fmul x2 r191) >>= fun r192 =>
     (fadd r182 r192) >>= fun r193 =>
     (idx a2 2) >>= fun r195 =>
     (idx a3 2) >>= fun r199 =>
     (idx a2 2) >>= fun r202 =>
     (fsub r199 r202) >>= fun r204 =>
     (num x2) >>= fun u7 =>
     (fmul x2 r204) >>= fun r205 =>
     (fadd r195 r205) >>= fun r206 =>
     (xyz_Distance k ([r141, r154, r167]) ([r180, r193, r206])) >>= fun r215 =>
     some r215))))
def xyz_DistanceLineToLine (k : Nat) (a0 a1 : List Nat) (a2 a3 : List Nat) : Option (Nat) :=
 (xyz_Equals k a0 a1) >>= fun r25 =>
 br r25
  ((xyz_DistancePointToLine k a0 a2 a3) >>= fun r29 =>
  some r29)
  ((xyz_Equals k a2 a1) >>= fun r32 =>
  br r32
   ((xyz_DistancePointToLine k a2 a0 a1) >>= fun r36 =>
   some r36)
   ((xyz_VectorDot k a0 a1 a0 a1) >>= fun r41 =>
   (xyz_VectorDot k a0 a1 a2 a3) >>= fun r46 =>
   (xyz_VectorDot k a2 a3 a2 a3) >>= fun r51 =>
   (xyz_VectorDot k a0 a1 a2 a0) >>= fun r56 =>
   (xyz_VectorDot k a2 a3 a2 a0) >>= fun r61 =>
   (some (gmul r41 r51)) >>= fun r64 =>
   (some (gmul r46 r46)) >>= fun r67 =>
   (some (gsub r64 r67)) >>= fun r68 =>
   (num r68) >>= fun u1 =>
   (math_IsNaN k r68) >>= fun r70 =>
   br r70
    (none)
    (br (fle r68 0)
     (br (fgt r46 r51)
      ((some (gdiv r56 r46)) >>= fun r79 =>
      xyz_DistanceLineToLine_j1 k a0 a2 a3 a1 0 r79)
      ((some (gdiv r61 r51)) >>= fun r82 =>
      xyz_DistanceLineToLine_j1 k a0 a2 a3 a1 0 r82))
     ((some (gmul r46 r61)) >>= fun r85 =>
     (some (gmul r51 r56)) >>= fun r88 =>
     (some (gsub r85 r88)) >>= fun r89 =>
     (some (gdiv r89 r68)) >>= fun r91 =>
     (some (gmul r41 r61)) >>= fun r94 =>
     (some (gmul r46 r56)) >>= fun r97 =>
     (some (gsub r94 r97)) >>= fun r98 =>
     (some (gdiv r98 r68)) >>= fun r100 =>
     xyz_DistanceLineToLine_j1 k a0 a2 a3 a1 r91 r100))))

theorem xyz_DistanceLineToLine_sim {k : Nat}  (a0 a1 : List Nat) (a2 a3 : List Nat) {out : Nat} (hp : xyz_DistanceLineToLine k a0 a1 a2 a3 = some out) : Sx.Fn Try.prog 20 [(Sl Kf a0), (Sl Kf a1), (Sl Kf a2), (Sl Kf a3)] [] (fun w : Unit => (Fl out)) (fun w => []) := by
 unfold xyz_DistanceLineToLine at hp
 refine fn_of Try.func20 rfl Try.ntmps20 rfl fun E hM => ?_
 refine cr fun K1 hK1 => ?_
 refine sa rfl ?_
 refine nk hK1 ?_
 refine cx_seq' fun K2 hK2 => ?_
 refine cr fun K3 hK3 => ?_
 iterate 2 refine sm rfl ?_
 obtain ⟨r25, hr25, hp⟩ := bind_some hp
 refine so (oz (ent_fn' Try.func44 isn44 rfl rfl) (xyz_Equals_sim _ _ hr25)) fun ⟨⟩ => ?_
 refine nk hK3 ?_
 refine cx_cond' rfl (fun h1 => ?_) (fun h1 => ?_)
 ·replace hp := (br_t h1).symm.trans hp
  refine cr fun K4 hK4 => ?_
  iterate 3 refine sm rfl ?_
  obtain ⟨r29, hr29, hp⟩ := bind_some hp
  refine so (oz (ent_fn' Try.func45 isn45 rfl rfl) (xyz_DistancePointToLine_sim _ _ _ hr29)) fun ⟨⟩ => ?_
  refine sa rfl ?_
  refine nk hK4 ?_
  refine cx_retc' ?_
  replace hp := sj hp
  subst hp
  refine tk (L' := [(8, (Fl r29))]) (H' := []) [] (uc rfl un) pn ?_
  exact tx_ret1' Try.results20 rfl () (rv_tmp' rfl) lr
 replace hp := (br_f h1).symm.trans hp
 refine cx_skip' ?_
 show TX E K2 _
 refine tx_k' hK2 ?_
 refine cx_seq' fun K5 hK5 => ?_
 refine cr fun K6 hK6 => ?_
 iterate 2 refine sm rfl ?_
 obtain ⟨r32, hr32, hp⟩ := bind_some hp
 refine so (oz (ent_fn' Try.func44 isn44 rfl rfl) (xyz_Equals_sim _ _ hr32)) fun ⟨⟩ => ?_
 refine nk hK6 ?_
 refine cx_cond' rfl (fun h2 => ?_) (fun h2 => ?_)
 ·replace hp := (br_t h2).symm.trans hp
  refine cr fun K7 hK7 => ?_
  iterate 3 refine sm rfl ?_
  obtain ⟨r36, hr36, hp⟩ := bind_some hp
  refine so (oz (ent_fn' Try.func45 isn45 rfl rfl) (xyz_DistancePointToLine_sim _ _ _ hr36)) fun ⟨⟩ => ?_
  refine sa rfl ?_
  refine nk hK7 ?_
  refine cx_retc' ?_
  replace hp := sj hp
  subst hp
  refine tk (L' := [(8, (Fl r36))]) (H' := []) [] (uc rfl un) pn ?_
  exact tx_ret1' Try.results20 rfl () (rv_tmp' rfl) lr
 replace hp := (br_f h2).symm.trans hp
 refine cx_skip' ?_
 show TX E K5 _
 refine tx_k' hK5 ?_
 refine cr fun K8 hK8 => ?_
 iterate 4 refine sm rfl ?_
 obtain ⟨r41, hr41, hp⟩ := bind_some hp
 refine so (oz (ent_fn' Try.func46 isn46 rfl rfl) (xyz_VectorDot_sim _ _ _ _ hr41)) fun ⟨⟩ => ?_
 refine sa rfl ?_
 refine nk hK8 ?_
 refine cr fun K9 hK9 => ?_
 iterate 4 refine sm rfl ?_
 obtain ⟨r46, hr46, hp⟩ := bind_some hp
 refine so (oz (ent_fn' Try.func46 isn46 rfl rfl) (xyz_VectorDot_sim _ _ _ _ hr46)) fun ⟨⟩ => ?_
 refine sa rfl ?_
 refine nk hK9 ?_
 refine cr fun K10 hK10 => ?_
 iterate 4 refine sm rfl ?_
 obtain ⟨r51, hr51, hp⟩ := bind_some hp
 refine so (oz (ent_fn' Try.func46 isn46 rfl rfl) (xyz_VectorDot_sim _ _ _ _ hr51)) fun ⟨⟩ => ?_
 refine sa rfl ?_
 refine nk hK10 ?_
 refine cr fun K11 hK11 => ?_
 iterate 4 refine sm rfl ?_
 obtain ⟨r56, hr56, hp⟩ := bind_some hp
 refine so (oz (ent_fn' Try.func46 isn46 rfl rfl) (xyz_VectorDot_sim _ _ _ _ hr56)) fun ⟨⟩ => ?_
 refine sa rfl ?_
 refine nk hK11 ?_
 refine cr fun K12 hK12 => ?_
 iterate 4 refine sm rfl ?_
 obtain ⟨r61, hr61, hp⟩ := bind_some hp
 refine so (oz (ent_fn' Try.func46 isn46 rfl rfl) (xyz_VectorDot_sim _ _ _ _ hr61)) fun ⟨⟩ => ?_
 refine sa rfl ?_
 refine nk hK12 ?_
 refine cr fun K13 hK13 => ?_
 iterate 2 refine sm rfl ?_
 obtain ⟨r64, hr64, hp⟩ := bind_some hp
 refine so (ox_fop' (.inr (.inr (.inl rfl))) (fl_f rfl) (fl_f rfl) (Option.some.inj hr64) rfl rfl) fun _ => ?_
 iterate 2 refine sm rfl ?_
 obtain ⟨r67, hr67, hp⟩ := bind_some hp
 refine so (ox_fop' (.inr (.inr (.inl rfl))) (fl_f rfl) (fl_f rfl) (Option.some.inj hr67) rfl rfl) fun _ => ?_
 obtain ⟨r68, hr68, hp⟩ := bind_some hp
 refine so (ox_fop' (.inr (.inl rfl)) (fl_f rfl) (fl_f rfl) (Option.some.inj hr68) rfl rfl) fun _ => ?_
 refine sa rfl ?_
 refine nk hK13 ?_
 refine cx_seq' fun K14 hK14 => ?_
 refine cr fun K15 hK15 => ?_
 refine sm rfl ?_
 obtain ⟨u1, hu1, hp⟩ := bind_some hp
 refine tx_slot' 69 (y := (Vg r68)) rfl (imp_num (num_some hu1).2) ?_
 obtain ⟨r70, hr70, hp⟩ := bind_some hp
 refine so (oz (ent_fn' Try.func47 isn47 rfl rfl) (math_IsNaN_sim _ hr70)) fun ⟨⟩ => ?_
 refine nk hK15 ?_
 refine cx_cond' rfl (fun h3 => ?_) (fun h3 => ?_)
 ·replace hp := (br_t h3).symm.trans hp
  refine cx_region' ?_
  refine s0 (rd_iface' rfl ⟨_, Try.underlying9, fun _ h => (nomatch h)⟩) ?_
  cases hp
 replace hp := (br_f h3).symm.trans hp
 refine cx_skip' ?_
 show TX E K14 _
 refine tx_k' hK14 ?_
 refine cr fun K16 hK16 => ?_
 iterate 2 refine sa rfl ?_
 refine nk hK16 ?_
 refine cx_join' (fun (v1 : Nat × Nat) => (⟨216, [], [(0, (Sl Kf a0)), (1, (Sl Kf a1)), (2, (Sl Kf a2)), (3, (Sl Kf a3)), (15, (Fl v1.1)), (16, (Fl v1.2))], []⟩ : St)) (fun (v1 : Nat × Nat) => xyz_DistanceLineToLine_j1 k a0 a2 a3 a1 v1.1 v1.2 = some out) ?_ ?_
 ·rintro ⟨x1, x2⟩ hp
  replace hp : xyz_DistanceLineToLine_j1 k a0 a2 a3 a1 x1 x2 = some out := hp
  unfold xyz_DistanceLineToLine_j1 at hp
  refine cx_seq' fun K22 hK22 => ?_
  refine cx_block' ?_
  refine cr fun K23 hK23 => ?_
  refine sm rfl ?_
  refine s0 (rd_fcmp' (fl_f rfl) (fl_v rfl) rfl) ?_
  refine sa rfl ?_
  refine nk hK23 ?_
  refine cx_cond' rfl (fun h6 => ?_) (fun h6 => ?_)
  ·replace hp := (br_t h6).symm.trans hp
   refine cr fun K24 hK24 => ?_
   iterate 3 refine sm rfl ?_
   obtain ⟨r107, hr107, hp⟩ := bind_some hp
   refine so (oz (ent_fn' Try.func45 isn45 rfl rfl) (xyz_DistancePointToLine_sim _ _ _ hr107)) fun ⟨⟩ => ?_
   refine sa rfl ?_
   refine nk hK24 ?_
   refine cx_retc' ?_
   replace hp := sj hp
   subst hp
   refine tk (L' := [(8, (Fl r107))]) (H' := []) [] (uc rfl un) pn ?_
   exact tx_ret1' Try.results20 rfl () (rv_tmp' rfl) lr
  replace hp := (br_f h6).symm.trans hp
  refine cr fun K25 hK25 => ?_
  refine sm rfl ?_
  refine s0 (rd_fcmp' (fl_f rfl) (fl_v rfl) rfl) ?_
  refine sa rfl ?_
  refine nk hK25 ?_
  refine cx_cond' rfl (fun h7 => ?_) (fun h7 => ?_)
  ·replace hp := (br_t h7).symm.trans hp
   refine cr fun K26 hK26 => ?_
   iterate 3 refine sm rfl ?_
   obtain ⟨r114, hr114, hp⟩ := bind_some hp
   refine so (oz (ent_fn' Try.func45 isn45 rfl rfl) (xyz_DistancePointToLine_sim _ _ _ hr114)) fun ⟨⟩ => ?_
   refine sa rfl ?_
   refine nk hK26 ?_
   refine cx_retc' ?_
   replace hp := sj hp
   subst hp
   refine tk (L' := [(8, (Fl r114))]) (H' := []) [] (uc rfl un) pn ?_
   exact tx_ret1' Try.results20 rfl () (rv_tmp' rfl) lr
  replace hp := (br_f h7).symm.trans hp
  refine cr fun K27 hK27 => ?_
  refine sm rfl ?_
  refine s0 (rd_fcmp' (fl_f rfl) (fl_v rfl) rfl) ?_
  refine sa rfl ?_
  refine nk hK27 ?_
  refine cx_cond' rfl (fun h8 => ?_) (fun h8 => ?_)
  ·replace hp := (br_t h8).symm.trans hp
   refine cr fun K28 hK28 => ?_
   iterate 3 refine sm rfl ?_
   obtain ⟨r121, hr121, hp⟩ := bind_some hp
   refine so (oz (ent_fn' Try.func45 isn45 rfl rfl) (xyz_DistancePointToLine_sim _ _ _ hr121)) fun ⟨⟩ => ?_
   refine sa rfl ?_
   refine nk hK28 ?_
   refine cx_retc' ?_
   replace hp := sj hp
   subst hp
   refine tk (L' := [(8, (Fl r121))]) (H' := []) [] (uc rfl un) pn ?_
   exact tx_ret1' Try.results20 rfl () (rv_tmp' rfl) lr
  replace hp := (br_f h8).symm.trans hp
  refine cr fun K29 hK29 => ?_
  refine sm rfl ?_
  refine s0 (rd_fcmp' (fl_f rfl) (fl_v rfl) rfl) ?_
  refine sa rfl ?_
  refine nk hK29 ?_
  refine cx_cond' rfl (fun h9 => ?_) (fun h9 => ?_)
  ·replace hp := (br_t h9).symm.trans hp
   refine cr fun K30 hK30 => ?_
   iterate 3 refine sm rfl ?_
   obtain ⟨r128, hr128, hp⟩ := bind_some hp
   refine so (oz (ent_fn' Try.func45 isn45 rfl rfl) (xyz_DistancePointToLine_sim _ _ _ hr128)) fun ⟨⟩ => ?_
   refine sa rfl ?_
   refine nk hK30 ?_
   refine cx_retc' ?_
   replace hp := sj hp
   subst hp
   refine tk (L' := [(8, (Fl r128))]) (H' := []) [] (uc rfl un) pn ?_
   exact tx_ret1' Try.results20 rfl () (rv_tmp' rfl) lr
  replace hp := (br_f h9).symm.trans hp
  refine cx_skip' ?_
  show TX E K22 _
  refine tx_k' hK22 ?_
  refine cx_seq' fun K31 hK31 => ?_
  refine cx_draw' mixed (by kernel_rfl) ?_
  refine qd (rd_move' rfl) ?_
  obtain ⟨r130, hr130, hp⟩ := bind_some hp
  refine qd (rd_at' (K := Kf) rfl rfl hr130 Try.underlying56 info22) ?_
  refine qd (rd_load_pt' rfl rfl flat22) ?_
  iterate 2 refine qd (rd_move' rfl) ?_
  obtain ⟨r134, hr134, hp⟩ := bind_some hp
  refine qd (rd_at' (K := Kf) rfl rfl hr134 Try.underlying56 info22) ?_
  refine qd (rd_load_pt' rfl rfl flat22) ?_
  refine qd (rd_move' rfl) ?_
  obtain ⟨r137, hr137, hp⟩ := bind_some hp
  refine qd (rd_at' (K := Kf) rfl rfl hr137 Try.underlying56 info22) ?_
  refine qd (rd_load_pt' rfl rfl flat22) ?_
  obtain ⟨r139, hr139, hp⟩ := bind_some hp
  refine qd (rd_bin' rfl rfl eg_flt (ru_fsub hr139)) ?_
  obtain ⟨u2, hu2, hp⟩ := bind_some hp
  refine tq_slot' 132 (y := (Vg x1)) rfl (imp_num (num_some hu2).2) ?_
  obtain ⟨r140, hr140, hp⟩ := bind_some hp
  refine qd (rd_bin' rfl rfl eg_flt (ru_fmul hr140)) ?_
  obtain ⟨r141, hr141, hp⟩ := bind_some hp
  refine qd (rd_bin' rfl rfl eg_flt (ru_fadd hr141)) ?_
  refine qd (rd_assign' rfl) ?_
  refine qx_nil' ?_
  show TX E K31 _
  refine tx_k' hK31 ?_
  refine cx_seq' fun K32 hK32 => ?_
  refine cx_draw' mixed (by kernel_rfl) ?_
  refine qd (rd_move' rfl) ?_
  obtain ⟨r143, hr143, hp⟩ := bind_some hp
  refine qd (rd_at' (K := Kf) rfl rfl hr143 Try.underlying56 info22) ?_
  refine qd (rd_load_pt' rfl rfl flat22) ?_
  iterate 2 refine qd (rd_move' rfl) ?_
  obtain ⟨r147, hr147, hp⟩ := bind_some hp
  refine qd (rd_at' (K := Kf) rfl rfl hr147 Try.underlying56 info22) ?_
  refine qd (rd_load_pt' rfl rfl flat22) ?_
  refine qd (rd_move' rfl) ?_
  obtain ⟨r150, hr150, hp⟩ := bind_some hp
  refine qd (rd_at' (K := Kf) rfl rfl hr150 Try.underlying56 info22) ?_
  refine qd (rd_load_pt' rfl rfl flat22) ?_
  obtain ⟨r152, hr152, hp⟩ := bind_some hp
  refine qd (rd_bin' rfl rfl eg_flt (ru_fsub hr152)) ?_
  obtain ⟨u3, hu3, hp⟩ := bind_some hp
  refine tq_slot' 145 (y := (Vg x1)) rfl (imp_num (num_some hu3).2) ?_
  obtain ⟨r153, hr153, hp⟩ := bind_some hp
  refine qd (rd_bin' rfl rfl eg_flt (ru_fmul hr153)) ?_
  obtain ⟨r154, hr154, hp⟩ := bind_some hp
  refine qd (rd_bin' rfl rfl eg_flt (ru_fadd hr154)) ?_
  refine qd (rd_assign' rfl) ?_
  refine qx_nil' ?_
  show TX E K32 _
  refine tx_k' hK32 ?_
  refine cx_seq' fun K33 hK33 => ?_
  refine cx_draw' mixed (by kernel_rfl) ?_
  refine qd (rd_move' rfl) ?_
  obtain ⟨r156, hr156, hp⟩ := bind_some hp
  refine qd (rd_at' (K := Kf) rfl rfl hr156 Try.underlying56 info22) ?_
  refine qd (rd_load_pt' rfl rfl flat22) ?_
  iterate 2 refine qd (rd_move' rfl) ?_
  obtain ⟨r160, hr160, hp⟩ := bind_some hp
  refine qd (rd_at' (K := Kf) rfl rfl hr160 Try.underlying56 info22) ?_
  refine qd (rd_load_pt' rfl rfl flat22) ?_
  refine qd (rd_move' rfl) ?_
  obtain ⟨r163, hr163, hp⟩ := bind_some hp
  refine qd (rd_at' (K := Kf) rfl rfl hr163 Try.underlying56 info22) ?_
  refine qd (rd_load_pt' rfl rfl flat22) ?_
  obtain ⟨r165, hr165, hp⟩ := bind_some hp
  refine qd (rd_bin' rfl rfl eg_flt (ru_fsub hr165)) ?_
  obtain ⟨u4, hu4, hp⟩ := bind_some hp
  refine tq_slot' 158 (y := (Vg x1)) rfl (imp_num (num_some hu4).2) ?_
  obtain ⟨r166, hr166, hp⟩ := bind_some hp
  refine qd (rd_bin' rfl rfl eg_flt (ru_fmul hr166)) ?_
  obtain ⟨r167, hr167, hp⟩ := bind_some hp
  refine qd (rd_bin' rfl rfl eg_flt (ru_fadd hr167)) ?_
  refine qd (rd_assign' rfl) ?_
  refine qx_nil' ?_
  show TX E K33 _
  refine tx_k' hK33 ?_
  refine cx_seq' fun K34 hK34 => ?_
  refine cx_draw' mixed (by kernel_rfl) ?_
  refine qd (rd_move' rfl) ?_
  obtain ⟨r169, hr169, hp⟩ := bind_some hp
  refine qd (rd_at' (K := Kf) rfl rfl hr169 Try.underlying56 info22) ?_
  refine qd (rd_load_pt' rfl rfl flat22) ?_
  iterate 2 refine qd (rd_move' rfl) ?_
  obtain ⟨r173, hr173, hp⟩ := bind_some hp
  refine qd (rd_at' (K := Kf) rfl rfl hr173 Try.underlying56 info22) ?_
  refine qd (rd_load_pt' rfl rfl flat22) ?_
  refine qd (rd_move' rfl) ?_
  obtain ⟨r176, hr176, hp⟩ := bind_some hp
  refine qd (rd_at' (K := Kf) rfl rfl hr176 Try.underlying56 info22) ?_
  refine qd (rd_load_pt' rfl rfl flat22) ?_
  obtain ⟨r178, hr178, hp⟩ := bind_some hp
  refine qd (rd_bin' rfl rfl eg_flt (ru_fsub hr178)) ?_
  obtain ⟨u5, hu5, hp⟩ := bind_some hp
  refine tq_slot' 171 (y := (Vg x2)) rfl (imp_num (num_some hu5).2) ?_
  obtain ⟨r179, hr179, hp⟩ := bind_some hp
  refine qd (rd_bin' rfl rfl eg_flt (ru_fmul hr179)) ?_
  obtain ⟨r180, hr180, hp⟩ := bind_some hp
  refine qd (rd_bin' rfl rfl eg_flt (ru_fadd hr180)) ?_
  refine qd (rd_assign' rfl) ?_
  refine qx_nil' ?_
  show TX E K34 _
  refine tx_k' hK34 ?_
  refine cx_seq' fun K35 hK35 => ?_
  refine cx_draw' mixed (by kernel_rfl) ?_
  refine qd (rd_move' rfl) ?_
  obtain ⟨r182, hr182, hp⟩ := bind_some hp
  refine qd (rd_at' (K := Kf) rfl rfl hr182 Try.underlying56 info22) ?_
  refine qd (rd_load_pt' rfl rfl flat22) ?_
  iterate 2 refine qd (rd_move' rfl) ?_
  obtain ⟨r186, hr186, hp⟩ := bind_some hp
  refine qd (rd_at' (K := Kf) rfl rfl hr186 Try.underlying56 info22) ?_
  refine qd (rd_load_pt' rfl rfl flat22) ?_
  refine qd (rd_move' rfl) ?_
  obtain ⟨r189, hr189, hp⟩ := bind_some hp
  refine qd (rd_at' (K := Kf) rfl rfl hr189 Try.underlying56 info22) ?_
  refine qd (rd_load_pt' rfl rfl flat22) ?_
  obtain ⟨r191, hr191, hp⟩ := bind_some hp
  refine qd (rd_bin' rfl rfl eg_flt (ru_fsub hr191)) ?_
  obtain ⟨u6, hu6, hp⟩ := bind_some hp
  refine tq_slot' 184 (y := (Vg x2)) rfl (imp_num (num_some hu6).2) ?_
  obtain ⟨r192, hr192, hp⟩ := bind_some hp
  refine qd (rd_bin' rfl rfl eg_flt (ru_fmul hr192)) ?_
  obtain ⟨r193, hr193, hp⟩ := bind_some hp
  refine qd (rd_bin' rfl rfl eg_flt (ru_fadd hr193)) ?_
  refine qd (rd_assign' rfl) ?_
  refine qx_nil' ?_
  show TX E K35 _
  refine tx_k' hK35 ?_
  refine cx_seq' fun K36 hK36 => ?_
  refine cx_draw' mixed (by kernel_rfl) ?_
  refine qd (rd_move' rfl) ?_
  obtain ⟨r195, hr195, hp⟩ := bind_some hp
  refine qd (rd_at' (K := Kf) rfl rfl hr195 Try.underlying56 info22) ?_
  refine qd (rd_load_pt' rfl rfl flat22) ?_
  iterate 2 refine qd (rd_move' rfl) ?_
  obtain ⟨r199, hr199, hp⟩ := bind_some hp
  refine qd (rd_at' (K := Kf) rfl rfl hr199 Try.underlying56 info22) ?_
  refine qd (rd_load_pt' rfl rfl flat22) ?_
  refine qd (rd_move' rfl) ?_
  obtain ⟨r202, hr202, hp⟩ := bind_some hp
  refine qd (rd_at' (K := Kf) rfl rfl hr202 Try.underlying56 info22) ?_
  refine qd (rd_load_pt' rfl rfl flat22) ?_
  obtain ⟨r204, hr204, hp⟩ := bind_some hp
  refine qd (rd_bin' rfl rfl eg_flt (ru_fsub hr204)) ?_
  obtain ⟨u7, hu7, hp⟩ := bind_some hp
  refine tq_slot' 197 (y := (Vg x2)) rfl (imp_num (num_some hu7).2) ?_
  obtain ⟨r205, hr205, hp⟩ := bind_some hp
  refine qd (rd_bin' rfl rfl eg_flt (ru_fmul hr205)) ?_
  obtain ⟨r206, hr206, hp⟩ := bind_some hp
  refine qd (rd_bin' rfl rfl eg_flt (ru_fadd hr206)) ?_
  refine qd (rd_assign' rfl) ?_
  refine qx_nil' ?_
  show TX E K36 _
  refine tx_k' hK36 ?_
  refine cr fun K37 hK37 => ?_
  iterate 3 refine sm rfl ?_
  refine so (ox_rowlit' (K := Kf) (xs := [r141, r154, r167]) (qs := [(0, [(Vg r141)]), (1, [(Vg r154)]), (2, [(Vg r167)])]) ⟨rfl, ⟨_, rfl, (lv_vl rfl rfl)⟩, ⟨rfl, ⟨_, rfl, (lv_vl rfl rfl)⟩, ⟨rfl, ⟨_, rfl, (lv_vl rfl rfl)⟩, trivial⟩⟩⟩ Try.underlying56 info22 rfl rfl rfl rfl rfl (by kernel_rfl) rfl rfl rfl) fun g210 => ?_
  iterate 3 refine sm rfl ?_
  refine so (ox_rowlit' (K := Kf) (xs := [r180, r193, r206]) (qs := [(0, [(Vg r180)]), (1, [(Vg r193)]), (2, [(Vg r206)])]) ⟨rfl, ⟨_, rfl, (lv_vl rfl rfl)⟩, ⟨rfl, ⟨_, rfl, (lv_vl rfl rfl)⟩, ⟨rfl, ⟨_, rfl, (lv_vl rfl rfl)⟩, trivial⟩⟩⟩ Try.underlying56 info22 rfl rfl rfl rfl rfl (by kernel_rfl) rfl rfl rfl) fun g214 => ?_
  obtain ⟨r215, hr215, hp⟩ := bind_some hp
  refine so (ox_brw' (frz_comp (frz_row 1 [(210, (Vw g210), (Sl Kf ([r141, r154, r167])))] (K := Kf) (xs := [r141, r154, r167]) (by decide) rfl ⟨⟨rfl, frz_it⟩, trivial⟩ (H' := [(Rg Kf 22 g214 ([r180, r193, r206]))]) frzH_refl) (frz_row 0 [(214, (Vw g214), (Sl Kf ([r180, r193, r206])))] (K := Kf) (xs := [r180, r193, r206]) (by decide) rfl ⟨⟨rfl, frz_it⟩, trivial⟩ (H' := []) frzH_refl)) (ent_fn' Try.func48 isn48 rfl rfl) (xyz_Distance_sim _ _ hr215 : Sx.Fn Try.prog 48 [(Sl Kf ([r141, r154, r167])), (Sl Kf ([r180, r193, r206]))] [] (fun x : Unit => (Fl r215)) (fun x => [])) pu_fl rfl rfl) fun ⟨⟩ => ?_
  refine sa rfl ?_
  refine nk hK37 ?_
  refine cx_retc' ?_
  replace hp := sj hp
  subst hp
  refine tk (L' := [(8, (Fl r215))]) (H' := []) [] (uc rfl un) pn ?_
  exact tx_ret1' Try.results20 rfl () (rv_tmp' rfl) lr
 intro K17 hK17
 refine cr fun K18 hK18 => ?_
 refine sm rfl ?_
 refine s0 (rd_fcmp' (fl_f rfl) (fl_v rfl) rfl) ?_
 refine nk hK18 ?_
 refine cx_cond' rfl (fun h4 => ?_) (fun h4 => ?_)
 ·replace hp := (br_t h4).symm.trans hp
  refine cr fun K19 hK19 => ?_
  refine sa rfl ?_
  refine nk hK19 ?_
  refine cr fun K20 hK20 => ?_
  iterate 2 refine sm rfl ?_
  refine s0 (rd_fcmp' (fl_f rfl) (fl_f rfl) rfl) ?_
  refine nk hK20 ?_
  refine cx_cond' rfl (fun h5 => ?_) (fun h5 => ?_)
  ·replace hp := (br_t h5).symm.trans hp
   refine cx_region' ?_
   iterate 2 refine sm rfl ?_
   obtain ⟨r79, hr79, hp⟩ := bind_some hp
   refine so (ox_fop' (.inr (.inr (.inr rfl))) (fl_f rfl) (fl_f rfl) (Option.some.inj hr79) rfl rfl) fun _ => ?_
   refine sa rfl ?_
   refine sx_nil' ?_
   show TX E K17 _
   refine tx_slot' 15 (y := (Fl 0)) rfl imp_vf ?_
   exact tk [] (u6 rfl rfl rfl rfl rfl rfl) pn (hK17 (0, r79) hp)
  replace hp := (br_f h5).symm.trans hp
  refine cx_region' ?_
  iterate 2 refine sm rfl ?_
  obtain ⟨r82, hr82, hp⟩ := bind_some hp
  refine so (ox_fop' (.inr (.inr (.inr rfl))) (fl_f rfl) (fl_f rfl) (Option.some.inj hr82) rfl rfl) fun _ => ?_
  refine sa rfl ?_
  refine sx_nil' ?_
  show TX E K17 _
  refine tx_slot' 15 (y := (Fl 0)) rfl imp_vf ?_
  exact tk [] (u6 rfl rfl rfl rfl rfl rfl) pn (hK17 (0, r82) hp)
 replace hp := (br_f h4).symm.trans hp
 refine cr fun K21 hK21 => ?_
 iterate 2 refine sm rfl ?_
 obtain ⟨r85, hr85, hp⟩ := bind_some hp
 refine so (ox_fop' (.inr (.inr (.inl rfl))) (fl_f rfl) (fl_f rfl) (Option.some.inj hr85) rfl rfl) fun _ => ?_
 iterate 2 refine sm rfl ?_
 obtain ⟨r88, hr88, hp⟩ := bind_some hp
 refine so (ox_fop' (.inr (.inr (.inl rfl))) (fl_f rfl) (fl_f rfl) (Option.some.inj hr88) rfl rfl) fun _ => ?_
 obtain ⟨r89, hr89, hp⟩ := bind_some hp
 refine so (ox_fop' (.inr (.inl rfl)) (fl_f rfl) (fl_f rfl) (Option.some.inj hr89) rfl rfl) fun _ => ?_
 refine sm rfl ?_
 obtain ⟨r91, hr91, hp⟩ := bind_some hp
 refine so (ox_fop' (.inr (.inr (.inr rfl))) (fl_f rfl) (fl_f rfl) (Option.some.inj hr91) rfl rfl) fun _ => ?_
 refine sa rfl ?_
 refine nk hK21 ?_
 refine cx_region' ?_
 iterate 2 refine sm rfl ?_
 obtain ⟨r94, hr94, hp⟩ := bind_some hp
 refine so (ox_fop' (.inr (.inr (.inl rfl))) (fl_f rfl) (fl_f rfl) (Option.some.inj hr94) rfl rfl) fun _ => ?_
 iterate 2 refine sm rfl ?_
 obtain ⟨r97, hr97, hp⟩ := bind_some hp
 refine so (ox_fop' (.inr (.inr (.inl rfl))) (fl_f rfl) (fl_f rfl) (Option.some.inj hr97) rfl rfl) fun _ => ?_
 obtain ⟨r98, hr98, hp⟩ := bind_some hp
 refine so (ox_fop' (.inr (.inl rfl)) (fl_f rfl) (fl_f rfl) (Option.some.inj hr98) rfl rfl) fun _ => ?_
 refine sm rfl ?_
 obtain ⟨r100, hr100, hp⟩ := bind_some hp
 refine so (ox_fop' (.inr (.inr (.inr rfl))) (fl_f rfl) (fl_f rfl) (Option.some.inj hr100) rfl rfl) fun _ => ?_
 refine sa rfl ?_
 refine sx_nil' ?_
 show TX E K17 _
 exact tk [] (u6 rfl rfl rfl rfl rfl rfl) pn (hK17 (r91, r100) hp)

def impl_LineLine3 (k a0_0 : Nat) (a0_1 a0_2 : Nat) (a1_0 a1_1 : Nat) (a1_2 a2_0 : Nat) (a2_1 a2_2 : Nat) (a3_0 a3_1 a3_2 : Nat) : Option (Nat × Bool) :=
 (impl_coord3 k a0_0 a0_1 a0_2) >>= fun r12 =>
 (impl_coord3 k a1_0 a1_1 a1_2) >>= fun r14 =>
 (impl_coord3 k a2_0 a2_1 a2_2) >>= fun r16 =>
 (impl_coord3 k a3_0 a3_1 a3_2) >>= fun r18 =>
 (xyz_DistanceLineToLine k r12 r14 r16 r18) >>= fun r19 =>
 some (r19, true)

theorem impl_LineLine3_sim {k : Nat}  (a0_0 a0_1 : Nat) (a0_2 a1_0 : Nat) (a1_1 a1_2 : Nat) (a2_0 a2_1 : Nat) (a2_2 a3_0 : Nat) (a3_1 a3_2 : Nat) {out : Nat × Bool} (hp : impl_LineLine3 k a0_0 a0_1 a0_2 a1_0 a1_1 a1_2 a2_0 a2_1 a2_2 a3_0 a3_1 a3_2 = some out) : Sx.Fn Try.prog 6 [(Ag (C7 a0_0 a0_1 a0_2)), (Ag (C7 a1_0 a1_1 a1_2)), (Ag (C7 a2_0 a2_1 a2_2)), (Ag (C7 a3_0 a3_1 a3_2))] [] (fun w : Unit => (Tu [(Fl out.1), (Vb out.2)])) (fun w => []) := by
 unfold impl_LineLine3 at hp
 refine fnD_of Try.func6 rfl Try.ntmps6 rfl fun E hM => ?_
 refine cr fun K1 hK1 => ?_
 refine so (ox_box' rfl (lv_ag _) rfl rfl) fun q4 => ?_
 refine so (ox_box' rfl (lv_ag _) rfl rfl) fun q5 => ?_
 refine so (ox_box' rfl (lv_ag _) rfl rfl) fun q6 => ?_
 refine so (ox_box' rfl (lv_ag _) rfl rfl) fun q7 => ?_
 refine so (ox_alloc' info22 rfl rfl rfl rfl (l := [(Vg 0)]) rfl) fun q8 => ?_
 refine so (ox_alloc' info4 rfl rfl rfl rfl (l := [(Vb false)]) rfl) fun q9 => ?_
 refine nk hK1 ?_
 refine cr fun K2 hK2 => ?_
 refine s0 (rd_mkfunc' (us := [.pointer (some q8), .pointer (some q9)]) rfl) ?_
 refine so (ox_defer' rfl rfl) fun _ => ?_
 refine nk hK2 ?_
 refine cx_seq' fun K3 hK3 => ?_
 refine cx_plan' [] [(9, 1), (10, 1)] [(0, 1), (2, 1), (4, 1), (6, 1), (1, 0), (3, 0), (5, 0), (7, 0), (8, 0), (9, 0), (10, 0)] mixed (by kernel_rfl) ?_
 refine pd rfl (rd_load_agg' (i := 5) (o := 0) (nn := 3) rfl (ar rfl rfl rfl rfl) rfl agg24 (l' := (C7 a0_0 a0_1 a0_2)) rfl) ?_
 refine pd rfl (rd_load_agg' (i := 4) (o := 0) (nn := 3) rfl (ar rfl rfl rfl rfl) rfl agg24 (l' := (C7 a1_0 a1_1 a1_2)) rfl) ?_
 refine pd rfl (rd_load_agg' (i := 3) (o := 0) (nn := 3) rfl (ar rfl rfl rfl rfl) rfl agg24 (l' := (C7 a2_0 a2_1 a2_2)) rfl) ?_
 refine pd rfl (rd_load_agg' (i := 2) (o := 0) (nn := 3) rfl (ar rfl rfl rfl rfl) rfl agg24 (l' := (C7 a3_0 a3_1 a3_2)) rfl) ?_
 obtain ⟨r12, hr12, hp⟩ := bind_some hp
 refine px_ox' rfl (oz (ent_fn' Try.func21 isn21 rfl rfl) (impl_coord3_sim _ _ _ hr12)) rfl bs_nil (wt_none' rfl) fun ⟨⟩ => ?_
 obtain ⟨r14, hr14, hp⟩ := bind_some hp
 refine px_ox' rfl (oz (ent_fn' Try.func21 isn21 rfl rfl) (impl_coord3_sim _ _ _ hr14)) rfl bs_nil (wt_none' rfl) fun ⟨⟩ => ?_
 obtain ⟨r16, hr16, hp⟩ := bind_some hp
 refine px_ox' rfl (oz (ent_fn' Try.func21 isn21 rfl rfl) (impl_coord3_sim _ _ _ hr16)) rfl bs_nil (wt_none' rfl) fun ⟨⟩ => ?_
 obtain ⟨r18, hr18, hp⟩ := bind_some hp
 refine px_ox' rfl (oz (ent_fn' Try.func21 isn21 rfl rfl) (impl_coord3_sim _ _ _ hr18)) rfl bs_nil (wt_none' rfl) fun ⟨⟩ => ?_
 obtain ⟨r19, hr19, hp⟩ := bind_some hp
 refine px_ox' rfl (oz (ent_fn' Try.func20 isn20 rfl rfl) (xyz_DistanceLineToLine_sim _ _ _ _ hr19)) rfl bs_nil (wt_none' rfl) fun ⟨⟩ => ?_
 refine px_oxv' rfl (oxv_store (i := 1) (o := 0) rfl rfl (lv_fl _) (ar rfl rfl rfl rfl) rfl info22 rfl (H' := [(Ur q9 4 [(Vb false)]), (Ur q8 22 [(Fl r19)]), (Ur q7 24 (C7 a3_0 a3_1 a3_2)), (Ur q6 24 (C7 a2_0 a2_1 a2_2)), (Ur q5 24 (C7 a1_0 a1_1 a1_2)), (Ur q4 24 (C7 a0_0 a0_1 a0_2))]) rfl) rfl rfl bo_nil (wt_none' rfl) fun _ => ?_
 refine px_oxv' rfl (oxv_store (i := 0) (o := 0) rfl rfl (lv_vl rfl rfl) (ar rfl rfl rfl rfl) rfl info4 rfl (H' := [(Ur q9 4 [(Vb true)]), (Ur q8 22 [(Fl r19)]), (Ur q7 24 (C7 a3_0 a3_1 a3_2)), (Ur q6 24 (C7 a2_0 a2_1 a2_2)), (Ur q5 24 (C7 a1_0 a1_1 a1_2)), (Ur q4 24 (C7 a0_0 a0_1 a0_2))]) rfl) rfl rfl bo_nil (wt_none' rfl) fun _ => ?_
 refine px_nil' ?_
 show TX E K3 _
 refine tx_k' hK3 ?_
 refine cx_retc' ?_
 replace hp := sj hp
 subst hp
 refine tx_leave' (.inl rfl) rfl idle19 rfl Try.func19 isn19 rfl ?_
 refine tk (L' := [(8, (Vp q8)), (9, (Vp q9))]) (H' := [(Ur q8 22 [(Fl r19)]), (Ur q9 4 [(Vb true)])]) [1, 0] (u2 rfl rfl) (p2 rfl rfl) ?_
 exact tx_ret2' Try.results6 rfl () (rv_cell' (i := 0) (o := 0) rfl (ar rfl rfl rfl rfl) rfl flat22) (rv_cell' (i := 1) (o := 0) rfl (ar rfl rfl rfl rfl) rfl flat4) rfl (List.nil_sublist _)

def spec_trim_j2 (k : Nat) (x3 : List Int) (rec1 : (List Int) → Option ((List Int))) (x2 : Bool) : Option ((List Int)) :=
 br x2
  ((cut x3 0 (isub .i64 (x3.length : Int) 1)) >>= fun r19 =>
  rec1 r19)
  (some x3)
def spec_trim_l1s  (k : Nat) (rec1 : (List Int) → Option ((List Int))) (x3 : List Int) : Option ((List Int)) :=
 br (decide (0 < (x3.length : Int)))
  ((idx x3 (isub .i64 (x3.length : Int) 1)) >>= fun r11 =>
  spec_trim_j2 k x3 rec1 (decide (r11 = 0)))
  (spec_trim_j2 k x3 rec1 false)
def spec_trim_l1  : Nat → (List Int) → Option ((List Int))
 | 0, _ => none
 | k + 1, v => spec_trim_l1s k (spec_trim_l1 k) v
def spec_trim (k : Nat) (a0 : List Int) : Option ((List Int)) :=
 (spec_trim_l1 k a0) >>= fun v4 =>
 some v4

theorem spec_trim_sim {k : Nat}  (a0 : List Int) {out : (List Int)} (hp : spec_trim k a0 = some out) : Sx.Fn Try.prog 76 [(Sl (Ki .u32) a0)] [] (fun w : Unit => (Sl (Ki .u32) out)) (fun w => []) := by
 unfold spec_trim at hp
 refine fn_of Try.func76 rfl Try.ntmps76 rfl fun E hM => ?_
 refine cr fun K1 hK1 => ?_
 refine sa rfl ?_
 refine nk hK1 ?_
 refine cx_seq' fun K2 hK2 => ?_
 refine cx_block' ?_
 obtain ⟨v4, hy1, hp⟩ := bind_some hp
 refine cx_loopg' (F := spec_trim_l1) (G := fun k R v => spec_trim_l1s k R v) (x := a0) (gh := ()) (fun (v2 : (List Int)) (w2 : Unit) => (⟨21, [], [(0, (Sl (Ki .u32) v2))], []⟩ : St)) (fun (v4 : (List Int)) => Zg E (Exit.exit 0) (fun (w4 : Unit) => (⟨21, [], [(0, (Sl (Ki .u32) v4))], []⟩ : St))) (fun _ => rfl) (fun _ _ => rfl) ?_ hy1 (tx_to' rfl [] (uc rfl un) (by decide) pn) ?_
 ·clear hp hy1
  clear v4
  intro k rec1 KY1 ih1
  rintro x3 ⟨⟩ y1 hp
  replace hp : spec_trim_l1s k rec1 x3 = some y1 := hp
  unfold spec_trim_l1s at hp
  refine cx_seq' fun K6 hK6 => ?_
  refine cr fun K7 hK7 => ?_
  refine sm rfl ?_
  refine sk rfl Try.underlying30 ?_
  refine sb rfl rfl eg_int ru_gtr ?_
  refine sm rfl ?_
  refine sx_cutn' 8 (fun (v3 : Bool) => (⟨21, [], [(0, (Sl (Ki .u32) x3)), (14, (Vb v3))], []⟩ : St)) (fun (v3 : Bool) => spec_trim_j2 k x3 rec1 v3 = some y1) ?_ ?_
  ·rintro x2 hp
   replace hp : spec_trim_j2 k x3 rec1 x2 = some y1 := hp
   unfold spec_trim_j2 at hp
   refine nk hK7 ?_
   refine cx_cond' rfl (fun h5 => ?_) (fun h5 => ?_)
   ·replace hp := (br_t h5).symm.trans hp
    refine cx_skip' ?_
    show TX E K6 _
    refine tx_k' hK6 ?_
    refine cx_block' ?_
    refine cx_region' ?_
    iterate 2 refine sm rfl ?_
    refine sk rfl Try.underlying30 ?_
    refine sb rfl rfl eg_int ru_sub ?_
    obtain ⟨r19, hr19, hp⟩ := bind_some hp
    refine s0 (rd_cut_h' rfl rfl hr19 Try.underlying30 info91) ?_
    refine sa rfl ?_
    refine sx_nil' ?_
    show TX E (KY1 _) _
    exact tk [] (uc rfl un) pn (ih1 r19 () _ hp)
   replace hp := (br_f h5).symm.trans hp
   refine cx_exit' ?_
   replace hp := sj hp
   subst hp
   show TX E (Zg E (Exit.exit 0) _ (Exit.exit 0)) _
   exact tx_zend' () rfl [] (uc rfl un) (by decide) pn
  intro K8 hK8
  rcases br_cases hp with ⟨h4, hp⟩ | ⟨h4, hp⟩
  ·refine sx_rd' (rd_move' rfl) rfl rfl (wt_is' (wt_guard' rfl rfl rfl) (beq_tt h4)) ?_
   refine sx_rd' (rd_move' rfl) rfl rfl (wt_is' (wt_guard' rfl rfl rfl) (beq_tt h4)) ?_
   refine sx_rd' (rd_len' rfl Try.underlying30) rfl rfl (wt_is' (wt_guard' rfl rfl rfl) (beq_tt h4)) ?_
   refine sx_rd' (rd_bin' rfl rfl eg_int ru_sub) rfl rfl (wt_is' (wt_guard' rfl rfl rfl) (beq_tt h4)) ?_
   obtain ⟨r11, hr11, hp⟩ := bind_some hp
   refine sx_rd' (rd_at' (K := (Ki .u32)) rfl rfl hr11 Try.underlying30 info91) rfl rfl (wt_is' (wt_guard' rfl rfl rfl) (beq_tt h4)) ?_
   refine sx_rd' (rd_load_pt' rfl rfl flat91) rfl rfl (wt_is' (wt_guard' rfl rfl rfl) (beq_tt h4)) ?_
   refine sx_rd' (rd_bin' rfl rfl eg_int ru_eql) rfl rfl (wt_is' (wt_guard' rfl rfl rfl) (beq_tt h4)) ?_
   refine s0 (rd_pick_true' rfl h4 rfl) ?_
   refine sx_nil' ?_
   show TX E K8 _
   exact tk [] (u2 rfl rfl) pn (hK8 (decide (r11 = 0)) hp)
  iterate 7 refine sx_skip' rfl rfl (wt_is' (wt_guard' rfl rfl rfl) (beq_ft h4)) ?_
  refine s0 (rd_pick_false' rfl h4 rfl) ?_
  refine sx_nil' ?_
  show TX E K8 _
  exact tk [] (u2 rfl rfl) pn (hK8 false hp)
 refine zg_out fun w4 => ?_
 show TX E K2 _
 refine tx_k' hK2 ?_
 refine cr fun K9 hK9 => ?_
 refine sm rfl ?_
 refine sa rfl ?_
 refine nk hK9 ?_
 refine cx_retc' ?_
 replace hp := sj hp
 subst hp
 refine tk (L' := [(2, (Sl (Ki .u32) v4))]) (H' := []) [] (uc rfl un) pn ?_
 exact tx_ret1' Try.results76 rfl () (rv_tmp' rfl) lr

def spec_WholeOf_j1 (k : Nat) (a0 x1 : Int) : Option (Bool × (List Int)) :=
 (ishr .u64 x1 32) >>= fun r15 =>
 (spec_trim k ([icv .u32 x1, icv .u32 r15])) >>= fun r18 =>
 some (decide (a0 < 0), r18)
def spec_WholeOf (k : Nat) (a0 : Int) : Option (Bool × (List Int)) :=
 br (decide (a0 < 0))
  (spec_WholeOf_j1 k a0 (isub .u64 0 (icv .u64 a0)))
  (spec_WholeOf_j1 k a0 (icv .u64 a0))

theorem spec_WholeOf_sim {k : Nat}  (a0 : Int) {out : Bool × (List Int)} (hp : spec_WholeOf k a0 = some out) : Sx.Fn Try.prog 78 [(Vi a0)] [] (fun w : Unit => (Ag (C6 out.1 out.2))) (fun w => []) := by
 unfold spec_WholeOf at hp
 refine fn_of Try.func78 rfl Try.ntmps78 rfl fun E hM => ?_
 refine cr fun K1 hK1 => ?_
 refine so (ox_alloc' info32 rfl rfl rfl rfl (l := [(Vb false), Vn]) rfl) fun q2 => ?_
 refine nk hK1 ?_
 refine cr fun K2 hK2 => ?_
 refine sm rfl ?_
 refine s0 (rd_conv' rfl (ru_i2i (by rw [Try.underlying2]; rfl) Try.underlying74)) ?_
 refine sa rfl ?_
 refine nk hK2 ?_
 refine cx_join' (fun (v1 : Int) => (⟨20, [], [(0, (Vi a0)), (2, (Vp q2)), (3, (Vl (.int .u64 v1)))], [(Ur q2 32 [(Vb false), Vn])]⟩ : St)) (fun (v1 : Int) => spec_WholeOf_j1 k a0 v1 = some out) ?_ ?_
 ·rintro x1 hp
  replace hp : spec_WholeOf_j1 k a0 x1 = some out := hp
  unfold spec_WholeOf_j1 at hp
  refine cr fun K5 hK5 => ?_
  refine sm rfl ?_
  refine sb rfl rfl eg_int ru_lss ?_
  refine sm rfl ?_
  refine s0 (rd_conv' rfl (ru_i2i (by rw [Try.underlying74]; rfl) Try.underlying91)) ?_
  refine sm rfl ?_
  obtain ⟨r15, hr15, hp⟩ := bind_some hp
  refine sb rfl rfl eg_int (ru_shr hr15) ?_
  refine s0 (rd_conv' rfl (ru_i2i (by rw [Try.underlying74]; rfl) Try.underlying91)) ?_
  refine so (ox_rowlit' (K := (Ki .u32)) (xs := [icv .u32 x1, icv .u32 r15]) (qs := [(0, [(Vl (.int .u32 (icv .u32 x1)))]), (1, [(Vl (.int .u32 (icv .u32 r15)))])]) ⟨rfl, ⟨_, rfl, (lv_vl rfl rfl)⟩, ⟨rfl, ⟨_, rfl, (lv_vl rfl rfl)⟩, trivial⟩⟩ Try.underlying30 info91 rfl rfl rfl rfl rfl (by kernel_rfl) rfl rfl rfl) fun g17 => ?_
  refine tx_fz' (frz_row 0 [(17, (Vw g17), (Sl (Ki .u32) ([icv .u32 x1, icv .u32 r15])))] (K := (Ki .u32)) (xs := [icv .u32 x1, icv .u32 r15]) (by decide) rfl ⟨⟨rfl, frz_it⟩, trivial⟩ (H' := [(Ur q2 32 [(Vb false), Vn])]) frzH_refl) ?_
  obtain ⟨r18, hr18, hp⟩ := bind_some hp
  refine so (oz (ent_fn' Try.func76 isn76 rfl rfl) (spec_trim_sim _ hr18)) fun ⟨⟩ => ?_
  refine sv (pls := [(0, 1), (1, 1)]) (qs := [(0, [(Vb (decide (a0 < 0)))]), (1, [(Sl (Ki .u32) r18)])]) (r := (C6 (decide (a0 < 0)) r18)) ⟨rfl, ⟨_, rfl, (lv_vl rfl rfl)⟩, ⟨rfl, ⟨_, rfl, (lv_sl _ _)⟩, trivial⟩⟩ Try.underlying32 has32 places32 info32 rfl rfl rfl ?_
  refine so (ox_store' (i := 0) (o := 0) rfl rfl (lv_ag _) (ar rfl rfl rfl rfl) rfl info32 rfl (H' := [(Ur q2 32 (C6 (decide (a0 < 0)) r18))]) rfl) fun _ => ?_
  refine nk hK5 ?_
  refine cx_retc' ?_
  replace hp := sj hp
  subst hp
  refine tk (L' := [(2, (Vp q2))]) (H' := [(Ur q2 32 (C6 (decide (a0 < 0)) r18))]) [0] (uc rfl un) (pc rfl pn) ?_
  exact tx_ret1' Try.results78 rfl () (rv_cell_agg' (i := 0) (o := 0) (nn := 2) rfl (ar rfl rfl rfl rfl) rfl agg32 rfl) (List.nil_sublist _)
 intro K3 hK3
 refine cr fun K4 hK4 => ?_
 refine sm rfl ?_
 refine sb rfl rfl eg_int ru_lss ?_
 refine nk hK4 ?_
 refine cx_cond' rfl (fun h1 => ?_) (fun h1 => ?_)
 ·replace hp := (br_t h1).symm.trans hp
  refine cx_region' ?_
  refine sm rfl ?_
  refine s0 (rd_un' rfl ru_ineg) ?_
  refine sa rfl ?_
  refine sx_nil' ?_
  show TX E K3 _
  exact tk [0] (u3 rfl rfl rfl) (pc rfl pn) (hK3 (isub .u64 0 (icv .u64 a0)) hp)
 replace hp := (br_f h1).symm.trans hp
 refine cx_skip' ?_
 show TX E K3 _
 exact tk [0] (u3 rfl rfl rfl) (pc rfl pn) (hK3 (icv .u64 a0) hp)

def spec_DyadicOf_j2 (k : Nat) (x2 x3 : Int) : Option (Bool × (List Int) × Int) :=
 (spec_WholeOf k x3) >>= fun r29 =>
 some (r29.1, r29.2, isub .i64 x2 1075)
def spec_DyadicOf_j1 (k a0 : Nat) (x1 x2 : Int) : Option (Bool × (List Int) × Int) :=
 (ishr .u64 (fbits a0) 63) >>= fun r24 =>
 br (decide (r24 = 1))
  (spec_DyadicOf_j2 k x2 (isub .i64 0 x1))
  (spec_DyadicOf_j2 k x2 x1)
def spec_DyadicOf (k a0 : Nat) : Option (Bool × (List Int) × Int) :=
 (ishr .u64 (fbits a0) 52) >>= fun r12 =>
 br (decide ((icv .i64 (iand .u64 r12 2047)) = 2047))
  (some (false, [], 0))
  (br (decide ((icv .i64 (iand .u64 r12 2047)) = 0))
   (spec_DyadicOf_j1 k a0 (icv .i64 (iand .u64 (fbits a0) 4503599627370495)) 1)
   (spec_DyadicOf_j1 k a0 (iadd .i64 (icv .i64 (iand .u64 (fbits a0) 4503599627370495)) 4503599627370496) (icv .i64 (iand .u64 r12 2047))))

theorem spec_DyadicOf_sim {k : Nat}  (a0 : Nat) {out : Bool × (List Int) × Int} (hp : spec_DyadicOf k a0 = some out) : Sx.Fn Try.prog 62 [(Vg a0)] [] (fun w : Unit => (Ag (C2 out.1 out.2.1 out.2.2))) (fun w => []) := by
 unfold spec_DyadicOf at hp
 refine fn_of Try.func62 rfl Try.ntmps62 rfl fun E hM => ?_
 refine cr fun K1 hK1 => ?_
 refine so (ox_alloc' info34 rfl rfl rfl rfl (l := (C1 false 0)) rfl) fun q2 => ?_
 refine nk hK1 ?_
 refine cr fun K2 hK2 => ?_
 refine sm rfl ?_
 refine s0 (rd_ext' (us := [.float .f64 a0]) rfl (ext39 ex_bits)) ?_
 refine sa rfl ?_
 refine nk hK2 ?_
 refine cr fun K3 hK3 => ?_
 refine sm rfl ?_
 refine sb rfl rfl eg_int ru_and ?_
 refine s0 (rd_conv' rfl (ru_i2i (by rw [Try.underlying74]; rfl) Try.underlying2)) ?_
 refine sm rfl ?_
 obtain ⟨r12, hr12, hp⟩ := bind_some hp
 refine sb rfl rfl eg_int (ru_shr hr12) ?_
 refine sb rfl rfl eg_int ru_and ?_
 refine s0 (rd_conv' rfl (ru_i2i (by rw [Try.underlying74]; rfl) Try.underlying3)) ?_
 iterate 2 refine sa rfl ?_
 refine nk hK3 ?_
 refine cx_join' (fun (v1 : Int × Int) => (⟨33, [], [(2, (Vp q2)), (3, (Vl (.int .u64 (fbits a0)))), (4, (Vi v1.1)), (5, (Vi v1.2))], [(Ur q2 34 (C1 false 0))]⟩ : St)) (fun (v1 : Int × Int) => spec_DyadicOf_j1 k a0 v1.1 v1.2 = some out) ?_ ?_
 ·rintro ⟨x1, x2⟩ hp
  replace hp : spec_DyadicOf_j1 k a0 x1 x2 = some out := hp
  unfold spec_DyadicOf_j1 at hp
  refine cx_join' (fun (v2 : Int) => (⟨33, [], [(2, (Vp q2)), (4, (Vi v2)), (5, (Vi x2))], [(Ur q2 34 (C1 false 0))]⟩ : St)) (fun (v2 : Int) => spec_DyadicOf_j2 k x2 v2 = some out) ?_ ?_
  ·rintro x3 hp
   replace hp : spec_DyadicOf_j2 k x2 x3 = some out := hp
   unfold spec_DyadicOf_j2 at hp
   refine cr fun K11 hK11 => ?_
   refine sm rfl ?_
   obtain ⟨r29, hr29, hp⟩ := bind_some hp
   refine so (oz (ent_fn' Try.func78 isn78 rfl rfl) (spec_WholeOf_sim _ hr29)) fun ⟨⟩ => ?_
   refine sm rfl ?_
   refine sb rfl rfl eg_int ru_sub ?_
   refine sv (pls := [(0, 2), (2, 1)]) (qs := [(0, (C6 r29.1 r29.2)), (1, [(Vi (isub .i64 x2 1075))])]) (r := (C2 r29.1 r29.2 (isub .i64 x2 1075))) ⟨rfl, ⟨_, rfl, (lv_ag _)⟩, ⟨rfl, ⟨_, rfl, (lv_vl rfl rfl)⟩, trivial⟩⟩ Try.underlying34 has34 places34 info34 rfl rfl rfl ?_
   refine so (ox_store' (i := 0) (o := 0) rfl rfl (lv_ag _) (ar rfl rfl rfl rfl) rfl info34 rfl (H' := [(Ur q2 34 (C2 r29.1 r29.2 (isub .i64 x2 1075)))]) rfl) fun _ => ?_
   refine nk hK11 ?_
   refine cx_retc' ?_
   replace hp := sj hp
   subst hp
   refine tk (L' := [(2, (Vp q2))]) (H' := [(Ur q2 34 (C2 r29.1 r29.2 (isub .i64 x2 1075)))]) [0] (uc rfl un) (pc rfl pn) ?_
   exact tx_ret1' Try.results62 rfl () (rv_cell_agg' (i := 0) (o := 0) (nn := 3) rfl (ar rfl rfl rfl rfl) rfl agg34 rfl) (List.nil_sublist _)
  intro K9 hK9
  refine cr fun K10 hK10 => ?_
  refine sm rfl ?_
  obtain ⟨r24, hr24, hp⟩ := bind_some hp
  refine sb rfl rfl eg_int (ru_shr hr24) ?_
  refine sb rfl rfl eg_int ru_eql ?_
  refine nk hK10 ?_
  refine cx_cond' rfl (fun h3 => ?_) (fun h3 => ?_)
  ·replace hp := (br_t h3).symm.trans hp
   refine cx_region' ?_
   refine sm rfl ?_
   refine s0 (rd_un' rfl ru_ineg) ?_
   refine sa rfl ?_
   refine sx_nil' ?_
   show TX E K9 _
   exact tk [0] (u3 rfl rfl rfl) (pc rfl pn) (hK9 (isub .i64 0 x1) hp)
  replace hp := (br_f h3).symm.trans hp
  refine cx_skip' ?_
  show TX E K9 _
  exact tk [0] (u3 rfl rfl rfl) (pc rfl pn) (hK9 x1 hp)
 intro K4 hK4
 refine cr fun K5 hK5 => ?_
 refine sm rfl ?_
 refine nk hK5 ?_
 refine cx_block' ?_
 refine cr fun K6 hK6 => ?_
 refine sb rfl rfl eg_int ru_eql ?_
 refine sa rfl ?_
 refine nk hK6 ?_
 refine cx_cond' rfl (fun h1 => ?_) (fun h1 => ?_)
 ·replace hp := (br_t h1).symm.trans hp
  refine cr fun K7 hK7 => ?_
  refine sv (pls := [(0, 2), (2, 1)]) (qs := []) (r := (C1 false 0)) trivial Try.underlying34 has34 places34 info34 rfl rfl rfl ?_
  refine so (ox_store' (i := 0) (o := 0) rfl rfl (lv_ag _) (ar rfl rfl rfl rfl) rfl info34 rfl (H' := [(Ur q2 34 (C1 false 0))]) rfl) fun _ => ?_
  refine nk hK7 ?_
  refine cx_retc' ?_
  replace hp := sj hp
  subst hp
  refine tk (L' := [(2, (Vp q2))]) (H' := [(Ur q2 34 (C1 false 0))]) [0] (uc rfl un) (pc rfl pn) ?_
  exact tx_ret1' Try.results62 rfl () (rv_imp' (x := (Ag (C1 false 0))) (y := (Ag [(Vb false), (Sl (Ki .u32) []), (Vi 0)])) (rv_cell_agg' (i := 0) (o := 0) (nn := 3) rfl (ar rfl rfl rfl rfl) rfl agg34 rfl) (imp_ag ⟨imp_refl, imp_nil, imp_refl, trivial⟩)) (List.nil_sublist _)
 replace hp := (br_f h1).symm.trans hp
 refine cr fun K8 hK8 => ?_
 refine sb rfl rfl eg_int ru_eql ?_
 refine sa rfl ?_
 refine nk hK8 ?_
 refine cx_cond' rfl (fun h2 => ?_) (fun h2 => ?_)
 ·replace hp := (br_t h2).symm.trans hp
  refine cx_region' ?_
  refine sa rfl ?_
  refine sx_nil' ?_
  show TX E K4 _
  exact tk [0] (u4 rfl rfl rfl rfl) (pc rfl pn) (hK4 ((icv .i64 (iand .u64 (fbits a0) 4503599627370495)), 1) hp)
 replace hp := (br_f h2).symm.trans hp
 refine cx_region' ?_
 refine sm rfl ?_
 refine sb rfl rfl eg_int ru_add ?_
 refine sa rfl ?_
 refine sx_nil' ?_
 show TX E K4 _
 exact tk [0] (u4 rfl rfl rfl rfl) (pc rfl pn) (hK4 ((iadd .i64 (icv .i64 (iand .u64 (fbits a0) 4503599627370495)) 4503599627370496), (icv .i64 (iand .u64 r12 2047))) hp)

def spec_PointOf3 (k a0 : Nat) (a1 a2 : Nat) : Option (Bool × (List Int) × Int × Bool × (List Int) × Int × Bool × (List Int) × Int) :=
 (spec_DyadicOf k a0) >>= fun r8 =>
 (spec_DyadicOf k a1) >>= fun r10 =>
 (spec_DyadicOf k a2) >>= fun r12 =>
 some (r8.1, r8.2.1, r8.2.2, r10.1, r10.2.1, r10.2.2, r12.1, r12.2.1, r12.2.2)

theorem spec_PointOf3_sim {k : Nat}  (a0 a1 a2 : Nat) {out : Bool × (List Int) × Int × Bool × (List Int) × Int × Bool × (List Int) × Int} (hp : spec_PointOf3 k a0 a1 a2 = some out) : Sx.Fn Try.prog 33 (C7 a0 a1 a2) [] (fun w : Unit => (Ag (C0 out.1 out.2.1 out.2.2.1 out.2.2.2.1 out.2.2.2.2.1 out.2.2.2.2.2.1 out.2.2.2.2.2.2.1 out.2.2.2.2.2.2.2.1 out.2.2.2.2.2.2.2.2))) (fun w => []) := by
 unfold spec_PointOf3 at hp
 refine fn_of Try.func33 rfl Try.ntmps33 rfl fun E hM => ?_
 refine cr fun K1 hK1 => ?_
 refine so (ox_alloc' info39 rfl rfl rfl rfl (l := (C3 false 0 false 0 false 0)) rfl) fun q6 => ?_
 refine nk hK1 ?_
 refine cr fun K2 hK2 => ?_
 refine sm rfl ?_
 obtain ⟨r8, hr8, hp⟩ := bind_some hp
 refine so (oz (ent_fn' Try.func62 isn62 rfl rfl) (spec_DyadicOf_sim _ hr8)) fun ⟨⟩ => ?_
 refine sm rfl ?_
 obtain ⟨r10, hr10, hp⟩ := bind_some hp
 refine so (oz (ent_fn' Try.func62 isn62 rfl rfl) (spec_DyadicOf_sim _ hr10)) fun ⟨⟩ => ?_
 refine sm rfl ?_
 obtain ⟨r12, hr12, hp⟩ := bind_some hp
 refine so (oz (ent_fn' Try.func62 isn62 rfl rfl) (spec_DyadicOf_sim _ hr12)) fun ⟨⟩ => ?_
 refine sv (pls := [(0, 3), (3, 3), (6, 3)]) (qs := [(0, (C2 r8.1 r8.2.1 r8.2.2)), (1, (C2 r10.1 r10.2.1 r10.2.2)), (2, (C2 r12.1 r12.2.1 r12.2.2))]) (r := (C0 r8.1 r8.2.1 r8.2.2 r10.1 r10.2.1 r10.2.2 r12.1 r12.2.1 r12.2.2)) ⟨rfl, ⟨_, rfl, (lv_ag _)⟩, ⟨rfl, ⟨_, rfl, (lv_ag _)⟩, ⟨rfl, ⟨_, rfl, (lv_ag _)⟩, trivial⟩⟩⟩ Try.underlying39 has39 places39 info39 rfl rfl rfl ?_
 refine so (ox_store' (i := 0) (o := 0) rfl rfl (lv_ag _) (ar rfl rfl rfl rfl) rfl info39 rfl (H' := [(Ur q6 39 (C0 r8.1 r8.2.1 r8.2.2 r10.1 r10.2.1 r10.2.2 r12.1 r12.2.1 r12.2.2))]) rfl) fun _ => ?_
 refine nk hK2 ?_
 refine cx_retc' ?_
 replace hp := sj hp
 subst hp
 refine tk (L' := [(6, (Vp q6))]) (H' := [(Ur q6 39 (C0 r8.1 r8.2.1 r8.2.2 r10.1 r10.2.1 r10.2.2 r12.1 r12.2.1 r12.2.2))]) [0] (uc rfl un) (pc rfl pn) ?_
 exact tx_ret1' Try.results33 rfl () (rv_cell_agg' (i := 0) (o := 0) (nn := 9) rfl (ar rfl rfl rfl rfl) rfl agg39 rfl) (List.nil_sublist _)

def laws_exactly3 (k a0_0 : Nat) (a0_1 a0_2 : Nat) : Option (Bool × (List Int) × Int × Bool × (List Int) × Int × Bool × (List Int) × Int) :=
 (spec_PointOf3 k a0_0 a0_1 a0_2) >>= fun r9 =>
 some (r9.1, r9.2.1, r9.2.2.1, r9.2.2.2.1, r9.2.2.2.2.1, r9.2.2.2.2.2.1, r9.2.2.2.2.2.2.1, r9.2.2.2.2.2.2.2.1, r9.2.2.2.2.2.2.2.2)

theorem laws_exactly3_sim {k : Nat}  (a0_0 a0_1 a0_2 : Nat) {out : Bool × (List Int) × Int × Bool × (List Int) × Int × Bool × (List Int) × Int} (hp : laws_exactly3 k a0_0 a0_1 a0_2 = some out) : Sx.Fn Try.prog 10 [(Ag (C7 a0_0 a0_1 a0_2))] [] (fun w : Unit => (Ag (C0 out.1 out.2.1 out.2.2.1 out.2.2.2.1 out.2.2.2.2.1 out.2.2.2.2.2.1 out.2.2.2.2.2.2.1 out.2.2.2.2.2.2.2.1 out.2.2.2.2.2.2.2.2))) (fun w => []) := by
 unfold laws_exactly3 at hp
 refine fn_of Try.func10 rfl Try.ntmps10 rfl fun E hM => ?_
 refine cr fun K1 hK1 => ?_
 refine so (ox_box' rfl (lv_ag _) rfl rfl) fun q1 => ?_
 refine so (ox_alloc' info39 rfl rfl rfl rfl (l := (C3 false 0 false 0 false 0)) rfl) fun q2 => ?_
 refine nk hK1 ?_
 refine cr fun K2 hK2 => ?_
 refine sf rfl Try.underlying24 rfl info22 rfl ?_
 refine sl (i := 1) (o := 0) rfl (ar rfl rfl rfl rfl) rfl flat22 ?_
 refine sg (off := 1) rfl Try.underlying24 rfl info22 rfl ?_
 refine sl (i := 1) (o := 1) rfl (ar rfl rfl rfl rfl) rfl flat22 ?_
 refine sg (off := 2) rfl Try.underlying24 rfl info22 rfl ?_
 refine sl (i := 1) (o := 2) rfl (ar rfl rfl rfl rfl) rfl flat22 ?_
 obtain ⟨r9, hr9, hp⟩ := bind_some hp
 refine so (oz (ent_fn' Try.func33 isn33 rfl rfl) (spec_PointOf3_sim _ _ _ hr9)) fun ⟨⟩ => ?_
 refine so (ox_store' (i := 0) (o := 0) rfl rfl (lv_ag _) (ar rfl rfl rfl rfl) rfl info39 rfl (H' := [(Ur q2 39 (C0 r9.1 r9.2.1 r9.2.2.1 r9.2.2.2.1 r9.2.2.2.2.1 r9.2.2.2.2.2.1 r9.2.2.2.2.2.2.1 r9.2.2.2.2.2.2.2.1 r9.2.2.2.2.2.2.2.2)), (Ur q1 24 (C7 a0_0 a0_1 a0_2))]) rfl) fun _ => ?_
 refine nk hK2 ?_
 refine cx_retc' ?_
 replace hp := sj hp
 subst hp
 refine tk (L' := [(2, (Vp q2))]) (H' := [(Ur q2 39 (C0 r9.1 r9.2.1 r9.2.2.1 r9.2.2.2.1 r9.2.2.2.2.1 r9.2.2.2.2.2.1 r9.2.2.2.2.2.2.1 r9.2.2.2.2.2.2.2.1 r9.2.2.2.2.2.2.2.2))]) [0] (uc rfl un) (pc rfl pn) ?_
 exact tx_ret1' Try.results10 rfl () (rv_cell_agg' (i := 0) (o := 0) (nn := 9) rfl (ar rfl rfl rfl rfl) rfl agg39 rfl) (List.nil_sublist _)

def spec_Whole_Minus_j1 (k : Nat) (a0_1 : List Int) (x1 : Bool) : Option (Bool × (List Int)) :=
 some (x1, a0_1)
def spec_Whole_Minus (k : Nat) (a0_0 : Bool) (a0_1 : List Int) : Option (Bool × (List Int)) :=
 br (!a0_0)
  (spec_Whole_Minus_j1 k a0_1 (decide (0 < (a0_1.length : Int))))
  (spec_Whole_Minus_j1 k a0_1 false)

theorem spec_Whole_Minus_sim {k : Nat}  (a0_0 : Bool) (a0_1 : List Int) {out : Bool × (List Int)} (hp : spec_Whole_Minus k a0_0 a0_1 = some out) : Sx.Fn Try.prog 77 [(Ag (C6 a0_0 a0_1))] [] (fun w : Unit => (Ag (C6 out.1 out.2))) (fun w => []) := by
 unfold spec_Whole_Minus at hp
 refine fn_of Try.func77 rfl Try.ntmps77 rfl fun E hM => ?_
 refine cr fun K1 hK1 => ?_
 refine so (ox_box' rfl (lv_ag _) rfl rfl) fun q1 => ?_
 refine so (ox_alloc' info32 rfl rfl rfl rfl (l := [(Vb false), Vn]) rfl) fun q2 => ?_
 refine nk hK1 ?_
 refine cr fun K2 hK2 => ?_
 refine sf rfl Try.underlying32 rfl info4 rfl ?_
 refine sl (i := 1) (o := 0) rfl (ar rfl rfl rfl rfl) rfl flat4 ?_
 refine s0 (rd_un' rfl ru_not) ?_
 refine sm rfl ?_
 refine sx_cutn' 5 (fun (v1 : Bool) => (⟨15, [], [(1, (Vp q1)), (2, (Vp q2)), (11, (Vb v1))], [(Ur q1 32 (C6 a0_0 a0_1)), (Ur q2 32 [(Vb false), Vn])]⟩ : St)) (fun (v1 : Bool) => spec_Whole_Minus_j1 k a0_1 v1 = some out) ?_ ?_
 ·rintro x1 hp
  replace hp : spec_Whole_Minus_j1 k a0_1 x1 = some out := hp
  unfold spec_Whole_Minus_j1 at hp
  refine sg (off := 1) rfl Try.underlying32 rfl info30 rfl ?_
  refine sl (i := 0) (o := 1) rfl (ar rfl rfl rfl rfl) rfl flat30 ?_
  refine sv (pls := [(0, 1), (1, 1)]) (qs := [(0, [(Vb x1)]), (1, [(Sl (Ki .u32) a0_1)])]) (r := (C6 x1 a0_1)) ⟨rfl, ⟨_, rfl, (lv_vl rfl rfl)⟩, ⟨rfl, ⟨_, rfl, (lv_sl _ _)⟩, trivial⟩⟩ Try.underlying32 has32 places32 info32 rfl rfl rfl ?_
  refine so (ox_store' (i := 1) (o := 0) rfl rfl (lv_ag _) (ar rfl rfl rfl rfl) rfl info32 rfl (H' := [(Ur q1 32 (C6 a0_0 a0_1)), (Ur q2 32 (C6 x1 a0_1))]) rfl) fun _ => ?_
  refine nk hK2 ?_
  refine cx_retc' ?_
  replace hp := sj hp
  subst hp
  refine tk (L' := [(2, (Vp q2))]) (H' := [(Ur q2 32 (C6 x1 a0_1))]) [1] (uc rfl un) (pc rfl pn) ?_
  exact tx_ret1' Try.results77 rfl () (rv_cell_agg' (i := 0) (o := 0) (nn := 2) rfl (ar rfl rfl rfl rfl) rfl agg32 rfl) (List.nil_sublist _)
 intro K3 hK3
 rcases br_cases hp with ⟨h1, hp⟩ | ⟨h1, hp⟩
 ·refine sx_rd' (rd_field' (off := 1) rfl Try.underlying32 rfl info30 rfl) rfl rfl (wt_is' (wt_guard' rfl rfl rfl) (beq_tt h1)) ?_
  refine sx_rd' (rd_load' (i := 1) (o := 1) rfl (ar rfl rfl rfl rfl) rfl flat30) rfl rfl (wt_is' (wt_guard' rfl rfl rfl) (beq_tt h1)) ?_
  refine sx_rd' (rd_len' rfl Try.underlying30) rfl rfl (wt_is' (wt_guard' rfl rfl rfl) (beq_tt h1)) ?_
  refine sx_rd' (rd_bin' rfl rfl eg_int ru_gtr) rfl rfl (wt_is' (wt_guard' rfl rfl rfl) (beq_tt h1)) ?_
  refine s0 (rd_pick_true' rfl h1 rfl) ?_
  refine sx_nil' ?_
  show TX E K3 _
  exact tk [1,0] (u3 rfl rfl rfl) (p2 rfl rfl) (hK3 (decide (0 < (a0_1.length : Int))) hp)
 iterate 4 refine sx_skip' rfl rfl (wt_is' (wt_guard' rfl rfl rfl) (beq_ft h1)) ?_
 refine s0 (rd_pick_false' rfl h1 rfl) ?_
 refine sx_nil' ?_
 show TX E K3 _
 exact tk [1,0] (u3 rfl rfl rfl) (p2 rfl rfl) (hK3 false hp)

def spec_Dyadic_Minus (k : Nat) (a0_0 : Bool) (a0_1 : List Int) (a0_2 : Int) : Option (Bool × (List Int) × Int) :=
 (spec_Whole_Minus k a0_0 a0_1) >>= fun r5 =>
 some (r5.1, r5.2, a0_2)

theorem spec_Dyadic_Minus_sim {k : Nat}  (a0_0 : Bool) (a0_1 : List Int) (a0_2 : Int) {out : Bool × (List Int) × Int} (hp : spec_Dyadic_Minus k a0_0 a0_1 a0_2 = some out) : Sx.Fn Try.prog 56 [(Ag (C2 a0_0 a0_1 a0_2))] [] (fun w : Unit => (Ag (C2 out.1 out.2.1 out.2.2))) (fun w => []) := by
 unfold spec_Dyadic_Minus at hp
 refine fn_of Try.func56 rfl Try.ntmps56 rfl fun E hM => ?_
 refine cr fun K1 hK1 => ?_
 refine so (ox_box' rfl (lv_ag _) rfl rfl) fun q1 => ?_
 refine so (ox_alloc' info34 rfl rfl rfl rfl (l := (C1 false 0)) rfl) fun q2 => ?_
 refine nk hK1 ?_
 refine cx_seq' fun K2 hK2 => ?_
 refine cx_plan' [] [(6, 1)] [(0, 1), (1, 1), (3, 1), (4, 1), (2, 0), (5, 1), (6, 0)] mixed (by kernel_rfl) ?_
 refine pd rfl (rd_field0' rfl Try.underlying34 rfl info32 rfl) ?_
 refine pd rfl (rd_load_agg' (i := 1) (o := 0) (nn := 2) rfl (ar rfl rfl rfl rfl) rfl agg32 (l' := (C6 a0_0 a0_1)) rfl) ?_
 refine pd rfl (rd_field' (off := 2) rfl Try.underlying34 rfl info3 rfl) ?_
 refine pd rfl (rd_load' (i := 1) (o := 2) rfl (ar rfl rfl rfl rfl) rfl flat3) ?_
 obtain ⟨r5, hr5, hp⟩ := bind_some hp
 refine px_ox' rfl (oz (ent_fn' Try.func77 isn77 rfl rfl) (spec_Whole_Minus_sim _ _ hr5)) rfl bs_nil (wt_none' rfl) fun ⟨⟩ => ?_
 refine pd rfl (rd_build' (pls := [(0, 2), (2, 1)]) (qs := [(0, (C6 r5.1 r5.2)), (1, [(Vi a0_2)])]) (r := (C2 r5.1 r5.2 a0_2)) ⟨rfl, ⟨_, rfl, (lv_ag _)⟩, ⟨rfl, ⟨_, rfl, (lv_vl rfl rfl)⟩, trivial⟩⟩ Try.underlying34 has34 places34 info34 rfl rfl rfl) ?_
 refine px_oxv' rfl (oxv_store (i := 0) (o := 0) rfl rfl (lv_ag _) (ar rfl rfl rfl rfl) rfl info34 rfl (H' := [(Ur q2 34 (C2 r5.1 r5.2 a0_2)), (Ur q1 34 (C2 a0_0 a0_1 a0_2))]) rfl) rfl rfl bo_nil (wt_none' rfl) fun _ => ?_
 refine px_nil' ?_
 show TX E K2 _
 refine tx_k' hK2 ?_
 refine cx_retc' ?_
 replace hp := sj hp
 subst hp
 refine tk (L' := [(2, (Vp q2))]) (H' := [(Ur q2 34 (C2 r5.1 r5.2 a0_2))]) [0] (uc rfl un) (pc rfl pn) ?_
 exact tx_ret1' Try.results56 rfl () (rv_cell_agg' (i := 0) (o := 0) (nn := 3) rfl (ar rfl rfl rfl rfl) rfl agg34 rfl) (List.nil_sublist _)

def spec_Whole_Sign (k : Nat) (a0_0 : Bool) (a0_1 : List Int) : Option (Int) :=
 br (decide ((a0_1.length : Int) = 0))
  (some 0)
  (br a0_0
   (some (-1))
   (some 1))

theorem spec_Whole_Sign_sim {k : Nat}  (a0_0 : Bool) (a0_1 : List Int) {out : Int} (hp : spec_Whole_Sign k a0_0 a0_1 = some out) : Sx.Fn Try.prog 57 [(Ag (C6 a0_0 a0_1))] [] (fun w : Unit => (Vi out)) (fun w => []) := by
 unfold spec_Whole_Sign at hp
 refine fn_of Try.func57 rfl Try.ntmps57 rfl fun E hM => ?_
 refine cr fun K1 hK1 => ?_
 refine so (ox_box' rfl (lv_ag _) rfl rfl) fun q1 => ?_
 refine sa rfl ?_
 refine nk hK1 ?_
 refine cx_seq' fun K2 hK2 => ?_
 refine cx_block' ?_
 refine cr fun K3 hK3 => ?_
 refine sg (off := 1) rfl Try.underlying32 rfl info30 rfl ?_
 refine sl (i := 0) (o := 1) rfl (ar rfl rfl rfl rfl) rfl flat30 ?_
 refine sk rfl Try.underlying30 ?_
 refine sb rfl rfl eg_int ru_eql ?_
 refine sa rfl ?_
 refine nk hK3 ?_
 refine cx_cond' rfl (fun h1 => ?_) (fun h1 => ?_)
 ·replace hp := (br_t h1).symm.trans hp
  refine cr fun K4 hK4 => ?_
  refine sa rfl ?_
  refine nk hK4 ?_
  refine cx_retc' ?_
  replace hp := sj hp
  subst hp
  refine tk (L' := [(2, (Vi 0))]) (H' := []) [] (uc rfl un) pn ?_
  exact tx_ret1' Try.results57 rfl () (rv_tmp' rfl) lr
 replace hp := (br_f h1).symm.trans hp
 refine cr fun K5 hK5 => ?_
 refine sf rfl Try.underlying32 rfl info4 rfl ?_
 refine sl (i := 0) (o := 0) rfl (ar rfl rfl rfl rfl) rfl flat4 ?_
 refine sa rfl ?_
 refine nk hK5 ?_
 refine cx_cond' rfl (fun h2 => ?_) (fun h2 => ?_)
 ·replace hp := (br_t h2).symm.trans hp
  refine cr fun K6 hK6 => ?_
  refine sa rfl ?_
  refine nk hK6 ?_
  refine cx_retc' ?_
  replace hp := sj hp
  subst hp
  refine tk (L' := [(2, (Vi (-1)))]) (H' := []) [] (uc rfl un) pn ?_
  exact tx_ret1' Try.results57 rfl () (rv_tmp' rfl) lr
 replace hp := (br_f h2).symm.trans hp
 refine cx_skip' ?_
 show TX E K2 _
 refine tx_k' hK2 ?_
 refine cr fun K7 hK7 => ?_
 refine sa rfl ?_
 refine nk hK7 ?_
 refine cx_retc' ?_
 replace hp := sj hp
 subst hp
 refine tk (L' := [(2, (Vi 1))]) (H' := []) [] (uc rfl un) pn ?_
 exact tx_ret1' Try.results57 rfl () (rv_tmp' rfl) lr

def spec_Dyadic_Sign (k : Nat) (a0_0 : Bool) (a0_1 : List Int) (a0_2 : Int) : Option (Int) :=
 (spec_Whole_Sign k a0_0 a0_1) >>= fun r5 =>
 some r5

theorem spec_Dyadic_Sign_sim {k : Nat}  (a0_0 : Bool) (a0_1 : List Int) (a0_2 : Int) {out : Int} (hp : spec_Dyadic_Sign k a0_0 a0_1 a0_2 = some out) : Sx.Fn Try.prog 28 [(Ag (C2 a0_0 a0_1 a0_2))] [] (fun w : Unit => (Vi out)) (fun w => []) := by
 unfold spec_Dyadic_Sign at hp
 refine fn_of Try.func28 rfl Try.ntmps28 rfl fun E hM => ?_
 refine cr fun K1 hK1 => ?_
 refine so (ox_box' rfl (lv_ag _) rfl rfl) fun q1 => ?_
 refine sa rfl ?_
 refine nk hK1 ?_
 refine cr fun K2 hK2 => ?_
 refine sf rfl Try.underlying34 rfl info32 rfl ?_
 refine s0 (rd_load_agg' (i := 0) (o := 0) (nn := 2) rfl (ar rfl rfl rfl rfl) rfl agg32 (l' := (C6 a0_0 a0_1)) rfl) ?_
 obtain ⟨r5, hr5, hp⟩ := bind_some hp
 refine so (oz (ent_fn' Try.func57 isn57 rfl rfl) (spec_Whole_Sign_sim _ _ hr5)) fun ⟨⟩ => ?_
 refine sa rfl ?_
 refine nk hK2 ?_
 refine cx_retc' ?_
 replace hp := sj hp
 subst hp
 refine tk (L' := [(2, (Vi r5))]) (H' := []) [] (uc rfl un) pn ?_
 exact tx_ret1' Try.results28 rfl () (rv_tmp' rfl) lr

def spec_Whole_Up_l1s (a0_1 : List Int) (a1 : Int) (k : Nat) (rec1 : ((List Int) × Int × Int) → Option ((List Int) × Int)) (x1 : List Int) (x2 x3 : Int) : Option ((List Int) × Int) :=
 br (decide (x3 < (a0_1.length : Int)))
  ((idx a0_1 x3) >>= fun r30 =>
  (irem a1 32) >>= fun r35 =>
  (ishl .u64 (icv .u64 r30) r35) >>= fun r36 =>
  (apd 4 x1 ([ior .u32 (icv .u32 r36) x2])) >>= fun r43 =>
  (ishr .u64 r36 32) >>= fun r45 =>
  rec1 (r43, (icv .u32 r45), (iadd .i64 x3 1)))
  (some (x1, x2))
def spec_Whole_Up_l1 (a0_1 : List Int) (a1 : Int) : Nat → ((List Int) × Int × Int) → Option ((List Int) × Int)
 | 0, _ => none
 | k + 1, v => spec_Whole_Up_l1s a0_1 a1 k (spec_Whole_Up_l1 a0_1 a1 k) v.1 v.2.1 v.2.2
def spec_Whole_Up (k : Nat) (a0_0 : Bool) (a0_1 : List Int) (a1 : Int) : Option (Bool × (List Int)) :=
 br (decide ((a0_1.length : Int) = 0))
  (some (a0_0, a0_1))
  ((iquo .i64 a1 32) >>= fun r16 =>
  (iquo .i64 a1 32) >>= fun r18 =>
  (mk 4 0 r16 (iadd .i64 (iadd .i64 r18 (a0_1.length : Int)) 1)) >>= fun r24 =>
  (spec_Whole_Up_l1 a0_1 a1 k (r24, 0, 0)) >>= fun v2 =>
  (apd 4 v2.1 ([v2.2])) >>= fun r53 =>
  (spec_trim k r53) >>= fun r54 =>
  some (a0_0, r54))

theorem spec_Whole_Up_sim {k : Nat}  (a0_0 : Bool) (a0_1 : List Int) (a1 : Int) {out : Bool × (List Int)} (hp : spec_Whole_Up k a0_0 a0_1 a1 = some out) : Sx.Fn Try.prog 74 [(Ag (C6 a0_0 a0_1)), (Vi a1)] [] (fun w : Unit => (Ag (C6 out.1 out.2))) (fun w => []) := by
 unfold spec_Whole_Up at hp
 refine fn_of Try.func74 rfl Try.ntmps74 rfl fun E hM => ?_
 refine cr fun K1 hK1 => ?_
 refine so (ox_box' rfl (lv_ag _) rfl rfl) fun q2 => ?_
 refine so (ox_alloc' info32 rfl rfl rfl rfl (l := [(Vb false), Vn]) rfl) fun q4 => ?_
 refine nk hK1 ?_
 refine cx_seq' fun K2 hK2 => ?_
 refine cr fun K3 hK3 => ?_
 refine sg (off := 1) rfl Try.underlying32 rfl info30 rfl ?_
 refine sl (i := 1) (o := 1) rfl (ar rfl rfl rfl rfl) rfl flat30 ?_
 refine sk rfl Try.underlying30 ?_
 refine sb rfl rfl eg_int ru_eql ?_
 refine nk hK3 ?_
 refine cx_cond' rfl (fun h1 => ?_) (fun h1 => ?_)
 ·replace hp := (br_t h1).symm.trans hp
  refine cr fun K4 hK4 => ?_
  refine s0 (rd_load_agg' (i := 1) (o := 0) (nn := 2) rfl (ar rfl rfl rfl rfl) rfl agg32 (l' := (C6 a0_0 a0_1)) rfl) ?_
  refine so (ox_store' (i := 0) (o := 0) rfl rfl (lv_ag _) (ar rfl rfl rfl rfl) rfl info32 rfl (H' := [(Ur q4 32 (C6 a0_0 a0_1)), (Ur q2 32 (C6 a0_0 a0_1))]) rfl) fun _ => ?_
  refine nk hK4 ?_
  refine cx_retc' ?_
  replace hp := sj hp
  subst hp
  refine tk (L' := [(4, (Vp q4))]) (H' := [(Ur q4 32 (C6 a0_0 a0_1))]) [0] (uc rfl un) (pc rfl pn) ?_
  exact tx_ret1' Try.results74 rfl () (rv_cell_agg' (i := 0) (o := 0) (nn := 2) rfl (ar rfl rfl rfl rfl) rfl agg32 rfl) (List.nil_sublist _)
 replace hp := (br_f h1).symm.trans hp
 refine cx_skip' ?_
 show TX E K2 _
 refine tx_k' hK2 ?_
 refine cr fun K5 hK5 => ?_
 refine sm rfl ?_
 obtain ⟨r16, hr16, hp⟩ := bind_some hp
 refine sb rfl rfl eg_int (ru_quo hr16) ?_
 refine sm rfl ?_
 obtain ⟨r18, hr18, hp⟩ := bind_some hp
 refine sb rfl rfl eg_int (ru_quo hr18) ?_
 refine sg (off := 1) rfl Try.underlying32 rfl info30 rfl ?_
 refine sl (i := 1) (o := 1) rfl (ar rfl rfl rfl rfl) rfl flat30 ?_
 refine sk rfl Try.underlying30 ?_
 iterate 2 refine sb rfl rfl eg_int ru_add ?_
 obtain ⟨r24, hr24, hp⟩ := bind_some hp
 refine so (ox_make' (K := (Ki .u32)) rfl rfl hr24 rfl Try.underlying30 info91 rfl rfl rfl rfl rfl) fun g24 => ?_
 refine sa rfl ?_
 refine nk hK5 ?_
 refine cr fun K6 hK6 => ?_
 refine sa rfl ?_
 refine nk hK6 ?_
 refine cx_seq' fun K7 hK7 => ?_
 refine cr fun K8 hK8 => ?_
 refine sg (off := 1) rfl Try.underlying32 rfl info30 rfl ?_
 refine sl (i := 2) (o := 1) rfl (ar rfl rfl rfl rfl) rfl flat30 ?_
 refine sk rfl Try.underlying30 ?_
 refine sm rfl ?_
 refine nk hK8 ?_
 refine cx_block' ?_
 obtain ⟨v2, hy1, hp⟩ := bind_some hp
 refine cx_loopg' (F := spec_Whole_Up_l1 a0_1 a1) (G := fun k R v => spec_Whole_Up_l1s a0_1 a1 k R v.1 v.2.1 v.2.2) (x := (r24, 0, 0)) (gh := g24) (fun (v1 : (List Int) × Int × Int) (w1 : Gs) => (⟨56, [], [(1, (Vi a1)), (2, (Vp q2)), (4, (Vp q4)), (5, (Vw w1)), (6, (Vl (.int .u32 v1.2.1))), (26, (Sl (Ki .u32) a0_1)), (27, (Vi (a0_1.length : Int))), (28, (Vi v1.2.2))], [(Ur q2 32 (C6 a0_0 a0_1)), (Ur q4 32 [(Vb false), Vn]), (Rg (Ki .u32) 91 w1 v1.1)]⟩ : St)) (fun (v2 : (List Int) × Int) => Zg E (Exit.exit 0) (fun (w2 : Gs) => (⟨56, [], [(2, (Vp q2)), (4, (Vp q4)), (5, (Vw w2)), (6, (Vl (.int .u32 v2.2)))], [(Ur q2 32 (C6 a0_0 a0_1)), (Ur q4 32 [(Vb false), Vn]), (Rg (Ki .u32) 91 w2 v2.1)]⟩ : St))) (fun _ => rfl) (fun _ _ => rfl) ?_ hy1 (tx_to' rfl [2, 1, 0] (u8 rfl rfl rfl rfl rfl rfl rfl rfl) (by decide) (p3 rfl rfl rfl)) ?_
 ·clear hp hy1
  clear v2
  intro k rec1 KY1 ih1
  rintro ⟨x1, x2, x3⟩ g901 y1 hp
  replace hp : spec_Whole_Up_l1s a0_1 a1 k rec1 x1 x2 x3 = some y1 := hp
  unfold spec_Whole_Up_l1s at hp
  refine cr fun K15 hK15 => ?_
  refine sb rfl rfl eg_int ru_lss ?_
  refine nk hK15 ?_
  refine cx_seq' fun K16 hK16 => ?_
  refine cx_cond' rfl (fun h4 => ?_) (fun h4 => ?_)
  ·replace hp := (br_t h4).symm.trans hp
   refine cx_skip' ?_
   show TX E K16 _
   refine tx_k' hK16 ?_
   refine cx_seq' fun K17 hK17 => ?_
   refine cx_block' ?_
   refine cr fun K18 hK18 => ?_
   obtain ⟨r30, hr30, hp⟩ := bind_some hp
   refine s0 (rd_at' (K := (Ki .u32)) rfl rfl hr30 Try.underlying30 info91) ?_
   refine s0 (rd_load_pt' rfl rfl flat91) ?_
   refine sa rfl ?_
   refine nk hK18 ?_
   refine cr fun K19 hK19 => ?_
   refine sm rfl ?_
   refine s0 (rd_conv' rfl (ru_i2i (by rw [Try.underlying91]; rfl) Try.underlying74)) ?_
   refine sm rfl ?_
   obtain ⟨r35, hr35, hp⟩ := bind_some hp
   refine sb rfl rfl eg_int (ru_rem hr35) ?_
   obtain ⟨r36, hr36, hp⟩ := bind_some hp
   refine sb rfl rfl eg_int (ru_shl hr36) ?_
   refine sa rfl ?_
   refine nk hK19 ?_
   refine cr fun K20 hK20 => ?_
   iterate 2 refine sm rfl ?_
   refine s0 (rd_conv' rfl (ru_i2i (by rw [Try.underlying74]; rfl) Try.underlying91)) ?_
   refine sm rfl ?_
   refine sb rfl rfl eg_int ru_or ?_
   refine so (ox_rowlit' (K := (Ki .u32)) (xs := [ior .u32 (icv .u32 r36) x2]) (qs := [(0, [(Vl (.int .u32 (ior .u32 (icv .u32 r36) x2)))])]) ⟨rfl, ⟨_, rfl, (lv_vl rfl rfl)⟩, trivial⟩ Try.underlying30 info91 rfl rfl rfl rfl rfl (by kernel_rfl) rfl rfl rfl) fun g42 => ?_
   obtain ⟨r43, hr43, hp⟩ := bind_some hp
   refine so (ox_append' (K := (Ki .u32)) (i := 3) (xs := x1) (ys := ([ior .u32 (icv .u32 r36) x2])) rfl rfl rfl (sr_row' (j := 0) rfl rfl rfl Try.underlying30) hr43 Try.underlying30 info91 rfl rfl rfl (H' := [(Rg (Ki .u32) 91 g42 ([ior .u32 (icv .u32 r36) x2])), (Ur q2 32 (C6 a0_0 a0_1)), (Ur q4 32 [(Vb false), Vn])]) rfl) fun g43 => ?_
   refine sa rfl ?_
   refine nk hK20 ?_
   refine cx_region' ?_
   refine sm rfl ?_
   obtain ⟨r45, hr45, hp⟩ := bind_some hp
   refine sb rfl rfl eg_int (ru_shr hr45) ?_
   refine s0 (rd_conv' rfl (ru_i2i (by rw [Try.underlying74]; rfl) Try.underlying91)) ?_
   refine sa rfl ?_
   refine nk hK17 ?_
   refine cx_region' ?_
   refine sb rfl rfl eg_int ru_add ?_
   refine sm rfl ?_
   refine sx_nil' ?_
   show TX E (KY1 _) _
   exact tk [2,3,0] (u8 rfl rfl rfl rfl rfl rfl rfl rfl) (p3 rfl rfl rfl) (ih1 (r43, (icv .u32 r45), (iadd .i64 x3 1)) g43 _ hp)
  replace hp := (br_f h4).symm.trans hp
  refine cx_exit' ?_
  replace hp := sj hp
  subst hp
  show TX E (Zg E (Exit.exit 0) _ (Exit.exit 0)) _
  exact tx_zend' g901 rfl [0, 1, 2] (u4 rfl rfl rfl rfl) (by decide) (p3 rfl rfl rfl)
 refine zg_out fun w2 => ?_
 show TX E K7 _
 refine tx_k' hK7 ?_
 refine cx_seq' fun K21 hK21 => ?_
 refine cx_plan' [q2.block] [(5, 1), (8, 1)] [(0, 2), (1, 2), (2, 1), (3, 1), (4, 0), (5, 0), (6, 0), (7, 1), (8, 0)] mixed (by kernel_rfl) ?_
 refine px_rb' rfl (rb_field0' rfl Try.underlying32 rfl info4 rfl) rfl rfl (wt_none' rfl) ?_
 refine px_rb' rfl (rb_load' (i := 0) (o := 0) rfl (ar rfl rfl rfl rfl) rfl flat4 (by simp)) rfl rfl (wt_none' rfl) ?_
 iterate 2 refine pd rfl (rd_move' rfl) ?_
 refine px_ox' rfl (ox_rowlit' (K := (Ki .u32)) (xs := [v2.2]) (qs := [(0, [(Vl (.int .u32 v2.2))])]) ⟨rfl, ⟨_, rfl, (lv_vl rfl rfl)⟩, trivial⟩ Try.underlying30 info91 rfl rfl rfl rfl rfl (by kernel_rfl) rfl rfl rfl) rfl (bs_cons (m := 0) rfl rfl rfl bs_nil) (wt_none' rfl) fun g52 => ?_
 obtain ⟨r53, hr53, hp⟩ := bind_some hp
 refine px_ox' rfl (ox_append' (K := (Ki .u32)) (i := 3) (xs := v2.1) (ys := ([v2.2])) rfl rfl rfl (sr_row' (j := 0) rfl rfl rfl Try.underlying30) hr53 Try.underlying30 info91 rfl rfl rfl (H' := [(Rg (Ki .u32) 91 g52 ([v2.2])), (Ur q2 32 (C6 a0_0 a0_1)), (Ur q4 32 [(Vb false), Vn])]) rfl) rfl (bs_cons (m := 1) rfl rfl rfl bs_nil) (wt_none' rfl) fun g53 => ?_
 refine tx_fz' (frz_row 0 [(53, (Vw g53), (Sl (Ki .u32) r53))] (K := (Ki .u32)) (xs := r53) (by decide) rfl ⟨⟨rfl, frz_it⟩, trivial⟩ (H' := [(Rg (Ki .u32) 91 g52 ([v2.2])), (Ur q2 32 (C6 a0_0 a0_1)), (Ur q4 32 [(Vb false), Vn])]) frzH_refl) ?_
 obtain ⟨r54, hr54, hp⟩ := bind_some hp
 refine px_ox' rfl (oz (ent_fn' Try.func76 isn76 rfl rfl) (spec_trim_sim _ hr54)) rfl (bs_cons (m := 1) rfl rfl rfl bs_nil) (wt_none' rfl) fun ⟨⟩ => ?_
 refine pd rfl (rd_build' (pls := [(0, 1), (1, 1)]) (qs := [(0, [(Vb a0_0)]), (1, [(Sl (Ki .u32) r54)])]) (r := (C6 a0_0 r54)) ⟨rfl, ⟨_, rfl, (lv_vl rfl rfl)⟩, ⟨rfl, ⟨_, rfl, (lv_sl _ _)⟩, trivial⟩⟩ Try.underlying32 has32 places32 info32 rfl rfl rfl) ?_
 refine px_oxv' rfl (oxv_store (i := 2) (o := 0) rfl rfl (lv_ag _) (ar rfl rfl rfl rfl) rfl info32 rfl (H' := [(Rg (Ki .u32) 91 g52 ([v2.2])), (Ur q2 32 (C6 a0_0 a0_1)), (Ur q4 32 (C6 a0_0 r54))]) rfl) rfl rfl (bo_cons (m := 1) (by decide) rfl rfl bo_nil) (wt_none' rfl) fun _ => ?_
 refine px_nil' ?_
 show TX E K21 _
 refine tx_k' hK21 ?_
 refine cx_retc' ?_
 replace hp := sj hp
 subst hp
 refine tk (L' := [(4, (Vp q4))]) (H' := [(Ur q4 32 (C6 a0_0 r54))]) [2] (uc rfl un) (pc rfl pn) ?_
 exact tx_ret1' Try.results74 rfl () (rv_cell_agg' (i := 0) (o := 0) (nn := 2) rfl (ar rfl rfl rfl rfl) rfl agg32 rfl) (List.nil_sublist _)

def spec_addLimbs_j3 (k : Nat) (x5 : List Int) (rec1 : ((List Int) × Int × Int) → Option ((List Int) × Int)) (x7 x4 : Int) : Option ((List Int) × Int) :=
 (apd 4 x5 ([icv .u32 x4])) >>= fun r47 =>
 (ishr .u64 x4 32) >>= fun r49 =>
 rec1 (r47, r49, (iadd .i64 x7 1))
def spec_addLimbs_l1s (x1 x2 : List Int) (k : Nat) (rec1 : ((List Int) × Int × Int) → Option ((List Int) × Int)) (x5 : List Int) (x6 x7 : Int) : Option ((List Int) × Int) :=
 br (decide (x7 < (x1.length : Int)))
  ((idx x1 x7) >>= fun r26 =>
  br (decide (x7 < (x2.length : Int)))
   ((idx x2 x7) >>= fun r39 =>
   spec_addLimbs_j3 k x5 rec1 x7 (iadd .u64 (iadd .u64 (icv .u64 r26) x6) (icv .u64 r39)))
   (spec_addLimbs_j3 k x5 rec1 x7 (iadd .u64 (icv .u64 r26) x6)))
  (some (x5, x6))
def spec_addLimbs_l1 (x1 x2 : List Int) : Nat → ((List Int) × Int × Int) → Option ((List Int) × Int)
 | 0, _ => none
 | k + 1, v => spec_addLimbs_l1s x1 x2 k (spec_addLimbs_l1 x1 x2 k) v.1 v.2.1 v.2.2
def spec_addLimbs_j1 (k : Nat) (x1 x2 : List Int) : Option ((List Int)) :=
 (mk 4 0 0 (iadd .i64 (x1.length : Int) 1)) >>= fun r20 =>
 (spec_addLimbs_l1 x1 x2 k (r20, 0, 0)) >>= fun v5 =>
 (apd 4 v5.1 ([icv .u32 v5.2])) >>= fun r55 =>
 (spec_trim k r55) >>= fun r56 =>
 some r56
def spec_addLimbs (k : Nat) (a0 a1 : List Int) : Option ((List Int)) :=
 br (decide ((a0.length : Int) < (a1.length : Int)))
  (spec_addLimbs_j1 k a1 a0)
  (spec_addLimbs_j1 k a0 a1)

theorem spec_addLimbs_sim {k : Nat}  (a0 a1 : List Int) {out : (List Int)} (hp : spec_addLimbs k a0 a1 = some out) : Sx.Fn Try.prog 88 [(Sl (Ki .u32) a0), (Sl (Ki .u32) a1)] [] (fun w : Unit => (Sl (Ki .u32) out)) (fun w => []) := by
 unfold spec_addLimbs at hp
 refine fn_of Try.func88 rfl Try.ntmps88 rfl fun E hM => ?_
 refine cr fun K1 hK1 => ?_
 refine sa rfl ?_
 refine nk hK1 ?_
 refine cx_join' (fun (v1 : (List Int) × (List Int)) => (⟨57, [], [(0, (Sl (Ki .u32) v1.1)), (1, (Sl (Ki .u32) v1.2))], []⟩ : St)) (fun (v1 : (List Int) × (List Int)) => spec_addLimbs_j1 k v1.1 v1.2 = some out) ?_ ?_
 ·rintro ⟨x1, x2⟩ hp
  replace hp : spec_addLimbs_j1 k x1 x2 = some out := hp
  unfold spec_addLimbs_j1 at hp
  refine cr fun K4 hK4 => ?_
  refine sm rfl ?_
  refine sk rfl Try.underlying30 ?_
  refine sb rfl rfl eg_int ru_add ?_
  obtain ⟨r20, hr20, hp⟩ := bind_some hp
  refine so (ox_make' (K := (Ki .u32)) rfl rfl hr20 rfl Try.underlying30 info91 rfl rfl rfl rfl rfl) fun g20 => ?_
  refine sa rfl ?_
  refine nk hK4 ?_
  refine cr fun K5 hK5 => ?_
  refine sa rfl ?_
  refine nk hK5 ?_
  refine cx_seq' fun K6 hK6 => ?_
  refine cr fun K7 hK7 => ?_
  refine sm rfl ?_
  refine sk rfl Try.underlying30 ?_
  refine sm rfl ?_
  refine nk hK7 ?_
  refine cx_block' ?_
  obtain ⟨v5, hy1, hp⟩ := bind_some hp
  refine cx_loopg' (F := spec_addLimbs_l1 x1 x2) (G := fun k R v => spec_addLimbs_l1s x1 x2 k R v.1 v.2.1 v.2.2) (x := (r20, 0, 0)) (gh := g20) (fun (v3 : (List Int) × Int × Int) (w3 : Gs) => (⟨57, [], [(1, (Sl (Ki .u32) x2)), (5, (Vw w3)), (6, (Vl (.int .u64 v3.2.1))), (21, (Sl (Ki .u32) x1)), (22, (Vi (x1.length : Int))), (23, (Vi v3.2.2))], [(Rg (Ki .u32) 91 w3 v3.1)]⟩ : St)) (fun (v5 : (List Int) × Int) => Zg E (Exit.exit 0) (fun (w5 : Gs) => (⟨57, [], [(5, (Vw w5)), (6, (Vl (.int .u64 v5.2)))], [(Rg (Ki .u32) 91 w5 v5.1)]⟩ : St))) (fun _ => rfl) (fun _ _ => rfl) ?_ hy1 (tx_to' rfl [0] (u6 rfl rfl rfl rfl rfl rfl) (by decide) (pc rfl pn)) ?_
  ·clear hp hy1
   clear v5
   intro k rec1 KY1 ih1
   rintro ⟨x5, x6, x7⟩ g901 y1 hp
   replace hp : spec_addLimbs_l1s x1 x2 k rec1 x5 x6 x7 = some y1 := hp
   unfold spec_addLimbs_l1s at hp
   refine cr fun K16 hK16 => ?_
   refine sb rfl rfl eg_int ru_lss ?_
   refine nk hK16 ?_
   refine cx_seq' fun K17 hK17 => ?_
   refine cx_cond' rfl (fun h5 => ?_) (fun h5 => ?_)
   ·replace hp := (br_t h5).symm.trans hp
    refine cx_skip' ?_
    show TX E K17 _
    refine tx_k' hK17 ?_
    refine cx_seq' fun K18 hK18 => ?_
    refine cx_block' ?_
    refine cr fun K19 hK19 => ?_
    refine sm rfl ?_
    obtain ⟨r26, hr26, hp⟩ := bind_some hp
    refine s0 (rd_at' (K := (Ki .u32)) rfl rfl hr26 Try.underlying30 info91) ?_
    refine s0 (rd_load_pt' rfl rfl flat91) ?_
    iterate 2 refine sa rfl ?_
    refine nk hK19 ?_
    refine cr fun K20 hK20 => ?_
    refine sm rfl ?_
    refine s0 (rd_conv' rfl (ru_i2i (by rw [Try.underlying91]; rfl) Try.underlying74)) ?_
    refine sm rfl ?_
    refine sb rfl rfl eg_int ru_add ?_
    refine sa rfl ?_
    refine nk hK20 ?_
    refine cx_join' (fun (v4 : Int) => (⟨57, [], [(1, (Sl (Ki .u32) x2)), (5, (Vw g901)), (9, (Vl (.int .u64 v4))), (21, (Sl (Ki .u32) x1)), (22, (Vi (x1.length : Int))), (23, (Vi x7))], [(Rg (Ki .u32) 91 g901 x5)]⟩ : St)) (fun (v4 : Int) => spec_addLimbs_j3 k x5 rec1 x7 v4 = some y1) ?_ ?_
    ·rintro x4 hp
     replace hp : spec_addLimbs_j3 k x5 rec1 x7 x4 = some y1 := hp
     unfold spec_addLimbs_j3 at hp
     refine cr fun K23 hK23 => ?_
     iterate 2 refine sm rfl ?_
     refine s0 (rd_conv' rfl (ru_i2i (by rw [Try.underlying74]; rfl) Try.underlying91)) ?_
     refine so (ox_rowlit' (K := (Ki .u32)) (xs := [icv .u32 x4]) (qs := [(0, [(Vl (.int .u32 (icv .u32 x4)))])]) ⟨rfl, ⟨_, rfl, (lv_vl rfl rfl)⟩, trivial⟩ Try.underlying30 info91 rfl rfl rfl rfl rfl (by kernel_rfl) rfl rfl rfl) fun g46 => ?_
     obtain ⟨r47, hr47, hp⟩ := bind_some hp
     refine so (ox_append' (K := (Ki .u32)) (i := 1) (xs := x5) (ys := ([icv .u32 x4])) rfl rfl rfl (sr_row' (j := 0) rfl rfl rfl Try.underlying30) hr47 Try.underlying30 info91 rfl rfl rfl (H' := [(Rg (Ki .u32) 91 g46 ([icv .u32 x4]))]) rfl) fun g47 => ?_
     refine sa rfl ?_
     refine nk hK23 ?_
     refine cx_region' ?_
     refine sm rfl ?_
     obtain ⟨r49, hr49, hp⟩ := bind_some hp
     refine sb rfl rfl eg_int (ru_shr hr49) ?_
     refine sa rfl ?_
     refine nk hK18 ?_
     refine cx_region' ?_
     refine sb rfl rfl eg_int ru_add ?_
     refine sm rfl ?_
     refine sx_nil' ?_
     show TX E (KY1 _) _
     exact tk [0] (u6 rfl rfl rfl rfl rfl rfl) (pc rfl pn) (ih1 (r47, r49, (iadd .i64 x7 1)) g47 _ hp)
    intro K21 hK21
    refine cr fun K22 hK22 => ?_
    iterate 2 refine sm rfl ?_
    refine sk rfl Try.underlying30 ?_
    refine sb rfl rfl eg_int ru_lss ?_
    refine nk hK22 ?_
    refine cx_cond' rfl (fun h6 => ?_) (fun h6 => ?_)
    ·replace hp := (br_t h6).symm.trans hp
     refine cx_region' ?_
     iterate 3 refine sm rfl ?_
     obtain ⟨r39, hr39, hp⟩ := bind_some hp
     refine s0 (rd_at' (K := (Ki .u32)) rfl rfl hr39 Try.underlying30 info91) ?_
     refine s0 (rd_load_pt' rfl rfl flat91) ?_
     refine s0 (rd_conv' rfl (ru_i2i (by rw [Try.underlying91]; rfl) Try.underlying74)) ?_
     refine sb rfl rfl eg_int ru_add ?_
     refine sa rfl ?_
     refine sx_nil' ?_
     show TX E K21 _
     exact tk [0] (u6 rfl rfl rfl rfl rfl rfl) (pc rfl pn) (hK21 (iadd .u64 (iadd .u64 (icv .u64 r26) x6) (icv .u64 r39)) hp)
    replace hp := (br_f h6).symm.trans hp
    refine cx_skip' ?_
    show TX E K21 _
    exact tk [0] (u6 rfl rfl rfl rfl rfl rfl) (pc rfl pn) (hK21 (iadd .u64 (icv .u64 r26) x6) hp)
   replace hp := (br_f h5).symm.trans hp
   refine cx_exit' ?_
   replace hp := sj hp
   subst hp
   show TX E (Zg E (Exit.exit 0) _ (Exit.exit 0)) _
   exact tx_zend' g901 rfl [0] (u2 rfl rfl) (by decide) (pc rfl pn)
  refine zg_out fun w5 => ?_
  show TX E K6 _
  refine tx_k' hK6 ?_
  refine cr fun K24 hK24 => ?_
  iterate 2 refine sm rfl ?_
  refine s0 (rd_conv' rfl (ru_i2i (by rw [Try.underlying74]; rfl) Try.underlying91)) ?_
  refine so (ox_rowlit' (K := (Ki .u32)) (xs := [icv .u32 v5.2]) (qs := [(0, [(Vl (.int .u32 (icv .u32 v5.2)))])]) ⟨rfl, ⟨_, rfl, (lv_vl rfl rfl)⟩, trivial⟩ Try.underlying30 info91 rfl rfl rfl rfl rfl (by kernel_rfl) rfl rfl rfl) fun g54 => ?_
  obtain ⟨r55, hr55, hp⟩ := bind_some hp
  refine so (ox_append' (K := (Ki .u32)) (i := 1) (xs := v5.1) (ys := ([icv .u32 v5.2])) rfl rfl rfl (sr_row' (j := 0) rfl rfl rfl Try.underlying30) hr55 Try.underlying30 info91 rfl rfl rfl (H' := [(Rg (Ki .u32) 91 g54 ([icv .u32 v5.2]))]) rfl) fun g55 => ?_
  refine tx_fz' (frz_row 0 [(55, (Vw g55), (Sl (Ki .u32) r55))] (K := (Ki .u32)) (xs := r55) (by decide) rfl ⟨⟨rfl, frz_it⟩, trivial⟩ (H' := [(Rg (Ki .u32) 91 g54 ([icv .u32 v5.2]))]) frzH_refl) ?_
  obtain ⟨r56, hr56, hp⟩ := bind_some hp
  refine so (oz (ent_fn' Try.func76 isn76 rfl rfl) (spec_trim_sim _ hr56)) fun ⟨⟩ => ?_
  refine sa rfl ?_
  refine nk hK24 ?_
  refine cx_retc' ?_
  replace hp := sj hp
  subst hp
  refine tk (L' := [(4, (Sl (Ki .u32) r56))]) (H' := []) [] (uc rfl un) pn ?_
  exact tx_ret1' Try.results88 rfl () (rv_tmp' rfl) lr
 intro K2 hK2
 refine cr fun K3 hK3 => ?_
 refine sm rfl ?_
 refine sk rfl Try.underlying30 ?_
 refine sm rfl ?_
 refine sk rfl Try.underlying30 ?_
 refine sb rfl rfl eg_int ru_lss ?_
 refine nk hK3 ?_
 refine cx_cond' rfl (fun h1 => ?_) (fun h1 => ?_)
 ·replace hp := (br_t h1).symm.trans hp
  refine cx_region' ?_
  iterate 2 refine sm rfl ?_
  iterate 2 refine sa rfl ?_
  refine sx_nil' ?_
  show TX E K2 _
  exact tk [] (u2 rfl rfl) pn (hK2 (a1, a0) hp)
 replace hp := (br_f h1).symm.trans hp
 refine cx_skip' ?_
 show TX E K2 _
 exact tk [] (u2 rfl rfl) pn (hK2 (a0, a1) hp)

def spec_cmpLimbs_l1s (a0 a1 : List Int) (k : Nat) (rec1 : Int → Option (Int ⊕ Unit)) (x1 : Int) : Option (Int ⊕ Unit) :=
 br (decide (0 ≤ x1))
  ((idx a0 x1) >>= fun r25 =>
  (idx a1 x1) >>= fun r29 =>
  br (!decide (r25 = r29))
   ((idx a0 x1) >>= fun r34 =>
   (idx a1 x1) >>= fun r38 =>
   br (decide (r34 < r38))
    (some (.inl (-1)))
    (some (.inl 1)))
   (rec1 (isub .i64 x1 1)))
  (some (.inr ()))
def spec_cmpLimbs_l1 (a0 a1 : List Int) : Nat → Int → Option (Int ⊕ Unit)
 | 0, _ => none
 | k + 1, v => spec_cmpLimbs_l1s a0 a1 k (spec_cmpLimbs_l1 a0 a1 k) v
def spec_cmpLimbs (k : Nat) (a0 a1 : List Int) : Option (Int) :=
 br (!decide ((a0.length : Int) = (a1.length : Int)))
  (br (decide ((a0.length : Int) < (a1.length : Int)))
   (some (-1))
   (some 1))
  ((spec_cmpLimbs_l1 a0 a1 k (isub .i64 (a0.length : Int) 1)) >>= fun y1 => match y1 with
   | (.inl v2) =>
    (some v2)
   | (.inr v3) =>
    (some 0))

theorem spec_cmpLimbs_sim {k : Nat}  (a0 a1 : List Int) {out : Int} (hp : spec_cmpLimbs k a0 a1 = some out) : Sx.Fn Try.prog 89 [(Sl (Ki .u32) a0), (Sl (Ki .u32) a1)] [] (fun w : Unit => (Vi out)) (fun w => []) := by
 unfold spec_cmpLimbs at hp
 refine fn_of Try.func89 rfl Try.ntmps89 rfl fun E hM => ?_
 refine cr fun K1 hK1 => ?_
 refine sa rfl ?_
 refine nk hK1 ?_
 refine cx_seq' fun K2 hK2 => ?_
 refine cr fun K3 hK3 => ?_
 refine sm rfl ?_
 refine sk rfl Try.underlying30 ?_
 refine sm rfl ?_
 refine sk rfl Try.underlying30 ?_
 refine sb rfl rfl eg_int ru_neq ?_
 refine nk hK3 ?_
 refine cx_cond' rfl (fun h1 => ?_) (fun h1 => ?_)
 ·replace hp := (br_t h1).symm.trans hp
  refine cx_seq' fun K4 hK4 => ?_
  refine cr fun K5 hK5 => ?_
  refine sm rfl ?_
  refine sk rfl Try.underlying30 ?_
  refine sm rfl ?_
  refine sk rfl Try.underlying30 ?_
  refine sb rfl rfl eg_int ru_lss ?_
  refine nk hK5 ?_
  refine cx_cond' rfl (fun h2 => ?_) (fun h2 => ?_)
  ·replace hp := (br_t h2).symm.trans hp
   refine cr fun K6 hK6 => ?_
   refine sa rfl ?_
   refine nk hK6 ?_
   refine cx_retc' ?_
   replace hp := sj hp
   subst hp
   refine tk (L' := [(4, (Vi (-1)))]) (H' := []) [] (uc rfl un) pn ?_
   exact tx_ret1' Try.results89 rfl () (rv_tmp' rfl) lr
  replace hp := (br_f h2).symm.trans hp
  refine cx_skip' ?_
  show TX E K4 _
  refine tx_k' hK4 ?_
  refine cr fun K7 hK7 => ?_
  refine sa rfl ?_
  refine nk hK7 ?_
  refine cx_retc' ?_
  replace hp := sj hp
  subst hp
  refine tk (L' := [(4, (Vi 1))]) (H' := []) [] (uc rfl un) pn ?_
  exact tx_ret1' Try.results89 rfl () (rv_tmp' rfl) lr
 replace hp := (br_f h1).symm.trans hp
 refine cx_skip' ?_
 show TX E K2 _
 refine tx_k' hK2 ?_
 refine cx_seq' fun K8 hK8 => ?_
 refine cr fun K9 hK9 => ?_
 refine sm rfl ?_
 refine sk rfl Try.underlying30 ?_
 refine sb rfl rfl eg_int ru_sub ?_
 refine sa rfl ?_
 refine nk hK9 ?_
 refine cx_block' ?_
 obtain ⟨y1, hy1, hp⟩ := bind_some hp
 refine cx_loopg' (F := spec_cmpLimbs_l1 a0 a1) (G := fun k R v => spec_cmpLimbs_l1s a0 a1 k R v) (x := (isub .i64 (a0.length : Int) 1)) (gh := ()) (fun (v1 : Int) (w1 : Unit) => (⟨41, [], [(0, (Sl (Ki .u32) a0)), (1, (Sl (Ki .u32) a1)), (5, (Vi v1))], []⟩ : St)) (fun (y : Int ⊕ Unit) => match y with | (.inl v2) => Zg E Exit.ret (fun (w2 : Unit) => (⟨41, [], [(4, (Vi v2))], []⟩ : St)) | (.inr v3) => Zg E (Exit.exit 0) (fun (w3 : Unit) => (⟨41, [], [], []⟩ : St))) (fun _ => rfl) (fun _ _ => rfl) ?_ hy1 (tx_to' rfl [] (u3 rfl rfl rfl) (by decide) pn) ?_
 ·clear hp hy1
  clear y1
  intro k rec1 KY1 ih1
  rintro x1 ⟨⟩ y1 hp
  replace hp : spec_cmpLimbs_l1s a0 a1 k rec1 x1 = some y1 := hp
  unfold spec_cmpLimbs_l1s at hp
  refine cx_seq' fun K18 hK18 => ?_
  refine cr fun K19 hK19 => ?_
  refine sm rfl ?_
  refine sb rfl rfl eg_int ru_geq ?_
  refine nk hK19 ?_
  refine cx_cond' rfl (fun h7 => ?_) (fun h7 => ?_)
  ·replace hp := (br_t h7).symm.trans hp
   refine cx_skip' ?_
   show TX E K18 _
   refine tx_k' hK18 ?_
   refine cx_seq' fun K20 hK20 => ?_
   refine cx_block' ?_
   refine cx_seq' fun K21 hK21 => ?_
   refine cx_draw' mixed (by kernel_rfl) ?_
   iterate 2 refine qd (rd_move' rfl) ?_
   obtain ⟨r25, hr25, hp⟩ := bind_some hp
   refine qd (rd_at' (K := (Ki .u32)) rfl rfl hr25 Try.underlying30 info91) ?_
   refine qd (rd_load_pt' rfl rfl flat91) ?_
   iterate 2 refine qd (rd_move' rfl) ?_
   obtain ⟨r29, hr29, hp⟩ := bind_some hp
   refine qd (rd_at' (K := (Ki .u32)) rfl rfl hr29 Try.underlying30 info91) ?_
   refine qd (rd_load_pt' rfl rfl flat91) ?_
   refine qd (rd_bin' rfl rfl eg_int ru_neq) ?_
   refine qx_nil' ?_
   show TX E K21 _
   refine tx_k' hK21 ?_
   refine cx_cond' rfl (fun h8 => ?_) (fun h8 => ?_)
   ·replace hp := (br_t h8).symm.trans hp
    refine cx_seq' fun K22 hK22 => ?_
    refine cx_seq' fun K23 hK23 => ?_
    refine cx_draw' mixed (by kernel_rfl) ?_
    iterate 2 refine qd (rd_move' rfl) ?_
    obtain ⟨r34, hr34, hp⟩ := bind_some hp
    refine qd (rd_at' (K := (Ki .u32)) rfl rfl hr34 Try.underlying30 info91) ?_
    refine qd (rd_load_pt' rfl rfl flat91) ?_
    iterate 2 refine qd (rd_move' rfl) ?_
    obtain ⟨r38, hr38, hp⟩ := bind_some hp
    refine qd (rd_at' (K := (Ki .u32)) rfl rfl hr38 Try.underlying30 info91) ?_
    refine qd (rd_load_pt' rfl rfl flat91) ?_
    refine qd (rd_bin' rfl rfl eg_int ru_lss) ?_
    refine qx_nil' ?_
    show TX E K23 _
    refine tx_k' hK23 ?_
    refine cx_cond' rfl (fun h9 => ?_) (fun h9 => ?_)
    ·replace hp := (br_t h9).symm.trans hp
     refine cr fun K24 hK24 => ?_
     refine sa rfl ?_
     refine nk hK24 ?_
     refine cx_retc' ?_
     replace hp := sj hp
     subst hp
     show TX E (Zg E Exit.ret _ Exit.ret) _
     exact tx_zend' () rfl [] (uc rfl un) (by decide) pn
    replace hp := (br_f h9).symm.trans hp
    refine cx_skip' ?_
    show TX E K22 _
    refine tx_k' hK22 ?_
    refine cr fun K25 hK25 => ?_
    refine sa rfl ?_
    refine nk hK25 ?_
    refine cx_retc' ?_
    replace hp := sj hp
    subst hp
    show TX E (Zg E Exit.ret _ Exit.ret) _
    exact tx_zend' () rfl [] (uc rfl un) (by decide) pn
   replace hp := (br_f h8).symm.trans hp
   refine cx_skip' ?_
   show TX E K20 _
   refine tx_k' hK20 ?_
   refine cx_region' ?_
   refine sm rfl ?_
   refine sb rfl rfl eg_int ru_sub ?_
   refine sa rfl ?_
   refine sx_nil' ?_
   show TX E (KY1 _) _
   exact tk [] (u3 rfl rfl rfl) pn (ih1 (isub .i64 x1 1) () _ hp)
  replace hp := (br_f h7).symm.trans hp
  refine cx_exit' ?_
  replace hp := sj hp
  subst hp
  show TX E (Zg E (Exit.exit 0) _ (Exit.exit 0)) _
  exact tx_zend' () rfl [] un (by decide) pn
 rcases y1 with v2 | v3
 ·dsimp only at hp
  refine zg_out fun w2 => ?_
  replace hp := sj hp
  subst hp
  refine tk (L' := [(4, (Vi v2))]) (H' := []) [] (uc rfl un) pn ?_
  exact tx_ret1' Try.results89 rfl () (rv_tmp' rfl) lr
 dsimp only at hp
 refine zg_out fun w3 => ?_
 show TX E K8 _
 refine tx_k' hK8 ?_
 refine cr fun K26 hK26 => ?_
 refine sa rfl ?_
 refine nk hK26 ?_
 refine cx_retc' ?_
 replace hp := sj hp
 subst hp
 refine tk (L' := [(4, (Vi 0))]) (H' := []) [] (uc rfl un) pn ?_
 exact tx_ret1' Try.results89 rfl () (rv_tmp' rfl) lr

def spec_subLimbs_j4 (k : Nat) (x5 : List Int) (r18 x3 : Int) (rec1 : ((List Int) × Int × Int) → Option ((List Int))) (x7 x4 : Int) : Option ((List Int)) :=
 (ishl .u64 x4 32) >>= fun r40 =>
 (apd 4 x5 ([icv .u32 (isub .u64 (iadd .u64 (icv .u64 r18) r40) x3)])) >>= fun r46 =>
 rec1 (r46, x4, (iadd .i64 x7 1))
def spec_subLimbs_j3 (k : Nat) (r18 : Int) (x5 : List Int) (rec1 : ((List Int) × Int × Int) → Option ((List Int))) (x7 x3 : Int) : Option ((List Int)) :=
 br (decide ((icv .u64 r18) < x3))
  (spec_subLimbs_j4 k x5 r18 x3 rec1 x7 1)
  (spec_subLimbs_j4 k x5 r18 x3 rec1 x7 0)
def spec_subLimbs_l1s (a0 a1 : List Int) (k : Nat) (rec1 : ((List Int) × Int × Int) → Option ((List Int))) (x5 : List Int) (x6 x7 : Int) : Option ((List Int)) :=
 br (decide (x7 < (a0.length : Int)))
  ((idx a0 x7) >>= fun r18 =>
  br (decide (x7 < (a1.length : Int)))
   ((idx a1 x7) >>= fun r28 =>
   spec_subLimbs_j3 k r18 x5 rec1 x7 (iadd .u64 x6 (icv .u64 r28)))
   (spec_subLimbs_j3 k r18 x5 rec1 x7 x6))
  (some x5)
def spec_subLimbs_l1 (a0 a1 : List Int) : Nat → ((List Int) × Int × Int) → Option ((List Int))
 | 0, _ => none
 | k + 1, v => spec_subLimbs_l1s a0 a1 k (spec_subLimbs_l1 a0 a1 k) v.1 v.2.1 v.2.2
def spec_subLimbs (k : Nat) (a0 a1 : List Int) : Option ((List Int)) :=
 (mk 4 0 0 (a0.length : Int)) >>= fun r12 =>
 (spec_subLimbs_l1 a0 a1 k (r12, 0, 0)) >>= fun v6 =>
 (spec_trim k v6) >>= fun r49 =>
 some r49

theorem spec_subLimbs_sim {k : Nat}  (a0 a1 : List Int) {out : (List Int)} (hp : spec_subLimbs k a0 a1 = some out) : Sx.Fn Try.prog 90 [(Sl (Ki .u32) a0), (Sl (Ki .u32) a1)] [] (fun w : Unit => (Sl (Ki .u32) out)) (fun w => []) := by
 unfold spec_subLimbs at hp
 refine fn_of Try.func90 rfl Try.ntmps90 rfl fun E hM => ?_
 refine cr fun K1 hK1 => ?_
 refine sa rfl ?_
 refine nk hK1 ?_
 refine cr fun K2 hK2 => ?_
 refine sm rfl ?_
 refine sk rfl Try.underlying30 ?_
 obtain ⟨r12, hr12, hp⟩ := bind_some hp
 refine so (ox_make' (K := (Ki .u32)) rfl rfl hr12 rfl Try.underlying30 info91 rfl rfl rfl rfl rfl) fun g12 => ?_
 refine sa rfl ?_
 refine nk hK2 ?_
 refine cr fun K3 hK3 => ?_
 refine sa rfl ?_
 refine nk hK3 ?_
 refine cx_seq' fun K4 hK4 => ?_
 refine cr fun K5 hK5 => ?_
 refine sm rfl ?_
 refine sk rfl Try.underlying30 ?_
 refine sm rfl ?_
 refine nk hK5 ?_
 refine cx_block' ?_
 obtain ⟨v6, hy1, hp⟩ := bind_some hp
 refine cx_loopg' (F := spec_subLimbs_l1 a0 a1) (G := fun k R v => spec_subLimbs_l1s a0 a1 k R v.1 v.2.1 v.2.2) (x := (r12, 0, 0)) (gh := g12) (fun (v3 : (List Int) × Int × Int) (w3 : Gs) => (⟨50, [], [(1, (Sl (Ki .u32) a1)), (5, (Vw w3)), (6, (Vl (.int .u64 v3.2.1))), (13, (Sl (Ki .u32) a0)), (14, (Vi (a0.length : Int))), (15, (Vi v3.2.2))], [(Rg (Ki .u32) 91 w3 v3.1)]⟩ : St)) (fun (v6 : (List Int)) => Zg E (Exit.exit 0) (fun (w6 : Gs) => (⟨50, [], [(5, (Vw w6))], [(Rg (Ki .u32) 91 w6 v6)]⟩ : St))) (fun _ => rfl) (fun _ _ => rfl) ?_ hy1 (tx_to' rfl [0] (u6 rfl rfl rfl rfl rfl rfl) (by decide) (pc rfl pn)) ?_
 ·clear hp hy1
  clear v6
  intro k rec1 KY1 ih1
  rintro ⟨x5, x6, x7⟩ g901 y1 hp
  replace hp : spec_subLimbs_l1s a0 a1 k rec1 x5 x6 x7 = some y1 := hp
  unfold spec_subLimbs_l1s at hp
  refine cr fun K16 hK16 => ?_
  refine sb rfl rfl eg_int ru_lss ?_
  refine nk hK16 ?_
  refine cx_seq' fun K17 hK17 => ?_
  refine cx_cond' rfl (fun h5 => ?_) (fun h5 => ?_)
  ·replace hp := (br_t h5).symm.trans hp
   refine cx_skip' ?_
   show TX E K17 _
   refine tx_k' hK17 ?_
   refine cx_seq' fun K18 hK18 => ?_
   refine cx_block' ?_
   refine cr fun K19 hK19 => ?_
   refine sm rfl ?_
   obtain ⟨r18, hr18, hp⟩ := bind_some hp
   refine s0 (rd_at' (K := (Ki .u32)) rfl rfl hr18 Try.underlying30 info91) ?_
   refine s0 (rd_load_pt' rfl rfl flat91) ?_
   iterate 2 refine sa rfl ?_
   refine nk hK19 ?_
   refine cr fun K20 hK20 => ?_
   refine sm rfl ?_
   refine sa rfl ?_
   refine nk hK20 ?_
   refine cx_join' (fun (v4 : Int) => (⟨50, [], [(1, (Sl (Ki .u32) a1)), (5, (Vw g901)), (8, (Vl (.int .u32 r18))), (9, (Vl (.int .u64 v4))), (13, (Sl (Ki .u32) a0)), (14, (Vi (a0.length : Int))), (15, (Vi x7))], [(Rg (Ki .u32) 91 g901 x5)]⟩ : St)) (fun (v4 : Int) => spec_subLimbs_j3 k r18 x5 rec1 x7 v4 = some y1) ?_ ?_
   ·rintro x3 hp
    replace hp : spec_subLimbs_j3 k r18 x5 rec1 x7 x3 = some y1 := hp
    unfold spec_subLimbs_j3 at hp
    refine cr fun K23 hK23 => ?_
    refine sa rfl ?_
    refine nk hK23 ?_
    refine cx_join' (fun (v5 : Int) => (⟨50, [], [(1, (Sl (Ki .u32) a1)), (5, (Vw g901)), (6, (Vl (.int .u64 v5))), (8, (Vl (.int .u32 r18))), (9, (Vl (.int .u64 x3))), (13, (Sl (Ki .u32) a0)), (14, (Vi (a0.length : Int))), (15, (Vi x7))], [(Rg (Ki .u32) 91 g901 x5)]⟩ : St)) (fun (v5 : Int) => spec_subLimbs_j4 k x5 r18 x3 rec1 x7 v5 = some y1) ?_ ?_
    ·rintro x4 hp
     replace hp : spec_subLimbs_j4 k x5 r18 x3 rec1 x7 x4 = some y1 := hp
     unfold spec_subLimbs_j4 at hp
     refine cx_region' ?_
     iterate 2 refine sm rfl ?_
     refine s0 (rd_conv' rfl (ru_i2i (by rw [Try.underlying91]; rfl) Try.underlying74)) ?_
     refine sm rfl ?_
     obtain ⟨r40, hr40, hp⟩ := bind_some hp
     refine sb rfl rfl eg_int (ru_shl hr40) ?_
     refine sb rfl rfl eg_int ru_add ?_
     refine sm rfl ?_
     refine sb rfl rfl eg_int ru_sub ?_
     refine s0 (rd_conv' rfl (ru_i2i (by rw [Try.underlying74]; rfl) Try.underlying91)) ?_
     refine so (ox_rowlit' (K := (Ki .u32)) (xs := [icv .u32 (isub .u64 (iadd .u64 (icv .u64 r18) r40) x3)]) (qs := [(0, [(Vl (.int .u32 (icv .u32 (isub .u64 (iadd .u64 (icv .u64 r18) r40) x3))))])]) ⟨rfl, ⟨_, rfl, (lv_vl rfl rfl)⟩, trivial⟩ Try.underlying30 info91 rfl rfl rfl rfl rfl (by kernel_rfl) rfl rfl rfl) fun g45 => ?_
     obtain ⟨r46, hr46, hp⟩ := bind_some hp
     refine so (ox_append' (K := (Ki .u32)) (i := 1) (xs := x5) (ys := ([icv .u32 (isub .u64 (iadd .u64 (icv .u64 r18) r40) x3)])) rfl rfl rfl (sr_row' (j := 0) rfl rfl rfl Try.underlying30) hr46 Try.underlying30 info91 rfl rfl rfl (H' := [(Rg (Ki .u32) 91 g45 ([icv .u32 (isub .u64 (iadd .u64 (icv .u64 r18) r40) x3)]))]) rfl) fun g46 => ?_
     refine sa rfl ?_
     refine nk hK18 ?_
     refine cx_region' ?_
     refine sb rfl rfl eg_int ru_add ?_
     refine sm rfl ?_
     refine sx_nil' ?_
     show TX E (KY1 _) _
     exact tk [0] (u6 rfl rfl rfl rfl rfl rfl) (pc rfl pn) (ih1 (r46, x4, (iadd .i64 x7 1)) g46 _ hp)
    intro K24 hK24
    refine cr fun K25 hK25 => ?_
    refine sm rfl ?_
    refine s0 (rd_conv' rfl (ru_i2i (by rw [Try.underlying91]; rfl) Try.underlying74)) ?_
    refine sm rfl ?_
    refine sb rfl rfl eg_int ru_lss ?_
    refine nk hK25 ?_
    refine cx_cond' rfl (fun h7 => ?_) (fun h7 => ?_)
    ·replace hp := (br_t h7).symm.trans hp
     refine cx_region' ?_
     refine sa rfl ?_
     refine sx_nil' ?_
     show TX E K24 _
     exact tk [0] (u8 rfl rfl rfl rfl rfl rfl rfl rfl) (pc rfl pn) (hK24 1 hp)
    replace hp := (br_f h7).symm.trans hp
    refine cx_skip' ?_
    show TX E K24 _
    exact tk [0] (u8 rfl rfl rfl rfl rfl rfl rfl rfl) (pc rfl pn) (hK24 0 hp)
   intro K21 hK21
   refine cr fun K22 hK22 => ?_
   iterate 2 refine sm rfl ?_
   refine sk rfl Try.underlying30 ?_
   refine sb rfl rfl eg_int ru_lss ?_
   refine nk hK22 ?_
   refine cx_cond' rfl (fun h6 => ?_) (fun h6 => ?_)
   ·replace hp := (br_t h6).symm.trans hp
    refine cx_region' ?_
    iterate 3 refine sm rfl ?_
    obtain ⟨r28, hr28, hp⟩ := bind_some hp
    refine s0 (rd_at' (K := (Ki .u32)) rfl rfl hr28 Try.underlying30 info91) ?_
    refine s0 (rd_load_pt' rfl rfl flat91) ?_
    refine s0 (rd_conv' rfl (ru_i2i (by rw [Try.underlying91]; rfl) Try.underlying74)) ?_
    refine sb rfl rfl eg_int ru_add ?_
    refine sa rfl ?_
    refine sx_nil' ?_
    show TX E K21 _
    exact tk [0] (u7 rfl rfl rfl rfl rfl rfl rfl) (pc rfl pn) (hK21 (iadd .u64 x6 (icv .u64 r28)) hp)
   replace hp := (br_f h6).symm.trans hp
   refine cx_skip' ?_
   show TX E K21 _
   exact tk [0] (u7 rfl rfl rfl rfl rfl rfl rfl) (pc rfl pn) (hK21 x6 hp)
  replace hp := (br_f h5).symm.trans hp
  refine cx_exit' ?_
  replace hp := sj hp
  subst hp
  show TX E (Zg E (Exit.exit 0) _ (Exit.exit 0)) _
  exact tx_zend' g901 rfl [0] (uc rfl un) (by decide) (pc rfl pn)
 refine zg_out fun w6 => ?_
 show TX E K4 _
 refine tx_k' hK4 ?_
 refine cr fun K26 hK26 => ?_
 refine sm rfl ?_
 refine tx_fz' (frz_row 0 [(5, (Vw w6), (Sl (Ki .u32) v6)), (48, (Vw w6), (Sl (Ki .u32) v6))] (K := (Ki .u32)) (xs := v6) (by decide) rfl ⟨⟨rfl, frz_it⟩, ⟨rfl, frz_it⟩, trivial⟩ (H' := []) frzH_refl) ?_
 obtain ⟨r49, hr49, hp⟩ := bind_some hp
 refine so (oz (ent_fn' Try.func76 isn76 rfl rfl) (spec_trim_sim _ hr49)) fun ⟨⟩ => ?_
 refine sa rfl ?_
 refine nk hK26 ?_
 refine cx_retc' ?_
 replace hp := sj hp
 subst hp
 refine tk (L' := [(4, (Sl (Ki .u32) r49))]) (H' := []) [] (uc rfl un) pn ?_
 exact tx_ret1' Try.results90 rfl () (rv_tmp' rfl) lr

def spec_Whole_Add (k : Nat) (a0_0 : Bool) (a0_1 : List Int) (a1_0 : Bool) (a1_1 : List Int) : Option (Bool × (List Int)) :=
 br (a0_0 == a1_0)
  ((spec_addLimbs k a0_1 a1_1) >>= fun r16 =>
  some (a0_0, r16))
  ((spec_cmpLimbs k a0_1 a1_1) >>= fun r22 =>
  br (decide (r22 = 0))
   (some (false, []))
   (br (decide (r22 = 1))
    ((spec_subLimbs k a0_1 a1_1) >>= fun r34 =>
    some (a0_0, r34))
    ((spec_subLimbs k a1_1 a0_1) >>= fun r42 =>
    some (a1_0, r42))))

theorem spec_Whole_Add_sim {k : Nat}  (a0_0 : Bool) (a0_1 : List Int) (a1_0 : Bool) (a1_1 : List Int) {out : Bool × (List Int)} (hp : spec_Whole_Add k a0_0 a0_1 a1_0 a1_1 = some out) : Sx.Fn Try.prog 75 [(Ag (C6 a0_0 a0_1)), (Ag (C6 a1_0 a1_1))] [] (fun w : Unit => (Ag (C6 out.1 out.2))) (fun w => []) := by
 unfold spec_Whole_Add at hp
 refine fn_of Try.func75 rfl Try.ntmps75 rfl fun E hM => ?_
 refine cr fun K1 hK1 => ?_
 refine so (ox_box' rfl (lv_ag _) rfl rfl) fun q2 => ?_
 refine so (ox_box' rfl (lv_ag _) rfl rfl) fun q3 => ?_
 refine so (ox_alloc' info32 rfl rfl rfl rfl (l := [(Vb false), Vn]) rfl) fun q4 => ?_
 refine nk hK1 ?_
 refine cx_seq' fun K2 hK2 => ?_
 refine cr fun K3 hK3 => ?_
 refine sf rfl Try.underlying32 rfl info4 rfl ?_
 refine sl (i := 2) (o := 0) rfl (ar rfl rfl rfl rfl) rfl flat4 ?_
 refine sf rfl Try.underlying32 rfl info4 rfl ?_
 refine sl (i := 1) (o := 0) rfl (ar rfl rfl rfl rfl) rfl flat4 ?_
 refine sb rfl rfl eg_bool (ru_beq Try.underlying4) ?_
 refine nk hK3 ?_
 refine cx_cond' rfl (fun h1 => ?_) (fun h1 => ?_)
 ·replace hp := (br_t h1).symm.trans hp
  refine cx_seq' fun K4 hK4 => ?_
  refine cx_plan' [] [(8, 1)] [(0, 1), (1, 1), (2, 1), (3, 1), (4, 1), (5, 1), (6, 0), (7, 1), (8, 0)] mixed (by kernel_rfl) ?_
  refine pd rfl (rd_field0' rfl Try.underlying32 rfl info4 rfl) ?_
  refine pd rfl (rd_load' (i := 2) (o := 0) rfl (ar rfl rfl rfl rfl) rfl flat4) ?_
  refine pd rfl (rd_field' (off := 1) rfl Try.underlying32 rfl info30 rfl) ?_
  refine pd rfl (rd_load' (i := 2) (o := 1) rfl (ar rfl rfl rfl rfl) rfl flat30) ?_
  refine pd rfl (rd_field' (off := 1) rfl Try.underlying32 rfl info30 rfl) ?_
  refine pd rfl (rd_load' (i := 1) (o := 1) rfl (ar rfl rfl rfl rfl) rfl flat30) ?_
  obtain ⟨r16, hr16, hp⟩ := bind_some hp
  refine px_ox' rfl (oz (ent_fn' Try.func88 isn88 rfl rfl) (spec_addLimbs_sim _ _ hr16)) rfl bs_nil (wt_none' rfl) fun ⟨⟩ => ?_
  refine pd rfl (rd_build' (pls := [(0, 1), (1, 1)]) (qs := [(0, [(Vb a0_0)]), (1, [(Sl (Ki .u32) r16)])]) (r := (C6 a0_0 r16)) ⟨rfl, ⟨_, rfl, (lv_vl rfl rfl)⟩, ⟨rfl, ⟨_, rfl, (lv_sl _ _)⟩, trivial⟩⟩ Try.underlying32 has32 places32 info32 rfl rfl rfl) ?_
  refine px_oxv' rfl (oxv_store (i := 0) (o := 0) rfl rfl (lv_ag _) (ar rfl rfl rfl rfl) rfl info32 rfl (H' := [(Ur q4 32 (C6 a0_0 r16)), (Ur q3 32 (C6 a1_0 a1_1)), (Ur q2 32 (C6 a0_0 a0_1))]) rfl) rfl rfl bo_nil (wt_none' rfl) fun _ => ?_
  refine px_nil' ?_
  show TX E K4 _
  refine tx_k' hK4 ?_
  refine cx_retc' ?_
  replace hp := sj hp
  subst hp
  refine tk (L' := [(4, (Vp q4))]) (H' := [(Ur q4 32 (C6 a0_0 r16))]) [0] (uc rfl un) (pc rfl pn) ?_
  exact tx_ret1' Try.results75 rfl () (rv_cell_agg' (i := 0) (o := 0) (nn := 2) rfl (ar rfl rfl rfl rfl) rfl agg32 rfl) (List.nil_sublist _)
 replace hp := (br_f h1).symm.trans hp
 refine cx_skip' ?_
 show TX E K2 _
 refine tx_k' hK2 ?_
 refine cx_seq' fun K5 hK5 => ?_
 refine cr fun K6 hK6 => ?_
 refine sg (off := 1) rfl Try.underlying32 rfl info30 rfl ?_
 refine sl (i := 2) (o := 1) rfl (ar rfl rfl rfl rfl) rfl flat30 ?_
 refine sg (off := 1) rfl Try.underlying32 rfl info30 rfl ?_
 refine sl (i := 1) (o := 1) rfl (ar rfl rfl rfl rfl) rfl flat30 ?_
 obtain ⟨r22, hr22, hp⟩ := bind_some hp
 refine so (oz (ent_fn' Try.func89 isn89 rfl rfl) (spec_cmpLimbs_sim _ _ hr22)) fun ⟨⟩ => ?_
 refine nk hK6 ?_
 refine cx_block' ?_
 refine cr fun K7 hK7 => ?_
 refine sb rfl rfl eg_int ru_eql ?_
 refine sa rfl ?_
 refine nk hK7 ?_
 refine cx_cond' rfl (fun h2 => ?_) (fun h2 => ?_)
 ·replace hp := (br_t h2).symm.trans hp
  refine cr fun K8 hK8 => ?_
  refine sv (pls := [(0, 1), (1, 1)]) (qs := []) (r := [(Vb false), Vn]) trivial Try.underlying32 has32 places32 info32 rfl rfl rfl ?_
  refine so (ox_store' (i := 0) (o := 0) rfl rfl (lv_ag _) (ar rfl rfl rfl rfl) rfl info32 rfl (H' := [(Ur q4 32 [(Vb false), Vn]), (Ur q3 32 (C6 a1_0 a1_1)), (Ur q2 32 (C6 a0_0 a0_1))]) rfl) fun _ => ?_
  refine nk hK8 ?_
  refine cx_retc' ?_
  replace hp := sj hp
  subst hp
  refine tk (L' := [(4, (Vp q4))]) (H' := [(Ur q4 32 [(Vb false), Vn])]) [0] (uc rfl un) (pc rfl pn) ?_
  exact tx_ret1' Try.results75 rfl () (rv_imp' (x := (Ag [(Vb false), Vn])) (y := (Ag [(Vb false), (Sl (Ki .u32) [])])) (rv_cell_agg' (i := 0) (o := 0) (nn := 2) rfl (ar rfl rfl rfl rfl) rfl agg32 rfl) (imp_ag ⟨imp_refl, imp_nil, trivial⟩)) (List.nil_sublist _)
 replace hp := (br_f h2).symm.trans hp
 refine cr fun K9 hK9 => ?_
 refine sb rfl rfl eg_int ru_eql ?_
 refine sa rfl ?_
 refine nk hK9 ?_
 refine cx_cond' rfl (fun h3 => ?_) (fun h3 => ?_)
 ·replace hp := (br_t h3).symm.trans hp
  refine cx_seq' fun K10 hK10 => ?_
  refine cx_plan' [] [(8, 1)] [(0, 1), (1, 1), (2, 1), (3, 1), (4, 1), (5, 1), (6, 0), (7, 1), (8, 0)] mixed (by kernel_rfl) ?_
  refine pd rfl (rd_field0' rfl Try.underlying32 rfl info4 rfl) ?_
  refine pd rfl (rd_load' (i := 2) (o := 0) rfl (ar rfl rfl rfl rfl) rfl flat4) ?_
  refine pd rfl (rd_field' (off := 1) rfl Try.underlying32 rfl info30 rfl) ?_
  refine pd rfl (rd_load' (i := 2) (o := 1) rfl (ar rfl rfl rfl rfl) rfl flat30) ?_
  refine pd rfl (rd_field' (off := 1) rfl Try.underlying32 rfl info30 rfl) ?_
  refine pd rfl (rd_load' (i := 1) (o := 1) rfl (ar rfl rfl rfl rfl) rfl flat30) ?_
  obtain ⟨r34, hr34, hp⟩ := bind_some hp
  refine px_ox' rfl (oz (ent_fn' Try.func90 isn90 rfl rfl) (spec_subLimbs_sim _ _ hr34)) rfl bs_nil (wt_none' rfl) fun ⟨⟩ => ?_
  refine pd rfl (rd_build' (pls := [(0, 1), (1, 1)]) (qs := [(0, [(Vb a0_0)]), (1, [(Sl (Ki .u32) r34)])]) (r := (C6 a0_0 r34)) ⟨rfl, ⟨_, rfl, (lv_vl rfl rfl)⟩, ⟨rfl, ⟨_, rfl, (lv_sl _ _)⟩, trivial⟩⟩ Try.underlying32 has32 places32 info32 rfl rfl rfl) ?_
  refine px_oxv' rfl (oxv_store (i := 0) (o := 0) rfl rfl (lv_ag _) (ar rfl rfl rfl rfl) rfl info32 rfl (H' := [(Ur q4 32 (C6 a0_0 r34)), (Ur q3 32 (C6 a1_0 a1_1)), (Ur q2 32 (C6 a0_0 a0_1))]) rfl) rfl rfl bo_nil (wt_none' rfl) fun _ => ?_
  refine px_nil' ?_
  show TX E K10 _
  refine tx_k' hK10 ?_
  refine cx_retc' ?_
  replace hp := sj hp
  subst hp
  refine tk (L' := [(4, (Vp q4))]) (H' := [(Ur q4 32 (C6 a0_0 r34))]) [0] (uc rfl un) (pc rfl pn) ?_
  exact tx_ret1' Try.results75 rfl () (rv_cell_agg' (i := 0) (o := 0) (nn := 2) rfl (ar rfl rfl rfl rfl) rfl agg32 rfl) (List.nil_sublist _)
 replace hp := (br_f h3).symm.trans hp
 refine cx_skip' ?_
 show TX E K5 _
 refine tx_k' hK5 ?_
 refine cx_seq' fun K11 hK11 => ?_
 refine cx_plan' [] [(8, 1)] [(0, 1), (1, 1), (2, 1), (3, 1), (4, 1), (5, 1), (6, 0), (7, 1), (8, 0)] mixed (by kernel_rfl) ?_
 refine pd rfl (rd_field0' rfl Try.underlying32 rfl info4 rfl) ?_
 refine pd rfl (rd_load' (i := 1) (o := 0) rfl (ar rfl rfl rfl rfl) rfl flat4) ?_
 refine pd rfl (rd_field' (off := 1) rfl Try.underlying32 rfl info30 rfl) ?_
 refine pd rfl (rd_load' (i := 1) (o := 1) rfl (ar rfl rfl rfl rfl) rfl flat30) ?_
 refine pd rfl (rd_field' (off := 1) rfl Try.underlying32 rfl info30 rfl) ?_
 refine pd rfl (rd_load' (i := 2) (o := 1) rfl (ar rfl rfl rfl rfl) rfl flat30) ?_
 obtain ⟨r42, hr42, hp⟩ := bind_some hp
 refine px_ox' rfl (oz (ent_fn' Try.func90 isn90 rfl rfl) (spec_subLimbs_sim _ _ hr42)) rfl bs_nil (wt_none' rfl) fun ⟨⟩ => ?_
 refine pd rfl (rd_build' (pls := [(0, 1), (1, 1)]) (qs := [(0, [(Vb a1_0)]), (1, [(Sl (Ki .u32) r42)])]) (r := (C6 a1_0 r42)) ⟨rfl, ⟨_, rfl, (lv_vl rfl rfl)⟩, ⟨rfl, ⟨_, rfl, (lv_sl _ _)⟩, trivial⟩⟩ Try.underlying32 has32 places32 info32 rfl rfl rfl) ?_
 refine px_oxv' rfl (oxv_store (i := 0) (o := 0) rfl rfl (lv_ag _) (ar rfl rfl rfl rfl) rfl info32 rfl (H' := [(Ur q4 32 (C6 a1_0 r42)), (Ur q3 32 (C6 a1_0 a1_1)), (Ur q2 32 (C6 a0_0 a0_1))]) rfl) rfl rfl bo_nil (wt_none' rfl) fun _ => ?_
 refine px_nil' ?_
 show TX E K11 _
 refine tx_k' hK11 ?_
 refine cx_retc' ?_
 replace hp := sj hp
 subst hp
 refine tk (L' := [(4, (Vp q4))]) (H' := [(Ur q4 32 (C6 a1_0 r42))]) [0] (uc rfl un) (pc rfl pn) ?_
 exact tx_ret1' Try.results75 rfl () (rv_cell_agg' (i := 0) (o := 0) (nn := 2) rfl (ar rfl rfl rfl rfl) rfl agg32 rfl) (List.nil_sublist _)

def spec_Dyadic_Add (k : Nat) (a0_0 : Bool) (a0_1 : List Int) (a0_2 : Int) (a1_0 : Bool) (a1_1 : List Int) (a1_2 : Int) : Option (Bool × (List Int) × Int) :=
 (spec_Dyadic_Sign k a0_0 a0_1 a0_2) >>= fun r7 =>
 br (decide (r7 = 0))
  (some (a1_0, a1_1, a1_2))
  ((spec_Dyadic_Sign k a1_0 a1_1 a1_2) >>= fun r12 =>
  br (decide (r12 = 0))
   (some (a0_0, a0_1, a0_2))
   (br (decide (a1_2 < a0_2))
    ((spec_Whole_Up k a0_0 a0_1 (isub .i64 a0_2 a1_2)) >>= fun r28 =>
    (spec_Whole_Add k r28.1 r28.2 a1_0 a1_1) >>= fun r31 =>
    some (r31.1, r31.2, a1_2))
    ((spec_Whole_Up k a1_0 a1_1 (isub .i64 a1_2 a0_2)) >>= fun r42 =>
    (spec_Whole_Add k r42.1 r42.2 a0_0 a0_1) >>= fun r45 =>
    some (r45.1, r45.2, a0_2))))

theorem spec_Dyadic_Add_sim {k : Nat}  (a0_0 : Bool) (a0_1 : List Int) (a0_2 : Int) (a1_0 : Bool) (a1_1 : List Int) (a1_2 : Int) {out : Bool × (List Int) × Int} (hp : spec_Dyadic_Add k a0_0 a0_1 a0_2 a1_0 a1_1 a1_2 = some out) : Sx.Fn Try.prog 54 [(Ag (C2 a0_0 a0_1 a0_2)), (Ag (C2 a1_0 a1_1 a1_2))] [] (fun w : Unit => (Ag (C2 out.1 out.2.1 out.2.2))) (fun w => []) := by
 unfold spec_Dyadic_Add at hp
 refine fn_of Try.func54 rfl Try.ntmps54 rfl fun E hM => ?_
 refine cr fun K1 hK1 => ?_
 refine so (ox_box' rfl (lv_ag _) rfl rfl) fun q2 => ?_
 refine so (ox_box' rfl (lv_ag _) rfl rfl) fun q3 => ?_
 refine so (ox_alloc' info34 rfl rfl rfl rfl (l := (C1 false 0)) rfl) fun q4 => ?_
 refine nk hK1 ?_
 refine cx_seq' fun K2 hK2 => ?_
 refine cx_block' ?_
 refine cr fun K3 hK3 => ?_
 refine s0 (rd_load_agg' (i := 2) (o := 0) (nn := 3) rfl (ar rfl rfl rfl rfl) rfl agg34 (l' := (C2 a0_0 a0_1 a0_2)) rfl) ?_
 obtain ⟨r7, hr7, hp⟩ := bind_some hp
 refine so (oz (ent_fn' Try.func28 isn28 rfl rfl) (spec_Dyadic_Sign_sim _ _ _ hr7)) fun ⟨⟩ => ?_
 refine sb rfl rfl eg_int ru_eql ?_
 refine sa rfl ?_
 refine nk hK3 ?_
 refine cx_cond' rfl (fun h1 => ?_) (fun h1 => ?_)
 ·replace hp := (br_t h1).symm.trans hp
  refine cr fun K4 hK4 => ?_
  refine s0 (rd_load_agg' (i := 1) (o := 0) (nn := 3) rfl (ar rfl rfl rfl rfl) rfl agg34 (l' := (C2 a1_0 a1_1 a1_2)) rfl) ?_
  refine so (ox_store' (i := 0) (o := 0) rfl rfl (lv_ag _) (ar rfl rfl rfl rfl) rfl info34 rfl (H' := [(Ur q4 34 (C2 a1_0 a1_1 a1_2)), (Ur q3 34 (C2 a1_0 a1_1 a1_2)), (Ur q2 34 (C2 a0_0 a0_1 a0_2))]) rfl) fun _ => ?_
  refine nk hK4 ?_
  refine cx_retc' ?_
  replace hp := sj hp
  subst hp
  refine tk (L' := [(4, (Vp q4))]) (H' := [(Ur q4 34 (C2 a1_0 a1_1 a1_2))]) [0] (uc rfl un) (pc rfl pn) ?_
  exact tx_ret1' Try.results54 rfl () (rv_cell_agg' (i := 0) (o := 0) (nn := 3) rfl (ar rfl rfl rfl rfl) rfl agg34 rfl) (List.nil_sublist _)
 replace hp := (br_f h1).symm.trans hp
 refine cr fun K5 hK5 => ?_
 refine s0 (rd_load_agg' (i := 1) (o := 0) (nn := 3) rfl (ar rfl rfl rfl rfl) rfl agg34 (l' := (C2 a1_0 a1_1 a1_2)) rfl) ?_
 obtain ⟨r12, hr12, hp⟩ := bind_some hp
 refine so (oz (ent_fn' Try.func28 isn28 rfl rfl) (spec_Dyadic_Sign_sim _ _ _ hr12)) fun ⟨⟩ => ?_
 refine sb rfl rfl eg_int ru_eql ?_
 refine sa rfl ?_
 refine nk hK5 ?_
 refine cx_cond' rfl (fun h2 => ?_) (fun h2 => ?_)
 ·replace hp := (br_t h2).symm.trans hp
  refine cr fun K6 hK6 => ?_
  refine s0 (rd_load_agg' (i := 2) (o := 0) (nn := 3) rfl (ar rfl rfl rfl rfl) rfl agg34 (l' := (C2 a0_0 a0_1 a0_2)) rfl) ?_
  refine so (ox_store' (i := 0) (o := 0) rfl rfl (lv_ag _) (ar rfl rfl rfl rfl) rfl info34 rfl (H' := [(Ur q4 34 (C2 a0_0 a0_1 a0_2)), (Ur q3 34 (C2 a1_0 a1_1 a1_2)), (Ur q2 34 (C2 a0_0 a0_1 a0_2))]) rfl) fun _ => ?_
  refine nk hK6 ?_
  refine cx_retc' ?_
  replace hp := sj hp
  subst hp
  refine tk (L' := [(4, (Vp q4))]) (H' := [(Ur q4 34 (C2 a0_0 a0_1 a0_2))]) [0] (uc rfl un) (pc rfl pn) ?_
  exact tx_ret1' Try.results54 rfl () (rv_cell_agg' (i := 0) (o := 0) (nn := 3) rfl (ar rfl rfl rfl rfl) rfl agg34 rfl) (List.nil_sublist _)
 replace hp := (br_f h2).symm.trans hp
 refine cr fun K7 hK7 => ?_
 refine sg (off := 2) rfl Try.underlying34 rfl info3 rfl ?_
 refine sl (i := 2) (o := 2) rfl (ar rfl rfl rfl rfl) rfl flat3 ?_
 refine sg (off := 2) rfl Try.underlying34 rfl info3 rfl ?_
 refine sl (i := 1) (o := 2) rfl (ar rfl rfl rfl rfl) rfl flat3 ?_
 refine sb rfl rfl eg_int ru_gtr ?_
 refine sa rfl ?_
 refine nk hK7 ?_
 refine cx_cond' rfl (fun h3 => ?_) (fun h3 => ?_)
 ·replace hp := (br_t h3).symm.trans hp
  refine cx_seq' fun K8 hK8 => ?_
  refine cx_plan' [] [(14, 1)] [(0, 1), (1, 1), (2, 1), (3, 1), (4, 1), (5, 1), (6, 1), (8, 1), (9, 1), (11, 1), (12, 1), (7, 0), (10, 0), (13, 1), (14, 0)] mixed (by kernel_rfl) ?_
  refine pd rfl (rd_field0' rfl Try.underlying34 rfl info32 rfl) ?_
  refine pd rfl (rd_load_agg' (i := 2) (o := 0) (nn := 2) rfl (ar rfl rfl rfl rfl) rfl agg32 (l' := (C6 a0_0 a0_1)) rfl) ?_
  refine pd rfl (rd_field' (off := 2) rfl Try.underlying34 rfl info3 rfl) ?_
  refine pd rfl (rd_load' (i := 2) (o := 2) rfl (ar rfl rfl rfl rfl) rfl flat3) ?_
  refine pd rfl (rd_field' (off := 2) rfl Try.underlying34 rfl info3 rfl) ?_
  refine pd rfl (rd_load' (i := 1) (o := 2) rfl (ar rfl rfl rfl rfl) rfl flat3) ?_
  refine pd rfl (rd_bin' rfl rfl eg_int ru_sub) ?_
  refine pd rfl (rd_field0' rfl Try.underlying34 rfl info32 rfl) ?_
  refine pd rfl (rd_load_agg' (i := 1) (o := 0) (nn := 2) rfl (ar rfl rfl rfl rfl) rfl agg32 (l' := (C6 a1_0 a1_1)) rfl) ?_
  refine pd rfl (rd_field' (off := 2) rfl Try.underlying34 rfl info3 rfl) ?_
  refine pd rfl (rd_load' (i := 1) (o := 2) rfl (ar rfl rfl rfl rfl) rfl flat3) ?_
  obtain ⟨r28, hr28, hp⟩ := bind_some hp
  refine px_ox' rfl (oz (ent_fn' Try.func74 isn74 rfl rfl) (spec_Whole_Up_sim _ _ _ hr28)) rfl bs_nil (wt_none' rfl) fun ⟨⟩ => ?_
  obtain ⟨r31, hr31, hp⟩ := bind_some hp
  refine px_ox' rfl (oz (ent_fn' Try.func75 isn75 rfl rfl) (spec_Whole_Add_sim _ _ _ _ hr31)) rfl bs_nil (wt_none' rfl) fun ⟨⟩ => ?_
  refine pd rfl (rd_build' (pls := [(0, 2), (2, 1)]) (qs := [(0, (C6 r31.1 r31.2)), (1, [(Vi a1_2)])]) (r := (C2 r31.1 r31.2 a1_2)) ⟨rfl, ⟨_, rfl, (lv_ag _)⟩, ⟨rfl, ⟨_, rfl, (lv_vl rfl rfl)⟩, trivial⟩⟩ Try.underlying34 has34 places34 info34 rfl rfl rfl) ?_
  refine px_oxv' rfl (oxv_store (i := 0) (o := 0) rfl rfl (lv_ag _) (ar rfl rfl rfl rfl) rfl info34 rfl (H' := [(Ur q4 34 (C2 r31.1 r31.2 a1_2)), (Ur q3 34 (C2 a1_0 a1_1 a1_2)), (Ur q2 34 (C2 a0_0 a0_1 a0_2))]) rfl) rfl rfl bo_nil (wt_none' rfl) fun _ => ?_
  refine px_nil' ?_
  show TX E K8 _
  refine tx_k' hK8 ?_
  refine cx_retc' ?_
  replace hp := sj hp
  subst hp
  refine tk (L' := [(4, (Vp q4))]) (H' := [(Ur q4 34 (C2 r31.1 r31.2 a1_2))]) [0] (uc rfl un) (pc rfl pn) ?_
  exact tx_ret1' Try.results54 rfl () (rv_cell_agg' (i := 0) (o := 0) (nn := 3) rfl (ar rfl rfl rfl rfl) rfl agg34 rfl) (List.nil_sublist _)
 replace hp := (br_f h3).symm.trans hp
 refine cx_skip' ?_
 show TX E K2 _
 refine tx_k' hK2 ?_
 refine cx_seq' fun K9 hK9 => ?_
 refine cx_plan' [] [(14, 1)] [(0, 1), (1, 1), (2, 1), (3, 1), (4, 1), (5, 1), (6, 1), (8, 1), (9, 1), (11, 1), (12, 1), (7, 0), (10, 0), (13, 1), (14, 0)] mixed (by kernel_rfl) ?_
 refine pd rfl (rd_field0' rfl Try.underlying34 rfl info32 rfl) ?_
 refine pd rfl (rd_load_agg' (i := 1) (o := 0) (nn := 2) rfl (ar rfl rfl rfl rfl) rfl agg32 (l' := (C6 a1_0 a1_1)) rfl) ?_
 refine pd rfl (rd_field' (off := 2) rfl Try.underlying34 rfl info3 rfl) ?_
 refine pd rfl (rd_load' (i := 1) (o := 2) rfl (ar rfl rfl rfl rfl) rfl flat3) ?_
 refine pd rfl (rd_field' (off := 2) rfl Try.underlying34 rfl info3 rfl) ?_
 refine pd rfl (rd_load' (i := 2) (o := 2) rfl (ar rfl rfl rfl rfl) rfl flat3) ?_
 refine pd rfl (rd_bin' rfl rfl eg_int ru_sub) ?_
 refine pd rfl (rd_field0' rfl Try.underlying34 rfl info32 rfl) ?_
 refine pd rfl (rd_load_agg' (i := 2) (o := 0) (nn := 2) rfl (ar rfl rfl rfl rfl) rfl agg32 (l' := (C6 a0_0 a0_1)) rfl) ?_
 refine pd rfl (rd_field' (off := 2) rfl Try.underlying34 rfl info3 rfl) ?_
 refine pd rfl (rd_load' (i := 2) (o := 2) rfl (ar rfl rfl rfl rfl) rfl flat3) ?_
 obtain ⟨r42, hr42, hp⟩ := bind_some hp
 refine px_ox' rfl (oz (ent_fn' Try.func74 isn74 rfl rfl) (spec_Whole_Up_sim _ _ _ hr42)) rfl bs_nil (wt_none' rfl) fun ⟨⟩ => ?_
 obtain ⟨r45, hr45, hp⟩ := bind_some hp
 refine px_ox' rfl (oz (ent_fn' Try.func75 isn75 rfl rfl) (spec_Whole_Add_sim _ _ _ _ hr45)) rfl bs_nil (wt_none' rfl) fun ⟨⟩ => ?_
 refine pd rfl (rd_build' (pls := [(0, 2), (2, 1)]) (qs := [(0, (C6 r45.1 r45.2)), (1, [(Vi a0_2)])]) (r := (C2 r45.1 r45.2 a0_2)) ⟨rfl, ⟨_, rfl, (lv_ag _)⟩, ⟨rfl, ⟨_, rfl, (lv_vl rfl rfl)⟩, trivial⟩⟩ Try.underlying34 has34 places34 info34 rfl rfl rfl) ?_
 refine px_oxv' rfl (oxv_store (i := 0) (o := 0) rfl rfl (lv_ag _) (ar rfl rfl rfl rfl) rfl info34 rfl (H' := [(Ur q4 34 (C2 r45.1 r45.2 a0_2)), (Ur q3 34 (C2 a1_0 a1_1 a1_2)), (Ur q2 34 (C2 a0_0 a0_1 a0_2))]) rfl) rfl rfl bo_nil (wt_none' rfl) fun _ => ?_
 refine px_nil' ?_
 show TX E K9 _
 refine tx_k' hK9 ?_
 refine cx_retc' ?_
 replace hp := sj hp
 subst hp
 refine tk (L' := [(4, (Vp q4))]) (H' := [(Ur q4 34 (C2 r45.1 r45.2 a0_2))]) [0] (uc rfl un) (pc rfl pn) ?_
 exact tx_ret1' Try.results54 rfl () (rv_cell_agg' (i := 0) (o := 0) (nn := 3) rfl (ar rfl rfl rfl rfl) rfl agg34 rfl) (List.nil_sublist _)

def spec_Dyadic_Sub (k : Nat) (a0_0 : Bool) (a0_1 : List Int) (a0_2 : Int) (a1_0 : Bool) (a1_1 : List Int) (a1_2 : Int) : Option (Bool × (List Int) × Int) :=
 (spec_Dyadic_Minus k a1_0 a1_1 a1_2) >>= fun r7 =>
 (spec_Dyadic_Add k a0_0 a0_1 a0_2 r7.1 r7.2.1 r7.2.2) >>= fun r8 =>
 some (r8.1, r8.2.1, r8.2.2)

theorem spec_Dyadic_Sub_sim {k : Nat}  (a0_0 : Bool) (a0_1 : List Int) (a0_2 : Int) (a1_0 : Bool) (a1_1 : List Int) (a1_2 : Int) {out : Bool × (List Int) × Int} (hp : spec_Dyadic_Sub k a0_0 a0_1 a0_2 a1_0 a1_1 a1_2 = some out) : Sx.Fn Try.prog 27 [(Ag (C2 a0_0 a0_1 a0_2)), (Ag (C2 a1_0 a1_1 a1_2))] [] (fun w : Unit => (Ag (C2 out.1 out.2.1 out.2.2))) (fun w => []) := by
 unfold spec_Dyadic_Sub at hp
 refine fn_of Try.func27 rfl Try.ntmps27 rfl fun E hM => ?_
 refine cr fun K1 hK1 => ?_
 refine so (ox_box' rfl (lv_ag _) rfl rfl) fun q2 => ?_
 refine so (ox_box' rfl (lv_ag _) rfl rfl) fun q3 => ?_
 refine so (ox_alloc' info34 rfl rfl rfl rfl (l := (C1 false 0)) rfl) fun q4 => ?_
 refine nk hK1 ?_
 refine cx_seq' fun K2 hK2 => ?_
 refine cx_plan' [] [(4, 1)] [(0, 1), (1, 1), (2, 0), (3, 0), (4, 0)] mixed (by kernel_rfl) ?_
 refine pd rfl (rd_load_agg' (i := 2) (o := 0) (nn := 3) rfl (ar rfl rfl rfl rfl) rfl agg34 (l' := (C2 a0_0 a0_1 a0_2)) rfl) ?_
 refine pd rfl (rd_load_agg' (i := 1) (o := 0) (nn := 3) rfl (ar rfl rfl rfl rfl) rfl agg34 (l' := (C2 a1_0 a1_1 a1_2)) rfl) ?_
 obtain ⟨r7, hr7, hp⟩ := bind_some hp
 refine px_ox' rfl (oz (ent_fn' Try.func56 isn56 rfl rfl) (spec_Dyadic_Minus_sim _ _ _ hr7)) rfl bs_nil (wt_none' rfl) fun ⟨⟩ => ?_
 obtain ⟨r8, hr8, hp⟩ := bind_some hp
 refine px_ox' rfl (oz (ent_fn' Try.func54 isn54 rfl rfl) (spec_Dyadic_Add_sim _ _ _ _ _ _ hr8)) rfl bs_nil (wt_none' rfl) fun ⟨⟩ => ?_
 refine px_oxv' rfl (oxv_store (i := 0) (o := 0) rfl rfl (lv_ag _) (ar rfl rfl rfl rfl) rfl info34 rfl (H' := [(Ur q4 34 (C2 r8.1 r8.2.1 r8.2.2)), (Ur q3 34 (C2 a1_0 a1_1 a1_2)), (Ur q2 34 (C2 a0_0 a0_1 a0_2))]) rfl) rfl rfl bo_nil (wt_none' rfl) fun _ => ?_
 refine px_nil' ?_
 show TX E K2 _
 refine tx_k' hK2 ?_
 refine cx_retc' ?_
 replace hp := sj hp
 subst hp
 refine tk (L' := [(4, (Vp q4))]) (H' := [(Ur q4 34 (C2 r8.1 r8.2.1 r8.2.2))]) [0] (uc rfl un) (pc rfl pn) ?_
 exact tx_ret1' Try.results27 rfl () (rv_cell_agg' (i := 0) (o := 0) (nn := 3) rfl (ar rfl rfl rfl rfl) rfl agg34 rfl) (List.nil_sublist _)

def spec_Point3_Sub (k : Nat) (a0_0 : Bool) (a0_1 : List Int) (a0_2 : Int) (a0_3 : Bool) (a0_4 : List Int) (a0_5 : Int) (a0_6 : Bool) (a0_7 : List Int) (a0_8 : Int) (a1_0 : Bool) (a1_1 : List Int) (a1_2 : Int) (a1_3 : Bool) (a1_4 : List Int) (a1_5 : Int) (a1_6 : Bool) (a1_7 : List Int) (a1_8 : Int) : Option (Bool × (List Int) × Int × Bool × (List Int) × Int × Bool × (List Int) × Int) :=
 (spec_Dyadic_Sub k a0_0 a0_1 a0_2 a1_0 a1_1 a1_2) >>= fun r9 =>
 (spec_Dyadic_Sub k a0_3 a0_4 a0_5 a1_3 a1_4 a1_5) >>= fun r14 =>
 (spec_Dyadic_Sub k a0_6 a0_7 a0_8 a1_6 a1_7 a1_8) >>= fun r19 =>
 some (r9.1, r9.2.1, r9.2.2, r14.1, r14.2.1, r14.2.2, r19.1, r19.2.1, r19.2.2)

theorem spec_Point3_Sub_sim {k : Nat}  (a0_0 : Bool) (a0_1 : List Int) (a0_2 : Int) (a0_3 : Bool) (a0_4 : List Int) (a0_5 : Int) (a0_6 : Bool) (a0_7 : List Int) (a0_8 : Int) (a1_0 : Bool) (a1_1 : List Int) (a1_2 : Int) (a1_3 : Bool) (a1_4 : List Int) (a1_5 : Int) (a1_6 : Bool) (a1_7 : List Int) (a1_8 : Int) {out : Bool × (List Int) × Int × Bool × (List Int) × Int × Bool × (List Int) × Int} (hp : spec_Point3_Sub k a0_0 a0_1 a0_2 a0_3 a0_4 a0_5 a0_6 a0_7 a0_8 a1_0 a1_1 a1_2 a1_3 a1_4 a1_5 a1_6 a1_7 a1_8 = some out) : Sx.Fn Try.prog 24 [(Ag (C0 a0_0 a0_1 a0_2 a0_3 a0_4 a0_5 a0_6 a0_7 a0_8)), (Ag (C0 a1_0 a1_1 a1_2 a1_3 a1_4 a1_5 a1_6 a1_7 a1_8))] [] (fun w : Unit => (Ag (C0 out.1 out.2.1 out.2.2.1 out.2.2.2.1 out.2.2.2.2.1 out.2.2.2.2.2.1 out.2.2.2.2.2.2.1 out.2.2.2.2.2.2.2.1 out.2.2.2.2.2.2.2.2))) (fun w => []) := by
 unfold spec_Point3_Sub at hp
 refine fn_of Try.func24 rfl Try.ntmps24 rfl fun E hM => ?_
 refine cr fun K1 hK1 => ?_
 refine so (ox_box' rfl (lv_ag _) rfl rfl) fun q2 => ?_
 refine so (ox_box' rfl (lv_ag _) rfl rfl) fun q3 => ?_
 refine so (ox_alloc' info39 rfl rfl rfl rfl (l := (C3 false 0 false 0 false 0)) rfl) fun q4 => ?_
 refine nk hK1 ?_
 refine cx_seq' fun K2 hK2 => ?_
 refine cx_plan' [] [(16, 1)] [(0, 1), (1, 1), (2, 1), (3, 1), (5, 1), (6, 1), (7, 1), (8, 1), (10, 1), (11, 1), (12, 1), (13, 1), (4, 0), (9, 0), (14, 0), (15, 1), (16, 0)] mixed (by kernel_rfl) ?_
 refine pd rfl (rd_field0' rfl Try.underlying39 rfl info34 rfl) ?_
 refine pd rfl (rd_load_agg' (i := 2) (o := 0) (nn := 3) rfl (ar rfl rfl rfl rfl) rfl agg34 (l' := (C2 a0_0 a0_1 a0_2)) rfl) ?_
 refine pd rfl (rd_field0' rfl Try.underlying39 rfl info34 rfl) ?_
 refine pd rfl (rd_load_agg' (i := 1) (o := 0) (nn := 3) rfl (ar rfl rfl rfl rfl) rfl agg34 (l' := (C2 a1_0 a1_1 a1_2)) rfl) ?_
 refine pd rfl (rd_field' (off := 3) rfl Try.underlying39 rfl info34 rfl) ?_
 refine pd rfl (rd_load_agg' (i := 2) (o := 3) (nn := 3) rfl (ar rfl rfl rfl rfl) rfl agg34 (l' := (C2 a0_3 a0_4 a0_5)) rfl) ?_
 refine pd rfl (rd_field' (off := 3) rfl Try.underlying39 rfl info34 rfl) ?_
 refine pd rfl (rd_load_agg' (i := 1) (o := 3) (nn := 3) rfl (ar rfl rfl rfl rfl) rfl agg34 (l' := (C2 a1_3 a1_4 a1_5)) rfl) ?_
 refine pd rfl (rd_field' (off := 6) rfl Try.underlying39 rfl info34 rfl) ?_
 refine pd rfl (rd_load_agg' (i := 2) (o := 6) (nn := 3) rfl (ar rfl rfl rfl rfl) rfl agg34 (l' := (C2 a0_6 a0_7 a0_8)) rfl) ?_
 refine pd rfl (rd_field' (off := 6) rfl Try.underlying39 rfl info34 rfl) ?_
 refine pd rfl (rd_load_agg' (i := 1) (o := 6) (nn := 3) rfl (ar rfl rfl rfl rfl) rfl agg34 (l' := (C2 a1_6 a1_7 a1_8)) rfl) ?_
 obtain ⟨r9, hr9, hp⟩ := bind_some hp
 refine px_ox' rfl (oz (ent_fn' Try.func27 isn27 rfl rfl) (spec_Dyadic_Sub_sim _ _ _ _ _ _ hr9)) rfl bs_nil (wt_none' rfl) fun ⟨⟩ => ?_
 obtain ⟨r14, hr14, hp⟩ := bind_some hp
 refine px_ox' rfl (oz (ent_fn' Try.func27 isn27 rfl rfl) (spec_Dyadic_Sub_sim _ _ _ _ _ _ hr14)) rfl bs_nil (wt_none' rfl) fun ⟨⟩ => ?_
 obtain ⟨r19, hr19, hp⟩ := bind_some hp
 refine px_ox' rfl (oz (ent_fn' Try.func27 isn27 rfl rfl) (spec_Dyadic_Sub_sim _ _ _ _ _ _ hr19)) rfl bs_nil (wt_none' rfl) fun ⟨⟩ => ?_
 refine pd rfl (rd_build' (pls := [(0, 3), (3, 3), (6, 3)]) (qs := [(0, (C2 r9.1 r9.2.1 r9.2.2)), (1, (C2 r14.1 r14.2.1 r14.2.2)), (2, (C2 r19.1 r19.2.1 r19.2.2))]) (r := (C0 r9.1 r9.2.1 r9.2.2 r14.1 r14.2.1 r14.2.2 r19.1 r19.2.1 r19.2.2)) ⟨rfl, ⟨_, rfl, (lv_ag _)⟩, ⟨rfl, ⟨_, rfl, (lv_ag _)⟩, ⟨rfl, ⟨_, rfl, (lv_ag _)⟩, trivial⟩⟩⟩ Try.underlying39 has39 places39 info39 rfl rfl rfl) ?_
 refine px_oxv' rfl (oxv_store (i := 0) (o := 0) rfl rfl (lv_ag _) (ar rfl rfl rfl rfl) rfl info39 rfl (H' := [(Ur q4 39 (C0 r9.1 r9.2.1 r9.2.2 r14.1 r14.2.1 r14.2.2 r19.1 r19.2.1 r19.2.2)), (Ur q3 39 (C0 a1_0 a1_1 a1_2 a1_3 a1_4 a1_5 a1_6 a1_7 a1_8)), (Ur q2 39 (C0 a0_0 a0_1 a0_2 a0_3 a0_4 a0_5 a0_6 a0_7 a0_8))]) rfl) rfl rfl bo_nil (wt_none' rfl) fun _ => ?_
 refine px_nil' ?_
 show TX E K2 _
 refine tx_k' hK2 ?_
 refine cx_retc' ?_
 replace hp := sj hp
 subst hp
 refine tk (L' := [(4, (Vp q4))]) (H' := [(Ur q4 39 (C0 r9.1 r9.2.1 r9.2.2 r14.1 r14.2.1 r14.2.2 r19.1 r19.2.1 r19.2.2))]) [0] (uc rfl un) (pc rfl pn) ?_
 exact tx_ret1' Try.results24 rfl () (rv_cell_agg' (i := 0) (o := 0) (nn := 9) rfl (ar rfl rfl rfl rfl) rfl agg39 rfl) (List.nil_sublist _)

def spec_Whole_Mul_l2s (a1_1 : List Int) (x12 r26 : Int) (k : Nat) (rec2 : ((List Int) × Int × Int) → Option ((List Int) × Int)) (x6 : List Int) (x7 x8 : Int) : Option ((List Int) × Int) :=
 br (decide (x8 < (a1_1.length : Int)))
  ((idx a1_1 x8) >>= fun r34 =>
  (idx x6 (iadd .i64 x12 x8)) >>= fun r45 =>
  (idx x6 (iadd .i64 x12 x8)) >>= fun r57 =>
  (ishr .u64 (iadd .u64 (iadd .u64 (imul .u64 (icv .u64 r26) (icv .u64 r34)) (icv .u64 r45)) x7) 32) >>= fun r59 =>
  rec2 ((x6.set (iadd .i64 x12 x8).toNat (icv .u32 (iadd .u64 (iadd .u64 (imul .u64 (icv .u64 r26) (icv .u64 r34)) (icv .u64 r45)) x7))), r59, (iadd .i64 x8 1)))
  (some (x6, x7))
def spec_Whole_Mul_l2 (a1_1 : List Int) (x12 r26 : Int) : Nat → ((List Int) × Int × Int) → Option ((List Int) × Int)
 | 0, _ => none
 | k + 1, v => spec_Whole_Mul_l2s a1_1 x12 r26 k (spec_Whole_Mul_l2 a1_1 x12 r26 k) v.1 v.2.1 v.2.2
def spec_Whole_Mul_l3s (a0_1 a1_1 : List Int) (k : Nat) (rec3 : ((List Int) × Int) → Option ((List Int))) (x11 : List Int) (x12 : Int) : Option ((List Int)) :=
 br (decide (x12 < (a0_1.length : Int)))
  ((idx a0_1 x12) >>= fun r26 =>
  (spec_Whole_Mul_l2 a1_1 x12 r26 k (x11, 0, 0)) >>= fun v5 =>
  (idx v5.1 (iadd .i64 x12 (a1_1.length : Int))) >>= fun r69 =>
  rec3 ((v5.1.set (iadd .i64 x12 (a1_1.length : Int)).toNat (icv .u32 v5.2)), (iadd .i64 x12 1)))
  (some x11)
def spec_Whole_Mul_l3 (a0_1 a1_1 : List Int) : Nat → ((List Int) × Int) → Option ((List Int))
 | 0, _ => none
 | k + 1, v => spec_Whole_Mul_l3s a0_1 a1_1 k (spec_Whole_Mul_l3 a0_1 a1_1 k) v.1 v.2
def spec_Whole_Mul_j1 (k : Nat) (r72 : (List Int)) (x14 : Bool) : Option (Bool × (List Int)) :=
 some (x14, r72)
def spec_Whole_Mul (k : Nat) (a0_0 : Bool) (a0_1 : List Int) (a1_0 : Bool) (a1_1 : List Int) : Option (Bool × (List Int)) :=
 (mk 4 0 (iadd .i64 (a0_1.length : Int) (a1_1.length : Int)) (iadd .i64 (a0_1.length : Int) (a1_1.length : Int))) >>= fun r19 =>
 (spec_Whole_Mul_l3 a0_1 a1_1 k (r19, 0)) >>= fun v6 =>
 (spec_trim k v6) >>= fun r72 =>
 br (decide (0 < (r72.length : Int)))
  (spec_Whole_Mul_j1 k r72 (!(a0_0 == a1_0)))
  (spec_Whole_Mul_j1 k r72 false)

theorem spec_Whole_Mul_sim {k : Nat}  (a0_0 : Bool) (a0_1 : List Int) (a1_0 : Bool) (a1_1 : List Int) {out : Bool × (List Int)} (hp : spec_Whole_Mul k a0_0 a0_1 a1_0 a1_1 = some out) : Sx.Fn Try.prog 55 [(Ag (C6 a0_0 a0_1)), (Ag (C6 a1_0 a1_1))] [] (fun w : Unit => (Ag (C6 out.1 out.2))) (fun w => []) := by
 unfold spec_Whole_Mul at hp
 refine fn_of Try.func55 rfl Try.ntmps55 rfl fun E hM => ?_
 refine cr fun K1 hK1 => ?_
 refine so (ox_box' rfl (lv_ag _) rfl rfl) fun q2 => ?_
 refine so (ox_box' rfl (lv_ag _) rfl rfl) fun q3 => ?_
 refine so (ox_alloc' info32 rfl rfl rfl rfl (l := [(Vb false), Vn]) rfl) fun q4 => ?_
 refine nk hK1 ?_
 refine cr fun K2 hK2 => ?_
 refine sg (off := 1) rfl Try.underlying32 rfl info30 rfl ?_
 refine sl (i := 2) (o := 1) rfl (ar rfl rfl rfl rfl) rfl flat30 ?_
 refine sk rfl Try.underlying30 ?_
 refine sg (off := 1) rfl Try.underlying32 rfl info30 rfl ?_
 refine sl (i := 1) (o := 1) rfl (ar rfl rfl rfl rfl) rfl flat30 ?_
 refine sk rfl Try.underlying30 ?_
 refine sb rfl rfl eg_int ru_add ?_
 obtain ⟨r19, hr19, hp⟩ := bind_some hp
 refine so (ox_make' (K := (Ki .u32)) rfl rfl hr19 rfl Try.underlying30 info91 rfl rfl rfl rfl rfl) fun g19 => ?_
 refine sa rfl ?_
 refine nk hK2 ?_
 refine cx_seq' fun K3 hK3 => ?_
 refine cr fun K4 hK4 => ?_
 refine sg (off := 1) rfl Try.underlying32 rfl info30 rfl ?_
 refine sl (i := 3) (o := 1) rfl (ar rfl rfl rfl rfl) rfl flat30 ?_
 refine sk rfl Try.underlying30 ?_
 refine sm rfl ?_
 refine nk hK4 ?_
 refine cx_block' ?_
 obtain ⟨v6, hy3, hp⟩ := bind_some hp
 refine cx_loopg' (F := spec_Whole_Mul_l3 a0_1 a1_1) (G := fun k R v => spec_Whole_Mul_l3s a0_1 a1_1 k R v.1 v.2) (x := (r19, 0)) (gh := ()) (fun (v3 : (List Int) × Int) (w3 : Unit) => (⟨85, [], [(2, (Vp q2)), (3, (Vp q3)), (4, (Vp q4)), (5, (Vw g19)), (21, (Sl (Ki .u32) a0_1)), (22, (Vi (a0_1.length : Int))), (23, (Vi v3.2))], [(Ur q2 32 (C6 a0_0 a0_1)), (Ur q3 32 (C6 a1_0 a1_1)), (Ur q4 32 [(Vb false), Vn]), (Rg (Ki .u32) 91 g19 v3.1)]⟩ : St)) (fun (v6 : (List Int)) => Zg E (Exit.exit 0) (fun (w6 : Unit) => (⟨85, [], [(2, (Vp q2)), (3, (Vp q3)), (4, (Vp q4)), (5, (Vw g19))], [(Ur q2 32 (C6 a0_0 a0_1)), (Ur q3 32 (C6 a1_0 a1_1)), (Ur q4 32 [(Vb false), Vn]), (Rg (Ki .u32) 91 g19 v6)]⟩ : St))) (fun _ => rfl) (fun _ _ => rfl) ?_ hy3 (tx_to' rfl [3, 2, 1, 0] (u7 rfl rfl rfl rfl rfl rfl rfl) (by decide) (p4 rfl rfl rfl rfl)) ?_
 ·clear hp hy3
  clear v6
  intro k rec3 KY3 ih3
  rintro ⟨x11, x12⟩ ⟨⟩ y3 hp
  replace hp : spec_Whole_Mul_l3s a0_1 a1_1 k rec3 x11 x12 = some y3 := hp
  unfold spec_Whole_Mul_l3s at hp
  refine cr fun K24 hK24 => ?_
  refine sb rfl rfl eg_int ru_lss ?_
  refine nk hK24 ?_
  refine cx_seq' fun K25 hK25 => ?_
  refine cx_cond' rfl (fun h6 => ?_) (fun h6 => ?_)
  ·replace hp := (br_t h6).symm.trans hp
   refine cx_skip' ?_
   show TX E K25 _
   refine tx_k' hK25 ?_
   refine cx_seq' fun K26 hK26 => ?_
   refine cx_block' ?_
   refine cr fun K27 hK27 => ?_
   refine sm rfl ?_
   obtain ⟨r26, hr26, hp⟩ := bind_some hp
   refine s0 (rd_at' (K := (Ki .u32)) rfl rfl hr26 Try.underlying30 info91) ?_
   refine s0 (rd_load_pt' rfl rfl flat91) ?_
   iterate 2 refine sa rfl ?_
   refine nk hK27 ?_
   refine cr fun K28 hK28 => ?_
   refine sa rfl ?_
   refine nk hK28 ?_
   refine cx_seq' fun K29 hK29 => ?_
   refine cr fun K30 hK30 => ?_
   refine sg (off := 1) rfl Try.underlying32 rfl info30 rfl ?_
   refine sl (i := 1) (o := 1) rfl (ar rfl rfl rfl rfl) rfl flat30 ?_
   refine sk rfl Try.underlying30 ?_
   refine sm rfl ?_
   refine nk hK30 ?_
   refine cx_block' ?_
   obtain ⟨v5, hy2, hp⟩ := bind_some hp
   refine cx_loopg' (F := spec_Whole_Mul_l2 a1_1 x12 r26) (G := fun k R v => spec_Whole_Mul_l2s a1_1 x12 r26 k R v.1 v.2.1 v.2.2) (x := (x11, 0, 0)) (gh := ()) (fun (v4 : (List Int) × Int × Int) (w4 : Unit) => (⟨85, [], [(2, (Vp q2)), (3, (Vp q3)), (4, (Vp q4)), (5, (Vw g19)), (6, (Vi x12)), (7, (Vl (.int .u32 r26))), (8, (Vl (.int .u64 v4.2.1))), (21, (Sl (Ki .u32) a0_1)), (22, (Vi (a0_1.length : Int))), (23, (Vi x12)), (29, (Sl (Ki .u32) a1_1)), (30, (Vi (a1_1.length : Int))), (31, (Vi v4.2.2))], [(Ur q2 32 (C6 a0_0 a0_1)), (Ur q3 32 (C6 a1_0 a1_1)), (Ur q4 32 [(Vb false), Vn]), (Rg (Ki .u32) 91 g19 v4.1)]⟩ : St)) (fun (v5 : (List Int) × Int) => Zg E (Exit.exit 2) (fun (w5 : Unit) => (⟨85, [], [(2, (Vp q2)), (3, (Vp q3)), (4, (Vp q4)), (5, (Vw g19)), (6, (Vi x12)), (8, (Vl (.int .u64 v5.2))), (21, (Sl (Ki .u32) a0_1)), (22, (Vi (a0_1.length : Int))), (23, (Vi x12))], [(Ur q2 32 (C6 a0_0 a0_1)), (Ur q3 32 (C6 a1_0 a1_1)), (Ur q4 32 [(Vb false), Vn]), (Rg (Ki .u32) 91 g19 v5.1)]⟩ : St))) (fun _ => rfl) (fun _ _ => rfl) ?_ hy2 (tx_to' rfl [0, 1, 2, 3] (u13 rfl rfl rfl rfl rfl rfl rfl rfl rfl rfl rfl rfl rfl) (by decide) (p4 rfl rfl rfl rfl)) ?_
   ·clear hp hy2
    clear v5
    intro k rec2 KY2 ih2
    rintro ⟨x6, x7, x8⟩ ⟨⟩ y2 hp
    replace hp : spec_Whole_Mul_l2s a1_1 x12 r26 k rec2 x6 x7 x8 = some y2 := hp
    unfold spec_Whole_Mul_l2s at hp
    refine cr fun K37 hK37 => ?_
    refine sb rfl rfl eg_int ru_lss ?_
    refine nk hK37 ?_
    refine cx_seq' fun K38 hK38 => ?_
    refine cx_cond' rfl (fun h9 => ?_) (fun h9 => ?_)
    ·replace hp := (br_t h9).symm.trans hp
     refine cx_skip' ?_
     show TX E K38 _
     refine tx_k' hK38 ?_
     refine cx_seq' fun K39 hK39 => ?_
     refine cx_block' ?_
     refine cr fun K40 hK40 => ?_
     refine sm rfl ?_
     obtain ⟨r34, hr34, hp⟩ := bind_some hp
     refine s0 (rd_at' (K := (Ki .u32)) rfl rfl hr34 Try.underlying30 info91) ?_
     refine s0 (rd_load_pt' rfl rfl flat91) ?_
     iterate 2 refine sa rfl ?_
     refine nk hK40 ?_
     refine cr fun K41 hK41 => ?_
     refine sm rfl ?_
     refine s0 (rd_conv' rfl (ru_i2i (by rw [Try.underlying91]; rfl) Try.underlying74)) ?_
     refine sm rfl ?_
     refine s0 (rd_conv' rfl (ru_i2i (by rw [Try.underlying91]; rfl) Try.underlying74)) ?_
     refine sb rfl rfl eg_int ru_mul ?_
     iterate 3 refine sm rfl ?_
     refine sb rfl rfl eg_int ru_add ?_
     obtain ⟨r45, hr45, hp⟩ := bind_some hp
     refine s0 (rd_atr' (m := 3) rfl rfl rfl rfl hr45 Try.underlying30 info91) ?_
     refine s0 (rd_loadr' rfl (m := 3) (i := (iadd .i64 x12 x8)) (j := 0) rfl rfl hr45 rfl rfl flat91) ?_
     refine s0 (rd_conv' rfl (ru_i2i (by rw [Try.underlying91]; rfl) Try.underlying74)) ?_
     refine sb rfl rfl eg_int ru_add ?_
     refine sm rfl ?_
     refine sb rfl rfl eg_int ru_add ?_
     refine sa rfl ?_
     refine nk hK41 ?_
     refine cr fun K42 hK42 => ?_
     iterate 3 refine sm rfl ?_
     refine sb rfl rfl eg_int ru_add ?_
     refine sm rfl ?_
     refine s0 (rd_conv' rfl (ru_i2i (by rw [Try.underlying74]; rfl) Try.underlying91)) ?_
     obtain ⟨r57, hr57, hp⟩ := bind_some hp
     refine s0 (rd_atr' (m := 3) rfl rfl rfl rfl hr57 Try.underlying30 info91) ?_
     refine so (ox_storer' (m := 3) (i := (iadd .i64 x12 x8)) (j := 0) (x' := (icv .u32 (iadd .u64 (iadd .u64 (imul .u64 (icv .u64 r26) (icv .u64 r34)) (icv .u64 r45)) x7))) rfl rfl (lv_vl rfl rfl) rfl rfl hr57 rfl rfl rfl info91 rfl (H' := [(Ur q2 32 (C6 a0_0 a0_1)), (Ur q3 32 (C6 a1_0 a1_1)), (Ur q4 32 [(Vb false), Vn]), (Rg (Ki .u32) 91 g19 (x6.set (iadd .i64 x12 x8).toNat (icv .u32 (iadd .u64 (iadd .u64 (imul .u64 (icv .u64 r26) (icv .u64 r34)) (icv .u64 r45)) x7))))]) rfl) fun _ => ?_
     refine nk hK42 ?_
     refine cx_region' ?_
     refine sm rfl ?_
     obtain ⟨r59, hr59, hp⟩ := bind_some hp
     refine sb rfl rfl eg_int (ru_shr hr59) ?_
     refine sa rfl ?_
     refine nk hK39 ?_
     refine cx_region' ?_
     refine sb rfl rfl eg_int ru_add ?_
     refine sm rfl ?_
     refine sx_nil' ?_
     show TX E (KY2 _) _
     exact tk [0,1,2,3] (u13 rfl rfl rfl rfl rfl rfl rfl rfl rfl rfl rfl rfl rfl) (p4 rfl rfl rfl rfl) (ih2 ((x6.set (iadd .i64 x12 x8).toNat (icv .u32 (iadd .u64 (iadd .u64 (imul .u64 (icv .u64 r26) (icv .u64 r34)) (icv .u64 r45)) x7))), r59, (iadd .i64 x8 1)) () _ hp)
    replace hp := (br_f h9).symm.trans hp
    refine cx_exit' ?_
    replace hp := sj hp
    subst hp
    show TX E (Zg E (Exit.exit 2) _ (Exit.exit 2)) _
    exact tx_zend' () rfl [0, 1, 2, 3] (u9 rfl rfl rfl rfl rfl rfl rfl rfl rfl) (by decide) (p4 rfl rfl rfl rfl)
   refine zg_out fun w5 => ?_
   show TX E K29 _
   refine tx_k' hK29 ?_
   refine cx_region' ?_
   iterate 2 refine sm rfl ?_
   refine sg (off := 1) rfl Try.underlying32 rfl info30 rfl ?_
   refine sl (i := 1) (o := 1) rfl (ar rfl rfl rfl rfl) rfl flat30 ?_
   refine sk rfl Try.underlying30 ?_
   refine sb rfl rfl eg_int ru_add ?_
   refine sm rfl ?_
   refine s0 (rd_conv' rfl (ru_i2i (by rw [Try.underlying74]; rfl) Try.underlying91)) ?_
   obtain ⟨r69, hr69, hp⟩ := bind_some hp
   refine s0 (rd_atr' (m := 3) rfl rfl rfl rfl hr69 Try.underlying30 info91) ?_
   refine so (ox_storer' (m := 3) (i := (iadd .i64 x12 (a1_1.length : Int))) (j := 0) (x' := (icv .u32 v5.2)) rfl rfl (lv_vl rfl rfl) rfl rfl hr69 rfl rfl rfl info91 rfl (H' := [(Ur q2 32 (C6 a0_0 a0_1)), (Ur q3 32 (C6 a1_0 a1_1)), (Ur q4 32 [(Vb false), Vn]), (Rg (Ki .u32) 91 g19 (v5.1.set (iadd .i64 x12 (a1_1.length : Int)).toNat (icv .u32 v5.2)))]) rfl) fun _ => ?_
   refine nk hK26 ?_
   refine cx_region' ?_
   refine sb rfl rfl eg_int ru_add ?_
   refine sm rfl ?_
   refine sx_nil' ?_
   show TX E (KY3 _) _
   exact tk [0,1,2,3] (u7 rfl rfl rfl rfl rfl rfl rfl) (p4 rfl rfl rfl rfl) (ih3 ((v5.1.set (iadd .i64 x12 (a1_1.length : Int)).toNat (icv .u32 v5.2)), (iadd .i64 x12 1)) () _ hp)
  replace hp := (br_f h6).symm.trans hp
  refine cx_exit' ?_
  replace hp := sj hp
  subst hp
  show TX E (Zg E (Exit.exit 0) _ (Exit.exit 0)) _
  exact tx_zend' () rfl [0, 1, 2, 3] (u4 rfl rfl rfl rfl) (by decide) (p4 rfl rfl rfl rfl)
 refine zg_out fun w6 => ?_
 show TX E K3 _
 refine tx_k' hK3 ?_
 refine cr fun K43 hK43 => ?_
 refine sm rfl ?_
 refine tx_fz' (frz_row 3 [(5, (Vw g19), (Sl (Ki .u32) v6)), (71, (Vw g19), (Sl (Ki .u32) v6))] (K := (Ki .u32)) (xs := v6) (by decide) rfl ⟨⟨rfl, frz_it⟩, ⟨rfl, frz_it⟩, trivial⟩ (H' := [(Ur q2 32 (C6 a0_0 a0_1)), (Ur q3 32 (C6 a1_0 a1_1)), (Ur q4 32 [(Vb false), Vn])]) frzH_refl) ?_
 obtain ⟨r72, hr72, hp⟩ := bind_some hp
 refine so (oz (ent_fn' Try.func76 isn76 rfl rfl) (spec_trim_sim _ hr72)) fun ⟨⟩ => ?_
 refine sa rfl ?_
 refine nk hK43 ?_
 refine cr fun K44 hK44 => ?_
 refine sm rfl ?_
 refine sk rfl Try.underlying30 ?_
 refine sb rfl rfl eg_int ru_gtr ?_
 refine sm rfl ?_
 refine sx_cutn' 6 (fun (v7 : Bool) => (⟨85, [], [(4, (Vp q4)), (5, (Sl (Ki .u32) r72)), (82, (Vb v7))], [(Ur q4 32 [(Vb false), Vn])]⟩ : St)) (fun (v7 : Bool) => spec_Whole_Mul_j1 k r72 v7 = some out) ?_ ?_
 ·rintro x14 hp
  replace hp : spec_Whole_Mul_j1 k r72 x14 = some out := hp
  unfold spec_Whole_Mul_j1 at hp
  refine sm rfl ?_
  refine sv (pls := [(0, 1), (1, 1)]) (qs := [(0, [(Vb x14)]), (1, [(Sl (Ki .u32) r72)])]) (r := (C6 x14 r72)) ⟨rfl, ⟨_, rfl, (lv_vl rfl rfl)⟩, ⟨rfl, ⟨_, rfl, (lv_sl _ _)⟩, trivial⟩⟩ Try.underlying32 has32 places32 info32 rfl rfl rfl ?_
  refine so (ox_store' (i := 0) (o := 0) rfl rfl (lv_ag _) (ar rfl rfl rfl rfl) rfl info32 rfl (H' := [(Ur q4 32 (C6 x14 r72))]) rfl) fun _ => ?_
  refine nk hK44 ?_
  refine cx_retc' ?_
  replace hp := sj hp
  subst hp
  refine tk (L' := [(4, (Vp q4))]) (H' := [(Ur q4 32 (C6 x14 r72))]) [0] (uc rfl un) (pc rfl pn) ?_
  exact tx_ret1' Try.results55 rfl () (rv_cell_agg' (i := 0) (o := 0) (nn := 2) rfl (ar rfl rfl rfl rfl) rfl agg32 rfl) (List.nil_sublist _)
 intro K45 hK45
 rcases br_cases hp with ⟨h10, hp⟩ | ⟨h10, hp⟩
 ·refine sx_rd' (rd_field0' rfl Try.underlying32 rfl info4 rfl) rfl rfl (wt_is' (wt_guard' rfl rfl rfl) (beq_tt h10)) ?_
  refine sx_rd' (rd_load' (i := 0) (o := 0) rfl (ar rfl rfl rfl rfl) rfl flat4) rfl rfl (wt_is' (wt_guard' rfl rfl rfl) (beq_tt h10)) ?_
  refine sx_rd' (rd_field0' rfl Try.underlying32 rfl info4 rfl) rfl rfl (wt_is' (wt_guard' rfl rfl rfl) (beq_tt h10)) ?_
  refine sx_rd' (rd_load' (i := 1) (o := 0) rfl (ar rfl rfl rfl rfl) rfl flat4) rfl rfl (wt_is' (wt_guard' rfl rfl rfl) (beq_tt h10)) ?_
  refine sx_rd' (rd_bin' rfl rfl eg_bool (ru_bne Try.underlying4)) rfl rfl (wt_is' (wt_guard' rfl rfl rfl) (beq_tt h10)) ?_
  refine s0 (rd_pick_true' rfl h10 rfl) ?_
  refine sx_nil' ?_
  show TX E K45 _
  exact tk [2] (u3 rfl rfl rfl) (pc rfl pn) (hK45 (!(a0_0 == a1_0)) hp)
 iterate 5 refine sx_skip' rfl rfl (wt_is' (wt_guard' rfl rfl rfl) (beq_ft h10)) ?_
 refine s0 (rd_pick_false' rfl h10 rfl) ?_
 refine sx_nil' ?_
 show TX E K45 _
 exact tk [2] (u3 rfl rfl rfl) (pc rfl pn) (hK45 false hp)

def spec_Dyadic_Mul (k : Nat) (a0_0 : Bool) (a0_1 : List Int) (a0_2 : Int) (a1_0 : Bool) (a1_1 : List Int) (a1_2 : Int) : Option (Bool × (List Int) × Int) :=
 (spec_Whole_Mul k a0_0 a0_1 a1_0 a1_1) >>= fun r9 =>
 some (r9.1, r9.2, iadd .i64 a0_2 a1_2)

theorem spec_Dyadic_Mul_sim {k : Nat}  (a0_0 : Bool) (a0_1 : List Int) (a0_2 : Int) (a1_0 : Bool) (a1_1 : List Int) (a1_2 : Int) {out : Bool × (List Int) × Int} (hp : spec_Dyadic_Mul k a0_0 a0_1 a0_2 a1_0 a1_1 a1_2 = some out) : Sx.Fn Try.prog 26 [(Ag (C2 a0_0 a0_1 a0_2)), (Ag (C2 a1_0 a1_1 a1_2))] [] (fun w : Unit => (Ag (C2 out.1 out.2.1 out.2.2))) (fun w => []) := by
 unfold spec_Dyadic_Mul at hp
 refine fn_of Try.func26 rfl Try.ntmps26 rfl fun E hM => ?_
 refine cr fun K1 hK1 => ?_
 refine so (ox_box' rfl (lv_ag _) rfl rfl) fun q2 => ?_
 refine so (ox_box' rfl (lv_ag _) rfl rfl) fun q3 => ?_
 refine so (ox_alloc' info34 rfl rfl rfl rfl (l := (C1 false 0)) rfl) fun q4 => ?_
 refine nk hK1 ?_
 refine cx_seq' fun K2 hK2 => ?_
 refine cx_plan' [] [(11, 1)] [(0, 1), (1, 1), (2, 1), (3, 1), (5, 1), (6, 1), (7, 1), (8, 1), (9, 1), (4, 0), (10, 1), (11, 0)] mixed (by kernel_rfl) ?_
 refine pd rfl (rd_field0' rfl Try.underlying34 rfl info32 rfl) ?_
 refine pd rfl (rd_load_agg' (i := 2) (o := 0) (nn := 2) rfl (ar rfl rfl rfl rfl) rfl agg32 (l' := (C6 a0_0 a0_1)) rfl) ?_
 refine pd rfl (rd_field0' rfl Try.underlying34 rfl info32 rfl) ?_
 refine pd rfl (rd_load_agg' (i := 1) (o := 0) (nn := 2) rfl (ar rfl rfl rfl rfl) rfl agg32 (l' := (C6 a1_0 a1_1)) rfl) ?_
 refine pd rfl (rd_field' (off := 2) rfl Try.underlying34 rfl info3 rfl) ?_
 refine pd rfl (rd_load' (i := 2) (o := 2) rfl (ar rfl rfl rfl rfl) rfl flat3) ?_
 refine pd rfl (rd_field' (off := 2) rfl Try.underlying34 rfl info3 rfl) ?_
 refine pd rfl (rd_load' (i := 1) (o := 2) rfl (ar rfl rfl rfl rfl) rfl flat3) ?_
 refine pd rfl (rd_bin' rfl rfl eg_int ru_add) ?_
 obtain ⟨r9, hr9, hp⟩ := bind_some hp
 refine px_ox' rfl (oz (ent_fn' Try.func55 isn55 rfl rfl) (spec_Whole_Mul_sim _ _ _ _ hr9)) rfl bs_nil (wt_none' rfl) fun ⟨⟩ => ?_
 refine pd rfl (rd_build' (pls := [(0, 2), (2, 1)]) (qs := [(0, (C6 r9.1 r9.2)), (1, [(Vi (iadd .i64 a0_2 a1_2))])]) (r := (C2 r9.1 r9.2 (iadd .i64 a0_2 a1_2))) ⟨rfl, ⟨_, rfl, (lv_ag _)⟩, ⟨rfl, ⟨_, rfl, (lv_vl rfl rfl)⟩, trivial⟩⟩ Try.underlying34 has34 places34 info34 rfl rfl rfl) ?_
 refine px_oxv' rfl (oxv_store (i := 0) (o := 0) rfl rfl (lv_ag _) (ar rfl rfl rfl rfl) rfl info34 rfl (H' := [(Ur q4 34 (C2 r9.1 r9.2 (iadd .i64 a0_2 a1_2))), (Ur q3 34 (C2 a1_0 a1_1 a1_2)), (Ur q2 34 (C2 a0_0 a0_1 a0_2))]) rfl) rfl rfl bo_nil (wt_none' rfl) fun _ => ?_
 refine px_nil' ?_
 show TX E K2 _
 refine tx_k' hK2 ?_
 refine cx_retc' ?_
 replace hp := sj hp
 subst hp
 refine tk (L' := [(4, (Vp q4))]) (H' := [(Ur q4 34 (C2 r9.1 r9.2 (iadd .i64 a0_2 a1_2)))]) [0] (uc rfl un) (pc rfl pn) ?_
 exact tx_ret1' Try.results26 rfl () (rv_cell_agg' (i := 0) (o := 0) (nn := 3) rfl (ar rfl rfl rfl rfl) rfl agg34 rfl) (List.nil_sublist _)

def spec_Dot3 (k : Nat) (a0_0 : Bool) (a0_1 : List Int) (a0_2 : Int) (a0_3 : Bool) (a0_4 : List Int) (a0_5 : Int) (a0_6 : Bool) (a0_7 : List Int) (a0_8 : Int) (a1_0 : Bool) (a1_1 : List Int) (a1_2 : Int) (a1_3 : Bool) (a1_4 : List Int) (a1_5 : Int) (a1_6 : Bool) (a1_7 : List Int) (a1_8 : Int) : Option (Bool × (List Int) × Int) :=
 (spec_Dyadic_Mul k a0_0 a0_1 a0_2 a1_0 a1_1 a1_2) >>= fun r9 =>
 (spec_Dyadic_Mul k a0_3 a0_4 a0_5 a1_3 a1_4 a1_5) >>= fun r14 =>
 (spec_Dyadic_Add k r9.1 r9.2.1 r9.2.2 r14.1 r14.2.1 r14.2.2) >>= fun r15 =>
 (spec_Dyadic_Mul k a0_6 a0_7 a0_8 a1_6 a1_7 a1_8) >>= fun r20 =>
 (spec_Dyadic_Add k r15.1 r15.2.1 r15.2.2 r20.1 r20.2.1 r20.2.2) >>= fun r21 =>
 some (r21.1, r21.2.1, r21.2.2)

theorem spec_Dot3_sim {k : Nat}  (a0_0 : Bool) (a0_1 : List Int) (a0_2 : Int) (a0_3 : Bool) (a0_4 : List Int) (a0_5 : Int) (a0_6 : Bool) (a0_7 : List Int) (a0_8 : Int) (a1_0 : Bool) (a1_1 : List Int) (a1_2 : Int) (a1_3 : Bool) (a1_4 : List Int) (a1_5 : Int) (a1_6 : Bool) (a1_7 : List Int) (a1_8 : Int) {out : Bool × (List Int) × Int} (hp : spec_Dot3 k a0_0 a0_1 a0_2 a0_3 a0_4 a0_5 a0_6 a0_7 a0_8 a1_0 a1_1 a1_2 a1_3 a1_4 a1_5 a1_6 a1_7 a1_8 = some out) : Sx.Fn Try.prog 25 [(Ag (C0 a0_0 a0_1 a0_2 a0_3 a0_4 a0_5 a0_6 a0_7 a0_8)), (Ag (C0 a1_0 a1_1 a1_2 a1_3 a1_4 a1_5 a1_6 a1_7 a1_8))] [] (fun w : Unit => (Ag (C2 out.1 out.2.1 out.2.2))) (fun w => []) := by
 unfold spec_Dot3 at hp
 refine fn_of Try.func25 rfl Try.ntmps25 rfl fun E hM => ?_
 refine cr fun K1 hK1 => ?_
 refine so (ox_box' rfl (lv_ag _) rfl rfl) fun q2 => ?_
 refine so (ox_box' rfl (lv_ag _) rfl rfl) fun q3 => ?_
 refine so (ox_alloc' info34 rfl rfl rfl rfl (l := (C1 false 0)) rfl) fun q4 => ?_
 refine nk hK1 ?_
 refine cx_seq' fun K2 hK2 => ?_
 refine cx_plan' [] [(17, 1)] [(0, 1), (1, 1), (2, 1), (3, 1), (5, 1), (6, 1), (7, 1), (8, 1), (11, 1), (12, 1), (13, 1), (14, 1), (4, 0), (9, 0), (10, 0), (15, 0), (16, 0), (17, 0)] mixed (by kernel_rfl) ?_
 refine pd rfl (rd_field0' rfl Try.underlying39 rfl info34 rfl) ?_
 refine pd rfl (rd_load_agg' (i := 2) (o := 0) (nn := 3) rfl (ar rfl rfl rfl rfl) rfl agg34 (l' := (C2 a0_0 a0_1 a0_2)) rfl) ?_
 refine pd rfl (rd_field0' rfl Try.underlying39 rfl info34 rfl) ?_
 refine pd rfl (rd_load_agg' (i := 1) (o := 0) (nn := 3) rfl (ar rfl rfl rfl rfl) rfl agg34 (l' := (C2 a1_0 a1_1 a1_2)) rfl) ?_
 refine pd rfl (rd_field' (off := 3) rfl Try.underlying39 rfl info34 rfl) ?_
 refine pd rfl (rd_load_agg' (i := 2) (o := 3) (nn := 3) rfl (ar rfl rfl rfl rfl) rfl agg34 (l' := (C2 a0_3 a0_4 a0_5)) rfl) ?_
 refine pd rfl (rd_field' (off := 3) rfl Try.underlying39 rfl info34 rfl) ?_
 refine pd rfl (rd_load_agg' (i := 1) (o := 3) (nn := 3) rfl (ar rfl rfl rfl rfl) rfl agg34 (l' := (C2 a1_3 a1_4 a1_5)) rfl) ?_
 refine pd rfl (rd_field' (off := 6) rfl Try.underlying39 rfl info34 rfl) ?_
 refine pd rfl (rd_load_agg' (i := 2) (o := 6) (nn := 3) rfl (ar rfl rfl rfl rfl) rfl agg34 (l' := (C2 a0_6 a0_7 a0_8)) rfl) ?_
 refine pd rfl (rd_field' (off := 6) rfl Try.underlying39 rfl info34 rfl) ?_
 refine pd rfl (rd_load_agg' (i := 1) (o := 6) (nn := 3) rfl (ar rfl rfl rfl rfl) rfl agg34 (l' := (C2 a1_6 a1_7 a1_8)) rfl) ?_
 obtain ⟨r9, hr9, hp⟩ := bind_some hp
 refine px_ox' rfl (oz (ent_fn' Try.func26 isn26 rfl rfl) (spec_Dyadic_Mul_sim _ _ _ _ _ _ hr9)) rfl bs_nil (wt_none' rfl) fun ⟨⟩ => ?_
 obtain ⟨r14, hr14, hp⟩ := bind_some hp
 refine px_ox' rfl (oz (ent_fn' Try.func26 isn26 rfl rfl) (spec_Dyadic_Mul_sim _ _ _ _ _ _ hr14)) rfl bs_nil (wt_none' rfl) fun ⟨⟩ => ?_
 obtain ⟨r15, hr15, hp⟩ := bind_some hp
 refine px_ox' rfl (oz (ent_fn' Try.func54 isn54 rfl rfl) (spec_Dyadic_Add_sim _ _ _ _ _ _ hr15)) rfl bs_nil (wt_none' rfl) fun ⟨⟩ => ?_
 obtain ⟨r20, hr20, hp⟩ := bind_some hp
 refine px_ox' rfl (oz (ent_fn' Try.func26 isn26 rfl rfl) (spec_Dyadic_Mul_sim _ _ _ _ _ _ hr20)) rfl bs_nil (wt_none' rfl) fun ⟨⟩ => ?_
 obtain ⟨r21, hr21, hp⟩ := bind_some hp
 refine px_ox' rfl (oz (ent_fn' Try.func54 isn54 rfl rfl) (spec_Dyadic_Add_sim _ _ _ _ _ _ hr21)) rfl bs_nil (wt_none' rfl) fun ⟨⟩ => ?_
 refine px_oxv' rfl (oxv_store (i := 0) (o := 0) rfl rfl (lv_ag _) (ar rfl rfl rfl rfl) rfl info34 rfl (H' := [(Ur q4 34 (C2 r21.1 r21.2.1 r21.2.2)), (Ur q3 39 (C0 a1_0 a1_1 a1_2 a1_3 a1_4 a1_5 a1_6 a1_7 a1_8)), (Ur q2 39 (C0 a0_0 a0_1 a0_2 a0_3 a0_4 a0_5 a0_6 a0_7 a0_8))]) rfl) rfl rfl bo_nil (wt_none' rfl) fun _ => ?_
 refine px_nil' ?_
 show TX E K2 _
 refine tx_k' hK2 ?_
 refine cx_retc' ?_
 replace hp := sj hp
 subst hp
 refine tk (L' := [(4, (Vp q4))]) (H' := [(Ur q4 34 (C2 r21.1 r21.2.1 r21.2.2))]) [0] (uc rfl un) (pc rfl pn) ?_
 exact tx_ret1' Try.results25 rfl () (rv_cell_agg' (i := 0) (o := 0) (nn := 3) rfl (ar rfl rfl rfl rfl) rfl agg34 rfl) (List.nil_sublist _)

def spec_Dyadic_Cmp (k : Nat) (a0_0 : Bool) (a0_1 : List Int) (a0_2 : Int) (a1_0 : Bool) (a1_1 : List Int) (a1_2 : Int) : Option (Int) :=
 (spec_Dyadic_Sub k a0_0 a0_1 a0_2 a1_0 a1_1 a1_2) >>= fun r7 =>
 (spec_Dyadic_Sign k r7.1 r7.2.1 r7.2.2) >>= fun r8 =>
 some r8

theorem spec_Dyadic_Cmp_sim {k : Nat}  (a0_0 : Bool) (a0_1 : List Int) (a0_2 : Int) (a1_0 : Bool) (a1_1 : List Int) (a1_2 : Int) {out : Int} (hp : spec_Dyadic_Cmp k a0_0 a0_1 a0_2 a1_0 a1_1 a1_2 = some out) : Sx.Fn Try.prog 58 [(Ag (C2 a0_0 a0_1 a0_2)), (Ag (C2 a1_0 a1_1 a1_2))] [] (fun w : Unit => (Vi out)) (fun w => []) := by
 unfold spec_Dyadic_Cmp at hp
 refine fn_of Try.func58 rfl Try.ntmps58 rfl fun E hM => ?_
 refine cr fun K1 hK1 => ?_
 refine so (ox_box' rfl (lv_ag _) rfl rfl) fun q2 => ?_
 refine so (ox_box' rfl (lv_ag _) rfl rfl) fun q3 => ?_
 refine sa rfl ?_
 refine nk hK1 ?_
 refine cr fun K2 hK2 => ?_
 refine s0 (rd_load_agg' (i := 1) (o := 0) (nn := 3) rfl (ar rfl rfl rfl rfl) rfl agg34 (l' := (C2 a0_0 a0_1 a0_2)) rfl) ?_
 refine s0 (rd_load_agg' (i := 0) (o := 0) (nn := 3) rfl (ar rfl rfl rfl rfl) rfl agg34 (l' := (C2 a1_0 a1_1 a1_2)) rfl) ?_
 obtain ⟨r7, hr7, hp⟩ := bind_some hp
 refine so (oz (ent_fn' Try.func27 isn27 rfl rfl) (spec_Dyadic_Sub_sim _ _ _ _ _ _ hr7)) fun ⟨⟩ => ?_
 obtain ⟨r8, hr8, hp⟩ := bind_some hp
 refine so (oz (ent_fn' Try.func28 isn28 rfl rfl) (spec_Dyadic_Sign_sim _ _ _ hr8)) fun ⟨⟩ => ?_
 refine sa rfl ?_
 refine nk hK2 ?_
 refine cx_retc' ?_
 replace hp := sj hp
 subst hp
 refine tk (L' := [(4, (Vi r8))]) (H' := []) [] (uc rfl un) pn ?_
 exact tx_ret1' Try.results58 rfl () (rv_tmp' rfl) lr

def spec_Between_j3 (k : Nat) (x3 : Bool) : Option (Bool) :=
 some x3
def spec_Between_j2 (k : Nat) (x2 : Bool) : Option (Bool) :=
 spec_Between_j3 k x2
def spec_Between_j1 (k : Nat) (a1_0 : Bool) (a1_1 : List Int) (a1_2 : Int) (a2_0 : Bool) (a2_1 : List Int) (a2_2 : Int) (a0_0 : Bool) (a0_1 : List Int) (a0_2 : Int) (x1 : Bool) : Option (Bool) :=
 br x1
  (spec_Between_j3 k true)
  ((spec_Dyadic_Cmp k a1_0 a1_1 a1_2 a2_0 a2_1 a2_2) >>= fun r20 =>
  br (decide (r20 ≤ 0))
   ((spec_Dyadic_Cmp k a2_0 a2_1 a2_2 a0_0 a0_1 a0_2) >>= fun r25 =>
   spec_Between_j2 k (decide (r25 ≤ 0)))
   (spec_Between_j2 k false))
def spec_Between (k : Nat) (a0_0 : Bool) (a0_1 : List Int) (a0_2 : Int) (a1_0 : Bool) (a1_1 : List Int) (a1_2 : Int) (a2_0 : Bool) (a2_1 : List Int) (a2_2 : Int) : Option (Bool) :=
 (spec_Dyadic_Cmp k a0_0 a0_1 a0_2 a2_0 a2_1 a2_2) >>= fun r9 =>
 br (decide (r9 ≤ 0))
  ((spec_Dyadic_Cmp k a2_0 a2_1 a2_2 a1_0 a1_1 a1_2) >>= fun r14 =>
  spec_Between_j1 k a1_0 a1_1 a1_2 a2_0 a2_1 a2_2 a0_0 a0_1 a0_2 (decide (r14 ≤ 0)))
  (spec_Between_j1 k a1_0 a1_1 a1_2 a2_0 a2_1 a2_2 a0_0 a0_1 a0_2 false)

theorem spec_Between_sim {k : Nat}  (a0_0 : Bool) (a0_1 : List Int) (a0_2 : Int) (a1_0 : Bool) (a1_1 : List Int) (a1_2 : Int) (a2_0 : Bool) (a2_1 : List Int) (a2_2 : Int) {out : Bool} (hp : spec_Between k a0_0 a0_1 a0_2 a1_0 a1_1 a1_2 a2_0 a2_1 a2_2 = some out) : Sx.Fn Try.prog 29 [(Ag (C2 a0_0 a0_1 a0_2)), (Ag (C2 a1_0 a1_1 a1_2)), (Ag (C2 a2_0 a2_1 a2_2))] [] (fun w : Unit => (Vb out)) (fun w => []) := by
 unfold spec_Between at hp
 refine fn_of Try.func29 rfl Try.ntmps29 rfl fun E hM => ?_
 refine cr fun K1 hK1 => ?_
 refine so (ox_box' rfl (lv_ag _) rfl rfl) fun q3 => ?_
 refine so (ox_box' rfl (lv_ag _) rfl rfl) fun q4 => ?_
 refine so (ox_box' rfl (lv_ag _) rfl rfl) fun q5 => ?_
 refine sa rfl ?_
 refine nk hK1 ?_
 refine cr fun K2 hK2 => ?_
 refine s0 (rd_load_agg' (i := 2) (o := 0) (nn := 3) rfl (ar rfl rfl rfl rfl) rfl agg34 (l' := (C2 a0_0 a0_1 a0_2)) rfl) ?_
 refine s0 (rd_load_agg' (i := 0) (o := 0) (nn := 3) rfl (ar rfl rfl rfl rfl) rfl agg34 (l' := (C2 a2_0 a2_1 a2_2)) rfl) ?_
 obtain ⟨r9, hr9, hp⟩ := bind_some hp
 refine so (oz (ent_fn' Try.func58 isn58 rfl rfl) (spec_Dyadic_Cmp_sim _ _ _ _ _ _ hr9)) fun ⟨⟩ => ?_
 refine sb rfl rfl eg_int ru_leq ?_
 refine sm rfl ?_
 refine sx_cutn' 5 (fun (v1 : Bool) => (⟨29, [], [(3, (Vp q3)), (4, (Vp q4)), (5, (Vp q5)), (16, (Vb v1))], [(Ur q3 34 (C2 a0_0 a0_1 a0_2)), (Ur q4 34 (C2 a1_0 a1_1 a1_2)), (Ur q5 34 (C2 a2_0 a2_1 a2_2))]⟩ : St)) (fun (v1 : Bool) => spec_Between_j1 k a1_0 a1_1 a1_2 a2_0 a2_1 a2_2 a0_0 a0_1 a0_2 v1 = some out) ?_ ?_
 ·rintro x1 hp
  replace hp : spec_Between_j1 k a1_0 a1_1 a1_2 a2_0 a2_1 a2_2 a0_0 a0_1 a0_2 x1 = some out := hp
  unfold spec_Between_j1 at hp
  refine sm rfl ?_
  refine sx_cutn' 11 (fun (v3 : Bool) => (⟨29, [], [(28, (Vb v3))], []⟩ : St)) (fun (v3 : Bool) => spec_Between_j3 k v3 = some out) ?_ ?_
  ·rintro x3 hp
   replace hp : spec_Between_j3 k x3 = some out := hp
   unfold spec_Between_j3 at hp
   refine sa rfl ?_
   refine nk hK2 ?_
   refine cx_retc' ?_
   replace hp := sj hp
   subst hp
   refine tk (L' := [(6, (Vb x3))]) (H' := []) [] (uc rfl un) pn ?_
   exact tx_ret1' Try.results29 rfl () (rv_tmp' rfl) lr
  intro K5 hK5
  rcases br_cases hp with ⟨h2, hp⟩ | ⟨h2, hp⟩
  ·refine sx_skip' rfl rfl (wt_is' (wt_guard' rfl rfl rfl) (beq_tf h2)) ?_
   iterate 4 refine sx_skip' rfl rfl (wt_is' (wt_guard' rfl rfl rfl) (beq_tf h2)) ?_
   iterate 4 refine sx_skip' rfl rfl (wt_undef' rfl rfl rfl) ?_
   refine sx_skip' rfl rfl (wt_is' (wt_guard' rfl rfl rfl) (beq_tf h2)) ?_
   refine s0 (rd_pick_true' rfl h2 rfl) ?_
   refine sx_nil' ?_
   show TX E K5 _
   exact tk [] (uc rfl un) pn (hK5 true hp)
  refine sx_rd' (rd_load_agg' (i := 1) (o := 0) (nn := 3) rfl (ar rfl rfl rfl rfl) rfl agg34 (l' := (C2 a1_0 a1_1 a1_2)) rfl) rfl rfl (wt_is' (wt_guard' rfl rfl rfl) (beq_ff h2)) ?_
  refine sx_rd' (rd_load_agg' (i := 2) (o := 0) (nn := 3) rfl (ar rfl rfl rfl rfl) rfl agg34 (l' := (C2 a2_0 a2_1 a2_2)) rfl) rfl rfl (wt_is' (wt_guard' rfl rfl rfl) (beq_ff h2)) ?_
  obtain ⟨r20, hr20, hp⟩ := bind_some hp
  refine sx_ox' (oz (ent_fn' Try.func58 isn58 rfl rfl) (spec_Dyadic_Cmp_sim _ _ _ _ _ _ hr20)) (wt_is' (wt_guard' rfl rfl rfl) (beq_ff h2)) fun ⟨⟩ => ?_
  refine sx_rd' (rd_bin' rfl rfl eg_int ru_leq) rfl rfl (wt_is' (wt_guard' rfl rfl rfl) (beq_ff h2)) ?_
  refine sx_rd' (rd_move' rfl) rfl rfl (wt_is' (wt_guard' rfl rfl rfl) (beq_ff h2)) ?_
  refine sx_cutn' 6 (fun (v2 : Bool) => (⟨29, [], [(28, (Vb v2))], []⟩ : St)) (fun (v2 : Bool) => spec_Between_j2 k v2 = some out) ?_ ?_
  ·rintro x2 hp
   replace hp : spec_Between_j2 k x2 = some out := hp
   unfold spec_Between_j2 at hp
   refine sx_nil' ?_
   show TX E K5 _
   exact tk [] (uc rfl un) pn (hK5 x2 hp)
  intro K4 hK4
  rcases br_cases hp with ⟨h3, hp⟩ | ⟨h3, hp⟩
  ·refine sx_rd' (rd_load_agg' (i := 2) (o := 0) (nn := 3) rfl (ar rfl rfl rfl rfl) rfl agg34 (l' := (C2 a2_0 a2_1 a2_2)) rfl) rfl rfl (wt_is' (wt_guard' rfl rfl rfl) (beq_tt h3)) ?_
   refine sx_rd' (rd_load_agg' (i := 0) (o := 0) (nn := 3) rfl (ar rfl rfl rfl rfl) rfl agg34 (l' := (C2 a0_0 a0_1 a0_2)) rfl) rfl rfl (wt_is' (wt_guard' rfl rfl rfl) (beq_tt h3)) ?_
   obtain ⟨r25, hr25, hp⟩ := bind_some hp
   refine sx_ox' (oz (ent_fn' Try.func58 isn58 rfl rfl) (spec_Dyadic_Cmp_sim _ _ _ _ _ _ hr25)) (wt_is' (wt_guard' rfl rfl rfl) (beq_tt h3)) fun ⟨⟩ => ?_
   refine sx_rd' (rd_bin' rfl rfl eg_int ru_leq) rfl rfl (wt_is' (wt_guard' rfl rfl rfl) (beq_tt h3)) ?_
   refine sx_rd' (rd_pick_true' rfl h3 rfl) rfl rfl (wt_is' (wt_guard' rfl rfl rfl) (beq_ff h2)) ?_
   refine s0 (rd_pick_false' rfl h2 rfl) ?_
   refine sx_nil' ?_
   show TX E K4 _
   exact tk [] (uc rfl un) pn (hK4 (decide (r25 ≤ 0)) hp)
  iterate 4 refine sx_skip' rfl rfl (wt_is' (wt_guard' rfl rfl rfl) (beq_ft h3)) ?_
  refine sx_rd' (rd_pick_false' rfl h3 rfl) rfl rfl (wt_is' (wt_guard' rfl rfl rfl) (beq_ff h2)) ?_
  refine s0 (rd_pick_false' rfl h2 rfl) ?_
  refine sx_nil' ?_
  show TX E K4 _
  exact tk [] (uc rfl un) pn (hK4 false hp)
 intro K3 hK3
 rcases br_cases hp with ⟨h1, hp⟩ | ⟨h1, hp⟩
 ·refine sx_rd' (rd_load_agg' (i := 0) (o := 0) (nn := 3) rfl (ar rfl rfl rfl rfl) rfl agg34 (l' := (C2 a2_0 a2_1 a2_2)) rfl) rfl rfl (wt_is' (wt_guard' rfl rfl rfl) (beq_tt h1)) ?_
  refine sx_rd' (rd_load_agg' (i := 1) (o := 0) (nn := 3) rfl (ar rfl rfl rfl rfl) rfl agg34 (l' := (C2 a1_0 a1_1 a1_2)) rfl) rfl rfl (wt_is' (wt_guard' rfl rfl rfl) (beq_tt h1)) ?_
  obtain ⟨r14, hr14, hp⟩ := bind_some hp
  refine sx_ox' (oz (ent_fn' Try.func58 isn58 rfl rfl) (spec_Dyadic_Cmp_sim _ _ _ _ _ _ hr14)) (wt_is' (wt_guard' rfl rfl rfl) (beq_tt h1)) fun ⟨⟩ => ?_
  refine sx_rd' (rd_bin' rfl rfl eg_int ru_leq) rfl rfl (wt_is' (wt_guard' rfl rfl rfl) (beq_tt h1)) ?_
  refine s0 (rd_pick_true' rfl h1 rfl) ?_
  refine sx_nil' ?_
  show TX E K3 _
  exact tk [2,1,0] (u4 rfl rfl rfl rfl) (p3 rfl rfl rfl) (hK3 (decide (r14 ≤ 0)) hp)
 iterate 4 refine sx_skip' rfl rfl (wt_is' (wt_guard' rfl rfl rfl) (beq_ft h1)) ?_
 refine s0 (rd_pick_false' rfl h1 rfl) ?_
 refine sx_nil' ?_
 show TX E K3 _
 exact tk [2,1,0] (u4 rfl rfl rfl rfl) (p3 rfl rfl rfl) (hK3 false hp)

def spec_Cross3 (k : Nat) (a0_0 : Bool) (a0_1 : List Int) (a0_2 : Int) (a0_3 : Bool) (a0_4 : List Int) (a0_5 : Int) (a0_6 : Bool) (a0_7 : List Int) (a0_8 : Int) (a1_0 : Bool) (a1_1 : List Int) (a1_2 : Int) (a1_3 : Bool) (a1_4 : List Int) (a1_5 : Int) (a1_6 : Bool) (a1_7 : List Int) (a1_8 : Int) : Option (Bool × (List Int) × Int × Bool × (List Int) × Int × Bool × (List Int) × Int) :=
 (spec_Dyadic_Mul k a0_3 a0_4 a0_5 a1_6 a1_7 a1_8) >>= fun r9 =>
 (spec_Dyadic_Mul k a0_6 a0_7 a0_8 a1_3 a1_4 a1_5) >>= fun r14 =>
 (spec_Dyadic_Sub k r9.1 r9.2.1 r9.2.2 r14.1 r14.2.1 r14.2.2) >>= fun r15 =>
 (spec_Dyadic_Mul k a0_6 a0_7 a0_8 a1_0 a1_1 a1_2) >>= fun r20 =>
 (spec_Dyadic_Mul k a0_0 a0_1 a0_2 a1_6 a1_7 a1_8) >>= fun r25 =>
 (spec_Dyadic_Sub k r20.1 r20.2.1 r20.2.2 r25.1 r25.2.1 r25.2.2) >>= fun r26 =>
 (spec_Dyadic_Mul k a0_0 a0_1 a0_2 a1_3 a1_4 a1_5) >>= fun r31 =>
 (spec_Dyadic_Mul k a0_3 a0_4 a0_5 a1_0 a1_1 a1_2) >>= fun r36 =>
 (spec_Dyadic_Sub k r31.1 r31.2.1 r31.2.2 r36.1 r36.2.1 r36.2.2) >>= fun r37 =>
 some (r15.1, r15.2.1, r15.2.2, r26.1, r26.2.1, r26.2.2, r37.1, r37.2.1, r37.2.2)

theorem spec_Cross3_sim {k : Nat}  (a0_0 : Bool) (a0_1 : List Int) (a0_2 : Int) (a0_3 : Bool) (a0_4 : List Int) (a0_5 : Int) (a0_6 : Bool) (a0_7 : List Int) (a0_8 : Int) (a1_0 : Bool) (a1_1 : List Int) (a1_2 : Int) (a1_3 : Bool) (a1_4 : List Int) (a1_5 : Int) (a1_6 : Bool) (a1_7 : List Int) (a1_8 : Int) {out : Bool × (List Int) × Int × Bool × (List Int) × Int × Bool × (List Int) × Int} (hp : spec_Cross3 k a0_0 a0_1 a0_2 a0_3 a0_4 a0_5 a0_6 a0_7 a0_8 a1_0 a1_1 a1_2 a1_3 a1_4 a1_5 a1_6 a1_7 a1_8 = some out) : Sx.Fn Try.prog 30 [(Ag (C0 a0_0 a0_1 a0_2 a0_3 a0_4 a0_5 a0_6 a0_7 a0_8)), (Ag (C0 a1_0 a1_1 a1_2 a1_3 a1_4 a1_5 a1_6 a1_7 a1_8))] [] (fun w : Unit => (Ag (C0 out.1 out.2.1 out.2.2.1 out.2.2.2.1 out.2.2.2.2.1 out.2.2.2.2.2.1 out.2.2.2.2.2.2.1 out.2.2.2.2.2.2.2.1 out.2.2.2.2.2.2.2.2))) (fun w => []) := by
 unfold spec_Cross3 at hp
 refine fn_of Try.func30 rfl Try.ntmps30 rfl fun E hM => ?_
 refine cr fun K1 hK1 => ?_
 refine so (ox_box' rfl (lv_ag _) rfl rfl) fun q2 => ?_
 refine so (ox_box' rfl (lv_ag _) rfl rfl) fun q3 => ?_
 refine so (ox_alloc' info39 rfl rfl rfl rfl (l := (C3 false 0 false 0 false 0)) rfl) fun q4 => ?_
 refine nk hK1 ?_
 refine cx_seq' fun K2 hK2 => ?_
 refine cx_plan' [] [(34, 1)] [(0, 1), (1, 1), (2, 1), (3, 1), (5, 1), (6, 1), (7, 1), (8, 1), (11, 1), (12, 1), (13, 1), (14, 1), (16, 1), (17, 1), (18, 1), (19, 1), (22, 1), (23, 1), (24, 1), (25, 1), (27, 1), (28, 1), (29, 1), (30, 1), (4, 0), (9, 0), (10, 0), (15, 0), (20, 0), (21, 0), (26, 0), (31, 0), (32, 0), (33, 1), (34, 0)] mixed (by kernel_rfl) ?_
 refine pd rfl (rd_field' (off := 3) rfl Try.underlying39 rfl info34 rfl) ?_
 refine pd rfl (rd_load_agg' (i := 2) (o := 3) (nn := 3) rfl (ar rfl rfl rfl rfl) rfl agg34 (l' := (C2 a0_3 a0_4 a0_5)) rfl) ?_
 refine pd rfl (rd_field' (off := 6) rfl Try.underlying39 rfl info34 rfl) ?_
 refine pd rfl (rd_load_agg' (i := 1) (o := 6) (nn := 3) rfl (ar rfl rfl rfl rfl) rfl agg34 (l' := (C2 a1_6 a1_7 a1_8)) rfl) ?_
 refine pd rfl (rd_field' (off := 6) rfl Try.underlying39 rfl info34 rfl) ?_
 refine pd rfl (rd_load_agg' (i := 2) (o := 6) (nn := 3) rfl (ar rfl rfl rfl rfl) rfl agg34 (l' := (C2 a0_6 a0_7 a0_8)) rfl) ?_
 refine pd rfl (rd_field' (off := 3) rfl Try.underlying39 rfl info34 rfl) ?_
 refine pd rfl (rd_load_agg' (i := 1) (o := 3) (nn := 3) rfl (ar rfl rfl rfl rfl) rfl agg34 (l' := (C2 a1_3 a1_4 a1_5)) rfl) ?_
 refine pd rfl (rd_field' (off := 6) rfl Try.underlying39 rfl info34 rfl) ?_
 refine pd rfl (rd_load_agg' (i := 2) (o := 6) (nn := 3) rfl (ar rfl rfl rfl rfl) rfl agg34 (l' := (C2 a0_6 a0_7 a0_8)) rfl) ?_
 refine pd rfl (rd_field0' rfl Try.underlying39 rfl info34 rfl) ?_
 refine pd rfl (rd_load_agg' (i := 1) (o := 0) (nn := 3) rfl (ar rfl rfl rfl rfl) rfl agg34 (l' := (C2 a1_0 a1_1 a1_2)) rfl) ?_
 refine pd rfl (rd_field0' rfl Try.underlying39 rfl info34 rfl) ?_
 refine pd rfl (rd_load_agg' (i := 2) (o := 0) (nn := 3) rfl (ar rfl rfl rfl rfl) rfl agg34 (l' := (C2 a0_0 a0_1 a0_2)) rfl) ?_
 refine pd rfl (rd_field' (off := 6) rfl Try.underlying39 rfl info34 rfl) ?_
 refine pd rfl (rd_load_agg' (i := 1) (o := 6) (nn := 3) rfl (ar rfl rfl rfl rfl) rfl agg34 (l' := (C2 a1_6 a1_7 a1_8)) rfl) ?_
 refine pd rfl (rd_field0' rfl Try.underlying39 rfl info34 rfl) ?_
 refine pd rfl (rd_load_agg' (i := 2) (o := 0) (nn := 3) rfl (ar rfl rfl rfl rfl) rfl agg34 (l' := (C2 a0_0 a0_1 a0_2)) rfl) ?_
 refine pd rfl (rd_field' (off := 3) rfl Try.underlying39 rfl info34 rfl) ?_
 refine pd rfl (rd_load_agg' (i := 1) (o := 3) (nn := 3) rfl (ar rfl rfl rfl rfl) rfl agg34 (l' := (C2 a1_3 a1_4 a1_5)) rfl) ?_
 refine pd rfl (rd_field' (off := 3) rfl Try.underlying39 rfl info34 rfl) ?_
 refine pd rfl (rd_load_agg' (i := 2) (o := 3) (nn := 3) rfl (ar rfl rfl rfl rfl) rfl agg34 (l' := (C2 a0_3 a0_4 a0_5)) rfl) ?_
 refine pd rfl (rd_field0' rfl Try.underlying39 rfl info34 rfl) ?_
 refine pd rfl (rd_load_agg' (i := 1) (o := 0) (nn := 3) rfl (ar rfl rfl rfl rfl) rfl agg34 (l' := (C2 a1_0 a1_1 a1_2)) rfl) ?_
 obtain ⟨r9, hr9, hp⟩ := bind_some hp
 refine px_ox' rfl (oz (ent_fn' Try.func26 isn26 rfl rfl) (spec_Dyadic_Mul_sim _ _ _ _ _ _ hr9)) rfl bs_nil (wt_none' rfl) fun ⟨⟩ => ?_
 obtain ⟨r14, hr14, hp⟩ := bind_some hp
 refine px_ox' rfl (oz (ent_fn' Try.func26 isn26 rfl rfl) (spec_Dyadic_Mul_sim _ _ _ _ _ _ hr14)) rfl bs_nil (wt_none' rfl) fun ⟨⟩ => ?_
 obtain ⟨r15, hr15, hp⟩ := bind_some hp
 refine px_ox' rfl (oz (ent_fn' Try.func27 isn27 rfl rfl) (spec_Dyadic_Sub_sim _ _ _ _ _ _ hr15)) rfl bs_nil (wt_none' rfl) fun ⟨⟩ => ?_
 obtain ⟨r20, hr20, hp⟩ := bind_some hp
 refine px_ox' rfl (oz (ent_fn' Try.func26 isn26 rfl rfl) (spec_Dyadic_Mul_sim _ _ _ _ _ _ hr20)) rfl bs_nil (wt_none' rfl) fun ⟨⟩ => ?_
 obtain ⟨r25, hr25, hp⟩ := bind_some hp
 refine px_ox' rfl (oz (ent_fn' Try.func26 isn26 rfl rfl) (spec_Dyadic_Mul_sim _ _ _ _ _ _ hr25)) rfl bs_nil (wt_none' rfl) fun ⟨⟩ => ?_
 obtain ⟨r26, hr26, hp⟩ := bind_some hp
 refine px_ox' rfl (oz (ent_fn' Try.func27 isn27 rfl rfl) (spec_Dyadic_Sub_sim _ _ _ _ _ _ hr26)) rfl bs_nil (wt_none' rfl) fun ⟨⟩ => ?_
 obtain ⟨r31, hr31, hp⟩ := bind_some hp
 refine px_ox' rfl (oz (ent_fn' Try.func26 isn26 rfl rfl) (spec_Dyadic_Mul_sim _ _ _ _ _ _ hr31)) rfl bs_nil (wt_none' rfl) fun ⟨⟩ => ?_
 obtain ⟨r36, hr36, hp⟩ := bind_some hp
 refine px_ox' rfl (oz (ent_fn' Try.func26 isn26 rfl rfl) (spec_Dyadic_Mul_sim _ _ _ _ _ _ hr36)) rfl bs_nil (wt_none' rfl) fun ⟨⟩ => ?_
 obtain ⟨r37, hr37, hp⟩ := bind_some hp
 refine px_ox' rfl (oz (ent_fn' Try.func27 isn27 rfl rfl) (spec_Dyadic_Sub_sim _ _ _ _ _ _ hr37)) rfl bs_nil (wt_none' rfl) fun ⟨⟩ => ?_
 refine pd rfl (rd_build' (pls := [(0, 3), (3, 3), (6, 3)]) (qs := [(0, (C2 r15.1 r15.2.1 r15.2.2)), (1, (C2 r26.1 r26.2.1 r26.2.2)), (2, (C2 r37.1 r37.2.1 r37.2.2))]) (r := (C0 r15.1 r15.2.1 r15.2.2 r26.1 r26.2.1 r26.2.2 r37.1 r37.2.1 r37.2.2)) ⟨rfl, ⟨_, rfl, (lv_ag _)⟩, ⟨rfl, ⟨_, rfl, (lv_ag _)⟩, ⟨rfl, ⟨_, rfl, (lv_ag _)⟩, trivial⟩⟩⟩ Try.underlying39 has39 places39 info39 rfl rfl rfl) ?_
 refine px_oxv' rfl (oxv_store (i := 0) (o := 0) rfl rfl (lv_ag _) (ar rfl rfl rfl rfl) rfl info39 rfl (H' := [(Ur q4 39 (C0 r15.1 r15.2.1 r15.2.2 r26.1 r26.2.1 r26.2.2 r37.1 r37.2.1 r37.2.2)), (Ur q3 39 (C0 a1_0 a1_1 a1_2 a1_3 a1_4 a1_5 a1_6 a1_7 a1_8)), (Ur q2 39 (C0 a0_0 a0_1 a0_2 a0_3 a0_4 a0_5 a0_6 a0_7 a0_8))]) rfl) rfl rfl bo_nil (wt_none' rfl) fun _ => ?_
 refine px_nil' ?_
 show TX E K2 _
 refine tx_k' hK2 ?_
 refine cx_retc' ?_
 replace hp := sj hp
 subst hp
 refine tk (L' := [(4, (Vp q4))]) (H' := [(Ur q4 39 (C0 r15.1 r15.2.1 r15.2.2 r26.1 r26.2.1 r26.2.2 r37.1 r37.2.1 r37.2.2))]) [0] (uc rfl un) (pc rfl pn) ?_
 exact tx_ret1' Try.results30 rfl () (rv_cell_agg' (i := 0) (o := 0) (nn := 9) rfl (ar rfl rfl rfl rfl) rfl agg39 rfl) (List.nil_sublist _)

def spec_IntOf (k : Nat) (a0 : Int) : Option (Bool × (List Int) × Int) :=
 (spec_WholeOf k a0) >>= fun r4 =>
 some (r4.1, r4.2, 0)

theorem spec_IntOf_sim {k : Nat}  (a0 : Int) {out : Bool × (List Int) × Int} (hp : spec_IntOf k a0 = some out) : Sx.Fn Try.prog 60 [(Vi a0)] [] (fun w : Unit => (Ag (C2 out.1 out.2.1 out.2.2))) (fun w => []) := by
 unfold spec_IntOf at hp
 refine fn_of Try.func60 rfl Try.ntmps60 rfl fun E hM => ?_
 refine cr fun K1 hK1 => ?_
 refine so (ox_alloc' info34 rfl rfl rfl rfl (l := (C1 false 0)) rfl) fun q2 => ?_
 refine nk hK1 ?_
 refine cr fun K2 hK2 => ?_
 refine sm rfl ?_
 obtain ⟨r4, hr4, hp⟩ := bind_some hp
 refine so (oz (ent_fn' Try.func78 isn78 rfl rfl) (spec_WholeOf_sim _ hr4)) fun ⟨⟩ => ?_
 refine sv (pls := [(0, 2), (2, 1)]) (qs := [(0, (C6 r4.1 r4.2)), (1, [(Vi 0)])]) (r := (C2 r4.1 r4.2 0)) ⟨rfl, ⟨_, rfl, (lv_ag _)⟩, ⟨rfl, ⟨_, rfl, (lv_vl rfl rfl)⟩, trivial⟩⟩ Try.underlying34 has34 places34 info34 rfl rfl rfl ?_
 refine so (ox_store' (i := 0) (o := 0) rfl rfl (lv_ag _) (ar rfl rfl rfl rfl) rfl info34 rfl (H' := [(Ur q2 34 (C2 r4.1 r4.2 0))]) rfl) fun _ => ?_
 refine nk hK2 ?_
 refine cx_retc' ?_
 replace hp := sj hp
 subst hp
 refine tk (L' := [(2, (Vp q2))]) (H' := [(Ur q2 34 (C2 r4.1 r4.2 0))]) [0] (uc rfl un) (pc rfl pn) ?_
 exact tx_ret1' Try.results60 rfl () (rv_cell_agg' (i := 0) (o := 0) (nn := 3) rfl (ar rfl rfl rfl rfl) rfl agg34 rfl) (List.nil_sublist _)

def spec_Square3 (k : Nat) (a0_0 : Bool) (a0_1 : List Int) (a0_2 : Int) (a0_3 : Bool) (a0_4 : List Int) (a0_5 : Int) (a0_6 : Bool) (a0_7 : List Int) (a0_8 : Int) (a1_0 : Bool) (a1_1 : List Int) (a1_2 : Int) (a1_3 : Bool) (a1_4 : List Int) (a1_5 : Int) (a1_6 : Bool) (a1_7 : List Int) (a1_8 : Int) : Option (Bool × (List Int) × Int) :=
 (spec_Point3_Sub k a0_0 a0_1 a0_2 a0_3 a0_4 a0_5 a0_6 a0_7 a0_8 a1_0 a1_1 a1_2 a1_3 a1_4 a1_5 a1_6 a1_7 a1_8) >>= fun r8 =>
 (spec_Dot3 k r8.1 r8.2.1 r8.2.2.1 r8.2.2.2.1 r8.2.2.2.2.1 r8.2.2.2.2.2.1 r8.2.2.2.2.2.2.1 r8.2.2.2.2.2.2.2.1 r8.2.2.2.2.2.2.2.2 r8.1 r8.2.1 r8.2.2.1 r8.2.2.2.1 r8.2.2.2.2.1 r8.2.2.2.2.2.1 r8.2.2.2.2.2.2.1 r8.2.2.2.2.2.2.2.1 r8.2.2.2.2.2.2.2.2) >>= fun r11 =>
 some (r11.1, r11.2.1, r11.2.2)

theorem spec_Square3_sim {k : Nat}  (a0_0 : Bool) (a0_1 : List Int) (a0_2 : Int) (a0_3 : Bool) (a0_4 : List Int) (a0_5 : Int) (a0_6 : Bool) (a0_7 : List Int) (a0_8 : Int) (a1_0 : Bool) (a1_1 : List Int) (a1_2 : Int) (a1_3 : Bool) (a1_4 : List Int) (a1_5 : Int) (a1_6 : Bool) (a1_7 : List Int) (a1_8 : Int) {out : Bool × (List Int) × Int} (hp : spec_Square3 k a0_0 a0_1 a0_2 a0_3 a0_4 a0_5 a0_6 a0_7 a0_8 a1_0 a1_1 a1_2 a1_3 a1_4 a1_5 a1_6 a1_7 a1_8 = some out) : Sx.Fn Try.prog 61 [(Ag (C0 a0_0 a0_1 a0_2 a0_3 a0_4 a0_5 a0_6 a0_7 a0_8)), (Ag (C0 a1_0 a1_1 a1_2 a1_3 a1_4 a1_5 a1_6 a1_7 a1_8))] [] (fun w : Unit => (Ag (C2 out.1 out.2.1 out.2.2))) (fun w => []) := by
 unfold spec_Square3 at hp
 refine fn_of Try.func61 rfl Try.ntmps61 rfl fun E hM => ?_
 refine cr fun K1 hK1 => ?_
 refine so (ox_box' rfl (lv_ag _) rfl rfl) fun q2 => ?_
 refine so (ox_box' rfl (lv_ag _) rfl rfl) fun q3 => ?_
 refine so (ox_alloc' info34 rfl rfl rfl rfl (l := (C1 false 0)) rfl) fun q4 => ?_
 refine nk hK1 ?_
 refine cr fun K2 hK2 => ?_
 refine s0 (rd_load_agg' (i := 2) (o := 0) (nn := 9) rfl (ar rfl rfl rfl rfl) rfl agg39 (l' := (C0 a0_0 a0_1 a0_2 a0_3 a0_4 a0_5 a0_6 a0_7 a0_8)) rfl) ?_
 refine s0 (rd_load_agg' (i := 1) (o := 0) (nn := 9) rfl (ar rfl rfl rfl rfl) rfl agg39 (l' := (C0 a1_0 a1_1 a1_2 a1_3 a1_4 a1_5 a1_6 a1_7 a1_8)) rfl) ?_
 obtain ⟨r8, hr8, hp⟩ := bind_some hp
 refine so (oz (ent_fn' Try.func24 isn24 rfl rfl) (spec_Point3_Sub_sim _ _ _ _ _ _ _ _ _ _ _ _ _ _ _ _ _ _ hr8)) fun ⟨⟩ => ?_
 refine so (ox_alloc' info39 rfl rfl rfl rfl (l := (C3 false 0 false 0 false 0)) rfl) fun q5 => ?_
 refine so (ox_store' (i := 0) (o := 0) rfl rfl (lv_ag _) (ar rfl rfl rfl rfl) rfl info39 rfl (H' := [(Ur q5 39 (C0 r8.1 r8.2.1 r8.2.2.1 r8.2.2.2.1 r8.2.2.2.2.1 r8.2.2.2.2.2.1 r8.2.2.2.2.2.2.1 r8.2.2.2.2.2.2.2.1 r8.2.2.2.2.2.2.2.2)), (Ur q4 34 (C1 false 0)), (Ur q3 39 (C0 a1_0 a1_1 a1_2 a1_3 a1_4 a1_5 a1_6 a1_7 a1_8)), (Ur q2 39 (C0 a0_0 a0_1 a0_2 a0_3 a0_4 a0_5 a0_6 a0_7 a0_8))]) rfl) fun _ => ?_
 refine nk hK2 ?_
 refine cr fun K3 hK3 => ?_
 iterate 2 refine s0 (rd_load_agg' (i := 0) (o := 0) (nn := 9) rfl (ar rfl rfl rfl rfl) rfl agg39 (l' := (C0 r8.1 r8.2.1 r8.2.2.1 r8.2.2.2.1 r8.2.2.2.2.1 r8.2.2.2.2.2.1 r8.2.2.2.2.2.2.1 r8.2.2.2.2.2.2.2.1 r8.2.2.2.2.2.2.2.2)) rfl) ?_
 obtain ⟨r11, hr11, hp⟩ := bind_some hp
 refine so (oz (ent_fn' Try.func25 isn25 rfl rfl) (spec_Dot3_sim _ _ _ _ _ _ _ _ _ _ _ _ _ _ _ _ _ _ hr11)) fun ⟨⟩ => ?_
 refine so (ox_store' (i := 1) (o := 0) rfl rfl (lv_ag _) (ar rfl rfl rfl rfl) rfl info34 rfl (H' := [(Ur q5 39 (C0 r8.1 r8.2.1 r8.2.2.1 r8.2.2.2.1 r8.2.2.2.2.1 r8.2.2.2.2.2.1 r8.2.2.2.2.2.2.1 r8.2.2.2.2.2.2.2.1 r8.2.2.2.2.2.2.2.2)), (Ur q4 34 (C2 r11.1 r11.2.1 r11.2.2)), (Ur q3 39 (C0 a1_0 a1_1 a1_2 a1_3 a1_4 a1_5 a1_6 a1_7 a1_8)), (Ur q2 39 (C0 a0_0 a0_1 a0_2 a0_3 a0_4 a0_5 a0_6 a0_7 a0_8))]) rfl) fun _ => ?_
 refine nk hK3 ?_
 refine cx_retc' ?_
 replace hp := sj hp
 subst hp
 refine tk (L' := [(4, (Vp q4))]) (H' := [(Ur q4 34 (C2 r11.1 r11.2.1 r11.2.2))]) [1] (uc rfl un) (pc rfl pn) ?_
 exact tx_ret1' Try.results61 rfl () (rv_cell_agg' (i := 0) (o := 0) (nn := 3) rfl (ar rfl rfl rfl rfl) rfl agg34 rfl) (List.nil_sublist _)

end Go.Proofs.Ytmkhoplffiakmaa
