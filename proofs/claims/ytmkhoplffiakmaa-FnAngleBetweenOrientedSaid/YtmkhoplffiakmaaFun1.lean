/-
  Plain functions for the Go functions that this law reaches, and that each call does what its plain function says. Printed by a program of ours.
-/
import Derived.Test.YtmkhoplffiakmaaProg
import Derived.Test.YtmkhoplffiakmaaSxX
namespace Go.Proofs.Ytmkhoplffiakmaa
open Go.Sx
set_option linter.unusedVariables false
set_option linter.unusedSimpArgs false
set_option maxRecDepth 100000

theorem info43 : (Try.prog.info? 43).map (fun i => (i.zero, i.size, i.bytes)) = some (some (.agg #[.float .f64 0, .float .f64 0]), 2, 16) := by kernel_rfl
theorem agg43 : Agg Try.prog 43 2 := ⟨⟨_, Try.underlying43, .inl ⟨_, rfl⟩⟩, info_size info43⟩
theorem isn11 : (Try.f11.name == "runtime.NumGoroutine") = false := by kernel_rfl
theorem info22 : (Try.prog.info? 22).map (fun i => (i.zero, i.size, i.bytes)) = some (some (.float .f64 0), 1, 8) := by kernel_rfl
theorem flat22 : Flat Try.prog 22 := ⟨_, Try.underlying22, fun _ h => (nomatch h), fun _ _ h => (nomatch h)⟩
theorem isn18 : (Try.f18.name == "runtime.NumGoroutine") = false := by kernel_rfl
theorem isn43 : (Try.f43.name == "runtime.NumGoroutine") = false := by kernel_rfl
theorem extf69 : ∀ {x r : Nat}, gint .zero x = r → ∀ y, (y = x ∨ (isn x = true ∧ isn y = true)) → RunsF Try.prog (callFunc 69 #[.float .f64 y]) (Fl r) := fun hz y hy => hz ▸ runs_ext (e := Extern.MathFloor.toIntegral "math.archTrunc" .zero) Try.func69 (by kernel_rfl) (by kernel_rfl) (by kernel_rfl) (by kernel_rfl) (gint_runs hy)
theorem isn15 : (Try.f15.name == "runtime.NumGoroutine") = false := by kernel_rfl
theorem ext39 : ∀ {args : Array Value} {v : Value}, Runs Try.prog ((Extern.MathFloatBits.float64bits) args) v → Runs Try.prog (callFunc 39 args) (.value v) := fun hr => ru_ext Try.func39 (by kernel_rfl) (by kernel_rfl) (by kernel_rfl) (by kernel_rfl) hr
theorem ext38 : ∀ {args : Array Value} {v : Value}, Runs Try.prog ((Extern.MathFloatBits.float64frombits) args) v → Runs Try.prog (callFunc 38 args) (.value v) := fun hr => ru_ext Try.func38 (by kernel_rfl) (by kernel_rfl) (by kernel_rfl) (by kernel_rfl) hr
theorem held43 : Try.prog.stoodInHeld 43 = false := by kernel_rfl
theorem eqg43 : Try.prog.eqGuardType Try.prog.depth 43 = false := by kernel_rfl
theorem isn12 : (Try.f12.name == "runtime.NumGoroutine") = false := by kernel_rfl
theorem isn35 : (Try.f35.name == "runtime.NumGoroutine") = false := by kernel_rfl
theorem isn34 : (Try.f34.name == "runtime.NumGoroutine") = false := by kernel_rfl
theorem isn63 : (Try.f63.name == "runtime.NumGoroutine") = false := by kernel_rfl
theorem isn41 : (Try.f41.name == "runtime.NumGoroutine") = false := by kernel_rfl
theorem isn68 : (Try.f68.name == "runtime.NumGoroutine") = false := by kernel_rfl
theorem isn47 : (Try.f47.name == "runtime.NumGoroutine") = false := by kernel_rfl
theorem isn80 : (Try.f80.name == "runtime.NumGoroutine") = false := by kernel_rfl
theorem isn82 : (Try.f82.name == "runtime.NumGoroutine") = false := by kernel_rfl
theorem isn83 : (Try.f83.name == "runtime.NumGoroutine") = false := by kernel_rfl
theorem isn79 : (Try.f79.name == "runtime.NumGoroutine") = false := by kernel_rfl
theorem isn84 : (Try.f84.name == "runtime.NumGoroutine") = false := by kernel_rfl
theorem isn94 : (Try.f94.name == "runtime.NumGoroutine") = false := by kernel_rfl
theorem isn96 : (Try.f96.name == "runtime.NumGoroutine") = false := by kernel_rfl
theorem isn99 : (Try.f99.name == "runtime.NumGoroutine") = false := by kernel_rfl
theorem mixed : Try.prog.follows .mixedOrders = true := by kernel_rfl
theorem isn64 : (Try.f64.name == "runtime.NumGoroutine") = false := by kernel_rfl
theorem isn14 : (Try.f14.name == "runtime.NumGoroutine") = false := by kernel_rfl
theorem isn37 : (Try.f37.name == "runtime.NumGoroutine") = false := by kernel_rfl
theorem isn62 : (Try.f62.name == "runtime.NumGoroutine") = false := by kernel_rfl
theorem places34 : placesOf Try.prog [{ name := "N", type := 32, offset := 0, embedded := false, tag := "", pkgPath := "", byteOffset := 0 }, { name := "E", type := 3, offset := 2, embedded := false, tag := "", pkgPath := "", byteOffset := 32 }] = [(0, 2), (2, 1)] := by kernel_rfl
theorem has34 : ∀ f ∈ ([{ name := "N", type := 32, offset := 0, embedded := false, tag := "", pkgPath := "", byteOffset := 0 }, { name := "E", type := 3, offset := 2, embedded := false, tag := "", pkgPath := "", byteOffset := 32 }] : List Field), (Try.prog.info? f.type).isSome = true := fun f hf => all_of (p := fun f => (Try.prog.info? f.type).isSome) (by kernel_rfl) f hf
theorem info34 : (Try.prog.info? 34).map (fun i => (i.zero, i.size, i.bytes)) = some (some (.agg #[.bool false, .slice none 0 0, .int .i64 0]), 3, 40) := by kernel_rfl
theorem isn78 : (Try.f78.name == "runtime.NumGoroutine") = false := by kernel_rfl
theorem isn76 : (Try.f76.name == "runtime.NumGoroutine") = false := by kernel_rfl
theorem info91 : (Try.prog.info? 91).map (fun i => (i.zero, i.size, i.bytes)) = some (some (.int .u32 0), 1, 4) := by kernel_rfl
theorem flat91 : Flat Try.prog 91 := ⟨_, Try.underlying91, fun _ h => (nomatch h), fun _ _ h => (nomatch h)⟩
theorem places32 : placesOf Try.prog [{ name := "Neg", type := 4, offset := 0, embedded := false, tag := "", pkgPath := "", byteOffset := 0 }, { name := "L", type := 30, offset := 1, embedded := false, tag := "", pkgPath := "", byteOffset := 8 }] = [(0, 1), (1, 1)] := by kernel_rfl
theorem has32 : ∀ f ∈ ([{ name := "Neg", type := 4, offset := 0, embedded := false, tag := "", pkgPath := "", byteOffset := 0 }, { name := "L", type := 30, offset := 1, embedded := false, tag := "", pkgPath := "", byteOffset := 8 }] : List Field), (Try.prog.info? f.type).isSome = true := fun f hf => all_of (p := fun f => (Try.prog.info? f.type).isSome) (by kernel_rfl) f hf
theorem info32 : (Try.prog.info? 32).map (fun i => (i.zero, i.size, i.bytes)) = some (some (.agg #[.bool false, .slice none 0 0]), 2, 32) := by kernel_rfl
theorem agg32 : Agg Try.prog 32 2 := ⟨⟨_, Try.underlying32, .inl ⟨_, rfl⟩⟩, info_size info32⟩
theorem agg34 : Agg Try.prog 34 3 := ⟨⟨_, Try.underlying34, .inl ⟨_, rfl⟩⟩, info_size info34⟩
theorem places48 : placesOf Try.prog [{ name := "X", type := 34, offset := 0, embedded := false, tag := "", pkgPath := "", byteOffset := 0 }, { name := "Y", type := 34, offset := 3, embedded := false, tag := "", pkgPath := "", byteOffset := 40 }] = [(0, 3), (3, 3)] := by kernel_rfl
theorem has48 : ∀ f ∈ ([{ name := "X", type := 34, offset := 0, embedded := false, tag := "", pkgPath := "", byteOffset := 0 }, { name := "Y", type := 34, offset := 3, embedded := false, tag := "", pkgPath := "", byteOffset := 40 }] : List Field), (Try.prog.info? f.type).isSome = true := fun f hf => all_of (p := fun f => (Try.prog.info? f.type).isSome) (by kernel_rfl) f hf
theorem info48 : (Try.prog.info? 48).map (fun i => (i.zero, i.size, i.bytes)) = some (some (.agg #[.bool false, .slice none 0 0, .int .i64 0, .bool false, .slice none 0 0, .int .i64 0]), 6, 80) := by kernel_rfl
theorem agg48 : Agg Try.prog 48 6 := ⟨⟨_, Try.underlying48, .inl ⟨_, rfl⟩⟩, info_size info48⟩
theorem isn13 : (Try.f13.name == "runtime.NumGoroutine") = false := by kernel_rfl
theorem isn36 : (Try.f36.name == "runtime.NumGoroutine") = false := by kernel_rfl
theorem isn27 : (Try.f27.name == "runtime.NumGoroutine") = false := by kernel_rfl
theorem isn56 : (Try.f56.name == "runtime.NumGoroutine") = false := by kernel_rfl
theorem info3 : (Try.prog.info? 3).map (fun i => (i.zero, i.size, i.bytes)) = some (some (.int .i64 0), 1, 8) := by kernel_rfl
theorem flat3 : Flat Try.prog 3 := ⟨_, Try.underlying3, fun _ h => (nomatch h), fun _ _ h => (nomatch h)⟩
theorem isn77 : (Try.f77.name == "runtime.NumGoroutine") = false := by kernel_rfl
theorem info4 : (Try.prog.info? 4).map (fun i => (i.zero, i.size, i.bytes)) = some (some (.bool false), 1, 1) := by kernel_rfl
theorem flat4 : Flat Try.prog 4 := ⟨_, Try.underlying4, fun _ h => (nomatch h), fun _ _ h => (nomatch h)⟩
theorem info30 : (Try.prog.info? 30).map (fun i => (i.zero, i.size, i.bytes)) = some (some (.slice none 0 0), 1, 24) := by kernel_rfl
theorem flat30 : Flat Try.prog 30 := ⟨_, Try.underlying30, fun _ h => (nomatch h), fun _ _ h => (nomatch h)⟩
theorem isn54 : (Try.f54.name == "runtime.NumGoroutine") = false := by kernel_rfl
theorem isn28 : (Try.f28.name == "runtime.NumGoroutine") = false := by kernel_rfl
theorem isn57 : (Try.f57.name == "runtime.NumGoroutine") = false := by kernel_rfl
theorem isn74 : (Try.f74.name == "runtime.NumGoroutine") = false := by kernel_rfl
theorem isn75 : (Try.f75.name == "runtime.NumGoroutine") = false := by kernel_rfl
theorem isn88 : (Try.f88.name == "runtime.NumGoroutine") = false := by kernel_rfl
theorem isn89 : (Try.f89.name == "runtime.NumGoroutine") = false := by kernel_rfl
theorem isn90 : (Try.f90.name == "runtime.NumGoroutine") = false := by kernel_rfl
theorem isn26 : (Try.f26.name == "runtime.NumGoroutine") = false := by kernel_rfl
theorem isn55 : (Try.f55.name == "runtime.NumGoroutine") = false := by kernel_rfl
theorem isn17 : (Try.f17.name == "runtime.NumGoroutine") = false := by kernel_rfl
theorem isn23 : (Try.f23.name == "runtime.NumGoroutine") = false := by kernel_rfl
theorem isn50 : (Try.f50.name == "runtime.NumGoroutine") = false := by kernel_rfl
theorem isn51 : (Try.f51.name == "runtime.NumGoroutine") = false := by kernel_rfl
theorem isn52 : (Try.f52.name == "runtime.NumGoroutine") = false := by kernel_rfl
theorem isn53 : (Try.f53.name == "runtime.NumGoroutine") = false := by kernel_rfl
theorem isn73 : (Try.f73.name == "runtime.NumGoroutine") = false := by kernel_rfl
theorem isn86 : (Try.f86.name == "runtime.NumGoroutine") = false := by kernel_rfl
theorem isn87 : (Try.f87.name == "runtime.NumGoroutine") = false := by kernel_rfl
theorem isn42 : (Try.f42.name == "runtime.NumGoroutine") = false := by kernel_rfl
theorem isn16 : (Try.f16.name == "runtime.NumGoroutine") = false := by kernel_rfl
theorem isn40 : (Try.f40.name == "runtime.NumGoroutine") = false := by kernel_rfl
theorem isn66 : (Try.f66.name == "runtime.NumGoroutine") = false := by kernel_rfl
theorem isn81 : (Try.f81.name == "runtime.NumGoroutine") = false := by kernel_rfl
theorem isn92 : (Try.f92.name == "runtime.NumGoroutine") = false := by kernel_rfl
theorem isn95 : (Try.f95.name == "runtime.NumGoroutine") = false := by kernel_rfl
theorem isn98 : (Try.f98.name == "runtime.NumGoroutine") = false := by kernel_rfl
def KT43 : Kd (Nat × Nat) := ⟨2, fun x => [(Vl (.float .f64 x.1)), (Vl (.float .f64 x.2))], fun _ => rfl⟩

def math_Trunc (k : Nat) (a0 : Nat) : Option (Nat) :=
 (some (gint .zero a0)) >>= fun r4 =>
 some r4

theorem math_Trunc_sim {k : Nat}  (a0 : Nat) {out : Nat} (hp : math_Trunc k a0 = some out) : Sx.Fn Try.prog 43 [(Vg a0)] [] (fun w : Unit => (Fl out)) (fun w => []) := by
 unfold math_Trunc at hp
 refine fn_of Try.func43 rfl Try.ntmps43 rfl fun E hM => ?_
 refine cr fun K1 hK1 => ?_
 refine s0 (rd_assign' rfl) ?_
 refine nk hK1 ?_
 refine cx_seq' fun K2 hK2 => ?_
 refine cx_cond_t' rfl rfl ?_
 refine cr fun K3 hK3 => ?_
 refine s0 (rd_move' rfl) ?_
 obtain ⟨r4, hr4, hp⟩ := bind_some hp
 refine sx_ox' (ox_extf' rfl (fl_v rfl) Try.func69 (extf69 (Option.some.inj hr4)) rfl rfl) (wt_none' rfl) fun _ => ?_
 refine s0 (rd_assign' rfl) ?_
 refine nk hK3 ?_
 refine cx_retc' ?_
 replace hp := Option.some.inj hp
 subst hp
 refine tx_pick' (L' := [(2, (Fl r4))]) (H' := []) [] (sub_cons rfl sub_nil) (by decide) pick_nil ?_
 exact tx_ret1' Try.results43 rfl () (rv_tmp' rfl) (List.Sublist.refl _)

def math_Abs (k : Nat) (a0 : Nat) : Option (Nat) :=
 some (ffrom (iandn .u64 (fbits a0) 9223372036854775808))

theorem math_Abs_sim {k : Nat}  (a0 : Nat) {out : Nat} (hp : math_Abs k a0 = some out) : Sx.Fn Try.prog 15 [(Vg a0)] [] (fun w : Unit => (Vg out)) (fun w => []) := by
 unfold math_Abs at hp
 refine fn_of Try.func15 rfl Try.ntmps15 rfl fun E hM => ?_
 refine cr fun K1 hK1 => ?_
 refine s0 (rd_assign' rfl) ?_
 refine nk hK1 ?_
 refine cr fun K2 hK2 => ?_
 refine s0 (rd_move' rfl) ?_
 refine s0 (rd_ext' (us := [.float .f64 a0]) rfl (ext39 ex_bits)) ?_
 refine s0 (rd_bin' rfl rfl eg_int ru_andn) ?_
 refine s0 (rd_ext' (us := [.int .u64 (iandn .u64 (fbits a0) 9223372036854775808)]) rfl (ext38 ex_from)) ?_
 refine s0 (rd_assign' rfl) ?_
 refine nk hK2 ?_
 refine cx_retc' ?_
 replace hp := Option.some.inj hp
 subst hp
 refine tx_pick' (L' := [(2, (Vg (ffrom (iandn .u64 (fbits a0) 9223372036854775808))))]) (H' := []) [] (sub_cons rfl sub_nil) (by decide) pick_nil ?_
 exact tx_ret1' Try.results15 rfl () (rv_tmp' rfl) (List.Sublist.refl _)

def laws_wholeTo_j2 (k : Nat) (rec1 : Int → Option (Unit ⊕ Unit)) (x3 : Int) (x2 : Bool) : Option (Unit ⊕ Unit) :=
 br x2
  (some (.inl ()))
  (rec1 (iadd .i64 x3 1))
def laws_wholeTo_l1s (a1 : List Nat) (a0 : Nat) (k : Nat) (rec1 : Int → Option (Unit ⊕ Unit)) (x3 : Int) : Option (Unit ⊕ Unit) :=
 br (decide (x3 < (a1.length : Int)))
  ((idx a1 x3) >>= fun r11 =>
  (math_Trunc k r11) >>= fun r15 =>
  br (fne r11 r15)
   (laws_wholeTo_j2 k rec1 x3 true)
   ((math_Abs k r11) >>= fun r19 =>
   laws_wholeTo_j2 k rec1 x3 (fgt r19 a0)))
  (some (.inr ()))
def laws_wholeTo_l1 (a1 : List Nat) (a0 : Nat) : Nat → Int → Option (Unit ⊕ Unit)
 | 0, _ => none
 | k + 1, v => laws_wholeTo_l1s a1 a0 k (laws_wholeTo_l1 a1 a0 k) v
def laws_wholeTo (k : Nat) (a0 : Nat) (a1 : List Nat) : Option (Bool) :=
 (laws_wholeTo_l1 a1 a0 k 0) >>= fun y1 => match y1 with
  | (.inl v4) =>
   (some false)
  | (.inr v5) =>
   (some true)

theorem laws_wholeTo_sim {k : Nat}  (a0 : Nat) (a1 : List Nat) {out : Bool} (hp : laws_wholeTo k a0 a1 = some out) : Sx.Fn Try.prog 18 [(Vg a0), (Sl Kf a1)] [] (fun w : Unit => (Vb out)) (fun w => []) := by
 unfold laws_wholeTo at hp
 refine fn_of Try.func18 rfl Try.ntmps18 rfl fun E hM => ?_
 refine cr fun K1 hK1 => ?_
 refine s0 (rd_assign' rfl) ?_
 refine nk hK1 ?_
 refine cx_seq' fun K2 hK2 => ?_
 refine cr fun K3 hK3 => ?_
 refine s0 (rd_move' rfl) ?_
 refine s0 (rd_len' rfl Try.underlying55) ?_
 refine s0 (rd_move' rfl) ?_
 refine nk hK3 ?_
 refine cx_block' ?_
 obtain ⟨y1, hy1, hp⟩ := bind_some hp
 refine cx_loopg' (F := laws_wholeTo_l1 a1 a0) (G := fun k R v => laws_wholeTo_l1s a1 a0 k R v) (x := 0) (gh := ()) (fun (v2 : Int) (w2 : Unit) => (⟨24, [], [(0, (Vg a0)), (7, (Sl Kf a1)), (8, (Vi (a1.length : Int))), (9, (Vi v2))], []⟩ : St)) (fun (y : Unit ⊕ Unit) => match y with | (.inl v4) => Zg E Exit.ret (fun (w4 : Unit) => (⟨24, [], [(4, (Vb false))], []⟩ : St)) | (.inr v5) => Zg E (Exit.exit 0) (fun (w5 : Unit) => (⟨24, [], [], []⟩ : St))) (fun _ => rfl) (fun _ _ => rfl) ?_ hy1 (tx_to' rfl [] (sub_cons rfl (sub_cons rfl (sub_cons rfl (sub_cons rfl sub_nil)))) (by decide) pick_nil) ?_
 ·clear hp hy1
  clear y1
  intro k rec1 KY1 ih1
  rintro x3 ⟨⟩ y1 hp
  replace hp : laws_wholeTo_l1s a1 a0 k rec1 x3 = some y1 := hp
  unfold laws_wholeTo_l1s at hp
  refine cr fun K11 hK11 => ?_
  refine s0 (rd_bin' rfl rfl eg_int ru_lss) ?_
  refine nk hK11 ?_
  refine cx_seq' fun K12 hK12 => ?_
  refine cx_cond' rfl (fun h5 => ?_) (fun h5 => ?_)
  ·replace hp := (br_t h5).symm.trans hp
   refine cx_skip' ?_
   show TX E K12 _
   refine tx_k' hK12 ?_
   refine cx_seq' fun K13 hK13 => ?_
   refine cx_block' ?_
   refine cr fun K14 hK14 => ?_
   obtain ⟨r11, hr11, hp⟩ := bind_some hp
   refine s0 (rd_at' (K := Kf) rfl rfl hr11 Try.underlying55 info22) ?_
   refine s0 (rd_load_pt' rfl rfl flat22) ?_
   refine s0 (rd_assign' rfl) ?_
   refine nk hK14 ?_
   refine cr fun K15 hK15 => ?_
   refine s0 (rd_move' rfl) ?_
   refine s0 (rd_move' rfl) ?_
   obtain ⟨r15, hr15, hp⟩ := bind_some hp
   refine sx_ox' (ox_calln' (ent_fn' Try.func43 isn43 rfl rfl) (math_Trunc_sim _ hr15 : Sx.Fn Try.prog 43 [(Vg r11)] [] (fun x : Unit => (Fl r15)) (fun x => [])) (Hn := fun x : Unit => []) (fun _ => rfl) rfl rfl) (wt_none' rfl) fun ⟨⟩ => ?_
   refine s0 (rd_fcmp' (fl_v rfl) (fl_f rfl) rfl) ?_
   refine s0 (rd_move' rfl) ?_
   refine sx_cutn' 5 (fun (v3 : Bool) => (⟨24, [], [(0, (Vg a0)), (7, (Sl Kf a1)), (8, (Vi (a1.length : Int))), (9, (Vi x3)), (22, (Vb v3))], []⟩ : St)) (fun (v3 : Bool) => laws_wholeTo_j2 k rec1 x3 v3 = some y1) ?_ ?_
   ·rintro x2 hp
    replace hp : laws_wholeTo_j2 k rec1 x3 x2 = some y1 := hp
    unfold laws_wholeTo_j2 at hp
    refine nk hK15 ?_
    refine cx_cond' rfl (fun h7 => ?_) (fun h7 => ?_)
    ·replace hp := (br_t h7).symm.trans hp
     refine cr fun K17 hK17 => ?_
     refine s0 (rd_assign' rfl) ?_
     refine nk hK17 ?_
     refine cx_retc' ?_
     replace hp := Option.some.inj hp
     subst hp
     show TX E (Zg E Exit.ret _ Exit.ret) _
     exact tx_zend' () rfl [] (sub_cons rfl sub_nil) (by decide) pick_nil
    replace hp := (br_f h7).symm.trans hp
    refine cx_skip' ?_
    show TX E K13 _
    refine tx_k' hK13 ?_
    refine cx_region' ?_
    refine s0 (rd_bin' rfl rfl eg_int ru_add) ?_
    refine s0 (rd_move' rfl) ?_
    refine sx_nil' ?_
    show TX E (KY1 _) _
    exact tx_pick' [] (sub_cons rfl (sub_cons rfl (sub_cons rfl (sub_cons rfl sub_nil)))) (by decide) pick_nil (ih1 (iadd .i64 x3 1) () _ hp)
   intro K16 hK16
   rcases br_cases hp with ⟨h6, hp⟩ | ⟨h6, hp⟩
   ·refine sx_skip' rfl rfl (wt_is' (wt_guard' rfl rfl rfl) (beq_tf h6)) ?_
    refine sx_skip' rfl rfl (wt_is' (wt_guard' rfl rfl rfl) (beq_tf h6)) ?_
    refine sx_skip' rfl rfl (wt_is' (wt_guard' rfl rfl rfl) (beq_tf h6)) ?_
    refine sx_skip' rfl rfl (wt_is' (wt_guard' rfl rfl rfl) (beq_tf h6)) ?_
    refine s0 (rd_pick_true' rfl h6 rfl) ?_
    refine sx_nil' ?_
    show TX E K16 _
    exact tx_pick' [] (sub_cons rfl (sub_cons rfl (sub_cons rfl (sub_cons rfl (sub_cons rfl sub_nil))))) (by decide) pick_nil (hK16 true hp)
   refine sx_rd' (rd_move' rfl) rfl rfl (wt_is' (wt_guard' rfl rfl rfl) (beq_ff h6)) ?_
   obtain ⟨r19, hr19, hp⟩ := bind_some hp
   refine sx_ox' (ox_calln' (ent_fn' Try.func15 isn15 rfl rfl) (math_Abs_sim _ hr19 : Sx.Fn Try.prog 15 [(Vg r11)] [] (fun x : Unit => (Vg r19)) (fun x => [])) (Hn := fun x : Unit => []) (fun _ => rfl) rfl rfl) (wt_is' (wt_guard' rfl rfl rfl) (beq_ff h6)) fun ⟨⟩ => ?_
   refine sx_rd' (rd_move' rfl) rfl rfl (wt_is' (wt_guard' rfl rfl rfl) (beq_ff h6)) ?_
   refine sx_rd' (rd_bin' rfl rfl eg_flt ru_fgt) rfl rfl (wt_is' (wt_guard' rfl rfl rfl) (beq_ff h6)) ?_
   refine s0 (rd_pick_false' rfl h6 rfl) ?_
   refine sx_nil' ?_
   show TX E K16 _
   exact tx_pick' [] (sub_cons rfl (sub_cons rfl (sub_cons rfl (sub_cons rfl (sub_cons rfl sub_nil))))) (by decide) pick_nil (hK16 (fgt r19 a0) hp)
  replace hp := (br_f h5).symm.trans hp
  refine cx_exit' ?_
  replace hp := Option.some.inj hp
  subst hp
  show TX E (Zg E (Exit.exit 0) _ (Exit.exit 0)) _
  exact tx_zend' () rfl [] sub_nil (by decide) pick_nil
 rcases y1 with v4 | v5
 ·dsimp only at hp
  refine zg_out fun w4 => ?_
  replace hp := Option.some.inj hp
  subst hp
  refine tx_pick' (L' := [(4, (Vb false))]) (H' := []) [] (sub_cons rfl sub_nil) (by decide) pick_nil ?_
  exact tx_ret1' Try.results18 rfl () (rv_tmp' rfl) (List.Sublist.refl _)
 dsimp only at hp
 refine zg_out fun w5 => ?_
 show TX E K2 _
 refine tx_k' hK2 ?_
 refine cr fun K18 hK18 => ?_
 refine s0 (rd_assign' rfl) ?_
 refine nk hK18 ?_
 refine cx_retc' ?_
 replace hp := Option.some.inj hp
 subst hp
 refine tx_pick' (L' := [(4, (Vb true))]) (H' := []) [] (sub_cons rfl sub_nil) (by decide) pick_nil ?_
 exact tx_ret1' Try.results18 rfl () (rv_tmp' rfl) (List.Sublist.refl _)

def laws_planeTo_l1s (a1 : List (Nat × Nat)) (a0 : Nat) (k : Nat) (rec1 : Int → Option (Unit ⊕ Unit)) (x1 : Int) : Option (Unit ⊕ Unit) :=
 br (decide (x1 < (a1.length : Int)))
  ((idx a1 x1) >>= fun r11 =>
  (laws_wholeTo k a0 ([r11.1, r11.2])) >>= fun r19 =>
  br (!r19)
   (some (.inl ()))
   (rec1 (iadd .i64 x1 1)))
  (some (.inr ()))
def laws_planeTo_l1 (a1 : List (Nat × Nat)) (a0 : Nat) : Nat → Int → Option (Unit ⊕ Unit)
 | 0, _ => none
 | k + 1, v => laws_planeTo_l1s a1 a0 k (laws_planeTo_l1 a1 a0 k) v
def laws_planeTo (k : Nat) (a0 : Nat) (a1 : List (Nat × Nat)) : Option (Bool) :=
 (laws_planeTo_l1 a1 a0 k 0) >>= fun y1 => match y1 with
  | (.inl v2) =>
   (some false)
  | (.inr v3) =>
   (some true)

theorem laws_planeTo_sim {k : Nat}  (a0 : Nat) (a1 : List (Nat × Nat)) {out : Bool} (hp : laws_planeTo k a0 a1 = some out) : Sx.Fn Try.prog 11 [(Vg a0), (Sl KT43 a1)] [] (fun w : Unit => (Vb out)) (fun w => []) := by
 unfold laws_planeTo at hp
 refine fn_of Try.func11 rfl Try.ntmps11 rfl fun E hM => ?_
 refine cr fun K1 hK1 => ?_
 refine s0 (rd_assign' rfl) ?_
 refine nk hK1 ?_
 refine cx_seq' fun K2 hK2 => ?_
 refine cr fun K3 hK3 => ?_
 refine s0 (rd_move' rfl) ?_
 refine s0 (rd_len' rfl Try.underlying68) ?_
 refine s0 (rd_move' rfl) ?_
 refine nk hK3 ?_
 refine cx_block' ?_
 obtain ⟨y1, hy1, hp⟩ := bind_some hp
 refine cx_loopg' (F := laws_planeTo_l1 a1 a0) (G := fun k R v => laws_planeTo_l1s a1 a0 k R v) (x := 0) (gh := ()) (fun (v1 : Int) (w1 : Unit) => (⟨22, [], [(0, (Vg a0)), (7, (Sl KT43 a1)), (8, (Vi (a1.length : Int))), (9, (Vi v1))], []⟩ : St)) (fun (y : Unit ⊕ Unit) => match y with | (.inl v2) => Zg E Exit.ret (fun (w2 : Unit) => (⟨22, [], [(4, (Vb false))], []⟩ : St)) | (.inr v3) => Zg E (Exit.exit 0) (fun (w3 : Unit) => (⟨22, [], [], []⟩ : St))) (fun _ => rfl) (fun _ _ => rfl) ?_ hy1 (tx_to' rfl [] (sub_cons rfl (sub_cons rfl (sub_cons rfl (sub_cons rfl sub_nil)))) (by decide) pick_nil) ?_
 ·clear hp hy1
  clear y1
  intro k rec1 KY1 ih1
  rintro x1 ⟨⟩ y1 hp
  replace hp : laws_planeTo_l1s a1 a0 k rec1 x1 = some y1 := hp
  unfold laws_planeTo_l1s at hp
  refine cr fun K10 hK10 => ?_
  refine s0 (rd_bin' rfl rfl eg_int ru_lss) ?_
  refine nk hK10 ?_
  refine cx_seq' fun K11 hK11 => ?_
  refine cx_cond' rfl (fun h4 => ?_) (fun h4 => ?_)
  ·replace hp := (br_t h4).symm.trans hp
   refine cx_skip' ?_
   show TX E K11 _
   refine tx_k' hK11 ?_
   refine cx_seq' fun K12 hK12 => ?_
   refine cx_block' ?_
   refine cr fun K13 hK13 => ?_
   obtain ⟨r11, hr11, hp⟩ := bind_some hp
   refine s0 (rd_at' (K := KT43) rfl rfl hr11 Try.underlying68 info43) ?_
   refine s0 (rd_load_pt_agg' (nn := 2) rfl rfl agg43 (l' := [(Vg r11.1), (Vg r11.2)]) rfl) ?_
   refine sx_ox' (ox_alloc' info43 rfl rfl rfl rfl (l := [(Vg 0), (Vg 0)]) rfl) (wt_none' rfl) fun q6 => ?_
   refine sx_ox' (ox_store' (i := 0) (o := 0) rfl rfl (lv_ag _) ⟨rfl, rfl, rfl, rfl⟩ rfl info43 rfl (H' := [⟨.pointer (some q6), [(Vg r11.1), (Vg r11.2)], 43, none⟩]) rfl) (wt_none' rfl) fun _ => ?_
   refine nk hK13 ?_
   refine cr fun K14 hK14 => ?_
   refine s0 (rd_move' rfl) ?_
   refine s0 (rd_field0' rfl Try.underlying43 rfl info22 rfl) ?_
   refine s0 (rd_load' (i := 0) (o := 0) rfl ⟨rfl, rfl, rfl, rfl⟩ rfl flat22) ?_
   refine s0 (rd_field' (off := 1) rfl Try.underlying43 rfl info22 rfl) ?_
   refine s0 (rd_load' (i := 0) (o := 1) rfl ⟨rfl, rfl, rfl, rfl⟩ rfl flat22) ?_
   refine sx_ox' (ox_rowlit' (K := Kf) (xs := [r11.1, r11.2]) (qs := [(0, [(Vg r11.1)]), (1, [(Vg r11.2)])]) ⟨rfl, ⟨_, rfl, (lv_vl rfl rfl)⟩, ⟨rfl, ⟨_, rfl, (lv_vl rfl rfl)⟩, trivial⟩⟩ Try.underlying55 info22 rfl rfl rfl rfl rfl (by kernel_rfl) rfl rfl rfl) (wt_none' rfl) fun g18 => ?_
   obtain ⟨r19, hr19, hp⟩ := bind_some hp
   refine sx_ox' (ox_brw' (frz_row 0 [(18, (Vl (Vs g18)), (Sl Kf ([r11.1, r11.2])))] (K := Kf) (xs := [r11.1, r11.2]) (by decide) rfl ⟨⟨rfl, frz_it⟩, trivial⟩ (H' := [⟨.pointer (some q6), [(Vg r11.1), (Vg r11.2)], 43, none⟩]) frzH_refl) (ent_fn' Try.func18 isn18 rfl rfl) (laws_wholeTo_sim _ _ hr19 : Sx.Fn Try.prog 18 [(Vg a0), (Sl Kf ([r11.1, r11.2]))] [] (fun x : Unit => (Vb r19)) (fun x => [])) pu_vl rfl rfl) (wt_none' rfl) fun ⟨⟩ => ?_
   refine s0 (rd_un' rfl ru_not) ?_
   refine nk hK14 ?_
   refine cx_cond' rfl (fun h5 => ?_) (fun h5 => ?_)
   ·replace hp := (br_t h5).symm.trans hp
    refine cr fun K15 hK15 => ?_
    refine s0 (rd_assign' rfl) ?_
    refine nk hK15 ?_
    refine cx_retc' ?_
    replace hp := Option.some.inj hp
    subst hp
    show TX E (Zg E Exit.ret _ Exit.ret) _
    exact tx_zend' () rfl [] (sub_cons rfl sub_nil) (by decide) pick_nil
   replace hp := (br_f h5).symm.trans hp
   refine cx_skip' ?_
   show TX E K12 _
   refine tx_k' hK12 ?_
   refine cx_region' ?_
   refine s0 (rd_bin' rfl rfl eg_int ru_add) ?_
   refine s0 (rd_move' rfl) ?_
   refine sx_nil' ?_
   show TX E (KY1 _) _
   exact tx_pick' [] (sub_cons rfl (sub_cons rfl (sub_cons rfl (sub_cons rfl sub_nil)))) (by decide) pick_nil (ih1 (iadd .i64 x1 1) () _ hp)
  replace hp := (br_f h4).symm.trans hp
  refine cx_exit' ?_
  replace hp := Option.some.inj hp
  subst hp
  show TX E (Zg E (Exit.exit 0) _ (Exit.exit 0)) _
  exact tx_zend' () rfl [] sub_nil (by decide) pick_nil
 rcases y1 with v2 | v3
 ·dsimp only at hp
  refine zg_out fun w2 => ?_
  replace hp := Option.some.inj hp
  subst hp
  refine tx_pick' (L' := [(4, (Vb false))]) (H' := []) [] (sub_cons rfl sub_nil) (by decide) pick_nil ?_
  exact tx_ret1' Try.results11 rfl () (rv_tmp' rfl) (List.Sublist.refl _)
 dsimp only at hp
 refine zg_out fun w3 => ?_
 show TX E K2 _
 refine tx_k' hK2 ?_
 refine cr fun K16 hK16 => ?_
 refine s0 (rd_assign' rfl) ?_
 refine nk hK16 ?_
 refine cx_retc' ?_
 replace hp := Option.some.inj hp
 subst hp
 refine tx_pick' (L' := [(4, (Vb true))]) (H' := []) [] (sub_cons rfl sub_nil) (by decide) pick_nil ?_
 exact tx_ret1' Try.results11 rfl () (rv_tmp' rfl) (List.Sublist.refl _)

def impl_coord (k : Nat) (a0_0 : Nat) (a0_1 : Nat) : Option ((List Nat)) :=
 some ([a0_0, a0_1])

theorem impl_coord_sim {k : Nat}  (a0_0 : Nat) (a0_1 : Nat) {out : (List Nat)} (hp : impl_coord k a0_0 a0_1 = some out) : Sx.Fn Try.prog 35 [(Ag [(Vg a0_0), (Vg a0_1)])] [] (fun w : Unit => (Sl Kf out)) (fun w => []) := by
 unfold impl_coord at hp
 refine fn_of Try.func35 rfl Try.ntmps35 rfl fun E hM => ?_
 refine cr fun K1 hK1 => ?_
 refine sx_ox' (ox_box' rfl (lv_ag _) rfl rfl) (wt_none' rfl) fun q1 => ?_
 refine s0 (rd_assign' rfl) ?_
 refine nk hK1 ?_
 refine cr fun K2 hK2 => ?_
 refine s0 (rd_field0' rfl Try.underlying43 rfl info22 rfl) ?_
 refine s0 (rd_load' (i := 0) (o := 0) rfl ⟨rfl, rfl, rfl, rfl⟩ rfl flat22) ?_
 refine s0 (rd_field' (off := 1) rfl Try.underlying43 rfl info22 rfl) ?_
 refine s0 (rd_load' (i := 0) (o := 1) rfl ⟨rfl, rfl, rfl, rfl⟩ rfl flat22) ?_
 refine sx_ox' (ox_rowlit' (K := Kf) (xs := [a0_0, a0_1]) (qs := [(0, [(Vg a0_0)]), (1, [(Vg a0_1)])]) ⟨rfl, ⟨_, rfl, (lv_vl rfl rfl)⟩, ⟨rfl, ⟨_, rfl, (lv_vl rfl rfl)⟩, trivial⟩⟩ Try.underlying56 info22 rfl rfl rfl rfl rfl (by kernel_rfl) rfl rfl rfl) (wt_none' rfl) fun g7 => ?_
 refine s0 (rd_assign' rfl) ?_
 refine nk hK2 ?_
 refine cx_retc' ?_
 replace hp := Option.some.inj hp
 subst hp
 refine tx_fz' (frz_row 0 [(2, (Vl (Vs g7)), (Sl Kf ([a0_0, a0_1]))), (7, (Vl (Vs g7)), (Sl Kf ([a0_0, a0_1])))] (K := Kf) (xs := [a0_0, a0_1]) (by decide) rfl ⟨⟨rfl, frz_it⟩, ⟨rfl, frz_it⟩, trivial⟩ (H' := [⟨.pointer (some q1), [(Vg a0_0), (Vg a0_1)], 43, none⟩]) frzH_refl) ?_
 refine tx_pick' (L' := [(2, (Sl Kf ([a0_0, a0_1])))]) (H' := []) [] (sub_cons rfl sub_nil) (by decide) pick_nil ?_
 exact tx_ret1' Try.results35 rfl () (rv_tmp' rfl) (List.Sublist.refl _)

def math_IsNaN (k : Nat) (a0 : Nat) : Option (Bool) :=
 some (fne a0 a0)

theorem math_IsNaN_sim {k : Nat}  (a0 : Nat) {out : Bool} (hp : math_IsNaN k a0 = some out) : Sx.Fn Try.prog 47 [(Vg a0)] [] (fun w : Unit => (Vb out)) (fun w => []) := by
 unfold math_IsNaN at hp
 refine fn_of Try.func47 rfl Try.ntmps47 rfl fun E hM => ?_
 refine cr fun K1 hK1 => ?_
 refine s0 (rd_assign' rfl) ?_
 refine nk hK1 ?_
 refine cr fun K2 hK2 => ?_
 refine s0 (rd_move' rfl) ?_
 refine s0 (rd_move' rfl) ?_
 refine s0 (rd_bin' rfl rfl eg_flt ru_fne) ?_
 refine s0 (rd_assign' rfl) ?_
 refine nk hK2 ?_
 refine cx_retc' ?_
 replace hp := Option.some.inj hp
 subst hp
 refine tx_pick' (L' := [(2, (Vb (fne a0 a0)))]) (H' := []) [] (sub_cons rfl sub_nil) (by decide) pick_nil ?_
 exact tx_ret1' Try.results47 rfl () (rv_tmp' rfl) (List.Sublist.refl _)

def math_NaN (k : Nat)  : Option (Nat) :=
 some (ffrom 9221120237041090561)

theorem math_NaN_sim {k : Nat}   {out : Nat} (hp : math_NaN k = some out) : Sx.Fn Try.prog 80 [] [] (fun w : Unit => (Vg out)) (fun w => []) := by
 unfold math_NaN at hp
 refine fn_of Try.func80 rfl Try.ntmps80 rfl fun E hM => ?_
 refine cr fun K1 hK1 => ?_
 refine s0 (rd_assign' rfl) ?_
 refine nk hK1 ?_
 refine cr fun K2 hK2 => ?_
 refine s0 (rd_ext' (us := [.int .u64 9221120237041090561]) rfl (ext38 ex_from)) ?_
 refine s0 (rd_assign' rfl) ?_
 refine nk hK2 ?_
 refine cx_retc' ?_
 replace hp := Option.some.inj hp
 subst hp
 refine tx_pick' (L' := [(0, (Vg (ffrom 9221120237041090561)))]) (H' := []) [] (sub_cons rfl sub_nil) (by decide) pick_nil ?_
 exact tx_ret1' Try.results80 rfl () (rv_tmp' rfl) (List.Sublist.refl _)

def math_Signbit (k : Nat) (a0 : Nat) : Option (Bool) :=
 some (decide ((icv .i64 (fbits a0)) < 0))

theorem math_Signbit_sim {k : Nat}  (a0 : Nat) {out : Bool} (hp : math_Signbit k a0 = some out) : Sx.Fn Try.prog 82 [(Vg a0)] [] (fun w : Unit => (Vb out)) (fun w => []) := by
 unfold math_Signbit at hp
 refine fn_of Try.func82 rfl Try.ntmps82 rfl fun E hM => ?_
 refine cr fun K1 hK1 => ?_
 refine s0 (rd_assign' rfl) ?_
 refine nk hK1 ?_
 refine cr fun K2 hK2 => ?_
 refine s0 (rd_move' rfl) ?_
 refine s0 (rd_ext' (us := [.float .f64 a0]) rfl (ext39 ex_bits)) ?_
 refine s0 (rd_conv' rfl (ru_i2i (by rw [Try.underlying74]; rfl) Try.underlying2)) ?_
 refine s0 (rd_bin' rfl rfl eg_int ru_lss) ?_
 refine s0 (rd_assign' rfl) ?_
 refine nk hK2 ?_
 refine cx_retc' ?_
 replace hp := Option.some.inj hp
 subst hp
 refine tx_pick' (L' := [(2, (Vb (decide ((icv .i64 (fbits a0)) < 0))))]) (H' := []) [] (sub_cons rfl sub_nil) (by decide) pick_nil ?_
 exact tx_ret1' Try.results82 rfl () (rv_tmp' rfl) (List.Sublist.refl _)

def math_Copysign (k : Nat) (a0 : Nat) (a1 : Nat) : Option (Nat) :=
 some (ffrom (ior .u64 (iandn .u64 (fbits a0) 9223372036854775808) (iand .u64 (fbits a1) 9223372036854775808)))

theorem math_Copysign_sim {k : Nat}  (a0 : Nat) (a1 : Nat) {out : Nat} (hp : math_Copysign k a0 a1 = some out) : Sx.Fn Try.prog 83 [(Vg a0), (Vg a1)] [] (fun w : Unit => (Vg out)) (fun w => []) := by
 unfold math_Copysign at hp
 refine fn_of Try.func83 rfl Try.ntmps83 rfl fun E hM => ?_
 refine cr fun K1 hK1 => ?_
 refine s0 (rd_assign' rfl) ?_
 refine nk hK1 ?_
 refine cr fun K2 hK2 => ?_
 refine s0 (rd_move' rfl) ?_
 refine s0 (rd_ext' (us := [.float .f64 a0]) rfl (ext39 ex_bits)) ?_
 refine s0 (rd_bin' rfl rfl eg_int ru_andn) ?_
 refine s0 (rd_move' rfl) ?_
 refine s0 (rd_ext' (us := [.float .f64 a1]) rfl (ext39 ex_bits)) ?_
 refine s0 (rd_bin' rfl rfl eg_int ru_and) ?_
 refine s0 (rd_bin' rfl rfl eg_int ru_or) ?_
 refine s0 (rd_ext' (us := [.int .u64 (ior .u64 (iandn .u64 (fbits a0) 9223372036854775808) (iand .u64 (fbits a1) 9223372036854775808))]) rfl (ext38 ex_from)) ?_
 refine s0 (rd_assign' rfl) ?_
 refine nk hK2 ?_
 refine cx_retc' ?_
 replace hp := Option.some.inj hp
 subst hp
 refine tx_pick' (L' := [(4, (Vg (ffrom (ior .u64 (iandn .u64 (fbits a0) 9223372036854775808) (iand .u64 (fbits a1) 9223372036854775808)))))]) (H' := []) [] (sub_cons rfl sub_nil) (by decide) pick_nil ?_
 exact tx_ret1' Try.results83 rfl () (rv_tmp' rfl) (List.Sublist.refl _)

def math_IsInf_j1 (k : Nat) (x1 : Nat) : Option (Bool) :=
 some (fgt x1 9218868437227405311)
def math_IsInf (k : Nat) (a0 : Nat) (a1 : Int) : Option (Bool) :=
 br (decide (a1 = 0))
  ((math_Abs k a0) >>= fun r8 =>
  math_IsInf_j1 k r8)
  (br (decide (a1 < 0))
   (math_IsInf_j1 k (fneg a0))
   (math_IsInf_j1 k a0))

theorem math_IsInf_sim {k : Nat}  (a0 : Nat) (a1 : Int) {out : Bool} (hp : math_IsInf k a0 a1 = some out) : Sx.Fn Try.prog 79 [(Vg a0), (Vi a1)] [] (fun w : Unit => (Vb out)) (fun w => []) := by
 unfold math_IsInf at hp
 refine fn_of Try.func79 rfl Try.ntmps79 rfl fun E hM => ?_
 refine cr fun K1 hK1 => ?_
 refine s0 (rd_assign' rfl) ?_
 refine nk hK1 ?_
 refine cx_join' (fun (v1 : Nat) => (⟨15, [], [(0, (Vg v1))], []⟩ : St)) (fun (v1 : Nat) => math_IsInf_j1 k v1 = some out) ?_ ?_
 ·rintro x1 hp
  replace hp : math_IsInf_j1 k x1 = some out := hp
  unfold math_IsInf_j1 at hp
  refine cr fun K5 hK5 => ?_
  refine s0 (rd_move' rfl) ?_
  refine s0 (rd_bin' rfl rfl eg_flt ru_fgt) ?_
  refine s0 (rd_assign' rfl) ?_
  refine nk hK5 ?_
  refine cx_retc' ?_
  replace hp := Option.some.inj hp
  subst hp
  refine tx_pick' (L' := [(4, (Vb (fgt x1 9218868437227405311)))]) (H' := []) [] (sub_cons rfl sub_nil) (by decide) pick_nil ?_
  exact tx_ret1' Try.results79 rfl () (rv_tmp' rfl) (List.Sublist.refl _)
 intro K2 hK2
 refine cr fun K3 hK3 => ?_
 refine s0 (rd_move' rfl) ?_
 refine s0 (rd_bin' rfl rfl eg_int ru_eql) ?_
 refine nk hK3 ?_
 refine cx_cond' rfl (fun h1 => ?_) (fun h1 => ?_)
 ·replace hp := (br_t h1).symm.trans hp
  refine cx_region' ?_
  refine s0 (rd_move' rfl) ?_
  obtain ⟨r8, hr8, hp⟩ := bind_some hp
  refine sx_ox' (ox_calln' (ent_fn' Try.func15 isn15 rfl rfl) (math_Abs_sim _ hr8 : Sx.Fn Try.prog 15 [(Vg a0)] [] (fun x : Unit => (Vg r8)) (fun x => [])) (Hn := fun x : Unit => []) (fun _ => rfl) rfl rfl) (wt_none' rfl) fun ⟨⟩ => ?_
  refine s0 (rd_assign' rfl) ?_
  refine sx_nil' ?_
  show TX E K2 _
  exact tx_pick' [] (sub_cons rfl sub_nil) (by decide) pick_nil (hK2 r8 hp)
 replace hp := (br_f h1).symm.trans hp
 refine cr fun K4 hK4 => ?_
 refine s0 (rd_move' rfl) ?_
 refine s0 (rd_bin' rfl rfl eg_int ru_lss) ?_
 refine nk hK4 ?_
 refine cx_cond' rfl (fun h2 => ?_) (fun h2 => ?_)
 ·replace hp := (br_t h2).symm.trans hp
  refine cx_region' ?_
  refine s0 (rd_move' rfl) ?_
  refine s0 (rd_un' rfl ru_fneg) ?_
  refine s0 (rd_assign' rfl) ?_
  refine sx_nil' ?_
  show TX E K2 _
  exact tx_pick' [] (sub_cons rfl sub_nil) (by decide) pick_nil (hK2 (fneg a0) hp)
 replace hp := (br_f h2).symm.trans hp
 refine cx_skip' ?_
 show TX E K2 _
 exact tx_pick' [] (sub_cons rfl sub_nil) (by decide) pick_nil (hK2 a0 hp)

def math_xatan (k : Nat) (a0 : Nat) : Option (Nat) :=
 (some (gmul a0 a0)) >>= fun r6 =>
 (some (gmul 13829429103926125972 r6)) >>= fun r9 =>
 (some (gadd r9 13848613196940411002)) >>= fun r10 =>
 (some (gmul r10 r6)) >>= fun r12 =>
 (some (gadd r12 13858350711815275123)) >>= fun r13 =>
 (some (gmul r13 r6)) >>= fun r15 =>
 (some (gadd r15 13861719834326579749)) >>= fun r16 =>
 (some (gmul r16 r6)) >>= fun r18 =>
 (some (gadd r18 13857635882265799822)) >>= fun r19 =>
 (some (gmul r6 r19)) >>= fun r20 =>
 (some (gadd r6 4627690253511319612)) >>= fun r22 =>
 (some (gmul r22 r6)) >>= fun r24 =>
 (some (gadd r24 4640010388282866213)) >>= fun r25 =>
 (some (gmul r25 r6)) >>= fun r27 =>
 (some (gadd r27 4646322940342877755)) >>= fun r28 =>
 (some (gmul r28 r6)) >>= fun r30 =>
 (some (gadd r30 4647246694406179306)) >>= fun r31 =>
 (some (gmul r31 r6)) >>= fun r33 =>
 (some (gadd r33 4641049159275471596)) >>= fun r34 =>
 (some (gdiv r20 r34)) >>= fun r35 =>
 (some (gmul a0 r35)) >>= fun r38 =>
 (some (gadd r38 a0)) >>= fun r40 =>
 some r40

theorem math_xatan_sim {k : Nat}  (a0 : Nat) {out : Nat} (hp : math_xatan k a0 = some out) : Sx.Fn Try.prog 99 [(Vg a0)] [] (fun w : Unit => (Fl out)) (fun w => []) := by
 unfold math_xatan at hp
 refine fn_of Try.func99 rfl Try.ntmps99 rfl fun E hM => ?_
 refine cr fun K1 hK1 => ?_
 refine s0 (rd_assign' rfl) ?_
 refine nk hK1 ?_
 refine cr fun K2 hK2 => ?_
 refine s0 (rd_move' rfl) ?_
 refine s0 (rd_move' rfl) ?_
 obtain ⟨r6, hr6, hp⟩ := bind_some hp
 refine sx_ox' (ox_fop' (.inr (.inr (.inl rfl))) (fl_v rfl) (fl_v rfl) (Option.some.inj hr6) rfl rfl) (wt_none' rfl) fun _ => ?_
 refine s0 (rd_assign' rfl) ?_
 refine nk hK2 ?_
 refine cr fun K3 hK3 => ?_
 refine s0 (rd_move' rfl) ?_
 refine s0 (rd_move' rfl) ?_
 obtain ⟨r9, hr9, hp⟩ := bind_some hp
 refine sx_ox' (ox_fop' (.inr (.inr (.inl rfl))) (fl_v rfl) (fl_f rfl) (Option.some.inj hr9) rfl rfl) (wt_none' rfl) fun _ => ?_
 obtain ⟨r10, hr10, hp⟩ := bind_some hp
 refine sx_ox' (ox_fop' (.inl rfl) (fl_f rfl) (fl_v rfl) (Option.some.inj hr10) rfl rfl) (wt_none' rfl) fun _ => ?_
 refine s0 (rd_move' rfl) ?_
 obtain ⟨r12, hr12, hp⟩ := bind_some hp
 refine sx_ox' (ox_fop' (.inr (.inr (.inl rfl))) (fl_f rfl) (fl_f rfl) (Option.some.inj hr12) rfl rfl) (wt_none' rfl) fun _ => ?_
 obtain ⟨r13, hr13, hp⟩ := bind_some hp
 refine sx_ox' (ox_fop' (.inl rfl) (fl_f rfl) (fl_v rfl) (Option.some.inj hr13) rfl rfl) (wt_none' rfl) fun _ => ?_
 refine s0 (rd_move' rfl) ?_
 obtain ⟨r15, hr15, hp⟩ := bind_some hp
 refine sx_ox' (ox_fop' (.inr (.inr (.inl rfl))) (fl_f rfl) (fl_f rfl) (Option.some.inj hr15) rfl rfl) (wt_none' rfl) fun _ => ?_
 obtain ⟨r16, hr16, hp⟩ := bind_some hp
 refine sx_ox' (ox_fop' (.inl rfl) (fl_f rfl) (fl_v rfl) (Option.some.inj hr16) rfl rfl) (wt_none' rfl) fun _ => ?_
 refine s0 (rd_move' rfl) ?_
 obtain ⟨r18, hr18, hp⟩ := bind_some hp
 refine sx_ox' (ox_fop' (.inr (.inr (.inl rfl))) (fl_f rfl) (fl_f rfl) (Option.some.inj hr18) rfl rfl) (wt_none' rfl) fun _ => ?_
 obtain ⟨r19, hr19, hp⟩ := bind_some hp
 refine sx_ox' (ox_fop' (.inl rfl) (fl_f rfl) (fl_v rfl) (Option.some.inj hr19) rfl rfl) (wt_none' rfl) fun _ => ?_
 obtain ⟨r20, hr20, hp⟩ := bind_some hp
 refine sx_ox' (ox_fop' (.inr (.inr (.inl rfl))) (fl_f rfl) (fl_f rfl) (Option.some.inj hr20) rfl rfl) (wt_none' rfl) fun _ => ?_
 refine s0 (rd_move' rfl) ?_
 obtain ⟨r22, hr22, hp⟩ := bind_some hp
 refine sx_ox' (ox_fop' (.inl rfl) (fl_f rfl) (fl_v rfl) (Option.some.inj hr22) rfl rfl) (wt_none' rfl) fun _ => ?_
 refine s0 (rd_move' rfl) ?_
 obtain ⟨r24, hr24, hp⟩ := bind_some hp
 refine sx_ox' (ox_fop' (.inr (.inr (.inl rfl))) (fl_f rfl) (fl_f rfl) (Option.some.inj hr24) rfl rfl) (wt_none' rfl) fun _ => ?_
 obtain ⟨r25, hr25, hp⟩ := bind_some hp
 refine sx_ox' (ox_fop' (.inl rfl) (fl_f rfl) (fl_v rfl) (Option.some.inj hr25) rfl rfl) (wt_none' rfl) fun _ => ?_
 refine s0 (rd_move' rfl) ?_
 obtain ⟨r27, hr27, hp⟩ := bind_some hp
 refine sx_ox' (ox_fop' (.inr (.inr (.inl rfl))) (fl_f rfl) (fl_f rfl) (Option.some.inj hr27) rfl rfl) (wt_none' rfl) fun _ => ?_
 obtain ⟨r28, hr28, hp⟩ := bind_some hp
 refine sx_ox' (ox_fop' (.inl rfl) (fl_f rfl) (fl_v rfl) (Option.some.inj hr28) rfl rfl) (wt_none' rfl) fun _ => ?_
 refine s0 (rd_move' rfl) ?_
 obtain ⟨r30, hr30, hp⟩ := bind_some hp
 refine sx_ox' (ox_fop' (.inr (.inr (.inl rfl))) (fl_f rfl) (fl_f rfl) (Option.some.inj hr30) rfl rfl) (wt_none' rfl) fun _ => ?_
 obtain ⟨r31, hr31, hp⟩ := bind_some hp
 refine sx_ox' (ox_fop' (.inl rfl) (fl_f rfl) (fl_v rfl) (Option.some.inj hr31) rfl rfl) (wt_none' rfl) fun _ => ?_
 refine s0 (rd_move' rfl) ?_
 obtain ⟨r33, hr33, hp⟩ := bind_some hp
 refine sx_ox' (ox_fop' (.inr (.inr (.inl rfl))) (fl_f rfl) (fl_f rfl) (Option.some.inj hr33) rfl rfl) (wt_none' rfl) fun _ => ?_
 obtain ⟨r34, hr34, hp⟩ := bind_some hp
 refine sx_ox' (ox_fop' (.inl rfl) (fl_f rfl) (fl_v rfl) (Option.some.inj hr34) rfl rfl) (wt_none' rfl) fun _ => ?_
 obtain ⟨r35, hr35, hp⟩ := bind_some hp
 refine sx_ox' (ox_fop' (.inr (.inr (.inr rfl))) (fl_f rfl) (fl_f rfl) (Option.some.inj hr35) rfl rfl) (wt_none' rfl) fun _ => ?_
 refine s0 (rd_assign' rfl) ?_
 refine nk hK3 ?_
 refine cr fun K4 hK4 => ?_
 refine s0 (rd_move' rfl) ?_
 refine s0 (rd_move' rfl) ?_
 obtain ⟨r38, hr38, hp⟩ := bind_some hp
 refine sx_ox' (ox_fop' (.inr (.inr (.inl rfl))) (fl_v rfl) (fl_f rfl) (Option.some.inj hr38) rfl rfl) (wt_none' rfl) fun _ => ?_
 refine s0 (rd_move' rfl) ?_
 obtain ⟨r40, hr40, hp⟩ := bind_some hp
 refine sx_ox' (ox_fop' (.inl rfl) (fl_f rfl) (fl_v rfl) (Option.some.inj hr40) rfl rfl) (wt_none' rfl) fun _ => ?_
 refine s0 (rd_assign' rfl) ?_
 refine nk hK4 ?_
 refine cr fun K5 hK5 => ?_
 refine s0 (rd_move' rfl) ?_
 refine s0 (rd_assign' rfl) ?_
 refine nk hK5 ?_
 refine cx_retc' ?_
 replace hp := Option.some.inj hp
 subst hp
 refine tx_pick' (L' := [(2, (Fl r40))]) (H' := []) [] (sub_cons rfl sub_nil) (by decide) pick_nil ?_
 exact tx_ret1' Try.results99 rfl () (rv_tmp' rfl) (List.Sublist.refl _)

def math_satan (k : Nat) (a0 : Nat) : Option (Nat) :=
 br (fle a0 4604119971053405471)
  ((math_xatan k a0) >>= fun r6 =>
  some r6)
  (br (fgt a0 4612618744449965542)
   ((some (gdiv 4607182418800017408 a0)) >>= fun r10 =>
   (num r10) >>= fun u1 =>
   (math_xatan k r10) >>= fun r11 =>
   (some (gsub 4609753056924675352 r11)) >>= fun r12 =>
   (some (gadd r12 4364452196894661639)) >>= fun r13 =>
   some r13)
   ((some (gsub a0 4607182418800017408)) >>= fun r15 =>
   (some (gadd a0 4607182418800017408)) >>= fun r17 =>
   (some (gdiv r15 r17)) >>= fun r18 =>
   (num r18) >>= fun u2 =>
   (math_xatan k r18) >>= fun r19 =>
   (some (gadd 4605249457297304856 r19)) >>= fun r20 =>
   (some (gadd r20 4359948597267291143)) >>= fun r21 =>
   some r21))

theorem math_satan_sim {k : Nat}  (a0 : Nat) {out : Nat} (hp : math_satan k a0 = some out) : Sx.Fn Try.prog 96 [(Vg a0)] [] (fun w : Unit => (Fl out)) (fun w => []) := by
 unfold math_satan at hp
 refine fn_of Try.func96 rfl Try.ntmps96 rfl fun E hM => ?_
 refine cr fun K1 hK1 => ?_
 refine s0 (rd_assign' rfl) ?_
 refine nk hK1 ?_
 refine cx_seq' fun K2 hK2 => ?_
 refine cr fun K3 hK3 => ?_
 refine s0 (rd_move' rfl) ?_
 refine s0 (rd_bin' rfl rfl eg_flt ru_fle) ?_
 refine nk hK3 ?_
 refine cx_cond' rfl (fun h1 => ?_) (fun h1 => ?_)
 ·replace hp := (br_t h1).symm.trans hp
  refine cr fun K4 hK4 => ?_
  refine s0 (rd_move' rfl) ?_
  obtain ⟨r6, hr6, hp⟩ := bind_some hp
  refine sx_ox' (ox_calln' (ent_fn' Try.func99 isn99 rfl rfl) (math_xatan_sim _ hr6 : Sx.Fn Try.prog 99 [(Vg a0)] [] (fun x : Unit => (Fl r6)) (fun x => [])) (Hn := fun x : Unit => []) (fun _ => rfl) rfl rfl) (wt_none' rfl) fun ⟨⟩ => ?_
  refine s0 (rd_assign' rfl) ?_
  refine nk hK4 ?_
  refine cx_retc' ?_
  replace hp := Option.some.inj hp
  subst hp
  refine tx_pick' (L' := [(2, (Fl r6))]) (H' := []) [] (sub_cons rfl sub_nil) (by decide) pick_nil ?_
  exact tx_ret1' Try.results96 rfl () (rv_tmp' rfl) (List.Sublist.refl _)
 replace hp := (br_f h1).symm.trans hp
 refine cx_skip' ?_
 show TX E K2 _
 refine tx_k' hK2 ?_
 refine cx_seq' fun K5 hK5 => ?_
 refine cr fun K6 hK6 => ?_
 refine s0 (rd_move' rfl) ?_
 refine s0 (rd_bin' rfl rfl eg_flt ru_fgt) ?_
 refine nk hK6 ?_
 refine cx_cond' rfl (fun h2 => ?_) (fun h2 => ?_)
 ·replace hp := (br_t h2).symm.trans hp
  refine cr fun K7 hK7 => ?_
  refine s0 (rd_move' rfl) ?_
  obtain ⟨r10, hr10, hp⟩ := bind_some hp
  refine sx_ox' (ox_fop' (.inr (.inr (.inr rfl))) (fl_v rfl) (fl_v rfl) (Option.some.inj hr10) rfl rfl) (wt_none' rfl) fun _ => ?_
  obtain ⟨u1, hu1, hp⟩ := bind_some hp
  refine tx_slot' 10 (y := (Vg r10)) rfl (imp_num (num_some hu1).2) ?_
  obtain ⟨r11, hr11, hp⟩ := bind_some hp
  refine sx_ox' (ox_calln' (ent_fn' Try.func99 isn99 rfl rfl) (math_xatan_sim _ hr11 : Sx.Fn Try.prog 99 [(Vg r10)] [] (fun x : Unit => (Fl r11)) (fun x => [])) (Hn := fun x : Unit => []) (fun _ => rfl) rfl rfl) (wt_none' rfl) fun ⟨⟩ => ?_
  obtain ⟨r12, hr12, hp⟩ := bind_some hp
  refine sx_ox' (ox_fop' (.inr (.inl rfl)) (fl_v rfl) (fl_f rfl) (Option.some.inj hr12) rfl rfl) (wt_none' rfl) fun _ => ?_
  obtain ⟨r13, hr13, hp⟩ := bind_some hp
  refine sx_ox' (ox_fop' (.inl rfl) (fl_f rfl) (fl_v rfl) (Option.some.inj hr13) rfl rfl) (wt_none' rfl) fun _ => ?_
  refine s0 (rd_assign' rfl) ?_
  refine nk hK7 ?_
  refine cx_retc' ?_
  replace hp := Option.some.inj hp
  subst hp
  refine tx_pick' (L' := [(2, (Fl r13))]) (H' := []) [] (sub_cons rfl sub_nil) (by decide) pick_nil ?_
  exact tx_ret1' Try.results96 rfl () (rv_tmp' rfl) (List.Sublist.refl _)
 replace hp := (br_f h2).symm.trans hp
 refine cx_skip' ?_
 show TX E K5 _
 refine tx_k' hK5 ?_
 refine cr fun K8 hK8 => ?_
 refine s0 (rd_move' rfl) ?_
 obtain ⟨r15, hr15, hp⟩ := bind_some hp
 refine sx_ox' (ox_fop' (.inr (.inl rfl)) (fl_v rfl) (fl_v rfl) (Option.some.inj hr15) rfl rfl) (wt_none' rfl) fun _ => ?_
 refine s0 (rd_move' rfl) ?_
 obtain ⟨r17, hr17, hp⟩ := bind_some hp
 refine sx_ox' (ox_fop' (.inl rfl) (fl_v rfl) (fl_v rfl) (Option.some.inj hr17) rfl rfl) (wt_none' rfl) fun _ => ?_
 obtain ⟨r18, hr18, hp⟩ := bind_some hp
 refine sx_ox' (ox_fop' (.inr (.inr (.inr rfl))) (fl_f rfl) (fl_f rfl) (Option.some.inj hr18) rfl rfl) (wt_none' rfl) fun _ => ?_
 obtain ⟨u2, hu2, hp⟩ := bind_some hp
 refine tx_slot' 18 (y := (Vg r18)) rfl (imp_num (num_some hu2).2) ?_
 obtain ⟨r19, hr19, hp⟩ := bind_some hp
 refine sx_ox' (ox_calln' (ent_fn' Try.func99 isn99 rfl rfl) (math_xatan_sim _ hr19 : Sx.Fn Try.prog 99 [(Vg r18)] [] (fun x : Unit => (Fl r19)) (fun x => [])) (Hn := fun x : Unit => []) (fun _ => rfl) rfl rfl) (wt_none' rfl) fun ⟨⟩ => ?_
 obtain ⟨r20, hr20, hp⟩ := bind_some hp
 refine sx_ox' (ox_fop' (.inl rfl) (fl_v rfl) (fl_f rfl) (Option.some.inj hr20) rfl rfl) (wt_none' rfl) fun _ => ?_
 obtain ⟨r21, hr21, hp⟩ := bind_some hp
 refine sx_ox' (ox_fop' (.inl rfl) (fl_f rfl) (fl_v rfl) (Option.some.inj hr21) rfl rfl) (wt_none' rfl) fun _ => ?_
 refine s0 (rd_assign' rfl) ?_
 refine nk hK8 ?_
 refine cx_retc' ?_
 replace hp := Option.some.inj hp
 subst hp
 refine tx_pick' (L' := [(2, (Fl r21))]) (H' := []) [] (sub_cons rfl sub_nil) (by decide) pick_nil ?_
 exact tx_ret1' Try.results96 rfl () (rv_tmp' rfl) (List.Sublist.refl _)

def math_atan (k : Nat) (a0 : Nat) : Option (Nat) :=
 br (feq a0 0)
  (some a0)
  (br (fgt a0 0)
   ((math_satan k a0) >>= fun r9 =>
   some r9)
   ((math_satan k (fneg a0)) >>= fun r12 =>
   some (fneg r12)))

theorem math_atan_sim {k : Nat}  (a0 : Nat) {out : Nat} (hp : math_atan k a0 = some out) : Sx.Fn Try.prog 94 [(Vg a0)] [] (fun w : Unit => (Fl out)) (fun w => []) := by
 unfold math_atan at hp
 refine fn_of Try.func94 rfl Try.ntmps94 rfl fun E hM => ?_
 refine cr fun K1 hK1 => ?_
 refine s0 (rd_assign' rfl) ?_
 refine nk hK1 ?_
 refine cx_seq' fun K2 hK2 => ?_
 refine cr fun K3 hK3 => ?_
 refine s0 (rd_move' rfl) ?_
 refine s0 (rd_bin' rfl rfl eg_flt ru_feq) ?_
 refine nk hK3 ?_
 refine cx_cond' rfl (fun h1 => ?_) (fun h1 => ?_)
 ·replace hp := (br_t h1).symm.trans hp
  refine cr fun K4 hK4 => ?_
  refine s0 (rd_move' rfl) ?_
  refine s0 (rd_assign' rfl) ?_
  refine nk hK4 ?_
  refine cx_retc' ?_
  replace hp := Option.some.inj hp
  subst hp
  refine tx_pick' (L' := [(2, (Vg a0))]) (H' := []) [] (sub_cons rfl sub_nil) (by decide) pick_nil ?_
  exact tx_ret1' Try.results94 rfl () (rv_imp' (x := (Vg a0)) (y := (Fl a0)) (rv_tmp' rfl) imp_vf) (List.Sublist.refl _)
 replace hp := (br_f h1).symm.trans hp
 refine cx_skip' ?_
 show TX E K2 _
 refine tx_k' hK2 ?_
 refine cx_seq' fun K5 hK5 => ?_
 refine cr fun K6 hK6 => ?_
 refine s0 (rd_move' rfl) ?_
 refine s0 (rd_bin' rfl rfl eg_flt ru_fgt) ?_
 refine nk hK6 ?_
 refine cx_cond' rfl (fun h2 => ?_) (fun h2 => ?_)
 ·replace hp := (br_t h2).symm.trans hp
  refine cr fun K7 hK7 => ?_
  refine s0 (rd_move' rfl) ?_
  obtain ⟨r9, hr9, hp⟩ := bind_some hp
  refine sx_ox' (ox_calln' (ent_fn' Try.func96 isn96 rfl rfl) (math_satan_sim _ hr9 : Sx.Fn Try.prog 96 [(Vg a0)] [] (fun x : Unit => (Fl r9)) (fun x => [])) (Hn := fun x : Unit => []) (fun _ => rfl) rfl rfl) (wt_none' rfl) fun ⟨⟩ => ?_
  refine s0 (rd_assign' rfl) ?_
  refine nk hK7 ?_
  refine cx_retc' ?_
  replace hp := Option.some.inj hp
  subst hp
  refine tx_pick' (L' := [(2, (Fl r9))]) (H' := []) [] (sub_cons rfl sub_nil) (by decide) pick_nil ?_
  exact tx_ret1' Try.results94 rfl () (rv_tmp' rfl) (List.Sublist.refl _)
 replace hp := (br_f h2).symm.trans hp
 refine cx_skip' ?_
 show TX E K5 _
 refine tx_k' hK5 ?_
 refine cr fun K8 hK8 => ?_
 refine s0 (rd_move' rfl) ?_
 refine s0 (rd_un' rfl ru_fneg) ?_
 obtain ⟨r12, hr12, hp⟩ := bind_some hp
 refine sx_ox' (ox_calln' (ent_fn' Try.func96 isn96 rfl rfl) (math_satan_sim _ hr12 : Sx.Fn Try.prog 96 [(Vg (fneg a0))] [] (fun x : Unit => (Fl r12)) (fun x => [])) (Hn := fun x : Unit => []) (fun _ => rfl) rfl rfl) (wt_none' rfl) fun ⟨⟩ => ?_
 refine s0 (rd_fneg_fl' (fl_f rfl)) ?_
 refine s0 (rd_assign' rfl) ?_
 refine nk hK8 ?_
 refine cx_retc' ?_
 replace hp := Option.some.inj hp
 subst hp
 refine tx_pick' (L' := [(2, (Fl (fneg r12)))]) (H' := []) [] (sub_cons rfl sub_nil) (by decide) pick_nil ?_
 exact tx_ret1' Try.results94 rfl () (rv_tmp' rfl) (List.Sublist.refl _)

def math_Atan (k : Nat) (a0 : Nat) : Option (Nat) :=
 (math_atan k a0) >>= fun r6 =>
 some r6

theorem math_Atan_sim {k : Nat}  (a0 : Nat) {out : Nat} (hp : math_Atan k a0 = some out) : Sx.Fn Try.prog 84 [(Vg a0)] [] (fun w : Unit => (Fl out)) (fun w => []) := by
 unfold math_Atan at hp
 refine fn_of Try.func84 rfl Try.ntmps84 rfl fun E hM => ?_
 refine cr fun K1 hK1 => ?_
 refine s0 (rd_assign' rfl) ?_
 refine nk hK1 ?_
 refine cx_seq' fun K2 hK2 => ?_
 refine cx_cond_f' rfl rfl ?_
 refine cx_skip' ?_
 show TX E K2 _
 refine tx_k' hK2 ?_
 refine cr fun K3 hK3 => ?_
 refine s0 (rd_move' rfl) ?_
 obtain ⟨r6, hr6, hp⟩ := bind_some hp
 refine sx_ox' (ox_calln' (ent_fn' Try.func94 isn94 rfl rfl) (math_atan_sim _ hr6 : Sx.Fn Try.prog 94 [(Vg a0)] [] (fun x : Unit => (Fl r6)) (fun x => [])) (Hn := fun x : Unit => []) (fun _ => rfl) rfl rfl) (wt_none' rfl) fun ⟨⟩ => ?_
 refine s0 (rd_assign' rfl) ?_
 refine nk hK3 ?_
 refine cx_retc' ?_
 replace hp := Option.some.inj hp
 subst hp
 refine tx_pick' (L' := [(2, (Fl r6))]) (H' := []) [] (sub_cons rfl sub_nil) (by decide) pick_nil ?_
 exact tx_ret1' Try.results84 rfl () (rv_tmp' rfl) (List.Sublist.refl _)

def math_atan2_j2 (k : Nat) (a0 : Nat) (x2 : Bool) : Option (Nat) :=
 br x2
  ((math_Copysign k 0 a0) >>= fun r25 =>
  some r25)
  ((math_Copysign k 4614256656552045848 a0) >>= fun r27 =>
  some r27)
def math_atan2_j1 (k : Nat) (a0 : Nat) (a1 : Nat) (x1 : Bool) : Option (Nat) :=
 br x1
  ((math_NaN k) >>= fun r13 =>
  some r13)
  (br (feq a0 0)
   (br (fge a1 0)
    ((math_Signbit k a1) >>= fun r21 =>
    math_atan2_j2 k a0 (!r21))
    (math_atan2_j2 k a0 false))
   (br (feq a1 0)
    ((math_Copysign k 4609753056924675352 a0) >>= fun r32 =>
    some r32)
    ((math_IsInf k a1 0) >>= fun r35 =>
    br r35
     ((math_IsInf k a1 1) >>= fun r37 =>
     br r37
      ((math_IsInf k a0 0) >>= fun r42 =>
      br r42
       ((math_Copysign k 4605249457297304856 a0) >>= fun r44 =>
       some r44)
       ((math_Copysign k 0 a0) >>= fun r39 =>
       some r39))
      ((math_IsInf k a0 0) >>= fun r49 =>
      br r49
       ((math_Copysign k 4612488097114038738 a0) >>= fun r51 =>
       some r51)
       ((math_Copysign k 4614256656552045848 a0) >>= fun r46 =>
       some r46)))
     ((math_IsInf k a0 0) >>= fun r54 =>
     br r54
      ((math_Copysign k 4609753056924675352 a0) >>= fun r56 =>
      some r56)
      ((some (gdiv a0 a1)) >>= fun r59 =>
      (num r59) >>= fun u1 =>
      (math_Atan k r59) >>= fun r60 =>
      br (flt a1 0)
       (br (fle r60 0)
        ((some (gadd r60 4614256656552045848)) >>= fun r66 =>
        some r66)
        ((some (gsub r60 4614256656552045848)) >>= fun r68 =>
        some r68))
       (some r60))))))
def math_atan2 (k : Nat) (a0 : Nat) (a1 : Nat) : Option (Nat) :=
 (math_IsNaN k a0) >>= fun r8 =>
 br r8
  (math_atan2_j1 k a0 a1 true)
  ((math_IsNaN k a1) >>= fun r11 =>
  math_atan2_j1 k a0 a1 r11)

theorem math_atan2_sim {k : Nat}  (a0 : Nat) (a1 : Nat) {out : Nat} (hp : math_atan2 k a0 a1 = some out) : Sx.Fn Try.prog 68 [(Vg a0), (Vg a1)] [] (fun w : Unit => (Fl out)) (fun w => []) := by
 unfold math_atan2 at hp
 refine fn_of Try.func68 rfl Try.ntmps68 rfl fun E hM => ?_
 refine cr fun K1 hK1 => ?_
 refine s0 (rd_assign' rfl) ?_
 refine nk hK1 ?_
 refine cx_seq' fun K2 hK2 => ?_
 refine cx_block' ?_
 refine cr fun K3 hK3 => ?_
 refine s0 (rd_move' rfl) ?_
 obtain ⟨r8, hr8, hp⟩ := bind_some hp
 refine sx_ox' (ox_calln' (ent_fn' Try.func47 isn47 rfl rfl) (math_IsNaN_sim _ hr8 : Sx.Fn Try.prog 47 [(Vg a0)] [] (fun x : Unit => (Vb r8)) (fun x => [])) (Hn := fun x : Unit => []) (fun _ => rfl) rfl rfl) (wt_none' rfl) fun ⟨⟩ => ?_
 refine s0 (rd_move' rfl) ?_
 refine sx_cutn' 3 (fun (v1 : Bool) => (⟨70, [], [(0, (Vg a0)), (1, (Vg a1)), (12, (Vb v1))], []⟩ : St)) (fun (v1 : Bool) => math_atan2_j1 k a0 a1 v1 = some out) ?_ ?_
 ·rintro x1 hp
  replace hp : math_atan2_j1 k a0 a1 x1 = some out := hp
  unfold math_atan2_j1 at hp
  refine s0 (rd_assign' rfl) ?_
  refine nk hK3 ?_
  refine cx_cond' rfl (fun h2 => ?_) (fun h2 => ?_)
  ·replace hp := (br_t h2).symm.trans hp
   refine cr fun K5 hK5 => ?_
   obtain ⟨r13, hr13, hp⟩ := bind_some hp
   refine sx_ox' (ox_calln' (ent_fn' Try.func80 isn80 rfl rfl) (math_NaN_sim hr13 : Sx.Fn Try.prog 80 [] [] (fun x : Unit => (Vg r13)) (fun x => [])) (Hn := fun x : Unit => []) (fun _ => rfl) rfl rfl) (wt_none' rfl) fun ⟨⟩ => ?_
   refine s0 (rd_assign' rfl) ?_
   refine nk hK5 ?_
   refine cx_retc' ?_
   replace hp := Option.some.inj hp
   subst hp
   refine tx_pick' (L' := [(4, (Vg r13))]) (H' := []) [] (sub_cons rfl sub_nil) (by decide) pick_nil ?_
   exact tx_ret1' Try.results68 rfl () (rv_imp' (x := (Vg r13)) (y := (Fl r13)) (rv_tmp' rfl) imp_vf) (List.Sublist.refl _)
  replace hp := (br_f h2).symm.trans hp
  refine cr fun K6 hK6 => ?_
  refine s0 (rd_move' rfl) ?_
  refine s0 (rd_bin' rfl rfl eg_flt ru_feq) ?_
  refine s0 (rd_assign' rfl) ?_
  refine nk hK6 ?_
  refine cx_cond' rfl (fun h3 => ?_) (fun h3 => ?_)
  ·replace hp := (br_t h3).symm.trans hp
   refine cx_seq' fun K7 hK7 => ?_
   refine cr fun K8 hK8 => ?_
   refine s0 (rd_move' rfl) ?_
   refine s0 (rd_bin' rfl rfl eg_flt ru_fge) ?_
   refine s0 (rd_move' rfl) ?_
   refine sx_cutn' 4 (fun (v2 : Bool) => (⟨70, [], [(0, (Vg a0)), (23, (Vb v2))], []⟩ : St)) (fun (v2 : Bool) => math_atan2_j2 k a0 v2 = some out) ?_ ?_
   ·rintro x2 hp
    replace hp : math_atan2_j2 k a0 x2 = some out := hp
    unfold math_atan2_j2 at hp
    refine nk hK8 ?_
    refine cx_cond' rfl (fun h5 => ?_) (fun h5 => ?_)
    ·replace hp := (br_t h5).symm.trans hp
     refine cr fun K10 hK10 => ?_
     refine s0 (rd_move' rfl) ?_
     obtain ⟨r25, hr25, hp⟩ := bind_some hp
     refine sx_ox' (ox_calln' (ent_fn' Try.func83 isn83 rfl rfl) (math_Copysign_sim _ _ hr25 : Sx.Fn Try.prog 83 [(Vg 0), (Vg a0)] [] (fun x : Unit => (Vg r25)) (fun x => [])) (Hn := fun x : Unit => []) (fun _ => rfl) rfl rfl) (wt_none' rfl) fun ⟨⟩ => ?_
     refine s0 (rd_assign' rfl) ?_
     refine nk hK10 ?_
     refine cx_retc' ?_
     replace hp := Option.some.inj hp
     subst hp
     refine tx_pick' (L' := [(4, (Vg r25))]) (H' := []) [] (sub_cons rfl sub_nil) (by decide) pick_nil ?_
     exact tx_ret1' Try.results68 rfl () (rv_imp' (x := (Vg r25)) (y := (Fl r25)) (rv_tmp' rfl) imp_vf) (List.Sublist.refl _)
    replace hp := (br_f h5).symm.trans hp
    refine cx_skip' ?_
    show TX E K7 _
    refine tx_k' hK7 ?_
    refine cr fun K11 hK11 => ?_
    refine s0 (rd_move' rfl) ?_
    obtain ⟨r27, hr27, hp⟩ := bind_some hp
    refine sx_ox' (ox_calln' (ent_fn' Try.func83 isn83 rfl rfl) (math_Copysign_sim _ _ hr27 : Sx.Fn Try.prog 83 [(Vg 4614256656552045848), (Vg a0)] [] (fun x : Unit => (Vg r27)) (fun x => [])) (Hn := fun x : Unit => []) (fun _ => rfl) rfl rfl) (wt_none' rfl) fun ⟨⟩ => ?_
    refine s0 (rd_assign' rfl) ?_
    refine nk hK11 ?_
    refine cx_retc' ?_
    replace hp := Option.some.inj hp
    subst hp
    refine tx_pick' (L' := [(4, (Vg r27))]) (H' := []) [] (sub_cons rfl sub_nil) (by decide) pick_nil ?_
    exact tx_ret1' Try.results68 rfl () (rv_imp' (x := (Vg r27)) (y := (Fl r27)) (rv_tmp' rfl) imp_vf) (List.Sublist.refl _)
   intro K9 hK9
   rcases br_cases hp with ⟨h4, hp⟩ | ⟨h4, hp⟩
   ·refine sx_rd' (rd_move' rfl) rfl rfl (wt_is' (wt_guard' rfl rfl rfl) (beq_tt h4)) ?_
    obtain ⟨r21, hr21, hp⟩ := bind_some hp
    refine sx_ox' (ox_calln' (ent_fn' Try.func82 isn82 rfl rfl) (math_Signbit_sim _ hr21 : Sx.Fn Try.prog 82 [(Vg a1)] [] (fun x : Unit => (Vb r21)) (fun x => [])) (Hn := fun x : Unit => []) (fun _ => rfl) rfl rfl) (wt_is' (wt_guard' rfl rfl rfl) (beq_tt h4)) fun ⟨⟩ => ?_
    refine sx_rd' (rd_un' rfl ru_not) rfl rfl (wt_is' (wt_guard' rfl rfl rfl) (beq_tt h4)) ?_
    refine s0 (rd_pick_true' rfl h4 rfl) ?_
    refine sx_nil' ?_
    show TX E K9 _
    exact tx_pick' [] (sub_cons rfl (sub_cons rfl sub_nil)) (by decide) pick_nil (hK9 (!r21) hp)
   refine sx_skip' rfl rfl (wt_is' (wt_guard' rfl rfl rfl) (beq_ft h4)) ?_
   refine sx_skip' rfl rfl (wt_is' (wt_guard' rfl rfl rfl) (beq_ft h4)) ?_
   refine sx_skip' rfl rfl (wt_is' (wt_guard' rfl rfl rfl) (beq_ft h4)) ?_
   refine s0 (rd_pick_false' rfl h4 rfl) ?_
   refine sx_nil' ?_
   show TX E K9 _
   exact tx_pick' [] (sub_cons rfl (sub_cons rfl sub_nil)) (by decide) pick_nil (hK9 false hp)
  replace hp := (br_f h3).symm.trans hp
  refine cr fun K12 hK12 => ?_
  refine s0 (rd_move' rfl) ?_
  refine s0 (rd_bin' rfl rfl eg_flt ru_feq) ?_
  refine s0 (rd_assign' rfl) ?_
  refine nk hK12 ?_
  refine cx_cond' rfl (fun h6 => ?_) (fun h6 => ?_)
  ·replace hp := (br_t h6).symm.trans hp
   refine cr fun K13 hK13 => ?_
   refine s0 (rd_move' rfl) ?_
   obtain ⟨r32, hr32, hp⟩ := bind_some hp
   refine sx_ox' (ox_calln' (ent_fn' Try.func83 isn83 rfl rfl) (math_Copysign_sim _ _ hr32 : Sx.Fn Try.prog 83 [(Vg 4609753056924675352), (Vg a0)] [] (fun x : Unit => (Vg r32)) (fun x => [])) (Hn := fun x : Unit => []) (fun _ => rfl) rfl rfl) (wt_none' rfl) fun ⟨⟩ => ?_
   refine s0 (rd_assign' rfl) ?_
   refine nk hK13 ?_
   refine cx_retc' ?_
   replace hp := Option.some.inj hp
   subst hp
   refine tx_pick' (L' := [(4, (Vg r32))]) (H' := []) [] (sub_cons rfl sub_nil) (by decide) pick_nil ?_
   exact tx_ret1' Try.results68 rfl () (rv_imp' (x := (Vg r32)) (y := (Fl r32)) (rv_tmp' rfl) imp_vf) (List.Sublist.refl _)
  replace hp := (br_f h6).symm.trans hp
  refine cr fun K14 hK14 => ?_
  refine s0 (rd_move' rfl) ?_
  obtain ⟨r35, hr35, hp⟩ := bind_some hp
  refine sx_ox' (ox_calln' (ent_fn' Try.func79 isn79 rfl rfl) (math_IsInf_sim _ _ hr35 : Sx.Fn Try.prog 79 [(Vg a1), (Vi 0)] [] (fun x : Unit => (Vb r35)) (fun x => [])) (Hn := fun x : Unit => []) (fun _ => rfl) rfl rfl) (wt_none' rfl) fun ⟨⟩ => ?_
  refine s0 (rd_assign' rfl) ?_
  refine nk hK14 ?_
  refine cx_cond' rfl (fun h7 => ?_) (fun h7 => ?_)
  ·replace hp := (br_t h7).symm.trans hp
   refine cx_seq' fun K15 hK15 => ?_
   refine cr fun K16 hK16 => ?_
   refine s0 (rd_move' rfl) ?_
   obtain ⟨r37, hr37, hp⟩ := bind_some hp
   refine sx_ox' (ox_calln' (ent_fn' Try.func79 isn79 rfl rfl) (math_IsInf_sim _ _ hr37 : Sx.Fn Try.prog 79 [(Vg a1), (Vi 1)] [] (fun x : Unit => (Vb r37)) (fun x => [])) (Hn := fun x : Unit => []) (fun _ => rfl) rfl rfl) (wt_none' rfl) fun ⟨⟩ => ?_
   refine nk hK16 ?_
   refine cx_cond' rfl (fun h8 => ?_) (fun h8 => ?_)
   ·replace hp := (br_t h8).symm.trans hp
    refine cx_block' ?_
    refine cr fun K17 hK17 => ?_
    refine s0 (rd_move' rfl) ?_
    obtain ⟨r42, hr42, hp⟩ := bind_some hp
    refine sx_ox' (ox_calln' (ent_fn' Try.func79 isn79 rfl rfl) (math_IsInf_sim _ _ hr42 : Sx.Fn Try.prog 79 [(Vg a0), (Vi 0)] [] (fun x : Unit => (Vb r42)) (fun x => [])) (Hn := fun x : Unit => []) (fun _ => rfl) rfl rfl) (wt_none' rfl) fun ⟨⟩ => ?_
    refine s0 (rd_assign' rfl) ?_
    refine nk hK17 ?_
    refine cx_cond' rfl (fun h9 => ?_) (fun h9 => ?_)
    ·replace hp := (br_t h9).symm.trans hp
     refine cr fun K18 hK18 => ?_
     refine s0 (rd_move' rfl) ?_
     obtain ⟨r44, hr44, hp⟩ := bind_some hp
     refine sx_ox' (ox_calln' (ent_fn' Try.func83 isn83 rfl rfl) (math_Copysign_sim _ _ hr44 : Sx.Fn Try.prog 83 [(Vg 4605249457297304856), (Vg a0)] [] (fun x : Unit => (Vg r44)) (fun x => [])) (Hn := fun x : Unit => []) (fun _ => rfl) rfl rfl) (wt_none' rfl) fun ⟨⟩ => ?_
     refine s0 (rd_assign' rfl) ?_
     refine nk hK18 ?_
     refine cx_retc' ?_
     replace hp := Option.some.inj hp
     subst hp
     refine tx_pick' (L' := [(4, (Vg r44))]) (H' := []) [] (sub_cons rfl sub_nil) (by decide) pick_nil ?_
     exact tx_ret1' Try.results68 rfl () (rv_imp' (x := (Vg r44)) (y := (Fl r44)) (rv_tmp' rfl) imp_vf) (List.Sublist.refl _)
    replace hp := (br_f h9).symm.trans hp
    refine cr fun K19 hK19 => ?_
    refine s0 (rd_move' rfl) ?_
    obtain ⟨r39, hr39, hp⟩ := bind_some hp
    refine sx_ox' (ox_calln' (ent_fn' Try.func83 isn83 rfl rfl) (math_Copysign_sim _ _ hr39 : Sx.Fn Try.prog 83 [(Vg 0), (Vg a0)] [] (fun x : Unit => (Vg r39)) (fun x => [])) (Hn := fun x : Unit => []) (fun _ => rfl) rfl rfl) (wt_none' rfl) fun ⟨⟩ => ?_
    refine s0 (rd_assign' rfl) ?_
    refine nk hK19 ?_
    refine cx_retc' ?_
    replace hp := Option.some.inj hp
    subst hp
    refine tx_pick' (L' := [(4, (Vg r39))]) (H' := []) [] (sub_cons rfl sub_nil) (by decide) pick_nil ?_
    exact tx_ret1' Try.results68 rfl () (rv_imp' (x := (Vg r39)) (y := (Fl r39)) (rv_tmp' rfl) imp_vf) (List.Sublist.refl _)
   replace hp := (br_f h8).symm.trans hp
   refine cx_skip' ?_
   show TX E K15 _
   refine tx_k' hK15 ?_
   refine cx_block' ?_
   refine cr fun K20 hK20 => ?_
   refine s0 (rd_move' rfl) ?_
   obtain ⟨r49, hr49, hp⟩ := bind_some hp
   refine sx_ox' (ox_calln' (ent_fn' Try.func79 isn79 rfl rfl) (math_IsInf_sim _ _ hr49 : Sx.Fn Try.prog 79 [(Vg a0), (Vi 0)] [] (fun x : Unit => (Vb r49)) (fun x => [])) (Hn := fun x : Unit => []) (fun _ => rfl) rfl rfl) (wt_none' rfl) fun ⟨⟩ => ?_
   refine s0 (rd_assign' rfl) ?_
   refine nk hK20 ?_
   refine cx_cond' rfl (fun h10 => ?_) (fun h10 => ?_)
   ·replace hp := (br_t h10).symm.trans hp
    refine cr fun K21 hK21 => ?_
    refine s0 (rd_move' rfl) ?_
    obtain ⟨r51, hr51, hp⟩ := bind_some hp
    refine sx_ox' (ox_calln' (ent_fn' Try.func83 isn83 rfl rfl) (math_Copysign_sim _ _ hr51 : Sx.Fn Try.prog 83 [(Vg 4612488097114038738), (Vg a0)] [] (fun x : Unit => (Vg r51)) (fun x => [])) (Hn := fun x : Unit => []) (fun _ => rfl) rfl rfl) (wt_none' rfl) fun ⟨⟩ => ?_
    refine s0 (rd_assign' rfl) ?_
    refine nk hK21 ?_
    refine cx_retc' ?_
    replace hp := Option.some.inj hp
    subst hp
    refine tx_pick' (L' := [(4, (Vg r51))]) (H' := []) [] (sub_cons rfl sub_nil) (by decide) pick_nil ?_
    exact tx_ret1' Try.results68 rfl () (rv_imp' (x := (Vg r51)) (y := (Fl r51)) (rv_tmp' rfl) imp_vf) (List.Sublist.refl _)
   replace hp := (br_f h10).symm.trans hp
   refine cr fun K22 hK22 => ?_
   refine s0 (rd_move' rfl) ?_
   obtain ⟨r46, hr46, hp⟩ := bind_some hp
   refine sx_ox' (ox_calln' (ent_fn' Try.func83 isn83 rfl rfl) (math_Copysign_sim _ _ hr46 : Sx.Fn Try.prog 83 [(Vg 4614256656552045848), (Vg a0)] [] (fun x : Unit => (Vg r46)) (fun x => [])) (Hn := fun x : Unit => []) (fun _ => rfl) rfl rfl) (wt_none' rfl) fun ⟨⟩ => ?_
   refine s0 (rd_assign' rfl) ?_
   refine nk hK22 ?_
   refine cx_retc' ?_
   replace hp := Option.some.inj hp
   subst hp
   refine tx_pick' (L' := [(4, (Vg r46))]) (H' := []) [] (sub_cons rfl sub_nil) (by decide) pick_nil ?_
   exact tx_ret1' Try.results68 rfl () (rv_imp' (x := (Vg r46)) (y := (Fl r46)) (rv_tmp' rfl) imp_vf) (List.Sublist.refl _)
  replace hp := (br_f h7).symm.trans hp
  refine cr fun K23 hK23 => ?_
  refine s0 (rd_move' rfl) ?_
  obtain ⟨r54, hr54, hp⟩ := bind_some hp
  refine sx_ox' (ox_calln' (ent_fn' Try.func79 isn79 rfl rfl) (math_IsInf_sim _ _ hr54 : Sx.Fn Try.prog 79 [(Vg a0), (Vi 0)] [] (fun x : Unit => (Vb r54)) (fun x => [])) (Hn := fun x : Unit => []) (fun _ => rfl) rfl rfl) (wt_none' rfl) fun ⟨⟩ => ?_
  refine s0 (rd_assign' rfl) ?_
  refine nk hK23 ?_
  refine cx_cond' rfl (fun h11 => ?_) (fun h11 => ?_)
  ·replace hp := (br_t h11).symm.trans hp
   refine cr fun K24 hK24 => ?_
   refine s0 (rd_move' rfl) ?_
   obtain ⟨r56, hr56, hp⟩ := bind_some hp
   refine sx_ox' (ox_calln' (ent_fn' Try.func83 isn83 rfl rfl) (math_Copysign_sim _ _ hr56 : Sx.Fn Try.prog 83 [(Vg 4609753056924675352), (Vg a0)] [] (fun x : Unit => (Vg r56)) (fun x => [])) (Hn := fun x : Unit => []) (fun _ => rfl) rfl rfl) (wt_none' rfl) fun ⟨⟩ => ?_
   refine s0 (rd_assign' rfl) ?_
   refine nk hK24 ?_
   refine cx_retc' ?_
   replace hp := Option.some.inj hp
   subst hp
   refine tx_pick' (L' := [(4, (Vg r56))]) (H' := []) [] (sub_cons rfl sub_nil) (by decide) pick_nil ?_
   exact tx_ret1' Try.results68 rfl () (rv_imp' (x := (Vg r56)) (y := (Fl r56)) (rv_tmp' rfl) imp_vf) (List.Sublist.refl _)
  replace hp := (br_f h11).symm.trans hp
  refine cx_skip' ?_
  show TX E K2 _
  refine tx_k' hK2 ?_
  refine cr fun K25 hK25 => ?_
  refine s0 (rd_move' rfl) ?_
  refine s0 (rd_move' rfl) ?_
  obtain ⟨r59, hr59, hp⟩ := bind_some hp
  refine sx_ox' (ox_fop' (.inr (.inr (.inr rfl))) (fl_v rfl) (fl_v rfl) (Option.some.inj hr59) rfl rfl) (wt_none' rfl) fun _ => ?_
  obtain ⟨u1, hu1, hp⟩ := bind_some hp
  refine tx_slot' 59 (y := (Vg r59)) rfl (imp_num (num_some hu1).2) ?_
  obtain ⟨r60, hr60, hp⟩ := bind_some hp
  refine sx_ox' (ox_calln' (ent_fn' Try.func84 isn84 rfl rfl) (math_Atan_sim _ hr60 : Sx.Fn Try.prog 84 [(Vg r59)] [] (fun x : Unit => (Fl r60)) (fun x => [])) (Hn := fun x : Unit => []) (fun _ => rfl) rfl rfl) (wt_none' rfl) fun ⟨⟩ => ?_
  refine s0 (rd_assign' rfl) ?_
  refine nk hK25 ?_
  refine cx_seq' fun K26 hK26 => ?_
  refine cr fun K27 hK27 => ?_
  refine s0 (rd_move' rfl) ?_
  refine s0 (rd_bin' rfl rfl eg_flt ru_flt) ?_
  refine nk hK27 ?_
  refine cx_cond' rfl (fun h12 => ?_) (fun h12 => ?_)
  ·replace hp := (br_t h12).symm.trans hp
   refine cx_seq' fun K28 hK28 => ?_
   refine cr fun K29 hK29 => ?_
   refine s0 (rd_move' rfl) ?_
   refine s0 (rd_fcmp' (fl_f rfl) (fl_v rfl) rfl) ?_
   refine nk hK29 ?_
   refine cx_cond' rfl (fun h13 => ?_) (fun h13 => ?_)
   ·replace hp := (br_t h13).symm.trans hp
    refine cr fun K30 hK30 => ?_
    refine s0 (rd_move' rfl) ?_
    obtain ⟨r66, hr66, hp⟩ := bind_some hp
    refine sx_ox' (ox_fop' (.inl rfl) (fl_f rfl) (fl_v rfl) (Option.some.inj hr66) rfl rfl) (wt_none' rfl) fun _ => ?_
    refine s0 (rd_assign' rfl) ?_
    refine nk hK30 ?_
    refine cx_retc' ?_
    replace hp := Option.some.inj hp
    subst hp
    refine tx_pick' (L' := [(4, (Fl r66))]) (H' := []) [] (sub_cons rfl sub_nil) (by decide) pick_nil ?_
    exact tx_ret1' Try.results68 rfl () (rv_tmp' rfl) (List.Sublist.refl _)
   replace hp := (br_f h13).symm.trans hp
   refine cx_skip' ?_
   show TX E K28 _
   refine tx_k' hK28 ?_
   refine cr fun K31 hK31 => ?_
   refine s0 (rd_move' rfl) ?_
   obtain ⟨r68, hr68, hp⟩ := bind_some hp
   refine sx_ox' (ox_fop' (.inr (.inl rfl)) (fl_f rfl) (fl_v rfl) (Option.some.inj hr68) rfl rfl) (wt_none' rfl) fun _ => ?_
   refine s0 (rd_assign' rfl) ?_
   refine nk hK31 ?_
   refine cx_retc' ?_
   replace hp := Option.some.inj hp
   subst hp
   refine tx_pick' (L' := [(4, (Fl r68))]) (H' := []) [] (sub_cons rfl sub_nil) (by decide) pick_nil ?_
   exact tx_ret1' Try.results68 rfl () (rv_tmp' rfl) (List.Sublist.refl _)
  replace hp := (br_f h12).symm.trans hp
  refine cx_skip' ?_
  show TX E K26 _
  refine tx_k' hK26 ?_
  refine cr fun K32 hK32 => ?_
  refine s0 (rd_move' rfl) ?_
  refine s0 (rd_assign' rfl) ?_
  refine nk hK32 ?_
  refine cx_retc' ?_
  replace hp := Option.some.inj hp
  subst hp
  refine tx_pick' (L' := [(4, (Fl r60))]) (H' := []) [] (sub_cons rfl sub_nil) (by decide) pick_nil ?_
  exact tx_ret1' Try.results68 rfl () (rv_tmp' rfl) (List.Sublist.refl _)
 intro K4 hK4
 rcases br_cases hp with ⟨h1, hp⟩ | ⟨h1, hp⟩
 ·refine sx_skip' rfl rfl (wt_is' (wt_guard' rfl rfl rfl) (beq_tf h1)) ?_
  refine sx_skip' rfl rfl (wt_is' (wt_guard' rfl rfl rfl) (beq_tf h1)) ?_
  refine s0 (rd_pick_true' rfl h1 rfl) ?_
  refine sx_nil' ?_
  show TX E K4 _
  exact tx_pick' [] (sub_cons rfl (sub_cons rfl (sub_cons rfl sub_nil))) (by decide) pick_nil (hK4 true hp)
 refine sx_rd' (rd_move' rfl) rfl rfl (wt_is' (wt_guard' rfl rfl rfl) (beq_ff h1)) ?_
 obtain ⟨r11, hr11, hp⟩ := bind_some hp
 refine sx_ox' (ox_calln' (ent_fn' Try.func47 isn47 rfl rfl) (math_IsNaN_sim _ hr11 : Sx.Fn Try.prog 47 [(Vg a1)] [] (fun x : Unit => (Vb r11)) (fun x => [])) (Hn := fun x : Unit => []) (fun _ => rfl) rfl rfl) (wt_is' (wt_guard' rfl rfl rfl) (beq_ff h1)) fun ⟨⟩ => ?_
 refine s0 (rd_pick_false' rfl h1 rfl) ?_
 refine sx_nil' ?_
 show TX E K4 _
 exact tx_pick' [] (sub_cons rfl (sub_cons rfl (sub_cons rfl sub_nil))) (by decide) pick_nil (hK4 r11 hp)

def math_Atan2 (k : Nat) (a0 : Nat) (a1 : Nat) : Option (Nat) :=
 (math_atan2 k a0 a1) >>= fun r10 =>
 some r10

theorem math_Atan2_sim {k : Nat}  (a0 : Nat) (a1 : Nat) {out : Nat} (hp : math_Atan2 k a0 a1 = some out) : Sx.Fn Try.prog 41 [(Vg a0), (Vg a1)] [] (fun w : Unit => (Fl out)) (fun w => []) := by
 unfold math_Atan2 at hp
 refine fn_of Try.func41 rfl Try.ntmps41 rfl fun E hM => ?_
 refine cr fun K1 hK1 => ?_
 refine s0 (rd_assign' rfl) ?_
 refine nk hK1 ?_
 refine cx_seq' fun K2 hK2 => ?_
 refine cx_cond_f' rfl rfl ?_
 refine cx_skip' ?_
 show TX E K2 _
 refine tx_k' hK2 ?_
 refine cr fun K3 hK3 => ?_
 refine s0 (rd_move' rfl) ?_
 refine s0 (rd_move' rfl) ?_
 obtain ⟨r10, hr10, hp⟩ := bind_some hp
 refine sx_ox' (ox_calln' (ent_fn' Try.func68 isn68 rfl rfl) (math_atan2_sim _ _ hr10 : Sx.Fn Try.prog 68 [(Vg a0), (Vg a1)] [] (fun x : Unit => (Fl r10)) (fun x => [])) (Hn := fun x : Unit => []) (fun _ => rfl) rfl rfl) (wt_none' rfl) fun ⟨⟩ => ?_
 refine s0 (rd_assign' rfl) ?_
 refine nk hK3 ?_
 refine cx_retc' ?_
 replace hp := Option.some.inj hp
 subst hp
 refine tx_pick' (L' := [(4, (Fl r10))]) (H' := []) [] (sub_cons rfl sub_nil) (by decide) pick_nil ?_
 exact tx_ret1' Try.results41 rfl () (rv_tmp' rfl) (List.Sublist.refl _)

def xy_Angle (k : Nat) (a0 : List Nat) (a1 : List Nat) : Option (Nat) :=
 (idx a1 0) >>= fun r8 =>
 (idx a0 0) >>= fun r11 =>
 (fsub r8 r11) >>= fun r13 =>
 (idx a1 1) >>= fun r15 =>
 (idx a0 1) >>= fun r18 =>
 (fsub r15 r18) >>= fun r20 =>
 (math_Atan2 k r20 r13) >>= fun r23 =>
 some r23

theorem xy_Angle_sim {k : Nat}  (a0 : List Nat) (a1 : List Nat) {out : Nat} (hp : xy_Angle k a0 a1 = some out) : Sx.Fn Try.prog 63 [(Sl Kf a0), (Sl Kf a1)] [] (fun w : Unit => (Fl out)) (fun w => []) := by
 unfold xy_Angle at hp
 refine fn_of Try.func63 rfl Try.ntmps63 rfl fun E hM => ?_
 refine cr fun K1 hK1 => ?_
 refine s0 (rd_assign' rfl) ?_
 refine nk hK1 ?_
 refine cx_seq' fun K2 hK2 => ?_
 refine cx_draw' mixed (by kernel_rfl) ?_
 refine qx_rd' (rd_move' rfl) rfl rfl (wt_none' rfl) ?_
 obtain ⟨r8, hr8, hp⟩ := bind_some hp
 refine qx_rd' (rd_at' (K := Kf) rfl rfl hr8 Try.underlying56 info22) rfl rfl (wt_none' rfl) ?_
 refine qx_rd' (rd_load_pt' rfl rfl flat22) rfl rfl (wt_none' rfl) ?_
 refine qx_rd' (rd_move' rfl) rfl rfl (wt_none' rfl) ?_
 obtain ⟨r11, hr11, hp⟩ := bind_some hp
 refine qx_rd' (rd_at' (K := Kf) rfl rfl hr11 Try.underlying56 info22) rfl rfl (wt_none' rfl) ?_
 refine qx_rd' (rd_load_pt' rfl rfl flat22) rfl rfl (wt_none' rfl) ?_
 obtain ⟨r13, hr13, hp⟩ := bind_some hp
 refine qx_rd' (rd_bin' rfl rfl eg_flt (ru_fsub hr13)) rfl rfl (wt_none' rfl) ?_
 refine qx_rd' (rd_assign' rfl) rfl rfl (wt_none' rfl) ?_
 refine qx_nil' ?_
 show TX E K2 _
 refine tx_k' hK2 ?_
 refine cx_seq' fun K3 hK3 => ?_
 refine cx_draw' mixed (by kernel_rfl) ?_
 refine qx_rd' (rd_move' rfl) rfl rfl (wt_none' rfl) ?_
 obtain ⟨r15, hr15, hp⟩ := bind_some hp
 refine qx_rd' (rd_at' (K := Kf) rfl rfl hr15 Try.underlying56 info22) rfl rfl (wt_none' rfl) ?_
 refine qx_rd' (rd_load_pt' rfl rfl flat22) rfl rfl (wt_none' rfl) ?_
 refine qx_rd' (rd_move' rfl) rfl rfl (wt_none' rfl) ?_
 obtain ⟨r18, hr18, hp⟩ := bind_some hp
 refine qx_rd' (rd_at' (K := Kf) rfl rfl hr18 Try.underlying56 info22) rfl rfl (wt_none' rfl) ?_
 refine qx_rd' (rd_load_pt' rfl rfl flat22) rfl rfl (wt_none' rfl) ?_
 obtain ⟨r20, hr20, hp⟩ := bind_some hp
 refine qx_rd' (rd_bin' rfl rfl eg_flt (ru_fsub hr20)) rfl rfl (wt_none' rfl) ?_
 refine qx_rd' (rd_assign' rfl) rfl rfl (wt_none' rfl) ?_
 refine qx_nil' ?_
 show TX E K3 _
 refine tx_k' hK3 ?_
 refine cr fun K4 hK4 => ?_
 refine s0 (rd_move' rfl) ?_
 refine s0 (rd_move' rfl) ?_
 obtain ⟨r23, hr23, hp⟩ := bind_some hp
 refine sx_ox' (ox_calln' (ent_fn' Try.func41 isn41 rfl rfl) (math_Atan2_sim _ _ hr23 : Sx.Fn Try.prog 41 [(Vg r20), (Vg r13)] [] (fun x : Unit => (Fl r23)) (fun x => [])) (Hn := fun x : Unit => []) (fun _ => rfl) rfl rfl) (wt_none' rfl) fun ⟨⟩ => ?_
 refine s0 (rd_assign' rfl) ?_
 refine nk hK4 ?_
 refine cx_retc' ?_
 replace hp := Option.some.inj hp
 subst hp
 refine tx_pick' (L' := [(4, (Fl r23))]) (H' := []) [] (sub_cons rfl sub_nil) (by decide) pick_nil ?_
 exact tx_ret1' Try.results63 rfl () (rv_tmp' rfl) (List.Sublist.refl _)

def xy_Normalize_l1s  (k : Nat) (rec1 : Nat → Option (Nat)) (x1 : Nat) : Option (Nat) :=
 br (fgt x1 4614256656552045848)
  ((some (gsub x1 4618760256179416344)) >>= fun r6 =>
  rec1 r6)
  (some x1)
def xy_Normalize_l1  : Nat → Nat → Option (Nat)
 | 0, _ => none
 | k + 1, v => xy_Normalize_l1s k (xy_Normalize_l1 k) v
def xy_Normalize_l2s  (k : Nat) (rec2 : Nat → Option (Nat)) (x3 : Nat) : Option (Nat) :=
 br (fle x3 13837628693406821656)
  ((some (gadd x3 4618760256179416344)) >>= fun r10 =>
  rec2 r10)
  (some x3)
def xy_Normalize_l2  : Nat → Nat → Option (Nat)
 | 0, _ => none
 | k + 1, v => xy_Normalize_l2s k (xy_Normalize_l2 k) v
def xy_Normalize (k : Nat) (a0 : Nat) : Option (Nat) :=
 (xy_Normalize_l1 k a0) >>= fun v2 =>
 (xy_Normalize_l2 k v2) >>= fun v4 =>
 some v4

theorem xy_Normalize_sim {k : Nat}  (a0 : Nat) {out : Nat} (hp : xy_Normalize k a0 = some out) : Sx.Fn Try.prog 64 [(Vg a0)] [] (fun w : Unit => (Fl out)) (fun w => []) := by
 unfold xy_Normalize at hp
 refine fn_of Try.func64 rfl Try.ntmps64 rfl fun E hM => ?_
 refine cr fun K1 hK1 => ?_
 refine s0 (rd_assign' rfl) ?_
 refine nk hK1 ?_
 refine cx_seq' fun K2 hK2 => ?_
 refine cx_block' ?_
 obtain ⟨v2, hy1, hp⟩ := bind_some hp
 refine tx_slot' 0 (y := (Fl a0)) rfl imp_vf ?_
 refine cx_loopg' (F := xy_Normalize_l1) (G := fun k R v => xy_Normalize_l1s k R v) (x := a0) (gh := ()) (fun (v1 : Nat) (w1 : Unit) => (⟨12, [], [(0, (Fl v1))], []⟩ : St)) (fun (v2 : Nat) => Zg E (Exit.exit 0) (fun (w2 : Unit) => (⟨12, [], [(0, (Fl v2))], []⟩ : St))) (fun _ => rfl) (fun _ _ => rfl) ?_ hy1 (tx_to' rfl [] (sub_cons rfl sub_nil) (by decide) pick_nil) ?_
 ·clear hp hy1
  clear v2
  intro k rec1 KY1 ih1
  rintro x1 ⟨⟩ y1 hp
  replace hp : xy_Normalize_l1s k rec1 x1 = some y1 := hp
  unfold xy_Normalize_l1s at hp
  refine cx_seq' fun K5 hK5 => ?_
  refine cr fun K6 hK6 => ?_
  refine s0 (rd_move' rfl) ?_
  refine s0 (rd_fcmp' (fl_f rfl) (fl_v rfl) rfl) ?_
  refine nk hK6 ?_
  refine cx_cond' rfl (fun h3 => ?_) (fun h3 => ?_)
  ·replace hp := (br_t h3).symm.trans hp
   refine cx_skip' ?_
   show TX E K5 _
   refine tx_k' hK5 ?_
   refine cx_block' ?_
   refine cx_region' ?_
   refine s0 (rd_move' rfl) ?_
   obtain ⟨r6, hr6, hp⟩ := bind_some hp
   refine sx_ox' (ox_fop' (.inr (.inl rfl)) (fl_f rfl) (fl_v rfl) (Option.some.inj hr6) rfl rfl) (wt_none' rfl) fun _ => ?_
   refine s0 (rd_assign' rfl) ?_
   refine sx_nil' ?_
   show TX E (KY1 _) _
   exact tx_pick' [] (sub_cons rfl sub_nil) (by decide) pick_nil (ih1 r6 () _ hp)
  replace hp := (br_f h3).symm.trans hp
  refine cx_exit' ?_
  replace hp := Option.some.inj hp
  subst hp
  show TX E (Zg E (Exit.exit 0) _ (Exit.exit 0)) _
  exact tx_zend' () rfl [] (sub_cons rfl sub_nil) (by decide) pick_nil
 refine zg_out fun w2 => ?_
 show TX E K2 _
 refine tx_k' hK2 ?_
 refine cx_seq' fun K7 hK7 => ?_
 refine cx_block' ?_
 obtain ⟨v4, hy2, hp⟩ := bind_some hp
 refine cx_loopg' (F := xy_Normalize_l2) (G := fun k R v => xy_Normalize_l2s k R v) (x := v2) (gh := ()) (fun (v3 : Nat) (w3 : Unit) => (⟨12, [], [(0, (Fl v3))], []⟩ : St)) (fun (v4 : Nat) => Zg E (Exit.exit 2) (fun (w4 : Unit) => (⟨12, [], [(0, (Fl v4))], []⟩ : St))) (fun _ => rfl) (fun _ _ => rfl) ?_ hy2 (tx_to' rfl [] (sub_cons rfl sub_nil) (by decide) pick_nil) ?_
 ·clear hp hy2
  clear v4
  intro k rec2 KY2 ih2
  rintro x3 ⟨⟩ y2 hp
  replace hp : xy_Normalize_l2s k rec2 x3 = some y2 := hp
  unfold xy_Normalize_l2s at hp
  refine cx_seq' fun K10 hK10 => ?_
  refine cr fun K11 hK11 => ?_
  refine s0 (rd_move' rfl) ?_
  refine s0 (rd_fcmp' (fl_f rfl) (fl_v rfl) rfl) ?_
  refine nk hK11 ?_
  refine cx_cond' rfl (fun h6 => ?_) (fun h6 => ?_)
  ·replace hp := (br_t h6).symm.trans hp
   refine cx_skip' ?_
   show TX E K10 _
   refine tx_k' hK10 ?_
   refine cx_block' ?_
   refine cx_region' ?_
   refine s0 (rd_move' rfl) ?_
   obtain ⟨r10, hr10, hp⟩ := bind_some hp
   refine sx_ox' (ox_fop' (.inl rfl) (fl_f rfl) (fl_v rfl) (Option.some.inj hr10) rfl rfl) (wt_none' rfl) fun _ => ?_
   refine s0 (rd_assign' rfl) ?_
   refine sx_nil' ?_
   show TX E (KY2 _) _
   exact tx_pick' [] (sub_cons rfl sub_nil) (by decide) pick_nil (ih2 r10 () _ hp)
  replace hp := (br_f h6).symm.trans hp
  refine cx_exit' ?_
  replace hp := Option.some.inj hp
  subst hp
  show TX E (Zg E (Exit.exit 2) _ (Exit.exit 2)) _
  exact tx_zend' () rfl [] (sub_cons rfl sub_nil) (by decide) pick_nil
 refine zg_out fun w4 => ?_
 show TX E K7 _
 refine tx_k' hK7 ?_
 refine cr fun K12 hK12 => ?_
 refine s0 (rd_move' rfl) ?_
 refine s0 (rd_assign' rfl) ?_
 refine nk hK12 ?_
 refine cx_retc' ?_
 replace hp := Option.some.inj hp
 subst hp
 refine tx_pick' (L' := [(2, (Fl v4))]) (H' := []) [] (sub_cons rfl sub_nil) (by decide) pick_nil ?_
 exact tx_ret1' Try.results64 rfl () (rv_tmp' rfl) (List.Sublist.refl _)

def xy_AngleBetweenOriented (k : Nat) (a0 : List Nat) (a1 : List Nat) (a2 : List Nat) : Option (Nat) :=
 (xy_Angle k a1 a0) >>= fun r12 =>
 (xy_Angle k a1 a2) >>= fun r15 =>
 (some (gsub r15 r12)) >>= fun r18 =>
 (num r18) >>= fun u1 =>
 (xy_Normalize k r18) >>= fun r20 =>
 some r20

theorem xy_AngleBetweenOriented_sim {k : Nat}  (a0 : List Nat) (a1 : List Nat) (a2 : List Nat) {out : Nat} (hp : xy_AngleBetweenOriented k a0 a1 a2 = some out) : Sx.Fn Try.prog 34 [(Sl Kf a0), (Sl Kf a1), (Sl Kf a2)] [] (fun w : Unit => (Fl out)) (fun w => []) := by
 unfold xy_AngleBetweenOriented at hp
 refine fn_of Try.func34 rfl Try.ntmps34 rfl fun E hM => ?_
 refine cr fun K1 hK1 => ?_
 refine s0 (rd_assign' rfl) ?_
 refine nk hK1 ?_
 refine cr fun K2 hK2 => ?_
 refine s0 (rd_move' rfl) ?_
 refine s0 (rd_move' rfl) ?_
 obtain ⟨r12, hr12, hp⟩ := bind_some hp
 refine sx_ox' (ox_calln' (ent_fn' Try.func63 isn63 rfl rfl) (xy_Angle_sim _ _ hr12 : Sx.Fn Try.prog 63 [(Sl Kf a1), (Sl Kf a0)] [] (fun x : Unit => (Fl r12)) (fun x => [])) (Hn := fun x : Unit => []) (fun _ => rfl) rfl rfl) (wt_none' rfl) fun ⟨⟩ => ?_
 refine s0 (rd_assign' rfl) ?_
 refine nk hK2 ?_
 refine cr fun K3 hK3 => ?_
 refine s0 (rd_move' rfl) ?_
 refine s0 (rd_move' rfl) ?_
 obtain ⟨r15, hr15, hp⟩ := bind_some hp
 refine sx_ox' (ox_calln' (ent_fn' Try.func63 isn63 rfl rfl) (xy_Angle_sim _ _ hr15 : Sx.Fn Try.prog 63 [(Sl Kf a1), (Sl Kf a2)] [] (fun x : Unit => (Fl r15)) (fun x => [])) (Hn := fun x : Unit => []) (fun _ => rfl) rfl rfl) (wt_none' rfl) fun ⟨⟩ => ?_
 refine s0 (rd_assign' rfl) ?_
 refine nk hK3 ?_
 refine cr fun K4 hK4 => ?_
 refine s0 (rd_move' rfl) ?_
 refine s0 (rd_move' rfl) ?_
 obtain ⟨r18, hr18, hp⟩ := bind_some hp
 refine sx_ox' (ox_fop' (.inr (.inl rfl)) (fl_f rfl) (fl_f rfl) (Option.some.inj hr18) rfl rfl) (wt_none' rfl) fun _ => ?_
 refine s0 (rd_assign' rfl) ?_
 refine nk hK4 ?_
 refine cr fun K5 hK5 => ?_
 refine s0 (rd_move' rfl) ?_
 obtain ⟨u1, hu1, hp⟩ := bind_some hp
 refine tx_slot' 19 (y := (Vg r18)) rfl (imp_num (num_some hu1).2) ?_
 obtain ⟨r20, hr20, hp⟩ := bind_some hp
 refine sx_ox' (ox_calln' (ent_fn' Try.func64 isn64 rfl rfl) (xy_Normalize_sim _ hr20 : Sx.Fn Try.prog 64 [(Vg r18)] [] (fun x : Unit => (Fl r20)) (fun x => [])) (Hn := fun x : Unit => []) (fun _ => rfl) rfl rfl) (wt_none' rfl) fun ⟨⟩ => ?_
 refine s0 (rd_assign' rfl) ?_
 refine nk hK5 ?_
 refine cx_retc' ?_
 replace hp := Option.some.inj hp
 subst hp
 refine tx_pick' (L' := [(6, (Fl r20))]) (H' := []) [] (sub_cons rfl sub_nil) (by decide) pick_nil ?_
 exact tx_ret1' Try.results34 rfl () (rv_tmp' rfl) (List.Sublist.refl _)

def impl_AngleBetweenOriented (k : Nat) (a0_0 : Nat) (a0_1 : Nat) (a1_0 : Nat) (a1_1 : Nat) (a2_0 : Nat) (a2_1 : Nat) : Option (Nat) :=
 (impl_coord k a0_0 a0_1) >>= fun r8 =>
 (impl_coord k a1_0 a1_1) >>= fun r10 =>
 (impl_coord k a2_0 a2_1) >>= fun r12 =>
 (xy_AngleBetweenOriented k r8 r10 r12) >>= fun r13 =>
 some r13

theorem impl_AngleBetweenOriented_sim {k : Nat}  (a0_0 : Nat) (a0_1 : Nat) (a1_0 : Nat) (a1_1 : Nat) (a2_0 : Nat) (a2_1 : Nat) {out : Nat} (hp : impl_AngleBetweenOriented k a0_0 a0_1 a1_0 a1_1 a2_0 a2_1 = some out) : Sx.Fn Try.prog 12 [(Ag [(Vg a0_0), (Vg a0_1)]), (Ag [(Vg a1_0), (Vg a1_1)]), (Ag [(Vg a2_0), (Vg a2_1)])] [] (fun w : Unit => (Fl out)) (fun w => []) := by
 unfold impl_AngleBetweenOriented at hp
 refine fn_of Try.func12 rfl Try.ntmps12 rfl fun E hM => ?_
 refine cr fun K1 hK1 => ?_
 refine sx_ox' (ox_box' rfl (lv_ag _) rfl rfl) (wt_none' rfl) fun q3 => ?_
 refine sx_ox' (ox_box' rfl (lv_ag _) rfl rfl) (wt_none' rfl) fun q4 => ?_
 refine sx_ox' (ox_box' rfl (lv_ag _) rfl rfl) (wt_none' rfl) fun q5 => ?_
 refine s0 (rd_assign' rfl) ?_
 refine nk hK1 ?_
 refine cx_seq' fun K2 hK2 => ?_
 refine cx_plan' [] [] [(0, 1), (2, 1), (4, 1), (1, 0), (3, 0), (5, 0), (6, 0), (7, 1)] mixed (by kernel_rfl) ?_
 refine px_rd' rfl (rd_load_agg' (i := 2) (o := 0) (nn := 2) rfl ⟨rfl, rfl, rfl, rfl⟩ rfl agg43 (l' := [(Vg a0_0), (Vg a0_1)]) rfl) rfl rfl (wt_none' rfl) ?_
 refine px_rd' rfl (rd_load_agg' (i := 1) (o := 0) (nn := 2) rfl ⟨rfl, rfl, rfl, rfl⟩ rfl agg43 (l' := [(Vg a1_0), (Vg a1_1)]) rfl) rfl rfl (wt_none' rfl) ?_
 refine px_rd' rfl (rd_load_agg' (i := 0) (o := 0) (nn := 2) rfl ⟨rfl, rfl, rfl, rfl⟩ rfl agg43 (l' := [(Vg a2_0), (Vg a2_1)]) rfl) rfl rfl (wt_none' rfl) ?_
 obtain ⟨r8, hr8, hp⟩ := bind_some hp
 refine px_ox' rfl (ox_calln' (ent_fn' Try.func35 isn35 rfl rfl) (impl_coord_sim _ _ hr8 : Sx.Fn Try.prog 35 [(Ag [(Vg a0_0), (Vg a0_1)])] [] (fun x : Unit => (Sl Kf r8)) (fun x => [])) (Hn := fun x : Unit => [⟨.pointer (some q5), [(Vg a2_0), (Vg a2_1)], 43, none⟩, ⟨.pointer (some q4), [(Vg a1_0), (Vg a1_1)], 43, none⟩, ⟨.pointer (some q3), [(Vg a0_0), (Vg a0_1)], 43, none⟩]) (fun _ => rfl) rfl rfl) rfl bs_nil (wt_none' rfl) fun ⟨⟩ => ?_
 obtain ⟨r10, hr10, hp⟩ := bind_some hp
 refine px_ox' rfl (ox_calln' (ent_fn' Try.func35 isn35 rfl rfl) (impl_coord_sim _ _ hr10 : Sx.Fn Try.prog 35 [(Ag [(Vg a1_0), (Vg a1_1)])] [] (fun x : Unit => (Sl Kf r10)) (fun x => [])) (Hn := fun x : Unit => [⟨.pointer (some q5), [(Vg a2_0), (Vg a2_1)], 43, none⟩, ⟨.pointer (some q4), [(Vg a1_0), (Vg a1_1)], 43, none⟩, ⟨.pointer (some q3), [(Vg a0_0), (Vg a0_1)], 43, none⟩]) (fun _ => rfl) rfl rfl) rfl bs_nil (wt_none' rfl) fun ⟨⟩ => ?_
 obtain ⟨r12, hr12, hp⟩ := bind_some hp
 refine px_ox' rfl (ox_calln' (ent_fn' Try.func35 isn35 rfl rfl) (impl_coord_sim _ _ hr12 : Sx.Fn Try.prog 35 [(Ag [(Vg a2_0), (Vg a2_1)])] [] (fun x : Unit => (Sl Kf r12)) (fun x => [])) (Hn := fun x : Unit => [⟨.pointer (some q5), [(Vg a2_0), (Vg a2_1)], 43, none⟩, ⟨.pointer (some q4), [(Vg a1_0), (Vg a1_1)], 43, none⟩, ⟨.pointer (some q3), [(Vg a0_0), (Vg a0_1)], 43, none⟩]) (fun _ => rfl) rfl rfl) rfl bs_nil (wt_none' rfl) fun ⟨⟩ => ?_
 obtain ⟨r13, hr13, hp⟩ := bind_some hp
 refine px_ox' rfl (ox_calln' (ent_fn' Try.func34 isn34 rfl rfl) (xy_AngleBetweenOriented_sim _ _ _ hr13 : Sx.Fn Try.prog 34 [(Sl Kf r8), (Sl Kf r10), (Sl Kf r12)] [] (fun x : Unit => (Fl r13)) (fun x => [])) (Hn := fun x : Unit => [⟨.pointer (some q5), [(Vg a2_0), (Vg a2_1)], 43, none⟩, ⟨.pointer (some q4), [(Vg a1_0), (Vg a1_1)], 43, none⟩, ⟨.pointer (some q3), [(Vg a0_0), (Vg a0_1)], 43, none⟩]) (fun _ => rfl) rfl rfl) rfl bs_nil (wt_none' rfl) fun ⟨⟩ => ?_
 refine px_rd' rfl (rd_assign' rfl) rfl rfl (wt_none' rfl) ?_
 refine px_nil' ?_
 show TX E K2 _
 refine tx_k' hK2 ?_
 refine cx_retc' ?_
 replace hp := Option.some.inj hp
 subst hp
 refine tx_pick' (L' := [(6, (Fl r13))]) (H' := []) [] (sub_cons rfl sub_nil) (by decide) pick_nil ?_
 exact tx_ret1' Try.results12 rfl () (rv_tmp' rfl) (List.Sublist.refl _)

def spec_trim_j2 (k : Nat) (x3 : List Int) (rec1 : (List Int) → Option ((List Int))) (x2 : Bool) : Option ((List Int)) :=
 br x2
  ((cut x3 0 (isub .i64 (x3.length : Int) 1)) >>= fun r19 =>
  rec1 r19)
  (some x3)
def spec_trim_l1s  (k : Nat) (rec1 : (List Int) → Option ((List Int))) (x3 : List Int) : Option ((List Int)) :=
 br (decide (0 < (x3.length : Int)))
  ((idx x3 (isub .i64 (x3.length : Int) 1)) >>= fun r11 =>
  spec_trim_j2 k x3 rec1 (decide (r11 = 0)))
  (spec_trim_j2 k x3 rec1 false)
def spec_trim_l1  : Nat → (List Int) → Option ((List Int))
 | 0, _ => none
 | k + 1, v => spec_trim_l1s k (spec_trim_l1 k) v
def spec_trim (k : Nat) (a0 : List Int) : Option ((List Int)) :=
 (spec_trim_l1 k a0) >>= fun v4 =>
 some v4

theorem spec_trim_sim {k : Nat}  (a0 : List Int) {out : (List Int)} (hp : spec_trim k a0 = some out) : Sx.Fn Try.prog 76 [(Sl (Ki .u32) a0)] [] (fun w : Unit => (Sl (Ki .u32) out)) (fun w => []) := by
 unfold spec_trim at hp
 refine fn_of Try.func76 rfl Try.ntmps76 rfl fun E hM => ?_
 refine cr fun K1 hK1 => ?_
 refine s0 (rd_assign' rfl) ?_
 refine nk hK1 ?_
 refine cx_seq' fun K2 hK2 => ?_
 refine cx_block' ?_
 obtain ⟨v4, hy1, hp⟩ := bind_some hp
 refine cx_loopg' (F := spec_trim_l1) (G := fun k R v => spec_trim_l1s k R v) (x := a0) (gh := ()) (fun (v2 : (List Int)) (w2 : Unit) => (⟨21, [], [(0, (Sl (Ki .u32) v2))], []⟩ : St)) (fun (v4 : (List Int)) => Zg E (Exit.exit 0) (fun (w4 : Unit) => (⟨21, [], [(0, (Sl (Ki .u32) v4))], []⟩ : St))) (fun _ => rfl) (fun _ _ => rfl) ?_ hy1 (tx_to' rfl [] (sub_cons rfl sub_nil) (by decide) pick_nil) ?_
 ·clear hp hy1
  clear v4
  intro k rec1 KY1 ih1
  rintro x3 ⟨⟩ y1 hp
  replace hp : spec_trim_l1s k rec1 x3 = some y1 := hp
  unfold spec_trim_l1s at hp
  refine cx_seq' fun K6 hK6 => ?_
  refine cr fun K7 hK7 => ?_
  refine s0 (rd_move' rfl) ?_
  refine s0 (rd_len' rfl Try.underlying30) ?_
  refine s0 (rd_bin' rfl rfl eg_int ru_gtr) ?_
  refine s0 (rd_move' rfl) ?_
  refine sx_cutn' 8 (fun (v3 : Bool) => (⟨21, [], [(0, (Sl (Ki .u32) x3)), (14, (Vb v3))], []⟩ : St)) (fun (v3 : Bool) => spec_trim_j2 k x3 rec1 v3 = some y1) ?_ ?_
  ·rintro x2 hp
   replace hp : spec_trim_j2 k x3 rec1 x2 = some y1 := hp
   unfold spec_trim_j2 at hp
   refine nk hK7 ?_
   refine cx_cond' rfl (fun h5 => ?_) (fun h5 => ?_)
   ·replace hp := (br_t h5).symm.trans hp
    refine cx_skip' ?_
    show TX E K6 _
    refine tx_k' hK6 ?_
    refine cx_block' ?_
    refine cx_region' ?_
    refine s0 (rd_move' rfl) ?_
    refine s0 (rd_move' rfl) ?_
    refine s0 (rd_len' rfl Try.underlying30) ?_
    refine s0 (rd_bin' rfl rfl eg_int ru_sub) ?_
    obtain ⟨r19, hr19, hp⟩ := bind_some hp
    refine s0 (rd_cut_h' rfl rfl hr19 Try.underlying30 info91) ?_
    refine s0 (rd_assign' rfl) ?_
    refine sx_nil' ?_
    show TX E (KY1 _) _
    exact tx_pick' [] (sub_cons rfl sub_nil) (by decide) pick_nil (ih1 r19 () _ hp)
   replace hp := (br_f h5).symm.trans hp
   refine cx_exit' ?_
   replace hp := Option.some.inj hp
   subst hp
   show TX E (Zg E (Exit.exit 0) _ (Exit.exit 0)) _
   exact tx_zend' () rfl [] (sub_cons rfl sub_nil) (by decide) pick_nil
  intro K8 hK8
  rcases br_cases hp with ⟨h4, hp⟩ | ⟨h4, hp⟩
  ·refine sx_rd' (rd_move' rfl) rfl rfl (wt_is' (wt_guard' rfl rfl rfl) (beq_tt h4)) ?_
   refine sx_rd' (rd_move' rfl) rfl rfl (wt_is' (wt_guard' rfl rfl rfl) (beq_tt h4)) ?_
   refine sx_rd' (rd_len' rfl Try.underlying30) rfl rfl (wt_is' (wt_guard' rfl rfl rfl) (beq_tt h4)) ?_
   refine sx_rd' (rd_bin' rfl rfl eg_int ru_sub) rfl rfl (wt_is' (wt_guard' rfl rfl rfl) (beq_tt h4)) ?_
   obtain ⟨r11, hr11, hp⟩ := bind_some hp
   refine sx_rd' (rd_at' (K := (Ki .u32)) rfl rfl hr11 Try.underlying30 info91) rfl rfl (wt_is' (wt_guard' rfl rfl rfl) (beq_tt h4)) ?_
   refine sx_rd' (rd_load_pt' rfl rfl flat91) rfl rfl (wt_is' (wt_guard' rfl rfl rfl) (beq_tt h4)) ?_
   refine sx_rd' (rd_bin' rfl rfl eg_int ru_eql) rfl rfl (wt_is' (wt_guard' rfl rfl rfl) (beq_tt h4)) ?_
   refine s0 (rd_pick_true' rfl h4 rfl) ?_
   refine sx_nil' ?_
   show TX E K8 _
   exact tx_pick' [] (sub_cons rfl (sub_cons rfl sub_nil)) (by decide) pick_nil (hK8 (decide (r11 = 0)) hp)
  refine sx_skip' rfl rfl (wt_is' (wt_guard' rfl rfl rfl) (beq_ft h4)) ?_
  refine sx_skip' rfl rfl (wt_is' (wt_guard' rfl rfl rfl) (beq_ft h4)) ?_
  refine sx_skip' rfl rfl (wt_is' (wt_guard' rfl rfl rfl) (beq_ft h4)) ?_
  refine sx_skip' rfl rfl (wt_is' (wt_guard' rfl rfl rfl) (beq_ft h4)) ?_
  refine sx_skip' rfl rfl (wt_is' (wt_guard' rfl rfl rfl) (beq_ft h4)) ?_
  refine sx_skip' rfl rfl (wt_is' (wt_guard' rfl rfl rfl) (beq_ft h4)) ?_
  refine sx_skip' rfl rfl (wt_is' (wt_guard' rfl rfl rfl) (beq_ft h4)) ?_
  refine s0 (rd_pick_false' rfl h4 rfl) ?_
  refine sx_nil' ?_
  show TX E K8 _
  exact tx_pick' [] (sub_cons rfl (sub_cons rfl sub_nil)) (by decide) pick_nil (hK8 false hp)
 refine zg_out fun w4 => ?_
 show TX E K2 _
 refine tx_k' hK2 ?_
 refine cr fun K9 hK9 => ?_
 refine s0 (rd_move' rfl) ?_
 refine s0 (rd_assign' rfl) ?_
 refine nk hK9 ?_
 refine cx_retc' ?_
 replace hp := Option.some.inj hp
 subst hp
 refine tx_pick' (L' := [(2, (Sl (Ki .u32) v4))]) (H' := []) [] (sub_cons rfl sub_nil) (by decide) pick_nil ?_
 exact tx_ret1' Try.results76 rfl () (rv_tmp' rfl) (List.Sublist.refl _)

def spec_WholeOf_j1 (k : Nat) (a0 : Int) (x1 : Int) : Option (Bool × (List Int)) :=
 (ishr .u64 x1 32) >>= fun r15 =>
 (spec_trim k ([icv .u32 x1, icv .u32 r15])) >>= fun r18 =>
 some (decide (a0 < 0), r18)
def spec_WholeOf (k : Nat) (a0 : Int) : Option (Bool × (List Int)) :=
 br (decide (a0 < 0))
  (spec_WholeOf_j1 k a0 (isub .u64 0 (icv .u64 a0)))
  (spec_WholeOf_j1 k a0 (icv .u64 a0))

theorem spec_WholeOf_sim {k : Nat}  (a0 : Int) {out : Bool × (List Int)} (hp : spec_WholeOf k a0 = some out) : Sx.Fn Try.prog 78 [(Vi a0)] [] (fun w : Unit => (Ag [(Vb out.1), (Sl (Ki .u32) out.2)])) (fun w => []) := by
 unfold spec_WholeOf at hp
 refine fn_of Try.func78 rfl Try.ntmps78 rfl fun E hM => ?_
 refine cr fun K1 hK1 => ?_
 refine sx_ox' (ox_alloc' info32 rfl rfl rfl rfl (l := [(Vb false), Vn]) rfl) (wt_none' rfl) fun q2 => ?_
 refine nk hK1 ?_
 refine cr fun K2 hK2 => ?_
 refine s0 (rd_move' rfl) ?_
 refine s0 (rd_conv' rfl (ru_i2i (by rw [Try.underlying2]; rfl) Try.underlying74)) ?_
 refine s0 (rd_assign' rfl) ?_
 refine nk hK2 ?_
 refine cx_join' (fun (v1 : Int) => (⟨20, [], [(0, (Vi a0)), (2, (Vp q2)), (3, (Vl (.int .u64 v1)))], [⟨.pointer (some q2), [(Vb false), Vn], 32, none⟩]⟩ : St)) (fun (v1 : Int) => spec_WholeOf_j1 k a0 v1 = some out) ?_ ?_
 ·rintro x1 hp
  replace hp : spec_WholeOf_j1 k a0 x1 = some out := hp
  unfold spec_WholeOf_j1 at hp
  refine cr fun K5 hK5 => ?_
  refine s0 (rd_move' rfl) ?_
  refine s0 (rd_bin' rfl rfl eg_int ru_lss) ?_
  refine s0 (rd_move' rfl) ?_
  refine s0 (rd_conv' rfl (ru_i2i (by rw [Try.underlying74]; rfl) Try.underlying91)) ?_
  refine s0 (rd_move' rfl) ?_
  obtain ⟨r15, hr15, hp⟩ := bind_some hp
  refine s0 (rd_bin' rfl rfl eg_int (ru_shr hr15)) ?_
  refine s0 (rd_conv' rfl (ru_i2i (by rw [Try.underlying74]; rfl) Try.underlying91)) ?_
  refine sx_ox' (ox_rowlit' (K := (Ki .u32)) (xs := [icv .u32 x1, icv .u32 r15]) (qs := [(0, [(Vl (.int .u32 (icv .u32 x1)))]), (1, [(Vl (.int .u32 (icv .u32 r15)))])]) ⟨rfl, ⟨_, rfl, (lv_vl rfl rfl)⟩, ⟨rfl, ⟨_, rfl, (lv_vl rfl rfl)⟩, trivial⟩⟩ Try.underlying30 info91 rfl rfl rfl rfl rfl (by kernel_rfl) rfl rfl rfl) (wt_none' rfl) fun g17 => ?_
  refine tx_fz' (frz_row 0 [(17, (Vl (Vs g17)), (Sl (Ki .u32) ([icv .u32 x1, icv .u32 r15])))] (K := (Ki .u32)) (xs := [icv .u32 x1, icv .u32 r15]) (by decide) rfl ⟨⟨rfl, frz_it⟩, trivial⟩ (H' := [⟨.pointer (some q2), [(Vb false), Vn], 32, none⟩]) frzH_refl) ?_
  obtain ⟨r18, hr18, hp⟩ := bind_some hp
  refine sx_ox' (ox_calln' (ent_fn' Try.func76 isn76 rfl rfl) (spec_trim_sim _ hr18 : Sx.Fn Try.prog 76 [(Sl (Ki .u32) ([icv .u32 x1, icv .u32 r15]))] [] (fun x : Unit => (Sl (Ki .u32) r18)) (fun x => [])) (Hn := fun x : Unit => [⟨.pointer (some q2), [(Vb false), Vn], 32, none⟩]) (fun _ => rfl) rfl rfl) (wt_none' rfl) fun ⟨⟩ => ?_
  refine s0 (rd_build' (pls := [(0, 1), (1, 1)]) (qs := [(0, [(Vb (decide (a0 < 0)))]), (1, [(Sl (Ki .u32) r18)])]) (r := [(Vb (decide (a0 < 0))), (Sl (Ki .u32) r18)]) ⟨rfl, ⟨_, rfl, (lv_vl rfl rfl)⟩, ⟨rfl, ⟨_, rfl, (lv_sl _ _)⟩, trivial⟩⟩ Try.underlying32 has32 places32 info32 rfl rfl rfl) ?_
  refine sx_ox' (ox_store' (i := 0) (o := 0) rfl rfl (lv_ag _) ⟨rfl, rfl, rfl, rfl⟩ rfl info32 rfl (H' := [⟨.pointer (some q2), [(Vb (decide (a0 < 0))), (Sl (Ki .u32) r18)], 32, none⟩]) rfl) (wt_none' rfl) fun _ => ?_
  refine nk hK5 ?_
  refine cx_retc' ?_
  replace hp := Option.some.inj hp
  subst hp
  refine tx_pick' (L' := [(2, (Vp q2))]) (H' := [⟨.pointer (some q2), [(Vb (decide (a0 < 0))), (Sl (Ki .u32) r18)], 32, none⟩]) [0] (sub_cons rfl sub_nil) (by decide) (pick_cons rfl pick_nil) ?_
  exact tx_ret1' Try.results78 rfl () (rv_cell_agg' (i := 0) (o := 0) (nn := 2) rfl ⟨rfl, rfl, rfl, rfl⟩ rfl agg32 rfl) (List.nil_sublist _)
 intro K3 hK3
 refine cr fun K4 hK4 => ?_
 refine s0 (rd_move' rfl) ?_
 refine s0 (rd_bin' rfl rfl eg_int ru_lss) ?_
 refine nk hK4 ?_
 refine cx_cond' rfl (fun h1 => ?_) (fun h1 => ?_)
 ·replace hp := (br_t h1).symm.trans hp
  refine cx_region' ?_
  refine s0 (rd_move' rfl) ?_
  refine s0 (rd_un' rfl ru_ineg) ?_
  refine s0 (rd_assign' rfl) ?_
  refine sx_nil' ?_
  show TX E K3 _
  exact tx_pick' [0] (sub_cons rfl (sub_cons rfl (sub_cons rfl sub_nil))) (by decide) (pick_cons rfl pick_nil) (hK3 (isub .u64 0 (icv .u64 a0)) hp)
 replace hp := (br_f h1).symm.trans hp
 refine cx_skip' ?_
 show TX E K3 _
 exact tx_pick' [0] (sub_cons rfl (sub_cons rfl (sub_cons rfl sub_nil))) (by decide) (pick_cons rfl pick_nil) (hK3 (icv .u64 a0) hp)

def spec_DyadicOf_j2 (k : Nat) (x2 : Int) (x3 : Int) : Option (Bool × (List Int) × Int) :=
 (spec_WholeOf k x3) >>= fun r29 =>
 some (r29.1, r29.2, isub .i64 x2 1075)
def spec_DyadicOf_j1 (k : Nat) (a0 : Nat) (x1 : Int) (x2 : Int) : Option (Bool × (List Int) × Int) :=
 (ishr .u64 (fbits a0) 63) >>= fun r24 =>
 br (decide (r24 = 1))
  (spec_DyadicOf_j2 k x2 (isub .i64 0 x1))
  (spec_DyadicOf_j2 k x2 x1)
def spec_DyadicOf (k : Nat) (a0 : Nat) : Option (Bool × (List Int) × Int) :=
 (ishr .u64 (fbits a0) 52) >>= fun r12 =>
 br (decide ((icv .i64 (iand .u64 r12 2047)) = 2047))
  (some (false, [], 0))
  (br (decide ((icv .i64 (iand .u64 r12 2047)) = 0))
   (spec_DyadicOf_j1 k a0 (icv .i64 (iand .u64 (fbits a0) 4503599627370495)) 1)
   (spec_DyadicOf_j1 k a0 (iadd .i64 (icv .i64 (iand .u64 (fbits a0) 4503599627370495)) 4503599627370496) (icv .i64 (iand .u64 r12 2047))))

theorem spec_DyadicOf_sim {k : Nat}  (a0 : Nat) {out : Bool × (List Int) × Int} (hp : spec_DyadicOf k a0 = some out) : Sx.Fn Try.prog 62 [(Vg a0)] [] (fun w : Unit => (Ag [(Vb out.1), (Sl (Ki .u32) out.2.1), (Vi out.2.2)])) (fun w => []) := by
 unfold spec_DyadicOf at hp
 refine fn_of Try.func62 rfl Try.ntmps62 rfl fun E hM => ?_
 refine cr fun K1 hK1 => ?_
 refine sx_ox' (ox_alloc' info34 rfl rfl rfl rfl (l := [(Vb false), Vn, (Vi 0)]) rfl) (wt_none' rfl) fun q2 => ?_
 refine nk hK1 ?_
 refine cr fun K2 hK2 => ?_
 refine s0 (rd_move' rfl) ?_
 refine s0 (rd_ext' (us := [.float .f64 a0]) rfl (ext39 ex_bits)) ?_
 refine s0 (rd_assign' rfl) ?_
 refine nk hK2 ?_
 refine cr fun K3 hK3 => ?_
 refine s0 (rd_move' rfl) ?_
 refine s0 (rd_bin' rfl rfl eg_int ru_and) ?_
 refine s0 (rd_conv' rfl (ru_i2i (by rw [Try.underlying74]; rfl) Try.underlying2)) ?_
 refine s0 (rd_move' rfl) ?_
 obtain ⟨r12, hr12, hp⟩ := bind_some hp
 refine s0 (rd_bin' rfl rfl eg_int (ru_shr hr12)) ?_
 refine s0 (rd_bin' rfl rfl eg_int ru_and) ?_
 refine s0 (rd_conv' rfl (ru_i2i (by rw [Try.underlying74]; rfl) Try.underlying3)) ?_
 refine s0 (rd_assign' rfl) ?_
 refine s0 (rd_assign' rfl) ?_
 refine nk hK3 ?_
 refine cx_join' (fun (v1 : Int × Int) => (⟨33, [], [(2, (Vp q2)), (3, (Vl (.int .u64 (fbits a0)))), (4, (Vi v1.1)), (5, (Vi v1.2))], [⟨.pointer (some q2), [(Vb false), Vn, (Vi 0)], 34, none⟩]⟩ : St)) (fun (v1 : Int × Int) => spec_DyadicOf_j1 k a0 v1.1 v1.2 = some out) ?_ ?_
 ·rintro ⟨x1, x2⟩ hp
  replace hp : spec_DyadicOf_j1 k a0 x1 x2 = some out := hp
  unfold spec_DyadicOf_j1 at hp
  refine cx_join' (fun (v2 : Int) => (⟨33, [], [(2, (Vp q2)), (4, (Vi v2)), (5, (Vi x2))], [⟨.pointer (some q2), [(Vb false), Vn, (Vi 0)], 34, none⟩]⟩ : St)) (fun (v2 : Int) => spec_DyadicOf_j2 k x2 v2 = some out) ?_ ?_
  ·rintro x3 hp
   replace hp : spec_DyadicOf_j2 k x2 x3 = some out := hp
   unfold spec_DyadicOf_j2 at hp
   refine cr fun K11 hK11 => ?_
   refine s0 (rd_move' rfl) ?_
   obtain ⟨r29, hr29, hp⟩ := bind_some hp
   refine sx_ox' (ox_calln' (ent_fn' Try.func78 isn78 rfl rfl) (spec_WholeOf_sim _ hr29 : Sx.Fn Try.prog 78 [(Vi x3)] [] (fun x : Unit => (Ag [(Vb r29.1), (Sl (Ki .u32) r29.2)])) (fun x => [])) (Hn := fun x : Unit => [⟨.pointer (some q2), [(Vb false), Vn, (Vi 0)], 34, none⟩]) (fun _ => rfl) rfl rfl) (wt_none' rfl) fun ⟨⟩ => ?_
   refine s0 (rd_move' rfl) ?_
   refine s0 (rd_bin' rfl rfl eg_int ru_sub) ?_
   refine s0 (rd_build' (pls := [(0, 2), (2, 1)]) (qs := [(0, [(Vb r29.1), (Sl (Ki .u32) r29.2)]), (1, [(Vi (isub .i64 x2 1075))])]) (r := [(Vb r29.1), (Sl (Ki .u32) r29.2), (Vi (isub .i64 x2 1075))]) ⟨rfl, ⟨_, rfl, (lv_ag _)⟩, ⟨rfl, ⟨_, rfl, (lv_vl rfl rfl)⟩, trivial⟩⟩ Try.underlying34 has34 places34 info34 rfl rfl rfl) ?_
   refine sx_ox' (ox_store' (i := 0) (o := 0) rfl rfl (lv_ag _) ⟨rfl, rfl, rfl, rfl⟩ rfl info34 rfl (H' := [⟨.pointer (some q2), [(Vb r29.1), (Sl (Ki .u32) r29.2), (Vi (isub .i64 x2 1075))], 34, none⟩]) rfl) (wt_none' rfl) fun _ => ?_
   refine nk hK11 ?_
   refine cx_retc' ?_
   replace hp := Option.some.inj hp
   subst hp
   refine tx_pick' (L' := [(2, (Vp q2))]) (H' := [⟨.pointer (some q2), [(Vb r29.1), (Sl (Ki .u32) r29.2), (Vi (isub .i64 x2 1075))], 34, none⟩]) [0] (sub_cons rfl sub_nil) (by decide) (pick_cons rfl pick_nil) ?_
   exact tx_ret1' Try.results62 rfl () (rv_cell_agg' (i := 0) (o := 0) (nn := 3) rfl ⟨rfl, rfl, rfl, rfl⟩ rfl agg34 rfl) (List.nil_sublist _)
  intro K9 hK9
  refine cr fun K10 hK10 => ?_
  refine s0 (rd_move' rfl) ?_
  obtain ⟨r24, hr24, hp⟩ := bind_some hp
  refine s0 (rd_bin' rfl rfl eg_int (ru_shr hr24)) ?_
  refine s0 (rd_bin' rfl rfl eg_int ru_eql) ?_
  refine nk hK10 ?_
  refine cx_cond' rfl (fun h3 => ?_) (fun h3 => ?_)
  ·replace hp := (br_t h3).symm.trans hp
   refine cx_region' ?_
   refine s0 (rd_move' rfl) ?_
   refine s0 (rd_un' rfl ru_ineg) ?_
   refine s0 (rd_assign' rfl) ?_
   refine sx_nil' ?_
   show TX E K9 _
   exact tx_pick' [0] (sub_cons rfl (sub_cons rfl (sub_cons rfl sub_nil))) (by decide) (pick_cons rfl pick_nil) (hK9 (isub .i64 0 x1) hp)
  replace hp := (br_f h3).symm.trans hp
  refine cx_skip' ?_
  show TX E K9 _
  exact tx_pick' [0] (sub_cons rfl (sub_cons rfl (sub_cons rfl sub_nil))) (by decide) (pick_cons rfl pick_nil) (hK9 x1 hp)
 intro K4 hK4
 refine cr fun K5 hK5 => ?_
 refine s0 (rd_move' rfl) ?_
 refine nk hK5 ?_
 refine cx_block' ?_
 refine cr fun K6 hK6 => ?_
 refine s0 (rd_bin' rfl rfl eg_int ru_eql) ?_
 refine s0 (rd_assign' rfl) ?_
 refine nk hK6 ?_
 refine cx_cond' rfl (fun h1 => ?_) (fun h1 => ?_)
 ·replace hp := (br_t h1).symm.trans hp
  refine cr fun K7 hK7 => ?_
  refine s0 (rd_build' (pls := [(0, 2), (2, 1)]) (qs := []) (r := [(Vb false), Vn, (Vi 0)]) trivial Try.underlying34 has34 places34 info34 rfl rfl rfl) ?_
  refine sx_ox' (ox_store' (i := 0) (o := 0) rfl rfl (lv_ag _) ⟨rfl, rfl, rfl, rfl⟩ rfl info34 rfl (H' := [⟨.pointer (some q2), [(Vb false), Vn, (Vi 0)], 34, none⟩]) rfl) (wt_none' rfl) fun _ => ?_
  refine nk hK7 ?_
  refine cx_retc' ?_
  replace hp := Option.some.inj hp
  subst hp
  refine tx_pick' (L' := [(2, (Vp q2))]) (H' := [⟨.pointer (some q2), [(Vb false), Vn, (Vi 0)], 34, none⟩]) [0] (sub_cons rfl sub_nil) (by decide) (pick_cons rfl pick_nil) ?_
  exact tx_ret1' Try.results62 rfl () (rv_imp' (x := (Ag [(Vb false), Vn, (Vi 0)])) (y := (Ag [(Vb false), (Sl (Ki .u32) []), (Vi 0)])) (rv_cell_agg' (i := 0) (o := 0) (nn := 3) rfl ⟨rfl, rfl, rfl, rfl⟩ rfl agg34 rfl) (imp_ag ⟨imp_refl, imp_nil, imp_refl, trivial⟩)) (List.nil_sublist _)
 replace hp := (br_f h1).symm.trans hp
 refine cr fun K8 hK8 => ?_
 refine s0 (rd_bin' rfl rfl eg_int ru_eql) ?_
 refine s0 (rd_assign' rfl) ?_
 refine nk hK8 ?_
 refine cx_cond' rfl (fun h2 => ?_) (fun h2 => ?_)
 ·replace hp := (br_t h2).symm.trans hp
  refine cx_region' ?_
  refine s0 (rd_assign' rfl) ?_
  refine sx_nil' ?_
  show TX E K4 _
  exact tx_pick' [0] (sub_cons rfl (sub_cons rfl (sub_cons rfl (sub_cons rfl sub_nil)))) (by decide) (pick_cons rfl pick_nil) (hK4 ((icv .i64 (iand .u64 (fbits a0) 4503599627370495)), 1) hp)
 replace hp := (br_f h2).symm.trans hp
 refine cx_region' ?_
 refine s0 (rd_move' rfl) ?_
 refine s0 (rd_bin' rfl rfl eg_int ru_add) ?_
 refine s0 (rd_assign' rfl) ?_
 refine sx_nil' ?_
 show TX E K4 _
 exact tx_pick' [0] (sub_cons rfl (sub_cons rfl (sub_cons rfl (sub_cons rfl sub_nil)))) (by decide) (pick_cons rfl pick_nil) (hK4 ((iadd .i64 (icv .i64 (iand .u64 (fbits a0) 4503599627370495)) 4503599627370496), (icv .i64 (iand .u64 r12 2047))) hp)

def spec_PointOf (k : Nat) (a0 : Nat) (a1 : Nat) : Option (Bool × (List Int) × Int × Bool × (List Int) × Int) :=
 (spec_DyadicOf k a0) >>= fun r6 =>
 (spec_DyadicOf k a1) >>= fun r8 =>
 some (r6.1, r6.2.1, r6.2.2, r8.1, r8.2.1, r8.2.2)

theorem spec_PointOf_sim {k : Nat}  (a0 : Nat) (a1 : Nat) {out : Bool × (List Int) × Int × Bool × (List Int) × Int} (hp : spec_PointOf k a0 a1 = some out) : Sx.Fn Try.prog 37 [(Vg a0), (Vg a1)] [] (fun w : Unit => (Ag [(Vb out.1), (Sl (Ki .u32) out.2.1), (Vi out.2.2.1), (Vb out.2.2.2.1), (Sl (Ki .u32) out.2.2.2.2.1), (Vi out.2.2.2.2.2)])) (fun w => []) := by
 unfold spec_PointOf at hp
 refine fn_of Try.func37 rfl Try.ntmps37 rfl fun E hM => ?_
 refine cr fun K1 hK1 => ?_
 refine sx_ox' (ox_alloc' info48 rfl rfl rfl rfl (l := [(Vb false), Vn, (Vi 0), (Vb false), Vn, (Vi 0)]) rfl) (wt_none' rfl) fun q4 => ?_
 refine nk hK1 ?_
 refine cr fun K2 hK2 => ?_
 refine s0 (rd_move' rfl) ?_
 obtain ⟨r6, hr6, hp⟩ := bind_some hp
 refine sx_ox' (ox_calln' (ent_fn' Try.func62 isn62 rfl rfl) (spec_DyadicOf_sim _ hr6 : Sx.Fn Try.prog 62 [(Vg a0)] [] (fun x : Unit => (Ag [(Vb r6.1), (Sl (Ki .u32) r6.2.1), (Vi r6.2.2)])) (fun x => [])) (Hn := fun x : Unit => [⟨.pointer (some q4), [(Vb false), Vn, (Vi 0), (Vb false), Vn, (Vi 0)], 48, none⟩]) (fun _ => rfl) rfl rfl) (wt_none' rfl) fun ⟨⟩ => ?_
 refine s0 (rd_move' rfl) ?_
 obtain ⟨r8, hr8, hp⟩ := bind_some hp
 refine sx_ox' (ox_calln' (ent_fn' Try.func62 isn62 rfl rfl) (spec_DyadicOf_sim _ hr8 : Sx.Fn Try.prog 62 [(Vg a1)] [] (fun x : Unit => (Ag [(Vb r8.1), (Sl (Ki .u32) r8.2.1), (Vi r8.2.2)])) (fun x => [])) (Hn := fun x : Unit => [⟨.pointer (some q4), [(Vb false), Vn, (Vi 0), (Vb false), Vn, (Vi 0)], 48, none⟩]) (fun _ => rfl) rfl rfl) (wt_none' rfl) fun ⟨⟩ => ?_
 refine s0 (rd_build' (pls := [(0, 3), (3, 3)]) (qs := [(0, [(Vb r6.1), (Sl (Ki .u32) r6.2.1), (Vi r6.2.2)]), (1, [(Vb r8.1), (Sl (Ki .u32) r8.2.1), (Vi r8.2.2)])]) (r := [(Vb r6.1), (Sl (Ki .u32) r6.2.1), (Vi r6.2.2), (Vb r8.1), (Sl (Ki .u32) r8.2.1), (Vi r8.2.2)]) ⟨rfl, ⟨_, rfl, (lv_ag _)⟩, ⟨rfl, ⟨_, rfl, (lv_ag _)⟩, trivial⟩⟩ Try.underlying48 has48 places48 info48 rfl rfl rfl) ?_
 refine sx_ox' (ox_store' (i := 0) (o := 0) rfl rfl (lv_ag _) ⟨rfl, rfl, rfl, rfl⟩ rfl info48 rfl (H' := [⟨.pointer (some q4), [(Vb r6.1), (Sl (Ki .u32) r6.2.1), (Vi r6.2.2), (Vb r8.1), (Sl (Ki .u32) r8.2.1), (Vi r8.2.2)], 48, none⟩]) rfl) (wt_none' rfl) fun _ => ?_
 refine nk hK2 ?_
 refine cx_retc' ?_
 replace hp := Option.some.inj hp
 subst hp
 refine tx_pick' (L' := [(4, (Vp q4))]) (H' := [⟨.pointer (some q4), [(Vb r6.1), (Sl (Ki .u32) r6.2.1), (Vi r6.2.2), (Vb r8.1), (Sl (Ki .u32) r8.2.1), (Vi r8.2.2)], 48, none⟩]) [0] (sub_cons rfl sub_nil) (by decide) (pick_cons rfl pick_nil) ?_
 exact tx_ret1' Try.results37 rfl () (rv_cell_agg' (i := 0) (o := 0) (nn := 6) rfl ⟨rfl, rfl, rfl, rfl⟩ rfl agg48 rfl) (List.nil_sublist _)

def laws_exactly (k : Nat) (a0_0 : Nat) (a0_1 : Nat) : Option (Bool × (List Int) × Int × Bool × (List Int) × Int) :=
 (spec_PointOf k a0_0 a0_1) >>= fun r7 =>
 some (r7.1, r7.2.1, r7.2.2.1, r7.2.2.2.1, r7.2.2.2.2.1, r7.2.2.2.2.2)

theorem laws_exactly_sim {k : Nat}  (a0_0 : Nat) (a0_1 : Nat) {out : Bool × (List Int) × Int × Bool × (List Int) × Int} (hp : laws_exactly k a0_0 a0_1 = some out) : Sx.Fn Try.prog 14 [(Ag [(Vg a0_0), (Vg a0_1)])] [] (fun w : Unit => (Ag [(Vb out.1), (Sl (Ki .u32) out.2.1), (Vi out.2.2.1), (Vb out.2.2.2.1), (Sl (Ki .u32) out.2.2.2.2.1), (Vi out.2.2.2.2.2)])) (fun w => []) := by
 unfold laws_exactly at hp
 refine fn_of Try.func14 rfl Try.ntmps14 rfl fun E hM => ?_
 refine cr fun K1 hK1 => ?_
 refine sx_ox' (ox_box' rfl (lv_ag _) rfl rfl) (wt_none' rfl) fun q1 => ?_
 refine sx_ox' (ox_alloc' info48 rfl rfl rfl rfl (l := [(Vb false), Vn, (Vi 0), (Vb false), Vn, (Vi 0)]) rfl) (wt_none' rfl) fun q2 => ?_
 refine nk hK1 ?_
 refine cr fun K2 hK2 => ?_
 refine s0 (rd_field0' rfl Try.underlying43 rfl info22 rfl) ?_
 refine s0 (rd_load' (i := 1) (o := 0) rfl ⟨rfl, rfl, rfl, rfl⟩ rfl flat22) ?_
 refine s0 (rd_field' (off := 1) rfl Try.underlying43 rfl info22 rfl) ?_
 refine s0 (rd_load' (i := 1) (o := 1) rfl ⟨rfl, rfl, rfl, rfl⟩ rfl flat22) ?_
 obtain ⟨r7, hr7, hp⟩ := bind_some hp
 refine sx_ox' (ox_calln' (ent_fn' Try.func37 isn37 rfl rfl) (spec_PointOf_sim _ _ hr7 : Sx.Fn Try.prog 37 [(Vg a0_0), (Vg a0_1)] [] (fun x : Unit => (Ag [(Vb r7.1), (Sl (Ki .u32) r7.2.1), (Vi r7.2.2.1), (Vb r7.2.2.2.1), (Sl (Ki .u32) r7.2.2.2.2.1), (Vi r7.2.2.2.2.2)])) (fun x => [])) (Hn := fun x : Unit => [⟨.pointer (some q2), [(Vb false), Vn, (Vi 0), (Vb false), Vn, (Vi 0)], 48, none⟩, ⟨.pointer (some q1), [(Vg a0_0), (Vg a0_1)], 43, none⟩]) (fun _ => rfl) rfl rfl) (wt_none' rfl) fun ⟨⟩ => ?_
 refine sx_ox' (ox_store' (i := 0) (o := 0) rfl rfl (lv_ag _) ⟨rfl, rfl, rfl, rfl⟩ rfl info48 rfl (H' := [⟨.pointer (some q2), [(Vb r7.1), (Sl (Ki .u32) r7.2.1), (Vi r7.2.2.1), (Vb r7.2.2.2.1), (Sl (Ki .u32) r7.2.2.2.2.1), (Vi r7.2.2.2.2.2)], 48, none⟩, ⟨.pointer (some q1), [(Vg a0_0), (Vg a0_1)], 43, none⟩]) rfl) (wt_none' rfl) fun _ => ?_
 refine nk hK2 ?_
 refine cx_retc' ?_
 replace hp := Option.some.inj hp
 subst hp
 refine tx_pick' (L' := [(2, (Vp q2))]) (H' := [⟨.pointer (some q2), [(Vb r7.1), (Sl (Ki .u32) r7.2.1), (Vi r7.2.2.1), (Vb r7.2.2.2.1), (Sl (Ki .u32) r7.2.2.2.2.1), (Vi r7.2.2.2.2.2)], 48, none⟩]) [0] (sub_cons rfl sub_nil) (by decide) (pick_cons rfl pick_nil) ?_
 exact tx_ret1' Try.results14 rfl () (rv_cell_agg' (i := 0) (o := 0) (nn := 6) rfl ⟨rfl, rfl, rfl, rfl⟩ rfl agg48 rfl) (List.nil_sublist _)

def spec_Whole_Minus_j1 (k : Nat) (a0_1 : List Int) (x1 : Bool) : Option (Bool × (List Int)) :=
 some (x1, a0_1)
def spec_Whole_Minus (k : Nat) (a0_0 : Bool) (a0_1 : List Int) : Option (Bool × (List Int)) :=
 br (!a0_0)
  (spec_Whole_Minus_j1 k a0_1 (decide (0 < (a0_1.length : Int))))
  (spec_Whole_Minus_j1 k a0_1 false)

theorem spec_Whole_Minus_sim {k : Nat}  (a0_0 : Bool) (a0_1 : List Int) {out : Bool × (List Int)} (hp : spec_Whole_Minus k a0_0 a0_1 = some out) : Sx.Fn Try.prog 77 [(Ag [(Vb a0_0), (Sl (Ki .u32) a0_1)])] [] (fun w : Unit => (Ag [(Vb out.1), (Sl (Ki .u32) out.2)])) (fun w => []) := by
 unfold spec_Whole_Minus at hp
 refine fn_of Try.func77 rfl Try.ntmps77 rfl fun E hM => ?_
 refine cr fun K1 hK1 => ?_
 refine sx_ox' (ox_box' rfl (lv_ag _) rfl rfl) (wt_none' rfl) fun q1 => ?_
 refine sx_ox' (ox_alloc' info32 rfl rfl rfl rfl (l := [(Vb false), Vn]) rfl) (wt_none' rfl) fun q2 => ?_
 refine nk hK1 ?_
 refine cr fun K2 hK2 => ?_
 refine s0 (rd_field0' rfl Try.underlying32 rfl info4 rfl) ?_
 refine s0 (rd_load' (i := 1) (o := 0) rfl ⟨rfl, rfl, rfl, rfl⟩ rfl flat4) ?_
 refine s0 (rd_un' rfl ru_not) ?_
 refine s0 (rd_move' rfl) ?_
 refine sx_cutn' 5 (fun (v1 : Bool) => (⟨15, [], [(1, (Vp q1)), (2, (Vp q2)), (11, (Vb v1))], [⟨.pointer (some q1), [(Vb a0_0), (Sl (Ki .u32) a0_1)], 32, none⟩, ⟨.pointer (some q2), [(Vb false), Vn], 32, none⟩]⟩ : St)) (fun (v1 : Bool) => spec_Whole_Minus_j1 k a0_1 v1 = some out) ?_ ?_
 ·rintro x1 hp
  replace hp : spec_Whole_Minus_j1 k a0_1 x1 = some out := hp
  unfold spec_Whole_Minus_j1 at hp
  refine s0 (rd_field' (off := 1) rfl Try.underlying32 rfl info30 rfl) ?_
  refine s0 (rd_load' (i := 0) (o := 1) rfl ⟨rfl, rfl, rfl, rfl⟩ rfl flat30) ?_
  refine s0 (rd_build' (pls := [(0, 1), (1, 1)]) (qs := [(0, [(Vb x1)]), (1, [(Sl (Ki .u32) a0_1)])]) (r := [(Vb x1), (Sl (Ki .u32) a0_1)]) ⟨rfl, ⟨_, rfl, (lv_vl rfl rfl)⟩, ⟨rfl, ⟨_, rfl, (lv_sl _ _)⟩, trivial⟩⟩ Try.underlying32 has32 places32 info32 rfl rfl rfl) ?_
  refine sx_ox' (ox_store' (i := 1) (o := 0) rfl rfl (lv_ag _) ⟨rfl, rfl, rfl, rfl⟩ rfl info32 rfl (H' := [⟨.pointer (some q1), [(Vb a0_0), (Sl (Ki .u32) a0_1)], 32, none⟩, ⟨.pointer (some q2), [(Vb x1), (Sl (Ki .u32) a0_1)], 32, none⟩]) rfl) (wt_none' rfl) fun _ => ?_
  refine nk hK2 ?_
  refine cx_retc' ?_
  replace hp := Option.some.inj hp
  subst hp
  refine tx_pick' (L' := [(2, (Vp q2))]) (H' := [⟨.pointer (some q2), [(Vb x1), (Sl (Ki .u32) a0_1)], 32, none⟩]) [1] (sub_cons rfl sub_nil) (by decide) (pick_cons rfl pick_nil) ?_
  exact tx_ret1' Try.results77 rfl () (rv_cell_agg' (i := 0) (o := 0) (nn := 2) rfl ⟨rfl, rfl, rfl, rfl⟩ rfl agg32 rfl) (List.nil_sublist _)
 intro K3 hK3
 rcases br_cases hp with ⟨h1, hp⟩ | ⟨h1, hp⟩
 ·refine sx_rd' (rd_field' (off := 1) rfl Try.underlying32 rfl info30 rfl) rfl rfl (wt_is' (wt_guard' rfl rfl rfl) (beq_tt h1)) ?_
  refine sx_rd' (rd_load' (i := 1) (o := 1) rfl ⟨rfl, rfl, rfl, rfl⟩ rfl flat30) rfl rfl (wt_is' (wt_guard' rfl rfl rfl) (beq_tt h1)) ?_
  refine sx_rd' (rd_len' rfl Try.underlying30) rfl rfl (wt_is' (wt_guard' rfl rfl rfl) (beq_tt h1)) ?_
  refine sx_rd' (rd_bin' rfl rfl eg_int ru_gtr) rfl rfl (wt_is' (wt_guard' rfl rfl rfl) (beq_tt h1)) ?_
  refine s0 (rd_pick_true' rfl h1 rfl) ?_
  refine sx_nil' ?_
  show TX E K3 _
  exact tx_pick' [1, 0] (sub_cons rfl (sub_cons rfl (sub_cons rfl sub_nil))) (by decide) (pick_cons rfl (pick_cons rfl pick_nil)) (hK3 (decide (0 < (a0_1.length : Int))) hp)
 refine sx_skip' rfl rfl (wt_is' (wt_guard' rfl rfl rfl) (beq_ft h1)) ?_
 refine sx_skip' rfl rfl (wt_is' (wt_guard' rfl rfl rfl) (beq_ft h1)) ?_
 refine sx_skip' rfl rfl (wt_is' (wt_guard' rfl rfl rfl) (beq_ft h1)) ?_
 refine sx_skip' rfl rfl (wt_is' (wt_guard' rfl rfl rfl) (beq_ft h1)) ?_
 refine s0 (rd_pick_false' rfl h1 rfl) ?_
 refine sx_nil' ?_
 show TX E K3 _
 exact tx_pick' [1, 0] (sub_cons rfl (sub_cons rfl (sub_cons rfl sub_nil))) (by decide) (pick_cons rfl (pick_cons rfl pick_nil)) (hK3 false hp)

def spec_Dyadic_Minus (k : Nat) (a0_0 : Bool) (a0_1 : List Int) (a0_2 : Int) : Option (Bool × (List Int) × Int) :=
 (spec_Whole_Minus k a0_0 a0_1) >>= fun r5 =>
 some (r5.1, r5.2, a0_2)

theorem spec_Dyadic_Minus_sim {k : Nat}  (a0_0 : Bool) (a0_1 : List Int) (a0_2 : Int) {out : Bool × (List Int) × Int} (hp : spec_Dyadic_Minus k a0_0 a0_1 a0_2 = some out) : Sx.Fn Try.prog 56 [(Ag [(Vb a0_0), (Sl (Ki .u32) a0_1), (Vi a0_2)])] [] (fun w : Unit => (Ag [(Vb out.1), (Sl (Ki .u32) out.2.1), (Vi out.2.2)])) (fun w => []) := by
 unfold spec_Dyadic_Minus at hp
 refine fn_of Try.func56 rfl Try.ntmps56 rfl fun E hM => ?_
 refine cr fun K1 hK1 => ?_
 refine sx_ox' (ox_box' rfl (lv_ag _) rfl rfl) (wt_none' rfl) fun q1 => ?_
 refine sx_ox' (ox_alloc' info34 rfl rfl rfl rfl (l := [(Vb false), Vn, (Vi 0)]) rfl) (wt_none' rfl) fun q2 => ?_
 refine nk hK1 ?_
 refine cx_seq' fun K2 hK2 => ?_
 refine cx_plan' [] [(6, 1)] [(0, 1), (1, 1), (3, 1), (4, 1), (2, 0), (5, 1), (6, 0)] mixed (by kernel_rfl) ?_
 refine px_rd' rfl (rd_field0' rfl Try.underlying34 rfl info32 rfl) rfl rfl (wt_none' rfl) ?_
 refine px_rd' rfl (rd_load_agg' (i := 1) (o := 0) (nn := 2) rfl ⟨rfl, rfl, rfl, rfl⟩ rfl agg32 (l' := [(Vb a0_0), (Sl (Ki .u32) a0_1)]) rfl) rfl rfl (wt_none' rfl) ?_
 refine px_rd' rfl (rd_field' (off := 2) rfl Try.underlying34 rfl info3 rfl) rfl rfl (wt_none' rfl) ?_
 refine px_rd' rfl (rd_load' (i := 1) (o := 2) rfl ⟨rfl, rfl, rfl, rfl⟩ rfl flat3) rfl rfl (wt_none' rfl) ?_
 obtain ⟨r5, hr5, hp⟩ := bind_some hp
 refine px_ox' rfl (ox_calln' (ent_fn' Try.func77 isn77 rfl rfl) (spec_Whole_Minus_sim _ _ hr5 : Sx.Fn Try.prog 77 [(Ag [(Vb a0_0), (Sl (Ki .u32) a0_1)])] [] (fun x : Unit => (Ag [(Vb r5.1), (Sl (Ki .u32) r5.2)])) (fun x => [])) (Hn := fun x : Unit => [⟨.pointer (some q2), [(Vb false), Vn, (Vi 0)], 34, none⟩, ⟨.pointer (some q1), [(Vb a0_0), (Sl (Ki .u32) a0_1), (Vi a0_2)], 34, none⟩]) (fun _ => rfl) rfl rfl) rfl bs_nil (wt_none' rfl) fun ⟨⟩ => ?_
 refine px_rd' rfl (rd_build' (pls := [(0, 2), (2, 1)]) (qs := [(0, [(Vb r5.1), (Sl (Ki .u32) r5.2)]), (1, [(Vi a0_2)])]) (r := [(Vb r5.1), (Sl (Ki .u32) r5.2), (Vi a0_2)]) ⟨rfl, ⟨_, rfl, (lv_ag _)⟩, ⟨rfl, ⟨_, rfl, (lv_vl rfl rfl)⟩, trivial⟩⟩ Try.underlying34 has34 places34 info34 rfl rfl rfl) rfl rfl (wt_none' rfl) ?_
 refine px_oxv' rfl (oxv_store (i := 0) (o := 0) rfl rfl (lv_ag _) ⟨rfl, rfl, rfl, rfl⟩ rfl info34 rfl (H' := [⟨.pointer (some q2), [(Vb r5.1), (Sl (Ki .u32) r5.2), (Vi a0_2)], 34, none⟩, ⟨.pointer (some q1), [(Vb a0_0), (Sl (Ki .u32) a0_1), (Vi a0_2)], 34, none⟩]) rfl) rfl rfl bo_nil (wt_none' rfl) fun _ => ?_
 refine px_nil' ?_
 show TX E K2 _
 refine tx_k' hK2 ?_
 refine cx_retc' ?_
 replace hp := Option.some.inj hp
 subst hp
 refine tx_pick' (L' := [(2, (Vp q2))]) (H' := [⟨.pointer (some q2), [(Vb r5.1), (Sl (Ki .u32) r5.2), (Vi a0_2)], 34, none⟩]) [0] (sub_cons rfl sub_nil) (by decide) (pick_cons rfl pick_nil) ?_
 exact tx_ret1' Try.results56 rfl () (rv_cell_agg' (i := 0) (o := 0) (nn := 3) rfl ⟨rfl, rfl, rfl, rfl⟩ rfl agg34 rfl) (List.nil_sublist _)

def spec_Whole_Sign (k : Nat) (a0_0 : Bool) (a0_1 : List Int) : Option (Int) :=
 br (decide ((a0_1.length : Int) = 0))
  (some 0)
  (br a0_0
   (some (-1))
   (some 1))

theorem spec_Whole_Sign_sim {k : Nat}  (a0_0 : Bool) (a0_1 : List Int) {out : Int} (hp : spec_Whole_Sign k a0_0 a0_1 = some out) : Sx.Fn Try.prog 57 [(Ag [(Vb a0_0), (Sl (Ki .u32) a0_1)])] [] (fun w : Unit => (Vi out)) (fun w => []) := by
 unfold spec_Whole_Sign at hp
 refine fn_of Try.func57 rfl Try.ntmps57 rfl fun E hM => ?_
 refine cr fun K1 hK1 => ?_
 refine sx_ox' (ox_box' rfl (lv_ag _) rfl rfl) (wt_none' rfl) fun q1 => ?_
 refine s0 (rd_assign' rfl) ?_
 refine nk hK1 ?_
 refine cx_seq' fun K2 hK2 => ?_
 refine cx_block' ?_
 refine cr fun K3 hK3 => ?_
 refine s0 (rd_field' (off := 1) rfl Try.underlying32 rfl info30 rfl) ?_
 refine s0 (rd_load' (i := 0) (o := 1) rfl ⟨rfl, rfl, rfl, rfl⟩ rfl flat30) ?_
 refine s0 (rd_len' rfl Try.underlying30) ?_
 refine s0 (rd_bin' rfl rfl eg_int ru_eql) ?_
 refine s0 (rd_assign' rfl) ?_
 refine nk hK3 ?_
 refine cx_cond' rfl (fun h1 => ?_) (fun h1 => ?_)
 ·replace hp := (br_t h1).symm.trans hp
  refine cr fun K4 hK4 => ?_
  refine s0 (rd_assign' rfl) ?_
  refine nk hK4 ?_
  refine cx_retc' ?_
  replace hp := Option.some.inj hp
  subst hp
  refine tx_pick' (L' := [(2, (Vi 0))]) (H' := []) [] (sub_cons rfl sub_nil) (by decide) pick_nil ?_
  exact tx_ret1' Try.results57 rfl () (rv_tmp' rfl) (List.Sublist.refl _)
 replace hp := (br_f h1).symm.trans hp
 refine cr fun K5 hK5 => ?_
 refine s0 (rd_field0' rfl Try.underlying32 rfl info4 rfl) ?_
 refine s0 (rd_load' (i := 0) (o := 0) rfl ⟨rfl, rfl, rfl, rfl⟩ rfl flat4) ?_
 refine s0 (rd_assign' rfl) ?_
 refine nk hK5 ?_
 refine cx_cond' rfl (fun h2 => ?_) (fun h2 => ?_)
 ·replace hp := (br_t h2).symm.trans hp
  refine cr fun K6 hK6 => ?_
  refine s0 (rd_assign' rfl) ?_
  refine nk hK6 ?_
  refine cx_retc' ?_
  replace hp := Option.some.inj hp
  subst hp
  refine tx_pick' (L' := [(2, (Vi (-1)))]) (H' := []) [] (sub_cons rfl sub_nil) (by decide) pick_nil ?_
  exact tx_ret1' Try.results57 rfl () (rv_tmp' rfl) (List.Sublist.refl _)
 replace hp := (br_f h2).symm.trans hp
 refine cx_skip' ?_
 show TX E K2 _
 refine tx_k' hK2 ?_
 refine cr fun K7 hK7 => ?_
 refine s0 (rd_assign' rfl) ?_
 refine nk hK7 ?_
 refine cx_retc' ?_
 replace hp := Option.some.inj hp
 subst hp
 refine tx_pick' (L' := [(2, (Vi 1))]) (H' := []) [] (sub_cons rfl sub_nil) (by decide) pick_nil ?_
 exact tx_ret1' Try.results57 rfl () (rv_tmp' rfl) (List.Sublist.refl _)

def spec_Dyadic_Sign (k : Nat) (a0_0 : Bool) (a0_1 : List Int) (a0_2 : Int) : Option (Int) :=
 (spec_Whole_Sign k a0_0 a0_1) >>= fun r5 =>
 some r5

theorem spec_Dyadic_Sign_sim {k : Nat}  (a0_0 : Bool) (a0_1 : List Int) (a0_2 : Int) {out : Int} (hp : spec_Dyadic_Sign k a0_0 a0_1 a0_2 = some out) : Sx.Fn Try.prog 28 [(Ag [(Vb a0_0), (Sl (Ki .u32) a0_1), (Vi a0_2)])] [] (fun w : Unit => (Vi out)) (fun w => []) := by
 unfold spec_Dyadic_Sign at hp
 refine fn_of Try.func28 rfl Try.ntmps28 rfl fun E hM => ?_
 refine cr fun K1 hK1 => ?_
 refine sx_ox' (ox_box' rfl (lv_ag _) rfl rfl) (wt_none' rfl) fun q1 => ?_
 refine s0 (rd_assign' rfl) ?_
 refine nk hK1 ?_
 refine cr fun K2 hK2 => ?_
 refine s0 (rd_field0' rfl Try.underlying34 rfl info32 rfl) ?_
 refine s0 (rd_load_agg' (i := 0) (o := 0) (nn := 2) rfl ⟨rfl, rfl, rfl, rfl⟩ rfl agg32 (l' := [(Vb a0_0), (Sl (Ki .u32) a0_1)]) rfl) ?_
 obtain ⟨r5, hr5, hp⟩ := bind_some hp
 refine sx_ox' (ox_calln' (ent_fn' Try.func57 isn57 rfl rfl) (spec_Whole_Sign_sim _ _ hr5 : Sx.Fn Try.prog 57 [(Ag [(Vb a0_0), (Sl (Ki .u32) a0_1)])] [] (fun x : Unit => (Vi r5)) (fun x => [])) (Hn := fun x : Unit => [⟨.pointer (some q1), [(Vb a0_0), (Sl (Ki .u32) a0_1), (Vi a0_2)], 34, none⟩]) (fun _ => rfl) rfl rfl) (wt_none' rfl) fun ⟨⟩ => ?_
 refine s0 (rd_assign' rfl) ?_
 refine nk hK2 ?_
 refine cx_retc' ?_
 replace hp := Option.some.inj hp
 subst hp
 refine tx_pick' (L' := [(2, (Vi r5))]) (H' := []) [] (sub_cons rfl sub_nil) (by decide) pick_nil ?_
 exact tx_ret1' Try.results28 rfl () (rv_tmp' rfl) (List.Sublist.refl _)

def spec_Whole_Up_l1s (a0_1 : List Int) (a1 : Int) (k : Nat) (rec1 : ((List Int) × Int × Int) → Option ((List Int) × Int)) (x1 : List Int) (x2 : Int) (x3 : Int) : Option ((List Int) × Int) :=
 br (decide (x3 < (a0_1.length : Int)))
  ((idx a0_1 x3) >>= fun r30 =>
  (irem a1 32) >>= fun r35 =>
  (ishl .u64 (icv .u64 r30) r35) >>= fun r36 =>
  (apd 4 x1 ([ior .u32 (icv .u32 r36) x2])) >>= fun r43 =>
  (ishr .u64 r36 32) >>= fun r45 =>
  rec1 (r43, (icv .u32 r45), (iadd .i64 x3 1)))
  (some (x1, x2))
def spec_Whole_Up_l1 (a0_1 : List Int) (a1 : Int) : Nat → ((List Int) × Int × Int) → Option ((List Int) × Int)
 | 0, _ => none
 | k + 1, v => spec_Whole_Up_l1s a0_1 a1 k (spec_Whole_Up_l1 a0_1 a1 k) v.1 v.2.1 v.2.2
def spec_Whole_Up (k : Nat) (a0_0 : Bool) (a0_1 : List Int) (a1 : Int) : Option (Bool × (List Int)) :=
 br (decide ((a0_1.length : Int) = 0))
  (some (a0_0, a0_1))
  ((iquo .i64 a1 32) >>= fun r16 =>
  (iquo .i64 a1 32) >>= fun r18 =>
  (mk 4 0 r16 (iadd .i64 (iadd .i64 r18 (a0_1.length : Int)) 1)) >>= fun r24 =>
  (spec_Whole_Up_l1 a0_1 a1 k (r24, 0, 0)) >>= fun v2 =>
  (apd 4 v2.1 ([v2.2])) >>= fun r53 =>
  (spec_trim k r53) >>= fun r54 =>
  some (a0_0, r54))

theorem spec_Whole_Up_sim {k : Nat}  (a0_0 : Bool) (a0_1 : List Int) (a1 : Int) {out : Bool × (List Int)} (hp : spec_Whole_Up k a0_0 a0_1 a1 = some out) : Sx.Fn Try.prog 74 [(Ag [(Vb a0_0), (Sl (Ki .u32) a0_1)]), (Vi a1)] [] (fun w : Unit => (Ag [(Vb out.1), (Sl (Ki .u32) out.2)])) (fun w => []) := by
 unfold spec_Whole_Up at hp
 refine fn_of Try.func74 rfl Try.ntmps74 rfl fun E hM => ?_
 refine cr fun K1 hK1 => ?_
 refine sx_ox' (ox_box' rfl (lv_ag _) rfl rfl) (wt_none' rfl) fun q2 => ?_
 refine sx_ox' (ox_alloc' info32 rfl rfl rfl rfl (l := [(Vb false), Vn]) rfl) (wt_none' rfl) fun q4 => ?_
 refine nk hK1 ?_
 refine cx_seq' fun K2 hK2 => ?_
 refine cr fun K3 hK3 => ?_
 refine s0 (rd_field' (off := 1) rfl Try.underlying32 rfl info30 rfl) ?_
 refine s0 (rd_load' (i := 1) (o := 1) rfl ⟨rfl, rfl, rfl, rfl⟩ rfl flat30) ?_
 refine s0 (rd_len' rfl Try.underlying30) ?_
 refine s0 (rd_bin' rfl rfl eg_int ru_eql) ?_
 refine nk hK3 ?_
 refine cx_cond' rfl (fun h1 => ?_) (fun h1 => ?_)
 ·replace hp := (br_t h1).symm.trans hp
  refine cr fun K4 hK4 => ?_
  refine s0 (rd_load_agg' (i := 1) (o := 0) (nn := 2) rfl ⟨rfl, rfl, rfl, rfl⟩ rfl agg32 (l' := [(Vb a0_0), (Sl (Ki .u32) a0_1)]) rfl) ?_
  refine sx_ox' (ox_store' (i := 0) (o := 0) rfl rfl (lv_ag _) ⟨rfl, rfl, rfl, rfl⟩ rfl info32 rfl (H' := [⟨.pointer (some q4), [(Vb a0_0), (Sl (Ki .u32) a0_1)], 32, none⟩, ⟨.pointer (some q2), [(Vb a0_0), (Sl (Ki .u32) a0_1)], 32, none⟩]) rfl) (wt_none' rfl) fun _ => ?_
  refine nk hK4 ?_
  refine cx_retc' ?_
  replace hp := Option.some.inj hp
  subst hp
  refine tx_pick' (L' := [(4, (Vp q4))]) (H' := [⟨.pointer (some q4), [(Vb a0_0), (Sl (Ki .u32) a0_1)], 32, none⟩]) [0] (sub_cons rfl sub_nil) (by decide) (pick_cons rfl pick_nil) ?_
  exact tx_ret1' Try.results74 rfl () (rv_cell_agg' (i := 0) (o := 0) (nn := 2) rfl ⟨rfl, rfl, rfl, rfl⟩ rfl agg32 rfl) (List.nil_sublist _)
 replace hp := (br_f h1).symm.trans hp
 refine cx_skip' ?_
 show TX E K2 _
 refine tx_k' hK2 ?_
 refine cr fun K5 hK5 => ?_
 refine s0 (rd_move' rfl) ?_
 obtain ⟨r16, hr16, hp⟩ := bind_some hp
 refine s0 (rd_bin' rfl rfl eg_int (ru_quo hr16)) ?_
 refine s0 (rd_move' rfl) ?_
 obtain ⟨r18, hr18, hp⟩ := bind_some hp
 refine s0 (rd_bin' rfl rfl eg_int (ru_quo hr18)) ?_
 refine s0 (rd_field' (off := 1) rfl Try.underlying32 rfl info30 rfl) ?_
 refine s0 (rd_load' (i := 1) (o := 1) rfl ⟨rfl, rfl, rfl, rfl⟩ rfl flat30) ?_
 refine s0 (rd_len' rfl Try.underlying30) ?_
 refine s0 (rd_bin' rfl rfl eg_int ru_add) ?_
 refine s0 (rd_bin' rfl rfl eg_int ru_add) ?_
 obtain ⟨r24, hr24, hp⟩ := bind_some hp
 refine sx_ox' (ox_make' (K := (Ki .u32)) rfl rfl hr24 rfl Try.underlying30 info91 rfl rfl rfl rfl rfl) (wt_none' rfl) fun g24 => ?_
 refine s0 (rd_assign' rfl) ?_
 refine nk hK5 ?_
 refine cr fun K6 hK6 => ?_
 refine s0 (rd_assign' rfl) ?_
 refine nk hK6 ?_
 refine cx_seq' fun K7 hK7 => ?_
 refine cr fun K8 hK8 => ?_
 refine s0 (rd_field' (off := 1) rfl Try.underlying32 rfl info30 rfl) ?_
 refine s0 (rd_load' (i := 2) (o := 1) rfl ⟨rfl, rfl, rfl, rfl⟩ rfl flat30) ?_
 refine s0 (rd_len' rfl Try.underlying30) ?_
 refine s0 (rd_move' rfl) ?_
 refine nk hK8 ?_
 refine cx_block' ?_
 obtain ⟨v2, hy1, hp⟩ := bind_some hp
 refine cx_loopg' (F := spec_Whole_Up_l1 a0_1 a1) (G := fun k R v => spec_Whole_Up_l1s a0_1 a1 k R v.1 v.2.1 v.2.2) (x := (r24, 0, 0)) (gh := g24) (fun (v1 : (List Int) × Int × Int) (w1 : Gs) => (⟨56, [], [(1, (Vi a1)), (2, (Vp q2)), (4, (Vp q4)), (5, (Vl (Vs w1))), (6, (Vl (.int .u32 v1.2.1))), (26, (Sl (Ki .u32) a0_1)), (27, (Vi (a0_1.length : Int))), (28, (Vi v1.2.2))], [⟨.pointer (some q2), [(Vb a0_0), (Sl (Ki .u32) a0_1)], 32, none⟩, ⟨.pointer (some q4), [(Vb false), Vn], 32, none⟩, (Rw (Ki .u32) 91 (Vs w1) v1.1)]⟩ : St)) (fun (v2 : (List Int) × Int) => Zg E (Exit.exit 0) (fun (w2 : Gs) => (⟨56, [], [(2, (Vp q2)), (4, (Vp q4)), (5, (Vl (Vs w2))), (6, (Vl (.int .u32 v2.2)))], [⟨.pointer (some q2), [(Vb a0_0), (Sl (Ki .u32) a0_1)], 32, none⟩, ⟨.pointer (some q4), [(Vb false), Vn], 32, none⟩, (Rw (Ki .u32) 91 (Vs w2) v2.1)]⟩ : St))) (fun _ => rfl) (fun _ _ => rfl) ?_ hy1 (tx_to' rfl [2, 1, 0] (sub_cons rfl (sub_cons rfl (sub_cons rfl (sub_cons rfl (sub_cons rfl (sub_cons rfl (sub_cons rfl (sub_cons rfl sub_nil)))))))) (by decide) (pick_cons rfl (pick_cons rfl (pick_cons rfl pick_nil)))) ?_
 ·clear hp hy1
  clear v2
  intro k rec1 KY1 ih1
  rintro ⟨x1, x2, x3⟩ g901 y1 hp
  replace hp : spec_Whole_Up_l1s a0_1 a1 k rec1 x1 x2 x3 = some y1 := hp
  unfold spec_Whole_Up_l1s at hp
  refine cr fun K15 hK15 => ?_
  refine s0 (rd_bin' rfl rfl eg_int ru_lss) ?_
  refine nk hK15 ?_
  refine cx_seq' fun K16 hK16 => ?_
  refine cx_cond' rfl (fun h4 => ?_) (fun h4 => ?_)
  ·replace hp := (br_t h4).symm.trans hp
   refine cx_skip' ?_
   show TX E K16 _
   refine tx_k' hK16 ?_
   refine cx_seq' fun K17 hK17 => ?_
   refine cx_block' ?_
   refine cr fun K18 hK18 => ?_
   obtain ⟨r30, hr30, hp⟩ := bind_some hp
   refine s0 (rd_at' (K := (Ki .u32)) rfl rfl hr30 Try.underlying30 info91) ?_
   refine s0 (rd_load_pt' rfl rfl flat91) ?_
   refine s0 (rd_assign' rfl) ?_
   refine nk hK18 ?_
   refine cr fun K19 hK19 => ?_
   refine s0 (rd_move' rfl) ?_
   refine s0 (rd_conv' rfl (ru_i2i (by rw [Try.underlying91]; rfl) Try.underlying74)) ?_
   refine s0 (rd_move' rfl) ?_
   obtain ⟨r35, hr35, hp⟩ := bind_some hp
   refine s0 (rd_bin' rfl rfl eg_int (ru_rem hr35)) ?_
   obtain ⟨r36, hr36, hp⟩ := bind_some hp
   refine s0 (rd_bin' rfl rfl eg_int (ru_shl hr36)) ?_
   refine s0 (rd_assign' rfl) ?_
   refine nk hK19 ?_
   refine cr fun K20 hK20 => ?_
   refine s0 (rd_move' rfl) ?_
   refine s0 (rd_move' rfl) ?_
   refine s0 (rd_conv' rfl (ru_i2i (by rw [Try.underlying74]; rfl) Try.underlying91)) ?_
   refine s0 (rd_move' rfl) ?_
   refine s0 (rd_bin' rfl rfl eg_int ru_or) ?_
   refine sx_ox' (ox_rowlit' (K := (Ki .u32)) (xs := [ior .u32 (icv .u32 r36) x2]) (qs := [(0, [(Vl (.int .u32 (ior .u32 (icv .u32 r36) x2)))])]) ⟨rfl, ⟨_, rfl, (lv_vl rfl rfl)⟩, trivial⟩ Try.underlying30 info91 rfl rfl rfl rfl rfl (by kernel_rfl) rfl rfl rfl) (wt_none' rfl) fun g42 => ?_
   obtain ⟨r43, hr43, hp⟩ := bind_some hp
   refine sx_ox' (ox_append' (K := (Ki .u32)) (i := 3) (xs := x1) (ys := ([ior .u32 (icv .u32 r36) x2])) rfl rfl rfl (sr_row' (j := 0) rfl rfl rfl Try.underlying30) hr43 Try.underlying30 info91 rfl rfl rfl (H' := [(Rw (Ki .u32) 91 (Vs g42) ([ior .u32 (icv .u32 r36) x2])), ⟨.pointer (some q2), [(Vb a0_0), (Sl (Ki .u32) a0_1)], 32, none⟩, ⟨.pointer (some q4), [(Vb false), Vn], 32, none⟩]) rfl) (wt_none' rfl) fun g43 => ?_
   refine s0 (rd_assign' rfl) ?_
   refine nk hK20 ?_
   refine cx_region' ?_
   refine s0 (rd_move' rfl) ?_
   obtain ⟨r45, hr45, hp⟩ := bind_some hp
   refine s0 (rd_bin' rfl rfl eg_int (ru_shr hr45)) ?_
   refine s0 (rd_conv' rfl (ru_i2i (by rw [Try.underlying74]; rfl) Try.underlying91)) ?_
   refine s0 (rd_assign' rfl) ?_
   refine nk hK17 ?_
   refine cx_region' ?_
   refine s0 (rd_bin' rfl rfl eg_int ru_add) ?_
   refine s0 (rd_move' rfl) ?_
   refine sx_nil' ?_
   show TX E (KY1 _) _
   exact tx_pick' [2, 3, 0] (sub_cons rfl (sub_cons rfl (sub_cons rfl (sub_cons rfl (sub_cons rfl (sub_cons rfl (sub_cons rfl (sub_cons rfl sub_nil)))))))) (by decide) (pick_cons rfl (pick_cons rfl (pick_cons rfl pick_nil))) (ih1 (r43, (icv .u32 r45), (iadd .i64 x3 1)) g43 _ hp)
  replace hp := (br_f h4).symm.trans hp
  refine cx_exit' ?_
  replace hp := Option.some.inj hp
  subst hp
  show TX E (Zg E (Exit.exit 0) _ (Exit.exit 0)) _
  exact tx_zend' g901 rfl [0, 1, 2] (sub_cons rfl (sub_cons rfl (sub_cons rfl (sub_cons rfl sub_nil)))) (by decide) (pick_cons rfl (pick_cons rfl (pick_cons rfl pick_nil)))
 refine zg_out fun w2 => ?_
 show TX E K7 _
 refine tx_k' hK7 ?_
 refine cx_seq' fun K21 hK21 => ?_
 refine cx_plan' [q2.block] [(5, 1), (8, 1)] [(0, 2), (1, 2), (2, 1), (3, 1), (4, 0), (5, 0), (6, 0), (7, 1), (8, 0)] mixed (by kernel_rfl) ?_
 refine px_rb' rfl (rb_field0' rfl Try.underlying32 rfl info4 rfl) rfl rfl (wt_none' rfl) ?_
 refine px_rb' rfl (rb_load' (i := 0) (o := 0) rfl ⟨rfl, rfl, rfl, rfl⟩ rfl flat4 (by simp)) rfl rfl (wt_none' rfl) ?_
 refine px_rd' rfl (rd_move' rfl) rfl rfl (wt_none' rfl) ?_
 refine px_rd' rfl (rd_move' rfl) rfl rfl (wt_none' rfl) ?_
 refine px_ox' rfl (ox_rowlit' (K := (Ki .u32)) (xs := [v2.2]) (qs := [(0, [(Vl (.int .u32 v2.2))])]) ⟨rfl, ⟨_, rfl, (lv_vl rfl rfl)⟩, trivial⟩ Try.underlying30 info91 rfl rfl rfl rfl rfl (by kernel_rfl) rfl rfl rfl) rfl (bs_cons (m := 0) rfl rfl rfl bs_nil) (wt_none' rfl) fun g52 => ?_
 obtain ⟨r53, hr53, hp⟩ := bind_some hp
 refine px_ox' rfl (ox_append' (K := (Ki .u32)) (i := 3) (xs := v2.1) (ys := ([v2.2])) rfl rfl rfl (sr_row' (j := 0) rfl rfl rfl Try.underlying30) hr53 Try.underlying30 info91 rfl rfl rfl (H' := [(Rw (Ki .u32) 91 (Vs g52) ([v2.2])), ⟨.pointer (some q2), [(Vb a0_0), (Sl (Ki .u32) a0_1)], 32, none⟩, ⟨.pointer (some q4), [(Vb false), Vn], 32, none⟩]) rfl) rfl (bs_cons (m := 1) rfl rfl rfl bs_nil) (wt_none' rfl) fun g53 => ?_
 refine tx_fz' (frz_row 0 [(53, (Vl (Vs g53)), (Sl (Ki .u32) r53))] (K := (Ki .u32)) (xs := r53) (by decide) rfl ⟨⟨rfl, frz_it⟩, trivial⟩ (H' := [(Rw (Ki .u32) 91 (Vs g52) ([v2.2])), ⟨.pointer (some q2), [(Vb a0_0), (Sl (Ki .u32) a0_1)], 32, none⟩, ⟨.pointer (some q4), [(Vb false), Vn], 32, none⟩]) frzH_refl) ?_
 obtain ⟨r54, hr54, hp⟩ := bind_some hp
 refine px_ox' rfl (ox_calln' (ent_fn' Try.func76 isn76 rfl rfl) (spec_trim_sim _ hr54 : Sx.Fn Try.prog 76 [(Sl (Ki .u32) r53)] [] (fun x : Unit => (Sl (Ki .u32) r54)) (fun x => [])) (Hn := fun x : Unit => [(Rw (Ki .u32) 91 (Vs g52) ([v2.2])), ⟨.pointer (some q2), [(Vb a0_0), (Sl (Ki .u32) a0_1)], 32, none⟩, ⟨.pointer (some q4), [(Vb false), Vn], 32, none⟩]) (fun _ => rfl) rfl rfl) rfl (bs_cons (m := 1) rfl rfl rfl bs_nil) (wt_none' rfl) fun ⟨⟩ => ?_
 refine px_rd' rfl (rd_build' (pls := [(0, 1), (1, 1)]) (qs := [(0, [(Vb a0_0)]), (1, [(Sl (Ki .u32) r54)])]) (r := [(Vb a0_0), (Sl (Ki .u32) r54)]) ⟨rfl, ⟨_, rfl, (lv_vl rfl rfl)⟩, ⟨rfl, ⟨_, rfl, (lv_sl _ _)⟩, trivial⟩⟩ Try.underlying32 has32 places32 info32 rfl rfl rfl) rfl rfl (wt_none' rfl) ?_
 refine px_oxv' rfl (oxv_store (i := 2) (o := 0) rfl rfl (lv_ag _) ⟨rfl, rfl, rfl, rfl⟩ rfl info32 rfl (H' := [(Rw (Ki .u32) 91 (Vs g52) ([v2.2])), ⟨.pointer (some q2), [(Vb a0_0), (Sl (Ki .u32) a0_1)], 32, none⟩, ⟨.pointer (some q4), [(Vb a0_0), (Sl (Ki .u32) r54)], 32, none⟩]) rfl) rfl rfl (bo_cons (m := 1) (by decide) rfl rfl bo_nil) (wt_none' rfl) fun _ => ?_
 refine px_nil' ?_
 show TX E K21 _
 refine tx_k' hK21 ?_
 refine cx_retc' ?_
 replace hp := Option.some.inj hp
 subst hp
 refine tx_pick' (L' := [(4, (Vp q4))]) (H' := [⟨.pointer (some q4), [(Vb a0_0), (Sl (Ki .u32) r54)], 32, none⟩]) [2] (sub_cons rfl sub_nil) (by decide) (pick_cons rfl pick_nil) ?_
 exact tx_ret1' Try.results74 rfl () (rv_cell_agg' (i := 0) (o := 0) (nn := 2) rfl ⟨rfl, rfl, rfl, rfl⟩ rfl agg32 rfl) (List.nil_sublist _)

def spec_addLimbs_j3 (k : Nat) (x5 : List Int) (rec1 : ((List Int) × Int × Int) → Option ((List Int) × Int)) (x7 : Int) (x4 : Int) : Option ((List Int) × Int) :=
 (apd 4 x5 ([icv .u32 x4])) >>= fun r47 =>
 (ishr .u64 x4 32) >>= fun r49 =>
 rec1 (r47, r49, (iadd .i64 x7 1))
def spec_addLimbs_l1s (x1 : List Int) (x2 : List Int) (k : Nat) (rec1 : ((List Int) × Int × Int) → Option ((List Int) × Int)) (x5 : List Int) (x6 : Int) (x7 : Int) : Option ((List Int) × Int) :=
 br (decide (x7 < (x1.length : Int)))
  ((idx x1 x7) >>= fun r26 =>
  br (decide (x7 < (x2.length : Int)))
   ((idx x2 x7) >>= fun r39 =>
   spec_addLimbs_j3 k x5 rec1 x7 (iadd .u64 (iadd .u64 (icv .u64 r26) x6) (icv .u64 r39)))
   (spec_addLimbs_j3 k x5 rec1 x7 (iadd .u64 (icv .u64 r26) x6)))
  (some (x5, x6))
def spec_addLimbs_l1 (x1 : List Int) (x2 : List Int) : Nat → ((List Int) × Int × Int) → Option ((List Int) × Int)
 | 0, _ => none
 | k + 1, v => spec_addLimbs_l1s x1 x2 k (spec_addLimbs_l1 x1 x2 k) v.1 v.2.1 v.2.2
def spec_addLimbs_j1 (k : Nat) (x1 : List Int) (x2 : List Int) : Option ((List Int)) :=
 (mk 4 0 0 (iadd .i64 (x1.length : Int) 1)) >>= fun r20 =>
 (spec_addLimbs_l1 x1 x2 k (r20, 0, 0)) >>= fun v5 =>
 (apd 4 v5.1 ([icv .u32 v5.2])) >>= fun r55 =>
 (spec_trim k r55) >>= fun r56 =>
 some r56
def spec_addLimbs (k : Nat) (a0 : List Int) (a1 : List Int) : Option ((List Int)) :=
 br (decide ((a0.length : Int) < (a1.length : Int)))
  (spec_addLimbs_j1 k a1 a0)
  (spec_addLimbs_j1 k a0 a1)

theorem spec_addLimbs_sim {k : Nat}  (a0 : List Int) (a1 : List Int) {out : (List Int)} (hp : spec_addLimbs k a0 a1 = some out) : Sx.Fn Try.prog 88 [(Sl (Ki .u32) a0), (Sl (Ki .u32) a1)] [] (fun w : Unit => (Sl (Ki .u32) out)) (fun w => []) := by
 unfold spec_addLimbs at hp
 refine fn_of Try.func88 rfl Try.ntmps88 rfl fun E hM => ?_
 refine cr fun K1 hK1 => ?_
 refine s0 (rd_assign' rfl) ?_
 refine nk hK1 ?_
 refine cx_join' (fun (v1 : (List Int) × (List Int)) => (⟨57, [], [(0, (Sl (Ki .u32) v1.1)), (1, (Sl (Ki .u32) v1.2))], []⟩ : St)) (fun (v1 : (List Int) × (List Int)) => spec_addLimbs_j1 k v1.1 v1.2 = some out) ?_ ?_
 ·rintro ⟨x1, x2⟩ hp
  replace hp : spec_addLimbs_j1 k x1 x2 = some out := hp
  unfold spec_addLimbs_j1 at hp
  refine cr fun K4 hK4 => ?_
  refine s0 (rd_move' rfl) ?_
  refine s0 (rd_len' rfl Try.underlying30) ?_
  refine s0 (rd_bin' rfl rfl eg_int ru_add) ?_
  obtain ⟨r20, hr20, hp⟩ := bind_some hp
  refine sx_ox' (ox_make' (K := (Ki .u32)) rfl rfl hr20 rfl Try.underlying30 info91 rfl rfl rfl rfl rfl) (wt_none' rfl) fun g20 => ?_
  refine s0 (rd_assign' rfl) ?_
  refine nk hK4 ?_
  refine cr fun K5 hK5 => ?_
  refine s0 (rd_assign' rfl) ?_
  refine nk hK5 ?_
  refine cx_seq' fun K6 hK6 => ?_
  refine cr fun K7 hK7 => ?_
  refine s0 (rd_move' rfl) ?_
  refine s0 (rd_len' rfl Try.underlying30) ?_
  refine s0 (rd_move' rfl) ?_
  refine nk hK7 ?_
  refine cx_block' ?_
  obtain ⟨v5, hy1, hp⟩ := bind_some hp
  refine cx_loopg' (F := spec_addLimbs_l1 x1 x2) (G := fun k R v => spec_addLimbs_l1s x1 x2 k R v.1 v.2.1 v.2.2) (x := (r20, 0, 0)) (gh := g20) (fun (v3 : (List Int) × Int × Int) (w3 : Gs) => (⟨57, [], [(1, (Sl (Ki .u32) x2)), (5, (Vl (Vs w3))), (6, (Vl (.int .u64 v3.2.1))), (21, (Sl (Ki .u32) x1)), (22, (Vi (x1.length : Int))), (23, (Vi v3.2.2))], [(Rw (Ki .u32) 91 (Vs w3) v3.1)]⟩ : St)) (fun (v5 : (List Int) × Int) => Zg E (Exit.exit 0) (fun (w5 : Gs) => (⟨57, [], [(5, (Vl (Vs w5))), (6, (Vl (.int .u64 v5.2)))], [(Rw (Ki .u32) 91 (Vs w5) v5.1)]⟩ : St))) (fun _ => rfl) (fun _ _ => rfl) ?_ hy1 (tx_to' rfl [0] (sub_cons rfl (sub_cons rfl (sub_cons rfl (sub_cons rfl (sub_cons rfl (sub_cons rfl sub_nil)))))) (by decide) (pick_cons rfl pick_nil)) ?_
  ·clear hp hy1
   clear v5
   intro k rec1 KY1 ih1
   rintro ⟨x5, x6, x7⟩ g901 y1 hp
   replace hp : spec_addLimbs_l1s x1 x2 k rec1 x5 x6 x7 = some y1 := hp
   unfold spec_addLimbs_l1s at hp
   refine cr fun K16 hK16 => ?_
   refine s0 (rd_bin' rfl rfl eg_int ru_lss) ?_
   refine nk hK16 ?_
   refine cx_seq' fun K17 hK17 => ?_
   refine cx_cond' rfl (fun h5 => ?_) (fun h5 => ?_)
   ·replace hp := (br_t h5).symm.trans hp
    refine cx_skip' ?_
    show TX E K17 _
    refine tx_k' hK17 ?_
    refine cx_seq' fun K18 hK18 => ?_
    refine cx_block' ?_
    refine cr fun K19 hK19 => ?_
    refine s0 (rd_move' rfl) ?_
    obtain ⟨r26, hr26, hp⟩ := bind_some hp
    refine s0 (rd_at' (K := (Ki .u32)) rfl rfl hr26 Try.underlying30 info91) ?_
    refine s0 (rd_load_pt' rfl rfl flat91) ?_
    refine s0 (rd_assign' rfl) ?_
    refine s0 (rd_assign' rfl) ?_
    refine nk hK19 ?_
    refine cr fun K20 hK20 => ?_
    refine s0 (rd_move' rfl) ?_
    refine s0 (rd_conv' rfl (ru_i2i (by rw [Try.underlying91]; rfl) Try.underlying74)) ?_
    refine s0 (rd_move' rfl) ?_
    refine s0 (rd_bin' rfl rfl eg_int ru_add) ?_
    refine s0 (rd_assign' rfl) ?_
    refine nk hK20 ?_
    refine cx_join' (fun (v4 : Int) => (⟨57, [], [(1, (Sl (Ki .u32) x2)), (5, (Vl (Vs g901))), (9, (Vl (.int .u64 v4))), (21, (Sl (Ki .u32) x1)), (22, (Vi (x1.length : Int))), (23, (Vi x7))], [(Rw (Ki .u32) 91 (Vs g901) x5)]⟩ : St)) (fun (v4 : Int) => spec_addLimbs_j3 k x5 rec1 x7 v4 = some y1) ?_ ?_
    ·rintro x4 hp
     replace hp : spec_addLimbs_j3 k x5 rec1 x7 x4 = some y1 := hp
     unfold spec_addLimbs_j3 at hp
     refine cr fun K23 hK23 => ?_
     refine s0 (rd_move' rfl) ?_
     refine s0 (rd_move' rfl) ?_
     refine s0 (rd_conv' rfl (ru_i2i (by rw [Try.underlying74]; rfl) Try.underlying91)) ?_
     refine sx_ox' (ox_rowlit' (K := (Ki .u32)) (xs := [icv .u32 x4]) (qs := [(0, [(Vl (.int .u32 (icv .u32 x4)))])]) ⟨rfl, ⟨_, rfl, (lv_vl rfl rfl)⟩, trivial⟩ Try.underlying30 info91 rfl rfl rfl rfl rfl (by kernel_rfl) rfl rfl rfl) (wt_none' rfl) fun g46 => ?_
     obtain ⟨r47, hr47, hp⟩ := bind_some hp
     refine sx_ox' (ox_append' (K := (Ki .u32)) (i := 1) (xs := x5) (ys := ([icv .u32 x4])) rfl rfl rfl (sr_row' (j := 0) rfl rfl rfl Try.underlying30) hr47 Try.underlying30 info91 rfl rfl rfl (H' := [(Rw (Ki .u32) 91 (Vs g46) ([icv .u32 x4]))]) rfl) (wt_none' rfl) fun g47 => ?_
     refine s0 (rd_assign' rfl) ?_
     refine nk hK23 ?_
     refine cx_region' ?_
     refine s0 (rd_move' rfl) ?_
     obtain ⟨r49, hr49, hp⟩ := bind_some hp
     refine s0 (rd_bin' rfl rfl eg_int (ru_shr hr49)) ?_
     refine s0 (rd_assign' rfl) ?_
     refine nk hK18 ?_
     refine cx_region' ?_
     refine s0 (rd_bin' rfl rfl eg_int ru_add) ?_
     refine s0 (rd_move' rfl) ?_
     refine sx_nil' ?_
     show TX E (KY1 _) _
     exact tx_pick' [0] (sub_cons rfl (sub_cons rfl (sub_cons rfl (sub_cons rfl (sub_cons rfl (sub_cons rfl sub_nil)))))) (by decide) (pick_cons rfl pick_nil) (ih1 (r47, r49, (iadd .i64 x7 1)) g47 _ hp)
    intro K21 hK21
    refine cr fun K22 hK22 => ?_
    refine s0 (rd_move' rfl) ?_
    refine s0 (rd_move' rfl) ?_
    refine s0 (rd_len' rfl Try.underlying30) ?_
    refine s0 (rd_bin' rfl rfl eg_int ru_lss) ?_
    refine nk hK22 ?_
    refine cx_cond' rfl (fun h6 => ?_) (fun h6 => ?_)
    ·replace hp := (br_t h6).symm.trans hp
     refine cx_region' ?_
     refine s0 (rd_move' rfl) ?_
     refine s0 (rd_move' rfl) ?_
     refine s0 (rd_move' rfl) ?_
     obtain ⟨r39, hr39, hp⟩ := bind_some hp
     refine s0 (rd_at' (K := (Ki .u32)) rfl rfl hr39 Try.underlying30 info91) ?_
     refine s0 (rd_load_pt' rfl rfl flat91) ?_
     refine s0 (rd_conv' rfl (ru_i2i (by rw [Try.underlying91]; rfl) Try.underlying74)) ?_
     refine s0 (rd_bin' rfl rfl eg_int ru_add) ?_
     refine s0 (rd_assign' rfl) ?_
     refine sx_nil' ?_
     show TX E K21 _
     exact tx_pick' [0] (sub_cons rfl (sub_cons rfl (sub_cons rfl (sub_cons rfl (sub_cons rfl (sub_cons rfl sub_nil)))))) (by decide) (pick_cons rfl pick_nil) (hK21 (iadd .u64 (iadd .u64 (icv .u64 r26) x6) (icv .u64 r39)) hp)
    replace hp := (br_f h6).symm.trans hp
    refine cx_skip' ?_
    show TX E K21 _
    exact tx_pick' [0] (sub_cons rfl (sub_cons rfl (sub_cons rfl (sub_cons rfl (sub_cons rfl (sub_cons rfl sub_nil)))))) (by decide) (pick_cons rfl pick_nil) (hK21 (iadd .u64 (icv .u64 r26) x6) hp)
   replace hp := (br_f h5).symm.trans hp
   refine cx_exit' ?_
   replace hp := Option.some.inj hp
   subst hp
   show TX E (Zg E (Exit.exit 0) _ (Exit.exit 0)) _
   exact tx_zend' g901 rfl [0] (sub_cons rfl (sub_cons rfl sub_nil)) (by decide) (pick_cons rfl pick_nil)
  refine zg_out fun w5 => ?_
  show TX E K6 _
  refine tx_k' hK6 ?_
  refine cr fun K24 hK24 => ?_
  refine s0 (rd_move' rfl) ?_
  refine s0 (rd_move' rfl) ?_
  refine s0 (rd_conv' rfl (ru_i2i (by rw [Try.underlying74]; rfl) Try.underlying91)) ?_
  refine sx_ox' (ox_rowlit' (K := (Ki .u32)) (xs := [icv .u32 v5.2]) (qs := [(0, [(Vl (.int .u32 (icv .u32 v5.2)))])]) ⟨rfl, ⟨_, rfl, (lv_vl rfl rfl)⟩, trivial⟩ Try.underlying30 info91 rfl rfl rfl rfl rfl (by kernel_rfl) rfl rfl rfl) (wt_none' rfl) fun g54 => ?_
  obtain ⟨r55, hr55, hp⟩ := bind_some hp
  refine sx_ox' (ox_append' (K := (Ki .u32)) (i := 1) (xs := v5.1) (ys := ([icv .u32 v5.2])) rfl rfl rfl (sr_row' (j := 0) rfl rfl rfl Try.underlying30) hr55 Try.underlying30 info91 rfl rfl rfl (H' := [(Rw (Ki .u32) 91 (Vs g54) ([icv .u32 v5.2]))]) rfl) (wt_none' rfl) fun g55 => ?_
  refine tx_fz' (frz_row 0 [(55, (Vl (Vs g55)), (Sl (Ki .u32) r55))] (K := (Ki .u32)) (xs := r55) (by decide) rfl ⟨⟨rfl, frz_it⟩, trivial⟩ (H' := [(Rw (Ki .u32) 91 (Vs g54) ([icv .u32 v5.2]))]) frzH_refl) ?_
  obtain ⟨r56, hr56, hp⟩ := bind_some hp
  refine sx_ox' (ox_calln' (ent_fn' Try.func76 isn76 rfl rfl) (spec_trim_sim _ hr56 : Sx.Fn Try.prog 76 [(Sl (Ki .u32) r55)] [] (fun x : Unit => (Sl (Ki .u32) r56)) (fun x => [])) (Hn := fun x : Unit => [(Rw (Ki .u32) 91 (Vs g54) ([icv .u32 v5.2]))]) (fun _ => rfl) rfl rfl) (wt_none' rfl) fun ⟨⟩ => ?_
  refine s0 (rd_assign' rfl) ?_
  refine nk hK24 ?_
  refine cx_retc' ?_
  replace hp := Option.some.inj hp
  subst hp
  refine tx_pick' (L' := [(4, (Sl (Ki .u32) r56))]) (H' := []) [] (sub_cons rfl sub_nil) (by decide) pick_nil ?_
  exact tx_ret1' Try.results88 rfl () (rv_tmp' rfl) (List.Sublist.refl _)
 intro K2 hK2
 refine cr fun K3 hK3 => ?_
 refine s0 (rd_move' rfl) ?_
 refine s0 (rd_len' rfl Try.underlying30) ?_
 refine s0 (rd_move' rfl) ?_
 refine s0 (rd_len' rfl Try.underlying30) ?_
 refine s0 (rd_bin' rfl rfl eg_int ru_lss) ?_
 refine nk hK3 ?_
 refine cx_cond' rfl (fun h1 => ?_) (fun h1 => ?_)
 ·replace hp := (br_t h1).symm.trans hp
  refine cx_region' ?_
  refine s0 (rd_move' rfl) ?_
  refine s0 (rd_move' rfl) ?_
  refine s0 (rd_assign' rfl) ?_
  refine s0 (rd_assign' rfl) ?_
  refine sx_nil' ?_
  show TX E K2 _
  exact tx_pick' [] (sub_cons rfl (sub_cons rfl sub_nil)) (by decide) pick_nil (hK2 (a1, a0) hp)
 replace hp := (br_f h1).symm.trans hp
 refine cx_skip' ?_
 show TX E K2 _
 exact tx_pick' [] (sub_cons rfl (sub_cons rfl sub_nil)) (by decide) pick_nil (hK2 (a0, a1) hp)

def spec_cmpLimbs_l1s (a0 : List Int) (a1 : List Int) (k : Nat) (rec1 : Int → Option (Int ⊕ Unit)) (x1 : Int) : Option (Int ⊕ Unit) :=
 br (decide (0 ≤ x1))
  ((idx a0 x1) >>= fun r25 =>
  (idx a1 x1) >>= fun r29 =>
  br (!decide (r25 = r29))
   ((idx a0 x1) >>= fun r34 =>
   (idx a1 x1) >>= fun r38 =>
   br (decide (r34 < r38))
    (some (.inl (-1)))
    (some (.inl 1)))
   (rec1 (isub .i64 x1 1)))
  (some (.inr ()))
def spec_cmpLimbs_l1 (a0 : List Int) (a1 : List Int) : Nat → Int → Option (Int ⊕ Unit)
 | 0, _ => none
 | k + 1, v => spec_cmpLimbs_l1s a0 a1 k (spec_cmpLimbs_l1 a0 a1 k) v
def spec_cmpLimbs (k : Nat) (a0 : List Int) (a1 : List Int) : Option (Int) :=
 br (!decide ((a0.length : Int) = (a1.length : Int)))
  (br (decide ((a0.length : Int) < (a1.length : Int)))
   (some (-1))
   (some 1))
  ((spec_cmpLimbs_l1 a0 a1 k (isub .i64 (a0.length : Int) 1)) >>= fun y1 => match y1 with
   | (.inl v2) =>
    (some v2)
   | (.inr v3) =>
    (some 0))

theorem spec_cmpLimbs_sim {k : Nat}  (a0 : List Int) (a1 : List Int) {out : Int} (hp : spec_cmpLimbs k a0 a1 = some out) : Sx.Fn Try.prog 89 [(Sl (Ki .u32) a0), (Sl (Ki .u32) a1)] [] (fun w : Unit => (Vi out)) (fun w => []) := by
 unfold spec_cmpLimbs at hp
 refine fn_of Try.func89 rfl Try.ntmps89 rfl fun E hM => ?_
 refine cr fun K1 hK1 => ?_
 refine s0 (rd_assign' rfl) ?_
 refine nk hK1 ?_
 refine cx_seq' fun K2 hK2 => ?_
 refine cr fun K3 hK3 => ?_
 refine s0 (rd_move' rfl) ?_
 refine s0 (rd_len' rfl Try.underlying30) ?_
 refine s0 (rd_move' rfl) ?_
 refine s0 (rd_len' rfl Try.underlying30) ?_
 refine s0 (rd_bin' rfl rfl eg_int ru_neq) ?_
 refine nk hK3 ?_
 refine cx_cond' rfl (fun h1 => ?_) (fun h1 => ?_)
 ·replace hp := (br_t h1).symm.trans hp
  refine cx_seq' fun K4 hK4 => ?_
  refine cr fun K5 hK5 => ?_
  refine s0 (rd_move' rfl) ?_
  refine s0 (rd_len' rfl Try.underlying30) ?_
  refine s0 (rd_move' rfl) ?_
  refine s0 (rd_len' rfl Try.underlying30) ?_
  refine s0 (rd_bin' rfl rfl eg_int ru_lss) ?_
  refine nk hK5 ?_
  refine cx_cond' rfl (fun h2 => ?_) (fun h2 => ?_)
  ·replace hp := (br_t h2).symm.trans hp
   refine cr fun K6 hK6 => ?_
   refine s0 (rd_assign' rfl) ?_
   refine nk hK6 ?_
   refine cx_retc' ?_
   replace hp := Option.some.inj hp
   subst hp
   refine tx_pick' (L' := [(4, (Vi (-1)))]) (H' := []) [] (sub_cons rfl sub_nil) (by decide) pick_nil ?_
   exact tx_ret1' Try.results89 rfl () (rv_tmp' rfl) (List.Sublist.refl _)
  replace hp := (br_f h2).symm.trans hp
  refine cx_skip' ?_
  show TX E K4 _
  refine tx_k' hK4 ?_
  refine cr fun K7 hK7 => ?_
  refine s0 (rd_assign' rfl) ?_
  refine nk hK7 ?_
  refine cx_retc' ?_
  replace hp := Option.some.inj hp
  subst hp
  refine tx_pick' (L' := [(4, (Vi 1))]) (H' := []) [] (sub_cons rfl sub_nil) (by decide) pick_nil ?_
  exact tx_ret1' Try.results89 rfl () (rv_tmp' rfl) (List.Sublist.refl _)
 replace hp := (br_f h1).symm.trans hp
 refine cx_skip' ?_
 show TX E K2 _
 refine tx_k' hK2 ?_
 refine cx_seq' fun K8 hK8 => ?_
 refine cr fun K9 hK9 => ?_
 refine s0 (rd_move' rfl) ?_
 refine s0 (rd_len' rfl Try.underlying30) ?_
 refine s0 (rd_bin' rfl rfl eg_int ru_sub) ?_
 refine s0 (rd_assign' rfl) ?_
 refine nk hK9 ?_
 refine cx_block' ?_
 obtain ⟨y1, hy1, hp⟩ := bind_some hp
 refine cx_loopg' (F := spec_cmpLimbs_l1 a0 a1) (G := fun k R v => spec_cmpLimbs_l1s a0 a1 k R v) (x := (isub .i64 (a0.length : Int) 1)) (gh := ()) (fun (v1 : Int) (w1 : Unit) => (⟨41, [], [(0, (Sl (Ki .u32) a0)), (1, (Sl (Ki .u32) a1)), (5, (Vi v1))], []⟩ : St)) (fun (y : Int ⊕ Unit) => match y with | (.inl v2) => Zg E Exit.ret (fun (w2 : Unit) => (⟨41, [], [(4, (Vi v2))], []⟩ : St)) | (.inr v3) => Zg E (Exit.exit 0) (fun (w3 : Unit) => (⟨41, [], [], []⟩ : St))) (fun _ => rfl) (fun _ _ => rfl) ?_ hy1 (tx_to' rfl [] (sub_cons rfl (sub_cons rfl (sub_cons rfl sub_nil))) (by decide) pick_nil) ?_
 ·clear hp hy1
  clear y1
  intro k rec1 KY1 ih1
  rintro x1 ⟨⟩ y1 hp
  replace hp : spec_cmpLimbs_l1s a0 a1 k rec1 x1 = some y1 := hp
  unfold spec_cmpLimbs_l1s at hp
  refine cx_seq' fun K18 hK18 => ?_
  refine cr fun K19 hK19 => ?_
  refine s0 (rd_move' rfl) ?_
  refine s0 (rd_bin' rfl rfl eg_int ru_geq) ?_
  refine nk hK19 ?_
  refine cx_cond' rfl (fun h7 => ?_) (fun h7 => ?_)
  ·replace hp := (br_t h7).symm.trans hp
   refine cx_skip' ?_
   show TX E K18 _
   refine tx_k' hK18 ?_
   refine cx_seq' fun K20 hK20 => ?_
   refine cx_block' ?_
   refine cx_seq' fun K21 hK21 => ?_
   refine cx_draw' mixed (by kernel_rfl) ?_
   refine qx_rd' (rd_move' rfl) rfl rfl (wt_none' rfl) ?_
   refine qx_rd' (rd_move' rfl) rfl rfl (wt_none' rfl) ?_
   obtain ⟨r25, hr25, hp⟩ := bind_some hp
   refine qx_rd' (rd_at' (K := (Ki .u32)) rfl rfl hr25 Try.underlying30 info91) rfl rfl (wt_none' rfl) ?_
   refine qx_rd' (rd_load_pt' rfl rfl flat91) rfl rfl (wt_none' rfl) ?_
   refine qx_rd' (rd_move' rfl) rfl rfl (wt_none' rfl) ?_
   refine qx_rd' (rd_move' rfl) rfl rfl (wt_none' rfl) ?_
   obtain ⟨r29, hr29, hp⟩ := bind_some hp
   refine qx_rd' (rd_at' (K := (Ki .u32)) rfl rfl hr29 Try.underlying30 info91) rfl rfl (wt_none' rfl) ?_
   refine qx_rd' (rd_load_pt' rfl rfl flat91) rfl rfl (wt_none' rfl) ?_
   refine qx_rd' (rd_bin' rfl rfl eg_int ru_neq) rfl rfl (wt_none' rfl) ?_
   refine qx_nil' ?_
   show TX E K21 _
   refine tx_k' hK21 ?_
   refine cx_cond' rfl (fun h8 => ?_) (fun h8 => ?_)
   ·replace hp := (br_t h8).symm.trans hp
    refine cx_seq' fun K22 hK22 => ?_
    refine cx_seq' fun K23 hK23 => ?_
    refine cx_draw' mixed (by kernel_rfl) ?_
    refine qx_rd' (rd_move' rfl) rfl rfl (wt_none' rfl) ?_
    refine qx_rd' (rd_move' rfl) rfl rfl (wt_none' rfl) ?_
    obtain ⟨r34, hr34, hp⟩ := bind_some hp
    refine qx_rd' (rd_at' (K := (Ki .u32)) rfl rfl hr34 Try.underlying30 info91) rfl rfl (wt_none' rfl) ?_
    refine qx_rd' (rd_load_pt' rfl rfl flat91) rfl rfl (wt_none' rfl) ?_
    refine qx_rd' (rd_move' rfl) rfl rfl (wt_none' rfl) ?_
    refine qx_rd' (rd_move' rfl) rfl rfl (wt_none' rfl) ?_
    obtain ⟨r38, hr38, hp⟩ := bind_some hp
    refine qx_rd' (rd_at' (K := (Ki .u32)) rfl rfl hr38 Try.underlying30 info91) rfl rfl (wt_none' rfl) ?_
    refine qx_rd' (rd_load_pt' rfl rfl flat91) rfl rfl (wt_none' rfl) ?_
    refine qx_rd' (rd_bin' rfl rfl eg_int ru_lss) rfl rfl (wt_none' rfl) ?_
    refine qx_nil' ?_
    show TX E K23 _
    refine tx_k' hK23 ?_
    refine cx_cond' rfl (fun h9 => ?_) (fun h9 => ?_)
    ·replace hp := (br_t h9).symm.trans hp
     refine cr fun K24 hK24 => ?_
     refine s0 (rd_assign' rfl) ?_
     refine nk hK24 ?_
     refine cx_retc' ?_
     replace hp := Option.some.inj hp
     subst hp
     show TX E (Zg E Exit.ret _ Exit.ret) _
     exact tx_zend' () rfl [] (sub_cons rfl sub_nil) (by decide) pick_nil
    replace hp := (br_f h9).symm.trans hp
    refine cx_skip' ?_
    show TX E K22 _
    refine tx_k' hK22 ?_
    refine cr fun K25 hK25 => ?_
    refine s0 (rd_assign' rfl) ?_
    refine nk hK25 ?_
    refine cx_retc' ?_
    replace hp := Option.some.inj hp
    subst hp
    show TX E (Zg E Exit.ret _ Exit.ret) _
    exact tx_zend' () rfl [] (sub_cons rfl sub_nil) (by decide) pick_nil
   replace hp := (br_f h8).symm.trans hp
   refine cx_skip' ?_
   show TX E K20 _
   refine tx_k' hK20 ?_
   refine cx_region' ?_
   refine s0 (rd_move' rfl) ?_
   refine s0 (rd_bin' rfl rfl eg_int ru_sub) ?_
   refine s0 (rd_assign' rfl) ?_
   refine sx_nil' ?_
   show TX E (KY1 _) _
   exact tx_pick' [] (sub_cons rfl (sub_cons rfl (sub_cons rfl sub_nil))) (by decide) pick_nil (ih1 (isub .i64 x1 1) () _ hp)
  replace hp := (br_f h7).symm.trans hp
  refine cx_exit' ?_
  replace hp := Option.some.inj hp
  subst hp
  show TX E (Zg E (Exit.exit 0) _ (Exit.exit 0)) _
  exact tx_zend' () rfl [] sub_nil (by decide) pick_nil
 rcases y1 with v2 | v3
 ·dsimp only at hp
  refine zg_out fun w2 => ?_
  replace hp := Option.some.inj hp
  subst hp
  refine tx_pick' (L' := [(4, (Vi v2))]) (H' := []) [] (sub_cons rfl sub_nil) (by decide) pick_nil ?_
  exact tx_ret1' Try.results89 rfl () (rv_tmp' rfl) (List.Sublist.refl _)
 dsimp only at hp
 refine zg_out fun w3 => ?_
 show TX E K8 _
 refine tx_k' hK8 ?_
 refine cr fun K26 hK26 => ?_
 refine s0 (rd_assign' rfl) ?_
 refine nk hK26 ?_
 refine cx_retc' ?_
 replace hp := Option.some.inj hp
 subst hp
 refine tx_pick' (L' := [(4, (Vi 0))]) (H' := []) [] (sub_cons rfl sub_nil) (by decide) pick_nil ?_
 exact tx_ret1' Try.results89 rfl () (rv_tmp' rfl) (List.Sublist.refl _)

def spec_subLimbs_j4 (k : Nat) (x5 : List Int) (r18 : Int) (x3 : Int) (rec1 : ((List Int) × Int × Int) → Option ((List Int))) (x7 : Int) (x4 : Int) : Option ((List Int)) :=
 (ishl .u64 x4 32) >>= fun r40 =>
 (apd 4 x5 ([icv .u32 (isub .u64 (iadd .u64 (icv .u64 r18) r40) x3)])) >>= fun r46 =>
 rec1 (r46, x4, (iadd .i64 x7 1))
def spec_subLimbs_j3 (k : Nat) (r18 : Int) (x5 : List Int) (rec1 : ((List Int) × Int × Int) → Option ((List Int))) (x7 : Int) (x3 : Int) : Option ((List Int)) :=
 br (decide ((icv .u64 r18) < x3))
  (spec_subLimbs_j4 k x5 r18 x3 rec1 x7 1)
  (spec_subLimbs_j4 k x5 r18 x3 rec1 x7 0)
def spec_subLimbs_l1s (a0 : List Int) (a1 : List Int) (k : Nat) (rec1 : ((List Int) × Int × Int) → Option ((List Int))) (x5 : List Int) (x6 : Int) (x7 : Int) : Option ((List Int)) :=
 br (decide (x7 < (a0.length : Int)))
  ((idx a0 x7) >>= fun r18 =>
  br (decide (x7 < (a1.length : Int)))
   ((idx a1 x7) >>= fun r28 =>
   spec_subLimbs_j3 k r18 x5 rec1 x7 (iadd .u64 x6 (icv .u64 r28)))
   (spec_subLimbs_j3 k r18 x5 rec1 x7 x6))
  (some x5)
def spec_subLimbs_l1 (a0 : List Int) (a1 : List Int) : Nat → ((List Int) × Int × Int) → Option ((List Int))
 | 0, _ => none
 | k + 1, v => spec_subLimbs_l1s a0 a1 k (spec_subLimbs_l1 a0 a1 k) v.1 v.2.1 v.2.2
def spec_subLimbs (k : Nat) (a0 : List Int) (a1 : List Int) : Option ((List Int)) :=
 (mk 4 0 0 (a0.length : Int)) >>= fun r12 =>
 (spec_subLimbs_l1 a0 a1 k (r12, 0, 0)) >>= fun v6 =>
 (spec_trim k v6) >>= fun r49 =>
 some r49

theorem spec_subLimbs_sim {k : Nat}  (a0 : List Int) (a1 : List Int) {out : (List Int)} (hp : spec_subLimbs k a0 a1 = some out) : Sx.Fn Try.prog 90 [(Sl (Ki .u32) a0), (Sl (Ki .u32) a1)] [] (fun w : Unit => (Sl (Ki .u32) out)) (fun w => []) := by
 unfold spec_subLimbs at hp
 refine fn_of Try.func90 rfl Try.ntmps90 rfl fun E hM => ?_
 refine cr fun K1 hK1 => ?_
 refine s0 (rd_assign' rfl) ?_
 refine nk hK1 ?_
 refine cr fun K2 hK2 => ?_
 refine s0 (rd_move' rfl) ?_
 refine s0 (rd_len' rfl Try.underlying30) ?_
 obtain ⟨r12, hr12, hp⟩ := bind_some hp
 refine sx_ox' (ox_make' (K := (Ki .u32)) rfl rfl hr12 rfl Try.underlying30 info91 rfl rfl rfl rfl rfl) (wt_none' rfl) fun g12 => ?_
 refine s0 (rd_assign' rfl) ?_
 refine nk hK2 ?_
 refine cr fun K3 hK3 => ?_
 refine s0 (rd_assign' rfl) ?_
 refine nk hK3 ?_
 refine cx_seq' fun K4 hK4 => ?_
 refine cr fun K5 hK5 => ?_
 refine s0 (rd_move' rfl) ?_
 refine s0 (rd_len' rfl Try.underlying30) ?_
 refine s0 (rd_move' rfl) ?_
 refine nk hK5 ?_
 refine cx_block' ?_
 obtain ⟨v6, hy1, hp⟩ := bind_some hp
 refine cx_loopg' (F := spec_subLimbs_l1 a0 a1) (G := fun k R v => spec_subLimbs_l1s a0 a1 k R v.1 v.2.1 v.2.2) (x := (r12, 0, 0)) (gh := g12) (fun (v3 : (List Int) × Int × Int) (w3 : Gs) => (⟨50, [], [(1, (Sl (Ki .u32) a1)), (5, (Vl (Vs w3))), (6, (Vl (.int .u64 v3.2.1))), (13, (Sl (Ki .u32) a0)), (14, (Vi (a0.length : Int))), (15, (Vi v3.2.2))], [(Rw (Ki .u32) 91 (Vs w3) v3.1)]⟩ : St)) (fun (v6 : (List Int)) => Zg E (Exit.exit 0) (fun (w6 : Gs) => (⟨50, [], [(5, (Vl (Vs w6)))], [(Rw (Ki .u32) 91 (Vs w6) v6)]⟩ : St))) (fun _ => rfl) (fun _ _ => rfl) ?_ hy1 (tx_to' rfl [0] (sub_cons rfl (sub_cons rfl (sub_cons rfl (sub_cons rfl (sub_cons rfl (sub_cons rfl sub_nil)))))) (by decide) (pick_cons rfl pick_nil)) ?_
 ·clear hp hy1
  clear v6
  intro k rec1 KY1 ih1
  rintro ⟨x5, x6, x7⟩ g901 y1 hp
  replace hp : spec_subLimbs_l1s a0 a1 k rec1 x5 x6 x7 = some y1 := hp
  unfold spec_subLimbs_l1s at hp
  refine cr fun K16 hK16 => ?_
  refine s0 (rd_bin' rfl rfl eg_int ru_lss) ?_
  refine nk hK16 ?_
  refine cx_seq' fun K17 hK17 => ?_
  refine cx_cond' rfl (fun h5 => ?_) (fun h5 => ?_)
  ·replace hp := (br_t h5).symm.trans hp
   refine cx_skip' ?_
   show TX E K17 _
   refine tx_k' hK17 ?_
   refine cx_seq' fun K18 hK18 => ?_
   refine cx_block' ?_
   refine cr fun K19 hK19 => ?_
   refine s0 (rd_move' rfl) ?_
   obtain ⟨r18, hr18, hp⟩ := bind_some hp
   refine s0 (rd_at' (K := (Ki .u32)) rfl rfl hr18 Try.underlying30 info91) ?_
   refine s0 (rd_load_pt' rfl rfl flat91) ?_
   refine s0 (rd_assign' rfl) ?_
   refine s0 (rd_assign' rfl) ?_
   refine nk hK19 ?_
   refine cr fun K20 hK20 => ?_
   refine s0 (rd_move' rfl) ?_
   refine s0 (rd_assign' rfl) ?_
   refine nk hK20 ?_
   refine cx_join' (fun (v4 : Int) => (⟨50, [], [(1, (Sl (Ki .u32) a1)), (5, (Vl (Vs g901))), (8, (Vl (.int .u32 r18))), (9, (Vl (.int .u64 v4))), (13, (Sl (Ki .u32) a0)), (14, (Vi (a0.length : Int))), (15, (Vi x7))], [(Rw (Ki .u32) 91 (Vs g901) x5)]⟩ : St)) (fun (v4 : Int) => spec_subLimbs_j3 k r18 x5 rec1 x7 v4 = some y1) ?_ ?_
   ·rintro x3 hp
    replace hp : spec_subLimbs_j3 k r18 x5 rec1 x7 x3 = some y1 := hp
    unfold spec_subLimbs_j3 at hp
    refine cr fun K23 hK23 => ?_
    refine s0 (rd_assign' rfl) ?_
    refine nk hK23 ?_
    refine cx_join' (fun (v5 : Int) => (⟨50, [], [(1, (Sl (Ki .u32) a1)), (5, (Vl (Vs g901))), (6, (Vl (.int .u64 v5))), (8, (Vl (.int .u32 r18))), (9, (Vl (.int .u64 x3))), (13, (Sl (Ki .u32) a0)), (14, (Vi (a0.length : Int))), (15, (Vi x7))], [(Rw (Ki .u32) 91 (Vs g901) x5)]⟩ : St)) (fun (v5 : Int) => spec_subLimbs_j4 k x5 r18 x3 rec1 x7 v5 = some y1) ?_ ?_
    ·rintro x4 hp
     replace hp : spec_subLimbs_j4 k x5 r18 x3 rec1 x7 x4 = some y1 := hp
     unfold spec_subLimbs_j4 at hp
     refine cx_region' ?_
     refine s0 (rd_move' rfl) ?_
     refine s0 (rd_move' rfl) ?_
     refine s0 (rd_conv' rfl (ru_i2i (by rw [Try.underlying91]; rfl) Try.underlying74)) ?_
     refine s0 (rd_move' rfl) ?_
     obtain ⟨r40, hr40, hp⟩ := bind_some hp
     refine s0 (rd_bin' rfl rfl eg_int (ru_shl hr40)) ?_
     refine s0 (rd_bin' rfl rfl eg_int ru_add) ?_
     refine s0 (rd_move' rfl) ?_
     refine s0 (rd_bin' rfl rfl eg_int ru_sub) ?_
     refine s0 (rd_conv' rfl (ru_i2i (by rw [Try.underlying74]; rfl) Try.underlying91)) ?_
     refine sx_ox' (ox_rowlit' (K := (Ki .u32)) (xs := [icv .u32 (isub .u64 (iadd .u64 (icv .u64 r18) r40) x3)]) (qs := [(0, [(Vl (.int .u32 (icv .u32 (isub .u64 (iadd .u64 (icv .u64 r18) r40) x3))))])]) ⟨rfl, ⟨_, rfl, (lv_vl rfl rfl)⟩, trivial⟩ Try.underlying30 info91 rfl rfl rfl rfl rfl (by kernel_rfl) rfl rfl rfl) (wt_none' rfl) fun g45 => ?_
     obtain ⟨r46, hr46, hp⟩ := bind_some hp
     refine sx_ox' (ox_append' (K := (Ki .u32)) (i := 1) (xs := x5) (ys := ([icv .u32 (isub .u64 (iadd .u64 (icv .u64 r18) r40) x3)])) rfl rfl rfl (sr_row' (j := 0) rfl rfl rfl Try.underlying30) hr46 Try.underlying30 info91 rfl rfl rfl (H' := [(Rw (Ki .u32) 91 (Vs g45) ([icv .u32 (isub .u64 (iadd .u64 (icv .u64 r18) r40) x3)]))]) rfl) (wt_none' rfl) fun g46 => ?_
     refine s0 (rd_assign' rfl) ?_
     refine nk hK18 ?_
     refine cx_region' ?_
     refine s0 (rd_bin' rfl rfl eg_int ru_add) ?_
     refine s0 (rd_move' rfl) ?_
     refine sx_nil' ?_
     show TX E (KY1 _) _
     exact tx_pick' [0] (sub_cons rfl (sub_cons rfl (sub_cons rfl (sub_cons rfl (sub_cons rfl (sub_cons rfl sub_nil)))))) (by decide) (pick_cons rfl pick_nil) (ih1 (r46, x4, (iadd .i64 x7 1)) g46 _ hp)
    intro K24 hK24
    refine cr fun K25 hK25 => ?_
    refine s0 (rd_move' rfl) ?_
    refine s0 (rd_conv' rfl (ru_i2i (by rw [Try.underlying91]; rfl) Try.underlying74)) ?_
    refine s0 (rd_move' rfl) ?_
    refine s0 (rd_bin' rfl rfl eg_int ru_lss) ?_
    refine nk hK25 ?_
    refine cx_cond' rfl (fun h7 => ?_) (fun h7 => ?_)
    ·replace hp := (br_t h7).symm.trans hp
     refine cx_region' ?_
     refine s0 (rd_assign' rfl) ?_
     refine sx_nil' ?_
     show TX E K24 _
     exact tx_pick' [0] (sub_cons rfl (sub_cons rfl (sub_cons rfl (sub_cons rfl (sub_cons rfl (sub_cons rfl (sub_cons rfl (sub_cons rfl sub_nil)))))))) (by decide) (pick_cons rfl pick_nil) (hK24 1 hp)
    replace hp := (br_f h7).symm.trans hp
    refine cx_skip' ?_
    show TX E K24 _
    exact tx_pick' [0] (sub_cons rfl (sub_cons rfl (sub_cons rfl (sub_cons rfl (sub_cons rfl (sub_cons rfl (sub_cons rfl (sub_cons rfl sub_nil)))))))) (by decide) (pick_cons rfl pick_nil) (hK24 0 hp)
   intro K21 hK21
   refine cr fun K22 hK22 => ?_
   refine s0 (rd_move' rfl) ?_
   refine s0 (rd_move' rfl) ?_
   refine s0 (rd_len' rfl Try.underlying30) ?_
   refine s0 (rd_bin' rfl rfl eg_int ru_lss) ?_
   refine nk hK22 ?_
   refine cx_cond' rfl (fun h6 => ?_) (fun h6 => ?_)
   ·replace hp := (br_t h6).symm.trans hp
    refine cx_region' ?_
    refine s0 (rd_move' rfl) ?_
    refine s0 (rd_move' rfl) ?_
    refine s0 (rd_move' rfl) ?_
    obtain ⟨r28, hr28, hp⟩ := bind_some hp
    refine s0 (rd_at' (K := (Ki .u32)) rfl rfl hr28 Try.underlying30 info91) ?_
    refine s0 (rd_load_pt' rfl rfl flat91) ?_
    refine s0 (rd_conv' rfl (ru_i2i (by rw [Try.underlying91]; rfl) Try.underlying74)) ?_
    refine s0 (rd_bin' rfl rfl eg_int ru_add) ?_
    refine s0 (rd_assign' rfl) ?_
    refine sx_nil' ?_
    show TX E K21 _
    exact tx_pick' [0] (sub_cons rfl (sub_cons rfl (sub_cons rfl (sub_cons rfl (sub_cons rfl (sub_cons rfl (sub_cons rfl sub_nil))))))) (by decide) (pick_cons rfl pick_nil) (hK21 (iadd .u64 x6 (icv .u64 r28)) hp)
   replace hp := (br_f h6).symm.trans hp
   refine cx_skip' ?_
   show TX E K21 _
   exact tx_pick' [0] (sub_cons rfl (sub_cons rfl (sub_cons rfl (sub_cons rfl (sub_cons rfl (sub_cons rfl (sub_cons rfl sub_nil))))))) (by decide) (pick_cons rfl pick_nil) (hK21 x6 hp)
  replace hp := (br_f h5).symm.trans hp
  refine cx_exit' ?_
  replace hp := Option.some.inj hp
  subst hp
  show TX E (Zg E (Exit.exit 0) _ (Exit.exit 0)) _
  exact tx_zend' g901 rfl [0] (sub_cons rfl sub_nil) (by decide) (pick_cons rfl pick_nil)
 refine zg_out fun w6 => ?_
 show TX E K4 _
 refine tx_k' hK4 ?_
 refine cr fun K26 hK26 => ?_
 refine s0 (rd_move' rfl) ?_
 refine tx_fz' (frz_row 0 [(5, (Vl (Vs w6)), (Sl (Ki .u32) v6)), (48, (Vl (Vs w6)), (Sl (Ki .u32) v6))] (K := (Ki .u32)) (xs := v6) (by decide) rfl ⟨⟨rfl, frz_it⟩, ⟨rfl, frz_it⟩, trivial⟩ (H' := []) frzH_refl) ?_
 obtain ⟨r49, hr49, hp⟩ := bind_some hp
 refine sx_ox' (ox_calln' (ent_fn' Try.func76 isn76 rfl rfl) (spec_trim_sim _ hr49 : Sx.Fn Try.prog 76 [(Sl (Ki .u32) v6)] [] (fun x : Unit => (Sl (Ki .u32) r49)) (fun x => [])) (Hn := fun x : Unit => []) (fun _ => rfl) rfl rfl) (wt_none' rfl) fun ⟨⟩ => ?_
 refine s0 (rd_assign' rfl) ?_
 refine nk hK26 ?_
 refine cx_retc' ?_
 replace hp := Option.some.inj hp
 subst hp
 refine tx_pick' (L' := [(4, (Sl (Ki .u32) r49))]) (H' := []) [] (sub_cons rfl sub_nil) (by decide) pick_nil ?_
 exact tx_ret1' Try.results90 rfl () (rv_tmp' rfl) (List.Sublist.refl _)

def spec_Whole_Add (k : Nat) (a0_0 : Bool) (a0_1 : List Int) (a1_0 : Bool) (a1_1 : List Int) : Option (Bool × (List Int)) :=
 br (a0_0 == a1_0)
  ((spec_addLimbs k a0_1 a1_1) >>= fun r16 =>
  some (a0_0, r16))
  ((spec_cmpLimbs k a0_1 a1_1) >>= fun r22 =>
  br (decide (r22 = 0))
   (some (false, []))
   (br (decide (r22 = 1))
    ((spec_subLimbs k a0_1 a1_1) >>= fun r34 =>
    some (a0_0, r34))
    ((spec_subLimbs k a1_1 a0_1) >>= fun r42 =>
    some (a1_0, r42))))

theorem spec_Whole_Add_sim {k : Nat}  (a0_0 : Bool) (a0_1 : List Int) (a1_0 : Bool) (a1_1 : List Int) {out : Bool × (List Int)} (hp : spec_Whole_Add k a0_0 a0_1 a1_0 a1_1 = some out) : Sx.Fn Try.prog 75 [(Ag [(Vb a0_0), (Sl (Ki .u32) a0_1)]), (Ag [(Vb a1_0), (Sl (Ki .u32) a1_1)])] [] (fun w : Unit => (Ag [(Vb out.1), (Sl (Ki .u32) out.2)])) (fun w => []) := by
 unfold spec_Whole_Add at hp
 refine fn_of Try.func75 rfl Try.ntmps75 rfl fun E hM => ?_
 refine cr fun K1 hK1 => ?_
 refine sx_ox' (ox_box' rfl (lv_ag _) rfl rfl) (wt_none' rfl) fun q2 => ?_
 refine sx_ox' (ox_box' rfl (lv_ag _) rfl rfl) (wt_none' rfl) fun q3 => ?_
 refine sx_ox' (ox_alloc' info32 rfl rfl rfl rfl (l := [(Vb false), Vn]) rfl) (wt_none' rfl) fun q4 => ?_
 refine nk hK1 ?_
 refine cx_seq' fun K2 hK2 => ?_
 refine cr fun K3 hK3 => ?_
 refine s0 (rd_field0' rfl Try.underlying32 rfl info4 rfl) ?_
 refine s0 (rd_load' (i := 2) (o := 0) rfl ⟨rfl, rfl, rfl, rfl⟩ rfl flat4) ?_
 refine s0 (rd_field0' rfl Try.underlying32 rfl info4 rfl) ?_
 refine s0 (rd_load' (i := 1) (o := 0) rfl ⟨rfl, rfl, rfl, rfl⟩ rfl flat4) ?_
 refine s0 (rd_bin' rfl rfl eg_bool (ru_beq Try.underlying4)) ?_
 refine nk hK3 ?_
 refine cx_cond' rfl (fun h1 => ?_) (fun h1 => ?_)
 ·replace hp := (br_t h1).symm.trans hp
  refine cx_seq' fun K4 hK4 => ?_
  refine cx_plan' [] [(8, 1)] [(0, 1), (1, 1), (2, 1), (3, 1), (4, 1), (5, 1), (6, 0), (7, 1), (8, 0)] mixed (by kernel_rfl) ?_
  refine px_rd' rfl (rd_field0' rfl Try.underlying32 rfl info4 rfl) rfl rfl (wt_none' rfl) ?_
  refine px_rd' rfl (rd_load' (i := 2) (o := 0) rfl ⟨rfl, rfl, rfl, rfl⟩ rfl flat4) rfl rfl (wt_none' rfl) ?_
  refine px_rd' rfl (rd_field' (off := 1) rfl Try.underlying32 rfl info30 rfl) rfl rfl (wt_none' rfl) ?_
  refine px_rd' rfl (rd_load' (i := 2) (o := 1) rfl ⟨rfl, rfl, rfl, rfl⟩ rfl flat30) rfl rfl (wt_none' rfl) ?_
  refine px_rd' rfl (rd_field' (off := 1) rfl Try.underlying32 rfl info30 rfl) rfl rfl (wt_none' rfl) ?_
  refine px_rd' rfl (rd_load' (i := 1) (o := 1) rfl ⟨rfl, rfl, rfl, rfl⟩ rfl flat30) rfl rfl (wt_none' rfl) ?_
  obtain ⟨r16, hr16, hp⟩ := bind_some hp
  refine px_ox' rfl (ox_calln' (ent_fn' Try.func88 isn88 rfl rfl) (spec_addLimbs_sim _ _ hr16 : Sx.Fn Try.prog 88 [(Sl (Ki .u32) a0_1), (Sl (Ki .u32) a1_1)] [] (fun x : Unit => (Sl (Ki .u32) r16)) (fun x => [])) (Hn := fun x : Unit => [⟨.pointer (some q4), [(Vb false), Vn], 32, none⟩, ⟨.pointer (some q3), [(Vb a1_0), (Sl (Ki .u32) a1_1)], 32, none⟩, ⟨.pointer (some q2), [(Vb a0_0), (Sl (Ki .u32) a0_1)], 32, none⟩]) (fun _ => rfl) rfl rfl) rfl bs_nil (wt_none' rfl) fun ⟨⟩ => ?_
  refine px_rd' rfl (rd_build' (pls := [(0, 1), (1, 1)]) (qs := [(0, [(Vb a0_0)]), (1, [(Sl (Ki .u32) r16)])]) (r := [(Vb a0_0), (Sl (Ki .u32) r16)]) ⟨rfl, ⟨_, rfl, (lv_vl rfl rfl)⟩, ⟨rfl, ⟨_, rfl, (lv_sl _ _)⟩, trivial⟩⟩ Try.underlying32 has32 places32 info32 rfl rfl rfl) rfl rfl (wt_none' rfl) ?_
  refine px_oxv' rfl (oxv_store (i := 0) (o := 0) rfl rfl (lv_ag _) ⟨rfl, rfl, rfl, rfl⟩ rfl info32 rfl (H' := [⟨.pointer (some q4), [(Vb a0_0), (Sl (Ki .u32) r16)], 32, none⟩, ⟨.pointer (some q3), [(Vb a1_0), (Sl (Ki .u32) a1_1)], 32, none⟩, ⟨.pointer (some q2), [(Vb a0_0), (Sl (Ki .u32) a0_1)], 32, none⟩]) rfl) rfl rfl bo_nil (wt_none' rfl) fun _ => ?_
  refine px_nil' ?_
  show TX E K4 _
  refine tx_k' hK4 ?_
  refine cx_retc' ?_
  replace hp := Option.some.inj hp
  subst hp
  refine tx_pick' (L' := [(4, (Vp q4))]) (H' := [⟨.pointer (some q4), [(Vb a0_0), (Sl (Ki .u32) r16)], 32, none⟩]) [0] (sub_cons rfl sub_nil) (by decide) (pick_cons rfl pick_nil) ?_
  exact tx_ret1' Try.results75 rfl () (rv_cell_agg' (i := 0) (o := 0) (nn := 2) rfl ⟨rfl, rfl, rfl, rfl⟩ rfl agg32 rfl) (List.nil_sublist _)
 replace hp := (br_f h1).symm.trans hp
 refine cx_skip' ?_
 show TX E K2 _
 refine tx_k' hK2 ?_
 refine cx_seq' fun K5 hK5 => ?_
 refine cr fun K6 hK6 => ?_
 refine s0 (rd_field' (off := 1) rfl Try.underlying32 rfl info30 rfl) ?_
 refine s0 (rd_load' (i := 2) (o := 1) rfl ⟨rfl, rfl, rfl, rfl⟩ rfl flat30) ?_
 refine s0 (rd_field' (off := 1) rfl Try.underlying32 rfl info30 rfl) ?_
 refine s0 (rd_load' (i := 1) (o := 1) rfl ⟨rfl, rfl, rfl, rfl⟩ rfl flat30) ?_
 obtain ⟨r22, hr22, hp⟩ := bind_some hp
 refine sx_ox' (ox_calln' (ent_fn' Try.func89 isn89 rfl rfl) (spec_cmpLimbs_sim _ _ hr22 : Sx.Fn Try.prog 89 [(Sl (Ki .u32) a0_1), (Sl (Ki .u32) a1_1)] [] (fun x : Unit => (Vi r22)) (fun x => [])) (Hn := fun x : Unit => [⟨.pointer (some q4), [(Vb false), Vn], 32, none⟩, ⟨.pointer (some q3), [(Vb a1_0), (Sl (Ki .u32) a1_1)], 32, none⟩, ⟨.pointer (some q2), [(Vb a0_0), (Sl (Ki .u32) a0_1)], 32, none⟩]) (fun _ => rfl) rfl rfl) (wt_none' rfl) fun ⟨⟩ => ?_
 refine nk hK6 ?_
 refine cx_block' ?_
 refine cr fun K7 hK7 => ?_
 refine s0 (rd_bin' rfl rfl eg_int ru_eql) ?_
 refine s0 (rd_assign' rfl) ?_
 refine nk hK7 ?_
 refine cx_cond' rfl (fun h2 => ?_) (fun h2 => ?_)
 ·replace hp := (br_t h2).symm.trans hp
  refine cr fun K8 hK8 => ?_
  refine s0 (rd_build' (pls := [(0, 1), (1, 1)]) (qs := []) (r := [(Vb false), Vn]) trivial Try.underlying32 has32 places32 info32 rfl rfl rfl) ?_
  refine sx_ox' (ox_store' (i := 0) (o := 0) rfl rfl (lv_ag _) ⟨rfl, rfl, rfl, rfl⟩ rfl info32 rfl (H' := [⟨.pointer (some q4), [(Vb false), Vn], 32, none⟩, ⟨.pointer (some q3), [(Vb a1_0), (Sl (Ki .u32) a1_1)], 32, none⟩, ⟨.pointer (some q2), [(Vb a0_0), (Sl (Ki .u32) a0_1)], 32, none⟩]) rfl) (wt_none' rfl) fun _ => ?_
  refine nk hK8 ?_
  refine cx_retc' ?_
  replace hp := Option.some.inj hp
  subst hp
  refine tx_pick' (L' := [(4, (Vp q4))]) (H' := [⟨.pointer (some q4), [(Vb false), Vn], 32, none⟩]) [0] (sub_cons rfl sub_nil) (by decide) (pick_cons rfl pick_nil) ?_
  exact tx_ret1' Try.results75 rfl () (rv_imp' (x := (Ag [(Vb false), Vn])) (y := (Ag [(Vb false), (Sl (Ki .u32) [])])) (rv_cell_agg' (i := 0) (o := 0) (nn := 2) rfl ⟨rfl, rfl, rfl, rfl⟩ rfl agg32 rfl) (imp_ag ⟨imp_refl, imp_nil, trivial⟩)) (List.nil_sublist _)
 replace hp := (br_f h2).symm.trans hp
 refine cr fun K9 hK9 => ?_
 refine s0 (rd_bin' rfl rfl eg_int ru_eql) ?_
 refine s0 (rd_assign' rfl) ?_
 refine nk hK9 ?_
 refine cx_cond' rfl (fun h3 => ?_) (fun h3 => ?_)
 ·replace hp := (br_t h3).symm.trans hp
  refine cx_seq' fun K10 hK10 => ?_
  refine cx_plan' [] [(8, 1)] [(0, 1), (1, 1), (2, 1), (3, 1), (4, 1), (5, 1), (6, 0), (7, 1), (8, 0)] mixed (by kernel_rfl) ?_
  refine px_rd' rfl (rd_field0' rfl Try.underlying32 rfl info4 rfl) rfl rfl (wt_none' rfl) ?_
  refine px_rd' rfl (rd_load' (i := 2) (o := 0) rfl ⟨rfl, rfl, rfl, rfl⟩ rfl flat4) rfl rfl (wt_none' rfl) ?_
  refine px_rd' rfl (rd_field' (off := 1) rfl Try.underlying32 rfl info30 rfl) rfl rfl (wt_none' rfl) ?_
  refine px_rd' rfl (rd_load' (i := 2) (o := 1) rfl ⟨rfl, rfl, rfl, rfl⟩ rfl flat30) rfl rfl (wt_none' rfl) ?_
  refine px_rd' rfl (rd_field' (off := 1) rfl Try.underlying32 rfl info30 rfl) rfl rfl (wt_none' rfl) ?_
  refine px_rd' rfl (rd_load' (i := 1) (o := 1) rfl ⟨rfl, rfl, rfl, rfl⟩ rfl flat30) rfl rfl (wt_none' rfl) ?_
  obtain ⟨r34, hr34, hp⟩ := bind_some hp
  refine px_ox' rfl (ox_calln' (ent_fn' Try.func90 isn90 rfl rfl) (spec_subLimbs_sim _ _ hr34 : Sx.Fn Try.prog 90 [(Sl (Ki .u32) a0_1), (Sl (Ki .u32) a1_1)] [] (fun x : Unit => (Sl (Ki .u32) r34)) (fun x => [])) (Hn := fun x : Unit => [⟨.pointer (some q4), [(Vb false), Vn], 32, none⟩, ⟨.pointer (some q3), [(Vb a1_0), (Sl (Ki .u32) a1_1)], 32, none⟩, ⟨.pointer (some q2), [(Vb a0_0), (Sl (Ki .u32) a0_1)], 32, none⟩]) (fun _ => rfl) rfl rfl) rfl bs_nil (wt_none' rfl) fun ⟨⟩ => ?_
  refine px_rd' rfl (rd_build' (pls := [(0, 1), (1, 1)]) (qs := [(0, [(Vb a0_0)]), (1, [(Sl (Ki .u32) r34)])]) (r := [(Vb a0_0), (Sl (Ki .u32) r34)]) ⟨rfl, ⟨_, rfl, (lv_vl rfl rfl)⟩, ⟨rfl, ⟨_, rfl, (lv_sl _ _)⟩, trivial⟩⟩ Try.underlying32 has32 places32 info32 rfl rfl rfl) rfl rfl (wt_none' rfl) ?_
  refine px_oxv' rfl (oxv_store (i := 0) (o := 0) rfl rfl (lv_ag _) ⟨rfl, rfl, rfl, rfl⟩ rfl info32 rfl (H' := [⟨.pointer (some q4), [(Vb a0_0), (Sl (Ki .u32) r34)], 32, none⟩, ⟨.pointer (some q3), [(Vb a1_0), (Sl (Ki .u32) a1_1)], 32, none⟩, ⟨.pointer (some q2), [(Vb a0_0), (Sl (Ki .u32) a0_1)], 32, none⟩]) rfl) rfl rfl bo_nil (wt_none' rfl) fun _ => ?_
  refine px_nil' ?_
  show TX E K10 _
  refine tx_k' hK10 ?_
  refine cx_retc' ?_
  replace hp := Option.some.inj hp
  subst hp
  refine tx_pick' (L' := [(4, (Vp q4))]) (H' := [⟨.pointer (some q4), [(Vb a0_0), (Sl (Ki .u32) r34)], 32, none⟩]) [0] (sub_cons rfl sub_nil) (by decide) (pick_cons rfl pick_nil) ?_
  exact tx_ret1' Try.results75 rfl () (rv_cell_agg' (i := 0) (o := 0) (nn := 2) rfl ⟨rfl, rfl, rfl, rfl⟩ rfl agg32 rfl) (List.nil_sublist _)
 replace hp := (br_f h3).symm.trans hp
 refine cx_skip' ?_
 show TX E K5 _
 refine tx_k' hK5 ?_
 refine cx_seq' fun K11 hK11 => ?_
 refine cx_plan' [] [(8, 1)] [(0, 1), (1, 1), (2, 1), (3, 1), (4, 1), (5, 1), (6, 0), (7, 1), (8, 0)] mixed (by kernel_rfl) ?_
 refine px_rd' rfl (rd_field0' rfl Try.underlying32 rfl info4 rfl) rfl rfl (wt_none' rfl) ?_
 refine px_rd' rfl (rd_load' (i := 1) (o := 0) rfl ⟨rfl, rfl, rfl, rfl⟩ rfl flat4) rfl rfl (wt_none' rfl) ?_
 refine px_rd' rfl (rd_field' (off := 1) rfl Try.underlying32 rfl info30 rfl) rfl rfl (wt_none' rfl) ?_
 refine px_rd' rfl (rd_load' (i := 1) (o := 1) rfl ⟨rfl, rfl, rfl, rfl⟩ rfl flat30) rfl rfl (wt_none' rfl) ?_
 refine px_rd' rfl (rd_field' (off := 1) rfl Try.underlying32 rfl info30 rfl) rfl rfl (wt_none' rfl) ?_
 refine px_rd' rfl (rd_load' (i := 2) (o := 1) rfl ⟨rfl, rfl, rfl, rfl⟩ rfl flat30) rfl rfl (wt_none' rfl) ?_
 obtain ⟨r42, hr42, hp⟩ := bind_some hp
 refine px_ox' rfl (ox_calln' (ent_fn' Try.func90 isn90 rfl rfl) (spec_subLimbs_sim _ _ hr42 : Sx.Fn Try.prog 90 [(Sl (Ki .u32) a1_1), (Sl (Ki .u32) a0_1)] [] (fun x : Unit => (Sl (Ki .u32) r42)) (fun x => [])) (Hn := fun x : Unit => [⟨.pointer (some q4), [(Vb false), Vn], 32, none⟩, ⟨.pointer (some q3), [(Vb a1_0), (Sl (Ki .u32) a1_1)], 32, none⟩, ⟨.pointer (some q2), [(Vb a0_0), (Sl (Ki .u32) a0_1)], 32, none⟩]) (fun _ => rfl) rfl rfl) rfl bs_nil (wt_none' rfl) fun ⟨⟩ => ?_
 refine px_rd' rfl (rd_build' (pls := [(0, 1), (1, 1)]) (qs := [(0, [(Vb a1_0)]), (1, [(Sl (Ki .u32) r42)])]) (r := [(Vb a1_0), (Sl (Ki .u32) r42)]) ⟨rfl, ⟨_, rfl, (lv_vl rfl rfl)⟩, ⟨rfl, ⟨_, rfl, (lv_sl _ _)⟩, trivial⟩⟩ Try.underlying32 has32 places32 info32 rfl rfl rfl) rfl rfl (wt_none' rfl) ?_
 refine px_oxv' rfl (oxv_store (i := 0) (o := 0) rfl rfl (lv_ag _) ⟨rfl, rfl, rfl, rfl⟩ rfl info32 rfl (H' := [⟨.pointer (some q4), [(Vb a1_0), (Sl (Ki .u32) r42)], 32, none⟩, ⟨.pointer (some q3), [(Vb a1_0), (Sl (Ki .u32) a1_1)], 32, none⟩, ⟨.pointer (some q2), [(Vb a0_0), (Sl (Ki .u32) a0_1)], 32, none⟩]) rfl) rfl rfl bo_nil (wt_none' rfl) fun _ => ?_
 refine px_nil' ?_
 show TX E K11 _
 refine tx_k' hK11 ?_
 refine cx_retc' ?_
 replace hp := Option.some.inj hp
 subst hp
 refine tx_pick' (L' := [(4, (Vp q4))]) (H' := [⟨.pointer (some q4), [(Vb a1_0), (Sl (Ki .u32) r42)], 32, none⟩]) [0] (sub_cons rfl sub_nil) (by decide) (pick_cons rfl pick_nil) ?_
 exact tx_ret1' Try.results75 rfl () (rv_cell_agg' (i := 0) (o := 0) (nn := 2) rfl ⟨rfl, rfl, rfl, rfl⟩ rfl agg32 rfl) (List.nil_sublist _)

def spec_Dyadic_Add (k : Nat) (a0_0 : Bool) (a0_1 : List Int) (a0_2 : Int) (a1_0 : Bool) (a1_1 : List Int) (a1_2 : Int) : Option (Bool × (List Int) × Int) :=
 (spec_Dyadic_Sign k a0_0 a0_1 a0_2) >>= fun r7 =>
 br (decide (r7 = 0))
  (some (a1_0, a1_1, a1_2))
  ((spec_Dyadic_Sign k a1_0 a1_1 a1_2) >>= fun r12 =>
  br (decide (r12 = 0))
   (some (a0_0, a0_1, a0_2))
   (br (decide (a1_2 < a0_2))
    ((spec_Whole_Up k a0_0 a0_1 (isub .i64 a0_2 a1_2)) >>= fun r28 =>
    (spec_Whole_Add k r28.1 r28.2 a1_0 a1_1) >>= fun r31 =>
    some (r31.1, r31.2, a1_2))
    ((spec_Whole_Up k a1_0 a1_1 (isub .i64 a1_2 a0_2)) >>= fun r42 =>
    (spec_Whole_Add k r42.1 r42.2 a0_0 a0_1) >>= fun r45 =>
    some (r45.1, r45.2, a0_2))))

theorem spec_Dyadic_Add_sim {k : Nat}  (a0_0 : Bool) (a0_1 : List Int) (a0_2 : Int) (a1_0 : Bool) (a1_1 : List Int) (a1_2 : Int) {out : Bool × (List Int) × Int} (hp : spec_Dyadic_Add k a0_0 a0_1 a0_2 a1_0 a1_1 a1_2 = some out) : Sx.Fn Try.prog 54 [(Ag [(Vb a0_0), (Sl (Ki .u32) a0_1), (Vi a0_2)]), (Ag [(Vb a1_0), (Sl (Ki .u32) a1_1), (Vi a1_2)])] [] (fun w : Unit => (Ag [(Vb out.1), (Sl (Ki .u32) out.2.1), (Vi out.2.2)])) (fun w => []) := by
 unfold spec_Dyadic_Add at hp
 refine fn_of Try.func54 rfl Try.ntmps54 rfl fun E hM => ?_
 refine cr fun K1 hK1 => ?_
 refine sx_ox' (ox_box' rfl (lv_ag _) rfl rfl) (wt_none' rfl) fun q2 => ?_
 refine sx_ox' (ox_box' rfl (lv_ag _) rfl rfl) (wt_none' rfl) fun q3 => ?_
 refine sx_ox' (ox_alloc' info34 rfl rfl rfl rfl (l := [(Vb false), Vn, (Vi 0)]) rfl) (wt_none' rfl) fun q4 => ?_
 refine nk hK1 ?_
 refine cx_seq' fun K2 hK2 => ?_
 refine cx_block' ?_
 refine cr fun K3 hK3 => ?_
 refine s0 (rd_load_agg' (i := 2) (o := 0) (nn := 3) rfl ⟨rfl, rfl, rfl, rfl⟩ rfl agg34 (l' := [(Vb a0_0), (Sl (Ki .u32) a0_1), (Vi a0_2)]) rfl) ?_
 obtain ⟨r7, hr7, hp⟩ := bind_some hp
 refine sx_ox' (ox_calln' (ent_fn' Try.func28 isn28 rfl rfl) (spec_Dyadic_Sign_sim _ _ _ hr7 : Sx.Fn Try.prog 28 [(Ag [(Vb a0_0), (Sl (Ki .u32) a0_1), (Vi a0_2)])] [] (fun x : Unit => (Vi r7)) (fun x => [])) (Hn := fun x : Unit => [⟨.pointer (some q4), [(Vb false), Vn, (Vi 0)], 34, none⟩, ⟨.pointer (some q3), [(Vb a1_0), (Sl (Ki .u32) a1_1), (Vi a1_2)], 34, none⟩, ⟨.pointer (some q2), [(Vb a0_0), (Sl (Ki .u32) a0_1), (Vi a0_2)], 34, none⟩]) (fun _ => rfl) rfl rfl) (wt_none' rfl) fun ⟨⟩ => ?_
 refine s0 (rd_bin' rfl rfl eg_int ru_eql) ?_
 refine s0 (rd_assign' rfl) ?_
 refine nk hK3 ?_
 refine cx_cond' rfl (fun h1 => ?_) (fun h1 => ?_)
 ·replace hp := (br_t h1).symm.trans hp
  refine cr fun K4 hK4 => ?_
  refine s0 (rd_load_agg' (i := 1) (o := 0) (nn := 3) rfl ⟨rfl, rfl, rfl, rfl⟩ rfl agg34 (l' := [(Vb a1_0), (Sl (Ki .u32) a1_1), (Vi a1_2)]) rfl) ?_
  refine sx_ox' (ox_store' (i := 0) (o := 0) rfl rfl (lv_ag _) ⟨rfl, rfl, rfl, rfl⟩ rfl info34 rfl (H' := [⟨.pointer (some q4), [(Vb a1_0), (Sl (Ki .u32) a1_1), (Vi a1_2)], 34, none⟩, ⟨.pointer (some q3), [(Vb a1_0), (Sl (Ki .u32) a1_1), (Vi a1_2)], 34, none⟩, ⟨.pointer (some q2), [(Vb a0_0), (Sl (Ki .u32) a0_1), (Vi a0_2)], 34, none⟩]) rfl) (wt_none' rfl) fun _ => ?_
  refine nk hK4 ?_
  refine cx_retc' ?_
  replace hp := Option.some.inj hp
  subst hp
  refine tx_pick' (L' := [(4, (Vp q4))]) (H' := [⟨.pointer (some q4), [(Vb a1_0), (Sl (Ki .u32) a1_1), (Vi a1_2)], 34, none⟩]) [0] (sub_cons rfl sub_nil) (by decide) (pick_cons rfl pick_nil) ?_
  exact tx_ret1' Try.results54 rfl () (rv_cell_agg' (i := 0) (o := 0) (nn := 3) rfl ⟨rfl, rfl, rfl, rfl⟩ rfl agg34 rfl) (List.nil_sublist _)
 replace hp := (br_f h1).symm.trans hp
 refine cr fun K5 hK5 => ?_
 refine s0 (rd_load_agg' (i := 1) (o := 0) (nn := 3) rfl ⟨rfl, rfl, rfl, rfl⟩ rfl agg34 (l' := [(Vb a1_0), (Sl (Ki .u32) a1_1), (Vi a1_2)]) rfl) ?_
 obtain ⟨r12, hr12, hp⟩ := bind_some hp
 refine sx_ox' (ox_calln' (ent_fn' Try.func28 isn28 rfl rfl) (spec_Dyadic_Sign_sim _ _ _ hr12 : Sx.Fn Try.prog 28 [(Ag [(Vb a1_0), (Sl (Ki .u32) a1_1), (Vi a1_2)])] [] (fun x : Unit => (Vi r12)) (fun x => [])) (Hn := fun x : Unit => [⟨.pointer (some q4), [(Vb false), Vn, (Vi 0)], 34, none⟩, ⟨.pointer (some q3), [(Vb a1_0), (Sl (Ki .u32) a1_1), (Vi a1_2)], 34, none⟩, ⟨.pointer (some q2), [(Vb a0_0), (Sl (Ki .u32) a0_1), (Vi a0_2)], 34, none⟩]) (fun _ => rfl) rfl rfl) (wt_none' rfl) fun ⟨⟩ => ?_
 refine s0 (rd_bin' rfl rfl eg_int ru_eql) ?_
 refine s0 (rd_assign' rfl) ?_
 refine nk hK5 ?_
 refine cx_cond' rfl (fun h2 => ?_) (fun h2 => ?_)
 ·replace hp := (br_t h2).symm.trans hp
  refine cr fun K6 hK6 => ?_
  refine s0 (rd_load_agg' (i := 2) (o := 0) (nn := 3) rfl ⟨rfl, rfl, rfl, rfl⟩ rfl agg34 (l' := [(Vb a0_0), (Sl (Ki .u32) a0_1), (Vi a0_2)]) rfl) ?_
  refine sx_ox' (ox_store' (i := 0) (o := 0) rfl rfl (lv_ag _) ⟨rfl, rfl, rfl, rfl⟩ rfl info34 rfl (H' := [⟨.pointer (some q4), [(Vb a0_0), (Sl (Ki .u32) a0_1), (Vi a0_2)], 34, none⟩, ⟨.pointer (some q3), [(Vb a1_0), (Sl (Ki .u32) a1_1), (Vi a1_2)], 34, none⟩, ⟨.pointer (some q2), [(Vb a0_0), (Sl (Ki .u32) a0_1), (Vi a0_2)], 34, none⟩]) rfl) (wt_none' rfl) fun _ => ?_
  refine nk hK6 ?_
  refine cx_retc' ?_
  replace hp := Option.some.inj hp
  subst hp
  refine tx_pick' (L' := [(4, (Vp q4))]) (H' := [⟨.pointer (some q4), [(Vb a0_0), (Sl (Ki .u32) a0_1), (Vi a0_2)], 34, none⟩]) [0] (sub_cons rfl sub_nil) (by decide) (pick_cons rfl pick_nil) ?_
  exact tx_ret1' Try.results54 rfl () (rv_cell_agg' (i := 0) (o := 0) (nn := 3) rfl ⟨rfl, rfl, rfl, rfl⟩ rfl agg34 rfl) (List.nil_sublist _)
 replace hp := (br_f h2).symm.trans hp
 refine cr fun K7 hK7 => ?_
 refine s0 (rd_field' (off := 2) rfl Try.underlying34 rfl info3 rfl) ?_
 refine s0 (rd_load' (i := 2) (o := 2) rfl ⟨rfl, rfl, rfl, rfl⟩ rfl flat3) ?_
 refine s0 (rd_field' (off := 2) rfl Try.underlying34 rfl info3 rfl) ?_
 refine s0 (rd_load' (i := 1) (o := 2) rfl ⟨rfl, rfl, rfl, rfl⟩ rfl flat3) ?_
 refine s0 (rd_bin' rfl rfl eg_int ru_gtr) ?_
 refine s0 (rd_assign' rfl) ?_
 refine nk hK7 ?_
 refine cx_cond' rfl (fun h3 => ?_) (fun h3 => ?_)
 ·replace hp := (br_t h3).symm.trans hp
  refine cx_seq' fun K8 hK8 => ?_
  refine cx_plan' [] [(14, 1)] [(0, 1), (1, 1), (2, 1), (3, 1), (4, 1), (5, 1), (6, 1), (8, 1), (9, 1), (11, 1), (12, 1), (7, 0), (10, 0), (13, 1), (14, 0)] mixed (by kernel_rfl) ?_
  refine px_rd' rfl (rd_field0' rfl Try.underlying34 rfl info32 rfl) rfl rfl (wt_none' rfl) ?_
  refine px_rd' rfl (rd_load_agg' (i := 2) (o := 0) (nn := 2) rfl ⟨rfl, rfl, rfl, rfl⟩ rfl agg32 (l' := [(Vb a0_0), (Sl (Ki .u32) a0_1)]) rfl) rfl rfl (wt_none' rfl) ?_
  refine px_rd' rfl (rd_field' (off := 2) rfl Try.underlying34 rfl info3 rfl) rfl rfl (wt_none' rfl) ?_
  refine px_rd' rfl (rd_load' (i := 2) (o := 2) rfl ⟨rfl, rfl, rfl, rfl⟩ rfl flat3) rfl rfl (wt_none' rfl) ?_
  refine px_rd' rfl (rd_field' (off := 2) rfl Try.underlying34 rfl info3 rfl) rfl rfl (wt_none' rfl) ?_
  refine px_rd' rfl (rd_load' (i := 1) (o := 2) rfl ⟨rfl, rfl, rfl, rfl⟩ rfl flat3) rfl rfl (wt_none' rfl) ?_
  refine px_rd' rfl (rd_bin' rfl rfl eg_int ru_sub) rfl rfl (wt_none' rfl) ?_
  refine px_rd' rfl (rd_field0' rfl Try.underlying34 rfl info32 rfl) rfl rfl (wt_none' rfl) ?_
  refine px_rd' rfl (rd_load_agg' (i := 1) (o := 0) (nn := 2) rfl ⟨rfl, rfl, rfl, rfl⟩ rfl agg32 (l' := [(Vb a1_0), (Sl (Ki .u32) a1_1)]) rfl) rfl rfl (wt_none' rfl) ?_
  refine px_rd' rfl (rd_field' (off := 2) rfl Try.underlying34 rfl info3 rfl) rfl rfl (wt_none' rfl) ?_
  refine px_rd' rfl (rd_load' (i := 1) (o := 2) rfl ⟨rfl, rfl, rfl, rfl⟩ rfl flat3) rfl rfl (wt_none' rfl) ?_
  obtain ⟨r28, hr28, hp⟩ := bind_some hp
  refine px_ox' rfl (ox_calln' (ent_fn' Try.func74 isn74 rfl rfl) (spec_Whole_Up_sim _ _ _ hr28 : Sx.Fn Try.prog 74 [(Ag [(Vb a0_0), (Sl (Ki .u32) a0_1)]), (Vi (isub .i64 a0_2 a1_2))] [] (fun x : Unit => (Ag [(Vb r28.1), (Sl (Ki .u32) r28.2)])) (fun x => [])) (Hn := fun x : Unit => [⟨.pointer (some q4), [(Vb false), Vn, (Vi 0)], 34, none⟩, ⟨.pointer (some q3), [(Vb a1_0), (Sl (Ki .u32) a1_1), (Vi a1_2)], 34, none⟩, ⟨.pointer (some q2), [(Vb a0_0), (Sl (Ki .u32) a0_1), (Vi a0_2)], 34, none⟩]) (fun _ => rfl) rfl rfl) rfl bs_nil (wt_none' rfl) fun ⟨⟩ => ?_
  obtain ⟨r31, hr31, hp⟩ := bind_some hp
  refine px_ox' rfl (ox_calln' (ent_fn' Try.func75 isn75 rfl rfl) (spec_Whole_Add_sim _ _ _ _ hr31 : Sx.Fn Try.prog 75 [(Ag [(Vb r28.1), (Sl (Ki .u32) r28.2)]), (Ag [(Vb a1_0), (Sl (Ki .u32) a1_1)])] [] (fun x : Unit => (Ag [(Vb r31.1), (Sl (Ki .u32) r31.2)])) (fun x => [])) (Hn := fun x : Unit => [⟨.pointer (some q4), [(Vb false), Vn, (Vi 0)], 34, none⟩, ⟨.pointer (some q3), [(Vb a1_0), (Sl (Ki .u32) a1_1), (Vi a1_2)], 34, none⟩, ⟨.pointer (some q2), [(Vb a0_0), (Sl (Ki .u32) a0_1), (Vi a0_2)], 34, none⟩]) (fun _ => rfl) rfl rfl) rfl bs_nil (wt_none' rfl) fun ⟨⟩ => ?_
  refine px_rd' rfl (rd_build' (pls := [(0, 2), (2, 1)]) (qs := [(0, [(Vb r31.1), (Sl (Ki .u32) r31.2)]), (1, [(Vi a1_2)])]) (r := [(Vb r31.1), (Sl (Ki .u32) r31.2), (Vi a1_2)]) ⟨rfl, ⟨_, rfl, (lv_ag _)⟩, ⟨rfl, ⟨_, rfl, (lv_vl rfl rfl)⟩, trivial⟩⟩ Try.underlying34 has34 places34 info34 rfl rfl rfl) rfl rfl (wt_none' rfl) ?_
  refine px_oxv' rfl (oxv_store (i := 0) (o := 0) rfl rfl (lv_ag _) ⟨rfl, rfl, rfl, rfl⟩ rfl info34 rfl (H' := [⟨.pointer (some q4), [(Vb r31.1), (Sl (Ki .u32) r31.2), (Vi a1_2)], 34, none⟩, ⟨.pointer (some q3), [(Vb a1_0), (Sl (Ki .u32) a1_1), (Vi a1_2)], 34, none⟩, ⟨.pointer (some q2), [(Vb a0_0), (Sl (Ki .u32) a0_1), (Vi a0_2)], 34, none⟩]) rfl) rfl rfl bo_nil (wt_none' rfl) fun _ => ?_
  refine px_nil' ?_
  show TX E K8 _
  refine tx_k' hK8 ?_
  refine cx_retc' ?_
  replace hp := Option.some.inj hp
  subst hp
  refine tx_pick' (L' := [(4, (Vp q4))]) (H' := [⟨.pointer (some q4), [(Vb r31.1), (Sl (Ki .u32) r31.2), (Vi a1_2)], 34, none⟩]) [0] (sub_cons rfl sub_nil) (by decide) (pick_cons rfl pick_nil) ?_
  exact tx_ret1' Try.results54 rfl () (rv_cell_agg' (i := 0) (o := 0) (nn := 3) rfl ⟨rfl, rfl, rfl, rfl⟩ rfl agg34 rfl) (List.nil_sublist _)
 replace hp := (br_f h3).symm.trans hp
 refine cx_skip' ?_
 show TX E K2 _
 refine tx_k' hK2 ?_
 refine cx_seq' fun K9 hK9 => ?_
 refine cx_plan' [] [(14, 1)] [(0, 1), (1, 1), (2, 1), (3, 1), (4, 1), (5, 1), (6, 1), (8, 1), (9, 1), (11, 1), (12, 1), (7, 0), (10, 0), (13, 1), (14, 0)] mixed (by kernel_rfl) ?_
 refine px_rd' rfl (rd_field0' rfl Try.underlying34 rfl info32 rfl) rfl rfl (wt_none' rfl) ?_
 refine px_rd' rfl (rd_load_agg' (i := 1) (o := 0) (nn := 2) rfl ⟨rfl, rfl, rfl, rfl⟩ rfl agg32 (l' := [(Vb a1_0), (Sl (Ki .u32) a1_1)]) rfl) rfl rfl (wt_none' rfl) ?_
 refine px_rd' rfl (rd_field' (off := 2) rfl Try.underlying34 rfl info3 rfl) rfl rfl (wt_none' rfl) ?_
 refine px_rd' rfl (rd_load' (i := 1) (o := 2) rfl ⟨rfl, rfl, rfl, rfl⟩ rfl flat3) rfl rfl (wt_none' rfl) ?_
 refine px_rd' rfl (rd_field' (off := 2) rfl Try.underlying34 rfl info3 rfl) rfl rfl (wt_none' rfl) ?_
 refine px_rd' rfl (rd_load' (i := 2) (o := 2) rfl ⟨rfl, rfl, rfl, rfl⟩ rfl flat3) rfl rfl (wt_none' rfl) ?_
 refine px_rd' rfl (rd_bin' rfl rfl eg_int ru_sub) rfl rfl (wt_none' rfl) ?_
 refine px_rd' rfl (rd_field0' rfl Try.underlying34 rfl info32 rfl) rfl rfl (wt_none' rfl) ?_
 refine px_rd' rfl (rd_load_agg' (i := 2) (o := 0) (nn := 2) rfl ⟨rfl, rfl, rfl, rfl⟩ rfl agg32 (l' := [(Vb a0_0), (Sl (Ki .u32) a0_1)]) rfl) rfl rfl (wt_none' rfl) ?_
 refine px_rd' rfl (rd_field' (off := 2) rfl Try.underlying34 rfl info3 rfl) rfl rfl (wt_none' rfl) ?_
 refine px_rd' rfl (rd_load' (i := 2) (o := 2) rfl ⟨rfl, rfl, rfl, rfl⟩ rfl flat3) rfl rfl (wt_none' rfl) ?_
 obtain ⟨r42, hr42, hp⟩ := bind_some hp
 refine px_ox' rfl (ox_calln' (ent_fn' Try.func74 isn74 rfl rfl) (spec_Whole_Up_sim _ _ _ hr42 : Sx.Fn Try.prog 74 [(Ag [(Vb a1_0), (Sl (Ki .u32) a1_1)]), (Vi (isub .i64 a1_2 a0_2))] [] (fun x : Unit => (Ag [(Vb r42.1), (Sl (Ki .u32) r42.2)])) (fun x => [])) (Hn := fun x : Unit => [⟨.pointer (some q4), [(Vb false), Vn, (Vi 0)], 34, none⟩, ⟨.pointer (some q3), [(Vb a1_0), (Sl (Ki .u32) a1_1), (Vi a1_2)], 34, none⟩, ⟨.pointer (some q2), [(Vb a0_0), (Sl (Ki .u32) a0_1), (Vi a0_2)], 34, none⟩]) (fun _ => rfl) rfl rfl) rfl bs_nil (wt_none' rfl) fun ⟨⟩ => ?_
 obtain ⟨r45, hr45, hp⟩ := bind_some hp
 refine px_ox' rfl (ox_calln' (ent_fn' Try.func75 isn75 rfl rfl) (spec_Whole_Add_sim _ _ _ _ hr45 : Sx.Fn Try.prog 75 [(Ag [(Vb r42.1), (Sl (Ki .u32) r42.2)]), (Ag [(Vb a0_0), (Sl (Ki .u32) a0_1)])] [] (fun x : Unit => (Ag [(Vb r45.1), (Sl (Ki .u32) r45.2)])) (fun x => [])) (Hn := fun x : Unit => [⟨.pointer (some q4), [(Vb false), Vn, (Vi 0)], 34, none⟩, ⟨.pointer (some q3), [(Vb a1_0), (Sl (Ki .u32) a1_1), (Vi a1_2)], 34, none⟩, ⟨.pointer (some q2), [(Vb a0_0), (Sl (Ki .u32) a0_1), (Vi a0_2)], 34, none⟩]) (fun _ => rfl) rfl rfl) rfl bs_nil (wt_none' rfl) fun ⟨⟩ => ?_
 refine px_rd' rfl (rd_build' (pls := [(0, 2), (2, 1)]) (qs := [(0, [(Vb r45.1), (Sl (Ki .u32) r45.2)]), (1, [(Vi a0_2)])]) (r := [(Vb r45.1), (Sl (Ki .u32) r45.2), (Vi a0_2)]) ⟨rfl, ⟨_, rfl, (lv_ag _)⟩, ⟨rfl, ⟨_, rfl, (lv_vl rfl rfl)⟩, trivial⟩⟩ Try.underlying34 has34 places34 info34 rfl rfl rfl) rfl rfl (wt_none' rfl) ?_
 refine px_oxv' rfl (oxv_store (i := 0) (o := 0) rfl rfl (lv_ag _) ⟨rfl, rfl, rfl, rfl⟩ rfl info34 rfl (H' := [⟨.pointer (some q4), [(Vb r45.1), (Sl (Ki .u32) r45.2), (Vi a0_2)], 34, none⟩, ⟨.pointer (some q3), [(Vb a1_0), (Sl (Ki .u32) a1_1), (Vi a1_2)], 34, none⟩, ⟨.pointer (some q2), [(Vb a0_0), (Sl (Ki .u32) a0_1), (Vi a0_2)], 34, none⟩]) rfl) rfl rfl bo_nil (wt_none' rfl) fun _ => ?_
 refine px_nil' ?_
 show TX E K9 _
 refine tx_k' hK9 ?_
 refine cx_retc' ?_
 replace hp := Option.some.inj hp
 subst hp
 refine tx_pick' (L' := [(4, (Vp q4))]) (H' := [⟨.pointer (some q4), [(Vb r45.1), (Sl (Ki .u32) r45.2), (Vi a0_2)], 34, none⟩]) [0] (sub_cons rfl sub_nil) (by decide) (pick_cons rfl pick_nil) ?_
 exact tx_ret1' Try.results54 rfl () (rv_cell_agg' (i := 0) (o := 0) (nn := 3) rfl ⟨rfl, rfl, rfl, rfl⟩ rfl agg34 rfl) (List.nil_sublist _)

def spec_Dyadic_Sub (k : Nat) (a0_0 : Bool) (a0_1 : List Int) (a0_2 : Int) (a1_0 : Bool) (a1_1 : List Int) (a1_2 : Int) : Option (Bool × (List Int) × Int) :=
 (spec_Dyadic_Minus k a1_0 a1_1 a1_2) >>= fun r7 =>
 (spec_Dyadic_Add k a0_0 a0_1 a0_2 r7.1 r7.2.1 r7.2.2) >>= fun r8 =>
 some (r8.1, r8.2.1, r8.2.2)

theorem spec_Dyadic_Sub_sim {k : Nat}  (a0_0 : Bool) (a0_1 : List Int) (a0_2 : Int) (a1_0 : Bool) (a1_1 : List Int) (a1_2 : Int) {out : Bool × (List Int) × Int} (hp : spec_Dyadic_Sub k a0_0 a0_1 a0_2 a1_0 a1_1 a1_2 = some out) : Sx.Fn Try.prog 27 [(Ag [(Vb a0_0), (Sl (Ki .u32) a0_1), (Vi a0_2)]), (Ag [(Vb a1_0), (Sl (Ki .u32) a1_1), (Vi a1_2)])] [] (fun w : Unit => (Ag [(Vb out.1), (Sl (Ki .u32) out.2.1), (Vi out.2.2)])) (fun w => []) := by
 unfold spec_Dyadic_Sub at hp
 refine fn_of Try.func27 rfl Try.ntmps27 rfl fun E hM => ?_
 refine cr fun K1 hK1 => ?_
 refine sx_ox' (ox_box' rfl (lv_ag _) rfl rfl) (wt_none' rfl) fun q2 => ?_
 refine sx_ox' (ox_box' rfl (lv_ag _) rfl rfl) (wt_none' rfl) fun q3 => ?_
 refine sx_ox' (ox_alloc' info34 rfl rfl rfl rfl (l := [(Vb false), Vn, (Vi 0)]) rfl) (wt_none' rfl) fun q4 => ?_
 refine nk hK1 ?_
 refine cx_seq' fun K2 hK2 => ?_
 refine cx_plan' [] [(4, 1)] [(0, 1), (1, 1), (2, 0), (3, 0), (4, 0)] mixed (by kernel_rfl) ?_
 refine px_rd' rfl (rd_load_agg' (i := 2) (o := 0) (nn := 3) rfl ⟨rfl, rfl, rfl, rfl⟩ rfl agg34 (l' := [(Vb a0_0), (Sl (Ki .u32) a0_1), (Vi a0_2)]) rfl) rfl rfl (wt_none' rfl) ?_
 refine px_rd' rfl (rd_load_agg' (i := 1) (o := 0) (nn := 3) rfl ⟨rfl, rfl, rfl, rfl⟩ rfl agg34 (l' := [(Vb a1_0), (Sl (Ki .u32) a1_1), (Vi a1_2)]) rfl) rfl rfl (wt_none' rfl) ?_
 obtain ⟨r7, hr7, hp⟩ := bind_some hp
 refine px_ox' rfl (ox_calln' (ent_fn' Try.func56 isn56 rfl rfl) (spec_Dyadic_Minus_sim _ _ _ hr7 : Sx.Fn Try.prog 56 [(Ag [(Vb a1_0), (Sl (Ki .u32) a1_1), (Vi a1_2)])] [] (fun x : Unit => (Ag [(Vb r7.1), (Sl (Ki .u32) r7.2.1), (Vi r7.2.2)])) (fun x => [])) (Hn := fun x : Unit => [⟨.pointer (some q4), [(Vb false), Vn, (Vi 0)], 34, none⟩, ⟨.pointer (some q3), [(Vb a1_0), (Sl (Ki .u32) a1_1), (Vi a1_2)], 34, none⟩, ⟨.pointer (some q2), [(Vb a0_0), (Sl (Ki .u32) a0_1), (Vi a0_2)], 34, none⟩]) (fun _ => rfl) rfl rfl) rfl bs_nil (wt_none' rfl) fun ⟨⟩ => ?_
 obtain ⟨r8, hr8, hp⟩ := bind_some hp
 refine px_ox' rfl (ox_calln' (ent_fn' Try.func54 isn54 rfl rfl) (spec_Dyadic_Add_sim _ _ _ _ _ _ hr8 : Sx.Fn Try.prog 54 [(Ag [(Vb a0_0), (Sl (Ki .u32) a0_1), (Vi a0_2)]), (Ag [(Vb r7.1), (Sl (Ki .u32) r7.2.1), (Vi r7.2.2)])] [] (fun x : Unit => (Ag [(Vb r8.1), (Sl (Ki .u32) r8.2.1), (Vi r8.2.2)])) (fun x => [])) (Hn := fun x : Unit => [⟨.pointer (some q4), [(Vb false), Vn, (Vi 0)], 34, none⟩, ⟨.pointer (some q3), [(Vb a1_0), (Sl (Ki .u32) a1_1), (Vi a1_2)], 34, none⟩, ⟨.pointer (some q2), [(Vb a0_0), (Sl (Ki .u32) a0_1), (Vi a0_2)], 34, none⟩]) (fun _ => rfl) rfl rfl) rfl bs_nil (wt_none' rfl) fun ⟨⟩ => ?_
 refine px_oxv' rfl (oxv_store (i := 0) (o := 0) rfl rfl (lv_ag _) ⟨rfl, rfl, rfl, rfl⟩ rfl info34 rfl (H' := [⟨.pointer (some q4), [(Vb r8.1), (Sl (Ki .u32) r8.2.1), (Vi r8.2.2)], 34, none⟩, ⟨.pointer (some q3), [(Vb a1_0), (Sl (Ki .u32) a1_1), (Vi a1_2)], 34, none⟩, ⟨.pointer (some q2), [(Vb a0_0), (Sl (Ki .u32) a0_1), (Vi a0_2)], 34, none⟩]) rfl) rfl rfl bo_nil (wt_none' rfl) fun _ => ?_
 refine px_nil' ?_
 show TX E K2 _
 refine tx_k' hK2 ?_
 refine cx_retc' ?_
 replace hp := Option.some.inj hp
 subst hp
 refine tx_pick' (L' := [(4, (Vp q4))]) (H' := [⟨.pointer (some q4), [(Vb r8.1), (Sl (Ki .u32) r8.2.1), (Vi r8.2.2)], 34, none⟩]) [0] (sub_cons rfl sub_nil) (by decide) (pick_cons rfl pick_nil) ?_
 exact tx_ret1' Try.results27 rfl () (rv_cell_agg' (i := 0) (o := 0) (nn := 3) rfl ⟨rfl, rfl, rfl, rfl⟩ rfl agg34 rfl) (List.nil_sublist _)

def spec_Whole_Mul_l2s (a1_1 : List Int) (x12 : Int) (r26 : Int) (k : Nat) (rec2 : ((List Int) × Int × Int) → Option ((List Int) × Int)) (x6 : List Int) (x7 : Int) (x8 : Int) : Option ((List Int) × Int) :=
 br (decide (x8 < (a1_1.length : Int)))
  ((idx a1_1 x8) >>= fun r34 =>
  (idx x6 (iadd .i64 x12 x8)) >>= fun r45 =>
  (idx x6 (iadd .i64 x12 x8)) >>= fun r57 =>
  (ishr .u64 (iadd .u64 (iadd .u64 (imul .u64 (icv .u64 r26) (icv .u64 r34)) (icv .u64 r45)) x7) 32) >>= fun r59 =>
  rec2 ((x6.set (iadd .i64 x12 x8).toNat (icv .u32 (iadd .u64 (iadd .u64 (imul .u64 (icv .u64 r26) (icv .u64 r34)) (icv .u64 r45)) x7))), r59, (iadd .i64 x8 1)))
  (some (x6, x7))
def spec_Whole_Mul_l2 (a1_1 : List Int) (x12 : Int) (r26 : Int) : Nat → ((List Int) × Int × Int) → Option ((List Int) × Int)
 | 0, _ => none
 | k + 1, v => spec_Whole_Mul_l2s a1_1 x12 r26 k (spec_Whole_Mul_l2 a1_1 x12 r26 k) v.1 v.2.1 v.2.2
def spec_Whole_Mul_l3s (a0_1 : List Int) (a1_1 : List Int) (k : Nat) (rec3 : ((List Int) × Int) → Option ((List Int))) (x11 : List Int) (x12 : Int) : Option ((List Int)) :=
 br (decide (x12 < (a0_1.length : Int)))
  ((idx a0_1 x12) >>= fun r26 =>
  (spec_Whole_Mul_l2 a1_1 x12 r26 k (x11, 0, 0)) >>= fun v5 =>
  (idx v5.1 (iadd .i64 x12 (a1_1.length : Int))) >>= fun r69 =>
  rec3 ((v5.1.set (iadd .i64 x12 (a1_1.length : Int)).toNat (icv .u32 v5.2)), (iadd .i64 x12 1)))
  (some x11)
def spec_Whole_Mul_l3 (a0_1 : List Int) (a1_1 : List Int) : Nat → ((List Int) × Int) → Option ((List Int))
 | 0, _ => none
 | k + 1, v => spec_Whole_Mul_l3s a0_1 a1_1 k (spec_Whole_Mul_l3 a0_1 a1_1 k) v.1 v.2
def spec_Whole_Mul_j1 (k : Nat) (r72 : (List Int)) (x14 : Bool) : Option (Bool × (List Int)) :=
 some (x14, r72)
def spec_Whole_Mul (k : Nat) (a0_0 : Bool) (a0_1 : List Int) (a1_0 : Bool) (a1_1 : List Int) : Option (Bool × (List Int)) :=
 (mk 4 0 (iadd .i64 (a0_1.length : Int) (a1_1.length : Int)) (iadd .i64 (a0_1.length : Int) (a1_1.length : Int))) >>= fun r19 =>
 (spec_Whole_Mul_l3 a0_1 a1_1 k (r19, 0)) >>= fun v6 =>
 (spec_trim k v6) >>= fun r72 =>
 br (decide (0 < (r72.length : Int)))
  (spec_Whole_Mul_j1 k r72 (!(a0_0 == a1_0)))
  (spec_Whole_Mul_j1 k r72 false)

theorem spec_Whole_Mul_sim {k : Nat}  (a0_0 : Bool) (a0_1 : List Int) (a1_0 : Bool) (a1_1 : List Int) {out : Bool × (List Int)} (hp : spec_Whole_Mul k a0_0 a0_1 a1_0 a1_1 = some out) : Sx.Fn Try.prog 55 [(Ag [(Vb a0_0), (Sl (Ki .u32) a0_1)]), (Ag [(Vb a1_0), (Sl (Ki .u32) a1_1)])] [] (fun w : Unit => (Ag [(Vb out.1), (Sl (Ki .u32) out.2)])) (fun w => []) := by
 unfold spec_Whole_Mul at hp
 refine fn_of Try.func55 rfl Try.ntmps55 rfl fun E hM => ?_
 refine cr fun K1 hK1 => ?_
 refine sx_ox' (ox_box' rfl (lv_ag _) rfl rfl) (wt_none' rfl) fun q2 => ?_
 refine sx_ox' (ox_box' rfl (lv_ag _) rfl rfl) (wt_none' rfl) fun q3 => ?_
 refine sx_ox' (ox_alloc' info32 rfl rfl rfl rfl (l := [(Vb false), Vn]) rfl) (wt_none' rfl) fun q4 => ?_
 refine nk hK1 ?_
 refine cr fun K2 hK2 => ?_
 refine s0 (rd_field' (off := 1) rfl Try.underlying32 rfl info30 rfl) ?_
 refine s0 (rd_load' (i := 2) (o := 1) rfl ⟨rfl, rfl, rfl, rfl⟩ rfl flat30) ?_
 refine s0 (rd_len' rfl Try.underlying30) ?_
 refine s0 (rd_field' (off := 1) rfl Try.underlying32 rfl info30 rfl) ?_
 refine s0 (rd_load' (i := 1) (o := 1) rfl ⟨rfl, rfl, rfl, rfl⟩ rfl flat30) ?_
 refine s0 (rd_len' rfl Try.underlying30) ?_
 refine s0 (rd_bin' rfl rfl eg_int ru_add) ?_
 obtain ⟨r19, hr19, hp⟩ := bind_some hp
 refine sx_ox' (ox_make' (K := (Ki .u32)) rfl rfl hr19 rfl Try.underlying30 info91 rfl rfl rfl rfl rfl) (wt_none' rfl) fun g19 => ?_
 refine s0 (rd_assign' rfl) ?_
 refine nk hK2 ?_
 refine cx_seq' fun K3 hK3 => ?_
 refine cr fun K4 hK4 => ?_
 refine s0 (rd_field' (off := 1) rfl Try.underlying32 rfl info30 rfl) ?_
 refine s0 (rd_load' (i := 3) (o := 1) rfl ⟨rfl, rfl, rfl, rfl⟩ rfl flat30) ?_
 refine s0 (rd_len' rfl Try.underlying30) ?_
 refine s0 (rd_move' rfl) ?_
 refine nk hK4 ?_
 refine cx_block' ?_
 obtain ⟨v6, hy3, hp⟩ := bind_some hp
 refine cx_loopg' (F := spec_Whole_Mul_l3 a0_1 a1_1) (G := fun k R v => spec_Whole_Mul_l3s a0_1 a1_1 k R v.1 v.2) (x := (r19, 0)) (gh := ()) (fun (v3 : (List Int) × Int) (w3 : Unit) => (⟨85, [], [(2, (Vp q2)), (3, (Vp q3)), (4, (Vp q4)), (5, (Vl (Vs g19))), (21, (Sl (Ki .u32) a0_1)), (22, (Vi (a0_1.length : Int))), (23, (Vi v3.2))], [⟨.pointer (some q2), [(Vb a0_0), (Sl (Ki .u32) a0_1)], 32, none⟩, ⟨.pointer (some q3), [(Vb a1_0), (Sl (Ki .u32) a1_1)], 32, none⟩, ⟨.pointer (some q4), [(Vb false), Vn], 32, none⟩, (Rw (Ki .u32) 91 (Vs g19) v3.1)]⟩ : St)) (fun (v6 : (List Int)) => Zg E (Exit.exit 0) (fun (w6 : Unit) => (⟨85, [], [(2, (Vp q2)), (3, (Vp q3)), (4, (Vp q4)), (5, (Vl (Vs g19)))], [⟨.pointer (some q2), [(Vb a0_0), (Sl (Ki .u32) a0_1)], 32, none⟩, ⟨.pointer (some q3), [(Vb a1_0), (Sl (Ki .u32) a1_1)], 32, none⟩, ⟨.pointer (some q4), [(Vb false), Vn], 32, none⟩, (Rw (Ki .u32) 91 (Vs g19) v6)]⟩ : St))) (fun _ => rfl) (fun _ _ => rfl) ?_ hy3 (tx_to' rfl [3, 2, 1, 0] (sub_cons rfl (sub_cons rfl (sub_cons rfl (sub_cons rfl (sub_cons rfl (sub_cons rfl (sub_cons rfl sub_nil))))))) (by decide) (pick_cons rfl (pick_cons rfl (pick_cons rfl (pick_cons rfl pick_nil))))) ?_
 ·clear hp hy3
  clear v6
  intro k rec3 KY3 ih3
  rintro ⟨x11, x12⟩ ⟨⟩ y3 hp
  replace hp : spec_Whole_Mul_l3s a0_1 a1_1 k rec3 x11 x12 = some y3 := hp
  unfold spec_Whole_Mul_l3s at hp
  refine cr fun K24 hK24 => ?_
  refine s0 (rd_bin' rfl rfl eg_int ru_lss) ?_
  refine nk hK24 ?_
  refine cx_seq' fun K25 hK25 => ?_
  refine cx_cond' rfl (fun h6 => ?_) (fun h6 => ?_)
  ·replace hp := (br_t h6).symm.trans hp
   refine cx_skip' ?_
   show TX E K25 _
   refine tx_k' hK25 ?_
   refine cx_seq' fun K26 hK26 => ?_
   refine cx_block' ?_
   refine cr fun K27 hK27 => ?_
   refine s0 (rd_move' rfl) ?_
   obtain ⟨r26, hr26, hp⟩ := bind_some hp
   refine s0 (rd_at' (K := (Ki .u32)) rfl rfl hr26 Try.underlying30 info91) ?_
   refine s0 (rd_load_pt' rfl rfl flat91) ?_
   refine s0 (rd_assign' rfl) ?_
   refine s0 (rd_assign' rfl) ?_
   refine nk hK27 ?_
   refine cr fun K28 hK28 => ?_
   refine s0 (rd_assign' rfl) ?_
   refine nk hK28 ?_
   refine cx_seq' fun K29 hK29 => ?_
   refine cr fun K30 hK30 => ?_
   refine s0 (rd_field' (off := 1) rfl Try.underlying32 rfl info30 rfl) ?_
   refine s0 (rd_load' (i := 1) (o := 1) rfl ⟨rfl, rfl, rfl, rfl⟩ rfl flat30) ?_
   refine s0 (rd_len' rfl Try.underlying30) ?_
   refine s0 (rd_move' rfl) ?_
   refine nk hK30 ?_
   refine cx_block' ?_
   obtain ⟨v5, hy2, hp⟩ := bind_some hp
   refine cx_loopg' (F := spec_Whole_Mul_l2 a1_1 x12 r26) (G := fun k R v => spec_Whole_Mul_l2s a1_1 x12 r26 k R v.1 v.2.1 v.2.2) (x := (x11, 0, 0)) (gh := ()) (fun (v4 : (List Int) × Int × Int) (w4 : Unit) => (⟨85, [], [(2, (Vp q2)), (3, (Vp q3)), (4, (Vp q4)), (5, (Vl (Vs g19))), (6, (Vi x12)), (7, (Vl (.int .u32 r26))), (8, (Vl (.int .u64 v4.2.1))), (21, (Sl (Ki .u32) a0_1)), (22, (Vi (a0_1.length : Int))), (23, (Vi x12)), (29, (Sl (Ki .u32) a1_1)), (30, (Vi (a1_1.length : Int))), (31, (Vi v4.2.2))], [⟨.pointer (some q2), [(Vb a0_0), (Sl (Ki .u32) a0_1)], 32, none⟩, ⟨.pointer (some q3), [(Vb a1_0), (Sl (Ki .u32) a1_1)], 32, none⟩, ⟨.pointer (some q4), [(Vb false), Vn], 32, none⟩, (Rw (Ki .u32) 91 (Vs g19) v4.1)]⟩ : St)) (fun (v5 : (List Int) × Int) => Zg E (Exit.exit 2) (fun (w5 : Unit) => (⟨85, [], [(2, (Vp q2)), (3, (Vp q3)), (4, (Vp q4)), (5, (Vl (Vs g19))), (6, (Vi x12)), (8, (Vl (.int .u64 v5.2))), (21, (Sl (Ki .u32) a0_1)), (22, (Vi (a0_1.length : Int))), (23, (Vi x12))], [⟨.pointer (some q2), [(Vb a0_0), (Sl (Ki .u32) a0_1)], 32, none⟩, ⟨.pointer (some q3), [(Vb a1_0), (Sl (Ki .u32) a1_1)], 32, none⟩, ⟨.pointer (some q4), [(Vb false), Vn], 32, none⟩, (Rw (Ki .u32) 91 (Vs g19) v5.1)]⟩ : St))) (fun _ => rfl) (fun _ _ => rfl) ?_ hy2 (tx_to' rfl [0, 1, 2, 3] (sub_cons rfl (sub_cons rfl (sub_cons rfl (sub_cons rfl (sub_cons rfl (sub_cons rfl (sub_cons rfl (sub_cons rfl (sub_cons rfl (sub_cons rfl (sub_cons rfl (sub_cons rfl (sub_cons rfl sub_nil))))))))))))) (by decide) (pick_cons rfl (pick_cons rfl (pick_cons rfl (pick_cons rfl pick_nil))))) ?_
   ·clear hp hy2
    clear v5
    intro k rec2 KY2 ih2
    rintro ⟨x6, x7, x8⟩ ⟨⟩ y2 hp
    replace hp : spec_Whole_Mul_l2s a1_1 x12 r26 k rec2 x6 x7 x8 = some y2 := hp
    unfold spec_Whole_Mul_l2s at hp
    refine cr fun K37 hK37 => ?_
    refine s0 (rd_bin' rfl rfl eg_int ru_lss) ?_
    refine nk hK37 ?_
    refine cx_seq' fun K38 hK38 => ?_
    refine cx_cond' rfl (fun h9 => ?_) (fun h9 => ?_)
    ·replace hp := (br_t h9).symm.trans hp
     refine cx_skip' ?_
     show TX E K38 _
     refine tx_k' hK38 ?_
     refine cx_seq' fun K39 hK39 => ?_
     refine cx_block' ?_
     refine cr fun K40 hK40 => ?_
     refine s0 (rd_move' rfl) ?_
     obtain ⟨r34, hr34, hp⟩ := bind_some hp
     refine s0 (rd_at' (K := (Ki .u32)) rfl rfl hr34 Try.underlying30 info91) ?_
     refine s0 (rd_load_pt' rfl rfl flat91) ?_
     refine s0 (rd_assign' rfl) ?_
     refine s0 (rd_assign' rfl) ?_
     refine nk hK40 ?_
     refine cr fun K41 hK41 => ?_
     refine s0 (rd_move' rfl) ?_
     refine s0 (rd_conv' rfl (ru_i2i (by rw [Try.underlying91]; rfl) Try.underlying74)) ?_
     refine s0 (rd_move' rfl) ?_
     refine s0 (rd_conv' rfl (ru_i2i (by rw [Try.underlying91]; rfl) Try.underlying74)) ?_
     refine s0 (rd_bin' rfl rfl eg_int ru_mul) ?_
     refine s0 (rd_move' rfl) ?_
     refine s0 (rd_move' rfl) ?_
     refine s0 (rd_move' rfl) ?_
     refine s0 (rd_bin' rfl rfl eg_int ru_add) ?_
     obtain ⟨r45, hr45, hp⟩ := bind_some hp
     refine s0 (rd_atr' (m := 3) rfl rfl rfl rfl hr45 Try.underlying30 info91) ?_
     refine s0 (rd_loadr' rfl (m := 3) (i := (iadd .i64 x12 x8)) (j := 0) rfl rfl hr45 rfl rfl flat91) ?_
     refine s0 (rd_conv' rfl (ru_i2i (by rw [Try.underlying91]; rfl) Try.underlying74)) ?_
     refine s0 (rd_bin' rfl rfl eg_int ru_add) ?_
     refine s0 (rd_move' rfl) ?_
     refine s0 (rd_bin' rfl rfl eg_int ru_add) ?_
     refine s0 (rd_assign' rfl) ?_
     refine nk hK41 ?_
     refine cr fun K42 hK42 => ?_
     refine s0 (rd_move' rfl) ?_
     refine s0 (rd_move' rfl) ?_
     refine s0 (rd_move' rfl) ?_
     refine s0 (rd_bin' rfl rfl eg_int ru_add) ?_
     refine s0 (rd_move' rfl) ?_
     refine s0 (rd_conv' rfl (ru_i2i (by rw [Try.underlying74]; rfl) Try.underlying91)) ?_
     obtain ⟨r57, hr57, hp⟩ := bind_some hp
     refine s0 (rd_atr' (m := 3) rfl rfl rfl rfl hr57 Try.underlying30 info91) ?_
     refine sx_ox' (ox_storer' (m := 3) (i := (iadd .i64 x12 x8)) (j := 0) (x' := (icv .u32 (iadd .u64 (iadd .u64 (imul .u64 (icv .u64 r26) (icv .u64 r34)) (icv .u64 r45)) x7))) rfl rfl (lv_vl rfl rfl) rfl rfl hr57 rfl rfl rfl info91 rfl (H' := [⟨.pointer (some q2), [(Vb a0_0), (Sl (Ki .u32) a0_1)], 32, none⟩, ⟨.pointer (some q3), [(Vb a1_0), (Sl (Ki .u32) a1_1)], 32, none⟩, ⟨.pointer (some q4), [(Vb false), Vn], 32, none⟩, (Rw (Ki .u32) 91 (Vs g19) (x6.set (iadd .i64 x12 x8).toNat (icv .u32 (iadd .u64 (iadd .u64 (imul .u64 (icv .u64 r26) (icv .u64 r34)) (icv .u64 r45)) x7))))]) rfl) (wt_none' rfl) fun _ => ?_
     refine nk hK42 ?_
     refine cx_region' ?_
     refine s0 (rd_move' rfl) ?_
     obtain ⟨r59, hr59, hp⟩ := bind_some hp
     refine s0 (rd_bin' rfl rfl eg_int (ru_shr hr59)) ?_
     refine s0 (rd_assign' rfl) ?_
     refine nk hK39 ?_
     refine cx_region' ?_
     refine s0 (rd_bin' rfl rfl eg_int ru_add) ?_
     refine s0 (rd_move' rfl) ?_
     refine sx_nil' ?_
     show TX E (KY2 _) _
     exact tx_pick' [0, 1, 2, 3] (sub_cons rfl (sub_cons rfl (sub_cons rfl (sub_cons rfl (sub_cons rfl (sub_cons rfl (sub_cons rfl (sub_cons rfl (sub_cons rfl (sub_cons rfl (sub_cons rfl (sub_cons rfl (sub_cons rfl sub_nil))))))))))))) (by decide) (pick_cons rfl (pick_cons rfl (pick_cons rfl (pick_cons rfl pick_nil)))) (ih2 ((x6.set (iadd .i64 x12 x8).toNat (icv .u32 (iadd .u64 (iadd .u64 (imul .u64 (icv .u64 r26) (icv .u64 r34)) (icv .u64 r45)) x7))), r59, (iadd .i64 x8 1)) () _ hp)
    replace hp := (br_f h9).symm.trans hp
    refine cx_exit' ?_
    replace hp := Option.some.inj hp
    subst hp
    show TX E (Zg E (Exit.exit 2) _ (Exit.exit 2)) _
    exact tx_zend' () rfl [0, 1, 2, 3] (sub_cons rfl (sub_cons rfl (sub_cons rfl (sub_cons rfl (sub_cons rfl (sub_cons rfl (sub_cons rfl (sub_cons rfl (sub_cons rfl sub_nil))))))))) (by decide) (pick_cons rfl (pick_cons rfl (pick_cons rfl (pick_cons rfl pick_nil))))
   refine zg_out fun w5 => ?_
   show TX E K29 _
   refine tx_k' hK29 ?_
   refine cx_region' ?_
   refine s0 (rd_move' rfl) ?_
   refine s0 (rd_move' rfl) ?_
   refine s0 (rd_field' (off := 1) rfl Try.underlying32 rfl info30 rfl) ?_
   refine s0 (rd_load' (i := 1) (o := 1) rfl ⟨rfl, rfl, rfl, rfl⟩ rfl flat30) ?_
   refine s0 (rd_len' rfl Try.underlying30) ?_
   refine s0 (rd_bin' rfl rfl eg_int ru_add) ?_
   refine s0 (rd_move' rfl) ?_
   refine s0 (rd_conv' rfl (ru_i2i (by rw [Try.underlying74]; rfl) Try.underlying91)) ?_
   obtain ⟨r69, hr69, hp⟩ := bind_some hp
   refine s0 (rd_atr' (m := 3) rfl rfl rfl rfl hr69 Try.underlying30 info91) ?_
   refine sx_ox' (ox_storer' (m := 3) (i := (iadd .i64 x12 (a1_1.length : Int))) (j := 0) (x' := (icv .u32 v5.2)) rfl rfl (lv_vl rfl rfl) rfl rfl hr69 rfl rfl rfl info91 rfl (H' := [⟨.pointer (some q2), [(Vb a0_0), (Sl (Ki .u32) a0_1)], 32, none⟩, ⟨.pointer (some q3), [(Vb a1_0), (Sl (Ki .u32) a1_1)], 32, none⟩, ⟨.pointer (some q4), [(Vb false), Vn], 32, none⟩, (Rw (Ki .u32) 91 (Vs g19) (v5.1.set (iadd .i64 x12 (a1_1.length : Int)).toNat (icv .u32 v5.2)))]) rfl) (wt_none' rfl) fun _ => ?_
   refine nk hK26 ?_
   refine cx_region' ?_
   refine s0 (rd_bin' rfl rfl eg_int ru_add) ?_
   refine s0 (rd_move' rfl) ?_
   refine sx_nil' ?_
   show TX E (KY3 _) _
   exact tx_pick' [0, 1, 2, 3] (sub_cons rfl (sub_cons rfl (sub_cons rfl (sub_cons rfl (sub_cons rfl (sub_cons rfl (sub_cons rfl sub_nil))))))) (by decide) (pick_cons rfl (pick_cons rfl (pick_cons rfl (pick_cons rfl pick_nil)))) (ih3 ((v5.1.set (iadd .i64 x12 (a1_1.length : Int)).toNat (icv .u32 v5.2)), (iadd .i64 x12 1)) () _ hp)
  replace hp := (br_f h6).symm.trans hp
  refine cx_exit' ?_
  replace hp := Option.some.inj hp
  subst hp
  show TX E (Zg E (Exit.exit 0) _ (Exit.exit 0)) _
  exact tx_zend' () rfl [0, 1, 2, 3] (sub_cons rfl (sub_cons rfl (sub_cons rfl (sub_cons rfl sub_nil)))) (by decide) (pick_cons rfl (pick_cons rfl (pick_cons rfl (pick_cons rfl pick_nil))))
 refine zg_out fun w6 => ?_
 show TX E K3 _
 refine tx_k' hK3 ?_
 refine cr fun K43 hK43 => ?_
 refine s0 (rd_move' rfl) ?_
 refine tx_fz' (frz_row 3 [(5, (Vl (Vs g19)), (Sl (Ki .u32) v6)), (71, (Vl (Vs g19)), (Sl (Ki .u32) v6))] (K := (Ki .u32)) (xs := v6) (by decide) rfl ⟨⟨rfl, frz_it⟩, ⟨rfl, frz_it⟩, trivial⟩ (H' := [⟨.pointer (some q2), [(Vb a0_0), (Sl (Ki .u32) a0_1)], 32, none⟩, ⟨.pointer (some q3), [(Vb a1_0), (Sl (Ki .u32) a1_1)], 32, none⟩, ⟨.pointer (some q4), [(Vb false), Vn], 32, none⟩]) frzH_refl) ?_
 obtain ⟨r72, hr72, hp⟩ := bind_some hp
 refine sx_ox' (ox_calln' (ent_fn' Try.func76 isn76 rfl rfl) (spec_trim_sim _ hr72 : Sx.Fn Try.prog 76 [(Sl (Ki .u32) v6)] [] (fun x : Unit => (Sl (Ki .u32) r72)) (fun x => [])) (Hn := fun x : Unit => [⟨.pointer (some q2), [(Vb a0_0), (Sl (Ki .u32) a0_1)], 32, none⟩, ⟨.pointer (some q3), [(Vb a1_0), (Sl (Ki .u32) a1_1)], 32, none⟩, ⟨.pointer (some q4), [(Vb false), Vn], 32, none⟩]) (fun _ => rfl) rfl rfl) (wt_none' rfl) fun ⟨⟩ => ?_
 refine s0 (rd_assign' rfl) ?_
 refine nk hK43 ?_
 refine cr fun K44 hK44 => ?_
 refine s0 (rd_move' rfl) ?_
 refine s0 (rd_len' rfl Try.underlying30) ?_
 refine s0 (rd_bin' rfl rfl eg_int ru_gtr) ?_
 refine s0 (rd_move' rfl) ?_
 refine sx_cutn' 6 (fun (v7 : Bool) => (⟨85, [], [(4, (Vp q4)), (5, (Sl (Ki .u32) r72)), (82, (Vb v7))], [⟨.pointer (some q4), [(Vb false), Vn], 32, none⟩]⟩ : St)) (fun (v7 : Bool) => spec_Whole_Mul_j1 k r72 v7 = some out) ?_ ?_
 ·rintro x14 hp
  replace hp : spec_Whole_Mul_j1 k r72 x14 = some out := hp
  unfold spec_Whole_Mul_j1 at hp
  refine s0 (rd_move' rfl) ?_
  refine s0 (rd_build' (pls := [(0, 1), (1, 1)]) (qs := [(0, [(Vb x14)]), (1, [(Sl (Ki .u32) r72)])]) (r := [(Vb x14), (Sl (Ki .u32) r72)]) ⟨rfl, ⟨_, rfl, (lv_vl rfl rfl)⟩, ⟨rfl, ⟨_, rfl, (lv_sl _ _)⟩, trivial⟩⟩ Try.underlying32 has32 places32 info32 rfl rfl rfl) ?_
  refine sx_ox' (ox_store' (i := 0) (o := 0) rfl rfl (lv_ag _) ⟨rfl, rfl, rfl, rfl⟩ rfl info32 rfl (H' := [⟨.pointer (some q4), [(Vb x14), (Sl (Ki .u32) r72)], 32, none⟩]) rfl) (wt_none' rfl) fun _ => ?_
  refine nk hK44 ?_
  refine cx_retc' ?_
  replace hp := Option.some.inj hp
  subst hp
  refine tx_pick' (L' := [(4, (Vp q4))]) (H' := [⟨.pointer (some q4), [(Vb x14), (Sl (Ki .u32) r72)], 32, none⟩]) [0] (sub_cons rfl sub_nil) (by decide) (pick_cons rfl pick_nil) ?_
  exact tx_ret1' Try.results55 rfl () (rv_cell_agg' (i := 0) (o := 0) (nn := 2) rfl ⟨rfl, rfl, rfl, rfl⟩ rfl agg32 rfl) (List.nil_sublist _)
 intro K45 hK45
 rcases br_cases hp with ⟨h10, hp⟩ | ⟨h10, hp⟩
 ·refine sx_rd' (rd_field0' rfl Try.underlying32 rfl info4 rfl) rfl rfl (wt_is' (wt_guard' rfl rfl rfl) (beq_tt h10)) ?_
  refine sx_rd' (rd_load' (i := 0) (o := 0) rfl ⟨rfl, rfl, rfl, rfl⟩ rfl flat4) rfl rfl (wt_is' (wt_guard' rfl rfl rfl) (beq_tt h10)) ?_
  refine sx_rd' (rd_field0' rfl Try.underlying32 rfl info4 rfl) rfl rfl (wt_is' (wt_guard' rfl rfl rfl) (beq_tt h10)) ?_
  refine sx_rd' (rd_load' (i := 1) (o := 0) rfl ⟨rfl, rfl, rfl, rfl⟩ rfl flat4) rfl rfl (wt_is' (wt_guard' rfl rfl rfl) (beq_tt h10)) ?_
  refine sx_rd' (rd_bin' rfl rfl eg_bool (ru_bne Try.underlying4)) rfl rfl (wt_is' (wt_guard' rfl rfl rfl) (beq_tt h10)) ?_
  refine s0 (rd_pick_true' rfl h10 rfl) ?_
  refine sx_nil' ?_
  show TX E K45 _
  exact tx_pick' [2] (sub_cons rfl (sub_cons rfl (sub_cons rfl sub_nil))) (by decide) (pick_cons rfl pick_nil) (hK45 (!(a0_0 == a1_0)) hp)
 refine sx_skip' rfl rfl (wt_is' (wt_guard' rfl rfl rfl) (beq_ft h10)) ?_
 refine sx_skip' rfl rfl (wt_is' (wt_guard' rfl rfl rfl) (beq_ft h10)) ?_
 refine sx_skip' rfl rfl (wt_is' (wt_guard' rfl rfl rfl) (beq_ft h10)) ?_
 refine sx_skip' rfl rfl (wt_is' (wt_guard' rfl rfl rfl) (beq_ft h10)) ?_
 refine sx_skip' rfl rfl (wt_is' (wt_guard' rfl rfl rfl) (beq_ft h10)) ?_
 refine s0 (rd_pick_false' rfl h10 rfl) ?_
 refine sx_nil' ?_
 show TX E K45 _
 exact tx_pick' [2] (sub_cons rfl (sub_cons rfl (sub_cons rfl sub_nil))) (by decide) (pick_cons rfl pick_nil) (hK45 false hp)

def spec_Dyadic_Mul (k : Nat) (a0_0 : Bool) (a0_1 : List Int) (a0_2 : Int) (a1_0 : Bool) (a1_1 : List Int) (a1_2 : Int) : Option (Bool × (List Int) × Int) :=
 (spec_Whole_Mul k a0_0 a0_1 a1_0 a1_1) >>= fun r9 =>
 some (r9.1, r9.2, iadd .i64 a0_2 a1_2)

theorem spec_Dyadic_Mul_sim {k : Nat}  (a0_0 : Bool) (a0_1 : List Int) (a0_2 : Int) (a1_0 : Bool) (a1_1 : List Int) (a1_2 : Int) {out : Bool × (List Int) × Int} (hp : spec_Dyadic_Mul k a0_0 a0_1 a0_2 a1_0 a1_1 a1_2 = some out) : Sx.Fn Try.prog 26 [(Ag [(Vb a0_0), (Sl (Ki .u32) a0_1), (Vi a0_2)]), (Ag [(Vb a1_0), (Sl (Ki .u32) a1_1), (Vi a1_2)])] [] (fun w : Unit => (Ag [(Vb out.1), (Sl (Ki .u32) out.2.1), (Vi out.2.2)])) (fun w => []) := by
 unfold spec_Dyadic_Mul at hp
 refine fn_of Try.func26 rfl Try.ntmps26 rfl fun E hM => ?_
 refine cr fun K1 hK1 => ?_
 refine sx_ox' (ox_box' rfl (lv_ag _) rfl rfl) (wt_none' rfl) fun q2 => ?_
 refine sx_ox' (ox_box' rfl (lv_ag _) rfl rfl) (wt_none' rfl) fun q3 => ?_
 refine sx_ox' (ox_alloc' info34 rfl rfl rfl rfl (l := [(Vb false), Vn, (Vi 0)]) rfl) (wt_none' rfl) fun q4 => ?_
 refine nk hK1 ?_
 refine cx_seq' fun K2 hK2 => ?_
 refine cx_plan' [] [(11, 1)] [(0, 1), (1, 1), (2, 1), (3, 1), (5, 1), (6, 1), (7, 1), (8, 1), (9, 1), (4, 0), (10, 1), (11, 0)] mixed (by kernel_rfl) ?_
 refine px_rd' rfl (rd_field0' rfl Try.underlying34 rfl info32 rfl) rfl rfl (wt_none' rfl) ?_
 refine px_rd' rfl (rd_load_agg' (i := 2) (o := 0) (nn := 2) rfl ⟨rfl, rfl, rfl, rfl⟩ rfl agg32 (l' := [(Vb a0_0), (Sl (Ki .u32) a0_1)]) rfl) rfl rfl (wt_none' rfl) ?_
 refine px_rd' rfl (rd_field0' rfl Try.underlying34 rfl info32 rfl) rfl rfl (wt_none' rfl) ?_
 refine px_rd' rfl (rd_load_agg' (i := 1) (o := 0) (nn := 2) rfl ⟨rfl, rfl, rfl, rfl⟩ rfl agg32 (l' := [(Vb a1_0), (Sl (Ki .u32) a1_1)]) rfl) rfl rfl (wt_none' rfl) ?_
 refine px_rd' rfl (rd_field' (off := 2) rfl Try.underlying34 rfl info3 rfl) rfl rfl (wt_none' rfl) ?_
 refine px_rd' rfl (rd_load' (i := 2) (o := 2) rfl ⟨rfl, rfl, rfl, rfl⟩ rfl flat3) rfl rfl (wt_none' rfl) ?_
 refine px_rd' rfl (rd_field' (off := 2) rfl Try.underlying34 rfl info3 rfl) rfl rfl (wt_none' rfl) ?_
 refine px_rd' rfl (rd_load' (i := 1) (o := 2) rfl ⟨rfl, rfl, rfl, rfl⟩ rfl flat3) rfl rfl (wt_none' rfl) ?_
 refine px_rd' rfl (rd_bin' rfl rfl eg_int ru_add) rfl rfl (wt_none' rfl) ?_
 obtain ⟨r9, hr9, hp⟩ := bind_some hp
 refine px_ox' rfl (ox_calln' (ent_fn' Try.func55 isn55 rfl rfl) (spec_Whole_Mul_sim _ _ _ _ hr9 : Sx.Fn Try.prog 55 [(Ag [(Vb a0_0), (Sl (Ki .u32) a0_1)]), (Ag [(Vb a1_0), (Sl (Ki .u32) a1_1)])] [] (fun x : Unit => (Ag [(Vb r9.1), (Sl (Ki .u32) r9.2)])) (fun x => [])) (Hn := fun x : Unit => [⟨.pointer (some q4), [(Vb false), Vn, (Vi 0)], 34, none⟩, ⟨.pointer (some q3), [(Vb a1_0), (Sl (Ki .u32) a1_1), (Vi a1_2)], 34, none⟩, ⟨.pointer (some q2), [(Vb a0_0), (Sl (Ki .u32) a0_1), (Vi a0_2)], 34, none⟩]) (fun _ => rfl) rfl rfl) rfl bs_nil (wt_none' rfl) fun ⟨⟩ => ?_
 refine px_rd' rfl (rd_build' (pls := [(0, 2), (2, 1)]) (qs := [(0, [(Vb r9.1), (Sl (Ki .u32) r9.2)]), (1, [(Vi (iadd .i64 a0_2 a1_2))])]) (r := [(Vb r9.1), (Sl (Ki .u32) r9.2), (Vi (iadd .i64 a0_2 a1_2))]) ⟨rfl, ⟨_, rfl, (lv_ag _)⟩, ⟨rfl, ⟨_, rfl, (lv_vl rfl rfl)⟩, trivial⟩⟩ Try.underlying34 has34 places34 info34 rfl rfl rfl) rfl rfl (wt_none' rfl) ?_
 refine px_oxv' rfl (oxv_store (i := 0) (o := 0) rfl rfl (lv_ag _) ⟨rfl, rfl, rfl, rfl⟩ rfl info34 rfl (H' := [⟨.pointer (some q4), [(Vb r9.1), (Sl (Ki .u32) r9.2), (Vi (iadd .i64 a0_2 a1_2))], 34, none⟩, ⟨.pointer (some q3), [(Vb a1_0), (Sl (Ki .u32) a1_1), (Vi a1_2)], 34, none⟩, ⟨.pointer (some q2), [(Vb a0_0), (Sl (Ki .u32) a0_1), (Vi a0_2)], 34, none⟩]) rfl) rfl rfl bo_nil (wt_none' rfl) fun _ => ?_
 refine px_nil' ?_
 show TX E K2 _
 refine tx_k' hK2 ?_
 refine cx_retc' ?_
 replace hp := Option.some.inj hp
 subst hp
 refine tx_pick' (L' := [(4, (Vp q4))]) (H' := [⟨.pointer (some q4), [(Vb r9.1), (Sl (Ki .u32) r9.2), (Vi (iadd .i64 a0_2 a1_2))], 34, none⟩]) [0] (sub_cons rfl sub_nil) (by decide) (pick_cons rfl pick_nil) ?_
 exact tx_ret1' Try.results26 rfl () (rv_cell_agg' (i := 0) (o := 0) (nn := 3) rfl ⟨rfl, rfl, rfl, rfl⟩ rfl agg34 rfl) (List.nil_sublist _)

def spec_Cross (k : Nat) (a0_0 : Bool) (a0_1 : List Int) (a0_2 : Int) (a0_3 : Bool) (a0_4 : List Int) (a0_5 : Int) (a1_0 : Bool) (a1_1 : List Int) (a1_2 : Int) (a1_3 : Bool) (a1_4 : List Int) (a1_5 : Int) (a2_0 : Bool) (a2_1 : List Int) (a2_2 : Int) (a2_3 : Bool) (a2_4 : List Int) (a2_5 : Int) : Option (Bool × (List Int) × Int) :=
 (spec_Dyadic_Sub k a1_0 a1_1 a1_2 a0_0 a0_1 a0_2) >>= fun r11 =>
 (spec_Dyadic_Sub k a2_3 a2_4 a2_5 a0_3 a0_4 a0_5) >>= fun r16 =>
 (spec_Dyadic_Mul k r11.1 r11.2.1 r11.2.2 r16.1 r16.2.1 r16.2.2) >>= fun r17 =>
 (spec_Dyadic_Sub k a1_3 a1_4 a1_5 a0_3 a0_4 a0_5) >>= fun r22 =>
 (spec_Dyadic_Sub k a2_0 a2_1 a2_2 a0_0 a0_1 a0_2) >>= fun r27 =>
 (spec_Dyadic_Mul k r22.1 r22.2.1 r22.2.2 r27.1 r27.2.1 r27.2.2) >>= fun r28 =>
 (spec_Dyadic_Sub k r17.1 r17.2.1 r17.2.2 r28.1 r28.2.1 r28.2.2) >>= fun r29 =>
 some (r29.1, r29.2.1, r29.2.2)

theorem spec_Cross_sim {k : Nat}  (a0_0 : Bool) (a0_1 : List Int) (a0_2 : Int) (a0_3 : Bool) (a0_4 : List Int) (a0_5 : Int) (a1_0 : Bool) (a1_1 : List Int) (a1_2 : Int) (a1_3 : Bool) (a1_4 : List Int) (a1_5 : Int) (a2_0 : Bool) (a2_1 : List Int) (a2_2 : Int) (a2_3 : Bool) (a2_4 : List Int) (a2_5 : Int) {out : Bool × (List Int) × Int} (hp : spec_Cross k a0_0 a0_1 a0_2 a0_3 a0_4 a0_5 a1_0 a1_1 a1_2 a1_3 a1_4 a1_5 a2_0 a2_1 a2_2 a2_3 a2_4 a2_5 = some out) : Sx.Fn Try.prog 36 [(Ag [(Vb a0_0), (Sl (Ki .u32) a0_1), (Vi a0_2), (Vb a0_3), (Sl (Ki .u32) a0_4), (Vi a0_5)]), (Ag [(Vb a1_0), (Sl (Ki .u32) a1_1), (Vi a1_2), (Vb a1_3), (Sl (Ki .u32) a1_4), (Vi a1_5)]), (Ag [(Vb a2_0), (Sl (Ki .u32) a2_1), (Vi a2_2), (Vb a2_3), (Sl (Ki .u32) a2_4), (Vi a2_5)])] [] (fun w : Unit => (Ag [(Vb out.1), (Sl (Ki .u32) out.2.1), (Vi out.2.2)])) (fun w => []) := by
 unfold spec_Cross at hp
 refine fn_of Try.func36 rfl Try.ntmps36 rfl fun E hM => ?_
 refine cr fun K1 hK1 => ?_
 refine sx_ox' (ox_box' rfl (lv_ag _) rfl rfl) (wt_none' rfl) fun q3 => ?_
 refine sx_ox' (ox_box' rfl (lv_ag _) rfl rfl) (wt_none' rfl) fun q4 => ?_
 refine sx_ox' (ox_box' rfl (lv_ag _) rfl rfl) (wt_none' rfl) fun q5 => ?_
 refine sx_ox' (ox_alloc' info34 rfl rfl rfl rfl (l := [(Vb false), Vn, (Vi 0)]) rfl) (wt_none' rfl) fun q6 => ?_
 refine nk hK1 ?_
 refine cx_seq' fun K2 hK2 => ?_
 refine cx_plan' [] [(23, 1)] [(0, 1), (1, 1), (2, 1), (3, 1), (5, 1), (6, 1), (7, 1), (8, 1), (11, 1), (12, 1), (13, 1), (14, 1), (16, 1), (17, 1), (18, 1), (19, 1), (4, 0), (9, 0), (10, 0), (15, 0), (20, 0), (21, 0), (22, 0), (23, 0)] mixed (by kernel_rfl) ?_
 refine px_rd' rfl (rd_field0' rfl Try.underlying48 rfl info34 rfl) rfl rfl (wt_none' rfl) ?_
 refine px_rd' rfl (rd_load_agg' (i := 2) (o := 0) (nn := 3) rfl ⟨rfl, rfl, rfl, rfl⟩ rfl agg34 (l' := [(Vb a1_0), (Sl (Ki .u32) a1_1), (Vi a1_2)]) rfl) rfl rfl (wt_none' rfl) ?_
 refine px_rd' rfl (rd_field0' rfl Try.underlying48 rfl info34 rfl) rfl rfl (wt_none' rfl) ?_
 refine px_rd' rfl (rd_load_agg' (i := 3) (o := 0) (nn := 3) rfl ⟨rfl, rfl, rfl, rfl⟩ rfl agg34 (l' := [(Vb a0_0), (Sl (Ki .u32) a0_1), (Vi a0_2)]) rfl) rfl rfl (wt_none' rfl) ?_
 refine px_rd' rfl (rd_field' (off := 3) rfl Try.underlying48 rfl info34 rfl) rfl rfl (wt_none' rfl) ?_
 refine px_rd' rfl (rd_load_agg' (i := 1) (o := 3) (nn := 3) rfl ⟨rfl, rfl, rfl, rfl⟩ rfl agg34 (l' := [(Vb a2_3), (Sl (Ki .u32) a2_4), (Vi a2_5)]) rfl) rfl rfl (wt_none' rfl) ?_
 refine px_rd' rfl (rd_field' (off := 3) rfl Try.underlying48 rfl info34 rfl) rfl rfl (wt_none' rfl) ?_
 refine px_rd' rfl (rd_load_agg' (i := 3) (o := 3) (nn := 3) rfl ⟨rfl, rfl, rfl, rfl⟩ rfl agg34 (l' := [(Vb a0_3), (Sl (Ki .u32) a0_4), (Vi a0_5)]) rfl) rfl rfl (wt_none' rfl) ?_
 refine px_rd' rfl (rd_field' (off := 3) rfl Try.underlying48 rfl info34 rfl) rfl rfl (wt_none' rfl) ?_
 refine px_rd' rfl (rd_load_agg' (i := 2) (o := 3) (nn := 3) rfl ⟨rfl, rfl, rfl, rfl⟩ rfl agg34 (l' := [(Vb a1_3), (Sl (Ki .u32) a1_4), (Vi a1_5)]) rfl) rfl rfl (wt_none' rfl) ?_
 refine px_rd' rfl (rd_field' (off := 3) rfl Try.underlying48 rfl info34 rfl) rfl rfl (wt_none' rfl) ?_
 refine px_rd' rfl (rd_load_agg' (i := 3) (o := 3) (nn := 3) rfl ⟨rfl, rfl, rfl, rfl⟩ rfl agg34 (l' := [(Vb a0_3), (Sl (Ki .u32) a0_4), (Vi a0_5)]) rfl) rfl rfl (wt_none' rfl) ?_
 refine px_rd' rfl (rd_field0' rfl Try.underlying48 rfl info34 rfl) rfl rfl (wt_none' rfl) ?_
 refine px_rd' rfl (rd_load_agg' (i := 1) (o := 0) (nn := 3) rfl ⟨rfl, rfl, rfl, rfl⟩ rfl agg34 (l' := [(Vb a2_0), (Sl (Ki .u32) a2_1), (Vi a2_2)]) rfl) rfl rfl (wt_none' rfl) ?_
 refine px_rd' rfl (rd_field0' rfl Try.underlying48 rfl info34 rfl) rfl rfl (wt_none' rfl) ?_
 refine px_rd' rfl (rd_load_agg' (i := 3) (o := 0) (nn := 3) rfl ⟨rfl, rfl, rfl, rfl⟩ rfl agg34 (l' := [(Vb a0_0), (Sl (Ki .u32) a0_1), (Vi a0_2)]) rfl) rfl rfl (wt_none' rfl) ?_
 obtain ⟨r11, hr11, hp⟩ := bind_some hp
 refine px_ox' rfl (ox_calln' (ent_fn' Try.func27 isn27 rfl rfl) (spec_Dyadic_Sub_sim _ _ _ _ _ _ hr11 : Sx.Fn Try.prog 27 [(Ag [(Vb a1_0), (Sl (Ki .u32) a1_1), (Vi a1_2)]), (Ag [(Vb a0_0), (Sl (Ki .u32) a0_1), (Vi a0_2)])] [] (fun x : Unit => (Ag [(Vb r11.1), (Sl (Ki .u32) r11.2.1), (Vi r11.2.2)])) (fun x => [])) (Hn := fun x : Unit => [⟨.pointer (some q6), [(Vb false), Vn, (Vi 0)], 34, none⟩, ⟨.pointer (some q5), [(Vb a2_0), (Sl (Ki .u32) a2_1), (Vi a2_2), (Vb a2_3), (Sl (Ki .u32) a2_4), (Vi a2_5)], 48, none⟩, ⟨.pointer (some q4), [(Vb a1_0), (Sl (Ki .u32) a1_1), (Vi a1_2), (Vb a1_3), (Sl (Ki .u32) a1_4), (Vi a1_5)], 48, none⟩, ⟨.pointer (some q3), [(Vb a0_0), (Sl (Ki .u32) a0_1), (Vi a0_2), (Vb a0_3), (Sl (Ki .u32) a0_4), (Vi a0_5)], 48, none⟩]) (fun _ => rfl) rfl rfl) rfl bs_nil (wt_none' rfl) fun ⟨⟩ => ?_
 obtain ⟨r16, hr16, hp⟩ := bind_some hp
 refine px_ox' rfl (ox_calln' (ent_fn' Try.func27 isn27 rfl rfl) (spec_Dyadic_Sub_sim _ _ _ _ _ _ hr16 : Sx.Fn Try.prog 27 [(Ag [(Vb a2_3), (Sl (Ki .u32) a2_4), (Vi a2_5)]), (Ag [(Vb a0_3), (Sl (Ki .u32) a0_4), (Vi a0_5)])] [] (fun x : Unit => (Ag [(Vb r16.1), (Sl (Ki .u32) r16.2.1), (Vi r16.2.2)])) (fun x => [])) (Hn := fun x : Unit => [⟨.pointer (some q6), [(Vb false), Vn, (Vi 0)], 34, none⟩, ⟨.pointer (some q5), [(Vb a2_0), (Sl (Ki .u32) a2_1), (Vi a2_2), (Vb a2_3), (Sl (Ki .u32) a2_4), (Vi a2_5)], 48, none⟩, ⟨.pointer (some q4), [(Vb a1_0), (Sl (Ki .u32) a1_1), (Vi a1_2), (Vb a1_3), (Sl (Ki .u32) a1_4), (Vi a1_5)], 48, none⟩, ⟨.pointer (some q3), [(Vb a0_0), (Sl (Ki .u32) a0_1), (Vi a0_2), (Vb a0_3), (Sl (Ki .u32) a0_4), (Vi a0_5)], 48, none⟩]) (fun _ => rfl) rfl rfl) rfl bs_nil (wt_none' rfl) fun ⟨⟩ => ?_
 obtain ⟨r17, hr17, hp⟩ := bind_some hp
 refine px_ox' rfl (ox_calln' (ent_fn' Try.func26 isn26 rfl rfl) (spec_Dyadic_Mul_sim _ _ _ _ _ _ hr17 : Sx.Fn Try.prog 26 [(Ag [(Vb r11.1), (Sl (Ki .u32) r11.2.1), (Vi r11.2.2)]), (Ag [(Vb r16.1), (Sl (Ki .u32) r16.2.1), (Vi r16.2.2)])] [] (fun x : Unit => (Ag [(Vb r17.1), (Sl (Ki .u32) r17.2.1), (Vi r17.2.2)])) (fun x => [])) (Hn := fun x : Unit => [⟨.pointer (some q6), [(Vb false), Vn, (Vi 0)], 34, none⟩, ⟨.pointer (some q5), [(Vb a2_0), (Sl (Ki .u32) a2_1), (Vi a2_2), (Vb a2_3), (Sl (Ki .u32) a2_4), (Vi a2_5)], 48, none⟩, ⟨.pointer (some q4), [(Vb a1_0), (Sl (Ki .u32) a1_1), (Vi a1_2), (Vb a1_3), (Sl (Ki .u32) a1_4), (Vi a1_5)], 48, none⟩, ⟨.pointer (some q3), [(Vb a0_0), (Sl (Ki .u32) a0_1), (Vi a0_2), (Vb a0_3), (Sl (Ki .u32) a0_4), (Vi a0_5)], 48, none⟩]) (fun _ => rfl) rfl rfl) rfl bs_nil (wt_none' rfl) fun ⟨⟩ => ?_
 obtain ⟨r22, hr22, hp⟩ := bind_some hp
 refine px_ox' rfl (ox_calln' (ent_fn' Try.func27 isn27 rfl rfl) (spec_Dyadic_Sub_sim _ _ _ _ _ _ hr22 : Sx.Fn Try.prog 27 [(Ag [(Vb a1_3), (Sl (Ki .u32) a1_4), (Vi a1_5)]), (Ag [(Vb a0_3), (Sl (Ki .u32) a0_4), (Vi a0_5)])] [] (fun x : Unit => (Ag [(Vb r22.1), (Sl (Ki .u32) r22.2.1), (Vi r22.2.2)])) (fun x => [])) (Hn := fun x : Unit => [⟨.pointer (some q6), [(Vb false), Vn, (Vi 0)], 34, none⟩, ⟨.pointer (some q5), [(Vb a2_0), (Sl (Ki .u32) a2_1), (Vi a2_2), (Vb a2_3), (Sl (Ki .u32) a2_4), (Vi a2_5)], 48, none⟩, ⟨.pointer (some q4), [(Vb a1_0), (Sl (Ki .u32) a1_1), (Vi a1_2), (Vb a1_3), (Sl (Ki .u32) a1_4), (Vi a1_5)], 48, none⟩, ⟨.pointer (some q3), [(Vb a0_0), (Sl (Ki .u32) a0_1), (Vi a0_2), (Vb a0_3), (Sl (Ki .u32) a0_4), (Vi a0_5)], 48, none⟩]) (fun _ => rfl) rfl rfl) rfl bs_nil (wt_none' rfl) fun ⟨⟩ => ?_
 obtain ⟨r27, hr27, hp⟩ := bind_some hp
 refine px_ox' rfl (ox_calln' (ent_fn' Try.func27 isn27 rfl rfl) (spec_Dyadic_Sub_sim _ _ _ _ _ _ hr27 : Sx.Fn Try.prog 27 [(Ag [(Vb a2_0), (Sl (Ki .u32) a2_1), (Vi a2_2)]), (Ag [(Vb a0_0), (Sl (Ki .u32) a0_1), (Vi a0_2)])] [] (fun x : Unit => (Ag [(Vb r27.1), (Sl (Ki .u32) r27.2.1), (Vi r27.2.2)])) (fun x => [])) (Hn := fun x : Unit => [⟨.pointer (some q6), [(Vb false), Vn, (Vi 0)], 34, none⟩, ⟨.pointer (some q5), [(Vb a2_0), (Sl (Ki .u32) a2_1), (Vi a2_2), (Vb a2_3), (Sl (Ki .u32) a2_4), (Vi a2_5)], 48, none⟩, ⟨.pointer (some q4), [(Vb a1_0), (Sl (Ki .u32) a1_1), (Vi a1_2), (Vb a1_3), (Sl (Ki .u32) a1_4), (Vi a1_5)], 48, none⟩, ⟨.pointer (some q3), [(Vb a0_0), (Sl (Ki .u32) a0_1), (Vi a0_2), (Vb a0_3), (Sl (Ki .u32) a0_4), (Vi a0_5)], 48, none⟩]) (fun _ => rfl) rfl rfl) rfl bs_nil (wt_none' rfl) fun ⟨⟩ => ?_
 obtain ⟨r28, hr28, hp⟩ := bind_some hp
 refine px_ox' rfl (ox_calln' (ent_fn' Try.func26 isn26 rfl rfl) (spec_Dyadic_Mul_sim _ _ _ _ _ _ hr28 : Sx.Fn Try.prog 26 [(Ag [(Vb r22.1), (Sl (Ki .u32) r22.2.1), (Vi r22.2.2)]), (Ag [(Vb r27.1), (Sl (Ki .u32) r27.2.1), (Vi r27.2.2)])] [] (fun x : Unit => (Ag [(Vb r28.1), (Sl (Ki .u32) r28.2.1), (Vi r28.2.2)])) (fun x => [])) (Hn := fun x : Unit => [⟨.pointer (some q6), [(Vb false), Vn, (Vi 0)], 34, none⟩, ⟨.pointer (some q5), [(Vb a2_0), (Sl (Ki .u32) a2_1), (Vi a2_2), (Vb a2_3), (Sl (Ki .u32) a2_4), (Vi a2_5)], 48, none⟩, ⟨.pointer (some q4), [(Vb a1_0), (Sl (Ki .u32) a1_1), (Vi a1_2), (Vb a1_3), (Sl (Ki .u32) a1_4), (Vi a1_5)], 48, none⟩, ⟨.pointer (some q3), [(Vb a0_0), (Sl (Ki .u32) a0_1), (Vi a0_2), (Vb a0_3), (Sl (Ki .u32) a0_4), (Vi a0_5)], 48, none⟩]) (fun _ => rfl) rfl rfl) rfl bs_nil (wt_none' rfl) fun ⟨⟩ => ?_
 obtain ⟨r29, hr29, hp⟩ := bind_some hp
 refine px_ox' rfl (ox_calln' (ent_fn' Try.func27 isn27 rfl rfl) (spec_Dyadic_Sub_sim _ _ _ _ _ _ hr29 : Sx.Fn Try.prog 27 [(Ag [(Vb r17.1), (Sl (Ki .u32) r17.2.1), (Vi r17.2.2)]), (Ag [(Vb r28.1), (Sl (Ki .u32) r28.2.1), (Vi r28.2.2)])] [] (fun x : Unit => (Ag [(Vb r29.1), (Sl (Ki .u32) r29.2.1), (Vi r29.2.2)])) (fun x => [])) (Hn := fun x : Unit => [⟨.pointer (some q6), [(Vb false), Vn, (Vi 0)], 34, none⟩, ⟨.pointer (some q5), [(Vb a2_0), (Sl (Ki .u32) a2_1), (Vi a2_2), (Vb a2_3), (Sl (Ki .u32) a2_4), (Vi a2_5)], 48, none⟩, ⟨.pointer (some q4), [(Vb a1_0), (Sl (Ki .u32) a1_1), (Vi a1_2), (Vb a1_3), (Sl (Ki .u32) a1_4), (Vi a1_5)], 48, none⟩, ⟨.pointer (some q3), [(Vb a0_0), (Sl (Ki .u32) a0_1), (Vi a0_2), (Vb a0_3), (Sl (Ki .u32) a0_4), (Vi a0_5)], 48, none⟩]) (fun _ => rfl) rfl rfl) rfl bs_nil (wt_none' rfl) fun ⟨⟩ => ?_
 refine px_oxv' rfl (oxv_store (i := 0) (o := 0) rfl rfl (lv_ag _) ⟨rfl, rfl, rfl, rfl⟩ rfl info34 rfl (H' := [⟨.pointer (some q6), [(Vb r29.1), (Sl (Ki .u32) r29.2.1), (Vi r29.2.2)], 34, none⟩, ⟨.pointer (some q5), [(Vb a2_0), (Sl (Ki .u32) a2_1), (Vi a2_2), (Vb a2_3), (Sl (Ki .u32) a2_4), (Vi a2_5)], 48, none⟩, ⟨.pointer (some q4), [(Vb a1_0), (Sl (Ki .u32) a1_1), (Vi a1_2), (Vb a1_3), (Sl (Ki .u32) a1_4), (Vi a1_5)], 48, none⟩, ⟨.pointer (some q3), [(Vb a0_0), (Sl (Ki .u32) a0_1), (Vi a0_2), (Vb a0_3), (Sl (Ki .u32) a0_4), (Vi a0_5)], 48, none⟩]) rfl) rfl rfl bo_nil (wt_none' rfl) fun _ => ?_
 refine px_nil' ?_
 show TX E K2 _
 refine tx_k' hK2 ?_
 refine cx_retc' ?_
 replace hp := Option.some.inj hp
 subst hp
 refine tx_pick' (L' := [(6, (Vp q6))]) (H' := [⟨.pointer (some q6), [(Vb r29.1), (Sl (Ki .u32) r29.2.1), (Vi r29.2.2)], 34, none⟩]) [0] (sub_cons rfl sub_nil) (by decide) (pick_cons rfl pick_nil) ?_
 exact tx_ret1' Try.results36 rfl () (rv_cell_agg' (i := 0) (o := 0) (nn := 3) rfl ⟨rfl, rfl, rfl, rfl⟩ rfl agg34 rfl) (List.nil_sublist _)

def spec_Orient (k : Nat) (a0_0 : Bool) (a0_1 : List Int) (a0_2 : Int) (a0_3 : Bool) (a0_4 : List Int) (a0_5 : Int) (a1_0 : Bool) (a1_1 : List Int) (a1_2 : Int) (a1_3 : Bool) (a1_4 : List Int) (a1_5 : Int) (a2_0 : Bool) (a2_1 : List Int) (a2_2 : Int) (a2_3 : Bool) (a2_4 : List Int) (a2_5 : Int) : Option (Int) :=
 (spec_Cross k a0_0 a0_1 a0_2 a0_3 a0_4 a0_5 a1_0 a1_1 a1_2 a1_3 a1_4 a1_5 a2_0 a2_1 a2_2 a2_3 a2_4 a2_5) >>= fun r10 =>
 (spec_Dyadic_Sign k r10.1 r10.2.1 r10.2.2) >>= fun r11 =>
 some r11

theorem spec_Orient_sim {k : Nat}  (a0_0 : Bool) (a0_1 : List Int) (a0_2 : Int) (a0_3 : Bool) (a0_4 : List Int) (a0_5 : Int) (a1_0 : Bool) (a1_1 : List Int) (a1_2 : Int) (a1_3 : Bool) (a1_4 : List Int) (a1_5 : Int) (a2_0 : Bool) (a2_1 : List Int) (a2_2 : Int) (a2_3 : Bool) (a2_4 : List Int) (a2_5 : Int) {out : Int} (hp : spec_Orient k a0_0 a0_1 a0_2 a0_3 a0_4 a0_5 a1_0 a1_1 a1_2 a1_3 a1_4 a1_5 a2_0 a2_1 a2_2 a2_3 a2_4 a2_5 = some out) : Sx.Fn Try.prog 13 [(Ag [(Vb a0_0), (Sl (Ki .u32) a0_1), (Vi a0_2), (Vb a0_3), (Sl (Ki .u32) a0_4), (Vi a0_5)]), (Ag [(Vb a1_0), (Sl (Ki .u32) a1_1), (Vi a1_2), (Vb a1_3), (Sl (Ki .u32) a1_4), (Vi a1_5)]), (Ag [(Vb a2_0), (Sl (Ki .u32) a2_1), (Vi a2_2), (Vb a2_3), (Sl (Ki .u32) a2_4), (Vi a2_5)])] [] (fun w : Unit => (Vi out)) (fun w => []) := by
 unfold spec_Orient at hp
 refine fn_of Try.func13 rfl Try.ntmps13 rfl fun E hM => ?_
 refine cr fun K1 hK1 => ?_
 refine sx_ox' (ox_box' rfl (lv_ag _) rfl rfl) (wt_none' rfl) fun q3 => ?_
 refine sx_ox' (ox_box' rfl (lv_ag _) rfl rfl) (wt_none' rfl) fun q4 => ?_
 refine sx_ox' (ox_box' rfl (lv_ag _) rfl rfl) (wt_none' rfl) fun q5 => ?_
 refine s0 (rd_assign' rfl) ?_
 refine nk hK1 ?_
 refine cr fun K2 hK2 => ?_
 refine s0 (rd_load_agg' (i := 2) (o := 0) (nn := 6) rfl ⟨rfl, rfl, rfl, rfl⟩ rfl agg48 (l' := [(Vb a0_0), (Sl (Ki .u32) a0_1), (Vi a0_2), (Vb a0_3), (Sl (Ki .u32) a0_4), (Vi a0_5)]) rfl) ?_
 refine s0 (rd_load_agg' (i := 1) (o := 0) (nn := 6) rfl ⟨rfl, rfl, rfl, rfl⟩ rfl agg48 (l' := [(Vb a1_0), (Sl (Ki .u32) a1_1), (Vi a1_2), (Vb a1_3), (Sl (Ki .u32) a1_4), (Vi a1_5)]) rfl) ?_
 refine s0 (rd_load_agg' (i := 0) (o := 0) (nn := 6) rfl ⟨rfl, rfl, rfl, rfl⟩ rfl agg48 (l' := [(Vb a2_0), (Sl (Ki .u32) a2_1), (Vi a2_2), (Vb a2_3), (Sl (Ki .u32) a2_4), (Vi a2_5)]) rfl) ?_
 obtain ⟨r10, hr10, hp⟩ := bind_some hp
 refine sx_ox' (ox_calln' (ent_fn' Try.func36 isn36 rfl rfl) (spec_Cross_sim _ _ _ _ _ _ _ _ _ _ _ _ _ _ _ _ _ _ hr10 : Sx.Fn Try.prog 36 [(Ag [(Vb a0_0), (Sl (Ki .u32) a0_1), (Vi a0_2), (Vb a0_3), (Sl (Ki .u32) a0_4), (Vi a0_5)]), (Ag [(Vb a1_0), (Sl (Ki .u32) a1_1), (Vi a1_2), (Vb a1_3), (Sl (Ki .u32) a1_4), (Vi a1_5)]), (Ag [(Vb a2_0), (Sl (Ki .u32) a2_1), (Vi a2_2), (Vb a2_3), (Sl (Ki .u32) a2_4), (Vi a2_5)])] [] (fun x : Unit => (Ag [(Vb r10.1), (Sl (Ki .u32) r10.2.1), (Vi r10.2.2)])) (fun x => [])) (Hn := fun x : Unit => [⟨.pointer (some q5), [(Vb a2_0), (Sl (Ki .u32) a2_1), (Vi a2_2), (Vb a2_3), (Sl (Ki .u32) a2_4), (Vi a2_5)], 48, none⟩, ⟨.pointer (some q4), [(Vb a1_0), (Sl (Ki .u32) a1_1), (Vi a1_2), (Vb a1_3), (Sl (Ki .u32) a1_4), (Vi a1_5)], 48, none⟩, ⟨.pointer (some q3), [(Vb a0_0), (Sl (Ki .u32) a0_1), (Vi a0_2), (Vb a0_3), (Sl (Ki .u32) a0_4), (Vi a0_5)], 48, none⟩]) (fun _ => rfl) rfl rfl) (wt_none' rfl) fun ⟨⟩ => ?_
 obtain ⟨r11, hr11, hp⟩ := bind_some hp
 refine sx_ox' (ox_calln' (ent_fn' Try.func28 isn28 rfl rfl) (spec_Dyadic_Sign_sim _ _ _ hr11 : Sx.Fn Try.prog 28 [(Ag [(Vb r10.1), (Sl (Ki .u32) r10.2.1), (Vi r10.2.2)])] [] (fun x : Unit => (Vi r11)) (fun x => [])) (Hn := fun x : Unit => [⟨.pointer (some q5), [(Vb a2_0), (Sl (Ki .u32) a2_1), (Vi a2_2), (Vb a2_3), (Sl (Ki .u32) a2_4), (Vi a2_5)], 48, none⟩, ⟨.pointer (some q4), [(Vb a1_0), (Sl (Ki .u32) a1_1), (Vi a1_2), (Vb a1_3), (Sl (Ki .u32) a1_4), (Vi a1_5)], 48, none⟩, ⟨.pointer (some q3), [(Vb a0_0), (Sl (Ki .u32) a0_1), (Vi a0_2), (Vb a0_3), (Sl (Ki .u32) a0_4), (Vi a0_5)], 48, none⟩]) (fun _ => rfl) rfl rfl) (wt_none' rfl) fun ⟨⟩ => ?_
 refine s0 (rd_assign' rfl) ?_
 refine nk hK2 ?_
 refine cx_retc' ?_
 replace hp := Option.some.inj hp
 subst hp
 refine tx_pick' (L' := [(6, (Vi r11))]) (H' := []) [] (sub_cons rfl sub_nil) (by decide) pick_nil ?_
 exact tx_ret1' Try.results13 rfl () (rv_tmp' rfl) (List.Sublist.refl _)

def spec_Whole_top_l1s  (k : Nat) (rec1 : (Int × Int) → Option (Int)) (x1 : Int) (x2 : Int) : Option (Int) :=
 br (decide (x2 < 2147483648))
  ((ishl .u32 x2 1) >>= fun r24 =>
  rec1 ((isub .i64 x1 1), r24))
  (some x1)
def spec_Whole_top_l1  : Nat → (Int × Int) → Option (Int)
 | 0, _ => none
 | k + 1, v => spec_Whole_top_l1s k (spec_Whole_top_l1 k) v.1 v.2
def spec_Whole_top (k : Nat) (a0_0 : Bool) (a0_1 : List Int) : Option (Int) :=
 br (decide ((a0_1.length : Int) = 0))
  (some 0)
  ((idx a0_1 (isub .i64 (a0_1.length : Int) 1)) >>= fun r19 =>
  (spec_Whole_top_l1 k ((imul .i64 32 (a0_1.length : Int)), r19)) >>= fun v2 =>
  some v2)

theorem spec_Whole_top_sim {k : Nat}  (a0_0 : Bool) (a0_1 : List Int) {out : Int} (hp : spec_Whole_top k a0_0 a0_1 = some out) : Sx.Fn Try.prog 50 [(Ag [(Vb a0_0), (Sl (Ki .u32) a0_1)])] [] (fun w : Unit => (Vi out)) (fun w => []) := by
 unfold spec_Whole_top at hp
 refine fn_of Try.func50 rfl Try.ntmps50 rfl fun E hM => ?_
 refine cr fun K1 hK1 => ?_
 refine sx_ox' (ox_box' rfl (lv_ag _) rfl rfl) (wt_none' rfl) fun q1 => ?_
 refine s0 (rd_assign' rfl) ?_
 refine nk hK1 ?_
 refine cx_seq' fun K2 hK2 => ?_
 refine cr fun K3 hK3 => ?_
 refine s0 (rd_field' (off := 1) rfl Try.underlying32 rfl info30 rfl) ?_
 refine s0 (rd_load' (i := 0) (o := 1) rfl ⟨rfl, rfl, rfl, rfl⟩ rfl flat30) ?_
 refine s0 (rd_len' rfl Try.underlying30) ?_
 refine s0 (rd_bin' rfl rfl eg_int ru_eql) ?_
 refine nk hK3 ?_
 refine cx_cond' rfl (fun h1 => ?_) (fun h1 => ?_)
 ·replace hp := (br_t h1).symm.trans hp
  refine cr fun K4 hK4 => ?_
  refine s0 (rd_assign' rfl) ?_
  refine nk hK4 ?_
  refine cx_retc' ?_
  replace hp := Option.some.inj hp
  subst hp
  refine tx_pick' (L' := [(2, (Vi 0))]) (H' := []) [] (sub_cons rfl sub_nil) (by decide) pick_nil ?_
  exact tx_ret1' Try.results50 rfl () (rv_tmp' rfl) (List.Sublist.refl _)
 replace hp := (br_f h1).symm.trans hp
 refine cx_skip' ?_
 show TX E K2 _
 refine tx_k' hK2 ?_
 refine cr fun K5 hK5 => ?_
 refine s0 (rd_field' (off := 1) rfl Try.underlying32 rfl info30 rfl) ?_
 refine s0 (rd_load' (i := 0) (o := 1) rfl ⟨rfl, rfl, rfl, rfl⟩ rfl flat30) ?_
 refine s0 (rd_len' rfl Try.underlying30) ?_
 refine s0 (rd_bin' rfl rfl eg_int ru_mul) ?_
 refine s0 (rd_assign' rfl) ?_
 refine nk hK5 ?_
 refine cx_seq' fun K6 hK6 => ?_
 refine cr fun K7 hK7 => ?_
 refine s0 (rd_field' (off := 1) rfl Try.underlying32 rfl info30 rfl) ?_
 refine s0 (rd_load' (i := 0) (o := 1) rfl ⟨rfl, rfl, rfl, rfl⟩ rfl flat30) ?_
 refine s0 (rd_field' (off := 1) rfl Try.underlying32 rfl info30 rfl) ?_
 refine s0 (rd_load' (i := 0) (o := 1) rfl ⟨rfl, rfl, rfl, rfl⟩ rfl flat30) ?_
 refine s0 (rd_len' rfl Try.underlying30) ?_
 refine s0 (rd_bin' rfl rfl eg_int ru_sub) ?_
 obtain ⟨r19, hr19, hp⟩ := bind_some hp
 refine s0 (rd_at' (K := (Ki .u32)) rfl rfl hr19 Try.underlying30 info91) ?_
 refine s0 (rd_load_pt' rfl rfl flat91) ?_
 refine s0 (rd_assign' rfl) ?_
 refine nk hK7 ?_
 refine cx_block' ?_
 obtain ⟨v2, hy1, hp⟩ := bind_some hp
 refine cx_loopg' (F := spec_Whole_top_l1) (G := fun k R v => spec_Whole_top_l1s k R v.1 v.2) (x := ((imul .i64 32 (a0_1.length : Int)), r19)) (gh := ()) (fun (v1 : Int × Int) (w1 : Unit) => (⟨28, [], [(3, (Vi v1.1)), (4, (Vl (.int .u32 v1.2)))], []⟩ : St)) (fun (v2 : Int) => Zg E (Exit.exit 0) (fun (w2 : Unit) => (⟨28, [], [(3, (Vi v2))], []⟩ : St))) (fun _ => rfl) (fun _ _ => rfl) ?_ hy1 (tx_to' rfl [] (sub_cons rfl (sub_cons rfl sub_nil)) (by decide) pick_nil) ?_
 ·clear hp hy1
  clear v2
  intro k rec1 KY1 ih1
  rintro ⟨x1, x2⟩ ⟨⟩ y1 hp
  replace hp : spec_Whole_top_l1s k rec1 x1 x2 = some y1 := hp
  unfold spec_Whole_top_l1s at hp
  refine cx_seq' fun K11 hK11 => ?_
  refine cr fun K12 hK12 => ?_
  refine s0 (rd_move' rfl) ?_
  refine s0 (rd_bin' rfl rfl eg_int ru_lss) ?_
  refine nk hK12 ?_
  refine cx_cond' rfl (fun h4 => ?_) (fun h4 => ?_)
  ·replace hp := (br_t h4).symm.trans hp
   refine cx_skip' ?_
   show TX E K11 _
   refine tx_k' hK11 ?_
   refine cx_seq' fun K13 hK13 => ?_
   refine cx_block' ?_
   refine cx_region' ?_
   refine s0 (rd_move' rfl) ?_
   refine s0 (rd_bin' rfl rfl eg_int ru_sub) ?_
   refine s0 (rd_assign' rfl) ?_
   refine nk hK13 ?_
   refine cx_region' ?_
   refine s0 (rd_move' rfl) ?_
   obtain ⟨r24, hr24, hp⟩ := bind_some hp
   refine s0 (rd_bin' rfl rfl eg_int (ru_shl hr24)) ?_
   refine s0 (rd_assign' rfl) ?_
   refine sx_nil' ?_
   show TX E (KY1 _) _
   exact tx_pick' [] (sub_cons rfl (sub_cons rfl sub_nil)) (by decide) pick_nil (ih1 ((isub .i64 x1 1), r24) () _ hp)
  replace hp := (br_f h4).symm.trans hp
  refine cx_exit' ?_
  replace hp := Option.some.inj hp
  subst hp
  show TX E (Zg E (Exit.exit 0) _ (Exit.exit 0)) _
  exact tx_zend' () rfl [] (sub_cons rfl sub_nil) (by decide) pick_nil
 refine zg_out fun w2 => ?_
 show TX E K6 _
 refine tx_k' hK6 ?_
 refine cr fun K14 hK14 => ?_
 refine s0 (rd_move' rfl) ?_
 refine s0 (rd_assign' rfl) ?_
 refine nk hK14 ?_
 refine cx_retc' ?_
 replace hp := Option.some.inj hp
 subst hp
 refine tx_pick' (L' := [(2, (Vi v2))]) (H' := []) [] (sub_cons rfl sub_nil) (by decide) pick_nil ?_
 exact tx_ret1' Try.results50 rfl () (rv_tmp' rfl) (List.Sublist.refl _)

def spec_Whole_bit_j2 (k : Nat) (x2 : Bool) : Option (Bool) :=
 some x2
def spec_Whole_bit_j1 (k : Nat) (a1 : Int) (a0_1 : List Int) (x1 : Bool) : Option (Bool) :=
 br x1
  ((iquo .i64 a1 32) >>= fun r19 =>
  (idx a0_1 r19) >>= fun r20 =>
  (irem a1 32) >>= fun r23 =>
  (ishr .u32 r20 r23) >>= fun r24 =>
  spec_Whole_bit_j2 k (decide ((iand .u32 r24 1) = 1)))
  (spec_Whole_bit_j2 k false)
def spec_Whole_bit (k : Nat) (a0_0 : Bool) (a0_1 : List Int) (a1 : Int) : Option (Bool) :=
 br (decide (0 ≤ a1))
  ((iquo .i64 a1 32) >>= fun r9 =>
  spec_Whole_bit_j1 k a1 a0_1 (decide (r9 < (a0_1.length : Int))))
  (spec_Whole_bit_j1 k a1 a0_1 false)

theorem spec_Whole_bit_sim {k : Nat}  (a0_0 : Bool) (a0_1 : List Int) (a1 : Int) {out : Bool} (hp : spec_Whole_bit k a0_0 a0_1 a1 = some out) : Sx.Fn Try.prog 51 [(Ag [(Vb a0_0), (Sl (Ki .u32) a0_1)]), (Vi a1)] [] (fun w : Unit => (Vb out)) (fun w => []) := by
 unfold spec_Whole_bit at hp
 refine fn_of Try.func51 rfl Try.ntmps51 rfl fun E hM => ?_
 refine cr fun K1 hK1 => ?_
 refine sx_ox' (ox_box' rfl (lv_ag _) rfl rfl) (wt_none' rfl) fun q2 => ?_
 refine s0 (rd_assign' rfl) ?_
 refine nk hK1 ?_
 refine cr fun K2 hK2 => ?_
 refine s0 (rd_move' rfl) ?_
 refine s0 (rd_bin' rfl rfl eg_int ru_geq) ?_
 refine s0 (rd_move' rfl) ?_
 refine sx_cutn' 7 (fun (v1 : Bool) => (⟨28, [], [(1, (Vi a1)), (2, (Vp q2)), (14, (Vb v1))], [⟨.pointer (some q2), [(Vb a0_0), (Sl (Ki .u32) a0_1)], 32, none⟩]⟩ : St)) (fun (v1 : Bool) => spec_Whole_bit_j1 k a1 a0_1 v1 = some out) ?_ ?_
 ·rintro x1 hp
  replace hp : spec_Whole_bit_j1 k a1 a0_1 x1 = some out := hp
  unfold spec_Whole_bit_j1 at hp
  refine s0 (rd_move' rfl) ?_
  refine sx_cutn' 12 (fun (v2 : Bool) => (⟨28, [], [(27, (Vb v2))], []⟩ : St)) (fun (v2 : Bool) => spec_Whole_bit_j2 k v2 = some out) ?_ ?_
  ·rintro x2 hp
   replace hp : spec_Whole_bit_j2 k x2 = some out := hp
   unfold spec_Whole_bit_j2 at hp
   refine s0 (rd_assign' rfl) ?_
   refine nk hK2 ?_
   refine cx_retc' ?_
   replace hp := Option.some.inj hp
   subst hp
   refine tx_pick' (L' := [(4, (Vb x2))]) (H' := []) [] (sub_cons rfl sub_nil) (by decide) pick_nil ?_
   exact tx_ret1' Try.results51 rfl () (rv_tmp' rfl) (List.Sublist.refl _)
  intro K4 hK4
  rcases br_cases hp with ⟨h2, hp⟩ | ⟨h2, hp⟩
  ·refine sx_rd' (rd_field' (off := 1) rfl Try.underlying32 rfl info30 rfl) rfl rfl (wt_is' (wt_guard' rfl rfl rfl) (beq_tt h2)) ?_
   refine sx_rd' (rd_load' (i := 0) (o := 1) rfl ⟨rfl, rfl, rfl, rfl⟩ rfl flat30) rfl rfl (wt_is' (wt_guard' rfl rfl rfl) (beq_tt h2)) ?_
   refine sx_rd' (rd_move' rfl) rfl rfl (wt_is' (wt_guard' rfl rfl rfl) (beq_tt h2)) ?_
   obtain ⟨r19, hr19, hp⟩ := bind_some hp
   refine sx_rd' (rd_bin' rfl rfl eg_int (ru_quo hr19)) rfl rfl (wt_is' (wt_guard' rfl rfl rfl) (beq_tt h2)) ?_
   obtain ⟨r20, hr20, hp⟩ := bind_some hp
   refine sx_rd' (rd_at' (K := (Ki .u32)) rfl rfl hr20 Try.underlying30 info91) rfl rfl (wt_is' (wt_guard' rfl rfl rfl) (beq_tt h2)) ?_
   refine sx_rd' (rd_load_pt' rfl rfl flat91) rfl rfl (wt_is' (wt_guard' rfl rfl rfl) (beq_tt h2)) ?_
   refine sx_rd' (rd_move' rfl) rfl rfl (wt_is' (wt_guard' rfl rfl rfl) (beq_tt h2)) ?_
   obtain ⟨r23, hr23, hp⟩ := bind_some hp
   refine sx_rd' (rd_bin' rfl rfl eg_int (ru_rem hr23)) rfl rfl (wt_is' (wt_guard' rfl rfl rfl) (beq_tt h2)) ?_
   obtain ⟨r24, hr24, hp⟩ := bind_some hp
   refine sx_rd' (rd_bin' rfl rfl eg_int (ru_shr hr24)) rfl rfl (wt_is' (wt_guard' rfl rfl rfl) (beq_tt h2)) ?_
   refine sx_rd' (rd_bin' rfl rfl eg_int ru_and) rfl rfl (wt_is' (wt_guard' rfl rfl rfl) (beq_tt h2)) ?_
   refine sx_rd' (rd_bin' rfl rfl eg_int ru_eql) rfl rfl (wt_is' (wt_guard' rfl rfl rfl) (beq_tt h2)) ?_
   refine s0 (rd_pick_true' rfl h2 rfl) ?_
   refine sx_nil' ?_
   show TX E K4 _
   exact tx_pick' [] (sub_cons rfl sub_nil) (by decide) pick_nil (hK4 (decide ((iand .u32 r24 1) = 1)) hp)
  refine sx_skip' rfl rfl (wt_is' (wt_guard' rfl rfl rfl) (beq_ft h2)) ?_
  refine sx_skip' rfl rfl (wt_is' (wt_guard' rfl rfl rfl) (beq_ft h2)) ?_
  refine sx_skip' rfl rfl (wt_is' (wt_guard' rfl rfl rfl) (beq_ft h2)) ?_
  refine sx_skip' rfl rfl (wt_is' (wt_guard' rfl rfl rfl) (beq_ft h2)) ?_
  refine sx_skip' rfl rfl (wt_is' (wt_guard' rfl rfl rfl) (beq_ft h2)) ?_
  refine sx_skip' rfl rfl (wt_is' (wt_guard' rfl rfl rfl) (beq_ft h2)) ?_
  refine sx_skip' rfl rfl (wt_is' (wt_guard' rfl rfl rfl) (beq_ft h2)) ?_
  refine sx_skip' rfl rfl (wt_is' (wt_guard' rfl rfl rfl) (beq_ft h2)) ?_
  refine sx_skip' rfl rfl (wt_is' (wt_guard' rfl rfl rfl) (beq_ft h2)) ?_
  refine sx_skip' rfl rfl (wt_is' (wt_guard' rfl rfl rfl) (beq_ft h2)) ?_
  refine sx_skip' rfl rfl (wt_is' (wt_guard' rfl rfl rfl) (beq_ft h2)) ?_
  refine s0 (rd_pick_false' rfl h2 rfl) ?_
  refine sx_nil' ?_
  show TX E K4 _
  exact tx_pick' [] (sub_cons rfl sub_nil) (by decide) pick_nil (hK4 false hp)
 intro K3 hK3
 rcases br_cases hp with ⟨h1, hp⟩ | ⟨h1, hp⟩
 ·refine sx_rd' (rd_move' rfl) rfl rfl (wt_is' (wt_guard' rfl rfl rfl) (beq_tt h1)) ?_
  obtain ⟨r9, hr9, hp⟩ := bind_some hp
  refine sx_rd' (rd_bin' rfl rfl eg_int (ru_quo hr9)) rfl rfl (wt_is' (wt_guard' rfl rfl rfl) (beq_tt h1)) ?_
  refine sx_rd' (rd_field' (off := 1) rfl Try.underlying32 rfl info30 rfl) rfl rfl (wt_is' (wt_guard' rfl rfl rfl) (beq_tt h1)) ?_
  refine sx_rd' (rd_load' (i := 0) (o := 1) rfl ⟨rfl, rfl, rfl, rfl⟩ rfl flat30) rfl rfl (wt_is' (wt_guard' rfl rfl rfl) (beq_tt h1)) ?_
  refine sx_rd' (rd_len' rfl Try.underlying30) rfl rfl (wt_is' (wt_guard' rfl rfl rfl) (beq_tt h1)) ?_
  refine sx_rd' (rd_bin' rfl rfl eg_int ru_lss) rfl rfl (wt_is' (wt_guard' rfl rfl rfl) (beq_tt h1)) ?_
  refine s0 (rd_pick_true' rfl h1 rfl) ?_
  refine sx_nil' ?_
  show TX E K3 _
  exact tx_pick' [0] (sub_cons rfl (sub_cons rfl (sub_cons rfl sub_nil))) (by decide) (pick_cons rfl pick_nil) (hK3 (decide (r9 < (a0_1.length : Int))) hp)
 refine sx_skip' rfl rfl (wt_is' (wt_guard' rfl rfl rfl) (beq_ft h1)) ?_
 refine sx_skip' rfl rfl (wt_is' (wt_guard' rfl rfl rfl) (beq_ft h1)) ?_
 refine sx_skip' rfl rfl (wt_is' (wt_guard' rfl rfl rfl) (beq_ft h1)) ?_
 refine sx_skip' rfl rfl (wt_is' (wt_guard' rfl rfl rfl) (beq_ft h1)) ?_
 refine sx_skip' rfl rfl (wt_is' (wt_guard' rfl rfl rfl) (beq_ft h1)) ?_
 refine sx_skip' rfl rfl (wt_is' (wt_guard' rfl rfl rfl) (beq_ft h1)) ?_
 refine s0 (rd_pick_false' rfl h1 rfl) ?_
 refine sx_nil' ?_
 show TX E K3 _
 exact tx_pick' [0] (sub_cons rfl (sub_cons rfl (sub_cons rfl sub_nil))) (by decide) (pick_cons rfl pick_nil) (hK3 false hp)

def spec_Whole_low_l1s (a1 : Int) (a0_0 : Bool) (a0_1 : List Int) (k : Nat) (rec1 : Int → Option (Unit ⊕ Unit)) (x1 : Int) : Option (Unit ⊕ Unit) :=
 br (decide (x1 < a1))
  ((spec_Whole_bit k a0_0 a0_1 x1) >>= fun r13 =>
  br r13
   (some (.inl ()))
   (rec1 (iadd .i64 x1 1)))
  (some (.inr ()))
def spec_Whole_low_l1 (a1 : Int) (a0_0 : Bool) (a0_1 : List Int) : Nat → Int → Option (Unit ⊕ Unit)
 | 0, _ => none
 | k + 1, v => spec_Whole_low_l1s a1 a0_0 a0_1 k (spec_Whole_low_l1 a1 a0_0 a0_1 k) v
def spec_Whole_low (k : Nat) (a0_0 : Bool) (a0_1 : List Int) (a1 : Int) : Option (Bool) :=
 (spec_Whole_low_l1 a1 a0_0 a0_1 k 0) >>= fun y1 => match y1 with
  | (.inl v2) =>
   (some true)
  | (.inr v3) =>
   (some false)

theorem spec_Whole_low_sim {k : Nat}  (a0_0 : Bool) (a0_1 : List Int) (a1 : Int) {out : Bool} (hp : spec_Whole_low k a0_0 a0_1 a1 = some out) : Sx.Fn Try.prog 52 [(Ag [(Vb a0_0), (Sl (Ki .u32) a0_1)]), (Vi a1)] [] (fun w : Unit => (Vb out)) (fun w => []) := by
 unfold spec_Whole_low at hp
 refine fn_of Try.func52 rfl Try.ntmps52 rfl fun E hM => ?_
 refine cr fun K1 hK1 => ?_
 refine sx_ox' (ox_box' rfl (lv_ag _) rfl rfl) (wt_none' rfl) fun q2 => ?_
 refine s0 (rd_assign' rfl) ?_
 refine nk hK1 ?_
 refine cx_seq' fun K2 hK2 => ?_
 refine cr fun K3 hK3 => ?_
 refine s0 (rd_assign' rfl) ?_
 refine nk hK3 ?_
 refine cx_block' ?_
 obtain ⟨y1, hy1, hp⟩ := bind_some hp
 refine cx_loopg' (F := spec_Whole_low_l1 a1 a0_0 a0_1) (G := fun k R v => spec_Whole_low_l1s a1 a0_0 a0_1 k R v) (x := 0) (gh := ()) (fun (v1 : Int) (w1 : Unit) => (⟨14, [], [(1, (Vi a1)), (2, (Vp q2)), (5, (Vi v1))], [⟨.pointer (some q2), [(Vb a0_0), (Sl (Ki .u32) a0_1)], 32, none⟩]⟩ : St)) (fun (y : Unit ⊕ Unit) => match y with | (.inl v2) => Zg E Exit.ret (fun (w2 : Unit) => (⟨14, [], [(4, (Vb true))], []⟩ : St)) | (.inr v3) => Zg E (Exit.exit 0) (fun (w3 : Unit) => (⟨14, [], [], []⟩ : St))) (fun _ => rfl) (fun _ _ => rfl) ?_ hy1 (tx_to' rfl [0] (sub_cons rfl (sub_cons rfl (sub_cons rfl sub_nil))) (by decide) (pick_cons rfl pick_nil)) ?_
 ·clear hp hy1
  clear y1
  intro k rec1 KY1 ih1
  rintro x1 ⟨⟩ y1 hp
  replace hp : spec_Whole_low_l1s a1 a0_0 a0_1 k rec1 x1 = some y1 := hp
  unfold spec_Whole_low_l1s at hp
  refine cx_seq' fun K9 hK9 => ?_
  refine cr fun K10 hK10 => ?_
  refine s0 (rd_move' rfl) ?_
  refine s0 (rd_move' rfl) ?_
  refine s0 (rd_bin' rfl rfl eg_int ru_lss) ?_
  refine nk hK10 ?_
  refine cx_cond' rfl (fun h4 => ?_) (fun h4 => ?_)
  ·replace hp := (br_t h4).symm.trans hp
   refine cx_skip' ?_
   show TX E K9 _
   refine tx_k' hK9 ?_
   refine cx_seq' fun K11 hK11 => ?_
   refine cx_block' ?_
   refine cr fun K12 hK12 => ?_
   refine s0 (rd_load_agg' (i := 0) (o := 0) (nn := 2) rfl ⟨rfl, rfl, rfl, rfl⟩ rfl agg32 (l' := [(Vb a0_0), (Sl (Ki .u32) a0_1)]) rfl) ?_
   refine s0 (rd_move' rfl) ?_
   obtain ⟨r13, hr13, hp⟩ := bind_some hp
   refine sx_ox' (ox_calln' (ent_fn' Try.func51 isn51 rfl rfl) (spec_Whole_bit_sim _ _ _ hr13 : Sx.Fn Try.prog 51 [(Ag [(Vb a0_0), (Sl (Ki .u32) a0_1)]), (Vi x1)] [] (fun x : Unit => (Vb r13)) (fun x => [])) (Hn := fun x : Unit => [⟨.pointer (some q2), [(Vb a0_0), (Sl (Ki .u32) a0_1)], 32, none⟩]) (fun _ => rfl) rfl rfl) (wt_none' rfl) fun ⟨⟩ => ?_
   refine nk hK12 ?_
   refine cx_cond' rfl (fun h5 => ?_) (fun h5 => ?_)
   ·replace hp := (br_t h5).symm.trans hp
    refine cr fun K13 hK13 => ?_
    refine s0 (rd_assign' rfl) ?_
    refine nk hK13 ?_
    refine cx_retc' ?_
    replace hp := Option.some.inj hp
    subst hp
    show TX E (Zg E Exit.ret _ Exit.ret) _
    exact tx_zend' () rfl [] (sub_cons rfl sub_nil) (by decide) pick_nil
   replace hp := (br_f h5).symm.trans hp
   refine cx_skip' ?_
   show TX E K11 _
   refine tx_k' hK11 ?_
   refine cx_region' ?_
   refine s0 (rd_move' rfl) ?_
   refine s0 (rd_bin' rfl rfl eg_int ru_add) ?_
   refine s0 (rd_assign' rfl) ?_
   refine sx_nil' ?_
   show TX E (KY1 _) _
   exact tx_pick' [0] (sub_cons rfl (sub_cons rfl (sub_cons rfl sub_nil))) (by decide) (pick_cons rfl pick_nil) (ih1 (iadd .i64 x1 1) () _ hp)
  replace hp := (br_f h4).symm.trans hp
  refine cx_exit' ?_
  replace hp := Option.some.inj hp
  subst hp
  show TX E (Zg E (Exit.exit 0) _ (Exit.exit 0)) _
  exact tx_zend' () rfl [] sub_nil (by decide) pick_nil
 rcases y1 with v2 | v3
 ·dsimp only at hp
  refine zg_out fun w2 => ?_
  replace hp := Option.some.inj hp
  subst hp
  refine tx_pick' (L' := [(4, (Vb true))]) (H' := []) [] (sub_cons rfl sub_nil) (by decide) pick_nil ?_
  exact tx_ret1' Try.results52 rfl () (rv_tmp' rfl) (List.Sublist.refl _)
 dsimp only at hp
 refine zg_out fun w3 => ?_
 show TX E K2 _
 refine tx_k' hK2 ?_
 refine cr fun K14 hK14 => ?_
 refine s0 (rd_assign' rfl) ?_
 refine nk hK14 ?_
 refine cx_retc' ?_
 replace hp := Option.some.inj hp
 subst hp
 refine tx_pick' (L' := [(4, (Vb false))]) (H' := []) [] (sub_cons rfl sub_nil) (by decide) pick_nil ?_
 exact tx_ret1' Try.results52 rfl () (rv_tmp' rfl) (List.Sublist.refl _)

def math_normalize (k : Nat) (a0 : Nat) : Option (Nat × Int) :=
 (math_Abs k a0) >>= fun r5 =>
 br (flt r5 4503599627370496)
  ((some (gmul a0 4841369599423283200)) >>= fun r8 =>
  some (r8, (-52)))
  (some (a0, 0))

theorem math_normalize_sim {k : Nat}  (a0 : Nat) {out : Nat × Int} (hp : math_normalize k a0 = some out) : Sx.Fn Try.prog 86 [(Vg a0)] [] (fun w : Unit => (Tu [(Fl out.1), (Vi out.2)])) (fun w => []) := by
 unfold math_normalize at hp
 refine fn_of Try.func86 rfl Try.ntmps86 rfl fun E hM => ?_
 refine cr fun K1 hK1 => ?_
 refine s0 (rd_assign' rfl) ?_
 refine s0 (rd_assign' rfl) ?_
 refine nk hK1 ?_
 refine cx_seq' fun K2 hK2 => ?_
 refine cr fun K3 hK3 => ?_
 refine s0 (rd_move' rfl) ?_
 obtain ⟨r5, hr5, hp⟩ := bind_some hp
 refine sx_ox' (ox_calln' (ent_fn' Try.func15 isn15 rfl rfl) (math_Abs_sim _ hr5 : Sx.Fn Try.prog 15 [(Vg a0)] [] (fun x : Unit => (Vg r5)) (fun x => [])) (Hn := fun x : Unit => []) (fun _ => rfl) rfl rfl) (wt_none' rfl) fun ⟨⟩ => ?_
 refine s0 (rd_bin' rfl rfl eg_flt ru_flt) ?_
 refine nk hK3 ?_
 refine cx_cond' rfl (fun h1 => ?_) (fun h1 => ?_)
 ·replace hp := (br_t h1).symm.trans hp
  refine cr fun K4 hK4 => ?_
  refine s0 (rd_move' rfl) ?_
  obtain ⟨r8, hr8, hp⟩ := bind_some hp
  refine sx_ox' (ox_fop' (.inr (.inr (.inl rfl))) (fl_v rfl) (fl_v rfl) (Option.some.inj hr8) rfl rfl) (wt_none' rfl) fun _ => ?_
  refine s0 (rd_assign' rfl) ?_
  refine s0 (rd_assign' rfl) ?_
  refine nk hK4 ?_
  refine cx_retc' ?_
  replace hp := Option.some.inj hp
  subst hp
  refine tx_pick' (L' := [(2, (Fl r8)), (3, (Vi (-52)))]) (H' := []) [] (sub_cons rfl (sub_cons rfl sub_nil)) (by decide) pick_nil ?_
  exact tx_ret2' Try.results86 rfl () (rv_tmp' rfl) (rv_tmp' rfl) rfl (List.Sublist.refl _)
 replace hp := (br_f h1).symm.trans hp
 refine cx_skip' ?_
 show TX E K2 _
 refine tx_k' hK2 ?_
 refine cr fun K5 hK5 => ?_
 refine s0 (rd_move' rfl) ?_
 refine s0 (rd_assign' rfl) ?_
 refine s0 (rd_assign' rfl) ?_
 refine nk hK5 ?_
 refine cx_retc' ?_
 replace hp := Option.some.inj hp
 subst hp
 refine tx_pick' (L' := [(2, (Vg a0)), (3, (Vi 0))]) (H' := []) [] (sub_cons rfl (sub_cons rfl sub_nil)) (by decide) pick_nil ?_
 exact tx_ret2' Try.results86 rfl () (rv_imp' (x := (Vg a0)) (y := (Fl a0)) (rv_tmp' rfl) imp_vf) (rv_tmp' rfl) rfl (List.Sublist.refl _)

def math_Inf_j1 (k : Nat) (x1 : Int) : Option (Nat) :=
 some (ffrom x1)
def math_Inf (k : Nat) (a0 : Int) : Option (Nat) :=
 br (decide (0 ≤ a0))
  (math_Inf_j1 k 9218868437227405312)
  (math_Inf_j1 k 18442240474082181120)

theorem math_Inf_sim {k : Nat}  (a0 : Int) {out : Nat} (hp : math_Inf k a0 = some out) : Sx.Fn Try.prog 87 [(Vi a0)] [] (fun w : Unit => (Vg out)) (fun w => []) := by
 unfold math_Inf at hp
 refine fn_of Try.func87 rfl Try.ntmps87 rfl fun E hM => ?_
 refine cr fun K1 hK1 => ?_
 refine s0 (rd_assign' rfl) ?_
 refine nk hK1 ?_
 refine cr fun K2 hK2 => ?_
 refine s0 (rd_assign' rfl) ?_
 refine nk hK2 ?_
 refine cx_join' (fun (v1 : Int) => (⟨8, [], [(3, (Vl (.int .u64 v1)))], []⟩ : St)) (fun (v1 : Int) => math_Inf_j1 k v1 = some out) ?_ ?_
 ·rintro x1 hp
  replace hp : math_Inf_j1 k x1 = some out := hp
  unfold math_Inf_j1 at hp
  refine cr fun K5 hK5 => ?_
  refine s0 (rd_move' rfl) ?_
  refine s0 (rd_ext' (us := [.int .u64 x1]) rfl (ext38 ex_from)) ?_
  refine s0 (rd_assign' rfl) ?_
  refine nk hK5 ?_
  refine cx_retc' ?_
  replace hp := Option.some.inj hp
  subst hp
  refine tx_pick' (L' := [(2, (Vg (ffrom x1)))]) (H' := []) [] (sub_cons rfl sub_nil) (by decide) pick_nil ?_
  exact tx_ret1' Try.results87 rfl () (rv_tmp' rfl) (List.Sublist.refl _)
 intro K3 hK3
 refine cr fun K4 hK4 => ?_
 refine s0 (rd_move' rfl) ?_
 refine s0 (rd_bin' rfl rfl eg_int ru_geq) ?_
 refine nk hK4 ?_
 refine cx_cond' rfl (fun h1 => ?_) (fun h1 => ?_)
 ·replace hp := (br_t h1).symm.trans hp
  refine cx_region' ?_
  refine s0 (rd_assign' rfl) ?_
  refine sx_nil' ?_
  show TX E K3 _
  exact tx_pick' [] (sub_cons rfl sub_nil) (by decide) pick_nil (hK3 9218868437227405312 hp)
 replace hp := (br_f h1).symm.trans hp
 refine cx_region' ?_
 refine s0 (rd_assign' rfl) ?_
 refine sx_nil' ?_
 show TX E K3 _
 exact tx_pick' [] (sub_cons rfl sub_nil) (by decide) pick_nil (hK3 18442240474082181120 hp)

def math_ldexp_j2 (k : Nat) (r22 : Nat × Int) (x2 : Int) (x3 : Nat) : Option (Nat) :=
 (ishl .u64 (icv .u64 (iadd .i64 x2 1023)) 52) >>= fun r57 =>
 (some (gmul x3 (ffrom (ior .u64 (iandn .u64 (fbits r22.1) 9218868437227405312) r57)))) >>= fun r62 =>
 some r62
def math_ldexp_j1 (k : Nat) (a0 : Nat) (a1 : Int) (x1 : Bool) : Option (Nat) :=
 br x1
  (some a0)
  ((math_normalize k a0) >>= fun r22 =>
  (num r22.1) >>= fun u1 =>
  (ishr .u64 (fbits r22.1) 52) >>= fun r32 =>
  br (decide ((iadd .i64 (iadd .i64 a1 r22.2) (isub .i64 (iand .i64 (icv .i64 r32) 2047) 1023)) < (-1075)))
   ((num r22.1) >>= fun u2 =>
   (math_Copysign k 0 r22.1) >>= fun r40 =>
   some r40)
   (br (decide (1023 < (iadd .i64 (iadd .i64 a1 r22.2) (isub .i64 (iand .i64 (icv .i64 r32) 2047) 1023))))
    (br (flt r22.1 0)
     ((math_Inf k (-1)) >>= fun r45 =>
     some r45)
     ((math_Inf k 1) >>= fun r46 =>
     some r46))
    (br (decide ((iadd .i64 (iadd .i64 a1 r22.2) (isub .i64 (iand .i64 (icv .i64 r32) 2047) 1023)) < (-1022)))
     (math_ldexp_j2 k r22 (iadd .i64 (iadd .i64 (iadd .i64 a1 r22.2) (isub .i64 (iand .i64 (icv .i64 r32) 2047) 1023)) 53) 4368491638549381120)
     (math_ldexp_j2 k r22 (iadd .i64 (iadd .i64 a1 r22.2) (isub .i64 (iand .i64 (icv .i64 r32) 2047) 1023)) 4607182418800017408))))
def math_ldexp (k : Nat) (a0 : Nat) (a1 : Int) : Option (Nat) :=
 br (feq a0 0)
  (some a0)
  ((math_IsInf k a0 0) >>= fun r14 =>
  br r14
   (math_ldexp_j1 k a0 a1 true)
   ((math_IsNaN k a0) >>= fun r17 =>
   math_ldexp_j1 k a0 a1 r17))

theorem math_ldexp_sim {k : Nat}  (a0 : Nat) (a1 : Int) {out : Nat} (hp : math_ldexp k a0 a1 = some out) : Sx.Fn Try.prog 73 [(Vg a0), (Vi a1)] [] (fun w : Unit => (Fl out)) (fun w => []) := by
 unfold math_ldexp at hp
 refine fn_of Try.func73 rfl Try.ntmps73 rfl fun E hM => ?_
 refine cr fun K1 hK1 => ?_
 refine s0 (rd_assign' rfl) ?_
 refine nk hK1 ?_
 refine cx_seq' fun K2 hK2 => ?_
 refine cx_block' ?_
 refine cr fun K3 hK3 => ?_
 refine s0 (rd_move' rfl) ?_
 refine s0 (rd_bin' rfl rfl eg_flt ru_feq) ?_
 refine s0 (rd_assign' rfl) ?_
 refine nk hK3 ?_
 refine cx_cond' rfl (fun h1 => ?_) (fun h1 => ?_)
 ·replace hp := (br_t h1).symm.trans hp
  refine cr fun K4 hK4 => ?_
  refine s0 (rd_move' rfl) ?_
  refine s0 (rd_assign' rfl) ?_
  refine nk hK4 ?_
  refine cx_retc' ?_
  replace hp := Option.some.inj hp
  subst hp
  refine tx_pick' (L' := [(4, (Vg a0))]) (H' := []) [] (sub_cons rfl sub_nil) (by decide) pick_nil ?_
  exact tx_ret1' Try.results73 rfl () (rv_imp' (x := (Vg a0)) (y := (Fl a0)) (rv_tmp' rfl) imp_vf) (List.Sublist.refl _)
 replace hp := (br_f h1).symm.trans hp
 refine cr fun K5 hK5 => ?_
 refine s0 (rd_move' rfl) ?_
 obtain ⟨r14, hr14, hp⟩ := bind_some hp
 refine sx_ox' (ox_calln' (ent_fn' Try.func79 isn79 rfl rfl) (math_IsInf_sim _ _ hr14 : Sx.Fn Try.prog 79 [(Vg a0), (Vi 0)] [] (fun x : Unit => (Vb r14)) (fun x => [])) (Hn := fun x : Unit => []) (fun _ => rfl) rfl rfl) (wt_none' rfl) fun ⟨⟩ => ?_
 refine s0 (rd_move' rfl) ?_
 refine sx_cutn' 3 (fun (v1 : Bool) => (⟨63, [], [(0, (Vg a0)), (1, (Vi a1)), (18, (Vb v1))], []⟩ : St)) (fun (v1 : Bool) => math_ldexp_j1 k a0 a1 v1 = some out) ?_ ?_
 ·rintro x1 hp
  replace hp : math_ldexp_j1 k a0 a1 x1 = some out := hp
  unfold math_ldexp_j1 at hp
  refine s0 (rd_assign' rfl) ?_
  refine nk hK5 ?_
  refine cx_cond' rfl (fun h3 => ?_) (fun h3 => ?_)
  ·replace hp := (br_t h3).symm.trans hp
   refine cr fun K7 hK7 => ?_
   refine s0 (rd_move' rfl) ?_
   refine s0 (rd_assign' rfl) ?_
   refine nk hK7 ?_
   refine cx_retc' ?_
   replace hp := Option.some.inj hp
   subst hp
   refine tx_pick' (L' := [(4, (Vg a0))]) (H' := []) [] (sub_cons rfl sub_nil) (by decide) pick_nil ?_
   exact tx_ret1' Try.results73 rfl () (rv_imp' (x := (Vg a0)) (y := (Fl a0)) (rv_tmp' rfl) imp_vf) (List.Sublist.refl _)
  replace hp := (br_f h3).symm.trans hp
  refine cx_skip' ?_
  show TX E K2 _
  refine tx_k' hK2 ?_
  refine cr fun K8 hK8 => ?_
  refine s0 (rd_move' rfl) ?_
  obtain ⟨r22, hr22, hp⟩ := bind_some hp
  refine sx_ox' (ox_calln' (ent_fn' Try.func86 isn86 rfl rfl) (math_normalize_sim _ hr22 : Sx.Fn Try.prog 86 [(Vg a0)] [] (fun x : Unit => (Tu [(Fl r22.1), (Vi r22.2)])) (fun x => [])) (Hn := fun x : Unit => []) (fun _ => rfl) rfl rfl) (wt_none' rfl) fun ⟨⟩ => ?_
  refine s0 (rd_move' rfl) ?_
  refine s0 (rd_extract' rfl rfl) ?_
  refine s0 (rd_extract' rfl rfl) ?_
  refine s0 (rd_assign' rfl) ?_
  refine s0 (rd_assign' rfl) ?_
  refine nk hK8 ?_
  refine cr fun K9 hK9 => ?_
  refine s0 (rd_move' rfl) ?_
  refine s0 (rd_move' rfl) ?_
  refine s0 (rd_bin' rfl rfl eg_int ru_add) ?_
  refine s0 (rd_assign' rfl) ?_
  refine nk hK9 ?_
  refine cr fun K10 hK10 => ?_
  refine s0 (rd_move' rfl) ?_
  obtain ⟨u1, hu1, hp⟩ := bind_some hp
  refine tx_slot' 28 (y := (Vg r22.1)) rfl (imp_num (num_some hu1).2) ?_
  refine s0 (rd_ext' (us := [.float .f64 r22.1]) rfl (ext39 ex_bits)) ?_
  refine s0 (rd_assign' rfl) ?_
  refine nk hK10 ?_
  refine cr fun K11 hK11 => ?_
  refine s0 (rd_move' rfl) ?_
  refine s0 (rd_move' rfl) ?_
  obtain ⟨r32, hr32, hp⟩ := bind_some hp
  refine s0 (rd_bin' rfl rfl eg_int (ru_shr hr32)) ?_
  refine s0 (rd_conv' rfl (ru_i2i (by rw [Try.underlying74]; rfl) Try.underlying3)) ?_
  refine s0 (rd_bin' rfl rfl eg_int ru_and) ?_
  refine s0 (rd_bin' rfl rfl eg_int ru_sub) ?_
  refine s0 (rd_bin' rfl rfl eg_int ru_add) ?_
  refine s0 (rd_assign' rfl) ?_
  refine nk hK11 ?_
  refine cx_seq' fun K12 hK12 => ?_
  refine cr fun K13 hK13 => ?_
  refine s0 (rd_move' rfl) ?_
  refine s0 (rd_bin' rfl rfl eg_int ru_lss) ?_
  refine nk hK13 ?_
  refine cx_cond' rfl (fun h4 => ?_) (fun h4 => ?_)
  ·replace hp := (br_t h4).symm.trans hp
   refine cr fun K14 hK14 => ?_
   refine s0 (rd_move' rfl) ?_
   obtain ⟨u2, hu2, hp⟩ := bind_some hp
   refine tx_slot' 39 (y := (Vg r22.1)) rfl (imp_num (num_some hu2).2) ?_
   obtain ⟨r40, hr40, hp⟩ := bind_some hp
   refine sx_ox' (ox_calln' (ent_fn' Try.func83 isn83 rfl rfl) (math_Copysign_sim _ _ hr40 : Sx.Fn Try.prog 83 [(Vg 0), (Vg r22.1)] [] (fun x : Unit => (Vg r40)) (fun x => [])) (Hn := fun x : Unit => []) (fun _ => rfl) rfl rfl) (wt_none' rfl) fun ⟨⟩ => ?_
   refine s0 (rd_assign' rfl) ?_
   refine nk hK14 ?_
   refine cx_retc' ?_
   replace hp := Option.some.inj hp
   subst hp
   refine tx_pick' (L' := [(4, (Vg r40))]) (H' := []) [] (sub_cons rfl sub_nil) (by decide) pick_nil ?_
   exact tx_ret1' Try.results73 rfl () (rv_imp' (x := (Vg r40)) (y := (Fl r40)) (rv_tmp' rfl) imp_vf) (List.Sublist.refl _)
  replace hp := (br_f h4).symm.trans hp
  refine cx_skip' ?_
  show TX E K12 _
  refine tx_k' hK12 ?_
  refine cx_seq' fun K15 hK15 => ?_
  refine cr fun K16 hK16 => ?_
  refine s0 (rd_move' rfl) ?_
  refine s0 (rd_bin' rfl rfl eg_int ru_gtr) ?_
  refine nk hK16 ?_
  refine cx_cond' rfl (fun h5 => ?_) (fun h5 => ?_)
  ·replace hp := (br_t h5).symm.trans hp
   refine cx_seq' fun K17 hK17 => ?_
   refine cr fun K18 hK18 => ?_
   refine s0 (rd_move' rfl) ?_
   refine s0 (rd_fcmp' (fl_f rfl) (fl_v rfl) rfl) ?_
   refine nk hK18 ?_
   refine cx_cond' rfl (fun h6 => ?_) (fun h6 => ?_)
   ·replace hp := (br_t h6).symm.trans hp
    refine cr fun K19 hK19 => ?_
    obtain ⟨r45, hr45, hp⟩ := bind_some hp
    refine sx_ox' (ox_calln' (ent_fn' Try.func87 isn87 rfl rfl) (math_Inf_sim _ hr45 : Sx.Fn Try.prog 87 [(Vi (-1))] [] (fun x : Unit => (Vg r45)) (fun x => [])) (Hn := fun x : Unit => []) (fun _ => rfl) rfl rfl) (wt_none' rfl) fun ⟨⟩ => ?_
    refine s0 (rd_assign' rfl) ?_
    refine nk hK19 ?_
    refine cx_retc' ?_
    replace hp := Option.some.inj hp
    subst hp
    refine tx_pick' (L' := [(4, (Vg r45))]) (H' := []) [] (sub_cons rfl sub_nil) (by decide) pick_nil ?_
    exact tx_ret1' Try.results73 rfl () (rv_imp' (x := (Vg r45)) (y := (Fl r45)) (rv_tmp' rfl) imp_vf) (List.Sublist.refl _)
   replace hp := (br_f h6).symm.trans hp
   refine cx_skip' ?_
   show TX E K17 _
   refine tx_k' hK17 ?_
   refine cr fun K20 hK20 => ?_
   obtain ⟨r46, hr46, hp⟩ := bind_some hp
   refine sx_ox' (ox_calln' (ent_fn' Try.func87 isn87 rfl rfl) (math_Inf_sim _ hr46 : Sx.Fn Try.prog 87 [(Vi 1)] [] (fun x : Unit => (Vg r46)) (fun x => [])) (Hn := fun x : Unit => []) (fun _ => rfl) rfl rfl) (wt_none' rfl) fun ⟨⟩ => ?_
   refine s0 (rd_assign' rfl) ?_
   refine nk hK20 ?_
   refine cx_retc' ?_
   replace hp := Option.some.inj hp
   subst hp
   refine tx_pick' (L' := [(4, (Vg r46))]) (H' := []) [] (sub_cons rfl sub_nil) (by decide) pick_nil ?_
   exact tx_ret1' Try.results73 rfl () (rv_imp' (x := (Vg r46)) (y := (Fl r46)) (rv_tmp' rfl) imp_vf) (List.Sublist.refl _)
  replace hp := (br_f h5).symm.trans hp
  refine cx_skip' ?_
  show TX E K15 _
  refine tx_k' hK15 ?_
  refine cr fun K21 hK21 => ?_
  refine s0 (rd_assign' rfl) ?_
  refine nk hK21 ?_
  refine cx_join' (fun (v2 : Int × Nat) => (⟨63, [], [(1, (Vi v2.1)), (6, (Vl (.int .u64 (fbits r22.1)))), (7, (Vg v2.2))], []⟩ : St)) (fun (v2 : Int × Nat) => math_ldexp_j2 k r22 v2.1 v2.2 = some out) ?_ ?_
  ·rintro ⟨x2, x3⟩ hp
   replace hp : math_ldexp_j2 k r22 x2 x3 = some out := hp
   unfold math_ldexp_j2 at hp
   refine cr fun K25 hK25 => ?_
   refine s0 (rd_move' rfl) ?_
   refine s0 (rd_bin' rfl rfl eg_int ru_andn) ?_
   refine s0 (rd_assign' rfl) ?_
   refine nk hK25 ?_
   refine cr fun K26 hK26 => ?_
   refine s0 (rd_move' rfl) ?_
   refine s0 (rd_move' rfl) ?_
   refine s0 (rd_bin' rfl rfl eg_int ru_add) ?_
   refine s0 (rd_conv' rfl (ru_i2i (by rw [Try.underlying3]; rfl) Try.underlying74)) ?_
   obtain ⟨r57, hr57, hp⟩ := bind_some hp
   refine s0 (rd_bin' rfl rfl eg_int (ru_shl hr57)) ?_
   refine s0 (rd_bin' rfl rfl eg_int ru_or) ?_
   refine s0 (rd_assign' rfl) ?_
   refine nk hK26 ?_
   refine cr fun K27 hK27 => ?_
   refine s0 (rd_move' rfl) ?_
   refine s0 (rd_move' rfl) ?_
   refine s0 (rd_ext' (us := [.int .u64 (ior .u64 (iandn .u64 (fbits r22.1) 9218868437227405312) r57)]) rfl (ext38 ex_from)) ?_
   obtain ⟨r62, hr62, hp⟩ := bind_some hp
   refine sx_ox' (ox_fop' (.inr (.inr (.inl rfl))) (fl_v rfl) (fl_v rfl) (Option.some.inj hr62) rfl rfl) (wt_none' rfl) fun _ => ?_
   refine s0 (rd_assign' rfl) ?_
   refine nk hK27 ?_
   refine cx_retc' ?_
   replace hp := Option.some.inj hp
   subst hp
   refine tx_pick' (L' := [(4, (Fl r62))]) (H' := []) [] (sub_cons rfl sub_nil) (by decide) pick_nil ?_
   exact tx_ret1' Try.results73 rfl () (rv_tmp' rfl) (List.Sublist.refl _)
  intro K22 hK22
  refine cr fun K23 hK23 => ?_
  refine s0 (rd_move' rfl) ?_
  refine s0 (rd_bin' rfl rfl eg_int ru_lss) ?_
  refine nk hK23 ?_
  refine cx_cond' rfl (fun h7 => ?_) (fun h7 => ?_)
  ·replace hp := (br_t h7).symm.trans hp
   refine cr fun K24 hK24 => ?_
   refine s0 (rd_move' rfl) ?_
   refine s0 (rd_bin' rfl rfl eg_int ru_add) ?_
   refine s0 (rd_assign' rfl) ?_
   refine nk hK24 ?_
   refine cx_region' ?_
   refine s0 (rd_assign' rfl) ?_
   refine sx_nil' ?_
   show TX E K22 _
   exact tx_pick' [] (sub_cons rfl (sub_cons rfl (sub_cons rfl sub_nil))) (by decide) pick_nil (hK22 ((iadd .i64 (iadd .i64 (iadd .i64 a1 r22.2) (isub .i64 (iand .i64 (icv .i64 r32) 2047) 1023)) 53), 4368491638549381120) hp)
  replace hp := (br_f h7).symm.trans hp
  refine cx_skip' ?_
  show TX E K22 _
  exact tx_pick' [] (sub_cons rfl (sub_cons rfl (sub_cons rfl sub_nil))) (by decide) pick_nil (hK22 ((iadd .i64 (iadd .i64 a1 r22.2) (isub .i64 (iand .i64 (icv .i64 r32) 2047) 1023)), 4607182418800017408) hp)
 intro K6 hK6
 rcases br_cases hp with ⟨h2, hp⟩ | ⟨h2, hp⟩
 ·refine sx_skip' rfl rfl (wt_is' (wt_guard' rfl rfl rfl) (beq_tf h2)) ?_
  refine sx_skip' rfl rfl (wt_is' (wt_guard' rfl rfl rfl) (beq_tf h2)) ?_
  refine s0 (rd_pick_true' rfl h2 rfl) ?_
  refine sx_nil' ?_
  show TX E K6 _
  exact tx_pick' [] (sub_cons rfl (sub_cons rfl (sub_cons rfl sub_nil))) (by decide) pick_nil (hK6 true hp)
 refine sx_rd' (rd_move' rfl) rfl rfl (wt_is' (wt_guard' rfl rfl rfl) (beq_ff h2)) ?_
 obtain ⟨r17, hr17, hp⟩ := bind_some hp
 refine sx_ox' (ox_calln' (ent_fn' Try.func47 isn47 rfl rfl) (math_IsNaN_sim _ hr17 : Sx.Fn Try.prog 47 [(Vg a0)] [] (fun x : Unit => (Vb r17)) (fun x => [])) (Hn := fun x : Unit => []) (fun _ => rfl) rfl rfl) (wt_is' (wt_guard' rfl rfl rfl) (beq_ff h2)) fun ⟨⟩ => ?_
 refine s0 (rd_pick_false' rfl h2 rfl) ?_
 refine sx_nil' ?_
 show TX E K6 _
 exact tx_pick' [] (sub_cons rfl (sub_cons rfl (sub_cons rfl sub_nil))) (by decide) pick_nil (hK6 r17 hp)

def math_Ldexp (k : Nat) (a0 : Nat) (a1 : Int) : Option (Nat) :=
 (math_ldexp k a0 a1) >>= fun r10 =>
 some r10

theorem math_Ldexp_sim {k : Nat}  (a0 : Nat) (a1 : Int) {out : Nat} (hp : math_Ldexp k a0 a1 = some out) : Sx.Fn Try.prog 53 [(Vg a0), (Vi a1)] [] (fun w : Unit => (Fl out)) (fun w => []) := by
 unfold math_Ldexp at hp
 refine fn_of Try.func53 rfl Try.ntmps53 rfl fun E hM => ?_
 refine cr fun K1 hK1 => ?_
 refine s0 (rd_assign' rfl) ?_
 refine nk hK1 ?_
 refine cx_seq' fun K2 hK2 => ?_
 refine cx_cond_f' rfl rfl ?_
 refine cx_skip' ?_
 show TX E K2 _
 refine tx_k' hK2 ?_
 refine cr fun K3 hK3 => ?_
 refine s0 (rd_move' rfl) ?_
 refine s0 (rd_move' rfl) ?_
 obtain ⟨r10, hr10, hp⟩ := bind_some hp
 refine sx_ox' (ox_calln' (ent_fn' Try.func73 isn73 rfl rfl) (math_ldexp_sim _ _ hr10 : Sx.Fn Try.prog 73 [(Vg a0), (Vi a1)] [] (fun x : Unit => (Fl r10)) (fun x => [])) (Hn := fun x : Unit => []) (fun _ => rfl) rfl rfl) (wt_none' rfl) fun ⟨⟩ => ?_
 refine s0 (rd_assign' rfl) ?_
 refine nk hK3 ?_
 refine cx_retc' ?_
 replace hp := Option.some.inj hp
 subst hp
 refine tx_pick' (L' := [(4, (Fl r10))]) (H' := []) [] (sub_cons rfl sub_nil) (by decide) pick_nil ?_
 exact tx_ret1' Try.results53 rfl () (rv_tmp' rfl) (List.Sublist.refl _)

end Go.Proofs.Ytmkhoplffiakmaa
