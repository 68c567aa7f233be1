/-
  Plain functions for the Go functions that this law reaches, and that each call does what its plain function says. Printed by a program of ours.
-/
import Derived.Test.YtpakkblinocenaaProg
import Derived.Test.YtpakkblinocenaaSxX
namespace Go.Proofs.Ytpakkblinocenaa
open Go.Sx
set_option linter.unusedVariables false
set_option maxRecDepth 100000

theorem isn8 : (Try.f8.name == "runtime.NumGoroutine") = false := by kernel_rfl
theorem info35 : (Try.prog.info? 35).map (fun i => (i.zero, i.size, i.bytes)) = some (some (.agg #[.slice none 0 0, .float .f64 0, .int .i64 0, .int .i64 0]), 4, 48) := by kernel_rfl
theorem agg35 : Agg Try.prog 35 4 := ⟨⟨_, Try.underlying35, .inl ⟨_, rfl⟩⟩, info_size info35⟩
theorem isn32 : (Try.f32.name == "runtime.NumGoroutine") = false := by kernel_rfl
theorem info25 : (Try.prog.info? 25).map (fun i => (i.zero, i.size, i.bytes)) = some (some (.slice none 0 0), 1, 24) := by kernel_rfl
theorem flat25 : Flat Try.prog 25 := ⟨_, Try.underlying25, fun _ h => (nomatch h), fun _ _ h => (nomatch h)⟩
theorem isn9 : (Try.f9.name == "runtime.NumGoroutine") = false := by kernel_rfl
theorem isn33 : (Try.f33.name == "runtime.NumGoroutine") = false := by kernel_rfl
theorem isn11 : (Try.f11.name == "runtime.NumGoroutine") = false := by kernel_rfl
theorem flat22 : Flat Try.prog 22 := ⟨_, Try.underlying22, fun _ h => (nomatch h), fun _ _ h => (nomatch h)⟩
theorem isn41 : (Try.f41.name == "runtime.NumGoroutine") = false := by kernel_rfl
theorem flat3 : Flat Try.prog 3 := ⟨_, Try.underlying3, fun _ h => (nomatch h), fun _ _ h => (nomatch h)⟩
theorem flat145 : Flat Try.prog 145 := ⟨_, Try.underlying145, fun _ h => (nomatch h), fun _ _ h => (nomatch h)⟩
theorem isn81 : (Try.f81.name == "runtime.NumGoroutine") = false := by kernel_rfl
theorem flat4 : Flat Try.prog 4 := ⟨_, Try.underlying4, fun _ h => (nomatch h), fun _ _ h => (nomatch h)⟩
theorem flat63 : Flat Try.prog 63 := ⟨_, Try.underlying63, fun _ h => (nomatch h), fun _ _ h => (nomatch h)⟩
theorem info4 : (Try.prog.info? 4).map (fun i => (i.zero, i.size, i.bytes)) = some (some (.bool false), 1, 1) := by kernel_rfl
theorem flat78 : Flat Try.prog 78 := ⟨_, Try.underlying78, fun _ h => (nomatch h), fun _ _ h => (nomatch h)⟩
theorem isn42 : (Try.f42.name == "runtime.NumGoroutine") = false := by kernel_rfl
theorem info3 : (Try.prog.info? 3).map (fun i => (i.zero, i.size, i.bytes)) = some (some (.int .i64 0), 1, 8) := by kernel_rfl
theorem mixed : Try.prog.follows .mixedOrders = true := by kernel_rfl
theorem flat27 : Flat Try.prog 27 := ⟨_, Try.underlying27, fun _ h => (nomatch h), fun _ _ h => (nomatch h)⟩
theorem info27 : (Try.prog.info? 27).map (fun i => (i.zero, i.size, i.bytes)) = some (some (.slice none 0 0), 1, 24) := by kernel_rfl
theorem info145 : (Try.prog.info? 145).map (fun i => (i.zero, i.size, i.bytes)) = some (some (.nilFunc), 1, 8) := by kernel_rfl
theorem info63 : (Try.prog.info? 63).map (fun i => (i.zero, i.size, i.bytes)) = some (some (.slice none 0 0), 1, 24) := by kernel_rfl
theorem info33 : (Try.prog.info? 33).map (fun i => (i.zero, i.size, i.bytes)) = some (some (.float .f64 0), 1, 8) := by kernel_rfl
theorem flat33 : Flat Try.prog 33 := ⟨_, Try.underlying33, fun _ h => (nomatch h), fun _ _ h => (nomatch h)⟩
theorem isn75 : (Try.f75.name == "runtime.NumGoroutine") = false := by kernel_rfl
theorem isn76 : (Try.f76.name == "runtime.NumGoroutine") = false := by kernel_rfl
theorem ext99 : ∀ {args : Array Value} {v : Value}, Runs Try.prog ((Extern.MathFloatBits.float64bits) args) v → Runs Try.prog (callFunc 99 args) (.value v) := fun hr => ru_ext Try.func99 (by kernel_rfl) (by kernel_rfl) (by kernel_rfl) (by kernel_rfl) hr
theorem places135 : placesOf Try.prog [{ name := "N", type := 133, offset := 0, embedded := false, tag := "", pkgPath := "", byteOffset := 0 }, { name := "E", type := 3, offset := 2, embedded := false, tag := "", pkgPath := "", byteOffset := 32 }] = [(0, 2), (2, 1)] := by kernel_rfl
theorem has135 : ∀ f ∈ ([{ name := "N", type := 133, offset := 0, embedded := false, tag := "", pkgPath := "", byteOffset := 0 }, { name := "E", type := 3, offset := 2, embedded := false, tag := "", pkgPath := "", byteOffset := 32 }] : List Field), (Try.prog.info? f.type).isSome = true := fun f hf => all_of (p := fun f => (Try.prog.info? f.type).isSome) (by kernel_rfl) f hf
theorem info135 : (Try.prog.info? 135).map (fun i => (i.zero, i.size, i.bytes)) = some (some (.agg #[.bool false, .slice none 0 0, .int .i64 0]), 3, 40) := by kernel_rfl
theorem isn100 : (Try.f100.name == "runtime.NumGoroutine") = false := by kernel_rfl
theorem isn119 : (Try.f119.name == "runtime.NumGoroutine") = false := by kernel_rfl
theorem info214 : (Try.prog.info? 214).map (fun i => (i.zero, i.size, i.bytes)) = some (some (.int .u32 0), 1, 4) := by kernel_rfl
theorem flat214 : Flat Try.prog 214 := ⟨_, Try.underlying214, fun _ h => (nomatch h), fun _ _ h => (nomatch h)⟩
theorem places133 : placesOf Try.prog [{ name := "Neg", type := 4, offset := 0, embedded := false, tag := "", pkgPath := "", byteOffset := 0 }, { name := "L", type := 131, offset := 1, embedded := false, tag := "", pkgPath := "", byteOffset := 8 }] = [(0, 1), (1, 1)] := by kernel_rfl
theorem has133 : ∀ f ∈ ([{ name := "Neg", type := 4, offset := 0, embedded := false, tag := "", pkgPath := "", byteOffset := 0 }, { name := "L", type := 131, offset := 1, embedded := false, tag := "", pkgPath := "", byteOffset := 8 }] : List Field), (Try.prog.info? f.type).isSome = true := fun f hf => all_of (p := fun f => (Try.prog.info? f.type).isSome) (by kernel_rfl) f hf
theorem info133 : (Try.prog.info? 133).map (fun i => (i.zero, i.size, i.bytes)) = some (some (.agg #[.bool false, .slice none 0 0]), 2, 32) := by kernel_rfl
theorem agg133 : Agg Try.prog 133 2 := ⟨⟨_, Try.underlying133, .inl ⟨_, rfl⟩⟩, info_size info133⟩
theorem agg135 : Agg Try.prog 135 3 := ⟨⟨_, Try.underlying135, .inl ⟨_, rfl⟩⟩, info_size info135⟩
theorem isn77 : (Try.f77.name == "runtime.NumGoroutine") = false := by kernel_rfl
theorem isn101 : (Try.f101.name == "runtime.NumGoroutine") = false := by kernel_rfl
theorem info131 : (Try.prog.info? 131).map (fun i => (i.zero, i.size, i.bytes)) = some (some (.slice none 0 0), 1, 24) := by kernel_rfl
theorem flat131 : Flat Try.prog 131 := ⟨_, Try.underlying131, fun _ h => (nomatch h), fun _ _ h => (nomatch h)⟩
theorem isn34 : (Try.f34.name == "runtime.NumGoroutine") = false := by kernel_rfl
theorem isn59 : (Try.f59.name == "runtime.NumGoroutine") = false := by kernel_rfl
theorem isn78 : (Try.f78.name == "runtime.NumGoroutine") = false := by kernel_rfl
theorem isn102 : (Try.f102.name == "runtime.NumGoroutine") = false := by kernel_rfl
theorem isn121 : (Try.f121.name == "runtime.NumGoroutine") = false := by kernel_rfl
theorem isn132 : (Try.f132.name == "runtime.NumGoroutine") = false := by kernel_rfl
theorem isn120 : (Try.f120.name == "runtime.NumGoroutine") = false := by kernel_rfl
theorem isn103 : (Try.f103.name == "runtime.NumGoroutine") = false := by kernel_rfl
theorem isn122 : (Try.f122.name == "runtime.NumGoroutine") = false := by kernel_rfl
theorem isn130 : (Try.f130.name == "runtime.NumGoroutine") = false := by kernel_rfl
theorem isn131 : (Try.f131.name == "runtime.NumGoroutine") = false := by kernel_rfl
theorem isn134 : (Try.f134.name == "runtime.NumGoroutine") = false := by kernel_rfl
theorem isn135 : (Try.f135.name == "runtime.NumGoroutine") = false := by kernel_rfl
theorem isn136 : (Try.f136.name == "runtime.NumGoroutine") = false := by kernel_rfl
theorem isn35 : (Try.f35.name == "runtime.NumGoroutine") = false := by kernel_rfl
theorem isn43 : (Try.f43.name == "runtime.NumGoroutine") = false := by kernel_rfl
theorem isn82 : (Try.f82.name == "runtime.NumGoroutine") = false := by kernel_rfl
theorem extf104 : ∀ {x r : Nat}, gint .zero x = r → ∀ y, (y = x ∨ (isn x = true ∧ isn y = true)) → RunsF Try.prog (callFunc 104 #[.float .f64 y]) (Fl r) := fun hz y hy => hz ▸ runs_ext (e := Extern.MathFloor.toIntegral "math.archTrunc" .zero) Try.func104 (by kernel_rfl) (by kernel_rfl) (by kernel_rfl) (by kernel_rfl) (gint_runs hy)
theorem isn10 : (Try.f10.name == "runtime.NumGoroutine") = false := by kernel_rfl
theorem isn37 : (Try.f37.name == "runtime.NumGoroutine") = false := by kernel_rfl
theorem isn79 : (Try.f79.name == "runtime.NumGoroutine") = false := by kernel_rfl
theorem isn40 : (Try.f40.name == "runtime.NumGoroutine") = false := by kernel_rfl
theorem places199 : placesOf Try.prog [{ name := "Point", type := 73, offset := 0, embedded := false, tag := "", pkgPath := "", byteOffset := 0 }, { name := "Radius", type := 33, offset := 1, embedded := false, tag := "", pkgPath := "", byteOffset := 16 }, { name := "Closer", type := 139, offset := 2, embedded := false, tag := "", pkgPath := "", byteOffset := 24 }, { name := "Further", type := 139, offset := 3, embedded := false, tag := "", pkgPath := "", byteOffset := 32 }] = [(0, 1), (1, 1), (2, 1), (3, 1)] := by kernel_rfl
theorem has199 : ∀ f ∈ ([{ name := "Point", type := 73, offset := 0, embedded := false, tag := "", pkgPath := "", byteOffset := 0 }, { name := "Radius", type := 33, offset := 1, embedded := false, tag := "", pkgPath := "", byteOffset := 16 }, { name := "Closer", type := 139, offset := 2, embedded := false, tag := "", pkgPath := "", byteOffset := 24 }, { name := "Further", type := 139, offset := 3, embedded := false, tag := "", pkgPath := "", byteOffset := 32 }] : List Field), (Try.prog.info? f.type).isSome = true := fun f hf => all_of (p := fun f => (Try.prog.info? f.type).isSome) (by kernel_rfl) f hf
theorem info199 : (Try.prog.info? 199).map (fun i => (i.zero, i.size, i.bytes)) = some (some (.agg #[.nilIface, .float .f64 0, .pointer none, .pointer none]), 4, 40) := by kernel_rfl
theorem info139 : (Try.prog.info? 139).map (fun i => (i.zero, i.size, i.bytes)) = some (some (.pointer none), 1, 8) := by kernel_rfl
theorem places142 : placesOf Try.prog [{ name := "Root", type := 139, offset := 0, embedded := false, tag := "", pkgPath := "", byteOffset := 0 }, { name := "Count", type := 3, offset := 1, embedded := false, tag := "", pkgPath := "", byteOffset := 8 }] = [(0, 1), (1, 1)] := by kernel_rfl
theorem has142 : ∀ f ∈ ([{ name := "Root", type := 139, offset := 0, embedded := false, tag := "", pkgPath := "", byteOffset := 0 }, { name := "Count", type := 3, offset := 1, embedded := false, tag := "", pkgPath := "", byteOffset := 8 }] : List Field), (Try.prog.info? f.type).isSome = true := fun f hf => all_of (p := fun f => (Try.prog.info? f.type).isSome) (by kernel_rfl) f hf
theorem info142 : (Try.prog.info? 142).map (fun i => (i.zero, i.size, i.bytes)) = some (some (.agg #[.pointer none, .int .i64 0]), 2, 16) := by kernel_rfl
theorem isn38 : (Try.f38.name == "runtime.NumGoroutine") = false := by kernel_rfl
theorem flat139 : Flat Try.prog 139 := ⟨_, Try.underlying139, fun _ h => (nomatch h), fun _ _ h => (nomatch h)⟩
theorem nil_eql139_nilptr : ∀ (w : World), (binOp .eql 139 (.pointer none) (.pointer none)).run Try.prog w = .ok (.bool true) w := fun _ => by kernel_rfl
theorem nil_eql139_pt : ∀ (q : Addr) (w : World), (binOp .eql 139 (.pointer (some q)) (.pointer none)).run Try.prog w = .ok (.bool false) w := fun _ _ => by kernel_rfl
theorem isn80 : (Try.f80.name == "runtime.NumGoroutine") = false := by kernel_rfl
theorem nil_neq139_nilptr : ∀ (w : World), (binOp .neq 139 (.pointer none) (.pointer none)).run Try.prog w = .ok (.bool false) w := fun _ => by kernel_rfl
theorem nil_neq139_pt : ∀ (q : Addr) (w : World), (binOp .neq 139 (.pointer (some q)) (.pointer none)).run Try.prog w = .ok (.bool true) w := fun _ _ => by kernel_rfl
theorem info73 : (Try.prog.info? 73).map (fun i => (i.zero, i.size, i.bytes)) = some (some (.nilIface), 1, 16) := by kernel_rfl
theorem flat73 : Flat Try.prog 73 := ⟨_, Try.underlying73, fun _ h => (nomatch h), fun _ _ h => (nomatch h)⟩
theorem isn39 : (Try.f39.name == "runtime.NumGoroutine") = false := by kernel_rfl
theorem flat26 : Flat Try.prog 26 := ⟨_, Try.underlying26, fun _ h => (nomatch h), fun _ _ h => (nomatch h)⟩
theorem as75_73_75 : ∀ v w, (Instr.typeAssert (.iface 75 v) 73 75 false).run Try.prog w = .ok (v) w := fun _ _ => by kernel_rfl
theorem info26 : (Try.prog.info? 26).map (fun i => (i.zero, i.size, i.bytes)) = some (some (.slice none 0 0), 1, 24) := by kernel_rfl
theorem idle36 : Idle Try.prog 36 3 := fun vs w hv => by
  obtain ⟨v0, v1, v2, rfl⟩ : ∃ v0 v1 v2, vs = [v0, v1, v2] := by
    obtain _ | ⟨v0, vs⟩ := vs
    · simp at hv
    obtain _ | ⟨v1, vs⟩ := vs
    · simp at hv
    obtain _ | ⟨v2, vs⟩ := vs
    · simp at hv
    obtain _ | ⟨u, vs⟩ := vs
    · exact ⟨v0, v1, v2, rfl⟩
    · simp at hv
  refine callsD_of_wpS Try.func36 rfl fun c₀ cs hu => ?_
  apply wpS_seq
  apply wpS_region
  simp [wpOpsS, go_sem, recoverD, hu, Try.ntmps36, Exit.thenS]
  refine wpS_cond (t := false) (by simp [Act.eval, Array.replicate]) ?_
  simp only [Bool.false_eq_true, if_false]
  refine wpS_of_wp (wp_skip ?_)
  cases c₀
  simp_all [bodyPostS, results, Try.results36]
theorem isn36 : (Try.f36.name == "runtime.NumGoroutine") = false := by kernel_rfl
theorem isn12 : (Try.f12.name == "runtime.NumGoroutine") = false := by kernel_rfl
def KT35 : Kd ((List Nat) × Nat × Int × Int) := ⟨4, fun x => [(Sl Kf x.1), (Vl (.float .f64 x.2.1)), (Vl (.int .i64 x.2.2.1)), (Vl (.int .i64 x.2.2.2))], fun _ => rfl⟩
inductive G73 where
  | c0 (x0 : List Nat) : G73
def SG73 : G73 → SV
  | .c0 x0 => (If 75 (Sl Kf x0))
def KG73 : Kd G73 := Kd.one SG73
theorem SG73_c0 (x0 : List Nat) : SG73 (.c0 x0) = (If 75 (Sl Kf x0)) := rfl
inductive G139 where
  | c0 : G139
  | c1 (x0 : G73) (x1 : Nat) (x2 : G139) (x3 : G139) : G139
def SG139 : G139 → SV
  | .c0 => (Vl (.pointer none))
  | .c1 x0 x1 x2 x3 => (Pt [(SG73 x0), (Vl (.float .f64 x1)), (SG139 x2), (SG139 x3)])
def KG139 : Kd G139 := Kd.one SG139
theorem SG139_c0 : SG139 .c0 = (Vl (.pointer none)) := rfl
theorem SG139_c1 (x0 : G73) (x1 : Nat) (x2 : G139) (x3 : G139) : SG139 (.c1 x0 x1 x2 x3) = (Pt [(SG73 x0), (Vl (.float .f64 x1)), (SG139 x2), (SG139 x3)]) := rfl
theorem SG139_lv (x : G139) : Lv (SG139 x) [SG139 x] := by
  cases x with
  | c0 => exact lv_vl rfl rfl
  | c1 x0 x1 x2 x3 => exact lv_pt _


def laws_zzFits11 (k : Nat) (a0_0 : List Nat) (a0_1 : Nat) (a0_2 : Int) (a0_3 : Int) : Option (Bool) :=
 br (decide (2147483647 < (a0_0.length : Int)))
  (some false)
  (some true)

theorem laws_zzFits11_sim {k : Nat}  (a0_0 : List Nat) (a0_1 : Nat) (a0_2 : Int) (a0_3 : Int) {out : Bool} (hp : laws_zzFits11 k a0_0 a0_1 a0_2 a0_3 = some out) : Sx.Fn Try.prog 32 [(Ag [(Sl Kf a0_0), (Vg a0_1), (Vi a0_2), (Vi a0_3)])] [] (fun w : Unit => (Vb out)) (fun w => []) := by
 unfold laws_zzFits11 at hp
 refine fn_of Try.func32 rfl Try.ntmps32 rfl fun E hM => ?_
 refine cr fun K1 hK1 => ?_
 refine sx_ox' (ox_box' rfl (lv_ag _) rfl rfl) (wt_none' rfl) fun q1 => ?_
 refine s0 (rd_assign' rfl) ?_
 refine nk hK1 ?_
 refine cx_seq' fun K2 hK2 => ?_
 refine cr fun K3 hK3 => ?_
 refine s0 (rd_field0' rfl Try.underlying35 rfl info25 rfl) ?_
 refine s0 (rd_load' (i := 0) (o := 0) rfl ⟨rfl, rfl, rfl, rfl⟩ rfl flat25) ?_
 refine s0 (rd_len' rfl Try.underlying25) ?_
 refine s0 (rd_bin' rfl rfl eg_int ru_gtr) ?_
 refine nk hK3 ?_
 refine cx_cond' rfl (fun h1 => ?_) (fun h1 => ?_)
 ·replace hp := (br_t h1).symm.trans hp
  refine cr fun K4 hK4 => ?_
  refine s0 (rd_assign' rfl) ?_
  refine nk hK4 ?_
  refine cx_retc' ?_
  replace hp := Option.some.inj hp
  subst hp
  refine tx_pick' (L' := [(2, (Vb false))]) (H' := []) [] (sub_cons rfl sub_nil) (by decide) pick_nil ?_
  exact tx_ret1' Try.results32 rfl () (rv_tmp' rfl) (List.Sublist.refl _)
 replace hp := (br_f h1).symm.trans hp
 refine cx_skip' ?_
 show TX E K2 _
 refine tx_k' hK2 ?_
 refine cr fun K5 hK5 => ?_
 refine s0 (rd_assign' rfl) ?_
 refine nk hK5 ?_
 refine cx_retc' ?_
 replace hp := Option.some.inj hp
 subst hp
 refine tx_pick' (L' := [(2, (Vb true))]) (H' := []) [] (sub_cons rfl sub_nil) (by decide) pick_nil ?_
 exact tx_ret1' Try.results32 rfl () (rv_tmp' rfl) (List.Sublist.refl _)

def laws_zzFits10_l1s (a0 : List ((List Nat) × Nat × Int × Int)) (k : Nat) (rec1 : Int → Option (Unit ⊕ Unit)) (x1 : Int) : Option (Unit ⊕ Unit) :=
 br (decide (x1 < (a0.length : Int)))
  ((idx a0 x1) >>= fun r12 =>
  (laws_zzFits11 k r12.1 r12.2.1 r12.2.2.1 r12.2.2.2) >>= fun r15 =>
  br (!r15)
   (some (.inl ()))
   (rec1 (iadd .i64 x1 1)))
  (some (.inr ()))
def laws_zzFits10_l1 (a0 : List ((List Nat) × Nat × Int × Int)) : Nat → Int → Option (Unit ⊕ Unit)
 | 0, _ => none
 | k + 1, v => laws_zzFits10_l1s a0 k (laws_zzFits10_l1 a0 k) v
def laws_zzFits10 (k : Nat) (a0 : List ((List Nat) × Nat × Int × Int)) : Option (Bool) :=
 br (decide (2147483647 < (a0.length : Int)))
  (some false)
  ((laws_zzFits10_l1 a0 k 0) >>= fun y1 => match y1 with
   | (.inl v2) =>
    (some false)
   | (.inr v3) =>
    (some true))

theorem laws_zzFits10_sim {k : Nat}  (a0 : List ((List Nat) × Nat × Int × Int)) {out : Bool} (hp : laws_zzFits10 k a0 = some out) : Sx.Fn Try.prog 8 [(Sl KT35 a0)] [] (fun w : Unit => (Vb out)) (fun w => []) := by
 unfold laws_zzFits10 at hp
 refine fn_of Try.func8 rfl Try.ntmps8 rfl fun E hM => ?_
 refine cr fun K1 hK1 => ?_
 refine s0 (rd_assign' rfl) ?_
 refine nk hK1 ?_
 refine cx_seq' fun K2 hK2 => ?_
 refine cr fun K3 hK3 => ?_
 refine s0 (rd_move' rfl) ?_
 refine s0 (rd_len' rfl Try.underlying22) ?_
 refine s0 (rd_bin' rfl rfl eg_int ru_gtr) ?_
 refine nk hK3 ?_
 refine cx_cond' rfl (fun h1 => ?_) (fun h1 => ?_)
 ·replace hp := (br_t h1).symm.trans hp
  refine cr fun K4 hK4 => ?_
  refine s0 (rd_assign' rfl) ?_
  refine nk hK4 ?_
  refine cx_retc' ?_
  replace hp := Option.some.inj hp
  subst hp
  refine tx_pick' (L' := [(2, (Vb false))]) (H' := []) [] (sub_cons rfl sub_nil) (by decide) pick_nil ?_
  exact tx_ret1' Try.results8 rfl () (rv_tmp' rfl) (List.Sublist.refl _)
 replace hp := (br_f h1).symm.trans hp
 refine cx_skip' ?_
 show TX E K2 _
 refine tx_k' hK2 ?_
 refine cx_seq' fun K5 hK5 => ?_
 refine cr fun K6 hK6 => ?_
 refine s0 (rd_move' rfl) ?_
 refine s0 (rd_len' rfl Try.underlying22) ?_
 refine s0 (rd_move' rfl) ?_
 refine nk hK6 ?_
 refine cx_block' ?_
 obtain ⟨y1, hy1, hp⟩ := bind_some hp
 refine cx_loopg' (F := laws_zzFits10_l1 a0) (G := fun k R v => laws_zzFits10_l1s a0 k R v) (x := 0) (gh := ()) (fun (v1 : Int) (w1 : Unit) => (⟨18, [], [(8, (Sl KT35 a0)), (9, (Vi (a0.length : Int))), (10, (Vi v1))], []⟩ : St)) (fun (y : Unit ⊕ Unit) => match y with | (.inl v2) => Zg E Exit.ret (fun (w2 : Unit) => (⟨18, [], [(2, (Vb false))], []⟩ : St)) | (.inr v3) => Zg E (Exit.exit 0) (fun (w3 : Unit) => (⟨18, [], [], []⟩ : St))) (fun _ => rfl) (fun _ _ => rfl) ?_ hy1 (tx_to' rfl [] (sub_cons rfl (sub_cons rfl (sub_cons rfl sub_nil))) (by decide) pick_nil) ?_
 ·clear hp hy1
  clear y1
  intro k rec1 KY1 ih1
  rintro x1 ⟨⟩ y1 hp
  replace hp : laws_zzFits10_l1s a0 k rec1 x1 = some y1 := hp
  unfold laws_zzFits10_l1s at hp
  refine cr fun K13 hK13 => ?_
  refine s0 (rd_bin' rfl rfl eg_int ru_lss) ?_
  refine nk hK13 ?_
  refine cx_seq' fun K14 hK14 => ?_
  refine cx_cond' rfl (fun h5 => ?_) (fun h5 => ?_)
  ·replace hp := (br_t h5).symm.trans hp
   refine cx_skip' ?_
   show TX E K14 _
   refine tx_k' hK14 ?_
   refine cx_seq' fun K15 hK15 => ?_
   refine cx_block' ?_
   refine cr fun K16 hK16 => ?_
   obtain ⟨r12, hr12, hp⟩ := bind_some hp
   refine s0 (rd_at' (K := KT35) rfl rfl hr12 Try.underlying22 info35) ?_
   refine s0 (rd_load_pt_agg' (nn := 4) rfl rfl agg35 (l' := [(Sl Kf r12.1), (Vg r12.2.1), (Vi r12.2.2.1), (Vi r12.2.2.2)]) rfl) ?_
   refine sx_ox' (ox_alloc' info35 rfl rfl rfl rfl (l := [Vn, (Vg 0), (Vi 0), (Vi 0)]) rfl) (wt_none' rfl) fun q4 => ?_
   refine sx_ox' (ox_store' (i := 0) (o := 0) rfl rfl (lv_ag _) ⟨rfl, rfl, rfl, rfl⟩ rfl info35 rfl (H' := [⟨.pointer (some q4), [(Sl Kf r12.1), (Vg r12.2.1), (Vi r12.2.2.1), (Vi r12.2.2.2)], 35, none⟩]) rfl) (wt_none' rfl) fun _ => ?_
   refine nk hK16 ?_
   refine cr fun K17 hK17 => ?_
   refine s0 (rd_load_agg' (i := 0) (o := 0) (nn := 4) rfl ⟨rfl, rfl, rfl, rfl⟩ rfl agg35 (l' := [(Sl Kf r12.1), (Vg r12.2.1), (Vi r12.2.2.1), (Vi r12.2.2.2)]) rfl) ?_
   obtain ⟨r15, hr15, hp⟩ := bind_some hp
   refine sx_ox' (ox_calln' (ent_fn' Try.func32 isn32 rfl rfl) (laws_zzFits11_sim _ _ _ _ hr15 : Sx.Fn Try.prog 32 [(Ag [(Sl Kf r12.1), (Vg r12.2.1), (Vi r12.2.2.1), (Vi r12.2.2.2)])] [] (fun x : Unit => (Vb r15)) (fun x => [])) (Hn := fun x : Unit => [⟨.pointer (some q4), [(Sl Kf r12.1), (Vg r12.2.1), (Vi r12.2.2.1), (Vi r12.2.2.2)], 35, none⟩]) (fun _ => rfl) rfl rfl) (wt_none' rfl) fun ⟨⟩ => ?_
   refine s0 (rd_un' rfl ru_not) ?_
   refine nk hK17 ?_
   refine cx_cond' rfl (fun h6 => ?_) (fun h6 => ?_)
   ·replace hp := (br_t h6).symm.trans hp
    refine cr fun K18 hK18 => ?_
    refine s0 (rd_assign' rfl) ?_
    refine nk hK18 ?_
    refine cx_retc' ?_
    replace hp := Option.some.inj hp
    subst hp
    show TX E (Zg E Exit.ret _ Exit.ret) _
    exact tx_zend' () rfl [] (sub_cons rfl sub_nil) (by decide) pick_nil
   replace hp := (br_f h6).symm.trans hp
   refine cx_skip' ?_
   show TX E K15 _
   refine tx_k' hK15 ?_
   refine cx_region' ?_
   refine s0 (rd_bin' rfl rfl eg_int ru_add) ?_
   refine s0 (rd_move' rfl) ?_
   refine sx_nil' ?_
   show TX E (KY1 _) _
   exact tx_pick' [] (sub_cons rfl (sub_cons rfl (sub_cons rfl sub_nil))) (by decide) pick_nil (ih1 (iadd .i64 x1 1) () _ hp)
  replace hp := (br_f h5).symm.trans hp
  refine cx_exit' ?_
  replace hp := Option.some.inj hp
  subst hp
  show TX E (Zg E (Exit.exit 0) _ (Exit.exit 0)) _
  exact tx_zend' () rfl [] sub_nil (by decide) pick_nil
 rcases y1 with v2 | v3
 ·dsimp only at hp
  refine zg_out fun w2 => ?_
  replace hp := Option.some.inj hp
  subst hp
  refine tx_pick' (L' := [(2, (Vb false))]) (H' := []) [] (sub_cons rfl sub_nil) (by decide) pick_nil ?_
  exact tx_ret1' Try.results8 rfl () (rv_tmp' rfl) (List.Sublist.refl _)
 dsimp only at hp
 refine zg_out fun w3 => ?_
 show TX E K5 _
 refine tx_k' hK5 ?_
 refine cr fun K19 hK19 => ?_
 refine s0 (rd_assign' rfl) ?_
 refine nk hK19 ?_
 refine cx_retc' ?_
 replace hp := Option.some.inj hp
 subst hp
 refine tx_pick' (L' := [(2, (Vb true))]) (H' := []) [] (sub_cons rfl sub_nil) (by decide) pick_nil ?_
 exact tx_ret1' Try.results8 rfl () (rv_tmp' rfl) (List.Sublist.refl _)

def spec_VWalk_1 (k : Nat) (a0 : Int) (a1_0 : List ((List Nat) × Nat × Int × Int)) : Option ((List ((List Nat) × Nat × Int × Int)) × Int × Int) :=
 (idx a1_0 a0) >>= fun r7 =>
 (idx a1_0 a0) >>= fun r12 =>
 some (a1_0, r7.2.2.1, r12.2.2.2)

theorem spec_VWalk_1_sim {k : Nat} {wa1 : Addr} (a0 : Int) (a1_0 : List ((List Nat) × Nat × Int × Int)) {out : (List ((List Nat) × Nat × Int × Int)) × Int × Int} (hp : spec_VWalk_1 k a0 a1_0 = some out) : Sx.Fn Try.prog 42 [(Vi a0), (Vp wa1)] [⟨.pointer (some wa1), [(Sl KT35 a1_0)], 22, none⟩] (fun w : Unit => (Tu [(Vi out.2.1), (Vi out.2.2)])) (fun w => [⟨.pointer (some wa1), [(Sl KT35 out.1)], 22, none⟩]) := by
 unfold spec_VWalk_1 at hp
 refine fn_of Try.func42 rfl Try.ntmps42 rfl fun E hM => ?_
 refine cr fun K1 hK1 => ?_
 refine s0 (rd_assign' rfl) ?_
 refine s0 (rd_assign' rfl) ?_
 refine nk hK1 ?_
 refine cx_seq' fun K2 hK2 => ?_
 refine cx_draw' mixed (by kernel_rfl) ?_
 refine qx_rd' (rd_load' (i := 0) (o := 0) rfl ⟨rfl, rfl, rfl, rfl⟩ rfl flat22) rfl rfl (wt_none' rfl) ?_
 refine qx_rd' (rd_move' rfl) rfl rfl (wt_none' rfl) ?_
 obtain ⟨r7, hr7, hp⟩ := bind_some hp
 refine qx_rd' (rd_at' (K := KT35) rfl rfl hr7 Try.underlying22 info35) rfl rfl (wt_none' rfl) ?_
 refine qx_rd' (rd_field_pt' (off := 2) rfl Try.underlying35 rfl info3 rfl (l' := [(Vi r7.2.2.1), (Vi r7.2.2.2)]) rfl) rfl rfl (wt_none' rfl) ?_
 refine qx_rd' (rd_load_pt' rfl rfl flat3) rfl rfl (wt_none' rfl) ?_
 refine qx_rd' (rd_load' (i := 0) (o := 0) rfl ⟨rfl, rfl, rfl, rfl⟩ rfl flat22) rfl rfl (wt_none' rfl) ?_
 refine qx_rd' (rd_move' rfl) rfl rfl (wt_none' rfl) ?_
 obtain ⟨r12, hr12, hp⟩ := bind_some hp
 refine qx_rd' (rd_at' (K := KT35) rfl rfl hr12 Try.underlying22 info35) rfl rfl (wt_none' rfl) ?_
 refine qx_rd' (rd_field_pt' (off := 3) rfl Try.underlying35 rfl info3 rfl (l' := [(Vi r12.2.2.2)]) rfl) rfl rfl (wt_none' rfl) ?_
 refine qx_rd' (rd_load_pt' rfl rfl flat3) rfl rfl (wt_none' rfl) ?_
 refine qx_rd' (rd_assign' rfl) rfl rfl (wt_none' rfl) ?_
 refine qx_rd' (rd_assign' rfl) rfl rfl (wt_none' rfl) ?_
 refine qx_nil' ?_
 show TX E K2 _
 refine tx_k' hK2 ?_
 refine cx_retc' ?_
 replace hp := Option.some.inj hp
 subst hp
 refine tx_pick' (L' := [(3, (Vi r7.2.2.1)), (4, (Vi r12.2.2.2))]) (H' := [⟨.pointer (some wa1), [(Sl KT35 a1_0)], 22, none⟩]) [0] (sub_cons rfl (sub_cons rfl sub_nil)) (by decide) (pick_cons rfl pick_nil) ?_
 exact tx_ret2' Try.results42 rfl () (rv_tmp' rfl) (rv_tmp' rfl) rfl (List.Sublist.refl _)

def spec_Walk_1_v2_j3 (k : Nat) (a4_0 : Int) (a5_0 : List Bool) (a6_0_0_0 : List ((List Nat) × Nat × Int × Int)) (a7_0_5_0 : List Int) (a7_0_6_0 : List Int) (a0 : Int) (recf : Int → Int → Int → Bool → Int → (List Bool) → (List ((List Nat) × Nat × Int × Int)) → (List Int) → (List Int) → Option (Bool × Int × (List Bool) × (List ((List Nat) × Nat × Int × Int)) × (List Int) × (List Int))) (a2 : Int) (a3_0 : Bool) (x3 : Bool) : Option (Bool × Int × (List Bool) × (List ((List Nat) × Nat × Int × Int)) × (List Int) × (List Int)) :=
 br x3
  (some (false, a4_0, a5_0, a6_0_0_0, a7_0_5_0, a7_0_6_0))
  ((idx a5_0 a0) >>= fun r37 =>
  (spec_VWalk_1 k a0 a6_0_0_0) >>= fun r41 =>
  (recf r41.2.1 a0 (iadd .i64 a2 1) a3_0 a4_0 (a5_0.set a0.toNat true) r41.1 a7_0_5_0 a7_0_6_0) >>= fun r49 =>
  (apd 8 r49.2.2.2.2.1 ([a0])) >>= fun r53 =>
  (apd 8 r49.2.2.2.2.2 ([a2])) >>= fun r57 =>
  (recf r41.2.2 a0 (iadd .i64 a2 1) r49.1 r49.2.1 r49.2.2.1 r49.2.2.2.1 r53 r57) >>= fun r63 =>
  some (r63.1, r63.2.1, r63.2.2.1, r63.2.2.2.1, r63.2.2.2.2.1, r63.2.2.2.2.2))
def spec_Walk_1_v2_j2 (k : Nat) (a4_0 : Int) (a5_0 : List Bool) (a6_0_0_0 : List ((List Nat) × Nat × Int × Int)) (a7_0_5_0 : List Int) (a7_0_6_0 : List Int) (a0 : Int) (recf : Int → Int → Int → Bool → Int → (List Bool) → (List ((List Nat) × Nat × Int × Int)) → (List Int) → (List Int) → Option (Bool × Int × (List Bool) × (List ((List Nat) × Nat × Int × Int)) × (List Int) × (List Int))) (a2 : Int) (a3_0 : Bool) (x2 : Bool) : Option (Bool × Int × (List Bool) × (List ((List Nat) × Nat × Int × Int)) × (List Int) × (List Int)) :=
 br x2
  (spec_Walk_1_v2_j3 k a4_0 a5_0 a6_0_0_0 a7_0_5_0 a7_0_6_0 a0 recf a2 a3_0 true)
  ((idx a5_0 a0) >>= fun r32 =>
  spec_Walk_1_v2_j3 k a4_0 a5_0 a6_0_0_0 a7_0_5_0 a7_0_6_0 a0 recf a2 a3_0 r32)
def spec_Walk_1_v2_j1 (k : Nat) (a3_0 : Bool) (a4_0 : Int) (a5_0 : List Bool) (a6_0_0_0 : List ((List Nat) × Nat × Int × Int)) (a7_0_5_0 : List Int) (a7_0_6_0 : List Int) (a0 : Int) (a1 : Int) (recf : Int → Int → Int → Bool → Int → (List Bool) → (List ((List Nat) × Nat × Int × Int)) → (List Int) → (List Int) → Option (Bool × Int × (List Bool) × (List ((List Nat) × Nat × Int × Int)) × (List Int) × (List Int))) (a2 : Int) (x1 : Bool) : Option (Bool × Int × (List Bool) × (List ((List Nat) × Nat × Int × Int)) × (List Int) × (List Int)) :=
 br x1
  (some (a3_0, a4_0, a5_0, a6_0_0_0, a7_0_5_0, a7_0_6_0))
  (br (decide (a0 ≤ a1))
   (spec_Walk_1_v2_j2 k a4_0 a5_0 a6_0_0_0 a7_0_5_0 a7_0_6_0 a0 recf a2 a3_0 true)
   (spec_Walk_1_v2_j2 k a4_0 a5_0 a6_0_0_0 a7_0_5_0 a7_0_6_0 a0 recf a2 a3_0 (decide (a4_0 ≤ a0))))
def spec_Walk_1_v2_b (recf : Int → Int → Int → Bool → Int → (List Bool) → (List ((List Nat) × Nat × Int × Int)) → (List Int) → (List Int) → Option (Bool × Int × (List Bool) × (List ((List Nat) × Nat × Int × Int)) × (List Int) × (List Int))) (k : Nat) (a0 : Int) (a1 : Int) (a2 : Int) (a3_0 : Bool) (a4_0 : Int) (a5_0 : List Bool) (a6_0_0_0 : List ((List Nat) × Nat × Int × Int)) (a7_0_5_0 : List Int) (a7_0_6_0 : List Int) : Option (Bool × Int × (List Bool) × (List ((List Nat) × Nat × Int × Int)) × (List Int) × (List Int)) :=
 br (decide (a0 = (-1)))
  (spec_Walk_1_v2_j1 k a3_0 a4_0 a5_0 a6_0_0_0 a7_0_5_0 a7_0_6_0 a0 a1 recf a2 true)
  (spec_Walk_1_v2_j1 k a3_0 a4_0 a5_0 a6_0_0_0 a7_0_5_0 a7_0_6_0 a0 a1 recf a2 (!a3_0))
def spec_Walk_1_v2 : Nat → Int → Int → Int → Bool → Int → (List Bool) → (List ((List Nat) × Nat × Int × Int)) → (List Int) → (List Int) → Option (Bool × Int × (List Bool) × (List ((List Nat) × Nat × Int × Int)) × (List Int) × (List Int))
 | 0 => fun _ _ _ _ _ _ _ _ _ => none
 | k + 1 => fun a0 a1 a2 a3_0 a4_0 a5_0 a6_0_0_0 a7_0_5_0 a7_0_6_0 => spec_Walk_1_v2_b (spec_Walk_1_v2 k) k a0 a1 a2 a3_0 a4_0 a5_0 a6_0_0_0 a7_0_5_0 a7_0_6_0

theorem spec_Walk_1_v2_b_sim {recf : Int → Int → Int → Bool → Int → (List Bool) → (List ((List Nat) × Nat × Int × Int)) → (List Int) → (List Int) → Option (Bool × Int × (List Bool) × (List ((List Nat) × Nat × Int × Int)) × (List Int) × (List Int))} (hrec : ∀ (wa3 : Addr) (wa4 : Addr) (wa5 : Addr) (wa5_0 : Gs) (wa6 : Addr) (wa6_0_0 : Addr) (wa7 : Addr) (wa7_0_5 : Addr) (wa7_0_5_0 : Gs) (wa7_0_6 : Addr) (wa7_0_6_0 : Gs) (a0 : Int) (a1 : Int) (a2 : Int) (a3_0 : Bool) (a4_0 : Int) (a5_0 : List Bool) (a6_0_0_0 : List ((List Nat) × Nat × Int × Int)) (a7_0_5_0 : List Int) (a7_0_6_0 : List Int) (out : Bool × Int × (List Bool) × (List ((List Nat) × Nat × Int × Int)) × (List Int) × (List Int)), recf a0 a1 a2 a3_0 a4_0 a5_0 a6_0_0_0 a7_0_5_0 a7_0_6_0 = some out → Sx.Fn Try.prog 81 [(Vi a0), (Vi a1), (Vi a2), (Vp wa3), (Vp wa4), (Vp wa5), (Vp wa6), (Vp wa7), (Vp wa7_0_5), (Vp wa7_0_6)] [⟨.pointer (some wa3), [(Vb a3_0)], 4, none⟩, ⟨.pointer (some wa4), [(Vi a4_0)], 3, none⟩, ⟨.pointer (some wa5), [(Vl (Vs wa5_0))], 63, none⟩, (Rw Kb 4 (Vs wa5_0) a5_0), ⟨.pointer (some wa6), [(Vl (.func (.func 42) #[] ⟨[.pointer (some wa6_0_0)]⟩))], 78, none⟩, ⟨.pointer (some wa6_0_0), [(Sl KT35 a6_0_0_0)], 22, none⟩, ⟨.pointer (some wa7), [(Vl (.func (.func 81) #[] ⟨[.pointer (some wa3), .pointer (some wa4), .pointer (some wa5), .pointer (some wa6), .pointer (some wa7), .pointer (some wa7_0_5), .pointer (some wa7_0_6)]⟩))], 145, none⟩, ⟨.pointer (some wa7_0_5), [(Vl (Vs wa7_0_5_0))], 27, none⟩, (Rw (Ki .i64) 3 (Vs wa7_0_5_0) a7_0_5_0), ⟨.pointer (some wa7_0_6), [(Vl (Vs wa7_0_6_0))], 27, none⟩, (Rw (Ki .i64) 3 (Vs wa7_0_6_0) a7_0_6_0)] (fun w : Gs × Gs => (Vl (.tuple #[]))) (fun w => [⟨.pointer (some wa3), [(Vb out.1)], 4, none⟩, ⟨.pointer (some wa4), [(Vi out.2.1)], 3, none⟩, ⟨.pointer (some wa5), [(Vl (Vs wa5_0))], 63, none⟩, (Rw Kb 4 (Vs wa5_0) out.2.2.1), ⟨.pointer (some wa6), [(Vl (.func (.func 42) #[] ⟨[.pointer (some wa6_0_0)]⟩))], 78, none⟩, ⟨.pointer (some wa6_0_0), [(Sl KT35 out.2.2.2.1)], 22, none⟩, ⟨.pointer (some wa7), [(Vl (.func (.func 81) #[] ⟨[.pointer (some wa3), .pointer (some wa4), .pointer (some wa5), .pointer (some wa6), .pointer (some wa7), .pointer (some wa7_0_5), .pointer (some wa7_0_6)]⟩))], 145, none⟩, ⟨.pointer (some wa7_0_5), [(Vl (Vs w.1))], 27, none⟩, (Rw (Ki .i64) 3 (Vs w.1) out.2.2.2.2.1), ⟨.pointer (some wa7_0_6), [(Vl (Vs w.2))], 27, none⟩, (Rw (Ki .i64) 3 (Vs w.2) out.2.2.2.2.2)])) {k : Nat} {wa3 : Addr} {wa4 : Addr} {wa5 : Addr} {wa5_0 : Gs} {wa6 : Addr} {wa6_0_0 : Addr} {wa7 : Addr} {wa7_0_5 : Addr} {wa7_0_5_0 : Gs} {wa7_0_6 : Addr} {wa7_0_6_0 : Gs} (a0 : Int) (a1 : Int) (a2 : Int) (a3_0 : Bool) (a4_0 : Int) (a5_0 : List Bool) (a6_0_0_0 : List ((List Nat) × Nat × Int × Int)) (a7_0_5_0 : List Int) (a7_0_6_0 : List Int) {out : Bool × Int × (List Bool) × (List ((List Nat) × Nat × Int × Int)) × (List Int) × (List Int)} (hp : spec_Walk_1_v2_b recf k a0 a1 a2 a3_0 a4_0 a5_0 a6_0_0_0 a7_0_5_0 a7_0_6_0 = some out) : Sx.Fn Try.prog 81 [(Vi a0), (Vi a1), (Vi a2), (Vp wa3), (Vp wa4), (Vp wa5), (Vp wa6), (Vp wa7), (Vp wa7_0_5), (Vp wa7_0_6)] [⟨.pointer (some wa3), [(Vb a3_0)], 4, none⟩, ⟨.pointer (some wa4), [(Vi a4_0)], 3, none⟩, ⟨.pointer (some wa5), [(Vl (Vs wa5_0))], 63, none⟩, (Rw Kb 4 (Vs wa5_0) a5_0), ⟨.pointer (some wa6), [(Vl (.func (.func 42) #[] ⟨[.pointer (some wa6_0_0)]⟩))], 78, none⟩, ⟨.pointer (some wa6_0_0), [(Sl KT35 a6_0_0_0)], 22, none⟩, ⟨.pointer (some wa7), [(Vl (.func (.func 81) #[] ⟨[.pointer (some wa3), .pointer (some wa4), .pointer (some wa5), .pointer (some wa6), .pointer (some wa7), .pointer (some wa7_0_5), .pointer (some wa7_0_6)]⟩))], 145, none⟩, ⟨.pointer (some wa7_0_5), [(Vl (Vs wa7_0_5_0))], 27, none⟩, (Rw (Ki .i64) 3 (Vs wa7_0_5_0) a7_0_5_0), ⟨.pointer (some wa7_0_6), [(Vl (Vs wa7_0_6_0))], 27, none⟩, (Rw (Ki .i64) 3 (Vs wa7_0_6_0) a7_0_6_0)] (fun w : Gs × Gs => (Vl (.tuple #[]))) (fun w => [⟨.pointer (some wa3), [(Vb out.1)], 4, none⟩, ⟨.pointer (some wa4), [(Vi out.2.1)], 3, none⟩, ⟨.pointer (some wa5), [(Vl (Vs wa5_0))], 63, none⟩, (Rw Kb 4 (Vs wa5_0) out.2.2.1), ⟨.pointer (some wa6), [(Vl (.func (.func 42) #[] ⟨[.pointer (some wa6_0_0)]⟩))], 78, none⟩, ⟨.pointer (some wa6_0_0), [(Sl KT35 out.2.2.2.1)], 22, none⟩, ⟨.pointer (some wa7), [(Vl (.func (.func 81) #[] ⟨[.pointer (some wa3), .pointer (some wa4), .pointer (some wa5), .pointer (some wa6), .pointer (some wa7), .pointer (some wa7_0_5), .pointer (some wa7_0_6)]⟩))], 145, none⟩, ⟨.pointer (some wa7_0_5), [(Vl (Vs w.1))], 27, none⟩, (Rw (Ki .i64) 3 (Vs w.1) out.2.2.2.2.1), ⟨.pointer (some wa7_0_6), [(Vl (Vs w.2))], 27, none⟩, (Rw (Ki .i64) 3 (Vs w.2) out.2.2.2.2.2)]) := by
 unfold spec_Walk_1_v2_b at hp
 refine fn_of Try.func81 rfl Try.ntmps81 rfl fun E hM => ?_
 refine cx_seq' fun K1 hK1 => ?_
 refine cr fun K2 hK2 => ?_
 refine s0 (rd_move' rfl) ?_
 refine s0 (rd_bin' rfl rfl eg_int ru_eql) ?_
 refine s0 (rd_move' rfl) ?_
 refine sx_cutn' 3 (fun (v1 : Bool) => (⟨64, [], [(0, (Vi a0)), (1, (Vi a1)), (2, (Vi a2)), (3, (Vp wa3)), (4, (Vp wa4)), (5, (Vp wa5)), (6, (Vp wa6)), (7, (Vp wa7)), (8, (Vp wa7_0_5)), (9, (Vp wa7_0_6)), (20, (Vb v1))], [⟨.pointer (some wa3), [(Vb a3_0)], 4, none⟩, ⟨.pointer (some wa4), [(Vi a4_0)], 3, none⟩, ⟨.pointer (some wa5), [(Vl (Vs wa5_0))], 63, none⟩, (Rw Kb 4 (Vs wa5_0) a5_0), ⟨.pointer (some wa6), [(Vl (.func (.func 42) #[] ⟨[.pointer (some wa6_0_0)]⟩))], 78, none⟩, ⟨.pointer (some wa6_0_0), [(Sl KT35 a6_0_0_0)], 22, none⟩, ⟨.pointer (some wa7), [(Vl (.func (.func 81) #[] ⟨[.pointer (some wa3), .pointer (some wa4), .pointer (some wa5), .pointer (some wa6), .pointer (some wa7), .pointer (some wa7_0_5), .pointer (some wa7_0_6)]⟩))], 145, none⟩, ⟨.pointer (some wa7_0_5), [(Vl (Vs wa7_0_5_0))], 27, none⟩, (Rw (Ki .i64) 3 (Vs wa7_0_5_0) a7_0_5_0), ⟨.pointer (some wa7_0_6), [(Vl (Vs wa7_0_6_0))], 27, none⟩, (Rw (Ki .i64) 3 (Vs wa7_0_6_0) a7_0_6_0)]⟩ : St)) (fun (v1 : Bool) => spec_Walk_1_v2_j1 k a3_0 a4_0 a5_0 a6_0_0_0 a7_0_5_0 a7_0_6_0 a0 a1 recf a2 v1 = some out) ?_ ?_
 ·rintro x1 hp
  replace hp : spec_Walk_1_v2_j1 k a3_0 a4_0 a5_0 a6_0_0_0 a7_0_5_0 a7_0_6_0 a0 a1 recf a2 x1 = some out := hp
  unfold spec_Walk_1_v2_j1 at hp
  refine nk hK2 ?_
  refine cx_cond' rfl (fun h2 => ?_) (fun h2 => ?_)
  ·replace hp := (br_t h2).symm.trans hp
   refine cx_retc' ?_
   replace hp := Option.some.inj hp
   subst hp
   refine tx_pick' (L' := []) (H' := [⟨.pointer (some wa3), [(Vb a3_0)], 4, none⟩, ⟨.pointer (some wa4), [(Vi a4_0)], 3, none⟩, ⟨.pointer (some wa5), [(Vl (Vs wa5_0))], 63, none⟩, (Rw Kb 4 (Vs wa5_0) a5_0), ⟨.pointer (some wa6), [(Vl (.func (.func 42) #[] ⟨[.pointer (some wa6_0_0)]⟩))], 78, none⟩, ⟨.pointer (some wa6_0_0), [(Sl KT35 a6_0_0_0)], 22, none⟩, ⟨.pointer (some wa7), [(Vl (.func (.func 81) #[] ⟨[.pointer (some wa3), .pointer (some wa4), .pointer (some wa5), .pointer (some wa6), .pointer (some wa7), .pointer (some wa7_0_5), .pointer (some wa7_0_6)]⟩))], 145, none⟩, ⟨.pointer (some wa7_0_5), [(Vl (Vs wa7_0_5_0))], 27, none⟩, (Rw (Ki .i64) 3 (Vs wa7_0_5_0) a7_0_5_0), ⟨.pointer (some wa7_0_6), [(Vl (Vs wa7_0_6_0))], 27, none⟩, (Rw (Ki .i64) 3 (Vs wa7_0_6_0) a7_0_6_0)]) [0, 1, 2, 3, 4, 5, 6, 7, 8, 9, 10] sub_nil (by decide) (pick_cons rfl (pick_cons rfl (pick_cons rfl (pick_cons rfl (pick_cons rfl (pick_cons rfl (pick_cons rfl (pick_cons rfl (pick_cons rfl (pick_cons rfl (pick_cons rfl pick_nil))))))))))) ?_
   exact tx_ret0' Try.results81 rfl (wa7_0_5_0, wa7_0_6_0) rfl (List.Sublist.refl _)
  replace hp := (br_f h2).symm.trans hp
  refine cx_skip' ?_
  show TX E K1 _
  refine tx_k' hK1 ?_
  refine cx_seq' fun K4 hK4 => ?_
  refine cr fun K5 hK5 => ?_
  refine s0 (rd_move' rfl) ?_
  refine s0 (rd_move' rfl) ?_
  refine s0 (rd_bin' rfl rfl eg_int ru_leq) ?_
  refine s0 (rd_move' rfl) ?_
  refine sx_cutn' 4 (fun (v2 : Bool) => (⟨64, [], [(0, (Vi a0)), (2, (Vi a2)), (3, (Vp wa3)), (5, (Vp wa5)), (6, (Vp wa6)), (7, (Vp wa7)), (8, (Vp wa7_0_5)), (9, (Vp wa7_0_6)), (28, (Vb v2))], [⟨.pointer (some wa3), [(Vb a3_0)], 4, none⟩, ⟨.pointer (some wa5), [(Vl (Vs wa5_0))], 63, none⟩, (Rw Kb 4 (Vs wa5_0) a5_0), ⟨.pointer (some wa6), [(Vl (.func (.func 42) #[] ⟨[.pointer (some wa6_0_0)]⟩))], 78, none⟩, ⟨.pointer (some wa6_0_0), [(Sl KT35 a6_0_0_0)], 22, none⟩, ⟨.pointer (some wa7), [(Vl (.func (.func 81) #[] ⟨[.pointer (some wa3), .pointer (some wa4), .pointer (some wa5), .pointer (some wa6), .pointer (some wa7), .pointer (some wa7_0_5), .pointer (some wa7_0_6)]⟩))], 145, none⟩, ⟨.pointer (some wa4), [(Vi a4_0)], 3, none⟩, ⟨.pointer (some wa7_0_5), [(Vl (Vs wa7_0_5_0))], 27, none⟩, (Rw (Ki .i64) 3 (Vs wa7_0_5_0) a7_0_5_0), ⟨.pointer (some wa7_0_6), [(Vl (Vs wa7_0_6_0))], 27, none⟩, (Rw (Ki .i64) 3 (Vs wa7_0_6_0) a7_0_6_0)]⟩ : St)) (fun (v2 : Bool) => spec_Walk_1_v2_j2 k a4_0 a5_0 a6_0_0_0 a7_0_5_0 a7_0_6_0 a0 recf a2 a3_0 v2 = some out) ?_ ?_
  ·rintro x2 hp
   replace hp : spec_Walk_1_v2_j2 k a4_0 a5_0 a6_0_0_0 a7_0_5_0 a7_0_6_0 a0 recf a2 a3_0 x2 = some out := hp
   unfold spec_Walk_1_v2_j2 at hp
   refine s0 (rd_move' rfl) ?_
   refine sx_cutn' 5 (fun (v3 : Bool) => (⟨64, [], [(0, (Vi a0)), (2, (Vi a2)), (3, (Vp wa3)), (5, (Vp wa5)), (6, (Vp wa6)), (7, (Vp wa7)), (8, (Vp wa7_0_5)), (9, (Vp wa7_0_6)), (34, (Vb v3))], [⟨.pointer (some wa3), [(Vb a3_0)], 4, none⟩, ⟨.pointer (some wa5), [(Vl (Vs wa5_0))], 63, none⟩, (Rw Kb 4 (Vs wa5_0) a5_0), ⟨.pointer (some wa6), [(Vl (.func (.func 42) #[] ⟨[.pointer (some wa6_0_0)]⟩))], 78, none⟩, ⟨.pointer (some wa6_0_0), [(Sl KT35 a6_0_0_0)], 22, none⟩, ⟨.pointer (some wa7), [(Vl (.func (.func 81) #[] ⟨[.pointer (some wa3), .pointer (some wa4), .pointer (some wa5), .pointer (some wa6), .pointer (some wa7), .pointer (some wa7_0_5), .pointer (some wa7_0_6)]⟩))], 145, none⟩, ⟨.pointer (some wa4), [(Vi a4_0)], 3, none⟩, ⟨.pointer (some wa7_0_5), [(Vl (Vs wa7_0_5_0))], 27, none⟩, (Rw (Ki .i64) 3 (Vs wa7_0_5_0) a7_0_5_0), ⟨.pointer (some wa7_0_6), [(Vl (Vs wa7_0_6_0))], 27, none⟩, (Rw (Ki .i64) 3 (Vs wa7_0_6_0) a7_0_6_0)]⟩ : St)) (fun (v3 : Bool) => spec_Walk_1_v2_j3 k a4_0 a5_0 a6_0_0_0 a7_0_5_0 a7_0_6_0 a0 recf a2 a3_0 v3 = some out) ?_ ?_
   ·rintro x3 hp
    replace hp : spec_Walk_1_v2_j3 k a4_0 a5_0 a6_0_0_0 a7_0_5_0 a7_0_6_0 a0 recf a2 a3_0 x3 = some out := hp
    unfold spec_Walk_1_v2_j3 at hp
    refine nk hK5 ?_
    refine cx_cond' rfl (fun h5 => ?_) (fun h5 => ?_)
    ·replace hp := (br_t h5).symm.trans hp
     refine cr fun K8 hK8 => ?_
     refine sx_ox' (ox_store' (i := 0) (o := 0) rfl rfl (lv_vl rfl rfl) ⟨rfl, rfl, rfl, rfl⟩ rfl info4 rfl (H' := [⟨.pointer (some wa3), [(Vb false)], 4, none⟩, ⟨.pointer (some wa5), [(Vl (Vs wa5_0))], 63, none⟩, (Rw Kb 4 (Vs wa5_0) a5_0), ⟨.pointer (some wa6), [(Vl (.func (.func 42) #[] ⟨[.pointer (some wa6_0_0)]⟩))], 78, none⟩, ⟨.pointer (some wa6_0_0), [(Sl KT35 a6_0_0_0)], 22, none⟩, ⟨.pointer (some wa7), [(Vl (.func (.func 81) #[] ⟨[.pointer (some wa3), .pointer (some wa4), .pointer (some wa5), .pointer (some wa6), .pointer (some wa7), .pointer (some wa7_0_5), .pointer (some wa7_0_6)]⟩))], 145, none⟩, ⟨.pointer (some wa4), [(Vi a4_0)], 3, none⟩, ⟨.pointer (some wa7_0_5), [(Vl (Vs wa7_0_5_0))], 27, none⟩, (Rw (Ki .i64) 3 (Vs wa7_0_5_0) a7_0_5_0), ⟨.pointer (some wa7_0_6), [(Vl (Vs wa7_0_6_0))], 27, none⟩, (Rw (Ki .i64) 3 (Vs wa7_0_6_0) a7_0_6_0)]) rfl) (wt_none' rfl) fun _ => ?_
     refine nk hK8 ?_
     refine cx_retc' ?_
     replace hp := Option.some.inj hp
     subst hp
     refine tx_pick' (L' := []) (H' := [⟨.pointer (some wa3), [(Vb false)], 4, none⟩, ⟨.pointer (some wa4), [(Vi a4_0)], 3, none⟩, ⟨.pointer (some wa5), [(Vl (Vs wa5_0))], 63, none⟩, (Rw Kb 4 (Vs wa5_0) a5_0), ⟨.pointer (some wa6), [(Vl (.func (.func 42) #[] ⟨[.pointer (some wa6_0_0)]⟩))], 78, none⟩, ⟨.pointer (some wa6_0_0), [(Sl KT35 a6_0_0_0)], 22, none⟩, ⟨.pointer (some wa7), [(Vl (.func (.func 81) #[] ⟨[.pointer (some wa3), .pointer (some wa4), .pointer (some wa5), .pointer (some wa6), .pointer (some wa7), .pointer (some wa7_0_5), .pointer (some wa7_0_6)]⟩))], 145, none⟩, ⟨.pointer (some wa7_0_5), [(Vl (Vs wa7_0_5_0))], 27, none⟩, (Rw (Ki .i64) 3 (Vs wa7_0_5_0) a7_0_5_0), ⟨.pointer (some wa7_0_6), [(Vl (Vs wa7_0_6_0))], 27, none⟩, (Rw (Ki .i64) 3 (Vs wa7_0_6_0) a7_0_6_0)]) [0, 6, 1, 2, 3, 4, 5, 7, 8, 9, 10] sub_nil (by decide) (pick_cons rfl (pick_cons rfl (pick_cons rfl (pick_cons rfl (pick_cons rfl (pick_cons rfl (pick_cons rfl (pick_cons rfl (pick_cons rfl (pick_cons rfl (pick_cons rfl pick_nil))))))))))) ?_
     exact tx_ret0' Try.results81 rfl (wa7_0_5_0, wa7_0_6_0) rfl (List.Sublist.refl _)
    replace hp := (br_f h5).symm.trans hp
    refine cx_skip' ?_
    show TX E K4 _
    refine tx_k' hK4 ?_
    refine cr fun K9 hK9 => ?_
    refine s0 (rd_load' (i := 1) (o := 0) rfl ⟨rfl, rfl, rfl, rfl⟩ rfl flat63) ?_
    refine s0 (rd_move' rfl) ?_
    obtain ⟨r37, hr37, hp⟩ := bind_some hp
    refine s0 (rd_atr' (m := 2) rfl rfl rfl rfl hr37 Try.underlying63 info4) ?_
    refine sx_ox' (ox_storer' (m := 2) (i := a0) (j := 0) (x' := true) rfl rfl (lv_vl rfl rfl) rfl rfl hr37 rfl rfl rfl info4 rfl (H' := [⟨.pointer (some wa3), [(Vb a3_0)], 4, none⟩, ⟨.pointer (some wa5), [(Vl (Vs wa5_0))], 63, none⟩, (Rw Kb 4 (Vs wa5_0) (a5_0.set a0.toNat true)), ⟨.pointer (some wa6), [(Vl (.func (.func 42) #[] ⟨[.pointer (some wa6_0_0)]⟩))], 78, none⟩, ⟨.pointer (some wa6_0_0), [(Sl KT35 a6_0_0_0)], 22, none⟩, ⟨.pointer (some wa7), [(Vl (.func (.func 81) #[] ⟨[.pointer (some wa3), .pointer (some wa4), .pointer (some wa5), .pointer (some wa6), .pointer (some wa7), .pointer (some wa7_0_5), .pointer (some wa7_0_6)]⟩))], 145, none⟩, ⟨.pointer (some wa4), [(Vi a4_0)], 3, none⟩, ⟨.pointer (some wa7_0_5), [(Vl (Vs wa7_0_5_0))], 27, none⟩, (Rw (Ki .i64) 3 (Vs wa7_0_5_0) a7_0_5_0), ⟨.pointer (some wa7_0_6), [(Vl (Vs wa7_0_6_0))], 27, none⟩, (Rw (Ki .i64) 3 (Vs wa7_0_6_0) a7_0_6_0)]) rfl) (wt_none' rfl) fun _ => ?_
    refine nk hK9 ?_
    refine cr fun K10 hK10 => ?_
    refine s0 (rd_load' (i := 3) (o := 0) rfl ⟨rfl, rfl, rfl, rfl⟩ rfl flat78) ?_
    refine s0 (rd_move' rfl) ?_
    obtain ⟨r41, hr41, hp⟩ := bind_some hp
    refine sx_ox' (ox_callg' (ent_clo' (us := [.pointer (some wa6_0_0)]) rfl Try.func42 isn42 rfl rfl) (spec_VWalk_1_sim _ _ hr41 : Sx.Fn Try.prog 42 [(Vi a0), (Vp wa6_0_0)] [⟨.pointer (some wa6_0_0), [(Sl KT35 a6_0_0_0)], 22, none⟩] (fun x : Unit => (Tu [(Vi r41.2.1), (Vi r41.2.2)])) (fun x => [⟨.pointer (some wa6_0_0), [(Sl KT35 r41.1)], 22, none⟩])) [4] [0, 1, 2, 3, 5, 6, 7, 8, 9, 10] (by decide) (pick_cons rfl pick_nil) (pick_cons rfl (pick_cons rfl (pick_cons rfl (pick_cons rfl (pick_cons rfl (pick_cons rfl (pick_cons rfl (pick_cons rfl (pick_cons rfl (pick_cons rfl pick_nil)))))))))) (Hn := fun x : Unit => [⟨.pointer (some wa6_0_0), [(Sl KT35 r41.1)], 22, none⟩, ⟨.pointer (some wa3), [(Vb a3_0)], 4, none⟩, ⟨.pointer (some wa5), [(Vl (Vs wa5_0))], 63, none⟩, (Rw Kb 4 (Vs wa5_0) (a5_0.set a0.toNat true)), ⟨.pointer (some wa6), [(Vl (.func (.func 42) #[] ⟨[.pointer (some wa6_0_0)]⟩))], 78, none⟩, ⟨.pointer (some wa7), [(Vl (.func (.func 81) #[] ⟨[.pointer (some wa3), .pointer (some wa4), .pointer (some wa5), .pointer (some wa6), .pointer (some wa7), .pointer (some wa7_0_5), .pointer (some wa7_0_6)]⟩))], 145, none⟩, ⟨.pointer (some wa4), [(Vi a4_0)], 3, none⟩, ⟨.pointer (some wa7_0_5), [(Vl (Vs wa7_0_5_0))], 27, none⟩, (Rw (Ki .i64) 3 (Vs wa7_0_5_0) a7_0_5_0), ⟨.pointer (some wa7_0_6), [(Vl (Vs wa7_0_6_0))], 27, none⟩, (Rw (Ki .i64) 3 (Vs wa7_0_6_0) a7_0_6_0)]) (fun _ => rfl) rfl rfl) (wt_none' rfl) fun ⟨⟩ => ?_
    refine s0 (rd_move' rfl) ?_
    refine s0 (rd_extract' rfl rfl) ?_
    refine s0 (rd_extract' rfl rfl) ?_
    refine s0 (rd_assign' rfl) ?_
    refine s0 (rd_assign' rfl) ?_
    refine nk hK10 ?_
    refine cr fun K11 hK11 => ?_
    refine s0 (rd_load' (i := 5) (o := 0) rfl ⟨rfl, rfl, rfl, rfl⟩ rfl flat145) ?_
    refine s0 (rd_move' rfl) ?_
    refine s0 (rd_move' rfl) ?_
    refine s0 (rd_move' rfl) ?_
    refine s0 (rd_bin' rfl rfl eg_int ru_add) ?_
    obtain ⟨r49, hr49, hp⟩ := bind_some hp
    refine sx_ox' (ox_callg' (ent_clo' (us := [.pointer (some wa3), .pointer (some wa4), .pointer (some wa5), .pointer (some wa6), .pointer (some wa7), .pointer (some wa7_0_5), .pointer (some wa7_0_6)]) rfl Try.func81 isn81 rfl rfl) (hrec _ _ _ _ _ _ _ _ _ _ _ _ _ _ _ _ _ _ _ _ _ hr49 : Sx.Fn Try.prog 81 [(Vi r41.2.1), (Vi a0), (Vi (iadd .i64 a2 1)), (Vp wa3), (Vp wa4), (Vp wa5), (Vp wa6), (Vp wa7), (Vp wa7_0_5), (Vp wa7_0_6)] [⟨.pointer (some wa3), [(Vb a3_0)], 4, none⟩, ⟨.pointer (some wa4), [(Vi a4_0)], 3, none⟩, ⟨.pointer (some wa5), [(Vl (Vs wa5_0))], 63, none⟩, (Rw Kb 4 (Vs wa5_0) (a5_0.set a0.toNat true)), ⟨.pointer (some wa6), [(Vl (.func (.func 42) #[] ⟨[.pointer (some wa6_0_0)]⟩))], 78, none⟩, ⟨.pointer (some wa6_0_0), [(Sl KT35 r41.1)], 22, none⟩, ⟨.pointer (some wa7), [(Vl (.func (.func 81) #[] ⟨[.pointer (some wa3), .pointer (some wa4), .pointer (some wa5), .pointer (some wa6), .pointer (some wa7), .pointer (some wa7_0_5), .pointer (some wa7_0_6)]⟩))], 145, none⟩, ⟨.pointer (some wa7_0_5), [(Vl (Vs wa7_0_5_0))], 27, none⟩, (Rw (Ki .i64) 3 (Vs wa7_0_5_0) a7_0_5_0), ⟨.pointer (some wa7_0_6), [(Vl (Vs wa7_0_6_0))], 27, none⟩, (Rw (Ki .i64) 3 (Vs wa7_0_6_0) a7_0_6_0)] (fun x : Gs × Gs => (Vl (.tuple #[]))) (fun x => [⟨.pointer (some wa3), [(Vb r49.1)], 4, none⟩, ⟨.pointer (some wa4), [(Vi r49.2.1)], 3, none⟩, ⟨.pointer (some wa5), [(Vl (Vs wa5_0))], 63, none⟩, (Rw Kb 4 (Vs wa5_0) r49.2.2.1), ⟨.pointer (some wa6), [(Vl (.func (.func 42) #[] ⟨[.pointer (some wa6_0_0)]⟩))], 78, none⟩, ⟨.pointer (some wa6_0_0), [(Sl KT35 r49.2.2.2.1)], 22, none⟩, ⟨.pointer (some wa7), [(Vl (.func (.func 81) #[] ⟨[.pointer (some wa3), .pointer (some wa4), .pointer (some wa5), .pointer (some wa6), .pointer (some wa7), .pointer (some wa7_0_5), .pointer (some wa7_0_6)]⟩))], 145, none⟩, ⟨.pointer (some wa7_0_5), [(Vl (Vs x.1))], 27, none⟩, (Rw (Ki .i64) 3 (Vs x.1) r49.2.2.2.2.1), ⟨.pointer (some wa7_0_6), [(Vl (Vs x.2))], 27, none⟩, (Rw (Ki .i64) 3 (Vs x.2) r49.2.2.2.2.2)])) [1, 6, 2, 3, 4, 0, 5, 7, 8, 9, 10] [] (by decide) (pick_cons rfl (pick_cons rfl (pick_cons rfl (pick_cons rfl (pick_cons rfl (pick_cons rfl (pick_cons rfl (pick_cons rfl (pick_cons rfl (pick_cons rfl (pick_cons rfl pick_nil))))))))))) pick_nil (Hn := fun x : Gs × Gs => [⟨.pointer (some wa3), [(Vb r49.1)], 4, none⟩, ⟨.pointer (some wa4), [(Vi r49.2.1)], 3, none⟩, ⟨.pointer (some wa5), [(Vl (Vs wa5_0))], 63, none⟩, (Rw Kb 4 (Vs wa5_0) r49.2.2.1), ⟨.pointer (some wa6), [(Vl (.func (.func 42) #[] ⟨[.pointer (some wa6_0_0)]⟩))], 78, none⟩, ⟨.pointer (some wa6_0_0), [(Sl KT35 r49.2.2.2.1)], 22, none⟩, ⟨.pointer (some wa7), [(Vl (.func (.func 81) #[] ⟨[.pointer (some wa3), .pointer (some wa4), .pointer (some wa5), .pointer (some wa6), .pointer (some wa7), .pointer (some wa7_0_5), .pointer (some wa7_0_6)]⟩))], 145, none⟩, ⟨.pointer (some wa7_0_5), [(Vl (Vs x.1))], 27, none⟩, (Rw (Ki .i64) 3 (Vs x.1) r49.2.2.2.2.1), ⟨.pointer (some wa7_0_6), [(Vl (Vs x.2))], 27, none⟩, (Rw (Ki .i64) 3 (Vs x.2) r49.2.2.2.2.2)]) (fun _ => rfl) rfl rfl) (wt_none' rfl) fun ⟨g49, gz1⟩ => ?_
    refine nk hK11 ?_
    refine cx_seq' fun K12 hK12 => ?_
    refine cx_plana' [wa7_0_6.block] [(3, 1), (7, 1), (8, 1), (9, 2)] [(0, 1), (1, 1), (4, 2), (5, 2)] 6 #[true, true, false, false, true, true, false, false, false, false] mixed (by kernel_rfl) ?_
    refine px_rd' rfl (rd_load' (i := 7) (o := 0) rfl ⟨rfl, rfl, rfl, rfl⟩ rfl flat27) rfl rfl (wt_none' rfl) ?_
    refine px_rd' rfl (rd_move' rfl) rfl rfl (wt_none' rfl) ?_
    refine px_rb' rfl (rb_load' (i := 9) (o := 0) rfl ⟨rfl, rfl, rfl, rfl⟩ rfl flat27 (by simp)) rfl rfl (wt_none' rfl) ?_
    refine px_rb' rfl (rb_move' rfl) rfl rfl (wt_none' rfl) ?_
    refine px_nil' ?_
    show AX E _ _ _ _ _ _ _ _
    obtain ⟨r53, hr53, hp⟩ := bind_some hp
    obtain ⟨r57, hr57, hp⟩ := bind_some hp
    refine ax_node (f' := 0) #[true, true, true, true, true, true, true, true, true, true] (fun (v12 : Gs × Gs) => (⟨64, [], [(0, (Vi a0)), (2, (Vi a2)), (7, (Vp wa7)), (9, (Vp wa7_0_6)), (14, (Vi r41.2.2))], [⟨.pointer (some wa7), [(Vl (.func (.func 81) #[] ⟨[.pointer (some wa3), .pointer (some wa4), .pointer (some wa5), .pointer (some wa6), .pointer (some wa7), .pointer (some wa7_0_5), .pointer (some wa7_0_6)]⟩))], 145, none⟩, ⟨.pointer (some wa3), [(Vb r49.1)], 4, none⟩, ⟨.pointer (some wa4), [(Vi r49.2.1)], 3, none⟩, ⟨.pointer (some wa5), [(Vl (Vs wa5_0))], 63, none⟩, (Rw Kb 4 (Vs wa5_0) r49.2.2.1), ⟨.pointer (some wa6), [(Vl (.func (.func 42) #[] ⟨[.pointer (some wa6_0_0)]⟩))], 78, none⟩, ⟨.pointer (some wa6_0_0), [(Sl KT35 r49.2.2.2.1)], 22, none⟩, ⟨.pointer (some wa7_0_5), [(Vl (Vs v12.1))], 27, none⟩, (Rw (Ki .i64) 3 (Vs v12.1) r53), ⟨.pointer (some wa7_0_6), [(Vl (Vs v12.2))], 27, none⟩, (Rw (Ki .i64) 3 (Vs v12.2) r57)]⟩ : St)) ?_ ?_
    ·rintro ⟨g9012, g9013⟩
     refine ax_nil (by kernel_rfl) ?_
     show TX E K12 _
     refine tx_k' hK12 ?_
     refine cx_region' ?_
     refine s0 (rd_load' (i := 0) (o := 0) rfl ⟨rfl, rfl, rfl, rfl⟩ rfl flat145) ?_
     refine s0 (rd_move' rfl) ?_
     refine s0 (rd_move' rfl) ?_
     refine s0 (rd_move' rfl) ?_
     refine s0 (rd_bin' rfl rfl eg_int ru_add) ?_
     obtain ⟨r63, hr63, hp⟩ := bind_some hp
     refine sx_ox' (ox_callg' (ent_clo' (us := [.pointer (some wa3), .pointer (some wa4), .pointer (some wa5), .pointer (some wa6), .pointer (some wa7), .pointer (some wa7_0_5), .pointer (some wa7_0_6)]) rfl Try.func81 isn81 rfl rfl) (hrec _ _ _ _ _ _ _ _ _ _ _ _ _ _ _ _ _ _ _ _ _ hr63 : Sx.Fn Try.prog 81 [(Vi r41.2.2), (Vi a0), (Vi (iadd .i64 a2 1)), (Vp wa3), (Vp wa4), (Vp wa5), (Vp wa6), (Vp wa7), (Vp wa7_0_5), (Vp wa7_0_6)] [⟨.pointer (some wa3), [(Vb r49.1)], 4, none⟩, ⟨.pointer (some wa4), [(Vi r49.2.1)], 3, none⟩, ⟨.pointer (some wa5), [(Vl (Vs wa5_0))], 63, none⟩, (Rw Kb 4 (Vs wa5_0) r49.2.2.1), ⟨.pointer (some wa6), [(Vl (.func (.func 42) #[] ⟨[.pointer (some wa6_0_0)]⟩))], 78, none⟩, ⟨.pointer (some wa6_0_0), [(Sl KT35 r49.2.2.2.1)], 22, none⟩, ⟨.pointer (some wa7), [(Vl (.func (.func 81) #[] ⟨[.pointer (some wa3), .pointer (some wa4), .pointer (some wa5), .pointer (some wa6), .pointer (some wa7), .pointer (some wa7_0_5), .pointer (some wa7_0_6)]⟩))], 145, none⟩, ⟨.pointer (some wa7_0_5), [(Vl (Vs g9012))], 27, none⟩, (Rw (Ki .i64) 3 (Vs g9012) r53), ⟨.pointer (some wa7_0_6), [(Vl (Vs g9013))], 27, none⟩, (Rw (Ki .i64) 3 (Vs g9013) r57)] (fun x : Gs × Gs => (Vl (.tuple #[]))) (fun x => [⟨.pointer (some wa3), [(Vb r63.1)], 4, none⟩, ⟨.pointer (some wa4), [(Vi r63.2.1)], 3, none⟩, ⟨.pointer (some wa5), [(Vl (Vs wa5_0))], 63, none⟩, (Rw Kb 4 (Vs wa5_0) r63.2.2.1), ⟨.pointer (some wa6), [(Vl (.func (.func 42) #[] ⟨[.pointer (some wa6_0_0)]⟩))], 78, none⟩, ⟨.pointer (some wa6_0_0), [(Sl KT35 r63.2.2.2.1)], 22, none⟩, ⟨.pointer (some wa7), [(Vl (.func (.func 81) #[] ⟨[.pointer (some wa3), .pointer (some wa4), .pointer (some wa5), .pointer (some wa6), .pointer (some wa7), .pointer (some wa7_0_5), .pointer (some wa7_0_6)]⟩))], 145, none⟩, ⟨.pointer (some wa7_0_5), [(Vl (Vs x.1))], 27, none⟩, (Rw (Ki .i64) 3 (Vs x.1) r63.2.2.2.2.1), ⟨.pointer (some wa7_0_6), [(Vl (Vs x.2))], 27, none⟩, (Rw (Ki .i64) 3 (Vs x.2) r63.2.2.2.2.2)])) [1, 2, 3, 4, 5, 6, 0, 7, 8, 9, 10] [] (by decide) (pick_cons rfl (pick_cons rfl (pick_cons rfl (pick_cons rfl (pick_cons rfl (pick_cons rfl (pick_cons rfl (pick_cons rfl (pick_cons rfl (pick_cons rfl (pick_cons rfl pick_nil))))))))))) pick_nil (Hn := fun x : Gs × Gs => [⟨.pointer (some wa3), [(Vb r63.1)], 4, none⟩, ⟨.pointer (some wa4), [(Vi r63.2.1)], 3, none⟩, ⟨.pointer (some wa5), [(Vl (Vs wa5_0))], 63, none⟩, (Rw Kb 4 (Vs wa5_0) r63.2.2.1), ⟨.pointer (some wa6), [(Vl (.func (.func 42) #[] ⟨[.pointer (some wa6_0_0)]⟩))], 78, none⟩, ⟨.pointer (some wa6_0_0), [(Sl KT35 r63.2.2.2.1)], 22, none⟩, ⟨.pointer (some wa7), [(Vl (.func (.func 81) #[] ⟨[.pointer (some wa3), .pointer (some wa4), .pointer (some wa5), .pointer (some wa6), .pointer (some wa7), .pointer (some wa7_0_5), .pointer (some wa7_0_6)]⟩))], 145, none⟩, ⟨.pointer (some wa7_0_5), [(Vl (Vs x.1))], 27, none⟩, (Rw (Ki .i64) 3 (Vs x.1) r63.2.2.2.2.1), ⟨.pointer (some wa7_0_6), [(Vl (Vs x.2))], 27, none⟩, (Rw (Ki .i64) 3 (Vs x.2) r63.2.2.2.2.2)]) (fun _ => rfl) rfl rfl) (wt_none' rfl) fun ⟨g63, gz2⟩ => ?_
     refine sx_nil' ?_
     replace hp := Option.some.inj hp
     subst hp
     refine tx_pick' (L' := []) (H' := [⟨.pointer (some wa3), [(Vb r63.1)], 4, none⟩, ⟨.pointer (some wa4), [(Vi r63.2.1)], 3, none⟩, ⟨.pointer (some wa5), [(Vl (Vs wa5_0))], 63, none⟩, (Rw Kb 4 (Vs wa5_0) r63.2.2.1), ⟨.pointer (some wa6), [(Vl (.func (.func 42) #[] ⟨[.pointer (some wa6_0_0)]⟩))], 78, none⟩, ⟨.pointer (some wa6_0_0), [(Sl KT35 r63.2.2.2.1)], 22, none⟩, ⟨.pointer (some wa7), [(Vl (.func (.func 81) #[] ⟨[.pointer (some wa3), .pointer (some wa4), .pointer (some wa5), .pointer (some wa6), .pointer (some wa7), .pointer (some wa7_0_5), .pointer (some wa7_0_6)]⟩))], 145, none⟩, ⟨.pointer (some wa7_0_5), [(Vl (Vs g63))], 27, none⟩, (Rw (Ki .i64) 3 (Vs g63) r63.2.2.2.2.1), ⟨.pointer (some wa7_0_6), [(Vl (Vs gz2))], 27, none⟩, (Rw (Ki .i64) 3 (Vs gz2) r63.2.2.2.2.2)]) [0, 1, 2, 3, 4, 5, 6, 7, 8, 9, 10] sub_nil (by decide) (pick_cons rfl (pick_cons rfl (pick_cons rfl (pick_cons rfl (pick_cons rfl (pick_cons rfl (pick_cons rfl (pick_cons rfl (pick_cons rfl (pick_cons rfl (pick_cons rfl pick_nil))))))))))) ?_
     exact tx_end0' Try.results81 rfl (g63, gz2) rfl (List.Sublist.refl _)
    intro hN9
    refine ax_node (f' := 1) #[true, true, true, true, true, true, true, true, true, false] (fun (v11 : Gs × Gs) => (⟨64, [], [(0, (Vi a0)), (2, (Vi a2)), (7, (Vp wa7)), (9, (Vp wa7_0_6)), (14, (Vi r41.2.2)), (57, (Vl (Vs v11.2)))], [⟨.pointer (some wa7), [(Vl (.func (.func 81) #[] ⟨[.pointer (some wa3), .pointer (some wa4), .pointer (some wa5), .pointer (some wa6), .pointer (some wa7), .pointer (some wa7_0_5), .pointer (some wa7_0_6)]⟩))], 145, none⟩, ⟨.pointer (some wa3), [(Vb r49.1)], 4, none⟩, ⟨.pointer (some wa4), [(Vi r49.2.1)], 3, none⟩, ⟨.pointer (some wa5), [(Vl (Vs wa5_0))], 63, none⟩, (Rw Kb 4 (Vs wa5_0) r49.2.2.1), ⟨.pointer (some wa6), [(Vl (.func (.func 42) #[] ⟨[.pointer (some wa6_0_0)]⟩))], 78, none⟩, ⟨.pointer (some wa6_0_0), [(Sl KT35 r49.2.2.2.1)], 22, none⟩, ⟨.pointer (some wa7_0_5), [(Vl (Vs v11.1))], 27, none⟩, (Rw (Ki .i64) 3 (Vs v11.1) r53), ⟨.pointer (some wa7_0_6), [(Vl (Vs gz1))], 27, none⟩, (Rw (Ki .i64) 3 (Vs v11.2) r57)]⟩ : St)) ?_ ?_
    ·rintro ⟨g9010, g9011⟩
     refine ax_all (i := 9) (is := []) (by kernel_rfl) (all_cons ?_ all_nil)
     ·refine nx_ox (last := #[true, true, true, true, true, true, true, true, true, true]) rfl (ox_store' (i := 9) (o := 0) rfl rfl (lv_vl rfl rfl) ⟨rfl, rfl, rfl, rfl⟩ rfl info27 rfl (H' := [⟨.pointer (some wa7), [(Vl (.func (.func 81) #[] ⟨[.pointer (some wa3), .pointer (some wa4), .pointer (some wa5), .pointer (some wa6), .pointer (some wa7), .pointer (some wa7_0_5), .pointer (some wa7_0_6)]⟩))], 145, none⟩, ⟨.pointer (some wa3), [(Vb r49.1)], 4, none⟩, ⟨.pointer (some wa4), [(Vi r49.2.1)], 3, none⟩, ⟨.pointer (some wa5), [(Vl (Vs wa5_0))], 63, none⟩, (Rw Kb 4 (Vs wa5_0) r49.2.2.1), ⟨.pointer (some wa6), [(Vl (.func (.func 42) #[] ⟨[.pointer (some wa6_0_0)]⟩))], 78, none⟩, ⟨.pointer (some wa6_0_0), [(Sl KT35 r49.2.2.2.1)], 22, none⟩, ⟨.pointer (some wa7_0_5), [(Vl (Vs g9010))], 27, none⟩, (Rw (Ki .i64) 3 (Vs g9010) r53), ⟨.pointer (some wa7_0_6), [(Vl (Vs g9011))], 27, none⟩, (Rw (Ki .i64) 3 (Vs g9011) r57)]) rfl) rfl (bs_cons (m := 9) rfl rfl rfl bs_nil) (wt_none' rfl) rfl fun _ => ?_
      exact tx_pick' [0, 1, 2, 3, 4, 5, 6, 7, 8, 9, 10] (sub_cons rfl (sub_cons rfl (sub_cons rfl (sub_cons rfl (sub_cons rfl sub_nil))))) (by decide) (pick_cons rfl (pick_cons rfl (pick_cons rfl (pick_cons rfl (pick_cons rfl (pick_cons rfl (pick_cons rfl (pick_cons rfl (pick_cons rfl (pick_cons rfl (pick_cons rfl pick_nil))))))))))) (hN9 (g9010, g9011))
    intro hN8
    refine ax_node (f' := 2) #[true, true, true, true, true, true, true, true, false, false] (fun (v10 : Gs × Gs) => (⟨64, [], [(0, (Vi a0)), (2, (Vi a2)), (7, (Vp wa7)), (8, (Vp wa7_0_5)), (9, (Vp wa7_0_6)), (14, (Vi r41.2.2)), (53, (Vl (Vs v10.1))), (57, (Vl (Vs v10.2)))], [⟨.pointer (some wa7), [(Vl (.func (.func 81) #[] ⟨[.pointer (some wa3), .pointer (some wa4), .pointer (some wa5), .pointer (some wa6), .pointer (some wa7), .pointer (some wa7_0_5), .pointer (some wa7_0_6)]⟩))], 145, none⟩, ⟨.pointer (some wa3), [(Vb r49.1)], 4, none⟩, ⟨.pointer (some wa4), [(Vi r49.2.1)], 3, none⟩, ⟨.pointer (some wa5), [(Vl (Vs wa5_0))], 63, none⟩, (Rw Kb 4 (Vs wa5_0) r49.2.2.1), ⟨.pointer (some wa6), [(Vl (.func (.func 42) #[] ⟨[.pointer (some wa6_0_0)]⟩))], 78, none⟩, ⟨.pointer (some wa6_0_0), [(Sl KT35 r49.2.2.2.1)], 22, none⟩, ⟨.pointer (some wa7_0_5), [(Vl (Vs g49))], 27, none⟩, ⟨.pointer (some wa7_0_6), [(Vl (Vs gz1))], 27, none⟩, (Rw (Ki .i64) 3 (Vs v10.1) r53), (Rw (Ki .i64) 3 (Vs v10.2) r57)]⟩ : St)) ?_ ?_
    ·rintro ⟨g908, g909⟩
     refine ax_all (i := 8) (is := []) (by kernel_rfl) (all_cons ?_ all_nil)
     ·refine nx_oxv (last := #[true, true, true, true, true, true, true, true, true, false]) rfl (oxv_store (i := 7) (o := 0) rfl rfl (lv_vl rfl rfl) ⟨rfl, rfl, rfl, rfl⟩ rfl info27 rfl (H' := [⟨.pointer (some wa7), [(Vl (.func (.func 81) #[] ⟨[.pointer (some wa3), .pointer (some wa4), .pointer (some wa5), .pointer (some wa6), .pointer (some wa7), .pointer (some wa7_0_5), .pointer (some wa7_0_6)]⟩))], 145, none⟩, ⟨.pointer (some wa3), [(Vb r49.1)], 4, none⟩, ⟨.pointer (some wa4), [(Vi r49.2.1)], 3, none⟩, ⟨.pointer (some wa5), [(Vl (Vs wa5_0))], 63, none⟩, (Rw Kb 4 (Vs wa5_0) r49.2.2.1), ⟨.pointer (some wa6), [(Vl (.func (.func 42) #[] ⟨[.pointer (some wa6_0_0)]⟩))], 78, none⟩, ⟨.pointer (some wa6_0_0), [(Sl KT35 r49.2.2.2.1)], 22, none⟩, ⟨.pointer (some wa7_0_5), [(Vl (Vs g908))], 27, none⟩, ⟨.pointer (some wa7_0_6), [(Vl (Vs gz1))], 27, none⟩, (Rw (Ki .i64) 3 (Vs g908) r53), (Rw (Ki .i64) 3 (Vs g909) r57)]) rfl) rfl rfl (bo_cons (m := 8) (by decide) rfl rfl bo_nil) (wt_none' rfl) rfl fun _ => ?_
      exact tx_pick' [0, 1, 2, 3, 4, 5, 6, 7, 9, 8, 10] (sub_cons rfl (sub_cons rfl (sub_cons rfl (sub_cons rfl (sub_cons rfl (sub_cons rfl sub_nil)))))) (by decide) (pick_cons rfl (pick_cons rfl (pick_cons rfl (pick_cons rfl (pick_cons rfl (pick_cons rfl (pick_cons rfl (pick_cons rfl (pick_cons rfl (pick_cons rfl (pick_cons rfl pick_nil))))))))))) (hN8 (g908, g909))
    intro hN7
    refine ax_node (f' := 3) #[true, true, true, true, true, true, true, false, false, false] (fun (v9 : Gs × Gs) => (⟨64, [], [(0, (Vi a0)), (2, (Vi a2)), (7, (Vp wa7)), (8, (Vp wa7_0_5)), (9, (Vp wa7_0_6)), (14, (Vi r41.2.2)), (53, (Vl (Vs v9.1))), (54, (Vl (Vs gz1))), (56, (Vl (Vs v9.2)))], [⟨.pointer (some wa7), [(Vl (.func (.func 81) #[] ⟨[.pointer (some wa3), .pointer (some wa4), .pointer (some wa5), .pointer (some wa6), .pointer (some wa7), .pointer (some wa7_0_5), .pointer (some wa7_0_6)]⟩))], 145, none⟩, ⟨.pointer (some wa3), [(Vb r49.1)], 4, none⟩, ⟨.pointer (some wa4), [(Vi r49.2.1)], 3, none⟩, ⟨.pointer (some wa5), [(Vl (Vs wa5_0))], 63, none⟩, (Rw Kb 4 (Vs wa5_0) r49.2.2.1), ⟨.pointer (some wa6), [(Vl (.func (.func 42) #[] ⟨[.pointer (some wa6_0_0)]⟩))], 78, none⟩, ⟨.pointer (some wa6_0_0), [(Sl KT35 r49.2.2.2.1)], 22, none⟩, ⟨.pointer (some wa7_0_5), [(Vl (Vs g49))], 27, none⟩, ⟨.pointer (some wa7_0_6), [(Vl (Vs gz1))], 27, none⟩, (Rw (Ki .i64) 3 (Vs gz1) r49.2.2.2.2.2), (Rw (Ki .i64) 3 (Vs v9.1) r53), (Rw (Ki .i64) 3 (Vs v9.2) ([a2]))]⟩ : St)) ?_ ?_
    ·rintro ⟨g906, g907⟩
     refine ax_all (i := 7) (is := []) (by kernel_rfl) (all_cons ?_ all_nil)
     ·refine nx_ox (last := #[true, true, true, true, true, true, true, true, false, false]) rfl (ox_append' (K := (Ki .i64)) (i := 9) (xs := r49.2.2.2.2.2) (ys := ([a2])) rfl rfl rfl (sr_row' (j := 11) rfl rfl rfl Try.underlying27) hr57 Try.underlying27 info3 rfl rfl rfl (H' := [⟨.pointer (some wa7), [(Vl (.func (.func 81) #[] ⟨[.pointer (some wa3), .pointer (some wa4), .pointer (some wa5), .pointer (some wa6), .pointer (some wa7), .pointer (some wa7_0_5), .pointer (some wa7_0_6)]⟩))], 145, none⟩, ⟨.pointer (some wa3), [(Vb r49.1)], 4, none⟩, ⟨.pointer (some wa4), [(Vi r49.2.1)], 3, none⟩, ⟨.pointer (some wa5), [(Vl (Vs wa5_0))], 63, none⟩, (Rw Kb 4 (Vs wa5_0) r49.2.2.1), ⟨.pointer (some wa6), [(Vl (.func (.func 42) #[] ⟨[.pointer (some wa6_0_0)]⟩))], 78, none⟩, ⟨.pointer (some wa6_0_0), [(Sl KT35 r49.2.2.2.1)], 22, none⟩, ⟨.pointer (some wa7_0_5), [(Vl (Vs g49))], 27, none⟩, ⟨.pointer (some wa7_0_6), [(Vl (Vs gz1))], 27, none⟩, (Rw (Ki .i64) 3 (Vs g906) r53), (Rw (Ki .i64) 3 (Vs g907) ([a2]))]) rfl) rfl (bs_cons (m := 8) rfl rfl rfl bs_nil) (wt_none' rfl) rfl fun g57 => ?_
      exact tx_pick' [1, 2, 3, 4, 5, 6, 7, 8, 9, 10, 0] (sub_cons rfl (sub_cons rfl (sub_cons rfl (sub_cons rfl (sub_cons rfl (sub_cons rfl (sub_cons rfl (sub_cons rfl sub_nil)))))))) (by decide) (pick_cons rfl (pick_cons rfl (pick_cons rfl (pick_cons rfl (pick_cons rfl (pick_cons rfl (pick_cons rfl (pick_cons rfl (pick_cons rfl (pick_cons rfl (pick_cons rfl pick_nil))))))))))) (hN7 (g906, g57))
    intro hN6
    refine ax_node (f' := 4) #[true, true, true, true, true, true, false, false, false, false] (fun (v7 : Gs) => (⟨64, [], [(0, (Vi a0)), (2, (Vi a2)), (7, (Vp wa7)), (8, (Vp wa7_0_5)), (9, (Vp wa7_0_6)), (14, (Vi r41.2.2)), (53, (Vl (Vs v7))), (54, (Vl (Vs gz1))), (55, (Vi a2))], [⟨.pointer (some wa7), [(Vl (.func (.func 81) #[] ⟨[.pointer (some wa3), .pointer (some wa4), .pointer (some wa5), .pointer (some wa6), .pointer (some wa7), .pointer (some wa7_0_5), .pointer (some wa7_0_6)]⟩))], 145, none⟩, ⟨.pointer (some wa3), [(Vb r49.1)], 4, none⟩, ⟨.pointer (some wa4), [(Vi r49.2.1)], 3, none⟩, ⟨.pointer (some wa5), [(Vl (Vs wa5_0))], 63, none⟩, (Rw Kb 4 (Vs wa5_0) r49.2.2.1), ⟨.pointer (some wa6), [(Vl (.func (.func 42) #[] ⟨[.pointer (some wa6_0_0)]⟩))], 78, none⟩, ⟨.pointer (some wa6_0_0), [(Sl KT35 r49.2.2.2.1)], 22, none⟩, ⟨.pointer (some wa7_0_5), [(Vl (Vs g49))], 27, none⟩, ⟨.pointer (some wa7_0_6), [(Vl (Vs gz1))], 27, none⟩, (Rw (Ki .i64) 3 (Vs gz1) r49.2.2.2.2.2), (Rw (Ki .i64) 3 (Vs v7) r53)]⟩ : St)) ?_ ?_
    ·rintro g903
     refine ax_all (i := 6) (is := []) (by kernel_rfl) (all_cons ?_ all_nil)
     ·refine nx_ox (last := #[true, true, true, true, true, true, true, false, false, false]) rfl (ox_rowlit' (K := (Ki .i64)) (xs := [a2]) (qs := [(0, [(Vi a2)])]) ⟨rfl, ⟨_, rfl, (lv_vl rfl rfl)⟩, trivial⟩ Try.underlying27 info3 rfl rfl rfl rfl rfl (by kernel_rfl) rfl rfl rfl) rfl (bs_cons (m := 8) rfl rfl rfl bs_nil) (wt_none' rfl) rfl fun g56 => ?_
      exact tx_pick' [1, 2, 3, 4, 5, 6, 7, 8, 9, 10, 11, 0] (sub_cons rfl (sub_cons rfl (sub_cons rfl (sub_cons rfl (sub_cons rfl (sub_cons rfl (sub_cons rfl (sub_cons rfl (sub_cons rfl sub_nil))))))))) (by decide) (pick_cons rfl (pick_cons rfl (pick_cons rfl (pick_cons rfl (pick_cons rfl (pick_cons rfl (pick_cons rfl (pick_cons rfl (pick_cons rfl (pick_cons rfl (pick_cons rfl (pick_cons rfl pick_nil)))))))))))) (hN6 (g903, g56))
    intro hN4
    refine ax_node (f' := 4) #[true, true, true, false, true, true, true, false, false, false] (fun (v8 : Gs × Gs) => (⟨64, [], [(0, (Vi a0)), (2, (Vi a2)), (7, (Vp wa7)), (8, (Vp wa7_0_5)), (9, (Vp wa7_0_6)), (14, (Vi r41.2.2)), (50, (Vl (Vs g49))), (52, (Vl (Vs v8.1))), (54, (Vl (Vs gz1))), (56, (Vl (Vs v8.2)))], [⟨.pointer (some wa7), [(Vl (.func (.func 81) #[] ⟨[.pointer (some wa3), .pointer (some wa4), .pointer (some wa5), .pointer (some wa6), .pointer (some wa7), .pointer (some wa7_0_5), .pointer (some wa7_0_6)]⟩))], 145, none⟩, ⟨.pointer (some wa3), [(Vb r49.1)], 4, none⟩, ⟨.pointer (some wa4), [(Vi r49.2.1)], 3, none⟩, ⟨.pointer (some wa5), [(Vl (Vs wa5_0))], 63, none⟩, (Rw Kb 4 (Vs wa5_0) r49.2.2.1), ⟨.pointer (some wa6), [(Vl (.func (.func 42) #[] ⟨[.pointer (some wa6_0_0)]⟩))], 78, none⟩, ⟨.pointer (some wa6_0_0), [(Sl KT35 r49.2.2.2.1)], 22, none⟩, ⟨.pointer (some wa7_0_5), [(Vl (Vs g49))], 27, none⟩, (Rw (Ki .i64) 3 (Vs g49) r49.2.2.2.2.1), ⟨.pointer (some wa7_0_6), [(Vl (Vs gz1))], 27, none⟩, (Rw (Ki .i64) 3 (Vs gz1) r49.2.2.2.2.2), (Rw (Ki .i64) 3 (Vs v8.1) ([a0])), (Rw (Ki .i64) 3 (Vs v8.2) ([a2]))]⟩ : St)) ?_ ?_
    ·rintro ⟨g904, g905⟩
     refine ax_all (i := 3) (is := []) (by kernel_rfl) (all_cons ?_ all_nil)
     ·refine nx_ox (last := #[true, true, true, true, true, true, true, false, false, false]) rfl (ox_append' (K := (Ki .i64)) (i := 8) (xs := r49.2.2.2.2.1) (ys := ([a0])) rfl rfl rfl (sr_row' (j := 11) rfl rfl rfl Try.underlying27) hr53 Try.underlying27 info3 rfl rfl rfl (H' := [⟨.pointer (some wa7), [(Vl (.func (.func 81) #[] ⟨[.pointer (some wa3), .pointer (some wa4), .pointer (some wa5), .pointer (some wa6), .pointer (some wa7), .pointer (some wa7_0_5), .pointer (some wa7_0_6)]⟩))], 145, none⟩, ⟨.pointer (some wa3), [(Vb r49.1)], 4, none⟩, ⟨.pointer (some wa4), [(Vi r49.2.1)], 3, none⟩, ⟨.pointer (some wa5), [(Vl (Vs wa5_0))], 63, none⟩, (Rw Kb 4 (Vs wa5_0) r49.2.2.1), ⟨.pointer (some wa6), [(Vl (.func (.func 42) #[] ⟨[.pointer (some wa6_0_0)]⟩))], 78, none⟩, ⟨.pointer (some wa6_0_0), [(Sl KT35 r49.2.2.2.1)], 22, none⟩, ⟨.pointer (some wa7_0_5), [(Vl (Vs g49))], 27, none⟩, ⟨.pointer (some wa7_0_6), [(Vl (Vs gz1))], 27, none⟩, (Rw (Ki .i64) 3 (Vs gz1) r49.2.2.2.2.2), (Rw (Ki .i64) 3 (Vs g904) ([a0])), (Rw (Ki .i64) 3 (Vs g905) ([a2]))]) rfl) rfl (bs_cons (m := 9) rfl rfl rfl bs_nil) (wt_none' rfl) rfl fun g53 => ?_
      exact tx_pick' [1, 2, 3, 4, 5, 6, 7, 8, 9, 10, 0, 12] (sub_cons rfl (sub_cons rfl (sub_cons rfl (sub_cons rfl (sub_cons rfl (sub_cons rfl (sub_cons rfl (sub_cons rfl (sub_cons rfl sub_nil))))))))) (by decide) (pick_cons rfl (pick_cons rfl (pick_cons rfl (pick_cons rfl (pick_cons rfl (pick_cons rfl (pick_cons rfl (pick_cons rfl (pick_cons rfl (pick_cons rfl (pick_cons rfl (pick_cons rfl pick_nil)))))))))))) (hN6 (g53, g905))
    intro hN5
    refine ax_node (f' := 5) #[true, true, true, false, true, true, false, false, false, false] (fun (v5 : Gs) => (⟨64, [], [(0, (Vi a0)), (2, (Vi a2)), (7, (Vp wa7)), (8, (Vp wa7_0_5)), (9, (Vp wa7_0_6)), (14, (Vi r41.2.2)), (50, (Vl (Vs g49))), (52, (Vl (Vs v5))), (54, (Vl (Vs gz1))), (55, (Vi a2))], [⟨.pointer (some wa7), [(Vl (.func (.func 81) #[] ⟨[.pointer (some wa3), .pointer (some wa4), .pointer (some wa5), .pointer (some wa6), .pointer (some wa7), .pointer (some wa7_0_5), .pointer (some wa7_0_6)]⟩))], 145, none⟩, ⟨.pointer (some wa3), [(Vb r49.1)], 4, none⟩, ⟨.pointer (some wa4), [(Vi r49.2.1)], 3, none⟩, ⟨.pointer (some wa5), [(Vl (Vs wa5_0))], 63, none⟩, (Rw Kb 4 (Vs wa5_0) r49.2.2.1), ⟨.pointer (some wa6), [(Vl (.func (.func 42) #[] ⟨[.pointer (some wa6_0_0)]⟩))], 78, none⟩, ⟨.pointer (some wa6_0_0), [(Sl KT35 r49.2.2.2.1)], 22, none⟩, ⟨.pointer (some wa7_0_5), [(Vl (Vs g49))], 27, none⟩, (Rw (Ki .i64) 3 (Vs g49) r49.2.2.2.2.1), ⟨.pointer (some wa7_0_6), [(Vl (Vs gz1))], 27, none⟩, (Rw (Ki .i64) 3 (Vs gz1) r49.2.2.2.2.2), (Rw (Ki .i64) 3 (Vs v5) ([a0]))]⟩ : St)) ?_ ?_
    ·rintro g901
     refine ax_all (i := 3) (is := [6]) (by kernel_rfl) (all_cons ?_ (all_cons ?_ all_nil))
     ·refine nx_ox (last := #[true, true, true, true, true, true, false, false, false, false]) rfl (ox_append' (K := (Ki .i64)) (i := 8) (xs := r49.2.2.2.2.1) (ys := ([a0])) rfl rfl rfl (sr_row' (j := 11) rfl rfl rfl Try.underlying27) hr53 Try.underlying27 info3 rfl rfl rfl (H' := [⟨.pointer (some wa7), [(Vl (.func (.func 81) #[] ⟨[.pointer (some wa3), .pointer (some wa4), .pointer (some wa5), .pointer (some wa6), .pointer (some wa7), .pointer (some wa7_0_5), .pointer (some wa7_0_6)]⟩))], 145, none⟩, ⟨.pointer (some wa3), [(Vb r49.1)], 4, none⟩, ⟨.pointer (some wa4), [(Vi r49.2.1)], 3, none⟩, ⟨.pointer (some wa5), [(Vl (Vs wa5_0))], 63, none⟩, (Rw Kb 4 (Vs wa5_0) r49.2.2.1), ⟨.pointer (some wa6), [(Vl (.func (.func 42) #[] ⟨[.pointer (some wa6_0_0)]⟩))], 78, none⟩, ⟨.pointer (some wa6_0_0), [(Sl KT35 r49.2.2.2.1)], 22, none⟩, ⟨.pointer (some wa7_0_5), [(Vl (Vs g49))], 27, none⟩, ⟨.pointer (some wa7_0_6), [(Vl (Vs gz1))], 27, none⟩, (Rw (Ki .i64) 3 (Vs gz1) r49.2.2.2.2.2), (Rw (Ki .i64) 3 (Vs g901) ([a0]))]) rfl) rfl (bs_cons (m := 9) rfl rfl rfl bs_nil) (wt_none' rfl) rfl fun g53 => ?_
      exact tx_pick' [1, 2, 3, 4, 5, 6, 7, 8, 9, 10, 0] (sub_cons rfl (sub_cons rfl (sub_cons rfl (sub_cons rfl (sub_cons rfl (sub_cons rfl (sub_cons rfl (sub_cons rfl (sub_cons rfl sub_nil))))))))) (by decide) (pick_cons rfl (pick_cons rfl (pick_cons rfl (pick_cons rfl (pick_cons rfl (pick_cons rfl (pick_cons rfl (pick_cons rfl (pick_cons rfl (pick_cons rfl (pick_cons rfl pick_nil))))))))))) (hN4 g53)
     refine nx_ox (last := #[true, true, true, false, true, true, true, false, false, false]) rfl (ox_rowlit' (K := (Ki .i64)) (xs := [a2]) (qs := [(0, [(Vi a2)])]) ⟨rfl, ⟨_, rfl, (lv_vl rfl rfl)⟩, trivial⟩ Try.underlying27 info3 rfl rfl rfl rfl rfl (by kernel_rfl) rfl rfl rfl) rfl (bs_cons (m := 9) rfl rfl rfl bs_nil) (wt_none' rfl) rfl fun g56 => ?_
     exact tx_pick' [1, 2, 3, 4, 5, 6, 7, 8, 9, 10, 11, 12, 0] (sub_cons rfl (sub_cons rfl (sub_cons rfl (sub_cons rfl (sub_cons rfl (sub_cons rfl (sub_cons rfl (sub_cons rfl (sub_cons rfl (sub_cons rfl sub_nil)))))))))) (by decide) (pick_cons rfl (pick_cons rfl (pick_cons rfl (pick_cons rfl (pick_cons rfl (pick_cons rfl (pick_cons rfl (pick_cons rfl (pick_cons rfl (pick_cons rfl (pick_cons rfl (pick_cons rfl (pick_cons rfl pick_nil))))))))))))) (hN5 (g901, g56))
    intro hN2
    refine ax_node (f' := 5) #[true, true, false, false, true, true, true, false, false, false] (fun (v6 : Gs) => (⟨64, [], [(0, (Vi a0)), (2, (Vi a2)), (7, (Vp wa7)), (8, (Vp wa7_0_5)), (9, (Vp wa7_0_6)), (14, (Vi r41.2.2)), (50, (Vl (Vs g49))), (51, (Vi a0)), (54, (Vl (Vs gz1))), (56, (Vl (Vs v6)))], [⟨.pointer (some wa7), [(Vl (.func (.func 81) #[] ⟨[.pointer (some wa3), .pointer (some wa4), .pointer (some wa5), .pointer (some wa6), .pointer (some wa7), .pointer (some wa7_0_5), .pointer (some wa7_0_6)]⟩))], 145, none⟩, ⟨.pointer (some wa3), [(Vb r49.1)], 4, none⟩, ⟨.pointer (some wa4), [(Vi r49.2.1)], 3, none⟩, ⟨.pointer (some wa5), [(Vl (Vs wa5_0))], 63, none⟩, (Rw Kb 4 (Vs wa5_0) r49.2.2.1), ⟨.pointer (some wa6), [(Vl (.func (.func 42) #[] ⟨[.pointer (some wa6_0_0)]⟩))], 78, none⟩, ⟨.pointer (some wa6_0_0), [(Sl KT35 r49.2.2.2.1)], 22, none⟩, ⟨.pointer (some wa7_0_5), [(Vl (Vs g49))], 27, none⟩, (Rw (Ki .i64) 3 (Vs g49) r49.2.2.2.2.1), ⟨.pointer (some wa7_0_6), [(Vl (Vs gz1))], 27, none⟩, (Rw (Ki .i64) 3 (Vs gz1) r49.2.2.2.2.2), (Rw (Ki .i64) 3 (Vs v6) ([a2]))]⟩ : St)) ?_ ?_
    ·rintro g902
     refine ax_all (i := 2) (is := []) (by kernel_rfl) (all_cons ?_ all_nil)
     ·refine nx_ox (last := #[true, true, true, false, true, true, true, false, false, false]) rfl (ox_rowlit' (K := (Ki .i64)) (xs := [a0]) (qs := [(0, [(Vi a0)])]) ⟨rfl, ⟨_, rfl, (lv_vl rfl rfl)⟩, trivial⟩ Try.underlying27 info3 rfl rfl rfl rfl rfl (by kernel_rfl) rfl rfl rfl) rfl (bs_cons (m := 9) rfl rfl rfl bs_nil) (wt_none' rfl) rfl fun g52 => ?_
      exact tx_pick' [1, 2, 3, 4, 5, 6, 7, 8, 9, 10, 11, 0, 12] (sub_cons rfl (sub_cons rfl (sub_cons rfl (sub_cons rfl (sub_cons rfl (sub_cons rfl (sub_cons rfl (sub_cons rfl (sub_cons rfl (sub_cons rfl sub_nil)))))))))) (by decide) (pick_cons rfl (pick_cons rfl (pick_cons rfl (pick_cons rfl (pick_cons rfl (pick_cons rfl (pick_cons rfl (pick_cons rfl (pick_cons rfl (pick_cons rfl (pick_cons rfl (pick_cons rfl (pick_cons rfl pick_nil))))))))))))) (hN5 (g52, g902))
    intro hN3
    refine ax_all (i := 2) (is := [6]) (by kernel_rfl) (all_cons ?_ (all_cons ?_ all_nil))
    ·refine nx_ox (last := #[true, true, true, false, true, true, false, false, false, false]) rfl (ox_rowlit' (K := (Ki .i64)) (xs := [a0]) (qs := [(0, [(Vi a0)])]) ⟨rfl, ⟨_, rfl, (lv_vl rfl rfl)⟩, trivial⟩ Try.underlying27 info3 rfl rfl rfl rfl rfl (by kernel_rfl) rfl rfl rfl) rfl (bs_cons (m := 9) rfl rfl rfl bs_nil) (wt_none' rfl) rfl fun g52 => ?_
     exact tx_pick' [7, 1, 2, 3, 4, 5, 6, 8, 9, 10, 11, 0] (sub_cons rfl (sub_cons rfl (sub_cons rfl (sub_cons rfl (sub_cons rfl (sub_cons rfl (sub_cons rfl (sub_cons rfl (sub_cons rfl (sub_cons rfl sub_nil)))))))))) (by decide) (pick_cons rfl (pick_cons rfl (pick_cons rfl (pick_cons rfl (pick_cons rfl (pick_cons rfl (pick_cons rfl (pick_cons rfl (pick_cons rfl (pick_cons rfl (pick_cons rfl (pick_cons rfl pick_nil)))))))))))) (hN2 g52)
    refine nx_ox (last := #[true, true, false, false, true, true, true, false, false, false]) rfl (ox_rowlit' (K := (Ki .i64)) (xs := [a2]) (qs := [(0, [(Vi a2)])]) ⟨rfl, ⟨_, rfl, (lv_vl rfl rfl)⟩, trivial⟩ Try.underlying27 info3 rfl rfl rfl rfl rfl (by kernel_rfl) rfl rfl rfl) rfl (bs_cons (m := 9) rfl rfl rfl bs_nil) (wt_none' rfl) rfl fun g56 => ?_
    exact tx_pick' [7, 1, 2, 3, 4, 5, 6, 8, 9, 10, 11, 0] (sub_cons rfl (sub_cons rfl (sub_cons rfl (sub_cons rfl (sub_cons rfl (sub_cons rfl (sub_cons rfl (sub_cons rfl (sub_cons rfl (sub_cons rfl sub_nil)))))))))) (by decide) (pick_cons rfl (pick_cons rfl (pick_cons rfl (pick_cons rfl (pick_cons rfl (pick_cons rfl (pick_cons rfl (pick_cons rfl (pick_cons rfl (pick_cons rfl (pick_cons rfl (pick_cons rfl pick_nil)))))))))))) (hN3 g56)
   intro K7 hK7
   rcases br_cases hp with ⟨h4, hp⟩ | ⟨h4, hp⟩
   ·refine sx_skip' rfl rfl (wt_is' (wt_guard' rfl rfl rfl) (beq_tf h4)) ?_
    refine sx_skip' rfl rfl (wt_is' (wt_guard' rfl rfl rfl) (beq_tf h4)) ?_
    refine sx_skip' rfl rfl (wt_is' (wt_guard' rfl rfl rfl) (beq_tf h4)) ?_
    refine sx_skip' rfl rfl (wt_is' (wt_guard' rfl rfl rfl) (beq_tf h4)) ?_
    refine s0 (rd_pick_true' rfl h4 rfl) ?_
    refine sx_nil' ?_
    show TX E K7 _
    exact tx_pick' [0, 1, 2, 3, 4, 5, 6, 7, 8, 9, 10] (sub_cons rfl (sub_cons rfl (sub_cons rfl (sub_cons rfl (sub_cons rfl (sub_cons rfl (sub_cons rfl (sub_cons rfl (sub_cons rfl sub_nil))))))))) (by decide) (pick_cons rfl (pick_cons rfl (pick_cons rfl (pick_cons rfl (pick_cons rfl (pick_cons rfl (pick_cons rfl (pick_cons rfl (pick_cons rfl (pick_cons rfl (pick_cons rfl pick_nil))))))))))) (hK7 true hp)
   refine sx_rd' (rd_load' (i := 1) (o := 0) rfl ⟨rfl, rfl, rfl, rfl⟩ rfl flat63) rfl rfl (wt_is' (wt_guard' rfl rfl rfl) (beq_ff h4)) ?_
   refine sx_rd' (rd_move' rfl) rfl rfl (wt_is' (wt_guard' rfl rfl rfl) (beq_ff h4)) ?_
   obtain ⟨r32, hr32, hp⟩ := bind_some hp
   refine sx_rd' (rd_atr' (m := 2) rfl rfl rfl rfl hr32 Try.underlying63 info4) rfl rfl (wt_is' (wt_guard' rfl rfl rfl) (beq_ff h4)) ?_
   refine sx_rd' (rd_loadr' rfl (m := 2) (i := a0) (j := 0) rfl rfl hr32 rfl rfl flat4) rfl rfl (wt_is' (wt_guard' rfl rfl rfl) (beq_ff h4)) ?_
   refine s0 (rd_pick_false' rfl h4 rfl) ?_
   refine sx_nil' ?_
   show TX E K7 _
   exact tx_pick' [0, 1, 2, 3, 4, 5, 6, 7, 8, 9, 10] (sub_cons rfl (sub_cons rfl (sub_cons rfl (sub_cons rfl (sub_cons rfl (sub_cons rfl (sub_cons rfl (sub_cons rfl (sub_cons rfl sub_nil))))))))) (by decide) (pick_cons rfl (pick_cons rfl (pick_cons rfl (pick_cons rfl (pick_cons rfl (pick_cons rfl (pick_cons rfl (pick_cons rfl (pick_cons rfl (pick_cons rfl (pick_cons rfl pick_nil))))))))))) (hK7 r32 hp)
  intro K6 hK6
  rcases br_cases hp with ⟨h3, hp⟩ | ⟨h3, hp⟩
  ·refine sx_skip' rfl rfl (wt_is' (wt_guard' rfl rfl rfl) (beq_tf h3)) ?_
   refine sx_skip' rfl rfl (wt_is' (wt_guard' rfl rfl rfl) (beq_tf h3)) ?_
   refine sx_skip' rfl rfl (wt_is' (wt_guard' rfl rfl rfl) (beq_tf h3)) ?_
   refine s0 (rd_pick_true' rfl h3 rfl) ?_
   refine sx_nil' ?_
   show TX E K6 _
   exact tx_pick' [0, 2, 3, 4, 5, 6, 1, 7, 8, 9, 10] (sub_cons rfl (sub_cons rfl (sub_cons rfl (sub_cons rfl (sub_cons rfl (sub_cons rfl (sub_cons rfl (sub_cons rfl (sub_cons rfl sub_nil))))))))) (by decide) (pick_cons rfl (pick_cons rfl (pick_cons rfl (pick_cons rfl (pick_cons rfl (pick_cons rfl (pick_cons rfl (pick_cons rfl (pick_cons rfl (pick_cons rfl (pick_cons rfl pick_nil))))))))))) (hK6 true hp)
  refine sx_rd' (rd_move' rfl) rfl rfl (wt_is' (wt_guard' rfl rfl rfl) (beq_ff h3)) ?_
  refine sx_rd' (rd_load' (i := 1) (o := 0) rfl ⟨rfl, rfl, rfl, rfl⟩ rfl flat3) rfl rfl (wt_is' (wt_guard' rfl rfl rfl) (beq_ff h3)) ?_
  refine sx_rd' (rd_bin' rfl rfl eg_int ru_geq) rfl rfl (wt_is' (wt_guard' rfl rfl rfl) (beq_ff h3)) ?_
  refine s0 (rd_pick_false' rfl h3 rfl) ?_
  refine sx_nil' ?_
  show TX E K6 _
  exact tx_pick' [0, 2, 3, 4, 5, 6, 1, 7, 8, 9, 10] (sub_cons rfl (sub_cons rfl (sub_cons rfl (sub_cons rfl (sub_cons rfl (sub_cons rfl (sub_cons rfl (sub_cons rfl (sub_cons rfl sub_nil))))))))) (by decide) (pick_cons rfl (pick_cons rfl (pick_cons rfl (pick_cons rfl (pick_cons rfl (pick_cons rfl (pick_cons rfl (pick_cons rfl (pick_cons rfl (pick_cons rfl (pick_cons rfl pick_nil))))))))))) (hK6 (decide (a4_0 ≤ a0)) hp)
 intro K3 hK3
 rcases br_cases hp with ⟨h1, hp⟩ | ⟨h1, hp⟩
 ·refine sx_skip' rfl rfl (wt_is' (wt_guard' rfl rfl rfl) (beq_tf h1)) ?_
  refine sx_skip' rfl rfl (wt_is' (wt_guard' rfl rfl rfl) (beq_tf h1)) ?_
  refine s0 (rd_pick_true' rfl h1 rfl) ?_
  refine sx_nil' ?_
  show TX E K3 _
  exact tx_pick' [0, 1, 2, 3, 4, 5, 6, 7, 8, 9, 10] (sub_cons rfl (sub_cons rfl (sub_cons rfl (sub_cons rfl (sub_cons rfl (sub_cons rfl (sub_cons rfl (sub_cons rfl (sub_cons rfl (sub_cons rfl (sub_cons rfl sub_nil))))))))))) (by decide) (pick_cons rfl (pick_cons rfl (pick_cons rfl (pick_cons rfl (pick_cons rfl (pick_cons rfl (pick_cons rfl (pick_cons rfl (pick_cons rfl (pick_cons rfl (pick_cons rfl pick_nil))))))))))) (hK3 true hp)
 refine sx_rd' (rd_load' (i := 0) (o := 0) rfl ⟨rfl, rfl, rfl, rfl⟩ rfl flat4) rfl rfl (wt_is' (wt_guard' rfl rfl rfl) (beq_ff h1)) ?_
 refine sx_rd' (rd_un' rfl ru_not) rfl rfl (wt_is' (wt_guard' rfl rfl rfl) (beq_ff h1)) ?_
 refine s0 (rd_pick_false' rfl h1 rfl) ?_
 refine sx_nil' ?_
 show TX E K3 _
 exact tx_pick' [0, 1, 2, 3, 4, 5, 6, 7, 8, 9, 10] (sub_cons rfl (sub_cons rfl (sub_cons rfl (sub_cons rfl (sub_cons rfl (sub_cons rfl (sub_cons rfl (sub_cons rfl (sub_cons rfl (sub_cons rfl (sub_cons rfl sub_nil))))))))))) (by decide) (pick_cons rfl (pick_cons rfl (pick_cons rfl (pick_cons rfl (pick_cons rfl (pick_cons rfl (pick_cons rfl (pick_cons rfl (pick_cons rfl (pick_cons rfl (pick_cons rfl pick_nil))))))))))) (hK3 (!a3_0) hp)
theorem spec_Walk_1_v2_simA : ∀ (k : Nat) (wa3 : Addr) (wa4 : Addr) (wa5 : Addr) (wa5_0 : Gs) (wa6 : Addr) (wa6_0_0 : Addr) (wa7 : Addr) (wa7_0_5 : Addr) (wa7_0_5_0 : Gs) (wa7_0_6 : Addr) (wa7_0_6_0 : Gs) (a0 : Int) (a1 : Int) (a2 : Int) (a3_0 : Bool) (a4_0 : Int) (a5_0 : List Bool) (a6_0_0_0 : List ((List Nat) × Nat × Int × Int)) (a7_0_5_0 : List Int) (a7_0_6_0 : List Int) (out : Bool × Int × (List Bool) × (List ((List Nat) × Nat × Int × Int)) × (List Int) × (List Int)), spec_Walk_1_v2 k a0 a1 a2 a3_0 a4_0 a5_0 a6_0_0_0 a7_0_5_0 a7_0_6_0 = some out → Sx.Fn Try.prog 81 [(Vi a0), (Vi a1), (Vi a2), (Vp wa3), (Vp wa4), (Vp wa5), (Vp wa6), (Vp wa7), (Vp wa7_0_5), (Vp wa7_0_6)] [⟨.pointer (some wa3), [(Vb a3_0)], 4, none⟩, ⟨.pointer (some wa4), [(Vi a4_0)], 3, none⟩, ⟨.pointer (some wa5), [(Vl (Vs wa5_0))], 63, none⟩, (Rw Kb 4 (Vs wa5_0) a5_0), ⟨.pointer (some wa6), [(Vl (.func (.func 42) #[] ⟨[.pointer (some wa6_0_0)]⟩))], 78, none⟩, ⟨.pointer (some wa6_0_0), [(Sl KT35 a6_0_0_0)], 22, none⟩, ⟨.pointer (some wa7), [(Vl (.func (.func 81) #[] ⟨[.pointer (some wa3), .pointer (some wa4), .pointer (some wa5), .pointer (some wa6), .pointer (some wa7), .pointer (some wa7_0_5), .pointer (some wa7_0_6)]⟩))], 145, none⟩, ⟨.pointer (some wa7_0_5), [(Vl (Vs wa7_0_5_0))], 27, none⟩, (Rw (Ki .i64) 3 (Vs wa7_0_5_0) a7_0_5_0), ⟨.pointer (some wa7_0_6), [(Vl (Vs wa7_0_6_0))], 27, none⟩, (Rw (Ki .i64) 3 (Vs wa7_0_6_0) a7_0_6_0)] (fun w : Gs × Gs => (Vl (.tuple #[]))) (fun w => [⟨.pointer (some wa3), [(Vb out.1)], 4, none⟩, ⟨.pointer (some wa4), [(Vi out.2.1)], 3, none⟩, ⟨.pointer (some wa5), [(Vl (Vs wa5_0))], 63, none⟩, (Rw Kb 4 (Vs wa5_0) out.2.2.1), ⟨.pointer (some wa6), [(Vl (.func (.func 42) #[] ⟨[.pointer (some wa6_0_0)]⟩))], 78, none⟩, ⟨.pointer (some wa6_0_0), [(Sl KT35 out.2.2.2.1)], 22, none⟩, ⟨.pointer (some wa7), [(Vl (.func (.func 81) #[] ⟨[.pointer (some wa3), .pointer (some wa4), .pointer (some wa5), .pointer (some wa6), .pointer (some wa7), .pointer (some wa7_0_5), .pointer (some wa7_0_6)]⟩))], 145, none⟩, ⟨.pointer (some wa7_0_5), [(Vl (Vs w.1))], 27, none⟩, (Rw (Ki .i64) 3 (Vs w.1) out.2.2.2.2.1), ⟨.pointer (some wa7_0_6), [(Vl (Vs w.2))], 27, none⟩, (Rw (Ki .i64) 3 (Vs w.2) out.2.2.2.2.2)]) := by
 intro k
 induction k with
 | zero => intro wa3 wa4 wa5 wa5_0 wa6 wa6_0_0 wa7 wa7_0_5 wa7_0_5_0 wa7_0_6 wa7_0_6_0 a0 a1 a2 a3_0 a4_0 a5_0 a6_0_0_0 a7_0_5_0 a7_0_6_0 out hp; cases hp
 | succ k ih => intro wa3 wa4 wa5 wa5_0 wa6 wa6_0_0 wa7 wa7_0_5 wa7_0_5_0 wa7_0_6 wa7_0_6_0 a0 a1 a2 a3_0 a4_0 a5_0 a6_0_0_0 a7_0_5_0 a7_0_6_0 out hp; exact spec_Walk_1_v2_b_sim ih a0 a1 a2 a3_0 a4_0 a5_0 a6_0_0_0 a7_0_5_0 a7_0_6_0 hp
theorem spec_Walk_1_v2_sim {k : Nat} {wa3 : Addr} {wa4 : Addr} {wa5 : Addr} {wa5_0 : Gs} {wa6 : Addr} {wa6_0_0 : Addr} {wa7 : Addr} {wa7_0_5 : Addr} {wa7_0_5_0 : Gs} {wa7_0_6 : Addr} {wa7_0_6_0 : Gs} (a0 : Int) (a1 : Int) (a2 : Int) (a3_0 : Bool) (a4_0 : Int) (a5_0 : List Bool) (a6_0_0_0 : List ((List Nat) × Nat × Int × Int)) (a7_0_5_0 : List Int) (a7_0_6_0 : List Int) {out : Bool × Int × (List Bool) × (List ((List Nat) × Nat × Int × Int)) × (List Int) × (List Int)} (hp : spec_Walk_1_v2 k a0 a1 a2 a3_0 a4_0 a5_0 a6_0_0_0 a7_0_5_0 a7_0_6_0 = some out) : Sx.Fn Try.prog 81 [(Vi a0), (Vi a1), (Vi a2), (Vp wa3), (Vp wa4), (Vp wa5), (Vp wa6), (Vp wa7), (Vp wa7_0_5), (Vp wa7_0_6)] [⟨.pointer (some wa3), [(Vb a3_0)], 4, none⟩, ⟨.pointer (some wa4), [(Vi a4_0)], 3, none⟩, ⟨.pointer (some wa5), [(Vl (Vs wa5_0))], 63, none⟩, (Rw Kb 4 (Vs wa5_0) a5_0), ⟨.pointer (some wa6), [(Vl (.func (.func 42) #[] ⟨[.pointer (some wa6_0_0)]⟩))], 78, none⟩, ⟨.pointer (some wa6_0_0), [(Sl KT35 a6_0_0_0)], 22, none⟩, ⟨.pointer (some wa7), [(Vl (.func (.func 81) #[] ⟨[.pointer (some wa3), .pointer (some wa4), .pointer (some wa5), .pointer (some wa6), .pointer (some wa7), .pointer (some wa7_0_5), .pointer (some wa7_0_6)]⟩))], 145, none⟩, ⟨.pointer (some wa7_0_5), [(Vl (Vs wa7_0_5_0))], 27, none⟩, (Rw (Ki .i64) 3 (Vs wa7_0_5_0) a7_0_5_0), ⟨.pointer (some wa7_0_6), [(Vl (Vs wa7_0_6_0))], 27, none⟩, (Rw (Ki .i64) 3 (Vs wa7_0_6_0) a7_0_6_0)] (fun w : Gs × Gs => (Vl (.tuple #[]))) (fun w => [⟨.pointer (some wa3), [(Vb out.1)], 4, none⟩, ⟨.pointer (some wa4), [(Vi out.2.1)], 3, none⟩, ⟨.pointer (some wa5), [(Vl (Vs wa5_0))], 63, none⟩, (Rw Kb 4 (Vs wa5_0) out.2.2.1), ⟨.pointer (some wa6), [(Vl (.func (.func 42) #[] ⟨[.pointer (some wa6_0_0)]⟩))], 78, none⟩, ⟨.pointer (some wa6_0_0), [(Sl KT35 out.2.2.2.1)], 22, none⟩, ⟨.pointer (some wa7), [(Vl (.func (.func 81) #[] ⟨[.pointer (some wa3), .pointer (some wa4), .pointer (some wa5), .pointer (some wa6), .pointer (some wa7), .pointer (some wa7_0_5), .pointer (some wa7_0_6)]⟩))], 145, none⟩, ⟨.pointer (some wa7_0_5), [(Vl (Vs w.1))], 27, none⟩, (Rw (Ki .i64) 3 (Vs w.1) out.2.2.2.2.1), ⟨.pointer (some wa7_0_6), [(Vl (Vs w.2))], 27, none⟩, (Rw (Ki .i64) 3 (Vs w.2) out.2.2.2.2.2)]) := spec_Walk_1_v2_simA k wa3 wa4 wa5 wa5_0 wa6 wa6_0_0 wa7 wa7_0_5 wa7_0_5_0 wa7_0_6 wa7_0_6_0 a0 a1 a2 a3_0 a4_0 a5_0 a6_0_0_0 a7_0_5_0 a7_0_6_0 out hp

def spec_Walk_1_j3 (k : Nat) (a4_0 : Int) (a5_0 : List Bool) (a6_0_0_0 : List ((List Nat) × Nat × Int × Int)) (a0 : Int) (recf : Int → Int → Int → Bool → Int → (List Bool) → (List ((List Nat) × Nat × Int × Int)) → Option (Bool × Int × (List Bool) × (List ((List Nat) × Nat × Int × Int)) × (List Int) × (List Int))) (a2 : Int) (a3_0 : Bool) (x3 : Bool) : Option (Bool × Int × (List Bool) × (List ((List Nat) × Nat × Int × Int)) × (List Int) × (List Int)) :=
 br x3
  (some (false, a4_0, a5_0, a6_0_0_0, [], []))
  ((idx a5_0 a0) >>= fun r37 =>
  (spec_VWalk_1 k a0 a6_0_0_0) >>= fun r41 =>
  (recf r41.2.1 a0 (iadd .i64 a2 1) a3_0 a4_0 (a5_0.set a0.toNat true) r41.1) >>= fun r49 =>
  (apd 8 r49.2.2.2.2.1 ([a0])) >>= fun r53 =>
  (apd 8 r49.2.2.2.2.2 ([a2])) >>= fun r57 =>
  (spec_Walk_1_v2 k r41.2.2 a0 (iadd .i64 a2 1) r49.1 r49.2.1 r49.2.2.1 r49.2.2.2.1 r53 r57) >>= fun r63 =>
  some (r63.1, r63.2.1, r63.2.2.1, r63.2.2.2.1, r63.2.2.2.2.1, r63.2.2.2.2.2))
def spec_Walk_1_j2 (k : Nat) (a4_0 : Int) (a5_0 : List Bool) (a6_0_0_0 : List ((List Nat) × Nat × Int × Int)) (a0 : Int) (recf : Int → Int → Int → Bool → Int → (List Bool) → (List ((List Nat) × Nat × Int × Int)) → Option (Bool × Int × (List Bool) × (List ((List Nat) × Nat × Int × Int)) × (List Int) × (List Int))) (a2 : Int) (a3_0 : Bool) (x2 : Bool) : Option (Bool × Int × (List Bool) × (List ((List Nat) × Nat × Int × Int)) × (List Int) × (List Int)) :=
 br x2
  (spec_Walk_1_j3 k a4_0 a5_0 a6_0_0_0 a0 recf a2 a3_0 true)
  ((idx a5_0 a0) >>= fun r32 =>
  spec_Walk_1_j3 k a4_0 a5_0 a6_0_0_0 a0 recf a2 a3_0 r32)
def spec_Walk_1_j1 (k : Nat) (a3_0 : Bool) (a4_0 : Int) (a5_0 : List Bool) (a6_0_0_0 : List ((List Nat) × Nat × Int × Int)) (a0 : Int) (a1 : Int) (recf : Int → Int → Int → Bool → Int → (List Bool) → (List ((List Nat) × Nat × Int × Int)) → Option (Bool × Int × (List Bool) × (List ((List Nat) × Nat × Int × Int)) × (List Int) × (List Int))) (a2 : Int) (x1 : Bool) : Option (Bool × Int × (List Bool) × (List ((List Nat) × Nat × Int × Int)) × (List Int) × (List Int)) :=
 br x1
  (some (a3_0, a4_0, a5_0, a6_0_0_0, [], []))
  (br (decide (a0 ≤ a1))
   (spec_Walk_1_j2 k a4_0 a5_0 a6_0_0_0 a0 recf a2 a3_0 true)
   (spec_Walk_1_j2 k a4_0 a5_0 a6_0_0_0 a0 recf a2 a3_0 (decide (a4_0 ≤ a0))))
def spec_Walk_1_b (recf : Int → Int → Int → Bool → Int → (List Bool) → (List ((List Nat) × Nat × Int × Int)) → Option (Bool × Int × (List Bool) × (List ((List Nat) × Nat × Int × Int)) × (List Int) × (List Int))) (k : Nat) (a0 : Int) (a1 : Int) (a2 : Int) (a3_0 : Bool) (a4_0 : Int) (a5_0 : List Bool) (a6_0_0_0 : List ((List Nat) × Nat × Int × Int)) : Option (Bool × Int × (List Bool) × (List ((List Nat) × Nat × Int × Int)) × (List Int) × (List Int)) :=
 br (decide (a0 = (-1)))
  (spec_Walk_1_j1 k a3_0 a4_0 a5_0 a6_0_0_0 a0 a1 recf a2 true)
  (spec_Walk_1_j1 k a3_0 a4_0 a5_0 a6_0_0_0 a0 a1 recf a2 (!a3_0))
def spec_Walk_1 : Nat → Int → Int → Int → Bool → Int → (List Bool) → (List ((List Nat) × Nat × Int × Int)) → Option (Bool × Int × (List Bool) × (List ((List Nat) × Nat × Int × Int)) × (List Int) × (List Int))
 | 0 => fun _ _ _ _ _ _ _ => none
 | k + 1 => fun a0 a1 a2 a3_0 a4_0 a5_0 a6_0_0_0 => spec_Walk_1_b (spec_Walk_1 k) k a0 a1 a2 a3_0 a4_0 a5_0 a6_0_0_0

theorem spec_Walk_1_b_sim {recf : Int → Int → Int → Bool → Int → (List Bool) → (List ((List Nat) × Nat × Int × Int)) → Option (Bool × Int × (List Bool) × (List ((List Nat) × Nat × Int × Int)) × (List Int) × (List Int))} (hrec : ∀ (wa3 : Addr) (wa4 : Addr) (wa5 : Addr) (wa5_0 : Gs) (wa6 : Addr) (wa6_0_0 : Addr) (wa7 : Addr) (wa7_0_5 : Addr) (wa7_0_6 : Addr) (a0 : Int) (a1 : Int) (a2 : Int) (a3_0 : Bool) (a4_0 : Int) (a5_0 : List Bool) (a6_0_0_0 : List ((List Nat) × Nat × Int × Int)) (out : Bool × Int × (List Bool) × (List ((List Nat) × Nat × Int × Int)) × (List Int) × (List Int)), recf a0 a1 a2 a3_0 a4_0 a5_0 a6_0_0_0 = some out → Sx.Fn Try.prog 81 [(Vi a0), (Vi a1), (Vi a2), (Vp wa3), (Vp wa4), (Vp wa5), (Vp wa6), (Vp wa7), (Vp wa7_0_5), (Vp wa7_0_6)] [⟨.pointer (some wa3), [(Vb a3_0)], 4, none⟩, ⟨.pointer (some wa4), [(Vi a4_0)], 3, none⟩, ⟨.pointer (some wa5), [(Vl (Vs wa5_0))], 63, none⟩, (Rw Kb 4 (Vs wa5_0) a5_0), ⟨.pointer (some wa6), [(Vl (.func (.func 42) #[] ⟨[.pointer (some wa6_0_0)]⟩))], 78, none⟩, ⟨.pointer (some wa6_0_0), [(Sl KT35 a6_0_0_0)], 22, none⟩, ⟨.pointer (some wa7), [(Vl (.func (.func 81) #[] ⟨[.pointer (some wa3), .pointer (some wa4), .pointer (some wa5), .pointer (some wa6), .pointer (some wa7), .pointer (some wa7_0_5), .pointer (some wa7_0_6)]⟩))], 145, none⟩, ⟨.pointer (some wa7_0_5), [Vn], 27, none⟩, ⟨.pointer (some wa7_0_6), [Vn], 27, none⟩] (fun w : Gs × Gs => (Vl (.tuple #[]))) (fun w => [⟨.pointer (some wa3), [(Vb out.1)], 4, none⟩, ⟨.pointer (some wa4), [(Vi out.2.1)], 3, none⟩, ⟨.pointer (some wa5), [(Vl (Vs wa5_0))], 63, none⟩, (Rw Kb 4 (Vs wa5_0) out.2.2.1), ⟨.pointer (some wa6), [(Vl (.func (.func 42) #[] ⟨[.pointer (some wa6_0_0)]⟩))], 78, none⟩, ⟨.pointer (some wa6_0_0), [(Sl KT35 out.2.2.2.1)], 22, none⟩, ⟨.pointer (some wa7), [(Vl (.func (.func 81) #[] ⟨[.pointer (some wa3), .pointer (some wa4), .pointer (some wa5), .pointer (some wa6), .pointer (some wa7), .pointer (some wa7_0_5), .pointer (some wa7_0_6)]⟩))], 145, none⟩, ⟨.pointer (some wa7_0_5), [(Vl (Vs w.1))], 27, none⟩, (Rw (Ki .i64) 3 (Vs w.1) out.2.2.2.2.1), ⟨.pointer (some wa7_0_6), [(Vl (Vs w.2))], 27, none⟩, (Rw (Ki .i64) 3 (Vs w.2) out.2.2.2.2.2)])) {k : Nat} {wa3 : Addr} {wa4 : Addr} {wa5 : Addr} {wa5_0 : Gs} {wa6 : Addr} {wa6_0_0 : Addr} {wa7 : Addr} {wa7_0_5 : Addr} {wa7_0_6 : Addr} (a0 : Int) (a1 : Int) (a2 : Int) (a3_0 : Bool) (a4_0 : Int) (a5_0 : List Bool) (a6_0_0_0 : List ((List Nat) × Nat × Int × Int)) {out : Bool × Int × (List Bool) × (List ((List Nat) × Nat × Int × Int)) × (List Int) × (List Int)} (hp : spec_Walk_1_b recf k a0 a1 a2 a3_0 a4_0 a5_0 a6_0_0_0 = some out) : Sx.Fn Try.prog 81 [(Vi a0), (Vi a1), (Vi a2), (Vp wa3), (Vp wa4), (Vp wa5), (Vp wa6), (Vp wa7), (Vp wa7_0_5), (Vp wa7_0_6)] [⟨.pointer (some wa3), [(Vb a3_0)], 4, none⟩, ⟨.pointer (some wa4), [(Vi a4_0)], 3, none⟩, ⟨.pointer (some wa5), [(Vl (Vs wa5_0))], 63, none⟩, (Rw Kb 4 (Vs wa5_0) a5_0), ⟨.pointer (some wa6), [(Vl (.func (.func 42) #[] ⟨[.pointer (some wa6_0_0)]⟩))], 78, none⟩, ⟨.pointer (some wa6_0_0), [(Sl KT35 a6_0_0_0)], 22, none⟩, ⟨.pointer (some wa7), [(Vl (.func (.func 81) #[] ⟨[.pointer (some wa3), .pointer (some wa4), .pointer (some wa5), .pointer (some wa6), .pointer (some wa7), .pointer (some wa7_0_5), .pointer (some wa7_0_6)]⟩))], 145, none⟩, ⟨.pointer (some wa7_0_5), [Vn], 27, none⟩, ⟨.pointer (some wa7_0_6), [Vn], 27, none⟩] (fun w : Gs × Gs => (Vl (.tuple #[]))) (fun w => [⟨.pointer (some wa3), [(Vb out.1)], 4, none⟩, ⟨.pointer (some wa4), [(Vi out.2.1)], 3, none⟩, ⟨.pointer (some wa5), [(Vl (Vs wa5_0))], 63, none⟩, (Rw Kb 4 (Vs wa5_0) out.2.2.1), ⟨.pointer (some wa6), [(Vl (.func (.func 42) #[] ⟨[.pointer (some wa6_0_0)]⟩))], 78, none⟩, ⟨.pointer (some wa6_0_0), [(Sl KT35 out.2.2.2.1)], 22, none⟩, ⟨.pointer (some wa7), [(Vl (.func (.func 81) #[] ⟨[.pointer (some wa3), .pointer (some wa4), .pointer (some wa5), .pointer (some wa6), .pointer (some wa7), .pointer (some wa7_0_5), .pointer (some wa7_0_6)]⟩))], 145, none⟩, ⟨.pointer (some wa7_0_5), [(Vl (Vs w.1))], 27, none⟩, (Rw (Ki .i64) 3 (Vs w.1) out.2.2.2.2.1), ⟨.pointer (some wa7_0_6), [(Vl (Vs w.2))], 27, none⟩, (Rw (Ki .i64) 3 (Vs w.2) out.2.2.2.2.2)]) := by
 unfold spec_Walk_1_b at hp
 refine fn_of Try.func81 rfl Try.ntmps81 rfl fun E hM => ?_
 refine cx_seq' fun K1 hK1 => ?_
 refine cr fun K2 hK2 => ?_
 refine s0 (rd_move' rfl) ?_
 refine s0 (rd_bin' rfl rfl eg_int ru_eql) ?_
 refine s0 (rd_move' rfl) ?_
 refine sx_cutn' 3 (fun (v1 : Bool) => (⟨64, [], [(0, (Vi a0)), (1, (Vi a1)), (2, (Vi a2)), (3, (Vp wa3)), (4, (Vp wa4)), (5, (Vp wa5)), (6, (Vp wa6)), (7, (Vp wa7)), (8, (Vp wa7_0_5)), (9, (Vp wa7_0_6)), (20, (Vb v1))], [⟨.pointer (some wa3), [(Vb a3_0)], 4, none⟩, ⟨.pointer (some wa4), [(Vi a4_0)], 3, none⟩, ⟨.pointer (some wa5), [(Vl (Vs wa5_0))], 63, none⟩, (Rw Kb 4 (Vs wa5_0) a5_0), ⟨.pointer (some wa6), [(Vl (.func (.func 42) #[] ⟨[.pointer (some wa6_0_0)]⟩))], 78, none⟩, ⟨.pointer (some wa6_0_0), [(Sl KT35 a6_0_0_0)], 22, none⟩, ⟨.pointer (some wa7), [(Vl (.func (.func 81) #[] ⟨[.pointer (some wa3), .pointer (some wa4), .pointer (some wa5), .pointer (some wa6), .pointer (some wa7), .pointer (some wa7_0_5), .pointer (some wa7_0_6)]⟩))], 145, none⟩, ⟨.pointer (some wa7_0_5), [Vn], 27, none⟩, ⟨.pointer (some wa7_0_6), [Vn], 27, none⟩]⟩ : St)) (fun (v1 : Bool) => spec_Walk_1_j1 k a3_0 a4_0 a5_0 a6_0_0_0 a0 a1 recf a2 v1 = some out) ?_ ?_
 ·rintro x1 hp
  replace hp : spec_Walk_1_j1 k a3_0 a4_0 a5_0 a6_0_0_0 a0 a1 recf a2 x1 = some out := hp
  unfold spec_Walk_1_j1 at hp
  refine nk hK2 ?_
  refine cx_cond' rfl (fun h2 => ?_) (fun h2 => ?_)
  ·replace hp := (br_t h2).symm.trans hp
   refine cx_retc' ?_
   replace hp := Option.some.inj hp
   subst hp
   refine tx_nilrow' (Ki .i64) 3 ?_
   refine tx_nilrow' (Ki .i64) 3 ?_
   refine tx_pick' (L' := []) (H' := [⟨.pointer (some wa3), [(Vb a3_0)], 4, none⟩, ⟨.pointer (some wa4), [(Vi a4_0)], 3, none⟩, ⟨.pointer (some wa5), [(Vl (Vs wa5_0))], 63, none⟩, (Rw Kb 4 (Vs wa5_0) a5_0), ⟨.pointer (some wa6), [(Vl (.func (.func 42) #[] ⟨[.pointer (some wa6_0_0)]⟩))], 78, none⟩, ⟨.pointer (some wa6_0_0), [(Sl KT35 a6_0_0_0)], 22, none⟩, ⟨.pointer (some wa7), [(Vl (.func (.func 81) #[] ⟨[.pointer (some wa3), .pointer (some wa4), .pointer (some wa5), .pointer (some wa6), .pointer (some wa7), .pointer (some wa7_0_5), .pointer (some wa7_0_6)]⟩))], 145, none⟩, ⟨.pointer (some wa7_0_5), [Vn], 27, none⟩, (Rw (Ki .i64) 3 (Vs (none, 0, 0)) []), ⟨.pointer (some wa7_0_6), [Vn], 27, none⟩, (Rw (Ki .i64) 3 (Vs (none, 0, 0)) [])]) [2, 3, 4, 5, 6, 7, 8, 9, 1, 10, 0] sub_nil (by decide) (pick_cons rfl (pick_cons rfl (pick_cons rfl (pick_cons rfl (pick_cons rfl (pick_cons rfl (pick_cons rfl (pick_cons rfl (pick_cons rfl (pick_cons rfl (pick_cons rfl pick_nil))))))))))) ?_
   exact tx_ret0' Try.results81 rfl ((none, 0, 0), (none, 0, 0)) rfl (List.Sublist.refl _)
  replace hp := (br_f h2).symm.trans hp
  refine cx_skip' ?_
  show TX E K1 _
  refine tx_k' hK1 ?_
  refine cx_seq' fun K4 hK4 => ?_
  refine cr fun K5 hK5 => ?_
  refine s0 (rd_move' rfl) ?_
  refine s0 (rd_move' rfl) ?_
  refine s0 (rd_bin' rfl rfl eg_int ru_leq) ?_
  refine s0 (rd_move' rfl) ?_
  refine sx_cutn' 4 (fun (v2 : Bool) => (⟨64, [], [(0, (Vi a0)), (2, (Vi a2)), (3, (Vp wa3)), (5, (Vp wa5)), (6, (Vp wa6)), (7, (Vp wa7)), (8, (Vp wa7_0_5)), (9, (Vp wa7_0_6)), (28, (Vb v2))], [⟨.pointer (some wa3), [(Vb a3_0)], 4, none⟩, ⟨.pointer (some wa5), [(Vl (Vs wa5_0))], 63, none⟩, (Rw Kb 4 (Vs wa5_0) a5_0), ⟨.pointer (some wa6), [(Vl (.func (.func 42) #[] ⟨[.pointer (some wa6_0_0)]⟩))], 78, none⟩, ⟨.pointer (some wa6_0_0), [(Sl KT35 a6_0_0_0)], 22, none⟩, ⟨.pointer (some wa7), [(Vl (.func (.func 81) #[] ⟨[.pointer (some wa3), .pointer (some wa4), .pointer (some wa5), .pointer (some wa6), .pointer (some wa7), .pointer (some wa7_0_5), .pointer (some wa7_0_6)]⟩))], 145, none⟩, ⟨.pointer (some wa4), [(Vi a4_0)], 3, none⟩, ⟨.pointer (some wa7_0_5), [Vn], 27, none⟩, ⟨.pointer (some wa7_0_6), [Vn], 27, none⟩]⟩ : St)) (fun (v2 : Bool) => spec_Walk_1_j2 k a4_0 a5_0 a6_0_0_0 a0 recf a2 a3_0 v2 = some out) ?_ ?_
  ·rintro x2 hp
   replace hp : spec_Walk_1_j2 k a4_0 a5_0 a6_0_0_0 a0 recf a2 a3_0 x2 = some out := hp
   unfold spec_Walk_1_j2 at hp
   refine s0 (rd_move' rfl) ?_
   refine sx_cutn' 5 (fun (v3 : Bool) => (⟨64, [], [(0, (Vi a0)), (2, (Vi a2)), (3, (Vp wa3)), (5, (Vp wa5)), (6, (Vp wa6)), (7, (Vp wa7)), (8, (Vp wa7_0_5)), (9, (Vp wa7_0_6)), (34, (Vb v3))], [⟨.pointer (some wa3), [(Vb a3_0)], 4, none⟩, ⟨.pointer (some wa5), [(Vl (Vs wa5_0))], 63, none⟩, (Rw Kb 4 (Vs wa5_0) a5_0), ⟨.pointer (some wa6), [(Vl (.func (.func 42) #[] ⟨[.pointer (some wa6_0_0)]⟩))], 78, none⟩, ⟨.pointer (some wa6_0_0), [(Sl KT35 a6_0_0_0)], 22, none⟩, ⟨.pointer (some wa7), [(Vl (.func (.func 81) #[] ⟨[.pointer (some wa3), .pointer (some wa4), .pointer (some wa5), .pointer (some wa6), .pointer (some wa7), .pointer (some wa7_0_5), .pointer (some wa7_0_6)]⟩))], 145, none⟩, ⟨.pointer (some wa4), [(Vi a4_0)], 3, none⟩, ⟨.pointer (some wa7_0_5), [Vn], 27, none⟩, ⟨.pointer (some wa7_0_6), [Vn], 27, none⟩]⟩ : St)) (fun (v3 : Bool) => spec_Walk_1_j3 k a4_0 a5_0 a6_0_0_0 a0 recf a2 a3_0 v3 = some out) ?_ ?_
   ·rintro x3 hp
    replace hp : spec_Walk_1_j3 k a4_0 a5_0 a6_0_0_0 a0 recf a2 a3_0 x3 = some out := hp
    unfold spec_Walk_1_j3 at hp
    refine nk hK5 ?_
    refine cx_cond' rfl (fun h5 => ?_) (fun h5 => ?_)
    ·replace hp := (br_t h5).symm.trans hp
     refine cr fun K8 hK8 => ?_
     refine sx_ox' (ox_store' (i := 0) (o := 0) rfl rfl (lv_vl rfl rfl) ⟨rfl, rfl, rfl, rfl⟩ rfl info4 rfl (H' := [⟨.pointer (some wa3), [(Vb false)], 4, none⟩, ⟨.pointer (some wa5), [(Vl (Vs wa5_0))], 63, none⟩, (Rw Kb 4 (Vs wa5_0) a5_0), ⟨.pointer (some wa6), [(Vl (.func (.func 42) #[] ⟨[.pointer (some wa6_0_0)]⟩))], 78, none⟩, ⟨.pointer (some wa6_0_0), [(Sl KT35 a6_0_0_0)], 22, none⟩, ⟨.pointer (some wa7), [(Vl (.func (.func 81) #[] ⟨[.pointer (some wa3), .pointer (some wa4), .pointer (some wa5), .pointer (some wa6), .pointer (some wa7), .pointer (some wa7_0_5), .pointer (some wa7_0_6)]⟩))], 145, none⟩, ⟨.pointer (some wa4), [(Vi a4_0)], 3, none⟩, ⟨.pointer (some wa7_0_5), [Vn], 27, none⟩, ⟨.pointer (some wa7_0_6), [Vn], 27, none⟩]) rfl) (wt_none' rfl) fun _ => ?_
     refine nk hK8 ?_
     refine cx_retc' ?_
     replace hp := Option.some.inj hp
     subst hp
     refine tx_nilrow' (Ki .i64) 3 ?_
     refine tx_nilrow' (Ki .i64) 3 ?_
     refine tx_pick' (L' := []) (H' := [⟨.pointer (some wa3), [(Vb false)], 4, none⟩, ⟨.pointer (some wa4), [(Vi a4_0)], 3, none⟩, ⟨.pointer (some wa5), [(Vl (Vs wa5_0))], 63, none⟩, (Rw Kb 4 (Vs wa5_0) a5_0), ⟨.pointer (some wa6), [(Vl (.func (.func 42) #[] ⟨[.pointer (some wa6_0_0)]⟩))], 78, none⟩, ⟨.pointer (some wa6_0_0), [(Sl KT35 a6_0_0_0)], 22, none⟩, ⟨.pointer (some wa7), [(Vl (.func (.func 81) #[] ⟨[.pointer (some wa3), .pointer (some wa4), .pointer (some wa5), .pointer (some wa6), .pointer (some wa7), .pointer (some wa7_0_5), .pointer (some wa7_0_6)]⟩))], 145, none⟩, ⟨.pointer (some wa7_0_5), [Vn], 27, none⟩, (Rw (Ki .i64) 3 (Vs (none, 0, 0)) []), ⟨.pointer (some wa7_0_6), [Vn], 27, none⟩, (Rw (Ki .i64) 3 (Vs (none, 0, 0)) [])]) [2, 8, 3, 4, 5, 6, 7, 9, 1, 10, 0] sub_nil (by decide) (pick_cons rfl (pick_cons rfl (pick_cons rfl (pick_cons rfl (pick_cons rfl (pick_cons rfl (pick_cons rfl (pick_cons rfl (pick_cons rfl (pick_cons rfl (pick_cons rfl pick_nil))))))))))) ?_
     exact tx_ret0' Try.results81 rfl ((none, 0, 0), (none, 0, 0)) rfl (List.Sublist.refl _)
    replace hp := (br_f h5).symm.trans hp
    refine cx_skip' ?_
    show TX E K4 _
    refine tx_k' hK4 ?_
    refine cr fun K9 hK9 => ?_
    refine s0 (rd_load' (i := 1) (o := 0) rfl ⟨rfl, rfl, rfl, rfl⟩ rfl flat63) ?_
    refine s0 (rd_move' rfl) ?_
    obtain ⟨r37, hr37, hp⟩ := bind_some hp
    refine s0 (rd_atr' (m := 2) rfl rfl rfl rfl hr37 Try.underlying63 info4) ?_
    refine sx_ox' (ox_storer' (m := 2) (i := a0) (j := 0) (x' := true) rfl rfl (lv_vl rfl rfl) rfl rfl hr37 rfl rfl rfl info4 rfl (H' := [⟨.pointer (some wa3), [(Vb a3_0)], 4, none⟩, ⟨.pointer (some wa5), [(Vl (Vs wa5_0))], 63, none⟩, (Rw Kb 4 (Vs wa5_0) (a5_0.set a0.toNat true)), ⟨.pointer (some wa6), [(Vl (.func (.func 42) #[] ⟨[.pointer (some wa6_0_0)]⟩))], 78, none⟩, ⟨.pointer (some wa6_0_0), [(Sl KT35 a6_0_0_0)], 22, none⟩, ⟨.pointer (some wa7), [(Vl (.func (.func 81) #[] ⟨[.pointer (some wa3), .pointer (some wa4), .pointer (some wa5), .pointer (some wa6), .pointer (some wa7), .pointer (some wa7_0_5), .pointer (some wa7_0_6)]⟩))], 145, none⟩, ⟨.pointer (some wa4), [(Vi a4_0)], 3, none⟩, ⟨.pointer (some wa7_0_5), [Vn], 27, none⟩, ⟨.pointer (some wa7_0_6), [Vn], 27, none⟩]) rfl) (wt_none' rfl) fun _ => ?_
    refine nk hK9 ?_
    refine cr fun K10 hK10 => ?_
    refine s0 (rd_load' (i := 3) (o := 0) rfl ⟨rfl, rfl, rfl, rfl⟩ rfl flat78) ?_
    refine s0 (rd_move' rfl) ?_
    obtain ⟨r41, hr41, hp⟩ := bind_some hp
    refine sx_ox' (ox_callg' (ent_clo' (us := [.pointer (some wa6_0_0)]) rfl Try.func42 isn42 rfl rfl) (spec_VWalk_1_sim _ _ hr41 : Sx.Fn Try.prog 42 [(Vi a0), (Vp wa6_0_0)] [⟨.pointer (some wa6_0_0), [(Sl KT35 a6_0_0_0)], 22, none⟩] (fun x : Unit => (Tu [(Vi r41.2.1), (Vi r41.2.2)])) (fun x => [⟨.pointer (some wa6_0_0), [(Sl KT35 r41.1)], 22, none⟩])) [4] [0, 1, 2, 3, 5, 6, 7, 8] (by decide) (pick_cons rfl pick_nil) (pick_cons rfl (pick_cons rfl (pick_cons rfl (pick_cons rfl (pick_cons rfl (pick_cons rfl (pick_cons rfl (pick_cons rfl pick_nil)))))))) (Hn := fun x : Unit => [⟨.pointer (some wa6_0_0), [(Sl KT35 r41.1)], 22, none⟩, ⟨.pointer (some wa3), [(Vb a3_0)], 4, none⟩, ⟨.pointer (some wa5), [(Vl (Vs wa5_0))], 63, none⟩, (Rw Kb 4 (Vs wa5_0) (a5_0.set a0.toNat true)), ⟨.pointer (some wa6), [(Vl (.func (.func 42) #[] ⟨[.pointer (some wa6_0_0)]⟩))], 78, none⟩, ⟨.pointer (some wa7), [(Vl (.func (.func 81) #[] ⟨[.pointer (some wa3), .pointer (some wa4), .pointer (some wa5), .pointer (some wa6), .pointer (some wa7), .pointer (some wa7_0_5), .pointer (some wa7_0_6)]⟩))], 145, none⟩, ⟨.pointer (some wa4), [(Vi a4_0)], 3, none⟩, ⟨.pointer (some wa7_0_5), [Vn], 27, none⟩, ⟨.pointer (some wa7_0_6), [Vn], 27, none⟩]) (fun _ => rfl) rfl rfl) (wt_none' rfl) fun ⟨⟩ => ?_
    refine s0 (rd_move' rfl) ?_
    refine s0 (rd_extract' rfl rfl) ?_
    refine s0 (rd_extract' rfl rfl) ?_
    refine s0 (rd_assign' rfl) ?_
    refine s0 (rd_assign' rfl) ?_
    refine nk hK10 ?_
    refine cr fun K11 hK11 => ?_
    refine s0 (rd_load' (i := 5) (o := 0) rfl ⟨rfl, rfl, rfl, rfl⟩ rfl flat145) ?_
    refine s0 (rd_move' rfl) ?_
    refine s0 (rd_move' rfl) ?_
    refine s0 (rd_move' rfl) ?_
    refine s0 (rd_bin' rfl rfl eg_int ru_add) ?_
    obtain ⟨r49, hr49, hp⟩ := bind_some hp
    refine sx_ox' (ox_callg' (ent_clo' (us := [.pointer (some wa3), .pointer (some wa4), .pointer (some wa5), .pointer (some wa6), .pointer (some wa7), .pointer (some wa7_0_5), .pointer (some wa7_0_6)]) rfl Try.func81 isn81 rfl rfl) (hrec _ _ _ _ _ _ _ _ _ _ _ _ _ _ _ _ _ hr49 : Sx.Fn Try.prog 81 [(Vi r41.2.1), (Vi a0), (Vi (iadd .i64 a2 1)), (Vp wa3), (Vp wa4), (Vp wa5), (Vp wa6), (Vp wa7), (Vp wa7_0_5), (Vp wa7_0_6)] [⟨.pointer (some wa3), [(Vb a3_0)], 4, none⟩, ⟨.pointer (some wa4), [(Vi a4_0)], 3, none⟩, ⟨.pointer (some wa5), [(Vl (Vs wa5_0))], 63, none⟩, (Rw Kb 4 (Vs wa5_0) (a5_0.set a0.toNat true)), ⟨.pointer (some wa6), [(Vl (.func (.func 42) #[] ⟨[.pointer (some wa6_0_0)]⟩))], 78, none⟩, ⟨.pointer (some wa6_0_0), [(Sl KT35 r41.1)], 22, none⟩, ⟨.pointer (some wa7), [(Vl (.func (.func 81) #[] ⟨[.pointer (some wa3), .pointer (some wa4), .pointer (some wa5), .pointer (some wa6), .pointer (some wa7), .pointer (some wa7_0_5), .pointer (some wa7_0_6)]⟩))], 145, none⟩, ⟨.pointer (some wa7_0_5), [Vn], 27, none⟩, ⟨.pointer (some wa7_0_6), [Vn], 27, none⟩] (fun x : Gs × Gs => (Vl (.tuple #[]))) (fun x => [⟨.pointer (some wa3), [(Vb r49.1)], 4, none⟩, ⟨.pointer (some wa4), [(Vi r49.2.1)], 3, none⟩, ⟨.pointer (some wa5), [(Vl (Vs wa5_0))], 63, none⟩, (Rw Kb 4 (Vs wa5_0) r49.2.2.1), ⟨.pointer (some wa6), [(Vl (.func (.func 42) #[] ⟨[.pointer (some wa6_0_0)]⟩))], 78, none⟩, ⟨.pointer (some wa6_0_0), [(Sl KT35 r49.2.2.2.1)], 22, none⟩, ⟨.pointer (some wa7), [(Vl (.func (.func 81) #[] ⟨[.pointer (some wa3), .pointer (some wa4), .pointer (some wa5), .pointer (some wa6), .pointer (some wa7), .pointer (some wa7_0_5), .pointer (some wa7_0_6)]⟩))], 145, none⟩, ⟨.pointer (some wa7_0_5), [(Vl (Vs x.1))], 27, none⟩, (Rw (Ki .i64) 3 (Vs x.1) r49.2.2.2.2.1), ⟨.pointer (some wa7_0_6), [(Vl (Vs x.2))], 27, none⟩, (Rw (Ki .i64) 3 (Vs x.2) r49.2.2.2.2.2)])) [1, 6, 2, 3, 4, 0, 5, 7, 8] [] (by decide) (pick_cons rfl (pick_cons rfl (pick_cons rfl (pick_cons rfl (pick_cons rfl (pick_cons rfl (pick_cons rfl (pick_cons rfl (pick_cons rfl pick_nil))))))))) pick_nil (Hn := fun x : Gs × Gs => [⟨.pointer (some wa3), [(Vb r49.1)], 4, none⟩, ⟨.pointer (some wa4), [(Vi r49.2.1)], 3, none⟩, ⟨.pointer (some wa5), [(Vl (Vs wa5_0))], 63, none⟩, (Rw Kb 4 (Vs wa5_0) r49.2.2.1), ⟨.pointer (some wa6), [(Vl (.func (.func 42) #[] ⟨[.pointer (some wa6_0_0)]⟩))], 78, none⟩, ⟨.pointer (some wa6_0_0), [(Sl KT35 r49.2.2.2.1)], 22, none⟩, ⟨.pointer (some wa7), [(Vl (.func (.func 81) #[] ⟨[.pointer (some wa3), .pointer (some wa4), .pointer (some wa5), .pointer (some wa6), .pointer (some wa7), .pointer (some wa7_0_5), .pointer (some wa7_0_6)]⟩))], 145, none⟩, ⟨.pointer (some wa7_0_5), [(Vl (Vs x.1))], 27, none⟩, (Rw (Ki .i64) 3 (Vs x.1) r49.2.2.2.2.1), ⟨.pointer (some wa7_0_6), [(Vl (Vs x.2))], 27, none⟩, (Rw (Ki .i64) 3 (Vs x.2) r49.2.2.2.2.2)]) (fun _ => rfl) rfl rfl) (wt_none' rfl) fun ⟨g49, gz2⟩ => ?_
    refine nk hK11 ?_
    refine cx_seq' fun K12 hK12 => ?_
    refine cx_plana' [wa7_0_6.block] [(3, 1), (7, 1), (8, 1), (9, 2)] [(0, 1), (1, 1), (4, 2), (5, 2)] 6 #[true, true, false, false, true, true, false, false, false, false] mixed (by kernel_rfl) ?_
    refine px_rd' rfl (rd_load' (i := 7) (o := 0) rfl ⟨rfl, rfl, rfl, rfl⟩ rfl flat27) rfl rfl (wt_none' rfl) ?_
    refine px_rd' rfl (rd_move' rfl) rfl rfl (wt_none' rfl) ?_
    refine px_rb' rfl (rb_load' (i := 9) (o := 0) rfl ⟨rfl, rfl, rfl, rfl⟩ rfl flat27 (by simp)) rfl rfl (wt_none' rfl) ?_
    refine px_rb' rfl (rb_move' rfl) rfl rfl (wt_none' rfl) ?_
    refine px_nil' ?_
    show AX E _ _ _ _ _ _ _ _
    obtain ⟨r53, hr53, hp⟩ := bind_some hp
    obtain ⟨r57, hr57, hp⟩ := bind_some hp
    refine ax_node (f' := 0) #[true, true, true, true, true, true, true, true, true, true] (fun (v12 : Gs × Gs) => (⟨64, [], [(0, (Vi a0)), (2, (Vi a2)), (7, (Vp wa7)), (9, (Vp wa7_0_6)), (14, (Vi r41.2.2))], [⟨.pointer (some wa7), [(Vl (.func (.func 81) #[] ⟨[.pointer (some wa3), .pointer (some wa4), .pointer (some wa5), .pointer (some wa6), .pointer (some wa7), .pointer (some wa7_0_5), .pointer (some wa7_0_6)]⟩))], 145, none⟩, ⟨.pointer (some wa3), [(Vb r49.1)], 4, none⟩, ⟨.pointer (some wa4), [(Vi r49.2.1)], 3, none⟩, ⟨.pointer (some wa5), [(Vl (Vs wa5_0))], 63, none⟩, (Rw Kb 4 (Vs wa5_0) r49.2.2.1), ⟨.pointer (some wa6), [(Vl (.func (.func 42) #[] ⟨[.pointer (some wa6_0_0)]⟩))], 78, none⟩, ⟨.pointer (some wa6_0_0), [(Sl KT35 r49.2.2.2.1)], 22, none⟩, ⟨.pointer (some wa7_0_5), [(Vl (Vs v12.1))], 27, none⟩, (Rw (Ki .i64) 3 (Vs v12.1) r53), ⟨.pointer (some wa7_0_6), [(Vl (Vs v12.2))], 27, none⟩, (Rw (Ki .i64) 3 (Vs v12.2) r57)]⟩ : St)) ?_ ?_
    ·rintro ⟨g9012, g9013⟩
     refine ax_nil (by kernel_rfl) ?_
     show TX E K12 _
     refine tx_k' hK12 ?_
     refine cx_region' ?_
     refine s0 (rd_load' (i := 0) (o := 0) rfl ⟨rfl, rfl, rfl, rfl⟩ rfl flat145) ?_
     refine s0 (rd_move' rfl) ?_
     refine s0 (rd_move' rfl) ?_
     refine s0 (rd_move' rfl) ?_
     refine s0 (rd_bin' rfl rfl eg_int ru_add) ?_
     obtain ⟨r63, hr63, hp⟩ := bind_some hp
     refine sx_ox' (ox_callg' (ent_clo' (us := [.pointer (some wa3), .pointer (some wa4), .pointer (some wa5), .pointer (some wa6), .pointer (some wa7), .pointer (some wa7_0_5), .pointer (some wa7_0_6)]) rfl Try.func81 isn81 rfl rfl) (spec_Walk_1_v2_sim _ _ _ _ _ _ _ _ _ hr63 : Sx.Fn Try.prog 81 [(Vi r41.2.2), (Vi a0), (Vi (iadd .i64 a2 1)), (Vp wa3), (Vp wa4), (Vp wa5), (Vp wa6), (Vp wa7), (Vp wa7_0_5), (Vp wa7_0_6)] [⟨.pointer (some wa3), [(Vb r49.1)], 4, none⟩, ⟨.pointer (some wa4), [(Vi r49.2.1)], 3, none⟩, ⟨.pointer (some wa5), [(Vl (Vs wa5_0))], 63, none⟩, (Rw Kb 4 (Vs wa5_0) r49.2.2.1), ⟨.pointer (some wa6), [(Vl (.func (.func 42) #[] ⟨[.pointer (some wa6_0_0)]⟩))], 78, none⟩, ⟨.pointer (some wa6_0_0), [(Sl KT35 r49.2.2.2.1)], 22, none⟩, ⟨.pointer (some wa7), [(Vl (.func (.func 81) #[] ⟨[.pointer (some wa3), .pointer (some wa4), .pointer (some wa5), .pointer (some wa6), .pointer (some wa7), .pointer (some wa7_0_5), .pointer (some wa7_0_6)]⟩))], 145, none⟩, ⟨.pointer (some wa7_0_5), [(Vl (Vs g9012))], 27, none⟩, (Rw (Ki .i64) 3 (Vs g9012) r53), ⟨.pointer (some wa7_0_6), [(Vl (Vs g9013))], 27, none⟩, (Rw (Ki .i64) 3 (Vs g9013) r57)] (fun x : Gs × Gs => (Vl (.tuple #[]))) (fun x => [⟨.pointer (some wa3), [(Vb r63.1)], 4, none⟩, ⟨.pointer (some wa4), [(Vi r63.2.1)], 3, none⟩, ⟨.pointer (some wa5), [(Vl (Vs wa5_0))], 63, none⟩, (Rw Kb 4 (Vs wa5_0) r63.2.2.1), ⟨.pointer (some wa6), [(Vl (.func (.func 42) #[] ⟨[.pointer (some wa6_0_0)]⟩))], 78, none⟩, ⟨.pointer (some wa6_0_0), [(Sl KT35 r63.2.2.2.1)], 22, none⟩, ⟨.pointer (some wa7), [(Vl (.func (.func 81) #[] ⟨[.pointer (some wa3), .pointer (some wa4), .pointer (some wa5), .pointer (some wa6), .pointer (some wa7), .pointer (some wa7_0_5), .pointer (some wa7_0_6)]⟩))], 145, none⟩, ⟨.pointer (some wa7_0_5), [(Vl (Vs x.1))], 27, none⟩, (Rw (Ki .i64) 3 (Vs x.1) r63.2.2.2.2.1), ⟨.pointer (some wa7_0_6), [(Vl (Vs x.2))], 27, none⟩, (Rw (Ki .i64) 3 (Vs x.2) r63.2.2.2.2.2)])) [1, 2, 3, 4, 5, 6, 0, 7, 8, 9, 10] [] (by decide) (pick_cons rfl (pick_cons rfl (pick_cons rfl (pick_cons rfl (pick_cons rfl (pick_cons rfl (pick_cons rfl (pick_cons rfl (pick_cons rfl (pick_cons rfl (pick_cons rfl pick_nil))))))))))) pick_nil (Hn := fun x : Gs × Gs => [⟨.pointer (some wa3), [(Vb r63.1)], 4, none⟩, ⟨.pointer (some wa4), [(Vi r63.2.1)], 3, none⟩, ⟨.pointer (some wa5), [(Vl (Vs wa5_0))], 63, none⟩, (Rw Kb 4 (Vs wa5_0) r63.2.2.1), ⟨.pointer (some wa6), [(Vl (.func (.func 42) #[] ⟨[.pointer (some wa6_0_0)]⟩))], 78, none⟩, ⟨.pointer (some wa6_0_0), [(Sl KT35 r63.2.2.2.1)], 22, none⟩, ⟨.pointer (some wa7), [(Vl (.func (.func 81) #[] ⟨[.pointer (some wa3), .pointer (some wa4), .pointer (some wa5), .pointer (some wa6), .pointer (some wa7), .pointer (some wa7_0_5), .pointer (some wa7_0_6)]⟩))], 145, none⟩, ⟨.pointer (some wa7_0_5), [(Vl (Vs x.1))], 27, none⟩, (Rw (Ki .i64) 3 (Vs x.1) r63.2.2.2.2.1), ⟨.pointer (some wa7_0_6), [(Vl (Vs x.2))], 27, none⟩, (Rw (Ki .i64) 3 (Vs x.2) r63.2.2.2.2.2)]) (fun _ => rfl) rfl rfl) (wt_none' rfl) fun ⟨g63, gz1⟩ => ?_
     refine sx_nil' ?_
     replace hp := Option.some.inj hp
     subst hp
     refine tx_pick' (L' := []) (H' := [⟨.pointer (some wa3), [(Vb r63.1)], 4, none⟩, ⟨.pointer (some wa4), [(Vi r63.2.1)], 3, none⟩, ⟨.pointer (some wa5), [(Vl (Vs wa5_0))], 63, none⟩, (Rw Kb 4 (Vs wa5_0) r63.2.2.1), ⟨.pointer (some wa6), [(Vl (.func (.func 42) #[] ⟨[.pointer (some wa6_0_0)]⟩))], 78, none⟩, ⟨.pointer (some wa6_0_0), [(Sl KT35 r63.2.2.2.1)], 22, none⟩, ⟨.pointer (some wa7), [(Vl (.func (.func 81) #[] ⟨[.pointer (some wa3), .pointer (some wa4), .pointer (some wa5), .pointer (some wa6), .pointer (some wa7), .pointer (some wa7_0_5), .pointer (some wa7_0_6)]⟩))], 145, none⟩, ⟨.pointer (some wa7_0_5), [(Vl (Vs g63))], 27, none⟩, (Rw (Ki .i64) 3 (Vs g63) r63.2.2.2.2.1), ⟨.pointer (some wa7_0_6), [(Vl (Vs gz1))], 27, none⟩, (Rw (Ki .i64) 3 (Vs gz1) r63.2.2.2.2.2)]) [0, 1, 2, 3, 4, 5, 6, 7, 8, 9, 10] sub_nil (by decide) (pick_cons rfl (pick_cons rfl (pick_cons rfl (pick_cons rfl (pick_cons rfl (pick_cons rfl (pick_cons rfl (pick_cons rfl (pick_cons rfl (pick_cons rfl (pick_cons rfl pick_nil))))))))))) ?_
     exact tx_end0' Try.results81 rfl (g63, gz1) rfl (List.Sublist.refl _)
    intro hN9
    refine ax_node (f' := 1) #[true, true, true, true, true, true, true, true, true, false] (fun (v11 : Gs × Gs) => (⟨64, [], [(0, (Vi a0)), (2, (Vi a2)), (7, (Vp wa7)), (9, (Vp wa7_0_6)), (14, (Vi r41.2.2)), (57, (Vl (Vs v11.2)))], [⟨.pointer (some wa7), [(Vl (.func (.func 81) #[] ⟨[.pointer (some wa3), .pointer (some wa4), .pointer (some wa5), .pointer (some wa6), .pointer (some wa7), .pointer (some wa7_0_5), .pointer (some wa7_0_6)]⟩))], 145, none⟩, ⟨.pointer (some wa3), [(Vb r49.1)], 4, none⟩, ⟨.pointer (some wa4), [(Vi r49.2.1)], 3, none⟩, ⟨.pointer (some wa5), [(Vl (Vs wa5_0))], 63, none⟩, (Rw Kb 4 (Vs wa5_0) r49.2.2.1), ⟨.pointer (some wa6), [(Vl (.func (.func 42) #[] ⟨[.pointer (some wa6_0_0)]⟩))], 78, none⟩, ⟨.pointer (some wa6_0_0), [(Sl KT35 r49.2.2.2.1)], 22, none⟩, ⟨.pointer (some wa7_0_5), [(Vl (Vs v11.1))], 27, none⟩, (Rw (Ki .i64) 3 (Vs v11.1) r53), ⟨.pointer (some wa7_0_6), [(Vl (Vs gz2))], 27, none⟩, (Rw (Ki .i64) 3 (Vs v11.2) r57)]⟩ : St)) ?_ ?_
    ·rintro ⟨g9010, g9011⟩
     refine ax_all (i := 9) (is := []) (by kernel_rfl) (all_cons ?_ all_nil)
     ·refine nx_ox (last := #[true, true, true, true, true, true, true, true, true, true]) rfl (ox_store' (i := 9) (o := 0) rfl rfl (lv_vl rfl rfl) ⟨rfl, rfl, rfl, rfl⟩ rfl info27 rfl (H' := [⟨.pointer (some wa7), [(Vl (.func (.func 81) #[] ⟨[.pointer (some wa3), .pointer (some wa4), .pointer (some wa5), .pointer (some wa6), .pointer (some wa7), .pointer (some wa7_0_5), .pointer (some wa7_0_6)]⟩))], 145, none⟩, ⟨.pointer (some wa3), [(Vb r49.1)], 4, none⟩, ⟨.pointer (some wa4), [(Vi r49.2.1)], 3, none⟩, ⟨.pointer (some wa5), [(Vl (Vs wa5_0))], 63, none⟩, (Rw Kb 4 (Vs wa5_0) r49.2.2.1), ⟨.pointer (some wa6), [(Vl (.func (.func 42) #[] ⟨[.pointer (some wa6_0_0)]⟩))], 78, none⟩, ⟨.pointer (some wa6_0_0), [(Sl KT35 r49.2.2.2.1)], 22, none⟩, ⟨.pointer (some wa7_0_5), [(Vl (Vs g9010))], 27, none⟩, (Rw (Ki .i64) 3 (Vs g9010) r53), ⟨.pointer (some wa7_0_6), [(Vl (Vs g9011))], 27, none⟩, (Rw (Ki .i64) 3 (Vs g9011) r57)]) rfl) rfl (bs_cons (m := 9) rfl rfl rfl bs_nil) (wt_none' rfl) rfl fun _ => ?_
      exact tx_pick' [0, 1, 2, 3, 4, 5, 6, 7, 8, 9, 10] (sub_cons rfl (sub_cons rfl (sub_cons rfl (sub_cons rfl (sub_cons rfl sub_nil))))) (by decide) (pick_cons rfl (pick_cons rfl (pick_cons rfl (pick_cons rfl (pick_cons rfl (pick_cons rfl (pick_cons rfl (pick_cons rfl (pick_cons rfl (pick_cons rfl (pick_cons rfl pick_nil))))))))))) (hN9 (g9010, g9011))
    intro hN8
    refine ax_node (f' := 2) #[true, true, true, true, true, true, true, true, false, false] (fun (v10 : Gs × Gs) => (⟨64, [], [(0, (Vi a0)), (2, (Vi a2)), (7, (Vp wa7)), (8, (Vp wa7_0_5)), (9, (Vp wa7_0_6)), (14, (Vi r41.2.2)), (53, (Vl (Vs v10.1))), (57, (Vl (Vs v10.2)))], [⟨.pointer (some wa7), [(Vl (.func (.func 81) #[] ⟨[.pointer (some wa3), .pointer (some wa4), .pointer (some wa5), .pointer (some wa6), .pointer (some wa7), .pointer (some wa7_0_5), .pointer (some wa7_0_6)]⟩))], 145, none⟩, ⟨.pointer (some wa3), [(Vb r49.1)], 4, none⟩, ⟨.pointer (some wa4), [(Vi r49.2.1)], 3, none⟩, ⟨.pointer (some wa5), [(Vl (Vs wa5_0))], 63, none⟩, (Rw Kb 4 (Vs wa5_0) r49.2.2.1), ⟨.pointer (some wa6), [(Vl (.func (.func 42) #[] ⟨[.pointer (some wa6_0_0)]⟩))], 78, none⟩, ⟨.pointer (some wa6_0_0), [(Sl KT35 r49.2.2.2.1)], 22, none⟩, ⟨.pointer (some wa7_0_5), [(Vl (Vs g49))], 27, none⟩, ⟨.pointer (some wa7_0_6), [(Vl (Vs gz2))], 27, none⟩, (Rw (Ki .i64) 3 (Vs v10.1) r53), (Rw (Ki .i64) 3 (Vs v10.2) r57)]⟩ : St)) ?_ ?_
    ·rintro ⟨g908, g909⟩
     refine ax_all (i := 8) (is := []) (by kernel_rfl) (all_cons ?_ all_nil)
     ·refine nx_oxv (last := #[true, true, true, true, true, true, true, true, true, false]) rfl (oxv_store (i := 7) (o := 0) rfl rfl (lv_vl rfl rfl) ⟨rfl, rfl, rfl, rfl⟩ rfl info27 rfl (H' := [⟨.pointer (some wa7), [(Vl (.func (.func 81) #[] ⟨[.pointer (some wa3), .pointer (some wa4), .pointer (some wa5), .pointer (some wa6), .pointer (some wa7), .pointer (some wa7_0_5), .pointer (some wa7_0_6)]⟩))], 145, none⟩, ⟨.pointer (some wa3), [(Vb r49.1)], 4, none⟩, ⟨.pointer (some wa4), [(Vi r49.2.1)], 3, none⟩, ⟨.pointer (some wa5), [(Vl (Vs wa5_0))], 63, none⟩, (Rw Kb 4 (Vs wa5_0) r49.2.2.1), ⟨.pointer (some wa6), [(Vl (.func (.func 42) #[] ⟨[.pointer (some wa6_0_0)]⟩))], 78, none⟩, ⟨.pointer (some wa6_0_0), [(Sl KT35 r49.2.2.2.1)], 22, none⟩, ⟨.pointer (some wa7_0_5), [(Vl (Vs g908))], 27, none⟩, ⟨.pointer (some wa7_0_6), [(Vl (Vs gz2))], 27, none⟩, (Rw (Ki .i64) 3 (Vs g908) r53), (Rw (Ki .i64) 3 (Vs g909) r57)]) rfl) rfl rfl (bo_cons (m := 8) (by decide) rfl rfl bo_nil) (wt_none' rfl) rfl fun _ => ?_
      exact tx_pick' [0, 1, 2, 3, 4, 5, 6, 7, 9, 8, 10] (sub_cons rfl (sub_cons rfl (sub_cons rfl (sub_cons rfl (sub_cons rfl (sub_cons rfl sub_nil)))))) (by decide) (pick_cons rfl (pick_cons rfl (pick_cons rfl (pick_cons rfl (pick_cons rfl (pick_cons rfl (pick_cons rfl (pick_cons rfl (pick_cons rfl (pick_cons rfl (pick_cons rfl pick_nil))))))))))) (hN8 (g908, g909))
    intro hN7
    refine ax_node (f' := 3) #[true, true, true, true, true, true, true, false, false, false] (fun (v9 : Gs × Gs) => (⟨64, [], [(0, (Vi a0)), (2, (Vi a2)), (7, (Vp wa7)), (8, (Vp wa7_0_5)), (9, (Vp wa7_0_6)), (14, (Vi r41.2.2)), (53, (Vl (Vs v9.1))), (54, (Vl (Vs gz2))), (56, (Vl (Vs v9.2)))], [⟨.pointer (some wa7), [(Vl (.func (.func 81) #[] ⟨[.pointer (some wa3), .pointer (some wa4), .pointer (some wa5), .pointer (some wa6), .pointer (some wa7), .pointer (some wa7_0_5), .pointer (some wa7_0_6)]⟩))], 145, none⟩, ⟨.pointer (some wa3), [(Vb r49.1)], 4, none⟩, ⟨.pointer (some wa4), [(Vi r49.2.1)], 3, none⟩, ⟨.pointer (some wa5), [(Vl (Vs wa5_0))], 63, none⟩, (Rw Kb 4 (Vs wa5_0) r49.2.2.1), ⟨.pointer (some wa6), [(Vl (.func (.func 42) #[] ⟨[.pointer (some wa6_0_0)]⟩))], 78, none⟩, ⟨.pointer (some wa6_0_0), [(Sl KT35 r49.2.2.2.1)], 22, none⟩, ⟨.pointer (some wa7_0_5), [(Vl (Vs g49))], 27, none⟩, ⟨.pointer (some wa7_0_6), [(Vl (Vs gz2))], 27, none⟩, (Rw (Ki .i64) 3 (Vs gz2) r49.2.2.2.2.2), (Rw (Ki .i64) 3 (Vs v9.1) r53), (Rw (Ki .i64) 3 (Vs v9.2) ([a2]))]⟩ : St)) ?_ ?_
    ·rintro ⟨g906, g907⟩
     refine ax_all (i := 7) (is := []) (by kernel_rfl) (all_cons ?_ all_nil)
     ·refine nx_ox (last := #[true, true, true, true, true, true, true, true, false, false]) rfl (ox_append' (K := (Ki .i64)) (i := 9) (xs := r49.2.2.2.2.2) (ys := ([a2])) rfl rfl rfl (sr_row' (j := 11) rfl rfl rfl Try.underlying27) hr57 Try.underlying27 info3 rfl rfl rfl (H' := [⟨.pointer (some wa7), [(Vl (.func (.func 81) #[] ⟨[.pointer (some wa3), .pointer (some wa4), .pointer (some wa5), .pointer (some wa6), .pointer (some wa7), .pointer (some wa7_0_5), .pointer (some wa7_0_6)]⟩))], 145, none⟩, ⟨.pointer (some wa3), [(Vb r49.1)], 4, none⟩, ⟨.pointer (some wa4), [(Vi r49.2.1)], 3, none⟩, ⟨.pointer (some wa5), [(Vl (Vs wa5_0))], 63, none⟩, (Rw Kb 4 (Vs wa5_0) r49.2.2.1), ⟨.pointer (some wa6), [(Vl (.func (.func 42) #[] ⟨[.pointer (some wa6_0_0)]⟩))], 78, none⟩, ⟨.pointer (some wa6_0_0), [(Sl KT35 r49.2.2.2.1)], 22, none⟩, ⟨.pointer (some wa7_0_5), [(Vl (Vs g49))], 27, none⟩, ⟨.pointer (some wa7_0_6), [(Vl (Vs gz2))], 27, none⟩, (Rw (Ki .i64) 3 (Vs g906) r53), (Rw (Ki .i64) 3 (Vs g907) ([a2]))]) rfl) rfl (bs_cons (m := 8) rfl rfl rfl bs_nil) (wt_none' rfl) rfl fun g57 => ?_
      exact tx_pick' [1, 2, 3, 4, 5, 6, 7, 8, 9, 10, 0] (sub_cons rfl (sub_cons rfl (sub_cons rfl (sub_cons rfl (sub_cons rfl (sub_cons rfl (sub_cons rfl (sub_cons rfl sub_nil)))))))) (by decide) (pick_cons rfl (pick_cons rfl (pick_cons rfl (pick_cons rfl (pick_cons rfl (pick_cons rfl (pick_cons rfl (pick_cons rfl (pick_cons rfl (pick_cons rfl (pick_cons rfl pick_nil))))))))))) (hN7 (g906, g57))
    intro hN6
    refine ax_node (f' := 4) #[true, true, true, true, true, true, false, false, false, false] (fun (v7 : Gs) => (⟨64, [], [(0, (Vi a0)), (2, (Vi a2)), (7, (Vp wa7)), (8, (Vp wa7_0_5)), (9, (Vp wa7_0_6)), (14, (Vi r41.2.2)), (53, (Vl (Vs v7))), (54, (Vl (Vs gz2))), (55, (Vi a2))], [⟨.pointer (some wa7), [(Vl (.func (.func 81) #[] ⟨[.pointer (some wa3), .pointer (some wa4), .pointer (some wa5), .pointer (some wa6), .pointer (some wa7), .pointer (some wa7_0_5), .pointer (some wa7_0_6)]⟩))], 145, none⟩, ⟨.pointer (some wa3), [(Vb r49.1)], 4, none⟩, ⟨.pointer (some wa4), [(Vi r49.2.1)], 3, none⟩, ⟨.pointer (some wa5), [(Vl (Vs wa5_0))], 63, none⟩, (Rw Kb 4 (Vs wa5_0) r49.2.2.1), ⟨.pointer (some wa6), [(Vl (.func (.func 42) #[] ⟨[.pointer (some wa6_0_0)]⟩))], 78, none⟩, ⟨.pointer (some wa6_0_0), [(Sl KT35 r49.2.2.2.1)], 22, none⟩, ⟨.pointer (some wa7_0_5), [(Vl (Vs g49))], 27, none⟩, ⟨.pointer (some wa7_0_6), [(Vl (Vs gz2))], 27, none⟩, (Rw (Ki .i64) 3 (Vs gz2) r49.2.2.2.2.2), (Rw (Ki .i64) 3 (Vs v7) r53)]⟩ : St)) ?_ ?_
    ·rintro g903
     refine ax_all (i := 6) (is := []) (by kernel_rfl) (all_cons ?_ all_nil)
     ·refine nx_ox (last := #[true, true, true, true, true, true, true, false, false, false]) rfl (ox_rowlit' (K := (Ki .i64)) (xs := [a2]) (qs := [(0, [(Vi a2)])]) ⟨rfl, ⟨_, rfl, (lv_vl rfl rfl)⟩, trivial⟩ Try.underlying27 info3 rfl rfl rfl rfl rfl (by kernel_rfl) rfl rfl rfl) rfl (bs_cons (m := 8) rfl rfl rfl bs_nil) (wt_none' rfl) rfl fun g56 => ?_
      exact tx_pick' [1, 2, 3, 4, 5, 6, 7, 8, 9, 10, 11, 0] (sub_cons rfl (sub_cons rfl (sub_cons rfl (sub_cons rfl (sub_cons rfl (sub_cons rfl (sub_cons rfl (sub_cons rfl (sub_cons rfl sub_nil))))))))) (by decide) (pick_cons rfl (pick_cons rfl (pick_cons rfl (pick_cons rfl (pick_cons rfl (pick_cons rfl (pick_cons rfl (pick_cons rfl (pick_cons rfl (pick_cons rfl (pick_cons rfl (pick_cons rfl pick_nil)))))))))))) (hN6 (g903, g56))
    intro hN4
    refine ax_node (f' := 4) #[true, true, true, false, true, true, true, false, false, false] (fun (v8 : Gs × Gs) => (⟨64, [], [(0, (Vi a0)), (2, (Vi a2)), (7, (Vp wa7)), (8, (Vp wa7_0_5)), (9, (Vp wa7_0_6)), (14, (Vi r41.2.2)), (50, (Vl (Vs g49))), (52, (Vl (Vs v8.1))), (54, (Vl (Vs gz2))), (56, (Vl (Vs v8.2)))], [⟨.pointer (some wa7), [(Vl (.func (.func 81) #[] ⟨[.pointer (some wa3), .pointer (some wa4), .pointer (some wa5), .pointer (some wa6), .pointer (some wa7), .pointer (some wa7_0_5), .pointer (some wa7_0_6)]⟩))], 145, none⟩, ⟨.pointer (some wa3), [(Vb r49.1)], 4, none⟩, ⟨.pointer (some wa4), [(Vi r49.2.1)], 3, none⟩, ⟨.pointer (some wa5), [(Vl (Vs wa5_0))], 63, none⟩, (Rw Kb 4 (Vs wa5_0) r49.2.2.1), ⟨.pointer (some wa6), [(Vl (.func (.func 42) #[] ⟨[.pointer (some wa6_0_0)]⟩))], 78, none⟩, ⟨.pointer (some wa6_0_0), [(Sl KT35 r49.2.2.2.1)], 22, none⟩, ⟨.pointer (some wa7_0_5), [(Vl (Vs g49))], 27, none⟩, (Rw (Ki .i64) 3 (Vs g49) r49.2.2.2.2.1), ⟨.pointer (some wa7_0_6), [(Vl (Vs gz2))], 27, none⟩, (Rw (Ki .i64) 3 (Vs gz2) r49.2.2.2.2.2), (Rw (Ki .i64) 3 (Vs v8.1) ([a0])), (Rw (Ki .i64) 3 (Vs v8.2) ([a2]))]⟩ : St)) ?_ ?_
    ·rintro ⟨g904, g905⟩
     refine ax_all (i := 3) (is := []) (by kernel_rfl) (all_cons ?_ all_nil)
     ·refine nx_ox (last := #[true, true, true, true, true, true, true, false, false, false]) rfl (ox_append' (K := (Ki .i64)) (i := 8) (xs := r49.2.2.2.2.1) (ys := ([a0])) rfl rfl rfl (sr_row' (j := 11) rfl rfl rfl Try.underlying27) hr53 Try.underlying27 info3 rfl rfl rfl (H' := [⟨.pointer (some wa7), [(Vl (.func (.func 81) #[] ⟨[.pointer (some wa3), .pointer (some wa4), .pointer (some wa5), .pointer (some wa6), .pointer (some wa7), .pointer (some wa7_0_5), .pointer (some wa7_0_6)]⟩))], 145, none⟩, ⟨.pointer (some wa3), [(Vb r49.1)], 4, none⟩, ⟨.pointer (some wa4), [(Vi r49.2.1)], 3, none⟩, ⟨.pointer (some wa5), [(Vl (Vs wa5_0))], 63, none⟩, (Rw Kb 4 (Vs wa5_0) r49.2.2.1), ⟨.pointer (some wa6), [(Vl (.func (.func 42) #[] ⟨[.pointer (some wa6_0_0)]⟩))], 78, none⟩, ⟨.pointer (some wa6_0_0), [(Sl KT35 r49.2.2.2.1)], 22, none⟩, ⟨.pointer (some wa7_0_5), [(Vl (Vs g49))], 27, none⟩, ⟨.pointer (some wa7_0_6), [(Vl (Vs gz2))], 27, none⟩, (Rw (Ki .i64) 3 (Vs gz2) r49.2.2.2.2.2), (Rw (Ki .i64) 3 (Vs g904) ([a0])), (Rw (Ki .i64) 3 (Vs g905) ([a2]))]) rfl) rfl (bs_cons (m := 9) rfl rfl rfl bs_nil) (wt_none' rfl) rfl fun g53 => ?_
      exact tx_pick' [1, 2, 3, 4, 5, 6, 7, 8, 9, 10, 0, 12] (sub_cons rfl (sub_cons rfl (sub_cons rfl (sub_cons rfl (sub_cons rfl (sub_cons rfl (sub_cons rfl (sub_cons rfl (sub_cons rfl sub_nil))))))))) (by decide) (pick_cons rfl (pick_cons rfl (pick_cons rfl (pick_cons rfl (pick_cons rfl (pick_cons rfl (pick_cons rfl (pick_cons rfl (pick_cons rfl (pick_cons rfl (pick_cons rfl (pick_cons rfl pick_nil)))))))))))) (hN6 (g53, g905))
    intro hN5
    refine ax_node (f' := 5) #[true, true, true, false, true, true, false, false, false, false] (fun (v5 : Gs) => (⟨64, [], [(0, (Vi a0)), (2, (Vi a2)), (7, (Vp wa7)), (8, (Vp wa7_0_5)), (9, (Vp wa7_0_6)), (14, (Vi r41.2.2)), (50, (Vl (Vs g49))), (52, (Vl (Vs v5))), (54, (Vl (Vs gz2))), (55, (Vi a2))], [⟨.pointer (some wa7), [(Vl (.func (.func 81) #[] ⟨[.pointer (some wa3), .pointer (some wa4), .pointer (some wa5), .pointer (some wa6), .pointer (some wa7), .pointer (some wa7_0_5), .pointer (some wa7_0_6)]⟩))], 145, none⟩, ⟨.pointer (some wa3), [(Vb r49.1)], 4, none⟩, ⟨.pointer (some wa4), [(Vi r49.2.1)], 3, none⟩, ⟨.pointer (some wa5), [(Vl (Vs wa5_0))], 63, none⟩, (Rw Kb 4 (Vs wa5_0) r49.2.2.1), ⟨.pointer (some wa6), [(Vl (.func (.func 42) #[] ⟨[.pointer (some wa6_0_0)]⟩))], 78, none⟩, ⟨.pointer (some wa6_0_0), [(Sl KT35 r49.2.2.2.1)], 22, none⟩, ⟨.pointer (some wa7_0_5), [(Vl (Vs g49))], 27, none⟩, (Rw (Ki .i64) 3 (Vs g49) r49.2.2.2.2.1), ⟨.pointer (some wa7_0_6), [(Vl (Vs gz2))], 27, none⟩, (Rw (Ki .i64) 3 (Vs gz2) r49.2.2.2.2.2), (Rw (Ki .i64) 3 (Vs v5) ([a0]))]⟩ : St)) ?_ ?_
    ·rintro g901
     refine ax_all (i := 3) (is := [6]) (by kernel_rfl) (all_cons ?_ (all_cons ?_ all_nil))
     ·refine nx_ox (last := #[true, true, true, true, true, true, false, false, false, false]) rfl (ox_append' (K := (Ki .i64)) (i := 8) (xs := r49.2.2.2.2.1) (ys := ([a0])) rfl rfl rfl (sr_row' (j := 11) rfl rfl rfl Try.underlying27) hr53 Try.underlying27 info3 rfl rfl rfl (H' := [⟨.pointer (some wa7), [(Vl (.func (.func 81) #[] ⟨[.pointer (some wa3), .pointer (some wa4), .pointer (some wa5), .pointer (some wa6), .pointer (some wa7), .pointer (some wa7_0_5), .pointer (some wa7_0_6)]⟩))], 145, none⟩, ⟨.pointer (some wa3), [(Vb r49.1)], 4, none⟩, ⟨.pointer (some wa4), [(Vi r49.2.1)], 3, none⟩, ⟨.pointer (some wa5), [(Vl (Vs wa5_0))], 63, none⟩, (Rw Kb 4 (Vs wa5_0) r49.2.2.1), ⟨.pointer (some wa6), [(Vl (.func (.func 42) #[] ⟨[.pointer (some wa6_0_0)]⟩))], 78, none⟩, ⟨.pointer (some wa6_0_0), [(Sl KT35 r49.2.2.2.1)], 22, none⟩, ⟨.pointer (some wa7_0_5), [(Vl (Vs g49))], 27, none⟩, ⟨.pointer (some wa7_0_6), [(Vl (Vs gz2))], 27, none⟩, (Rw (Ki .i64) 3 (Vs gz2) r49.2.2.2.2.2), (Rw (Ki .i64) 3 (Vs g901) ([a0]))]) rfl) rfl (bs_cons (m := 9) rfl rfl rfl bs_nil) (wt_none' rfl) rfl fun g53 => ?_
      exact tx_pick' [1, 2, 3, 4, 5, 6, 7, 8, 9, 10, 0] (sub_cons rfl (sub_cons rfl (sub_cons rfl (sub_cons rfl (sub_cons rfl (sub_cons rfl (sub_cons rfl (sub_cons rfl (sub_cons rfl sub_nil))))))))) (by decide) (pick_cons rfl (pick_cons rfl (pick_cons rfl (pick_cons rfl (pick_cons rfl (pick_cons rfl (pick_cons rfl (pick_cons rfl (pick_cons rfl (pick_cons rfl (pick_cons rfl pick_nil))))))))))) (hN4 g53)
     refine nx_ox (last := #[true, true, true, false, true, true, true, false, false, false]) rfl (ox_rowlit' (K := (Ki .i64)) (xs := [a2]) (qs := [(0, [(Vi a2)])]) ⟨rfl, ⟨_, rfl, (lv_vl rfl rfl)⟩, trivial⟩ Try.underlying27 info3 rfl rfl rfl rfl rfl (by kernel_rfl) rfl rfl rfl) rfl (bs_cons (m := 9) rfl rfl rfl bs_nil) (wt_none' rfl) rfl fun g56 => ?_
     exact tx_pick' [1, 2, 3, 4, 5, 6, 7, 8, 9, 10, 11, 12, 0] (sub_cons rfl (sub_cons rfl (sub_cons rfl (sub_cons rfl (sub_cons rfl (sub_cons rfl (sub_cons rfl (sub_cons rfl (sub_cons rfl (sub_cons rfl sub_nil)))))))))) (by decide) (pick_cons rfl (pick_cons rfl (pick_cons rfl (pick_cons rfl (pick_cons rfl (pick_cons rfl (pick_cons rfl (pick_cons rfl (pick_cons rfl (pick_cons rfl (pick_cons rfl (pick_cons rfl (pick_cons rfl pick_nil))))))))))))) (hN5 (g901, g56))
    intro hN2
    refine ax_node (f' := 5) #[true, true, false, false, true, true, true, false, false, false] (fun (v6 : Gs) => (⟨64, [], [(0, (Vi a0)), (2, (Vi a2)), (7, (Vp wa7)), (8, (Vp wa7_0_5)), (9, (Vp wa7_0_6)), (14, (Vi r41.2.2)), (50, (Vl (Vs g49))), (51, (Vi a0)), (54, (Vl (Vs gz2))), (56, (Vl (Vs v6)))], [⟨.pointer (some wa7), [(Vl (.func (.func 81) #[] ⟨[.pointer (some wa3), .pointer (some wa4), .pointer (some wa5), .pointer (some wa6), .pointer (some wa7), .pointer (some wa7_0_5), .pointer (some wa7_0_6)]⟩))], 145, none⟩, ⟨.pointer (some wa3), [(Vb r49.1)], 4, none⟩, ⟨.pointer (some wa4), [(Vi r49.2.1)], 3, none⟩, ⟨.pointer (some wa5), [(Vl (Vs wa5_0))], 63, none⟩, (Rw Kb 4 (Vs wa5_0) r49.2.2.1), ⟨.pointer (some wa6), [(Vl (.func (.func 42) #[] ⟨[.pointer (some wa6_0_0)]⟩))], 78, none⟩, ⟨.pointer (some wa6_0_0), [(Sl KT35 r49.2.2.2.1)], 22, none⟩, ⟨.pointer (some wa7_0_5), [(Vl (Vs g49))], 27, none⟩, (Rw (Ki .i64) 3 (Vs g49) r49.2.2.2.2.1), ⟨.pointer (some wa7_0_6), [(Vl (Vs gz2))], 27, none⟩, (Rw (Ki .i64) 3 (Vs gz2) r49.2.2.2.2.2), (Rw (Ki .i64) 3 (Vs v6) ([a2]))]⟩ : St)) ?_ ?_
    ·rintro g902
     refine ax_all (i := 2) (is := []) (by kernel_rfl) (all_cons ?_ all_nil)
     ·refine nx_ox (last := #[true, true, true, false, true, true, true, false, false, false]) rfl (ox_rowlit' (K := (Ki .i64)) (xs := [a0]) (qs := [(0, [(Vi a0)])]) ⟨rfl, ⟨_, rfl, (lv_vl rfl rfl)⟩, trivial⟩ Try.underlying27 info3 rfl rfl rfl rfl rfl (by kernel_rfl) rfl rfl rfl) rfl (bs_cons (m := 9) rfl rfl rfl bs_nil) (wt_none' rfl) rfl fun g52 => ?_
      exact tx_pick' [1, 2, 3, 4, 5, 6, 7, 8, 9, 10, 11, 0, 12] (sub_cons rfl (sub_cons rfl (sub_cons rfl (sub_cons rfl (sub_cons rfl (sub_cons rfl (sub_cons rfl (sub_cons rfl (sub_cons rfl (sub_cons rfl sub_nil)))))))))) (by decide) (pick_cons rfl (pick_cons rfl (pick_cons rfl (pick_cons rfl (pick_cons rfl (pick_cons rfl (pick_cons rfl (pick_cons rfl (pick_cons rfl (pick_cons rfl (pick_cons rfl (pick_cons rfl (pick_cons rfl pick_nil))))))))))))) (hN5 (g52, g902))
    intro hN3
    refine ax_all (i := 2) (is := [6]) (by kernel_rfl) (all_cons ?_ (all_cons ?_ all_nil))
    ·refine nx_ox (last := #[true, true, true, false, true, true, false, false, false, false]) rfl (ox_rowlit' (K := (Ki .i64)) (xs := [a0]) (qs := [(0, [(Vi a0)])]) ⟨rfl, ⟨_, rfl, (lv_vl rfl rfl)⟩, trivial⟩ Try.underlying27 info3 rfl rfl rfl rfl rfl (by kernel_rfl) rfl rfl rfl) rfl (bs_cons (m := 9) rfl rfl rfl bs_nil) (wt_none' rfl) rfl fun g52 => ?_
     exact tx_pick' [7, 1, 2, 3, 4, 5, 6, 8, 9, 10, 11, 0] (sub_cons rfl (sub_cons rfl (sub_cons rfl (sub_cons rfl (sub_cons rfl (sub_cons rfl (sub_cons rfl (sub_cons rfl (sub_cons rfl (sub_cons rfl sub_nil)))))))))) (by decide) (pick_cons rfl (pick_cons rfl (pick_cons rfl (pick_cons rfl (pick_cons rfl (pick_cons rfl (pick_cons rfl (pick_cons rfl (pick_cons rfl (pick_cons rfl (pick_cons rfl (pick_cons rfl pick_nil)))))))))))) (hN2 g52)
    refine nx_ox (last := #[true, true, false, false, true, true, true, false, false, false]) rfl (ox_rowlit' (K := (Ki .i64)) (xs := [a2]) (qs := [(0, [(Vi a2)])]) ⟨rfl, ⟨_, rfl, (lv_vl rfl rfl)⟩, trivial⟩ Try.underlying27 info3 rfl rfl rfl rfl rfl (by kernel_rfl) rfl rfl rfl) rfl (bs_cons (m := 9) rfl rfl rfl bs_nil) (wt_none' rfl) rfl fun g56 => ?_
    exact tx_pick' [7, 1, 2, 3, 4, 5, 6, 8, 9, 10, 11, 0] (sub_cons rfl (sub_cons rfl (sub_cons rfl (sub_cons rfl (sub_cons rfl (sub_cons rfl (sub_cons rfl (sub_cons rfl (sub_cons rfl (sub_cons rfl sub_nil)))))))))) (by decide) (pick_cons rfl (pick_cons rfl (pick_cons rfl (pick_cons rfl (pick_cons rfl (pick_cons rfl (pick_cons rfl (pick_cons rfl (pick_cons rfl (pick_cons rfl (pick_cons rfl (pick_cons rfl pick_nil)))))))))))) (hN3 g56)
   intro K7 hK7
   rcases br_cases hp with ⟨h4, hp⟩ | ⟨h4, hp⟩
   ·refine sx_skip' rfl rfl (wt_is' (wt_guard' rfl rfl rfl) (beq_tf h4)) ?_
    refine sx_skip' rfl rfl (wt_is' (wt_guard' rfl rfl rfl) (beq_tf h4)) ?_
    refine sx_skip' rfl rfl (wt_is' (wt_guard' rfl rfl rfl) (beq_tf h4)) ?_
    refine sx_skip' rfl rfl (wt_is' (wt_guard' rfl rfl rfl) (beq_tf h4)) ?_
    refine s0 (rd_pick_true' rfl h4 rfl) ?_
    refine sx_nil' ?_
    show TX E K7 _
    exact tx_pick' [0, 1, 2, 3, 4, 5, 6, 7, 8] (sub_cons rfl (sub_cons rfl (sub_cons rfl (sub_cons rfl (sub_cons rfl (sub_cons rfl (sub_cons rfl (sub_cons rfl (sub_cons rfl sub_nil))))))))) (by decide) (pick_cons rfl (pick_cons rfl (pick_cons rfl (pick_cons rfl (pick_cons rfl (pick_cons rfl (pick_cons rfl (pick_cons rfl (pick_cons rfl pick_nil))))))))) (hK7 true hp)
   refine sx_rd' (rd_load' (i := 1) (o := 0) rfl ⟨rfl, rfl, rfl, rfl⟩ rfl flat63) rfl rfl (wt_is' (wt_guard' rfl rfl rfl) (beq_ff h4)) ?_
   refine sx_rd' (rd_move' rfl) rfl rfl (wt_is' (wt_guard' rfl rfl rfl) (beq_ff h4)) ?_
   obtain ⟨r32, hr32, hp⟩ := bind_some hp
   refine sx_rd' (rd_atr' (m := 2) rfl rfl rfl rfl hr32 Try.underlying63 info4) rfl rfl (wt_is' (wt_guard' rfl rfl rfl) (beq_ff h4)) ?_
   refine sx_rd' (rd_loadr' rfl (m := 2) (i := a0) (j := 0) rfl rfl hr32 rfl rfl flat4) rfl rfl (wt_is' (wt_guard' rfl rfl rfl) (beq_ff h4)) ?_
   refine s0 (rd_pick_false' rfl h4 rfl) ?_
   refine sx_nil' ?_
   show TX E K7 _
   exact tx_pick' [0, 1, 2, 3, 4, 5, 6, 7, 8] (sub_cons rfl (sub_cons rfl (sub_cons rfl (sub_cons rfl (sub_cons rfl (sub_cons rfl (sub_cons rfl (sub_cons rfl (sub_cons rfl sub_nil))))))))) (by decide) (pick_cons rfl (pick_cons rfl (pick_cons rfl (pick_cons rfl (pick_cons rfl (pick_cons rfl (pick_cons rfl (pick_cons rfl (pick_cons rfl pick_nil))))))))) (hK7 r32 hp)
  intro K6 hK6
  rcases br_cases hp with ⟨h3, hp⟩ | ⟨h3, hp⟩
  ·refine sx_skip' rfl rfl (wt_is' (wt_guard' rfl rfl rfl) (beq_tf h3)) ?_
   refine sx_skip' rfl rfl (wt_is' (wt_guard' rfl rfl rfl) (beq_tf h3)) ?_
   refine sx_skip' rfl rfl (wt_is' (wt_guard' rfl rfl rfl) (beq_tf h3)) ?_
   refine s0 (rd_pick_true' rfl h3 rfl) ?_
   refine sx_nil' ?_
   show TX E K6 _
   exact tx_pick' [0, 2, 3, 4, 5, 6, 1, 7, 8] (sub_cons rfl (sub_cons rfl (sub_cons rfl (sub_cons rfl (sub_cons rfl (sub_cons rfl (sub_cons rfl (sub_cons rfl (sub_cons rfl sub_nil))))))))) (by decide) (pick_cons rfl (pick_cons rfl (pick_cons rfl (pick_cons rfl (pick_cons rfl (pick_cons rfl (pick_cons rfl (pick_cons rfl (pick_cons rfl pick_nil))))))))) (hK6 true hp)
  refine sx_rd' (rd_move' rfl) rfl rfl (wt_is' (wt_guard' rfl rfl rfl) (beq_ff h3)) ?_
  refine sx_rd' (rd_load' (i := 1) (o := 0) rfl ⟨rfl, rfl, rfl, rfl⟩ rfl flat3) rfl rfl (wt_is' (wt_guard' rfl rfl rfl) (beq_ff h3)) ?_
  refine sx_rd' (rd_bin' rfl rfl eg_int ru_geq) rfl rfl (wt_is' (wt_guard' rfl rfl rfl) (beq_ff h3)) ?_
  refine s0 (rd_pick_false' rfl h3 rfl) ?_
  refine sx_nil' ?_
  show TX E K6 _
  exact tx_pick' [0, 2, 3, 4, 5, 6, 1, 7, 8] (sub_cons rfl (sub_cons rfl (sub_cons rfl (sub_cons rfl (sub_cons rfl (sub_cons rfl (sub_cons rfl (sub_cons rfl (sub_cons rfl sub_nil))))))))) (by decide) (pick_cons rfl (pick_cons rfl (pick_cons rfl (pick_cons rfl (pick_cons rfl (pick_cons rfl (pick_cons rfl (pick_cons rfl (pick_cons rfl pick_nil))))))))) (hK6 (decide (a4_0 ≤ a0)) hp)
 intro K3 hK3
 rcases br_cases hp with ⟨h1, hp⟩ | ⟨h1, hp⟩
 ·refine sx_skip' rfl rfl (wt_is' (wt_guard' rfl rfl rfl) (beq_tf h1)) ?_
  refine sx_skip' rfl rfl (wt_is' (wt_guard' rfl rfl rfl) (beq_tf h1)) ?_
  refine s0 (rd_pick_true' rfl h1 rfl) ?_
  refine sx_nil' ?_
  show TX E K3 _
  exact tx_pick' [0, 1, 2, 3, 4, 5, 6, 7, 8] (sub_cons rfl (sub_cons rfl (sub_cons rfl (sub_cons rfl (sub_cons rfl (sub_cons rfl (sub_cons rfl (sub_cons rfl (sub_cons rfl (sub_cons rfl (sub_cons rfl sub_nil))))))))))) (by decide) (pick_cons rfl (pick_cons rfl (pick_cons rfl (pick_cons rfl (pick_cons rfl (pick_cons rfl (pick_cons rfl (pick_cons rfl (pick_cons rfl pick_nil))))))))) (hK3 true hp)
 refine sx_rd' (rd_load' (i := 0) (o := 0) rfl ⟨rfl, rfl, rfl, rfl⟩ rfl flat4) rfl rfl (wt_is' (wt_guard' rfl rfl rfl) (beq_ff h1)) ?_
 refine sx_rd' (rd_un' rfl ru_not) rfl rfl (wt_is' (wt_guard' rfl rfl rfl) (beq_ff h1)) ?_
 refine s0 (rd_pick_false' rfl h1 rfl) ?_
 refine sx_nil' ?_
 show TX E K3 _
 exact tx_pick' [0, 1, 2, 3, 4, 5, 6, 7, 8] (sub_cons rfl (sub_cons rfl (sub_cons rfl (sub_cons rfl (sub_cons rfl (sub_cons rfl (sub_cons rfl (sub_cons rfl (sub_cons rfl (sub_cons rfl (sub_cons rfl sub_nil))))))))))) (by decide) (pick_cons rfl (pick_cons rfl (pick_cons rfl (pick_cons rfl (pick_cons rfl (pick_cons rfl (pick_cons rfl (pick_cons rfl (pick_cons rfl pick_nil))))))))) (hK3 (!a3_0) hp)
theorem spec_Walk_1_simA : ∀ (k : Nat) (wa3 : Addr) (wa4 : Addr) (wa5 : Addr) (wa5_0 : Gs) (wa6 : Addr) (wa6_0_0 : Addr) (wa7 : Addr) (wa7_0_5 : Addr) (wa7_0_6 : Addr) (a0 : Int) (a1 : Int) (a2 : Int) (a3_0 : Bool) (a4_0 : Int) (a5_0 : List Bool) (a6_0_0_0 : List ((List Nat) × Nat × Int × Int)) (out : Bool × Int × (List Bool) × (List ((List Nat) × Nat × Int × Int)) × (List Int) × (List Int)), spec_Walk_1 k a0 a1 a2 a3_0 a4_0 a5_0 a6_0_0_0 = some out → Sx.Fn Try.prog 81 [(Vi a0), (Vi a1), (Vi a2), (Vp wa3), (Vp wa4), (Vp wa5), (Vp wa6), (Vp wa7), (Vp wa7_0_5), (Vp wa7_0_6)] [⟨.pointer (some wa3), [(Vb a3_0)], 4, none⟩, ⟨.pointer (some wa4), [(Vi a4_0)], 3, none⟩, ⟨.pointer (some wa5), [(Vl (Vs wa5_0))], 63, none⟩, (Rw Kb 4 (Vs wa5_0) a5_0), ⟨.pointer (some wa6), [(Vl (.func (.func 42) #[] ⟨[.pointer (some wa6_0_0)]⟩))], 78, none⟩, ⟨.pointer (some wa6_0_0), [(Sl KT35 a6_0_0_0)], 22, none⟩, ⟨.pointer (some wa7), [(Vl (.func (.func 81) #[] ⟨[.pointer (some wa3), .pointer (some wa4), .pointer (some wa5), .pointer (some wa6), .pointer (some wa7), .pointer (some wa7_0_5), .pointer (some wa7_0_6)]⟩))], 145, none⟩, ⟨.pointer (some wa7_0_5), [Vn], 27, none⟩, ⟨.pointer (some wa7_0_6), [Vn], 27, none⟩] (fun w : Gs × Gs => (Vl (.tuple #[]))) (fun w => [⟨.pointer (some wa3), [(Vb out.1)], 4, none⟩, ⟨.pointer (some wa4), [(Vi out.2.1)], 3, none⟩, ⟨.pointer (some wa5), [(Vl (Vs wa5_0))], 63, none⟩, (Rw Kb 4 (Vs wa5_0) out.2.2.1), ⟨.pointer (some wa6), [(Vl (.func (.func 42) #[] ⟨[.pointer (some wa6_0_0)]⟩))], 78, none⟩, ⟨.pointer (some wa6_0_0), [(Sl KT35 out.2.2.2.1)], 22, none⟩, ⟨.pointer (some wa7), [(Vl (.func (.func 81) #[] ⟨[.pointer (some wa3), .pointer (some wa4), .pointer (some wa5), .pointer (some wa6), .pointer (some wa7), .pointer (some wa7_0_5), .pointer (some wa7_0_6)]⟩))], 145, none⟩, ⟨.pointer (some wa7_0_5), [(Vl (Vs w.1))], 27, none⟩, (Rw (Ki .i64) 3 (Vs w.1) out.2.2.2.2.1), ⟨.pointer (some wa7_0_6), [(Vl (Vs w.2))], 27, none⟩, (Rw (Ki .i64) 3 (Vs w.2) out.2.2.2.2.2)]) := by
 intro k
 induction k with
 | zero => intro wa3 wa4 wa5 wa5_0 wa6 wa6_0_0 wa7 wa7_0_5 wa7_0_6 a0 a1 a2 a3_0 a4_0 a5_0 a6_0_0_0 out hp; cases hp
 | succ k ih => intro wa3 wa4 wa5 wa5_0 wa6 wa6_0_0 wa7 wa7_0_5 wa7_0_6 a0 a1 a2 a3_0 a4_0 a5_0 a6_0_0_0 out hp; exact spec_Walk_1_b_sim ih a0 a1 a2 a3_0 a4_0 a5_0 a6_0_0_0 hp
theorem spec_Walk_1_sim {k : Nat} {wa3 : Addr} {wa4 : Addr} {wa5 : Addr} {wa5_0 : Gs} {wa6 : Addr} {wa6_0_0 : Addr} {wa7 : Addr} {wa7_0_5 : Addr} {wa7_0_6 : Addr} (a0 : Int) (a1 : Int) (a2 : Int) (a3_0 : Bool) (a4_0 : Int) (a5_0 : List Bool) (a6_0_0_0 : List ((List Nat) × Nat × Int × Int)) {out : Bool × Int × (List Bool) × (List ((List Nat) × Nat × Int × Int)) × (List Int) × (List Int)} (hp : spec_Walk_1 k a0 a1 a2 a3_0 a4_0 a5_0 a6_0_0_0 = some out) : Sx.Fn Try.prog 81 [(Vi a0), (Vi a1), (Vi a2), (Vp wa3), (Vp wa4), (Vp wa5), (Vp wa6), (Vp wa7), (Vp wa7_0_5), (Vp wa7_0_6)] [⟨.pointer (some wa3), [(Vb a3_0)], 4, none⟩, ⟨.pointer (some wa4), [(Vi a4_0)], 3, none⟩, ⟨.pointer (some wa5), [(Vl (Vs wa5_0))], 63, none⟩, (Rw Kb 4 (Vs wa5_0) a5_0), ⟨.pointer (some wa6), [(Vl (.func (.func 42) #[] ⟨[.pointer (some wa6_0_0)]⟩))], 78, none⟩, ⟨.pointer (some wa6_0_0), [(Sl KT35 a6_0_0_0)], 22, none⟩, ⟨.pointer (some wa7), [(Vl (.func (.func 81) #[] ⟨[.pointer (some wa3), .pointer (some wa4), .pointer (some wa5), .pointer (some wa6), .pointer (some wa7), .pointer (some wa7_0_5), .pointer (some wa7_0_6)]⟩))], 145, none⟩, ⟨.pointer (some wa7_0_5), [Vn], 27, none⟩, ⟨.pointer (some wa7_0_6), [Vn], 27, none⟩] (fun w : Gs × Gs => (Vl (.tuple #[]))) (fun w => [⟨.pointer (some wa3), [(Vb out.1)], 4, none⟩, ⟨.pointer (some wa4), [(Vi out.2.1)], 3, none⟩, ⟨.pointer (some wa5), [(Vl (Vs wa5_0))], 63, none⟩, (Rw Kb 4 (Vs wa5_0) out.2.2.1), ⟨.pointer (some wa6), [(Vl (.func (.func 42) #[] ⟨[.pointer (some wa6_0_0)]⟩))], 78, none⟩, ⟨.pointer (some wa6_0_0), [(Sl KT35 out.2.2.2.1)], 22, none⟩, ⟨.pointer (some wa7), [(Vl (.func (.func 81) #[] ⟨[.pointer (some wa3), .pointer (some wa4), .pointer (some wa5), .pointer (some wa6), .pointer (some wa7), .pointer (some wa7_0_5), .pointer (some wa7_0_6)]⟩))], 145, none⟩, ⟨.pointer (some wa7_0_5), [(Vl (Vs w.1))], 27, none⟩, (Rw (Ki .i64) 3 (Vs w.1) out.2.2.2.2.1), ⟨.pointer (some wa7_0_6), [(Vl (Vs w.2))], 27, none⟩, (Rw (Ki .i64) 3 (Vs w.2) out.2.2.2.2.2)]) := spec_Walk_1_simA k wa3 wa4 wa5 wa5_0 wa6 wa6_0_0 wa7 wa7_0_5 wa7_0_6 a0 a1 a2 a3_0 a4_0 a5_0 a6_0_0_0 out hp

def spec_Walk (k : Nat) (a0 : Int) (a1 : Int) (a2_0_0 : List ((List Nat) × Nat × Int × Int)) : Option ((List ((List Nat) × Nat × Int × Int)) × (List Int) × (List Int) × Bool) :=
 (mk 1 false a0 a0) >>= fun r12 =>
 (spec_Walk_1 k a1 (-1) 0 true a0 r12 a2_0_0) >>= fun r16 =>
 some (r16.2.2.2.1, r16.2.2.2.2.1, r16.2.2.2.2.2, r16.1)

theorem spec_Walk_sim {k : Nat} {wa2_0 : Addr} (a0 : Int) (a1 : Int) (a2_0_0 : List ((List Nat) × Nat × Int × Int)) {out : (List ((List Nat) × Nat × Int × Int)) × (List Int) × (List Int) × Bool} (hp : spec_Walk k a0 a1 a2_0_0 = some out) : Sx.Fn Try.prog 41 [(Vi a0), (Vi a1), (Vl (.func (.func 42) #[] ⟨[.pointer (some wa2_0)]⟩))] [⟨.pointer (some wa2_0), [(Sl KT35 a2_0_0)], 22, none⟩] (fun w : Unit => (Tu [(Sl (Ki .i64) out.2.1), (Sl (Ki .i64) out.2.2.1), (Vb out.2.2.2)])) (fun w => [⟨.pointer (some wa2_0), [(Sl KT35 out.1)], 22, none⟩]) := by
 unfold spec_Walk at hp
 refine fn_of Try.func41 rfl Try.ntmps41 rfl fun E hM => ?_
 refine cr fun K1 hK1 => ?_
 refine sx_ox' (ox_box' rfl (lv_vl rfl rfl) rfl rfl) (wt_none' rfl) fun q3 => ?_
 refine sx_ox' (ox_box' rfl (lv_vl rfl rfl) rfl rfl) (wt_none' rfl) fun q5 => ?_
 refine sx_ox' (ox_alloc' info27 rfl rfl rfl rfl (l := [Vn]) rfl) (wt_none' rfl) fun q6 => ?_
 refine sx_ox' (ox_alloc' info27 rfl rfl rfl rfl (l := [Vn]) rfl) (wt_none' rfl) fun q7 => ?_
 refine sx_ox' (ox_alloc' info4 rfl rfl rfl rfl (l := [(Vb false)]) rfl) (wt_none' rfl) fun q8 => ?_
 refine nk hK1 ?_
 refine cr fun K2 hK2 => ?_
 refine s0 (rd_load' (i := 4) (o := 0) rfl ⟨rfl, rfl, rfl, rfl⟩ rfl flat3) ?_
 obtain ⟨r12, hr12, hp⟩ := bind_some hp
 refine sx_ox' (ox_make' (K := Kb) rfl rfl hr12 rfl Try.underlying63 info4 rfl rfl rfl rfl rfl) (wt_none' rfl) fun g12 => ?_
 refine sx_ox' (ox_alloc' info63 rfl rfl rfl rfl (l := [Vn]) rfl) (wt_none' rfl) fun q9 => ?_
 refine sx_ox' (ox_store' (i := 0) (o := 0) rfl rfl (lv_vl rfl rfl) ⟨rfl, rfl, rfl, rfl⟩ rfl info63 rfl (H' := [⟨.pointer (some q9), [(Vl (Vs g12))], 63, none⟩, (Rw Kb 4 (Vs g12) r12), ⟨.pointer (some q8), [(Vb false)], 4, none⟩, ⟨.pointer (some q7), [Vn], 27, none⟩, ⟨.pointer (some q6), [Vn], 27, none⟩, ⟨.pointer (some q5), [(Vl (.func (.func 42) #[] ⟨[.pointer (some wa2_0)]⟩))], 78, none⟩, ⟨.pointer (some q3), [(Vi a0)], 3, none⟩, ⟨.pointer (some wa2_0), [(Sl KT35 a2_0_0)], 22, none⟩]) rfl) (wt_none' rfl) fun _ => ?_
 refine nk hK2 ?_
 refine cr fun K3 hK3 => ?_
 refine sx_ox' (ox_store' (i := 2) (o := 0) rfl rfl (lv_vl rfl rfl) ⟨rfl, rfl, rfl, rfl⟩ rfl info4 rfl (H' := [⟨.pointer (some q9), [(Vl (Vs g12))], 63, none⟩, (Rw Kb 4 (Vs g12) r12), ⟨.pointer (some q8), [(Vb true)], 4, none⟩, ⟨.pointer (some q7), [Vn], 27, none⟩, ⟨.pointer (some q6), [Vn], 27, none⟩, ⟨.pointer (some q5), [(Vl (.func (.func 42) #[] ⟨[.pointer (some wa2_0)]⟩))], 78, none⟩, ⟨.pointer (some q3), [(Vi a0)], 3, none⟩, ⟨.pointer (some wa2_0), [(Sl KT35 a2_0_0)], 22, none⟩]) rfl) (wt_none' rfl) fun _ => ?_
 refine nk hK3 ?_
 refine cr fun K4 hK4 => ?_
 refine sx_ox' (ox_alloc' info145 rfl rfl rfl rfl (l := [(Vl .nilFunc)]) rfl) (wt_none' rfl) fun q10 => ?_
 refine nk hK4 ?_
 refine cr fun K5 hK5 => ?_
 refine s0 (rd_mkfunc' (us := [.pointer (some q8), .pointer (some q3), .pointer (some q9), .pointer (some q5), .pointer (some q10), .pointer (some q6), .pointer (some q7)]) rfl) ?_
 refine sx_ox' (ox_store' (i := 0) (o := 0) rfl rfl (lv_vl rfl rfl) ⟨rfl, rfl, rfl, rfl⟩ rfl info145 rfl (H' := [⟨.pointer (some q10), [(Vl (.func (.func 81) #[] ⟨[.pointer (some q8), .pointer (some q3), .pointer (some q9), .pointer (some q5), .pointer (some q10), .pointer (some q6), .pointer (some q7)]⟩))], 145, none⟩, ⟨.pointer (some q9), [(Vl (Vs g12))], 63, none⟩, (Rw Kb 4 (Vs g12) r12), ⟨.pointer (some q8), [(Vb true)], 4, none⟩, ⟨.pointer (some q7), [Vn], 27, none⟩, ⟨.pointer (some q6), [Vn], 27, none⟩, ⟨.pointer (some q5), [(Vl (.func (.func 42) #[] ⟨[.pointer (some wa2_0)]⟩))], 78, none⟩, ⟨.pointer (some q3), [(Vi a0)], 3, none⟩, ⟨.pointer (some wa2_0), [(Sl KT35 a2_0_0)], 22, none⟩]) rfl) (wt_none' rfl) fun _ => ?_
 refine nk hK5 ?_
 refine cr fun K6 hK6 => ?_
 refine s0 (rd_load' (i := 0) (o := 0) rfl ⟨rfl, rfl, rfl, rfl⟩ rfl flat145) ?_
 refine s0 (rd_move' rfl) ?_
 obtain ⟨r16, hr16, hp⟩ := bind_some hp
 refine sx_ox' (ox_callg' (ent_clo' (us := [.pointer (some q8), .pointer (some q3), .pointer (some q9), .pointer (some q5), .pointer (some q10), .pointer (some q6), .pointer (some q7)]) rfl Try.func81 isn81 rfl rfl) (spec_Walk_1_sim _ _ _ _ _ _ _ hr16 : Sx.Fn Try.prog 81 [(Vi a1), (Vi (-1)), (Vi 0), (Vp q8), (Vp q3), (Vp q9), (Vp q5), (Vp q10), (Vp q6), (Vp q7)] [⟨.pointer (some q8), [(Vb true)], 4, none⟩, ⟨.pointer (some q3), [(Vi a0)], 3, none⟩, ⟨.pointer (some q9), [(Vl (Vs g12))], 63, none⟩, (Rw Kb 4 (Vs g12) r12), ⟨.pointer (some q5), [(Vl (.func (.func 42) #[] ⟨[.pointer (some wa2_0)]⟩))], 78, none⟩, ⟨.pointer (some wa2_0), [(Sl KT35 a2_0_0)], 22, none⟩, ⟨.pointer (some q10), [(Vl (.func (.func 81) #[] ⟨[.pointer (some q8), .pointer (some q3), .pointer (some q9), .pointer (some q5), .pointer (some q10), .pointer (some q6), .pointer (some q7)]⟩))], 145, none⟩, ⟨.pointer (some q6), [Vn], 27, none⟩, ⟨.pointer (some q7), [Vn], 27, none⟩] (fun x : Gs × Gs => (Vl (.tuple #[]))) (fun x => [⟨.pointer (some q8), [(Vb r16.1)], 4, none⟩, ⟨.pointer (some q3), [(Vi r16.2.1)], 3, none⟩, ⟨.pointer (some q9), [(Vl (Vs g12))], 63, none⟩, (Rw Kb 4 (Vs g12) r16.2.2.1), ⟨.pointer (some q5), [(Vl (.func (.func 42) #[] ⟨[.pointer (some wa2_0)]⟩))], 78, none⟩, ⟨.pointer (some wa2_0), [(Sl KT35 r16.2.2.2.1)], 22, none⟩, ⟨.pointer (some q10), [(Vl (.func (.func 81) #[] ⟨[.pointer (some q8), .pointer (some q3), .pointer (some q9), .pointer (some q5), .pointer (some q10), .pointer (some q6), .pointer (some q7)]⟩))], 145, none⟩, ⟨.pointer (some q6), [(Vl (Vs x.1))], 27, none⟩, (Rw (Ki .i64) 3 (Vs x.1) r16.2.2.2.2.1), ⟨.pointer (some q7), [(Vl (Vs x.2))], 27, none⟩, (Rw (Ki .i64) 3 (Vs x.2) r16.2.2.2.2.2)])) [3, 7, 1, 2, 6, 8, 0, 5, 4] [] (by decide) (pick_cons rfl (pick_cons rfl (pick_cons rfl (pick_cons rfl (pick_cons rfl (pick_cons rfl (pick_cons rfl (pick_cons rfl (pick_cons rfl pick_nil))))))))) pick_nil (Hn := fun x : Gs × Gs => [⟨.pointer (some q8), [(Vb r16.1)], 4, none⟩, ⟨.pointer (some q3), [(Vi r16.2.1)], 3, none⟩, ⟨.pointer (some q9), [(Vl (Vs g12))], 63, none⟩, (Rw Kb 4 (Vs g12) r16.2.2.1), ⟨.pointer (some q5), [(Vl (.func (.func 42) #[] ⟨[.pointer (some wa2_0)]⟩))], 78, none⟩, ⟨.pointer (some wa2_0), [(Sl KT35 r16.2.2.2.1)], 22, none⟩, ⟨.pointer (some q10), [(Vl (.func (.func 81) #[] ⟨[.pointer (some q8), .pointer (some q3), .pointer (some q9), .pointer (some q5), .pointer (some q10), .pointer (some q6), .pointer (some q7)]⟩))], 145, none⟩, ⟨.pointer (some q6), [(Vl (Vs x.1))], 27, none⟩, (Rw (Ki .i64) 3 (Vs x.1) r16.2.2.2.2.1), ⟨.pointer (some q7), [(Vl (Vs x.2))], 27, none⟩, (Rw (Ki .i64) 3 (Vs x.2) r16.2.2.2.2.2)]) (fun _ => rfl) rfl rfl) (wt_none' rfl) fun ⟨g16, gz1⟩ => ?_
 refine nk hK6 ?_
 refine cx_seq' fun K7 hK7 => ?_
 refine cx_plana' [q7.block] [(3, 1), (4, 2), (5, 1)] [(0, 1), (1, 2)] 4 #[true, true, false, false, false, false] mixed (by kernel_rfl) ?_
 refine px_rd' rfl (rd_load' (i := 7) (o := 0) rfl ⟨rfl, rfl, rfl, rfl⟩ rfl flat27) rfl rfl (wt_none' rfl) ?_
 refine px_rb' rfl (rb_load' (i := 9) (o := 0) rfl ⟨rfl, rfl, rfl, rfl⟩ rfl flat27 (by simp)) rfl rfl (wt_none' rfl) ?_
 refine px_nil' ?_
 show AX E _ _ _ _ _ _ _ _
 refine ax_node (f' := 0) #[true, true, true, true, true, true] (fun (v6 : Unit) => (⟨20, [], [(6, (Vp q6)), (7, (Vp q7)), (8, (Vp q8))], [⟨.pointer (some q6), [(Vl (Vs g16))], 27, none⟩, (Rw (Ki .i64) 3 (Vs g16) r16.2.2.2.2.1), ⟨.pointer (some q7), [(Vl (Vs gz1))], 27, none⟩, (Rw (Ki .i64) 3 (Vs gz1) r16.2.2.2.2.2), ⟨.pointer (some q8), [(Vb r16.1)], 4, none⟩, ⟨.pointer (some wa2_0), [(Sl KT35 r16.2.2.2.1)], 22, none⟩]⟩ : St)) ?_ ?_
 ·rintro ⟨⟩
  refine ax_nil (by kernel_rfl) ?_
  show TX E K7 _
  refine tx_k' hK7 ?_
  refine cx_retc' ?_
  replace hp := Option.some.inj hp
  subst hp
  refine tx_fz' (frz_row 1 [] (K := (Ki .i64)) (xs := r16.2.2.2.2.1) (by decide) rfl trivial (H' := [⟨.pointer (some q6), [(Sl (Ki .i64) r16.2.2.2.2.1)], 27, none⟩, ⟨.pointer (some q7), [(Vl (Vs gz1))], 27, none⟩, (Rw (Ki .i64) 3 (Vs gz1) r16.2.2.2.2.2), ⟨.pointer (some q8), [(Vb r16.1)], 4, none⟩, ⟨.pointer (some wa2_0), [(Sl KT35 r16.2.2.2.1)], 22, none⟩]) (frzH_cons rfl rfl rfl (frzL_cons frz_it frzL_refl) (frzH_cons rfl rfl rfl frzL_refl (frzH_cons rfl rfl rfl frzL_refl (frzH_cons rfl rfl rfl frzL_refl (frzH_cons rfl rfl rfl frzL_refl frzH_refl)))))) ?_
  refine tx_fz' (frz_row 2 [] (K := (Ki .i64)) (xs := r16.2.2.2.2.2) (by decide) rfl trivial (H' := [⟨.pointer (some q6), [(Sl (Ki .i64) r16.2.2.2.2.1)], 27, none⟩, ⟨.pointer (some q7), [(Sl (Ki .i64) r16.2.2.2.2.2)], 27, none⟩, ⟨.pointer (some q8), [(Vb r16.1)], 4, none⟩, ⟨.pointer (some wa2_0), [(Sl KT35 r16.2.2.2.1)], 22, none⟩]) (frzH_cons rfl rfl rfl frzL_refl (frzH_cons rfl rfl rfl (frzL_cons frz_it frzL_refl) (frzH_cons rfl rfl rfl frzL_refl (frzH_cons rfl rfl rfl frzL_refl frzH_refl))))) ?_
  refine tx_pick' (L' := [(6, (Vp q6)), (7, (Vp q7)), (8, (Vp q8))]) (H' := [⟨.pointer (some wa2_0), [(Sl KT35 r16.2.2.2.1)], 22, none⟩, ⟨.pointer (some q6), [(Sl (Ki .i64) r16.2.2.2.2.1)], 27, none⟩, ⟨.pointer (some q7), [(Sl (Ki .i64) r16.2.2.2.2.2)], 27, none⟩, ⟨.pointer (some q8), [(Vb r16.1)], 4, none⟩]) [3, 0, 1, 2] (sub_cons rfl (sub_cons rfl (sub_cons rfl sub_nil))) (by decide) (pick_cons rfl (pick_cons rfl (pick_cons rfl (pick_cons rfl pick_nil)))) ?_
  exact tx_ret3' Try.results41 rfl () (rv_cell' (i := 1) (o := 0) rfl ⟨rfl, rfl, rfl, rfl⟩ rfl flat27) (rv_cell' (i := 2) (o := 0) rfl ⟨rfl, rfl, rfl, rfl⟩ rfl flat27) (rv_cell' (i := 3) (o := 0) rfl ⟨rfl, rfl, rfl, rfl⟩ rfl flat4) rfl (List.Sublist.cons_cons _ (List.nil_sublist _))
 intro hN7
 refine ax_node (f' := 1) #[true, true, true, true, true, false] (fun (v5 : Unit) => (⟨20, [], [(6, (Vp q6)), (7, (Vp q7)), (8, (Vp q8)), (19, (Vb r16.1))], [⟨.pointer (some q6), [(Vl (Vs g16))], 27, none⟩, (Rw (Ki .i64) 3 (Vs g16) r16.2.2.2.2.1), ⟨.pointer (some q7), [(Vl (Vs gz1))], 27, none⟩, (Rw (Ki .i64) 3 (Vs gz1) r16.2.2.2.2.2), ⟨.pointer (some q8), [(Vb r16.1)], 4, none⟩, ⟨.pointer (some wa2_0), [(Sl KT35 r16.2.2.2.1)], 22, none⟩]⟩ : St)) ?_ ?_
 ·rintro ⟨⟩
  refine ax_all (i := 5) (is := []) (by kernel_rfl) (all_cons ?_ all_nil)
  ·refine nx_oxv (last := #[true, true, true, true, true, true]) rfl (oxv_store (i := 4) (o := 0) rfl rfl (lv_vl rfl rfl) ⟨rfl, rfl, rfl, rfl⟩ rfl info4 rfl (H' := [⟨.pointer (some q6), [(Vl (Vs g16))], 27, none⟩, (Rw (Ki .i64) 3 (Vs g16) r16.2.2.2.2.1), ⟨.pointer (some q7), [(Vl (Vs gz1))], 27, none⟩, (Rw (Ki .i64) 3 (Vs gz1) r16.2.2.2.2.2), ⟨.pointer (some q8), [(Vb r16.1)], 4, none⟩, ⟨.pointer (some wa2_0), [(Sl KT35 r16.2.2.2.1)], 22, none⟩]) rfl) rfl rfl (bo_cons (m := 2) (by decide) rfl rfl bo_nil) (wt_none' rfl) rfl fun _ => ?_
   exact tx_pick' [0, 1, 2, 3, 4, 5] (sub_cons rfl (sub_cons rfl (sub_cons rfl sub_nil))) (by decide) (pick_cons rfl (pick_cons rfl (pick_cons rfl (pick_cons rfl (pick_cons rfl (pick_cons rfl pick_nil)))))) (hN7 ())
 intro hN6
 refine ax_node (f' := 2) #[true, true, true, true, false, false] (fun (v3 : Unit) => (⟨20, [], [(6, (Vp q6)), (7, (Vp q7)), (8, (Vp q8)), (18, (Vl (Vs gz1))), (19, (Vb r16.1))], [⟨.pointer (some q6), [(Vl (Vs g16))], 27, none⟩, (Rw (Ki .i64) 3 (Vs g16) r16.2.2.2.2.1), ⟨.pointer (some q7), [(Vl (Vs gz1))], 27, none⟩, (Rw (Ki .i64) 3 (Vs gz1) r16.2.2.2.2.2), ⟨.pointer (some q8), [(Vb r16.1)], 4, none⟩, ⟨.pointer (some wa2_0), [(Sl KT35 r16.2.2.2.1)], 22, none⟩]⟩ : St)) ?_ ?_
 ·rintro ⟨⟩
  refine ax_all (i := 4) (is := []) (by kernel_rfl) (all_cons ?_ all_nil)
  ·refine nx_ox (last := #[true, true, true, true, true, false]) rfl (ox_store' (i := 2) (o := 0) rfl rfl (lv_vl rfl rfl) ⟨rfl, rfl, rfl, rfl⟩ rfl info27 rfl (H' := [⟨.pointer (some q6), [(Vl (Vs g16))], 27, none⟩, (Rw (Ki .i64) 3 (Vs g16) r16.2.2.2.2.1), ⟨.pointer (some q7), [(Vl (Vs gz1))], 27, none⟩, (Rw (Ki .i64) 3 (Vs gz1) r16.2.2.2.2.2), ⟨.pointer (some q8), [(Vb r16.1)], 4, none⟩, ⟨.pointer (some wa2_0), [(Sl KT35 r16.2.2.2.1)], 22, none⟩]) rfl) rfl (bs_cons (m := 2) rfl rfl rfl bs_nil) (wt_none' rfl) rfl fun _ => ?_
   exact tx_pick' [0, 1, 2, 3, 4, 5] (sub_cons rfl (sub_cons rfl (sub_cons rfl (sub_cons rfl sub_nil)))) (by decide) (pick_cons rfl (pick_cons rfl (pick_cons rfl (pick_cons rfl (pick_cons rfl (pick_cons rfl pick_nil)))))) (hN6 ())
 intro hN4
 refine ax_node (f' := 2) #[true, true, false, true, true, false] (fun (v4 : Unit) => (⟨20, [], [(6, (Vp q6)), (7, (Vp q7)), (8, (Vp q8))], [⟨.pointer (some q6), [(Vl (Vs g16))], 27, none⟩, (Rw (Ki .i64) 3 (Vs g16) r16.2.2.2.2.1), ⟨.pointer (some q7), [(Vl (Vs gz1))], 27, none⟩, (Rw (Ki .i64) 3 (Vs gz1) r16.2.2.2.2.2), ⟨.pointer (some q8), [(Vb r16.1)], 4, none⟩, ⟨.pointer (some wa2_0), [(Sl KT35 r16.2.2.2.1)], 22, none⟩]⟩ : St)) ?_ ?_
 ·rintro ⟨⟩
  refine ax_rd (ix := 2) (last := #[true, true, true, true, true, false]) (by kernel_rfl) rfl (rd_load' (i := 4) (o := 0) rfl ⟨rfl, rfl, rfl, rfl⟩ rfl flat4) rfl rfl (wt_none' rfl) rfl ?_
  exact tx_pick' [0, 1, 2, 3, 4, 5] (sub_cons rfl (sub_cons rfl (sub_cons rfl (sub_cons rfl sub_nil)))) (by decide) (pick_cons rfl (pick_cons rfl (pick_cons rfl (pick_cons rfl (pick_cons rfl (pick_cons rfl pick_nil)))))) (hN6 ())
 intro hN5
 refine ax_node (f' := 3) #[true, true, true, false, false, false] (fun (v1 : Unit) => (⟨20, [], [(6, (Vp q6)), (7, (Vp q7)), (8, (Vp q8)), (17, (Vl (Vs g16))), (18, (Vl (Vs gz1))), (19, (Vb r16.1))], [⟨.pointer (some q6), [(Vl (Vs g16))], 27, none⟩, (Rw (Ki .i64) 3 (Vs g16) r16.2.2.2.2.1), ⟨.pointer (some q7), [(Vl (Vs gz1))], 27, none⟩, (Rw (Ki .i64) 3 (Vs gz1) r16.2.2.2.2.2), ⟨.pointer (some q8), [(Vb r16.1)], 4, none⟩, ⟨.pointer (some wa2_0), [(Sl KT35 r16.2.2.2.1)], 22, none⟩]⟩ : St)) ?_ ?_
 ·rintro ⟨⟩
  refine ax_all (i := 3) (is := []) (by kernel_rfl) (all_cons ?_ all_nil)
  ·refine nx_oxv (last := #[true, true, true, true, false, false]) rfl (oxv_store (i := 0) (o := 0) rfl rfl (lv_vl rfl rfl) ⟨rfl, rfl, rfl, rfl⟩ rfl info27 rfl (H' := [⟨.pointer (some q6), [(Vl (Vs g16))], 27, none⟩, (Rw (Ki .i64) 3 (Vs g16) r16.2.2.2.2.1), ⟨.pointer (some q7), [(Vl (Vs gz1))], 27, none⟩, (Rw (Ki .i64) 3 (Vs gz1) r16.2.2.2.2.2), ⟨.pointer (some q8), [(Vb r16.1)], 4, none⟩, ⟨.pointer (some wa2_0), [(Sl KT35 r16.2.2.2.1)], 22, none⟩]) rfl) rfl rfl (bo_cons (m := 2) (by decide) rfl rfl bo_nil) (wt_none' rfl) rfl fun _ => ?_
   exact tx_pick' [0, 1, 2, 3, 4, 5] (sub_cons rfl (sub_cons rfl (sub_cons rfl (sub_cons rfl (sub_cons rfl sub_nil))))) (by decide) (pick_cons rfl (pick_cons rfl (pick_cons rfl (pick_cons rfl (pick_cons rfl (pick_cons rfl pick_nil)))))) (hN4 ())
 intro hN2
 refine ax_node (f' := 3) #[true, true, false, true, false, false] (fun (v2 : Unit) => (⟨20, [], [(6, (Vp q6)), (7, (Vp q7)), (8, (Vp q8)), (18, (Vl (Vs gz1)))], [⟨.pointer (some q6), [(Vl (Vs g16))], 27, none⟩, (Rw (Ki .i64) 3 (Vs g16) r16.2.2.2.2.1), ⟨.pointer (some q7), [(Vl (Vs gz1))], 27, none⟩, (Rw (Ki .i64) 3 (Vs gz1) r16.2.2.2.2.2), ⟨.pointer (some q8), [(Vb r16.1)], 4, none⟩, ⟨.pointer (some wa2_0), [(Sl KT35 r16.2.2.2.1)], 22, none⟩]⟩ : St)) ?_ ?_
 ·rintro ⟨⟩
  refine ax_all (i := 2) (is := [4]) (by kernel_rfl) (all_cons ?_ (all_cons ?_ all_nil))
  ·refine nx_rd (last := #[true, true, true, true, false, false]) rfl (rd_load' (i := 4) (o := 0) rfl ⟨rfl, rfl, rfl, rfl⟩ rfl flat4) rfl rfl (wt_none' rfl) rfl ?_
   exact tx_pick' [0, 1, 2, 3, 4, 5] (sub_cons rfl (sub_cons rfl (sub_cons rfl (sub_cons rfl (sub_cons rfl sub_nil))))) (by decide) (pick_cons rfl (pick_cons rfl (pick_cons rfl (pick_cons rfl (pick_cons rfl (pick_cons rfl pick_nil)))))) (hN4 ())
  refine nx_ox (last := #[true, true, false, true, true, false]) rfl (ox_store' (i := 2) (o := 0) rfl rfl (lv_vl rfl rfl) ⟨rfl, rfl, rfl, rfl⟩ rfl info27 rfl (H' := [⟨.pointer (some q6), [(Vl (Vs g16))], 27, none⟩, (Rw (Ki .i64) 3 (Vs g16) r16.2.2.2.2.1), ⟨.pointer (some q7), [(Vl (Vs gz1))], 27, none⟩, (Rw (Ki .i64) 3 (Vs gz1) r16.2.2.2.2.2), ⟨.pointer (some q8), [(Vb r16.1)], 4, none⟩, ⟨.pointer (some wa2_0), [(Sl KT35 r16.2.2.2.1)], 22, none⟩]) rfl) rfl (bs_cons (m := 2) rfl rfl rfl bs_nil) (wt_none' rfl) rfl fun _ => ?_
  exact tx_pick' [0, 1, 2, 3, 4, 5] (sub_cons rfl (sub_cons rfl (sub_cons rfl sub_nil))) (by decide) (pick_cons rfl (pick_cons rfl (pick_cons rfl (pick_cons rfl (pick_cons rfl (pick_cons rfl pick_nil)))))) (hN5 ())
 intro hN3
 refine ax_all (i := 2) (is := [3]) (by kernel_rfl) (all_cons ?_ (all_cons ?_ all_nil))
 ·refine nx_rd (last := #[true, true, true, false, false, false]) rfl (rd_load' (i := 0) (o := 0) rfl ⟨rfl, rfl, rfl, rfl⟩ rfl flat4) rfl rfl (wt_none' rfl) rfl ?_
  exact tx_pick' [7, 8, 9, 10, 0, 5] (sub_cons rfl (sub_cons rfl (sub_cons rfl (sub_cons rfl (sub_cons rfl (sub_cons rfl sub_nil)))))) (by decide) (pick_cons rfl (pick_cons rfl (pick_cons rfl (pick_cons rfl (pick_cons rfl (pick_cons rfl pick_nil)))))) (hN2 ())
 refine nx_oxv (last := #[true, true, false, true, false, false]) rfl (oxv_store (i := 7) (o := 0) rfl rfl (lv_vl rfl rfl) ⟨rfl, rfl, rfl, rfl⟩ rfl info27 rfl (H' := [⟨.pointer (some q8), [(Vb r16.1)], 4, none⟩, ⟨.pointer (some q3), [(Vi r16.2.1)], 3, none⟩, ⟨.pointer (some q9), [(Vl (Vs g12))], 63, none⟩, (Rw Kb 4 (Vs g12) r16.2.2.1), ⟨.pointer (some q5), [(Vl (.func (.func 42) #[] ⟨[.pointer (some wa2_0)]⟩))], 78, none⟩, ⟨.pointer (some wa2_0), [(Sl KT35 r16.2.2.2.1)], 22, none⟩, ⟨.pointer (some q10), [(Vl (.func (.func 81) #[] ⟨[.pointer (some q8), .pointer (some q3), .pointer (some q9), .pointer (some q5), .pointer (some q10), .pointer (some q6), .pointer (some q7)]⟩))], 145, none⟩, ⟨.pointer (some q6), [(Vl (Vs g16))], 27, none⟩, (Rw (Ki .i64) 3 (Vs g16) r16.2.2.2.2.1), ⟨.pointer (some q7), [(Vl (Vs gz1))], 27, none⟩, (Rw (Ki .i64) 3 (Vs gz1) r16.2.2.2.2.2)]) rfl) rfl rfl (bo_cons (m := 9) (by decide) rfl rfl bo_nil) (wt_none' rfl) rfl fun _ => ?_
 exact tx_pick' [7, 8, 9, 10, 0, 5] (sub_cons rfl (sub_cons rfl (sub_cons rfl (sub_cons rfl sub_nil)))) (by decide) (pick_cons rfl (pick_cons rfl (pick_cons rfl (pick_cons rfl (pick_cons rfl (pick_cons rfl pick_nil)))))) (hN3 ())

def spec_VWalk (k : Nat) (a0 : List ((List Nat) × Nat × Int × Int)) (a1 : Int) : Option ((List Int) × (List Int) × Bool) :=
 (spec_Walk k (a0.length : Int) a1 a0) >>= fun r11 =>
 some (r11.2.1, r11.2.2.1, r11.2.2.2)

theorem spec_VWalk_sim {k : Nat}  (a0 : List ((List Nat) × Nat × Int × Int)) (a1 : Int) {out : (List Int) × (List Int) × Bool} (hp : spec_VWalk k a0 a1 = some out) : Sx.Fn Try.prog 11 [(Sl KT35 a0), (Vi a1)] [] (fun w : Unit => (Tu [(Sl (Ki .i64) out.1), (Sl (Ki .i64) out.2.1), (Vb out.2.2)])) (fun w => []) := by
 unfold spec_VWalk at hp
 refine fn_of Try.func11 rfl Try.ntmps11 rfl fun E hM => ?_
 refine cr fun K1 hK1 => ?_
 refine sx_ox' (ox_box' rfl (lv_sl _ _) rfl rfl) (wt_none' rfl) fun q2 => ?_
 refine s0 (rd_assign' rfl) ?_
 refine s0 (rd_assign' rfl) ?_
 refine s0 (rd_assign' rfl) ?_
 refine nk hK1 ?_
 refine cr fun K2 hK2 => ?_
 refine s0 (rd_load' (i := 0) (o := 0) rfl ⟨rfl, rfl, rfl, rfl⟩ rfl flat22) ?_
 refine s0 (rd_len' rfl Try.underlying22) ?_
 refine s0 (rd_move' rfl) ?_
 refine s0 (rd_mkfunc' (us := [.pointer (some q2)]) rfl) ?_
 obtain ⟨r11, hr11, hp⟩ := bind_some hp
 refine sx_ox' (ox_callg' (ent_fn' Try.func41 isn41 rfl rfl) (spec_Walk_sim _ _ _ hr11 : Sx.Fn Try.prog 41 [(Vi (a0.length : Int)), (Vi a1), (Vl (.func (.func 42) #[] ⟨[.pointer (some q2)]⟩))] [⟨.pointer (some q2), [(Sl KT35 a0)], 22, none⟩] (fun x : Unit => (Tu [(Sl (Ki .i64) r11.2.1), (Sl (Ki .i64) r11.2.2.1), (Vb r11.2.2.2)])) (fun x => [⟨.pointer (some q2), [(Sl KT35 r11.1)], 22, none⟩])) [0] [] (by decide) (pick_cons rfl pick_nil) pick_nil (Hn := fun x : Unit => [⟨.pointer (some q2), [(Sl KT35 r11.1)], 22, none⟩]) (fun _ => rfl) rfl rfl) (wt_none' rfl) fun ⟨⟩ => ?_
 refine s0 (rd_extract' rfl rfl) ?_
 refine s0 (rd_extract' rfl rfl) ?_
 refine s0 (rd_extract' rfl rfl) ?_
 refine s0 (rd_assign' rfl) ?_
 refine s0 (rd_assign' rfl) ?_
 refine s0 (rd_assign' rfl) ?_
 refine nk hK2 ?_
 refine cx_retc' ?_
 replace hp := Option.some.inj hp
 subst hp
 refine tx_pick' (L' := [(4, (Sl (Ki .i64) r11.2.1)), (5, (Sl (Ki .i64) r11.2.2.1)), (6, (Vb r11.2.2.2))]) (H' := []) [] (sub_cons rfl (sub_cons rfl (sub_cons rfl sub_nil))) (by decide) pick_nil ?_
 exact tx_ret3' Try.results11 rfl () (rv_tmp' rfl) (rv_tmp' rfl) (rv_tmp' rfl) rfl (List.Sublist.refl _)

def spec_Finite (k : Nat) (a0 : Nat) : Option (Bool) :=
 (some (gsub a0 a0)) >>= fun r5 =>
 some (feq r5 0)

theorem spec_Finite_sim {k : Nat}  (a0 : Nat) {out : Bool} (hp : spec_Finite k a0 = some out) : Sx.Fn Try.prog 75 [(Vg a0)] [] (fun w : Unit => (Vb out)) (fun w => []) := by
 unfold spec_Finite at hp
 refine fn_of Try.func75 rfl Try.ntmps75 rfl fun E hM => ?_
 refine cr fun K1 hK1 => ?_
 refine s0 (rd_assign' rfl) ?_
 refine nk hK1 ?_
 refine cr fun K2 hK2 => ?_
 refine s0 (rd_move' rfl) ?_
 refine s0 (rd_move' rfl) ?_
 obtain ⟨r5, hr5, hp⟩ := bind_some hp
 refine sx_ox' (ox_fop' (.inr (.inl rfl)) (fl_v rfl) (fl_v rfl) (Option.some.inj hr5) rfl rfl) (wt_none' rfl) fun _ => ?_
 refine s0 (rd_fcmp' (fl_f rfl) (fl_v rfl) rfl) ?_
 refine s0 (rd_assign' rfl) ?_
 refine nk hK2 ?_
 refine cx_retc' ?_
 replace hp := Option.some.inj hp
 subst hp
 refine tx_pick' (L' := [(2, (Vb (feq r5 0)))]) (H' := []) [] (sub_cons rfl sub_nil) (by decide) pick_nil ?_
 exact tx_ret1' Try.results75 rfl () (rv_tmp' rfl) (List.Sublist.refl _)

def spec_trim_j2 (k : Nat) (x3 : List Int) (rec1 : (List Int) → Option ((List Int))) (x2 : Bool) : Option ((List Int)) :=
 br x2
  ((cut x3 0 (isub .i64 (x3.length : Int) 1)) >>= fun r19 =>
  rec1 r19)
  (some x3)
def spec_trim_l1s  (k : Nat) (rec1 : (List Int) → Option ((List Int))) (x3 : List Int) : Option ((List Int)) :=
 br (decide (0 < (x3.length : Int)))
  ((idx x3 (isub .i64 (x3.length : Int) 1)) >>= fun r11 =>
  spec_trim_j2 k x3 rec1 (decide (r11 = 0)))
  (spec_trim_j2 k x3 rec1 false)
def spec_trim_l1  : Nat → (List Int) → Option ((List Int))
 | 0, _ => none
 | k + 1, v => spec_trim_l1s k (spec_trim_l1 k) v
def spec_trim (k : Nat) (a0 : List Int) : Option ((List Int)) :=
 (spec_trim_l1 k a0) >>= fun v4 =>
 some v4

theorem spec_trim_sim {k : Nat}  (a0 : List Int) {out : (List Int)} (hp : spec_trim k a0 = some out) : Sx.Fn Try.prog 119 [(Sl (Ki .u32) a0)] [] (fun w : Unit => (Sl (Ki .u32) out)) (fun w => []) := by
 unfold spec_trim at hp
 refine fn_of Try.func119 rfl Try.ntmps119 rfl fun E hM => ?_
 refine cr fun K1 hK1 => ?_
 refine s0 (rd_assign' rfl) ?_
 refine nk hK1 ?_
 refine cx_seq' fun K2 hK2 => ?_
 refine cx_block' ?_
 obtain ⟨v4, hy1, hp⟩ := bind_some hp
 refine cx_loopg' (F := spec_trim_l1) (G := fun k R v => spec_trim_l1s k R v) (x := a0) (gh := ()) (fun (v2 : (List Int)) (w2 : Unit) => (⟨21, [], [(0, (Sl (Ki .u32) v2))], []⟩ : St)) (fun (v4 : (List Int)) => Zg E (Exit.exit 0) (fun (w4 : Unit) => (⟨21, [], [(0, (Sl (Ki .u32) v4))], []⟩ : St))) (fun _ => rfl) (fun _ _ => rfl) ?_ hy1 (tx_to' rfl [] (sub_cons rfl sub_nil) (by decide) pick_nil) ?_
 ·clear hp hy1
  clear v4
  intro k rec1 KY1 ih1
  rintro x3 ⟨⟩ y1 hp
  replace hp : spec_trim_l1s k rec1 x3 = some y1 := hp
  unfold spec_trim_l1s at hp
  refine cx_seq' fun K6 hK6 => ?_
  refine cr fun K7 hK7 => ?_
  refine s0 (rd_move' rfl) ?_
  refine s0 (rd_len' rfl Try.underlying131) ?_
  refine s0 (rd_bin' rfl rfl eg_int ru_gtr) ?_
  refine s0 (rd_move' rfl) ?_
  refine sx_cutn' 8 (fun (v3 : Bool) => (⟨21, [], [(0, (Sl (Ki .u32) x3)), (14, (Vb v3))], []⟩ : St)) (fun (v3 : Bool) => spec_trim_j2 k x3 rec1 v3 = some y1) ?_ ?_
  ·rintro x2 hp
   replace hp : spec_trim_j2 k x3 rec1 x2 = some y1 := hp
   unfold spec_trim_j2 at hp
   refine nk hK7 ?_
   refine cx_cond' rfl (fun h5 => ?_) (fun h5 => ?_)
   ·replace hp := (br_t h5).symm.trans hp
    refine cx_skip' ?_
    show TX E K6 _
    refine tx_k' hK6 ?_
    refine cx_block' ?_
    refine cx_region' ?_
    refine s0 (rd_move' rfl) ?_
    refine s0 (rd_move' rfl) ?_
    refine s0 (rd_len' rfl Try.underlying131) ?_
    refine s0 (rd_bin' rfl rfl eg_int ru_sub) ?_
    obtain ⟨r19, hr19, hp⟩ := bind_some hp
    refine s0 (rd_cut_h' rfl rfl hr19 Try.underlying131 info214) ?_
    refine s0 (rd_assign' rfl) ?_
    refine sx_nil' ?_
    show TX E (KY1 _) _
    exact tx_pick' [] (sub_cons rfl sub_nil) (by decide) pick_nil (ih1 r19 () _ hp)
   replace hp := (br_f h5).symm.trans hp
   refine cx_exit' ?_
   replace hp := Option.some.inj hp
   subst hp
   show TX E (Zg E (Exit.exit 0) _ (Exit.exit 0)) _
   exact tx_zend' () rfl [] (sub_cons rfl sub_nil) (by decide) pick_nil
  intro K8 hK8
  rcases br_cases hp with ⟨h4, hp⟩ | ⟨h4, hp⟩
  ·refine sx_rd' (rd_move' rfl) rfl rfl (wt_is' (wt_guard' rfl rfl rfl) (beq_tt h4)) ?_
   refine sx_rd' (rd_move' rfl) rfl rfl (wt_is' (wt_guard' rfl rfl rfl) (beq_tt h4)) ?_
   refine sx_rd' (rd_len' rfl Try.underlying131) rfl rfl (wt_is' (wt_guard' rfl rfl rfl) (beq_tt h4)) ?_
   refine sx_rd' (rd_bin' rfl rfl eg_int ru_sub) rfl rfl (wt_is' (wt_guard' rfl rfl rfl) (beq_tt h4)) ?_
   obtain ⟨r11, hr11, hp⟩ := bind_some hp
   refine sx_rd' (rd_at' (K := (Ki .u32)) rfl rfl hr11 Try.underlying131 info214) rfl rfl (wt_is' (wt_guard' rfl rfl rfl) (beq_tt h4)) ?_
   refine sx_rd' (rd_load_pt' rfl rfl flat214) rfl rfl (wt_is' (wt_guard' rfl rfl rfl) (beq_tt h4)) ?_
   refine sx_rd' (rd_bin' rfl rfl eg_int ru_eql) rfl rfl (wt_is' (wt_guard' rfl rfl rfl) (beq_tt h4)) ?_
   refine s0 (rd_pick_true' rfl h4 rfl) ?_
   refine sx_nil' ?_
   show TX E K8 _
   exact tx_pick' [] (sub_cons rfl (sub_cons rfl sub_nil)) (by decide) pick_nil (hK8 (decide (r11 = 0)) hp)
  refine sx_skip' rfl rfl (wt_is' (wt_guard' rfl rfl rfl) (beq_ft h4)) ?_
  refine sx_skip' rfl rfl (wt_is' (wt_guard' rfl rfl rfl) (beq_ft h4)) ?_
  refine sx_skip' rfl rfl (wt_is' (wt_guard' rfl rfl rfl) (beq_ft h4)) ?_
  refine sx_skip' rfl rfl (wt_is' (wt_guard' rfl rfl rfl) (beq_ft h4)) ?_
  refine sx_skip' rfl rfl (wt_is' (wt_guard' rfl rfl rfl) (beq_ft h4)) ?_
  refine sx_skip' rfl rfl (wt_is' (wt_guard' rfl rfl rfl) (beq_ft h4)) ?_
  refine sx_skip' rfl rfl (wt_is' (wt_guard' rfl rfl rfl) (beq_ft h4)) ?_
  refine s0 (rd_pick_false' rfl h4 rfl) ?_
  refine sx_nil' ?_
  show TX E K8 _
  exact tx_pick' [] (sub_cons rfl (sub_cons rfl sub_nil)) (by decide) pick_nil (hK8 false hp)
 refine zg_out fun w4 => ?_
 show TX E K2 _
 refine tx_k' hK2 ?_
 refine cr fun K9 hK9 => ?_
 refine s0 (rd_move' rfl) ?_
 refine s0 (rd_assign' rfl) ?_
 refine nk hK9 ?_
 refine cx_retc' ?_
 replace hp := Option.some.inj hp
 subst hp
 refine tx_pick' (L' := [(2, (Sl (Ki .u32) v4))]) (H' := []) [] (sub_cons rfl sub_nil) (by decide) pick_nil ?_
 exact tx_ret1' Try.results119 rfl () (rv_tmp' rfl) (List.Sublist.refl _)

def spec_WholeOf_j1 (k : Nat) (a0 : Int) (x1 : Int) : Option (Bool × (List Int)) :=
 (ishr .u64 x1 32) >>= fun r15 =>
 (spec_trim k ([icv .u32 x1, icv .u32 r15])) >>= fun r18 =>
 some (decide (a0 < 0), r18)
def spec_WholeOf (k : Nat) (a0 : Int) : Option (Bool × (List Int)) :=
 br (decide (a0 < 0))
  (spec_WholeOf_j1 k a0 (isub .u64 0 (icv .u64 a0)))
  (spec_WholeOf_j1 k a0 (icv .u64 a0))

theorem spec_WholeOf_sim {k : Nat}  (a0 : Int) {out : Bool × (List Int)} (hp : spec_WholeOf k a0 = some out) : Sx.Fn Try.prog 100 [(Vi a0)] [] (fun w : Unit => (Ag [(Vb out.1), (Sl (Ki .u32) out.2)])) (fun w => []) := by
 unfold spec_WholeOf at hp
 refine fn_of Try.func100 rfl Try.ntmps100 rfl fun E hM => ?_
 refine cr fun K1 hK1 => ?_
 refine sx_ox' (ox_alloc' info133 rfl rfl rfl rfl (l := [(Vb false), Vn]) rfl) (wt_none' rfl) fun q2 => ?_
 refine nk hK1 ?_
 refine cr fun K2 hK2 => ?_
 refine s0 (rd_move' rfl) ?_
 refine s0 (rd_conv' rfl (ru_i2i (by rw [Try.underlying2]; rfl) Try.underlying194)) ?_
 refine s0 (rd_assign' rfl) ?_
 refine nk hK2 ?_
 refine cx_join' (fun (v1 : Int) => (⟨20, [], [(0, (Vi a0)), (2, (Vp q2)), (3, (Vl (.int .u64 v1)))], [⟨.pointer (some q2), [(Vb false), Vn], 133, none⟩]⟩ : St)) (fun (v1 : Int) => spec_WholeOf_j1 k a0 v1 = some out) ?_ ?_
 ·rintro x1 hp
  replace hp : spec_WholeOf_j1 k a0 x1 = some out := hp
  unfold spec_WholeOf_j1 at hp
  refine cr fun K5 hK5 => ?_
  refine s0 (rd_move' rfl) ?_
  refine s0 (rd_bin' rfl rfl eg_int ru_lss) ?_
  refine s0 (rd_move' rfl) ?_
  refine s0 (rd_conv' rfl (ru_i2i (by rw [Try.underlying194]; rfl) Try.underlying214)) ?_
  refine s0 (rd_move' rfl) ?_
  obtain ⟨r15, hr15, hp⟩ := bind_some hp
  refine s0 (rd_bin' rfl rfl eg_int (ru_shr hr15)) ?_
  refine s0 (rd_conv' rfl (ru_i2i (by rw [Try.underlying194]; rfl) Try.underlying214)) ?_
  refine sx_ox' (ox_rowlit' (K := (Ki .u32)) (xs := [icv .u32 x1, icv .u32 r15]) (qs := [(0, [(Vl (.int .u32 (icv .u32 x1)))]), (1, [(Vl (.int .u32 (icv .u32 r15)))])]) ⟨rfl, ⟨_, rfl, (lv_vl rfl rfl)⟩, ⟨rfl, ⟨_, rfl, (lv_vl rfl rfl)⟩, trivial⟩⟩ Try.underlying131 info214 rfl rfl rfl rfl rfl (by kernel_rfl) rfl rfl rfl) (wt_none' rfl) fun g17 => ?_
  refine tx_fz' (frz_row 0 [(17, (Vl (Vs g17)), (Sl (Ki .u32) ([icv .u32 x1, icv .u32 r15])))] (K := (Ki .u32)) (xs := [icv .u32 x1, icv .u32 r15]) (by decide) rfl ⟨⟨rfl, frz_it⟩, trivial⟩ (H' := [⟨.pointer (some q2), [(Vb false), Vn], 133, none⟩]) frzH_refl) ?_
  obtain ⟨r18, hr18, hp⟩ := bind_some hp
  refine sx_ox' (ox_calln' (ent_fn' Try.func119 isn119 rfl rfl) (spec_trim_sim _ hr18 : Sx.Fn Try.prog 119 [(Sl (Ki .u32) ([icv .u32 x1, icv .u32 r15]))] [] (fun x : Unit => (Sl (Ki .u32) r18)) (fun x => [])) (Hn := fun x : Unit => [⟨.pointer (some q2), [(Vb false), Vn], 133, none⟩]) (fun _ => rfl) rfl rfl) (wt_none' rfl) fun ⟨⟩ => ?_
  refine s0 (rd_build' (pls := [(0, 1), (1, 1)]) (qs := [(0, [(Vb (decide (a0 < 0)))]), (1, [(Sl (Ki .u32) r18)])]) (r := [(Vb (decide (a0 < 0))), (Sl (Ki .u32) r18)]) ⟨rfl, ⟨_, rfl, (lv_vl rfl rfl)⟩, ⟨rfl, ⟨_, rfl, (lv_sl _ _)⟩, trivial⟩⟩ Try.underlying133 has133 places133 info133 rfl rfl rfl) ?_
  refine sx_ox' (ox_store' (i := 0) (o := 0) rfl rfl (lv_ag _) ⟨rfl, rfl, rfl, rfl⟩ rfl info133 rfl (H' := [⟨.pointer (some q2), [(Vb (decide (a0 < 0))), (Sl (Ki .u32) r18)], 133, none⟩]) rfl) (wt_none' rfl) fun _ => ?_
  refine nk hK5 ?_
  refine cx_retc' ?_
  replace hp := Option.some.inj hp
  subst hp
  refine tx_pick' (L' := [(2, (Vp q2))]) (H' := [⟨.pointer (some q2), [(Vb (decide (a0 < 0))), (Sl (Ki .u32) r18)], 133, none⟩]) [0] (sub_cons rfl sub_nil) (by decide) (pick_cons rfl pick_nil) ?_
  exact tx_ret1' Try.results100 rfl () (rv_cell_agg' (i := 0) (o := 0) (nn := 2) rfl ⟨rfl, rfl, rfl, rfl⟩ rfl agg133 rfl) (List.nil_sublist _)
 intro K3 hK3
 refine cr fun K4 hK4 => ?_
 refine s0 (rd_move' rfl) ?_
 refine s0 (rd_bin' rfl rfl eg_int ru_lss) ?_
 refine nk hK4 ?_
 refine cx_cond' rfl (fun h1 => ?_) (fun h1 => ?_)
 ·replace hp := (br_t h1).symm.trans hp
  refine cx_region' ?_
  refine s0 (rd_move' rfl) ?_
  refine s0 (rd_un' rfl ru_ineg) ?_
  refine s0 (rd_assign' rfl) ?_
  refine sx_nil' ?_
  show TX E K3 _
  exact tx_pick' [0] (sub_cons rfl (sub_cons rfl (sub_cons rfl sub_nil))) (by decide) (pick_cons rfl pick_nil) (hK3 (isub .u64 0 (icv .u64 a0)) hp)
 replace hp := (br_f h1).symm.trans hp
 refine cx_skip' ?_
 show TX E K3 _
 exact tx_pick' [0] (sub_cons rfl (sub_cons rfl (sub_cons rfl sub_nil))) (by decide) (pick_cons rfl pick_nil) (hK3 (icv .u64 a0) hp)

def spec_DyadicOf_j2 (k : Nat) (x2 : Int) (x3 : Int) : Option (Bool × (List Int) × Int) :=
 (spec_WholeOf k x3) >>= fun r29 =>
 some (r29.1, r29.2, isub .i64 x2 1075)
def spec_DyadicOf_j1 (k : Nat) (a0 : Nat) (x1 : Int) (x2 : Int) : Option (Bool × (List Int) × Int) :=
 (ishr .u64 (fbits a0) 63) >>= fun r24 =>
 br (decide (r24 = 1))
  (spec_DyadicOf_j2 k x2 (isub .i64 0 x1))
  (spec_DyadicOf_j2 k x2 x1)
def spec_DyadicOf (k : Nat) (a0 : Nat) : Option (Bool × (List Int) × Int) :=
 (ishr .u64 (fbits a0) 52) >>= fun r12 =>
 br (decide ((icv .i64 (iand .u64 r12 2047)) = 2047))
  (some (false, [], 0))
  (br (decide ((icv .i64 (iand .u64 r12 2047)) = 0))
   (spec_DyadicOf_j1 k a0 (icv .i64 (iand .u64 (fbits a0) 4503599627370495)) 1)
   (spec_DyadicOf_j1 k a0 (iadd .i64 (icv .i64 (iand .u64 (fbits a0) 4503599627370495)) 4503599627370496) (icv .i64 (iand .u64 r12 2047))))

theorem spec_DyadicOf_sim {k : Nat}  (a0 : Nat) {out : Bool × (List Int) × Int} (hp : spec_DyadicOf k a0 = some out) : Sx.Fn Try.prog 76 [(Vg a0)] [] (fun w : Unit => (Ag [(Vb out.1), (Sl (Ki .u32) out.2.1), (Vi out.2.2)])) (fun w => []) := by
 unfold spec_DyadicOf at hp
 refine fn_of Try.func76 rfl Try.ntmps76 rfl fun E hM => ?_
 refine cr fun K1 hK1 => ?_
 refine sx_ox' (ox_alloc' info135 rfl rfl rfl rfl (l := [(Vb false), Vn, (Vi 0)]) rfl) (wt_none' rfl) fun q2 => ?_
 refine nk hK1 ?_
 refine cr fun K2 hK2 => ?_
 refine s0 (rd_move' rfl) ?_
 refine s0 (rd_ext' (us := [.float .f64 a0]) rfl (ext99 ex_bits)) ?_
 refine s0 (rd_assign' rfl) ?_
 refine nk hK2 ?_
 refine cr fun K3 hK3 => ?_
 refine s0 (rd_move' rfl) ?_
 refine s0 (rd_bin' rfl rfl eg_int ru_and) ?_
 refine s0 (rd_conv' rfl (ru_i2i (by rw [Try.underlying194]; rfl) Try.underlying2)) ?_
 refine s0 (rd_move' rfl) ?_
 obtain ⟨r12, hr12, hp⟩ := bind_some hp
 refine s0 (rd_bin' rfl rfl eg_int (ru_shr hr12)) ?_
 refine s0 (rd_bin' rfl rfl eg_int ru_and) ?_
 refine s0 (rd_conv' rfl (ru_i2i (by rw [Try.underlying194]; rfl) Try.underlying3)) ?_
 refine s0 (rd_assign' rfl) ?_
 refine s0 (rd_assign' rfl) ?_
 refine nk hK3 ?_
 refine cx_join' (fun (v1 : Int × Int) => (⟨33, [], [(2, (Vp q2)), (3, (Vl (.int .u64 (fbits a0)))), (4, (Vi v1.1)), (5, (Vi v1.2))], [⟨.pointer (some q2), [(Vb false), Vn, (Vi 0)], 135, none⟩]⟩ : St)) (fun (v1 : Int × Int) => spec_DyadicOf_j1 k a0 v1.1 v1.2 = some out) ?_ ?_
 ·rintro ⟨x1, x2⟩ hp
  replace hp : spec_DyadicOf_j1 k a0 x1 x2 = some out := hp
  unfold spec_DyadicOf_j1 at hp
  refine cx_join' (fun (v2 : Int) => (⟨33, [], [(2, (Vp q2)), (4, (Vi v2)), (5, (Vi x2))], [⟨.pointer (some q2), [(Vb false), Vn, (Vi 0)], 135, none⟩]⟩ : St)) (fun (v2 : Int) => spec_DyadicOf_j2 k x2 v2 = some out) ?_ ?_
  ·rintro x3 hp
   replace hp : spec_DyadicOf_j2 k x2 x3 = some out := hp
   unfold spec_DyadicOf_j2 at hp
   refine cr fun K11 hK11 => ?_
   refine s0 (rd_move' rfl) ?_
   obtain ⟨r29, hr29, hp⟩ := bind_some hp
   refine sx_ox' (ox_calln' (ent_fn' Try.func100 isn100 rfl rfl) (spec_WholeOf_sim _ hr29 : Sx.Fn Try.prog 100 [(Vi x3)] [] (fun x : Unit => (Ag [(Vb r29.1), (Sl (Ki .u32) r29.2)])) (fun x => [])) (Hn := fun x : Unit => [⟨.pointer (some q2), [(Vb false), Vn, (Vi 0)], 135, none⟩]) (fun _ => rfl) rfl rfl) (wt_none' rfl) fun ⟨⟩ => ?_
   refine s0 (rd_move' rfl) ?_
   refine s0 (rd_bin' rfl rfl eg_int ru_sub) ?_
   refine s0 (rd_build' (pls := [(0, 2), (2, 1)]) (qs := [(0, [(Vb r29.1), (Sl (Ki .u32) r29.2)]), (1, [(Vi (isub .i64 x2 1075))])]) (r := [(Vb r29.1), (Sl (Ki .u32) r29.2), (Vi (isub .i64 x2 1075))]) ⟨rfl, ⟨_, rfl, (lv_ag _)⟩, ⟨rfl, ⟨_, rfl, (lv_vl rfl rfl)⟩, trivial⟩⟩ Try.underlying135 has135 places135 info135 rfl rfl rfl) ?_
   refine sx_ox' (ox_store' (i := 0) (o := 0) rfl rfl (lv_ag _) ⟨rfl, rfl, rfl, rfl⟩ rfl info135 rfl (H' := [⟨.pointer (some q2), [(Vb r29.1), (Sl (Ki .u32) r29.2), (Vi (isub .i64 x2 1075))], 135, none⟩]) rfl) (wt_none' rfl) fun _ => ?_
   refine nk hK11 ?_
   refine cx_retc' ?_
   replace hp := Option.some.inj hp
   subst hp
   refine tx_pick' (L' := [(2, (Vp q2))]) (H' := [⟨.pointer (some q2), [(Vb r29.1), (Sl (Ki .u32) r29.2), (Vi (isub .i64 x2 1075))], 135, none⟩]) [0] (sub_cons rfl sub_nil) (by decide) (pick_cons rfl pick_nil) ?_
   exact tx_ret1' Try.results76 rfl () (rv_cell_agg' (i := 0) (o := 0) (nn := 3) rfl ⟨rfl, rfl, rfl, rfl⟩ rfl agg135 rfl) (List.nil_sublist _)
  intro K9 hK9
  refine cr fun K10 hK10 => ?_
  refine s0 (rd_move' rfl) ?_
  obtain ⟨r24, hr24, hp⟩ := bind_some hp
  refine s0 (rd_bin' rfl rfl eg_int (ru_shr hr24)) ?_
  refine s0 (rd_bin' rfl rfl eg_int ru_eql) ?_
  refine nk hK10 ?_
  refine cx_cond' rfl (fun h3 => ?_) (fun h3 => ?_)
  ·replace hp := (br_t h3).symm.trans hp
   refine cx_region' ?_
   refine s0 (rd_move' rfl) ?_
   refine s0 (rd_un' rfl ru_ineg) ?_
   refine s0 (rd_assign' rfl) ?_
   refine sx_nil' ?_
   show TX E K9 _
   exact tx_pick' [0] (sub_cons rfl (sub_cons rfl (sub_cons rfl sub_nil))) (by decide) (pick_cons rfl pick_nil) (hK9 (isub .i64 0 x1) hp)
  replace hp := (br_f h3).symm.trans hp
  refine cx_skip' ?_
  show TX E K9 _
  exact tx_pick' [0] (sub_cons rfl (sub_cons rfl (sub_cons rfl sub_nil))) (by decide) (pick_cons rfl pick_nil) (hK9 x1 hp)
 intro K4 hK4
 refine cr fun K5 hK5 => ?_
 refine s0 (rd_move' rfl) ?_
 refine nk hK5 ?_
 refine cx_block' ?_
 refine cr fun K6 hK6 => ?_
 refine s0 (rd_bin' rfl rfl eg_int ru_eql) ?_
 refine s0 (rd_assign' rfl) ?_
 refine nk hK6 ?_
 refine cx_cond' rfl (fun h1 => ?_) (fun h1 => ?_)
 ·replace hp := (br_t h1).symm.trans hp
  refine cr fun K7 hK7 => ?_
  refine s0 (rd_build' (pls := [(0, 2), (2, 1)]) (qs := []) (r := [(Vb false), Vn, (Vi 0)]) trivial Try.underlying135 has135 places135 info135 rfl rfl rfl) ?_
  refine sx_ox' (ox_store' (i := 0) (o := 0) rfl rfl (lv_ag _) ⟨rfl, rfl, rfl, rfl⟩ rfl info135 rfl (H' := [⟨.pointer (some q2), [(Vb false), Vn, (Vi 0)], 135, none⟩]) rfl) (wt_none' rfl) fun _ => ?_
  refine nk hK7 ?_
  refine cx_retc' ?_
  replace hp := Option.some.inj hp
  subst hp
  refine tx_pick' (L' := [(2, (Vp q2))]) (H' := [⟨.pointer (some q2), [(Vb false), Vn, (Vi 0)], 135, none⟩]) [0] (sub_cons rfl sub_nil) (by decide) (pick_cons rfl pick_nil) ?_
  exact tx_ret1' Try.results76 rfl () (rv_imp' (x := (Ag [(Vb false), Vn, (Vi 0)])) (y := (Ag [(Vb false), (Sl (Ki .u32) []), (Vi 0)])) (rv_cell_agg' (i := 0) (o := 0) (nn := 3) rfl ⟨rfl, rfl, rfl, rfl⟩ rfl agg135 rfl) (imp_ag ⟨imp_refl, imp_nil, imp_refl, trivial⟩)) (List.nil_sublist _)
 replace hp := (br_f h1).symm.trans hp
 refine cr fun K8 hK8 => ?_
 refine s0 (rd_bin' rfl rfl eg_int ru_eql) ?_
 refine s0 (rd_assign' rfl) ?_
 refine nk hK8 ?_
 refine cx_cond' rfl (fun h2 => ?_) (fun h2 => ?_)
 ·replace hp := (br_t h2).symm.trans hp
  refine cx_region' ?_
  refine s0 (rd_assign' rfl) ?_
  refine sx_nil' ?_
  show TX E K4 _
  exact tx_pick' [0] (sub_cons rfl (sub_cons rfl (sub_cons rfl (sub_cons rfl sub_nil)))) (by decide) (pick_cons rfl pick_nil) (hK4 ((icv .i64 (iand .u64 (fbits a0) 4503599627370495)), 1) hp)
 replace hp := (br_f h2).symm.trans hp
 refine cx_region' ?_
 refine s0 (rd_move' rfl) ?_
 refine s0 (rd_bin' rfl rfl eg_int ru_add) ?_
 refine s0 (rd_assign' rfl) ?_
 refine sx_nil' ?_
 show TX E K4 _
 exact tx_pick' [0] (sub_cons rfl (sub_cons rfl (sub_cons rfl (sub_cons rfl sub_nil)))) (by decide) (pick_cons rfl pick_nil) (hK4 ((iadd .i64 (icv .i64 (iand .u64 (fbits a0) 4503599627370495)) 4503599627370496), (icv .i64 (iand .u64 r12 2047))) hp)
theorem spec_DyadicOf_isn {k x : Nat} (h : isn x = true) : spec_DyadicOf k x = some (false, [], 0) := by
 obtain ⟨s, t, e⟩ := isn_datum.1 h
 have hE : x / 2 ^ 52 % 2048 = 2047 := by
  have hi : Ieee.double.infRung = 2047 * 2 ^ 52 := by decide
  have hs : Ieee.double.signWeight = 2 ^ 63 := by decide
  have hf : FloatKind.f64.format = Ieee.double := rfl
  rw [hf] at e
  unfold Ieee.Format.read at e
  simp only [hs, hi] at e
  split at e
  ·cases e
  split at e
  ·cases e
  omega
 have r52 : ishr .u64 (fbits x) 52 = some ((x / 2 ^ 52 : Nat) : Int) := by
  unfold ishr fbits
  rw [if_neg (by omega)]
  have h52 : (2 : Int) ^ (min (Int.toNat 52) IntKind.u64.bits) = ((2 ^ 52 : Nat) : Int) := by decide
  rw [h52, Int.fdiv_eq_ediv_of_nonneg _ (by omega), ← Int.natCast_ediv]
 have iE : iand .u64 ((x / 2 ^ 52 : Nat) : Int) 2047 = 2047 := by
  unfold iand
  have h1 : (BitVec.ofInt 64 ((x / 2 ^ 52 : Nat) : Int)) = BitVec.ofNat 64 (x / 2 ^ 52) := by
   exact BitVec.ofInt_natCast ..
  have e3 : (BitVec.ofInt IntKind.u64.bits ((x / 2 ^ 52 : Nat) : Int) &&& BitVec.ofInt IntKind.u64.bits 2047).toNat = 2047 := by
   show (BitVec.ofInt 64 ((x / 2 ^ 52 : Nat) : Int) &&& BitVec.ofInt 64 2047).toNat = _
   rw [h1, BitVec.toNat_and, BitVec.toNat_ofNat, show (BitVec.ofInt 64 2047).toNat = 2 ^ 11 - 1 from rfl, Nat.and_two_pow_sub_one_eq_mod]
   omega
  rw [e3]; rfl
 unfold spec_DyadicOf
 rw [r52]
 simp only [Option.bind_eq_bind, Option.bind_some, iE]
 rfl
theorem spec_DyadicOf_nan {k x y : Nat} (h1 : isn x = true) (h2 : isn y = true) : spec_DyadicOf k y = spec_DyadicOf k x := by
 rw [spec_DyadicOf_isn h1, spec_DyadicOf_isn h2]

def spec_Whole_Mul_l2s (a1_1 : List Int) (x12 : Int) (r26 : Int) (k : Nat) (rec2 : ((List Int) × Int × Int) → Option ((List Int) × Int)) (x6 : List Int) (x7 : Int) (x8 : Int) : Option ((List Int) × Int) :=
 br (decide (x8 < (a1_1.length : Int)))
  ((idx a1_1 x8) >>= fun r34 =>
  (idx x6 (iadd .i64 x12 x8)) >>= fun r45 =>
  (idx x6 (iadd .i64 x12 x8)) >>= fun r57 =>
  (ishr .u64 (iadd .u64 (iadd .u64 (imul .u64 (icv .u64 r26) (icv .u64 r34)) (icv .u64 r45)) x7) 32) >>= fun r59 =>
  rec2 ((x6.set (iadd .i64 x12 x8).toNat (icv .u32 (iadd .u64 (iadd .u64 (imul .u64 (icv .u64 r26) (icv .u64 r34)) (icv .u64 r45)) x7))), r59, (iadd .i64 x8 1)))
  (some (x6, x7))
def spec_Whole_Mul_l2 (a1_1 : List Int) (x12 : Int) (r26 : Int) : Nat → ((List Int) × Int × Int) → Option ((List Int) × Int)
 | 0, _ => none
 | k + 1, v => spec_Whole_Mul_l2s a1_1 x12 r26 k (spec_Whole_Mul_l2 a1_1 x12 r26 k) v.1 v.2.1 v.2.2
def spec_Whole_Mul_l3s (a0_1 : List Int) (a1_1 : List Int) (k : Nat) (rec3 : ((List Int) × Int) → Option ((List Int))) (x11 : List Int) (x12 : Int) : Option ((List Int)) :=
 br (decide (x12 < (a0_1.length : Int)))
  ((idx a0_1 x12) >>= fun r26 =>
  (spec_Whole_Mul_l2 a1_1 x12 r26 k (x11, 0, 0)) >>= fun v5 =>
  (idx v5.1 (iadd .i64 x12 (a1_1.length : Int))) >>= fun r69 =>
  rec3 ((v5.1.set (iadd .i64 x12 (a1_1.length : Int)).toNat (icv .u32 v5.2)), (iadd .i64 x12 1)))
  (some x11)
def spec_Whole_Mul_l3 (a0_1 : List Int) (a1_1 : List Int) : Nat → ((List Int) × Int) → Option ((List Int))
 | 0, _ => none
 | k + 1, v => spec_Whole_Mul_l3s a0_1 a1_1 k (spec_Whole_Mul_l3 a0_1 a1_1 k) v.1 v.2
def spec_Whole_Mul_j1 (k : Nat) (r72 : (List Int)) (x14 : Bool) : Option (Bool × (List Int)) :=
 some (x14, r72)
def spec_Whole_Mul (k : Nat) (a0_0 : Bool) (a0_1 : List Int) (a1_0 : Bool) (a1_1 : List Int) : Option (Bool × (List Int)) :=
 (mk 4 0 (iadd .i64 (a0_1.length : Int) (a1_1.length : Int)) (iadd .i64 (a0_1.length : Int) (a1_1.length : Int))) >>= fun r19 =>
 (spec_Whole_Mul_l3 a0_1 a1_1 k (r19, 0)) >>= fun v6 =>
 (spec_trim k v6) >>= fun r72 =>
 br (decide (0 < (r72.length : Int)))
  (spec_Whole_Mul_j1 k r72 (!(a0_0 == a1_0)))
  (spec_Whole_Mul_j1 k r72 false)

theorem spec_Whole_Mul_sim {k : Nat}  (a0_0 : Bool) (a0_1 : List Int) (a1_0 : Bool) (a1_1 : List Int) {out : Bool × (List Int)} (hp : spec_Whole_Mul k a0_0 a0_1 a1_0 a1_1 = some out) : Sx.Fn Try.prog 101 [(Ag [(Vb a0_0), (Sl (Ki .u32) a0_1)]), (Ag [(Vb a1_0), (Sl (Ki .u32) a1_1)])] [] (fun w : Unit => (Ag [(Vb out.1), (Sl (Ki .u32) out.2)])) (fun w => []) := by
 unfold spec_Whole_Mul at hp
 refine fn_of Try.func101 rfl Try.ntmps101 rfl fun E hM => ?_
 refine cr fun K1 hK1 => ?_
 refine sx_ox' (ox_box' rfl (lv_ag _) rfl rfl) (wt_none' rfl) fun q2 => ?_
 refine sx_ox' (ox_box' rfl (lv_ag _) rfl rfl) (wt_none' rfl) fun q3 => ?_
 refine sx_ox' (ox_alloc' info133 rfl rfl rfl rfl (l := [(Vb false), Vn]) rfl) (wt_none' rfl) fun q4 => ?_
 refine nk hK1 ?_
 refine cr fun K2 hK2 => ?_
 refine s0 (rd_field' (off := 1) rfl Try.underlying133 rfl info131 rfl) ?_
 refine s0 (rd_load' (i := 2) (o := 1) rfl ⟨rfl, rfl, rfl, rfl⟩ rfl flat131) ?_
 refine s0 (rd_len' rfl Try.underlying131) ?_
 refine s0 (rd_field' (off := 1) rfl Try.underlying133 rfl info131 rfl) ?_
 refine s0 (rd_load' (i := 1) (o := 1) rfl ⟨rfl, rfl, rfl, rfl⟩ rfl flat131) ?_
 refine s0 (rd_len' rfl Try.underlying131) ?_
 refine s0 (rd_bin' rfl rfl eg_int ru_add) ?_
 obtain ⟨r19, hr19, hp⟩ := bind_some hp
 refine sx_ox' (ox_make' (K := (Ki .u32)) rfl rfl hr19 rfl Try.underlying131 info214 rfl rfl rfl rfl rfl) (wt_none' rfl) fun g19 => ?_
 refine s0 (rd_assign' rfl) ?_
 refine nk hK2 ?_
 refine cx_seq' fun K3 hK3 => ?_
 refine cr fun K4 hK4 => ?_
 refine s0 (rd_field' (off := 1) rfl Try.underlying133 rfl info131 rfl) ?_
 refine s0 (rd_load' (i := 3) (o := 1) rfl ⟨rfl, rfl, rfl, rfl⟩ rfl flat131) ?_
 refine s0 (rd_len' rfl Try.underlying131) ?_
 refine s0 (rd_move' rfl) ?_
 refine nk hK4 ?_
 refine cx_block' ?_
 obtain ⟨v6, hy3, hp⟩ := bind_some hp
 refine cx_loopg' (F := spec_Whole_Mul_l3 a0_1 a1_1) (G := fun k R v => spec_Whole_Mul_l3s a0_1 a1_1 k R v.1 v.2) (x := (r19, 0)) (gh := ()) (fun (v3 : (List Int) × Int) (w3 : Unit) => (⟨85, [], [(2, (Vp q2)), (3, (Vp q3)), (4, (Vp q4)), (5, (Vl (Vs g19))), (21, (Sl (Ki .u32) a0_1)), (22, (Vi (a0_1.length : Int))), (23, (Vi v3.2))], [⟨.pointer (some q2), [(Vb a0_0), (Sl (Ki .u32) a0_1)], 133, none⟩, ⟨.pointer (some q3), [(Vb a1_0), (Sl (Ki .u32) a1_1)], 133, none⟩, ⟨.pointer (some q4), [(Vb false), Vn], 133, none⟩, (Rw (Ki .u32) 214 (Vs g19) v3.1)]⟩ : St)) (fun (v6 : (List Int)) => Zg E (Exit.exit 0) (fun (w6 : Unit) => (⟨85, [], [(2, (Vp q2)), (3, (Vp q3)), (4, (Vp q4)), (5, (Vl (Vs g19)))], [⟨.pointer (some q2), [(Vb a0_0), (Sl (Ki .u32) a0_1)], 133, none⟩, ⟨.pointer (some q3), [(Vb a1_0), (Sl (Ki .u32) a1_1)], 133, none⟩, ⟨.pointer (some q4), [(Vb false), Vn], 133, none⟩, (Rw (Ki .u32) 214 (Vs g19) v6)]⟩ : St))) (fun _ => rfl) (fun _ _ => rfl) ?_ hy3 (tx_to' rfl [3, 2, 1, 0] (sub_cons rfl (sub_cons rfl (sub_cons rfl (sub_cons rfl (sub_cons rfl (sub_cons rfl (sub_cons rfl sub_nil))))))) (by decide) (pick_cons rfl (pick_cons rfl (pick_cons rfl (pick_cons rfl pick_nil))))) ?_
 ·clear hp hy3
  clear v6
  intro k rec3 KY3 ih3
  rintro ⟨x11, x12⟩ ⟨⟩ y3 hp
  replace hp : spec_Whole_Mul_l3s a0_1 a1_1 k rec3 x11 x12 = some y3 := hp
  unfold spec_Whole_Mul_l3s at hp
  refine cr fun K24 hK24 => ?_
  refine s0 (rd_bin' rfl rfl eg_int ru_lss) ?_
  refine nk hK24 ?_
  refine cx_seq' fun K25 hK25 => ?_
  refine cx_cond' rfl (fun h6 => ?_) (fun h6 => ?_)
  ·replace hp := (br_t h6).symm.trans hp
   refine cx_skip' ?_
   show TX E K25 _
   refine tx_k' hK25 ?_
   refine cx_seq' fun K26 hK26 => ?_
   refine cx_block' ?_
   refine cr fun K27 hK27 => ?_
   refine s0 (rd_move' rfl) ?_
   obtain ⟨r26, hr26, hp⟩ := bind_some hp
   refine s0 (rd_at' (K := (Ki .u32)) rfl rfl hr26 Try.underlying131 info214) ?_
   refine s0 (rd_load_pt' rfl rfl flat214) ?_
   refine s0 (rd_assign' rfl) ?_
   refine s0 (rd_assign' rfl) ?_
   refine nk hK27 ?_
   refine cr fun K28 hK28 => ?_
   refine s0 (rd_assign' rfl) ?_
   refine nk hK28 ?_
   refine cx_seq' fun K29 hK29 => ?_
   refine cr fun K30 hK30 => ?_
   refine s0 (rd_field' (off := 1) rfl Try.underlying133 rfl info131 rfl) ?_
   refine s0 (rd_load' (i := 1) (o := 1) rfl ⟨rfl, rfl, rfl, rfl⟩ rfl flat131) ?_
   refine s0 (rd_len' rfl Try.underlying131) ?_
   refine s0 (rd_move' rfl) ?_
   refine nk hK30 ?_
   refine cx_block' ?_
   obtain ⟨v5, hy2, hp⟩ := bind_some hp
   refine cx_loopg' (F := spec_Whole_Mul_l2 a1_1 x12 r26) (G := fun k R v => spec_Whole_Mul_l2s a1_1 x12 r26 k R v.1 v.2.1 v.2.2) (x := (x11, 0, 0)) (gh := ()) (fun (v4 : (List Int) × Int × Int) (w4 : Unit) => (⟨85, [], [(2, (Vp q2)), (3, (Vp q3)), (4, (Vp q4)), (5, (Vl (Vs g19))), (6, (Vi x12)), (7, (Vl (.int .u32 r26))), (8, (Vl (.int .u64 v4.2.1))), (21, (Sl (Ki .u32) a0_1)), (22, (Vi (a0_1.length : Int))), (23, (Vi x12)), (29, (Sl (Ki .u32) a1_1)), (30, (Vi (a1_1.length : Int))), (31, (Vi v4.2.2))], [⟨.pointer (some q2), [(Vb a0_0), (Sl (Ki .u32) a0_1)], 133, none⟩, ⟨.pointer (some q3), [(Vb a1_0), (Sl (Ki .u32) a1_1)], 133, none⟩, ⟨.pointer (some q4), [(Vb false), Vn], 133, none⟩, (Rw (Ki .u32) 214 (Vs g19) v4.1)]⟩ : St)) (fun (v5 : (List Int) × Int) => Zg E (Exit.exit 2) (fun (w5 : Unit) => (⟨85, [], [(2, (Vp q2)), (3, (Vp q3)), (4, (Vp q4)), (5, (Vl (Vs g19))), (6, (Vi x12)), (8, (Vl (.int .u64 v5.2))), (21, (Sl (Ki .u32) a0_1)), (22, (Vi (a0_1.length : Int))), (23, (Vi x12))], [⟨.pointer (some q2), [(Vb a0_0), (Sl (Ki .u32) a0_1)], 133, none⟩, ⟨.pointer (some q3), [(Vb a1_0), (Sl (Ki .u32) a1_1)], 133, none⟩, ⟨.pointer (some q4), [(Vb false), Vn], 133, none⟩, (Rw (Ki .u32) 214 (Vs g19) v5.1)]⟩ : St))) (fun _ => rfl) (fun _ _ => rfl) ?_ hy2 (tx_to' rfl [0, 1, 2, 3] (sub_cons rfl (sub_cons rfl (sub_cons rfl (sub_cons rfl (sub_cons rfl (sub_cons rfl (sub_cons rfl (sub_cons rfl (sub_cons rfl (sub_cons rfl (sub_cons rfl (sub_cons rfl (sub_cons rfl sub_nil))))))))))))) (by decide) (pick_cons rfl (pick_cons rfl (pick_cons rfl (pick_cons rfl pick_nil))))) ?_
   ·clear hp hy2
    clear v5
    intro k rec2 KY2 ih2
    rintro ⟨x6, x7, x8⟩ ⟨⟩ y2 hp
    replace hp : spec_Whole_Mul_l2s a1_1 x12 r26 k rec2 x6 x7 x8 = some y2 := hp
    unfold spec_Whole_Mul_l2s at hp
    refine cr fun K37 hK37 => ?_
    refine s0 (rd_bin' rfl rfl eg_int ru_lss) ?_
    refine nk hK37 ?_
    refine cx_seq' fun K38 hK38 => ?_
    refine cx_cond' rfl (fun h9 => ?_) (fun h9 => ?_)
    ·replace hp := (br_t h9).symm.trans hp
     refine cx_skip' ?_
     show TX E K38 _
     refine tx_k' hK38 ?_
     refine cx_seq' fun K39 hK39 => ?_
     refine cx_block' ?_
     refine cr fun K40 hK40 => ?_
     refine s0 (rd_move' rfl) ?_
     obtain ⟨r34, hr34, hp⟩ := bind_some hp
     refine s0 (rd_at' (K := (Ki .u32)) rfl rfl hr34 Try.underlying131 info214) ?_
     refine s0 (rd_load_pt' rfl rfl flat214) ?_
     refine s0 (rd_assign' rfl) ?_
     refine s0 (rd_assign' rfl) ?_
     refine nk hK40 ?_
     refine cr fun K41 hK41 => ?_
     refine s0 (rd_move' rfl) ?_
     refine s0 (rd_conv' rfl (ru_i2i (by rw [Try.underlying214]; rfl) Try.underlying194)) ?_
     refine s0 (rd_move' rfl) ?_
     refine s0 (rd_conv' rfl (ru_i2i (by rw [Try.underlying214]; rfl) Try.underlying194)) ?_
     refine s0 (rd_bin' rfl rfl eg_int ru_mul) ?_
     refine s0 (rd_move' rfl) ?_
     refine s0 (rd_move' rfl) ?_
     refine s0 (rd_move' rfl) ?_
     refine s0 (rd_bin' rfl rfl eg_int ru_add) ?_
     obtain ⟨r45, hr45, hp⟩ := bind_some hp
     refine s0 (rd_atr' (m := 3) rfl rfl rfl rfl hr45 Try.underlying131 info214) ?_
     refine s0 (rd_loadr' rfl (m := 3) (i := (iadd .i64 x12 x8)) (j := 0) rfl rfl hr45 rfl rfl flat214) ?_
     refine s0 (rd_conv' rfl (ru_i2i (by rw [Try.underlying214]; rfl) Try.underlying194)) ?_
     refine s0 (rd_bin' rfl rfl eg_int ru_add) ?_
     refine s0 (rd_move' rfl) ?_
     refine s0 (rd_bin' rfl rfl eg_int ru_add) ?_
     refine s0 (rd_assign' rfl) ?_
     refine nk hK41 ?_
     refine cr fun K42 hK42 => ?_
     refine s0 (rd_move' rfl) ?_
     refine s0 (rd_move' rfl) ?_
     refine s0 (rd_move' rfl) ?_
     refine s0 (rd_bin' rfl rfl eg_int ru_add) ?_
     refine s0 (rd_move' rfl) ?_
     refine s0 (rd_conv' rfl (ru_i2i (by rw [Try.underlying194]; rfl) Try.underlying214)) ?_
     obtain ⟨r57, hr57, hp⟩ := bind_some hp
     refine s0 (rd_atr' (m := 3) rfl rfl rfl rfl hr57 Try.underlying131 info214) ?_
     refine sx_ox' (ox_storer' (m := 3) (i := (iadd .i64 x12 x8)) (j := 0) (x' := (icv .u32 (iadd .u64 (iadd .u64 (imul .u64 (icv .u64 r26) (icv .u64 r34)) (icv .u64 r45)) x7))) rfl rfl (lv_vl rfl rfl) rfl rfl hr57 rfl rfl rfl info214 rfl (H' := [⟨.pointer (some q2), [(Vb a0_0), (Sl (Ki .u32) a0_1)], 133, none⟩, ⟨.pointer (some q3), [(Vb a1_0), (Sl (Ki .u32) a1_1)], 133, none⟩, ⟨.pointer (some q4), [(Vb false), Vn], 133, none⟩, (Rw (Ki .u32) 214 (Vs g19) (x6.set (iadd .i64 x12 x8).toNat (icv .u32 (iadd .u64 (iadd .u64 (imul .u64 (icv .u64 r26) (icv .u64 r34)) (icv .u64 r45)) x7))))]) rfl) (wt_none' rfl) fun _ => ?_
     refine nk hK42 ?_
     refine cx_region' ?_
     refine s0 (rd_move' rfl) ?_
     obtain ⟨r59, hr59, hp⟩ := bind_some hp
     refine s0 (rd_bin' rfl rfl eg_int (ru_shr hr59)) ?_
     refine s0 (rd_assign' rfl) ?_
     refine nk hK39 ?_
     refine cx_region' ?_
     refine s0 (rd_bin' rfl rfl eg_int ru_add) ?_
     refine s0 (rd_move' rfl) ?_
     refine sx_nil' ?_
     show TX E (KY2 _) _
     exact tx_pick' [0, 1, 2, 3] (sub_cons rfl (sub_cons rfl (sub_cons rfl (sub_cons rfl (sub_cons rfl (sub_cons rfl (sub_cons rfl (sub_cons rfl (sub_cons rfl (sub_cons rfl (sub_cons rfl (sub_cons rfl (sub_cons rfl sub_nil))))))))))))) (by decide) (pick_cons rfl (pick_cons rfl (pick_cons rfl (pick_cons rfl pick_nil)))) (ih2 ((x6.set (iadd .i64 x12 x8).toNat (icv .u32 (iadd .u64 (iadd .u64 (imul .u64 (icv .u64 r26) (icv .u64 r34)) (icv .u64 r45)) x7))), r59, (iadd .i64 x8 1)) () _ hp)
    replace hp := (br_f h9).symm.trans hp
    refine cx_exit' ?_
    replace hp := Option.some.inj hp
    subst hp
    show TX E (Zg E (Exit.exit 2) _ (Exit.exit 2)) _
    exact tx_zend' () rfl [0, 1, 2, 3] (sub_cons rfl (sub_cons rfl (sub_cons rfl (sub_cons rfl (sub_cons rfl (sub_cons rfl (sub_cons rfl (sub_cons rfl (sub_cons rfl sub_nil))))))))) (by decide) (pick_cons rfl (pick_cons rfl (pick_cons rfl (pick_cons rfl pick_nil))))
   refine zg_out fun w5 => ?_
   show TX E K29 _
   refine tx_k' hK29 ?_
   refine cx_region' ?_
   refine s0 (rd_move' rfl) ?_
   refine s0 (rd_move' rfl) ?_
   refine s0 (rd_field' (off := 1) rfl Try.underlying133 rfl info131 rfl) ?_
   refine s0 (rd_load' (i := 1) (o := 1) rfl ⟨rfl, rfl, rfl, rfl⟩ rfl flat131) ?_
   refine s0 (rd_len' rfl Try.underlying131) ?_
   refine s0 (rd_bin' rfl rfl eg_int ru_add) ?_
   refine s0 (rd_move' rfl) ?_
   refine s0 (rd_conv' rfl (ru_i2i (by rw [Try.underlying194]; rfl) Try.underlying214)) ?_
   obtain ⟨r69, hr69, hp⟩ := bind_some hp
   refine s0 (rd_atr' (m := 3) rfl rfl rfl rfl hr69 Try.underlying131 info214) ?_
   refine sx_ox' (ox_storer' (m := 3) (i := (iadd .i64 x12 (a1_1.length : Int))) (j := 0) (x' := (icv .u32 v5.2)) rfl rfl (lv_vl rfl rfl) rfl rfl hr69 rfl rfl rfl info214 rfl (H' := [⟨.pointer (some q2), [(Vb a0_0), (Sl (Ki .u32) a0_1)], 133, none⟩, ⟨.pointer (some q3), [(Vb a1_0), (Sl (Ki .u32) a1_1)], 133, none⟩, ⟨.pointer (some q4), [(Vb false), Vn], 133, none⟩, (Rw (Ki .u32) 214 (Vs g19) (v5.1.set (iadd .i64 x12 (a1_1.length : Int)).toNat (icv .u32 v5.2)))]) rfl) (wt_none' rfl) fun _ => ?_
   refine nk hK26 ?_
   refine cx_region' ?_
   refine s0 (rd_bin' rfl rfl eg_int ru_add) ?_
   refine s0 (rd_move' rfl) ?_
   refine sx_nil' ?_
   show TX E (KY3 _) _
   exact tx_pick' [0, 1, 2, 3] (sub_cons rfl (sub_cons rfl (sub_cons rfl (sub_cons rfl (sub_cons rfl (sub_cons rfl (sub_cons rfl sub_nil))))))) (by decide) (pick_cons rfl (pick_cons rfl (pick_cons rfl (pick_cons rfl pick_nil)))) (ih3 ((v5.1.set (iadd .i64 x12 (a1_1.length : Int)).toNat (icv .u32 v5.2)), (iadd .i64 x12 1)) () _ hp)
  replace hp := (br_f h6).symm.trans hp
  refine cx_exit' ?_
  replace hp := Option.some.inj hp
  subst hp
  show TX E (Zg E (Exit.exit 0) _ (Exit.exit 0)) _
  exact tx_zend' () rfl [0, 1, 2, 3] (sub_cons rfl (sub_cons rfl (sub_cons rfl (sub_cons rfl sub_nil)))) (by decide) (pick_cons rfl (pick_cons rfl (pick_cons rfl (pick_cons rfl pick_nil))))
 refine zg_out fun w6 => ?_
 show TX E K3 _
 refine tx_k' hK3 ?_
 refine cr fun K43 hK43 => ?_
 refine s0 (rd_move' rfl) ?_
 refine tx_fz' (frz_row 3 [(5, (Vl (Vs g19)), (Sl (Ki .u32) v6)), (71, (Vl (Vs g19)), (Sl (Ki .u32) v6))] (K := (Ki .u32)) (xs := v6) (by decide) rfl ⟨⟨rfl, frz_it⟩, ⟨rfl, frz_it⟩, trivial⟩ (H' := [⟨.pointer (some q2), [(Vb a0_0), (Sl (Ki .u32) a0_1)], 133, none⟩, ⟨.pointer (some q3), [(Vb a1_0), (Sl (Ki .u32) a1_1)], 133, none⟩, ⟨.pointer (some q4), [(Vb false), Vn], 133, none⟩]) frzH_refl) ?_
 obtain ⟨r72, hr72, hp⟩ := bind_some hp
 refine sx_ox' (ox_calln' (ent_fn' Try.func119 isn119 rfl rfl) (spec_trim_sim _ hr72 : Sx.Fn Try.prog 119 [(Sl (Ki .u32) v6)] [] (fun x : Unit => (Sl (Ki .u32) r72)) (fun x => [])) (Hn := fun x : Unit => [⟨.pointer (some q2), [(Vb a0_0), (Sl (Ki .u32) a0_1)], 133, none⟩, ⟨.pointer (some q3), [(Vb a1_0), (Sl (Ki .u32) a1_1)], 133, none⟩, ⟨.pointer (some q4), [(Vb false), Vn], 133, none⟩]) (fun _ => rfl) rfl rfl) (wt_none' rfl) fun ⟨⟩ => ?_
 refine s0 (rd_assign' rfl) ?_
 refine nk hK43 ?_
 refine cr fun K44 hK44 => ?_
 refine s0 (rd_move' rfl) ?_
 refine s0 (rd_len' rfl Try.underlying131) ?_
 refine s0 (rd_bin' rfl rfl eg_int ru_gtr) ?_
 refine s0 (rd_move' rfl) ?_
 refine sx_cutn' 6 (fun (v7 : Bool) => (⟨85, [], [(4, (Vp q4)), (5, (Sl (Ki .u32) r72)), (82, (Vb v7))], [⟨.pointer (some q4), [(Vb false), Vn], 133, none⟩]⟩ : St)) (fun (v7 : Bool) => spec_Whole_Mul_j1 k r72 v7 = some out) ?_ ?_
 ·rintro x14 hp
  replace hp : spec_Whole_Mul_j1 k r72 x14 = some out := hp
  unfold spec_Whole_Mul_j1 at hp
  refine s0 (rd_move' rfl) ?_
  refine s0 (rd_build' (pls := [(0, 1), (1, 1)]) (qs := [(0, [(Vb x14)]), (1, [(Sl (Ki .u32) r72)])]) (r := [(Vb x14), (Sl (Ki .u32) r72)]) ⟨rfl, ⟨_, rfl, (lv_vl rfl rfl)⟩, ⟨rfl, ⟨_, rfl, (lv_sl _ _)⟩, trivial⟩⟩ Try.underlying133 has133 places133 info133 rfl rfl rfl) ?_
  refine sx_ox' (ox_store' (i := 0) (o := 0) rfl rfl (lv_ag _) ⟨rfl, rfl, rfl, rfl⟩ rfl info133 rfl (H' := [⟨.pointer (some q4), [(Vb x14), (Sl (Ki .u32) r72)], 133, none⟩]) rfl) (wt_none' rfl) fun _ => ?_
  refine nk hK44 ?_
  refine cx_retc' ?_
  replace hp := Option.some.inj hp
  subst hp
  refine tx_pick' (L' := [(4, (Vp q4))]) (H' := [⟨.pointer (some q4), [(Vb x14), (Sl (Ki .u32) r72)], 133, none⟩]) [0] (sub_cons rfl sub_nil) (by decide) (pick_cons rfl pick_nil) ?_
  exact tx_ret1' Try.results101 rfl () (rv_cell_agg' (i := 0) (o := 0) (nn := 2) rfl ⟨rfl, rfl, rfl, rfl⟩ rfl agg133 rfl) (List.nil_sublist _)
 intro K45 hK45
 rcases br_cases hp with ⟨h10, hp⟩ | ⟨h10, hp⟩
 ·refine sx_rd' (rd_field0' rfl Try.underlying133 rfl info4 rfl) rfl rfl (wt_is' (wt_guard' rfl rfl rfl) (beq_tt h10)) ?_
  refine sx_rd' (rd_load' (i := 0) (o := 0) rfl ⟨rfl, rfl, rfl, rfl⟩ rfl flat4) rfl rfl (wt_is' (wt_guard' rfl rfl rfl) (beq_tt h10)) ?_
  refine sx_rd' (rd_field0' rfl Try.underlying133 rfl info4 rfl) rfl rfl (wt_is' (wt_guard' rfl rfl rfl) (beq_tt h10)) ?_
  refine sx_rd' (rd_load' (i := 1) (o := 0) rfl ⟨rfl, rfl, rfl, rfl⟩ rfl flat4) rfl rfl (wt_is' (wt_guard' rfl rfl rfl) (beq_tt h10)) ?_
  refine sx_rd' (rd_bin' rfl rfl eg_bool (ru_bne Try.underlying4)) rfl rfl (wt_is' (wt_guard' rfl rfl rfl) (beq_tt h10)) ?_
  refine s0 (rd_pick_true' rfl h10 rfl) ?_
  refine sx_nil' ?_
  show TX E K45 _
  exact tx_pick' [2] (sub_cons rfl (sub_cons rfl (sub_cons rfl sub_nil))) (by decide) (pick_cons rfl pick_nil) (hK45 (!(a0_0 == a1_0)) hp)
 refine sx_skip' rfl rfl (wt_is' (wt_guard' rfl rfl rfl) (beq_ft h10)) ?_
 refine sx_skip' rfl rfl (wt_is' (wt_guard' rfl rfl rfl) (beq_ft h10)) ?_
 refine sx_skip' rfl rfl (wt_is' (wt_guard' rfl rfl rfl) (beq_ft h10)) ?_
 refine sx_skip' rfl rfl (wt_is' (wt_guard' rfl rfl rfl) (beq_ft h10)) ?_
 refine sx_skip' rfl rfl (wt_is' (wt_guard' rfl rfl rfl) (beq_ft h10)) ?_
 refine s0 (rd_pick_false' rfl h10 rfl) ?_
 refine sx_nil' ?_
 show TX E K45 _
 exact tx_pick' [2] (sub_cons rfl (sub_cons rfl (sub_cons rfl sub_nil))) (by decide) (pick_cons rfl pick_nil) (hK45 false hp)

def spec_Dyadic_Mul (k : Nat) (a0_0 : Bool) (a0_1 : List Int) (a0_2 : Int) (a1_0 : Bool) (a1_1 : List Int) (a1_2 : Int) : Option (Bool × (List Int) × Int) :=
 (spec_Whole_Mul k a0_0 a0_1 a1_0 a1_1) >>= fun r9 =>
 some (r9.1, r9.2, iadd .i64 a0_2 a1_2)

theorem spec_Dyadic_Mul_sim {k : Nat}  (a0_0 : Bool) (a0_1 : List Int) (a0_2 : Int) (a1_0 : Bool) (a1_1 : List Int) (a1_2 : Int) {out : Bool × (List Int) × Int} (hp : spec_Dyadic_Mul k a0_0 a0_1 a0_2 a1_0 a1_1 a1_2 = some out) : Sx.Fn Try.prog 77 [(Ag [(Vb a0_0), (Sl (Ki .u32) a0_1), (Vi a0_2)]), (Ag [(Vb a1_0), (Sl (Ki .u32) a1_1), (Vi a1_2)])] [] (fun w : Unit => (Ag [(Vb out.1), (Sl (Ki .u32) out.2.1), (Vi out.2.2)])) (fun w => []) := by
 unfold spec_Dyadic_Mul at hp
 refine fn_of Try.func77 rfl Try.ntmps77 rfl fun E hM => ?_
 refine cr fun K1 hK1 => ?_
 refine sx_ox' (ox_box' rfl (lv_ag _) rfl rfl) (wt_none' rfl) fun q2 => ?_
 refine sx_ox' (ox_box' rfl (lv_ag _) rfl rfl) (wt_none' rfl) fun q3 => ?_
 refine sx_ox' (ox_alloc' info135 rfl rfl rfl rfl (l := [(Vb false), Vn, (Vi 0)]) rfl) (wt_none' rfl) fun q4 => ?_
 refine nk hK1 ?_
 refine cx_seq' fun K2 hK2 => ?_
 refine cx_plan' [] [(11, 1)] [(0, 1), (1, 1), (2, 1), (3, 1), (5, 1), (6, 1), (7, 1), (8, 1), (9, 1), (4, 0), (10, 1), (11, 0)] mixed (by kernel_rfl) ?_
 refine px_rd' rfl (rd_field0' rfl Try.underlying135 rfl info133 rfl) rfl rfl (wt_none' rfl) ?_
 refine px_rd' rfl (rd_load_agg' (i := 2) (o := 0) (nn := 2) rfl ⟨rfl, rfl, rfl, rfl⟩ rfl agg133 (l' := [(Vb a0_0), (Sl (Ki .u32) a0_1)]) rfl) rfl rfl (wt_none' rfl) ?_
 refine px_rd' rfl (rd_field0' rfl Try.underlying135 rfl info133 rfl) rfl rfl (wt_none' rfl) ?_
 refine px_rd' rfl (rd_load_agg' (i := 1) (o := 0) (nn := 2) rfl ⟨rfl, rfl, rfl, rfl⟩ rfl agg133 (l' := [(Vb a1_0), (Sl (Ki .u32) a1_1)]) rfl) rfl rfl (wt_none' rfl) ?_
 refine px_rd' rfl (rd_field' (off := 2) rfl Try.underlying135 rfl info3 rfl) rfl rfl (wt_none' rfl) ?_
 refine px_rd' rfl (rd_load' (i := 2) (o := 2) rfl ⟨rfl, rfl, rfl, rfl⟩ rfl flat3) rfl rfl (wt_none' rfl) ?_
 refine px_rd' rfl (rd_field' (off := 2) rfl Try.underlying135 rfl info3 rfl) rfl rfl (wt_none' rfl) ?_
 refine px_rd' rfl (rd_load' (i := 1) (o := 2) rfl ⟨rfl, rfl, rfl, rfl⟩ rfl flat3) rfl rfl (wt_none' rfl) ?_
 refine px_rd' rfl (rd_bin' rfl rfl eg_int ru_add) rfl rfl (wt_none' rfl) ?_
 obtain ⟨r9, hr9, hp⟩ := bind_some hp
 refine px_ox' rfl (ox_calln' (ent_fn' Try.func101 isn101 rfl rfl) (spec_Whole_Mul_sim _ _ _ _ hr9 : Sx.Fn Try.prog 101 [(Ag [(Vb a0_0), (Sl (Ki .u32) a0_1)]), (Ag [(Vb a1_0), (Sl (Ki .u32) a1_1)])] [] (fun x : Unit => (Ag [(Vb r9.1), (Sl (Ki .u32) r9.2)])) (fun x => [])) (Hn := fun x : Unit => [⟨.pointer (some q4), [(Vb false), Vn, (Vi 0)], 135, none⟩, ⟨.pointer (some q3), [(Vb a1_0), (Sl (Ki .u32) a1_1), (Vi a1_2)], 135, none⟩, ⟨.pointer (some q2), [(Vb a0_0), (Sl (Ki .u32) a0_1), (Vi a0_2)], 135, none⟩]) (fun _ => rfl) rfl rfl) rfl bs_nil (wt_none' rfl) fun ⟨⟩ => ?_
 refine px_rd' rfl (rd_build' (pls := [(0, 2), (2, 1)]) (qs := [(0, [(Vb r9.1), (Sl (Ki .u32) r9.2)]), (1, [(Vi (iadd .i64 a0_2 a1_2))])]) (r := [(Vb r9.1), (Sl (Ki .u32) r9.2), (Vi (iadd .i64 a0_2 a1_2))]) ⟨rfl, ⟨_, rfl, (lv_ag _)⟩, ⟨rfl, ⟨_, rfl, (lv_vl rfl rfl)⟩, trivial⟩⟩ Try.underlying135 has135 places135 info135 rfl rfl rfl) rfl rfl (wt_none' rfl) ?_
 refine px_oxv' rfl (oxv_store (i := 0) (o := 0) rfl rfl (lv_ag _) ⟨rfl, rfl, rfl, rfl⟩ rfl info135 rfl (H' := [⟨.pointer (some q4), [(Vb r9.1), (Sl (Ki .u32) r9.2), (Vi (iadd .i64 a0_2 a1_2))], 135, none⟩, ⟨.pointer (some q3), [(Vb a1_0), (Sl (Ki .u32) a1_1), (Vi a1_2)], 135, none⟩, ⟨.pointer (some q2), [(Vb a0_0), (Sl (Ki .u32) a0_1), (Vi a0_2)], 135, none⟩]) rfl) rfl rfl bo_nil (wt_none' rfl) fun _ => ?_
 refine px_nil' ?_
 show TX E K2 _
 refine tx_k' hK2 ?_
 refine cx_retc' ?_
 replace hp := Option.some.inj hp
 subst hp
 refine tx_pick' (L' := [(4, (Vp q4))]) (H' := [⟨.pointer (some q4), [(Vb r9.1), (Sl (Ki .u32) r9.2), (Vi (iadd .i64 a0_2 a1_2))], 135, none⟩]) [0] (sub_cons rfl sub_nil) (by decide) (pick_cons rfl pick_nil) ?_
 exact tx_ret1' Try.results77 rfl () (rv_cell_agg' (i := 0) (o := 0) (nn := 3) rfl ⟨rfl, rfl, rfl, rfl⟩ rfl agg135 rfl) (List.nil_sublist _)

def spec_VPoints_l1s (r14 : (List Int) × (List Int) × Bool) (a0 : List ((List Nat) × Nat × Int × Int)) (k : Nat) (rec1 : ((List (List Nat)) × Int) → Option ((List (List Nat)))) (x1 : List (List Nat)) (x2 : Int) : Option ((List (List Nat))) :=
 br (decide (x2 < (r14.1.length : Int)))
  ((idx r14.1 x2) >>= fun r22 =>
  (idx a0 r22) >>= fun r27 =>
  (apd 24 x1 ([r27.1])) >>= fun r31 =>
  rec1 (r31, (iadd .i64 x2 1)))
  (some x1)
def spec_VPoints_l1 (r14 : (List Int) × (List Int) × Bool) (a0 : List ((List Nat) × Nat × Int × Int)) : Nat → ((List (List Nat)) × Int) → Option ((List (List Nat)))
 | 0, _ => none
 | k + 1, v => spec_VPoints_l1s r14 a0 k (spec_VPoints_l1 r14 a0 k) v.1 v.2
def spec_VPoints (k : Nat) (a0 : List ((List Nat) × Nat × Int × Int)) (a1 : Int) : Option ((List (List Nat))) :=
 (spec_VWalk k a0 a1) >>= fun r14 =>
 (spec_VPoints_l1 r14 a0 k ([], 0)) >>= fun v2 =>
 some v2

theorem spec_VPoints_sim {k : Nat}  (a0 : List ((List Nat) × Nat × Int × Int)) (a1 : Int) {out : (List (List Nat))} (hp : spec_VPoints k a0 a1 = some out) : Sx.Fn Try.prog 34 [(Sl KT35 a0), (Vi a1)] [] (fun w : Unit => (Sl (Kl Kf) out)) (fun w => []) := by
 unfold spec_VPoints at hp
 refine fn_of Try.func34 rfl Try.ntmps34 rfl fun E hM => ?_
 refine cr fun K1 hK1 => ?_
 refine s0 (rd_assign' rfl) ?_
 refine nk hK1 ?_
 refine cr fun K2 hK2 => ?_
 refine s0 (rd_assign' rfl) ?_
 refine nk hK2 ?_
 refine cr fun K3 hK3 => ?_
 refine s0 (rd_move' rfl) ?_
 refine s0 (rd_move' rfl) ?_
 obtain ⟨r14, hr14, hp⟩ := bind_some hp
 refine sx_ox' (ox_calln' (ent_fn' Try.func11 isn11 rfl rfl) (spec_VWalk_sim _ _ hr14 : Sx.Fn Try.prog 11 [(Sl KT35 a0), (Vi a1)] [] (fun x : Unit => (Tu [(Sl (Ki .i64) r14.1), (Sl (Ki .i64) r14.2.1), (Vb r14.2.2)])) (fun x => [])) (Hn := fun x : Unit => []) (fun _ => rfl) rfl rfl) (wt_none' rfl) fun ⟨⟩ => ?_
 refine s0 (rd_move' rfl) ?_
 refine s0 (rd_extract' rfl rfl) ?_
 refine s0 (rd_extract' rfl rfl) ?_
 refine s0 (rd_extract' rfl rfl) ?_
 refine s0 (rd_assign' rfl) ?_
 refine s0 (rd_assign' rfl) ?_
 refine s0 (rd_assign' rfl) ?_
 refine nk hK3 ?_
 refine cx_seq' fun K4 hK4 => ?_
 refine cr fun K5 hK5 => ?_
 refine s0 (rd_move' rfl) ?_
 refine s0 (rd_len' rfl Try.underlying27) ?_
 refine s0 (rd_move' rfl) ?_
 refine nk hK5 ?_
 refine cx_block' ?_
 obtain ⟨v2, hy1, hp⟩ := bind_some hp
 refine tx_nilrow' (Kl Kf) 25 ?_
 refine cx_loopg' (F := spec_VPoints_l1 r14 a0) (G := fun k R v => spec_VPoints_l1s r14 a0 k R v.1 v.2) (x := ([], 0)) (gh := (none, 0, 0)) (fun (v1 : (List (List Nat)) × Int) (w1 : Gs) => (⟨34, [], [(0, (Sl KT35 a0)), (5, (Vl (Vs w1))), (18, (Sl (Ki .i64) r14.1)), (19, (Vi (r14.1.length : Int))), (20, (Vi v1.2))], [(Rw (Kl Kf) 25 (Vs w1) v1.1)]⟩ : St)) (fun (v2 : (List (List Nat))) => Zg E (Exit.exit 0) (fun (w2 : Gs) => (⟨34, [], [(5, (Vl (Vs w2)))], [(Rw (Kl Kf) 25 (Vs w2) v2)]⟩ : St))) (fun _ => rfl) (fun _ _ => rfl) ?_ hy1 (tx_to' rfl [0] (sub_cons rfl (sub_cons rfl (sub_cons rfl (sub_cons rfl (sub_cons rfl sub_nil))))) (by decide) (pick_cons rfl pick_nil)) ?_
 ·clear hp hy1
  clear v2
  intro k rec1 KY1 ih1
  rintro ⟨x1, x2⟩ g901 y1 hp
  replace hp : spec_VPoints_l1s r14 a0 k rec1 x1 x2 = some y1 := hp
  unfold spec_VPoints_l1s at hp
  refine cr fun K10 hK10 => ?_
  refine s0 (rd_bin' rfl rfl eg_int ru_lss) ?_
  refine nk hK10 ?_
  refine cx_seq' fun K11 hK11 => ?_
  refine cx_cond' rfl (fun h3 => ?_) (fun h3 => ?_)
  ·replace hp := (br_t h3).symm.trans hp
   refine cx_skip' ?_
   show TX E K11 _
   refine tx_k' hK11 ?_
   refine cx_seq' fun K12 hK12 => ?_
   refine cx_block' ?_
   refine cr fun K13 hK13 => ?_
   obtain ⟨r22, hr22, hp⟩ := bind_some hp
   refine s0 (rd_at' (K := (Ki .i64)) rfl rfl hr22 Try.underlying27 info3) ?_
   refine s0 (rd_load_pt' rfl rfl flat3) ?_
   refine s0 (rd_assign' rfl) ?_
   refine nk hK13 ?_
   refine cx_region' ?_
   refine s0 (rd_move' rfl) ?_
   refine s0 (rd_move' rfl) ?_
   refine s0 (rd_move' rfl) ?_
   obtain ⟨r27, hr27, hp⟩ := bind_some hp
   refine s0 (rd_at' (K := KT35) rfl rfl hr27 Try.underlying22 info35) ?_
   refine s0 (rd_field_pt' (off := 0) rfl Try.underlying35 rfl info25 rfl (l' := [(Sl Kf r27.1), (Vg r27.2.1), (Vi r27.2.2.1), (Vi r27.2.2.2)]) rfl) ?_
   refine s0 (rd_load_pt' rfl rfl flat25) ?_
   refine sx_ox' (ox_rowlit' (K := (Kl Kf)) (xs := [r27.1]) (qs := [(0, [(Sl Kf r27.1)])]) ⟨rfl, ⟨_, rfl, (lv_sl _ _)⟩, trivial⟩ Try.underlying26 info25 rfl rfl rfl rfl rfl (by kernel_rfl) rfl rfl rfl) (wt_none' rfl) fun g30 => ?_
   obtain ⟨r31, hr31, hp⟩ := bind_some hp
   refine sx_ox' (ox_append' (K := (Kl Kf)) (i := 1) (xs := x1) (ys := ([r27.1])) rfl rfl rfl (sr_row' (j := 0) rfl rfl rfl Try.underlying26) hr31 Try.underlying26 info25 rfl rfl rfl (H' := [(Rw (Kl Kf) 25 (Vs g30) ([r27.1]))]) rfl) (wt_none' rfl) fun g31 => ?_
   refine s0 (rd_assign' rfl) ?_
   refine nk hK12 ?_
   refine cx_region' ?_
   refine s0 (rd_bin' rfl rfl eg_int ru_add) ?_
   refine s0 (rd_move' rfl) ?_
   refine sx_nil' ?_
   show TX E (KY1 _) _
   exact tx_pick' [0] (sub_cons rfl (sub_cons rfl (sub_cons rfl (sub_cons rfl (sub_cons rfl sub_nil))))) (by decide) (pick_cons rfl pick_nil) (ih1 (r31, (iadd .i64 x2 1)) g31 _ hp)
  replace hp := (br_f h3).symm.trans hp
  refine cx_exit' ?_
  replace hp := Option.some.inj hp
  subst hp
  show TX E (Zg E (Exit.exit 0) _ (Exit.exit 0)) _
  exact tx_zend' g901 rfl [0] (sub_cons rfl sub_nil) (by decide) (pick_cons rfl pick_nil)
 refine zg_out fun w2 => ?_
 show TX E K4 _
 refine tx_k' hK4 ?_
 refine cr fun K14 hK14 => ?_
 refine s0 (rd_move' rfl) ?_
 refine s0 (rd_assign' rfl) ?_
 refine nk hK14 ?_
 refine cx_retc' ?_
 replace hp := Option.some.inj hp
 subst hp
 refine tx_fz' (frz_row 0 [(5, (Vl (Vs w2)), (Sl (Kl Kf) v2)), (33, (Vl (Vs w2)), (Sl (Kl Kf) v2)), (4, (Vl (Vs w2)), (Sl (Kl Kf) v2))] (K := (Kl Kf)) (xs := v2) (by decide) rfl ⟨⟨rfl, frz_it⟩, ⟨rfl, frz_it⟩, ⟨rfl, frz_it⟩, trivial⟩ (H' := []) frzH_refl) ?_
 refine tx_pick' (L' := [(4, (Sl (Kl Kf) v2))]) (H' := []) [] (sub_cons rfl sub_nil) (by decide) pick_nil ?_
 exact tx_ret1' Try.results34 rfl () (rv_tmp' rfl) (List.Sublist.refl _)

def spec_SquareN_l1s (a0 : List Nat) (a1 : List Nat) (k : Nat) (rec1 : (Nat × Int) → Option (Nat)) (x1 : Nat) (x2 : Int) : Option (Nat) :=
 br (decide (x2 < (a0.length : Int)))
  ((idx a0 x2) >>= fun r13 =>
  (idx a1 x2) >>= fun r19 =>
  (idx a1 x2) >>= fun r25 =>
  (some (gsub r13 r19)) >>= fun r21 =>
  (some (gsub r13 r25)) >>= fun r27 =>
  (some (gmul r21 r27)) >>= fun r28 =>
  (some (gadd x1 r28)) >>= fun r29 =>
  rec1 (r29, (iadd .i64 x2 1)))
  (some x1)
def spec_SquareN_l1 (a0 : List Nat) (a1 : List Nat) : Nat → (Nat × Int) → Option (Nat)
 | 0, _ => none
 | k + 1, v => spec_SquareN_l1s a0 a1 k (spec_SquareN_l1 a0 a1 k) v.1 v.2
def spec_SquareN (k : Nat) (a0 : List Nat) (a1 : List Nat) : Option (Nat) :=
 (spec_SquareN_l1 a0 a1 k (0, 0)) >>= fun v14 =>
 some v14

theorem spec_SquareN_sim {k : Nat}  (a0 : List Nat) (a1 : List Nat) {out : Nat} (hp : spec_SquareN k a0 a1 = some out) : Sx.Fn Try.prog 59 [(Sl Kf a0), (Sl Kf a1)] [] (fun w : Unit => (Fl out)) (fun w => []) := by
 unfold spec_SquareN at hp
 refine fn_of Try.func59 rfl Try.ntmps59 rfl fun E hM => ?_
 refine cr fun K1 hK1 => ?_
 refine s0 (rd_assign' rfl) ?_
 refine nk hK1 ?_
 refine cr fun K2 hK2 => ?_
 refine s0 (rd_assign' rfl) ?_
 refine nk hK2 ?_
 refine cx_seq' fun K3 hK3 => ?_
 refine cr fun K4 hK4 => ?_
 refine s0 (rd_move' rfl) ?_
 refine s0 (rd_len' rfl Try.underlying25) ?_
 refine s0 (rd_move' rfl) ?_
 refine nk hK4 ?_
 refine cx_block' ?_
 obtain ⟨v14, hy1, hp⟩ := bind_some hp
 refine tx_slot' 5 (y := (Fl 0)) rfl imp_vf ?_
 refine cx_loopg' (F := spec_SquareN_l1 a0 a1) (G := fun k R v => spec_SquareN_l1s a0 a1 k R v.1 v.2) (x := (0, 0)) (gh := ()) (fun (v7 : Nat × Int) (w7 : Unit) => (⟨32, [], [(1, (Sl Kf a1)), (5, (Fl v7.1)), (8, (Sl Kf a0)), (9, (Vi (a0.length : Int))), (10, (Vi v7.2))], []⟩ : St)) (fun (v14 : Nat) => Zg E (Exit.exit 0) (fun (w14 : Unit) => (⟨32, [], [(5, (Fl v14))], []⟩ : St))) (fun _ => rfl) (fun _ _ => rfl) ?_ hy1 (tx_to' rfl [] (sub_cons rfl (sub_cons rfl (sub_cons rfl (sub_cons rfl (sub_cons rfl sub_nil))))) (by decide) pick_nil) ?_
 ·clear hp hy1
  clear v14
  intro k rec1 KY1 ih1
  rintro ⟨x1, x2⟩ ⟨⟩ y1 hp
  replace hp : spec_SquareN_l1s a0 a1 k rec1 x1 x2 = some y1 := hp
  unfold spec_SquareN_l1s at hp
  refine cr fun K9 hK9 => ?_
  refine s0 (rd_bin' rfl rfl eg_int ru_lss) ?_
  refine nk hK9 ?_
  refine cx_seq' fun K10 hK10 => ?_
  refine cx_cond' rfl (fun h3 => ?_) (fun h3 => ?_)
  ·replace hp := (br_t h3).symm.trans hp
   refine cx_skip' ?_
   show TX E K10 _
   refine tx_k' hK10 ?_
   refine cx_seq' fun K11 hK11 => ?_
   refine cx_block' ?_
   refine cr fun K12 hK12 => ?_
   refine s0 (rd_move' rfl) ?_
   obtain ⟨r13, hr13, hp⟩ := bind_some hp
   refine s0 (rd_at' (K := Kf) rfl rfl hr13 Try.underlying25 info33) ?_
   refine s0 (rd_load_pt' rfl rfl flat33) ?_
   refine s0 (rd_assign' rfl) ?_
   refine s0 (rd_assign' rfl) ?_
   refine nk hK12 ?_
   refine cx_plana' [] [] [(0, 1), (1, 1), (2, 1), (3, 1), (4, 1), (5, 1), (7, 1), (8, 1), (9, 1), (10, 1), (11, 1)] 5 #[true, true, true, true, true, true, false, true, true, true, true, true, false, false, false, false] mixed (by kernel_rfl) ?_
   refine px_rd' rfl (rd_move' rfl) rfl rfl (wt_none' rfl) ?_
   refine px_rd' rfl (rd_move' rfl) rfl rfl (wt_none' rfl) ?_
   refine px_rd' rfl (rd_move' rfl) rfl rfl (wt_none' rfl) ?_
   refine px_rd' rfl (rd_move' rfl) rfl rfl (wt_none' rfl) ?_
   obtain ⟨r19, hr19, hp⟩ := bind_some hp
   refine px_rd' rfl (rd_at' (K := Kf) rfl rfl hr19 Try.underlying25 info33) rfl rfl (wt_none' rfl) ?_
   refine px_rd' rfl (rd_load_pt' rfl rfl flat33) rfl rfl (wt_none' rfl) ?_
   refine px_rd' rfl (rd_move' rfl) rfl rfl (wt_none' rfl) ?_
   refine px_rd' rfl (rd_move' rfl) rfl rfl (wt_none' rfl) ?_
   refine px_rd' rfl (rd_move' rfl) rfl rfl (wt_none' rfl) ?_
   obtain ⟨r25, hr25, hp⟩ := bind_some hp
   refine px_rd' rfl (rd_at' (K := Kf) rfl rfl hr25 Try.underlying25 info33) rfl rfl (wt_none' rfl) ?_
   refine px_rd' rfl (rd_load_pt' rfl rfl flat33) rfl rfl (wt_none' rfl) ?_
   refine px_nil' ?_
   show AX E _ _ _ _ _ _ _ _
   obtain ⟨r21, hr21, hp⟩ := bind_some hp
   obtain ⟨r27, hr27, hp⟩ := bind_some hp
   obtain ⟨r28, hr28, hp⟩ := bind_some hp
   obtain ⟨r29, hr29, hp⟩ := bind_some hp
   refine ax_node (f' := 0) #[true, true, true, true, true, true, true, true, true, true, true, true, true, true, true, true] (fun (v13 : Unit) => (⟨32, [], [(1, (Sl Kf a1)), (5, (Fl r29)), (8, (Sl Kf a0)), (9, (Vi (a0.length : Int))), (10, (Vi x2))], []⟩ : St)) ?_ ?_
   ·rintro ⟨⟩
    refine ax_nil (by kernel_rfl) ?_
    show TX E K11 _
    refine tx_k' hK11 ?_
    refine cx_region' ?_
    refine s0 (rd_bin' rfl rfl eg_int ru_add) ?_
    refine s0 (rd_move' rfl) ?_
    refine sx_nil' ?_
    show TX E (KY1 _) _
    exact tx_pick' [] (sub_cons rfl (sub_cons rfl (sub_cons rfl (sub_cons rfl (sub_cons rfl sub_nil))))) (by decide) pick_nil (ih1 (r29, (iadd .i64 x2 1)) () _ hp)
   intro hN14
   refine ax_node (f' := 1) #[true, true, true, true, true, true, true, true, true, true, true, true, true, true, true, false] (fun (v12 : Unit) => (⟨32, [], [(1, (Sl Kf a1)), (8, (Sl Kf a0)), (9, (Vi (a0.length : Int))), (10, (Vi x2)), (29, (Fl r29))], []⟩ : St)) ?_ ?_
   ·rintro ⟨⟩
    refine ax_rd (ix := 15) (last := #[true, true, true, true, true, true, true, true, true, true, true, true, true, true, true, true]) (by kernel_rfl) rfl (rd_assign' rfl) rfl rfl (wt_none' rfl) rfl ?_
    exact tx_pick' [] (sub_cons rfl (sub_cons rfl (sub_cons rfl (sub_cons rfl (sub_cons rfl sub_nil))))) (by decide) pick_nil (hN14 ())
   intro hN13
   refine ax_node (f' := 2) #[true, true, true, true, true, true, true, true, true, true, true, true, true, true, false, false] (fun (v11 : Unit) => (⟨32, [], [(1, (Sl Kf a1)), (8, (Sl Kf a0)), (9, (Vi (a0.length : Int))), (10, (Vi x2)), (15, (Fl x1)), (28, (Fl r28))], []⟩ : St)) ?_ ?_
   ·rintro ⟨⟩
    refine ax_all (i := 14) (is := []) (by kernel_rfl) (all_cons ?_ all_nil)
    ·refine nx_ox (last := #[true, true, true, true, true, true, true, true, true, true, true, true, true, true, true, false]) rfl (ox_fop' (.inl rfl) (fl_f rfl) (fl_f rfl) (Option.some.inj hr29) rfl rfl) rfl bs_nil (wt_none' rfl) rfl fun _ => ?_
     exact tx_pick' [] (sub_cons rfl (sub_cons rfl (sub_cons rfl (sub_cons rfl (sub_cons rfl sub_nil))))) (by decide) pick_nil (hN13 ())
   intro hN12
   refine ax_node (f' := 3) #[true, true, true, true, true, true, true, true, true, true, true, true, true, false, false, false] (fun (v10 : Unit) => (⟨32, [], [(1, (Sl Kf a1)), (8, (Sl Kf a0)), (9, (Vi (a0.length : Int))), (10, (Vi x2)), (15, (Fl x1)), (21, (Fl r21)), (27, (Fl r27))], []⟩ : St)) ?_ ?_
   ·rintro ⟨⟩
    refine ax_all (i := 13) (is := []) (by kernel_rfl) (all_cons ?_ all_nil)
    ·refine nx_ox (last := #[true, true, true, true, true, true, true, true, true, true, true, true, true, true, false, false]) rfl (ox_fop' (.inr (.inr (.inl rfl))) (fl_f rfl) (fl_f rfl) (Option.some.inj hr28) rfl rfl) rfl bs_nil (wt_none' rfl) rfl fun _ => ?_
     exact tx_pick' [] (sub_cons rfl (sub_cons rfl (sub_cons rfl (sub_cons rfl (sub_cons rfl (sub_cons rfl sub_nil)))))) (by decide) pick_nil (hN12 ())
   intro hN11
   refine ax_node (f' := 4) #[true, true, true, true, true, true, true, true, true, true, true, true, false, false, false, false] (fun (v8 : Unit) => (⟨32, [], [(1, (Sl Kf a1)), (8, (Sl Kf a0)), (9, (Vi (a0.length : Int))), (10, (Vi x2)), (15, (Fl x1)), (21, (Fl r21)), (22, (Vg r13)), (26, (Vg r25))], []⟩ : St)) ?_ ?_
   ·rintro ⟨⟩
    refine ax_all (i := 12) (is := []) (by kernel_rfl) (all_cons ?_ all_nil)
    ·refine nx_ox (last := #[true, true, true, true, true, true, true, true, true, true, true, true, true, false, false, false]) rfl (ox_fop' (.inr (.inl rfl)) (fl_v rfl) (fl_v rfl) (Option.some.inj hr27) rfl rfl) rfl bs_nil (wt_none' rfl) rfl fun _ => ?_
     exact tx_pick' [] (sub_cons rfl (sub_cons rfl (sub_cons rfl (sub_cons rfl (sub_cons rfl (sub_cons rfl (sub_cons rfl sub_nil))))))) (by decide) pick_nil (hN11 ())
   intro hN9
   refine ax_node (f' := 4) #[true, true, true, true, true, true, false, true, true, true, true, true, true, false, false, false] (fun (v9 : Unit) => (⟨32, [], [(1, (Sl Kf a1)), (8, (Sl Kf a0)), (9, (Vi (a0.length : Int))), (10, (Vi x2)), (15, (Fl x1)), (16, (Vg r13)), (20, (Vg r19)), (27, (Fl r27))], []⟩ : St)) ?_ ?_
   ·rintro ⟨⟩
    refine ax_all (i := 6) (is := []) (by kernel_rfl) (all_cons ?_ all_nil)
    ·refine nx_ox (last := #[true, true, true, true, true, true, true, true, true, true, true, true, true, false, false, false]) rfl (ox_fop' (.inr (.inl rfl)) (fl_v rfl) (fl_v rfl) (Option.some.inj hr21) rfl rfl) rfl bs_nil (wt_none' rfl) rfl fun _ => ?_
     exact tx_pick' [] (sub_cons rfl (sub_cons rfl (sub_cons rfl (sub_cons rfl (sub_cons rfl (sub_cons rfl (sub_cons rfl sub_nil))))))) (by decide) pick_nil (hN11 ())
   intro hN10
   refine ax_all (i := 6) (is := [12]) (by kernel_rfl) (all_cons ?_ (all_cons ?_ all_nil))
   ·refine nx_ox (last := #[true, true, true, true, true, true, true, true, true, true, true, true, false, false, false, false]) rfl (ox_fop' (.inr (.inl rfl)) (fl_v rfl) (fl_v rfl) (Option.some.inj hr21) rfl rfl) rfl bs_nil (wt_none' rfl) rfl fun _ => ?_
    exact tx_pick' [] (sub_cons rfl (sub_cons rfl (sub_cons rfl (sub_cons rfl (sub_cons rfl (sub_cons rfl (sub_cons rfl (sub_cons rfl sub_nil)))))))) (by decide) pick_nil (hN9 ())
   refine nx_ox (last := #[true, true, true, true, true, true, false, true, true, true, true, true, true, false, false, false]) rfl (ox_fop' (.inr (.inl rfl)) (fl_v rfl) (fl_v rfl) (Option.some.inj hr27) rfl rfl) rfl bs_nil (wt_none' rfl) rfl fun _ => ?_
   exact tx_pick' [] (sub_cons rfl (sub_cons rfl (sub_cons rfl (sub_cons rfl (sub_cons rfl (sub_cons rfl (sub_cons rfl (sub_cons rfl sub_nil)))))))) (by decide) pick_nil (hN10 ())
  replace hp := (br_f h3).symm.trans hp
  refine cx_exit' ?_
  replace hp := Option.some.inj hp
  subst hp
  show TX E (Zg E (Exit.exit 0) _ (Exit.exit 0)) _
  exact tx_zend' () rfl [] (sub_cons rfl sub_nil) (by decide) pick_nil
 refine zg_out fun w14 => ?_
 show TX E K3 _
 refine tx_k' hK3 ?_
 refine cr fun K13 hK13 => ?_
 refine s0 (rd_move' rfl) ?_
 refine s0 (rd_assign' rfl) ?_
 refine nk hK13 ?_
 refine cx_retc' ?_
 replace hp := Option.some.inj hp
 subst hp
 refine tx_pick' (L' := [(4, (Fl v14))]) (H' := []) [] (sub_cons rfl sub_nil) (by decide) pick_nil ?_
 exact tx_ret1' Try.results59 rfl () (rv_tmp' rfl) (List.Sublist.refl _)

def spec_Whole_Minus_j1 (k : Nat) (a0_1 : List Int) (x1 : Bool) : Option (Bool × (List Int)) :=
 some (x1, a0_1)
def spec_Whole_Minus (k : Nat) (a0_0 : Bool) (a0_1 : List Int) : Option (Bool × (List Int)) :=
 br (!a0_0)
  (spec_Whole_Minus_j1 k a0_1 (decide (0 < (a0_1.length : Int))))
  (spec_Whole_Minus_j1 k a0_1 false)

theorem spec_Whole_Minus_sim {k : Nat}  (a0_0 : Bool) (a0_1 : List Int) {out : Bool × (List Int)} (hp : spec_Whole_Minus k a0_0 a0_1 = some out) : Sx.Fn Try.prog 132 [(Ag [(Vb a0_0), (Sl (Ki .u32) a0_1)])] [] (fun w : Unit => (Ag [(Vb out.1), (Sl (Ki .u32) out.2)])) (fun w => []) := by
 unfold spec_Whole_Minus at hp
 refine fn_of Try.func132 rfl Try.ntmps132 rfl fun E hM => ?_
 refine cr fun K1 hK1 => ?_
 refine sx_ox' (ox_box' rfl (lv_ag _) rfl rfl) (wt_none' rfl) fun q1 => ?_
 refine sx_ox' (ox_alloc' info133 rfl rfl rfl rfl (l := [(Vb false), Vn]) rfl) (wt_none' rfl) fun q2 => ?_
 refine nk hK1 ?_
 refine cr fun K2 hK2 => ?_
 refine s0 (rd_field0' rfl Try.underlying133 rfl info4 rfl) ?_
 refine s0 (rd_load' (i := 1) (o := 0) rfl ⟨rfl, rfl, rfl, rfl⟩ rfl flat4) ?_
 refine s0 (rd_un' rfl ru_not) ?_
 refine s0 (rd_move' rfl) ?_
 refine sx_cutn' 5 (fun (v1 : Bool) => (⟨15, [], [(1, (Vp q1)), (2, (Vp q2)), (11, (Vb v1))], [⟨.pointer (some q1), [(Vb a0_0), (Sl (Ki .u32) a0_1)], 133, none⟩, ⟨.pointer (some q2), [(Vb false), Vn], 133, none⟩]⟩ : St)) (fun (v1 : Bool) => spec_Whole_Minus_j1 k a0_1 v1 = some out) ?_ ?_
 ·rintro x1 hp
  replace hp : spec_Whole_Minus_j1 k a0_1 x1 = some out := hp
  unfold spec_Whole_Minus_j1 at hp
  refine s0 (rd_field' (off := 1) rfl Try.underlying133 rfl info131 rfl) ?_
  refine s0 (rd_load' (i := 0) (o := 1) rfl ⟨rfl, rfl, rfl, rfl⟩ rfl flat131) ?_
  refine s0 (rd_build' (pls := [(0, 1), (1, 1)]) (qs := [(0, [(Vb x1)]), (1, [(Sl (Ki .u32) a0_1)])]) (r := [(Vb x1), (Sl (Ki .u32) a0_1)]) ⟨rfl, ⟨_, rfl, (lv_vl rfl rfl)⟩, ⟨rfl, ⟨_, rfl, (lv_sl _ _)⟩, trivial⟩⟩ Try.underlying133 has133 places133 info133 rfl rfl rfl) ?_
  refine sx_ox' (ox_store' (i := 1) (o := 0) rfl rfl (lv_ag _) ⟨rfl, rfl, rfl, rfl⟩ rfl info133 rfl (H' := [⟨.pointer (some q1), [(Vb a0_0), (Sl (Ki .u32) a0_1)], 133, none⟩, ⟨.pointer (some q2), [(Vb x1), (Sl (Ki .u32) a0_1)], 133, none⟩]) rfl) (wt_none' rfl) fun _ => ?_
  refine nk hK2 ?_
  refine cx_retc' ?_
  replace hp := Option.some.inj hp
  subst hp
  refine tx_pick' (L' := [(2, (Vp q2))]) (H' := [⟨.pointer (some q2), [(Vb x1), (Sl (Ki .u32) a0_1)], 133, none⟩]) [1] (sub_cons rfl sub_nil) (by decide) (pick_cons rfl pick_nil) ?_
  exact tx_ret1' Try.results132 rfl () (rv_cell_agg' (i := 0) (o := 0) (nn := 2) rfl ⟨rfl, rfl, rfl, rfl⟩ rfl agg133 rfl) (List.nil_sublist _)
 intro K3 hK3
 rcases br_cases hp with ⟨h1, hp⟩ | ⟨h1, hp⟩
 ·refine sx_rd' (rd_field' (off := 1) rfl Try.underlying133 rfl info131 rfl) rfl rfl (wt_is' (wt_guard' rfl rfl rfl) (beq_tt h1)) ?_
  refine sx_rd' (rd_load' (i := 1) (o := 1) rfl ⟨rfl, rfl, rfl, rfl⟩ rfl flat131) rfl rfl (wt_is' (wt_guard' rfl rfl rfl) (beq_tt h1)) ?_
  refine sx_rd' (rd_len' rfl Try.underlying131) rfl rfl (wt_is' (wt_guard' rfl rfl rfl) (beq_tt h1)) ?_
  refine sx_rd' (rd_bin' rfl rfl eg_int ru_gtr) rfl rfl (wt_is' (wt_guard' rfl rfl rfl) (beq_tt h1)) ?_
  refine s0 (rd_pick_true' rfl h1 rfl) ?_
  refine sx_nil' ?_
  show TX E K3 _
  exact tx_pick' [1, 0] (sub_cons rfl (sub_cons rfl (sub_cons rfl sub_nil))) (by decide) (pick_cons rfl (pick_cons rfl pick_nil)) (hK3 (decide (0 < (a0_1.length : Int))) hp)
 refine sx_skip' rfl rfl (wt_is' (wt_guard' rfl rfl rfl) (beq_ft h1)) ?_
 refine sx_skip' rfl rfl (wt_is' (wt_guard' rfl rfl rfl) (beq_ft h1)) ?_
 refine sx_skip' rfl rfl (wt_is' (wt_guard' rfl rfl rfl) (beq_ft h1)) ?_
 refine sx_skip' rfl rfl (wt_is' (wt_guard' rfl rfl rfl) (beq_ft h1)) ?_
 refine s0 (rd_pick_false' rfl h1 rfl) ?_
 refine sx_nil' ?_
 show TX E K3 _
 exact tx_pick' [1, 0] (sub_cons rfl (sub_cons rfl (sub_cons rfl sub_nil))) (by decide) (pick_cons rfl (pick_cons rfl pick_nil)) (hK3 false hp)

def spec_Dyadic_Minus (k : Nat) (a0_0 : Bool) (a0_1 : List Int) (a0_2 : Int) : Option (Bool × (List Int) × Int) :=
 (spec_Whole_Minus k a0_0 a0_1) >>= fun r5 =>
 some (r5.1, r5.2, a0_2)

theorem spec_Dyadic_Minus_sim {k : Nat}  (a0_0 : Bool) (a0_1 : List Int) (a0_2 : Int) {out : Bool × (List Int) × Int} (hp : spec_Dyadic_Minus k a0_0 a0_1 a0_2 = some out) : Sx.Fn Try.prog 121 [(Ag [(Vb a0_0), (Sl (Ki .u32) a0_1), (Vi a0_2)])] [] (fun w : Unit => (Ag [(Vb out.1), (Sl (Ki .u32) out.2.1), (Vi out.2.2)])) (fun w => []) := by
 unfold spec_Dyadic_Minus at hp
 refine fn_of Try.func121 rfl Try.ntmps121 rfl fun E hM => ?_
 refine cr fun K1 hK1 => ?_
 refine sx_ox' (ox_box' rfl (lv_ag _) rfl rfl) (wt_none' rfl) fun q1 => ?_
 refine sx_ox' (ox_alloc' info135 rfl rfl rfl rfl (l := [(Vb false), Vn, (Vi 0)]) rfl) (wt_none' rfl) fun q2 => ?_
 refine nk hK1 ?_
 refine cx_seq' fun K2 hK2 => ?_
 refine cx_plan' [] [(6, 1)] [(0, 1), (1, 1), (3, 1), (4, 1), (2, 0), (5, 1), (6, 0)] mixed (by kernel_rfl) ?_
 refine px_rd' rfl (rd_field0' rfl Try.underlying135 rfl info133 rfl) rfl rfl (wt_none' rfl) ?_
 refine px_rd' rfl (rd_load_agg' (i := 1) (o := 0) (nn := 2) rfl ⟨rfl, rfl, rfl, rfl⟩ rfl agg133 (l' := [(Vb a0_0), (Sl (Ki .u32) a0_1)]) rfl) rfl rfl (wt_none' rfl) ?_
 refine px_rd' rfl (rd_field' (off := 2) rfl Try.underlying135 rfl info3 rfl) rfl rfl (wt_none' rfl) ?_
 refine px_rd' rfl (rd_load' (i := 1) (o := 2) rfl ⟨rfl, rfl, rfl, rfl⟩ rfl flat3) rfl rfl (wt_none' rfl) ?_
 obtain ⟨r5, hr5, hp⟩ := bind_some hp
 refine px_ox' rfl (ox_calln' (ent_fn' Try.func132 isn132 rfl rfl) (spec_Whole_Minus_sim _ _ hr5 : Sx.Fn Try.prog 132 [(Ag [(Vb a0_0), (Sl (Ki .u32) a0_1)])] [] (fun x : Unit => (Ag [(Vb r5.1), (Sl (Ki .u32) r5.2)])) (fun x => [])) (Hn := fun x : Unit => [⟨.pointer (some q2), [(Vb false), Vn, (Vi 0)], 135, none⟩, ⟨.pointer (some q1), [(Vb a0_0), (Sl (Ki .u32) a0_1), (Vi a0_2)], 135, none⟩]) (fun _ => rfl) rfl rfl) rfl bs_nil (wt_none' rfl) fun ⟨⟩ => ?_
 refine px_rd' rfl (rd_build' (pls := [(0, 2), (2, 1)]) (qs := [(0, [(Vb r5.1), (Sl (Ki .u32) r5.2)]), (1, [(Vi a0_2)])]) (r := [(Vb r5.1), (Sl (Ki .u32) r5.2), (Vi a0_2)]) ⟨rfl, ⟨_, rfl, (lv_ag _)⟩, ⟨rfl, ⟨_, rfl, (lv_vl rfl rfl)⟩, trivial⟩⟩ Try.underlying135 has135 places135 info135 rfl rfl rfl) rfl rfl (wt_none' rfl) ?_
 refine px_oxv' rfl (oxv_store (i := 0) (o := 0) rfl rfl (lv_ag _) ⟨rfl, rfl, rfl, rfl⟩ rfl info135 rfl (H' := [⟨.pointer (some q2), [(Vb r5.1), (Sl (Ki .u32) r5.2), (Vi a0_2)], 135, none⟩, ⟨.pointer (some q1), [(Vb a0_0), (Sl (Ki .u32) a0_1), (Vi a0_2)], 135, none⟩]) rfl) rfl rfl bo_nil (wt_none' rfl) fun _ => ?_
 refine px_nil' ?_
 show TX E K2 _
 refine tx_k' hK2 ?_
 refine cx_retc' ?_
 replace hp := Option.some.inj hp
 subst hp
 refine tx_pick' (L' := [(2, (Vp q2))]) (H' := [⟨.pointer (some q2), [(Vb r5.1), (Sl (Ki .u32) r5.2), (Vi a0_2)], 135, none⟩]) [0] (sub_cons rfl sub_nil) (by decide) (pick_cons rfl pick_nil) ?_
 exact tx_ret1' Try.results121 rfl () (rv_cell_agg' (i := 0) (o := 0) (nn := 3) rfl ⟨rfl, rfl, rfl, rfl⟩ rfl agg135 rfl) (List.nil_sublist _)

def spec_Whole_Sign (k : Nat) (a0_0 : Bool) (a0_1 : List Int) : Option (Int) :=
 br (decide ((a0_1.length : Int) = 0))
  (some 0)
  (br a0_0
   (some (-1))
   (some 1))

theorem spec_Whole_Sign_sim {k : Nat}  (a0_0 : Bool) (a0_1 : List Int) {out : Int} (hp : spec_Whole_Sign k a0_0 a0_1 = some out) : Sx.Fn Try.prog 122 [(Ag [(Vb a0_0), (Sl (Ki .u32) a0_1)])] [] (fun w : Unit => (Vi out)) (fun w => []) := by
 unfold spec_Whole_Sign at hp
 refine fn_of Try.func122 rfl Try.ntmps122 rfl fun E hM => ?_
 refine cr fun K1 hK1 => ?_
 refine sx_ox' (ox_box' rfl (lv_ag _) rfl rfl) (wt_none' rfl) fun q1 => ?_
 refine s0 (rd_assign' rfl) ?_
 refine nk hK1 ?_
 refine cx_seq' fun K2 hK2 => ?_
 refine cx_block' ?_
 refine cr fun K3 hK3 => ?_
 refine s0 (rd_field' (off := 1) rfl Try.underlying133 rfl info131 rfl) ?_
 refine s0 (rd_load' (i := 0) (o := 1) rfl ⟨rfl, rfl, rfl, rfl⟩ rfl flat131) ?_
 refine s0 (rd_len' rfl Try.underlying131) ?_
 refine s0 (rd_bin' rfl rfl eg_int ru_eql) ?_
 refine s0 (rd_assign' rfl) ?_
 refine nk hK3 ?_
 refine cx_cond' rfl (fun h1 => ?_) (fun h1 => ?_)
 ·replace hp := (br_t h1).symm.trans hp
  refine cr fun K4 hK4 => ?_
  refine s0 (rd_assign' rfl) ?_
  refine nk hK4 ?_
  refine cx_retc' ?_
  replace hp := Option.some.inj hp
  subst hp
  refine tx_pick' (L' := [(2, (Vi 0))]) (H' := []) [] (sub_cons rfl sub_nil) (by decide) pick_nil ?_
  exact tx_ret1' Try.results122 rfl () (rv_tmp' rfl) (List.Sublist.refl _)
 replace hp := (br_f h1).symm.trans hp
 refine cr fun K5 hK5 => ?_
 refine s0 (rd_field0' rfl Try.underlying133 rfl info4 rfl) ?_
 refine s0 (rd_load' (i := 0) (o := 0) rfl ⟨rfl, rfl, rfl, rfl⟩ rfl flat4) ?_
 refine s0 (rd_assign' rfl) ?_
 refine nk hK5 ?_
 refine cx_cond' rfl (fun h2 => ?_) (fun h2 => ?_)
 ·replace hp := (br_t h2).symm.trans hp
  refine cr fun K6 hK6 => ?_
  refine s0 (rd_assign' rfl) ?_
  refine nk hK6 ?_
  refine cx_retc' ?_
  replace hp := Option.some.inj hp
  subst hp
  refine tx_pick' (L' := [(2, (Vi (-1)))]) (H' := []) [] (sub_cons rfl sub_nil) (by decide) pick_nil ?_
  exact tx_ret1' Try.results122 rfl () (rv_tmp' rfl) (List.Sublist.refl _)
 replace hp := (br_f h2).symm.trans hp
 refine cx_skip' ?_
 show TX E K2 _
 refine tx_k' hK2 ?_
 refine cr fun K7 hK7 => ?_
 refine s0 (rd_assign' rfl) ?_
 refine nk hK7 ?_
 refine cx_retc' ?_
 replace hp := Option.some.inj hp
 subst hp
 refine tx_pick' (L' := [(2, (Vi 1))]) (H' := []) [] (sub_cons rfl sub_nil) (by decide) pick_nil ?_
 exact tx_ret1' Try.results122 rfl () (rv_tmp' rfl) (List.Sublist.refl _)

def spec_Dyadic_Sign (k : Nat) (a0_0 : Bool) (a0_1 : List Int) (a0_2 : Int) : Option (Int) :=
 (spec_Whole_Sign k a0_0 a0_1) >>= fun r5 =>
 some r5

theorem spec_Dyadic_Sign_sim {k : Nat}  (a0_0 : Bool) (a0_1 : List Int) (a0_2 : Int) {out : Int} (hp : spec_Dyadic_Sign k a0_0 a0_1 a0_2 = some out) : Sx.Fn Try.prog 103 [(Ag [(Vb a0_0), (Sl (Ki .u32) a0_1), (Vi a0_2)])] [] (fun w : Unit => (Vi out)) (fun w => []) := by
 unfold spec_Dyadic_Sign at hp
 refine fn_of Try.func103 rfl Try.ntmps103 rfl fun E hM => ?_
 refine cr fun K1 hK1 => ?_
 refine sx_ox' (ox_box' rfl (lv_ag _) rfl rfl) (wt_none' rfl) fun q1 => ?_
 refine s0 (rd_assign' rfl) ?_
 refine nk hK1 ?_
 refine cr fun K2 hK2 => ?_
 refine s0 (rd_field0' rfl Try.underlying135 rfl info133 rfl) ?_
 refine s0 (rd_load_agg' (i := 0) (o := 0) (nn := 2) rfl ⟨rfl, rfl, rfl, rfl⟩ rfl agg133 (l' := [(Vb a0_0), (Sl (Ki .u32) a0_1)]) rfl) ?_
 obtain ⟨r5, hr5, hp⟩ := bind_some hp
 refine sx_ox' (ox_calln' (ent_fn' Try.func122 isn122 rfl rfl) (spec_Whole_Sign_sim _ _ hr5 : Sx.Fn Try.prog 122 [(Ag [(Vb a0_0), (Sl (Ki .u32) a0_1)])] [] (fun x : Unit => (Vi r5)) (fun x => [])) (Hn := fun x : Unit => [⟨.pointer (some q1), [(Vb a0_0), (Sl (Ki .u32) a0_1), (Vi a0_2)], 135, none⟩]) (fun _ => rfl) rfl rfl) (wt_none' rfl) fun ⟨⟩ => ?_
 refine s0 (rd_assign' rfl) ?_
 refine nk hK2 ?_
 refine cx_retc' ?_
 replace hp := Option.some.inj hp
 subst hp
 refine tx_pick' (L' := [(2, (Vi r5))]) (H' := []) [] (sub_cons rfl sub_nil) (by decide) pick_nil ?_
 exact tx_ret1' Try.results103 rfl () (rv_tmp' rfl) (List.Sublist.refl _)

def spec_Whole_Up_l1s (a0_1 : List Int) (a1 : Int) (k : Nat) (rec1 : ((List Int) × Int × Int) → Option ((List Int) × Int)) (x1 : List Int) (x2 : Int) (x3 : Int) : Option ((List Int) × Int) :=
 br (decide (x3 < (a0_1.length : Int)))
  ((idx a0_1 x3) >>= fun r30 =>
  (irem a1 32) >>= fun r35 =>
  (ishl .u64 (icv .u64 r30) r35) >>= fun r36 =>
  (apd 4 x1 ([ior .u32 (icv .u32 r36) x2])) >>= fun r43 =>
  (ishr .u64 r36 32) >>= fun r45 =>
  rec1 (r43, (icv .u32 r45), (iadd .i64 x3 1)))
  (some (x1, x2))
def spec_Whole_Up_l1 (a0_1 : List Int) (a1 : Int) : Nat → ((List Int) × Int × Int) → Option ((List Int) × Int)
 | 0, _ => none
 | k + 1, v => spec_Whole_Up_l1s a0_1 a1 k (spec_Whole_Up_l1 a0_1 a1 k) v.1 v.2.1 v.2.2
def spec_Whole_Up (k : Nat) (a0_0 : Bool) (a0_1 : List Int) (a1 : Int) : Option (Bool × (List Int)) :=
 br (decide ((a0_1.length : Int) = 0))
  (some (a0_0, a0_1))
  ((iquo .i64 a1 32) >>= fun r16 =>
  (iquo .i64 a1 32) >>= fun r18 =>
  (mk 4 0 r16 (iadd .i64 (iadd .i64 r18 (a0_1.length : Int)) 1)) >>= fun r24 =>
  (spec_Whole_Up_l1 a0_1 a1 k (r24, 0, 0)) >>= fun v2 =>
  (apd 4 v2.1 ([v2.2])) >>= fun r53 =>
  (spec_trim k r53) >>= fun r54 =>
  some (a0_0, r54))

theorem spec_Whole_Up_sim {k : Nat}  (a0_0 : Bool) (a0_1 : List Int) (a1 : Int) {out : Bool × (List Int)} (hp : spec_Whole_Up k a0_0 a0_1 a1 = some out) : Sx.Fn Try.prog 130 [(Ag [(Vb a0_0), (Sl (Ki .u32) a0_1)]), (Vi a1)] [] (fun w : Unit => (Ag [(Vb out.1), (Sl (Ki .u32) out.2)])) (fun w => []) := by
 unfold spec_Whole_Up at hp
 refine fn_of Try.func130 rfl Try.ntmps130 rfl fun E hM => ?_
 refine cr fun K1 hK1 => ?_
 refine sx_ox' (ox_box' rfl (lv_ag _) rfl rfl) (wt_none' rfl) fun q2 => ?_
 refine sx_ox' (ox_alloc' info133 rfl rfl rfl rfl (l := [(Vb false), Vn]) rfl) (wt_none' rfl) fun q4 => ?_
 refine nk hK1 ?_
 refine cx_seq' fun K2 hK2 => ?_
 refine cr fun K3 hK3 => ?_
 refine s0 (rd_field' (off := 1) rfl Try.underlying133 rfl info131 rfl) ?_
 refine s0 (rd_load' (i := 1) (o := 1) rfl ⟨rfl, rfl, rfl, rfl⟩ rfl flat131) ?_
 refine s0 (rd_len' rfl Try.underlying131) ?_
 refine s0 (rd_bin' rfl rfl eg_int ru_eql) ?_
 refine nk hK3 ?_
 refine cx_cond' rfl (fun h1 => ?_) (fun h1 => ?_)
 ·replace hp := (br_t h1).symm.trans hp
  refine cr fun K4 hK4 => ?_
  refine s0 (rd_load_agg' (i := 1) (o := 0) (nn := 2) rfl ⟨rfl, rfl, rfl, rfl⟩ rfl agg133 (l' := [(Vb a0_0), (Sl (Ki .u32) a0_1)]) rfl) ?_
  refine sx_ox' (ox_store' (i := 0) (o := 0) rfl rfl (lv_ag _) ⟨rfl, rfl, rfl, rfl⟩ rfl info133 rfl (H' := [⟨.pointer (some q4), [(Vb a0_0), (Sl (Ki .u32) a0_1)], 133, none⟩, ⟨.pointer (some q2), [(Vb a0_0), (Sl (Ki .u32) a0_1)], 133, none⟩]) rfl) (wt_none' rfl) fun _ => ?_
  refine nk hK4 ?_
  refine cx_retc' ?_
  replace hp := Option.some.inj hp
  subst hp
  refine tx_pick' (L' := [(4, (Vp q4))]) (H' := [⟨.pointer (some q4), [(Vb a0_0), (Sl (Ki .u32) a0_1)], 133, none⟩]) [0] (sub_cons rfl sub_nil) (by decide) (pick_cons rfl pick_nil) ?_
  exact tx_ret1' Try.results130 rfl () (rv_cell_agg' (i := 0) (o := 0) (nn := 2) rfl ⟨rfl, rfl, rfl, rfl⟩ rfl agg133 rfl) (List.nil_sublist _)
 replace hp := (br_f h1).symm.trans hp
 refine cx_skip' ?_
 show TX E K2 _
 refine tx_k' hK2 ?_
 refine cr fun K5 hK5 => ?_
 refine s0 (rd_move' rfl) ?_
 obtain ⟨r16, hr16, hp⟩ := bind_some hp
 refine s0 (rd_bin' rfl rfl eg_int (ru_quo hr16)) ?_
 refine s0 (rd_move' rfl) ?_
 obtain ⟨r18, hr18, hp⟩ := bind_some hp
 refine s0 (rd_bin' rfl rfl eg_int (ru_quo hr18)) ?_
 refine s0 (rd_field' (off := 1) rfl Try.underlying133 rfl info131 rfl) ?_
 refine s0 (rd_load' (i := 1) (o := 1) rfl ⟨rfl, rfl, rfl, rfl⟩ rfl flat131) ?_
 refine s0 (rd_len' rfl Try.underlying131) ?_
 refine s0 (rd_bin' rfl rfl eg_int ru_add) ?_
 refine s0 (rd_bin' rfl rfl eg_int ru_add) ?_
 obtain ⟨r24, hr24, hp⟩ := bind_some hp
 refine sx_ox' (ox_make' (K := (Ki .u32)) rfl rfl hr24 rfl Try.underlying131 info214 rfl rfl rfl rfl rfl) (wt_none' rfl) fun g24 => ?_
 refine s0 (rd_assign' rfl) ?_
 refine nk hK5 ?_
 refine cr fun K6 hK6 => ?_
 refine s0 (rd_assign' rfl) ?_
 refine nk hK6 ?_
 refine cx_seq' fun K7 hK7 => ?_
 refine cr fun K8 hK8 => ?_
 refine s0 (rd_field' (off := 1) rfl Try.underlying133 rfl info131 rfl) ?_
 refine s0 (rd_load' (i := 2) (o := 1) rfl ⟨rfl, rfl, rfl, rfl⟩ rfl flat131) ?_
 refine s0 (rd_len' rfl Try.underlying131) ?_
 refine s0 (rd_move' rfl) ?_
 refine nk hK8 ?_
 refine cx_block' ?_
 obtain ⟨v2, hy1, hp⟩ := bind_some hp
 refine cx_loopg' (F := spec_Whole_Up_l1 a0_1 a1) (G := fun k R v => spec_Whole_Up_l1s a0_1 a1 k R v.1 v.2.1 v.2.2) (x := (r24, 0, 0)) (gh := g24) (fun (v1 : (List Int) × Int × Int) (w1 : Gs) => (⟨56, [], [(1, (Vi a1)), (2, (Vp q2)), (4, (Vp q4)), (5, (Vl (Vs w1))), (6, (Vl (.int .u32 v1.2.1))), (26, (Sl (Ki .u32) a0_1)), (27, (Vi (a0_1.length : Int))), (28, (Vi v1.2.2))], [⟨.pointer (some q2), [(Vb a0_0), (Sl (Ki .u32) a0_1)], 133, none⟩, ⟨.pointer (some q4), [(Vb false), Vn], 133, none⟩, (Rw (Ki .u32) 214 (Vs w1) v1.1)]⟩ : St)) (fun (v2 : (List Int) × Int) => Zg E (Exit.exit 0) (fun (w2 : Gs) => (⟨56, [], [(2, (Vp q2)), (4, (Vp q4)), (5, (Vl (Vs w2))), (6, (Vl (.int .u32 v2.2)))], [⟨.pointer (some q2), [(Vb a0_0), (Sl (Ki .u32) a0_1)], 133, none⟩, ⟨.pointer (some q4), [(Vb false), Vn], 133, none⟩, (Rw (Ki .u32) 214 (Vs w2) v2.1)]⟩ : St))) (fun _ => rfl) (fun _ _ => rfl) ?_ hy1 (tx_to' rfl [2, 1, 0] (sub_cons rfl (sub_cons rfl (sub_cons rfl (sub_cons rfl (sub_cons rfl (sub_cons rfl (sub_cons rfl (sub_cons rfl sub_nil)))))))) (by decide) (pick_cons rfl (pick_cons rfl (pick_cons rfl pick_nil)))) ?_
 ·clear hp hy1
  clear v2
  intro k rec1 KY1 ih1
  rintro ⟨x1, x2, x3⟩ g901 y1 hp
  replace hp : spec_Whole_Up_l1s a0_1 a1 k rec1 x1 x2 x3 = some y1 := hp
  unfold spec_Whole_Up_l1s at hp
  refine cr fun K15 hK15 => ?_
  refine s0 (rd_bin' rfl rfl eg_int ru_lss) ?_
  refine nk hK15 ?_
  refine cx_seq' fun K16 hK16 => ?_
  refine cx_cond' rfl (fun h4 => ?_) (fun h4 => ?_)
  ·replace hp := (br_t h4).symm.trans hp
   refine cx_skip' ?_
   show TX E K16 _
   refine tx_k' hK16 ?_
   refine cx_seq' fun K17 hK17 => ?_
   refine cx_block' ?_
   refine cr fun K18 hK18 => ?_
   obtain ⟨r30, hr30, hp⟩ := bind_some hp
   refine s0 (rd_at' (K := (Ki .u32)) rfl rfl hr30 Try.underlying131 info214) ?_
   refine s0 (rd_load_pt' rfl rfl flat214) ?_
   refine s0 (rd_assign' rfl) ?_
   refine nk hK18 ?_
   refine cr fun K19 hK19 => ?_
   refine s0 (rd_move' rfl) ?_
   refine s0 (rd_conv' rfl (ru_i2i (by rw [Try.underlying214]; rfl) Try.underlying194)) ?_
   refine s0 (rd_move' rfl) ?_
   obtain ⟨r35, hr35, hp⟩ := bind_some hp
   refine s0 (rd_bin' rfl rfl eg_int (ru_rem hr35)) ?_
   obtain ⟨r36, hr36, hp⟩ := bind_some hp
   refine s0 (rd_bin' rfl rfl eg_int (ru_shl hr36)) ?_
   refine s0 (rd_assign' rfl) ?_
   refine nk hK19 ?_
   refine cr fun K20 hK20 => ?_
   refine s0 (rd_move' rfl) ?_
   refine s0 (rd_move' rfl) ?_
   refine s0 (rd_conv' rfl (ru_i2i (by rw [Try.underlying194]; rfl) Try.underlying214)) ?_
   refine s0 (rd_move' rfl) ?_
   refine s0 (rd_bin' rfl rfl eg_int ru_or) ?_
   refine sx_ox' (ox_rowlit' (K := (Ki .u32)) (xs := [ior .u32 (icv .u32 r36) x2]) (qs := [(0, [(Vl (.int .u32 (ior .u32 (icv .u32 r36) x2)))])]) ⟨rfl, ⟨_, rfl, (lv_vl rfl rfl)⟩, trivial⟩ Try.underlying131 info214 rfl rfl rfl rfl rfl (by kernel_rfl) rfl rfl rfl) (wt_none' rfl) fun g42 => ?_
   obtain ⟨r43, hr43, hp⟩ := bind_some hp
   refine sx_ox' (ox_append' (K := (Ki .u32)) (i := 3) (xs := x1) (ys := ([ior .u32 (icv .u32 r36) x2])) rfl rfl rfl (sr_row' (j := 0) rfl rfl rfl Try.underlying131) hr43 Try.underlying131 info214 rfl rfl rfl (H' := [(Rw (Ki .u32) 214 (Vs g42) ([ior .u32 (icv .u32 r36) x2])), ⟨.pointer (some q2), [(Vb a0_0), (Sl (Ki .u32) a0_1)], 133, none⟩, ⟨.pointer (some q4), [(Vb false), Vn], 133, none⟩]) rfl) (wt_none' rfl) fun g43 => ?_
   refine s0 (rd_assign' rfl) ?_
   refine nk hK20 ?_
   refine cx_region' ?_
   refine s0 (rd_move' rfl) ?_
   obtain ⟨r45, hr45, hp⟩ := bind_some hp
   refine s0 (rd_bin' rfl rfl eg_int (ru_shr hr45)) ?_
   refine s0 (rd_conv' rfl (ru_i2i (by rw [Try.underlying194]; rfl) Try.underlying214)) ?_
   refine s0 (rd_assign' rfl) ?_
   refine nk hK17 ?_
   refine cx_region' ?_
   refine s0 (rd_bin' rfl rfl eg_int ru_add) ?_
   refine s0 (rd_move' rfl) ?_
   refine sx_nil' ?_
   show TX E (KY1 _) _
   exact tx_pick' [2, 3, 0] (sub_cons rfl (sub_cons rfl (sub_cons rfl (sub_cons rfl (sub_cons rfl (sub_cons rfl (sub_cons rfl (sub_cons rfl sub_nil)))))))) (by decide) (pick_cons rfl (pick_cons rfl (pick_cons rfl pick_nil))) (ih1 (r43, (icv .u32 r45), (iadd .i64 x3 1)) g43 _ hp)
  replace hp := (br_f h4).symm.trans hp
  refine cx_exit' ?_
  replace hp := Option.some.inj hp
  subst hp
  show TX E (Zg E (Exit.exit 0) _ (Exit.exit 0)) _
  exact tx_zend' g901 rfl [0, 1, 2] (sub_cons rfl (sub_cons rfl (sub_cons rfl (sub_cons rfl sub_nil)))) (by decide) (pick_cons rfl (pick_cons rfl (pick_cons rfl pick_nil)))
 refine zg_out fun w2 => ?_
 show TX E K7 _
 refine tx_k' hK7 ?_
 refine cx_seq' fun K21 hK21 => ?_
 refine cx_plan' [q2.block] [(5, 1), (8, 1)] [(0, 2), (1, 2), (2, 1), (3, 1), (4, 0), (5, 0), (6, 0), (7, 1), (8, 0)] mixed (by kernel_rfl) ?_
 refine px_rb' rfl (rb_field0' rfl Try.underlying133 rfl info4 rfl) rfl rfl (wt_none' rfl) ?_
 refine px_rb' rfl (rb_load' (i := 0) (o := 0) rfl ⟨rfl, rfl, rfl, rfl⟩ rfl flat4 (by simp)) rfl rfl (wt_none' rfl) ?_
 refine px_rd' rfl (rd_move' rfl) rfl rfl (wt_none' rfl) ?_
 refine px_rd' rfl (rd_move' rfl) rfl rfl (wt_none' rfl) ?_
 refine px_ox' rfl (ox_rowlit' (K := (Ki .u32)) (xs := [v2.2]) (qs := [(0, [(Vl (.int .u32 v2.2))])]) ⟨rfl, ⟨_, rfl, (lv_vl rfl rfl)⟩, trivial⟩ Try.underlying131 info214 rfl rfl rfl rfl rfl (by kernel_rfl) rfl rfl rfl) rfl (bs_cons (m := 0) rfl rfl rfl bs_nil) (wt_none' rfl) fun g52 => ?_
 obtain ⟨r53, hr53, hp⟩ := bind_some hp
 refine px_ox' rfl (ox_append' (K := (Ki .u32)) (i := 3) (xs := v2.1) (ys := ([v2.2])) rfl rfl rfl (sr_row' (j := 0) rfl rfl rfl Try.underlying131) hr53 Try.underlying131 info214 rfl rfl rfl (H' := [(Rw (Ki .u32) 214 (Vs g52) ([v2.2])), ⟨.pointer (some q2), [(Vb a0_0), (Sl (Ki .u32) a0_1)], 133, none⟩, ⟨.pointer (some q4), [(Vb false), Vn], 133, none⟩]) rfl) rfl (bs_cons (m := 1) rfl rfl rfl bs_nil) (wt_none' rfl) fun g53 => ?_
 refine tx_fz' (frz_row 0 [(53, (Vl (Vs g53)), (Sl (Ki .u32) r53))] (K := (Ki .u32)) (xs := r53) (by decide) rfl ⟨⟨rfl, frz_it⟩, trivial⟩ (H' := [(Rw (Ki .u32) 214 (Vs g52) ([v2.2])), ⟨.pointer (some q2), [(Vb a0_0), (Sl (Ki .u32) a0_1)], 133, none⟩, ⟨.pointer (some q4), [(Vb false), Vn], 133, none⟩]) frzH_refl) ?_
 obtain ⟨r54, hr54, hp⟩ := bind_some hp
 refine px_ox' rfl (ox_calln' (ent_fn' Try.func119 isn119 rfl rfl) (spec_trim_sim _ hr54 : Sx.Fn Try.prog 119 [(Sl (Ki .u32) r53)] [] (fun x : Unit => (Sl (Ki .u32) r54)) (fun x => [])) (Hn := fun x : Unit => [(Rw (Ki .u32) 214 (Vs g52) ([v2.2])), ⟨.pointer (some q2), [(Vb a0_0), (Sl (Ki .u32) a0_1)], 133, none⟩, ⟨.pointer (some q4), [(Vb false), Vn], 133, none⟩]) (fun _ => rfl) rfl rfl) rfl (bs_cons (m := 1) rfl rfl rfl bs_nil) (wt_none' rfl) fun ⟨⟩ => ?_
 refine px_rd' rfl (rd_build' (pls := [(0, 1), (1, 1)]) (qs := [(0, [(Vb a0_0)]), (1, [(Sl (Ki .u32) r54)])]) (r := [(Vb a0_0), (Sl (Ki .u32) r54)]) ⟨rfl, ⟨_, rfl, (lv_vl rfl rfl)⟩, ⟨rfl, ⟨_, rfl, (lv_sl _ _)⟩, trivial⟩⟩ Try.underlying133 has133 places133 info133 rfl rfl rfl) rfl rfl (wt_none' rfl) ?_
 refine px_oxv' rfl (oxv_store (i := 2) (o := 0) rfl rfl (lv_ag _) ⟨rfl, rfl, rfl, rfl⟩ rfl info133 rfl (H' := [(Rw (Ki .u32) 214 (Vs g52) ([v2.2])), ⟨.pointer (some q2), [(Vb a0_0), (Sl (Ki .u32) a0_1)], 133, none⟩, ⟨.pointer (some q4), [(Vb a0_0), (Sl (Ki .u32) r54)], 133, none⟩]) rfl) rfl rfl (bo_cons (m := 1) (by decide) rfl rfl bo_nil) (wt_none' rfl) fun _ => ?_
 refine px_nil' ?_
 show TX E K21 _
 refine tx_k' hK21 ?_
 refine cx_retc' ?_
 replace hp := Option.some.inj hp
 subst hp
 refine tx_pick' (L' := [(4, (Vp q4))]) (H' := [⟨.pointer (some q4), [(Vb a0_0), (Sl (Ki .u32) r54)], 133, none⟩]) [2] (sub_cons rfl sub_nil) (by decide) (pick_cons rfl pick_nil) ?_
 exact tx_ret1' Try.results130 rfl () (rv_cell_agg' (i := 0) (o := 0) (nn := 2) rfl ⟨rfl, rfl, rfl, rfl⟩ rfl agg133 rfl) (List.nil_sublist _)

def spec_addLimbs_j3 (k : Nat) (x5 : List Int) (rec1 : ((List Int) × Int × Int) → Option ((List Int) × Int)) (x7 : Int) (x4 : Int) : Option ((List Int) × Int) :=
 (apd 4 x5 ([icv .u32 x4])) >>= fun r47 =>
 (ishr .u64 x4 32) >>= fun r49 =>
 rec1 (r47, r49, (iadd .i64 x7 1))
def spec_addLimbs_l1s (x1 : List Int) (x2 : List Int) (k : Nat) (rec1 : ((List Int) × Int × Int) → Option ((List Int) × Int)) (x5 : List Int) (x6 : Int) (x7 : Int) : Option ((List Int) × Int) :=
 br (decide (x7 < (x1.length : Int)))
  ((idx x1 x7) >>= fun r26 =>
  br (decide (x7 < (x2.length : Int)))
   ((idx x2 x7) >>= fun r39 =>
   spec_addLimbs_j3 k x5 rec1 x7 (iadd .u64 (iadd .u64 (icv .u64 r26) x6) (icv .u64 r39)))
   (spec_addLimbs_j3 k x5 rec1 x7 (iadd .u64 (icv .u64 r26) x6)))
  (some (x5, x6))
def spec_addLimbs_l1 (x1 : List Int) (x2 : List Int) : Nat → ((List Int) × Int × Int) → Option ((List Int) × Int)
 | 0, _ => none
 | k + 1, v => spec_addLimbs_l1s x1 x2 k (spec_addLimbs_l1 x1 x2 k) v.1 v.2.1 v.2.2
def spec_addLimbs_j1 (k : Nat) (x1 : List Int) (x2 : List Int) : Option ((List Int)) :=
 (mk 4 0 0 (iadd .i64 (x1.length : Int) 1)) >>= fun r20 =>
 (spec_addLimbs_l1 x1 x2 k (r20, 0, 0)) >>= fun v5 =>
 (apd 4 v5.1 ([icv .u32 v5.2])) >>= fun r55 =>
 (spec_trim k r55) >>= fun r56 =>
 some r56
def spec_addLimbs (k : Nat) (a0 : List Int) (a1 : List Int) : Option ((List Int)) :=
 br (decide ((a0.length : Int) < (a1.length : Int)))
  (spec_addLimbs_j1 k a1 a0)
  (spec_addLimbs_j1 k a0 a1)

theorem spec_addLimbs_sim {k : Nat}  (a0 : List Int) (a1 : List Int) {out : (List Int)} (hp : spec_addLimbs k a0 a1 = some out) : Sx.Fn Try.prog 134 [(Sl (Ki .u32) a0), (Sl (Ki .u32) a1)] [] (fun w : Unit => (Sl (Ki .u32) out)) (fun w => []) := by
 unfold spec_addLimbs at hp
 refine fn_of Try.func134 rfl Try.ntmps134 rfl fun E hM => ?_
 refine cr fun K1 hK1 => ?_
 refine s0 (rd_assign' rfl) ?_
 refine nk hK1 ?_
 refine cx_join' (fun (v1 : (List Int) × (List Int)) => (⟨57, [], [(0, (Sl (Ki .u32) v1.1)), (1, (Sl (Ki .u32) v1.2))], []⟩ : St)) (fun (v1 : (List Int) × (List Int)) => spec_addLimbs_j1 k v1.1 v1.2 = some out) ?_ ?_
 ·rintro ⟨x1, x2⟩ hp
  replace hp : spec_addLimbs_j1 k x1 x2 = some out := hp
  unfold spec_addLimbs_j1 at hp
  refine cr fun K4 hK4 => ?_
  refine s0 (rd_move' rfl) ?_
  refine s0 (rd_len' rfl Try.underlying131) ?_
  refine s0 (rd_bin' rfl rfl eg_int ru_add) ?_
  obtain ⟨r20, hr20, hp⟩ := bind_some hp
  refine sx_ox' (ox_make' (K := (Ki .u32)) rfl rfl hr20 rfl Try.underlying131 info214 rfl rfl rfl rfl rfl) (wt_none' rfl) fun g20 => ?_
  refine s0 (rd_assign' rfl) ?_
  refine nk hK4 ?_
  refine cr fun K5 hK5 => ?_
  refine s0 (rd_assign' rfl) ?_
  refine nk hK5 ?_
  refine cx_seq' fun K6 hK6 => ?_
  refine cr fun K7 hK7 => ?_
  refine s0 (rd_move' rfl) ?_
  refine s0 (rd_len' rfl Try.underlying131) ?_
  refine s0 (rd_move' rfl) ?_
  refine nk hK7 ?_
  refine cx_block' ?_
  obtain ⟨v5, hy1, hp⟩ := bind_some hp
  refine cx_loopg' (F := spec_addLimbs_l1 x1 x2) (G := fun k R v => spec_addLimbs_l1s x1 x2 k R v.1 v.2.1 v.2.2) (x := (r20, 0, 0)) (gh := g20) (fun (v3 : (List Int) × Int × Int) (w3 : Gs) => (⟨57, [], [(1, (Sl (Ki .u32) x2)), (5, (Vl (Vs w3))), (6, (Vl (.int .u64 v3.2.1))), (21, (Sl (Ki .u32) x1)), (22, (Vi (x1.length : Int))), (23, (Vi v3.2.2))], [(Rw (Ki .u32) 214 (Vs w3) v3.1)]⟩ : St)) (fun (v5 : (List Int) × Int) => Zg E (Exit.exit 0) (fun (w5 : Gs) => (⟨57, [], [(5, (Vl (Vs w5))), (6, (Vl (.int .u64 v5.2)))], [(Rw (Ki .u32) 214 (Vs w5) v5.1)]⟩ : St))) (fun _ => rfl) (fun _ _ => rfl) ?_ hy1 (tx_to' rfl [0] (sub_cons rfl (sub_cons rfl (sub_cons rfl (sub_cons rfl (sub_cons rfl (sub_cons rfl sub_nil)))))) (by decide) (pick_cons rfl pick_nil)) ?_
  ·clear hp hy1
   clear v5
   intro k rec1 KY1 ih1
   rintro ⟨x5, x6, x7⟩ g901 y1 hp
   replace hp : spec_addLimbs_l1s x1 x2 k rec1 x5 x6 x7 = some y1 := hp
   unfold spec_addLimbs_l1s at hp
   refine cr fun K16 hK16 => ?_
   refine s0 (rd_bin' rfl rfl eg_int ru_lss) ?_
   refine nk hK16 ?_
   refine cx_seq' fun K17 hK17 => ?_
   refine cx_cond' rfl (fun h5 => ?_) (fun h5 => ?_)
   ·replace hp := (br_t h5).symm.trans hp
    refine cx_skip' ?_
    show TX E K17 _
    refine tx_k' hK17 ?_
    refine cx_seq' fun K18 hK18 => ?_
    refine cx_block' ?_
    refine cr fun K19 hK19 => ?_
    refine s0 (rd_move' rfl) ?_
    obtain ⟨r26, hr26, hp⟩ := bind_some hp
    refine s0 (rd_at' (K := (Ki .u32)) rfl rfl hr26 Try.underlying131 info214) ?_
    refine s0 (rd_load_pt' rfl rfl flat214) ?_
    refine s0 (rd_assign' rfl) ?_
    refine s0 (rd_assign' rfl) ?_
    refine nk hK19 ?_
    refine cr fun K20 hK20 => ?_
    refine s0 (rd_move' rfl) ?_
    refine s0 (rd_conv' rfl (ru_i2i (by rw [Try.underlying214]; rfl) Try.underlying194)) ?_
    refine s0 (rd_move' rfl) ?_
    refine s0 (rd_bin' rfl rfl eg_int ru_add) ?_
    refine s0 (rd_assign' rfl) ?_
    refine nk hK20 ?_
    refine cx_join' (fun (v4 : Int) => (⟨57, [], [(1, (Sl (Ki .u32) x2)), (5, (Vl (Vs g901))), (9, (Vl (.int .u64 v4))), (21, (Sl (Ki .u32) x1)), (22, (Vi (x1.length : Int))), (23, (Vi x7))], [(Rw (Ki .u32) 214 (Vs g901) x5)]⟩ : St)) (fun (v4 : Int) => spec_addLimbs_j3 k x5 rec1 x7 v4 = some y1) ?_ ?_
    ·rintro x4 hp
     replace hp : spec_addLimbs_j3 k x5 rec1 x7 x4 = some y1 := hp
     unfold spec_addLimbs_j3 at hp
     refine cr fun K23 hK23 => ?_
     refine s0 (rd_move' rfl) ?_
     refine s0 (rd_move' rfl) ?_
     refine s0 (rd_conv' rfl (ru_i2i (by rw [Try.underlying194]; rfl) Try.underlying214)) ?_
     refine sx_ox' (ox_rowlit' (K := (Ki .u32)) (xs := [icv .u32 x4]) (qs := [(0, [(Vl (.int .u32 (icv .u32 x4)))])]) ⟨rfl, ⟨_, rfl, (lv_vl rfl rfl)⟩, trivial⟩ Try.underlying131 info214 rfl rfl rfl rfl rfl (by kernel_rfl) rfl rfl rfl) (wt_none' rfl) fun g46 => ?_
     obtain ⟨r47, hr47, hp⟩ := bind_some hp
     refine sx_ox' (ox_append' (K := (Ki .u32)) (i := 1) (xs := x5) (ys := ([icv .u32 x4])) rfl rfl rfl (sr_row' (j := 0) rfl rfl rfl Try.underlying131) hr47 Try.underlying131 info214 rfl rfl rfl (H' := [(Rw (Ki .u32) 214 (Vs g46) ([icv .u32 x4]))]) rfl) (wt_none' rfl) fun g47 => ?_
     refine s0 (rd_assign' rfl) ?_
     refine nk hK23 ?_
     refine cx_region' ?_
     refine s0 (rd_move' rfl) ?_
     obtain ⟨r49, hr49, hp⟩ := bind_some hp
     refine s0 (rd_bin' rfl rfl eg_int (ru_shr hr49)) ?_
     refine s0 (rd_assign' rfl) ?_
     refine nk hK18 ?_
     refine cx_region' ?_
     refine s0 (rd_bin' rfl rfl eg_int ru_add) ?_
     refine s0 (rd_move' rfl) ?_
     refine sx_nil' ?_
     show TX E (KY1 _) _
     exact tx_pick' [0] (sub_cons rfl (sub_cons rfl (sub_cons rfl (sub_cons rfl (sub_cons rfl (sub_cons rfl sub_nil)))))) (by decide) (pick_cons rfl pick_nil) (ih1 (r47, r49, (iadd .i64 x7 1)) g47 _ hp)
    intro K21 hK21
    refine cr fun K22 hK22 => ?_
    refine s0 (rd_move' rfl) ?_
    refine s0 (rd_move' rfl) ?_
    refine s0 (rd_len' rfl Try.underlying131) ?_
    refine s0 (rd_bin' rfl rfl eg_int ru_lss) ?_
    refine nk hK22 ?_
    refine cx_cond' rfl (fun h6 => ?_) (fun h6 => ?_)
    ·replace hp := (br_t h6).symm.trans hp
     refine cx_region' ?_
     refine s0 (rd_move' rfl) ?_
     refine s0 (rd_move' rfl) ?_
     refine s0 (rd_move' rfl) ?_
     obtain ⟨r39, hr39, hp⟩ := bind_some hp
     refine s0 (rd_at' (K := (Ki .u32)) rfl rfl hr39 Try.underlying131 info214) ?_
     refine s0 (rd_load_pt' rfl rfl flat214) ?_
     refine s0 (rd_conv' rfl (ru_i2i (by rw [Try.underlying214]; rfl) Try.underlying194)) ?_
     refine s0 (rd_bin' rfl rfl eg_int ru_add) ?_
     refine s0 (rd_assign' rfl) ?_
     refine sx_nil' ?_
     show TX E K21 _
     exact tx_pick' [0] (sub_cons rfl (sub_cons rfl (sub_cons rfl (sub_cons rfl (sub_cons rfl (sub_cons rfl sub_nil)))))) (by decide) (pick_cons rfl pick_nil) (hK21 (iadd .u64 (iadd .u64 (icv .u64 r26) x6) (icv .u64 r39)) hp)
    replace hp := (br_f h6).symm.trans hp
    refine cx_skip' ?_
    show TX E K21 _
    exact tx_pick' [0] (sub_cons rfl (sub_cons rfl (sub_cons rfl (sub_cons rfl (sub_cons rfl (sub_cons rfl sub_nil)))))) (by decide) (pick_cons rfl pick_nil) (hK21 (iadd .u64 (icv .u64 r26) x6) hp)
   replace hp := (br_f h5).symm.trans hp
   refine cx_exit' ?_
   replace hp := Option.some.inj hp
   subst hp
   show TX E (Zg E (Exit.exit 0) _ (Exit.exit 0)) _
   exact tx_zend' g901 rfl [0] (sub_cons rfl (sub_cons rfl sub_nil)) (by decide) (pick_cons rfl pick_nil)
  refine zg_out fun w5 => ?_
  show TX E K6 _
  refine tx_k' hK6 ?_
  refine cr fun K24 hK24 => ?_
  refine s0 (rd_move' rfl) ?_
  refine s0 (rd_move' rfl) ?_
  refine s0 (rd_conv' rfl (ru_i2i (by rw [Try.underlying194]; rfl) Try.underlying214)) ?_
  refine sx_ox' (ox_rowlit' (K := (Ki .u32)) (xs := [icv .u32 v5.2]) (qs := [(0, [(Vl (.int .u32 (icv .u32 v5.2)))])]) ⟨rfl, ⟨_, rfl, (lv_vl rfl rfl)⟩, trivial⟩ Try.underlying131 info214 rfl rfl rfl rfl rfl (by kernel_rfl) rfl rfl rfl) (wt_none' rfl) fun g54 => ?_
  obtain ⟨r55, hr55, hp⟩ := bind_some hp
  refine sx_ox' (ox_append' (K := (Ki .u32)) (i := 1) (xs := v5.1) (ys := ([icv .u32 v5.2])) rfl rfl rfl (sr_row' (j := 0) rfl rfl rfl Try.underlying131) hr55 Try.underlying131 info214 rfl rfl rfl (H' := [(Rw (Ki .u32) 214 (Vs g54) ([icv .u32 v5.2]))]) rfl) (wt_none' rfl) fun g55 => ?_
  refine tx_fz' (frz_row 0 [(55, (Vl (Vs g55)), (Sl (Ki .u32) r55))] (K := (Ki .u32)) (xs := r55) (by decide) rfl ⟨⟨rfl, frz_it⟩, trivial⟩ (H' := [(Rw (Ki .u32) 214 (Vs g54) ([icv .u32 v5.2]))]) frzH_refl) ?_
  obtain ⟨r56, hr56, hp⟩ := bind_some hp
  refine sx_ox' (ox_calln' (ent_fn' Try.func119 isn119 rfl rfl) (spec_trim_sim _ hr56 : Sx.Fn Try.prog 119 [(Sl (Ki .u32) r55)] [] (fun x : Unit => (Sl (Ki .u32) r56)) (fun x => [])) (Hn := fun x : Unit => [(Rw (Ki .u32) 214 (Vs g54) ([icv .u32 v5.2]))]) (fun _ => rfl) rfl rfl) (wt_none' rfl) fun ⟨⟩ => ?_
  refine s0 (rd_assign' rfl) ?_
  refine nk hK24 ?_
  refine cx_retc' ?_
  replace hp := Option.some.inj hp
  subst hp
  refine tx_pick' (L' := [(4, (Sl (Ki .u32) r56))]) (H' := []) [] (sub_cons rfl sub_nil) (by decide) pick_nil ?_
  exact tx_ret1' Try.results134 rfl () (rv_tmp' rfl) (List.Sublist.refl _)
 intro K2 hK2
 refine cr fun K3 hK3 => ?_
 refine s0 (rd_move' rfl) ?_
 refine s0 (rd_len' rfl Try.underlying131) ?_
 refine s0 (rd_move' rfl) ?_
 refine s0 (rd_len' rfl Try.underlying131) ?_
 refine s0 (rd_bin' rfl rfl eg_int ru_lss) ?_
 refine nk hK3 ?_
 refine cx_cond' rfl (fun h1 => ?_) (fun h1 => ?_)
 ·replace hp := (br_t h1).symm.trans hp
  refine cx_region' ?_
  refine s0 (rd_move' rfl) ?_
  refine s0 (rd_move' rfl) ?_
  refine s0 (rd_assign' rfl) ?_
  refine s0 (rd_assign' rfl) ?_
  refine sx_nil' ?_
  show TX E K2 _
  exact tx_pick' [] (sub_cons rfl (sub_cons rfl sub_nil)) (by decide) pick_nil (hK2 (a1, a0) hp)
 replace hp := (br_f h1).symm.trans hp
 refine cx_skip' ?_
 show TX E K2 _
 exact tx_pick' [] (sub_cons rfl (sub_cons rfl sub_nil)) (by decide) pick_nil (hK2 (a0, a1) hp)

def spec_cmpLimbs_l1s (a0 : List Int) (a1 : List Int) (k : Nat) (rec1 : Int → Option (Int ⊕ Unit)) (x1 : Int) : Option (Int ⊕ Unit) :=
 br (decide (0 ≤ x1))
  ((idx a0 x1) >>= fun r25 =>
  (idx a1 x1) >>= fun r29 =>
  br (!decide (r25 = r29))
   ((idx a0 x1) >>= fun r34 =>
   (idx a1 x1) >>= fun r38 =>
   br (decide (r34 < r38))
    (some (.inl (-1)))
    (some (.inl 1)))
   (rec1 (isub .i64 x1 1)))
  (some (.inr ()))
def spec_cmpLimbs_l1 (a0 : List Int) (a1 : List Int) : Nat → Int → Option (Int ⊕ Unit)
 | 0, _ => none
 | k + 1, v => spec_cmpLimbs_l1s a0 a1 k (spec_cmpLimbs_l1 a0 a1 k) v
def spec_cmpLimbs (k : Nat) (a0 : List Int) (a1 : List Int) : Option (Int) :=
 br (!decide ((a0.length : Int) = (a1.length : Int)))
  (br (decide ((a0.length : Int) < (a1.length : Int)))
   (some (-1))
   (some 1))
  ((spec_cmpLimbs_l1 a0 a1 k (isub .i64 (a0.length : Int) 1)) >>= fun y1 => match y1 with
   | (.inl v2) =>
    (some v2)
   | (.inr v3) =>
    (some 0))

theorem spec_cmpLimbs_sim {k : Nat}  (a0 : List Int) (a1 : List Int) {out : Int} (hp : spec_cmpLimbs k a0 a1 = some out) : Sx.Fn Try.prog 135 [(Sl (Ki .u32) a0), (Sl (Ki .u32) a1)] [] (fun w : Unit => (Vi out)) (fun w => []) := by
 unfold spec_cmpLimbs at hp
 refine fn_of Try.func135 rfl Try.ntmps135 rfl fun E hM => ?_
 refine cr fun K1 hK1 => ?_
 refine s0 (rd_assign' rfl) ?_
 refine nk hK1 ?_
 refine cx_seq' fun K2 hK2 => ?_
 refine cr fun K3 hK3 => ?_
 refine s0 (rd_move' rfl) ?_
 refine s0 (rd_len' rfl Try.underlying131) ?_
 refine s0 (rd_move' rfl) ?_
 refine s0 (rd_len' rfl Try.underlying131) ?_
 refine s0 (rd_bin' rfl rfl eg_int ru_neq) ?_
 refine nk hK3 ?_
 refine cx_cond' rfl (fun h1 => ?_) (fun h1 => ?_)
 ·replace hp := (br_t h1).symm.trans hp
  refine cx_seq' fun K4 hK4 => ?_
  refine cr fun K5 hK5 => ?_
  refine s0 (rd_move' rfl) ?_
  refine s0 (rd_len' rfl Try.underlying131) ?_
  refine s0 (rd_move' rfl) ?_
  refine s0 (rd_len' rfl Try.underlying131) ?_
  refine s0 (rd_bin' rfl rfl eg_int ru_lss) ?_
  refine nk hK5 ?_
  refine cx_cond' rfl (fun h2 => ?_) (fun h2 => ?_)
  ·replace hp := (br_t h2).symm.trans hp
   refine cr fun K6 hK6 => ?_
   refine s0 (rd_assign' rfl) ?_
   refine nk hK6 ?_
   refine cx_retc' ?_
   replace hp := Option.some.inj hp
   subst hp
   refine tx_pick' (L' := [(4, (Vi (-1)))]) (H' := []) [] (sub_cons rfl sub_nil) (by decide) pick_nil ?_
   exact tx_ret1' Try.results135 rfl () (rv_tmp' rfl) (List.Sublist.refl _)
  replace hp := (br_f h2).symm.trans hp
  refine cx_skip' ?_
  show TX E K4 _
  refine tx_k' hK4 ?_
  refine cr fun K7 hK7 => ?_
  refine s0 (rd_assign' rfl) ?_
  refine nk hK7 ?_
  refine cx_retc' ?_
  replace hp := Option.some.inj hp
  subst hp
  refine tx_pick' (L' := [(4, (Vi 1))]) (H' := []) [] (sub_cons rfl sub_nil) (by decide) pick_nil ?_
  exact tx_ret1' Try.results135 rfl () (rv_tmp' rfl) (List.Sublist.refl _)
 replace hp := (br_f h1).symm.trans hp
 refine cx_skip' ?_
 show TX E K2 _
 refine tx_k' hK2 ?_
 refine cx_seq' fun K8 hK8 => ?_
 refine cr fun K9 hK9 => ?_
 refine s0 (rd_move' rfl) ?_
 refine s0 (rd_len' rfl Try.underlying131) ?_
 refine s0 (rd_bin' rfl rfl eg_int ru_sub) ?_
 refine s0 (rd_assign' rfl) ?_
 refine nk hK9 ?_
 refine cx_block' ?_
 obtain ⟨y1, hy1, hp⟩ := bind_some hp
 refine cx_loopg' (F := spec_cmpLimbs_l1 a0 a1) (G := fun k R v => spec_cmpLimbs_l1s a0 a1 k R v) (x := (isub .i64 (a0.length : Int) 1)) (gh := ()) (fun (v1 : Int) (w1 : Unit) => (⟨41, [], [(0, (Sl (Ki .u32) a0)), (1, (Sl (Ki .u32) a1)), (5, (Vi v1))], []⟩ : St)) (fun (y : Int ⊕ Unit) => match y with | (.inl v2) => Zg E Exit.ret (fun (w2 : Unit) => (⟨41, [], [(4, (Vi v2))], []⟩ : St)) | (.inr v3) => Zg E (Exit.exit 0) (fun (w3 : Unit) => (⟨41, [], [], []⟩ : St))) (fun _ => rfl) (fun _ _ => rfl) ?_ hy1 (tx_to' rfl [] (sub_cons rfl (sub_cons rfl (sub_cons rfl sub_nil))) (by decide) pick_nil) ?_
 ·clear hp hy1
  clear y1
  intro k rec1 KY1 ih1
  rintro x1 ⟨⟩ y1 hp
  replace hp : spec_cmpLimbs_l1s a0 a1 k rec1 x1 = some y1 := hp
  unfold spec_cmpLimbs_l1s at hp
  refine cx_seq' fun K18 hK18 => ?_
  refine cr fun K19 hK19 => ?_
  refine s0 (rd_move' rfl) ?_
  refine s0 (rd_bin' rfl rfl eg_int ru_geq) ?_
  refine nk hK19 ?_
  refine cx_cond' rfl (fun h7 => ?_) (fun h7 => ?_)
  ·replace hp := (br_t h7).symm.trans hp
   refine cx_skip' ?_
   show TX E K18 _
   refine tx_k' hK18 ?_
   refine cx_seq' fun K20 hK20 => ?_
   refine cx_block' ?_
   refine cx_seq' fun K21 hK21 => ?_
   refine cx_draw' mixed (by kernel_rfl) ?_
   refine qx_rd' (rd_move' rfl) rfl rfl (wt_none' rfl) ?_
   refine qx_rd' (rd_move' rfl) rfl rfl (wt_none' rfl) ?_
   obtain ⟨r25, hr25, hp⟩ := bind_some hp
   refine qx_rd' (rd_at' (K := (Ki .u32)) rfl rfl hr25 Try.underlying131 info214) rfl rfl (wt_none' rfl) ?_
   refine qx_rd' (rd_load_pt' rfl rfl flat214) rfl rfl (wt_none' rfl) ?_
   refine qx_rd' (rd_move' rfl) rfl rfl (wt_none' rfl) ?_
   refine qx_rd' (rd_move' rfl) rfl rfl (wt_none' rfl) ?_
   obtain ⟨r29, hr29, hp⟩ := bind_some hp
   refine qx_rd' (rd_at' (K := (Ki .u32)) rfl rfl hr29 Try.underlying131 info214) rfl rfl (wt_none' rfl) ?_
   refine qx_rd' (rd_load_pt' rfl rfl flat214) rfl rfl (wt_none' rfl) ?_
   refine qx_rd' (rd_bin' rfl rfl eg_int ru_neq) rfl rfl (wt_none' rfl) ?_
   refine qx_nil' ?_
   show TX E K21 _
   refine tx_k' hK21 ?_
   refine cx_cond' rfl (fun h8 => ?_) (fun h8 => ?_)
   ·replace hp := (br_t h8).symm.trans hp
    refine cx_seq' fun K22 hK22 => ?_
    refine cx_seq' fun K23 hK23 => ?_
    refine cx_draw' mixed (by kernel_rfl) ?_
    refine qx_rd' (rd_move' rfl) rfl rfl (wt_none' rfl) ?_
    refine qx_rd' (rd_move' rfl) rfl rfl (wt_none' rfl) ?_
    obtain ⟨r34, hr34, hp⟩ := bind_some hp
    refine qx_rd' (rd_at' (K := (Ki .u32)) rfl rfl hr34 Try.underlying131 info214) rfl rfl (wt_none' rfl) ?_
    refine qx_rd' (rd_load_pt' rfl rfl flat214) rfl rfl (wt_none' rfl) ?_
    refine qx_rd' (rd_move' rfl) rfl rfl (wt_none' rfl) ?_
    refine qx_rd' (rd_move' rfl) rfl rfl (wt_none' rfl) ?_
    obtain ⟨r38, hr38, hp⟩ := bind_some hp
    refine qx_rd' (rd_at' (K := (Ki .u32)) rfl rfl hr38 Try.underlying131 info214) rfl rfl (wt_none' rfl) ?_
    refine qx_rd' (rd_load_pt' rfl rfl flat214) rfl rfl (wt_none' rfl) ?_
    refine qx_rd' (rd_bin' rfl rfl eg_int ru_lss) rfl rfl (wt_none' rfl) ?_
    refine qx_nil' ?_
    show TX E K23 _
    refine tx_k' hK23 ?_
    refine cx_cond' rfl (fun h9 => ?_) (fun h9 => ?_)
    ·replace hp := (br_t h9).symm.trans hp
     refine cr fun K24 hK24 => ?_
     refine s0 (rd_assign' rfl) ?_
     refine nk hK24 ?_
     refine cx_retc' ?_
     replace hp := Option.some.inj hp
     subst hp
     show TX E (Zg E Exit.ret _ Exit.ret) _
     exact tx_zend' () rfl [] (sub_cons rfl sub_nil) (by decide) pick_nil
    replace hp := (br_f h9).symm.trans hp
    refine cx_skip' ?_
    show TX E K22 _
    refine tx_k' hK22 ?_
    refine cr fun K25 hK25 => ?_
    refine s0 (rd_assign' rfl) ?_
    refine nk hK25 ?_
    refine cx_retc' ?_
    replace hp := Option.some.inj hp
    subst hp
    show TX E (Zg E Exit.ret _ Exit.ret) _
    exact tx_zend' () rfl [] (sub_cons rfl sub_nil) (by decide) pick_nil
   replace hp := (br_f h8).symm.trans hp
   refine cx_skip' ?_
   show TX E K20 _
   refine tx_k' hK20 ?_
   refine cx_region' ?_
   refine s0 (rd_move' rfl) ?_
   refine s0 (rd_bin' rfl rfl eg_int ru_sub) ?_
   refine s0 (rd_assign' rfl) ?_
   refine sx_nil' ?_
   show TX E (KY1 _) _
   exact tx_pick' [] (sub_cons rfl (sub_cons rfl (sub_cons rfl sub_nil))) (by decide) pick_nil (ih1 (isub .i64 x1 1) () _ hp)
  replace hp := (br_f h7).symm.trans hp
  refine cx_exit' ?_
  replace hp := Option.some.inj hp
  subst hp
  show TX E (Zg E (Exit.exit 0) _ (Exit.exit 0)) _
  exact tx_zend' () rfl [] sub_nil (by decide) pick_nil
 rcases y1 with v2 | v3
 ·dsimp only at hp
  refine zg_out fun w2 => ?_
  replace hp := Option.some.inj hp
  subst hp
  refine tx_pick' (L' := [(4, (Vi v2))]) (H' := []) [] (sub_cons rfl sub_nil) (by decide) pick_nil ?_
  exact tx_ret1' Try.results135 rfl () (rv_tmp' rfl) (List.Sublist.refl _)
 dsimp only at hp
 refine zg_out fun w3 => ?_
 show TX E K8 _
 refine tx_k' hK8 ?_
 refine cr fun K26 hK26 => ?_
 refine s0 (rd_assign' rfl) ?_
 refine nk hK26 ?_
 refine cx_retc' ?_
 replace hp := Option.some.inj hp
 subst hp
 refine tx_pick' (L' := [(4, (Vi 0))]) (H' := []) [] (sub_cons rfl sub_nil) (by decide) pick_nil ?_
 exact tx_ret1' Try.results135 rfl () (rv_tmp' rfl) (List.Sublist.refl _)

end Go.Proofs.Ytpakkblinocenaa
