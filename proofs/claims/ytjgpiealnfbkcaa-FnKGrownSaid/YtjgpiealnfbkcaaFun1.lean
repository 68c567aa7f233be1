/-
  Plain functions for the Go functions that this law reaches, and that each call does what its plain function says. Printed by a program of ours.
-/
import Derived.Test.YtjgpiealnfbkcaaProg
import Derived.Test.YtjgpiealnfbkcaaSxX
namespace Go.Proofs.Ytjgpiealnfbkcaa
open Go.Sx
set_option linter.unusedVariables false
set_option linter.unusedSimpArgs false
set_option maxRecDepth 100000

theorem isn7 : (Try.f7.name == "runtime.NumGoroutine") = false := by kernel_rfl
theorem info25 : (Try.prog.info? 25).map (fun i => (i.zero, i.size, i.bytes)) = some (some (.slice none 0 0), 1, 24) := by kernel_rfl
theorem flat25 : Flat Try.prog 25 := ⟨_, Try.underlying25, fun _ h => (nomatch h), fun _ _ h => (nomatch h)⟩
theorem isn8 : (Try.f8.name == "runtime.NumGoroutine") = false := by kernel_rfl
theorem isn26 : (Try.f26.name == "runtime.NumGoroutine") = false := by kernel_rfl
theorem info40 : (Try.prog.info? 40).map (fun i => (i.zero, i.size, i.bytes)) = some (some (.float .f64 0), 1, 8) := by kernel_rfl
theorem flat40 : Flat Try.prog 40 := ⟨_, Try.underlying40, fun _ h => (nomatch h), fun _ _ h => (nomatch h)⟩
theorem isn61 : (Try.f61.name == "runtime.NumGoroutine") = false := by kernel_rfl
theorem extf79 : ∀ {x r : Nat}, gint .zero x = r → ∀ y, (y = x ∨ (isn x = true ∧ isn y = true)) → RunsF Try.prog (callFunc 79 #[.float .f64 y]) (Fl r) := fun hz y hy => hz ▸ runs_ext (e := Extern.MathFloor.toIntegral "math.archTrunc" .zero) Try.func79 (by kernel_rfl) (by kernel_rfl) (by kernel_rfl) (by kernel_rfl) (gint_runs hy)
theorem isn9 : (Try.f9.name == "runtime.NumGoroutine") = false := by kernel_rfl
theorem nil_eql66_nilptr : ∀ (w : World), (binOp .eql 66 (.pointer none) (.pointer none)).run Try.prog w = .ok (.bool true) w := fun _ => by kernel_rfl
theorem places120 : placesOf Try.prog [{ name := "Point", type := 116, offset := 0, embedded := false, tag := "", pkgPath := "", byteOffset := 0 }, { name := "Plane", type := 117, offset := 1, embedded := false, tag := "", pkgPath := "", byteOffset := 16 }, { name := "Left", type := 66, offset := 2, embedded := false, tag := "", pkgPath := "", byteOffset := 24 }, { name := "Right", type := 66, offset := 3, embedded := false, tag := "", pkgPath := "", byteOffset := 32 }, { name := "Bounding", type := 118, offset := 4, embedded := true, tag := "", pkgPath := "", byteOffset := 40 }] = [(0, 1), (1, 1), (2, 1), (3, 1), (4, 1)] := by kernel_rfl
theorem has120 : ∀ f ∈ ([{ name := "Point", type := 116, offset := 0, embedded := false, tag := "", pkgPath := "", byteOffset := 0 }, { name := "Plane", type := 117, offset := 1, embedded := false, tag := "", pkgPath := "", byteOffset := 16 }, { name := "Left", type := 66, offset := 2, embedded := false, tag := "", pkgPath := "", byteOffset := 24 }, { name := "Right", type := 66, offset := 3, embedded := false, tag := "", pkgPath := "", byteOffset := 32 }, { name := "Bounding", type := 118, offset := 4, embedded := true, tag := "", pkgPath := "", byteOffset := 40 }] : List Field), (Try.prog.info? f.type).isSome = true := fun f hf => all_of (p := fun f => (Try.prog.info? f.type).isSome) (by kernel_rfl) f hf
theorem info120 : (Try.prog.info? 120).map (fun i => (i.zero, i.size, i.bytes)) = some (some (.agg #[.nilIface, .int .i64 0, .pointer none, .pointer none, .pointer none]), 5, 48) := by kernel_rfl
theorem nil_eql66_ptr : ∀ (q : Addr) (w : World), (binOp .eql 66 (.pointer (some q)) (.pointer none)).run Try.prog w = .ok (.bool false) w := fun _ _ => by kernel_rfl
theorem info117 : (Try.prog.info? 117).map (fun i => (i.zero, i.size, i.bytes)) = some (some (.int .i64 0), 1, 8) := by kernel_rfl
theorem flat117 : Flat Try.prog 117 := ⟨_, Try.underlying117, fun _ h => (nomatch h), fun _ _ h => (nomatch h)⟩
theorem inv62_Dims : ∀ (v : Value) w', (callMethod (.iface 62 v) "Dims" #[]).run Try.prog w' = .ok (.enter 121 #[v]) w' := fun _ _ => by kernel_rfl
theorem info116 : (Try.prog.info? 116).map (fun i => (i.zero, i.size, i.bytes)) = some (some (.nilIface), 1, 16) := by kernel_rfl
theorem flat116 : Flat Try.prog 116 := ⟨_, Try.underlying116, fun _ h => (nomatch h), fun _ _ h => (nomatch h)⟩
theorem nla62_Compare_sl : ∀ (v : Value) w, (nilAhead (Try.prog.types.size + Made.depth) 62 v "Compare").run Try.prog w = .ok (some false) w := fun _ _ => by kernel_rfl
theorem inv62_Compare : ∀ (v : Value) (a : Value) (b : Value) w', (callMethod (.iface 62 v) "Compare" #[a, b]).run Try.prog w' = .ok (.enter 120 #[v, a, b]) w' := fun _ _ _ _ => by kernel_rfl
theorem as62_116_62 : ∀ v w, (Instr.typeAssert (.iface 62 v) 116 62 false).run Try.prog w = .ok (v) w := fun _ _ => by kernel_rfl
theorem mixed : Try.prog.follows .mixedOrders = true := by kernel_rfl
theorem info66 : (Try.prog.info? 66).map (fun i => (i.zero, i.size, i.bytes)) = some (some (.pointer none), 1, 8) := by kernel_rfl
theorem flat66 : Flat Try.prog 66 := ⟨_, Try.underlying66, fun _ h => (nomatch h), fun _ _ h => (nomatch h)⟩
theorem isn64 : (Try.f64.name == "runtime.NumGoroutine") = false := by kernel_rfl
theorem inv62_Extend : ∀ (v : Value) (a : Value) w', (callMethod (.iface 62 v) "Extend" #[a]).run Try.prog w' = .ok (.enter 123 #[v, a]) w' := fun _ _ _ => by kernel_rfl
theorem nil_eql118_nilptr : ∀ (w : World), (binOp .eql 118 (.pointer none) (.pointer none)).run Try.prog w = .ok (.bool true) w := fun _ => by kernel_rfl
theorem places127 : placesOf Try.prog [{ name := "Min", type := 116, offset := 0, embedded := false, tag := "", pkgPath := "", byteOffset := 0 }, { name := "Max", type := 116, offset := 1, embedded := false, tag := "", pkgPath := "", byteOffset := 16 }] = [(0, 1), (1, 1)] := by kernel_rfl
theorem has127 : ∀ f ∈ ([{ name := "Min", type := 116, offset := 0, embedded := false, tag := "", pkgPath := "", byteOffset := 0 }, { name := "Max", type := 116, offset := 1, embedded := false, tag := "", pkgPath := "", byteOffset := 16 }] : List Field), (Try.prog.info? f.type).isSome = true := fun f hf => all_of (p := fun f => (Try.prog.info? f.type).isSome) (by kernel_rfl) f hf
theorem info127 : (Try.prog.info? 127).map (fun i => (i.zero, i.size, i.bytes)) = some (some (.agg #[.nilIface, .nilIface]), 2, 32) := by kernel_rfl
theorem isn124 : (Try.f124.name == "runtime.NumGoroutine") = false := by kernel_rfl
theorem ext126 : ∀ {args : Array Value} {v : Value}, Runs Try.prog ((Extern.MathDim.pick "math.archMin" true .lt) args) v → Runs Try.prog (callFunc 126 args) (.value v) := fun hr => ru_ext Try.func126 (by kernel_rfl) (by kernel_rfl) (by kernel_rfl) (by kernel_rfl) hr
theorem isn125 : (Try.f125.name == "runtime.NumGoroutine") = false := by kernel_rfl
theorem ext128 : ∀ {args : Array Value} {v : Value}, Runs Try.prog ((Extern.MathDim.pick "math.archMax" false .gt) args) v → Runs Try.prog (callFunc 128 args) (.value v) := fun hr => ru_ext Try.func128 (by kernel_rfl) (by kernel_rfl) (by kernel_rfl) (by kernel_rfl) hr
theorem info118 : (Try.prog.info? 118).map (fun i => (i.zero, i.size, i.bytes)) = some (some (.pointer none), 1, 8) := by kernel_rfl
theorem flat118 : Flat Try.prog 118 := ⟨_, Try.underlying118, fun _ h => (nomatch h), fun _ _ h => (nomatch h)⟩
theorem nla62_Extend_sl : ∀ (v : Value) w, (nilAhead (Try.prog.types.size + Made.depth) 62 v "Extend").run Try.prog w = .ok (some false) w := fun _ _ => by kernel_rfl
theorem nil_eql118_ptr : ∀ (q : Addr) (w : World), (binOp .eql 118 (.pointer (some q)) (.pointer none)).run Try.prog w = .ok (.bool false) w := fun _ _ => by kernel_rfl
theorem isn63 : (Try.f63.name == "runtime.NumGoroutine") = false := by kernel_rfl
theorem info37 : (Try.prog.info? 37).map (fun i => (i.zero, i.size, i.bytes)) = some (some (.agg #[.slice none 0 0, .int .i64 0, .int .i64 0, .int .i64 0, .slice none 0 0, .slice none 0 0]), 6, 96) := by kernel_rfl
theorem agg37 : Agg Try.prog 37 6 := ⟨⟨_, Try.underlying37, .inl ⟨_, rfl⟩⟩, info_size info37⟩
theorem info3 : (Try.prog.info? 3).map (fun i => (i.zero, i.size, i.bytes)) = some (some (.int .i64 0), 1, 8) := by kernel_rfl
theorem flat3 : Flat Try.prog 3 := ⟨_, Try.underlying3, fun _ h => (nomatch h), fun _ _ h => (nomatch h)⟩
theorem isn30 : (Try.f30.name == "runtime.NumGoroutine") = false := by kernel_rfl
theorem isn81 : (Try.f81.name == "runtime.NumGoroutine") = false := by kernel_rfl
theorem isn62 : (Try.f62.name == "runtime.NumGoroutine") = false := by kernel_rfl
theorem nil_eql66_pt : ∀ (q : Addr) (w : World), (binOp .eql 66 (.pointer (some q)) (.pointer none)).run Try.prog w = .ok (.bool false) w := fun _ _ => by kernel_rfl
theorem places37 : placesOf Try.prog [{ name := "Point", type := 25, offset := 0, embedded := false, tag := "", pkgPath := "", byteOffset := 0 }, { name := "Plane", type := 3, offset := 1, embedded := false, tag := "", pkgPath := "", byteOffset := 24 }, { name := "Left", type := 3, offset := 2, embedded := false, tag := "", pkgPath := "", byteOffset := 32 }, { name := "Right", type := 3, offset := 3, embedded := false, tag := "", pkgPath := "", byteOffset := 40 }, { name := "Min", type := 25, offset := 4, embedded := false, tag := "", pkgPath := "", byteOffset := 48 }, { name := "Max", type := 25, offset := 5, embedded := false, tag := "", pkgPath := "", byteOffset := 72 }] = [(0, 1), (1, 1), (2, 1), (3, 1), (4, 1), (5, 1)] := by kernel_rfl
theorem has37 : ∀ f ∈ ([{ name := "Point", type := 25, offset := 0, embedded := false, tag := "", pkgPath := "", byteOffset := 0 }, { name := "Plane", type := 3, offset := 1, embedded := false, tag := "", pkgPath := "", byteOffset := 24 }, { name := "Left", type := 3, offset := 2, embedded := false, tag := "", pkgPath := "", byteOffset := 32 }, { name := "Right", type := 3, offset := 3, embedded := false, tag := "", pkgPath := "", byteOffset := 40 }, { name := "Min", type := 25, offset := 4, embedded := false, tag := "", pkgPath := "", byteOffset := 48 }, { name := "Max", type := 25, offset := 5, embedded := false, tag := "", pkgPath := "", byteOffset := 72 }] : List Field), (Try.prog.info? f.type).isSome = true := fun f hf => all_of (p := fun f => (Try.prog.info? f.type).isSome) (by kernel_rfl) f hf
theorem nil_neq118_nilptr : ∀ (w : World), (binOp .neq 118 (.pointer none) (.pointer none)).run Try.prog w = .ok (.bool false) w := fun _ => by kernel_rfl
theorem nil_neq118_pt : ∀ (q : Addr) (w : World), (binOp .neq 118 (.pointer (some q)) (.pointer none)).run Try.prog w = .ok (.bool true) w := fun _ _ => by kernel_rfl
theorem isn31 : (Try.f31.name == "runtime.NumGoroutine") = false := by kernel_rfl
theorem nil_neq66_nilptr : ∀ (w : World), (binOp .neq 66 (.pointer none) (.pointer none)).run Try.prog w = .ok (.bool false) w := fun _ => by kernel_rfl
theorem as62_116_122k : ∀ v w, (Instr.typeAssert (.iface 62 v) 116 122 true).run Try.prog w = .ok (.tuple #[.iface 62 v, .bool true]) w := fun _ _ => by kernel_rfl
theorem nil_neq66_ptr : ∀ (q : Addr) (w : World), (binOp .neq 66 (.pointer (some q)) (.pointer none)).run Try.prog w = .ok (.bool true) w := fun _ _ => by kernel_rfl
theorem nil_neq118_ptr : ∀ (q : Addr) (w : World), (binOp .neq 118 (.pointer (some q)) (.pointer none)).run Try.prog w = .ok (.bool true) w := fun _ _ => by kernel_rfl
theorem places68 : placesOf Try.prog [{ name := "Root", type := 66, offset := 0, embedded := false, tag := "", pkgPath := "", byteOffset := 0 }, { name := "Count", type := 3, offset := 1, embedded := false, tag := "", pkgPath := "", byteOffset := 8 }] = [(0, 1), (1, 1)] := by kernel_rfl
theorem has68 : ∀ f ∈ ([{ name := "Root", type := 66, offset := 0, embedded := false, tag := "", pkgPath := "", byteOffset := 0 }, { name := "Count", type := 3, offset := 1, embedded := false, tag := "", pkgPath := "", byteOffset := 8 }] : List Field), (Try.prog.info? f.type).isSome = true := fun f hf => all_of (p := fun f => (Try.prog.info? f.type).isSome) (by kernel_rfl) f hf
theorem info68 : (Try.prog.info? 68).map (fun i => (i.zero, i.size, i.bytes)) = some (some (.agg #[.pointer none, .int .i64 0]), 2, 16) := by kernel_rfl
theorem isn28 : (Try.f28.name == "runtime.NumGoroutine") = false := by kernel_rfl
theorem isn29 : (Try.f29.name == "runtime.NumGoroutine") = false := by kernel_rfl
theorem flat26 : Flat Try.prog 26 := ⟨_, Try.underlying26, fun _ h => (nomatch h), fun _ _ h => (nomatch h)⟩
theorem idle27 : Idle Try.prog 27 3 := fun vs w hv => by
  obtain ⟨v0, v1, v2, rfl⟩ : ∃ v0 v1 v2, vs = [v0, v1, v2] := by
    obtain _ | ⟨v0, vs⟩ := vs
    · simp at hv
    obtain _ | ⟨v1, vs⟩ := vs
    · simp at hv
    obtain _ | ⟨v2, vs⟩ := vs
    · simp at hv
    obtain _ | ⟨u, vs⟩ := vs
    · exact ⟨v0, v1, v2, rfl⟩
    · simp at hv
  refine callsD_of_wpS Try.func27 rfl fun c₀ cs hu => ?_
  apply wpS_seq
  apply wpS_region
  simp [wpOpsS, go_sem, recoverD, hu, Try.ntmps27, Exit.thenS]
  refine wpS_cond (t := false) (by simp [Act.eval, Array.replicate]) ?_
  simp only [Bool.false_eq_true, if_false]
  refine wpS_of_wp (wp_skip ?_)
  cases c₀
  simp_all [bodyPostS, results, Try.results27]
theorem isn27 : (Try.f27.name == "runtime.NumGoroutine") = false := by kernel_rfl
theorem info4 : (Try.prog.info? 4).map (fun i => (i.zero, i.size, i.bytes)) = some (some (.bool false), 1, 1) := by kernel_rfl
theorem info26 : (Try.prog.info? 26).map (fun i => (i.zero, i.size, i.bytes)) = some (some (.slice none 0 0), 1, 24) := by kernel_rfl
theorem flat4 : Flat Try.prog 4 := ⟨_, Try.underlying4, fun _ h => (nomatch h), fun _ _ h => (nomatch h)⟩
theorem isn10 : (Try.f10.name == "runtime.NumGoroutine") = false := by kernel_rfl
theorem isn14 : (Try.f14.name == "runtime.NumGoroutine") = false := by kernel_rfl
theorem isn35 : (Try.f35.name == "runtime.NumGoroutine") = false := by kernel_rfl
theorem flat128 : Flat Try.prog 128 := ⟨_, Try.underlying128, fun _ h => (nomatch h), fun _ _ h => (nomatch h)⟩
theorem isn65 : (Try.f65.name == "runtime.NumGoroutine") = false := by kernel_rfl
theorem flat53 : Flat Try.prog 53 := ⟨_, Try.underlying53, fun _ h => (nomatch h), fun _ _ h => (nomatch h)⟩
theorem flat72 : Flat Try.prog 72 := ⟨_, Try.underlying72, fun _ h => (nomatch h), fun _ _ h => (nomatch h)⟩
theorem isn36 : (Try.f36.name == "runtime.NumGoroutine") = false := by kernel_rfl
theorem flat33 : Flat Try.prog 33 := ⟨_, Try.underlying33, fun _ h => (nomatch h), fun _ _ h => (nomatch h)⟩
theorem info33 : (Try.prog.info? 33).map (fun i => (i.zero, i.size, i.bytes)) = some (some (.slice none 0 0), 1, 24) := by kernel_rfl
theorem info128 : (Try.prog.info? 128).map (fun i => (i.zero, i.size, i.bytes)) = some (some (.nilFunc), 1, 8) := by kernel_rfl
theorem info53 : (Try.prog.info? 53).map (fun i => (i.zero, i.size, i.bytes)) = some (some (.slice none 0 0), 1, 24) := by kernel_rfl
theorem isn12 : (Try.f12.name == "runtime.NumGoroutine") = false := by kernel_rfl
theorem isn11 : (Try.f11.name == "runtime.NumGoroutine") = false := by kernel_rfl
theorem isn32 : (Try.f32.name == "runtime.NumGoroutine") = false := by kernel_rfl
theorem isn34 : (Try.f34.name == "runtime.NumGoroutine") = false := by kernel_rfl
theorem isn13 : (Try.f13.name == "runtime.NumGoroutine") = false := by kernel_rfl
theorem isn33 : (Try.f33.name == "runtime.NumGoroutine") = false := by kernel_rfl
inductive G116 where
  | c0 (x0 : List Nat) : G116
def SG116 : G116 → SV
  | .c0 x0 => (If 62 (Sl Kf x0))
def KG116 : Kd G116 := Kd.one SG116
theorem SG116_c0 (x0 : List Nat) : SG116 (.c0 x0) = (If 62 (Sl Kf x0)) := rfl
inductive G118 where
  | c0 : G118
  | c1 (x0 : G116) (x1 : G116) : G118
def SG118 : G118 → SV
  | .c0 => (Vl (.pointer none))
  | .c1 x0 x1 => (Pt [(SG116 x0), (SG116 x1)])
def KG118 : Kd G118 := Kd.one SG118
theorem SG118_c0 : SG118 .c0 = (Vl (.pointer none)) := rfl
theorem SG118_c1 (x0 : G116) (x1 : G116) : SG118 (.c1 x0 x1) = (Pt [(SG116 x0), (SG116 x1)]) := rfl
inductive G66 where
  | c0 : G66
  | c1 (x0 : G116) (x1 : Int) (x2 : G66) (x3 : G66) (x4 : G118) : G66
def SG66 : G66 → SV
  | .c0 => (Vl (.pointer none))
  | .c1 x0 x1 x2 x3 x4 => (Pt [(SG116 x0), (Vl (.int .i64 x1)), (SG66 x2), (SG66 x3), (SG118 x4)])
def KG66 : Kd G66 := Kd.one SG66
theorem SG66_c0 : SG66 .c0 = (Vl (.pointer none)) := rfl
theorem SG66_c1 (x0 : G116) (x1 : Int) (x2 : G66) (x3 : G66) (x4 : G118) : SG66 (.c1 x0 x1 x2 x3 x4) = (Pt [(SG116 x0), (Vl (.int .i64 x1)), (SG66 x2), (SG66 x3), (SG118 x4)]) := rfl
def KT37 : Kd ((List Nat) × Int × Int × Int × (List Nat) × (List Nat)) := ⟨6, fun x => [(Sl Kf x.1), (Vl (.int .i64 x.2.1)), (Vl (.int .i64 x.2.2.1)), (Vl (.int .i64 x.2.2.2.1)), (Sl Kf x.2.2.2.2.1), (Sl Kf x.2.2.2.2.2)], fun _ => rfl⟩

def laws_zzFits4_l1s (a0 : List (List Nat)) (k : Nat) (rec1 : Int → Option (Unit ⊕ Unit)) (x1 : Int) : Option (Unit ⊕ Unit) :=
 br (decide (x1 < (a0.length : Int)))
  ((idx a0 x1) >>= fun r12 =>
  br (decide (2147483647 < (r12.length : Int)))
   (some (.inl ()))
   (rec1 (iadd .i64 x1 1)))
  (some (.inr ()))
def laws_zzFits4_l1 (a0 : List (List Nat)) : Nat → Int → Option (Unit ⊕ Unit)
 | 0, _ => none
 | k + 1, v => laws_zzFits4_l1s a0 k (laws_zzFits4_l1 a0 k) v
def laws_zzFits4 (k : Nat) (a0 : List (List Nat)) : Option (Bool) :=
 br (decide (2147483647 < (a0.length : Int)))
  (some false)
  ((laws_zzFits4_l1 a0 k 0) >>= fun y1 => match y1 with
   | (.inl v2) =>
    (some false)
   | (.inr v3) =>
    (some true))

theorem laws_zzFits4_sim {k : Nat}  (a0 : List (List Nat)) {out : Bool} (hp : laws_zzFits4 k a0 = some out) : Sx.Fn Try.prog 7 [(Sl (Kl Kf) a0)] [] (fun w : Unit => (Vb out)) (fun w => []) := by
 unfold laws_zzFits4 at hp
 refine fn_of Try.func7 rfl Try.ntmps7 rfl fun E hM => ?_
 refine cr fun K1 hK1 => ?_
 refine s0 (rd_assign' rfl) ?_
 refine nk hK1 ?_
 refine cx_seq' fun K2 hK2 => ?_
 refine cr fun K3 hK3 => ?_
 refine s0 (rd_move' rfl) ?_
 refine s0 (rd_len' rfl Try.underlying22) ?_
 refine s0 (rd_bin' rfl rfl eg_int ru_gtr) ?_
 refine nk hK3 ?_
 refine cx_cond' rfl (fun h1 => ?_) (fun h1 => ?_)
 ·replace hp := (br_t h1).symm.trans hp
  refine cr fun K4 hK4 => ?_
  refine s0 (rd_assign' rfl) ?_
  refine nk hK4 ?_
  refine cx_retc' ?_
  replace hp := Option.some.inj hp
  subst hp
  refine tx_pick' (L' := [(2, (Vb false))]) (H' := []) [] (sub_cons rfl sub_nil) (by decide) pick_nil ?_
  exact tx_ret1' Try.results7 rfl () (rv_tmp' rfl) (List.Sublist.refl _)
 replace hp := (br_f h1).symm.trans hp
 refine cx_skip' ?_
 show TX E K2 _
 refine tx_k' hK2 ?_
 refine cx_seq' fun K5 hK5 => ?_
 refine cr fun K6 hK6 => ?_
 refine s0 (rd_move' rfl) ?_
 refine s0 (rd_len' rfl Try.underlying22) ?_
 refine s0 (rd_move' rfl) ?_
 refine nk hK6 ?_
 refine cx_block' ?_
 obtain ⟨y1, hy1, hp⟩ := bind_some hp
 refine cx_loopg' (F := laws_zzFits4_l1 a0) (G := fun k R v => laws_zzFits4_l1s a0 k R v) (x := 0) (gh := ()) (fun (v1 : Int) (w1 : Unit) => (⟨18, [], [(8, (Sl (Kl Kf) a0)), (9, (Vi (a0.length : Int))), (10, (Vi v1))], []⟩ : St)) (fun (y : Unit ⊕ Unit) => match y with | (.inl v2) => Zg E Exit.ret (fun (w2 : Unit) => (⟨18, [], [(2, (Vb false))], []⟩ : St)) | (.inr v3) => Zg E (Exit.exit 0) (fun (w3 : Unit) => (⟨18, [], [], []⟩ : St))) (fun _ => rfl) (fun _ _ => rfl) ?_ hy1 (tx_to' rfl [] (sub_cons rfl (sub_cons rfl (sub_cons rfl sub_nil))) (by decide) pick_nil) ?_
 ·clear hp hy1
  clear y1
  intro k rec1 KY1 ih1
  rintro x1 ⟨⟩ y1 hp
  replace hp : laws_zzFits4_l1s a0 k rec1 x1 = some y1 := hp
  unfold laws_zzFits4_l1s at hp
  refine cr fun K13 hK13 => ?_
  refine s0 (rd_bin' rfl rfl eg_int ru_lss) ?_
  refine nk hK13 ?_
  refine cx_seq' fun K14 hK14 => ?_
  refine cx_cond' rfl (fun h5 => ?_) (fun h5 => ?_)
  ·replace hp := (br_t h5).symm.trans hp
   refine cx_skip' ?_
   show TX E K14 _
   refine tx_k' hK14 ?_
   refine cx_seq' fun K15 hK15 => ?_
   refine cx_block' ?_
   refine cr fun K16 hK16 => ?_
   obtain ⟨r12, hr12, hp⟩ := bind_some hp
   refine s0 (rd_at' (K := (Kl Kf)) rfl rfl hr12 Try.underlying22 info25) ?_
   refine s0 (rd_load_pt' rfl rfl flat25) ?_
   refine s0 (rd_assign' rfl) ?_
   refine nk hK16 ?_
   refine cr fun K17 hK17 => ?_
   refine s0 (rd_move' rfl) ?_
   refine s0 (rd_len' rfl Try.underlying25) ?_
   refine s0 (rd_bin' rfl rfl eg_int ru_gtr) ?_
   refine nk hK17 ?_
   refine cx_cond' rfl (fun h6 => ?_) (fun h6 => ?_)
   ·replace hp := (br_t h6).symm.trans hp
    refine cr fun K18 hK18 => ?_
    refine s0 (rd_assign' rfl) ?_
    refine nk hK18 ?_
    refine cx_retc' ?_
    replace hp := Option.some.inj hp
    subst hp
    show TX E (Zg E Exit.ret _ Exit.ret) _
    exact tx_zend' () rfl [] (sub_cons rfl sub_nil) (by decide) pick_nil
   replace hp := (br_f h6).symm.trans hp
   refine cx_skip' ?_
   show TX E K15 _
   refine tx_k' hK15 ?_
   refine cx_region' ?_
   refine s0 (rd_bin' rfl rfl eg_int ru_add) ?_
   refine s0 (rd_move' rfl) ?_
   refine sx_nil' ?_
   show TX E (KY1 _) _
   exact tx_pick' [] (sub_cons rfl (sub_cons rfl (sub_cons rfl sub_nil))) (by decide) pick_nil (ih1 (iadd .i64 x1 1) () _ hp)
  replace hp := (br_f h5).symm.trans hp
  refine cx_exit' ?_
  replace hp := Option.some.inj hp
  subst hp
  show TX E (Zg E (Exit.exit 0) _ (Exit.exit 0)) _
  exact tx_zend' () rfl [] sub_nil (by decide) pick_nil
 rcases y1 with v2 | v3
 ·dsimp only at hp
  refine zg_out fun w2 => ?_
  replace hp := Option.some.inj hp
  subst hp
  refine tx_pick' (L' := [(2, (Vb false))]) (H' := []) [] (sub_cons rfl sub_nil) (by decide) pick_nil ?_
  exact tx_ret1' Try.results7 rfl () (rv_tmp' rfl) (List.Sublist.refl _)
 dsimp only at hp
 refine zg_out fun w3 => ?_
 show TX E K5 _
 refine tx_k' hK5 ?_
 refine cr fun K19 hK19 => ?_
 refine s0 (rd_assign' rfl) ?_
 refine nk hK19 ?_
 refine cx_retc' ?_
 replace hp := Option.some.inj hp
 subst hp
 refine tx_pick' (L' := [(2, (Vb true))]) (H' := []) [] (sub_cons rfl sub_nil) (by decide) pick_nil ?_
 exact tx_ret1' Try.results7 rfl () (rv_tmp' rfl) (List.Sublist.refl _)

def math_Trunc (k : Nat) (a0 : Nat) : Option (Nat) :=
 (some (gint .zero a0)) >>= fun r4 =>
 some r4

theorem math_Trunc_sim {k : Nat}  (a0 : Nat) {out : Nat} (hp : math_Trunc k a0 = some out) : Sx.Fn Try.prog 61 [(Vg a0)] [] (fun w : Unit => (Fl out)) (fun w => []) := by
 unfold math_Trunc at hp
 refine fn_of Try.func61 rfl Try.ntmps61 rfl fun E hM => ?_
 refine cr fun K1 hK1 => ?_
 refine s0 (rd_assign' rfl) ?_
 refine nk hK1 ?_
 refine cx_seq' fun K2 hK2 => ?_
 refine cx_cond_t' rfl rfl ?_
 refine cr fun K3 hK3 => ?_
 refine s0 (rd_move' rfl) ?_
 obtain ⟨r4, hr4, hp⟩ := bind_some hp
 refine sx_ox' (ox_extf' rfl (fl_v rfl) Try.func79 (extf79 (Option.some.inj hr4)) rfl rfl) (wt_none' rfl) fun _ => ?_
 refine s0 (rd_assign' rfl) ?_
 refine nk hK3 ?_
 refine cx_retc' ?_
 replace hp := Option.some.inj hp
 subst hp
 refine tx_pick' (L' := [(2, (Fl r4))]) (H' := []) [] (sub_cons rfl sub_nil) (by decide) pick_nil ?_
 exact tx_ret1' Try.results61 rfl () (rv_tmp' rfl) (List.Sublist.refl _)

def spec_Grid_j8 (k : Nat) (rec2 : Int → Option (Unit ⊕ Unit)) (x10 : Int) (x9 : Bool) : Option (Unit ⊕ Unit) :=
 br x9
  (some (.inl ()))
  (rec2 (iadd .i64 x10 1))
def spec_Grid_j7 (k : Nat) (rec2 : Int → Option (Unit ⊕ Unit)) (x10 : Int) (r25 : Nat) (x8 : Bool) : Option (Unit ⊕ Unit) :=
 br (!x8)
  (spec_Grid_j8 k rec2 x10 true)
  ((math_Trunc k r25) >>= fun r40 =>
  spec_Grid_j8 k rec2 x10 (fne r25 r40))
def spec_Grid_l2s (r15 : List Nat) (a2 : Nat) (k : Nat) (rec2 : Int → Option (Unit ⊕ Unit)) (x10 : Int) : Option (Unit ⊕ Unit) :=
 br (decide (x10 < (r15.length : Int)))
  ((idx r15 x10) >>= fun r25 =>
  br (fge r25 (fneg a2))
   (spec_Grid_j7 k rec2 x10 r25 (fle r25 a2))
   (spec_Grid_j7 k rec2 x10 r25 false))
  (some (.inr ()))
def spec_Grid_l2 (r15 : List Nat) (a2 : Nat) : Nat → Int → Option (Unit ⊕ Unit)
 | 0, _ => none
 | k + 1, v => spec_Grid_l2s r15 a2 k (spec_Grid_l2 r15 a2 k) v
def spec_Grid_l3s (a0 : List (List Nat)) (a1 : Int) (a2 : Nat) (k : Nat) (rec3 : Int → Option (Unit ⊕ Unit)) (x11 : Int) : Option (Unit ⊕ Unit) :=
 br (decide (x11 < (a0.length : Int)))
  ((idx a0 x11) >>= fun r15 =>
  br (!decide ((r15.length : Int) = a1))
   (some (.inl ()))
   ((spec_Grid_l2 r15 a2 k 0) >>= fun y2 => match y2 with
    | (.inl v14) =>
     (some (.inl ()))
    | (.inr v15) =>
     (rec3 (iadd .i64 x11 1))))
  (some (.inr ()))
def spec_Grid_l3 (a0 : List (List Nat)) (a1 : Int) (a2 : Nat) : Nat → Int → Option (Unit ⊕ Unit)
 | 0, _ => none
 | k + 1, v => spec_Grid_l3s a0 a1 a2 k (spec_Grid_l3 a0 a1 a2 k) v
def spec_Grid (k : Nat) (a0 : List (List Nat)) (a1 : Int) (a2 : Nat) : Option (Bool) :=
 (spec_Grid_l3 a0 a1 a2 k 0) >>= fun y3 => match y3 with
  | (.inl v16) =>
   (some false)
  | (.inr v17) =>
   (some (decide (0 < a1)))

theorem spec_Grid_sim {k : Nat}  (a0 : List (List Nat)) (a1 : Int) (a2 : Nat) {out : Bool} (hp : spec_Grid k a0 a1 a2 = some out) : Sx.Fn Try.prog 26 [(Sl (Kl Kf) a0), (Vi a1), (Vg a2)] [] (fun w : Unit => (Vb out)) (fun w => []) := by
 unfold spec_Grid at hp
 refine fn_of Try.func26 rfl Try.ntmps26 rfl fun E hM => ?_
 refine cr fun K1 hK1 => ?_
 refine s0 (rd_assign' rfl) ?_
 refine nk hK1 ?_
 refine cx_seq' fun K2 hK2 => ?_
 refine cr fun K3 hK3 => ?_
 refine s0 (rd_move' rfl) ?_
 refine s0 (rd_len' rfl Try.underlying22) ?_
 refine s0 (rd_move' rfl) ?_
 refine nk hK3 ?_
 refine cx_block' ?_
 obtain ⟨y3, hy3, hp⟩ := bind_some hp
 refine cx_loopg' (F := spec_Grid_l3 a0 a1 a2) (G := fun k R v => spec_Grid_l3s a0 a1 a2 k R v) (x := 0) (gh := ()) (fun (v8 : Int) (w8 : Unit) => (⟨47, [], [(1, (Vi a1)), (2, (Vg a2)), (11, (Sl (Kl Kf) a0)), (12, (Vi (a0.length : Int))), (13, (Vi v8))], []⟩ : St)) (fun (y : Unit ⊕ Unit) => match y with | (.inl v16) => Zg E Exit.ret (fun (w16 : Unit) => (⟨47, [], [(6, (Vb false))], []⟩ : St)) | (.inr v17) => Zg E (Exit.exit 0) (fun (w17 : Unit) => (⟨47, [], [(1, (Vi a1))], []⟩ : St))) (fun _ => rfl) (fun _ _ => rfl) ?_ hy3 (tx_to' rfl [] (sub_cons rfl (sub_cons rfl (sub_cons rfl (sub_cons rfl (sub_cons rfl sub_nil))))) (by decide) pick_nil) ?_
 ·clear hp hy3
  clear y3
  intro k rec3 KY3 ih3
  rintro x11 ⟨⟩ y3 hp
  replace hp : spec_Grid_l3s a0 a1 a2 k rec3 x11 = some y3 := hp
  unfold spec_Grid_l3s at hp
  refine cr fun K28 hK28 => ?_
  refine s0 (rd_bin' rfl rfl eg_int ru_lss) ?_
  refine nk hK28 ?_
  refine cx_seq' fun K29 hK29 => ?_
  refine cx_cond' rfl (fun h13 => ?_) (fun h13 => ?_)
  ·replace hp := (br_t h13).symm.trans hp
   refine cx_skip' ?_
   show TX E K29 _
   refine tx_k' hK29 ?_
   refine cx_seq' fun K30 hK30 => ?_
   refine cx_block' ?_
   refine cr fun K31 hK31 => ?_
   obtain ⟨r15, hr15, hp⟩ := bind_some hp
   refine s0 (rd_at' (K := (Kl Kf)) rfl rfl hr15 Try.underlying22 info25) ?_
   refine s0 (rd_load_pt' rfl rfl flat25) ?_
   refine s0 (rd_assign' rfl) ?_
   refine nk hK31 ?_
   refine cx_seq' fun K32 hK32 => ?_
   refine cr fun K33 hK33 => ?_
   refine s0 (rd_move' rfl) ?_
   refine s0 (rd_len' rfl Try.underlying25) ?_
   refine s0 (rd_move' rfl) ?_
   refine s0 (rd_bin' rfl rfl eg_int ru_neq) ?_
   refine nk hK33 ?_
   refine cx_cond' rfl (fun h14 => ?_) (fun h14 => ?_)
   ·replace hp := (br_t h14).symm.trans hp
    refine cr fun K34 hK34 => ?_
    refine s0 (rd_assign' rfl) ?_
    refine nk hK34 ?_
    refine cx_retc' ?_
    replace hp := Option.some.inj hp
    subst hp
    show TX E (Zg E Exit.ret _ Exit.ret) _
    exact tx_zend' () rfl [] (sub_cons rfl sub_nil) (by decide) pick_nil
   replace hp := (br_f h14).symm.trans hp
   refine cx_skip' ?_
   show TX E K32 _
   refine tx_k' hK32 ?_
   refine cr fun K35 hK35 => ?_
   refine s0 (rd_move' rfl) ?_
   refine s0 (rd_len' rfl Try.underlying25) ?_
   refine s0 (rd_move' rfl) ?_
   refine nk hK35 ?_
   refine cx_block' ?_
   obtain ⟨y2, hy2, hp⟩ := bind_some hp
   refine cx_loopg' (F := spec_Grid_l2 r15 a2) (G := fun k R v => spec_Grid_l2s r15 a2 k R v) (x := 0) (gh := ()) (fun (v11 : Int) (w11 : Unit) => (⟨47, [], [(1, (Vi a1)), (2, (Vg a2)), (11, (Sl (Kl Kf) a0)), (12, (Vi (a0.length : Int))), (13, (Vi x11)), (21, (Sl Kf r15)), (22, (Vi (r15.length : Int))), (23, (Vi v11))], []⟩ : St)) (fun (y : Unit ⊕ Unit) => match y with | (.inl v14) => Zg E Exit.ret (fun (w14 : Unit) => (⟨47, [], [(6, (Vb false))], []⟩ : St)) | (.inr v15) => Zg E (Exit.exit 2) (fun (w15 : Unit) => (⟨47, [], [(1, (Vi a1)), (2, (Vg a2)), (11, (Sl (Kl Kf) a0)), (12, (Vi (a0.length : Int))), (13, (Vi x11))], []⟩ : St))) (fun _ => rfl) (fun _ _ => rfl) ?_ hy2 (tx_to' rfl [] (sub_cons rfl (sub_cons rfl (sub_cons rfl (sub_cons rfl (sub_cons rfl (sub_cons rfl (sub_cons rfl (sub_cons rfl sub_nil)))))))) (by decide) pick_nil) ?_
   ·clear hp hy2
    clear y2
    intro k rec2 KY2 ih2
    rintro x10 ⟨⟩ y2 hp
    replace hp : spec_Grid_l2s r15 a2 k rec2 x10 = some y2 := hp
    unfold spec_Grid_l2s at hp
    refine cr fun K44 hK44 => ?_
    refine s0 (rd_bin' rfl rfl eg_int ru_lss) ?_
    refine nk hK44 ?_
    refine cx_seq' fun K45 hK45 => ?_
    refine cx_cond' rfl (fun h20 => ?_) (fun h20 => ?_)
    ·replace hp := (br_t h20).symm.trans hp
     refine cx_skip' ?_
     show TX E K45 _
     refine tx_k' hK45 ?_
     refine cx_seq' fun K46 hK46 => ?_
     refine cx_block' ?_
     refine cr fun K47 hK47 => ?_
     obtain ⟨r25, hr25, hp⟩ := bind_some hp
     refine s0 (rd_at' (K := Kf) rfl rfl hr25 Try.underlying25 info40) ?_
     refine s0 (rd_load_pt' rfl rfl flat40) ?_
     refine s0 (rd_assign' rfl) ?_
     refine nk hK47 ?_
     refine cr fun K48 hK48 => ?_
     refine s0 (rd_move' rfl) ?_
     refine s0 (rd_move' rfl) ?_
     refine s0 (rd_un' rfl ru_fneg) ?_
     refine s0 (rd_bin' rfl rfl eg_flt ru_fge) ?_
     refine s0 (rd_move' rfl) ?_
     refine sx_cutn' 4 (fun (v12 : Bool) => (⟨47, [], [(1, (Vi a1)), (2, (Vg a2)), (10, (Vg r25)), (11, (Sl (Kl Kf) a0)), (12, (Vi (a0.length : Int))), (13, (Vi x11)), (21, (Sl Kf r15)), (22, (Vi (r15.length : Int))), (23, (Vi x10)), (35, (Vb v12))], []⟩ : St)) (fun (v12 : Bool) => spec_Grid_j7 k rec2 x10 r25 v12 = some y2) ?_ ?_
     ·rintro x8 hp
      replace hp : spec_Grid_j7 k rec2 x10 r25 x8 = some y2 := hp
      unfold spec_Grid_j7 at hp
      refine s0 (rd_un' rfl ru_not) ?_
      refine s0 (rd_move' rfl) ?_
      refine sx_cutn' 5 (fun (v13 : Bool) => (⟨47, [], [(1, (Vi a1)), (2, (Vg a2)), (11, (Sl (Kl Kf) a0)), (12, (Vi (a0.length : Int))), (13, (Vi x11)), (21, (Sl Kf r15)), (22, (Vi (r15.length : Int))), (23, (Vi x10)), (42, (Vb v13))], []⟩ : St)) (fun (v13 : Bool) => spec_Grid_j8 k rec2 x10 v13 = some y2) ?_ ?_
      ·rintro x9 hp
       replace hp : spec_Grid_j8 k rec2 x10 x9 = some y2 := hp
       unfold spec_Grid_j8 at hp
       refine nk hK48 ?_
       refine cx_cond' rfl (fun h23 => ?_) (fun h23 => ?_)
       ·replace hp := (br_t h23).symm.trans hp
        refine cr fun K51 hK51 => ?_
        refine s0 (rd_assign' rfl) ?_
        refine nk hK51 ?_
        refine cx_retc' ?_
        replace hp := Option.some.inj hp
        subst hp
        show TX E (Zg E Exit.ret _ Exit.ret) _
        exact tx_zend' () rfl [] (sub_cons rfl sub_nil) (by decide) pick_nil
       replace hp := (br_f h23).symm.trans hp
       refine cx_skip' ?_
       show TX E K46 _
       refine tx_k' hK46 ?_
       refine cx_region' ?_
       refine s0 (rd_bin' rfl rfl eg_int ru_add) ?_
       refine s0 (rd_move' rfl) ?_
       refine sx_nil' ?_
       show TX E (KY2 _) _
       exact tx_pick' [] (sub_cons rfl (sub_cons rfl (sub_cons rfl (sub_cons rfl (sub_cons rfl (sub_cons rfl (sub_cons rfl (sub_cons rfl sub_nil)))))))) (by decide) pick_nil (ih2 (iadd .i64 x10 1) () _ hp)
      intro K50 hK50
      rcases br_cases hp with ⟨h22, hp⟩ | ⟨h22, hp⟩
      ·refine sx_skip' rfl rfl (wt_is' (wt_guard' rfl rfl rfl) (beq_tf h22)) ?_
       refine sx_skip' rfl rfl (wt_is' (wt_guard' rfl rfl rfl) (beq_tf h22)) ?_
       refine sx_skip' rfl rfl (wt_is' (wt_guard' rfl rfl rfl) (beq_tf h22)) ?_
       refine sx_skip' rfl rfl (wt_is' (wt_guard' rfl rfl rfl) (beq_tf h22)) ?_
       refine s0 (rd_pick_true' rfl h22 rfl) ?_
       refine sx_nil' ?_
       show TX E K50 _
       exact tx_pick' [] (sub_cons rfl (sub_cons rfl (sub_cons rfl (sub_cons rfl (sub_cons rfl (sub_cons rfl (sub_cons rfl (sub_cons rfl (sub_cons rfl sub_nil))))))))) (by decide) pick_nil (hK50 true hp)
      refine sx_rd' (rd_move' rfl) rfl rfl (wt_is' (wt_guard' rfl rfl rfl) (beq_ff h22)) ?_
      refine sx_rd' (rd_move' rfl) rfl rfl (wt_is' (wt_guard' rfl rfl rfl) (beq_ff h22)) ?_
      obtain ⟨r40, hr40, hp⟩ := bind_some hp
      refine sx_ox' (ox_calln' (ent_fn' Try.func61 isn61 rfl rfl) (math_Trunc_sim _ hr40 : Sx.Fn Try.prog 61 [(Vg r25)] [] (fun x : Unit => (Fl r40)) (fun x => [])) (Hn := fun x : Unit => []) (fun _ => rfl) rfl rfl) (wt_is' (wt_guard' rfl rfl rfl) (beq_ff h22)) fun ⟨⟩ => ?_
      refine sx_rd' (rd_fcmp' (fl_v rfl) (fl_f rfl) rfl) rfl rfl (wt_is' (wt_guard' rfl rfl rfl) (beq_ff h22)) ?_
      refine s0 (rd_pick_false' rfl h22 rfl) ?_
      refine sx_nil' ?_
      show TX E K50 _
      exact tx_pick' [] (sub_cons rfl (sub_cons rfl (sub_cons rfl (sub_cons rfl (sub_cons rfl (sub_cons rfl (sub_cons rfl (sub_cons rfl (sub_cons rfl sub_nil))))))))) (by decide) pick_nil (hK50 (fne r25 r40) hp)
     intro K49 hK49
     rcases br_cases hp with ⟨h21, hp⟩ | ⟨h21, hp⟩
     ·refine sx_rd' (rd_move' rfl) rfl rfl (wt_is' (wt_guard' rfl rfl rfl) (beq_tt h21)) ?_
      refine sx_rd' (rd_move' rfl) rfl rfl (wt_is' (wt_guard' rfl rfl rfl) (beq_tt h21)) ?_
      refine sx_rd' (rd_bin' rfl rfl eg_flt ru_fle) rfl rfl (wt_is' (wt_guard' rfl rfl rfl) (beq_tt h21)) ?_
      refine s0 (rd_pick_true' rfl h21 rfl) ?_
      refine sx_nil' ?_
      show TX E K49 _
      exact tx_pick' [] (sub_cons rfl (sub_cons rfl (sub_cons rfl (sub_cons rfl (sub_cons rfl (sub_cons rfl (sub_cons rfl (sub_cons rfl (sub_cons rfl (sub_cons rfl sub_nil)))))))))) (by decide) pick_nil (hK49 (fle r25 a2) hp)
     refine sx_skip' rfl rfl (wt_is' (wt_guard' rfl rfl rfl) (beq_ft h21)) ?_
     refine sx_skip' rfl rfl (wt_is' (wt_guard' rfl rfl rfl) (beq_ft h21)) ?_
     refine sx_skip' rfl rfl (wt_is' (wt_guard' rfl rfl rfl) (beq_ft h21)) ?_
     refine s0 (rd_pick_false' rfl h21 rfl) ?_
     refine sx_nil' ?_
     show TX E K49 _
     exact tx_pick' [] (sub_cons rfl (sub_cons rfl (sub_cons rfl (sub_cons rfl (sub_cons rfl (sub_cons rfl (sub_cons rfl (sub_cons rfl (sub_cons rfl (sub_cons rfl sub_nil)))))))))) (by decide) pick_nil (hK49 false hp)
    replace hp := (br_f h20).symm.trans hp
    refine cx_exit' ?_
    replace hp := Option.some.inj hp
    subst hp
    show TX E (Zg E (Exit.exit 2) _ (Exit.exit 2)) _
    exact tx_zend' () rfl [] (sub_cons rfl (sub_cons rfl (sub_cons rfl (sub_cons rfl (sub_cons rfl sub_nil))))) (by decide) pick_nil
   rcases y2 with v14 | v15
   ·dsimp only at hp
    refine zg_out fun w14 => ?_
    replace hp := Option.some.inj hp
    subst hp
    show TX E (Zg E Exit.ret _ Exit.ret) _
    exact tx_zend' () rfl [] (sub_cons rfl sub_nil) (by decide) pick_nil
   dsimp only at hp
   refine zg_out fun w15 => ?_
   show TX E K30 _
   refine tx_k' hK30 ?_
   refine cx_region' ?_
   refine s0 (rd_bin' rfl rfl eg_int ru_add) ?_
   refine s0 (rd_move' rfl) ?_
   refine sx_nil' ?_
   show TX E (KY3 _) _
   exact tx_pick' [] (sub_cons rfl (sub_cons rfl (sub_cons rfl (sub_cons rfl (sub_cons rfl sub_nil))))) (by decide) pick_nil (ih3 (iadd .i64 x11 1) () _ hp)
  replace hp := (br_f h13).symm.trans hp
  refine cx_exit' ?_
  replace hp := Option.some.inj hp
  subst hp
  show TX E (Zg E (Exit.exit 0) _ (Exit.exit 0)) _
  exact tx_zend' () rfl [] (sub_cons rfl sub_nil) (by decide) pick_nil
 rcases y3 with v16 | v17
 ·dsimp only at hp
  refine zg_out fun w16 => ?_
  replace hp := Option.some.inj hp
  subst hp
  refine tx_pick' (L' := [(6, (Vb false))]) (H' := []) [] (sub_cons rfl sub_nil) (by decide) pick_nil ?_
  exact tx_ret1' Try.results26 rfl () (rv_tmp' rfl) (List.Sublist.refl _)
 dsimp only at hp
 refine zg_out fun w17 => ?_
 show TX E K2 _
 refine tx_k' hK2 ?_
 refine cr fun K52 hK52 => ?_
 refine s0 (rd_move' rfl) ?_
 refine s0 (rd_bin' rfl rfl eg_int ru_gtr) ?_
 refine s0 (rd_assign' rfl) ?_
 refine nk hK52 ?_
 refine cx_retc' ?_
 replace hp := Option.some.inj hp
 subst hp
 refine tx_pick' (L' := [(6, (Vb (decide (0 < a1))))]) (H' := []) [] (sub_cons rfl sub_nil) (by decide) pick_nil ?_
 exact tx_ret1' Try.results26 rfl () (rv_tmp' rfl) (List.Sublist.refl _)

def laws_some_j5 (k : Nat) (x5 : Bool) : Option (Bool) :=
 some x5
def laws_some_j4 (k : Nat) (a1 : List Nat) (x4 : Bool) : Option (Bool) :=
 br x4
  ((spec_Grid k ([a1]) (a1.length : Int) 4697254411347427328) >>= fun r34 =>
  laws_some_j5 k r34)
  (laws_some_j5 k false)
def laws_some_j3 (k : Nat) (a0 : List (List Nat)) (a1 : List Nat) (x3 : Bool) : Option (Bool) :=
 br x3
  ((spec_Grid k a0 (a1.length : Int) 4697254411347427328) >>= fun r27 =>
  laws_some_j4 k a1 r27)
  (laws_some_j4 k a1 false)
def laws_some_j2 (k : Nat) (a0 : List (List Nat)) (a1 : List Nat) (x2 : Bool) : Option (Bool) :=
 br x2
  (laws_some_j3 k a0 a1 (decide ((a1.length : Int) ≤ 6)))
  (laws_some_j3 k a0 a1 false)
def laws_some_j1 (k : Nat) (a0 : List (List Nat)) (a1 : List Nat) (x1 : Bool) : Option (Bool) :=
 br x1
  (laws_some_j2 k a0 a1 (decide (0 < (a1.length : Int))))
  (laws_some_j2 k a0 a1 false)
def laws_some (k : Nat) (a0 : List (List Nat)) (a1 : List Nat) : Option (Bool) :=
 br (decide (0 < (a0.length : Int)))
  (laws_some_j1 k a0 a1 (decide ((a0.length : Int) ≤ 100)))
  (laws_some_j1 k a0 a1 false)

theorem laws_some_sim {k : Nat}  (a0 : List (List Nat)) (a1 : List Nat) {out : Bool} (hp : laws_some k a0 a1 = some out) : Sx.Fn Try.prog 8 [(Sl (Kl Kf) a0), (Sl Kf a1)] [] (fun w : Unit => (Vb out)) (fun w => []) := by
 unfold laws_some at hp
 refine fn_of Try.func8 rfl Try.ntmps8 rfl fun E hM => ?_
 refine cr fun K1 hK1 => ?_
 refine s0 (rd_assign' rfl) ?_
 refine nk hK1 ?_
 refine cr fun K2 hK2 => ?_
 refine s0 (rd_move' rfl) ?_
 refine s0 (rd_len' rfl Try.underlying22) ?_
 refine s0 (rd_bin' rfl rfl eg_int ru_gtr) ?_
 refine s0 (rd_move' rfl) ?_
 refine sx_cutn' 4 (fun (v1 : Bool) => (⟨36, [], [(0, (Sl (Kl Kf) a0)), (1, (Sl Kf a1)), (12, (Vb v1))], []⟩ : St)) (fun (v1 : Bool) => laws_some_j1 k a0 a1 v1 = some out) ?_ ?_
 ·rintro x1 hp
  replace hp : laws_some_j1 k a0 a1 x1 = some out := hp
  unfold laws_some_j1 at hp
  refine s0 (rd_move' rfl) ?_
  refine sx_cutn' 4 (fun (v2 : Bool) => (⟨36, [], [(0, (Sl (Kl Kf) a0)), (1, (Sl Kf a1)), (17, (Vb v2))], []⟩ : St)) (fun (v2 : Bool) => laws_some_j2 k a0 a1 v2 = some out) ?_ ?_
  ·rintro x2 hp
   replace hp : laws_some_j2 k a0 a1 x2 = some out := hp
   unfold laws_some_j2 at hp
   refine s0 (rd_move' rfl) ?_
   refine sx_cutn' 4 (fun (v3 : Bool) => (⟨36, [], [(0, (Sl (Kl Kf) a0)), (1, (Sl Kf a1)), (22, (Vb v3))], []⟩ : St)) (fun (v3 : Bool) => laws_some_j3 k a0 a1 v3 = some out) ?_ ?_
   ·rintro x3 hp
    replace hp : laws_some_j3 k a0 a1 x3 = some out := hp
    unfold laws_some_j3 at hp
    refine s0 (rd_move' rfl) ?_
    refine sx_cutn' 5 (fun (v4 : Bool) => (⟨36, [], [(1, (Sl Kf a1)), (28, (Vb v4))], []⟩ : St)) (fun (v4 : Bool) => laws_some_j4 k a1 v4 = some out) ?_ ?_
    ·rintro x4 hp
     replace hp : laws_some_j4 k a1 x4 = some out := hp
     unfold laws_some_j4 at hp
     refine s0 (rd_move' rfl) ?_
     refine sx_cutn' 6 (fun (v5 : Bool) => (⟨36, [], [(35, (Vb v5))], []⟩ : St)) (fun (v5 : Bool) => laws_some_j5 k v5 = some out) ?_ ?_
     ·rintro x5 hp
      replace hp : laws_some_j5 k x5 = some out := hp
      unfold laws_some_j5 at hp
      refine s0 (rd_assign' rfl) ?_
      refine nk hK2 ?_
      refine cx_retc' ?_
      replace hp := Option.some.inj hp
      subst hp
      refine tx_pick' (L' := [(4, (Vb x5))]) (H' := []) [] (sub_cons rfl sub_nil) (by decide) pick_nil ?_
      exact tx_ret1' Try.results8 rfl () (rv_tmp' rfl) (List.Sublist.refl _)
     intro K7 hK7
     rcases br_cases hp with ⟨h5, hp⟩ | ⟨h5, hp⟩
     ·refine sx_rd' (rd_move' rfl) rfl rfl (wt_is' (wt_guard' rfl rfl rfl) (beq_tt h5)) ?_
      refine sx_ox' (ox_rowlit' (K := (Kl Kf)) (xs := [a1]) (qs := [(0, [(Sl Kf a1)])]) ⟨rfl, ⟨_, rfl, (lv_sl _ _)⟩, trivial⟩ Try.underlying22 info25 rfl rfl rfl rfl rfl (by kernel_rfl) rfl rfl rfl) (wt_is' (wt_guard' rfl rfl rfl) (beq_tt h5)) fun g31 => ?_
      refine sx_rd' (rd_move' rfl) rfl rfl (wt_is' (wt_guard' rfl rfl rfl) (beq_tt h5)) ?_
      refine sx_rd' (rd_len' rfl Try.underlying25) rfl rfl (wt_is' (wt_guard' rfl rfl rfl) (beq_tt h5)) ?_
      obtain ⟨r34, hr34, hp⟩ := bind_some hp
      refine sx_ox' (ox_brw' (frz_row 0 [(31, (Vl (Vs g31)), (Sl (Kl Kf) ([a1])))] (K := (Kl Kf)) (xs := [a1]) (by decide) rfl ⟨⟨rfl, frz_it⟩, trivial⟩ (H' := []) frzH_refl) (ent_fn' Try.func26 isn26 rfl rfl) (spec_Grid_sim _ _ _ hr34 : Sx.Fn Try.prog 26 [(Sl (Kl Kf) ([a1])), (Vi (a1.length : Int)), (Vg 4697254411347427328)] [] (fun x : Unit => (Vb r34)) (fun x => [])) pu_vl rfl rfl) (wt_is' (wt_guard' rfl rfl rfl) (beq_tt h5)) fun ⟨⟩ => ?_
      refine s0 (rd_pick_true' rfl h5 rfl) ?_
      refine sx_nil' ?_
      show TX E K7 _
      exact tx_pick' [] (sub_cons rfl sub_nil) (by decide) pick_nil (hK7 r34 hp)
     refine sx_skip' rfl rfl (wt_is' (wt_guard' rfl rfl rfl) (beq_ft h5)) ?_
     refine sx_skip' rfl rfl (wt_is' (wt_guard' rfl rfl rfl) (beq_ft h5)) ?_
     refine sx_skip' rfl rfl (wt_is' (wt_guard' rfl rfl rfl) (beq_ft h5)) ?_
     refine sx_skip' rfl rfl (wt_is' (wt_guard' rfl rfl rfl) (beq_ft h5)) ?_
     refine sx_skip' rfl rfl (wt_is' (wt_guard' rfl rfl rfl) (beq_ft h5)) ?_
     refine s0 (rd_pick_false' rfl h5 rfl) ?_
     refine sx_nil' ?_
     show TX E K7 _
     exact tx_pick' [] (sub_cons rfl sub_nil) (by decide) pick_nil (hK7 false hp)
    intro K6 hK6
    rcases br_cases hp with ⟨h4, hp⟩ | ⟨h4, hp⟩
    ·refine sx_rd' (rd_move' rfl) rfl rfl (wt_is' (wt_guard' rfl rfl rfl) (beq_tt h4)) ?_
     refine sx_rd' (rd_move' rfl) rfl rfl (wt_is' (wt_guard' rfl rfl rfl) (beq_tt h4)) ?_
     refine sx_rd' (rd_len' rfl Try.underlying25) rfl rfl (wt_is' (wt_guard' rfl rfl rfl) (beq_tt h4)) ?_
     obtain ⟨r27, hr27, hp⟩ := bind_some hp
     refine sx_ox' (ox_calln' (ent_fn' Try.func26 isn26 rfl rfl) (spec_Grid_sim _ _ _ hr27 : Sx.Fn Try.prog 26 [(Sl (Kl Kf) a0), (Vi (a1.length : Int)), (Vg 4697254411347427328)] [] (fun x : Unit => (Vb r27)) (fun x => [])) (Hn := fun x : Unit => []) (fun _ => rfl) rfl rfl) (wt_is' (wt_guard' rfl rfl rfl) (beq_tt h4)) fun ⟨⟩ => ?_
     refine s0 (rd_pick_true' rfl h4 rfl) ?_
     refine sx_nil' ?_
     show TX E K6 _
     exact tx_pick' [] (sub_cons rfl (sub_cons rfl sub_nil)) (by decide) pick_nil (hK6 r27 hp)
    refine sx_skip' rfl rfl (wt_is' (wt_guard' rfl rfl rfl) (beq_ft h4)) ?_
    refine sx_skip' rfl rfl (wt_is' (wt_guard' rfl rfl rfl) (beq_ft h4)) ?_
    refine sx_skip' rfl rfl (wt_is' (wt_guard' rfl rfl rfl) (beq_ft h4)) ?_
    refine sx_skip' rfl rfl (wt_is' (wt_guard' rfl rfl rfl) (beq_ft h4)) ?_
    refine s0 (rd_pick_false' rfl h4 rfl) ?_
    refine sx_nil' ?_
    show TX E K6 _
    exact tx_pick' [] (sub_cons rfl (sub_cons rfl sub_nil)) (by decide) pick_nil (hK6 false hp)
   intro K5 hK5
   rcases br_cases hp with ⟨h3, hp⟩ | ⟨h3, hp⟩
   ·refine sx_rd' (rd_move' rfl) rfl rfl (wt_is' (wt_guard' rfl rfl rfl) (beq_tt h3)) ?_
    refine sx_rd' (rd_len' rfl Try.underlying25) rfl rfl (wt_is' (wt_guard' rfl rfl rfl) (beq_tt h3)) ?_
    refine sx_rd' (rd_bin' rfl rfl eg_int ru_leq) rfl rfl (wt_is' (wt_guard' rfl rfl rfl) (beq_tt h3)) ?_
    refine s0 (rd_pick_true' rfl h3 rfl) ?_
    refine sx_nil' ?_
    show TX E K5 _
    exact tx_pick' [] (sub_cons rfl (sub_cons rfl (sub_cons rfl sub_nil))) (by decide) pick_nil (hK5 (decide ((a1.length : Int) ≤ 6)) hp)
   refine sx_skip' rfl rfl (wt_is' (wt_guard' rfl rfl rfl) (beq_ft h3)) ?_
   refine sx_skip' rfl rfl (wt_is' (wt_guard' rfl rfl rfl) (beq_ft h3)) ?_
   refine sx_skip' rfl rfl (wt_is' (wt_guard' rfl rfl rfl) (beq_ft h3)) ?_
   refine s0 (rd_pick_false' rfl h3 rfl) ?_
   refine sx_nil' ?_
   show TX E K5 _
   exact tx_pick' [] (sub_cons rfl (sub_cons rfl (sub_cons rfl sub_nil))) (by decide) pick_nil (hK5 false hp)
  intro K4 hK4
  rcases br_cases hp with ⟨h2, hp⟩ | ⟨h2, hp⟩
  ·refine sx_rd' (rd_move' rfl) rfl rfl (wt_is' (wt_guard' rfl rfl rfl) (beq_tt h2)) ?_
   refine sx_rd' (rd_len' rfl Try.underlying25) rfl rfl (wt_is' (wt_guard' rfl rfl rfl) (beq_tt h2)) ?_
   refine sx_rd' (rd_bin' rfl rfl eg_int ru_gtr) rfl rfl (wt_is' (wt_guard' rfl rfl rfl) (beq_tt h2)) ?_
   refine s0 (rd_pick_true' rfl h2 rfl) ?_
   refine sx_nil' ?_
   show TX E K4 _
   exact tx_pick' [] (sub_cons rfl (sub_cons rfl (sub_cons rfl sub_nil))) (by decide) pick_nil (hK4 (decide (0 < (a1.length : Int))) hp)
  refine sx_skip' rfl rfl (wt_is' (wt_guard' rfl rfl rfl) (beq_ft h2)) ?_
  refine sx_skip' rfl rfl (wt_is' (wt_guard' rfl rfl rfl) (beq_ft h2)) ?_
  refine sx_skip' rfl rfl (wt_is' (wt_guard' rfl rfl rfl) (beq_ft h2)) ?_
  refine s0 (rd_pick_false' rfl h2 rfl) ?_
  refine sx_nil' ?_
  show TX E K4 _
  exact tx_pick' [] (sub_cons rfl (sub_cons rfl (sub_cons rfl sub_nil))) (by decide) pick_nil (hK4 false hp)
 intro K3 hK3
 rcases br_cases hp with ⟨h1, hp⟩ | ⟨h1, hp⟩
 ·refine sx_rd' (rd_move' rfl) rfl rfl (wt_is' (wt_guard' rfl rfl rfl) (beq_tt h1)) ?_
  refine sx_rd' (rd_len' rfl Try.underlying22) rfl rfl (wt_is' (wt_guard' rfl rfl rfl) (beq_tt h1)) ?_
  refine sx_rd' (rd_bin' rfl rfl eg_int ru_leq) rfl rfl (wt_is' (wt_guard' rfl rfl rfl) (beq_tt h1)) ?_
  refine s0 (rd_pick_true' rfl h1 rfl) ?_
  refine sx_nil' ?_
  show TX E K3 _
  exact tx_pick' [] (sub_cons rfl (sub_cons rfl (sub_cons rfl sub_nil))) (by decide) pick_nil (hK3 (decide ((a0.length : Int) ≤ 100)) hp)
 refine sx_skip' rfl rfl (wt_is' (wt_guard' rfl rfl rfl) (beq_ft h1)) ?_
 refine sx_skip' rfl rfl (wt_is' (wt_guard' rfl rfl rfl) (beq_ft h1)) ?_
 refine sx_skip' rfl rfl (wt_is' (wt_guard' rfl rfl rfl) (beq_ft h1)) ?_
 refine s0 (rd_pick_false' rfl h1 rfl) ?_
 refine sx_nil' ?_
 show TX E K3 _
 exact tx_pick' [] (sub_cons rfl (sub_cons rfl (sub_cons rfl sub_nil))) (by decide) pick_nil (hK3 false hp)

def kdtree_Point_Dims (k : Nat) (a0 : List Nat) : Option (Int) :=
 some (a0.length : Int)

theorem kdtree_Point_Dims_sim {k : Nat}  (a0 : List Nat) {out : Int} (hp : kdtree_Point_Dims k a0 = some out) : Sx.Fn Try.prog 121 [(Sl Kf a0)] [] (fun w : Unit => (Vi out)) (fun w => []) := by
 unfold kdtree_Point_Dims at hp
 refine fn_of Try.func121 rfl Try.ntmps121 rfl fun E hM => ?_
 refine cr fun K1 hK1 => ?_
 refine s0 (rd_assign' rfl) ?_
 refine nk hK1 ?_
 refine cr fun K2 hK2 => ?_
 refine s0 (rd_move' rfl) ?_
 refine s0 (rd_len' rfl Try.underlying62) ?_
 refine s0 (rd_assign' rfl) ?_
 refine nk hK2 ?_
 refine cx_retc' ?_
 replace hp := Option.some.inj hp
 subst hp
 refine tx_pick' (L' := [(2, (Vi (a0.length : Int)))]) (H' := []) [] (sub_cons rfl sub_nil) (by decide) pick_nil ?_
 exact tx_ret1' Try.results121 rfl () (rv_tmp' rfl) (List.Sublist.refl _)

def kdtree_Point_Compare (k : Nat) (a0 : List Nat) (a1 : List Nat) (a2 : Int) : Option (Nat) :=
 (idx a0 a2) >>= fun r12 =>
 (idx a1 a2) >>= fun r16 =>
 (fsub r12 r16) >>= fun r18 =>
 some r18

theorem kdtree_Point_Compare_sim {k : Nat}  (a0 : List Nat) (a1 : List Nat) (a2 : Int) {out : Nat} (hp : kdtree_Point_Compare k a0 a1 a2 = some out) : Sx.Fn Try.prog 120 [(Sl Kf a0), (If 62 (Sl Kf a1)), (Vi a2)] [] (fun w : Unit => (Vg out)) (fun w => []) := by
 unfold kdtree_Point_Compare at hp
 refine fn_of Try.func120 rfl Try.ntmps120 rfl fun E hM => ?_
 refine cr fun K1 hK1 => ?_
 refine s0 (rd_assign' rfl) ?_
 refine nk hK1 ?_
 refine cr fun K2 hK2 => ?_
 refine s0 (rd_move' rfl) ?_
 refine s0 (rd_assert' rfl (F := fun v => v) as62_116_62 as_id) ?_
 refine s0 (rd_assign' rfl) ?_
 refine nk hK2 ?_
 refine cx_seq' fun K3 hK3 => ?_
 refine cx_draw' mixed (by kernel_rfl) ?_
 refine qx_rd' (rd_move' rfl) rfl rfl (wt_none' rfl) ?_
 refine qx_rd' (rd_move' rfl) rfl rfl (wt_none' rfl) ?_
 obtain ⟨r12, hr12, hp⟩ := bind_some hp
 refine qx_rd' (rd_at' (K := Kf) rfl rfl hr12 Try.underlying62 info40) rfl rfl (wt_none' rfl) ?_
 refine qx_rd' (rd_load_pt' rfl rfl flat40) rfl rfl (wt_none' rfl) ?_
 refine qx_rd' (rd_move' rfl) rfl rfl (wt_none' rfl) ?_
 refine qx_rd' (rd_move' rfl) rfl rfl (wt_none' rfl) ?_
 obtain ⟨r16, hr16, hp⟩ := bind_some hp
 refine qx_rd' (rd_at' (K := Kf) rfl rfl hr16 Try.underlying62 info40) rfl rfl (wt_none' rfl) ?_
 refine qx_rd' (rd_load_pt' rfl rfl flat40) rfl rfl (wt_none' rfl) ?_
 obtain ⟨r18, hr18, hp⟩ := bind_some hp
 refine qx_rd' (rd_bin' rfl rfl eg_flt (ru_fsub hr18)) rfl rfl (wt_none' rfl) ?_
 refine qx_rd' (rd_assign' rfl) rfl rfl (wt_none' rfl) ?_
 refine qx_nil' ?_
 show TX E K3 _
 refine tx_k' hK3 ?_
 refine cx_retc' ?_
 replace hp := Option.some.inj hp
 subst hp
 refine tx_pick' (L' := [(6, (Vg r18))]) (H' := []) [] (sub_cons rfl sub_nil) (by decide) pick_nil ?_
 exact tx_ret1' Try.results120 rfl () (rv_tmp' rfl) (List.Sublist.refl _)

def math_Min (k : Nat) (a0 : Nat) (a1 : Nat) : Option (Nat) :=
 some (mpick true .lt a0 a1)

theorem math_Min_sim {k : Nat}  (a0 : Nat) (a1 : Nat) {out : Nat} (hp : math_Min k a0 a1 = some out) : Sx.Fn Try.prog 124 [(Vg a0), (Vg a1)] [] (fun w : Unit => (Vg out)) (fun w => []) := by
 unfold math_Min at hp
 refine fn_of Try.func124 rfl Try.ntmps124 rfl fun E hM => ?_
 refine cr fun K1 hK1 => ?_
 refine s0 (rd_assign' rfl) ?_
 refine nk hK1 ?_
 refine cx_seq' fun K2 hK2 => ?_
 refine cx_cond_t' rfl rfl ?_
 refine cr fun K3 hK3 => ?_
 refine s0 (rd_move' rfl) ?_
 refine s0 (rd_move' rfl) ?_
 refine s0 (rd_ext' (us := [.float .f64 a0, .float .f64 a1]) rfl (ext126 ex_pick)) ?_
 refine s0 (rd_assign' rfl) ?_
 refine nk hK3 ?_
 refine cx_retc' ?_
 replace hp := Option.some.inj hp
 subst hp
 refine tx_pick' (L' := [(4, (Vg (mpick true .lt a0 a1)))]) (H' := []) [] (sub_cons rfl sub_nil) (by decide) pick_nil ?_
 exact tx_ret1' Try.results124 rfl () (rv_tmp' rfl) (List.Sublist.refl _)

def math_Max (k : Nat) (a0 : Nat) (a1 : Nat) : Option (Nat) :=
 some (mpick false .gt a0 a1)

theorem math_Max_sim {k : Nat}  (a0 : Nat) (a1 : Nat) {out : Nat} (hp : math_Max k a0 a1 = some out) : Sx.Fn Try.prog 125 [(Vg a0), (Vg a1)] [] (fun w : Unit => (Vg out)) (fun w => []) := by
 unfold math_Max at hp
 refine fn_of Try.func125 rfl Try.ntmps125 rfl fun E hM => ?_
 refine cr fun K1 hK1 => ?_
 refine s0 (rd_assign' rfl) ?_
 refine nk hK1 ?_
 refine cx_seq' fun K2 hK2 => ?_
 refine cx_cond_t' rfl rfl ?_
 refine cr fun K3 hK3 => ?_
 refine s0 (rd_move' rfl) ?_
 refine s0 (rd_move' rfl) ?_
 refine s0 (rd_ext' (us := [.float .f64 a0, .float .f64 a1]) rfl (ext128 ex_pick)) ?_
 refine s0 (rd_assign' rfl) ?_
 refine nk hK3 ?_
 refine cx_retc' ?_
 replace hp := Option.some.inj hp
 subst hp
 refine tx_pick' (L' := [(4, (Vg (mpick false .gt a0 a1)))]) (H' := []) [] (sub_cons rfl sub_nil) (by decide) pick_nil ?_
 exact tx_ret1' Try.results125 rfl () (rv_tmp' rfl) (List.Sublist.refl _)

def kdtree_Point_Extend_l1s (a0 : List Nat) (k : Nat) (rec1 : ((List Nat) × (List Nat) × Int) → Option ((List Nat) × (List Nat))) (x1 : List Nat) (x2 : List Nat) (x3 : Int) : Option ((List Nat) × (List Nat)) :=
 br (decide (x3 < (a0.length : Int)))
  ((idx a0 x3) >>= fun r34 =>
  (idx x1 x3) >>= fun r40 =>
  (math_Min k r40 r34) >>= fun r43 =>
  (idx x1 x3) >>= fun r44 =>
  (idx x2 x3) >>= fun r49 =>
  (math_Max k r49 r34) >>= fun r52 =>
  (idx x2 x3) >>= fun r53 =>
  rec1 ((x1.set x3.toNat r43), (x2.set x3.toNat r52), (iadd .i64 x3 1)))
  (some (x1, x2))
def kdtree_Point_Extend_l1 (a0 : List Nat) : Nat → ((List Nat) × (List Nat) × Int) → Option ((List Nat) × (List Nat))
 | 0, _ => none
 | k + 1, v => kdtree_Point_Extend_l1s a0 k (kdtree_Point_Extend_l1 a0 k) v.1 v.2.1 v.2.2
def kdtree_Point_Extend (k : Nat) (a0 : List Nat) : Option ((List Nat) × (List Nat)) :=
 (apd 8 [] a0) >>= fun r12 =>
 (apd 8 [] a0) >>= fun r15 =>
 (kdtree_Point_Extend_l1 a0 k (r12, r15, 0)) >>= fun v2 =>
 some (v2.1, v2.2)

theorem kdtree_Point_Extend_sim {k : Nat}  (a0 : List Nat) {out : (List Nat) × (List Nat)} (hp : kdtree_Point_Extend k a0 = some out) : Sx.Fn Try.prog 123 [(Sl Kf a0), (Vl (.pointer none))] [] (fun w : Addr × Gs × Gs => (Vp w.1)) (fun w => [⟨.pointer (some w.1), [(If 62 (Vl (Vs w.2.1))), (If 62 (Vl (Vs w.2.2)))], 127, none⟩, (Rw Kf 40 (Vs w.2.1) out.1), (Rw Kf 40 (Vs w.2.2) out.2)]) := by
 unfold kdtree_Point_Extend at hp
 refine fn_of Try.func123 rfl Try.ntmps123 rfl fun E hM => ?_
 refine cr fun K1 hK1 => ?_
 refine s0 (rd_assign' rfl) ?_
 refine nk hK1 ?_
 refine cx_seq' fun K2 hK2 => ?_
 refine cr fun K3 hK3 => ?_
 refine s0 (rd_move' rfl) ?_
 refine s0 (rd_binf' rfl rfl (bf_vl (fun _ => by kernel_rfl) nil_eql118_nilptr)) ?_
 refine nk hK3 ?_
 refine cx_cond_t' rfl rfl ?_
 refine cx_region' ?_
 refine s0 (rd_move' rfl) ?_
 refine tx_nilrow' Kf 40 ?_
 obtain ⟨r12, hr12, hp⟩ := bind_some hp
 refine sx_ox' (ox_append' (K := Kf) (i := 0) (xs := []) (ys := a0) rfl rfl rfl (sr_sl' rfl Try.underlying62) hr12 Try.underlying62 info40 rfl rfl rfl (H' := []) rfl) (wt_none' rfl) fun g12 => ?_
 refine s0 (rd_iface' rfl ⟨_, Try.underlying62, fun _ h => (nomatch h)⟩) ?_
 refine s0 (rd_move' rfl) ?_
 refine tx_nilrow' Kf 40 ?_
 obtain ⟨r15, hr15, hp⟩ := bind_some hp
 refine sx_ox' (ox_append' (K := Kf) (i := 0) (xs := []) (ys := a0) rfl rfl rfl (sr_sl' rfl Try.underlying62) hr15 Try.underlying62 info40 rfl rfl rfl (H' := [(Rw Kf 40 (Vs g12) r12)]) rfl) (wt_none' rfl) fun g15 => ?_
 refine s0 (rd_iface' rfl ⟨_, Try.underlying62, fun _ h => (nomatch h)⟩) ?_
 refine s0 (rd_build' (pls := [(0, 1), (1, 1)]) (qs := [(0, [(If 62 (Vl (Vs g12)))]), (1, [(If 62 (Vl (Vs g15)))])]) (r := [(If 62 (Vl (Vs g12))), (If 62 (Vl (Vs g15)))]) ⟨rfl, ⟨_, rfl, (lv_if _ _)⟩, ⟨rfl, ⟨_, rfl, (lv_if _ _)⟩, trivial⟩⟩ Try.underlying127 has127 places127 info127 rfl rfl rfl) ?_
 refine sx_ox' (ox_box' rfl (lv_ag _) rfl rfl) (wt_none' rfl) fun q18 => ?_
 refine s0 (rd_assign' rfl) ?_
 refine nk hK2 ?_
 refine cr fun K4 hK4 => ?_
 refine s0 (rd_move' rfl) ?_
 refine s0 (rd_nilck' rfl) ?_
 refine s0 (rd_field0' rfl Try.underlying127 rfl info116 rfl) ?_
 refine s0 (rd_load' (i := 0) (o := 0) rfl ⟨rfl, rfl, rfl, rfl⟩ rfl flat116) ?_
 refine s0 (rd_assert' rfl (F := fun v => v) as62_116_62 as_id) ?_
 refine s0 (rd_assign' rfl) ?_
 refine nk hK4 ?_
 refine cr fun K5 hK5 => ?_
 refine s0 (rd_move' rfl) ?_
 refine s0 (rd_nilck' rfl) ?_
 refine s0 (rd_field' (off := 1) rfl Try.underlying127 rfl info116 rfl) ?_
 refine s0 (rd_load' (i := 0) (o := 1) rfl ⟨rfl, rfl, rfl, rfl⟩ rfl flat116) ?_
 refine s0 (rd_assert' rfl (F := fun v => v) as62_116_62 as_id) ?_
 refine s0 (rd_assign' rfl) ?_
 refine nk hK5 ?_
 refine cx_seq' fun K6 hK6 => ?_
 refine cr fun K7 hK7 => ?_
 refine s0 (rd_move' rfl) ?_
 refine s0 (rd_len' rfl Try.underlying62) ?_
 refine s0 (rd_move' rfl) ?_
 refine nk hK7 ?_
 refine cx_block' ?_
 obtain ⟨v2, hy1, hp⟩ := bind_some hp
 refine cx_loopg' (F := kdtree_Point_Extend_l1 a0) (G := fun k R v => kdtree_Point_Extend_l1s a0 k R v.1 v.2.1 v.2.2) (x := (r12, r15, 0)) (gh := ()) (fun (v1 : (List Nat) × (List Nat) × Int) (w1 : Unit) => (⟨63, [], [(1, (Vp q18)), (5, (Vl (Vs g12))), (6, (Vl (Vs g15))), (29, (Sl Kf a0)), (30, (Vi (a0.length : Int))), (31, (Vi v1.2.2))], [⟨.pointer (some q18), [(If 62 (Vl (Vs g12))), (If 62 (Vl (Vs g15)))], 127, none⟩, (Rw Kf 40 (Vs g12) v1.1), (Rw Kf 40 (Vs g15) v1.2.1)]⟩ : St)) (fun (v2 : (List Nat) × (List Nat)) => Zg E (Exit.exit 0) (fun (w2 : Unit) => (⟨63, [], [(1, (Vp q18)), (5, (Vl (Vs g12))), (6, (Vl (Vs g15)))], [⟨.pointer (some q18), [(If 62 (Vl (Vs g12))), (If 62 (Vl (Vs g15)))], 127, none⟩, (Rw Kf 40 (Vs g12) v2.1), (Rw Kf 40 (Vs g15) v2.2)]⟩ : St))) (fun _ => rfl) (fun _ _ => rfl) ?_ hy1 (tx_to' rfl [0, 2, 1] (sub_cons rfl (sub_cons rfl (sub_cons rfl (sub_cons rfl (sub_cons rfl (sub_cons rfl sub_nil)))))) (by decide) (pick_cons rfl (pick_cons rfl (pick_cons rfl pick_nil)))) ?_
 ·clear hp hy1
  clear v2
  intro k rec1 KY1 ih1
  rintro ⟨x1, x2, x3⟩ ⟨⟩ y1 hp
  replace hp : kdtree_Point_Extend_l1s a0 k rec1 x1 x2 x3 = some y1 := hp
  unfold kdtree_Point_Extend_l1s at hp
  refine cr fun K13 hK13 => ?_
  refine s0 (rd_bin' rfl rfl eg_int ru_lss) ?_
  refine nk hK13 ?_
  refine cx_seq' fun K14 hK14 => ?_
  refine cx_cond' rfl (fun h3 => ?_) (fun h3 => ?_)
  ·replace hp := (br_t h3).symm.trans hp
   refine cx_skip' ?_
   show TX E K14 _
   refine tx_k' hK14 ?_
   refine cx_seq' fun K15 hK15 => ?_
   refine cx_block' ?_
   refine cr fun K16 hK16 => ?_
   refine s0 (rd_move' rfl) ?_
   obtain ⟨r34, hr34, hp⟩ := bind_some hp
   refine s0 (rd_at' (K := Kf) rfl rfl hr34 Try.underlying62 info40) ?_
   refine s0 (rd_load_pt' rfl rfl flat40) ?_
   refine s0 (rd_assign' rfl) ?_
   refine s0 (rd_assign' rfl) ?_
   refine nk hK16 ?_
   refine cr fun K17 hK17 => ?_
   refine s0 (rd_move' rfl) ?_
   refine s0 (rd_move' rfl) ?_
   refine s0 (rd_move' rfl) ?_
   refine s0 (rd_move' rfl) ?_
   obtain ⟨r40, hr40, hp⟩ := bind_some hp
   refine s0 (rd_atr' (m := 1) rfl rfl rfl rfl hr40 Try.underlying62 info40) ?_
   refine s0 (rd_loadr' rfl (m := 1) (i := x3) (j := 0) rfl rfl hr40 rfl rfl flat40) ?_
   refine s0 (rd_move' rfl) ?_
   obtain ⟨r43, hr43, hp⟩ := bind_some hp
   refine sx_ox' (ox_calln' (ent_fn' Try.func124 isn124 rfl rfl) (math_Min_sim _ _ hr43 : Sx.Fn Try.prog 124 [(Vg r40), (Vg r34)] [] (fun x : Unit => (Vg r43)) (fun x => [])) (Hn := fun x : Unit => [⟨.pointer (some q18), [(If 62 (Vl (Vs g12))), (If 62 (Vl (Vs g15)))], 127, none⟩, (Rw Kf 40 (Vs g12) x1), (Rw Kf 40 (Vs g15) x2)]) (fun _ => rfl) rfl rfl) (wt_none' rfl) fun ⟨⟩ => ?_
   obtain ⟨r44, hr44, hp⟩ := bind_some hp
   refine s0 (rd_atr' (m := 1) rfl rfl rfl rfl hr44 Try.underlying62 info40) ?_
   refine sx_ox' (ox_storer' (m := 1) (i := x3) (j := 0) (x' := r43) rfl rfl (lv_vl rfl rfl) rfl rfl hr44 rfl rfl rfl info40 rfl (H' := [⟨.pointer (some q18), [(If 62 (Vl (Vs g12))), (If 62 (Vl (Vs g15)))], 127, none⟩, (Rw Kf 40 (Vs g12) (x1.set x3.toNat r43)), (Rw Kf 40 (Vs g15) x2)]) rfl) (wt_none' rfl) fun _ => ?_
   refine nk hK17 ?_
   refine cx_region' ?_
   refine s0 (rd_move' rfl) ?_
   refine s0 (rd_move' rfl) ?_
   refine s0 (rd_move' rfl) ?_
   refine s0 (rd_move' rfl) ?_
   obtain ⟨r49, hr49, hp⟩ := bind_some hp
   refine s0 (rd_atr' (m := 2) rfl rfl rfl rfl hr49 Try.underlying62 info40) ?_
   refine s0 (rd_loadr' rfl (m := 2) (i := x3) (j := 0) rfl rfl hr49 rfl rfl flat40) ?_
   refine s0 (rd_move' rfl) ?_
   obtain ⟨r52, hr52, hp⟩ := bind_some hp
   refine sx_ox' (ox_calln' (ent_fn' Try.func125 isn125 rfl rfl) (math_Max_sim _ _ hr52 : Sx.Fn Try.prog 125 [(Vg r49), (Vg r34)] [] (fun x : Unit => (Vg r52)) (fun x => [])) (Hn := fun x : Unit => [⟨.pointer (some q18), [(If 62 (Vl (Vs g12))), (If 62 (Vl (Vs g15)))], 127, none⟩, (Rw Kf 40 (Vs g12) (x1.set x3.toNat r43)), (Rw Kf 40 (Vs g15) x2)]) (fun _ => rfl) rfl rfl) (wt_none' rfl) fun ⟨⟩ => ?_
   obtain ⟨r53, hr53, hp⟩ := bind_some hp
   refine s0 (rd_atr' (m := 2) rfl rfl rfl rfl hr53 Try.underlying62 info40) ?_
   refine sx_ox' (ox_storer' (m := 2) (i := x3) (j := 0) (x' := r52) rfl rfl (lv_vl rfl rfl) rfl rfl hr53 rfl rfl rfl info40 rfl (H' := [⟨.pointer (some q18), [(If 62 (Vl (Vs g12))), (If 62 (Vl (Vs g15)))], 127, none⟩, (Rw Kf 40 (Vs g12) (x1.set x3.toNat r43)), (Rw Kf 40 (Vs g15) (x2.set x3.toNat r52))]) rfl) (wt_none' rfl) fun _ => ?_
   refine nk hK15 ?_
   refine cx_region' ?_
   refine s0 (rd_bin' rfl rfl eg_int ru_add) ?_
   refine s0 (rd_move' rfl) ?_
   refine sx_nil' ?_
   show TX E (KY1 _) _
   exact tx_pick' [0, 1, 2] (sub_cons rfl (sub_cons rfl (sub_cons rfl (sub_cons rfl (sub_cons rfl (sub_cons rfl sub_nil)))))) (by decide) (pick_cons rfl (pick_cons rfl (pick_cons rfl pick_nil))) (ih1 ((x1.set x3.toNat r43), (x2.set x3.toNat r52), (iadd .i64 x3 1)) () _ hp)
  replace hp := (br_f h3).symm.trans hp
  refine cx_exit' ?_
  replace hp := Option.some.inj hp
  subst hp
  show TX E (Zg E (Exit.exit 0) _ (Exit.exit 0)) _
  exact tx_zend' () rfl [0, 1, 2] (sub_cons rfl (sub_cons rfl (sub_cons rfl sub_nil))) (by decide) (pick_cons rfl (pick_cons rfl (pick_cons rfl pick_nil)))
 refine zg_out fun w2 => ?_
 show TX E K6 _
 refine tx_k' hK6 ?_
 refine cr fun K18 hK18 => ?_
 refine s0 (rd_move' rfl) ?_
 refine s0 (rd_move' rfl) ?_
 refine s0 (rd_iface' rfl ⟨_, Try.underlying62, fun _ h => (nomatch h)⟩) ?_
 refine s0 (rd_move' rfl) ?_
 refine s0 (rd_iface' rfl ⟨_, Try.underlying62, fun _ h => (nomatch h)⟩) ?_
 refine s0 (rd_build' (pls := [(0, 1), (1, 1)]) (qs := [(0, [(If 62 (Vl (Vs g12)))]), (1, [(If 62 (Vl (Vs g15)))])]) (r := [(If 62 (Vl (Vs g12))), (If 62 (Vl (Vs g15)))]) ⟨rfl, ⟨_, rfl, (lv_if _ _)⟩, ⟨rfl, ⟨_, rfl, (lv_if _ _)⟩, trivial⟩⟩ Try.underlying127 has127 places127 info127 rfl rfl rfl) ?_
 refine s0 (rd_nilck' rfl) ?_
 refine sx_ox' (ox_store' (i := 0) (o := 0) rfl rfl (lv_ag _) ⟨rfl, rfl, rfl, rfl⟩ rfl info127 rfl (H' := [⟨.pointer (some q18), [(If 62 (Vl (Vs g12))), (If 62 (Vl (Vs g15)))], 127, none⟩, (Rw Kf 40 (Vs g12) v2.1), (Rw Kf 40 (Vs g15) v2.2)]) rfl) (wt_none' rfl) fun _ => ?_
 refine nk hK18 ?_
 refine cr fun K19 hK19 => ?_
 refine s0 (rd_move' rfl) ?_
 refine s0 (rd_assign' rfl) ?_
 refine nk hK19 ?_
 refine cx_retc' ?_
 replace hp := Option.some.inj hp
 subst hp
 refine tx_pick' (L' := [(4, (Vp q18))]) (H' := [⟨.pointer (some q18), [(If 62 (Vl (Vs g12))), (If 62 (Vl (Vs g15)))], 127, none⟩, (Rw Kf 40 (Vs g12) v2.1), (Rw Kf 40 (Vs g15) v2.2)]) [0, 1, 2] (sub_cons rfl sub_nil) (by decide) (pick_cons rfl (pick_cons rfl (pick_cons rfl pick_nil))) ?_
 exact tx_ret1' Try.results123 rfl (q18, g12, g15) (rv_tmp' rfl) (List.Sublist.refl _)

def kdtree_Point_Extend_v2_l1s (a0 : List Nat) (k : Nat) (rec1 : ((List Nat) × (List Nat) × Int) → Option ((List Nat) × (List Nat))) (x1 : List Nat) (x2 : List Nat) (x3 : Int) : Option ((List Nat) × (List Nat)) :=
 br (decide (x3 < (a0.length : Int)))
  ((idx a0 x3) >>= fun r34 =>
  (idx x1 x3) >>= fun r40 =>
  (math_Min k r40 r34) >>= fun r43 =>
  (idx x1 x3) >>= fun r44 =>
  (idx x2 x3) >>= fun r49 =>
  (math_Max k r49 r34) >>= fun r52 =>
  (idx x2 x3) >>= fun r53 =>
  rec1 ((x1.set x3.toNat r43), (x2.set x3.toNat r52), (iadd .i64 x3 1)))
  (some (x1, x2))
def kdtree_Point_Extend_v2_l1 (a0 : List Nat) : Nat → ((List Nat) × (List Nat) × Int) → Option ((List Nat) × (List Nat))
 | 0, _ => none
 | k + 1, v => kdtree_Point_Extend_v2_l1s a0 k (kdtree_Point_Extend_v2_l1 a0 k) v.1 v.2.1 v.2.2
def kdtree_Point_Extend_v2 (k : Nat) (a0 : List Nat) (a1_0 : List Nat) (a1_1 : List Nat) : Option ((List Nat) × (List Nat)) :=
 (kdtree_Point_Extend_v2_l1 a0 k (a1_0, a1_1, 0)) >>= fun v2 =>
 some (v2.1, v2.2)

theorem kdtree_Point_Extend_v2_sim {k : Nat} {wa1 : Addr} {wa1_0 : Gs} {wa1_1 : Gs} (a0 : List Nat) (a1_0 : List Nat) (a1_1 : List Nat) {out : (List Nat) × (List Nat)} (hp : kdtree_Point_Extend_v2 k a0 a1_0 a1_1 = some out) : Sx.Fn Try.prog 123 [(Sl Kf a0), (Vp wa1)] [⟨.pointer (some wa1), [(If 62 (Vl (Vs wa1_0))), (If 62 (Vl (Vs wa1_1)))], 127, none⟩, (Rw Kf 40 (Vs wa1_0) a1_0), (Rw Kf 40 (Vs wa1_1) a1_1)] (fun w : Unit => (Vp wa1)) (fun w => [⟨.pointer (some wa1), [(If 62 (Vl (Vs wa1_0))), (If 62 (Vl (Vs wa1_1)))], 127, none⟩, (Rw Kf 40 (Vs wa1_0) out.1), (Rw Kf 40 (Vs wa1_1) out.2)]) := by
 unfold kdtree_Point_Extend_v2 at hp
 refine fn_of Try.func123 rfl Try.ntmps123 rfl fun E hM => ?_
 refine cr fun K1 hK1 => ?_
 refine s0 (rd_assign' rfl) ?_
 refine nk hK1 ?_
 refine cx_seq' fun K2 hK2 => ?_
 refine cr fun K3 hK3 => ?_
 refine s0 (rd_move' rfl) ?_
 refine s0 (rd_binf' rfl rfl (bf_vl (fun _ => by kernel_rfl) (nil_eql118_ptr _))) ?_
 refine nk hK3 ?_
 refine cx_cond_f' rfl rfl ?_
 refine cx_skip' ?_
 show TX E K2 _
 refine tx_k' hK2 ?_
 refine cr fun K4 hK4 => ?_
 refine s0 (rd_move' rfl) ?_
 refine s0 (rd_nilck' rfl) ?_
 refine s0 (rd_field0' rfl Try.underlying127 rfl info116 rfl) ?_
 refine s0 (rd_load' (i := 0) (o := 0) rfl ⟨rfl, rfl, rfl, rfl⟩ rfl flat116) ?_
 refine s0 (rd_assert' rfl (F := fun v => v) as62_116_62 as_id) ?_
 refine s0 (rd_assign' rfl) ?_
 refine nk hK4 ?_
 refine cr fun K5 hK5 => ?_
 refine s0 (rd_move' rfl) ?_
 refine s0 (rd_nilck' rfl) ?_
 refine s0 (rd_field' (off := 1) rfl Try.underlying127 rfl info116 rfl) ?_
 refine s0 (rd_load' (i := 0) (o := 1) rfl ⟨rfl, rfl, rfl, rfl⟩ rfl flat116) ?_
 refine s0 (rd_assert' rfl (F := fun v => v) as62_116_62 as_id) ?_
 refine s0 (rd_assign' rfl) ?_
 refine nk hK5 ?_
 refine cx_seq' fun K6 hK6 => ?_
 refine cr fun K7 hK7 => ?_
 refine s0 (rd_move' rfl) ?_
 refine s0 (rd_len' rfl Try.underlying62) ?_
 refine s0 (rd_move' rfl) ?_
 refine nk hK7 ?_
 refine cx_block' ?_
 obtain ⟨v2, hy1, hp⟩ := bind_some hp
 refine cx_loopg' (F := kdtree_Point_Extend_v2_l1 a0) (G := fun k R v => kdtree_Point_Extend_v2_l1s a0 k R v.1 v.2.1 v.2.2) (x := (a1_0, a1_1, 0)) (gh := ()) (fun (v1 : (List Nat) × (List Nat) × Int) (w1 : Unit) => (⟨63, [], [(1, (Vp wa1)), (5, (Vl (Vs wa1_0))), (6, (Vl (Vs wa1_1))), (29, (Sl Kf a0)), (30, (Vi (a0.length : Int))), (31, (Vi v1.2.2))], [⟨.pointer (some wa1), [(If 62 (Vl (Vs wa1_0))), (If 62 (Vl (Vs wa1_1)))], 127, none⟩, (Rw Kf 40 (Vs wa1_0) v1.1), (Rw Kf 40 (Vs wa1_1) v1.2.1)]⟩ : St)) (fun (v2 : (List Nat) × (List Nat)) => Zg E (Exit.exit 0) (fun (w2 : Unit) => (⟨63, [], [(1, (Vp wa1)), (5, (Vl (Vs wa1_0))), (6, (Vl (Vs wa1_1)))], [⟨.pointer (some wa1), [(If 62 (Vl (Vs wa1_0))), (If 62 (Vl (Vs wa1_1)))], 127, none⟩, (Rw Kf 40 (Vs wa1_0) v2.1), (Rw Kf 40 (Vs wa1_1) v2.2)]⟩ : St))) (fun _ => rfl) (fun _ _ => rfl) ?_ hy1 (tx_to' rfl [0, 1, 2] (sub_cons rfl (sub_cons rfl (sub_cons rfl (sub_cons rfl (sub_cons rfl (sub_cons rfl sub_nil)))))) (by decide) (pick_cons rfl (pick_cons rfl (pick_cons rfl pick_nil)))) ?_
 ·clear hp hy1
  clear v2
  intro k rec1 KY1 ih1
  rintro ⟨x1, x2, x3⟩ ⟨⟩ y1 hp
  replace hp : kdtree_Point_Extend_v2_l1s a0 k rec1 x1 x2 x3 = some y1 := hp
  unfold kdtree_Point_Extend_v2_l1s at hp
  refine cr fun K13 hK13 => ?_
  refine s0 (rd_bin' rfl rfl eg_int ru_lss) ?_
  refine nk hK13 ?_
  refine cx_seq' fun K14 hK14 => ?_
  refine cx_cond' rfl (fun h3 => ?_) (fun h3 => ?_)
  ·replace hp := (br_t h3).symm.trans hp
   refine cx_skip' ?_
   show TX E K14 _
   refine tx_k' hK14 ?_
   refine cx_seq' fun K15 hK15 => ?_
   refine cx_block' ?_
   refine cr fun K16 hK16 => ?_
   refine s0 (rd_move' rfl) ?_
   obtain ⟨r34, hr34, hp⟩ := bind_some hp
   refine s0 (rd_at' (K := Kf) rfl rfl hr34 Try.underlying62 info40) ?_
   refine s0 (rd_load_pt' rfl rfl flat40) ?_
   refine s0 (rd_assign' rfl) ?_
   refine s0 (rd_assign' rfl) ?_
   refine nk hK16 ?_
   refine cr fun K17 hK17 => ?_
   refine s0 (rd_move' rfl) ?_
   refine s0 (rd_move' rfl) ?_
   refine s0 (rd_move' rfl) ?_
   refine s0 (rd_move' rfl) ?_
   obtain ⟨r40, hr40, hp⟩ := bind_some hp
   refine s0 (rd_atr' (m := 1) rfl rfl rfl rfl hr40 Try.underlying62 info40) ?_
   refine s0 (rd_loadr' rfl (m := 1) (i := x3) (j := 0) rfl rfl hr40 rfl rfl flat40) ?_
   refine s0 (rd_move' rfl) ?_
   obtain ⟨r43, hr43, hp⟩ := bind_some hp
   refine sx_ox' (ox_calln' (ent_fn' Try.func124 isn124 rfl rfl) (math_Min_sim _ _ hr43 : Sx.Fn Try.prog 124 [(Vg r40), (Vg r34)] [] (fun x : Unit => (Vg r43)) (fun x => [])) (Hn := fun x : Unit => [⟨.pointer (some wa1), [(If 62 (Vl (Vs wa1_0))), (If 62 (Vl (Vs wa1_1)))], 127, none⟩, (Rw Kf 40 (Vs wa1_0) x1), (Rw Kf 40 (Vs wa1_1) x2)]) (fun _ => rfl) rfl rfl) (wt_none' rfl) fun ⟨⟩ => ?_
   obtain ⟨r44, hr44, hp⟩ := bind_some hp
   refine s0 (rd_atr' (m := 1) rfl rfl rfl rfl hr44 Try.underlying62 info40) ?_
   refine sx_ox' (ox_storer' (m := 1) (i := x3) (j := 0) (x' := r43) rfl rfl (lv_vl rfl rfl) rfl rfl hr44 rfl rfl rfl info40 rfl (H' := [⟨.pointer (some wa1), [(If 62 (Vl (Vs wa1_0))), (If 62 (Vl (Vs wa1_1)))], 127, none⟩, (Rw Kf 40 (Vs wa1_0) (x1.set x3.toNat r43)), (Rw Kf 40 (Vs wa1_1) x2)]) rfl) (wt_none' rfl) fun _ => ?_
   refine nk hK17 ?_
   refine cx_region' ?_
   refine s0 (rd_move' rfl) ?_
   refine s0 (rd_move' rfl) ?_
   refine s0 (rd_move' rfl) ?_
   refine s0 (rd_move' rfl) ?_
   obtain ⟨r49, hr49, hp⟩ := bind_some hp
   refine s0 (rd_atr' (m := 2) rfl rfl rfl rfl hr49 Try.underlying62 info40) ?_
   refine s0 (rd_loadr' rfl (m := 2) (i := x3) (j := 0) rfl rfl hr49 rfl rfl flat40) ?_
   refine s0 (rd_move' rfl) ?_
   obtain ⟨r52, hr52, hp⟩ := bind_some hp
   refine sx_ox' (ox_calln' (ent_fn' Try.func125 isn125 rfl rfl) (math_Max_sim _ _ hr52 : Sx.Fn Try.prog 125 [(Vg r49), (Vg r34)] [] (fun x : Unit => (Vg r52)) (fun x => [])) (Hn := fun x : Unit => [⟨.pointer (some wa1), [(If 62 (Vl (Vs wa1_0))), (If 62 (Vl (Vs wa1_1)))], 127, none⟩, (Rw Kf 40 (Vs wa1_0) (x1.set x3.toNat r43)), (Rw Kf 40 (Vs wa1_1) x2)]) (fun _ => rfl) rfl rfl) (wt_none' rfl) fun ⟨⟩ => ?_
   obtain ⟨r53, hr53, hp⟩ := bind_some hp
   refine s0 (rd_atr' (m := 2) rfl rfl rfl rfl hr53 Try.underlying62 info40) ?_
   refine sx_ox' (ox_storer' (m := 2) (i := x3) (j := 0) (x' := r52) rfl rfl (lv_vl rfl rfl) rfl rfl hr53 rfl rfl rfl info40 rfl (H' := [⟨.pointer (some wa1), [(If 62 (Vl (Vs wa1_0))), (If 62 (Vl (Vs wa1_1)))], 127, none⟩, (Rw Kf 40 (Vs wa1_0) (x1.set x3.toNat r43)), (Rw Kf 40 (Vs wa1_1) (x2.set x3.toNat r52))]) rfl) (wt_none' rfl) fun _ => ?_
   refine nk hK15 ?_
   refine cx_region' ?_
   refine s0 (rd_bin' rfl rfl eg_int ru_add) ?_
   refine s0 (rd_move' rfl) ?_
   refine sx_nil' ?_
   show TX E (KY1 _) _
   exact tx_pick' [0, 1, 2] (sub_cons rfl (sub_cons rfl (sub_cons rfl (sub_cons rfl (sub_cons rfl (sub_cons rfl sub_nil)))))) (by decide) (pick_cons rfl (pick_cons rfl (pick_cons rfl pick_nil))) (ih1 ((x1.set x3.toNat r43), (x2.set x3.toNat r52), (iadd .i64 x3 1)) () _ hp)
  replace hp := (br_f h3).symm.trans hp
  refine cx_exit' ?_
  replace hp := Option.some.inj hp
  subst hp
  show TX E (Zg E (Exit.exit 0) _ (Exit.exit 0)) _
  exact tx_zend' () rfl [0, 1, 2] (sub_cons rfl (sub_cons rfl (sub_cons rfl sub_nil))) (by decide) (pick_cons rfl (pick_cons rfl (pick_cons rfl pick_nil)))
 refine zg_out fun w2 => ?_
 show TX E K6 _
 refine tx_k' hK6 ?_
 refine cr fun K18 hK18 => ?_
 refine s0 (rd_move' rfl) ?_
 refine s0 (rd_move' rfl) ?_
 refine s0 (rd_iface' rfl ⟨_, Try.underlying62, fun _ h => (nomatch h)⟩) ?_
 refine s0 (rd_move' rfl) ?_
 refine s0 (rd_iface' rfl ⟨_, Try.underlying62, fun _ h => (nomatch h)⟩) ?_
 refine s0 (rd_build' (pls := [(0, 1), (1, 1)]) (qs := [(0, [(If 62 (Vl (Vs wa1_0)))]), (1, [(If 62 (Vl (Vs wa1_1)))])]) (r := [(If 62 (Vl (Vs wa1_0))), (If 62 (Vl (Vs wa1_1)))]) ⟨rfl, ⟨_, rfl, (lv_if _ _)⟩, ⟨rfl, ⟨_, rfl, (lv_if _ _)⟩, trivial⟩⟩ Try.underlying127 has127 places127 info127 rfl rfl rfl) ?_
 refine s0 (rd_nilck' rfl) ?_
 refine sx_ox' (ox_store' (i := 0) (o := 0) rfl rfl (lv_ag _) ⟨rfl, rfl, rfl, rfl⟩ rfl info127 rfl (H' := [⟨.pointer (some wa1), [(If 62 (Vl (Vs wa1_0))), (If 62 (Vl (Vs wa1_1)))], 127, none⟩, (Rw Kf 40 (Vs wa1_0) v2.1), (Rw Kf 40 (Vs wa1_1) v2.2)]) rfl) (wt_none' rfl) fun _ => ?_
 refine nk hK18 ?_
 refine cr fun K19 hK19 => ?_
 refine s0 (rd_move' rfl) ?_
 refine s0 (rd_assign' rfl) ?_
 refine nk hK19 ?_
 refine cx_retc' ?_
 replace hp := Option.some.inj hp
 subst hp
 refine tx_pick' (L' := [(4, (Vp wa1))]) (H' := [⟨.pointer (some wa1), [(If 62 (Vl (Vs wa1_0))), (If 62 (Vl (Vs wa1_1)))], 127, none⟩, (Rw Kf 40 (Vs wa1_0) v2.1), (Rw Kf 40 (Vs wa1_1) v2.2)]) [0, 1, 2] (sub_cons rfl sub_nil) (by decide) (pick_cons rfl (pick_cons rfl (pick_cons rfl pick_nil))) ?_
 exact tx_ret1' Try.results123 rfl () (rv_tmp' rfl) (List.Sublist.refl _)

def impl_floats (k : Nat) (a0 : List Nat) : Option ((List Nat)) :=
 (apd 8 [] a0) >>= fun r4 =>
 some r4

theorem impl_floats_sim {k : Nat}  (a0 : List Nat) {out : (List Nat)} (hp : impl_floats k a0 = some out) : Sx.Fn Try.prog 30 [(Sl Kf a0)] [] (fun w : Unit => (Sl Kf out)) (fun w => []) := by
 unfold impl_floats at hp
 refine fn_of Try.func30 rfl Try.ntmps30 rfl fun E hM => ?_
 refine cr fun K1 hK1 => ?_
 refine s0 (rd_assign' rfl) ?_
 refine nk hK1 ?_
 refine cr fun K2 hK2 => ?_
 refine s0 (rd_move' rfl) ?_
 refine tx_nilrow' Kf 40 ?_
 obtain ⟨r4, hr4, hp⟩ := bind_some hp
 refine sx_ox' (ox_append' (K := Kf) (i := 0) (xs := []) (ys := a0) rfl rfl rfl (sr_sl' rfl Try.underlying25) hr4 Try.underlying25 info40 rfl rfl rfl (H' := []) rfl) (wt_none' rfl) fun g4 => ?_
 refine s0 (rd_assign' rfl) ?_
 refine nk hK2 ?_
 refine cx_retc' ?_
 replace hp := Option.some.inj hp
 subst hp
 refine tx_fz' (frz_row 0 [(2, (Vl (Vs g4)), (Sl Kf r4)), (4, (Vl (Vs g4)), (Sl Kf r4))] (K := Kf) (xs := r4) (by decide) rfl ⟨⟨rfl, frz_it⟩, ⟨rfl, frz_it⟩, trivial⟩ (H' := []) frzH_refl) ?_
 refine tx_pick' (L' := [(2, (Sl Kf r4))]) (H' := []) [] (sub_cons rfl sub_nil) (by decide) pick_nil ?_
 exact tx_ret1' Try.results30 rfl () (rv_tmp' rfl) (List.Sublist.refl _)

def impl_knodes_v2_j1 (k : Nat) (a1 : List ((List Nat) × Int × Int × Int × (List Nat) × (List Nat))) (r20 : (List Nat)) (a0_1b : Int) (recf : G66 → (List ((List Nat) × Int × Int × Int × (List Nat) × (List Nat))) → Option ((List ((List Nat) × Int × Int × Int × (List Nat) × (List Nat))) × Int)) (a0_1c : G66) (a0_1d : G66) (x1 : G118) (x2 : List Nat) (x3 : List Nat) : Option ((List ((List Nat) × Int × Int × Int × (List Nat) × (List Nat))) × Int) :=
 (apd 96 a1 ([(r20, a0_1b, 0, 0, x2, x3)])) >>= fun r54 =>
 (recf a0_1c r54) >>= fun r61 =>
 (recf a0_1d r61.1) >>= fun r70 =>
 (idx r70.1 (a1.length : Int)) >>= fun r79 =>
 (idx (r70.1.set (a1.length : Int).toNat (r79.1, r79.2.1, r61.2, r79.2.2.2.1, r79.2.2.2.2.1, r79.2.2.2.2.2)) (a1.length : Int)) >>= fun r81 =>
 some ((r70.1.set (a1.length : Int).toNat (r79.1, r79.2.1, r61.2, r79.2.2.2.1, r79.2.2.2.2.1, r79.2.2.2.2.2)).set (a1.length : Int).toNat (r81.1, r81.2.1, r81.2.2.1, r70.2, r81.2.2.2.2.1, r81.2.2.2.2.2), (a1.length : Int))
def impl_knodes_v2_b (recf : G66 → (List ((List Nat) × Int × Int × Int × (List Nat) × (List Nat))) → Option ((List ((List Nat) × Int × Int × Int × (List Nat) × (List Nat))) × Int)) (k : Nat) (a0 : G66) (a1 : List ((List Nat) × Int × Int × Int × (List Nat) × (List Nat))) : Option ((List ((List Nat) × Int × Int × Int × (List Nat) × (List Nat))) × Int) :=
 match a0 with
  | .c0 =>
   (some (a1, (-1)))
  | .c1 a0_1a a0_1b a0_1c a0_1d a0_1e =>
   (match a0_1a with
    | .c0 a0_1a_0a =>
     ((impl_floats k a0_1a_0a) >>= fun r20 =>
     match a0_1e with
      | .c0 =>
       (impl_knodes_v2_j1 k a1 r20 a0_1b recf a0_1c a0_1d G118.c0 [] [])
      | .c1 a0_1e_1a a0_1e_1b =>
       (match a0_1e_1a with
        | .c0 a0_1e_1a_0a =>
         (match a0_1e_1b with
          | .c0 a0_1e_1b_0a =>
           ((impl_floats k a0_1e_1a_0a) >>= fun r39 =>
           (impl_floats k a0_1e_1b_0a) >>= fun r48 =>
           impl_knodes_v2_j1 k a1 r20 a0_1b recf a0_1c a0_1d (G118.c1 (G116.c0 a0_1e_1a_0a) (G116.c0 a0_1e_1b_0a)) r39 r48)))))
def impl_knodes_v2 : Nat → G66 → (List ((List Nat) × Int × Int × Int × (List Nat) × (List Nat))) → Option ((List ((List Nat) × Int × Int × Int × (List Nat) × (List Nat))) × Int)
 | 0 => fun _ _ => none
 | k + 1 => fun a0 a1 => impl_knodes_v2_b (impl_knodes_v2 k) k a0 a1

theorem impl_knodes_v2_b_sim {recf : G66 → (List ((List Nat) × Int × Int × Int × (List Nat) × (List Nat))) → Option ((List ((List Nat) × Int × Int × Int × (List Nat) × (List Nat))) × Int)} (hrec : ∀ (wa1 : Gs) (a0 : G66) (a1 : List ((List Nat) × Int × Int × Int × (List Nat) × (List Nat))) (out : (List ((List Nat) × Int × Int × Int × (List Nat) × (List Nat))) × Int), recf a0 a1 = some out → Sx.Fn Try.prog 31 [(SG66 a0), (Vl (Vs wa1))] [(Rw KT37 37 (Vs wa1) a1)] (fun w : Gs => (Tu [(Vl (Vs w)), (Vi out.2)])) (fun w => [(Rw KT37 37 (Vs w) out.1)])) {k : Nat} {wa1 : Gs} (a0 : G66) (a1 : List ((List Nat) × Int × Int × Int × (List Nat) × (List Nat))) {out : (List ((List Nat) × Int × Int × Int × (List Nat) × (List Nat))) × Int} (hp : impl_knodes_v2_b recf k a0 a1 = some out) : Sx.Fn Try.prog 31 [(SG66 a0), (Vl (Vs wa1))] [(Rw KT37 37 (Vs wa1) a1)] (fun w : Gs => (Tu [(Vl (Vs w)), (Vi out.2)])) (fun w => [(Rw KT37 37 (Vs w) out.1)]) := by
 unfold impl_knodes_v2_b at hp
 refine fn_of Try.func31 rfl Try.ntmps31 rfl fun E hM => ?_
 refine cr fun K1 hK1 => ?_
 refine s0 (rd_assign' rfl) ?_
 refine s0 (rd_assign' rfl) ?_
 refine nk hK1 ?_
 refine cx_seq' fun K2 hK2 => ?_
 refine cr fun K3 hK3 => ?_
 refine s0 (rd_move' rfl) ?_
 rcases a0 with ⟨⟩ | ⟨a0_1a, a0_1b, a0_1c, a0_1d, a0_1e⟩
 ·dsimp only at hp
  refine tx_slot' 0 (y := (Vl (.pointer none))) rfl (imp_eq (SG66_c0 )) ?_
  refine tx_slot' 10 (y := (Vl (.pointer none))) rfl (imp_eq (SG66_c0 )) ?_
  refine s0 (rd_binf' rfl rfl (bf_vl (fun _ => by kernel_rfl) nil_eql66_nilptr)) ?_
  refine nk hK3 ?_
  refine cx_cond_t' rfl rfl ?_
  refine cr fun K4 hK4 => ?_
  refine s0 (rd_move' rfl) ?_
  refine s0 (rd_assign' rfl) ?_
  refine s0 (rd_assign' rfl) ?_
  refine nk hK4 ?_
  refine cx_retc' ?_
  replace hp := Option.some.inj hp
  subst hp
  refine tx_pick' (L' := [(4, (Vl (Vs wa1))), (5, (Vi (-1)))]) (H' := [(Rw KT37 37 (Vs wa1) a1)]) [0] (sub_cons rfl (sub_cons rfl sub_nil)) (by decide) (pick_cons rfl pick_nil) ?_
  exact tx_ret2' Try.results31 rfl wa1 (rv_tmp' rfl) (rv_tmp' rfl) rfl (List.Sublist.refl _)
 dsimp only at hp
 refine tx_slot' 0 (y := (Pt [(SG116 a0_1a), (Vi a0_1b), (SG66 a0_1c), (SG66 a0_1d), (SG118 a0_1e)])) rfl (imp_eq (SG66_c1 a0_1a a0_1b a0_1c a0_1d a0_1e)) ?_
 refine tx_slot' 10 (y := (Pt [(SG116 a0_1a), (Vi a0_1b), (SG66 a0_1c), (SG66 a0_1d), (SG118 a0_1e)])) rfl (imp_eq (SG66_c1 a0_1a a0_1b a0_1c a0_1d a0_1e)) ?_
 refine s0 (rd_binf' rfl rfl (bf_pt (fun _ _ => by kernel_rfl) nil_eql66_pt)) ?_
 refine nk hK3 ?_
 refine cx_cond_f' rfl rfl ?_
 refine cx_skip' ?_
 show TX E K2 _
 refine tx_k' hK2 ?_
 refine cr fun K5 hK5 => ?_
 refine s0 (rd_move' rfl) ?_
 refine s0 (rd_lenr' (i := 0) rfl rfl rfl Try.underlying26) ?_
 refine s0 (rd_assign' rfl) ?_
 refine nk hK5 ?_
 refine cx_seq' fun K6 hK6 => ?_
 refine cx_plana' [] [(12, 1)] [(0, 1), (1, 1), (2, 1), (3, 1), (4, 1), (6, 1), (7, 1), (8, 1), (9, 1)] 4 #[true, true, true, true, true, false, true, true, true, true, false, false, false] mixed (by kernel_rfl) ?_
 refine px_rd' rfl (rd_move' rfl) rfl rfl (wt_none' rfl) ?_
 refine px_rd' rfl (rd_nilck_pt' rfl) rfl rfl (wt_none' rfl) ?_
 refine px_rd' rfl (rd_field_pt' (off := 0) rfl Try.underlying120 rfl info116 rfl (l' := [(SG116 a0_1a), (Vi a0_1b), (SG66 a0_1c), (SG66 a0_1d), (SG118 a0_1e)]) rfl) rfl rfl (wt_none' rfl) ?_
 refine px_rd' rfl (rd_load_pt' rfl rfl flat116) rfl rfl (wt_none' rfl) ?_
 rcases a0_1a with ⟨a0_1a_0a⟩
 ·dsimp only at hp
  refine tx_slot' 18 (y := (If 62 (Sl Kf a0_1a_0a))) rfl (imp_eq (SG116_c0 a0_1a_0a)) ?_
  refine px_rd' rfl (rd_assert' rfl (F := fun v => v) as62_116_62 as_id) rfl rfl (wt_none' rfl) ?_
  refine px_rd' rfl (rd_move' rfl) rfl rfl (wt_none' rfl) ?_
  refine px_rd' rfl (rd_nilck_pt' rfl) rfl rfl (wt_none' rfl) ?_
  refine px_rd' rfl (rd_field_pt' (off := 1) rfl Try.underlying120 rfl info117 rfl (l' := [(Vi a0_1b), (SG66 a0_1c), (SG66 a0_1d), (SG118 a0_1e)]) rfl) rfl rfl (wt_none' rfl) ?_
  refine px_rd' rfl (rd_load_pt' rfl rfl flat117) rfl rfl (wt_none' rfl) ?_
  refine px_nil' ?_
  show AX E _ _ _ _ _ _ _ _
  obtain ⟨r20, hr20, hp⟩ := bind_some hp
  refine ax_node (f' := 0) #[true, true, true, true, true, true, true, true, true, true, true, true, true] (fun (v6 : Addr) => (⟨85, [], [(7, (Vp v6)), (0, (Pt [(SG116 (G116.c0 a0_1a_0a)), (Vi a0_1b), (SG66 a0_1c), (SG66 a0_1d), (SG118 a0_1e)])), (1, (Vl (Vs wa1))), (6, (Vi (a1.length : Int)))], [⟨.pointer (some v6), [(Sl Kf r20), (Vi a0_1b), (Vi 0), (Vi 0), Vn, Vn], 37, none⟩, (Rw KT37 37 (Vs wa1) a1)]⟩ : St)) ?_ ?_
  ·rintro q904
   refine ax_nil (by kernel_rfl) ?_
   show TX E K6 _
   refine tx_k' hK6 ?_
   refine cx_join' (fun (v7 : G118 × (List Nat) × (List Nat)) => (⟨85, [], [(0, (Pt [(SG116 (G116.c0 a0_1a_0a)), (Vi a0_1b), (SG66 a0_1c), (SG66 a0_1d), (SG118 v7.1)])), (1, (Vl (Vs wa1))), (6, (Vi (a1.length : Int))), (7, (Vp q904))], [(Rw KT37 37 (Vs wa1) a1), ⟨.pointer (some q904), [(Sl Kf r20), (Vi a0_1b), (Vi 0), (Vi 0), (Sl Kf v7.2.1), (Sl Kf v7.2.2)], 37, none⟩]⟩ : St)) (fun (v7 : G118 × (List Nat) × (List Nat)) => impl_knodes_v2_j1 k a1 r20 a0_1b recf a0_1c a0_1d v7.1 v7.2.1 v7.2.2 = some out) ?_ ?_
   ·rintro ⟨x1, x2, x3⟩ hp
    replace hp : impl_knodes_v2_j1 k a1 r20 a0_1b recf a0_1c a0_1d x1 x2 x3 = some out := hp
    unfold impl_knodes_v2_j1 at hp
    refine cr fun K9 hK9 => ?_
    refine s0 (rd_move' rfl) ?_
    refine s0 (rd_load_agg' (i := 1) (o := 0) (nn := 6) rfl ⟨rfl, rfl, rfl, rfl⟩ rfl agg37 (l' := [(Sl Kf r20), (Vi a0_1b), (Vi 0), (Vi 0), (Sl Kf x2), (Sl Kf x3)]) rfl) ?_
    refine sx_ox' (ox_rowlit' (K := KT37) (xs := [(r20, a0_1b, 0, 0, x2, x3)]) (qs := [(0, [(Sl Kf r20), (Vi a0_1b), (Vi 0), (Vi 0), (Sl Kf x2), (Sl Kf x3)])]) ⟨rfl, ⟨_, rfl, (lv_ag _)⟩, trivial⟩ Try.underlying26 info37 rfl rfl rfl rfl rfl (by kernel_rfl) rfl rfl rfl) (wt_none' rfl) fun g53 => ?_
    obtain ⟨r54, hr54, hp⟩ := bind_some hp
    refine sx_ox' (ox_append' (K := KT37) (i := 1) (xs := a1) (ys := ([(r20, a0_1b, 0, 0, x2, x3)])) rfl rfl rfl (sr_row' (j := 0) rfl rfl rfl Try.underlying26) hr54 Try.underlying26 info37 rfl rfl rfl (H' := [(Rw KT37 37 (Vs g53) ([(r20, a0_1b, 0, 0, x2, x3)])), ⟨.pointer (some q904), [(Sl Kf r20), (Vi a0_1b), (Vi 0), (Vi 0), (Sl Kf x2), (Sl Kf x3)], 37, none⟩]) rfl) (wt_none' rfl) fun g54 => ?_
    refine s0 (rd_assign' rfl) ?_
    refine nk hK9 ?_
    refine cr fun K10 hK10 => ?_
    refine s0 (rd_assign' rfl) ?_
    refine s0 (rd_assign' rfl) ?_
    refine nk hK10 ?_
    refine cr fun K11 hK11 => ?_
    refine s0 (rd_move' rfl) ?_
    refine s0 (rd_nilck_pt' rfl) ?_
    refine s0 (rd_field_pt' (off := 2) rfl Try.underlying120 rfl info66 rfl (l' := [(SG66 a0_1c), (SG66 a0_1d), (SG118 x1)]) rfl) ?_
    refine s0 (rd_load_pt' rfl rfl flat66) ?_
    refine s0 (rd_move' rfl) ?_
    obtain ⟨r61, hr61, hp⟩ := bind_some hp
    refine sx_ox' (ox_callg' (ent_fn' Try.func31 isn31 rfl rfl) (hrec _ _ _ _ hr61 : Sx.Fn Try.prog 31 [(SG66 a0_1c), (Vl (Vs g54))] [(Rw KT37 37 (Vs g54) r54)] (fun x : Gs => (Tu [(Vl (Vs x)), (Vi r61.2)])) (fun x => [(Rw KT37 37 (Vs x) r61.1)])) [0] [1, 2] (by decide) (pick_cons rfl pick_nil) (pick_cons rfl (pick_cons rfl pick_nil)) (Hn := fun x : Gs => [(Rw KT37 37 (Vs x) r61.1), (Rw KT37 37 (Vs g53) ([(r20, a0_1b, 0, 0, x2, x3)])), ⟨.pointer (some q904), [(Sl Kf r20), (Vi a0_1b), (Vi 0), (Vi 0), (Sl Kf x2), (Sl Kf x3)], 37, none⟩]) (fun _ => rfl) rfl rfl) (wt_none' rfl) fun g61 => ?_
    refine s0 (rd_move' rfl) ?_
    refine s0 (rd_extract' rfl rfl) ?_
    refine s0 (rd_extract' rfl rfl) ?_
    refine s0 (rd_assign' rfl) ?_
    refine s0 (rd_assign' rfl) ?_
    refine nk hK11 ?_
    refine cr fun K12 hK12 => ?_
    refine s0 (rd_move' rfl) ?_
    refine s0 (rd_nilck_pt' rfl) ?_
    refine s0 (rd_field_pt' (off := 3) rfl Try.underlying120 rfl info66 rfl (l' := [(SG66 a0_1d), (SG118 x1)]) rfl) ?_
    refine s0 (rd_load_pt' rfl rfl flat66) ?_
    refine s0 (rd_move' rfl) ?_
    obtain ⟨r70, hr70, hp⟩ := bind_some hp
    refine sx_ox' (ox_callg' (ent_fn' Try.func31 isn31 rfl rfl) (hrec _ _ _ _ hr70 : Sx.Fn Try.prog 31 [(SG66 a0_1d), (Vl (Vs g61))] [(Rw KT37 37 (Vs g61) r61.1)] (fun x : Gs => (Tu [(Vl (Vs x)), (Vi r70.2)])) (fun x => [(Rw KT37 37 (Vs x) r70.1)])) [0] [1, 2] (by decide) (pick_cons rfl pick_nil) (pick_cons rfl (pick_cons rfl pick_nil)) (Hn := fun x : Gs => [(Rw KT37 37 (Vs x) r70.1), (Rw KT37 37 (Vs g53) ([(r20, a0_1b, 0, 0, x2, x3)])), ⟨.pointer (some q904), [(Sl Kf r20), (Vi a0_1b), (Vi 0), (Vi 0), (Sl Kf x2), (Sl Kf x3)], 37, none⟩]) (fun _ => rfl) rfl rfl) (wt_none' rfl) fun g70 => ?_
    refine s0 (rd_move' rfl) ?_
    refine s0 (rd_extract' rfl rfl) ?_
    refine s0 (rd_extract' rfl rfl) ?_
    refine s0 (rd_assign' rfl) ?_
    refine s0 (rd_assign' rfl) ?_
    refine nk hK12 ?_
    refine cr fun K13 hK13 => ?_
    refine s0 (rd_move' rfl) ?_
    refine s0 (rd_move' rfl) ?_
    refine s0 (rd_move' rfl) ?_
    refine s0 (rd_move' rfl) ?_
    refine s0 (rd_move' rfl) ?_
    refine s0 (rd_move' rfl) ?_
    obtain ⟨r79, hr79, hp⟩ := bind_some hp
    refine s0 (rd_atr' (m := 0) rfl rfl rfl rfl hr79 Try.underlying26 info37) ?_
    refine s0 (rd_fieldr' (off := 2) rfl Try.underlying37 rfl info3 rfl) ?_
    refine sx_ox' (ox_storer' (m := 0) (i := (a1.length : Int)) (j := 2) (x' := (r79.1, r79.2.1, r61.2, r79.2.2.2.1, r79.2.2.2.2.1, r79.2.2.2.2.2)) rfl rfl (lv_vl rfl rfl) rfl rfl hr79 rfl rfl rfl info3 rfl (H' := [(Rw KT37 37 (Vs g70) (r70.1.set (a1.length : Int).toNat (r79.1, r79.2.1, r61.2, r79.2.2.2.1, r79.2.2.2.2.1, r79.2.2.2.2.2))), (Rw KT37 37 (Vs g53) ([(r20, a0_1b, 0, 0, x2, x3)])), ⟨.pointer (some q904), [(Sl Kf r20), (Vi a0_1b), (Vi 0), (Vi 0), (Sl Kf x2), (Sl Kf x3)], 37, none⟩]) rfl) (wt_none' rfl) fun _ => ?_
    obtain ⟨r81, hr81, hp⟩ := bind_some hp
    refine s0 (rd_atr' (m := 0) rfl rfl rfl rfl hr81 Try.underlying26 info37) ?_
    refine s0 (rd_fieldr' (off := 3) rfl Try.underlying37 rfl info3 rfl) ?_
    refine sx_ox' (ox_storer' (m := 0) (i := (a1.length : Int)) (j := 3) (x' := (r81.1, r81.2.1, r81.2.2.1, r70.2, r81.2.2.2.2.1, r81.2.2.2.2.2)) rfl rfl (lv_vl rfl rfl) rfl rfl hr81 rfl rfl rfl info3 rfl (H' := [(Rw KT37 37 (Vs g70) ((r70.1.set (a1.length : Int).toNat (r79.1, r79.2.1, r61.2, r79.2.2.2.1, r79.2.2.2.2.1, r79.2.2.2.2.2)).set (a1.length : Int).toNat (r81.1, r81.2.1, r81.2.2.1, r70.2, r81.2.2.2.2.1, r81.2.2.2.2.2))), (Rw KT37 37 (Vs g53) ([(r20, a0_1b, 0, 0, x2, x3)])), ⟨.pointer (some q904), [(Sl Kf r20), (Vi a0_1b), (Vi 0), (Vi 0), (Sl Kf x2), (Sl Kf x3)], 37, none⟩]) rfl) (wt_none' rfl) fun _ => ?_
    refine nk hK13 ?_
    refine cr fun K14 hK14 => ?_
    refine s0 (rd_move' rfl) ?_
    refine s0 (rd_move' rfl) ?_
    refine s0 (rd_assign' rfl) ?_
    refine s0 (rd_assign' rfl) ?_
    refine nk hK14 ?_
    refine cx_retc' ?_
    replace hp := Option.some.inj hp
    subst hp
    refine tx_pick' (L' := [(4, (Vl (Vs g70))), (5, (Vi (a1.length : Int)))]) (H' := [(Rw KT37 37 (Vs g70) ((r70.1.set (a1.length : Int).toNat (r79.1, r79.2.1, r61.2, r79.2.2.2.1, r79.2.2.2.2.1, r79.2.2.2.2.2)).set (a1.length : Int).toNat (r81.1, r81.2.1, r81.2.2.1, r70.2, r81.2.2.2.2.1, r81.2.2.2.2.2)))]) [0] (sub_cons rfl (sub_cons rfl sub_nil)) (by decide) (pick_cons rfl pick_nil) ?_
    exact tx_ret2' Try.results31 rfl g70 (rv_tmp' rfl) (rv_tmp' rfl) rfl (List.Sublist.refl _)
   intro K7 hK7
   refine cr fun K8 hK8 => ?_
   refine s0 (rd_move' rfl) ?_
   refine s0 (rd_nilck_pt' rfl) ?_
   refine s0 (rd_field_pt' (off := 4) rfl Try.underlying120 rfl info118 rfl (l' := [(SG118 a0_1e)]) rfl) ?_
   refine s0 (rd_load_pt' rfl rfl flat118) ?_
   rcases a0_1e with ⟨⟩ | ⟨a0_1e_1a, a0_1e_1b⟩
   ·dsimp only at hp
    refine tx_slot' 29 (y := (Vl (.pointer none))) rfl (imp_eq (SG118_c0 )) ?_
    refine s0 (rd_binf' rfl rfl (bf_vl (fun _ => by kernel_rfl) nil_neq118_nilptr)) ?_
    refine nk hK8 ?_
    refine cx_cond_f' rfl rfl ?_
    refine cx_skip' ?_
    show TX E K7 _
    refine tx_cell' 0 4 (y := (Sl Kf [])) rfl rfl imp_nil (H' := [⟨.pointer (some q904), [(Sl Kf r20), (Vi a0_1b), (Vi 0), (Vi 0), (Sl Kf []), Vn], 37, none⟩, (Rw KT37 37 (Vs wa1) a1)]) rfl ?_
    refine tx_cell' 0 5 (y := (Sl Kf [])) rfl rfl imp_nil (H' := [⟨.pointer (some q904), [(Sl Kf r20), (Vi a0_1b), (Vi 0), (Vi 0), (Sl Kf []), (Sl Kf [])], 37, none⟩, (Rw KT37 37 (Vs wa1) a1)]) rfl ?_
    exact tx_pick' [1, 0] (sub_cons rfl (sub_cons rfl (sub_cons rfl (sub_cons rfl sub_nil)))) (by decide) (pick_cons rfl (pick_cons rfl pick_nil)) (hK7 (G118.c0, [], []) hp)
   dsimp only at hp
   refine tx_slot' 29 (y := (Pt [(SG116 a0_1e_1a), (SG116 a0_1e_1b)])) rfl (imp_eq (SG118_c1 a0_1e_1a a0_1e_1b)) ?_
   refine s0 (rd_binf' rfl rfl (bf_pt (fun _ _ => by kernel_rfl) nil_neq118_pt)) ?_
   refine nk hK8 ?_
   refine cx_cond_t' rfl rfl ?_
   refine cx_plan' [] [(19, 1), (21, 1)] [(0, 1), (1, 1), (2, 1), (3, 1), (4, 1), (5, 1), (6, 1), (7, 1), (9, 1), (10, 1), (11, 1), (12, 1), (13, 1), (14, 1), (15, 1), (16, 1), (8, 0), (18, 1), (17, 0), (19, 0), (20, 1), (21, 0)] mixed (by kernel_rfl) ?_
   refine px_rd' rfl (rd_move' rfl) rfl rfl (wt_none' rfl) ?_
   refine px_rd' rfl (rd_nilck_pt' rfl) rfl rfl (wt_none' rfl) ?_
   refine px_rd' rfl (rd_field_pt' (off := 4) rfl Try.underlying120 rfl info118 rfl (l' := [(SG118 (G118.c1 a0_1e_1a a0_1e_1b))]) rfl) rfl rfl (wt_none' rfl) ?_
   refine px_rd' rfl (rd_load_pt' rfl rfl flat118) rfl rfl (wt_none' rfl) ?_
   refine tx_slot' 34 (y := (Pt [(SG116 a0_1e_1a), (SG116 a0_1e_1b)])) rfl (imp_eq (SG118_c1 a0_1e_1a a0_1e_1b)) ?_
   refine px_rd' rfl (rd_nilck_pt' rfl) rfl rfl (wt_none' rfl) ?_
   refine px_rd' rfl (rd_field_pt' (off := 0) rfl Try.underlying127 rfl info116 rfl (l' := [(SG116 a0_1e_1a), (SG116 a0_1e_1b)]) rfl) rfl rfl (wt_none' rfl) ?_
   refine px_rd' rfl (rd_load_pt' rfl rfl flat116) rfl rfl (wt_none' rfl) ?_
   rcases a0_1e_1a with ⟨a0_1e_1a_0a⟩
   ·dsimp only at hp
    refine tx_slot' 37 (y := (If 62 (Sl Kf a0_1e_1a_0a))) rfl (imp_eq (SG116_c0 a0_1e_1a_0a)) ?_
    refine px_rd' rfl (rd_assert' rfl (F := fun v => v) as62_116_62 as_id) rfl rfl (wt_none' rfl) ?_
    refine px_rd' rfl (rd_move' rfl) rfl rfl (wt_none' rfl) ?_
    refine px_rd' rfl (rd_nilck_pt' rfl) rfl rfl (wt_none' rfl) ?_
    refine px_rd' rfl (rd_field_pt' (off := 4) rfl Try.underlying120 rfl info118 rfl (l' := [(SG118 (G118.c1 (G116.c0 a0_1e_1a_0a) a0_1e_1b))]) rfl) rfl rfl (wt_none' rfl) ?_
    refine px_rd' rfl (rd_load_pt' rfl rfl flat118) rfl rfl (wt_none' rfl) ?_
    refine tx_slot' 43 (y := (Pt [(SG116 (G116.c0 a0_1e_1a_0a)), (SG116 a0_1e_1b)])) rfl (imp_eq (SG118_c1 (G116.c0 a0_1e_1a_0a) a0_1e_1b)) ?_
    refine px_rd' rfl (rd_nilck_pt' rfl) rfl rfl (wt_none' rfl) ?_
    refine px_rd' rfl (rd_field_pt' (off := 1) rfl Try.underlying127 rfl info116 rfl (l' := [(SG116 a0_1e_1b)]) rfl) rfl rfl (wt_none' rfl) ?_
    refine px_rd' rfl (rd_load_pt' rfl rfl flat116) rfl rfl (wt_none' rfl) ?_
    rcases a0_1e_1b with ⟨a0_1e_1b_0a⟩
    ·dsimp only at hp
     refine tx_slot' 46 (y := (If 62 (Sl Kf a0_1e_1b_0a))) rfl (imp_eq (SG116_c0 a0_1e_1b_0a)) ?_
     refine px_rd' rfl (rd_assert' rfl (F := fun v => v) as62_116_62 as_id) rfl rfl (wt_none' rfl) ?_
     obtain ⟨r39, hr39, hp⟩ := bind_some hp
     refine px_ox' rfl (ox_calln' (ent_fn' Try.func30 isn30 rfl rfl) (impl_floats_sim _ hr39 : Sx.Fn Try.prog 30 [(Sl Kf a0_1e_1a_0a)] [] (fun x : Unit => (Sl Kf r39)) (fun x => [])) (Hn := fun x : Unit => [⟨.pointer (some q904), [(Sl Kf r20), (Vi a0_1b), (Vi 0), (Vi 0), Vn, Vn], 37, none⟩, (Rw KT37 37 (Vs wa1) a1)]) (fun _ => rfl) rfl rfl) rfl bs_nil (wt_none' rfl) fun ⟨⟩ => ?_
     refine px_rd' rfl (rd_field' (off := 4) rfl Try.underlying37 rfl info25 rfl) rfl rfl (wt_none' rfl) ?_
     obtain ⟨r48, hr48, hp⟩ := bind_some hp
     refine px_ox' rfl (ox_calln' (ent_fn' Try.func30 isn30 rfl rfl) (impl_floats_sim _ hr48 : Sx.Fn Try.prog 30 [(Sl Kf a0_1e_1b_0a)] [] (fun x : Unit => (Sl Kf r48)) (fun x => [])) (Hn := fun x : Unit => [⟨.pointer (some q904), [(Sl Kf r20), (Vi a0_1b), (Vi 0), (Vi 0), Vn, Vn], 37, none⟩, (Rw KT37 37 (Vs wa1) a1)]) (fun _ => rfl) rfl rfl) rfl bs_nil (wt_none' rfl) fun ⟨⟩ => ?_
     refine px_oxv' rfl (oxv_store (i := 0) (o := 4) rfl rfl (lv_sl _ _) ⟨rfl, rfl, rfl, rfl⟩ rfl info25 rfl (H' := [⟨.pointer (some q904), [(Sl Kf r20), (Vi a0_1b), (Vi 0), (Vi 0), (Sl Kf r39), Vn], 37, none⟩, (Rw KT37 37 (Vs wa1) a1)]) rfl) rfl rfl bo_nil (wt_none' rfl) fun _ => ?_
     refine px_rd' rfl (rd_field' (off := 5) rfl Try.underlying37 rfl info25 rfl) rfl rfl (wt_none' rfl) ?_
     refine px_oxv' rfl (oxv_store (i := 0) (o := 5) rfl rfl (lv_sl _ _) ⟨rfl, rfl, rfl, rfl⟩ rfl info25 rfl (H' := [⟨.pointer (some q904), [(Sl Kf r20), (Vi a0_1b), (Vi 0), (Vi 0), (Sl Kf r39), (Sl Kf r48)], 37, none⟩, (Rw KT37 37 (Vs wa1) a1)]) rfl) rfl rfl bo_nil (wt_none' rfl) fun _ => ?_
     refine px_nil' ?_
     show TX E K7 _
     exact tx_pick' [1, 0] (sub_cons rfl (sub_cons rfl (sub_cons rfl (sub_cons rfl sub_nil)))) (by decide) (pick_cons rfl (pick_cons rfl pick_nil)) (hK7 ((G118.c1 (G116.c0 a0_1e_1a_0a) (G116.c0 a0_1e_1b_0a)), r39, r48) hp)
  intro hN7
  refine ax_node (f' := 1) #[true, true, true, true, true, true, true, true, true, true, true, true, false] (fun (v5 : Addr) => (⟨85, [], [(7, (Vp v5)), (25, (Ag [(Sl Kf r20), (Vi a0_1b), (Vi 0), (Vi 0), Vn, Vn])), (0, (Pt [(SG116 (G116.c0 a0_1a_0a)), (Vi a0_1b), (SG66 a0_1c), (SG66 a0_1d), (SG118 a0_1e)])), (1, (Vl (Vs wa1))), (6, (Vi (a1.length : Int)))], [⟨.pointer (some v5), [Vn, (Vi 0), (Vi 0), (Vi 0), Vn, Vn], 37, none⟩, (Rw KT37 37 (Vs wa1) a1)]⟩ : St)) ?_ ?_
  ·rintro q903
   refine ax_all (i := 12) (is := []) (by kernel_rfl) (all_cons ?_ all_nil)
   ·refine nx_oxv (last := #[true, true, true, true, true, true, true, true, true, true, true, true, true]) rfl (oxv_store (i := 0) (o := 0) rfl rfl (lv_ag _) ⟨rfl, rfl, rfl, rfl⟩ rfl info37 rfl (H' := [⟨.pointer (some q903), [(Sl Kf r20), (Vi a0_1b), (Vi 0), (Vi 0), Vn, Vn], 37, none⟩, (Rw KT37 37 (Vs wa1) a1)]) rfl) rfl rfl bo_nil (wt_none' rfl) rfl fun _ => ?_
    exact tx_pick' [0, 1] (sub_cons rfl (sub_cons rfl (sub_cons rfl (sub_cons rfl sub_nil)))) (by decide) (pick_cons rfl (pick_cons rfl pick_nil)) (hN7 q903)
  intro hN6
  refine ax_node (f' := 2) #[true, true, true, true, true, true, true, true, true, true, true, false, false] (fun (v3 : Unit) => (⟨85, [], [(25, (Ag [(Sl Kf r20), (Vi a0_1b), (Vi 0), (Vi 0), Vn, Vn])), (0, (Pt [(SG116 (G116.c0 a0_1a_0a)), (Vi a0_1b), (SG66 a0_1c), (SG66 a0_1d), (SG118 a0_1e)])), (1, (Vl (Vs wa1))), (6, (Vi (a1.length : Int)))], [(Rw KT37 37 (Vs wa1) a1)]⟩ : St)) ?_ ?_
  ·rintro ⟨⟩
   refine ax_all (i := 11) (is := []) (by kernel_rfl) (all_cons ?_ all_nil)
   ·refine nx_ox (last := #[true, true, true, true, true, true, true, true, true, true, true, true, false]) rfl (ox_alloc' info37 rfl rfl rfl rfl (l := [Vn, (Vi 0), (Vi 0), (Vi 0), Vn, Vn]) rfl) rfl bs_nil (wt_none' rfl) rfl fun q7 => ?_
    exact tx_pick' [0, 1] (sub_cons rfl (sub_cons rfl (sub_cons rfl (sub_cons rfl (sub_cons rfl sub_nil))))) (by decide) (pick_cons rfl (pick_cons rfl pick_nil)) (hN6 q7)
  intro hN4
  refine ax_node (f' := 2) #[true, true, true, true, true, true, true, true, true, true, false, true, false] (fun (v4 : Addr) => (⟨85, [], [(7, (Vp v4)), (20, (Sl Kf r20)), (24, (Vi a0_1b)), (0, (Pt [(SG116 (G116.c0 a0_1a_0a)), (Vi a0_1b), (SG66 a0_1c), (SG66 a0_1d), (SG118 a0_1e)])), (1, (Vl (Vs wa1))), (6, (Vi (a1.length : Int)))], [⟨.pointer (some v4), [Vn, (Vi 0), (Vi 0), (Vi 0), Vn, Vn], 37, none⟩, (Rw KT37 37 (Vs wa1) a1)]⟩ : St)) ?_ ?_
  ·rintro q902
   refine ax_rd (ix := 10) (last := #[true, true, true, true, true, true, true, true, true, true, true, true, false]) (by kernel_rfl) rfl (rd_build' (pls := [(0, 1), (1, 1), (2, 1), (3, 1), (4, 1), (5, 1)]) (qs := [(0, [(Sl Kf r20)]), (1, [(Vi a0_1b)])]) (r := [(Sl Kf r20), (Vi a0_1b), (Vi 0), (Vi 0), Vn, Vn]) ⟨rfl, ⟨_, rfl, (lv_sl _ _)⟩, ⟨rfl, ⟨_, rfl, (lv_vl rfl rfl)⟩, trivial⟩⟩ Try.underlying37 has37 places37 info37 rfl rfl rfl) rfl rfl (wt_none' rfl) rfl ?_
   exact tx_pick' [0, 1] (sub_cons rfl (sub_cons rfl (sub_cons rfl (sub_cons rfl (sub_cons rfl sub_nil))))) (by decide) (pick_cons rfl (pick_cons rfl pick_nil)) (hN6 q902)
  intro hN5
  refine ax_node (f' := 3) #[true, true, true, true, true, true, true, true, true, true, false, false, false] (fun (v1 : Unit) => (⟨85, [], [(20, (Sl Kf r20)), (24, (Vi a0_1b)), (0, (Pt [(SG116 (G116.c0 a0_1a_0a)), (Vi a0_1b), (SG66 a0_1c), (SG66 a0_1d), (SG118 a0_1e)])), (1, (Vl (Vs wa1))), (6, (Vi (a1.length : Int)))], [(Rw KT37 37 (Vs wa1) a1)]⟩ : St)) ?_ ?_
  ·rintro ⟨⟩
   refine ax_rd (ix := 10) (last := #[true, true, true, true, true, true, true, true, true, true, true, false, false]) (by kernel_rfl) rfl (rd_build' (pls := [(0, 1), (1, 1), (2, 1), (3, 1), (4, 1), (5, 1)]) (qs := [(0, [(Sl Kf r20)]), (1, [(Vi a0_1b)])]) (r := [(Sl Kf r20), (Vi a0_1b), (Vi 0), (Vi 0), Vn, Vn]) ⟨rfl, ⟨_, rfl, (lv_sl _ _)⟩, ⟨rfl, ⟨_, rfl, (lv_vl rfl rfl)⟩, trivial⟩⟩ Try.underlying37 has37 places37 info37 rfl rfl rfl) rfl rfl (wt_none' rfl) rfl ?_
   exact tx_pick' [0] (sub_cons rfl (sub_cons rfl (sub_cons rfl (sub_cons rfl sub_nil)))) (by decide) (pick_cons rfl pick_nil) (hN4 ())
  intro hN2
  refine ax_node (f' := 3) #[true, true, true, true, true, false, true, true, true, true, false, true, false] (fun (v2 : Addr) => (⟨85, [], [(7, (Vp v2)), (19, (Sl Kf a0_1a_0a)), (24, (Vi a0_1b)), (0, (Pt [(SG116 (G116.c0 a0_1a_0a)), (Vi a0_1b), (SG66 a0_1c), (SG66 a0_1d), (SG118 a0_1e)])), (1, (Vl (Vs wa1))), (6, (Vi (a1.length : Int)))], [⟨.pointer (some v2), [Vn, (Vi 0), (Vi 0), (Vi 0), Vn, Vn], 37, none⟩, (Rw KT37 37 (Vs wa1) a1)]⟩ : St)) ?_ ?_
  ·rintro q901
   refine ax_all (i := 5) (is := []) (by kernel_rfl) (all_cons ?_ all_nil)
   ·refine nx_ox (last := #[true, true, true, true, true, true, true, true, true, true, false, true, false]) rfl (ox_calln' (ent_fn' Try.func30 isn30 rfl rfl) (impl_floats_sim _ hr20 : Sx.Fn Try.prog 30 [(Sl Kf a0_1a_0a)] [] (fun x : Unit => (Sl Kf r20)) (fun x => [])) (Hn := fun x : Unit => [⟨.pointer (some q901), [Vn, (Vi 0), (Vi 0), (Vi 0), Vn, Vn], 37, none⟩, (Rw KT37 37 (Vs wa1) a1)]) (fun _ => rfl) rfl rfl) rfl bs_nil (wt_none' rfl) rfl fun ⟨⟩ => ?_
    exact tx_pick' [0, 1] (sub_cons rfl (sub_cons rfl (sub_cons rfl (sub_cons rfl (sub_cons rfl (sub_cons rfl sub_nil)))))) (by decide) (pick_cons rfl (pick_cons rfl pick_nil)) (hN5 q901)
  intro hN3
  refine ax_all (i := 5) (is := [11]) (by kernel_rfl) (all_cons ?_ (all_cons ?_ all_nil))
  ·refine nx_ox (last := #[true, true, true, true, true, true, true, true, true, true, false, false, false]) rfl (ox_calln' (ent_fn' Try.func30 isn30 rfl rfl) (impl_floats_sim _ hr20 : Sx.Fn Try.prog 30 [(Sl Kf a0_1a_0a)] [] (fun x : Unit => (Sl Kf r20)) (fun x => [])) (Hn := fun x : Unit => [(Rw KT37 37 (Vs wa1) a1)]) (fun _ => rfl) rfl rfl) rfl bs_nil (wt_none' rfl) rfl fun ⟨⟩ => ?_
   exact tx_pick' [0] (sub_cons rfl (sub_cons rfl (sub_cons rfl (sub_cons rfl (sub_cons rfl sub_nil))))) (by decide) (pick_cons rfl pick_nil) (hN2 ())
  refine nx_ox (last := #[true, true, true, true, true, false, true, true, true, true, false, true, false]) rfl (ox_alloc' info37 rfl rfl rfl rfl (l := [Vn, (Vi 0), (Vi 0), (Vi 0), Vn, Vn]) rfl) rfl bs_nil (wt_none' rfl) rfl fun q7 => ?_
  exact tx_pick' [0, 1] (sub_cons rfl (sub_cons rfl (sub_cons rfl (sub_cons rfl (sub_cons rfl (sub_cons rfl sub_nil)))))) (by decide) (pick_cons rfl (pick_cons rfl pick_nil)) (hN3 q7)
theorem impl_knodes_v2_simA : ∀ (k : Nat) (wa1 : Gs) (a0 : G66) (a1 : List ((List Nat) × Int × Int × Int × (List Nat) × (List Nat))) (out : (List ((List Nat) × Int × Int × Int × (List Nat) × (List Nat))) × Int), impl_knodes_v2 k a0 a1 = some out → Sx.Fn Try.prog 31 [(SG66 a0), (Vl (Vs wa1))] [(Rw KT37 37 (Vs wa1) a1)] (fun w : Gs => (Tu [(Vl (Vs w)), (Vi out.2)])) (fun w => [(Rw KT37 37 (Vs w) out.1)]) := by
 intro k
 induction k with
 | zero => intro wa1 a0 a1 out hp; cases hp
 | succ k ih => intro wa1 a0 a1 out hp; exact impl_knodes_v2_b_sim ih a0 a1 hp
theorem impl_knodes_v2_sim {k : Nat} {wa1 : Gs} (a0 : G66) (a1 : List ((List Nat) × Int × Int × Int × (List Nat) × (List Nat))) {out : (List ((List Nat) × Int × Int × Int × (List Nat) × (List Nat))) × Int} (hp : impl_knodes_v2 k a0 a1 = some out) : Sx.Fn Try.prog 31 [(SG66 a0), (Vl (Vs wa1))] [(Rw KT37 37 (Vs wa1) a1)] (fun w : Gs => (Tu [(Vl (Vs w)), (Vi out.2)])) (fun w => [(Rw KT37 37 (Vs w) out.1)]) := impl_knodes_v2_simA k wa1 a0 a1 out hp

def impl_knodes_j1 (k : Nat) (r20 : (List Nat)) (a0_1b : Int) (a0_1c : G66) (a0_1d : G66) (x1 : G118) (x2 : List Nat) (x3 : List Nat) : Option ((List ((List Nat) × Int × Int × Int × (List Nat) × (List Nat))) × Int) :=
 (apd 96 [] ([(r20, a0_1b, 0, 0, x2, x3)])) >>= fun r54 =>
 (impl_knodes_v2 k a0_1c r54) >>= fun r61 =>
 (impl_knodes_v2 k a0_1d r61.1) >>= fun r70 =>
 (idx r70.1 ((0 : Nat) : Int)) >>= fun r79 =>
 (idx (r70.1.set ((0 : Nat) : Int).toNat (r79.1, r79.2.1, r61.2, r79.2.2.2.1, r79.2.2.2.2.1, r79.2.2.2.2.2)) ((0 : Nat) : Int)) >>= fun r81 =>
 some ((r70.1.set ((0 : Nat) : Int).toNat (r79.1, r79.2.1, r61.2, r79.2.2.2.1, r79.2.2.2.2.1, r79.2.2.2.2.2)).set ((0 : Nat) : Int).toNat (r81.1, r81.2.1, r81.2.2.1, r70.2, r81.2.2.2.2.1, r81.2.2.2.2.2), ((0 : Nat) : Int))
def impl_knodes (k : Nat) (a0 : G66) : Option ((List ((List Nat) × Int × Int × Int × (List Nat) × (List Nat))) × Int) :=
 match a0 with
  | .c0 =>
   (some ([], (-1)))
  | .c1 a0_1a a0_1b a0_1c a0_1d a0_1e =>
   (match a0_1a with
    | .c0 a0_1a_0a =>
     ((impl_floats k a0_1a_0a) >>= fun r20 =>
     match a0_1e with
      | .c0 =>
       (impl_knodes_j1 k r20 a0_1b a0_1c a0_1d G118.c0 [] [])
      | .c1 a0_1e_1a a0_1e_1b =>
       (match a0_1e_1a with
        | .c0 a0_1e_1a_0a =>
         (match a0_1e_1b with
          | .c0 a0_1e_1b_0a =>
           ((impl_floats k a0_1e_1a_0a) >>= fun r39 =>
           (impl_floats k a0_1e_1b_0a) >>= fun r48 =>
           impl_knodes_j1 k r20 a0_1b a0_1c a0_1d (G118.c1 (G116.c0 a0_1e_1a_0a) (G116.c0 a0_1e_1b_0a)) r39 r48)))))

theorem impl_knodes_sim {k : Nat}  (a0 : G66) {out : (List ((List Nat) × Int × Int × Int × (List Nat) × (List Nat))) × Int} (hp : impl_knodes k a0 = some out) : Sx.Fn Try.prog 31 [(SG66 a0), Vn] [] (fun w : Gs => (Tu [(Vl (Vs w)), (Vi out.2)])) (fun w => [(Rw KT37 37 (Vs w) out.1)]) := by
 unfold impl_knodes at hp
 refine fn_of Try.func31 rfl Try.ntmps31 rfl fun E hM => ?_
 refine cr fun K1 hK1 => ?_
 refine s0 (rd_assign' rfl) ?_
 refine s0 (rd_assign' rfl) ?_
 refine nk hK1 ?_
 refine cx_seq' fun K2 hK2 => ?_
 refine cr fun K3 hK3 => ?_
 refine s0 (rd_move' rfl) ?_
 rcases a0 with ⟨⟩ | ⟨a0_1a, a0_1b, a0_1c, a0_1d, a0_1e⟩
 ·dsimp only at hp
  refine tx_slot' 0 (y := (Vl (.pointer none))) rfl (imp_eq (SG66_c0 )) ?_
  refine tx_slot' 10 (y := (Vl (.pointer none))) rfl (imp_eq (SG66_c0 )) ?_
  refine s0 (rd_binf' rfl rfl (bf_vl (fun _ => by kernel_rfl) nil_eql66_nilptr)) ?_
  refine nk hK3 ?_
  refine cx_cond_t' rfl rfl ?_
  refine cr fun K4 hK4 => ?_
  refine s0 (rd_move' rfl) ?_
  refine s0 (rd_assign' rfl) ?_
  refine s0 (rd_assign' rfl) ?_
  refine nk hK4 ?_
  refine cx_retc' ?_
  replace hp := Option.some.inj hp
  subst hp
  refine tx_nilrow' KT37 37 ?_
  refine tx_pick' (L' := [(4, Vn), (5, (Vi (-1)))]) (H' := [(Rw KT37 37 (Vs (none, 0, 0)) [])]) [0] (sub_cons rfl (sub_cons rfl sub_nil)) (by decide) (pick_cons rfl pick_nil) ?_
  exact tx_ret2' Try.results31 rfl (none, 0, 0) (rv_tmp' rfl) (rv_tmp' rfl) rfl (List.Sublist.refl _)
 dsimp only at hp
 refine tx_slot' 0 (y := (Pt [(SG116 a0_1a), (Vi a0_1b), (SG66 a0_1c), (SG66 a0_1d), (SG118 a0_1e)])) rfl (imp_eq (SG66_c1 a0_1a a0_1b a0_1c a0_1d a0_1e)) ?_
 refine tx_slot' 10 (y := (Pt [(SG116 a0_1a), (Vi a0_1b), (SG66 a0_1c), (SG66 a0_1d), (SG118 a0_1e)])) rfl (imp_eq (SG66_c1 a0_1a a0_1b a0_1c a0_1d a0_1e)) ?_
 refine s0 (rd_binf' rfl rfl (bf_pt (fun _ _ => by kernel_rfl) nil_eql66_pt)) ?_
 refine nk hK3 ?_
 refine cx_cond_f' rfl rfl ?_
 refine cx_skip' ?_
 show TX E K2 _
 refine tx_k' hK2 ?_
 refine cr fun K5 hK5 => ?_
 refine s0 (rd_move' rfl) ?_
 refine s0 (rd_lenv' rfl Try.underlying26) ?_
 refine s0 (rd_assign' rfl) ?_
 refine nk hK5 ?_
 refine cx_seq' fun K6 hK6 => ?_
 refine cx_plana' [] [(12, 1)] [(0, 1), (1, 1), (2, 1), (3, 1), (4, 1), (6, 1), (7, 1), (8, 1), (9, 1)] 4 #[true, true, true, true, true, false, true, true, true, true, false, false, false] mixed (by kernel_rfl) ?_
 refine px_rd' rfl (rd_move' rfl) rfl rfl (wt_none' rfl) ?_
 refine px_rd' rfl (rd_nilck_pt' rfl) rfl rfl (wt_none' rfl) ?_
 refine px_rd' rfl (rd_field_pt' (off := 0) rfl Try.underlying120 rfl info116 rfl (l' := [(SG116 a0_1a), (Vi a0_1b), (SG66 a0_1c), (SG66 a0_1d), (SG118 a0_1e)]) rfl) rfl rfl (wt_none' rfl) ?_
 refine px_rd' rfl (rd_load_pt' rfl rfl flat116) rfl rfl (wt_none' rfl) ?_
 rcases a0_1a with ⟨a0_1a_0a⟩
 ·dsimp only at hp
  refine tx_slot' 18 (y := (If 62 (Sl Kf a0_1a_0a))) rfl (imp_eq (SG116_c0 a0_1a_0a)) ?_
  refine px_rd' rfl (rd_assert' rfl (F := fun v => v) as62_116_62 as_id) rfl rfl (wt_none' rfl) ?_
  refine px_rd' rfl (rd_move' rfl) rfl rfl (wt_none' rfl) ?_
  refine px_rd' rfl (rd_nilck_pt' rfl) rfl rfl (wt_none' rfl) ?_
  refine px_rd' rfl (rd_field_pt' (off := 1) rfl Try.underlying120 rfl info117 rfl (l' := [(Vi a0_1b), (SG66 a0_1c), (SG66 a0_1d), (SG118 a0_1e)]) rfl) rfl rfl (wt_none' rfl) ?_
  refine px_rd' rfl (rd_load_pt' rfl rfl flat117) rfl rfl (wt_none' rfl) ?_
  refine px_nil' ?_
  show AX E _ _ _ _ _ _ _ _
  obtain ⟨r20, hr20, hp⟩ := bind_some hp
  refine ax_node (f' := 0) #[true, true, true, true, true, true, true, true, true, true, true, true, true] (fun (v6 : Addr) => (⟨85, [], [(7, (Vp v6)), (0, (Pt [(SG116 (G116.c0 a0_1a_0a)), (Vi a0_1b), (SG66 a0_1c), (SG66 a0_1d), (SG118 a0_1e)])), (1, Vn), (6, (Vi ((0 : Nat) : Int)))], [⟨.pointer (some v6), [(Sl Kf r20), (Vi a0_1b), (Vi 0), (Vi 0), Vn, Vn], 37, none⟩]⟩ : St)) ?_ ?_
  ·rintro q904
   refine ax_nil (by kernel_rfl) ?_
   show TX E K6 _
   refine tx_k' hK6 ?_
   refine cx_join' (fun (v7 : G118 × (List Nat) × (List Nat)) => (⟨85, [], [(0, (Pt [(SG116 (G116.c0 a0_1a_0a)), (Vi a0_1b), (SG66 a0_1c), (SG66 a0_1d), (SG118 v7.1)])), (1, Vn), (6, (Vi ((0 : Nat) : Int))), (7, (Vp q904))], [⟨.pointer (some q904), [(Sl Kf r20), (Vi a0_1b), (Vi 0), (Vi 0), (Sl Kf v7.2.1), (Sl Kf v7.2.2)], 37, none⟩]⟩ : St)) (fun (v7 : G118 × (List Nat) × (List Nat)) => impl_knodes_j1 k r20 a0_1b a0_1c a0_1d v7.1 v7.2.1 v7.2.2 = some out) ?_ ?_
   ·rintro ⟨x1, x2, x3⟩ hp
    replace hp : impl_knodes_j1 k r20 a0_1b a0_1c a0_1d x1 x2 x3 = some out := hp
    unfold impl_knodes_j1 at hp
    refine cr fun K9 hK9 => ?_
    refine s0 (rd_move' rfl) ?_
    refine s0 (rd_load_agg' (i := 0) (o := 0) (nn := 6) rfl ⟨rfl, rfl, rfl, rfl⟩ rfl agg37 (l' := [(Sl Kf r20), (Vi a0_1b), (Vi 0), (Vi 0), (Sl Kf x2), (Sl Kf x3)]) rfl) ?_
    refine sx_ox' (ox_rowlit' (K := KT37) (xs := [(r20, a0_1b, 0, 0, x2, x3)]) (qs := [(0, [(Sl Kf r20), (Vi a0_1b), (Vi 0), (Vi 0), (Sl Kf x2), (Sl Kf x3)])]) ⟨rfl, ⟨_, rfl, (lv_ag _)⟩, trivial⟩ Try.underlying26 info37 rfl rfl rfl rfl rfl (by kernel_rfl) rfl rfl rfl) (wt_none' rfl) fun g53 => ?_
    refine tx_nilrow' KT37 37 ?_
    obtain ⟨r54, hr54, hp⟩ := bind_some hp
    refine sx_ox' (ox_append' (K := KT37) (i := 0) (xs := []) (ys := ([(r20, a0_1b, 0, 0, x2, x3)])) rfl rfl rfl (sr_row' (j := 1) rfl rfl rfl Try.underlying26) hr54 Try.underlying26 info37 rfl rfl rfl (H' := [(Rw KT37 37 (Vs g53) ([(r20, a0_1b, 0, 0, x2, x3)])), ⟨.pointer (some q904), [(Sl Kf r20), (Vi a0_1b), (Vi 0), (Vi 0), (Sl Kf x2), (Sl Kf x3)], 37, none⟩]) rfl) (wt_none' rfl) fun g54 => ?_
    refine s0 (rd_assign' rfl) ?_
    refine nk hK9 ?_
    refine cr fun K10 hK10 => ?_
    refine s0 (rd_assign' rfl) ?_
    refine s0 (rd_assign' rfl) ?_
    refine nk hK10 ?_
    refine cr fun K11 hK11 => ?_
    refine s0 (rd_move' rfl) ?_
    refine s0 (rd_nilck_pt' rfl) ?_
    refine s0 (rd_field_pt' (off := 2) rfl Try.underlying120 rfl info66 rfl (l' := [(SG66 a0_1c), (SG66 a0_1d), (SG118 x1)]) rfl) ?_
    refine s0 (rd_load_pt' rfl rfl flat66) ?_
    refine s0 (rd_move' rfl) ?_
    obtain ⟨r61, hr61, hp⟩ := bind_some hp
    refine sx_ox' (ox_callg' (ent_fn' Try.func31 isn31 rfl rfl) (impl_knodes_v2_sim _ _ hr61 : Sx.Fn Try.prog 31 [(SG66 a0_1c), (Vl (Vs g54))] [(Rw KT37 37 (Vs g54) r54)] (fun x : Gs => (Tu [(Vl (Vs x)), (Vi r61.2)])) (fun x => [(Rw KT37 37 (Vs x) r61.1)])) [0] [1, 2] (by decide) (pick_cons rfl pick_nil) (pick_cons rfl (pick_cons rfl pick_nil)) (Hn := fun x : Gs => [(Rw KT37 37 (Vs x) r61.1), (Rw KT37 37 (Vs g53) ([(r20, a0_1b, 0, 0, x2, x3)])), ⟨.pointer (some q904), [(Sl Kf r20), (Vi a0_1b), (Vi 0), (Vi 0), (Sl Kf x2), (Sl Kf x3)], 37, none⟩]) (fun _ => rfl) rfl rfl) (wt_none' rfl) fun g61 => ?_
    refine s0 (rd_move' rfl) ?_
    refine s0 (rd_extract' rfl rfl) ?_
    refine s0 (rd_extract' rfl rfl) ?_
    refine s0 (rd_assign' rfl) ?_
    refine s0 (rd_assign' rfl) ?_
    refine nk hK11 ?_
    refine cr fun K12 hK12 => ?_
    refine s0 (rd_move' rfl) ?_
    refine s0 (rd_nilck_pt' rfl) ?_
    refine s0 (rd_field_pt' (off := 3) rfl Try.underlying120 rfl info66 rfl (l' := [(SG66 a0_1d), (SG118 x1)]) rfl) ?_
    refine s0 (rd_load_pt' rfl rfl flat66) ?_
    refine s0 (rd_move' rfl) ?_
    obtain ⟨r70, hr70, hp⟩ := bind_some hp
    refine sx_ox' (ox_callg' (ent_fn' Try.func31 isn31 rfl rfl) (impl_knodes_v2_sim _ _ hr70 : Sx.Fn Try.prog 31 [(SG66 a0_1d), (Vl (Vs g61))] [(Rw KT37 37 (Vs g61) r61.1)] (fun x : Gs => (Tu [(Vl (Vs x)), (Vi r70.2)])) (fun x => [(Rw KT37 37 (Vs x) r70.1)])) [0] [1, 2] (by decide) (pick_cons rfl pick_nil) (pick_cons rfl (pick_cons rfl pick_nil)) (Hn := fun x : Gs => [(Rw KT37 37 (Vs x) r70.1), (Rw KT37 37 (Vs g53) ([(r20, a0_1b, 0, 0, x2, x3)])), ⟨.pointer (some q904), [(Sl Kf r20), (Vi a0_1b), (Vi 0), (Vi 0), (Sl Kf x2), (Sl Kf x3)], 37, none⟩]) (fun _ => rfl) rfl rfl) (wt_none' rfl) fun g70 => ?_
    refine s0 (rd_move' rfl) ?_
    refine s0 (rd_extract' rfl rfl) ?_
    refine s0 (rd_extract' rfl rfl) ?_
    refine s0 (rd_assign' rfl) ?_
    refine s0 (rd_assign' rfl) ?_
    refine nk hK12 ?_
    refine cr fun K13 hK13 => ?_
    refine s0 (rd_move' rfl) ?_
    refine s0 (rd_move' rfl) ?_
    refine s0 (rd_move' rfl) ?_
    refine s0 (rd_move' rfl) ?_
    refine s0 (rd_move' rfl) ?_
    refine s0 (rd_move' rfl) ?_
    obtain ⟨r79, hr79, hp⟩ := bind_some hp
    refine s0 (rd_atr' (m := 0) rfl rfl rfl rfl hr79 Try.underlying26 info37) ?_
    refine s0 (rd_fieldr' (off := 2) rfl Try.underlying37 rfl info3 rfl) ?_
    refine sx_ox' (ox_storer' (m := 0) (i := ((0 : Nat) : Int)) (j := 2) (x' := (r79.1, r79.2.1, r61.2, r79.2.2.2.1, r79.2.2.2.2.1, r79.2.2.2.2.2)) rfl rfl (lv_vl rfl rfl) rfl rfl hr79 rfl rfl rfl info3 rfl (H' := [(Rw KT37 37 (Vs g70) (r70.1.set ((0 : Nat) : Int).toNat (r79.1, r79.2.1, r61.2, r79.2.2.2.1, r79.2.2.2.2.1, r79.2.2.2.2.2))), (Rw KT37 37 (Vs g53) ([(r20, a0_1b, 0, 0, x2, x3)])), ⟨.pointer (some q904), [(Sl Kf r20), (Vi a0_1b), (Vi 0), (Vi 0), (Sl Kf x2), (Sl Kf x3)], 37, none⟩]) rfl) (wt_none' rfl) fun _ => ?_
    obtain ⟨r81, hr81, hp⟩ := bind_some hp
    refine s0 (rd_atr' (m := 0) rfl rfl rfl rfl hr81 Try.underlying26 info37) ?_
    refine s0 (rd_fieldr' (off := 3) rfl Try.underlying37 rfl info3 rfl) ?_
    refine sx_ox' (ox_storer' (m := 0) (i := ((0 : Nat) : Int)) (j := 3) (x' := (r81.1, r81.2.1, r81.2.2.1, r70.2, r81.2.2.2.2.1, r81.2.2.2.2.2)) rfl rfl (lv_vl rfl rfl) rfl rfl hr81 rfl rfl rfl info3 rfl (H' := [(Rw KT37 37 (Vs g70) ((r70.1.set ((0 : Nat) : Int).toNat (r79.1, r79.2.1, r61.2, r79.2.2.2.1, r79.2.2.2.2.1, r79.2.2.2.2.2)).set ((0 : Nat) : Int).toNat (r81.1, r81.2.1, r81.2.2.1, r70.2, r81.2.2.2.2.1, r81.2.2.2.2.2))), (Rw KT37 37 (Vs g53) ([(r20, a0_1b, 0, 0, x2, x3)])), ⟨.pointer (some q904), [(Sl Kf r20), (Vi a0_1b), (Vi 0), (Vi 0), (Sl Kf x2), (Sl Kf x3)], 37, none⟩]) rfl) (wt_none' rfl) fun _ => ?_
    refine nk hK13 ?_
    refine cr fun K14 hK14 => ?_
    refine s0 (rd_move' rfl) ?_
    refine s0 (rd_move' rfl) ?_
    refine s0 (rd_assign' rfl) ?_
    refine s0 (rd_assign' rfl) ?_
    refine nk hK14 ?_
    refine cx_retc' ?_
    replace hp := Option.some.inj hp
    subst hp
    refine tx_pick' (L' := [(4, (Vl (Vs g70))), (5, (Vi ((0 : Nat) : Int)))]) (H' := [(Rw KT37 37 (Vs g70) ((r70.1.set ((0 : Nat) : Int).toNat (r79.1, r79.2.1, r61.2, r79.2.2.2.1, r79.2.2.2.2.1, r79.2.2.2.2.2)).set ((0 : Nat) : Int).toNat (r81.1, r81.2.1, r81.2.2.1, r70.2, r81.2.2.2.2.1, r81.2.2.2.2.2)))]) [0] (sub_cons rfl (sub_cons rfl sub_nil)) (by decide) (pick_cons rfl pick_nil) ?_
    exact tx_ret2' Try.results31 rfl g70 (rv_tmp' rfl) (rv_tmp' rfl) rfl (List.Sublist.refl _)
   intro K7 hK7
   refine cr fun K8 hK8 => ?_
   refine s0 (rd_move' rfl) ?_
   refine s0 (rd_nilck_pt' rfl) ?_
   refine s0 (rd_field_pt' (off := 4) rfl Try.underlying120 rfl info118 rfl (l' := [(SG118 a0_1e)]) rfl) ?_
   refine s0 (rd_load_pt' rfl rfl flat118) ?_
   rcases a0_1e with ⟨⟩ | ⟨a0_1e_1a, a0_1e_1b⟩
   ·dsimp only at hp
    refine tx_slot' 29 (y := (Vl (.pointer none))) rfl (imp_eq (SG118_c0 )) ?_
    refine s0 (rd_binf' rfl rfl (bf_vl (fun _ => by kernel_rfl) nil_neq118_nilptr)) ?_
    refine nk hK8 ?_
    refine cx_cond_f' rfl rfl ?_
    refine cx_skip' ?_
    show TX E K7 _
    refine tx_cell' 0 4 (y := (Sl Kf [])) rfl rfl imp_nil (H' := [⟨.pointer (some q904), [(Sl Kf r20), (Vi a0_1b), (Vi 0), (Vi 0), (Sl Kf []), Vn], 37, none⟩]) rfl ?_
    refine tx_cell' 0 5 (y := (Sl Kf [])) rfl rfl imp_nil (H' := [⟨.pointer (some q904), [(Sl Kf r20), (Vi a0_1b), (Vi 0), (Vi 0), (Sl Kf []), (Sl Kf [])], 37, none⟩]) rfl ?_
    exact tx_pick' [0] (sub_cons rfl (sub_cons rfl (sub_cons rfl (sub_cons rfl sub_nil)))) (by decide) (pick_cons rfl pick_nil) (hK7 (G118.c0, [], []) hp)
   dsimp only at hp
   refine tx_slot' 29 (y := (Pt [(SG116 a0_1e_1a), (SG116 a0_1e_1b)])) rfl (imp_eq (SG118_c1 a0_1e_1a a0_1e_1b)) ?_
   refine s0 (rd_binf' rfl rfl (bf_pt (fun _ _ => by kernel_rfl) nil_neq118_pt)) ?_
   refine nk hK8 ?_
   refine cx_cond_t' rfl rfl ?_
   refine cx_plan' [] [(19, 1), (21, 1)] [(0, 1), (1, 1), (2, 1), (3, 1), (4, 1), (5, 1), (6, 1), (7, 1), (9, 1), (10, 1), (11, 1), (12, 1), (13, 1), (14, 1), (15, 1), (16, 1), (8, 0), (18, 1), (17, 0), (19, 0), (20, 1), (21, 0)] mixed (by kernel_rfl) ?_
   refine px_rd' rfl (rd_move' rfl) rfl rfl (wt_none' rfl) ?_
   refine px_rd' rfl (rd_nilck_pt' rfl) rfl rfl (wt_none' rfl) ?_
   refine px_rd' rfl (rd_field_pt' (off := 4) rfl Try.underlying120 rfl info118 rfl (l' := [(SG118 (G118.c1 a0_1e_1a a0_1e_1b))]) rfl) rfl rfl (wt_none' rfl) ?_
   refine px_rd' rfl (rd_load_pt' rfl rfl flat118) rfl rfl (wt_none' rfl) ?_
   refine tx_slot' 34 (y := (Pt [(SG116 a0_1e_1a), (SG116 a0_1e_1b)])) rfl (imp_eq (SG118_c1 a0_1e_1a a0_1e_1b)) ?_
   refine px_rd' rfl (rd_nilck_pt' rfl) rfl rfl (wt_none' rfl) ?_
   refine px_rd' rfl (rd_field_pt' (off := 0) rfl Try.underlying127 rfl info116 rfl (l' := [(SG116 a0_1e_1a), (SG116 a0_1e_1b)]) rfl) rfl rfl (wt_none' rfl) ?_
   refine px_rd' rfl (rd_load_pt' rfl rfl flat116) rfl rfl (wt_none' rfl) ?_
   rcases a0_1e_1a with ⟨a0_1e_1a_0a⟩
   ·dsimp only at hp
    refine tx_slot' 37 (y := (If 62 (Sl Kf a0_1e_1a_0a))) rfl (imp_eq (SG116_c0 a0_1e_1a_0a)) ?_
    refine px_rd' rfl (rd_assert' rfl (F := fun v => v) as62_116_62 as_id) rfl rfl (wt_none' rfl) ?_
    refine px_rd' rfl (rd_move' rfl) rfl rfl (wt_none' rfl) ?_
    refine px_rd' rfl (rd_nilck_pt' rfl) rfl rfl (wt_none' rfl) ?_
    refine px_rd' rfl (rd_field_pt' (off := 4) rfl Try.underlying120 rfl info118 rfl (l' := [(SG118 (G118.c1 (G116.c0 a0_1e_1a_0a) a0_1e_1b))]) rfl) rfl rfl (wt_none' rfl) ?_
    refine px_rd' rfl (rd_load_pt' rfl rfl flat118) rfl rfl (wt_none' rfl) ?_
    refine tx_slot' 43 (y := (Pt [(SG116 (G116.c0 a0_1e_1a_0a)), (SG116 a0_1e_1b)])) rfl (imp_eq (SG118_c1 (G116.c0 a0_1e_1a_0a) a0_1e_1b)) ?_
    refine px_rd' rfl (rd_nilck_pt' rfl) rfl rfl (wt_none' rfl) ?_
    refine px_rd' rfl (rd_field_pt' (off := 1) rfl Try.underlying127 rfl info116 rfl (l' := [(SG116 a0_1e_1b)]) rfl) rfl rfl (wt_none' rfl) ?_
    refine px_rd' rfl (rd_load_pt' rfl rfl flat116) rfl rfl (wt_none' rfl) ?_
    rcases a0_1e_1b with ⟨a0_1e_1b_0a⟩
    ·dsimp only at hp
     refine tx_slot' 46 (y := (If 62 (Sl Kf a0_1e_1b_0a))) rfl (imp_eq (SG116_c0 a0_1e_1b_0a)) ?_
     refine px_rd' rfl (rd_assert' rfl (F := fun v => v) as62_116_62 as_id) rfl rfl (wt_none' rfl) ?_
     obtain ⟨r39, hr39, hp⟩ := bind_some hp
     refine px_ox' rfl (ox_calln' (ent_fn' Try.func30 isn30 rfl rfl) (impl_floats_sim _ hr39 : Sx.Fn Try.prog 30 [(Sl Kf a0_1e_1a_0a)] [] (fun x : Unit => (Sl Kf r39)) (fun x => [])) (Hn := fun x : Unit => [⟨.pointer (some q904), [(Sl Kf r20), (Vi a0_1b), (Vi 0), (Vi 0), Vn, Vn], 37, none⟩]) (fun _ => rfl) rfl rfl) rfl bs_nil (wt_none' rfl) fun ⟨⟩ => ?_
     refine px_rd' rfl (rd_field' (off := 4) rfl Try.underlying37 rfl info25 rfl) rfl rfl (wt_none' rfl) ?_
     obtain ⟨r48, hr48, hp⟩ := bind_some hp
     refine px_ox' rfl (ox_calln' (ent_fn' Try.func30 isn30 rfl rfl) (impl_floats_sim _ hr48 : Sx.Fn Try.prog 30 [(Sl Kf a0_1e_1b_0a)] [] (fun x : Unit => (Sl Kf r48)) (fun x => [])) (Hn := fun x : Unit => [⟨.pointer (some q904), [(Sl Kf r20), (Vi a0_1b), (Vi 0), (Vi 0), Vn, Vn], 37, none⟩]) (fun _ => rfl) rfl rfl) rfl bs_nil (wt_none' rfl) fun ⟨⟩ => ?_
     refine px_oxv' rfl (oxv_store (i := 0) (o := 4) rfl rfl (lv_sl _ _) ⟨rfl, rfl, rfl, rfl⟩ rfl info25 rfl (H' := [⟨.pointer (some q904), [(Sl Kf r20), (Vi a0_1b), (Vi 0), (Vi 0), (Sl Kf r39), Vn], 37, none⟩]) rfl) rfl rfl bo_nil (wt_none' rfl) fun _ => ?_
     refine px_rd' rfl (rd_field' (off := 5) rfl Try.underlying37 rfl info25 rfl) rfl rfl (wt_none' rfl) ?_
     refine px_oxv' rfl (oxv_store (i := 0) (o := 5) rfl rfl (lv_sl _ _) ⟨rfl, rfl, rfl, rfl⟩ rfl info25 rfl (H' := [⟨.pointer (some q904), [(Sl Kf r20), (Vi a0_1b), (Vi 0), (Vi 0), (Sl Kf r39), (Sl Kf r48)], 37, none⟩]) rfl) rfl rfl bo_nil (wt_none' rfl) fun _ => ?_
     refine px_nil' ?_
     show TX E K7 _
     exact tx_pick' [0] (sub_cons rfl (sub_cons rfl (sub_cons rfl (sub_cons rfl sub_nil)))) (by decide) (pick_cons rfl pick_nil) (hK7 ((G118.c1 (G116.c0 a0_1e_1a_0a) (G116.c0 a0_1e_1b_0a)), r39, r48) hp)
  intro hN7
  refine ax_node (f' := 1) #[true, true, true, true, true, true, true, true, true, true, true, true, false] (fun (v5 : Addr) => (⟨85, [], [(7, (Vp v5)), (25, (Ag [(Sl Kf r20), (Vi a0_1b), (Vi 0), (Vi 0), Vn, Vn])), (0, (Pt [(SG116 (G116.c0 a0_1a_0a)), (Vi a0_1b), (SG66 a0_1c), (SG66 a0_1d), (SG118 a0_1e)])), (1, Vn), (6, (Vi ((0 : Nat) : Int)))], [⟨.pointer (some v5), [Vn, (Vi 0), (Vi 0), (Vi 0), Vn, Vn], 37, none⟩]⟩ : St)) ?_ ?_
  ·rintro q903
   refine ax_all (i := 12) (is := []) (by kernel_rfl) (all_cons ?_ all_nil)
   ·refine nx_oxv (last := #[true, true, true, true, true, true, true, true, true, true, true, true, true]) rfl (oxv_store (i := 0) (o := 0) rfl rfl (lv_ag _) ⟨rfl, rfl, rfl, rfl⟩ rfl info37 rfl (H' := [⟨.pointer (some q903), [(Sl Kf r20), (Vi a0_1b), (Vi 0), (Vi 0), Vn, Vn], 37, none⟩]) rfl) rfl rfl bo_nil (wt_none' rfl) rfl fun _ => ?_
    exact tx_pick' [0] (sub_cons rfl (sub_cons rfl (sub_cons rfl (sub_cons rfl sub_nil)))) (by decide) (pick_cons rfl pick_nil) (hN7 q903)
  intro hN6
  refine ax_node (f' := 2) #[true, true, true, true, true, true, true, true, true, true, true, false, false] (fun (v3 : Unit) => (⟨85, [], [(25, (Ag [(Sl Kf r20), (Vi a0_1b), (Vi 0), (Vi 0), Vn, Vn])), (0, (Pt [(SG116 (G116.c0 a0_1a_0a)), (Vi a0_1b), (SG66 a0_1c), (SG66 a0_1d), (SG118 a0_1e)])), (1, Vn), (6, (Vi ((0 : Nat) : Int)))], []⟩ : St)) ?_ ?_
  ·rintro ⟨⟩
   refine ax_all (i := 11) (is := []) (by kernel_rfl) (all_cons ?_ all_nil)
   ·refine nx_ox (last := #[true, true, true, true, true, true, true, true, true, true, true, true, false]) rfl (ox_alloc' info37 rfl rfl rfl rfl (l := [Vn, (Vi 0), (Vi 0), (Vi 0), Vn, Vn]) rfl) rfl bs_nil (wt_none' rfl) rfl fun q7 => ?_
    exact tx_pick' [0] (sub_cons rfl (sub_cons rfl (sub_cons rfl (sub_cons rfl (sub_cons rfl sub_nil))))) (by decide) (pick_cons rfl pick_nil) (hN6 q7)
  intro hN4
  refine ax_node (f' := 2) #[true, true, true, true, true, true, true, true, true, true, false, true, false] (fun (v4 : Addr) => (⟨85, [], [(7, (Vp v4)), (20, (Sl Kf r20)), (24, (Vi a0_1b)), (0, (Pt [(SG116 (G116.c0 a0_1a_0a)), (Vi a0_1b), (SG66 a0_1c), (SG66 a0_1d), (SG118 a0_1e)])), (1, Vn), (6, (Vi ((0 : Nat) : Int)))], [⟨.pointer (some v4), [Vn, (Vi 0), (Vi 0), (Vi 0), Vn, Vn], 37, none⟩]⟩ : St)) ?_ ?_
  ·rintro q902
   refine ax_rd (ix := 10) (last := #[true, true, true, true, true, true, true, true, true, true, true, true, false]) (by kernel_rfl) rfl (rd_build' (pls := [(0, 1), (1, 1), (2, 1), (3, 1), (4, 1), (5, 1)]) (qs := [(0, [(Sl Kf r20)]), (1, [(Vi a0_1b)])]) (r := [(Sl Kf r20), (Vi a0_1b), (Vi 0), (Vi 0), Vn, Vn]) ⟨rfl, ⟨_, rfl, (lv_sl _ _)⟩, ⟨rfl, ⟨_, rfl, (lv_vl rfl rfl)⟩, trivial⟩⟩ Try.underlying37 has37 places37 info37 rfl rfl rfl) rfl rfl (wt_none' rfl) rfl ?_
   exact tx_pick' [0] (sub_cons rfl (sub_cons rfl (sub_cons rfl (sub_cons rfl (sub_cons rfl sub_nil))))) (by decide) (pick_cons rfl pick_nil) (hN6 q902)
  intro hN5
  refine ax_node (f' := 3) #[true, true, true, true, true, true, true, true, true, true, false, false, false] (fun (v1 : Unit) => (⟨85, [], [(20, (Sl Kf r20)), (24, (Vi a0_1b)), (0, (Pt [(SG116 (G116.c0 a0_1a_0a)), (Vi a0_1b), (SG66 a0_1c), (SG66 a0_1d), (SG118 a0_1e)])), (1, Vn), (6, (Vi ((0 : Nat) : Int)))], []⟩ : St)) ?_ ?_
  ·rintro ⟨⟩
   refine ax_rd (ix := 10) (last := #[true, true, true, true, true, true, true, true, true, true, true, false, false]) (by kernel_rfl) rfl (rd_build' (pls := [(0, 1), (1, 1), (2, 1), (3, 1), (4, 1), (5, 1)]) (qs := [(0, [(Sl Kf r20)]), (1, [(Vi a0_1b)])]) (r := [(Sl Kf r20), (Vi a0_1b), (Vi 0), (Vi 0), Vn, Vn]) ⟨rfl, ⟨_, rfl, (lv_sl _ _)⟩, ⟨rfl, ⟨_, rfl, (lv_vl rfl rfl)⟩, trivial⟩⟩ Try.underlying37 has37 places37 info37 rfl rfl rfl) rfl rfl (wt_none' rfl) rfl ?_
   exact tx_pick' [] (sub_cons rfl (sub_cons rfl (sub_cons rfl (sub_cons rfl sub_nil)))) (by decide) pick_nil (hN4 ())
  intro hN2
  refine ax_node (f' := 3) #[true, true, true, true, true, false, true, true, true, true, false, true, false] (fun (v2 : Addr) => (⟨85, [], [(7, (Vp v2)), (19, (Sl Kf a0_1a_0a)), (24, (Vi a0_1b)), (0, (Pt [(SG116 (G116.c0 a0_1a_0a)), (Vi a0_1b), (SG66 a0_1c), (SG66 a0_1d), (SG118 a0_1e)])), (1, Vn), (6, (Vi ((0 : Nat) : Int)))], [⟨.pointer (some v2), [Vn, (Vi 0), (Vi 0), (Vi 0), Vn, Vn], 37, none⟩]⟩ : St)) ?_ ?_
  ·rintro q901
   refine ax_all (i := 5) (is := []) (by kernel_rfl) (all_cons ?_ all_nil)
   ·refine nx_ox (last := #[true, true, true, true, true, true, true, true, true, true, false, true, false]) rfl (ox_calln' (ent_fn' Try.func30 isn30 rfl rfl) (impl_floats_sim _ hr20 : Sx.Fn Try.prog 30 [(Sl Kf a0_1a_0a)] [] (fun x : Unit => (Sl Kf r20)) (fun x => [])) (Hn := fun x : Unit => [⟨.pointer (some q901), [Vn, (Vi 0), (Vi 0), (Vi 0), Vn, Vn], 37, none⟩]) (fun _ => rfl) rfl rfl) rfl bs_nil (wt_none' rfl) rfl fun ⟨⟩ => ?_
    exact tx_pick' [0] (sub_cons rfl (sub_cons rfl (sub_cons rfl (sub_cons rfl (sub_cons rfl (sub_cons rfl sub_nil)))))) (by decide) (pick_cons rfl pick_nil) (hN5 q901)
  intro hN3
  refine ax_all (i := 5) (is := [11]) (by kernel_rfl) (all_cons ?_ (all_cons ?_ all_nil))
  ·refine nx_ox (last := #[true, true, true, true, true, true, true, true, true, true, false, false, false]) rfl (ox_calln' (ent_fn' Try.func30 isn30 rfl rfl) (impl_floats_sim _ hr20 : Sx.Fn Try.prog 30 [(Sl Kf a0_1a_0a)] [] (fun x : Unit => (Sl Kf r20)) (fun x => [])) (Hn := fun x : Unit => []) (fun _ => rfl) rfl rfl) rfl bs_nil (wt_none' rfl) rfl fun ⟨⟩ => ?_
   exact tx_pick' [] (sub_cons rfl (sub_cons rfl (sub_cons rfl (sub_cons rfl (sub_cons rfl sub_nil))))) (by decide) pick_nil (hN2 ())
  refine nx_ox (last := #[true, true, true, true, true, false, true, true, true, true, false, true, false]) rfl (ox_alloc' info37 rfl rfl rfl rfl (l := [Vn, (Vi 0), (Vi 0), (Vi 0), Vn, Vn]) rfl) rfl bs_nil (wt_none' rfl) rfl fun q7 => ?_
  exact tx_pick' [0] (sub_cons rfl (sub_cons rfl (sub_cons rfl (sub_cons rfl (sub_cons rfl (sub_cons rfl sub_nil)))))) (by decide) (pick_cons rfl pick_nil) (hN3 q7)

--hand


theorem tx_sub {E : Env} {K : Act → World → Prop} {n : Nat} {D : List Deferred} {L L' : List (Nat × SV)} {H : List Res} (hL : Sub L' L) (k : TX E K (St.mk n D L' H)) : TX E K (St.mk n D L H) := fun a w ⟨U, hs⟩ =>
  k a w ⟨U, { hs with slot := fun j x hj => hs.slot j x (hL.look hj) }⟩

inductive GB where
  | nil
  | box (q : Addr) (g h : Gs) (u v : List Nat)
def GB.pv : GB → Value
  | .nil => .pointer none
  | .box q _ _ _ _ => .pointer (some q)
def GB.res : GB → List Res
  | .nil => []
  | .box q g h u v => [⟨.pointer (some q), [(If 62 (Vl (Vs g))), (If 62 (Vl (Vs h)))], 127, none⟩, (Rw Kf 40 (Vs g) u), (Rw Kf 40 (Vs h) v)]
def GB.er : GB → G118
  | .nil => .c0
  | .box _ _ _ u v => .c1 (.c0 u) (.c0 v)
inductive GN where
  | nil
  | node (q : Addr) (p : List Nat) (pl : Int) (a b : GN) (e : GB)
def GN.pv : GN → Value
  | .nil => .pointer none
  | .node q _ _ _ _ _ => .pointer (some q)
def GN.res : GN → List Res
  | .nil => []
  | .node q p pl a b e => ⟨.pointer (some q), [(If 62 (Sl Kf p)), (Vi pl), (Vl a.pv), (Vl b.pv), (Vl e.pv)], 120, none⟩ :: (a.res ++ b.res ++ e.res)
def GN.er : GN → G66
  | .nil => .c0
  | .node _ p pl a b e => .c1 (.c0 p) pl a.er b.er e.er
theorem GN.lv_pv (g : GN) : Lv (Vl g.pv) [Vl g.pv] := by cases g <;> exact lv_vl rfl rfl
theorem GB.lv_pv (g : GB) : Lv (Vl g.pv) [Vl g.pv] := by cases g <;> exact lv_vl rfl rfl
theorem pm1 {α : Type} (x : α) (A B C : List α) : (x :: (A ++ B ++ C)).Perm (A ++ (x :: (B ++ C))) := by rw [List.append_assoc]; exact List.perm_middle.symm
theorem pm2 {α : Type} (x : α) (A B C : List α) : (x :: (A ++ B ++ C)).Perm (B ++ (x :: (A ++ C))) := by
  rw [List.append_assoc]
  exact ((List.perm_append_comm_assoc A B C).cons x).trans List.perm_middle.symm

def kins (c : List Nat) : Nat → G66 → Int → Option G66
  | 0, _, _ => none
  | k + 1, .c0, d => some (.c1 (.c0 c) d .c0 .c0 .c0)
  | k + 1, .c1 (.c0 p) pl a b e, _ => (kdtree_Point_Dims k c) >>= fun r => (irem (iadd .i64 pl 1) r) >>= fun d => (kdtree_Point_Compare k c p pl) >>= fun x =>
    br (fle x 0) ((kins c k a d) >>= fun a' => some (.c1 (.c0 p) pl a' b e)) ((kins c k b d) >>= fun b' => some (.c1 (.c0 p) pl a b' e))

theorem kins_sim (c : List Nat) : ∀ (k : Nat) (g : GN) (d : Int) (out : G66), kins c k g.er d = some out → Sx.Fn Try.prog 64 [(Vl g.pv), (If 62 (Sl Kf c)), (Vi d)] g.res (fun w : {g' : GN // g'.er = out} => (Vl w.1.pv)) (fun w => w.1.res) := by
  intro k
  induction k with
  | zero => intro g d out hp; cases hp
  | succ k ih' =>
    have ih : ∀ (g : GN) {d : Int} {out : G66}, kins c k g.er d = some out → Sx.Fn Try.prog 64 [(Vl g.pv), (If 62 (Sl Kf c)), (Vi d)] g.res (fun w : {g' : GN // g'.er = out} => (Vl w.1.pv)) (fun w => w.1.res) := fun g d out h => ih' g d out h
    intro g d out hp
    cases g with
    | nil =>
      have hp := Option.some.inj hp
      show Sx.Fn Try.prog 64 [(Vl (.pointer none)), (If 62 (Sl Kf c)), (Vi d)] [] _ _
      refine fn_of Try.func64 rfl Try.ntmps64 rfl fun E hM => ?_
      refine cr fun K1 hK1 => ?_
      refine s0 (rd_assign' rfl) ?_
      refine nk hK1 ?_
      refine cx_seq' fun K2 hK2 => ?_
      refine cr fun K3 hK3 => ?_
      refine s0 (rd_move' rfl) ?_
      refine s0 (rd_binf' rfl rfl (bf_vl (fun _ => by kernel_rfl) nil_eql66_nilptr)) ?_
      refine nk hK3 ?_
      refine cx_cond_t' rfl rfl ?_
      refine cr fun K4 hK4 => ?_
      refine s0 (rd_move' rfl) ?_
      refine s0 (rd_move' rfl) ?_
      refine s0 (rd_build' (pls := [(0, 1), (1, 1), (2, 1), (3, 1), (4, 1)]) (qs := [(0, [(If 62 (Sl Kf c))]), (1, [(Vi d)]), (4, [(Vl (.pointer none))])]) (r := [(If 62 (Sl Kf c)), (Vi d), (Vl (.pointer none)), (Vl (.pointer none)), (Vl (.pointer none))]) ⟨rfl, ⟨_, rfl, (lv_if _ _)⟩, ⟨rfl, ⟨_, rfl, (lv_vl rfl rfl)⟩, ⟨rfl, ⟨_, rfl, (lv_vl rfl rfl)⟩, trivial⟩⟩⟩ Try.underlying120 has120 places120 info120 rfl rfl rfl) ?_
      refine sx_ox' (ox_box' rfl (lv_ag _) rfl rfl) (wt_none' rfl) fun q12 => ?_
      refine s0 (rd_assign' rfl) ?_
      refine nk hK4 ?_
      refine cx_retc' ?_
      exact tx_ret1' Try.results64 rfl (⟨GN.node q12 c d .nil .nil .nil, hp⟩ : {g' : GN // g'.er = out}) (rv_tmp' rfl) (List.Sublist.refl _)
    | node q p pl a b e =>
      replace hp : ((kdtree_Point_Dims k c) >>= fun r => (irem (iadd .i64 pl 1) r) >>= fun d => (kdtree_Point_Compare k c p pl) >>= fun x =>
        br (fle x 0) ((kins c k a.er d) >>= fun a' => some (.c1 (.c0 p) pl a' b.er e.er)) ((kins c k b.er d) >>= fun b' => some (.c1 (.c0 p) pl a.er b' e.er))) = some out := hp
      show Sx.Fn Try.prog 64 [(Vp q), (If 62 (Sl Kf c)), (Vi d)] (⟨.pointer (some q), [(If 62 (Sl Kf p)), (Vi pl), (Vl a.pv), (Vl b.pv), (Vl e.pv)], 120, none⟩ :: (a.res ++ b.res ++ e.res)) _ _
      refine fn_of Try.func64 rfl Try.ntmps64 rfl fun E hM => ?_
      refine cr fun K1 hK1 => ?_
      refine s0 (rd_assign' rfl) ?_
      refine nk hK1 ?_
      refine cx_seq' fun K2 hK2 => ?_
      refine cr fun K3 hK3 => ?_
      refine s0 (rd_move' rfl) ?_
      refine s0 (rd_binf' rfl rfl (bf_vl (fun _ => by kernel_rfl) (nil_eql66_ptr _))) ?_
      refine nk hK3 ?_
      refine cx_cond_f' rfl rfl ?_
      refine cx_skip' ?_
      show TX E K2 _
      refine tx_k' hK2 ?_
      refine cx_seq' fun K4 hK4 => ?_
      refine cx_plan' [] [] [(0, 1), (1, 1), (2, 1), (3, 1), (4, 1), (5, 1), (6, 0), (7, 1), (8, 1)] mixed (by kernel_rfl) ?_
      refine px_rd' rfl (rd_move' rfl) rfl rfl (wt_none' rfl) ?_
      refine px_rd' rfl (rd_nilck' rfl) rfl rfl (wt_none' rfl) ?_
      refine px_rd' rfl (rd_field' (off := 1) rfl Try.underlying120 rfl info117 rfl) rfl rfl (wt_none' rfl) ?_
      refine px_rd' rfl (rd_load' (i := 0) (o := 1) rfl ⟨rfl, rfl, rfl, rfl⟩ rfl flat117) rfl rfl (wt_none' rfl) ?_
      refine px_rd' rfl (rd_bin' rfl rfl eg_int ru_add) rfl rfl (wt_none' rfl) ?_
      refine px_rd' rfl (rd_move' rfl) rfl rfl (wt_none' rfl) ?_
      obtain ⟨r19, hr19, hp⟩ := bind_some hp
      refine px_ox' rfl (ox_calln' (ent_inv' rfl rfl (inv_any0 inv62_Dims)) (kdtree_Point_Dims_sim _ hr19 : Sx.Fn Try.prog 121 [(Sl Kf c)] [] (fun x : Unit => (Vi r19)) (fun x => [])) (Hn := fun x : Unit => (⟨.pointer (some q), [(If 62 (Sl Kf p)), (Vi pl), (Vl a.pv), (Vl b.pv), (Vl e.pv)], 120, none⟩ :: (a.res ++ b.res ++ e.res))) (fun _ => rfl) rfl rfl) rfl bs_nil (wt_none' rfl) fun ⟨⟩ => ?_
      obtain ⟨r20, hr20, hp⟩ := bind_some hp
      refine px_rd' rfl (rd_bin' rfl rfl eg_int (ru_rem hr20)) rfl rfl (wt_none' rfl) ?_
      refine px_rd' rfl (rd_assign' rfl) rfl rfl (wt_none' rfl) ?_
      refine px_nil' ?_
      show TX E K4 _
      refine tx_k' hK4 ?_
      refine cx_join' (fun (v1 : GN × GN) => (⟨56, [], [(0, (Vp q))], ⟨.pointer (some q), [(If 62 (Sl Kf p)), (Vi pl), (Vl v1.1.pv), (Vl v1.2.pv), (Vl e.pv)], 120, none⟩ :: (v1.1.res ++ v1.2.res ++ e.res)⟩ : St)) (fun (v1 : GN × GN) => (GN.node q p pl v1.1 v1.2 e).er = out) ?_ ?_
      · rintro ⟨a', b'⟩ hp
        refine cr fun K7 hK7 => ?_
        refine s0 (rd_move' rfl) ?_
        refine s0 (rd_assign' rfl) ?_
        refine nk hK7 ?_
        refine cx_retc' ?_
        exact tx_ret1' Try.results64 rfl (⟨GN.node q p pl a' b' e, hp⟩ : {g' : GN // g'.er = out}) (rv_tmp' rfl) (List.Sublist.refl _)
      intro K5 hK5
      refine cx_seq' fun K6 hK6 => ?_
      refine cx_plan' [] [] [(0, 1), (1, 1), (2, 1), (3, 1), (4, 1), (5, 1), (6, 1), (7, 1), (8, 1), (9, 1), (10, 1), (11, 1), (12, 0), (13, 1)] mixed (by kernel_rfl) ?_
      refine px_rd' rfl (rd_move' rfl) rfl rfl (wt_none' rfl) ?_
      refine px_rd' rfl (rd_move' rfl) rfl rfl (wt_none' rfl) ?_
      refine px_rd' rfl (rd_nilck' rfl) rfl rfl (wt_none' rfl) ?_
      refine px_rd' rfl (rd_field0' rfl Try.underlying120 rfl info116 rfl) rfl rfl (wt_none' rfl) ?_
      refine px_rd' rfl (rd_load' (i := 0) (o := 0) rfl ⟨rfl, rfl, rfl, rfl⟩ rfl flat116) rfl rfl (wt_none' rfl) ?_
      refine px_rd' rfl (rd_move' rfl) rfl rfl (wt_none' rfl) ?_
      refine px_rd' rfl (rd_nilck' rfl) rfl rfl (wt_none' rfl) ?_
      refine px_rd' rfl (rd_field' (off := 1) rfl Try.underlying120 rfl info117 rfl) rfl rfl (wt_none' rfl) ?_
      refine px_rd' rfl (rd_load' (i := 0) (o := 1) rfl ⟨rfl, rfl, rfl, rfl⟩ rfl flat117) rfl rfl (wt_none' rfl) ?_
      refine px_rd' rfl (rd_mkmeth' rfl) rfl rfl (wt_none' rfl) ?_
      refine px_rd' rfl (rd_nilck_mf' rfl (fun _ _ v _ w => nla62_Compare_sl v w)) rfl rfl (wt_none' rfl) ?_
      refine px_rd' rfl (rd_move' rfl) rfl rfl (wt_none' rfl) ?_
      obtain ⟨r33, hr33, hp⟩ := bind_some hp
      refine px_ox' rfl (ox_calln' (ent_inv' rfl rfl (inv_any2 inv62_Compare)) (kdtree_Point_Compare_sim _ _ _ hr33 : Sx.Fn Try.prog 120 [(Sl Kf c), (If 62 (Sl Kf p)), (Vi pl)] [] (fun x : Unit => (Vg r33)) (fun x => [])) (Hn := fun x : Unit => (⟨.pointer (some q), [(If 62 (Sl Kf p)), (Vi pl), (Vl a.pv), (Vl b.pv), (Vl e.pv)], 120, none⟩ :: (a.res ++ b.res ++ e.res))) (fun _ => rfl) rfl rfl) rfl bs_nil (wt_none' rfl) fun ⟨⟩ => ?_
      refine px_rd' rfl (rd_bin' rfl rfl eg_flt ru_fle) rfl rfl (wt_none' rfl) ?_
      refine px_nil' ?_
      show TX E K6 _
      refine tx_k' hK6 ?_
      refine cx_cond' rfl (fun h1 => ?_) (fun h1 => ?_)
      ·replace hp := (br_t h1).symm.trans hp
       refine cx_region' ?_
       refine s0 (rd_move' rfl) ?_
       refine s0 (rd_move' rfl) ?_
       refine s0 (rd_nilck' rfl) ?_
       refine s0 (rd_field' (off := 2) rfl Try.underlying120 rfl info66 rfl) ?_
       refine s0 (rd_load' (i := 0) (o := 2) rfl ⟨rfl, rfl, rfl, rfl⟩ rfl flat66) ?_
       refine s0 (rd_move' rfl) ?_
       refine s0 (rd_move' rfl) ?_
       obtain ⟨r42, hr42, hp⟩ := bind_some hp
       refine sx_call' (ih a hr42) Try.func64 isn64 rfl rfl (pm1 _ _ _ _) rfl rfl (wt_none' rfl) fun w => ?_
       refine tx_perm' (H' := (⟨.pointer (some q), [(If 62 (Sl Kf p)), (Vi pl), (Vl a.pv), (Vl b.pv), (Vl e.pv)], 120, none⟩ :: (w.1.res ++ b.res ++ e.res))) (pm1 _ _ _ _).symm ?_
       show SX E _ _ _ _ _
       refine s0 (rd_nilck' rfl) ?_
       refine s0 (rd_field' (off := 2) rfl Try.underlying120 rfl info66 rfl) ?_
       refine sx_ox' (ox_store' (i := 0) (o := 2) rfl rfl (GN.lv_pv _) ⟨rfl, rfl, rfl, rfl⟩ rfl info66 rfl (H' := (⟨.pointer (some q), [(If 62 (Sl Kf p)), (Vi pl), (Vl w.1.pv), (Vl b.pv), (Vl e.pv)], 120, none⟩ :: (w.1.res ++ b.res ++ e.res))) rfl) (wt_none' rfl) fun _ => ?_
       refine sx_nil' ?_
       show TX E K5 _
       refine tx_sub (sub_cons rfl sub_nil) (hK5 (w.1, b) ?_)
       have hw := w.2
       have hp := Option.some.inj hp
       simp only [GN.er, hw]; exact hp
      replace hp := (br_f h1).symm.trans hp
      refine cx_region' ?_
      refine s0 (rd_move' rfl) ?_
      refine s0 (rd_move' rfl) ?_
      refine s0 (rd_nilck' rfl) ?_
      refine s0 (rd_field' (off := 3) rfl Try.underlying120 rfl info66 rfl) ?_
      refine s0 (rd_load' (i := 0) (o := 3) rfl ⟨rfl, rfl, rfl, rfl⟩ rfl flat66) ?_
      refine s0 (rd_move' rfl) ?_
      refine s0 (rd_move' rfl) ?_
      obtain ⟨r52, hr52, hp⟩ := bind_some hp
      refine sx_call' (ih b hr52) Try.func64 isn64 rfl rfl (pm2 _ _ _ _) rfl rfl (wt_none' rfl) fun w => ?_
      refine tx_perm' (H' := (⟨.pointer (some q), [(If 62 (Sl Kf p)), (Vi pl), (Vl a.pv), (Vl b.pv), (Vl e.pv)], 120, none⟩ :: (a.res ++ w.1.res ++ e.res))) (pm2 _ _ _ _).symm ?_
      show SX E _ _ _ _ _
      refine s0 (rd_nilck' rfl) ?_
      refine s0 (rd_field' (off := 3) rfl Try.underlying120 rfl info66 rfl) ?_
      refine sx_ox' (ox_store' (i := 0) (o := 3) rfl rfl (GN.lv_pv _) ⟨rfl, rfl, rfl, rfl⟩ rfl info66 rfl (H' := (⟨.pointer (some q), [(If 62 (Sl Kf p)), (Vi pl), (Vl a.pv), (Vl w.1.pv), (Vl e.pv)], 120, none⟩ :: (a.res ++ w.1.res ++ e.res))) rfl) (wt_none' rfl) fun _ => ?_
      refine sx_nil' ?_
      show TX E K5 _
      refine tx_sub (sub_cons rfl sub_nil) (hK5 (a, w.1) ?_)
      have hw := w.2
      have hp := Option.some.inj hp
      simp only [GN.er, hw]; exact hp




section
variable {dst : Option Tmp} {ty : TypeId} {pos : String} {af : Array Edge} {g : Option (Nat × Bool)} {E : Env} {P : Program} {s : St}
theorem oxb_callp {c : Call} {f d : Nat} {A : List SV} {HA H' : List Res} {X : Type} {r : X → SV} {HR : X → List Res} (he : Ent P s c f A) (hc : Sx.Fn P f A HA r HR)
    (hH : s.H.Perm (HA ++ H')) {Hn : X → List Res} (hHn : ∀ x, HR x ++ H' = Hn x) (hd : dst = some d) (hdn : Nat.ble (d + 1) s.n = true) :
    OXB E P ⟨dst, .call c, ty, pos, af, g⟩ HA (fun x : X => { s with L := (d, r x) :: s.L, H := Hn x }) s := fun Q a w U hs K k => by
  obtain rfl : (fun x => HR x ++ H') = Hn := funext hHn
  obtain ⟨vs, hvs, hrun⟩ := he E a w U hs
  unfold Oper.wp
  rw [hrun]
  have hs' := hs.perm hH
  have hnd0 : ((HA ++ H').flatMap Res.blk).Nodup := hs'.nodup
  rw [List.flatMap_append, List.nodup_append] at hnd0
  refine (hc w U _ hvs (fun q hq => hs'.own q (List.mem_append.2 (.inl hq))) hnd0.1 (fun q hq => hs'.apart q (List.mem_append.2 (.inl hq))) hs.lt hs.glob).mono ?_
  rintro e w' ⟨x, v, U', rfl, hr, ho, hnd, hap, hto, hlt, hfrom, hext⟩
  show K (a.put dst v) w'
  rw [hd]
  exact k x _ _ ⟨U', (hs'.called (HA := HA) (H' := H') (List.Perm.refl _) ho hnd hap hto hlt hfrom hext).put (s := { s with H := HR x ++ H' }) hdn hr⟩ hext
end
theorem pm4 {α : Type} {x y z q : α} {T : List α} : (q :: (x :: y :: z :: T)).Perm ([x, y, z] ++ (q :: T)) := (List.perm_middle (a := q) (l₁ := [x, y, z]) (l₂ := T)).symm
theorem pm5 {α : Type} {x y z q : α} {A B : List α} : (x :: y :: z :: q :: (A ++ B)).Perm (A ++ (x :: y :: z :: q :: B)) := List.perm_append_comm_assoc [x, y, z, q] A B
theorem pm6 {α : Type} {x y z q : α} {A B : List α} : (x :: y :: z :: q :: (A ++ B)).Perm (B ++ (x :: y :: z :: q :: A)) := List.perm_append_comm (l₁ := x :: y :: z :: q :: A) (l₂ := B)
theorem pm7 {α : Type} {x y z q : α} {A B : List α} : (x :: y :: z :: q :: (A ++ B)).Perm (q :: (A ++ B ++ [x, y, z])) :=
  (List.perm_middle (a := q) (l₁ := [x, y, z]) (l₂ := A ++ B)).trans ((List.perm_append_comm (l₁ := [x, y, z]) (l₂ := A ++ B)).cons q)
theorem pm8 {α : Type} {x y z q : α} {A B : List α} : (q :: (A ++ B ++ [x, y, z])).Perm (q :: x :: y :: z :: (A ++ B)) := (List.perm_append_comm (l₁ := A ++ B) (l₂ := [x, y, z])).cons q

def kinsB (c : List Nat) : Nat → G66 → Int → Option G66
  | 0, _, _ => none
  | k + 1, .c0, d => (kdtree_Point_Extend k c) >>= fun r => some (.c1 (.c0 c) d .c0 .c0 (.c1 (.c0 r.1) (.c0 r.2)))
  | k + 1, .c1 (.c0 p) pl a b (.c1 (.c0 u) (.c0 v)), _ => (kdtree_Point_Extend_v2 k c u v) >>= fun s => (kdtree_Point_Dims k c) >>= fun r => (irem (iadd .i64 pl 1) r) >>= fun d => (kdtree_Point_Compare k c p pl) >>= fun x =>
    br (fle x 0) ((kinsB c k a d) >>= fun a' => some (.c1 (.c0 p) pl a' b (.c1 (.c0 s.1) (.c0 s.2)))) ((kinsB c k b d) >>= fun b' => some (.c1 (.c0 p) pl a b' (.c1 (.c0 s.1) (.c0 s.2))))
  | _ + 1, .c1 _ _ _ _ .c0, _ => none

theorem kinsB_sim (c : List Nat) : ∀ (k : Nat) (g : GN) (d : Int) (out : G66), kinsB c k g.er d = some out → Sx.Fn Try.prog 63 [(Vl g.pv), (If 62 (Sl Kf c)), (Vi d), (Vb true)] g.res (fun w : {g' : GN // g'.er = out} => (Vl w.1.pv)) (fun w => w.1.res) := by
  intro k
  induction k with
  | zero => intro g d out hp; cases hp
  | succ k ih' =>
    have ih : ∀ (g : GN) {d : Int} {out : G66}, kinsB c k g.er d = some out → Sx.Fn Try.prog 63 [(Vl g.pv), (If 62 (Sl Kf c)), (Vi d), (Vb true)] g.res (fun w : {g' : GN // g'.er = out} => (Vl w.1.pv)) (fun w => w.1.res) := fun g d out h => ih' g d out h
    intro g d out hp
    cases g with
    | nil =>
      replace hp : ((kdtree_Point_Extend k c) >>= fun r => some (G66.c1 (.c0 c) d .c0 .c0 (.c1 (.c0 r.1) (.c0 r.2)))) = some out := hp
      show Sx.Fn Try.prog 63 [(Vl (.pointer none)), (If 62 (Sl Kf c)), (Vi d), (Vb true)] [] _ _
      refine fn_of Try.func63 rfl Try.ntmps63 rfl fun E hM => ?_
      refine cr fun K1 hK1 => ?_
      refine s0 (rd_assign' rfl) ?_
      refine nk hK1 ?_
      refine cx_seq' fun K2 hK2 => ?_
      refine cr fun K3 hK3 => ?_
      refine s0 (rd_move' rfl) ?_
      refine s0 (rd_binf' rfl rfl (bf_vl (fun _ => by kernel_rfl) nil_eql66_nilptr)) ?_
      refine nk hK3 ?_
      refine cx_cond_t' rfl rfl ?_
      refine cr fun K4 hK4 => ?_
      refine s0 (rd_assign' rfl) ?_
      refine nk hK4 ?_
      refine cx_seq' fun K5 hK5 => ?_
      refine cr fun K6 hK6 => ?_
      refine s0 (rd_move' rfl) ?_
      refine nk hK6 ?_
      refine cx_cond_t' rfl rfl ?_
      refine cx_region' ?_
      refine s0 (rd_move' rfl) ?_
      refine s0 (rd_move' rfl) ?_
      obtain ⟨r15, hr15, hp⟩ := bind_some hp
      refine sx_ox' (ox_calln' (ent_inv' rfl rfl (inv_any1 inv62_Extend)) (kdtree_Point_Extend_sim _ hr15 : Sx.Fn Try.prog 123 [(Sl Kf c), (Vl (.pointer none))] [] (fun x : Addr × Gs × Gs => (Vp x.1)) (fun x => [⟨.pointer (some x.1), [(If 62 (Vl (Vs x.2.1))), (If 62 (Vl (Vs x.2.2)))], 127, none⟩, (Rw Kf 40 (Vs x.2.1) r15.1), (Rw Kf 40 (Vs x.2.2) r15.2)])) (Hn := fun x : Addr × Gs × Gs => [⟨.pointer (some x.1), [(If 62 (Vl (Vs x.2.1))), (If 62 (Vl (Vs x.2.2)))], 127, none⟩, (Rw Kf 40 (Vs x.2.1) r15.1), (Rw Kf 40 (Vs x.2.2) r15.2)]) (fun _ => rfl) rfl rfl) (wt_none' rfl) fun ⟨q15, g15, gz1⟩ => ?_
      refine s0 (rd_assign' rfl) ?_
      refine nk hK5 ?_
      refine cr fun K7 hK7 => ?_
      refine s0 (rd_move' rfl) ?_
      refine s0 (rd_move' rfl) ?_
      refine s0 (rd_move' rfl) ?_
      refine s0 (rd_build' (pls := [(0, 1), (1, 1), (2, 1), (3, 1), (4, 1)]) (qs := [(0, [(If 62 (Sl Kf c))]), (1, [(Vi d)]), (4, [(Vp q15)])]) (r := [(If 62 (Sl Kf c)), (Vi d), (Vl (.pointer none)), (Vl (.pointer none)), (Vp q15)]) ⟨rfl, ⟨_, rfl, (lv_if _ _)⟩, ⟨rfl, ⟨_, rfl, (lv_vl rfl rfl)⟩, ⟨rfl, ⟨_, rfl, (lv_vl rfl rfl)⟩, trivial⟩⟩⟩ Try.underlying120 has120 places120 info120 rfl rfl rfl) ?_
      refine sx_ox' (ox_box' rfl (lv_ag _) rfl rfl) (wt_none' rfl) fun q20 => ?_
      refine s0 (rd_assign' rfl) ?_
      refine nk hK7 ?_
      refine cx_retc' ?_
      have hp := Option.some.inj hp
      exact tx_ret1' Try.results63 rfl (⟨GN.node q20 c d .nil .nil (.box q15 g15 gz1 r15.1 r15.2), hp⟩ : {g' : GN // g'.er = out}) (rv_tmp' rfl) (List.Sublist.refl _)
    | node q p pl a b e =>
      cases e with
      | nil => cases hp
      | box qe g1 g2 u v =>
      replace hp : ((kdtree_Point_Extend_v2 k c u v) >>= fun s => (kdtree_Point_Dims k c) >>= fun r => (irem (iadd .i64 pl 1) r) >>= fun d => (kdtree_Point_Compare k c p pl) >>= fun x =>
        br (fle x 0) ((kinsB c k a.er d) >>= fun a' => some (G66.c1 (.c0 p) pl a' b.er (.c1 (.c0 s.1) (.c0 s.2)))) ((kinsB c k b.er d) >>= fun b' => some (G66.c1 (.c0 p) pl a.er b' (.c1 (.c0 s.1) (.c0 s.2))))) = some out := hp
      show Sx.Fn Try.prog 63 [(Vp q), (If 62 (Sl Kf c)), (Vi d), (Vb true)] (⟨.pointer (some q), [(If 62 (Sl Kf p)), (Vi pl), (Vl a.pv), (Vl b.pv), (Vp qe)], 120, none⟩ :: (a.res ++ b.res ++ [⟨.pointer (some qe), [(If 62 (Vl (Vs g1))), (If 62 (Vl (Vs g2)))], 127, none⟩, (Rw Kf 40 (Vs g1) u), (Rw Kf 40 (Vs g2) v)])) _ _
      refine fn_of Try.func63 rfl Try.ntmps63 rfl fun E hM => ?_
      refine tx_perm' pm8 ?_
      show CX E _ _ _ _
      refine cr fun K1 hK1 => ?_
      refine s0 (rd_assign' rfl) ?_
      refine nk hK1 ?_
      refine cx_seq' fun K2 hK2 => ?_
      refine cr fun K3 hK3 => ?_
      refine s0 (rd_move' rfl) ?_
      refine s0 (rd_binf' rfl rfl (bf_vl (fun _ => by kernel_rfl) (nil_eql66_ptr _))) ?_
      refine nk hK3 ?_
      refine cx_cond_f' rfl rfl ?_
      refine cx_skip' ?_
      show TX E K2 _
      refine tx_k' hK2 ?_
      refine cx_seq' fun K4 hK4 => ?_
      refine cr fun K5 hK5 => ?_
      refine s0 (rd_move' rfl) ?_
      refine nk hK5 ?_
      refine cx_cond_t' rfl rfl ?_
      refine cx_plan' [] [(9, 1), (12, 1)] [(0, 2), (1, 1), (2, 1), (3, 1), (4, 1), (5, 1), (6, 1), (7, 1), (8, 1), (9, 0), (10, 1), (11, 1), (12, 0)] mixed (by kernel_rfl) ?_
      refine px_rb' rfl (rb_move' rfl) rfl rfl (wt_none' rfl) ?_
      refine px_rd' rfl (rd_move' rfl) rfl rfl (wt_none' rfl) ?_
      refine px_rd' rfl (rd_move' rfl) rfl rfl (wt_none' rfl) ?_
      refine px_rd' rfl (rd_nilck' rfl) rfl rfl (wt_none' rfl) ?_
      refine px_rd' rfl (rd_field' (off := 4) rfl Try.underlying120 rfl info118 rfl) rfl rfl (wt_none' rfl) ?_
      refine px_rd' rfl (rd_load' (i := 0) (o := 4) rfl ⟨rfl, rfl, rfl, rfl⟩ rfl flat118) rfl rfl (wt_none' rfl) ?_
      refine px_rd' rfl (rd_mkmeth' rfl) rfl rfl (wt_none' rfl) ?_
      refine px_rd' rfl (rd_nilck_mf' rfl (fun _ _ v _ w => nla62_Extend_sl v w)) rfl rfl (wt_none' rfl) ?_
      refine px_rd' rfl (rd_move' rfl) rfl rfl (wt_none' rfl) ?_
      obtain ⟨r31, hr31, hp⟩ := bind_some hp
      refine px_oxb' (is := [1, 2, 3]) rfl (oxb_callp (ent_inv' rfl rfl (inv_any1 inv62_Extend)) (kdtree_Point_Extend_v2_sim _ _ _ hr31 : Sx.Fn Try.prog 123 [(Sl Kf c), (Vp qe)] [⟨.pointer (some qe), [(If 62 (Vl (Vs g1))), (If 62 (Vl (Vs g2)))], 127, none⟩, (Rw Kf 40 (Vs g1) u), (Rw Kf 40 (Vs g2) v)] (fun x : Unit => (Vp qe)) (fun x => [⟨.pointer (some qe), [(If 62 (Vl (Vs g1))), (If 62 (Vl (Vs g2)))], 127, none⟩, (Rw Kf 40 (Vs g1) r31.1), (Rw Kf 40 (Vs g2) r31.2)])) (H' := ⟨.pointer (some q), [(If 62 (Sl Kf p)), (Vi pl), (Vl a.pv), (Vl b.pv), (Vp qe)], 120, none⟩ :: (a.res ++ b.res)) pm4 (Hn := fun x : Unit => (⟨.pointer (some qe), [(If 62 (Vl (Vs g1))), (If 62 (Vl (Vs g2)))], 127, none⟩ :: (Rw Kf 40 (Vs g1) r31.1) :: (Rw Kf 40 (Vs g2) r31.2) :: ⟨.pointer (some q), [(If 62 (Sl Kf p)), (Vi pl), (Vl a.pv), (Vl b.pv), (Vp qe)], 120, none⟩ :: (a.res ++ b.res))) (fun _ => rfl) rfl rfl) (pick_cons rfl (pick_cons rfl (pick_cons rfl pick_nil))) rfl bl_nil (wt_none' rfl) fun ⟨⟩ => ?_
      refine px_rd' rfl (rd_nilck' rfl) rfl rfl (wt_none' rfl) ?_
      refine px_rd' rfl (rd_field' (off := 4) rfl Try.underlying120 rfl info118 rfl) rfl rfl (wt_none' rfl) ?_
      refine px_oxv' rfl (oxv_store (i := 3) (o := 4) rfl rfl (lv_vl rfl rfl) ⟨rfl, rfl, rfl, rfl⟩ rfl info118 rfl (H' := (⟨.pointer (some qe), [(If 62 (Vl (Vs g1))), (If 62 (Vl (Vs g2)))], 127, none⟩ :: (Rw Kf 40 (Vs g1) r31.1) :: (Rw Kf 40 (Vs g2) r31.2) :: ⟨.pointer (some q), [(If 62 (Sl Kf p)), (Vi pl), (Vl a.pv), (Vl b.pv), (Vp qe)], 120, none⟩ :: (a.res ++ b.res))) rfl) rfl rfl bo_nil (wt_none' rfl) fun _ => ?_
      refine px_nil' ?_
      show TX E K4 _
      refine tx_k' hK4 ?_
      refine cx_seq' fun K6 hK6 => ?_
      refine cx_plan' [] [] [(0, 1), (1, 1), (2, 1), (3, 1), (4, 1), (5, 1), (6, 0), (7, 1), (8, 1)] mixed (by kernel_rfl) ?_
      refine px_rd' rfl (rd_move' rfl) rfl rfl (wt_none' rfl) ?_
      refine px_rd' rfl (rd_nilck' rfl) rfl rfl (wt_none' rfl) ?_
      refine px_rd' rfl (rd_field' (off := 1) rfl Try.underlying120 rfl info117 rfl) rfl rfl (wt_none' rfl) ?_
      refine px_rd' rfl (rd_load' (i := 3) (o := 1) rfl ⟨rfl, rfl, rfl, rfl⟩ rfl flat117) rfl rfl (wt_none' rfl) ?_
      refine px_rd' rfl (rd_bin' rfl rfl eg_int ru_add) rfl rfl (wt_none' rfl) ?_
      refine px_rd' rfl (rd_move' rfl) rfl rfl (wt_none' rfl) ?_
      obtain ⟨r40, hr40, hp⟩ := bind_some hp
      refine px_ox' rfl (ox_calln' (ent_inv' rfl rfl (inv_any0 inv62_Dims)) (kdtree_Point_Dims_sim _ hr40 : Sx.Fn Try.prog 121 [(Sl Kf c)] [] (fun x : Unit => (Vi r40)) (fun x => [])) (Hn := fun x : Unit => (⟨.pointer (some qe), [(If 62 (Vl (Vs g1))), (If 62 (Vl (Vs g2)))], 127, none⟩ :: (Rw Kf 40 (Vs g1) r31.1) :: (Rw Kf 40 (Vs g2) r31.2) :: ⟨.pointer (some q), [(If 62 (Sl Kf p)), (Vi pl), (Vl a.pv), (Vl b.pv), (Vp qe)], 120, none⟩ :: (a.res ++ b.res))) (fun _ => rfl) rfl rfl) rfl bs_nil (wt_none' rfl) fun ⟨⟩ => ?_
      obtain ⟨r41, hr41, hp⟩ := bind_some hp
      refine px_rd' rfl (rd_bin' rfl rfl eg_int (ru_rem hr41)) rfl rfl (wt_none' rfl) ?_
      refine px_rd' rfl (rd_assign' rfl) rfl rfl (wt_none' rfl) ?_
      refine px_nil' ?_
      show TX E K6 _
      refine tx_k' hK6 ?_
      refine cx_join' (fun (v1 : GN × GN) => (⟨79, [], [(0, (Vp q))], (GN.node q p pl v1.1 v1.2 (.box qe g1 g2 r31.1 r31.2)).res⟩ : St)) (fun (v1 : GN × GN) => (GN.node q p pl v1.1 v1.2 (.box qe g1 g2 r31.1 r31.2)).er = out) ?_ ?_
      · rintro ⟨a', b'⟩ hp
        refine cr fun K9 hK9 => ?_
        refine s0 (rd_move' rfl) ?_
        refine s0 (rd_assign' rfl) ?_
        refine nk hK9 ?_
        refine cx_retc' ?_
        exact tx_ret1' Try.results63 rfl (⟨GN.node q p pl a' b' (.box qe g1 g2 r31.1 r31.2), hp⟩ : {g' : GN // g'.er = out}) (rv_tmp' rfl) (List.Sublist.refl _)
      intro K7 hK7
      refine cx_seq' fun K8 hK8 => ?_
      refine cx_plan' [] [] [(0, 1), (1, 1), (2, 1), (3, 1), (4, 1), (5, 1), (6, 1), (7, 1), (8, 1), (9, 1), (10, 1), (11, 1), (12, 0), (13, 1)] mixed (by kernel_rfl) ?_
      refine px_rd' rfl (rd_move' rfl) rfl rfl (wt_none' rfl) ?_
      refine px_rd' rfl (rd_move' rfl) rfl rfl (wt_none' rfl) ?_
      refine px_rd' rfl (rd_nilck' rfl) rfl rfl (wt_none' rfl) ?_
      refine px_rd' rfl (rd_field0' rfl Try.underlying120 rfl info116 rfl) rfl rfl (wt_none' rfl) ?_
      refine px_rd' rfl (rd_load' (i := 3) (o := 0) rfl ⟨rfl, rfl, rfl, rfl⟩ rfl flat116) rfl rfl (wt_none' rfl) ?_
      refine px_rd' rfl (rd_move' rfl) rfl rfl (wt_none' rfl) ?_
      refine px_rd' rfl (rd_nilck' rfl) rfl rfl (wt_none' rfl) ?_
      refine px_rd' rfl (rd_field' (off := 1) rfl Try.underlying120 rfl info117 rfl) rfl rfl (wt_none' rfl) ?_
      refine px_rd' rfl (rd_load' (i := 3) (o := 1) rfl ⟨rfl, rfl, rfl, rfl⟩ rfl flat117) rfl rfl (wt_none' rfl) ?_
      refine px_rd' rfl (rd_mkmeth' rfl) rfl rfl (wt_none' rfl) ?_
      refine px_rd' rfl (rd_nilck_mf' rfl (fun _ _ v _ w => nla62_Compare_sl v w)) rfl rfl (wt_none' rfl) ?_
      refine px_rd' rfl (rd_move' rfl) rfl rfl (wt_none' rfl) ?_
      obtain ⟨r54, hr54, hp⟩ := bind_some hp
      refine px_ox' rfl (ox_calln' (ent_inv' rfl rfl (inv_any2 inv62_Compare)) (kdtree_Point_Compare_sim _ _ _ hr54 : Sx.Fn Try.prog 120 [(Sl Kf c), (If 62 (Sl Kf p)), (Vi pl)] [] (fun x : Unit => (Vg r54)) (fun x => [])) (Hn := fun x : Unit => (⟨.pointer (some qe), [(If 62 (Vl (Vs g1))), (If 62 (Vl (Vs g2)))], 127, none⟩ :: (Rw Kf 40 (Vs g1) r31.1) :: (Rw Kf 40 (Vs g2) r31.2) :: ⟨.pointer (some q), [(If 62 (Sl Kf p)), (Vi pl), (Vl a.pv), (Vl b.pv), (Vp qe)], 120, none⟩ :: (a.res ++ b.res))) (fun _ => rfl) rfl rfl) rfl bs_nil (wt_none' rfl) fun ⟨⟩ => ?_
      refine px_rd' rfl (rd_bin' rfl rfl eg_flt ru_fle) rfl rfl (wt_none' rfl) ?_
      refine px_nil' ?_
      show TX E K8 _
      refine tx_k' hK8 ?_
      refine cx_cond' rfl (fun h1 => ?_) (fun h1 => ?_)
      ·replace hp := (br_t h1).symm.trans hp
       refine cx_region' ?_
       refine s0 (rd_move' rfl) ?_
       refine s0 (rd_move' rfl) ?_
       refine s0 (rd_nilck' rfl) ?_
       refine s0 (rd_field' (off := 2) rfl Try.underlying120 rfl info66 rfl) ?_
       refine s0 (rd_load' (i := 3) (o := 2) rfl ⟨rfl, rfl, rfl, rfl⟩ rfl flat66) ?_
       refine s0 (rd_move' rfl) ?_
       refine s0 (rd_move' rfl) ?_
       refine s0 (rd_move' rfl) ?_
       obtain ⟨r64, hr64, hp⟩ := bind_some hp
       refine sx_call' (ih a hr64) Try.func63 isn63 rfl rfl pm5 rfl rfl (wt_none' rfl) fun w => ?_
       refine tx_perm' (H' := (⟨.pointer (some qe), [(If 62 (Vl (Vs g1))), (If 62 (Vl (Vs g2)))], 127, none⟩ :: (Rw Kf 40 (Vs g1) r31.1) :: (Rw Kf 40 (Vs g2) r31.2) :: ⟨.pointer (some q), [(If 62 (Sl Kf p)), (Vi pl), (Vl a.pv), (Vl b.pv), (Vp qe)], 120, none⟩ :: (w.1.res ++ b.res))) (List.Perm.symm pm5) ?_
       show SX E _ _ _ _ _
       refine s0 (rd_nilck' rfl) ?_
       refine s0 (rd_field' (off := 2) rfl Try.underlying120 rfl info66 rfl) ?_
       refine sx_ox' (ox_store' (i := 3) (o := 2) rfl rfl (GN.lv_pv _) ⟨rfl, rfl, rfl, rfl⟩ rfl info66 rfl (H' := (⟨.pointer (some qe), [(If 62 (Vl (Vs g1))), (If 62 (Vl (Vs g2)))], 127, none⟩ :: (Rw Kf 40 (Vs g1) r31.1) :: (Rw Kf 40 (Vs g2) r31.2) :: ⟨.pointer (some q), [(If 62 (Sl Kf p)), (Vi pl), (Vl w.1.pv), (Vl b.pv), (Vp qe)], 120, none⟩ :: (w.1.res ++ b.res))) rfl) (wt_none' rfl) fun _ => ?_
       refine sx_nil' ?_
       show TX E K7 _
       refine tx_perm' (H' := (GN.node q p pl w.1 b (.box qe g1 g2 r31.1 r31.2)).res) pm7 ?_
       refine tx_sub (sub_cons rfl sub_nil) (hK7 (w.1, b) ?_)
       have hw := w.2
       have hp := Option.some.inj hp
       simp only [GN.er, GB.er, hw]; exact hp
      replace hp := (br_f h1).symm.trans hp
      refine cx_region' ?_
      refine s0 (rd_move' rfl) ?_
      refine s0 (rd_move' rfl) ?_
      refine s0 (rd_nilck' rfl) ?_
      refine s0 (rd_field' (off := 3) rfl Try.underlying120 rfl info66 rfl) ?_
      refine s0 (rd_load' (i := 3) (o := 3) rfl ⟨rfl, rfl, rfl, rfl⟩ rfl flat66) ?_
      refine s0 (rd_move' rfl) ?_
      refine s0 (rd_move' rfl) ?_
      refine s0 (rd_move' rfl) ?_
      obtain ⟨r75, hr75, hp⟩ := bind_some hp
      refine sx_call' (ih b hr75) Try.func63 isn63 rfl rfl pm6 rfl rfl (wt_none' rfl) fun w => ?_
      refine tx_perm' (H' := (⟨.pointer (some qe), [(If 62 (Vl (Vs g1))), (If 62 (Vl (Vs g2)))], 127, none⟩ :: (Rw Kf 40 (Vs g1) r31.1) :: (Rw Kf 40 (Vs g2) r31.2) :: ⟨.pointer (some q), [(If 62 (Sl Kf p)), (Vi pl), (Vl a.pv), (Vl b.pv), (Vp qe)], 120, none⟩ :: (a.res ++ w.1.res))) (List.Perm.symm pm6) ?_
      show SX E _ _ _ _ _
      refine s0 (rd_nilck' rfl) ?_
      refine s0 (rd_field' (off := 3) rfl Try.underlying120 rfl info66 rfl) ?_
      refine sx_ox' (ox_store' (i := 3) (o := 3) rfl rfl (GN.lv_pv _) ⟨rfl, rfl, rfl, rfl⟩ rfl info66 rfl (H' := (⟨.pointer (some qe), [(If 62 (Vl (Vs g1))), (If 62 (Vl (Vs g2)))], 127, none⟩ :: (Rw Kf 40 (Vs g1) r31.1) :: (Rw Kf 40 (Vs g2) r31.2) :: ⟨.pointer (some q), [(If 62 (Sl Kf p)), (Vi pl), (Vl a.pv), (Vl w.1.pv), (Vp qe)], 120, none⟩ :: (a.res ++ w.1.res))) rfl) (wt_none' rfl) fun _ => ?_
      refine sx_nil' ?_
      show TX E K7 _
      refine tx_perm' (H' := (GN.node q p pl a w.1 (.box qe g1 g2 r31.1 r31.2)).res) pm7 ?_
      refine tx_sub (sub_cons rfl sub_nil) (hK7 (a, w.1) ?_)
      have hw := w.2
      have hp := Option.some.inj hp
      simp only [GN.er, GB.er, hw]; exact hp




theorem impl_floatsO_sim {k : Nat}  (a0 : List Nat) {out : (List Nat)} (hp : impl_floats k a0 = some out) : Sx.Fn Try.prog 30 [(Sl Kf a0)] [] (fun w : Gs => (Vl (Vs w))) (fun w => [(Rw Kf 40 (Vs w) out)]) := by
 unfold impl_floats at hp
 refine fn_of Try.func30 rfl Try.ntmps30 rfl fun E hM => ?_
 refine cr fun K1 hK1 => ?_
 refine s0 (rd_assign' rfl) ?_
 refine nk hK1 ?_
 refine cr fun K2 hK2 => ?_
 refine s0 (rd_move' rfl) ?_
 refine tx_nilrow' Kf 40 ?_
 obtain ⟨r4, hr4, hp⟩ := bind_some hp
 refine sx_ox' (ox_append' (K := Kf) (i := 0) (xs := []) (ys := a0) rfl rfl rfl (sr_sl' rfl Try.underlying25) hr4 Try.underlying25 info40 rfl rfl rfl (H' := []) rfl) (wt_none' rfl) fun g4 => ?_
 refine s0 (rd_assign' rfl) ?_
 refine nk hK2 ?_
 refine cx_retc' ?_
 replace hp := Option.some.inj hp
 subst hp
 refine tx_pick' (L' := [(2, (Vl (Vs g4)))]) (H' := [(Rw Kf 40 (Vs g4) r4)]) [0] (sub_cons rfl sub_nil) (by decide) (pick_cons rfl pick_nil) ?_
 exact tx_ret1' Try.results30 rfl g4 (rv_tmp' rfl) (List.Sublist.refl _)


theorem pm9 {α : Type} {x y : α} {W A C : List α} : (W ++ (x :: y :: (A ++ C))).Perm (x :: y :: (A ++ W ++ C)) := by
  rw [List.append_assoc]
  exact List.perm_append_comm_assoc W (x :: y :: A) C
def kbx (k : Nat) (u v : List Nat) : Option G118 :=
 br (decide ((u.length : Int) = 0))
  (some .c0)
  ((impl_floats k u) >>= fun r9 =>
  (impl_floats k v) >>= fun r12 =>
  some (.c1 (.c0 r9) (.c0 r12)))
theorem kbx_sim {k : Nat} (u v : List Nat) {out : G118} (hp : kbx k u v = some out) : Sx.Fn Try.prog 81 [(Sl Kf u), (Sl Kf v)] [] (fun w : {e : GB // e.er = out} => (Vl w.1.pv)) (fun w => w.1.res) := by
 unfold kbx at hp
 refine fn_of Try.func81 rfl Try.ntmps81 rfl fun E hM => ?_
 refine cr fun K1 hK1 => ?_
 refine s0 (rd_assign' rfl) ?_
 refine nk hK1 ?_
 refine cx_seq' fun K2 hK2 => ?_
 refine cr fun K3 hK3 => ?_
 refine s0 (rd_move' rfl) ?_
 refine s0 (rd_len' rfl Try.underlying25) ?_
 refine s0 (rd_bin' rfl rfl eg_int ru_eql) ?_
 refine nk hK3 ?_
 refine cx_cond' rfl (fun h1 => ?_) (fun h1 => ?_)
 ·replace hp := (br_t h1).symm.trans hp
  refine cr fun K4 hK4 => ?_
  refine s0 (rd_assign' rfl) ?_
  refine nk hK4 ?_
  refine cx_retc' ?_
  replace hp := Option.some.inj hp
  subst hp
  refine tx_pick' (L' := [(4, (Vl (.pointer none)))]) (H' := []) [] (sub_cons rfl sub_nil) (by decide) pick_nil ?_
  exact tx_ret1' Try.results81 rfl (⟨GB.nil, rfl⟩ : {e : GB // e.er = G118.c0}) (rv_tmp' rfl) (List.Sublist.refl _)
 replace hp := (br_f h1).symm.trans hp
 refine cx_skip' ?_
 show TX E K2 _
 refine tx_k' hK2 ?_
 refine cr fun K5 hK5 => ?_
 refine s0 (rd_move' rfl) ?_
 obtain ⟨r9, hr9, hp⟩ := bind_some hp
 refine sx_ox' (ox_calln' (ent_fn' Try.func30 isn30 rfl rfl) (impl_floatsO_sim _ hr9 : Sx.Fn Try.prog 30 [(Sl Kf u)] [] (fun x : Gs => (Vl (Vs x))) (fun x => [(Rw Kf 40 (Vs x) r9)])) (Hn := fun x : Gs => [(Rw Kf 40 (Vs x) r9)]) (fun _ => rfl) rfl rfl) (wt_none' rfl) fun g9 => ?_
 refine s0 (rd_iface' rfl ⟨_, Try.underlying62, fun _ h => (nomatch h)⟩) ?_
 refine s0 (rd_move' rfl) ?_
 obtain ⟨r12, hr12, hp⟩ := bind_some hp
 refine sx_ox' (ox_calln' (ent_fn' Try.func30 isn30 rfl rfl) (impl_floatsO_sim _ hr12 : Sx.Fn Try.prog 30 [(Sl Kf v)] [] (fun x : Gs => (Vl (Vs x))) (fun x => [(Rw Kf 40 (Vs x) r12)])) (Hn := fun x : Gs => [(Rw Kf 40 (Vs x) r12), (Rw Kf 40 (Vs g9) r9)]) (fun _ => rfl) rfl rfl) (wt_none' rfl) fun g12 => ?_
 refine s0 (rd_iface' rfl ⟨_, Try.underlying62, fun _ h => (nomatch h)⟩) ?_
 refine s0 (rd_build' (pls := [(0, 1), (1, 1)]) (qs := [(0, [(If 62 (Vl (Vs g9)))]), (1, [(If 62 (Vl (Vs g12)))])]) (r := [(If 62 (Vl (Vs g9))), (If 62 (Vl (Vs g12)))]) ⟨rfl, ⟨_, rfl, (lv_if _ _)⟩, ⟨rfl, ⟨_, rfl, (lv_if _ _)⟩, trivial⟩⟩ Try.underlying127 has127 places127 info127 rfl rfl rfl) ?_
 refine sx_ox' (ox_box' rfl (lv_ag _) rfl rfl) (wt_none' rfl) fun q15 => ?_
 refine s0 (rd_assign' rfl) ?_
 refine nk hK5 ?_
 refine cx_retc' ?_
 replace hp := Option.some.inj hp
 subst hp
 refine tx_pick' (L' := [(4, (Vp q15))]) (H' := [⟨.pointer (some q15), [(If 62 (Vl (Vs g9))), (If 62 (Vl (Vs g12)))], 127, none⟩, (Rw Kf 40 (Vs g9) r9), (Rw Kf 40 (Vs g12) r12)]) [0, 2, 1] (sub_cons rfl sub_nil) (by decide) (pick_cons rfl (pick_cons rfl (pick_cons rfl pick_nil))) ?_
 exact tx_ret1' Try.results81 rfl (⟨GB.box q15 g9 g12 r9 r12, rfl⟩ : {e : GB // e.er = G118.c1 (.c0 r9) (.c0 r12)}) (rv_tmp' rfl) (List.Sublist.refl _)

abbrev KNl := (List Nat) × Int × Int × Int × (List Nat) × (List Nat)
def knd_b (rec1 : List KNl → Int → Option G66) (k : Nat) (t : List KNl) (i : Int) (x1 : Bool) : Option G66 :=
 br x1
  (some .c0)
  ((idx t i) >>= fun r17 =>
  (impl_floats k r17.1) >>= fun r21 =>
  (kbx k r17.2.2.2.2.1 r17.2.2.2.2.2) >>= fun r29 =>
  (br (decide (i < r17.2.2.1)) (rec1 t r17.2.2.1) (some .c0)) >>= fun a =>
  (br (decide (i < r17.2.2.2.1)) (rec1 t r17.2.2.2.1) (some .c0)) >>= fun b =>
  some (.c1 (.c0 r21) r17.2.1 a b r29))
def knd : Nat → List KNl → Int → Option G66
  | 0, _, _ => none
  | k + 1, t, i => br (decide (i < 0)) (knd_b (knd k) k t i true) (knd_b (knd k) k t i (decide ((t.length : Int) ≤ i)))
theorem knd_sim : ∀ (k : Nat) (t : List KNl) (i : Int) (out : G66), knd k t i = some out → Sx.Fn Try.prog 62 [(Sl KT37 t), (Vi i)] [] (fun w : {g' : GN // g'.er = out} => (Vl w.1.pv)) (fun w => w.1.res) := by
  intro k
  induction k with
  | zero => intro t i out hp; cases hp
  | succ k ih' =>
    have ih : ∀ {t : List KNl} {i : Int} {out : G66}, knd k t i = some out → Sx.Fn Try.prog 62 [(Sl KT37 t), (Vi i)] [] (fun w : {g' : GN // g'.er = out} => (Vl w.1.pv)) (fun w => w.1.res) := fun h => ih' _ _ _ h
    intro t i out hp
    replace hp : br (decide (i < 0)) (knd_b (knd k) k t i true) (knd_b (knd k) k t i (decide ((t.length : Int) ≤ i))) = some out := hp
    refine fn_of Try.func62 rfl Try.ntmps62 rfl fun E hM => ?_
    refine cr fun K1 hK1 => ?_
    refine s0 (rd_assign' rfl) ?_
    refine nk hK1 ?_
    refine cx_seq' fun K2 hK2 => ?_
    refine cr fun K3 hK3 => ?_
    refine s0 (rd_move' rfl) ?_
    refine s0 (rd_bin' rfl rfl eg_int ru_lss) ?_
    refine s0 (rd_move' rfl) ?_
    refine sx_cutn' 5 (fun (v1 : Bool) => (⟨55, [], [(0, (Sl KT37 t)), (1, (Vi i)), (14, (Vb v1))], []⟩ : St)) (fun (v1 : Bool) => knd_b (knd k) k t i v1 = some out) ?_ ?_
    ·rintro x1 hp
     replace hp : knd_b (knd k) k t i x1 = some out := hp
     unfold knd_b at hp
     refine nk hK3 ?_
     refine cx_cond' rfl (fun h2 => ?_) (fun h2 => ?_)
     ·replace hp := (br_t h2).symm.trans hp
      refine cr fun K5 hK5 => ?_
      refine s0 (rd_assign' rfl) ?_
      refine nk hK5 ?_
      refine cx_retc' ?_
      exact tx_ret1' Try.results62 rfl (⟨GN.nil, Option.some.inj hp⟩ : {g' : GN // g'.er = out}) (rv_tmp' rfl) (List.Sublist.refl _)
     replace hp := (br_f h2).symm.trans hp
     refine cx_skip' ?_
     show TX E K2 _
     refine tx_k' hK2 ?_
     refine cr fun K6 hK6 => ?_
     refine s0 (rd_move' rfl) ?_
     refine s0 (rd_move' rfl) ?_
     obtain ⟨r17, hr17, hp⟩ := bind_some hp
     refine s0 (rd_at' (K := KT37) rfl rfl hr17 Try.underlying26 info37) ?_
     refine s0 (rd_load_pt_agg' (nn := 6) rfl rfl agg37 (l' := [(Sl Kf r17.1), (Vi r17.2.1), (Vi r17.2.2.1), (Vi r17.2.2.2.1), (Sl Kf r17.2.2.2.2.1), (Sl Kf r17.2.2.2.2.2)]) rfl) ?_
     refine sx_ox' (ox_alloc' info37 rfl rfl rfl rfl (l := [Vn, (Vi 0), (Vi 0), (Vi 0), Vn, Vn]) rfl) (wt_none' rfl) fun q5 => ?_
     refine sx_ox' (ox_store' (i := 0) (o := 0) rfl rfl (lv_ag _) ⟨rfl, rfl, rfl, rfl⟩ rfl info37 rfl (H' := [⟨.pointer (some q5), [(Sl Kf r17.1), (Vi r17.2.1), (Vi r17.2.2.1), (Vi r17.2.2.2.1), (Sl Kf r17.2.2.2.2.1), (Sl Kf r17.2.2.2.2.2)], 37, none⟩]) rfl) (wt_none' rfl) fun _ => ?_
     refine nk hK6 ?_
     refine cx_seq' fun K7 hK7 => ?_
     refine cx_plan' [] [] [(0, 1), (1, 1), (4, 1), (5, 1), (6, 1), (7, 1), (8, 1), (9, 1), (2, 0), (3, 1), (10, 0), (11, 1), (12, 0), (13, 1)] mixed (by kernel_rfl) ?_
     refine px_rd' rfl (rd_field0' rfl Try.underlying37 rfl info25 rfl) rfl rfl (wt_none' rfl) ?_
     refine px_rd' rfl (rd_load' (i := 0) (o := 0) rfl ⟨rfl, rfl, rfl, rfl⟩ rfl flat25) rfl rfl (wt_none' rfl) ?_
     refine px_rd' rfl (rd_field' (off := 1) rfl Try.underlying37 rfl info3 rfl) rfl rfl (wt_none' rfl) ?_
     refine px_rd' rfl (rd_load' (i := 0) (o := 1) rfl ⟨rfl, rfl, rfl, rfl⟩ rfl flat3) rfl rfl (wt_none' rfl) ?_
     refine px_rd' rfl (rd_field' (off := 4) rfl Try.underlying37 rfl info25 rfl) rfl rfl (wt_none' rfl) ?_
     refine px_rd' rfl (rd_load' (i := 0) (o := 4) rfl ⟨rfl, rfl, rfl, rfl⟩ rfl flat25) rfl rfl (wt_none' rfl) ?_
     refine px_rd' rfl (rd_field' (off := 5) rfl Try.underlying37 rfl info25 rfl) rfl rfl (wt_none' rfl) ?_
     refine px_rd' rfl (rd_load' (i := 0) (o := 5) rfl ⟨rfl, rfl, rfl, rfl⟩ rfl flat25) rfl rfl (wt_none' rfl) ?_
     obtain ⟨r21, hr21, hp⟩ := bind_some hp
     refine px_ox' rfl (ox_calln' (ent_fn' Try.func30 isn30 rfl rfl) (impl_floats_sim _ hr21 : Sx.Fn Try.prog 30 [(Sl Kf r17.1)] [] (fun x : Unit => (Sl Kf r21)) (fun x => [])) (Hn := fun x : Unit => [⟨.pointer (some q5), [(Sl Kf r17.1), (Vi r17.2.1), (Vi r17.2.2.1), (Vi r17.2.2.2.1), (Sl Kf r17.2.2.2.2.1), (Sl Kf r17.2.2.2.2.2)], 37, none⟩]) (fun _ => rfl) rfl rfl) rfl bs_nil (wt_none' rfl) fun ⟨⟩ => ?_
     refine px_rd' rfl (rd_iface' rfl ⟨_, Try.underlying62, fun _ h => (nomatch h)⟩) rfl rfl (wt_none' rfl) ?_
     obtain ⟨r29, hr29, hp⟩ := bind_some hp
     refine px_ox' rfl (ox_calln' (ent_fn' Try.func81 isn81 rfl rfl) (kbx_sim _ _ hr29) (Hn := fun w : {e : GB // e.er = r29} => w.1.res ++ [⟨.pointer (some q5), [(Sl Kf r17.1), (Vi r17.2.1), (Vi r17.2.2.1), (Vi r17.2.2.2.1), (Sl Kf r17.2.2.2.2.1), (Sl Kf r17.2.2.2.2.2)], 37, none⟩]) (fun _ => rfl) rfl rfl) rfl bs_nil (wt_none' rfl) fun w => ?_
     obtain ⟨e, rfl⟩ := w
     refine px_rd' rfl (rd_build' (pls := [(0, 1), (1, 1), (2, 1), (3, 1), (4, 1)]) (qs := [(0, [(If 62 (Sl Kf r21))]), (1, [(Vi r17.2.1)]), (4, [(Vl e.pv)])]) (r := [(If 62 (Sl Kf r21)), (Vi r17.2.1), (Vl (.pointer none)), (Vl (.pointer none)), (Vl e.pv)]) ⟨rfl, ⟨_, rfl, (lv_if _ _)⟩, ⟨rfl, ⟨_, rfl, (lv_vl rfl rfl)⟩, ⟨rfl, ⟨_, rfl, (GB.lv_pv _)⟩, trivial⟩⟩⟩ Try.underlying120 has120 places120 info120 rfl rfl rfl) rfl rfl (wt_none' rfl) ?_
     refine px_ox' rfl (ox_box' rfl (lv_ag _) rfl rfl) rfl bs_nil (wt_none' rfl) fun q31 => ?_
     refine px_rd' rfl (rd_assign' rfl) rfl rfl (wt_none' rfl) ?_
     refine px_nil' ?_
     show TX E K7 _
     refine tx_perm' (H' := (⟨.pointer (some q31), [(If 62 (Sl Kf r21)), (Vi r17.2.1), (Vl GN.nil.pv), (Vl GN.nil.pv), (Vl e.pv)], 120, none⟩ :: ⟨.pointer (some q5), [(Sl Kf r17.1), (Vi r17.2.1), (Vi r17.2.2.1), (Vi r17.2.2.2.1), (Sl Kf r17.2.2.2.2.1), (Sl Kf r17.2.2.2.2.2)], 37, none⟩ :: e.res)) ((List.perm_append_comm (l₁ := e.res) (l₂ := [⟨.pointer (some q5), [(Sl Kf r17.1), (Vi r17.2.1), (Vi r17.2.2.1), (Vi r17.2.2.2.1), (Sl Kf r17.2.2.2.2.1), (Sl Kf r17.2.2.2.2.2)], 37, none⟩])).cons _) ?_
     refine tx_k' hK7 ?_
     refine cx_join' (fun (v : GN) => (⟨55, [], [(0, (Sl KT37 t)), (1, (Vi i)), (5, (Vp q5)), (6, (Vp q31))], ⟨.pointer (some q31), [(If 62 (Sl Kf r21)), (Vi r17.2.1), (Vl v.pv), (Vl GN.nil.pv), (Vl e.pv)], 120, none⟩ :: ⟨.pointer (some q5), [(Sl Kf r17.1), (Vi r17.2.1), (Vi r17.2.2.1), (Vi r17.2.2.2.1), (Sl Kf r17.2.2.2.2.1), (Sl Kf r17.2.2.2.2.2)], 37, none⟩ :: (v.res ++ e.res)⟩ : St)) (fun (v : GN) => ((br (decide (i < r17.2.2.2.1)) (knd k t r17.2.2.2.1) (some .c0)) >>= fun b => some (G66.c1 (.c0 r21) r17.2.1 v.er b e.er)) = some out) ?_ ?_
     · rintro a' hp
       refine cx_join' (fun (v : GN) => (⟨55, [], [(6, (Vp q31))], ⟨.pointer (some q31), [(If 62 (Sl Kf r21)), (Vi r17.2.1), (Vl a'.pv), (Vl v.pv), (Vl e.pv)], 120, none⟩ :: (a'.res ++ v.res ++ e.res)⟩ : St)) (fun (v : GN) => some (G66.c1 (.c0 r21) r17.2.1 a'.er v.er e.er) = some out) ?_ ?_
       · rintro b' hp
         refine cr fun K12 hK12 => ?_
         refine s0 (rd_move' rfl) ?_
         refine s0 (rd_assign' rfl) ?_
         refine nk hK12 ?_
         refine cx_retc' ?_
         exact tx_ret1' Try.results62 rfl (⟨GN.node q31 r21 r17.2.1 a' b' e, Option.some.inj hp⟩ : {g' : GN // g'.er = out}) (rv_tmp' rfl) (List.Sublist.refl _)
       intro K10 hK10
       refine cr fun K11 hK11 => ?_
       refine s0 (rd_field' (off := 3) rfl Try.underlying37 rfl info3 rfl) ?_
       refine s0 (rd_load' (i := 1) (o := 3) rfl ⟨rfl, rfl, rfl, rfl⟩ rfl flat3) ?_
       refine s0 (rd_move' rfl) ?_
       refine s0 (rd_bin' rfl rfl eg_int ru_gtr) ?_
       refine nk hK11 ?_
       refine cx_cond' rfl (fun h4 => ?_) (fun h4 => ?_)
       · rw [h4] at hp
         obtain ⟨r51, hr51, hp⟩ := bind_some hp
         refine cx_region' ?_
         refine s0 (rd_move' rfl) ?_
         refine s0 (rd_move' rfl) ?_
         refine s0 (rd_field' (off := 3) rfl Try.underlying37 rfl info3 rfl) ?_
         refine s0 (rd_load' (i := 1) (o := 3) rfl ⟨rfl, rfl, rfl, rfl⟩ rfl flat3) ?_
         refine sx_call' (ih hr51) Try.func62 isn62 rfl rfl (List.Perm.refl _) rfl rfl (wt_none' rfl) fun w => ?_
         obtain ⟨b', rfl⟩ := w
         refine tx_perm' (H' := (⟨.pointer (some q31), [(If 62 (Sl Kf r21)), (Vi r17.2.1), (Vl a'.pv), (Vl GN.nil.pv), (Vl e.pv)], 120, none⟩ :: ⟨.pointer (some q5), [(Sl Kf r17.1), (Vi r17.2.1), (Vi r17.2.2.1), (Vi r17.2.2.2.1), (Sl Kf r17.2.2.2.2.1), (Sl Kf r17.2.2.2.2.2)], 37, none⟩ :: (a'.res ++ b'.res ++ e.res))) pm9 ?_
         show SX E _ _ _ _ _
         refine s0 (rd_nilck' rfl) ?_
         refine s0 (rd_field' (off := 3) rfl Try.underlying120 rfl info66 rfl) ?_
         refine sx_ox' (ox_store' (i := 0) (o := 3) rfl rfl (GN.lv_pv _) ⟨rfl, rfl, rfl, rfl⟩ rfl info66 rfl (H' := (⟨.pointer (some q31), [(If 62 (Sl Kf r21)), (Vi r17.2.1), (Vl a'.pv), (Vl b'.pv), (Vl e.pv)], 120, none⟩ :: ⟨.pointer (some q5), [(Sl Kf r17.1), (Vi r17.2.1), (Vi r17.2.2.1), (Vi r17.2.2.2.1), (Sl Kf r17.2.2.2.2.1), (Sl Kf r17.2.2.2.2.2)], 37, none⟩ :: (a'.res ++ b'.res ++ e.res))) rfl) (wt_none' rfl) fun _ => ?_
         refine sx_nil' ?_
         show TX E K10 _
         refine tx_drop' (C := [⟨.pointer (some q5), [(Sl Kf r17.1), (Vi r17.2.1), (Vi r17.2.2.1), (Vi r17.2.2.2.1), (Sl Kf r17.2.2.2.2.1), (Sl Kf r17.2.2.2.2.2)], 37, none⟩]) (List.Perm.swap _ _ _) ?_
         exact tx_sub (sub_cons rfl sub_nil) (hK10 b' hp)
       · rw [h4] at hp
         refine cx_skip' ?_
         show TX E K10 _
         refine tx_drop' (C := [⟨.pointer (some q5), [(Sl Kf r17.1), (Vi r17.2.1), (Vi r17.2.2.1), (Vi r17.2.2.2.1), (Sl Kf r17.2.2.2.2.1), (Sl Kf r17.2.2.2.2.2)], 37, none⟩]) (H' := ⟨.pointer (some q31), [(If 62 (Sl Kf r21)), (Vi r17.2.1), (Vl a'.pv), (Vl GN.nil.pv), (Vl e.pv)], 120, none⟩ :: (a'.res ++ GN.nil.res ++ e.res)) (by simp only [GN.res, List.append_nil]; exact List.Perm.swap _ _ _) ?_
         exact tx_sub (sub_cons rfl sub_nil) (hK10 .nil hp)
     intro K8 hK8
     refine cr fun K9 hK9 => ?_
     refine s0 (rd_field' (off := 2) rfl Try.underlying37 rfl info3 rfl) ?_
     refine s0 (rd_load' (i := 1) (o := 2) rfl ⟨rfl, rfl, rfl, rfl⟩ rfl flat3) ?_
     refine s0 (rd_move' rfl) ?_
     refine s0 (rd_bin' rfl rfl eg_int ru_gtr) ?_
     refine nk hK9 ?_
     refine cx_cond' rfl (fun h3 => ?_) (fun h3 => ?_)
     · rw [h3] at hp
       obtain ⟨r40, hr40, hp⟩ := bind_some hp
       refine cx_region' ?_
       refine s0 (rd_move' rfl) ?_
       refine s0 (rd_move' rfl) ?_
       refine s0 (rd_field' (off := 2) rfl Try.underlying37 rfl info3 rfl) ?_
       refine s0 (rd_load' (i := 1) (o := 2) rfl ⟨rfl, rfl, rfl, rfl⟩ rfl flat3) ?_
       refine sx_call' (ih hr40) Try.func62 isn62 rfl rfl (List.Perm.refl _) rfl rfl (wt_none' rfl) fun w => ?_
       obtain ⟨a', rfl⟩ := w
       refine tx_perm' (H' := (⟨.pointer (some q31), [(If 62 (Sl Kf r21)), (Vi r17.2.1), (Vl GN.nil.pv), (Vl GN.nil.pv), (Vl e.pv)], 120, none⟩ :: ⟨.pointer (some q5), [(Sl Kf r17.1), (Vi r17.2.1), (Vi r17.2.2.1), (Vi r17.2.2.2.1), (Sl Kf r17.2.2.2.2.1), (Sl Kf r17.2.2.2.2.2)], 37, none⟩ :: (a'.res ++ e.res))) (List.perm_append_comm_assoc a'.res [_, _] e.res) ?_
       show SX E _ _ _ _ _
       refine s0 (rd_nilck' rfl) ?_
       refine s0 (rd_field' (off := 2) rfl Try.underlying120 rfl info66 rfl) ?_
       refine sx_ox' (ox_store' (i := 0) (o := 2) rfl rfl (GN.lv_pv _) ⟨rfl, rfl, rfl, rfl⟩ rfl info66 rfl (H' := (⟨.pointer (some q31), [(If 62 (Sl Kf r21)), (Vi r17.2.1), (Vl a'.pv), (Vl GN.nil.pv), (Vl e.pv)], 120, none⟩ :: ⟨.pointer (some q5), [(Sl Kf r17.1), (Vi r17.2.1), (Vi r17.2.2.1), (Vi r17.2.2.2.1), (Sl Kf r17.2.2.2.2.1), (Sl Kf r17.2.2.2.2.2)], 37, none⟩ :: (a'.res ++ e.res))) rfl) (wt_none' rfl) fun _ => ?_
       refine sx_nil' ?_
       show TX E K8 _
       exact tx_sub (sub_cons rfl (sub_cons rfl (sub_cons rfl (sub_cons rfl sub_nil)))) (hK8 a' hp)
     · rw [h3] at hp
       refine cx_skip' ?_
       show TX E K8 _
       exact tx_sub (sub_cons rfl (sub_cons rfl (sub_cons rfl (sub_cons rfl sub_nil)))) (hK8 .nil hp)
    intro K4 hK4
    rcases br_cases hp with ⟨h1, hp⟩ | ⟨h1, hp⟩
    ·refine sx_skip' rfl rfl (wt_is' (wt_guard' rfl rfl rfl) (beq_tf h1)) ?_
     refine sx_skip' rfl rfl (wt_is' (wt_guard' rfl rfl rfl) (beq_tf h1)) ?_
     refine sx_skip' rfl rfl (wt_is' (wt_guard' rfl rfl rfl) (beq_tf h1)) ?_
     refine sx_skip' rfl rfl (wt_is' (wt_guard' rfl rfl rfl) (beq_tf h1)) ?_
     refine s0 (rd_pick_true' rfl h1 rfl) ?_
     refine sx_nil' ?_
     show TX E K4 _
     exact tx_pick' [] (sub_cons rfl (sub_cons rfl (sub_cons rfl sub_nil))) (by decide) pick_nil (hK4 true hp)
    refine sx_rd' (rd_move' rfl) rfl rfl (wt_is' (wt_guard' rfl rfl rfl) (beq_ff h1)) ?_
    refine sx_rd' (rd_move' rfl) rfl rfl (wt_is' (wt_guard' rfl rfl rfl) (beq_ff h1)) ?_
    refine sx_rd' (rd_len' rfl Try.underlying26) rfl rfl (wt_is' (wt_guard' rfl rfl rfl) (beq_ff h1)) ?_
    refine sx_rd' (rd_bin' rfl rfl eg_int ru_geq) rfl rfl (wt_is' (wt_guard' rfl rfl rfl) (beq_ff h1)) ?_
    refine s0 (rd_pick_false' rfl h1 rfl) ?_
    refine sx_nil' ?_
    show TX E K4 _
    exact tx_pick' [] (sub_cons rfl (sub_cons rfl (sub_cons rfl sub_nil))) (by decide) pick_nil (hK4 (decide ((t.length : Int) ≤ i)) hp)

theorem pq1 {α : Type} {x : α} {A : List α} : (x :: A).Perm (A ++ [x]) := List.perm_append_comm (l₁ := [x]) (l₂ := A)
theorem pq2 {α : Type} {x : α} {A : List α} : (A ++ [x]).Perm (x :: A) := List.perm_append_comm (l₁ := A) (l₂ := [x])
theorem pq3 {α : Type} {x y z u : α} {A : List α} : ((x :: A) ++ [y, z, u]).Perm (x :: ([y, z, u] ++ A)) := (List.perm_append_comm (l₁ := A) (l₂ := [y, z, u])).cons x
theorem pq4 {α : Type} {x y z u : α} {A : List α} : (x :: ([y, z, u] ++ A)).Perm ((x :: A) ++ [y, z, u]) := pq3.symm
theorem pq5 {α : Type} {x y z u : α} {A : List α} : (x :: ([y, z, u] ++ A)).Perm (A ++ [x, y, z, u]) := List.perm_append_comm (l₁ := [x, y, z, u]) (l₂ := A)
/-! #### an owned tree is written no more -/
theorem bfrz (e : GB) (w : World) (U : Nat → Prop) (v : Value) (ho : ∀ q ∈ e.res, q.own w U) (hb : ∀ q ∈ e.res, ∀ b ∈ q.blk, U b) (hv : (Vl e.pv).R w U v) : (SG118 e.er).R w U v := by
  cases e with
  | nil => exact hv
  | box q g h x y =>
    have hv' : v = .pointer (some q) := hv
    obtain ⟨b, vs, e1, e2, e3⟩ := ho _ (List.mem_cons_self)
    have hq : q = ⟨b, 0, none⟩ := by simpa using e1
    subst hq
    have hx : (Sl Kf x).R w U (Vs g) := row_sl (by decide) (ho (Rw Kf 40 (Vs g) x) (by simp [GB.res])) (hb (Rw Kf 40 (Vs g) x) (by simp [GB.res]))
    have hy : (Sl Kf y).R w U (Vs h) := row_sl (by decide) (ho (Rw Kf 40 (Vs h) y) (by simp [GB.res])) (hb (Rw Kf 40 (Vs h) y) (by simp [GB.res]))
    refine ⟨b, 0, hv', hb _ (List.mem_cons_self) b (by simp [Res.blk, blkOf]), fun j s hj => ?_⟩
    have cell : ∀ {j : Nat} {s : SV}, [(If 62 (Vl (Vs g))), (If 62 (Vl (Vs h)))][j]? = some s → ∃ z, w.cell? ⟨b, 0 + j, none⟩ = some z ∧ s.C w U z := fun hj => by
      obtain ⟨z, hz, hR⟩ := e3.get hj
      exact ⟨z, by simp [World.cell?, e2, hz], hR⟩
    match j with
    | 0 =>
      obtain ⟨z, hz, ⟨t, ht, htR⟩, ho⟩ := cell (j := 0) rfl
      have : s = If 62 (Sl Kf x) := by simpa [SG116] using hj.symm
      subst this
      exact ⟨z, hz, ⟨t, ht, by have : t = Vs g := htR; subst this; exact hx⟩, ho⟩
    | 1 =>
      obtain ⟨z, hz, ⟨t, ht, htR⟩, ho⟩ := cell (j := 1) rfl
      have : s = If 62 (Sl Kf y) := by simpa [SG116] using hj.symm
      subst this
      exact ⟨z, hz, ⟨t, ht, by have : t = Vs h := htR; subst this; exact hy⟩, ho⟩
    | j + 2 => simp at hj
theorem gfrz : ∀ (g : GN) (w : World) (U : Nat → Prop) (v : Value), (∀ q ∈ g.res, q.own w U) → (∀ q ∈ g.res, ∀ b ∈ q.blk, U b) → (Vl g.pv).R w U v → (SG66 g.er).R w U v
  | .nil, w, U, v, ho, hb, hv => hv
  | .node q p pl a b e, w, U, v, ho, hb, hv => by
    have hv' : v = .pointer (some q) := hv
    obtain ⟨bl, vs, e1, e2, e3⟩ := ho _ (List.mem_cons_self)
    have hq : q = ⟨bl, 0, none⟩ := by simpa using e1
    subst hq
    have ma : ∀ r ∈ a.res, r ∈ (GN.node ⟨bl, 0, none⟩ p pl a b e).res := fun r hr => by simp [GN.res, hr]
    have mb : ∀ r ∈ b.res, r ∈ (GN.node ⟨bl, 0, none⟩ p pl a b e).res := fun r hr => by simp [GN.res, hr]
    have me : ∀ r ∈ e.res, r ∈ (GN.node ⟨bl, 0, none⟩ p pl a b e).res := fun r hr => by simp [GN.res, hr]
    refine ⟨bl, 0, hv', hb _ (List.mem_cons_self) bl (by simp [Res.blk, blkOf]), fun j s hj => ?_⟩
    have cell : ∀ {j : Nat} {s : SV}, [(If 62 (Sl Kf p)), (Vi pl), (Vl a.pv), (Vl b.pv), (Vl e.pv)][j]? = some s → ∃ z, w.cell? ⟨bl, 0 + j, none⟩ = some z ∧ s.C w U z := fun hj => by
      obtain ⟨z, hz, hR⟩ := e3.get hj
      exact ⟨z, by simp [World.cell?, e2, hz], hR⟩
    match j with
    | 0 =>
      have : s = If 62 (Sl Kf p) := by simpa [GN.er, SG116] using hj.symm
      subst this
      exact cell (j := 0) rfl
    | 1 =>
      have : s = Vi pl := by simpa [GN.er] using hj.symm
      subst this
      exact cell (j := 1) rfl
    | 2 =>
      have : s = SG66 a.er := by simpa [GN.er] using hj.symm
      subst this
      obtain ⟨z, hz, hR, h1⟩ := cell (j := 2) rfl
      exact ⟨z, hz, gfrz a w U z (fun r hr => ho r (ma r hr)) (fun r hr => hb r (ma r hr)) hR, h1⟩
    | 3 =>
      have : s = SG66 b.er := by simpa [GN.er] using hj.symm
      subst this
      obtain ⟨z, hz, hR, h1⟩ := cell (j := 3) rfl
      exact ⟨z, hz, gfrz b w U z (fun r hr => ho r (mb r hr)) (fun r hr => hb r (mb r hr)) hR, h1⟩
    | 4 =>
      have : s = SG118 e.er := by simpa [GN.er] using hj.symm
      subst this
      obtain ⟨z, hz, hR, h1⟩ := cell (j := 4) rfl
      exact ⟨z, hz, bfrz e w U z (fun r hr => ho r (me r hr)) (fun r hr => hb r (me r hr)) hR, h1⟩
    | j + 5 => simp [GN.er] at hj

def kInsert (k : Nat) (c : List Nat) (T : G66) (bo : Bool) : Option G66 := match T with
  | .c0 => br bo (kinsB c k .c0 0) (kins c k .c0 0)
  | .c1 x pl a b .c0 => kins c k (.c1 x pl a b .c0) 0
  | .c1 x pl a b (.c1 y z) => kinsB c k (.c1 x pl a b (.c1 y z)) 0
theorem kInsert_sim {k : Nat} {qt : Addr} (c : List Nat) (g : GN) (n : Int) (bo : Bool) {out : G66} (hp : kInsert k c g.er bo = some out) : Sx.Fn Try.prog 29 [(Vp qt), (If 62 (Sl Kf c)), (Vb bo)] (⟨.pointer (some qt), [(Vl g.pv), (Vi n)], 68, none⟩ :: g.res) (fun w : {g' : GN // g'.er = out} => (Vl (.tuple #[]))) (fun w => ⟨.pointer (some qt), [(Vl w.1.pv), (Vi (iadd .i64 n 1))], 68, none⟩ :: w.1.res) := by
  cases g with
  | nil =>
    cases bo with
    | true =>
      replace hp : kinsB c k GN.nil.er 0 = some out := hp
      refine fn_of Try.func29 rfl Try.ntmps29 rfl fun E hM => ?_
      refine cr fun K1 hK1 => ?_
      refine s0 (rd_move' rfl) ?_
      refine s0 (rd_nilck' rfl) ?_
      refine s0 (rd_field' (off := 1) rfl Try.underlying68 rfl info3 rfl) ?_
      refine s0 (rd_load' (i := 0) (o := 1) rfl ⟨rfl, rfl, rfl, rfl⟩ rfl flat3) ?_
      refine s0 (rd_bin' rfl rfl eg_int ru_add) ?_
      refine s0 (rd_nilck' rfl) ?_
      refine s0 (rd_field' (off := 1) rfl Try.underlying68 rfl info3 rfl) ?_
      refine sx_ox' (ox_store' (i := 0) (o := 1) rfl rfl (lv_vl rfl rfl) ⟨rfl, rfl, rfl, rfl⟩ rfl info3 rfl (H' := (⟨.pointer (some qt), [(Vl GN.nil.pv), (Vi (iadd .i64 n 1))], 68, none⟩ :: GN.nil.res)) rfl) (wt_none' rfl) fun _ => ?_
      refine nk hK1 ?_
      refine cx_seq' fun K2 hK2 => ?_
      refine cr fun K3 hK3 => ?_
      refine s0 (rd_move' rfl) ?_
      refine s0 (rd_nilck' rfl) ?_
      refine s0 (rd_field0' rfl Try.underlying68 rfl info66 rfl) ?_
      refine s0 (rd_load' (i := 0) (o := 0) rfl ⟨rfl, rfl, rfl, rfl⟩ rfl flat66) ?_
      refine s0 (rd_binf' rfl rfl (bf_vl (fun _ => by kernel_rfl) nil_neq66_nilptr)) ?_
      refine nk hK3 ?_
      refine cx_cond_f' rfl rfl ?_
      refine cx_skip' ?_
      show TX E K2 _
      refine tx_k' hK2 ?_
      refine cx_seq' fun K4 hK4 => ?_
      refine cr fun K5 hK5 => ?_
      refine s0 (rd_move' rfl) ?_
      refine s0 (rd_assert' rfl (F := fun v => .tuple #[.iface 62 v, .bool true]) as62_116_122k as_ifok) ?_
      refine s0 (rd_move' rfl) ?_
      refine s0 (rd_extract' rfl rfl) ?_
      refine s0 (rd_extract' rfl rfl) ?_
      refine s0 (rd_assign' rfl) ?_
      refine s0 (rd_assign' rfl) ?_
      refine nk hK5 ?_
      refine cr fun K6 hK6 => ?_
      refine s0 (rd_move' rfl) ?_
      refine s0 (rd_move' rfl) ?_
      refine sx_rd' (rd_move' rfl) rfl rfl (wt_is' (wt_guard' rfl rfl rfl) (beq_tt rfl)) ?_
      refine s0 (rd_pick_true' rfl rfl rfl) ?_
      refine nk hK6 ?_
      refine cx_cond_t' rfl rfl ?_
      refine cr fun K7 hK7 => ?_
      refine s0 (rd_move' rfl) ?_
      refine s0 (rd_move' rfl) ?_
      refine s0 (rd_nilck' rfl) ?_
      refine s0 (rd_field0' rfl Try.underlying68 rfl info66 rfl) ?_
      refine s0 (rd_load' (i := 0) (o := 0) rfl ⟨rfl, rfl, rfl, rfl⟩ rfl flat66) ?_
      refine s0 (rd_move' rfl) ?_
      refine s0 (rd_move' rfl) ?_
      refine sx_call' (kinsB_sim c k GN.nil 0 out hp) Try.func63 isn63 rfl rfl pq1 rfl rfl (wt_none' rfl) fun w => ?_
      refine tx_perm' (H' := (⟨.pointer (some qt), [(Vl GN.nil.pv), (Vi (iadd .i64 n 1))], 68, none⟩ :: w.1.res)) pq2 ?_
      show SX E _ _ _ _ _
      refine s0 (rd_nilck' rfl) ?_
      refine s0 (rd_field0' rfl Try.underlying68 rfl info66 rfl) ?_
      refine sx_ox' (ox_store' (i := 0) (o := 0) rfl rfl (GN.lv_pv _) ⟨rfl, rfl, rfl, rfl⟩ rfl info66 rfl (H' := (⟨.pointer (some qt), [(Vl w.1.pv), (Vi (iadd .i64 n 1))], 68, none⟩ :: w.1.res)) rfl) (wt_none' rfl) fun _ => ?_
      refine nk hK7 ?_
      refine cx_retc' ?_
      exact tx_ret0' Try.results29 rfl w rfl (List.Sublist.refl _)

    | false =>
      replace hp : kins c k GN.nil.er 0 = some out := hp
      refine fn_of Try.func29 rfl Try.ntmps29 rfl fun E hM => ?_
      refine cr fun K1 hK1 => ?_
      refine s0 (rd_move' rfl) ?_
      refine s0 (rd_nilck' rfl) ?_
      refine s0 (rd_field' (off := 1) rfl Try.underlying68 rfl info3 rfl) ?_
      refine s0 (rd_load' (i := 0) (o := 1) rfl ⟨rfl, rfl, rfl, rfl⟩ rfl flat3) ?_
      refine s0 (rd_bin' rfl rfl eg_int ru_add) ?_
      refine s0 (rd_nilck' rfl) ?_
      refine s0 (rd_field' (off := 1) rfl Try.underlying68 rfl info3 rfl) ?_
      refine sx_ox' (ox_store' (i := 0) (o := 1) rfl rfl (lv_vl rfl rfl) ⟨rfl, rfl, rfl, rfl⟩ rfl info3 rfl (H' := (⟨.pointer (some qt), [(Vl GN.nil.pv), (Vi (iadd .i64 n 1))], 68, none⟩ :: GN.nil.res)) rfl) (wt_none' rfl) fun _ => ?_
      refine nk hK1 ?_
      refine cx_seq' fun K2 hK2 => ?_
      refine cr fun K3 hK3 => ?_
      refine s0 (rd_move' rfl) ?_
      refine s0 (rd_nilck' rfl) ?_
      refine s0 (rd_field0' rfl Try.underlying68 rfl info66 rfl) ?_
      refine s0 (rd_load' (i := 0) (o := 0) rfl ⟨rfl, rfl, rfl, rfl⟩ rfl flat66) ?_
      refine s0 (rd_binf' rfl rfl (bf_vl (fun _ => by kernel_rfl) nil_neq66_nilptr)) ?_
      refine nk hK3 ?_
      refine cx_cond_f' rfl rfl ?_
      refine cx_skip' ?_
      show TX E K2 _
      refine tx_k' hK2 ?_
      refine cx_seq' fun K4 hK4 => ?_
      refine cr fun K5 hK5 => ?_
      refine s0 (rd_move' rfl) ?_
      refine s0 (rd_assert' rfl (F := fun v => .tuple #[.iface 62 v, .bool true]) as62_116_122k as_ifok) ?_
      refine s0 (rd_move' rfl) ?_
      refine s0 (rd_extract' rfl rfl) ?_
      refine s0 (rd_extract' rfl rfl) ?_
      refine s0 (rd_assign' rfl) ?_
      refine s0 (rd_assign' rfl) ?_
      refine nk hK5 ?_
      refine cr fun K6 hK6 => ?_
      refine s0 (rd_move' rfl) ?_
      refine s0 (rd_move' rfl) ?_
      refine sx_rd' (rd_move' rfl) rfl rfl (wt_is' (wt_guard' rfl rfl rfl) (beq_tt rfl)) ?_
      refine s0 (rd_pick_true' rfl rfl rfl) ?_
      refine nk hK6 ?_
      refine cx_cond_f' rfl rfl ?_
      refine cr fun K7 hK7 => ?_
      refine s0 (rd_move' rfl) ?_
      refine s0 (rd_un' rfl ru_not) ?_
      refine s0 (rd_move' rfl) ?_
      refine sx_skip' rfl rfl (wt_is' (wt_guard' rfl rfl rfl) (beq_ft rfl)) ?_
      refine sx_skip' rfl rfl (wt_is' (wt_guard' rfl rfl rfl) (beq_ft rfl)) ?_
      refine sx_skip' rfl rfl (wt_is' (wt_guard' rfl rfl rfl) (beq_ft rfl)) ?_
      refine sx_skip' rfl rfl (wt_is' (wt_guard' rfl rfl rfl) (beq_ft rfl)) ?_
      refine sx_skip' rfl rfl (wt_is' (wt_guard' rfl rfl rfl) (beq_ft rfl)) ?_
      refine s0 (rd_pick_false' rfl rfl rfl) ?_
      refine nk hK7 ?_
      refine cx_cond_f' rfl rfl ?_
      refine cx_skip' ?_
      show TX E K4 _
      refine tx_k' hK4 ?_
      refine cx_region' ?_
      refine s0 (rd_move' rfl) ?_
      refine s0 (rd_move' rfl) ?_
      refine s0 (rd_nilck' rfl) ?_
      refine s0 (rd_field0' rfl Try.underlying68 rfl info66 rfl) ?_
      refine s0 (rd_load' (i := 0) (o := 0) rfl ⟨rfl, rfl, rfl, rfl⟩ rfl flat66) ?_
      refine s0 (rd_move' rfl) ?_
      refine sx_call' (kins_sim c k GN.nil 0 out hp) Try.func64 isn64 rfl rfl pq1 rfl rfl (wt_none' rfl) fun w => ?_
      refine tx_perm' (H' := (⟨.pointer (some qt), [(Vl GN.nil.pv), (Vi (iadd .i64 n 1))], 68, none⟩ :: w.1.res)) pq2 ?_
      show SX E _ _ _ _ _
      refine s0 (rd_nilck' rfl) ?_
      refine s0 (rd_field0' rfl Try.underlying68 rfl info66 rfl) ?_
      refine sx_ox' (ox_store' (i := 0) (o := 0) rfl rfl (GN.lv_pv _) ⟨rfl, rfl, rfl, rfl⟩ rfl info66 rfl (H' := (⟨.pointer (some qt), [(Vl w.1.pv), (Vi (iadd .i64 n 1))], 68, none⟩ :: w.1.res)) rfl) (wt_none' rfl) fun _ => ?_
      refine sx_nil' ?_
      exact tx_end0' Try.results29 rfl w rfl (List.Sublist.refl _)

  | node q p pl a b e =>
    cases e with
    | nil =>
      replace hp : kins c k (GN.node q p pl a b .nil).er 0 = some out := hp
      refine fn_of Try.func29 rfl Try.ntmps29 rfl fun E hM => ?_
      refine cr fun K1 hK1 => ?_
      refine s0 (rd_move' rfl) ?_
      refine s0 (rd_nilck' rfl) ?_
      refine s0 (rd_field' (off := 1) rfl Try.underlying68 rfl info3 rfl) ?_
      refine s0 (rd_load' (i := 0) (o := 1) rfl ⟨rfl, rfl, rfl, rfl⟩ rfl flat3) ?_
      refine s0 (rd_bin' rfl rfl eg_int ru_add) ?_
      refine s0 (rd_nilck' rfl) ?_
      refine s0 (rd_field' (off := 1) rfl Try.underlying68 rfl info3 rfl) ?_
      refine sx_ox' (ox_store' (i := 0) (o := 1) rfl rfl (lv_vl rfl rfl) ⟨rfl, rfl, rfl, rfl⟩ rfl info3 rfl (H' := (⟨.pointer (some qt), [(Vl (GN.node q p pl a b .nil).pv), (Vi (iadd .i64 n 1))], 68, none⟩ :: (GN.node q p pl a b .nil).res)) rfl) (wt_none' rfl) fun _ => ?_
      refine nk hK1 ?_
      refine cx_seq' fun K2 hK2 => ?_
      refine cr fun K3 hK3 => ?_
      refine s0 (rd_move' rfl) ?_
      refine s0 (rd_nilck' rfl) ?_
      refine s0 (rd_field0' rfl Try.underlying68 rfl info66 rfl) ?_
      refine s0 (rd_load' (i := 0) (o := 0) rfl ⟨rfl, rfl, rfl, rfl⟩ rfl flat66) ?_
      refine s0 (rd_binf' rfl rfl (bf_vl (fun _ => by kernel_rfl) (nil_neq66_ptr _))) ?_
      refine nk hK3 ?_
      refine cx_cond_t' rfl rfl ?_
      refine cx_region' ?_
      refine s0 (rd_move' rfl) ?_
      refine s0 (rd_nilck' rfl) ?_
      refine s0 (rd_field0' rfl Try.underlying68 rfl info66 rfl) ?_
      refine s0 (rd_load' (i := 0) (o := 0) rfl ⟨rfl, rfl, rfl, rfl⟩ rfl flat66) ?_
      refine s0 (rd_nilck' rfl) ?_
      refine s0 (rd_field' (off := 4) rfl Try.underlying120 rfl info118 rfl) ?_
      refine s0 (rd_load' (i := 1) (o := 4) rfl ⟨rfl, rfl, rfl, rfl⟩ rfl flat118) ?_
      refine s0 (rd_binf' rfl rfl (bf_vl (fun _ => by kernel_rfl) nil_neq118_nilptr)) ?_
      refine s0 (rd_assign' rfl) ?_
      refine nk hK2 ?_
      refine cx_seq' fun K4 hK4 => ?_
      refine cr fun K5 hK5 => ?_
      refine s0 (rd_move' rfl) ?_
      refine s0 (rd_assert' rfl (F := fun v => .tuple #[.iface 62 v, .bool true]) as62_116_122k as_ifok) ?_
      refine s0 (rd_move' rfl) ?_
      refine s0 (rd_extract' rfl rfl) ?_
      refine s0 (rd_extract' rfl rfl) ?_
      refine s0 (rd_assign' rfl) ?_
      refine s0 (rd_assign' rfl) ?_
      refine nk hK5 ?_
      refine cr fun K6 hK6 => ?_
      refine s0 (rd_move' rfl) ?_
      refine s0 (rd_move' rfl) ?_
      refine sx_rd' (rd_move' rfl) rfl rfl (wt_is' (wt_guard' rfl rfl rfl) (beq_tt rfl)) ?_
      refine s0 (rd_pick_true' rfl rfl rfl) ?_
      refine nk hK6 ?_
      refine cx_cond_f' rfl rfl ?_
      refine cr fun K7 hK7 => ?_
      refine s0 (rd_move' rfl) ?_
      refine s0 (rd_un' rfl ru_not) ?_
      refine s0 (rd_move' rfl) ?_
      refine sx_skip' rfl rfl (wt_is' (wt_guard' rfl rfl rfl) (beq_ft rfl)) ?_
      refine sx_skip' rfl rfl (wt_is' (wt_guard' rfl rfl rfl) (beq_ft rfl)) ?_
      refine sx_skip' rfl rfl (wt_is' (wt_guard' rfl rfl rfl) (beq_ft rfl)) ?_
      refine sx_skip' rfl rfl (wt_is' (wt_guard' rfl rfl rfl) (beq_ft rfl)) ?_
      refine sx_skip' rfl rfl (wt_is' (wt_guard' rfl rfl rfl) (beq_ft rfl)) ?_
      refine s0 (rd_pick_false' rfl rfl rfl) ?_
      refine nk hK7 ?_
      refine cx_cond_f' rfl rfl ?_
      refine cx_skip' ?_
      show TX E K4 _
      refine tx_k' hK4 ?_
      refine cx_region' ?_
      refine s0 (rd_move' rfl) ?_
      refine s0 (rd_move' rfl) ?_
      refine s0 (rd_nilck' rfl) ?_
      refine s0 (rd_field0' rfl Try.underlying68 rfl info66 rfl) ?_
      refine s0 (rd_load' (i := 0) (o := 0) rfl ⟨rfl, rfl, rfl, rfl⟩ rfl flat66) ?_
      refine s0 (rd_move' rfl) ?_
      refine sx_call' (kins_sim c k (GN.node q p pl a b .nil) 0 out hp) Try.func64 isn64 rfl rfl pq1 rfl rfl (wt_none' rfl) fun w => ?_
      refine tx_perm' (H' := (⟨.pointer (some qt), [(Vl (GN.node q p pl a b .nil).pv), (Vi (iadd .i64 n 1))], 68, none⟩ :: w.1.res)) pq2 ?_
      show SX E _ _ _ _ _
      refine s0 (rd_nilck' rfl) ?_
      refine s0 (rd_field0' rfl Try.underlying68 rfl info66 rfl) ?_
      refine sx_ox' (ox_store' (i := 0) (o := 0) rfl rfl (GN.lv_pv _) ⟨rfl, rfl, rfl, rfl⟩ rfl info66 rfl (H' := (⟨.pointer (some qt), [(Vl w.1.pv), (Vi (iadd .i64 n 1))], 68, none⟩ :: w.1.res)) rfl) (wt_none' rfl) fun _ => ?_
      refine sx_nil' ?_
      exact tx_end0' Try.results29 rfl w rfl (List.Sublist.refl _)

    | box qe g1 g2 u v =>
      replace hp : kinsB c k (GN.node q p pl a b (.box qe g1 g2 u v)).er 0 = some out := hp
      refine fn_of Try.func29 rfl Try.ntmps29 rfl fun E hM => ?_
      refine cr fun K1 hK1 => ?_
      refine s0 (rd_move' rfl) ?_
      refine s0 (rd_nilck' rfl) ?_
      refine s0 (rd_field' (off := 1) rfl Try.underlying68 rfl info3 rfl) ?_
      refine s0 (rd_load' (i := 0) (o := 1) rfl ⟨rfl, rfl, rfl, rfl⟩ rfl flat3) ?_
      refine s0 (rd_bin' rfl rfl eg_int ru_add) ?_
      refine s0 (rd_nilck' rfl) ?_
      refine s0 (rd_field' (off := 1) rfl Try.underlying68 rfl info3 rfl) ?_
      refine sx_ox' (ox_store' (i := 0) (o := 1) rfl rfl (lv_vl rfl rfl) ⟨rfl, rfl, rfl, rfl⟩ rfl info3 rfl (H' := (⟨.pointer (some qt), [(Vl (GN.node q p pl a b (.box qe g1 g2 u v)).pv), (Vi (iadd .i64 n 1))], 68, none⟩ :: (GN.node q p pl a b (.box qe g1 g2 u v)).res)) rfl) (wt_none' rfl) fun _ => ?_
      refine nk hK1 ?_
      refine cx_seq' fun K2 hK2 => ?_
      refine cr fun K3 hK3 => ?_
      refine s0 (rd_move' rfl) ?_
      refine s0 (rd_nilck' rfl) ?_
      refine s0 (rd_field0' rfl Try.underlying68 rfl info66 rfl) ?_
      refine s0 (rd_load' (i := 0) (o := 0) rfl ⟨rfl, rfl, rfl, rfl⟩ rfl flat66) ?_
      refine s0 (rd_binf' rfl rfl (bf_vl (fun _ => by kernel_rfl) (nil_neq66_ptr _))) ?_
      refine nk hK3 ?_
      refine cx_cond_t' rfl rfl ?_
      refine cx_region' ?_
      refine s0 (rd_move' rfl) ?_
      refine s0 (rd_nilck' rfl) ?_
      refine s0 (rd_field0' rfl Try.underlying68 rfl info66 rfl) ?_
      refine s0 (rd_load' (i := 0) (o := 0) rfl ⟨rfl, rfl, rfl, rfl⟩ rfl flat66) ?_
      refine s0 (rd_nilck' rfl) ?_
      refine s0 (rd_field' (off := 4) rfl Try.underlying120 rfl info118 rfl) ?_
      refine s0 (rd_load' (i := 1) (o := 4) rfl ⟨rfl, rfl, rfl, rfl⟩ rfl flat118) ?_
      refine s0 (rd_binf' rfl rfl (bf_vl (fun _ => by kernel_rfl) (nil_neq118_ptr _))) ?_
      refine s0 (rd_assign' rfl) ?_
      refine nk hK2 ?_
      refine cx_seq' fun K4 hK4 => ?_
      refine cr fun K5 hK5 => ?_
      refine s0 (rd_move' rfl) ?_
      refine s0 (rd_assert' rfl (F := fun v => .tuple #[.iface 62 v, .bool true]) as62_116_122k as_ifok) ?_
      refine s0 (rd_move' rfl) ?_
      refine s0 (rd_extract' rfl rfl) ?_
      refine s0 (rd_extract' rfl rfl) ?_
      refine s0 (rd_assign' rfl) ?_
      refine s0 (rd_assign' rfl) ?_
      refine nk hK5 ?_
      refine cr fun K6 hK6 => ?_
      refine s0 (rd_move' rfl) ?_
      refine s0 (rd_move' rfl) ?_
      refine sx_rd' (rd_move' rfl) rfl rfl (wt_is' (wt_guard' rfl rfl rfl) (beq_tt rfl)) ?_
      refine s0 (rd_pick_true' rfl rfl rfl) ?_
      refine nk hK6 ?_
      refine cx_cond_t' rfl rfl ?_
      refine cr fun K7 hK7 => ?_
      refine s0 (rd_move' rfl) ?_
      refine s0 (rd_move' rfl) ?_
      refine s0 (rd_nilck' rfl) ?_
      refine s0 (rd_field0' rfl Try.underlying68 rfl info66 rfl) ?_
      refine s0 (rd_load' (i := 0) (o := 0) rfl ⟨rfl, rfl, rfl, rfl⟩ rfl flat66) ?_
      refine s0 (rd_move' rfl) ?_
      refine s0 (rd_move' rfl) ?_
      refine sx_call' (kinsB_sim c k (GN.node q p pl a b (.box qe g1 g2 u v)) 0 out hp) Try.func63 isn63 rfl rfl pq1 rfl rfl (wt_none' rfl) fun w => ?_
      refine tx_perm' (H' := (⟨.pointer (some qt), [(Vl (GN.node q p pl a b (.box qe g1 g2 u v)).pv), (Vi (iadd .i64 n 1))], 68, none⟩ :: w.1.res)) pq2 ?_
      show SX E _ _ _ _ _
      refine s0 (rd_nilck' rfl) ?_
      refine s0 (rd_field0' rfl Try.underlying68 rfl info66 rfl) ?_
      refine sx_ox' (ox_store' (i := 0) (o := 0) rfl rfl (GN.lv_pv _) ⟨rfl, rfl, rfl, rfl⟩ rfl info66 rfl (H' := (⟨.pointer (some qt), [(Vl w.1.pv), (Vi (iadd .i64 n 1))], 68, none⟩ :: w.1.res)) rfl) (wt_none' rfl) fun _ => ?_
      refine nk hK7 ?_
      refine cx_retc' ?_
      exact tx_ret0' Try.results29 rfl w rfl (List.Sublist.refl _)


theorem ktree_sim {k : Nat} (t : List KNl) (i : Int) {out : G66} (hp : knd k t i = some out) : Sx.Fn Try.prog 28 [(Sl KT37 t), (Vi i)] [] (fun w : Addr × {g' : GN // g'.er = out} => (Vp w.1)) (fun w => ⟨.pointer (some w.1), [(Vl w.2.1.pv), (Vi (t.length : Int))], 68, none⟩ :: w.2.1.res) := by
 refine fn_of Try.func28 rfl Try.ntmps28 rfl fun E hM => ?_
 refine cr fun K1 hK1 => ?_
 refine s0 (rd_assign' rfl) ?_
 refine nk hK1 ?_
 refine cr fun K2 hK2 => ?_
 refine s0 (rd_move' rfl) ?_
 refine s0 (rd_move' rfl) ?_
 refine sx_call' (knd_sim k t i out hp) Try.func62 isn62 rfl rfl (List.Perm.refl _) rfl rfl (wt_none' rfl) fun w => ?_
 obtain ⟨g, hg⟩ := w
 refine s0 (rd_move' rfl) ?_
 refine s0 (rd_len' rfl Try.underlying26) ?_
 refine s0 (rd_build' (pls := [(0, 1), (1, 1)]) (qs := [(0, [(Vl g.pv)]), (1, [(Vi (t.length : Int))])]) (r := [(Vl g.pv), (Vi (t.length : Int))]) ⟨rfl, ⟨_, rfl, (GN.lv_pv _)⟩, ⟨rfl, ⟨_, rfl, (lv_vl rfl rfl)⟩, trivial⟩⟩ Try.underlying68 has68 places68 info68 rfl rfl rfl) ?_
 refine sx_ox' (ox_box' rfl (lv_ag _) rfl rfl) (wt_none' rfl) fun q11 => ?_
 refine s0 (rd_assign' rfl) ?_
 refine nk hK2 ?_
 refine cx_retc' ?_
 exact tx_ret1' Try.results28 rfl ((q11, ⟨g, hg⟩) : Addr × {g' : GN // g'.er = out}) (rv_tmp' rfl) (by simp; exact List.Sublist.refl _)


def kInsertAll (k : Nat) (t : List KNl) (i : Int) (p : List Nat) (bo : Bool) : Option ((List KNl) × Int × Bool) :=
 (knd k t i) >>= fun T =>
 (impl_floats k p) >>= fun c =>
 (kInsert k c T bo) >>= fun T' =>
 (impl_knodes k T') >>= fun r =>
 some (r.1, r.2, true)
theorem kInsertAll_sim {k : Nat} (t : List KNl) (i : Int) (p : List Nat) (bo : Bool) {out : (List KNl) × Int × Bool} (hp : kInsertAll k t i p bo = some out) : Sx.Fn Try.prog 9 [(Sl KT37 t), (Vi i), (Sl Kf p), (Vb bo)] [] (fun w : Unit => (Tu [(Sl KT37 out.1), (Vi out.2.1), (Vb out.2.2)])) (fun w => []) := by
 unfold kInsertAll at hp
 refine fnD_of Try.func9 rfl Try.ntmps9 rfl fun E hM => ?_
 refine cr fun K1 hK1 => ?_
 refine sx_ox' (ox_alloc' info26 rfl rfl rfl rfl (l := [Vn]) rfl) (wt_none' rfl) fun q8 => ?_
 refine sx_ox' (ox_alloc' info3 rfl rfl rfl rfl (l := [(Vi 0)]) rfl) (wt_none' rfl) fun q9 => ?_
 refine sx_ox' (ox_alloc' info4 rfl rfl rfl rfl (l := [(Vb false)]) rfl) (wt_none' rfl) fun q10 => ?_
 refine nk hK1 ?_
 refine cr fun K2 hK2 => ?_
 refine s0 (rd_mkfunc' (us := [.pointer (some q8), .pointer (some q9), .pointer (some q10)]) rfl) ?_
 refine sx_ox' (ox_defer' rfl rfl) (wt_none' rfl) fun _ => ?_
 refine nk hK2 ?_
 refine cr fun K3 hK3 => ?_
 refine s0 (rd_move' rfl) ?_
 refine s0 (rd_move' rfl) ?_
 obtain ⟨r15, hr15, hp⟩ := bind_some hp
 refine sx_ox' (ox_calln' (ent_fn' Try.func28 isn28 rfl rfl) (ktree_sim _ _ hr15) (Hn := fun x : Addr × {g' : GN // g'.er = r15} => (⟨.pointer (some x.1), [(Vl x.2.1.pv), (Vi (t.length : Int))], 68, none⟩ :: x.2.1.res) ++ [⟨.pointer (some q10), [(Vb false)], 4, none⟩, ⟨.pointer (some q9), [(Vi 0)], 3, none⟩, ⟨.pointer (some q8), [Vn], 26, none⟩]) (fun _ => rfl) rfl rfl) (wt_none' rfl) fun x => ?_
 obtain ⟨q15, g, hg⟩ := x
 subst hg
 refine tx_perm' (H' := (⟨.pointer (some q15), [(Vl g.pv), (Vi (t.length : Int))], 68, none⟩ :: ([⟨.pointer (some q10), [(Vb false)], 4, none⟩, ⟨.pointer (some q9), [(Vi 0)], 3, none⟩, ⟨.pointer (some q8), [Vn], 26, none⟩] ++ g.res))) pq3 ?_
 show SX E _ _ _ _ _
 refine s0 (rd_assign' rfl) ?_
 refine nk hK3 ?_
 refine cr fun K4 hK4 => ?_
 refine s0 (rd_move' rfl) ?_
 refine s0 (rd_move' rfl) ?_
 obtain ⟨r18, hr18, hp⟩ := bind_some hp
 refine sx_ox' (ox_calln' (ent_fn' Try.func30 isn30 rfl rfl) (impl_floats_sim _ hr18 : Sx.Fn Try.prog 30 [(Sl Kf p)] [] (fun x : Unit => (Sl Kf r18)) (fun x => [])) (Hn := fun x : Unit => (⟨.pointer (some q15), [(Vl g.pv), (Vi (t.length : Int))], 68, none⟩ :: ([⟨.pointer (some q10), [(Vb false)], 4, none⟩, ⟨.pointer (some q9), [(Vi 0)], 3, none⟩, ⟨.pointer (some q8), [Vn], 26, none⟩] ++ g.res))) (fun _ => rfl) rfl rfl) (wt_none' rfl) fun ⟨⟩ => ?_
 refine s0 (rd_iface' rfl ⟨_, Try.underlying62, fun _ h => (nomatch h)⟩) ?_
 refine s0 (rd_move' rfl) ?_
 obtain ⟨T', hT', hp⟩ := bind_some hp
 refine sx_call' (kInsert_sim r18 g (t.length : Int) bo hT') Try.func29 isn29 rfl rfl pq4 rfl rfl (wt_none' rfl) fun w => ?_
 obtain ⟨g', hg'⟩ := w
 subst hg'
 refine tx_perm' (H' := (⟨.pointer (some q15), [(Vl g'.pv), (Vi (iadd .i64 (t.length : Int) 1))], 68, none⟩ :: ([⟨.pointer (some q10), [(Vb false)], 4, none⟩, ⟨.pointer (some q9), [(Vi 0)], 3, none⟩, ⟨.pointer (some q8), [Vn], 26, none⟩] ++ g'.res))) pq3 ?_
 show SX E _ _ _ _ _
 refine nk hK4 ?_
 refine cr fun K5 hK5 => ?_
 refine s0 (rd_move' rfl) ?_
 refine s0 (rd_nilck' rfl) ?_
 refine s0 (rd_field0' rfl Try.underlying68 rfl info66 rfl) ?_
 refine s0 (rd_load' (i := 0) (o := 0) rfl ⟨rfl, rfl, rfl, rfl⟩ rfl flat66) ?_
 refine tx_fz' (frz_chunk' (C := g'.res) (H' := [⟨.pointer (some q15), [(Vl g'.pv), (Vi (iadd .i64 (t.length : Int) 1))], 68, none⟩, ⟨.pointer (some q10), [(Vb false)], 4, none⟩, ⟨.pointer (some q9), [(Vi 0)], 3, none⟩, ⟨.pointer (some q8), [Vn], 26, none⟩]) pq5 [(26, (Vl g'.pv), (SG66 g'.er))] (fun p hp => by rcases List.mem_singleton.1 hp with rfl; exact ⟨rfl, fun w U' v h1 h2 h3 => gfrz g' w U' v h1 h2 h3⟩)) ?_
 show SX E _ _ _ _ _
 obtain ⟨r27, hr27, hp⟩ := bind_some hp
 refine sx_ox' (ox_calln' (ent_fn' Try.func31 isn31 rfl rfl) (impl_knodes_sim _ hr27) (Hn := fun x : Gs => [(Rw KT37 37 (Vs x) r27.1), ⟨.pointer (some q15), [(Vl g'.pv), (Vi (iadd .i64 (t.length : Int) 1))], 68, none⟩, ⟨.pointer (some q10), [(Vb false)], 4, none⟩, ⟨.pointer (some q9), [(Vi 0)], 3, none⟩, ⟨.pointer (some q8), [Vn], 26, none⟩]) (fun _ => rfl) rfl rfl) (wt_none' rfl) fun gk => ?_
 refine s0 (rd_move' rfl) ?_
 refine s0 (rd_extract' rfl rfl) ?_
 refine s0 (rd_extract' rfl rfl) ?_
 refine sx_ox' (ox_store' (i := 4) (o := 0) rfl rfl (lv_vl rfl rfl) ⟨rfl, rfl, rfl, rfl⟩ rfl info26 rfl (H' := [(Rw KT37 37 (Vs gk) (r27.1)), ⟨.pointer (some q15), [(Vl g'.pv), (Vi (iadd .i64 (t.length : Int) 1))], 68, none⟩, ⟨.pointer (some q10), [(Vb false)], 4, none⟩, ⟨.pointer (some q9), [(Vi 0)], 3, none⟩, ⟨.pointer (some q8), [(Vl (Vs gk))], 26, none⟩]) rfl) (wt_none' rfl) fun _ => ?_
 refine sx_ox' (ox_store' (i := 3) (o := 0) rfl rfl (lv_vl rfl rfl) ⟨rfl, rfl, rfl, rfl⟩ rfl info3 rfl (H' := [(Rw KT37 37 (Vs gk) (r27.1)), ⟨.pointer (some q15), [(Vl g'.pv), (Vi (iadd .i64 (t.length : Int) 1))], 68, none⟩, ⟨.pointer (some q10), [(Vb false)], 4, none⟩, ⟨.pointer (some q9), [(Vi (r27.2))], 3, none⟩, ⟨.pointer (some q8), [(Vl (Vs gk))], 26, none⟩]) rfl) (wt_none' rfl) fun _ => ?_
 refine nk hK5 ?_
 refine cx_seq' fun K6 hK6 => ?_
 refine cx_plan' [q9.block] [(2, 1), (3, 2), (4, 1)] [(0, 1), (1, 2), (2, 0), (3, 0), (4, 0)] mixed (by kernel_rfl) ?_
 refine px_rd' rfl (rd_load' (i := 4) (o := 0) rfl ⟨rfl, rfl, rfl, rfl⟩ rfl flat26) rfl rfl (wt_none' rfl) ?_
 refine px_rb' rfl (rb_load' (i := 3) (o := 0) rfl ⟨rfl, rfl, rfl, rfl⟩ rfl flat3 (by simp)) rfl rfl (wt_none' rfl) ?_
 refine px_oxv' rfl (oxv_store (i := 4) (o := 0) rfl rfl (lv_vl rfl rfl) ⟨rfl, rfl, rfl, rfl⟩ rfl info26 rfl (H' := [(Rw KT37 37 (Vs gk) (r27.1)), ⟨.pointer (some q15), [(Vl g'.pv), (Vi (iadd .i64 (t.length : Int) 1))], 68, none⟩, ⟨.pointer (some q10), [(Vb false)], 4, none⟩, ⟨.pointer (some q9), [(Vi (r27.2))], 3, none⟩, ⟨.pointer (some q8), [(Vl (Vs gk))], 26, none⟩]) rfl) rfl rfl (bo_cons (m := 3) (by decide) rfl rfl bo_nil) (wt_none' rfl) fun _ => ?_
 refine px_ox' rfl (ox_store' (i := 3) (o := 0) rfl rfl (lv_vl rfl rfl) ⟨rfl, rfl, rfl, rfl⟩ rfl info3 rfl (H' := [(Rw KT37 37 (Vs gk) (r27.1)), ⟨.pointer (some q15), [(Vl g'.pv), (Vi (iadd .i64 (t.length : Int) 1))], 68, none⟩, ⟨.pointer (some q10), [(Vb false)], 4, none⟩, ⟨.pointer (some q9), [(Vi (r27.2))], 3, none⟩, ⟨.pointer (some q8), [(Vl (Vs gk))], 26, none⟩]) rfl) rfl (bs_cons (m := 3) rfl rfl rfl bs_nil) (wt_none' rfl) fun _ => ?_
 refine px_oxv' rfl (oxv_store (i := 2) (o := 0) rfl rfl (lv_vl rfl rfl) ⟨rfl, rfl, rfl, rfl⟩ rfl info4 rfl (H' := [(Rw KT37 37 (Vs gk) (r27.1)), ⟨.pointer (some q15), [(Vl g'.pv), (Vi (iadd .i64 (t.length : Int) 1))], 68, none⟩, ⟨.pointer (some q10), [(Vb true)], 4, none⟩, ⟨.pointer (some q9), [(Vi (r27.2))], 3, none⟩, ⟨.pointer (some q8), [(Vl (Vs gk))], 26, none⟩]) rfl) rfl rfl (bo_cons (m := 3) (by decide) rfl rfl bo_nil) (wt_none' rfl) fun _ => ?_
 refine px_nil' ?_
 show TX E K6 _
 refine tx_k' hK6 ?_
 refine cx_retc' ?_
 replace hp := Option.some.inj hp
 subst hp
 refine tx_leave' (.inl rfl) rfl idle27 rfl Try.func27 isn27 rfl ?_
 refine tx_fz' (frz_row 0 [(28, (Vl (Vs gk)), (Sl KT37 (r27.1))), (30, (Vl (Vs gk)), (Sl KT37 (r27.1)))] (K := KT37) (xs := r27.1) (by decide) rfl ⟨⟨rfl, frz_it⟩, ⟨rfl, frz_it⟩, trivial⟩ (H' := [⟨.pointer (some q15), [(Vl g'.pv), (Vi (iadd .i64 (t.length : Int) 1))], 68, none⟩, ⟨.pointer (some q10), [(Vb true)], 4, none⟩, ⟨.pointer (some q9), [(Vi (r27.2))], 3, none⟩, ⟨.pointer (some q8), [(Sl KT37 (r27.1))], 26, none⟩]) (frzH_cons rfl rfl rfl frzL_refl (frzH_cons rfl rfl rfl frzL_refl (frzH_cons rfl rfl rfl frzL_refl (frzH_cons rfl rfl rfl (frzL_cons frz_it frzL_refl) frzH_refl))))) ?_
 refine tx_pick' (L' := [(8, (Vp q8)), (9, (Vp q9)), (10, (Vp q10))]) (H' := [⟨.pointer (some q8), [(Sl KT37 (r27.1))], 26, none⟩, ⟨.pointer (some q9), [(Vi (r27.2))], 3, none⟩, ⟨.pointer (some q10), [(Vb true)], 4, none⟩]) [3, 2, 1] (sub_cons rfl (sub_cons rfl (sub_cons rfl sub_nil))) (by decide) (pick_cons rfl (pick_cons rfl (pick_cons rfl pick_nil))) ?_
 exact tx_ret3' Try.results9 rfl () (rv_cell' (i := 0) (o := 0) rfl ⟨rfl, rfl, rfl, rfl⟩ rfl flat26) (rv_cell' (i := 1) (o := 0) rfl ⟨rfl, rfl, rfl, rfl⟩ rfl flat3) (rv_cell' (i := 2) (o := 0) rfl ⟨rfl, rfl, rfl, rfl⟩ rfl flat4) rfl (List.nil_sublist _)


def impl_KInsert (k : Nat) (a1 : Int) (a2 : List Nat) (a3 : Bool) : Option ((List ((List Nat) × Int × Int × Int × (List Nat) × (List Nat))) × Int × Bool) :=
 (kInsertAll k [] a1 a2 a3) >>= fun r =>
 some (r.1, r.2.1, r.2.2)

def impl_KInsert_v2 (k : Nat) (a0 : List ((List Nat) × Int × Int × Int × (List Nat) × (List Nat))) (a1 : Int) (a2 : List Nat) (a3 : Bool) : Option ((List ((List Nat) × Int × Int × Int × (List Nat) × (List Nat))) × Int × Bool) :=
 (kInsertAll k a0 a1 a2 a3) >>= fun r =>
 some (r.1, r.2.1, r.2.2)

theorem impl_KInsert_v2_sim {k : Nat}  (a0 : List ((List Nat) × Int × Int × Int × (List Nat) × (List Nat))) (a1 : Int) (a2 : List Nat) (a3 : Bool) {out : (List ((List Nat) × Int × Int × Int × (List Nat) × (List Nat))) × Int × Bool} (hp : impl_KInsert_v2 k a0 a1 a2 a3 = some out) : Sx.Fn Try.prog 9 [(Sl KT37 a0), (Vi a1), (Sl Kf a2), (Vb a3)] [] (fun w : Unit => (Tu [(Sl KT37 out.1), (Vi out.2.1), (Vb out.2.2)])) (fun w => []) := by
 unfold impl_KInsert_v2 at hp
 obtain ⟨r, hr, hp⟩ := bind_some hp
 have hp := Option.some.inj hp
 subst hp
 exact kInsertAll_sim _ _ _ _ hr

def spec_KWalk_1 (k : Nat) (a0 : Int) (a1_0 : List ((List Nat) × Int × Int × Int × (List Nat) × (List Nat))) : Option ((List ((List Nat) × Int × Int × Int × (List Nat) × (List Nat))) × Int × Int) :=
 (idx a1_0 a0) >>= fun r7 =>
 (idx a1_0 a0) >>= fun r12 =>
 some (a1_0, r7.2.2.1, r12.2.2.2.1)

theorem spec_KWalk_1_sim {k : Nat} {wa1 : Addr} (a0 : Int) (a1_0 : List ((List Nat) × Int × Int × Int × (List Nat) × (List Nat))) {out : (List ((List Nat) × Int × Int × Int × (List Nat) × (List Nat))) × Int × Int} (hp : spec_KWalk_1 k a0 a1_0 = some out) : Sx.Fn Try.prog 36 [(Vi a0), (Vp wa1)] [⟨.pointer (some wa1), [(Sl KT37 a1_0)], 26, none⟩] (fun w : Unit => (Tu [(Vi out.2.1), (Vi out.2.2)])) (fun w => [⟨.pointer (some wa1), [(Sl KT37 out.1)], 26, none⟩]) := by
 unfold spec_KWalk_1 at hp
 refine fn_of Try.func36 rfl Try.ntmps36 rfl fun E hM => ?_
 refine cr fun K1 hK1 => ?_
 refine s0 (rd_assign' rfl) ?_
 refine s0 (rd_assign' rfl) ?_
 refine nk hK1 ?_
 refine cx_seq' fun K2 hK2 => ?_
 refine cx_draw' mixed (by kernel_rfl) ?_
 refine qx_rd' (rd_load' (i := 0) (o := 0) rfl ⟨rfl, rfl, rfl, rfl⟩ rfl flat26) rfl rfl (wt_none' rfl) ?_
 refine qx_rd' (rd_move' rfl) rfl rfl (wt_none' rfl) ?_
 obtain ⟨r7, hr7, hp⟩ := bind_some hp
 refine qx_rd' (rd_at' (K := KT37) rfl rfl hr7 Try.underlying26 info37) rfl rfl (wt_none' rfl) ?_
 refine qx_rd' (rd_field_pt' (off := 2) rfl Try.underlying37 rfl info3 rfl (l' := [(Vi r7.2.2.1), (Vi r7.2.2.2.1), (Sl Kf r7.2.2.2.2.1), (Sl Kf r7.2.2.2.2.2)]) rfl) rfl rfl (wt_none' rfl) ?_
 refine qx_rd' (rd_load_pt' rfl rfl flat3) rfl rfl (wt_none' rfl) ?_
 refine qx_rd' (rd_load' (i := 0) (o := 0) rfl ⟨rfl, rfl, rfl, rfl⟩ rfl flat26) rfl rfl (wt_none' rfl) ?_
 refine qx_rd' (rd_move' rfl) rfl rfl (wt_none' rfl) ?_
 obtain ⟨r12, hr12, hp⟩ := bind_some hp
 refine qx_rd' (rd_at' (K := KT37) rfl rfl hr12 Try.underlying26 info37) rfl rfl (wt_none' rfl) ?_
 refine qx_rd' (rd_field_pt' (off := 3) rfl Try.underlying37 rfl info3 rfl (l' := [(Vi r12.2.2.2.1), (Sl Kf r12.2.2.2.2.1), (Sl Kf r12.2.2.2.2.2)]) rfl) rfl rfl (wt_none' rfl) ?_
 refine qx_rd' (rd_load_pt' rfl rfl flat3) rfl rfl (wt_none' rfl) ?_
 refine qx_rd' (rd_assign' rfl) rfl rfl (wt_none' rfl) ?_
 refine qx_rd' (rd_assign' rfl) rfl rfl (wt_none' rfl) ?_
 refine qx_nil' ?_
 show TX E K2 _
 refine tx_k' hK2 ?_
 refine cx_retc' ?_
 replace hp := Option.some.inj hp
 subst hp
 refine tx_pick' (L' := [(3, (Vi r7.2.2.1)), (4, (Vi r12.2.2.2.1))]) (H' := [⟨.pointer (some wa1), [(Sl KT37 a1_0)], 26, none⟩]) [0] (sub_cons rfl (sub_cons rfl sub_nil)) (by decide) (pick_cons rfl pick_nil) ?_
 exact tx_ret2' Try.results36 rfl () (rv_tmp' rfl) (rv_tmp' rfl) rfl (List.Sublist.refl _)

def spec_Walk_1_v2_j3 (k : Nat) (a4_0 : Int) (a5_0 : List Bool) (a6_0_0_0 : List ((List Nat) × Int × Int × Int × (List Nat) × (List Nat))) (a7_0_5_0 : List Int) (a7_0_6_0 : List Int) (a0 : Int) (recf : Int → Int → Int → Bool → Int → (List Bool) → (List ((List Nat) × Int × Int × Int × (List Nat) × (List Nat))) → (List Int) → (List Int) → Option (Bool × Int × (List Bool) × (List ((List Nat) × Int × Int × Int × (List Nat) × (List Nat))) × (List Int) × (List Int))) (a2 : Int) (a3_0 : Bool) (x3 : Bool) : Option (Bool × Int × (List Bool) × (List ((List Nat) × Int × Int × Int × (List Nat) × (List Nat))) × (List Int) × (List Int)) :=
 br x3
  (some (false, a4_0, a5_0, a6_0_0_0, a7_0_5_0, a7_0_6_0))
  ((idx a5_0 a0) >>= fun r37 =>
  (spec_KWalk_1 k a0 a6_0_0_0) >>= fun r41 =>
  (recf r41.2.1 a0 (iadd .i64 a2 1) a3_0 a4_0 (a5_0.set a0.toNat true) r41.1 a7_0_5_0 a7_0_6_0) >>= fun r49 =>
  (apd 8 r49.2.2.2.2.1 ([a0])) >>= fun r53 =>
  (apd 8 r49.2.2.2.2.2 ([a2])) >>= fun r57 =>
  (recf r41.2.2 a0 (iadd .i64 a2 1) r49.1 r49.2.1 r49.2.2.1 r49.2.2.2.1 r53 r57) >>= fun r63 =>
  some (r63.1, r63.2.1, r63.2.2.1, r63.2.2.2.1, r63.2.2.2.2.1, r63.2.2.2.2.2))
def spec_Walk_1_v2_j2 (k : Nat) (a4_0 : Int) (a5_0 : List Bool) (a6_0_0_0 : List ((List Nat) × Int × Int × Int × (List Nat) × (List Nat))) (a7_0_5_0 : List Int) (a7_0_6_0 : List Int) (a0 : Int) (recf : Int → Int → Int → Bool → Int → (List Bool) → (List ((List Nat) × Int × Int × Int × (List Nat) × (List Nat))) → (List Int) → (List Int) → Option (Bool × Int × (List Bool) × (List ((List Nat) × Int × Int × Int × (List Nat) × (List Nat))) × (List Int) × (List Int))) (a2 : Int) (a3_0 : Bool) (x2 : Bool) : Option (Bool × Int × (List Bool) × (List ((List Nat) × Int × Int × Int × (List Nat) × (List Nat))) × (List Int) × (List Int)) :=
 br x2
  (spec_Walk_1_v2_j3 k a4_0 a5_0 a6_0_0_0 a7_0_5_0 a7_0_6_0 a0 recf a2 a3_0 true)
  ((idx a5_0 a0) >>= fun r32 =>
  spec_Walk_1_v2_j3 k a4_0 a5_0 a6_0_0_0 a7_0_5_0 a7_0_6_0 a0 recf a2 a3_0 r32)
def spec_Walk_1_v2_j1 (k : Nat) (a3_0 : Bool) (a4_0 : Int) (a5_0 : List Bool) (a6_0_0_0 : List ((List Nat) × Int × Int × Int × (List Nat) × (List Nat))) (a7_0_5_0 : List Int) (a7_0_6_0 : List Int) (a0 : Int) (a1 : Int) (recf : Int → Int → Int → Bool → Int → (List Bool) → (List ((List Nat) × Int × Int × Int × (List Nat) × (List Nat))) → (List Int) → (List Int) → Option (Bool × Int × (List Bool) × (List ((List Nat) × Int × Int × Int × (List Nat) × (List Nat))) × (List Int) × (List Int))) (a2 : Int) (x1 : Bool) : Option (Bool × Int × (List Bool) × (List ((List Nat) × Int × Int × Int × (List Nat) × (List Nat))) × (List Int) × (List Int)) :=
 br x1
  (some (a3_0, a4_0, a5_0, a6_0_0_0, a7_0_5_0, a7_0_6_0))
  (br (decide (a0 ≤ a1))
   (spec_Walk_1_v2_j2 k a4_0 a5_0 a6_0_0_0 a7_0_5_0 a7_0_6_0 a0 recf a2 a3_0 true)
   (spec_Walk_1_v2_j2 k a4_0 a5_0 a6_0_0_0 a7_0_5_0 a7_0_6_0 a0 recf a2 a3_0 (decide (a4_0 ≤ a0))))
def spec_Walk_1_v2_b (recf : Int → Int → Int → Bool → Int → (List Bool) → (List ((List Nat) × Int × Int × Int × (List Nat) × (List Nat))) → (List Int) → (List Int) → Option (Bool × Int × (List Bool) × (List ((List Nat) × Int × Int × Int × (List Nat) × (List Nat))) × (List Int) × (List Int))) (k : Nat) (a0 : Int) (a1 : Int) (a2 : Int) (a3_0 : Bool) (a4_0 : Int) (a5_0 : List Bool) (a6_0_0_0 : List ((List Nat) × Int × Int × Int × (List Nat) × (List Nat))) (a7_0_5_0 : List Int) (a7_0_6_0 : List Int) : Option (Bool × Int × (List Bool) × (List ((List Nat) × Int × Int × Int × (List Nat) × (List Nat))) × (List Int) × (List Int)) :=
 br (decide (a0 = (-1)))
  (spec_Walk_1_v2_j1 k a3_0 a4_0 a5_0 a6_0_0_0 a7_0_5_0 a7_0_6_0 a0 a1 recf a2 true)
  (spec_Walk_1_v2_j1 k a3_0 a4_0 a5_0 a6_0_0_0 a7_0_5_0 a7_0_6_0 a0 a1 recf a2 (!a3_0))
def spec_Walk_1_v2 : Nat → Int → Int → Int → Bool → Int → (List Bool) → (List ((List Nat) × Int × Int × Int × (List Nat) × (List Nat))) → (List Int) → (List Int) → Option (Bool × Int × (List Bool) × (List ((List Nat) × Int × Int × Int × (List Nat) × (List Nat))) × (List Int) × (List Int))
 | 0 => fun _ _ _ _ _ _ _ _ _ => none
 | k + 1 => fun a0 a1 a2 a3_0 a4_0 a5_0 a6_0_0_0 a7_0_5_0 a7_0_6_0 => spec_Walk_1_v2_b (spec_Walk_1_v2 k) k a0 a1 a2 a3_0 a4_0 a5_0 a6_0_0_0 a7_0_5_0 a7_0_6_0

theorem spec_Walk_1_v2_b_sim {recf : Int → Int → Int → Bool → Int → (List Bool) → (List ((List Nat) × Int × Int × Int × (List Nat) × (List Nat))) → (List Int) → (List Int) → Option (Bool × Int × (List Bool) × (List ((List Nat) × Int × Int × Int × (List Nat) × (List Nat))) × (List Int) × (List Int))} (hrec : ∀ (wa3 : Addr) (wa4 : Addr) (wa5 : Addr) (wa5_0 : Gs) (wa6 : Addr) (wa6_0_0 : Addr) (wa7 : Addr) (wa7_0_5 : Addr) (wa7_0_5_0 : Gs) (wa7_0_6 : Addr) (wa7_0_6_0 : Gs) (a0 : Int) (a1 : Int) (a2 : Int) (a3_0 : Bool) (a4_0 : Int) (a5_0 : List Bool) (a6_0_0_0 : List ((List Nat) × Int × Int × Int × (List Nat) × (List Nat))) (a7_0_5_0 : List Int) (a7_0_6_0 : List Int) (out : Bool × Int × (List Bool) × (List ((List Nat) × Int × Int × Int × (List Nat) × (List Nat))) × (List Int) × (List Int)), recf a0 a1 a2 a3_0 a4_0 a5_0 a6_0_0_0 a7_0_5_0 a7_0_6_0 = some out → Sx.Fn Try.prog 65 [(Vi a0), (Vi a1), (Vi a2), (Vp wa3), (Vp wa4), (Vp wa5), (Vp wa6), (Vp wa7), (Vp wa7_0_5), (Vp wa7_0_6)] [⟨.pointer (some wa3), [(Vb a3_0)], 4, none⟩, ⟨.pointer (some wa4), [(Vi a4_0)], 3, none⟩, ⟨.pointer (some wa5), [(Vl (Vs wa5_0))], 53, none⟩, (Rw Kb 4 (Vs wa5_0) a5_0), ⟨.pointer (some wa6), [(Vl (.func (.func 36) #[] ⟨[.pointer (some wa6_0_0)]⟩))], 72, none⟩, ⟨.pointer (some wa6_0_0), [(Sl KT37 a6_0_0_0)], 26, none⟩, ⟨.pointer (some wa7), [(Vl (.func (.func 65) #[] ⟨[.pointer (some wa3), .pointer (some wa4), .pointer (some wa5), .pointer (some wa6), .pointer (some wa7), .pointer (some wa7_0_5), .pointer (some wa7_0_6)]⟩))], 128, none⟩, ⟨.pointer (some wa7_0_5), [(Vl (Vs wa7_0_5_0))], 33, none⟩, (Rw (Ki .i64) 3 (Vs wa7_0_5_0) a7_0_5_0), ⟨.pointer (some wa7_0_6), [(Vl (Vs wa7_0_6_0))], 33, none⟩, (Rw (Ki .i64) 3 (Vs wa7_0_6_0) a7_0_6_0)] (fun w : Gs × Gs => (Vl (.tuple #[]))) (fun w => [⟨.pointer (some wa3), [(Vb out.1)], 4, none⟩, ⟨.pointer (some wa4), [(Vi out.2.1)], 3, none⟩, ⟨.pointer (some wa5), [(Vl (Vs wa5_0))], 53, none⟩, (Rw Kb 4 (Vs wa5_0) out.2.2.1), ⟨.pointer (some wa6), [(Vl (.func (.func 36) #[] ⟨[.pointer (some wa6_0_0)]⟩))], 72, none⟩, ⟨.pointer (some wa6_0_0), [(Sl KT37 out.2.2.2.1)], 26, none⟩, ⟨.pointer (some wa7), [(Vl (.func (.func 65) #[] ⟨[.pointer (some wa3), .pointer (some wa4), .pointer (some wa5), .pointer (some wa6), .pointer (some wa7), .pointer (some wa7_0_5), .pointer (some wa7_0_6)]⟩))], 128, none⟩, ⟨.pointer (some wa7_0_5), [(Vl (Vs w.1))], 33, none⟩, (Rw (Ki .i64) 3 (Vs w.1) out.2.2.2.2.1), ⟨.pointer (some wa7_0_6), [(Vl (Vs w.2))], 33, none⟩, (Rw (Ki .i64) 3 (Vs w.2) out.2.2.2.2.2)])) {k : Nat} {wa3 : Addr} {wa4 : Addr} {wa5 : Addr} {wa5_0 : Gs} {wa6 : Addr} {wa6_0_0 : Addr} {wa7 : Addr} {wa7_0_5 : Addr} {wa7_0_5_0 : Gs} {wa7_0_6 : Addr} {wa7_0_6_0 : Gs} (a0 : Int) (a1 : Int) (a2 : Int) (a3_0 : Bool) (a4_0 : Int) (a5_0 : List Bool) (a6_0_0_0 : List ((List Nat) × Int × Int × Int × (List Nat) × (List Nat))) (a7_0_5_0 : List Int) (a7_0_6_0 : List Int) {out : Bool × Int × (List Bool) × (List ((List Nat) × Int × Int × Int × (List Nat) × (List Nat))) × (List Int) × (List Int)} (hp : spec_Walk_1_v2_b recf k a0 a1 a2 a3_0 a4_0 a5_0 a6_0_0_0 a7_0_5_0 a7_0_6_0 = some out) : Sx.Fn Try.prog 65 [(Vi a0), (Vi a1), (Vi a2), (Vp wa3), (Vp wa4), (Vp wa5), (Vp wa6), (Vp wa7), (Vp wa7_0_5), (Vp wa7_0_6)] [⟨.pointer (some wa3), [(Vb a3_0)], 4, none⟩, ⟨.pointer (some wa4), [(Vi a4_0)], 3, none⟩, ⟨.pointer (some wa5), [(Vl (Vs wa5_0))], 53, none⟩, (Rw Kb 4 (Vs wa5_0) a5_0), ⟨.pointer (some wa6), [(Vl (.func (.func 36) #[] ⟨[.pointer (some wa6_0_0)]⟩))], 72, none⟩, ⟨.pointer (some wa6_0_0), [(Sl KT37 a6_0_0_0)], 26, none⟩, ⟨.pointer (some wa7), [(Vl (.func (.func 65) #[] ⟨[.pointer (some wa3), .pointer (some wa4), .pointer (some wa5), .pointer (some wa6), .pointer (some wa7), .pointer (some wa7_0_5), .pointer (some wa7_0_6)]⟩))], 128, none⟩, ⟨.pointer (some wa7_0_5), [(Vl (Vs wa7_0_5_0))], 33, none⟩, (Rw (Ki .i64) 3 (Vs wa7_0_5_0) a7_0_5_0), ⟨.pointer (some wa7_0_6), [(Vl (Vs wa7_0_6_0))], 33, none⟩, (Rw (Ki .i64) 3 (Vs wa7_0_6_0) a7_0_6_0)] (fun w : Gs × Gs => (Vl (.tuple #[]))) (fun w => [⟨.pointer (some wa3), [(Vb out.1)], 4, none⟩, ⟨.pointer (some wa4), [(Vi out.2.1)], 3, none⟩, ⟨.pointer (some wa5), [(Vl (Vs wa5_0))], 53, none⟩, (Rw Kb 4 (Vs wa5_0) out.2.2.1), ⟨.pointer (some wa6), [(Vl (.func (.func 36) #[] ⟨[.pointer (some wa6_0_0)]⟩))], 72, none⟩, ⟨.pointer (some wa6_0_0), [(Sl KT37 out.2.2.2.1)], 26, none⟩, ⟨.pointer (some wa7), [(Vl (.func (.func 65) #[] ⟨[.pointer (some wa3), .pointer (some wa4), .pointer (some wa5), .pointer (some wa6), .pointer (some wa7), .pointer (some wa7_0_5), .pointer (some wa7_0_6)]⟩))], 128, none⟩, ⟨.pointer (some wa7_0_5), [(Vl (Vs w.1))], 33, none⟩, (Rw (Ki .i64) 3 (Vs w.1) out.2.2.2.2.1), ⟨.pointer (some wa7_0_6), [(Vl (Vs w.2))], 33, none⟩, (Rw (Ki .i64) 3 (Vs w.2) out.2.2.2.2.2)]) := by
 unfold spec_Walk_1_v2_b at hp
 refine fn_of Try.func65 rfl Try.ntmps65 rfl fun E hM => ?_
 refine cx_seq' fun K1 hK1 => ?_
 refine cr fun K2 hK2 => ?_
 refine s0 (rd_move' rfl) ?_
 refine s0 (rd_bin' rfl rfl eg_int ru_eql) ?_
 refine s0 (rd_move' rfl) ?_
 refine sx_cutn' 3 (fun (v1 : Bool) => (⟨64, [], [(0, (Vi a0)), (1, (Vi a1)), (2, (Vi a2)), (3, (Vp wa3)), (4, (Vp wa4)), (5, (Vp wa5)), (6, (Vp wa6)), (7, (Vp wa7)), (8, (Vp wa7_0_5)), (9, (Vp wa7_0_6)), (20, (Vb v1))], [⟨.pointer (some wa3), [(Vb a3_0)], 4, none⟩, ⟨.pointer (some wa4), [(Vi a4_0)], 3, none⟩, ⟨.pointer (some wa5), [(Vl (Vs wa5_0))], 53, none⟩, (Rw Kb 4 (Vs wa5_0) a5_0), ⟨.pointer (some wa6), [(Vl (.func (.func 36) #[] ⟨[.pointer (some wa6_0_0)]⟩))], 72, none⟩, ⟨.pointer (some wa6_0_0), [(Sl KT37 a6_0_0_0)], 26, none⟩, ⟨.pointer (some wa7), [(Vl (.func (.func 65) #[] ⟨[.pointer (some wa3), .pointer (some wa4), .pointer (some wa5), .pointer (some wa6), .pointer (some wa7), .pointer (some wa7_0_5), .pointer (some wa7_0_6)]⟩))], 128, none⟩, ⟨.pointer (some wa7_0_5), [(Vl (Vs wa7_0_5_0))], 33, none⟩, (Rw (Ki .i64) 3 (Vs wa7_0_5_0) a7_0_5_0), ⟨.pointer (some wa7_0_6), [(Vl (Vs wa7_0_6_0))], 33, none⟩, (Rw (Ki .i64) 3 (Vs wa7_0_6_0) a7_0_6_0)]⟩ : St)) (fun (v1 : Bool) => spec_Walk_1_v2_j1 k a3_0 a4_0 a5_0 a6_0_0_0 a7_0_5_0 a7_0_6_0 a0 a1 recf a2 v1 = some out) ?_ ?_
 ·rintro x1 hp
  replace hp : spec_Walk_1_v2_j1 k a3_0 a4_0 a5_0 a6_0_0_0 a7_0_5_0 a7_0_6_0 a0 a1 recf a2 x1 = some out := hp
  unfold spec_Walk_1_v2_j1 at hp
  refine nk hK2 ?_
  refine cx_cond' rfl (fun h2 => ?_) (fun h2 => ?_)
  ·replace hp := (br_t h2).symm.trans hp
   refine cx_retc' ?_
   replace hp := Option.some.inj hp
   subst hp
   refine tx_pick' (L' := []) (H' := [⟨.pointer (some wa3), [(Vb a3_0)], 4, none⟩, ⟨.pointer (some wa4), [(Vi a4_0)], 3, none⟩, ⟨.pointer (some wa5), [(Vl (Vs wa5_0))], 53, none⟩, (Rw Kb 4 (Vs wa5_0) a5_0), ⟨.pointer (some wa6), [(Vl (.func (.func 36) #[] ⟨[.pointer (some wa6_0_0)]⟩))], 72, none⟩, ⟨.pointer (some wa6_0_0), [(Sl KT37 a6_0_0_0)], 26, none⟩, ⟨.pointer (some wa7), [(Vl (.func (.func 65) #[] ⟨[.pointer (some wa3), .pointer (some wa4), .pointer (some wa5), .pointer (some wa6), .pointer (some wa7), .pointer (some wa7_0_5), .pointer (some wa7_0_6)]⟩))], 128, none⟩, ⟨.pointer (some wa7_0_5), [(Vl (Vs wa7_0_5_0))], 33, none⟩, (Rw (Ki .i64) 3 (Vs wa7_0_5_0) a7_0_5_0), ⟨.pointer (some wa7_0_6), [(Vl (Vs wa7_0_6_0))], 33, none⟩, (Rw (Ki .i64) 3 (Vs wa7_0_6_0) a7_0_6_0)]) [0, 1, 2, 3, 4, 5, 6, 7, 8, 9, 10] sub_nil (by decide) (pick_cons rfl (pick_cons rfl (pick_cons rfl (pick_cons rfl (pick_cons rfl (pick_cons rfl (pick_cons rfl (pick_cons rfl (pick_cons rfl (pick_cons rfl (pick_cons rfl pick_nil))))))))))) ?_
   exact tx_ret0' Try.results65 rfl (wa7_0_5_0, wa7_0_6_0) rfl (List.Sublist.refl _)
  replace hp := (br_f h2).symm.trans hp
  refine cx_skip' ?_
  show TX E K1 _
  refine tx_k' hK1 ?_
  refine cx_seq' fun K4 hK4 => ?_
  refine cr fun K5 hK5 => ?_
  refine s0 (rd_move' rfl) ?_
  refine s0 (rd_move' rfl) ?_
  refine s0 (rd_bin' rfl rfl eg_int ru_leq) ?_
  refine s0 (rd_move' rfl) ?_
  refine sx_cutn' 4 (fun (v2 : Bool) => (⟨64, [], [(0, (Vi a0)), (2, (Vi a2)), (3, (Vp wa3)), (5, (Vp wa5)), (6, (Vp wa6)), (7, (Vp wa7)), (8, (Vp wa7_0_5)), (9, (Vp wa7_0_6)), (28, (Vb v2))], [⟨.pointer (some wa3), [(Vb a3_0)], 4, none⟩, ⟨.pointer (some wa5), [(Vl (Vs wa5_0))], 53, none⟩, (Rw Kb 4 (Vs wa5_0) a5_0), ⟨.pointer (some wa6), [(Vl (.func (.func 36) #[] ⟨[.pointer (some wa6_0_0)]⟩))], 72, none⟩, ⟨.pointer (some wa6_0_0), [(Sl KT37 a6_0_0_0)], 26, none⟩, ⟨.pointer (some wa7), [(Vl (.func (.func 65) #[] ⟨[.pointer (some wa3), .pointer (some wa4), .pointer (some wa5), .pointer (some wa6), .pointer (some wa7), .pointer (some wa7_0_5), .pointer (some wa7_0_6)]⟩))], 128, none⟩, ⟨.pointer (some wa4), [(Vi a4_0)], 3, none⟩, ⟨.pointer (some wa7_0_5), [(Vl (Vs wa7_0_5_0))], 33, none⟩, (Rw (Ki .i64) 3 (Vs wa7_0_5_0) a7_0_5_0), ⟨.pointer (some wa7_0_6), [(Vl (Vs wa7_0_6_0))], 33, none⟩, (Rw (Ki .i64) 3 (Vs wa7_0_6_0) a7_0_6_0)]⟩ : St)) (fun (v2 : Bool) => spec_Walk_1_v2_j2 k a4_0 a5_0 a6_0_0_0 a7_0_5_0 a7_0_6_0 a0 recf a2 a3_0 v2 = some out) ?_ ?_
  ·rintro x2 hp
   replace hp : spec_Walk_1_v2_j2 k a4_0 a5_0 a6_0_0_0 a7_0_5_0 a7_0_6_0 a0 recf a2 a3_0 x2 = some out := hp
   unfold spec_Walk_1_v2_j2 at hp
   refine s0 (rd_move' rfl) ?_
   refine sx_cutn' 5 (fun (v3 : Bool) => (⟨64, [], [(0, (Vi a0)), (2, (Vi a2)), (3, (Vp wa3)), (5, (Vp wa5)), (6, (Vp wa6)), (7, (Vp wa7)), (8, (Vp wa7_0_5)), (9, (Vp wa7_0_6)), (34, (Vb v3))], [⟨.pointer (some wa3), [(Vb a3_0)], 4, none⟩, ⟨.pointer (some wa5), [(Vl (Vs wa5_0))], 53, none⟩, (Rw Kb 4 (Vs wa5_0) a5_0), ⟨.pointer (some wa6), [(Vl (.func (.func 36) #[] ⟨[.pointer (some wa6_0_0)]⟩))], 72, none⟩, ⟨.pointer (some wa6_0_0), [(Sl KT37 a6_0_0_0)], 26, none⟩, ⟨.pointer (some wa7), [(Vl (.func (.func 65) #[] ⟨[.pointer (some wa3), .pointer (some wa4), .pointer (some wa5), .pointer (some wa6), .pointer (some wa7), .pointer (some wa7_0_5), .pointer (some wa7_0_6)]⟩))], 128, none⟩, ⟨.pointer (some wa4), [(Vi a4_0)], 3, none⟩, ⟨.pointer (some wa7_0_5), [(Vl (Vs wa7_0_5_0))], 33, none⟩, (Rw (Ki .i64) 3 (Vs wa7_0_5_0) a7_0_5_0), ⟨.pointer (some wa7_0_6), [(Vl (Vs wa7_0_6_0))], 33, none⟩, (Rw (Ki .i64) 3 (Vs wa7_0_6_0) a7_0_6_0)]⟩ : St)) (fun (v3 : Bool) => spec_Walk_1_v2_j3 k a4_0 a5_0 a6_0_0_0 a7_0_5_0 a7_0_6_0 a0 recf a2 a3_0 v3 = some out) ?_ ?_
   ·rintro x3 hp
    replace hp : spec_Walk_1_v2_j3 k a4_0 a5_0 a6_0_0_0 a7_0_5_0 a7_0_6_0 a0 recf a2 a3_0 x3 = some out := hp
    unfold spec_Walk_1_v2_j3 at hp
    refine nk hK5 ?_
    refine cx_cond' rfl (fun h5 => ?_) (fun h5 => ?_)
    ·replace hp := (br_t h5).symm.trans hp
     refine cr fun K8 hK8 => ?_
     refine sx_ox' (ox_store' (i := 0) (o := 0) rfl rfl (lv_vl rfl rfl) ⟨rfl, rfl, rfl, rfl⟩ rfl info4 rfl (H' := [⟨.pointer (some wa3), [(Vb false)], 4, none⟩, ⟨.pointer (some wa5), [(Vl (Vs wa5_0))], 53, none⟩, (Rw Kb 4 (Vs wa5_0) a5_0), ⟨.pointer (some wa6), [(Vl (.func (.func 36) #[] ⟨[.pointer (some wa6_0_0)]⟩))], 72, none⟩, ⟨.pointer (some wa6_0_0), [(Sl KT37 a6_0_0_0)], 26, none⟩, ⟨.pointer (some wa7), [(Vl (.func (.func 65) #[] ⟨[.pointer (some wa3), .pointer (some wa4), .pointer (some wa5), .pointer (some wa6), .pointer (some wa7), .pointer (some wa7_0_5), .pointer (some wa7_0_6)]⟩))], 128, none⟩, ⟨.pointer (some wa4), [(Vi a4_0)], 3, none⟩, ⟨.pointer (some wa7_0_5), [(Vl (Vs wa7_0_5_0))], 33, none⟩, (Rw (Ki .i64) 3 (Vs wa7_0_5_0) a7_0_5_0), ⟨.pointer (some wa7_0_6), [(Vl (Vs wa7_0_6_0))], 33, none⟩, (Rw (Ki .i64) 3 (Vs wa7_0_6_0) a7_0_6_0)]) rfl) (wt_none' rfl) fun _ => ?_
     refine nk hK8 ?_
     refine cx_retc' ?_
     replace hp := Option.some.inj hp
     subst hp
     refine tx_pick' (L' := []) (H' := [⟨.pointer (some wa3), [(Vb false)], 4, none⟩, ⟨.pointer (some wa4), [(Vi a4_0)], 3, none⟩, ⟨.pointer (some wa5), [(Vl (Vs wa5_0))], 53, none⟩, (Rw Kb 4 (Vs wa5_0) a5_0), ⟨.pointer (some wa6), [(Vl (.func (.func 36) #[] ⟨[.pointer (some wa6_0_0)]⟩))], 72, none⟩, ⟨.pointer (some wa6_0_0), [(Sl KT37 a6_0_0_0)], 26, none⟩, ⟨.pointer (some wa7), [(Vl (.func (.func 65) #[] ⟨[.pointer (some wa3), .pointer (some wa4), .pointer (some wa5), .pointer (some wa6), .pointer (some wa7), .pointer (some wa7_0_5), .pointer (some wa7_0_6)]⟩))], 128, none⟩, ⟨.pointer (some wa7_0_5), [(Vl (Vs wa7_0_5_0))], 33, none⟩, (Rw (Ki .i64) 3 (Vs wa7_0_5_0) a7_0_5_0), ⟨.pointer (some wa7_0_6), [(Vl (Vs wa7_0_6_0))], 33, none⟩, (Rw (Ki .i64) 3 (Vs wa7_0_6_0) a7_0_6_0)]) [0, 6, 1, 2, 3, 4, 5, 7, 8, 9, 10] sub_nil (by decide) (pick_cons rfl (pick_cons rfl (pick_cons rfl (pick_cons rfl (pick_cons rfl (pick_cons rfl (pick_cons rfl (pick_cons rfl (pick_cons rfl (pick_cons rfl (pick_cons rfl pick_nil))))))))))) ?_
     exact tx_ret0' Try.results65 rfl (wa7_0_5_0, wa7_0_6_0) rfl (List.Sublist.refl _)
    replace hp := (br_f h5).symm.trans hp
    refine cx_skip' ?_
    show TX E K4 _
    refine tx_k' hK4 ?_
    refine cr fun K9 hK9 => ?_
    refine s0 (rd_load' (i := 1) (o := 0) rfl ⟨rfl, rfl, rfl, rfl⟩ rfl flat53) ?_
    refine s0 (rd_move' rfl) ?_
    obtain ⟨r37, hr37, hp⟩ := bind_some hp
    refine s0 (rd_atr' (m := 2) rfl rfl rfl rfl hr37 Try.underlying53 info4) ?_
    refine sx_ox' (ox_storer' (m := 2) (i := a0) (j := 0) (x' := true) rfl rfl (lv_vl rfl rfl) rfl rfl hr37 rfl rfl rfl info4 rfl (H' := [⟨.pointer (some wa3), [(Vb a3_0)], 4, none⟩, ⟨.pointer (some wa5), [(Vl (Vs wa5_0))], 53, none⟩, (Rw Kb 4 (Vs wa5_0) (a5_0.set a0.toNat true)), ⟨.pointer (some wa6), [(Vl (.func (.func 36) #[] ⟨[.pointer (some wa6_0_0)]⟩))], 72, none⟩, ⟨.pointer (some wa6_0_0), [(Sl KT37 a6_0_0_0)], 26, none⟩, ⟨.pointer (some wa7), [(Vl (.func (.func 65) #[] ⟨[.pointer (some wa3), .pointer (some wa4), .pointer (some wa5), .pointer (some wa6), .pointer (some wa7), .pointer (some wa7_0_5), .pointer (some wa7_0_6)]⟩))], 128, none⟩, ⟨.pointer (some wa4), [(Vi a4_0)], 3, none⟩, ⟨.pointer (some wa7_0_5), [(Vl (Vs wa7_0_5_0))], 33, none⟩, (Rw (Ki .i64) 3 (Vs wa7_0_5_0) a7_0_5_0), ⟨.pointer (some wa7_0_6), [(Vl (Vs wa7_0_6_0))], 33, none⟩, (Rw (Ki .i64) 3 (Vs wa7_0_6_0) a7_0_6_0)]) rfl) (wt_none' rfl) fun _ => ?_
    refine nk hK9 ?_
    refine cr fun K10 hK10 => ?_
    refine s0 (rd_load' (i := 3) (o := 0) rfl ⟨rfl, rfl, rfl, rfl⟩ rfl flat72) ?_
    refine s0 (rd_move' rfl) ?_
    obtain ⟨r41, hr41, hp⟩ := bind_some hp
    refine sx_ox' (ox_callg' (ent_clo' (us := [.pointer (some wa6_0_0)]) rfl Try.func36 isn36 rfl rfl) (spec_KWalk_1_sim _ _ hr41 : Sx.Fn Try.prog 36 [(Vi a0), (Vp wa6_0_0)] [⟨.pointer (some wa6_0_0), [(Sl KT37 a6_0_0_0)], 26, none⟩] (fun x : Unit => (Tu [(Vi r41.2.1), (Vi r41.2.2)])) (fun x => [⟨.pointer (some wa6_0_0), [(Sl KT37 r41.1)], 26, none⟩])) [4] [0, 1, 2, 3, 5, 6, 7, 8, 9, 10] (by decide) (pick_cons rfl pick_nil) (pick_cons rfl (pick_cons rfl (pick_cons rfl (pick_cons rfl (pick_cons rfl (pick_cons rfl (pick_cons rfl (pick_cons rfl (pick_cons rfl (pick_cons rfl pick_nil)))))))))) (Hn := fun x : Unit => [⟨.pointer (some wa6_0_0), [(Sl KT37 r41.1)], 26, none⟩, ⟨.pointer (some wa3), [(Vb a3_0)], 4, none⟩, ⟨.pointer (some wa5), [(Vl (Vs wa5_0))], 53, none⟩, (Rw Kb 4 (Vs wa5_0) (a5_0.set a0.toNat true)), ⟨.pointer (some wa6), [(Vl (.func (.func 36) #[] ⟨[.pointer (some wa6_0_0)]⟩))], 72, none⟩, ⟨.pointer (some wa7), [(Vl (.func (.func 65) #[] ⟨[.pointer (some wa3), .pointer (some wa4), .pointer (some wa5), .pointer (some wa6), .pointer (some wa7), .pointer (some wa7_0_5), .pointer (some wa7_0_6)]⟩))], 128, none⟩, ⟨.pointer (some wa4), [(Vi a4_0)], 3, none⟩, ⟨.pointer (some wa7_0_5), [(Vl (Vs wa7_0_5_0))], 33, none⟩, (Rw (Ki .i64) 3 (Vs wa7_0_5_0) a7_0_5_0), ⟨.pointer (some wa7_0_6), [(Vl (Vs wa7_0_6_0))], 33, none⟩, (Rw (Ki .i64) 3 (Vs wa7_0_6_0) a7_0_6_0)]) (fun _ => rfl) rfl rfl) (wt_none' rfl) fun ⟨⟩ => ?_
    refine s0 (rd_move' rfl) ?_
    refine s0 (rd_extract' rfl rfl) ?_
    refine s0 (rd_extract' rfl rfl) ?_
    refine s0 (rd_assign' rfl) ?_
    refine s0 (rd_assign' rfl) ?_
    refine nk hK10 ?_
    refine cr fun K11 hK11 => ?_
    refine s0 (rd_load' (i := 5) (o := 0) rfl ⟨rfl, rfl, rfl, rfl⟩ rfl flat128) ?_
    refine s0 (rd_move' rfl) ?_
    refine s0 (rd_move' rfl) ?_
    refine s0 (rd_move' rfl) ?_
    refine s0 (rd_bin' rfl rfl eg_int ru_add) ?_
    obtain ⟨r49, hr49, hp⟩ := bind_some hp
    refine sx_ox' (ox_callg' (ent_clo' (us := [.pointer (some wa3), .pointer (some wa4), .pointer (some wa5), .pointer (some wa6), .pointer (some wa7), .pointer (some wa7_0_5), .pointer (some wa7_0_6)]) rfl Try.func65 isn65 rfl rfl) (hrec _ _ _ _ _ _ _ _ _ _ _ _ _ _ _ _ _ _ _ _ _ hr49 : Sx.Fn Try.prog 65 [(Vi r41.2.1), (Vi a0), (Vi (iadd .i64 a2 1)), (Vp wa3), (Vp wa4), (Vp wa5), (Vp wa6), (Vp wa7), (Vp wa7_0_5), (Vp wa7_0_6)] [⟨.pointer (some wa3), [(Vb a3_0)], 4, none⟩, ⟨.pointer (some wa4), [(Vi a4_0)], 3, none⟩, ⟨.pointer (some wa5), [(Vl (Vs wa5_0))], 53, none⟩, (Rw Kb 4 (Vs wa5_0) (a5_0.set a0.toNat true)), ⟨.pointer (some wa6), [(Vl (.func (.func 36) #[] ⟨[.pointer (some wa6_0_0)]⟩))], 72, none⟩, ⟨.pointer (some wa6_0_0), [(Sl KT37 r41.1)], 26, none⟩, ⟨.pointer (some wa7), [(Vl (.func (.func 65) #[] ⟨[.pointer (some wa3), .pointer (some wa4), .pointer (some wa5), .pointer (some wa6), .pointer (some wa7), .pointer (some wa7_0_5), .pointer (some wa7_0_6)]⟩))], 128, none⟩, ⟨.pointer (some wa7_0_5), [(Vl (Vs wa7_0_5_0))], 33, none⟩, (Rw (Ki .i64) 3 (Vs wa7_0_5_0) a7_0_5_0), ⟨.pointer (some wa7_0_6), [(Vl (Vs wa7_0_6_0))], 33, none⟩, (Rw (Ki .i64) 3 (Vs wa7_0_6_0) a7_0_6_0)] (fun x : Gs × Gs => (Vl (.tuple #[]))) (fun x => [⟨.pointer (some wa3), [(Vb r49.1)], 4, none⟩, ⟨.pointer (some wa4), [(Vi r49.2.1)], 3, none⟩, ⟨.pointer (some wa5), [(Vl (Vs wa5_0))], 53, none⟩, (Rw Kb 4 (Vs wa5_0) r49.2.2.1), ⟨.pointer (some wa6), [(Vl (.func (.func 36) #[] ⟨[.pointer (some wa6_0_0)]⟩))], 72, none⟩, ⟨.pointer (some wa6_0_0), [(Sl KT37 r49.2.2.2.1)], 26, none⟩, ⟨.pointer (some wa7), [(Vl (.func (.func 65) #[] ⟨[.pointer (some wa3), .pointer (some wa4), .pointer (some wa5), .pointer (some wa6), .pointer (some wa7), .pointer (some wa7_0_5), .pointer (some wa7_0_6)]⟩))], 128, none⟩, ⟨.pointer (some wa7_0_5), [(Vl (Vs x.1))], 33, none⟩, (Rw (Ki .i64) 3 (Vs x.1) r49.2.2.2.2.1), ⟨.pointer (some wa7_0_6), [(Vl (Vs x.2))], 33, none⟩, (Rw (Ki .i64) 3 (Vs x.2) r49.2.2.2.2.2)])) [1, 6, 2, 3, 4, 0, 5, 7, 8, 9, 10] [] (by decide) (pick_cons rfl (pick_cons rfl (pick_cons rfl (pick_cons rfl (pick_cons rfl (pick_cons rfl (pick_cons rfl (pick_cons rfl (pick_cons rfl (pick_cons rfl (pick_cons rfl pick_nil))))))))))) pick_nil (Hn := fun x : Gs × Gs => [⟨.pointer (some wa3), [(Vb r49.1)], 4, none⟩, ⟨.pointer (some wa4), [(Vi r49.2.1)], 3, none⟩, ⟨.pointer (some wa5), [(Vl (Vs wa5_0))], 53, none⟩, (Rw Kb 4 (Vs wa5_0) r49.2.2.1), ⟨.pointer (some wa6), [(Vl (.func (.func 36) #[] ⟨[.pointer (some wa6_0_0)]⟩))], 72, none⟩, ⟨.pointer (some wa6_0_0), [(Sl KT37 r49.2.2.2.1)], 26, none⟩, ⟨.pointer (some wa7), [(Vl (.func (.func 65) #[] ⟨[.pointer (some wa3), .pointer (some wa4), .pointer (some wa5), .pointer (some wa6), .pointer (some wa7), .pointer (some wa7_0_5), .pointer (some wa7_0_6)]⟩))], 128, none⟩, ⟨.pointer (some wa7_0_5), [(Vl (Vs x.1))], 33, none⟩, (Rw (Ki .i64) 3 (Vs x.1) r49.2.2.2.2.1), ⟨.pointer (some wa7_0_6), [(Vl (Vs x.2))], 33, none⟩, (Rw (Ki .i64) 3 (Vs x.2) r49.2.2.2.2.2)]) (fun _ => rfl) rfl rfl) (wt_none' rfl) fun ⟨g49, gz1⟩ => ?_
    refine nk hK11 ?_
    refine cx_seq' fun K12 hK12 => ?_
    refine cx_plana' [wa7_0_6.block] [(3, 1), (7, 1), (8, 1), (9, 2)] [(0, 1), (1, 1), (4, 2), (5, 2)] 6 #[true, true, false, false, true, true, false, false, false, false] mixed (by kernel_rfl) ?_
    refine px_rd' rfl (rd_load' (i := 7) (o := 0) rfl ⟨rfl, rfl, rfl, rfl⟩ rfl flat33) rfl rfl (wt_none' rfl) ?_
    refine px_rd' rfl (rd_move' rfl) rfl rfl (wt_none' rfl) ?_
    refine px_rb' rfl (rb_load' (i := 9) (o := 0) rfl ⟨rfl, rfl, rfl, rfl⟩ rfl flat33 (by simp)) rfl rfl (wt_none' rfl) ?_
    refine px_rb' rfl (rb_move' rfl) rfl rfl (wt_none' rfl) ?_
    refine px_nil' ?_
    show AX E _ _ _ _ _ _ _ _
    obtain ⟨r53, hr53, hp⟩ := bind_some hp
    obtain ⟨r57, hr57, hp⟩ := bind_some hp
    refine ax_node (f' := 0) #[true, true, true, true, true, true, true, true, true, true] (fun (v12 : Gs × Gs) => (⟨64, [], [(0, (Vi a0)), (2, (Vi a2)), (7, (Vp wa7)), (9, (Vp wa7_0_6)), (14, (Vi r41.2.2))], [⟨.pointer (some wa7), [(Vl (.func (.func 65) #[] ⟨[.pointer (some wa3), .pointer (some wa4), .pointer (some wa5), .pointer (some wa6), .pointer (some wa7), .pointer (some wa7_0_5), .pointer (some wa7_0_6)]⟩))], 128, none⟩, ⟨.pointer (some wa3), [(Vb r49.1)], 4, none⟩, ⟨.pointer (some wa4), [(Vi r49.2.1)], 3, none⟩, ⟨.pointer (some wa5), [(Vl (Vs wa5_0))], 53, none⟩, (Rw Kb 4 (Vs wa5_0) r49.2.2.1), ⟨.pointer (some wa6), [(Vl (.func (.func 36) #[] ⟨[.pointer (some wa6_0_0)]⟩))], 72, none⟩, ⟨.pointer (some wa6_0_0), [(Sl KT37 r49.2.2.2.1)], 26, none⟩, ⟨.pointer (some wa7_0_5), [(Vl (Vs v12.1))], 33, none⟩, (Rw (Ki .i64) 3 (Vs v12.1) r53), ⟨.pointer (some wa7_0_6), [(Vl (Vs v12.2))], 33, none⟩, (Rw (Ki .i64) 3 (Vs v12.2) r57)]⟩ : St)) ?_ ?_
    ·rintro ⟨g9012, g9013⟩
     refine ax_nil (by kernel_rfl) ?_
     show TX E K12 _
     refine tx_k' hK12 ?_
     refine cx_region' ?_
     refine s0 (rd_load' (i := 0) (o := 0) rfl ⟨rfl, rfl, rfl, rfl⟩ rfl flat128) ?_
     refine s0 (rd_move' rfl) ?_
     refine s0 (rd_move' rfl) ?_
     refine s0 (rd_move' rfl) ?_
     refine s0 (rd_bin' rfl rfl eg_int ru_add) ?_
     obtain ⟨r63, hr63, hp⟩ := bind_some hp
     refine sx_ox' (ox_callg' (ent_clo' (us := [.pointer (some wa3), .pointer (some wa4), .pointer (some wa5), .pointer (some wa6), .pointer (some wa7), .pointer (some wa7_0_5), .pointer (some wa7_0_6)]) rfl Try.func65 isn65 rfl rfl) (hrec _ _ _ _ _ _ _ _ _ _ _ _ _ _ _ _ _ _ _ _ _ hr63 : Sx.Fn Try.prog 65 [(Vi r41.2.2), (Vi a0), (Vi (iadd .i64 a2 1)), (Vp wa3), (Vp wa4), (Vp wa5), (Vp wa6), (Vp wa7), (Vp wa7_0_5), (Vp wa7_0_6)] [⟨.pointer (some wa3), [(Vb r49.1)], 4, none⟩, ⟨.pointer (some wa4), [(Vi r49.2.1)], 3, none⟩, ⟨.pointer (some wa5), [(Vl (Vs wa5_0))], 53, none⟩, (Rw Kb 4 (Vs wa5_0) r49.2.2.1), ⟨.pointer (some wa6), [(Vl (.func (.func 36) #[] ⟨[.pointer (some wa6_0_0)]⟩))], 72, none⟩, ⟨.pointer (some wa6_0_0), [(Sl KT37 r49.2.2.2.1)], 26, none⟩, ⟨.pointer (some wa7), [(Vl (.func (.func 65) #[] ⟨[.pointer (some wa3), .pointer (some wa4), .pointer (some wa5), .pointer (some wa6), .pointer (some wa7), .pointer (some wa7_0_5), .pointer (some wa7_0_6)]⟩))], 128, none⟩, ⟨.pointer (some wa7_0_5), [(Vl (Vs g9012))], 33, none⟩, (Rw (Ki .i64) 3 (Vs g9012) r53), ⟨.pointer (some wa7_0_6), [(Vl (Vs g9013))], 33, none⟩, (Rw (Ki .i64) 3 (Vs g9013) r57)] (fun x : Gs × Gs => (Vl (.tuple #[]))) (fun x => [⟨.pointer (some wa3), [(Vb r63.1)], 4, none⟩, ⟨.pointer (some wa4), [(Vi r63.2.1)], 3, none⟩, ⟨.pointer (some wa5), [(Vl (Vs wa5_0))], 53, none⟩, (Rw Kb 4 (Vs wa5_0) r63.2.2.1), ⟨.pointer (some wa6), [(Vl (.func (.func 36) #[] ⟨[.pointer (some wa6_0_0)]⟩))], 72, none⟩, ⟨.pointer (some wa6_0_0), [(Sl KT37 r63.2.2.2.1)], 26, none⟩, ⟨.pointer (some wa7), [(Vl (.func (.func 65) #[] ⟨[.pointer (some wa3), .pointer (some wa4), .pointer (some wa5), .pointer (some wa6), .pointer (some wa7), .pointer (some wa7_0_5), .pointer (some wa7_0_6)]⟩))], 128, none⟩, ⟨.pointer (some wa7_0_5), [(Vl (Vs x.1))], 33, none⟩, (Rw (Ki .i64) 3 (Vs x.1) r63.2.2.2.2.1), ⟨.pointer (some wa7_0_6), [(Vl (Vs x.2))], 33, none⟩, (Rw (Ki .i64) 3 (Vs x.2) r63.2.2.2.2.2)])) [1, 2, 3, 4, 5, 6, 0, 7, 8, 9, 10] [] (by decide) (pick_cons rfl (pick_cons rfl (pick_cons rfl (pick_cons rfl (pick_cons rfl (pick_cons rfl (pick_cons rfl (pick_cons rfl (pick_cons rfl (pick_cons rfl (pick_cons rfl pick_nil))))))))))) pick_nil (Hn := fun x : Gs × Gs => [⟨.pointer (some wa3), [(Vb r63.1)], 4, none⟩, ⟨.pointer (some wa4), [(Vi r63.2.1)], 3, none⟩, ⟨.pointer (some wa5), [(Vl (Vs wa5_0))], 53, none⟩, (Rw Kb 4 (Vs wa5_0) r63.2.2.1), ⟨.pointer (some wa6), [(Vl (.func (.func 36) #[] ⟨[.pointer (some wa6_0_0)]⟩))], 72, none⟩, ⟨.pointer (some wa6_0_0), [(Sl KT37 r63.2.2.2.1)], 26, none⟩, ⟨.pointer (some wa7), [(Vl (.func (.func 65) #[] ⟨[.pointer (some wa3), .pointer (some wa4), .pointer (some wa5), .pointer (some wa6), .pointer (some wa7), .pointer (some wa7_0_5), .pointer (some wa7_0_6)]⟩))], 128, none⟩, ⟨.pointer (some wa7_0_5), [(Vl (Vs x.1))], 33, none⟩, (Rw (Ki .i64) 3 (Vs x.1) r63.2.2.2.2.1), ⟨.pointer (some wa7_0_6), [(Vl (Vs x.2))], 33, none⟩, (Rw (Ki .i64) 3 (Vs x.2) r63.2.2.2.2.2)]) (fun _ => rfl) rfl rfl) (wt_none' rfl) fun ⟨g63, gz2⟩ => ?_
     refine sx_nil' ?_
     replace hp := Option.some.inj hp
     subst hp
     refine tx_pick' (L' := []) (H' := [⟨.pointer (some wa3), [(Vb r63.1)], 4, none⟩, ⟨.pointer (some wa4), [(Vi r63.2.1)], 3, none⟩, ⟨.pointer (some wa5), [(Vl (Vs wa5_0))], 53, none⟩, (Rw Kb 4 (Vs wa5_0) r63.2.2.1), ⟨.pointer (some wa6), [(Vl (.func (.func 36) #[] ⟨[.pointer (some wa6_0_0)]⟩))], 72, none⟩, ⟨.pointer (some wa6_0_0), [(Sl KT37 r63.2.2.2.1)], 26, none⟩, ⟨.pointer (some wa7), [(Vl (.func (.func 65) #[] ⟨[.pointer (some wa3), .pointer (some wa4), .pointer (some wa5), .pointer (some wa6), .pointer (some wa7), .pointer (some wa7_0_5), .pointer (some wa7_0_6)]⟩))], 128, none⟩, ⟨.pointer (some wa7_0_5), [(Vl (Vs g63))], 33, none⟩, (Rw (Ki .i64) 3 (Vs g63) r63.2.2.2.2.1), ⟨.pointer (some wa7_0_6), [(Vl (Vs gz2))], 33, none⟩, (Rw (Ki .i64) 3 (Vs gz2) r63.2.2.2.2.2)]) [0, 1, 2, 3, 4, 5, 6, 7, 8, 9, 10] sub_nil (by decide) (pick_cons rfl (pick_cons rfl (pick_cons rfl (pick_cons rfl (pick_cons rfl (pick_cons rfl (pick_cons rfl (pick_cons rfl (pick_cons rfl (pick_cons rfl (pick_cons rfl pick_nil))))))))))) ?_
     exact tx_end0' Try.results65 rfl (g63, gz2) rfl (List.Sublist.refl _)
    intro hN9
    refine ax_node (f' := 1) #[true, true, true, true, true, true, true, true, true, false] (fun (v11 : Gs × Gs) => (⟨64, [], [(57, (Vl (Vs v11.1))), (0, (Vi a0)), (2, (Vi a2)), (7, (Vp wa7)), (9, (Vp wa7_0_6)), (14, (Vi r41.2.2))], [(Rw (Ki .i64) 3 (Vs v11.1) r57), ⟨.pointer (some wa7), [(Vl (.func (.func 65) #[] ⟨[.pointer (some wa3), .pointer (some wa4), .pointer (some wa5), .pointer (some wa6), .pointer (some wa7), .pointer (some wa7_0_5), .pointer (some wa7_0_6)]⟩))], 128, none⟩, ⟨.pointer (some wa3), [(Vb r49.1)], 4, none⟩, ⟨.pointer (some wa4), [(Vi r49.2.1)], 3, none⟩, ⟨.pointer (some wa5), [(Vl (Vs wa5_0))], 53, none⟩, (Rw Kb 4 (Vs wa5_0) r49.2.2.1), ⟨.pointer (some wa6), [(Vl (.func (.func 36) #[] ⟨[.pointer (some wa6_0_0)]⟩))], 72, none⟩, ⟨.pointer (some wa6_0_0), [(Sl KT37 r49.2.2.2.1)], 26, none⟩, ⟨.pointer (some wa7_0_5), [(Vl (Vs v11.2))], 33, none⟩, (Rw (Ki .i64) 3 (Vs v11.2) r53), ⟨.pointer (some wa7_0_6), [(Vl (Vs gz1))], 33, none⟩]⟩ : St)) ?_ ?_
    ·rintro ⟨g9010, g9011⟩
     refine ax_all (i := 9) (is := []) (by kernel_rfl) (all_cons ?_ all_nil)
     ·refine nx_ox (last := #[true, true, true, true, true, true, true, true, true, true]) rfl (ox_store' (i := 10) (o := 0) rfl rfl (lv_vl rfl rfl) ⟨rfl, rfl, rfl, rfl⟩ rfl info33 rfl (H' := [(Rw (Ki .i64) 3 (Vs g9010) r57), ⟨.pointer (some wa7), [(Vl (.func (.func 65) #[] ⟨[.pointer (some wa3), .pointer (some wa4), .pointer (some wa5), .pointer (some wa6), .pointer (some wa7), .pointer (some wa7_0_5), .pointer (some wa7_0_6)]⟩))], 128, none⟩, ⟨.pointer (some wa3), [(Vb r49.1)], 4, none⟩, ⟨.pointer (some wa4), [(Vi r49.2.1)], 3, none⟩, ⟨.pointer (some wa5), [(Vl (Vs wa5_0))], 53, none⟩, (Rw Kb 4 (Vs wa5_0) r49.2.2.1), ⟨.pointer (some wa6), [(Vl (.func (.func 36) #[] ⟨[.pointer (some wa6_0_0)]⟩))], 72, none⟩, ⟨.pointer (some wa6_0_0), [(Sl KT37 r49.2.2.2.1)], 26, none⟩, ⟨.pointer (some wa7_0_5), [(Vl (Vs g9011))], 33, none⟩, (Rw (Ki .i64) 3 (Vs g9011) r53), ⟨.pointer (some wa7_0_6), [(Vl (Vs g9010))], 33, none⟩]) rfl) rfl (bs_cons (m := 10) rfl rfl rfl bs_nil) (wt_none' rfl) rfl fun _ => ?_
      exact tx_pick' [1, 2, 3, 4, 5, 6, 7, 8, 9, 10, 0] (sub_cons rfl (sub_cons rfl (sub_cons rfl (sub_cons rfl (sub_cons rfl sub_nil))))) (by decide) (pick_cons rfl (pick_cons rfl (pick_cons rfl (pick_cons rfl (pick_cons rfl (pick_cons rfl (pick_cons rfl (pick_cons rfl (pick_cons rfl (pick_cons rfl (pick_cons rfl pick_nil))))))))))) (hN9 (g9011, g9010))
    intro hN8
    refine ax_node (f' := 2) #[true, true, true, true, true, true, true, true, false, false] (fun (v10 : Gs × Gs) => (⟨64, [], [(8, (Vp wa7_0_5)), (53, (Vl (Vs v10.1))), (57, (Vl (Vs v10.2))), (0, (Vi a0)), (2, (Vi a2)), (7, (Vp wa7)), (9, (Vp wa7_0_6)), (14, (Vi r41.2.2))], [⟨.pointer (some wa7_0_5), [(Vl (Vs g49))], 33, none⟩, (Rw (Ki .i64) 3 (Vs v10.1) r53), (Rw (Ki .i64) 3 (Vs v10.2) r57), ⟨.pointer (some wa7), [(Vl (.func (.func 65) #[] ⟨[.pointer (some wa3), .pointer (some wa4), .pointer (some wa5), .pointer (some wa6), .pointer (some wa7), .pointer (some wa7_0_5), .pointer (some wa7_0_6)]⟩))], 128, none⟩, ⟨.pointer (some wa3), [(Vb r49.1)], 4, none⟩, ⟨.pointer (some wa4), [(Vi r49.2.1)], 3, none⟩, ⟨.pointer (some wa5), [(Vl (Vs wa5_0))], 53, none⟩, (Rw Kb 4 (Vs wa5_0) r49.2.2.1), ⟨.pointer (some wa6), [(Vl (.func (.func 36) #[] ⟨[.pointer (some wa6_0_0)]⟩))], 72, none⟩, ⟨.pointer (some wa6_0_0), [(Sl KT37 r49.2.2.2.1)], 26, none⟩, ⟨.pointer (some wa7_0_6), [(Vl (Vs gz1))], 33, none⟩]⟩ : St)) ?_ ?_
    ·rintro ⟨g908, g909⟩
     refine ax_all (i := 8) (is := []) (by kernel_rfl) (all_cons ?_ all_nil)
     ·refine nx_oxv (last := #[true, true, true, true, true, true, true, true, true, false]) rfl (oxv_store (i := 0) (o := 0) rfl rfl (lv_vl rfl rfl) ⟨rfl, rfl, rfl, rfl⟩ rfl info33 rfl (H' := [⟨.pointer (some wa7_0_5), [(Vl (Vs g908))], 33, none⟩, (Rw (Ki .i64) 3 (Vs g908) r53), (Rw (Ki .i64) 3 (Vs g909) r57), ⟨.pointer (some wa7), [(Vl (.func (.func 65) #[] ⟨[.pointer (some wa3), .pointer (some wa4), .pointer (some wa5), .pointer (some wa6), .pointer (some wa7), .pointer (some wa7_0_5), .pointer (some wa7_0_6)]⟩))], 128, none⟩, ⟨.pointer (some wa3), [(Vb r49.1)], 4, none⟩, ⟨.pointer (some wa4), [(Vi r49.2.1)], 3, none⟩, ⟨.pointer (some wa5), [(Vl (Vs wa5_0))], 53, none⟩, (Rw Kb 4 (Vs wa5_0) r49.2.2.1), ⟨.pointer (some wa6), [(Vl (.func (.func 36) #[] ⟨[.pointer (some wa6_0_0)]⟩))], 72, none⟩, ⟨.pointer (some wa6_0_0), [(Sl KT37 r49.2.2.2.1)], 26, none⟩, ⟨.pointer (some wa7_0_6), [(Vl (Vs gz1))], 33, none⟩]) rfl) rfl rfl (bo_cons (m := 10) (by decide) rfl rfl bo_nil) (wt_none' rfl) rfl fun _ => ?_
      exact tx_pick' [2, 3, 4, 5, 6, 7, 8, 9, 0, 1, 10] (sub_cons rfl (sub_cons rfl (sub_cons rfl (sub_cons rfl (sub_cons rfl (sub_cons rfl sub_nil)))))) (by decide) (pick_cons rfl (pick_cons rfl (pick_cons rfl (pick_cons rfl (pick_cons rfl (pick_cons rfl (pick_cons rfl (pick_cons rfl (pick_cons rfl (pick_cons rfl (pick_cons rfl pick_nil))))))))))) (hN8 (g909, g908))
    intro hN7
    refine ax_node (f' := 3) #[true, true, true, true, true, true, true, false, false, false] (fun (v9 : Gs × Gs) => (⟨64, [], [(8, (Vp wa7_0_5)), (53, (Vl (Vs v9.1))), (54, (Vl (Vs gz1))), (56, (Vl (Vs v9.2))), (0, (Vi a0)), (2, (Vi a2)), (7, (Vp wa7)), (9, (Vp wa7_0_6)), (14, (Vi r41.2.2))], [⟨.pointer (some wa7_0_5), [(Vl (Vs g49))], 33, none⟩, (Rw (Ki .i64) 3 (Vs v9.1) r53), (Rw (Ki .i64) 3 (Vs gz1) r49.2.2.2.2.2), (Rw (Ki .i64) 3 (Vs v9.2) ([a2])), ⟨.pointer (some wa7), [(Vl (.func (.func 65) #[] ⟨[.pointer (some wa3), .pointer (some wa4), .pointer (some wa5), .pointer (some wa6), .pointer (some wa7), .pointer (some wa7_0_5), .pointer (some wa7_0_6)]⟩))], 128, none⟩, ⟨.pointer (some wa3), [(Vb r49.1)], 4, none⟩, ⟨.pointer (some wa4), [(Vi r49.2.1)], 3, none⟩, ⟨.pointer (some wa5), [(Vl (Vs wa5_0))], 53, none⟩, (Rw Kb 4 (Vs wa5_0) r49.2.2.1), ⟨.pointer (some wa6), [(Vl (.func (.func 36) #[] ⟨[.pointer (some wa6_0_0)]⟩))], 72, none⟩, ⟨.pointer (some wa6_0_0), [(Sl KT37 r49.2.2.2.1)], 26, none⟩, ⟨.pointer (some wa7_0_6), [(Vl (Vs gz1))], 33, none⟩]⟩ : St)) ?_ ?_
    ·rintro ⟨g906, g907⟩
     refine ax_all (i := 7) (is := []) (by kernel_rfl) (all_cons ?_ all_nil)
     ·refine nx_ox (last := #[true, true, true, true, true, true, true, true, false, false]) rfl (ox_append' (K := (Ki .i64)) (i := 2) (xs := r49.2.2.2.2.2) (ys := ([a2])) rfl rfl rfl (sr_row' (j := 3) rfl rfl rfl Try.underlying33) hr57 Try.underlying33 info3 rfl rfl rfl (H' := [⟨.pointer (some wa7_0_5), [(Vl (Vs g49))], 33, none⟩, (Rw (Ki .i64) 3 (Vs g906) r53), (Rw (Ki .i64) 3 (Vs g907) ([a2])), ⟨.pointer (some wa7), [(Vl (.func (.func 65) #[] ⟨[.pointer (some wa3), .pointer (some wa4), .pointer (some wa5), .pointer (some wa6), .pointer (some wa7), .pointer (some wa7_0_5), .pointer (some wa7_0_6)]⟩))], 128, none⟩, ⟨.pointer (some wa3), [(Vb r49.1)], 4, none⟩, ⟨.pointer (some wa4), [(Vi r49.2.1)], 3, none⟩, ⟨.pointer (some wa5), [(Vl (Vs wa5_0))], 53, none⟩, (Rw Kb 4 (Vs wa5_0) r49.2.2.1), ⟨.pointer (some wa6), [(Vl (.func (.func 36) #[] ⟨[.pointer (some wa6_0_0)]⟩))], 72, none⟩, ⟨.pointer (some wa6_0_0), [(Sl KT37 r49.2.2.2.1)], 26, none⟩, ⟨.pointer (some wa7_0_6), [(Vl (Vs gz1))], 33, none⟩]) rfl) rfl (bs_cons (m := 11) rfl rfl rfl bs_nil) (wt_none' rfl) rfl fun g57 => ?_
      exact tx_pick' [1, 2, 0, 4, 5, 6, 7, 8, 9, 10, 11] (sub_cons rfl (sub_cons rfl (sub_cons rfl (sub_cons rfl (sub_cons rfl (sub_cons rfl (sub_cons rfl (sub_cons rfl sub_nil)))))))) (by decide) (pick_cons rfl (pick_cons rfl (pick_cons rfl (pick_cons rfl (pick_cons rfl (pick_cons rfl (pick_cons rfl (pick_cons rfl (pick_cons rfl (pick_cons rfl (pick_cons rfl pick_nil))))))))))) (hN7 (g906, g57))
    intro hN6
    refine ax_node (f' := 4) #[true, true, true, true, true, true, false, false, false, false] (fun (v7 : Gs) => (⟨64, [], [(8, (Vp wa7_0_5)), (53, (Vl (Vs v7))), (54, (Vl (Vs gz1))), (55, (Vi a2)), (0, (Vi a0)), (2, (Vi a2)), (7, (Vp wa7)), (9, (Vp wa7_0_6)), (14, (Vi r41.2.2))], [⟨.pointer (some wa7_0_5), [(Vl (Vs g49))], 33, none⟩, (Rw (Ki .i64) 3 (Vs v7) r53), (Rw (Ki .i64) 3 (Vs gz1) r49.2.2.2.2.2), ⟨.pointer (some wa7), [(Vl (.func (.func 65) #[] ⟨[.pointer (some wa3), .pointer (some wa4), .pointer (some wa5), .pointer (some wa6), .pointer (some wa7), .pointer (some wa7_0_5), .pointer (some wa7_0_6)]⟩))], 128, none⟩, ⟨.pointer (some wa3), [(Vb r49.1)], 4, none⟩, ⟨.pointer (some wa4), [(Vi r49.2.1)], 3, none⟩, ⟨.pointer (some wa5), [(Vl (Vs wa5_0))], 53, none⟩, (Rw Kb 4 (Vs wa5_0) r49.2.2.1), ⟨.pointer (some wa6), [(Vl (.func (.func 36) #[] ⟨[.pointer (some wa6_0_0)]⟩))], 72, none⟩, ⟨.pointer (some wa6_0_0), [(Sl KT37 r49.2.2.2.1)], 26, none⟩, ⟨.pointer (some wa7_0_6), [(Vl (Vs gz1))], 33, none⟩]⟩ : St)) ?_ ?_
    ·rintro g903
     refine ax_all (i := 6) (is := []) (by kernel_rfl) (all_cons ?_ all_nil)
     ·refine nx_ox (last := #[true, true, true, true, true, true, true, false, false, false]) rfl (ox_rowlit' (K := (Ki .i64)) (xs := [a2]) (qs := [(0, [(Vi a2)])]) ⟨rfl, ⟨_, rfl, (lv_vl rfl rfl)⟩, trivial⟩ Try.underlying33 info3 rfl rfl rfl rfl rfl (by kernel_rfl) rfl rfl rfl) rfl (bs_cons (m := 10) rfl rfl rfl bs_nil) (wt_none' rfl) rfl fun g56 => ?_
      exact tx_pick' [1, 2, 3, 0, 4, 5, 6, 7, 8, 9, 10, 11] (sub_cons rfl (sub_cons rfl (sub_cons rfl (sub_cons rfl (sub_cons rfl (sub_cons rfl (sub_cons rfl (sub_cons rfl (sub_cons rfl sub_nil))))))))) (by decide) (pick_cons rfl (pick_cons rfl (pick_cons rfl (pick_cons rfl (pick_cons rfl (pick_cons rfl (pick_cons rfl (pick_cons rfl (pick_cons rfl (pick_cons rfl (pick_cons rfl (pick_cons rfl pick_nil)))))))))))) (hN6 (g903, g56))
    intro hN4
    refine ax_node (f' := 4) #[true, true, true, false, true, true, true, false, false, false] (fun (v8 : Gs × Gs) => (⟨64, [], [(8, (Vp wa7_0_5)), (50, (Vl (Vs g49))), (52, (Vl (Vs v8.1))), (54, (Vl (Vs gz1))), (56, (Vl (Vs v8.2))), (0, (Vi a0)), (2, (Vi a2)), (7, (Vp wa7)), (9, (Vp wa7_0_6)), (14, (Vi r41.2.2))], [⟨.pointer (some wa7_0_5), [(Vl (Vs g49))], 33, none⟩, (Rw (Ki .i64) 3 (Vs g49) r49.2.2.2.2.1), (Rw (Ki .i64) 3 (Vs v8.1) ([a0])), (Rw (Ki .i64) 3 (Vs gz1) r49.2.2.2.2.2), (Rw (Ki .i64) 3 (Vs v8.2) ([a2])), ⟨.pointer (some wa7), [(Vl (.func (.func 65) #[] ⟨[.pointer (some wa3), .pointer (some wa4), .pointer (some wa5), .pointer (some wa6), .pointer (some wa7), .pointer (some wa7_0_5), .pointer (some wa7_0_6)]⟩))], 128, none⟩, ⟨.pointer (some wa3), [(Vb r49.1)], 4, none⟩, ⟨.pointer (some wa4), [(Vi r49.2.1)], 3, none⟩, ⟨.pointer (some wa5), [(Vl (Vs wa5_0))], 53, none⟩, (Rw Kb 4 (Vs wa5_0) r49.2.2.1), ⟨.pointer (some wa6), [(Vl (.func (.func 36) #[] ⟨[.pointer (some wa6_0_0)]⟩))], 72, none⟩, ⟨.pointer (some wa6_0_0), [(Sl KT37 r49.2.2.2.1)], 26, none⟩, ⟨.pointer (some wa7_0_6), [(Vl (Vs gz1))], 33, none⟩]⟩ : St)) ?_ ?_
    ·rintro ⟨g904, g905⟩
     refine ax_all (i := 3) (is := []) (by kernel_rfl) (all_cons ?_ all_nil)
     ·refine nx_ox (last := #[true, true, true, true, true, true, true, false, false, false]) rfl (ox_append' (K := (Ki .i64)) (i := 1) (xs := r49.2.2.2.2.1) (ys := ([a0])) rfl rfl rfl (sr_row' (j := 2) rfl rfl rfl Try.underlying33) hr53 Try.underlying33 info3 rfl rfl rfl (H' := [⟨.pointer (some wa7_0_5), [(Vl (Vs g49))], 33, none⟩, (Rw (Ki .i64) 3 (Vs g904) ([a0])), (Rw (Ki .i64) 3 (Vs gz1) r49.2.2.2.2.2), (Rw (Ki .i64) 3 (Vs g905) ([a2])), ⟨.pointer (some wa7), [(Vl (.func (.func 65) #[] ⟨[.pointer (some wa3), .pointer (some wa4), .pointer (some wa5), .pointer (some wa6), .pointer (some wa7), .pointer (some wa7_0_5), .pointer (some wa7_0_6)]⟩))], 128, none⟩, ⟨.pointer (some wa3), [(Vb r49.1)], 4, none⟩, ⟨.pointer (some wa4), [(Vi r49.2.1)], 3, none⟩, ⟨.pointer (some wa5), [(Vl (Vs wa5_0))], 53, none⟩, (Rw Kb 4 (Vs wa5_0) r49.2.2.1), ⟨.pointer (some wa6), [(Vl (.func (.func 36) #[] ⟨[.pointer (some wa6_0_0)]⟩))], 72, none⟩, ⟨.pointer (some wa6_0_0), [(Sl KT37 r49.2.2.2.1)], 26, none⟩, ⟨.pointer (some wa7_0_6), [(Vl (Vs gz1))], 33, none⟩]) rfl) rfl (bs_cons (m := 12) rfl rfl rfl bs_nil) (wt_none' rfl) rfl fun g53 => ?_
      exact tx_pick' [1, 0, 3, 4, 5, 6, 7, 8, 9, 10, 11, 12] (sub_cons rfl (sub_cons rfl (sub_cons rfl (sub_cons rfl (sub_cons rfl (sub_cons rfl (sub_cons rfl (sub_cons rfl (sub_cons rfl sub_nil))))))))) (by decide) (pick_cons rfl (pick_cons rfl (pick_cons rfl (pick_cons rfl (pick_cons rfl (pick_cons rfl (pick_cons rfl (pick_cons rfl (pick_cons rfl (pick_cons rfl (pick_cons rfl (pick_cons rfl pick_nil)))))))))))) (hN6 (g53, g905))
    intro hN5
    refine ax_node (f' := 5) #[true, true, true, false, true, true, false, false, false, false] (fun (v5 : Gs) => (⟨64, [], [(8, (Vp wa7_0_5)), (50, (Vl (Vs g49))), (52, (Vl (Vs v5))), (54, (Vl (Vs gz1))), (55, (Vi a2)), (0, (Vi a0)), (2, (Vi a2)), (7, (Vp wa7)), (9, (Vp wa7_0_6)), (14, (Vi r41.2.2))], [⟨.pointer (some wa7_0_5), [(Vl (Vs g49))], 33, none⟩, (Rw (Ki .i64) 3 (Vs g49) r49.2.2.2.2.1), (Rw (Ki .i64) 3 (Vs v5) ([a0])), (Rw (Ki .i64) 3 (Vs gz1) r49.2.2.2.2.2), ⟨.pointer (some wa7), [(Vl (.func (.func 65) #[] ⟨[.pointer (some wa3), .pointer (some wa4), .pointer (some wa5), .pointer (some wa6), .pointer (some wa7), .pointer (some wa7_0_5), .pointer (some wa7_0_6)]⟩))], 128, none⟩, ⟨.pointer (some wa3), [(Vb r49.1)], 4, none⟩, ⟨.pointer (some wa4), [(Vi r49.2.1)], 3, none⟩, ⟨.pointer (some wa5), [(Vl (Vs wa5_0))], 53, none⟩, (Rw Kb 4 (Vs wa5_0) r49.2.2.1), ⟨.pointer (some wa6), [(Vl (.func (.func 36) #[] ⟨[.pointer (some wa6_0_0)]⟩))], 72, none⟩, ⟨.pointer (some wa6_0_0), [(Sl KT37 r49.2.2.2.1)], 26, none⟩, ⟨.pointer (some wa7_0_6), [(Vl (Vs gz1))], 33, none⟩]⟩ : St)) ?_ ?_
    ·rintro g901
     refine ax_all (i := 3) (is := [6]) (by kernel_rfl) (all_cons ?_ (all_cons ?_ all_nil))
     ·refine nx_ox (last := #[true, true, true, true, true, true, false, false, false, false]) rfl (ox_append' (K := (Ki .i64)) (i := 1) (xs := r49.2.2.2.2.1) (ys := ([a0])) rfl rfl rfl (sr_row' (j := 2) rfl rfl rfl Try.underlying33) hr53 Try.underlying33 info3 rfl rfl rfl (H' := [⟨.pointer (some wa7_0_5), [(Vl (Vs g49))], 33, none⟩, (Rw (Ki .i64) 3 (Vs g901) ([a0])), (Rw (Ki .i64) 3 (Vs gz1) r49.2.2.2.2.2), ⟨.pointer (some wa7), [(Vl (.func (.func 65) #[] ⟨[.pointer (some wa3), .pointer (some wa4), .pointer (some wa5), .pointer (some wa6), .pointer (some wa7), .pointer (some wa7_0_5), .pointer (some wa7_0_6)]⟩))], 128, none⟩, ⟨.pointer (some wa3), [(Vb r49.1)], 4, none⟩, ⟨.pointer (some wa4), [(Vi r49.2.1)], 3, none⟩, ⟨.pointer (some wa5), [(Vl (Vs wa5_0))], 53, none⟩, (Rw Kb 4 (Vs wa5_0) r49.2.2.1), ⟨.pointer (some wa6), [(Vl (.func (.func 36) #[] ⟨[.pointer (some wa6_0_0)]⟩))], 72, none⟩, ⟨.pointer (some wa6_0_0), [(Sl KT37 r49.2.2.2.1)], 26, none⟩, ⟨.pointer (some wa7_0_6), [(Vl (Vs gz1))], 33, none⟩]) rfl) rfl (bs_cons (m := 11) rfl rfl rfl bs_nil) (wt_none' rfl) rfl fun g53 => ?_
      exact tx_pick' [1, 0, 3, 4, 5, 6, 7, 8, 9, 10, 11] (sub_cons rfl (sub_cons rfl (sub_cons rfl (sub_cons rfl (sub_cons rfl (sub_cons rfl (sub_cons rfl (sub_cons rfl (sub_cons rfl sub_nil))))))))) (by decide) (pick_cons rfl (pick_cons rfl (pick_cons rfl (pick_cons rfl (pick_cons rfl (pick_cons rfl (pick_cons rfl (pick_cons rfl (pick_cons rfl (pick_cons rfl (pick_cons rfl pick_nil))))))))))) (hN4 g53)
     refine nx_ox (last := #[true, true, true, false, true, true, true, false, false, false]) rfl (ox_rowlit' (K := (Ki .i64)) (xs := [a2]) (qs := [(0, [(Vi a2)])]) ⟨rfl, ⟨_, rfl, (lv_vl rfl rfl)⟩, trivial⟩ Try.underlying33 info3 rfl rfl rfl rfl rfl (by kernel_rfl) rfl rfl rfl) rfl (bs_cons (m := 11) rfl rfl rfl bs_nil) (wt_none' rfl) rfl fun g56 => ?_
     exact tx_pick' [1, 2, 3, 4, 0, 5, 6, 7, 8, 9, 10, 11, 12] (sub_cons rfl (sub_cons rfl (sub_cons rfl (sub_cons rfl (sub_cons rfl (sub_cons rfl (sub_cons rfl (sub_cons rfl (sub_cons rfl (sub_cons rfl sub_nil)))))))))) (by decide) (pick_cons rfl (pick_cons rfl (pick_cons rfl (pick_cons rfl (pick_cons rfl (pick_cons rfl (pick_cons rfl (pick_cons rfl (pick_cons rfl (pick_cons rfl (pick_cons rfl (pick_cons rfl (pick_cons rfl pick_nil))))))))))))) (hN5 (g901, g56))
    intro hN2
    refine ax_node (f' := 5) #[true, true, false, false, true, true, true, false, false, false] (fun (v6 : Gs) => (⟨64, [], [(8, (Vp wa7_0_5)), (50, (Vl (Vs g49))), (51, (Vi a0)), (54, (Vl (Vs gz1))), (56, (Vl (Vs v6))), (0, (Vi a0)), (2, (Vi a2)), (7, (Vp wa7)), (9, (Vp wa7_0_6)), (14, (Vi r41.2.2))], [⟨.pointer (some wa7_0_5), [(Vl (Vs g49))], 33, none⟩, (Rw (Ki .i64) 3 (Vs g49) r49.2.2.2.2.1), (Rw (Ki .i64) 3 (Vs gz1) r49.2.2.2.2.2), (Rw (Ki .i64) 3 (Vs v6) ([a2])), ⟨.pointer (some wa7), [(Vl (.func (.func 65) #[] ⟨[.pointer (some wa3), .pointer (some wa4), .pointer (some wa5), .pointer (some wa6), .pointer (some wa7), .pointer (some wa7_0_5), .pointer (some wa7_0_6)]⟩))], 128, none⟩, ⟨.pointer (some wa3), [(Vb r49.1)], 4, none⟩, ⟨.pointer (some wa4), [(Vi r49.2.1)], 3, none⟩, ⟨.pointer (some wa5), [(Vl (Vs wa5_0))], 53, none⟩, (Rw Kb 4 (Vs wa5_0) r49.2.2.1), ⟨.pointer (some wa6), [(Vl (.func (.func 36) #[] ⟨[.pointer (some wa6_0_0)]⟩))], 72, none⟩, ⟨.pointer (some wa6_0_0), [(Sl KT37 r49.2.2.2.1)], 26, none⟩, ⟨.pointer (some wa7_0_6), [(Vl (Vs gz1))], 33, none⟩]⟩ : St)) ?_ ?_
    ·rintro g902
     refine ax_all (i := 2) (is := []) (by kernel_rfl) (all_cons ?_ all_nil)
     ·refine nx_ox (last := #[true, true, true, false, true, true, true, false, false, false]) rfl (ox_rowlit' (K := (Ki .i64)) (xs := [a0]) (qs := [(0, [(Vi a0)])]) ⟨rfl, ⟨_, rfl, (lv_vl rfl rfl)⟩, trivial⟩ Try.underlying33 info3 rfl rfl rfl rfl rfl (by kernel_rfl) rfl rfl rfl) rfl (bs_cons (m := 11) rfl rfl rfl bs_nil) (wt_none' rfl) rfl fun g52 => ?_
      exact tx_pick' [1, 2, 0, 3, 4, 5, 6, 7, 8, 9, 10, 11, 12] (sub_cons rfl (sub_cons rfl (sub_cons rfl (sub_cons rfl (sub_cons rfl (sub_cons rfl (sub_cons rfl (sub_cons rfl (sub_cons rfl (sub_cons rfl sub_nil)))))))))) (by decide) (pick_cons rfl (pick_cons rfl (pick_cons rfl (pick_cons rfl (pick_cons rfl (pick_cons rfl (pick_cons rfl (pick_cons rfl (pick_cons rfl (pick_cons rfl (pick_cons rfl (pick_cons rfl (pick_cons rfl pick_nil))))))))))))) (hN5 (g52, g902))
    intro hN3
    refine ax_all (i := 2) (is := [6]) (by kernel_rfl) (all_cons ?_ (all_cons ?_ all_nil))
    ·refine nx_ox (last := #[true, true, true, false, true, true, false, false, false, false]) rfl (ox_rowlit' (K := (Ki .i64)) (xs := [a0]) (qs := [(0, [(Vi a0)])]) ⟨rfl, ⟨_, rfl, (lv_vl rfl rfl)⟩, trivial⟩ Try.underlying33 info3 rfl rfl rfl rfl rfl (by kernel_rfl) rfl rfl rfl) rfl (bs_cons (m := 9) rfl rfl rfl bs_nil) (wt_none' rfl) rfl fun g52 => ?_
     exact tx_pick' [8, 9, 0, 11, 7, 1, 2, 3, 4, 5, 6, 10] (sub_cons rfl (sub_cons rfl (sub_cons rfl (sub_cons rfl (sub_cons rfl (sub_cons rfl (sub_cons rfl (sub_cons rfl (sub_cons rfl (sub_cons rfl sub_nil)))))))))) (by decide) (pick_cons rfl (pick_cons rfl (pick_cons rfl (pick_cons rfl (pick_cons rfl (pick_cons rfl (pick_cons rfl (pick_cons rfl (pick_cons rfl (pick_cons rfl (pick_cons rfl (pick_cons rfl pick_nil)))))))))))) (hN2 g52)
    refine nx_ox (last := #[true, true, false, false, true, true, true, false, false, false]) rfl (ox_rowlit' (K := (Ki .i64)) (xs := [a2]) (qs := [(0, [(Vi a2)])]) ⟨rfl, ⟨_, rfl, (lv_vl rfl rfl)⟩, trivial⟩ Try.underlying33 info3 rfl rfl rfl rfl rfl (by kernel_rfl) rfl rfl rfl) rfl (bs_cons (m := 9) rfl rfl rfl bs_nil) (wt_none' rfl) rfl fun g56 => ?_
    exact tx_pick' [8, 9, 11, 0, 7, 1, 2, 3, 4, 5, 6, 10] (sub_cons rfl (sub_cons rfl (sub_cons rfl (sub_cons rfl (sub_cons rfl (sub_cons rfl (sub_cons rfl (sub_cons rfl (sub_cons rfl (sub_cons rfl sub_nil)))))))))) (by decide) (pick_cons rfl (pick_cons rfl (pick_cons rfl (pick_cons rfl (pick_cons rfl (pick_cons rfl (pick_cons rfl (pick_cons rfl (pick_cons rfl (pick_cons rfl (pick_cons rfl (pick_cons rfl pick_nil)))))))))))) (hN3 g56)
   intro K7 hK7
   rcases br_cases hp with ⟨h4, hp⟩ | ⟨h4, hp⟩
   ·refine sx_skip' rfl rfl (wt_is' (wt_guard' rfl rfl rfl) (beq_tf h4)) ?_
    refine sx_skip' rfl rfl (wt_is' (wt_guard' rfl rfl rfl) (beq_tf h4)) ?_
    refine sx_skip' rfl rfl (wt_is' (wt_guard' rfl rfl rfl) (beq_tf h4)) ?_
    refine sx_skip' rfl rfl (wt_is' (wt_guard' rfl rfl rfl) (beq_tf h4)) ?_
    refine s0 (rd_pick_true' rfl h4 rfl) ?_
    refine sx_nil' ?_
    show TX E K7 _
    exact tx_pick' [0, 1, 2, 3, 4, 5, 6, 7, 8, 9, 10] (sub_cons rfl (sub_cons rfl (sub_cons rfl (sub_cons rfl (sub_cons rfl (sub_cons rfl (sub_cons rfl (sub_cons rfl (sub_cons rfl sub_nil))))))))) (by decide) (pick_cons rfl (pick_cons rfl (pick_cons rfl (pick_cons rfl (pick_cons rfl (pick_cons rfl (pick_cons rfl (pick_cons rfl (pick_cons rfl (pick_cons rfl (pick_cons rfl pick_nil))))))))))) (hK7 true hp)
   refine sx_rd' (rd_load' (i := 1) (o := 0) rfl ⟨rfl, rfl, rfl, rfl⟩ rfl flat53) rfl rfl (wt_is' (wt_guard' rfl rfl rfl) (beq_ff h4)) ?_
   refine sx_rd' (rd_move' rfl) rfl rfl (wt_is' (wt_guard' rfl rfl rfl) (beq_ff h4)) ?_
   obtain ⟨r32, hr32, hp⟩ := bind_some hp
   refine sx_rd' (rd_atr' (m := 2) rfl rfl rfl rfl hr32 Try.underlying53 info4) rfl rfl (wt_is' (wt_guard' rfl rfl rfl) (beq_ff h4)) ?_
   refine sx_rd' (rd_loadr' rfl (m := 2) (i := a0) (j := 0) rfl rfl hr32 rfl rfl flat4) rfl rfl (wt_is' (wt_guard' rfl rfl rfl) (beq_ff h4)) ?_
   refine s0 (rd_pick_false' rfl h4 rfl) ?_
   refine sx_nil' ?_
   show TX E K7 _
   exact tx_pick' [0, 1, 2, 3, 4, 5, 6, 7, 8, 9, 10] (sub_cons rfl (sub_cons rfl (sub_cons rfl (sub_cons rfl (sub_cons rfl (sub_cons rfl (sub_cons rfl (sub_cons rfl (sub_cons rfl sub_nil))))))))) (by decide) (pick_cons rfl (pick_cons rfl (pick_cons rfl (pick_cons rfl (pick_cons rfl (pick_cons rfl (pick_cons rfl (pick_cons rfl (pick_cons rfl (pick_cons rfl (pick_cons rfl pick_nil))))))))))) (hK7 r32 hp)
  intro K6 hK6
  rcases br_cases hp with ⟨h3, hp⟩ | ⟨h3, hp⟩
  ·refine sx_skip' rfl rfl (wt_is' (wt_guard' rfl rfl rfl) (beq_tf h3)) ?_
   refine sx_skip' rfl rfl (wt_is' (wt_guard' rfl rfl rfl) (beq_tf h3)) ?_
   refine sx_skip' rfl rfl (wt_is' (wt_guard' rfl rfl rfl) (beq_tf h3)) ?_
   refine s0 (rd_pick_true' rfl h3 rfl) ?_
   refine sx_nil' ?_
   show TX E K6 _
   exact tx_pick' [0, 2, 3, 4, 5, 6, 1, 7, 8, 9, 10] (sub_cons rfl (sub_cons rfl (sub_cons rfl (sub_cons rfl (sub_cons rfl (sub_cons rfl (sub_cons rfl (sub_cons rfl (sub_cons rfl sub_nil))))))))) (by decide) (pick_cons rfl (pick_cons rfl (pick_cons rfl (pick_cons rfl (pick_cons rfl (pick_cons rfl (pick_cons rfl (pick_cons rfl (pick_cons rfl (pick_cons rfl (pick_cons rfl pick_nil))))))))))) (hK6 true hp)
  refine sx_rd' (rd_move' rfl) rfl rfl (wt_is' (wt_guard' rfl rfl rfl) (beq_ff h3)) ?_
  refine sx_rd' (rd_load' (i := 1) (o := 0) rfl ⟨rfl, rfl, rfl, rfl⟩ rfl flat3) rfl rfl (wt_is' (wt_guard' rfl rfl rfl) (beq_ff h3)) ?_
  refine sx_rd' (rd_bin' rfl rfl eg_int ru_geq) rfl rfl (wt_is' (wt_guard' rfl rfl rfl) (beq_ff h3)) ?_
  refine s0 (rd_pick_false' rfl h3 rfl) ?_
  refine sx_nil' ?_
  show TX E K6 _
  exact tx_pick' [0, 2, 3, 4, 5, 6, 1, 7, 8, 9, 10] (sub_cons rfl (sub_cons rfl (sub_cons rfl (sub_cons rfl (sub_cons rfl (sub_cons rfl (sub_cons rfl (sub_cons rfl (sub_cons rfl sub_nil))))))))) (by decide) (pick_cons rfl (pick_cons rfl (pick_cons rfl (pick_cons rfl (pick_cons rfl (pick_cons rfl (pick_cons rfl (pick_cons rfl (pick_cons rfl (pick_cons rfl (pick_cons rfl pick_nil))))))))))) (hK6 (decide (a4_0 ≤ a0)) hp)
 intro K3 hK3
 rcases br_cases hp with ⟨h1, hp⟩ | ⟨h1, hp⟩
 ·refine sx_skip' rfl rfl (wt_is' (wt_guard' rfl rfl rfl) (beq_tf h1)) ?_
  refine sx_skip' rfl rfl (wt_is' (wt_guard' rfl rfl rfl) (beq_tf h1)) ?_
  refine s0 (rd_pick_true' rfl h1 rfl) ?_
  refine sx_nil' ?_
  show TX E K3 _
  exact tx_pick' [0, 1, 2, 3, 4, 5, 6, 7, 8, 9, 10] (sub_cons rfl (sub_cons rfl (sub_cons rfl (sub_cons rfl (sub_cons rfl (sub_cons rfl (sub_cons rfl (sub_cons rfl (sub_cons rfl (sub_cons rfl (sub_cons rfl sub_nil))))))))))) (by decide) (pick_cons rfl (pick_cons rfl (pick_cons rfl (pick_cons rfl (pick_cons rfl (pick_cons rfl (pick_cons rfl (pick_cons rfl (pick_cons rfl (pick_cons rfl (pick_cons rfl pick_nil))))))))))) (hK3 true hp)
 refine sx_rd' (rd_load' (i := 0) (o := 0) rfl ⟨rfl, rfl, rfl, rfl⟩ rfl flat4) rfl rfl (wt_is' (wt_guard' rfl rfl rfl) (beq_ff h1)) ?_
 refine sx_rd' (rd_un' rfl ru_not) rfl rfl (wt_is' (wt_guard' rfl rfl rfl) (beq_ff h1)) ?_
 refine s0 (rd_pick_false' rfl h1 rfl) ?_
 refine sx_nil' ?_
 show TX E K3 _
 exact tx_pick' [0, 1, 2, 3, 4, 5, 6, 7, 8, 9, 10] (sub_cons rfl (sub_cons rfl (sub_cons rfl (sub_cons rfl (sub_cons rfl (sub_cons rfl (sub_cons rfl (sub_cons rfl (sub_cons rfl (sub_cons rfl (sub_cons rfl sub_nil))))))))))) (by decide) (pick_cons rfl (pick_cons rfl (pick_cons rfl (pick_cons rfl (pick_cons rfl (pick_cons rfl (pick_cons rfl (pick_cons rfl (pick_cons rfl (pick_cons rfl (pick_cons rfl pick_nil))))))))))) (hK3 (!a3_0) hp)
theorem spec_Walk_1_v2_simA : ∀ (k : Nat) (wa3 : Addr) (wa4 : Addr) (wa5 : Addr) (wa5_0 : Gs) (wa6 : Addr) (wa6_0_0 : Addr) (wa7 : Addr) (wa7_0_5 : Addr) (wa7_0_5_0 : Gs) (wa7_0_6 : Addr) (wa7_0_6_0 : Gs) (a0 : Int) (a1 : Int) (a2 : Int) (a3_0 : Bool) (a4_0 : Int) (a5_0 : List Bool) (a6_0_0_0 : List ((List Nat) × Int × Int × Int × (List Nat) × (List Nat))) (a7_0_5_0 : List Int) (a7_0_6_0 : List Int) (out : Bool × Int × (List Bool) × (List ((List Nat) × Int × Int × Int × (List Nat) × (List Nat))) × (List Int) × (List Int)), spec_Walk_1_v2 k a0 a1 a2 a3_0 a4_0 a5_0 a6_0_0_0 a7_0_5_0 a7_0_6_0 = some out → Sx.Fn Try.prog 65 [(Vi a0), (Vi a1), (Vi a2), (Vp wa3), (Vp wa4), (Vp wa5), (Vp wa6), (Vp wa7), (Vp wa7_0_5), (Vp wa7_0_6)] [⟨.pointer (some wa3), [(Vb a3_0)], 4, none⟩, ⟨.pointer (some wa4), [(Vi a4_0)], 3, none⟩, ⟨.pointer (some wa5), [(Vl (Vs wa5_0))], 53, none⟩, (Rw Kb 4 (Vs wa5_0) a5_0), ⟨.pointer (some wa6), [(Vl (.func (.func 36) #[] ⟨[.pointer (some wa6_0_0)]⟩))], 72, none⟩, ⟨.pointer (some wa6_0_0), [(Sl KT37 a6_0_0_0)], 26, none⟩, ⟨.pointer (some wa7), [(Vl (.func (.func 65) #[] ⟨[.pointer (some wa3), .pointer (some wa4), .pointer (some wa5), .pointer (some wa6), .pointer (some wa7), .pointer (some wa7_0_5), .pointer (some wa7_0_6)]⟩))], 128, none⟩, ⟨.pointer (some wa7_0_5), [(Vl (Vs wa7_0_5_0))], 33, none⟩, (Rw (Ki .i64) 3 (Vs wa7_0_5_0) a7_0_5_0), ⟨.pointer (some wa7_0_6), [(Vl (Vs wa7_0_6_0))], 33, none⟩, (Rw (Ki .i64) 3 (Vs wa7_0_6_0) a7_0_6_0)] (fun w : Gs × Gs => (Vl (.tuple #[]))) (fun w => [⟨.pointer (some wa3), [(Vb out.1)], 4, none⟩, ⟨.pointer (some wa4), [(Vi out.2.1)], 3, none⟩, ⟨.pointer (some wa5), [(Vl (Vs wa5_0))], 53, none⟩, (Rw Kb 4 (Vs wa5_0) out.2.2.1), ⟨.pointer (some wa6), [(Vl (.func (.func 36) #[] ⟨[.pointer (some wa6_0_0)]⟩))], 72, none⟩, ⟨.pointer (some wa6_0_0), [(Sl KT37 out.2.2.2.1)], 26, none⟩, ⟨.pointer (some wa7), [(Vl (.func (.func 65) #[] ⟨[.pointer (some wa3), .pointer (some wa4), .pointer (some wa5), .pointer (some wa6), .pointer (some wa7), .pointer (some wa7_0_5), .pointer (some wa7_0_6)]⟩))], 128, none⟩, ⟨.pointer (some wa7_0_5), [(Vl (Vs w.1))], 33, none⟩, (Rw (Ki .i64) 3 (Vs w.1) out.2.2.2.2.1), ⟨.pointer (some wa7_0_6), [(Vl (Vs w.2))], 33, none⟩, (Rw (Ki .i64) 3 (Vs w.2) out.2.2.2.2.2)]) := by
 intro k
 induction k with
 | zero => intro wa3 wa4 wa5 wa5_0 wa6 wa6_0_0 wa7 wa7_0_5 wa7_0_5_0 wa7_0_6 wa7_0_6_0 a0 a1 a2 a3_0 a4_0 a5_0 a6_0_0_0 a7_0_5_0 a7_0_6_0 out hp; cases hp
 | succ k ih => intro wa3 wa4 wa5 wa5_0 wa6 wa6_0_0 wa7 wa7_0_5 wa7_0_5_0 wa7_0_6 wa7_0_6_0 a0 a1 a2 a3_0 a4_0 a5_0 a6_0_0_0 a7_0_5_0 a7_0_6_0 out hp; exact spec_Walk_1_v2_b_sim ih a0 a1 a2 a3_0 a4_0 a5_0 a6_0_0_0 a7_0_5_0 a7_0_6_0 hp
theorem spec_Walk_1_v2_sim {k : Nat} {wa3 : Addr} {wa4 : Addr} {wa5 : Addr} {wa5_0 : Gs} {wa6 : Addr} {wa6_0_0 : Addr} {wa7 : Addr} {wa7_0_5 : Addr} {wa7_0_5_0 : Gs} {wa7_0_6 : Addr} {wa7_0_6_0 : Gs} (a0 : Int) (a1 : Int) (a2 : Int) (a3_0 : Bool) (a4_0 : Int) (a5_0 : List Bool) (a6_0_0_0 : List ((List Nat) × Int × Int × Int × (List Nat) × (List Nat))) (a7_0_5_0 : List Int) (a7_0_6_0 : List Int) {out : Bool × Int × (List Bool) × (List ((List Nat) × Int × Int × Int × (List Nat) × (List Nat))) × (List Int) × (List Int)} (hp : spec_Walk_1_v2 k a0 a1 a2 a3_0 a4_0 a5_0 a6_0_0_0 a7_0_5_0 a7_0_6_0 = some out) : Sx.Fn Try.prog 65 [(Vi a0), (Vi a1), (Vi a2), (Vp wa3), (Vp wa4), (Vp wa5), (Vp wa6), (Vp wa7), (Vp wa7_0_5), (Vp wa7_0_6)] [⟨.pointer (some wa3), [(Vb a3_0)], 4, none⟩, ⟨.pointer (some wa4), [(Vi a4_0)], 3, none⟩, ⟨.pointer (some wa5), [(Vl (Vs wa5_0))], 53, none⟩, (Rw Kb 4 (Vs wa5_0) a5_0), ⟨.pointer (some wa6), [(Vl (.func (.func 36) #[] ⟨[.pointer (some wa6_0_0)]⟩))], 72, none⟩, ⟨.pointer (some wa6_0_0), [(Sl KT37 a6_0_0_0)], 26, none⟩, ⟨.pointer (some wa7), [(Vl (.func (.func 65) #[] ⟨[.pointer (some wa3), .pointer (some wa4), .pointer (some wa5), .pointer (some wa6), .pointer (some wa7), .pointer (some wa7_0_5), .pointer (some wa7_0_6)]⟩))], 128, none⟩, ⟨.pointer (some wa7_0_5), [(Vl (Vs wa7_0_5_0))], 33, none⟩, (Rw (Ki .i64) 3 (Vs wa7_0_5_0) a7_0_5_0), ⟨.pointer (some wa7_0_6), [(Vl (Vs wa7_0_6_0))], 33, none⟩, (Rw (Ki .i64) 3 (Vs wa7_0_6_0) a7_0_6_0)] (fun w : Gs × Gs => (Vl (.tuple #[]))) (fun w => [⟨.pointer (some wa3), [(Vb out.1)], 4, none⟩, ⟨.pointer (some wa4), [(Vi out.2.1)], 3, none⟩, ⟨.pointer (some wa5), [(Vl (Vs wa5_0))], 53, none⟩, (Rw Kb 4 (Vs wa5_0) out.2.2.1), ⟨.pointer (some wa6), [(Vl (.func (.func 36) #[] ⟨[.pointer (some wa6_0_0)]⟩))], 72, none⟩, ⟨.pointer (some wa6_0_0), [(Sl KT37 out.2.2.2.1)], 26, none⟩, ⟨.pointer (some wa7), [(Vl (.func (.func 65) #[] ⟨[.pointer (some wa3), .pointer (some wa4), .pointer (some wa5), .pointer (some wa6), .pointer (some wa7), .pointer (some wa7_0_5), .pointer (some wa7_0_6)]⟩))], 128, none⟩, ⟨.pointer (some wa7_0_5), [(Vl (Vs w.1))], 33, none⟩, (Rw (Ki .i64) 3 (Vs w.1) out.2.2.2.2.1), ⟨.pointer (some wa7_0_6), [(Vl (Vs w.2))], 33, none⟩, (Rw (Ki .i64) 3 (Vs w.2) out.2.2.2.2.2)]) := spec_Walk_1_v2_simA k wa3 wa4 wa5 wa5_0 wa6 wa6_0_0 wa7 wa7_0_5 wa7_0_5_0 wa7_0_6 wa7_0_6_0 a0 a1 a2 a3_0 a4_0 a5_0 a6_0_0_0 a7_0_5_0 a7_0_6_0 out hp

end Go.Proofs.Ytjgpiealnfbkcaa
