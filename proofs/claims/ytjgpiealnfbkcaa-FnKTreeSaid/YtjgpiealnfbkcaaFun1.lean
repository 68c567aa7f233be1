/-
  Plain functions for the Go functions that this law reaches, and that each call does what its plain function says. Printed by a program of ours.
-/
import Derived.Test.YtjgpiealnfbkcaaProg
import Derived.Test.YtjgpiealnfbkcaaSxX
namespace Go.Proofs.Ytjgpiealnfbkcaa
open Go.Sx
set_option linter.unusedVariables false
set_option linter.unusedSimpArgs false
set_option maxRecDepth 100000

theorem isn7 : (Try.f7.name == "runtime.NumGoroutine") = false := by kernel_rfl
theorem info25 : (Try.prog.info? 25).map (fun i => (i.zero, i.size, i.bytes)) = some (some (.slice none 0 0), 1, 24) := by kernel_rfl
theorem flat25 : Flat Try.prog 25 := ⟨_, Try.underlying25, fun _ h => (nomatch h), fun _ _ h => (nomatch h)⟩
theorem isn8 : (Try.f8.name == "runtime.NumGoroutine") = false := by kernel_rfl
theorem isn26 : (Try.f26.name == "runtime.NumGoroutine") = false := by kernel_rfl
theorem info40 : (Try.prog.info? 40).map (fun i => (i.zero, i.size, i.bytes)) = some (some (.float .f64 0), 1, 8) := by kernel_rfl
theorem flat40 : Flat Try.prog 40 := ⟨_, Try.underlying40, fun _ h => (nomatch h), fun _ _ h => (nomatch h)⟩
theorem isn61 : (Try.f61.name == "runtime.NumGoroutine") = false := by kernel_rfl
theorem extf79 : ∀ {x r : Nat}, gint .zero x = r → ∀ y, (y = x ∨ (isn x = true ∧ isn y = true)) → RunsF Try.prog (callFunc 79 #[.float .f64 y]) (Fl r) := fun hz y hy => hz ▸ runs_ext (e := Extern.MathFloor.toIntegral "math.archTrunc" .zero) Try.func79 (by kernel_rfl) (by kernel_rfl) (by kernel_rfl) (by kernel_rfl) (gint_runs hy)
theorem isn15 : (Try.f15.name == "runtime.NumGoroutine") = false := by kernel_rfl
theorem isn39 : (Try.f39.name == "runtime.NumGoroutine") = false := by kernel_rfl
theorem isn30 : (Try.f30.name == "runtime.NumGoroutine") = false := by kernel_rfl
theorem info62 : (Try.prog.info? 62).map (fun i => (i.zero, i.size, i.bytes)) = some (some (.slice none 0 0), 1, 24) := by kernel_rfl
theorem isn38 : (Try.f38.name == "runtime.NumGoroutine") = false := by kernel_rfl
theorem as75_131_133k : ∀ v w, (Instr.typeAssert (.iface 75 v) 131 133 true).run Try.prog w = .ok (.tuple #[.iface 75 v, .bool true]) w := fun _ _ => by kernel_rfl
theorem isn66 : (Try.f66.name == "runtime.NumGoroutine") = false := by kernel_rfl
theorem inv75_Len : ∀ (v : Value) w', (callMethod (.iface 75 v) "Len" #[]).run Try.prog w' = .ok (.enter 137 #[v]) w' := fun _ _ => by kernel_rfl
theorem inv75_Pivot : ∀ (v : Value) (a : Value) w', (callMethod (.iface 75 v) "Pivot" #[a]).run Try.prog w' = .ok (.enter 138 #[v, a]) w' := fun _ _ _ => by kernel_rfl
theorem places222 : placesOf Try.prog [{ name := "dim", type := 117, offset := 0, embedded := false, tag := "", pkgPath := "pub-orthodrome/pub/gonum/spatial/kdtree", byteOffset := 0 }, { name := "points", type := 75, offset := 1, embedded := false, tag := "", pkgPath := "pub-orthodrome/pub/gonum/spatial/kdtree", byteOffset := 8 }] = [(0, 1), (1, 1)] := by kernel_rfl
theorem has222 : ∀ f ∈ ([{ name := "dim", type := 117, offset := 0, embedded := false, tag := "", pkgPath := "pub-orthodrome/pub/gonum/spatial/kdtree", byteOffset := 0 }, { name := "points", type := 75, offset := 1, embedded := false, tag := "", pkgPath := "pub-orthodrome/pub/gonum/spatial/kdtree", byteOffset := 8 }] : List Field), (Try.prog.info? f.type).isSome = true := fun f hf => all_of (p := fun f => (Try.prog.info? f.type).isSome) (by kernel_rfl) f hf
theorem info222 : (Try.prog.info? 222).map (fun i => (i.zero, i.size, i.bytes)) = some (some (.agg #[.int .i64 0, .slice none 0 0]), 2, 32) := by kernel_rfl
theorem isn140 : (Try.f140.name == "runtime.NumGoroutine") = false := by kernel_rfl
theorem inv222_Len : ∀ (v : Value) w', (callMethod (.iface 222 v) "Len" #[]).run Try.prog w' = .ok (.enter 162 #[v]) w' := fun _ _ => by kernel_rfl
theorem info75 : (Try.prog.info? 75).map (fun i => (i.zero, i.size, i.bytes)) = some (some (.slice none 0 0), 1, 24) := by kernel_rfl
theorem flat75 : Flat Try.prog 75 := ⟨_, Try.underlying75, fun _ h => (nomatch h), fun _ _ h => (nomatch h)⟩
theorem inv222_Swap : ∀ (v : Value) (a : Value) (b : Value) w', (callMethod (.iface 222 v) "Swap" #[a, b]).run Try.prog w' = .ok (.enter 164 #[v, a, b]) w' := fun _ _ _ _ => by kernel_rfl
theorem flat62 : Flat Try.prog 62 := ⟨_, Try.underlying62, fun _ h => (nomatch h), fun _ _ h => (nomatch h)⟩
theorem mixed : Try.prog.follows .mixedOrders = true := by kernel_rfl
theorem inv222_Less : ∀ (v : Value) (a : Value) (b : Value) w', (callMethod (.iface 222 v) "Less" #[a, b]).run Try.prog w' = .ok (.enter 163 #[v, a, b]) w' := fun _ _ _ _ => by kernel_rfl
theorem info117 : (Try.prog.info? 117).map (fun i => (i.zero, i.size, i.bytes)) = some (some (.int .i64 0), 1, 8) := by kernel_rfl
theorem flat117 : Flat Try.prog 117 := ⟨_, Try.underlying117, fun _ h => (nomatch h), fun _ _ h => (nomatch h)⟩
theorem inv75_Index : ∀ (v : Value) (a : Value) w', (callMethod (.iface 75 v) "Index" #[a]).run Try.prog w' = .ok (.enter 136 #[v, a]) w' := fun _ _ _ => by kernel_rfl
theorem inv62_Dims : ∀ (v : Value) w', (callMethod (.iface 62 v) "Dims" #[]).run Try.prog w' = .ok (.enter 121 #[v]) w' := fun _ _ => by kernel_rfl
theorem inv75_Bounds : ∀ (v : Value) w', (callMethod (.iface 75 v) "Bounds" #[]).run Try.prog w' = .ok (.enter 135 #[v]) w' := fun _ _ => by kernel_rfl
theorem isn123 : (Try.f123.name == "runtime.NumGoroutine") = false := by kernel_rfl
theorem nil_eql118_nilptr : ∀ (w : World), (binOp .eql 118 (.pointer none) (.pointer none)).run Try.prog w = .ok (.bool true) w := fun _ => by kernel_rfl
theorem places127 : placesOf Try.prog [{ name := "Min", type := 116, offset := 0, embedded := false, tag := "", pkgPath := "", byteOffset := 0 }, { name := "Max", type := 116, offset := 1, embedded := false, tag := "", pkgPath := "", byteOffset := 16 }] = [(0, 1), (1, 1)] := by kernel_rfl
theorem has127 : ∀ f ∈ ([{ name := "Min", type := 116, offset := 0, embedded := false, tag := "", pkgPath := "", byteOffset := 0 }, { name := "Max", type := 116, offset := 1, embedded := false, tag := "", pkgPath := "", byteOffset := 16 }] : List Field), (Try.prog.info? f.type).isSome = true := fun f hf => all_of (p := fun f => (Try.prog.info? f.type).isSome) (by kernel_rfl) f hf
theorem info127 : (Try.prog.info? 127).map (fun i => (i.zero, i.size, i.bytes)) = some (some (.agg #[.nilIface, .nilIface]), 2, 32) := by kernel_rfl
theorem info116 : (Try.prog.info? 116).map (fun i => (i.zero, i.size, i.bytes)) = some (some (.nilIface), 1, 16) := by kernel_rfl
theorem flat116 : Flat Try.prog 116 := ⟨_, Try.underlying116, fun _ h => (nomatch h), fun _ _ h => (nomatch h)⟩
theorem as62_116_62 : ∀ v w, (Instr.typeAssert (.iface 62 v) 116 62 false).run Try.prog w = .ok (v) w := fun _ _ => by kernel_rfl
theorem isn124 : (Try.f124.name == "runtime.NumGoroutine") = false := by kernel_rfl
theorem ext126 : ∀ {args : Array Value} {v : Value}, Runs Try.prog ((Extern.MathDim.pick "math.archMin" true .lt) args) v → Runs Try.prog (callFunc 126 args) (.value v) := fun hr => ru_ext Try.func126 (by kernel_rfl) (by kernel_rfl) (by kernel_rfl) (by kernel_rfl) hr
theorem isn125 : (Try.f125.name == "runtime.NumGoroutine") = false := by kernel_rfl
theorem ext128 : ∀ {args : Array Value} {v : Value}, Runs Try.prog ((Extern.MathDim.pick "math.archMax" false .gt) args) v → Runs Try.prog (callFunc 128 args) (.value v) := fun hr => ru_ext Try.func128 (by kernel_rfl) (by kernel_rfl) (by kernel_rfl) (by kernel_rfl) hr
theorem nil_eql118_ptr : ∀ (q : Addr) (w : World), (binOp .eql 118 (.pointer (some q)) (.pointer none)).run Try.prog w = .ok (.bool false) w := fun _ _ => by kernel_rfl
theorem nla75_Slice_vw : ∀ (v : Value) w, (nilAhead (Try.prog.types.size + Made.depth) 75 v "Slice").run Try.prog w = .ok (some false) w := fun _ _ => by kernel_rfl
theorem inv75_Slice : ∀ (v : Value) (a : Value) (b : Value) w', (callMethod (.iface 75 v) "Slice" #[a, b]).run Try.prog w' = .ok (.enter 139 #[v, a, b]) w' := fun _ _ _ _ => by kernel_rfl
theorem as75_131_133 : ∀ v w, (Instr.typeAssert (.iface 75 v) 131 133 false).run Try.prog w = .ok (.iface 75 v) w := fun _ _ => by kernel_rfl
theorem places120 : placesOf Try.prog [{ name := "Point", type := 116, offset := 0, embedded := false, tag := "", pkgPath := "", byteOffset := 0 }, { name := "Plane", type := 117, offset := 1, embedded := false, tag := "", pkgPath := "", byteOffset := 16 }, { name := "Left", type := 66, offset := 2, embedded := false, tag := "", pkgPath := "", byteOffset := 24 }, { name := "Right", type := 66, offset := 3, embedded := false, tag := "", pkgPath := "", byteOffset := 32 }, { name := "Bounding", type := 118, offset := 4, embedded := true, tag := "", pkgPath := "", byteOffset := 40 }] = [(0, 1), (1, 1), (2, 1), (3, 1), (4, 1)] := by kernel_rfl
theorem has120 : ∀ f ∈ ([{ name := "Point", type := 116, offset := 0, embedded := false, tag := "", pkgPath := "", byteOffset := 0 }, { name := "Plane", type := 117, offset := 1, embedded := false, tag := "", pkgPath := "", byteOffset := 16 }, { name := "Left", type := 66, offset := 2, embedded := false, tag := "", pkgPath := "", byteOffset := 24 }, { name := "Right", type := 66, offset := 3, embedded := false, tag := "", pkgPath := "", byteOffset := 32 }, { name := "Bounding", type := 118, offset := 4, embedded := true, tag := "", pkgPath := "", byteOffset := 40 }] : List Field), (Try.prog.info? f.type).isSome = true := fun f hf => all_of (p := fun f => (Try.prog.info? f.type).isSome) (by kernel_rfl) f hf
theorem info120 : (Try.prog.info? 120).map (fun i => (i.zero, i.size, i.bytes)) = some (some (.agg #[.nilIface, .int .i64 0, .pointer none, .pointer none, .pointer none]), 5, 48) := by kernel_rfl
theorem places68 : placesOf Try.prog [{ name := "Root", type := 66, offset := 0, embedded := false, tag := "", pkgPath := "", byteOffset := 0 }, { name := "Count", type := 3, offset := 1, embedded := false, tag := "", pkgPath := "", byteOffset := 8 }] = [(0, 1), (1, 1)] := by kernel_rfl
theorem has68 : ∀ f ∈ ([{ name := "Root", type := 66, offset := 0, embedded := false, tag := "", pkgPath := "", byteOffset := 0 }, { name := "Count", type := 3, offset := 1, embedded := false, tag := "", pkgPath := "", byteOffset := 8 }] : List Field), (Try.prog.info? f.type).isSome = true := fun f hf => all_of (p := fun f => (Try.prog.info? f.type).isSome) (by kernel_rfl) f hf
theorem info68 : (Try.prog.info? 68).map (fun i => (i.zero, i.size, i.bytes)) = some (some (.agg #[.pointer none, .int .i64 0]), 2, 16) := by kernel_rfl
theorem isn67 : (Try.f67.name == "runtime.NumGoroutine") = false := by kernel_rfl
theorem info66 : (Try.prog.info? 66).map (fun i => (i.zero, i.size, i.bytes)) = some (some (.pointer none), 1, 8) := by kernel_rfl
theorem flat66 : Flat Try.prog 66 := ⟨_, Try.underlying66, fun _ h => (nomatch h), fun _ _ h => (nomatch h)⟩
theorem isn31 : (Try.f31.name == "runtime.NumGoroutine") = false := by kernel_rfl
theorem nil_eql66_nilptr : ∀ (w : World), (binOp .eql 66 (.pointer none) (.pointer none)).run Try.prog w = .ok (.bool true) w := fun _ => by kernel_rfl
theorem nil_eql66_pt : ∀ (q : Addr) (w : World), (binOp .eql 66 (.pointer (some q)) (.pointer none)).run Try.prog w = .ok (.bool false) w := fun _ _ => by kernel_rfl
theorem places37 : placesOf Try.prog [{ name := "Point", type := 25, offset := 0, embedded := false, tag := "", pkgPath := "", byteOffset := 0 }, { name := "Plane", type := 3, offset := 1, embedded := false, tag := "", pkgPath := "", byteOffset := 24 }, { name := "Left", type := 3, offset := 2, embedded := false, tag := "", pkgPath := "", byteOffset := 32 }, { name := "Right", type := 3, offset := 3, embedded := false, tag := "", pkgPath := "", byteOffset := 40 }, { name := "Min", type := 25, offset := 4, embedded := false, tag := "", pkgPath := "", byteOffset := 48 }, { name := "Max", type := 25, offset := 5, embedded := false, tag := "", pkgPath := "", byteOffset := 72 }] = [(0, 1), (1, 1), (2, 1), (3, 1), (4, 1), (5, 1)] := by kernel_rfl
theorem has37 : ∀ f ∈ ([{ name := "Point", type := 25, offset := 0, embedded := false, tag := "", pkgPath := "", byteOffset := 0 }, { name := "Plane", type := 3, offset := 1, embedded := false, tag := "", pkgPath := "", byteOffset := 24 }, { name := "Left", type := 3, offset := 2, embedded := false, tag := "", pkgPath := "", byteOffset := 32 }, { name := "Right", type := 3, offset := 3, embedded := false, tag := "", pkgPath := "", byteOffset := 40 }, { name := "Min", type := 25, offset := 4, embedded := false, tag := "", pkgPath := "", byteOffset := 48 }, { name := "Max", type := 25, offset := 5, embedded := false, tag := "", pkgPath := "", byteOffset := 72 }] : List Field), (Try.prog.info? f.type).isSome = true := fun f hf => all_of (p := fun f => (Try.prog.info? f.type).isSome) (by kernel_rfl) f hf
theorem info37 : (Try.prog.info? 37).map (fun i => (i.zero, i.size, i.bytes)) = some (some (.agg #[.slice none 0 0, .int .i64 0, .int .i64 0, .int .i64 0, .slice none 0 0, .slice none 0 0]), 6, 96) := by kernel_rfl
theorem info118 : (Try.prog.info? 118).map (fun i => (i.zero, i.size, i.bytes)) = some (some (.pointer none), 1, 8) := by kernel_rfl
theorem flat118 : Flat Try.prog 118 := ⟨_, Try.underlying118, fun _ h => (nomatch h), fun _ _ h => (nomatch h)⟩
theorem nil_neq118_nilptr : ∀ (w : World), (binOp .neq 118 (.pointer none) (.pointer none)).run Try.prog w = .ok (.bool false) w := fun _ => by kernel_rfl
theorem nil_neq118_pt : ∀ (q : Addr) (w : World), (binOp .neq 118 (.pointer (some q)) (.pointer none)).run Try.prog w = .ok (.bool true) w := fun _ _ => by kernel_rfl
theorem agg37 : Agg Try.prog 37 6 := ⟨⟨_, Try.underlying37, .inl ⟨_, rfl⟩⟩, info_size info37⟩
theorem info3 : (Try.prog.info? 3).map (fun i => (i.zero, i.size, i.bytes)) = some (some (.int .i64 0), 1, 8) := by kernel_rfl
theorem flat26 : Flat Try.prog 26 := ⟨_, Try.underlying26, fun _ h => (nomatch h), fun _ _ h => (nomatch h)⟩
theorem flat3 : Flat Try.prog 3 := ⟨_, Try.underlying3, fun _ h => (nomatch h), fun _ _ h => (nomatch h)⟩
theorem idle37 : Idle Try.prog 37 3 := fun vs w hv => by
  obtain ⟨v0, v1, v2, rfl⟩ : ∃ v0 v1 v2, vs = [v0, v1, v2] := by
    obtain _ | ⟨v0, vs⟩ := vs
    · simp at hv
    obtain _ | ⟨v1, vs⟩ := vs
    · simp at hv
    obtain _ | ⟨v2, vs⟩ := vs
    · simp at hv
    obtain _ | ⟨u, vs⟩ := vs
    · exact ⟨v0, v1, v2, rfl⟩
    · simp at hv
  refine callsD_of_wpS Try.func37 rfl fun c₀ cs hu => ?_
  apply wpS_seq
  apply wpS_region
  simp [wpOpsS, go_sem, recoverD, hu, Try.ntmps37, Exit.thenS]
  refine wpS_cond (t := false) (by simp [Act.eval, Array.replicate]) ?_
  simp only [Bool.false_eq_true, if_false]
  refine wpS_of_wp (wp_skip ?_)
  cases c₀
  simp_all [bodyPostS, results, Try.results37]
theorem isn37 : (Try.f37.name == "runtime.NumGoroutine") = false := by kernel_rfl
theorem info4 : (Try.prog.info? 4).map (fun i => (i.zero, i.size, i.bytes)) = some (some (.bool false), 1, 1) := by kernel_rfl
theorem info26 : (Try.prog.info? 26).map (fun i => (i.zero, i.size, i.bytes)) = some (some (.slice none 0 0), 1, 24) := by kernel_rfl
theorem flat4 : Flat Try.prog 4 := ⟨_, Try.underlying4, fun _ h => (nomatch h), fun _ _ h => (nomatch h)⟩
theorem isn10 : (Try.f10.name == "runtime.NumGoroutine") = false := by kernel_rfl
theorem isn14 : (Try.f14.name == "runtime.NumGoroutine") = false := by kernel_rfl
theorem isn35 : (Try.f35.name == "runtime.NumGoroutine") = false := by kernel_rfl
theorem flat128 : Flat Try.prog 128 := ⟨_, Try.underlying128, fun _ h => (nomatch h), fun _ _ h => (nomatch h)⟩
theorem isn65 : (Try.f65.name == "runtime.NumGoroutine") = false := by kernel_rfl
theorem flat53 : Flat Try.prog 53 := ⟨_, Try.underlying53, fun _ h => (nomatch h), fun _ _ h => (nomatch h)⟩
theorem flat72 : Flat Try.prog 72 := ⟨_, Try.underlying72, fun _ h => (nomatch h), fun _ _ h => (nomatch h)⟩
theorem isn36 : (Try.f36.name == "runtime.NumGoroutine") = false := by kernel_rfl
theorem flat33 : Flat Try.prog 33 := ⟨_, Try.underlying33, fun _ h => (nomatch h), fun _ _ h => (nomatch h)⟩
theorem info33 : (Try.prog.info? 33).map (fun i => (i.zero, i.size, i.bytes)) = some (some (.slice none 0 0), 1, 24) := by kernel_rfl
theorem info128 : (Try.prog.info? 128).map (fun i => (i.zero, i.size, i.bytes)) = some (some (.nilFunc), 1, 8) := by kernel_rfl
theorem info53 : (Try.prog.info? 53).map (fun i => (i.zero, i.size, i.bytes)) = some (some (.slice none 0 0), 1, 24) := by kernel_rfl
theorem isn12 : (Try.f12.name == "runtime.NumGoroutine") = false := by kernel_rfl
theorem isn11 : (Try.f11.name == "runtime.NumGoroutine") = false := by kernel_rfl
theorem isn32 : (Try.f32.name == "runtime.NumGoroutine") = false := by kernel_rfl
theorem isn34 : (Try.f34.name == "runtime.NumGoroutine") = false := by kernel_rfl
inductive G116 where
  | c0 (x0 : List Nat) : G116
def SG116 : G116 → SV
  | .c0 x0 => (If 62 (Sl Kf x0))
def KG116 : Kd G116 := Kd.one SG116
theorem SG116_c0 (x0 : List Nat) : SG116 (.c0 x0) = (If 62 (Sl Kf x0)) := rfl
inductive G118 where
  | c0 : G118
  | c1 (x0 : G116) (x1 : G116) : G118
def SG118 : G118 → SV
  | .c0 => (Vl (.pointer none))
  | .c1 x0 x1 => (Pt [(SG116 x0), (SG116 x1)])
def KG118 : Kd G118 := Kd.one SG118
theorem SG118_c0 : SG118 .c0 = (Vl (.pointer none)) := rfl
theorem SG118_c1 (x0 : G116) (x1 : G116) : SG118 (.c1 x0 x1) = (Pt [(SG116 x0), (SG116 x1)]) := rfl
theorem SG118_lv (x : G118) : Lv (SG118 x) [SG118 x] := by
  cases x with
  | c0 => exact lv_vl rfl rfl
  | c1 x0 x1 => exact lv_pt _

inductive G66 where
  | c0 : G66
  | c1 (x0 : G116) (x1 : Int) (x2 : G66) (x3 : G66) (x4 : G118) : G66
def SG66 : G66 → SV
  | .c0 => (Vl (.pointer none))
  | .c1 x0 x1 x2 x3 x4 => (Pt [(SG116 x0), (Vl (.int .i64 x1)), (SG66 x2), (SG66 x3), (SG118 x4)])
def KG66 : Kd G66 := Kd.one SG66
theorem SG66_c0 : SG66 .c0 = (Vl (.pointer none)) := rfl
theorem SG66_c1 (x0 : G116) (x1 : Int) (x2 : G66) (x3 : G66) (x4 : G118) : SG66 (.c1 x0 x1 x2 x3 x4) = (Pt [(SG116 x0), (Vl (.int .i64 x1)), (SG66 x2), (SG66 x3), (SG118 x4)]) := rfl
theorem SG66_lv (x : G66) : Lv (SG66 x) [SG66 x] := by
  cases x with
  | c0 => exact lv_vl rfl rfl
  | c1 x0 x1 x2 x3 x4 => exact lv_pt _

def KT37 : Kd ((List Nat) × Int × Int × Int × (List Nat) × (List Nat)) := ⟨6, fun x => [(Sl Kf x.1), (Vl (.int .i64 x.2.1)), (Vl (.int .i64 x.2.2.1)), (Vl (.int .i64 x.2.2.2.1)), (Sl Kf x.2.2.2.2.1), (Sl Kf x.2.2.2.2.2)], fun _ => rfl⟩

def laws_zzFits4_l1s (a0 : List (List Nat)) (k : Nat) (rec1 : Int → Option (Unit ⊕ Unit)) (x1 : Int) : Option (Unit ⊕ Unit) :=
 br (decide (x1 < (a0.length : Int)))
  ((idx a0 x1) >>= fun r12 =>
  br (decide (2147483647 < (r12.length : Int)))
   (some (.inl ()))
   (rec1 (iadd .i64 x1 1)))
  (some (.inr ()))
def laws_zzFits4_l1 (a0 : List (List Nat)) : Nat → Int → Option (Unit ⊕ Unit)
 | 0, _ => none
 | k + 1, v => laws_zzFits4_l1s a0 k (laws_zzFits4_l1 a0 k) v
def laws_zzFits4 (k : Nat) (a0 : List (List Nat)) : Option (Bool) :=
 br (decide (2147483647 < (a0.length : Int)))
  (some false)
  ((laws_zzFits4_l1 a0 k 0) >>= fun y1 => match y1 with
   | (.inl v2) =>
    (some false)
   | (.inr v3) =>
    (some true))

theorem laws_zzFits4_sim {k : Nat}  (a0 : List (List Nat)) {out : Bool} (hp : laws_zzFits4 k a0 = some out) : Sx.Fn Try.prog 7 [(Sl (Kl Kf) a0)] [] (fun w : Unit => (Vb out)) (fun w => []) := by
 unfold laws_zzFits4 at hp
 refine fn_of Try.func7 rfl Try.ntmps7 rfl fun E hM => ?_
 refine cr fun K1 hK1 => ?_
 refine s0 (rd_assign' rfl) ?_
 refine nk hK1 ?_
 refine cx_seq' fun K2 hK2 => ?_
 refine cr fun K3 hK3 => ?_
 refine s0 (rd_move' rfl) ?_
 refine s0 (rd_len' rfl Try.underlying22) ?_
 refine s0 (rd_bin' rfl rfl eg_int ru_gtr) ?_
 refine nk hK3 ?_
 refine cx_cond' rfl (fun h1 => ?_) (fun h1 => ?_)
 ·replace hp := (br_t h1).symm.trans hp
  refine cr fun K4 hK4 => ?_
  refine s0 (rd_assign' rfl) ?_
  refine nk hK4 ?_
  refine cx_retc' ?_
  replace hp := Option.some.inj hp
  subst hp
  refine tx_pick' (L' := [(2, (Vb false))]) (H' := []) [] (sub_cons rfl sub_nil) (by decide) pick_nil ?_
  exact tx_ret1' Try.results7 rfl () (rv_tmp' rfl) (List.Sublist.refl _)
 replace hp := (br_f h1).symm.trans hp
 refine cx_skip' ?_
 show TX E K2 _
 refine tx_k' hK2 ?_
 refine cx_seq' fun K5 hK5 => ?_
 refine cr fun K6 hK6 => ?_
 refine s0 (rd_move' rfl) ?_
 refine s0 (rd_len' rfl Try.underlying22) ?_
 refine s0 (rd_move' rfl) ?_
 refine nk hK6 ?_
 refine cx_block' ?_
 obtain ⟨y1, hy1, hp⟩ := bind_some hp
 refine cx_loopg' (F := laws_zzFits4_l1 a0) (G := fun k R v => laws_zzFits4_l1s a0 k R v) (x := 0) (gh := ()) (fun (v1 : Int) (w1 : Unit) => (⟨18, [], [(8, (Sl (Kl Kf) a0)), (9, (Vi (a0.length : Int))), (10, (Vi v1))], []⟩ : St)) (fun (y : Unit ⊕ Unit) => match y with | (.inl v2) => Zg E Exit.ret (fun (w2 : Unit) => (⟨18, [], [(2, (Vb false))], []⟩ : St)) | (.inr v3) => Zg E (Exit.exit 0) (fun (w3 : Unit) => (⟨18, [], [], []⟩ : St))) (fun _ => rfl) (fun _ _ => rfl) ?_ hy1 (tx_to' rfl [] (sub_cons rfl (sub_cons rfl (sub_cons rfl sub_nil))) (by decide) pick_nil) ?_
 ·clear hp hy1
  clear y1
  intro k rec1 KY1 ih1
  rintro x1 ⟨⟩ y1 hp
  replace hp : laws_zzFits4_l1s a0 k rec1 x1 = some y1 := hp
  unfold laws_zzFits4_l1s at hp
  refine cr fun K13 hK13 => ?_
  refine s0 (rd_bin' rfl rfl eg_int ru_lss) ?_
  refine nk hK13 ?_
  refine cx_seq' fun K14 hK14 => ?_
  refine cx_cond' rfl (fun h5 => ?_) (fun h5 => ?_)
  ·replace hp := (br_t h5).symm.trans hp
   refine cx_skip' ?_
   show TX E K14 _
   refine tx_k' hK14 ?_
   refine cx_seq' fun K15 hK15 => ?_
   refine cx_block' ?_
   refine cr fun K16 hK16 => ?_
   obtain ⟨r12, hr12, hp⟩ := bind_some hp
   refine s0 (rd_at' (K := (Kl Kf)) rfl rfl hr12 Try.underlying22 info25) ?_
   refine s0 (rd_load_pt' rfl rfl flat25) ?_
   refine s0 (rd_assign' rfl) ?_
   refine nk hK16 ?_
   refine cr fun K17 hK17 => ?_
   refine s0 (rd_move' rfl) ?_
   refine s0 (rd_len' rfl Try.underlying25) ?_
   refine s0 (rd_bin' rfl rfl eg_int ru_gtr) ?_
   refine nk hK17 ?_
   refine cx_cond' rfl (fun h6 => ?_) (fun h6 => ?_)
   ·replace hp := (br_t h6).symm.trans hp
    refine cr fun K18 hK18 => ?_
    refine s0 (rd_assign' rfl) ?_
    refine nk hK18 ?_
    refine cx_retc' ?_
    replace hp := Option.some.inj hp
    subst hp
    show TX E (Zg E Exit.ret _ Exit.ret) _
    exact tx_zend' () rfl [] (sub_cons rfl sub_nil) (by decide) pick_nil
   replace hp := (br_f h6).symm.trans hp
   refine cx_skip' ?_
   show TX E K15 _
   refine tx_k' hK15 ?_
   refine cx_region' ?_
   refine s0 (rd_bin' rfl rfl eg_int ru_add) ?_
   refine s0 (rd_move' rfl) ?_
   refine sx_nil' ?_
   show TX E (KY1 _) _
   exact tx_pick' [] (sub_cons rfl (sub_cons rfl (sub_cons rfl sub_nil))) (by decide) pick_nil (ih1 (iadd .i64 x1 1) () _ hp)
  replace hp := (br_f h5).symm.trans hp
  refine cx_exit' ?_
  replace hp := Option.some.inj hp
  subst hp
  show TX E (Zg E (Exit.exit 0) _ (Exit.exit 0)) _
  exact tx_zend' () rfl [] sub_nil (by decide) pick_nil
 rcases y1 with v2 | v3
 ·dsimp only at hp
  refine zg_out fun w2 => ?_
  replace hp := Option.some.inj hp
  subst hp
  refine tx_pick' (L' := [(2, (Vb false))]) (H' := []) [] (sub_cons rfl sub_nil) (by decide) pick_nil ?_
  exact tx_ret1' Try.results7 rfl () (rv_tmp' rfl) (List.Sublist.refl _)
 dsimp only at hp
 refine zg_out fun w3 => ?_
 show TX E K5 _
 refine tx_k' hK5 ?_
 refine cr fun K19 hK19 => ?_
 refine s0 (rd_assign' rfl) ?_
 refine nk hK19 ?_
 refine cx_retc' ?_
 replace hp := Option.some.inj hp
 subst hp
 refine tx_pick' (L' := [(2, (Vb true))]) (H' := []) [] (sub_cons rfl sub_nil) (by decide) pick_nil ?_
 exact tx_ret1' Try.results7 rfl () (rv_tmp' rfl) (List.Sublist.refl _)

def math_Trunc (k : Nat) (a0 : Nat) : Option (Nat) :=
 (some (gint .zero a0)) >>= fun r4 =>
 some r4

theorem math_Trunc_sim {k : Nat}  (a0 : Nat) {out : Nat} (hp : math_Trunc k a0 = some out) : Sx.Fn Try.prog 61 [(Vg a0)] [] (fun w : Unit => (Fl out)) (fun w => []) := by
 unfold math_Trunc at hp
 refine fn_of Try.func61 rfl Try.ntmps61 rfl fun E hM => ?_
 refine cr fun K1 hK1 => ?_
 refine s0 (rd_assign' rfl) ?_
 refine nk hK1 ?_
 refine cx_seq' fun K2 hK2 => ?_
 refine cx_cond_t' rfl rfl ?_
 refine cr fun K3 hK3 => ?_
 refine s0 (rd_move' rfl) ?_
 obtain ⟨r4, hr4, hp⟩ := bind_some hp
 refine sx_ox' (ox_extf' rfl (fl_v rfl) Try.func79 (extf79 (Option.some.inj hr4)) rfl rfl) (wt_none' rfl) fun _ => ?_
 refine s0 (rd_assign' rfl) ?_
 refine nk hK3 ?_
 refine cx_retc' ?_
 replace hp := Option.some.inj hp
 subst hp
 refine tx_pick' (L' := [(2, (Fl r4))]) (H' := []) [] (sub_cons rfl sub_nil) (by decide) pick_nil ?_
 exact tx_ret1' Try.results61 rfl () (rv_tmp' rfl) (List.Sublist.refl _)

def spec_Grid_j8 (k : Nat) (rec2 : Int → Option (Unit ⊕ Unit)) (x10 : Int) (x9 : Bool) : Option (Unit ⊕ Unit) :=
 br x9
  (some (.inl ()))
  (rec2 (iadd .i64 x10 1))
def spec_Grid_j7 (k : Nat) (rec2 : Int → Option (Unit ⊕ Unit)) (x10 : Int) (r25 : Nat) (x8 : Bool) : Option (Unit ⊕ Unit) :=
 br (!x8)
  (spec_Grid_j8 k rec2 x10 true)
  ((math_Trunc k r25) >>= fun r40 =>
  spec_Grid_j8 k rec2 x10 (fne r25 r40))
def spec_Grid_l2s (r15 : List Nat) (a2 : Nat) (k : Nat) (rec2 : Int → Option (Unit ⊕ Unit)) (x10 : Int) : Option (Unit ⊕ Unit) :=
 br (decide (x10 < (r15.length : Int)))
  ((idx r15 x10) >>= fun r25 =>
  br (fge r25 (fneg a2))
   (spec_Grid_j7 k rec2 x10 r25 (fle r25 a2))
   (spec_Grid_j7 k rec2 x10 r25 false))
  (some (.inr ()))
def spec_Grid_l2 (r15 : List Nat) (a2 : Nat) : Nat → Int → Option (Unit ⊕ Unit)
 | 0, _ => none
 | k + 1, v => spec_Grid_l2s r15 a2 k (spec_Grid_l2 r15 a2 k) v
def spec_Grid_l3s (a0 : List (List Nat)) (a1 : Int) (a2 : Nat) (k : Nat) (rec3 : Int → Option (Unit ⊕ Unit)) (x11 : Int) : Option (Unit ⊕ Unit) :=
 br (decide (x11 < (a0.length : Int)))
  ((idx a0 x11) >>= fun r15 =>
  br (!decide ((r15.length : Int) = a1))
   (some (.inl ()))
   ((spec_Grid_l2 r15 a2 k 0) >>= fun y2 => match y2 with
    | (.inl v14) =>
     (some (.inl ()))
    | (.inr v15) =>
     (rec3 (iadd .i64 x11 1))))
  (some (.inr ()))
def spec_Grid_l3 (a0 : List (List Nat)) (a1 : Int) (a2 : Nat) : Nat → Int → Option (Unit ⊕ Unit)
 | 0, _ => none
 | k + 1, v => spec_Grid_l3s a0 a1 a2 k (spec_Grid_l3 a0 a1 a2 k) v
def spec_Grid (k : Nat) (a0 : List (List Nat)) (a1 : Int) (a2 : Nat) : Option (Bool) :=
 (spec_Grid_l3 a0 a1 a2 k 0) >>= fun y3 => match y3 with
  | (.inl v16) =>
   (some false)
  | (.inr v17) =>
   (some (decide (0 < a1)))

theorem spec_Grid_sim {k : Nat}  (a0 : List (List Nat)) (a1 : Int) (a2 : Nat) {out : Bool} (hp : spec_Grid k a0 a1 a2 = some out) : Sx.Fn Try.prog 26 [(Sl (Kl Kf) a0), (Vi a1), (Vg a2)] [] (fun w : Unit => (Vb out)) (fun w => []) := by
 unfold spec_Grid at hp
 refine fn_of Try.func26 rfl Try.ntmps26 rfl fun E hM => ?_
 refine cr fun K1 hK1 => ?_
 refine s0 (rd_assign' rfl) ?_
 refine nk hK1 ?_
 refine cx_seq' fun K2 hK2 => ?_
 refine cr fun K3 hK3 => ?_
 refine s0 (rd_move' rfl) ?_
 refine s0 (rd_len' rfl Try.underlying22) ?_
 refine s0 (rd_move' rfl) ?_
 refine nk hK3 ?_
 refine cx_block' ?_
 obtain ⟨y3, hy3, hp⟩ := bind_some hp
 refine cx_loopg' (F := spec_Grid_l3 a0 a1 a2) (G := fun k R v => spec_Grid_l3s a0 a1 a2 k R v) (x := 0) (gh := ()) (fun (v8 : Int) (w8 : Unit) => (⟨47, [], [(1, (Vi a1)), (2, (Vg a2)), (11, (Sl (Kl Kf) a0)), (12, (Vi (a0.length : Int))), (13, (Vi v8))], []⟩ : St)) (fun (y : Unit ⊕ Unit) => match y with | (.inl v16) => Zg E Exit.ret (fun (w16 : Unit) => (⟨47, [], [(6, (Vb false))], []⟩ : St)) | (.inr v17) => Zg E (Exit.exit 0) (fun (w17 : Unit) => (⟨47, [], [(1, (Vi a1))], []⟩ : St))) (fun _ => rfl) (fun _ _ => rfl) ?_ hy3 (tx_to' rfl [] (sub_cons rfl (sub_cons rfl (sub_cons rfl (sub_cons rfl (sub_cons rfl sub_nil))))) (by decide) pick_nil) ?_
 ·clear hp hy3
  clear y3
  intro k rec3 KY3 ih3
  rintro x11 ⟨⟩ y3 hp
  replace hp : spec_Grid_l3s a0 a1 a2 k rec3 x11 = some y3 := hp
  unfold spec_Grid_l3s at hp
  refine cr fun K28 hK28 => ?_
  refine s0 (rd_bin' rfl rfl eg_int ru_lss) ?_
  refine nk hK28 ?_
  refine cx_seq' fun K29 hK29 => ?_
  refine cx_cond' rfl (fun h13 => ?_) (fun h13 => ?_)
  ·replace hp := (br_t h13).symm.trans hp
   refine cx_skip' ?_
   show TX E K29 _
   refine tx_k' hK29 ?_
   refine cx_seq' fun K30 hK30 => ?_
   refine cx_block' ?_
   refine cr fun K31 hK31 => ?_
   obtain ⟨r15, hr15, hp⟩ := bind_some hp
   refine s0 (rd_at' (K := (Kl Kf)) rfl rfl hr15 Try.underlying22 info25) ?_
   refine s0 (rd_load_pt' rfl rfl flat25) ?_
   refine s0 (rd_assign' rfl) ?_
   refine nk hK31 ?_
   refine cx_seq' fun K32 hK32 => ?_
   refine cr fun K33 hK33 => ?_
   refine s0 (rd_move' rfl) ?_
   refine s0 (rd_len' rfl Try.underlying25) ?_
   refine s0 (rd_move' rfl) ?_
   refine s0 (rd_bin' rfl rfl eg_int ru_neq) ?_
   refine nk hK33 ?_
   refine cx_cond' rfl (fun h14 => ?_) (fun h14 => ?_)
   ·replace hp := (br_t h14).symm.trans hp
    refine cr fun K34 hK34 => ?_
    refine s0 (rd_assign' rfl) ?_
    refine nk hK34 ?_
    refine cx_retc' ?_
    replace hp := Option.some.inj hp
    subst hp
    show TX E (Zg E Exit.ret _ Exit.ret) _
    exact tx_zend' () rfl [] (sub_cons rfl sub_nil) (by decide) pick_nil
   replace hp := (br_f h14).symm.trans hp
   refine cx_skip' ?_
   show TX E K32 _
   refine tx_k' hK32 ?_
   refine cr fun K35 hK35 => ?_
   refine s0 (rd_move' rfl) ?_
   refine s0 (rd_len' rfl Try.underlying25) ?_
   refine s0 (rd_move' rfl) ?_
   refine nk hK35 ?_
   refine cx_block' ?_
   obtain ⟨y2, hy2, hp⟩ := bind_some hp
   refine cx_loopg' (F := spec_Grid_l2 r15 a2) (G := fun k R v => spec_Grid_l2s r15 a2 k R v) (x := 0) (gh := ()) (fun (v11 : Int) (w11 : Unit) => (⟨47, [], [(1, (Vi a1)), (2, (Vg a2)), (11, (Sl (Kl Kf) a0)), (12, (Vi (a0.length : Int))), (13, (Vi x11)), (21, (Sl Kf r15)), (22, (Vi (r15.length : Int))), (23, (Vi v11))], []⟩ : St)) (fun (y : Unit ⊕ Unit) => match y with | (.inl v14) => Zg E Exit.ret (fun (w14 : Unit) => (⟨47, [], [(6, (Vb false))], []⟩ : St)) | (.inr v15) => Zg E (Exit.exit 2) (fun (w15 : Unit) => (⟨47, [], [(1, (Vi a1)), (2, (Vg a2)), (11, (Sl (Kl Kf) a0)), (12, (Vi (a0.length : Int))), (13, (Vi x11))], []⟩ : St))) (fun _ => rfl) (fun _ _ => rfl) ?_ hy2 (tx_to' rfl [] (sub_cons rfl (sub_cons rfl (sub_cons rfl (sub_cons rfl (sub_cons rfl (sub_cons rfl (sub_cons rfl (sub_cons rfl sub_nil)))))))) (by decide) pick_nil) ?_
   ·clear hp hy2
    clear y2
    intro k rec2 KY2 ih2
    rintro x10 ⟨⟩ y2 hp
    replace hp : spec_Grid_l2s r15 a2 k rec2 x10 = some y2 := hp
    unfold spec_Grid_l2s at hp
    refine cr fun K44 hK44 => ?_
    refine s0 (rd_bin' rfl rfl eg_int ru_lss) ?_
    refine nk hK44 ?_
    refine cx_seq' fun K45 hK45 => ?_
    refine cx_cond' rfl (fun h20 => ?_) (fun h20 => ?_)
    ·replace hp := (br_t h20).symm.trans hp
     refine cx_skip' ?_
     show TX E K45 _
     refine tx_k' hK45 ?_
     refine cx_seq' fun K46 hK46 => ?_
     refine cx_block' ?_
     refine cr fun K47 hK47 => ?_
     obtain ⟨r25, hr25, hp⟩ := bind_some hp
     refine s0 (rd_at' (K := Kf) rfl rfl hr25 Try.underlying25 info40) ?_
     refine s0 (rd_load_pt' rfl rfl flat40) ?_
     refine s0 (rd_assign' rfl) ?_
     refine nk hK47 ?_
     refine cr fun K48 hK48 => ?_
     refine s0 (rd_move' rfl) ?_
     refine s0 (rd_move' rfl) ?_
     refine s0 (rd_un' rfl ru_fneg) ?_
     refine s0 (rd_bin' rfl rfl eg_flt ru_fge) ?_
     refine s0 (rd_move' rfl) ?_
     refine sx_cutn' 4 (fun (v12 : Bool) => (⟨47, [], [(1, (Vi a1)), (2, (Vg a2)), (10, (Vg r25)), (11, (Sl (Kl Kf) a0)), (12, (Vi (a0.length : Int))), (13, (Vi x11)), (21, (Sl Kf r15)), (22, (Vi (r15.length : Int))), (23, (Vi x10)), (35, (Vb v12))], []⟩ : St)) (fun (v12 : Bool) => spec_Grid_j7 k rec2 x10 r25 v12 = some y2) ?_ ?_
     ·rintro x8 hp
      replace hp : spec_Grid_j7 k rec2 x10 r25 x8 = some y2 := hp
      unfold spec_Grid_j7 at hp
      refine s0 (rd_un' rfl ru_not) ?_
      refine s0 (rd_move' rfl) ?_
      refine sx_cutn' 5 (fun (v13 : Bool) => (⟨47, [], [(1, (Vi a1)), (2, (Vg a2)), (11, (Sl (Kl Kf) a0)), (12, (Vi (a0.length : Int))), (13, (Vi x11)), (21, (Sl Kf r15)), (22, (Vi (r15.length : Int))), (23, (Vi x10)), (42, (Vb v13))], []⟩ : St)) (fun (v13 : Bool) => spec_Grid_j8 k rec2 x10 v13 = some y2) ?_ ?_
      ·rintro x9 hp
       replace hp : spec_Grid_j8 k rec2 x10 x9 = some y2 := hp
       unfold spec_Grid_j8 at hp
       refine nk hK48 ?_
       refine cx_cond' rfl (fun h23 => ?_) (fun h23 => ?_)
       ·replace hp := (br_t h23).symm.trans hp
        refine cr fun K51 hK51 => ?_
        refine s0 (rd_assign' rfl) ?_
        refine nk hK51 ?_
        refine cx_retc' ?_
        replace hp := Option.some.inj hp
        subst hp
        show TX E (Zg E Exit.ret _ Exit.ret) _
        exact tx_zend' () rfl [] (sub_cons rfl sub_nil) (by decide) pick_nil
       replace hp := (br_f h23).symm.trans hp
       refine cx_skip' ?_
       show TX E K46 _
       refine tx_k' hK46 ?_
       refine cx_region' ?_
       refine s0 (rd_bin' rfl rfl eg_int ru_add) ?_
       refine s0 (rd_move' rfl) ?_
       refine sx_nil' ?_
       show TX E (KY2 _) _
       exact tx_pick' [] (sub_cons rfl (sub_cons rfl (sub_cons rfl (sub_cons rfl (sub_cons rfl (sub_cons rfl (sub_cons rfl (sub_cons rfl sub_nil)))))))) (by decide) pick_nil (ih2 (iadd .i64 x10 1) () _ hp)
      intro K50 hK50
      rcases br_cases hp with ⟨h22, hp⟩ | ⟨h22, hp⟩
      ·refine sx_skip' rfl rfl (wt_is' (wt_guard' rfl rfl rfl) (beq_tf h22)) ?_
       refine sx_skip' rfl rfl (wt_is' (wt_guard' rfl rfl rfl) (beq_tf h22)) ?_
       refine sx_skip' rfl rfl (wt_is' (wt_guard' rfl rfl rfl) (beq_tf h22)) ?_
       refine sx_skip' rfl rfl (wt_is' (wt_guard' rfl rfl rfl) (beq_tf h22)) ?_
       refine s0 (rd_pick_true' rfl h22 rfl) ?_
       refine sx_nil' ?_
       show TX E K50 _
       exact tx_pick' [] (sub_cons rfl (sub_cons rfl (sub_cons rfl (sub_cons rfl (sub_cons rfl (sub_cons rfl (sub_cons rfl (sub_cons rfl (sub_cons rfl sub_nil))))))))) (by decide) pick_nil (hK50 true hp)
      refine sx_rd' (rd_move' rfl) rfl rfl (wt_is' (wt_guard' rfl rfl rfl) (beq_ff h22)) ?_
      refine sx_rd' (rd_move' rfl) rfl rfl (wt_is' (wt_guard' rfl rfl rfl) (beq_ff h22)) ?_
      obtain ⟨r40, hr40, hp⟩ := bind_some hp
      refine sx_ox' (ox_calln' (ent_fn' Try.func61 isn61 rfl rfl) (math_Trunc_sim _ hr40 : Sx.Fn Try.prog 61 [(Vg r25)] [] (fun x : Unit => (Fl r40)) (fun x => [])) (Hn := fun x : Unit => []) (fun _ => rfl) rfl rfl) (wt_is' (wt_guard' rfl rfl rfl) (beq_ff h22)) fun ⟨⟩ => ?_
      refine sx_rd' (rd_fcmp' (fl_v rfl) (fl_f rfl) rfl) rfl rfl (wt_is' (wt_guard' rfl rfl rfl) (beq_ff h22)) ?_
      refine s0 (rd_pick_false' rfl h22 rfl) ?_
      refine sx_nil' ?_
      show TX E K50 _
      exact tx_pick' [] (sub_cons rfl (sub_cons rfl (sub_cons rfl (sub_cons rfl (sub_cons rfl (sub_cons rfl (sub_cons rfl (sub_cons rfl (sub_cons rfl sub_nil))))))))) (by decide) pick_nil (hK50 (fne r25 r40) hp)
     intro K49 hK49
     rcases br_cases hp with ⟨h21, hp⟩ | ⟨h21, hp⟩
     ·refine sx_rd' (rd_move' rfl) rfl rfl (wt_is' (wt_guard' rfl rfl rfl) (beq_tt h21)) ?_
      refine sx_rd' (rd_move' rfl) rfl rfl (wt_is' (wt_guard' rfl rfl rfl) (beq_tt h21)) ?_
      refine sx_rd' (rd_bin' rfl rfl eg_flt ru_fle) rfl rfl (wt_is' (wt_guard' rfl rfl rfl) (beq_tt h21)) ?_
      refine s0 (rd_pick_true' rfl h21 rfl) ?_
      refine sx_nil' ?_
      show TX E K49 _
      exact tx_pick' [] (sub_cons rfl (sub_cons rfl (sub_cons rfl (sub_cons rfl (sub_cons rfl (sub_cons rfl (sub_cons rfl (sub_cons rfl (sub_cons rfl (sub_cons rfl sub_nil)))))))))) (by decide) pick_nil (hK49 (fle r25 a2) hp)
     refine sx_skip' rfl rfl (wt_is' (wt_guard' rfl rfl rfl) (beq_ft h21)) ?_
     refine sx_skip' rfl rfl (wt_is' (wt_guard' rfl rfl rfl) (beq_ft h21)) ?_
     refine sx_skip' rfl rfl (wt_is' (wt_guard' rfl rfl rfl) (beq_ft h21)) ?_
     refine s0 (rd_pick_false' rfl h21 rfl) ?_
     refine sx_nil' ?_
     show TX E K49 _
     exact tx_pick' [] (sub_cons rfl (sub_cons rfl (sub_cons rfl (sub_cons rfl (sub_cons rfl (sub_cons rfl (sub_cons rfl (sub_cons rfl (sub_cons rfl (sub_cons rfl sub_nil)))))))))) (by decide) pick_nil (hK49 false hp)
    replace hp := (br_f h20).symm.trans hp
    refine cx_exit' ?_
    replace hp := Option.some.inj hp
    subst hp
    show TX E (Zg E (Exit.exit 2) _ (Exit.exit 2)) _
    exact tx_zend' () rfl [] (sub_cons rfl (sub_cons rfl (sub_cons rfl (sub_cons rfl (sub_cons rfl sub_nil))))) (by decide) pick_nil
   rcases y2 with v14 | v15
   ·dsimp only at hp
    refine zg_out fun w14 => ?_
    replace hp := Option.some.inj hp
    subst hp
    show TX E (Zg E Exit.ret _ Exit.ret) _
    exact tx_zend' () rfl [] (sub_cons rfl sub_nil) (by decide) pick_nil
   dsimp only at hp
   refine zg_out fun w15 => ?_
   show TX E K30 _
   refine tx_k' hK30 ?_
   refine cx_region' ?_
   refine s0 (rd_bin' rfl rfl eg_int ru_add) ?_
   refine s0 (rd_move' rfl) ?_
   refine sx_nil' ?_
   show TX E (KY3 _) _
   exact tx_pick' [] (sub_cons rfl (sub_cons rfl (sub_cons rfl (sub_cons rfl (sub_cons rfl sub_nil))))) (by decide) pick_nil (ih3 (iadd .i64 x11 1) () _ hp)
  replace hp := (br_f h13).symm.trans hp
  refine cx_exit' ?_
  replace hp := Option.some.inj hp
  subst hp
  show TX E (Zg E (Exit.exit 0) _ (Exit.exit 0)) _
  exact tx_zend' () rfl [] (sub_cons rfl sub_nil) (by decide) pick_nil
 rcases y3 with v16 | v17
 ·dsimp only at hp
  refine zg_out fun w16 => ?_
  replace hp := Option.some.inj hp
  subst hp
  refine tx_pick' (L' := [(6, (Vb false))]) (H' := []) [] (sub_cons rfl sub_nil) (by decide) pick_nil ?_
  exact tx_ret1' Try.results26 rfl () (rv_tmp' rfl) (List.Sublist.refl _)
 dsimp only at hp
 refine zg_out fun w17 => ?_
 show TX E K2 _
 refine tx_k' hK2 ?_
 refine cr fun K52 hK52 => ?_
 refine s0 (rd_move' rfl) ?_
 refine s0 (rd_bin' rfl rfl eg_int ru_gtr) ?_
 refine s0 (rd_assign' rfl) ?_
 refine nk hK52 ?_
 refine cx_retc' ?_
 replace hp := Option.some.inj hp
 subst hp
 refine tx_pick' (L' := [(6, (Vb (decide (0 < a1))))]) (H' := []) [] (sub_cons rfl sub_nil) (by decide) pick_nil ?_
 exact tx_ret1' Try.results26 rfl () (rv_tmp' rfl) (List.Sublist.refl _)

def laws_some_j5 (k : Nat) (x5 : Bool) : Option (Bool) :=
 some x5
def laws_some_j4 (k : Nat) (a1 : List Nat) (x4 : Bool) : Option (Bool) :=
 br x4
  ((spec_Grid k ([a1]) (a1.length : Int) 4697254411347427328) >>= fun r34 =>
  laws_some_j5 k r34)
  (laws_some_j5 k false)
def laws_some_j3 (k : Nat) (a0 : List (List Nat)) (a1 : List Nat) (x3 : Bool) : Option (Bool) :=
 br x3
  ((spec_Grid k a0 (a1.length : Int) 4697254411347427328) >>= fun r27 =>
  laws_some_j4 k a1 r27)
  (laws_some_j4 k a1 false)
def laws_some_j2 (k : Nat) (a0 : List (List Nat)) (a1 : List Nat) (x2 : Bool) : Option (Bool) :=
 br x2
  (laws_some_j3 k a0 a1 (decide ((a1.length : Int) ≤ 6)))
  (laws_some_j3 k a0 a1 false)
def laws_some_j1 (k : Nat) (a0 : List (List Nat)) (a1 : List Nat) (x1 : Bool) : Option (Bool) :=
 br x1
  (laws_some_j2 k a0 a1 (decide (0 < (a1.length : Int))))
  (laws_some_j2 k a0 a1 false)
def laws_some (k : Nat) (a0 : List (List Nat)) (a1 : List Nat) : Option (Bool) :=
 br (decide (0 < (a0.length : Int)))
  (laws_some_j1 k a0 a1 (decide ((a0.length : Int) ≤ 100)))
  (laws_some_j1 k a0 a1 false)

theorem laws_some_sim {k : Nat}  (a0 : List (List Nat)) (a1 : List Nat) {out : Bool} (hp : laws_some k a0 a1 = some out) : Sx.Fn Try.prog 8 [(Sl (Kl Kf) a0), (Sl Kf a1)] [] (fun w : Unit => (Vb out)) (fun w => []) := by
 unfold laws_some at hp
 refine fn_of Try.func8 rfl Try.ntmps8 rfl fun E hM => ?_
 refine cr fun K1 hK1 => ?_
 refine s0 (rd_assign' rfl) ?_
 refine nk hK1 ?_
 refine cr fun K2 hK2 => ?_
 refine s0 (rd_move' rfl) ?_
 refine s0 (rd_len' rfl Try.underlying22) ?_
 refine s0 (rd_bin' rfl rfl eg_int ru_gtr) ?_
 refine s0 (rd_move' rfl) ?_
 refine sx_cutn' 4 (fun (v1 : Bool) => (⟨36, [], [(0, (Sl (Kl Kf) a0)), (1, (Sl Kf a1)), (12, (Vb v1))], []⟩ : St)) (fun (v1 : Bool) => laws_some_j1 k a0 a1 v1 = some out) ?_ ?_
 ·rintro x1 hp
  replace hp : laws_some_j1 k a0 a1 x1 = some out := hp
  unfold laws_some_j1 at hp
  refine s0 (rd_move' rfl) ?_
  refine sx_cutn' 4 (fun (v2 : Bool) => (⟨36, [], [(0, (Sl (Kl Kf) a0)), (1, (Sl Kf a1)), (17, (Vb v2))], []⟩ : St)) (fun (v2 : Bool) => laws_some_j2 k a0 a1 v2 = some out) ?_ ?_
  ·rintro x2 hp
   replace hp : laws_some_j2 k a0 a1 x2 = some out := hp
   unfold laws_some_j2 at hp
   refine s0 (rd_move' rfl) ?_
   refine sx_cutn' 4 (fun (v3 : Bool) => (⟨36, [], [(0, (Sl (Kl Kf) a0)), (1, (Sl Kf a1)), (22, (Vb v3))], []⟩ : St)) (fun (v3 : Bool) => laws_some_j3 k a0 a1 v3 = some out) ?_ ?_
   ·rintro x3 hp
    replace hp : laws_some_j3 k a0 a1 x3 = some out := hp
    unfold laws_some_j3 at hp
    refine s0 (rd_move' rfl) ?_
    refine sx_cutn' 5 (fun (v4 : Bool) => (⟨36, [], [(1, (Sl Kf a1)), (28, (Vb v4))], []⟩ : St)) (fun (v4 : Bool) => laws_some_j4 k a1 v4 = some out) ?_ ?_
    ·rintro x4 hp
     replace hp : laws_some_j4 k a1 x4 = some out := hp
     unfold laws_some_j4 at hp
     refine s0 (rd_move' rfl) ?_
     refine sx_cutn' 6 (fun (v5 : Bool) => (⟨36, [], [(35, (Vb v5))], []⟩ : St)) (fun (v5 : Bool) => laws_some_j5 k v5 = some out) ?_ ?_
     ·rintro x5 hp
      replace hp : laws_some_j5 k x5 = some out := hp
      unfold laws_some_j5 at hp
      refine s0 (rd_assign' rfl) ?_
      refine nk hK2 ?_
      refine cx_retc' ?_
      replace hp := Option.some.inj hp
      subst hp
      refine tx_pick' (L' := [(4, (Vb x5))]) (H' := []) [] (sub_cons rfl sub_nil) (by decide) pick_nil ?_
      exact tx_ret1' Try.results8 rfl () (rv_tmp' rfl) (List.Sublist.refl _)
     intro K7 hK7
     rcases br_cases hp with ⟨h5, hp⟩ | ⟨h5, hp⟩
     ·refine sx_rd' (rd_move' rfl) rfl rfl (wt_is' (wt_guard' rfl rfl rfl) (beq_tt h5)) ?_
      refine sx_ox' (ox_rowlit' (K := (Kl Kf)) (xs := [a1]) (qs := [(0, [(Sl Kf a1)])]) ⟨rfl, ⟨_, rfl, (lv_sl _ _)⟩, trivial⟩ Try.underlying22 info25 rfl rfl rfl rfl rfl (by kernel_rfl) rfl rfl rfl) (wt_is' (wt_guard' rfl rfl rfl) (beq_tt h5)) fun g31 => ?_
      refine sx_rd' (rd_move' rfl) rfl rfl (wt_is' (wt_guard' rfl rfl rfl) (beq_tt h5)) ?_
      refine sx_rd' (rd_len' rfl Try.underlying25) rfl rfl (wt_is' (wt_guard' rfl rfl rfl) (beq_tt h5)) ?_
      obtain ⟨r34, hr34, hp⟩ := bind_some hp
      refine sx_ox' (ox_brw' (frz_row 0 [(31, (Vl (Vs g31)), (Sl (Kl Kf) ([a1])))] (K := (Kl Kf)) (xs := [a1]) (by decide) rfl ⟨⟨rfl, frz_it⟩, trivial⟩ (H' := []) frzH_refl) (ent_fn' Try.func26 isn26 rfl rfl) (spec_Grid_sim _ _ _ hr34 : Sx.Fn Try.prog 26 [(Sl (Kl Kf) ([a1])), (Vi (a1.length : Int)), (Vg 4697254411347427328)] [] (fun x : Unit => (Vb r34)) (fun x => [])) pu_vl rfl rfl) (wt_is' (wt_guard' rfl rfl rfl) (beq_tt h5)) fun ⟨⟩ => ?_
      refine s0 (rd_pick_true' rfl h5 rfl) ?_
      refine sx_nil' ?_
      show TX E K7 _
      exact tx_pick' [] (sub_cons rfl sub_nil) (by decide) pick_nil (hK7 r34 hp)
     refine sx_skip' rfl rfl (wt_is' (wt_guard' rfl rfl rfl) (beq_ft h5)) ?_
     refine sx_skip' rfl rfl (wt_is' (wt_guard' rfl rfl rfl) (beq_ft h5)) ?_
     refine sx_skip' rfl rfl (wt_is' (wt_guard' rfl rfl rfl) (beq_ft h5)) ?_
     refine sx_skip' rfl rfl (wt_is' (wt_guard' rfl rfl rfl) (beq_ft h5)) ?_
     refine sx_skip' rfl rfl (wt_is' (wt_guard' rfl rfl rfl) (beq_ft h5)) ?_
     refine s0 (rd_pick_false' rfl h5 rfl) ?_
     refine sx_nil' ?_
     show TX E K7 _
     exact tx_pick' [] (sub_cons rfl sub_nil) (by decide) pick_nil (hK7 false hp)
    intro K6 hK6
    rcases br_cases hp with ⟨h4, hp⟩ | ⟨h4, hp⟩
    ·refine sx_rd' (rd_move' rfl) rfl rfl (wt_is' (wt_guard' rfl rfl rfl) (beq_tt h4)) ?_
     refine sx_rd' (rd_move' rfl) rfl rfl (wt_is' (wt_guard' rfl rfl rfl) (beq_tt h4)) ?_
     refine sx_rd' (rd_len' rfl Try.underlying25) rfl rfl (wt_is' (wt_guard' rfl rfl rfl) (beq_tt h4)) ?_
     obtain ⟨r27, hr27, hp⟩ := bind_some hp
     refine sx_ox' (ox_calln' (ent_fn' Try.func26 isn26 rfl rfl) (spec_Grid_sim _ _ _ hr27 : Sx.Fn Try.prog 26 [(Sl (Kl Kf) a0), (Vi (a1.length : Int)), (Vg 4697254411347427328)] [] (fun x : Unit => (Vb r27)) (fun x => [])) (Hn := fun x : Unit => []) (fun _ => rfl) rfl rfl) (wt_is' (wt_guard' rfl rfl rfl) (beq_tt h4)) fun ⟨⟩ => ?_
     refine s0 (rd_pick_true' rfl h4 rfl) ?_
     refine sx_nil' ?_
     show TX E K6 _
     exact tx_pick' [] (sub_cons rfl (sub_cons rfl sub_nil)) (by decide) pick_nil (hK6 r27 hp)
    refine sx_skip' rfl rfl (wt_is' (wt_guard' rfl rfl rfl) (beq_ft h4)) ?_
    refine sx_skip' rfl rfl (wt_is' (wt_guard' rfl rfl rfl) (beq_ft h4)) ?_
    refine sx_skip' rfl rfl (wt_is' (wt_guard' rfl rfl rfl) (beq_ft h4)) ?_
    refine sx_skip' rfl rfl (wt_is' (wt_guard' rfl rfl rfl) (beq_ft h4)) ?_
    refine s0 (rd_pick_false' rfl h4 rfl) ?_
    refine sx_nil' ?_
    show TX E K6 _
    exact tx_pick' [] (sub_cons rfl (sub_cons rfl sub_nil)) (by decide) pick_nil (hK6 false hp)
   intro K5 hK5
   rcases br_cases hp with ⟨h3, hp⟩ | ⟨h3, hp⟩
   ·refine sx_rd' (rd_move' rfl) rfl rfl (wt_is' (wt_guard' rfl rfl rfl) (beq_tt h3)) ?_
    refine sx_rd' (rd_len' rfl Try.underlying25) rfl rfl (wt_is' (wt_guard' rfl rfl rfl) (beq_tt h3)) ?_
    refine sx_rd' (rd_bin' rfl rfl eg_int ru_leq) rfl rfl (wt_is' (wt_guard' rfl rfl rfl) (beq_tt h3)) ?_
    refine s0 (rd_pick_true' rfl h3 rfl) ?_
    refine sx_nil' ?_
    show TX E K5 _
    exact tx_pick' [] (sub_cons rfl (sub_cons rfl (sub_cons rfl sub_nil))) (by decide) pick_nil (hK5 (decide ((a1.length : Int) ≤ 6)) hp)
   refine sx_skip' rfl rfl (wt_is' (wt_guard' rfl rfl rfl) (beq_ft h3)) ?_
   refine sx_skip' rfl rfl (wt_is' (wt_guard' rfl rfl rfl) (beq_ft h3)) ?_
   refine sx_skip' rfl rfl (wt_is' (wt_guard' rfl rfl rfl) (beq_ft h3)) ?_
   refine s0 (rd_pick_false' rfl h3 rfl) ?_
   refine sx_nil' ?_
   show TX E K5 _
   exact tx_pick' [] (sub_cons rfl (sub_cons rfl (sub_cons rfl sub_nil))) (by decide) pick_nil (hK5 false hp)
  intro K4 hK4
  rcases br_cases hp with ⟨h2, hp⟩ | ⟨h2, hp⟩
  ·refine sx_rd' (rd_move' rfl) rfl rfl (wt_is' (wt_guard' rfl rfl rfl) (beq_tt h2)) ?_
   refine sx_rd' (rd_len' rfl Try.underlying25) rfl rfl (wt_is' (wt_guard' rfl rfl rfl) (beq_tt h2)) ?_
   refine sx_rd' (rd_bin' rfl rfl eg_int ru_gtr) rfl rfl (wt_is' (wt_guard' rfl rfl rfl) (beq_tt h2)) ?_
   refine s0 (rd_pick_true' rfl h2 rfl) ?_
   refine sx_nil' ?_
   show TX E K4 _
   exact tx_pick' [] (sub_cons rfl (sub_cons rfl (sub_cons rfl sub_nil))) (by decide) pick_nil (hK4 (decide (0 < (a1.length : Int))) hp)
  refine sx_skip' rfl rfl (wt_is' (wt_guard' rfl rfl rfl) (beq_ft h2)) ?_
  refine sx_skip' rfl rfl (wt_is' (wt_guard' rfl rfl rfl) (beq_ft h2)) ?_
  refine sx_skip' rfl rfl (wt_is' (wt_guard' rfl rfl rfl) (beq_ft h2)) ?_
  refine s0 (rd_pick_false' rfl h2 rfl) ?_
  refine sx_nil' ?_
  show TX E K4 _
  exact tx_pick' [] (sub_cons rfl (sub_cons rfl (sub_cons rfl sub_nil))) (by decide) pick_nil (hK4 false hp)
 intro K3 hK3
 rcases br_cases hp with ⟨h1, hp⟩ | ⟨h1, hp⟩
 ·refine sx_rd' (rd_move' rfl) rfl rfl (wt_is' (wt_guard' rfl rfl rfl) (beq_tt h1)) ?_
  refine sx_rd' (rd_len' rfl Try.underlying22) rfl rfl (wt_is' (wt_guard' rfl rfl rfl) (beq_tt h1)) ?_
  refine sx_rd' (rd_bin' rfl rfl eg_int ru_leq) rfl rfl (wt_is' (wt_guard' rfl rfl rfl) (beq_tt h1)) ?_
  refine s0 (rd_pick_true' rfl h1 rfl) ?_
  refine sx_nil' ?_
  show TX E K3 _
  exact tx_pick' [] (sub_cons rfl (sub_cons rfl (sub_cons rfl sub_nil))) (by decide) pick_nil (hK3 (decide ((a0.length : Int) ≤ 100)) hp)
 refine sx_skip' rfl rfl (wt_is' (wt_guard' rfl rfl rfl) (beq_ft h1)) ?_
 refine sx_skip' rfl rfl (wt_is' (wt_guard' rfl rfl rfl) (beq_ft h1)) ?_
 refine sx_skip' rfl rfl (wt_is' (wt_guard' rfl rfl rfl) (beq_ft h1)) ?_
 refine s0 (rd_pick_false' rfl h1 rfl) ?_
 refine sx_nil' ?_
 show TX E K3 _
 exact tx_pick' [] (sub_cons rfl (sub_cons rfl (sub_cons rfl sub_nil))) (by decide) pick_nil (hK3 false hp)

def impl_floats (k : Nat) (a0 : List Nat) : Option ((List Nat)) :=
 (apd 8 [] a0) >>= fun r4 =>
 some r4

theorem impl_floats_sim {k : Nat}  (a0 : List Nat) {out : (List Nat)} (hp : impl_floats k a0 = some out) : Sx.Fn Try.prog 30 [(Sl Kf a0)] [] (fun w : Unit => (Sl Kf out)) (fun w => []) := by
 unfold impl_floats at hp
 refine fn_of Try.func30 rfl Try.ntmps30 rfl fun E hM => ?_
 refine cr fun K1 hK1 => ?_
 refine s0 (rd_assign' rfl) ?_
 refine nk hK1 ?_
 refine cr fun K2 hK2 => ?_
 refine s0 (rd_move' rfl) ?_
 refine tx_nilrow' Kf 40 ?_
 obtain ⟨r4, hr4, hp⟩ := bind_some hp
 refine sx_ox' (ox_append' (K := Kf) (i := 0) (xs := []) (ys := a0) rfl rfl rfl (sr_sl' rfl Try.underlying25) hr4 Try.underlying25 info40 rfl rfl rfl (H' := []) rfl) (wt_none' rfl) fun g4 => ?_
 refine s0 (rd_assign' rfl) ?_
 refine nk hK2 ?_
 refine cx_retc' ?_
 replace hp := Option.some.inj hp
 subst hp
 refine tx_fz' (frz_row 0 [(2, (Vl (Vs g4)), (Sl Kf r4)), (4, (Vl (Vs g4)), (Sl Kf r4))] (K := Kf) (xs := r4) (by decide) rfl ⟨⟨rfl, frz_it⟩, ⟨rfl, frz_it⟩, trivial⟩ (H' := []) frzH_refl) ?_
 refine tx_pick' (L' := [(2, (Sl Kf r4))]) (H' := []) [] (sub_cons rfl sub_nil) (by decide) pick_nil ?_
 exact tx_ret1' Try.results30 rfl () (rv_tmp' rfl) (List.Sublist.refl _)

def impl_kpoints_l1s (a0 : List (List Nat)) (k : Nat) (rec1 : ((List (List Nat)) × Int) → Option ((List (List Nat)))) (x1 : List (List Nat)) (x2 : Int) : Option ((List (List Nat))) :=
 br (decide (x2 < (a0.length : Int)))
  ((idx a0 x2) >>= fun r10 =>
  (impl_floats k r10) >>= fun r14 =>
  (apd 24 x1 ([r14])) >>= fun r16 =>
  rec1 (r16, (iadd .i64 x2 1)))
  (some x1)
def impl_kpoints_l1 (a0 : List (List Nat)) : Nat → ((List (List Nat)) × Int) → Option ((List (List Nat)))
 | 0, _ => none
 | k + 1, v => impl_kpoints_l1s a0 k (impl_kpoints_l1 a0 k) v.1 v.2
def impl_kpoints (k : Nat) (a0 : List (List Nat)) : Option ((List (List Nat))) :=
 (impl_kpoints_l1 a0 k ([], 0)) >>= fun v2 =>
 some v2

theorem impl_kpoints_sim {k : Nat}  (a0 : List (List Nat)) {out : (List (List Nat))} (hp : impl_kpoints k a0 = some out) : Sx.Fn Try.prog 39 [(Sl (Kl Kf) a0)] [] (fun w : Gs => (Vl (Vs w))) (fun w => [(Rw (Kl Kf) 62 (Vs w) out)]) := by
 unfold impl_kpoints at hp
 refine fn_of Try.func39 rfl Try.ntmps39 rfl fun E hM => ?_
 refine cr fun K1 hK1 => ?_
 refine s0 (rd_assign' rfl) ?_
 refine nk hK1 ?_
 refine cr fun K2 hK2 => ?_
 refine s0 (rd_assign' rfl) ?_
 refine nk hK2 ?_
 refine cx_seq' fun K3 hK3 => ?_
 refine cr fun K4 hK4 => ?_
 refine s0 (rd_move' rfl) ?_
 refine s0 (rd_len' rfl Try.underlying22) ?_
 refine s0 (rd_move' rfl) ?_
 refine nk hK4 ?_
 refine cx_block' ?_
 obtain ⟨v2, hy1, hp⟩ := bind_some hp
 refine tx_nilrow' (Kl Kf) 62 ?_
 refine cx_loopg' (F := impl_kpoints_l1 a0) (G := fun k R v => impl_kpoints_l1s a0 k R v.1 v.2) (x := ([], 0)) (gh := (none, 0, 0)) (fun (v1 : (List (List Nat)) × Int) (w1 : Gs) => (⟨19, [], [(3, (Vl (Vs w1))), (6, (Sl (Kl Kf) a0)), (7, (Vi (a0.length : Int))), (8, (Vi v1.2))], [(Rw (Kl Kf) 62 (Vs w1) v1.1)]⟩ : St)) (fun (v2 : (List (List Nat))) => Zg E (Exit.exit 0) (fun (w2 : Gs) => (⟨19, [], [(3, (Vl (Vs w2)))], [(Rw (Kl Kf) 62 (Vs w2) v2)]⟩ : St))) (fun _ => rfl) (fun _ _ => rfl) ?_ hy1 (tx_to' rfl [0] (sub_cons rfl (sub_cons rfl (sub_cons rfl (sub_cons rfl sub_nil)))) (by decide) (pick_cons rfl pick_nil)) ?_
 ·clear hp hy1
  clear v2
  intro k rec1 KY1 ih1
  rintro ⟨x1, x2⟩ g901 y1 hp
  replace hp : impl_kpoints_l1s a0 k rec1 x1 x2 = some y1 := hp
  unfold impl_kpoints_l1s at hp
  refine cr fun K9 hK9 => ?_
  refine s0 (rd_bin' rfl rfl eg_int ru_lss) ?_
  refine nk hK9 ?_
  refine cx_seq' fun K10 hK10 => ?_
  refine cx_cond' rfl (fun h3 => ?_) (fun h3 => ?_)
  ·replace hp := (br_t h3).symm.trans hp
   refine cx_skip' ?_
   show TX E K10 _
   refine tx_k' hK10 ?_
   refine cx_seq' fun K11 hK11 => ?_
   refine cx_block' ?_
   refine cr fun K12 hK12 => ?_
   obtain ⟨r10, hr10, hp⟩ := bind_some hp
   refine s0 (rd_at' (K := (Kl Kf)) rfl rfl hr10 Try.underlying22 info25) ?_
   refine s0 (rd_load_pt' rfl rfl flat25) ?_
   refine s0 (rd_assign' rfl) ?_
   refine nk hK12 ?_
   refine cx_region' ?_
   refine s0 (rd_move' rfl) ?_
   refine s0 (rd_move' rfl) ?_
   obtain ⟨r14, hr14, hp⟩ := bind_some hp
   refine sx_ox' (ox_calln' (ent_fn' Try.func30 isn30 rfl rfl) (impl_floats_sim _ hr14 : Sx.Fn Try.prog 30 [(Sl Kf r10)] [] (fun x : Unit => (Sl Kf r14)) (fun x => [])) (Hn := fun x : Unit => [(Rw (Kl Kf) 62 (Vs g901) x1)]) (fun _ => rfl) rfl rfl) (wt_none' rfl) fun ⟨⟩ => ?_
   refine sx_ox' (ox_rowlit' (K := (Kl Kf)) (xs := [r14]) (qs := [(0, [(Sl Kf r14)])]) ⟨rfl, ⟨_, rfl, (lv_sl _ _)⟩, trivial⟩ Try.underlying75 info62 rfl rfl rfl rfl rfl (by kernel_rfl) rfl rfl rfl) (wt_none' rfl) fun g15 => ?_
   obtain ⟨r16, hr16, hp⟩ := bind_some hp
   refine sx_ox' (ox_append' (K := (Kl Kf)) (i := 1) (xs := x1) (ys := ([r14])) rfl rfl rfl (sr_row' (j := 0) rfl rfl rfl Try.underlying75) hr16 Try.underlying75 info62 rfl rfl rfl (H' := [(Rw (Kl Kf) 62 (Vs g15) ([r14]))]) rfl) (wt_none' rfl) fun g16 => ?_
   refine s0 (rd_assign' rfl) ?_
   refine nk hK11 ?_
   refine cx_region' ?_
   refine s0 (rd_bin' rfl rfl eg_int ru_add) ?_
   refine s0 (rd_move' rfl) ?_
   refine sx_nil' ?_
   show TX E (KY1 _) _
   exact tx_pick' [0] (sub_cons rfl (sub_cons rfl (sub_cons rfl (sub_cons rfl sub_nil)))) (by decide) (pick_cons rfl pick_nil) (ih1 (r16, (iadd .i64 x2 1)) g16 _ hp)
  replace hp := (br_f h3).symm.trans hp
  refine cx_exit' ?_
  replace hp := Option.some.inj hp
  subst hp
  show TX E (Zg E (Exit.exit 0) _ (Exit.exit 0)) _
  exact tx_zend' g901 rfl [0] (sub_cons rfl sub_nil) (by decide) (pick_cons rfl pick_nil)
 refine zg_out fun w2 => ?_
 show TX E K3 _
 refine tx_k' hK3 ?_
 refine cr fun K13 hK13 => ?_
 refine s0 (rd_move' rfl) ?_
 refine s0 (rd_assign' rfl) ?_
 refine nk hK13 ?_
 refine cx_retc' ?_
 replace hp := Option.some.inj hp
 subst hp
 refine tx_pick' (L' := [(2, (Vl (Vs w2)))]) (H' := [(Rw (Kl Kf) 62 (Vs w2) v2)]) [0] (sub_cons rfl sub_nil) (by decide) (pick_cons rfl pick_nil) ?_
 exact tx_ret1' Try.results39 rfl w2 (rv_tmp' rfl) (List.Sublist.refl _)

def kdtree_DoorPoints_Len (k : Nat) (a0 : List (List Nat)) (a0l : Nat) (a0n : Nat) : Option ((List (List Nat)) × Int) :=
 some (a0, ((a0n : Nat) : Int))

theorem kdtree_DoorPoints_Len_sim {k : Nat} {wa0 : Gs} (a0 : List (List Nat)) (a0l : Nat) (a0n : Nat) {out : (List (List Nat)) × Int} (hp : kdtree_DoorPoints_Len k a0 a0l a0n = some out) : Sx.Fn Try.prog 137 [(Rvw (Vs wa0) (Kl Kf).size a0l a0n)] [(Rw (Kl Kf) 62 (Vs wa0) a0)] (fun w : Unit => (Vi out.2)) (fun w => [(Rw (Kl Kf) 62 (Vs wa0) out.1)]) := by
 unfold kdtree_DoorPoints_Len at hp
 refine fn_of Try.func137 rfl Try.ntmps137 rfl fun E hM => ?_
 refine cr fun K1 hK1 => ?_
 refine s0 (rd_assign' rfl) ?_
 refine nk hK1 ?_
 refine cr fun K2 hK2 => ?_
 refine s0 (rd_move' rfl) ?_
 refine s0 (rd_vlen' rfl Try.underlying75) ?_
 refine s0 (rd_assign' rfl) ?_
 refine nk hK2 ?_
 refine cx_retc' ?_
 replace hp := Option.some.inj hp
 subst hp
 refine tx_pick' (L' := [(2, (Vi ((a0n : Nat) : Int)))]) (H' := [(Rw (Kl Kf) 62 (Vs wa0) a0)]) [0] (sub_cons rfl sub_nil) (by decide) (pick_cons rfl pick_nil) ?_
 exact tx_ret1' Try.results137 rfl () (rv_tmp' rfl) (List.Sublist.refl _)

def kdtree_doorPlane_Len (k : Nat) (a0_0 : Int) (a0_1 : List (List Nat)) (a0_1l : Nat) (a0_1n : Nat) : Option ((List (List Nat)) × Int) :=
 some (a0_1, ((a0_1n : Nat) : Int))

theorem kdtree_doorPlane_Len_sim {k : Nat} {wa0_1 : Gs} (a0_0 : Int) (a0_1 : List (List Nat)) (a0_1l : Nat) (a0_1n : Nat) {out : (List (List Nat)) × Int} (hp : kdtree_doorPlane_Len k a0_0 a0_1 a0_1l a0_1n = some out) : Sx.Fn Try.prog 162 [(Ag [(Vi a0_0), (Rvw (Vs wa0_1) (Kl Kf).size a0_1l a0_1n)])] [(Rw (Kl Kf) 62 (Vs wa0_1) a0_1)] (fun w : Unit => (Vi out.2)) (fun w => [(Rw (Kl Kf) 62 (Vs wa0_1) out.1)]) := by
 unfold kdtree_doorPlane_Len at hp
 refine fn_of Try.func162 rfl Try.ntmps162 rfl fun E hM => ?_
 refine cr fun K1 hK1 => ?_
 refine sx_ox' (ox_box' rfl (lv_ag _) rfl rfl) (wt_none' rfl) fun q1 => ?_
 refine s0 (rd_assign' rfl) ?_
 refine nk hK1 ?_
 refine cr fun K2 hK2 => ?_
 refine s0 (rd_field' (off := 1) rfl Try.underlying222 rfl info75 rfl) ?_
 refine s0 (rd_load' (i := 0) (o := 1) rfl ⟨rfl, rfl, rfl, rfl⟩ rfl flat75) ?_
 refine s0 (rd_vlen' rfl Try.underlying75) ?_
 refine s0 (rd_assign' rfl) ?_
 refine nk hK2 ?_
 refine cx_retc' ?_
 replace hp := Option.some.inj hp
 subst hp
 refine tx_pick' (L' := [(2, (Vi ((a0_1n : Nat) : Int)))]) (H' := [(Rw (Kl Kf) 62 (Vs wa0_1) a0_1)]) [1] (sub_cons rfl sub_nil) (by decide) (pick_cons rfl pick_nil) ?_
 exact tx_ret1' Try.results162 rfl () (rv_tmp' rfl) (List.Sublist.refl _)

def kdtree_doorPlane_Swap (k : Nat) (a0_0 : Int) (a0_1 : List (List Nat)) (a0_1l : Nat) (a0_1n : Nat) (a1 : Int) (a2 : Int) : Option ((List (List Nat))) :=
 (idv a0_1 a0_1l a0_1n a2) >>= fun r15 =>
 (idv a0_1 a0_1l a0_1n a1) >>= fun r20 =>
 (idv a0_1 a0_1l a0_1n a1) >>= fun r22 =>
 (idv (a0_1.set (((a0_1l : Nat) : Int) + a1).toNat r15) a0_1l a0_1n a2) >>= fun r23 =>
 some ((a0_1.set (((a0_1l : Nat) : Int) + a1).toNat r15).set (((a0_1l : Nat) : Int) + a2).toNat r20)

theorem kdtree_doorPlane_Swap_sim {k : Nat} {wa0_1 : Gs} (a0_0 : Int) (a0_1 : List (List Nat)) (a0_1l : Nat) (a0_1n : Nat) (a1 : Int) (a2 : Int) {out : (List (List Nat))} (hp : kdtree_doorPlane_Swap k a0_0 a0_1 a0_1l a0_1n a1 a2 = some out) : Sx.Fn Try.prog 164 [(Ag [(Vi a0_0), (Rvw (Vs wa0_1) (Kl Kf).size a0_1l a0_1n)]), (Vi a1), (Vi a2)] [(Rw (Kl Kf) 62 (Vs wa0_1) a0_1)] (fun w : Unit => (Vl (.tuple #[]))) (fun w => [(Rw (Kl Kf) 62 (Vs wa0_1) out)]) := by
 unfold kdtree_doorPlane_Swap at hp
 refine fn_of Try.func164 rfl Try.ntmps164 rfl fun E hM => ?_
 refine cr fun K1 hK1 => ?_
 refine sx_ox' (ox_box' rfl (lv_ag _) rfl rfl) (wt_none' rfl) fun q3 => ?_
 refine nk hK1 ?_
 refine cx_plan' [q3.block] [(17, 1), (19, 1)] [(0, 1), (1, 1), (2, 1), (3, 2), (4, 2), (5, 2), (6, 1), (7, 1), (8, 1), (9, 1), (10, 1), (11, 1), (12, 1), (13, 1), (14, 1), (15, 1), (16, 1), (17, 0), (18, 1), (19, 0)] mixed (by kernel_rfl) ?_
 refine px_rd' rfl (rd_field' (off := 1) rfl Try.underlying222 rfl info75 rfl) rfl rfl (wt_none' rfl) ?_
 refine px_rd' rfl (rd_load' (i := 0) (o := 1) rfl ⟨rfl, rfl, rfl, rfl⟩ rfl flat75) rfl rfl (wt_none' rfl) ?_
 refine px_rd' rfl (rd_move' rfl) rfl rfl (wt_none' rfl) ?_
 refine px_rb' rfl (rb_field' (off := 1) rfl Try.underlying222 rfl info75 rfl) rfl rfl (wt_none' rfl) ?_
 refine px_rb' rfl (rb_load' (i := 0) (o := 1) rfl ⟨rfl, rfl, rfl, rfl⟩ rfl flat75 (by simp)) rfl rfl (wt_none' rfl) ?_
 refine px_rb' rfl (rb_move' rfl) rfl rfl (wt_none' rfl) ?_
 refine px_rd' rfl (rd_field' (off := 1) rfl Try.underlying222 rfl info75 rfl) rfl rfl (wt_none' rfl) ?_
 refine px_rd' rfl (rd_load' (i := 0) (o := 1) rfl ⟨rfl, rfl, rfl, rfl⟩ rfl flat75) rfl rfl (wt_none' rfl) ?_
 refine px_rd' rfl (rd_move' rfl) rfl rfl (wt_none' rfl) ?_
 obtain ⟨r15, hr15, hp⟩ := bind_some hp
 refine px_rd' rfl (rd_vat' (K := (Kl Kf)) (m := 1) rfl rfl rfl rfl hr15 Try.underlying75 info62) rfl rfl (wt_none' rfl) ?_
 refine px_rd' rfl (rd_loadr' rfl (m := 1) (i := (((a0_1l : Nat) : Int) + a2)) (j := 0) rfl rfl (idv_some hr15).2 rfl rfl flat62) rfl rfl (wt_none' rfl) ?_
 refine px_rd' rfl (rd_field' (off := 1) rfl Try.underlying222 rfl info75 rfl) rfl rfl (wt_none' rfl) ?_
 refine px_rd' rfl (rd_load' (i := 0) (o := 1) rfl ⟨rfl, rfl, rfl, rfl⟩ rfl flat75) rfl rfl (wt_none' rfl) ?_
 refine px_rd' rfl (rd_move' rfl) rfl rfl (wt_none' rfl) ?_
 obtain ⟨r20, hr20, hp⟩ := bind_some hp
 refine px_rd' rfl (rd_vat' (K := (Kl Kf)) (m := 1) rfl rfl rfl rfl hr20 Try.underlying75 info62) rfl rfl (wt_none' rfl) ?_
 refine px_rd' rfl (rd_loadr' rfl (m := 1) (i := (((a0_1l : Nat) : Int) + a1)) (j := 0) rfl rfl (idv_some hr20).2 rfl rfl flat62) rfl rfl (wt_none' rfl) ?_
 obtain ⟨r22, hr22, hp⟩ := bind_some hp
 refine px_rd' rfl (rd_vat' (K := (Kl Kf)) (m := 1) rfl rfl rfl rfl hr22 Try.underlying75 info62) rfl rfl (wt_none' rfl) ?_
 refine px_ox' rfl (ox_storer' (m := 1) (i := (((a0_1l : Nat) : Int) + a1)) (j := 0) (x' := r15) rfl rfl (lv_sl _ _) rfl rfl (idv_some hr22).2 rfl rfl rfl info62 rfl (H' := [⟨.pointer (some q3), [(Vi a0_0), (Rvw (Vs wa0_1) (Kl Kf).size a0_1l a0_1n)], 222, none⟩, (Rw (Kl Kf) 62 (Vs wa0_1) (a0_1.set (((a0_1l : Nat) : Int) + a1).toNat r15))]) rfl) rfl (bs_cons (m := 0) rfl rfl rfl bs_nil) (wt_none' rfl) fun _ => ?_
 obtain ⟨r23, hr23, hp⟩ := bind_some hp
 refine px_rd' rfl (rd_vat' (K := (Kl Kf)) (m := 1) rfl rfl rfl rfl hr23 Try.underlying75 info62) rfl rfl (wt_none' rfl) ?_
 refine px_ox' rfl (ox_storer' (m := 1) (i := (((a0_1l : Nat) : Int) + a2)) (j := 0) (x' := r20) rfl rfl (lv_sl _ _) rfl rfl (idv_some hr23).2 rfl rfl rfl info62 rfl (H' := [⟨.pointer (some q3), [(Vi a0_0), (Rvw (Vs wa0_1) (Kl Kf).size a0_1l a0_1n)], 222, none⟩, (Rw (Kl Kf) 62 (Vs wa0_1) ((a0_1.set (((a0_1l : Nat) : Int) + a1).toNat r15).set (((a0_1l : Nat) : Int) + a2).toNat r20))]) rfl) rfl (bs_cons (m := 0) rfl rfl rfl bs_nil) (wt_none' rfl) fun _ => ?_
 refine px_nil' ?_
 replace hp := Option.some.inj hp
 subst hp
 refine tx_pick' (L' := []) (H' := [(Rw (Kl Kf) 62 (Vs wa0_1) ((a0_1.set (((a0_1l : Nat) : Int) + a1).toNat r15).set (((a0_1l : Nat) : Int) + a2).toNat r20))]) [1] sub_nil (by decide) (pick_cons rfl pick_nil) ?_
 exact tx_end0' Try.results164 rfl () rfl (List.Sublist.refl _)

def kdtree_doorPlane_Less (k : Nat) (a0_0 : Int) (a0_1 : List (List Nat)) (a0_1l : Nat) (a0_1n : Nat) (a1 : Int) (a2 : Int) : Option ((List (List Nat)) × Bool) :=
 (idv a0_1 a0_1l a0_1n a1) >>= fun r10 =>
 (idx r10 a0_0) >>= fun r14 =>
 (idv a0_1 a0_1l a0_1n a2) >>= fun r19 =>
 (idx r19 a0_0) >>= fun r23 =>
 some (a0_1, flt r14 r23)

theorem kdtree_doorPlane_Less_sim {k : Nat} {wa0_1 : Gs} (a0_0 : Int) (a0_1 : List (List Nat)) (a0_1l : Nat) (a0_1n : Nat) (a1 : Int) (a2 : Int) {out : (List (List Nat)) × Bool} (hp : kdtree_doorPlane_Less k a0_0 a0_1 a0_1l a0_1n a1 a2 = some out) : Sx.Fn Try.prog 163 [(Ag [(Vi a0_0), (Rvw (Vs wa0_1) (Kl Kf).size a0_1l a0_1n)]), (Vi a1), (Vi a2)] [(Rw (Kl Kf) 62 (Vs wa0_1) a0_1)] (fun w : Unit => (Vb out.2)) (fun w => [(Rw (Kl Kf) 62 (Vs wa0_1) out.1)]) := by
 unfold kdtree_doorPlane_Less at hp
 refine fn_of Try.func163 rfl Try.ntmps163 rfl fun E hM => ?_
 refine cr fun K1 hK1 => ?_
 refine sx_ox' (ox_box' rfl (lv_ag _) rfl rfl) (wt_none' rfl) fun q3 => ?_
 refine s0 (rd_assign' rfl) ?_
 refine nk hK1 ?_
 refine cx_seq' fun K2 hK2 => ?_
 refine cx_draw' mixed (by kernel_rfl) ?_
 refine qx_rd' (rd_field' (off := 1) rfl Try.underlying222 rfl info75 rfl) rfl rfl (wt_none' rfl) ?_
 refine qx_rd' (rd_load' (i := 0) (o := 1) rfl ⟨rfl, rfl, rfl, rfl⟩ rfl flat75) rfl rfl (wt_none' rfl) ?_
 refine qx_rd' (rd_move' rfl) rfl rfl (wt_none' rfl) ?_
 obtain ⟨r10, hr10, hp⟩ := bind_some hp
 refine qx_rd' (rd_vat' (K := (Kl Kf)) (m := 1) rfl rfl rfl rfl hr10 Try.underlying75 info62) rfl rfl (wt_none' rfl) ?_
 refine qx_rd' (rd_loadr' rfl (m := 1) (i := (((a0_1l : Nat) : Int) + a1)) (j := 0) rfl rfl (idv_some hr10).2 rfl rfl flat62) rfl rfl (wt_none' rfl) ?_
 refine qx_rd' (rd_field0' rfl Try.underlying222 rfl info117 rfl) rfl rfl (wt_none' rfl) ?_
 refine qx_rd' (rd_load' (i := 0) (o := 0) rfl ⟨rfl, rfl, rfl, rfl⟩ rfl flat117) rfl rfl (wt_none' rfl) ?_
 obtain ⟨r14, hr14, hp⟩ := bind_some hp
 refine qx_rd' (rd_at' (K := Kf) rfl rfl hr14 Try.underlying62 info40) rfl rfl (wt_none' rfl) ?_
 refine qx_rd' (rd_load_pt' rfl rfl flat40) rfl rfl (wt_none' rfl) ?_
 refine qx_rd' (rd_field' (off := 1) rfl Try.underlying222 rfl info75 rfl) rfl rfl (wt_none' rfl) ?_
 refine qx_rd' (rd_load' (i := 0) (o := 1) rfl ⟨rfl, rfl, rfl, rfl⟩ rfl flat75) rfl rfl (wt_none' rfl) ?_
 refine qx_rd' (rd_move' rfl) rfl rfl (wt_none' rfl) ?_
 obtain ⟨r19, hr19, hp⟩ := bind_some hp
 refine qx_rd' (rd_vat' (K := (Kl Kf)) (m := 1) rfl rfl rfl rfl hr19 Try.underlying75 info62) rfl rfl (wt_none' rfl) ?_
 refine qx_rd' (rd_loadr' rfl (m := 1) (i := (((a0_1l : Nat) : Int) + a2)) (j := 0) rfl rfl (idv_some hr19).2 rfl rfl flat62) rfl rfl (wt_none' rfl) ?_
 refine qx_rd' (rd_field0' rfl Try.underlying222 rfl info117 rfl) rfl rfl (wt_none' rfl) ?_
 refine qx_rd' (rd_load' (i := 0) (o := 0) rfl ⟨rfl, rfl, rfl, rfl⟩ rfl flat117) rfl rfl (wt_none' rfl) ?_
 obtain ⟨r23, hr23, hp⟩ := bind_some hp
 refine qx_rd' (rd_at' (K := Kf) rfl rfl hr23 Try.underlying62 info40) rfl rfl (wt_none' rfl) ?_
 refine qx_rd' (rd_load_pt' rfl rfl flat40) rfl rfl (wt_none' rfl) ?_
 refine qx_rd' (rd_bin' rfl rfl eg_flt ru_flt) rfl rfl (wt_none' rfl) ?_
 refine qx_rd' (rd_assign' rfl) rfl rfl (wt_none' rfl) ?_
 refine qx_nil' ?_
 show TX E K2 _
 refine tx_k' hK2 ?_
 refine cx_retc' ?_
 replace hp := Option.some.inj hp
 subst hp
 refine tx_pick' (L' := [(6, (Vb (flt r14 r23)))]) (H' := [(Rw (Kl Kf) 62 (Vs wa0_1) a0_1)]) [1] (sub_cons rfl sub_nil) (by decide) (pick_cons rfl pick_nil) ?_
 exact tx_ret1' Try.results163 rfl () (rv_tmp' rfl) (List.Sublist.refl _)

def kdtree_Partition_j2 (k : Nat) (rec1 : ((List (List Nat)) × Int × Int) → Option ((List (List Nat)) × Int)) (x7 : Int) (x3 : List (List Nat)) (x4 : Int) : Option ((List (List Nat)) × Int) :=
 rec1 (x3, x4, (iadd .i64 x7 1))
def kdtree_Partition_l1s (r9 : (List (List Nat)) × Int) (a0_0 : Int) (a0_1l : Nat) (a0_1n : Nat) (k : Nat) (rec1 : ((List (List Nat)) × Int × Int) → Option ((List (List Nat)) × Int)) (x5 : List (List Nat)) (x6 : Int) (x7 : Int) : Option ((List (List Nat)) × Int) :=
 br (decide (x7 < (isub .i64 r9.2 1)))
  ((kdtree_doorPlane_Less k a0_0 x5 a0_1l a0_1n (isub .i64 r9.2 1) x7) >>= fun r25 =>
  br (!r25.2)
   ((kdtree_doorPlane_Swap k a0_0 r25.1 a0_1l a0_1n x6 x7) >>= fun r30 =>
   kdtree_Partition_j2 k rec1 x7 r30 (iadd .i64 x6 1))
   (kdtree_Partition_j2 k rec1 x7 r25.1 x6))
  (some (x5, x6))
def kdtree_Partition_l1 (r9 : (List (List Nat)) × Int) (a0_0 : Int) (a0_1l : Nat) (a0_1n : Nat) : Nat → ((List (List Nat)) × Int × Int) → Option ((List (List Nat)) × Int)
 | 0, _ => none
 | k + 1, v => kdtree_Partition_l1s r9 a0_0 a0_1l a0_1n k (kdtree_Partition_l1 r9 a0_0 a0_1l a0_1n k) v.1 v.2.1 v.2.2
def kdtree_Partition (k : Nat) (a0_0 : Int) (a0_1 : List (List Nat)) (a0_1l : Nat) (a0_1n : Nat) (a1 : Int) : Option ((List (List Nat)) × Int) :=
 (kdtree_doorPlane_Len k a0_0 a0_1 a0_1l a0_1n) >>= fun r9 =>
 br (decide ((isub .i64 r9.2 1) < 0))
  (some (r9.1, (-1)))
  ((kdtree_doorPlane_Swap k a0_0 r9.1 a0_1l a0_1n a1 (isub .i64 r9.2 1)) >>= fun r16 =>
  (kdtree_Partition_l1 r9 a0_0 a0_1l a0_1n k (r16, 0, 0)) >>= fun v4 =>
  (kdtree_doorPlane_Swap k a0_0 v4.1 a0_1l a0_1n (isub .i64 r9.2 1) v4.2) >>= fun r36 =>
  some (r36, v4.2))

theorem kdtree_Partition_sim {k : Nat} {wa0_1 : Gs} (a0_0 : Int) (a0_1 : List (List Nat)) (a0_1l : Nat) (a0_1n : Nat) (a1 : Int) {out : (List (List Nat)) × Int} (hp : kdtree_Partition k a0_0 a0_1 a0_1l a0_1n a1 = some out) : Sx.Fn Try.prog 140 [(If 222 (Ag [(Vi a0_0), (Rvw (Vs wa0_1) (Kl Kf).size a0_1l a0_1n)])), (Vi a1)] [(Rw (Kl Kf) 62 (Vs wa0_1) a0_1)] (fun w : Unit => (Vi out.2)) (fun w => [(Rw (Kl Kf) 62 (Vs wa0_1) out.1)]) := by
 unfold kdtree_Partition at hp
 refine fn_of Try.func140 rfl Try.ntmps140 rfl fun E hM => ?_
 refine cr fun K1 hK1 => ?_
 refine s0 (rd_assign' rfl) ?_
 refine nk hK1 ?_
 refine cr fun K2 hK2 => ?_
 refine s0 (rd_assign' rfl) ?_
 refine s0 (rd_assign' rfl) ?_
 refine nk hK2 ?_
 refine cx_seq' fun K3 hK3 => ?_
 refine cr fun K4 hK4 => ?_
 refine s0 (rd_move' rfl) ?_
 obtain ⟨r9, hr9, hp⟩ := bind_some hp
 refine sx_ox' (ox_callg' (ent_inv' rfl rfl (inv_any0 inv222_Len)) (kdtree_doorPlane_Len_sim _ _ _ _ hr9 : Sx.Fn Try.prog 162 [(Ag [(Vi a0_0), (Rvw (Vs wa0_1) (Kl Kf).size a0_1l a0_1n)])] [(Rw (Kl Kf) 62 (Vs wa0_1) a0_1)] (fun x : Unit => (Vi r9.2)) (fun x => [(Rw (Kl Kf) 62 (Vs wa0_1) r9.1)])) [0] [] (by decide) (pick_cons rfl pick_nil) pick_nil (Hn := fun x : Unit => [(Rw (Kl Kf) 62 (Vs wa0_1) r9.1)]) (fun _ => rfl) rfl rfl) (wt_none' rfl) fun ⟨⟩ => ?_
 refine s0 (rd_bin' rfl rfl eg_int ru_sub) ?_
 refine s0 (rd_assign' rfl) ?_
 refine nk hK4 ?_
 refine cr fun K5 hK5 => ?_
 refine s0 (rd_move' rfl) ?_
 refine s0 (rd_bin' rfl rfl eg_int ru_lss) ?_
 refine nk hK5 ?_
 refine cx_cond' rfl (fun h1 => ?_) (fun h1 => ?_)
 ·replace hp := (br_t h1).symm.trans hp
  refine cr fun K6 hK6 => ?_
  refine s0 (rd_assign' rfl) ?_
  refine nk hK6 ?_
  refine cx_retc' ?_
  replace hp := Option.some.inj hp
  subst hp
  refine tx_pick' (L' := [(4, (Vi (-1)))]) (H' := [(Rw (Kl Kf) 62 (Vs wa0_1) r9.1)]) [0] (sub_cons rfl sub_nil) (by decide) (pick_cons rfl pick_nil) ?_
  exact tx_ret1' Try.results140 rfl () (rv_tmp' rfl) (List.Sublist.refl _)
 replace hp := (br_f h1).symm.trans hp
 refine cx_skip' ?_
 show TX E K3 _
 refine tx_k' hK3 ?_
 refine cr fun K7 hK7 => ?_
 refine s0 (rd_move' rfl) ?_
 refine s0 (rd_move' rfl) ?_
 refine s0 (rd_move' rfl) ?_
 obtain ⟨r16, hr16, hp⟩ := bind_some hp
 refine sx_ox' (ox_callg' (ent_inv' rfl rfl (inv_any2 inv222_Swap)) (kdtree_doorPlane_Swap_sim _ _ _ _ _ _ hr16 : Sx.Fn Try.prog 164 [(Ag [(Vi a0_0), (Rvw (Vs wa0_1) (Kl Kf).size a0_1l a0_1n)]), (Vi a1), (Vi (isub .i64 r9.2 1))] [(Rw (Kl Kf) 62 (Vs wa0_1) r9.1)] (fun x : Unit => (Vl (.tuple #[]))) (fun x => [(Rw (Kl Kf) 62 (Vs wa0_1) r16)])) [0] [] (by decide) (pick_cons rfl pick_nil) pick_nil (Hn := fun x : Unit => [(Rw (Kl Kf) 62 (Vs wa0_1) r16)]) (fun _ => rfl) rfl rfl) (wt_none' rfl) fun ⟨⟩ => ?_
 refine nk hK7 ?_
 refine cx_seq' fun K8 hK8 => ?_
 refine cr fun K9 hK9 => ?_
 refine s0 (rd_assign' rfl) ?_
 refine nk hK9 ?_
 refine cx_block' ?_
 obtain ⟨v4, hy1, hp⟩ := bind_some hp
 refine cx_loopg' (F := kdtree_Partition_l1 r9 a0_0 a0_1l a0_1n) (G := fun k R v => kdtree_Partition_l1s r9 a0_0 a0_1l a0_1n k R v.1 v.2.1 v.2.2) (x := (r16, 0, 0)) (gh := ()) (fun (v2 : (List (List Nat)) × Int × Int) (w2 : Unit) => (⟨38, [], [(0, (If 222 (Ag [(Vi a0_0), (Rvw (Vs wa0_1) (Kl Kf).size a0_1l a0_1n)]))), (5, (Vi v2.2.1)), (6, (Vi (isub .i64 r9.2 1))), (7, (Vi v2.2.2))], [(Rw (Kl Kf) 62 (Vs wa0_1) v2.1)]⟩ : St)) (fun (v4 : (List (List Nat)) × Int) => Zg E (Exit.exit 0) (fun (w4 : Unit) => (⟨38, [], [(0, (If 222 (Ag [(Vi a0_0), (Rvw (Vs wa0_1) (Kl Kf).size a0_1l a0_1n)]))), (5, (Vi v4.2)), (6, (Vi (isub .i64 r9.2 1)))], [(Rw (Kl Kf) 62 (Vs wa0_1) v4.1)]⟩ : St))) (fun _ => rfl) (fun _ _ => rfl) ?_ hy1 (tx_to' rfl [0] (sub_cons rfl (sub_cons rfl (sub_cons rfl (sub_cons rfl sub_nil)))) (by decide) (pick_cons rfl pick_nil)) ?_
 ·clear hp hy1
  clear v4
  intro k rec1 KY1 ih1
  rintro ⟨x5, x6, x7⟩ ⟨⟩ y1 hp
  replace hp : kdtree_Partition_l1s r9 a0_0 a0_1l a0_1n k rec1 x5 x6 x7 = some y1 := hp
  unfold kdtree_Partition_l1s at hp
  refine cx_seq' fun K15 hK15 => ?_
  refine cr fun K16 hK16 => ?_
  refine s0 (rd_move' rfl) ?_
  refine s0 (rd_move' rfl) ?_
  refine s0 (rd_bin' rfl rfl eg_int ru_lss) ?_
  refine nk hK16 ?_
  refine cx_cond' rfl (fun h5 => ?_) (fun h5 => ?_)
  ·replace hp := (br_t h5).symm.trans hp
   refine cx_skip' ?_
   show TX E K15 _
   refine tx_k' hK15 ?_
   refine cx_join' (fun (v3 : (List (List Nat)) × Int) => (⟨38, [], [(0, (If 222 (Ag [(Vi a0_0), (Rvw (Vs wa0_1) (Kl Kf).size a0_1l a0_1n)]))), (5, (Vi v3.2)), (6, (Vi (isub .i64 r9.2 1))), (7, (Vi x7))], [(Rw (Kl Kf) 62 (Vs wa0_1) v3.1)]⟩ : St)) (fun (v3 : (List (List Nat)) × Int) => kdtree_Partition_j2 k rec1 x7 v3.1 v3.2 = some y1) ?_ ?_
   ·rintro ⟨x3, x4⟩ hp
    replace hp : kdtree_Partition_j2 k rec1 x7 x3 x4 = some y1 := hp
    unfold kdtree_Partition_j2 at hp
    refine cx_region' ?_
    refine s0 (rd_move' rfl) ?_
    refine s0 (rd_bin' rfl rfl eg_int ru_add) ?_
    refine s0 (rd_assign' rfl) ?_
    refine sx_nil' ?_
    show TX E (KY1 _) _
    exact tx_pick' [0] (sub_cons rfl (sub_cons rfl (sub_cons rfl (sub_cons rfl sub_nil)))) (by decide) (pick_cons rfl pick_nil) (ih1 (x3, x4, (iadd .i64 x7 1)) () _ hp)
   intro K17 hK17
   refine cx_block' ?_
   refine cr fun K18 hK18 => ?_
   refine s0 (rd_move' rfl) ?_
   refine s0 (rd_move' rfl) ?_
   refine s0 (rd_move' rfl) ?_
   obtain ⟨r25, hr25, hp⟩ := bind_some hp
   refine sx_ox' (ox_callg' (ent_inv' rfl rfl (inv_any2 inv222_Less)) (kdtree_doorPlane_Less_sim _ _ _ _ _ _ hr25 : Sx.Fn Try.prog 163 [(Ag [(Vi a0_0), (Rvw (Vs wa0_1) (Kl Kf).size a0_1l a0_1n)]), (Vi (isub .i64 r9.2 1)), (Vi x7)] [(Rw (Kl Kf) 62 (Vs wa0_1) x5)] (fun x : Unit => (Vb r25.2)) (fun x => [(Rw (Kl Kf) 62 (Vs wa0_1) r25.1)])) [0] [] (by decide) (pick_cons rfl pick_nil) pick_nil (Hn := fun x : Unit => [(Rw (Kl Kf) 62 (Vs wa0_1) r25.1)]) (fun _ => rfl) rfl rfl) (wt_none' rfl) fun ⟨⟩ => ?_
   refine s0 (rd_un' rfl ru_not) ?_
   refine nk hK18 ?_
   refine cx_cond' rfl (fun h6 => ?_) (fun h6 => ?_)
   ·replace hp := (br_t h6).symm.trans hp
    refine cr fun K19 hK19 => ?_
    refine s0 (rd_move' rfl) ?_
    refine s0 (rd_move' rfl) ?_
    refine s0 (rd_move' rfl) ?_
    obtain ⟨r30, hr30, hp⟩ := bind_some hp
    refine sx_ox' (ox_callg' (ent_inv' rfl rfl (inv_any2 inv222_Swap)) (kdtree_doorPlane_Swap_sim _ _ _ _ _ _ hr30 : Sx.Fn Try.prog 164 [(Ag [(Vi a0_0), (Rvw (Vs wa0_1) (Kl Kf).size a0_1l a0_1n)]), (Vi x6), (Vi x7)] [(Rw (Kl Kf) 62 (Vs wa0_1) r25.1)] (fun x : Unit => (Vl (.tuple #[]))) (fun x => [(Rw (Kl Kf) 62 (Vs wa0_1) r30)])) [0] [] (by decide) (pick_cons rfl pick_nil) pick_nil (Hn := fun x : Unit => [(Rw (Kl Kf) 62 (Vs wa0_1) r30)]) (fun _ => rfl) rfl rfl) (wt_none' rfl) fun ⟨⟩ => ?_
    refine nk hK19 ?_
    refine cx_region' ?_
    refine s0 (rd_move' rfl) ?_
    refine s0 (rd_bin' rfl rfl eg_int ru_add) ?_
    refine s0 (rd_assign' rfl) ?_
    refine sx_nil' ?_
    show TX E K17 _
    exact tx_pick' [0] (sub_cons rfl (sub_cons rfl (sub_cons rfl (sub_cons rfl sub_nil)))) (by decide) (pick_cons rfl pick_nil) (hK17 (r30, (iadd .i64 x6 1)) hp)
   replace hp := (br_f h6).symm.trans hp
   refine cx_skip' ?_
   show TX E K17 _
   exact tx_pick' [0] (sub_cons rfl (sub_cons rfl (sub_cons rfl (sub_cons rfl sub_nil)))) (by decide) (pick_cons rfl pick_nil) (hK17 (r25.1, x6) hp)
  replace hp := (br_f h5).symm.trans hp
  refine cx_exit' ?_
  replace hp := Option.some.inj hp
  subst hp
  show TX E (Zg E (Exit.exit 0) _ (Exit.exit 0)) _
  exact tx_zend' () rfl [0] (sub_cons rfl (sub_cons rfl (sub_cons rfl sub_nil))) (by decide) (pick_cons rfl pick_nil)
 refine zg_out fun w4 => ?_
 show TX E K8 _
 refine tx_k' hK8 ?_
 refine cr fun K20 hK20 => ?_
 refine s0 (rd_move' rfl) ?_
 refine s0 (rd_move' rfl) ?_
 refine s0 (rd_move' rfl) ?_
 obtain ⟨r36, hr36, hp⟩ := bind_some hp
 refine sx_ox' (ox_callg' (ent_inv' rfl rfl (inv_any2 inv222_Swap)) (kdtree_doorPlane_Swap_sim _ _ _ _ _ _ hr36 : Sx.Fn Try.prog 164 [(Ag [(Vi a0_0), (Rvw (Vs wa0_1) (Kl Kf).size a0_1l a0_1n)]), (Vi (isub .i64 r9.2 1)), (Vi v4.2)] [(Rw (Kl Kf) 62 (Vs wa0_1) v4.1)] (fun x : Unit => (Vl (.tuple #[]))) (fun x => [(Rw (Kl Kf) 62 (Vs wa0_1) r36)])) [0] [] (by decide) (pick_cons rfl pick_nil) pick_nil (Hn := fun x : Unit => [(Rw (Kl Kf) 62 (Vs wa0_1) r36)]) (fun _ => rfl) rfl rfl) (wt_none' rfl) fun ⟨⟩ => ?_
 refine nk hK20 ?_
 refine cr fun K21 hK21 => ?_
 refine s0 (rd_move' rfl) ?_
 refine s0 (rd_assign' rfl) ?_
 refine nk hK21 ?_
 refine cx_retc' ?_
 replace hp := Option.some.inj hp
 subst hp
 refine tx_pick' (L' := [(4, (Vi v4.2))]) (H' := [(Rw (Kl Kf) 62 (Vs wa0_1) r36)]) [0] (sub_cons rfl sub_nil) (by decide) (pick_cons rfl pick_nil) ?_
 exact tx_ret1' Try.results140 rfl () (rv_tmp' rfl) (List.Sublist.refl _)

def kdtree_DoorPoints_Pivot (k : Nat) (a0 : List (List Nat)) (a0l : Nat) (a0n : Nat) (a1 : Int) : Option ((List (List Nat)) × Int) :=
 (iquo .i64 ((a0n : Nat) : Int) 2) >>= fun r11 =>
 (kdtree_Partition k a1 a0 a0l a0n r11) >>= fun r12 =>
 some (r12.1, r12.2)

theorem kdtree_DoorPoints_Pivot_sim {k : Nat} {wa0 : Gs} (a0 : List (List Nat)) (a0l : Nat) (a0n : Nat) (a1 : Int) {out : (List (List Nat)) × Int} (hp : kdtree_DoorPoints_Pivot k a0 a0l a0n a1 = some out) : Sx.Fn Try.prog 138 [(Rvw (Vs wa0) (Kl Kf).size a0l a0n), (Vi a1)] [(Rw (Kl Kf) 62 (Vs wa0) a0)] (fun w : Unit => (Vi out.2)) (fun w => [(Rw (Kl Kf) 62 (Vs wa0) out.1)]) := by
 unfold kdtree_DoorPoints_Pivot at hp
 refine fn_of Try.func138 rfl Try.ntmps138 rfl fun E hM => ?_
 refine cr fun K1 hK1 => ?_
 refine s0 (rd_assign' rfl) ?_
 refine nk hK1 ?_
 refine cr fun K2 hK2 => ?_
 refine s0 (rd_move' rfl) ?_
 refine s0 (rd_move' rfl) ?_
 refine s0 (rd_build' (pls := [(0, 1), (1, 1)]) (qs := [(0, [(Vi a1)]), (1, [(Rvw (Vs wa0) (Kl Kf).size a0l a0n)])]) (r := [(Vi a1), (Rvw (Vs wa0) (Kl Kf).size a0l a0n)]) ⟨rfl, ⟨_, rfl, (lv_vl rfl rfl)⟩, ⟨rfl, ⟨_, rfl, (lv_rv _ _ _ _)⟩, trivial⟩⟩ Try.underlying222 has222 places222 info222 rfl rfl rfl) ?_
 refine s0 (rd_iface' rfl ⟨_, Try.underlying222, fun _ h => (nomatch h)⟩) ?_
 refine s0 (rd_move' rfl) ?_
 refine s0 (rd_vlen' rfl Try.underlying75) ?_
 obtain ⟨r11, hr11, hp⟩ := bind_some hp
 refine s0 (rd_bin' rfl rfl eg_int (ru_quo hr11)) ?_
 obtain ⟨r12, hr12, hp⟩ := bind_some hp
 refine sx_ox' (ox_callg' (ent_fn' Try.func140 isn140 rfl rfl) (kdtree_Partition_sim _ _ _ _ _ hr12 : Sx.Fn Try.prog 140 [(If 222 (Ag [(Vi a1), (Rvw (Vs wa0) (Kl Kf).size a0l a0n)])), (Vi r11)] [(Rw (Kl Kf) 62 (Vs wa0) a0)] (fun x : Unit => (Vi r12.2)) (fun x => [(Rw (Kl Kf) 62 (Vs wa0) r12.1)])) [0] [] (by decide) (pick_cons rfl pick_nil) pick_nil (Hn := fun x : Unit => [(Rw (Kl Kf) 62 (Vs wa0) r12.1)]) (fun _ => rfl) rfl rfl) (wt_none' rfl) fun ⟨⟩ => ?_
 refine s0 (rd_assign' rfl) ?_
 refine nk hK2 ?_
 refine cx_retc' ?_
 replace hp := Option.some.inj hp
 subst hp
 refine tx_pick' (L' := [(4, (Vi r12.2))]) (H' := [(Rw (Kl Kf) 62 (Vs wa0) r12.1)]) [0] (sub_cons rfl sub_nil) (by decide) (pick_cons rfl pick_nil) ?_
 exact tx_ret1' Try.results138 rfl () (rv_tmp' rfl) (List.Sublist.refl _)

def kdtree_DoorPoints_Index (k : Nat) (a0 : List (List Nat)) (a0l : Nat) (a0n : Nat) (a1 : Int) : Option ((List (List Nat)) × (List Nat)) :=
 (idv a0 a0l a0n a1) >>= fun r7 =>
 some (a0, r7)

theorem kdtree_DoorPoints_Index_sim {k : Nat} {wa0 : Gs} (a0 : List (List Nat)) (a0l : Nat) (a0n : Nat) (a1 : Int) {out : (List (List Nat)) × (List Nat)} (hp : kdtree_DoorPoints_Index k a0 a0l a0n a1 = some out) : Sx.Fn Try.prog 136 [(Rvw (Vs wa0) (Kl Kf).size a0l a0n), (Vi a1)] [(Rw (Kl Kf) 62 (Vs wa0) a0)] (fun w : Unit => (If 62 (Sl Kf out.2))) (fun w => [(Rw (Kl Kf) 62 (Vs wa0) out.1)]) := by
 unfold kdtree_DoorPoints_Index at hp
 refine fn_of Try.func136 rfl Try.ntmps136 rfl fun E hM => ?_
 refine cr fun K1 hK1 => ?_
 refine s0 (rd_assign' rfl) ?_
 refine nk hK1 ?_
 refine cr fun K2 hK2 => ?_
 refine s0 (rd_move' rfl) ?_
 refine s0 (rd_move' rfl) ?_
 obtain ⟨r7, hr7, hp⟩ := bind_some hp
 refine s0 (rd_vat' (K := (Kl Kf)) (m := 0) rfl rfl rfl rfl hr7 Try.underlying75 info62) ?_
 refine s0 (rd_loadr' rfl (m := 0) (i := (((a0l : Nat) : Int) + a1)) (j := 0) rfl rfl (idv_some hr7).2 rfl rfl flat62) ?_
 refine s0 (rd_iface' rfl ⟨_, Try.underlying62, fun _ h => (nomatch h)⟩) ?_
 refine s0 (rd_assign' rfl) ?_
 refine nk hK2 ?_
 refine cx_retc' ?_
 replace hp := Option.some.inj hp
 subst hp
 refine tx_pick' (L' := [(4, (If 62 (Sl Kf r7)))]) (H' := [(Rw (Kl Kf) 62 (Vs wa0) a0)]) [0] (sub_cons rfl sub_nil) (by decide) (pick_cons rfl pick_nil) ?_
 exact tx_ret1' Try.results136 rfl () (rv_tmp' rfl) (List.Sublist.refl _)

def kdtree_Point_Dims (k : Nat) (a0 : List Nat) : Option (Int) :=
 some (a0.length : Int)

theorem kdtree_Point_Dims_sim {k : Nat}  (a0 : List Nat) {out : Int} (hp : kdtree_Point_Dims k a0 = some out) : Sx.Fn Try.prog 121 [(Sl Kf a0)] [] (fun w : Unit => (Vi out)) (fun w => []) := by
 unfold kdtree_Point_Dims at hp
 refine fn_of Try.func121 rfl Try.ntmps121 rfl fun E hM => ?_
 refine cr fun K1 hK1 => ?_
 refine s0 (rd_assign' rfl) ?_
 refine nk hK1 ?_
 refine cr fun K2 hK2 => ?_
 refine s0 (rd_move' rfl) ?_
 refine s0 (rd_len' rfl Try.underlying62) ?_
 refine s0 (rd_assign' rfl) ?_
 refine nk hK2 ?_
 refine cx_retc' ?_
 replace hp := Option.some.inj hp
 subst hp
 refine tx_pick' (L' := [(2, (Vi (a0.length : Int)))]) (H' := []) [] (sub_cons rfl sub_nil) (by decide) pick_nil ?_
 exact tx_ret1' Try.results121 rfl () (rv_tmp' rfl) (List.Sublist.refl _)

def math_Min (k : Nat) (a0 : Nat) (a1 : Nat) : Option (Nat) :=
 some (mpick true .lt a0 a1)

theorem math_Min_sim {k : Nat}  (a0 : Nat) (a1 : Nat) {out : Nat} (hp : math_Min k a0 a1 = some out) : Sx.Fn Try.prog 124 [(Vg a0), (Vg a1)] [] (fun w : Unit => (Vg out)) (fun w => []) := by
 unfold math_Min at hp
 refine fn_of Try.func124 rfl Try.ntmps124 rfl fun E hM => ?_
 refine cr fun K1 hK1 => ?_
 refine s0 (rd_assign' rfl) ?_
 refine nk hK1 ?_
 refine cx_seq' fun K2 hK2 => ?_
 refine cx_cond_t' rfl rfl ?_
 refine cr fun K3 hK3 => ?_
 refine s0 (rd_move' rfl) ?_
 refine s0 (rd_move' rfl) ?_
 refine s0 (rd_ext' (us := [.float .f64 a0, .float .f64 a1]) rfl (ext126 ex_pick)) ?_
 refine s0 (rd_assign' rfl) ?_
 refine nk hK3 ?_
 refine cx_retc' ?_
 replace hp := Option.some.inj hp
 subst hp
 refine tx_pick' (L' := [(4, (Vg (mpick true .lt a0 a1)))]) (H' := []) [] (sub_cons rfl sub_nil) (by decide) pick_nil ?_
 exact tx_ret1' Try.results124 rfl () (rv_tmp' rfl) (List.Sublist.refl _)

def math_Max (k : Nat) (a0 : Nat) (a1 : Nat) : Option (Nat) :=
 some (mpick false .gt a0 a1)

theorem math_Max_sim {k : Nat}  (a0 : Nat) (a1 : Nat) {out : Nat} (hp : math_Max k a0 a1 = some out) : Sx.Fn Try.prog 125 [(Vg a0), (Vg a1)] [] (fun w : Unit => (Vg out)) (fun w => []) := by
 unfold math_Max at hp
 refine fn_of Try.func125 rfl Try.ntmps125 rfl fun E hM => ?_
 refine cr fun K1 hK1 => ?_
 refine s0 (rd_assign' rfl) ?_
 refine nk hK1 ?_
 refine cx_seq' fun K2 hK2 => ?_
 refine cx_cond_t' rfl rfl ?_
 refine cr fun K3 hK3 => ?_
 refine s0 (rd_move' rfl) ?_
 refine s0 (rd_move' rfl) ?_
 refine s0 (rd_ext' (us := [.float .f64 a0, .float .f64 a1]) rfl (ext128 ex_pick)) ?_
 refine s0 (rd_assign' rfl) ?_
 refine nk hK3 ?_
 refine cx_retc' ?_
 replace hp := Option.some.inj hp
 subst hp
 refine tx_pick' (L' := [(4, (Vg (mpick false .gt a0 a1)))]) (H' := []) [] (sub_cons rfl sub_nil) (by decide) pick_nil ?_
 exact tx_ret1' Try.results125 rfl () (rv_tmp' rfl) (List.Sublist.refl _)

def kdtree_Point_Extend_l1s (a0 : List Nat) (k : Nat) (rec1 : ((List Nat) × (List Nat) × Int) → Option ((List Nat) × (List Nat))) (x1 : List Nat) (x2 : List Nat) (x3 : Int) : Option ((List Nat) × (List Nat)) :=
 br (decide (x3 < (a0.length : Int)))
  ((idx a0 x3) >>= fun r34 =>
  (idx x1 x3) >>= fun r40 =>
  (math_Min k r40 r34) >>= fun r43 =>
  (idx x1 x3) >>= fun r44 =>
  (idx x2 x3) >>= fun r49 =>
  (math_Max k r49 r34) >>= fun r52 =>
  (idx x2 x3) >>= fun r53 =>
  rec1 ((x1.set x3.toNat r43), (x2.set x3.toNat r52), (iadd .i64 x3 1)))
  (some (x1, x2))
def kdtree_Point_Extend_l1 (a0 : List Nat) : Nat → ((List Nat) × (List Nat) × Int) → Option ((List Nat) × (List Nat))
 | 0, _ => none
 | k + 1, v => kdtree_Point_Extend_l1s a0 k (kdtree_Point_Extend_l1 a0 k) v.1 v.2.1 v.2.2
def kdtree_Point_Extend (k : Nat) (a0 : List Nat) : Option ((List Nat) × (List Nat)) :=
 (apd 8 [] a0) >>= fun r12 =>
 (apd 8 [] a0) >>= fun r15 =>
 (kdtree_Point_Extend_l1 a0 k (r12, r15, 0)) >>= fun v2 =>
 some (v2.1, v2.2)

theorem kdtree_Point_Extend_sim {k : Nat}  (a0 : List Nat) {out : (List Nat) × (List Nat)} (hp : kdtree_Point_Extend k a0 = some out) : Sx.Fn Try.prog 123 [(Sl Kf a0), (Vl (.pointer none))] [] (fun w : Addr × Gs × Gs => (Vp w.1)) (fun w => [⟨.pointer (some w.1), [(If 62 (Vl (Vs w.2.1))), (If 62 (Vl (Vs w.2.2)))], 127, none⟩, (Rw Kf 40 (Vs w.2.1) out.1), (Rw Kf 40 (Vs w.2.2) out.2)]) := by
 unfold kdtree_Point_Extend at hp
 refine fn_of Try.func123 rfl Try.ntmps123 rfl fun E hM => ?_
 refine cr fun K1 hK1 => ?_
 refine s0 (rd_assign' rfl) ?_
 refine nk hK1 ?_
 refine cx_seq' fun K2 hK2 => ?_
 refine cr fun K3 hK3 => ?_
 refine s0 (rd_move' rfl) ?_
 refine s0 (rd_binf' rfl rfl (bf_vl (fun _ => by kernel_rfl) nil_eql118_nilptr)) ?_
 refine nk hK3 ?_
 refine cx_cond_t' rfl rfl ?_
 refine cx_region' ?_
 refine s0 (rd_move' rfl) ?_
 refine tx_nilrow' Kf 40 ?_
 obtain ⟨r12, hr12, hp⟩ := bind_some hp
 refine sx_ox' (ox_append' (K := Kf) (i := 0) (xs := []) (ys := a0) rfl rfl rfl (sr_sl' rfl Try.underlying62) hr12 Try.underlying62 info40 rfl rfl rfl (H' := []) rfl) (wt_none' rfl) fun g12 => ?_
 refine s0 (rd_iface' rfl ⟨_, Try.underlying62, fun _ h => (nomatch h)⟩) ?_
 refine s0 (rd_move' rfl) ?_
 refine tx_nilrow' Kf 40 ?_
 obtain ⟨r15, hr15, hp⟩ := bind_some hp
 refine sx_ox' (ox_append' (K := Kf) (i := 0) (xs := []) (ys := a0) rfl rfl rfl (sr_sl' rfl Try.underlying62) hr15 Try.underlying62 info40 rfl rfl rfl (H' := [(Rw Kf 40 (Vs g12) r12)]) rfl) (wt_none' rfl) fun g15 => ?_
 refine s0 (rd_iface' rfl ⟨_, Try.underlying62, fun _ h => (nomatch h)⟩) ?_
 refine s0 (rd_build' (pls := [(0, 1), (1, 1)]) (qs := [(0, [(If 62 (Vl (Vs g12)))]), (1, [(If 62 (Vl (Vs g15)))])]) (r := [(If 62 (Vl (Vs g12))), (If 62 (Vl (Vs g15)))]) ⟨rfl, ⟨_, rfl, (lv_if _ _)⟩, ⟨rfl, ⟨_, rfl, (lv_if _ _)⟩, trivial⟩⟩ Try.underlying127 has127 places127 info127 rfl rfl rfl) ?_
 refine sx_ox' (ox_box' rfl (lv_ag _) rfl rfl) (wt_none' rfl) fun q18 => ?_
 refine s0 (rd_assign' rfl) ?_
 refine nk hK2 ?_
 refine cr fun K4 hK4 => ?_
 refine s0 (rd_move' rfl) ?_
 refine s0 (rd_nilck' rfl) ?_
 refine s0 (rd_field0' rfl Try.underlying127 rfl info116 rfl) ?_
 refine s0 (rd_load' (i := 0) (o := 0) rfl ⟨rfl, rfl, rfl, rfl⟩ rfl flat116) ?_
 refine s0 (rd_assert' rfl (F := fun v => v) as62_116_62 as_id) ?_
 refine s0 (rd_assign' rfl) ?_
 refine nk hK4 ?_
 refine cr fun K5 hK5 => ?_
 refine s0 (rd_move' rfl) ?_
 refine s0 (rd_nilck' rfl) ?_
 refine s0 (rd_field' (off := 1) rfl Try.underlying127 rfl info116 rfl) ?_
 refine s0 (rd_load' (i := 0) (o := 1) rfl ⟨rfl, rfl, rfl, rfl⟩ rfl flat116) ?_
 refine s0 (rd_assert' rfl (F := fun v => v) as62_116_62 as_id) ?_
 refine s0 (rd_assign' rfl) ?_
 refine nk hK5 ?_
 refine cx_seq' fun K6 hK6 => ?_
 refine cr fun K7 hK7 => ?_
 refine s0 (rd_move' rfl) ?_
 refine s0 (rd_len' rfl Try.underlying62) ?_
 refine s0 (rd_move' rfl) ?_
 refine nk hK7 ?_
 refine cx_block' ?_
 obtain ⟨v2, hy1, hp⟩ := bind_some hp
 refine cx_loopg' (F := kdtree_Point_Extend_l1 a0) (G := fun k R v => kdtree_Point_Extend_l1s a0 k R v.1 v.2.1 v.2.2) (x := (r12, r15, 0)) (gh := ()) (fun (v1 : (List Nat) × (List Nat) × Int) (w1 : Unit) => (⟨63, [], [(1, (Vp q18)), (5, (Vl (Vs g12))), (6, (Vl (Vs g15))), (29, (Sl Kf a0)), (30, (Vi (a0.length : Int))), (31, (Vi v1.2.2))], [⟨.pointer (some q18), [(If 62 (Vl (Vs g12))), (If 62 (Vl (Vs g15)))], 127, none⟩, (Rw Kf 40 (Vs g12) v1.1), (Rw Kf 40 (Vs g15) v1.2.1)]⟩ : St)) (fun (v2 : (List Nat) × (List Nat)) => Zg E (Exit.exit 0) (fun (w2 : Unit) => (⟨63, [], [(1, (Vp q18)), (5, (Vl (Vs g12))), (6, (Vl (Vs g15)))], [⟨.pointer (some q18), [(If 62 (Vl (Vs g12))), (If 62 (Vl (Vs g15)))], 127, none⟩, (Rw Kf 40 (Vs g12) v2.1), (Rw Kf 40 (Vs g15) v2.2)]⟩ : St))) (fun _ => rfl) (fun _ _ => rfl) ?_ hy1 (tx_to' rfl [0, 2, 1] (sub_cons rfl (sub_cons rfl (sub_cons rfl (sub_cons rfl (sub_cons rfl (sub_cons rfl sub_nil)))))) (by decide) (pick_cons rfl (pick_cons rfl (pick_cons rfl pick_nil)))) ?_
 ·clear hp hy1
  clear v2
  intro k rec1 KY1 ih1
  rintro ⟨x1, x2, x3⟩ ⟨⟩ y1 hp
  replace hp : kdtree_Point_Extend_l1s a0 k rec1 x1 x2 x3 = some y1 := hp
  unfold kdtree_Point_Extend_l1s at hp
  refine cr fun K13 hK13 => ?_
  refine s0 (rd_bin' rfl rfl eg_int ru_lss) ?_
  refine nk hK13 ?_
  refine cx_seq' fun K14 hK14 => ?_
  refine cx_cond' rfl (fun h3 => ?_) (fun h3 => ?_)
  ·replace hp := (br_t h3).symm.trans hp
   refine cx_skip' ?_
   show TX E K14 _
   refine tx_k' hK14 ?_
   refine cx_seq' fun K15 hK15 => ?_
   refine cx_block' ?_
   refine cr fun K16 hK16 => ?_
   refine s0 (rd_move' rfl) ?_
   obtain ⟨r34, hr34, hp⟩ := bind_some hp
   refine s0 (rd_at' (K := Kf) rfl rfl hr34 Try.underlying62 info40) ?_
   refine s0 (rd_load_pt' rfl rfl flat40) ?_
   refine s0 (rd_assign' rfl) ?_
   refine s0 (rd_assign' rfl) ?_
   refine nk hK16 ?_
   refine cr fun K17 hK17 => ?_
   refine s0 (rd_move' rfl) ?_
   refine s0 (rd_move' rfl) ?_
   refine s0 (rd_move' rfl) ?_
   refine s0 (rd_move' rfl) ?_
   obtain ⟨r40, hr40, hp⟩ := bind_some hp
   refine s0 (rd_atr' (m := 1) rfl rfl rfl rfl hr40 Try.underlying62 info40) ?_
   refine s0 (rd_loadr' rfl (m := 1) (i := x3) (j := 0) rfl rfl hr40 rfl rfl flat40) ?_
   refine s0 (rd_move' rfl) ?_
   obtain ⟨r43, hr43, hp⟩ := bind_some hp
   refine sx_ox' (ox_calln' (ent_fn' Try.func124 isn124 rfl rfl) (math_Min_sim _ _ hr43 : Sx.Fn Try.prog 124 [(Vg r40), (Vg r34)] [] (fun x : Unit => (Vg r43)) (fun x => [])) (Hn := fun x : Unit => [⟨.pointer (some q18), [(If 62 (Vl (Vs g12))), (If 62 (Vl (Vs g15)))], 127, none⟩, (Rw Kf 40 (Vs g12) x1), (Rw Kf 40 (Vs g15) x2)]) (fun _ => rfl) rfl rfl) (wt_none' rfl) fun ⟨⟩ => ?_
   obtain ⟨r44, hr44, hp⟩ := bind_some hp
   refine s0 (rd_atr' (m := 1) rfl rfl rfl rfl hr44 Try.underlying62 info40) ?_
   refine sx_ox' (ox_storer' (m := 1) (i := x3) (j := 0) (x' := r43) rfl rfl (lv_vl rfl rfl) rfl rfl hr44 rfl rfl rfl info40 rfl (H' := [⟨.pointer (some q18), [(If 62 (Vl (Vs g12))), (If 62 (Vl (Vs g15)))], 127, none⟩, (Rw Kf 40 (Vs g12) (x1.set x3.toNat r43)), (Rw Kf 40 (Vs g15) x2)]) rfl) (wt_none' rfl) fun _ => ?_
   refine nk hK17 ?_
   refine cx_region' ?_
   refine s0 (rd_move' rfl) ?_
   refine s0 (rd_move' rfl) ?_
   refine s0 (rd_move' rfl) ?_
   refine s0 (rd_move' rfl) ?_
   obtain ⟨r49, hr49, hp⟩ := bind_some hp
   refine s0 (rd_atr' (m := 2) rfl rfl rfl rfl hr49 Try.underlying62 info40) ?_
   refine s0 (rd_loadr' rfl (m := 2) (i := x3) (j := 0) rfl rfl hr49 rfl rfl flat40) ?_
   refine s0 (rd_move' rfl) ?_
   obtain ⟨r52, hr52, hp⟩ := bind_some hp
   refine sx_ox' (ox_calln' (ent_fn' Try.func125 isn125 rfl rfl) (math_Max_sim _ _ hr52 : Sx.Fn Try.prog 125 [(Vg r49), (Vg r34)] [] (fun x : Unit => (Vg r52)) (fun x => [])) (Hn := fun x : Unit => [⟨.pointer (some q18), [(If 62 (Vl (Vs g12))), (If 62 (Vl (Vs g15)))], 127, none⟩, (Rw Kf 40 (Vs g12) (x1.set x3.toNat r43)), (Rw Kf 40 (Vs g15) x2)]) (fun _ => rfl) rfl rfl) (wt_none' rfl) fun ⟨⟩ => ?_
   obtain ⟨r53, hr53, hp⟩ := bind_some hp
   refine s0 (rd_atr' (m := 2) rfl rfl rfl rfl hr53 Try.underlying62 info40) ?_
   refine sx_ox' (ox_storer' (m := 2) (i := x3) (j := 0) (x' := r52) rfl rfl (lv_vl rfl rfl) rfl rfl hr53 rfl rfl rfl info40 rfl (H' := [⟨.pointer (some q18), [(If 62 (Vl (Vs g12))), (If 62 (Vl (Vs g15)))], 127, none⟩, (Rw Kf 40 (Vs g12) (x1.set x3.toNat r43)), (Rw Kf 40 (Vs g15) (x2.set x3.toNat r52))]) rfl) (wt_none' rfl) fun _ => ?_
   refine nk hK15 ?_
   refine cx_region' ?_
   refine s0 (rd_bin' rfl rfl eg_int ru_add) ?_
   refine s0 (rd_move' rfl) ?_
   refine sx_nil' ?_
   show TX E (KY1 _) _
   exact tx_pick' [0, 1, 2] (sub_cons rfl (sub_cons rfl (sub_cons rfl (sub_cons rfl (sub_cons rfl (sub_cons rfl sub_nil)))))) (by decide) (pick_cons rfl (pick_cons rfl (pick_cons rfl pick_nil))) (ih1 ((x1.set x3.toNat r43), (x2.set x3.toNat r52), (iadd .i64 x3 1)) () _ hp)
  replace hp := (br_f h3).symm.trans hp
  refine cx_exit' ?_
  replace hp := Option.some.inj hp
  subst hp
  show TX E (Zg E (Exit.exit 0) _ (Exit.exit 0)) _
  exact tx_zend' () rfl [0, 1, 2] (sub_cons rfl (sub_cons rfl (sub_cons rfl sub_nil))) (by decide) (pick_cons rfl (pick_cons rfl (pick_cons rfl pick_nil)))
 refine zg_out fun w2 => ?_
 show TX E K6 _
 refine tx_k' hK6 ?_
 refine cr fun K18 hK18 => ?_
 refine s0 (rd_move' rfl) ?_
 refine s0 (rd_move' rfl) ?_
 refine s0 (rd_iface' rfl ⟨_, Try.underlying62, fun _ h => (nomatch h)⟩) ?_
 refine s0 (rd_move' rfl) ?_
 refine s0 (rd_iface' rfl ⟨_, Try.underlying62, fun _ h => (nomatch h)⟩) ?_
 refine s0 (rd_build' (pls := [(0, 1), (1, 1)]) (qs := [(0, [(If 62 (Vl (Vs g12)))]), (1, [(If 62 (Vl (Vs g15)))])]) (r := [(If 62 (Vl (Vs g12))), (If 62 (Vl (Vs g15)))]) ⟨rfl, ⟨_, rfl, (lv_if _ _)⟩, ⟨rfl, ⟨_, rfl, (lv_if _ _)⟩, trivial⟩⟩ Try.underlying127 has127 places127 info127 rfl rfl rfl) ?_
 refine s0 (rd_nilck' rfl) ?_
 refine sx_ox' (ox_store' (i := 0) (o := 0) rfl rfl (lv_ag _) ⟨rfl, rfl, rfl, rfl⟩ rfl info127 rfl (H' := [⟨.pointer (some q18), [(If 62 (Vl (Vs g12))), (If 62 (Vl (Vs g15)))], 127, none⟩, (Rw Kf 40 (Vs g12) v2.1), (Rw Kf 40 (Vs g15) v2.2)]) rfl) (wt_none' rfl) fun _ => ?_
 refine nk hK18 ?_
 refine cr fun K19 hK19 => ?_
 refine s0 (rd_move' rfl) ?_
 refine s0 (rd_assign' rfl) ?_
 refine nk hK19 ?_
 refine cx_retc' ?_
 replace hp := Option.some.inj hp
 subst hp
 refine tx_pick' (L' := [(4, (Vp q18))]) (H' := [⟨.pointer (some q18), [(If 62 (Vl (Vs g12))), (If 62 (Vl (Vs g15)))], 127, none⟩, (Rw Kf 40 (Vs g12) v2.1), (Rw Kf 40 (Vs g15) v2.2)]) [0, 1, 2] (sub_cons rfl sub_nil) (by decide) (pick_cons rfl (pick_cons rfl (pick_cons rfl pick_nil))) ?_
 exact tx_ret1' Try.results123 rfl (q18, g12, g15) (rv_tmp' rfl) (List.Sublist.refl _)

def kdtree_Point_Extend_v2_l1s (a0 : List Nat) (k : Nat) (rec1 : ((List Nat) × (List Nat) × Int) → Option ((List Nat) × (List Nat))) (x1 : List Nat) (x2 : List Nat) (x3 : Int) : Option ((List Nat) × (List Nat)) :=
 br (decide (x3 < (a0.length : Int)))
  ((idx a0 x3) >>= fun r34 =>
  (idx x1 x3) >>= fun r40 =>
  (math_Min k r40 r34) >>= fun r43 =>
  (idx x1 x3) >>= fun r44 =>
  (idx x2 x3) >>= fun r49 =>
  (math_Max k r49 r34) >>= fun r52 =>
  (idx x2 x3) >>= fun r53 =>
  rec1 ((x1.set x3.toNat r43), (x2.set x3.toNat r52), (iadd .i64 x3 1)))
  (some (x1, x2))
def kdtree_Point_Extend_v2_l1 (a0 : List Nat) : Nat → ((List Nat) × (List Nat) × Int) → Option ((List Nat) × (List Nat))
 | 0, _ => none
 | k + 1, v => kdtree_Point_Extend_v2_l1s a0 k (kdtree_Point_Extend_v2_l1 a0 k) v.1 v.2.1 v.2.2
def kdtree_Point_Extend_v2 (k : Nat) (a0 : List Nat) (a1_0 : List Nat) (a1_1 : List Nat) : Option ((List Nat) × (List Nat)) :=
 (kdtree_Point_Extend_v2_l1 a0 k (a1_0, a1_1, 0)) >>= fun v2 =>
 some (v2.1, v2.2)

theorem kdtree_Point_Extend_v2_sim {k : Nat} {wa1 : Addr} {wa1_0 : Gs} {wa1_1 : Gs} (a0 : List Nat) (a1_0 : List Nat) (a1_1 : List Nat) {out : (List Nat) × (List Nat)} (hp : kdtree_Point_Extend_v2 k a0 a1_0 a1_1 = some out) : Sx.Fn Try.prog 123 [(Sl Kf a0), (Vp wa1)] [⟨.pointer (some wa1), [(If 62 (Vl (Vs wa1_0))), (If 62 (Vl (Vs wa1_1)))], 127, none⟩, (Rw Kf 40 (Vs wa1_0) a1_0), (Rw Kf 40 (Vs wa1_1) a1_1)] (fun w : Unit => (Vp wa1)) (fun w => [⟨.pointer (some wa1), [(If 62 (Vl (Vs wa1_0))), (If 62 (Vl (Vs wa1_1)))], 127, none⟩, (Rw Kf 40 (Vs wa1_0) out.1), (Rw Kf 40 (Vs wa1_1) out.2)]) := by
 unfold kdtree_Point_Extend_v2 at hp
 refine fn_of Try.func123 rfl Try.ntmps123 rfl fun E hM => ?_
 refine cr fun K1 hK1 => ?_
 refine s0 (rd_assign' rfl) ?_
 refine nk hK1 ?_
 refine cx_seq' fun K2 hK2 => ?_
 refine cr fun K3 hK3 => ?_
 refine s0 (rd_move' rfl) ?_
 refine s0 (rd_binf' rfl rfl (bf_vl (fun _ => by kernel_rfl) (nil_eql118_ptr _))) ?_
 refine nk hK3 ?_
 refine cx_cond_f' rfl rfl ?_
 refine cx_skip' ?_
 show TX E K2 _
 refine tx_k' hK2 ?_
 refine cr fun K4 hK4 => ?_
 refine s0 (rd_move' rfl) ?_
 refine s0 (rd_nilck' rfl) ?_
 refine s0 (rd_field0' rfl Try.underlying127 rfl info116 rfl) ?_
 refine s0 (rd_load' (i := 0) (o := 0) rfl ⟨rfl, rfl, rfl, rfl⟩ rfl flat116) ?_
 refine s0 (rd_assert' rfl (F := fun v => v) as62_116_62 as_id) ?_
 refine s0 (rd_assign' rfl) ?_
 refine nk hK4 ?_
 refine cr fun K5 hK5 => ?_
 refine s0 (rd_move' rfl) ?_
 refine s0 (rd_nilck' rfl) ?_
 refine s0 (rd_field' (off := 1) rfl Try.underlying127 rfl info116 rfl) ?_
 refine s0 (rd_load' (i := 0) (o := 1) rfl ⟨rfl, rfl, rfl, rfl⟩ rfl flat116) ?_
 refine s0 (rd_assert' rfl (F := fun v => v) as62_116_62 as_id) ?_
 refine s0 (rd_assign' rfl) ?_
 refine nk hK5 ?_
 refine cx_seq' fun K6 hK6 => ?_
 refine cr fun K7 hK7 => ?_
 refine s0 (rd_move' rfl) ?_
 refine s0 (rd_len' rfl Try.underlying62) ?_
 refine s0 (rd_move' rfl) ?_
 refine nk hK7 ?_
 refine cx_block' ?_
 obtain ⟨v2, hy1, hp⟩ := bind_some hp
 refine cx_loopg' (F := kdtree_Point_Extend_v2_l1 a0) (G := fun k R v => kdtree_Point_Extend_v2_l1s a0 k R v.1 v.2.1 v.2.2) (x := (a1_0, a1_1, 0)) (gh := ()) (fun (v1 : (List Nat) × (List Nat) × Int) (w1 : Unit) => (⟨63, [], [(1, (Vp wa1)), (5, (Vl (Vs wa1_0))), (6, (Vl (Vs wa1_1))), (29, (Sl Kf a0)), (30, (Vi (a0.length : Int))), (31, (Vi v1.2.2))], [⟨.pointer (some wa1), [(If 62 (Vl (Vs wa1_0))), (If 62 (Vl (Vs wa1_1)))], 127, none⟩, (Rw Kf 40 (Vs wa1_0) v1.1), (Rw Kf 40 (Vs wa1_1) v1.2.1)]⟩ : St)) (fun (v2 : (List Nat) × (List Nat)) => Zg E (Exit.exit 0) (fun (w2 : Unit) => (⟨63, [], [(1, (Vp wa1)), (5, (Vl (Vs wa1_0))), (6, (Vl (Vs wa1_1)))], [⟨.pointer (some wa1), [(If 62 (Vl (Vs wa1_0))), (If 62 (Vl (Vs wa1_1)))], 127, none⟩, (Rw Kf 40 (Vs wa1_0) v2.1), (Rw Kf 40 (Vs wa1_1) v2.2)]⟩ : St))) (fun _ => rfl) (fun _ _ => rfl) ?_ hy1 (tx_to' rfl [0, 1, 2] (sub_cons rfl (sub_cons rfl (sub_cons rfl (sub_cons rfl (sub_cons rfl (sub_cons rfl sub_nil)))))) (by decide) (pick_cons rfl (pick_cons rfl (pick_cons rfl pick_nil)))) ?_
 ·clear hp hy1
  clear v2
  intro k rec1 KY1 ih1
  rintro ⟨x1, x2, x3⟩ ⟨⟩ y1 hp
  replace hp : kdtree_Point_Extend_v2_l1s a0 k rec1 x1 x2 x3 = some y1 := hp
  unfold kdtree_Point_Extend_v2_l1s at hp
  refine cr fun K13 hK13 => ?_
  refine s0 (rd_bin' rfl rfl eg_int ru_lss) ?_
  refine nk hK13 ?_
  refine cx_seq' fun K14 hK14 => ?_
  refine cx_cond' rfl (fun h3 => ?_) (fun h3 => ?_)
  ·replace hp := (br_t h3).symm.trans hp
   refine cx_skip' ?_
   show TX E K14 _
   refine tx_k' hK14 ?_
   refine cx_seq' fun K15 hK15 => ?_
   refine cx_block' ?_
   refine cr fun K16 hK16 => ?_
   refine s0 (rd_move' rfl) ?_
   obtain ⟨r34, hr34, hp⟩ := bind_some hp
   refine s0 (rd_at' (K := Kf) rfl rfl hr34 Try.underlying62 info40) ?_
   refine s0 (rd_load_pt' rfl rfl flat40) ?_
   refine s0 (rd_assign' rfl) ?_
   refine s0 (rd_assign' rfl) ?_
   refine nk hK16 ?_
   refine cr fun K17 hK17 => ?_
   refine s0 (rd_move' rfl) ?_
   refine s0 (rd_move' rfl) ?_
   refine s0 (rd_move' rfl) ?_
   refine s0 (rd_move' rfl) ?_
   obtain ⟨r40, hr40, hp⟩ := bind_some hp
   refine s0 (rd_atr' (m := 1) rfl rfl rfl rfl hr40 Try.underlying62 info40) ?_
   refine s0 (rd_loadr' rfl (m := 1) (i := x3) (j := 0) rfl rfl hr40 rfl rfl flat40) ?_
   refine s0 (rd_move' rfl) ?_
   obtain ⟨r43, hr43, hp⟩ := bind_some hp
   refine sx_ox' (ox_calln' (ent_fn' Try.func124 isn124 rfl rfl) (math_Min_sim _ _ hr43 : Sx.Fn Try.prog 124 [(Vg r40), (Vg r34)] [] (fun x : Unit => (Vg r43)) (fun x => [])) (Hn := fun x : Unit => [⟨.pointer (some wa1), [(If 62 (Vl (Vs wa1_0))), (If 62 (Vl (Vs wa1_1)))], 127, none⟩, (Rw Kf 40 (Vs wa1_0) x1), (Rw Kf 40 (Vs wa1_1) x2)]) (fun _ => rfl) rfl rfl) (wt_none' rfl) fun ⟨⟩ => ?_
   obtain ⟨r44, hr44, hp⟩ := bind_some hp
   refine s0 (rd_atr' (m := 1) rfl rfl rfl rfl hr44 Try.underlying62 info40) ?_
   refine sx_ox' (ox_storer' (m := 1) (i := x3) (j := 0) (x' := r43) rfl rfl (lv_vl rfl rfl) rfl rfl hr44 rfl rfl rfl info40 rfl (H' := [⟨.pointer (some wa1), [(If 62 (Vl (Vs wa1_0))), (If 62 (Vl (Vs wa1_1)))], 127, none⟩, (Rw Kf 40 (Vs wa1_0) (x1.set x3.toNat r43)), (Rw Kf 40 (Vs wa1_1) x2)]) rfl) (wt_none' rfl) fun _ => ?_
   refine nk hK17 ?_
   refine cx_region' ?_
   refine s0 (rd_move' rfl) ?_
   refine s0 (rd_move' rfl) ?_
   refine s0 (rd_move' rfl) ?_
   refine s0 (rd_move' rfl) ?_
   obtain ⟨r49, hr49, hp⟩ := bind_some hp
   refine s0 (rd_atr' (m := 2) rfl rfl rfl rfl hr49 Try.underlying62 info40) ?_
   refine s0 (rd_loadr' rfl (m := 2) (i := x3) (j := 0) rfl rfl hr49 rfl rfl flat40) ?_
   refine s0 (rd_move' rfl) ?_
   obtain ⟨r52, hr52, hp⟩ := bind_some hp
   refine sx_ox' (ox_calln' (ent_fn' Try.func125 isn125 rfl rfl) (math_Max_sim _ _ hr52 : Sx.Fn Try.prog 125 [(Vg r49), (Vg r34)] [] (fun x : Unit => (Vg r52)) (fun x => [])) (Hn := fun x : Unit => [⟨.pointer (some wa1), [(If 62 (Vl (Vs wa1_0))), (If 62 (Vl (Vs wa1_1)))], 127, none⟩, (Rw Kf 40 (Vs wa1_0) (x1.set x3.toNat r43)), (Rw Kf 40 (Vs wa1_1) x2)]) (fun _ => rfl) rfl rfl) (wt_none' rfl) fun ⟨⟩ => ?_
   obtain ⟨r53, hr53, hp⟩ := bind_some hp
   refine s0 (rd_atr' (m := 2) rfl rfl rfl rfl hr53 Try.underlying62 info40) ?_
   refine sx_ox' (ox_storer' (m := 2) (i := x3) (j := 0) (x' := r52) rfl rfl (lv_vl rfl rfl) rfl rfl hr53 rfl rfl rfl info40 rfl (H' := [⟨.pointer (some wa1), [(If 62 (Vl (Vs wa1_0))), (If 62 (Vl (Vs wa1_1)))], 127, none⟩, (Rw Kf 40 (Vs wa1_0) (x1.set x3.toNat r43)), (Rw Kf 40 (Vs wa1_1) (x2.set x3.toNat r52))]) rfl) (wt_none' rfl) fun _ => ?_
   refine nk hK15 ?_
   refine cx_region' ?_
   refine s0 (rd_bin' rfl rfl eg_int ru_add) ?_
   refine s0 (rd_move' rfl) ?_
   refine sx_nil' ?_
   show TX E (KY1 _) _
   exact tx_pick' [0, 1, 2] (sub_cons rfl (sub_cons rfl (sub_cons rfl (sub_cons rfl (sub_cons rfl (sub_cons rfl sub_nil)))))) (by decide) (pick_cons rfl (pick_cons rfl (pick_cons rfl pick_nil))) (ih1 ((x1.set x3.toNat r43), (x2.set x3.toNat r52), (iadd .i64 x3 1)) () _ hp)
  replace hp := (br_f h3).symm.trans hp
  refine cx_exit' ?_
  replace hp := Option.some.inj hp
  subst hp
  show TX E (Zg E (Exit.exit 0) _ (Exit.exit 0)) _
  exact tx_zend' () rfl [0, 1, 2] (sub_cons rfl (sub_cons rfl (sub_cons rfl sub_nil))) (by decide) (pick_cons rfl (pick_cons rfl (pick_cons rfl pick_nil)))
 refine zg_out fun w2 => ?_
 show TX E K6 _
 refine tx_k' hK6 ?_
 refine cr fun K18 hK18 => ?_
 refine s0 (rd_move' rfl) ?_
 refine s0 (rd_move' rfl) ?_
 refine s0 (rd_iface' rfl ⟨_, Try.underlying62, fun _ h => (nomatch h)⟩) ?_
 refine s0 (rd_move' rfl) ?_
 refine s0 (rd_iface' rfl ⟨_, Try.underlying62, fun _ h => (nomatch h)⟩) ?_
 refine s0 (rd_build' (pls := [(0, 1), (1, 1)]) (qs := [(0, [(If 62 (Vl (Vs wa1_0)))]), (1, [(If 62 (Vl (Vs wa1_1)))])]) (r := [(If 62 (Vl (Vs wa1_0))), (If 62 (Vl (Vs wa1_1)))]) ⟨rfl, ⟨_, rfl, (lv_if _ _)⟩, ⟨rfl, ⟨_, rfl, (lv_if _ _)⟩, trivial⟩⟩ Try.underlying127 has127 places127 info127 rfl rfl rfl) ?_
 refine s0 (rd_nilck' rfl) ?_
 refine sx_ox' (ox_store' (i := 0) (o := 0) rfl rfl (lv_ag _) ⟨rfl, rfl, rfl, rfl⟩ rfl info127 rfl (H' := [⟨.pointer (some wa1), [(If 62 (Vl (Vs wa1_0))), (If 62 (Vl (Vs wa1_1)))], 127, none⟩, (Rw Kf 40 (Vs wa1_0) v2.1), (Rw Kf 40 (Vs wa1_1) v2.2)]) rfl) (wt_none' rfl) fun _ => ?_
 refine nk hK18 ?_
 refine cr fun K19 hK19 => ?_
 refine s0 (rd_move' rfl) ?_
 refine s0 (rd_assign' rfl) ?_
 refine nk hK19 ?_
 refine cx_retc' ?_
 replace hp := Option.some.inj hp
 subst hp
 refine tx_pick' (L' := [(4, (Vp wa1))]) (H' := [⟨.pointer (some wa1), [(If 62 (Vl (Vs wa1_0))), (If 62 (Vl (Vs wa1_1)))], 127, none⟩, (Rw Kf 40 (Vs wa1_0) v2.1), (Rw Kf 40 (Vs wa1_1) v2.2)]) [0, 1, 2] (sub_cons rfl sub_nil) (by decide) (pick_cons rfl (pick_cons rfl (pick_cons rfl pick_nil))) ?_
 exact tx_ret1' Try.results123 rfl () (rv_tmp' rfl) (List.Sublist.refl _)

def kdtree_DoorPoints_Bounds_l1s (a0n : Nat) (a0 : List (List Nat)) (a0l : Nat) (k : Nat) (rec1 : ((List Nat) × (List Nat) × Int) → Option ((List Nat) × (List Nat))) (x1 : List Nat) (x2 : List Nat) (x3 : Int) : Option ((List Nat) × (List Nat)) :=
 br (decide (x3 < ((a0n : Nat) : Int)))
  ((idv a0 a0l a0n x3) >>= fun r903 =>
  (kdtree_Point_Extend_v2 k r903 x1 x2) >>= fun r904 =>
  rec1 (r904.1, r904.2, (iadd .i64 x3 1)))
  (some (x1, x2))
def kdtree_DoorPoints_Bounds_l1 (a0n : Nat) (a0 : List (List Nat)) (a0l : Nat) : Nat → ((List Nat) × (List Nat) × Int) → Option ((List Nat) × (List Nat))
 | 0, _ => none
 | k + 1, v => kdtree_DoorPoints_Bounds_l1s a0n a0 a0l k (kdtree_DoorPoints_Bounds_l1 a0n a0 a0l k) v.1 v.2.1 v.2.2
def kdtree_DoorPoints_Bounds (k : Nat) (a0 : List (List Nat)) (a0l : Nat) (a0n : Nat) : Option ((List (List Nat)) × G118) :=
 br (decide (0 < ((a0n : Nat) : Int)))
  ((idv a0 a0l a0n 0) >>= fun r901 =>
  (kdtree_Point_Extend k r901) >>= fun r902 =>
  (kdtree_DoorPoints_Bounds_l1 a0n a0 a0l k (r902.1, r902.2, 1)) >>= fun v2 =>
  some (a0, (G118.c1 (G116.c0 v2.1) (G116.c0 v2.2))))
  (some (a0, G118.c0))

theorem kdtree_DoorPoints_Bounds_sim {k : Nat} {wa0 : Gs} (a0 : List (List Nat)) (a0l : Nat) (a0n : Nat) {out : (List (List Nat)) × G118} (hp : kdtree_DoorPoints_Bounds k a0 a0l a0n = some out) : Sx.Fn Try.prog 135 [(Rvw (Vs wa0) (Kl Kf).size a0l a0n)] [(Rw (Kl Kf) 62 (Vs wa0) a0)] (fun w : Unit => (SG118 out.2)) (fun w => [(Rw (Kl Kf) 62 (Vs wa0) out.1)]) := by
 unfold kdtree_DoorPoints_Bounds at hp
 refine fn_of Try.func135 rfl Try.ntmps135 rfl fun E hM => ?_
 refine cr fun K1 hK1 => ?_
 refine s0 (rd_assign' rfl) ?_
 refine nk hK1 ?_
 refine cr fun K2 hK2 => ?_
 refine s0 (rd_assign' rfl) ?_
 refine nk hK2 ?_
 refine cx_seq' fun K3 hK3 => ?_
 refine cr fun K4 hK4 => ?_
 refine s0 (rd_move' rfl) ?_
 refine s0 (rd_vlen' rfl Try.underlying75) ?_
 refine s0 (rd_move' rfl) ?_
 refine nk hK4 ?_
 refine cx_block' ?_
 refine tx_loop' ?_
 refine tx_round' ?_
 refine cr fun K5 hK5 => ?_
 refine s0 (rd_bin' rfl rfl eg_int ru_lss) ?_
 refine nk hK5 ?_
 refine cx_seq' fun K6 hK6 => ?_
 refine cx_cond' rfl (fun h1 => ?_) (fun h1 => ?_)
 ·replace hp := (br_t h1).symm.trans hp
  refine cx_skip' ?_
  show TX E K6 _
  refine tx_k' hK6 ?_
  refine cx_seq' fun K7 hK7 => ?_
  refine cx_block' ?_
  refine cr fun K8 hK8 => ?_
  obtain ⟨r901, hr901, hp⟩ := bind_some hp
  refine s0 (rd_vat' (K := (Kl Kf)) (m := 0) rfl rfl rfl rfl hr901 Try.underlying75 info62) ?_
  refine s0 (rd_loadr' rfl (m := 0) (i := (((a0l : Nat) : Int) + (0 : Int))) (j := 0) rfl rfl (idv_some hr901).2 rfl rfl flat62) ?_
  refine s0 (rd_assign' rfl) ?_
  refine nk hK8 ?_
  refine cx_region' ?_
  refine s0 (rd_move' rfl) ?_
  refine s0 (rd_move' rfl) ?_
  obtain ⟨r902, hr902, hp⟩ := bind_some hp
  refine sx_ox' (ox_calln' (ent_fn' Try.func123 isn123 rfl rfl) (kdtree_Point_Extend_sim _ hr902 : Sx.Fn Try.prog 123 [(Sl Kf r901), (Vl (.pointer none))] [] (fun x : Addr × Gs × Gs => (Vp x.1)) (fun x => [⟨.pointer (some x.1), [(If 62 (Vl (Vs x.2.1))), (If 62 (Vl (Vs x.2.2)))], 127, none⟩, (Rw Kf 40 (Vs x.2.1) r902.1), (Rw Kf 40 (Vs x.2.2) r902.2)])) (Hn := fun x : Addr × Gs × Gs => [⟨.pointer (some x.1), [(If 62 (Vl (Vs x.2.1))), (If 62 (Vl (Vs x.2.2)))], 127, none⟩, (Rw Kf 40 (Vs x.2.1) r902.1), (Rw Kf 40 (Vs x.2.2) r902.2), (Rw (Kl Kf) 62 (Vs wa0) a0)]) (fun _ => rfl) rfl rfl) (wt_none' rfl) fun ⟨q81, g81, gz1⟩ => ?_
  refine s0 (rd_assign' rfl) ?_
  refine nk hK7 ?_
  refine cx_region' ?_
  refine s0 (rd_bin' rfl rfl eg_int (ru_addc (c := 1) (by decide))) ?_
  refine s0 (rd_move' rfl) ?_
  refine sx_nil' ?_
  show TX E (LoopIn _ _ _) _
  obtain ⟨v2, hy1, hp⟩ := bind_some hp
  refine tx_loopg' (F := kdtree_DoorPoints_Bounds_l1 a0n a0 a0l) (G := fun k R v => kdtree_DoorPoints_Bounds_l1s a0n a0 a0l k R v.1 v.2.1 v.2.2) (x := (r902.1, r902.2, 1)) (gh := ()) (fun (v1 : (List Nat) × (List Nat) × Int) (w1 : Unit) => (⟨17, [], [(3, (Vp q81)), (6, (Rvw (Vs wa0) (Kl Kf).size a0l a0n)), (7, (Vi ((a0n : Nat) : Int))), (8, (Vi v1.2.2))], [⟨.pointer (some q81), [(If 62 (Vl (Vs g81))), (If 62 (Vl (Vs gz1)))], 127, none⟩, (Rw Kf 40 (Vs g81) v1.1), (Rw Kf 40 (Vs gz1) v1.2.1), (Rw (Kl Kf) 62 (Vs wa0) a0)]⟩ : St)) (fun (v2 : (List Nat) × (List Nat)) => Zg E (Exit.exit 0) (fun (w2 : Unit) => (⟨17, [], [(3, (Vp q81))], [⟨.pointer (some q81), [(If 62 (Vl (Vs g81))), (If 62 (Vl (Vs gz1)))], 127, none⟩, (Rw Kf 40 (Vs g81) v2.1), (Rw Kf 40 (Vs gz1) v2.2), (Rw (Kl Kf) 62 (Vs wa0) a0)]⟩ : St))) (fun _ => rfl) (fun _ _ => rfl) ?_ hy1 (tx_to' rfl [0, 1, 2, 3] (sub_cons rfl (sub_cons rfl (sub_cons rfl (sub_cons rfl sub_nil)))) (by decide) (pick_cons rfl (pick_cons rfl (pick_cons rfl (pick_cons rfl pick_nil))))) ?_
  ·clear hp hy1
   clear v2
   intro k rec1 KY1 ih1
   rintro ⟨x1, x2, x3⟩ ⟨⟩ y4 hp
   replace hp : kdtree_DoorPoints_Bounds_l1s a0n a0 a0l k rec1 x1 x2 x3 = some y4 := hp
   unfold kdtree_DoorPoints_Bounds_l1s at hp
   refine cr fun K9 hK9 => ?_
   refine s0 (rd_bin' rfl rfl eg_int ru_lss) ?_
   refine nk hK9 ?_
   refine cx_seq' fun K10 hK10 => ?_
   refine cx_cond' rfl (fun h3 => ?_) (fun h3 => ?_)
   ·replace hp := (br_t h3).symm.trans hp
    refine cx_skip' ?_
    show TX E K10 _
    refine tx_k' hK10 ?_
    refine cx_seq' fun K11 hK11 => ?_
    refine cx_block' ?_
    refine cr fun K12 hK12 => ?_
    obtain ⟨r903, hr903, hp⟩ := bind_some hp
    refine s0 (rd_vat' (K := (Kl Kf)) (m := 3) rfl rfl rfl rfl hr903 Try.underlying75 info62) ?_
    refine s0 (rd_loadr' rfl (m := 3) (i := (((a0l : Nat) : Int) + x3)) (j := 0) rfl rfl (idv_some hr903).2 rfl rfl flat62) ?_
    refine s0 (rd_assign' rfl) ?_
    refine nk hK12 ?_
    refine cx_region' ?_
    refine s0 (rd_move' rfl) ?_
    refine s0 (rd_move' rfl) ?_
    obtain ⟨r904, hr904, hp⟩ := bind_some hp
    refine sx_ox' (ox_callg' (ent_fn' Try.func123 isn123 rfl rfl) (kdtree_Point_Extend_v2_sim _ _ _ hr904 : Sx.Fn Try.prog 123 [(Sl Kf r903), (Vp q81)] [⟨.pointer (some q81), [(If 62 (Vl (Vs g81))), (If 62 (Vl (Vs gz1)))], 127, none⟩, (Rw Kf 40 (Vs g81) x1), (Rw Kf 40 (Vs gz1) x2)] (fun x : Unit => (Vp q81)) (fun x => [⟨.pointer (some q81), [(If 62 (Vl (Vs g81))), (If 62 (Vl (Vs gz1)))], 127, none⟩, (Rw Kf 40 (Vs g81) r904.1), (Rw Kf 40 (Vs gz1) r904.2)])) [0, 1, 2] [3] (by decide) (pick_cons rfl (pick_cons rfl (pick_cons rfl pick_nil))) (pick_cons rfl pick_nil) (Hn := fun x : Unit => [⟨.pointer (some q81), [(If 62 (Vl (Vs g81))), (If 62 (Vl (Vs gz1)))], 127, none⟩, (Rw Kf 40 (Vs g81) r904.1), (Rw Kf 40 (Vs gz1) r904.2), (Rw (Kl Kf) 62 (Vs wa0) a0)]) (fun _ => rfl) rfl rfl) (wt_none' rfl) fun ⟨⟩ => ?_
    refine s0 (rd_assign' rfl) ?_
    refine nk hK11 ?_
    refine cx_region' ?_
    refine s0 (rd_bin' rfl rfl eg_int ru_add) ?_
    refine s0 (rd_move' rfl) ?_
    refine sx_nil' ?_
    show TX E (KY1 _) _
    exact tx_pick' [0, 1, 2, 3] (sub_cons rfl (sub_cons rfl (sub_cons rfl (sub_cons rfl sub_nil)))) (by decide) (pick_cons rfl (pick_cons rfl (pick_cons rfl (pick_cons rfl pick_nil)))) (ih1 (r904.1, r904.2, (iadd .i64 x3 1)) () _ hp)
   replace hp := (br_f h3).symm.trans hp
   refine cx_exit' ?_
   replace hp := Option.some.inj hp
   subst hp
   show TX E (Zg E (Exit.exit 0) _ (Exit.exit 0)) _
   exact tx_zend' () rfl [0, 1, 2, 3] (sub_cons rfl sub_nil) (by decide) (pick_cons rfl (pick_cons rfl (pick_cons rfl (pick_cons rfl pick_nil))))
  refine zg_out fun w2 => ?_
  show TX E K3 _
  refine tx_k' hK3 ?_
  refine cr fun K13 hK13 => ?_
  refine s0 (rd_move' rfl) ?_
  refine s0 (rd_assign' rfl) ?_
  refine nk hK13 ?_
  refine cx_retc' ?_
  replace hp := Option.some.inj hp
  subst hp
  refine tx_fz' (frz_row 1 [] (K := Kf) (xs := v2.1) (by decide) rfl trivial (H' := [⟨.pointer (some q81), [(If 62 (Sl Kf v2.1)), (If 62 (Vl (Vs gz1)))], 127, none⟩, (Rw Kf 40 (Vs gz1) v2.2), (Rw (Kl Kf) 62 (Vs wa0) a0)]) (frzH_cons rfl rfl rfl (frzL_cons frz_if (frzL_cons frz_same frzL_refl)) (frzH_cons rfl rfl rfl frzL_refl (frzH_cons rfl rfl rfl frzL_refl frzH_refl)))) ?_
  refine tx_fz' (frz_row 1 [] (K := Kf) (xs := v2.2) (by decide) rfl trivial (H' := [⟨.pointer (some q81), [(If 62 (Sl Kf v2.1)), (If 62 (Sl Kf v2.2))], 127, none⟩, (Rw (Kl Kf) 62 (Vs wa0) a0)]) (frzH_cons rfl rfl rfl (frzL_cons frz_same (frzL_cons frz_if frzL_refl)) (frzH_cons rfl rfl rfl frzL_refl frzH_refl))) ?_
  refine tx_cell' 0 0 (y := (SG116 (G116.c0 v2.1))) rfl rfl (imp_eq (SG116_c0 v2.1).symm) (H' := [⟨.pointer (some q81), [(SG116 (G116.c0 v2.1)), (If 62 (Sl Kf v2.2))], 127, none⟩, (Rw (Kl Kf) 62 (Vs wa0) a0)]) rfl ?_
  refine tx_cell' 0 1 (y := (SG116 (G116.c0 v2.2))) rfl rfl (imp_eq (SG116_c0 v2.2).symm) (H' := [⟨.pointer (some q81), [(SG116 (G116.c0 v2.1)), (SG116 (G116.c0 v2.2))], 127, none⟩, (Rw (Kl Kf) 62 (Vs wa0) a0)]) rfl ?_
  refine tx_fz' (frz_var 0 [(3, (Vp q81), (Pt [(SG116 (G116.c0 v2.1)), (SG116 (G116.c0 v2.2))])), (16, (Vp q81), (Pt [(SG116 (G116.c0 v2.1)), (SG116 (G116.c0 v2.2))])), (2, (Vp q81), (Pt [(SG116 (G116.c0 v2.1)), (SG116 (G116.c0 v2.2))]))] rfl ⟨⟨rfl, frz_it⟩, ⟨rfl, frz_it⟩, ⟨rfl, frz_it⟩, trivial⟩ (H' := [(Rw (Kl Kf) 62 (Vs wa0) a0)]) frzH_refl) ?_
  refine tx_slot' 2 (y := (SG118 (G118.c1 (G116.c0 v2.1) (G116.c0 v2.2)))) rfl (imp_eq (SG118_c1 (G116.c0 v2.1) (G116.c0 v2.2)).symm) ?_
  refine tx_pick' (L' := [(2, (SG118 (G118.c1 (G116.c0 v2.1) (G116.c0 v2.2))))]) (H' := [(Rw (Kl Kf) 62 (Vs wa0) a0)]) [0] (sub_cons rfl sub_nil) (by decide) (pick_cons rfl pick_nil) ?_
  exact tx_ret1' Try.results135 rfl () (rv_tmp' rfl) (List.Sublist.refl _)
 replace hp := (br_f h1).symm.trans hp
 refine cx_exit' ?_
 show TX E K3 _
 refine tx_k' hK3 ?_
 refine cr fun K14 hK14 => ?_
 refine s0 (rd_move' rfl) ?_
 refine s0 (rd_assign' rfl) ?_
 refine nk hK14 ?_
 refine cx_retc' ?_
 replace hp := Option.some.inj hp
 subst hp
 refine tx_slot' 2 (y := (SG118 G118.c0)) rfl (imp_eq SG118_c0.symm) ?_
 refine tx_pick' (L' := [(2, (SG118 G118.c0))]) (H' := [(Rw (Kl Kf) 62 (Vs wa0) a0)]) [0] (sub_cons rfl sub_nil) (by decide) (pick_cons rfl pick_nil) ?_
 exact tx_ret1' Try.results135 rfl () (rv_tmp' rfl) (List.Sublist.refl _)

def kdtree_DoorPoints_Slice (k : Nat) (a0 : List (List Nat)) (a0l : Nat) (a0n : Nat) (a1 : Int) (a2 : Int) : Option ((List (List Nat)) × Nat × Nat) :=
 (vct a0n a1 a2) >>= fun r10 =>
 some (a0, (a0l + (a1).toNat), r10)

theorem kdtree_DoorPoints_Slice_sim {k : Nat} {wa0 : Gs} (a0 : List (List Nat)) (a0l : Nat) (a0n : Nat) (a1 : Int) (a2 : Int) {out : (List (List Nat)) × Nat × Nat} (hp : kdtree_DoorPoints_Slice k a0 a0l a0n a1 a2 = some out) : Sx.Fn Try.prog 139 [(Rvw (Vs wa0) (Kl Kf).size a0l a0n), (Vi a1), (Vi a2)] [(Rw (Kl Kf) 62 (Vs wa0) a0)] (fun w : Unit => (If 75 (Rvw (Vs wa0) (Kl Kf).size out.2.1 out.2.2))) (fun w => [(Rw (Kl Kf) 62 (Vs wa0) out.1)]) := by
 unfold kdtree_DoorPoints_Slice at hp
 refine fn_of Try.func139 rfl Try.ntmps139 rfl fun E hM => ?_
 refine cr fun K1 hK1 => ?_
 refine s0 (rd_assign' rfl) ?_
 refine nk hK1 ?_
 refine cr fun K2 hK2 => ?_
 refine s0 (rd_move' rfl) ?_
 refine s0 (rd_move' rfl) ?_
 refine s0 (rd_move' rfl) ?_
 obtain ⟨r10, hr10, hp⟩ := bind_some hp
 refine s0 (rd_vcut' rfl rfl rfl hr10 Try.underlying75 info62) ?_
 refine s0 (rd_iface' rfl ⟨_, Try.underlying75, fun _ h => (nomatch h)⟩) ?_
 refine s0 (rd_assign' rfl) ?_
 refine nk hK2 ?_
 refine cx_retc' ?_
 replace hp := Option.some.inj hp
 subst hp
 refine tx_pick' (L' := [(6, (If 75 (Rvw (Vs wa0) (Kl Kf).size (a0l + (a1).toNat) r10)))]) (H' := [(Rw (Kl Kf) 62 (Vs wa0) a0)]) [0] (sub_cons rfl sub_nil) (by decide) (pick_cons rfl pick_nil) ?_
 exact tx_ret1' Try.results139 rfl () (rv_tmp' rfl) (List.Sublist.refl _)

def kdtree_buildBounded_b (recf : (List (List Nat)) → Nat → Nat → Int → Bool → Option ((List (List Nat)) × G66)) (k : Nat) (a0 : List (List Nat)) (a0l : Nat) (a0n : Nat) (a1 : Int) (a2 : Bool) : Option ((List (List Nat)) × G66) :=
 (kdtree_DoorPoints_Len k a0 a0l a0n) >>= fun r12 =>
 br (decide (r12.2 = 0))
  (some (r12.1, G66.c0))
  ((kdtree_DoorPoints_Pivot k r12.1 a0l a0n a1) >>= fun r16 =>
  (kdtree_DoorPoints_Index k r16.1 a0l a0n r16.2) >>= fun r19 =>
  (kdtree_Point_Dims k r19.2) >>= fun r23 =>
  (irem (iadd .i64 a1 1) r23) >>= fun r24 =>
  (kdtree_DoorPoints_Bounds k r19.1 a0l a0n) >>= fun r26 =>
  (kdtree_DoorPoints_Slice k r26.1 a0l a0n 0 r16.2) >>= fun r31 =>
  (recf r31.1 r31.2.1 r31.2.2 r24 a2) >>= fun r35 =>
  (kdtree_DoorPoints_Len k r35.1 a0l a0n) >>= fun r40 =>
  (kdtree_DoorPoints_Slice k r40.1 a0l a0n (iadd .i64 r16.2 1) r40.2) >>= fun r44 =>
  (recf r44.1 r44.2.1 r44.2.2 r24 a2) >>= fun r48 =>
  some (r48.1, (G66.c1 (G116.c0 r19.2) a1 r35.2 r48.2 r26.2)))
def kdtree_buildBounded : Nat → (List (List Nat)) → Nat → Nat → Int → Bool → Option ((List (List Nat)) × G66)
 | 0 => fun _ _ _ _ _ => none
 | k + 1 => fun a0 a0l a0n a1 a2 => kdtree_buildBounded_b (kdtree_buildBounded k) k a0 a0l a0n a1 a2

theorem kdtree_buildBounded_b_sim {recf : (List (List Nat)) → Nat → Nat → Int → Bool → Option ((List (List Nat)) × G66)} (hrec : ∀ (wa0 : Gs) (a0 : List (List Nat)) (a0l : Nat) (a0n : Nat) (a1 : Int) (a2 : Bool) (out : (List (List Nat)) × G66), recf a0 a0l a0n a1 a2 = some out → Sx.Fn Try.prog 66 [(If 75 (Rvw (Vs wa0) (Kl Kf).size a0l a0n)), (Vi a1), (Vb a2)] [(Rw (Kl Kf) 62 (Vs wa0) a0)] (fun w : Unit => (SG66 out.2)) (fun w => [(Rw (Kl Kf) 62 (Vs wa0) out.1)])) {k : Nat} {wa0 : Gs} (a0 : List (List Nat)) (a0l : Nat) (a0n : Nat) (a1 : Int) (a2 : Bool) {out : (List (List Nat)) × G66} (hp : kdtree_buildBounded_b recf k a0 a0l a0n a1 a2 = some out) : Sx.Fn Try.prog 66 [(If 75 (Rvw (Vs wa0) (Kl Kf).size a0l a0n)), (Vi a1), (Vb a2)] [(Rw (Kl Kf) 62 (Vs wa0) a0)] (fun w : Unit => (SG66 out.2)) (fun w => [(Rw (Kl Kf) 62 (Vs wa0) out.1)]) := by
 unfold kdtree_buildBounded_b at hp
 refine fn_of Try.func66 rfl Try.ntmps66 rfl fun E hM => ?_
 refine cr fun K1 hK1 => ?_
 refine s0 (rd_assign' rfl) ?_
 refine nk hK1 ?_
 refine cx_seq' fun K2 hK2 => ?_
 refine cr fun K3 hK3 => ?_
 refine s0 (rd_move' rfl) ?_
 obtain ⟨r12, hr12, hp⟩ := bind_some hp
 refine sx_ox' (ox_callg' (ent_inv' rfl rfl (inv_any0 inv75_Len)) (kdtree_DoorPoints_Len_sim _ _ _ hr12 : Sx.Fn Try.prog 137 [(Rvw (Vs wa0) (Kl Kf).size a0l a0n)] [(Rw (Kl Kf) 62 (Vs wa0) a0)] (fun x : Unit => (Vi r12.2)) (fun x => [(Rw (Kl Kf) 62 (Vs wa0) r12.1)])) [0] [] (by decide) (pick_cons rfl pick_nil) pick_nil (Hn := fun x : Unit => [(Rw (Kl Kf) 62 (Vs wa0) r12.1)]) (fun _ => rfl) rfl rfl) (wt_none' rfl) fun ⟨⟩ => ?_
 refine s0 (rd_bin' rfl rfl eg_int ru_eql) ?_
 refine nk hK3 ?_
 refine cx_cond' rfl (fun h1 => ?_) (fun h1 => ?_)
 ·replace hp := (br_t h1).symm.trans hp
  refine cr fun K4 hK4 => ?_
  refine s0 (rd_assign' rfl) ?_
  refine nk hK4 ?_
  refine cx_retc' ?_
  replace hp := Option.some.inj hp
  subst hp
  refine tx_slot' 6 (y := (SG66 G66.c0)) rfl (imp_eq SG66_c0.symm) ?_
  refine tx_pick' (L' := [(6, (SG66 G66.c0))]) (H' := [(Rw (Kl Kf) 62 (Vs wa0) r12.1)]) [0] (sub_cons rfl sub_nil) (by decide) (pick_cons rfl pick_nil) ?_
  exact tx_ret1' Try.results66 rfl () (rv_tmp' rfl) (List.Sublist.refl _)
 replace hp := (br_f h1).symm.trans hp
 refine cx_skip' ?_
 show TX E K2 _
 refine tx_k' hK2 ?_
 refine cr fun K5 hK5 => ?_
 refine s0 (rd_move' rfl) ?_
 refine s0 (rd_move' rfl) ?_
 obtain ⟨r16, hr16, hp⟩ := bind_some hp
 refine sx_ox' (ox_callg' (ent_inv' rfl rfl (inv_any1 inv75_Pivot)) (kdtree_DoorPoints_Pivot_sim _ _ _ _ hr16 : Sx.Fn Try.prog 138 [(Rvw (Vs wa0) (Kl Kf).size a0l a0n), (Vi a1)] [(Rw (Kl Kf) 62 (Vs wa0) r12.1)] (fun x : Unit => (Vi r16.2)) (fun x => [(Rw (Kl Kf) 62 (Vs wa0) r16.1)])) [0] [] (by decide) (pick_cons rfl pick_nil) pick_nil (Hn := fun x : Unit => [(Rw (Kl Kf) 62 (Vs wa0) r16.1)]) (fun _ => rfl) rfl rfl) (wt_none' rfl) fun ⟨⟩ => ?_
 refine s0 (rd_assign' rfl) ?_
 refine nk hK5 ?_
 refine cr fun K6 hK6 => ?_
 refine s0 (rd_move' rfl) ?_
 refine s0 (rd_move' rfl) ?_
 obtain ⟨r19, hr19, hp⟩ := bind_some hp
 refine sx_ox' (ox_callg' (ent_inv' rfl rfl (inv_any1 inv75_Index)) (kdtree_DoorPoints_Index_sim _ _ _ _ hr19 : Sx.Fn Try.prog 136 [(Rvw (Vs wa0) (Kl Kf).size a0l a0n), (Vi r16.2)] [(Rw (Kl Kf) 62 (Vs wa0) r16.1)] (fun x : Unit => (If 62 (Sl Kf r19.2))) (fun x => [(Rw (Kl Kf) 62 (Vs wa0) r19.1)])) [0] [] (by decide) (pick_cons rfl pick_nil) pick_nil (Hn := fun x : Unit => [(Rw (Kl Kf) 62 (Vs wa0) r19.1)]) (fun _ => rfl) rfl rfl) (wt_none' rfl) fun ⟨⟩ => ?_
 refine s0 (rd_assign' rfl) ?_
 refine nk hK6 ?_
 refine cr fun K7 hK7 => ?_
 refine s0 (rd_move' rfl) ?_
 refine s0 (rd_bin' rfl rfl eg_int ru_add) ?_
 refine s0 (rd_move' rfl) ?_
 obtain ⟨r23, hr23, hp⟩ := bind_some hp
 refine sx_ox' (ox_calln' (ent_inv' rfl rfl (inv_any0 inv62_Dims)) (kdtree_Point_Dims_sim _ hr23 : Sx.Fn Try.prog 121 [(Sl Kf r19.2)] [] (fun x : Unit => (Vi r23)) (fun x => [])) (Hn := fun x : Unit => [(Rw (Kl Kf) 62 (Vs wa0) r19.1)]) (fun _ => rfl) rfl rfl) (wt_none' rfl) fun ⟨⟩ => ?_
 obtain ⟨r24, hr24, hp⟩ := bind_some hp
 refine s0 (rd_bin' rfl rfl eg_int (ru_rem hr24)) ?_
 refine s0 (rd_assign' rfl) ?_
 refine nk hK7 ?_
 refine cr fun K8 hK8 => ?_
 refine s0 (rd_move' rfl) ?_
 obtain ⟨r26, hr26, hp⟩ := bind_some hp
 refine sx_ox' (ox_callg' (ent_inv' rfl rfl (inv_any0 inv75_Bounds)) (kdtree_DoorPoints_Bounds_sim _ _ _ hr26 : Sx.Fn Try.prog 135 [(Rvw (Vs wa0) (Kl Kf).size a0l a0n)] [(Rw (Kl Kf) 62 (Vs wa0) r19.1)] (fun x : Unit => (SG118 r26.2)) (fun x => [(Rw (Kl Kf) 62 (Vs wa0) r26.1)])) [0] [] (by decide) (pick_cons rfl pick_nil) pick_nil (Hn := fun x : Unit => [(Rw (Kl Kf) 62 (Vs wa0) r26.1)]) (fun _ => rfl) rfl rfl) (wt_none' rfl) fun ⟨⟩ => ?_
 refine s0 (rd_assign' rfl) ?_
 refine nk hK8 ?_
 refine cx_seq' fun K9 hK9 => ?_
 refine cx_plana' [] [(4, 1), (8, 1), (13, 1), (17, 1), (21, 1)] [(0, 2), (1, 2), (2, 1), (3, 1), (6, 2), (7, 2), (9, 2), (10, 2), (11, 2), (12, 2), (19, 2), (20, 2), (22, 2)] 13 #[true, true, true, true, false, false, true, true, false, true, true, true, true, false, false, false, false, false, false, true, true, false, true, false, false, false] mixed (by kernel_rfl) ?_
 refine px_rb' rfl (rb_move' rfl) rfl rfl (wt_none' rfl) ?_
 refine px_rb' rfl (rb_move' rfl) rfl rfl (wt_none' rfl) ?_
 refine px_rd' rfl (rd_move' rfl) rfl rfl (wt_none' rfl) ?_
 refine px_rd' rfl (rd_move' rfl) rfl rfl (wt_none' rfl) ?_
 refine px_rb' rfl (rb_move' rfl) rfl rfl (wt_none' rfl) ?_
 refine px_rb' rfl (rb_move' rfl) rfl rfl (wt_none' rfl) ?_
 refine px_rb' rfl (rb_move' rfl) rfl rfl (wt_none' rfl) ?_
 refine px_rb' rfl (rb_move' rfl) rfl rfl (wt_none' rfl) ?_
 refine px_rb' rfl (rb_bin' rfl rfl eg_int ru_add) rfl rfl (wt_none' rfl) ?_
 refine px_rb' rfl (rb_move' rfl) rfl rfl (wt_none' rfl) ?_
 refine px_rb' rfl (rb_move' rfl) rfl rfl (wt_none' rfl) ?_
 refine px_rb' rfl (rb_move' rfl) rfl rfl (wt_none' rfl) ?_
 refine px_rb' rfl (rb_move' rfl) rfl rfl (wt_none' rfl) ?_
 refine px_nil' ?_
 show AX E _ _ _ _ _ _ _ _
 obtain ⟨r31, hr31, hp⟩ := bind_some hp
 obtain ⟨r35, hr35, hp⟩ := bind_some hp
 obtain ⟨r40, hr40, hp⟩ := bind_some hp
 obtain ⟨r44, hr44, hp⟩ := bind_some hp
 obtain ⟨r48, hr48, hp⟩ := bind_some hp
 let LP1 : List (Nat × SV) := []
 let HP1 : List Res := []
 have hLP1 : Sub LP1 LP1 := sub_nil
 have hHP1 : PickAt HP1 [] HP1 := pick_nil
 let S1 : SV := (If 62 (Sl Kf r19.2))
 let S2 : SV := (Vi a1)
 let S3 : SV := (If 75 (Rvw (Vs wa0) (Kl Kf).size r31.2.1 r31.2.2))
 let S4 : SV := (Vi r24)
 let S5 : SV := (If 75 (Rvw (Vs wa0) (Kl Kf).size a0l a0n))
 let S6 : SV := (Vi (iadd .i64 r16.2 1))
 let S7 : SV := (Vi r16.2)
 let S8 : SV := (Mf "Slice" (If 75 (Rvw (Vs wa0) (Kl Kf).size a0l a0n)))
 let S9 : SV := (Vi r40.2)
 let S10 : SV := (If 75 (Rvw (Vs wa0) (Kl Kf).size r44.2.1 r44.2.2))
 let S11 : SV := (Ag [(If 62 (Sl Kf r19.2)), (Vi a1), (SG66 r35.2), (SG66 r48.2), (SG118 r26.2)])
 refine ax_node (f' := 0) #[true, true, true, true, true, true, true, true, true, true, true, true, true, true, true, true, true, true, true, true, true, true, true, true, true, true] (fun (v25 : Addr) => (⟨52, [], [(6, (Vp v25))], [⟨.pointer (some v25), [(If 62 (Sl Kf r19.2)), (Vi a1), (SG66 r35.2), (SG66 r48.2), (SG118 r26.2)], 120, none⟩, (Rw (Kl Kf) 62 (Vs wa0) r48.1)]⟩ : St)) ?_ ?_
 ·rintro q902
  refine ax_nil (by kernel_rfl) ?_
  show TX E K9 _
  refine tx_k' hK9 ?_
  refine cx_retc' ?_
  replace hp := Option.some.inj hp
  subst hp
  refine tx_cell' 0 0 (y := (SG116 (G116.c0 r19.2))) rfl rfl (imp_eq (SG116_c0 r19.2).symm) (H' := [⟨.pointer (some q902), [(SG116 (G116.c0 r19.2)), (Vi a1), (SG66 r35.2), (SG66 r48.2), (SG118 r26.2)], 120, none⟩, (Rw (Kl Kf) 62 (Vs wa0) r48.1)]) rfl ?_
  refine tx_fz' (frz_var 0 [(6, (Vp q902), (Pt [(SG116 (G116.c0 r19.2)), (Vi a1), (SG66 r35.2), (SG66 r48.2), (SG118 r26.2)]))] rfl ⟨⟨rfl, frz_it⟩, trivial⟩ (H' := [(Rw (Kl Kf) 62 (Vs wa0) r48.1)]) frzH_refl) ?_
  refine tx_slot' 6 (y := (SG66 (G66.c1 (G116.c0 r19.2) a1 r35.2 r48.2 r26.2))) rfl (imp_eq (SG66_c1 (G116.c0 r19.2) a1 r35.2 r48.2 r26.2).symm) ?_
  refine tx_pick' (L' := [(6, (SG66 (G66.c1 (G116.c0 r19.2) a1 r35.2 r48.2 r26.2)))]) (H' := [(Rw (Kl Kf) 62 (Vs wa0) r48.1)]) [0] (sub_cons rfl sub_nil) (by decide) (pick_cons rfl pick_nil) ?_
  exact tx_ret1' Try.results66 rfl () (rv_tmp' rfl) (List.Sublist.refl _)
 intro hN25
 refine ax_node (f' := 1) #[true, true, true, true, true, true, true, true, true, true, true, true, true, true, true, true, true, true, true, true, true, true, true, true, true, false] (fun (v24 : Addr) => (⟨52, [], (51, (Vp v24)) :: LP1, ⟨.pointer (some v24), [(If 62 (Sl Kf r19.2)), (Vi a1), (SG66 r35.2), (SG66 r48.2), (SG118 r26.2)], 120, none⟩ :: (Rw (Kl Kf) 62 (Vs wa0) r48.1) :: HP1⟩ : St)) ?_ ?_
 ·rintro q901
  refine ax_rd (ix := 25) (last := #[true, true, true, true, true, true, true, true, true, true, true, true, true, true, true, true, true, true, true, true, true, true, true, true, true, true]) (by kernel_rfl) rfl (rd_assign' rfl) rfl rfl (wt_none' rfl) rfl ?_
  exact tx_pick' [0, 1] (sub_cons rfl sub_nil) (by decide) (pick_cons rfl (pick_cons rfl pick_nil)) (hN25 q901)
 intro hN24
 refine ax_node (f' := 2) #[true, true, true, true, true, true, true, true, true, true, true, true, true, true, true, true, true, true, true, true, true, true, true, true, false, false] (fun (v23 : Unit) => (⟨52, [], (50, S11) :: LP1, (Rw (Kl Kf) 62 (Vs wa0) r48.1) :: HP1⟩ : St)) ?_ ?_
 ·rintro ⟨⟩
  refine ax_all (i := 24) (is := []) (by kernel_rfl) (all_cons ?_ all_nil)
  ·refine nx_ox (last := #[true, true, true, true, true, true, true, true, true, true, true, true, true, true, true, true, true, true, true, true, true, true, true, true, true, false]) rfl (ox_box' rfl (lv_ag _) rfl rfl) rfl bs_nil (wt_none' rfl) rfl fun q51 => ?_
   exact tx_pick' [0, 1] (sub_cons rfl sub_nil) (by decide) (pick_cons rfl (pick_cons rfl pick_nil)) (hN24 q51)
 intro hN23
 refine ax_node (f' := 3) #[true, true, true, true, true, true, true, true, true, true, true, true, true, true, true, true, true, true, true, true, true, true, true, false, false, false] (fun (v22 : Unit) => (⟨52, [], (27, S1) :: (28, S2) :: (35, (SG66 r35.2)) :: (48, (SG66 r48.2)) :: (49, (SG118 r26.2)) :: LP1, (Rw (Kl Kf) 62 (Vs wa0) r48.1) :: HP1⟩ : St)) ?_ ?_
 ·rintro ⟨⟩
  refine ax_rd (ix := 23) (last := #[true, true, true, true, true, true, true, true, true, true, true, true, true, true, true, true, true, true, true, true, true, true, true, true, false, false]) (by kernel_rfl) rfl (rd_build' (pls := [(0, 1), (1, 1), (2, 1), (3, 1), (4, 1)]) (qs := [(0, [(If 62 (Sl Kf r19.2))]), (1, [(Vi a1)]), (2, [(SG66 r35.2)]), (3, [(SG66 r48.2)]), (4, [(SG118 r26.2)])]) (r := [(If 62 (Sl Kf r19.2)), (Vi a1), (SG66 r35.2), (SG66 r48.2), (SG118 r26.2)]) ⟨rfl, ⟨_, rfl, (lv_if _ _)⟩, ⟨rfl, ⟨_, rfl, (lv_vl rfl rfl)⟩, ⟨rfl, ⟨_, rfl, (SG66_lv r35.2)⟩, ⟨rfl, ⟨_, rfl, (SG66_lv r48.2)⟩, ⟨rfl, ⟨_, rfl, (SG118_lv r26.2)⟩, trivial⟩⟩⟩⟩⟩ Try.underlying120 has120 places120 info120 rfl rfl rfl) rfl rfl (wt_none' rfl) rfl ?_
  exact tx_pick' [0] (sub_cons rfl sub_nil) (by decide) (pick_cons rfl pick_nil) (hN23 ())
 intro hN22
 refine ax_node (f' := 4) #[true, true, true, true, true, true, true, true, true, true, true, true, true, true, true, true, true, true, true, true, true, false, true, false, false, false] (fun (v21 : Unit) => (⟨52, [], (27, S1) :: (28, S2) :: (35, (SG66 r35.2)) :: (45, S10) :: (46, S4) :: (47, (Vb a2)) :: (49, (SG118 r26.2)) :: LP1, (Rw (Kl Kf) 62 (Vs wa0) r44.1) :: HP1⟩ : St)) ?_ ?_
 ·rintro ⟨⟩
  refine ax_all (i := 21) (is := []) (by kernel_rfl) (all_cons ?_ all_nil)
  ·refine nx_oxb (is := [0]) (last := #[true, true, true, true, true, true, true, true, true, true, true, true, true, true, true, true, true, true, true, true, true, true, true, false, false, false]) rfl (oxb_callg (ent_fn' Try.func66 isn66 rfl rfl) (hrec _ _ _ _ _ _ _ hr48 : Sx.Fn Try.prog 66 [(If 75 (Rvw (Vs wa0) (Kl Kf).size r44.2.1 r44.2.2)), (Vi r24), (Vb a2)] [(Rw (Kl Kf) 62 (Vs wa0) r44.1)] (fun x : Unit => (SG66 r48.2)) (fun x => [(Rw (Kl Kf) 62 (Vs wa0) r48.1)])) [0] [] (by decide) (pick_cons rfl pick_nil) pick_nil (Hn := fun x : Unit => [(Rw (Kl Kf) 62 (Vs wa0) r48.1)]) (fun _ => rfl) rfl rfl) (pick_cons rfl pick_nil) rfl bl_nil (wt_none' rfl) rfl fun ⟨⟩ => ?_
   exact tx_pick' [0] (sub_cons rfl (sub_cons rfl (sub_cons rfl (sub_cons rfl (sub_cons rfl sub_nil))))) (by decide) (pick_cons rfl pick_nil) (hN22 ())
 intro hN21
 refine ax_node (f' := 5) #[true, true, true, true, true, true, true, true, true, true, true, true, true, true, true, true, true, true, false, true, true, false, true, false, false, false] (fun (v20 : Unit) => (⟨52, [], (27, S1) :: (28, S2) :: (35, (SG66 r35.2)) :: (44, S10) :: (46, S4) :: (47, (Vb a2)) :: (49, (SG118 r26.2)) :: LP1, (Rw (Kl Kf) 62 (Vs wa0) r44.1) :: HP1⟩ : St)) ?_ ?_
 ·rintro ⟨⟩
  refine ax_rd (ix := 18) (last := #[true, true, true, true, true, true, true, true, true, true, true, true, true, true, true, true, true, true, true, true, true, false, true, false, false, false]) (by kernel_rfl) rfl (rd_assert' rfl (F := fun v => .iface 75 v) as75_131_133 as_if) rfl rfl (wt_none' rfl) rfl ?_
  exact tx_pick' [0] (sub_cons rfl (sub_cons rfl (sub_cons rfl (sub_cons rfl (sub_cons rfl (sub_cons rfl (sub_cons rfl sub_nil))))))) (by decide) (pick_cons rfl pick_nil) (hN21 ())
 intro hN20
 refine ax_node (f' := 6) #[true, true, true, true, true, true, true, true, true, true, true, true, true, true, true, true, true, false, false, true, true, false, true, false, false, false] (fun (v19 : Unit) => (⟨52, [], (27, S1) :: (28, S2) :: (35, (SG66 r35.2)) :: (38, S6) :: (40, S9) :: (43, S5) :: (46, S4) :: (47, (Vb a2)) :: (49, (SG118 r26.2)) :: LP1, (Rw (Kl Kf) 62 (Vs wa0) r40.1) :: HP1⟩ : St)) ?_ ?_
 ·rintro ⟨⟩
  refine ax_all (i := 17) (is := []) (by kernel_rfl) (all_cons ?_ all_nil)
  ·refine nx_oxb (is := [0]) (last := #[true, true, true, true, true, true, true, true, true, true, true, true, true, true, true, true, true, true, false, true, true, false, true, false, false, false]) rfl (oxb_callg (ent_inv' rfl rfl (inv_any2 inv75_Slice)) (kdtree_DoorPoints_Slice_sim _ _ _ _ _ hr44 : Sx.Fn Try.prog 139 [(Rvw (Vs wa0) (Kl Kf).size a0l a0n), (Vi (iadd .i64 r16.2 1)), (Vi r40.2)] [(Rw (Kl Kf) 62 (Vs wa0) r40.1)] (fun x : Unit => (If 75 (Rvw (Vs wa0) (Kl Kf).size r44.2.1 r44.2.2))) (fun x => [(Rw (Kl Kf) 62 (Vs wa0) r44.1)])) [0] [] (by decide) (pick_cons rfl pick_nil) pick_nil (Hn := fun x : Unit => [(Rw (Kl Kf) 62 (Vs wa0) r44.1)]) (fun _ => rfl) rfl rfl) (pick_cons rfl pick_nil) rfl bl_nil (wt_none' rfl) rfl fun ⟨⟩ => ?_
   exact tx_pick' [0] (sub_cons rfl (sub_cons rfl (sub_cons rfl (sub_cons rfl (sub_cons rfl (sub_cons rfl (sub_cons rfl sub_nil))))))) (by decide) (pick_cons rfl pick_nil) (hN20 ())
 intro hN19
 refine ax_node (f' := 7) #[true, true, true, true, true, true, true, true, true, true, true, true, true, true, true, true, false, false, false, true, true, false, true, false, false, false] (fun (v17 : Unit) => (⟨52, [], (27, S1) :: (28, S2) :: (35, (SG66 r35.2)) :: (36, S5) :: (38, S6) :: (40, S9) :: (46, S4) :: (47, (Vb a2)) :: (49, (SG118 r26.2)) :: LP1, (Rw (Kl Kf) 62 (Vs wa0) r40.1) :: HP1⟩ : St)) ?_ ?_
 ·rintro ⟨⟩
  refine ax_rd (ix := 16) (last := #[true, true, true, true, true, true, true, true, true, true, true, true, true, true, true, true, true, false, false, true, true, false, true, false, false, false]) (by kernel_rfl) rfl (rd_move' rfl) rfl rfl (wt_none' rfl) rfl ?_
  exact tx_pick' [0] (sub_cons rfl (sub_cons rfl (sub_cons rfl (sub_cons rfl (sub_cons rfl (sub_cons rfl (sub_cons rfl (sub_cons rfl (sub_cons rfl sub_nil))))))))) (by decide) (pick_cons rfl pick_nil) (hN19 ())
 intro hN17
 refine ax_node (f' := 7) #[true, true, true, true, true, true, true, true, true, true, true, true, true, false, true, true, true, false, false, true, true, false, true, false, false, false] (fun (v18 : Unit) => (⟨52, [], (27, S1) :: (28, S2) :: (35, (SG66 r35.2)) :: (38, S6) :: (39, S5) :: (43, S5) :: (46, S4) :: (47, (Vb a2)) :: (49, (SG118 r26.2)) :: LP1, (Rw (Kl Kf) 62 (Vs wa0) r35.1) :: HP1⟩ : St)) ?_ ?_
 ·rintro ⟨⟩
  refine ax_all (i := 13) (is := []) (by kernel_rfl) (all_cons ?_ all_nil)
  ·refine nx_oxb (is := [0]) (last := #[true, true, true, true, true, true, true, true, true, true, true, true, true, true, true, true, true, false, false, true, true, false, true, false, false, false]) rfl (oxb_callg (ent_inv' rfl rfl (inv_any0 inv75_Len)) (kdtree_DoorPoints_Len_sim _ _ _ hr40 : Sx.Fn Try.prog 137 [(Rvw (Vs wa0) (Kl Kf).size a0l a0n)] [(Rw (Kl Kf) 62 (Vs wa0) r35.1)] (fun x : Unit => (Vi r40.2)) (fun x => [(Rw (Kl Kf) 62 (Vs wa0) r40.1)])) [0] [] (by decide) (pick_cons rfl pick_nil) pick_nil (Hn := fun x : Unit => [(Rw (Kl Kf) 62 (Vs wa0) r40.1)]) (fun _ => rfl) rfl rfl) (pick_cons rfl pick_nil) rfl bl_nil (wt_none' rfl) rfl fun ⟨⟩ => ?_
   exact tx_pick' [0] (sub_cons rfl (sub_cons rfl (sub_cons rfl (sub_cons rfl (sub_cons rfl (sub_cons rfl (sub_cons rfl (sub_cons rfl (sub_cons rfl sub_nil))))))))) (by decide) (pick_cons rfl pick_nil) (hN19 ())
 intro hN18
 refine ax_node (f' := 8) #[true, true, true, true, true, true, true, true, true, true, true, true, true, true, true, false, false, false, false, true, true, false, true, false, false, false] (fun (v14 : Unit) => (⟨52, [], (27, S1) :: (28, S2) :: (35, (SG66 r35.2)) :: (36, S5) :: (38, S6) :: (40, S9) :: (41, S8) :: (46, S4) :: (47, (Vb a2)) :: (49, (SG118 r26.2)) :: LP1, (Rw (Kl Kf) 62 (Vs wa0) r40.1) :: HP1⟩ : St)) ?_ ?_
 ·rintro ⟨⟩
  refine ax_rd (ix := 15) (last := #[true, true, true, true, true, true, true, true, true, true, true, true, true, true, true, true, false, false, false, true, true, false, true, false, false, false]) (by kernel_rfl) rfl (rd_nilck_mf' rfl (fun _ _ v _ w => nla75_Slice_vw v w)) rfl rfl (wt_none' rfl) rfl ?_
  exact tx_pick' [0] (sub_cons rfl (sub_cons rfl (sub_cons rfl (sub_cons rfl (sub_cons rfl (sub_cons rfl (sub_cons rfl (sub_cons rfl (sub_cons rfl sub_nil))))))))) (by decide) (pick_cons rfl pick_nil) (hN17 ())
 intro hN14
 refine ax_node (f' := 8) #[true, true, true, true, true, true, true, true, true, true, true, true, true, false, true, true, false, false, false, true, true, false, true, false, false, false] (fun (v15 : Unit) => (⟨52, [], (27, S1) :: (28, S2) :: (35, (SG66 r35.2)) :: (36, S5) :: (38, S6) :: (39, S5) :: (46, S4) :: (47, (Vb a2)) :: (49, (SG118 r26.2)) :: LP1, (Rw (Kl Kf) 62 (Vs wa0) r35.1) :: HP1⟩ : St)) ?_ ?_
 ·rintro ⟨⟩
  refine ax_rb (ix := 16) (last := #[true, true, true, true, true, true, true, true, true, true, true, true, true, false, true, true, true, false, false, true, true, false, true, false, false, false]) (by kernel_rfl) rfl (rb_move' rfl) rfl rfl (wt_none' rfl) rfl ?_
  exact tx_pick' [0] (sub_cons rfl (sub_cons rfl (sub_cons rfl (sub_cons rfl (sub_cons rfl (sub_cons rfl (sub_cons rfl (sub_cons rfl (sub_cons rfl sub_nil))))))))) (by decide) (pick_cons rfl pick_nil) (hN18 ())
 intro hN15
 refine ax_node (f' := 8) #[true, true, true, true, true, true, true, true, false, true, true, true, true, false, true, true, true, false, false, true, true, false, true, false, false, false] (fun (v16 : Unit) => (⟨52, [], (27, S1) :: (28, S2) :: (32, S3) :: (33, S4) :: (34, (Vb a2)) :: (38, S6) :: (39, S5) :: (43, S5) :: (46, S4) :: (47, (Vb a2)) :: (49, (SG118 r26.2)) :: LP1, (Rw (Kl Kf) 62 (Vs wa0) r31.1) :: HP1⟩ : St)) ?_ ?_
 ·rintro ⟨⟩
  refine ax_all (i := 8) (is := []) (by kernel_rfl) (all_cons ?_ all_nil)
  ·refine nx_oxb (is := [0]) (last := #[true, true, true, true, true, true, true, true, true, true, true, true, true, false, true, true, true, false, false, true, true, false, true, false, false, false]) rfl (oxb_callg (ent_fn' Try.func66 isn66 rfl rfl) (hrec _ _ _ _ _ _ _ hr35 : Sx.Fn Try.prog 66 [(If 75 (Rvw (Vs wa0) (Kl Kf).size r31.2.1 r31.2.2)), (Vi r24), (Vb a2)] [(Rw (Kl Kf) 62 (Vs wa0) r31.1)] (fun x : Unit => (SG66 r35.2)) (fun x => [(Rw (Kl Kf) 62 (Vs wa0) r35.1)])) [0] [] (by decide) (pick_cons rfl pick_nil) pick_nil (Hn := fun x : Unit => [(Rw (Kl Kf) 62 (Vs wa0) r35.1)]) (fun _ => rfl) rfl rfl) (pick_cons rfl pick_nil) rfl bl_nil (wt_none' rfl) rfl fun ⟨⟩ => ?_
   exact tx_pick' [0] (sub_cons rfl (sub_cons rfl (sub_cons rfl (sub_cons rfl (sub_cons rfl (sub_cons rfl (sub_cons rfl (sub_cons rfl (sub_cons rfl sub_nil))))))))) (by decide) (pick_cons rfl pick_nil) (hN18 ())
 intro hN16
 refine ax_node (f' := 9) #[true, true, true, true, true, true, true, true, true, true, true, true, true, true, false, false, false, false, false, true, true, false, true, false, false, false] (fun (v10 : Unit) => (⟨52, [], (27, S1) :: (28, S2) :: (35, (SG66 r35.2)) :: (36, S5) :: (38, S6) :: (40, S9) :: (46, S4) :: (47, (Vb a2)) :: (49, (SG118 r26.2)) :: LP1, (Rw (Kl Kf) 62 (Vs wa0) r40.1) :: HP1⟩ : St)) ?_ ?_
 ·rintro ⟨⟩
  refine ax_rd (ix := 14) (last := #[true, true, true, true, true, true, true, true, true, true, true, true, true, true, true, false, false, false, false, true, true, false, true, false, false, false]) (by kernel_rfl) rfl (rd_mkmeth' rfl) rfl rfl (wt_none' rfl) rfl ?_
  exact tx_pick' [0] (sub_cons rfl (sub_cons rfl (sub_cons rfl (sub_cons rfl (sub_cons rfl (sub_cons rfl (sub_cons rfl (sub_cons rfl (sub_cons rfl (sub_cons rfl sub_nil)))))))))) (by decide) (pick_cons rfl pick_nil) (hN14 ())
 intro hN10
 refine ax_node (f' := 9) #[true, true, true, true, true, true, true, true, true, true, true, true, true, false, true, false, false, false, false, true, true, false, true, false, false, false] (fun (v11 : Unit) => (⟨52, [], (27, S1) :: (28, S2) :: (35, (SG66 r35.2)) :: (36, S5) :: (38, S6) :: (39, S5) :: (41, S8) :: (46, S4) :: (47, (Vb a2)) :: (49, (SG118 r26.2)) :: LP1, (Rw (Kl Kf) 62 (Vs wa0) r35.1) :: HP1⟩ : St)) ?_ ?_
 ·rintro ⟨⟩
  refine ax_all (i := 13) (is := [15]) (by kernel_rfl) (all_cons ?_ (all_cons ?_ all_nil))
  ·refine nx_oxb (is := [0]) (last := #[true, true, true, true, true, true, true, true, true, true, true, true, true, true, true, false, false, false, false, true, true, false, true, false, false, false]) rfl (oxb_callg (ent_inv' rfl rfl (inv_any0 inv75_Len)) (kdtree_DoorPoints_Len_sim _ _ _ hr40 : Sx.Fn Try.prog 137 [(Rvw (Vs wa0) (Kl Kf).size a0l a0n)] [(Rw (Kl Kf) 62 (Vs wa0) r35.1)] (fun x : Unit => (Vi r40.2)) (fun x => [(Rw (Kl Kf) 62 (Vs wa0) r40.1)])) [0] [] (by decide) (pick_cons rfl pick_nil) pick_nil (Hn := fun x : Unit => [(Rw (Kl Kf) 62 (Vs wa0) r40.1)]) (fun _ => rfl) rfl rfl) (pick_cons rfl pick_nil) rfl bl_nil (wt_none' rfl) rfl fun ⟨⟩ => ?_
   exact tx_pick' [0] (sub_cons rfl (sub_cons rfl (sub_cons rfl (sub_cons rfl (sub_cons rfl (sub_cons rfl (sub_cons rfl (sub_cons rfl (sub_cons rfl (sub_cons rfl sub_nil)))))))))) (by decide) (pick_cons rfl pick_nil) (hN14 ())
  refine nx_rd (last := #[true, true, true, true, true, true, true, true, true, true, true, true, true, false, true, true, false, false, false, true, true, false, true, false, false, false]) rfl (rd_nilck_mf' rfl (fun _ _ v _ w => nla75_Slice_vw v w)) rfl rfl (wt_none' rfl) rfl ?_
  exact tx_pick' [0] (sub_cons rfl (sub_cons rfl (sub_cons rfl (sub_cons rfl (sub_cons rfl (sub_cons rfl (sub_cons rfl (sub_cons rfl (sub_cons rfl sub_nil))))))))) (by decide) (pick_cons rfl pick_nil) (hN15 ())
 intro hN11
 refine ax_node (f' := 9) #[true, true, true, true, true, true, true, true, false, true, true, true, true, false, true, true, false, false, false, true, true, false, true, false, false, false] (fun (v12 : Unit) => (⟨52, [], (27, S1) :: (28, S2) :: (32, S3) :: (33, S4) :: (34, (Vb a2)) :: (36, S5) :: (38, S6) :: (39, S5) :: (46, S4) :: (47, (Vb a2)) :: (49, (SG118 r26.2)) :: LP1, (Rw (Kl Kf) 62 (Vs wa0) r31.1) :: HP1⟩ : St)) ?_ ?_
 ·rintro ⟨⟩
  refine ax_rb (ix := 16) (last := #[true, true, true, true, true, true, true, true, false, true, true, true, true, false, true, true, true, false, false, true, true, false, true, false, false, false]) (by kernel_rfl) rfl (rb_move' rfl) rfl rfl (wt_none' rfl) rfl ?_
  exact tx_pick' [0] (sub_cons rfl (sub_cons rfl (sub_cons rfl (sub_cons rfl (sub_cons rfl (sub_cons rfl (sub_cons rfl (sub_cons rfl (sub_cons rfl (sub_cons rfl (sub_cons rfl sub_nil))))))))))) (by decide) (pick_cons rfl pick_nil) (hN16 ())
 intro hN12
 refine ax_node (f' := 9) #[true, true, true, true, true, false, true, true, false, true, true, true, true, false, true, true, true, false, false, true, true, false, true, false, false, false] (fun (v13 : Unit) => (⟨52, [], (27, S1) :: (28, S2) :: (31, S3) :: (33, S4) :: (34, (Vb a2)) :: (38, S6) :: (39, S5) :: (43, S5) :: (46, S4) :: (47, (Vb a2)) :: (49, (SG118 r26.2)) :: LP1, (Rw (Kl Kf) 62 (Vs wa0) r31.1) :: HP1⟩ : St)) ?_ ?_
 ·rintro ⟨⟩
  refine ax_rd (ix := 5) (last := #[true, true, true, true, true, true, true, true, false, true, true, true, true, false, true, true, true, false, false, true, true, false, true, false, false, false]) (by kernel_rfl) rfl (rd_assert' rfl (F := fun v => .iface 75 v) as75_131_133 as_if) rfl rfl (wt_none' rfl) rfl ?_
  exact tx_pick' [0] (sub_cons rfl (sub_cons rfl (sub_cons rfl (sub_cons rfl (sub_cons rfl (sub_cons rfl (sub_cons rfl (sub_cons rfl (sub_cons rfl (sub_cons rfl (sub_cons rfl sub_nil))))))))))) (by decide) (pick_cons rfl pick_nil) (hN16 ())
 intro hN13
 refine ax_node (f' := 10) #[true, true, true, true, true, true, true, true, true, true, true, true, true, false, false, false, false, false, false, true, true, false, true, false, false, false] (fun (v7 : Unit) => (⟨52, [], (27, S1) :: (28, S2) :: (35, (SG66 r35.2)) :: (36, S5) :: (38, S6) :: (39, S5) :: (46, S4) :: (47, (Vb a2)) :: (49, (SG118 r26.2)) :: LP1, (Rw (Kl Kf) 62 (Vs wa0) r35.1) :: HP1⟩ : St)) ?_ ?_
 ·rintro ⟨⟩
  refine ax_all (i := 13) (is := [14]) (by kernel_rfl) (all_cons ?_ (all_cons ?_ all_nil))
  ·refine nx_oxb (is := [0]) (last := #[true, true, true, true, true, true, true, true, true, true, true, true, true, true, false, false, false, false, false, true, true, false, true, false, false, false]) rfl (oxb_callg (ent_inv' rfl rfl (inv_any0 inv75_Len)) (kdtree_DoorPoints_Len_sim _ _ _ hr40 : Sx.Fn Try.prog 137 [(Rvw (Vs wa0) (Kl Kf).size a0l a0n)] [(Rw (Kl Kf) 62 (Vs wa0) r35.1)] (fun x : Unit => (Vi r40.2)) (fun x => [(Rw (Kl Kf) 62 (Vs wa0) r40.1)])) [0] [] (by decide) (pick_cons rfl pick_nil) pick_nil (Hn := fun x : Unit => [(Rw (Kl Kf) 62 (Vs wa0) r40.1)]) (fun _ => rfl) rfl rfl) (pick_cons rfl pick_nil) rfl bl_nil (wt_none' rfl) rfl fun ⟨⟩ => ?_
   exact tx_pick' [0] (sub_cons rfl (sub_cons rfl (sub_cons rfl (sub_cons rfl (sub_cons rfl (sub_cons rfl (sub_cons rfl (sub_cons rfl (sub_cons rfl sub_nil))))))))) (by decide) (pick_cons rfl pick_nil) (hN10 ())
  refine nx_rd (last := #[true, true, true, true, true, true, true, true, true, true, true, true, true, false, true, false, false, false, false, true, true, false, true, false, false, false]) rfl (rd_mkmeth' rfl) rfl rfl (wt_none' rfl) rfl ?_
  exact tx_pick' [0] (sub_cons rfl (sub_cons rfl (sub_cons rfl (sub_cons rfl (sub_cons rfl (sub_cons rfl (sub_cons rfl (sub_cons rfl (sub_cons rfl (sub_cons rfl sub_nil)))))))))) (by decide) (pick_cons rfl pick_nil) (hN11 ())
 intro hN7
 refine ax_node (f' := 10) #[true, true, true, true, true, true, true, true, false, true, true, true, true, false, true, false, false, false, false, true, true, false, true, false, false, false] (fun (v8 : Unit) => (⟨52, [], (27, S1) :: (28, S2) :: (32, S3) :: (33, S4) :: (34, (Vb a2)) :: (36, S5) :: (38, S6) :: (39, S5) :: (41, S8) :: (46, S4) :: (47, (Vb a2)) :: (49, (SG118 r26.2)) :: LP1, (Rw (Kl Kf) 62 (Vs wa0) r31.1) :: HP1⟩ : St)) ?_ ?_
 ·rintro ⟨⟩
  refine ax_all (i := 8) (is := [15]) (by kernel_rfl) (all_cons ?_ (all_cons ?_ all_nil))
  ·refine nx_oxb (is := [0]) (last := #[true, true, true, true, true, true, true, true, true, true, true, true, true, false, true, false, false, false, false, true, true, false, true, false, false, false]) rfl (oxb_callg (ent_fn' Try.func66 isn66 rfl rfl) (hrec _ _ _ _ _ _ _ hr35 : Sx.Fn Try.prog 66 [(If 75 (Rvw (Vs wa0) (Kl Kf).size r31.2.1 r31.2.2)), (Vi r24), (Vb a2)] [(Rw (Kl Kf) 62 (Vs wa0) r31.1)] (fun x : Unit => (SG66 r35.2)) (fun x => [(Rw (Kl Kf) 62 (Vs wa0) r35.1)])) [0] [] (by decide) (pick_cons rfl pick_nil) pick_nil (Hn := fun x : Unit => [(Rw (Kl Kf) 62 (Vs wa0) r35.1)]) (fun _ => rfl) rfl rfl) (pick_cons rfl pick_nil) rfl bl_nil (wt_none' rfl) rfl fun ⟨⟩ => ?_
   exact tx_pick' [0] (sub_cons rfl (sub_cons rfl (sub_cons rfl (sub_cons rfl (sub_cons rfl (sub_cons rfl (sub_cons rfl (sub_cons rfl (sub_cons rfl (sub_cons rfl sub_nil)))))))))) (by decide) (pick_cons rfl pick_nil) (hN11 ())
  refine nx_rd (last := #[true, true, true, true, true, true, true, true, false, true, true, true, true, false, true, true, false, false, false, true, true, false, true, false, false, false]) rfl (rd_nilck_mf' rfl (fun _ _ v _ w => nla75_Slice_vw v w)) rfl rfl (wt_none' rfl) rfl ?_
  exact tx_pick' [0] (sub_cons rfl (sub_cons rfl (sub_cons rfl (sub_cons rfl (sub_cons rfl (sub_cons rfl (sub_cons rfl (sub_cons rfl (sub_cons rfl (sub_cons rfl (sub_cons rfl sub_nil))))))))))) (by decide) (pick_cons rfl pick_nil) (hN12 ())
 intro hN8
 refine ax_node (f' := 10) #[true, true, true, true, false, false, true, true, false, true, true, true, true, false, true, true, true, false, false, true, true, false, true, false, false, false] (fun (v9 : Unit) => (⟨52, [], (27, S1) :: (28, S2) :: (29, S5) :: (30, S7) :: (33, S4) :: (34, (Vb a2)) :: (38, S6) :: (39, S5) :: (43, S5) :: (46, S4) :: (47, (Vb a2)) :: (49, (SG118 r26.2)) :: LP1, (Rw (Kl Kf) 62 (Vs wa0) r26.1) :: HP1⟩ : St)) ?_ ?_
 ·rintro ⟨⟩
  refine ax_all (i := 4) (is := []) (by kernel_rfl) (all_cons ?_ all_nil)
  ·refine nx_oxb (is := [0]) (last := #[true, true, true, true, true, false, true, true, false, true, true, true, true, false, true, true, true, false, false, true, true, false, true, false, false, false]) rfl (oxb_callg (ent_inv' rfl rfl (inv_any2 inv75_Slice)) (kdtree_DoorPoints_Slice_sim _ _ _ _ _ hr31 : Sx.Fn Try.prog 139 [(Rvw (Vs wa0) (Kl Kf).size a0l a0n), (Vi 0), (Vi r16.2)] [(Rw (Kl Kf) 62 (Vs wa0) r26.1)] (fun x : Unit => (If 75 (Rvw (Vs wa0) (Kl Kf).size r31.2.1 r31.2.2))) (fun x => [(Rw (Kl Kf) 62 (Vs wa0) r31.1)])) [0] [] (by decide) (pick_cons rfl pick_nil) pick_nil (Hn := fun x : Unit => [(Rw (Kl Kf) 62 (Vs wa0) r31.1)]) (fun _ => rfl) rfl rfl) (pick_cons rfl pick_nil) rfl bl_nil (wt_none' rfl) rfl fun ⟨⟩ => ?_
   exact tx_pick' [0] (sub_cons rfl (sub_cons rfl (sub_cons rfl (sub_cons rfl (sub_cons rfl (sub_cons rfl (sub_cons rfl (sub_cons rfl (sub_cons rfl (sub_cons rfl (sub_cons rfl sub_nil))))))))))) (by decide) (pick_cons rfl pick_nil) (hN13 ())
 intro hN9
 refine ax_node (f' := 11) #[true, true, true, true, true, true, true, true, false, true, true, true, true, false, false, false, false, false, false, true, true, false, true, false, false, false] (fun (v4 : Unit) => (⟨52, [], (27, S1) :: (28, S2) :: (32, S3) :: (33, S4) :: (34, (Vb a2)) :: (36, S5) :: (38, S6) :: (39, S5) :: (46, S4) :: (47, (Vb a2)) :: (49, (SG118 r26.2)) :: LP1, (Rw (Kl Kf) 62 (Vs wa0) r31.1) :: HP1⟩ : St)) ?_ ?_
 ·rintro ⟨⟩
  refine ax_all (i := 8) (is := [14]) (by kernel_rfl) (all_cons ?_ (all_cons ?_ all_nil))
  ·refine nx_oxb (is := [0]) (last := #[true, true, true, true, true, true, true, true, true, true, true, true, true, false, false, false, false, false, false, true, true, false, true, false, false, false]) rfl (oxb_callg (ent_fn' Try.func66 isn66 rfl rfl) (hrec _ _ _ _ _ _ _ hr35 : Sx.Fn Try.prog 66 [(If 75 (Rvw (Vs wa0) (Kl Kf).size r31.2.1 r31.2.2)), (Vi r24), (Vb a2)] [(Rw (Kl Kf) 62 (Vs wa0) r31.1)] (fun x : Unit => (SG66 r35.2)) (fun x => [(Rw (Kl Kf) 62 (Vs wa0) r35.1)])) [0] [] (by decide) (pick_cons rfl pick_nil) pick_nil (Hn := fun x : Unit => [(Rw (Kl Kf) 62 (Vs wa0) r35.1)]) (fun _ => rfl) rfl rfl) (pick_cons rfl pick_nil) rfl bl_nil (wt_none' rfl) rfl fun ⟨⟩ => ?_
   exact tx_pick' [0] (sub_cons rfl (sub_cons rfl (sub_cons rfl (sub_cons rfl (sub_cons rfl (sub_cons rfl (sub_cons rfl (sub_cons rfl (sub_cons rfl sub_nil))))))))) (by decide) (pick_cons rfl pick_nil) (hN7 ())
  refine nx_rd (last := #[true, true, true, true, true, true, true, true, false, true, true, true, true, false, true, false, false, false, false, true, true, false, true, false, false, false]) rfl (rd_mkmeth' rfl) rfl rfl (wt_none' rfl) rfl ?_
  exact tx_pick' [0] (sub_cons rfl (sub_cons rfl (sub_cons rfl (sub_cons rfl (sub_cons rfl (sub_cons rfl (sub_cons rfl (sub_cons rfl (sub_cons rfl (sub_cons rfl (sub_cons rfl (sub_cons rfl sub_nil)))))))))))) (by decide) (pick_cons rfl pick_nil) (hN8 ())
 intro hN4
 refine ax_node (f' := 11) #[true, true, true, true, true, false, true, true, false, true, true, true, true, false, true, false, false, false, false, true, true, false, true, false, false, false] (fun (v5 : Unit) => (⟨52, [], (27, S1) :: (28, S2) :: (31, S3) :: (33, S4) :: (34, (Vb a2)) :: (36, S5) :: (38, S6) :: (39, S5) :: (41, S8) :: (46, S4) :: (47, (Vb a2)) :: (49, (SG118 r26.2)) :: LP1, (Rw (Kl Kf) 62 (Vs wa0) r31.1) :: HP1⟩ : St)) ?_ ?_
 ·rintro ⟨⟩
  refine ax_rd (ix := 5) (last := #[true, true, true, true, true, true, true, true, false, true, true, true, true, false, true, false, false, false, false, true, true, false, true, false, false, false]) (by kernel_rfl) rfl (rd_assert' rfl (F := fun v => .iface 75 v) as75_131_133 as_if) rfl rfl (wt_none' rfl) rfl ?_
  exact tx_pick' [0] (sub_cons rfl (sub_cons rfl (sub_cons rfl (sub_cons rfl (sub_cons rfl (sub_cons rfl (sub_cons rfl (sub_cons rfl (sub_cons rfl (sub_cons rfl (sub_cons rfl (sub_cons rfl sub_nil)))))))))))) (by decide) (pick_cons rfl pick_nil) (hN8 ())
 intro hN5
 refine ax_node (f' := 11) #[true, true, true, true, false, false, true, true, false, true, true, true, true, false, true, true, false, false, false, true, true, false, true, false, false, false] (fun (v6 : Unit) => (⟨52, [], (27, S1) :: (28, S2) :: (29, S5) :: (30, S7) :: (33, S4) :: (34, (Vb a2)) :: (36, S5) :: (38, S6) :: (39, S5) :: (46, S4) :: (47, (Vb a2)) :: (49, (SG118 r26.2)) :: LP1, (Rw (Kl Kf) 62 (Vs wa0) r26.1) :: HP1⟩ : St)) ?_ ?_
 ·rintro ⟨⟩
  refine ax_rb (ix := 16) (last := #[true, true, true, true, false, false, true, true, false, true, true, true, true, false, true, true, true, false, false, true, true, false, true, false, false, false]) (by kernel_rfl) rfl (rb_move' rfl) rfl rfl (wt_none' rfl) rfl ?_
  exact tx_pick' [0] (sub_cons rfl (sub_cons rfl (sub_cons rfl (sub_cons rfl (sub_cons rfl (sub_cons rfl (sub_cons rfl (sub_cons rfl (sub_cons rfl (sub_cons rfl (sub_cons rfl (sub_cons rfl sub_nil)))))))))))) (by decide) (pick_cons rfl pick_nil) (hN9 ())
 intro hN6
 refine ax_node (f' := 12) #[true, true, true, true, true, false, true, true, false, true, true, true, true, false, false, false, false, false, false, true, true, false, true, false, false, false] (fun (v2 : Unit) => (⟨52, [], (27, S1) :: (28, S2) :: (31, S3) :: (33, S4) :: (34, (Vb a2)) :: (36, S5) :: (38, S6) :: (39, S5) :: (46, S4) :: (47, (Vb a2)) :: (49, (SG118 r26.2)) :: LP1, (Rw (Kl Kf) 62 (Vs wa0) r31.1) :: HP1⟩ : St)) ?_ ?_
 ·rintro ⟨⟩
  refine ax_rd (ix := 5) (last := #[true, true, true, true, true, true, true, true, false, true, true, true, true, false, false, false, false, false, false, true, true, false, true, false, false, false]) (by kernel_rfl) rfl (rd_assert' rfl (F := fun v => .iface 75 v) as75_131_133 as_if) rfl rfl (wt_none' rfl) rfl ?_
  exact tx_pick' [0] (sub_cons rfl (sub_cons rfl (sub_cons rfl (sub_cons rfl (sub_cons rfl (sub_cons rfl (sub_cons rfl (sub_cons rfl (sub_cons rfl (sub_cons rfl (sub_cons rfl sub_nil))))))))))) (by decide) (pick_cons rfl pick_nil) (hN4 ())
 intro hN2
 refine ax_node (f' := 12) #[true, true, true, true, false, false, true, true, false, true, true, true, true, false, true, false, false, false, false, true, true, false, true, false, false, false] (fun (v3 : Unit) => (⟨52, [], (27, S1) :: (28, S2) :: (29, S5) :: (30, S7) :: (33, S4) :: (34, (Vb a2)) :: (36, S5) :: (38, S6) :: (39, S5) :: (41, S8) :: (46, S4) :: (47, (Vb a2)) :: (49, (SG118 r26.2)) :: LP1, (Rw (Kl Kf) 62 (Vs wa0) r26.1) :: HP1⟩ : St)) ?_ ?_
 ·rintro ⟨⟩
  refine ax_all (i := 4) (is := [15]) (by kernel_rfl) (all_cons ?_ (all_cons ?_ all_nil))
  ·refine nx_oxb (is := [0]) (last := #[true, true, true, true, true, false, true, true, false, true, true, true, true, false, true, false, false, false, false, true, true, false, true, false, false, false]) rfl (oxb_callg (ent_inv' rfl rfl (inv_any2 inv75_Slice)) (kdtree_DoorPoints_Slice_sim _ _ _ _ _ hr31 : Sx.Fn Try.prog 139 [(Rvw (Vs wa0) (Kl Kf).size a0l a0n), (Vi 0), (Vi r16.2)] [(Rw (Kl Kf) 62 (Vs wa0) r26.1)] (fun x : Unit => (If 75 (Rvw (Vs wa0) (Kl Kf).size r31.2.1 r31.2.2))) (fun x => [(Rw (Kl Kf) 62 (Vs wa0) r31.1)])) [0] [] (by decide) (pick_cons rfl pick_nil) pick_nil (Hn := fun x : Unit => [(Rw (Kl Kf) 62 (Vs wa0) r31.1)]) (fun _ => rfl) rfl rfl) (pick_cons rfl pick_nil) rfl bl_nil (wt_none' rfl) rfl fun ⟨⟩ => ?_
   exact tx_pick' [0] (sub_cons rfl (sub_cons rfl (sub_cons rfl (sub_cons rfl (sub_cons rfl (sub_cons rfl (sub_cons rfl (sub_cons rfl (sub_cons rfl (sub_cons rfl (sub_cons rfl (sub_cons rfl sub_nil)))))))))))) (by decide) (pick_cons rfl pick_nil) (hN5 ())
  refine nx_rd (last := #[true, true, true, true, false, false, true, true, false, true, true, true, true, false, true, true, false, false, false, true, true, false, true, false, false, false]) rfl (rd_nilck_mf' rfl (fun _ _ v _ w => nla75_Slice_vw v w)) rfl rfl (wt_none' rfl) rfl ?_
  exact tx_pick' [0] (sub_cons rfl (sub_cons rfl (sub_cons rfl (sub_cons rfl (sub_cons rfl (sub_cons rfl (sub_cons rfl (sub_cons rfl (sub_cons rfl (sub_cons rfl (sub_cons rfl (sub_cons rfl sub_nil)))))))))))) (by decide) (pick_cons rfl pick_nil) (hN6 ())
 intro hN3
 refine ax_all (i := 4) (is := [14]) (by kernel_rfl) (all_cons ?_ (all_cons ?_ all_nil))
 ·refine nx_oxb (is := [0]) (last := #[true, true, true, true, true, false, true, true, false, true, true, true, true, false, false, false, false, false, false, true, true, false, true, false, false, false]) rfl (oxb_callg (ent_inv' rfl rfl (inv_any2 inv75_Slice)) (kdtree_DoorPoints_Slice_sim _ _ _ _ _ hr31 : Sx.Fn Try.prog 139 [(Rvw (Vs wa0) (Kl Kf).size a0l a0n), (Vi 0), (Vi r16.2)] [(Rw (Kl Kf) 62 (Vs wa0) r26.1)] (fun x : Unit => (If 75 (Rvw (Vs wa0) (Kl Kf).size r31.2.1 r31.2.2))) (fun x => [(Rw (Kl Kf) 62 (Vs wa0) r31.1)])) [0] [] (by decide) (pick_cons rfl pick_nil) pick_nil (Hn := fun x : Unit => [(Rw (Kl Kf) 62 (Vs wa0) r31.1)]) (fun _ => rfl) rfl rfl) (pick_cons rfl pick_nil) rfl bl_nil (wt_none' rfl) rfl fun ⟨⟩ => ?_
  exact tx_pick' [0] (sub_cons rfl (sub_cons rfl (sub_cons rfl (sub_cons rfl (sub_cons rfl (sub_cons rfl (sub_cons rfl (sub_cons rfl (sub_cons rfl (sub_cons rfl (sub_cons rfl sub_nil))))))))))) (by decide) (pick_cons rfl pick_nil) (hN2 ())
 refine nx_rd (last := #[true, true, true, true, false, false, true, true, false, true, true, true, true, false, true, false, false, false, false, true, true, false, true, false, false, false]) rfl (rd_mkmeth' rfl) rfl rfl (wt_none' rfl) rfl ?_
 exact tx_pick' [0] (sub_cons rfl (sub_cons rfl (sub_cons rfl (sub_cons rfl (sub_cons rfl (sub_cons rfl (sub_cons rfl (sub_cons rfl (sub_cons rfl (sub_cons rfl (sub_cons rfl (sub_cons rfl (sub_cons rfl sub_nil))))))))))))) (by decide) (pick_cons rfl pick_nil) (hN3 ())
theorem kdtree_buildBounded_simA : ∀ (k : Nat) (wa0 : Gs) (a0 : List (List Nat)) (a0l : Nat) (a0n : Nat) (a1 : Int) (a2 : Bool) (out : (List (List Nat)) × G66), kdtree_buildBounded k a0 a0l a0n a1 a2 = some out → Sx.Fn Try.prog 66 [(If 75 (Rvw (Vs wa0) (Kl Kf).size a0l a0n)), (Vi a1), (Vb a2)] [(Rw (Kl Kf) 62 (Vs wa0) a0)] (fun w : Unit => (SG66 out.2)) (fun w => [(Rw (Kl Kf) 62 (Vs wa0) out.1)]) := by
 intro k
 induction k with
 | zero => intro wa0 a0 a0l a0n a1 a2 out hp; cases hp
 | succ k ih => intro wa0 a0 a0l a0n a1 a2 out hp; exact kdtree_buildBounded_b_sim ih a0 a0l a0n a1 a2 hp
theorem kdtree_buildBounded_sim {k : Nat} {wa0 : Gs} (a0 : List (List Nat)) (a0l : Nat) (a0n : Nat) (a1 : Int) (a2 : Bool) {out : (List (List Nat)) × G66} (hp : kdtree_buildBounded k a0 a0l a0n a1 a2 = some out) : Sx.Fn Try.prog 66 [(If 75 (Rvw (Vs wa0) (Kl Kf).size a0l a0n)), (Vi a1), (Vb a2)] [(Rw (Kl Kf) 62 (Vs wa0) a0)] (fun w : Unit => (SG66 out.2)) (fun w => [(Rw (Kl Kf) 62 (Vs wa0) out.1)]) := kdtree_buildBounded_simA k wa0 a0 a0l a0n a1 a2 out hp

def kdtree_build_b (recf : (List (List Nat)) → Nat → Nat → Int → Option ((List (List Nat)) × G66)) (k : Nat) (a0 : List (List Nat)) (a0l : Nat) (a0n : Nat) (a1 : Int) : Option ((List (List Nat)) × G66) :=
 (kdtree_DoorPoints_Len k a0 a0l a0n) >>= fun r9 =>
 br (decide (r9.2 = 0))
  (some (r9.1, G66.c0))
  ((kdtree_DoorPoints_Pivot k r9.1 a0l a0n a1) >>= fun r13 =>
  (kdtree_DoorPoints_Index k r13.1 a0l a0n r13.2) >>= fun r16 =>
  (kdtree_Point_Dims k r16.2) >>= fun r20 =>
  (irem (iadd .i64 a1 1) r20) >>= fun r21 =>
  (kdtree_DoorPoints_Slice k r16.1 a0l a0n 0 r13.2) >>= fun r26 =>
  (recf r26.1 r26.2.1 r26.2.2 r21) >>= fun r28 =>
  (kdtree_DoorPoints_Len k r28.1 a0l a0n) >>= fun r33 =>
  (kdtree_DoorPoints_Slice k r33.1 a0l a0n (iadd .i64 r13.2 1) r33.2) >>= fun r37 =>
  (recf r37.1 r37.2.1 r37.2.2 r21) >>= fun r39 =>
  some (r39.1, (G66.c1 (G116.c0 r16.2) a1 r28.2 r39.2 G118.c0)))
def kdtree_build : Nat → (List (List Nat)) → Nat → Nat → Int → Option ((List (List Nat)) × G66)
 | 0 => fun _ _ _ _ => none
 | k + 1 => fun a0 a0l a0n a1 => kdtree_build_b (kdtree_build k) k a0 a0l a0n a1

theorem kdtree_build_b_sim {recf : (List (List Nat)) → Nat → Nat → Int → Option ((List (List Nat)) × G66)} (hrec : ∀ (wa0 : Gs) (a0 : List (List Nat)) (a0l : Nat) (a0n : Nat) (a1 : Int) (out : (List (List Nat)) × G66), recf a0 a0l a0n a1 = some out → Sx.Fn Try.prog 67 [(If 75 (Rvw (Vs wa0) (Kl Kf).size a0l a0n)), (Vi a1)] [(Rw (Kl Kf) 62 (Vs wa0) a0)] (fun w : Unit => (SG66 out.2)) (fun w => [(Rw (Kl Kf) 62 (Vs wa0) out.1)])) {k : Nat} {wa0 : Gs} (a0 : List (List Nat)) (a0l : Nat) (a0n : Nat) (a1 : Int) {out : (List (List Nat)) × G66} (hp : kdtree_build_b recf k a0 a0l a0n a1 = some out) : Sx.Fn Try.prog 67 [(If 75 (Rvw (Vs wa0) (Kl Kf).size a0l a0n)), (Vi a1)] [(Rw (Kl Kf) 62 (Vs wa0) a0)] (fun w : Unit => (SG66 out.2)) (fun w => [(Rw (Kl Kf) 62 (Vs wa0) out.1)]) := by
 unfold kdtree_build_b at hp
 refine fn_of Try.func67 rfl Try.ntmps67 rfl fun E hM => ?_
 refine cr fun K1 hK1 => ?_
 refine s0 (rd_assign' rfl) ?_
 refine nk hK1 ?_
 refine cx_seq' fun K2 hK2 => ?_
 refine cr fun K3 hK3 => ?_
 refine s0 (rd_move' rfl) ?_
 obtain ⟨r9, hr9, hp⟩ := bind_some hp
 refine sx_ox' (ox_callg' (ent_inv' rfl rfl (inv_any0 inv75_Len)) (kdtree_DoorPoints_Len_sim _ _ _ hr9 : Sx.Fn Try.prog 137 [(Rvw (Vs wa0) (Kl Kf).size a0l a0n)] [(Rw (Kl Kf) 62 (Vs wa0) a0)] (fun x : Unit => (Vi r9.2)) (fun x => [(Rw (Kl Kf) 62 (Vs wa0) r9.1)])) [0] [] (by decide) (pick_cons rfl pick_nil) pick_nil (Hn := fun x : Unit => [(Rw (Kl Kf) 62 (Vs wa0) r9.1)]) (fun _ => rfl) rfl rfl) (wt_none' rfl) fun ⟨⟩ => ?_
 refine s0 (rd_bin' rfl rfl eg_int ru_eql) ?_
 refine nk hK3 ?_
 refine cx_cond' rfl (fun h1 => ?_) (fun h1 => ?_)
 ·replace hp := (br_t h1).symm.trans hp
  refine cr fun K4 hK4 => ?_
  refine s0 (rd_assign' rfl) ?_
  refine nk hK4 ?_
  refine cx_retc' ?_
  replace hp := Option.some.inj hp
  subst hp
  refine tx_slot' 4 (y := (SG66 G66.c0)) rfl (imp_eq SG66_c0.symm) ?_
  refine tx_pick' (L' := [(4, (SG66 G66.c0))]) (H' := [(Rw (Kl Kf) 62 (Vs wa0) r9.1)]) [0] (sub_cons rfl sub_nil) (by decide) (pick_cons rfl pick_nil) ?_
  exact tx_ret1' Try.results67 rfl () (rv_tmp' rfl) (List.Sublist.refl _)
 replace hp := (br_f h1).symm.trans hp
 refine cx_skip' ?_
 show TX E K2 _
 refine tx_k' hK2 ?_
 refine cr fun K5 hK5 => ?_
 refine s0 (rd_move' rfl) ?_
 refine s0 (rd_move' rfl) ?_
 obtain ⟨r13, hr13, hp⟩ := bind_some hp
 refine sx_ox' (ox_callg' (ent_inv' rfl rfl (inv_any1 inv75_Pivot)) (kdtree_DoorPoints_Pivot_sim _ _ _ _ hr13 : Sx.Fn Try.prog 138 [(Rvw (Vs wa0) (Kl Kf).size a0l a0n), (Vi a1)] [(Rw (Kl Kf) 62 (Vs wa0) r9.1)] (fun x : Unit => (Vi r13.2)) (fun x => [(Rw (Kl Kf) 62 (Vs wa0) r13.1)])) [0] [] (by decide) (pick_cons rfl pick_nil) pick_nil (Hn := fun x : Unit => [(Rw (Kl Kf) 62 (Vs wa0) r13.1)]) (fun _ => rfl) rfl rfl) (wt_none' rfl) fun ⟨⟩ => ?_
 refine s0 (rd_assign' rfl) ?_
 refine nk hK5 ?_
 refine cr fun K6 hK6 => ?_
 refine s0 (rd_move' rfl) ?_
 refine s0 (rd_move' rfl) ?_
 obtain ⟨r16, hr16, hp⟩ := bind_some hp
 refine sx_ox' (ox_callg' (ent_inv' rfl rfl (inv_any1 inv75_Index)) (kdtree_DoorPoints_Index_sim _ _ _ _ hr16 : Sx.Fn Try.prog 136 [(Rvw (Vs wa0) (Kl Kf).size a0l a0n), (Vi r13.2)] [(Rw (Kl Kf) 62 (Vs wa0) r13.1)] (fun x : Unit => (If 62 (Sl Kf r16.2))) (fun x => [(Rw (Kl Kf) 62 (Vs wa0) r16.1)])) [0] [] (by decide) (pick_cons rfl pick_nil) pick_nil (Hn := fun x : Unit => [(Rw (Kl Kf) 62 (Vs wa0) r16.1)]) (fun _ => rfl) rfl rfl) (wt_none' rfl) fun ⟨⟩ => ?_
 refine s0 (rd_assign' rfl) ?_
 refine nk hK6 ?_
 refine cr fun K7 hK7 => ?_
 refine s0 (rd_move' rfl) ?_
 refine s0 (rd_bin' rfl rfl eg_int ru_add) ?_
 refine s0 (rd_move' rfl) ?_
 obtain ⟨r20, hr20, hp⟩ := bind_some hp
 refine sx_ox' (ox_calln' (ent_inv' rfl rfl (inv_any0 inv62_Dims)) (kdtree_Point_Dims_sim _ hr20 : Sx.Fn Try.prog 121 [(Sl Kf r16.2)] [] (fun x : Unit => (Vi r20)) (fun x => [])) (Hn := fun x : Unit => [(Rw (Kl Kf) 62 (Vs wa0) r16.1)]) (fun _ => rfl) rfl rfl) (wt_none' rfl) fun ⟨⟩ => ?_
 obtain ⟨r21, hr21, hp⟩ := bind_some hp
 refine s0 (rd_bin' rfl rfl eg_int (ru_rem hr21)) ?_
 refine s0 (rd_assign' rfl) ?_
 refine nk hK7 ?_
 refine cx_seq' fun K8 hK8 => ?_
 refine cx_plana' [] [(4, 1), (6, 1), (11, 1), (15, 1), (17, 1)] [(0, 2), (1, 2), (2, 1), (3, 1), (5, 2), (7, 2), (8, 2), (9, 2), (10, 2), (16, 2)] 11 #[true, true, true, true, false, true, false, true, true, true, true, false, false, false, false, false, true, false, false, false, false] mixed (by kernel_rfl) ?_
 refine px_rb' rfl (rb_move' rfl) rfl rfl (wt_none' rfl) ?_
 refine px_rb' rfl (rb_move' rfl) rfl rfl (wt_none' rfl) ?_
 refine px_rd' rfl (rd_move' rfl) rfl rfl (wt_none' rfl) ?_
 refine px_rd' rfl (rd_move' rfl) rfl rfl (wt_none' rfl) ?_
 refine px_rb' rfl (rb_move' rfl) rfl rfl (wt_none' rfl) ?_
 refine px_rb' rfl (rb_move' rfl) rfl rfl (wt_none' rfl) ?_
 refine px_rb' rfl (rb_move' rfl) rfl rfl (wt_none' rfl) ?_
 refine px_rb' rfl (rb_bin' rfl rfl eg_int ru_add) rfl rfl (wt_none' rfl) ?_
 refine px_rb' rfl (rb_move' rfl) rfl rfl (wt_none' rfl) ?_
 refine px_rb' rfl (rb_move' rfl) rfl rfl (wt_none' rfl) ?_
 refine px_nil' ?_
 show AX E _ _ _ _ _ _ _ _
 obtain ⟨r26, hr26, hp⟩ := bind_some hp
 obtain ⟨r28, hr28, hp⟩ := bind_some hp
 obtain ⟨r33, hr33, hp⟩ := bind_some hp
 obtain ⟨r37, hr37, hp⟩ := bind_some hp
 obtain ⟨r39, hr39, hp⟩ := bind_some hp
 let LP1 : List (Nat × SV) := []
 let HP1 : List Res := []
 have hLP1 : Sub LP1 LP1 := sub_nil
 have hHP1 : PickAt HP1 [] HP1 := pick_nil
 let S1 : SV := (If 62 (Sl Kf r16.2))
 let S2 : SV := (Vi a1)
 let S3 : SV := (If 75 (Rvw (Vs wa0) (Kl Kf).size r26.2.1 r26.2.2))
 let S4 : SV := (Vi r21)
 let S5 : SV := (If 75 (Rvw (Vs wa0) (Kl Kf).size a0l a0n))
 let S6 : SV := (Vi (iadd .i64 r13.2 1))
 let S7 : SV := (Vi r13.2)
 let S8 : SV := (Mf "Slice" (If 75 (Rvw (Vs wa0) (Kl Kf).size a0l a0n)))
 let S9 : SV := (Vi r33.2)
 let S10 : SV := (If 75 (Rvw (Vs wa0) (Kl Kf).size r37.2.1 r37.2.2))
 let S11 : SV := (Ag [(If 62 (Sl Kf r16.2)), (Vi a1), (SG66 r28.2), (SG66 r39.2), (Vl (.pointer none))])
 refine ax_node (f' := 0) #[true, true, true, true, true, true, true, true, true, true, true, true, true, true, true, true, true, true, true, true, true] (fun (v21 : Addr) => (⟨42, [], [(4, (Vp v21))], [⟨.pointer (some v21), [(If 62 (Sl Kf r16.2)), (Vi a1), (SG66 r28.2), (SG66 r39.2), (Vl (.pointer none))], 120, none⟩, (Rw (Kl Kf) 62 (Vs wa0) r39.1)]⟩ : St)) ?_ ?_
 ·rintro q902
  refine ax_nil (by kernel_rfl) ?_
  show TX E K8 _
  refine tx_k' hK8 ?_
  refine cx_retc' ?_
  replace hp := Option.some.inj hp
  subst hp
  refine tx_cell' 0 0 (y := (SG116 (G116.c0 r16.2))) rfl rfl (imp_eq (SG116_c0 r16.2).symm) (H' := [⟨.pointer (some q902), [(SG116 (G116.c0 r16.2)), (Vi a1), (SG66 r28.2), (SG66 r39.2), (Vl (.pointer none))], 120, none⟩, (Rw (Kl Kf) 62 (Vs wa0) r39.1)]) rfl ?_
  refine tx_cell' 0 4 (y := (SG118 G118.c0)) rfl rfl (imp_eq SG118_c0.symm) (H' := [⟨.pointer (some q902), [(SG116 (G116.c0 r16.2)), (Vi a1), (SG66 r28.2), (SG66 r39.2), (SG118 G118.c0)], 120, none⟩, (Rw (Kl Kf) 62 (Vs wa0) r39.1)]) rfl ?_
  refine tx_fz' (frz_var 0 [(4, (Vp q902), (Pt [(SG116 (G116.c0 r16.2)), (Vi a1), (SG66 r28.2), (SG66 r39.2), (SG118 G118.c0)]))] rfl ⟨⟨rfl, frz_it⟩, trivial⟩ (H' := [(Rw (Kl Kf) 62 (Vs wa0) r39.1)]) frzH_refl) ?_
  refine tx_slot' 4 (y := (SG66 (G66.c1 (G116.c0 r16.2) a1 r28.2 r39.2 G118.c0))) rfl (imp_eq (SG66_c1 (G116.c0 r16.2) a1 r28.2 r39.2 G118.c0).symm) ?_
  refine tx_pick' (L' := [(4, (SG66 (G66.c1 (G116.c0 r16.2) a1 r28.2 r39.2 G118.c0)))]) (H' := [(Rw (Kl Kf) 62 (Vs wa0) r39.1)]) [0] (sub_cons rfl sub_nil) (by decide) (pick_cons rfl pick_nil) ?_
  exact tx_ret1' Try.results67 rfl () (rv_tmp' rfl) (List.Sublist.refl _)
 intro hN21
 refine ax_node (f' := 1) #[true, true, true, true, true, true, true, true, true, true, true, true, true, true, true, true, true, true, true, true, false] (fun (v20 : Addr) => (⟨42, [], (41, (Vp v20)) :: LP1, ⟨.pointer (some v20), [(If 62 (Sl Kf r16.2)), (Vi a1), (SG66 r28.2), (SG66 r39.2), (Vl (.pointer none))], 120, none⟩ :: (Rw (Kl Kf) 62 (Vs wa0) r39.1) :: HP1⟩ : St)) ?_ ?_
 ·rintro q901
  refine ax_rd (ix := 20) (last := #[true, true, true, true, true, true, true, true, true, true, true, true, true, true, true, true, true, true, true, true, true]) (by kernel_rfl) rfl (rd_assign' rfl) rfl rfl (wt_none' rfl) rfl ?_
  exact tx_pick' [0, 1] (sub_cons rfl sub_nil) (by decide) (pick_cons rfl (pick_cons rfl pick_nil)) (hN21 q901)
 intro hN20
 refine ax_node (f' := 2) #[true, true, true, true, true, true, true, true, true, true, true, true, true, true, true, true, true, true, true, false, false] (fun (v19 : Unit) => (⟨42, [], (40, S11) :: LP1, (Rw (Kl Kf) 62 (Vs wa0) r39.1) :: HP1⟩ : St)) ?_ ?_
 ·rintro ⟨⟩
  refine ax_all (i := 19) (is := []) (by kernel_rfl) (all_cons ?_ all_nil)
  ·refine nx_ox (last := #[true, true, true, true, true, true, true, true, true, true, true, true, true, true, true, true, true, true, true, true, false]) rfl (ox_box' rfl (lv_ag _) rfl rfl) rfl bs_nil (wt_none' rfl) rfl fun q41 => ?_
   exact tx_pick' [0, 1] (sub_cons rfl sub_nil) (by decide) (pick_cons rfl (pick_cons rfl pick_nil)) (hN20 q41)
 intro hN19
 refine ax_node (f' := 3) #[true, true, true, true, true, true, true, true, true, true, true, true, true, true, true, true, true, true, false, false, false] (fun (v18 : Unit) => (⟨42, [], (22, S1) :: (23, S2) :: (28, (SG66 r28.2)) :: (39, (SG66 r39.2)) :: LP1, (Rw (Kl Kf) 62 (Vs wa0) r39.1) :: HP1⟩ : St)) ?_ ?_
 ·rintro ⟨⟩
  refine ax_rd (ix := 18) (last := #[true, true, true, true, true, true, true, true, true, true, true, true, true, true, true, true, true, true, true, false, false]) (by kernel_rfl) rfl (rd_build' (pls := [(0, 1), (1, 1), (2, 1), (3, 1), (4, 1)]) (qs := [(0, [(If 62 (Sl Kf r16.2))]), (1, [(Vi a1)]), (2, [(SG66 r28.2)]), (3, [(SG66 r39.2)]), (4, [(Vl (.pointer none))])]) (r := [(If 62 (Sl Kf r16.2)), (Vi a1), (SG66 r28.2), (SG66 r39.2), (Vl (.pointer none))]) ⟨rfl, ⟨_, rfl, (lv_if _ _)⟩, ⟨rfl, ⟨_, rfl, (lv_vl rfl rfl)⟩, ⟨rfl, ⟨_, rfl, (SG66_lv r28.2)⟩, ⟨rfl, ⟨_, rfl, (SG66_lv r39.2)⟩, ⟨rfl, ⟨_, rfl, (lv_vl rfl rfl)⟩, trivial⟩⟩⟩⟩⟩ Try.underlying120 has120 places120 info120 rfl rfl rfl) rfl rfl (wt_none' rfl) rfl ?_
  exact tx_pick' [0] (sub_cons rfl sub_nil) (by decide) (pick_cons rfl pick_nil) (hN19 ())
 intro hN18
 refine ax_node (f' := 4) #[true, true, true, true, true, true, true, true, true, true, true, true, true, true, true, true, true, false, false, false, false] (fun (v17 : Unit) => (⟨42, [], (22, S1) :: (23, S2) :: (28, (SG66 r28.2)) :: (37, S10) :: (38, S4) :: LP1, (Rw (Kl Kf) 62 (Vs wa0) r37.1) :: HP1⟩ : St)) ?_ ?_
 ·rintro ⟨⟩
  refine ax_all (i := 17) (is := []) (by kernel_rfl) (all_cons ?_ all_nil)
  ·refine nx_oxb (is := [0]) (last := #[true, true, true, true, true, true, true, true, true, true, true, true, true, true, true, true, true, true, false, false, false]) rfl (oxb_callg (ent_fn' Try.func67 isn67 rfl rfl) (hrec _ _ _ _ _ _ hr39 : Sx.Fn Try.prog 67 [(If 75 (Rvw (Vs wa0) (Kl Kf).size r37.2.1 r37.2.2)), (Vi r21)] [(Rw (Kl Kf) 62 (Vs wa0) r37.1)] (fun x : Unit => (SG66 r39.2)) (fun x => [(Rw (Kl Kf) 62 (Vs wa0) r39.1)])) [0] [] (by decide) (pick_cons rfl pick_nil) pick_nil (Hn := fun x : Unit => [(Rw (Kl Kf) 62 (Vs wa0) r39.1)]) (fun _ => rfl) rfl rfl) (pick_cons rfl pick_nil) rfl bl_nil (wt_none' rfl) rfl fun ⟨⟩ => ?_
   exact tx_pick' [0] (sub_cons rfl (sub_cons rfl (sub_cons rfl (sub_cons rfl sub_nil)))) (by decide) (pick_cons rfl pick_nil) (hN18 ())
 intro hN17
 refine ax_node (f' := 5) #[true, true, true, true, true, true, true, true, true, true, true, true, true, true, true, false, true, false, false, false, false] (fun (v16 : Unit) => (⟨42, [], (22, S1) :: (23, S2) :: (28, (SG66 r28.2)) :: (31, S6) :: (33, S9) :: (36, S5) :: (38, S4) :: LP1, (Rw (Kl Kf) 62 (Vs wa0) r33.1) :: HP1⟩ : St)) ?_ ?_
 ·rintro ⟨⟩
  refine ax_all (i := 15) (is := []) (by kernel_rfl) (all_cons ?_ all_nil)
  ·refine nx_oxb (is := [0]) (last := #[true, true, true, true, true, true, true, true, true, true, true, true, true, true, true, true, true, false, false, false, false]) rfl (oxb_callg (ent_inv' rfl rfl (inv_any2 inv75_Slice)) (kdtree_DoorPoints_Slice_sim _ _ _ _ _ hr37 : Sx.Fn Try.prog 139 [(Rvw (Vs wa0) (Kl Kf).size a0l a0n), (Vi (iadd .i64 r13.2 1)), (Vi r33.2)] [(Rw (Kl Kf) 62 (Vs wa0) r33.1)] (fun x : Unit => (If 75 (Rvw (Vs wa0) (Kl Kf).size r37.2.1 r37.2.2))) (fun x => [(Rw (Kl Kf) 62 (Vs wa0) r37.1)])) [0] [] (by decide) (pick_cons rfl pick_nil) pick_nil (Hn := fun x : Unit => [(Rw (Kl Kf) 62 (Vs wa0) r37.1)]) (fun _ => rfl) rfl rfl) (pick_cons rfl pick_nil) rfl bl_nil (wt_none' rfl) rfl fun ⟨⟩ => ?_
   exact tx_pick' [0] (sub_cons rfl (sub_cons rfl (sub_cons rfl (sub_cons rfl (sub_cons rfl sub_nil))))) (by decide) (pick_cons rfl pick_nil) (hN17 ())
 intro hN16
 refine ax_node (f' := 6) #[true, true, true, true, true, true, true, true, true, true, true, true, true, true, false, false, true, false, false, false, false] (fun (v14 : Unit) => (⟨42, [], (22, S1) :: (23, S2) :: (28, (SG66 r28.2)) :: (29, S5) :: (31, S6) :: (33, S9) :: (38, S4) :: LP1, (Rw (Kl Kf) 62 (Vs wa0) r33.1) :: HP1⟩ : St)) ?_ ?_
 ·rintro ⟨⟩
  refine ax_rd (ix := 14) (last := #[true, true, true, true, true, true, true, true, true, true, true, true, true, true, true, false, true, false, false, false, false]) (by kernel_rfl) rfl (rd_move' rfl) rfl rfl (wt_none' rfl) rfl ?_
  exact tx_pick' [0] (sub_cons rfl (sub_cons rfl (sub_cons rfl (sub_cons rfl (sub_cons rfl (sub_cons rfl (sub_cons rfl sub_nil))))))) (by decide) (pick_cons rfl pick_nil) (hN16 ())
 intro hN14
 refine ax_node (f' := 6) #[true, true, true, true, true, true, true, true, true, true, true, false, true, true, true, false, true, false, false, false, false] (fun (v15 : Unit) => (⟨42, [], (22, S1) :: (23, S2) :: (28, (SG66 r28.2)) :: (31, S6) :: (32, S5) :: (36, S5) :: (38, S4) :: LP1, (Rw (Kl Kf) 62 (Vs wa0) r28.1) :: HP1⟩ : St)) ?_ ?_
 ·rintro ⟨⟩
  refine ax_all (i := 11) (is := []) (by kernel_rfl) (all_cons ?_ all_nil)
  ·refine nx_oxb (is := [0]) (last := #[true, true, true, true, true, true, true, true, true, true, true, true, true, true, true, false, true, false, false, false, false]) rfl (oxb_callg (ent_inv' rfl rfl (inv_any0 inv75_Len)) (kdtree_DoorPoints_Len_sim _ _ _ hr33 : Sx.Fn Try.prog 137 [(Rvw (Vs wa0) (Kl Kf).size a0l a0n)] [(Rw (Kl Kf) 62 (Vs wa0) r28.1)] (fun x : Unit => (Vi r33.2)) (fun x => [(Rw (Kl Kf) 62 (Vs wa0) r33.1)])) [0] [] (by decide) (pick_cons rfl pick_nil) pick_nil (Hn := fun x : Unit => [(Rw (Kl Kf) 62 (Vs wa0) r33.1)]) (fun _ => rfl) rfl rfl) (pick_cons rfl pick_nil) rfl bl_nil (wt_none' rfl) rfl fun ⟨⟩ => ?_
   exact tx_pick' [0] (sub_cons rfl (sub_cons rfl (sub_cons rfl (sub_cons rfl (sub_cons rfl (sub_cons rfl (sub_cons rfl sub_nil))))))) (by decide) (pick_cons rfl pick_nil) (hN16 ())
 intro hN15
 refine ax_node (f' := 7) #[true, true, true, true, true, true, true, true, true, true, true, true, true, false, false, false, true, false, false, false, false] (fun (v11 : Unit) => (⟨42, [], (22, S1) :: (23, S2) :: (28, (SG66 r28.2)) :: (29, S5) :: (31, S6) :: (33, S9) :: (34, S8) :: (38, S4) :: LP1, (Rw (Kl Kf) 62 (Vs wa0) r33.1) :: HP1⟩ : St)) ?_ ?_
 ·rintro ⟨⟩
  refine ax_rd (ix := 13) (last := #[true, true, true, true, true, true, true, true, true, true, true, true, true, true, false, false, true, false, false, false, false]) (by kernel_rfl) rfl (rd_nilck_mf' rfl (fun _ _ v _ w => nla75_Slice_vw v w)) rfl rfl (wt_none' rfl) rfl ?_
  exact tx_pick' [0] (sub_cons rfl (sub_cons rfl (sub_cons rfl (sub_cons rfl (sub_cons rfl (sub_cons rfl (sub_cons rfl sub_nil))))))) (by decide) (pick_cons rfl pick_nil) (hN14 ())
 intro hN11
 refine ax_node (f' := 7) #[true, true, true, true, true, true, true, true, true, true, true, false, true, true, false, false, true, false, false, false, false] (fun (v12 : Unit) => (⟨42, [], (22, S1) :: (23, S2) :: (28, (SG66 r28.2)) :: (29, S5) :: (31, S6) :: (32, S5) :: (38, S4) :: LP1, (Rw (Kl Kf) 62 (Vs wa0) r28.1) :: HP1⟩ : St)) ?_ ?_
 ·rintro ⟨⟩
  refine ax_rb (ix := 14) (last := #[true, true, true, true, true, true, true, true, true, true, true, false, true, true, true, false, true, false, false, false, false]) (by kernel_rfl) rfl (rb_move' rfl) rfl rfl (wt_none' rfl) rfl ?_
  exact tx_pick' [0] (sub_cons rfl (sub_cons rfl (sub_cons rfl (sub_cons rfl (sub_cons rfl (sub_cons rfl (sub_cons rfl sub_nil))))))) (by decide) (pick_cons rfl pick_nil) (hN15 ())
 intro hN12
 refine ax_node (f' := 7) #[true, true, true, true, true, true, false, true, true, true, true, false, true, true, true, false, true, false, false, false, false] (fun (v13 : Unit) => (⟨42, [], (22, S1) :: (23, S2) :: (26, S3) :: (27, S4) :: (31, S6) :: (32, S5) :: (36, S5) :: (38, S4) :: LP1, (Rw (Kl Kf) 62 (Vs wa0) r26.1) :: HP1⟩ : St)) ?_ ?_
 ·rintro ⟨⟩
  refine ax_all (i := 6) (is := []) (by kernel_rfl) (all_cons ?_ all_nil)
  ·refine nx_oxb (is := [0]) (last := #[true, true, true, true, true, true, true, true, true, true, true, false, true, true, true, false, true, false, false, false, false]) rfl (oxb_callg (ent_fn' Try.func67 isn67 rfl rfl) (hrec _ _ _ _ _ _ hr28 : Sx.Fn Try.prog 67 [(If 75 (Rvw (Vs wa0) (Kl Kf).size r26.2.1 r26.2.2)), (Vi r21)] [(Rw (Kl Kf) 62 (Vs wa0) r26.1)] (fun x : Unit => (SG66 r28.2)) (fun x => [(Rw (Kl Kf) 62 (Vs wa0) r28.1)])) [0] [] (by decide) (pick_cons rfl pick_nil) pick_nil (Hn := fun x : Unit => [(Rw (Kl Kf) 62 (Vs wa0) r28.1)]) (fun _ => rfl) rfl rfl) (pick_cons rfl pick_nil) rfl bl_nil (wt_none' rfl) rfl fun ⟨⟩ => ?_
   exact tx_pick' [0] (sub_cons rfl (sub_cons rfl (sub_cons rfl (sub_cons rfl (sub_cons rfl (sub_cons rfl (sub_cons rfl sub_nil))))))) (by decide) (pick_cons rfl pick_nil) (hN15 ())
 intro hN13
 refine ax_node (f' := 8) #[true, true, true, true, true, true, true, true, true, true, true, true, false, false, false, false, true, false, false, false, false] (fun (v7 : Unit) => (⟨42, [], (22, S1) :: (23, S2) :: (28, (SG66 r28.2)) :: (29, S5) :: (31, S6) :: (33, S9) :: (38, S4) :: LP1, (Rw (Kl Kf) 62 (Vs wa0) r33.1) :: HP1⟩ : St)) ?_ ?_
 ·rintro ⟨⟩
  refine ax_rd (ix := 12) (last := #[true, true, true, true, true, true, true, true, true, true, true, true, true, false, false, false, true, false, false, false, false]) (by kernel_rfl) rfl (rd_mkmeth' rfl) rfl rfl (wt_none' rfl) rfl ?_
  exact tx_pick' [0] (sub_cons rfl (sub_cons rfl (sub_cons rfl (sub_cons rfl (sub_cons rfl (sub_cons rfl (sub_cons rfl (sub_cons rfl sub_nil)))))))) (by decide) (pick_cons rfl pick_nil) (hN11 ())
 intro hN7
 refine ax_node (f' := 8) #[true, true, true, true, true, true, true, true, true, true, true, false, true, false, false, false, true, false, false, false, false] (fun (v8 : Unit) => (⟨42, [], (22, S1) :: (23, S2) :: (28, (SG66 r28.2)) :: (29, S5) :: (31, S6) :: (32, S5) :: (34, S8) :: (38, S4) :: LP1, (Rw (Kl Kf) 62 (Vs wa0) r28.1) :: HP1⟩ : St)) ?_ ?_
 ·rintro ⟨⟩
  refine ax_all (i := 11) (is := [13]) (by kernel_rfl) (all_cons ?_ (all_cons ?_ all_nil))
  ·refine nx_oxb (is := [0]) (last := #[true, true, true, true, true, true, true, true, true, true, true, true, true, false, false, false, true, false, false, false, false]) rfl (oxb_callg (ent_inv' rfl rfl (inv_any0 inv75_Len)) (kdtree_DoorPoints_Len_sim _ _ _ hr33 : Sx.Fn Try.prog 137 [(Rvw (Vs wa0) (Kl Kf).size a0l a0n)] [(Rw (Kl Kf) 62 (Vs wa0) r28.1)] (fun x : Unit => (Vi r33.2)) (fun x => [(Rw (Kl Kf) 62 (Vs wa0) r33.1)])) [0] [] (by decide) (pick_cons rfl pick_nil) pick_nil (Hn := fun x : Unit => [(Rw (Kl Kf) 62 (Vs wa0) r33.1)]) (fun _ => rfl) rfl rfl) (pick_cons rfl pick_nil) rfl bl_nil (wt_none' rfl) rfl fun ⟨⟩ => ?_
   exact tx_pick' [0] (sub_cons rfl (sub_cons rfl (sub_cons rfl (sub_cons rfl (sub_cons rfl (sub_cons rfl (sub_cons rfl (sub_cons rfl sub_nil)))))))) (by decide) (pick_cons rfl pick_nil) (hN11 ())
  refine nx_rd (last := #[true, true, true, true, true, true, true, true, true, true, true, false, true, true, false, false, true, false, false, false, false]) rfl (rd_nilck_mf' rfl (fun _ _ v _ w => nla75_Slice_vw v w)) rfl rfl (wt_none' rfl) rfl ?_
  exact tx_pick' [0] (sub_cons rfl (sub_cons rfl (sub_cons rfl (sub_cons rfl (sub_cons rfl (sub_cons rfl (sub_cons rfl sub_nil))))))) (by decide) (pick_cons rfl pick_nil) (hN12 ())
 intro hN8
 refine ax_node (f' := 8) #[true, true, true, true, true, true, false, true, true, true, true, false, true, true, false, false, true, false, false, false, false] (fun (v9 : Unit) => (⟨42, [], (22, S1) :: (23, S2) :: (26, S3) :: (27, S4) :: (29, S5) :: (31, S6) :: (32, S5) :: (38, S4) :: LP1, (Rw (Kl Kf) 62 (Vs wa0) r26.1) :: HP1⟩ : St)) ?_ ?_
 ·rintro ⟨⟩
  refine ax_rb (ix := 14) (last := #[true, true, true, true, true, true, false, true, true, true, true, false, true, true, true, false, true, false, false, false, false]) (by kernel_rfl) rfl (rb_move' rfl) rfl rfl (wt_none' rfl) rfl ?_
  exact tx_pick' [0] (sub_cons rfl (sub_cons rfl (sub_cons rfl (sub_cons rfl (sub_cons rfl (sub_cons rfl (sub_cons rfl (sub_cons rfl sub_nil)))))))) (by decide) (pick_cons rfl pick_nil) (hN13 ())
 intro hN9
 refine ax_node (f' := 8) #[true, true, true, true, false, true, false, true, true, true, true, false, true, true, true, false, true, false, false, false, false] (fun (v10 : Unit) => (⟨42, [], (22, S1) :: (23, S2) :: (24, S5) :: (25, S7) :: (27, S4) :: (31, S6) :: (32, S5) :: (36, S5) :: (38, S4) :: LP1, (Rw (Kl Kf) 62 (Vs wa0) r16.1) :: HP1⟩ : St)) ?_ ?_
 ·rintro ⟨⟩
  refine ax_all (i := 4) (is := []) (by kernel_rfl) (all_cons ?_ all_nil)
  ·refine nx_oxb (is := [0]) (last := #[true, true, true, true, true, true, false, true, true, true, true, false, true, true, true, false, true, false, false, false, false]) rfl (oxb_callg (ent_inv' rfl rfl (inv_any2 inv75_Slice)) (kdtree_DoorPoints_Slice_sim _ _ _ _ _ hr26 : Sx.Fn Try.prog 139 [(Rvw (Vs wa0) (Kl Kf).size a0l a0n), (Vi 0), (Vi r13.2)] [(Rw (Kl Kf) 62 (Vs wa0) r16.1)] (fun x : Unit => (If 75 (Rvw (Vs wa0) (Kl Kf).size r26.2.1 r26.2.2))) (fun x => [(Rw (Kl Kf) 62 (Vs wa0) r26.1)])) [0] [] (by decide) (pick_cons rfl pick_nil) pick_nil (Hn := fun x : Unit => [(Rw (Kl Kf) 62 (Vs wa0) r26.1)]) (fun _ => rfl) rfl rfl) (pick_cons rfl pick_nil) rfl bl_nil (wt_none' rfl) rfl fun ⟨⟩ => ?_
   exact tx_pick' [0] (sub_cons rfl (sub_cons rfl (sub_cons rfl (sub_cons rfl (sub_cons rfl (sub_cons rfl (sub_cons rfl (sub_cons rfl sub_nil)))))))) (by decide) (pick_cons rfl pick_nil) (hN13 ())
 intro hN10
 refine ax_node (f' := 9) #[true, true, true, true, true, true, true, true, true, true, true, false, false, false, false, false, true, false, false, false, false] (fun (v4 : Unit) => (⟨42, [], (22, S1) :: (23, S2) :: (28, (SG66 r28.2)) :: (29, S5) :: (31, S6) :: (32, S5) :: (38, S4) :: LP1, (Rw (Kl Kf) 62 (Vs wa0) r28.1) :: HP1⟩ : St)) ?_ ?_
 ·rintro ⟨⟩
  refine ax_all (i := 11) (is := [12]) (by kernel_rfl) (all_cons ?_ (all_cons ?_ all_nil))
  ·refine nx_oxb (is := [0]) (last := #[true, true, true, true, true, true, true, true, true, true, true, true, false, false, false, false, true, false, false, false, false]) rfl (oxb_callg (ent_inv' rfl rfl (inv_any0 inv75_Len)) (kdtree_DoorPoints_Len_sim _ _ _ hr33 : Sx.Fn Try.prog 137 [(Rvw (Vs wa0) (Kl Kf).size a0l a0n)] [(Rw (Kl Kf) 62 (Vs wa0) r28.1)] (fun x : Unit => (Vi r33.2)) (fun x => [(Rw (Kl Kf) 62 (Vs wa0) r33.1)])) [0] [] (by decide) (pick_cons rfl pick_nil) pick_nil (Hn := fun x : Unit => [(Rw (Kl Kf) 62 (Vs wa0) r33.1)]) (fun _ => rfl) rfl rfl) (pick_cons rfl pick_nil) rfl bl_nil (wt_none' rfl) rfl fun ⟨⟩ => ?_
   exact tx_pick' [0] (sub_cons rfl (sub_cons rfl (sub_cons rfl (sub_cons rfl (sub_cons rfl (sub_cons rfl (sub_cons rfl sub_nil))))))) (by decide) (pick_cons rfl pick_nil) (hN7 ())
  refine nx_rd (last := #[true, true, true, true, true, true, true, true, true, true, true, false, true, false, false, false, true, false, false, false, false]) rfl (rd_mkmeth' rfl) rfl rfl (wt_none' rfl) rfl ?_
  exact tx_pick' [0] (sub_cons rfl (sub_cons rfl (sub_cons rfl (sub_cons rfl (sub_cons rfl (sub_cons rfl (sub_cons rfl (sub_cons rfl sub_nil)))))))) (by decide) (pick_cons rfl pick_nil) (hN8 ())
 intro hN4
 refine ax_node (f' := 9) #[true, true, true, true, true, true, false, true, true, true, true, false, true, false, false, false, true, false, false, false, false] (fun (v5 : Unit) => (⟨42, [], (22, S1) :: (23, S2) :: (26, S3) :: (27, S4) :: (29, S5) :: (31, S6) :: (32, S5) :: (34, S8) :: (38, S4) :: LP1, (Rw (Kl Kf) 62 (Vs wa0) r26.1) :: HP1⟩ : St)) ?_ ?_
 ·rintro ⟨⟩
  refine ax_all (i := 6) (is := [13]) (by kernel_rfl) (all_cons ?_ (all_cons ?_ all_nil))
  ·refine nx_oxb (is := [0]) (last := #[true, true, true, true, true, true, true, true, true, true, true, false, true, false, false, false, true, false, false, false, false]) rfl (oxb_callg (ent_fn' Try.func67 isn67 rfl rfl) (hrec _ _ _ _ _ _ hr28 : Sx.Fn Try.prog 67 [(If 75 (Rvw (Vs wa0) (Kl Kf).size r26.2.1 r26.2.2)), (Vi r21)] [(Rw (Kl Kf) 62 (Vs wa0) r26.1)] (fun x : Unit => (SG66 r28.2)) (fun x => [(Rw (Kl Kf) 62 (Vs wa0) r28.1)])) [0] [] (by decide) (pick_cons rfl pick_nil) pick_nil (Hn := fun x : Unit => [(Rw (Kl Kf) 62 (Vs wa0) r28.1)]) (fun _ => rfl) rfl rfl) (pick_cons rfl pick_nil) rfl bl_nil (wt_none' rfl) rfl fun ⟨⟩ => ?_
   exact tx_pick' [0] (sub_cons rfl (sub_cons rfl (sub_cons rfl (sub_cons rfl (sub_cons rfl (sub_cons rfl (sub_cons rfl (sub_cons rfl sub_nil)))))))) (by decide) (pick_cons rfl pick_nil) (hN8 ())
  refine nx_rd (last := #[true, true, true, true, true, true, false, true, true, true, true, false, true, true, false, false, true, false, false, false, false]) rfl (rd_nilck_mf' rfl (fun _ _ v _ w => nla75_Slice_vw v w)) rfl rfl (wt_none' rfl) rfl ?_
  exact tx_pick' [0] (sub_cons rfl (sub_cons rfl (sub_cons rfl (sub_cons rfl (sub_cons rfl (sub_cons rfl (sub_cons rfl (sub_cons rfl sub_nil)))))))) (by decide) (pick_cons rfl pick_nil) (hN9 ())
 intro hN5
 refine ax_node (f' := 9) #[true, true, true, true, false, true, false, true, true, true, true, false, true, true, false, false, true, false, false, false, false] (fun (v6 : Unit) => (⟨42, [], (22, S1) :: (23, S2) :: (24, S5) :: (25, S7) :: (27, S4) :: (29, S5) :: (31, S6) :: (32, S5) :: (38, S4) :: LP1, (Rw (Kl Kf) 62 (Vs wa0) r16.1) :: HP1⟩ : St)) ?_ ?_
 ·rintro ⟨⟩
  refine ax_rb (ix := 14) (last := #[true, true, true, true, false, true, false, true, true, true, true, false, true, true, true, false, true, false, false, false, false]) (by kernel_rfl) rfl (rb_move' rfl) rfl rfl (wt_none' rfl) rfl ?_
  exact tx_pick' [0] (sub_cons rfl (sub_cons rfl (sub_cons rfl (sub_cons rfl (sub_cons rfl (sub_cons rfl (sub_cons rfl (sub_cons rfl (sub_cons rfl sub_nil))))))))) (by decide) (pick_cons rfl pick_nil) (hN10 ())
 intro hN6
 refine ax_node (f' := 10) #[true, true, true, true, true, true, false, true, true, true, true, false, false, false, false, false, true, false, false, false, false] (fun (v2 : Unit) => (⟨42, [], (22, S1) :: (23, S2) :: (26, S3) :: (27, S4) :: (29, S5) :: (31, S6) :: (32, S5) :: (38, S4) :: LP1, (Rw (Kl Kf) 62 (Vs wa0) r26.1) :: HP1⟩ : St)) ?_ ?_
 ·rintro ⟨⟩
  refine ax_all (i := 6) (is := [12]) (by kernel_rfl) (all_cons ?_ (all_cons ?_ all_nil))
  ·refine nx_oxb (is := [0]) (last := #[true, true, true, true, true, true, true, true, true, true, true, false, false, false, false, false, true, false, false, false, false]) rfl (oxb_callg (ent_fn' Try.func67 isn67 rfl rfl) (hrec _ _ _ _ _ _ hr28 : Sx.Fn Try.prog 67 [(If 75 (Rvw (Vs wa0) (Kl Kf).size r26.2.1 r26.2.2)), (Vi r21)] [(Rw (Kl Kf) 62 (Vs wa0) r26.1)] (fun x : Unit => (SG66 r28.2)) (fun x => [(Rw (Kl Kf) 62 (Vs wa0) r28.1)])) [0] [] (by decide) (pick_cons rfl pick_nil) pick_nil (Hn := fun x : Unit => [(Rw (Kl Kf) 62 (Vs wa0) r28.1)]) (fun _ => rfl) rfl rfl) (pick_cons rfl pick_nil) rfl bl_nil (wt_none' rfl) rfl fun ⟨⟩ => ?_
   exact tx_pick' [0] (sub_cons rfl (sub_cons rfl (sub_cons rfl (sub_cons rfl (sub_cons rfl (sub_cons rfl (sub_cons rfl sub_nil))))))) (by decide) (pick_cons rfl pick_nil) (hN4 ())
  refine nx_rd (last := #[true, true, true, true, true, true, false, true, true, true, true, false, true, false, false, false, true, false, false, false, false]) rfl (rd_mkmeth' rfl) rfl rfl (wt_none' rfl) rfl ?_
  exact tx_pick' [0] (sub_cons rfl (sub_cons rfl (sub_cons rfl (sub_cons rfl (sub_cons rfl (sub_cons rfl (sub_cons rfl (sub_cons rfl (sub_cons rfl sub_nil))))))))) (by decide) (pick_cons rfl pick_nil) (hN5 ())
 intro hN2
 refine ax_node (f' := 10) #[true, true, true, true, false, true, false, true, true, true, true, false, true, false, false, false, true, false, false, false, false] (fun (v3 : Unit) => (⟨42, [], (22, S1) :: (23, S2) :: (24, S5) :: (25, S7) :: (27, S4) :: (29, S5) :: (31, S6) :: (32, S5) :: (34, S8) :: (38, S4) :: LP1, (Rw (Kl Kf) 62 (Vs wa0) r16.1) :: HP1⟩ : St)) ?_ ?_
 ·rintro ⟨⟩
  refine ax_all (i := 4) (is := [13]) (by kernel_rfl) (all_cons ?_ (all_cons ?_ all_nil))
  ·refine nx_oxb (is := [0]) (last := #[true, true, true, true, true, true, false, true, true, true, true, false, true, false, false, false, true, false, false, false, false]) rfl (oxb_callg (ent_inv' rfl rfl (inv_any2 inv75_Slice)) (kdtree_DoorPoints_Slice_sim _ _ _ _ _ hr26 : Sx.Fn Try.prog 139 [(Rvw (Vs wa0) (Kl Kf).size a0l a0n), (Vi 0), (Vi r13.2)] [(Rw (Kl Kf) 62 (Vs wa0) r16.1)] (fun x : Unit => (If 75 (Rvw (Vs wa0) (Kl Kf).size r26.2.1 r26.2.2))) (fun x => [(Rw (Kl Kf) 62 (Vs wa0) r26.1)])) [0] [] (by decide) (pick_cons rfl pick_nil) pick_nil (Hn := fun x : Unit => [(Rw (Kl Kf) 62 (Vs wa0) r26.1)]) (fun _ => rfl) rfl rfl) (pick_cons rfl pick_nil) rfl bl_nil (wt_none' rfl) rfl fun ⟨⟩ => ?_
   exact tx_pick' [0] (sub_cons rfl (sub_cons rfl (sub_cons rfl (sub_cons rfl (sub_cons rfl (sub_cons rfl (sub_cons rfl (sub_cons rfl (sub_cons rfl sub_nil))))))))) (by decide) (pick_cons rfl pick_nil) (hN5 ())
  refine nx_rd (last := #[true, true, true, true, false, true, false, true, true, true, true, false, true, true, false, false, true, false, false, false, false]) rfl (rd_nilck_mf' rfl (fun _ _ v _ w => nla75_Slice_vw v w)) rfl rfl (wt_none' rfl) rfl ?_
  exact tx_pick' [0] (sub_cons rfl (sub_cons rfl (sub_cons rfl (sub_cons rfl (sub_cons rfl (sub_cons rfl (sub_cons rfl (sub_cons rfl (sub_cons rfl sub_nil))))))))) (by decide) (pick_cons rfl pick_nil) (hN6 ())
 intro hN3
 refine ax_all (i := 4) (is := [12]) (by kernel_rfl) (all_cons ?_ (all_cons ?_ all_nil))
 ·refine nx_oxb (is := [0]) (last := #[true, true, true, true, true, true, false, true, true, true, true, false, false, false, false, false, true, false, false, false, false]) rfl (oxb_callg (ent_inv' rfl rfl (inv_any2 inv75_Slice)) (kdtree_DoorPoints_Slice_sim _ _ _ _ _ hr26 : Sx.Fn Try.prog 139 [(Rvw (Vs wa0) (Kl Kf).size a0l a0n), (Vi 0), (Vi r13.2)] [(Rw (Kl Kf) 62 (Vs wa0) r16.1)] (fun x : Unit => (If 75 (Rvw (Vs wa0) (Kl Kf).size r26.2.1 r26.2.2))) (fun x => [(Rw (Kl Kf) 62 (Vs wa0) r26.1)])) [0] [] (by decide) (pick_cons rfl pick_nil) pick_nil (Hn := fun x : Unit => [(Rw (Kl Kf) 62 (Vs wa0) r26.1)]) (fun _ => rfl) rfl rfl) (pick_cons rfl pick_nil) rfl bl_nil (wt_none' rfl) rfl fun ⟨⟩ => ?_
  exact tx_pick' [0] (sub_cons rfl (sub_cons rfl (sub_cons rfl (sub_cons rfl (sub_cons rfl (sub_cons rfl (sub_cons rfl (sub_cons rfl sub_nil)))))))) (by decide) (pick_cons rfl pick_nil) (hN2 ())
 refine nx_rd (last := #[true, true, true, true, false, true, false, true, true, true, true, false, true, false, false, false, true, false, false, false, false]) rfl (rd_mkmeth' rfl) rfl rfl (wt_none' rfl) rfl ?_
 exact tx_pick' [0] (sub_cons rfl (sub_cons rfl (sub_cons rfl (sub_cons rfl (sub_cons rfl (sub_cons rfl (sub_cons rfl (sub_cons rfl (sub_cons rfl (sub_cons rfl sub_nil)))))))))) (by decide) (pick_cons rfl pick_nil) (hN3 ())
theorem kdtree_build_simA : ∀ (k : Nat) (wa0 : Gs) (a0 : List (List Nat)) (a0l : Nat) (a0n : Nat) (a1 : Int) (out : (List (List Nat)) × G66), kdtree_build k a0 a0l a0n a1 = some out → Sx.Fn Try.prog 67 [(If 75 (Rvw (Vs wa0) (Kl Kf).size a0l a0n)), (Vi a1)] [(Rw (Kl Kf) 62 (Vs wa0) a0)] (fun w : Unit => (SG66 out.2)) (fun w => [(Rw (Kl Kf) 62 (Vs wa0) out.1)]) := by
 intro k
 induction k with
 | zero => intro wa0 a0 a0l a0n a1 out hp; cases hp
 | succ k ih => intro wa0 a0 a0l a0n a1 out hp; exact kdtree_build_b_sim ih a0 a0l a0n a1 hp
theorem kdtree_build_sim {k : Nat} {wa0 : Gs} (a0 : List (List Nat)) (a0l : Nat) (a0n : Nat) (a1 : Int) {out : (List (List Nat)) × G66} (hp : kdtree_build k a0 a0l a0n a1 = some out) : Sx.Fn Try.prog 67 [(If 75 (Rvw (Vs wa0) (Kl Kf).size a0l a0n)), (Vi a1)] [(Rw (Kl Kf) 62 (Vs wa0) a0)] (fun w : Unit => (SG66 out.2)) (fun w => [(Rw (Kl Kf) 62 (Vs wa0) out.1)]) := kdtree_build_simA k wa0 a0 a0l a0n a1 out hp

def kdtree_New (k : Nat) (a0 : List (List Nat)) (a0l : Nat) (a0n : Nat) (a1 : Bool) : Option ((List (List Nat)) × G66 × Int) :=
 br a1
  ((kdtree_buildBounded k a0 a0l a0n 0 a1) >>= fun r18 =>
  (kdtree_DoorPoints_Len k r18.1 a0l a0n) >>= fun r20 =>
  some (r20.1, r18.2, r20.2))
  ((kdtree_build k a0 a0l a0n 0) >>= fun r24 =>
  (kdtree_DoorPoints_Len k r24.1 a0l a0n) >>= fun r26 =>
  some (r26.1, r24.2, r26.2))

theorem kdtree_New_sim {k : Nat} {wa0 : Gs} (a0 : List (List Nat)) (a0l : Nat) (a0n : Nat) (a1 : Bool) {out : (List (List Nat)) × G66 × Int} (hp : kdtree_New k a0 a0l a0n a1 = some out) : Sx.Fn Try.prog 38 [(If 75 (Rvw (Vs wa0) (Kl Kf).size a0l a0n)), (Vb a1)] [(Rw (Kl Kf) 62 (Vs wa0) a0)] (fun w : Addr => (Vp w)) (fun w => [(Rw (Kl Kf) 62 (Vs wa0) out.1), ⟨.pointer (some w), [(SG66 out.2.1), (Vi out.2.2)], 68, none⟩]) := by
 unfold kdtree_New at hp
 refine fn_of Try.func38 rfl Try.ntmps38 rfl fun E hM => ?_
 refine cr fun K1 hK1 => ?_
 refine s0 (rd_assign' rfl) ?_
 refine nk hK1 ?_
 refine cx_seq' fun K2 hK2 => ?_
 refine cr fun K3 hK3 => ?_
 refine s0 (rd_move' rfl) ?_
 refine s0 (rd_assert' rfl (F := fun v => .tuple #[.iface 75 v, .bool true]) as75_131_133k as_ifok) ?_
 refine s0 (rd_move' rfl) ?_
 refine s0 (rd_extract' rfl rfl) ?_
 refine s0 (rd_extract' rfl rfl) ?_
 refine s0 (rd_assign' rfl) ?_
 refine s0 (rd_assign' rfl) ?_
 refine nk hK3 ?_
 refine cr fun K4 hK4 => ?_
 refine s0 (rd_move' rfl) ?_
 refine s0 (rd_move' rfl) ?_
 refine sx_rd' (rd_move' rfl) rfl rfl (wt_is' (wt_guard' rfl rfl rfl) (beq_tt rfl)) ?_
 refine s0 (rd_pick_true' rfl rfl rfl) ?_
 refine nk hK4 ?_
 refine cx_cond' rfl (fun h1 => ?_) (fun h1 => ?_)
 ·replace hp := (br_t h1).symm.trans hp
  refine cr fun K5 hK5 => ?_
  refine s0 (rd_move' rfl) ?_
  refine s0 (rd_move' rfl) ?_
  obtain ⟨r18, hr18, hp⟩ := bind_some hp
  refine sx_ox' (ox_callg' (ent_fn' Try.func66 isn66 rfl rfl) (kdtree_buildBounded_sim _ _ _ _ _ hr18 : Sx.Fn Try.prog 66 [(If 75 (Rvw (Vs wa0) (Kl Kf).size a0l a0n)), (Vi 0), (Vb a1)] [(Rw (Kl Kf) 62 (Vs wa0) a0)] (fun x : Unit => (SG66 r18.2)) (fun x => [(Rw (Kl Kf) 62 (Vs wa0) r18.1)])) [0] [] (by decide) (pick_cons rfl pick_nil) pick_nil (Hn := fun x : Unit => [(Rw (Kl Kf) 62 (Vs wa0) r18.1)]) (fun _ => rfl) rfl rfl) (wt_none' rfl) fun ⟨⟩ => ?_
  refine s0 (rd_move' rfl) ?_
  obtain ⟨r20, hr20, hp⟩ := bind_some hp
  refine sx_ox' (ox_callg' (ent_inv' rfl rfl (inv_any0 inv75_Len)) (kdtree_DoorPoints_Len_sim _ _ _ hr20 : Sx.Fn Try.prog 137 [(Rvw (Vs wa0) (Kl Kf).size a0l a0n)] [(Rw (Kl Kf) 62 (Vs wa0) r18.1)] (fun x : Unit => (Vi r20.2)) (fun x => [(Rw (Kl Kf) 62 (Vs wa0) r20.1)])) [0] [] (by decide) (pick_cons rfl pick_nil) pick_nil (Hn := fun x : Unit => [(Rw (Kl Kf) 62 (Vs wa0) r20.1)]) (fun _ => rfl) rfl rfl) (wt_none' rfl) fun ⟨⟩ => ?_
  refine s0 (rd_build' (pls := [(0, 1), (1, 1)]) (qs := [(0, [(SG66 r18.2)]), (1, [(Vi r20.2)])]) (r := [(SG66 r18.2), (Vi r20.2)]) ⟨rfl, ⟨_, rfl, (SG66_lv r18.2)⟩, ⟨rfl, ⟨_, rfl, (lv_vl rfl rfl)⟩, trivial⟩⟩ Try.underlying68 has68 places68 info68 rfl rfl rfl) ?_
  refine sx_ox' (ox_box' rfl (lv_ag _) rfl rfl) (wt_none' rfl) fun q22 => ?_
  refine s0 (rd_assign' rfl) ?_
  refine nk hK5 ?_
  refine cx_retc' ?_
  replace hp := Option.some.inj hp
  subst hp
  refine tx_pick' (L' := [(4, (Vp q22))]) (H' := [(Rw (Kl Kf) 62 (Vs wa0) r20.1), ⟨.pointer (some q22), [(SG66 r18.2), (Vi r20.2)], 68, none⟩]) [1, 0] (sub_cons rfl sub_nil) (by decide) (pick_cons rfl (pick_cons rfl pick_nil)) ?_
  exact tx_ret1' Try.results38 rfl q22 (rv_tmp' rfl) (List.Sublist.refl _)
 replace hp := (br_f h1).symm.trans hp
 refine cx_skip' ?_
 show TX E K2 _
 refine tx_k' hK2 ?_
 refine cr fun K6 hK6 => ?_
 refine s0 (rd_move' rfl) ?_
 obtain ⟨r24, hr24, hp⟩ := bind_some hp
 refine sx_ox' (ox_callg' (ent_fn' Try.func67 isn67 rfl rfl) (kdtree_build_sim _ _ _ _ hr24 : Sx.Fn Try.prog 67 [(If 75 (Rvw (Vs wa0) (Kl Kf).size a0l a0n)), (Vi 0)] [(Rw (Kl Kf) 62 (Vs wa0) a0)] (fun x : Unit => (SG66 r24.2)) (fun x => [(Rw (Kl Kf) 62 (Vs wa0) r24.1)])) [0] [] (by decide) (pick_cons rfl pick_nil) pick_nil (Hn := fun x : Unit => [(Rw (Kl Kf) 62 (Vs wa0) r24.1)]) (fun _ => rfl) rfl rfl) (wt_none' rfl) fun ⟨⟩ => ?_
 refine s0 (rd_move' rfl) ?_
 obtain ⟨r26, hr26, hp⟩ := bind_some hp
 refine sx_ox' (ox_callg' (ent_inv' rfl rfl (inv_any0 inv75_Len)) (kdtree_DoorPoints_Len_sim _ _ _ hr26 : Sx.Fn Try.prog 137 [(Rvw (Vs wa0) (Kl Kf).size a0l a0n)] [(Rw (Kl Kf) 62 (Vs wa0) r24.1)] (fun x : Unit => (Vi r26.2)) (fun x => [(Rw (Kl Kf) 62 (Vs wa0) r26.1)])) [0] [] (by decide) (pick_cons rfl pick_nil) pick_nil (Hn := fun x : Unit => [(Rw (Kl Kf) 62 (Vs wa0) r26.1)]) (fun _ => rfl) rfl rfl) (wt_none' rfl) fun ⟨⟩ => ?_
 refine s0 (rd_build' (pls := [(0, 1), (1, 1)]) (qs := [(0, [(SG66 r24.2)]), (1, [(Vi r26.2)])]) (r := [(SG66 r24.2), (Vi r26.2)]) ⟨rfl, ⟨_, rfl, (SG66_lv r24.2)⟩, ⟨rfl, ⟨_, rfl, (lv_vl rfl rfl)⟩, trivial⟩⟩ Try.underlying68 has68 places68 info68 rfl rfl rfl) ?_
 refine sx_ox' (ox_box' rfl (lv_ag _) rfl rfl) (wt_none' rfl) fun q28 => ?_
 refine s0 (rd_assign' rfl) ?_
 refine nk hK6 ?_
 refine cx_retc' ?_
 replace hp := Option.some.inj hp
 subst hp
 refine tx_pick' (L' := [(4, (Vp q28))]) (H' := [(Rw (Kl Kf) 62 (Vs wa0) r26.1), ⟨.pointer (some q28), [(SG66 r24.2), (Vi r26.2)], 68, none⟩]) [1, 0] (sub_cons rfl sub_nil) (by decide) (pick_cons rfl (pick_cons rfl pick_nil)) ?_
 exact tx_ret1' Try.results38 rfl q28 (rv_tmp' rfl) (List.Sublist.refl _)

def impl_knodes_v2_j1 (k : Nat) (a1 : List ((List Nat) × Int × Int × Int × (List Nat) × (List Nat))) (r20 : (List Nat)) (a0_1b : Int) (recf : G66 → (List ((List Nat) × Int × Int × Int × (List Nat) × (List Nat))) → Option ((List ((List Nat) × Int × Int × Int × (List Nat) × (List Nat))) × Int)) (a0_1c : G66) (a0_1d : G66) (x1 : G118) (x2 : List Nat) (x3 : List Nat) : Option ((List ((List Nat) × Int × Int × Int × (List Nat) × (List Nat))) × Int) :=
 (apd 96 a1 ([(r20, a0_1b, 0, 0, x2, x3)])) >>= fun r54 =>
 (recf a0_1c r54) >>= fun r61 =>
 (recf a0_1d r61.1) >>= fun r70 =>
 (idx r70.1 (a1.length : Int)) >>= fun r79 =>
 (idx (r70.1.set (a1.length : Int).toNat (r79.1, r79.2.1, r61.2, r79.2.2.2.1, r79.2.2.2.2.1, r79.2.2.2.2.2)) (a1.length : Int)) >>= fun r81 =>
 some ((r70.1.set (a1.length : Int).toNat (r79.1, r79.2.1, r61.2, r79.2.2.2.1, r79.2.2.2.2.1, r79.2.2.2.2.2)).set (a1.length : Int).toNat (r81.1, r81.2.1, r81.2.2.1, r70.2, r81.2.2.2.2.1, r81.2.2.2.2.2), (a1.length : Int))
def impl_knodes_v2_b (recf : G66 → (List ((List Nat) × Int × Int × Int × (List Nat) × (List Nat))) → Option ((List ((List Nat) × Int × Int × Int × (List Nat) × (List Nat))) × Int)) (k : Nat) (a0 : G66) (a1 : List ((List Nat) × Int × Int × Int × (List Nat) × (List Nat))) : Option ((List ((List Nat) × Int × Int × Int × (List Nat) × (List Nat))) × Int) :=
 match a0 with
  | .c0 =>
   (some (a1, (-1)))
  | .c1 a0_1a a0_1b a0_1c a0_1d a0_1e =>
   (match a0_1a with
    | .c0 a0_1a_0a =>
     ((impl_floats k a0_1a_0a) >>= fun r20 =>
     match a0_1e with
      | .c0 =>
       (impl_knodes_v2_j1 k a1 r20 a0_1b recf a0_1c a0_1d G118.c0 [] [])
      | .c1 a0_1e_1a a0_1e_1b =>
       (match a0_1e_1a with
        | .c0 a0_1e_1a_0a =>
         (match a0_1e_1b with
          | .c0 a0_1e_1b_0a =>
           ((impl_floats k a0_1e_1a_0a) >>= fun r39 =>
           (impl_floats k a0_1e_1b_0a) >>= fun r48 =>
           impl_knodes_v2_j1 k a1 r20 a0_1b recf a0_1c a0_1d (G118.c1 (G116.c0 a0_1e_1a_0a) (G116.c0 a0_1e_1b_0a)) r39 r48)))))
def impl_knodes_v2 : Nat → G66 → (List ((List Nat) × Int × Int × Int × (List Nat) × (List Nat))) → Option ((List ((List Nat) × Int × Int × Int × (List Nat) × (List Nat))) × Int)
 | 0 => fun _ _ => none
 | k + 1 => fun a0 a1 => impl_knodes_v2_b (impl_knodes_v2 k) k a0 a1

theorem impl_knodes_v2_b_sim {recf : G66 → (List ((List Nat) × Int × Int × Int × (List Nat) × (List Nat))) → Option ((List ((List Nat) × Int × Int × Int × (List Nat) × (List Nat))) × Int)} (hrec : ∀ (wa1 : Gs) (a0 : G66) (a1 : List ((List Nat) × Int × Int × Int × (List Nat) × (List Nat))) (out : (List ((List Nat) × Int × Int × Int × (List Nat) × (List Nat))) × Int), recf a0 a1 = some out → Sx.Fn Try.prog 31 [(SG66 a0), (Vl (Vs wa1))] [(Rw KT37 37 (Vs wa1) a1)] (fun w : Gs => (Tu [(Vl (Vs w)), (Vi out.2)])) (fun w => [(Rw KT37 37 (Vs w) out.1)])) {k : Nat} {wa1 : Gs} (a0 : G66) (a1 : List ((List Nat) × Int × Int × Int × (List Nat) × (List Nat))) {out : (List ((List Nat) × Int × Int × Int × (List Nat) × (List Nat))) × Int} (hp : impl_knodes_v2_b recf k a0 a1 = some out) : Sx.Fn Try.prog 31 [(SG66 a0), (Vl (Vs wa1))] [(Rw KT37 37 (Vs wa1) a1)] (fun w : Gs => (Tu [(Vl (Vs w)), (Vi out.2)])) (fun w => [(Rw KT37 37 (Vs w) out.1)]) := by
 unfold impl_knodes_v2_b at hp
 refine fn_of Try.func31 rfl Try.ntmps31 rfl fun E hM => ?_
 refine cr fun K1 hK1 => ?_
 refine s0 (rd_assign' rfl) ?_
 refine s0 (rd_assign' rfl) ?_
 refine nk hK1 ?_
 refine cx_seq' fun K2 hK2 => ?_
 refine cr fun K3 hK3 => ?_
 refine s0 (rd_move' rfl) ?_
 rcases a0 with ⟨⟩ | ⟨a0_1a, a0_1b, a0_1c, a0_1d, a0_1e⟩
 ·dsimp only at hp
  refine tx_slot' 0 (y := (Vl (.pointer none))) rfl (imp_eq (SG66_c0 )) ?_
  refine tx_slot' 10 (y := (Vl (.pointer none))) rfl (imp_eq (SG66_c0 )) ?_
  refine s0 (rd_binf' rfl rfl (bf_vl (fun _ => by kernel_rfl) nil_eql66_nilptr)) ?_
  refine nk hK3 ?_
  refine cx_cond_t' rfl rfl ?_
  refine cr fun K4 hK4 => ?_
  refine s0 (rd_move' rfl) ?_
  refine s0 (rd_assign' rfl) ?_
  refine s0 (rd_assign' rfl) ?_
  refine nk hK4 ?_
  refine cx_retc' ?_
  replace hp := Option.some.inj hp
  subst hp
  refine tx_pick' (L' := [(4, (Vl (Vs wa1))), (5, (Vi (-1)))]) (H' := [(Rw KT37 37 (Vs wa1) a1)]) [0] (sub_cons rfl (sub_cons rfl sub_nil)) (by decide) (pick_cons rfl pick_nil) ?_
  exact tx_ret2' Try.results31 rfl wa1 (rv_tmp' rfl) (rv_tmp' rfl) rfl (List.Sublist.refl _)
 dsimp only at hp
 refine tx_slot' 0 (y := (Pt [(SG116 a0_1a), (Vi a0_1b), (SG66 a0_1c), (SG66 a0_1d), (SG118 a0_1e)])) rfl (imp_eq (SG66_c1 a0_1a a0_1b a0_1c a0_1d a0_1e)) ?_
 refine tx_slot' 10 (y := (Pt [(SG116 a0_1a), (Vi a0_1b), (SG66 a0_1c), (SG66 a0_1d), (SG118 a0_1e)])) rfl (imp_eq (SG66_c1 a0_1a a0_1b a0_1c a0_1d a0_1e)) ?_
 refine s0 (rd_binf' rfl rfl (bf_pt (fun _ _ => by kernel_rfl) nil_eql66_pt)) ?_
 refine nk hK3 ?_
 refine cx_cond_f' rfl rfl ?_
 refine cx_skip' ?_
 show TX E K2 _
 refine tx_k' hK2 ?_
 refine cr fun K5 hK5 => ?_
 refine s0 (rd_move' rfl) ?_
 refine s0 (rd_lenr' (i := 0) rfl rfl rfl Try.underlying26) ?_
 refine s0 (rd_assign' rfl) ?_
 refine nk hK5 ?_
 refine cx_seq' fun K6 hK6 => ?_
 refine cx_plana' [] [(12, 1)] [(0, 1), (1, 1), (2, 1), (3, 1), (4, 1), (6, 1), (7, 1), (8, 1), (9, 1)] 4 #[true, true, true, true, true, false, true, true, true, true, false, false, false] mixed (by kernel_rfl) ?_
 refine px_rd' rfl (rd_move' rfl) rfl rfl (wt_none' rfl) ?_
 refine px_rd' rfl (rd_nilck_pt' rfl) rfl rfl (wt_none' rfl) ?_
 refine px_rd' rfl (rd_field_pt' (off := 0) rfl Try.underlying120 rfl info116 rfl (l' := [(SG116 a0_1a), (Vi a0_1b), (SG66 a0_1c), (SG66 a0_1d), (SG118 a0_1e)]) rfl) rfl rfl (wt_none' rfl) ?_
 refine px_rd' rfl (rd_load_pt' rfl rfl flat116) rfl rfl (wt_none' rfl) ?_
 rcases a0_1a with ⟨a0_1a_0a⟩
 ·dsimp only at hp
  refine tx_slot' 18 (y := (If 62 (Sl Kf a0_1a_0a))) rfl (imp_eq (SG116_c0 a0_1a_0a)) ?_
  refine px_rd' rfl (rd_assert' rfl (F := fun v => v) as62_116_62 as_id) rfl rfl (wt_none' rfl) ?_
  refine px_rd' rfl (rd_move' rfl) rfl rfl (wt_none' rfl) ?_
  refine px_rd' rfl (rd_nilck_pt' rfl) rfl rfl (wt_none' rfl) ?_
  refine px_rd' rfl (rd_field_pt' (off := 1) rfl Try.underlying120 rfl info117 rfl (l' := [(Vi a0_1b), (SG66 a0_1c), (SG66 a0_1d), (SG118 a0_1e)]) rfl) rfl rfl (wt_none' rfl) ?_
  refine px_rd' rfl (rd_load_pt' rfl rfl flat117) rfl rfl (wt_none' rfl) ?_
  refine px_nil' ?_
  show AX E _ _ _ _ _ _ _ _
  obtain ⟨r20, hr20, hp⟩ := bind_some hp
  refine ax_node (f' := 0) #[true, true, true, true, true, true, true, true, true, true, true, true, true] (fun (v6 : Addr) => (⟨85, [], [(7, (Vp v6)), (0, (Pt [(SG116 (G116.c0 a0_1a_0a)), (Vi a0_1b), (SG66 a0_1c), (SG66 a0_1d), (SG118 a0_1e)])), (1, (Vl (Vs wa1))), (6, (Vi (a1.length : Int)))], [⟨.pointer (some v6), [(Sl Kf r20), (Vi a0_1b), (Vi 0), (Vi 0), Vn, Vn], 37, none⟩, (Rw KT37 37 (Vs wa1) a1)]⟩ : St)) ?_ ?_
  ·rintro q904
   refine ax_nil (by kernel_rfl) ?_
   show TX E K6 _
   refine tx_k' hK6 ?_
   refine cx_join' (fun (v7 : G118 × (List Nat) × (List Nat)) => (⟨85, [], [(0, (Pt [(SG116 (G116.c0 a0_1a_0a)), (Vi a0_1b), (SG66 a0_1c), (SG66 a0_1d), (SG118 v7.1)])), (1, (Vl (Vs wa1))), (6, (Vi (a1.length : Int))), (7, (Vp q904))], [(Rw KT37 37 (Vs wa1) a1), ⟨.pointer (some q904), [(Sl Kf r20), (Vi a0_1b), (Vi 0), (Vi 0), (Sl Kf v7.2.1), (Sl Kf v7.2.2)], 37, none⟩]⟩ : St)) (fun (v7 : G118 × (List Nat) × (List Nat)) => impl_knodes_v2_j1 k a1 r20 a0_1b recf a0_1c a0_1d v7.1 v7.2.1 v7.2.2 = some out) ?_ ?_
   ·rintro ⟨x1, x2, x3⟩ hp
    replace hp : impl_knodes_v2_j1 k a1 r20 a0_1b recf a0_1c a0_1d x1 x2 x3 = some out := hp
    unfold impl_knodes_v2_j1 at hp
    refine cr fun K9 hK9 => ?_
    refine s0 (rd_move' rfl) ?_
    refine s0 (rd_load_agg' (i := 1) (o := 0) (nn := 6) rfl ⟨rfl, rfl, rfl, rfl⟩ rfl agg37 (l' := [(Sl Kf r20), (Vi a0_1b), (Vi 0), (Vi 0), (Sl Kf x2), (Sl Kf x3)]) rfl) ?_
    refine sx_ox' (ox_rowlit' (K := KT37) (xs := [(r20, a0_1b, 0, 0, x2, x3)]) (qs := [(0, [(Sl Kf r20), (Vi a0_1b), (Vi 0), (Vi 0), (Sl Kf x2), (Sl Kf x3)])]) ⟨rfl, ⟨_, rfl, (lv_ag _)⟩, trivial⟩ Try.underlying26 info37 rfl rfl rfl rfl rfl (by kernel_rfl) rfl rfl rfl) (wt_none' rfl) fun g53 => ?_
    obtain ⟨r54, hr54, hp⟩ := bind_some hp
    refine sx_ox' (ox_append' (K := KT37) (i := 1) (xs := a1) (ys := ([(r20, a0_1b, 0, 0, x2, x3)])) rfl rfl rfl (sr_row' (j := 0) rfl rfl rfl Try.underlying26) hr54 Try.underlying26 info37 rfl rfl rfl (H' := [(Rw KT37 37 (Vs g53) ([(r20, a0_1b, 0, 0, x2, x3)])), ⟨.pointer (some q904), [(Sl Kf r20), (Vi a0_1b), (Vi 0), (Vi 0), (Sl Kf x2), (Sl Kf x3)], 37, none⟩]) rfl) (wt_none' rfl) fun g54 => ?_
    refine s0 (rd_assign' rfl) ?_
    refine nk hK9 ?_
    refine cr fun K10 hK10 => ?_
    refine s0 (rd_assign' rfl) ?_
    refine s0 (rd_assign' rfl) ?_
    refine nk hK10 ?_
    refine cr fun K11 hK11 => ?_
    refine s0 (rd_move' rfl) ?_
    refine s0 (rd_nilck_pt' rfl) ?_
    refine s0 (rd_field_pt' (off := 2) rfl Try.underlying120 rfl info66 rfl (l' := [(SG66 a0_1c), (SG66 a0_1d), (SG118 x1)]) rfl) ?_
    refine s0 (rd_load_pt' rfl rfl flat66) ?_
    refine s0 (rd_move' rfl) ?_
    obtain ⟨r61, hr61, hp⟩ := bind_some hp
    refine sx_ox' (ox_callg' (ent_fn' Try.func31 isn31 rfl rfl) (hrec _ _ _ _ hr61 : Sx.Fn Try.prog 31 [(SG66 a0_1c), (Vl (Vs g54))] [(Rw KT37 37 (Vs g54) r54)] (fun x : Gs => (Tu [(Vl (Vs x)), (Vi r61.2)])) (fun x => [(Rw KT37 37 (Vs x) r61.1)])) [0] [1, 2] (by decide) (pick_cons rfl pick_nil) (pick_cons rfl (pick_cons rfl pick_nil)) (Hn := fun x : Gs => [(Rw KT37 37 (Vs x) r61.1), (Rw KT37 37 (Vs g53) ([(r20, a0_1b, 0, 0, x2, x3)])), ⟨.pointer (some q904), [(Sl Kf r20), (Vi a0_1b), (Vi 0), (Vi 0), (Sl Kf x2), (Sl Kf x3)], 37, none⟩]) (fun _ => rfl) rfl rfl) (wt_none' rfl) fun g61 => ?_
    refine s0 (rd_move' rfl) ?_
    refine s0 (rd_extract' rfl rfl) ?_
    refine s0 (rd_extract' rfl rfl) ?_
    refine s0 (rd_assign' rfl) ?_
    refine s0 (rd_assign' rfl) ?_
    refine nk hK11 ?_
    refine cr fun K12 hK12 => ?_
    refine s0 (rd_move' rfl) ?_
    refine s0 (rd_nilck_pt' rfl) ?_
    refine s0 (rd_field_pt' (off := 3) rfl Try.underlying120 rfl info66 rfl (l' := [(SG66 a0_1d), (SG118 x1)]) rfl) ?_
    refine s0 (rd_load_pt' rfl rfl flat66) ?_
    refine s0 (rd_move' rfl) ?_
    obtain ⟨r70, hr70, hp⟩ := bind_some hp
    refine sx_ox' (ox_callg' (ent_fn' Try.func31 isn31 rfl rfl) (hrec _ _ _ _ hr70 : Sx.Fn Try.prog 31 [(SG66 a0_1d), (Vl (Vs g61))] [(Rw KT37 37 (Vs g61) r61.1)] (fun x : Gs => (Tu [(Vl (Vs x)), (Vi r70.2)])) (fun x => [(Rw KT37 37 (Vs x) r70.1)])) [0] [1, 2] (by decide) (pick_cons rfl pick_nil) (pick_cons rfl (pick_cons rfl pick_nil)) (Hn := fun x : Gs => [(Rw KT37 37 (Vs x) r70.1), (Rw KT37 37 (Vs g53) ([(r20, a0_1b, 0, 0, x2, x3)])), ⟨.pointer (some q904), [(Sl Kf r20), (Vi a0_1b), (Vi 0), (Vi 0), (Sl Kf x2), (Sl Kf x3)], 37, none⟩]) (fun _ => rfl) rfl rfl) (wt_none' rfl) fun g70 => ?_
    refine s0 (rd_move' rfl) ?_
    refine s0 (rd_extract' rfl rfl) ?_
    refine s0 (rd_extract' rfl rfl) ?_
    refine s0 (rd_assign' rfl) ?_
    refine s0 (rd_assign' rfl) ?_
    refine nk hK12 ?_
    refine cr fun K13 hK13 => ?_
    refine s0 (rd_move' rfl) ?_
    refine s0 (rd_move' rfl) ?_
    refine s0 (rd_move' rfl) ?_
    refine s0 (rd_move' rfl) ?_
    refine s0 (rd_move' rfl) ?_
    refine s0 (rd_move' rfl) ?_
    obtain ⟨r79, hr79, hp⟩ := bind_some hp
    refine s0 (rd_atr' (m := 0) rfl rfl rfl rfl hr79 Try.underlying26 info37) ?_
    refine s0 (rd_fieldr' (off := 2) rfl Try.underlying37 rfl info3 rfl) ?_
    refine sx_ox' (ox_storer' (m := 0) (i := (a1.length : Int)) (j := 2) (x' := (r79.1, r79.2.1, r61.2, r79.2.2.2.1, r79.2.2.2.2.1, r79.2.2.2.2.2)) rfl rfl (lv_vl rfl rfl) rfl rfl hr79 rfl rfl rfl info3 rfl (H' := [(Rw KT37 37 (Vs g70) (r70.1.set (a1.length : Int).toNat (r79.1, r79.2.1, r61.2, r79.2.2.2.1, r79.2.2.2.2.1, r79.2.2.2.2.2))), (Rw KT37 37 (Vs g53) ([(r20, a0_1b, 0, 0, x2, x3)])), ⟨.pointer (some q904), [(Sl Kf r20), (Vi a0_1b), (Vi 0), (Vi 0), (Sl Kf x2), (Sl Kf x3)], 37, none⟩]) rfl) (wt_none' rfl) fun _ => ?_
    obtain ⟨r81, hr81, hp⟩ := bind_some hp
    refine s0 (rd_atr' (m := 0) rfl rfl rfl rfl hr81 Try.underlying26 info37) ?_
    refine s0 (rd_fieldr' (off := 3) rfl Try.underlying37 rfl info3 rfl) ?_
    refine sx_ox' (ox_storer' (m := 0) (i := (a1.length : Int)) (j := 3) (x' := (r81.1, r81.2.1, r81.2.2.1, r70.2, r81.2.2.2.2.1, r81.2.2.2.2.2)) rfl rfl (lv_vl rfl rfl) rfl rfl hr81 rfl rfl rfl info3 rfl (H' := [(Rw KT37 37 (Vs g70) ((r70.1.set (a1.length : Int).toNat (r79.1, r79.2.1, r61.2, r79.2.2.2.1, r79.2.2.2.2.1, r79.2.2.2.2.2)).set (a1.length : Int).toNat (r81.1, r81.2.1, r81.2.2.1, r70.2, r81.2.2.2.2.1, r81.2.2.2.2.2))), (Rw KT37 37 (Vs g53) ([(r20, a0_1b, 0, 0, x2, x3)])), ⟨.pointer (some q904), [(Sl Kf r20), (Vi a0_1b), (Vi 0), (Vi 0), (Sl Kf x2), (Sl Kf x3)], 37, none⟩]) rfl) (wt_none' rfl) fun _ => ?_
    refine nk hK13 ?_
    refine cr fun K14 hK14 => ?_
    refine s0 (rd_move' rfl) ?_
    refine s0 (rd_move' rfl) ?_
    refine s0 (rd_assign' rfl) ?_
    refine s0 (rd_assign' rfl) ?_
    refine nk hK14 ?_
    refine cx_retc' ?_
    replace hp := Option.some.inj hp
    subst hp
    refine tx_pick' (L' := [(4, (Vl (Vs g70))), (5, (Vi (a1.length : Int)))]) (H' := [(Rw KT37 37 (Vs g70) ((r70.1.set (a1.length : Int).toNat (r79.1, r79.2.1, r61.2, r79.2.2.2.1, r79.2.2.2.2.1, r79.2.2.2.2.2)).set (a1.length : Int).toNat (r81.1, r81.2.1, r81.2.2.1, r70.2, r81.2.2.2.2.1, r81.2.2.2.2.2)))]) [0] (sub_cons rfl (sub_cons rfl sub_nil)) (by decide) (pick_cons rfl pick_nil) ?_
    exact tx_ret2' Try.results31 rfl g70 (rv_tmp' rfl) (rv_tmp' rfl) rfl (List.Sublist.refl _)
   intro K7 hK7
   refine cr fun K8 hK8 => ?_
   refine s0 (rd_move' rfl) ?_
   refine s0 (rd_nilck_pt' rfl) ?_
   refine s0 (rd_field_pt' (off := 4) rfl Try.underlying120 rfl info118 rfl (l' := [(SG118 a0_1e)]) rfl) ?_
   refine s0 (rd_load_pt' rfl rfl flat118) ?_
   rcases a0_1e with ⟨⟩ | ⟨a0_1e_1a, a0_1e_1b⟩
   ·dsimp only at hp
    refine tx_slot' 29 (y := (Vl (.pointer none))) rfl (imp_eq (SG118_c0 )) ?_
    refine s0 (rd_binf' rfl rfl (bf_vl (fun _ => by kernel_rfl) nil_neq118_nilptr)) ?_
    refine nk hK8 ?_
    refine cx_cond_f' rfl rfl ?_
    refine cx_skip' ?_
    show TX E K7 _
    refine tx_cell' 0 4 (y := (Sl Kf [])) rfl rfl imp_nil (H' := [⟨.pointer (some q904), [(Sl Kf r20), (Vi a0_1b), (Vi 0), (Vi 0), (Sl Kf []), Vn], 37, none⟩, (Rw KT37 37 (Vs wa1) a1)]) rfl ?_
    refine tx_cell' 0 5 (y := (Sl Kf [])) rfl rfl imp_nil (H' := [⟨.pointer (some q904), [(Sl Kf r20), (Vi a0_1b), (Vi 0), (Vi 0), (Sl Kf []), (Sl Kf [])], 37, none⟩, (Rw KT37 37 (Vs wa1) a1)]) rfl ?_
    exact tx_pick' [1, 0] (sub_cons rfl (sub_cons rfl (sub_cons rfl (sub_cons rfl sub_nil)))) (by decide) (pick_cons rfl (pick_cons rfl pick_nil)) (hK7 (G118.c0, [], []) hp)
   dsimp only at hp
   refine tx_slot' 29 (y := (Pt [(SG116 a0_1e_1a), (SG116 a0_1e_1b)])) rfl (imp_eq (SG118_c1 a0_1e_1a a0_1e_1b)) ?_
   refine s0 (rd_binf' rfl rfl (bf_pt (fun _ _ => by kernel_rfl) nil_neq118_pt)) ?_
   refine nk hK8 ?_
   refine cx_cond_t' rfl rfl ?_
   refine cx_plan' [] [(19, 1), (21, 1)] [(0, 1), (1, 1), (2, 1), (3, 1), (4, 1), (5, 1), (6, 1), (7, 1), (9, 1), (10, 1), (11, 1), (12, 1), (13, 1), (14, 1), (15, 1), (16, 1), (8, 0), (18, 1), (17, 0), (19, 0), (20, 1), (21, 0)] mixed (by kernel_rfl) ?_
   refine px_rd' rfl (rd_move' rfl) rfl rfl (wt_none' rfl) ?_
   refine px_rd' rfl (rd_nilck_pt' rfl) rfl rfl (wt_none' rfl) ?_
   refine px_rd' rfl (rd_field_pt' (off := 4) rfl Try.underlying120 rfl info118 rfl (l' := [(SG118 (G118.c1 a0_1e_1a a0_1e_1b))]) rfl) rfl rfl (wt_none' rfl) ?_
   refine px_rd' rfl (rd_load_pt' rfl rfl flat118) rfl rfl (wt_none' rfl) ?_
   refine tx_slot' 34 (y := (Pt [(SG116 a0_1e_1a), (SG116 a0_1e_1b)])) rfl (imp_eq (SG118_c1 a0_1e_1a a0_1e_1b)) ?_
   refine px_rd' rfl (rd_nilck_pt' rfl) rfl rfl (wt_none' rfl) ?_
   refine px_rd' rfl (rd_field_pt' (off := 0) rfl Try.underlying127 rfl info116 rfl (l' := [(SG116 a0_1e_1a), (SG116 a0_1e_1b)]) rfl) rfl rfl (wt_none' rfl) ?_
   refine px_rd' rfl (rd_load_pt' rfl rfl flat116) rfl rfl (wt_none' rfl) ?_
   rcases a0_1e_1a with ⟨a0_1e_1a_0a⟩
   ·dsimp only at hp
    refine tx_slot' 37 (y := (If 62 (Sl Kf a0_1e_1a_0a))) rfl (imp_eq (SG116_c0 a0_1e_1a_0a)) ?_
    refine px_rd' rfl (rd_assert' rfl (F := fun v => v) as62_116_62 as_id) rfl rfl (wt_none' rfl) ?_
    refine px_rd' rfl (rd_move' rfl) rfl rfl (wt_none' rfl) ?_
    refine px_rd' rfl (rd_nilck_pt' rfl) rfl rfl (wt_none' rfl) ?_
    refine px_rd' rfl (rd_field_pt' (off := 4) rfl Try.underlying120 rfl info118 rfl (l' := [(SG118 (G118.c1 (G116.c0 a0_1e_1a_0a) a0_1e_1b))]) rfl) rfl rfl (wt_none' rfl) ?_
    refine px_rd' rfl (rd_load_pt' rfl rfl flat118) rfl rfl (wt_none' rfl) ?_
    refine tx_slot' 43 (y := (Pt [(SG116 (G116.c0 a0_1e_1a_0a)), (SG116 a0_1e_1b)])) rfl (imp_eq (SG118_c1 (G116.c0 a0_1e_1a_0a) a0_1e_1b)) ?_
    refine px_rd' rfl (rd_nilck_pt' rfl) rfl rfl (wt_none' rfl) ?_
    refine px_rd' rfl (rd_field_pt' (off := 1) rfl Try.underlying127 rfl info116 rfl (l' := [(SG116 a0_1e_1b)]) rfl) rfl rfl (wt_none' rfl) ?_
    refine px_rd' rfl (rd_load_pt' rfl rfl flat116) rfl rfl (wt_none' rfl) ?_
    rcases a0_1e_1b with ⟨a0_1e_1b_0a⟩
    ·dsimp only at hp
     refine tx_slot' 46 (y := (If 62 (Sl Kf a0_1e_1b_0a))) rfl (imp_eq (SG116_c0 a0_1e_1b_0a)) ?_
     refine px_rd' rfl (rd_assert' rfl (F := fun v => v) as62_116_62 as_id) rfl rfl (wt_none' rfl) ?_
     obtain ⟨r39, hr39, hp⟩ := bind_some hp
     refine px_ox' rfl (ox_calln' (ent_fn' Try.func30 isn30 rfl rfl) (impl_floats_sim _ hr39 : Sx.Fn Try.prog 30 [(Sl Kf a0_1e_1a_0a)] [] (fun x : Unit => (Sl Kf r39)) (fun x => [])) (Hn := fun x : Unit => [⟨.pointer (some q904), [(Sl Kf r20), (Vi a0_1b), (Vi 0), (Vi 0), Vn, Vn], 37, none⟩, (Rw KT37 37 (Vs wa1) a1)]) (fun _ => rfl) rfl rfl) rfl bs_nil (wt_none' rfl) fun ⟨⟩ => ?_
     refine px_rd' rfl (rd_field' (off := 4) rfl Try.underlying37 rfl info25 rfl) rfl rfl (wt_none' rfl) ?_
     obtain ⟨r48, hr48, hp⟩ := bind_some hp
     refine px_ox' rfl (ox_calln' (ent_fn' Try.func30 isn30 rfl rfl) (impl_floats_sim _ hr48 : Sx.Fn Try.prog 30 [(Sl Kf a0_1e_1b_0a)] [] (fun x : Unit => (Sl Kf r48)) (fun x => [])) (Hn := fun x : Unit => [⟨.pointer (some q904), [(Sl Kf r20), (Vi a0_1b), (Vi 0), (Vi 0), Vn, Vn], 37, none⟩, (Rw KT37 37 (Vs wa1) a1)]) (fun _ => rfl) rfl rfl) rfl bs_nil (wt_none' rfl) fun ⟨⟩ => ?_
     refine px_oxv' rfl (oxv_store (i := 0) (o := 4) rfl rfl (lv_sl _ _) ⟨rfl, rfl, rfl, rfl⟩ rfl info25 rfl (H' := [⟨.pointer (some q904), [(Sl Kf r20), (Vi a0_1b), (Vi 0), (Vi 0), (Sl Kf r39), Vn], 37, none⟩, (Rw KT37 37 (Vs wa1) a1)]) rfl) rfl rfl bo_nil (wt_none' rfl) fun _ => ?_
     refine px_rd' rfl (rd_field' (off := 5) rfl Try.underlying37 rfl info25 rfl) rfl rfl (wt_none' rfl) ?_
     refine px_oxv' rfl (oxv_store (i := 0) (o := 5) rfl rfl (lv_sl _ _) ⟨rfl, rfl, rfl, rfl⟩ rfl info25 rfl (H' := [⟨.pointer (some q904), [(Sl Kf r20), (Vi a0_1b), (Vi 0), (Vi 0), (Sl Kf r39), (Sl Kf r48)], 37, none⟩, (Rw KT37 37 (Vs wa1) a1)]) rfl) rfl rfl bo_nil (wt_none' rfl) fun _ => ?_
     refine px_nil' ?_
     show TX E K7 _
     exact tx_pick' [1, 0] (sub_cons rfl (sub_cons rfl (sub_cons rfl (sub_cons rfl sub_nil)))) (by decide) (pick_cons rfl (pick_cons rfl pick_nil)) (hK7 ((G118.c1 (G116.c0 a0_1e_1a_0a) (G116.c0 a0_1e_1b_0a)), r39, r48) hp)
  intro hN7
  refine ax_node (f' := 1) #[true, true, true, true, true, true, true, true, true, true, true, true, false] (fun (v5 : Addr) => (⟨85, [], [(7, (Vp v5)), (25, (Ag [(Sl Kf r20), (Vi a0_1b), (Vi 0), (Vi 0), Vn, Vn])), (0, (Pt [(SG116 (G116.c0 a0_1a_0a)), (Vi a0_1b), (SG66 a0_1c), (SG66 a0_1d), (SG118 a0_1e)])), (1, (Vl (Vs wa1))), (6, (Vi (a1.length : Int)))], [⟨.pointer (some v5), [Vn, (Vi 0), (Vi 0), (Vi 0), Vn, Vn], 37, none⟩, (Rw KT37 37 (Vs wa1) a1)]⟩ : St)) ?_ ?_
  ·rintro q903
   refine ax_all (i := 12) (is := []) (by kernel_rfl) (all_cons ?_ all_nil)
   ·refine nx_oxv (last := #[true, true, true, true, true, true, true, true, true, true, true, true, true]) rfl (oxv_store (i := 0) (o := 0) rfl rfl (lv_ag _) ⟨rfl, rfl, rfl, rfl⟩ rfl info37 rfl (H' := [⟨.pointer (some q903), [(Sl Kf r20), (Vi a0_1b), (Vi 0), (Vi 0), Vn, Vn], 37, none⟩, (Rw KT37 37 (Vs wa1) a1)]) rfl) rfl rfl bo_nil (wt_none' rfl) rfl fun _ => ?_
    exact tx_pick' [0, 1] (sub_cons rfl (sub_cons rfl (sub_cons rfl (sub_cons rfl sub_nil)))) (by decide) (pick_cons rfl (pick_cons rfl pick_nil)) (hN7 q903)
  intro hN6
  refine ax_node (f' := 2) #[true, true, true, true, true, true, true, true, true, true, true, false, false] (fun (v3 : Unit) => (⟨85, [], [(25, (Ag [(Sl Kf r20), (Vi a0_1b), (Vi 0), (Vi 0), Vn, Vn])), (0, (Pt [(SG116 (G116.c0 a0_1a_0a)), (Vi a0_1b), (SG66 a0_1c), (SG66 a0_1d), (SG118 a0_1e)])), (1, (Vl (Vs wa1))), (6, (Vi (a1.length : Int)))], [(Rw KT37 37 (Vs wa1) a1)]⟩ : St)) ?_ ?_
  ·rintro ⟨⟩
   refine ax_all (i := 11) (is := []) (by kernel_rfl) (all_cons ?_ all_nil)
   ·refine nx_ox (last := #[true, true, true, true, true, true, true, true, true, true, true, true, false]) rfl (ox_alloc' info37 rfl rfl rfl rfl (l := [Vn, (Vi 0), (Vi 0), (Vi 0), Vn, Vn]) rfl) rfl bs_nil (wt_none' rfl) rfl fun q7 => ?_
    exact tx_pick' [0, 1] (sub_cons rfl (sub_cons rfl (sub_cons rfl (sub_cons rfl (sub_cons rfl sub_nil))))) (by decide) (pick_cons rfl (pick_cons rfl pick_nil)) (hN6 q7)
  intro hN4
  refine ax_node (f' := 2) #[true, true, true, true, true, true, true, true, true, true, false, true, false] (fun (v4 : Addr) => (⟨85, [], [(7, (Vp v4)), (20, (Sl Kf r20)), (24, (Vi a0_1b)), (0, (Pt [(SG116 (G116.c0 a0_1a_0a)), (Vi a0_1b), (SG66 a0_1c), (SG66 a0_1d), (SG118 a0_1e)])), (1, (Vl (Vs wa1))), (6, (Vi (a1.length : Int)))], [⟨.pointer (some v4), [Vn, (Vi 0), (Vi 0), (Vi 0), Vn, Vn], 37, none⟩, (Rw KT37 37 (Vs wa1) a1)]⟩ : St)) ?_ ?_
  ·rintro q902
   refine ax_rd (ix := 10) (last := #[true, true, true, true, true, true, true, true, true, true, true, true, false]) (by kernel_rfl) rfl (rd_build' (pls := [(0, 1), (1, 1), (2, 1), (3, 1), (4, 1), (5, 1)]) (qs := [(0, [(Sl Kf r20)]), (1, [(Vi a0_1b)])]) (r := [(Sl Kf r20), (Vi a0_1b), (Vi 0), (Vi 0), Vn, Vn]) ⟨rfl, ⟨_, rfl, (lv_sl _ _)⟩, ⟨rfl, ⟨_, rfl, (lv_vl rfl rfl)⟩, trivial⟩⟩ Try.underlying37 has37 places37 info37 rfl rfl rfl) rfl rfl (wt_none' rfl) rfl ?_
   exact tx_pick' [0, 1] (sub_cons rfl (sub_cons rfl (sub_cons rfl (sub_cons rfl (sub_cons rfl sub_nil))))) (by decide) (pick_cons rfl (pick_cons rfl pick_nil)) (hN6 q902)
  intro hN5
  refine ax_node (f' := 3) #[true, true, true, true, true, true, true, true, true, true, false, false, false] (fun (v1 : Unit) => (⟨85, [], [(20, (Sl Kf r20)), (24, (Vi a0_1b)), (0, (Pt [(SG116 (G116.c0 a0_1a_0a)), (Vi a0_1b), (SG66 a0_1c), (SG66 a0_1d), (SG118 a0_1e)])), (1, (Vl (Vs wa1))), (6, (Vi (a1.length : Int)))], [(Rw KT37 37 (Vs wa1) a1)]⟩ : St)) ?_ ?_
  ·rintro ⟨⟩
   refine ax_rd (ix := 10) (last := #[true, true, true, true, true, true, true, true, true, true, true, false, false]) (by kernel_rfl) rfl (rd_build' (pls := [(0, 1), (1, 1), (2, 1), (3, 1), (4, 1), (5, 1)]) (qs := [(0, [(Sl Kf r20)]), (1, [(Vi a0_1b)])]) (r := [(Sl Kf r20), (Vi a0_1b), (Vi 0), (Vi 0), Vn, Vn]) ⟨rfl, ⟨_, rfl, (lv_sl _ _)⟩, ⟨rfl, ⟨_, rfl, (lv_vl rfl rfl)⟩, trivial⟩⟩ Try.underlying37 has37 places37 info37 rfl rfl rfl) rfl rfl (wt_none' rfl) rfl ?_
   exact tx_pick' [0] (sub_cons rfl (sub_cons rfl (sub_cons rfl (sub_cons rfl sub_nil)))) (by decide) (pick_cons rfl pick_nil) (hN4 ())
  intro hN2
  refine ax_node (f' := 3) #[true, true, true, true, true, false, true, true, true, true, false, true, false] (fun (v2 : Addr) => (⟨85, [], [(7, (Vp v2)), (19, (Sl Kf a0_1a_0a)), (24, (Vi a0_1b)), (0, (Pt [(SG116 (G116.c0 a0_1a_0a)), (Vi a0_1b), (SG66 a0_1c), (SG66 a0_1d), (SG118 a0_1e)])), (1, (Vl (Vs wa1))), (6, (Vi (a1.length : Int)))], [⟨.pointer (some v2), [Vn, (Vi 0), (Vi 0), (Vi 0), Vn, Vn], 37, none⟩, (Rw KT37 37 (Vs wa1) a1)]⟩ : St)) ?_ ?_
  ·rintro q901
   refine ax_all (i := 5) (is := []) (by kernel_rfl) (all_cons ?_ all_nil)
   ·refine nx_ox (last := #[true, true, true, true, true, true, true, true, true, true, false, true, false]) rfl (ox_calln' (ent_fn' Try.func30 isn30 rfl rfl) (impl_floats_sim _ hr20 : Sx.Fn Try.prog 30 [(Sl Kf a0_1a_0a)] [] (fun x : Unit => (Sl Kf r20)) (fun x => [])) (Hn := fun x : Unit => [⟨.pointer (some q901), [Vn, (Vi 0), (Vi 0), (Vi 0), Vn, Vn], 37, none⟩, (Rw KT37 37 (Vs wa1) a1)]) (fun _ => rfl) rfl rfl) rfl bs_nil (wt_none' rfl) rfl fun ⟨⟩ => ?_
    exact tx_pick' [0, 1] (sub_cons rfl (sub_cons rfl (sub_cons rfl (sub_cons rfl (sub_cons rfl (sub_cons rfl sub_nil)))))) (by decide) (pick_cons rfl (pick_cons rfl pick_nil)) (hN5 q901)
  intro hN3
  refine ax_all (i := 5) (is := [11]) (by kernel_rfl) (all_cons ?_ (all_cons ?_ all_nil))
  ·refine nx_ox (last := #[true, true, true, true, true, true, true, true, true, true, false, false, false]) rfl (ox_calln' (ent_fn' Try.func30 isn30 rfl rfl) (impl_floats_sim _ hr20 : Sx.Fn Try.prog 30 [(Sl Kf a0_1a_0a)] [] (fun x : Unit => (Sl Kf r20)) (fun x => [])) (Hn := fun x : Unit => [(Rw KT37 37 (Vs wa1) a1)]) (fun _ => rfl) rfl rfl) rfl bs_nil (wt_none' rfl) rfl fun ⟨⟩ => ?_
   exact tx_pick' [0] (sub_cons rfl (sub_cons rfl (sub_cons rfl (sub_cons rfl (sub_cons rfl sub_nil))))) (by decide) (pick_cons rfl pick_nil) (hN2 ())
  refine nx_ox (last := #[true, true, true, true, true, false, true, true, true, true, false, true, false]) rfl (ox_alloc' info37 rfl rfl rfl rfl (l := [Vn, (Vi 0), (Vi 0), (Vi 0), Vn, Vn]) rfl) rfl bs_nil (wt_none' rfl) rfl fun q7 => ?_
  exact tx_pick' [0, 1] (sub_cons rfl (sub_cons rfl (sub_cons rfl (sub_cons rfl (sub_cons rfl (sub_cons rfl sub_nil)))))) (by decide) (pick_cons rfl (pick_cons rfl pick_nil)) (hN3 q7)
theorem impl_knodes_v2_simA : ∀ (k : Nat) (wa1 : Gs) (a0 : G66) (a1 : List ((List Nat) × Int × Int × Int × (List Nat) × (List Nat))) (out : (List ((List Nat) × Int × Int × Int × (List Nat) × (List Nat))) × Int), impl_knodes_v2 k a0 a1 = some out → Sx.Fn Try.prog 31 [(SG66 a0), (Vl (Vs wa1))] [(Rw KT37 37 (Vs wa1) a1)] (fun w : Gs => (Tu [(Vl (Vs w)), (Vi out.2)])) (fun w => [(Rw KT37 37 (Vs w) out.1)]) := by
 intro k
 induction k with
 | zero => intro wa1 a0 a1 out hp; cases hp
 | succ k ih => intro wa1 a0 a1 out hp; exact impl_knodes_v2_b_sim ih a0 a1 hp
theorem impl_knodes_v2_sim {k : Nat} {wa1 : Gs} (a0 : G66) (a1 : List ((List Nat) × Int × Int × Int × (List Nat) × (List Nat))) {out : (List ((List Nat) × Int × Int × Int × (List Nat) × (List Nat))) × Int} (hp : impl_knodes_v2 k a0 a1 = some out) : Sx.Fn Try.prog 31 [(SG66 a0), (Vl (Vs wa1))] [(Rw KT37 37 (Vs wa1) a1)] (fun w : Gs => (Tu [(Vl (Vs w)), (Vi out.2)])) (fun w => [(Rw KT37 37 (Vs w) out.1)]) := impl_knodes_v2_simA k wa1 a0 a1 out hp

def impl_knodes_j1 (k : Nat) (r20 : (List Nat)) (a0_1b : Int) (a0_1c : G66) (a0_1d : G66) (x1 : G118) (x2 : List Nat) (x3 : List Nat) : Option ((List ((List Nat) × Int × Int × Int × (List Nat) × (List Nat))) × Int) :=
 (apd 96 [] ([(r20, a0_1b, 0, 0, x2, x3)])) >>= fun r54 =>
 (impl_knodes_v2 k a0_1c r54) >>= fun r61 =>
 (impl_knodes_v2 k a0_1d r61.1) >>= fun r70 =>
 (idx r70.1 ((0 : Nat) : Int)) >>= fun r79 =>
 (idx (r70.1.set ((0 : Nat) : Int).toNat (r79.1, r79.2.1, r61.2, r79.2.2.2.1, r79.2.2.2.2.1, r79.2.2.2.2.2)) ((0 : Nat) : Int)) >>= fun r81 =>
 some ((r70.1.set ((0 : Nat) : Int).toNat (r79.1, r79.2.1, r61.2, r79.2.2.2.1, r79.2.2.2.2.1, r79.2.2.2.2.2)).set ((0 : Nat) : Int).toNat (r81.1, r81.2.1, r81.2.2.1, r70.2, r81.2.2.2.2.1, r81.2.2.2.2.2), ((0 : Nat) : Int))
def impl_knodes (k : Nat) (a0 : G66) : Option ((List ((List Nat) × Int × Int × Int × (List Nat) × (List Nat))) × Int) :=
 match a0 with
  | .c0 =>
   (some ([], (-1)))
  | .c1 a0_1a a0_1b a0_1c a0_1d a0_1e =>
   (match a0_1a with
    | .c0 a0_1a_0a =>
     ((impl_floats k a0_1a_0a) >>= fun r20 =>
     match a0_1e with
      | .c0 =>
       (impl_knodes_j1 k r20 a0_1b a0_1c a0_1d G118.c0 [] [])
      | .c1 a0_1e_1a a0_1e_1b =>
       (match a0_1e_1a with
        | .c0 a0_1e_1a_0a =>
         (match a0_1e_1b with
          | .c0 a0_1e_1b_0a =>
           ((impl_floats k a0_1e_1a_0a) >>= fun r39 =>
           (impl_floats k a0_1e_1b_0a) >>= fun r48 =>
           impl_knodes_j1 k r20 a0_1b a0_1c a0_1d (G118.c1 (G116.c0 a0_1e_1a_0a) (G116.c0 a0_1e_1b_0a)) r39 r48)))))

theorem impl_knodes_sim {k : Nat}  (a0 : G66) {out : (List ((List Nat) × Int × Int × Int × (List Nat) × (List Nat))) × Int} (hp : impl_knodes k a0 = some out) : Sx.Fn Try.prog 31 [(SG66 a0), Vn] [] (fun w : Gs => (Tu [(Vl (Vs w)), (Vi out.2)])) (fun w => [(Rw KT37 37 (Vs w) out.1)]) := by
 unfold impl_knodes at hp
 refine fn_of Try.func31 rfl Try.ntmps31 rfl fun E hM => ?_
 refine cr fun K1 hK1 => ?_
 refine s0 (rd_assign' rfl) ?_
 refine s0 (rd_assign' rfl) ?_
 refine nk hK1 ?_
 refine cx_seq' fun K2 hK2 => ?_
 refine cr fun K3 hK3 => ?_
 refine s0 (rd_move' rfl) ?_
 rcases a0 with ⟨⟩ | ⟨a0_1a, a0_1b, a0_1c, a0_1d, a0_1e⟩
 ·dsimp only at hp
  refine tx_slot' 0 (y := (Vl (.pointer none))) rfl (imp_eq (SG66_c0 )) ?_
  refine tx_slot' 10 (y := (Vl (.pointer none))) rfl (imp_eq (SG66_c0 )) ?_
  refine s0 (rd_binf' rfl rfl (bf_vl (fun _ => by kernel_rfl) nil_eql66_nilptr)) ?_
  refine nk hK3 ?_
  refine cx_cond_t' rfl rfl ?_
  refine cr fun K4 hK4 => ?_
  refine s0 (rd_move' rfl) ?_
  refine s0 (rd_assign' rfl) ?_
  refine s0 (rd_assign' rfl) ?_
  refine nk hK4 ?_
  refine cx_retc' ?_
  replace hp := Option.some.inj hp
  subst hp
  refine tx_nilrow' KT37 37 ?_
  refine tx_pick' (L' := [(4, Vn), (5, (Vi (-1)))]) (H' := [(Rw KT37 37 (Vs (none, 0, 0)) [])]) [0] (sub_cons rfl (sub_cons rfl sub_nil)) (by decide) (pick_cons rfl pick_nil) ?_
  exact tx_ret2' Try.results31 rfl (none, 0, 0) (rv_tmp' rfl) (rv_tmp' rfl) rfl (List.Sublist.refl _)
 dsimp only at hp
 refine tx_slot' 0 (y := (Pt [(SG116 a0_1a), (Vi a0_1b), (SG66 a0_1c), (SG66 a0_1d), (SG118 a0_1e)])) rfl (imp_eq (SG66_c1 a0_1a a0_1b a0_1c a0_1d a0_1e)) ?_
 refine tx_slot' 10 (y := (Pt [(SG116 a0_1a), (Vi a0_1b), (SG66 a0_1c), (SG66 a0_1d), (SG118 a0_1e)])) rfl (imp_eq (SG66_c1 a0_1a a0_1b a0_1c a0_1d a0_1e)) ?_
 refine s0 (rd_binf' rfl rfl (bf_pt (fun _ _ => by kernel_rfl) nil_eql66_pt)) ?_
 refine nk hK3 ?_
 refine cx_cond_f' rfl rfl ?_
 refine cx_skip' ?_
 show TX E K2 _
 refine tx_k' hK2 ?_
 refine cr fun K5 hK5 => ?_
 refine s0 (rd_move' rfl) ?_
 refine s0 (rd_lenv' rfl Try.underlying26) ?_
 refine s0 (rd_assign' rfl) ?_
 refine nk hK5 ?_
 refine cx_seq' fun K6 hK6 => ?_
 refine cx_plana' [] [(12, 1)] [(0, 1), (1, 1), (2, 1), (3, 1), (4, 1), (6, 1), (7, 1), (8, 1), (9, 1)] 4 #[true, true, true, true, true, false, true, true, true, true, false, false, false] mixed (by kernel_rfl) ?_
 refine px_rd' rfl (rd_move' rfl) rfl rfl (wt_none' rfl) ?_
 refine px_rd' rfl (rd_nilck_pt' rfl) rfl rfl (wt_none' rfl) ?_
 refine px_rd' rfl (rd_field_pt' (off := 0) rfl Try.underlying120 rfl info116 rfl (l' := [(SG116 a0_1a), (Vi a0_1b), (SG66 a0_1c), (SG66 a0_1d), (SG118 a0_1e)]) rfl) rfl rfl (wt_none' rfl) ?_
 refine px_rd' rfl (rd_load_pt' rfl rfl flat116) rfl rfl (wt_none' rfl) ?_
 rcases a0_1a with ⟨a0_1a_0a⟩
 ·dsimp only at hp
  refine tx_slot' 18 (y := (If 62 (Sl Kf a0_1a_0a))) rfl (imp_eq (SG116_c0 a0_1a_0a)) ?_
  refine px_rd' rfl (rd_assert' rfl (F := fun v => v) as62_116_62 as_id) rfl rfl (wt_none' rfl) ?_
  refine px_rd' rfl (rd_move' rfl) rfl rfl (wt_none' rfl) ?_
  refine px_rd' rfl (rd_nilck_pt' rfl) rfl rfl (wt_none' rfl) ?_
  refine px_rd' rfl (rd_field_pt' (off := 1) rfl Try.underlying120 rfl info117 rfl (l' := [(Vi a0_1b), (SG66 a0_1c), (SG66 a0_1d), (SG118 a0_1e)]) rfl) rfl rfl (wt_none' rfl) ?_
  refine px_rd' rfl (rd_load_pt' rfl rfl flat117) rfl rfl (wt_none' rfl) ?_
  refine px_nil' ?_
  show AX E _ _ _ _ _ _ _ _
  obtain ⟨r20, hr20, hp⟩ := bind_some hp
  refine ax_node (f' := 0) #[true, true, true, true, true, true, true, true, true, true, true, true, true] (fun (v6 : Addr) => (⟨85, [], [(7, (Vp v6)), (0, (Pt [(SG116 (G116.c0 a0_1a_0a)), (Vi a0_1b), (SG66 a0_1c), (SG66 a0_1d), (SG118 a0_1e)])), (1, Vn), (6, (Vi ((0 : Nat) : Int)))], [⟨.pointer (some v6), [(Sl Kf r20), (Vi a0_1b), (Vi 0), (Vi 0), Vn, Vn], 37, none⟩]⟩ : St)) ?_ ?_
  ·rintro q904
   refine ax_nil (by kernel_rfl) ?_
   show TX E K6 _
   refine tx_k' hK6 ?_
   refine cx_join' (fun (v7 : G118 × (List Nat) × (List Nat)) => (⟨85, [], [(0, (Pt [(SG116 (G116.c0 a0_1a_0a)), (Vi a0_1b), (SG66 a0_1c), (SG66 a0_1d), (SG118 v7.1)])), (1, Vn), (6, (Vi ((0 : Nat) : Int))), (7, (Vp q904))], [⟨.pointer (some q904), [(Sl Kf r20), (Vi a0_1b), (Vi 0), (Vi 0), (Sl Kf v7.2.1), (Sl Kf v7.2.2)], 37, none⟩]⟩ : St)) (fun (v7 : G118 × (List Nat) × (List Nat)) => impl_knodes_j1 k r20 a0_1b a0_1c a0_1d v7.1 v7.2.1 v7.2.2 = some out) ?_ ?_
   ·rintro ⟨x1, x2, x3⟩ hp
    replace hp : impl_knodes_j1 k r20 a0_1b a0_1c a0_1d x1 x2 x3 = some out := hp
    unfold impl_knodes_j1 at hp
    refine cr fun K9 hK9 => ?_
    refine s0 (rd_move' rfl) ?_
    refine s0 (rd_load_agg' (i := 0) (o := 0) (nn := 6) rfl ⟨rfl, rfl, rfl, rfl⟩ rfl agg37 (l' := [(Sl Kf r20), (Vi a0_1b), (Vi 0), (Vi 0), (Sl Kf x2), (Sl Kf x3)]) rfl) ?_
    refine sx_ox' (ox_rowlit' (K := KT37) (xs := [(r20, a0_1b, 0, 0, x2, x3)]) (qs := [(0, [(Sl Kf r20), (Vi a0_1b), (Vi 0), (Vi 0), (Sl Kf x2), (Sl Kf x3)])]) ⟨rfl, ⟨_, rfl, (lv_ag _)⟩, trivial⟩ Try.underlying26 info37 rfl rfl rfl rfl rfl (by kernel_rfl) rfl rfl rfl) (wt_none' rfl) fun g53 => ?_
    refine tx_nilrow' KT37 37 ?_
    obtain ⟨r54, hr54, hp⟩ := bind_some hp
    refine sx_ox' (ox_append' (K := KT37) (i := 0) (xs := []) (ys := ([(r20, a0_1b, 0, 0, x2, x3)])) rfl rfl rfl (sr_row' (j := 1) rfl rfl rfl Try.underlying26) hr54 Try.underlying26 info37 rfl rfl rfl (H' := [(Rw KT37 37 (Vs g53) ([(r20, a0_1b, 0, 0, x2, x3)])), ⟨.pointer (some q904), [(Sl Kf r20), (Vi a0_1b), (Vi 0), (Vi 0), (Sl Kf x2), (Sl Kf x3)], 37, none⟩]) rfl) (wt_none' rfl) fun g54 => ?_
    refine s0 (rd_assign' rfl) ?_
    refine nk hK9 ?_
    refine cr fun K10 hK10 => ?_
    refine s0 (rd_assign' rfl) ?_
    refine s0 (rd_assign' rfl) ?_
    refine nk hK10 ?_
    refine cr fun K11 hK11 => ?_
    refine s0 (rd_move' rfl) ?_
    refine s0 (rd_nilck_pt' rfl) ?_
    refine s0 (rd_field_pt' (off := 2) rfl Try.underlying120 rfl info66 rfl (l' := [(SG66 a0_1c), (SG66 a0_1d), (SG118 x1)]) rfl) ?_
    refine s0 (rd_load_pt' rfl rfl flat66) ?_
    refine s0 (rd_move' rfl) ?_
    obtain ⟨r61, hr61, hp⟩ := bind_some hp
    refine sx_ox' (ox_callg' (ent_fn' Try.func31 isn31 rfl rfl) (impl_knodes_v2_sim _ _ hr61 : Sx.Fn Try.prog 31 [(SG66 a0_1c), (Vl (Vs g54))] [(Rw KT37 37 (Vs g54) r54)] (fun x : Gs => (Tu [(Vl (Vs x)), (Vi r61.2)])) (fun x => [(Rw KT37 37 (Vs x) r61.1)])) [0] [1, 2] (by decide) (pick_cons rfl pick_nil) (pick_cons rfl (pick_cons rfl pick_nil)) (Hn := fun x : Gs => [(Rw KT37 37 (Vs x) r61.1), (Rw KT37 37 (Vs g53) ([(r20, a0_1b, 0, 0, x2, x3)])), ⟨.pointer (some q904), [(Sl Kf r20), (Vi a0_1b), (Vi 0), (Vi 0), (Sl Kf x2), (Sl Kf x3)], 37, none⟩]) (fun _ => rfl) rfl rfl) (wt_none' rfl) fun g61 => ?_
    refine s0 (rd_move' rfl) ?_
    refine s0 (rd_extract' rfl rfl) ?_
    refine s0 (rd_extract' rfl rfl) ?_
    refine s0 (rd_assign' rfl) ?_
    refine s0 (rd_assign' rfl) ?_
    refine nk hK11 ?_
    refine cr fun K12 hK12 => ?_
    refine s0 (rd_move' rfl) ?_
    refine s0 (rd_nilck_pt' rfl) ?_
    refine s0 (rd_field_pt' (off := 3) rfl Try.underlying120 rfl info66 rfl (l' := [(SG66 a0_1d), (SG118 x1)]) rfl) ?_
    refine s0 (rd_load_pt' rfl rfl flat66) ?_
    refine s0 (rd_move' rfl) ?_
    obtain ⟨r70, hr70, hp⟩ := bind_some hp
    refine sx_ox' (ox_callg' (ent_fn' Try.func31 isn31 rfl rfl) (impl_knodes_v2_sim _ _ hr70 : Sx.Fn Try.prog 31 [(SG66 a0_1d), (Vl (Vs g61))] [(Rw KT37 37 (Vs g61) r61.1)] (fun x : Gs => (Tu [(Vl (Vs x)), (Vi r70.2)])) (fun x => [(Rw KT37 37 (Vs x) r70.1)])) [0] [1, 2] (by decide) (pick_cons rfl pick_nil) (pick_cons rfl (pick_cons rfl pick_nil)) (Hn := fun x : Gs => [(Rw KT37 37 (Vs x) r70.1), (Rw KT37 37 (Vs g53) ([(r20, a0_1b, 0, 0, x2, x3)])), ⟨.pointer (some q904), [(Sl Kf r20), (Vi a0_1b), (Vi 0), (Vi 0), (Sl Kf x2), (Sl Kf x3)], 37, none⟩]) (fun _ => rfl) rfl rfl) (wt_none' rfl) fun g70 => ?_
    refine s0 (rd_move' rfl) ?_
    refine s0 (rd_extract' rfl rfl) ?_
    refine s0 (rd_extract' rfl rfl) ?_
    refine s0 (rd_assign' rfl) ?_
    refine s0 (rd_assign' rfl) ?_
    refine nk hK12 ?_
    refine cr fun K13 hK13 => ?_
    refine s0 (rd_move' rfl) ?_
    refine s0 (rd_move' rfl) ?_
    refine s0 (rd_move' rfl) ?_
    refine s0 (rd_move' rfl) ?_
    refine s0 (rd_move' rfl) ?_
    refine s0 (rd_move' rfl) ?_
    obtain ⟨r79, hr79, hp⟩ := bind_some hp
    refine s0 (rd_atr' (m := 0) rfl rfl rfl rfl hr79 Try.underlying26 info37) ?_
    refine s0 (rd_fieldr' (off := 2) rfl Try.underlying37 rfl info3 rfl) ?_
    refine sx_ox' (ox_storer' (m := 0) (i := ((0 : Nat) : Int)) (j := 2) (x' := (r79.1, r79.2.1, r61.2, r79.2.2.2.1, r79.2.2.2.2.1, r79.2.2.2.2.2)) rfl rfl (lv_vl rfl rfl) rfl rfl hr79 rfl rfl rfl info3 rfl (H' := [(Rw KT37 37 (Vs g70) (r70.1.set ((0 : Nat) : Int).toNat (r79.1, r79.2.1, r61.2, r79.2.2.2.1, r79.2.2.2.2.1, r79.2.2.2.2.2))), (Rw KT37 37 (Vs g53) ([(r20, a0_1b, 0, 0, x2, x3)])), ⟨.pointer (some q904), [(Sl Kf r20), (Vi a0_1b), (Vi 0), (Vi 0), (Sl Kf x2), (Sl Kf x3)], 37, none⟩]) rfl) (wt_none' rfl) fun _ => ?_
    obtain ⟨r81, hr81, hp⟩ := bind_some hp
    refine s0 (rd_atr' (m := 0) rfl rfl rfl rfl hr81 Try.underlying26 info37) ?_
    refine s0 (rd_fieldr' (off := 3) rfl Try.underlying37 rfl info3 rfl) ?_
    refine sx_ox' (ox_storer' (m := 0) (i := ((0 : Nat) : Int)) (j := 3) (x' := (r81.1, r81.2.1, r81.2.2.1, r70.2, r81.2.2.2.2.1, r81.2.2.2.2.2)) rfl rfl (lv_vl rfl rfl) rfl rfl hr81 rfl rfl rfl info3 rfl (H' := [(Rw KT37 37 (Vs g70) ((r70.1.set ((0 : Nat) : Int).toNat (r79.1, r79.2.1, r61.2, r79.2.2.2.1, r79.2.2.2.2.1, r79.2.2.2.2.2)).set ((0 : Nat) : Int).toNat (r81.1, r81.2.1, r81.2.2.1, r70.2, r81.2.2.2.2.1, r81.2.2.2.2.2))), (Rw KT37 37 (Vs g53) ([(r20, a0_1b, 0, 0, x2, x3)])), ⟨.pointer (some q904), [(Sl Kf r20), (Vi a0_1b), (Vi 0), (Vi 0), (Sl Kf x2), (Sl Kf x3)], 37, none⟩]) rfl) (wt_none' rfl) fun _ => ?_
    refine nk hK13 ?_
    refine cr fun K14 hK14 => ?_
    refine s0 (rd_move' rfl) ?_
    refine s0 (rd_move' rfl) ?_
    refine s0 (rd_assign' rfl) ?_
    refine s0 (rd_assign' rfl) ?_
    refine nk hK14 ?_
    refine cx_retc' ?_
    replace hp := Option.some.inj hp
    subst hp
    refine tx_pick' (L' := [(4, (Vl (Vs g70))), (5, (Vi ((0 : Nat) : Int)))]) (H' := [(Rw KT37 37 (Vs g70) ((r70.1.set ((0 : Nat) : Int).toNat (r79.1, r79.2.1, r61.2, r79.2.2.2.1, r79.2.2.2.2.1, r79.2.2.2.2.2)).set ((0 : Nat) : Int).toNat (r81.1, r81.2.1, r81.2.2.1, r70.2, r81.2.2.2.2.1, r81.2.2.2.2.2)))]) [0] (sub_cons rfl (sub_cons rfl sub_nil)) (by decide) (pick_cons rfl pick_nil) ?_
    exact tx_ret2' Try.results31 rfl g70 (rv_tmp' rfl) (rv_tmp' rfl) rfl (List.Sublist.refl _)
   intro K7 hK7
   refine cr fun K8 hK8 => ?_
   refine s0 (rd_move' rfl) ?_
   refine s0 (rd_nilck_pt' rfl) ?_
   refine s0 (rd_field_pt' (off := 4) rfl Try.underlying120 rfl info118 rfl (l' := [(SG118 a0_1e)]) rfl) ?_
   refine s0 (rd_load_pt' rfl rfl flat118) ?_
   rcases a0_1e with ⟨⟩ | ⟨a0_1e_1a, a0_1e_1b⟩
   ·dsimp only at hp
    refine tx_slot' 29 (y := (Vl (.pointer none))) rfl (imp_eq (SG118_c0 )) ?_
    refine s0 (rd_binf' rfl rfl (bf_vl (fun _ => by kernel_rfl) nil_neq118_nilptr)) ?_
    refine nk hK8 ?_
    refine cx_cond_f' rfl rfl ?_
    refine cx_skip' ?_
    show TX E K7 _
    refine tx_cell' 0 4 (y := (Sl Kf [])) rfl rfl imp_nil (H' := [⟨.pointer (some q904), [(Sl Kf r20), (Vi a0_1b), (Vi 0), (Vi 0), (Sl Kf []), Vn], 37, none⟩]) rfl ?_
    refine tx_cell' 0 5 (y := (Sl Kf [])) rfl rfl imp_nil (H' := [⟨.pointer (some q904), [(Sl Kf r20), (Vi a0_1b), (Vi 0), (Vi 0), (Sl Kf []), (Sl Kf [])], 37, none⟩]) rfl ?_
    exact tx_pick' [0] (sub_cons rfl (sub_cons rfl (sub_cons rfl (sub_cons rfl sub_nil)))) (by decide) (pick_cons rfl pick_nil) (hK7 (G118.c0, [], []) hp)
   dsimp only at hp
   refine tx_slot' 29 (y := (Pt [(SG116 a0_1e_1a), (SG116 a0_1e_1b)])) rfl (imp_eq (SG118_c1 a0_1e_1a a0_1e_1b)) ?_
   refine s0 (rd_binf' rfl rfl (bf_pt (fun _ _ => by kernel_rfl) nil_neq118_pt)) ?_
   refine nk hK8 ?_
   refine cx_cond_t' rfl rfl ?_
   refine cx_plan' [] [(19, 1), (21, 1)] [(0, 1), (1, 1), (2, 1), (3, 1), (4, 1), (5, 1), (6, 1), (7, 1), (9, 1), (10, 1), (11, 1), (12, 1), (13, 1), (14, 1), (15, 1), (16, 1), (8, 0), (18, 1), (17, 0), (19, 0), (20, 1), (21, 0)] mixed (by kernel_rfl) ?_
   refine px_rd' rfl (rd_move' rfl) rfl rfl (wt_none' rfl) ?_
   refine px_rd' rfl (rd_nilck_pt' rfl) rfl rfl (wt_none' rfl) ?_
   refine px_rd' rfl (rd_field_pt' (off := 4) rfl Try.underlying120 rfl info118 rfl (l' := [(SG118 (G118.c1 a0_1e_1a a0_1e_1b))]) rfl) rfl rfl (wt_none' rfl) ?_
   refine px_rd' rfl (rd_load_pt' rfl rfl flat118) rfl rfl (wt_none' rfl) ?_
   refine tx_slot' 34 (y := (Pt [(SG116 a0_1e_1a), (SG116 a0_1e_1b)])) rfl (imp_eq (SG118_c1 a0_1e_1a a0_1e_1b)) ?_
   refine px_rd' rfl (rd_nilck_pt' rfl) rfl rfl (wt_none' rfl) ?_
   refine px_rd' rfl (rd_field_pt' (off := 0) rfl Try.underlying127 rfl info116 rfl (l' := [(SG116 a0_1e_1a), (SG116 a0_1e_1b)]) rfl) rfl rfl (wt_none' rfl) ?_
   refine px_rd' rfl (rd_load_pt' rfl rfl flat116) rfl rfl (wt_none' rfl) ?_
   rcases a0_1e_1a with ⟨a0_1e_1a_0a⟩
   ·dsimp only at hp
    refine tx_slot' 37 (y := (If 62 (Sl Kf a0_1e_1a_0a))) rfl (imp_eq (SG116_c0 a0_1e_1a_0a)) ?_
    refine px_rd' rfl (rd_assert' rfl (F := fun v => v) as62_116_62 as_id) rfl rfl (wt_none' rfl) ?_
    refine px_rd' rfl (rd_move' rfl) rfl rfl (wt_none' rfl) ?_
    refine px_rd' rfl (rd_nilck_pt' rfl) rfl rfl (wt_none' rfl) ?_
    refine px_rd' rfl (rd_field_pt' (off := 4) rfl Try.underlying120 rfl info118 rfl (l' := [(SG118 (G118.c1 (G116.c0 a0_1e_1a_0a) a0_1e_1b))]) rfl) rfl rfl (wt_none' rfl) ?_
    refine px_rd' rfl (rd_load_pt' rfl rfl flat118) rfl rfl (wt_none' rfl) ?_
    refine tx_slot' 43 (y := (Pt [(SG116 (G116.c0 a0_1e_1a_0a)), (SG116 a0_1e_1b)])) rfl (imp_eq (SG118_c1 (G116.c0 a0_1e_1a_0a) a0_1e_1b)) ?_
    refine px_rd' rfl (rd_nilck_pt' rfl) rfl rfl (wt_none' rfl) ?_
    refine px_rd' rfl (rd_field_pt' (off := 1) rfl Try.underlying127 rfl info116 rfl (l' := [(SG116 a0_1e_1b)]) rfl) rfl rfl (wt_none' rfl) ?_
    refine px_rd' rfl (rd_load_pt' rfl rfl flat116) rfl rfl (wt_none' rfl) ?_
    rcases a0_1e_1b with ⟨a0_1e_1b_0a⟩
    ·dsimp only at hp
     refine tx_slot' 46 (y := (If 62 (Sl Kf a0_1e_1b_0a))) rfl (imp_eq (SG116_c0 a0_1e_1b_0a)) ?_
     refine px_rd' rfl (rd_assert' rfl (F := fun v => v) as62_116_62 as_id) rfl rfl (wt_none' rfl) ?_
     obtain ⟨r39, hr39, hp⟩ := bind_some hp
     refine px_ox' rfl (ox_calln' (ent_fn' Try.func30 isn30 rfl rfl) (impl_floats_sim _ hr39 : Sx.Fn Try.prog 30 [(Sl Kf a0_1e_1a_0a)] [] (fun x : Unit => (Sl Kf r39)) (fun x => [])) (Hn := fun x : Unit => [⟨.pointer (some q904), [(Sl Kf r20), (Vi a0_1b), (Vi 0), (Vi 0), Vn, Vn], 37, none⟩]) (fun _ => rfl) rfl rfl) rfl bs_nil (wt_none' rfl) fun ⟨⟩ => ?_
     refine px_rd' rfl (rd_field' (off := 4) rfl Try.underlying37 rfl info25 rfl) rfl rfl (wt_none' rfl) ?_
     obtain ⟨r48, hr48, hp⟩ := bind_some hp
     refine px_ox' rfl (ox_calln' (ent_fn' Try.func30 isn30 rfl rfl) (impl_floats_sim _ hr48 : Sx.Fn Try.prog 30 [(Sl Kf a0_1e_1b_0a)] [] (fun x : Unit => (Sl Kf r48)) (fun x => [])) (Hn := fun x : Unit => [⟨.pointer (some q904), [(Sl Kf r20), (Vi a0_1b), (Vi 0), (Vi 0), Vn, Vn], 37, none⟩]) (fun _ => rfl) rfl rfl) rfl bs_nil (wt_none' rfl) fun ⟨⟩ => ?_
     refine px_oxv' rfl (oxv_store (i := 0) (o := 4) rfl rfl (lv_sl _ _) ⟨rfl, rfl, rfl, rfl⟩ rfl info25 rfl (H' := [⟨.pointer (some q904), [(Sl Kf r20), (Vi a0_1b), (Vi 0), (Vi 0), (Sl Kf r39), Vn], 37, none⟩]) rfl) rfl rfl bo_nil (wt_none' rfl) fun _ => ?_
     refine px_rd' rfl (rd_field' (off := 5) rfl Try.underlying37 rfl info25 rfl) rfl rfl (wt_none' rfl) ?_
     refine px_oxv' rfl (oxv_store (i := 0) (o := 5) rfl rfl (lv_sl _ _) ⟨rfl, rfl, rfl, rfl⟩ rfl info25 rfl (H' := [⟨.pointer (some q904), [(Sl Kf r20), (Vi a0_1b), (Vi 0), (Vi 0), (Sl Kf r39), (Sl Kf r48)], 37, none⟩]) rfl) rfl rfl bo_nil (wt_none' rfl) fun _ => ?_
     refine px_nil' ?_
     show TX E K7 _
     exact tx_pick' [0] (sub_cons rfl (sub_cons rfl (sub_cons rfl (sub_cons rfl sub_nil)))) (by decide) (pick_cons rfl pick_nil) (hK7 ((G118.c1 (G116.c0 a0_1e_1a_0a) (G116.c0 a0_1e_1b_0a)), r39, r48) hp)
  intro hN7
  refine ax_node (f' := 1) #[true, true, true, true, true, true, true, true, true, true, true, true, false] (fun (v5 : Addr) => (⟨85, [], [(7, (Vp v5)), (25, (Ag [(Sl Kf r20), (Vi a0_1b), (Vi 0), (Vi 0), Vn, Vn])), (0, (Pt [(SG116 (G116.c0 a0_1a_0a)), (Vi a0_1b), (SG66 a0_1c), (SG66 a0_1d), (SG118 a0_1e)])), (1, Vn), (6, (Vi ((0 : Nat) : Int)))], [⟨.pointer (some v5), [Vn, (Vi 0), (Vi 0), (Vi 0), Vn, Vn], 37, none⟩]⟩ : St)) ?_ ?_
  ·rintro q903
   refine ax_all (i := 12) (is := []) (by kernel_rfl) (all_cons ?_ all_nil)
   ·refine nx_oxv (last := #[true, true, true, true, true, true, true, true, true, true, true, true, true]) rfl (oxv_store (i := 0) (o := 0) rfl rfl (lv_ag _) ⟨rfl, rfl, rfl, rfl⟩ rfl info37 rfl (H' := [⟨.pointer (some q903), [(Sl Kf r20), (Vi a0_1b), (Vi 0), (Vi 0), Vn, Vn], 37, none⟩]) rfl) rfl rfl bo_nil (wt_none' rfl) rfl fun _ => ?_
    exact tx_pick' [0] (sub_cons rfl (sub_cons rfl (sub_cons rfl (sub_cons rfl sub_nil)))) (by decide) (pick_cons rfl pick_nil) (hN7 q903)
  intro hN6
  refine ax_node (f' := 2) #[true, true, true, true, true, true, true, true, true, true, true, false, false] (fun (v3 : Unit) => (⟨85, [], [(25, (Ag [(Sl Kf r20), (Vi a0_1b), (Vi 0), (Vi 0), Vn, Vn])), (0, (Pt [(SG116 (G116.c0 a0_1a_0a)), (Vi a0_1b), (SG66 a0_1c), (SG66 a0_1d), (SG118 a0_1e)])), (1, Vn), (6, (Vi ((0 : Nat) : Int)))], []⟩ : St)) ?_ ?_
  ·rintro ⟨⟩
   refine ax_all (i := 11) (is := []) (by kernel_rfl) (all_cons ?_ all_nil)
   ·refine nx_ox (last := #[true, true, true, true, true, true, true, true, true, true, true, true, false]) rfl (ox_alloc' info37 rfl rfl rfl rfl (l := [Vn, (Vi 0), (Vi 0), (Vi 0), Vn, Vn]) rfl) rfl bs_nil (wt_none' rfl) rfl fun q7 => ?_
    exact tx_pick' [0] (sub_cons rfl (sub_cons rfl (sub_cons rfl (sub_cons rfl (sub_cons rfl sub_nil))))) (by decide) (pick_cons rfl pick_nil) (hN6 q7)
  intro hN4
  refine ax_node (f' := 2) #[true, true, true, true, true, true, true, true, true, true, false, true, false] (fun (v4 : Addr) => (⟨85, [], [(7, (Vp v4)), (20, (Sl Kf r20)), (24, (Vi a0_1b)), (0, (Pt [(SG116 (G116.c0 a0_1a_0a)), (Vi a0_1b), (SG66 a0_1c), (SG66 a0_1d), (SG118 a0_1e)])), (1, Vn), (6, (Vi ((0 : Nat) : Int)))], [⟨.pointer (some v4), [Vn, (Vi 0), (Vi 0), (Vi 0), Vn, Vn], 37, none⟩]⟩ : St)) ?_ ?_
  ·rintro q902
   refine ax_rd (ix := 10) (last := #[true, true, true, true, true, true, true, true, true, true, true, true, false]) (by kernel_rfl) rfl (rd_build' (pls := [(0, 1), (1, 1), (2, 1), (3, 1), (4, 1), (5, 1)]) (qs := [(0, [(Sl Kf r20)]), (1, [(Vi a0_1b)])]) (r := [(Sl Kf r20), (Vi a0_1b), (Vi 0), (Vi 0), Vn, Vn]) ⟨rfl, ⟨_, rfl, (lv_sl _ _)⟩, ⟨rfl, ⟨_, rfl, (lv_vl rfl rfl)⟩, trivial⟩⟩ Try.underlying37 has37 places37 info37 rfl rfl rfl) rfl rfl (wt_none' rfl) rfl ?_
   exact tx_pick' [0] (sub_cons rfl (sub_cons rfl (sub_cons rfl (sub_cons rfl (sub_cons rfl sub_nil))))) (by decide) (pick_cons rfl pick_nil) (hN6 q902)
  intro hN5
  refine ax_node (f' := 3) #[true, true, true, true, true, true, true, true, true, true, false, false, false] (fun (v1 : Unit) => (⟨85, [], [(20, (Sl Kf r20)), (24, (Vi a0_1b)), (0, (Pt [(SG116 (G116.c0 a0_1a_0a)), (Vi a0_1b), (SG66 a0_1c), (SG66 a0_1d), (SG118 a0_1e)])), (1, Vn), (6, (Vi ((0 : Nat) : Int)))], []⟩ : St)) ?_ ?_
  ·rintro ⟨⟩
   refine ax_rd (ix := 10) (last := #[true, true, true, true, true, true, true, true, true, true, true, false, false]) (by kernel_rfl) rfl (rd_build' (pls := [(0, 1), (1, 1), (2, 1), (3, 1), (4, 1), (5, 1)]) (qs := [(0, [(Sl Kf r20)]), (1, [(Vi a0_1b)])]) (r := [(Sl Kf r20), (Vi a0_1b), (Vi 0), (Vi 0), Vn, Vn]) ⟨rfl, ⟨_, rfl, (lv_sl _ _)⟩, ⟨rfl, ⟨_, rfl, (lv_vl rfl rfl)⟩, trivial⟩⟩ Try.underlying37 has37 places37 info37 rfl rfl rfl) rfl rfl (wt_none' rfl) rfl ?_
   exact tx_pick' [] (sub_cons rfl (sub_cons rfl (sub_cons rfl (sub_cons rfl sub_nil)))) (by decide) pick_nil (hN4 ())
  intro hN2
  refine ax_node (f' := 3) #[true, true, true, true, true, false, true, true, true, true, false, true, false] (fun (v2 : Addr) => (⟨85, [], [(7, (Vp v2)), (19, (Sl Kf a0_1a_0a)), (24, (Vi a0_1b)), (0, (Pt [(SG116 (G116.c0 a0_1a_0a)), (Vi a0_1b), (SG66 a0_1c), (SG66 a0_1d), (SG118 a0_1e)])), (1, Vn), (6, (Vi ((0 : Nat) : Int)))], [⟨.pointer (some v2), [Vn, (Vi 0), (Vi 0), (Vi 0), Vn, Vn], 37, none⟩]⟩ : St)) ?_ ?_
  ·rintro q901
   refine ax_all (i := 5) (is := []) (by kernel_rfl) (all_cons ?_ all_nil)
   ·refine nx_ox (last := #[true, true, true, true, true, true, true, true, true, true, false, true, false]) rfl (ox_calln' (ent_fn' Try.func30 isn30 rfl rfl) (impl_floats_sim _ hr20 : Sx.Fn Try.prog 30 [(Sl Kf a0_1a_0a)] [] (fun x : Unit => (Sl Kf r20)) (fun x => [])) (Hn := fun x : Unit => [⟨.pointer (some q901), [Vn, (Vi 0), (Vi 0), (Vi 0), Vn, Vn], 37, none⟩]) (fun _ => rfl) rfl rfl) rfl bs_nil (wt_none' rfl) rfl fun ⟨⟩ => ?_
    exact tx_pick' [0] (sub_cons rfl (sub_cons rfl (sub_cons rfl (sub_cons rfl (sub_cons rfl (sub_cons rfl sub_nil)))))) (by decide) (pick_cons rfl pick_nil) (hN5 q901)
  intro hN3
  refine ax_all (i := 5) (is := [11]) (by kernel_rfl) (all_cons ?_ (all_cons ?_ all_nil))
  ·refine nx_ox (last := #[true, true, true, true, true, true, true, true, true, true, false, false, false]) rfl (ox_calln' (ent_fn' Try.func30 isn30 rfl rfl) (impl_floats_sim _ hr20 : Sx.Fn Try.prog 30 [(Sl Kf a0_1a_0a)] [] (fun x : Unit => (Sl Kf r20)) (fun x => [])) (Hn := fun x : Unit => []) (fun _ => rfl) rfl rfl) rfl bs_nil (wt_none' rfl) rfl fun ⟨⟩ => ?_
   exact tx_pick' [] (sub_cons rfl (sub_cons rfl (sub_cons rfl (sub_cons rfl (sub_cons rfl sub_nil))))) (by decide) pick_nil (hN2 ())
  refine nx_ox (last := #[true, true, true, true, true, false, true, true, true, true, false, true, false]) rfl (ox_alloc' info37 rfl rfl rfl rfl (l := [Vn, (Vi 0), (Vi 0), (Vi 0), Vn, Vn]) rfl) rfl bs_nil (wt_none' rfl) rfl fun q7 => ?_
  exact tx_pick' [0] (sub_cons rfl (sub_cons rfl (sub_cons rfl (sub_cons rfl (sub_cons rfl (sub_cons rfl sub_nil)))))) (by decide) (pick_cons rfl pick_nil) (hN3 q7)

def impl_KTree (k : Nat) (a0 : List (List Nat)) (a1 : Bool) : Option ((List ((List Nat) × Int × Int × Int × (List Nat) × (List Nat))) × Int × Bool) :=
 (impl_kpoints k a0) >>= fun r10 =>
 (kdtree_New k r10 0 r10.length a1) >>= fun r13 =>
 (impl_knodes k r13.2.1) >>= fun r19 =>
 some (r19.1, r19.2, true)

theorem impl_KTree_sim {k : Nat}  (a0 : List (List Nat)) (a1 : Bool) {out : (List ((List Nat) × Int × Int × Int × (List Nat) × (List Nat))) × Int × Bool} (hp : impl_KTree k a0 a1 = some out) : Sx.Fn Try.prog 15 [(Sl (Kl Kf) a0), (Vb a1)] [] (fun w : Unit => (Tu [(Sl KT37 out.1), (Vi out.2.1), (Vb out.2.2)])) (fun w => []) := by
 unfold impl_KTree at hp
 refine fnD_of Try.func15 rfl Try.ntmps15 rfl fun E hM => ?_
 refine cr fun K1 hK1 => ?_
 refine sx_ox' (ox_alloc' info26 rfl rfl rfl rfl (l := [Vn]) rfl) (wt_none' rfl) fun q4 => ?_
 refine sx_ox' (ox_alloc' info3 rfl rfl rfl rfl (l := [(Vi 0)]) rfl) (wt_none' rfl) fun q5 => ?_
 refine sx_ox' (ox_alloc' info4 rfl rfl rfl rfl (l := [(Vb false)]) rfl) (wt_none' rfl) fun q6 => ?_
 refine nk hK1 ?_
 refine cr fun K2 hK2 => ?_
 refine s0 (rd_mkfunc' (us := [.pointer (some q4), .pointer (some q5), .pointer (some q6)]) rfl) ?_
 refine sx_ox' (ox_defer' rfl rfl) (wt_none' rfl) fun _ => ?_
 refine nk hK2 ?_
 refine cr fun K3 hK3 => ?_
 refine s0 (rd_move' rfl) ?_
 obtain ⟨r10, hr10, hp⟩ := bind_some hp
 refine sx_ox' (ox_calln' (ent_fn' Try.func39 isn39 rfl rfl) (impl_kpoints_sim _ hr10 : Sx.Fn Try.prog 39 [(Sl (Kl Kf) a0)] [] (fun x : Gs => (Vl (Vs x))) (fun x => [(Rw (Kl Kf) 62 (Vs x) r10)])) (Hn := fun x : Gs => [(Rw (Kl Kf) 62 (Vs x) r10), ⟨.pointer (some q6), [(Vb false)], 4, none⟩, ⟨.pointer (some q5), [(Vi 0)], 3, none⟩, ⟨.pointer (some q4), [Vn], 26, none⟩]) (fun _ => rfl) rfl rfl) (wt_none' rfl) fun g10 => ?_
 refine tx_view' 10 0 (K := (Kl Kf)) rfl rfl rfl ?_
 refine s0 (rd_iface' rfl ⟨_, Try.underlying75, fun _ h => (nomatch h)⟩) ?_
 refine s0 (rd_move' rfl) ?_
 obtain ⟨r13, hr13, hp⟩ := bind_some hp
 refine sx_ox' (ox_callg' (ent_fn' Try.func38 isn38 rfl rfl) (kdtree_New_sim _ _ _ _ hr13 : Sx.Fn Try.prog 38 [(If 75 (Rvw (Vs g10) (Kl Kf).size 0 r10.length)), (Vb a1)] [(Rw (Kl Kf) 62 (Vs g10) r10)] (fun x : Addr => (Vp x)) (fun x => [(Rw (Kl Kf) 62 (Vs g10) r13.1), ⟨.pointer (some x), [(SG66 r13.2.1), (Vi r13.2.2)], 68, none⟩])) [0] [1, 2, 3] (by decide) (pick_cons rfl pick_nil) (pick_cons rfl (pick_cons rfl (pick_cons rfl pick_nil))) (Hn := fun x : Addr => [(Rw (Kl Kf) 62 (Vs g10) r13.1), ⟨.pointer (some x), [(SG66 r13.2.1), (Vi r13.2.2)], 68, none⟩, ⟨.pointer (some q6), [(Vb false)], 4, none⟩, ⟨.pointer (some q5), [(Vi 0)], 3, none⟩, ⟨.pointer (some q4), [Vn], 26, none⟩]) (fun _ => rfl) rfl rfl) (wt_none' rfl) fun q13 => ?_
 refine s0 (rd_assign' rfl) ?_
 refine nk hK3 ?_
 refine cr fun K4 hK4 => ?_
 refine s0 (rd_move' rfl) ?_
 refine s0 (rd_nilck' rfl) ?_
 refine s0 (rd_field0' rfl Try.underlying68 rfl info66 rfl) ?_
 refine s0 (rd_load' (i := 1) (o := 0) rfl ⟨rfl, rfl, rfl, rfl⟩ rfl flat66) ?_
 obtain ⟨r19, hr19, hp⟩ := bind_some hp
 refine sx_ox' (ox_calln' (ent_fn' Try.func31 isn31 rfl rfl) (impl_knodes_sim _ hr19 : Sx.Fn Try.prog 31 [(SG66 r13.2.1), Vn] [] (fun x : Gs => (Tu [(Vl (Vs x)), (Vi r19.2)])) (fun x => [(Rw KT37 37 (Vs x) r19.1)])) (Hn := fun x : Gs => [(Rw KT37 37 (Vs x) r19.1), (Rw (Kl Kf) 62 (Vs g10) r13.1), ⟨.pointer (some q13), [(SG66 r13.2.1), (Vi r13.2.2)], 68, none⟩, ⟨.pointer (some q6), [(Vb false)], 4, none⟩, ⟨.pointer (some q5), [(Vi 0)], 3, none⟩, ⟨.pointer (some q4), [Vn], 26, none⟩]) (fun _ => rfl) rfl rfl) (wt_none' rfl) fun g19 => ?_
 refine s0 (rd_move' rfl) ?_
 refine s0 (rd_extract' rfl rfl) ?_
 refine s0 (rd_extract' rfl rfl) ?_
 refine sx_ox' (ox_store' (i := 5) (o := 0) rfl rfl (lv_vl rfl rfl) ⟨rfl, rfl, rfl, rfl⟩ rfl info26 rfl (H' := [(Rw KT37 37 (Vs g19) r19.1), (Rw (Kl Kf) 62 (Vs g10) r13.1), ⟨.pointer (some q13), [(SG66 r13.2.1), (Vi r13.2.2)], 68, none⟩, ⟨.pointer (some q6), [(Vb false)], 4, none⟩, ⟨.pointer (some q5), [(Vi 0)], 3, none⟩, ⟨.pointer (some q4), [(Vl (Vs g19))], 26, none⟩]) rfl) (wt_none' rfl) fun _ => ?_
 refine sx_ox' (ox_store' (i := 4) (o := 0) rfl rfl (lv_vl rfl rfl) ⟨rfl, rfl, rfl, rfl⟩ rfl info3 rfl (H' := [(Rw KT37 37 (Vs g19) r19.1), (Rw (Kl Kf) 62 (Vs g10) r13.1), ⟨.pointer (some q13), [(SG66 r13.2.1), (Vi r13.2.2)], 68, none⟩, ⟨.pointer (some q6), [(Vb false)], 4, none⟩, ⟨.pointer (some q5), [(Vi r19.2)], 3, none⟩, ⟨.pointer (some q4), [(Vl (Vs g19))], 26, none⟩]) rfl) (wt_none' rfl) fun _ => ?_
 refine nk hK4 ?_
 refine cx_seq' fun K5 hK5 => ?_
 refine cx_plan' [q5.block] [(2, 1), (3, 2), (4, 1)] [(0, 1), (1, 2), (2, 0), (3, 0), (4, 0)] mixed (by kernel_rfl) ?_
 refine px_rd' rfl (rd_load' (i := 5) (o := 0) rfl ⟨rfl, rfl, rfl, rfl⟩ rfl flat26) rfl rfl (wt_none' rfl) ?_
 refine px_rb' rfl (rb_load' (i := 4) (o := 0) rfl ⟨rfl, rfl, rfl, rfl⟩ rfl flat3 (by simp)) rfl rfl (wt_none' rfl) ?_
 refine px_oxv' rfl (oxv_store (i := 5) (o := 0) rfl rfl (lv_vl rfl rfl) ⟨rfl, rfl, rfl, rfl⟩ rfl info26 rfl (H' := [(Rw KT37 37 (Vs g19) r19.1), (Rw (Kl Kf) 62 (Vs g10) r13.1), ⟨.pointer (some q13), [(SG66 r13.2.1), (Vi r13.2.2)], 68, none⟩, ⟨.pointer (some q6), [(Vb false)], 4, none⟩, ⟨.pointer (some q5), [(Vi r19.2)], 3, none⟩, ⟨.pointer (some q4), [(Vl (Vs g19))], 26, none⟩]) rfl) rfl rfl (bo_cons (m := 4) (by decide) rfl rfl bo_nil) (wt_none' rfl) fun _ => ?_
 refine px_ox' rfl (ox_store' (i := 4) (o := 0) rfl rfl (lv_vl rfl rfl) ⟨rfl, rfl, rfl, rfl⟩ rfl info3 rfl (H' := [(Rw KT37 37 (Vs g19) r19.1), (Rw (Kl Kf) 62 (Vs g10) r13.1), ⟨.pointer (some q13), [(SG66 r13.2.1), (Vi r13.2.2)], 68, none⟩, ⟨.pointer (some q6), [(Vb false)], 4, none⟩, ⟨.pointer (some q5), [(Vi r19.2)], 3, none⟩, ⟨.pointer (some q4), [(Vl (Vs g19))], 26, none⟩]) rfl) rfl (bs_cons (m := 4) rfl rfl rfl bs_nil) (wt_none' rfl) fun _ => ?_
 refine px_oxv' rfl (oxv_store (i := 3) (o := 0) rfl rfl (lv_vl rfl rfl) ⟨rfl, rfl, rfl, rfl⟩ rfl info4 rfl (H' := [(Rw KT37 37 (Vs g19) r19.1), (Rw (Kl Kf) 62 (Vs g10) r13.1), ⟨.pointer (some q13), [(SG66 r13.2.1), (Vi r13.2.2)], 68, none⟩, ⟨.pointer (some q6), [(Vb true)], 4, none⟩, ⟨.pointer (some q5), [(Vi r19.2)], 3, none⟩, ⟨.pointer (some q4), [(Vl (Vs g19))], 26, none⟩]) rfl) rfl rfl (bo_cons (m := 4) (by decide) rfl rfl bo_nil) (wt_none' rfl) fun _ => ?_
 refine px_nil' ?_
 show TX E K5 _
 refine tx_k' hK5 ?_
 refine cx_retc' ?_
 replace hp := Option.some.inj hp
 subst hp
 refine tx_leave' (.inl rfl) rfl idle37 rfl Try.func37 isn37 rfl ?_
 refine tx_fz' (frz_row 0 [(20, (Vl (Vs g19)), (Sl KT37 r19.1)), (22, (Vl (Vs g19)), (Sl KT37 r19.1))] (K := KT37) (xs := r19.1) (by decide) rfl ⟨⟨rfl, frz_it⟩, ⟨rfl, frz_it⟩, trivial⟩ (H' := [(Rw (Kl Kf) 62 (Vs g10) r13.1), ⟨.pointer (some q13), [(SG66 r13.2.1), (Vi r13.2.2)], 68, none⟩, ⟨.pointer (some q6), [(Vb true)], 4, none⟩, ⟨.pointer (some q5), [(Vi r19.2)], 3, none⟩, ⟨.pointer (some q4), [(Sl KT37 r19.1)], 26, none⟩]) (frzH_cons rfl rfl rfl frzL_refl (frzH_cons rfl rfl rfl frzL_refl (frzH_cons rfl rfl rfl frzL_refl (frzH_cons rfl rfl rfl frzL_refl (frzH_cons rfl rfl rfl (frzL_cons frz_it frzL_refl) frzH_refl)))))) ?_
 refine tx_pick' (L' := [(4, (Vp q4)), (5, (Vp q5)), (6, (Vp q6))]) (H' := [⟨.pointer (some q4), [(Sl KT37 r19.1)], 26, none⟩, ⟨.pointer (some q5), [(Vi r19.2)], 3, none⟩, ⟨.pointer (some q6), [(Vb true)], 4, none⟩]) [4, 3, 2] (sub_cons rfl (sub_cons rfl (sub_cons rfl sub_nil))) (by decide) (pick_cons rfl (pick_cons rfl (pick_cons rfl pick_nil))) ?_
 exact tx_ret3' Try.results15 rfl () (rv_cell' (i := 0) (o := 0) rfl ⟨rfl, rfl, rfl, rfl⟩ rfl flat26) (rv_cell' (i := 1) (o := 0) rfl ⟨rfl, rfl, rfl, rfl⟩ rfl flat3) (rv_cell' (i := 2) (o := 0) rfl ⟨rfl, rfl, rfl, rfl⟩ rfl flat4) rfl (List.nil_sublist _)

def spec_KWalk_1 (k : Nat) (a0 : Int) (a1_0 : List ((List Nat) × Int × Int × Int × (List Nat) × (List Nat))) : Option ((List ((List Nat) × Int × Int × Int × (List Nat) × (List Nat))) × Int × Int) :=
 (idx a1_0 a0) >>= fun r7 =>
 (idx a1_0 a0) >>= fun r12 =>
 some (a1_0, r7.2.2.1, r12.2.2.2.1)

theorem spec_KWalk_1_sim {k : Nat} {wa1 : Addr} (a0 : Int) (a1_0 : List ((List Nat) × Int × Int × Int × (List Nat) × (List Nat))) {out : (List ((List Nat) × Int × Int × Int × (List Nat) × (List Nat))) × Int × Int} (hp : spec_KWalk_1 k a0 a1_0 = some out) : Sx.Fn Try.prog 36 [(Vi a0), (Vp wa1)] [⟨.pointer (some wa1), [(Sl KT37 a1_0)], 26, none⟩] (fun w : Unit => (Tu [(Vi out.2.1), (Vi out.2.2)])) (fun w => [⟨.pointer (some wa1), [(Sl KT37 out.1)], 26, none⟩]) := by
 unfold spec_KWalk_1 at hp
 refine fn_of Try.func36 rfl Try.ntmps36 rfl fun E hM => ?_
 refine cr fun K1 hK1 => ?_
 refine s0 (rd_assign' rfl) ?_
 refine s0 (rd_assign' rfl) ?_
 refine nk hK1 ?_
 refine cx_seq' fun K2 hK2 => ?_
 refine cx_draw' mixed (by kernel_rfl) ?_
 refine qx_rd' (rd_load' (i := 0) (o := 0) rfl ⟨rfl, rfl, rfl, rfl⟩ rfl flat26) rfl rfl (wt_none' rfl) ?_
 refine qx_rd' (rd_move' rfl) rfl rfl (wt_none' rfl) ?_
 obtain ⟨r7, hr7, hp⟩ := bind_some hp
 refine qx_rd' (rd_at' (K := KT37) rfl rfl hr7 Try.underlying26 info37) rfl rfl (wt_none' rfl) ?_
 refine qx_rd' (rd_field_pt' (off := 2) rfl Try.underlying37 rfl info3 rfl (l' := [(Vi r7.2.2.1), (Vi r7.2.2.2.1), (Sl Kf r7.2.2.2.2.1), (Sl Kf r7.2.2.2.2.2)]) rfl) rfl rfl (wt_none' rfl) ?_
 refine qx_rd' (rd_load_pt' rfl rfl flat3) rfl rfl (wt_none' rfl) ?_
 refine qx_rd' (rd_load' (i := 0) (o := 0) rfl ⟨rfl, rfl, rfl, rfl⟩ rfl flat26) rfl rfl (wt_none' rfl) ?_
 refine qx_rd' (rd_move' rfl) rfl rfl (wt_none' rfl) ?_
 obtain ⟨r12, hr12, hp⟩ := bind_some hp
 refine qx_rd' (rd_at' (K := KT37) rfl rfl hr12 Try.underlying26 info37) rfl rfl (wt_none' rfl) ?_
 refine qx_rd' (rd_field_pt' (off := 3) rfl Try.underlying37 rfl info3 rfl (l' := [(Vi r12.2.2.2.1), (Sl Kf r12.2.2.2.2.1), (Sl Kf r12.2.2.2.2.2)]) rfl) rfl rfl (wt_none' rfl) ?_
 refine qx_rd' (rd_load_pt' rfl rfl flat3) rfl rfl (wt_none' rfl) ?_
 refine qx_rd' (rd_assign' rfl) rfl rfl (wt_none' rfl) ?_
 refine qx_rd' (rd_assign' rfl) rfl rfl (wt_none' rfl) ?_
 refine qx_nil' ?_
 show TX E K2 _
 refine tx_k' hK2 ?_
 refine cx_retc' ?_
 replace hp := Option.some.inj hp
 subst hp
 refine tx_pick' (L' := [(3, (Vi r7.2.2.1)), (4, (Vi r12.2.2.2.1))]) (H' := [⟨.pointer (some wa1), [(Sl KT37 a1_0)], 26, none⟩]) [0] (sub_cons rfl (sub_cons rfl sub_nil)) (by decide) (pick_cons rfl pick_nil) ?_
 exact tx_ret2' Try.results36 rfl () (rv_tmp' rfl) (rv_tmp' rfl) rfl (List.Sublist.refl _)

end Go.Proofs.Ytjgpiealnfbkcaa
