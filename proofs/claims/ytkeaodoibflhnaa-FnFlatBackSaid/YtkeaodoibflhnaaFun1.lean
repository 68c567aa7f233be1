/-
  Plain functions for the Go functions that this law reaches, and that each call does what its plain function says. Printed by a program of ours.
-/
import Derived.Test.YtkeaodoibflhnaaProg
import Derived.Test.YtkeaodoibflhnaaSxZ
namespace Go.Proofs.Ytkeaodoibflhnaa
open Go.Sx
set_option linter.unusedVariables false
set_option maxRecDepth 100000

theorem isn37 : (Try.f37.name == "runtime.NumGoroutine") = false := by kernel_rfl
theorem info23 : (Try.prog.info? 23).map (fun i => (i.zero, i.size, i.bytes)) = some (some (.slice none 0 0), 1, 24) := by kernel_rfl
theorem flat23 : Flat Try.prog 23 := ⟨_, Try.underlying23, fun _ h => (nomatch h), fun _ _ h => (nomatch h)⟩
theorem isn32 : (Try.f32.name == "runtime.NumGoroutine") = false := by kernel_rfl
theorem isn21 : (Try.f21.name == "runtime.NumGoroutine") = false := by kernel_rfl
theorem places27 : placesOf Try.prog [{ name := "Kind", type := 3, offset := 0, embedded := false, tag := "", pkgPath := "", byteOffset := 0 }, { name := "Layout", type := 3, offset := 1, embedded := false, tag := "", pkgPath := "", byteOffset := 8 }, { name := "SRID", type := 3, offset := 2, embedded := false, tag := "", pkgPath := "", byteOffset := 16 }, { name := "Flat", type := 22, offset := 3, embedded := false, tag := "", pkgPath := "", byteOffset := 24 }, { name := "Ends", type := 23, offset := 4, embedded := false, tag := "", pkgPath := "", byteOffset := 48 }, { name := "Endss", type := 24, offset := 5, embedded := false, tag := "", pkgPath := "", byteOffset := 72 }, { name := "Kids", type := 25, offset := 6, embedded := false, tag := "", pkgPath := "", byteOffset := 96 }] = [(0, 1), (1, 1), (2, 1), (3, 1), (4, 1), (5, 1), (6, 1)] := by kernel_rfl
theorem has27 : ∀ f ∈ ([{ name := "Kind", type := 3, offset := 0, embedded := false, tag := "", pkgPath := "", byteOffset := 0 }, { name := "Layout", type := 3, offset := 1, embedded := false, tag := "", pkgPath := "", byteOffset := 8 }, { name := "SRID", type := 3, offset := 2, embedded := false, tag := "", pkgPath := "", byteOffset := 16 }, { name := "Flat", type := 22, offset := 3, embedded := false, tag := "", pkgPath := "", byteOffset := 24 }, { name := "Ends", type := 23, offset := 4, embedded := false, tag := "", pkgPath := "", byteOffset := 48 }, { name := "Endss", type := 24, offset := 5, embedded := false, tag := "", pkgPath := "", byteOffset := 72 }, { name := "Kids", type := 25, offset := 6, embedded := false, tag := "", pkgPath := "", byteOffset := 96 }] : List Field), (Try.prog.info? f.type).isSome = true := fun f hf => all_of (p := fun f => (Try.prog.info? f.type).isSome) (by kernel_rfl) f hf
theorem info27 : (Try.prog.info? 27).map (fun i => (i.zero, i.size, i.bytes)) = some (some (.agg #[.int .i64 0, .int .i64 0, .int .i64 0, .slice none 0 0, .slice none 0 0, .slice none 0 0, .slice none 0 0]), 7, 120) := by kernel_rfl
theorem isn24 : (Try.f24.name == "runtime.NumGoroutine") = false := by kernel_rfl
theorem agg27 : Agg Try.prog 27 7 := ⟨⟨_, Try.underlying27, .inl ⟨_, rfl⟩⟩, info_size info27⟩
theorem isn52 : (Try.f52.name == "runtime.NumGoroutine") = false := by kernel_rfl
theorem isn105 : (Try.f105.name == "runtime.NumGoroutine") = false := by kernel_rfl
theorem isn133 : (Try.f133.name == "runtime.NumGoroutine") = false := by kernel_rfl
theorem info22 : (Try.prog.info? 22).map (fun i => (i.zero, i.size, i.bytes)) = some (some (.slice none 0 0), 1, 24) := by kernel_rfl
theorem flat22 : Flat Try.prog 22 := ⟨_, Try.underlying22, fun _ h => (nomatch h), fun _ _ h => (nomatch h)⟩
theorem info24 : (Try.prog.info? 24).map (fun i => (i.zero, i.size, i.bytes)) = some (some (.slice none 0 0), 1, 24) := by kernel_rfl
theorem flat24 : Flat Try.prog 24 := ⟨_, Try.underlying24, fun _ h => (nomatch h), fun _ _ h => (nomatch h)⟩
theorem info25 : (Try.prog.info? 25).map (fun i => (i.zero, i.size, i.bytes)) = some (some (.slice none 0 0), 1, 24) := by kernel_rfl
theorem flat25 : Flat Try.prog 25 := ⟨_, Try.underlying25, fun _ h => (nomatch h), fun _ _ h => (nomatch h)⟩
theorem isn134 : (Try.f134.name == "runtime.NumGoroutine") = false := by kernel_rfl
theorem info3 : (Try.prog.info? 3).map (fun i => (i.zero, i.size, i.bytes)) = some (some (.int .i64 0), 1, 8) := by kernel_rfl
theorem flat3 : Flat Try.prog 3 := ⟨_, Try.underlying3, fun _ h => (nomatch h), fun _ _ h => (nomatch h)⟩
theorem isn106 : (Try.f106.name == "runtime.NumGoroutine") = false := by kernel_rfl
theorem isn17 : (Try.f17.name == "runtime.NumGoroutine") = false := by kernel_rfl
theorem mixed : Try.prog.follows .mixedOrders = true := by kernel_rfl
theorem isn136 : (Try.f136.name == "runtime.NumGoroutine") = false := by kernel_rfl
theorem isn135 : (Try.f135.name == "runtime.NumGoroutine") = false := by kernel_rfl
theorem isn153 : (Try.f153.name == "runtime.NumGoroutine") = false := by kernel_rfl
theorem isn11 : (Try.f11.name == "runtime.NumGoroutine") = false := by kernel_rfl
theorem isn38 : (Try.f38.name == "runtime.NumGoroutine") = false := by kernel_rfl
theorem isn39 : (Try.f39.name == "runtime.NumGoroutine") = false := by kernel_rfl
theorem isn79 : (Try.f79.name == "runtime.NumGoroutine") = false := by kernel_rfl
theorem isn119 : (Try.f119.name == "runtime.NumGoroutine") = false := by kernel_rfl
theorem isn141 : (Try.f141.name == "runtime.NumGoroutine") = false := by kernel_rfl
theorem info32 : (Try.prog.info? 32).map (fun i => (i.zero, i.size, i.bytes)) = some (some (.float .f64 0), 1, 8) := by kernel_rfl
theorem info140 : (Try.prog.info? 140).map (fun i => (i.zero, i.size, i.bytes)) = some (some (.slice none 0 0), 1, 24) := by kernel_rfl
theorem isn78 : (Try.f78.name == "runtime.NumGoroutine") = false := by kernel_rfl
theorem flat140 : Flat Try.prog 140 := ⟨_, Try.underlying140, fun _ h => (nomatch h), fun _ _ h => (nomatch h)⟩
theorem isn58 : (Try.f58.name == "runtime.NumGoroutine") = false := by kernel_rfl
theorem idle77 : Idle Try.prog 77 2 := fun vs w hv => by
  obtain ⟨v0, v1, rfl⟩ : ∃ v0 v1, vs = [v0, v1] := by
    obtain _ | ⟨v0, vs⟩ := vs
    · simp at hv
    obtain _ | ⟨v1, vs⟩ := vs
    · simp at hv
    obtain _ | ⟨u, vs⟩ := vs
    · exact ⟨v0, v1, rfl⟩
    · simp at hv
  refine callsD_of_wpS Try.func77 rfl fun c₀ cs hu => ?_
  apply wpS_seq
  apply wpS_region
  simp [wpOpsS, go_sem, recoverD, hu, Try.ntmps77, Exit.thenS]
  refine wpS_cond (t := false) (by simp [Act.eval, Array.replicate]) ?_
  simp only [Bool.false_eq_true, if_false]
  refine wpS_of_wp (wp_skip ?_)
  cases c₀
  simp_all [bodyPostS, results, Try.results77]
theorem isn77 : (Try.f77.name == "runtime.NumGoroutine") = false := by kernel_rfl
theorem info4 : (Try.prog.info? 4).map (fun i => (i.zero, i.size, i.bytes)) = some (some (.bool false), 1, 1) := by kernel_rfl
theorem info51 : (Try.prog.info? 51).map (fun i => (i.zero, i.size, i.bytes)) = some (some (.slice none 0 0), 1, 24) := by kernel_rfl
theorem flat51 : Flat Try.prog 51 := ⟨_, Try.underlying51, fun _ h => (nomatch h), fun _ _ h => (nomatch h)⟩
theorem flat4 : Flat Try.prog 4 := ⟨_, Try.underlying4, fun _ h => (nomatch h), fun _ _ h => (nomatch h)⟩
theorem isn40 : (Try.f40.name == "runtime.NumGoroutine") = false := by kernel_rfl
theorem isn82 : (Try.f82.name == "runtime.NumGoroutine") = false := by kernel_rfl
theorem isn120 : (Try.f120.name == "runtime.NumGoroutine") = false := by kernel_rfl
theorem info117 : (Try.prog.info? 117).map (fun i => (i.zero, i.size, i.bytes)) = some (some (.slice none 0 0), 1, 24) := by kernel_rfl
theorem isn81 : (Try.f81.name == "runtime.NumGoroutine") = false := by kernel_rfl
theorem flat117 : Flat Try.prog 117 := ⟨_, Try.underlying117, fun _ h => (nomatch h), fun _ _ h => (nomatch h)⟩
theorem idle80 : Idle Try.prog 80 2 := fun vs w hv => by
  obtain ⟨v0, v1, rfl⟩ : ∃ v0 v1, vs = [v0, v1] := by
    obtain _ | ⟨v0, vs⟩ := vs
    · simp at hv
    obtain _ | ⟨v1, vs⟩ := vs
    · simp at hv
    obtain _ | ⟨u, vs⟩ := vs
    · exact ⟨v0, v1, rfl⟩
    · simp at hv
  refine callsD_of_wpS Try.func80 rfl fun c₀ cs hu => ?_
  apply wpS_seq
  apply wpS_region
  simp [wpOpsS, go_sem, recoverD, hu, Try.ntmps80, Exit.thenS]
  refine wpS_cond (t := false) (by simp [Act.eval, Array.replicate]) ?_
  simp only [Bool.false_eq_true, if_false]
  refine wpS_of_wp (wp_skip ?_)
  cases c₀
  simp_all [bodyPostS, results, Try.results80]
theorem isn80 : (Try.f80.name == "runtime.NumGoroutine") = false := by kernel_rfl
theorem info43 : (Try.prog.info? 43).map (fun i => (i.zero, i.size, i.bytes)) = some (some (.slice none 0 0), 1, 24) := by kernel_rfl
theorem flat43 : Flat Try.prog 43 := ⟨_, Try.underlying43, fun _ h => (nomatch h), fun _ _ h => (nomatch h)⟩
theorem isn41 : (Try.f41.name == "runtime.NumGoroutine") = false := by kernel_rfl
theorem isn85 : (Try.f85.name == "runtime.NumGoroutine") = false := by kernel_rfl
theorem isn121 : (Try.f121.name == "runtime.NumGoroutine") = false := by kernel_rfl
theorem info106 : (Try.prog.info? 106).map (fun i => (i.zero, i.size, i.bytes)) = some (some (.slice none 0 0), 1, 24) := by kernel_rfl
theorem isn84 : (Try.f84.name == "runtime.NumGoroutine") = false := by kernel_rfl
theorem flat106 : Flat Try.prog 106 := ⟨_, Try.underlying106, fun _ h => (nomatch h), fun _ _ h => (nomatch h)⟩
theorem idle83 : Idle Try.prog 83 2 := fun vs w hv => by
  obtain ⟨v0, v1, rfl⟩ : ∃ v0 v1, vs = [v0, v1] := by
    obtain _ | ⟨v0, vs⟩ := vs
    · simp at hv
    obtain _ | ⟨v1, vs⟩ := vs
    · simp at hv
    obtain _ | ⟨u, vs⟩ := vs
    · exact ⟨v0, v1, rfl⟩
    · simp at hv
  refine callsD_of_wpS Try.func83 rfl fun c₀ cs hu => ?_
  apply wpS_seq
  apply wpS_region
  simp [wpOpsS, go_sem, recoverD, hu, Try.ntmps83, Exit.thenS]
  refine wpS_cond (t := false) (by simp [Act.eval, Array.replicate]) ?_
  simp only [Bool.false_eq_true, if_false]
  refine wpS_of_wp (wp_skip ?_)
  cases c₀
  simp_all [bodyPostS, results, Try.results83]
theorem isn83 : (Try.f83.name == "runtime.NumGoroutine") = false := by kernel_rfl
theorem info47 : (Try.prog.info? 47).map (fun i => (i.zero, i.size, i.bytes)) = some (some (.slice none 0 0), 1, 24) := by kernel_rfl
theorem flat47 : Flat Try.prog 47 := ⟨_, Try.underlying47, fun _ h => (nomatch h), fun _ _ h => (nomatch h)⟩
theorem isn42 : (Try.f42.name == "runtime.NumGoroutine") = false := by kernel_rfl
theorem isn88 : (Try.f88.name == "runtime.NumGoroutine") = false := by kernel_rfl
theorem isn87 : (Try.f87.name == "runtime.NumGoroutine") = false := by kernel_rfl
theorem isn122 : (Try.f122.name == "runtime.NumGoroutine") = false := by kernel_rfl
theorem isn142 : (Try.f142.name == "runtime.NumGoroutine") = false := by kernel_rfl
theorem places225 : placesOf Try.prog [{ name := "Got", type := 3, offset := 0, embedded := false, tag := "", pkgPath := "", byteOffset := 0 }, { name := "Want", type := 3, offset := 1, embedded := false, tag := "", pkgPath := "", byteOffset := 8 }] = [(0, 1), (1, 1)] := by kernel_rfl
theorem has225 : ∀ f ∈ ([{ name := "Got", type := 3, offset := 0, embedded := false, tag := "", pkgPath := "", byteOffset := 0 }, { name := "Want", type := 3, offset := 1, embedded := false, tag := "", pkgPath := "", byteOffset := 8 }] : List Field), (Try.prog.info? f.type).isSome = true := fun f hf => all_of (p := fun f => (Try.prog.info? f.type).isSome) (by kernel_rfl) f hf
theorem info225 : (Try.prog.info? 225).map (fun i => (i.zero, i.size, i.bytes)) = some (some (.agg #[.int .i64 0, .int .i64 0]), 2, 16) := by kernel_rfl
theorem nil_neq103_if225 : ∀ (v : Value) (w : World), (binOp .neq 103 (.iface 225 v) .nilIface).run Try.prog w = .ok (.bool true) w := fun _ _ => by kernel_rfl
theorem nil_neq103_nilif : ∀ (w : World), (binOp .neq 103 .nilIface .nilIface).run Try.prog w = .ok (.bool false) w := fun _ => by kernel_rfl
theorem nil_eql103_if225 : ∀ (v : Value) (w : World), (binOp .eql 103 (.iface 225 v) .nilIface).run Try.prog w = .ok (.bool false) w := fun _ _ => by kernel_rfl
theorem idle86 : Idle Try.prog 86 2 := fun vs w hv => by
  obtain ⟨v0, v1, rfl⟩ : ∃ v0 v1, vs = [v0, v1] := by
    obtain _ | ⟨v0, vs⟩ := vs
    · simp at hv
    obtain _ | ⟨v1, vs⟩ := vs
    · simp at hv
    obtain _ | ⟨u, vs⟩ := vs
    · exact ⟨v0, v1, rfl⟩
    · simp at hv
  refine callsD_of_wpS Try.func86 rfl fun c₀ cs hu => ?_
  apply wpS_seq
  apply wpS_region
  simp [wpOpsS, go_sem, recoverD, hu, Try.ntmps86, Exit.thenS]
  refine wpS_cond (t := false) (by simp [Act.eval, Array.replicate]) ?_
  simp only [Bool.false_eq_true, if_false]
  refine wpS_of_wp (wp_skip ?_)
  cases c₀
  simp_all [bodyPostS, results, Try.results86]
theorem isn86 : (Try.f86.name == "runtime.NumGoroutine") = false := by kernel_rfl
theorem nil_eql103_nilif : ∀ (w : World), (binOp .eql 103 .nilIface .nilIface).run Try.prog w = .ok (.bool true) w := fun _ => by kernel_rfl
theorem isn25 : (Try.f25.name == "runtime.NumGoroutine") = false := by kernel_rfl
theorem isn67 : (Try.f67.name == "runtime.NumGoroutine") = false := by kernel_rfl
theorem isn66 : (Try.f66.name == "runtime.NumGoroutine") = false := by kernel_rfl
theorem isn114 : (Try.f114.name == "runtime.NumGoroutine") = false := by kernel_rfl
theorem isn68 : (Try.f68.name == "runtime.NumGoroutine") = false := by kernel_rfl
theorem idle65 : Idle Try.prog 65 3 := fun vs w hv => by
  obtain ⟨v0, v1, v2, rfl⟩ : ∃ v0 v1 v2, vs = [v0, v1, v2] := by
    obtain _ | ⟨v0, vs⟩ := vs
    · simp at hv
    obtain _ | ⟨v1, vs⟩ := vs
    · simp at hv
    obtain _ | ⟨v2, vs⟩ := vs
    · simp at hv
    obtain _ | ⟨u, vs⟩ := vs
    · exact ⟨v0, v1, v2, rfl⟩
    · simp at hv
  refine callsD_of_wpS Try.func65 rfl fun c₀ cs hu => ?_
  apply wpS_seq
  apply wpS_region
  simp [wpOpsS, go_sem, recoverD, hu, Try.ntmps65, Exit.thenS]
  refine wpS_cond (t := false) (by simp [Act.eval, Array.replicate]) ?_
  simp only [Bool.false_eq_true, if_false]
  refine wpS_of_wp (wp_skip ?_)
  cases c₀
  simp_all [bodyPostS, results, Try.results65]
theorem isn65 : (Try.f65.name == "runtime.NumGoroutine") = false := by kernel_rfl
theorem isn43 : (Try.f43.name == "runtime.NumGoroutine") = false := by kernel_rfl
theorem isn91 : (Try.f91.name == "runtime.NumGoroutine") = false := by kernel_rfl
theorem isn90 : (Try.f90.name == "runtime.NumGoroutine") = false := by kernel_rfl
theorem isn123 : (Try.f123.name == "runtime.NumGoroutine") = false := by kernel_rfl
theorem isn92 : (Try.f92.name == "runtime.NumGoroutine") = false := by kernel_rfl
theorem idle89 : Idle Try.prog 89 3 := fun vs w hv => by
  obtain ⟨v0, v1, v2, rfl⟩ : ∃ v0 v1 v2, vs = [v0, v1, v2] := by
    obtain _ | ⟨v0, vs⟩ := vs
    · simp at hv
    obtain _ | ⟨v1, vs⟩ := vs
    · simp at hv
    obtain _ | ⟨v2, vs⟩ := vs
    · simp at hv
    obtain _ | ⟨u, vs⟩ := vs
    · exact ⟨v0, v1, v2, rfl⟩
    · simp at hv
  refine callsD_of_wpS Try.func89 rfl fun c₀ cs hu => ?_
  apply wpS_seq
  apply wpS_region
  simp [wpOpsS, go_sem, recoverD, hu, Try.ntmps89, Exit.thenS]
  refine wpS_cond (t := false) (by simp [Act.eval, Array.replicate]) ?_
  simp only [Bool.false_eq_true, if_false]
  refine wpS_of_wp (wp_skip ?_)
  cases c₀
  simp_all [bodyPostS, results, Try.results89]
theorem isn89 : (Try.f89.name == "runtime.NumGoroutine") = false := by kernel_rfl
theorem isn19 : (Try.f19.name == "runtime.NumGoroutine") = false := by kernel_rfl
theorem flat32 : Flat Try.prog 32 := ⟨_, Try.underlying32, fun _ h => (nomatch h), fun _ _ h => (nomatch h)⟩
theorem ext61 : ∀ {args : Array Value} {v : Value}, Runs Try.prog ((Extern.MathFloatBits.float64bits) args) v → Runs Try.prog (callFunc 61 args) (.value v) := fun hr => ru_ext Try.func61 (by kernel_rfl) (by kernel_rfl) (by kernel_rfl) (by kernel_rfl) hr
theorem isn26 : (Try.f26.name == "runtime.NumGoroutine") = false := by kernel_rfl
theorem isn44 : (Try.f44.name == "runtime.NumGoroutine") = false := by kernel_rfl
inductive T27 where
  | mk (x0 : Int) (x1 : Int) (x2 : Int) (x3 : List Nat) (x4 : List Int) (x5 : List (List Int)) (x6 : List T27) : T27
def T27.f0 : T27 → Int
  | .mk x0 x1 x2 x3 x4 x5 x6 => x0
def T27.f1 : T27 → Int
  | .mk x0 x1 x2 x3 x4 x5 x6 => x1
def T27.f2 : T27 → Int
  | .mk x0 x1 x2 x3 x4 x5 x6 => x2
def T27.f3 : T27 → List Nat
  | .mk x0 x1 x2 x3 x4 x5 x6 => x3
def T27.f4 : T27 → List Int
  | .mk x0 x1 x2 x3 x4 x5 x6 => x4
def T27.f5 : T27 → List (List Int)
  | .mk x0 x1 x2 x3 x4 x5 x6 => x5
def T27.f6 : T27 → List T27
  | .mk x0 x1 x2 x3 x4 x5 x6 => x6
def KT27d : Nat → Kd T27
  | 0 => ⟨7, fun _ => List.replicate 7 (Vl undef), fun _ => rfl⟩
  | n + 1 => ⟨7, fun x => [(Vl (.int .i64 x.f0)), (Vl (.int .i64 x.f1)), (Vl (.int .i64 x.f2)), (Sl Kf x.f3), (Sl (Ki .i64) x.f4), (Sl (Kl (Ki .i64)) x.f5), (Sl (KT27d n) x.f6)], fun _ => rfl⟩
def T27.depth : T27 → Nat
  | .mk x0 x1 x2 x3 x4 x5 x6 => ((x6.attach.map fun y => T27.depth y.1).foldl Nat.max 0) + 1
termination_by x => SizeOf.sizeOf x
decreasing_by
  have := List.sizeOf_lt_of_mem y.2
  simp only [T27.mk.sizeOf_spec]
  omega
def KT27 : Kd T27 := ⟨7, fun x => (KT27d x.depth).enc x, fun x => by cases h : x.depth <;> rfl⟩
theorem KT27_depth (x : T27) (y : T27) (h : y ∈ x.f6) : y.depth < x.depth := by
  cases x with
  | mk x0 x1 x2 x3 x4 x5 x6 =>
    rw [T27.depth]
    have := Go.Sx.le_foldl_max (x6.attach.map fun y => T27.depth y.1) 0 y.depth (List.mem_map.2 ⟨⟨y, h⟩, List.mem_attach _ _, rfl⟩)
    omega
theorem KT27_pos (x : T27) : 0 < x.depth := by cases x with | mk x0 x1 x2 x3 x4 x5 x6 => rw [T27.depth]; omega
theorem KT27_stable : ∀ (m n : Nat) (x : T27), x.depth ≤ m → x.depth ≤ n → (KT27d m).enc x = (KT27d n).enc x := by
  intro m
  induction m with
  | zero => intro n x h; have := KT27_pos x; omega
  | succ m ih =>
    intro n x h1 h2
    cases n with
    | zero => have := KT27_pos x; omega
    | succ n =>
      have : Sl (KT27d m) x.f6 = Sl (KT27d n) x.f6 := Go.Sx.sl_congr (by cases m <;> cases n <;> rfl) fun y hy => by
        have := KT27_depth x y hy
        exact ih n y (by omega) (by omega)
      show [(Vl (.int .i64 x.f0)), (Vl (.int .i64 x.f1)), (Vl (.int .i64 x.f2)), (Sl Kf x.f3), (Sl (Ki .i64) x.f4), (Sl (Kl (Ki .i64)) x.f5), (Sl (KT27d m) x.f6)] = [(Vl (.int .i64 x.f0)), (Vl (.int .i64 x.f1)), (Vl (.int .i64 x.f2)), (Sl Kf x.f3), (Sl (Ki .i64) x.f4), (Sl (Kl (Ki .i64)) x.f5), (Sl (KT27d n) x.f6)]
      rw [this]
theorem KT27_enc (x : T27) : KT27.enc x = [(Vl (.int .i64 x.f0)), (Vl (.int .i64 x.f1)), (Vl (.int .i64 x.f2)), (Sl Kf x.f3), (Sl (Ki .i64) x.f4), (Sl (Kl (Ki .i64)) x.f5), (Sl KT27 x.f6)] := by
  have hp := KT27_pos x
  obtain ⟨n, hn⟩ : ∃ n, x.depth = n + 1 := ⟨x.depth - 1, by omega⟩
  have : Sl (KT27d n) x.f6 = Sl KT27 x.f6 := Go.Sx.sl_congr (by cases n <;> rfl) fun y hy => by
    have := KT27_depth x y hy
    exact KT27_stable n y.depth y (by omega) (by omega)
  show (KT27d x.depth).enc x = _
  rw [hn]
  show [(Vl (.int .i64 x.f0)), (Vl (.int .i64 x.f1)), (Vl (.int .i64 x.f2)), (Sl Kf x.f3), (Sl (Ki .i64) x.f4), (Sl (Kl (Ki .i64)) x.f5), (Sl (KT27d n) x.f6)] = _
  rw [this]
inductive T27.Ok : T27 → Prop where
  | mk {x0 : Int} {x1 : Int} {x2 : Int} {x3 : List Nat} {x4 : List Int} {x5 : List (List Int)} {x6 : List T27} (g0 : IntKind.min .i64 ≤ x0 ∧ x0 ≤ IntKind.max .i64) (g1 : IntKind.min .i64 ≤ x1 ∧ x1 ≤ IntKind.max .i64) (g2 : IntKind.min .i64 ≤ x2 ∧ x2 ≤ IntKind.max .i64) (g3 : x3.length ≤ maxLen ∧ ∀ yx3 ∈ x3, yx3 < 18446744073709551616) (g4 : x4.length ≤ maxLen ∧ ∀ yx4 ∈ x4, IntKind.min .i64 ≤ yx4 ∧ yx4 ≤ IntKind.max .i64) (g5 : x5.length ≤ maxLen ∧ ∀ yx5 ∈ x5, yx5.length ≤ maxLen ∧ ∀ yyx5 ∈ yx5, IntKind.min .i64 ≤ yyx5 ∧ yyx5 ≤ IntKind.max .i64) (g6 : x6.length ≤ maxLen) (gk : ∀ y ∈ x6, T27.Ok y) : T27.Ok (.mk x0 x1 x2 x3 x4 x5 x6)


def laws_zzFits3_l1s (a0 : List (List Int)) (k : Nat) (rec1 : Int → Option (Unit ⊕ Unit)) (x1 : Int) : Option (Unit ⊕ Unit) :=
  br (decide (x1 < (a0.length : Int)))
    ((idx a0 x1) >>= fun r12 =>
    br (decide (2147483647 < (r12.length : Int)))
      (some (.inl ()))
      (rec1 (iadd .i64 x1 1)))
    (some (.inr ()))
def laws_zzFits3_l1 (a0 : List (List Int)) : Nat → Int → Option (Unit ⊕ Unit)
  | 0, _ => none
  | k + 1, v => laws_zzFits3_l1s a0 k (laws_zzFits3_l1 a0 k) v
def laws_zzFits3 (k : Nat) (a0 : List (List Int)) : Option (Bool) :=
  br (decide (2147483647 < (a0.length : Int)))
    (some false)
    ((laws_zzFits3_l1 a0 k 0) >>= fun y1 => match y1 with
      | (.inl v2) =>
        (some false)
      | (.inr v3) =>
        (some true))

theorem laws_zzFits3_sim {k : Nat}  (a0 : List (List Int)) {out : Bool} (hp : laws_zzFits3 k a0 = some out) : Go.Sx.Fn Try.prog 37 [(Sl (Kl (Ki .i64)) a0)] [] (fun w : Unit => (Vl (.bool out))) (fun w => []) := by
  unfold laws_zzFits3 at hp
  refine fn_of Try.func37 rfl Try.ntmps37 rfl fun E hM => ?_
  refine cx_seq' fun K1 hK1 => ?_
  refine cx_region' ?_
  refine sx_rd' (rd_assign' rfl) rfl rfl (wt_none' rfl) ?_
  refine sx_nil' ?_
  show TX E K1 _
  refine tx_k' hK1 ?_
  refine cx_seq' fun K2 hK2 => ?_
  refine cx_seq' fun K3 hK3 => ?_
  refine cx_region' ?_
  refine sx_rd' (rd_move' rfl) rfl rfl (wt_none' rfl) ?_
  refine sx_rd' (rd_len' rfl Try.underlying24) rfl rfl (wt_none' rfl) ?_
  refine sx_rd' (rd_bin' rfl rfl eg_int ru_gtr) rfl rfl (wt_none' rfl) ?_
  refine sx_nil' ?_
  show TX E K3 _
  refine tx_k' hK3 ?_
  refine cx_cond' rfl (fun h1 => ?_) (fun h1 => ?_)
  · replace hp := (br_t h1).symm.trans hp
    refine cx_seq' fun K4 hK4 => ?_
    refine cx_region' ?_
    refine sx_rd' (rd_assign' rfl) rfl rfl (wt_none' rfl) ?_
    refine sx_nil' ?_
    show TX E K4 _
    refine tx_k' hK4 ?_
    refine cx_retc' ?_
    replace hp := Option.some.inj hp
    subst hp
    refine tx_pick' (L' := [(2, (Vl (.bool false)))]) (H' := []) [] (sub_cons rfl sub_nil) (by decide) pick_nil ?_
    exact tx_ret1' Try.results37 rfl () (rv_tmp' rfl) (List.Sublist.refl _)
  · replace hp := (br_f h1).symm.trans hp
    refine cx_skip' ?_
    show TX E K2 _
    refine tx_k' hK2 ?_
    refine cx_seq' fun K5 hK5 => ?_
    refine cx_seq' fun K6 hK6 => ?_
    refine cx_region' ?_
    refine sx_rd' (rd_move' rfl) rfl rfl (wt_none' rfl) ?_
    refine sx_rd' (rd_len' rfl Try.underlying24) rfl rfl (wt_none' rfl) ?_
    refine sx_rd' (rd_move' rfl) rfl rfl (wt_none' rfl) ?_
    refine sx_nil' ?_
    show TX E K6 _
    refine tx_k' hK6 ?_
    refine cx_block' ?_
    obtain ⟨y1, hy1, hp⟩ := bind_some hp
    refine cx_loopg' (F := laws_zzFits3_l1 a0) (G := fun k R v => laws_zzFits3_l1s a0 k R v) (x := 0) (gh := ()) (fun (v1 : Int) (w1 : Unit) => (⟨18, [], [(8, (Sl (Kl (Ki .i64)) a0)), (9, (Vl (.int .i64 (a0.length : Int)))), (10, (Vl (.int .i64 v1)))], []⟩ : St)) (fun (y : Unit ⊕ Unit) => match y with | (.inl v2) => Zg E Exit.ret (fun (w2 : Unit) => (⟨18, [], [(2, (Vl (.bool false)))], []⟩ : St)) | (.inr v3) => Zg E (Exit.exit 0) (fun (w3 : Unit) => (⟨18, [], [], []⟩ : St))) (fun _ => rfl) (fun _ _ => rfl) ?_ hy1 (tx_to' rfl [] (sub_cons rfl (sub_cons rfl (sub_cons rfl sub_nil))) (by decide) pick_nil) ?_
    · clear hp hy1
      clear y1
      intro k rec1 KY1 ih1
      rintro x1 ⟨⟩ y1 hp
      replace hp : laws_zzFits3_l1s a0 k rec1 x1 = some y1 := hp
      unfold laws_zzFits3_l1s at hp
      refine cx_seq' fun K13 hK13 => ?_
      refine cx_region' ?_
      refine sx_rd' (rd_bin' rfl rfl eg_int ru_lss) rfl rfl (wt_none' rfl) ?_
      refine sx_nil' ?_
      show TX E K13 _
      refine tx_k' hK13 ?_
      refine cx_seq' fun K14 hK14 => ?_
      refine cx_cond' rfl (fun h5 => ?_) (fun h5 => ?_)
      · replace hp := (br_t h5).symm.trans hp
        refine cx_skip' ?_
        show TX E K14 _
        refine tx_k' hK14 ?_
        refine cx_seq' fun K15 hK15 => ?_
        refine cx_block' ?_
        refine cx_seq' fun K16 hK16 => ?_
        refine cx_region' ?_
        obtain ⟨r12, hr12, hp⟩ := bind_some hp
        refine sx_rd' (rd_at' (K := (Kl (Ki .i64))) rfl rfl hr12 Try.underlying24 info23) rfl rfl (wt_none' rfl) ?_
        refine sx_rd' (rd_load_pt' rfl rfl flat23) rfl rfl (wt_none' rfl) ?_
        refine sx_rd' (rd_assign' rfl) rfl rfl (wt_none' rfl) ?_
        refine sx_nil' ?_
        show TX E K16 _
        refine tx_k' hK16 ?_
        refine cx_seq' fun K17 hK17 => ?_
        refine cx_region' ?_
        refine sx_rd' (rd_move' rfl) rfl rfl (wt_none' rfl) ?_
        refine sx_rd' (rd_len' rfl Try.underlying23) rfl rfl (wt_none' rfl) ?_
        refine sx_rd' (rd_bin' rfl rfl eg_int ru_gtr) rfl rfl (wt_none' rfl) ?_
        refine sx_nil' ?_
        show TX E K17 _
        refine tx_k' hK17 ?_
        refine cx_cond' rfl (fun h6 => ?_) (fun h6 => ?_)
        · replace hp := (br_t h6).symm.trans hp
          refine cx_seq' fun K18 hK18 => ?_
          refine cx_region' ?_
          refine sx_rd' (rd_assign' rfl) rfl rfl (wt_none' rfl) ?_
          refine sx_nil' ?_
          show TX E K18 _
          refine tx_k' hK18 ?_
          refine cx_retc' ?_
          replace hp := Option.some.inj hp
          subst hp
          show TX E (Zg E Exit.ret _ Exit.ret) _
          exact tx_zend' () rfl [] (sub_cons rfl sub_nil) (by decide) pick_nil
        · replace hp := (br_f h6).symm.trans hp
          refine cx_skip' ?_
          show TX E K15 _
          refine tx_k' hK15 ?_
          refine cx_region' ?_
          refine sx_rd' (rd_bin' rfl rfl eg_int ru_add) rfl rfl (wt_none' rfl) ?_
          refine sx_rd' (rd_move' rfl) rfl rfl (wt_none' rfl) ?_
          refine sx_nil' ?_
          show TX E (KY1 _) _
          exact tx_pick' [] (sub_cons rfl (sub_cons rfl (sub_cons rfl sub_nil))) (by decide) pick_nil (ih1 (iadd .i64 x1 1) () _ hp)
      · replace hp := (br_f h5).symm.trans hp
        refine cx_exit' ?_
        replace hp := Option.some.inj hp
        subst hp
        show TX E (Zg E (Exit.exit 0) _ (Exit.exit 0)) _
        exact tx_zend' () rfl [] sub_nil (by decide) pick_nil
    · rcases y1 with v2 | v3
      · dsimp only at hp
        refine zg_out fun w2 => ?_
        replace hp := Option.some.inj hp
        subst hp
        refine tx_pick' (L' := [(2, (Vl (.bool false)))]) (H' := []) [] (sub_cons rfl sub_nil) (by decide) pick_nil ?_
        exact tx_ret1' Try.results37 rfl () (rv_tmp' rfl) (List.Sublist.refl _)
      · dsimp only at hp
        refine zg_out fun w3 => ?_
        show TX E K5 _
        refine tx_k' hK5 ?_
        refine cx_seq' fun K19 hK19 => ?_
        refine cx_region' ?_
        refine sx_rd' (rd_assign' rfl) rfl rfl (wt_none' rfl) ?_
        refine sx_nil' ?_
        show TX E K19 _
        refine tx_k' hK19 ?_
        refine cx_retc' ?_
        replace hp := Option.some.inj hp
        subst hp
        refine tx_pick' (L' := [(2, (Vl (.bool true)))]) (H' := []) [] (sub_cons rfl sub_nil) (by decide) pick_nil ?_
        exact tx_ret1' Try.results37 rfl () (rv_tmp' rfl) (List.Sublist.refl _)

def laws_fStride_j1 (k : Nat) (x1 : Bool) : Option (Bool) :=
  some x1
def laws_fStride (k : Nat) (a0 : Int) : Option (Bool) :=
  br (decide (2 ≤ a0))
    (laws_fStride_j1 k (decide (a0 ≤ 9)))
    (laws_fStride_j1 k false)

theorem laws_fStride_sim {k : Nat}  (a0 : Int) {out : Bool} (hp : laws_fStride k a0 = some out) : Go.Sx.Fn Try.prog 21 [(Vl (.int .i64 a0))] [] (fun w : Unit => (Vl (.bool out))) (fun w => []) := by
  unfold laws_fStride at hp
  refine fn_of Try.func21 rfl Try.ntmps21 rfl fun E hM => ?_
  refine cx_seq' fun K1 hK1 => ?_
  refine cx_region' ?_
  refine sx_rd' (rd_assign' rfl) rfl rfl (wt_none' rfl) ?_
  refine sx_nil' ?_
  show TX E K1 _
  refine tx_k' hK1 ?_
  refine cx_seq' fun K2 hK2 => ?_
  refine cx_region' ?_
  refine sx_rd' (rd_move' rfl) rfl rfl (wt_none' rfl) ?_
  refine sx_rd' (rd_bin' rfl rfl eg_int ru_geq) rfl rfl (wt_none' rfl) ?_
  refine sx_rd' (rd_move' rfl) rfl rfl (wt_none' rfl) ?_
  refine sx_cutn' 3 (fun (v1 : Bool) => (⟨9, [], [(8, (Vl (.bool v1)))], []⟩ : St)) (fun (v1 : Bool) => laws_fStride_j1 k v1 = some out) ?_ ?_
  · rintro x1 hp
    replace hp : laws_fStride_j1 k x1 = some out := hp
    unfold laws_fStride_j1 at hp
    refine sx_rd' (rd_assign' rfl) rfl rfl (wt_none' rfl) ?_
    refine sx_nil' ?_
    show TX E K2 _
    refine tx_k' hK2 ?_
    refine cx_retc' ?_
    replace hp := Option.some.inj hp
    subst hp
    refine tx_pick' (L' := [(2, (Vl (.bool x1)))]) (H' := []) [] (sub_cons rfl sub_nil) (by decide) pick_nil ?_
    exact tx_ret1' Try.results21 rfl () (rv_tmp' rfl) (List.Sublist.refl _)
  · intro K3 hK3
    rcases br_cases hp with ⟨h1, hp⟩ | ⟨h1, hp⟩
    · refine sx_rd' (rd_move' rfl) rfl rfl (wt_is' (wt_guard' rfl rfl rfl) (beq_tt h1)) ?_
      refine sx_rd' (rd_bin' rfl rfl eg_int ru_leq) rfl rfl (wt_is' (wt_guard' rfl rfl rfl) (beq_tt h1)) ?_
      refine sx_rd' (rd_pick_true' rfl h1 rfl) rfl rfl (wt_none' rfl) ?_
      refine sx_nil' ?_
      show TX E K3 _
      exact tx_pick' [] (sub_cons rfl sub_nil) (by decide) pick_nil (hK3 (decide (a0 ≤ 9)) hp)
    · refine sx_skip' rfl rfl (wt_is' (wt_guard' rfl rfl rfl) (beq_ft h1)) ?_
      refine sx_skip' rfl rfl (wt_is' (wt_guard' rfl rfl rfl) (beq_ft h1)) ?_
      refine sx_rd' (rd_pick_false' rfl h1 rfl) rfl rfl (wt_none' rfl) ?_
      refine sx_nil' ?_
      show TX E K3 _
      exact tx_pick' [] (sub_cons rfl sub_nil) (by decide) pick_nil (hK3 false hp)

def laws_fLayout (k : Nat) (a0 : Int) : Option (Int) :=
  br (decide (a0 = 2))
    (some 1)
    (br (decide (a0 = 3))
      (some 2)
      (some a0))

theorem laws_fLayout_sim {k : Nat}  (a0 : Int) {out : Int} (hp : laws_fLayout k a0 = some out) : Go.Sx.Fn Try.prog 24 [(Vl (.int .i64 a0))] [] (fun w : Unit => (Vl (.int .i64 out))) (fun w => []) := by
  unfold laws_fLayout at hp
  refine fn_of Try.func24 rfl Try.ntmps24 rfl fun E hM => ?_
  refine cx_seq' fun K1 hK1 => ?_
  refine cx_region' ?_
  refine sx_rd' (rd_assign' rfl) rfl rfl (wt_none' rfl) ?_
  refine sx_nil' ?_
  show TX E K1 _
  refine tx_k' hK1 ?_
  refine cx_seq' fun K2 hK2 => ?_
  refine cx_seq' fun K3 hK3 => ?_
  refine cx_region' ?_
  refine sx_rd' (rd_move' rfl) rfl rfl (wt_none' rfl) ?_
  refine sx_rd' (rd_bin' rfl rfl eg_int ru_eql) rfl rfl (wt_none' rfl) ?_
  refine sx_nil' ?_
  show TX E K3 _
  refine tx_k' hK3 ?_
  refine cx_cond' rfl (fun h1 => ?_) (fun h1 => ?_)
  · replace hp := (br_t h1).symm.trans hp
    refine cx_seq' fun K4 hK4 => ?_
    refine cx_region' ?_
    refine sx_rd' (rd_assign' rfl) rfl rfl (wt_none' rfl) ?_
    refine sx_nil' ?_
    show TX E K4 _
    refine tx_k' hK4 ?_
    refine cx_retc' ?_
    replace hp := Option.some.inj hp
    subst hp
    refine tx_pick' (L' := [(2, (Vl (.int .i64 1)))]) (H' := []) [] (sub_cons rfl sub_nil) (by decide) pick_nil ?_
    exact tx_ret1' Try.results24 rfl () (rv_tmp' rfl) (List.Sublist.refl _)
  · replace hp := (br_f h1).symm.trans hp
    refine cx_skip' ?_
    show TX E K2 _
    refine tx_k' hK2 ?_
    refine cx_seq' fun K5 hK5 => ?_
    refine cx_seq' fun K6 hK6 => ?_
    refine cx_region' ?_
    refine sx_rd' (rd_move' rfl) rfl rfl (wt_none' rfl) ?_
    refine sx_rd' (rd_bin' rfl rfl eg_int ru_eql) rfl rfl (wt_none' rfl) ?_
    refine sx_nil' ?_
    show TX E K6 _
    refine tx_k' hK6 ?_
    refine cx_cond' rfl (fun h2 => ?_) (fun h2 => ?_)
    · replace hp := (br_t h2).symm.trans hp
      refine cx_seq' fun K7 hK7 => ?_
      refine cx_region' ?_
      refine sx_rd' (rd_assign' rfl) rfl rfl (wt_none' rfl) ?_
      refine sx_nil' ?_
      show TX E K7 _
      refine tx_k' hK7 ?_
      refine cx_retc' ?_
      replace hp := Option.some.inj hp
      subst hp
      refine tx_pick' (L' := [(2, (Vl (.int .i64 2)))]) (H' := []) [] (sub_cons rfl sub_nil) (by decide) pick_nil ?_
      exact tx_ret1' Try.results24 rfl () (rv_tmp' rfl) (List.Sublist.refl _)
    · replace hp := (br_f h2).symm.trans hp
      refine cx_skip' ?_
      show TX E K5 _
      refine tx_k' hK5 ?_
      refine cx_seq' fun K8 hK8 => ?_
      refine cx_region' ?_
      refine sx_rd' (rd_move' rfl) rfl rfl (wt_none' rfl) ?_
      refine sx_rd' (rd_assign' rfl) rfl rfl (wt_none' rfl) ?_
      refine sx_nil' ?_
      show TX E K8 _
      refine tx_k' hK8 ?_
      refine cx_retc' ?_
      replace hp := Option.some.inj hp
      subst hp
      refine tx_pick' (L' := [(2, (Vl (.int .i64 a0)))]) (H' := []) [] (sub_cons rfl sub_nil) (by decide) pick_nil ?_
      exact tx_ret1' Try.results24 rfl () (rv_tmp' rfl) (List.Sublist.refl _)

def spec_Weight_l1s (a0_5 : List (List Int)) (k : Nat) (rec1 : (Int × Int) → Option (Int)) (x1 : Int) (x2 : Int) : Option (Int) :=
  br (decide (x2 < (a0_5.length : Int)))
    ((idx a0_5 x2) >>= fun r23 =>
    rec1 ((iadd .i64 x1 (iadd .i64 1 (r23.length : Int))), (iadd .i64 x2 1)))
    (some x1)
def spec_Weight_l1 (a0_5 : List (List Int)) : Nat → (Int × Int) → Option (Int)
  | 0, _ => none
  | k + 1, v => spec_Weight_l1s a0_5 k (spec_Weight_l1 a0_5 k) v.1 v.2
def spec_Weight_l2s (a0_6 : List T27) (a1 : Int) (recf : Int → Int → Int → (List Nat) → (List Int) → (List (List Int)) → (List T27) → Int → Option (Int)) (k : Nat) (rec2 : (Int × Int) → Option (Int ⊕ Int)) (x5 : Int) (x6 : Int) : Option (Int ⊕ Int) :=
  br (decide (x6 < (a0_6.length : Int)))
    ((idx a0_6 x6) >>= fun r36 =>
    br (decide (a1 < x5))
      (some (.inl x5))
      ((recf r36.f0 r36.f1 r36.f2 r36.f3 r36.f4 r36.f5 r36.f6 (isub .i64 a1 x5)) >>= fun r47 =>
      rec2 ((iadd .i64 x5 r47), (iadd .i64 x6 1))))
    (some (.inr x5))
def spec_Weight_l2 (a0_6 : List T27) (a1 : Int) (recf : Int → Int → Int → (List Nat) → (List Int) → (List (List Int)) → (List T27) → Int → Option (Int)) : Nat → (Int × Int) → Option (Int ⊕ Int)
  | 0, _ => none
  | k + 1, v => spec_Weight_l2s a0_6 a1 recf k (spec_Weight_l2 a0_6 a1 recf k) v.1 v.2
def spec_Weight_b (recf : Int → Int → Int → (List Nat) → (List Int) → (List (List Int)) → (List T27) → Int → Option (Int)) (k : Nat) (a0_0 : Int) (a0_1 : Int) (a0_2 : Int) (a0_3 : List Nat) (a0_4 : List Int) (a0_5 : List (List Int)) (a0_6 : List T27) (a1 : Int) : Option (Int) :=
  (spec_Weight_l1 a0_5 k ((iadd .i64 (iadd .i64 1 (a0_3.length : Int)) (a0_4.length : Int)), 0)) >>= fun v2 =>
  (spec_Weight_l2 a0_6 a1 recf k (v2, 0)) >>= fun y2 => match y2 with
    | (.inl v5) =>
      (some v5)
    | (.inr v6) =>
      (some v6)
def spec_Weight : Nat → Int → Int → Int → (List Nat) → (List Int) → (List (List Int)) → (List T27) → Int → Option (Int)
  | 0 => fun _ _ _ _ _ _ _ _ => none
  | k + 1 => fun a0_0 a0_1 a0_2 a0_3 a0_4 a0_5 a0_6 a1 => spec_Weight_b (spec_Weight k) k a0_0 a0_1 a0_2 a0_3 a0_4 a0_5 a0_6 a1

theorem spec_Weight_b_sim {recf : Int → Int → Int → (List Nat) → (List Int) → (List (List Int)) → (List T27) → Int → Option (Int)} (hrec : ∀  (a0_0 : Int) (a0_1 : Int) (a0_2 : Int) (a0_3 : List Nat) (a0_4 : List Int) (a0_5 : List (List Int)) (a0_6 : List T27) (a1 : Int) (out : Int), recf a0_0 a0_1 a0_2 a0_3 a0_4 a0_5 a0_6 a1 = some out → Go.Sx.Fn Try.prog 133 [(Ag [(Vl (.int .i64 a0_0)), (Vl (.int .i64 a0_1)), (Vl (.int .i64 a0_2)), (Sl Kf a0_3), (Sl (Ki .i64) a0_4), (Sl (Kl (Ki .i64)) a0_5), (Sl KT27 a0_6)]), (Vl (.int .i64 a1))] [] (fun w : Unit => (Vl (.int .i64 out))) (fun w => [])) {k : Nat}  (a0_0 : Int) (a0_1 : Int) (a0_2 : Int) (a0_3 : List Nat) (a0_4 : List Int) (a0_5 : List (List Int)) (a0_6 : List T27) (a1 : Int) {out : Int} (hp : spec_Weight_b recf k a0_0 a0_1 a0_2 a0_3 a0_4 a0_5 a0_6 a1 = some out) : Go.Sx.Fn Try.prog 133 [(Ag [(Vl (.int .i64 a0_0)), (Vl (.int .i64 a0_1)), (Vl (.int .i64 a0_2)), (Sl Kf a0_3), (Sl (Ki .i64) a0_4), (Sl (Kl (Ki .i64)) a0_5), (Sl KT27 a0_6)]), (Vl (.int .i64 a1))] [] (fun w : Unit => (Vl (.int .i64 out))) (fun w => []) := by
  unfold spec_Weight_b at hp
  refine fn_of Try.func133 rfl Try.ntmps133 rfl fun E hM => ?_
  refine cx_seq' fun K1 hK1 => ?_
  refine cx_region' ?_
  refine sx_ox' (ox_box' rfl (lv_ag _) rfl rfl) (wt_none' rfl) fun q2 => ?_
  refine sx_rd' (rd_assign' rfl) rfl rfl (wt_none' rfl) ?_
  refine sx_nil' ?_
  show TX E K1 _
  refine tx_k' hK1 ?_
  refine cx_seq' fun K2 hK2 => ?_
  refine cx_region' ?_
  refine sx_rd' (rd_field' (off := 3) rfl Try.underlying27 rfl info22 rfl) rfl rfl (wt_none' rfl) ?_
  refine sx_rd' (rd_load' (i := 0) (o := 3) rfl ⟨rfl, rfl, rfl, rfl⟩ rfl flat22) rfl rfl (wt_none' rfl) ?_
  refine sx_rd' (rd_len' rfl Try.underlying22) rfl rfl (wt_none' rfl) ?_
  refine sx_rd' (rd_bin' rfl rfl eg_int ru_add) rfl rfl (wt_none' rfl) ?_
  refine sx_rd' (rd_field' (off := 4) rfl Try.underlying27 rfl info23 rfl) rfl rfl (wt_none' rfl) ?_
  refine sx_rd' (rd_load' (i := 0) (o := 4) rfl ⟨rfl, rfl, rfl, rfl⟩ rfl flat23) rfl rfl (wt_none' rfl) ?_
  refine sx_rd' (rd_len' rfl Try.underlying23) rfl rfl (wt_none' rfl) ?_
  refine sx_rd' (rd_bin' rfl rfl eg_int ru_add) rfl rfl (wt_none' rfl) ?_
  refine sx_rd' (rd_assign' rfl) rfl rfl (wt_none' rfl) ?_
  refine sx_nil' ?_
  show TX E K2 _
  refine tx_k' hK2 ?_
  refine cx_seq' fun K3 hK3 => ?_
  refine cx_seq' fun K4 hK4 => ?_
  refine cx_region' ?_
  refine sx_rd' (rd_field' (off := 5) rfl Try.underlying27 rfl info24 rfl) rfl rfl (wt_none' rfl) ?_
  refine sx_rd' (rd_load' (i := 0) (o := 5) rfl ⟨rfl, rfl, rfl, rfl⟩ rfl flat24) rfl rfl (wt_none' rfl) ?_
  refine sx_rd' (rd_len' rfl Try.underlying24) rfl rfl (wt_none' rfl) ?_
  refine sx_rd' (rd_move' rfl) rfl rfl (wt_none' rfl) ?_
  refine sx_nil' ?_
  show TX E K4 _
  refine tx_k' hK4 ?_
  refine cx_block' ?_
  obtain ⟨v2, hy1, hp⟩ := bind_some hp
  refine cx_loopg' (F := spec_Weight_l1 a0_5) (G := fun k R v => spec_Weight_l1s a0_5 k R v.1 v.2) (x := ((iadd .i64 (iadd .i64 1 (a0_3.length : Int)) (a0_4.length : Int)), 0)) (gh := ()) (fun (v1 : Int × Int) (w1 : Unit) => (⟨51, [], [(1, (Vl (.int .i64 a1))), (2, (Vl (.pointer (some q2)))), (5, (Vl (.int .i64 v1.1))), (19, (Sl (Kl (Ki .i64)) a0_5)), (20, (Vl (.int .i64 (a0_5.length : Int)))), (21, (Vl (.int .i64 v1.2)))], [⟨.pointer (some q2), [(Vl (.int .i64 a0_0)), (Vl (.int .i64 a0_1)), (Vl (.int .i64 a0_2)), (Sl Kf a0_3), (Sl (Ki .i64) a0_4), (Sl (Kl (Ki .i64)) a0_5), (Sl KT27 a0_6)], 27, none⟩]⟩ : St)) (fun (v2 : Int) => Zg E (Exit.exit 0) (fun (w2 : Unit) => (⟨51, [], [(1, (Vl (.int .i64 a1))), (2, (Vl (.pointer (some q2)))), (5, (Vl (.int .i64 v2)))], [⟨.pointer (some q2), [(Vl (.int .i64 a0_0)), (Vl (.int .i64 a0_1)), (Vl (.int .i64 a0_2)), (Sl Kf a0_3), (Sl (Ki .i64) a0_4), (Sl (Kl (Ki .i64)) a0_5), (Sl KT27 a0_6)], 27, none⟩]⟩ : St))) (fun _ => rfl) (fun _ _ => rfl) ?_ hy1 (tx_to' rfl [0] (sub_cons rfl (sub_cons rfl (sub_cons rfl (sub_cons rfl (sub_cons rfl (sub_cons rfl sub_nil)))))) (by decide) (pick_cons rfl pick_nil)) ?_
  · clear hp hy1
    clear v2
    intro k rec1 KY1 ih1
    rintro ⟨x1, x2⟩ ⟨⟩ y1 hp
    replace hp : spec_Weight_l1s a0_5 k rec1 x1 x2 = some y1 := hp
    unfold spec_Weight_l1s at hp
    refine cx_seq' fun K9 hK9 => ?_
    refine cx_region' ?_
    refine sx_rd' (rd_bin' rfl rfl eg_int ru_lss) rfl rfl (wt_none' rfl) ?_
    refine sx_nil' ?_
    show TX E K9 _
    refine tx_k' hK9 ?_
    refine cx_seq' fun K10 hK10 => ?_
    refine cx_cond' rfl (fun h3 => ?_) (fun h3 => ?_)
    · replace hp := (br_t h3).symm.trans hp
      refine cx_skip' ?_
      show TX E K10 _
      refine tx_k' hK10 ?_
      refine cx_seq' fun K11 hK11 => ?_
      refine cx_block' ?_
      refine cx_seq' fun K12 hK12 => ?_
      refine cx_region' ?_
      obtain ⟨r23, hr23, hp⟩ := bind_some hp
      refine sx_rd' (rd_at' (K := (Kl (Ki .i64))) rfl rfl hr23 Try.underlying24 info23) rfl rfl (wt_none' rfl) ?_
      refine sx_rd' (rd_load_pt' rfl rfl flat23) rfl rfl (wt_none' rfl) ?_
      refine sx_rd' (rd_assign' rfl) rfl rfl (wt_none' rfl) ?_
      refine sx_nil' ?_
      show TX E K12 _
      refine tx_k' hK12 ?_
      refine cx_region' ?_
      refine sx_rd' (rd_move' rfl) rfl rfl (wt_none' rfl) ?_
      refine sx_rd' (rd_move' rfl) rfl rfl (wt_none' rfl) ?_
      refine sx_rd' (rd_len' rfl Try.underlying23) rfl rfl (wt_none' rfl) ?_
      refine sx_rd' (rd_bin' rfl rfl eg_int ru_add) rfl rfl (wt_none' rfl) ?_
      refine sx_rd' (rd_bin' rfl rfl eg_int ru_add) rfl rfl (wt_none' rfl) ?_
      refine sx_rd' (rd_assign' rfl) rfl rfl (wt_none' rfl) ?_
      refine sx_nil' ?_
      show TX E K11 _
      refine tx_k' hK11 ?_
      refine cx_region' ?_
      refine sx_rd' (rd_bin' rfl rfl eg_int ru_add) rfl rfl (wt_none' rfl) ?_
      refine sx_rd' (rd_move' rfl) rfl rfl (wt_none' rfl) ?_
      refine sx_nil' ?_
      show TX E (KY1 _) _
      exact tx_pick' [0] (sub_cons rfl (sub_cons rfl (sub_cons rfl (sub_cons rfl (sub_cons rfl (sub_cons rfl sub_nil)))))) (by decide) (pick_cons rfl pick_nil) (ih1 ((iadd .i64 x1 (iadd .i64 1 (r23.length : Int))), (iadd .i64 x2 1)) () _ hp)
    · replace hp := (br_f h3).symm.trans hp
      refine cx_exit' ?_
      replace hp := Option.some.inj hp
      subst hp
      show TX E (Zg E (Exit.exit 0) _ (Exit.exit 0)) _
      exact tx_zend' () rfl [0] (sub_cons rfl (sub_cons rfl (sub_cons rfl sub_nil))) (by decide) (pick_cons rfl pick_nil)
  · refine zg_out fun w2 => ?_
    show TX E K3 _
    refine tx_k' hK3 ?_
    refine cx_seq' fun K13 hK13 => ?_
    refine cx_seq' fun K14 hK14 => ?_
    refine cx_region' ?_
    refine sx_rd' (rd_field' (off := 6) rfl Try.underlying27 rfl info25 rfl) rfl rfl (wt_none' rfl) ?_
    refine sx_rd' (rd_load' (i := 0) (o := 6) rfl ⟨rfl, rfl, rfl, rfl⟩ rfl flat25) rfl rfl (wt_none' rfl) ?_
    refine sx_rd' (rd_len' rfl Try.underlying25) rfl rfl (wt_none' rfl) ?_
    refine sx_rd' (rd_move' rfl) rfl rfl (wt_none' rfl) ?_
    refine sx_nil' ?_
    show TX E K14 _
    refine tx_k' hK14 ?_
    refine cx_block' ?_
    obtain ⟨y2, hy2, hp⟩ := bind_some hp
    refine cx_loopg' (F := spec_Weight_l2 a0_6 a1 recf) (G := fun k R v => spec_Weight_l2s a0_6 a1 recf k R v.1 v.2) (x := (v2, 0)) (gh := ()) (fun (v4 : Int × Int) (w4 : Unit) => (⟨51, [], [(1, (Vl (.int .i64 a1))), (5, (Vl (.int .i64 v4.1))), (32, (Sl KT27 a0_6)), (33, (Vl (.int .i64 (a0_6.length : Int)))), (34, (Vl (.int .i64 v4.2)))], []⟩ : St)) (fun (y : Int ⊕ Int) => match y with | (.inl v5) => Zg E Exit.ret (fun (w5 : Unit) => (⟨51, [], [(4, (Vl (.int .i64 v5)))], []⟩ : St)) | (.inr v6) => Zg E (Exit.exit 2) (fun (w6 : Unit) => (⟨51, [], [(5, (Vl (.int .i64 v6)))], []⟩ : St))) (fun _ => rfl) (fun _ _ => rfl) ?_ hy2 (tx_to' rfl [] (sub_cons rfl (sub_cons rfl (sub_cons rfl (sub_cons rfl (sub_cons rfl sub_nil))))) (by decide) pick_nil) ?_
    · clear hp hy2
      clear y2
      intro k rec2 KY2 ih2
      rintro ⟨x5, x6⟩ ⟨⟩ y2 hp
      replace hp : spec_Weight_l2s a0_6 a1 recf k rec2 x5 x6 = some y2 := hp
      unfold spec_Weight_l2s at hp
      refine cx_seq' fun K23 hK23 => ?_
      refine cx_region' ?_
      refine sx_rd' (rd_bin' rfl rfl eg_int ru_lss) rfl rfl (wt_none' rfl) ?_
      refine sx_nil' ?_
      show TX E K23 _
      refine tx_k' hK23 ?_
      refine cx_seq' fun K24 hK24 => ?_
      refine cx_cond' rfl (fun h7 => ?_) (fun h7 => ?_)
      · replace hp := (br_t h7).symm.trans hp
        refine cx_skip' ?_
        show TX E K24 _
        refine tx_k' hK24 ?_
        refine cx_seq' fun K25 hK25 => ?_
        refine cx_block' ?_
        refine cx_seq' fun K26 hK26 => ?_
        refine cx_region' ?_
        obtain ⟨r36, hr36, hp⟩ := bind_some hp
        refine sx_rd' (rd_eq' (congrArg Pt (KT27_enc r36)) (rd_at' (K := KT27) rfl rfl hr36 Try.underlying25 info27)) rfl rfl (wt_none' rfl) ?_
        refine sx_rd' (rd_load_pt_agg' (nn := 7) rfl rfl agg27 (l' := [(Vl (.int .i64 r36.f0)), (Vl (.int .i64 r36.f1)), (Vl (.int .i64 r36.f2)), (Sl Kf r36.f3), (Sl (Ki .i64) r36.f4), (Sl (Kl (Ki .i64)) r36.f5), (Sl KT27 r36.f6)]) rfl) rfl rfl (wt_none' rfl) ?_
        refine sx_ox' (ox_alloc' info27 rfl rfl rfl rfl (l := [(Vl (.int .i64 0)), (Vl (.int .i64 0)), (Vl (.int .i64 0)), (Vl (.slice none 0 0)), (Vl (.slice none 0 0)), (Vl (.slice none 0 0)), (Vl (.slice none 0 0))]) rfl) (wt_none' rfl) fun q9 => ?_
        refine sx_ox' (ox_store' (i := 0) (o := 0) rfl rfl (lv_ag _) ⟨rfl, rfl, rfl, rfl⟩ rfl info27 rfl (H' := [⟨.pointer (some q9), [(Vl (.int .i64 r36.f0)), (Vl (.int .i64 r36.f1)), (Vl (.int .i64 r36.f2)), (Sl Kf r36.f3), (Sl (Ki .i64) r36.f4), (Sl (Kl (Ki .i64)) r36.f5), (Sl KT27 r36.f6)], 27, none⟩]) rfl) (wt_none' rfl) fun _ => ?_
        refine sx_nil' ?_
        show TX E K26 _
        refine tx_k' hK26 ?_
        refine cx_seq' fun K27 hK27 => ?_
        refine cx_seq' fun K28 hK28 => ?_
        refine cx_region' ?_
        refine sx_rd' (rd_move' rfl) rfl rfl (wt_none' rfl) ?_
        refine sx_rd' (rd_move' rfl) rfl rfl (wt_none' rfl) ?_
        refine sx_rd' (rd_bin' rfl rfl eg_int ru_gtr) rfl rfl (wt_none' rfl) ?_
        refine sx_nil' ?_
        show TX E K28 _
        refine tx_k' hK28 ?_
        refine cx_cond' rfl (fun h8 => ?_) (fun h8 => ?_)
        · replace hp := (br_t h8).symm.trans hp
          refine cx_seq' fun K29 hK29 => ?_
          refine cx_region' ?_
          refine sx_rd' (rd_move' rfl) rfl rfl (wt_none' rfl) ?_
          refine sx_rd' (rd_assign' rfl) rfl rfl (wt_none' rfl) ?_
          refine sx_nil' ?_
          show TX E K29 _
          refine tx_k' hK29 ?_
          refine cx_retc' ?_
          replace hp := Option.some.inj hp
          subst hp
          show TX E (Zg E Exit.ret _ Exit.ret) _
          exact tx_zend' () rfl [] (sub_cons rfl sub_nil) (by decide) pick_nil
        · replace hp := (br_f h8).symm.trans hp
          refine cx_skip' ?_
          show TX E K27 _
          refine tx_k' hK27 ?_
          refine cx_region' ?_
          refine sx_rd' (rd_move' rfl) rfl rfl (wt_none' rfl) ?_
          refine sx_rd' (rd_load_agg' (i := 0) (o := 0) (nn := 7) rfl ⟨rfl, rfl, rfl, rfl⟩ rfl agg27 (l' := [(Vl (.int .i64 r36.f0)), (Vl (.int .i64 r36.f1)), (Vl (.int .i64 r36.f2)), (Sl Kf r36.f3), (Sl (Ki .i64) r36.f4), (Sl (Kl (Ki .i64)) r36.f5), (Sl KT27 r36.f6)]) rfl) rfl rfl (wt_none' rfl) ?_
          refine sx_rd' (rd_move' rfl) rfl rfl (wt_none' rfl) ?_
          refine sx_rd' (rd_move' rfl) rfl rfl (wt_none' rfl) ?_
          refine sx_rd' (rd_bin' rfl rfl eg_int ru_sub) rfl rfl (wt_none' rfl) ?_
          obtain ⟨r47, hr47, hp⟩ := bind_some hp
          refine sx_ox' (ox_calln' (ent_fn' Try.func133 isn133 rfl rfl) (hrec _ _ _ _ _ _ _ _ _ hr47 : Go.Sx.Fn Try.prog 133 [(Ag [(Vl (.int .i64 r36.f0)), (Vl (.int .i64 r36.f1)), (Vl (.int .i64 r36.f2)), (Sl Kf r36.f3), (Sl (Ki .i64) r36.f4), (Sl (Kl (Ki .i64)) r36.f5), (Sl KT27 r36.f6)]), (Vl (.int .i64 (isub .i64 a1 x5)))] [] (fun x : Unit => (Vl (.int .i64 r47))) (fun x => [])) (Hn := fun x : Unit => [⟨.pointer (some q9), [(Vl (.int .i64 r36.f0)), (Vl (.int .i64 r36.f1)), (Vl (.int .i64 r36.f2)), (Sl Kf r36.f3), (Sl (Ki .i64) r36.f4), (Sl (Kl (Ki .i64)) r36.f5), (Sl KT27 r36.f6)], 27, none⟩]) (fun _ => rfl) rfl rfl) (wt_none' rfl) fun ⟨⟩ => ?_
          refine sx_rd' (rd_bin' rfl rfl eg_int ru_add) rfl rfl (wt_none' rfl) ?_
          refine sx_rd' (rd_assign' rfl) rfl rfl (wt_none' rfl) ?_
          refine sx_nil' ?_
          show TX E K25 _
          refine tx_k' hK25 ?_
          refine cx_region' ?_
          refine sx_rd' (rd_bin' rfl rfl eg_int ru_add) rfl rfl (wt_none' rfl) ?_
          refine sx_rd' (rd_move' rfl) rfl rfl (wt_none' rfl) ?_
          refine sx_nil' ?_
          show TX E (KY2 _) _
          exact tx_pick' [] (sub_cons rfl (sub_cons rfl (sub_cons rfl (sub_cons rfl (sub_cons rfl sub_nil))))) (by decide) pick_nil (ih2 ((iadd .i64 x5 r47), (iadd .i64 x6 1)) () _ hp)
      · replace hp := (br_f h7).symm.trans hp
        refine cx_exit' ?_
        replace hp := Option.some.inj hp
        subst hp
        show TX E (Zg E (Exit.exit 2) _ (Exit.exit 2)) _
        exact tx_zend' () rfl [] (sub_cons rfl sub_nil) (by decide) pick_nil
    · rcases y2 with v5 | v6
      · dsimp only at hp
        refine zg_out fun w5 => ?_
        replace hp := Option.some.inj hp
        subst hp
        refine tx_pick' (L' := [(4, (Vl (.int .i64 v5)))]) (H' := []) [] (sub_cons rfl sub_nil) (by decide) pick_nil ?_
        exact tx_ret1' Try.results133 rfl () (rv_tmp' rfl) (List.Sublist.refl _)
      · dsimp only at hp
        refine zg_out fun w6 => ?_
        show TX E K13 _
        refine tx_k' hK13 ?_
        refine cx_seq' fun K22 hK22 => ?_
        refine cx_region' ?_
        refine sx_rd' (rd_move' rfl) rfl rfl (wt_none' rfl) ?_
        refine sx_rd' (rd_assign' rfl) rfl rfl (wt_none' rfl) ?_
        refine sx_nil' ?_
        show TX E K22 _
        refine tx_k' hK22 ?_
        refine cx_retc' ?_
        replace hp := Option.some.inj hp
        subst hp
        refine tx_pick' (L' := [(4, (Vl (.int .i64 v6)))]) (H' := []) [] (sub_cons rfl sub_nil) (by decide) pick_nil ?_
        exact tx_ret1' Try.results133 rfl () (rv_tmp' rfl) (List.Sublist.refl _)
theorem spec_Weight_simA : ∀ (k : Nat)  (a0_0 : Int) (a0_1 : Int) (a0_2 : Int) (a0_3 : List Nat) (a0_4 : List Int) (a0_5 : List (List Int)) (a0_6 : List T27) (a1 : Int) (out : Int), spec_Weight k a0_0 a0_1 a0_2 a0_3 a0_4 a0_5 a0_6 a1 = some out → Go.Sx.Fn Try.prog 133 [(Ag [(Vl (.int .i64 a0_0)), (Vl (.int .i64 a0_1)), (Vl (.int .i64 a0_2)), (Sl Kf a0_3), (Sl (Ki .i64) a0_4), (Sl (Kl (Ki .i64)) a0_5), (Sl KT27 a0_6)]), (Vl (.int .i64 a1))] [] (fun w : Unit => (Vl (.int .i64 out))) (fun w => []) := by
  intro k
  induction k with
  | zero => intro a0_0 a0_1 a0_2 a0_3 a0_4 a0_5 a0_6 a1 out hp; cases hp
  | succ k ih => intro a0_0 a0_1 a0_2 a0_3 a0_4 a0_5 a0_6 a1 out hp; exact spec_Weight_b_sim ih a0_0 a0_1 a0_2 a0_3 a0_4 a0_5 a0_6 a1 hp
theorem spec_Weight_sim {k : Nat}  (a0_0 : Int) (a0_1 : Int) (a0_2 : Int) (a0_3 : List Nat) (a0_4 : List Int) (a0_5 : List (List Int)) (a0_6 : List T27) (a1 : Int) {out : Int} (hp : spec_Weight k a0_0 a0_1 a0_2 a0_3 a0_4 a0_5 a0_6 a1 = some out) : Go.Sx.Fn Try.prog 133 [(Ag [(Vl (.int .i64 a0_0)), (Vl (.int .i64 a0_1)), (Vl (.int .i64 a0_2)), (Sl Kf a0_3), (Sl (Ki .i64) a0_4), (Sl (Kl (Ki .i64)) a0_5), (Sl KT27 a0_6)]), (Vl (.int .i64 a1))] [] (fun w : Unit => (Vl (.int .i64 out))) (fun w => []) := spec_Weight_simA k a0_0 a0_1 a0_2 a0_3 a0_4 a0_5 a0_6 a1 out hp

def laws_gLayouts_l1s (a0_6 : List T27) (recf : Int → Int → Int → (List Nat) → (List Int) → (List (List Int)) → (List T27) → Int → Option (Bool)) (a1 : Int) (k : Nat) (rec1 : Int → Option (Unit ⊕ Unit)) (x5 : Int) : Option (Unit ⊕ Unit) :=
  br (decide (x5 < (a0_6.length : Int)))
    ((idx a0_6 x5) >>= fun r12 =>
    (recf r12.f0 r12.f1 r12.f2 r12.f3 r12.f4 r12.f5 r12.f6 a1) >>= fun r16 =>
    br (!r16)
      (some (.inl ()))
      (rec1 (iadd .i64 x5 1)))
    (some (.inr ()))
def laws_gLayouts_l1 (a0_6 : List T27) (recf : Int → Int → Int → (List Nat) → (List Int) → (List (List Int)) → (List T27) → Int → Option (Bool)) (a1 : Int) : Nat → Int → Option (Unit ⊕ Unit)
  | 0, _ => none
  | k + 1, v => laws_gLayouts_l1s a0_6 recf a1 k (laws_gLayouts_l1 a0_6 recf a1 k) v
def laws_gLayouts_j3 (k : Nat) (x3 : Bool) : Option (Bool) :=
  some x3
def laws_gLayouts_j2 (k : Nat) (x2 : Bool) : Option (Bool) :=
  laws_gLayouts_j3 k x2
def laws_gLayouts_j1 (k : Nat) (x1 : Bool) : Option (Bool) :=
  laws_gLayouts_j2 k x1
def laws_gLayouts_b (recf : Int → Int → Int → (List Nat) → (List Int) → (List (List Int)) → (List T27) → Int → Option (Bool)) (k : Nat) (a0_0 : Int) (a0_1 : Int) (a0_2 : Int) (a0_3 : List Nat) (a0_4 : List Int) (a0_5 : List (List Int)) (a0_6 : List T27) (a1 : Int) : Option (Bool) :=
  (laws_gLayouts_l1 a0_6 recf a1 k 0) >>= fun y1 => match y1 with
    | (.inl v6) =>
      (some false)
    | (.inr v7) =>
      (br (decide (a0_1 ≤ a1))
        (br (decide (1 ≤ a0_1))
          (laws_gLayouts_j2 k true)
          (br (decide (a0_0 = 7))
            (laws_gLayouts_j1 k (decide (0 ≤ a0_1)))
            (laws_gLayouts_j1 k false)))
        (laws_gLayouts_j3 k false))
def laws_gLayouts : Nat → Int → Int → Int → (List Nat) → (List Int) → (List (List Int)) → (List T27) → Int → Option (Bool)
  | 0 => fun _ _ _ _ _ _ _ _ => none
  | k + 1 => fun a0_0 a0_1 a0_2 a0_3 a0_4 a0_5 a0_6 a1 => laws_gLayouts_b (laws_gLayouts k) k a0_0 a0_1 a0_2 a0_3 a0_4 a0_5 a0_6 a1

theorem laws_gLayouts_b_sim {recf : Int → Int → Int → (List Nat) → (List Int) → (List (List Int)) → (List T27) → Int → Option (Bool)} (hrec : ∀  (a0_0 : Int) (a0_1 : Int) (a0_2 : Int) (a0_3 : List Nat) (a0_4 : List Int) (a0_5 : List (List Int)) (a0_6 : List T27) (a1 : Int) (out : Bool), recf a0_0 a0_1 a0_2 a0_3 a0_4 a0_5 a0_6 a1 = some out → Go.Sx.Fn Try.prog 134 [(Ag [(Vl (.int .i64 a0_0)), (Vl (.int .i64 a0_1)), (Vl (.int .i64 a0_2)), (Sl Kf a0_3), (Sl (Ki .i64) a0_4), (Sl (Kl (Ki .i64)) a0_5), (Sl KT27 a0_6)]), (Vl (.int .i64 a1))] [] (fun w : Unit => (Vl (.bool out))) (fun w => [])) {k : Nat}  (a0_0 : Int) (a0_1 : Int) (a0_2 : Int) (a0_3 : List Nat) (a0_4 : List Int) (a0_5 : List (List Int)) (a0_6 : List T27) (a1 : Int) {out : Bool} (hp : laws_gLayouts_b recf k a0_0 a0_1 a0_2 a0_3 a0_4 a0_5 a0_6 a1 = some out) : Go.Sx.Fn Try.prog 134 [(Ag [(Vl (.int .i64 a0_0)), (Vl (.int .i64 a0_1)), (Vl (.int .i64 a0_2)), (Sl Kf a0_3), (Sl (Ki .i64) a0_4), (Sl (Kl (Ki .i64)) a0_5), (Sl KT27 a0_6)]), (Vl (.int .i64 a1))] [] (fun w : Unit => (Vl (.bool out))) (fun w => []) := by
  unfold laws_gLayouts_b at hp
  refine fn_of Try.func134 rfl Try.ntmps134 rfl fun E hM => ?_
  refine cx_seq' fun K1 hK1 => ?_
  refine cx_region' ?_
  refine sx_ox' (ox_box' rfl (lv_ag _) rfl rfl) (wt_none' rfl) fun q2 => ?_
  refine sx_rd' (rd_assign' rfl) rfl rfl (wt_none' rfl) ?_
  refine sx_nil' ?_
  show TX E K1 _
  refine tx_k' hK1 ?_
  refine cx_seq' fun K2 hK2 => ?_
  refine cx_seq' fun K3 hK3 => ?_
  refine cx_region' ?_
  refine sx_rd' (rd_field' (off := 6) rfl Try.underlying27 rfl info25 rfl) rfl rfl (wt_none' rfl) ?_
  refine sx_rd' (rd_load' (i := 0) (o := 6) rfl ⟨rfl, rfl, rfl, rfl⟩ rfl flat25) rfl rfl (wt_none' rfl) ?_
  refine sx_rd' (rd_len' rfl Try.underlying25) rfl rfl (wt_none' rfl) ?_
  refine sx_rd' (rd_move' rfl) rfl rfl (wt_none' rfl) ?_
  refine sx_nil' ?_
  show TX E K3 _
  refine tx_k' hK3 ?_
  refine cx_block' ?_
  obtain ⟨y1, hy1, hp⟩ := bind_some hp
  refine cx_loopg' (F := laws_gLayouts_l1 a0_6 recf a1) (G := fun k R v => laws_gLayouts_l1s a0_6 recf a1 k R v) (x := 0) (gh := ()) (fun (v5 : Int) (w5 : Unit) => (⟨38, [], [(1, (Vl (.int .i64 a1))), (2, (Vl (.pointer (some q2)))), (8, (Sl KT27 a0_6)), (9, (Vl (.int .i64 (a0_6.length : Int)))), (10, (Vl (.int .i64 v5)))], [⟨.pointer (some q2), [(Vl (.int .i64 a0_0)), (Vl (.int .i64 a0_1)), (Vl (.int .i64 a0_2)), (Sl Kf a0_3), (Sl (Ki .i64) a0_4), (Sl (Kl (Ki .i64)) a0_5), (Sl KT27 a0_6)], 27, none⟩]⟩ : St)) (fun (y : Unit ⊕ Unit) => match y with | (.inl v6) => Zg E Exit.ret (fun (w6 : Unit) => (⟨38, [], [(4, (Vl (.bool false)))], []⟩ : St)) | (.inr v7) => Zg E (Exit.exit 0) (fun (w7 : Unit) => (⟨38, [], [(1, (Vl (.int .i64 a1))), (2, (Vl (.pointer (some q2))))], [⟨.pointer (some q2), [(Vl (.int .i64 a0_0)), (Vl (.int .i64 a0_1)), (Vl (.int .i64 a0_2)), (Sl Kf a0_3), (Sl (Ki .i64) a0_4), (Sl (Kl (Ki .i64)) a0_5), (Sl KT27 a0_6)], 27, none⟩]⟩ : St))) (fun _ => rfl) (fun _ _ => rfl) ?_ hy1 (tx_to' rfl [0] (sub_cons rfl (sub_cons rfl (sub_cons rfl (sub_cons rfl (sub_cons rfl sub_nil))))) (by decide) (pick_cons rfl pick_nil)) ?_
  · clear hp hy1
    clear y1
    intro k rec1 KY1 ih1
    rintro x5 ⟨⟩ y1 hp
    replace hp : laws_gLayouts_l1s a0_6 recf a1 k rec1 x5 = some y1 := hp
    unfold laws_gLayouts_l1s at hp
    refine cx_seq' fun K14 hK14 => ?_
    refine cx_region' ?_
    refine sx_rd' (rd_bin' rfl rfl eg_int ru_lss) rfl rfl (wt_none' rfl) ?_
    refine sx_nil' ?_
    show TX E K14 _
    refine tx_k' hK14 ?_
    refine cx_seq' fun K15 hK15 => ?_
    refine cx_cond' rfl (fun h7 => ?_) (fun h7 => ?_)
    · replace hp := (br_t h7).symm.trans hp
      refine cx_skip' ?_
      show TX E K15 _
      refine tx_k' hK15 ?_
      refine cx_seq' fun K16 hK16 => ?_
      refine cx_block' ?_
      refine cx_seq' fun K17 hK17 => ?_
      refine cx_region' ?_
      obtain ⟨r12, hr12, hp⟩ := bind_some hp
      refine sx_rd' (rd_eq' (congrArg Pt (KT27_enc r12)) (rd_at' (K := KT27) rfl rfl hr12 Try.underlying25 info27)) rfl rfl (wt_none' rfl) ?_
      refine sx_rd' (rd_load_pt_agg' (nn := 7) rfl rfl agg27 (l' := [(Vl (.int .i64 r12.f0)), (Vl (.int .i64 r12.f1)), (Vl (.int .i64 r12.f2)), (Sl Kf r12.f3), (Sl (Ki .i64) r12.f4), (Sl (Kl (Ki .i64)) r12.f5), (Sl KT27 r12.f6)]) rfl) rfl rfl (wt_none' rfl) ?_
      refine sx_ox' (ox_alloc' info27 rfl rfl rfl rfl (l := [(Vl (.int .i64 0)), (Vl (.int .i64 0)), (Vl (.int .i64 0)), (Vl (.slice none 0 0)), (Vl (.slice none 0 0)), (Vl (.slice none 0 0)), (Vl (.slice none 0 0))]) rfl) (wt_none' rfl) fun q6 => ?_
      refine sx_ox' (ox_store' (i := 0) (o := 0) rfl rfl (lv_ag _) ⟨rfl, rfl, rfl, rfl⟩ rfl info27 rfl (H' := [⟨.pointer (some q6), [(Vl (.int .i64 r12.f0)), (Vl (.int .i64 r12.f1)), (Vl (.int .i64 r12.f2)), (Sl Kf r12.f3), (Sl (Ki .i64) r12.f4), (Sl (Kl (Ki .i64)) r12.f5), (Sl KT27 r12.f6)], 27, none⟩, ⟨.pointer (some q2), [(Vl (.int .i64 a0_0)), (Vl (.int .i64 a0_1)), (Vl (.int .i64 a0_2)), (Sl Kf a0_3), (Sl (Ki .i64) a0_4), (Sl (Kl (Ki .i64)) a0_5), (Sl KT27 a0_6)], 27, none⟩]) rfl) (wt_none' rfl) fun _ => ?_
      refine sx_nil' ?_
      show TX E K17 _
      refine tx_k' hK17 ?_
      refine cx_seq' fun K18 hK18 => ?_
      refine cx_region' ?_
      refine sx_rd' (rd_load_agg' (i := 0) (o := 0) (nn := 7) rfl ⟨rfl, rfl, rfl, rfl⟩ rfl agg27 (l' := [(Vl (.int .i64 r12.f0)), (Vl (.int .i64 r12.f1)), (Vl (.int .i64 r12.f2)), (Sl Kf r12.f3), (Sl (Ki .i64) r12.f4), (Sl (Kl (Ki .i64)) r12.f5), (Sl KT27 r12.f6)]) rfl) rfl rfl (wt_none' rfl) ?_
      refine sx_rd' (rd_move' rfl) rfl rfl (wt_none' rfl) ?_
      obtain ⟨r16, hr16, hp⟩ := bind_some hp
      refine sx_ox' (ox_calln' (ent_fn' Try.func134 isn134 rfl rfl) (hrec _ _ _ _ _ _ _ _ _ hr16 : Go.Sx.Fn Try.prog 134 [(Ag [(Vl (.int .i64 r12.f0)), (Vl (.int .i64 r12.f1)), (Vl (.int .i64 r12.f2)), (Sl Kf r12.f3), (Sl (Ki .i64) r12.f4), (Sl (Kl (Ki .i64)) r12.f5), (Sl KT27 r12.f6)]), (Vl (.int .i64 a1))] [] (fun x : Unit => (Vl (.bool r16))) (fun x => [])) (Hn := fun x : Unit => [⟨.pointer (some q6), [(Vl (.int .i64 r12.f0)), (Vl (.int .i64 r12.f1)), (Vl (.int .i64 r12.f2)), (Sl Kf r12.f3), (Sl (Ki .i64) r12.f4), (Sl (Kl (Ki .i64)) r12.f5), (Sl KT27 r12.f6)], 27, none⟩, ⟨.pointer (some q2), [(Vl (.int .i64 a0_0)), (Vl (.int .i64 a0_1)), (Vl (.int .i64 a0_2)), (Sl Kf a0_3), (Sl (Ki .i64) a0_4), (Sl (Kl (Ki .i64)) a0_5), (Sl KT27 a0_6)], 27, none⟩]) (fun _ => rfl) rfl rfl) (wt_none' rfl) fun ⟨⟩ => ?_
      refine sx_rd' (rd_un' rfl ru_not) rfl rfl (wt_none' rfl) ?_
      refine sx_nil' ?_
      show TX E K18 _
      refine tx_k' hK18 ?_
      refine cx_cond' rfl (fun h8 => ?_) (fun h8 => ?_)
      · replace hp := (br_t h8).symm.trans hp
        refine cx_seq' fun K19 hK19 => ?_
        refine cx_region' ?_
        refine sx_rd' (rd_assign' rfl) rfl rfl (wt_none' rfl) ?_
        refine sx_nil' ?_
        show TX E K19 _
        refine tx_k' hK19 ?_
        refine cx_retc' ?_
        replace hp := Option.some.inj hp
        subst hp
        show TX E (Zg E Exit.ret _ Exit.ret) _
        exact tx_zend' () rfl [] (sub_cons rfl sub_nil) (by decide) pick_nil
      · replace hp := (br_f h8).symm.trans hp
        refine cx_skip' ?_
        show TX E K16 _
        refine tx_k' hK16 ?_
        refine cx_region' ?_
        refine sx_rd' (rd_bin' rfl rfl eg_int ru_add) rfl rfl (wt_none' rfl) ?_
        refine sx_rd' (rd_move' rfl) rfl rfl (wt_none' rfl) ?_
        refine sx_nil' ?_
        show TX E (KY1 _) _
        exact tx_pick' [1] (sub_cons rfl (sub_cons rfl (sub_cons rfl (sub_cons rfl (sub_cons rfl sub_nil))))) (by decide) (pick_cons rfl pick_nil) (ih1 (iadd .i64 x5 1) () _ hp)
    · replace hp := (br_f h7).symm.trans hp
      refine cx_exit' ?_
      replace hp := Option.some.inj hp
      subst hp
      show TX E (Zg E (Exit.exit 0) _ (Exit.exit 0)) _
      exact tx_zend' () rfl [0] (sub_cons rfl (sub_cons rfl sub_nil)) (by decide) (pick_cons rfl pick_nil)
  · rcases y1 with v6 | v7
    · dsimp only at hp
      refine zg_out fun w6 => ?_
      replace hp := Option.some.inj hp
      subst hp
      refine tx_pick' (L' := [(4, (Vl (.bool false)))]) (H' := []) [] (sub_cons rfl sub_nil) (by decide) pick_nil ?_
      exact tx_ret1' Try.results134 rfl () (rv_tmp' rfl) (List.Sublist.refl _)
    · dsimp only at hp
      refine zg_out fun w7 => ?_
      show TX E K2 _
      refine tx_k' hK2 ?_
      refine cx_seq' fun K9 hK9 => ?_
      refine cx_region' ?_
      refine sx_rd' (rd_field' (off := 1) rfl Try.underlying27 rfl info3 rfl) rfl rfl (wt_none' rfl) ?_
      refine sx_rd' (rd_load' (i := 0) (o := 1) rfl ⟨rfl, rfl, rfl, rfl⟩ rfl flat3) rfl rfl (wt_none' rfl) ?_
      refine sx_rd' (rd_move' rfl) rfl rfl (wt_none' rfl) ?_
      refine sx_rd' (rd_bin' rfl rfl eg_int ru_leq) rfl rfl (wt_none' rfl) ?_
      refine sx_rd' (rd_move' rfl) rfl rfl (wt_none' rfl) ?_
      refine sx_cutn' 14 (fun (v3 : Bool) => (⟨38, [], [(37, (Vl (.bool v3)))], []⟩ : St)) (fun (v3 : Bool) => laws_gLayouts_j3 k v3 = some out) ?_ ?_
      · rintro x3 hp
        replace hp : laws_gLayouts_j3 k x3 = some out := hp
        unfold laws_gLayouts_j3 at hp
        refine sx_rd' (rd_assign' rfl) rfl rfl (wt_none' rfl) ?_
        refine sx_nil' ?_
        show TX E K9 _
        refine tx_k' hK9 ?_
        refine cx_retc' ?_
        replace hp := Option.some.inj hp
        subst hp
        refine tx_pick' (L' := [(4, (Vl (.bool x3)))]) (H' := []) [] (sub_cons rfl sub_nil) (by decide) pick_nil ?_
        exact tx_ret1' Try.results134 rfl () (rv_tmp' rfl) (List.Sublist.refl _)
      · intro K12 hK12
        rcases br_cases hp with ⟨h2, hp⟩ | ⟨h2, hp⟩
        · refine sx_rd' (rd_field' (off := 1) rfl Try.underlying27 rfl info3 rfl) rfl rfl (wt_is' (wt_guard' rfl rfl rfl) (beq_tt h2)) ?_
          refine sx_rd' (rd_load' (i := 0) (o := 1) rfl ⟨rfl, rfl, rfl, rfl⟩ rfl flat3) rfl rfl (wt_is' (wt_guard' rfl rfl rfl) (beq_tt h2)) ?_
          refine sx_rd' (rd_bin' rfl rfl eg_int ru_geq) rfl rfl (wt_is' (wt_guard' rfl rfl rfl) (beq_tt h2)) ?_
          refine sx_rd' (rd_move' rfl) rfl rfl (wt_is' (wt_guard' rfl rfl rfl) (beq_tt h2)) ?_
          refine sx_cutn' 10 (fun (v2 : Bool) => (⟨38, [], [(37, (Vl (.bool v2)))], []⟩ : St)) (fun (v2 : Bool) => laws_gLayouts_j2 k v2 = some out) ?_ ?_
          · rintro x2 hp
            replace hp : laws_gLayouts_j2 k x2 = some out := hp
            unfold laws_gLayouts_j2 at hp
            refine sx_nil' ?_
            show TX E K12 _
            exact tx_pick' [] (sub_cons rfl sub_nil) (by decide) pick_nil (hK12 x2 hp)
          · intro K11 hK11
            rcases br_cases hp with ⟨h3, hp⟩ | ⟨h3, hp⟩
            · refine sx_skip' rfl rfl (wt_is' (wt_guard' rfl rfl rfl) (beq_tf h3)) ?_
              refine sx_skip' rfl rfl (wt_is' (wt_guard' rfl rfl rfl) (beq_tf h3)) ?_
              refine sx_skip' rfl rfl (wt_is' (wt_guard' rfl rfl rfl) (beq_tf h3)) ?_
              refine sx_skip' rfl rfl (wt_is' (wt_guard' rfl rfl rfl) (beq_tf h3)) ?_
              refine sx_skip' rfl rfl (wt_undef' rfl rfl rfl) ?_
              refine sx_skip' rfl rfl (wt_undef' rfl rfl rfl) ?_
              refine sx_skip' rfl rfl (wt_undef' rfl rfl rfl) ?_
              refine sx_skip' rfl rfl (wt_is' (wt_guard' rfl rfl rfl) (beq_tf h3)) ?_
              refine sx_rd' (rd_pick_true' rfl h3 rfl) rfl rfl (wt_is' (wt_guard' rfl rfl rfl) (beq_tt h2)) ?_
              refine sx_rd' (rd_pick_true' rfl h2 rfl) rfl rfl (wt_none' rfl) ?_
              refine sx_nil' ?_
              show TX E K11 _
              exact tx_pick' [] (sub_cons rfl sub_nil) (by decide) pick_nil (hK11 true hp)
            · refine sx_rd' (rd_field0' rfl Try.underlying27 rfl info3 rfl) rfl rfl (wt_is' (wt_guard' rfl rfl rfl) (beq_ff h3)) ?_
              refine sx_rd' (rd_load' (i := 0) (o := 0) rfl ⟨rfl, rfl, rfl, rfl⟩ rfl flat3) rfl rfl (wt_is' (wt_guard' rfl rfl rfl) (beq_ff h3)) ?_
              refine sx_rd' (rd_bin' rfl rfl eg_int ru_eql) rfl rfl (wt_is' (wt_guard' rfl rfl rfl) (beq_ff h3)) ?_
              refine sx_rd' (rd_move' rfl) rfl rfl (wt_is' (wt_guard' rfl rfl rfl) (beq_ff h3)) ?_
              refine sx_cutn' 6 (fun (v1 : Bool) => (⟨38, [], [(37, (Vl (.bool v1)))], []⟩ : St)) (fun (v1 : Bool) => laws_gLayouts_j1 k v1 = some out) ?_ ?_
              · rintro x1 hp
                replace hp : laws_gLayouts_j1 k x1 = some out := hp
                unfold laws_gLayouts_j1 at hp
                refine sx_nil' ?_
                show TX E K11 _
                exact tx_pick' [] (sub_cons rfl sub_nil) (by decide) pick_nil (hK11 x1 hp)
              · intro K10 hK10
                rcases br_cases hp with ⟨h4, hp⟩ | ⟨h4, hp⟩
                · refine sx_rd' (rd_field' (off := 1) rfl Try.underlying27 rfl info3 rfl) rfl rfl (wt_is' (wt_guard' rfl rfl rfl) (beq_tt h4)) ?_
                  refine sx_rd' (rd_load' (i := 0) (o := 1) rfl ⟨rfl, rfl, rfl, rfl⟩ rfl flat3) rfl rfl (wt_is' (wt_guard' rfl rfl rfl) (beq_tt h4)) ?_
                  refine sx_rd' (rd_bin' rfl rfl eg_int ru_geq) rfl rfl (wt_is' (wt_guard' rfl rfl rfl) (beq_tt h4)) ?_
                  refine sx_rd' (rd_pick_true' rfl h4 rfl) rfl rfl (wt_is' (wt_guard' rfl rfl rfl) (beq_ff h3)) ?_
                  refine sx_rd' (rd_pick_false' rfl h3 rfl) rfl rfl (wt_is' (wt_guard' rfl rfl rfl) (beq_tt h2)) ?_
                  refine sx_rd' (rd_pick_true' rfl h2 rfl) rfl rfl (wt_none' rfl) ?_
                  refine sx_nil' ?_
                  show TX E K10 _
                  exact tx_pick' [] (sub_cons rfl sub_nil) (by decide) pick_nil (hK10 (decide (0 ≤ a0_1)) hp)
                · refine sx_skip' rfl rfl (wt_is' (wt_guard' rfl rfl rfl) (beq_ft h4)) ?_
                  refine sx_skip' rfl rfl (wt_is' (wt_guard' rfl rfl rfl) (beq_ft h4)) ?_
                  refine sx_skip' rfl rfl (wt_is' (wt_guard' rfl rfl rfl) (beq_ft h4)) ?_
                  refine sx_rd' (rd_pick_false' rfl h4 rfl) rfl rfl (wt_is' (wt_guard' rfl rfl rfl) (beq_ff h3)) ?_
                  refine sx_rd' (rd_pick_false' rfl h3 rfl) rfl rfl (wt_is' (wt_guard' rfl rfl rfl) (beq_tt h2)) ?_
                  refine sx_rd' (rd_pick_true' rfl h2 rfl) rfl rfl (wt_none' rfl) ?_
                  refine sx_nil' ?_
                  show TX E K10 _
                  exact tx_pick' [] (sub_cons rfl sub_nil) (by decide) pick_nil (hK10 false hp)
        · refine sx_skip' rfl rfl (wt_is' (wt_guard' rfl rfl rfl) (beq_ft h2)) ?_
          refine sx_skip' rfl rfl (wt_is' (wt_guard' rfl rfl rfl) (beq_ft h2)) ?_
          refine sx_skip' rfl rfl (wt_is' (wt_guard' rfl rfl rfl) (beq_ft h2)) ?_
          refine sx_skip' rfl rfl (wt_is' (wt_guard' rfl rfl rfl) (beq_ft h2)) ?_
          refine sx_skip' rfl rfl (wt_undef' rfl rfl rfl) ?_
          refine sx_skip' rfl rfl (wt_undef' rfl rfl rfl) ?_
          refine sx_skip' rfl rfl (wt_undef' rfl rfl rfl) ?_
          refine sx_skip' rfl rfl (wt_undef' rfl rfl rfl) ?_
          refine sx_skip' rfl rfl (wt_undef' rfl rfl rfl) ?_
          refine sx_skip' rfl rfl (wt_undef' rfl rfl rfl) ?_
          refine sx_skip' rfl rfl (wt_undef' rfl rfl rfl) ?_
          refine sx_skip' rfl rfl (wt_undef' rfl rfl rfl) ?_
          refine sx_skip' rfl rfl (wt_is' (wt_guard' rfl rfl rfl) (beq_ft h2)) ?_
          refine sx_rd' (rd_pick_false' rfl h2 rfl) rfl rfl (wt_none' rfl) ?_
          refine sx_nil' ?_
          show TX E K12 _
          exact tx_pick' [] (sub_cons rfl sub_nil) (by decide) pick_nil (hK12 false hp)
theorem laws_gLayouts_simA : ∀ (k : Nat)  (a0_0 : Int) (a0_1 : Int) (a0_2 : Int) (a0_3 : List Nat) (a0_4 : List Int) (a0_5 : List (List Int)) (a0_6 : List T27) (a1 : Int) (out : Bool), laws_gLayouts k a0_0 a0_1 a0_2 a0_3 a0_4 a0_5 a0_6 a1 = some out → Go.Sx.Fn Try.prog 134 [(Ag [(Vl (.int .i64 a0_0)), (Vl (.int .i64 a0_1)), (Vl (.int .i64 a0_2)), (Sl Kf a0_3), (Sl (Ki .i64) a0_4), (Sl (Kl (Ki .i64)) a0_5), (Sl KT27 a0_6)]), (Vl (.int .i64 a1))] [] (fun w : Unit => (Vl (.bool out))) (fun w => []) := by
  intro k
  induction k with
  | zero => intro a0_0 a0_1 a0_2 a0_3 a0_4 a0_5 a0_6 a1 out hp; cases hp
  | succ k ih => intro a0_0 a0_1 a0_2 a0_3 a0_4 a0_5 a0_6 a1 out hp; exact laws_gLayouts_b_sim ih a0_0 a0_1 a0_2 a0_3 a0_4 a0_5 a0_6 a1 hp
theorem laws_gLayouts_sim {k : Nat}  (a0_0 : Int) (a0_1 : Int) (a0_2 : Int) (a0_3 : List Nat) (a0_4 : List Int) (a0_5 : List (List Int)) (a0_6 : List T27) (a1 : Int) {out : Bool} (hp : laws_gLayouts k a0_0 a0_1 a0_2 a0_3 a0_4 a0_5 a0_6 a1 = some out) : Go.Sx.Fn Try.prog 134 [(Ag [(Vl (.int .i64 a0_0)), (Vl (.int .i64 a0_1)), (Vl (.int .i64 a0_2)), (Sl Kf a0_3), (Sl (Ki .i64) a0_4), (Sl (Kl (Ki .i64)) a0_5), (Sl KT27 a0_6)]), (Vl (.int .i64 a1))] [] (fun w : Unit => (Vl (.bool out))) (fun w => []) := laws_gLayouts_simA k a0_0 a0_1 a0_2 a0_3 a0_4 a0_5 a0_6 a1 out hp

def laws_gSmall_j2 (k : Nat) (rec1 : (Int × Int) → Option (Unit ⊕ Unit)) (x3 : Int) (r15 : Int) (x4 : Int) (x2 : Bool) : Option (Unit ⊕ Unit) :=
  br x2
    (some (.inl ()))
    (rec1 ((isub .i64 x3 r15), (iadd .i64 x4 1)))
def laws_gSmall_l1s (a0 : List T27) (k : Nat) (rec1 : (Int × Int) → Option (Unit ⊕ Unit)) (x3 : Int) (x4 : Int) : Option (Unit ⊕ Unit) :=
  br (decide (x4 < (a0.length : Int)))
    ((idx a0 x4) >>= fun r10 =>
    (spec_Weight k r10.f0 r10.f1 r10.f2 r10.f3 r10.f4 r10.f5 r10.f6 x3) >>= fun r15 =>
    br (decide ((isub .i64 x3 r15) < 0))
      (laws_gSmall_j2 k rec1 x3 r15 x4 true)
      ((laws_gLayouts k r10.f0 r10.f1 r10.f2 r10.f3 r10.f4 r10.f5 r10.f6 9) >>= fun r21 =>
      laws_gSmall_j2 k rec1 x3 r15 x4 (!r21)))
    (some (.inr ()))
def laws_gSmall_l1 (a0 : List T27) : Nat → (Int × Int) → Option (Unit ⊕ Unit)
  | 0, _ => none
  | k + 1, v => laws_gSmall_l1s a0 k (laws_gSmall_l1 a0 k) v.1 v.2
def laws_gSmall (k : Nat) (a0 : List T27) : Option (Bool) :=
  (laws_gSmall_l1 a0 k (2000, 0)) >>= fun y1 => match y1 with
    | (.inl v4) =>
      (some false)
    | (.inr v5) =>
      (some true)

theorem laws_gSmall_sim {k : Nat}  (a0 : List T27) {out : Bool} (hp : laws_gSmall k a0 = some out) : Go.Sx.Fn Try.prog 105 [(Sl KT27 a0)] [] (fun w : Unit => (Vl (.bool out))) (fun w => []) := by
  unfold laws_gSmall at hp
  refine fn_of Try.func105 rfl Try.ntmps105 rfl fun E hM => ?_
  refine cx_seq' fun K1 hK1 => ?_
  refine cx_region' ?_
  refine sx_rd' (rd_assign' rfl) rfl rfl (wt_none' rfl) ?_
  refine sx_nil' ?_
  show TX E K1 _
  refine tx_k' hK1 ?_
  refine cx_seq' fun K2 hK2 => ?_
  refine cx_region' ?_
  refine sx_rd' (rd_assign' rfl) rfl rfl (wt_none' rfl) ?_
  refine sx_nil' ?_
  show TX E K2 _
  refine tx_k' hK2 ?_
  refine cx_seq' fun K3 hK3 => ?_
  refine cx_seq' fun K4 hK4 => ?_
  refine cx_region' ?_
  refine sx_rd' (rd_move' rfl) rfl rfl (wt_none' rfl) ?_
  refine sx_rd' (rd_len' rfl Try.underlying25) rfl rfl (wt_none' rfl) ?_
  refine sx_rd' (rd_move' rfl) rfl rfl (wt_none' rfl) ?_
  refine sx_nil' ?_
  show TX E K4 _
  refine tx_k' hK4 ?_
  refine cx_block' ?_
  obtain ⟨y1, hy1, hp⟩ := bind_some hp
  refine cx_loopg' (F := laws_gSmall_l1 a0) (G := fun k R v => laws_gSmall_l1s a0 k R v.1 v.2) (x := (2000, 0)) (gh := ()) (fun (v2 : Int × Int) (w2 : Unit) => (⟨25, [], [(3, (Vl (.int .i64 v2.1))), (6, (Sl KT27 a0)), (7, (Vl (.int .i64 (a0.length : Int)))), (8, (Vl (.int .i64 v2.2)))], []⟩ : St)) (fun (y : Unit ⊕ Unit) => match y with | (.inl v4) => Zg E Exit.ret (fun (w4 : Unit) => (⟨25, [], [(2, (Vl (.bool false)))], []⟩ : St)) | (.inr v5) => Zg E (Exit.exit 0) (fun (w5 : Unit) => (⟨25, [], [], []⟩ : St))) (fun _ => rfl) (fun _ _ => rfl) ?_ hy1 (tx_to' rfl [] (sub_cons rfl (sub_cons rfl (sub_cons rfl (sub_cons rfl sub_nil)))) (by decide) pick_nil) ?_
  · clear hp hy1
    clear y1
    intro k rec1 KY1 ih1
    rintro ⟨x3, x4⟩ ⟨⟩ y1 hp
    replace hp : laws_gSmall_l1s a0 k rec1 x3 x4 = some y1 := hp
    unfold laws_gSmall_l1s at hp
    refine cx_seq' fun K13 hK13 => ?_
    refine cx_region' ?_
    refine sx_rd' (rd_bin' rfl rfl eg_int ru_lss) rfl rfl (wt_none' rfl) ?_
    refine sx_nil' ?_
    show TX E K13 _
    refine tx_k' hK13 ?_
    refine cx_seq' fun K14 hK14 => ?_
    refine cx_cond' rfl (fun h5 => ?_) (fun h5 => ?_)
    · replace hp := (br_t h5).symm.trans hp
      refine cx_skip' ?_
      show TX E K14 _
      refine tx_k' hK14 ?_
      refine cx_seq' fun K15 hK15 => ?_
      refine cx_block' ?_
      refine cx_seq' fun K16 hK16 => ?_
      refine cx_region' ?_
      obtain ⟨r10, hr10, hp⟩ := bind_some hp
      refine sx_rd' (rd_eq' (congrArg Pt (KT27_enc r10)) (rd_at' (K := KT27) rfl rfl hr10 Try.underlying25 info27)) rfl rfl (wt_none' rfl) ?_
      refine sx_rd' (rd_load_pt_agg' (nn := 7) rfl rfl agg27 (l' := [(Vl (.int .i64 r10.f0)), (Vl (.int .i64 r10.f1)), (Vl (.int .i64 r10.f2)), (Sl Kf r10.f3), (Sl (Ki .i64) r10.f4), (Sl (Kl (Ki .i64)) r10.f5), (Sl KT27 r10.f6)]) rfl) rfl rfl (wt_none' rfl) ?_
      refine sx_ox' (ox_alloc' info27 rfl rfl rfl rfl (l := [(Vl (.int .i64 0)), (Vl (.int .i64 0)), (Vl (.int .i64 0)), (Vl (.slice none 0 0)), (Vl (.slice none 0 0)), (Vl (.slice none 0 0)), (Vl (.slice none 0 0))]) rfl) (wt_none' rfl) fun q5 => ?_
      refine sx_ox' (ox_store' (i := 0) (o := 0) rfl rfl (lv_ag _) ⟨rfl, rfl, rfl, rfl⟩ rfl info27 rfl (H' := [⟨.pointer (some q5), [(Vl (.int .i64 r10.f0)), (Vl (.int .i64 r10.f1)), (Vl (.int .i64 r10.f2)), (Sl Kf r10.f3), (Sl (Ki .i64) r10.f4), (Sl (Kl (Ki .i64)) r10.f5), (Sl KT27 r10.f6)], 27, none⟩]) rfl) (wt_none' rfl) fun _ => ?_
      refine sx_nil' ?_
      show TX E K16 _
      refine tx_k' hK16 ?_
      refine cx_seq' fun K17 hK17 => ?_
      refine cx_region' ?_
      refine sx_rd' (rd_move' rfl) rfl rfl (wt_none' rfl) ?_
      refine sx_rd' (rd_load_agg' (i := 0) (o := 0) (nn := 7) rfl ⟨rfl, rfl, rfl, rfl⟩ rfl agg27 (l' := [(Vl (.int .i64 r10.f0)), (Vl (.int .i64 r10.f1)), (Vl (.int .i64 r10.f2)), (Sl Kf r10.f3), (Sl (Ki .i64) r10.f4), (Sl (Kl (Ki .i64)) r10.f5), (Sl KT27 r10.f6)]) rfl) rfl rfl (wt_none' rfl) ?_
      refine sx_rd' (rd_move' rfl) rfl rfl (wt_none' rfl) ?_
      obtain ⟨r15, hr15, hp⟩ := bind_some hp
      refine sx_ox' (ox_calln' (ent_fn' Try.func133 isn133 rfl rfl) (spec_Weight_sim _ _ _ _ _ _ _ _ hr15 : Go.Sx.Fn Try.prog 133 [(Ag [(Vl (.int .i64 r10.f0)), (Vl (.int .i64 r10.f1)), (Vl (.int .i64 r10.f2)), (Sl Kf r10.f3), (Sl (Ki .i64) r10.f4), (Sl (Kl (Ki .i64)) r10.f5), (Sl KT27 r10.f6)]), (Vl (.int .i64 x3))] [] (fun x : Unit => (Vl (.int .i64 r15))) (fun x => [])) (Hn := fun x : Unit => [⟨.pointer (some q5), [(Vl (.int .i64 r10.f0)), (Vl (.int .i64 r10.f1)), (Vl (.int .i64 r10.f2)), (Sl Kf r10.f3), (Sl (Ki .i64) r10.f4), (Sl (Kl (Ki .i64)) r10.f5), (Sl KT27 r10.f6)], 27, none⟩]) (fun _ => rfl) rfl rfl) (wt_none' rfl) fun ⟨⟩ => ?_
      refine sx_rd' (rd_bin' rfl rfl eg_int ru_sub) rfl rfl (wt_none' rfl) ?_
      refine sx_rd' (rd_assign' rfl) rfl rfl (wt_none' rfl) ?_
      refine sx_nil' ?_
      show TX E K17 _
      refine tx_k' hK17 ?_
      refine cx_seq' fun K18 hK18 => ?_
      refine cx_region' ?_
      refine sx_rd' (rd_move' rfl) rfl rfl (wt_none' rfl) ?_
      refine sx_rd' (rd_bin' rfl rfl eg_int ru_lss) rfl rfl (wt_none' rfl) ?_
      refine sx_rd' (rd_move' rfl) rfl rfl (wt_none' rfl) ?_
      refine sx_cutn' 4 (fun (v3 : Bool) => (⟨25, [], [(3, (Vl (.int .i64 (isub .i64 x3 r15)))), (6, (Sl KT27 a0)), (7, (Vl (.int .i64 (a0.length : Int)))), (8, (Vl (.int .i64 x4))), (23, (Vl (.bool v3)))], []⟩ : St)) (fun (v3 : Bool) => laws_gSmall_j2 k rec1 x3 r15 x4 v3 = some y1) ?_ ?_
      · rintro x2 hp
        replace hp : laws_gSmall_j2 k rec1 x3 r15 x4 x2 = some y1 := hp
        unfold laws_gSmall_j2 at hp
        refine sx_nil' ?_
        show TX E K18 _
        refine tx_k' hK18 ?_
        refine cx_cond' rfl (fun h7 => ?_) (fun h7 => ?_)
        · replace hp := (br_t h7).symm.trans hp
          refine cx_seq' fun K20 hK20 => ?_
          refine cx_region' ?_
          refine sx_rd' (rd_assign' rfl) rfl rfl (wt_none' rfl) ?_
          refine sx_nil' ?_
          show TX E K20 _
          refine tx_k' hK20 ?_
          refine cx_retc' ?_
          replace hp := Option.some.inj hp
          subst hp
          show TX E (Zg E Exit.ret _ Exit.ret) _
          exact tx_zend' () rfl [] (sub_cons rfl sub_nil) (by decide) pick_nil
        · replace hp := (br_f h7).symm.trans hp
          refine cx_skip' ?_
          show TX E K15 _
          refine tx_k' hK15 ?_
          refine cx_region' ?_
          refine sx_rd' (rd_bin' rfl rfl eg_int ru_add) rfl rfl (wt_none' rfl) ?_
          refine sx_rd' (rd_move' rfl) rfl rfl (wt_none' rfl) ?_
          refine sx_nil' ?_
          show TX E (KY1 _) _
          exact tx_pick' [] (sub_cons rfl (sub_cons rfl (sub_cons rfl (sub_cons rfl sub_nil)))) (by decide) pick_nil (ih1 ((isub .i64 x3 r15), (iadd .i64 x4 1)) () _ hp)
      · intro K19 hK19
        rcases br_cases hp with ⟨h6, hp⟩ | ⟨h6, hp⟩
        · refine sx_skip' rfl rfl (wt_is' (wt_guard' rfl rfl rfl) (beq_tf h6)) ?_
          refine sx_skip' rfl rfl (wt_is' (wt_guard' rfl rfl rfl) (beq_tf h6)) ?_
          refine sx_skip' rfl rfl (wt_is' (wt_guard' rfl rfl rfl) (beq_tf h6)) ?_
          refine sx_rd' (rd_pick_true' rfl h6 rfl) rfl rfl (wt_none' rfl) ?_
          refine sx_nil' ?_
          show TX E K19 _
          exact tx_pick' [] (sub_cons rfl (sub_cons rfl (sub_cons rfl (sub_cons rfl (sub_cons rfl sub_nil))))) (by decide) pick_nil (hK19 true hp)
        · refine sx_rd' (rd_load_agg' (i := 0) (o := 0) (nn := 7) rfl ⟨rfl, rfl, rfl, rfl⟩ rfl agg27 (l' := [(Vl (.int .i64 r10.f0)), (Vl (.int .i64 r10.f1)), (Vl (.int .i64 r10.f2)), (Sl Kf r10.f3), (Sl (Ki .i64) r10.f4), (Sl (Kl (Ki .i64)) r10.f5), (Sl KT27 r10.f6)]) rfl) rfl rfl (wt_is' (wt_guard' rfl rfl rfl) (beq_ff h6)) ?_
          obtain ⟨r21, hr21, hp⟩ := bind_some hp
          refine sx_ox' (ox_calln' (ent_fn' Try.func134 isn134 rfl rfl) (laws_gLayouts_sim _ _ _ _ _ _ _ _ hr21 : Go.Sx.Fn Try.prog 134 [(Ag [(Vl (.int .i64 r10.f0)), (Vl (.int .i64 r10.f1)), (Vl (.int .i64 r10.f2)), (Sl Kf r10.f3), (Sl (Ki .i64) r10.f4), (Sl (Kl (Ki .i64)) r10.f5), (Sl KT27 r10.f6)]), (Vl (.int .i64 9))] [] (fun x : Unit => (Vl (.bool r21))) (fun x => [])) (Hn := fun x : Unit => [⟨.pointer (some q5), [(Vl (.int .i64 r10.f0)), (Vl (.int .i64 r10.f1)), (Vl (.int .i64 r10.f2)), (Sl Kf r10.f3), (Sl (Ki .i64) r10.f4), (Sl (Kl (Ki .i64)) r10.f5), (Sl KT27 r10.f6)], 27, none⟩]) (fun _ => rfl) rfl rfl) (wt_is' (wt_guard' rfl rfl rfl) (beq_ff h6)) fun ⟨⟩ => ?_
          refine sx_rd' (rd_un' rfl ru_not) rfl rfl (wt_is' (wt_guard' rfl rfl rfl) (beq_ff h6)) ?_
          refine sx_rd' (rd_pick_false' rfl h6 rfl) rfl rfl (wt_none' rfl) ?_
          refine sx_nil' ?_
          show TX E K19 _
          exact tx_pick' [] (sub_cons rfl (sub_cons rfl (sub_cons rfl (sub_cons rfl (sub_cons rfl sub_nil))))) (by decide) pick_nil (hK19 (!r21) hp)
    · replace hp := (br_f h5).symm.trans hp
      refine cx_exit' ?_
      replace hp := Option.some.inj hp
      subst hp
      show TX E (Zg E (Exit.exit 0) _ (Exit.exit 0)) _
      exact tx_zend' () rfl [] sub_nil (by decide) pick_nil
  · rcases y1 with v4 | v5
    · dsimp only at hp
      refine zg_out fun w4 => ?_
      replace hp := Option.some.inj hp
      subst hp
      refine tx_pick' (L' := [(2, (Vl (.bool false)))]) (H' := []) [] (sub_cons rfl sub_nil) (by decide) pick_nil ?_
      exact tx_ret1' Try.results105 rfl () (rv_tmp' rfl) (List.Sublist.refl _)
    · dsimp only at hp
      refine zg_out fun w5 => ?_
      show TX E K3 _
      refine tx_k' hK3 ?_
      refine cx_seq' fun K21 hK21 => ?_
      refine cx_region' ?_
      refine sx_rd' (rd_assign' rfl) rfl rfl (wt_none' rfl) ?_
      refine sx_nil' ?_
      show TX E K21 _
      refine tx_k' hK21 ?_
      refine cx_retc' ?_
      replace hp := Option.some.inj hp
      subst hp
      refine tx_pick' (L' := [(2, (Vl (.bool true)))]) (H' := []) [] (sub_cons rfl sub_nil) (by decide) pick_nil ?_
      exact tx_ret1' Try.results105 rfl () (rv_tmp' rfl) (List.Sublist.refl _)

def spec_Stride_j1 (k : Nat) (a0 : Int) (x1 : Bool) : Option (Int) :=
  br x1
    (some 3)
    (some a0)
def spec_Stride (k : Nat) (a0 : Int) : Option (Int) :=
  br (decide (a0 < 1))
    (some 0)
    (br (decide (a0 = 1))
      (some 2)
      (br (decide (a0 = 2))
        (spec_Stride_j1 k a0 true)
        (spec_Stride_j1 k a0 (decide (a0 = 3)))))

theorem spec_Stride_sim {k : Nat}  (a0 : Int) {out : Int} (hp : spec_Stride k a0 = some out) : Go.Sx.Fn Try.prog 17 [(Vl (.int .i64 a0))] [] (fun w : Unit => (Vl (.int .i64 out))) (fun w => []) := by
  unfold spec_Stride at hp
  refine fn_of Try.func17 rfl Try.ntmps17 rfl fun E hM => ?_
  refine cx_seq' fun K1 hK1 => ?_
  refine cx_region' ?_
  refine sx_rd' (rd_assign' rfl) rfl rfl (wt_none' rfl) ?_
  refine sx_nil' ?_
  show TX E K1 _
  refine tx_k' hK1 ?_
  refine cx_seq' fun K2 hK2 => ?_
  refine cx_block' ?_
  refine cx_seq' fun K3 hK3 => ?_
  refine cx_region' ?_
  refine sx_rd' (rd_move' rfl) rfl rfl (wt_none' rfl) ?_
  refine sx_rd' (rd_bin' rfl rfl eg_int ru_lss) rfl rfl (wt_none' rfl) ?_
  refine sx_rd' (rd_assign' rfl) rfl rfl (wt_none' rfl) ?_
  refine sx_nil' ?_
  show TX E K3 _
  refine tx_k' hK3 ?_
  refine cx_cond' rfl (fun h1 => ?_) (fun h1 => ?_)
  · replace hp := (br_t h1).symm.trans hp
    refine cx_seq' fun K4 hK4 => ?_
    refine cx_region' ?_
    refine sx_rd' (rd_assign' rfl) rfl rfl (wt_none' rfl) ?_
    refine sx_nil' ?_
    show TX E K4 _
    refine tx_k' hK4 ?_
    refine cx_retc' ?_
    replace hp := Option.some.inj hp
    subst hp
    refine tx_pick' (L' := [(2, (Vl (.int .i64 0)))]) (H' := []) [] (sub_cons rfl sub_nil) (by decide) pick_nil ?_
    exact tx_ret1' Try.results17 rfl () (rv_tmp' rfl) (List.Sublist.refl _)
  · replace hp := (br_f h1).symm.trans hp
    refine cx_seq' fun K5 hK5 => ?_
    refine cx_region' ?_
    refine sx_rd' (rd_move' rfl) rfl rfl (wt_none' rfl) ?_
    refine sx_rd' (rd_bin' rfl rfl eg_int ru_eql) rfl rfl (wt_none' rfl) ?_
    refine sx_rd' (rd_assign' rfl) rfl rfl (wt_none' rfl) ?_
    refine sx_nil' ?_
    show TX E K5 _
    refine tx_k' hK5 ?_
    refine cx_cond' rfl (fun h2 => ?_) (fun h2 => ?_)
    · replace hp := (br_t h2).symm.trans hp
      refine cx_seq' fun K6 hK6 => ?_
      refine cx_region' ?_
      refine sx_rd' (rd_assign' rfl) rfl rfl (wt_none' rfl) ?_
      refine sx_nil' ?_
      show TX E K6 _
      refine tx_k' hK6 ?_
      refine cx_retc' ?_
      replace hp := Option.some.inj hp
      subst hp
      refine tx_pick' (L' := [(2, (Vl (.int .i64 2)))]) (H' := []) [] (sub_cons rfl sub_nil) (by decide) pick_nil ?_
      exact tx_ret1' Try.results17 rfl () (rv_tmp' rfl) (List.Sublist.refl _)
    · replace hp := (br_f h2).symm.trans hp
      refine cx_seq' fun K7 hK7 => ?_
      refine cx_region' ?_
      refine sx_rd' (rd_move' rfl) rfl rfl (wt_none' rfl) ?_
      refine sx_rd' (rd_bin' rfl rfl eg_int ru_eql) rfl rfl (wt_none' rfl) ?_
      refine sx_rd' (rd_move' rfl) rfl rfl (wt_none' rfl) ?_
      refine sx_cutn' 3 (fun (v1 : Bool) => (⟨17, [], [(0, (Vl (.int .i64 a0))), (15, (Vl (.bool v1)))], []⟩ : St)) (fun (v1 : Bool) => spec_Stride_j1 k a0 v1 = some out) ?_ ?_
      · rintro x1 hp
        replace hp : spec_Stride_j1 k a0 x1 = some out := hp
        unfold spec_Stride_j1 at hp
        refine sx_rd' (rd_assign' rfl) rfl rfl (wt_none' rfl) ?_
        refine sx_nil' ?_
        show TX E K7 _
        refine tx_k' hK7 ?_
        refine cx_cond' rfl (fun h4 => ?_) (fun h4 => ?_)
        · replace hp := (br_t h4).symm.trans hp
          refine cx_seq' fun K9 hK9 => ?_
          refine cx_region' ?_
          refine sx_rd' (rd_assign' rfl) rfl rfl (wt_none' rfl) ?_
          refine sx_nil' ?_
          show TX E K9 _
          refine tx_k' hK9 ?_
          refine cx_retc' ?_
          replace hp := Option.some.inj hp
          subst hp
          refine tx_pick' (L' := [(2, (Vl (.int .i64 3)))]) (H' := []) [] (sub_cons rfl sub_nil) (by decide) pick_nil ?_
          exact tx_ret1' Try.results17 rfl () (rv_tmp' rfl) (List.Sublist.refl _)
        · replace hp := (br_f h4).symm.trans hp
          refine cx_skip' ?_
          show TX E K2 _
          refine tx_k' hK2 ?_
          refine cx_seq' fun K10 hK10 => ?_
          refine cx_region' ?_
          refine sx_rd' (rd_move' rfl) rfl rfl (wt_none' rfl) ?_
          refine sx_rd' (rd_assign' rfl) rfl rfl (wt_none' rfl) ?_
          refine sx_nil' ?_
          show TX E K10 _
          refine tx_k' hK10 ?_
          refine cx_retc' ?_
          replace hp := Option.some.inj hp
          subst hp
          refine tx_pick' (L' := [(2, (Vl (.int .i64 a0)))]) (H' := []) [] (sub_cons rfl sub_nil) (by decide) pick_nil ?_
          exact tx_ret1' Try.results17 rfl () (rv_tmp' rfl) (List.Sublist.refl _)
      · intro K8 hK8
        rcases br_cases hp with ⟨h3, hp⟩ | ⟨h3, hp⟩
        · refine sx_skip' rfl rfl (wt_is' (wt_guard' rfl rfl rfl) (beq_tf h3)) ?_
          refine sx_skip' rfl rfl (wt_is' (wt_guard' rfl rfl rfl) (beq_tf h3)) ?_
          refine sx_rd' (rd_pick_true' rfl h3 rfl) rfl rfl (wt_none' rfl) ?_
          refine sx_nil' ?_
          show TX E K8 _
          exact tx_pick' [] (sub_cons rfl (sub_cons rfl sub_nil)) (by decide) pick_nil (hK8 true hp)
        · refine sx_rd' (rd_move' rfl) rfl rfl (wt_is' (wt_guard' rfl rfl rfl) (beq_ff h3)) ?_
          refine sx_rd' (rd_bin' rfl rfl eg_int ru_eql) rfl rfl (wt_is' (wt_guard' rfl rfl rfl) (beq_ff h3)) ?_
          refine sx_rd' (rd_pick_false' rfl h3 rfl) rfl rfl (wt_none' rfl) ?_
          refine sx_nil' ?_
          show TX E K8 _
          exact tx_pick' [] (sub_cons rfl (sub_cons rfl sub_nil)) (by decide) pick_nil (hK8 (decide (a0 = 3)) hp)

def spec_goodEnds_j6 (k : Nat) (x7 : Int) (rec1 : (Int × Int) → Option (Int ⊕ Int)) (r16 : Int) (x8 : Int) (x6 : Bool) : Option (Int ⊕ Int) :=
  br x6
    (some (.inl x7))
    (rec1 (r16, (iadd .i64 x8 1)))
def spec_goodEnds_j5 (k : Nat) (x7 : Int) (rec1 : (Int × Int) → Option (Int ⊕ Int)) (r16 : Int) (x8 : Int) (x5 : Bool) : Option (Int ⊕ Int) :=
  spec_goodEnds_j6 k x7 rec1 r16 x8 x5
def spec_goodEnds_j4 (k : Nat) (x7 : Int) (rec1 : (Int × Int) → Option (Int ⊕ Int)) (r16 : Int) (x8 : Int) (a3 : Bool) (a2 : Int) (x4 : Bool) : Option (Int ⊕ Int) :=
  br x4
    (spec_goodEnds_j6 k x7 rec1 r16 x8 true)
    (br a3
      (spec_goodEnds_j5 k x7 rec1 r16 x8 (decide (a2 < (isub .i64 r16 x7))))
      (spec_goodEnds_j5 k x7 rec1 r16 x8 false))
def spec_goodEnds_l1s (a0 : List Int) (a3 : Bool) (a2 : Int) (k : Nat) (rec1 : (Int × Int) → Option (Int ⊕ Int)) (x7 : Int) (x8 : Int) : Option (Int ⊕ Int) :=
  br (decide (x8 < (a0.length : Int)))
    ((idx a0 x8) >>= fun r16 =>
    br (decide (r16 < x7))
      (spec_goodEnds_j4 k x7 rec1 r16 x8 a3 a2 true)
      ((irem (isub .i64 r16 x7) a2) >>= fun r26 =>
      spec_goodEnds_j4 k x7 rec1 r16 x8 a3 a2 (!decide (r26 = 0))))
    (some (.inr x7))
def spec_goodEnds_l1 (a0 : List Int) (a3 : Bool) (a2 : Int) : Nat → (Int × Int) → Option (Int ⊕ Int)
  | 0, _ => none
  | k + 1, v => spec_goodEnds_l1s a0 a3 a2 k (spec_goodEnds_l1 a0 a3 a2 k) v.1 v.2
def spec_goodEnds (k : Nat) (a0 : List Int) (a1 : Int) (a2 : Int) (a3 : Bool) : Option (Int × Bool) :=
  (spec_goodEnds_l1 a0 a3 a2 k (a1, 0)) >>= fun y1 => match y1 with
    | (.inl v8) =>
      (some (v8, false))
    | (.inr v9) =>
      (some (v9, true))

theorem spec_goodEnds_sim {k : Nat}  (a0 : List Int) (a1 : Int) (a2 : Int) (a3 : Bool) {out : Int × Bool} (hp : spec_goodEnds k a0 a1 a2 a3 = some out) : Go.Sx.Fn Try.prog 136 [(Sl (Ki .i64) a0), (Vl (.int .i64 a1)), (Vl (.int .i64 a2)), (Vl (.bool a3))] [] (fun w : Unit => (Tu [(Vl (.int .i64 out.1)), (Vl (.bool out.2))])) (fun w => []) := by
  unfold spec_goodEnds at hp
  refine fn_of Try.func136 rfl Try.ntmps136 rfl fun E hM => ?_
  refine cx_seq' fun K1 hK1 => ?_
  refine cx_region' ?_
  refine sx_rd' (rd_assign' rfl) rfl rfl (wt_none' rfl) ?_
  refine sx_rd' (rd_assign' rfl) rfl rfl (wt_none' rfl) ?_
  refine sx_nil' ?_
  show TX E K1 _
  refine tx_k' hK1 ?_
  refine cx_seq' fun K2 hK2 => ?_
  refine cx_seq' fun K3 hK3 => ?_
  refine cx_region' ?_
  refine sx_rd' (rd_move' rfl) rfl rfl (wt_none' rfl) ?_
  refine sx_rd' (rd_len' rfl Try.underlying23) rfl rfl (wt_none' rfl) ?_
  refine sx_rd' (rd_move' rfl) rfl rfl (wt_none' rfl) ?_
  refine sx_nil' ?_
  show TX E K3 _
  refine tx_k' hK3 ?_
  refine cx_block' ?_
  obtain ⟨y1, hy1, hp⟩ := bind_some hp
  refine cx_loopg' (F := spec_goodEnds_l1 a0 a3 a2) (G := fun k R v => spec_goodEnds_l1s a0 a3 a2 k R v.1 v.2) (x := (a1, 0)) (gh := ()) (fun (v4 : Int × Int) (w4 : Unit) => (⟨43, [], [(1, (Vl (.int .i64 v4.1))), (2, (Vl (.int .i64 a2))), (3, (Vl (.bool a3))), (12, (Sl (Ki .i64) a0)), (13, (Vl (.int .i64 (a0.length : Int)))), (14, (Vl (.int .i64 v4.2)))], []⟩ : St)) (fun (y : Int ⊕ Int) => match y with | (.inl v8) => Zg E Exit.ret (fun (w8 : Unit) => (⟨43, [], [(8, (Vl (.int .i64 v8))), (9, (Vl (.bool false)))], []⟩ : St)) | (.inr v9) => Zg E (Exit.exit 0) (fun (w9 : Unit) => (⟨43, [], [(1, (Vl (.int .i64 v9)))], []⟩ : St))) (fun _ => rfl) (fun _ _ => rfl) ?_ hy1 (tx_to' rfl [] (sub_cons rfl (sub_cons rfl (sub_cons rfl (sub_cons rfl (sub_cons rfl (sub_cons rfl sub_nil)))))) (by decide) pick_nil) ?_
  · clear hp hy1
    clear y1
    intro k rec1 KY1 ih1
    rintro ⟨x7, x8⟩ ⟨⟩ y1 hp
    replace hp : spec_goodEnds_l1s a0 a3 a2 k rec1 x7 x8 = some y1 := hp
    unfold spec_goodEnds_l1s at hp
    refine cx_seq' fun K14 hK14 => ?_
    refine cx_region' ?_
    refine sx_rd' (rd_bin' rfl rfl eg_int ru_lss) rfl rfl (wt_none' rfl) ?_
    refine sx_nil' ?_
    show TX E K14 _
    refine tx_k' hK14 ?_
    refine cx_seq' fun K15 hK15 => ?_
    refine cx_cond' rfl (fun h7 => ?_) (fun h7 => ?_)
    · replace hp := (br_t h7).symm.trans hp
      refine cx_skip' ?_
      show TX E K15 _
      refine tx_k' hK15 ?_
      refine cx_seq' fun K16 hK16 => ?_
      refine cx_block' ?_
      refine cx_seq' fun K17 hK17 => ?_
      refine cx_region' ?_
      obtain ⟨r16, hr16, hp⟩ := bind_some hp
      refine sx_rd' (rd_at' (K := (Ki .i64)) rfl rfl hr16 Try.underlying23 info3) rfl rfl (wt_none' rfl) ?_
      refine sx_rd' (rd_load_pt' rfl rfl flat3) rfl rfl (wt_none' rfl) ?_
      refine sx_rd' (rd_assign' rfl) rfl rfl (wt_none' rfl) ?_
      refine sx_nil' ?_
      show TX E K17 _
      refine tx_k' hK17 ?_
      refine cx_seq' fun K18 hK18 => ?_
      refine cx_seq' fun K19 hK19 => ?_
      refine cx_region' ?_
      refine sx_rd' (rd_move' rfl) rfl rfl (wt_none' rfl) ?_
      refine sx_rd' (rd_move' rfl) rfl rfl (wt_none' rfl) ?_
      refine sx_rd' (rd_bin' rfl rfl eg_int ru_lss) rfl rfl (wt_none' rfl) ?_
      refine sx_rd' (rd_move' rfl) rfl rfl (wt_none' rfl) ?_
      refine sx_cutn' 7 (fun (v5 : Bool) => (⟨43, [], [(1, (Vl (.int .i64 x7))), (2, (Vl (.int .i64 a2))), (3, (Vl (.bool a3))), (11, (Vl (.int .i64 r16))), (12, (Sl (Ki .i64) a0)), (13, (Vl (.int .i64 (a0.length : Int)))), (14, (Vl (.int .i64 x8))), (28, (Vl (.bool v5)))], []⟩ : St)) (fun (v5 : Bool) => spec_goodEnds_j4 k x7 rec1 r16 x8 a3 a2 v5 = some y1) ?_ ?_
      · rintro x4 hp
        replace hp : spec_goodEnds_j4 k x7 rec1 r16 x8 a3 a2 x4 = some y1 := hp
        unfold spec_goodEnds_j4 at hp
        refine sx_rd' (rd_move' rfl) rfl rfl (wt_none' rfl) ?_
        refine sx_cutn' 9 (fun (v7 : Bool) => (⟨43, [], [(1, (Vl (.int .i64 x7))), (2, (Vl (.int .i64 a2))), (3, (Vl (.bool a3))), (11, (Vl (.int .i64 r16))), (12, (Sl (Ki .i64) a0)), (13, (Vl (.int .i64 (a0.length : Int)))), (14, (Vl (.int .i64 x8))), (38, (Vl (.bool v7)))], []⟩ : St)) (fun (v7 : Bool) => spec_goodEnds_j6 k x7 rec1 r16 x8 v7 = some y1) ?_ ?_
        · rintro x6 hp
          replace hp : spec_goodEnds_j6 k x7 rec1 r16 x8 x6 = some y1 := hp
          unfold spec_goodEnds_j6 at hp
          refine sx_nil' ?_
          show TX E K19 _
          refine tx_k' hK19 ?_
          refine cx_cond' rfl (fun h11 => ?_) (fun h11 => ?_)
          · replace hp := (br_t h11).symm.trans hp
            refine cx_seq' fun K23 hK23 => ?_
            refine cx_region' ?_
            refine sx_rd' (rd_move' rfl) rfl rfl (wt_none' rfl) ?_
            refine sx_rd' (rd_assign' rfl) rfl rfl (wt_none' rfl) ?_
            refine sx_rd' (rd_assign' rfl) rfl rfl (wt_none' rfl) ?_
            refine sx_nil' ?_
            show TX E K23 _
            refine tx_k' hK23 ?_
            refine cx_retc' ?_
            replace hp := Option.some.inj hp
            subst hp
            show TX E (Zg E Exit.ret _ Exit.ret) _
            exact tx_zend' () rfl [] (sub_cons rfl (sub_cons rfl sub_nil)) (by decide) pick_nil
          · replace hp := (br_f h11).symm.trans hp
            refine cx_skip' ?_
            show TX E K18 _
            refine tx_k' hK18 ?_
            refine cx_region' ?_
            refine sx_rd' (rd_move' rfl) rfl rfl (wt_none' rfl) ?_
            refine sx_rd' (rd_assign' rfl) rfl rfl (wt_none' rfl) ?_
            refine sx_nil' ?_
            show TX E K16 _
            refine tx_k' hK16 ?_
            refine cx_region' ?_
            refine sx_rd' (rd_bin' rfl rfl eg_int ru_add) rfl rfl (wt_none' rfl) ?_
            refine sx_rd' (rd_move' rfl) rfl rfl (wt_none' rfl) ?_
            refine sx_nil' ?_
            show TX E (KY1 _) _
            exact tx_pick' [] (sub_cons rfl (sub_cons rfl (sub_cons rfl (sub_cons rfl (sub_cons rfl (sub_cons rfl sub_nil)))))) (by decide) pick_nil (ih1 (r16, (iadd .i64 x8 1)) () _ hp)
        · intro K22 hK22
          rcases br_cases hp with ⟨h9, hp⟩ | ⟨h9, hp⟩
          · refine sx_skip' rfl rfl (wt_is' (wt_guard' rfl rfl rfl) (beq_tf h9)) ?_
            refine sx_skip' rfl rfl (wt_is' (wt_guard' rfl rfl rfl) (beq_tf h9)) ?_
            refine sx_skip' rfl rfl (wt_undef' rfl rfl rfl) ?_
            refine sx_skip' rfl rfl (wt_undef' rfl rfl rfl) ?_
            refine sx_skip' rfl rfl (wt_undef' rfl rfl rfl) ?_
            refine sx_skip' rfl rfl (wt_undef' rfl rfl rfl) ?_
            refine sx_skip' rfl rfl (wt_undef' rfl rfl rfl) ?_
            refine sx_skip' rfl rfl (wt_is' (wt_guard' rfl rfl rfl) (beq_tf h9)) ?_
            refine sx_rd' (rd_pick_true' rfl h9 rfl) rfl rfl (wt_none' rfl) ?_
            refine sx_nil' ?_
            show TX E K22 _
            exact tx_pick' [] (sub_cons rfl (sub_cons rfl (sub_cons rfl (sub_cons rfl (sub_cons rfl (sub_cons rfl (sub_cons rfl (sub_cons rfl sub_nil)))))))) (by decide) pick_nil (hK22 true hp)
          · refine sx_rd' (rd_move' rfl) rfl rfl (wt_is' (wt_guard' rfl rfl rfl) (beq_ff h9)) ?_
            refine sx_rd' (rd_move' rfl) rfl rfl (wt_is' (wt_guard' rfl rfl rfl) (beq_ff h9)) ?_
            refine sx_cutn' 7 (fun (v6 : Bool) => (⟨43, [], [(1, (Vl (.int .i64 x7))), (2, (Vl (.int .i64 a2))), (3, (Vl (.bool a3))), (11, (Vl (.int .i64 r16))), (12, (Sl (Ki .i64) a0)), (13, (Vl (.int .i64 (a0.length : Int)))), (14, (Vl (.int .i64 x8))), (38, (Vl (.bool v6)))], []⟩ : St)) (fun (v6 : Bool) => spec_goodEnds_j5 k x7 rec1 r16 x8 v6 = some y1) ?_ ?_
            · rintro x5 hp
              replace hp : spec_goodEnds_j5 k x7 rec1 r16 x8 x5 = some y1 := hp
              unfold spec_goodEnds_j5 at hp
              refine sx_nil' ?_
              show TX E K22 _
              exact tx_pick' [] (sub_cons rfl (sub_cons rfl (sub_cons rfl (sub_cons rfl (sub_cons rfl (sub_cons rfl (sub_cons rfl (sub_cons rfl sub_nil)))))))) (by decide) pick_nil (hK22 x5 hp)
            · intro K21 hK21
              rcases br_cases hp with ⟨h10, hp⟩ | ⟨h10, hp⟩
              · refine sx_rd' (rd_move' rfl) rfl rfl (wt_is' (wt_guard' rfl rfl rfl) (beq_tt h10)) ?_
                refine sx_rd' (rd_move' rfl) rfl rfl (wt_is' (wt_guard' rfl rfl rfl) (beq_tt h10)) ?_
                refine sx_rd' (rd_bin' rfl rfl eg_int ru_sub) rfl rfl (wt_is' (wt_guard' rfl rfl rfl) (beq_tt h10)) ?_
                refine sx_rd' (rd_move' rfl) rfl rfl (wt_is' (wt_guard' rfl rfl rfl) (beq_tt h10)) ?_
                refine sx_rd' (rd_bin' rfl rfl eg_int ru_gtr) rfl rfl (wt_is' (wt_guard' rfl rfl rfl) (beq_tt h10)) ?_
                refine sx_rd' (rd_pick_true' rfl h10 rfl) rfl rfl (wt_is' (wt_guard' rfl rfl rfl) (beq_ff h9)) ?_
                refine sx_rd' (rd_pick_false' rfl h9 rfl) rfl rfl (wt_none' rfl) ?_
                refine sx_nil' ?_
                show TX E K21 _
                exact tx_pick' [] (sub_cons rfl (sub_cons rfl (sub_cons rfl (sub_cons rfl (sub_cons rfl (sub_cons rfl (sub_cons rfl (sub_cons rfl sub_nil)))))))) (by decide) pick_nil (hK21 (decide (a2 < (isub .i64 r16 x7))) hp)
              · refine sx_skip' rfl rfl (wt_is' (wt_guard' rfl rfl rfl) (beq_ft h10)) ?_
                refine sx_skip' rfl rfl (wt_is' (wt_guard' rfl rfl rfl) (beq_ft h10)) ?_
                refine sx_skip' rfl rfl (wt_is' (wt_guard' rfl rfl rfl) (beq_ft h10)) ?_
                refine sx_skip' rfl rfl (wt_is' (wt_guard' rfl rfl rfl) (beq_ft h10)) ?_
                refine sx_skip' rfl rfl (wt_is' (wt_guard' rfl rfl rfl) (beq_ft h10)) ?_
                refine sx_rd' (rd_pick_false' rfl h10 rfl) rfl rfl (wt_is' (wt_guard' rfl rfl rfl) (beq_ff h9)) ?_
                refine sx_rd' (rd_pick_false' rfl h9 rfl) rfl rfl (wt_none' rfl) ?_
                refine sx_nil' ?_
                show TX E K21 _
                exact tx_pick' [] (sub_cons rfl (sub_cons rfl (sub_cons rfl (sub_cons rfl (sub_cons rfl (sub_cons rfl (sub_cons rfl (sub_cons rfl sub_nil)))))))) (by decide) pick_nil (hK21 false hp)
      · intro K20 hK20
        rcases br_cases hp with ⟨h8, hp⟩ | ⟨h8, hp⟩
        · refine sx_skip' rfl rfl (wt_is' (wt_guard' rfl rfl rfl) (beq_tf h8)) ?_
          refine sx_skip' rfl rfl (wt_is' (wt_guard' rfl rfl rfl) (beq_tf h8)) ?_
          refine sx_skip' rfl rfl (wt_is' (wt_guard' rfl rfl rfl) (beq_tf h8)) ?_
          refine sx_skip' rfl rfl (wt_is' (wt_guard' rfl rfl rfl) (beq_tf h8)) ?_
          refine sx_skip' rfl rfl (wt_is' (wt_guard' rfl rfl rfl) (beq_tf h8)) ?_
          refine sx_skip' rfl rfl (wt_is' (wt_guard' rfl rfl rfl) (beq_tf h8)) ?_
          refine sx_rd' (rd_pick_true' rfl h8 rfl) rfl rfl (wt_none' rfl) ?_
          refine sx_nil' ?_
          show TX E K20 _
          exact tx_pick' [] (sub_cons rfl (sub_cons rfl (sub_cons rfl (sub_cons rfl (sub_cons rfl (sub_cons rfl (sub_cons rfl (sub_cons rfl sub_nil)))))))) (by decide) pick_nil (hK20 true hp)
        · refine sx_rd' (rd_move' rfl) rfl rfl (wt_is' (wt_guard' rfl rfl rfl) (beq_ff h8)) ?_
          refine sx_rd' (rd_move' rfl) rfl rfl (wt_is' (wt_guard' rfl rfl rfl) (beq_ff h8)) ?_
          refine sx_rd' (rd_bin' rfl rfl eg_int ru_sub) rfl rfl (wt_is' (wt_guard' rfl rfl rfl) (beq_ff h8)) ?_
          refine sx_rd' (rd_move' rfl) rfl rfl (wt_is' (wt_guard' rfl rfl rfl) (beq_ff h8)) ?_
          obtain ⟨r26, hr26, hp⟩ := bind_some hp
          refine sx_rd' (rd_bin' rfl rfl eg_int (ru_rem hr26)) rfl rfl (wt_is' (wt_guard' rfl rfl rfl) (beq_ff h8)) ?_
          refine sx_rd' (rd_bin' rfl rfl eg_int ru_neq) rfl rfl (wt_is' (wt_guard' rfl rfl rfl) (beq_ff h8)) ?_
          refine sx_rd' (rd_pick_false' rfl h8 rfl) rfl rfl (wt_none' rfl) ?_
          refine sx_nil' ?_
          show TX E K20 _
          exact tx_pick' [] (sub_cons rfl (sub_cons rfl (sub_cons rfl (sub_cons rfl (sub_cons rfl (sub_cons rfl (sub_cons rfl (sub_cons rfl sub_nil)))))))) (by decide) pick_nil (hK20 (!decide (r26 = 0)) hp)
    · replace hp := (br_f h7).symm.trans hp
      refine cx_exit' ?_
      replace hp := Option.some.inj hp
      subst hp
      show TX E (Zg E (Exit.exit 0) _ (Exit.exit 0)) _
      exact tx_zend' () rfl [] (sub_cons rfl sub_nil) (by decide) pick_nil
  · rcases y1 with v8 | v9
    · dsimp only at hp
      refine zg_out fun w8 => ?_
      replace hp := Option.some.inj hp
      subst hp
      refine tx_pick' (L' := [(8, (Vl (.int .i64 v8))), (9, (Vl (.bool false)))]) (H' := []) [] (sub_cons rfl (sub_cons rfl sub_nil)) (by decide) pick_nil ?_
      exact tx_ret2' Try.results136 rfl () (rv_tmp' rfl) (rv_tmp' rfl) rfl (List.Sublist.refl _)
    · dsimp only at hp
      refine zg_out fun w9 => ?_
      show TX E K2 _
      refine tx_k' hK2 ?_
      refine cx_seq' fun K24 hK24 => ?_
      refine cx_region' ?_
      refine sx_rd' (rd_move' rfl) rfl rfl (wt_none' rfl) ?_
      refine sx_rd' (rd_assign' rfl) rfl rfl (wt_none' rfl) ?_
      refine sx_rd' (rd_assign' rfl) rfl rfl (wt_none' rfl) ?_
      refine sx_nil' ?_
      show TX E K24 _
      refine tx_k' hK24 ?_
      refine cx_retc' ?_
      replace hp := Option.some.inj hp
      subst hp
      refine tx_pick' (L' := [(8, (Vl (.int .i64 v9))), (9, (Vl (.bool true)))]) (H' := []) [] (sub_cons rfl (sub_cons rfl sub_nil)) (by decide) pick_nil ?_
      exact tx_ret2' Try.results136 rfl () (rv_tmp' rfl) (rv_tmp' rfl) rfl (List.Sublist.refl _)

def spec_Cover_j3 (k : Nat) (a0 : Int) (a1 : Int) (x3 : Bool) : Option (Int) :=
  br x3
    (some 4)
    (some (imax a0 a1))
def spec_Cover_j2 (k : Nat) (a0 : Int) (a1 : Int) (x2 : Bool) : Option (Int) :=
  spec_Cover_j3 k a0 a1 x2
def spec_Cover_j1 (k : Nat) (a0 : Int) (a1 : Int) (x1 : Bool) : Option (Int) :=
  br x1
    (spec_Cover_j3 k a0 a1 true)
    (br (decide (a0 = 3))
      (spec_Cover_j2 k a0 a1 (decide (a1 = 2)))
      (spec_Cover_j2 k a0 a1 false))
def spec_Cover (k : Nat) (a0 : Int) (a1 : Int) : Option (Int) :=
  br (decide (a0 = 2))
    (spec_Cover_j1 k a0 a1 (decide (a1 = 3)))
    (spec_Cover_j1 k a0 a1 false)

theorem spec_Cover_sim {k : Nat}  (a0 : Int) (a1 : Int) {out : Int} (hp : spec_Cover k a0 a1 = some out) : Go.Sx.Fn Try.prog 153 [(Vl (.int .i64 a0)), (Vl (.int .i64 a1))] [] (fun w : Unit => (Vl (.int .i64 out))) (fun w => []) := by
  unfold spec_Cover at hp
  refine fn_of Try.func153 rfl Try.ntmps153 rfl fun E hM => ?_
  refine cx_seq' fun K1 hK1 => ?_
  refine cx_region' ?_
  refine sx_rd' (rd_assign' rfl) rfl rfl (wt_none' rfl) ?_
  refine sx_nil' ?_
  show TX E K1 _
  refine tx_k' hK1 ?_
  refine cx_seq' fun K2 hK2 => ?_
  refine cx_seq' fun K3 hK3 => ?_
  refine cx_region' ?_
  refine sx_rd' (rd_move' rfl) rfl rfl (wt_none' rfl) ?_
  refine sx_rd' (rd_bin' rfl rfl eg_int ru_eql) rfl rfl (wt_none' rfl) ?_
  refine sx_rd' (rd_move' rfl) rfl rfl (wt_none' rfl) ?_
  refine sx_cutn' 3 (fun (v1 : Bool) => (⟨22, [], [(0, (Vl (.int .i64 a0))), (1, (Vl (.int .i64 a1))), (10, (Vl (.bool v1)))], []⟩ : St)) (fun (v1 : Bool) => spec_Cover_j1 k a0 a1 v1 = some out) ?_ ?_
  · rintro x1 hp
    replace hp : spec_Cover_j1 k a0 a1 x1 = some out := hp
    unfold spec_Cover_j1 at hp
    refine sx_rd' (rd_move' rfl) rfl rfl (wt_none' rfl) ?_
    refine sx_cutn' 7 (fun (v3 : Bool) => (⟨22, [], [(0, (Vl (.int .i64 a0))), (1, (Vl (.int .i64 a1))), (18, (Vl (.bool v3)))], []⟩ : St)) (fun (v3 : Bool) => spec_Cover_j3 k a0 a1 v3 = some out) ?_ ?_
    · rintro x3 hp
      replace hp : spec_Cover_j3 k a0 a1 x3 = some out := hp
      unfold spec_Cover_j3 at hp
      refine sx_nil' ?_
      show TX E K3 _
      refine tx_k' hK3 ?_
      refine cx_cond' rfl (fun h4 => ?_) (fun h4 => ?_)
      · replace hp := (br_t h4).symm.trans hp
        refine cx_seq' fun K7 hK7 => ?_
        refine cx_region' ?_
        refine sx_rd' (rd_assign' rfl) rfl rfl (wt_none' rfl) ?_
        refine sx_nil' ?_
        show TX E K7 _
        refine tx_k' hK7 ?_
        refine cx_retc' ?_
        replace hp := Option.some.inj hp
        subst hp
        refine tx_pick' (L' := [(4, (Vl (.int .i64 4)))]) (H' := []) [] (sub_cons rfl sub_nil) (by decide) pick_nil ?_
        exact tx_ret1' Try.results153 rfl () (rv_tmp' rfl) (List.Sublist.refl _)
      · replace hp := (br_f h4).symm.trans hp
        refine cx_skip' ?_
        show TX E K2 _
        refine tx_k' hK2 ?_
        refine cx_seq' fun K8 hK8 => ?_
        refine cx_region' ?_
        refine sx_rd' (rd_move' rfl) rfl rfl (wt_none' rfl) ?_
        refine sx_rd' (rd_move' rfl) rfl rfl (wt_none' rfl) ?_
        refine sx_rd' (rd_imax' rfl rfl) rfl rfl (wt_none' rfl) ?_
        refine sx_rd' (rd_assign' rfl) rfl rfl (wt_none' rfl) ?_
        refine sx_nil' ?_
        show TX E K8 _
        refine tx_k' hK8 ?_
        refine cx_retc' ?_
        replace hp := Option.some.inj hp
        subst hp
        refine tx_pick' (L' := [(4, (Vl (.int .i64 (imax a0 a1))))]) (H' := []) [] (sub_cons rfl sub_nil) (by decide) pick_nil ?_
        exact tx_ret1' Try.results153 rfl () (rv_tmp' rfl) (List.Sublist.refl _)
    · intro K6 hK6
      rcases br_cases hp with ⟨h2, hp⟩ | ⟨h2, hp⟩
      · refine sx_skip' rfl rfl (wt_is' (wt_guard' rfl rfl rfl) (beq_tf h2)) ?_
        refine sx_skip' rfl rfl (wt_is' (wt_guard' rfl rfl rfl) (beq_tf h2)) ?_
        refine sx_skip' rfl rfl (wt_is' (wt_guard' rfl rfl rfl) (beq_tf h2)) ?_
        refine sx_skip' rfl rfl (wt_undef' rfl rfl rfl) ?_
        refine sx_skip' rfl rfl (wt_undef' rfl rfl rfl) ?_
        refine sx_skip' rfl rfl (wt_is' (wt_guard' rfl rfl rfl) (beq_tf h2)) ?_
        refine sx_rd' (rd_pick_true' rfl h2 rfl) rfl rfl (wt_none' rfl) ?_
        refine sx_nil' ?_
        show TX E K6 _
        exact tx_pick' [] (sub_cons rfl (sub_cons rfl (sub_cons rfl sub_nil))) (by decide) pick_nil (hK6 true hp)
      · refine sx_rd' (rd_move' rfl) rfl rfl (wt_is' (wt_guard' rfl rfl rfl) (beq_ff h2)) ?_
        refine sx_rd' (rd_bin' rfl rfl eg_int ru_eql) rfl rfl (wt_is' (wt_guard' rfl rfl rfl) (beq_ff h2)) ?_
        refine sx_rd' (rd_move' rfl) rfl rfl (wt_is' (wt_guard' rfl rfl rfl) (beq_ff h2)) ?_
        refine sx_cutn' 4 (fun (v2 : Bool) => (⟨22, [], [(0, (Vl (.int .i64 a0))), (1, (Vl (.int .i64 a1))), (18, (Vl (.bool v2)))], []⟩ : St)) (fun (v2 : Bool) => spec_Cover_j2 k a0 a1 v2 = some out) ?_ ?_
        · rintro x2 hp
          replace hp : spec_Cover_j2 k a0 a1 x2 = some out := hp
          unfold spec_Cover_j2 at hp
          refine sx_nil' ?_
          show TX E K6 _
          exact tx_pick' [] (sub_cons rfl (sub_cons rfl (sub_cons rfl sub_nil))) (by decide) pick_nil (hK6 x2 hp)
        · intro K5 hK5
          rcases br_cases hp with ⟨h3, hp⟩ | ⟨h3, hp⟩
          · refine sx_rd' (rd_move' rfl) rfl rfl (wt_is' (wt_guard' rfl rfl rfl) (beq_tt h3)) ?_
            refine sx_rd' (rd_bin' rfl rfl eg_int ru_eql) rfl rfl (wt_is' (wt_guard' rfl rfl rfl) (beq_tt h3)) ?_
            refine sx_rd' (rd_pick_true' rfl h3 rfl) rfl rfl (wt_is' (wt_guard' rfl rfl rfl) (beq_ff h2)) ?_
            refine sx_rd' (rd_pick_false' rfl h2 rfl) rfl rfl (wt_none' rfl) ?_
            refine sx_nil' ?_
            show TX E K5 _
            exact tx_pick' [] (sub_cons rfl (sub_cons rfl (sub_cons rfl sub_nil))) (by decide) pick_nil (hK5 (decide (a1 = 2)) hp)
          · refine sx_skip' rfl rfl (wt_is' (wt_guard' rfl rfl rfl) (beq_ft h3)) ?_
            refine sx_skip' rfl rfl (wt_is' (wt_guard' rfl rfl rfl) (beq_ft h3)) ?_
            refine sx_rd' (rd_pick_false' rfl h3 rfl) rfl rfl (wt_is' (wt_guard' rfl rfl rfl) (beq_ff h2)) ?_
            refine sx_rd' (rd_pick_false' rfl h2 rfl) rfl rfl (wt_none' rfl) ?_
            refine sx_nil' ?_
            show TX E K5 _
            exact tx_pick' [] (sub_cons rfl (sub_cons rfl (sub_cons rfl sub_nil))) (by decide) pick_nil (hK5 false hp)
  · intro K4 hK4
    rcases br_cases hp with ⟨h1, hp⟩ | ⟨h1, hp⟩
    · refine sx_rd' (rd_move' rfl) rfl rfl (wt_is' (wt_guard' rfl rfl rfl) (beq_tt h1)) ?_
      refine sx_rd' (rd_bin' rfl rfl eg_int ru_eql) rfl rfl (wt_is' (wt_guard' rfl rfl rfl) (beq_tt h1)) ?_
      refine sx_rd' (rd_pick_true' rfl h1 rfl) rfl rfl (wt_none' rfl) ?_
      refine sx_nil' ?_
      show TX E K4 _
      exact tx_pick' [] (sub_cons rfl (sub_cons rfl (sub_cons rfl sub_nil))) (by decide) pick_nil (hK4 (decide (a1 = 3)) hp)
    · refine sx_skip' rfl rfl (wt_is' (wt_guard' rfl rfl rfl) (beq_ft h1)) ?_
      refine sx_skip' rfl rfl (wt_is' (wt_guard' rfl rfl rfl) (beq_ft h1)) ?_
      refine sx_rd' (rd_pick_false' rfl h1 rfl) rfl rfl (wt_none' rfl) ?_
      refine sx_nil' ?_
      show TX E K4 _
      exact tx_pick' [] (sub_cons rfl (sub_cons rfl (sub_cons rfl sub_nil))) (by decide) pick_nil (hK4 false hp)

def spec_LayoutOf_l1s (a0_6 : List T27) (recf : Int → Int → Int → (List Nat) → (List Int) → (List (List Int)) → (List T27) → Option (Int)) (k : Nat) (rec1 : (Int × Int) → Option (Int)) (x3 : Int) (x4 : Int) : Option (Int) :=
  br (decide (x4 < (a0_6.length : Int)))
    ((idx a0_6 x4) >>= fun r21 =>
    (recf r21.f0 r21.f1 r21.f2 r21.f3 r21.f4 r21.f5 r21.f6) >>= fun r25 =>
    (spec_Cover k x3 r25) >>= fun r26 =>
    rec1 (r26, (iadd .i64 x4 1)))
    (some x3)
def spec_LayoutOf_l1 (a0_6 : List T27) (recf : Int → Int → Int → (List Nat) → (List Int) → (List (List Int)) → (List T27) → Option (Int)) : Nat → (Int × Int) → Option (Int)
  | 0, _ => none
  | k + 1, v => spec_LayoutOf_l1s a0_6 recf k (spec_LayoutOf_l1 a0_6 recf k) v.1 v.2
def spec_LayoutOf_j1 (k : Nat) (a0_1 : Int) (a0_6 : List T27) (recf : Int → Int → Int → (List Nat) → (List Int) → (List (List Int)) → (List T27) → Option (Int)) (x1 : Bool) : Option (Int) :=
  br x1
    (some a0_1)
    ((spec_LayoutOf_l1 a0_6 recf k (a0_1, 0)) >>= fun v4 =>
    some v4)
def spec_LayoutOf_b (recf : Int → Int → Int → (List Nat) → (List Int) → (List (List Int)) → (List T27) → Option (Int)) (k : Nat) (a0_0 : Int) (a0_1 : Int) (a0_2 : Int) (a0_3 : List Nat) (a0_4 : List Int) (a0_5 : List (List Int)) (a0_6 : List T27) : Option (Int) :=
  br (!decide (a0_0 = 7))
    (spec_LayoutOf_j1 k a0_1 a0_6 recf true)
    (spec_LayoutOf_j1 k a0_1 a0_6 recf (!decide (a0_1 = 0)))
def spec_LayoutOf : Nat → Int → Int → Int → (List Nat) → (List Int) → (List (List Int)) → (List T27) → Option (Int)
  | 0 => fun _ _ _ _ _ _ _ => none
  | k + 1 => fun a0_0 a0_1 a0_2 a0_3 a0_4 a0_5 a0_6 => spec_LayoutOf_b (spec_LayoutOf k) k a0_0 a0_1 a0_2 a0_3 a0_4 a0_5 a0_6

theorem spec_LayoutOf_b_sim {recf : Int → Int → Int → (List Nat) → (List Int) → (List (List Int)) → (List T27) → Option (Int)} (hrec : ∀  (a0_0 : Int) (a0_1 : Int) (a0_2 : Int) (a0_3 : List Nat) (a0_4 : List Int) (a0_5 : List (List Int)) (a0_6 : List T27) (out : Int), recf a0_0 a0_1 a0_2 a0_3 a0_4 a0_5 a0_6 = some out → Go.Sx.Fn Try.prog 135 [(Ag [(Vl (.int .i64 a0_0)), (Vl (.int .i64 a0_1)), (Vl (.int .i64 a0_2)), (Sl Kf a0_3), (Sl (Ki .i64) a0_4), (Sl (Kl (Ki .i64)) a0_5), (Sl KT27 a0_6)])] [] (fun w : Unit => (Vl (.int .i64 out))) (fun w => [])) {k : Nat}  (a0_0 : Int) (a0_1 : Int) (a0_2 : Int) (a0_3 : List Nat) (a0_4 : List Int) (a0_5 : List (List Int)) (a0_6 : List T27) {out : Int} (hp : spec_LayoutOf_b recf k a0_0 a0_1 a0_2 a0_3 a0_4 a0_5 a0_6 = some out) : Go.Sx.Fn Try.prog 135 [(Ag [(Vl (.int .i64 a0_0)), (Vl (.int .i64 a0_1)), (Vl (.int .i64 a0_2)), (Sl Kf a0_3), (Sl (Ki .i64) a0_4), (Sl (Kl (Ki .i64)) a0_5), (Sl KT27 a0_6)])] [] (fun w : Unit => (Vl (.int .i64 out))) (fun w => []) := by
  unfold spec_LayoutOf_b at hp
  refine fn_of Try.func135 rfl Try.ntmps135 rfl fun E hM => ?_
  refine cx_seq' fun K1 hK1 => ?_
  refine cx_region' ?_
  refine sx_ox' (ox_box' rfl (lv_ag _) rfl rfl) (wt_none' rfl) fun q1 => ?_
  refine sx_rd' (rd_assign' rfl) rfl rfl (wt_none' rfl) ?_
  refine sx_nil' ?_
  show TX E K1 _
  refine tx_k' hK1 ?_
  refine cx_seq' fun K2 hK2 => ?_
  refine cx_region' ?_
  refine sx_rd' (rd_field' (off := 1) rfl Try.underlying27 rfl info3 rfl) rfl rfl (wt_none' rfl) ?_
  refine sx_rd' (rd_load' (i := 0) (o := 1) rfl ⟨rfl, rfl, rfl, rfl⟩ rfl flat3) rfl rfl (wt_none' rfl) ?_
  refine sx_rd' (rd_assign' rfl) rfl rfl (wt_none' rfl) ?_
  refine sx_nil' ?_
  show TX E K2 _
  refine tx_k' hK2 ?_
  refine cx_seq' fun K3 hK3 => ?_
  refine cx_seq' fun K4 hK4 => ?_
  refine cx_region' ?_
  refine sx_rd' (rd_field0' rfl Try.underlying27 rfl info3 rfl) rfl rfl (wt_none' rfl) ?_
  refine sx_rd' (rd_load' (i := 0) (o := 0) rfl ⟨rfl, rfl, rfl, rfl⟩ rfl flat3) rfl rfl (wt_none' rfl) ?_
  refine sx_rd' (rd_bin' rfl rfl eg_int ru_neq) rfl rfl (wt_none' rfl) ?_
  refine sx_rd' (rd_move' rfl) rfl rfl (wt_none' rfl) ?_
  refine sx_cutn' 3 (fun (v1 : Bool) => (⟨29, [], [(1, (Vl (.pointer (some q1)))), (3, (Vl (.int .i64 a0_1))), (14, (Vl (.bool v1)))], [⟨.pointer (some q1), [(Vl (.int .i64 a0_0)), (Vl (.int .i64 a0_1)), (Vl (.int .i64 a0_2)), (Sl Kf a0_3), (Sl (Ki .i64) a0_4), (Sl (Kl (Ki .i64)) a0_5), (Sl KT27 a0_6)], 27, none⟩]⟩ : St)) (fun (v1 : Bool) => spec_LayoutOf_j1 k a0_1 a0_6 recf v1 = some out) ?_ ?_
  · rintro x1 hp
    replace hp : spec_LayoutOf_j1 k a0_1 a0_6 recf x1 = some out := hp
    unfold spec_LayoutOf_j1 at hp
    refine sx_nil' ?_
    show TX E K4 _
    refine tx_k' hK4 ?_
    refine cx_cond' rfl (fun h2 => ?_) (fun h2 => ?_)
    · replace hp := (br_t h2).symm.trans hp
      refine cx_seq' fun K6 hK6 => ?_
      refine cx_region' ?_
      refine sx_rd' (rd_move' rfl) rfl rfl (wt_none' rfl) ?_
      refine sx_rd' (rd_assign' rfl) rfl rfl (wt_none' rfl) ?_
      refine sx_nil' ?_
      show TX E K6 _
      refine tx_k' hK6 ?_
      refine cx_retc' ?_
      replace hp := Option.some.inj hp
      subst hp
      refine tx_pick' (L' := [(2, (Vl (.int .i64 a0_1)))]) (H' := []) [] (sub_cons rfl sub_nil) (by decide) pick_nil ?_
      exact tx_ret1' Try.results135 rfl () (rv_tmp' rfl) (List.Sublist.refl _)
    · replace hp := (br_f h2).symm.trans hp
      refine cx_skip' ?_
      show TX E K3 _
      refine tx_k' hK3 ?_
      refine cx_seq' fun K7 hK7 => ?_
      refine cx_seq' fun K8 hK8 => ?_
      refine cx_region' ?_
      refine sx_rd' (rd_field' (off := 6) rfl Try.underlying27 rfl info25 rfl) rfl rfl (wt_none' rfl) ?_
      refine sx_rd' (rd_load' (i := 0) (o := 6) rfl ⟨rfl, rfl, rfl, rfl⟩ rfl flat25) rfl rfl (wt_none' rfl) ?_
      refine sx_rd' (rd_len' rfl Try.underlying25) rfl rfl (wt_none' rfl) ?_
      refine sx_rd' (rd_move' rfl) rfl rfl (wt_none' rfl) ?_
      refine sx_nil' ?_
      show TX E K8 _
      refine tx_k' hK8 ?_
      refine cx_block' ?_
      obtain ⟨v4, hy1, hp⟩ := bind_some hp
      refine cx_loopg' (F := spec_LayoutOf_l1 a0_6 recf) (G := fun k R v => spec_LayoutOf_l1s a0_6 recf k R v.1 v.2) (x := (a0_1, 0)) (gh := ()) (fun (v3 : Int × Int) (w3 : Unit) => (⟨29, [], [(3, (Vl (.int .i64 v3.1))), (17, (Sl KT27 a0_6)), (18, (Vl (.int .i64 (a0_6.length : Int)))), (19, (Vl (.int .i64 v3.2)))], []⟩ : St)) (fun (v4 : Int) => Zg E (Exit.exit 0) (fun (w4 : Unit) => (⟨29, [], [(3, (Vl (.int .i64 v4)))], []⟩ : St))) (fun _ => rfl) (fun _ _ => rfl) ?_ hy1 (tx_to' rfl [] (sub_cons rfl (sub_cons rfl (sub_cons rfl (sub_cons rfl sub_nil)))) (by decide) pick_nil) ?_
      · clear hp hy1
        clear v4
        intro k rec1 KY1 ih1
        rintro ⟨x3, x4⟩ ⟨⟩ y1 hp
        replace hp : spec_LayoutOf_l1s a0_6 recf k rec1 x3 x4 = some y1 := hp
        unfold spec_LayoutOf_l1s at hp
        refine cx_seq' fun K14 hK14 => ?_
        refine cx_region' ?_
        refine sx_rd' (rd_bin' rfl rfl eg_int ru_lss) rfl rfl (wt_none' rfl) ?_
        refine sx_nil' ?_
        show TX E K14 _
        refine tx_k' hK14 ?_
        refine cx_seq' fun K15 hK15 => ?_
        refine cx_cond' rfl (fun h5 => ?_) (fun h5 => ?_)
        · replace hp := (br_t h5).symm.trans hp
          refine cx_skip' ?_
          show TX E K15 _
          refine tx_k' hK15 ?_
          refine cx_seq' fun K16 hK16 => ?_
          refine cx_block' ?_
          refine cx_seq' fun K17 hK17 => ?_
          refine cx_region' ?_
          obtain ⟨r21, hr21, hp⟩ := bind_some hp
          refine sx_rd' (rd_eq' (congrArg Pt (KT27_enc r21)) (rd_at' (K := KT27) rfl rfl hr21 Try.underlying25 info27)) rfl rfl (wt_none' rfl) ?_
          refine sx_rd' (rd_load_pt_agg' (nn := 7) rfl rfl agg27 (l' := [(Vl (.int .i64 r21.f0)), (Vl (.int .i64 r21.f1)), (Vl (.int .i64 r21.f2)), (Sl Kf r21.f3), (Sl (Ki .i64) r21.f4), (Sl (Kl (Ki .i64)) r21.f5), (Sl KT27 r21.f6)]) rfl) rfl rfl (wt_none' rfl) ?_
          refine sx_ox' (ox_alloc' info27 rfl rfl rfl rfl (l := [(Vl (.int .i64 0)), (Vl (.int .i64 0)), (Vl (.int .i64 0)), (Vl (.slice none 0 0)), (Vl (.slice none 0 0)), (Vl (.slice none 0 0)), (Vl (.slice none 0 0))]) rfl) (wt_none' rfl) fun q5 => ?_
          refine sx_ox' (ox_store' (i := 0) (o := 0) rfl rfl (lv_ag _) ⟨rfl, rfl, rfl, rfl⟩ rfl info27 rfl (H' := [⟨.pointer (some q5), [(Vl (.int .i64 r21.f0)), (Vl (.int .i64 r21.f1)), (Vl (.int .i64 r21.f2)), (Sl Kf r21.f3), (Sl (Ki .i64) r21.f4), (Sl (Kl (Ki .i64)) r21.f5), (Sl KT27 r21.f6)], 27, none⟩]) rfl) (wt_none' rfl) fun _ => ?_
          refine sx_nil' ?_
          show TX E K17 _
          refine tx_k' hK17 ?_
          refine cx_region' ?_
          refine sx_rd' (rd_move' rfl) rfl rfl (wt_none' rfl) ?_
          refine sx_rd' (rd_load_agg' (i := 0) (o := 0) (nn := 7) rfl ⟨rfl, rfl, rfl, rfl⟩ rfl agg27 (l' := [(Vl (.int .i64 r21.f0)), (Vl (.int .i64 r21.f1)), (Vl (.int .i64 r21.f2)), (Sl Kf r21.f3), (Sl (Ki .i64) r21.f4), (Sl (Kl (Ki .i64)) r21.f5), (Sl KT27 r21.f6)]) rfl) rfl rfl (wt_none' rfl) ?_
          obtain ⟨r25, hr25, hp⟩ := bind_some hp
          refine sx_ox' (ox_calln' (ent_fn' Try.func135 isn135 rfl rfl) (hrec _ _ _ _ _ _ _ _ hr25 : Go.Sx.Fn Try.prog 135 [(Ag [(Vl (.int .i64 r21.f0)), (Vl (.int .i64 r21.f1)), (Vl (.int .i64 r21.f2)), (Sl Kf r21.f3), (Sl (Ki .i64) r21.f4), (Sl (Kl (Ki .i64)) r21.f5), (Sl KT27 r21.f6)])] [] (fun x : Unit => (Vl (.int .i64 r25))) (fun x => [])) (Hn := fun x : Unit => [⟨.pointer (some q5), [(Vl (.int .i64 r21.f0)), (Vl (.int .i64 r21.f1)), (Vl (.int .i64 r21.f2)), (Sl Kf r21.f3), (Sl (Ki .i64) r21.f4), (Sl (Kl (Ki .i64)) r21.f5), (Sl KT27 r21.f6)], 27, none⟩]) (fun _ => rfl) rfl rfl) (wt_none' rfl) fun ⟨⟩ => ?_
          obtain ⟨r26, hr26, hp⟩ := bind_some hp
          refine sx_ox' (ox_calln' (ent_fn' Try.func153 isn153 rfl rfl) (spec_Cover_sim _ _ hr26 : Go.Sx.Fn Try.prog 153 [(Vl (.int .i64 x3)), (Vl (.int .i64 r25))] [] (fun x : Unit => (Vl (.int .i64 r26))) (fun x => [])) (Hn := fun x : Unit => [⟨.pointer (some q5), [(Vl (.int .i64 r21.f0)), (Vl (.int .i64 r21.f1)), (Vl (.int .i64 r21.f2)), (Sl Kf r21.f3), (Sl (Ki .i64) r21.f4), (Sl (Kl (Ki .i64)) r21.f5), (Sl KT27 r21.f6)], 27, none⟩]) (fun _ => rfl) rfl rfl) (wt_none' rfl) fun ⟨⟩ => ?_
          refine sx_rd' (rd_assign' rfl) rfl rfl (wt_none' rfl) ?_
          refine sx_nil' ?_
          show TX E K16 _
          refine tx_k' hK16 ?_
          refine cx_region' ?_
          refine sx_rd' (rd_bin' rfl rfl eg_int ru_add) rfl rfl (wt_none' rfl) ?_
          refine sx_rd' (rd_move' rfl) rfl rfl (wt_none' rfl) ?_
          refine sx_nil' ?_
          show TX E (KY1 _) _
          exact tx_pick' [] (sub_cons rfl (sub_cons rfl (sub_cons rfl (sub_cons rfl sub_nil)))) (by decide) pick_nil (ih1 (r26, (iadd .i64 x4 1)) () _ hp)
        · replace hp := (br_f h5).symm.trans hp
          refine cx_exit' ?_
          replace hp := Option.some.inj hp
          subst hp
          show TX E (Zg E (Exit.exit 0) _ (Exit.exit 0)) _
          exact tx_zend' () rfl [] (sub_cons rfl sub_nil) (by decide) pick_nil
      · refine zg_out fun w4 => ?_
        show TX E K7 _
        refine tx_k' hK7 ?_
        refine cx_seq' fun K13 hK13 => ?_
        refine cx_region' ?_
        refine sx_rd' (rd_move' rfl) rfl rfl (wt_none' rfl) ?_
        refine sx_rd' (rd_assign' rfl) rfl rfl (wt_none' rfl) ?_
        refine sx_nil' ?_
        show TX E K13 _
        refine tx_k' hK13 ?_
        refine cx_retc' ?_
        replace hp := Option.some.inj hp
        subst hp
        refine tx_pick' (L' := [(2, (Vl (.int .i64 v4)))]) (H' := []) [] (sub_cons rfl sub_nil) (by decide) pick_nil ?_
        exact tx_ret1' Try.results135 rfl () (rv_tmp' rfl) (List.Sublist.refl _)
  · intro K5 hK5
    rcases br_cases hp with ⟨h1, hp⟩ | ⟨h1, hp⟩
    · refine sx_skip' rfl rfl (wt_is' (wt_guard' rfl rfl rfl) (beq_tf h1)) ?_
      refine sx_skip' rfl rfl (wt_is' (wt_guard' rfl rfl rfl) (beq_tf h1)) ?_
      refine sx_rd' (rd_pick_true' rfl h1 rfl) rfl rfl (wt_none' rfl) ?_
      refine sx_nil' ?_
      show TX E K5 _
      exact tx_pick' [0] (sub_cons rfl (sub_cons rfl (sub_cons rfl sub_nil))) (by decide) (pick_cons rfl pick_nil) (hK5 true hp)
    · refine sx_rd' (rd_move' rfl) rfl rfl (wt_is' (wt_guard' rfl rfl rfl) (beq_ff h1)) ?_
      refine sx_rd' (rd_bin' rfl rfl eg_int ru_neq) rfl rfl (wt_is' (wt_guard' rfl rfl rfl) (beq_ff h1)) ?_
      refine sx_rd' (rd_pick_false' rfl h1 rfl) rfl rfl (wt_none' rfl) ?_
      refine sx_nil' ?_
      show TX E K5 _
      exact tx_pick' [0] (sub_cons rfl (sub_cons rfl (sub_cons rfl sub_nil))) (by decide) (pick_cons rfl pick_nil) (hK5 (!decide (a0_1 = 0)) hp)
theorem spec_LayoutOf_simA : ∀ (k : Nat)  (a0_0 : Int) (a0_1 : Int) (a0_2 : Int) (a0_3 : List Nat) (a0_4 : List Int) (a0_5 : List (List Int)) (a0_6 : List T27) (out : Int), spec_LayoutOf k a0_0 a0_1 a0_2 a0_3 a0_4 a0_5 a0_6 = some out → Go.Sx.Fn Try.prog 135 [(Ag [(Vl (.int .i64 a0_0)), (Vl (.int .i64 a0_1)), (Vl (.int .i64 a0_2)), (Sl Kf a0_3), (Sl (Ki .i64) a0_4), (Sl (Kl (Ki .i64)) a0_5), (Sl KT27 a0_6)])] [] (fun w : Unit => (Vl (.int .i64 out))) (fun w => []) := by
  intro k
  induction k with
  | zero => intro a0_0 a0_1 a0_2 a0_3 a0_4 a0_5 a0_6 out hp; cases hp
  | succ k ih => intro a0_0 a0_1 a0_2 a0_3 a0_4 a0_5 a0_6 out hp; exact spec_LayoutOf_b_sim ih a0_0 a0_1 a0_2 a0_3 a0_4 a0_5 a0_6 hp
theorem spec_LayoutOf_sim {k : Nat}  (a0_0 : Int) (a0_1 : Int) (a0_2 : Int) (a0_3 : List Nat) (a0_4 : List Int) (a0_5 : List (List Int)) (a0_6 : List T27) {out : Int} (hp : spec_LayoutOf k a0_0 a0_1 a0_2 a0_3 a0_4 a0_5 a0_6 = some out) : Go.Sx.Fn Try.prog 135 [(Ag [(Vl (.int .i64 a0_0)), (Vl (.int .i64 a0_1)), (Vl (.int .i64 a0_2)), (Sl Kf a0_3), (Sl (Ki .i64) a0_4), (Sl (Kl (Ki .i64)) a0_5), (Sl KT27 a0_6)])] [] (fun w : Unit => (Vl (.int .i64 out))) (fun w => []) := spec_LayoutOf_simA k a0_0 a0_1 a0_2 a0_3 a0_4 a0_5 a0_6 out hp

def spec_Good_j16 (k : Nat) (rec2 : Int → Option (Unit ⊕ Unit)) (x23 : Int) (x22 : Bool) : Option (Unit ⊕ Unit) :=
  br x22
    (some (.inl ()))
    (rec2 (iadd .i64 x23 1))
def spec_Good_j15 (k : Nat) (rec2 : Int → Option (Unit ⊕ Unit)) (x23 : Int) (x21 : Bool) : Option (Unit ⊕ Unit) :=
  spec_Good_j16 k rec2 x23 x21
def spec_Good_l2s (a0_6 : List T27) (recf : Int → Int → Int → (List Nat) → (List Int) → (List (List Int)) → (List T27) → Option (Bool)) (a0_1 : Int) (k : Nat) (rec2 : Int → Option (Unit ⊕ Unit)) (x23 : Int) : Option (Unit ⊕ Unit) :=
  br (decide (x23 < (a0_6.length : Int)))
    ((idx a0_6 x23) >>= fun r24 =>
    (recf r24.f0 r24.f1 r24.f2 r24.f3 r24.f4 r24.f5 r24.f6) >>= fun r27 =>
    br (!r27)
      (spec_Good_j16 k rec2 x23 true)
      (br (!decide (a0_1 = 0))
        ((spec_LayoutOf k r24.f0 r24.f1 r24.f2 r24.f3 r24.f4 r24.f5 r24.f6) >>= fun r35 =>
        spec_Good_j15 k rec2 x23 (!decide (r35 = a0_1)))
        (spec_Good_j15 k rec2 x23 false)))
    (some (.inr ()))
def spec_Good_l2 (a0_6 : List T27) (recf : Int → Int → Int → (List Nat) → (List Int) → (List (List Int)) → (List T27) → Option (Bool)) (a0_1 : Int) : Nat → Int → Option (Unit ⊕ Unit)
  | 0, _ => none
  | k + 1, v => spec_Good_l2s a0_6 recf a0_1 k (spec_Good_l2 a0_6 recf a0_1 k) v
def spec_Good_j1 (k : Nat) (x1 : Bool) : Option (Bool) :=
  some x1
def spec_Good_j6 (k : Nat) (x6 : Bool) : Option (Bool) :=
  some x6
def spec_Good_j9 (k : Nat) (x9 : Bool) : Option (Bool) :=
  some x9
def spec_Good_j10 (k : Nat) (rec1 : (Int × Bool × Int) → Option (Int × Bool)) (r143 : Int × Bool) (x12 : Int) (x13 : Bool) : Option (Int × Bool) :=
  rec1 (r143.1, x13, (iadd .i64 x12 1))
def spec_Good_l1s (a0_5 : List (List Int)) (r15 : Int) (k : Nat) (rec1 : (Int × Bool × Int) → Option (Int × Bool)) (x10 : Int) (x11 : Bool) (x12 : Int) : Option (Int × Bool) :=
  br (decide (x12 < (a0_5.length : Int)))
    ((idx a0_5 x12) >>= fun r137 =>
    (spec_goodEnds k r137 x10 r15 false) >>= fun r143 =>
    br x11
      (spec_Good_j10 k rec1 r143 x12 r143.2)
      (spec_Good_j10 k rec1 r143 x12 false))
    (some (x10, x11))
def spec_Good_l1 (a0_5 : List (List Int)) (r15 : Int) : Nat → (Int × Bool × Int) → Option (Int × Bool)
  | 0, _ => none
  | k + 1, v => spec_Good_l1s a0_5 r15 k (spec_Good_l1 a0_5 r15 k) v.1 v.2.1 v.2.2
def spec_Good_j12 (k : Nat) (x17 : Bool) : Option (Bool) :=
  some x17
def spec_Good_j11 (k : Nat) (a0_4 : List Int) (x16 : Bool) : Option (Bool) :=
  br x16
    (spec_Good_j12 k (decide ((a0_4.length : Int) = 0)))
    (spec_Good_j12 k false)
def spec_Good_j8 (k : Nat) (a0_4 : List Int) (r15 : Int) (a0_0 : Int) (a0_3 : List Nat) (a0_5 : List (List Int)) (x8 : Bool) : Option (Bool) :=
  br x8
    ((spec_goodEnds k a0_4 0 r15 (decide (a0_0 = 4))) >>= fun r119 =>
    br r119.2
      (spec_Good_j9 k (decide (r119.1 = (a0_3.length : Int))))
      (spec_Good_j9 k false))
    (br (decide (a0_0 = 6))
      ((spec_Good_l1 a0_5 r15 k (0, true, 0)) >>= fun v12 =>
      br v12.2
        (spec_Good_j11 k a0_4 (decide (v12.1 = (a0_3.length : Int))))
        (spec_Good_j11 k a0_4 false))
      (some false))
def spec_Good_j7 (k : Nat) (a0_4 : List Int) (a0_0 : Int) (r15 : Int) (a0_3 : List Nat) (a0_5 : List (List Int)) (x7 : Bool) : Option (Bool) :=
  br x7
    (some (decide ((a0_4.length : Int) = 0)))
    (br (decide (a0_0 = 3))
      (spec_Good_j8 k a0_4 r15 a0_0 a0_3 a0_5 (decide (a0_0 = 3)))
      (br (decide (a0_0 = 4))
        (spec_Good_j8 k a0_4 r15 a0_0 a0_3 a0_5 (decide (a0_0 = 4)))
        (spec_Good_j8 k a0_4 r15 a0_0 a0_3 a0_5 (decide (a0_0 = 5)))))
def spec_Good_j5 (k : Nat) (a0_0 : Int) (a0_4 : List Int) (a0_3 : List Nat) (r15 : Int) (a0_5 : List (List Int)) (x5 : Bool) : Option (Bool) :=
  br x5
    (some false)
    (br (decide (a0_0 = 1))
      (br (decide ((a0_4.length : Int) = 0))
        (spec_Good_j6 k (decide ((a0_3.length : Int) ≤ r15)))
        (spec_Good_j6 k false))
      (br (decide (a0_0 = 2))
        (spec_Good_j7 k a0_4 a0_0 r15 a0_3 a0_5 (decide (a0_0 = 2)))
        (spec_Good_j7 k a0_4 a0_0 r15 a0_3 a0_5 (decide (a0_0 = 8)))))
def spec_Good_j4 (k : Nat) (a0_0 : Int) (a0_4 : List Int) (a0_3 : List Nat) (r15 : Int) (a0_5 : List (List Int)) (x4 : Bool) : Option (Bool) :=
  spec_Good_j5 k a0_0 a0_4 a0_3 r15 a0_5 x4
def spec_Good_j3 (k : Nat) (a0_0 : Int) (a0_4 : List Int) (a0_3 : List Nat) (r15 : Int) (a0_5 : List (List Int)) (x3 : Bool) : Option (Bool) :=
  br x3
    (spec_Good_j5 k a0_0 a0_4 a0_3 r15 a0_5 true)
    (br (decide (0 < (a0_5.length : Int)))
      (spec_Good_j4 k a0_0 a0_4 a0_3 r15 a0_5 (!decide (a0_0 = 6)))
      (spec_Good_j4 k a0_0 a0_4 a0_3 r15 a0_5 false))
def spec_Good_j2 (k : Nat) (a0_0 : Int) (a0_4 : List Int) (a0_3 : List Nat) (r15 : Int) (a0_5 : List (List Int)) (a0_6 : List T27) (x2 : Bool) : Option (Bool) :=
  br x2
    (spec_Good_j3 k a0_0 a0_4 a0_3 r15 a0_5 true)
    (spec_Good_j3 k a0_0 a0_4 a0_3 r15 a0_5 (decide (0 < (a0_6.length : Int))))
def spec_Good_b (recf : Int → Int → Int → (List Nat) → (List Int) → (List (List Int)) → (List T27) → Option (Bool)) (k : Nat) (a0_0 : Int) (a0_1 : Int) (a0_2 : Int) (a0_3 : List Nat) (a0_4 : List Int) (a0_5 : List (List Int)) (a0_6 : List T27) : Option (Bool) :=
  (spec_Stride k a0_1) >>= fun r15 =>
  br (decide (a0_0 = 7))
    ((spec_Good_l2 a0_6 recf a0_1 k 0) >>= fun y2 => match y2 with
      | (.inl v21) =>
        (some false)
      | (.inr v22) =>
        (br (decide (0 ≤ a0_1))
          (spec_Good_j1 k (decide ((iadd .i64 (iadd .i64 (a0_3.length : Int) (a0_4.length : Int)) (a0_5.length : Int)) = 0)))
          (spec_Good_j1 k false)))
    (br (decide (r15 = 0))
      (spec_Good_j2 k a0_0 a0_4 a0_3 r15 a0_5 a0_6 true)
      ((irem (a0_3.length : Int) r15) >>= fun r66 =>
      spec_Good_j2 k a0_0 a0_4 a0_3 r15 a0_5 a0_6 (!decide (r66 = 0))))
def spec_Good : Nat → Int → Int → Int → (List Nat) → (List Int) → (List (List Int)) → (List T27) → Option (Bool)
  | 0 => fun _ _ _ _ _ _ _ => none
  | k + 1 => fun a0_0 a0_1 a0_2 a0_3 a0_4 a0_5 a0_6 => spec_Good_b (spec_Good k) k a0_0 a0_1 a0_2 a0_3 a0_4 a0_5 a0_6

theorem spec_Good_b_sim {recf : Int → Int → Int → (List Nat) → (List Int) → (List (List Int)) → (List T27) → Option (Bool)} (hrec : ∀  (a0_0 : Int) (a0_1 : Int) (a0_2 : Int) (a0_3 : List Nat) (a0_4 : List Int) (a0_5 : List (List Int)) (a0_6 : List T27) (out : Bool), recf a0_0 a0_1 a0_2 a0_3 a0_4 a0_5 a0_6 = some out → Go.Sx.Fn Try.prog 106 [(Ag [(Vl (.int .i64 a0_0)), (Vl (.int .i64 a0_1)), (Vl (.int .i64 a0_2)), (Sl Kf a0_3), (Sl (Ki .i64) a0_4), (Sl (Kl (Ki .i64)) a0_5), (Sl KT27 a0_6)])] [] (fun w : Unit => (Vl (.bool out))) (fun w => [])) {k : Nat}  (a0_0 : Int) (a0_1 : Int) (a0_2 : Int) (a0_3 : List Nat) (a0_4 : List Int) (a0_5 : List (List Int)) (a0_6 : List T27) {out : Bool} (hp : spec_Good_b recf k a0_0 a0_1 a0_2 a0_3 a0_4 a0_5 a0_6 = some out) : Go.Sx.Fn Try.prog 106 [(Ag [(Vl (.int .i64 a0_0)), (Vl (.int .i64 a0_1)), (Vl (.int .i64 a0_2)), (Sl Kf a0_3), (Sl (Ki .i64) a0_4), (Sl (Kl (Ki .i64)) a0_5), (Sl KT27 a0_6)])] [] (fun w : Unit => (Vl (.bool out))) (fun w => []) := by
  unfold spec_Good_b at hp
  refine fn_of Try.func106 rfl Try.ntmps106 rfl fun E hM => ?_
  refine cx_seq' fun K1 hK1 => ?_
  refine cx_region' ?_
  refine sx_ox' (ox_box' rfl (lv_ag _) rfl rfl) (wt_none' rfl) fun q1 => ?_
  refine sx_rd' (rd_assign' rfl) rfl rfl (wt_none' rfl) ?_
  refine sx_nil' ?_
  show TX E K1 _
  refine tx_k' hK1 ?_
  refine cx_seq' fun K2 hK2 => ?_
  refine cx_region' ?_
  refine sx_rd' (rd_field' (off := 1) rfl Try.underlying27 rfl info3 rfl) rfl rfl (wt_none' rfl) ?_
  refine sx_rd' (rd_load' (i := 0) (o := 1) rfl ⟨rfl, rfl, rfl, rfl⟩ rfl flat3) rfl rfl (wt_none' rfl) ?_
  obtain ⟨r15, hr15, hp⟩ := bind_some hp
  refine sx_ox' (ox_calln' (ent_fn' Try.func17 isn17 rfl rfl) (spec_Stride_sim _ hr15 : Go.Sx.Fn Try.prog 17 [(Vl (.int .i64 a0_1))] [] (fun x : Unit => (Vl (.int .i64 r15))) (fun x => [])) (Hn := fun x : Unit => [⟨.pointer (some q1), [(Vl (.int .i64 a0_0)), (Vl (.int .i64 a0_1)), (Vl (.int .i64 a0_2)), (Sl Kf a0_3), (Sl (Ki .i64) a0_4), (Sl (Kl (Ki .i64)) a0_5), (Sl KT27 a0_6)], 27, none⟩]) (fun _ => rfl) rfl rfl) (wt_none' rfl) fun ⟨⟩ => ?_
  refine sx_rd' (rd_assign' rfl) rfl rfl (wt_none' rfl) ?_
  refine sx_nil' ?_
  show TX E K2 _
  refine tx_k' hK2 ?_
  refine cx_seq' fun K3 hK3 => ?_
  refine cx_seq' fun K4 hK4 => ?_
  refine cx_region' ?_
  refine sx_rd' (rd_field0' rfl Try.underlying27 rfl info3 rfl) rfl rfl (wt_none' rfl) ?_
  refine sx_rd' (rd_load' (i := 0) (o := 0) rfl ⟨rfl, rfl, rfl, rfl⟩ rfl flat3) rfl rfl (wt_none' rfl) ?_
  refine sx_rd' (rd_bin' rfl rfl eg_int ru_eql) rfl rfl (wt_none' rfl) ?_
  refine sx_nil' ?_
  show TX E K4 _
  refine tx_k' hK4 ?_
  refine cx_cond' rfl (fun h1 => ?_) (fun h1 => ?_)
  · replace hp := (br_t h1).symm.trans hp
    refine cx_seq' fun K5 hK5 => ?_
    refine cx_seq' fun K6 hK6 => ?_
    refine cx_region' ?_
    refine sx_rd' (rd_field' (off := 6) rfl Try.underlying27 rfl info25 rfl) rfl rfl (wt_none' rfl) ?_
    refine sx_rd' (rd_load' (i := 0) (o := 6) rfl ⟨rfl, rfl, rfl, rfl⟩ rfl flat25) rfl rfl (wt_none' rfl) ?_
    refine sx_rd' (rd_len' rfl Try.underlying25) rfl rfl (wt_none' rfl) ?_
    refine sx_rd' (rd_move' rfl) rfl rfl (wt_none' rfl) ?_
    refine sx_nil' ?_
    show TX E K6 _
    refine tx_k' hK6 ?_
    refine cx_block' ?_
    obtain ⟨y2, hy2, hp⟩ := bind_some hp
    refine cx_loopg' (F := spec_Good_l2 a0_6 recf a0_1) (G := fun k R v => spec_Good_l2s a0_6 recf a0_1 k R v) (x := 0) (gh := ()) (fun (v18 : Int) (w18 : Unit) => (⟨165, [], [(1, (Vl (.pointer (some q1)))), (20, (Sl KT27 a0_6)), (21, (Vl (.int .i64 (a0_6.length : Int)))), (22, (Vl (.int .i64 v18)))], [⟨.pointer (some q1), [(Vl (.int .i64 a0_0)), (Vl (.int .i64 a0_1)), (Vl (.int .i64 a0_2)), (Sl Kf a0_3), (Sl (Ki .i64) a0_4), (Sl (Kl (Ki .i64)) a0_5), (Sl KT27 a0_6)], 27, none⟩]⟩ : St)) (fun (y : Unit ⊕ Unit) => match y with | (.inl v21) => Zg E Exit.ret (fun (w21 : Unit) => (⟨165, [], [(2, (Vl (.bool false)))], []⟩ : St)) | (.inr v22) => Zg E (Exit.exit 0) (fun (w22 : Unit) => (⟨165, [], [(1, (Vl (.pointer (some q1))))], [⟨.pointer (some q1), [(Vl (.int .i64 a0_0)), (Vl (.int .i64 a0_1)), (Vl (.int .i64 a0_2)), (Sl Kf a0_3), (Sl (Ki .i64) a0_4), (Sl (Kl (Ki .i64)) a0_5), (Sl KT27 a0_6)], 27, none⟩]⟩ : St))) (fun _ => rfl) (fun _ _ => rfl) ?_ hy2 (tx_to' rfl [0] (sub_cons rfl (sub_cons rfl (sub_cons rfl (sub_cons rfl sub_nil)))) (by decide) (pick_cons rfl pick_nil)) ?_
    · clear hp hy2
      clear y2
      intro k rec2 KY2 ih2
      rintro x23 ⟨⟩ y2 hp
      replace hp : spec_Good_l2s a0_6 recf a0_1 k rec2 x23 = some y2 := hp
      unfold spec_Good_l2s at hp
      refine cx_seq' fun K59 hK59 => ?_
      refine cx_region' ?_
      refine sx_rd' (rd_bin' rfl rfl eg_int ru_lss) rfl rfl (wt_none' rfl) ?_
      refine sx_nil' ?_
      show TX E K59 _
      refine tx_k' hK59 ?_
      refine cx_seq' fun K60 hK60 => ?_
      refine cx_cond' rfl (fun h28 => ?_) (fun h28 => ?_)
      · replace hp := (br_t h28).symm.trans hp
        refine cx_skip' ?_
        show TX E K60 _
        refine tx_k' hK60 ?_
        refine cx_seq' fun K61 hK61 => ?_
        refine cx_block' ?_
        refine cx_seq' fun K62 hK62 => ?_
        refine cx_region' ?_
        obtain ⟨r24, hr24, hp⟩ := bind_some hp
        refine sx_rd' (rd_eq' (congrArg Pt (KT27_enc r24)) (rd_at' (K := KT27) rfl rfl hr24 Try.underlying25 info27)) rfl rfl (wt_none' rfl) ?_
        refine sx_rd' (rd_load_pt_agg' (nn := 7) rfl rfl agg27 (l' := [(Vl (.int .i64 r24.f0)), (Vl (.int .i64 r24.f1)), (Vl (.int .i64 r24.f2)), (Sl Kf r24.f3), (Sl (Ki .i64) r24.f4), (Sl (Kl (Ki .i64)) r24.f5), (Sl KT27 r24.f6)]) rfl) rfl rfl (wt_none' rfl) ?_
        refine sx_ox' (ox_alloc' info27 rfl rfl rfl rfl (l := [(Vl (.int .i64 0)), (Vl (.int .i64 0)), (Vl (.int .i64 0)), (Vl (.slice none 0 0)), (Vl (.slice none 0 0)), (Vl (.slice none 0 0)), (Vl (.slice none 0 0))]) rfl) (wt_none' rfl) fun q5 => ?_
        refine sx_ox' (ox_store' (i := 0) (o := 0) rfl rfl (lv_ag _) ⟨rfl, rfl, rfl, rfl⟩ rfl info27 rfl (H' := [⟨.pointer (some q5), [(Vl (.int .i64 r24.f0)), (Vl (.int .i64 r24.f1)), (Vl (.int .i64 r24.f2)), (Sl Kf r24.f3), (Sl (Ki .i64) r24.f4), (Sl (Kl (Ki .i64)) r24.f5), (Sl KT27 r24.f6)], 27, none⟩, ⟨.pointer (some q1), [(Vl (.int .i64 a0_0)), (Vl (.int .i64 a0_1)), (Vl (.int .i64 a0_2)), (Sl Kf a0_3), (Sl (Ki .i64) a0_4), (Sl (Kl (Ki .i64)) a0_5), (Sl KT27 a0_6)], 27, none⟩]) rfl) (wt_none' rfl) fun _ => ?_
        refine sx_nil' ?_
        show TX E K62 _
        refine tx_k' hK62 ?_
        refine cx_seq' fun K63 hK63 => ?_
        refine cx_plan' [] [] [(0, 1), (1, 0), (2, 1), (3, 1), (4, 1), (5, 1), (6, 1), (7, 1), (8, 1), (10, 1), (11, 1), (9, 0), (12, 1), (13, 1), (14, 1)] mixed (by kernel_rfl) ?_
        refine px_rd' rfl (rd_load_agg' (i := 0) (o := 0) (nn := 7) rfl ⟨rfl, rfl, rfl, rfl⟩ rfl agg27 (l' := [(Vl (.int .i64 r24.f0)), (Vl (.int .i64 r24.f1)), (Vl (.int .i64 r24.f2)), (Sl Kf r24.f3), (Sl (Ki .i64) r24.f4), (Sl (Kl (Ki .i64)) r24.f5), (Sl KT27 r24.f6)]) rfl) rfl rfl (wt_none' rfl) ?_
        obtain ⟨r27, hr27, hp⟩ := bind_some hp
        refine px_ox' rfl (ox_calln' (ent_fn' Try.func106 isn106 rfl rfl) (hrec _ _ _ _ _ _ _ _ hr27 : Go.Sx.Fn Try.prog 106 [(Ag [(Vl (.int .i64 r24.f0)), (Vl (.int .i64 r24.f1)), (Vl (.int .i64 r24.f2)), (Sl Kf r24.f3), (Sl (Ki .i64) r24.f4), (Sl (Kl (Ki .i64)) r24.f5), (Sl KT27 r24.f6)])] [] (fun x : Unit => (Vl (.bool r27))) (fun x => [])) (Hn := fun x : Unit => [⟨.pointer (some q5), [(Vl (.int .i64 r24.f0)), (Vl (.int .i64 r24.f1)), (Vl (.int .i64 r24.f2)), (Sl Kf r24.f3), (Sl (Ki .i64) r24.f4), (Sl (Kl (Ki .i64)) r24.f5), (Sl KT27 r24.f6)], 27, none⟩, ⟨.pointer (some q1), [(Vl (.int .i64 a0_0)), (Vl (.int .i64 a0_1)), (Vl (.int .i64 a0_2)), (Sl Kf a0_3), (Sl (Ki .i64) a0_4), (Sl (Kl (Ki .i64)) a0_5), (Sl KT27 a0_6)], 27, none⟩]) (fun _ => rfl) rfl rfl) rfl bs_nil (wt_none' rfl) fun ⟨⟩ => ?_
        refine px_rd' rfl (rd_un' rfl ru_not) rfl rfl (wt_none' rfl) ?_
        refine px_rd' rfl (rd_move' rfl) rfl rfl (wt_none' rfl) ?_
        refine px_cutn' 11 (fun (v20 : Bool) => (⟨165, [], [(1, (Vl (.pointer (some q1)))), (20, (Sl KT27 a0_6)), (21, (Vl (.int .i64 (a0_6.length : Int)))), (22, (Vl (.int .i64 x23))), (40, (Vl (.bool v20)))], [⟨.pointer (some q1), [(Vl (.int .i64 a0_0)), (Vl (.int .i64 a0_1)), (Vl (.int .i64 a0_2)), (Sl Kf a0_3), (Sl (Ki .i64) a0_4), (Sl (Kl (Ki .i64)) a0_5), (Sl KT27 a0_6)], 27, none⟩]⟩ : St)) (fun (v20 : Bool) => spec_Good_j16 k rec2 x23 v20 = some y2) ?_ ?_
        · rintro x22 hp
          replace hp : spec_Good_j16 k rec2 x23 x22 = some y2 := hp
          unfold spec_Good_j16 at hp
          refine px_nil' ?_
          show TX E K63 _
          refine tx_k' hK63 ?_
          refine cx_cond' rfl (fun h31 => ?_) (fun h31 => ?_)
          · replace hp := (br_t h31).symm.trans hp
            refine cx_seq' fun K66 hK66 => ?_
            refine cx_region' ?_
            refine sx_rd' (rd_assign' rfl) rfl rfl (wt_none' rfl) ?_
            refine sx_nil' ?_
            show TX E K66 _
            refine tx_k' hK66 ?_
            refine cx_retc' ?_
            replace hp := Option.some.inj hp
            subst hp
            show TX E (Zg E Exit.ret _ Exit.ret) _
            exact tx_zend' () rfl [] (sub_cons rfl sub_nil) (by decide) pick_nil
          · replace hp := (br_f h31).symm.trans hp
            refine cx_skip' ?_
            show TX E K61 _
            refine tx_k' hK61 ?_
            refine cx_region' ?_
            refine sx_rd' (rd_bin' rfl rfl eg_int ru_add) rfl rfl (wt_none' rfl) ?_
            refine sx_rd' (rd_move' rfl) rfl rfl (wt_none' rfl) ?_
            refine sx_nil' ?_
            show TX E (KY2 _) _
            exact tx_pick' [0] (sub_cons rfl (sub_cons rfl (sub_cons rfl (sub_cons rfl sub_nil)))) (by decide) (pick_cons rfl pick_nil) (ih2 (iadd .i64 x23 1) () _ hp)
        · intro K65 hK65
          rcases br_cases hp with ⟨h29, hp⟩ | ⟨h29, hp⟩
          · refine px_skip' rfl rfl rfl (wt_is' (wt_guard' rfl rfl rfl) (beq_tf h29)) ?_
            refine px_skip' rfl rfl rfl (wt_is' (wt_guard' rfl rfl rfl) (beq_tf h29)) ?_
            refine px_skip' rfl rfl rfl (wt_is' (wt_guard' rfl rfl rfl) (beq_tf h29)) ?_
            refine px_skip' rfl rfl rfl (wt_is' (wt_guard' rfl rfl rfl) (beq_tf h29)) ?_
            refine px_skip' rfl rfl rfl (wt_undef' rfl rfl rfl) ?_
            refine px_skip' rfl rfl rfl (wt_undef' rfl rfl rfl) ?_
            refine px_skip' rfl rfl rfl (wt_undef' rfl rfl rfl) ?_
            refine px_oskip' rfl rfl rfl (wt_undef' rfl rfl rfl) ?_
            refine px_skip' rfl rfl rfl (wt_undef' rfl rfl rfl) ?_
            refine px_skip' rfl rfl rfl (wt_is' (wt_guard' rfl rfl rfl) (beq_tf h29)) ?_
            refine px_rd' rfl (rd_pick_true' rfl h29 rfl) rfl rfl (wt_none' rfl) ?_
            refine px_nil' ?_
            show TX E K65 _
            exact tx_pick' [1] (sub_cons rfl (sub_cons rfl (sub_cons rfl (sub_cons rfl (sub_cons rfl sub_nil))))) (by decide) (pick_cons rfl pick_nil) (hK65 true hp)
          · refine px_rd' rfl (rd_field' (off := 1) rfl Try.underlying27 rfl info3 rfl) rfl rfl (wt_is' (wt_guard' rfl rfl rfl) (beq_ff h29)) ?_
            refine px_rd' rfl (rd_load' (i := 1) (o := 1) rfl ⟨rfl, rfl, rfl, rfl⟩ rfl flat3) rfl rfl (wt_is' (wt_guard' rfl rfl rfl) (beq_ff h29)) ?_
            refine px_rd' rfl (rd_bin' rfl rfl eg_int ru_neq) rfl rfl (wt_is' (wt_guard' rfl rfl rfl) (beq_ff h29)) ?_
            refine px_rd' rfl (rd_move' rfl) rfl rfl (wt_is' (wt_guard' rfl rfl rfl) (beq_ff h29)) ?_
            refine px_cutn' 7 (fun (v19 : Bool) => (⟨165, [], [(1, (Vl (.pointer (some q1)))), (20, (Sl KT27 a0_6)), (21, (Vl (.int .i64 (a0_6.length : Int)))), (22, (Vl (.int .i64 x23))), (40, (Vl (.bool v19)))], [⟨.pointer (some q1), [(Vl (.int .i64 a0_0)), (Vl (.int .i64 a0_1)), (Vl (.int .i64 a0_2)), (Sl Kf a0_3), (Sl (Ki .i64) a0_4), (Sl (Kl (Ki .i64)) a0_5), (Sl KT27 a0_6)], 27, none⟩]⟩ : St)) (fun (v19 : Bool) => spec_Good_j15 k rec2 x23 v19 = some y2) ?_ ?_
            · rintro x21 hp
              replace hp : spec_Good_j15 k rec2 x23 x21 = some y2 := hp
              unfold spec_Good_j15 at hp
              refine px_nil' ?_
              show TX E K65 _
              exact tx_pick' [0] (sub_cons rfl (sub_cons rfl (sub_cons rfl (sub_cons rfl (sub_cons rfl sub_nil))))) (by decide) (pick_cons rfl pick_nil) (hK65 x21 hp)
            · intro K64 hK64
              rcases br_cases hp with ⟨h30, hp⟩ | ⟨h30, hp⟩
              · refine px_rd' rfl (rd_load_agg' (i := 0) (o := 0) (nn := 7) rfl ⟨rfl, rfl, rfl, rfl⟩ rfl agg27 (l' := [(Vl (.int .i64 r24.f0)), (Vl (.int .i64 r24.f1)), (Vl (.int .i64 r24.f2)), (Sl Kf r24.f3), (Sl (Ki .i64) r24.f4), (Sl (Kl (Ki .i64)) r24.f5), (Sl KT27 r24.f6)]) rfl) rfl rfl (wt_is' (wt_guard' rfl rfl rfl) (beq_tt h30)) ?_
                refine px_rd' rfl (rd_field' (off := 1) rfl Try.underlying27 rfl info3 rfl) rfl rfl (wt_is' (wt_guard' rfl rfl rfl) (beq_tt h30)) ?_
                refine px_rd' rfl (rd_load' (i := 1) (o := 1) rfl ⟨rfl, rfl, rfl, rfl⟩ rfl flat3) rfl rfl (wt_is' (wt_guard' rfl rfl rfl) (beq_tt h30)) ?_
                obtain ⟨r35, hr35, hp⟩ := bind_some hp
                refine px_ox' rfl (ox_calln' (ent_fn' Try.func135 isn135 rfl rfl) (spec_LayoutOf_sim _ _ _ _ _ _ _ hr35 : Go.Sx.Fn Try.prog 135 [(Ag [(Vl (.int .i64 r24.f0)), (Vl (.int .i64 r24.f1)), (Vl (.int .i64 r24.f2)), (Sl Kf r24.f3), (Sl (Ki .i64) r24.f4), (Sl (Kl (Ki .i64)) r24.f5), (Sl KT27 r24.f6)])] [] (fun x : Unit => (Vl (.int .i64 r35))) (fun x => [])) (Hn := fun x : Unit => [⟨.pointer (some q5), [(Vl (.int .i64 r24.f0)), (Vl (.int .i64 r24.f1)), (Vl (.int .i64 r24.f2)), (Sl Kf r24.f3), (Sl (Ki .i64) r24.f4), (Sl (Kl (Ki .i64)) r24.f5), (Sl KT27 r24.f6)], 27, none⟩, ⟨.pointer (some q1), [(Vl (.int .i64 a0_0)), (Vl (.int .i64 a0_1)), (Vl (.int .i64 a0_2)), (Sl Kf a0_3), (Sl (Ki .i64) a0_4), (Sl (Kl (Ki .i64)) a0_5), (Sl KT27 a0_6)], 27, none⟩]) (fun _ => rfl) rfl rfl) rfl bs_nil (wt_is' (wt_guard' rfl rfl rfl) (beq_tt h30)) fun ⟨⟩ => ?_
                refine px_rd' rfl (rd_bin' rfl rfl eg_int ru_neq) rfl rfl (wt_is' (wt_guard' rfl rfl rfl) (beq_tt h30)) ?_
                refine px_rd' rfl (rd_pick_true' rfl h30 rfl) rfl rfl (wt_is' (wt_guard' rfl rfl rfl) (beq_ff h29)) ?_
                refine px_rd' rfl (rd_pick_false' rfl h29 rfl) rfl rfl (wt_none' rfl) ?_
                refine px_nil' ?_
                show TX E K64 _
                exact tx_pick' [1] (sub_cons rfl (sub_cons rfl (sub_cons rfl (sub_cons rfl (sub_cons rfl sub_nil))))) (by decide) (pick_cons rfl pick_nil) (hK64 (!decide (r35 = a0_1)) hp)
              · refine px_skip' rfl rfl rfl (wt_is' (wt_guard' rfl rfl rfl) (beq_ft h30)) ?_
                refine px_skip' rfl rfl rfl (wt_is' (wt_guard' rfl rfl rfl) (beq_ft h30)) ?_
                refine px_skip' rfl rfl rfl (wt_is' (wt_guard' rfl rfl rfl) (beq_ft h30)) ?_
                refine px_oskip' rfl rfl rfl (wt_is' (wt_guard' rfl rfl rfl) (beq_ft h30)) ?_
                refine px_skip' rfl rfl rfl (wt_is' (wt_guard' rfl rfl rfl) (beq_ft h30)) ?_
                refine px_rd' rfl (rd_pick_false' rfl h30 rfl) rfl rfl (wt_is' (wt_guard' rfl rfl rfl) (beq_ff h29)) ?_
                refine px_rd' rfl (rd_pick_false' rfl h29 rfl) rfl rfl (wt_none' rfl) ?_
                refine px_nil' ?_
                show TX E K64 _
                exact tx_pick' [1] (sub_cons rfl (sub_cons rfl (sub_cons rfl (sub_cons rfl (sub_cons rfl sub_nil))))) (by decide) (pick_cons rfl pick_nil) (hK64 false hp)
      · replace hp := (br_f h28).symm.trans hp
        refine cx_exit' ?_
        replace hp := Option.some.inj hp
        subst hp
        show TX E (Zg E (Exit.exit 0) _ (Exit.exit 0)) _
        exact tx_zend' () rfl [0] (sub_cons rfl sub_nil) (by decide) (pick_cons rfl pick_nil)
    · rcases y2 with v21 | v22
      · dsimp only at hp
        refine zg_out fun w21 => ?_
        replace hp := Option.some.inj hp
        subst hp
        refine tx_pick' (L' := [(2, (Vl (.bool false)))]) (H' := []) [] (sub_cons rfl sub_nil) (by decide) pick_nil ?_
        exact tx_ret1' Try.results106 rfl () (rv_tmp' rfl) (List.Sublist.refl _)
      · dsimp only at hp
        refine zg_out fun w22 => ?_
        show TX E K5 _
        refine tx_k' hK5 ?_
        refine cx_seq' fun K12 hK12 => ?_
        refine cx_region' ?_
        refine sx_rd' (rd_field' (off := 1) rfl Try.underlying27 rfl info3 rfl) rfl rfl (wt_none' rfl) ?_
        refine sx_rd' (rd_load' (i := 0) (o := 1) rfl ⟨rfl, rfl, rfl, rfl⟩ rfl flat3) rfl rfl (wt_none' rfl) ?_
        refine sx_rd' (rd_bin' rfl rfl eg_int ru_geq) rfl rfl (wt_none' rfl) ?_
        refine sx_rd' (rd_move' rfl) rfl rfl (wt_none' rfl) ?_
        refine sx_cutn' 13 (fun (v1 : Bool) => (⟨165, [], [(58, (Vl (.bool v1)))], []⟩ : St)) (fun (v1 : Bool) => spec_Good_j1 k v1 = some out) ?_ ?_
        · rintro x1 hp
          replace hp : spec_Good_j1 k x1 = some out := hp
          unfold spec_Good_j1 at hp
          refine sx_rd' (rd_assign' rfl) rfl rfl (wt_none' rfl) ?_
          refine sx_nil' ?_
          show TX E K12 _
          refine tx_k' hK12 ?_
          refine cx_retc' ?_
          replace hp := Option.some.inj hp
          subst hp
          refine tx_pick' (L' := [(2, (Vl (.bool x1)))]) (H' := []) [] (sub_cons rfl sub_nil) (by decide) pick_nil ?_
          exact tx_ret1' Try.results106 rfl () (rv_tmp' rfl) (List.Sublist.refl _)
        · intro K13 hK13
          rcases br_cases hp with ⟨h3, hp⟩ | ⟨h3, hp⟩
          · refine sx_rd' (rd_field' (off := 3) rfl Try.underlying27 rfl info22 rfl) rfl rfl (wt_is' (wt_guard' rfl rfl rfl) (beq_tt h3)) ?_
            refine sx_rd' (rd_load' (i := 0) (o := 3) rfl ⟨rfl, rfl, rfl, rfl⟩ rfl flat22) rfl rfl (wt_is' (wt_guard' rfl rfl rfl) (beq_tt h3)) ?_
            refine sx_rd' (rd_len' rfl Try.underlying22) rfl rfl (wt_is' (wt_guard' rfl rfl rfl) (beq_tt h3)) ?_
            refine sx_rd' (rd_field' (off := 4) rfl Try.underlying27 rfl info23 rfl) rfl rfl (wt_is' (wt_guard' rfl rfl rfl) (beq_tt h3)) ?_
            refine sx_rd' (rd_load' (i := 0) (o := 4) rfl ⟨rfl, rfl, rfl, rfl⟩ rfl flat23) rfl rfl (wt_is' (wt_guard' rfl rfl rfl) (beq_tt h3)) ?_
            refine sx_rd' (rd_len' rfl Try.underlying23) rfl rfl (wt_is' (wt_guard' rfl rfl rfl) (beq_tt h3)) ?_
            refine sx_rd' (rd_bin' rfl rfl eg_int ru_add) rfl rfl (wt_is' (wt_guard' rfl rfl rfl) (beq_tt h3)) ?_
            refine sx_rd' (rd_field' (off := 5) rfl Try.underlying27 rfl info24 rfl) rfl rfl (wt_is' (wt_guard' rfl rfl rfl) (beq_tt h3)) ?_
            refine sx_rd' (rd_load' (i := 0) (o := 5) rfl ⟨rfl, rfl, rfl, rfl⟩ rfl flat24) rfl rfl (wt_is' (wt_guard' rfl rfl rfl) (beq_tt h3)) ?_
            refine sx_rd' (rd_len' rfl Try.underlying24) rfl rfl (wt_is' (wt_guard' rfl rfl rfl) (beq_tt h3)) ?_
            refine sx_rd' (rd_bin' rfl rfl eg_int ru_add) rfl rfl (wt_is' (wt_guard' rfl rfl rfl) (beq_tt h3)) ?_
            refine sx_rd' (rd_bin' rfl rfl eg_int ru_eql) rfl rfl (wt_is' (wt_guard' rfl rfl rfl) (beq_tt h3)) ?_
            refine sx_rd' (rd_pick_true' rfl h3 rfl) rfl rfl (wt_none' rfl) ?_
            refine sx_nil' ?_
            show TX E K13 _
            exact tx_pick' [] (sub_cons rfl sub_nil) (by decide) pick_nil (hK13 (decide ((iadd .i64 (iadd .i64 (a0_3.length : Int) (a0_4.length : Int)) (a0_5.length : Int)) = 0)) hp)
          · refine sx_skip' rfl rfl (wt_is' (wt_guard' rfl rfl rfl) (beq_ft h3)) ?_
            refine sx_skip' rfl rfl (wt_is' (wt_guard' rfl rfl rfl) (beq_ft h3)) ?_
            refine sx_skip' rfl rfl (wt_is' (wt_guard' rfl rfl rfl) (beq_ft h3)) ?_
            refine sx_skip' rfl rfl (wt_is' (wt_guard' rfl rfl rfl) (beq_ft h3)) ?_
            refine sx_skip' rfl rfl (wt_is' (wt_guard' rfl rfl rfl) (beq_ft h3)) ?_
            refine sx_skip' rfl rfl (wt_is' (wt_guard' rfl rfl rfl) (beq_ft h3)) ?_
            refine sx_skip' rfl rfl (wt_is' (wt_guard' rfl rfl rfl) (beq_ft h3)) ?_
            refine sx_skip' rfl rfl (wt_is' (wt_guard' rfl rfl rfl) (beq_ft h3)) ?_
            refine sx_skip' rfl rfl (wt_is' (wt_guard' rfl rfl rfl) (beq_ft h3)) ?_
            refine sx_skip' rfl rfl (wt_is' (wt_guard' rfl rfl rfl) (beq_ft h3)) ?_
            refine sx_skip' rfl rfl (wt_is' (wt_guard' rfl rfl rfl) (beq_ft h3)) ?_
            refine sx_skip' rfl rfl (wt_is' (wt_guard' rfl rfl rfl) (beq_ft h3)) ?_
            refine sx_rd' (rd_pick_false' rfl h3 rfl) rfl rfl (wt_none' rfl) ?_
            refine sx_nil' ?_
            show TX E K13 _
            exact tx_pick' [] (sub_cons rfl sub_nil) (by decide) pick_nil (hK13 false hp)
  · replace hp := (br_f h1).symm.trans hp
    refine cx_skip' ?_
    show TX E K3 _
    refine tx_k' hK3 ?_
    refine cx_seq' fun K14 hK14 => ?_
    refine cx_seq' fun K15 hK15 => ?_
    refine cx_region' ?_
    refine sx_rd' (rd_move' rfl) rfl rfl (wt_none' rfl) ?_
    refine sx_rd' (rd_bin' rfl rfl eg_int ru_eql) rfl rfl (wt_none' rfl) ?_
    refine sx_rd' (rd_move' rfl) rfl rfl (wt_none' rfl) ?_
    refine sx_cutn' 7 (fun (v2 : Bool) => (⟨165, [], [(1, (Vl (.pointer (some q1)))), (3, (Vl (.int .i64 r15))), (68, (Vl (.bool v2)))], [⟨.pointer (some q1), [(Vl (.int .i64 a0_0)), (Vl (.int .i64 a0_1)), (Vl (.int .i64 a0_2)), (Sl Kf a0_3), (Sl (Ki .i64) a0_4), (Sl (Kl (Ki .i64)) a0_5), (Sl KT27 a0_6)], 27, none⟩]⟩ : St)) (fun (v2 : Bool) => spec_Good_j2 k a0_0 a0_4 a0_3 r15 a0_5 a0_6 v2 = some out) ?_ ?_
    · rintro x2 hp
      replace hp : spec_Good_j2 k a0_0 a0_4 a0_3 r15 a0_5 a0_6 x2 = some out := hp
      unfold spec_Good_j2 at hp
      refine sx_rd' (rd_move' rfl) rfl rfl (wt_none' rfl) ?_
      refine sx_cutn' 5 (fun (v3 : Bool) => (⟨165, [], [(1, (Vl (.pointer (some q1)))), (3, (Vl (.int .i64 r15))), (74, (Vl (.bool v3)))], [⟨.pointer (some q1), [(Vl (.int .i64 a0_0)), (Vl (.int .i64 a0_1)), (Vl (.int .i64 a0_2)), (Sl Kf a0_3), (Sl (Ki .i64) a0_4), (Sl (Kl (Ki .i64)) a0_5), (Sl KT27 a0_6)], 27, none⟩]⟩ : St)) (fun (v3 : Bool) => spec_Good_j3 k a0_0 a0_4 a0_3 r15 a0_5 v3 = some out) ?_ ?_
      · rintro x3 hp
        replace hp : spec_Good_j3 k a0_0 a0_4 a0_3 r15 a0_5 x3 = some out := hp
        unfold spec_Good_j3 at hp
        refine sx_rd' (rd_move' rfl) rfl rfl (wt_none' rfl) ?_
        refine sx_cutn' 10 (fun (v5 : Bool) => (⟨165, [], [(1, (Vl (.pointer (some q1)))), (3, (Vl (.int .i64 r15))), (85, (Vl (.bool v5)))], [⟨.pointer (some q1), [(Vl (.int .i64 a0_0)), (Vl (.int .i64 a0_1)), (Vl (.int .i64 a0_2)), (Sl Kf a0_3), (Sl (Ki .i64) a0_4), (Sl (Kl (Ki .i64)) a0_5), (Sl KT27 a0_6)], 27, none⟩]⟩ : St)) (fun (v5 : Bool) => spec_Good_j5 k a0_0 a0_4 a0_3 r15 a0_5 v5 = some out) ?_ ?_
        · rintro x5 hp
          replace hp : spec_Good_j5 k a0_0 a0_4 a0_3 r15 a0_5 x5 = some out := hp
          unfold spec_Good_j5 at hp
          refine sx_nil' ?_
          show TX E K15 _
          refine tx_k' hK15 ?_
          refine cx_cond' rfl (fun h8 => ?_) (fun h8 => ?_)
          · replace hp := (br_t h8).symm.trans hp
            refine cx_seq' fun K20 hK20 => ?_
            refine cx_region' ?_
            refine sx_rd' (rd_assign' rfl) rfl rfl (wt_none' rfl) ?_
            refine sx_nil' ?_
            show TX E K20 _
            refine tx_k' hK20 ?_
            refine cx_retc' ?_
            replace hp := Option.some.inj hp
            subst hp
            refine tx_pick' (L' := [(2, (Vl (.bool false)))]) (H' := []) [] (sub_cons rfl sub_nil) (by decide) pick_nil ?_
            exact tx_ret1' Try.results106 rfl () (rv_tmp' rfl) (List.Sublist.refl _)
          · replace hp := (br_f h8).symm.trans hp
            refine cx_skip' ?_
            show TX E K14 _
            refine tx_k' hK14 ?_
            refine cx_seq' fun K21 hK21 => ?_
            refine cx_seq' fun K22 hK22 => ?_
            refine cx_region' ?_
            refine sx_rd' (rd_field0' rfl Try.underlying27 rfl info3 rfl) rfl rfl (wt_none' rfl) ?_
            refine sx_rd' (rd_load' (i := 0) (o := 0) rfl ⟨rfl, rfl, rfl, rfl⟩ rfl flat3) rfl rfl (wt_none' rfl) ?_
            refine sx_nil' ?_
            show TX E K22 _
            refine tx_k' hK22 ?_
            refine cx_block' ?_
            refine cx_seq' fun K23 hK23 => ?_
            refine cx_region' ?_
            refine sx_rd' (rd_bin' rfl rfl eg_int ru_eql) rfl rfl (wt_none' rfl) ?_
            refine sx_rd' (rd_assign' rfl) rfl rfl (wt_none' rfl) ?_
            refine sx_nil' ?_
            show TX E K23 _
            refine tx_k' hK23 ?_
            refine cx_cond' rfl (fun h9 => ?_) (fun h9 => ?_)
            · replace hp := (br_t h9).symm.trans hp
              refine cx_seq' fun K24 hK24 => ?_
              refine cx_region' ?_
              refine sx_rd' (rd_field' (off := 4) rfl Try.underlying27 rfl info23 rfl) rfl rfl (wt_none' rfl) ?_
              refine sx_rd' (rd_load' (i := 0) (o := 4) rfl ⟨rfl, rfl, rfl, rfl⟩ rfl flat23) rfl rfl (wt_none' rfl) ?_
              refine sx_rd' (rd_len' rfl Try.underlying23) rfl rfl (wt_none' rfl) ?_
              refine sx_rd' (rd_bin' rfl rfl eg_int ru_eql) rfl rfl (wt_none' rfl) ?_
              refine sx_rd' (rd_move' rfl) rfl rfl (wt_none' rfl) ?_
              refine sx_cutn' 6 (fun (v6 : Bool) => (⟨165, [], [(100, (Vl (.bool v6)))], []⟩ : St)) (fun (v6 : Bool) => spec_Good_j6 k v6 = some out) ?_ ?_
              · rintro x6 hp
                replace hp : spec_Good_j6 k x6 = some out := hp
                unfold spec_Good_j6 at hp
                refine sx_rd' (rd_assign' rfl) rfl rfl (wt_none' rfl) ?_
                refine sx_nil' ?_
                show TX E K24 _
                refine tx_k' hK24 ?_
                refine cx_retc' ?_
                replace hp := Option.some.inj hp
                subst hp
                refine tx_pick' (L' := [(2, (Vl (.bool x6)))]) (H' := []) [] (sub_cons rfl sub_nil) (by decide) pick_nil ?_
                exact tx_ret1' Try.results106 rfl () (rv_tmp' rfl) (List.Sublist.refl _)
              · intro K25 hK25
                rcases br_cases hp with ⟨h10, hp⟩ | ⟨h10, hp⟩
                · refine sx_rd' (rd_field' (off := 3) rfl Try.underlying27 rfl info22 rfl) rfl rfl (wt_is' (wt_guard' rfl rfl rfl) (beq_tt h10)) ?_
                  refine sx_rd' (rd_load' (i := 0) (o := 3) rfl ⟨rfl, rfl, rfl, rfl⟩ rfl flat22) rfl rfl (wt_is' (wt_guard' rfl rfl rfl) (beq_tt h10)) ?_
                  refine sx_rd' (rd_len' rfl Try.underlying22) rfl rfl (wt_is' (wt_guard' rfl rfl rfl) (beq_tt h10)) ?_
                  refine sx_rd' (rd_move' rfl) rfl rfl (wt_is' (wt_guard' rfl rfl rfl) (beq_tt h10)) ?_
                  refine sx_rd' (rd_bin' rfl rfl eg_int ru_leq) rfl rfl (wt_is' (wt_guard' rfl rfl rfl) (beq_tt h10)) ?_
                  refine sx_rd' (rd_pick_true' rfl h10 rfl) rfl rfl (wt_none' rfl) ?_
                  refine sx_nil' ?_
                  show TX E K25 _
                  exact tx_pick' [] (sub_cons rfl sub_nil) (by decide) pick_nil (hK25 (decide ((a0_3.length : Int) ≤ r15)) hp)
                · refine sx_skip' rfl rfl (wt_is' (wt_guard' rfl rfl rfl) (beq_ft h10)) ?_
                  refine sx_skip' rfl rfl (wt_is' (wt_guard' rfl rfl rfl) (beq_ft h10)) ?_
                  refine sx_skip' rfl rfl (wt_is' (wt_guard' rfl rfl rfl) (beq_ft h10)) ?_
                  refine sx_skip' rfl rfl (wt_is' (wt_guard' rfl rfl rfl) (beq_ft h10)) ?_
                  refine sx_skip' rfl rfl (wt_is' (wt_guard' rfl rfl rfl) (beq_ft h10)) ?_
                  refine sx_rd' (rd_pick_false' rfl h10 rfl) rfl rfl (wt_none' rfl) ?_
                  refine sx_nil' ?_
                  show TX E K25 _
                  exact tx_pick' [] (sub_cons rfl sub_nil) (by decide) pick_nil (hK25 false hp)
            · replace hp := (br_f h9).symm.trans hp
              refine cx_join' (fun (v7 : Bool) => (⟨165, [], [(1, (Vl (.pointer (some q1)))), (3, (Vl (.int .i64 r15))), (87, (Vl (.int .i64 a0_0))), (101, (Vl (.bool v7)))], [⟨.pointer (some q1), [(Vl (.int .i64 a0_0)), (Vl (.int .i64 a0_1)), (Vl (.int .i64 a0_2)), (Sl Kf a0_3), (Sl (Ki .i64) a0_4), (Sl (Kl (Ki .i64)) a0_5), (Sl KT27 a0_6)], 27, none⟩]⟩ : St)) (fun (v7 : Bool) => spec_Good_j7 k a0_4 a0_0 r15 a0_3 a0_5 v7 = some out) ?_ ?_
              · rintro x7 hp
                replace hp : spec_Good_j7 k a0_4 a0_0 r15 a0_3 a0_5 x7 = some out := hp
                unfold spec_Good_j7 at hp
                refine cx_cond' rfl (fun h12 => ?_) (fun h12 => ?_)
                · replace hp := (br_t h12).symm.trans hp
                  refine cx_seq' fun K28 hK28 => ?_
                  refine cx_region' ?_
                  refine sx_rd' (rd_field' (off := 4) rfl Try.underlying27 rfl info23 rfl) rfl rfl (wt_none' rfl) ?_
                  refine sx_rd' (rd_load' (i := 0) (o := 4) rfl ⟨rfl, rfl, rfl, rfl⟩ rfl flat23) rfl rfl (wt_none' rfl) ?_
                  refine sx_rd' (rd_len' rfl Try.underlying23) rfl rfl (wt_none' rfl) ?_
                  refine sx_rd' (rd_bin' rfl rfl eg_int ru_eql) rfl rfl (wt_none' rfl) ?_
                  refine sx_rd' (rd_assign' rfl) rfl rfl (wt_none' rfl) ?_
                  refine sx_nil' ?_
                  show TX E K28 _
                  refine tx_k' hK28 ?_
                  refine cx_retc' ?_
                  replace hp := Option.some.inj hp
                  subst hp
                  refine tx_pick' (L' := [(2, (Vl (.bool (decide ((a0_4.length : Int) = 0)))))]) (H' := []) [] (sub_cons rfl sub_nil) (by decide) pick_nil ?_
                  exact tx_ret1' Try.results106 rfl () (rv_tmp' rfl) (List.Sublist.refl _)
                · replace hp := (br_f h12).symm.trans hp
                  refine cx_join' (fun (v8 : Bool) => (⟨165, [], [(1, (Vl (.pointer (some q1)))), (3, (Vl (.int .i64 r15))), (87, (Vl (.int .i64 a0_0))), (108, (Vl (.bool v8)))], [⟨.pointer (some q1), [(Vl (.int .i64 a0_0)), (Vl (.int .i64 a0_1)), (Vl (.int .i64 a0_2)), (Sl Kf a0_3), (Sl (Ki .i64) a0_4), (Sl (Kl (Ki .i64)) a0_5), (Sl KT27 a0_6)], 27, none⟩]⟩ : St)) (fun (v8 : Bool) => spec_Good_j8 k a0_4 r15 a0_0 a0_3 a0_5 v8 = some out) ?_ ?_
                  · rintro x8 hp
                    replace hp : spec_Good_j8 k a0_4 r15 a0_0 a0_3 a0_5 x8 = some out := hp
                    unfold spec_Good_j8 at hp
                    refine cx_cond' rfl (fun h15 => ?_) (fun h15 => ?_)
                    · replace hp := (br_t h15).symm.trans hp
                      refine cx_seq' fun K32 hK32 => ?_
                      refine cx_region' ?_
                      refine sx_rd' (rd_field' (off := 4) rfl Try.underlying27 rfl info23 rfl) rfl rfl (wt_none' rfl) ?_
                      refine sx_rd' (rd_load' (i := 0) (o := 4) rfl ⟨rfl, rfl, rfl, rfl⟩ rfl flat23) rfl rfl (wt_none' rfl) ?_
                      refine sx_rd' (rd_move' rfl) rfl rfl (wt_none' rfl) ?_
                      refine sx_rd' (rd_field0' rfl Try.underlying27 rfl info3 rfl) rfl rfl (wt_none' rfl) ?_
                      refine sx_rd' (rd_load' (i := 0) (o := 0) rfl ⟨rfl, rfl, rfl, rfl⟩ rfl flat3) rfl rfl (wt_none' rfl) ?_
                      refine sx_rd' (rd_bin' rfl rfl eg_int ru_eql) rfl rfl (wt_none' rfl) ?_
                      obtain ⟨r119, hr119, hp⟩ := bind_some hp
                      refine sx_ox' (ox_calln' (ent_fn' Try.func136 isn136 rfl rfl) (spec_goodEnds_sim _ _ _ _ hr119 : Go.Sx.Fn Try.prog 136 [(Sl (Ki .i64) a0_4), (Vl (.int .i64 0)), (Vl (.int .i64 r15)), (Vl (.bool (decide (a0_0 = 4))))] [] (fun x : Unit => (Tu [(Vl (.int .i64 r119.1)), (Vl (.bool r119.2))])) (fun x => [])) (Hn := fun x : Unit => [⟨.pointer (some q1), [(Vl (.int .i64 a0_0)), (Vl (.int .i64 a0_1)), (Vl (.int .i64 a0_2)), (Sl Kf a0_3), (Sl (Ki .i64) a0_4), (Sl (Kl (Ki .i64)) a0_5), (Sl KT27 a0_6)], 27, none⟩]) (fun _ => rfl) rfl rfl) (wt_none' rfl) fun ⟨⟩ => ?_
                      refine sx_rd' (rd_move' rfl) rfl rfl (wt_none' rfl) ?_
                      refine sx_rd' (rd_extract' rfl rfl) rfl rfl (wt_none' rfl) ?_
                      refine sx_rd' (rd_extract' rfl rfl) rfl rfl (wt_none' rfl) ?_
                      refine sx_rd' (rd_assign' rfl) rfl rfl (wt_none' rfl) ?_
                      refine sx_rd' (rd_assign' rfl) rfl rfl (wt_none' rfl) ?_
                      refine sx_nil' ?_
                      show TX E K32 _
                      refine tx_k' hK32 ?_
                      refine cx_seq' fun K33 hK33 => ?_
                      refine cx_region' ?_
                      refine sx_rd' (rd_move' rfl) rfl rfl (wt_none' rfl) ?_
                      refine sx_rd' (rd_move' rfl) rfl rfl (wt_none' rfl) ?_
                      refine sx_cutn' 6 (fun (v9 : Bool) => (⟨165, [], [(129, (Vl (.bool v9)))], []⟩ : St)) (fun (v9 : Bool) => spec_Good_j9 k v9 = some out) ?_ ?_
                      · rintro x9 hp
                        replace hp : spec_Good_j9 k x9 = some out := hp
                        unfold spec_Good_j9 at hp
                        refine sx_rd' (rd_assign' rfl) rfl rfl (wt_none' rfl) ?_
                        refine sx_nil' ?_
                        show TX E K33 _
                        refine tx_k' hK33 ?_
                        refine cx_retc' ?_
                        replace hp := Option.some.inj hp
                        subst hp
                        refine tx_pick' (L' := [(2, (Vl (.bool x9)))]) (H' := []) [] (sub_cons rfl sub_nil) (by decide) pick_nil ?_
                        exact tx_ret1' Try.results106 rfl () (rv_tmp' rfl) (List.Sublist.refl _)
                      · intro K34 hK34
                        rcases br_cases hp with ⟨h16, hp⟩ | ⟨h16, hp⟩
                        · refine sx_rd' (rd_move' rfl) rfl rfl (wt_is' (wt_guard' rfl rfl rfl) (beq_tt h16)) ?_
                          refine sx_rd' (rd_field' (off := 3) rfl Try.underlying27 rfl info22 rfl) rfl rfl (wt_is' (wt_guard' rfl rfl rfl) (beq_tt h16)) ?_
                          refine sx_rd' (rd_load' (i := 0) (o := 3) rfl ⟨rfl, rfl, rfl, rfl⟩ rfl flat22) rfl rfl (wt_is' (wt_guard' rfl rfl rfl) (beq_tt h16)) ?_
                          refine sx_rd' (rd_len' rfl Try.underlying22) rfl rfl (wt_is' (wt_guard' rfl rfl rfl) (beq_tt h16)) ?_
                          refine sx_rd' (rd_bin' rfl rfl eg_int ru_eql) rfl rfl (wt_is' (wt_guard' rfl rfl rfl) (beq_tt h16)) ?_
                          refine sx_rd' (rd_pick_true' rfl h16 rfl) rfl rfl (wt_none' rfl) ?_
                          refine sx_nil' ?_
                          show TX E K34 _
                          exact tx_pick' [] (sub_cons rfl sub_nil) (by decide) pick_nil (hK34 (decide (r119.1 = (a0_3.length : Int))) hp)
                        · refine sx_skip' rfl rfl (wt_is' (wt_guard' rfl rfl rfl) (beq_ft h16)) ?_
                          refine sx_skip' rfl rfl (wt_is' (wt_guard' rfl rfl rfl) (beq_ft h16)) ?_
                          refine sx_skip' rfl rfl (wt_is' (wt_guard' rfl rfl rfl) (beq_ft h16)) ?_
                          refine sx_skip' rfl rfl (wt_is' (wt_guard' rfl rfl rfl) (beq_ft h16)) ?_
                          refine sx_skip' rfl rfl (wt_is' (wt_guard' rfl rfl rfl) (beq_ft h16)) ?_
                          refine sx_rd' (rd_pick_false' rfl h16 rfl) rfl rfl (wt_none' rfl) ?_
                          refine sx_nil' ?_
                          show TX E K34 _
                          exact tx_pick' [] (sub_cons rfl sub_nil) (by decide) pick_nil (hK34 false hp)
                    · replace hp := (br_f h15).symm.trans hp
                      refine cx_seq' fun K35 hK35 => ?_
                      refine cx_region' ?_
                      refine sx_rd' (rd_bin' rfl rfl eg_int ru_eql) rfl rfl (wt_none' rfl) ?_
                      refine sx_rd' (rd_assign' rfl) rfl rfl (wt_none' rfl) ?_
                      refine sx_nil' ?_
                      show TX E K35 _
                      refine tx_k' hK35 ?_
                      refine cx_cond' rfl (fun h17 => ?_) (fun h17 => ?_)
                      · replace hp := (br_t h17).symm.trans hp
                        refine cx_seq' fun K36 hK36 => ?_
                        refine cx_region' ?_
                        refine sx_rd' (rd_assign' rfl) rfl rfl (wt_none' rfl) ?_
                        refine sx_rd' (rd_assign' rfl) rfl rfl (wt_none' rfl) ?_
                        refine sx_nil' ?_
                        show TX E K36 _
                        refine tx_k' hK36 ?_
                        refine cx_seq' fun K37 hK37 => ?_
                        refine cx_seq' fun K38 hK38 => ?_
                        refine cx_region' ?_
                        refine sx_rd' (rd_field' (off := 5) rfl Try.underlying27 rfl info24 rfl) rfl rfl (wt_none' rfl) ?_
                        refine sx_rd' (rd_load' (i := 0) (o := 5) rfl ⟨rfl, rfl, rfl, rfl⟩ rfl flat24) rfl rfl (wt_none' rfl) ?_
                        refine sx_rd' (rd_len' rfl Try.underlying24) rfl rfl (wt_none' rfl) ?_
                        refine sx_rd' (rd_move' rfl) rfl rfl (wt_none' rfl) ?_
                        refine sx_nil' ?_
                        show TX E K38 _
                        refine tx_k' hK38 ?_
                        refine cx_block' ?_
                        obtain ⟨v12, hy1, hp⟩ := bind_some hp
                        refine cx_loopg' (F := spec_Good_l1 a0_5 r15) (G := fun k R v => spec_Good_l1s a0_5 r15 k R v.1 v.2.1 v.2.2) (x := (0, true, 0)) (gh := ()) (fun (v10 : Int × Bool × Int) (w10 : Unit) => (⟨165, [], [(1, (Vl (.pointer (some q1)))), (3, (Vl (.int .i64 r15))), (8, (Vl (.int .i64 v10.1))), (9, (Vl (.bool v10.2.1))), (133, (Sl (Kl (Ki .i64)) a0_5)), (134, (Vl (.int .i64 (a0_5.length : Int)))), (135, (Vl (.int .i64 v10.2.2)))], [⟨.pointer (some q1), [(Vl (.int .i64 a0_0)), (Vl (.int .i64 a0_1)), (Vl (.int .i64 a0_2)), (Sl Kf a0_3), (Sl (Ki .i64) a0_4), (Sl (Kl (Ki .i64)) a0_5), (Sl KT27 a0_6)], 27, none⟩]⟩ : St)) (fun (v12 : Int × Bool) => Zg E (Exit.exit 3) (fun (w12 : Unit) => (⟨165, [], [(1, (Vl (.pointer (some q1)))), (8, (Vl (.int .i64 v12.1))), (9, (Vl (.bool v12.2)))], [⟨.pointer (some q1), [(Vl (.int .i64 a0_0)), (Vl (.int .i64 a0_1)), (Vl (.int .i64 a0_2)), (Sl Kf a0_3), (Sl (Ki .i64) a0_4), (Sl (Kl (Ki .i64)) a0_5), (Sl KT27 a0_6)], 27, none⟩]⟩ : St))) (fun _ => rfl) (fun _ _ => rfl) ?_ hy1 (tx_to' rfl [0] (sub_cons rfl (sub_cons rfl (sub_cons rfl (sub_cons rfl (sub_cons rfl (sub_cons rfl (sub_cons rfl sub_nil))))))) (by decide) (pick_cons rfl pick_nil)) ?_
                        · clear hp hy1
                          clear v12
                          intro k rec1 KY1 ih1
                          rintro ⟨x10, x11, x12⟩ ⟨⟩ y1 hp
                          replace hp : spec_Good_l1s a0_5 r15 k rec1 x10 x11 x12 = some y1 := hp
                          unfold spec_Good_l1s at hp
                          refine cx_seq' fun K45 hK45 => ?_
                          refine cx_region' ?_
                          refine sx_rd' (rd_bin' rfl rfl eg_int ru_lss) rfl rfl (wt_none' rfl) ?_
                          refine sx_nil' ?_
                          show TX E K45 _
                          refine tx_k' hK45 ?_
                          refine cx_seq' fun K46 hK46 => ?_
                          refine cx_cond' rfl (fun h20 => ?_) (fun h20 => ?_)
                          · replace hp := (br_t h20).symm.trans hp
                            refine cx_skip' ?_
                            show TX E K46 _
                            refine tx_k' hK46 ?_
                            refine cx_seq' fun K47 hK47 => ?_
                            refine cx_block' ?_
                            refine cx_seq' fun K48 hK48 => ?_
                            refine cx_region' ?_
                            obtain ⟨r137, hr137, hp⟩ := bind_some hp
                            refine sx_rd' (rd_at' (K := (Kl (Ki .i64))) rfl rfl hr137 Try.underlying24 info23) rfl rfl (wt_none' rfl) ?_
                            refine sx_rd' (rd_load_pt' rfl rfl flat23) rfl rfl (wt_none' rfl) ?_
                            refine sx_rd' (rd_assign' rfl) rfl rfl (wt_none' rfl) ?_
                            refine sx_nil' ?_
                            show TX E K48 _
                            refine tx_k' hK48 ?_
                            refine cx_seq' fun K49 hK49 => ?_
                            refine cx_region' ?_
                            refine sx_rd' (rd_assign' rfl) rfl rfl (wt_none' rfl) ?_
                            refine sx_nil' ?_
                            show TX E K49 _
                            refine tx_k' hK49 ?_
                            refine cx_seq' fun K50 hK50 => ?_
                            refine cx_region' ?_
                            refine sx_rd' (rd_move' rfl) rfl rfl (wt_none' rfl) ?_
                            refine sx_rd' (rd_move' rfl) rfl rfl (wt_none' rfl) ?_
                            refine sx_rd' (rd_move' rfl) rfl rfl (wt_none' rfl) ?_
                            obtain ⟨r143, hr143, hp⟩ := bind_some hp
                            refine sx_ox' (ox_calln' (ent_fn' Try.func136 isn136 rfl rfl) (spec_goodEnds_sim _ _ _ _ hr143 : Go.Sx.Fn Try.prog 136 [(Sl (Ki .i64) r137), (Vl (.int .i64 x10)), (Vl (.int .i64 r15)), (Vl (.bool false))] [] (fun x : Unit => (Tu [(Vl (.int .i64 r143.1)), (Vl (.bool r143.2))])) (fun x => [])) (Hn := fun x : Unit => [⟨.pointer (some q1), [(Vl (.int .i64 a0_0)), (Vl (.int .i64 a0_1)), (Vl (.int .i64 a0_2)), (Sl Kf a0_3), (Sl (Ki .i64) a0_4), (Sl (Kl (Ki .i64)) a0_5), (Sl KT27 a0_6)], 27, none⟩]) (fun _ => rfl) rfl rfl) (wt_none' rfl) fun ⟨⟩ => ?_
                            refine sx_rd' (rd_move' rfl) rfl rfl (wt_none' rfl) ?_
                            refine sx_rd' (rd_extract' rfl rfl) rfl rfl (wt_none' rfl) ?_
                            refine sx_rd' (rd_extract' rfl rfl) rfl rfl (wt_none' rfl) ?_
                            refine sx_rd' (rd_assign' rfl) rfl rfl (wt_none' rfl) ?_
                            refine sx_rd' (rd_assign' rfl) rfl rfl (wt_none' rfl) ?_
                            refine sx_nil' ?_
                            show TX E K50 _
                            refine tx_k' hK50 ?_
                            refine cx_region' ?_
                            refine sx_rd' (rd_move' rfl) rfl rfl (wt_none' rfl) ?_
                            refine sx_rd' (rd_move' rfl) rfl rfl (wt_none' rfl) ?_
                            refine sx_cutn' 2 (fun (v11 : Bool) => (⟨165, [], [(1, (Vl (.pointer (some q1)))), (3, (Vl (.int .i64 r15))), (8, (Vl (.int .i64 r143.1))), (133, (Sl (Kl (Ki .i64)) a0_5)), (134, (Vl (.int .i64 (a0_5.length : Int)))), (135, (Vl (.int .i64 x12))), (149, (Vl (.bool v11)))], [⟨.pointer (some q1), [(Vl (.int .i64 a0_0)), (Vl (.int .i64 a0_1)), (Vl (.int .i64 a0_2)), (Sl Kf a0_3), (Sl (Ki .i64) a0_4), (Sl (Kl (Ki .i64)) a0_5), (Sl KT27 a0_6)], 27, none⟩]⟩ : St)) (fun (v11 : Bool) => spec_Good_j10 k rec1 r143 x12 v11 = some y1) ?_ ?_
                            · rintro x13 hp
                              replace hp : spec_Good_j10 k rec1 r143 x12 x13 = some y1 := hp
                              unfold spec_Good_j10 at hp
                              refine sx_rd' (rd_assign' rfl) rfl rfl (wt_none' rfl) ?_
                              refine sx_nil' ?_
                              show TX E K47 _
                              refine tx_k' hK47 ?_
                              refine cx_region' ?_
                              refine sx_rd' (rd_bin' rfl rfl eg_int ru_add) rfl rfl (wt_none' rfl) ?_
                              refine sx_rd' (rd_move' rfl) rfl rfl (wt_none' rfl) ?_
                              refine sx_nil' ?_
                              show TX E (KY1 _) _
                              exact tx_pick' [0] (sub_cons rfl (sub_cons rfl (sub_cons rfl (sub_cons rfl (sub_cons rfl (sub_cons rfl (sub_cons rfl sub_nil))))))) (by decide) (pick_cons rfl pick_nil) (ih1 (r143.1, x13, (iadd .i64 x12 1)) () _ hp)
                            · intro K51 hK51
                              rcases br_cases hp with ⟨h21, hp⟩ | ⟨h21, hp⟩
                              · refine sx_rd' (rd_move' rfl) rfl rfl (wt_is' (wt_guard' rfl rfl rfl) (beq_tt h21)) ?_
                                refine sx_rd' (rd_pick_true' rfl h21 rfl) rfl rfl (wt_none' rfl) ?_
                                refine sx_nil' ?_
                                show TX E K51 _
                                exact tx_pick' [0] (sub_cons rfl (sub_cons rfl (sub_cons rfl (sub_cons rfl (sub_cons rfl (sub_cons rfl (sub_cons rfl sub_nil))))))) (by decide) (pick_cons rfl pick_nil) (hK51 r143.2 hp)
                              · refine sx_skip' rfl rfl (wt_is' (wt_guard' rfl rfl rfl) (beq_ft h21)) ?_
                                refine sx_rd' (rd_pick_false' rfl h21 rfl) rfl rfl (wt_none' rfl) ?_
                                refine sx_nil' ?_
                                show TX E K51 _
                                exact tx_pick' [0] (sub_cons rfl (sub_cons rfl (sub_cons rfl (sub_cons rfl (sub_cons rfl (sub_cons rfl (sub_cons rfl sub_nil))))))) (by decide) (pick_cons rfl pick_nil) (hK51 false hp)
                          · replace hp := (br_f h20).symm.trans hp
                            refine cx_exit' ?_
                            replace hp := Option.some.inj hp
                            subst hp
                            show TX E (Zg E (Exit.exit 3) _ (Exit.exit 3)) _
                            exact tx_zend' () rfl [0] (sub_cons rfl (sub_cons rfl (sub_cons rfl sub_nil))) (by decide) (pick_cons rfl pick_nil)
                        · refine zg_out fun w12 => ?_
                          show TX E K37 _
                          refine tx_k' hK37 ?_
                          refine cx_seq' fun K52 hK52 => ?_
                          refine cx_region' ?_
                          refine sx_rd' (rd_move' rfl) rfl rfl (wt_none' rfl) ?_
                          refine sx_rd' (rd_move' rfl) rfl rfl (wt_none' rfl) ?_
                          refine sx_cutn' 6 (fun (v13 : Bool) => (⟨165, [], [(1, (Vl (.pointer (some q1)))), (158, (Vl (.bool v13)))], [⟨.pointer (some q1), [(Vl (.int .i64 a0_0)), (Vl (.int .i64 a0_1)), (Vl (.int .i64 a0_2)), (Sl Kf a0_3), (Sl (Ki .i64) a0_4), (Sl (Kl (Ki .i64)) a0_5), (Sl KT27 a0_6)], 27, none⟩]⟩ : St)) (fun (v13 : Bool) => spec_Good_j11 k a0_4 v13 = some out) ?_ ?_
                          · rintro x16 hp
                            replace hp : spec_Good_j11 k a0_4 x16 = some out := hp
                            unfold spec_Good_j11 at hp
                            refine sx_rd' (rd_move' rfl) rfl rfl (wt_none' rfl) ?_
                            refine sx_cutn' 5 (fun (v14 : Bool) => (⟨165, [], [(164, (Vl (.bool v14)))], []⟩ : St)) (fun (v14 : Bool) => spec_Good_j12 k v14 = some out) ?_ ?_
                            · rintro x17 hp
                              replace hp : spec_Good_j12 k x17 = some out := hp
                              unfold spec_Good_j12 at hp
                              refine sx_rd' (rd_assign' rfl) rfl rfl (wt_none' rfl) ?_
                              refine sx_nil' ?_
                              show TX E K52 _
                              refine tx_k' hK52 ?_
                              refine cx_retc' ?_
                              replace hp := Option.some.inj hp
                              subst hp
                              refine tx_pick' (L' := [(2, (Vl (.bool x17)))]) (H' := []) [] (sub_cons rfl sub_nil) (by decide) pick_nil ?_
                              exact tx_ret1' Try.results106 rfl () (rv_tmp' rfl) (List.Sublist.refl _)
                            · intro K54 hK54
                              rcases br_cases hp with ⟨h23, hp⟩ | ⟨h23, hp⟩
                              · refine sx_rd' (rd_field' (off := 4) rfl Try.underlying27 rfl info23 rfl) rfl rfl (wt_is' (wt_guard' rfl rfl rfl) (beq_tt h23)) ?_
                                refine sx_rd' (rd_load' (i := 0) (o := 4) rfl ⟨rfl, rfl, rfl, rfl⟩ rfl flat23) rfl rfl (wt_is' (wt_guard' rfl rfl rfl) (beq_tt h23)) ?_
                                refine sx_rd' (rd_len' rfl Try.underlying23) rfl rfl (wt_is' (wt_guard' rfl rfl rfl) (beq_tt h23)) ?_
                                refine sx_rd' (rd_bin' rfl rfl eg_int ru_eql) rfl rfl (wt_is' (wt_guard' rfl rfl rfl) (beq_tt h23)) ?_
                                refine sx_rd' (rd_pick_true' rfl h23 rfl) rfl rfl (wt_none' rfl) ?_
                                refine sx_nil' ?_
                                show TX E K54 _
                                exact tx_pick' [] (sub_cons rfl sub_nil) (by decide) pick_nil (hK54 (decide ((a0_4.length : Int) = 0)) hp)
                              · refine sx_skip' rfl rfl (wt_is' (wt_guard' rfl rfl rfl) (beq_ft h23)) ?_
                                refine sx_skip' rfl rfl (wt_is' (wt_guard' rfl rfl rfl) (beq_ft h23)) ?_
                                refine sx_skip' rfl rfl (wt_is' (wt_guard' rfl rfl rfl) (beq_ft h23)) ?_
                                refine sx_skip' rfl rfl (wt_is' (wt_guard' rfl rfl rfl) (beq_ft h23)) ?_
                                refine sx_rd' (rd_pick_false' rfl h23 rfl) rfl rfl (wt_none' rfl) ?_
                                refine sx_nil' ?_
                                show TX E K54 _
                                exact tx_pick' [] (sub_cons rfl sub_nil) (by decide) pick_nil (hK54 false hp)
                          · intro K53 hK53
                            rcases br_cases hp with ⟨h22, hp⟩ | ⟨h22, hp⟩
                            · refine sx_rd' (rd_move' rfl) rfl rfl (wt_is' (wt_guard' rfl rfl rfl) (beq_tt h22)) ?_
                              refine sx_rd' (rd_field' (off := 3) rfl Try.underlying27 rfl info22 rfl) rfl rfl (wt_is' (wt_guard' rfl rfl rfl) (beq_tt h22)) ?_
                              refine sx_rd' (rd_load' (i := 0) (o := 3) rfl ⟨rfl, rfl, rfl, rfl⟩ rfl flat22) rfl rfl (wt_is' (wt_guard' rfl rfl rfl) (beq_tt h22)) ?_
                              refine sx_rd' (rd_len' rfl Try.underlying22) rfl rfl (wt_is' (wt_guard' rfl rfl rfl) (beq_tt h22)) ?_
                              refine sx_rd' (rd_bin' rfl rfl eg_int ru_eql) rfl rfl (wt_is' (wt_guard' rfl rfl rfl) (beq_tt h22)) ?_
                              refine sx_rd' (rd_pick_true' rfl h22 rfl) rfl rfl (wt_none' rfl) ?_
                              refine sx_nil' ?_
                              show TX E K53 _
                              exact tx_pick' [0] (sub_cons rfl (sub_cons rfl sub_nil)) (by decide) (pick_cons rfl pick_nil) (hK53 (decide (v12.1 = (a0_3.length : Int))) hp)
                            · refine sx_skip' rfl rfl (wt_is' (wt_guard' rfl rfl rfl) (beq_ft h22)) ?_
                              refine sx_skip' rfl rfl (wt_is' (wt_guard' rfl rfl rfl) (beq_ft h22)) ?_
                              refine sx_skip' rfl rfl (wt_is' (wt_guard' rfl rfl rfl) (beq_ft h22)) ?_
                              refine sx_skip' rfl rfl (wt_is' (wt_guard' rfl rfl rfl) (beq_ft h22)) ?_
                              refine sx_skip' rfl rfl (wt_is' (wt_guard' rfl rfl rfl) (beq_ft h22)) ?_
                              refine sx_rd' (rd_pick_false' rfl h22 rfl) rfl rfl (wt_none' rfl) ?_
                              refine sx_nil' ?_
                              show TX E K53 _
                              exact tx_pick' [0] (sub_cons rfl (sub_cons rfl sub_nil)) (by decide) (pick_cons rfl pick_nil) (hK53 false hp)
                      · replace hp := (br_f h17).symm.trans hp
                        refine cx_skip' ?_
                        show TX E K21 _
                        refine tx_k' hK21 ?_
                        refine cx_seq' fun K55 hK55 => ?_
                        refine cx_region' ?_
                        refine sx_rd' (rd_assign' rfl) rfl rfl (wt_none' rfl) ?_
                        refine sx_nil' ?_
                        show TX E K55 _
                        refine tx_k' hK55 ?_
                        refine cx_retc' ?_
                        replace hp := Option.some.inj hp
                        subst hp
                        refine tx_pick' (L' := [(2, (Vl (.bool false)))]) (H' := []) [] (sub_cons rfl sub_nil) (by decide) pick_nil ?_
                        exact tx_ret1' Try.results106 rfl () (rv_tmp' rfl) (List.Sublist.refl _)
                  · intro K29 hK29
                    refine cx_seq' fun K30 hK30 => ?_
                    refine cx_region' ?_
                    refine sx_rd' (rd_bin' rfl rfl eg_int ru_eql) rfl rfl (wt_none' rfl) ?_
                    refine sx_rd' (rd_assign' rfl) rfl rfl (wt_none' rfl) ?_
                    refine sx_nil' ?_
                    show TX E K30 _
                    refine tx_k' hK30 ?_
                    refine cx_cond' rfl (fun h13 => ?_) (fun h13 => ?_)
                    · replace hp := (br_t h13).symm.trans hp
                      refine cx_skip' ?_
                      show TX E K29 _
                      exact tx_pick' [0] (sub_cons rfl (sub_cons rfl (sub_cons rfl (sub_cons rfl sub_nil)))) (by decide) (pick_cons rfl pick_nil) (hK29 (decide (a0_0 = 3)) hp)
                    · replace hp := (br_f h13).symm.trans hp
                      refine cx_seq' fun K31 hK31 => ?_
                      refine cx_region' ?_
                      refine sx_rd' (rd_bin' rfl rfl eg_int ru_eql) rfl rfl (wt_none' rfl) ?_
                      refine sx_rd' (rd_assign' rfl) rfl rfl (wt_none' rfl) ?_
                      refine sx_nil' ?_
                      show TX E K31 _
                      refine tx_k' hK31 ?_
                      refine cx_cond' rfl (fun h14 => ?_) (fun h14 => ?_)
                      · replace hp := (br_t h14).symm.trans hp
                        refine cx_skip' ?_
                        show TX E K29 _
                        exact tx_pick' [0] (sub_cons rfl (sub_cons rfl (sub_cons rfl (sub_cons rfl sub_nil)))) (by decide) (pick_cons rfl pick_nil) (hK29 (decide (a0_0 = 4)) hp)
                      · replace hp := (br_f h14).symm.trans hp
                        refine cx_region' ?_
                        refine sx_rd' (rd_bin' rfl rfl eg_int ru_eql) rfl rfl (wt_none' rfl) ?_
                        refine sx_rd' (rd_assign' rfl) rfl rfl (wt_none' rfl) ?_
                        refine sx_nil' ?_
                        show TX E K29 _
                        exact tx_pick' [0] (sub_cons rfl (sub_cons rfl (sub_cons rfl (sub_cons rfl sub_nil)))) (by decide) (pick_cons rfl pick_nil) (hK29 (decide (a0_0 = 5)) hp)
              · intro K26 hK26
                refine cx_seq' fun K27 hK27 => ?_
                refine cx_region' ?_
                refine sx_rd' (rd_bin' rfl rfl eg_int ru_eql) rfl rfl (wt_none' rfl) ?_
                refine sx_rd' (rd_assign' rfl) rfl rfl (wt_none' rfl) ?_
                refine sx_nil' ?_
                show TX E K27 _
                refine tx_k' hK27 ?_
                refine cx_cond' rfl (fun h11 => ?_) (fun h11 => ?_)
                · replace hp := (br_t h11).symm.trans hp
                  refine cx_skip' ?_
                  show TX E K26 _
                  exact tx_pick' [0] (sub_cons rfl (sub_cons rfl (sub_cons rfl (sub_cons rfl sub_nil)))) (by decide) (pick_cons rfl pick_nil) (hK26 (decide (a0_0 = 2)) hp)
                · replace hp := (br_f h11).symm.trans hp
                  refine cx_region' ?_
                  refine sx_rd' (rd_bin' rfl rfl eg_int ru_eql) rfl rfl (wt_none' rfl) ?_
                  refine sx_rd' (rd_assign' rfl) rfl rfl (wt_none' rfl) ?_
                  refine sx_nil' ?_
                  show TX E K26 _
                  exact tx_pick' [0] (sub_cons rfl (sub_cons rfl (sub_cons rfl (sub_cons rfl sub_nil)))) (by decide) (pick_cons rfl pick_nil) (hK26 (decide (a0_0 = 8)) hp)
        · intro K19 hK19
          rcases br_cases hp with ⟨h6, hp⟩ | ⟨h6, hp⟩
          · refine sx_skip' rfl rfl (wt_is' (wt_guard' rfl rfl rfl) (beq_tf h6)) ?_
            refine sx_skip' rfl rfl (wt_is' (wt_guard' rfl rfl rfl) (beq_tf h6)) ?_
            refine sx_skip' rfl rfl (wt_is' (wt_guard' rfl rfl rfl) (beq_tf h6)) ?_
            refine sx_skip' rfl rfl (wt_is' (wt_guard' rfl rfl rfl) (beq_tf h6)) ?_
            refine sx_skip' rfl rfl (wt_is' (wt_guard' rfl rfl rfl) (beq_tf h6)) ?_
            refine sx_skip' rfl rfl (wt_undef' rfl rfl rfl) ?_
            refine sx_skip' rfl rfl (wt_undef' rfl rfl rfl) ?_
            refine sx_skip' rfl rfl (wt_undef' rfl rfl rfl) ?_
            refine sx_skip' rfl rfl (wt_is' (wt_guard' rfl rfl rfl) (beq_tf h6)) ?_
            refine sx_rd' (rd_pick_true' rfl h6 rfl) rfl rfl (wt_none' rfl) ?_
            refine sx_nil' ?_
            show TX E K19 _
            exact tx_pick' [0] (sub_cons rfl (sub_cons rfl (sub_cons rfl sub_nil))) (by decide) (pick_cons rfl pick_nil) (hK19 true hp)
          · refine sx_rd' (rd_field' (off := 5) rfl Try.underlying27 rfl info24 rfl) rfl rfl (wt_is' (wt_guard' rfl rfl rfl) (beq_ff h6)) ?_
            refine sx_rd' (rd_load' (i := 0) (o := 5) rfl ⟨rfl, rfl, rfl, rfl⟩ rfl flat24) rfl rfl (wt_is' (wt_guard' rfl rfl rfl) (beq_ff h6)) ?_
            refine sx_rd' (rd_len' rfl Try.underlying24) rfl rfl (wt_is' (wt_guard' rfl rfl rfl) (beq_ff h6)) ?_
            refine sx_rd' (rd_bin' rfl rfl eg_int ru_gtr) rfl rfl (wt_is' (wt_guard' rfl rfl rfl) (beq_ff h6)) ?_
            refine sx_rd' (rd_move' rfl) rfl rfl (wt_is' (wt_guard' rfl rfl rfl) (beq_ff h6)) ?_
            refine sx_cutn' 5 (fun (v4 : Bool) => (⟨165, [], [(1, (Vl (.pointer (some q1)))), (3, (Vl (.int .i64 r15))), (85, (Vl (.bool v4)))], [⟨.pointer (some q1), [(Vl (.int .i64 a0_0)), (Vl (.int .i64 a0_1)), (Vl (.int .i64 a0_2)), (Sl Kf a0_3), (Sl (Ki .i64) a0_4), (Sl (Kl (Ki .i64)) a0_5), (Sl KT27 a0_6)], 27, none⟩]⟩ : St)) (fun (v4 : Bool) => spec_Good_j4 k a0_0 a0_4 a0_3 r15 a0_5 v4 = some out) ?_ ?_
            · rintro x4 hp
              replace hp : spec_Good_j4 k a0_0 a0_4 a0_3 r15 a0_5 x4 = some out := hp
              unfold spec_Good_j4 at hp
              refine sx_nil' ?_
              show TX E K19 _
              exact tx_pick' [0] (sub_cons rfl (sub_cons rfl (sub_cons rfl sub_nil))) (by decide) (pick_cons rfl pick_nil) (hK19 x4 hp)
            · intro K18 hK18
              rcases br_cases hp with ⟨h7, hp⟩ | ⟨h7, hp⟩
              · refine sx_rd' (rd_field0' rfl Try.underlying27 rfl info3 rfl) rfl rfl (wt_is' (wt_guard' rfl rfl rfl) (beq_tt h7)) ?_
                refine sx_rd' (rd_load' (i := 0) (o := 0) rfl ⟨rfl, rfl, rfl, rfl⟩ rfl flat3) rfl rfl (wt_is' (wt_guard' rfl rfl rfl) (beq_tt h7)) ?_
                refine sx_rd' (rd_bin' rfl rfl eg_int ru_neq) rfl rfl (wt_is' (wt_guard' rfl rfl rfl) (beq_tt h7)) ?_
                refine sx_rd' (rd_pick_true' rfl h7 rfl) rfl rfl (wt_is' (wt_guard' rfl rfl rfl) (beq_ff h6)) ?_
                refine sx_rd' (rd_pick_false' rfl h6 rfl) rfl rfl (wt_none' rfl) ?_
                refine sx_nil' ?_
                show TX E K18 _
                exact tx_pick' [0] (sub_cons rfl (sub_cons rfl (sub_cons rfl sub_nil))) (by decide) (pick_cons rfl pick_nil) (hK18 (!decide (a0_0 = 6)) hp)
              · refine sx_skip' rfl rfl (wt_is' (wt_guard' rfl rfl rfl) (beq_ft h7)) ?_
                refine sx_skip' rfl rfl (wt_is' (wt_guard' rfl rfl rfl) (beq_ft h7)) ?_
                refine sx_skip' rfl rfl (wt_is' (wt_guard' rfl rfl rfl) (beq_ft h7)) ?_
                refine sx_rd' (rd_pick_false' rfl h7 rfl) rfl rfl (wt_is' (wt_guard' rfl rfl rfl) (beq_ff h6)) ?_
                refine sx_rd' (rd_pick_false' rfl h6 rfl) rfl rfl (wt_none' rfl) ?_
                refine sx_nil' ?_
                show TX E K18 _
                exact tx_pick' [0] (sub_cons rfl (sub_cons rfl (sub_cons rfl sub_nil))) (by decide) (pick_cons rfl pick_nil) (hK18 false hp)
      · intro K17 hK17
        rcases br_cases hp with ⟨h5, hp⟩ | ⟨h5, hp⟩
        · refine sx_skip' rfl rfl (wt_is' (wt_guard' rfl rfl rfl) (beq_tf h5)) ?_
          refine sx_skip' rfl rfl (wt_is' (wt_guard' rfl rfl rfl) (beq_tf h5)) ?_
          refine sx_skip' rfl rfl (wt_is' (wt_guard' rfl rfl rfl) (beq_tf h5)) ?_
          refine sx_skip' rfl rfl (wt_is' (wt_guard' rfl rfl rfl) (beq_tf h5)) ?_
          refine sx_rd' (rd_pick_true' rfl h5 rfl) rfl rfl (wt_none' rfl) ?_
          refine sx_nil' ?_
          show TX E K17 _
          exact tx_pick' [0] (sub_cons rfl (sub_cons rfl (sub_cons rfl sub_nil))) (by decide) (pick_cons rfl pick_nil) (hK17 true hp)
        · refine sx_rd' (rd_field' (off := 6) rfl Try.underlying27 rfl info25 rfl) rfl rfl (wt_is' (wt_guard' rfl rfl rfl) (beq_ff h5)) ?_
          refine sx_rd' (rd_load' (i := 0) (o := 6) rfl ⟨rfl, rfl, rfl, rfl⟩ rfl flat25) rfl rfl (wt_is' (wt_guard' rfl rfl rfl) (beq_ff h5)) ?_
          refine sx_rd' (rd_len' rfl Try.underlying25) rfl rfl (wt_is' (wt_guard' rfl rfl rfl) (beq_ff h5)) ?_
          refine sx_rd' (rd_bin' rfl rfl eg_int ru_gtr) rfl rfl (wt_is' (wt_guard' rfl rfl rfl) (beq_ff h5)) ?_
          refine sx_rd' (rd_pick_false' rfl h5 rfl) rfl rfl (wt_none' rfl) ?_
          refine sx_nil' ?_
          show TX E K17 _
          exact tx_pick' [0] (sub_cons rfl (sub_cons rfl (sub_cons rfl sub_nil))) (by decide) (pick_cons rfl pick_nil) (hK17 (decide (0 < (a0_6.length : Int))) hp)
    · intro K16 hK16
      rcases br_cases hp with ⟨h4, hp⟩ | ⟨h4, hp⟩
      · refine sx_skip' rfl rfl (wt_is' (wt_guard' rfl rfl rfl) (beq_tf h4)) ?_
        refine sx_skip' rfl rfl (wt_is' (wt_guard' rfl rfl rfl) (beq_tf h4)) ?_
        refine sx_skip' rfl rfl (wt_is' (wt_guard' rfl rfl rfl) (beq_tf h4)) ?_
        refine sx_skip' rfl rfl (wt_is' (wt_guard' rfl rfl rfl) (beq_tf h4)) ?_
        refine sx_skip' rfl rfl (wt_is' (wt_guard' rfl rfl rfl) (beq_tf h4)) ?_
        refine sx_skip' rfl rfl (wt_is' (wt_guard' rfl rfl rfl) (beq_tf h4)) ?_
        refine sx_rd' (rd_pick_true' rfl h4 rfl) rfl rfl (wt_none' rfl) ?_
        refine sx_nil' ?_
        show TX E K16 _
        exact tx_pick' [0] (sub_cons rfl (sub_cons rfl (sub_cons rfl sub_nil))) (by decide) (pick_cons rfl pick_nil) (hK16 true hp)
      · refine sx_rd' (rd_field' (off := 3) rfl Try.underlying27 rfl info22 rfl) rfl rfl (wt_is' (wt_guard' rfl rfl rfl) (beq_ff h4)) ?_
        refine sx_rd' (rd_load' (i := 0) (o := 3) rfl ⟨rfl, rfl, rfl, rfl⟩ rfl flat22) rfl rfl (wt_is' (wt_guard' rfl rfl rfl) (beq_ff h4)) ?_
        refine sx_rd' (rd_len' rfl Try.underlying22) rfl rfl (wt_is' (wt_guard' rfl rfl rfl) (beq_ff h4)) ?_
        refine sx_rd' (rd_move' rfl) rfl rfl (wt_is' (wt_guard' rfl rfl rfl) (beq_ff h4)) ?_
        obtain ⟨r66, hr66, hp⟩ := bind_some hp
        refine sx_rd' (rd_bin' rfl rfl eg_int (ru_rem hr66)) rfl rfl (wt_is' (wt_guard' rfl rfl rfl) (beq_ff h4)) ?_
        refine sx_rd' (rd_bin' rfl rfl eg_int ru_neq) rfl rfl (wt_is' (wt_guard' rfl rfl rfl) (beq_ff h4)) ?_
        refine sx_rd' (rd_pick_false' rfl h4 rfl) rfl rfl (wt_none' rfl) ?_
        refine sx_nil' ?_
        show TX E K16 _
        exact tx_pick' [0] (sub_cons rfl (sub_cons rfl (sub_cons rfl sub_nil))) (by decide) (pick_cons rfl pick_nil) (hK16 (!decide (r66 = 0)) hp)
theorem spec_Good_simA : ∀ (k : Nat)  (a0_0 : Int) (a0_1 : Int) (a0_2 : Int) (a0_3 : List Nat) (a0_4 : List Int) (a0_5 : List (List Int)) (a0_6 : List T27) (out : Bool), spec_Good k a0_0 a0_1 a0_2 a0_3 a0_4 a0_5 a0_6 = some out → Go.Sx.Fn Try.prog 106 [(Ag [(Vl (.int .i64 a0_0)), (Vl (.int .i64 a0_1)), (Vl (.int .i64 a0_2)), (Sl Kf a0_3), (Sl (Ki .i64) a0_4), (Sl (Kl (Ki .i64)) a0_5), (Sl KT27 a0_6)])] [] (fun w : Unit => (Vl (.bool out))) (fun w => []) := by
  intro k
  induction k with
  | zero => intro a0_0 a0_1 a0_2 a0_3 a0_4 a0_5 a0_6 out hp; cases hp
  | succ k ih => intro a0_0 a0_1 a0_2 a0_3 a0_4 a0_5 a0_6 out hp; exact spec_Good_b_sim ih a0_0 a0_1 a0_2 a0_3 a0_4 a0_5 a0_6 hp
theorem spec_Good_sim {k : Nat}  (a0_0 : Int) (a0_1 : Int) (a0_2 : Int) (a0_3 : List Nat) (a0_4 : List Int) (a0_5 : List (List Int)) (a0_6 : List T27) {out : Bool} (hp : spec_Good k a0_0 a0_1 a0_2 a0_3 a0_4 a0_5 a0_6 = some out) : Go.Sx.Fn Try.prog 106 [(Ag [(Vl (.int .i64 a0_0)), (Vl (.int .i64 a0_1)), (Vl (.int .i64 a0_2)), (Sl Kf a0_3), (Sl (Ki .i64) a0_4), (Sl (Kl (Ki .i64)) a0_5), (Sl KT27 a0_6)])] [] (fun w : Unit => (Vl (.bool out))) (fun w => []) := spec_Good_simA k a0_0 a0_1 a0_2 a0_3 a0_4 a0_5 a0_6 out hp

def laws_gGood_l1s (a0 : List T27) (k : Nat) (rec1 : Int → Option (Unit ⊕ Unit)) (x1 : Int) : Option (Unit ⊕ Unit) :=
  br (decide (x1 < (a0.length : Int)))
    ((idx a0 x1) >>= fun r12 =>
    (spec_Good k r12.f0 r12.f1 r12.f2 r12.f3 r12.f4 r12.f5 r12.f6) >>= fun r15 =>
    br (!r15)
      (some (.inl ()))
      (rec1 (iadd .i64 x1 1)))
    (some (.inr ()))
def laws_gGood_l1 (a0 : List T27) : Nat → Int → Option (Unit ⊕ Unit)
  | 0, _ => none
  | k + 1, v => laws_gGood_l1s a0 k (laws_gGood_l1 a0 k) v
def laws_gGood (k : Nat) (a0 : List T27) : Option (Bool) :=
  (laws_gSmall k a0) >>= fun r6 =>
  br (!r6)
    (some false)
    ((laws_gGood_l1 a0 k 0) >>= fun y1 => match y1 with
      | (.inl v2) =>
        (some false)
      | (.inr v3) =>
        (some true))

theorem laws_gGood_sim {k : Nat}  (a0 : List T27) {out : Bool} (hp : laws_gGood k a0 = some out) : Go.Sx.Fn Try.prog 52 [(Sl KT27 a0)] [] (fun w : Unit => (Vl (.bool out))) (fun w => []) := by
  unfold laws_gGood at hp
  refine fn_of Try.func52 rfl Try.ntmps52 rfl fun E hM => ?_
  refine cx_seq' fun K1 hK1 => ?_
  refine cx_region' ?_
  refine sx_rd' (rd_assign' rfl) rfl rfl (wt_none' rfl) ?_
  refine sx_nil' ?_
  show TX E K1 _
  refine tx_k' hK1 ?_
  refine cx_seq' fun K2 hK2 => ?_
  refine cx_seq' fun K3 hK3 => ?_
  refine cx_region' ?_
  refine sx_rd' (rd_move' rfl) rfl rfl (wt_none' rfl) ?_
  obtain ⟨r6, hr6, hp⟩ := bind_some hp
  refine sx_ox' (ox_calln' (ent_fn' Try.func105 isn105 rfl rfl) (laws_gSmall_sim _ hr6 : Go.Sx.Fn Try.prog 105 [(Sl KT27 a0)] [] (fun x : Unit => (Vl (.bool r6))) (fun x => [])) (Hn := fun x : Unit => []) (fun _ => rfl) rfl rfl) (wt_none' rfl) fun ⟨⟩ => ?_
  refine sx_rd' (rd_un' rfl ru_not) rfl rfl (wt_none' rfl) ?_
  refine sx_nil' ?_
  show TX E K3 _
  refine tx_k' hK3 ?_
  refine cx_cond' rfl (fun h1 => ?_) (fun h1 => ?_)
  · replace hp := (br_t h1).symm.trans hp
    refine cx_seq' fun K4 hK4 => ?_
    refine cx_region' ?_
    refine sx_rd' (rd_assign' rfl) rfl rfl (wt_none' rfl) ?_
    refine sx_nil' ?_
    show TX E K4 _
    refine tx_k' hK4 ?_
    refine cx_retc' ?_
    replace hp := Option.some.inj hp
    subst hp
    refine tx_pick' (L' := [(2, (Vl (.bool false)))]) (H' := []) [] (sub_cons rfl sub_nil) (by decide) pick_nil ?_
    exact tx_ret1' Try.results52 rfl () (rv_tmp' rfl) (List.Sublist.refl _)
  · replace hp := (br_f h1).symm.trans hp
    refine cx_skip' ?_
    show TX E K2 _
    refine tx_k' hK2 ?_
    refine cx_seq' fun K5 hK5 => ?_
    refine cx_seq' fun K6 hK6 => ?_
    refine cx_region' ?_
    refine sx_rd' (rd_move' rfl) rfl rfl (wt_none' rfl) ?_
    refine sx_rd' (rd_len' rfl Try.underlying25) rfl rfl (wt_none' rfl) ?_
    refine sx_rd' (rd_move' rfl) rfl rfl (wt_none' rfl) ?_
    refine sx_nil' ?_
    show TX E K6 _
    refine tx_k' hK6 ?_
    refine cx_block' ?_
    obtain ⟨y1, hy1, hp⟩ := bind_some hp
    refine cx_loopg' (F := laws_gGood_l1 a0) (G := fun k R v => laws_gGood_l1s a0 k R v) (x := 0) (gh := ()) (fun (v1 : Int) (w1 : Unit) => (⟨18, [], [(8, (Sl KT27 a0)), (9, (Vl (.int .i64 (a0.length : Int)))), (10, (Vl (.int .i64 v1)))], []⟩ : St)) (fun (y : Unit ⊕ Unit) => match y with | (.inl v2) => Zg E Exit.ret (fun (w2 : Unit) => (⟨18, [], [(2, (Vl (.bool false)))], []⟩ : St)) | (.inr v3) => Zg E (Exit.exit 0) (fun (w3 : Unit) => (⟨18, [], [], []⟩ : St))) (fun _ => rfl) (fun _ _ => rfl) ?_ hy1 (tx_to' rfl [] (sub_cons rfl (sub_cons rfl (sub_cons rfl sub_nil))) (by decide) pick_nil) ?_
    · clear hp hy1
      clear y1
      intro k rec1 KY1 ih1
      rintro x1 ⟨⟩ y1 hp
      replace hp : laws_gGood_l1s a0 k rec1 x1 = some y1 := hp
      unfold laws_gGood_l1s at hp
      refine cx_seq' fun K13 hK13 => ?_
      refine cx_region' ?_
      refine sx_rd' (rd_bin' rfl rfl eg_int ru_lss) rfl rfl (wt_none' rfl) ?_
      refine sx_nil' ?_
      show TX E K13 _
      refine tx_k' hK13 ?_
      refine cx_seq' fun K14 hK14 => ?_
      refine cx_cond' rfl (fun h5 => ?_) (fun h5 => ?_)
      · replace hp := (br_t h5).symm.trans hp
        refine cx_skip' ?_
        show TX E K14 _
        refine tx_k' hK14 ?_
        refine cx_seq' fun K15 hK15 => ?_
        refine cx_block' ?_
        refine cx_seq' fun K16 hK16 => ?_
        refine cx_region' ?_
        obtain ⟨r12, hr12, hp⟩ := bind_some hp
        refine sx_rd' (rd_eq' (congrArg Pt (KT27_enc r12)) (rd_at' (K := KT27) rfl rfl hr12 Try.underlying25 info27)) rfl rfl (wt_none' rfl) ?_
        refine sx_rd' (rd_load_pt_agg' (nn := 7) rfl rfl agg27 (l' := [(Vl (.int .i64 r12.f0)), (Vl (.int .i64 r12.f1)), (Vl (.int .i64 r12.f2)), (Sl Kf r12.f3), (Sl (Ki .i64) r12.f4), (Sl (Kl (Ki .i64)) r12.f5), (Sl KT27 r12.f6)]) rfl) rfl rfl (wt_none' rfl) ?_
        refine sx_ox' (ox_alloc' info27 rfl rfl rfl rfl (l := [(Vl (.int .i64 0)), (Vl (.int .i64 0)), (Vl (.int .i64 0)), (Vl (.slice none 0 0)), (Vl (.slice none 0 0)), (Vl (.slice none 0 0)), (Vl (.slice none 0 0))]) rfl) (wt_none' rfl) fun q4 => ?_
        refine sx_ox' (ox_store' (i := 0) (o := 0) rfl rfl (lv_ag _) ⟨rfl, rfl, rfl, rfl⟩ rfl info27 rfl (H' := [⟨.pointer (some q4), [(Vl (.int .i64 r12.f0)), (Vl (.int .i64 r12.f1)), (Vl (.int .i64 r12.f2)), (Sl Kf r12.f3), (Sl (Ki .i64) r12.f4), (Sl (Kl (Ki .i64)) r12.f5), (Sl KT27 r12.f6)], 27, none⟩]) rfl) (wt_none' rfl) fun _ => ?_
        refine sx_nil' ?_
        show TX E K16 _
        refine tx_k' hK16 ?_
        refine cx_seq' fun K17 hK17 => ?_
        refine cx_region' ?_
        refine sx_rd' (rd_load_agg' (i := 0) (o := 0) (nn := 7) rfl ⟨rfl, rfl, rfl, rfl⟩ rfl agg27 (l' := [(Vl (.int .i64 r12.f0)), (Vl (.int .i64 r12.f1)), (Vl (.int .i64 r12.f2)), (Sl Kf r12.f3), (Sl (Ki .i64) r12.f4), (Sl (Kl (Ki .i64)) r12.f5), (Sl KT27 r12.f6)]) rfl) rfl rfl (wt_none' rfl) ?_
        obtain ⟨r15, hr15, hp⟩ := bind_some hp
        refine sx_ox' (ox_calln' (ent_fn' Try.func106 isn106 rfl rfl) (spec_Good_sim _ _ _ _ _ _ _ hr15 : Go.Sx.Fn Try.prog 106 [(Ag [(Vl (.int .i64 r12.f0)), (Vl (.int .i64 r12.f1)), (Vl (.int .i64 r12.f2)), (Sl Kf r12.f3), (Sl (Ki .i64) r12.f4), (Sl (Kl (Ki .i64)) r12.f5), (Sl KT27 r12.f6)])] [] (fun x : Unit => (Vl (.bool r15))) (fun x => [])) (Hn := fun x : Unit => [⟨.pointer (some q4), [(Vl (.int .i64 r12.f0)), (Vl (.int .i64 r12.f1)), (Vl (.int .i64 r12.f2)), (Sl Kf r12.f3), (Sl (Ki .i64) r12.f4), (Sl (Kl (Ki .i64)) r12.f5), (Sl KT27 r12.f6)], 27, none⟩]) (fun _ => rfl) rfl rfl) (wt_none' rfl) fun ⟨⟩ => ?_
        refine sx_rd' (rd_un' rfl ru_not) rfl rfl (wt_none' rfl) ?_
        refine sx_nil' ?_
        show TX E K17 _
        refine tx_k' hK17 ?_
        refine cx_cond' rfl (fun h6 => ?_) (fun h6 => ?_)
        · replace hp := (br_t h6).symm.trans hp
          refine cx_seq' fun K18 hK18 => ?_
          refine cx_region' ?_
          refine sx_rd' (rd_assign' rfl) rfl rfl (wt_none' rfl) ?_
          refine sx_nil' ?_
          show TX E K18 _
          refine tx_k' hK18 ?_
          refine cx_retc' ?_
          replace hp := Option.some.inj hp
          subst hp
          show TX E (Zg E Exit.ret _ Exit.ret) _
          exact tx_zend' () rfl [] (sub_cons rfl sub_nil) (by decide) pick_nil
        · replace hp := (br_f h6).symm.trans hp
          refine cx_skip' ?_
          show TX E K15 _
          refine tx_k' hK15 ?_
          refine cx_region' ?_
          refine sx_rd' (rd_bin' rfl rfl eg_int ru_add) rfl rfl (wt_none' rfl) ?_
          refine sx_rd' (rd_move' rfl) rfl rfl (wt_none' rfl) ?_
          refine sx_nil' ?_
          show TX E (KY1 _) _
          exact tx_pick' [] (sub_cons rfl (sub_cons rfl (sub_cons rfl sub_nil))) (by decide) pick_nil (ih1 (iadd .i64 x1 1) () _ hp)
      · replace hp := (br_f h5).symm.trans hp
        refine cx_exit' ?_
        replace hp := Option.some.inj hp
        subst hp
        show TX E (Zg E (Exit.exit 0) _ (Exit.exit 0)) _
        exact tx_zend' () rfl [] sub_nil (by decide) pick_nil
    · rcases y1 with v2 | v3
      · dsimp only at hp
        refine zg_out fun w2 => ?_
        replace hp := Option.some.inj hp
        subst hp
        refine tx_pick' (L' := [(2, (Vl (.bool false)))]) (H' := []) [] (sub_cons rfl sub_nil) (by decide) pick_nil ?_
        exact tx_ret1' Try.results52 rfl () (rv_tmp' rfl) (List.Sublist.refl _)
      · dsimp only at hp
        refine zg_out fun w3 => ?_
        show TX E K5 _
        refine tx_k' hK5 ?_
        refine cx_seq' fun K19 hK19 => ?_
        refine cx_region' ?_
        refine sx_rd' (rd_assign' rfl) rfl rfl (wt_none' rfl) ?_
        refine sx_nil' ?_
        show TX E K19 _
        refine tx_k' hK19 ?_
        refine cx_retc' ?_
        replace hp := Option.some.inj hp
        subst hp
        refine tx_pick' (L' := [(2, (Vl (.bool true)))]) (H' := []) [] (sub_cons rfl sub_nil) (by decide) pick_nil ?_
        exact tx_ret1' Try.results52 rfl () (rv_tmp' rfl) (List.Sublist.refl _)

def laws_fRow (k : Nat) (a0 : List Nat) (a1 : Int) : Option (Int × Int × Int × (List Nat) × Bool) :=
  (laws_fStride k a1) >>= fun r8 =>
  br (!r8)
    (some (0, 0, 0, [], false))
    ((laws_fLayout k a1) >>= fun r12 =>
    (laws_gGood k ([(T27.mk 8 r12 0 a0 [] [] [])])) >>= fun r18 =>
    some (8, r12, 0, a0, r18))

theorem laws_fRow_sim {k : Nat}  (a0 : List Nat) (a1 : Int) {out : Int × Int × Int × (List Nat) × Bool} (hp : laws_fRow k a0 a1 = some out) : Go.Sx.Fn Try.prog 32 [(Sl Kf a0), (Vl (.int .i64 a1))] [] (fun w : Unit => (Tu [(Ag [(Vl (.int .i64 out.1)), (Vl (.int .i64 out.2.1)), (Vl (.int .i64 out.2.2.1)), (Sl Kf out.2.2.2.1), (Vl (.slice none 0 0)), (Vl (.slice none 0 0)), (Vl (.slice none 0 0))]), (Vl (.bool out.2.2.2.2))])) (fun w => []) := by
  unfold laws_fRow at hp
  refine fn_of Try.func32 rfl Try.ntmps32 rfl fun E hM => ?_
  refine cx_seq' fun K1 hK1 => ?_
  refine cx_region' ?_
  refine sx_ox' (ox_alloc' info27 rfl rfl rfl rfl (l := [(Vl (.int .i64 0)), (Vl (.int .i64 0)), (Vl (.int .i64 0)), (Vl (.slice none 0 0)), (Vl (.slice none 0 0)), (Vl (.slice none 0 0)), (Vl (.slice none 0 0))]) rfl) (wt_none' rfl) fun q4 => ?_
  refine sx_rd' (rd_assign' rfl) rfl rfl (wt_none' rfl) ?_
  refine sx_nil' ?_
  show TX E K1 _
  refine tx_k' hK1 ?_
  refine cx_seq' fun K2 hK2 => ?_
  refine cx_seq' fun K3 hK3 => ?_
  refine cx_region' ?_
  refine sx_rd' (rd_move' rfl) rfl rfl (wt_none' rfl) ?_
  obtain ⟨r8, hr8, hp⟩ := bind_some hp
  refine sx_ox' (ox_calln' (ent_fn' Try.func21 isn21 rfl rfl) (laws_fStride_sim _ hr8 : Go.Sx.Fn Try.prog 21 [(Vl (.int .i64 a1))] [] (fun x : Unit => (Vl (.bool r8))) (fun x => [])) (Hn := fun x : Unit => [⟨.pointer (some q4), [(Vl (.int .i64 0)), (Vl (.int .i64 0)), (Vl (.int .i64 0)), (Vl (.slice none 0 0)), (Vl (.slice none 0 0)), (Vl (.slice none 0 0)), (Vl (.slice none 0 0))], 27, none⟩]) (fun _ => rfl) rfl rfl) (wt_none' rfl) fun ⟨⟩ => ?_
  refine sx_rd' (rd_un' rfl ru_not) rfl rfl (wt_none' rfl) ?_
  refine sx_nil' ?_
  show TX E K3 _
  refine tx_k' hK3 ?_
  refine cx_cond' rfl (fun h1 => ?_) (fun h1 => ?_)
  · replace hp := (br_t h1).symm.trans hp
    refine cx_seq' fun K4 hK4 => ?_
    refine cx_region' ?_
    refine sx_rd' (rd_build' (pls := [(0, 1), (1, 1), (2, 1), (3, 1), (4, 1), (5, 1), (6, 1)]) (qs := []) (r := [(Vl (.int .i64 0)), (Vl (.int .i64 0)), (Vl (.int .i64 0)), (Vl (.slice none 0 0)), (Vl (.slice none 0 0)), (Vl (.slice none 0 0)), (Vl (.slice none 0 0))]) trivial Try.underlying27 has27 places27 info27 rfl rfl rfl) rfl rfl (wt_none' rfl) ?_
    refine sx_ox' (ox_store' (i := 0) (o := 0) rfl rfl (lv_ag _) ⟨rfl, rfl, rfl, rfl⟩ rfl info27 rfl (H' := [⟨.pointer (some q4), [(Vl (.int .i64 0)), (Vl (.int .i64 0)), (Vl (.int .i64 0)), (Vl (.slice none 0 0)), (Vl (.slice none 0 0)), (Vl (.slice none 0 0)), (Vl (.slice none 0 0))], 27, none⟩]) rfl) (wt_none' rfl) fun _ => ?_
    refine sx_rd' (rd_assign' rfl) rfl rfl (wt_none' rfl) ?_
    refine sx_nil' ?_
    show TX E K4 _
    refine tx_k' hK4 ?_
    refine cx_retc' ?_
    replace hp := Option.some.inj hp
    subst hp
    refine tx_pick' (L' := [(4, (Vl (.pointer (some q4)))), (5, (Vl (.bool false)))]) (H' := [⟨.pointer (some q4), [(Vl (.int .i64 0)), (Vl (.int .i64 0)), (Vl (.int .i64 0)), (Vl (.slice none 0 0)), (Vl (.slice none 0 0)), (Vl (.slice none 0 0)), (Vl (.slice none 0 0))], 27, none⟩]) [0] (sub_cons rfl (sub_cons rfl sub_nil)) (by decide) (pick_cons rfl pick_nil) ?_
    exact tx_ret2' Try.results32 rfl () (rv_imp' (x := (Ag [(Vl (.int .i64 0)), (Vl (.int .i64 0)), (Vl (.int .i64 0)), (Vl (.slice none 0 0)), (Vl (.slice none 0 0)), (Vl (.slice none 0 0)), (Vl (.slice none 0 0))])) (y := (Ag [(Vl (.int .i64 0)), (Vl (.int .i64 0)), (Vl (.int .i64 0)), (Sl Kf []), (Vl (.slice none 0 0)), (Vl (.slice none 0 0)), (Vl (.slice none 0 0))])) (rv_cell_agg' (i := 0) (o := 0) (nn := 7) rfl ⟨rfl, rfl, rfl, rfl⟩ rfl agg27 rfl) (imp_ag ⟨imp_refl, imp_refl, imp_refl, imp_nil, imp_refl, imp_refl, imp_refl, trivial⟩)) (rv_tmp' rfl) rfl (List.nil_sublist _)
  · replace hp := (br_f h1).symm.trans hp
    refine cx_skip' ?_
    show TX E K2 _
    refine tx_k' hK2 ?_
    refine cx_seq' fun K5 hK5 => ?_
    refine cx_region' ?_
    refine sx_rd' (rd_move' rfl) rfl rfl (wt_none' rfl) ?_
    obtain ⟨r12, hr12, hp⟩ := bind_some hp
    refine sx_ox' (ox_calln' (ent_fn' Try.func24 isn24 rfl rfl) (laws_fLayout_sim _ hr12 : Go.Sx.Fn Try.prog 24 [(Vl (.int .i64 a1))] [] (fun x : Unit => (Vl (.int .i64 r12))) (fun x => [])) (Hn := fun x : Unit => [⟨.pointer (some q4), [(Vl (.int .i64 0)), (Vl (.int .i64 0)), (Vl (.int .i64 0)), (Vl (.slice none 0 0)), (Vl (.slice none 0 0)), (Vl (.slice none 0 0)), (Vl (.slice none 0 0))], 27, none⟩]) (fun _ => rfl) rfl rfl) (wt_none' rfl) fun ⟨⟩ => ?_
    refine sx_rd' (rd_move' rfl) rfl rfl (wt_none' rfl) ?_
    refine sx_rd' (rd_build' (pls := [(0, 1), (1, 1), (2, 1), (3, 1), (4, 1), (5, 1), (6, 1)]) (qs := [(0, [(Vl (.int .i64 8))]), (1, [(Vl (.int .i64 r12))]), (3, [(Sl Kf a0)])]) (r := [(Vl (.int .i64 8)), (Vl (.int .i64 r12)), (Vl (.int .i64 0)), (Sl Kf a0), (Vl (.slice none 0 0)), (Vl (.slice none 0 0)), (Vl (.slice none 0 0))]) ⟨rfl, ⟨_, rfl, (lv_vl rfl rfl)⟩, ⟨rfl, ⟨_, rfl, (lv_vl rfl rfl)⟩, ⟨rfl, ⟨_, rfl, (lv_sl _ _)⟩, trivial⟩⟩⟩ Try.underlying27 has27 places27 info27 rfl rfl rfl) rfl rfl (wt_none' rfl) ?_
    refine sx_ox' (ox_alloc' info27 rfl rfl rfl rfl (l := [(Vl (.int .i64 0)), (Vl (.int .i64 0)), (Vl (.int .i64 0)), (Vl (.slice none 0 0)), (Vl (.slice none 0 0)), (Vl (.slice none 0 0)), (Vl (.slice none 0 0))]) rfl) (wt_none' rfl) fun q6 => ?_
    refine sx_ox' (ox_store' (i := 0) (o := 0) rfl rfl (lv_ag _) ⟨rfl, rfl, rfl, rfl⟩ rfl info27 rfl (H' := [⟨.pointer (some q6), [(Vl (.int .i64 8)), (Vl (.int .i64 r12)), (Vl (.int .i64 0)), (Sl Kf a0), (Vl (.slice none 0 0)), (Vl (.slice none 0 0)), (Vl (.slice none 0 0))], 27, none⟩, ⟨.pointer (some q4), [(Vl (.int .i64 0)), (Vl (.int .i64 0)), (Vl (.int .i64 0)), (Vl (.slice none 0 0)), (Vl (.slice none 0 0)), (Vl (.slice none 0 0)), (Vl (.slice none 0 0))], 27, none⟩]) rfl) (wt_none' rfl) fun _ => ?_
    refine sx_nil' ?_
    show TX E K5 _
    refine tx_k' hK5 ?_
    refine cx_seq' fun K6 hK6 => ?_
    refine cx_plan' [] [(4, 1)] [(0, 1), (1, 1), (2, 0), (3, 0), (4, 0), (5, 1)] mixed (by kernel_rfl) ?_
    refine px_rd' rfl (rd_load_agg' (i := 0) (o := 0) (nn := 7) rfl ⟨rfl, rfl, rfl, rfl⟩ rfl agg27 (l' := [(Vl (.int .i64 8)), (Vl (.int .i64 r12)), (Vl (.int .i64 0)), (Sl Kf a0), (Vl (.slice none 0 0)), (Vl (.slice none 0 0)), (Vl (.slice none 0 0))]) rfl) rfl rfl (wt_none' rfl) ?_
    refine px_rd' rfl (rd_load_agg' (i := 0) (o := 0) (nn := 7) rfl ⟨rfl, rfl, rfl, rfl⟩ rfl agg27 (l' := [(Vl (.int .i64 8)), (Vl (.int .i64 r12)), (Vl (.int .i64 0)), (Sl Kf a0), (Vl (.slice none 0 0)), (Vl (.slice none 0 0)), (Vl (.slice none 0 0))]) rfl) rfl rfl (wt_none' rfl) ?_
    refine tx_slot' 16 (y := (Ag [(Vl (.int .i64 8)), (Vl (.int .i64 r12)), (Vl (.int .i64 0)), (Sl Kf a0), (Sl (Ki .i64) []), (Sl (Kl (Ki .i64)) []), (Sl KT27 [])])) rfl (imp_ag ⟨imp_refl, imp_refl, imp_refl, imp_refl, imp_nil, imp_nil, imp_nil, trivial⟩) ?_
    refine px_ox' rfl (ox_rowlit' (K := KT27) (xs := [(T27.mk 8 r12 0 a0 [] [] [])]) (qs := [(0, [(Vl (.int .i64 8)), (Vl (.int .i64 r12)), (Vl (.int .i64 0)), (Sl Kf a0), (Sl (Ki .i64) []), (Sl (Kl (Ki .i64)) []), (Sl KT27 [])])]) ⟨rfl, ⟨_, rfl, (lv_ag _)⟩, trivial⟩ Try.underlying25 info27 rfl rfl rfl rfl rfl (by simp only [List.flatMap_cons, List.flatMap_nil, KT27_enc, List.append_nil]; kernel_rfl) rfl rfl rfl) rfl bs_nil (wt_none' rfl) fun g17 => ?_
    obtain ⟨r18, hr18, hp⟩ := bind_some hp
    refine px_ox' rfl (ox_brw' (frz_row 0 [(17, (Vl (Vs g17)), (Sl KT27 ([(T27.mk 8 r12 0 a0 [] [] [])])))] (K := KT27) (xs := [(T27.mk 8 r12 0 a0 [] [] [])]) (by decide) rfl ⟨⟨rfl, frz_it⟩, trivial⟩ (H' := [⟨.pointer (some q6), [(Vl (.int .i64 8)), (Vl (.int .i64 r12)), (Vl (.int .i64 0)), (Sl Kf a0), (Vl (.slice none 0 0)), (Vl (.slice none 0 0)), (Vl (.slice none 0 0))], 27, none⟩, ⟨.pointer (some q4), [(Vl (.int .i64 0)), (Vl (.int .i64 0)), (Vl (.int .i64 0)), (Vl (.slice none 0 0)), (Vl (.slice none 0 0)), (Vl (.slice none 0 0)), (Vl (.slice none 0 0))], 27, none⟩]) frzH_refl) (ent_fn' Try.func52 isn52 rfl rfl) (laws_gGood_sim _ hr18 : Go.Sx.Fn Try.prog 52 [(Sl KT27 ([(T27.mk 8 r12 0 a0 [] [] [])]))] [] (fun x : Unit => (Vl (.bool r18))) (fun x => [])) pu_vl rfl rfl) rfl bs_nil (wt_none' rfl) fun ⟨⟩ => ?_
    refine px_oxv' rfl (oxv_store (i := 2) (o := 0) rfl rfl (lv_ag _) ⟨rfl, rfl, rfl, rfl⟩ rfl info27 rfl (H' := [(Rw KT27 27 (Vs g17) ([(T27.mk 8 r12 0 a0 [] [] [])])), ⟨.pointer (some q6), [(Vl (.int .i64 8)), (Vl (.int .i64 r12)), (Vl (.int .i64 0)), (Sl Kf a0), (Vl (.slice none 0 0)), (Vl (.slice none 0 0)), (Vl (.slice none 0 0))], 27, none⟩, ⟨.pointer (some q4), [(Vl (.int .i64 8)), (Vl (.int .i64 r12)), (Vl (.int .i64 0)), (Sl Kf a0), (Vl (.slice none 0 0)), (Vl (.slice none 0 0)), (Vl (.slice none 0 0))], 27, none⟩]) rfl) rfl rfl bo_nil (wt_none' rfl) fun _ => ?_
    refine px_rd' rfl (rd_assign' rfl) rfl rfl (wt_none' rfl) ?_
    refine px_nil' ?_
    show TX E K6 _
    refine tx_k' hK6 ?_
    refine cx_retc' ?_
    replace hp := Option.some.inj hp
    subst hp
    refine tx_pick' (L' := [(4, (Vl (.pointer (some q4)))), (5, (Vl (.bool r18)))]) (H' := [⟨.pointer (some q4), [(Vl (.int .i64 8)), (Vl (.int .i64 r12)), (Vl (.int .i64 0)), (Sl Kf a0), (Vl (.slice none 0 0)), (Vl (.slice none 0 0)), (Vl (.slice none 0 0))], 27, none⟩]) [2] (sub_cons rfl (sub_cons rfl sub_nil)) (by decide) (pick_cons rfl pick_nil) ?_
    exact tx_ret2' Try.results32 rfl () (rv_cell_agg' (i := 0) (o := 0) (nn := 7) rfl ⟨rfl, rfl, rfl, rfl⟩ rfl agg27 rfl) (rv_tmp' rfl) rfl (List.nil_sublist _)

def laws_fRows (k : Nat) (a0 : List Nat) (a1 : List Int) (a2 : Int) : Option (Int × Int × Int × (List Nat) × (List Int) × Bool) :=
  (laws_fStride k a2) >>= fun r10 =>
  br (!r10)
    (some (0, 0, 0, [], [], false))
    ((laws_fLayout k a2) >>= fun r14 =>
    (laws_gGood k ([(T27.mk 3 r14 0 a0 a1 [] [])])) >>= fun r21 =>
    some (3, r14, 0, a0, a1, r21))

theorem laws_fRows_sim {k : Nat}  (a0 : List Nat) (a1 : List Int) (a2 : Int) {out : Int × Int × Int × (List Nat) × (List Int) × Bool} (hp : laws_fRows k a0 a1 a2 = some out) : Go.Sx.Fn Try.prog 11 [(Sl Kf a0), (Sl (Ki .i64) a1), (Vl (.int .i64 a2))] [] (fun w : Unit => (Tu [(Ag [(Vl (.int .i64 out.1)), (Vl (.int .i64 out.2.1)), (Vl (.int .i64 out.2.2.1)), (Sl Kf out.2.2.2.1), (Sl (Ki .i64) out.2.2.2.2.1), (Vl (.slice none 0 0)), (Vl (.slice none 0 0))]), (Vl (.bool out.2.2.2.2.2))])) (fun w => []) := by
  unfold laws_fRows at hp
  refine fn_of Try.func11 rfl Try.ntmps11 rfl fun E hM => ?_
  refine cx_seq' fun K1 hK1 => ?_
  refine cx_region' ?_
  refine sx_ox' (ox_alloc' info27 rfl rfl rfl rfl (l := [(Vl (.int .i64 0)), (Vl (.int .i64 0)), (Vl (.int .i64 0)), (Vl (.slice none 0 0)), (Vl (.slice none 0 0)), (Vl (.slice none 0 0)), (Vl (.slice none 0 0))]) rfl) (wt_none' rfl) fun q6 => ?_
  refine sx_rd' (rd_assign' rfl) rfl rfl (wt_none' rfl) ?_
  refine sx_nil' ?_
  show TX E K1 _
  refine tx_k' hK1 ?_
  refine cx_seq' fun K2 hK2 => ?_
  refine cx_seq' fun K3 hK3 => ?_
  refine cx_region' ?_
  refine sx_rd' (rd_move' rfl) rfl rfl (wt_none' rfl) ?_
  obtain ⟨r10, hr10, hp⟩ := bind_some hp
  refine sx_ox' (ox_calln' (ent_fn' Try.func21 isn21 rfl rfl) (laws_fStride_sim _ hr10 : Go.Sx.Fn Try.prog 21 [(Vl (.int .i64 a2))] [] (fun x : Unit => (Vl (.bool r10))) (fun x => [])) (Hn := fun x : Unit => [⟨.pointer (some q6), [(Vl (.int .i64 0)), (Vl (.int .i64 0)), (Vl (.int .i64 0)), (Vl (.slice none 0 0)), (Vl (.slice none 0 0)), (Vl (.slice none 0 0)), (Vl (.slice none 0 0))], 27, none⟩]) (fun _ => rfl) rfl rfl) (wt_none' rfl) fun ⟨⟩ => ?_
  refine sx_rd' (rd_un' rfl ru_not) rfl rfl (wt_none' rfl) ?_
  refine sx_nil' ?_
  show TX E K3 _
  refine tx_k' hK3 ?_
  refine cx_cond' rfl (fun h1 => ?_) (fun h1 => ?_)
  · replace hp := (br_t h1).symm.trans hp
    refine cx_seq' fun K4 hK4 => ?_
    refine cx_region' ?_
    refine sx_rd' (rd_build' (pls := [(0, 1), (1, 1), (2, 1), (3, 1), (4, 1), (5, 1), (6, 1)]) (qs := []) (r := [(Vl (.int .i64 0)), (Vl (.int .i64 0)), (Vl (.int .i64 0)), (Vl (.slice none 0 0)), (Vl (.slice none 0 0)), (Vl (.slice none 0 0)), (Vl (.slice none 0 0))]) trivial Try.underlying27 has27 places27 info27 rfl rfl rfl) rfl rfl (wt_none' rfl) ?_
    refine sx_ox' (ox_store' (i := 0) (o := 0) rfl rfl (lv_ag _) ⟨rfl, rfl, rfl, rfl⟩ rfl info27 rfl (H' := [⟨.pointer (some q6), [(Vl (.int .i64 0)), (Vl (.int .i64 0)), (Vl (.int .i64 0)), (Vl (.slice none 0 0)), (Vl (.slice none 0 0)), (Vl (.slice none 0 0)), (Vl (.slice none 0 0))], 27, none⟩]) rfl) (wt_none' rfl) fun _ => ?_
    refine sx_rd' (rd_assign' rfl) rfl rfl (wt_none' rfl) ?_
    refine sx_nil' ?_
    show TX E K4 _
    refine tx_k' hK4 ?_
    refine cx_retc' ?_
    replace hp := Option.some.inj hp
    subst hp
    refine tx_pick' (L' := [(6, (Vl (.pointer (some q6)))), (7, (Vl (.bool false)))]) (H' := [⟨.pointer (some q6), [(Vl (.int .i64 0)), (Vl (.int .i64 0)), (Vl (.int .i64 0)), (Vl (.slice none 0 0)), (Vl (.slice none 0 0)), (Vl (.slice none 0 0)), (Vl (.slice none 0 0))], 27, none⟩]) [0] (sub_cons rfl (sub_cons rfl sub_nil)) (by decide) (pick_cons rfl pick_nil) ?_
    exact tx_ret2' Try.results11 rfl () (rv_imp' (x := (Ag [(Vl (.int .i64 0)), (Vl (.int .i64 0)), (Vl (.int .i64 0)), (Vl (.slice none 0 0)), (Vl (.slice none 0 0)), (Vl (.slice none 0 0)), (Vl (.slice none 0 0))])) (y := (Ag [(Vl (.int .i64 0)), (Vl (.int .i64 0)), (Vl (.int .i64 0)), (Sl Kf []), (Sl (Ki .i64) []), (Vl (.slice none 0 0)), (Vl (.slice none 0 0))])) (rv_cell_agg' (i := 0) (o := 0) (nn := 7) rfl ⟨rfl, rfl, rfl, rfl⟩ rfl agg27 rfl) (imp_ag ⟨imp_refl, imp_refl, imp_refl, imp_nil, imp_nil, imp_refl, imp_refl, trivial⟩)) (rv_tmp' rfl) rfl (List.nil_sublist _)
  · replace hp := (br_f h1).symm.trans hp
    refine cx_skip' ?_
    show TX E K2 _
    refine tx_k' hK2 ?_
    refine cx_seq' fun K5 hK5 => ?_
    refine cx_region' ?_
    refine sx_rd' (rd_move' rfl) rfl rfl (wt_none' rfl) ?_
    obtain ⟨r14, hr14, hp⟩ := bind_some hp
    refine sx_ox' (ox_calln' (ent_fn' Try.func24 isn24 rfl rfl) (laws_fLayout_sim _ hr14 : Go.Sx.Fn Try.prog 24 [(Vl (.int .i64 a2))] [] (fun x : Unit => (Vl (.int .i64 r14))) (fun x => [])) (Hn := fun x : Unit => [⟨.pointer (some q6), [(Vl (.int .i64 0)), (Vl (.int .i64 0)), (Vl (.int .i64 0)), (Vl (.slice none 0 0)), (Vl (.slice none 0 0)), (Vl (.slice none 0 0)), (Vl (.slice none 0 0))], 27, none⟩]) (fun _ => rfl) rfl rfl) (wt_none' rfl) fun ⟨⟩ => ?_
    refine sx_rd' (rd_move' rfl) rfl rfl (wt_none' rfl) ?_
    refine sx_rd' (rd_move' rfl) rfl rfl (wt_none' rfl) ?_
    refine sx_rd' (rd_build' (pls := [(0, 1), (1, 1), (2, 1), (3, 1), (4, 1), (5, 1), (6, 1)]) (qs := [(0, [(Vl (.int .i64 3))]), (1, [(Vl (.int .i64 r14))]), (3, [(Sl Kf a0)]), (4, [(Sl (Ki .i64) a1)])]) (r := [(Vl (.int .i64 3)), (Vl (.int .i64 r14)), (Vl (.int .i64 0)), (Sl Kf a0), (Sl (Ki .i64) a1), (Vl (.slice none 0 0)), (Vl (.slice none 0 0))]) ⟨rfl, ⟨_, rfl, (lv_vl rfl rfl)⟩, ⟨rfl, ⟨_, rfl, (lv_vl rfl rfl)⟩, ⟨rfl, ⟨_, rfl, (lv_sl _ _)⟩, ⟨rfl, ⟨_, rfl, (lv_sl _ _)⟩, trivial⟩⟩⟩⟩ Try.underlying27 has27 places27 info27 rfl rfl rfl) rfl rfl (wt_none' rfl) ?_
    refine sx_ox' (ox_alloc' info27 rfl rfl rfl rfl (l := [(Vl (.int .i64 0)), (Vl (.int .i64 0)), (Vl (.int .i64 0)), (Vl (.slice none 0 0)), (Vl (.slice none 0 0)), (Vl (.slice none 0 0)), (Vl (.slice none 0 0))]) rfl) (wt_none' rfl) fun q8 => ?_
    refine sx_ox' (ox_store' (i := 0) (o := 0) rfl rfl (lv_ag _) ⟨rfl, rfl, rfl, rfl⟩ rfl info27 rfl (H' := [⟨.pointer (some q8), [(Vl (.int .i64 3)), (Vl (.int .i64 r14)), (Vl (.int .i64 0)), (Sl Kf a0), (Sl (Ki .i64) a1), (Vl (.slice none 0 0)), (Vl (.slice none 0 0))], 27, none⟩, ⟨.pointer (some q6), [(Vl (.int .i64 0)), (Vl (.int .i64 0)), (Vl (.int .i64 0)), (Vl (.slice none 0 0)), (Vl (.slice none 0 0)), (Vl (.slice none 0 0)), (Vl (.slice none 0 0))], 27, none⟩]) rfl) (wt_none' rfl) fun _ => ?_
    refine sx_nil' ?_
    show TX E K5 _
    refine tx_k' hK5 ?_
    refine cx_seq' fun K6 hK6 => ?_
    refine cx_plan' [] [(4, 1)] [(0, 1), (1, 1), (2, 0), (3, 0), (4, 0), (5, 1)] mixed (by kernel_rfl) ?_
    refine px_rd' rfl (rd_load_agg' (i := 0) (o := 0) (nn := 7) rfl ⟨rfl, rfl, rfl, rfl⟩ rfl agg27 (l' := [(Vl (.int .i64 3)), (Vl (.int .i64 r14)), (Vl (.int .i64 0)), (Sl Kf a0), (Sl (Ki .i64) a1), (Vl (.slice none 0 0)), (Vl (.slice none 0 0))]) rfl) rfl rfl (wt_none' rfl) ?_
    refine px_rd' rfl (rd_load_agg' (i := 0) (o := 0) (nn := 7) rfl ⟨rfl, rfl, rfl, rfl⟩ rfl agg27 (l' := [(Vl (.int .i64 3)), (Vl (.int .i64 r14)), (Vl (.int .i64 0)), (Sl Kf a0), (Sl (Ki .i64) a1), (Vl (.slice none 0 0)), (Vl (.slice none 0 0))]) rfl) rfl rfl (wt_none' rfl) ?_
    refine tx_slot' 19 (y := (Ag [(Vl (.int .i64 3)), (Vl (.int .i64 r14)), (Vl (.int .i64 0)), (Sl Kf a0), (Sl (Ki .i64) a1), (Sl (Kl (Ki .i64)) []), (Sl KT27 [])])) rfl (imp_ag ⟨imp_refl, imp_refl, imp_refl, imp_refl, imp_refl, imp_nil, imp_nil, trivial⟩) ?_
    refine px_ox' rfl (ox_rowlit' (K := KT27) (xs := [(T27.mk 3 r14 0 a0 a1 [] [])]) (qs := [(0, [(Vl (.int .i64 3)), (Vl (.int .i64 r14)), (Vl (.int .i64 0)), (Sl Kf a0), (Sl (Ki .i64) a1), (Sl (Kl (Ki .i64)) []), (Sl KT27 [])])]) ⟨rfl, ⟨_, rfl, (lv_ag _)⟩, trivial⟩ Try.underlying25 info27 rfl rfl rfl rfl rfl (by simp only [List.flatMap_cons, List.flatMap_nil, KT27_enc, List.append_nil]; kernel_rfl) rfl rfl rfl) rfl bs_nil (wt_none' rfl) fun g20 => ?_
    obtain ⟨r21, hr21, hp⟩ := bind_some hp
    refine px_ox' rfl (ox_brw' (frz_row 0 [(20, (Vl (Vs g20)), (Sl KT27 ([(T27.mk 3 r14 0 a0 a1 [] [])])))] (K := KT27) (xs := [(T27.mk 3 r14 0 a0 a1 [] [])]) (by decide) rfl ⟨⟨rfl, frz_it⟩, trivial⟩ (H' := [⟨.pointer (some q8), [(Vl (.int .i64 3)), (Vl (.int .i64 r14)), (Vl (.int .i64 0)), (Sl Kf a0), (Sl (Ki .i64) a1), (Vl (.slice none 0 0)), (Vl (.slice none 0 0))], 27, none⟩, ⟨.pointer (some q6), [(Vl (.int .i64 0)), (Vl (.int .i64 0)), (Vl (.int .i64 0)), (Vl (.slice none 0 0)), (Vl (.slice none 0 0)), (Vl (.slice none 0 0)), (Vl (.slice none 0 0))], 27, none⟩]) frzH_refl) (ent_fn' Try.func52 isn52 rfl rfl) (laws_gGood_sim _ hr21 : Go.Sx.Fn Try.prog 52 [(Sl KT27 ([(T27.mk 3 r14 0 a0 a1 [] [])]))] [] (fun x : Unit => (Vl (.bool r21))) (fun x => [])) pu_vl rfl rfl) rfl bs_nil (wt_none' rfl) fun ⟨⟩ => ?_
    refine px_oxv' rfl (oxv_store (i := 2) (o := 0) rfl rfl (lv_ag _) ⟨rfl, rfl, rfl, rfl⟩ rfl info27 rfl (H' := [(Rw KT27 27 (Vs g20) ([(T27.mk 3 r14 0 a0 a1 [] [])])), ⟨.pointer (some q8), [(Vl (.int .i64 3)), (Vl (.int .i64 r14)), (Vl (.int .i64 0)), (Sl Kf a0), (Sl (Ki .i64) a1), (Vl (.slice none 0 0)), (Vl (.slice none 0 0))], 27, none⟩, ⟨.pointer (some q6), [(Vl (.int .i64 3)), (Vl (.int .i64 r14)), (Vl (.int .i64 0)), (Sl Kf a0), (Sl (Ki .i64) a1), (Vl (.slice none 0 0)), (Vl (.slice none 0 0))], 27, none⟩]) rfl) rfl rfl bo_nil (wt_none' rfl) fun _ => ?_
    refine px_rd' rfl (rd_assign' rfl) rfl rfl (wt_none' rfl) ?_
    refine px_nil' ?_
    show TX E K6 _
    refine tx_k' hK6 ?_
    refine cx_retc' ?_
    replace hp := Option.some.inj hp
    subst hp
    refine tx_pick' (L' := [(6, (Vl (.pointer (some q6)))), (7, (Vl (.bool r21)))]) (H' := [⟨.pointer (some q6), [(Vl (.int .i64 3)), (Vl (.int .i64 r14)), (Vl (.int .i64 0)), (Sl Kf a0), (Sl (Ki .i64) a1), (Vl (.slice none 0 0)), (Vl (.slice none 0 0))], 27, none⟩]) [2] (sub_cons rfl (sub_cons rfl sub_nil)) (by decide) (pick_cons rfl pick_nil) ?_
    exact tx_ret2' Try.results11 rfl () (rv_cell_agg' (i := 0) (o := 0) (nn := 7) rfl ⟨rfl, rfl, rfl, rfl⟩ rfl agg27 rfl) (rv_tmp' rfl) rfl (List.nil_sublist _)

def laws_fRowss (k : Nat) (a0 : List Nat) (a1 : List (List Int)) (a2 : Int) : Option (Int × Int × Int × (List Nat) × (List (List Int)) × Bool) :=
  (laws_fStride k a2) >>= fun r10 =>
  br (!r10)
    (some (0, 0, 0, [], [], false))
    ((laws_fLayout k a2) >>= fun r14 =>
    (laws_gGood k ([(T27.mk 6 r14 0 a0 [] a1 [])])) >>= fun r21 =>
    some (6, r14, 0, a0, a1, r21))

theorem laws_fRowss_sim {k : Nat}  (a0 : List Nat) (a1 : List (List Int)) (a2 : Int) {out : Int × Int × Int × (List Nat) × (List (List Int)) × Bool} (hp : laws_fRowss k a0 a1 a2 = some out) : Go.Sx.Fn Try.prog 38 [(Sl Kf a0), (Sl (Kl (Ki .i64)) a1), (Vl (.int .i64 a2))] [] (fun w : Unit => (Tu [(Ag [(Vl (.int .i64 out.1)), (Vl (.int .i64 out.2.1)), (Vl (.int .i64 out.2.2.1)), (Sl Kf out.2.2.2.1), (Vl (.slice none 0 0)), (Sl (Kl (Ki .i64)) out.2.2.2.2.1), (Vl (.slice none 0 0))]), (Vl (.bool out.2.2.2.2.2))])) (fun w => []) := by
  unfold laws_fRowss at hp
  refine fn_of Try.func38 rfl Try.ntmps38 rfl fun E hM => ?_
  refine cx_seq' fun K1 hK1 => ?_
  refine cx_region' ?_
  refine sx_ox' (ox_alloc' info27 rfl rfl rfl rfl (l := [(Vl (.int .i64 0)), (Vl (.int .i64 0)), (Vl (.int .i64 0)), (Vl (.slice none 0 0)), (Vl (.slice none 0 0)), (Vl (.slice none 0 0)), (Vl (.slice none 0 0))]) rfl) (wt_none' rfl) fun q6 => ?_
  refine sx_rd' (rd_assign' rfl) rfl rfl (wt_none' rfl) ?_
  refine sx_nil' ?_
  show TX E K1 _
  refine tx_k' hK1 ?_
  refine cx_seq' fun K2 hK2 => ?_
  refine cx_seq' fun K3 hK3 => ?_
  refine cx_region' ?_
  refine sx_rd' (rd_move' rfl) rfl rfl (wt_none' rfl) ?_
  obtain ⟨r10, hr10, hp⟩ := bind_some hp
  refine sx_ox' (ox_calln' (ent_fn' Try.func21 isn21 rfl rfl) (laws_fStride_sim _ hr10 : Go.Sx.Fn Try.prog 21 [(Vl (.int .i64 a2))] [] (fun x : Unit => (Vl (.bool r10))) (fun x => [])) (Hn := fun x : Unit => [⟨.pointer (some q6), [(Vl (.int .i64 0)), (Vl (.int .i64 0)), (Vl (.int .i64 0)), (Vl (.slice none 0 0)), (Vl (.slice none 0 0)), (Vl (.slice none 0 0)), (Vl (.slice none 0 0))], 27, none⟩]) (fun _ => rfl) rfl rfl) (wt_none' rfl) fun ⟨⟩ => ?_
  refine sx_rd' (rd_un' rfl ru_not) rfl rfl (wt_none' rfl) ?_
  refine sx_nil' ?_
  show TX E K3 _
  refine tx_k' hK3 ?_
  refine cx_cond' rfl (fun h1 => ?_) (fun h1 => ?_)
  · replace hp := (br_t h1).symm.trans hp
    refine cx_seq' fun K4 hK4 => ?_
    refine cx_region' ?_
    refine sx_rd' (rd_build' (pls := [(0, 1), (1, 1), (2, 1), (3, 1), (4, 1), (5, 1), (6, 1)]) (qs := []) (r := [(Vl (.int .i64 0)), (Vl (.int .i64 0)), (Vl (.int .i64 0)), (Vl (.slice none 0 0)), (Vl (.slice none 0 0)), (Vl (.slice none 0 0)), (Vl (.slice none 0 0))]) trivial Try.underlying27 has27 places27 info27 rfl rfl rfl) rfl rfl (wt_none' rfl) ?_
    refine sx_ox' (ox_store' (i := 0) (o := 0) rfl rfl (lv_ag _) ⟨rfl, rfl, rfl, rfl⟩ rfl info27 rfl (H' := [⟨.pointer (some q6), [(Vl (.int .i64 0)), (Vl (.int .i64 0)), (Vl (.int .i64 0)), (Vl (.slice none 0 0)), (Vl (.slice none 0 0)), (Vl (.slice none 0 0)), (Vl (.slice none 0 0))], 27, none⟩]) rfl) (wt_none' rfl) fun _ => ?_
    refine sx_rd' (rd_assign' rfl) rfl rfl (wt_none' rfl) ?_
    refine sx_nil' ?_
    show TX E K4 _
    refine tx_k' hK4 ?_
    refine cx_retc' ?_
    replace hp := Option.some.inj hp
    subst hp
    refine tx_pick' (L' := [(6, (Vl (.pointer (some q6)))), (7, (Vl (.bool false)))]) (H' := [⟨.pointer (some q6), [(Vl (.int .i64 0)), (Vl (.int .i64 0)), (Vl (.int .i64 0)), (Vl (.slice none 0 0)), (Vl (.slice none 0 0)), (Vl (.slice none 0 0)), (Vl (.slice none 0 0))], 27, none⟩]) [0] (sub_cons rfl (sub_cons rfl sub_nil)) (by decide) (pick_cons rfl pick_nil) ?_
    exact tx_ret2' Try.results38 rfl () (rv_imp' (x := (Ag [(Vl (.int .i64 0)), (Vl (.int .i64 0)), (Vl (.int .i64 0)), (Vl (.slice none 0 0)), (Vl (.slice none 0 0)), (Vl (.slice none 0 0)), (Vl (.slice none 0 0))])) (y := (Ag [(Vl (.int .i64 0)), (Vl (.int .i64 0)), (Vl (.int .i64 0)), (Sl Kf []), (Vl (.slice none 0 0)), (Sl (Kl (Ki .i64)) []), (Vl (.slice none 0 0))])) (rv_cell_agg' (i := 0) (o := 0) (nn := 7) rfl ⟨rfl, rfl, rfl, rfl⟩ rfl agg27 rfl) (imp_ag ⟨imp_refl, imp_refl, imp_refl, imp_nil, imp_refl, imp_nil, imp_refl, trivial⟩)) (rv_tmp' rfl) rfl (List.nil_sublist _)
  · replace hp := (br_f h1).symm.trans hp
    refine cx_skip' ?_
    show TX E K2 _
    refine tx_k' hK2 ?_
    refine cx_seq' fun K5 hK5 => ?_
    refine cx_region' ?_
    refine sx_rd' (rd_move' rfl) rfl rfl (wt_none' rfl) ?_
    obtain ⟨r14, hr14, hp⟩ := bind_some hp
    refine sx_ox' (ox_calln' (ent_fn' Try.func24 isn24 rfl rfl) (laws_fLayout_sim _ hr14 : Go.Sx.Fn Try.prog 24 [(Vl (.int .i64 a2))] [] (fun x : Unit => (Vl (.int .i64 r14))) (fun x => [])) (Hn := fun x : Unit => [⟨.pointer (some q6), [(Vl (.int .i64 0)), (Vl (.int .i64 0)), (Vl (.int .i64 0)), (Vl (.slice none 0 0)), (Vl (.slice none 0 0)), (Vl (.slice none 0 0)), (Vl (.slice none 0 0))], 27, none⟩]) (fun _ => rfl) rfl rfl) (wt_none' rfl) fun ⟨⟩ => ?_
    refine sx_rd' (rd_move' rfl) rfl rfl (wt_none' rfl) ?_
    refine sx_rd' (rd_move' rfl) rfl rfl (wt_none' rfl) ?_
    refine sx_rd' (rd_build' (pls := [(0, 1), (1, 1), (2, 1), (3, 1), (4, 1), (5, 1), (6, 1)]) (qs := [(0, [(Vl (.int .i64 6))]), (1, [(Vl (.int .i64 r14))]), (3, [(Sl Kf a0)]), (5, [(Sl (Kl (Ki .i64)) a1)])]) (r := [(Vl (.int .i64 6)), (Vl (.int .i64 r14)), (Vl (.int .i64 0)), (Sl Kf a0), (Vl (.slice none 0 0)), (Sl (Kl (Ki .i64)) a1), (Vl (.slice none 0 0))]) ⟨rfl, ⟨_, rfl, (lv_vl rfl rfl)⟩, ⟨rfl, ⟨_, rfl, (lv_vl rfl rfl)⟩, ⟨rfl, ⟨_, rfl, (lv_sl _ _)⟩, ⟨rfl, ⟨_, rfl, (lv_sl _ _)⟩, trivial⟩⟩⟩⟩ Try.underlying27 has27 places27 info27 rfl rfl rfl) rfl rfl (wt_none' rfl) ?_
    refine sx_ox' (ox_alloc' info27 rfl rfl rfl rfl (l := [(Vl (.int .i64 0)), (Vl (.int .i64 0)), (Vl (.int .i64 0)), (Vl (.slice none 0 0)), (Vl (.slice none 0 0)), (Vl (.slice none 0 0)), (Vl (.slice none 0 0))]) rfl) (wt_none' rfl) fun q8 => ?_
    refine sx_ox' (ox_store' (i := 0) (o := 0) rfl rfl (lv_ag _) ⟨rfl, rfl, rfl, rfl⟩ rfl info27 rfl (H' := [⟨.pointer (some q8), [(Vl (.int .i64 6)), (Vl (.int .i64 r14)), (Vl (.int .i64 0)), (Sl Kf a0), (Vl (.slice none 0 0)), (Sl (Kl (Ki .i64)) a1), (Vl (.slice none 0 0))], 27, none⟩, ⟨.pointer (some q6), [(Vl (.int .i64 0)), (Vl (.int .i64 0)), (Vl (.int .i64 0)), (Vl (.slice none 0 0)), (Vl (.slice none 0 0)), (Vl (.slice none 0 0)), (Vl (.slice none 0 0))], 27, none⟩]) rfl) (wt_none' rfl) fun _ => ?_
    refine sx_nil' ?_
    show TX E K5 _
    refine tx_k' hK5 ?_
    refine cx_seq' fun K6 hK6 => ?_
    refine cx_plan' [] [(4, 1)] [(0, 1), (1, 1), (2, 0), (3, 0), (4, 0), (5, 1)] mixed (by kernel_rfl) ?_
    refine px_rd' rfl (rd_load_agg' (i := 0) (o := 0) (nn := 7) rfl ⟨rfl, rfl, rfl, rfl⟩ rfl agg27 (l' := [(Vl (.int .i64 6)), (Vl (.int .i64 r14)), (Vl (.int .i64 0)), (Sl Kf a0), (Vl (.slice none 0 0)), (Sl (Kl (Ki .i64)) a1), (Vl (.slice none 0 0))]) rfl) rfl rfl (wt_none' rfl) ?_
    refine px_rd' rfl (rd_load_agg' (i := 0) (o := 0) (nn := 7) rfl ⟨rfl, rfl, rfl, rfl⟩ rfl agg27 (l' := [(Vl (.int .i64 6)), (Vl (.int .i64 r14)), (Vl (.int .i64 0)), (Sl Kf a0), (Vl (.slice none 0 0)), (Sl (Kl (Ki .i64)) a1), (Vl (.slice none 0 0))]) rfl) rfl rfl (wt_none' rfl) ?_
    refine tx_slot' 19 (y := (Ag [(Vl (.int .i64 6)), (Vl (.int .i64 r14)), (Vl (.int .i64 0)), (Sl Kf a0), (Sl (Ki .i64) []), (Sl (Kl (Ki .i64)) a1), (Sl KT27 [])])) rfl (imp_ag ⟨imp_refl, imp_refl, imp_refl, imp_refl, imp_nil, imp_refl, imp_nil, trivial⟩) ?_
    refine px_ox' rfl (ox_rowlit' (K := KT27) (xs := [(T27.mk 6 r14 0 a0 [] a1 [])]) (qs := [(0, [(Vl (.int .i64 6)), (Vl (.int .i64 r14)), (Vl (.int .i64 0)), (Sl Kf a0), (Sl (Ki .i64) []), (Sl (Kl (Ki .i64)) a1), (Sl KT27 [])])]) ⟨rfl, ⟨_, rfl, (lv_ag _)⟩, trivial⟩ Try.underlying25 info27 rfl rfl rfl rfl rfl (by simp only [List.flatMap_cons, List.flatMap_nil, KT27_enc, List.append_nil]; kernel_rfl) rfl rfl rfl) rfl bs_nil (wt_none' rfl) fun g20 => ?_
    obtain ⟨r21, hr21, hp⟩ := bind_some hp
    refine px_ox' rfl (ox_brw' (frz_row 0 [(20, (Vl (Vs g20)), (Sl KT27 ([(T27.mk 6 r14 0 a0 [] a1 [])])))] (K := KT27) (xs := [(T27.mk 6 r14 0 a0 [] a1 [])]) (by decide) rfl ⟨⟨rfl, frz_it⟩, trivial⟩ (H' := [⟨.pointer (some q8), [(Vl (.int .i64 6)), (Vl (.int .i64 r14)), (Vl (.int .i64 0)), (Sl Kf a0), (Vl (.slice none 0 0)), (Sl (Kl (Ki .i64)) a1), (Vl (.slice none 0 0))], 27, none⟩, ⟨.pointer (some q6), [(Vl (.int .i64 0)), (Vl (.int .i64 0)), (Vl (.int .i64 0)), (Vl (.slice none 0 0)), (Vl (.slice none 0 0)), (Vl (.slice none 0 0)), (Vl (.slice none 0 0))], 27, none⟩]) frzH_refl) (ent_fn' Try.func52 isn52 rfl rfl) (laws_gGood_sim _ hr21 : Go.Sx.Fn Try.prog 52 [(Sl KT27 ([(T27.mk 6 r14 0 a0 [] a1 [])]))] [] (fun x : Unit => (Vl (.bool r21))) (fun x => [])) pu_vl rfl rfl) rfl bs_nil (wt_none' rfl) fun ⟨⟩ => ?_
    refine px_oxv' rfl (oxv_store (i := 2) (o := 0) rfl rfl (lv_ag _) ⟨rfl, rfl, rfl, rfl⟩ rfl info27 rfl (H' := [(Rw KT27 27 (Vs g20) ([(T27.mk 6 r14 0 a0 [] a1 [])])), ⟨.pointer (some q8), [(Vl (.int .i64 6)), (Vl (.int .i64 r14)), (Vl (.int .i64 0)), (Sl Kf a0), (Vl (.slice none 0 0)), (Sl (Kl (Ki .i64)) a1), (Vl (.slice none 0 0))], 27, none⟩, ⟨.pointer (some q6), [(Vl (.int .i64 6)), (Vl (.int .i64 r14)), (Vl (.int .i64 0)), (Sl Kf a0), (Vl (.slice none 0 0)), (Sl (Kl (Ki .i64)) a1), (Vl (.slice none 0 0))], 27, none⟩]) rfl) rfl rfl bo_nil (wt_none' rfl) fun _ => ?_
    refine px_rd' rfl (rd_assign' rfl) rfl rfl (wt_none' rfl) ?_
    refine px_nil' ?_
    show TX E K6 _
    refine tx_k' hK6 ?_
    refine cx_retc' ?_
    replace hp := Option.some.inj hp
    subst hp
    refine tx_pick' (L' := [(6, (Vl (.pointer (some q6)))), (7, (Vl (.bool r21)))]) (H' := [⟨.pointer (some q6), [(Vl (.int .i64 6)), (Vl (.int .i64 r14)), (Vl (.int .i64 0)), (Sl Kf a0), (Vl (.slice none 0 0)), (Sl (Kl (Ki .i64)) a1), (Vl (.slice none 0 0))], 27, none⟩]) [2] (sub_cons rfl (sub_cons rfl sub_nil)) (by decide) (pick_cons rfl pick_nil) ?_
    exact tx_ret2' Try.results38 rfl () (rv_cell_agg' (i := 0) (o := 0) (nn := 7) rfl ⟨rfl, rfl, rfl, rfl⟩ rfl agg27 rfl) (rv_tmp' rfl) rfl (List.nil_sublist _)

def gogeom_inflate0 (k : Nat) (a0 : List Nat) (a1 : Int) (a2 : Int) (a3 : Int) : Option ((List Nat)) :=
  br (!decide ((iadd .i64 a1 a3) = a2))
    (none)
    ((mk 8 0 a3 a3) >>= fun r17 =>
    (cut a0 a1 a2) >>= fun r22 =>
    some (cpy r17 r22))

theorem gogeom_inflate0_sim {k : Nat}  (a0 : List Nat) (a1 : Int) (a2 : Int) (a3 : Int) {out : (List Nat)} (hp : gogeom_inflate0 k a0 a1 a2 a3 = some out) : Go.Sx.Fn Try.prog 141 [(Sl Kf a0), (Vl (.int .i64 a1)), (Vl (.int .i64 a2)), (Vl (.int .i64 a3))] [] (fun w : Unit => (Sl Kf out)) (fun w => []) := by
  unfold gogeom_inflate0 at hp
  refine fn_of Try.func141 rfl Try.ntmps141 rfl fun E hM => ?_
  refine cx_seq' fun K1 hK1 => ?_
  refine cx_region' ?_
  refine sx_rd' (rd_assign' rfl) rfl rfl (wt_none' rfl) ?_
  refine sx_nil' ?_
  show TX E K1 _
  refine tx_k' hK1 ?_
  refine cx_seq' fun K2 hK2 => ?_
  refine cx_seq' fun K3 hK3 => ?_
  refine cx_region' ?_
  refine sx_rd' (rd_move' rfl) rfl rfl (wt_none' rfl) ?_
  refine sx_rd' (rd_move' rfl) rfl rfl (wt_none' rfl) ?_
  refine sx_rd' (rd_bin' rfl rfl eg_int ru_add) rfl rfl (wt_none' rfl) ?_
  refine sx_rd' (rd_move' rfl) rfl rfl (wt_none' rfl) ?_
  refine sx_rd' (rd_bin' rfl rfl eg_int ru_neq) rfl rfl (wt_none' rfl) ?_
  refine sx_nil' ?_
  show TX E K3 _
  refine tx_k' hK3 ?_
  refine cx_cond' rfl (fun h1 => ?_) (fun h1 => ?_)
  · replace hp := (br_t h1).symm.trans hp
    refine cx_region' ?_
    refine sx_rd' (rd_iface' rfl ⟨_, Try.underlying9, fun _ h => (nomatch h)⟩) rfl rfl (wt_none' rfl) ?_
    cases hp
  · replace hp := (br_f h1).symm.trans hp
    refine cx_skip' ?_
    show TX E K2 _
    refine tx_k' hK2 ?_
    refine cx_seq' fun K4 hK4 => ?_
    refine cx_region' ?_
    refine sx_rd' (rd_move' rfl) rfl rfl (wt_none' rfl) ?_
    obtain ⟨r17, hr17, hp⟩ := bind_some hp
    refine sx_ox' (ox_make' (K := Kf) rfl rfl hr17 rfl Try.underlying22 info32 rfl rfl rfl rfl rfl) (wt_none' rfl) fun g17 => ?_
    refine sx_rd' (rd_assign' rfl) rfl rfl (wt_none' rfl) ?_
    refine sx_nil' ?_
    show TX E K4 _
    refine tx_k' hK4 ?_
    refine cx_seq' fun K5 hK5 => ?_
    refine cx_region' ?_
    refine sx_rd' (rd_move' rfl) rfl rfl (wt_none' rfl) ?_
    refine sx_rd' (rd_move' rfl) rfl rfl (wt_none' rfl) ?_
    refine sx_rd' (rd_move' rfl) rfl rfl (wt_none' rfl) ?_
    refine sx_rd' (rd_move' rfl) rfl rfl (wt_none' rfl) ?_
    obtain ⟨r22, hr22, hp⟩ := bind_some hp
    refine sx_rd' (rd_cut_lh' rfl rfl rfl hr22 Try.underlying22 info32) rfl rfl (wt_none' rfl) ?_
    refine sx_ox' (ox_copy' (i := 0) rfl rfl rfl rfl rfl Try.underlying22 info32 rfl rfl (H' := [(Rw Kf 32 (Vs g17) (cpy r17 r22))]) rfl) (wt_none' rfl) fun _ => ?_
    refine sx_nil' ?_
    show TX E K5 _
    refine tx_k' hK5 ?_
    refine cx_seq' fun K6 hK6 => ?_
    refine cx_region' ?_
    refine sx_rd' (rd_move' rfl) rfl rfl (wt_none' rfl) ?_
    refine sx_rd' (rd_assign' rfl) rfl rfl (wt_none' rfl) ?_
    refine sx_nil' ?_
    show TX E K6 _
    refine tx_k' hK6 ?_
    refine cx_retc' ?_
    replace hp := Option.some.inj hp
    subst hp
    refine tx_fz' (frz_row 0 [(8, (Vl (Vs g17)), (Sl Kf (cpy r17 r22))), (17, (Vl (Vs g17)), (Sl Kf (cpy r17 r22))), (9, (Vl (Vs g17)), (Sl Kf (cpy r17 r22))), (18, (Vl (Vs g17)), (Sl Kf (cpy r17 r22))), (24, (Vl (Vs g17)), (Sl Kf (cpy r17 r22)))] (K := Kf) (xs := cpy r17 r22) (by decide) rfl ⟨⟨rfl, frz_it⟩, ⟨rfl, frz_it⟩, ⟨rfl, frz_it⟩, ⟨rfl, frz_it⟩, ⟨rfl, frz_it⟩, trivial⟩ (H' := []) frzH_refl) ?_
    refine tx_pick' (L' := [(8, (Sl Kf (cpy r17 r22)))]) (H' := []) [] (sub_cons rfl sub_nil) (by decide) pick_nil ?_
    exact tx_ret1' Try.results141 rfl () (rv_tmp' rfl) (List.Sublist.refl _)

def gogeom_inflate1_l1s (r16 : List (List Nat)) (a0 : List Nat) (a3 : Int) (k : Nat) (rec1 : (Int × (List (List Nat)) × Int) → Option ((List (List Nat)))) (x1 : Int) (x2 : List (List Nat)) (x3 : Int) : Option ((List (List Nat))) :=
  br (decide (x3 < (r16.length : Int)))
    ((gogeom_inflate0 k a0 x1 (iadd .i64 x1 a3) a3) >>= fun r30 =>
    (idx x2 x3) >>= fun r31 =>
    rec1 ((iadd .i64 x1 a3), (x2.set x3.toNat r30), (iadd .i64 x3 1)))
    (some x2)
def gogeom_inflate1_l1 (r16 : List (List Nat)) (a0 : List Nat) (a3 : Int) : Nat → (Int × (List (List Nat)) × Int) → Option ((List (List Nat)))
  | 0, _ => none
  | k + 1, v => gogeom_inflate1_l1s r16 a0 a3 k (gogeom_inflate1_l1 r16 a0 a3 k) v.1 v.2.1 v.2.2
def gogeom_inflate1 (k : Nat) (a0 : List Nat) (a1 : Int) (a2 : Int) (a3 : Int) : Option ((List (List Nat))) :=
  (iquo .i64 (isub .i64 a2 a1) a3) >>= fun r15 =>
  (mk 24 [] r15 r15) >>= fun r16 =>
  (gogeom_inflate1_l1 r16 a0 a3 k (a1, r16, 0)) >>= fun v2 =>
  some v2

theorem gogeom_inflate1_sim {k : Nat}  (a0 : List Nat) (a1 : Int) (a2 : Int) (a3 : Int) {out : (List (List Nat))} (hp : gogeom_inflate1 k a0 a1 a2 a3 = some out) : Go.Sx.Fn Try.prog 119 [(Sl Kf a0), (Vl (.int .i64 a1)), (Vl (.int .i64 a2)), (Vl (.int .i64 a3))] [] (fun w : Unit => (Sl (Kl Kf) out)) (fun w => []) := by
  unfold gogeom_inflate1 at hp
  refine fn_of Try.func119 rfl Try.ntmps119 rfl fun E hM => ?_
  refine cx_seq' fun K1 hK1 => ?_
  refine cx_region' ?_
  refine sx_rd' (rd_assign' rfl) rfl rfl (wt_none' rfl) ?_
  refine sx_nil' ?_
  show TX E K1 _
  refine tx_k' hK1 ?_
  refine cx_seq' fun K2 hK2 => ?_
  refine cx_region' ?_
  refine sx_rd' (rd_move' rfl) rfl rfl (wt_none' rfl) ?_
  refine sx_rd' (rd_move' rfl) rfl rfl (wt_none' rfl) ?_
  refine sx_rd' (rd_bin' rfl rfl eg_int ru_sub) rfl rfl (wt_none' rfl) ?_
  refine sx_rd' (rd_move' rfl) rfl rfl (wt_none' rfl) ?_
  obtain ⟨r15, hr15, hp⟩ := bind_some hp
  refine sx_rd' (rd_bin' rfl rfl eg_int (ru_quo hr15)) rfl rfl (wt_none' rfl) ?_
  obtain ⟨r16, hr16, hp⟩ := bind_some hp
  refine sx_ox' (ox_makes' (K := (Kl Kf)) rfl rfl hr16 rfl Try.underlying117 info140 rfl rfl ⟨nil_sl0, trivial⟩ rfl rfl) (wt_none' rfl) fun g16 => ?_
  refine sx_rd' (rd_assign' rfl) rfl rfl (wt_none' rfl) ?_
  refine sx_nil' ?_
  show TX E K2 _
  refine tx_k' hK2 ?_
  refine cx_seq' fun K3 hK3 => ?_
  refine cx_seq' fun K4 hK4 => ?_
  refine cx_region' ?_
  refine sx_rd' (rd_move' rfl) rfl rfl (wt_none' rfl) ?_
  refine sx_rd' (rd_lenr' (i := 0) rfl rfl rfl Try.underlying117) rfl rfl (wt_none' rfl) ?_
  refine sx_rd' (rd_move' rfl) rfl rfl (wt_none' rfl) ?_
  refine sx_nil' ?_
  show TX E K4 _
  refine tx_k' hK4 ?_
  refine cx_block' ?_
  obtain ⟨v2, hy1, hp⟩ := bind_some hp
  refine cx_loopg' (F := gogeom_inflate1_l1 r16 a0 a3) (G := fun k R v => gogeom_inflate1_l1s r16 a0 a3 k R v.1 v.2.1 v.2.2) (x := (a1, r16, 0)) (gh := ()) (fun (v1 : Int × (List (List Nat)) × Int) (w1 : Unit) => (⟨37, [], [(0, (Sl Kf a0)), (1, (Vl (.int .i64 v1.1))), (3, (Vl (.int .i64 a3))), (9, (Vl (Vs g16))), (18, (Vl (.int .i64 (r16.length : Int)))), (19, (Vl (.int .i64 v1.2.2)))], [(Rw (Kl Kf) 140 (Vs g16) v1.2.1)]⟩ : St)) (fun (v2 : (List (List Nat))) => Zg E (Exit.exit 0) (fun (w2 : Unit) => (⟨37, [], [(9, (Vl (Vs g16)))], [(Rw (Kl Kf) 140 (Vs g16) v2)]⟩ : St))) (fun _ => rfl) (fun _ _ => rfl) ?_ hy1 (tx_to' rfl [0] (sub_cons rfl (sub_cons rfl (sub_cons rfl (sub_cons rfl (sub_cons rfl (sub_cons rfl sub_nil)))))) (by decide) (pick_cons rfl pick_nil)) ?_
  · clear hp hy1
    clear v2
    intro k rec1 KY1 ih1
    rintro ⟨x1, x2, x3⟩ ⟨⟩ y1 hp
    replace hp : gogeom_inflate1_l1s r16 a0 a3 k rec1 x1 x2 x3 = some y1 := hp
    unfold gogeom_inflate1_l1s at hp
    refine cx_seq' fun K10 hK10 => ?_
    refine cx_region' ?_
    refine sx_rd' (rd_bin' rfl rfl eg_int ru_lss) rfl rfl (wt_none' rfl) ?_
    refine sx_nil' ?_
    show TX E K10 _
    refine tx_k' hK10 ?_
    refine cx_seq' fun K11 hK11 => ?_
    refine cx_cond' rfl (fun h3 => ?_) (fun h3 => ?_)
    · replace hp := (br_t h3).symm.trans hp
      refine cx_skip' ?_
      show TX E K11 _
      refine tx_k' hK11 ?_
      refine cx_seq' fun K12 hK12 => ?_
      refine cx_block' ?_
      refine cx_seq' fun K13 hK13 => ?_
      refine cx_region' ?_
      refine sx_rd' (rd_move' rfl) rfl rfl (wt_none' rfl) ?_
      refine sx_rd' (rd_assign' rfl) rfl rfl (wt_none' rfl) ?_
      refine sx_nil' ?_
      show TX E K13 _
      refine tx_k' hK13 ?_
      refine cx_seq' fun K14 hK14 => ?_
      refine cx_region' ?_
      refine sx_rd' (rd_move' rfl) rfl rfl (wt_none' rfl) ?_
      refine sx_rd' (rd_move' rfl) rfl rfl (wt_none' rfl) ?_
      refine sx_rd' (rd_move' rfl) rfl rfl (wt_none' rfl) ?_
      refine sx_rd' (rd_move' rfl) rfl rfl (wt_none' rfl) ?_
      refine sx_rd' (rd_move' rfl) rfl rfl (wt_none' rfl) ?_
      refine sx_rd' (rd_move' rfl) rfl rfl (wt_none' rfl) ?_
      refine sx_rd' (rd_bin' rfl rfl eg_int ru_add) rfl rfl (wt_none' rfl) ?_
      refine sx_rd' (rd_move' rfl) rfl rfl (wt_none' rfl) ?_
      obtain ⟨r30, hr30, hp⟩ := bind_some hp
      refine sx_ox' (ox_calln' (ent_fn' Try.func141 isn141 rfl rfl) (gogeom_inflate0_sim _ _ _ _ hr30 : Go.Sx.Fn Try.prog 141 [(Sl Kf a0), (Vl (.int .i64 x1)), (Vl (.int .i64 (iadd .i64 x1 a3))), (Vl (.int .i64 a3))] [] (fun x : Unit => (Sl Kf r30)) (fun x => [])) (Hn := fun x : Unit => [(Rw (Kl Kf) 140 (Vs g16) x2)]) (fun _ => rfl) rfl rfl) (wt_none' rfl) fun ⟨⟩ => ?_
      obtain ⟨r31, hr31, hp⟩ := bind_some hp
      refine sx_rd' (rd_atr' (m := 0) rfl rfl rfl rfl hr31 Try.underlying117 info140) rfl rfl (wt_none' rfl) ?_
      refine sx_ox' (ox_storer' (m := 0) (i := x3) (j := 0) (x' := r30) rfl rfl (lv_sl _ _) rfl rfl hr31 rfl rfl rfl info140 rfl (H' := [(Rw (Kl Kf) 140 (Vs g16) (x2.set x3.toNat r30))]) rfl) (wt_none' rfl) fun _ => ?_
      refine sx_nil' ?_
      show TX E K14 _
      refine tx_k' hK14 ?_
      refine cx_region' ?_
      refine sx_rd' (rd_move' rfl) rfl rfl (wt_none' rfl) ?_
      refine sx_rd' (rd_move' rfl) rfl rfl (wt_none' rfl) ?_
      refine sx_rd' (rd_bin' rfl rfl eg_int ru_add) rfl rfl (wt_none' rfl) ?_
      refine sx_rd' (rd_assign' rfl) rfl rfl (wt_none' rfl) ?_
      refine sx_nil' ?_
      show TX E K12 _
      refine tx_k' hK12 ?_
      refine cx_region' ?_
      refine sx_rd' (rd_bin' rfl rfl eg_int ru_add) rfl rfl (wt_none' rfl) ?_
      refine sx_rd' (rd_move' rfl) rfl rfl (wt_none' rfl) ?_
      refine sx_nil' ?_
      show TX E (KY1 _) _
      exact tx_pick' [0] (sub_cons rfl (sub_cons rfl (sub_cons rfl (sub_cons rfl (sub_cons rfl (sub_cons rfl sub_nil)))))) (by decide) (pick_cons rfl pick_nil) (ih1 ((iadd .i64 x1 a3), (x2.set x3.toNat r30), (iadd .i64 x3 1)) () _ hp)
    · replace hp := (br_f h3).symm.trans hp
      refine cx_exit' ?_
      replace hp := Option.some.inj hp
      subst hp
      show TX E (Zg E (Exit.exit 0) _ (Exit.exit 0)) _
      exact tx_zend' () rfl [0] (sub_cons rfl sub_nil) (by decide) (pick_cons rfl pick_nil)
  · refine zg_out fun w2 => ?_
    show TX E K3 _
    refine tx_k' hK3 ?_
    refine cx_seq' fun K15 hK15 => ?_
    refine cx_region' ?_
    refine sx_rd' (rd_move' rfl) rfl rfl (wt_none' rfl) ?_
    refine sx_rd' (rd_assign' rfl) rfl rfl (wt_none' rfl) ?_
    refine sx_nil' ?_
    show TX E K15 _
    refine tx_k' hK15 ?_
    refine cx_retc' ?_
    replace hp := Option.some.inj hp
    subst hp
    refine tx_fz' (frz_row 0 [(9, (Vl (Vs g16)), (Sl (Kl Kf) v2)), (36, (Vl (Vs g16)), (Sl (Kl Kf) v2)), (8, (Vl (Vs g16)), (Sl (Kl Kf) v2))] (K := (Kl Kf)) (xs := v2) (by decide) rfl ⟨⟨rfl, frz_it⟩, ⟨rfl, frz_it⟩, ⟨rfl, frz_it⟩, trivial⟩ (H' := []) frzH_refl) ?_
    refine tx_pick' (L' := [(8, (Sl (Kl Kf) v2))]) (H' := []) [] (sub_cons rfl sub_nil) (by decide) pick_nil ?_
    exact tx_ret1' Try.results119 rfl () (rv_tmp' rfl) (List.Sublist.refl _)

def gogeom_DoorInflate1 (k : Nat) (a0 : List Nat) (a1 : Int) : Option ((List (List Nat))) :=
  (gogeom_inflate1 k a0 0 (a0.length : Int) a1) >>= fun r9 =>
  some r9

theorem gogeom_DoorInflate1_sim {k : Nat}  (a0 : List Nat) (a1 : Int) {out : (List (List Nat))} (hp : gogeom_DoorInflate1 k a0 a1 = some out) : Go.Sx.Fn Try.prog 79 [(Sl Kf a0), (Vl (.int .i64 a1))] [] (fun w : Unit => (Sl (Kl Kf) out)) (fun w => []) := by
  unfold gogeom_DoorInflate1 at hp
  refine fn_of Try.func79 rfl Try.ntmps79 rfl fun E hM => ?_
  refine cx_seq' fun K1 hK1 => ?_
  refine cx_region' ?_
  refine sx_rd' (rd_assign' rfl) rfl rfl (wt_none' rfl) ?_
  refine sx_nil' ?_
  show TX E K1 _
  refine tx_k' hK1 ?_
  refine cx_seq' fun K2 hK2 => ?_
  refine cx_region' ?_
  refine sx_rd' (rd_move' rfl) rfl rfl (wt_none' rfl) ?_
  refine sx_rd' (rd_move' rfl) rfl rfl (wt_none' rfl) ?_
  refine sx_rd' (rd_len' rfl Try.underlying22) rfl rfl (wt_none' rfl) ?_
  refine sx_rd' (rd_move' rfl) rfl rfl (wt_none' rfl) ?_
  obtain ⟨r9, hr9, hp⟩ := bind_some hp
  refine sx_ox' (ox_calln' (ent_fn' Try.func119 isn119 rfl rfl) (gogeom_inflate1_sim _ _ _ _ hr9 : Go.Sx.Fn Try.prog 119 [(Sl Kf a0), (Vl (.int .i64 0)), (Vl (.int .i64 (a0.length : Int))), (Vl (.int .i64 a1))] [] (fun x : Unit => (Sl (Kl Kf) r9)) (fun x => [])) (Hn := fun x : Unit => []) (fun _ => rfl) rfl rfl) (wt_none' rfl) fun ⟨⟩ => ?_
  refine sx_rd' (rd_assign' rfl) rfl rfl (wt_none' rfl) ?_
  refine sx_nil' ?_
  show TX E K2 _
  refine tx_k' hK2 ?_
  refine cx_retc' ?_
  replace hp := Option.some.inj hp
  subst hp
  refine tx_pick' (L' := [(4, (Sl (Kl Kf) r9))]) (H' := []) [] (sub_cons rfl sub_nil) (by decide) pick_nil ?_
  exact tx_ret1' Try.results79 rfl () (rv_tmp' rfl) (List.Sublist.refl _)

def impl_floats (k : Nat) (a0 : List Nat) : Option ((List Nat)) :=
  (apd 8 [] a0) >>= fun r4 =>
  some r4

theorem impl_floats_sim {k : Nat}  (a0 : List Nat) {out : (List Nat)} (hp : impl_floats k a0 = some out) : Go.Sx.Fn Try.prog 58 [(Sl Kf a0)] [] (fun w : Unit => (Sl Kf out)) (fun w => []) := by
  unfold impl_floats at hp
  refine fn_of Try.func58 rfl Try.ntmps58 rfl fun E hM => ?_
  refine cx_seq' fun K1 hK1 => ?_
  refine cx_region' ?_
  refine sx_rd' (rd_assign' rfl) rfl rfl (wt_none' rfl) ?_
  refine sx_nil' ?_
  show TX E K1 _
  refine tx_k' hK1 ?_
  refine cx_seq' fun K2 hK2 => ?_
  refine cx_region' ?_
  refine sx_rd' (rd_move' rfl) rfl rfl (wt_none' rfl) ?_
  refine tx_nilrow' Kf 32 ?_
  obtain ⟨r4, hr4, hp⟩ := bind_some hp
  refine sx_ox' (ox_append' (K := Kf) (i := 0) (xs := []) (ys := a0) rfl rfl rfl (sr_sl' rfl Try.underlying22) hr4 Try.underlying22 info32 rfl rfl rfl (H' := []) rfl) (wt_none' rfl) fun g4 => ?_
  refine sx_rd' (rd_assign' rfl) rfl rfl (wt_none' rfl) ?_
  refine sx_nil' ?_
  show TX E K2 _
  refine tx_k' hK2 ?_
  refine cx_retc' ?_
  replace hp := Option.some.inj hp
  subst hp
  refine tx_fz' (frz_row 0 [(2, (Vl (Vs g4)), (Sl Kf r4)), (4, (Vl (Vs g4)), (Sl Kf r4))] (K := Kf) (xs := r4) (by decide) rfl ⟨⟨rfl, frz_it⟩, ⟨rfl, frz_it⟩, trivial⟩ (H' := []) frzH_refl) ?_
  refine tx_pick' (L' := [(2, (Sl Kf r4))]) (H' := []) [] (sub_cons rfl sub_nil) (by decide) pick_nil ?_
  exact tx_ret1' Try.results58 rfl () (rv_tmp' rfl) (List.Sublist.refl _)

def impl_plain1_l1s (a0 : List (List Nat)) (k : Nat) (rec1 : ((List (List Nat)) × Int) → Option ((List (List Nat)))) (x1 : List (List Nat)) (x2 : Int) : Option ((List (List Nat))) :=
  br (decide (x2 < (a0.length : Int)))
    ((idx a0 x2) >>= fun r10 =>
    (impl_floats k r10) >>= fun r14 =>
    (apd 24 x1 ([r14])) >>= fun r16 =>
    rec1 (r16, (iadd .i64 x2 1)))
    (some x1)
def impl_plain1_l1 (a0 : List (List Nat)) : Nat → ((List (List Nat)) × Int) → Option ((List (List Nat)))
  | 0, _ => none
  | k + 1, v => impl_plain1_l1s a0 k (impl_plain1_l1 a0 k) v.1 v.2
def impl_plain1 (k : Nat) (a0 : List (List Nat)) : Option ((List (List Nat))) :=
  (impl_plain1_l1 a0 k ([], 0)) >>= fun v2 =>
  some v2

theorem impl_plain1_sim {k : Nat}  (a0 : List (List Nat)) {out : (List (List Nat))} (hp : impl_plain1 k a0 = some out) : Go.Sx.Fn Try.prog 78 [(Sl (Kl Kf) a0)] [] (fun w : Unit => (Sl (Kl Kf) out)) (fun w => []) := by
  unfold impl_plain1 at hp
  refine fn_of Try.func78 rfl Try.ntmps78 rfl fun E hM => ?_
  refine cx_seq' fun K1 hK1 => ?_
  refine cx_region' ?_
  refine sx_rd' (rd_assign' rfl) rfl rfl (wt_none' rfl) ?_
  refine sx_nil' ?_
  show TX E K1 _
  refine tx_k' hK1 ?_
  refine cx_seq' fun K2 hK2 => ?_
  refine cx_region' ?_
  refine sx_rd' (rd_assign' rfl) rfl rfl (wt_none' rfl) ?_
  refine sx_nil' ?_
  show TX E K2 _
  refine tx_k' hK2 ?_
  refine cx_seq' fun K3 hK3 => ?_
  refine cx_seq' fun K4 hK4 => ?_
  refine cx_region' ?_
  refine sx_rd' (rd_move' rfl) rfl rfl (wt_none' rfl) ?_
  refine sx_rd' (rd_len' rfl Try.underlying117) rfl rfl (wt_none' rfl) ?_
  refine sx_rd' (rd_move' rfl) rfl rfl (wt_none' rfl) ?_
  refine sx_nil' ?_
  show TX E K4 _
  refine tx_k' hK4 ?_
  refine cx_block' ?_
  obtain ⟨v2, hy1, hp⟩ := bind_some hp
  refine tx_nilrow' (Kl Kf) 22 ?_
  refine cx_loopg' (F := impl_plain1_l1 a0) (G := fun k R v => impl_plain1_l1s a0 k R v.1 v.2) (x := ([], 0)) (gh := (none, 0, 0)) (fun (v1 : (List (List Nat)) × Int) (w1 : Gs) => (⟨19, [], [(3, (Vl (Vs w1))), (6, (Sl (Kl Kf) a0)), (7, (Vl (.int .i64 (a0.length : Int)))), (8, (Vl (.int .i64 v1.2)))], [(Rw (Kl Kf) 22 (Vs w1) v1.1)]⟩ : St)) (fun (v2 : (List (List Nat))) => Zg E (Exit.exit 0) (fun (w2 : Gs) => (⟨19, [], [(3, (Vl (Vs w2)))], [(Rw (Kl Kf) 22 (Vs w2) v2)]⟩ : St))) (fun _ => rfl) (fun _ _ => rfl) ?_ hy1 (tx_to' rfl [0] (sub_cons rfl (sub_cons rfl (sub_cons rfl (sub_cons rfl sub_nil)))) (by decide) (pick_cons rfl pick_nil)) ?_
  · clear hp hy1
    clear v2
    intro k rec1 KY1 ih1
    rintro ⟨x1, x2⟩ g901 y1 hp
    replace hp : impl_plain1_l1s a0 k rec1 x1 x2 = some y1 := hp
    unfold impl_plain1_l1s at hp
    refine cx_seq' fun K9 hK9 => ?_
    refine cx_region' ?_
    refine sx_rd' (rd_bin' rfl rfl eg_int ru_lss) rfl rfl (wt_none' rfl) ?_
    refine sx_nil' ?_
    show TX E K9 _
    refine tx_k' hK9 ?_
    refine cx_seq' fun K10 hK10 => ?_
    refine cx_cond' rfl (fun h3 => ?_) (fun h3 => ?_)
    · replace hp := (br_t h3).symm.trans hp
      refine cx_skip' ?_
      show TX E K10 _
      refine tx_k' hK10 ?_
      refine cx_seq' fun K11 hK11 => ?_
      refine cx_block' ?_
      refine cx_seq' fun K12 hK12 => ?_
      refine cx_region' ?_
      obtain ⟨r10, hr10, hp⟩ := bind_some hp
      refine sx_rd' (rd_at' (K := (Kl Kf)) rfl rfl hr10 Try.underlying117 info140) rfl rfl (wt_none' rfl) ?_
      refine sx_rd' (rd_load_pt' rfl rfl flat140) rfl rfl (wt_none' rfl) ?_
      refine sx_rd' (rd_assign' rfl) rfl rfl (wt_none' rfl) ?_
      refine sx_nil' ?_
      show TX E K12 _
      refine tx_k' hK12 ?_
      refine cx_region' ?_
      refine sx_rd' (rd_move' rfl) rfl rfl (wt_none' rfl) ?_
      refine sx_rd' (rd_move' rfl) rfl rfl (wt_none' rfl) ?_
      obtain ⟨r14, hr14, hp⟩ := bind_some hp
      refine sx_ox' (ox_calln' (ent_fn' Try.func58 isn58 rfl rfl) (impl_floats_sim _ hr14 : Go.Sx.Fn Try.prog 58 [(Sl Kf r10)] [] (fun x : Unit => (Sl Kf r14)) (fun x => [])) (Hn := fun x : Unit => [(Rw (Kl Kf) 22 (Vs g901) x1)]) (fun _ => rfl) rfl rfl) (wt_none' rfl) fun ⟨⟩ => ?_
      refine sx_ox' (ox_rowlit' (K := (Kl Kf)) (xs := [r14]) (qs := [(0, [(Sl Kf r14)])]) ⟨rfl, ⟨_, rfl, (lv_sl _ _)⟩, trivial⟩ Try.underlying51 info22 rfl rfl rfl rfl rfl (by kernel_rfl) rfl rfl rfl) (wt_none' rfl) fun g15 => ?_
      obtain ⟨r16, hr16, hp⟩ := bind_some hp
      refine sx_ox' (ox_append' (K := (Kl Kf)) (i := 1) (xs := x1) (ys := ([r14])) rfl rfl rfl (sr_row' (j := 0) rfl rfl rfl Try.underlying51) hr16 Try.underlying51 info22 rfl rfl rfl (H' := [(Rw (Kl Kf) 22 (Vs g15) ([r14]))]) rfl) (wt_none' rfl) fun g16 => ?_
      refine sx_rd' (rd_assign' rfl) rfl rfl (wt_none' rfl) ?_
      refine sx_nil' ?_
      show TX E K11 _
      refine tx_k' hK11 ?_
      refine cx_region' ?_
      refine sx_rd' (rd_bin' rfl rfl eg_int ru_add) rfl rfl (wt_none' rfl) ?_
      refine sx_rd' (rd_move' rfl) rfl rfl (wt_none' rfl) ?_
      refine sx_nil' ?_
      show TX E (KY1 _) _
      exact tx_pick' [0] (sub_cons rfl (sub_cons rfl (sub_cons rfl (sub_cons rfl sub_nil)))) (by decide) (pick_cons rfl pick_nil) (ih1 (r16, (iadd .i64 x2 1)) g16 _ hp)
    · replace hp := (br_f h3).symm.trans hp
      refine cx_exit' ?_
      replace hp := Option.some.inj hp
      subst hp
      show TX E (Zg E (Exit.exit 0) _ (Exit.exit 0)) _
      exact tx_zend' g901 rfl [0] (sub_cons rfl sub_nil) (by decide) (pick_cons rfl pick_nil)
  · refine zg_out fun w2 => ?_
    show TX E K3 _
    refine tx_k' hK3 ?_
    refine cx_seq' fun K13 hK13 => ?_
    refine cx_region' ?_
    refine sx_rd' (rd_move' rfl) rfl rfl (wt_none' rfl) ?_
    refine sx_rd' (rd_assign' rfl) rfl rfl (wt_none' rfl) ?_
    refine sx_nil' ?_
    show TX E K13 _
    refine tx_k' hK13 ?_
    refine cx_retc' ?_
    replace hp := Option.some.inj hp
    subst hp
    refine tx_fz' (frz_row 0 [(3, (Vl (Vs w2)), (Sl (Kl Kf) v2)), (18, (Vl (Vs w2)), (Sl (Kl Kf) v2)), (2, (Vl (Vs w2)), (Sl (Kl Kf) v2))] (K := (Kl Kf)) (xs := v2) (by decide) rfl ⟨⟨rfl, frz_it⟩, ⟨rfl, frz_it⟩, ⟨rfl, frz_it⟩, trivial⟩ (H' := []) frzH_refl) ?_
    refine tx_pick' (L' := [(2, (Sl (Kl Kf) v2))]) (H' := []) [] (sub_cons rfl sub_nil) (by decide) pick_nil ?_
    exact tx_ret1' Try.results78 rfl () (rv_tmp' rfl) (List.Sublist.refl _)

def impl_Inflate1 (k : Nat) (a0 : List Nat) (a1 : Int) : Option ((List (List Nat)) × Bool) :=
  (gogeom_DoorInflate1 k a0 a1) >>= fun r9 =>
  (impl_plain1 k r9) >>= fun r10 =>
  some (r10, true)

theorem impl_Inflate1_sim {k : Nat}  (a0 : List Nat) (a1 : Int) {out : (List (List Nat)) × Bool} (hp : impl_Inflate1 k a0 a1 = some out) : Go.Sx.Fn Try.prog 39 [(Sl Kf a0), (Vl (.int .i64 a1))] [] (fun w : Unit => (Tu [(Sl (Kl Kf) out.1), (Vl (.bool out.2))])) (fun w => []) := by
  unfold impl_Inflate1 at hp
  refine fnD_of Try.func39 rfl Try.ntmps39 rfl fun E hM => ?_
  refine cx_seq' fun K1 hK1 => ?_
  refine cx_region' ?_
  refine sx_ox' (ox_alloc' info51 rfl rfl rfl rfl (l := [(Vl (.slice none 0 0))]) rfl) (wt_none' rfl) fun q4 => ?_
  refine sx_ox' (ox_alloc' info4 rfl rfl rfl rfl (l := [(Vl (.bool false))]) rfl) (wt_none' rfl) fun q5 => ?_
  refine sx_nil' ?_
  show TX E K1 _
  refine tx_k' hK1 ?_
  refine cx_seq' fun K2 hK2 => ?_
  refine cx_region' ?_
  refine sx_rd' (rd_mkfunc' (us := [.pointer (some q4), .pointer (some q5)]) rfl) rfl rfl (wt_none' rfl) ?_
  refine sx_ox' (ox_defer' rfl rfl) (wt_none' rfl) fun _ => ?_
  refine sx_nil' ?_
  show TX E K2 _
  refine tx_k' hK2 ?_
  refine cx_seq' fun K3 hK3 => ?_
  refine cx_region' ?_
  refine sx_rd' (rd_move' rfl) rfl rfl (wt_none' rfl) ?_
  refine sx_rd' (rd_move' rfl) rfl rfl (wt_none' rfl) ?_
  obtain ⟨r9, hr9, hp⟩ := bind_some hp
  refine sx_ox' (ox_calln' (ent_fn' Try.func79 isn79 rfl rfl) (gogeom_DoorInflate1_sim _ _ hr9 : Go.Sx.Fn Try.prog 79 [(Sl Kf a0), (Vl (.int .i64 a1))] [] (fun x : Unit => (Sl (Kl Kf) r9)) (fun x => [])) (Hn := fun x : Unit => [⟨.pointer (some q5), [(Vl (.bool false))], 4, none⟩, ⟨.pointer (some q4), [(Vl (.slice none 0 0))], 51, none⟩]) (fun _ => rfl) rfl rfl) (wt_none' rfl) fun ⟨⟩ => ?_
  obtain ⟨r10, hr10, hp⟩ := bind_some hp
  refine sx_ox' (ox_calln' (ent_fn' Try.func78 isn78 rfl rfl) (impl_plain1_sim _ hr10 : Go.Sx.Fn Try.prog 78 [(Sl (Kl Kf) r9)] [] (fun x : Unit => (Sl (Kl Kf) r10)) (fun x => [])) (Hn := fun x : Unit => [⟨.pointer (some q5), [(Vl (.bool false))], 4, none⟩, ⟨.pointer (some q4), [(Vl (.slice none 0 0))], 51, none⟩]) (fun _ => rfl) rfl rfl) (wt_none' rfl) fun ⟨⟩ => ?_
  refine sx_ox' (ox_store' (i := 1) (o := 0) rfl rfl (lv_sl _ _) ⟨rfl, rfl, rfl, rfl⟩ rfl info51 rfl (H' := [⟨.pointer (some q5), [(Vl (.bool false))], 4, none⟩, ⟨.pointer (some q4), [(Sl (Kl Kf) r10)], 51, none⟩]) rfl) (wt_none' rfl) fun _ => ?_
  refine sx_ox' (ox_store' (i := 0) (o := 0) rfl rfl (lv_vl rfl rfl) ⟨rfl, rfl, rfl, rfl⟩ rfl info4 rfl (H' := [⟨.pointer (some q5), [(Vl (.bool true))], 4, none⟩, ⟨.pointer (some q4), [(Sl (Kl Kf) r10)], 51, none⟩]) rfl) (wt_none' rfl) fun _ => ?_
  refine sx_nil' ?_
  show TX E K3 _
  refine tx_k' hK3 ?_
  refine cx_retc' ?_
  replace hp := Option.some.inj hp
  subst hp
  refine tx_leave' (.inl rfl) rfl idle77 rfl Try.func77 isn77 rfl ?_
  refine tx_pick' (L' := [(4, (Vl (.pointer (some q4)))), (5, (Vl (.pointer (some q5))))]) (H' := [⟨.pointer (some q4), [(Sl (Kl Kf) r10)], 51, none⟩, ⟨.pointer (some q5), [(Vl (.bool true))], 4, none⟩]) [1, 0] (sub_cons rfl (sub_cons rfl sub_nil)) (by decide) (pick_cons rfl (pick_cons rfl pick_nil)) ?_
  exact tx_ret2' Try.results39 rfl () (rv_cell' (i := 0) (o := 0) rfl ⟨rfl, rfl, rfl, rfl⟩ rfl flat51) (rv_cell' (i := 1) (o := 0) rfl ⟨rfl, rfl, rfl, rfl⟩ rfl flat4) rfl (List.nil_sublist _)

def gogeom_inflate2_l1s (r14 : List (List (List Nat))) (a2 : List Int) (a0 : List Nat) (a3 : Int) (k : Nat) (rec1 : (Int × (List (List (List Nat))) × Int) → Option ((List (List (List Nat))))) (x1 : Int) (x2 : List (List (List Nat))) (x3 : Int) : Option ((List (List (List Nat)))) :=
  br (decide (x3 < (r14.length : Int)))
    ((idx a2 x3) >>= fun r22 =>
    (gogeom_inflate1 k a0 x1 r22 a3) >>= fun r30 =>
    (idx x2 x3) >>= fun r31 =>
    rec1 (r22, (x2.set x3.toNat r30), (iadd .i64 x3 1)))
    (some x2)
def gogeom_inflate2_l1 (r14 : List (List (List Nat))) (a2 : List Int) (a0 : List Nat) (a3 : Int) : Nat → (Int × (List (List (List Nat))) × Int) → Option ((List (List (List Nat))))
  | 0, _ => none
  | k + 1, v => gogeom_inflate2_l1s r14 a2 a0 a3 k (gogeom_inflate2_l1 r14 a2 a0 a3 k) v.1 v.2.1 v.2.2
def gogeom_inflate2 (k : Nat) (a0 : List Nat) (a1 : Int) (a2 : List Int) (a3 : Int) : Option ((List (List (List Nat)))) :=
  (mk 24 [] (a2.length : Int) (a2.length : Int)) >>= fun r14 =>
  (gogeom_inflate2_l1 r14 a2 a0 a3 k (a1, r14, 0)) >>= fun v2 =>
  some v2

theorem gogeom_inflate2_sim {k : Nat}  (a0 : List Nat) (a1 : Int) (a2 : List Int) (a3 : Int) {out : (List (List (List Nat)))} (hp : gogeom_inflate2 k a0 a1 a2 a3 = some out) : Go.Sx.Fn Try.prog 120 [(Sl Kf a0), (Vl (.int .i64 a1)), (Sl (Ki .i64) a2), (Vl (.int .i64 a3))] [] (fun w : Unit => (Sl (Kl (Kl Kf)) out)) (fun w => []) := by
  unfold gogeom_inflate2 at hp
  refine fn_of Try.func120 rfl Try.ntmps120 rfl fun E hM => ?_
  refine cx_seq' fun K1 hK1 => ?_
  refine cx_region' ?_
  refine sx_rd' (rd_assign' rfl) rfl rfl (wt_none' rfl) ?_
  refine sx_nil' ?_
  show TX E K1 _
  refine tx_k' hK1 ?_
  refine cx_seq' fun K2 hK2 => ?_
  refine cx_region' ?_
  refine sx_rd' (rd_move' rfl) rfl rfl (wt_none' rfl) ?_
  refine sx_rd' (rd_len' rfl Try.underlying23) rfl rfl (wt_none' rfl) ?_
  obtain ⟨r14, hr14, hp⟩ := bind_some hp
  refine sx_ox' (ox_makes' (K := (Kl (Kl Kf))) rfl rfl hr14 rfl Try.underlying106 info117 rfl rfl ⟨nil_sl0, trivial⟩ rfl rfl) (wt_none' rfl) fun g14 => ?_
  refine sx_rd' (rd_assign' rfl) rfl rfl (wt_none' rfl) ?_
  refine sx_nil' ?_
  show TX E K2 _
  refine tx_k' hK2 ?_
  refine cx_seq' fun K3 hK3 => ?_
  refine cx_seq' fun K4 hK4 => ?_
  refine cx_region' ?_
  refine sx_rd' (rd_move' rfl) rfl rfl (wt_none' rfl) ?_
  refine sx_rd' (rd_lenr' (i := 0) rfl rfl rfl Try.underlying106) rfl rfl (wt_none' rfl) ?_
  refine sx_rd' (rd_move' rfl) rfl rfl (wt_none' rfl) ?_
  refine sx_nil' ?_
  show TX E K4 _
  refine tx_k' hK4 ?_
  refine cx_block' ?_
  obtain ⟨v2, hy1, hp⟩ := bind_some hp
  refine cx_loopg' (F := gogeom_inflate2_l1 r14 a2 a0 a3) (G := fun k R v => gogeom_inflate2_l1s r14 a2 a0 a3 k R v.1 v.2.1 v.2.2) (x := (a1, r14, 0)) (gh := ()) (fun (v1 : Int × (List (List (List Nat))) × Int) (w1 : Unit) => (⟨35, [], [(0, (Sl Kf a0)), (1, (Vl (.int .i64 v1.1))), (2, (Sl (Ki .i64) a2)), (3, (Vl (.int .i64 a3))), (9, (Vl (Vs g14))), (16, (Vl (.int .i64 (r14.length : Int)))), (17, (Vl (.int .i64 v1.2.2)))], [(Rw (Kl (Kl Kf)) 117 (Vs g14) v1.2.1)]⟩ : St)) (fun (v2 : (List (List (List Nat)))) => Zg E (Exit.exit 0) (fun (w2 : Unit) => (⟨35, [], [(9, (Vl (Vs g14)))], [(Rw (Kl (Kl Kf)) 117 (Vs g14) v2)]⟩ : St))) (fun _ => rfl) (fun _ _ => rfl) ?_ hy1 (tx_to' rfl [0] (sub_cons rfl (sub_cons rfl (sub_cons rfl (sub_cons rfl (sub_cons rfl (sub_cons rfl (sub_cons rfl sub_nil))))))) (by decide) (pick_cons rfl pick_nil)) ?_
  · clear hp hy1
    clear v2
    intro k rec1 KY1 ih1
    rintro ⟨x1, x2, x3⟩ ⟨⟩ y1 hp
    replace hp : gogeom_inflate2_l1s r14 a2 a0 a3 k rec1 x1 x2 x3 = some y1 := hp
    unfold gogeom_inflate2_l1s at hp
    refine cx_seq' fun K11 hK11 => ?_
    refine cx_region' ?_
    refine sx_rd' (rd_bin' rfl rfl eg_int ru_lss) rfl rfl (wt_none' rfl) ?_
    refine sx_nil' ?_
    show TX E K11 _
    refine tx_k' hK11 ?_
    refine cx_seq' fun K12 hK12 => ?_
    refine cx_cond' rfl (fun h3 => ?_) (fun h3 => ?_)
    · replace hp := (br_t h3).symm.trans hp
      refine cx_skip' ?_
      show TX E K12 _
      refine tx_k' hK12 ?_
      refine cx_seq' fun K13 hK13 => ?_
      refine cx_block' ?_
      refine cx_seq' fun K14 hK14 => ?_
      refine cx_region' ?_
      refine sx_rd' (rd_move' rfl) rfl rfl (wt_none' rfl) ?_
      refine sx_rd' (rd_assign' rfl) rfl rfl (wt_none' rfl) ?_
      refine sx_nil' ?_
      show TX E K14 _
      refine tx_k' hK14 ?_
      refine cx_seq' fun K15 hK15 => ?_
      refine cx_region' ?_
      refine sx_rd' (rd_move' rfl) rfl rfl (wt_none' rfl) ?_
      refine sx_rd' (rd_move' rfl) rfl rfl (wt_none' rfl) ?_
      obtain ⟨r22, hr22, hp⟩ := bind_some hp
      refine sx_rd' (rd_at' (K := (Ki .i64)) rfl rfl hr22 Try.underlying23 info3) rfl rfl (wt_none' rfl) ?_
      refine sx_rd' (rd_load_pt' rfl rfl flat3) rfl rfl (wt_none' rfl) ?_
      refine sx_rd' (rd_assign' rfl) rfl rfl (wt_none' rfl) ?_
      refine sx_nil' ?_
      show TX E K15 _
      refine tx_k' hK15 ?_
      refine cx_seq' fun K16 hK16 => ?_
      refine cx_region' ?_
      refine sx_rd' (rd_move' rfl) rfl rfl (wt_none' rfl) ?_
      refine sx_rd' (rd_move' rfl) rfl rfl (wt_none' rfl) ?_
      refine sx_rd' (rd_move' rfl) rfl rfl (wt_none' rfl) ?_
      refine sx_rd' (rd_move' rfl) rfl rfl (wt_none' rfl) ?_
      refine sx_rd' (rd_move' rfl) rfl rfl (wt_none' rfl) ?_
      refine sx_rd' (rd_move' rfl) rfl rfl (wt_none' rfl) ?_
      obtain ⟨r30, hr30, hp⟩ := bind_some hp
      refine sx_ox' (ox_calln' (ent_fn' Try.func119 isn119 rfl rfl) (gogeom_inflate1_sim _ _ _ _ hr30 : Go.Sx.Fn Try.prog 119 [(Sl Kf a0), (Vl (.int .i64 x1)), (Vl (.int .i64 r22)), (Vl (.int .i64 a3))] [] (fun x : Unit => (Sl (Kl Kf) r30)) (fun x => [])) (Hn := fun x : Unit => [(Rw (Kl (Kl Kf)) 117 (Vs g14) x2)]) (fun _ => rfl) rfl rfl) (wt_none' rfl) fun ⟨⟩ => ?_
      obtain ⟨r31, hr31, hp⟩ := bind_some hp
      refine sx_rd' (rd_atr' (m := 0) rfl rfl rfl rfl hr31 Try.underlying106 info117) rfl rfl (wt_none' rfl) ?_
      refine sx_ox' (ox_storer' (m := 0) (i := x3) (j := 0) (x' := r30) rfl rfl (lv_sl _ _) rfl rfl hr31 rfl rfl rfl info117 rfl (H' := [(Rw (Kl (Kl Kf)) 117 (Vs g14) (x2.set x3.toNat r30))]) rfl) (wt_none' rfl) fun _ => ?_
      refine sx_nil' ?_
      show TX E K16 _
      refine tx_k' hK16 ?_
      refine cx_region' ?_
      refine sx_rd' (rd_move' rfl) rfl rfl (wt_none' rfl) ?_
      refine sx_rd' (rd_assign' rfl) rfl rfl (wt_none' rfl) ?_
      refine sx_nil' ?_
      show TX E K13 _
      refine tx_k' hK13 ?_
      refine cx_region' ?_
      refine sx_rd' (rd_bin' rfl rfl eg_int ru_add) rfl rfl (wt_none' rfl) ?_
      refine sx_rd' (rd_move' rfl) rfl rfl (wt_none' rfl) ?_
      refine sx_nil' ?_
      show TX E (KY1 _) _
      exact tx_pick' [0] (sub_cons rfl (sub_cons rfl (sub_cons rfl (sub_cons rfl (sub_cons rfl (sub_cons rfl (sub_cons rfl sub_nil))))))) (by decide) (pick_cons rfl pick_nil) (ih1 (r22, (x2.set x3.toNat r30), (iadd .i64 x3 1)) () _ hp)
    · replace hp := (br_f h3).symm.trans hp
      refine cx_exit' ?_
      replace hp := Option.some.inj hp
      subst hp
      show TX E (Zg E (Exit.exit 0) _ (Exit.exit 0)) _
      exact tx_zend' () rfl [0] (sub_cons rfl sub_nil) (by decide) (pick_cons rfl pick_nil)
  · refine zg_out fun w2 => ?_
    show TX E K3 _
    refine tx_k' hK3 ?_
    refine cx_seq' fun K17 hK17 => ?_
    refine cx_region' ?_
    refine sx_rd' (rd_move' rfl) rfl rfl (wt_none' rfl) ?_
    refine sx_rd' (rd_assign' rfl) rfl rfl (wt_none' rfl) ?_
    refine sx_nil' ?_
    show TX E K17 _
    refine tx_k' hK17 ?_
    refine cx_retc' ?_
    replace hp := Option.some.inj hp
    subst hp
    refine tx_fz' (frz_row 0 [(9, (Vl (Vs g14)), (Sl (Kl (Kl Kf)) v2)), (34, (Vl (Vs g14)), (Sl (Kl (Kl Kf)) v2)), (8, (Vl (Vs g14)), (Sl (Kl (Kl Kf)) v2))] (K := (Kl (Kl Kf))) (xs := v2) (by decide) rfl ⟨⟨rfl, frz_it⟩, ⟨rfl, frz_it⟩, ⟨rfl, frz_it⟩, trivial⟩ (H' := []) frzH_refl) ?_
    refine tx_pick' (L' := [(8, (Sl (Kl (Kl Kf)) v2))]) (H' := []) [] (sub_cons rfl sub_nil) (by decide) pick_nil ?_
    exact tx_ret1' Try.results120 rfl () (rv_tmp' rfl) (List.Sublist.refl _)

def gogeom_DoorInflate2 (k : Nat) (a0 : List Nat) (a1 : List Int) (a2 : Int) : Option ((List (List (List Nat)))) :=
  (gogeom_inflate2 k a0 0 a1 a2) >>= fun r10 =>
  some r10

theorem gogeom_DoorInflate2_sim {k : Nat}  (a0 : List Nat) (a1 : List Int) (a2 : Int) {out : (List (List (List Nat)))} (hp : gogeom_DoorInflate2 k a0 a1 a2 = some out) : Go.Sx.Fn Try.prog 82 [(Sl Kf a0), (Sl (Ki .i64) a1), (Vl (.int .i64 a2))] [] (fun w : Unit => (Sl (Kl (Kl Kf)) out)) (fun w => []) := by
  unfold gogeom_DoorInflate2 at hp
  refine fn_of Try.func82 rfl Try.ntmps82 rfl fun E hM => ?_
  refine cx_seq' fun K1 hK1 => ?_
  refine cx_region' ?_
  refine sx_rd' (rd_assign' rfl) rfl rfl (wt_none' rfl) ?_
  refine sx_nil' ?_
  show TX E K1 _
  refine tx_k' hK1 ?_
  refine cx_seq' fun K2 hK2 => ?_
  refine cx_region' ?_
  refine sx_rd' (rd_move' rfl) rfl rfl (wt_none' rfl) ?_
  refine sx_rd' (rd_move' rfl) rfl rfl (wt_none' rfl) ?_
  refine sx_rd' (rd_move' rfl) rfl rfl (wt_none' rfl) ?_
  obtain ⟨r10, hr10, hp⟩ := bind_some hp
  refine sx_ox' (ox_calln' (ent_fn' Try.func120 isn120 rfl rfl) (gogeom_inflate2_sim _ _ _ _ hr10 : Go.Sx.Fn Try.prog 120 [(Sl Kf a0), (Vl (.int .i64 0)), (Sl (Ki .i64) a1), (Vl (.int .i64 a2))] [] (fun x : Unit => (Sl (Kl (Kl Kf)) r10)) (fun x => [])) (Hn := fun x : Unit => []) (fun _ => rfl) rfl rfl) (wt_none' rfl) fun ⟨⟩ => ?_
  refine sx_rd' (rd_assign' rfl) rfl rfl (wt_none' rfl) ?_
  refine sx_nil' ?_
  show TX E K2 _
  refine tx_k' hK2 ?_
  refine cx_retc' ?_
  replace hp := Option.some.inj hp
  subst hp
  refine tx_pick' (L' := [(6, (Sl (Kl (Kl Kf)) r10))]) (H' := []) [] (sub_cons rfl sub_nil) (by decide) pick_nil ?_
  exact tx_ret1' Try.results82 rfl () (rv_tmp' rfl) (List.Sublist.refl _)

def impl_plain2_l1s (a0 : List (List (List Nat))) (k : Nat) (rec1 : ((List (List (List Nat))) × Int) → Option ((List (List (List Nat))))) (x1 : List (List (List Nat))) (x2 : Int) : Option ((List (List (List Nat)))) :=
  br (decide (x2 < (a0.length : Int)))
    ((idx a0 x2) >>= fun r10 =>
    (impl_plain1 k r10) >>= fun r14 =>
    (apd 24 x1 ([r14])) >>= fun r16 =>
    rec1 (r16, (iadd .i64 x2 1)))
    (some x1)
def impl_plain2_l1 (a0 : List (List (List Nat))) : Nat → ((List (List (List Nat))) × Int) → Option ((List (List (List Nat))))
  | 0, _ => none
  | k + 1, v => impl_plain2_l1s a0 k (impl_plain2_l1 a0 k) v.1 v.2
def impl_plain2 (k : Nat) (a0 : List (List (List Nat))) : Option ((List (List (List Nat)))) :=
  (impl_plain2_l1 a0 k ([], 0)) >>= fun v2 =>
  some v2

theorem impl_plain2_sim {k : Nat}  (a0 : List (List (List Nat))) {out : (List (List (List Nat)))} (hp : impl_plain2 k a0 = some out) : Go.Sx.Fn Try.prog 81 [(Sl (Kl (Kl Kf)) a0)] [] (fun w : Unit => (Sl (Kl (Kl Kf)) out)) (fun w => []) := by
  unfold impl_plain2 at hp
  refine fn_of Try.func81 rfl Try.ntmps81 rfl fun E hM => ?_
  refine cx_seq' fun K1 hK1 => ?_
  refine cx_region' ?_
  refine sx_rd' (rd_assign' rfl) rfl rfl (wt_none' rfl) ?_
  refine sx_nil' ?_
  show TX E K1 _
  refine tx_k' hK1 ?_
  refine cx_seq' fun K2 hK2 => ?_
  refine cx_region' ?_
  refine sx_rd' (rd_assign' rfl) rfl rfl (wt_none' rfl) ?_
  refine sx_nil' ?_
  show TX E K2 _
  refine tx_k' hK2 ?_
  refine cx_seq' fun K3 hK3 => ?_
  refine cx_seq' fun K4 hK4 => ?_
  refine cx_region' ?_
  refine sx_rd' (rd_move' rfl) rfl rfl (wt_none' rfl) ?_
  refine sx_rd' (rd_len' rfl Try.underlying106) rfl rfl (wt_none' rfl) ?_
  refine sx_rd' (rd_move' rfl) rfl rfl (wt_none' rfl) ?_
  refine sx_nil' ?_
  show TX E K4 _
  refine tx_k' hK4 ?_
  refine cx_block' ?_
  obtain ⟨v2, hy1, hp⟩ := bind_some hp
  refine tx_nilrow' (Kl (Kl Kf)) 51 ?_
  refine cx_loopg' (F := impl_plain2_l1 a0) (G := fun k R v => impl_plain2_l1s a0 k R v.1 v.2) (x := ([], 0)) (gh := (none, 0, 0)) (fun (v1 : (List (List (List Nat))) × Int) (w1 : Gs) => (⟨19, [], [(3, (Vl (Vs w1))), (6, (Sl (Kl (Kl Kf)) a0)), (7, (Vl (.int .i64 (a0.length : Int)))), (8, (Vl (.int .i64 v1.2)))], [(Rw (Kl (Kl Kf)) 51 (Vs w1) v1.1)]⟩ : St)) (fun (v2 : (List (List (List Nat)))) => Zg E (Exit.exit 0) (fun (w2 : Gs) => (⟨19, [], [(3, (Vl (Vs w2)))], [(Rw (Kl (Kl Kf)) 51 (Vs w2) v2)]⟩ : St))) (fun _ => rfl) (fun _ _ => rfl) ?_ hy1 (tx_to' rfl [0] (sub_cons rfl (sub_cons rfl (sub_cons rfl (sub_cons rfl sub_nil)))) (by decide) (pick_cons rfl pick_nil)) ?_
  · clear hp hy1
    clear v2
    intro k rec1 KY1 ih1
    rintro ⟨x1, x2⟩ g901 y1 hp
    replace hp : impl_plain2_l1s a0 k rec1 x1 x2 = some y1 := hp
    unfold impl_plain2_l1s at hp
    refine cx_seq' fun K9 hK9 => ?_
    refine cx_region' ?_
    refine sx_rd' (rd_bin' rfl rfl eg_int ru_lss) rfl rfl (wt_none' rfl) ?_
    refine sx_nil' ?_
    show TX E K9 _
    refine tx_k' hK9 ?_
    refine cx_seq' fun K10 hK10 => ?_
    refine cx_cond' rfl (fun h3 => ?_) (fun h3 => ?_)
    · replace hp := (br_t h3).symm.trans hp
      refine cx_skip' ?_
      show TX E K10 _
      refine tx_k' hK10 ?_
      refine cx_seq' fun K11 hK11 => ?_
      refine cx_block' ?_
      refine cx_seq' fun K12 hK12 => ?_
      refine cx_region' ?_
      obtain ⟨r10, hr10, hp⟩ := bind_some hp
      refine sx_rd' (rd_at' (K := (Kl (Kl Kf))) rfl rfl hr10 Try.underlying106 info117) rfl rfl (wt_none' rfl) ?_
      refine sx_rd' (rd_load_pt' rfl rfl flat117) rfl rfl (wt_none' rfl) ?_
      refine sx_rd' (rd_assign' rfl) rfl rfl (wt_none' rfl) ?_
      refine sx_nil' ?_
      show TX E K12 _
      refine tx_k' hK12 ?_
      refine cx_region' ?_
      refine sx_rd' (rd_move' rfl) rfl rfl (wt_none' rfl) ?_
      refine sx_rd' (rd_move' rfl) rfl rfl (wt_none' rfl) ?_
      obtain ⟨r14, hr14, hp⟩ := bind_some hp
      refine sx_ox' (ox_calln' (ent_fn' Try.func78 isn78 rfl rfl) (impl_plain1_sim _ hr14 : Go.Sx.Fn Try.prog 78 [(Sl (Kl Kf) r10)] [] (fun x : Unit => (Sl (Kl Kf) r14)) (fun x => [])) (Hn := fun x : Unit => [(Rw (Kl (Kl Kf)) 51 (Vs g901) x1)]) (fun _ => rfl) rfl rfl) (wt_none' rfl) fun ⟨⟩ => ?_
      refine sx_ox' (ox_rowlit' (K := (Kl (Kl Kf))) (xs := [r14]) (qs := [(0, [(Sl (Kl Kf) r14)])]) ⟨rfl, ⟨_, rfl, (lv_sl _ _)⟩, trivial⟩ Try.underlying43 info51 rfl rfl rfl rfl rfl (by kernel_rfl) rfl rfl rfl) (wt_none' rfl) fun g15 => ?_
      obtain ⟨r16, hr16, hp⟩ := bind_some hp
      refine sx_ox' (ox_append' (K := (Kl (Kl Kf))) (i := 1) (xs := x1) (ys := ([r14])) rfl rfl rfl (sr_row' (j := 0) rfl rfl rfl Try.underlying43) hr16 Try.underlying43 info51 rfl rfl rfl (H' := [(Rw (Kl (Kl Kf)) 51 (Vs g15) ([r14]))]) rfl) (wt_none' rfl) fun g16 => ?_
      refine sx_rd' (rd_assign' rfl) rfl rfl (wt_none' rfl) ?_
      refine sx_nil' ?_
      show TX E K11 _
      refine tx_k' hK11 ?_
      refine cx_region' ?_
      refine sx_rd' (rd_bin' rfl rfl eg_int ru_add) rfl rfl (wt_none' rfl) ?_
      refine sx_rd' (rd_move' rfl) rfl rfl (wt_none' rfl) ?_
      refine sx_nil' ?_
      show TX E (KY1 _) _
      exact tx_pick' [0] (sub_cons rfl (sub_cons rfl (sub_cons rfl (sub_cons rfl sub_nil)))) (by decide) (pick_cons rfl pick_nil) (ih1 (r16, (iadd .i64 x2 1)) g16 _ hp)
    · replace hp := (br_f h3).symm.trans hp
      refine cx_exit' ?_
      replace hp := Option.some.inj hp
      subst hp
      show TX E (Zg E (Exit.exit 0) _ (Exit.exit 0)) _
      exact tx_zend' g901 rfl [0] (sub_cons rfl sub_nil) (by decide) (pick_cons rfl pick_nil)
  · refine zg_out fun w2 => ?_
    show TX E K3 _
    refine tx_k' hK3 ?_
    refine cx_seq' fun K13 hK13 => ?_
    refine cx_region' ?_
    refine sx_rd' (rd_move' rfl) rfl rfl (wt_none' rfl) ?_
    refine sx_rd' (rd_assign' rfl) rfl rfl (wt_none' rfl) ?_
    refine sx_nil' ?_
    show TX E K13 _
    refine tx_k' hK13 ?_
    refine cx_retc' ?_
    replace hp := Option.some.inj hp
    subst hp
    refine tx_fz' (frz_row 0 [(3, (Vl (Vs w2)), (Sl (Kl (Kl Kf)) v2)), (18, (Vl (Vs w2)), (Sl (Kl (Kl Kf)) v2)), (2, (Vl (Vs w2)), (Sl (Kl (Kl Kf)) v2))] (K := (Kl (Kl Kf))) (xs := v2) (by decide) rfl ⟨⟨rfl, frz_it⟩, ⟨rfl, frz_it⟩, ⟨rfl, frz_it⟩, trivial⟩ (H' := []) frzH_refl) ?_
    refine tx_pick' (L' := [(2, (Sl (Kl (Kl Kf)) v2))]) (H' := []) [] (sub_cons rfl sub_nil) (by decide) pick_nil ?_
    exact tx_ret1' Try.results81 rfl () (rv_tmp' rfl) (List.Sublist.refl _)

end Go.Proofs.Ytkeaodoibflhnaa
