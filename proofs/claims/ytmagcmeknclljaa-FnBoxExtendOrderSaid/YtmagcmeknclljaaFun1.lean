/-
  Plain functions for the Go functions that this law reaches, and that each call does what its plain function says. Printed by a program of ours.
-/
import Derived.Test.YtmagcmeknclljaaProg
import Derived.Test.YtmagcmeknclljaaSxX
namespace Go.Proofs.Ytmagcmeknclljaa
open Go.Sx
set_option linter.unusedVariables false
set_option maxRecDepth 100000

theorem info43 : (Try.prog.info? 43).map (fun i => (i.zero, i.size, i.bytes)) = some (some (.agg #[.int .i64 0, .slice none 0 0, .slice none 0 0]), 3, 56) := by kernel_rfl
theorem agg43 : Agg Try.prog 43 3 := ⟨⟨_, Try.underlying43, .inl ⟨_, rfl⟩⟩, info_size info43⟩
theorem isn20 : (Try.f20.name == "runtime.NumGoroutine") = false := by kernel_rfl
theorem info22 : (Try.prog.info? 22).map (fun i => (i.zero, i.size, i.bytes)) = some (some (.slice none 0 0), 1, 24) := by kernel_rfl
theorem flat22 : Flat Try.prog 22 := ⟨_, Try.underlying22, fun _ h => (nomatch h), fun _ _ h => (nomatch h)⟩
theorem info27 : (Try.prog.info? 27).map (fun i => (i.zero, i.size, i.bytes)) = some (some (.agg #[.int .i64 0, .int .i64 0, .int .i64 0, .slice none 0 0, .slice none 0 0, .slice none 0 0, .slice none 0 0]), 7, 120) := by kernel_rfl
theorem agg27 : Agg Try.prog 27 7 := ⟨⟨_, Try.underlying27, .inl ⟨_, rfl⟩⟩, info_size info27⟩
theorem isn7 : (Try.f7.name == "runtime.NumGoroutine") = false := by kernel_rfl
theorem info23 : (Try.prog.info? 23).map (fun i => (i.zero, i.size, i.bytes)) = some (some (.slice none 0 0), 1, 24) := by kernel_rfl
theorem flat23 : Flat Try.prog 23 := ⟨_, Try.underlying23, fun _ h => (nomatch h), fun _ _ h => (nomatch h)⟩
theorem info24 : (Try.prog.info? 24).map (fun i => (i.zero, i.size, i.bytes)) = some (some (.slice none 0 0), 1, 24) := by kernel_rfl
theorem flat24 : Flat Try.prog 24 := ⟨_, Try.underlying24, fun _ h => (nomatch h), fun _ _ h => (nomatch h)⟩
theorem isn25 : (Try.f25.name == "runtime.NumGoroutine") = false := by kernel_rfl
theorem info25 : (Try.prog.info? 25).map (fun i => (i.zero, i.size, i.bytes)) = some (some (.slice none 0 0), 1, 24) := by kernel_rfl
theorem flat25 : Flat Try.prog 25 := ⟨_, Try.underlying25, fun _ h => (nomatch h), fun _ _ h => (nomatch h)⟩
theorem isn21 : (Try.f21.name == "runtime.NumGoroutine") = false := by kernel_rfl
theorem info3 : (Try.prog.info? 3).map (fun i => (i.zero, i.size, i.bytes)) = some (some (.int .i64 0), 1, 8) := by kernel_rfl
theorem flat3 : Flat Try.prog 3 := ⟨_, Try.underlying3, fun _ h => (nomatch h), fun _ _ h => (nomatch h)⟩
theorem isn47 : (Try.f47.name == "runtime.NumGoroutine") = false := by kernel_rfl
theorem info32 : (Try.prog.info? 32).map (fun i => (i.zero, i.size, i.bytes)) = some (some (.float .f64 0), 1, 8) := by kernel_rfl
theorem flat32 : Flat Try.prog 32 := ⟨_, Try.underlying32, fun _ h => (nomatch h), fun _ _ h => (nomatch h)⟩
theorem isn48 : (Try.f48.name == "runtime.NumGoroutine") = false := by kernel_rfl
theorem mixed : Try.prog.follows .mixedOrders = true := by kernel_rfl
theorem isn22 : (Try.f22.name == "runtime.NumGoroutine") = false := by kernel_rfl
theorem isn49 : (Try.f49.name == "runtime.NumGoroutine") = false := by kernel_rfl
theorem isn8 : (Try.f8.name == "runtime.NumGoroutine") = false := by kernel_rfl
theorem isn26 : (Try.f26.name == "runtime.NumGoroutine") = false := by kernel_rfl
theorem isn56 : (Try.f56.name == "runtime.NumGoroutine") = false := by kernel_rfl
theorem isn50 : (Try.f50.name == "runtime.NumGoroutine") = false := by kernel_rfl
theorem isn27 : (Try.f27.name == "runtime.NumGoroutine") = false := by kernel_rfl
theorem isn57 : (Try.f57.name == "runtime.NumGoroutine") = false := by kernel_rfl
theorem isn16 : (Try.f16.name == "runtime.NumGoroutine") = false := by kernel_rfl
theorem isn38 : (Try.f38.name == "runtime.NumGoroutine") = false := by kernel_rfl
theorem isn51 : (Try.f51.name == "runtime.NumGoroutine") = false := by kernel_rfl
theorem isn23 : (Try.f23.name == "runtime.NumGoroutine") = false := by kernel_rfl
theorem isn54 : (Try.f54.name == "runtime.NumGoroutine") = false := by kernel_rfl
theorem isn59 : (Try.f59.name == "runtime.NumGoroutine") = false := by kernel_rfl
theorem isn85 : (Try.f85.name == "runtime.NumGoroutine") = false := by kernel_rfl
theorem places150 : placesOf Try.prog [{ name := "layout", type := 61, offset := 0, embedded := false, tag := "", pkgPath := "pub-orthodrome/pub/gogeom", byteOffset := 0 }, { name := "min", type := 144, offset := 1, embedded := false, tag := "", pkgPath := "pub-orthodrome/pub/gogeom", byteOffset := 8 }, { name := "max", type := 144, offset := 2, embedded := false, tag := "", pkgPath := "pub-orthodrome/pub/gogeom", byteOffset := 32 }] = [(0, 1), (1, 1), (2, 1)] := by kernel_rfl
theorem has150 : ∀ f ∈ ([{ name := "layout", type := 61, offset := 0, embedded := false, tag := "", pkgPath := "pub-orthodrome/pub/gogeom", byteOffset := 0 }, { name := "min", type := 144, offset := 1, embedded := false, tag := "", pkgPath := "pub-orthodrome/pub/gogeom", byteOffset := 8 }, { name := "max", type := 144, offset := 2, embedded := false, tag := "", pkgPath := "pub-orthodrome/pub/gogeom", byteOffset := 32 }] : List Field), (Try.prog.info? f.type).isSome = true := fun f hf => all_of (p := fun f => (Try.prog.info? f.type).isSome) (by kernel_rfl) f hf
theorem info150 : (Try.prog.info? 150).map (fun i => (i.zero, i.size, i.bytes)) = some (some (.agg #[.int .i64 0, .slice none 0 0, .slice none 0 0]), 3, 56) := by kernel_rfl
theorem isn30 : (Try.f30.name == "runtime.NumGoroutine") = false := by kernel_rfl
theorem isn60 : (Try.f60.name == "runtime.NumGoroutine") = false := by kernel_rfl
theorem info124 : (Try.prog.info? 124).map (fun i => (i.zero, i.size, i.bytes)) = some (some (.agg #[.int .i64 0, .int .i64 0, .slice none 0 0, .int .i64 0]), 4, 48) := by kernel_rfl
theorem info61 : (Try.prog.info? 61).map (fun i => (i.zero, i.size, i.bytes)) = some (some (.int .i64 0), 1, 8) := by kernel_rfl
theorem isn89 : (Try.f89.name == "runtime.NumGoroutine") = false := by kernel_rfl
theorem info135 : (Try.prog.info? 135).map (fun i => (i.zero, i.size, i.bytes)) = some (some (.agg #[.int .i64 0, .int .i64 0, .slice none 0 0, .int .i64 0]), 4, 48) := by kernel_rfl
theorem isn61 : (Try.f61.name == "runtime.NumGoroutine") = false := by kernel_rfl
theorem isn62 : (Try.f62.name == "runtime.NumGoroutine") = false := by kernel_rfl
theorem info126 : (Try.prog.info? 126).map (fun i => (i.zero, i.size, i.bytes)) = some (some (.agg #[.int .i64 0, .int .i64 0, .slice none 0 0, .int .i64 0]), 4, 48) := by kernel_rfl
theorem info138 : (Try.prog.info? 138).map (fun i => (i.zero, i.size, i.bytes)) = some (some (.agg #[.int .i64 0, .int .i64 0, .slice none 0 0, .int .i64 0]), 4, 48) := by kernel_rfl
theorem isn63 : (Try.f63.name == "runtime.NumGoroutine") = false := by kernel_rfl
theorem isn64 : (Try.f64.name == "runtime.NumGoroutine") = false := by kernel_rfl
theorem info128 : (Try.prog.info? 128).map (fun i => (i.zero, i.size, i.bytes)) = some (some (.agg #[.int .i64 0, .int .i64 0, .slice none 0 0, .int .i64 0]), 4, 48) := by kernel_rfl
theorem isn65 : (Try.f65.name == "runtime.NumGoroutine") = false := by kernel_rfl
theorem isn58 : (Try.f58.name == "runtime.NumGoroutine") = false := by kernel_rfl
theorem isn66 : (Try.f66.name == "runtime.NumGoroutine") = false := by kernel_rfl
theorem info130 : (Try.prog.info? 130).map (fun i => (i.zero, i.size, i.bytes)) = some (some (.agg #[.int .i64 0, .int .i64 0, .slice none 0 0, .int .i64 0, .slice none 0 0]), 5, 72) := by kernel_rfl
theorem info132 : (Try.prog.info? 132).map (fun i => (i.zero, i.size, i.bytes)) = some (some (.agg #[.int .i64 0, .int .i64 0, .slice none 0 0, .int .i64 0, .slice none 0 0]), 5, 72) := by kernel_rfl
theorem isn67 : (Try.f67.name == "runtime.NumGoroutine") = false := by kernel_rfl
theorem isn69 : (Try.f69.name == "runtime.NumGoroutine") = false := by kernel_rfl
theorem isn68 : (Try.f68.name == "runtime.NumGoroutine") = false := by kernel_rfl
theorem info101 : (Try.prog.info? 101).map (fun i => (i.zero, i.size, i.bytes)) = some (some (.nilFunc), 1, 8) := by kernel_rfl
theorem flat101 : Flat Try.prog 101 := ⟨_, Try.underlying101, fun _ h => (nomatch h), fun _ _ h => (nomatch h)⟩
theorem isn90 : (Try.f90.name == "runtime.NumGoroutine") = false := by kernel_rfl
theorem nil_eql23_nilsl : ∀ (w : World), (binOp .eql 23 (.slice none 0 0) (.slice none 0 0)).run Try.prog w = .ok (.bool true) w := fun _ => by kernel_rfl
theorem info136 : (Try.prog.info? 136).map (fun i => (i.zero, i.size, i.bytes)) = some (some (.agg #[.int .i64 0, .int .i64 0, .slice none 0 0, .int .i64 0, .slice none 0 0]), 5, 72) := by kernel_rfl
theorem isn70 : (Try.f70.name == "runtime.NumGoroutine") = false := by kernel_rfl
theorem nil_eql23_sl : ∀ (q : Addr) (n c : Nat) (w : World), (binOp .eql 23 (.slice (some q) n c) (.slice none 0 0)).run Try.prog w = .ok (.bool false) w := fun _ _ _ _ => by kernel_rfl
theorem isn71 : (Try.f71.name == "runtime.NumGoroutine") = false := by kernel_rfl
theorem info139 : (Try.prog.info? 139).map (fun i => (i.zero, i.size, i.bytes)) = some (some (.agg #[.int .i64 0, .int .i64 0, .slice none 0 0, .int .i64 0, .slice none 0 0]), 5, 72) := by kernel_rfl
theorem isn72 : (Try.f72.name == "runtime.NumGoroutine") = false := by kernel_rfl
theorem isn29 : (Try.f29.name == "runtime.NumGoroutine") = false := by kernel_rfl
theorem isn73 : (Try.f73.name == "runtime.NumGoroutine") = false := by kernel_rfl
theorem info141 : (Try.prog.info? 141).map (fun i => (i.zero, i.size, i.bytes)) = some (some (.agg #[.int .i64 0, .int .i64 0, .slice none 0 0, .int .i64 0, .slice none 0 0]), 5, 72) := by kernel_rfl
theorem info143 : (Try.prog.info? 143).map (fun i => (i.zero, i.size, i.bytes)) = some (some (.agg #[.int .i64 0, .int .i64 0, .slice none 0 0, .int .i64 0, .slice none 0 0]), 5, 72) := by kernel_rfl
theorem isn74 : (Try.f74.name == "runtime.NumGoroutine") = false := by kernel_rfl
theorem isn75 : (Try.f75.name == "runtime.NumGoroutine") = false := by kernel_rfl
theorem places114 : placesOf Try.prog [{ name := "layout", type := 61, offset := 0, embedded := false, tag := "", pkgPath := "pub-orthodrome/pub/gogeom", byteOffset := 0 }, { name := "geoms", type := 112, offset := 1, embedded := false, tag := "", pkgPath := "pub-orthodrome/pub/gogeom", byteOffset := 8 }, { name := "srid", type := 3, offset := 2, embedded := false, tag := "", pkgPath := "pub-orthodrome/pub/gogeom", byteOffset := 32 }] = [(0, 1), (1, 1), (2, 1)] := by kernel_rfl
theorem has114 : ∀ f ∈ ([{ name := "layout", type := 61, offset := 0, embedded := false, tag := "", pkgPath := "pub-orthodrome/pub/gogeom", byteOffset := 0 }, { name := "geoms", type := 112, offset := 1, embedded := false, tag := "", pkgPath := "pub-orthodrome/pub/gogeom", byteOffset := 8 }, { name := "srid", type := 3, offset := 2, embedded := false, tag := "", pkgPath := "pub-orthodrome/pub/gogeom", byteOffset := 32 }] : List Field), (Try.prog.info? f.type).isSome = true := fun f hf => all_of (p := fun f => (Try.prog.info? f.type).isSome) (by kernel_rfl) f hf
theorem info114 : (Try.prog.info? 114).map (fun i => (i.zero, i.size, i.bytes)) = some (some (.agg #[.int .i64 0, .slice none 0 0, .int .i64 0]), 3, 40) := by kernel_rfl
theorem isn76 : (Try.f76.name == "runtime.NumGoroutine") = false := by kernel_rfl
theorem isn78 : (Try.f78.name == "runtime.NumGoroutine") = false := by kernel_rfl
theorem isn33 : (Try.f33.name == "runtime.NumGoroutine") = false := by kernel_rfl
theorem isn79 : (Try.f79.name == "runtime.NumGoroutine") = false := by kernel_rfl
theorem info112 : (Try.prog.info? 112).map (fun i => (i.zero, i.size, i.bytes)) = some (some (.slice none 0 0), 1, 24) := by kernel_rfl
theorem flat112 : Flat Try.prog 112 := ⟨_, Try.underlying112, fun _ h => (nomatch h), fun _ _ h => (nomatch h)⟩
theorem nil_neq59_nilif : ∀ (w : World), (binOp .neq 59 .nilIface .nilIface).run Try.prog w = .ok (.bool false) w := fun _ => by kernel_rfl
theorem isn55 : (Try.f55.name == "runtime.NumGoroutine") = false := by kernel_rfl
theorem inv72_Layout : ∀ (q : Addr) w', (callMethod (.iface 72 (.pointer (some q))) "Layout" #[]).run Try.prog w' = .ok (.enter 134 #[.pointer (some q)]) w' := fun _ _ => by kernel_rfl
theorem flat61 : Flat Try.prog 61 := ⟨_, Try.underlying61, fun _ h => (nomatch h), fun _ _ h => (nomatch h)⟩
theorem isn86 : (Try.f86.name == "runtime.NumGoroutine") = false := by kernel_rfl
theorem info144 : (Try.prog.info? 144).map (fun i => (i.zero, i.size, i.bytes)) = some (some (.slice none 0 0), 1, 24) := by kernel_rfl
theorem flat144 : Flat Try.prog 144 := ⟨_, Try.underlying144, fun _ h => (nomatch h), fun _ _ h => (nomatch h)⟩
theorem isn91 : (Try.f91.name == "runtime.NumGoroutine") = false := by kernel_rfl
theorem ext95 : ∀ {args : Array Value} {v : Value}, Runs Try.prog ((Extern.MathFloatBits.float64frombits) args) v → Runs Try.prog (callFunc 95 args) (.value v) := fun hr => ru_ext Try.func95 (by kernel_rfl) (by kernel_rfl) (by kernel_rfl) (by kernel_rfl) hr
theorem isn92 : (Try.f92.name == "runtime.NumGoroutine") = false := by kernel_rfl
theorem inv72_FlatCoords : ∀ (q : Addr) w', (callMethod (.iface 72 (.pointer (some q))) "FlatCoords" #[]).run Try.prog w' = .ok (.enter 133 #[.pointer (some q)]) w' := fun _ _ => by kernel_rfl
theorem isn87 : (Try.f87.name == "runtime.NumGoroutine") = false := by kernel_rfl
theorem isn93 : (Try.f93.name == "runtime.NumGoroutine") = false := by kernel_rfl
theorem ext96 : ∀ {args : Array Value} {v : Value}, Runs Try.prog ((Extern.MathDim.pick "math.archMin" true .lt) args) v → Runs Try.prog (callFunc 96 args) (.value v) := fun hr => ru_ext Try.func96 (by kernel_rfl) (by kernel_rfl) (by kernel_rfl) (by kernel_rfl) hr
theorem isn94 : (Try.f94.name == "runtime.NumGoroutine") = false := by kernel_rfl
theorem ext98 : ∀ {args : Array Value} {v : Value}, Runs Try.prog ((Extern.MathDim.pick "math.archMax" false .gt) args) v → Runs Try.prog (callFunc 98 args) (.value v) := fun hr => ru_ext Try.func98 (by kernel_rfl) (by kernel_rfl) (by kernel_rfl) (by kernel_rfl) hr
theorem inv72_Stride : ∀ (q : Addr) w', (callMethod (.iface 72 (.pointer (some q))) "Stride" #[]).run Try.prog w' = .ok (.enter 137 #[.pointer (some q)]) w' := fun _ _ => by kernel_rfl
theorem isn88 : (Try.f88.name == "runtime.NumGoroutine") = false := by kernel_rfl
theorem isn53 : (Try.f53.name == "runtime.NumGoroutine") = false := by kernel_rfl
theorem isn84 : (Try.f84.name == "runtime.NumGoroutine") = false := by kernel_rfl
theorem places43 : placesOf Try.prog [{ name := "Layout", type := 3, offset := 0, embedded := false, tag := "", pkgPath := "", byteOffset := 0 }, { name := "Min", type := 22, offset := 1, embedded := false, tag := "", pkgPath := "", byteOffset := 8 }, { name := "Max", type := 22, offset := 2, embedded := false, tag := "", pkgPath := "", byteOffset := 32 }] = [(0, 1), (1, 1), (2, 1)] := by kernel_rfl
theorem has43 : ∀ f ∈ ([{ name := "Layout", type := 3, offset := 0, embedded := false, tag := "", pkgPath := "", byteOffset := 0 }, { name := "Min", type := 22, offset := 1, embedded := false, tag := "", pkgPath := "", byteOffset := 8 }, { name := "Max", type := 22, offset := 2, embedded := false, tag := "", pkgPath := "", byteOffset := 32 }] : List Field), (Try.prog.info? f.type).isSome = true := fun f hf => all_of (p := fun f => (Try.prog.info? f.type).isSome) (by kernel_rfl) f hf
theorem idle52 : Idle Try.prog 52 2 := fun vs w hv => by
  obtain ⟨v0, v1, rfl⟩ : ∃ v0 v1, vs = [v0, v1] := by
    obtain _ | ⟨v0, vs⟩ := vs
    · simp at hv
    obtain _ | ⟨v1, vs⟩ := vs
    · simp at hv
    obtain _ | ⟨u, vs⟩ := vs
    · exact ⟨v0, v1, rfl⟩
    · simp at hv
  refine callsD_of_wpS Try.func52 rfl fun c₀ cs hu => ?_
  apply wpS_seq
  apply wpS_region
  simp [wpOpsS, go_sem, recoverD, hu, Try.ntmps52, Exit.thenS]
  refine wpS_cond (t := false) (by simp [Act.eval, Array.replicate]) ?_
  simp only [Bool.false_eq_true, if_false]
  refine wpS_of_wp (wp_skip ?_)
  cases c₀
  simp_all [bodyPostS, results, Try.results52]
theorem isn52 : (Try.f52.name == "runtime.NumGoroutine") = false := by kernel_rfl
theorem info4 : (Try.prog.info? 4).map (fun i => (i.zero, i.size, i.bytes)) = some (some (.bool false), 1, 1) := by kernel_rfl
theorem inv75_Layout : ∀ (q : Addr) w', (callMethod (.iface 75 (.pointer (some q))) "Layout" #[]).run Try.prog w' = .ok (.enter 134 #[.pointer (some q)]) w' := fun _ _ => by kernel_rfl
theorem inv75_FlatCoords : ∀ (q : Addr) w', (callMethod (.iface 75 (.pointer (some q))) "FlatCoords" #[]).run Try.prog w' = .ok (.enter 133 #[.pointer (some q)]) w' := fun _ _ => by kernel_rfl
theorem inv75_Stride : ∀ (q : Addr) w', (callMethod (.iface 75 (.pointer (some q))) "Stride" #[]).run Try.prog w' = .ok (.enter 137 #[.pointer (some q)]) w' := fun _ _ => by kernel_rfl
theorem inv69_Layout : ∀ (q : Addr) w', (callMethod (.iface 69 (.pointer (some q))) "Layout" #[]).run Try.prog w' = .ok (.enter 134 #[.pointer (some q)]) w' := fun _ _ => by kernel_rfl
theorem inv69_FlatCoords : ∀ (q : Addr) w', (callMethod (.iface 69 (.pointer (some q))) "FlatCoords" #[]).run Try.prog w' = .ok (.enter 133 #[.pointer (some q)]) w' := fun _ _ => by kernel_rfl
theorem inv69_Stride : ∀ (q : Addr) w', (callMethod (.iface 69 (.pointer (some q))) "Stride" #[]).run Try.prog w' = .ok (.enter 137 #[.pointer (some q)]) w' := fun _ _ => by kernel_rfl
theorem inv67_Layout : ∀ (q : Addr) w', (callMethod (.iface 67 (.pointer (some q))) "Layout" #[]).run Try.prog w' = .ok (.enter 134 #[.pointer (some q)]) w' := fun _ _ => by kernel_rfl
theorem inv67_FlatCoords : ∀ (q : Addr) w', (callMethod (.iface 67 (.pointer (some q))) "FlatCoords" #[]).run Try.prog w' = .ok (.enter 133 #[.pointer (some q)]) w' := fun _ _ => by kernel_rfl
theorem inv67_Stride : ∀ (q : Addr) w', (callMethod (.iface 67 (.pointer (some q))) "Stride" #[]).run Try.prog w' = .ok (.enter 137 #[.pointer (some q)]) w' := fun _ _ => by kernel_rfl
theorem inv70_Layout : ∀ (q : Addr) w', (callMethod (.iface 70 (.pointer (some q))) "Layout" #[]).run Try.prog w' = .ok (.enter 134 #[.pointer (some q)]) w' := fun _ _ => by kernel_rfl
theorem inv70_FlatCoords : ∀ (q : Addr) w', (callMethod (.iface 70 (.pointer (some q))) "FlatCoords" #[]).run Try.prog w' = .ok (.enter 133 #[.pointer (some q)]) w' := fun _ _ => by kernel_rfl
theorem inv70_Stride : ∀ (q : Addr) w', (callMethod (.iface 70 (.pointer (some q))) "Stride" #[]).run Try.prog w' = .ok (.enter 137 #[.pointer (some q)]) w' := fun _ _ => by kernel_rfl
theorem inv73_Layout : ∀ (q : Addr) w', (callMethod (.iface 73 (.pointer (some q))) "Layout" #[]).run Try.prog w' = .ok (.enter 134 #[.pointer (some q)]) w' := fun _ _ => by kernel_rfl
theorem inv73_FlatCoords : ∀ (q : Addr) w', (callMethod (.iface 73 (.pointer (some q))) "FlatCoords" #[]).run Try.prog w' = .ok (.enter 133 #[.pointer (some q)]) w' := fun _ _ => by kernel_rfl
theorem inv73_Stride : ∀ (q : Addr) w', (callMethod (.iface 73 (.pointer (some q))) "Stride" #[]).run Try.prog w' = .ok (.enter 137 #[.pointer (some q)]) w' := fun _ _ => by kernel_rfl
theorem inv76_Layout : ∀ (q : Addr) w', (callMethod (.iface 76 (.pointer (some q))) "Layout" #[]).run Try.prog w' = .ok (.enter 134 #[.pointer (some q)]) w' := fun _ _ => by kernel_rfl
theorem inv76_FlatCoords : ∀ (q : Addr) w', (callMethod (.iface 76 (.pointer (some q))) "FlatCoords" #[]).run Try.prog w' = .ok (.enter 133 #[.pointer (some q)]) w' := fun _ _ => by kernel_rfl
theorem inv76_Stride : ∀ (q : Addr) w', (callMethod (.iface 76 (.pointer (some q))) "Stride" #[]).run Try.prog w' = .ok (.enter 137 #[.pointer (some q)]) w' := fun _ _ => by kernel_rfl
theorem flat4 : Flat Try.prog 4 := ⟨_, Try.underlying4, fun _ h => (nomatch h), fun _ _ h => (nomatch h)⟩
theorem isn24 : (Try.f24.name == "runtime.NumGoroutine") = false := by kernel_rfl
inductive T27 where
  | mk (x0 : Int) (x1 : Int) (x2 : Int) (x3 : List Nat) (x4 : List Int) (x5 : List (List Int)) (x6 : List T27) : T27
def T27.f0 : T27 → Int
  | .mk x0 x1 x2 x3 x4 x5 x6 => x0
def T27.f1 : T27 → Int
  | .mk x0 x1 x2 x3 x4 x5 x6 => x1
def T27.f2 : T27 → Int
  | .mk x0 x1 x2 x3 x4 x5 x6 => x2
def T27.f3 : T27 → List Nat
  | .mk x0 x1 x2 x3 x4 x5 x6 => x3
def T27.f4 : T27 → List Int
  | .mk x0 x1 x2 x3 x4 x5 x6 => x4
def T27.f5 : T27 → List (List Int)
  | .mk x0 x1 x2 x3 x4 x5 x6 => x5
def T27.f6 : T27 → List T27
  | .mk x0 x1 x2 x3 x4 x5 x6 => x6
def KT27d : Nat → Kd T27
  | 0 => ⟨7, fun _ => List.replicate 7 (Vl undef), fun _ => rfl⟩
  | n + 1 => ⟨7, fun x => [(Vl (.int .i64 x.f0)), (Vl (.int .i64 x.f1)), (Vl (.int .i64 x.f2)), (Sl Kf x.f3), (Sl (Ki .i64) x.f4), (Sl (Kl (Ki .i64)) x.f5), (Sl (KT27d n) x.f6)], fun _ => rfl⟩
def T27.depth : T27 → Nat
  | .mk x0 x1 x2 x3 x4 x5 x6 => ((x6.attach.map fun y => T27.depth y.1).foldl Nat.max 0) + 1
termination_by x => SizeOf.sizeOf x
decreasing_by
  have := List.sizeOf_lt_of_mem y.2
  simp only [T27.mk.sizeOf_spec]
  omega
def KT27 : Kd T27 := ⟨7, fun x => (KT27d x.depth).enc x, fun x => by cases h : x.depth <;> rfl⟩
theorem KT27_depth (x : T27) (y : T27) (h : y ∈ x.f6) : y.depth < x.depth := by
  cases x with
  | mk x0 x1 x2 x3 x4 x5 x6 =>
    rw [T27.depth]
    have := Go.Sx.le_foldl_max (x6.attach.map fun y => T27.depth y.1) 0 y.depth (List.mem_map.2 ⟨⟨y, h⟩, List.mem_attach _ _, rfl⟩)
    omega
theorem KT27_pos (x : T27) : 0 < x.depth := by cases x with | mk x0 x1 x2 x3 x4 x5 x6 => rw [T27.depth]; omega
theorem KT27_stable : ∀ (m n : Nat) (x : T27), x.depth ≤ m → x.depth ≤ n → (KT27d m).enc x = (KT27d n).enc x := by
  intro m
  induction m with
  | zero => intro n x h; have := KT27_pos x; omega
  | succ m ih =>
    intro n x h1 h2
    cases n with
    | zero => have := KT27_pos x; omega
    | succ n =>
      have : Sl (KT27d m) x.f6 = Sl (KT27d n) x.f6 := Go.Sx.sl_congr (by cases m <;> cases n <;> rfl) fun y hy => by
        have := KT27_depth x y hy
        exact ih n y (by omega) (by omega)
      show [(Vl (.int .i64 x.f0)), (Vl (.int .i64 x.f1)), (Vl (.int .i64 x.f2)), (Sl Kf x.f3), (Sl (Ki .i64) x.f4), (Sl (Kl (Ki .i64)) x.f5), (Sl (KT27d m) x.f6)] = [(Vl (.int .i64 x.f0)), (Vl (.int .i64 x.f1)), (Vl (.int .i64 x.f2)), (Sl Kf x.f3), (Sl (Ki .i64) x.f4), (Sl (Kl (Ki .i64)) x.f5), (Sl (KT27d n) x.f6)]
      rw [this]
theorem KT27_enc (x : T27) : KT27.enc x = [(Vl (.int .i64 x.f0)), (Vl (.int .i64 x.f1)), (Vl (.int .i64 x.f2)), (Sl Kf x.f3), (Sl (Ki .i64) x.f4), (Sl (Kl (Ki .i64)) x.f5), (Sl KT27 x.f6)] := by
  have hp := KT27_pos x
  obtain ⟨n, hn⟩ : ∃ n, x.depth = n + 1 := ⟨x.depth - 1, by omega⟩
  have : Sl (KT27d n) x.f6 = Sl KT27 x.f6 := Go.Sx.sl_congr (by cases n <;> rfl) fun y hy => by
    have := KT27_depth x y hy
    exact KT27_stable n y.depth y (by omega) (by omega)
  show (KT27d x.depth).enc x = _
  rw [hn]
  show [(Vl (.int .i64 x.f0)), (Vl (.int .i64 x.f1)), (Vl (.int .i64 x.f2)), (Sl Kf x.f3), (Sl (Ki .i64) x.f4), (Sl (Kl (Ki .i64)) x.f5), (Sl (KT27d n) x.f6)] = _
  rw [this]
inductive T27.Ok : T27 → Prop where
  | mk {x0 : Int} {x1 : Int} {x2 : Int} {x3 : List Nat} {x4 : List Int} {x5 : List (List Int)} {x6 : List T27} (g0 : IntKind.min .i64 ≤ x0 ∧ x0 ≤ IntKind.max .i64) (g1 : IntKind.min .i64 ≤ x1 ∧ x1 ≤ IntKind.max .i64) (g2 : IntKind.min .i64 ≤ x2 ∧ x2 ≤ IntKind.max .i64) (g3 : x3.length ≤ maxLen ∧ ∀ yx3 ∈ x3, yx3 < 18446744073709551616) (g4 : x4.length ≤ maxLen ∧ ∀ yx4 ∈ x4, IntKind.min .i64 ≤ yx4 ∧ yx4 ≤ IntKind.max .i64) (g5 : x5.length ≤ maxLen ∧ ∀ yx5 ∈ x5, yx5.length ≤ maxLen ∧ ∀ yyx5 ∈ yx5, IntKind.min .i64 ≤ yyx5 ∧ yyx5 ≤ IntKind.max .i64) (g6 : x6.length ≤ maxLen) (gk : ∀ y ∈ x6, T27.Ok y) : T27.Ok (.mk x0 x1 x2 x3 x4 x5 x6)
inductive T27.OkW : T27 → Prop where
  | mk {x0 : Int} {x1 : Int} {x2 : Int} {x3 : List Nat} {x4 : List Int} {x5 : List (List Int)} {x6 : List T27} (g0 : IntKind.min .i64 ≤ x0 ∧ x0 ≤ IntKind.max .i64) (g1 : IntKind.min .i64 ≤ x1 ∧ x1 ≤ IntKind.max .i64) (g2 : IntKind.min .i64 ≤ x2 ∧ x2 ≤ IntKind.max .i64) (g3 : x3.length * 8 ≤ 140737488351232 ∧ ∀ yx3 ∈ x3, yx3 < 18446744073709551616) (g4 : x4.length * 8 ≤ 140737488351232 ∧ ∀ yx4 ∈ x4, IntKind.min .i64 ≤ yx4 ∧ yx4 ≤ IntKind.max .i64) (g5 : x5.length * 24 ≤ 140737488351232 ∧ ∀ yx5 ∈ x5, yx5.length * 8 ≤ 140737488351232 ∧ ∀ yyx5 ∈ yx5, IntKind.min .i64 ≤ yyx5 ∧ yyx5 ≤ IntKind.max .i64) (g6 : x6.length * 120 ≤ 140737488351232) (gk : ∀ y ∈ x6, T27.OkW y) : T27.OkW (.mk x0 x1 x2 x3 x4 x5 x6)

def KT43 : Kd (Int × (List Nat) × (List Nat)) := ⟨3, fun x => [(Vl (.int .i64 x.1)), (Sl Kf x.2.1), (Sl Kf x.2.2)], fun _ => rfl⟩

def laws_zzFits1 (k : Nat) (a0_0 : Int) (a0_1 : List Nat) (a0_2 : List Nat) : Option (Bool) :=
 br (decide (2147483647 < (a0_1.length : Int)))
  (some false)
  (br (decide (2147483647 < (a0_2.length : Int)))
   (some false)
   (some true))

theorem laws_zzFits1_sim {k : Nat}  (a0_0 : Int) (a0_1 : List Nat) (a0_2 : List Nat) {out : Bool} (hp : laws_zzFits1 k a0_0 a0_1 a0_2 = some out) : Sx.Fn Try.prog 20 [(Ag [(Vi a0_0), (Sl Kf a0_1), (Sl Kf a0_2)])] [] (fun w : Unit => (Vb out)) (fun w => []) := by
 unfold laws_zzFits1 at hp
 refine fn_of Try.func20 rfl Try.ntmps20 rfl fun E hM => ?_
 refine cr fun K1 hK1 => ?_
 refine sx_ox' (ox_box' rfl (lv_ag _) rfl rfl) (wt_none' rfl) fun q1 => ?_
 refine s0 (rd_assign' rfl) ?_
 refine nk hK1 ?_
 refine cx_seq' fun K2 hK2 => ?_
 refine cr fun K3 hK3 => ?_
 refine s0 (rd_field' (off := 1) rfl Try.underlying43 rfl info22 rfl) ?_
 refine s0 (rd_load' (i := 0) (o := 1) rfl ⟨rfl, rfl, rfl, rfl⟩ rfl flat22) ?_
 refine s0 (rd_len' rfl Try.underlying22) ?_
 refine s0 (rd_bin' rfl rfl eg_int ru_gtr) ?_
 refine nk hK3 ?_
 refine cx_cond' rfl (fun h1 => ?_) (fun h1 => ?_)
 ·replace hp := (br_t h1).symm.trans hp
  refine cr fun K4 hK4 => ?_
  refine s0 (rd_assign' rfl) ?_
  refine nk hK4 ?_
  refine cx_retc' ?_
  replace hp := Option.some.inj hp
  subst hp
  refine tx_pick' (L' := [(2, (Vb false))]) (H' := []) [] (sub_cons rfl sub_nil) (by decide) pick_nil ?_
  exact tx_ret1' Try.results20 rfl () (rv_tmp' rfl) (List.Sublist.refl _)
 replace hp := (br_f h1).symm.trans hp
 refine cx_skip' ?_
 show TX E K2 _
 refine tx_k' hK2 ?_
 refine cx_seq' fun K5 hK5 => ?_
 refine cr fun K6 hK6 => ?_
 refine s0 (rd_field' (off := 2) rfl Try.underlying43 rfl info22 rfl) ?_
 refine s0 (rd_load' (i := 0) (o := 2) rfl ⟨rfl, rfl, rfl, rfl⟩ rfl flat22) ?_
 refine s0 (rd_len' rfl Try.underlying22) ?_
 refine s0 (rd_bin' rfl rfl eg_int ru_gtr) ?_
 refine nk hK6 ?_
 refine cx_cond' rfl (fun h2 => ?_) (fun h2 => ?_)
 ·replace hp := (br_t h2).symm.trans hp
  refine cr fun K7 hK7 => ?_
  refine s0 (rd_assign' rfl) ?_
  refine nk hK7 ?_
  refine cx_retc' ?_
  replace hp := Option.some.inj hp
  subst hp
  refine tx_pick' (L' := [(2, (Vb false))]) (H' := []) [] (sub_cons rfl sub_nil) (by decide) pick_nil ?_
  exact tx_ret1' Try.results20 rfl () (rv_tmp' rfl) (List.Sublist.refl _)
 replace hp := (br_f h2).symm.trans hp
 refine cx_skip' ?_
 show TX E K5 _
 refine tx_k' hK5 ?_
 refine cr fun K8 hK8 => ?_
 refine s0 (rd_assign' rfl) ?_
 refine nk hK8 ?_
 refine cx_retc' ?_
 replace hp := Option.some.inj hp
 subst hp
 refine tx_pick' (L' := [(2, (Vb true))]) (H' := []) [] (sub_cons rfl sub_nil) (by decide) pick_nil ?_
 exact tx_ret1' Try.results20 rfl () (rv_tmp' rfl) (List.Sublist.refl _)

def laws_zzFits3_l1s (a0 : List (List Int)) (k : Nat) (rec1 : Int → Option (Unit ⊕ Unit)) (x1 : Int) : Option (Unit ⊕ Unit) :=
 br (decide (x1 < (a0.length : Int)))
  ((idx a0 x1) >>= fun r12 =>
  br (decide (2147483647 < (r12.length : Int)))
   (some (.inl ()))
   (rec1 (iadd .i64 x1 1)))
  (some (.inr ()))
def laws_zzFits3_l1 (a0 : List (List Int)) : Nat → Int → Option (Unit ⊕ Unit)
 | 0, _ => none
 | k + 1, v => laws_zzFits3_l1s a0 k (laws_zzFits3_l1 a0 k) v
def laws_zzFits3 (k : Nat) (a0 : List (List Int)) : Option (Bool) :=
 br (decide (2147483647 < (a0.length : Int)))
  (some false)
  ((laws_zzFits3_l1 a0 k 0) >>= fun y1 => match y1 with
   | (.inl v2) =>
    (some false)
   | (.inr v3) =>
    (some true))

theorem laws_zzFits3_sim {k : Nat}  (a0 : List (List Int)) {out : Bool} (hp : laws_zzFits3 k a0 = some out) : Sx.Fn Try.prog 25 [(Sl (Kl (Ki .i64)) a0)] [] (fun w : Unit => (Vb out)) (fun w => []) := by
 unfold laws_zzFits3 at hp
 refine fn_of Try.func25 rfl Try.ntmps25 rfl fun E hM => ?_
 refine cr fun K1 hK1 => ?_
 refine s0 (rd_assign' rfl) ?_
 refine nk hK1 ?_
 refine cx_seq' fun K2 hK2 => ?_
 refine cr fun K3 hK3 => ?_
 refine s0 (rd_move' rfl) ?_
 refine s0 (rd_len' rfl Try.underlying24) ?_
 refine s0 (rd_bin' rfl rfl eg_int ru_gtr) ?_
 refine nk hK3 ?_
 refine cx_cond' rfl (fun h1 => ?_) (fun h1 => ?_)
 ·replace hp := (br_t h1).symm.trans hp
  refine cr fun K4 hK4 => ?_
  refine s0 (rd_assign' rfl) ?_
  refine nk hK4 ?_
  refine cx_retc' ?_
  replace hp := Option.some.inj hp
  subst hp
  refine tx_pick' (L' := [(2, (Vb false))]) (H' := []) [] (sub_cons rfl sub_nil) (by decide) pick_nil ?_
  exact tx_ret1' Try.results25 rfl () (rv_tmp' rfl) (List.Sublist.refl _)
 replace hp := (br_f h1).symm.trans hp
 refine cx_skip' ?_
 show TX E K2 _
 refine tx_k' hK2 ?_
 refine cx_seq' fun K5 hK5 => ?_
 refine cr fun K6 hK6 => ?_
 refine s0 (rd_move' rfl) ?_
 refine s0 (rd_len' rfl Try.underlying24) ?_
 refine s0 (rd_move' rfl) ?_
 refine nk hK6 ?_
 refine cx_block' ?_
 obtain ⟨y1, hy1, hp⟩ := bind_some hp
 refine cx_loopg' (F := laws_zzFits3_l1 a0) (G := fun k R v => laws_zzFits3_l1s a0 k R v) (x := 0) (gh := ()) (fun (v1 : Int) (w1 : Unit) => (⟨18, [], [(8, (Sl (Kl (Ki .i64)) a0)), (9, (Vi (a0.length : Int))), (10, (Vi v1))], []⟩ : St)) (fun (y : Unit ⊕ Unit) => match y with | (.inl v2) => Zg E Exit.ret (fun (w2 : Unit) => (⟨18, [], [(2, (Vb false))], []⟩ : St)) | (.inr v3) => Zg E (Exit.exit 0) (fun (w3 : Unit) => (⟨18, [], [], []⟩ : St))) (fun _ => rfl) (fun _ _ => rfl) ?_ hy1 (tx_to' rfl [] (sub_cons rfl (sub_cons rfl (sub_cons rfl sub_nil))) (by decide) pick_nil) ?_
 ·clear hp hy1
  clear y1
  intro k rec1 KY1 ih1
  rintro x1 ⟨⟩ y1 hp
  replace hp : laws_zzFits3_l1s a0 k rec1 x1 = some y1 := hp
  unfold laws_zzFits3_l1s at hp
  refine cr fun K13 hK13 => ?_
  refine s0 (rd_bin' rfl rfl eg_int ru_lss) ?_
  refine nk hK13 ?_
  refine cx_seq' fun K14 hK14 => ?_
  refine cx_cond' rfl (fun h5 => ?_) (fun h5 => ?_)
  ·replace hp := (br_t h5).symm.trans hp
   refine cx_skip' ?_
   show TX E K14 _
   refine tx_k' hK14 ?_
   refine cx_seq' fun K15 hK15 => ?_
   refine cx_block' ?_
   refine cr fun K16 hK16 => ?_
   obtain ⟨r12, hr12, hp⟩ := bind_some hp
   refine s0 (rd_at' (K := (Kl (Ki .i64))) rfl rfl hr12 Try.underlying24 info23) ?_
   refine s0 (rd_load_pt' rfl rfl flat23) ?_
   refine s0 (rd_assign' rfl) ?_
   refine nk hK16 ?_
   refine cr fun K17 hK17 => ?_
   refine s0 (rd_move' rfl) ?_
   refine s0 (rd_len' rfl Try.underlying23) ?_
   refine s0 (rd_bin' rfl rfl eg_int ru_gtr) ?_
   refine nk hK17 ?_
   refine cx_cond' rfl (fun h6 => ?_) (fun h6 => ?_)
   ·replace hp := (br_t h6).symm.trans hp
    refine cr fun K18 hK18 => ?_
    refine s0 (rd_assign' rfl) ?_
    refine nk hK18 ?_
    refine cx_retc' ?_
    replace hp := Option.some.inj hp
    subst hp
    show TX E (Zg E Exit.ret _ Exit.ret) _
    exact tx_zend' () rfl [] (sub_cons rfl sub_nil) (by decide) pick_nil
   replace hp := (br_f h6).symm.trans hp
   refine cx_skip' ?_
   show TX E K15 _
   refine tx_k' hK15 ?_
   refine cx_region' ?_
   refine s0 (rd_bin' rfl rfl eg_int ru_add) ?_
   refine s0 (rd_move' rfl) ?_
   refine sx_nil' ?_
   show TX E (KY1 _) _
   exact tx_pick' [] (sub_cons rfl (sub_cons rfl (sub_cons rfl sub_nil))) (by decide) pick_nil (ih1 (iadd .i64 x1 1) () _ hp)
  replace hp := (br_f h5).symm.trans hp
  refine cx_exit' ?_
  replace hp := Option.some.inj hp
  subst hp
  show TX E (Zg E (Exit.exit 0) _ (Exit.exit 0)) _
  exact tx_zend' () rfl [] sub_nil (by decide) pick_nil
 rcases y1 with v2 | v3
 ·dsimp only at hp
  refine zg_out fun w2 => ?_
  replace hp := Option.some.inj hp
  subst hp
  refine tx_pick' (L' := [(2, (Vb false))]) (H' := []) [] (sub_cons rfl sub_nil) (by decide) pick_nil ?_
  exact tx_ret1' Try.results25 rfl () (rv_tmp' rfl) (List.Sublist.refl _)
 dsimp only at hp
 refine zg_out fun w3 => ?_
 show TX E K5 _
 refine tx_k' hK5 ?_
 refine cr fun K19 hK19 => ?_
 refine s0 (rd_assign' rfl) ?_
 refine nk hK19 ?_
 refine cx_retc' ?_
 replace hp := Option.some.inj hp
 subst hp
 refine tx_pick' (L' := [(2, (Vb true))]) (H' := []) [] (sub_cons rfl sub_nil) (by decide) pick_nil ?_
 exact tx_ret1' Try.results25 rfl () (rv_tmp' rfl) (List.Sublist.refl _)

def laws_zzFits2 (k : Nat) (a0_0 : Int) (a0_1 : Int) (a0_2 : Int) (a0_3 : List Nat) (a0_4 : List Int) (a0_5 : List (List Int)) (a0_6 : List T27) : Option (Bool) :=
 br (decide (2147483647 < (a0_3.length : Int)))
  (some false)
  (br (decide (2147483647 < (a0_4.length : Int)))
   (some false)
   ((laws_zzFits3 k a0_5) >>= fun r13 =>
   br (!r13)
    (some false)
    (br (decide (2147483647 < (a0_6.length : Int)))
     (some false)
     (some true))))

theorem laws_zzFits2_sim {k : Nat}  (a0_0 : Int) (a0_1 : Int) (a0_2 : Int) (a0_3 : List Nat) (a0_4 : List Int) (a0_5 : List (List Int)) (a0_6 : List T27) {out : Bool} (hp : laws_zzFits2 k a0_0 a0_1 a0_2 a0_3 a0_4 a0_5 a0_6 = some out) : Sx.Fn Try.prog 7 [(Ag [(Vi a0_0), (Vi a0_1), (Vi a0_2), (Sl Kf a0_3), (Sl (Ki .i64) a0_4), (Sl (Kl (Ki .i64)) a0_5), (Sl KT27 a0_6)])] [] (fun w : Unit => (Vb out)) (fun w => []) := by
 unfold laws_zzFits2 at hp
 refine fn_of Try.func7 rfl Try.ntmps7 rfl fun E hM => ?_
 refine cr fun K1 hK1 => ?_
 refine sx_ox' (ox_box' rfl (lv_ag _) rfl rfl) (wt_none' rfl) fun q1 => ?_
 refine s0 (rd_assign' rfl) ?_
 refine nk hK1 ?_
 refine cx_seq' fun K2 hK2 => ?_
 refine cr fun K3 hK3 => ?_
 refine s0 (rd_field' (off := 3) rfl Try.underlying27 rfl info22 rfl) ?_
 refine s0 (rd_load' (i := 0) (o := 3) rfl ⟨rfl, rfl, rfl, rfl⟩ rfl flat22) ?_
 refine s0 (rd_len' rfl Try.underlying22) ?_
 refine s0 (rd_bin' rfl rfl eg_int ru_gtr) ?_
 refine nk hK3 ?_
 refine cx_cond' rfl (fun h1 => ?_) (fun h1 => ?_)
 ·replace hp := (br_t h1).symm.trans hp
  refine cr fun K4 hK4 => ?_
  refine s0 (rd_assign' rfl) ?_
  refine nk hK4 ?_
  refine cx_retc' ?_
  replace hp := Option.some.inj hp
  subst hp
  refine tx_pick' (L' := [(2, (Vb false))]) (H' := []) [] (sub_cons rfl sub_nil) (by decide) pick_nil ?_
  exact tx_ret1' Try.results7 rfl () (rv_tmp' rfl) (List.Sublist.refl _)
 replace hp := (br_f h1).symm.trans hp
 refine cx_skip' ?_
 show TX E K2 _
 refine tx_k' hK2 ?_
 refine cx_seq' fun K5 hK5 => ?_
 refine cr fun K6 hK6 => ?_
 refine s0 (rd_field' (off := 4) rfl Try.underlying27 rfl info23 rfl) ?_
 refine s0 (rd_load' (i := 0) (o := 4) rfl ⟨rfl, rfl, rfl, rfl⟩ rfl flat23) ?_
 refine s0 (rd_len' rfl Try.underlying23) ?_
 refine s0 (rd_bin' rfl rfl eg_int ru_gtr) ?_
 refine nk hK6 ?_
 refine cx_cond' rfl (fun h2 => ?_) (fun h2 => ?_)
 ·replace hp := (br_t h2).symm.trans hp
  refine cr fun K7 hK7 => ?_
  refine s0 (rd_assign' rfl) ?_
  refine nk hK7 ?_
  refine cx_retc' ?_
  replace hp := Option.some.inj hp
  subst hp
  refine tx_pick' (L' := [(2, (Vb false))]) (H' := []) [] (sub_cons rfl sub_nil) (by decide) pick_nil ?_
  exact tx_ret1' Try.results7 rfl () (rv_tmp' rfl) (List.Sublist.refl _)
 replace hp := (br_f h2).symm.trans hp
 refine cx_skip' ?_
 show TX E K5 _
 refine tx_k' hK5 ?_
 refine cx_seq' fun K8 hK8 => ?_
 refine cr fun K9 hK9 => ?_
 refine s0 (rd_field' (off := 5) rfl Try.underlying27 rfl info24 rfl) ?_
 refine s0 (rd_load' (i := 0) (o := 5) rfl ⟨rfl, rfl, rfl, rfl⟩ rfl flat24) ?_
 obtain ⟨r13, hr13, hp⟩ := bind_some hp
 refine sx_ox' (ox_calln' (ent_fn' Try.func25 isn25 rfl rfl) (laws_zzFits3_sim _ hr13 : Sx.Fn Try.prog 25 [(Sl (Kl (Ki .i64)) a0_5)] [] (fun x : Unit => (Vb r13)) (fun x => [])) (Hn := fun x : Unit => [⟨.pointer (some q1), [(Vi a0_0), (Vi a0_1), (Vi a0_2), (Sl Kf a0_3), (Sl (Ki .i64) a0_4), (Sl (Kl (Ki .i64)) a0_5), (Sl KT27 a0_6)], 27, none⟩]) (fun _ => rfl) rfl rfl) (wt_none' rfl) fun ⟨⟩ => ?_
 refine s0 (rd_un' rfl ru_not) ?_
 refine nk hK9 ?_
 refine cx_cond' rfl (fun h3 => ?_) (fun h3 => ?_)
 ·replace hp := (br_t h3).symm.trans hp
  refine cr fun K10 hK10 => ?_
  refine s0 (rd_assign' rfl) ?_
  refine nk hK10 ?_
  refine cx_retc' ?_
  replace hp := Option.some.inj hp
  subst hp
  refine tx_pick' (L' := [(2, (Vb false))]) (H' := []) [] (sub_cons rfl sub_nil) (by decide) pick_nil ?_
  exact tx_ret1' Try.results7 rfl () (rv_tmp' rfl) (List.Sublist.refl _)
 replace hp := (br_f h3).symm.trans hp
 refine cx_skip' ?_
 show TX E K8 _
 refine tx_k' hK8 ?_
 refine cx_seq' fun K11 hK11 => ?_
 refine cr fun K12 hK12 => ?_
 refine s0 (rd_field' (off := 6) rfl Try.underlying27 rfl info25 rfl) ?_
 refine s0 (rd_load' (i := 0) (o := 6) rfl ⟨rfl, rfl, rfl, rfl⟩ rfl flat25) ?_
 refine s0 (rd_len' rfl Try.underlying25) ?_
 refine s0 (rd_bin' rfl rfl eg_int ru_gtr) ?_
 refine nk hK12 ?_
 refine cx_cond' rfl (fun h4 => ?_) (fun h4 => ?_)
 ·replace hp := (br_t h4).symm.trans hp
  refine cr fun K13 hK13 => ?_
  refine s0 (rd_assign' rfl) ?_
  refine nk hK13 ?_
  refine cx_retc' ?_
  replace hp := Option.some.inj hp
  subst hp
  refine tx_pick' (L' := [(2, (Vb false))]) (H' := []) [] (sub_cons rfl sub_nil) (by decide) pick_nil ?_
  exact tx_ret1' Try.results7 rfl () (rv_tmp' rfl) (List.Sublist.refl _)
 replace hp := (br_f h4).symm.trans hp
 refine cx_skip' ?_
 show TX E K11 _
 refine tx_k' hK11 ?_
 refine cr fun K14 hK14 => ?_
 refine s0 (rd_assign' rfl) ?_
 refine nk hK14 ?_
 refine cx_retc' ?_
 replace hp := Option.some.inj hp
 subst hp
 refine tx_pick' (L' := [(2, (Vb true))]) (H' := []) [] (sub_cons rfl sub_nil) (by decide) pick_nil ?_
 exact tx_ret1' Try.results7 rfl () (rv_tmp' rfl) (List.Sublist.refl _)

def spec_Stride_j1 (k : Nat) (a0 : Int) (x1 : Bool) : Option (Int) :=
 br x1
  (some 3)
  (some a0)
def spec_Stride (k : Nat) (a0 : Int) : Option (Int) :=
 br (decide (a0 < 1))
  (some 0)
  (br (decide (a0 = 1))
   (some 2)
   (br (decide (a0 = 2))
    (spec_Stride_j1 k a0 true)
    (spec_Stride_j1 k a0 (decide (a0 = 3)))))

theorem spec_Stride_sim {k : Nat}  (a0 : Int) {out : Int} (hp : spec_Stride k a0 = some out) : Sx.Fn Try.prog 47 [(Vi a0)] [] (fun w : Unit => (Vi out)) (fun w => []) := by
 unfold spec_Stride at hp
 refine fn_of Try.func47 rfl Try.ntmps47 rfl fun E hM => ?_
 refine cr fun K1 hK1 => ?_
 refine s0 (rd_assign' rfl) ?_
 refine nk hK1 ?_
 refine cx_seq' fun K2 hK2 => ?_
 refine cx_block' ?_
 refine cr fun K3 hK3 => ?_
 refine s0 (rd_move' rfl) ?_
 refine s0 (rd_bin' rfl rfl eg_int ru_lss) ?_
 refine s0 (rd_assign' rfl) ?_
 refine nk hK3 ?_
 refine cx_cond' rfl (fun h1 => ?_) (fun h1 => ?_)
 ·replace hp := (br_t h1).symm.trans hp
  refine cr fun K4 hK4 => ?_
  refine s0 (rd_assign' rfl) ?_
  refine nk hK4 ?_
  refine cx_retc' ?_
  replace hp := Option.some.inj hp
  subst hp
  refine tx_pick' (L' := [(2, (Vi 0))]) (H' := []) [] (sub_cons rfl sub_nil) (by decide) pick_nil ?_
  exact tx_ret1' Try.results47 rfl () (rv_tmp' rfl) (List.Sublist.refl _)
 replace hp := (br_f h1).symm.trans hp
 refine cr fun K5 hK5 => ?_
 refine s0 (rd_move' rfl) ?_
 refine s0 (rd_bin' rfl rfl eg_int ru_eql) ?_
 refine s0 (rd_assign' rfl) ?_
 refine nk hK5 ?_
 refine cx_cond' rfl (fun h2 => ?_) (fun h2 => ?_)
 ·replace hp := (br_t h2).symm.trans hp
  refine cr fun K6 hK6 => ?_
  refine s0 (rd_assign' rfl) ?_
  refine nk hK6 ?_
  refine cx_retc' ?_
  replace hp := Option.some.inj hp
  subst hp
  refine tx_pick' (L' := [(2, (Vi 2))]) (H' := []) [] (sub_cons rfl sub_nil) (by decide) pick_nil ?_
  exact tx_ret1' Try.results47 rfl () (rv_tmp' rfl) (List.Sublist.refl _)
 replace hp := (br_f h2).symm.trans hp
 refine cr fun K7 hK7 => ?_
 refine s0 (rd_move' rfl) ?_
 refine s0 (rd_bin' rfl rfl eg_int ru_eql) ?_
 refine s0 (rd_move' rfl) ?_
 refine sx_cutn' 3 (fun (v1 : Bool) => (⟨17, [], [(0, (Vi a0)), (15, (Vb v1))], []⟩ : St)) (fun (v1 : Bool) => spec_Stride_j1 k a0 v1 = some out) ?_ ?_
 ·rintro x1 hp
  replace hp : spec_Stride_j1 k a0 x1 = some out := hp
  unfold spec_Stride_j1 at hp
  refine s0 (rd_assign' rfl) ?_
  refine nk hK7 ?_
  refine cx_cond' rfl (fun h4 => ?_) (fun h4 => ?_)
  ·replace hp := (br_t h4).symm.trans hp
   refine cr fun K9 hK9 => ?_
   refine s0 (rd_assign' rfl) ?_
   refine nk hK9 ?_
   refine cx_retc' ?_
   replace hp := Option.some.inj hp
   subst hp
   refine tx_pick' (L' := [(2, (Vi 3))]) (H' := []) [] (sub_cons rfl sub_nil) (by decide) pick_nil ?_
   exact tx_ret1' Try.results47 rfl () (rv_tmp' rfl) (List.Sublist.refl _)
  replace hp := (br_f h4).symm.trans hp
  refine cx_skip' ?_
  show TX E K2 _
  refine tx_k' hK2 ?_
  refine cr fun K10 hK10 => ?_
  refine s0 (rd_move' rfl) ?_
  refine s0 (rd_assign' rfl) ?_
  refine nk hK10 ?_
  refine cx_retc' ?_
  replace hp := Option.some.inj hp
  subst hp
  refine tx_pick' (L' := [(2, (Vi a0))]) (H' := []) [] (sub_cons rfl sub_nil) (by decide) pick_nil ?_
  exact tx_ret1' Try.results47 rfl () (rv_tmp' rfl) (List.Sublist.refl _)
 intro K8 hK8
 rcases br_cases hp with ⟨h3, hp⟩ | ⟨h3, hp⟩
 ·refine sx_skip' rfl rfl (wt_is' (wt_guard' rfl rfl rfl) (beq_tf h3)) ?_
  refine sx_skip' rfl rfl (wt_is' (wt_guard' rfl rfl rfl) (beq_tf h3)) ?_
  refine s0 (rd_pick_true' rfl h3 rfl) ?_
  refine sx_nil' ?_
  show TX E K8 _
  exact tx_pick' [] (sub_cons rfl (sub_cons rfl sub_nil)) (by decide) pick_nil (hK8 true hp)
 refine sx_rd' (rd_move' rfl) rfl rfl (wt_is' (wt_guard' rfl rfl rfl) (beq_ff h3)) ?_
 refine sx_rd' (rd_bin' rfl rfl eg_int ru_eql) rfl rfl (wt_is' (wt_guard' rfl rfl rfl) (beq_ff h3)) ?_
 refine s0 (rd_pick_false' rfl h3 rfl) ?_
 refine sx_nil' ?_
 show TX E K8 _
 exact tx_pick' [] (sub_cons rfl (sub_cons rfl sub_nil)) (by decide) pick_nil (hK8 (decide (a0 = 3)) hp)

def laws_gNumber (k : Nat) (a0 : Nat) : Option (Bool) :=
 some (feq a0 a0)

theorem laws_gNumber_sim {k : Nat}  (a0 : Nat) {out : Bool} (hp : laws_gNumber k a0 = some out) : Sx.Fn Try.prog 48 [(Vg a0)] [] (fun w : Unit => (Vb out)) (fun w => []) := by
 unfold laws_gNumber at hp
 refine fn_of Try.func48 rfl Try.ntmps48 rfl fun E hM => ?_
 refine cr fun K1 hK1 => ?_
 refine s0 (rd_assign' rfl) ?_
 refine nk hK1 ?_
 refine cr fun K2 hK2 => ?_
 refine s0 (rd_move' rfl) ?_
 refine s0 (rd_move' rfl) ?_
 refine s0 (rd_bin' rfl rfl eg_flt ru_feq) ?_
 refine s0 (rd_assign' rfl) ?_
 refine nk hK2 ?_
 refine cx_retc' ?_
 replace hp := Option.some.inj hp
 subst hp
 refine tx_pick' (L' := [(2, (Vb (feq a0 a0)))]) (H' := []) [] (sub_cons rfl sub_nil) (by decide) pick_nil ?_
 exact tx_ret1' Try.results48 rfl () (rv_tmp' rfl) (List.Sublist.refl _)

def laws_bBox_j10 (k : Nat) (rec2 : Int → Option (Unit ⊕ Unit)) (x12 : Int) (x11 : Bool) : Option (Unit ⊕ Unit) :=
 br x11
  (some (.inl ()))
  (rec2 (iadd .i64 x12 1))
def laws_bBox_l2s (r10 : Int × (List Nat) × (List Nat)) (k : Nat) (rec2 : Int → Option (Unit ⊕ Unit)) (x12 : Int) : Option (Unit ⊕ Unit) :=
 br (decide (x12 < (r10.2.1.length : Int)))
  ((idx r10.2.1 x12) >>= fun r47 =>
  (laws_gNumber k r47) >>= fun r49 =>
  br (!r49)
   (laws_bBox_j10 k rec2 x12 true)
   ((idx r10.2.2 x12) >>= fun r55 =>
   (laws_gNumber k r55) >>= fun r57 =>
   laws_bBox_j10 k rec2 x12 (!r57)))
  (some (.inr ()))
def laws_bBox_l2 (r10 : Int × (List Nat) × (List Nat)) : Nat → Int → Option (Unit ⊕ Unit)
 | 0, _ => none
 | k + 1, v => laws_bBox_l2s r10 k (laws_bBox_l2 r10 k) v
def laws_bBox_j8 (k : Nat) (r10 : Int × (List Nat) × (List Nat)) (rec3 : Int → Option (Unit ⊕ Unit)) (x13 : Int) (x9 : Bool) : Option (Unit ⊕ Unit) :=
 br x9
  (some (.inl ()))
  ((laws_bBox_l2 r10 k 0) >>= fun y2 => match y2 with
   | (.inl v16) =>
    (some (.inl ()))
   | (.inr v17) =>
    (rec3 (iadd .i64 x13 1)))
def laws_bBox_j7 (k : Nat) (r10 : Int × (List Nat) × (List Nat)) (rec3 : Int → Option (Unit ⊕ Unit)) (x13 : Int) (x8 : Bool) : Option (Unit ⊕ Unit) :=
 br x8
  (laws_bBox_j8 k r10 rec3 x13 true)
  (laws_bBox_j8 k r10 rec3 x13 (!decide ((r10.2.2.length : Int) = (r10.2.1.length : Int))))
def laws_bBox_j6 (k : Nat) (r10 : Int × (List Nat) × (List Nat)) (rec3 : Int → Option (Unit ⊕ Unit)) (x13 : Int) (x7 : Bool) : Option (Unit ⊕ Unit) :=
 br x7
  (laws_bBox_j7 k r10 rec3 x13 true)
  ((spec_Stride k r10.1) >>= fun r26 =>
  laws_bBox_j7 k r10 rec3 x13 (!decide ((r10.2.1.length : Int) = r26)))
def laws_bBox_l3s (a0 : List (Int × (List Nat) × (List Nat))) (k : Nat) (rec3 : Int → Option (Unit ⊕ Unit)) (x13 : Int) : Option (Unit ⊕ Unit) :=
 br (decide (x13 < (a0.length : Int)))
  ((idx a0 x13) >>= fun r10 =>
  br (decide (r10.1 < 0))
   (laws_bBox_j6 k r10 rec3 x13 true)
   (laws_bBox_j6 k r10 rec3 x13 (decide (9 < r10.1))))
  (some (.inr ()))
def laws_bBox_l3 (a0 : List (Int × (List Nat) × (List Nat))) : Nat → Int → Option (Unit ⊕ Unit)
 | 0, _ => none
 | k + 1, v => laws_bBox_l3s a0 k (laws_bBox_l3 a0 k) v
def laws_bBox (k : Nat) (a0 : List (Int × (List Nat) × (List Nat))) : Option (Bool) :=
 (laws_bBox_l3 a0 k 0) >>= fun y3 => match y3 with
  | (.inl v18) =>
   (some false)
  | (.inr v19) =>
   (some true)

theorem laws_bBox_sim {k : Nat}  (a0 : List (Int × (List Nat) × (List Nat))) {out : Bool} (hp : laws_bBox k a0 = some out) : Sx.Fn Try.prog 21 [(Sl KT43 a0)] [] (fun w : Unit => (Vb out)) (fun w => []) := by
 unfold laws_bBox at hp
 refine fn_of Try.func21 rfl Try.ntmps21 rfl fun E hM => ?_
 refine cr fun K1 hK1 => ?_
 refine s0 (rd_assign' rfl) ?_
 refine nk hK1 ?_
 refine cx_seq' fun K2 hK2 => ?_
 refine cr fun K3 hK3 => ?_
 refine s0 (rd_move' rfl) ?_
 refine s0 (rd_len' rfl Try.underlying79) ?_
 refine s0 (rd_move' rfl) ?_
 refine nk hK3 ?_
 refine cx_block' ?_
 obtain ⟨y3, hy3, hp⟩ := bind_some hp
 refine cx_loopg' (F := laws_bBox_l3 a0) (G := fun k R v => laws_bBox_l3s a0 k R v) (x := 0) (gh := ()) (fun (v9 : Int) (w9 : Unit) => (⟨62, [], [(6, (Sl KT43 a0)), (7, (Vi (a0.length : Int))), (8, (Vi v9))], []⟩ : St)) (fun (y : Unit ⊕ Unit) => match y with | (.inl v18) => Zg E Exit.ret (fun (w18 : Unit) => (⟨62, [], [(2, (Vb false))], []⟩ : St)) | (.inr v19) => Zg E (Exit.exit 0) (fun (w19 : Unit) => (⟨62, [], [], []⟩ : St))) (fun _ => rfl) (fun _ _ => rfl) ?_ hy3 (tx_to' rfl [] (sub_cons rfl (sub_cons rfl (sub_cons rfl sub_nil))) (by decide) pick_nil) ?_
 ·clear hp hy3
  clear y3
  intro k rec3 KY3 ih3
  rintro x13 ⟨⟩ y3 hp
  replace hp : laws_bBox_l3s a0 k rec3 x13 = some y3 := hp
  unfold laws_bBox_l3s at hp
  refine cr fun K29 hK29 => ?_
  refine s0 (rd_bin' rfl rfl eg_int ru_lss) ?_
  refine nk hK29 ?_
  refine cx_seq' fun K30 hK30 => ?_
  refine cx_cond' rfl (fun h14 => ?_) (fun h14 => ?_)
  ·replace hp := (br_t h14).symm.trans hp
   refine cx_skip' ?_
   show TX E K30 _
   refine tx_k' hK30 ?_
   refine cx_seq' fun K31 hK31 => ?_
   refine cx_block' ?_
   refine cr fun K32 hK32 => ?_
   obtain ⟨r10, hr10, hp⟩ := bind_some hp
   refine s0 (rd_at' (K := KT43) rfl rfl hr10 Try.underlying79 info43) ?_
   refine s0 (rd_load_pt_agg' (nn := 3) rfl rfl agg43 (l' := [(Vi r10.1), (Sl Kf r10.2.1), (Sl Kf r10.2.2)]) rfl) ?_
   refine sx_ox' (ox_alloc' info43 rfl rfl rfl rfl (l := [(Vi 0), Vn, Vn]) rfl) (wt_none' rfl) fun q4 => ?_
   refine sx_ox' (ox_store' (i := 0) (o := 0) rfl rfl (lv_ag _) ⟨rfl, rfl, rfl, rfl⟩ rfl info43 rfl (H' := [⟨.pointer (some q4), [(Vi r10.1), (Sl Kf r10.2.1), (Sl Kf r10.2.2)], 43, none⟩]) rfl) (wt_none' rfl) fun _ => ?_
   refine nk hK32 ?_
   refine cx_seq' fun K33 hK33 => ?_
   refine cx_seq' fun K34 hK34 => ?_
   refine cx_plan' [] [] [(0, 1), (1, 1), (2, 1), (3, 1), (4, 1), (5, 1), (6, 1), (7, 1), (8, 1), (9, 1), (10, 1), (11, 1), (12, 1), (13, 1), (14, 0), (15, 1), (16, 1), (17, 1), (18, 1), (19, 1), (20, 1), (21, 1), (22, 1), (23, 1), (24, 1), (25, 1)] mixed (by kernel_rfl) ?_
   refine px_rd' rfl (rd_field0' rfl Try.underlying43 rfl info3 rfl) rfl rfl (wt_none' rfl) ?_
   refine px_rd' rfl (rd_load' (i := 0) (o := 0) rfl ⟨rfl, rfl, rfl, rfl⟩ rfl flat3) rfl rfl (wt_none' rfl) ?_
   refine px_rd' rfl (rd_bin' rfl rfl eg_int ru_lss) rfl rfl (wt_none' rfl) ?_
   refine px_rd' rfl (rd_move' rfl) rfl rfl (wt_none' rfl) ?_
   refine px_cutn' 4 (fun (v10 : Bool) => (⟨62, [], [(4, (Vp q4)), (6, (Sl KT43 a0)), (7, (Vi (a0.length : Int))), (8, (Vi x13)), (19, (Vb v10))], [⟨.pointer (some q4), [(Vi r10.1), (Sl Kf r10.2.1), (Sl Kf r10.2.2)], 43, none⟩]⟩ : St)) (fun (v10 : Bool) => laws_bBox_j6 k r10 rec3 x13 v10 = some y3) ?_ ?_
   ·rintro x7 hp
    replace hp : laws_bBox_j6 k r10 rec3 x13 x7 = some y3 := hp
    unfold laws_bBox_j6 at hp
    refine px_rd' rfl (rd_move' rfl) rfl rfl (wt_none' rfl) ?_
    refine px_cutn' 8 (fun (v11 : Bool) => (⟨62, [], [(4, (Vp q4)), (6, (Sl KT43 a0)), (7, (Vi (a0.length : Int))), (8, (Vi x13)), (28, (Vb v11))], [⟨.pointer (some q4), [(Vi r10.1), (Sl Kf r10.2.1), (Sl Kf r10.2.2)], 43, none⟩]⟩ : St)) (fun (v11 : Bool) => laws_bBox_j7 k r10 rec3 x13 v11 = some y3) ?_ ?_
    ·rintro x8 hp
     replace hp : laws_bBox_j7 k r10 rec3 x13 x8 = some y3 := hp
     unfold laws_bBox_j7 at hp
     refine px_rd' rfl (rd_move' rfl) rfl rfl (wt_none' rfl) ?_
     refine px_cutn' 8 (fun (v12 : Bool) => (⟨62, [], [(4, (Vp q4)), (6, (Sl KT43 a0)), (7, (Vi (a0.length : Int))), (8, (Vi x13)), (37, (Vb v12))], [⟨.pointer (some q4), [(Vi r10.1), (Sl Kf r10.2.1), (Sl Kf r10.2.2)], 43, none⟩]⟩ : St)) (fun (v12 : Bool) => laws_bBox_j8 k r10 rec3 x13 v12 = some y3) ?_ ?_
     ·rintro x9 hp
      replace hp : laws_bBox_j8 k r10 rec3 x13 x9 = some y3 := hp
      unfold laws_bBox_j8 at hp
      refine px_nil' ?_
      show TX E K34 _
      refine tx_k' hK34 ?_
      refine cx_cond' rfl (fun h18 => ?_) (fun h18 => ?_)
      ·replace hp := (br_t h18).symm.trans hp
       refine cr fun K38 hK38 => ?_
       refine s0 (rd_assign' rfl) ?_
       refine nk hK38 ?_
       refine cx_retc' ?_
       replace hp := Option.some.inj hp
       subst hp
       show TX E (Zg E Exit.ret _ Exit.ret) _
       exact tx_zend' () rfl [] (sub_cons rfl sub_nil) (by decide) pick_nil
      replace hp := (br_f h18).symm.trans hp
      refine cx_skip' ?_
      show TX E K33 _
      refine tx_k' hK33 ?_
      refine cr fun K39 hK39 => ?_
      refine s0 (rd_field' (off := 1) rfl Try.underlying43 rfl info22 rfl) ?_
      refine s0 (rd_load' (i := 0) (o := 1) rfl ⟨rfl, rfl, rfl, rfl⟩ rfl flat22) ?_
      refine s0 (rd_len' rfl Try.underlying22) ?_
      refine s0 (rd_move' rfl) ?_
      refine nk hK39 ?_
      refine cx_block' ?_
      obtain ⟨y2, hy2, hp⟩ := bind_some hp
      refine cx_loopg' (F := laws_bBox_l2 r10) (G := fun k R v => laws_bBox_l2s r10 k R v) (x := 0) (gh := ()) (fun (v14 : Int) (w14 : Unit) => (⟨62, [], [(4, (Vp q4)), (6, (Sl KT43 a0)), (7, (Vi (a0.length : Int))), (8, (Vi x13)), (40, (Vi (r10.2.1.length : Int))), (41, (Vi v14))], [⟨.pointer (some q4), [(Vi r10.1), (Sl Kf r10.2.1), (Sl Kf r10.2.2)], 43, none⟩]⟩ : St)) (fun (y : Unit ⊕ Unit) => match y with | (.inl v16) => Zg E Exit.ret (fun (w16 : Unit) => (⟨62, [], [(2, (Vb false))], []⟩ : St)) | (.inr v17) => Zg E (Exit.exit 2) (fun (w17 : Unit) => (⟨62, [], [(6, (Sl KT43 a0)), (7, (Vi (a0.length : Int))), (8, (Vi x13))], []⟩ : St))) (fun _ => rfl) (fun _ _ => rfl) ?_ hy2 (tx_to' rfl [0] (sub_cons rfl (sub_cons rfl (sub_cons rfl (sub_cons rfl (sub_cons rfl (sub_cons rfl sub_nil)))))) (by decide) (pick_cons rfl pick_nil)) ?_
      ·clear hp hy2
       clear y2
       intro k rec2 KY2 ih2
       rintro x12 ⟨⟩ y2 hp
       replace hp : laws_bBox_l2s r10 k rec2 x12 = some y2 := hp
       unfold laws_bBox_l2s at hp
       refine cr fun K47 hK47 => ?_
       refine s0 (rd_bin' rfl rfl eg_int ru_lss) ?_
       refine nk hK47 ?_
       refine cx_seq' fun K48 hK48 => ?_
       refine cx_cond' rfl (fun h23 => ?_) (fun h23 => ?_)
       ·replace hp := (br_t h23).symm.trans hp
        refine cx_skip' ?_
        show TX E K48 _
        refine tx_k' hK48 ?_
        refine cx_seq' fun K49 hK49 => ?_
        refine cx_block' ?_
        refine cr fun K50 hK50 => ?_
        refine s0 (rd_move' rfl) ?_
        refine s0 (rd_assign' rfl) ?_
        refine nk hK50 ?_
        refine cr fun K51 hK51 => ?_
        refine s0 (rd_field' (off := 1) rfl Try.underlying43 rfl info22 rfl) ?_
        refine s0 (rd_load' (i := 0) (o := 1) rfl ⟨rfl, rfl, rfl, rfl⟩ rfl flat22) ?_
        refine s0 (rd_move' rfl) ?_
        obtain ⟨r47, hr47, hp⟩ := bind_some hp
        refine s0 (rd_at' (K := Kf) rfl rfl hr47 Try.underlying22 info32) ?_
        refine s0 (rd_load_pt' rfl rfl flat32) ?_
        obtain ⟨r49, hr49, hp⟩ := bind_some hp
        refine sx_ox' (ox_calln' (ent_fn' Try.func48 isn48 rfl rfl) (laws_gNumber_sim _ hr49 : Sx.Fn Try.prog 48 [(Vg r47)] [] (fun x : Unit => (Vb r49)) (fun x => [])) (Hn := fun x : Unit => [⟨.pointer (some q4), [(Vi r10.1), (Sl Kf r10.2.1), (Sl Kf r10.2.2)], 43, none⟩]) (fun _ => rfl) rfl rfl) (wt_none' rfl) fun ⟨⟩ => ?_
        refine s0 (rd_un' rfl ru_not) ?_
        refine s0 (rd_move' rfl) ?_
        refine sx_cutn' 8 (fun (v15 : Bool) => (⟨62, [], [(4, (Vp q4)), (6, (Sl KT43 a0)), (7, (Vi (a0.length : Int))), (8, (Vi x13)), (40, (Vi (r10.2.1.length : Int))), (41, (Vi x12)), (59, (Vb v15))], [⟨.pointer (some q4), [(Vi r10.1), (Sl Kf r10.2.1), (Sl Kf r10.2.2)], 43, none⟩]⟩ : St)) (fun (v15 : Bool) => laws_bBox_j10 k rec2 x12 v15 = some y2) ?_ ?_
        ·rintro x11 hp
         replace hp : laws_bBox_j10 k rec2 x12 x11 = some y2 := hp
         unfold laws_bBox_j10 at hp
         refine nk hK51 ?_
         refine cx_cond' rfl (fun h25 => ?_) (fun h25 => ?_)
         ·replace hp := (br_t h25).symm.trans hp
          refine cr fun K53 hK53 => ?_
          refine s0 (rd_assign' rfl) ?_
          refine nk hK53 ?_
          refine cx_retc' ?_
          replace hp := Option.some.inj hp
          subst hp
          show TX E (Zg E Exit.ret _ Exit.ret) _
          exact tx_zend' () rfl [] (sub_cons rfl sub_nil) (by decide) pick_nil
         replace hp := (br_f h25).symm.trans hp
         refine cx_skip' ?_
         show TX E K49 _
         refine tx_k' hK49 ?_
         refine cx_region' ?_
         refine s0 (rd_bin' rfl rfl eg_int ru_add) ?_
         refine s0 (rd_move' rfl) ?_
         refine sx_nil' ?_
         show TX E (KY2 _) _
         exact tx_pick' [0] (sub_cons rfl (sub_cons rfl (sub_cons rfl (sub_cons rfl (sub_cons rfl (sub_cons rfl sub_nil)))))) (by decide) (pick_cons rfl pick_nil) (ih2 (iadd .i64 x12 1) () _ hp)
        intro K52 hK52
        rcases br_cases hp with ⟨h24, hp⟩ | ⟨h24, hp⟩
        ·refine sx_skip' rfl rfl (wt_is' (wt_guard' rfl rfl rfl) (beq_tf h24)) ?_
         refine sx_skip' rfl rfl (wt_is' (wt_guard' rfl rfl rfl) (beq_tf h24)) ?_
         refine sx_skip' rfl rfl (wt_is' (wt_guard' rfl rfl rfl) (beq_tf h24)) ?_
         refine sx_skip' rfl rfl (wt_is' (wt_guard' rfl rfl rfl) (beq_tf h24)) ?_
         refine sx_skip' rfl rfl (wt_is' (wt_guard' rfl rfl rfl) (beq_tf h24)) ?_
         refine sx_skip' rfl rfl (wt_is' (wt_guard' rfl rfl rfl) (beq_tf h24)) ?_
         refine sx_skip' rfl rfl (wt_is' (wt_guard' rfl rfl rfl) (beq_tf h24)) ?_
         refine s0 (rd_pick_true' rfl h24 rfl) ?_
         refine sx_nil' ?_
         show TX E K52 _
         exact tx_pick' [0] (sub_cons rfl (sub_cons rfl (sub_cons rfl (sub_cons rfl (sub_cons rfl (sub_cons rfl (sub_cons rfl sub_nil))))))) (by decide) (pick_cons rfl pick_nil) (hK52 true hp)
        refine sx_rd' (rd_field' (off := 2) rfl Try.underlying43 rfl info22 rfl) rfl rfl (wt_is' (wt_guard' rfl rfl rfl) (beq_ff h24)) ?_
        refine sx_rd' (rd_load' (i := 0) (o := 2) rfl ⟨rfl, rfl, rfl, rfl⟩ rfl flat22) rfl rfl (wt_is' (wt_guard' rfl rfl rfl) (beq_ff h24)) ?_
        refine sx_rd' (rd_move' rfl) rfl rfl (wt_is' (wt_guard' rfl rfl rfl) (beq_ff h24)) ?_
        obtain ⟨r55, hr55, hp⟩ := bind_some hp
        refine sx_rd' (rd_at' (K := Kf) rfl rfl hr55 Try.underlying22 info32) rfl rfl (wt_is' (wt_guard' rfl rfl rfl) (beq_ff h24)) ?_
        refine sx_rd' (rd_load_pt' rfl rfl flat32) rfl rfl (wt_is' (wt_guard' rfl rfl rfl) (beq_ff h24)) ?_
        obtain ⟨r57, hr57, hp⟩ := bind_some hp
        refine sx_ox' (ox_calln' (ent_fn' Try.func48 isn48 rfl rfl) (laws_gNumber_sim _ hr57 : Sx.Fn Try.prog 48 [(Vg r55)] [] (fun x : Unit => (Vb r57)) (fun x => [])) (Hn := fun x : Unit => [⟨.pointer (some q4), [(Vi r10.1), (Sl Kf r10.2.1), (Sl Kf r10.2.2)], 43, none⟩]) (fun _ => rfl) rfl rfl) (wt_is' (wt_guard' rfl rfl rfl) (beq_ff h24)) fun ⟨⟩ => ?_
        refine sx_rd' (rd_un' rfl ru_not) rfl rfl (wt_is' (wt_guard' rfl rfl rfl) (beq_ff h24)) ?_
        refine s0 (rd_pick_false' rfl h24 rfl) ?_
        refine sx_nil' ?_
        show TX E K52 _
        exact tx_pick' [0] (sub_cons rfl (sub_cons rfl (sub_cons rfl (sub_cons rfl (sub_cons rfl (sub_cons rfl (sub_cons rfl sub_nil))))))) (by decide) (pick_cons rfl pick_nil) (hK52 (!r57) hp)
       replace hp := (br_f h23).symm.trans hp
       refine cx_exit' ?_
       replace hp := Option.some.inj hp
       subst hp
       show TX E (Zg E (Exit.exit 2) _ (Exit.exit 2)) _
       exact tx_zend' () rfl [] (sub_cons rfl (sub_cons rfl (sub_cons rfl sub_nil))) (by decide) pick_nil
      rcases y2 with v16 | v17
      ·dsimp only at hp
       refine zg_out fun w16 => ?_
       replace hp := Option.some.inj hp
       subst hp
       show TX E (Zg E Exit.ret _ Exit.ret) _
       exact tx_zend' () rfl [] (sub_cons rfl sub_nil) (by decide) pick_nil
      dsimp only at hp
      refine zg_out fun w17 => ?_
      show TX E K31 _
      refine tx_k' hK31 ?_
      refine cx_region' ?_
      refine s0 (rd_bin' rfl rfl eg_int ru_add) ?_
      refine s0 (rd_move' rfl) ?_
      refine sx_nil' ?_
      show TX E (KY3 _) _
      exact tx_pick' [] (sub_cons rfl (sub_cons rfl (sub_cons rfl sub_nil))) (by decide) pick_nil (ih3 (iadd .i64 x13 1) () _ hp)
     intro K37 hK37
     rcases br_cases hp with ⟨h17, hp⟩ | ⟨h17, hp⟩
     ·refine px_skip' rfl rfl rfl (wt_is' (wt_guard' rfl rfl rfl) (beq_tf h17)) ?_
      refine px_skip' rfl rfl rfl (wt_is' (wt_guard' rfl rfl rfl) (beq_tf h17)) ?_
      refine px_skip' rfl rfl rfl (wt_is' (wt_guard' rfl rfl rfl) (beq_tf h17)) ?_
      refine px_skip' rfl rfl rfl (wt_is' (wt_guard' rfl rfl rfl) (beq_tf h17)) ?_
      refine px_skip' rfl rfl rfl (wt_is' (wt_guard' rfl rfl rfl) (beq_tf h17)) ?_
      refine px_skip' rfl rfl rfl (wt_is' (wt_guard' rfl rfl rfl) (beq_tf h17)) ?_
      refine px_skip' rfl rfl rfl (wt_is' (wt_guard' rfl rfl rfl) (beq_tf h17)) ?_
      refine px_rd' rfl (rd_pick_true' rfl h17 rfl) rfl rfl (wt_none' rfl) ?_
      refine px_nil' ?_
      show TX E K37 _
      exact tx_pick' [0] (sub_cons rfl (sub_cons rfl (sub_cons rfl (sub_cons rfl (sub_cons rfl sub_nil))))) (by decide) (pick_cons rfl pick_nil) (hK37 true hp)
     refine px_rd' rfl (rd_field' (off := 2) rfl Try.underlying43 rfl info22 rfl) rfl rfl (wt_is' (wt_guard' rfl rfl rfl) (beq_ff h17)) ?_
     refine px_rd' rfl (rd_load' (i := 0) (o := 2) rfl ⟨rfl, rfl, rfl, rfl⟩ rfl flat22) rfl rfl (wt_is' (wt_guard' rfl rfl rfl) (beq_ff h17)) ?_
     refine px_rd' rfl (rd_len' rfl Try.underlying22) rfl rfl (wt_is' (wt_guard' rfl rfl rfl) (beq_ff h17)) ?_
     refine px_rd' rfl (rd_field' (off := 1) rfl Try.underlying43 rfl info22 rfl) rfl rfl (wt_is' (wt_guard' rfl rfl rfl) (beq_ff h17)) ?_
     refine px_rd' rfl (rd_load' (i := 0) (o := 1) rfl ⟨rfl, rfl, rfl, rfl⟩ rfl flat22) rfl rfl (wt_is' (wt_guard' rfl rfl rfl) (beq_ff h17)) ?_
     refine px_rd' rfl (rd_len' rfl Try.underlying22) rfl rfl (wt_is' (wt_guard' rfl rfl rfl) (beq_ff h17)) ?_
     refine px_rd' rfl (rd_bin' rfl rfl eg_int ru_neq) rfl rfl (wt_is' (wt_guard' rfl rfl rfl) (beq_ff h17)) ?_
     refine px_rd' rfl (rd_pick_false' rfl h17 rfl) rfl rfl (wt_none' rfl) ?_
     refine px_nil' ?_
     show TX E K37 _
     exact tx_pick' [0] (sub_cons rfl (sub_cons rfl (sub_cons rfl (sub_cons rfl (sub_cons rfl sub_nil))))) (by decide) (pick_cons rfl pick_nil) (hK37 (!decide ((r10.2.2.length : Int) = (r10.2.1.length : Int))) hp)
    intro K36 hK36
    rcases br_cases hp with ⟨h16, hp⟩ | ⟨h16, hp⟩
    ·refine px_skip' rfl rfl rfl (wt_is' (wt_guard' rfl rfl rfl) (beq_tf h16)) ?_
     refine px_skip' rfl rfl rfl (wt_is' (wt_guard' rfl rfl rfl) (beq_tf h16)) ?_
     refine px_skip' rfl rfl rfl (wt_is' (wt_guard' rfl rfl rfl) (beq_tf h16)) ?_
     refine px_skip' rfl rfl rfl (wt_is' (wt_guard' rfl rfl rfl) (beq_tf h16)) ?_
     refine px_skip' rfl rfl rfl (wt_is' (wt_guard' rfl rfl rfl) (beq_tf h16)) ?_
     refine px_oskip' rfl rfl rfl (wt_is' (wt_guard' rfl rfl rfl) (beq_tf h16)) ?_
     refine px_skip' rfl rfl rfl (wt_is' (wt_guard' rfl rfl rfl) (beq_tf h16)) ?_
     refine px_rd' rfl (rd_pick_true' rfl h16 rfl) rfl rfl (wt_none' rfl) ?_
     refine px_nil' ?_
     show TX E K36 _
     exact tx_pick' [0] (sub_cons rfl (sub_cons rfl (sub_cons rfl (sub_cons rfl (sub_cons rfl sub_nil))))) (by decide) (pick_cons rfl pick_nil) (hK36 true hp)
    refine px_rd' rfl (rd_field' (off := 1) rfl Try.underlying43 rfl info22 rfl) rfl rfl (wt_is' (wt_guard' rfl rfl rfl) (beq_ff h16)) ?_
    refine px_rd' rfl (rd_load' (i := 0) (o := 1) rfl ⟨rfl, rfl, rfl, rfl⟩ rfl flat22) rfl rfl (wt_is' (wt_guard' rfl rfl rfl) (beq_ff h16)) ?_
    refine px_rd' rfl (rd_len' rfl Try.underlying22) rfl rfl (wt_is' (wt_guard' rfl rfl rfl) (beq_ff h16)) ?_
    refine px_rd' rfl (rd_field0' rfl Try.underlying43 rfl info3 rfl) rfl rfl (wt_is' (wt_guard' rfl rfl rfl) (beq_ff h16)) ?_
    refine px_rd' rfl (rd_load' (i := 0) (o := 0) rfl ⟨rfl, rfl, rfl, rfl⟩ rfl flat3) rfl rfl (wt_is' (wt_guard' rfl rfl rfl) (beq_ff h16)) ?_
    obtain ⟨r26, hr26, hp⟩ := bind_some hp
    refine px_ox' rfl (ox_calln' (ent_fn' Try.func47 isn47 rfl rfl) (spec_Stride_sim _ hr26 : Sx.Fn Try.prog 47 [(Vi r10.1)] [] (fun x : Unit => (Vi r26)) (fun x => [])) (Hn := fun x : Unit => [⟨.pointer (some q4), [(Vi r10.1), (Sl Kf r10.2.1), (Sl Kf r10.2.2)], 43, none⟩]) (fun _ => rfl) rfl rfl) rfl bs_nil (wt_is' (wt_guard' rfl rfl rfl) (beq_ff h16)) fun ⟨⟩ => ?_
    refine px_rd' rfl (rd_bin' rfl rfl eg_int ru_neq) rfl rfl (wt_is' (wt_guard' rfl rfl rfl) (beq_ff h16)) ?_
    refine px_rd' rfl (rd_pick_false' rfl h16 rfl) rfl rfl (wt_none' rfl) ?_
    refine px_nil' ?_
    show TX E K36 _
    exact tx_pick' [0] (sub_cons rfl (sub_cons rfl (sub_cons rfl (sub_cons rfl (sub_cons rfl sub_nil))))) (by decide) (pick_cons rfl pick_nil) (hK36 (!decide ((r10.2.1.length : Int) = r26)) hp)
   intro K35 hK35
   rcases br_cases hp with ⟨h15, hp⟩ | ⟨h15, hp⟩
   ·refine px_skip' rfl rfl rfl (wt_is' (wt_guard' rfl rfl rfl) (beq_tf h15)) ?_
    refine px_skip' rfl rfl rfl (wt_is' (wt_guard' rfl rfl rfl) (beq_tf h15)) ?_
    refine px_skip' rfl rfl rfl (wt_is' (wt_guard' rfl rfl rfl) (beq_tf h15)) ?_
    refine px_rd' rfl (rd_pick_true' rfl h15 rfl) rfl rfl (wt_none' rfl) ?_
    refine px_nil' ?_
    show TX E K35 _
    exact tx_pick' [0] (sub_cons rfl (sub_cons rfl (sub_cons rfl (sub_cons rfl (sub_cons rfl sub_nil))))) (by decide) (pick_cons rfl pick_nil) (hK35 true hp)
   refine px_rd' rfl (rd_field0' rfl Try.underlying43 rfl info3 rfl) rfl rfl (wt_is' (wt_guard' rfl rfl rfl) (beq_ff h15)) ?_
   refine px_rd' rfl (rd_load' (i := 0) (o := 0) rfl ⟨rfl, rfl, rfl, rfl⟩ rfl flat3) rfl rfl (wt_is' (wt_guard' rfl rfl rfl) (beq_ff h15)) ?_
   refine px_rd' rfl (rd_bin' rfl rfl eg_int ru_gtr) rfl rfl (wt_is' (wt_guard' rfl rfl rfl) (beq_ff h15)) ?_
   refine px_rd' rfl (rd_pick_false' rfl h15 rfl) rfl rfl (wt_none' rfl) ?_
   refine px_nil' ?_
   show TX E K35 _
   exact tx_pick' [0] (sub_cons rfl (sub_cons rfl (sub_cons rfl (sub_cons rfl (sub_cons rfl sub_nil))))) (by decide) (pick_cons rfl pick_nil) (hK35 (decide (9 < r10.1)) hp)
  replace hp := (br_f h14).symm.trans hp
  refine cx_exit' ?_
  replace hp := Option.some.inj hp
  subst hp
  show TX E (Zg E (Exit.exit 0) _ (Exit.exit 0)) _
  exact tx_zend' () rfl [] sub_nil (by decide) pick_nil
 rcases y3 with v18 | v19
 ·dsimp only at hp
  refine zg_out fun w18 => ?_
  replace hp := Option.some.inj hp
  subst hp
  refine tx_pick' (L' := [(2, (Vb false))]) (H' := []) [] (sub_cons rfl sub_nil) (by decide) pick_nil ?_
  exact tx_ret1' Try.results21 rfl () (rv_tmp' rfl) (List.Sublist.refl _)
 dsimp only at hp
 refine zg_out fun w19 => ?_
 show TX E K2 _
 refine tx_k' hK2 ?_
 refine cr fun K54 hK54 => ?_
 refine s0 (rd_assign' rfl) ?_
 refine nk hK54 ?_
 refine cx_retc' ?_
 replace hp := Option.some.inj hp
 subst hp
 refine tx_pick' (L' := [(2, (Vb true))]) (H' := []) [] (sub_cons rfl sub_nil) (by decide) pick_nil ?_
 exact tx_ret1' Try.results21 rfl () (rv_tmp' rfl) (List.Sublist.refl _)

def spec_Weight_l1s (a0_5 : List (List Int)) (k : Nat) (rec1 : (Int × Int) → Option (Int)) (x1 : Int) (x2 : Int) : Option (Int) :=
 br (decide (x2 < (a0_5.length : Int)))
  ((idx a0_5 x2) >>= fun r23 =>
  rec1 ((iadd .i64 x1 (iadd .i64 1 (r23.length : Int))), (iadd .i64 x2 1)))
  (some x1)
def spec_Weight_l1 (a0_5 : List (List Int)) : Nat → (Int × Int) → Option (Int)
 | 0, _ => none
 | k + 1, v => spec_Weight_l1s a0_5 k (spec_Weight_l1 a0_5 k) v.1 v.2
def spec_Weight_l2s (a0_6 : List T27) (a1 : Int) (recf : Int → Int → Int → (List Nat) → (List Int) → (List (List Int)) → (List T27) → Int → Option (Int)) (k : Nat) (rec2 : (Int × Int) → Option (Int ⊕ Int)) (x5 : Int) (x6 : Int) : Option (Int ⊕ Int) :=
 br (decide (x6 < (a0_6.length : Int)))
  ((idx a0_6 x6) >>= fun r36 =>
  br (decide (a1 < x5))
   (some (.inl x5))
   ((recf r36.f0 r36.f1 r36.f2 r36.f3 r36.f4 r36.f5 r36.f6 (isub .i64 a1 x5)) >>= fun r47 =>
   rec2 ((iadd .i64 x5 r47), (iadd .i64 x6 1))))
  (some (.inr x5))
def spec_Weight_l2 (a0_6 : List T27) (a1 : Int) (recf : Int → Int → Int → (List Nat) → (List Int) → (List (List Int)) → (List T27) → Int → Option (Int)) : Nat → (Int × Int) → Option (Int ⊕ Int)
 | 0, _ => none
 | k + 1, v => spec_Weight_l2s a0_6 a1 recf k (spec_Weight_l2 a0_6 a1 recf k) v.1 v.2
def spec_Weight_b (recf : Int → Int → Int → (List Nat) → (List Int) → (List (List Int)) → (List T27) → Int → Option (Int)) (k : Nat) (a0_0 : Int) (a0_1 : Int) (a0_2 : Int) (a0_3 : List Nat) (a0_4 : List Int) (a0_5 : List (List Int)) (a0_6 : List T27) (a1 : Int) : Option (Int) :=
 (spec_Weight_l1 a0_5 k ((iadd .i64 (iadd .i64 1 (a0_3.length : Int)) (a0_4.length : Int)), 0)) >>= fun v2 =>
 (spec_Weight_l2 a0_6 a1 recf k (v2, 0)) >>= fun y2 => match y2 with
  | (.inl v5) =>
   (some v5)
  | (.inr v6) =>
   (some v6)
def spec_Weight : Nat → Int → Int → Int → (List Nat) → (List Int) → (List (List Int)) → (List T27) → Int → Option (Int)
 | 0 => fun _ _ _ _ _ _ _ _ => none
 | k + 1 => fun a0_0 a0_1 a0_2 a0_3 a0_4 a0_5 a0_6 a1 => spec_Weight_b (spec_Weight k) k a0_0 a0_1 a0_2 a0_3 a0_4 a0_5 a0_6 a1

theorem spec_Weight_b_sim {recf : Int → Int → Int → (List Nat) → (List Int) → (List (List Int)) → (List T27) → Int → Option (Int)} (hrec : ∀  (a0_0 : Int) (a0_1 : Int) (a0_2 : Int) (a0_3 : List Nat) (a0_4 : List Int) (a0_5 : List (List Int)) (a0_6 : List T27) (a1 : Int) (out : Int), recf a0_0 a0_1 a0_2 a0_3 a0_4 a0_5 a0_6 a1 = some out → Sx.Fn Try.prog 56 [(Ag [(Vi a0_0), (Vi a0_1), (Vi a0_2), (Sl Kf a0_3), (Sl (Ki .i64) a0_4), (Sl (Kl (Ki .i64)) a0_5), (Sl KT27 a0_6)]), (Vi a1)] [] (fun w : Unit => (Vi out)) (fun w => [])) {k : Nat}  (a0_0 : Int) (a0_1 : Int) (a0_2 : Int) (a0_3 : List Nat) (a0_4 : List Int) (a0_5 : List (List Int)) (a0_6 : List T27) (a1 : Int) {out : Int} (hp : spec_Weight_b recf k a0_0 a0_1 a0_2 a0_3 a0_4 a0_5 a0_6 a1 = some out) : Sx.Fn Try.prog 56 [(Ag [(Vi a0_0), (Vi a0_1), (Vi a0_2), (Sl Kf a0_3), (Sl (Ki .i64) a0_4), (Sl (Kl (Ki .i64)) a0_5), (Sl KT27 a0_6)]), (Vi a1)] [] (fun w : Unit => (Vi out)) (fun w => []) := by
 unfold spec_Weight_b at hp
 refine fn_of Try.func56 rfl Try.ntmps56 rfl fun E hM => ?_
 refine cr fun K1 hK1 => ?_
 refine sx_ox' (ox_box' rfl (lv_ag _) rfl rfl) (wt_none' rfl) fun q2 => ?_
 refine s0 (rd_assign' rfl) ?_
 refine nk hK1 ?_
 refine cr fun K2 hK2 => ?_
 refine s0 (rd_field' (off := 3) rfl Try.underlying27 rfl info22 rfl) ?_
 refine s0 (rd_load' (i := 0) (o := 3) rfl ⟨rfl, rfl, rfl, rfl⟩ rfl flat22) ?_
 refine s0 (rd_len' rfl Try.underlying22) ?_
 refine s0 (rd_bin' rfl rfl eg_int ru_add) ?_
 refine s0 (rd_field' (off := 4) rfl Try.underlying27 rfl info23 rfl) ?_
 refine s0 (rd_load' (i := 0) (o := 4) rfl ⟨rfl, rfl, rfl, rfl⟩ rfl flat23) ?_
 refine s0 (rd_len' rfl Try.underlying23) ?_
 refine s0 (rd_bin' rfl rfl eg_int ru_add) ?_
 refine s0 (rd_assign' rfl) ?_
 refine nk hK2 ?_
 refine cx_seq' fun K3 hK3 => ?_
 refine cr fun K4 hK4 => ?_
 refine s0 (rd_field' (off := 5) rfl Try.underlying27 rfl info24 rfl) ?_
 refine s0 (rd_load' (i := 0) (o := 5) rfl ⟨rfl, rfl, rfl, rfl⟩ rfl flat24) ?_
 refine s0 (rd_len' rfl Try.underlying24) ?_
 refine s0 (rd_move' rfl) ?_
 refine nk hK4 ?_
 refine cx_block' ?_
 obtain ⟨v2, hy1, hp⟩ := bind_some hp
 refine cx_loopg' (F := spec_Weight_l1 a0_5) (G := fun k R v => spec_Weight_l1s a0_5 k R v.1 v.2) (x := ((iadd .i64 (iadd .i64 1 (a0_3.length : Int)) (a0_4.length : Int)), 0)) (gh := ()) (fun (v1 : Int × Int) (w1 : Unit) => (⟨51, [], [(1, (Vi a1)), (2, (Vp q2)), (5, (Vi v1.1)), (19, (Sl (Kl (Ki .i64)) a0_5)), (20, (Vi (a0_5.length : Int))), (21, (Vi v1.2))], [⟨.pointer (some q2), [(Vi a0_0), (Vi a0_1), (Vi a0_2), (Sl Kf a0_3), (Sl (Ki .i64) a0_4), (Sl (Kl (Ki .i64)) a0_5), (Sl KT27 a0_6)], 27, none⟩]⟩ : St)) (fun (v2 : Int) => Zg E (Exit.exit 0) (fun (w2 : Unit) => (⟨51, [], [(1, (Vi a1)), (2, (Vp q2)), (5, (Vi v2))], [⟨.pointer (some q2), [(Vi a0_0), (Vi a0_1), (Vi a0_2), (Sl Kf a0_3), (Sl (Ki .i64) a0_4), (Sl (Kl (Ki .i64)) a0_5), (Sl KT27 a0_6)], 27, none⟩]⟩ : St))) (fun _ => rfl) (fun _ _ => rfl) ?_ hy1 (tx_to' rfl [0] (sub_cons rfl (sub_cons rfl (sub_cons rfl (sub_cons rfl (sub_cons rfl (sub_cons rfl sub_nil)))))) (by decide) (pick_cons rfl pick_nil)) ?_
 ·clear hp hy1
  clear v2
  intro k rec1 KY1 ih1
  rintro ⟨x1, x2⟩ ⟨⟩ y1 hp
  replace hp : spec_Weight_l1s a0_5 k rec1 x1 x2 = some y1 := hp
  unfold spec_Weight_l1s at hp
  refine cr fun K9 hK9 => ?_
  refine s0 (rd_bin' rfl rfl eg_int ru_lss) ?_
  refine nk hK9 ?_
  refine cx_seq' fun K10 hK10 => ?_
  refine cx_cond' rfl (fun h3 => ?_) (fun h3 => ?_)
  ·replace hp := (br_t h3).symm.trans hp
   refine cx_skip' ?_
   show TX E K10 _
   refine tx_k' hK10 ?_
   refine cx_seq' fun K11 hK11 => ?_
   refine cx_block' ?_
   refine cr fun K12 hK12 => ?_
   obtain ⟨r23, hr23, hp⟩ := bind_some hp
   refine s0 (rd_at' (K := (Kl (Ki .i64))) rfl rfl hr23 Try.underlying24 info23) ?_
   refine s0 (rd_load_pt' rfl rfl flat23) ?_
   refine s0 (rd_assign' rfl) ?_
   refine nk hK12 ?_
   refine cx_region' ?_
   refine s0 (rd_move' rfl) ?_
   refine s0 (rd_move' rfl) ?_
   refine s0 (rd_len' rfl Try.underlying23) ?_
   refine s0 (rd_bin' rfl rfl eg_int ru_add) ?_
   refine s0 (rd_bin' rfl rfl eg_int ru_add) ?_
   refine s0 (rd_assign' rfl) ?_
   refine nk hK11 ?_
   refine cx_region' ?_
   refine s0 (rd_bin' rfl rfl eg_int ru_add) ?_
   refine s0 (rd_move' rfl) ?_
   refine sx_nil' ?_
   show TX E (KY1 _) _
   exact tx_pick' [0] (sub_cons rfl (sub_cons rfl (sub_cons rfl (sub_cons rfl (sub_cons rfl (sub_cons rfl sub_nil)))))) (by decide) (pick_cons rfl pick_nil) (ih1 ((iadd .i64 x1 (iadd .i64 1 (r23.length : Int))), (iadd .i64 x2 1)) () _ hp)
  replace hp := (br_f h3).symm.trans hp
  refine cx_exit' ?_
  replace hp := Option.some.inj hp
  subst hp
  show TX E (Zg E (Exit.exit 0) _ (Exit.exit 0)) _
  exact tx_zend' () rfl [0] (sub_cons rfl (sub_cons rfl (sub_cons rfl sub_nil))) (by decide) (pick_cons rfl pick_nil)
 refine zg_out fun w2 => ?_
 show TX E K3 _
 refine tx_k' hK3 ?_
 refine cx_seq' fun K13 hK13 => ?_
 refine cr fun K14 hK14 => ?_
 refine s0 (rd_field' (off := 6) rfl Try.underlying27 rfl info25 rfl) ?_
 refine s0 (rd_load' (i := 0) (o := 6) rfl ⟨rfl, rfl, rfl, rfl⟩ rfl flat25) ?_
 refine s0 (rd_len' rfl Try.underlying25) ?_
 refine s0 (rd_move' rfl) ?_
 refine nk hK14 ?_
 refine cx_block' ?_
 obtain ⟨y2, hy2, hp⟩ := bind_some hp
 refine cx_loopg' (F := spec_Weight_l2 a0_6 a1 recf) (G := fun k R v => spec_Weight_l2s a0_6 a1 recf k R v.1 v.2) (x := (v2, 0)) (gh := ()) (fun (v4 : Int × Int) (w4 : Unit) => (⟨51, [], [(1, (Vi a1)), (5, (Vi v4.1)), (32, (Sl KT27 a0_6)), (33, (Vi (a0_6.length : Int))), (34, (Vi v4.2))], []⟩ : St)) (fun (y : Int ⊕ Int) => match y with | (.inl v5) => Zg E Exit.ret (fun (w5 : Unit) => (⟨51, [], [(4, (Vi v5))], []⟩ : St)) | (.inr v6) => Zg E (Exit.exit 2) (fun (w6 : Unit) => (⟨51, [], [(5, (Vi v6))], []⟩ : St))) (fun _ => rfl) (fun _ _ => rfl) ?_ hy2 (tx_to' rfl [] (sub_cons rfl (sub_cons rfl (sub_cons rfl (sub_cons rfl (sub_cons rfl sub_nil))))) (by decide) pick_nil) ?_
 ·clear hp hy2
  clear y2
  intro k rec2 KY2 ih2
  rintro ⟨x5, x6⟩ ⟨⟩ y2 hp
  replace hp : spec_Weight_l2s a0_6 a1 recf k rec2 x5 x6 = some y2 := hp
  unfold spec_Weight_l2s at hp
  refine cr fun K23 hK23 => ?_
  refine s0 (rd_bin' rfl rfl eg_int ru_lss) ?_
  refine nk hK23 ?_
  refine cx_seq' fun K24 hK24 => ?_
  refine cx_cond' rfl (fun h7 => ?_) (fun h7 => ?_)
  ·replace hp := (br_t h7).symm.trans hp
   refine cx_skip' ?_
   show TX E K24 _
   refine tx_k' hK24 ?_
   refine cx_seq' fun K25 hK25 => ?_
   refine cx_block' ?_
   refine cr fun K26 hK26 => ?_
   obtain ⟨r36, hr36, hp⟩ := bind_some hp
   refine s0 (rd_eq' (congrArg Pt (KT27_enc r36)) (rd_at' (K := KT27) rfl rfl hr36 Try.underlying25 info27)) ?_
   refine s0 (rd_load_pt_agg' (nn := 7) rfl rfl agg27 (l' := [(Vi r36.f0), (Vi r36.f1), (Vi r36.f2), (Sl Kf r36.f3), (Sl (Ki .i64) r36.f4), (Sl (Kl (Ki .i64)) r36.f5), (Sl KT27 r36.f6)]) rfl) ?_
   refine sx_ox' (ox_alloc' info27 rfl rfl rfl rfl (l := [(Vi 0), (Vi 0), (Vi 0), Vn, Vn, Vn, Vn]) rfl) (wt_none' rfl) fun q9 => ?_
   refine sx_ox' (ox_store' (i := 0) (o := 0) rfl rfl (lv_ag _) ⟨rfl, rfl, rfl, rfl⟩ rfl info27 rfl (H' := [⟨.pointer (some q9), [(Vi r36.f0), (Vi r36.f1), (Vi r36.f2), (Sl Kf r36.f3), (Sl (Ki .i64) r36.f4), (Sl (Kl (Ki .i64)) r36.f5), (Sl KT27 r36.f6)], 27, none⟩]) rfl) (wt_none' rfl) fun _ => ?_
   refine nk hK26 ?_
   refine cx_seq' fun K27 hK27 => ?_
   refine cr fun K28 hK28 => ?_
   refine s0 (rd_move' rfl) ?_
   refine s0 (rd_move' rfl) ?_
   refine s0 (rd_bin' rfl rfl eg_int ru_gtr) ?_
   refine nk hK28 ?_
   refine cx_cond' rfl (fun h8 => ?_) (fun h8 => ?_)
   ·replace hp := (br_t h8).symm.trans hp
    refine cr fun K29 hK29 => ?_
    refine s0 (rd_move' rfl) ?_
    refine s0 (rd_assign' rfl) ?_
    refine nk hK29 ?_
    refine cx_retc' ?_
    replace hp := Option.some.inj hp
    subst hp
    show TX E (Zg E Exit.ret _ Exit.ret) _
    exact tx_zend' () rfl [] (sub_cons rfl sub_nil) (by decide) pick_nil
   replace hp := (br_f h8).symm.trans hp
   refine cx_skip' ?_
   show TX E K27 _
   refine tx_k' hK27 ?_
   refine cx_region' ?_
   refine s0 (rd_move' rfl) ?_
   refine s0 (rd_load_agg' (i := 0) (o := 0) (nn := 7) rfl ⟨rfl, rfl, rfl, rfl⟩ rfl agg27 (l' := [(Vi r36.f0), (Vi r36.f1), (Vi r36.f2), (Sl Kf r36.f3), (Sl (Ki .i64) r36.f4), (Sl (Kl (Ki .i64)) r36.f5), (Sl KT27 r36.f6)]) rfl) ?_
   refine s0 (rd_move' rfl) ?_
   refine s0 (rd_move' rfl) ?_
   refine s0 (rd_bin' rfl rfl eg_int ru_sub) ?_
   obtain ⟨r47, hr47, hp⟩ := bind_some hp
   refine sx_ox' (ox_calln' (ent_fn' Try.func56 isn56 rfl rfl) (hrec _ _ _ _ _ _ _ _ _ hr47 : Sx.Fn Try.prog 56 [(Ag [(Vi r36.f0), (Vi r36.f1), (Vi r36.f2), (Sl Kf r36.f3), (Sl (Ki .i64) r36.f4), (Sl (Kl (Ki .i64)) r36.f5), (Sl KT27 r36.f6)]), (Vi (isub .i64 a1 x5))] [] (fun x : Unit => (Vi r47)) (fun x => [])) (Hn := fun x : Unit => [⟨.pointer (some q9), [(Vi r36.f0), (Vi r36.f1), (Vi r36.f2), (Sl Kf r36.f3), (Sl (Ki .i64) r36.f4), (Sl (Kl (Ki .i64)) r36.f5), (Sl KT27 r36.f6)], 27, none⟩]) (fun _ => rfl) rfl rfl) (wt_none' rfl) fun ⟨⟩ => ?_
   refine s0 (rd_bin' rfl rfl eg_int ru_add) ?_
   refine s0 (rd_assign' rfl) ?_
   refine nk hK25 ?_
   refine cx_region' ?_
   refine s0 (rd_bin' rfl rfl eg_int ru_add) ?_
   refine s0 (rd_move' rfl) ?_
   refine sx_nil' ?_
   show TX E (KY2 _) _
   exact tx_pick' [] (sub_cons rfl (sub_cons rfl (sub_cons rfl (sub_cons rfl (sub_cons rfl sub_nil))))) (by decide) pick_nil (ih2 ((iadd .i64 x5 r47), (iadd .i64 x6 1)) () _ hp)
  replace hp := (br_f h7).symm.trans hp
  refine cx_exit' ?_
  replace hp := Option.some.inj hp
  subst hp
  show TX E (Zg E (Exit.exit 2) _ (Exit.exit 2)) _
  exact tx_zend' () rfl [] (sub_cons rfl sub_nil) (by decide) pick_nil
 rcases y2 with v5 | v6
 ·dsimp only at hp
  refine zg_out fun w5 => ?_
  replace hp := Option.some.inj hp
  subst hp
  refine tx_pick' (L' := [(4, (Vi v5))]) (H' := []) [] (sub_cons rfl sub_nil) (by decide) pick_nil ?_
  exact tx_ret1' Try.results56 rfl () (rv_tmp' rfl) (List.Sublist.refl _)
 dsimp only at hp
 refine zg_out fun w6 => ?_
 show TX E K13 _
 refine tx_k' hK13 ?_
 refine cr fun K22 hK22 => ?_
 refine s0 (rd_move' rfl) ?_
 refine s0 (rd_assign' rfl) ?_
 refine nk hK22 ?_
 refine cx_retc' ?_
 replace hp := Option.some.inj hp
 subst hp
 refine tx_pick' (L' := [(4, (Vi v6))]) (H' := []) [] (sub_cons rfl sub_nil) (by decide) pick_nil ?_
 exact tx_ret1' Try.results56 rfl () (rv_tmp' rfl) (List.Sublist.refl _)
theorem spec_Weight_simA : ∀ (k : Nat)  (a0_0 : Int) (a0_1 : Int) (a0_2 : Int) (a0_3 : List Nat) (a0_4 : List Int) (a0_5 : List (List Int)) (a0_6 : List T27) (a1 : Int) (out : Int), spec_Weight k a0_0 a0_1 a0_2 a0_3 a0_4 a0_5 a0_6 a1 = some out → Sx.Fn Try.prog 56 [(Ag [(Vi a0_0), (Vi a0_1), (Vi a0_2), (Sl Kf a0_3), (Sl (Ki .i64) a0_4), (Sl (Kl (Ki .i64)) a0_5), (Sl KT27 a0_6)]), (Vi a1)] [] (fun w : Unit => (Vi out)) (fun w => []) := by
 intro k
 induction k with
 | zero => intro a0_0 a0_1 a0_2 a0_3 a0_4 a0_5 a0_6 a1 out hp; cases hp
 | succ k ih => intro a0_0 a0_1 a0_2 a0_3 a0_4 a0_5 a0_6 a1 out hp; exact spec_Weight_b_sim ih a0_0 a0_1 a0_2 a0_3 a0_4 a0_5 a0_6 a1 hp
theorem spec_Weight_sim {k : Nat}  (a0_0 : Int) (a0_1 : Int) (a0_2 : Int) (a0_3 : List Nat) (a0_4 : List Int) (a0_5 : List (List Int)) (a0_6 : List T27) (a1 : Int) {out : Int} (hp : spec_Weight k a0_0 a0_1 a0_2 a0_3 a0_4 a0_5 a0_6 a1 = some out) : Sx.Fn Try.prog 56 [(Ag [(Vi a0_0), (Vi a0_1), (Vi a0_2), (Sl Kf a0_3), (Sl (Ki .i64) a0_4), (Sl (Kl (Ki .i64)) a0_5), (Sl KT27 a0_6)]), (Vi a1)] [] (fun w : Unit => (Vi out)) (fun w => []) := spec_Weight_simA k a0_0 a0_1 a0_2 a0_3 a0_4 a0_5 a0_6 a1 out hp

def laws_gLayouts_l1s (a0_6 : List T27) (recf : Int → Int → Int → (List Nat) → (List Int) → (List (List Int)) → (List T27) → Int → Option (Bool)) (a1 : Int) (k : Nat) (rec1 : Int → Option (Unit ⊕ Unit)) (x5 : Int) : Option (Unit ⊕ Unit) :=
 br (decide (x5 < (a0_6.length : Int)))
  ((idx a0_6 x5) >>= fun r12 =>
  (recf r12.f0 r12.f1 r12.f2 r12.f3 r12.f4 r12.f5 r12.f6 a1) >>= fun r16 =>
  br (!r16)
   (some (.inl ()))
   (rec1 (iadd .i64 x5 1)))
  (some (.inr ()))
def laws_gLayouts_l1 (a0_6 : List T27) (recf : Int → Int → Int → (List Nat) → (List Int) → (List (List Int)) → (List T27) → Int → Option (Bool)) (a1 : Int) : Nat → Int → Option (Unit ⊕ Unit)
 | 0, _ => none
 | k + 1, v => laws_gLayouts_l1s a0_6 recf a1 k (laws_gLayouts_l1 a0_6 recf a1 k) v
def laws_gLayouts_j3 (k : Nat) (x3 : Bool) : Option (Bool) :=
 some x3
def laws_gLayouts_j2 (k : Nat) (x2 : Bool) : Option (Bool) :=
 laws_gLayouts_j3 k x2
def laws_gLayouts_j1 (k : Nat) (x1 : Bool) : Option (Bool) :=
 laws_gLayouts_j2 k x1
def laws_gLayouts_b (recf : Int → Int → Int → (List Nat) → (List Int) → (List (List Int)) → (List T27) → Int → Option (Bool)) (k : Nat) (a0_0 : Int) (a0_1 : Int) (a0_2 : Int) (a0_3 : List Nat) (a0_4 : List Int) (a0_5 : List (List Int)) (a0_6 : List T27) (a1 : Int) : Option (Bool) :=
 (laws_gLayouts_l1 a0_6 recf a1 k 0) >>= fun y1 => match y1 with
  | (.inl v6) =>
   (some false)
  | (.inr v7) =>
   (br (decide (a0_1 ≤ a1))
    (br (decide (1 ≤ a0_1))
     (laws_gLayouts_j2 k true)
     (br (decide (a0_0 = 7))
      (laws_gLayouts_j1 k (decide (0 ≤ a0_1)))
      (laws_gLayouts_j1 k false)))
    (laws_gLayouts_j3 k false))
def laws_gLayouts : Nat → Int → Int → Int → (List Nat) → (List Int) → (List (List Int)) → (List T27) → Int → Option (Bool)
 | 0 => fun _ _ _ _ _ _ _ _ => none
 | k + 1 => fun a0_0 a0_1 a0_2 a0_3 a0_4 a0_5 a0_6 a1 => laws_gLayouts_b (laws_gLayouts k) k a0_0 a0_1 a0_2 a0_3 a0_4 a0_5 a0_6 a1

theorem laws_gLayouts_b_sim {recf : Int → Int → Int → (List Nat) → (List Int) → (List (List Int)) → (List T27) → Int → Option (Bool)} (hrec : ∀  (a0_0 : Int) (a0_1 : Int) (a0_2 : Int) (a0_3 : List Nat) (a0_4 : List Int) (a0_5 : List (List Int)) (a0_6 : List T27) (a1 : Int) (out : Bool), recf a0_0 a0_1 a0_2 a0_3 a0_4 a0_5 a0_6 a1 = some out → Sx.Fn Try.prog 50 [(Ag [(Vi a0_0), (Vi a0_1), (Vi a0_2), (Sl Kf a0_3), (Sl (Ki .i64) a0_4), (Sl (Kl (Ki .i64)) a0_5), (Sl KT27 a0_6)]), (Vi a1)] [] (fun w : Unit => (Vb out)) (fun w => [])) {k : Nat}  (a0_0 : Int) (a0_1 : Int) (a0_2 : Int) (a0_3 : List Nat) (a0_4 : List Int) (a0_5 : List (List Int)) (a0_6 : List T27) (a1 : Int) {out : Bool} (hp : laws_gLayouts_b recf k a0_0 a0_1 a0_2 a0_3 a0_4 a0_5 a0_6 a1 = some out) : Sx.Fn Try.prog 50 [(Ag [(Vi a0_0), (Vi a0_1), (Vi a0_2), (Sl Kf a0_3), (Sl (Ki .i64) a0_4), (Sl (Kl (Ki .i64)) a0_5), (Sl KT27 a0_6)]), (Vi a1)] [] (fun w : Unit => (Vb out)) (fun w => []) := by
 unfold laws_gLayouts_b at hp
 refine fn_of Try.func50 rfl Try.ntmps50 rfl fun E hM => ?_
 refine cr fun K1 hK1 => ?_
 refine sx_ox' (ox_box' rfl (lv_ag _) rfl rfl) (wt_none' rfl) fun q2 => ?_
 refine s0 (rd_assign' rfl) ?_
 refine nk hK1 ?_
 refine cx_seq' fun K2 hK2 => ?_
 refine cr fun K3 hK3 => ?_
 refine s0 (rd_field' (off := 6) rfl Try.underlying27 rfl info25 rfl) ?_
 refine s0 (rd_load' (i := 0) (o := 6) rfl ⟨rfl, rfl, rfl, rfl⟩ rfl flat25) ?_
 refine s0 (rd_len' rfl Try.underlying25) ?_
 refine s0 (rd_move' rfl) ?_
 refine nk hK3 ?_
 refine cx_block' ?_
 obtain ⟨y1, hy1, hp⟩ := bind_some hp
 refine cx_loopg' (F := laws_gLayouts_l1 a0_6 recf a1) (G := fun k R v => laws_gLayouts_l1s a0_6 recf a1 k R v) (x := 0) (gh := ()) (fun (v5 : Int) (w5 : Unit) => (⟨38, [], [(1, (Vi a1)), (2, (Vp q2)), (8, (Sl KT27 a0_6)), (9, (Vi (a0_6.length : Int))), (10, (Vi v5))], [⟨.pointer (some q2), [(Vi a0_0), (Vi a0_1), (Vi a0_2), (Sl Kf a0_3), (Sl (Ki .i64) a0_4), (Sl (Kl (Ki .i64)) a0_5), (Sl KT27 a0_6)], 27, none⟩]⟩ : St)) (fun (y : Unit ⊕ Unit) => match y with | (.inl v6) => Zg E Exit.ret (fun (w6 : Unit) => (⟨38, [], [(4, (Vb false))], []⟩ : St)) | (.inr v7) => Zg E (Exit.exit 0) (fun (w7 : Unit) => (⟨38, [], [(1, (Vi a1)), (2, (Vp q2))], [⟨.pointer (some q2), [(Vi a0_0), (Vi a0_1), (Vi a0_2), (Sl Kf a0_3), (Sl (Ki .i64) a0_4), (Sl (Kl (Ki .i64)) a0_5), (Sl KT27 a0_6)], 27, none⟩]⟩ : St))) (fun _ => rfl) (fun _ _ => rfl) ?_ hy1 (tx_to' rfl [0] (sub_cons rfl (sub_cons rfl (sub_cons rfl (sub_cons rfl (sub_cons rfl sub_nil))))) (by decide) (pick_cons rfl pick_nil)) ?_
 ·clear hp hy1
  clear y1
  intro k rec1 KY1 ih1
  rintro x5 ⟨⟩ y1 hp
  replace hp : laws_gLayouts_l1s a0_6 recf a1 k rec1 x5 = some y1 := hp
  unfold laws_gLayouts_l1s at hp
  refine cr fun K14 hK14 => ?_
  refine s0 (rd_bin' rfl rfl eg_int ru_lss) ?_
  refine nk hK14 ?_
  refine cx_seq' fun K15 hK15 => ?_
  refine cx_cond' rfl (fun h7 => ?_) (fun h7 => ?_)
  ·replace hp := (br_t h7).symm.trans hp
   refine cx_skip' ?_
   show TX E K15 _
   refine tx_k' hK15 ?_
   refine cx_seq' fun K16 hK16 => ?_
   refine cx_block' ?_
   refine cr fun K17 hK17 => ?_
   obtain ⟨r12, hr12, hp⟩ := bind_some hp
   refine s0 (rd_eq' (congrArg Pt (KT27_enc r12)) (rd_at' (K := KT27) rfl rfl hr12 Try.underlying25 info27)) ?_
   refine s0 (rd_load_pt_agg' (nn := 7) rfl rfl agg27 (l' := [(Vi r12.f0), (Vi r12.f1), (Vi r12.f2), (Sl Kf r12.f3), (Sl (Ki .i64) r12.f4), (Sl (Kl (Ki .i64)) r12.f5), (Sl KT27 r12.f6)]) rfl) ?_
   refine sx_ox' (ox_alloc' info27 rfl rfl rfl rfl (l := [(Vi 0), (Vi 0), (Vi 0), Vn, Vn, Vn, Vn]) rfl) (wt_none' rfl) fun q6 => ?_
   refine sx_ox' (ox_store' (i := 0) (o := 0) rfl rfl (lv_ag _) ⟨rfl, rfl, rfl, rfl⟩ rfl info27 rfl (H' := [⟨.pointer (some q6), [(Vi r12.f0), (Vi r12.f1), (Vi r12.f2), (Sl Kf r12.f3), (Sl (Ki .i64) r12.f4), (Sl (Kl (Ki .i64)) r12.f5), (Sl KT27 r12.f6)], 27, none⟩, ⟨.pointer (some q2), [(Vi a0_0), (Vi a0_1), (Vi a0_2), (Sl Kf a0_3), (Sl (Ki .i64) a0_4), (Sl (Kl (Ki .i64)) a0_5), (Sl KT27 a0_6)], 27, none⟩]) rfl) (wt_none' rfl) fun _ => ?_
   refine nk hK17 ?_
   refine cr fun K18 hK18 => ?_
   refine s0 (rd_load_agg' (i := 0) (o := 0) (nn := 7) rfl ⟨rfl, rfl, rfl, rfl⟩ rfl agg27 (l' := [(Vi r12.f0), (Vi r12.f1), (Vi r12.f2), (Sl Kf r12.f3), (Sl (Ki .i64) r12.f4), (Sl (Kl (Ki .i64)) r12.f5), (Sl KT27 r12.f6)]) rfl) ?_
   refine s0 (rd_move' rfl) ?_
   obtain ⟨r16, hr16, hp⟩ := bind_some hp
   refine sx_ox' (ox_calln' (ent_fn' Try.func50 isn50 rfl rfl) (hrec _ _ _ _ _ _ _ _ _ hr16 : Sx.Fn Try.prog 50 [(Ag [(Vi r12.f0), (Vi r12.f1), (Vi r12.f2), (Sl Kf r12.f3), (Sl (Ki .i64) r12.f4), (Sl (Kl (Ki .i64)) r12.f5), (Sl KT27 r12.f6)]), (Vi a1)] [] (fun x : Unit => (Vb r16)) (fun x => [])) (Hn := fun x : Unit => [⟨.pointer (some q6), [(Vi r12.f0), (Vi r12.f1), (Vi r12.f2), (Sl Kf r12.f3), (Sl (Ki .i64) r12.f4), (Sl (Kl (Ki .i64)) r12.f5), (Sl KT27 r12.f6)], 27, none⟩, ⟨.pointer (some q2), [(Vi a0_0), (Vi a0_1), (Vi a0_2), (Sl Kf a0_3), (Sl (Ki .i64) a0_4), (Sl (Kl (Ki .i64)) a0_5), (Sl KT27 a0_6)], 27, none⟩]) (fun _ => rfl) rfl rfl) (wt_none' rfl) fun ⟨⟩ => ?_
   refine s0 (rd_un' rfl ru_not) ?_
   refine nk hK18 ?_
   refine cx_cond' rfl (fun h8 => ?_) (fun h8 => ?_)
   ·replace hp := (br_t h8).symm.trans hp
    refine cr fun K19 hK19 => ?_
    refine s0 (rd_assign' rfl) ?_
    refine nk hK19 ?_
    refine cx_retc' ?_
    replace hp := Option.some.inj hp
    subst hp
    show TX E (Zg E Exit.ret _ Exit.ret) _
    exact tx_zend' () rfl [] (sub_cons rfl sub_nil) (by decide) pick_nil
   replace hp := (br_f h8).symm.trans hp
   refine cx_skip' ?_
   show TX E K16 _
   refine tx_k' hK16 ?_
   refine cx_region' ?_
   refine s0 (rd_bin' rfl rfl eg_int ru_add) ?_
   refine s0 (rd_move' rfl) ?_
   refine sx_nil' ?_
   show TX E (KY1 _) _
   exact tx_pick' [1] (sub_cons rfl (sub_cons rfl (sub_cons rfl (sub_cons rfl (sub_cons rfl sub_nil))))) (by decide) (pick_cons rfl pick_nil) (ih1 (iadd .i64 x5 1) () _ hp)
  replace hp := (br_f h7).symm.trans hp
  refine cx_exit' ?_
  replace hp := Option.some.inj hp
  subst hp
  show TX E (Zg E (Exit.exit 0) _ (Exit.exit 0)) _
  exact tx_zend' () rfl [0] (sub_cons rfl (sub_cons rfl sub_nil)) (by decide) (pick_cons rfl pick_nil)
 rcases y1 with v6 | v7
 ·dsimp only at hp
  refine zg_out fun w6 => ?_
  replace hp := Option.some.inj hp
  subst hp
  refine tx_pick' (L' := [(4, (Vb false))]) (H' := []) [] (sub_cons rfl sub_nil) (by decide) pick_nil ?_
  exact tx_ret1' Try.results50 rfl () (rv_tmp' rfl) (List.Sublist.refl _)
 dsimp only at hp
 refine zg_out fun w7 => ?_
 show TX E K2 _
 refine tx_k' hK2 ?_
 refine cr fun K9 hK9 => ?_
 refine s0 (rd_field' (off := 1) rfl Try.underlying27 rfl info3 rfl) ?_
 refine s0 (rd_load' (i := 0) (o := 1) rfl ⟨rfl, rfl, rfl, rfl⟩ rfl flat3) ?_
 refine s0 (rd_move' rfl) ?_
 refine s0 (rd_bin' rfl rfl eg_int ru_leq) ?_
 refine s0 (rd_move' rfl) ?_
 refine sx_cutn' 14 (fun (v3 : Bool) => (⟨38, [], [(37, (Vb v3))], []⟩ : St)) (fun (v3 : Bool) => laws_gLayouts_j3 k v3 = some out) ?_ ?_
 ·rintro x3 hp
  replace hp : laws_gLayouts_j3 k x3 = some out := hp
  unfold laws_gLayouts_j3 at hp
  refine s0 (rd_assign' rfl) ?_
  refine nk hK9 ?_
  refine cx_retc' ?_
  replace hp := Option.some.inj hp
  subst hp
  refine tx_pick' (L' := [(4, (Vb x3))]) (H' := []) [] (sub_cons rfl sub_nil) (by decide) pick_nil ?_
  exact tx_ret1' Try.results50 rfl () (rv_tmp' rfl) (List.Sublist.refl _)
 intro K12 hK12
 rcases br_cases hp with ⟨h2, hp⟩ | ⟨h2, hp⟩
 ·refine sx_rd' (rd_field' (off := 1) rfl Try.underlying27 rfl info3 rfl) rfl rfl (wt_is' (wt_guard' rfl rfl rfl) (beq_tt h2)) ?_
  refine sx_rd' (rd_load' (i := 0) (o := 1) rfl ⟨rfl, rfl, rfl, rfl⟩ rfl flat3) rfl rfl (wt_is' (wt_guard' rfl rfl rfl) (beq_tt h2)) ?_
  refine sx_rd' (rd_bin' rfl rfl eg_int ru_geq) rfl rfl (wt_is' (wt_guard' rfl rfl rfl) (beq_tt h2)) ?_
  refine sx_rd' (rd_move' rfl) rfl rfl (wt_is' (wt_guard' rfl rfl rfl) (beq_tt h2)) ?_
  refine sx_cutn' 10 (fun (v2 : Bool) => (⟨38, [], [(37, (Vb v2))], []⟩ : St)) (fun (v2 : Bool) => laws_gLayouts_j2 k v2 = some out) ?_ ?_
  ·rintro x2 hp
   replace hp : laws_gLayouts_j2 k x2 = some out := hp
   unfold laws_gLayouts_j2 at hp
   refine sx_nil' ?_
   show TX E K12 _
   exact tx_pick' [] (sub_cons rfl sub_nil) (by decide) pick_nil (hK12 x2 hp)
  intro K11 hK11
  rcases br_cases hp with ⟨h3, hp⟩ | ⟨h3, hp⟩
  ·refine sx_skip' rfl rfl (wt_is' (wt_guard' rfl rfl rfl) (beq_tf h3)) ?_
   refine sx_skip' rfl rfl (wt_is' (wt_guard' rfl rfl rfl) (beq_tf h3)) ?_
   refine sx_skip' rfl rfl (wt_is' (wt_guard' rfl rfl rfl) (beq_tf h3)) ?_
   refine sx_skip' rfl rfl (wt_is' (wt_guard' rfl rfl rfl) (beq_tf h3)) ?_
   refine sx_skip' rfl rfl (wt_undef' rfl rfl rfl) ?_
   refine sx_skip' rfl rfl (wt_undef' rfl rfl rfl) ?_
   refine sx_skip' rfl rfl (wt_undef' rfl rfl rfl) ?_
   refine sx_skip' rfl rfl (wt_is' (wt_guard' rfl rfl rfl) (beq_tf h3)) ?_
   refine sx_rd' (rd_pick_true' rfl h3 rfl) rfl rfl (wt_is' (wt_guard' rfl rfl rfl) (beq_tt h2)) ?_
   refine s0 (rd_pick_true' rfl h2 rfl) ?_
   refine sx_nil' ?_
   show TX E K11 _
   exact tx_pick' [] (sub_cons rfl sub_nil) (by decide) pick_nil (hK11 true hp)
  refine sx_rd' (rd_field0' rfl Try.underlying27 rfl info3 rfl) rfl rfl (wt_is' (wt_guard' rfl rfl rfl) (beq_ff h3)) ?_
  refine sx_rd' (rd_load' (i := 0) (o := 0) rfl ⟨rfl, rfl, rfl, rfl⟩ rfl flat3) rfl rfl (wt_is' (wt_guard' rfl rfl rfl) (beq_ff h3)) ?_
  refine sx_rd' (rd_bin' rfl rfl eg_int ru_eql) rfl rfl (wt_is' (wt_guard' rfl rfl rfl) (beq_ff h3)) ?_
  refine sx_rd' (rd_move' rfl) rfl rfl (wt_is' (wt_guard' rfl rfl rfl) (beq_ff h3)) ?_
  refine sx_cutn' 6 (fun (v1 : Bool) => (⟨38, [], [(37, (Vb v1))], []⟩ : St)) (fun (v1 : Bool) => laws_gLayouts_j1 k v1 = some out) ?_ ?_
  ·rintro x1 hp
   replace hp : laws_gLayouts_j1 k x1 = some out := hp
   unfold laws_gLayouts_j1 at hp
   refine sx_nil' ?_
   show TX E K11 _
   exact tx_pick' [] (sub_cons rfl sub_nil) (by decide) pick_nil (hK11 x1 hp)
  intro K10 hK10
  rcases br_cases hp with ⟨h4, hp⟩ | ⟨h4, hp⟩
  ·refine sx_rd' (rd_field' (off := 1) rfl Try.underlying27 rfl info3 rfl) rfl rfl (wt_is' (wt_guard' rfl rfl rfl) (beq_tt h4)) ?_
   refine sx_rd' (rd_load' (i := 0) (o := 1) rfl ⟨rfl, rfl, rfl, rfl⟩ rfl flat3) rfl rfl (wt_is' (wt_guard' rfl rfl rfl) (beq_tt h4)) ?_
   refine sx_rd' (rd_bin' rfl rfl eg_int ru_geq) rfl rfl (wt_is' (wt_guard' rfl rfl rfl) (beq_tt h4)) ?_
   refine sx_rd' (rd_pick_true' rfl h4 rfl) rfl rfl (wt_is' (wt_guard' rfl rfl rfl) (beq_ff h3)) ?_
   refine sx_rd' (rd_pick_false' rfl h3 rfl) rfl rfl (wt_is' (wt_guard' rfl rfl rfl) (beq_tt h2)) ?_
   refine s0 (rd_pick_true' rfl h2 rfl) ?_
   refine sx_nil' ?_
   show TX E K10 _
   exact tx_pick' [] (sub_cons rfl sub_nil) (by decide) pick_nil (hK10 (decide (0 ≤ a0_1)) hp)
  refine sx_skip' rfl rfl (wt_is' (wt_guard' rfl rfl rfl) (beq_ft h4)) ?_
  refine sx_skip' rfl rfl (wt_is' (wt_guard' rfl rfl rfl) (beq_ft h4)) ?_
  refine sx_skip' rfl rfl (wt_is' (wt_guard' rfl rfl rfl) (beq_ft h4)) ?_
  refine sx_rd' (rd_pick_false' rfl h4 rfl) rfl rfl (wt_is' (wt_guard' rfl rfl rfl) (beq_ff h3)) ?_
  refine sx_rd' (rd_pick_false' rfl h3 rfl) rfl rfl (wt_is' (wt_guard' rfl rfl rfl) (beq_tt h2)) ?_
  refine s0 (rd_pick_true' rfl h2 rfl) ?_
  refine sx_nil' ?_
  show TX E K10 _
  exact tx_pick' [] (sub_cons rfl sub_nil) (by decide) pick_nil (hK10 false hp)
 refine sx_skip' rfl rfl (wt_is' (wt_guard' rfl rfl rfl) (beq_ft h2)) ?_
 refine sx_skip' rfl rfl (wt_is' (wt_guard' rfl rfl rfl) (beq_ft h2)) ?_
 refine sx_skip' rfl rfl (wt_is' (wt_guard' rfl rfl rfl) (beq_ft h2)) ?_
 refine sx_skip' rfl rfl (wt_is' (wt_guard' rfl rfl rfl) (beq_ft h2)) ?_
 refine sx_skip' rfl rfl (wt_undef' rfl rfl rfl) ?_
 refine sx_skip' rfl rfl (wt_undef' rfl rfl rfl) ?_
 refine sx_skip' rfl rfl (wt_undef' rfl rfl rfl) ?_
 refine sx_skip' rfl rfl (wt_undef' rfl rfl rfl) ?_
 refine sx_skip' rfl rfl (wt_undef' rfl rfl rfl) ?_
 refine sx_skip' rfl rfl (wt_undef' rfl rfl rfl) ?_
 refine sx_skip' rfl rfl (wt_undef' rfl rfl rfl) ?_
 refine sx_skip' rfl rfl (wt_undef' rfl rfl rfl) ?_
 refine sx_skip' rfl rfl (wt_is' (wt_guard' rfl rfl rfl) (beq_ft h2)) ?_
 refine s0 (rd_pick_false' rfl h2 rfl) ?_
 refine sx_nil' ?_
 show TX E K12 _
 exact tx_pick' [] (sub_cons rfl sub_nil) (by decide) pick_nil (hK12 false hp)
theorem laws_gLayouts_simA : ∀ (k : Nat)  (a0_0 : Int) (a0_1 : Int) (a0_2 : Int) (a0_3 : List Nat) (a0_4 : List Int) (a0_5 : List (List Int)) (a0_6 : List T27) (a1 : Int) (out : Bool), laws_gLayouts k a0_0 a0_1 a0_2 a0_3 a0_4 a0_5 a0_6 a1 = some out → Sx.Fn Try.prog 50 [(Ag [(Vi a0_0), (Vi a0_1), (Vi a0_2), (Sl Kf a0_3), (Sl (Ki .i64) a0_4), (Sl (Kl (Ki .i64)) a0_5), (Sl KT27 a0_6)]), (Vi a1)] [] (fun w : Unit => (Vb out)) (fun w => []) := by
 intro k
 induction k with
 | zero => intro a0_0 a0_1 a0_2 a0_3 a0_4 a0_5 a0_6 a1 out hp; cases hp
 | succ k ih => intro a0_0 a0_1 a0_2 a0_3 a0_4 a0_5 a0_6 a1 out hp; exact laws_gLayouts_b_sim ih a0_0 a0_1 a0_2 a0_3 a0_4 a0_5 a0_6 a1 hp
theorem laws_gLayouts_sim {k : Nat}  (a0_0 : Int) (a0_1 : Int) (a0_2 : Int) (a0_3 : List Nat) (a0_4 : List Int) (a0_5 : List (List Int)) (a0_6 : List T27) (a1 : Int) {out : Bool} (hp : laws_gLayouts k a0_0 a0_1 a0_2 a0_3 a0_4 a0_5 a0_6 a1 = some out) : Sx.Fn Try.prog 50 [(Ag [(Vi a0_0), (Vi a0_1), (Vi a0_2), (Sl Kf a0_3), (Sl (Ki .i64) a0_4), (Sl (Kl (Ki .i64)) a0_5), (Sl KT27 a0_6)]), (Vi a1)] [] (fun w : Unit => (Vb out)) (fun w => []) := laws_gLayouts_simA k a0_0 a0_1 a0_2 a0_3 a0_4 a0_5 a0_6 a1 out hp

def laws_gSmall_j2 (k : Nat) (rec1 : (Int × Int) → Option (Unit ⊕ Unit)) (x3 : Int) (r15 : Int) (x4 : Int) (x2 : Bool) : Option (Unit ⊕ Unit) :=
 br x2
  (some (.inl ()))
  (rec1 ((isub .i64 x3 r15), (iadd .i64 x4 1)))
def laws_gSmall_l1s (a0 : List T27) (k : Nat) (rec1 : (Int × Int) → Option (Unit ⊕ Unit)) (x3 : Int) (x4 : Int) : Option (Unit ⊕ Unit) :=
 br (decide (x4 < (a0.length : Int)))
  ((idx a0 x4) >>= fun r10 =>
  (spec_Weight k r10.f0 r10.f1 r10.f2 r10.f3 r10.f4 r10.f5 r10.f6 x3) >>= fun r15 =>
  br (decide ((isub .i64 x3 r15) < 0))
   (laws_gSmall_j2 k rec1 x3 r15 x4 true)
   ((laws_gLayouts k r10.f0 r10.f1 r10.f2 r10.f3 r10.f4 r10.f5 r10.f6 9) >>= fun r21 =>
   laws_gSmall_j2 k rec1 x3 r15 x4 (!r21)))
  (some (.inr ()))
def laws_gSmall_l1 (a0 : List T27) : Nat → (Int × Int) → Option (Unit ⊕ Unit)
 | 0, _ => none
 | k + 1, v => laws_gSmall_l1s a0 k (laws_gSmall_l1 a0 k) v.1 v.2
def laws_gSmall (k : Nat) (a0 : List T27) : Option (Bool) :=
 (laws_gSmall_l1 a0 k (2000, 0)) >>= fun y1 => match y1 with
  | (.inl v4) =>
   (some false)
  | (.inr v5) =>
   (some true)

theorem laws_gSmall_sim {k : Nat}  (a0 : List T27) {out : Bool} (hp : laws_gSmall k a0 = some out) : Sx.Fn Try.prog 26 [(Sl KT27 a0)] [] (fun w : Unit => (Vb out)) (fun w => []) := by
 unfold laws_gSmall at hp
 refine fn_of Try.func26 rfl Try.ntmps26 rfl fun E hM => ?_
 refine cr fun K1 hK1 => ?_
 refine s0 (rd_assign' rfl) ?_
 refine nk hK1 ?_
 refine cr fun K2 hK2 => ?_
 refine s0 (rd_assign' rfl) ?_
 refine nk hK2 ?_
 refine cx_seq' fun K3 hK3 => ?_
 refine cr fun K4 hK4 => ?_
 refine s0 (rd_move' rfl) ?_
 refine s0 (rd_len' rfl Try.underlying25) ?_
 refine s0 (rd_move' rfl) ?_
 refine nk hK4 ?_
 refine cx_block' ?_
 obtain ⟨y1, hy1, hp⟩ := bind_some hp
 refine cx_loopg' (F := laws_gSmall_l1 a0) (G := fun k R v => laws_gSmall_l1s a0 k R v.1 v.2) (x := (2000, 0)) (gh := ()) (fun (v2 : Int × Int) (w2 : Unit) => (⟨25, [], [(3, (Vi v2.1)), (6, (Sl KT27 a0)), (7, (Vi (a0.length : Int))), (8, (Vi v2.2))], []⟩ : St)) (fun (y : Unit ⊕ Unit) => match y with | (.inl v4) => Zg E Exit.ret (fun (w4 : Unit) => (⟨25, [], [(2, (Vb false))], []⟩ : St)) | (.inr v5) => Zg E (Exit.exit 0) (fun (w5 : Unit) => (⟨25, [], [], []⟩ : St))) (fun _ => rfl) (fun _ _ => rfl) ?_ hy1 (tx_to' rfl [] (sub_cons rfl (sub_cons rfl (sub_cons rfl (sub_cons rfl sub_nil)))) (by decide) pick_nil) ?_
 ·clear hp hy1
  clear y1
  intro k rec1 KY1 ih1
  rintro ⟨x3, x4⟩ ⟨⟩ y1 hp
  replace hp : laws_gSmall_l1s a0 k rec1 x3 x4 = some y1 := hp
  unfold laws_gSmall_l1s at hp
  refine cr fun K13 hK13 => ?_
  refine s0 (rd_bin' rfl rfl eg_int ru_lss) ?_
  refine nk hK13 ?_
  refine cx_seq' fun K14 hK14 => ?_
  refine cx_cond' rfl (fun h5 => ?_) (fun h5 => ?_)
  ·replace hp := (br_t h5).symm.trans hp
   refine cx_skip' ?_
   show TX E K14 _
   refine tx_k' hK14 ?_
   refine cx_seq' fun K15 hK15 => ?_
   refine cx_block' ?_
   refine cr fun K16 hK16 => ?_
   obtain ⟨r10, hr10, hp⟩ := bind_some hp
   refine s0 (rd_eq' (congrArg Pt (KT27_enc r10)) (rd_at' (K := KT27) rfl rfl hr10 Try.underlying25 info27)) ?_
   refine s0 (rd_load_pt_agg' (nn := 7) rfl rfl agg27 (l' := [(Vi r10.f0), (Vi r10.f1), (Vi r10.f2), (Sl Kf r10.f3), (Sl (Ki .i64) r10.f4), (Sl (Kl (Ki .i64)) r10.f5), (Sl KT27 r10.f6)]) rfl) ?_
   refine sx_ox' (ox_alloc' info27 rfl rfl rfl rfl (l := [(Vi 0), (Vi 0), (Vi 0), Vn, Vn, Vn, Vn]) rfl) (wt_none' rfl) fun q5 => ?_
   refine sx_ox' (ox_store' (i := 0) (o := 0) rfl rfl (lv_ag _) ⟨rfl, rfl, rfl, rfl⟩ rfl info27 rfl (H' := [⟨.pointer (some q5), [(Vi r10.f0), (Vi r10.f1), (Vi r10.f2), (Sl Kf r10.f3), (Sl (Ki .i64) r10.f4), (Sl (Kl (Ki .i64)) r10.f5), (Sl KT27 r10.f6)], 27, none⟩]) rfl) (wt_none' rfl) fun _ => ?_
   refine nk hK16 ?_
   refine cr fun K17 hK17 => ?_
   refine s0 (rd_move' rfl) ?_
   refine s0 (rd_load_agg' (i := 0) (o := 0) (nn := 7) rfl ⟨rfl, rfl, rfl, rfl⟩ rfl agg27 (l' := [(Vi r10.f0), (Vi r10.f1), (Vi r10.f2), (Sl Kf r10.f3), (Sl (Ki .i64) r10.f4), (Sl (Kl (Ki .i64)) r10.f5), (Sl KT27 r10.f6)]) rfl) ?_
   refine s0 (rd_move' rfl) ?_
   obtain ⟨r15, hr15, hp⟩ := bind_some hp
   refine sx_ox' (ox_calln' (ent_fn' Try.func56 isn56 rfl rfl) (spec_Weight_sim _ _ _ _ _ _ _ _ hr15 : Sx.Fn Try.prog 56 [(Ag [(Vi r10.f0), (Vi r10.f1), (Vi r10.f2), (Sl Kf r10.f3), (Sl (Ki .i64) r10.f4), (Sl (Kl (Ki .i64)) r10.f5), (Sl KT27 r10.f6)]), (Vi x3)] [] (fun x : Unit => (Vi r15)) (fun x => [])) (Hn := fun x : Unit => [⟨.pointer (some q5), [(Vi r10.f0), (Vi r10.f1), (Vi r10.f2), (Sl Kf r10.f3), (Sl (Ki .i64) r10.f4), (Sl (Kl (Ki .i64)) r10.f5), (Sl KT27 r10.f6)], 27, none⟩]) (fun _ => rfl) rfl rfl) (wt_none' rfl) fun ⟨⟩ => ?_
   refine s0 (rd_bin' rfl rfl eg_int ru_sub) ?_
   refine s0 (rd_assign' rfl) ?_
   refine nk hK17 ?_
   refine cr fun K18 hK18 => ?_
   refine s0 (rd_move' rfl) ?_
   refine s0 (rd_bin' rfl rfl eg_int ru_lss) ?_
   refine s0 (rd_move' rfl) ?_
   refine sx_cutn' 4 (fun (v3 : Bool) => (⟨25, [], [(3, (Vi (isub .i64 x3 r15))), (6, (Sl KT27 a0)), (7, (Vi (a0.length : Int))), (8, (Vi x4)), (23, (Vb v3))], []⟩ : St)) (fun (v3 : Bool) => laws_gSmall_j2 k rec1 x3 r15 x4 v3 = some y1) ?_ ?_
   ·rintro x2 hp
    replace hp : laws_gSmall_j2 k rec1 x3 r15 x4 x2 = some y1 := hp
    unfold laws_gSmall_j2 at hp
    refine nk hK18 ?_
    refine cx_cond' rfl (fun h7 => ?_) (fun h7 => ?_)
    ·replace hp := (br_t h7).symm.trans hp
     refine cr fun K20 hK20 => ?_
     refine s0 (rd_assign' rfl) ?_
     refine nk hK20 ?_
     refine cx_retc' ?_
     replace hp := Option.some.inj hp
     subst hp
     show TX E (Zg E Exit.ret _ Exit.ret) _
     exact tx_zend' () rfl [] (sub_cons rfl sub_nil) (by decide) pick_nil
    replace hp := (br_f h7).symm.trans hp
    refine cx_skip' ?_
    show TX E K15 _
    refine tx_k' hK15 ?_
    refine cx_region' ?_
    refine s0 (rd_bin' rfl rfl eg_int ru_add) ?_
    refine s0 (rd_move' rfl) ?_
    refine sx_nil' ?_
    show TX E (KY1 _) _
    exact tx_pick' [] (sub_cons rfl (sub_cons rfl (sub_cons rfl (sub_cons rfl sub_nil)))) (by decide) pick_nil (ih1 ((isub .i64 x3 r15), (iadd .i64 x4 1)) () _ hp)
   intro K19 hK19
   rcases br_cases hp with ⟨h6, hp⟩ | ⟨h6, hp⟩
   ·refine sx_skip' rfl rfl (wt_is' (wt_guard' rfl rfl rfl) (beq_tf h6)) ?_
    refine sx_skip' rfl rfl (wt_is' (wt_guard' rfl rfl rfl) (beq_tf h6)) ?_
    refine sx_skip' rfl rfl (wt_is' (wt_guard' rfl rfl rfl) (beq_tf h6)) ?_
    refine s0 (rd_pick_true' rfl h6 rfl) ?_
    refine sx_nil' ?_
    show TX E K19 _
    exact tx_pick' [] (sub_cons rfl (sub_cons rfl (sub_cons rfl (sub_cons rfl (sub_cons rfl sub_nil))))) (by decide) pick_nil (hK19 true hp)
   refine sx_rd' (rd_load_agg' (i := 0) (o := 0) (nn := 7) rfl ⟨rfl, rfl, rfl, rfl⟩ rfl agg27 (l' := [(Vi r10.f0), (Vi r10.f1), (Vi r10.f2), (Sl Kf r10.f3), (Sl (Ki .i64) r10.f4), (Sl (Kl (Ki .i64)) r10.f5), (Sl KT27 r10.f6)]) rfl) rfl rfl (wt_is' (wt_guard' rfl rfl rfl) (beq_ff h6)) ?_
   obtain ⟨r21, hr21, hp⟩ := bind_some hp
   refine sx_ox' (ox_calln' (ent_fn' Try.func50 isn50 rfl rfl) (laws_gLayouts_sim _ _ _ _ _ _ _ _ hr21 : Sx.Fn Try.prog 50 [(Ag [(Vi r10.f0), (Vi r10.f1), (Vi r10.f2), (Sl Kf r10.f3), (Sl (Ki .i64) r10.f4), (Sl (Kl (Ki .i64)) r10.f5), (Sl KT27 r10.f6)]), (Vi 9)] [] (fun x : Unit => (Vb r21)) (fun x => [])) (Hn := fun x : Unit => [⟨.pointer (some q5), [(Vi r10.f0), (Vi r10.f1), (Vi r10.f2), (Sl Kf r10.f3), (Sl (Ki .i64) r10.f4), (Sl (Kl (Ki .i64)) r10.f5), (Sl KT27 r10.f6)], 27, none⟩]) (fun _ => rfl) rfl rfl) (wt_is' (wt_guard' rfl rfl rfl) (beq_ff h6)) fun ⟨⟩ => ?_
   refine sx_rd' (rd_un' rfl ru_not) rfl rfl (wt_is' (wt_guard' rfl rfl rfl) (beq_ff h6)) ?_
   refine s0 (rd_pick_false' rfl h6 rfl) ?_
   refine sx_nil' ?_
   show TX E K19 _
   exact tx_pick' [] (sub_cons rfl (sub_cons rfl (sub_cons rfl (sub_cons rfl (sub_cons rfl sub_nil))))) (by decide) pick_nil (hK19 (!r21) hp)
  replace hp := (br_f h5).symm.trans hp
  refine cx_exit' ?_
  replace hp := Option.some.inj hp
  subst hp
  show TX E (Zg E (Exit.exit 0) _ (Exit.exit 0)) _
  exact tx_zend' () rfl [] sub_nil (by decide) pick_nil
 rcases y1 with v4 | v5
 ·dsimp only at hp
  refine zg_out fun w4 => ?_
  replace hp := Option.some.inj hp
  subst hp
  refine tx_pick' (L' := [(2, (Vb false))]) (H' := []) [] (sub_cons rfl sub_nil) (by decide) pick_nil ?_
  exact tx_ret1' Try.results26 rfl () (rv_tmp' rfl) (List.Sublist.refl _)
 dsimp only at hp
 refine zg_out fun w5 => ?_
 show TX E K3 _
 refine tx_k' hK3 ?_
 refine cr fun K21 hK21 => ?_
 refine s0 (rd_assign' rfl) ?_
 refine nk hK21 ?_
 refine cx_retc' ?_
 replace hp := Option.some.inj hp
 subst hp
 refine tx_pick' (L' := [(2, (Vb true))]) (H' := []) [] (sub_cons rfl sub_nil) (by decide) pick_nil ?_
 exact tx_ret1' Try.results26 rfl () (rv_tmp' rfl) (List.Sublist.refl _)

def spec_goodEnds_j6 (k : Nat) (x7 : Int) (rec1 : (Int × Int) → Option (Int ⊕ Int)) (r16 : Int) (x8 : Int) (x6 : Bool) : Option (Int ⊕ Int) :=
 br x6
  (some (.inl x7))
  (rec1 (r16, (iadd .i64 x8 1)))
def spec_goodEnds_j5 (k : Nat) (x7 : Int) (rec1 : (Int × Int) → Option (Int ⊕ Int)) (r16 : Int) (x8 : Int) (x5 : Bool) : Option (Int ⊕ Int) :=
 spec_goodEnds_j6 k x7 rec1 r16 x8 x5
def spec_goodEnds_j4 (k : Nat) (x7 : Int) (rec1 : (Int × Int) → Option (Int ⊕ Int)) (r16 : Int) (x8 : Int) (a3 : Bool) (a2 : Int) (x4 : Bool) : Option (Int ⊕ Int) :=
 br x4
  (spec_goodEnds_j6 k x7 rec1 r16 x8 true)
  (br a3
   (spec_goodEnds_j5 k x7 rec1 r16 x8 (decide (a2 < (isub .i64 r16 x7))))
   (spec_goodEnds_j5 k x7 rec1 r16 x8 false))
def spec_goodEnds_l1s (a0 : List Int) (a3 : Bool) (a2 : Int) (k : Nat) (rec1 : (Int × Int) → Option (Int ⊕ Int)) (x7 : Int) (x8 : Int) : Option (Int ⊕ Int) :=
 br (decide (x8 < (a0.length : Int)))
  ((idx a0 x8) >>= fun r16 =>
  br (decide (r16 < x7))
   (spec_goodEnds_j4 k x7 rec1 r16 x8 a3 a2 true)
   ((irem (isub .i64 r16 x7) a2) >>= fun r26 =>
   spec_goodEnds_j4 k x7 rec1 r16 x8 a3 a2 (!decide (r26 = 0))))
  (some (.inr x7))
def spec_goodEnds_l1 (a0 : List Int) (a3 : Bool) (a2 : Int) : Nat → (Int × Int) → Option (Int ⊕ Int)
 | 0, _ => none
 | k + 1, v => spec_goodEnds_l1s a0 a3 a2 k (spec_goodEnds_l1 a0 a3 a2 k) v.1 v.2
def spec_goodEnds (k : Nat) (a0 : List Int) (a1 : Int) (a2 : Int) (a3 : Bool) : Option (Int × Bool) :=
 (spec_goodEnds_l1 a0 a3 a2 k (a1, 0)) >>= fun y1 => match y1 with
  | (.inl v8) =>
   (some (v8, false))
  | (.inr v9) =>
   (some (v9, true))

theorem spec_goodEnds_sim {k : Nat}  (a0 : List Int) (a1 : Int) (a2 : Int) (a3 : Bool) {out : Int × Bool} (hp : spec_goodEnds k a0 a1 a2 a3 = some out) : Sx.Fn Try.prog 57 [(Sl (Ki .i64) a0), (Vi a1), (Vi a2), (Vb a3)] [] (fun w : Unit => (Tu [(Vi out.1), (Vb out.2)])) (fun w => []) := by
 unfold spec_goodEnds at hp
 refine fn_of Try.func57 rfl Try.ntmps57 rfl fun E hM => ?_
 refine cr fun K1 hK1 => ?_
 refine s0 (rd_assign' rfl) ?_
 refine s0 (rd_assign' rfl) ?_
 refine nk hK1 ?_
 refine cx_seq' fun K2 hK2 => ?_
 refine cr fun K3 hK3 => ?_
 refine s0 (rd_move' rfl) ?_
 refine s0 (rd_len' rfl Try.underlying23) ?_
 refine s0 (rd_move' rfl) ?_
 refine nk hK3 ?_
 refine cx_block' ?_
 obtain ⟨y1, hy1, hp⟩ := bind_some hp
 refine cx_loopg' (F := spec_goodEnds_l1 a0 a3 a2) (G := fun k R v => spec_goodEnds_l1s a0 a3 a2 k R v.1 v.2) (x := (a1, 0)) (gh := ()) (fun (v4 : Int × Int) (w4 : Unit) => (⟨43, [], [(1, (Vi v4.1)), (2, (Vi a2)), (3, (Vb a3)), (12, (Sl (Ki .i64) a0)), (13, (Vi (a0.length : Int))), (14, (Vi v4.2))], []⟩ : St)) (fun (y : Int ⊕ Int) => match y with | (.inl v8) => Zg E Exit.ret (fun (w8 : Unit) => (⟨43, [], [(8, (Vi v8)), (9, (Vb false))], []⟩ : St)) | (.inr v9) => Zg E (Exit.exit 0) (fun (w9 : Unit) => (⟨43, [], [(1, (Vi v9))], []⟩ : St))) (fun _ => rfl) (fun _ _ => rfl) ?_ hy1 (tx_to' rfl [] (sub_cons rfl (sub_cons rfl (sub_cons rfl (sub_cons rfl (sub_cons rfl (sub_cons rfl sub_nil)))))) (by decide) pick_nil) ?_
 ·clear hp hy1
  clear y1
  intro k rec1 KY1 ih1
  rintro ⟨x7, x8⟩ ⟨⟩ y1 hp
  replace hp : spec_goodEnds_l1s a0 a3 a2 k rec1 x7 x8 = some y1 := hp
  unfold spec_goodEnds_l1s at hp
  refine cr fun K14 hK14 => ?_
  refine s0 (rd_bin' rfl rfl eg_int ru_lss) ?_
  refine nk hK14 ?_
  refine cx_seq' fun K15 hK15 => ?_
  refine cx_cond' rfl (fun h7 => ?_) (fun h7 => ?_)
  ·replace hp := (br_t h7).symm.trans hp
   refine cx_skip' ?_
   show TX E K15 _
   refine tx_k' hK15 ?_
   refine cx_seq' fun K16 hK16 => ?_
   refine cx_block' ?_
   refine cr fun K17 hK17 => ?_
   obtain ⟨r16, hr16, hp⟩ := bind_some hp
   refine s0 (rd_at' (K := (Ki .i64)) rfl rfl hr16 Try.underlying23 info3) ?_
   refine s0 (rd_load_pt' rfl rfl flat3) ?_
   refine s0 (rd_assign' rfl) ?_
   refine nk hK17 ?_
   refine cx_seq' fun K18 hK18 => ?_
   refine cr fun K19 hK19 => ?_
   refine s0 (rd_move' rfl) ?_
   refine s0 (rd_move' rfl) ?_
   refine s0 (rd_bin' rfl rfl eg_int ru_lss) ?_
   refine s0 (rd_move' rfl) ?_
   refine sx_cutn' 7 (fun (v5 : Bool) => (⟨43, [], [(1, (Vi x7)), (2, (Vi a2)), (3, (Vb a3)), (11, (Vi r16)), (12, (Sl (Ki .i64) a0)), (13, (Vi (a0.length : Int))), (14, (Vi x8)), (28, (Vb v5))], []⟩ : St)) (fun (v5 : Bool) => spec_goodEnds_j4 k x7 rec1 r16 x8 a3 a2 v5 = some y1) ?_ ?_
   ·rintro x4 hp
    replace hp : spec_goodEnds_j4 k x7 rec1 r16 x8 a3 a2 x4 = some y1 := hp
    unfold spec_goodEnds_j4 at hp
    refine s0 (rd_move' rfl) ?_
    refine sx_cutn' 9 (fun (v7 : Bool) => (⟨43, [], [(1, (Vi x7)), (2, (Vi a2)), (3, (Vb a3)), (11, (Vi r16)), (12, (Sl (Ki .i64) a0)), (13, (Vi (a0.length : Int))), (14, (Vi x8)), (38, (Vb v7))], []⟩ : St)) (fun (v7 : Bool) => spec_goodEnds_j6 k x7 rec1 r16 x8 v7 = some y1) ?_ ?_
    ·rintro x6 hp
     replace hp : spec_goodEnds_j6 k x7 rec1 r16 x8 x6 = some y1 := hp
     unfold spec_goodEnds_j6 at hp
     refine nk hK19 ?_
     refine cx_cond' rfl (fun h11 => ?_) (fun h11 => ?_)
     ·replace hp := (br_t h11).symm.trans hp
      refine cr fun K23 hK23 => ?_
      refine s0 (rd_move' rfl) ?_
      refine s0 (rd_assign' rfl) ?_
      refine s0 (rd_assign' rfl) ?_
      refine nk hK23 ?_
      refine cx_retc' ?_
      replace hp := Option.some.inj hp
      subst hp
      show TX E (Zg E Exit.ret _ Exit.ret) _
      exact tx_zend' () rfl [] (sub_cons rfl (sub_cons rfl sub_nil)) (by decide) pick_nil
     replace hp := (br_f h11).symm.trans hp
     refine cx_skip' ?_
     show TX E K18 _
     refine tx_k' hK18 ?_
     refine cx_region' ?_
     refine s0 (rd_move' rfl) ?_
     refine s0 (rd_assign' rfl) ?_
     refine nk hK16 ?_
     refine cx_region' ?_
     refine s0 (rd_bin' rfl rfl eg_int ru_add) ?_
     refine s0 (rd_move' rfl) ?_
     refine sx_nil' ?_
     show TX E (KY1 _) _
     exact tx_pick' [] (sub_cons rfl (sub_cons rfl (sub_cons rfl (sub_cons rfl (sub_cons rfl (sub_cons rfl sub_nil)))))) (by decide) pick_nil (ih1 (r16, (iadd .i64 x8 1)) () _ hp)
    intro K22 hK22
    rcases br_cases hp with ⟨h9, hp⟩ | ⟨h9, hp⟩
    ·refine sx_skip' rfl rfl (wt_is' (wt_guard' rfl rfl rfl) (beq_tf h9)) ?_
     refine sx_skip' rfl rfl (wt_is' (wt_guard' rfl rfl rfl) (beq_tf h9)) ?_
     refine sx_skip' rfl rfl (wt_undef' rfl rfl rfl) ?_
     refine sx_skip' rfl rfl (wt_undef' rfl rfl rfl) ?_
     refine sx_skip' rfl rfl (wt_undef' rfl rfl rfl) ?_
     refine sx_skip' rfl rfl (wt_undef' rfl rfl rfl) ?_
     refine sx_skip' rfl rfl (wt_undef' rfl rfl rfl) ?_
     refine sx_skip' rfl rfl (wt_is' (wt_guard' rfl rfl rfl) (beq_tf h9)) ?_
     refine s0 (rd_pick_true' rfl h9 rfl) ?_
     refine sx_nil' ?_
     show TX E K22 _
     exact tx_pick' [] (sub_cons rfl (sub_cons rfl (sub_cons rfl (sub_cons rfl (sub_cons rfl (sub_cons rfl (sub_cons rfl (sub_cons rfl sub_nil)))))))) (by decide) pick_nil (hK22 true hp)
    refine sx_rd' (rd_move' rfl) rfl rfl (wt_is' (wt_guard' rfl rfl rfl) (beq_ff h9)) ?_
    refine sx_rd' (rd_move' rfl) rfl rfl (wt_is' (wt_guard' rfl rfl rfl) (beq_ff h9)) ?_
    refine sx_cutn' 7 (fun (v6 : Bool) => (⟨43, [], [(1, (Vi x7)), (2, (Vi a2)), (3, (Vb a3)), (11, (Vi r16)), (12, (Sl (Ki .i64) a0)), (13, (Vi (a0.length : Int))), (14, (Vi x8)), (38, (Vb v6))], []⟩ : St)) (fun (v6 : Bool) => spec_goodEnds_j5 k x7 rec1 r16 x8 v6 = some y1) ?_ ?_
    ·rintro x5 hp
     replace hp : spec_goodEnds_j5 k x7 rec1 r16 x8 x5 = some y1 := hp
     unfold spec_goodEnds_j5 at hp
     refine sx_nil' ?_
     show TX E K22 _
     exact tx_pick' [] (sub_cons rfl (sub_cons rfl (sub_cons rfl (sub_cons rfl (sub_cons rfl (sub_cons rfl (sub_cons rfl (sub_cons rfl sub_nil)))))))) (by decide) pick_nil (hK22 x5 hp)
    intro K21 hK21
    rcases br_cases hp with ⟨h10, hp⟩ | ⟨h10, hp⟩
    ·refine sx_rd' (rd_move' rfl) rfl rfl (wt_is' (wt_guard' rfl rfl rfl) (beq_tt h10)) ?_
     refine sx_rd' (rd_move' rfl) rfl rfl (wt_is' (wt_guard' rfl rfl rfl) (beq_tt h10)) ?_
     refine sx_rd' (rd_bin' rfl rfl eg_int ru_sub) rfl rfl (wt_is' (wt_guard' rfl rfl rfl) (beq_tt h10)) ?_
     refine sx_rd' (rd_move' rfl) rfl rfl (wt_is' (wt_guard' rfl rfl rfl) (beq_tt h10)) ?_
     refine sx_rd' (rd_bin' rfl rfl eg_int ru_gtr) rfl rfl (wt_is' (wt_guard' rfl rfl rfl) (beq_tt h10)) ?_
     refine sx_rd' (rd_pick_true' rfl h10 rfl) rfl rfl (wt_is' (wt_guard' rfl rfl rfl) (beq_ff h9)) ?_
     refine s0 (rd_pick_false' rfl h9 rfl) ?_
     refine sx_nil' ?_
     show TX E K21 _
     exact tx_pick' [] (sub_cons rfl (sub_cons rfl (sub_cons rfl (sub_cons rfl (sub_cons rfl (sub_cons rfl (sub_cons rfl (sub_cons rfl sub_nil)))))))) (by decide) pick_nil (hK21 (decide (a2 < (isub .i64 r16 x7))) hp)
    refine sx_skip' rfl rfl (wt_is' (wt_guard' rfl rfl rfl) (beq_ft h10)) ?_
    refine sx_skip' rfl rfl (wt_is' (wt_guard' rfl rfl rfl) (beq_ft h10)) ?_
    refine sx_skip' rfl rfl (wt_is' (wt_guard' rfl rfl rfl) (beq_ft h10)) ?_
    refine sx_skip' rfl rfl (wt_is' (wt_guard' rfl rfl rfl) (beq_ft h10)) ?_
    refine sx_skip' rfl rfl (wt_is' (wt_guard' rfl rfl rfl) (beq_ft h10)) ?_
    refine sx_rd' (rd_pick_false' rfl h10 rfl) rfl rfl (wt_is' (wt_guard' rfl rfl rfl) (beq_ff h9)) ?_
    refine s0 (rd_pick_false' rfl h9 rfl) ?_
    refine sx_nil' ?_
    show TX E K21 _
    exact tx_pick' [] (sub_cons rfl (sub_cons rfl (sub_cons rfl (sub_cons rfl (sub_cons rfl (sub_cons rfl (sub_cons rfl (sub_cons rfl sub_nil)))))))) (by decide) pick_nil (hK21 false hp)
   intro K20 hK20
   rcases br_cases hp with ⟨h8, hp⟩ | ⟨h8, hp⟩
   ·refine sx_skip' rfl rfl (wt_is' (wt_guard' rfl rfl rfl) (beq_tf h8)) ?_
    refine sx_skip' rfl rfl (wt_is' (wt_guard' rfl rfl rfl) (beq_tf h8)) ?_
    refine sx_skip' rfl rfl (wt_is' (wt_guard' rfl rfl rfl) (beq_tf h8)) ?_
    refine sx_skip' rfl rfl (wt_is' (wt_guard' rfl rfl rfl) (beq_tf h8)) ?_
    refine sx_skip' rfl rfl (wt_is' (wt_guard' rfl rfl rfl) (beq_tf h8)) ?_
    refine sx_skip' rfl rfl (wt_is' (wt_guard' rfl rfl rfl) (beq_tf h8)) ?_
    refine s0 (rd_pick_true' rfl h8 rfl) ?_
    refine sx_nil' ?_
    show TX E K20 _
    exact tx_pick' [] (sub_cons rfl (sub_cons rfl (sub_cons rfl (sub_cons rfl (sub_cons rfl (sub_cons rfl (sub_cons rfl (sub_cons rfl sub_nil)))))))) (by decide) pick_nil (hK20 true hp)
   refine sx_rd' (rd_move' rfl) rfl rfl (wt_is' (wt_guard' rfl rfl rfl) (beq_ff h8)) ?_
   refine sx_rd' (rd_move' rfl) rfl rfl (wt_is' (wt_guard' rfl rfl rfl) (beq_ff h8)) ?_
   refine sx_rd' (rd_bin' rfl rfl eg_int ru_sub) rfl rfl (wt_is' (wt_guard' rfl rfl rfl) (beq_ff h8)) ?_
   refine sx_rd' (rd_move' rfl) rfl rfl (wt_is' (wt_guard' rfl rfl rfl) (beq_ff h8)) ?_
   obtain ⟨r26, hr26, hp⟩ := bind_some hp
   refine sx_rd' (rd_bin' rfl rfl eg_int (ru_rem hr26)) rfl rfl (wt_is' (wt_guard' rfl rfl rfl) (beq_ff h8)) ?_
   refine sx_rd' (rd_bin' rfl rfl eg_int ru_neq) rfl rfl (wt_is' (wt_guard' rfl rfl rfl) (beq_ff h8)) ?_
   refine s0 (rd_pick_false' rfl h8 rfl) ?_
   refine sx_nil' ?_
   show TX E K20 _
   exact tx_pick' [] (sub_cons rfl (sub_cons rfl (sub_cons rfl (sub_cons rfl (sub_cons rfl (sub_cons rfl (sub_cons rfl (sub_cons rfl sub_nil)))))))) (by decide) pick_nil (hK20 (!decide (r26 = 0)) hp)
  replace hp := (br_f h7).symm.trans hp
  refine cx_exit' ?_
  replace hp := Option.some.inj hp
  subst hp
  show TX E (Zg E (Exit.exit 0) _ (Exit.exit 0)) _
  exact tx_zend' () rfl [] (sub_cons rfl sub_nil) (by decide) pick_nil
 rcases y1 with v8 | v9
 ·dsimp only at hp
  refine zg_out fun w8 => ?_
  replace hp := Option.some.inj hp
  subst hp
  refine tx_pick' (L' := [(8, (Vi v8)), (9, (Vb false))]) (H' := []) [] (sub_cons rfl (sub_cons rfl sub_nil)) (by decide) pick_nil ?_
  exact tx_ret2' Try.results57 rfl () (rv_tmp' rfl) (rv_tmp' rfl) rfl (List.Sublist.refl _)
 dsimp only at hp
 refine zg_out fun w9 => ?_
 show TX E K2 _
 refine tx_k' hK2 ?_
 refine cr fun K24 hK24 => ?_
 refine s0 (rd_move' rfl) ?_
 refine s0 (rd_assign' rfl) ?_
 refine s0 (rd_assign' rfl) ?_
 refine nk hK24 ?_
 refine cx_retc' ?_
 replace hp := Option.some.inj hp
 subst hp
 refine tx_pick' (L' := [(8, (Vi v9)), (9, (Vb true))]) (H' := []) [] (sub_cons rfl (sub_cons rfl sub_nil)) (by decide) pick_nil ?_
 exact tx_ret2' Try.results57 rfl () (rv_tmp' rfl) (rv_tmp' rfl) rfl (List.Sublist.refl _)

def spec_Cover_j3 (k : Nat) (a0 : Int) (a1 : Int) (x3 : Bool) : Option (Int) :=
 br x3
  (some 4)
  (some (imax a0 a1))
def spec_Cover_j2 (k : Nat) (a0 : Int) (a1 : Int) (x2 : Bool) : Option (Int) :=
 spec_Cover_j3 k a0 a1 x2
def spec_Cover_j1 (k : Nat) (a0 : Int) (a1 : Int) (x1 : Bool) : Option (Int) :=
 br x1
  (spec_Cover_j3 k a0 a1 true)
  (br (decide (a0 = 3))
   (spec_Cover_j2 k a0 a1 (decide (a1 = 2)))
   (spec_Cover_j2 k a0 a1 false))
def spec_Cover (k : Nat) (a0 : Int) (a1 : Int) : Option (Int) :=
 br (decide (a0 = 2))
  (spec_Cover_j1 k a0 a1 (decide (a1 = 3)))
  (spec_Cover_j1 k a0 a1 false)

theorem spec_Cover_sim {k : Nat}  (a0 : Int) (a1 : Int) {out : Int} (hp : spec_Cover k a0 a1 = some out) : Sx.Fn Try.prog 38 [(Vi a0), (Vi a1)] [] (fun w : Unit => (Vi out)) (fun w => []) := by
 unfold spec_Cover at hp
 refine fn_of Try.func38 rfl Try.ntmps38 rfl fun E hM => ?_
 refine cr fun K1 hK1 => ?_
 refine s0 (rd_assign' rfl) ?_
 refine nk hK1 ?_
 refine cx_seq' fun K2 hK2 => ?_
 refine cr fun K3 hK3 => ?_
 refine s0 (rd_move' rfl) ?_
 refine s0 (rd_bin' rfl rfl eg_int ru_eql) ?_
 refine s0 (rd_move' rfl) ?_
 refine sx_cutn' 3 (fun (v1 : Bool) => (⟨22, [], [(0, (Vi a0)), (1, (Vi a1)), (10, (Vb v1))], []⟩ : St)) (fun (v1 : Bool) => spec_Cover_j1 k a0 a1 v1 = some out) ?_ ?_
 ·rintro x1 hp
  replace hp : spec_Cover_j1 k a0 a1 x1 = some out := hp
  unfold spec_Cover_j1 at hp
  refine s0 (rd_move' rfl) ?_
  refine sx_cutn' 7 (fun (v3 : Bool) => (⟨22, [], [(0, (Vi a0)), (1, (Vi a1)), (18, (Vb v3))], []⟩ : St)) (fun (v3 : Bool) => spec_Cover_j3 k a0 a1 v3 = some out) ?_ ?_
  ·rintro x3 hp
   replace hp : spec_Cover_j3 k a0 a1 x3 = some out := hp
   unfold spec_Cover_j3 at hp
   refine nk hK3 ?_
   refine cx_cond' rfl (fun h4 => ?_) (fun h4 => ?_)
   ·replace hp := (br_t h4).symm.trans hp
    refine cr fun K7 hK7 => ?_
    refine s0 (rd_assign' rfl) ?_
    refine nk hK7 ?_
    refine cx_retc' ?_
    replace hp := Option.some.inj hp
    subst hp
    refine tx_pick' (L' := [(4, (Vi 4))]) (H' := []) [] (sub_cons rfl sub_nil) (by decide) pick_nil ?_
    exact tx_ret1' Try.results38 rfl () (rv_tmp' rfl) (List.Sublist.refl _)
   replace hp := (br_f h4).symm.trans hp
   refine cx_skip' ?_
   show TX E K2 _
   refine tx_k' hK2 ?_
   refine cr fun K8 hK8 => ?_
   refine s0 (rd_move' rfl) ?_
   refine s0 (rd_move' rfl) ?_
   refine s0 (rd_imax' rfl rfl) ?_
   refine s0 (rd_assign' rfl) ?_
   refine nk hK8 ?_
   refine cx_retc' ?_
   replace hp := Option.some.inj hp
   subst hp
   refine tx_pick' (L' := [(4, (Vi (imax a0 a1)))]) (H' := []) [] (sub_cons rfl sub_nil) (by decide) pick_nil ?_
   exact tx_ret1' Try.results38 rfl () (rv_tmp' rfl) (List.Sublist.refl _)
  intro K6 hK6
  rcases br_cases hp with ⟨h2, hp⟩ | ⟨h2, hp⟩
  ·refine sx_skip' rfl rfl (wt_is' (wt_guard' rfl rfl rfl) (beq_tf h2)) ?_
   refine sx_skip' rfl rfl (wt_is' (wt_guard' rfl rfl rfl) (beq_tf h2)) ?_
   refine sx_skip' rfl rfl (wt_is' (wt_guard' rfl rfl rfl) (beq_tf h2)) ?_
   refine sx_skip' rfl rfl (wt_undef' rfl rfl rfl) ?_
   refine sx_skip' rfl rfl (wt_undef' rfl rfl rfl) ?_
   refine sx_skip' rfl rfl (wt_is' (wt_guard' rfl rfl rfl) (beq_tf h2)) ?_
   refine s0 (rd_pick_true' rfl h2 rfl) ?_
   refine sx_nil' ?_
   show TX E K6 _
   exact tx_pick' [] (sub_cons rfl (sub_cons rfl (sub_cons rfl sub_nil))) (by decide) pick_nil (hK6 true hp)
  refine sx_rd' (rd_move' rfl) rfl rfl (wt_is' (wt_guard' rfl rfl rfl) (beq_ff h2)) ?_
  refine sx_rd' (rd_bin' rfl rfl eg_int ru_eql) rfl rfl (wt_is' (wt_guard' rfl rfl rfl) (beq_ff h2)) ?_
  refine sx_rd' (rd_move' rfl) rfl rfl (wt_is' (wt_guard' rfl rfl rfl) (beq_ff h2)) ?_
  refine sx_cutn' 4 (fun (v2 : Bool) => (⟨22, [], [(0, (Vi a0)), (1, (Vi a1)), (18, (Vb v2))], []⟩ : St)) (fun (v2 : Bool) => spec_Cover_j2 k a0 a1 v2 = some out) ?_ ?_
  ·rintro x2 hp
   replace hp : spec_Cover_j2 k a0 a1 x2 = some out := hp
   unfold spec_Cover_j2 at hp
   refine sx_nil' ?_
   show TX E K6 _
   exact tx_pick' [] (sub_cons rfl (sub_cons rfl (sub_cons rfl sub_nil))) (by decide) pick_nil (hK6 x2 hp)
  intro K5 hK5
  rcases br_cases hp with ⟨h3, hp⟩ | ⟨h3, hp⟩
  ·refine sx_rd' (rd_move' rfl) rfl rfl (wt_is' (wt_guard' rfl rfl rfl) (beq_tt h3)) ?_
   refine sx_rd' (rd_bin' rfl rfl eg_int ru_eql) rfl rfl (wt_is' (wt_guard' rfl rfl rfl) (beq_tt h3)) ?_
   refine sx_rd' (rd_pick_true' rfl h3 rfl) rfl rfl (wt_is' (wt_guard' rfl rfl rfl) (beq_ff h2)) ?_
   refine s0 (rd_pick_false' rfl h2 rfl) ?_
   refine sx_nil' ?_
   show TX E K5 _
   exact tx_pick' [] (sub_cons rfl (sub_cons rfl (sub_cons rfl sub_nil))) (by decide) pick_nil (hK5 (decide (a1 = 2)) hp)
  refine sx_skip' rfl rfl (wt_is' (wt_guard' rfl rfl rfl) (beq_ft h3)) ?_
  refine sx_skip' rfl rfl (wt_is' (wt_guard' rfl rfl rfl) (beq_ft h3)) ?_
  refine sx_rd' (rd_pick_false' rfl h3 rfl) rfl rfl (wt_is' (wt_guard' rfl rfl rfl) (beq_ff h2)) ?_
  refine s0 (rd_pick_false' rfl h2 rfl) ?_
  refine sx_nil' ?_
  show TX E K5 _
  exact tx_pick' [] (sub_cons rfl (sub_cons rfl (sub_cons rfl sub_nil))) (by decide) pick_nil (hK5 false hp)
 intro K4 hK4
 rcases br_cases hp with ⟨h1, hp⟩ | ⟨h1, hp⟩
 ·refine sx_rd' (rd_move' rfl) rfl rfl (wt_is' (wt_guard' rfl rfl rfl) (beq_tt h1)) ?_
  refine sx_rd' (rd_bin' rfl rfl eg_int ru_eql) rfl rfl (wt_is' (wt_guard' rfl rfl rfl) (beq_tt h1)) ?_
  refine s0 (rd_pick_true' rfl h1 rfl) ?_
  refine sx_nil' ?_
  show TX E K4 _
  exact tx_pick' [] (sub_cons rfl (sub_cons rfl (sub_cons rfl sub_nil))) (by decide) pick_nil (hK4 (decide (a1 = 3)) hp)
 refine sx_skip' rfl rfl (wt_is' (wt_guard' rfl rfl rfl) (beq_ft h1)) ?_
 refine sx_skip' rfl rfl (wt_is' (wt_guard' rfl rfl rfl) (beq_ft h1)) ?_
 refine s0 (rd_pick_false' rfl h1 rfl) ?_
 refine sx_nil' ?_
 show TX E K4 _
 exact tx_pick' [] (sub_cons rfl (sub_cons rfl (sub_cons rfl sub_nil))) (by decide) pick_nil (hK4 false hp)

def spec_LayoutOf_l1s (a0_6 : List T27) (recf : Int → Int → Int → (List Nat) → (List Int) → (List (List Int)) → (List T27) → Option (Int)) (k : Nat) (rec1 : (Int × Int) → Option (Int)) (x3 : Int) (x4 : Int) : Option (Int) :=
 br (decide (x4 < (a0_6.length : Int)))
  ((idx a0_6 x4) >>= fun r21 =>
  (recf r21.f0 r21.f1 r21.f2 r21.f3 r21.f4 r21.f5 r21.f6) >>= fun r25 =>
  (spec_Cover k x3 r25) >>= fun r26 =>
  rec1 (r26, (iadd .i64 x4 1)))
  (some x3)
def spec_LayoutOf_l1 (a0_6 : List T27) (recf : Int → Int → Int → (List Nat) → (List Int) → (List (List Int)) → (List T27) → Option (Int)) : Nat → (Int × Int) → Option (Int)
 | 0, _ => none
 | k + 1, v => spec_LayoutOf_l1s a0_6 recf k (spec_LayoutOf_l1 a0_6 recf k) v.1 v.2
def spec_LayoutOf_j1 (k : Nat) (a0_1 : Int) (a0_6 : List T27) (recf : Int → Int → Int → (List Nat) → (List Int) → (List (List Int)) → (List T27) → Option (Int)) (x1 : Bool) : Option (Int) :=
 br x1
  (some a0_1)
  ((spec_LayoutOf_l1 a0_6 recf k (a0_1, 0)) >>= fun v4 =>
  some v4)
def spec_LayoutOf_b (recf : Int → Int → Int → (List Nat) → (List Int) → (List (List Int)) → (List T27) → Option (Int)) (k : Nat) (a0_0 : Int) (a0_1 : Int) (a0_2 : Int) (a0_3 : List Nat) (a0_4 : List Int) (a0_5 : List (List Int)) (a0_6 : List T27) : Option (Int) :=
 br (!decide (a0_0 = 7))
  (spec_LayoutOf_j1 k a0_1 a0_6 recf true)
  (spec_LayoutOf_j1 k a0_1 a0_6 recf (!decide (a0_1 = 0)))
def spec_LayoutOf : Nat → Int → Int → Int → (List Nat) → (List Int) → (List (List Int)) → (List T27) → Option (Int)
 | 0 => fun _ _ _ _ _ _ _ => none
 | k + 1 => fun a0_0 a0_1 a0_2 a0_3 a0_4 a0_5 a0_6 => spec_LayoutOf_b (spec_LayoutOf k) k a0_0 a0_1 a0_2 a0_3 a0_4 a0_5 a0_6

theorem spec_LayoutOf_b_sim {recf : Int → Int → Int → (List Nat) → (List Int) → (List (List Int)) → (List T27) → Option (Int)} (hrec : ∀  (a0_0 : Int) (a0_1 : Int) (a0_2 : Int) (a0_3 : List Nat) (a0_4 : List Int) (a0_5 : List (List Int)) (a0_6 : List T27) (out : Int), recf a0_0 a0_1 a0_2 a0_3 a0_4 a0_5 a0_6 = some out → Sx.Fn Try.prog 16 [(Ag [(Vi a0_0), (Vi a0_1), (Vi a0_2), (Sl Kf a0_3), (Sl (Ki .i64) a0_4), (Sl (Kl (Ki .i64)) a0_5), (Sl KT27 a0_6)])] [] (fun w : Unit => (Vi out)) (fun w => [])) {k : Nat}  (a0_0 : Int) (a0_1 : Int) (a0_2 : Int) (a0_3 : List Nat) (a0_4 : List Int) (a0_5 : List (List Int)) (a0_6 : List T27) {out : Int} (hp : spec_LayoutOf_b recf k a0_0 a0_1 a0_2 a0_3 a0_4 a0_5 a0_6 = some out) : Sx.Fn Try.prog 16 [(Ag [(Vi a0_0), (Vi a0_1), (Vi a0_2), (Sl Kf a0_3), (Sl (Ki .i64) a0_4), (Sl (Kl (Ki .i64)) a0_5), (Sl KT27 a0_6)])] [] (fun w : Unit => (Vi out)) (fun w => []) := by
 unfold spec_LayoutOf_b at hp
 refine fn_of Try.func16 rfl Try.ntmps16 rfl fun E hM => ?_
 refine cr fun K1 hK1 => ?_
 refine sx_ox' (ox_box' rfl (lv_ag _) rfl rfl) (wt_none' rfl) fun q1 => ?_
 refine s0 (rd_assign' rfl) ?_
 refine nk hK1 ?_
 refine cr fun K2 hK2 => ?_
 refine s0 (rd_field' (off := 1) rfl Try.underlying27 rfl info3 rfl) ?_
 refine s0 (rd_load' (i := 0) (o := 1) rfl ⟨rfl, rfl, rfl, rfl⟩ rfl flat3) ?_
 refine s0 (rd_assign' rfl) ?_
 refine nk hK2 ?_
 refine cx_seq' fun K3 hK3 => ?_
 refine cr fun K4 hK4 => ?_
 refine s0 (rd_field0' rfl Try.underlying27 rfl info3 rfl) ?_
 refine s0 (rd_load' (i := 0) (o := 0) rfl ⟨rfl, rfl, rfl, rfl⟩ rfl flat3) ?_
 refine s0 (rd_bin' rfl rfl eg_int ru_neq) ?_
 refine s0 (rd_move' rfl) ?_
 refine sx_cutn' 3 (fun (v1 : Bool) => (⟨29, [], [(1, (Vp q1)), (3, (Vi a0_1)), (14, (Vb v1))], [⟨.pointer (some q1), [(Vi a0_0), (Vi a0_1), (Vi a0_2), (Sl Kf a0_3), (Sl (Ki .i64) a0_4), (Sl (Kl (Ki .i64)) a0_5), (Sl KT27 a0_6)], 27, none⟩]⟩ : St)) (fun (v1 : Bool) => spec_LayoutOf_j1 k a0_1 a0_6 recf v1 = some out) ?_ ?_
 ·rintro x1 hp
  replace hp : spec_LayoutOf_j1 k a0_1 a0_6 recf x1 = some out := hp
  unfold spec_LayoutOf_j1 at hp
  refine nk hK4 ?_
  refine cx_cond' rfl (fun h2 => ?_) (fun h2 => ?_)
  ·replace hp := (br_t h2).symm.trans hp
   refine cr fun K6 hK6 => ?_
   refine s0 (rd_move' rfl) ?_
   refine s0 (rd_assign' rfl) ?_
   refine nk hK6 ?_
   refine cx_retc' ?_
   replace hp := Option.some.inj hp
   subst hp
   refine tx_pick' (L' := [(2, (Vi a0_1))]) (H' := []) [] (sub_cons rfl sub_nil) (by decide) pick_nil ?_
   exact tx_ret1' Try.results16 rfl () (rv_tmp' rfl) (List.Sublist.refl _)
  replace hp := (br_f h2).symm.trans hp
  refine cx_skip' ?_
  show TX E K3 _
  refine tx_k' hK3 ?_
  refine cx_seq' fun K7 hK7 => ?_
  refine cr fun K8 hK8 => ?_
  refine s0 (rd_field' (off := 6) rfl Try.underlying27 rfl info25 rfl) ?_
  refine s0 (rd_load' (i := 0) (o := 6) rfl ⟨rfl, rfl, rfl, rfl⟩ rfl flat25) ?_
  refine s0 (rd_len' rfl Try.underlying25) ?_
  refine s0 (rd_move' rfl) ?_
  refine nk hK8 ?_
  refine cx_block' ?_
  obtain ⟨v4, hy1, hp⟩ := bind_some hp
  refine cx_loopg' (F := spec_LayoutOf_l1 a0_6 recf) (G := fun k R v => spec_LayoutOf_l1s a0_6 recf k R v.1 v.2) (x := (a0_1, 0)) (gh := ()) (fun (v3 : Int × Int) (w3 : Unit) => (⟨29, [], [(3, (Vi v3.1)), (17, (Sl KT27 a0_6)), (18, (Vi (a0_6.length : Int))), (19, (Vi v3.2))], []⟩ : St)) (fun (v4 : Int) => Zg E (Exit.exit 0) (fun (w4 : Unit) => (⟨29, [], [(3, (Vi v4))], []⟩ : St))) (fun _ => rfl) (fun _ _ => rfl) ?_ hy1 (tx_to' rfl [] (sub_cons rfl (sub_cons rfl (sub_cons rfl (sub_cons rfl sub_nil)))) (by decide) pick_nil) ?_
  ·clear hp hy1
   clear v4
   intro k rec1 KY1 ih1
   rintro ⟨x3, x4⟩ ⟨⟩ y1 hp
   replace hp : spec_LayoutOf_l1s a0_6 recf k rec1 x3 x4 = some y1 := hp
   unfold spec_LayoutOf_l1s at hp
   refine cr fun K14 hK14 => ?_
   refine s0 (rd_bin' rfl rfl eg_int ru_lss) ?_
   refine nk hK14 ?_
   refine cx_seq' fun K15 hK15 => ?_
   refine cx_cond' rfl (fun h5 => ?_) (fun h5 => ?_)
   ·replace hp := (br_t h5).symm.trans hp
    refine cx_skip' ?_
    show TX E K15 _
    refine tx_k' hK15 ?_
    refine cx_seq' fun K16 hK16 => ?_
    refine cx_block' ?_
    refine cr fun K17 hK17 => ?_
    obtain ⟨r21, hr21, hp⟩ := bind_some hp
    refine s0 (rd_eq' (congrArg Pt (KT27_enc r21)) (rd_at' (K := KT27) rfl rfl hr21 Try.underlying25 info27)) ?_
    refine s0 (rd_load_pt_agg' (nn := 7) rfl rfl agg27 (l' := [(Vi r21.f0), (Vi r21.f1), (Vi r21.f2), (Sl Kf r21.f3), (Sl (Ki .i64) r21.f4), (Sl (Kl (Ki .i64)) r21.f5), (Sl KT27 r21.f6)]) rfl) ?_
    refine sx_ox' (ox_alloc' info27 rfl rfl rfl rfl (l := [(Vi 0), (Vi 0), (Vi 0), Vn, Vn, Vn, Vn]) rfl) (wt_none' rfl) fun q5 => ?_
    refine sx_ox' (ox_store' (i := 0) (o := 0) rfl rfl (lv_ag _) ⟨rfl, rfl, rfl, rfl⟩ rfl info27 rfl (H' := [⟨.pointer (some q5), [(Vi r21.f0), (Vi r21.f1), (Vi r21.f2), (Sl Kf r21.f3), (Sl (Ki .i64) r21.f4), (Sl (Kl (Ki .i64)) r21.f5), (Sl KT27 r21.f6)], 27, none⟩]) rfl) (wt_none' rfl) fun _ => ?_
    refine nk hK17 ?_
    refine cx_region' ?_
    refine s0 (rd_move' rfl) ?_
    refine s0 (rd_load_agg' (i := 0) (o := 0) (nn := 7) rfl ⟨rfl, rfl, rfl, rfl⟩ rfl agg27 (l' := [(Vi r21.f0), (Vi r21.f1), (Vi r21.f2), (Sl Kf r21.f3), (Sl (Ki .i64) r21.f4), (Sl (Kl (Ki .i64)) r21.f5), (Sl KT27 r21.f6)]) rfl) ?_
    obtain ⟨r25, hr25, hp⟩ := bind_some hp
    refine sx_ox' (ox_calln' (ent_fn' Try.func16 isn16 rfl rfl) (hrec _ _ _ _ _ _ _ _ hr25 : Sx.Fn Try.prog 16 [(Ag [(Vi r21.f0), (Vi r21.f1), (Vi r21.f2), (Sl Kf r21.f3), (Sl (Ki .i64) r21.f4), (Sl (Kl (Ki .i64)) r21.f5), (Sl KT27 r21.f6)])] [] (fun x : Unit => (Vi r25)) (fun x => [])) (Hn := fun x : Unit => [⟨.pointer (some q5), [(Vi r21.f0), (Vi r21.f1), (Vi r21.f2), (Sl Kf r21.f3), (Sl (Ki .i64) r21.f4), (Sl (Kl (Ki .i64)) r21.f5), (Sl KT27 r21.f6)], 27, none⟩]) (fun _ => rfl) rfl rfl) (wt_none' rfl) fun ⟨⟩ => ?_
    obtain ⟨r26, hr26, hp⟩ := bind_some hp
    refine sx_ox' (ox_calln' (ent_fn' Try.func38 isn38 rfl rfl) (spec_Cover_sim _ _ hr26 : Sx.Fn Try.prog 38 [(Vi x3), (Vi r25)] [] (fun x : Unit => (Vi r26)) (fun x => [])) (Hn := fun x : Unit => [⟨.pointer (some q5), [(Vi r21.f0), (Vi r21.f1), (Vi r21.f2), (Sl Kf r21.f3), (Sl (Ki .i64) r21.f4), (Sl (Kl (Ki .i64)) r21.f5), (Sl KT27 r21.f6)], 27, none⟩]) (fun _ => rfl) rfl rfl) (wt_none' rfl) fun ⟨⟩ => ?_
    refine s0 (rd_assign' rfl) ?_
    refine nk hK16 ?_
    refine cx_region' ?_
    refine s0 (rd_bin' rfl rfl eg_int ru_add) ?_
    refine s0 (rd_move' rfl) ?_
    refine sx_nil' ?_
    show TX E (KY1 _) _
    exact tx_pick' [] (sub_cons rfl (sub_cons rfl (sub_cons rfl (sub_cons rfl sub_nil)))) (by decide) pick_nil (ih1 (r26, (iadd .i64 x4 1)) () _ hp)
   replace hp := (br_f h5).symm.trans hp
   refine cx_exit' ?_
   replace hp := Option.some.inj hp
   subst hp
   show TX E (Zg E (Exit.exit 0) _ (Exit.exit 0)) _
   exact tx_zend' () rfl [] (sub_cons rfl sub_nil) (by decide) pick_nil
  refine zg_out fun w4 => ?_
  show TX E K7 _
  refine tx_k' hK7 ?_
  refine cr fun K13 hK13 => ?_
  refine s0 (rd_move' rfl) ?_
  refine s0 (rd_assign' rfl) ?_
  refine nk hK13 ?_
  refine cx_retc' ?_
  replace hp := Option.some.inj hp
  subst hp
  refine tx_pick' (L' := [(2, (Vi v4))]) (H' := []) [] (sub_cons rfl sub_nil) (by decide) pick_nil ?_
  exact tx_ret1' Try.results16 rfl () (rv_tmp' rfl) (List.Sublist.refl _)
 intro K5 hK5
 rcases br_cases hp with ⟨h1, hp⟩ | ⟨h1, hp⟩
 ·refine sx_skip' rfl rfl (wt_is' (wt_guard' rfl rfl rfl) (beq_tf h1)) ?_
  refine sx_skip' rfl rfl (wt_is' (wt_guard' rfl rfl rfl) (beq_tf h1)) ?_
  refine s0 (rd_pick_true' rfl h1 rfl) ?_
  refine sx_nil' ?_
  show TX E K5 _
  exact tx_pick' [0] (sub_cons rfl (sub_cons rfl (sub_cons rfl sub_nil))) (by decide) (pick_cons rfl pick_nil) (hK5 true hp)
 refine sx_rd' (rd_move' rfl) rfl rfl (wt_is' (wt_guard' rfl rfl rfl) (beq_ff h1)) ?_
 refine sx_rd' (rd_bin' rfl rfl eg_int ru_neq) rfl rfl (wt_is' (wt_guard' rfl rfl rfl) (beq_ff h1)) ?_
 refine s0 (rd_pick_false' rfl h1 rfl) ?_
 refine sx_nil' ?_
 show TX E K5 _
 exact tx_pick' [0] (sub_cons rfl (sub_cons rfl (sub_cons rfl sub_nil))) (by decide) (pick_cons rfl pick_nil) (hK5 (!decide (a0_1 = 0)) hp)
theorem spec_LayoutOf_simA : ∀ (k : Nat)  (a0_0 : Int) (a0_1 : Int) (a0_2 : Int) (a0_3 : List Nat) (a0_4 : List Int) (a0_5 : List (List Int)) (a0_6 : List T27) (out : Int), spec_LayoutOf k a0_0 a0_1 a0_2 a0_3 a0_4 a0_5 a0_6 = some out → Sx.Fn Try.prog 16 [(Ag [(Vi a0_0), (Vi a0_1), (Vi a0_2), (Sl Kf a0_3), (Sl (Ki .i64) a0_4), (Sl (Kl (Ki .i64)) a0_5), (Sl KT27 a0_6)])] [] (fun w : Unit => (Vi out)) (fun w => []) := by
 intro k
 induction k with
 | zero => intro a0_0 a0_1 a0_2 a0_3 a0_4 a0_5 a0_6 out hp; cases hp
 | succ k ih => intro a0_0 a0_1 a0_2 a0_3 a0_4 a0_5 a0_6 out hp; exact spec_LayoutOf_b_sim ih a0_0 a0_1 a0_2 a0_3 a0_4 a0_5 a0_6 hp
theorem spec_LayoutOf_sim {k : Nat}  (a0_0 : Int) (a0_1 : Int) (a0_2 : Int) (a0_3 : List Nat) (a0_4 : List Int) (a0_5 : List (List Int)) (a0_6 : List T27) {out : Int} (hp : spec_LayoutOf k a0_0 a0_1 a0_2 a0_3 a0_4 a0_5 a0_6 = some out) : Sx.Fn Try.prog 16 [(Ag [(Vi a0_0), (Vi a0_1), (Vi a0_2), (Sl Kf a0_3), (Sl (Ki .i64) a0_4), (Sl (Kl (Ki .i64)) a0_5), (Sl KT27 a0_6)])] [] (fun w : Unit => (Vi out)) (fun w => []) := spec_LayoutOf_simA k a0_0 a0_1 a0_2 a0_3 a0_4 a0_5 a0_6 out hp

def spec_Good_j16 (k : Nat) (rec2 : Int → Option (Unit ⊕ Unit)) (x23 : Int) (x22 : Bool) : Option (Unit ⊕ Unit) :=
 br x22
  (some (.inl ()))
  (rec2 (iadd .i64 x23 1))
def spec_Good_j15 (k : Nat) (rec2 : Int → Option (Unit ⊕ Unit)) (x23 : Int) (x21 : Bool) : Option (Unit ⊕ Unit) :=
 spec_Good_j16 k rec2 x23 x21
def spec_Good_l2s (a0_6 : List T27) (recf : Int → Int → Int → (List Nat) → (List Int) → (List (List Int)) → (List T27) → Option (Bool)) (a0_1 : Int) (k : Nat) (rec2 : Int → Option (Unit ⊕ Unit)) (x23 : Int) : Option (Unit ⊕ Unit) :=
 br (decide (x23 < (a0_6.length : Int)))
  ((idx a0_6 x23) >>= fun r24 =>
  (recf r24.f0 r24.f1 r24.f2 r24.f3 r24.f4 r24.f5 r24.f6) >>= fun r27 =>
  br (!r27)
   (spec_Good_j16 k rec2 x23 true)
   (br (!decide (a0_1 = 0))
    ((spec_LayoutOf k r24.f0 r24.f1 r24.f2 r24.f3 r24.f4 r24.f5 r24.f6) >>= fun r35 =>
    spec_Good_j15 k rec2 x23 (!decide (r35 = a0_1)))
    (spec_Good_j15 k rec2 x23 false)))
  (some (.inr ()))
def spec_Good_l2 (a0_6 : List T27) (recf : Int → Int → Int → (List Nat) → (List Int) → (List (List Int)) → (List T27) → Option (Bool)) (a0_1 : Int) : Nat → Int → Option (Unit ⊕ Unit)
 | 0, _ => none
 | k + 1, v => spec_Good_l2s a0_6 recf a0_1 k (spec_Good_l2 a0_6 recf a0_1 k) v
def spec_Good_j1 (k : Nat) (x1 : Bool) : Option (Bool) :=
 some x1
def spec_Good_j6 (k : Nat) (x6 : Bool) : Option (Bool) :=
 some x6
def spec_Good_j9 (k : Nat) (x9 : Bool) : Option (Bool) :=
 some x9
def spec_Good_j10 (k : Nat) (rec1 : (Int × Bool × Int) → Option (Int × Bool)) (r143 : Int × Bool) (x12 : Int) (x13 : Bool) : Option (Int × Bool) :=
 rec1 (r143.1, x13, (iadd .i64 x12 1))
def spec_Good_l1s (a0_5 : List (List Int)) (r15 : Int) (k : Nat) (rec1 : (Int × Bool × Int) → Option (Int × Bool)) (x10 : Int) (x11 : Bool) (x12 : Int) : Option (Int × Bool) :=
 br (decide (x12 < (a0_5.length : Int)))
  ((idx a0_5 x12) >>= fun r137 =>
  (spec_goodEnds k r137 x10 r15 false) >>= fun r143 =>
  br x11
   (spec_Good_j10 k rec1 r143 x12 r143.2)
   (spec_Good_j10 k rec1 r143 x12 false))
  (some (x10, x11))
def spec_Good_l1 (a0_5 : List (List Int)) (r15 : Int) : Nat → (Int × Bool × Int) → Option (Int × Bool)
 | 0, _ => none
 | k + 1, v => spec_Good_l1s a0_5 r15 k (spec_Good_l1 a0_5 r15 k) v.1 v.2.1 v.2.2
def spec_Good_j12 (k : Nat) (x17 : Bool) : Option (Bool) :=
 some x17
def spec_Good_j11 (k : Nat) (a0_4 : List Int) (x16 : Bool) : Option (Bool) :=
 br x16
  (spec_Good_j12 k (decide ((a0_4.length : Int) = 0)))
  (spec_Good_j12 k false)
def spec_Good_j8 (k : Nat) (a0_4 : List Int) (r15 : Int) (a0_0 : Int) (a0_3 : List Nat) (a0_5 : List (List Int)) (x8 : Bool) : Option (Bool) :=
 br x8
  ((spec_goodEnds k a0_4 0 r15 (decide (a0_0 = 4))) >>= fun r119 =>
  br r119.2
   (spec_Good_j9 k (decide (r119.1 = (a0_3.length : Int))))
   (spec_Good_j9 k false))
  (br (decide (a0_0 = 6))
   ((spec_Good_l1 a0_5 r15 k (0, true, 0)) >>= fun v12 =>
   br v12.2
    (spec_Good_j11 k a0_4 (decide (v12.1 = (a0_3.length : Int))))
    (spec_Good_j11 k a0_4 false))
   (some false))
def spec_Good_j7 (k : Nat) (a0_4 : List Int) (a0_0 : Int) (r15 : Int) (a0_3 : List Nat) (a0_5 : List (List Int)) (x7 : Bool) : Option (Bool) :=
 br x7
  (some (decide ((a0_4.length : Int) = 0)))
  (br (decide (a0_0 = 3))
   (spec_Good_j8 k a0_4 r15 a0_0 a0_3 a0_5 (decide (a0_0 = 3)))
   (br (decide (a0_0 = 4))
    (spec_Good_j8 k a0_4 r15 a0_0 a0_3 a0_5 (decide (a0_0 = 4)))
    (spec_Good_j8 k a0_4 r15 a0_0 a0_3 a0_5 (decide (a0_0 = 5)))))
def spec_Good_j5 (k : Nat) (a0_0 : Int) (a0_4 : List Int) (a0_3 : List Nat) (r15 : Int) (a0_5 : List (List Int)) (x5 : Bool) : Option (Bool) :=
 br x5
  (some false)
  (br (decide (a0_0 = 1))
   (br (decide ((a0_4.length : Int) = 0))
    (spec_Good_j6 k (decide ((a0_3.length : Int) ≤ r15)))
    (spec_Good_j6 k false))
   (br (decide (a0_0 = 2))
    (spec_Good_j7 k a0_4 a0_0 r15 a0_3 a0_5 (decide (a0_0 = 2)))
    (spec_Good_j7 k a0_4 a0_0 r15 a0_3 a0_5 (decide (a0_0 = 8)))))
def spec_Good_j4 (k : Nat) (a0_0 : Int) (a0_4 : List Int) (a0_3 : List Nat) (r15 : Int) (a0_5 : List (List Int)) (x4 : Bool) : Option (Bool) :=
 spec_Good_j5 k a0_0 a0_4 a0_3 r15 a0_5 x4
def spec_Good_j3 (k : Nat) (a0_0 : Int) (a0_4 : List Int) (a0_3 : List Nat) (r15 : Int) (a0_5 : List (List Int)) (x3 : Bool) : Option (Bool) :=
 br x3
  (spec_Good_j5 k a0_0 a0_4 a0_3 r15 a0_5 true)
  (br (decide (0 < (a0_5.length : Int)))
   (spec_Good_j4 k a0_0 a0_4 a0_3 r15 a0_5 (!decide (a0_0 = 6)))
   (spec_Good_j4 k a0_0 a0_4 a0_3 r15 a0_5 false))
def spec_Good_j2 (k : Nat) (a0_0 : Int) (a0_4 : List Int) (a0_3 : List Nat) (r15 : Int) (a0_5 : List (List Int)) (a0_6 : List T27) (x2 : Bool) : Option (Bool) :=
 br x2
  (spec_Good_j3 k a0_0 a0_4 a0_3 r15 a0_5 true)
  (spec_Good_j3 k a0_0 a0_4 a0_3 r15 a0_5 (decide (0 < (a0_6.length : Int))))
def spec_Good_b (recf : Int → Int → Int → (List Nat) → (List Int) → (List (List Int)) → (List T27) → Option (Bool)) (k : Nat) (a0_0 : Int) (a0_1 : Int) (a0_2 : Int) (a0_3 : List Nat) (a0_4 : List Int) (a0_5 : List (List Int)) (a0_6 : List T27) : Option (Bool) :=
 (spec_Stride k a0_1) >>= fun r15 =>
 br (decide (a0_0 = 7))
  ((spec_Good_l2 a0_6 recf a0_1 k 0) >>= fun y2 => match y2 with
   | (.inl v21) =>
    (some false)
   | (.inr v22) =>
    (br (decide (0 ≤ a0_1))
     (spec_Good_j1 k (decide ((iadd .i64 (iadd .i64 (a0_3.length : Int) (a0_4.length : Int)) (a0_5.length : Int)) = 0)))
     (spec_Good_j1 k false)))
  (br (decide (r15 = 0))
   (spec_Good_j2 k a0_0 a0_4 a0_3 r15 a0_5 a0_6 true)
   ((irem (a0_3.length : Int) r15) >>= fun r66 =>
   spec_Good_j2 k a0_0 a0_4 a0_3 r15 a0_5 a0_6 (!decide (r66 = 0))))
def spec_Good : Nat → Int → Int → Int → (List Nat) → (List Int) → (List (List Int)) → (List T27) → Option (Bool)
 | 0 => fun _ _ _ _ _ _ _ => none
 | k + 1 => fun a0_0 a0_1 a0_2 a0_3 a0_4 a0_5 a0_6 => spec_Good_b (spec_Good k) k a0_0 a0_1 a0_2 a0_3 a0_4 a0_5 a0_6

theorem spec_Good_b_sim {recf : Int → Int → Int → (List Nat) → (List Int) → (List (List Int)) → (List T27) → Option (Bool)} (hrec : ∀  (a0_0 : Int) (a0_1 : Int) (a0_2 : Int) (a0_3 : List Nat) (a0_4 : List Int) (a0_5 : List (List Int)) (a0_6 : List T27) (out : Bool), recf a0_0 a0_1 a0_2 a0_3 a0_4 a0_5 a0_6 = some out → Sx.Fn Try.prog 27 [(Ag [(Vi a0_0), (Vi a0_1), (Vi a0_2), (Sl Kf a0_3), (Sl (Ki .i64) a0_4), (Sl (Kl (Ki .i64)) a0_5), (Sl KT27 a0_6)])] [] (fun w : Unit => (Vb out)) (fun w => [])) {k : Nat}  (a0_0 : Int) (a0_1 : Int) (a0_2 : Int) (a0_3 : List Nat) (a0_4 : List Int) (a0_5 : List (List Int)) (a0_6 : List T27) {out : Bool} (hp : spec_Good_b recf k a0_0 a0_1 a0_2 a0_3 a0_4 a0_5 a0_6 = some out) : Sx.Fn Try.prog 27 [(Ag [(Vi a0_0), (Vi a0_1), (Vi a0_2), (Sl Kf a0_3), (Sl (Ki .i64) a0_4), (Sl (Kl (Ki .i64)) a0_5), (Sl KT27 a0_6)])] [] (fun w : Unit => (Vb out)) (fun w => []) := by
 unfold spec_Good_b at hp
 refine fn_of Try.func27 rfl Try.ntmps27 rfl fun E hM => ?_
 refine cr fun K1 hK1 => ?_
 refine sx_ox' (ox_box' rfl (lv_ag _) rfl rfl) (wt_none' rfl) fun q1 => ?_
 refine s0 (rd_assign' rfl) ?_
 refine nk hK1 ?_
 refine cr fun K2 hK2 => ?_
 refine s0 (rd_field' (off := 1) rfl Try.underlying27 rfl info3 rfl) ?_
 refine s0 (rd_load' (i := 0) (o := 1) rfl ⟨rfl, rfl, rfl, rfl⟩ rfl flat3) ?_
 obtain ⟨r15, hr15, hp⟩ := bind_some hp
 refine sx_ox' (ox_calln' (ent_fn' Try.func47 isn47 rfl rfl) (spec_Stride_sim _ hr15 : Sx.Fn Try.prog 47 [(Vi a0_1)] [] (fun x : Unit => (Vi r15)) (fun x => [])) (Hn := fun x : Unit => [⟨.pointer (some q1), [(Vi a0_0), (Vi a0_1), (Vi a0_2), (Sl Kf a0_3), (Sl (Ki .i64) a0_4), (Sl (Kl (Ki .i64)) a0_5), (Sl KT27 a0_6)], 27, none⟩]) (fun _ => rfl) rfl rfl) (wt_none' rfl) fun ⟨⟩ => ?_
 refine s0 (rd_assign' rfl) ?_
 refine nk hK2 ?_
 refine cx_seq' fun K3 hK3 => ?_
 refine cr fun K4 hK4 => ?_
 refine s0 (rd_field0' rfl Try.underlying27 rfl info3 rfl) ?_
 refine s0 (rd_load' (i := 0) (o := 0) rfl ⟨rfl, rfl, rfl, rfl⟩ rfl flat3) ?_
 refine s0 (rd_bin' rfl rfl eg_int ru_eql) ?_
 refine nk hK4 ?_
 refine cx_cond' rfl (fun h1 => ?_) (fun h1 => ?_)
 ·replace hp := (br_t h1).symm.trans hp
  refine cx_seq' fun K5 hK5 => ?_
  refine cr fun K6 hK6 => ?_
  refine s0 (rd_field' (off := 6) rfl Try.underlying27 rfl info25 rfl) ?_
  refine s0 (rd_load' (i := 0) (o := 6) rfl ⟨rfl, rfl, rfl, rfl⟩ rfl flat25) ?_
  refine s0 (rd_len' rfl Try.underlying25) ?_
  refine s0 (rd_move' rfl) ?_
  refine nk hK6 ?_
  refine cx_block' ?_
  obtain ⟨y2, hy2, hp⟩ := bind_some hp
  refine cx_loopg' (F := spec_Good_l2 a0_6 recf a0_1) (G := fun k R v => spec_Good_l2s a0_6 recf a0_1 k R v) (x := 0) (gh := ()) (fun (v18 : Int) (w18 : Unit) => (⟨165, [], [(1, (Vp q1)), (20, (Sl KT27 a0_6)), (21, (Vi (a0_6.length : Int))), (22, (Vi v18))], [⟨.pointer (some q1), [(Vi a0_0), (Vi a0_1), (Vi a0_2), (Sl Kf a0_3), (Sl (Ki .i64) a0_4), (Sl (Kl (Ki .i64)) a0_5), (Sl KT27 a0_6)], 27, none⟩]⟩ : St)) (fun (y : Unit ⊕ Unit) => match y with | (.inl v21) => Zg E Exit.ret (fun (w21 : Unit) => (⟨165, [], [(2, (Vb false))], []⟩ : St)) | (.inr v22) => Zg E (Exit.exit 0) (fun (w22 : Unit) => (⟨165, [], [(1, (Vp q1))], [⟨.pointer (some q1), [(Vi a0_0), (Vi a0_1), (Vi a0_2), (Sl Kf a0_3), (Sl (Ki .i64) a0_4), (Sl (Kl (Ki .i64)) a0_5), (Sl KT27 a0_6)], 27, none⟩]⟩ : St))) (fun _ => rfl) (fun _ _ => rfl) ?_ hy2 (tx_to' rfl [0] (sub_cons rfl (sub_cons rfl (sub_cons rfl (sub_cons rfl sub_nil)))) (by decide) (pick_cons rfl pick_nil)) ?_
  ·clear hp hy2
   clear y2
   intro k rec2 KY2 ih2
   rintro x23 ⟨⟩ y2 hp
   replace hp : spec_Good_l2s a0_6 recf a0_1 k rec2 x23 = some y2 := hp
   unfold spec_Good_l2s at hp
   refine cr fun K59 hK59 => ?_
   refine s0 (rd_bin' rfl rfl eg_int ru_lss) ?_
   refine nk hK59 ?_
   refine cx_seq' fun K60 hK60 => ?_
   refine cx_cond' rfl (fun h28 => ?_) (fun h28 => ?_)
   ·replace hp := (br_t h28).symm.trans hp
    refine cx_skip' ?_
    show TX E K60 _
    refine tx_k' hK60 ?_
    refine cx_seq' fun K61 hK61 => ?_
    refine cx_block' ?_
    refine cr fun K62 hK62 => ?_
    obtain ⟨r24, hr24, hp⟩ := bind_some hp
    refine s0 (rd_eq' (congrArg Pt (KT27_enc r24)) (rd_at' (K := KT27) rfl rfl hr24 Try.underlying25 info27)) ?_
    refine s0 (rd_load_pt_agg' (nn := 7) rfl rfl agg27 (l' := [(Vi r24.f0), (Vi r24.f1), (Vi r24.f2), (Sl Kf r24.f3), (Sl (Ki .i64) r24.f4), (Sl (Kl (Ki .i64)) r24.f5), (Sl KT27 r24.f6)]) rfl) ?_
    refine sx_ox' (ox_alloc' info27 rfl rfl rfl rfl (l := [(Vi 0), (Vi 0), (Vi 0), Vn, Vn, Vn, Vn]) rfl) (wt_none' rfl) fun q5 => ?_
    refine sx_ox' (ox_store' (i := 0) (o := 0) rfl rfl (lv_ag _) ⟨rfl, rfl, rfl, rfl⟩ rfl info27 rfl (H' := [⟨.pointer (some q5), [(Vi r24.f0), (Vi r24.f1), (Vi r24.f2), (Sl Kf r24.f3), (Sl (Ki .i64) r24.f4), (Sl (Kl (Ki .i64)) r24.f5), (Sl KT27 r24.f6)], 27, none⟩, ⟨.pointer (some q1), [(Vi a0_0), (Vi a0_1), (Vi a0_2), (Sl Kf a0_3), (Sl (Ki .i64) a0_4), (Sl (Kl (Ki .i64)) a0_5), (Sl KT27 a0_6)], 27, none⟩]) rfl) (wt_none' rfl) fun _ => ?_
    refine nk hK62 ?_
    refine cx_seq' fun K63 hK63 => ?_
    refine cx_plan' [] [] [(0, 1), (1, 0), (2, 1), (3, 1), (4, 1), (5, 1), (6, 1), (7, 1), (8, 1), (10, 1), (11, 1), (9, 0), (12, 1), (13, 1), (14, 1)] mixed (by kernel_rfl) ?_
    refine px_rd' rfl (rd_load_agg' (i := 0) (o := 0) (nn := 7) rfl ⟨rfl, rfl, rfl, rfl⟩ rfl agg27 (l' := [(Vi r24.f0), (Vi r24.f1), (Vi r24.f2), (Sl Kf r24.f3), (Sl (Ki .i64) r24.f4), (Sl (Kl (Ki .i64)) r24.f5), (Sl KT27 r24.f6)]) rfl) rfl rfl (wt_none' rfl) ?_
    obtain ⟨r27, hr27, hp⟩ := bind_some hp
    refine px_ox' rfl (ox_calln' (ent_fn' Try.func27 isn27 rfl rfl) (hrec _ _ _ _ _ _ _ _ hr27 : Sx.Fn Try.prog 27 [(Ag [(Vi r24.f0), (Vi r24.f1), (Vi r24.f2), (Sl Kf r24.f3), (Sl (Ki .i64) r24.f4), (Sl (Kl (Ki .i64)) r24.f5), (Sl KT27 r24.f6)])] [] (fun x : Unit => (Vb r27)) (fun x => [])) (Hn := fun x : Unit => [⟨.pointer (some q5), [(Vi r24.f0), (Vi r24.f1), (Vi r24.f2), (Sl Kf r24.f3), (Sl (Ki .i64) r24.f4), (Sl (Kl (Ki .i64)) r24.f5), (Sl KT27 r24.f6)], 27, none⟩, ⟨.pointer (some q1), [(Vi a0_0), (Vi a0_1), (Vi a0_2), (Sl Kf a0_3), (Sl (Ki .i64) a0_4), (Sl (Kl (Ki .i64)) a0_5), (Sl KT27 a0_6)], 27, none⟩]) (fun _ => rfl) rfl rfl) rfl bs_nil (wt_none' rfl) fun ⟨⟩ => ?_
    refine px_rd' rfl (rd_un' rfl ru_not) rfl rfl (wt_none' rfl) ?_
    refine px_rd' rfl (rd_move' rfl) rfl rfl (wt_none' rfl) ?_
    refine px_cutn' 11 (fun (v20 : Bool) => (⟨165, [], [(1, (Vp q1)), (20, (Sl KT27 a0_6)), (21, (Vi (a0_6.length : Int))), (22, (Vi x23)), (40, (Vb v20))], [⟨.pointer (some q1), [(Vi a0_0), (Vi a0_1), (Vi a0_2), (Sl Kf a0_3), (Sl (Ki .i64) a0_4), (Sl (Kl (Ki .i64)) a0_5), (Sl KT27 a0_6)], 27, none⟩]⟩ : St)) (fun (v20 : Bool) => spec_Good_j16 k rec2 x23 v20 = some y2) ?_ ?_
    ·rintro x22 hp
     replace hp : spec_Good_j16 k rec2 x23 x22 = some y2 := hp
     unfold spec_Good_j16 at hp
     refine px_nil' ?_
     show TX E K63 _
     refine tx_k' hK63 ?_
     refine cx_cond' rfl (fun h31 => ?_) (fun h31 => ?_)
     ·replace hp := (br_t h31).symm.trans hp
      refine cr fun K66 hK66 => ?_
      refine s0 (rd_assign' rfl) ?_
      refine nk hK66 ?_
      refine cx_retc' ?_
      replace hp := Option.some.inj hp
      subst hp
      show TX E (Zg E Exit.ret _ Exit.ret) _
      exact tx_zend' () rfl [] (sub_cons rfl sub_nil) (by decide) pick_nil
     replace hp := (br_f h31).symm.trans hp
     refine cx_skip' ?_
     show TX E K61 _
     refine tx_k' hK61 ?_
     refine cx_region' ?_
     refine s0 (rd_bin' rfl rfl eg_int ru_add) ?_
     refine s0 (rd_move' rfl) ?_
     refine sx_nil' ?_
     show TX E (KY2 _) _
     exact tx_pick' [0] (sub_cons rfl (sub_cons rfl (sub_cons rfl (sub_cons rfl sub_nil)))) (by decide) (pick_cons rfl pick_nil) (ih2 (iadd .i64 x23 1) () _ hp)
    intro K65 hK65
    rcases br_cases hp with ⟨h29, hp⟩ | ⟨h29, hp⟩
    ·refine px_skip' rfl rfl rfl (wt_is' (wt_guard' rfl rfl rfl) (beq_tf h29)) ?_
     refine px_skip' rfl rfl rfl (wt_is' (wt_guard' rfl rfl rfl) (beq_tf h29)) ?_
     refine px_skip' rfl rfl rfl (wt_is' (wt_guard' rfl rfl rfl) (beq_tf h29)) ?_
     refine px_skip' rfl rfl rfl (wt_is' (wt_guard' rfl rfl rfl) (beq_tf h29)) ?_
     refine px_skip' rfl rfl rfl (wt_undef' rfl rfl rfl) ?_
     refine px_skip' rfl rfl rfl (wt_undef' rfl rfl rfl) ?_
     refine px_skip' rfl rfl rfl (wt_undef' rfl rfl rfl) ?_
     refine px_oskip' rfl rfl rfl (wt_undef' rfl rfl rfl) ?_
     refine px_skip' rfl rfl rfl (wt_undef' rfl rfl rfl) ?_
     refine px_skip' rfl rfl rfl (wt_is' (wt_guard' rfl rfl rfl) (beq_tf h29)) ?_
     refine px_rd' rfl (rd_pick_true' rfl h29 rfl) rfl rfl (wt_none' rfl) ?_
     refine px_nil' ?_
     show TX E K65 _
     exact tx_pick' [1] (sub_cons rfl (sub_cons rfl (sub_cons rfl (sub_cons rfl (sub_cons rfl sub_nil))))) (by decide) (pick_cons rfl pick_nil) (hK65 true hp)
    refine px_rd' rfl (rd_field' (off := 1) rfl Try.underlying27 rfl info3 rfl) rfl rfl (wt_is' (wt_guard' rfl rfl rfl) (beq_ff h29)) ?_
    refine px_rd' rfl (rd_load' (i := 1) (o := 1) rfl ⟨rfl, rfl, rfl, rfl⟩ rfl flat3) rfl rfl (wt_is' (wt_guard' rfl rfl rfl) (beq_ff h29)) ?_
    refine px_rd' rfl (rd_bin' rfl rfl eg_int ru_neq) rfl rfl (wt_is' (wt_guard' rfl rfl rfl) (beq_ff h29)) ?_
    refine px_rd' rfl (rd_move' rfl) rfl rfl (wt_is' (wt_guard' rfl rfl rfl) (beq_ff h29)) ?_
    refine px_cutn' 7 (fun (v19 : Bool) => (⟨165, [], [(1, (Vp q1)), (20, (Sl KT27 a0_6)), (21, (Vi (a0_6.length : Int))), (22, (Vi x23)), (40, (Vb v19))], [⟨.pointer (some q1), [(Vi a0_0), (Vi a0_1), (Vi a0_2), (Sl Kf a0_3), (Sl (Ki .i64) a0_4), (Sl (Kl (Ki .i64)) a0_5), (Sl KT27 a0_6)], 27, none⟩]⟩ : St)) (fun (v19 : Bool) => spec_Good_j15 k rec2 x23 v19 = some y2) ?_ ?_
    ·rintro x21 hp
     replace hp : spec_Good_j15 k rec2 x23 x21 = some y2 := hp
     unfold spec_Good_j15 at hp
     refine px_nil' ?_
     show TX E K65 _
     exact tx_pick' [0] (sub_cons rfl (sub_cons rfl (sub_cons rfl (sub_cons rfl (sub_cons rfl sub_nil))))) (by decide) (pick_cons rfl pick_nil) (hK65 x21 hp)
    intro K64 hK64
    rcases br_cases hp with ⟨h30, hp⟩ | ⟨h30, hp⟩
    ·refine px_rd' rfl (rd_load_agg' (i := 0) (o := 0) (nn := 7) rfl ⟨rfl, rfl, rfl, rfl⟩ rfl agg27 (l' := [(Vi r24.f0), (Vi r24.f1), (Vi r24.f2), (Sl Kf r24.f3), (Sl (Ki .i64) r24.f4), (Sl (Kl (Ki .i64)) r24.f5), (Sl KT27 r24.f6)]) rfl) rfl rfl (wt_is' (wt_guard' rfl rfl rfl) (beq_tt h30)) ?_
     refine px_rd' rfl (rd_field' (off := 1) rfl Try.underlying27 rfl info3 rfl) rfl rfl (wt_is' (wt_guard' rfl rfl rfl) (beq_tt h30)) ?_
     refine px_rd' rfl (rd_load' (i := 1) (o := 1) rfl ⟨rfl, rfl, rfl, rfl⟩ rfl flat3) rfl rfl (wt_is' (wt_guard' rfl rfl rfl) (beq_tt h30)) ?_
     obtain ⟨r35, hr35, hp⟩ := bind_some hp
     refine px_ox' rfl (ox_calln' (ent_fn' Try.func16 isn16 rfl rfl) (spec_LayoutOf_sim _ _ _ _ _ _ _ hr35 : Sx.Fn Try.prog 16 [(Ag [(Vi r24.f0), (Vi r24.f1), (Vi r24.f2), (Sl Kf r24.f3), (Sl (Ki .i64) r24.f4), (Sl (Kl (Ki .i64)) r24.f5), (Sl KT27 r24.f6)])] [] (fun x : Unit => (Vi r35)) (fun x => [])) (Hn := fun x : Unit => [⟨.pointer (some q5), [(Vi r24.f0), (Vi r24.f1), (Vi r24.f2), (Sl Kf r24.f3), (Sl (Ki .i64) r24.f4), (Sl (Kl (Ki .i64)) r24.f5), (Sl KT27 r24.f6)], 27, none⟩, ⟨.pointer (some q1), [(Vi a0_0), (Vi a0_1), (Vi a0_2), (Sl Kf a0_3), (Sl (Ki .i64) a0_4), (Sl (Kl (Ki .i64)) a0_5), (Sl KT27 a0_6)], 27, none⟩]) (fun _ => rfl) rfl rfl) rfl bs_nil (wt_is' (wt_guard' rfl rfl rfl) (beq_tt h30)) fun ⟨⟩ => ?_
     refine px_rd' rfl (rd_bin' rfl rfl eg_int ru_neq) rfl rfl (wt_is' (wt_guard' rfl rfl rfl) (beq_tt h30)) ?_
     refine px_rd' rfl (rd_pick_true' rfl h30 rfl) rfl rfl (wt_is' (wt_guard' rfl rfl rfl) (beq_ff h29)) ?_
     refine px_rd' rfl (rd_pick_false' rfl h29 rfl) rfl rfl (wt_none' rfl) ?_
     refine px_nil' ?_
     show TX E K64 _
     exact tx_pick' [1] (sub_cons rfl (sub_cons rfl (sub_cons rfl (sub_cons rfl (sub_cons rfl sub_nil))))) (by decide) (pick_cons rfl pick_nil) (hK64 (!decide (r35 = a0_1)) hp)
    refine px_skip' rfl rfl rfl (wt_is' (wt_guard' rfl rfl rfl) (beq_ft h30)) ?_
    refine px_skip' rfl rfl rfl (wt_is' (wt_guard' rfl rfl rfl) (beq_ft h30)) ?_
    refine px_skip' rfl rfl rfl (wt_is' (wt_guard' rfl rfl rfl) (beq_ft h30)) ?_
    refine px_oskip' rfl rfl rfl (wt_is' (wt_guard' rfl rfl rfl) (beq_ft h30)) ?_
    refine px_skip' rfl rfl rfl (wt_is' (wt_guard' rfl rfl rfl) (beq_ft h30)) ?_
    refine px_rd' rfl (rd_pick_false' rfl h30 rfl) rfl rfl (wt_is' (wt_guard' rfl rfl rfl) (beq_ff h29)) ?_
    refine px_rd' rfl (rd_pick_false' rfl h29 rfl) rfl rfl (wt_none' rfl) ?_
    refine px_nil' ?_
    show TX E K64 _
    exact tx_pick' [1] (sub_cons rfl (sub_cons rfl (sub_cons rfl (sub_cons rfl (sub_cons rfl sub_nil))))) (by decide) (pick_cons rfl pick_nil) (hK64 false hp)
   replace hp := (br_f h28).symm.trans hp
   refine cx_exit' ?_
   replace hp := Option.some.inj hp
   subst hp
   show TX E (Zg E (Exit.exit 0) _ (Exit.exit 0)) _
   exact tx_zend' () rfl [0] (sub_cons rfl sub_nil) (by decide) (pick_cons rfl pick_nil)
  rcases y2 with v21 | v22
  ·dsimp only at hp
   refine zg_out fun w21 => ?_
   replace hp := Option.some.inj hp
   subst hp
   refine tx_pick' (L' := [(2, (Vb false))]) (H' := []) [] (sub_cons rfl sub_nil) (by decide) pick_nil ?_
   exact tx_ret1' Try.results27 rfl () (rv_tmp' rfl) (List.Sublist.refl _)
  dsimp only at hp
  refine zg_out fun w22 => ?_
  show TX E K5 _
  refine tx_k' hK5 ?_
  refine cr fun K12 hK12 => ?_
  refine s0 (rd_field' (off := 1) rfl Try.underlying27 rfl info3 rfl) ?_
  refine s0 (rd_load' (i := 0) (o := 1) rfl ⟨rfl, rfl, rfl, rfl⟩ rfl flat3) ?_
  refine s0 (rd_bin' rfl rfl eg_int ru_geq) ?_
  refine s0 (rd_move' rfl) ?_
  refine sx_cutn' 13 (fun (v1 : Bool) => (⟨165, [], [(58, (Vb v1))], []⟩ : St)) (fun (v1 : Bool) => spec_Good_j1 k v1 = some out) ?_ ?_
  ·rintro x1 hp
   replace hp : spec_Good_j1 k x1 = some out := hp
   unfold spec_Good_j1 at hp
   refine s0 (rd_assign' rfl) ?_
   refine nk hK12 ?_
   refine cx_retc' ?_
   replace hp := Option.some.inj hp
   subst hp
   refine tx_pick' (L' := [(2, (Vb x1))]) (H' := []) [] (sub_cons rfl sub_nil) (by decide) pick_nil ?_
   exact tx_ret1' Try.results27 rfl () (rv_tmp' rfl) (List.Sublist.refl _)
  intro K13 hK13
  rcases br_cases hp with ⟨h3, hp⟩ | ⟨h3, hp⟩
  ·refine sx_rd' (rd_field' (off := 3) rfl Try.underlying27 rfl info22 rfl) rfl rfl (wt_is' (wt_guard' rfl rfl rfl) (beq_tt h3)) ?_
   refine sx_rd' (rd_load' (i := 0) (o := 3) rfl ⟨rfl, rfl, rfl, rfl⟩ rfl flat22) rfl rfl (wt_is' (wt_guard' rfl rfl rfl) (beq_tt h3)) ?_
   refine sx_rd' (rd_len' rfl Try.underlying22) rfl rfl (wt_is' (wt_guard' rfl rfl rfl) (beq_tt h3)) ?_
   refine sx_rd' (rd_field' (off := 4) rfl Try.underlying27 rfl info23 rfl) rfl rfl (wt_is' (wt_guard' rfl rfl rfl) (beq_tt h3)) ?_
   refine sx_rd' (rd_load' (i := 0) (o := 4) rfl ⟨rfl, rfl, rfl, rfl⟩ rfl flat23) rfl rfl (wt_is' (wt_guard' rfl rfl rfl) (beq_tt h3)) ?_
   refine sx_rd' (rd_len' rfl Try.underlying23) rfl rfl (wt_is' (wt_guard' rfl rfl rfl) (beq_tt h3)) ?_
   refine sx_rd' (rd_bin' rfl rfl eg_int ru_add) rfl rfl (wt_is' (wt_guard' rfl rfl rfl) (beq_tt h3)) ?_
   refine sx_rd' (rd_field' (off := 5) rfl Try.underlying27 rfl info24 rfl) rfl rfl (wt_is' (wt_guard' rfl rfl rfl) (beq_tt h3)) ?_
   refine sx_rd' (rd_load' (i := 0) (o := 5) rfl ⟨rfl, rfl, rfl, rfl⟩ rfl flat24) rfl rfl (wt_is' (wt_guard' rfl rfl rfl) (beq_tt h3)) ?_
   refine sx_rd' (rd_len' rfl Try.underlying24) rfl rfl (wt_is' (wt_guard' rfl rfl rfl) (beq_tt h3)) ?_
   refine sx_rd' (rd_bin' rfl rfl eg_int ru_add) rfl rfl (wt_is' (wt_guard' rfl rfl rfl) (beq_tt h3)) ?_
   refine sx_rd' (rd_bin' rfl rfl eg_int ru_eql) rfl rfl (wt_is' (wt_guard' rfl rfl rfl) (beq_tt h3)) ?_
   refine s0 (rd_pick_true' rfl h3 rfl) ?_
   refine sx_nil' ?_
   show TX E K13 _
   exact tx_pick' [] (sub_cons rfl sub_nil) (by decide) pick_nil (hK13 (decide ((iadd .i64 (iadd .i64 (a0_3.length : Int) (a0_4.length : Int)) (a0_5.length : Int)) = 0)) hp)
  refine sx_skip' rfl rfl (wt_is' (wt_guard' rfl rfl rfl) (beq_ft h3)) ?_
  refine sx_skip' rfl rfl (wt_is' (wt_guard' rfl rfl rfl) (beq_ft h3)) ?_
  refine sx_skip' rfl rfl (wt_is' (wt_guard' rfl rfl rfl) (beq_ft h3)) ?_
  refine sx_skip' rfl rfl (wt_is' (wt_guard' rfl rfl rfl) (beq_ft h3)) ?_
  refine sx_skip' rfl rfl (wt_is' (wt_guard' rfl rfl rfl) (beq_ft h3)) ?_
  refine sx_skip' rfl rfl (wt_is' (wt_guard' rfl rfl rfl) (beq_ft h3)) ?_
  refine sx_skip' rfl rfl (wt_is' (wt_guard' rfl rfl rfl) (beq_ft h3)) ?_
  refine sx_skip' rfl rfl (wt_is' (wt_guard' rfl rfl rfl) (beq_ft h3)) ?_
  refine sx_skip' rfl rfl (wt_is' (wt_guard' rfl rfl rfl) (beq_ft h3)) ?_
  refine sx_skip' rfl rfl (wt_is' (wt_guard' rfl rfl rfl) (beq_ft h3)) ?_
  refine sx_skip' rfl rfl (wt_is' (wt_guard' rfl rfl rfl) (beq_ft h3)) ?_
  refine sx_skip' rfl rfl (wt_is' (wt_guard' rfl rfl rfl) (beq_ft h3)) ?_
  refine s0 (rd_pick_false' rfl h3 rfl) ?_
  refine sx_nil' ?_
  show TX E K13 _
  exact tx_pick' [] (sub_cons rfl sub_nil) (by decide) pick_nil (hK13 false hp)
 replace hp := (br_f h1).symm.trans hp
 refine cx_skip' ?_
 show TX E K3 _
 refine tx_k' hK3 ?_
 refine cx_seq' fun K14 hK14 => ?_
 refine cr fun K15 hK15 => ?_
 refine s0 (rd_move' rfl) ?_
 refine s0 (rd_bin' rfl rfl eg_int ru_eql) ?_
 refine s0 (rd_move' rfl) ?_
 refine sx_cutn' 7 (fun (v2 : Bool) => (⟨165, [], [(1, (Vp q1)), (3, (Vi r15)), (68, (Vb v2))], [⟨.pointer (some q1), [(Vi a0_0), (Vi a0_1), (Vi a0_2), (Sl Kf a0_3), (Sl (Ki .i64) a0_4), (Sl (Kl (Ki .i64)) a0_5), (Sl KT27 a0_6)], 27, none⟩]⟩ : St)) (fun (v2 : Bool) => spec_Good_j2 k a0_0 a0_4 a0_3 r15 a0_5 a0_6 v2 = some out) ?_ ?_
 ·rintro x2 hp
  replace hp : spec_Good_j2 k a0_0 a0_4 a0_3 r15 a0_5 a0_6 x2 = some out := hp
  unfold spec_Good_j2 at hp
  refine s0 (rd_move' rfl) ?_
  refine sx_cutn' 5 (fun (v3 : Bool) => (⟨165, [], [(1, (Vp q1)), (3, (Vi r15)), (74, (Vb v3))], [⟨.pointer (some q1), [(Vi a0_0), (Vi a0_1), (Vi a0_2), (Sl Kf a0_3), (Sl (Ki .i64) a0_4), (Sl (Kl (Ki .i64)) a0_5), (Sl KT27 a0_6)], 27, none⟩]⟩ : St)) (fun (v3 : Bool) => spec_Good_j3 k a0_0 a0_4 a0_3 r15 a0_5 v3 = some out) ?_ ?_
  ·rintro x3 hp
   replace hp : spec_Good_j3 k a0_0 a0_4 a0_3 r15 a0_5 x3 = some out := hp
   unfold spec_Good_j3 at hp
   refine s0 (rd_move' rfl) ?_
   refine sx_cutn' 10 (fun (v5 : Bool) => (⟨165, [], [(1, (Vp q1)), (3, (Vi r15)), (85, (Vb v5))], [⟨.pointer (some q1), [(Vi a0_0), (Vi a0_1), (Vi a0_2), (Sl Kf a0_3), (Sl (Ki .i64) a0_4), (Sl (Kl (Ki .i64)) a0_5), (Sl KT27 a0_6)], 27, none⟩]⟩ : St)) (fun (v5 : Bool) => spec_Good_j5 k a0_0 a0_4 a0_3 r15 a0_5 v5 = some out) ?_ ?_
   ·rintro x5 hp
    replace hp : spec_Good_j5 k a0_0 a0_4 a0_3 r15 a0_5 x5 = some out := hp
    unfold spec_Good_j5 at hp
    refine nk hK15 ?_
    refine cx_cond' rfl (fun h8 => ?_) (fun h8 => ?_)
    ·replace hp := (br_t h8).symm.trans hp
     refine cr fun K20 hK20 => ?_
     refine s0 (rd_assign' rfl) ?_
     refine nk hK20 ?_
     refine cx_retc' ?_
     replace hp := Option.some.inj hp
     subst hp
     refine tx_pick' (L' := [(2, (Vb false))]) (H' := []) [] (sub_cons rfl sub_nil) (by decide) pick_nil ?_
     exact tx_ret1' Try.results27 rfl () (rv_tmp' rfl) (List.Sublist.refl _)
    replace hp := (br_f h8).symm.trans hp
    refine cx_skip' ?_
    show TX E K14 _
    refine tx_k' hK14 ?_
    refine cx_seq' fun K21 hK21 => ?_
    refine cr fun K22 hK22 => ?_
    refine s0 (rd_field0' rfl Try.underlying27 rfl info3 rfl) ?_
    refine s0 (rd_load' (i := 0) (o := 0) rfl ⟨rfl, rfl, rfl, rfl⟩ rfl flat3) ?_
    refine nk hK22 ?_
    refine cx_block' ?_
    refine cr fun K23 hK23 => ?_
    refine s0 (rd_bin' rfl rfl eg_int ru_eql) ?_
    refine s0 (rd_assign' rfl) ?_
    refine nk hK23 ?_
    refine cx_cond' rfl (fun h9 => ?_) (fun h9 => ?_)
    ·replace hp := (br_t h9).symm.trans hp
     refine cr fun K24 hK24 => ?_
     refine s0 (rd_field' (off := 4) rfl Try.underlying27 rfl info23 rfl) ?_
     refine s0 (rd_load' (i := 0) (o := 4) rfl ⟨rfl, rfl, rfl, rfl⟩ rfl flat23) ?_
     refine s0 (rd_len' rfl Try.underlying23) ?_
     refine s0 (rd_bin' rfl rfl eg_int ru_eql) ?_
     refine s0 (rd_move' rfl) ?_
     refine sx_cutn' 6 (fun (v6 : Bool) => (⟨165, [], [(100, (Vb v6))], []⟩ : St)) (fun (v6 : Bool) => spec_Good_j6 k v6 = some out) ?_ ?_
     ·rintro x6 hp
      replace hp : spec_Good_j6 k x6 = some out := hp
      unfold spec_Good_j6 at hp
      refine s0 (rd_assign' rfl) ?_
      refine nk hK24 ?_
      refine cx_retc' ?_
      replace hp := Option.some.inj hp
      subst hp
      refine tx_pick' (L' := [(2, (Vb x6))]) (H' := []) [] (sub_cons rfl sub_nil) (by decide) pick_nil ?_
      exact tx_ret1' Try.results27 rfl () (rv_tmp' rfl) (List.Sublist.refl _)
     intro K25 hK25
     rcases br_cases hp with ⟨h10, hp⟩ | ⟨h10, hp⟩
     ·refine sx_rd' (rd_field' (off := 3) rfl Try.underlying27 rfl info22 rfl) rfl rfl (wt_is' (wt_guard' rfl rfl rfl) (beq_tt h10)) ?_
      refine sx_rd' (rd_load' (i := 0) (o := 3) rfl ⟨rfl, rfl, rfl, rfl⟩ rfl flat22) rfl rfl (wt_is' (wt_guard' rfl rfl rfl) (beq_tt h10)) ?_
      refine sx_rd' (rd_len' rfl Try.underlying22) rfl rfl (wt_is' (wt_guard' rfl rfl rfl) (beq_tt h10)) ?_
      refine sx_rd' (rd_move' rfl) rfl rfl (wt_is' (wt_guard' rfl rfl rfl) (beq_tt h10)) ?_
      refine sx_rd' (rd_bin' rfl rfl eg_int ru_leq) rfl rfl (wt_is' (wt_guard' rfl rfl rfl) (beq_tt h10)) ?_
      refine s0 (rd_pick_true' rfl h10 rfl) ?_
      refine sx_nil' ?_
      show TX E K25 _
      exact tx_pick' [] (sub_cons rfl sub_nil) (by decide) pick_nil (hK25 (decide ((a0_3.length : Int) ≤ r15)) hp)
     refine sx_skip' rfl rfl (wt_is' (wt_guard' rfl rfl rfl) (beq_ft h10)) ?_
     refine sx_skip' rfl rfl (wt_is' (wt_guard' rfl rfl rfl) (beq_ft h10)) ?_
     refine sx_skip' rfl rfl (wt_is' (wt_guard' rfl rfl rfl) (beq_ft h10)) ?_
     refine sx_skip' rfl rfl (wt_is' (wt_guard' rfl rfl rfl) (beq_ft h10)) ?_
     refine sx_skip' rfl rfl (wt_is' (wt_guard' rfl rfl rfl) (beq_ft h10)) ?_
     refine s0 (rd_pick_false' rfl h10 rfl) ?_
     refine sx_nil' ?_
     show TX E K25 _
     exact tx_pick' [] (sub_cons rfl sub_nil) (by decide) pick_nil (hK25 false hp)
    replace hp := (br_f h9).symm.trans hp
    refine cx_join' (fun (v7 : Bool) => (⟨165, [], [(1, (Vp q1)), (3, (Vi r15)), (87, (Vi a0_0)), (101, (Vb v7))], [⟨.pointer (some q1), [(Vi a0_0), (Vi a0_1), (Vi a0_2), (Sl Kf a0_3), (Sl (Ki .i64) a0_4), (Sl (Kl (Ki .i64)) a0_5), (Sl KT27 a0_6)], 27, none⟩]⟩ : St)) (fun (v7 : Bool) => spec_Good_j7 k a0_4 a0_0 r15 a0_3 a0_5 v7 = some out) ?_ ?_
    ·rintro x7 hp
     replace hp : spec_Good_j7 k a0_4 a0_0 r15 a0_3 a0_5 x7 = some out := hp
     unfold spec_Good_j7 at hp
     refine cx_cond' rfl (fun h12 => ?_) (fun h12 => ?_)
     ·replace hp := (br_t h12).symm.trans hp
      refine cr fun K28 hK28 => ?_
      refine s0 (rd_field' (off := 4) rfl Try.underlying27 rfl info23 rfl) ?_
      refine s0 (rd_load' (i := 0) (o := 4) rfl ⟨rfl, rfl, rfl, rfl⟩ rfl flat23) ?_
      refine s0 (rd_len' rfl Try.underlying23) ?_
      refine s0 (rd_bin' rfl rfl eg_int ru_eql) ?_
      refine s0 (rd_assign' rfl) ?_
      refine nk hK28 ?_
      refine cx_retc' ?_
      replace hp := Option.some.inj hp
      subst hp
      refine tx_pick' (L' := [(2, (Vb (decide ((a0_4.length : Int) = 0))))]) (H' := []) [] (sub_cons rfl sub_nil) (by decide) pick_nil ?_
      exact tx_ret1' Try.results27 rfl () (rv_tmp' rfl) (List.Sublist.refl _)
     replace hp := (br_f h12).symm.trans hp
     refine cx_join' (fun (v8 : Bool) => (⟨165, [], [(1, (Vp q1)), (3, (Vi r15)), (87, (Vi a0_0)), (108, (Vb v8))], [⟨.pointer (some q1), [(Vi a0_0), (Vi a0_1), (Vi a0_2), (Sl Kf a0_3), (Sl (Ki .i64) a0_4), (Sl (Kl (Ki .i64)) a0_5), (Sl KT27 a0_6)], 27, none⟩]⟩ : St)) (fun (v8 : Bool) => spec_Good_j8 k a0_4 r15 a0_0 a0_3 a0_5 v8 = some out) ?_ ?_
     ·rintro x8 hp
      replace hp : spec_Good_j8 k a0_4 r15 a0_0 a0_3 a0_5 x8 = some out := hp
      unfold spec_Good_j8 at hp
      refine cx_cond' rfl (fun h15 => ?_) (fun h15 => ?_)
      ·replace hp := (br_t h15).symm.trans hp
       refine cr fun K32 hK32 => ?_
       refine s0 (rd_field' (off := 4) rfl Try.underlying27 rfl info23 rfl) ?_
       refine s0 (rd_load' (i := 0) (o := 4) rfl ⟨rfl, rfl, rfl, rfl⟩ rfl flat23) ?_
       refine s0 (rd_move' rfl) ?_
       refine s0 (rd_field0' rfl Try.underlying27 rfl info3 rfl) ?_
       refine s0 (rd_load' (i := 0) (o := 0) rfl ⟨rfl, rfl, rfl, rfl⟩ rfl flat3) ?_
       refine s0 (rd_bin' rfl rfl eg_int ru_eql) ?_
       obtain ⟨r119, hr119, hp⟩ := bind_some hp
       refine sx_ox' (ox_calln' (ent_fn' Try.func57 isn57 rfl rfl) (spec_goodEnds_sim _ _ _ _ hr119 : Sx.Fn Try.prog 57 [(Sl (Ki .i64) a0_4), (Vi 0), (Vi r15), (Vb (decide (a0_0 = 4)))] [] (fun x : Unit => (Tu [(Vi r119.1), (Vb r119.2)])) (fun x => [])) (Hn := fun x : Unit => [⟨.pointer (some q1), [(Vi a0_0), (Vi a0_1), (Vi a0_2), (Sl Kf a0_3), (Sl (Ki .i64) a0_4), (Sl (Kl (Ki .i64)) a0_5), (Sl KT27 a0_6)], 27, none⟩]) (fun _ => rfl) rfl rfl) (wt_none' rfl) fun ⟨⟩ => ?_
       refine s0 (rd_move' rfl) ?_
       refine s0 (rd_extract' rfl rfl) ?_
       refine s0 (rd_extract' rfl rfl) ?_
       refine s0 (rd_assign' rfl) ?_
       refine s0 (rd_assign' rfl) ?_
       refine nk hK32 ?_
       refine cr fun K33 hK33 => ?_
       refine s0 (rd_move' rfl) ?_
       refine s0 (rd_move' rfl) ?_
       refine sx_cutn' 6 (fun (v9 : Bool) => (⟨165, [], [(129, (Vb v9))], []⟩ : St)) (fun (v9 : Bool) => spec_Good_j9 k v9 = some out) ?_ ?_
       ·rintro x9 hp
        replace hp : spec_Good_j9 k x9 = some out := hp
        unfold spec_Good_j9 at hp
        refine s0 (rd_assign' rfl) ?_
        refine nk hK33 ?_
        refine cx_retc' ?_
        replace hp := Option.some.inj hp
        subst hp
        refine tx_pick' (L' := [(2, (Vb x9))]) (H' := []) [] (sub_cons rfl sub_nil) (by decide) pick_nil ?_
        exact tx_ret1' Try.results27 rfl () (rv_tmp' rfl) (List.Sublist.refl _)
       intro K34 hK34
       rcases br_cases hp with ⟨h16, hp⟩ | ⟨h16, hp⟩
       ·refine sx_rd' (rd_move' rfl) rfl rfl (wt_is' (wt_guard' rfl rfl rfl) (beq_tt h16)) ?_
        refine sx_rd' (rd_field' (off := 3) rfl Try.underlying27 rfl info22 rfl) rfl rfl (wt_is' (wt_guard' rfl rfl rfl) (beq_tt h16)) ?_
        refine sx_rd' (rd_load' (i := 0) (o := 3) rfl ⟨rfl, rfl, rfl, rfl⟩ rfl flat22) rfl rfl (wt_is' (wt_guard' rfl rfl rfl) (beq_tt h16)) ?_
        refine sx_rd' (rd_len' rfl Try.underlying22) rfl rfl (wt_is' (wt_guard' rfl rfl rfl) (beq_tt h16)) ?_
        refine sx_rd' (rd_bin' rfl rfl eg_int ru_eql) rfl rfl (wt_is' (wt_guard' rfl rfl rfl) (beq_tt h16)) ?_
        refine s0 (rd_pick_true' rfl h16 rfl) ?_
        refine sx_nil' ?_
        show TX E K34 _
        exact tx_pick' [] (sub_cons rfl sub_nil) (by decide) pick_nil (hK34 (decide (r119.1 = (a0_3.length : Int))) hp)
       refine sx_skip' rfl rfl (wt_is' (wt_guard' rfl rfl rfl) (beq_ft h16)) ?_
       refine sx_skip' rfl rfl (wt_is' (wt_guard' rfl rfl rfl) (beq_ft h16)) ?_
       refine sx_skip' rfl rfl (wt_is' (wt_guard' rfl rfl rfl) (beq_ft h16)) ?_
       refine sx_skip' rfl rfl (wt_is' (wt_guard' rfl rfl rfl) (beq_ft h16)) ?_
       refine sx_skip' rfl rfl (wt_is' (wt_guard' rfl rfl rfl) (beq_ft h16)) ?_
       refine s0 (rd_pick_false' rfl h16 rfl) ?_
       refine sx_nil' ?_
       show TX E K34 _
       exact tx_pick' [] (sub_cons rfl sub_nil) (by decide) pick_nil (hK34 false hp)
      replace hp := (br_f h15).symm.trans hp
      refine cr fun K35 hK35 => ?_
      refine s0 (rd_bin' rfl rfl eg_int ru_eql) ?_
      refine s0 (rd_assign' rfl) ?_
      refine nk hK35 ?_
      refine cx_cond' rfl (fun h17 => ?_) (fun h17 => ?_)
      ·replace hp := (br_t h17).symm.trans hp
       refine cr fun K36 hK36 => ?_
       refine s0 (rd_assign' rfl) ?_
       refine s0 (rd_assign' rfl) ?_
       refine nk hK36 ?_
       refine cx_seq' fun K37 hK37 => ?_
       refine cr fun K38 hK38 => ?_
       refine s0 (rd_field' (off := 5) rfl Try.underlying27 rfl info24 rfl) ?_
       refine s0 (rd_load' (i := 0) (o := 5) rfl ⟨rfl, rfl, rfl, rfl⟩ rfl flat24) ?_
       refine s0 (rd_len' rfl Try.underlying24) ?_
       refine s0 (rd_move' rfl) ?_
       refine nk hK38 ?_
       refine cx_block' ?_
       obtain ⟨v12, hy1, hp⟩ := bind_some hp
       refine cx_loopg' (F := spec_Good_l1 a0_5 r15) (G := fun k R v => spec_Good_l1s a0_5 r15 k R v.1 v.2.1 v.2.2) (x := (0, true, 0)) (gh := ()) (fun (v10 : Int × Bool × Int) (w10 : Unit) => (⟨165, [], [(1, (Vp q1)), (3, (Vi r15)), (8, (Vi v10.1)), (9, (Vb v10.2.1)), (133, (Sl (Kl (Ki .i64)) a0_5)), (134, (Vi (a0_5.length : Int))), (135, (Vi v10.2.2))], [⟨.pointer (some q1), [(Vi a0_0), (Vi a0_1), (Vi a0_2), (Sl Kf a0_3), (Sl (Ki .i64) a0_4), (Sl (Kl (Ki .i64)) a0_5), (Sl KT27 a0_6)], 27, none⟩]⟩ : St)) (fun (v12 : Int × Bool) => Zg E (Exit.exit 3) (fun (w12 : Unit) => (⟨165, [], [(1, (Vp q1)), (8, (Vi v12.1)), (9, (Vb v12.2))], [⟨.pointer (some q1), [(Vi a0_0), (Vi a0_1), (Vi a0_2), (Sl Kf a0_3), (Sl (Ki .i64) a0_4), (Sl (Kl (Ki .i64)) a0_5), (Sl KT27 a0_6)], 27, none⟩]⟩ : St))) (fun _ => rfl) (fun _ _ => rfl) ?_ hy1 (tx_to' rfl [0] (sub_cons rfl (sub_cons rfl (sub_cons rfl (sub_cons rfl (sub_cons rfl (sub_cons rfl (sub_cons rfl sub_nil))))))) (by decide) (pick_cons rfl pick_nil)) ?_
       ·clear hp hy1
        clear v12
        intro k rec1 KY1 ih1
        rintro ⟨x10, x11, x12⟩ ⟨⟩ y1 hp
        replace hp : spec_Good_l1s a0_5 r15 k rec1 x10 x11 x12 = some y1 := hp
        unfold spec_Good_l1s at hp
        refine cr fun K45 hK45 => ?_
        refine s0 (rd_bin' rfl rfl eg_int ru_lss) ?_
        refine nk hK45 ?_
        refine cx_seq' fun K46 hK46 => ?_
        refine cx_cond' rfl (fun h20 => ?_) (fun h20 => ?_)
        ·replace hp := (br_t h20).symm.trans hp
         refine cx_skip' ?_
         show TX E K46 _
         refine tx_k' hK46 ?_
         refine cx_seq' fun K47 hK47 => ?_
         refine cx_block' ?_
         refine cr fun K48 hK48 => ?_
         obtain ⟨r137, hr137, hp⟩ := bind_some hp
         refine s0 (rd_at' (K := (Kl (Ki .i64))) rfl rfl hr137 Try.underlying24 info23) ?_
         refine s0 (rd_load_pt' rfl rfl flat23) ?_
         refine s0 (rd_assign' rfl) ?_
         refine nk hK48 ?_
         refine cr fun K49 hK49 => ?_
         refine s0 (rd_assign' rfl) ?_
         refine nk hK49 ?_
         refine cr fun K50 hK50 => ?_
         refine s0 (rd_move' rfl) ?_
         refine s0 (rd_move' rfl) ?_
         refine s0 (rd_move' rfl) ?_
         obtain ⟨r143, hr143, hp⟩ := bind_some hp
         refine sx_ox' (ox_calln' (ent_fn' Try.func57 isn57 rfl rfl) (spec_goodEnds_sim _ _ _ _ hr143 : Sx.Fn Try.prog 57 [(Sl (Ki .i64) r137), (Vi x10), (Vi r15), (Vb false)] [] (fun x : Unit => (Tu [(Vi r143.1), (Vb r143.2)])) (fun x => [])) (Hn := fun x : Unit => [⟨.pointer (some q1), [(Vi a0_0), (Vi a0_1), (Vi a0_2), (Sl Kf a0_3), (Sl (Ki .i64) a0_4), (Sl (Kl (Ki .i64)) a0_5), (Sl KT27 a0_6)], 27, none⟩]) (fun _ => rfl) rfl rfl) (wt_none' rfl) fun ⟨⟩ => ?_
         refine s0 (rd_move' rfl) ?_
         refine s0 (rd_extract' rfl rfl) ?_
         refine s0 (rd_extract' rfl rfl) ?_
         refine s0 (rd_assign' rfl) ?_
         refine s0 (rd_assign' rfl) ?_
         refine nk hK50 ?_
         refine cx_region' ?_
         refine s0 (rd_move' rfl) ?_
         refine s0 (rd_move' rfl) ?_
         refine sx_cutn' 2 (fun (v11 : Bool) => (⟨165, [], [(1, (Vp q1)), (3, (Vi r15)), (8, (Vi r143.1)), (133, (Sl (Kl (Ki .i64)) a0_5)), (134, (Vi (a0_5.length : Int))), (135, (Vi x12)), (149, (Vb v11))], [⟨.pointer (some q1), [(Vi a0_0), (Vi a0_1), (Vi a0_2), (Sl Kf a0_3), (Sl (Ki .i64) a0_4), (Sl (Kl (Ki .i64)) a0_5), (Sl KT27 a0_6)], 27, none⟩]⟩ : St)) (fun (v11 : Bool) => spec_Good_j10 k rec1 r143 x12 v11 = some y1) ?_ ?_
         ·rintro x13 hp
          replace hp : spec_Good_j10 k rec1 r143 x12 x13 = some y1 := hp
          unfold spec_Good_j10 at hp
          refine s0 (rd_assign' rfl) ?_
          refine nk hK47 ?_
          refine cx_region' ?_
          refine s0 (rd_bin' rfl rfl eg_int ru_add) ?_
          refine s0 (rd_move' rfl) ?_
          refine sx_nil' ?_
          show TX E (KY1 _) _
          exact tx_pick' [0] (sub_cons rfl (sub_cons rfl (sub_cons rfl (sub_cons rfl (sub_cons rfl (sub_cons rfl (sub_cons rfl sub_nil))))))) (by decide) (pick_cons rfl pick_nil) (ih1 (r143.1, x13, (iadd .i64 x12 1)) () _ hp)
         intro K51 hK51
         rcases br_cases hp with ⟨h21, hp⟩ | ⟨h21, hp⟩
         ·refine sx_rd' (rd_move' rfl) rfl rfl (wt_is' (wt_guard' rfl rfl rfl) (beq_tt h21)) ?_
          refine s0 (rd_pick_true' rfl h21 rfl) ?_
          refine sx_nil' ?_
          show TX E K51 _
          exact tx_pick' [0] (sub_cons rfl (sub_cons rfl (sub_cons rfl (sub_cons rfl (sub_cons rfl (sub_cons rfl (sub_cons rfl sub_nil))))))) (by decide) (pick_cons rfl pick_nil) (hK51 r143.2 hp)
         refine sx_skip' rfl rfl (wt_is' (wt_guard' rfl rfl rfl) (beq_ft h21)) ?_
         refine s0 (rd_pick_false' rfl h21 rfl) ?_
         refine sx_nil' ?_
         show TX E K51 _
         exact tx_pick' [0] (sub_cons rfl (sub_cons rfl (sub_cons rfl (sub_cons rfl (sub_cons rfl (sub_cons rfl (sub_cons rfl sub_nil))))))) (by decide) (pick_cons rfl pick_nil) (hK51 false hp)
        replace hp := (br_f h20).symm.trans hp
        refine cx_exit' ?_
        replace hp := Option.some.inj hp
        subst hp
        show TX E (Zg E (Exit.exit 3) _ (Exit.exit 3)) _
        exact tx_zend' () rfl [0] (sub_cons rfl (sub_cons rfl (sub_cons rfl sub_nil))) (by decide) (pick_cons rfl pick_nil)
       refine zg_out fun w12 => ?_
       show TX E K37 _
       refine tx_k' hK37 ?_
       refine cr fun K52 hK52 => ?_
       refine s0 (rd_move' rfl) ?_
       refine s0 (rd_move' rfl) ?_
       refine sx_cutn' 6 (fun (v13 : Bool) => (⟨165, [], [(1, (Vp q1)), (158, (Vb v13))], [⟨.pointer (some q1), [(Vi a0_0), (Vi a0_1), (Vi a0_2), (Sl Kf a0_3), (Sl (Ki .i64) a0_4), (Sl (Kl (Ki .i64)) a0_5), (Sl KT27 a0_6)], 27, none⟩]⟩ : St)) (fun (v13 : Bool) => spec_Good_j11 k a0_4 v13 = some out) ?_ ?_
       ·rintro x16 hp
        replace hp : spec_Good_j11 k a0_4 x16 = some out := hp
        unfold spec_Good_j11 at hp
        refine s0 (rd_move' rfl) ?_
        refine sx_cutn' 5 (fun (v14 : Bool) => (⟨165, [], [(164, (Vb v14))], []⟩ : St)) (fun (v14 : Bool) => spec_Good_j12 k v14 = some out) ?_ ?_
        ·rintro x17 hp
         replace hp : spec_Good_j12 k x17 = some out := hp
         unfold spec_Good_j12 at hp
         refine s0 (rd_assign' rfl) ?_
         refine nk hK52 ?_
         refine cx_retc' ?_
         replace hp := Option.some.inj hp
         subst hp
         refine tx_pick' (L' := [(2, (Vb x17))]) (H' := []) [] (sub_cons rfl sub_nil) (by decide) pick_nil ?_
         exact tx_ret1' Try.results27 rfl () (rv_tmp' rfl) (List.Sublist.refl _)
        intro K54 hK54
        rcases br_cases hp with ⟨h23, hp⟩ | ⟨h23, hp⟩
        ·refine sx_rd' (rd_field' (off := 4) rfl Try.underlying27 rfl info23 rfl) rfl rfl (wt_is' (wt_guard' rfl rfl rfl) (beq_tt h23)) ?_
         refine sx_rd' (rd_load' (i := 0) (o := 4) rfl ⟨rfl, rfl, rfl, rfl⟩ rfl flat23) rfl rfl (wt_is' (wt_guard' rfl rfl rfl) (beq_tt h23)) ?_
         refine sx_rd' (rd_len' rfl Try.underlying23) rfl rfl (wt_is' (wt_guard' rfl rfl rfl) (beq_tt h23)) ?_
         refine sx_rd' (rd_bin' rfl rfl eg_int ru_eql) rfl rfl (wt_is' (wt_guard' rfl rfl rfl) (beq_tt h23)) ?_
         refine s0 (rd_pick_true' rfl h23 rfl) ?_
         refine sx_nil' ?_
         show TX E K54 _
         exact tx_pick' [] (sub_cons rfl sub_nil) (by decide) pick_nil (hK54 (decide ((a0_4.length : Int) = 0)) hp)
        refine sx_skip' rfl rfl (wt_is' (wt_guard' rfl rfl rfl) (beq_ft h23)) ?_
        refine sx_skip' rfl rfl (wt_is' (wt_guard' rfl rfl rfl) (beq_ft h23)) ?_
        refine sx_skip' rfl rfl (wt_is' (wt_guard' rfl rfl rfl) (beq_ft h23)) ?_
        refine sx_skip' rfl rfl (wt_is' (wt_guard' rfl rfl rfl) (beq_ft h23)) ?_
        refine s0 (rd_pick_false' rfl h23 rfl) ?_
        refine sx_nil' ?_
        show TX E K54 _
        exact tx_pick' [] (sub_cons rfl sub_nil) (by decide) pick_nil (hK54 false hp)
       intro K53 hK53
       rcases br_cases hp with ⟨h22, hp⟩ | ⟨h22, hp⟩
       ·refine sx_rd' (rd_move' rfl) rfl rfl (wt_is' (wt_guard' rfl rfl rfl) (beq_tt h22)) ?_
        refine sx_rd' (rd_field' (off := 3) rfl Try.underlying27 rfl info22 rfl) rfl rfl (wt_is' (wt_guard' rfl rfl rfl) (beq_tt h22)) ?_
        refine sx_rd' (rd_load' (i := 0) (o := 3) rfl ⟨rfl, rfl, rfl, rfl⟩ rfl flat22) rfl rfl (wt_is' (wt_guard' rfl rfl rfl) (beq_tt h22)) ?_
        refine sx_rd' (rd_len' rfl Try.underlying22) rfl rfl (wt_is' (wt_guard' rfl rfl rfl) (beq_tt h22)) ?_
        refine sx_rd' (rd_bin' rfl rfl eg_int ru_eql) rfl rfl (wt_is' (wt_guard' rfl rfl rfl) (beq_tt h22)) ?_
        refine s0 (rd_pick_true' rfl h22 rfl) ?_
        refine sx_nil' ?_
        show TX E K53 _
        exact tx_pick' [0] (sub_cons rfl (sub_cons rfl sub_nil)) (by decide) (pick_cons rfl pick_nil) (hK53 (decide (v12.1 = (a0_3.length : Int))) hp)
       refine sx_skip' rfl rfl (wt_is' (wt_guard' rfl rfl rfl) (beq_ft h22)) ?_
       refine sx_skip' rfl rfl (wt_is' (wt_guard' rfl rfl rfl) (beq_ft h22)) ?_
       refine sx_skip' rfl rfl (wt_is' (wt_guard' rfl rfl rfl) (beq_ft h22)) ?_
       refine sx_skip' rfl rfl (wt_is' (wt_guard' rfl rfl rfl) (beq_ft h22)) ?_
       refine sx_skip' rfl rfl (wt_is' (wt_guard' rfl rfl rfl) (beq_ft h22)) ?_
       refine s0 (rd_pick_false' rfl h22 rfl) ?_
       refine sx_nil' ?_
       show TX E K53 _
       exact tx_pick' [0] (sub_cons rfl (sub_cons rfl sub_nil)) (by decide) (pick_cons rfl pick_nil) (hK53 false hp)
      replace hp := (br_f h17).symm.trans hp
      refine cx_skip' ?_
      show TX E K21 _
      refine tx_k' hK21 ?_
      refine cr fun K55 hK55 => ?_
      refine s0 (rd_assign' rfl) ?_
      refine nk hK55 ?_
      refine cx_retc' ?_
      replace hp := Option.some.inj hp
      subst hp
      refine tx_pick' (L' := [(2, (Vb false))]) (H' := []) [] (sub_cons rfl sub_nil) (by decide) pick_nil ?_
      exact tx_ret1' Try.results27 rfl () (rv_tmp' rfl) (List.Sublist.refl _)
     intro K29 hK29
     refine cr fun K30 hK30 => ?_
     refine s0 (rd_bin' rfl rfl eg_int ru_eql) ?_
     refine s0 (rd_assign' rfl) ?_
     refine nk hK30 ?_
     refine cx_cond' rfl (fun h13 => ?_) (fun h13 => ?_)
     ·replace hp := (br_t h13).symm.trans hp
      refine cx_skip' ?_
      show TX E K29 _
      exact tx_pick' [0] (sub_cons rfl (sub_cons rfl (sub_cons rfl (sub_cons rfl sub_nil)))) (by decide) (pick_cons rfl pick_nil) (hK29 (decide (a0_0 = 3)) hp)
     replace hp := (br_f h13).symm.trans hp
     refine cr fun K31 hK31 => ?_
     refine s0 (rd_bin' rfl rfl eg_int ru_eql) ?_
     refine s0 (rd_assign' rfl) ?_
     refine nk hK31 ?_
     refine cx_cond' rfl (fun h14 => ?_) (fun h14 => ?_)
     ·replace hp := (br_t h14).symm.trans hp
      refine cx_skip' ?_
      show TX E K29 _
      exact tx_pick' [0] (sub_cons rfl (sub_cons rfl (sub_cons rfl (sub_cons rfl sub_nil)))) (by decide) (pick_cons rfl pick_nil) (hK29 (decide (a0_0 = 4)) hp)
     replace hp := (br_f h14).symm.trans hp
     refine cx_region' ?_
     refine s0 (rd_bin' rfl rfl eg_int ru_eql) ?_
     refine s0 (rd_assign' rfl) ?_
     refine sx_nil' ?_
     show TX E K29 _
     exact tx_pick' [0] (sub_cons rfl (sub_cons rfl (sub_cons rfl (sub_cons rfl sub_nil)))) (by decide) (pick_cons rfl pick_nil) (hK29 (decide (a0_0 = 5)) hp)
    intro K26 hK26
    refine cr fun K27 hK27 => ?_
    refine s0 (rd_bin' rfl rfl eg_int ru_eql) ?_
    refine s0 (rd_assign' rfl) ?_
    refine nk hK27 ?_
    refine cx_cond' rfl (fun h11 => ?_) (fun h11 => ?_)
    ·replace hp := (br_t h11).symm.trans hp
     refine cx_skip' ?_
     show TX E K26 _
     exact tx_pick' [0] (sub_cons rfl (sub_cons rfl (sub_cons rfl (sub_cons rfl sub_nil)))) (by decide) (pick_cons rfl pick_nil) (hK26 (decide (a0_0 = 2)) hp)
    replace hp := (br_f h11).symm.trans hp
    refine cx_region' ?_
    refine s0 (rd_bin' rfl rfl eg_int ru_eql) ?_
    refine s0 (rd_assign' rfl) ?_
    refine sx_nil' ?_
    show TX E K26 _
    exact tx_pick' [0] (sub_cons rfl (sub_cons rfl (sub_cons rfl (sub_cons rfl sub_nil)))) (by decide) (pick_cons rfl pick_nil) (hK26 (decide (a0_0 = 8)) hp)
   intro K19 hK19
   rcases br_cases hp with ⟨h6, hp⟩ | ⟨h6, hp⟩
   ·refine sx_skip' rfl rfl (wt_is' (wt_guard' rfl rfl rfl) (beq_tf h6)) ?_
    refine sx_skip' rfl rfl (wt_is' (wt_guard' rfl rfl rfl) (beq_tf h6)) ?_
    refine sx_skip' rfl rfl (wt_is' (wt_guard' rfl rfl rfl) (beq_tf h6)) ?_
    refine sx_skip' rfl rfl (wt_is' (wt_guard' rfl rfl rfl) (beq_tf h6)) ?_
    refine sx_skip' rfl rfl (wt_is' (wt_guard' rfl rfl rfl) (beq_tf h6)) ?_
    refine sx_skip' rfl rfl (wt_undef' rfl rfl rfl) ?_
    refine sx_skip' rfl rfl (wt_undef' rfl rfl rfl) ?_
    refine sx_skip' rfl rfl (wt_undef' rfl rfl rfl) ?_
    refine sx_skip' rfl rfl (wt_is' (wt_guard' rfl rfl rfl) (beq_tf h6)) ?_
    refine s0 (rd_pick_true' rfl h6 rfl) ?_
    refine sx_nil' ?_
    show TX E K19 _
    exact tx_pick' [0] (sub_cons rfl (sub_cons rfl (sub_cons rfl sub_nil))) (by decide) (pick_cons rfl pick_nil) (hK19 true hp)
   refine sx_rd' (rd_field' (off := 5) rfl Try.underlying27 rfl info24 rfl) rfl rfl (wt_is' (wt_guard' rfl rfl rfl) (beq_ff h6)) ?_
   refine sx_rd' (rd_load' (i := 0) (o := 5) rfl ⟨rfl, rfl, rfl, rfl⟩ rfl flat24) rfl rfl (wt_is' (wt_guard' rfl rfl rfl) (beq_ff h6)) ?_
   refine sx_rd' (rd_len' rfl Try.underlying24) rfl rfl (wt_is' (wt_guard' rfl rfl rfl) (beq_ff h6)) ?_
   refine sx_rd' (rd_bin' rfl rfl eg_int ru_gtr) rfl rfl (wt_is' (wt_guard' rfl rfl rfl) (beq_ff h6)) ?_
   refine sx_rd' (rd_move' rfl) rfl rfl (wt_is' (wt_guard' rfl rfl rfl) (beq_ff h6)) ?_
   refine sx_cutn' 5 (fun (v4 : Bool) => (⟨165, [], [(1, (Vp q1)), (3, (Vi r15)), (85, (Vb v4))], [⟨.pointer (some q1), [(Vi a0_0), (Vi a0_1), (Vi a0_2), (Sl Kf a0_3), (Sl (Ki .i64) a0_4), (Sl (Kl (Ki .i64)) a0_5), (Sl KT27 a0_6)], 27, none⟩]⟩ : St)) (fun (v4 : Bool) => spec_Good_j4 k a0_0 a0_4 a0_3 r15 a0_5 v4 = some out) ?_ ?_
   ·rintro x4 hp
    replace hp : spec_Good_j4 k a0_0 a0_4 a0_3 r15 a0_5 x4 = some out := hp
    unfold spec_Good_j4 at hp
    refine sx_nil' ?_
    show TX E K19 _
    exact tx_pick' [0] (sub_cons rfl (sub_cons rfl (sub_cons rfl sub_nil))) (by decide) (pick_cons rfl pick_nil) (hK19 x4 hp)
   intro K18 hK18
   rcases br_cases hp with ⟨h7, hp⟩ | ⟨h7, hp⟩
   ·refine sx_rd' (rd_field0' rfl Try.underlying27 rfl info3 rfl) rfl rfl (wt_is' (wt_guard' rfl rfl rfl) (beq_tt h7)) ?_
    refine sx_rd' (rd_load' (i := 0) (o := 0) rfl ⟨rfl, rfl, rfl, rfl⟩ rfl flat3) rfl rfl (wt_is' (wt_guard' rfl rfl rfl) (beq_tt h7)) ?_
    refine sx_rd' (rd_bin' rfl rfl eg_int ru_neq) rfl rfl (wt_is' (wt_guard' rfl rfl rfl) (beq_tt h7)) ?_
    refine sx_rd' (rd_pick_true' rfl h7 rfl) rfl rfl (wt_is' (wt_guard' rfl rfl rfl) (beq_ff h6)) ?_
    refine s0 (rd_pick_false' rfl h6 rfl) ?_
    refine sx_nil' ?_
    show TX E K18 _
    exact tx_pick' [0] (sub_cons rfl (sub_cons rfl (sub_cons rfl sub_nil))) (by decide) (pick_cons rfl pick_nil) (hK18 (!decide (a0_0 = 6)) hp)
   refine sx_skip' rfl rfl (wt_is' (wt_guard' rfl rfl rfl) (beq_ft h7)) ?_
   refine sx_skip' rfl rfl (wt_is' (wt_guard' rfl rfl rfl) (beq_ft h7)) ?_
   refine sx_skip' rfl rfl (wt_is' (wt_guard' rfl rfl rfl) (beq_ft h7)) ?_
   refine sx_rd' (rd_pick_false' rfl h7 rfl) rfl rfl (wt_is' (wt_guard' rfl rfl rfl) (beq_ff h6)) ?_
   refine s0 (rd_pick_false' rfl h6 rfl) ?_
   refine sx_nil' ?_
   show TX E K18 _
   exact tx_pick' [0] (sub_cons rfl (sub_cons rfl (sub_cons rfl sub_nil))) (by decide) (pick_cons rfl pick_nil) (hK18 false hp)
  intro K17 hK17
  rcases br_cases hp with ⟨h5, hp⟩ | ⟨h5, hp⟩
  ·refine sx_skip' rfl rfl (wt_is' (wt_guard' rfl rfl rfl) (beq_tf h5)) ?_
   refine sx_skip' rfl rfl (wt_is' (wt_guard' rfl rfl rfl) (beq_tf h5)) ?_
   refine sx_skip' rfl rfl (wt_is' (wt_guard' rfl rfl rfl) (beq_tf h5)) ?_
   refine sx_skip' rfl rfl (wt_is' (wt_guard' rfl rfl rfl) (beq_tf h5)) ?_
   refine s0 (rd_pick_true' rfl h5 rfl) ?_
   refine sx_nil' ?_
   show TX E K17 _
   exact tx_pick' [0] (sub_cons rfl (sub_cons rfl (sub_cons rfl sub_nil))) (by decide) (pick_cons rfl pick_nil) (hK17 true hp)
  refine sx_rd' (rd_field' (off := 6) rfl Try.underlying27 rfl info25 rfl) rfl rfl (wt_is' (wt_guard' rfl rfl rfl) (beq_ff h5)) ?_
  refine sx_rd' (rd_load' (i := 0) (o := 6) rfl ⟨rfl, rfl, rfl, rfl⟩ rfl flat25) rfl rfl (wt_is' (wt_guard' rfl rfl rfl) (beq_ff h5)) ?_
  refine sx_rd' (rd_len' rfl Try.underlying25) rfl rfl (wt_is' (wt_guard' rfl rfl rfl) (beq_ff h5)) ?_
  refine sx_rd' (rd_bin' rfl rfl eg_int ru_gtr) rfl rfl (wt_is' (wt_guard' rfl rfl rfl) (beq_ff h5)) ?_
  refine s0 (rd_pick_false' rfl h5 rfl) ?_
  refine sx_nil' ?_
  show TX E K17 _
  exact tx_pick' [0] (sub_cons rfl (sub_cons rfl (sub_cons rfl sub_nil))) (by decide) (pick_cons rfl pick_nil) (hK17 (decide (0 < (a0_6.length : Int))) hp)
 intro K16 hK16
 rcases br_cases hp with ⟨h4, hp⟩ | ⟨h4, hp⟩
 ·refine sx_skip' rfl rfl (wt_is' (wt_guard' rfl rfl rfl) (beq_tf h4)) ?_
  refine sx_skip' rfl rfl (wt_is' (wt_guard' rfl rfl rfl) (beq_tf h4)) ?_
  refine sx_skip' rfl rfl (wt_is' (wt_guard' rfl rfl rfl) (beq_tf h4)) ?_
  refine sx_skip' rfl rfl (wt_is' (wt_guard' rfl rfl rfl) (beq_tf h4)) ?_
  refine sx_skip' rfl rfl (wt_is' (wt_guard' rfl rfl rfl) (beq_tf h4)) ?_
  refine sx_skip' rfl rfl (wt_is' (wt_guard' rfl rfl rfl) (beq_tf h4)) ?_
  refine s0 (rd_pick_true' rfl h4 rfl) ?_
  refine sx_nil' ?_
  show TX E K16 _
  exact tx_pick' [0] (sub_cons rfl (sub_cons rfl (sub_cons rfl sub_nil))) (by decide) (pick_cons rfl pick_nil) (hK16 true hp)
 refine sx_rd' (rd_field' (off := 3) rfl Try.underlying27 rfl info22 rfl) rfl rfl (wt_is' (wt_guard' rfl rfl rfl) (beq_ff h4)) ?_
 refine sx_rd' (rd_load' (i := 0) (o := 3) rfl ⟨rfl, rfl, rfl, rfl⟩ rfl flat22) rfl rfl (wt_is' (wt_guard' rfl rfl rfl) (beq_ff h4)) ?_
 refine sx_rd' (rd_len' rfl Try.underlying22) rfl rfl (wt_is' (wt_guard' rfl rfl rfl) (beq_ff h4)) ?_
 refine sx_rd' (rd_move' rfl) rfl rfl (wt_is' (wt_guard' rfl rfl rfl) (beq_ff h4)) ?_
 obtain ⟨r66, hr66, hp⟩ := bind_some hp
 refine sx_rd' (rd_bin' rfl rfl eg_int (ru_rem hr66)) rfl rfl (wt_is' (wt_guard' rfl rfl rfl) (beq_ff h4)) ?_
 refine sx_rd' (rd_bin' rfl rfl eg_int ru_neq) rfl rfl (wt_is' (wt_guard' rfl rfl rfl) (beq_ff h4)) ?_
 refine s0 (rd_pick_false' rfl h4 rfl) ?_
 refine sx_nil' ?_
 show TX E K16 _
 exact tx_pick' [0] (sub_cons rfl (sub_cons rfl (sub_cons rfl sub_nil))) (by decide) (pick_cons rfl pick_nil) (hK16 (!decide (r66 = 0)) hp)
theorem spec_Good_simA : ∀ (k : Nat)  (a0_0 : Int) (a0_1 : Int) (a0_2 : Int) (a0_3 : List Nat) (a0_4 : List Int) (a0_5 : List (List Int)) (a0_6 : List T27) (out : Bool), spec_Good k a0_0 a0_1 a0_2 a0_3 a0_4 a0_5 a0_6 = some out → Sx.Fn Try.prog 27 [(Ag [(Vi a0_0), (Vi a0_1), (Vi a0_2), (Sl Kf a0_3), (Sl (Ki .i64) a0_4), (Sl (Kl (Ki .i64)) a0_5), (Sl KT27 a0_6)])] [] (fun w : Unit => (Vb out)) (fun w => []) := by
 intro k
 induction k with
 | zero => intro a0_0 a0_1 a0_2 a0_3 a0_4 a0_5 a0_6 out hp; cases hp
 | succ k ih => intro a0_0 a0_1 a0_2 a0_3 a0_4 a0_5 a0_6 out hp; exact spec_Good_b_sim ih a0_0 a0_1 a0_2 a0_3 a0_4 a0_5 a0_6 hp
theorem spec_Good_sim {k : Nat}  (a0_0 : Int) (a0_1 : Int) (a0_2 : Int) (a0_3 : List Nat) (a0_4 : List Int) (a0_5 : List (List Int)) (a0_6 : List T27) {out : Bool} (hp : spec_Good k a0_0 a0_1 a0_2 a0_3 a0_4 a0_5 a0_6 = some out) : Sx.Fn Try.prog 27 [(Ag [(Vi a0_0), (Vi a0_1), (Vi a0_2), (Sl Kf a0_3), (Sl (Ki .i64) a0_4), (Sl (Kl (Ki .i64)) a0_5), (Sl KT27 a0_6)])] [] (fun w : Unit => (Vb out)) (fun w => []) := spec_Good_simA k a0_0 a0_1 a0_2 a0_3 a0_4 a0_5 a0_6 out hp

def laws_gGood_l1s (a0 : List T27) (k : Nat) (rec1 : Int → Option (Unit ⊕ Unit)) (x1 : Int) : Option (Unit ⊕ Unit) :=
 br (decide (x1 < (a0.length : Int)))
  ((idx a0 x1) >>= fun r12 =>
  (spec_Good k r12.f0 r12.f1 r12.f2 r12.f3 r12.f4 r12.f5 r12.f6) >>= fun r15 =>
  br (!r15)
   (some (.inl ()))
   (rec1 (iadd .i64 x1 1)))
  (some (.inr ()))
def laws_gGood_l1 (a0 : List T27) : Nat → Int → Option (Unit ⊕ Unit)
 | 0, _ => none
 | k + 1, v => laws_gGood_l1s a0 k (laws_gGood_l1 a0 k) v
def laws_gGood (k : Nat) (a0 : List T27) : Option (Bool) :=
 (laws_gSmall k a0) >>= fun r6 =>
 br (!r6)
  (some false)
  ((laws_gGood_l1 a0 k 0) >>= fun y1 => match y1 with
   | (.inl v2) =>
    (some false)
   | (.inr v3) =>
    (some true))

theorem laws_gGood_sim {k : Nat}  (a0 : List T27) {out : Bool} (hp : laws_gGood k a0 = some out) : Sx.Fn Try.prog 8 [(Sl KT27 a0)] [] (fun w : Unit => (Vb out)) (fun w => []) := by
 unfold laws_gGood at hp
 refine fn_of Try.func8 rfl Try.ntmps8 rfl fun E hM => ?_
 refine cr fun K1 hK1 => ?_
 refine s0 (rd_assign' rfl) ?_
 refine nk hK1 ?_
 refine cx_seq' fun K2 hK2 => ?_
 refine cr fun K3 hK3 => ?_
 refine s0 (rd_move' rfl) ?_
 obtain ⟨r6, hr6, hp⟩ := bind_some hp
 refine sx_ox' (ox_calln' (ent_fn' Try.func26 isn26 rfl rfl) (laws_gSmall_sim _ hr6 : Sx.Fn Try.prog 26 [(Sl KT27 a0)] [] (fun x : Unit => (Vb r6)) (fun x => [])) (Hn := fun x : Unit => []) (fun _ => rfl) rfl rfl) (wt_none' rfl) fun ⟨⟩ => ?_
 refine s0 (rd_un' rfl ru_not) ?_
 refine nk hK3 ?_
 refine cx_cond' rfl (fun h1 => ?_) (fun h1 => ?_)
 ·replace hp := (br_t h1).symm.trans hp
  refine cr fun K4 hK4 => ?_
  refine s0 (rd_assign' rfl) ?_
  refine nk hK4 ?_
  refine cx_retc' ?_
  replace hp := Option.some.inj hp
  subst hp
  refine tx_pick' (L' := [(2, (Vb false))]) (H' := []) [] (sub_cons rfl sub_nil) (by decide) pick_nil ?_
  exact tx_ret1' Try.results8 rfl () (rv_tmp' rfl) (List.Sublist.refl _)
 replace hp := (br_f h1).symm.trans hp
 refine cx_skip' ?_
 show TX E K2 _
 refine tx_k' hK2 ?_
 refine cx_seq' fun K5 hK5 => ?_
 refine cr fun K6 hK6 => ?_
 refine s0 (rd_move' rfl) ?_
 refine s0 (rd_len' rfl Try.underlying25) ?_
 refine s0 (rd_move' rfl) ?_
 refine nk hK6 ?_
 refine cx_block' ?_
 obtain ⟨y1, hy1, hp⟩ := bind_some hp
 refine cx_loopg' (F := laws_gGood_l1 a0) (G := fun k R v => laws_gGood_l1s a0 k R v) (x := 0) (gh := ()) (fun (v1 : Int) (w1 : Unit) => (⟨18, [], [(8, (Sl KT27 a0)), (9, (Vi (a0.length : Int))), (10, (Vi v1))], []⟩ : St)) (fun (y : Unit ⊕ Unit) => match y with | (.inl v2) => Zg E Exit.ret (fun (w2 : Unit) => (⟨18, [], [(2, (Vb false))], []⟩ : St)) | (.inr v3) => Zg E (Exit.exit 0) (fun (w3 : Unit) => (⟨18, [], [], []⟩ : St))) (fun _ => rfl) (fun _ _ => rfl) ?_ hy1 (tx_to' rfl [] (sub_cons rfl (sub_cons rfl (sub_cons rfl sub_nil))) (by decide) pick_nil) ?_
 ·clear hp hy1
  clear y1
  intro k rec1 KY1 ih1
  rintro x1 ⟨⟩ y1 hp
  replace hp : laws_gGood_l1s a0 k rec1 x1 = some y1 := hp
  unfold laws_gGood_l1s at hp
  refine cr fun K13 hK13 => ?_
  refine s0 (rd_bin' rfl rfl eg_int ru_lss) ?_
  refine nk hK13 ?_
  refine cx_seq' fun K14 hK14 => ?_
  refine cx_cond' rfl (fun h5 => ?_) (fun h5 => ?_)
  ·replace hp := (br_t h5).symm.trans hp
   refine cx_skip' ?_
   show TX E K14 _
   refine tx_k' hK14 ?_
   refine cx_seq' fun K15 hK15 => ?_
   refine cx_block' ?_
   refine cr fun K16 hK16 => ?_
   obtain ⟨r12, hr12, hp⟩ := bind_some hp
   refine s0 (rd_eq' (congrArg Pt (KT27_enc r12)) (rd_at' (K := KT27) rfl rfl hr12 Try.underlying25 info27)) ?_
   refine s0 (rd_load_pt_agg' (nn := 7) rfl rfl agg27 (l' := [(Vi r12.f0), (Vi r12.f1), (Vi r12.f2), (Sl Kf r12.f3), (Sl (Ki .i64) r12.f4), (Sl (Kl (Ki .i64)) r12.f5), (Sl KT27 r12.f6)]) rfl) ?_
   refine sx_ox' (ox_alloc' info27 rfl rfl rfl rfl (l := [(Vi 0), (Vi 0), (Vi 0), Vn, Vn, Vn, Vn]) rfl) (wt_none' rfl) fun q4 => ?_
   refine sx_ox' (ox_store' (i := 0) (o := 0) rfl rfl (lv_ag _) ⟨rfl, rfl, rfl, rfl⟩ rfl info27 rfl (H' := [⟨.pointer (some q4), [(Vi r12.f0), (Vi r12.f1), (Vi r12.f2), (Sl Kf r12.f3), (Sl (Ki .i64) r12.f4), (Sl (Kl (Ki .i64)) r12.f5), (Sl KT27 r12.f6)], 27, none⟩]) rfl) (wt_none' rfl) fun _ => ?_
   refine nk hK16 ?_
   refine cr fun K17 hK17 => ?_
   refine s0 (rd_load_agg' (i := 0) (o := 0) (nn := 7) rfl ⟨rfl, rfl, rfl, rfl⟩ rfl agg27 (l' := [(Vi r12.f0), (Vi r12.f1), (Vi r12.f2), (Sl Kf r12.f3), (Sl (Ki .i64) r12.f4), (Sl (Kl (Ki .i64)) r12.f5), (Sl KT27 r12.f6)]) rfl) ?_
   obtain ⟨r15, hr15, hp⟩ := bind_some hp
   refine sx_ox' (ox_calln' (ent_fn' Try.func27 isn27 rfl rfl) (spec_Good_sim _ _ _ _ _ _ _ hr15 : Sx.Fn Try.prog 27 [(Ag [(Vi r12.f0), (Vi r12.f1), (Vi r12.f2), (Sl Kf r12.f3), (Sl (Ki .i64) r12.f4), (Sl (Kl (Ki .i64)) r12.f5), (Sl KT27 r12.f6)])] [] (fun x : Unit => (Vb r15)) (fun x => [])) (Hn := fun x : Unit => [⟨.pointer (some q4), [(Vi r12.f0), (Vi r12.f1), (Vi r12.f2), (Sl Kf r12.f3), (Sl (Ki .i64) r12.f4), (Sl (Kl (Ki .i64)) r12.f5), (Sl KT27 r12.f6)], 27, none⟩]) (fun _ => rfl) rfl rfl) (wt_none' rfl) fun ⟨⟩ => ?_
   refine s0 (rd_un' rfl ru_not) ?_
   refine nk hK17 ?_
   refine cx_cond' rfl (fun h6 => ?_) (fun h6 => ?_)
   ·replace hp := (br_t h6).symm.trans hp
    refine cr fun K18 hK18 => ?_
    refine s0 (rd_assign' rfl) ?_
    refine nk hK18 ?_
    refine cx_retc' ?_
    replace hp := Option.some.inj hp
    subst hp
    show TX E (Zg E Exit.ret _ Exit.ret) _
    exact tx_zend' () rfl [] (sub_cons rfl sub_nil) (by decide) pick_nil
   replace hp := (br_f h6).symm.trans hp
   refine cx_skip' ?_
   show TX E K15 _
   refine tx_k' hK15 ?_
   refine cx_region' ?_
   refine s0 (rd_bin' rfl rfl eg_int ru_add) ?_
   refine s0 (rd_move' rfl) ?_
   refine sx_nil' ?_
   show TX E (KY1 _) _
   exact tx_pick' [] (sub_cons rfl (sub_cons rfl (sub_cons rfl sub_nil))) (by decide) pick_nil (ih1 (iadd .i64 x1 1) () _ hp)
  replace hp := (br_f h5).symm.trans hp
  refine cx_exit' ?_
  replace hp := Option.some.inj hp
  subst hp
  show TX E (Zg E (Exit.exit 0) _ (Exit.exit 0)) _
  exact tx_zend' () rfl [] sub_nil (by decide) pick_nil
 rcases y1 with v2 | v3
 ·dsimp only at hp
  refine zg_out fun w2 => ?_
  replace hp := Option.some.inj hp
  subst hp
  refine tx_pick' (L' := [(2, (Vb false))]) (H' := []) [] (sub_cons rfl sub_nil) (by decide) pick_nil ?_
  exact tx_ret1' Try.results8 rfl () (rv_tmp' rfl) (List.Sublist.refl _)
 dsimp only at hp
 refine zg_out fun w3 => ?_
 show TX E K5 _
 refine tx_k' hK5 ?_
 refine cr fun K19 hK19 => ?_
 refine s0 (rd_assign' rfl) ?_
 refine nk hK19 ?_
 refine cx_retc' ?_
 replace hp := Option.some.inj hp
 subst hp
 refine tx_pick' (L' := [(2, (Vb true))]) (H' := []) [] (sub_cons rfl sub_nil) (by decide) pick_nil ?_
 exact tx_ret1' Try.results8 rfl () (rv_tmp' rfl) (List.Sublist.refl _)

def laws_gPlain_j1 (k : Nat) (x1 : Bool) : Option (Bool) :=
 some x1
def laws_gPlain (k : Nat) (a0_0 : Int) (a0_1 : Int) (a0_2 : Int) (a0_3 : List Nat) (a0_4 : List Int) (a0_5 : List (List Int)) (a0_6 : List T27) : Option (Bool) :=
 (laws_gGood k ([(T27.mk a0_0 a0_1 a0_2 a0_3 a0_4 a0_5 a0_6)])) >>= fun r5 =>
 br r5
  (laws_gPlain_j1 k (!decide (a0_0 = 7)))
  (laws_gPlain_j1 k false)

theorem laws_gPlain_sim {k : Nat}  (a0_0 : Int) (a0_1 : Int) (a0_2 : Int) (a0_3 : List Nat) (a0_4 : List Int) (a0_5 : List (List Int)) (a0_6 : List T27) {out : Bool} (hp : laws_gPlain k a0_0 a0_1 a0_2 a0_3 a0_4 a0_5 a0_6 = some out) : Sx.Fn Try.prog 49 [(Ag [(Vi a0_0), (Vi a0_1), (Vi a0_2), (Sl Kf a0_3), (Sl (Ki .i64) a0_4), (Sl (Kl (Ki .i64)) a0_5), (Sl KT27 a0_6)])] [] (fun w : Unit => (Vb out)) (fun w => []) := by
 unfold laws_gPlain at hp
 refine fn_of Try.func49 rfl Try.ntmps49 rfl fun E hM => ?_
 refine cr fun K1 hK1 => ?_
 refine sx_ox' (ox_box' rfl (lv_ag _) rfl rfl) (wt_none' rfl) fun q1 => ?_
 refine s0 (rd_assign' rfl) ?_
 refine nk hK1 ?_
 refine cr fun K2 hK2 => ?_
 refine s0 (rd_load_agg' (i := 0) (o := 0) (nn := 7) rfl ⟨rfl, rfl, rfl, rfl⟩ rfl agg27 (l' := [(Vi a0_0), (Vi a0_1), (Vi a0_2), (Sl Kf a0_3), (Sl (Ki .i64) a0_4), (Sl (Kl (Ki .i64)) a0_5), (Sl KT27 a0_6)]) rfl) ?_
 refine sx_ox' (ox_rowlit' (K := KT27) (xs := [(T27.mk a0_0 a0_1 a0_2 a0_3 a0_4 a0_5 a0_6)]) (qs := [(0, [(Vi a0_0), (Vi a0_1), (Vi a0_2), (Sl Kf a0_3), (Sl (Ki .i64) a0_4), (Sl (Kl (Ki .i64)) a0_5), (Sl KT27 a0_6)])]) ⟨rfl, ⟨_, rfl, (lv_ag _)⟩, trivial⟩ Try.underlying25 info27 rfl rfl rfl rfl rfl (by simp only [List.flatMap_cons, List.flatMap_nil, KT27_enc, List.append_nil]; kernel_rfl) rfl rfl rfl) (wt_none' rfl) fun g4 => ?_
 obtain ⟨r5, hr5, hp⟩ := bind_some hp
 refine sx_ox' (ox_brw' (frz_row 0 [(4, (Vl (Vs g4)), (Sl KT27 ([(T27.mk a0_0 a0_1 a0_2 a0_3 a0_4 a0_5 a0_6)])))] (K := KT27) (xs := [(T27.mk a0_0 a0_1 a0_2 a0_3 a0_4 a0_5 a0_6)]) (by decide) rfl ⟨⟨rfl, frz_it⟩, trivial⟩ (H' := [⟨.pointer (some q1), [(Vi a0_0), (Vi a0_1), (Vi a0_2), (Sl Kf a0_3), (Sl (Ki .i64) a0_4), (Sl (Kl (Ki .i64)) a0_5), (Sl KT27 a0_6)], 27, none⟩]) frzH_refl) (ent_fn' Try.func8 isn8 rfl rfl) (laws_gGood_sim _ hr5 : Sx.Fn Try.prog 8 [(Sl KT27 ([(T27.mk a0_0 a0_1 a0_2 a0_3 a0_4 a0_5 a0_6)]))] [] (fun x : Unit => (Vb r5)) (fun x => [])) pu_vl rfl rfl) (wt_none' rfl) fun ⟨⟩ => ?_
 refine s0 (rd_move' rfl) ?_
 refine sx_cutn' 4 (fun (v1 : Bool) => (⟨11, [], [(10, (Vb v1))], []⟩ : St)) (fun (v1 : Bool) => laws_gPlain_j1 k v1 = some out) ?_ ?_
 ·rintro x1 hp
  replace hp : laws_gPlain_j1 k x1 = some out := hp
  unfold laws_gPlain_j1 at hp
  refine s0 (rd_assign' rfl) ?_
  refine nk hK2 ?_
  refine cx_retc' ?_
  replace hp := Option.some.inj hp
  subst hp
  refine tx_pick' (L' := [(2, (Vb x1))]) (H' := []) [] (sub_cons rfl sub_nil) (by decide) pick_nil ?_
  exact tx_ret1' Try.results49 rfl () (rv_tmp' rfl) (List.Sublist.refl _)
 intro K3 hK3
 rcases br_cases hp with ⟨h1, hp⟩ | ⟨h1, hp⟩
 ·refine sx_rd' (rd_field0' rfl Try.underlying27 rfl info3 rfl) rfl rfl (wt_is' (wt_guard' rfl rfl rfl) (beq_tt h1)) ?_
  refine sx_rd' (rd_load' (i := 1) (o := 0) rfl ⟨rfl, rfl, rfl, rfl⟩ rfl flat3) rfl rfl (wt_is' (wt_guard' rfl rfl rfl) (beq_tt h1)) ?_
  refine sx_rd' (rd_bin' rfl rfl eg_int ru_neq) rfl rfl (wt_is' (wt_guard' rfl rfl rfl) (beq_tt h1)) ?_
  refine s0 (rd_pick_true' rfl h1 rfl) ?_
  refine sx_nil' ?_
  show TX E K3 _
  exact tx_pick' [] (sub_cons rfl sub_nil) (by decide) pick_nil (hK3 (!decide (a0_0 = 7)) hp)
 refine sx_skip' rfl rfl (wt_is' (wt_guard' rfl rfl rfl) (beq_ft h1)) ?_
 refine sx_skip' rfl rfl (wt_is' (wt_guard' rfl rfl rfl) (beq_ft h1)) ?_
 refine sx_skip' rfl rfl (wt_is' (wt_guard' rfl rfl rfl) (beq_ft h1)) ?_
 refine s0 (rd_pick_false' rfl h1 rfl) ?_
 refine sx_nil' ?_
 show TX E K3 _
 exact tx_pick' [] (sub_cons rfl sub_nil) (by decide) pick_nil (hK3 false hp)

def laws_gEach_l1s (a0_3 : List Nat) (k : Nat) (rec1 : Int → Option (Unit ⊕ Unit)) (x1 : Int) : Option (Unit ⊕ Unit) :=
 br (decide (x1 < (a0_3.length : Int)))
  ((idx a0_3 x1) >>= fun r14 =>
  (laws_gNumber k r14) >>= fun r18 =>
  br (!r18)
   (some (.inl ()))
   (rec1 (iadd .i64 x1 1)))
  (some (.inr ()))
def laws_gEach_l1 (a0_3 : List Nat) : Nat → Int → Option (Unit ⊕ Unit)
 | 0, _ => none
 | k + 1, v => laws_gEach_l1s a0_3 k (laws_gEach_l1 a0_3 k) v
def laws_gEach_l2s (a0_6 : List T27) (recf : Int → Int → Int → (List Nat) → (List Int) → (List (List Int)) → (List T27) → Option (Bool)) (k : Nat) (rec2 : Int → Option (Unit ⊕ Unit)) (x3 : Int) : Option (Unit ⊕ Unit) :=
 br (decide (x3 < (a0_6.length : Int)))
  ((idx a0_6 x3) >>= fun r26 =>
  (recf r26.f0 r26.f1 r26.f2 r26.f3 r26.f4 r26.f5 r26.f6) >>= fun r30 =>
  br (!r30)
   (some (.inl ()))
   (rec2 (iadd .i64 x3 1)))
  (some (.inr ()))
def laws_gEach_l2 (a0_6 : List T27) (recf : Int → Int → Int → (List Nat) → (List Int) → (List (List Int)) → (List T27) → Option (Bool)) : Nat → Int → Option (Unit ⊕ Unit)
 | 0, _ => none
 | k + 1, v => laws_gEach_l2s a0_6 recf k (laws_gEach_l2 a0_6 recf k) v
def laws_gEach_b (recf : Int → Int → Int → (List Nat) → (List Int) → (List (List Int)) → (List T27) → Option (Bool)) (k : Nat) (a0_0 : Int) (a0_1 : Int) (a0_2 : Int) (a0_3 : List Nat) (a0_4 : List Int) (a0_5 : List (List Int)) (a0_6 : List T27) : Option (Bool) :=
 (laws_gEach_l1 a0_3 k 0) >>= fun y1 => match y1 with
  | (.inl v2) =>
   (some false)
  | (.inr v3) =>
   ((laws_gEach_l2 a0_6 recf k 0) >>= fun y2 => match y2 with
    | (.inl v6) =>
     (some false)
    | (.inr v7) =>
     (some true))
def laws_gEach : Nat → Int → Int → Int → (List Nat) → (List Int) → (List (List Int)) → (List T27) → Option (Bool)
 | 0 => fun _ _ _ _ _ _ _ => none
 | k + 1 => fun a0_0 a0_1 a0_2 a0_3 a0_4 a0_5 a0_6 => laws_gEach_b (laws_gEach k) k a0_0 a0_1 a0_2 a0_3 a0_4 a0_5 a0_6

theorem laws_gEach_b_sim {recf : Int → Int → Int → (List Nat) → (List Int) → (List (List Int)) → (List T27) → Option (Bool)} (hrec : ∀  (a0_0 : Int) (a0_1 : Int) (a0_2 : Int) (a0_3 : List Nat) (a0_4 : List Int) (a0_5 : List (List Int)) (a0_6 : List T27) (out : Bool), recf a0_0 a0_1 a0_2 a0_3 a0_4 a0_5 a0_6 = some out → Sx.Fn Try.prog 51 [(Ag [(Vi a0_0), (Vi a0_1), (Vi a0_2), (Sl Kf a0_3), (Sl (Ki .i64) a0_4), (Sl (Kl (Ki .i64)) a0_5), (Sl KT27 a0_6)]), (Vl (.func (.func 48) #[] #[]))] [] (fun w : Unit => (Vb out)) (fun w => [])) {k : Nat}  (a0_0 : Int) (a0_1 : Int) (a0_2 : Int) (a0_3 : List Nat) (a0_4 : List Int) (a0_5 : List (List Int)) (a0_6 : List T27) {out : Bool} (hp : laws_gEach_b recf k a0_0 a0_1 a0_2 a0_3 a0_4 a0_5 a0_6 = some out) : Sx.Fn Try.prog 51 [(Ag [(Vi a0_0), (Vi a0_1), (Vi a0_2), (Sl Kf a0_3), (Sl (Ki .i64) a0_4), (Sl (Kl (Ki .i64)) a0_5), (Sl KT27 a0_6)]), (Vl (.func (.func 48) #[] #[]))] [] (fun w : Unit => (Vb out)) (fun w => []) := by
 unfold laws_gEach_b at hp
 refine fn_of Try.func51 rfl Try.ntmps51 rfl fun E hM => ?_
 refine cr fun K1 hK1 => ?_
 refine sx_ox' (ox_box' rfl (lv_ag _) rfl rfl) (wt_none' rfl) fun q2 => ?_
 refine s0 (rd_assign' rfl) ?_
 refine nk hK1 ?_
 refine cx_seq' fun K2 hK2 => ?_
 refine cr fun K3 hK3 => ?_
 refine s0 (rd_field' (off := 3) rfl Try.underlying27 rfl info22 rfl) ?_
 refine s0 (rd_load' (i := 0) (o := 3) rfl ⟨rfl, rfl, rfl, rfl⟩ rfl flat22) ?_
 refine s0 (rd_len' rfl Try.underlying22) ?_
 refine s0 (rd_move' rfl) ?_
 refine nk hK3 ?_
 refine cx_block' ?_
 obtain ⟨y1, hy1, hp⟩ := bind_some hp
 refine cx_loopg' (F := laws_gEach_l1 a0_3) (G := fun k R v => laws_gEach_l1s a0_3 k R v) (x := 0) (gh := ()) (fun (v1 : Int) (w1 : Unit) => (⟨33, [], [(1, (Vl (.func (.func 48) #[] #[]))), (2, (Vp q2)), (10, (Sl Kf a0_3)), (11, (Vi (a0_3.length : Int))), (12, (Vi v1))], [⟨.pointer (some q2), [(Vi a0_0), (Vi a0_1), (Vi a0_2), (Sl Kf a0_3), (Sl (Ki .i64) a0_4), (Sl (Kl (Ki .i64)) a0_5), (Sl KT27 a0_6)], 27, none⟩]⟩ : St)) (fun (y : Unit ⊕ Unit) => match y with | (.inl v2) => Zg E Exit.ret (fun (w2 : Unit) => (⟨33, [], [(4, (Vb false))], []⟩ : St)) | (.inr v3) => Zg E (Exit.exit 0) (fun (w3 : Unit) => (⟨33, [], [(1, (Vl (.func (.func 48) #[] #[]))), (2, (Vp q2))], [⟨.pointer (some q2), [(Vi a0_0), (Vi a0_1), (Vi a0_2), (Sl Kf a0_3), (Sl (Ki .i64) a0_4), (Sl (Kl (Ki .i64)) a0_5), (Sl KT27 a0_6)], 27, none⟩]⟩ : St))) (fun _ => rfl) (fun _ _ => rfl) ?_ hy1 (tx_to' rfl [0] (sub_cons rfl (sub_cons rfl (sub_cons rfl (sub_cons rfl (sub_cons rfl sub_nil))))) (by decide) (pick_cons rfl pick_nil)) ?_
 ·clear hp hy1
  clear y1
  intro k rec1 KY1 ih1
  rintro x1 ⟨⟩ y1 hp
  replace hp : laws_gEach_l1s a0_3 k rec1 x1 = some y1 := hp
  unfold laws_gEach_l1s at hp
  refine cr fun K10 hK10 => ?_
  refine s0 (rd_bin' rfl rfl eg_int ru_lss) ?_
  refine nk hK10 ?_
  refine cx_seq' fun K11 hK11 => ?_
  refine cx_cond' rfl (fun h4 => ?_) (fun h4 => ?_)
  ·replace hp := (br_t h4).symm.trans hp
   refine cx_skip' ?_
   show TX E K11 _
   refine tx_k' hK11 ?_
   refine cx_seq' fun K12 hK12 => ?_
   refine cx_block' ?_
   refine cr fun K13 hK13 => ?_
   obtain ⟨r14, hr14, hp⟩ := bind_some hp
   refine s0 (rd_at' (K := Kf) rfl rfl hr14 Try.underlying22 info32) ?_
   refine s0 (rd_load_pt' rfl rfl flat32) ?_
   refine s0 (rd_assign' rfl) ?_
   refine nk hK13 ?_
   refine cr fun K14 hK14 => ?_
   refine s0 (rd_move' rfl) ?_
   refine s0 (rd_move' rfl) ?_
   obtain ⟨r18, hr18, hp⟩ := bind_some hp
   refine sx_ox' (ox_calln' (ent_clo' (us := []) rfl Try.func48 isn48 rfl rfl) (laws_gNumber_sim _ hr18 : Sx.Fn Try.prog 48 [(Vg r14)] [] (fun x : Unit => (Vb r18)) (fun x => [])) (Hn := fun x : Unit => [⟨.pointer (some q2), [(Vi a0_0), (Vi a0_1), (Vi a0_2), (Sl Kf a0_3), (Sl (Ki .i64) a0_4), (Sl (Kl (Ki .i64)) a0_5), (Sl KT27 a0_6)], 27, none⟩]) (fun _ => rfl) rfl rfl) (wt_none' rfl) fun ⟨⟩ => ?_
   refine s0 (rd_un' rfl ru_not) ?_
   refine nk hK14 ?_
   refine cx_cond' rfl (fun h5 => ?_) (fun h5 => ?_)
   ·replace hp := (br_t h5).symm.trans hp
    refine cr fun K15 hK15 => ?_
    refine s0 (rd_assign' rfl) ?_
    refine nk hK15 ?_
    refine cx_retc' ?_
    replace hp := Option.some.inj hp
    subst hp
    show TX E (Zg E Exit.ret _ Exit.ret) _
    exact tx_zend' () rfl [] (sub_cons rfl sub_nil) (by decide) pick_nil
   replace hp := (br_f h5).symm.trans hp
   refine cx_skip' ?_
   show TX E K12 _
   refine tx_k' hK12 ?_
   refine cx_region' ?_
   refine s0 (rd_bin' rfl rfl eg_int ru_add) ?_
   refine s0 (rd_move' rfl) ?_
   refine sx_nil' ?_
   show TX E (KY1 _) _
   exact tx_pick' [0] (sub_cons rfl (sub_cons rfl (sub_cons rfl (sub_cons rfl (sub_cons rfl sub_nil))))) (by decide) (pick_cons rfl pick_nil) (ih1 (iadd .i64 x1 1) () _ hp)
  replace hp := (br_f h4).symm.trans hp
  refine cx_exit' ?_
  replace hp := Option.some.inj hp
  subst hp
  show TX E (Zg E (Exit.exit 0) _ (Exit.exit 0)) _
  exact tx_zend' () rfl [0] (sub_cons rfl (sub_cons rfl sub_nil)) (by decide) (pick_cons rfl pick_nil)
 rcases y1 with v2 | v3
 ·dsimp only at hp
  refine zg_out fun w2 => ?_
  replace hp := Option.some.inj hp
  subst hp
  refine tx_pick' (L' := [(4, (Vb false))]) (H' := []) [] (sub_cons rfl sub_nil) (by decide) pick_nil ?_
  exact tx_ret1' Try.results51 rfl () (rv_tmp' rfl) (List.Sublist.refl _)
 dsimp only at hp
 refine zg_out fun w3 => ?_
 show TX E K2 _
 refine tx_k' hK2 ?_
 refine cx_seq' fun K16 hK16 => ?_
 refine cr fun K17 hK17 => ?_
 refine s0 (rd_field' (off := 6) rfl Try.underlying27 rfl info25 rfl) ?_
 refine s0 (rd_load' (i := 0) (o := 6) rfl ⟨rfl, rfl, rfl, rfl⟩ rfl flat25) ?_
 refine s0 (rd_len' rfl Try.underlying25) ?_
 refine s0 (rd_move' rfl) ?_
 refine nk hK17 ?_
 refine cx_block' ?_
 obtain ⟨y2, hy2, hp⟩ := bind_some hp
 refine cx_loopg' (F := laws_gEach_l2 a0_6 recf) (G := fun k R v => laws_gEach_l2s a0_6 recf k R v) (x := 0) (gh := ()) (fun (v5 : Int) (w5 : Unit) => (⟨33, [], [(1, (Vl (.func (.func 48) #[] #[]))), (22, (Sl KT27 a0_6)), (23, (Vi (a0_6.length : Int))), (24, (Vi v5))], []⟩ : St)) (fun (y : Unit ⊕ Unit) => match y with | (.inl v6) => Zg E Exit.ret (fun (w6 : Unit) => (⟨33, [], [(4, (Vb false))], []⟩ : St)) | (.inr v7) => Zg E (Exit.exit 2) (fun (w7 : Unit) => (⟨33, [], [], []⟩ : St))) (fun _ => rfl) (fun _ _ => rfl) ?_ hy2 (tx_to' rfl [] (sub_cons rfl (sub_cons rfl (sub_cons rfl (sub_cons rfl sub_nil)))) (by decide) pick_nil) ?_
 ·clear hp hy2
  clear y2
  intro k rec2 KY2 ih2
  rintro x3 ⟨⟩ y2 hp
  replace hp : laws_gEach_l2s a0_6 recf k rec2 x3 = some y2 := hp
  unfold laws_gEach_l2s at hp
  refine cr fun K25 hK25 => ?_
  refine s0 (rd_bin' rfl rfl eg_int ru_lss) ?_
  refine nk hK25 ?_
  refine cx_seq' fun K26 hK26 => ?_
  refine cx_cond' rfl (fun h9 => ?_) (fun h9 => ?_)
  ·replace hp := (br_t h9).symm.trans hp
   refine cx_skip' ?_
   show TX E K26 _
   refine tx_k' hK26 ?_
   refine cx_seq' fun K27 hK27 => ?_
   refine cx_block' ?_
   refine cr fun K28 hK28 => ?_
   obtain ⟨r26, hr26, hp⟩ := bind_some hp
   refine s0 (rd_eq' (congrArg Pt (KT27_enc r26)) (rd_at' (K := KT27) rfl rfl hr26 Try.underlying25 info27)) ?_
   refine s0 (rd_load_pt_agg' (nn := 7) rfl rfl agg27 (l' := [(Vi r26.f0), (Vi r26.f1), (Vi r26.f2), (Sl Kf r26.f3), (Sl (Ki .i64) r26.f4), (Sl (Kl (Ki .i64)) r26.f5), (Sl KT27 r26.f6)]) rfl) ?_
   refine sx_ox' (ox_alloc' info27 rfl rfl rfl rfl (l := [(Vi 0), (Vi 0), (Vi 0), Vn, Vn, Vn, Vn]) rfl) (wt_none' rfl) fun q8 => ?_
   refine sx_ox' (ox_store' (i := 0) (o := 0) rfl rfl (lv_ag _) ⟨rfl, rfl, rfl, rfl⟩ rfl info27 rfl (H' := [⟨.pointer (some q8), [(Vi r26.f0), (Vi r26.f1), (Vi r26.f2), (Sl Kf r26.f3), (Sl (Ki .i64) r26.f4), (Sl (Kl (Ki .i64)) r26.f5), (Sl KT27 r26.f6)], 27, none⟩]) rfl) (wt_none' rfl) fun _ => ?_
   refine nk hK28 ?_
   refine cr fun K29 hK29 => ?_
   refine s0 (rd_load_agg' (i := 0) (o := 0) (nn := 7) rfl ⟨rfl, rfl, rfl, rfl⟩ rfl agg27 (l' := [(Vi r26.f0), (Vi r26.f1), (Vi r26.f2), (Sl Kf r26.f3), (Sl (Ki .i64) r26.f4), (Sl (Kl (Ki .i64)) r26.f5), (Sl KT27 r26.f6)]) rfl) ?_
   refine s0 (rd_move' rfl) ?_
   obtain ⟨r30, hr30, hp⟩ := bind_some hp
   refine sx_ox' (ox_calln' (ent_fn' Try.func51 isn51 rfl rfl) (hrec _ _ _ _ _ _ _ _ hr30 : Sx.Fn Try.prog 51 [(Ag [(Vi r26.f0), (Vi r26.f1), (Vi r26.f2), (Sl Kf r26.f3), (Sl (Ki .i64) r26.f4), (Sl (Kl (Ki .i64)) r26.f5), (Sl KT27 r26.f6)]), (Vl (.func (.func 48) #[] #[]))] [] (fun x : Unit => (Vb r30)) (fun x => [])) (Hn := fun x : Unit => [⟨.pointer (some q8), [(Vi r26.f0), (Vi r26.f1), (Vi r26.f2), (Sl Kf r26.f3), (Sl (Ki .i64) r26.f4), (Sl (Kl (Ki .i64)) r26.f5), (Sl KT27 r26.f6)], 27, none⟩]) (fun _ => rfl) rfl rfl) (wt_none' rfl) fun ⟨⟩ => ?_
   refine s0 (rd_un' rfl ru_not) ?_
   refine nk hK29 ?_
   refine cx_cond' rfl (fun h10 => ?_) (fun h10 => ?_)
   ·replace hp := (br_t h10).symm.trans hp
    refine cr fun K30 hK30 => ?_
    refine s0 (rd_assign' rfl) ?_
    refine nk hK30 ?_
    refine cx_retc' ?_
    replace hp := Option.some.inj hp
    subst hp
    show TX E (Zg E Exit.ret _ Exit.ret) _
    exact tx_zend' () rfl [] (sub_cons rfl sub_nil) (by decide) pick_nil
   replace hp := (br_f h10).symm.trans hp
   refine cx_skip' ?_
   show TX E K27 _
   refine tx_k' hK27 ?_
   refine cx_region' ?_
   refine s0 (rd_bin' rfl rfl eg_int ru_add) ?_
   refine s0 (rd_move' rfl) ?_
   refine sx_nil' ?_
   show TX E (KY2 _) _
   exact tx_pick' [] (sub_cons rfl (sub_cons rfl (sub_cons rfl (sub_cons rfl sub_nil)))) (by decide) pick_nil (ih2 (iadd .i64 x3 1) () _ hp)
  replace hp := (br_f h9).symm.trans hp
  refine cx_exit' ?_
  replace hp := Option.some.inj hp
  subst hp
  show TX E (Zg E (Exit.exit 2) _ (Exit.exit 2)) _
  exact tx_zend' () rfl [] sub_nil (by decide) pick_nil
 rcases y2 with v6 | v7
 ·dsimp only at hp
  refine zg_out fun w6 => ?_
  replace hp := Option.some.inj hp
  subst hp
  refine tx_pick' (L' := [(4, (Vb false))]) (H' := []) [] (sub_cons rfl sub_nil) (by decide) pick_nil ?_
  exact tx_ret1' Try.results51 rfl () (rv_tmp' rfl) (List.Sublist.refl _)
 dsimp only at hp
 refine zg_out fun w7 => ?_
 show TX E K16 _
 refine tx_k' hK16 ?_
 refine cr fun K23 hK23 => ?_
 refine s0 (rd_assign' rfl) ?_
 refine nk hK23 ?_
 refine cx_retc' ?_
 replace hp := Option.some.inj hp
 subst hp
 refine tx_pick' (L' := [(4, (Vb true))]) (H' := []) [] (sub_cons rfl sub_nil) (by decide) pick_nil ?_
 exact tx_ret1' Try.results51 rfl () (rv_tmp' rfl) (List.Sublist.refl _)
theorem laws_gEach_simA : ∀ (k : Nat)  (a0_0 : Int) (a0_1 : Int) (a0_2 : Int) (a0_3 : List Nat) (a0_4 : List Int) (a0_5 : List (List Int)) (a0_6 : List T27) (out : Bool), laws_gEach k a0_0 a0_1 a0_2 a0_3 a0_4 a0_5 a0_6 = some out → Sx.Fn Try.prog 51 [(Ag [(Vi a0_0), (Vi a0_1), (Vi a0_2), (Sl Kf a0_3), (Sl (Ki .i64) a0_4), (Sl (Kl (Ki .i64)) a0_5), (Sl KT27 a0_6)]), (Vl (.func (.func 48) #[] #[]))] [] (fun w : Unit => (Vb out)) (fun w => []) := by
 intro k
 induction k with
 | zero => intro a0_0 a0_1 a0_2 a0_3 a0_4 a0_5 a0_6 out hp; cases hp
 | succ k ih => intro a0_0 a0_1 a0_2 a0_3 a0_4 a0_5 a0_6 out hp; exact laws_gEach_b_sim ih a0_0 a0_1 a0_2 a0_3 a0_4 a0_5 a0_6 hp
theorem laws_gEach_sim {k : Nat}  (a0_0 : Int) (a0_1 : Int) (a0_2 : Int) (a0_3 : List Nat) (a0_4 : List Int) (a0_5 : List (List Int)) (a0_6 : List T27) {out : Bool} (hp : laws_gEach k a0_0 a0_1 a0_2 a0_3 a0_4 a0_5 a0_6 = some out) : Sx.Fn Try.prog 51 [(Ag [(Vi a0_0), (Vi a0_1), (Vi a0_2), (Sl Kf a0_3), (Sl (Ki .i64) a0_4), (Sl (Kl (Ki .i64)) a0_5), (Sl KT27 a0_6)]), (Vl (.func (.func 48) #[] #[]))] [] (fun w : Unit => (Vb out)) (fun w => []) := laws_gEach_simA k a0_0 a0_1 a0_2 a0_3 a0_4 a0_5 a0_6 out hp

def laws_bAdds_j4 (k : Nat) (rec1 : Int → Option (Unit ⊕ Unit)) (x5 : Int) (x4 : Bool) : Option (Unit ⊕ Unit) :=
 br x4
  (some (.inl ()))
  (rec1 (iadd .i64 x5 1))
def laws_bAdds_j3 (k : Nat) (rec1 : Int → Option (Unit ⊕ Unit)) (x5 : Int) (r9 : T27) (x3 : Bool) : Option (Unit ⊕ Unit) :=
 br x3
  (laws_bAdds_j4 k rec1 x5 true)
  ((laws_gEach k r9.f0 r9.f1 r9.f2 r9.f3 r9.f4 r9.f5 r9.f6) >>= fun r21 =>
  laws_bAdds_j4 k rec1 x5 (!r21))
def laws_bAdds_l1s (a0 : List T27) (k : Nat) (rec1 : Int → Option (Unit ⊕ Unit)) (x5 : Int) : Option (Unit ⊕ Unit) :=
 br (decide (x5 < (a0.length : Int)))
  ((idx a0 x5) >>= fun r9 =>
  (laws_gPlain k r9.f0 r9.f1 r9.f2 r9.f3 r9.f4 r9.f5 r9.f6) >>= fun r12 =>
  br (!r12)
   (laws_bAdds_j3 k rec1 x5 r9 true)
   ((laws_gLayouts k r9.f0 r9.f1 r9.f2 r9.f3 r9.f4 r9.f5 r9.f6 4) >>= fun r16 =>
   laws_bAdds_j3 k rec1 x5 r9 (!r16)))
  (some (.inr ()))
def laws_bAdds_l1 (a0 : List T27) : Nat → Int → Option (Unit ⊕ Unit)
 | 0, _ => none
 | k + 1, v => laws_bAdds_l1s a0 k (laws_bAdds_l1 a0 k) v
def laws_bAdds (k : Nat) (a0 : List T27) : Option (Bool) :=
 (laws_bAdds_l1 a0 k 0) >>= fun y1 => match y1 with
  | (.inl v6) =>
   (some false)
  | (.inr v7) =>
   ((laws_gSmall k a0) >>= fun r26 =>
   some r26)

theorem laws_bAdds_sim {k : Nat}  (a0 : List T27) {out : Bool} (hp : laws_bAdds k a0 = some out) : Sx.Fn Try.prog 22 [(Sl KT27 a0)] [] (fun w : Unit => (Vb out)) (fun w => []) := by
 unfold laws_bAdds at hp
 refine fn_of Try.func22 rfl Try.ntmps22 rfl fun E hM => ?_
 refine cr fun K1 hK1 => ?_
 refine s0 (rd_assign' rfl) ?_
 refine nk hK1 ?_
 refine cx_seq' fun K2 hK2 => ?_
 refine cr fun K3 hK3 => ?_
 refine s0 (rd_move' rfl) ?_
 refine s0 (rd_len' rfl Try.underlying25) ?_
 refine s0 (rd_move' rfl) ?_
 refine nk hK3 ?_
 refine cx_block' ?_
 obtain ⟨y1, hy1, hp⟩ := bind_some hp
 refine cx_loopg' (F := laws_bAdds_l1 a0) (G := fun k R v => laws_bAdds_l1s a0 k R v) (x := 0) (gh := ()) (fun (v3 : Int) (w3 : Unit) => (⟨27, [], [(0, (Sl KT27 a0)), (5, (Sl KT27 a0)), (6, (Vi (a0.length : Int))), (7, (Vi v3))], []⟩ : St)) (fun (y : Unit ⊕ Unit) => match y with | (.inl v6) => Zg E Exit.ret (fun (w6 : Unit) => (⟨27, [], [(2, (Vb false))], []⟩ : St)) | (.inr v7) => Zg E (Exit.exit 0) (fun (w7 : Unit) => (⟨27, [], [(0, (Sl KT27 a0))], []⟩ : St))) (fun _ => rfl) (fun _ _ => rfl) ?_ hy1 (tx_to' rfl [] (sub_cons rfl (sub_cons rfl (sub_cons rfl (sub_cons rfl sub_nil)))) (by decide) pick_nil) ?_
 ·clear hp hy1
  clear y1
  intro k rec1 KY1 ih1
  rintro x5 ⟨⟩ y1 hp
  replace hp : laws_bAdds_l1s a0 k rec1 x5 = some y1 := hp
  unfold laws_bAdds_l1s at hp
  refine cr fun K12 hK12 => ?_
  refine s0 (rd_bin' rfl rfl eg_int ru_lss) ?_
  refine nk hK12 ?_
  refine cx_seq' fun K13 hK13 => ?_
  refine cx_cond' rfl (fun h6 => ?_) (fun h6 => ?_)
  ·replace hp := (br_t h6).symm.trans hp
   refine cx_skip' ?_
   show TX E K13 _
   refine tx_k' hK13 ?_
   refine cx_seq' fun K14 hK14 => ?_
   refine cx_block' ?_
   refine cr fun K15 hK15 => ?_
   obtain ⟨r9, hr9, hp⟩ := bind_some hp
   refine s0 (rd_eq' (congrArg Pt (KT27_enc r9)) (rd_at' (K := KT27) rfl rfl hr9 Try.underlying25 info27)) ?_
   refine s0 (rd_load_pt_agg' (nn := 7) rfl rfl agg27 (l' := [(Vi r9.f0), (Vi r9.f1), (Vi r9.f2), (Sl Kf r9.f3), (Sl (Ki .i64) r9.f4), (Sl (Kl (Ki .i64)) r9.f5), (Sl KT27 r9.f6)]) rfl) ?_
   refine sx_ox' (ox_alloc' info27 rfl rfl rfl rfl (l := [(Vi 0), (Vi 0), (Vi 0), Vn, Vn, Vn, Vn]) rfl) (wt_none' rfl) fun q4 => ?_
   refine sx_ox' (ox_store' (i := 0) (o := 0) rfl rfl (lv_ag _) ⟨rfl, rfl, rfl, rfl⟩ rfl info27 rfl (H' := [⟨.pointer (some q4), [(Vi r9.f0), (Vi r9.f1), (Vi r9.f2), (Sl Kf r9.f3), (Sl (Ki .i64) r9.f4), (Sl (Kl (Ki .i64)) r9.f5), (Sl KT27 r9.f6)], 27, none⟩]) rfl) (wt_none' rfl) fun _ => ?_
   refine nk hK15 ?_
   refine cr fun K16 hK16 => ?_
   refine s0 (rd_load_agg' (i := 0) (o := 0) (nn := 7) rfl ⟨rfl, rfl, rfl, rfl⟩ rfl agg27 (l' := [(Vi r9.f0), (Vi r9.f1), (Vi r9.f2), (Sl Kf r9.f3), (Sl (Ki .i64) r9.f4), (Sl (Kl (Ki .i64)) r9.f5), (Sl KT27 r9.f6)]) rfl) ?_
   obtain ⟨r12, hr12, hp⟩ := bind_some hp
   refine sx_ox' (ox_calln' (ent_fn' Try.func49 isn49 rfl rfl) (laws_gPlain_sim _ _ _ _ _ _ _ hr12 : Sx.Fn Try.prog 49 [(Ag [(Vi r9.f0), (Vi r9.f1), (Vi r9.f2), (Sl Kf r9.f3), (Sl (Ki .i64) r9.f4), (Sl (Kl (Ki .i64)) r9.f5), (Sl KT27 r9.f6)])] [] (fun x : Unit => (Vb r12)) (fun x => [])) (Hn := fun x : Unit => [⟨.pointer (some q4), [(Vi r9.f0), (Vi r9.f1), (Vi r9.f2), (Sl Kf r9.f3), (Sl (Ki .i64) r9.f4), (Sl (Kl (Ki .i64)) r9.f5), (Sl KT27 r9.f6)], 27, none⟩]) (fun _ => rfl) rfl rfl) (wt_none' rfl) fun ⟨⟩ => ?_
   refine s0 (rd_un' rfl ru_not) ?_
   refine s0 (rd_move' rfl) ?_
   refine sx_cutn' 4 (fun (v4 : Bool) => (⟨27, [], [(0, (Sl KT27 a0)), (4, (Vp q4)), (5, (Sl KT27 a0)), (6, (Vi (a0.length : Int))), (7, (Vi x5)), (18, (Vb v4))], [⟨.pointer (some q4), [(Vi r9.f0), (Vi r9.f1), (Vi r9.f2), (Sl Kf r9.f3), (Sl (Ki .i64) r9.f4), (Sl (Kl (Ki .i64)) r9.f5), (Sl KT27 r9.f6)], 27, none⟩]⟩ : St)) (fun (v4 : Bool) => laws_bAdds_j3 k rec1 x5 r9 v4 = some y1) ?_ ?_
   ·rintro x3 hp
    replace hp : laws_bAdds_j3 k rec1 x5 r9 x3 = some y1 := hp
    unfold laws_bAdds_j3 at hp
    refine s0 (rd_move' rfl) ?_
    refine sx_cutn' 4 (fun (v5 : Bool) => (⟨27, [], [(0, (Sl KT27 a0)), (5, (Sl KT27 a0)), (6, (Vi (a0.length : Int))), (7, (Vi x5)), (23, (Vb v5))], []⟩ : St)) (fun (v5 : Bool) => laws_bAdds_j4 k rec1 x5 v5 = some y1) ?_ ?_
    ·rintro x4 hp
     replace hp : laws_bAdds_j4 k rec1 x5 x4 = some y1 := hp
     unfold laws_bAdds_j4 at hp
     refine nk hK16 ?_
     refine cx_cond' rfl (fun h9 => ?_) (fun h9 => ?_)
     ·replace hp := (br_t h9).symm.trans hp
      refine cr fun K19 hK19 => ?_
      refine s0 (rd_assign' rfl) ?_
      refine nk hK19 ?_
      refine cx_retc' ?_
      replace hp := Option.some.inj hp
      subst hp
      show TX E (Zg E Exit.ret _ Exit.ret) _
      exact tx_zend' () rfl [] (sub_cons rfl sub_nil) (by decide) pick_nil
     replace hp := (br_f h9).symm.trans hp
     refine cx_skip' ?_
     show TX E K14 _
     refine tx_k' hK14 ?_
     refine cx_region' ?_
     refine s0 (rd_bin' rfl rfl eg_int ru_add) ?_
     refine s0 (rd_move' rfl) ?_
     refine sx_nil' ?_
     show TX E (KY1 _) _
     exact tx_pick' [] (sub_cons rfl (sub_cons rfl (sub_cons rfl (sub_cons rfl sub_nil)))) (by decide) pick_nil (ih1 (iadd .i64 x5 1) () _ hp)
    intro K18 hK18
    rcases br_cases hp with ⟨h8, hp⟩ | ⟨h8, hp⟩
    ·refine sx_skip' rfl rfl (wt_is' (wt_guard' rfl rfl rfl) (beq_tf h8)) ?_
     refine sx_skip' rfl rfl (wt_is' (wt_guard' rfl rfl rfl) (beq_tf h8)) ?_
     refine sx_skip' rfl rfl (wt_is' (wt_guard' rfl rfl rfl) (beq_tf h8)) ?_
     refine s0 (rd_pick_true' rfl h8 rfl) ?_
     refine sx_nil' ?_
     show TX E K18 _
     exact tx_pick' [] (sub_cons rfl (sub_cons rfl (sub_cons rfl (sub_cons rfl (sub_cons rfl sub_nil))))) (by decide) pick_nil (hK18 true hp)
    refine sx_rd' (rd_load_agg' (i := 0) (o := 0) (nn := 7) rfl ⟨rfl, rfl, rfl, rfl⟩ rfl agg27 (l' := [(Vi r9.f0), (Vi r9.f1), (Vi r9.f2), (Sl Kf r9.f3), (Sl (Ki .i64) r9.f4), (Sl (Kl (Ki .i64)) r9.f5), (Sl KT27 r9.f6)]) rfl) rfl rfl (wt_is' (wt_guard' rfl rfl rfl) (beq_ff h8)) ?_
    obtain ⟨r21, hr21, hp⟩ := bind_some hp
    refine sx_ox' (ox_calln' (ent_fn' Try.func51 isn51 rfl rfl) (laws_gEach_sim _ _ _ _ _ _ _ hr21 : Sx.Fn Try.prog 51 [(Ag [(Vi r9.f0), (Vi r9.f1), (Vi r9.f2), (Sl Kf r9.f3), (Sl (Ki .i64) r9.f4), (Sl (Kl (Ki .i64)) r9.f5), (Sl KT27 r9.f6)]), (Vl (.func (.func 48) #[] #[]))] [] (fun x : Unit => (Vb r21)) (fun x => [])) (Hn := fun x : Unit => [⟨.pointer (some q4), [(Vi r9.f0), (Vi r9.f1), (Vi r9.f2), (Sl Kf r9.f3), (Sl (Ki .i64) r9.f4), (Sl (Kl (Ki .i64)) r9.f5), (Sl KT27 r9.f6)], 27, none⟩]) (fun _ => rfl) rfl rfl) (wt_is' (wt_guard' rfl rfl rfl) (beq_ff h8)) fun ⟨⟩ => ?_
    refine sx_rd' (rd_un' rfl ru_not) rfl rfl (wt_is' (wt_guard' rfl rfl rfl) (beq_ff h8)) ?_
    refine s0 (rd_pick_false' rfl h8 rfl) ?_
    refine sx_nil' ?_
    show TX E K18 _
    exact tx_pick' [] (sub_cons rfl (sub_cons rfl (sub_cons rfl (sub_cons rfl (sub_cons rfl sub_nil))))) (by decide) pick_nil (hK18 (!r21) hp)
   intro K17 hK17
   rcases br_cases hp with ⟨h7, hp⟩ | ⟨h7, hp⟩
   ·refine sx_skip' rfl rfl (wt_is' (wt_guard' rfl rfl rfl) (beq_tf h7)) ?_
    refine sx_skip' rfl rfl (wt_is' (wt_guard' rfl rfl rfl) (beq_tf h7)) ?_
    refine sx_skip' rfl rfl (wt_is' (wt_guard' rfl rfl rfl) (beq_tf h7)) ?_
    refine s0 (rd_pick_true' rfl h7 rfl) ?_
    refine sx_nil' ?_
    show TX E K17 _
    exact tx_pick' [0] (sub_cons rfl (sub_cons rfl (sub_cons rfl (sub_cons rfl (sub_cons rfl (sub_cons rfl sub_nil)))))) (by decide) (pick_cons rfl pick_nil) (hK17 true hp)
   refine sx_rd' (rd_load_agg' (i := 0) (o := 0) (nn := 7) rfl ⟨rfl, rfl, rfl, rfl⟩ rfl agg27 (l' := [(Vi r9.f0), (Vi r9.f1), (Vi r9.f2), (Sl Kf r9.f3), (Sl (Ki .i64) r9.f4), (Sl (Kl (Ki .i64)) r9.f5), (Sl KT27 r9.f6)]) rfl) rfl rfl (wt_is' (wt_guard' rfl rfl rfl) (beq_ff h7)) ?_
   obtain ⟨r16, hr16, hp⟩ := bind_some hp
   refine sx_ox' (ox_calln' (ent_fn' Try.func50 isn50 rfl rfl) (laws_gLayouts_sim _ _ _ _ _ _ _ _ hr16 : Sx.Fn Try.prog 50 [(Ag [(Vi r9.f0), (Vi r9.f1), (Vi r9.f2), (Sl Kf r9.f3), (Sl (Ki .i64) r9.f4), (Sl (Kl (Ki .i64)) r9.f5), (Sl KT27 r9.f6)]), (Vi 4)] [] (fun x : Unit => (Vb r16)) (fun x => [])) (Hn := fun x : Unit => [⟨.pointer (some q4), [(Vi r9.f0), (Vi r9.f1), (Vi r9.f2), (Sl Kf r9.f3), (Sl (Ki .i64) r9.f4), (Sl (Kl (Ki .i64)) r9.f5), (Sl KT27 r9.f6)], 27, none⟩]) (fun _ => rfl) rfl rfl) (wt_is' (wt_guard' rfl rfl rfl) (beq_ff h7)) fun ⟨⟩ => ?_
   refine sx_rd' (rd_un' rfl ru_not) rfl rfl (wt_is' (wt_guard' rfl rfl rfl) (beq_ff h7)) ?_
   refine s0 (rd_pick_false' rfl h7 rfl) ?_
   refine sx_nil' ?_
   show TX E K17 _
   exact tx_pick' [0] (sub_cons rfl (sub_cons rfl (sub_cons rfl (sub_cons rfl (sub_cons rfl (sub_cons rfl sub_nil)))))) (by decide) (pick_cons rfl pick_nil) (hK17 (!r16) hp)
  replace hp := (br_f h6).symm.trans hp
  refine cx_exit' ?_
  replace hp := Option.some.inj hp
  subst hp
  show TX E (Zg E (Exit.exit 0) _ (Exit.exit 0)) _
  exact tx_zend' () rfl [] (sub_cons rfl sub_nil) (by decide) pick_nil
 rcases y1 with v6 | v7
 ·dsimp only at hp
  refine zg_out fun w6 => ?_
  replace hp := Option.some.inj hp
  subst hp
  refine tx_pick' (L' := [(2, (Vb false))]) (H' := []) [] (sub_cons rfl sub_nil) (by decide) pick_nil ?_
  exact tx_ret1' Try.results22 rfl () (rv_tmp' rfl) (List.Sublist.refl _)
 dsimp only at hp
 refine zg_out fun w7 => ?_
 show TX E K2 _
 refine tx_k' hK2 ?_
 refine cr fun K20 hK20 => ?_
 refine s0 (rd_move' rfl) ?_
 obtain ⟨r26, hr26, hp⟩ := bind_some hp
 refine sx_ox' (ox_calln' (ent_fn' Try.func26 isn26 rfl rfl) (laws_gSmall_sim _ hr26 : Sx.Fn Try.prog 26 [(Sl KT27 a0)] [] (fun x : Unit => (Vb r26)) (fun x => [])) (Hn := fun x : Unit => []) (fun _ => rfl) rfl rfl) (wt_none' rfl) fun ⟨⟩ => ?_
 refine s0 (rd_assign' rfl) ?_
 refine nk hK20 ?_
 refine cx_retc' ?_
 replace hp := Option.some.inj hp
 subst hp
 refine tx_pick' (L' := [(2, (Vb r26))]) (H' := []) [] (sub_cons rfl sub_nil) (by decide) pick_nil ?_
 exact tx_ret1' Try.results22 rfl () (rv_tmp' rfl) (List.Sublist.refl _)

def impl_floats (k : Nat) (a0 : List Nat) : Option ((List Nat)) :=
 (apd 8 [] a0) >>= fun r4 =>
 some r4

theorem impl_floats_sim {k : Nat}  (a0 : List Nat) {out : (List Nat)} (hp : impl_floats k a0 = some out) : Sx.Fn Try.prog 59 [(Sl Kf a0)] [] (fun w : Gs => (Vl (Vs w))) (fun w => [(Rw Kf 32 (Vs w) out)]) := by
 unfold impl_floats at hp
 refine fn_of Try.func59 rfl Try.ntmps59 rfl fun E hM => ?_
 refine cr fun K1 hK1 => ?_
 refine s0 (rd_assign' rfl) ?_
 refine nk hK1 ?_
 refine cr fun K2 hK2 => ?_
 refine s0 (rd_move' rfl) ?_
 refine tx_nilrow' Kf 32 ?_
 obtain ⟨r4, hr4, hp⟩ := bind_some hp
 refine sx_ox' (ox_append' (K := Kf) (i := 0) (xs := []) (ys := a0) rfl rfl rfl (sr_sl' rfl Try.underlying22) hr4 Try.underlying22 info32 rfl rfl rfl (H' := []) rfl) (wt_none' rfl) fun g4 => ?_
 refine s0 (rd_assign' rfl) ?_
 refine nk hK2 ?_
 refine cx_retc' ?_
 replace hp := Option.some.inj hp
 subst hp
 refine tx_pick' (L' := [(2, (Vl (Vs g4)))]) (H' := [(Rw Kf 32 (Vs g4) r4)]) [0] (sub_cons rfl sub_nil) (by decide) (pick_cons rfl pick_nil) ?_
 exact tx_ret1' Try.results59 rfl g4 (rv_tmp' rfl) (List.Sublist.refl _)

def gogeom_DoorBounds (k : Nat) (a0 : Int) (a1 : List Nat) (a2 : List Nat) : Option ((List Nat) × (List Nat) × Int) :=
 some (a1, a2, a0)

theorem gogeom_DoorBounds_sim {k : Nat} {wa1 : Gs} {wa2 : Gs} (a0 : Int) (a1 : List Nat) (a2 : List Nat) {out : (List Nat) × (List Nat) × Int} (hp : gogeom_DoorBounds k a0 a1 a2 = some out) : Sx.Fn Try.prog 85 [(Vi a0), (Vl (Vs wa1)), (Vl (Vs wa2))] [(Rw Kf 32 (Vs wa1) a1), (Rw Kf 32 (Vs wa2) a2)] (fun w : Addr => (Vp w)) (fun w => [(Rw Kf 32 (Vs wa1) out.1), (Rw Kf 32 (Vs wa2) out.2.1), ⟨.pointer (some w), [(Vi out.2.2), (Vl (Vs wa1)), (Vl (Vs wa2))], 150, none⟩]) := by
 unfold gogeom_DoorBounds at hp
 refine fn_of Try.func85 rfl Try.ntmps85 rfl fun E hM => ?_
 refine cr fun K1 hK1 => ?_
 refine s0 (rd_assign' rfl) ?_
 refine nk hK1 ?_
 refine cr fun K2 hK2 => ?_
 refine s0 (rd_move' rfl) ?_
 refine s0 (rd_move' rfl) ?_
 refine s0 (rd_move' rfl) ?_
 refine s0 (rd_build' (pls := [(0, 1), (1, 1), (2, 1)]) (qs := [(0, [(Vi a0)]), (1, [(Vl (Vs wa1))]), (2, [(Vl (Vs wa2))])]) (r := [(Vi a0), (Vl (Vs wa1)), (Vl (Vs wa2))]) ⟨rfl, ⟨_, rfl, (lv_vl rfl rfl)⟩, ⟨rfl, ⟨_, rfl, (lv_vl rfl rfl)⟩, ⟨rfl, ⟨_, rfl, (lv_vl rfl rfl)⟩, trivial⟩⟩⟩ Try.underlying150 has150 places150 info150 rfl rfl rfl) ?_
 refine sx_ox' (ox_box' rfl (lv_ag _) rfl rfl) (wt_none' rfl) fun q11 => ?_
 refine s0 (rd_assign' rfl) ?_
 refine nk hK2 ?_
 refine cx_retc' ?_
 replace hp := Option.some.inj hp
 subst hp
 refine tx_pick' (L' := [(6, (Vp q11))]) (H' := [(Rw Kf 32 (Vs wa1) a1), (Rw Kf 32 (Vs wa2) a2), ⟨.pointer (some q11), [(Vi a0), (Vl (Vs wa1)), (Vl (Vs wa2))], 150, none⟩]) [1, 2, 0] (sub_cons rfl sub_nil) (by decide) (pick_cons rfl (pick_cons rfl (pick_cons rfl pick_nil))) ?_
 exact tx_ret1' Try.results85 rfl q11 (rv_tmp' rfl) (List.Sublist.refl _)

def impl_box (k : Nat) (a0_0 : Int) (a0_1 : List Nat) (a0_2 : List Nat) : Option (Int × (List Nat) × (List Nat)) :=
 (impl_floats k a0_1) >>= fun r7 =>
 (impl_floats k a0_2) >>= fun r10 =>
 (gogeom_DoorBounds k a0_0 r7 r10) >>= fun r11 =>
 some (r11.2.2, r11.1, r11.2.1)

theorem impl_box_sim {k : Nat}  (a0_0 : Int) (a0_1 : List Nat) (a0_2 : List Nat) {out : Int × (List Nat) × (List Nat)} (hp : impl_box k a0_0 a0_1 a0_2 = some out) : Sx.Fn Try.prog 54 [(Ag [(Vi a0_0), (Sl Kf a0_1), (Sl Kf a0_2)])] [] (fun w : Addr × Gs × Gs => (Vp w.1)) (fun w => [⟨.pointer (some w.1), [(Vi out.1), (Vl (Vs w.2.1)), (Vl (Vs w.2.2))], 150, none⟩, (Rw Kf 32 (Vs w.2.1) out.2.1), (Rw Kf 32 (Vs w.2.2) out.2.2)]) := by
 unfold impl_box at hp
 refine fn_of Try.func54 rfl Try.ntmps54 rfl fun E hM => ?_
 refine cr fun K1 hK1 => ?_
 refine sx_ox' (ox_box' rfl (lv_ag _) rfl rfl) (wt_none' rfl) fun q1 => ?_
 refine s0 (rd_assign' rfl) ?_
 refine nk hK1 ?_
 refine cx_seq' fun K2 hK2 => ?_
 refine cx_plan' [] [(8, 1)] [(0, 1), (1, 1), (2, 1), (3, 1), (5, 1), (6, 1), (4, 0), (7, 0), (8, 0), (9, 1)] mixed (by kernel_rfl) ?_
 refine px_rd' rfl (rd_field0' rfl Try.underlying43 rfl info3 rfl) rfl rfl (wt_none' rfl) ?_
 refine px_rd' rfl (rd_load' (i := 0) (o := 0) rfl ⟨rfl, rfl, rfl, rfl⟩ rfl flat3) rfl rfl (wt_none' rfl) ?_
 refine px_rd' rfl (rd_field' (off := 1) rfl Try.underlying43 rfl info22 rfl) rfl rfl (wt_none' rfl) ?_
 refine px_rd' rfl (rd_load' (i := 0) (o := 1) rfl ⟨rfl, rfl, rfl, rfl⟩ rfl flat22) rfl rfl (wt_none' rfl) ?_
 refine px_rd' rfl (rd_field' (off := 2) rfl Try.underlying43 rfl info22 rfl) rfl rfl (wt_none' rfl) ?_
 refine px_rd' rfl (rd_load' (i := 0) (o := 2) rfl ⟨rfl, rfl, rfl, rfl⟩ rfl flat22) rfl rfl (wt_none' rfl) ?_
 obtain ⟨r7, hr7, hp⟩ := bind_some hp
 refine px_ox' rfl (ox_calln' (ent_fn' Try.func59 isn59 rfl rfl) (impl_floats_sim _ hr7 : Sx.Fn Try.prog 59 [(Sl Kf a0_1)] [] (fun x : Gs => (Vl (Vs x))) (fun x => [(Rw Kf 32 (Vs x) r7)])) (Hn := fun x : Gs => [(Rw Kf 32 (Vs x) r7), ⟨.pointer (some q1), [(Vi a0_0), (Sl Kf a0_1), (Sl Kf a0_2)], 43, none⟩]) (fun _ => rfl) rfl rfl) rfl bs_nil (wt_none' rfl) fun g7 => ?_
 obtain ⟨r10, hr10, hp⟩ := bind_some hp
 refine px_ox' rfl (ox_calln' (ent_fn' Try.func59 isn59 rfl rfl) (impl_floats_sim _ hr10 : Sx.Fn Try.prog 59 [(Sl Kf a0_2)] [] (fun x : Gs => (Vl (Vs x))) (fun x => [(Rw Kf 32 (Vs x) r10)])) (Hn := fun x : Gs => [(Rw Kf 32 (Vs x) r10), (Rw Kf 32 (Vs g7) r7), ⟨.pointer (some q1), [(Vi a0_0), (Sl Kf a0_1), (Sl Kf a0_2)], 43, none⟩]) (fun _ => rfl) rfl rfl) rfl bs_nil (wt_none' rfl) fun g10 => ?_
 obtain ⟨r11, hr11, hp⟩ := bind_some hp
 refine px_oxb' (is := [1, 0]) rfl (oxb_callg (ent_fn' Try.func85 isn85 rfl rfl) (gogeom_DoorBounds_sim _ _ _ hr11 : Sx.Fn Try.prog 85 [(Vi a0_0), (Vl (Vs g7)), (Vl (Vs g10))] [(Rw Kf 32 (Vs g7) r7), (Rw Kf 32 (Vs g10) r10)] (fun x : Addr => (Vp x)) (fun x => [(Rw Kf 32 (Vs g7) r11.1), (Rw Kf 32 (Vs g10) r11.2.1), ⟨.pointer (some x), [(Vi r11.2.2), (Vl (Vs g7)), (Vl (Vs g10))], 150, none⟩])) [1, 0] [2] (by decide) (pick_cons rfl (pick_cons rfl pick_nil)) (pick_cons rfl pick_nil) (Hn := fun x : Addr => [(Rw Kf 32 (Vs g7) r11.1), (Rw Kf 32 (Vs g10) r11.2.1), ⟨.pointer (some x), [(Vi r11.2.2), (Vl (Vs g7)), (Vl (Vs g10))], 150, none⟩, ⟨.pointer (some q1), [(Vi a0_0), (Sl Kf a0_1), (Sl Kf a0_2)], 43, none⟩]) (fun _ => rfl) rfl rfl) (pick_cons rfl (pick_cons rfl pick_nil)) rfl bl_nil (wt_none' rfl) fun q11 => ?_
 refine px_rd' rfl (rd_assign' rfl) rfl rfl (wt_none' rfl) ?_
 refine px_nil' ?_
 show TX E K2 _
 refine tx_k' hK2 ?_
 refine cx_retc' ?_
 replace hp := Option.some.inj hp
 subst hp
 refine tx_pick' (L' := [(2, (Vp q11))]) (H' := [⟨.pointer (some q11), [(Vi r11.2.2), (Vl (Vs g7)), (Vl (Vs g10))], 150, none⟩, (Rw Kf 32 (Vs g7) r11.1), (Rw Kf 32 (Vs g10) r11.2.1)]) [2, 0, 1] (sub_cons rfl sub_nil) (by decide) (pick_cons rfl (pick_cons rfl (pick_cons rfl pick_nil))) ?_
 exact tx_ret1' Try.results54 rfl (q11, g7, g10) (rv_tmp' rfl) (List.Sublist.refl _)

def gogeom_Layout_Stride (k : Nat) (a0 : Int) : Option (Int) :=
 br (decide (a0 = 0))
  (some 0)
  (br (decide (a0 = 1))
   (some 2)
   (br (decide (a0 = 2))
    (some 3)
    (br (decide (a0 = 3))
     (some 3)
     (br (decide (a0 = 4))
      (some 4)
      (some a0)))))

theorem gogeom_Layout_Stride_sim {k : Nat}  (a0 : Int) {out : Int} (hp : gogeom_Layout_Stride k a0 = some out) : Sx.Fn Try.prog 89 [(Vi a0)] [] (fun w : Unit => (Vi out)) (fun w => []) := by
 unfold gogeom_Layout_Stride at hp
 refine fn_of Try.func89 rfl Try.ntmps89 rfl fun E hM => ?_
 refine cr fun K1 hK1 => ?_
 refine s0 (rd_assign' rfl) ?_
 refine nk hK1 ?_
 refine cr fun K2 hK2 => ?_
 refine s0 (rd_move' rfl) ?_
 refine nk hK2 ?_
 refine cx_block' ?_
 refine cr fun K3 hK3 => ?_
 refine s0 (rd_bin' rfl rfl eg_int ru_eql) ?_
 refine s0 (rd_assign' rfl) ?_
 refine nk hK3 ?_
 refine cx_cond' rfl (fun h1 => ?_) (fun h1 => ?_)
 ·replace hp := (br_t h1).symm.trans hp
  refine cr fun K4 hK4 => ?_
  refine s0 (rd_assign' rfl) ?_
  refine nk hK4 ?_
  refine cx_retc' ?_
  replace hp := Option.some.inj hp
  subst hp
  refine tx_pick' (L' := [(2, (Vi 0))]) (H' := []) [] (sub_cons rfl sub_nil) (by decide) pick_nil ?_
  exact tx_ret1' Try.results89 rfl () (rv_tmp' rfl) (List.Sublist.refl _)
 replace hp := (br_f h1).symm.trans hp
 refine cr fun K5 hK5 => ?_
 refine s0 (rd_bin' rfl rfl eg_int ru_eql) ?_
 refine s0 (rd_assign' rfl) ?_
 refine nk hK5 ?_
 refine cx_cond' rfl (fun h2 => ?_) (fun h2 => ?_)
 ·replace hp := (br_t h2).symm.trans hp
  refine cr fun K6 hK6 => ?_
  refine s0 (rd_assign' rfl) ?_
  refine nk hK6 ?_
  refine cx_retc' ?_
  replace hp := Option.some.inj hp
  subst hp
  refine tx_pick' (L' := [(2, (Vi 2))]) (H' := []) [] (sub_cons rfl sub_nil) (by decide) pick_nil ?_
  exact tx_ret1' Try.results89 rfl () (rv_tmp' rfl) (List.Sublist.refl _)
 replace hp := (br_f h2).symm.trans hp
 refine cr fun K7 hK7 => ?_
 refine s0 (rd_bin' rfl rfl eg_int ru_eql) ?_
 refine s0 (rd_assign' rfl) ?_
 refine nk hK7 ?_
 refine cx_cond' rfl (fun h3 => ?_) (fun h3 => ?_)
 ·replace hp := (br_t h3).symm.trans hp
  refine cr fun K8 hK8 => ?_
  refine s0 (rd_assign' rfl) ?_
  refine nk hK8 ?_
  refine cx_retc' ?_
  replace hp := Option.some.inj hp
  subst hp
  refine tx_pick' (L' := [(2, (Vi 3))]) (H' := []) [] (sub_cons rfl sub_nil) (by decide) pick_nil ?_
  exact tx_ret1' Try.results89 rfl () (rv_tmp' rfl) (List.Sublist.refl _)
 replace hp := (br_f h3).symm.trans hp
 refine cr fun K9 hK9 => ?_
 refine s0 (rd_bin' rfl rfl eg_int ru_eql) ?_
 refine s0 (rd_assign' rfl) ?_
 refine nk hK9 ?_
 refine cx_cond' rfl (fun h4 => ?_) (fun h4 => ?_)
 ·replace hp := (br_t h4).symm.trans hp
  refine cr fun K10 hK10 => ?_
  refine s0 (rd_assign' rfl) ?_
  refine nk hK10 ?_
  refine cx_retc' ?_
  replace hp := Option.some.inj hp
  subst hp
  refine tx_pick' (L' := [(2, (Vi 3))]) (H' := []) [] (sub_cons rfl sub_nil) (by decide) pick_nil ?_
  exact tx_ret1' Try.results89 rfl () (rv_tmp' rfl) (List.Sublist.refl _)
 replace hp := (br_f h4).symm.trans hp
 refine cr fun K11 hK11 => ?_
 refine s0 (rd_bin' rfl rfl eg_int ru_eql) ?_
 refine s0 (rd_assign' rfl) ?_
 refine nk hK11 ?_
 refine cx_cond' rfl (fun h5 => ?_) (fun h5 => ?_)
 ·replace hp := (br_t h5).symm.trans hp
  refine cr fun K12 hK12 => ?_
  refine s0 (rd_assign' rfl) ?_
  refine nk hK12 ?_
  refine cx_retc' ?_
  replace hp := Option.some.inj hp
  subst hp
  refine tx_pick' (L' := [(2, (Vi 4))]) (H' := []) [] (sub_cons rfl sub_nil) (by decide) pick_nil ?_
  exact tx_ret1' Try.results89 rfl () (rv_tmp' rfl) (List.Sublist.refl _)
 replace hp := (br_f h5).symm.trans hp
 refine cr fun K13 hK13 => ?_
 refine s0 (rd_move' rfl) ?_
 refine s0 (rd_assign' rfl) ?_
 refine nk hK13 ?_
 refine cx_retc' ?_
 replace hp := Option.some.inj hp
 subst hp
 refine tx_pick' (L' := [(2, (Vi a0))]) (H' := []) [] (sub_cons rfl sub_nil) (by decide) pick_nil ?_
 exact tx_ret1' Try.results89 rfl () (rv_tmp' rfl) (List.Sublist.refl _)

def gogeom_NewPointFlat (k : Nat) (a0 : Int) (a1 : List Nat) : Option (Int × Int × (List Nat) × Int) :=
 (gogeom_Layout_Stride k a0) >>= fun r14 =>
 some (a0, r14, a1, 0)

theorem gogeom_NewPointFlat_sim {k : Nat}  (a0 : Int) (a1 : List Nat) {out : Int × Int × (List Nat) × Int} (hp : gogeom_NewPointFlat k a0 a1 = some out) : Sx.Fn Try.prog 60 [(Vi a0), (Sl Kf a1)] [] (fun w : Addr => (Vp w)) (fun w => [⟨.pointer (some w), [(Vi out.1), (Vi out.2.1), (Sl Kf out.2.2.1), (Vi out.2.2.2)], 135, none⟩]) := by
 unfold gogeom_NewPointFlat at hp
 refine fn_of Try.func60 rfl Try.ntmps60 rfl fun E hM => ?_
 refine cr fun K1 hK1 => ?_
 refine s0 (rd_assign' rfl) ?_
 refine nk hK1 ?_
 refine cr fun K2 hK2 => ?_
 refine sx_ox' (ox_alloc' info135 rfl rfl rfl rfl (l := [(Vi 0), (Vi 0), Vn, (Vi 0)]) rfl) (wt_none' rfl) fun q6 => ?_
 refine s0 (rd_assign' rfl) ?_
 refine nk hK2 ?_
 refine cr fun K3 hK3 => ?_
 refine s0 (rd_move' rfl) ?_
 refine s0 (rd_move' rfl) ?_
 refine s0 (rd_nilck' rfl) ?_
 refine s0 (rd_field0' rfl Try.underlying135 rfl info124 rfl) ?_
 refine s0 (rd_field0' rfl Try.underlying124 rfl info61 rfl) ?_
 refine sx_ox' (ox_store' (i := 0) (o := 0) rfl rfl (lv_vl rfl rfl) ⟨rfl, rfl, rfl, rfl⟩ rfl info61 rfl (H' := [⟨.pointer (some q6), [(Vi a0), (Vi 0), Vn, (Vi 0)], 135, none⟩]) rfl) (wt_none' rfl) fun _ => ?_
 refine nk hK3 ?_
 refine cr fun K4 hK4 => ?_
 refine s0 (rd_move' rfl) ?_
 refine s0 (rd_move' rfl) ?_
 obtain ⟨r14, hr14, hp⟩ := bind_some hp
 refine sx_ox' (ox_calln' (ent_fn' Try.func89 isn89 rfl rfl) (gogeom_Layout_Stride_sim _ hr14 : Sx.Fn Try.prog 89 [(Vi a0)] [] (fun x : Unit => (Vi r14)) (fun x => [])) (Hn := fun x : Unit => [⟨.pointer (some q6), [(Vi a0), (Vi 0), Vn, (Vi 0)], 135, none⟩]) (fun _ => rfl) rfl rfl) (wt_none' rfl) fun ⟨⟩ => ?_
 refine s0 (rd_nilck' rfl) ?_
 refine s0 (rd_field0' rfl Try.underlying135 rfl info124 rfl) ?_
 refine s0 (rd_field' (off := 1) rfl Try.underlying124 rfl info3 rfl) ?_
 refine sx_ox' (ox_store' (i := 0) (o := 1) rfl rfl (lv_vl rfl rfl) ⟨rfl, rfl, rfl, rfl⟩ rfl info3 rfl (H' := [⟨.pointer (some q6), [(Vi a0), (Vi r14), Vn, (Vi 0)], 135, none⟩]) rfl) (wt_none' rfl) fun _ => ?_
 refine nk hK4 ?_
 refine cr fun K5 hK5 => ?_
 refine s0 (rd_move' rfl) ?_
 refine s0 (rd_move' rfl) ?_
 refine s0 (rd_nilck' rfl) ?_
 refine s0 (rd_field0' rfl Try.underlying135 rfl info124 rfl) ?_
 refine s0 (rd_field' (off := 2) rfl Try.underlying124 rfl info22 rfl) ?_
 refine sx_ox' (ox_store' (i := 0) (o := 2) rfl rfl (lv_sl _ _) ⟨rfl, rfl, rfl, rfl⟩ rfl info22 rfl (H' := [⟨.pointer (some q6), [(Vi a0), (Vi r14), (Sl Kf a1), (Vi 0)], 135, none⟩]) rfl) (wt_none' rfl) fun _ => ?_
 refine nk hK5 ?_
 refine cr fun K6 hK6 => ?_
 refine s0 (rd_move' rfl) ?_
 refine s0 (rd_assign' rfl) ?_
 refine nk hK6 ?_
 refine cx_retc' ?_
 replace hp := Option.some.inj hp
 subst hp
 refine tx_pick' (L' := [(4, (Vp q6))]) (H' := [⟨.pointer (some q6), [(Vi a0), (Vi r14), (Sl Kf a1), (Vi 0)], 135, none⟩]) [0] (sub_cons rfl sub_nil) (by decide) (pick_cons rfl pick_nil) ?_
 exact tx_ret1' Try.results60 rfl q6 (rv_tmp' rfl) (List.Sublist.refl _)

def gogeom_Point_SetSRID (k : Nat) (a0_0 : Int) (a0_1 : Int) (a0_2 : List Nat) (a0_3 : Int) (a1 : Int) : Option (Int × Int × (List Nat) × Int) :=
 some (a0_0, a0_1, a0_2, a1)

theorem gogeom_Point_SetSRID_sim {k : Nat} {wa0 : Addr} (a0_0 : Int) (a0_1 : Int) (a0_2 : List Nat) (a0_3 : Int) (a1 : Int) {out : Int × Int × (List Nat) × Int} (hp : gogeom_Point_SetSRID k a0_0 a0_1 a0_2 a0_3 a1 = some out) : Sx.Fn Try.prog 61 [(Vp wa0), (Vi a1)] [⟨.pointer (some wa0), [(Vi a0_0), (Vi a0_1), (Sl Kf a0_2), (Vi a0_3)], 135, none⟩] (fun w : Unit => (Vp wa0)) (fun w => [⟨.pointer (some wa0), [(Vi out.1), (Vi out.2.1), (Sl Kf out.2.2.1), (Vi out.2.2.2)], 135, none⟩]) := by
 unfold gogeom_Point_SetSRID at hp
 refine fn_of Try.func61 rfl Try.ntmps61 rfl fun E hM => ?_
 refine cr fun K1 hK1 => ?_
 refine s0 (rd_assign' rfl) ?_
 refine nk hK1 ?_
 refine cr fun K2 hK2 => ?_
 refine s0 (rd_move' rfl) ?_
 refine s0 (rd_move' rfl) ?_
 refine s0 (rd_nilck' rfl) ?_
 refine s0 (rd_field0' rfl Try.underlying135 rfl info124 rfl) ?_
 refine s0 (rd_field' (off := 3) rfl Try.underlying124 rfl info3 rfl) ?_
 refine sx_ox' (ox_store' (i := 0) (o := 3) rfl rfl (lv_vl rfl rfl) ⟨rfl, rfl, rfl, rfl⟩ rfl info3 rfl (H' := [⟨.pointer (some wa0), [(Vi a0_0), (Vi a0_1), (Sl Kf a0_2), (Vi a1)], 135, none⟩]) rfl) (wt_none' rfl) fun _ => ?_
 refine nk hK2 ?_
 refine cr fun K3 hK3 => ?_
 refine s0 (rd_move' rfl) ?_
 refine s0 (rd_assign' rfl) ?_
 refine nk hK3 ?_
 refine cx_retc' ?_
 replace hp := Option.some.inj hp
 subst hp
 refine tx_pick' (L' := [(4, (Vp wa0))]) (H' := [⟨.pointer (some wa0), [(Vi a0_0), (Vi a0_1), (Sl Kf a0_2), (Vi a1)], 135, none⟩]) [0] (sub_cons rfl sub_nil) (by decide) (pick_cons rfl pick_nil) ?_
 exact tx_ret1' Try.results61 rfl () (rv_tmp' rfl) (List.Sublist.refl _)

def gogeom_NewLineStringFlat (k : Nat) (a0 : Int) (a1 : List Nat) : Option (Int × Int × (List Nat) × Int) :=
 (gogeom_Layout_Stride k a0) >>= fun r15 =>
 some (a0, r15, a1, 0)

theorem gogeom_NewLineStringFlat_sim {k : Nat}  (a0 : Int) (a1 : List Nat) {out : Int × Int × (List Nat) × Int} (hp : gogeom_NewLineStringFlat k a0 a1 = some out) : Sx.Fn Try.prog 62 [(Vi a0), (Sl Kf a1)] [] (fun w : Addr => (Vp w)) (fun w => [⟨.pointer (some w), [(Vi out.1), (Vi out.2.1), (Sl Kf out.2.2.1), (Vi out.2.2.2)], 138, none⟩]) := by
 unfold gogeom_NewLineStringFlat at hp
 refine fn_of Try.func62 rfl Try.ntmps62 rfl fun E hM => ?_
 refine cr fun K1 hK1 => ?_
 refine s0 (rd_assign' rfl) ?_
 refine nk hK1 ?_
 refine cr fun K2 hK2 => ?_
 refine sx_ox' (ox_alloc' info138 rfl rfl rfl rfl (l := [(Vi 0), (Vi 0), Vn, (Vi 0)]) rfl) (wt_none' rfl) fun q6 => ?_
 refine s0 (rd_assign' rfl) ?_
 refine nk hK2 ?_
 refine cr fun K3 hK3 => ?_
 refine s0 (rd_move' rfl) ?_
 refine s0 (rd_move' rfl) ?_
 refine s0 (rd_nilck' rfl) ?_
 refine s0 (rd_field0' rfl Try.underlying138 rfl info126 rfl) ?_
 refine s0 (rd_field0' rfl Try.underlying126 rfl info124 rfl) ?_
 refine s0 (rd_field0' rfl Try.underlying124 rfl info61 rfl) ?_
 refine sx_ox' (ox_store' (i := 0) (o := 0) rfl rfl (lv_vl rfl rfl) ⟨rfl, rfl, rfl, rfl⟩ rfl info61 rfl (H' := [⟨.pointer (some q6), [(Vi a0), (Vi 0), Vn, (Vi 0)], 138, none⟩]) rfl) (wt_none' rfl) fun _ => ?_
 refine nk hK3 ?_
 refine cr fun K4 hK4 => ?_
 refine s0 (rd_move' rfl) ?_
 refine s0 (rd_move' rfl) ?_
 obtain ⟨r15, hr15, hp⟩ := bind_some hp
 refine sx_ox' (ox_calln' (ent_fn' Try.func89 isn89 rfl rfl) (gogeom_Layout_Stride_sim _ hr15 : Sx.Fn Try.prog 89 [(Vi a0)] [] (fun x : Unit => (Vi r15)) (fun x => [])) (Hn := fun x : Unit => [⟨.pointer (some q6), [(Vi a0), (Vi 0), Vn, (Vi 0)], 138, none⟩]) (fun _ => rfl) rfl rfl) (wt_none' rfl) fun ⟨⟩ => ?_
 refine s0 (rd_nilck' rfl) ?_
 refine s0 (rd_field0' rfl Try.underlying138 rfl info126 rfl) ?_
 refine s0 (rd_field0' rfl Try.underlying126 rfl info124 rfl) ?_
 refine s0 (rd_field' (off := 1) rfl Try.underlying124 rfl info3 rfl) ?_
 refine sx_ox' (ox_store' (i := 0) (o := 1) rfl rfl (lv_vl rfl rfl) ⟨rfl, rfl, rfl, rfl⟩ rfl info3 rfl (H' := [⟨.pointer (some q6), [(Vi a0), (Vi r15), Vn, (Vi 0)], 138, none⟩]) rfl) (wt_none' rfl) fun _ => ?_
 refine nk hK4 ?_
 refine cr fun K5 hK5 => ?_
 refine s0 (rd_move' rfl) ?_
 refine s0 (rd_move' rfl) ?_
 refine s0 (rd_nilck' rfl) ?_
 refine s0 (rd_field0' rfl Try.underlying138 rfl info126 rfl) ?_
 refine s0 (rd_field0' rfl Try.underlying126 rfl info124 rfl) ?_
 refine s0 (rd_field' (off := 2) rfl Try.underlying124 rfl info22 rfl) ?_
 refine sx_ox' (ox_store' (i := 0) (o := 2) rfl rfl (lv_sl _ _) ⟨rfl, rfl, rfl, rfl⟩ rfl info22 rfl (H' := [⟨.pointer (some q6), [(Vi a0), (Vi r15), (Sl Kf a1), (Vi 0)], 138, none⟩]) rfl) (wt_none' rfl) fun _ => ?_
 refine nk hK5 ?_
 refine cr fun K6 hK6 => ?_
 refine s0 (rd_move' rfl) ?_
 refine s0 (rd_assign' rfl) ?_
 refine nk hK6 ?_
 refine cx_retc' ?_
 replace hp := Option.some.inj hp
 subst hp
 refine tx_pick' (L' := [(4, (Vp q6))]) (H' := [⟨.pointer (some q6), [(Vi a0), (Vi r15), (Sl Kf a1), (Vi 0)], 138, none⟩]) [0] (sub_cons rfl sub_nil) (by decide) (pick_cons rfl pick_nil) ?_
 exact tx_ret1' Try.results62 rfl q6 (rv_tmp' rfl) (List.Sublist.refl _)

def gogeom_LineString_SetSRID (k : Nat) (a0_0 : Int) (a0_1 : Int) (a0_2 : List Nat) (a0_3 : Int) (a1 : Int) : Option (Int × Int × (List Nat) × Int) :=
 some (a0_0, a0_1, a0_2, a1)

theorem gogeom_LineString_SetSRID_sim {k : Nat} {wa0 : Addr} (a0_0 : Int) (a0_1 : Int) (a0_2 : List Nat) (a0_3 : Int) (a1 : Int) {out : Int × Int × (List Nat) × Int} (hp : gogeom_LineString_SetSRID k a0_0 a0_1 a0_2 a0_3 a1 = some out) : Sx.Fn Try.prog 63 [(Vp wa0), (Vi a1)] [⟨.pointer (some wa0), [(Vi a0_0), (Vi a0_1), (Sl Kf a0_2), (Vi a0_3)], 138, none⟩] (fun w : Unit => (Vp wa0)) (fun w => [⟨.pointer (some wa0), [(Vi out.1), (Vi out.2.1), (Sl Kf out.2.2.1), (Vi out.2.2.2)], 138, none⟩]) := by
 unfold gogeom_LineString_SetSRID at hp
 refine fn_of Try.func63 rfl Try.ntmps63 rfl fun E hM => ?_
 refine cr fun K1 hK1 => ?_
 refine s0 (rd_assign' rfl) ?_
 refine nk hK1 ?_
 refine cr fun K2 hK2 => ?_
 refine s0 (rd_move' rfl) ?_
 refine s0 (rd_move' rfl) ?_
 refine s0 (rd_nilck' rfl) ?_
 refine s0 (rd_field0' rfl Try.underlying138 rfl info126 rfl) ?_
 refine s0 (rd_field0' rfl Try.underlying126 rfl info124 rfl) ?_
 refine s0 (rd_field' (off := 3) rfl Try.underlying124 rfl info3 rfl) ?_
 refine sx_ox' (ox_store' (i := 0) (o := 3) rfl rfl (lv_vl rfl rfl) ⟨rfl, rfl, rfl, rfl⟩ rfl info3 rfl (H' := [⟨.pointer (some wa0), [(Vi a0_0), (Vi a0_1), (Sl Kf a0_2), (Vi a1)], 138, none⟩]) rfl) (wt_none' rfl) fun _ => ?_
 refine nk hK2 ?_
 refine cr fun K3 hK3 => ?_
 refine s0 (rd_move' rfl) ?_
 refine s0 (rd_assign' rfl) ?_
 refine nk hK3 ?_
 refine cx_retc' ?_
 replace hp := Option.some.inj hp
 subst hp
 refine tx_pick' (L' := [(4, (Vp wa0))]) (H' := [⟨.pointer (some wa0), [(Vi a0_0), (Vi a0_1), (Sl Kf a0_2), (Vi a1)], 138, none⟩]) [0] (sub_cons rfl sub_nil) (by decide) (pick_cons rfl pick_nil) ?_
 exact tx_ret1' Try.results63 rfl () (rv_tmp' rfl) (List.Sublist.refl _)

def gogeom_NewLinearRingFlat (k : Nat) (a0 : Int) (a1 : List Nat) : Option (Int × Int × (List Nat) × Int) :=
 (gogeom_Layout_Stride k a0) >>= fun r15 =>
 some (a0, r15, a1, 0)

theorem gogeom_NewLinearRingFlat_sim {k : Nat}  (a0 : Int) (a1 : List Nat) {out : Int × Int × (List Nat) × Int} (hp : gogeom_NewLinearRingFlat k a0 a1 = some out) : Sx.Fn Try.prog 64 [(Vi a0), (Sl Kf a1)] [] (fun w : Addr => (Vp w)) (fun w => [⟨.pointer (some w), [(Vi out.1), (Vi out.2.1), (Sl Kf out.2.2.1), (Vi out.2.2.2)], 128, none⟩]) := by
 unfold gogeom_NewLinearRingFlat at hp
 refine fn_of Try.func64 rfl Try.ntmps64 rfl fun E hM => ?_
 refine cr fun K1 hK1 => ?_
 refine s0 (rd_assign' rfl) ?_
 refine nk hK1 ?_
 refine cr fun K2 hK2 => ?_
 refine sx_ox' (ox_alloc' info128 rfl rfl rfl rfl (l := [(Vi 0), (Vi 0), Vn, (Vi 0)]) rfl) (wt_none' rfl) fun q6 => ?_
 refine s0 (rd_assign' rfl) ?_
 refine nk hK2 ?_
 refine cr fun K3 hK3 => ?_
 refine s0 (rd_move' rfl) ?_
 refine s0 (rd_move' rfl) ?_
 refine s0 (rd_nilck' rfl) ?_
 refine s0 (rd_field0' rfl Try.underlying128 rfl info126 rfl) ?_
 refine s0 (rd_field0' rfl Try.underlying126 rfl info124 rfl) ?_
 refine s0 (rd_field0' rfl Try.underlying124 rfl info61 rfl) ?_
 refine sx_ox' (ox_store' (i := 0) (o := 0) rfl rfl (lv_vl rfl rfl) ⟨rfl, rfl, rfl, rfl⟩ rfl info61 rfl (H' := [⟨.pointer (some q6), [(Vi a0), (Vi 0), Vn, (Vi 0)], 128, none⟩]) rfl) (wt_none' rfl) fun _ => ?_
 refine nk hK3 ?_
 refine cr fun K4 hK4 => ?_
 refine s0 (rd_move' rfl) ?_
 refine s0 (rd_move' rfl) ?_
 obtain ⟨r15, hr15, hp⟩ := bind_some hp
 refine sx_ox' (ox_calln' (ent_fn' Try.func89 isn89 rfl rfl) (gogeom_Layout_Stride_sim _ hr15 : Sx.Fn Try.prog 89 [(Vi a0)] [] (fun x : Unit => (Vi r15)) (fun x => [])) (Hn := fun x : Unit => [⟨.pointer (some q6), [(Vi a0), (Vi 0), Vn, (Vi 0)], 128, none⟩]) (fun _ => rfl) rfl rfl) (wt_none' rfl) fun ⟨⟩ => ?_
 refine s0 (rd_nilck' rfl) ?_
 refine s0 (rd_field0' rfl Try.underlying128 rfl info126 rfl) ?_
 refine s0 (rd_field0' rfl Try.underlying126 rfl info124 rfl) ?_
 refine s0 (rd_field' (off := 1) rfl Try.underlying124 rfl info3 rfl) ?_
 refine sx_ox' (ox_store' (i := 0) (o := 1) rfl rfl (lv_vl rfl rfl) ⟨rfl, rfl, rfl, rfl⟩ rfl info3 rfl (H' := [⟨.pointer (some q6), [(Vi a0), (Vi r15), Vn, (Vi 0)], 128, none⟩]) rfl) (wt_none' rfl) fun _ => ?_
 refine nk hK4 ?_
 refine cr fun K5 hK5 => ?_
 refine s0 (rd_move' rfl) ?_
 refine s0 (rd_move' rfl) ?_
 refine s0 (rd_nilck' rfl) ?_
 refine s0 (rd_field0' rfl Try.underlying128 rfl info126 rfl) ?_
 refine s0 (rd_field0' rfl Try.underlying126 rfl info124 rfl) ?_
 refine s0 (rd_field' (off := 2) rfl Try.underlying124 rfl info22 rfl) ?_
 refine sx_ox' (ox_store' (i := 0) (o := 2) rfl rfl (lv_sl _ _) ⟨rfl, rfl, rfl, rfl⟩ rfl info22 rfl (H' := [⟨.pointer (some q6), [(Vi a0), (Vi r15), (Sl Kf a1), (Vi 0)], 128, none⟩]) rfl) (wt_none' rfl) fun _ => ?_
 refine nk hK5 ?_
 refine cr fun K6 hK6 => ?_
 refine s0 (rd_move' rfl) ?_
 refine s0 (rd_assign' rfl) ?_
 refine nk hK6 ?_
 refine cx_retc' ?_
 replace hp := Option.some.inj hp
 subst hp
 refine tx_pick' (L' := [(4, (Vp q6))]) (H' := [⟨.pointer (some q6), [(Vi a0), (Vi r15), (Sl Kf a1), (Vi 0)], 128, none⟩]) [0] (sub_cons rfl sub_nil) (by decide) (pick_cons rfl pick_nil) ?_
 exact tx_ret1' Try.results64 rfl q6 (rv_tmp' rfl) (List.Sublist.refl _)

def gogeom_LinearRing_SetSRID (k : Nat) (a0_0 : Int) (a0_1 : Int) (a0_2 : List Nat) (a0_3 : Int) (a1 : Int) : Option (Int × Int × (List Nat) × Int) :=
 some (a0_0, a0_1, a0_2, a1)

theorem gogeom_LinearRing_SetSRID_sim {k : Nat} {wa0 : Addr} (a0_0 : Int) (a0_1 : Int) (a0_2 : List Nat) (a0_3 : Int) (a1 : Int) {out : Int × Int × (List Nat) × Int} (hp : gogeom_LinearRing_SetSRID k a0_0 a0_1 a0_2 a0_3 a1 = some out) : Sx.Fn Try.prog 65 [(Vp wa0), (Vi a1)] [⟨.pointer (some wa0), [(Vi a0_0), (Vi a0_1), (Sl Kf a0_2), (Vi a0_3)], 128, none⟩] (fun w : Unit => (Vp wa0)) (fun w => [⟨.pointer (some wa0), [(Vi out.1), (Vi out.2.1), (Sl Kf out.2.2.1), (Vi out.2.2.2)], 128, none⟩]) := by
 unfold gogeom_LinearRing_SetSRID at hp
 refine fn_of Try.func65 rfl Try.ntmps65 rfl fun E hM => ?_
 refine cr fun K1 hK1 => ?_
 refine s0 (rd_assign' rfl) ?_
 refine nk hK1 ?_
 refine cr fun K2 hK2 => ?_
 refine s0 (rd_move' rfl) ?_
 refine s0 (rd_move' rfl) ?_
 refine s0 (rd_nilck' rfl) ?_
 refine s0 (rd_field0' rfl Try.underlying128 rfl info126 rfl) ?_
 refine s0 (rd_field0' rfl Try.underlying126 rfl info124 rfl) ?_
 refine s0 (rd_field' (off := 3) rfl Try.underlying124 rfl info3 rfl) ?_
 refine sx_ox' (ox_store' (i := 0) (o := 3) rfl rfl (lv_vl rfl rfl) ⟨rfl, rfl, rfl, rfl⟩ rfl info3 rfl (H' := [⟨.pointer (some wa0), [(Vi a0_0), (Vi a0_1), (Sl Kf a0_2), (Vi a1)], 128, none⟩]) rfl) (wt_none' rfl) fun _ => ?_
 refine nk hK2 ?_
 refine cr fun K3 hK3 => ?_
 refine s0 (rd_move' rfl) ?_
 refine s0 (rd_assign' rfl) ?_
 refine nk hK3 ?_
 refine cx_retc' ?_
 replace hp := Option.some.inj hp
 subst hp
 refine tx_pick' (L' := [(4, (Vp wa0))]) (H' := [⟨.pointer (some wa0), [(Vi a0_0), (Vi a0_1), (Sl Kf a0_2), (Vi a1)], 128, none⟩]) [0] (sub_cons rfl sub_nil) (by decide) (pick_cons rfl pick_nil) ?_
 exact tx_ret1' Try.results65 rfl () (rv_tmp' rfl) (List.Sublist.refl _)

def impl_ints (k : Nat) (a0 : List Int) : Option (Unit ⊕ (List Int)) :=
 br a0.isEmpty
  (some (.inl ()))
  ((apd 8 [] a0) >>= fun r4 =>
  some (.inr r4))
def impl_ints_r  (a0 : List Int) (out : Unit ⊕ (List Int)) (w : Unit) : SV := match out with
 | (.inl y) => Vn
 | (.inr y) => (Sl (Ki .i64) y)
def impl_ints_h  (a0 : List Int) (out : Unit ⊕ (List Int)) (w : Unit) : List Res := match out with
 | (.inl y) => []
 | (.inr y) => []

theorem impl_ints_sim {k : Nat}  (a0 : List Int) {out : Unit ⊕ (List Int)} (hp : impl_ints k a0 = some out) : Sx.Fn Try.prog 58 [(Sl (Ki .i64) a0)] [] (fun w => impl_ints_r a0 out w) (fun w => impl_ints_h a0 out w) := by
 unfold impl_ints at hp
 refine fn_of Try.func58 rfl Try.ntmps58 rfl fun E hM => ?_
 refine cr fun K1 hK1 => ?_
 refine s0 (rd_assign' rfl) ?_
 refine nk hK1 ?_
 refine cr fun K2 hK2 => ?_
 refine s0 (rd_move' rfl) ?_
 rcases br_cases hp with ⟨h1, hp⟩ | ⟨h1, hp⟩
 ·refine s0 (rd_append0' (K := (Ki .i64)) (xs := a0) rfl rfl h1 Try.underlying23 Try.underlying23 info3) ?_
  refine s0 (rd_assign' rfl) ?_
  refine nk hK2 ?_
  refine cx_retc' ?_
  replace hp := Option.some.inj hp
  subst hp
  refine tx_pick' (L' := [(2, Vn)]) (H' := []) [] (sub_cons rfl sub_nil) (by decide) pick_nil ?_
  exact tx_ret1' Try.results58 rfl () (rv_tmp' rfl) (List.Sublist.refl _)
 refine tx_nilrow' (Ki .i64) 3 ?_
 obtain ⟨r4, hr4, hp⟩ := bind_some hp
 refine sx_ox' (ox_append' (K := (Ki .i64)) (i := 0) (xs := []) (ys := a0) rfl rfl rfl (sr_sl' rfl Try.underlying23) hr4 Try.underlying23 info3 rfl rfl rfl (H' := []) rfl) (wt_none' rfl) fun g4 => ?_
 refine s0 (rd_assign' rfl) ?_
 refine nk hK2 ?_
 refine cx_retc' ?_
 replace hp := Option.some.inj hp
 subst hp
 refine tx_fz' (frz_row 0 [(2, (Vl (Vs g4)), (Sl (Ki .i64) r4)), (4, (Vl (Vs g4)), (Sl (Ki .i64) r4))] (K := (Ki .i64)) (xs := r4) (by decide) rfl ⟨⟨rfl, frz_it⟩, ⟨rfl, frz_it⟩, trivial⟩ (H' := []) frzH_refl) ?_
 refine tx_pick' (L' := [(2, (Sl (Ki .i64) r4))]) (H' := []) [] (sub_cons rfl sub_nil) (by decide) pick_nil ?_
 exact tx_ret1' Try.results58 rfl () (rv_tmp' rfl) (List.Sublist.refl _)

def gogeom_NewPolygonFlat (k : Nat) (a0 : Int) (a1 : List Nat) : Option (Int × Int × (List Nat) × Int) :=
 (gogeom_Layout_Stride k a0) >>= fun r18 =>
 some (a0, r18, a1, 0)

theorem gogeom_NewPolygonFlat_sim {k : Nat}  (a0 : Int) (a1 : List Nat) {out : Int × Int × (List Nat) × Int} (hp : gogeom_NewPolygonFlat k a0 a1 = some out) : Sx.Fn Try.prog 66 [(Vi a0), (Sl Kf a1), Vn] [] (fun w : Addr => (Vp w)) (fun w => [⟨.pointer (some w), [(Vi out.1), (Vi out.2.1), (Sl Kf out.2.2.1), (Vi out.2.2.2), Vn], 132, none⟩]) := by
 unfold gogeom_NewPolygonFlat at hp
 refine fn_of Try.func66 rfl Try.ntmps66 rfl fun E hM => ?_
 refine cr fun K1 hK1 => ?_
 refine s0 (rd_assign' rfl) ?_
 refine nk hK1 ?_
 refine cr fun K2 hK2 => ?_
 refine sx_ox' (ox_alloc' info132 rfl rfl rfl rfl (l := [(Vi 0), (Vi 0), Vn, (Vi 0), Vn]) rfl) (wt_none' rfl) fun q8 => ?_
 refine s0 (rd_assign' rfl) ?_
 refine nk hK2 ?_
 refine cr fun K3 hK3 => ?_
 refine s0 (rd_move' rfl) ?_
 refine s0 (rd_move' rfl) ?_
 refine s0 (rd_nilck' rfl) ?_
 refine s0 (rd_field0' rfl Try.underlying132 rfl info130 rfl) ?_
 refine s0 (rd_field0' rfl Try.underlying130 rfl info126 rfl) ?_
 refine s0 (rd_field0' rfl Try.underlying126 rfl info124 rfl) ?_
 refine s0 (rd_field0' rfl Try.underlying124 rfl info61 rfl) ?_
 refine sx_ox' (ox_store' (i := 0) (o := 0) rfl rfl (lv_vl rfl rfl) ⟨rfl, rfl, rfl, rfl⟩ rfl info61 rfl (H' := [⟨.pointer (some q8), [(Vi a0), (Vi 0), Vn, (Vi 0), Vn], 132, none⟩]) rfl) (wt_none' rfl) fun _ => ?_
 refine nk hK3 ?_
 refine cr fun K4 hK4 => ?_
 refine s0 (rd_move' rfl) ?_
 refine s0 (rd_move' rfl) ?_
 obtain ⟨r18, hr18, hp⟩ := bind_some hp
 refine sx_ox' (ox_calln' (ent_fn' Try.func89 isn89 rfl rfl) (gogeom_Layout_Stride_sim _ hr18 : Sx.Fn Try.prog 89 [(Vi a0)] [] (fun x : Unit => (Vi r18)) (fun x => [])) (Hn := fun x : Unit => [⟨.pointer (some q8), [(Vi a0), (Vi 0), Vn, (Vi 0), Vn], 132, none⟩]) (fun _ => rfl) rfl rfl) (wt_none' rfl) fun ⟨⟩ => ?_
 refine s0 (rd_nilck' rfl) ?_
 refine s0 (rd_field0' rfl Try.underlying132 rfl info130 rfl) ?_
 refine s0 (rd_field0' rfl Try.underlying130 rfl info126 rfl) ?_
 refine s0 (rd_field0' rfl Try.underlying126 rfl info124 rfl) ?_
 refine s0 (rd_field' (off := 1) rfl Try.underlying124 rfl info3 rfl) ?_
 refine sx_ox' (ox_store' (i := 0) (o := 1) rfl rfl (lv_vl rfl rfl) ⟨rfl, rfl, rfl, rfl⟩ rfl info3 rfl (H' := [⟨.pointer (some q8), [(Vi a0), (Vi r18), Vn, (Vi 0), Vn], 132, none⟩]) rfl) (wt_none' rfl) fun _ => ?_
 refine nk hK4 ?_
 refine cr fun K5 hK5 => ?_
 refine s0 (rd_move' rfl) ?_
 refine s0 (rd_move' rfl) ?_
 refine s0 (rd_nilck' rfl) ?_
 refine s0 (rd_field0' rfl Try.underlying132 rfl info130 rfl) ?_
 refine s0 (rd_field0' rfl Try.underlying130 rfl info126 rfl) ?_
 refine s0 (rd_field0' rfl Try.underlying126 rfl info124 rfl) ?_
 refine s0 (rd_field' (off := 2) rfl Try.underlying124 rfl info22 rfl) ?_
 refine sx_ox' (ox_store' (i := 0) (o := 2) rfl rfl (lv_sl _ _) ⟨rfl, rfl, rfl, rfl⟩ rfl info22 rfl (H' := [⟨.pointer (some q8), [(Vi a0), (Vi r18), (Sl Kf a1), (Vi 0), Vn], 132, none⟩]) rfl) (wt_none' rfl) fun _ => ?_
 refine nk hK5 ?_
 refine cr fun K6 hK6 => ?_
 refine s0 (rd_move' rfl) ?_
 refine s0 (rd_move' rfl) ?_
 refine s0 (rd_nilck' rfl) ?_
 refine s0 (rd_field0' rfl Try.underlying132 rfl info130 rfl) ?_
 refine s0 (rd_field' (off := 4) rfl Try.underlying130 rfl info23 rfl) ?_
 refine sx_ox' (ox_store' (i := 0) (o := 4) rfl rfl (lv_vl rfl rfl) ⟨rfl, rfl, rfl, rfl⟩ rfl info23 rfl (H' := [⟨.pointer (some q8), [(Vi a0), (Vi r18), (Sl Kf a1), (Vi 0), Vn], 132, none⟩]) rfl) (wt_none' rfl) fun _ => ?_
 refine nk hK6 ?_
 refine cr fun K7 hK7 => ?_
 refine s0 (rd_move' rfl) ?_
 refine s0 (rd_assign' rfl) ?_
 refine nk hK7 ?_
 refine cx_retc' ?_
 replace hp := Option.some.inj hp
 subst hp
 refine tx_pick' (L' := [(6, (Vp q8))]) (H' := [⟨.pointer (some q8), [(Vi a0), (Vi r18), (Sl Kf a1), (Vi 0), Vn], 132, none⟩]) [0] (sub_cons rfl sub_nil) (by decide) (pick_cons rfl pick_nil) ?_
 exact tx_ret1' Try.results66 rfl q8 (rv_tmp' rfl) (List.Sublist.refl _)

def gogeom_Polygon_SetSRID (k : Nat) (a0_0 : Int) (a0_1 : Int) (a0_2 : List Nat) (a0_3 : Int) (a1 : Int) : Option (Int × Int × (List Nat) × Int) :=
 some (a0_0, a0_1, a0_2, a1)

theorem gogeom_Polygon_SetSRID_sim {k : Nat} {wa0 : Addr} (a0_0 : Int) (a0_1 : Int) (a0_2 : List Nat) (a0_3 : Int) (a1 : Int) {out : Int × Int × (List Nat) × Int} (hp : gogeom_Polygon_SetSRID k a0_0 a0_1 a0_2 a0_3 a1 = some out) : Sx.Fn Try.prog 67 [(Vp wa0), (Vi a1)] [⟨.pointer (some wa0), [(Vi a0_0), (Vi a0_1), (Sl Kf a0_2), (Vi a0_3), Vn], 132, none⟩] (fun w : Unit => (Vp wa0)) (fun w => [⟨.pointer (some wa0), [(Vi out.1), (Vi out.2.1), (Sl Kf out.2.2.1), (Vi out.2.2.2), Vn], 132, none⟩]) := by
 unfold gogeom_Polygon_SetSRID at hp
 refine fn_of Try.func67 rfl Try.ntmps67 rfl fun E hM => ?_
 refine cr fun K1 hK1 => ?_
 refine s0 (rd_assign' rfl) ?_
 refine nk hK1 ?_
 refine cr fun K2 hK2 => ?_
 refine s0 (rd_move' rfl) ?_
 refine s0 (rd_move' rfl) ?_
 refine s0 (rd_nilck' rfl) ?_
 refine s0 (rd_field0' rfl Try.underlying132 rfl info130 rfl) ?_
 refine s0 (rd_field0' rfl Try.underlying130 rfl info126 rfl) ?_
 refine s0 (rd_field0' rfl Try.underlying126 rfl info124 rfl) ?_
 refine s0 (rd_field' (off := 3) rfl Try.underlying124 rfl info3 rfl) ?_
 refine sx_ox' (ox_store' (i := 0) (o := 3) rfl rfl (lv_vl rfl rfl) ⟨rfl, rfl, rfl, rfl⟩ rfl info3 rfl (H' := [⟨.pointer (some wa0), [(Vi a0_0), (Vi a0_1), (Sl Kf a0_2), (Vi a1), Vn], 132, none⟩]) rfl) (wt_none' rfl) fun _ => ?_
 refine nk hK2 ?_
 refine cr fun K3 hK3 => ?_
 refine s0 (rd_move' rfl) ?_
 refine s0 (rd_assign' rfl) ?_
 refine nk hK3 ?_
 refine cx_retc' ?_
 replace hp := Option.some.inj hp
 subst hp
 refine tx_pick' (L' := [(4, (Vp wa0))]) (H' := [⟨.pointer (some wa0), [(Vi a0_0), (Vi a0_1), (Sl Kf a0_2), (Vi a1), Vn], 132, none⟩]) [0] (sub_cons rfl sub_nil) (by decide) (pick_cons rfl pick_nil) ?_
 exact tx_ret1' Try.results67 rfl () (rv_tmp' rfl) (List.Sublist.refl _)

def gogeom_NewPolygonFlat_v2 (k : Nat) (a0 : Int) (a1 : List Nat) (a2 : List Int) : Option (Int × Int × (List Nat) × Int × (List Int)) :=
 (gogeom_Layout_Stride k a0) >>= fun r18 =>
 some (a0, r18, a1, 0, a2)

theorem gogeom_NewPolygonFlat_v2_sim {k : Nat}  (a0 : Int) (a1 : List Nat) (a2 : List Int) {out : Int × Int × (List Nat) × Int × (List Int)} (hp : gogeom_NewPolygonFlat_v2 k a0 a1 a2 = some out) : Sx.Fn Try.prog 66 [(Vi a0), (Sl Kf a1), (Sl (Ki .i64) a2)] [] (fun w : Addr => (Vp w)) (fun w => [⟨.pointer (some w), [(Vi out.1), (Vi out.2.1), (Sl Kf out.2.2.1), (Vi out.2.2.2.1), (Sl (Ki .i64) out.2.2.2.2)], 132, none⟩]) := by
 unfold gogeom_NewPolygonFlat_v2 at hp
 refine fn_of Try.func66 rfl Try.ntmps66 rfl fun E hM => ?_
 refine cr fun K1 hK1 => ?_
 refine s0 (rd_assign' rfl) ?_
 refine nk hK1 ?_
 refine cr fun K2 hK2 => ?_
 refine sx_ox' (ox_alloc' info132 rfl rfl rfl rfl (l := [(Vi 0), (Vi 0), Vn, (Vi 0), Vn]) rfl) (wt_none' rfl) fun q8 => ?_
 refine s0 (rd_assign' rfl) ?_
 refine nk hK2 ?_
 refine cr fun K3 hK3 => ?_
 refine s0 (rd_move' rfl) ?_
 refine s0 (rd_move' rfl) ?_
 refine s0 (rd_nilck' rfl) ?_
 refine s0 (rd_field0' rfl Try.underlying132 rfl info130 rfl) ?_
 refine s0 (rd_field0' rfl Try.underlying130 rfl info126 rfl) ?_
 refine s0 (rd_field0' rfl Try.underlying126 rfl info124 rfl) ?_
 refine s0 (rd_field0' rfl Try.underlying124 rfl info61 rfl) ?_
 refine sx_ox' (ox_store' (i := 0) (o := 0) rfl rfl (lv_vl rfl rfl) ⟨rfl, rfl, rfl, rfl⟩ rfl info61 rfl (H' := [⟨.pointer (some q8), [(Vi a0), (Vi 0), Vn, (Vi 0), Vn], 132, none⟩]) rfl) (wt_none' rfl) fun _ => ?_
 refine nk hK3 ?_
 refine cr fun K4 hK4 => ?_
 refine s0 (rd_move' rfl) ?_
 refine s0 (rd_move' rfl) ?_
 obtain ⟨r18, hr18, hp⟩ := bind_some hp
 refine sx_ox' (ox_calln' (ent_fn' Try.func89 isn89 rfl rfl) (gogeom_Layout_Stride_sim _ hr18 : Sx.Fn Try.prog 89 [(Vi a0)] [] (fun x : Unit => (Vi r18)) (fun x => [])) (Hn := fun x : Unit => [⟨.pointer (some q8), [(Vi a0), (Vi 0), Vn, (Vi 0), Vn], 132, none⟩]) (fun _ => rfl) rfl rfl) (wt_none' rfl) fun ⟨⟩ => ?_
 refine s0 (rd_nilck' rfl) ?_
 refine s0 (rd_field0' rfl Try.underlying132 rfl info130 rfl) ?_
 refine s0 (rd_field0' rfl Try.underlying130 rfl info126 rfl) ?_
 refine s0 (rd_field0' rfl Try.underlying126 rfl info124 rfl) ?_
 refine s0 (rd_field' (off := 1) rfl Try.underlying124 rfl info3 rfl) ?_
 refine sx_ox' (ox_store' (i := 0) (o := 1) rfl rfl (lv_vl rfl rfl) ⟨rfl, rfl, rfl, rfl⟩ rfl info3 rfl (H' := [⟨.pointer (some q8), [(Vi a0), (Vi r18), Vn, (Vi 0), Vn], 132, none⟩]) rfl) (wt_none' rfl) fun _ => ?_
 refine nk hK4 ?_
 refine cr fun K5 hK5 => ?_
 refine s0 (rd_move' rfl) ?_
 refine s0 (rd_move' rfl) ?_
 refine s0 (rd_nilck' rfl) ?_
 refine s0 (rd_field0' rfl Try.underlying132 rfl info130 rfl) ?_
 refine s0 (rd_field0' rfl Try.underlying130 rfl info126 rfl) ?_
 refine s0 (rd_field0' rfl Try.underlying126 rfl info124 rfl) ?_
 refine s0 (rd_field' (off := 2) rfl Try.underlying124 rfl info22 rfl) ?_
 refine sx_ox' (ox_store' (i := 0) (o := 2) rfl rfl (lv_sl _ _) ⟨rfl, rfl, rfl, rfl⟩ rfl info22 rfl (H' := [⟨.pointer (some q8), [(Vi a0), (Vi r18), (Sl Kf a1), (Vi 0), Vn], 132, none⟩]) rfl) (wt_none' rfl) fun _ => ?_
 refine nk hK5 ?_
 refine cr fun K6 hK6 => ?_
 refine s0 (rd_move' rfl) ?_
 refine s0 (rd_move' rfl) ?_
 refine s0 (rd_nilck' rfl) ?_
 refine s0 (rd_field0' rfl Try.underlying132 rfl info130 rfl) ?_
 refine s0 (rd_field' (off := 4) rfl Try.underlying130 rfl info23 rfl) ?_
 refine sx_ox' (ox_store' (i := 0) (o := 4) rfl rfl (lv_sl _ _) ⟨rfl, rfl, rfl, rfl⟩ rfl info23 rfl (H' := [⟨.pointer (some q8), [(Vi a0), (Vi r18), (Sl Kf a1), (Vi 0), (Sl (Ki .i64) a2)], 132, none⟩]) rfl) (wt_none' rfl) fun _ => ?_
 refine nk hK6 ?_
 refine cr fun K7 hK7 => ?_
 refine s0 (rd_move' rfl) ?_
 refine s0 (rd_assign' rfl) ?_
 refine nk hK7 ?_
 refine cx_retc' ?_
 replace hp := Option.some.inj hp
 subst hp
 refine tx_pick' (L' := [(6, (Vp q8))]) (H' := [⟨.pointer (some q8), [(Vi a0), (Vi r18), (Sl Kf a1), (Vi 0), (Sl (Ki .i64) a2)], 132, none⟩]) [0] (sub_cons rfl sub_nil) (by decide) (pick_cons rfl pick_nil) ?_
 exact tx_ret1' Try.results66 rfl q8 (rv_tmp' rfl) (List.Sublist.refl _)

def gogeom_Polygon_SetSRID_v2 (k : Nat) (a0_0 : Int) (a0_1 : Int) (a0_2 : List Nat) (a0_3 : Int) (a0_4 : List Int) (a1 : Int) : Option (Int × Int × (List Nat) × Int × (List Int)) :=
 some (a0_0, a0_1, a0_2, a1, a0_4)

theorem gogeom_Polygon_SetSRID_v2_sim {k : Nat} {wa0 : Addr} (a0_0 : Int) (a0_1 : Int) (a0_2 : List Nat) (a0_3 : Int) (a0_4 : List Int) (a1 : Int) {out : Int × Int × (List Nat) × Int × (List Int)} (hp : gogeom_Polygon_SetSRID_v2 k a0_0 a0_1 a0_2 a0_3 a0_4 a1 = some out) : Sx.Fn Try.prog 67 [(Vp wa0), (Vi a1)] [⟨.pointer (some wa0), [(Vi a0_0), (Vi a0_1), (Sl Kf a0_2), (Vi a0_3), (Sl (Ki .i64) a0_4)], 132, none⟩] (fun w : Unit => (Vp wa0)) (fun w => [⟨.pointer (some wa0), [(Vi out.1), (Vi out.2.1), (Sl Kf out.2.2.1), (Vi out.2.2.2.1), (Sl (Ki .i64) out.2.2.2.2)], 132, none⟩]) := by
 unfold gogeom_Polygon_SetSRID_v2 at hp
 refine fn_of Try.func67 rfl Try.ntmps67 rfl fun E hM => ?_
 refine cr fun K1 hK1 => ?_
 refine s0 (rd_assign' rfl) ?_
 refine nk hK1 ?_
 refine cr fun K2 hK2 => ?_
 refine s0 (rd_move' rfl) ?_
 refine s0 (rd_move' rfl) ?_
 refine s0 (rd_nilck' rfl) ?_
 refine s0 (rd_field0' rfl Try.underlying132 rfl info130 rfl) ?_
 refine s0 (rd_field0' rfl Try.underlying130 rfl info126 rfl) ?_
 refine s0 (rd_field0' rfl Try.underlying126 rfl info124 rfl) ?_
 refine s0 (rd_field' (off := 3) rfl Try.underlying124 rfl info3 rfl) ?_
 refine sx_ox' (ox_store' (i := 0) (o := 3) rfl rfl (lv_vl rfl rfl) ⟨rfl, rfl, rfl, rfl⟩ rfl info3 rfl (H' := [⟨.pointer (some wa0), [(Vi a0_0), (Vi a0_1), (Sl Kf a0_2), (Vi a1), (Sl (Ki .i64) a0_4)], 132, none⟩]) rfl) (wt_none' rfl) fun _ => ?_
 refine nk hK2 ?_
 refine cr fun K3 hK3 => ?_
 refine s0 (rd_move' rfl) ?_
 refine s0 (rd_assign' rfl) ?_
 refine nk hK3 ?_
 refine cx_retc' ?_
 replace hp := Option.some.inj hp
 subst hp
 refine tx_pick' (L' := [(4, (Vp wa0))]) (H' := [⟨.pointer (some wa0), [(Vi a0_0), (Vi a0_1), (Sl Kf a0_2), (Vi a1), (Sl (Ki .i64) a0_4)], 132, none⟩]) [0] (sub_cons rfl sub_nil) (by decide) (pick_cons rfl pick_nil) ?_
 exact tx_ret1' Try.results67 rfl () (rv_tmp' rfl) (List.Sublist.refl _)

def gogeom_NewMultiPointFlatOptionWithEnds (k : Nat)  : Option (Unit) :=
 some ()

theorem gogeom_NewMultiPointFlatOptionWithEnds_sim {k : Nat}   {out : Unit} (hp : gogeom_NewMultiPointFlatOptionWithEnds k = some out) : Sx.Fn Try.prog 69 [Vn] [] (fun w : Addr => (Vl (.func (.func 90) #[] ⟨[.pointer (some w)]⟩))) (fun w => [⟨.pointer (some w), [Vn], 23, none⟩]) := by
 unfold gogeom_NewMultiPointFlatOptionWithEnds at hp
 refine fn_of Try.func69 rfl Try.ntmps69 rfl fun E hM => ?_
 refine cr fun K1 hK1 => ?_
 refine sx_ox' (ox_box' rfl (lv_vl rfl rfl) rfl rfl) (wt_none' rfl) fun q1 => ?_
 refine s0 (rd_assign' rfl) ?_
 refine nk hK1 ?_
 refine cr fun K2 hK2 => ?_
 refine s0 (rd_mkfunc' (us := [.pointer (some q1)]) rfl) ?_
 refine s0 (rd_assign' rfl) ?_
 refine nk hK2 ?_
 refine cx_retc' ?_
 replace hp := Option.some.inj hp
 subst hp
 refine tx_pick' (L' := [(2, (Vl (.func (.func 90) #[] ⟨[.pointer (some q1)]⟩)))]) (H' := [⟨.pointer (some q1), [Vn], 23, none⟩]) [0] (sub_cons rfl sub_nil) (by decide) (pick_cons rfl pick_nil) ?_
 exact tx_ret1' Try.results69 rfl q1 (rv_tmp' rfl) (List.Sublist.refl _)

def gogeom_NewMultiPointFlatOptionWithEnds_1 (k : Nat) (a0_0 : Int) (a0_1 : Int) (a0_2 : List Nat) (a0_3 : Int) : Option (Int × Int × (List Nat) × Int) :=
 some (a0_0, a0_1, a0_2, a0_3)

theorem gogeom_NewMultiPointFlatOptionWithEnds_1_sim {k : Nat} {wa0 : Addr} {wa1 : Addr} (a0_0 : Int) (a0_1 : Int) (a0_2 : List Nat) (a0_3 : Int) {out : Int × Int × (List Nat) × Int} (hp : gogeom_NewMultiPointFlatOptionWithEnds_1 k a0_0 a0_1 a0_2 a0_3 = some out) : Sx.Fn Try.prog 90 [(Vp wa0), (Vp wa1)] [⟨.pointer (some wa0), [(Vi a0_0), (Vi a0_1), (Sl Kf a0_2), (Vi a0_3), Vn], 136, none⟩, ⟨.pointer (some wa1), [Vn], 23, none⟩] (fun w : Unit => (Vl (.tuple #[]))) (fun w => [⟨.pointer (some wa0), [(Vi out.1), (Vi out.2.1), (Sl Kf out.2.2.1), (Vi out.2.2.2), Vn], 136, none⟩, ⟨.pointer (some wa1), [Vn], 23, none⟩]) := by
 unfold gogeom_NewMultiPointFlatOptionWithEnds_1 at hp
 refine fn_of Try.func90 rfl Try.ntmps90 rfl fun E hM => ?_
 refine cx_region' ?_
 refine s0 (rd_move' rfl) ?_
 refine s0 (rd_load' (i := 1) (o := 0) rfl ⟨rfl, rfl, rfl, rfl⟩ rfl flat23) ?_
 refine s0 (rd_nilck' rfl) ?_
 refine s0 (rd_field0' rfl Try.underlying136 rfl info130 rfl) ?_
 refine s0 (rd_field' (off := 4) rfl Try.underlying130 rfl info23 rfl) ?_
 refine sx_ox' (ox_store' (i := 0) (o := 4) rfl rfl (lv_vl rfl rfl) ⟨rfl, rfl, rfl, rfl⟩ rfl info23 rfl (H' := [⟨.pointer (some wa0), [(Vi a0_0), (Vi a0_1), (Sl Kf a0_2), (Vi a0_3), Vn], 136, none⟩, ⟨.pointer (some wa1), [Vn], 23, none⟩]) rfl) (wt_none' rfl) fun _ => ?_
 refine sx_nil' ?_
 replace hp := Option.some.inj hp
 subst hp
 refine tx_pick' (L' := []) (H' := [⟨.pointer (some wa0), [(Vi a0_0), (Vi a0_1), (Sl Kf a0_2), (Vi a0_3), Vn], 136, none⟩, ⟨.pointer (some wa1), [Vn], 23, none⟩]) [0, 1] sub_nil (by decide) (pick_cons rfl (pick_cons rfl pick_nil)) ?_
 exact tx_end0' Try.results90 rfl () rfl (List.Sublist.refl _)

end Go.Proofs.Ytmagcmeknclljaa
