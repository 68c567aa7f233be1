/-
  Plain functions for the Go functions that this law reaches, and that each call does what its plain function says. Printed by a program of ours.
-/
import Derived.Test.YtmagcmeknclljaaProg
import Derived.Test.YtmagcmeknclljaaSxX
namespace Go.Proofs.Ytmagcmeknclljaa
open Go.Sx
set_option linter.unusedVariables false
set_option linter.unusedSimpArgs false
set_option maxRecDepth 100000

theorem info27 : (Try.prog.info? 27).map (fun i => (i.zero, i.size, i.bytes)) = some (some (.agg #[.int .i64 0, .int .i64 0, .int .i64 0, .slice none 0 0, .slice none 0 0, .slice none 0 0, .slice none 0 0]), 7, 120) := by kernel_rfl
theorem agg27 : Agg Try.prog 27 7 := ⟨⟨_, Try.underlying27, .inl ⟨_, rfl⟩⟩, info_size info27⟩
theorem isn7 : (Try.f7.name == "runtime.NumGoroutine") = false := by kernel_rfl
theorem info22 : (Try.prog.info? 22).map (fun i => (i.zero, i.size, i.bytes)) = some (some (.slice none 0 0), 1, 24) := by kernel_rfl
theorem flat22 : Flat Try.prog 22 := ⟨_, Try.underlying22, fun _ h => (nomatch h), fun _ _ h => (nomatch h)⟩
theorem info23 : (Try.prog.info? 23).map (fun i => (i.zero, i.size, i.bytes)) = some (some (.slice none 0 0), 1, 24) := by kernel_rfl
theorem flat23 : Flat Try.prog 23 := ⟨_, Try.underlying23, fun _ h => (nomatch h), fun _ _ h => (nomatch h)⟩
theorem info24 : (Try.prog.info? 24).map (fun i => (i.zero, i.size, i.bytes)) = some (some (.slice none 0 0), 1, 24) := by kernel_rfl
theorem flat24 : Flat Try.prog 24 := ⟨_, Try.underlying24, fun _ h => (nomatch h), fun _ _ h => (nomatch h)⟩
theorem isn25 : (Try.f25.name == "runtime.NumGoroutine") = false := by kernel_rfl
theorem info25 : (Try.prog.info? 25).map (fun i => (i.zero, i.size, i.bytes)) = some (some (.slice none 0 0), 1, 24) := by kernel_rfl
theorem flat25 : Flat Try.prog 25 := ⟨_, Try.underlying25, fun _ h => (nomatch h), fun _ _ h => (nomatch h)⟩
theorem isn8 : (Try.f8.name == "runtime.NumGoroutine") = false := by kernel_rfl
theorem isn26 : (Try.f26.name == "runtime.NumGoroutine") = false := by kernel_rfl
theorem isn56 : (Try.f56.name == "runtime.NumGoroutine") = false := by kernel_rfl
theorem isn50 : (Try.f50.name == "runtime.NumGoroutine") = false := by kernel_rfl
theorem info3 : (Try.prog.info? 3).map (fun i => (i.zero, i.size, i.bytes)) = some (some (.int .i64 0), 1, 8) := by kernel_rfl
theorem flat3 : Flat Try.prog 3 := ⟨_, Try.underlying3, fun _ h => (nomatch h), fun _ _ h => (nomatch h)⟩
theorem isn27 : (Try.f27.name == "runtime.NumGoroutine") = false := by kernel_rfl
theorem isn47 : (Try.f47.name == "runtime.NumGoroutine") = false := by kernel_rfl
theorem mixed : Try.prog.follows .mixedOrders = true := by kernel_rfl
theorem isn57 : (Try.f57.name == "runtime.NumGoroutine") = false := by kernel_rfl
theorem isn16 : (Try.f16.name == "runtime.NumGoroutine") = false := by kernel_rfl
theorem isn38 : (Try.f38.name == "runtime.NumGoroutine") = false := by kernel_rfl
theorem isn14 : (Try.f14.name == "runtime.NumGoroutine") = false := by kernel_rfl
theorem isn15 : (Try.f15.name == "runtime.NumGoroutine") = false := by kernel_rfl
theorem isn37 : (Try.f37.name == "runtime.NumGoroutine") = false := by kernel_rfl
theorem isn18 : (Try.f18.name == "runtime.NumGoroutine") = false := by kernel_rfl
theorem isn39 : (Try.f39.name == "runtime.NumGoroutine") = false := by kernel_rfl
theorem isn40 : (Try.f40.name == "runtime.NumGoroutine") = false := by kernel_rfl
theorem places27 : placesOf Try.prog [{ name := "Kind", type := 3, offset := 0, embedded := false, tag := "", pkgPath := "", byteOffset := 0 }, { name := "Layout", type := 3, offset := 1, embedded := false, tag := "", pkgPath := "", byteOffset := 8 }, { name := "SRID", type := 3, offset := 2, embedded := false, tag := "", pkgPath := "", byteOffset := 16 }, { name := "Flat", type := 22, offset := 3, embedded := false, tag := "", pkgPath := "", byteOffset := 24 }, { name := "Ends", type := 23, offset := 4, embedded := false, tag := "", pkgPath := "", byteOffset := 48 }, { name := "Endss", type := 24, offset := 5, embedded := false, tag := "", pkgPath := "", byteOffset := 72 }, { name := "Kids", type := 25, offset := 6, embedded := false, tag := "", pkgPath := "", byteOffset := 96 }] = [(0, 1), (1, 1), (2, 1), (3, 1), (4, 1), (5, 1), (6, 1)] := by kernel_rfl
theorem has27 : ∀ f ∈ ([{ name := "Kind", type := 3, offset := 0, embedded := false, tag := "", pkgPath := "", byteOffset := 0 }, { name := "Layout", type := 3, offset := 1, embedded := false, tag := "", pkgPath := "", byteOffset := 8 }, { name := "SRID", type := 3, offset := 2, embedded := false, tag := "", pkgPath := "", byteOffset := 16 }, { name := "Flat", type := 22, offset := 3, embedded := false, tag := "", pkgPath := "", byteOffset := 24 }, { name := "Ends", type := 23, offset := 4, embedded := false, tag := "", pkgPath := "", byteOffset := 48 }, { name := "Endss", type := 24, offset := 5, embedded := false, tag := "", pkgPath := "", byteOffset := 72 }, { name := "Kids", type := 25, offset := 6, embedded := false, tag := "", pkgPath := "", byteOffset := 96 }] : List Field), (Try.prog.info? f.type).isSome = true := fun f hf => all_of (p := fun f => (Try.prog.info? f.type).isSome) (by kernel_rfl) f hf
theorem info32 : (Try.prog.info? 32).map (fun i => (i.zero, i.size, i.bytes)) = some (some (.float .f64 0), 1, 8) := by kernel_rfl
theorem isn17 : (Try.f17.name == "runtime.NumGoroutine") = false := by kernel_rfl
theorem isn19 : (Try.f19.name == "runtime.NumGoroutine") = false := by kernel_rfl
theorem isn30 : (Try.f30.name == "runtime.NumGoroutine") = false := by kernel_rfl
theorem isn59 : (Try.f59.name == "runtime.NumGoroutine") = false := by kernel_rfl
theorem isn60 : (Try.f60.name == "runtime.NumGoroutine") = false := by kernel_rfl
theorem info124 : (Try.prog.info? 124).map (fun i => (i.zero, i.size, i.bytes)) = some (some (.agg #[.int .i64 0, .int .i64 0, .slice none 0 0, .int .i64 0]), 4, 48) := by kernel_rfl
theorem info61 : (Try.prog.info? 61).map (fun i => (i.zero, i.size, i.bytes)) = some (some (.int .i64 0), 1, 8) := by kernel_rfl
theorem isn89 : (Try.f89.name == "runtime.NumGoroutine") = false := by kernel_rfl
theorem info135 : (Try.prog.info? 135).map (fun i => (i.zero, i.size, i.bytes)) = some (some (.agg #[.int .i64 0, .int .i64 0, .slice none 0 0, .int .i64 0]), 4, 48) := by kernel_rfl
theorem isn61 : (Try.f61.name == "runtime.NumGoroutine") = false := by kernel_rfl
theorem isn62 : (Try.f62.name == "runtime.NumGoroutine") = false := by kernel_rfl
theorem info126 : (Try.prog.info? 126).map (fun i => (i.zero, i.size, i.bytes)) = some (some (.agg #[.int .i64 0, .int .i64 0, .slice none 0 0, .int .i64 0]), 4, 48) := by kernel_rfl
theorem info138 : (Try.prog.info? 138).map (fun i => (i.zero, i.size, i.bytes)) = some (some (.agg #[.int .i64 0, .int .i64 0, .slice none 0 0, .int .i64 0]), 4, 48) := by kernel_rfl
theorem isn63 : (Try.f63.name == "runtime.NumGoroutine") = false := by kernel_rfl
theorem isn64 : (Try.f64.name == "runtime.NumGoroutine") = false := by kernel_rfl
theorem info128 : (Try.prog.info? 128).map (fun i => (i.zero, i.size, i.bytes)) = some (some (.agg #[.int .i64 0, .int .i64 0, .slice none 0 0, .int .i64 0]), 4, 48) := by kernel_rfl
theorem isn65 : (Try.f65.name == "runtime.NumGoroutine") = false := by kernel_rfl
theorem isn58 : (Try.f58.name == "runtime.NumGoroutine") = false := by kernel_rfl
theorem isn66 : (Try.f66.name == "runtime.NumGoroutine") = false := by kernel_rfl
theorem info130 : (Try.prog.info? 130).map (fun i => (i.zero, i.size, i.bytes)) = some (some (.agg #[.int .i64 0, .int .i64 0, .slice none 0 0, .int .i64 0, .slice none 0 0]), 5, 72) := by kernel_rfl
theorem info132 : (Try.prog.info? 132).map (fun i => (i.zero, i.size, i.bytes)) = some (some (.agg #[.int .i64 0, .int .i64 0, .slice none 0 0, .int .i64 0, .slice none 0 0]), 5, 72) := by kernel_rfl
theorem isn67 : (Try.f67.name == "runtime.NumGoroutine") = false := by kernel_rfl
theorem isn69 : (Try.f69.name == "runtime.NumGoroutine") = false := by kernel_rfl
theorem isn68 : (Try.f68.name == "runtime.NumGoroutine") = false := by kernel_rfl
theorem info101 : (Try.prog.info? 101).map (fun i => (i.zero, i.size, i.bytes)) = some (some (.nilFunc), 1, 8) := by kernel_rfl
theorem flat101 : Flat Try.prog 101 := ⟨_, Try.underlying101, fun _ h => (nomatch h), fun _ _ h => (nomatch h)⟩
theorem isn90 : (Try.f90.name == "runtime.NumGoroutine") = false := by kernel_rfl
theorem nil_eql23_nilsl : ∀ (w : World), (binOp .eql 23 (.slice none 0 0) (.slice none 0 0)).run Try.prog w = .ok (.bool true) w := fun _ => by kernel_rfl
theorem info136 : (Try.prog.info? 136).map (fun i => (i.zero, i.size, i.bytes)) = some (some (.agg #[.int .i64 0, .int .i64 0, .slice none 0 0, .int .i64 0, .slice none 0 0]), 5, 72) := by kernel_rfl
theorem isn70 : (Try.f70.name == "runtime.NumGoroutine") = false := by kernel_rfl
theorem nil_eql23_row : ∀ (q : Addr) (n c : Nat) (w : World), (binOp .eql 23 (.slice (some q) n c) (.slice none 0 0)).run Try.prog w = .ok (.bool false) w := fun _ _ _ _ => by kernel_rfl
theorem isn71 : (Try.f71.name == "runtime.NumGoroutine") = false := by kernel_rfl
theorem info139 : (Try.prog.info? 139).map (fun i => (i.zero, i.size, i.bytes)) = some (some (.agg #[.int .i64 0, .int .i64 0, .slice none 0 0, .int .i64 0, .slice none 0 0]), 5, 72) := by kernel_rfl
theorem isn72 : (Try.f72.name == "runtime.NumGoroutine") = false := by kernel_rfl
theorem isn29 : (Try.f29.name == "runtime.NumGoroutine") = false := by kernel_rfl
theorem isn73 : (Try.f73.name == "runtime.NumGoroutine") = false := by kernel_rfl
theorem info141 : (Try.prog.info? 141).map (fun i => (i.zero, i.size, i.bytes)) = some (some (.agg #[.int .i64 0, .int .i64 0, .slice none 0 0, .int .i64 0, .slice none 0 0]), 5, 72) := by kernel_rfl
theorem info143 : (Try.prog.info? 143).map (fun i => (i.zero, i.size, i.bytes)) = some (some (.agg #[.int .i64 0, .int .i64 0, .slice none 0 0, .int .i64 0, .slice none 0 0]), 5, 72) := by kernel_rfl
theorem isn74 : (Try.f74.name == "runtime.NumGoroutine") = false := by kernel_rfl
theorem isn75 : (Try.f75.name == "runtime.NumGoroutine") = false := by kernel_rfl
theorem places114 : placesOf Try.prog [{ name := "layout", type := 61, offset := 0, embedded := false, tag := "", pkgPath := "pub-orthodrome/pub/gogeom", byteOffset := 0 }, { name := "geoms", type := 112, offset := 1, embedded := false, tag := "", pkgPath := "pub-orthodrome/pub/gogeom", byteOffset := 8 }, { name := "srid", type := 3, offset := 2, embedded := false, tag := "", pkgPath := "pub-orthodrome/pub/gogeom", byteOffset := 32 }] = [(0, 1), (1, 1), (2, 1)] := by kernel_rfl
theorem has114 : ∀ f ∈ ([{ name := "layout", type := 61, offset := 0, embedded := false, tag := "", pkgPath := "pub-orthodrome/pub/gogeom", byteOffset := 0 }, { name := "geoms", type := 112, offset := 1, embedded := false, tag := "", pkgPath := "pub-orthodrome/pub/gogeom", byteOffset := 8 }, { name := "srid", type := 3, offset := 2, embedded := false, tag := "", pkgPath := "pub-orthodrome/pub/gogeom", byteOffset := 32 }] : List Field), (Try.prog.info? f.type).isSome = true := fun f hf => all_of (p := fun f => (Try.prog.info? f.type).isSome) (by kernel_rfl) f hf
theorem info114 : (Try.prog.info? 114).map (fun i => (i.zero, i.size, i.bytes)) = some (some (.agg #[.int .i64 0, .slice none 0 0, .int .i64 0]), 3, 40) := by kernel_rfl
theorem isn76 : (Try.f76.name == "runtime.NumGoroutine") = false := by kernel_rfl
theorem isn78 : (Try.f78.name == "runtime.NumGoroutine") = false := by kernel_rfl
theorem isn33 : (Try.f33.name == "runtime.NumGoroutine") = false := by kernel_rfl
theorem isn79 : (Try.f79.name == "runtime.NumGoroutine") = false := by kernel_rfl
theorem info112 : (Try.prog.info? 112).map (fun i => (i.zero, i.size, i.bytes)) = some (some (.slice none 0 0), 1, 24) := by kernel_rfl
theorem flat112 : Flat Try.prog 112 := ⟨_, Try.underlying112, fun _ h => (nomatch h), fun _ _ h => (nomatch h)⟩
theorem nil_neq59_nilif : ∀ (w : World), (binOp .neq 59 .nilIface .nilIface).run Try.prog w = .ok (.bool false) w := fun _ => by kernel_rfl
theorem isn77 : (Try.f77.name == "runtime.NumGoroutine") = false := by kernel_rfl
theorem isn46 : (Try.f46.name == "runtime.NumGoroutine") = false := by kernel_rfl
theorem flat61 : Flat Try.prog 61 := ⟨_, Try.underlying61, fun _ h => (nomatch h), fun _ _ h => (nomatch h)⟩
theorem info53 : (Try.prog.info? 53).map (fun i => (i.zero, i.size, i.bytes)) = some (some (.nilIface), 1, 16) := by kernel_rfl
theorem flat53 : Flat Try.prog 53 := ⟨_, Try.underlying53, fun _ h => (nomatch h), fun _ _ h => (nomatch h)⟩
theorem inv72_Layout : ∀ (q : Addr) w', (callMethod (.iface 72 (.pointer (some q))) "Layout" #[]).run Try.prog w' = .ok (.enter 134 #[.pointer (some q)]) w' := fun _ _ => by kernel_rfl
theorem places134 : placesOf Try.prog [{ name := "Got", type := 61, offset := 0, embedded := false, tag := "", pkgPath := "", byteOffset := 0 }, { name := "Want", type := 61, offset := 1, embedded := false, tag := "", pkgPath := "", byteOffset := 8 }] = [(0, 1), (1, 1)] := by kernel_rfl
theorem has134 : ∀ f ∈ ([{ name := "Got", type := 61, offset := 0, embedded := false, tag := "", pkgPath := "", byteOffset := 0 }, { name := "Want", type := 61, offset := 1, embedded := false, tag := "", pkgPath := "", byteOffset := 8 }] : List Field), (Try.prog.info? f.type).isSome = true := fun f hf => all_of (p := fun f => (Try.prog.info? f.type).isSome) (by kernel_rfl) f hf
theorem info134 : (Try.prog.info? 134).map (fun i => (i.zero, i.size, i.bytes)) = some (some (.agg #[.int .i64 0, .int .i64 0]), 2, 16) := by kernel_rfl
theorem inv75_Layout : ∀ (q : Addr) w', (callMethod (.iface 75 (.pointer (some q))) "Layout" #[]).run Try.prog w' = .ok (.enter 134 #[.pointer (some q)]) w' := fun _ _ => by kernel_rfl
theorem inv69_Layout : ∀ (q : Addr) w', (callMethod (.iface 69 (.pointer (some q))) "Layout" #[]).run Try.prog w' = .ok (.enter 134 #[.pointer (some q)]) w' := fun _ _ => by kernel_rfl
theorem inv67_Layout : ∀ (q : Addr) w', (callMethod (.iface 67 (.pointer (some q))) "Layout" #[]).run Try.prog w' = .ok (.enter 134 #[.pointer (some q)]) w' := fun _ _ => by kernel_rfl
theorem inv70_Layout : ∀ (q : Addr) w', (callMethod (.iface 70 (.pointer (some q))) "Layout" #[]).run Try.prog w' = .ok (.enter 134 #[.pointer (some q)]) w' := fun _ _ => by kernel_rfl
theorem inv73_Layout : ∀ (q : Addr) w', (callMethod (.iface 73 (.pointer (some q))) "Layout" #[]).run Try.prog w' = .ok (.enter 134 #[.pointer (some q)]) w' := fun _ _ => by kernel_rfl
theorem inv76_Layout : ∀ (q : Addr) w', (callMethod (.iface 76 (.pointer (some q))) "Layout" #[]).run Try.prog w' = .ok (.enter 134 #[.pointer (some q)]) w' := fun _ _ => by kernel_rfl
theorem inv57_Layout : ∀ (v : Value) w', (callMethod (.iface 57 v) "Layout" #[]).run Try.prog w' = .ok (.enter 125 #[v]) w' := fun _ _ => by kernel_rfl
theorem nil_neq59_if134 : ∀ (v : Value) (w : World), (binOp .neq 59 (.iface 134 v) .nilIface).run Try.prog w = .ok (.bool true) w := fun _ _ => by kernel_rfl
theorem as72_53_67 : ∀ v w, (Instr.typeAssert (.iface 72 v) 53 67 true).run Try.prog w = .ok (.tuple #[.pointer none, .bool false]) w := fun _ _ => by kernel_rfl
theorem as72_53_70 : ∀ v w, (Instr.typeAssert (.iface 72 v) 53 70 true).run Try.prog w = .ok (.tuple #[.pointer none, .bool false]) w := fun _ _ => by kernel_rfl
theorem as72_53_73 : ∀ v w, (Instr.typeAssert (.iface 72 v) 53 73 true).run Try.prog w = .ok (.tuple #[.pointer none, .bool false]) w := fun _ _ => by kernel_rfl
theorem as72_53_76 : ∀ v w, (Instr.typeAssert (.iface 72 v) 53 76 true).run Try.prog w = .ok (.tuple #[.pointer none, .bool false]) w := fun _ _ => by kernel_rfl
theorem as72_53_57 : ∀ v w, (Instr.typeAssert (.iface 72 v) 53 57 true).run Try.prog w = .ok (.tuple #[.pointer none, .bool false]) w := fun _ _ => by kernel_rfl
theorem info4 : (Try.prog.info? 4).map (fun i => (i.zero, i.size, i.bytes)) = some (some (.bool false), 1, 1) := by kernel_rfl
theorem idle41 : Idle Try.prog 41 2 := fun vs w hv => by
  obtain ⟨v0, v1, rfl⟩ : ∃ v0 v1, vs = [v0, v1] := by
    obtain _ | ⟨v0, vs⟩ := vs
    · simp at hv
    obtain _ | ⟨v1, vs⟩ := vs
    · simp at hv
    obtain _ | ⟨u, vs⟩ := vs
    · exact ⟨v0, v1, rfl⟩
    · simp at hv
  refine callsD_of_wpS Try.func41 rfl fun c₀ cs hu => ?_
  apply wpS_seq
  apply wpS_region
  simp [wpOpsS, go_sem, recoverD, hu, Try.ntmps41, Exit.thenS]
  refine wpS_cond (t := false) (by simp [Act.eval, Array.replicate]) ?_
  simp only [Bool.false_eq_true, if_false]
  refine wpS_of_wp (wp_skip ?_)
  cases c₀
  simp_all [bodyPostS, results, Try.results41]
theorem isn41 : (Try.f41.name == "runtime.NumGoroutine") = false := by kernel_rfl
theorem as75_53_67 : ∀ v w, (Instr.typeAssert (.iface 75 v) 53 67 true).run Try.prog w = .ok (.tuple #[.pointer none, .bool false]) w := fun _ _ => by kernel_rfl
theorem as75_53_70 : ∀ v w, (Instr.typeAssert (.iface 75 v) 53 70 true).run Try.prog w = .ok (.tuple #[.pointer none, .bool false]) w := fun _ _ => by kernel_rfl
theorem as75_53_73 : ∀ v w, (Instr.typeAssert (.iface 75 v) 53 73 true).run Try.prog w = .ok (.tuple #[.pointer none, .bool false]) w := fun _ _ => by kernel_rfl
theorem as75_53_76 : ∀ v w, (Instr.typeAssert (.iface 75 v) 53 76 true).run Try.prog w = .ok (.tuple #[.pointer none, .bool false]) w := fun _ _ => by kernel_rfl
theorem as75_53_57 : ∀ v w, (Instr.typeAssert (.iface 75 v) 53 57 true).run Try.prog w = .ok (.tuple #[.pointer none, .bool false]) w := fun _ _ => by kernel_rfl
theorem as69_53_67 : ∀ v w, (Instr.typeAssert (.iface 69 v) 53 67 true).run Try.prog w = .ok (.tuple #[.pointer none, .bool false]) w := fun _ _ => by kernel_rfl
theorem as69_53_70 : ∀ v w, (Instr.typeAssert (.iface 69 v) 53 70 true).run Try.prog w = .ok (.tuple #[.pointer none, .bool false]) w := fun _ _ => by kernel_rfl
theorem as69_53_73 : ∀ v w, (Instr.typeAssert (.iface 69 v) 53 73 true).run Try.prog w = .ok (.tuple #[.pointer none, .bool false]) w := fun _ _ => by kernel_rfl
theorem as69_53_76 : ∀ v w, (Instr.typeAssert (.iface 69 v) 53 76 true).run Try.prog w = .ok (.tuple #[.pointer none, .bool false]) w := fun _ _ => by kernel_rfl
theorem as69_53_57 : ∀ v w, (Instr.typeAssert (.iface 69 v) 53 57 true).run Try.prog w = .ok (.tuple #[.pointer none, .bool false]) w := fun _ _ => by kernel_rfl
theorem as67_53_67k : ∀ v w, (Instr.typeAssert (.iface 67 v) 53 67 true).run Try.prog w = .ok (.tuple #[v, .bool true]) w := fun _ _ => by kernel_rfl
theorem as69_53_69 : ∀ v w, (Instr.typeAssert (.iface 69 v) 53 69 false).run Try.prog w = .ok (v) w := fun _ _ => by kernel_rfl
theorem isn42 : (Try.f42.name == "runtime.NumGoroutine") = false := by kernel_rfl
theorem isn34 : (Try.f34.name == "runtime.NumGoroutine") = false := by kernel_rfl
theorem inv67_SRID : ∀ (q : Addr) w', (callMethod (.iface 67 (.pointer (some q))) "SRID" #[]).run Try.prog w' = .ok (.enter 136 #[.pointer (some q)]) w' := fun _ _ => by kernel_rfl
theorem as67_53_72 : ∀ v w, (Instr.typeAssert (.iface 67 v) 53 72 true).run Try.prog w = .ok (.tuple #[.pointer none, .bool false]) w := fun _ _ => by kernel_rfl
theorem as67_53_75 : ∀ v w, (Instr.typeAssert (.iface 67 v) 53 75 true).run Try.prog w = .ok (.tuple #[.pointer none, .bool false]) w := fun _ _ => by kernel_rfl
theorem as67_53_69 : ∀ v w, (Instr.typeAssert (.iface 67 v) 53 69 true).run Try.prog w = .ok (.tuple #[.pointer none, .bool false]) w := fun _ _ => by kernel_rfl
theorem inv67_FlatCoords : ∀ (q : Addr) w', (callMethod (.iface 67 (.pointer (some q))) "FlatCoords" #[]).run Try.prog w' = .ok (.enter 133 #[.pointer (some q)]) w' := fun _ _ => by kernel_rfl
theorem inv67_Ends : ∀ (q : Addr) w', (callMethod (.iface 67 (.pointer (some q))) "Ends" #[]).run Try.prog w' = .ok (.enter 131 #[.pointer (some q)]) w' := fun _ _ => by kernel_rfl
theorem inv67_Endss : ∀ (q : Addr) w', (callMethod (.iface 67 (.pointer (some q))) "Endss" #[]).run Try.prog w' = .ok (.enter 132 #[.pointer (some q)]) w' := fun _ _ => by kernel_rfl
theorem as70_53_67 : ∀ v w, (Instr.typeAssert (.iface 70 v) 53 67 true).run Try.prog w = .ok (.tuple #[.pointer none, .bool false]) w := fun _ _ => by kernel_rfl
theorem as70_53_70k : ∀ v w, (Instr.typeAssert (.iface 70 v) 53 70 true).run Try.prog w = .ok (.tuple #[v, .bool true]) w := fun _ _ => by kernel_rfl
theorem as72_53_72 : ∀ v w, (Instr.typeAssert (.iface 72 v) 53 72 false).run Try.prog w = .ok (v) w := fun _ _ => by kernel_rfl
theorem isn43 : (Try.f43.name == "runtime.NumGoroutine") = false := by kernel_rfl
theorem isn83 : (Try.f83.name == "runtime.NumGoroutine") = false := by kernel_rfl
theorem inv70_SRID : ∀ (q : Addr) w', (callMethod (.iface 70 (.pointer (some q))) "SRID" #[]).run Try.prog w' = .ok (.enter 136 #[.pointer (some q)]) w' := fun _ _ => by kernel_rfl
theorem as70_53_72 : ∀ v w, (Instr.typeAssert (.iface 70 v) 53 72 true).run Try.prog w = .ok (.tuple #[.pointer none, .bool false]) w := fun _ _ => by kernel_rfl
theorem as70_53_75 : ∀ v w, (Instr.typeAssert (.iface 70 v) 53 75 true).run Try.prog w = .ok (.tuple #[.pointer none, .bool false]) w := fun _ _ => by kernel_rfl
theorem as70_53_69 : ∀ v w, (Instr.typeAssert (.iface 70 v) 53 69 true).run Try.prog w = .ok (.tuple #[.pointer none, .bool false]) w := fun _ _ => by kernel_rfl
theorem inv70_FlatCoords : ∀ (q : Addr) w', (callMethod (.iface 70 (.pointer (some q))) "FlatCoords" #[]).run Try.prog w' = .ok (.enter 133 #[.pointer (some q)]) w' := fun _ _ => by kernel_rfl
theorem inv70_Ends : ∀ (q : Addr) w', (callMethod (.iface 70 (.pointer (some q))) "Ends" #[]).run Try.prog w' = .ok (.enter 131 #[.pointer (some q)]) w' := fun _ _ => by kernel_rfl
theorem inv70_Endss : ∀ (q : Addr) w', (callMethod (.iface 70 (.pointer (some q))) "Endss" #[]).run Try.prog w' = .ok (.enter 132 #[.pointer (some q)]) w' := fun _ _ => by kernel_rfl
theorem as73_53_67 : ∀ v w, (Instr.typeAssert (.iface 73 v) 53 67 true).run Try.prog w = .ok (.tuple #[.pointer none, .bool false]) w := fun _ _ => by kernel_rfl
theorem as73_53_70 : ∀ v w, (Instr.typeAssert (.iface 73 v) 53 70 true).run Try.prog w = .ok (.tuple #[.pointer none, .bool false]) w := fun _ _ => by kernel_rfl
theorem as73_53_73k : ∀ v w, (Instr.typeAssert (.iface 73 v) 53 73 true).run Try.prog w = .ok (.tuple #[v, .bool true]) w := fun _ _ => by kernel_rfl
theorem as75_53_75 : ∀ v w, (Instr.typeAssert (.iface 75 v) 53 75 false).run Try.prog w = .ok (v) w := fun _ _ => by kernel_rfl
theorem isn44 : (Try.f44.name == "runtime.NumGoroutine") = false := by kernel_rfl
theorem inv73_SRID : ∀ (q : Addr) w', (callMethod (.iface 73 (.pointer (some q))) "SRID" #[]).run Try.prog w' = .ok (.enter 136 #[.pointer (some q)]) w' := fun _ _ => by kernel_rfl
theorem as73_53_72 : ∀ v w, (Instr.typeAssert (.iface 73 v) 53 72 true).run Try.prog w = .ok (.tuple #[.pointer none, .bool false]) w := fun _ _ => by kernel_rfl
theorem as73_53_75 : ∀ v w, (Instr.typeAssert (.iface 73 v) 53 75 true).run Try.prog w = .ok (.tuple #[.pointer none, .bool false]) w := fun _ _ => by kernel_rfl
theorem as73_53_69 : ∀ v w, (Instr.typeAssert (.iface 73 v) 53 69 true).run Try.prog w = .ok (.tuple #[.pointer none, .bool false]) w := fun _ _ => by kernel_rfl
theorem inv73_FlatCoords : ∀ (q : Addr) w', (callMethod (.iface 73 (.pointer (some q))) "FlatCoords" #[]).run Try.prog w' = .ok (.enter 133 #[.pointer (some q)]) w' := fun _ _ => by kernel_rfl
theorem inv73_Ends : ∀ (q : Addr) w', (callMethod (.iface 73 (.pointer (some q))) "Ends" #[]).run Try.prog w' = .ok (.enter 131 #[.pointer (some q)]) w' := fun _ _ => by kernel_rfl
theorem inv73_Endss : ∀ (q : Addr) w', (callMethod (.iface 73 (.pointer (some q))) "Endss" #[]).run Try.prog w' = .ok (.enter 132 #[.pointer (some q)]) w' := fun _ _ => by kernel_rfl
theorem as76_53_67 : ∀ v w, (Instr.typeAssert (.iface 76 v) 53 67 true).run Try.prog w = .ok (.tuple #[.pointer none, .bool false]) w := fun _ _ => by kernel_rfl
theorem as76_53_70 : ∀ v w, (Instr.typeAssert (.iface 76 v) 53 70 true).run Try.prog w = .ok (.tuple #[.pointer none, .bool false]) w := fun _ _ => by kernel_rfl
theorem as76_53_73 : ∀ v w, (Instr.typeAssert (.iface 76 v) 53 73 true).run Try.prog w = .ok (.tuple #[.pointer none, .bool false]) w := fun _ _ => by kernel_rfl
theorem as76_53_76k : ∀ v w, (Instr.typeAssert (.iface 76 v) 53 76 true).run Try.prog w = .ok (.tuple #[v, .bool true]) w := fun _ _ => by kernel_rfl
theorem as67_53_67 : ∀ v w, (Instr.typeAssert (.iface 67 v) 53 67 false).run Try.prog w = .ok (v) w := fun _ _ => by kernel_rfl
theorem isn45 : (Try.f45.name == "runtime.NumGoroutine") = false := by kernel_rfl
theorem inv76_SRID : ∀ (q : Addr) w', (callMethod (.iface 76 (.pointer (some q))) "SRID" #[]).run Try.prog w' = .ok (.enter 136 #[.pointer (some q)]) w' := fun _ _ => by kernel_rfl
theorem as76_53_72 : ∀ v w, (Instr.typeAssert (.iface 76 v) 53 72 true).run Try.prog w = .ok (.tuple #[.pointer none, .bool false]) w := fun _ _ => by kernel_rfl
theorem as76_53_75 : ∀ v w, (Instr.typeAssert (.iface 76 v) 53 75 true).run Try.prog w = .ok (.tuple #[.pointer none, .bool false]) w := fun _ _ => by kernel_rfl
theorem as76_53_69 : ∀ v w, (Instr.typeAssert (.iface 76 v) 53 69 true).run Try.prog w = .ok (.tuple #[.pointer none, .bool false]) w := fun _ _ => by kernel_rfl
theorem inv76_FlatCoords : ∀ (q : Addr) w', (callMethod (.iface 76 (.pointer (some q))) "FlatCoords" #[]).run Try.prog w' = .ok (.enter 133 #[.pointer (some q)]) w' := fun _ _ => by kernel_rfl
theorem inv76_Ends : ∀ (q : Addr) w', (callMethod (.iface 76 (.pointer (some q))) "Ends" #[]).run Try.prog w' = .ok (.enter 138 #[.pointer (some q)]) w' := fun _ _ => by kernel_rfl
theorem inv76_Endss : ∀ (q : Addr) w', (callMethod (.iface 76 (.pointer (some q))) "Endss" #[]).run Try.prog w' = .ok (.enter 141 #[.pointer (some q)]) w' := fun _ _ => by kernel_rfl
theorem as57_53_67 : ∀ v w, (Instr.typeAssert (.iface 57 v) 53 67 true).run Try.prog w = .ok (.tuple #[.pointer none, .bool false]) w := fun _ _ => by kernel_rfl
theorem as57_53_70 : ∀ v w, (Instr.typeAssert (.iface 57 v) 53 70 true).run Try.prog w = .ok (.tuple #[.pointer none, .bool false]) w := fun _ _ => by kernel_rfl
theorem as57_53_73 : ∀ v w, (Instr.typeAssert (.iface 57 v) 53 73 true).run Try.prog w = .ok (.tuple #[.pointer none, .bool false]) w := fun _ _ => by kernel_rfl
theorem as57_53_76 : ∀ v w, (Instr.typeAssert (.iface 57 v) 53 76 true).run Try.prog w = .ok (.tuple #[.pointer none, .bool false]) w := fun _ _ => by kernel_rfl
theorem as57_53_57k : ∀ v w, (Instr.typeAssert (.iface 57 v) 53 57 true).run Try.prog w = .ok (.tuple #[v, .bool true]) w := fun _ _ => by kernel_rfl
theorem inv57_SRID : ∀ (v : Value) w', (callMethod (.iface 57 v) "SRID" #[]).run Try.prog w' = .ok (.enter 126 #[v]) w' := fun _ _ => by kernel_rfl
theorem as57_53_72 : ∀ v w, (Instr.typeAssert (.iface 57 v) 53 72 true).run Try.prog w = .ok (.tuple #[.pointer none, .bool false]) w := fun _ _ => by kernel_rfl
theorem as57_53_75 : ∀ v w, (Instr.typeAssert (.iface 57 v) 53 75 true).run Try.prog w = .ok (.tuple #[.pointer none, .bool false]) w := fun _ _ => by kernel_rfl
theorem as57_53_69 : ∀ v w, (Instr.typeAssert (.iface 57 v) 53 69 true).run Try.prog w = .ok (.tuple #[.pointer none, .bool false]) w := fun _ _ => by kernel_rfl
theorem isn80 : (Try.f80.name == "runtime.NumGoroutine") = false := by kernel_rfl
theorem isn81 : (Try.f81.name == "runtime.NumGoroutine") = false := by kernel_rfl
theorem inv72_SRID : ∀ (q : Addr) w', (callMethod (.iface 72 (.pointer (some q))) "SRID" #[]).run Try.prog w' = .ok (.enter 136 #[.pointer (some q)]) w' := fun _ _ => by kernel_rfl
theorem as72_53_72k : ∀ v w, (Instr.typeAssert (.iface 72 v) 53 72 true).run Try.prog w = .ok (.tuple #[v, .bool true]) w := fun _ _ => by kernel_rfl
theorem inv72_FlatCoords : ∀ (q : Addr) w', (callMethod (.iface 72 (.pointer (some q))) "FlatCoords" #[]).run Try.prog w' = .ok (.enter 133 #[.pointer (some q)]) w' := fun _ _ => by kernel_rfl
theorem inv72_Ends : ∀ (q : Addr) w', (callMethod (.iface 72 (.pointer (some q))) "Ends" #[]).run Try.prog w' = .ok (.enter 138 #[.pointer (some q)]) w' := fun _ _ => by kernel_rfl
theorem inv72_Endss : ∀ (q : Addr) w', (callMethod (.iface 72 (.pointer (some q))) "Endss" #[]).run Try.prog w' = .ok (.enter 132 #[.pointer (some q)]) w' := fun _ _ => by kernel_rfl
theorem inv75_SRID : ∀ (q : Addr) w', (callMethod (.iface 75 (.pointer (some q))) "SRID" #[]).run Try.prog w' = .ok (.enter 136 #[.pointer (some q)]) w' := fun _ _ => by kernel_rfl
theorem as75_53_72 : ∀ v w, (Instr.typeAssert (.iface 75 v) 53 72 true).run Try.prog w = .ok (.tuple #[.pointer none, .bool false]) w := fun _ _ => by kernel_rfl
theorem as75_53_75k : ∀ v w, (Instr.typeAssert (.iface 75 v) 53 75 true).run Try.prog w = .ok (.tuple #[v, .bool true]) w := fun _ _ => by kernel_rfl
theorem inv75_FlatCoords : ∀ (q : Addr) w', (callMethod (.iface 75 (.pointer (some q))) "FlatCoords" #[]).run Try.prog w' = .ok (.enter 133 #[.pointer (some q)]) w' := fun _ _ => by kernel_rfl
theorem inv75_Ends : ∀ (q : Addr) w', (callMethod (.iface 75 (.pointer (some q))) "Ends" #[]).run Try.prog w' = .ok (.enter 138 #[.pointer (some q)]) w' := fun _ _ => by kernel_rfl
theorem inv75_Endss : ∀ (q : Addr) w', (callMethod (.iface 75 (.pointer (some q))) "Endss" #[]).run Try.prog w' = .ok (.enter 132 #[.pointer (some q)]) w' := fun _ _ => by kernel_rfl
theorem inv69_SRID : ∀ (q : Addr) w', (callMethod (.iface 69 (.pointer (some q))) "SRID" #[]).run Try.prog w' = .ok (.enter 136 #[.pointer (some q)]) w' := fun _ _ => by kernel_rfl
theorem as69_53_72 : ∀ v w, (Instr.typeAssert (.iface 69 v) 53 72 true).run Try.prog w = .ok (.tuple #[.pointer none, .bool false]) w := fun _ _ => by kernel_rfl
theorem as69_53_75 : ∀ v w, (Instr.typeAssert (.iface 69 v) 53 75 true).run Try.prog w = .ok (.tuple #[.pointer none, .bool false]) w := fun _ _ => by kernel_rfl
theorem as69_53_69k : ∀ v w, (Instr.typeAssert (.iface 69 v) 53 69 true).run Try.prog w = .ok (.tuple #[v, .bool true]) w := fun _ _ => by kernel_rfl
theorem inv69_FlatCoords : ∀ (q : Addr) w', (callMethod (.iface 69 (.pointer (some q))) "FlatCoords" #[]).run Try.prog w' = .ok (.enter 133 #[.pointer (some q)]) w' := fun _ _ => by kernel_rfl
theorem inv69_Ends : ∀ (q : Addr) w', (callMethod (.iface 69 (.pointer (some q))) "Ends" #[]).run Try.prog w' = .ok (.enter 138 #[.pointer (some q)]) w' := fun _ _ => by kernel_rfl
theorem inv69_Endss : ∀ (q : Addr) w', (callMethod (.iface 69 (.pointer (some q))) "Endss" #[]).run Try.prog w' = .ok (.enter 132 #[.pointer (some q)]) w' := fun _ _ => by kernel_rfl
theorem flat4 : Flat Try.prog 4 := ⟨_, Try.underlying4, fun _ h => (nomatch h), fun _ _ h => (nomatch h)⟩
theorem isn13 : (Try.f13.name == "runtime.NumGoroutine") = false := by kernel_rfl
theorem isn35 : (Try.f35.name == "runtime.NumGoroutine") = false := by kernel_rfl
theorem flat32 : Flat Try.prog 32 := ⟨_, Try.underlying32, fun _ h => (nomatch h), fun _ _ h => (nomatch h)⟩
theorem ext82 : ∀ {args : Array Value} {v : Value}, Runs Try.prog ((Extern.MathFloatBits.float64bits) args) v → Runs Try.prog (callFunc 82 args) (.value v) := fun hr => ru_ext Try.func82 (by kernel_rfl) (by kernel_rfl) (by kernel_rfl) (by kernel_rfl) hr
theorem isn36 : (Try.f36.name == "runtime.NumGoroutine") = false := by kernel_rfl
inductive T27 where
  | mk (x0 : Int) (x1 : Int) (x2 : Int) (x3 : List Nat) (x4 : List Int) (x5 : List (List Int)) (x6 : List T27) : T27
def T27.f0 : T27 → Int
  | .mk x0 x1 x2 x3 x4 x5 x6 => x0
def T27.f1 : T27 → Int
  | .mk x0 x1 x2 x3 x4 x5 x6 => x1
def T27.f2 : T27 → Int
  | .mk x0 x1 x2 x3 x4 x5 x6 => x2
def T27.f3 : T27 → List Nat
  | .mk x0 x1 x2 x3 x4 x5 x6 => x3
def T27.f4 : T27 → List Int
  | .mk x0 x1 x2 x3 x4 x5 x6 => x4
def T27.f5 : T27 → List (List Int)
  | .mk x0 x1 x2 x3 x4 x5 x6 => x5
def T27.f6 : T27 → List T27
  | .mk x0 x1 x2 x3 x4 x5 x6 => x6
def KT27d : Nat → Kd T27
  | 0 => ⟨7, fun _ => List.replicate 7 (Vl undef), fun _ => rfl⟩
  | n + 1 => ⟨7, fun x => [(Vl (.int .i64 x.f0)), (Vl (.int .i64 x.f1)), (Vl (.int .i64 x.f2)), (Sl Kf x.f3), (Sl (Ki .i64) x.f4), (Sl (Kl (Ki .i64)) x.f5), (Sl (KT27d n) x.f6)], fun _ => rfl⟩
def T27.depth : T27 → Nat
  | .mk x0 x1 x2 x3 x4 x5 x6 => ((x6.attach.map fun y => T27.depth y.1).foldl Nat.max 0) + 1
termination_by x => SizeOf.sizeOf x
decreasing_by
  have := List.sizeOf_lt_of_mem y.2
  simp only [T27.mk.sizeOf_spec]
  omega
def KT27 : Kd T27 := ⟨7, fun x => (KT27d x.depth).enc x, fun x => by cases h : x.depth <;> rfl⟩
theorem KT27_depth (x : T27) (y : T27) (h : y ∈ x.f6) : y.depth < x.depth := by
  cases x with
  | mk x0 x1 x2 x3 x4 x5 x6 =>
    rw [T27.depth]
    have := Go.Sx.le_foldl_max (x6.attach.map fun y => T27.depth y.1) 0 y.depth (List.mem_map.2 ⟨⟨y, h⟩, List.mem_attach _ _, rfl⟩)
    omega
theorem KT27_pos (x : T27) : 0 < x.depth := by cases x with | mk x0 x1 x2 x3 x4 x5 x6 => rw [T27.depth]; omega
theorem KT27_stable : ∀ (m n : Nat) (x : T27), x.depth ≤ m → x.depth ≤ n → (KT27d m).enc x = (KT27d n).enc x := by
  intro m
  induction m with
  | zero => intro n x h; have := KT27_pos x; omega
  | succ m ih =>
    intro n x h1 h2
    cases n with
    | zero => have := KT27_pos x; omega
    | succ n =>
      have : Sl (KT27d m) x.f6 = Sl (KT27d n) x.f6 := Go.Sx.sl_congr (by cases m <;> cases n <;> rfl) fun y hy => by
        have := KT27_depth x y hy
        exact ih n y (by omega) (by omega)
      show [(Vl (.int .i64 x.f0)), (Vl (.int .i64 x.f1)), (Vl (.int .i64 x.f2)), (Sl Kf x.f3), (Sl (Ki .i64) x.f4), (Sl (Kl (Ki .i64)) x.f5), (Sl (KT27d m) x.f6)] = [(Vl (.int .i64 x.f0)), (Vl (.int .i64 x.f1)), (Vl (.int .i64 x.f2)), (Sl Kf x.f3), (Sl (Ki .i64) x.f4), (Sl (Kl (Ki .i64)) x.f5), (Sl (KT27d n) x.f6)]
      rw [this]
theorem KT27_enc (x : T27) : KT27.enc x = [(Vl (.int .i64 x.f0)), (Vl (.int .i64 x.f1)), (Vl (.int .i64 x.f2)), (Sl Kf x.f3), (Sl (Ki .i64) x.f4), (Sl (Kl (Ki .i64)) x.f5), (Sl KT27 x.f6)] := by
  have hp := KT27_pos x
  obtain ⟨n, hn⟩ : ∃ n, x.depth = n + 1 := ⟨x.depth - 1, by omega⟩
  have : Sl (KT27d n) x.f6 = Sl KT27 x.f6 := Go.Sx.sl_congr (by cases n <;> rfl) fun y hy => by
    have := KT27_depth x y hy
    exact KT27_stable n y.depth y (by omega) (by omega)
  show (KT27d x.depth).enc x = _
  rw [hn]
  show [(Vl (.int .i64 x.f0)), (Vl (.int .i64 x.f1)), (Vl (.int .i64 x.f2)), (Sl Kf x.f3), (Sl (Ki .i64) x.f4), (Sl (Kl (Ki .i64)) x.f5), (Sl (KT27d n) x.f6)] = _
  rw [this]
inductive T27.Ok : T27 → Prop where
  | mk {x0 : Int} {x1 : Int} {x2 : Int} {x3 : List Nat} {x4 : List Int} {x5 : List (List Int)} {x6 : List T27} (g0 : IntKind.min .i64 ≤ x0 ∧ x0 ≤ IntKind.max .i64) (g1 : IntKind.min .i64 ≤ x1 ∧ x1 ≤ IntKind.max .i64) (g2 : IntKind.min .i64 ≤ x2 ∧ x2 ≤ IntKind.max .i64) (g3 : x3.length ≤ maxLen ∧ ∀ yx3 ∈ x3, yx3 < 18446744073709551616) (g4 : x4.length ≤ maxLen ∧ ∀ yx4 ∈ x4, IntKind.min .i64 ≤ yx4 ∧ yx4 ≤ IntKind.max .i64) (g5 : x5.length ≤ maxLen ∧ ∀ yx5 ∈ x5, yx5.length ≤ maxLen ∧ ∀ yyx5 ∈ yx5, IntKind.min .i64 ≤ yyx5 ∧ yyx5 ≤ IntKind.max .i64) (g6 : x6.length ≤ maxLen) (gk : ∀ y ∈ x6, T27.Ok y) : T27.Ok (.mk x0 x1 x2 x3 x4 x5 x6)
inductive T27.OkW : T27 → Prop where
  | mk {x0 : Int} {x1 : Int} {x2 : Int} {x3 : List Nat} {x4 : List Int} {x5 : List (List Int)} {x6 : List T27} (g0 : IntKind.min .i64 ≤ x0 ∧ x0 ≤ IntKind.max .i64) (g1 : IntKind.min .i64 ≤ x1 ∧ x1 ≤ IntKind.max .i64) (g2 : IntKind.min .i64 ≤ x2 ∧ x2 ≤ IntKind.max .i64) (g3 : x3.length * 8 ≤ 140737488351232 ∧ ∀ yx3 ∈ x3, yx3 < 18446744073709551616) (g4 : x4.length * 8 ≤ 140737488351232 ∧ ∀ yx4 ∈ x4, IntKind.min .i64 ≤ yx4 ∧ yx4 ≤ IntKind.max .i64) (g5 : x5.length * 24 ≤ 140737488351232 ∧ ∀ yx5 ∈ x5, yx5.length * 8 ≤ 140737488351232 ∧ ∀ yyx5 ∈ yx5, IntKind.min .i64 ≤ yyx5 ∧ yyx5 ≤ IntKind.max .i64) (g6 : x6.length * 120 ≤ 140737488351232) (gk : ∀ y ∈ x6, T27.OkW y) : T27.OkW (.mk x0 x1 x2 x3 x4 x5 x6)

inductive G53 where
  | c0 (x0 : Int) (x1 : Int) (x2 : List Nat) (x3 : Int) : G53
  | c1 (x0 : Int) (x1 : Int) (x2 : List Nat) (x3 : Int) : G53
  | c2 (x0 : Int) (x1 : Int) (x2 : List Nat) (x3 : Int) : G53
  | c3 (x0 : Int) (x1 : Int) (x2 : List Nat) (x3 : Int) (x4 : List Int) : G53
  | c4 (x0 : Int) (x1 : Int) (x2 : List Nat) (x3 : Int) (x4 : List Int) : G53
  | c5 (x0 : Int) (x1 : Int) (x2 : List Nat) (x3 : Int) (x4 : List Int) : G53
  | c6 (x0 : Int) (x1 : Int) (x2 : List Nat) (x3 : Int) (x4 : List (List Int)) : G53
  | c7 (x0 : Int) (x1 : List G53) (x2 : Int) : G53
def SG53d : Nat → G53 → SV
  | 0, _ => Vl undef
  | n + 1, x => match x with
    | .c0 x0 x1 x2 x3 => (If 72 (Pt [(Vl (.int .i64 x0)), (Vl (.int .i64 x1)), (Sl Kf x2), (Vl (.int .i64 x3))]))
    | .c1 x0 x1 x2 x3 => (If 75 (Pt [(Vl (.int .i64 x0)), (Vl (.int .i64 x1)), (Sl Kf x2), (Vl (.int .i64 x3))]))
    | .c2 x0 x1 x2 x3 => (If 69 (Pt [(Vl (.int .i64 x0)), (Vl (.int .i64 x1)), (Sl Kf x2), (Vl (.int .i64 x3))]))
    | .c3 x0 x1 x2 x3 x4 => (If 67 (Pt [(Vl (.int .i64 x0)), (Vl (.int .i64 x1)), (Sl Kf x2), (Vl (.int .i64 x3)), (Sl (Ki .i64) x4)]))
    | .c4 x0 x1 x2 x3 x4 => (If 70 (Pt [(Vl (.int .i64 x0)), (Vl (.int .i64 x1)), (Sl Kf x2), (Vl (.int .i64 x3)), (Sl (Ki .i64) x4)]))
    | .c5 x0 x1 x2 x3 x4 => (If 73 (Pt [(Vl (.int .i64 x0)), (Vl (.int .i64 x1)), (Sl Kf x2), (Vl (.int .i64 x3)), (Sl (Ki .i64) x4)]))
    | .c6 x0 x1 x2 x3 x4 => (If 76 (Pt [(Vl (.int .i64 x0)), (Vl (.int .i64 x1)), (Sl Kf x2), (Vl (.int .i64 x3)), (Sl (Kl (Ki .i64)) x4)]))
    | .c7 x0 x1 x2 => (If 57 (Pt [(Vl (.int .i64 x0)), (Sl (Kd.one (SG53d n)) x1), (Vl (.int .i64 x2))]))
def G53.depth : G53 → Nat
  | .c0 x0 x1 x2 x3 => 0 + 1
  | .c1 x0 x1 x2 x3 => 0 + 1
  | .c2 x0 x1 x2 x3 => 0 + 1
  | .c3 x0 x1 x2 x3 x4 => 0 + 1
  | .c4 x0 x1 x2 x3 x4 => 0 + 1
  | .c5 x0 x1 x2 x3 x4 => 0 + 1
  | .c6 x0 x1 x2 x3 x4 => 0 + 1
  | .c7 x0 x1 x2 => ((x1.attach.map fun y => G53.depth y.1).foldl Nat.max 0) + 1
termination_by x => SizeOf.sizeOf x
decreasing_by
  all_goals
    have := List.sizeOf_lt_of_mem y.2
    simp only [G53.c7.sizeOf_spec]
    omega
def SG53 (x : G53) : SV := SG53d x.depth x
def KG53 : Kd G53 := Kd.one SG53
theorem SG53_pos (x : G53) : 0 < x.depth := by cases x <;> rw [G53.depth] <;> omega
theorem SG53_stable : ∀ (m n : Nat) (x : G53), x.depth ≤ m → x.depth ≤ n → SG53d m x = SG53d n x := by
  intro m
  induction m with
  | zero => intro n x h; have := SG53_pos x; omega
  | succ m ih =>
    intro n x h1 h2
    cases n with
    | zero => have := SG53_pos x; omega
    | succ n =>
      cases x with
      | c0 x0 x1 x2 x3 => rfl
      | c1 x0 x1 x2 x3 => rfl
      | c2 x0 x1 x2 x3 => rfl
      | c3 x0 x1 x2 x3 x4 => rfl
      | c4 x0 x1 x2 x3 x4 => rfl
      | c5 x0 x1 x2 x3 x4 => rfl
      | c6 x0 x1 x2 x3 x4 => rfl
      | c7 x0 x1 x2 =>
        have : Sl (Kd.one (SG53d m)) x1 = Sl (Kd.one (SG53d n)) x1 := Go.Sx.sl_congr rfl fun y hy => by
          have hd : y.depth < (G53.c7 x0 x1 x2).depth := by
            rw [G53.depth]
            have := Go.Sx.le_foldl_max (x1.attach.map fun y => G53.depth y.1) 0 y.depth (List.mem_map.2 ⟨⟨y, hy⟩, List.mem_attach _ _, rfl⟩)
            omega
          show [_] = [_]
          rw [ih n y (by omega) (by omega)]
        show (If 57 (Pt [(Vl (.int .i64 x0)), (Sl (Kd.one (SG53d m)) x1), (Vl (.int .i64 x2))])) = (If 57 (Pt [(Vl (.int .i64 x0)), (Sl (Kd.one (SG53d n)) x1), (Vl (.int .i64 x2))]))
        rw [this]
theorem SG53_c0 (x0 : Int) (x1 : Int) (x2 : List Nat) (x3 : Int) : SG53 (.c0 x0 x1 x2 x3) = (If 72 (Pt [(Vl (.int .i64 x0)), (Vl (.int .i64 x1)), (Sl Kf x2), (Vl (.int .i64 x3))])) := by
  have hp := SG53_pos (.c0 x0 x1 x2 x3)
  obtain ⟨n, hn⟩ : ∃ n, (G53.c0 x0 x1 x2 x3).depth = n + 1 := ⟨(G53.c0 x0 x1 x2 x3).depth - 1, by omega⟩
  show SG53d (G53.c0 x0 x1 x2 x3).depth (.c0 x0 x1 x2 x3) = _
  rw [hn]
  rfl
theorem SG53_c1 (x0 : Int) (x1 : Int) (x2 : List Nat) (x3 : Int) : SG53 (.c1 x0 x1 x2 x3) = (If 75 (Pt [(Vl (.int .i64 x0)), (Vl (.int .i64 x1)), (Sl Kf x2), (Vl (.int .i64 x3))])) := by
  have hp := SG53_pos (.c1 x0 x1 x2 x3)
  obtain ⟨n, hn⟩ : ∃ n, (G53.c1 x0 x1 x2 x3).depth = n + 1 := ⟨(G53.c1 x0 x1 x2 x3).depth - 1, by omega⟩
  show SG53d (G53.c1 x0 x1 x2 x3).depth (.c1 x0 x1 x2 x3) = _
  rw [hn]
  rfl
theorem SG53_c2 (x0 : Int) (x1 : Int) (x2 : List Nat) (x3 : Int) : SG53 (.c2 x0 x1 x2 x3) = (If 69 (Pt [(Vl (.int .i64 x0)), (Vl (.int .i64 x1)), (Sl Kf x2), (Vl (.int .i64 x3))])) := by
  have hp := SG53_pos (.c2 x0 x1 x2 x3)
  obtain ⟨n, hn⟩ : ∃ n, (G53.c2 x0 x1 x2 x3).depth = n + 1 := ⟨(G53.c2 x0 x1 x2 x3).depth - 1, by omega⟩
  show SG53d (G53.c2 x0 x1 x2 x3).depth (.c2 x0 x1 x2 x3) = _
  rw [hn]
  rfl
theorem SG53_c3 (x0 : Int) (x1 : Int) (x2 : List Nat) (x3 : Int) (x4 : List Int) : SG53 (.c3 x0 x1 x2 x3 x4) = (If 67 (Pt [(Vl (.int .i64 x0)), (Vl (.int .i64 x1)), (Sl Kf x2), (Vl (.int .i64 x3)), (Sl (Ki .i64) x4)])) := by
  have hp := SG53_pos (.c3 x0 x1 x2 x3 x4)
  obtain ⟨n, hn⟩ : ∃ n, (G53.c3 x0 x1 x2 x3 x4).depth = n + 1 := ⟨(G53.c3 x0 x1 x2 x3 x4).depth - 1, by omega⟩
  show SG53d (G53.c3 x0 x1 x2 x3 x4).depth (.c3 x0 x1 x2 x3 x4) = _
  rw [hn]
  rfl
theorem SG53_c4 (x0 : Int) (x1 : Int) (x2 : List Nat) (x3 : Int) (x4 : List Int) : SG53 (.c4 x0 x1 x2 x3 x4) = (If 70 (Pt [(Vl (.int .i64 x0)), (Vl (.int .i64 x1)), (Sl Kf x2), (Vl (.int .i64 x3)), (Sl (Ki .i64) x4)])) := by
  have hp := SG53_pos (.c4 x0 x1 x2 x3 x4)
  obtain ⟨n, hn⟩ : ∃ n, (G53.c4 x0 x1 x2 x3 x4).depth = n + 1 := ⟨(G53.c4 x0 x1 x2 x3 x4).depth - 1, by omega⟩
  show SG53d (G53.c4 x0 x1 x2 x3 x4).depth (.c4 x0 x1 x2 x3 x4) = _
  rw [hn]
  rfl
theorem SG53_c5 (x0 : Int) (x1 : Int) (x2 : List Nat) (x3 : Int) (x4 : List Int) : SG53 (.c5 x0 x1 x2 x3 x4) = (If 73 (Pt [(Vl (.int .i64 x0)), (Vl (.int .i64 x1)), (Sl Kf x2), (Vl (.int .i64 x3)), (Sl (Ki .i64) x4)])) := by
  have hp := SG53_pos (.c5 x0 x1 x2 x3 x4)
  obtain ⟨n, hn⟩ : ∃ n, (G53.c5 x0 x1 x2 x3 x4).depth = n + 1 := ⟨(G53.c5 x0 x1 x2 x3 x4).depth - 1, by omega⟩
  show SG53d (G53.c5 x0 x1 x2 x3 x4).depth (.c5 x0 x1 x2 x3 x4) = _
  rw [hn]
  rfl
theorem SG53_c6 (x0 : Int) (x1 : Int) (x2 : List Nat) (x3 : Int) (x4 : List (List Int)) : SG53 (.c6 x0 x1 x2 x3 x4) = (If 76 (Pt [(Vl (.int .i64 x0)), (Vl (.int .i64 x1)), (Sl Kf x2), (Vl (.int .i64 x3)), (Sl (Kl (Ki .i64)) x4)])) := by
  have hp := SG53_pos (.c6 x0 x1 x2 x3 x4)
  obtain ⟨n, hn⟩ : ∃ n, (G53.c6 x0 x1 x2 x3 x4).depth = n + 1 := ⟨(G53.c6 x0 x1 x2 x3 x4).depth - 1, by omega⟩
  show SG53d (G53.c6 x0 x1 x2 x3 x4).depth (.c6 x0 x1 x2 x3 x4) = _
  rw [hn]
  rfl
theorem SG53_c7 (x0 : Int) (x1 : List G53) (x2 : Int) : SG53 (.c7 x0 x1 x2) = (If 57 (Pt [(Vl (.int .i64 x0)), (Sl KG53 x1), (Vl (.int .i64 x2))])) := by
  have hp := SG53_pos (.c7 x0 x1 x2)
  obtain ⟨n, hn⟩ : ∃ n, (G53.c7 x0 x1 x2).depth = n + 1 := ⟨(G53.c7 x0 x1 x2).depth - 1, by omega⟩
  have : Sl (Kd.one (SG53d n)) x1 = Sl KG53 x1 := Go.Sx.sl_congr rfl fun y hy => by
    have hd : y.depth < (G53.c7 x0 x1 x2).depth := by
      rw [G53.depth]
      have := Go.Sx.le_foldl_max (x1.attach.map fun y => G53.depth y.1) 0 y.depth (List.mem_map.2 ⟨⟨y, hy⟩, List.mem_attach _ _, rfl⟩)
      omega
    show [_] = [_]
    rw [SG53_stable n y.depth y (by omega) (by omega)]
    rfl
  show SG53d (G53.c7 x0 x1 x2).depth (.c7 x0 x1 x2) = _
  rw [hn]
  show (If 57 (Pt [(Vl (.int .i64 x0)), (Sl (Kd.one (SG53d n)) x1), (Vl (.int .i64 x2))])) = _
  rw [this]
theorem SG53_lv (x : G53) : Lv (SG53 x) [SG53 x] := by
  cases x with
  | c0 x0 x1 x2 x3 => rw [SG53_c0]; exact lv_if _ _
  | c1 x0 x1 x2 x3 => rw [SG53_c1]; exact lv_if _ _
  | c2 x0 x1 x2 x3 => rw [SG53_c2]; exact lv_if _ _
  | c3 x0 x1 x2 x3 x4 => rw [SG53_c3]; exact lv_if _ _
  | c4 x0 x1 x2 x3 x4 => rw [SG53_c4]; exact lv_if _ _
  | c5 x0 x1 x2 x3 x4 => rw [SG53_c5]; exact lv_if _ _
  | c6 x0 x1 x2 x3 x4 => rw [SG53_c6]; exact lv_if _ _
  | c7 x0 x1 x2 => rw [SG53_c7]; exact lv_if _ _


def laws_zzFits3_l1s (a0 : List (List Int)) (k : Nat) (rec1 : Int → Option (Unit ⊕ Unit)) (x1 : Int) : Option (Unit ⊕ Unit) :=
 br (decide (x1 < (a0.length : Int)))
  ((idx a0 x1) >>= fun r12 =>
  br (decide (2147483647 < (r12.length : Int)))
   (some (.inl ()))
   (rec1 (iadd .i64 x1 1)))
  (some (.inr ()))
def laws_zzFits3_l1 (a0 : List (List Int)) : Nat → Int → Option (Unit ⊕ Unit)
 | 0, _ => none
 | k + 1, v => laws_zzFits3_l1s a0 k (laws_zzFits3_l1 a0 k) v
def laws_zzFits3 (k : Nat) (a0 : List (List Int)) : Option (Bool) :=
 br (decide (2147483647 < (a0.length : Int)))
  (some false)
  ((laws_zzFits3_l1 a0 k 0) >>= fun y1 => match y1 with
   | (.inl v2) =>
    (some false)
   | (.inr v3) =>
    (some true))

theorem laws_zzFits3_sim {k : Nat}  (a0 : List (List Int)) {out : Bool} (hp : laws_zzFits3 k a0 = some out) : Sx.Fn Try.prog 25 [(Sl (Kl (Ki .i64)) a0)] [] (fun w : Unit => (Vb out)) (fun w => []) := by
 unfold laws_zzFits3 at hp
 refine fn_of Try.func25 rfl Try.ntmps25 rfl fun E hM => ?_
 refine cr fun K1 hK1 => ?_
 refine sa rfl ?_
 refine nk hK1 ?_
 refine cx_seq' fun K2 hK2 => ?_
 refine cr fun K3 hK3 => ?_
 refine sm rfl ?_
 refine sk rfl Try.underlying24 ?_
 refine sb rfl rfl eg_int ru_gtr ?_
 refine nk hK3 ?_
 refine cx_cond' rfl (fun h1 => ?_) (fun h1 => ?_)
 ·replace hp := (br_t h1).symm.trans hp
  refine cr fun K4 hK4 => ?_
  refine sa rfl ?_
  refine nk hK4 ?_
  refine cx_retc' ?_
  replace hp := sj hp
  subst hp
  refine tk (L' := [(2, (Vb false))]) (H' := []) [] (uc rfl un) pn ?_
  exact tx_ret1' Try.results25 rfl () (rv_tmp' rfl) lr
 replace hp := (br_f h1).symm.trans hp
 refine cx_skip' ?_
 show TX E K2 _
 refine tx_k' hK2 ?_
 refine cx_seq' fun K5 hK5 => ?_
 refine cr fun K6 hK6 => ?_
 refine sm rfl ?_
 refine sk rfl Try.underlying24 ?_
 refine sm rfl ?_
 refine nk hK6 ?_
 refine cx_block' ?_
 obtain ⟨y1, hy1, hp⟩ := bind_some hp
 refine cx_loopg' (F := laws_zzFits3_l1 a0) (G := fun k R v => laws_zzFits3_l1s a0 k R v) (x := 0) (gh := ()) (fun (v1 : Int) (w1 : Unit) => (⟨18, [], [(8, (Sl (Kl (Ki .i64)) a0)), (9, (Vi (a0.length : Int))), (10, (Vi v1))], []⟩ : St)) (fun (y : Unit ⊕ Unit) => match y with | (.inl v2) => Zg E Exit.ret (fun (w2 : Unit) => (⟨18, [], [(2, (Vb false))], []⟩ : St)) | (.inr v3) => Zg E (Exit.exit 0) (fun (w3 : Unit) => (⟨18, [], [], []⟩ : St))) (fun _ => rfl) (fun _ _ => rfl) ?_ hy1 (tx_to' rfl [] (u3 rfl rfl rfl) (by decide) pn) ?_
 ·clear hp hy1
  clear y1
  intro k rec1 KY1 ih1
  rintro x1 ⟨⟩ y1 hp
  replace hp : laws_zzFits3_l1s a0 k rec1 x1 = some y1 := hp
  unfold laws_zzFits3_l1s at hp
  refine cr fun K13 hK13 => ?_
  refine sb rfl rfl eg_int ru_lss ?_
  refine nk hK13 ?_
  refine cx_seq' fun K14 hK14 => ?_
  refine cx_cond' rfl (fun h5 => ?_) (fun h5 => ?_)
  ·replace hp := (br_t h5).symm.trans hp
   refine cx_skip' ?_
   show TX E K14 _
   refine tx_k' hK14 ?_
   refine cx_seq' fun K15 hK15 => ?_
   refine cx_block' ?_
   refine cr fun K16 hK16 => ?_
   obtain ⟨r12, hr12, hp⟩ := bind_some hp
   refine s0 (rd_at' (K := (Kl (Ki .i64))) rfl rfl hr12 Try.underlying24 info23) ?_
   refine s0 (rd_load_pt' rfl rfl flat23) ?_
   refine sa rfl ?_
   refine nk hK16 ?_
   refine cr fun K17 hK17 => ?_
   refine sm rfl ?_
   refine sk rfl Try.underlying23 ?_
   refine sb rfl rfl eg_int ru_gtr ?_
   refine nk hK17 ?_
   refine cx_cond' rfl (fun h6 => ?_) (fun h6 => ?_)
   ·replace hp := (br_t h6).symm.trans hp
    refine cr fun K18 hK18 => ?_
    refine sa rfl ?_
    refine nk hK18 ?_
    refine cx_retc' ?_
    replace hp := sj hp
    subst hp
    show TX E (Zg E Exit.ret _ Exit.ret) _
    exact tx_zend' () rfl [] (uc rfl un) (by decide) pn
   replace hp := (br_f h6).symm.trans hp
   refine cx_skip' ?_
   show TX E K15 _
   refine tx_k' hK15 ?_
   refine cx_region' ?_
   refine sb rfl rfl eg_int ru_add ?_
   refine sm rfl ?_
   refine sx_nil' ?_
   show TX E (KY1 _) _
   exact tk [] (u3 rfl rfl rfl) pn (ih1 (iadd .i64 x1 1) () _ hp)
  replace hp := (br_f h5).symm.trans hp
  refine cx_exit' ?_
  replace hp := sj hp
  subst hp
  show TX E (Zg E (Exit.exit 0) _ (Exit.exit 0)) _
  exact tx_zend' () rfl [] un (by decide) pn
 rcases y1 with v2 | v3
 ·dsimp only at hp
  refine zg_out fun w2 => ?_
  replace hp := sj hp
  subst hp
  refine tk (L' := [(2, (Vb false))]) (H' := []) [] (uc rfl un) pn ?_
  exact tx_ret1' Try.results25 rfl () (rv_tmp' rfl) lr
 dsimp only at hp
 refine zg_out fun w3 => ?_
 show TX E K5 _
 refine tx_k' hK5 ?_
 refine cr fun K19 hK19 => ?_
 refine sa rfl ?_
 refine nk hK19 ?_
 refine cx_retc' ?_
 replace hp := sj hp
 subst hp
 refine tk (L' := [(2, (Vb true))]) (H' := []) [] (uc rfl un) pn ?_
 exact tx_ret1' Try.results25 rfl () (rv_tmp' rfl) lr

abbrev C0 (x0 : Int) (x1 : Int) (x2 : Int) (x3 : _) (x4 : _) (x5 : _) (x6 : _) := ([(Vi x0), (Vi x1), (Vi x2), (Sl Kf x3), (Sl (Ki .i64) x4), (Sl (Kl (Ki .i64)) x5), (Sl KT27 x6)] : List SV)
abbrev C1 (x0 : Int) (x1 : Int) (x2 : Int) := ([(Vi x0), (Vi x1), (Vi x2), Vn, Vn, Vn, Vn] : List SV)
abbrev C2 (x0 : Int) (x1 : Int) (x2 : Gs) (x3 : Int) (x4 : Gs) := ([(Vi x0), (Vi x1), (Vw x2), (Vi x3), (Vw x4)] : List SV)
abbrev C3 (x0 : Int) (x1 : Int) (x2 : _) (x3 : Int) := ([(Vi x0), (Vi x1), (Sl Kf x2), (Vi x3)] : List SV)
abbrev C4 (x0 : Int) (x1 : Gs) (x2 : Int) := ([(Vi x0), (Vw x1), (Vi x2)] : List SV)
abbrev C5 (x0 : Int) (x1 : Int) (x2 : Int) (x3 : _) (x4 : _) := ([(Vi x0), (Vi x1), (Vi x2), (Sl Kf x3), (Sl (Ki .i64) x4), Vn, Vn] : List SV)
abbrev C6 (x0 : Int) (x1 : Int) (x2 : _) (x3 : Int) (x4 : _) := ([(Vi x0), (Vi x1), (Sl Kf x2), (Vi x3), (Sl (Ki .i64) x4)] : List SV)
abbrev C7 (x0 : Int) (x1 : Int) (x2 : Int) (x3 : Gs) (x4 : Gs) := ([(Vi x0), (Vi x1), (Vi x2), (Vw x3), (Vw x4), Vn, Vn] : List SV)
abbrev C8 (x0 : Int) (x1 : Int) (x2 : Int) (x3 : _) (x4 : _) (x5 : _) := ([(Vi x0), (Vi x1), (Vi x2), (Sl Kf x3), (Sl (Ki .i64) x4), (Sl (Kl (Ki .i64)) x5), Vn] : List SV)
abbrev C9 (x0 : Int) (x1 : Int) (x2 : Int) (x3 : _) (x4 : Gs) := ([(Vi x0), (Vi x1), (Vi x2), (Sl Kf x3), (Vw x4), Vn, Vn] : List SV)
abbrev C10 (x0 : Int) (x1 : Int) (x2 : Int) (x3 : Gs) := ([(Vi x0), (Vi x1), (Vi x2), (Vw x3), Vn, Vn, Vn] : List SV)
abbrev C11 (x0 : Int) (x1 : Int) (x2 : _) (x3 : Int) (x4 : _) := ([(Vi x0), (Vi x1), (Sl Kf x2), (Vi x3), (Sl (Kl (Ki .i64)) x4)] : List SV)
abbrev C12 (x0 : Int) (x1 : Int) (x2 : Gs) (x3 : Int) := ([(Vi x0), (Vi x1), (Vw x2), (Vi x3), Vn] : List SV)
abbrev C13 (x0 : Int) (x1 : Int) (x2 : Int) (x3 : Gs) (x4 : Gs) (x5 : Gs) := ([(Vi x0), (Vi x1), (Vi x2), (Vw x3), (Vw x4), (Vw x5), Vn] : List SV)
abbrev C14 (x0 : Int) (x1 : _) (x2 : Int) := ([(Vi x0), (Sl KG53 x1), (Vi x2)] : List SV)
abbrev C15 (x0 : Int) (x1 : Int) (x2 : Int) (x3 : _) := ([(Vi x0), (Vi x1), (Vi x2), (Sl Kf x3), Vn, Vn, Vn] : List SV)
abbrev C16 (x0 : Int) (x1 : Int) (x2 : Int) (x3 : _) (x4 : _) (x5 : _) (x6 : Gs) := ([(Vi x0), (Vi x1), (Vi x2), (Sl Kf x3), (Sl (Ki .i64) x4), (Sl (Kl (Ki .i64)) x5), (Vw x6)] : List SV)
abbrev C17 (x0 : Int) (x1 : Int) (x2 : Int) (x3 : _) (x4 : _) (x5 : Gs) := ([(Vi x0), (Vi x1), (Vi x2), (Sl Kf x3), (Sl (Ki .i64) x4), (Vw x5), Vn] : List SV)
abbrev C18 (x0 : Int) (x1 : Int) (x2 : Int) (x6 : _) := ([(Vi x0), (Vi x1), (Vi x2), Vn, Vn, Vn, (Sl KT27 x6)] : List SV)
abbrev C19 (x0 : Int) (x1 : Int) := ([(Vi x0), (Vi x1)] : List SV)
abbrev C20 (x0 : Int) (x1 : Int) (x2 : Int) (x6 : Gs) := ([(Vi x0), (Vi x1), (Vi x2), Vn, Vn, Vn, (Vw x6)] : List SV)
abbrev C21 (x0 : Int) (x1 : Int) (x2 : Int) (x3 : _) (x4 : Gs) (x5 : Gs) := ([(Vi x0), (Vi x1), (Vi x2), (Sl Kf x3), (Vw x4), (Vw x5), Vn] : List SV)
abbrev C22 (x0 : Int) (x2 : Int) := ([(Vi x0), Vn, (Vi x2)] : List SV)
abbrev C23 (x0 : Int) (x1 : Int) (x3 : Int) := ([(Vi x0), (Vi x1), Vn, (Vi x3), Vn] : List SV)
def laws_zzFits2 (k : Nat) (a0_0 a0_1 a0_2 : Int) (a0_3 : List Nat) (a0_4 : List Int) (a0_5 : List (List Int)) (a0_6 : List T27) : Option (Bool) :=
 br (decide (2147483647 < (a0_3.length : Int)))
  (some false)
  (br (decide (2147483647 < (a0_4.length : Int)))
   (some false)
   ((laws_zzFits3 k a0_5) >>= fun r13 =>
   br (!r13)
    (some false)
    (br (decide (2147483647 < (a0_6.length : Int)))
     (some false)
     (some true))))

theorem laws_zzFits2_sim {k : Nat}  (a0_0 a0_1 a0_2 : Int) (a0_3 : List Nat) (a0_4 : List Int) (a0_5 : List (List Int)) (a0_6 : List T27) {out : Bool} (hp : laws_zzFits2 k a0_0 a0_1 a0_2 a0_3 a0_4 a0_5 a0_6 = some out) : Sx.Fn Try.prog 7 [(Ag (C0 a0_0 a0_1 a0_2 a0_3 a0_4 a0_5 a0_6))] [] (fun w : Unit => (Vb out)) (fun w => []) := by
 unfold laws_zzFits2 at hp
 refine fn_of Try.func7 rfl Try.ntmps7 rfl fun E hM => ?_
 refine cr fun K1 hK1 => ?_
 refine so (ox_box' rfl (lv_ag _) rfl rfl) fun q1 => ?_
 refine sa rfl ?_
 refine nk hK1 ?_
 refine cx_seq' fun K2 hK2 => ?_
 refine cr fun K3 hK3 => ?_
 refine sg (off := 3) rfl Try.underlying27 rfl info22 rfl ?_
 refine sl (i := 0) (o := 3) rfl (ar rfl rfl rfl rfl) rfl flat22 ?_
 refine sk rfl Try.underlying22 ?_
 refine sb rfl rfl eg_int ru_gtr ?_
 refine nk hK3 ?_
 refine cx_cond' rfl (fun h1 => ?_) (fun h1 => ?_)
 ·replace hp := (br_t h1).symm.trans hp
  refine cr fun K4 hK4 => ?_
  refine sa rfl ?_
  refine nk hK4 ?_
  refine cx_retc' ?_
  replace hp := sj hp
  subst hp
  refine tk (L' := [(2, (Vb false))]) (H' := []) [] (uc rfl un) pn ?_
  exact tx_ret1' Try.results7 rfl () (rv_tmp' rfl) lr
 replace hp := (br_f h1).symm.trans hp
 refine cx_skip' ?_
 show TX E K2 _
 refine tx_k' hK2 ?_
 refine cx_seq' fun K5 hK5 => ?_
 refine cr fun K6 hK6 => ?_
 refine sg (off := 4) rfl Try.underlying27 rfl info23 rfl ?_
 refine sl (i := 0) (o := 4) rfl (ar rfl rfl rfl rfl) rfl flat23 ?_
 refine sk rfl Try.underlying23 ?_
 refine sb rfl rfl eg_int ru_gtr ?_
 refine nk hK6 ?_
 refine cx_cond' rfl (fun h2 => ?_) (fun h2 => ?_)
 ·replace hp := (br_t h2).symm.trans hp
  refine cr fun K7 hK7 => ?_
  refine sa rfl ?_
  refine nk hK7 ?_
  refine cx_retc' ?_
  replace hp := sj hp
  subst hp
  refine tk (L' := [(2, (Vb false))]) (H' := []) [] (uc rfl un) pn ?_
  exact tx_ret1' Try.results7 rfl () (rv_tmp' rfl) lr
 replace hp := (br_f h2).symm.trans hp
 refine cx_skip' ?_
 show TX E K5 _
 refine tx_k' hK5 ?_
 refine cx_seq' fun K8 hK8 => ?_
 refine cr fun K9 hK9 => ?_
 refine sg (off := 5) rfl Try.underlying27 rfl info24 rfl ?_
 refine sl (i := 0) (o := 5) rfl (ar rfl rfl rfl rfl) rfl flat24 ?_
 obtain ⟨r13, hr13, hp⟩ := bind_some hp
 refine so (oz (ent_fn' Try.func25 isn25 rfl rfl) (laws_zzFits3_sim _ hr13)) fun ⟨⟩ => ?_
 refine s0 (rd_un' rfl ru_not) ?_
 refine nk hK9 ?_
 refine cx_cond' rfl (fun h3 => ?_) (fun h3 => ?_)
 ·replace hp := (br_t h3).symm.trans hp
  refine cr fun K10 hK10 => ?_
  refine sa rfl ?_
  refine nk hK10 ?_
  refine cx_retc' ?_
  replace hp := sj hp
  subst hp
  refine tk (L' := [(2, (Vb false))]) (H' := []) [] (uc rfl un) pn ?_
  exact tx_ret1' Try.results7 rfl () (rv_tmp' rfl) lr
 replace hp := (br_f h3).symm.trans hp
 refine cx_skip' ?_
 show TX E K8 _
 refine tx_k' hK8 ?_
 refine cx_seq' fun K11 hK11 => ?_
 refine cr fun K12 hK12 => ?_
 refine sg (off := 6) rfl Try.underlying27 rfl info25 rfl ?_
 refine sl (i := 0) (o := 6) rfl (ar rfl rfl rfl rfl) rfl flat25 ?_
 refine sk rfl Try.underlying25 ?_
 refine sb rfl rfl eg_int ru_gtr ?_
 refine nk hK12 ?_
 refine cx_cond' rfl (fun h4 => ?_) (fun h4 => ?_)
 ·replace hp := (br_t h4).symm.trans hp
  refine cr fun K13 hK13 => ?_
  refine sa rfl ?_
  refine nk hK13 ?_
  refine cx_retc' ?_
  replace hp := sj hp
  subst hp
  refine tk (L' := [(2, (Vb false))]) (H' := []) [] (uc rfl un) pn ?_
  exact tx_ret1' Try.results7 rfl () (rv_tmp' rfl) lr
 replace hp := (br_f h4).symm.trans hp
 refine cx_skip' ?_
 show TX E K11 _
 refine tx_k' hK11 ?_
 refine cr fun K14 hK14 => ?_
 refine sa rfl ?_
 refine nk hK14 ?_
 refine cx_retc' ?_
 replace hp := sj hp
 subst hp
 refine tk (L' := [(2, (Vb true))]) (H' := []) [] (uc rfl un) pn ?_
 exact tx_ret1' Try.results7 rfl () (rv_tmp' rfl) lr

def spec_Weight_l1s (a0_5 : List (List Int)) (k : Nat) (rec1 : (Int × Int) → Option (Int)) (x1 x2 : Int) : Option (Int) :=
 br (decide (x2 < (a0_5.length : Int)))
  ((idx a0_5 x2) >>= fun r23 =>
  rec1 ((iadd .i64 x1 (iadd .i64 1 (r23.length : Int))), (iadd .i64 x2 1)))
  (some x1)
def spec_Weight_l1 (a0_5 : List (List Int)) : Nat → (Int × Int) → Option (Int)
 | 0, _ => none
 | k + 1, v => spec_Weight_l1s a0_5 k (spec_Weight_l1 a0_5 k) v.1 v.2
def spec_Weight_l2s (a0_6 : List T27) (a1 : Int) (recf : Int → Int → Int → (List Nat) → (List Int) → (List (List Int)) → (List T27) → Int → Option (Int)) (k : Nat) (rec2 : (Int × Int) → Option (Int ⊕ Int)) (x5 x6 : Int) : Option (Int ⊕ Int) :=
 br (decide (x6 < (a0_6.length : Int)))
  ((idx a0_6 x6) >>= fun r36 =>
  br (decide (a1 < x5))
   (some (.inl x5))
   ((recf r36.f0 r36.f1 r36.f2 r36.f3 r36.f4 r36.f5 r36.f6 (isub .i64 a1 x5)) >>= fun r47 =>
   rec2 ((iadd .i64 x5 r47), (iadd .i64 x6 1))))
  (some (.inr x5))
def spec_Weight_l2 (a0_6 : List T27) (a1 : Int) (recf : Int → Int → Int → (List Nat) → (List Int) → (List (List Int)) → (List T27) → Int → Option (Int)) : Nat → (Int × Int) → Option (Int ⊕ Int)
 | 0, _ => none
 | k + 1, v => spec_Weight_l2s a0_6 a1 recf k (spec_Weight_l2 a0_6 a1 recf k) v.1 v.2
def spec_Weight_b (recf : Int → Int → Int → (List Nat) → (List Int) → (List (List Int)) → (List T27) → Int → Option (Int)) (k : Nat) (a0_0 a0_1 a0_2 : Int) (a0_3 : List Nat) (a0_4 : List Int) (a0_5 : List (List Int)) (a0_6 : List T27) (a1 : Int) : Option (Int) :=
 (spec_Weight_l1 a0_5 k ((iadd .i64 (iadd .i64 1 (a0_3.length : Int)) (a0_4.length : Int)), 0)) >>= fun v2 =>
 (spec_Weight_l2 a0_6 a1 recf k (v2, 0)) >>= fun y2 => match y2 with
  | (.inl v5) =>
   (some v5)
  | (.inr v6) =>
   (some v6)
def spec_Weight : Nat → Int → Int → Int → (List Nat) → (List Int) → (List (List Int)) → (List T27) → Int → Option (Int)
 | 0 => fun _ _ _ _ _ _ _ _ => none
 | k + 1 => fun a0_0 a0_1 a0_2 a0_3 a0_4 a0_5 a0_6 a1 => spec_Weight_b (spec_Weight k) k a0_0 a0_1 a0_2 a0_3 a0_4 a0_5 a0_6 a1

theorem spec_Weight_b_sim {recf : Int → Int → Int → (List Nat) → (List Int) → (List (List Int)) → (List T27) → Int → Option (Int)} (hrec : ∀  (a0_0 a0_1 a0_2 : Int) (a0_3 : List Nat) (a0_4 : List Int) (a0_5 : List (List Int)) (a0_6 : List T27) (a1 out : Int), recf a0_0 a0_1 a0_2 a0_3 a0_4 a0_5 a0_6 a1 = some out → Sx.Fn Try.prog 56 [(Ag (C0 a0_0 a0_1 a0_2 a0_3 a0_4 a0_5 a0_6)), (Vi a1)] [] (fun w : Unit => (Vi out)) (fun w => [])) {k : Nat}  (a0_0 a0_1 a0_2 : Int) (a0_3 : List Nat) (a0_4 : List Int) (a0_5 : List (List Int)) (a0_6 : List T27) (a1 : Int) {out : Int} (hp : spec_Weight_b recf k a0_0 a0_1 a0_2 a0_3 a0_4 a0_5 a0_6 a1 = some out) : Sx.Fn Try.prog 56 [(Ag (C0 a0_0 a0_1 a0_2 a0_3 a0_4 a0_5 a0_6)), (Vi a1)] [] (fun w : Unit => (Vi out)) (fun w => []) := by
 unfold spec_Weight_b at hp
 refine fn_of Try.func56 rfl Try.ntmps56 rfl fun E hM => ?_
 refine cr fun K1 hK1 => ?_
 refine so (ox_box' rfl (lv_ag _) rfl rfl) fun q2 => ?_
 refine sa rfl ?_
 refine nk hK1 ?_
 refine cr fun K2 hK2 => ?_
 refine sg (off := 3) rfl Try.underlying27 rfl info22 rfl ?_
 refine sl (i := 0) (o := 3) rfl (ar rfl rfl rfl rfl) rfl flat22 ?_
 refine sk rfl Try.underlying22 ?_
 refine sb rfl rfl eg_int ru_add ?_
 refine sg (off := 4) rfl Try.underlying27 rfl info23 rfl ?_
 refine sl (i := 0) (o := 4) rfl (ar rfl rfl rfl rfl) rfl flat23 ?_
 refine sk rfl Try.underlying23 ?_
 refine sb rfl rfl eg_int ru_add ?_
 refine sa rfl ?_
 refine nk hK2 ?_
 refine cx_seq' fun K3 hK3 => ?_
 refine cr fun K4 hK4 => ?_
 refine sg (off := 5) rfl Try.underlying27 rfl info24 rfl ?_
 refine sl (i := 0) (o := 5) rfl (ar rfl rfl rfl rfl) rfl flat24 ?_
 refine sk rfl Try.underlying24 ?_
 refine sm rfl ?_
 refine nk hK4 ?_
 refine cx_block' ?_
 obtain ⟨v2, hy1, hp⟩ := bind_some hp
 refine cx_loopg' (F := spec_Weight_l1 a0_5) (G := fun k R v => spec_Weight_l1s a0_5 k R v.1 v.2) (x := ((iadd .i64 (iadd .i64 1 (a0_3.length : Int)) (a0_4.length : Int)), 0)) (gh := ()) (fun (v1 : Int × Int) (w1 : Unit) => (⟨51, [], [(1, (Vi a1)), (2, (Vp q2)), (5, (Vi v1.1)), (19, (Sl (Kl (Ki .i64)) a0_5)), (20, (Vi (a0_5.length : Int))), (21, (Vi v1.2))], [(Ur q2 27 (C0 a0_0 a0_1 a0_2 a0_3 a0_4 a0_5 a0_6))]⟩ : St)) (fun (v2 : Int) => Zg E (Exit.exit 0) (fun (w2 : Unit) => (⟨51, [], [(1, (Vi a1)), (2, (Vp q2)), (5, (Vi v2))], [(Ur q2 27 (C0 a0_0 a0_1 a0_2 a0_3 a0_4 a0_5 a0_6))]⟩ : St))) (fun _ => rfl) (fun _ _ => rfl) ?_ hy1 (tx_to' rfl [0] (u6 rfl rfl rfl rfl rfl rfl) (by decide) (pc rfl pn)) ?_
 ·clear hp hy1
  clear v2
  intro k rec1 KY1 ih1
  rintro ⟨x1, x2⟩ ⟨⟩ y1 hp
  replace hp : spec_Weight_l1s a0_5 k rec1 x1 x2 = some y1 := hp
  unfold spec_Weight_l1s at hp
  refine cr fun K9 hK9 => ?_
  refine sb rfl rfl eg_int ru_lss ?_
  refine nk hK9 ?_
  refine cx_seq' fun K10 hK10 => ?_
  refine cx_cond' rfl (fun h3 => ?_) (fun h3 => ?_)
  ·replace hp := (br_t h3).symm.trans hp
   refine cx_skip' ?_
   show TX E K10 _
   refine tx_k' hK10 ?_
   refine cx_seq' fun K11 hK11 => ?_
   refine cx_block' ?_
   refine cr fun K12 hK12 => ?_
   obtain ⟨r23, hr23, hp⟩ := bind_some hp
   refine s0 (rd_at' (K := (Kl (Ki .i64))) rfl rfl hr23 Try.underlying24 info23) ?_
   refine s0 (rd_load_pt' rfl rfl flat23) ?_
   refine sa rfl ?_
   refine nk hK12 ?_
   refine cx_region' ?_
   iterate 2 refine sm rfl ?_
   refine sk rfl Try.underlying23 ?_
   iterate 2 refine sb rfl rfl eg_int ru_add ?_
   refine sa rfl ?_
   refine nk hK11 ?_
   refine cx_region' ?_
   refine sb rfl rfl eg_int ru_add ?_
   refine sm rfl ?_
   refine sx_nil' ?_
   show TX E (KY1 _) _
   exact tk [0] (u6 rfl rfl rfl rfl rfl rfl) (pc rfl pn) (ih1 ((iadd .i64 x1 (iadd .i64 1 (r23.length : Int))), (iadd .i64 x2 1)) () _ hp)
  replace hp := (br_f h3).symm.trans hp
  refine cx_exit' ?_
  replace hp := sj hp
  subst hp
  show TX E (Zg E (Exit.exit 0) _ (Exit.exit 0)) _
  exact tx_zend' () rfl [0] (u3 rfl rfl rfl) (by decide) (pc rfl pn)
 refine zg_out fun w2 => ?_
 show TX E K3 _
 refine tx_k' hK3 ?_
 refine cx_seq' fun K13 hK13 => ?_
 refine cr fun K14 hK14 => ?_
 refine sg (off := 6) rfl Try.underlying27 rfl info25 rfl ?_
 refine sl (i := 0) (o := 6) rfl (ar rfl rfl rfl rfl) rfl flat25 ?_
 refine sk rfl Try.underlying25 ?_
 refine sm rfl ?_
 refine nk hK14 ?_
 refine cx_block' ?_
 obtain ⟨y2, hy2, hp⟩ := bind_some hp
 refine cx_loopg' (F := spec_Weight_l2 a0_6 a1 recf) (G := fun k R v => spec_Weight_l2s a0_6 a1 recf k R v.1 v.2) (x := (v2, 0)) (gh := ()) (fun (v4 : Int × Int) (w4 : Unit) => (⟨51, [], [(1, (Vi a1)), (5, (Vi v4.1)), (32, (Sl KT27 a0_6)), (33, (Vi (a0_6.length : Int))), (34, (Vi v4.2))], []⟩ : St)) (fun (y : Int ⊕ Int) => match y with | (.inl v5) => Zg E Exit.ret (fun (w5 : Unit) => (⟨51, [], [(4, (Vi v5))], []⟩ : St)) | (.inr v6) => Zg E (Exit.exit 2) (fun (w6 : Unit) => (⟨51, [], [(5, (Vi v6))], []⟩ : St))) (fun _ => rfl) (fun _ _ => rfl) ?_ hy2 (tx_to' rfl [] (u5 rfl rfl rfl rfl rfl) (by decide) pn) ?_
 ·clear hp hy2
  clear y2
  intro k rec2 KY2 ih2
  rintro ⟨x5, x6⟩ ⟨⟩ y2 hp
  replace hp : spec_Weight_l2s a0_6 a1 recf k rec2 x5 x6 = some y2 := hp
  unfold spec_Weight_l2s at hp
  refine cr fun K23 hK23 => ?_
  refine sb rfl rfl eg_int ru_lss ?_
  refine nk hK23 ?_
  refine cx_seq' fun K24 hK24 => ?_
  refine cx_cond' rfl (fun h7 => ?_) (fun h7 => ?_)
  ·replace hp := (br_t h7).symm.trans hp
   refine cx_skip' ?_
   show TX E K24 _
   refine tx_k' hK24 ?_
   refine cx_seq' fun K25 hK25 => ?_
   refine cx_block' ?_
   refine cr fun K26 hK26 => ?_
   obtain ⟨r36, hr36, hp⟩ := bind_some hp
   refine s0 (rd_eq' (congrArg Pt (KT27_enc r36)) (rd_at' (K := KT27) rfl rfl hr36 Try.underlying25 info27)) ?_
   refine s0 (rd_load_pt_agg' (nn := 7) rfl rfl agg27 (l' := (C0 r36.f0 r36.f1 r36.f2 r36.f3 r36.f4 r36.f5 r36.f6)) rfl) ?_
   refine so (ox_alloc' info27 rfl rfl rfl rfl (l := (C1 0 0 0)) rfl) fun q9 => ?_
   refine so (ox_store' (i := 0) (o := 0) rfl rfl (lv_ag _) (ar rfl rfl rfl rfl) rfl info27 rfl (H' := [(Ur q9 27 (C0 r36.f0 r36.f1 r36.f2 r36.f3 r36.f4 r36.f5 r36.f6))]) rfl) fun _ => ?_
   refine nk hK26 ?_
   refine cx_seq' fun K27 hK27 => ?_
   refine cr fun K28 hK28 => ?_
   iterate 2 refine sm rfl ?_
   refine sb rfl rfl eg_int ru_gtr ?_
   refine nk hK28 ?_
   refine cx_cond' rfl (fun h8 => ?_) (fun h8 => ?_)
   ·replace hp := (br_t h8).symm.trans hp
    refine cr fun K29 hK29 => ?_
    refine sm rfl ?_
    refine sa rfl ?_
    refine nk hK29 ?_
    refine cx_retc' ?_
    replace hp := sj hp
    subst hp
    show TX E (Zg E Exit.ret _ Exit.ret) _
    exact tx_zend' () rfl [] (uc rfl un) (by decide) pn
   replace hp := (br_f h8).symm.trans hp
   refine cx_skip' ?_
   show TX E K27 _
   refine tx_k' hK27 ?_
   refine cx_region' ?_
   refine sm rfl ?_
   refine s0 (rd_load_agg' (i := 0) (o := 0) (nn := 7) rfl (ar rfl rfl rfl rfl) rfl agg27 (l' := (C0 r36.f0 r36.f1 r36.f2 r36.f3 r36.f4 r36.f5 r36.f6)) rfl) ?_
   iterate 2 refine sm rfl ?_
   refine sb rfl rfl eg_int ru_sub ?_
   obtain ⟨r47, hr47, hp⟩ := bind_some hp
   refine so (oz (ent_fn' Try.func56 isn56 rfl rfl) (hrec _ _ _ _ _ _ _ _ _ hr47)) fun ⟨⟩ => ?_
   refine sb rfl rfl eg_int ru_add ?_
   refine sa rfl ?_
   refine nk hK25 ?_
   refine cx_region' ?_
   refine sb rfl rfl eg_int ru_add ?_
   refine sm rfl ?_
   refine sx_nil' ?_
   show TX E (KY2 _) _
   exact tk [] (u5 rfl rfl rfl rfl rfl) pn (ih2 ((iadd .i64 x5 r47), (iadd .i64 x6 1)) () _ hp)
  replace hp := (br_f h7).symm.trans hp
  refine cx_exit' ?_
  replace hp := sj hp
  subst hp
  show TX E (Zg E (Exit.exit 2) _ (Exit.exit 2)) _
  exact tx_zend' () rfl [] (uc rfl un) (by decide) pn
 rcases y2 with v5 | v6
 ·dsimp only at hp
  refine zg_out fun w5 => ?_
  replace hp := sj hp
  subst hp
  refine tk (L' := [(4, (Vi v5))]) (H' := []) [] (uc rfl un) pn ?_
  exact tx_ret1' Try.results56 rfl () (rv_tmp' rfl) lr
 dsimp only at hp
 refine zg_out fun w6 => ?_
 show TX E K13 _
 refine tx_k' hK13 ?_
 refine cr fun K22 hK22 => ?_
 refine sm rfl ?_
 refine sa rfl ?_
 refine nk hK22 ?_
 refine cx_retc' ?_
 replace hp := sj hp
 subst hp
 refine tk (L' := [(4, (Vi v6))]) (H' := []) [] (uc rfl un) pn ?_
 exact tx_ret1' Try.results56 rfl () (rv_tmp' rfl) lr
theorem spec_Weight_simA : ∀ (k : Nat)  (a0_0 a0_1 a0_2 : Int) (a0_3 : List Nat) (a0_4 : List Int) (a0_5 : List (List Int)) (a0_6 : List T27) (a1 out : Int), spec_Weight k a0_0 a0_1 a0_2 a0_3 a0_4 a0_5 a0_6 a1 = some out → Sx.Fn Try.prog 56 [(Ag (C0 a0_0 a0_1 a0_2 a0_3 a0_4 a0_5 a0_6)), (Vi a1)] [] (fun w : Unit => (Vi out)) (fun w => []) := by
 intro k
 induction k with
 | zero => intro a0_0 a0_1 a0_2 a0_3 a0_4 a0_5 a0_6 a1 out hp; cases hp
 | succ k ih => intro a0_0 a0_1 a0_2 a0_3 a0_4 a0_5 a0_6 a1 out hp; exact spec_Weight_b_sim ih a0_0 a0_1 a0_2 a0_3 a0_4 a0_5 a0_6 a1 hp
theorem spec_Weight_sim {k : Nat}  (a0_0 a0_1 a0_2 : Int) (a0_3 : List Nat) (a0_4 : List Int) (a0_5 : List (List Int)) (a0_6 : List T27) (a1 : Int) {out : Int} (hp : spec_Weight k a0_0 a0_1 a0_2 a0_3 a0_4 a0_5 a0_6 a1 = some out) : Sx.Fn Try.prog 56 [(Ag (C0 a0_0 a0_1 a0_2 a0_3 a0_4 a0_5 a0_6)), (Vi a1)] [] (fun w : Unit => (Vi out)) (fun w => []) := spec_Weight_simA k a0_0 a0_1 a0_2 a0_3 a0_4 a0_5 a0_6 a1 out hp

def laws_gLayouts_l1s (a0_6 : List T27) (recf : Int → Int → Int → (List Nat) → (List Int) → (List (List Int)) → (List T27) → Int → Option (Bool)) (a1 : Int) (k : Nat) (rec1 : Int → Option (Unit ⊕ Unit)) (x5 : Int) : Option (Unit ⊕ Unit) :=
 br (decide (x5 < (a0_6.length : Int)))
  ((idx a0_6 x5) >>= fun r12 =>
  (recf r12.f0 r12.f1 r12.f2 r12.f3 r12.f4 r12.f5 r12.f6 a1) >>= fun r16 =>
  br (!r16)
   (some (.inl ()))
   (rec1 (iadd .i64 x5 1)))
  (some (.inr ()))
def laws_gLayouts_l1 (a0_6 : List T27) (recf : Int → Int → Int → (List Nat) → (List Int) → (List (List Int)) → (List T27) → Int → Option (Bool)) (a1 : Int) : Nat → Int → Option (Unit ⊕ Unit)
 | 0, _ => none
 | k + 1, v => laws_gLayouts_l1s a0_6 recf a1 k (laws_gLayouts_l1 a0_6 recf a1 k) v
def laws_gLayouts_j3 (k : Nat) (x3 : Bool) : Option (Bool) :=
 some x3
def laws_gLayouts_j2 (k : Nat) (x2 : Bool) : Option (Bool) :=
 laws_gLayouts_j3 k x2
def laws_gLayouts_j1 (k : Nat) (x1 : Bool) : Option (Bool) :=
 laws_gLayouts_j2 k x1
def laws_gLayouts_b (recf : Int → Int → Int → (List Nat) → (List Int) → (List (List Int)) → (List T27) → Int → Option (Bool)) (k : Nat) (a0_0 a0_1 a0_2 : Int) (a0_3 : List Nat) (a0_4 : List Int) (a0_5 : List (List Int)) (a0_6 : List T27) (a1 : Int) : Option (Bool) :=
 (laws_gLayouts_l1 a0_6 recf a1 k 0) >>= fun y1 => match y1 with
  | (.inl v6) =>
   (some false)
  | (.inr v7) =>
   (br (decide (a0_1 ≤ a1))
    (br (decide (1 ≤ a0_1))
     (laws_gLayouts_j2 k true)
     (br (decide (a0_0 = 7))
      (laws_gLayouts_j1 k (decide (0 ≤ a0_1)))
      (laws_gLayouts_j1 k false)))
    (laws_gLayouts_j3 k false))
def laws_gLayouts : Nat → Int → Int → Int → (List Nat) → (List Int) → (List (List Int)) → (List T27) → Int → Option (Bool)
 | 0 => fun _ _ _ _ _ _ _ _ => none
 | k + 1 => fun a0_0 a0_1 a0_2 a0_3 a0_4 a0_5 a0_6 a1 => laws_gLayouts_b (laws_gLayouts k) k a0_0 a0_1 a0_2 a0_3 a0_4 a0_5 a0_6 a1

theorem laws_gLayouts_b_sim {recf : Int → Int → Int → (List Nat) → (List Int) → (List (List Int)) → (List T27) → Int → Option (Bool)} (hrec : ∀  (a0_0 a0_1 a0_2 : Int) (a0_3 : List Nat) (a0_4 : List Int) (a0_5 : List (List Int)) (a0_6 : List T27) (a1 : Int) (out : Bool), recf a0_0 a0_1 a0_2 a0_3 a0_4 a0_5 a0_6 a1 = some out → Sx.Fn Try.prog 50 [(Ag (C0 a0_0 a0_1 a0_2 a0_3 a0_4 a0_5 a0_6)), (Vi a1)] [] (fun w : Unit => (Vb out)) (fun w => [])) {k : Nat}  (a0_0 a0_1 a0_2 : Int) (a0_3 : List Nat) (a0_4 : List Int) (a0_5 : List (List Int)) (a0_6 : List T27) (a1 : Int) {out : Bool} (hp : laws_gLayouts_b recf k a0_0 a0_1 a0_2 a0_3 a0_4 a0_5 a0_6 a1 = some out) : Sx.Fn Try.prog 50 [(Ag (C0 a0_0 a0_1 a0_2 a0_3 a0_4 a0_5 a0_6)), (Vi a1)] [] (fun w : Unit => (Vb out)) (fun w => []) := by
 unfold laws_gLayouts_b at hp
 refine fn_of Try.func50 rfl Try.ntmps50 rfl fun E hM => ?_
 refine cr fun K1 hK1 => ?_
 refine so (ox_box' rfl (lv_ag _) rfl rfl) fun q2 => ?_
 refine sa rfl ?_
 refine nk hK1 ?_
 refine cx_seq' fun K2 hK2 => ?_
 refine cr fun K3 hK3 => ?_
 refine sg (off := 6) rfl Try.underlying27 rfl info25 rfl ?_
 refine sl (i := 0) (o := 6) rfl (ar rfl rfl rfl rfl) rfl flat25 ?_
 refine sk rfl Try.underlying25 ?_
 refine sm rfl ?_
 refine nk hK3 ?_
 refine cx_block' ?_
 obtain ⟨y1, hy1, hp⟩ := bind_some hp
 refine cx_loopg' (F := laws_gLayouts_l1 a0_6 recf a1) (G := fun k R v => laws_gLayouts_l1s a0_6 recf a1 k R v) (x := 0) (gh := ()) (fun (v5 : Int) (w5 : Unit) => (⟨38, [], [(1, (Vi a1)), (2, (Vp q2)), (8, (Sl KT27 a0_6)), (9, (Vi (a0_6.length : Int))), (10, (Vi v5))], [(Ur q2 27 (C0 a0_0 a0_1 a0_2 a0_3 a0_4 a0_5 a0_6))]⟩ : St)) (fun (y : Unit ⊕ Unit) => match y with | (.inl v6) => Zg E Exit.ret (fun (w6 : Unit) => (⟨38, [], [(4, (Vb false))], []⟩ : St)) | (.inr v7) => Zg E (Exit.exit 0) (fun (w7 : Unit) => (⟨38, [], [(1, (Vi a1)), (2, (Vp q2))], [(Ur q2 27 (C0 a0_0 a0_1 a0_2 a0_3 a0_4 a0_5 a0_6))]⟩ : St))) (fun _ => rfl) (fun _ _ => rfl) ?_ hy1 (tx_to' rfl [0] (u5 rfl rfl rfl rfl rfl) (by decide) (pc rfl pn)) ?_
 ·clear hp hy1
  clear y1
  intro k rec1 KY1 ih1
  rintro x5 ⟨⟩ y1 hp
  replace hp : laws_gLayouts_l1s a0_6 recf a1 k rec1 x5 = some y1 := hp
  unfold laws_gLayouts_l1s at hp
  refine cr fun K14 hK14 => ?_
  refine sb rfl rfl eg_int ru_lss ?_
  refine nk hK14 ?_
  refine cx_seq' fun K15 hK15 => ?_
  refine cx_cond' rfl (fun h7 => ?_) (fun h7 => ?_)
  ·replace hp := (br_t h7).symm.trans hp
   refine cx_skip' ?_
   show TX E K15 _
   refine tx_k' hK15 ?_
   refine cx_seq' fun K16 hK16 => ?_
   refine cx_block' ?_
   refine cr fun K17 hK17 => ?_
   obtain ⟨r12, hr12, hp⟩ := bind_some hp
   refine s0 (rd_eq' (congrArg Pt (KT27_enc r12)) (rd_at' (K := KT27) rfl rfl hr12 Try.underlying25 info27)) ?_
   refine s0 (rd_load_pt_agg' (nn := 7) rfl rfl agg27 (l' := (C0 r12.f0 r12.f1 r12.f2 r12.f3 r12.f4 r12.f5 r12.f6)) rfl) ?_
   refine so (ox_alloc' info27 rfl rfl rfl rfl (l := (C1 0 0 0)) rfl) fun q6 => ?_
   refine so (ox_store' (i := 0) (o := 0) rfl rfl (lv_ag _) (ar rfl rfl rfl rfl) rfl info27 rfl (H' := [(Ur q6 27 (C0 r12.f0 r12.f1 r12.f2 r12.f3 r12.f4 r12.f5 r12.f6)), (Ur q2 27 (C0 a0_0 a0_1 a0_2 a0_3 a0_4 a0_5 a0_6))]) rfl) fun _ => ?_
   refine nk hK17 ?_
   refine cr fun K18 hK18 => ?_
   refine s0 (rd_load_agg' (i := 0) (o := 0) (nn := 7) rfl (ar rfl rfl rfl rfl) rfl agg27 (l' := (C0 r12.f0 r12.f1 r12.f2 r12.f3 r12.f4 r12.f5 r12.f6)) rfl) ?_
   refine sm rfl ?_
   obtain ⟨r16, hr16, hp⟩ := bind_some hp
   refine so (oz (ent_fn' Try.func50 isn50 rfl rfl) (hrec _ _ _ _ _ _ _ _ _ hr16)) fun ⟨⟩ => ?_
   refine s0 (rd_un' rfl ru_not) ?_
   refine nk hK18 ?_
   refine cx_cond' rfl (fun h8 => ?_) (fun h8 => ?_)
   ·replace hp := (br_t h8).symm.trans hp
    refine cr fun K19 hK19 => ?_
    refine sa rfl ?_
    refine nk hK19 ?_
    refine cx_retc' ?_
    replace hp := sj hp
    subst hp
    show TX E (Zg E Exit.ret _ Exit.ret) _
    exact tx_zend' () rfl [] (uc rfl un) (by decide) pn
   replace hp := (br_f h8).symm.trans hp
   refine cx_skip' ?_
   show TX E K16 _
   refine tx_k' hK16 ?_
   refine cx_region' ?_
   refine sb rfl rfl eg_int ru_add ?_
   refine sm rfl ?_
   refine sx_nil' ?_
   show TX E (KY1 _) _
   exact tk [1] (u5 rfl rfl rfl rfl rfl) (pc rfl pn) (ih1 (iadd .i64 x5 1) () _ hp)
  replace hp := (br_f h7).symm.trans hp
  refine cx_exit' ?_
  replace hp := sj hp
  subst hp
  show TX E (Zg E (Exit.exit 0) _ (Exit.exit 0)) _
  exact tx_zend' () rfl [0] (u2 rfl rfl) (by decide) (pc rfl pn)
 rcases y1 with v6 | v7
 ·dsimp only at hp
  refine zg_out fun w6 => ?_
  replace hp := sj hp
  subst hp
  refine tk (L' := [(4, (Vb false))]) (H' := []) [] (uc rfl un) pn ?_
  exact tx_ret1' Try.results50 rfl () (rv_tmp' rfl) lr
 dsimp only at hp
 refine zg_out fun w7 => ?_
 show TX E K2 _
 refine tx_k' hK2 ?_
 refine cr fun K9 hK9 => ?_
 refine sg (off := 1) rfl Try.underlying27 rfl info3 rfl ?_
 refine sl (i := 0) (o := 1) rfl (ar rfl rfl rfl rfl) rfl flat3 ?_
 refine sm rfl ?_
 refine sb rfl rfl eg_int ru_leq ?_
 refine sm rfl ?_
 refine sx_cutn' 14 (fun (v3 : Bool) => (⟨38, [], [(37, (Vb v3))], []⟩ : St)) (fun (v3 : Bool) => laws_gLayouts_j3 k v3 = some out) ?_ ?_
 ·rintro x3 hp
  replace hp : laws_gLayouts_j3 k x3 = some out := hp
  unfold laws_gLayouts_j3 at hp
  refine sa rfl ?_
  refine nk hK9 ?_
  refine cx_retc' ?_
  replace hp := sj hp
  subst hp
  refine tk (L' := [(4, (Vb x3))]) (H' := []) [] (uc rfl un) pn ?_
  exact tx_ret1' Try.results50 rfl () (rv_tmp' rfl) lr
 intro K12 hK12
 rcases br_cases hp with ⟨h2, hp⟩ | ⟨h2, hp⟩
 ·refine sx_rd' (rd_field' (off := 1) rfl Try.underlying27 rfl info3 rfl) rfl rfl (wt_is' (wt_guard' rfl rfl rfl) (beq_tt h2)) ?_
  refine sx_rd' (rd_load' (i := 0) (o := 1) rfl (ar rfl rfl rfl rfl) rfl flat3) rfl rfl (wt_is' (wt_guard' rfl rfl rfl) (beq_tt h2)) ?_
  refine sx_rd' (rd_bin' rfl rfl eg_int ru_geq) rfl rfl (wt_is' (wt_guard' rfl rfl rfl) (beq_tt h2)) ?_
  refine sx_rd' (rd_move' rfl) rfl rfl (wt_is' (wt_guard' rfl rfl rfl) (beq_tt h2)) ?_
  refine sx_cutn' 10 (fun (v2 : Bool) => (⟨38, [], [(37, (Vb v2))], []⟩ : St)) (fun (v2 : Bool) => laws_gLayouts_j2 k v2 = some out) ?_ ?_
  ·rintro x2 hp
   replace hp : laws_gLayouts_j2 k x2 = some out := hp
   unfold laws_gLayouts_j2 at hp
   refine sx_nil' ?_
   show TX E K12 _
   exact tk [] (uc rfl un) pn (hK12 x2 hp)
  intro K11 hK11
  rcases br_cases hp with ⟨h3, hp⟩ | ⟨h3, hp⟩
  ·refine sx_skip' rfl rfl (wt_is' (wt_guard' rfl rfl rfl) (beq_tf h3)) ?_
   iterate 3 refine sx_skip' rfl rfl (wt_is' (wt_guard' rfl rfl rfl) (beq_tf h3)) ?_
   iterate 3 refine sx_skip' rfl rfl (wt_undef' rfl rfl rfl) ?_
   refine sx_skip' rfl rfl (wt_is' (wt_guard' rfl rfl rfl) (beq_tf h3)) ?_
   refine sx_rd' (rd_pick_true' rfl h3 rfl) rfl rfl (wt_is' (wt_guard' rfl rfl rfl) (beq_tt h2)) ?_
   refine s0 (rd_pick_true' rfl h2 rfl) ?_
   refine sx_nil' ?_
   show TX E K11 _
   exact tk [] (uc rfl un) pn (hK11 true hp)
  refine sx_rd' (rd_field0' rfl Try.underlying27 rfl info3 rfl) rfl rfl (wt_is' (wt_guard' rfl rfl rfl) (beq_ff h3)) ?_
  refine sx_rd' (rd_load' (i := 0) (o := 0) rfl (ar rfl rfl rfl rfl) rfl flat3) rfl rfl (wt_is' (wt_guard' rfl rfl rfl) (beq_ff h3)) ?_
  refine sx_rd' (rd_bin' rfl rfl eg_int ru_eql) rfl rfl (wt_is' (wt_guard' rfl rfl rfl) (beq_ff h3)) ?_
  refine sx_rd' (rd_move' rfl) rfl rfl (wt_is' (wt_guard' rfl rfl rfl) (beq_ff h3)) ?_
  refine sx_cutn' 6 (fun (v1 : Bool) => (⟨38, [], [(37, (Vb v1))], []⟩ : St)) (fun (v1 : Bool) => laws_gLayouts_j1 k v1 = some out) ?_ ?_
  ·rintro x1 hp
   replace hp : laws_gLayouts_j1 k x1 = some out := hp
   unfold laws_gLayouts_j1 at hp
   refine sx_nil' ?_
   show TX E K11 _
   exact tk [] (uc rfl un) pn (hK11 x1 hp)
  intro K10 hK10
  rcases br_cases hp with ⟨h4, hp⟩ | ⟨h4, hp⟩
  ·refine sx_rd' (rd_field' (off := 1) rfl Try.underlying27 rfl info3 rfl) rfl rfl (wt_is' (wt_guard' rfl rfl rfl) (beq_tt h4)) ?_
   refine sx_rd' (rd_load' (i := 0) (o := 1) rfl (ar rfl rfl rfl rfl) rfl flat3) rfl rfl (wt_is' (wt_guard' rfl rfl rfl) (beq_tt h4)) ?_
   refine sx_rd' (rd_bin' rfl rfl eg_int ru_geq) rfl rfl (wt_is' (wt_guard' rfl rfl rfl) (beq_tt h4)) ?_
   refine sx_rd' (rd_pick_true' rfl h4 rfl) rfl rfl (wt_is' (wt_guard' rfl rfl rfl) (beq_ff h3)) ?_
   refine sx_rd' (rd_pick_false' rfl h3 rfl) rfl rfl (wt_is' (wt_guard' rfl rfl rfl) (beq_tt h2)) ?_
   refine s0 (rd_pick_true' rfl h2 rfl) ?_
   refine sx_nil' ?_
   show TX E K10 _
   exact tk [] (uc rfl un) pn (hK10 (decide (0 ≤ a0_1)) hp)
  iterate 3 refine sx_skip' rfl rfl (wt_is' (wt_guard' rfl rfl rfl) (beq_ft h4)) ?_
  refine sx_rd' (rd_pick_false' rfl h4 rfl) rfl rfl (wt_is' (wt_guard' rfl rfl rfl) (beq_ff h3)) ?_
  refine sx_rd' (rd_pick_false' rfl h3 rfl) rfl rfl (wt_is' (wt_guard' rfl rfl rfl) (beq_tt h2)) ?_
  refine s0 (rd_pick_true' rfl h2 rfl) ?_
  refine sx_nil' ?_
  show TX E K10 _
  exact tk [] (uc rfl un) pn (hK10 false hp)
 iterate 4 refine sx_skip' rfl rfl (wt_is' (wt_guard' rfl rfl rfl) (beq_ft h2)) ?_
 iterate 8 refine sx_skip' rfl rfl (wt_undef' rfl rfl rfl) ?_
 refine sx_skip' rfl rfl (wt_is' (wt_guard' rfl rfl rfl) (beq_ft h2)) ?_
 refine s0 (rd_pick_false' rfl h2 rfl) ?_
 refine sx_nil' ?_
 show TX E K12 _
 exact tk [] (uc rfl un) pn (hK12 false hp)
theorem laws_gLayouts_simA : ∀ (k : Nat)  (a0_0 a0_1 a0_2 : Int) (a0_3 : List Nat) (a0_4 : List Int) (a0_5 : List (List Int)) (a0_6 : List T27) (a1 : Int) (out : Bool), laws_gLayouts k a0_0 a0_1 a0_2 a0_3 a0_4 a0_5 a0_6 a1 = some out → Sx.Fn Try.prog 50 [(Ag (C0 a0_0 a0_1 a0_2 a0_3 a0_4 a0_5 a0_6)), (Vi a1)] [] (fun w : Unit => (Vb out)) (fun w => []) := by
 intro k
 induction k with
 | zero => intro a0_0 a0_1 a0_2 a0_3 a0_4 a0_5 a0_6 a1 out hp; cases hp
 | succ k ih => intro a0_0 a0_1 a0_2 a0_3 a0_4 a0_5 a0_6 a1 out hp; exact laws_gLayouts_b_sim ih a0_0 a0_1 a0_2 a0_3 a0_4 a0_5 a0_6 a1 hp
theorem laws_gLayouts_sim {k : Nat}  (a0_0 a0_1 a0_2 : Int) (a0_3 : List Nat) (a0_4 : List Int) (a0_5 : List (List Int)) (a0_6 : List T27) (a1 : Int) {out : Bool} (hp : laws_gLayouts k a0_0 a0_1 a0_2 a0_3 a0_4 a0_5 a0_6 a1 = some out) : Sx.Fn Try.prog 50 [(Ag (C0 a0_0 a0_1 a0_2 a0_3 a0_4 a0_5 a0_6)), (Vi a1)] [] (fun w : Unit => (Vb out)) (fun w => []) := laws_gLayouts_simA k a0_0 a0_1 a0_2 a0_3 a0_4 a0_5 a0_6 a1 out hp

def laws_gSmall_j2 (k : Nat) (rec1 : (Int × Int) → Option (Unit ⊕ Unit)) (x3 r15 x4 : Int) (x2 : Bool) : Option (Unit ⊕ Unit) :=
 br x2
  (some (.inl ()))
  (rec1 ((isub .i64 x3 r15), (iadd .i64 x4 1)))
def laws_gSmall_l1s (a0 : List T27) (k : Nat) (rec1 : (Int × Int) → Option (Unit ⊕ Unit)) (x3 x4 : Int) : Option (Unit ⊕ Unit) :=
 br (decide (x4 < (a0.length : Int)))
  ((idx a0 x4) >>= fun r10 =>
  (spec_Weight k r10.f0 r10.f1 r10.f2 r10.f3 r10.f4 r10.f5 r10.f6 x3) >>= fun r15 =>
  br (decide ((isub .i64 x3 r15) < 0))
   (laws_gSmall_j2 k rec1 x3 r15 x4 true)
   ((laws_gLayouts k r10.f0 r10.f1 r10.f2 r10.f3 r10.f4 r10.f5 r10.f6 9) >>= fun r21 =>
   laws_gSmall_j2 k rec1 x3 r15 x4 (!r21)))
  (some (.inr ()))
def laws_gSmall_l1 (a0 : List T27) : Nat → (Int × Int) → Option (Unit ⊕ Unit)
 | 0, _ => none
 | k + 1, v => laws_gSmall_l1s a0 k (laws_gSmall_l1 a0 k) v.1 v.2
def laws_gSmall (k : Nat) (a0 : List T27) : Option (Bool) :=
 (laws_gSmall_l1 a0 k (2000, 0)) >>= fun y1 => match y1 with
  | (.inl v4) =>
   (some false)
  | (.inr v5) =>
   (some true)

theorem laws_gSmall_sim {k : Nat}  (a0 : List T27) {out : Bool} (hp : laws_gSmall k a0 = some out) : Sx.Fn Try.prog 26 [(Sl KT27 a0)] [] (fun w : Unit => (Vb out)) (fun w => []) := by
 unfold laws_gSmall at hp
 refine fn_of Try.func26 rfl Try.ntmps26 rfl fun E hM => ?_
 refine cr fun K1 hK1 => ?_
 refine sa rfl ?_
 refine nk hK1 ?_
 refine cr fun K2 hK2 => ?_
 refine sa rfl ?_
 refine nk hK2 ?_
 refine cx_seq' fun K3 hK3 => ?_
 refine cr fun K4 hK4 => ?_
 refine sm rfl ?_
 refine sk rfl Try.underlying25 ?_
 refine sm rfl ?_
 refine nk hK4 ?_
 refine cx_block' ?_
 obtain ⟨y1, hy1, hp⟩ := bind_some hp
 refine cx_loopg' (F := laws_gSmall_l1 a0) (G := fun k R v => laws_gSmall_l1s a0 k R v.1 v.2) (x := (2000, 0)) (gh := ()) (fun (v2 : Int × Int) (w2 : Unit) => (⟨25, [], [(3, (Vi v2.1)), (6, (Sl KT27 a0)), (7, (Vi (a0.length : Int))), (8, (Vi v2.2))], []⟩ : St)) (fun (y : Unit ⊕ Unit) => match y with | (.inl v4) => Zg E Exit.ret (fun (w4 : Unit) => (⟨25, [], [(2, (Vb false))], []⟩ : St)) | (.inr v5) => Zg E (Exit.exit 0) (fun (w5 : Unit) => (⟨25, [], [], []⟩ : St))) (fun _ => rfl) (fun _ _ => rfl) ?_ hy1 (tx_to' rfl [] (u4 rfl rfl rfl rfl) (by decide) pn) ?_
 ·clear hp hy1
  clear y1
  intro k rec1 KY1 ih1
  rintro ⟨x3, x4⟩ ⟨⟩ y1 hp
  replace hp : laws_gSmall_l1s a0 k rec1 x3 x4 = some y1 := hp
  unfold laws_gSmall_l1s at hp
  refine cr fun K13 hK13 => ?_
  refine sb rfl rfl eg_int ru_lss ?_
  refine nk hK13 ?_
  refine cx_seq' fun K14 hK14 => ?_
  refine cx_cond' rfl (fun h5 => ?_) (fun h5 => ?_)
  ·replace hp := (br_t h5).symm.trans hp
   refine cx_skip' ?_
   show TX E K14 _
   refine tx_k' hK14 ?_
   refine cx_seq' fun K15 hK15 => ?_
   refine cx_block' ?_
   refine cr fun K16 hK16 => ?_
   obtain ⟨r10, hr10, hp⟩ := bind_some hp
   refine s0 (rd_eq' (congrArg Pt (KT27_enc r10)) (rd_at' (K := KT27) rfl rfl hr10 Try.underlying25 info27)) ?_
   refine s0 (rd_load_pt_agg' (nn := 7) rfl rfl agg27 (l' := (C0 r10.f0 r10.f1 r10.f2 r10.f3 r10.f4 r10.f5 r10.f6)) rfl) ?_
   refine so (ox_alloc' info27 rfl rfl rfl rfl (l := (C1 0 0 0)) rfl) fun q5 => ?_
   refine so (ox_store' (i := 0) (o := 0) rfl rfl (lv_ag _) (ar rfl rfl rfl rfl) rfl info27 rfl (H' := [(Ur q5 27 (C0 r10.f0 r10.f1 r10.f2 r10.f3 r10.f4 r10.f5 r10.f6))]) rfl) fun _ => ?_
   refine nk hK16 ?_
   refine cr fun K17 hK17 => ?_
   refine sm rfl ?_
   refine s0 (rd_load_agg' (i := 0) (o := 0) (nn := 7) rfl (ar rfl rfl rfl rfl) rfl agg27 (l' := (C0 r10.f0 r10.f1 r10.f2 r10.f3 r10.f4 r10.f5 r10.f6)) rfl) ?_
   refine sm rfl ?_
   obtain ⟨r15, hr15, hp⟩ := bind_some hp
   refine so (oz (ent_fn' Try.func56 isn56 rfl rfl) (spec_Weight_sim _ _ _ _ _ _ _ _ hr15)) fun ⟨⟩ => ?_
   refine sb rfl rfl eg_int ru_sub ?_
   refine sa rfl ?_
   refine nk hK17 ?_
   refine cr fun K18 hK18 => ?_
   refine sm rfl ?_
   refine sb rfl rfl eg_int ru_lss ?_
   refine sm rfl ?_
   refine sx_cutn' 4 (fun (v3 : Bool) => (⟨25, [], [(3, (Vi (isub .i64 x3 r15))), (6, (Sl KT27 a0)), (7, (Vi (a0.length : Int))), (8, (Vi x4)), (23, (Vb v3))], []⟩ : St)) (fun (v3 : Bool) => laws_gSmall_j2 k rec1 x3 r15 x4 v3 = some y1) ?_ ?_
   ·rintro x2 hp
    replace hp : laws_gSmall_j2 k rec1 x3 r15 x4 x2 = some y1 := hp
    unfold laws_gSmall_j2 at hp
    refine nk hK18 ?_
    refine cx_cond' rfl (fun h7 => ?_) (fun h7 => ?_)
    ·replace hp := (br_t h7).symm.trans hp
     refine cr fun K20 hK20 => ?_
     refine sa rfl ?_
     refine nk hK20 ?_
     refine cx_retc' ?_
     replace hp := sj hp
     subst hp
     show TX E (Zg E Exit.ret _ Exit.ret) _
     exact tx_zend' () rfl [] (uc rfl un) (by decide) pn
    replace hp := (br_f h7).symm.trans hp
    refine cx_skip' ?_
    show TX E K15 _
    refine tx_k' hK15 ?_
    refine cx_region' ?_
    refine sb rfl rfl eg_int ru_add ?_
    refine sm rfl ?_
    refine sx_nil' ?_
    show TX E (KY1 _) _
    exact tk [] (u4 rfl rfl rfl rfl) pn (ih1 ((isub .i64 x3 r15), (iadd .i64 x4 1)) () _ hp)
   intro K19 hK19
   rcases br_cases hp with ⟨h6, hp⟩ | ⟨h6, hp⟩
   ·refine sx_skip' rfl rfl (wt_is' (wt_guard' rfl rfl rfl) (beq_tf h6)) ?_
    iterate 2 refine sx_skip' rfl rfl (wt_is' (wt_guard' rfl rfl rfl) (beq_tf h6)) ?_
    refine s0 (rd_pick_true' rfl h6 rfl) ?_
    refine sx_nil' ?_
    show TX E K19 _
    exact tk [] (u5 rfl rfl rfl rfl rfl) pn (hK19 true hp)
   refine sx_rd' (rd_load_agg' (i := 0) (o := 0) (nn := 7) rfl (ar rfl rfl rfl rfl) rfl agg27 (l' := (C0 r10.f0 r10.f1 r10.f2 r10.f3 r10.f4 r10.f5 r10.f6)) rfl) rfl rfl (wt_is' (wt_guard' rfl rfl rfl) (beq_ff h6)) ?_
   obtain ⟨r21, hr21, hp⟩ := bind_some hp
   refine sx_ox' (oz (ent_fn' Try.func50 isn50 rfl rfl) (laws_gLayouts_sim _ _ _ _ _ _ _ _ hr21)) (wt_is' (wt_guard' rfl rfl rfl) (beq_ff h6)) fun ⟨⟩ => ?_
   refine sx_rd' (rd_un' rfl ru_not) rfl rfl (wt_is' (wt_guard' rfl rfl rfl) (beq_ff h6)) ?_
   refine s0 (rd_pick_false' rfl h6 rfl) ?_
   refine sx_nil' ?_
   show TX E K19 _
   exact tk [] (u5 rfl rfl rfl rfl rfl) pn (hK19 (!r21) hp)
  replace hp := (br_f h5).symm.trans hp
  refine cx_exit' ?_
  replace hp := sj hp
  subst hp
  show TX E (Zg E (Exit.exit 0) _ (Exit.exit 0)) _
  exact tx_zend' () rfl [] un (by decide) pn
 rcases y1 with v4 | v5
 ·dsimp only at hp
  refine zg_out fun w4 => ?_
  replace hp := sj hp
  subst hp
  refine tk (L' := [(2, (Vb false))]) (H' := []) [] (uc rfl un) pn ?_
  exact tx_ret1' Try.results26 rfl () (rv_tmp' rfl) lr
 dsimp only at hp
 refine zg_out fun w5 => ?_
 show TX E K3 _
 refine tx_k' hK3 ?_
 refine cr fun K21 hK21 => ?_
 refine sa rfl ?_
 refine nk hK21 ?_
 refine cx_retc' ?_
 replace hp := sj hp
 subst hp
 refine tk (L' := [(2, (Vb true))]) (H' := []) [] (uc rfl un) pn ?_
 exact tx_ret1' Try.results26 rfl () (rv_tmp' rfl) lr

def spec_Stride_j1 (k : Nat) (a0 : Int) (x1 : Bool) : Option (Int) :=
 br x1
  (some 3)
  (some a0)
def spec_Stride (k : Nat) (a0 : Int) : Option (Int) :=
 br (decide (a0 < 1))
  (some 0)
  (br (decide (a0 = 1))
   (some 2)
   (br (decide (a0 = 2))
    (spec_Stride_j1 k a0 true)
    (spec_Stride_j1 k a0 (decide (a0 = 3)))))

theorem spec_Stride_sim {k : Nat}  (a0 : Int) {out : Int} (hp : spec_Stride k a0 = some out) : Sx.Fn Try.prog 47 [(Vi a0)] [] (fun w : Unit => (Vi out)) (fun w => []) := by
 unfold spec_Stride at hp
 refine fn_of Try.func47 rfl Try.ntmps47 rfl fun E hM => ?_
 refine cr fun K1 hK1 => ?_
 refine sa rfl ?_
 refine nk hK1 ?_
 refine cx_seq' fun K2 hK2 => ?_
 refine cx_block' ?_
 refine cr fun K3 hK3 => ?_
 refine sm rfl ?_
 refine sb rfl rfl eg_int ru_lss ?_
 refine sa rfl ?_
 refine nk hK3 ?_
 refine cx_cond' rfl (fun h1 => ?_) (fun h1 => ?_)
 ·replace hp := (br_t h1).symm.trans hp
  refine cr fun K4 hK4 => ?_
  refine sa rfl ?_
  refine nk hK4 ?_
  refine cx_retc' ?_
  replace hp := sj hp
  subst hp
  refine tk (L' := [(2, (Vi 0))]) (H' := []) [] (uc rfl un) pn ?_
  exact tx_ret1' Try.results47 rfl () (rv_tmp' rfl) lr
 replace hp := (br_f h1).symm.trans hp
 refine cr fun K5 hK5 => ?_
 refine sm rfl ?_
 refine sb rfl rfl eg_int ru_eql ?_
 refine sa rfl ?_
 refine nk hK5 ?_
 refine cx_cond' rfl (fun h2 => ?_) (fun h2 => ?_)
 ·replace hp := (br_t h2).symm.trans hp
  refine cr fun K6 hK6 => ?_
  refine sa rfl ?_
  refine nk hK6 ?_
  refine cx_retc' ?_
  replace hp := sj hp
  subst hp
  refine tk (L' := [(2, (Vi 2))]) (H' := []) [] (uc rfl un) pn ?_
  exact tx_ret1' Try.results47 rfl () (rv_tmp' rfl) lr
 replace hp := (br_f h2).symm.trans hp
 refine cr fun K7 hK7 => ?_
 refine sm rfl ?_
 refine sb rfl rfl eg_int ru_eql ?_
 refine sm rfl ?_
 refine sx_cutn' 3 (fun (v1 : Bool) => (⟨17, [], [(0, (Vi a0)), (15, (Vb v1))], []⟩ : St)) (fun (v1 : Bool) => spec_Stride_j1 k a0 v1 = some out) ?_ ?_
 ·rintro x1 hp
  replace hp : spec_Stride_j1 k a0 x1 = some out := hp
  unfold spec_Stride_j1 at hp
  refine sa rfl ?_
  refine nk hK7 ?_
  refine cx_cond' rfl (fun h4 => ?_) (fun h4 => ?_)
  ·replace hp := (br_t h4).symm.trans hp
   refine cr fun K9 hK9 => ?_
   refine sa rfl ?_
   refine nk hK9 ?_
   refine cx_retc' ?_
   replace hp := sj hp
   subst hp
   refine tk (L' := [(2, (Vi 3))]) (H' := []) [] (uc rfl un) pn ?_
   exact tx_ret1' Try.results47 rfl () (rv_tmp' rfl) lr
  replace hp := (br_f h4).symm.trans hp
  refine cx_skip' ?_
  show TX E K2 _
  refine tx_k' hK2 ?_
  refine cr fun K10 hK10 => ?_
  refine sm rfl ?_
  refine sa rfl ?_
  refine nk hK10 ?_
  refine cx_retc' ?_
  replace hp := sj hp
  subst hp
  refine tk (L' := [(2, (Vi a0))]) (H' := []) [] (uc rfl un) pn ?_
  exact tx_ret1' Try.results47 rfl () (rv_tmp' rfl) lr
 intro K8 hK8
 rcases br_cases hp with ⟨h3, hp⟩ | ⟨h3, hp⟩
 ·refine sx_skip' rfl rfl (wt_is' (wt_guard' rfl rfl rfl) (beq_tf h3)) ?_
  refine sx_skip' rfl rfl (wt_is' (wt_guard' rfl rfl rfl) (beq_tf h3)) ?_
  refine s0 (rd_pick_true' rfl h3 rfl) ?_
  refine sx_nil' ?_
  show TX E K8 _
  exact tk [] (u2 rfl rfl) pn (hK8 true hp)
 refine sx_rd' (rd_move' rfl) rfl rfl (wt_is' (wt_guard' rfl rfl rfl) (beq_ff h3)) ?_
 refine sx_rd' (rd_bin' rfl rfl eg_int ru_eql) rfl rfl (wt_is' (wt_guard' rfl rfl rfl) (beq_ff h3)) ?_
 refine s0 (rd_pick_false' rfl h3 rfl) ?_
 refine sx_nil' ?_
 show TX E K8 _
 exact tk [] (u2 rfl rfl) pn (hK8 (decide (a0 = 3)) hp)

def spec_goodEnds_j6 (k : Nat) (x7 : Int) (rec1 : (Int × Int) → Option (Int ⊕ Int)) (r16 x8 : Int) (x6 : Bool) : Option (Int ⊕ Int) :=
 br x6
  (some (.inl x7))
  (rec1 (r16, (iadd .i64 x8 1)))
def spec_goodEnds_j5 (k : Nat) (x7 : Int) (rec1 : (Int × Int) → Option (Int ⊕ Int)) (r16 x8 : Int) (x5 : Bool) : Option (Int ⊕ Int) :=
 spec_goodEnds_j6 k x7 rec1 r16 x8 x5
def spec_goodEnds_j4 (k : Nat) (x7 : Int) (rec1 : (Int × Int) → Option (Int ⊕ Int)) (r16 x8 : Int) (a3 : Bool) (a2 : Int) (x4 : Bool) : Option (Int ⊕ Int) :=
 br x4
  (spec_goodEnds_j6 k x7 rec1 r16 x8 true)
  (br a3
   (spec_goodEnds_j5 k x7 rec1 r16 x8 (decide (a2 < (isub .i64 r16 x7))))
   (spec_goodEnds_j5 k x7 rec1 r16 x8 false))
def spec_goodEnds_l1s (a0 : List Int) (a3 : Bool) (a2 : Int) (k : Nat) (rec1 : (Int × Int) → Option (Int ⊕ Int)) (x7 x8 : Int) : Option (Int ⊕ Int) :=
 br (decide (x8 < (a0.length : Int)))
  ((idx a0 x8) >>= fun r16 =>
  br (decide (r16 < x7))
   (spec_goodEnds_j4 k x7 rec1 r16 x8 a3 a2 true)
   ((irem (isub .i64 r16 x7) a2) >>= fun r26 =>
   spec_goodEnds_j4 k x7 rec1 r16 x8 a3 a2 (!decide (r26 = 0))))
  (some (.inr x7))
def spec_goodEnds_l1 (a0 : List Int) (a3 : Bool) (a2 : Int) : Nat → (Int × Int) → Option (Int ⊕ Int)
 | 0, _ => none
 | k + 1, v => spec_goodEnds_l1s a0 a3 a2 k (spec_goodEnds_l1 a0 a3 a2 k) v.1 v.2
def spec_goodEnds (k : Nat) (a0 : List Int) (a1 a2 : Int) (a3 : Bool) : Option (Int × Bool) :=
 (spec_goodEnds_l1 a0 a3 a2 k (a1, 0)) >>= fun y1 => match y1 with
  | (.inl v8) =>
   (some (v8, false))
  | (.inr v9) =>
   (some (v9, true))

theorem spec_goodEnds_sim {k : Nat}  (a0 : List Int) (a1 a2 : Int) (a3 : Bool) {out : Int × Bool} (hp : spec_goodEnds k a0 a1 a2 a3 = some out) : Sx.Fn Try.prog 57 [(Sl (Ki .i64) a0), (Vi a1), (Vi a2), (Vb a3)] [] (fun w : Unit => (Tu [(Vi out.1), (Vb out.2)])) (fun w => []) := by
 unfold spec_goodEnds at hp
 refine fn_of Try.func57 rfl Try.ntmps57 rfl fun E hM => ?_
 refine cr fun K1 hK1 => ?_
 iterate 2 refine sa rfl ?_
 refine nk hK1 ?_
 refine cx_seq' fun K2 hK2 => ?_
 refine cr fun K3 hK3 => ?_
 refine sm rfl ?_
 refine sk rfl Try.underlying23 ?_
 refine sm rfl ?_
 refine nk hK3 ?_
 refine cx_block' ?_
 obtain ⟨y1, hy1, hp⟩ := bind_some hp
 refine cx_loopg' (F := spec_goodEnds_l1 a0 a3 a2) (G := fun k R v => spec_goodEnds_l1s a0 a3 a2 k R v.1 v.2) (x := (a1, 0)) (gh := ()) (fun (v4 : Int × Int) (w4 : Unit) => (⟨43, [], [(1, (Vi v4.1)), (2, (Vi a2)), (3, (Vb a3)), (12, (Sl (Ki .i64) a0)), (13, (Vi (a0.length : Int))), (14, (Vi v4.2))], []⟩ : St)) (fun (y : Int ⊕ Int) => match y with | (.inl v8) => Zg E Exit.ret (fun (w8 : Unit) => (⟨43, [], [(8, (Vi v8)), (9, (Vb false))], []⟩ : St)) | (.inr v9) => Zg E (Exit.exit 0) (fun (w9 : Unit) => (⟨43, [], [(1, (Vi v9))], []⟩ : St))) (fun _ => rfl) (fun _ _ => rfl) ?_ hy1 (tx_to' rfl [] (u6 rfl rfl rfl rfl rfl rfl) (by decide) pn) ?_
 ·clear hp hy1
  clear y1
  intro k rec1 KY1 ih1
  rintro ⟨x7, x8⟩ ⟨⟩ y1 hp
  replace hp : spec_goodEnds_l1s a0 a3 a2 k rec1 x7 x8 = some y1 := hp
  unfold spec_goodEnds_l1s at hp
  refine cr fun K14 hK14 => ?_
  refine sb rfl rfl eg_int ru_lss ?_
  refine nk hK14 ?_
  refine cx_seq' fun K15 hK15 => ?_
  refine cx_cond' rfl (fun h7 => ?_) (fun h7 => ?_)
  ·replace hp := (br_t h7).symm.trans hp
   refine cx_skip' ?_
   show TX E K15 _
   refine tx_k' hK15 ?_
   refine cx_seq' fun K16 hK16 => ?_
   refine cx_block' ?_
   refine cr fun K17 hK17 => ?_
   obtain ⟨r16, hr16, hp⟩ := bind_some hp
   refine s0 (rd_at' (K := (Ki .i64)) rfl rfl hr16 Try.underlying23 info3) ?_
   refine s0 (rd_load_pt' rfl rfl flat3) ?_
   refine sa rfl ?_
   refine nk hK17 ?_
   refine cx_seq' fun K18 hK18 => ?_
   refine cr fun K19 hK19 => ?_
   iterate 2 refine sm rfl ?_
   refine sb rfl rfl eg_int ru_lss ?_
   refine sm rfl ?_
   refine sx_cutn' 7 (fun (v5 : Bool) => (⟨43, [], [(1, (Vi x7)), (2, (Vi a2)), (3, (Vb a3)), (11, (Vi r16)), (12, (Sl (Ki .i64) a0)), (13, (Vi (a0.length : Int))), (14, (Vi x8)), (28, (Vb v5))], []⟩ : St)) (fun (v5 : Bool) => spec_goodEnds_j4 k x7 rec1 r16 x8 a3 a2 v5 = some y1) ?_ ?_
   ·rintro x4 hp
    replace hp : spec_goodEnds_j4 k x7 rec1 r16 x8 a3 a2 x4 = some y1 := hp
    unfold spec_goodEnds_j4 at hp
    refine sm rfl ?_
    refine sx_cutn' 9 (fun (v7 : Bool) => (⟨43, [], [(1, (Vi x7)), (2, (Vi a2)), (3, (Vb a3)), (11, (Vi r16)), (12, (Sl (Ki .i64) a0)), (13, (Vi (a0.length : Int))), (14, (Vi x8)), (38, (Vb v7))], []⟩ : St)) (fun (v7 : Bool) => spec_goodEnds_j6 k x7 rec1 r16 x8 v7 = some y1) ?_ ?_
    ·rintro x6 hp
     replace hp : spec_goodEnds_j6 k x7 rec1 r16 x8 x6 = some y1 := hp
     unfold spec_goodEnds_j6 at hp
     refine nk hK19 ?_
     refine cx_cond' rfl (fun h11 => ?_) (fun h11 => ?_)
     ·replace hp := (br_t h11).symm.trans hp
      refine cr fun K23 hK23 => ?_
      refine sm rfl ?_
      iterate 2 refine sa rfl ?_
      refine nk hK23 ?_
      refine cx_retc' ?_
      replace hp := sj hp
      subst hp
      show TX E (Zg E Exit.ret _ Exit.ret) _
      exact tx_zend' () rfl [] (u2 rfl rfl) (by decide) pn
     replace hp := (br_f h11).symm.trans hp
     refine cx_skip' ?_
     show TX E K18 _
     refine tx_k' hK18 ?_
     refine cx_region' ?_
     refine sm rfl ?_
     refine sa rfl ?_
     refine nk hK16 ?_
     refine cx_region' ?_
     refine sb rfl rfl eg_int ru_add ?_
     refine sm rfl ?_
     refine sx_nil' ?_
     show TX E (KY1 _) _
     exact tk [] (u6 rfl rfl rfl rfl rfl rfl) pn (ih1 (r16, (iadd .i64 x8 1)) () _ hp)
    intro K22 hK22
    rcases br_cases hp with ⟨h9, hp⟩ | ⟨h9, hp⟩
    ·refine sx_skip' rfl rfl (wt_is' (wt_guard' rfl rfl rfl) (beq_tf h9)) ?_
     refine sx_skip' rfl rfl (wt_is' (wt_guard' rfl rfl rfl) (beq_tf h9)) ?_
     iterate 5 refine sx_skip' rfl rfl (wt_undef' rfl rfl rfl) ?_
     refine sx_skip' rfl rfl (wt_is' (wt_guard' rfl rfl rfl) (beq_tf h9)) ?_
     refine s0 (rd_pick_true' rfl h9 rfl) ?_
     refine sx_nil' ?_
     show TX E K22 _
     exact tk [] (u8 rfl rfl rfl rfl rfl rfl rfl rfl) pn (hK22 true hp)
    iterate 2 refine sx_rd' (rd_move' rfl) rfl rfl (wt_is' (wt_guard' rfl rfl rfl) (beq_ff h9)) ?_
    refine sx_cutn' 7 (fun (v6 : Bool) => (⟨43, [], [(1, (Vi x7)), (2, (Vi a2)), (3, (Vb a3)), (11, (Vi r16)), (12, (Sl (Ki .i64) a0)), (13, (Vi (a0.length : Int))), (14, (Vi x8)), (38, (Vb v6))], []⟩ : St)) (fun (v6 : Bool) => spec_goodEnds_j5 k x7 rec1 r16 x8 v6 = some y1) ?_ ?_
    ·rintro x5 hp
     replace hp : spec_goodEnds_j5 k x7 rec1 r16 x8 x5 = some y1 := hp
     unfold spec_goodEnds_j5 at hp
     refine sx_nil' ?_
     show TX E K22 _
     exact tk [] (u8 rfl rfl rfl rfl rfl rfl rfl rfl) pn (hK22 x5 hp)
    intro K21 hK21
    rcases br_cases hp with ⟨h10, hp⟩ | ⟨h10, hp⟩
    ·refine sx_rd' (rd_move' rfl) rfl rfl (wt_is' (wt_guard' rfl rfl rfl) (beq_tt h10)) ?_
     refine sx_rd' (rd_move' rfl) rfl rfl (wt_is' (wt_guard' rfl rfl rfl) (beq_tt h10)) ?_
     refine sx_rd' (rd_bin' rfl rfl eg_int ru_sub) rfl rfl (wt_is' (wt_guard' rfl rfl rfl) (beq_tt h10)) ?_
     refine sx_rd' (rd_move' rfl) rfl rfl (wt_is' (wt_guard' rfl rfl rfl) (beq_tt h10)) ?_
     refine sx_rd' (rd_bin' rfl rfl eg_int ru_gtr) rfl rfl (wt_is' (wt_guard' rfl rfl rfl) (beq_tt h10)) ?_
     refine sx_rd' (rd_pick_true' rfl h10 rfl) rfl rfl (wt_is' (wt_guard' rfl rfl rfl) (beq_ff h9)) ?_
     refine s0 (rd_pick_false' rfl h9 rfl) ?_
     refine sx_nil' ?_
     show TX E K21 _
     exact tk [] (u8 rfl rfl rfl rfl rfl rfl rfl rfl) pn (hK21 (decide (a2 < (isub .i64 r16 x7))) hp)
    iterate 5 refine sx_skip' rfl rfl (wt_is' (wt_guard' rfl rfl rfl) (beq_ft h10)) ?_
    refine sx_rd' (rd_pick_false' rfl h10 rfl) rfl rfl (wt_is' (wt_guard' rfl rfl rfl) (beq_ff h9)) ?_
    refine s0 (rd_pick_false' rfl h9 rfl) ?_
    refine sx_nil' ?_
    show TX E K21 _
    exact tk [] (u8 rfl rfl rfl rfl rfl rfl rfl rfl) pn (hK21 false hp)
   intro K20 hK20
   rcases br_cases hp with ⟨h8, hp⟩ | ⟨h8, hp⟩
   ·refine sx_skip' rfl rfl (wt_is' (wt_guard' rfl rfl rfl) (beq_tf h8)) ?_
    iterate 5 refine sx_skip' rfl rfl (wt_is' (wt_guard' rfl rfl rfl) (beq_tf h8)) ?_
    refine s0 (rd_pick_true' rfl h8 rfl) ?_
    refine sx_nil' ?_
    show TX E K20 _
    exact tk [] (u8 rfl rfl rfl rfl rfl rfl rfl rfl) pn (hK20 true hp)
   iterate 2 refine sx_rd' (rd_move' rfl) rfl rfl (wt_is' (wt_guard' rfl rfl rfl) (beq_ff h8)) ?_
   refine sx_rd' (rd_bin' rfl rfl eg_int ru_sub) rfl rfl (wt_is' (wt_guard' rfl rfl rfl) (beq_ff h8)) ?_
   refine sx_rd' (rd_move' rfl) rfl rfl (wt_is' (wt_guard' rfl rfl rfl) (beq_ff h8)) ?_
   obtain ⟨r26, hr26, hp⟩ := bind_some hp
   refine sx_rd' (rd_bin' rfl rfl eg_int (ru_rem hr26)) rfl rfl (wt_is' (wt_guard' rfl rfl rfl) (beq_ff h8)) ?_
   refine sx_rd' (rd_bin' rfl rfl eg_int ru_neq) rfl rfl (wt_is' (wt_guard' rfl rfl rfl) (beq_ff h8)) ?_
   refine s0 (rd_pick_false' rfl h8 rfl) ?_
   refine sx_nil' ?_
   show TX E K20 _
   exact tk [] (u8 rfl rfl rfl rfl rfl rfl rfl rfl) pn (hK20 (!decide (r26 = 0)) hp)
  replace hp := (br_f h7).symm.trans hp
  refine cx_exit' ?_
  replace hp := sj hp
  subst hp
  show TX E (Zg E (Exit.exit 0) _ (Exit.exit 0)) _
  exact tx_zend' () rfl [] (uc rfl un) (by decide) pn
 rcases y1 with v8 | v9
 ·dsimp only at hp
  refine zg_out fun w8 => ?_
  replace hp := sj hp
  subst hp
  refine tk (L' := [(8, (Vi v8)), (9, (Vb false))]) (H' := []) [] (u2 rfl rfl) pn ?_
  exact tx_ret2' Try.results57 rfl () (rv_tmp' rfl) (rv_tmp' rfl) rfl lr
 dsimp only at hp
 refine zg_out fun w9 => ?_
 show TX E K2 _
 refine tx_k' hK2 ?_
 refine cr fun K24 hK24 => ?_
 refine sm rfl ?_
 iterate 2 refine sa rfl ?_
 refine nk hK24 ?_
 refine cx_retc' ?_
 replace hp := sj hp
 subst hp
 refine tk (L' := [(8, (Vi v9)), (9, (Vb true))]) (H' := []) [] (u2 rfl rfl) pn ?_
 exact tx_ret2' Try.results57 rfl () (rv_tmp' rfl) (rv_tmp' rfl) rfl lr

def spec_Cover_j3 (k : Nat) (a0 a1 : Int) (x3 : Bool) : Option (Int) :=
 br x3
  (some 4)
  (some (imax a0 a1))
def spec_Cover_j2 (k : Nat) (a0 a1 : Int) (x2 : Bool) : Option (Int) :=
 spec_Cover_j3 k a0 a1 x2
def spec_Cover_j1 (k : Nat) (a0 a1 : Int) (x1 : Bool) : Option (Int) :=
 br x1
  (spec_Cover_j3 k a0 a1 true)
  (br (decide (a0 = 3))
   (spec_Cover_j2 k a0 a1 (decide (a1 = 2)))
   (spec_Cover_j2 k a0 a1 false))
def spec_Cover (k : Nat) (a0 a1 : Int) : Option (Int) :=
 br (decide (a0 = 2))
  (spec_Cover_j1 k a0 a1 (decide (a1 = 3)))
  (spec_Cover_j1 k a0 a1 false)

theorem spec_Cover_sim {k : Nat}  (a0 a1 : Int) {out : Int} (hp : spec_Cover k a0 a1 = some out) : Sx.Fn Try.prog 38 (C19 a0 a1) [] (fun w : Unit => (Vi out)) (fun w => []) := by
 unfold spec_Cover at hp
 refine fn_of Try.func38 rfl Try.ntmps38 rfl fun E hM => ?_
 refine cr fun K1 hK1 => ?_
 refine sa rfl ?_
 refine nk hK1 ?_
 refine cx_seq' fun K2 hK2 => ?_
 refine cr fun K3 hK3 => ?_
 refine sm rfl ?_
 refine sb rfl rfl eg_int ru_eql ?_
 refine sm rfl ?_
 refine sx_cutn' 3 (fun (v1 : Bool) => (⟨22, [], [(0, (Vi a0)), (1, (Vi a1)), (10, (Vb v1))], []⟩ : St)) (fun (v1 : Bool) => spec_Cover_j1 k a0 a1 v1 = some out) ?_ ?_
 ·rintro x1 hp
  replace hp : spec_Cover_j1 k a0 a1 x1 = some out := hp
  unfold spec_Cover_j1 at hp
  refine sm rfl ?_
  refine sx_cutn' 7 (fun (v3 : Bool) => (⟨22, [], [(0, (Vi a0)), (1, (Vi a1)), (18, (Vb v3))], []⟩ : St)) (fun (v3 : Bool) => spec_Cover_j3 k a0 a1 v3 = some out) ?_ ?_
  ·rintro x3 hp
   replace hp : spec_Cover_j3 k a0 a1 x3 = some out := hp
   unfold spec_Cover_j3 at hp
   refine nk hK3 ?_
   refine cx_cond' rfl (fun h4 => ?_) (fun h4 => ?_)
   ·replace hp := (br_t h4).symm.trans hp
    refine cr fun K7 hK7 => ?_
    refine sa rfl ?_
    refine nk hK7 ?_
    refine cx_retc' ?_
    replace hp := sj hp
    subst hp
    refine tk (L' := [(4, (Vi 4))]) (H' := []) [] (uc rfl un) pn ?_
    exact tx_ret1' Try.results38 rfl () (rv_tmp' rfl) lr
   replace hp := (br_f h4).symm.trans hp
   refine cx_skip' ?_
   show TX E K2 _
   refine tx_k' hK2 ?_
   refine cr fun K8 hK8 => ?_
   iterate 2 refine sm rfl ?_
   refine s0 (rd_imax' rfl rfl) ?_
   refine sa rfl ?_
   refine nk hK8 ?_
   refine cx_retc' ?_
   replace hp := sj hp
   subst hp
   refine tk (L' := [(4, (Vi (imax a0 a1)))]) (H' := []) [] (uc rfl un) pn ?_
   exact tx_ret1' Try.results38 rfl () (rv_tmp' rfl) lr
  intro K6 hK6
  rcases br_cases hp with ⟨h2, hp⟩ | ⟨h2, hp⟩
  ·refine sx_skip' rfl rfl (wt_is' (wt_guard' rfl rfl rfl) (beq_tf h2)) ?_
   iterate 2 refine sx_skip' rfl rfl (wt_is' (wt_guard' rfl rfl rfl) (beq_tf h2)) ?_
   iterate 2 refine sx_skip' rfl rfl (wt_undef' rfl rfl rfl) ?_
   refine sx_skip' rfl rfl (wt_is' (wt_guard' rfl rfl rfl) (beq_tf h2)) ?_
   refine s0 (rd_pick_true' rfl h2 rfl) ?_
   refine sx_nil' ?_
   show TX E K6 _
   exact tk [] (u3 rfl rfl rfl) pn (hK6 true hp)
  refine sx_rd' (rd_move' rfl) rfl rfl (wt_is' (wt_guard' rfl rfl rfl) (beq_ff h2)) ?_
  refine sx_rd' (rd_bin' rfl rfl eg_int ru_eql) rfl rfl (wt_is' (wt_guard' rfl rfl rfl) (beq_ff h2)) ?_
  refine sx_rd' (rd_move' rfl) rfl rfl (wt_is' (wt_guard' rfl rfl rfl) (beq_ff h2)) ?_
  refine sx_cutn' 4 (fun (v2 : Bool) => (⟨22, [], [(0, (Vi a0)), (1, (Vi a1)), (18, (Vb v2))], []⟩ : St)) (fun (v2 : Bool) => spec_Cover_j2 k a0 a1 v2 = some out) ?_ ?_
  ·rintro x2 hp
   replace hp : spec_Cover_j2 k a0 a1 x2 = some out := hp
   unfold spec_Cover_j2 at hp
   refine sx_nil' ?_
   show TX E K6 _
   exact tk [] (u3 rfl rfl rfl) pn (hK6 x2 hp)
  intro K5 hK5
  rcases br_cases hp with ⟨h3, hp⟩ | ⟨h3, hp⟩
  ·refine sx_rd' (rd_move' rfl) rfl rfl (wt_is' (wt_guard' rfl rfl rfl) (beq_tt h3)) ?_
   refine sx_rd' (rd_bin' rfl rfl eg_int ru_eql) rfl rfl (wt_is' (wt_guard' rfl rfl rfl) (beq_tt h3)) ?_
   refine sx_rd' (rd_pick_true' rfl h3 rfl) rfl rfl (wt_is' (wt_guard' rfl rfl rfl) (beq_ff h2)) ?_
   refine s0 (rd_pick_false' rfl h2 rfl) ?_
   refine sx_nil' ?_
   show TX E K5 _
   exact tk [] (u3 rfl rfl rfl) pn (hK5 (decide (a1 = 2)) hp)
  iterate 2 refine sx_skip' rfl rfl (wt_is' (wt_guard' rfl rfl rfl) (beq_ft h3)) ?_
  refine sx_rd' (rd_pick_false' rfl h3 rfl) rfl rfl (wt_is' (wt_guard' rfl rfl rfl) (beq_ff h2)) ?_
  refine s0 (rd_pick_false' rfl h2 rfl) ?_
  refine sx_nil' ?_
  show TX E K5 _
  exact tk [] (u3 rfl rfl rfl) pn (hK5 false hp)
 intro K4 hK4
 rcases br_cases hp with ⟨h1, hp⟩ | ⟨h1, hp⟩
 ·refine sx_rd' (rd_move' rfl) rfl rfl (wt_is' (wt_guard' rfl rfl rfl) (beq_tt h1)) ?_
  refine sx_rd' (rd_bin' rfl rfl eg_int ru_eql) rfl rfl (wt_is' (wt_guard' rfl rfl rfl) (beq_tt h1)) ?_
  refine s0 (rd_pick_true' rfl h1 rfl) ?_
  refine sx_nil' ?_
  show TX E K4 _
  exact tk [] (u3 rfl rfl rfl) pn (hK4 (decide (a1 = 3)) hp)
 iterate 2 refine sx_skip' rfl rfl (wt_is' (wt_guard' rfl rfl rfl) (beq_ft h1)) ?_
 refine s0 (rd_pick_false' rfl h1 rfl) ?_
 refine sx_nil' ?_
 show TX E K4 _
 exact tk [] (u3 rfl rfl rfl) pn (hK4 false hp)

def spec_LayoutOf_l1s (a0_6 : List T27) (recf : Int → Int → Int → (List Nat) → (List Int) → (List (List Int)) → (List T27) → Option (Int)) (k : Nat) (rec1 : (Int × Int) → Option (Int)) (x3 x4 : Int) : Option (Int) :=
 br (decide (x4 < (a0_6.length : Int)))
  ((idx a0_6 x4) >>= fun r21 =>
  (recf r21.f0 r21.f1 r21.f2 r21.f3 r21.f4 r21.f5 r21.f6) >>= fun r25 =>
  (spec_Cover k x3 r25) >>= fun r26 =>
  rec1 (r26, (iadd .i64 x4 1)))
  (some x3)
def spec_LayoutOf_l1 (a0_6 : List T27) (recf : Int → Int → Int → (List Nat) → (List Int) → (List (List Int)) → (List T27) → Option (Int)) : Nat → (Int × Int) → Option (Int)
 | 0, _ => none
 | k + 1, v => spec_LayoutOf_l1s a0_6 recf k (spec_LayoutOf_l1 a0_6 recf k) v.1 v.2
def spec_LayoutOf_j1 (k : Nat) (a0_1 : Int) (a0_6 : List T27) (recf : Int → Int → Int → (List Nat) → (List Int) → (List (List Int)) → (List T27) → Option (Int)) (x1 : Bool) : Option (Int) :=
 br x1
  (some a0_1)
  ((spec_LayoutOf_l1 a0_6 recf k (a0_1, 0)) >>= fun v4 =>
  some v4)
def spec_LayoutOf_b (recf : Int → Int → Int → (List Nat) → (List Int) → (List (List Int)) → (List T27) → Option (Int)) (k : Nat) (a0_0 a0_1 a0_2 : Int) (a0_3 : List Nat) (a0_4 : List Int) (a0_5 : List (List Int)) (a0_6 : List T27) : Option (Int) :=
 br (!decide (a0_0 = 7))
  (spec_LayoutOf_j1 k a0_1 a0_6 recf true)
  (spec_LayoutOf_j1 k a0_1 a0_6 recf (!decide (a0_1 = 0)))
def spec_LayoutOf : Nat → Int → Int → Int → (List Nat) → (List Int) → (List (List Int)) → (List T27) → Option (Int)
 | 0 => fun _ _ _ _ _ _ _ => none
 | k + 1 => fun a0_0 a0_1 a0_2 a0_3 a0_4 a0_5 a0_6 => spec_LayoutOf_b (spec_LayoutOf k) k a0_0 a0_1 a0_2 a0_3 a0_4 a0_5 a0_6

theorem spec_LayoutOf_b_sim {recf : Int → Int → Int → (List Nat) → (List Int) → (List (List Int)) → (List T27) → Option (Int)} (hrec : ∀  (a0_0 a0_1 a0_2 : Int) (a0_3 : List Nat) (a0_4 : List Int) (a0_5 : List (List Int)) (a0_6 : List T27) (out : Int), recf a0_0 a0_1 a0_2 a0_3 a0_4 a0_5 a0_6 = some out → Sx.Fn Try.prog 16 [(Ag (C0 a0_0 a0_1 a0_2 a0_3 a0_4 a0_5 a0_6))] [] (fun w : Unit => (Vi out)) (fun w => [])) {k : Nat}  (a0_0 a0_1 a0_2 : Int) (a0_3 : List Nat) (a0_4 : List Int) (a0_5 : List (List Int)) (a0_6 : List T27) {out : Int} (hp : spec_LayoutOf_b recf k a0_0 a0_1 a0_2 a0_3 a0_4 a0_5 a0_6 = some out) : Sx.Fn Try.prog 16 [(Ag (C0 a0_0 a0_1 a0_2 a0_3 a0_4 a0_5 a0_6))] [] (fun w : Unit => (Vi out)) (fun w => []) := by
 unfold spec_LayoutOf_b at hp
 refine fn_of Try.func16 rfl Try.ntmps16 rfl fun E hM => ?_
 refine cr fun K1 hK1 => ?_
 refine so (ox_box' rfl (lv_ag _) rfl rfl) fun q1 => ?_
 refine sa rfl ?_
 refine nk hK1 ?_
 refine cr fun K2 hK2 => ?_
 refine sg (off := 1) rfl Try.underlying27 rfl info3 rfl ?_
 refine sl (i := 0) (o := 1) rfl (ar rfl rfl rfl rfl) rfl flat3 ?_
 refine sa rfl ?_
 refine nk hK2 ?_
 refine cx_seq' fun K3 hK3 => ?_
 refine cr fun K4 hK4 => ?_
 refine sf rfl Try.underlying27 rfl info3 rfl ?_
 refine sl (i := 0) (o := 0) rfl (ar rfl rfl rfl rfl) rfl flat3 ?_
 refine sb rfl rfl eg_int ru_neq ?_
 refine sm rfl ?_
 refine sx_cutn' 3 (fun (v1 : Bool) => (⟨29, [], [(1, (Vp q1)), (3, (Vi a0_1)), (14, (Vb v1))], [(Ur q1 27 (C0 a0_0 a0_1 a0_2 a0_3 a0_4 a0_5 a0_6))]⟩ : St)) (fun (v1 : Bool) => spec_LayoutOf_j1 k a0_1 a0_6 recf v1 = some out) ?_ ?_
 ·rintro x1 hp
  replace hp : spec_LayoutOf_j1 k a0_1 a0_6 recf x1 = some out := hp
  unfold spec_LayoutOf_j1 at hp
  refine nk hK4 ?_
  refine cx_cond' rfl (fun h2 => ?_) (fun h2 => ?_)
  ·replace hp := (br_t h2).symm.trans hp
   refine cr fun K6 hK6 => ?_
   refine sm rfl ?_
   refine sa rfl ?_
   refine nk hK6 ?_
   refine cx_retc' ?_
   replace hp := sj hp
   subst hp
   refine tk (L' := [(2, (Vi a0_1))]) (H' := []) [] (uc rfl un) pn ?_
   exact tx_ret1' Try.results16 rfl () (rv_tmp' rfl) lr
  replace hp := (br_f h2).symm.trans hp
  refine cx_skip' ?_
  show TX E K3 _
  refine tx_k' hK3 ?_
  refine cx_seq' fun K7 hK7 => ?_
  refine cr fun K8 hK8 => ?_
  refine sg (off := 6) rfl Try.underlying27 rfl info25 rfl ?_
  refine sl (i := 0) (o := 6) rfl (ar rfl rfl rfl rfl) rfl flat25 ?_
  refine sk rfl Try.underlying25 ?_
  refine sm rfl ?_
  refine nk hK8 ?_
  refine cx_block' ?_
  obtain ⟨v4, hy1, hp⟩ := bind_some hp
  refine cx_loopg' (F := spec_LayoutOf_l1 a0_6 recf) (G := fun k R v => spec_LayoutOf_l1s a0_6 recf k R v.1 v.2) (x := (a0_1, 0)) (gh := ()) (fun (v3 : Int × Int) (w3 : Unit) => (⟨29, [], [(3, (Vi v3.1)), (17, (Sl KT27 a0_6)), (18, (Vi (a0_6.length : Int))), (19, (Vi v3.2))], []⟩ : St)) (fun (v4 : Int) => Zg E (Exit.exit 0) (fun (w4 : Unit) => (⟨29, [], [(3, (Vi v4))], []⟩ : St))) (fun _ => rfl) (fun _ _ => rfl) ?_ hy1 (tx_to' rfl [] (u4 rfl rfl rfl rfl) (by decide) pn) ?_
  ·clear hp hy1
   clear v4
   intro k rec1 KY1 ih1
   rintro ⟨x3, x4⟩ ⟨⟩ y1 hp
   replace hp : spec_LayoutOf_l1s a0_6 recf k rec1 x3 x4 = some y1 := hp
   unfold spec_LayoutOf_l1s at hp
   refine cr fun K14 hK14 => ?_
   refine sb rfl rfl eg_int ru_lss ?_
   refine nk hK14 ?_
   refine cx_seq' fun K15 hK15 => ?_
   refine cx_cond' rfl (fun h5 => ?_) (fun h5 => ?_)
   ·replace hp := (br_t h5).symm.trans hp
    refine cx_skip' ?_
    show TX E K15 _
    refine tx_k' hK15 ?_
    refine cx_seq' fun K16 hK16 => ?_
    refine cx_block' ?_
    refine cr fun K17 hK17 => ?_
    obtain ⟨r21, hr21, hp⟩ := bind_some hp
    refine s0 (rd_eq' (congrArg Pt (KT27_enc r21)) (rd_at' (K := KT27) rfl rfl hr21 Try.underlying25 info27)) ?_
    refine s0 (rd_load_pt_agg' (nn := 7) rfl rfl agg27 (l' := (C0 r21.f0 r21.f1 r21.f2 r21.f3 r21.f4 r21.f5 r21.f6)) rfl) ?_
    refine so (ox_alloc' info27 rfl rfl rfl rfl (l := (C1 0 0 0)) rfl) fun q5 => ?_
    refine so (ox_store' (i := 0) (o := 0) rfl rfl (lv_ag _) (ar rfl rfl rfl rfl) rfl info27 rfl (H' := [(Ur q5 27 (C0 r21.f0 r21.f1 r21.f2 r21.f3 r21.f4 r21.f5 r21.f6))]) rfl) fun _ => ?_
    refine nk hK17 ?_
    refine cx_region' ?_
    refine sm rfl ?_
    refine s0 (rd_load_agg' (i := 0) (o := 0) (nn := 7) rfl (ar rfl rfl rfl rfl) rfl agg27 (l' := (C0 r21.f0 r21.f1 r21.f2 r21.f3 r21.f4 r21.f5 r21.f6)) rfl) ?_
    obtain ⟨r25, hr25, hp⟩ := bind_some hp
    refine so (oz (ent_fn' Try.func16 isn16 rfl rfl) (hrec _ _ _ _ _ _ _ _ hr25)) fun ⟨⟩ => ?_
    obtain ⟨r26, hr26, hp⟩ := bind_some hp
    refine so (oz (ent_fn' Try.func38 isn38 rfl rfl) (spec_Cover_sim _ _ hr26)) fun ⟨⟩ => ?_
    refine sa rfl ?_
    refine nk hK16 ?_
    refine cx_region' ?_
    refine sb rfl rfl eg_int ru_add ?_
    refine sm rfl ?_
    refine sx_nil' ?_
    show TX E (KY1 _) _
    exact tk [] (u4 rfl rfl rfl rfl) pn (ih1 (r26, (iadd .i64 x4 1)) () _ hp)
   replace hp := (br_f h5).symm.trans hp
   refine cx_exit' ?_
   replace hp := sj hp
   subst hp
   show TX E (Zg E (Exit.exit 0) _ (Exit.exit 0)) _
   exact tx_zend' () rfl [] (uc rfl un) (by decide) pn
  refine zg_out fun w4 => ?_
  show TX E K7 _
  refine tx_k' hK7 ?_
  refine cr fun K13 hK13 => ?_
  refine sm rfl ?_
  refine sa rfl ?_
  refine nk hK13 ?_
  refine cx_retc' ?_
  replace hp := sj hp
  subst hp
  refine tk (L' := [(2, (Vi v4))]) (H' := []) [] (uc rfl un) pn ?_
  exact tx_ret1' Try.results16 rfl () (rv_tmp' rfl) lr
 intro K5 hK5
 rcases br_cases hp with ⟨h1, hp⟩ | ⟨h1, hp⟩
 ·refine sx_skip' rfl rfl (wt_is' (wt_guard' rfl rfl rfl) (beq_tf h1)) ?_
  refine sx_skip' rfl rfl (wt_is' (wt_guard' rfl rfl rfl) (beq_tf h1)) ?_
  refine s0 (rd_pick_true' rfl h1 rfl) ?_
  refine sx_nil' ?_
  show TX E K5 _
  exact tk [0] (u3 rfl rfl rfl) (pc rfl pn) (hK5 true hp)
 refine sx_rd' (rd_move' rfl) rfl rfl (wt_is' (wt_guard' rfl rfl rfl) (beq_ff h1)) ?_
 refine sx_rd' (rd_bin' rfl rfl eg_int ru_neq) rfl rfl (wt_is' (wt_guard' rfl rfl rfl) (beq_ff h1)) ?_
 refine s0 (rd_pick_false' rfl h1 rfl) ?_
 refine sx_nil' ?_
 show TX E K5 _
 exact tk [0] (u3 rfl rfl rfl) (pc rfl pn) (hK5 (!decide (a0_1 = 0)) hp)
theorem spec_LayoutOf_simA : ∀ (k : Nat)  (a0_0 a0_1 a0_2 : Int) (a0_3 : List Nat) (a0_4 : List Int) (a0_5 : List (List Int)) (a0_6 : List T27) (out : Int), spec_LayoutOf k a0_0 a0_1 a0_2 a0_3 a0_4 a0_5 a0_6 = some out → Sx.Fn Try.prog 16 [(Ag (C0 a0_0 a0_1 a0_2 a0_3 a0_4 a0_5 a0_6))] [] (fun w : Unit => (Vi out)) (fun w => []) := by
 intro k
 induction k with
 | zero => intro a0_0 a0_1 a0_2 a0_3 a0_4 a0_5 a0_6 out hp; cases hp
 | succ k ih => intro a0_0 a0_1 a0_2 a0_3 a0_4 a0_5 a0_6 out hp; exact spec_LayoutOf_b_sim ih a0_0 a0_1 a0_2 a0_3 a0_4 a0_5 a0_6 hp
theorem spec_LayoutOf_sim {k : Nat}  (a0_0 a0_1 a0_2 : Int) (a0_3 : List Nat) (a0_4 : List Int) (a0_5 : List (List Int)) (a0_6 : List T27) {out : Int} (hp : spec_LayoutOf k a0_0 a0_1 a0_2 a0_3 a0_4 a0_5 a0_6 = some out) : Sx.Fn Try.prog 16 [(Ag (C0 a0_0 a0_1 a0_2 a0_3 a0_4 a0_5 a0_6))] [] (fun w : Unit => (Vi out)) (fun w => []) := spec_LayoutOf_simA k a0_0 a0_1 a0_2 a0_3 a0_4 a0_5 a0_6 out hp

def spec_Good_j16 (k : Nat) (rec2 : Int → Option (Unit ⊕ Unit)) (x23 : Int) (x22 : Bool) : Option (Unit ⊕ Unit) :=
 br x22
  (some (.inl ()))
  (rec2 (iadd .i64 x23 1))
def spec_Good_j15 (k : Nat) (rec2 : Int → Option (Unit ⊕ Unit)) (x23 : Int) (x21 : Bool) : Option (Unit ⊕ Unit) :=
 spec_Good_j16 k rec2 x23 x21
def spec_Good_l2s (a0_6 : List T27) (recf : Int → Int → Int → (List Nat) → (List Int) → (List (List Int)) → (List T27) → Option (Bool)) (a0_1 : Int) (k : Nat) (rec2 : Int → Option (Unit ⊕ Unit)) (x23 : Int) : Option (Unit ⊕ Unit) :=
 br (decide (x23 < (a0_6.length : Int)))
  ((idx a0_6 x23) >>= fun r24 =>
  (recf r24.f0 r24.f1 r24.f2 r24.f3 r24.f4 r24.f5 r24.f6) >>= fun r27 =>
  br (!r27)
   (spec_Good_j16 k rec2 x23 true)
   (br (!decide (a0_1 = 0))
    ((spec_LayoutOf k r24.f0 r24.f1 r24.f2 r24.f3 r24.f4 r24.f5 r24.f6) >>= fun r35 =>
    spec_Good_j15 k rec2 x23 (!decide (r35 = a0_1)))
    (spec_Good_j15 k rec2 x23 false)))
  (some (.inr ()))
def spec_Good_l2 (a0_6 : List T27) (recf : Int → Int → Int → (List Nat) → (List Int) → (List (List Int)) → (List T27) → Option (Bool)) (a0_1 : Int) : Nat → Int → Option (Unit ⊕ Unit)
 | 0, _ => none
 | k + 1, v => spec_Good_l2s a0_6 recf a0_1 k (spec_Good_l2 a0_6 recf a0_1 k) v
def spec_Good_j1 (k : Nat) (x1 : Bool) : Option (Bool) :=
 some x1
def spec_Good_j6 (k : Nat) (x6 : Bool) : Option (Bool) :=
 some x6
def spec_Good_j9 (k : Nat) (x9 : Bool) : Option (Bool) :=
 some x9
def spec_Good_j10 (k : Nat) (rec1 : (Int × Bool × Int) → Option (Int × Bool)) (r143 : Int × Bool) (x12 : Int) (x13 : Bool) : Option (Int × Bool) :=
 rec1 (r143.1, x13, (iadd .i64 x12 1))
def spec_Good_l1s (a0_5 : List (List Int)) (r15 : Int) (k : Nat) (rec1 : (Int × Bool × Int) → Option (Int × Bool)) (x10 : Int) (x11 : Bool) (x12 : Int) : Option (Int × Bool) :=
 br (decide (x12 < (a0_5.length : Int)))
  ((idx a0_5 x12) >>= fun r137 =>
  (spec_goodEnds k r137 x10 r15 false) >>= fun r143 =>
  br x11
   (spec_Good_j10 k rec1 r143 x12 r143.2)
   (spec_Good_j10 k rec1 r143 x12 false))
  (some (x10, x11))
def spec_Good_l1 (a0_5 : List (List Int)) (r15 : Int) : Nat → (Int × Bool × Int) → Option (Int × Bool)
 | 0, _ => none
 | k + 1, v => spec_Good_l1s a0_5 r15 k (spec_Good_l1 a0_5 r15 k) v.1 v.2.1 v.2.2
def spec_Good_j12 (k : Nat) (x17 : Bool) : Option (Bool) :=
 some x17
def spec_Good_j11 (k : Nat) (a0_4 : List Int) (x16 : Bool) : Option (Bool) :=
 br x16
  (spec_Good_j12 k (decide ((a0_4.length : Int) = 0)))
  (spec_Good_j12 k false)
def spec_Good_j8 (k : Nat) (a0_4 : List Int) (r15 a0_0 : Int) (a0_3 : List Nat) (a0_5 : List (List Int)) (x8 : Bool) : Option (Bool) :=
 br x8
  ((spec_goodEnds k a0_4 0 r15 (decide (a0_0 = 4))) >>= fun r119 =>
  br r119.2
   (spec_Good_j9 k (decide (r119.1 = (a0_3.length : Int))))
   (spec_Good_j9 k false))
  (br (decide (a0_0 = 6))
   ((spec_Good_l1 a0_5 r15 k (0, true, 0)) >>= fun v12 =>
   br v12.2
    (spec_Good_j11 k a0_4 (decide (v12.1 = (a0_3.length : Int))))
    (spec_Good_j11 k a0_4 false))
   (some false))
def spec_Good_j7 (k : Nat) (a0_4 : List Int) (a0_0 r15 : Int) (a0_3 : List Nat) (a0_5 : List (List Int)) (x7 : Bool) : Option (Bool) :=
 br x7
  (some (decide ((a0_4.length : Int) = 0)))
  (br (decide (a0_0 = 3))
   (spec_Good_j8 k a0_4 r15 a0_0 a0_3 a0_5 (decide (a0_0 = 3)))
   (br (decide (a0_0 = 4))
    (spec_Good_j8 k a0_4 r15 a0_0 a0_3 a0_5 (decide (a0_0 = 4)))
    (spec_Good_j8 k a0_4 r15 a0_0 a0_3 a0_5 (decide (a0_0 = 5)))))
def spec_Good_j5 (k : Nat) (a0_0 : Int) (a0_4 : List Int) (a0_3 : List Nat) (r15 : Int) (a0_5 : List (List Int)) (x5 : Bool) : Option (Bool) :=
 br x5
  (some false)
  (br (decide (a0_0 = 1))
   (br (decide ((a0_4.length : Int) = 0))
    (spec_Good_j6 k (decide ((a0_3.length : Int) ≤ r15)))
    (spec_Good_j6 k false))
   (br (decide (a0_0 = 2))
    (spec_Good_j7 k a0_4 a0_0 r15 a0_3 a0_5 (decide (a0_0 = 2)))
    (spec_Good_j7 k a0_4 a0_0 r15 a0_3 a0_5 (decide (a0_0 = 8)))))
def spec_Good_j4 (k : Nat) (a0_0 : Int) (a0_4 : List Int) (a0_3 : List Nat) (r15 : Int) (a0_5 : List (List Int)) (x4 : Bool) : Option (Bool) :=
 spec_Good_j5 k a0_0 a0_4 a0_3 r15 a0_5 x4
def spec_Good_j3 (k : Nat) (a0_0 : Int) (a0_4 : List Int) (a0_3 : List Nat) (r15 : Int) (a0_5 : List (List Int)) (x3 : Bool) : Option (Bool) :=
 br x3
  (spec_Good_j5 k a0_0 a0_4 a0_3 r15 a0_5 true)
  (br (decide (0 < (a0_5.length : Int)))
   (spec_Good_j4 k a0_0 a0_4 a0_3 r15 a0_5 (!decide (a0_0 = 6)))
   (spec_Good_j4 k a0_0 a0_4 a0_3 r15 a0_5 false))
def spec_Good_j2 (k : Nat) (a0_0 : Int) (a0_4 : List Int) (a0_3 : List Nat) (r15 : Int) (a0_5 : List (List Int)) (a0_6 : List T27) (x2 : Bool) : Option (Bool) :=
 br x2
  (spec_Good_j3 k a0_0 a0_4 a0_3 r15 a0_5 true)
  (spec_Good_j3 k a0_0 a0_4 a0_3 r15 a0_5 (decide (0 < (a0_6.length : Int))))
def spec_Good_b (recf : Int → Int → Int → (List Nat) → (List Int) → (List (List Int)) → (List T27) → Option (Bool)) (k : Nat) (a0_0 a0_1 a0_2 : Int) (a0_3 : List Nat) (a0_4 : List Int) (a0_5 : List (List Int)) (a0_6 : List T27) : Option (Bool) :=
 (spec_Stride k a0_1) >>= fun r15 =>
 br (decide (a0_0 = 7))
  ((spec_Good_l2 a0_6 recf a0_1 k 0) >>= fun y2 => match y2 with
   | (.inl v21) =>
    (some false)
   | (.inr v22) =>
    (br (decide (0 ≤ a0_1))
     (spec_Good_j1 k (decide ((iadd .i64 (iadd .i64 (a0_3.length : Int) (a0_4.length : Int)) (a0_5.length : Int)) = 0)))
     (spec_Good_j1 k false)))
  (br (decide (r15 = 0))
   (spec_Good_j2 k a0_0 a0_4 a0_3 r15 a0_5 a0_6 true)
   ((irem (a0_3.length : Int) r15) >>= fun r66 =>
   spec_Good_j2 k a0_0 a0_4 a0_3 r15 a0_5 a0_6 (!decide (r66 = 0))))
def spec_Good : Nat → Int → Int → Int → (List Nat) → (List Int) → (List (List Int)) → (List T27) → Option (Bool)
 | 0 => fun _ _ _ _ _ _ _ => none
 | k + 1 => fun a0_0 a0_1 a0_2 a0_3 a0_4 a0_5 a0_6 => spec_Good_b (spec_Good k) k a0_0 a0_1 a0_2 a0_3 a0_4 a0_5 a0_6

theorem spec_Good_b_sim {recf : Int → Int → Int → (List Nat) → (List Int) → (List (List Int)) → (List T27) → Option (Bool)} (hrec : ∀  (a0_0 a0_1 a0_2 : Int) (a0_3 : List Nat) (a0_4 : List Int) (a0_5 : List (List Int)) (a0_6 : List T27) (out : Bool), recf a0_0 a0_1 a0_2 a0_3 a0_4 a0_5 a0_6 = some out → Sx.Fn Try.prog 27 [(Ag (C0 a0_0 a0_1 a0_2 a0_3 a0_4 a0_5 a0_6))] [] (fun w : Unit => (Vb out)) (fun w => [])) {k : Nat}  (a0_0 a0_1 a0_2 : Int) (a0_3 : List Nat) (a0_4 : List Int) (a0_5 : List (List Int)) (a0_6 : List T27) {out : Bool} (hp : spec_Good_b recf k a0_0 a0_1 a0_2 a0_3 a0_4 a0_5 a0_6 = some out) : Sx.Fn Try.prog 27 [(Ag (C0 a0_0 a0_1 a0_2 a0_3 a0_4 a0_5 a0_6))] [] (fun w : Unit => (Vb out)) (fun w => []) := by
 unfold spec_Good_b at hp
 refine fn_of Try.func27 rfl Try.ntmps27 rfl fun E hM => ?_
 refine cr fun K1 hK1 => ?_
 refine so (ox_box' rfl (lv_ag _) rfl rfl) fun q1 => ?_
 refine sa rfl ?_
 refine nk hK1 ?_
 refine cr fun K2 hK2 => ?_
 refine sg (off := 1) rfl Try.underlying27 rfl info3 rfl ?_
 refine sl (i := 0) (o := 1) rfl (ar rfl rfl rfl rfl) rfl flat3 ?_
 obtain ⟨r15, hr15, hp⟩ := bind_some hp
 refine so (oz (ent_fn' Try.func47 isn47 rfl rfl) (spec_Stride_sim _ hr15)) fun ⟨⟩ => ?_
 refine sa rfl ?_
 refine nk hK2 ?_
 refine cx_seq' fun K3 hK3 => ?_
 refine cr fun K4 hK4 => ?_
 refine sf rfl Try.underlying27 rfl info3 rfl ?_
 refine sl (i := 0) (o := 0) rfl (ar rfl rfl rfl rfl) rfl flat3 ?_
 refine sb rfl rfl eg_int ru_eql ?_
 refine nk hK4 ?_
 refine cx_cond' rfl (fun h1 => ?_) (fun h1 => ?_)
 ·replace hp := (br_t h1).symm.trans hp
  refine cx_seq' fun K5 hK5 => ?_
  refine cr fun K6 hK6 => ?_
  refine sg (off := 6) rfl Try.underlying27 rfl info25 rfl ?_
  refine sl (i := 0) (o := 6) rfl (ar rfl rfl rfl rfl) rfl flat25 ?_
  refine sk rfl Try.underlying25 ?_
  refine sm rfl ?_
  refine nk hK6 ?_
  refine cx_block' ?_
  obtain ⟨y2, hy2, hp⟩ := bind_some hp
  refine cx_loopg' (F := spec_Good_l2 a0_6 recf a0_1) (G := fun k R v => spec_Good_l2s a0_6 recf a0_1 k R v) (x := 0) (gh := ()) (fun (v18 : Int) (w18 : Unit) => (⟨165, [], [(1, (Vp q1)), (20, (Sl KT27 a0_6)), (21, (Vi (a0_6.length : Int))), (22, (Vi v18))], [(Ur q1 27 (C0 a0_0 a0_1 a0_2 a0_3 a0_4 a0_5 a0_6))]⟩ : St)) (fun (y : Unit ⊕ Unit) => match y with | (.inl v21) => Zg E Exit.ret (fun (w21 : Unit) => (⟨165, [], [(2, (Vb false))], []⟩ : St)) | (.inr v22) => Zg E (Exit.exit 0) (fun (w22 : Unit) => (⟨165, [], [(1, (Vp q1))], [(Ur q1 27 (C0 a0_0 a0_1 a0_2 a0_3 a0_4 a0_5 a0_6))]⟩ : St))) (fun _ => rfl) (fun _ _ => rfl) ?_ hy2 (tx_to' rfl [0] (u4 rfl rfl rfl rfl) (by decide) (pc rfl pn)) ?_
  ·clear hp hy2
   clear y2
   intro k rec2 KY2 ih2
   rintro x23 ⟨⟩ y2 hp
   replace hp : spec_Good_l2s a0_6 recf a0_1 k rec2 x23 = some y2 := hp
   unfold spec_Good_l2s at hp
   refine cr fun K59 hK59 => ?_
   refine sb rfl rfl eg_int ru_lss ?_
   refine nk hK59 ?_
   refine cx_seq' fun K60 hK60 => ?_
   refine cx_cond' rfl (fun h28 => ?_) (fun h28 => ?_)
   ·replace hp := (br_t h28).symm.trans hp
    refine cx_skip' ?_
    show TX E K60 _
    refine tx_k' hK60 ?_
    refine cx_seq' fun K61 hK61 => ?_
    refine cx_block' ?_
    refine cr fun K62 hK62 => ?_
    obtain ⟨r24, hr24, hp⟩ := bind_some hp
    refine s0 (rd_eq' (congrArg Pt (KT27_enc r24)) (rd_at' (K := KT27) rfl rfl hr24 Try.underlying25 info27)) ?_
    refine s0 (rd_load_pt_agg' (nn := 7) rfl rfl agg27 (l' := (C0 r24.f0 r24.f1 r24.f2 r24.f3 r24.f4 r24.f5 r24.f6)) rfl) ?_
    refine so (ox_alloc' info27 rfl rfl rfl rfl (l := (C1 0 0 0)) rfl) fun q5 => ?_
    refine so (ox_store' (i := 0) (o := 0) rfl rfl (lv_ag _) (ar rfl rfl rfl rfl) rfl info27 rfl (H' := [(Ur q5 27 (C0 r24.f0 r24.f1 r24.f2 r24.f3 r24.f4 r24.f5 r24.f6)), (Ur q1 27 (C0 a0_0 a0_1 a0_2 a0_3 a0_4 a0_5 a0_6))]) rfl) fun _ => ?_
    refine nk hK62 ?_
    refine cx_seq' fun K63 hK63 => ?_
    refine cx_plan' [] [] [(0, 1), (1, 0), (2, 1), (3, 1), (4, 1), (5, 1), (6, 1), (7, 1), (8, 1), (10, 1), (11, 1), (9, 0), (12, 1), (13, 1), (14, 1)] mixed (by kernel_rfl) ?_
    refine pd rfl (rd_load_agg' (i := 0) (o := 0) (nn := 7) rfl (ar rfl rfl rfl rfl) rfl agg27 (l' := (C0 r24.f0 r24.f1 r24.f2 r24.f3 r24.f4 r24.f5 r24.f6)) rfl) ?_
    obtain ⟨r27, hr27, hp⟩ := bind_some hp
    refine px_ox' rfl (oz (ent_fn' Try.func27 isn27 rfl rfl) (hrec _ _ _ _ _ _ _ _ hr27)) rfl bs_nil (wt_none' rfl) fun ⟨⟩ => ?_
    refine pd rfl (rd_un' rfl ru_not) ?_
    refine pd rfl (rd_move' rfl) ?_
    refine px_cutn' 11 (fun (v20 : Bool) => (⟨165, [], [(1, (Vp q1)), (20, (Sl KT27 a0_6)), (21, (Vi (a0_6.length : Int))), (22, (Vi x23)), (40, (Vb v20))], [(Ur q1 27 (C0 a0_0 a0_1 a0_2 a0_3 a0_4 a0_5 a0_6))]⟩ : St)) (fun (v20 : Bool) => spec_Good_j16 k rec2 x23 v20 = some y2) ?_ ?_
    ·rintro x22 hp
     replace hp : spec_Good_j16 k rec2 x23 x22 = some y2 := hp
     unfold spec_Good_j16 at hp
     refine px_nil' ?_
     show TX E K63 _
     refine tx_k' hK63 ?_
     refine cx_cond' rfl (fun h31 => ?_) (fun h31 => ?_)
     ·replace hp := (br_t h31).symm.trans hp
      refine cr fun K66 hK66 => ?_
      refine sa rfl ?_
      refine nk hK66 ?_
      refine cx_retc' ?_
      replace hp := sj hp
      subst hp
      show TX E (Zg E Exit.ret _ Exit.ret) _
      exact tx_zend' () rfl [] (uc rfl un) (by decide) pn
     replace hp := (br_f h31).symm.trans hp
     refine cx_skip' ?_
     show TX E K61 _
     refine tx_k' hK61 ?_
     refine cx_region' ?_
     refine sb rfl rfl eg_int ru_add ?_
     refine sm rfl ?_
     refine sx_nil' ?_
     show TX E (KY2 _) _
     exact tk [0] (u4 rfl rfl rfl rfl) (pc rfl pn) (ih2 (iadd .i64 x23 1) () _ hp)
    intro K65 hK65
    rcases br_cases hp with ⟨h29, hp⟩ | ⟨h29, hp⟩
    ·refine px_skip' rfl rfl rfl (wt_is' (wt_guard' rfl rfl rfl) (beq_tf h29)) ?_
     iterate 3 refine px_skip' rfl rfl rfl (wt_is' (wt_guard' rfl rfl rfl) (beq_tf h29)) ?_
     iterate 3 refine px_skip' rfl rfl rfl (wt_undef' rfl rfl rfl) ?_
     refine px_oskip' rfl rfl rfl (wt_undef' rfl rfl rfl) ?_
     refine px_skip' rfl rfl rfl (wt_undef' rfl rfl rfl) ?_
     refine px_skip' rfl rfl rfl (wt_is' (wt_guard' rfl rfl rfl) (beq_tf h29)) ?_
     refine pd rfl (rd_pick_true' rfl h29 rfl) ?_
     refine px_nil' ?_
     show TX E K65 _
     exact tk [1] (u5 rfl rfl rfl rfl rfl) (pc rfl pn) (hK65 true hp)
    refine px_rd' rfl (rd_field' (off := 1) rfl Try.underlying27 rfl info3 rfl) rfl rfl (wt_is' (wt_guard' rfl rfl rfl) (beq_ff h29)) ?_
    refine px_rd' rfl (rd_load' (i := 1) (o := 1) rfl (ar rfl rfl rfl rfl) rfl flat3) rfl rfl (wt_is' (wt_guard' rfl rfl rfl) (beq_ff h29)) ?_
    refine px_rd' rfl (rd_bin' rfl rfl eg_int ru_neq) rfl rfl (wt_is' (wt_guard' rfl rfl rfl) (beq_ff h29)) ?_
    refine px_rd' rfl (rd_move' rfl) rfl rfl (wt_is' (wt_guard' rfl rfl rfl) (beq_ff h29)) ?_
    refine px_cutn' 7 (fun (v19 : Bool) => (⟨165, [], [(1, (Vp q1)), (20, (Sl KT27 a0_6)), (21, (Vi (a0_6.length : Int))), (22, (Vi x23)), (40, (Vb v19))], [(Ur q1 27 (C0 a0_0 a0_1 a0_2 a0_3 a0_4 a0_5 a0_6))]⟩ : St)) (fun (v19 : Bool) => spec_Good_j15 k rec2 x23 v19 = some y2) ?_ ?_
    ·rintro x21 hp
     replace hp : spec_Good_j15 k rec2 x23 x21 = some y2 := hp
     unfold spec_Good_j15 at hp
     refine px_nil' ?_
     show TX E K65 _
     exact tk [0] (u5 rfl rfl rfl rfl rfl) (pc rfl pn) (hK65 x21 hp)
    intro K64 hK64
    rcases br_cases hp with ⟨h30, hp⟩ | ⟨h30, hp⟩
    ·refine px_rd' rfl (rd_load_agg' (i := 0) (o := 0) (nn := 7) rfl (ar rfl rfl rfl rfl) rfl agg27 (l' := (C0 r24.f0 r24.f1 r24.f2 r24.f3 r24.f4 r24.f5 r24.f6)) rfl) rfl rfl (wt_is' (wt_guard' rfl rfl rfl) (beq_tt h30)) ?_
     refine px_rd' rfl (rd_field' (off := 1) rfl Try.underlying27 rfl info3 rfl) rfl rfl (wt_is' (wt_guard' rfl rfl rfl) (beq_tt h30)) ?_
     refine px_rd' rfl (rd_load' (i := 1) (o := 1) rfl (ar rfl rfl rfl rfl) rfl flat3) rfl rfl (wt_is' (wt_guard' rfl rfl rfl) (beq_tt h30)) ?_
     obtain ⟨r35, hr35, hp⟩ := bind_some hp
     refine px_ox' rfl (oz (ent_fn' Try.func16 isn16 rfl rfl) (spec_LayoutOf_sim _ _ _ _ _ _ _ hr35)) rfl bs_nil (wt_is' (wt_guard' rfl rfl rfl) (beq_tt h30)) fun ⟨⟩ => ?_
     refine px_rd' rfl (rd_bin' rfl rfl eg_int ru_neq) rfl rfl (wt_is' (wt_guard' rfl rfl rfl) (beq_tt h30)) ?_
     refine px_rd' rfl (rd_pick_true' rfl h30 rfl) rfl rfl (wt_is' (wt_guard' rfl rfl rfl) (beq_ff h29)) ?_
     refine pd rfl (rd_pick_false' rfl h29 rfl) ?_
     refine px_nil' ?_
     show TX E K64 _
     exact tk [1] (u5 rfl rfl rfl rfl rfl) (pc rfl pn) (hK64 (!decide (r35 = a0_1)) hp)
    iterate 3 refine px_skip' rfl rfl rfl (wt_is' (wt_guard' rfl rfl rfl) (beq_ft h30)) ?_
    refine px_oskip' rfl rfl rfl (wt_is' (wt_guard' rfl rfl rfl) (beq_ft h30)) ?_
    refine px_skip' rfl rfl rfl (wt_is' (wt_guard' rfl rfl rfl) (beq_ft h30)) ?_
    refine px_rd' rfl (rd_pick_false' rfl h30 rfl) rfl rfl (wt_is' (wt_guard' rfl rfl rfl) (beq_ff h29)) ?_
    refine pd rfl (rd_pick_false' rfl h29 rfl) ?_
    refine px_nil' ?_
    show TX E K64 _
    exact tk [1] (u5 rfl rfl rfl rfl rfl) (pc rfl pn) (hK64 false hp)
   replace hp := (br_f h28).symm.trans hp
   refine cx_exit' ?_
   replace hp := sj hp
   subst hp
   show TX E (Zg E (Exit.exit 0) _ (Exit.exit 0)) _
   exact tx_zend' () rfl [0] (uc rfl un) (by decide) (pc rfl pn)
  rcases y2 with v21 | v22
  ·dsimp only at hp
   refine zg_out fun w21 => ?_
   replace hp := sj hp
   subst hp
   refine tk (L' := [(2, (Vb false))]) (H' := []) [] (uc rfl un) pn ?_
   exact tx_ret1' Try.results27 rfl () (rv_tmp' rfl) lr
  dsimp only at hp
  refine zg_out fun w22 => ?_
  show TX E K5 _
  refine tx_k' hK5 ?_
  refine cr fun K12 hK12 => ?_
  refine sg (off := 1) rfl Try.underlying27 rfl info3 rfl ?_
  refine sl (i := 0) (o := 1) rfl (ar rfl rfl rfl rfl) rfl flat3 ?_
  refine sb rfl rfl eg_int ru_geq ?_
  refine sm rfl ?_
  refine sx_cutn' 13 (fun (v1 : Bool) => (⟨165, [], [(58, (Vb v1))], []⟩ : St)) (fun (v1 : Bool) => spec_Good_j1 k v1 = some out) ?_ ?_
  ·rintro x1 hp
   replace hp : spec_Good_j1 k x1 = some out := hp
   unfold spec_Good_j1 at hp
   refine sa rfl ?_
   refine nk hK12 ?_
   refine cx_retc' ?_
   replace hp := sj hp
   subst hp
   refine tk (L' := [(2, (Vb x1))]) (H' := []) [] (uc rfl un) pn ?_
   exact tx_ret1' Try.results27 rfl () (rv_tmp' rfl) lr
  intro K13 hK13
  rcases br_cases hp with ⟨h3, hp⟩ | ⟨h3, hp⟩
  ·refine sx_rd' (rd_field' (off := 3) rfl Try.underlying27 rfl info22 rfl) rfl rfl (wt_is' (wt_guard' rfl rfl rfl) (beq_tt h3)) ?_
   refine sx_rd' (rd_load' (i := 0) (o := 3) rfl (ar rfl rfl rfl rfl) rfl flat22) rfl rfl (wt_is' (wt_guard' rfl rfl rfl) (beq_tt h3)) ?_
   refine sx_rd' (rd_len' rfl Try.underlying22) rfl rfl (wt_is' (wt_guard' rfl rfl rfl) (beq_tt h3)) ?_
   refine sx_rd' (rd_field' (off := 4) rfl Try.underlying27 rfl info23 rfl) rfl rfl (wt_is' (wt_guard' rfl rfl rfl) (beq_tt h3)) ?_
   refine sx_rd' (rd_load' (i := 0) (o := 4) rfl (ar rfl rfl rfl rfl) rfl flat23) rfl rfl (wt_is' (wt_guard' rfl rfl rfl) (beq_tt h3)) ?_
   refine sx_rd' (rd_len' rfl Try.underlying23) rfl rfl (wt_is' (wt_guard' rfl rfl rfl) (beq_tt h3)) ?_
   refine sx_rd' (rd_bin' rfl rfl eg_int ru_add) rfl rfl (wt_is' (wt_guard' rfl rfl rfl) (beq_tt h3)) ?_
   refine sx_rd' (rd_field' (off := 5) rfl Try.underlying27 rfl info24 rfl) rfl rfl (wt_is' (wt_guard' rfl rfl rfl) (beq_tt h3)) ?_
   refine sx_rd' (rd_load' (i := 0) (o := 5) rfl (ar rfl rfl rfl rfl) rfl flat24) rfl rfl (wt_is' (wt_guard' rfl rfl rfl) (beq_tt h3)) ?_
   refine sx_rd' (rd_len' rfl Try.underlying24) rfl rfl (wt_is' (wt_guard' rfl rfl rfl) (beq_tt h3)) ?_
   refine sx_rd' (rd_bin' rfl rfl eg_int ru_add) rfl rfl (wt_is' (wt_guard' rfl rfl rfl) (beq_tt h3)) ?_
   refine sx_rd' (rd_bin' rfl rfl eg_int ru_eql) rfl rfl (wt_is' (wt_guard' rfl rfl rfl) (beq_tt h3)) ?_
   refine s0 (rd_pick_true' rfl h3 rfl) ?_
   refine sx_nil' ?_
   show TX E K13 _
   exact tk [] (uc rfl un) pn (hK13 (decide ((iadd .i64 (iadd .i64 (a0_3.length : Int) (a0_4.length : Int)) (a0_5.length : Int)) = 0)) hp)
  iterate 12 refine sx_skip' rfl rfl (wt_is' (wt_guard' rfl rfl rfl) (beq_ft h3)) ?_
  refine s0 (rd_pick_false' rfl h3 rfl) ?_
  refine sx_nil' ?_
  show TX E K13 _
  exact tk [] (uc rfl un) pn (hK13 false hp)
 replace hp := (br_f h1).symm.trans hp
 refine cx_skip' ?_
 show TX E K3 _
 refine tx_k' hK3 ?_
 refine cx_seq' fun K14 hK14 => ?_
 refine cr fun K15 hK15 => ?_
 refine sm rfl ?_
 refine sb rfl rfl eg_int ru_eql ?_
 refine sm rfl ?_
 refine sx_cutn' 7 (fun (v2 : Bool) => (⟨165, [], [(1, (Vp q1)), (3, (Vi r15)), (68, (Vb v2))], [(Ur q1 27 (C0 a0_0 a0_1 a0_2 a0_3 a0_4 a0_5 a0_6))]⟩ : St)) (fun (v2 : Bool) => spec_Good_j2 k a0_0 a0_4 a0_3 r15 a0_5 a0_6 v2 = some out) ?_ ?_
 ·rintro x2 hp
  replace hp : spec_Good_j2 k a0_0 a0_4 a0_3 r15 a0_5 a0_6 x2 = some out := hp
  unfold spec_Good_j2 at hp
  refine sm rfl ?_
  refine sx_cutn' 5 (fun (v3 : Bool) => (⟨165, [], [(1, (Vp q1)), (3, (Vi r15)), (74, (Vb v3))], [(Ur q1 27 (C0 a0_0 a0_1 a0_2 a0_3 a0_4 a0_5 a0_6))]⟩ : St)) (fun (v3 : Bool) => spec_Good_j3 k a0_0 a0_4 a0_3 r15 a0_5 v3 = some out) ?_ ?_
  ·rintro x3 hp
   replace hp : spec_Good_j3 k a0_0 a0_4 a0_3 r15 a0_5 x3 = some out := hp
   unfold spec_Good_j3 at hp
   refine sm rfl ?_
   refine sx_cutn' 10 (fun (v5 : Bool) => (⟨165, [], [(1, (Vp q1)), (3, (Vi r15)), (85, (Vb v5))], [(Ur q1 27 (C0 a0_0 a0_1 a0_2 a0_3 a0_4 a0_5 a0_6))]⟩ : St)) (fun (v5 : Bool) => spec_Good_j5 k a0_0 a0_4 a0_3 r15 a0_5 v5 = some out) ?_ ?_
   ·rintro x5 hp
    replace hp : spec_Good_j5 k a0_0 a0_4 a0_3 r15 a0_5 x5 = some out := hp
    unfold spec_Good_j5 at hp
    refine nk hK15 ?_
    refine cx_cond' rfl (fun h8 => ?_) (fun h8 => ?_)
    ·replace hp := (br_t h8).symm.trans hp
     refine cr fun K20 hK20 => ?_
     refine sa rfl ?_
     refine nk hK20 ?_
     refine cx_retc' ?_
     replace hp := sj hp
     subst hp
     refine tk (L' := [(2, (Vb false))]) (H' := []) [] (uc rfl un) pn ?_
     exact tx_ret1' Try.results27 rfl () (rv_tmp' rfl) lr
    replace hp := (br_f h8).symm.trans hp
    refine cx_skip' ?_
    show TX E K14 _
    refine tx_k' hK14 ?_
    refine cx_seq' fun K21 hK21 => ?_
    refine cr fun K22 hK22 => ?_
    refine sf rfl Try.underlying27 rfl info3 rfl ?_
    refine sl (i := 0) (o := 0) rfl (ar rfl rfl rfl rfl) rfl flat3 ?_
    refine nk hK22 ?_
    refine cx_block' ?_
    refine cr fun K23 hK23 => ?_
    refine sb rfl rfl eg_int ru_eql ?_
    refine sa rfl ?_
    refine nk hK23 ?_
    refine cx_cond' rfl (fun h9 => ?_) (fun h9 => ?_)
    ·replace hp := (br_t h9).symm.trans hp
     refine cr fun K24 hK24 => ?_
     refine sg (off := 4) rfl Try.underlying27 rfl info23 rfl ?_
     refine sl (i := 0) (o := 4) rfl (ar rfl rfl rfl rfl) rfl flat23 ?_
     refine sk rfl Try.underlying23 ?_
     refine sb rfl rfl eg_int ru_eql ?_
     refine sm rfl ?_
     refine sx_cutn' 6 (fun (v6 : Bool) => (⟨165, [], [(100, (Vb v6))], []⟩ : St)) (fun (v6 : Bool) => spec_Good_j6 k v6 = some out) ?_ ?_
     ·rintro x6 hp
      replace hp : spec_Good_j6 k x6 = some out := hp
      unfold spec_Good_j6 at hp
      refine sa rfl ?_
      refine nk hK24 ?_
      refine cx_retc' ?_
      replace hp := sj hp
      subst hp
      refine tk (L' := [(2, (Vb x6))]) (H' := []) [] (uc rfl un) pn ?_
      exact tx_ret1' Try.results27 rfl () (rv_tmp' rfl) lr
     intro K25 hK25
     rcases br_cases hp with ⟨h10, hp⟩ | ⟨h10, hp⟩
     ·refine sx_rd' (rd_field' (off := 3) rfl Try.underlying27 rfl info22 rfl) rfl rfl (wt_is' (wt_guard' rfl rfl rfl) (beq_tt h10)) ?_
      refine sx_rd' (rd_load' (i := 0) (o := 3) rfl (ar rfl rfl rfl rfl) rfl flat22) rfl rfl (wt_is' (wt_guard' rfl rfl rfl) (beq_tt h10)) ?_
      refine sx_rd' (rd_len' rfl Try.underlying22) rfl rfl (wt_is' (wt_guard' rfl rfl rfl) (beq_tt h10)) ?_
      refine sx_rd' (rd_move' rfl) rfl rfl (wt_is' (wt_guard' rfl rfl rfl) (beq_tt h10)) ?_
      refine sx_rd' (rd_bin' rfl rfl eg_int ru_leq) rfl rfl (wt_is' (wt_guard' rfl rfl rfl) (beq_tt h10)) ?_
      refine s0 (rd_pick_true' rfl h10 rfl) ?_
      refine sx_nil' ?_
      show TX E K25 _
      exact tk [] (uc rfl un) pn (hK25 (decide ((a0_3.length : Int) ≤ r15)) hp)
     iterate 5 refine sx_skip' rfl rfl (wt_is' (wt_guard' rfl rfl rfl) (beq_ft h10)) ?_
     refine s0 (rd_pick_false' rfl h10 rfl) ?_
     refine sx_nil' ?_
     show TX E K25 _
     exact tk [] (uc rfl un) pn (hK25 false hp)
    replace hp := (br_f h9).symm.trans hp
    refine cx_join' (fun (v7 : Bool) => (⟨165, [], [(1, (Vp q1)), (3, (Vi r15)), (87, (Vi a0_0)), (101, (Vb v7))], [(Ur q1 27 (C0 a0_0 a0_1 a0_2 a0_3 a0_4 a0_5 a0_6))]⟩ : St)) (fun (v7 : Bool) => spec_Good_j7 k a0_4 a0_0 r15 a0_3 a0_5 v7 = some out) ?_ ?_
    ·rintro x7 hp
     replace hp : spec_Good_j7 k a0_4 a0_0 r15 a0_3 a0_5 x7 = some out := hp
     unfold spec_Good_j7 at hp
     refine cx_cond' rfl (fun h12 => ?_) (fun h12 => ?_)
     ·replace hp := (br_t h12).symm.trans hp
      refine cr fun K28 hK28 => ?_
      refine sg (off := 4) rfl Try.underlying27 rfl info23 rfl ?_
      refine sl (i := 0) (o := 4) rfl (ar rfl rfl rfl rfl) rfl flat23 ?_
      refine sk rfl Try.underlying23 ?_
      refine sb rfl rfl eg_int ru_eql ?_
      refine sa rfl ?_
      refine nk hK28 ?_
      refine cx_retc' ?_
      replace hp := sj hp
      subst hp
      refine tk (L' := [(2, (Vb (decide ((a0_4.length : Int) = 0))))]) (H' := []) [] (uc rfl un) pn ?_
      exact tx_ret1' Try.results27 rfl () (rv_tmp' rfl) lr
     replace hp := (br_f h12).symm.trans hp
     refine cx_join' (fun (v8 : Bool) => (⟨165, [], [(1, (Vp q1)), (3, (Vi r15)), (87, (Vi a0_0)), (108, (Vb v8))], [(Ur q1 27 (C0 a0_0 a0_1 a0_2 a0_3 a0_4 a0_5 a0_6))]⟩ : St)) (fun (v8 : Bool) => spec_Good_j8 k a0_4 r15 a0_0 a0_3 a0_5 v8 = some out) ?_ ?_
     ·rintro x8 hp
      replace hp : spec_Good_j8 k a0_4 r15 a0_0 a0_3 a0_5 x8 = some out := hp
      unfold spec_Good_j8 at hp
      refine cx_cond' rfl (fun h15 => ?_) (fun h15 => ?_)
      ·replace hp := (br_t h15).symm.trans hp
       refine cr fun K32 hK32 => ?_
       refine sg (off := 4) rfl Try.underlying27 rfl info23 rfl ?_
       refine sl (i := 0) (o := 4) rfl (ar rfl rfl rfl rfl) rfl flat23 ?_
       refine sm rfl ?_
       refine sf rfl Try.underlying27 rfl info3 rfl ?_
       refine sl (i := 0) (o := 0) rfl (ar rfl rfl rfl rfl) rfl flat3 ?_
       refine sb rfl rfl eg_int ru_eql ?_
       obtain ⟨r119, hr119, hp⟩ := bind_some hp
       refine so (oz (ent_fn' Try.func57 isn57 rfl rfl) (spec_goodEnds_sim _ _ _ _ hr119)) fun ⟨⟩ => ?_
       refine sm rfl ?_
       iterate 2 refine se rfl rfl ?_
       iterate 2 refine sa rfl ?_
       refine nk hK32 ?_
       refine cr fun K33 hK33 => ?_
       iterate 2 refine sm rfl ?_
       refine sx_cutn' 6 (fun (v9 : Bool) => (⟨165, [], [(129, (Vb v9))], []⟩ : St)) (fun (v9 : Bool) => spec_Good_j9 k v9 = some out) ?_ ?_
       ·rintro x9 hp
        replace hp : spec_Good_j9 k x9 = some out := hp
        unfold spec_Good_j9 at hp
        refine sa rfl ?_
        refine nk hK33 ?_
        refine cx_retc' ?_
        replace hp := sj hp
        subst hp
        refine tk (L' := [(2, (Vb x9))]) (H' := []) [] (uc rfl un) pn ?_
        exact tx_ret1' Try.results27 rfl () (rv_tmp' rfl) lr
       intro K34 hK34
       rcases br_cases hp with ⟨h16, hp⟩ | ⟨h16, hp⟩
       ·refine sx_rd' (rd_move' rfl) rfl rfl (wt_is' (wt_guard' rfl rfl rfl) (beq_tt h16)) ?_
        refine sx_rd' (rd_field' (off := 3) rfl Try.underlying27 rfl info22 rfl) rfl rfl (wt_is' (wt_guard' rfl rfl rfl) (beq_tt h16)) ?_
        refine sx_rd' (rd_load' (i := 0) (o := 3) rfl (ar rfl rfl rfl rfl) rfl flat22) rfl rfl (wt_is' (wt_guard' rfl rfl rfl) (beq_tt h16)) ?_
        refine sx_rd' (rd_len' rfl Try.underlying22) rfl rfl (wt_is' (wt_guard' rfl rfl rfl) (beq_tt h16)) ?_
        refine sx_rd' (rd_bin' rfl rfl eg_int ru_eql) rfl rfl (wt_is' (wt_guard' rfl rfl rfl) (beq_tt h16)) ?_
        refine s0 (rd_pick_true' rfl h16 rfl) ?_
        refine sx_nil' ?_
        show TX E K34 _
        exact tk [] (uc rfl un) pn (hK34 (decide (r119.1 = (a0_3.length : Int))) hp)
       iterate 5 refine sx_skip' rfl rfl (wt_is' (wt_guard' rfl rfl rfl) (beq_ft h16)) ?_
       refine s0 (rd_pick_false' rfl h16 rfl) ?_
       refine sx_nil' ?_
       show TX E K34 _
       exact tk [] (uc rfl un) pn (hK34 false hp)
      replace hp := (br_f h15).symm.trans hp
      refine cr fun K35 hK35 => ?_
      refine sb rfl rfl eg_int ru_eql ?_
      refine sa rfl ?_
      refine nk hK35 ?_
      refine cx_cond' rfl (fun h17 => ?_) (fun h17 => ?_)
      ·replace hp := (br_t h17).symm.trans hp
       refine cr fun K36 hK36 => ?_
       iterate 2 refine sa rfl ?_
       refine nk hK36 ?_
       refine cx_seq' fun K37 hK37 => ?_
       refine cr fun K38 hK38 => ?_
       refine sg (off := 5) rfl Try.underlying27 rfl info24 rfl ?_
       refine sl (i := 0) (o := 5) rfl (ar rfl rfl rfl rfl) rfl flat24 ?_
       refine sk rfl Try.underlying24 ?_
       refine sm rfl ?_
       refine nk hK38 ?_
       refine cx_block' ?_
       obtain ⟨v12, hy1, hp⟩ := bind_some hp
       refine cx_loopg' (F := spec_Good_l1 a0_5 r15) (G := fun k R v => spec_Good_l1s a0_5 r15 k R v.1 v.2.1 v.2.2) (x := (0, true, 0)) (gh := ()) (fun (v10 : Int × Bool × Int) (w10 : Unit) => (⟨165, [], [(1, (Vp q1)), (3, (Vi r15)), (8, (Vi v10.1)), (9, (Vb v10.2.1)), (133, (Sl (Kl (Ki .i64)) a0_5)), (134, (Vi (a0_5.length : Int))), (135, (Vi v10.2.2))], [(Ur q1 27 (C0 a0_0 a0_1 a0_2 a0_3 a0_4 a0_5 a0_6))]⟩ : St)) (fun (v12 : Int × Bool) => Zg E (Exit.exit 3) (fun (w12 : Unit) => (⟨165, [], [(1, (Vp q1)), (8, (Vi v12.1)), (9, (Vb v12.2))], [(Ur q1 27 (C0 a0_0 a0_1 a0_2 a0_3 a0_4 a0_5 a0_6))]⟩ : St))) (fun _ => rfl) (fun _ _ => rfl) ?_ hy1 (tx_to' rfl [0] (u7 rfl rfl rfl rfl rfl rfl rfl) (by decide) (pc rfl pn)) ?_
       ·clear hp hy1
        clear v12
        intro k rec1 KY1 ih1
        rintro ⟨x10, x11, x12⟩ ⟨⟩ y1 hp
        replace hp : spec_Good_l1s a0_5 r15 k rec1 x10 x11 x12 = some y1 := hp
        unfold spec_Good_l1s at hp
        refine cr fun K45 hK45 => ?_
        refine sb rfl rfl eg_int ru_lss ?_
        refine nk hK45 ?_
        refine cx_seq' fun K46 hK46 => ?_
        refine cx_cond' rfl (fun h20 => ?_) (fun h20 => ?_)
        ·replace hp := (br_t h20).symm.trans hp
         refine cx_skip' ?_
         show TX E K46 _
         refine tx_k' hK46 ?_
         refine cx_seq' fun K47 hK47 => ?_
         refine cx_block' ?_
         refine cr fun K48 hK48 => ?_
         obtain ⟨r137, hr137, hp⟩ := bind_some hp
         refine s0 (rd_at' (K := (Kl (Ki .i64))) rfl rfl hr137 Try.underlying24 info23) ?_
         refine s0 (rd_load_pt' rfl rfl flat23) ?_
         refine sa rfl ?_
         refine nk hK48 ?_
         refine cr fun K49 hK49 => ?_
         refine sa rfl ?_
         refine nk hK49 ?_
         refine cr fun K50 hK50 => ?_
         iterate 3 refine sm rfl ?_
         obtain ⟨r143, hr143, hp⟩ := bind_some hp
         refine so (oz (ent_fn' Try.func57 isn57 rfl rfl) (spec_goodEnds_sim _ _ _ _ hr143)) fun ⟨⟩ => ?_
         refine sm rfl ?_
         iterate 2 refine se rfl rfl ?_
         iterate 2 refine sa rfl ?_
         refine nk hK50 ?_
         refine cx_region' ?_
         iterate 2 refine sm rfl ?_
         refine sx_cutn' 2 (fun (v11 : Bool) => (⟨165, [], [(1, (Vp q1)), (3, (Vi r15)), (8, (Vi r143.1)), (133, (Sl (Kl (Ki .i64)) a0_5)), (134, (Vi (a0_5.length : Int))), (135, (Vi x12)), (149, (Vb v11))], [(Ur q1 27 (C0 a0_0 a0_1 a0_2 a0_3 a0_4 a0_5 a0_6))]⟩ : St)) (fun (v11 : Bool) => spec_Good_j10 k rec1 r143 x12 v11 = some y1) ?_ ?_
         ·rintro x13 hp
          replace hp : spec_Good_j10 k rec1 r143 x12 x13 = some y1 := hp
          unfold spec_Good_j10 at hp
          refine sa rfl ?_
          refine nk hK47 ?_
          refine cx_region' ?_
          refine sb rfl rfl eg_int ru_add ?_
          refine sm rfl ?_
          refine sx_nil' ?_
          show TX E (KY1 _) _
          exact tk [0] (u7 rfl rfl rfl rfl rfl rfl rfl) (pc rfl pn) (ih1 (r143.1, x13, (iadd .i64 x12 1)) () _ hp)
         intro K51 hK51
         rcases br_cases hp with ⟨h21, hp⟩ | ⟨h21, hp⟩
         ·refine sx_rd' (rd_move' rfl) rfl rfl (wt_is' (wt_guard' rfl rfl rfl) (beq_tt h21)) ?_
          refine s0 (rd_pick_true' rfl h21 rfl) ?_
          refine sx_nil' ?_
          show TX E K51 _
          exact tk [0] (u7 rfl rfl rfl rfl rfl rfl rfl) (pc rfl pn) (hK51 r143.2 hp)
         refine sx_skip' rfl rfl (wt_is' (wt_guard' rfl rfl rfl) (beq_ft h21)) ?_
         refine s0 (rd_pick_false' rfl h21 rfl) ?_
         refine sx_nil' ?_
         show TX E K51 _
         exact tk [0] (u7 rfl rfl rfl rfl rfl rfl rfl) (pc rfl pn) (hK51 false hp)
        replace hp := (br_f h20).symm.trans hp
        refine cx_exit' ?_
        replace hp := sj hp
        subst hp
        show TX E (Zg E (Exit.exit 3) _ (Exit.exit 3)) _
        exact tx_zend' () rfl [0] (u3 rfl rfl rfl) (by decide) (pc rfl pn)
       refine zg_out fun w12 => ?_
       show TX E K37 _
       refine tx_k' hK37 ?_
       refine cr fun K52 hK52 => ?_
       iterate 2 refine sm rfl ?_
       refine sx_cutn' 6 (fun (v13 : Bool) => (⟨165, [], [(1, (Vp q1)), (158, (Vb v13))], [(Ur q1 27 (C0 a0_0 a0_1 a0_2 a0_3 a0_4 a0_5 a0_6))]⟩ : St)) (fun (v13 : Bool) => spec_Good_j11 k a0_4 v13 = some out) ?_ ?_
       ·rintro x16 hp
        replace hp : spec_Good_j11 k a0_4 x16 = some out := hp
        unfold spec_Good_j11 at hp
        refine sm rfl ?_
        refine sx_cutn' 5 (fun (v14 : Bool) => (⟨165, [], [(164, (Vb v14))], []⟩ : St)) (fun (v14 : Bool) => spec_Good_j12 k v14 = some out) ?_ ?_
        ·rintro x17 hp
         replace hp : spec_Good_j12 k x17 = some out := hp
         unfold spec_Good_j12 at hp
         refine sa rfl ?_
         refine nk hK52 ?_
         refine cx_retc' ?_
         replace hp := sj hp
         subst hp
         refine tk (L' := [(2, (Vb x17))]) (H' := []) [] (uc rfl un) pn ?_
         exact tx_ret1' Try.results27 rfl () (rv_tmp' rfl) lr
        intro K54 hK54
        rcases br_cases hp with ⟨h23, hp⟩ | ⟨h23, hp⟩
        ·refine sx_rd' (rd_field' (off := 4) rfl Try.underlying27 rfl info23 rfl) rfl rfl (wt_is' (wt_guard' rfl rfl rfl) (beq_tt h23)) ?_
         refine sx_rd' (rd_load' (i := 0) (o := 4) rfl (ar rfl rfl rfl rfl) rfl flat23) rfl rfl (wt_is' (wt_guard' rfl rfl rfl) (beq_tt h23)) ?_
         refine sx_rd' (rd_len' rfl Try.underlying23) rfl rfl (wt_is' (wt_guard' rfl rfl rfl) (beq_tt h23)) ?_
         refine sx_rd' (rd_bin' rfl rfl eg_int ru_eql) rfl rfl (wt_is' (wt_guard' rfl rfl rfl) (beq_tt h23)) ?_
         refine s0 (rd_pick_true' rfl h23 rfl) ?_
         refine sx_nil' ?_
         show TX E K54 _
         exact tk [] (uc rfl un) pn (hK54 (decide ((a0_4.length : Int) = 0)) hp)
        iterate 4 refine sx_skip' rfl rfl (wt_is' (wt_guard' rfl rfl rfl) (beq_ft h23)) ?_
        refine s0 (rd_pick_false' rfl h23 rfl) ?_
        refine sx_nil' ?_
        show TX E K54 _
        exact tk [] (uc rfl un) pn (hK54 false hp)
       intro K53 hK53
       rcases br_cases hp with ⟨h22, hp⟩ | ⟨h22, hp⟩
       ·refine sx_rd' (rd_move' rfl) rfl rfl (wt_is' (wt_guard' rfl rfl rfl) (beq_tt h22)) ?_
        refine sx_rd' (rd_field' (off := 3) rfl Try.underlying27 rfl info22 rfl) rfl rfl (wt_is' (wt_guard' rfl rfl rfl) (beq_tt h22)) ?_
        refine sx_rd' (rd_load' (i := 0) (o := 3) rfl (ar rfl rfl rfl rfl) rfl flat22) rfl rfl (wt_is' (wt_guard' rfl rfl rfl) (beq_tt h22)) ?_
        refine sx_rd' (rd_len' rfl Try.underlying22) rfl rfl (wt_is' (wt_guard' rfl rfl rfl) (beq_tt h22)) ?_
        refine sx_rd' (rd_bin' rfl rfl eg_int ru_eql) rfl rfl (wt_is' (wt_guard' rfl rfl rfl) (beq_tt h22)) ?_
        refine s0 (rd_pick_true' rfl h22 rfl) ?_
        refine sx_nil' ?_
        show TX E K53 _
        exact tk [0] (u2 rfl rfl) (pc rfl pn) (hK53 (decide (v12.1 = (a0_3.length : Int))) hp)
       iterate 5 refine sx_skip' rfl rfl (wt_is' (wt_guard' rfl rfl rfl) (beq_ft h22)) ?_
       refine s0 (rd_pick_false' rfl h22 rfl) ?_
       refine sx_nil' ?_
       show TX E K53 _
       exact tk [0] (u2 rfl rfl) (pc rfl pn) (hK53 false hp)
      replace hp := (br_f h17).symm.trans hp
      refine cx_skip' ?_
      show TX E K21 _
      refine tx_k' hK21 ?_
      refine cr fun K55 hK55 => ?_
      refine sa rfl ?_
      refine nk hK55 ?_
      refine cx_retc' ?_
      replace hp := sj hp
      subst hp
      refine tk (L' := [(2, (Vb false))]) (H' := []) [] (uc rfl un) pn ?_
      exact tx_ret1' Try.results27 rfl () (rv_tmp' rfl) lr
     intro K29 hK29
     refine cr fun K30 hK30 => ?_
     refine sb rfl rfl eg_int ru_eql ?_
     refine sa rfl ?_
     refine nk hK30 ?_
     refine cx_cond' rfl (fun h13 => ?_) (fun h13 => ?_)
     ·replace hp := (br_t h13).symm.trans hp
      refine cx_skip' ?_
      show TX E K29 _
      exact tk [0] (u4 rfl rfl rfl rfl) (pc rfl pn) (hK29 (decide (a0_0 = 3)) hp)
     replace hp := (br_f h13).symm.trans hp
     refine cr fun K31 hK31 => ?_
     refine sb rfl rfl eg_int ru_eql ?_
     refine sa rfl ?_
     refine nk hK31 ?_
     refine cx_cond' rfl (fun h14 => ?_) (fun h14 => ?_)
     ·replace hp := (br_t h14).symm.trans hp
      refine cx_skip' ?_
      show TX E K29 _
      exact tk [0] (u4 rfl rfl rfl rfl) (pc rfl pn) (hK29 (decide (a0_0 = 4)) hp)
     replace hp := (br_f h14).symm.trans hp
     refine cx_region' ?_
     refine sb rfl rfl eg_int ru_eql ?_
     refine sa rfl ?_
     refine sx_nil' ?_
     show TX E K29 _
     exact tk [0] (u4 rfl rfl rfl rfl) (pc rfl pn) (hK29 (decide (a0_0 = 5)) hp)
    intro K26 hK26
    refine cr fun K27 hK27 => ?_
    refine sb rfl rfl eg_int ru_eql ?_
    refine sa rfl ?_
    refine nk hK27 ?_
    refine cx_cond' rfl (fun h11 => ?_) (fun h11 => ?_)
    ·replace hp := (br_t h11).symm.trans hp
     refine cx_skip' ?_
     show TX E K26 _
     exact tk [0] (u4 rfl rfl rfl rfl) (pc rfl pn) (hK26 (decide (a0_0 = 2)) hp)
    replace hp := (br_f h11).symm.trans hp
    refine cx_region' ?_
    refine sb rfl rfl eg_int ru_eql ?_
    refine sa rfl ?_
    refine sx_nil' ?_
    show TX E K26 _
    exact tk [0] (u4 rfl rfl rfl rfl) (pc rfl pn) (hK26 (decide (a0_0 = 8)) hp)
   intro K19 hK19
   rcases br_cases hp with ⟨h6, hp⟩ | ⟨h6, hp⟩
   ·refine sx_skip' rfl rfl (wt_is' (wt_guard' rfl rfl rfl) (beq_tf h6)) ?_
    iterate 4 refine sx_skip' rfl rfl (wt_is' (wt_guard' rfl rfl rfl) (beq_tf h6)) ?_
    iterate 3 refine sx_skip' rfl rfl (wt_undef' rfl rfl rfl) ?_
    refine sx_skip' rfl rfl (wt_is' (wt_guard' rfl rfl rfl) (beq_tf h6)) ?_
    refine s0 (rd_pick_true' rfl h6 rfl) ?_
    refine sx_nil' ?_
    show TX E K19 _
    exact tk [0] (u3 rfl rfl rfl) (pc rfl pn) (hK19 true hp)
   refine sx_rd' (rd_field' (off := 5) rfl Try.underlying27 rfl info24 rfl) rfl rfl (wt_is' (wt_guard' rfl rfl rfl) (beq_ff h6)) ?_
   refine sx_rd' (rd_load' (i := 0) (o := 5) rfl (ar rfl rfl rfl rfl) rfl flat24) rfl rfl (wt_is' (wt_guard' rfl rfl rfl) (beq_ff h6)) ?_
   refine sx_rd' (rd_len' rfl Try.underlying24) rfl rfl (wt_is' (wt_guard' rfl rfl rfl) (beq_ff h6)) ?_
   refine sx_rd' (rd_bin' rfl rfl eg_int ru_gtr) rfl rfl (wt_is' (wt_guard' rfl rfl rfl) (beq_ff h6)) ?_
   refine sx_rd' (rd_move' rfl) rfl rfl (wt_is' (wt_guard' rfl rfl rfl) (beq_ff h6)) ?_
   refine sx_cutn' 5 (fun (v4 : Bool) => (⟨165, [], [(1, (Vp q1)), (3, (Vi r15)), (85, (Vb v4))], [(Ur q1 27 (C0 a0_0 a0_1 a0_2 a0_3 a0_4 a0_5 a0_6))]⟩ : St)) (fun (v4 : Bool) => spec_Good_j4 k a0_0 a0_4 a0_3 r15 a0_5 v4 = some out) ?_ ?_
   ·rintro x4 hp
    replace hp : spec_Good_j4 k a0_0 a0_4 a0_3 r15 a0_5 x4 = some out := hp
    unfold spec_Good_j4 at hp
    refine sx_nil' ?_
    show TX E K19 _
    exact tk [0] (u3 rfl rfl rfl) (pc rfl pn) (hK19 x4 hp)
   intro K18 hK18
   rcases br_cases hp with ⟨h7, hp⟩ | ⟨h7, hp⟩
   ·refine sx_rd' (rd_field0' rfl Try.underlying27 rfl info3 rfl) rfl rfl (wt_is' (wt_guard' rfl rfl rfl) (beq_tt h7)) ?_
    refine sx_rd' (rd_load' (i := 0) (o := 0) rfl (ar rfl rfl rfl rfl) rfl flat3) rfl rfl (wt_is' (wt_guard' rfl rfl rfl) (beq_tt h7)) ?_
    refine sx_rd' (rd_bin' rfl rfl eg_int ru_neq) rfl rfl (wt_is' (wt_guard' rfl rfl rfl) (beq_tt h7)) ?_
    refine sx_rd' (rd_pick_true' rfl h7 rfl) rfl rfl (wt_is' (wt_guard' rfl rfl rfl) (beq_ff h6)) ?_
    refine s0 (rd_pick_false' rfl h6 rfl) ?_
    refine sx_nil' ?_
    show TX E K18 _
    exact tk [0] (u3 rfl rfl rfl) (pc rfl pn) (hK18 (!decide (a0_0 = 6)) hp)
   iterate 3 refine sx_skip' rfl rfl (wt_is' (wt_guard' rfl rfl rfl) (beq_ft h7)) ?_
   refine sx_rd' (rd_pick_false' rfl h7 rfl) rfl rfl (wt_is' (wt_guard' rfl rfl rfl) (beq_ff h6)) ?_
   refine s0 (rd_pick_false' rfl h6 rfl) ?_
   refine sx_nil' ?_
   show TX E K18 _
   exact tk [0] (u3 rfl rfl rfl) (pc rfl pn) (hK18 false hp)
  intro K17 hK17
  rcases br_cases hp with ⟨h5, hp⟩ | ⟨h5, hp⟩
  ·refine sx_skip' rfl rfl (wt_is' (wt_guard' rfl rfl rfl) (beq_tf h5)) ?_
   iterate 3 refine sx_skip' rfl rfl (wt_is' (wt_guard' rfl rfl rfl) (beq_tf h5)) ?_
   refine s0 (rd_pick_true' rfl h5 rfl) ?_
   refine sx_nil' ?_
   show TX E K17 _
   exact tk [0] (u3 rfl rfl rfl) (pc rfl pn) (hK17 true hp)
  refine sx_rd' (rd_field' (off := 6) rfl Try.underlying27 rfl info25 rfl) rfl rfl (wt_is' (wt_guard' rfl rfl rfl) (beq_ff h5)) ?_
  refine sx_rd' (rd_load' (i := 0) (o := 6) rfl (ar rfl rfl rfl rfl) rfl flat25) rfl rfl (wt_is' (wt_guard' rfl rfl rfl) (beq_ff h5)) ?_
  refine sx_rd' (rd_len' rfl Try.underlying25) rfl rfl (wt_is' (wt_guard' rfl rfl rfl) (beq_ff h5)) ?_
  refine sx_rd' (rd_bin' rfl rfl eg_int ru_gtr) rfl rfl (wt_is' (wt_guard' rfl rfl rfl) (beq_ff h5)) ?_
  refine s0 (rd_pick_false' rfl h5 rfl) ?_
  refine sx_nil' ?_
  show TX E K17 _
  exact tk [0] (u3 rfl rfl rfl) (pc rfl pn) (hK17 (decide (0 < (a0_6.length : Int))) hp)
 intro K16 hK16
 rcases br_cases hp with ⟨h4, hp⟩ | ⟨h4, hp⟩
 ·refine sx_skip' rfl rfl (wt_is' (wt_guard' rfl rfl rfl) (beq_tf h4)) ?_
  iterate 5 refine sx_skip' rfl rfl (wt_is' (wt_guard' rfl rfl rfl) (beq_tf h4)) ?_
  refine s0 (rd_pick_true' rfl h4 rfl) ?_
  refine sx_nil' ?_
  show TX E K16 _
  exact tk [0] (u3 rfl rfl rfl) (pc rfl pn) (hK16 true hp)
 refine sx_rd' (rd_field' (off := 3) rfl Try.underlying27 rfl info22 rfl) rfl rfl (wt_is' (wt_guard' rfl rfl rfl) (beq_ff h4)) ?_
 refine sx_rd' (rd_load' (i := 0) (o := 3) rfl (ar rfl rfl rfl rfl) rfl flat22) rfl rfl (wt_is' (wt_guard' rfl rfl rfl) (beq_ff h4)) ?_
 refine sx_rd' (rd_len' rfl Try.underlying22) rfl rfl (wt_is' (wt_guard' rfl rfl rfl) (beq_ff h4)) ?_
 refine sx_rd' (rd_move' rfl) rfl rfl (wt_is' (wt_guard' rfl rfl rfl) (beq_ff h4)) ?_
 obtain ⟨r66, hr66, hp⟩ := bind_some hp
 refine sx_rd' (rd_bin' rfl rfl eg_int (ru_rem hr66)) rfl rfl (wt_is' (wt_guard' rfl rfl rfl) (beq_ff h4)) ?_
 refine sx_rd' (rd_bin' rfl rfl eg_int ru_neq) rfl rfl (wt_is' (wt_guard' rfl rfl rfl) (beq_ff h4)) ?_
 refine s0 (rd_pick_false' rfl h4 rfl) ?_
 refine sx_nil' ?_
 show TX E K16 _
 exact tk [0] (u3 rfl rfl rfl) (pc rfl pn) (hK16 (!decide (r66 = 0)) hp)
theorem spec_Good_simA : ∀ (k : Nat)  (a0_0 a0_1 a0_2 : Int) (a0_3 : List Nat) (a0_4 : List Int) (a0_5 : List (List Int)) (a0_6 : List T27) (out : Bool), spec_Good k a0_0 a0_1 a0_2 a0_3 a0_4 a0_5 a0_6 = some out → Sx.Fn Try.prog 27 [(Ag (C0 a0_0 a0_1 a0_2 a0_3 a0_4 a0_5 a0_6))] [] (fun w : Unit => (Vb out)) (fun w => []) := by
 intro k
 induction k with
 | zero => intro a0_0 a0_1 a0_2 a0_3 a0_4 a0_5 a0_6 out hp; cases hp
 | succ k ih => intro a0_0 a0_1 a0_2 a0_3 a0_4 a0_5 a0_6 out hp; exact spec_Good_b_sim ih a0_0 a0_1 a0_2 a0_3 a0_4 a0_5 a0_6 hp
theorem spec_Good_sim {k : Nat}  (a0_0 a0_1 a0_2 : Int) (a0_3 : List Nat) (a0_4 : List Int) (a0_5 : List (List Int)) (a0_6 : List T27) {out : Bool} (hp : spec_Good k a0_0 a0_1 a0_2 a0_3 a0_4 a0_5 a0_6 = some out) : Sx.Fn Try.prog 27 [(Ag (C0 a0_0 a0_1 a0_2 a0_3 a0_4 a0_5 a0_6))] [] (fun w : Unit => (Vb out)) (fun w => []) := spec_Good_simA k a0_0 a0_1 a0_2 a0_3 a0_4 a0_5 a0_6 out hp

def laws_gGood_l1s (a0 : List T27) (k : Nat) (rec1 : Int → Option (Unit ⊕ Unit)) (x1 : Int) : Option (Unit ⊕ Unit) :=
 br (decide (x1 < (a0.length : Int)))
  ((idx a0 x1) >>= fun r12 =>
  (spec_Good k r12.f0 r12.f1 r12.f2 r12.f3 r12.f4 r12.f5 r12.f6) >>= fun r15 =>
  br (!r15)
   (some (.inl ()))
   (rec1 (iadd .i64 x1 1)))
  (some (.inr ()))
def laws_gGood_l1 (a0 : List T27) : Nat → Int → Option (Unit ⊕ Unit)
 | 0, _ => none
 | k + 1, v => laws_gGood_l1s a0 k (laws_gGood_l1 a0 k) v
def laws_gGood (k : Nat) (a0 : List T27) : Option (Bool) :=
 (laws_gSmall k a0) >>= fun r6 =>
 br (!r6)
  (some false)
  ((laws_gGood_l1 a0 k 0) >>= fun y1 => match y1 with
   | (.inl v2) =>
    (some false)
   | (.inr v3) =>
    (some true))

theorem laws_gGood_sim {k : Nat}  (a0 : List T27) {out : Bool} (hp : laws_gGood k a0 = some out) : Sx.Fn Try.prog 8 [(Sl KT27 a0)] [] (fun w : Unit => (Vb out)) (fun w => []) := by
 unfold laws_gGood at hp
 refine fn_of Try.func8 rfl Try.ntmps8 rfl fun E hM => ?_
 refine cr fun K1 hK1 => ?_
 refine sa rfl ?_
 refine nk hK1 ?_
 refine cx_seq' fun K2 hK2 => ?_
 refine cr fun K3 hK3 => ?_
 refine sm rfl ?_
 obtain ⟨r6, hr6, hp⟩ := bind_some hp
 refine so (oz (ent_fn' Try.func26 isn26 rfl rfl) (laws_gSmall_sim _ hr6)) fun ⟨⟩ => ?_
 refine s0 (rd_un' rfl ru_not) ?_
 refine nk hK3 ?_
 refine cx_cond' rfl (fun h1 => ?_) (fun h1 => ?_)
 ·replace hp := (br_t h1).symm.trans hp
  refine cr fun K4 hK4 => ?_
  refine sa rfl ?_
  refine nk hK4 ?_
  refine cx_retc' ?_
  replace hp := sj hp
  subst hp
  refine tk (L' := [(2, (Vb false))]) (H' := []) [] (uc rfl un) pn ?_
  exact tx_ret1' Try.results8 rfl () (rv_tmp' rfl) lr
 replace hp := (br_f h1).symm.trans hp
 refine cx_skip' ?_
 show TX E K2 _
 refine tx_k' hK2 ?_
 refine cx_seq' fun K5 hK5 => ?_
 refine cr fun K6 hK6 => ?_
 refine sm rfl ?_
 refine sk rfl Try.underlying25 ?_
 refine sm rfl ?_
 refine nk hK6 ?_
 refine cx_block' ?_
 obtain ⟨y1, hy1, hp⟩ := bind_some hp
 refine cx_loopg' (F := laws_gGood_l1 a0) (G := fun k R v => laws_gGood_l1s a0 k R v) (x := 0) (gh := ()) (fun (v1 : Int) (w1 : Unit) => (⟨18, [], [(8, (Sl KT27 a0)), (9, (Vi (a0.length : Int))), (10, (Vi v1))], []⟩ : St)) (fun (y : Unit ⊕ Unit) => match y with | (.inl v2) => Zg E Exit.ret (fun (w2 : Unit) => (⟨18, [], [(2, (Vb false))], []⟩ : St)) | (.inr v3) => Zg E (Exit.exit 0) (fun (w3 : Unit) => (⟨18, [], [], []⟩ : St))) (fun _ => rfl) (fun _ _ => rfl) ?_ hy1 (tx_to' rfl [] (u3 rfl rfl rfl) (by decide) pn) ?_
 ·clear hp hy1
  clear y1
  intro k rec1 KY1 ih1
  rintro x1 ⟨⟩ y1 hp
  replace hp : laws_gGood_l1s a0 k rec1 x1 = some y1 := hp
  unfold laws_gGood_l1s at hp
  refine cr fun K13 hK13 => ?_
  refine sb rfl rfl eg_int ru_lss ?_
  refine nk hK13 ?_
  refine cx_seq' fun K14 hK14 => ?_
  refine cx_cond' rfl (fun h5 => ?_) (fun h5 => ?_)
  ·replace hp := (br_t h5).symm.trans hp
   refine cx_skip' ?_
   show TX E K14 _
   refine tx_k' hK14 ?_
   refine cx_seq' fun K15 hK15 => ?_
   refine cx_block' ?_
   refine cr fun K16 hK16 => ?_
   obtain ⟨r12, hr12, hp⟩ := bind_some hp
   refine s0 (rd_eq' (congrArg Pt (KT27_enc r12)) (rd_at' (K := KT27) rfl rfl hr12 Try.underlying25 info27)) ?_
   refine s0 (rd_load_pt_agg' (nn := 7) rfl rfl agg27 (l' := (C0 r12.f0 r12.f1 r12.f2 r12.f3 r12.f4 r12.f5 r12.f6)) rfl) ?_
   refine so (ox_alloc' info27 rfl rfl rfl rfl (l := (C1 0 0 0)) rfl) fun q4 => ?_
   refine so (ox_store' (i := 0) (o := 0) rfl rfl (lv_ag _) (ar rfl rfl rfl rfl) rfl info27 rfl (H' := [(Ur q4 27 (C0 r12.f0 r12.f1 r12.f2 r12.f3 r12.f4 r12.f5 r12.f6))]) rfl) fun _ => ?_
   refine nk hK16 ?_
   refine cr fun K17 hK17 => ?_
   refine s0 (rd_load_agg' (i := 0) (o := 0) (nn := 7) rfl (ar rfl rfl rfl rfl) rfl agg27 (l' := (C0 r12.f0 r12.f1 r12.f2 r12.f3 r12.f4 r12.f5 r12.f6)) rfl) ?_
   obtain ⟨r15, hr15, hp⟩ := bind_some hp
   refine so (oz (ent_fn' Try.func27 isn27 rfl rfl) (spec_Good_sim _ _ _ _ _ _ _ hr15)) fun ⟨⟩ => ?_
   refine s0 (rd_un' rfl ru_not) ?_
   refine nk hK17 ?_
   refine cx_cond' rfl (fun h6 => ?_) (fun h6 => ?_)
   ·replace hp := (br_t h6).symm.trans hp
    refine cr fun K18 hK18 => ?_
    refine sa rfl ?_
    refine nk hK18 ?_
    refine cx_retc' ?_
    replace hp := sj hp
    subst hp
    show TX E (Zg E Exit.ret _ Exit.ret) _
    exact tx_zend' () rfl [] (uc rfl un) (by decide) pn
   replace hp := (br_f h6).symm.trans hp
   refine cx_skip' ?_
   show TX E K15 _
   refine tx_k' hK15 ?_
   refine cx_region' ?_
   refine sb rfl rfl eg_int ru_add ?_
   refine sm rfl ?_
   refine sx_nil' ?_
   show TX E (KY1 _) _
   exact tk [] (u3 rfl rfl rfl) pn (ih1 (iadd .i64 x1 1) () _ hp)
  replace hp := (br_f h5).symm.trans hp
  refine cx_exit' ?_
  replace hp := sj hp
  subst hp
  show TX E (Zg E (Exit.exit 0) _ (Exit.exit 0)) _
  exact tx_zend' () rfl [] un (by decide) pn
 rcases y1 with v2 | v3
 ·dsimp only at hp
  refine zg_out fun w2 => ?_
  replace hp := sj hp
  subst hp
  refine tk (L' := [(2, (Vb false))]) (H' := []) [] (uc rfl un) pn ?_
  exact tx_ret1' Try.results8 rfl () (rv_tmp' rfl) lr
 dsimp only at hp
 refine zg_out fun w3 => ?_
 show TX E K5 _
 refine tx_k' hK5 ?_
 refine cr fun K19 hK19 => ?_
 refine sa rfl ?_
 refine nk hK19 ?_
 refine cx_retc' ?_
 replace hp := sj hp
 subst hp
 refine tk (L' := [(2, (Vb true))]) (H' := []) [] (uc rfl un) pn ?_
 exact tx_ret1' Try.results8 rfl () (rv_tmp' rfl) lr

def laws_gHasParts_j2 (k : Nat) (x2 : Bool) : Option (Bool) :=
 some x2
def laws_gHasParts_j1 (k : Nat) (x1 : Bool) : Option (Bool) :=
 laws_gHasParts_j2 k x1
def laws_gHasParts (k : Nat) (a0_0 a0_1 a0_2 : Int) (a0_3 : List Nat) (a0_4 : List Int) (a0_5 : List (List Int)) (a0_6 : List T27) : Option (Bool) :=
 (laws_gGood k ([(T27.mk a0_0 a0_1 a0_2 a0_3 a0_4 a0_5 a0_6)])) >>= fun r5 =>
 br r5
  (br (decide (3 ≤ a0_0))
   (laws_gHasParts_j1 k (decide (a0_0 ≤ 7)))
   (laws_gHasParts_j1 k false))
  (laws_gHasParts_j2 k false)

theorem laws_gHasParts_sim {k : Nat}  (a0_0 a0_1 a0_2 : Int) (a0_3 : List Nat) (a0_4 : List Int) (a0_5 : List (List Int)) (a0_6 : List T27) {out : Bool} (hp : laws_gHasParts k a0_0 a0_1 a0_2 a0_3 a0_4 a0_5 a0_6 = some out) : Sx.Fn Try.prog 14 [(Ag (C0 a0_0 a0_1 a0_2 a0_3 a0_4 a0_5 a0_6))] [] (fun w : Unit => (Vb out)) (fun w => []) := by
 unfold laws_gHasParts at hp
 refine fn_of Try.func14 rfl Try.ntmps14 rfl fun E hM => ?_
 refine cr fun K1 hK1 => ?_
 refine so (ox_box' rfl (lv_ag _) rfl rfl) fun q1 => ?_
 refine sa rfl ?_
 refine nk hK1 ?_
 refine cr fun K2 hK2 => ?_
 refine s0 (rd_load_agg' (i := 0) (o := 0) (nn := 7) rfl (ar rfl rfl rfl rfl) rfl agg27 (l' := (C0 a0_0 a0_1 a0_2 a0_3 a0_4 a0_5 a0_6)) rfl) ?_
 refine so (ox_rowlit' (K := KT27) (xs := [(T27.mk a0_0 a0_1 a0_2 a0_3 a0_4 a0_5 a0_6)]) (qs := [(0, (C0 a0_0 a0_1 a0_2 a0_3 a0_4 a0_5 a0_6))]) ⟨rfl, ⟨_, rfl, (lv_ag _)⟩, trivial⟩ Try.underlying25 info27 rfl rfl rfl rfl rfl (by simp only [List.flatMap_cons, List.flatMap_nil, KT27_enc, List.append_nil]; kernel_rfl) rfl rfl rfl) fun g4 => ?_
 obtain ⟨r5, hr5, hp⟩ := bind_some hp
 refine so (ox_brw' (frz_row 0 [(4, (Vw g4), (Sl KT27 ([(T27.mk a0_0 a0_1 a0_2 a0_3 a0_4 a0_5 a0_6)])))] (K := KT27) (xs := [(T27.mk a0_0 a0_1 a0_2 a0_3 a0_4 a0_5 a0_6)]) (by decide) rfl ⟨⟨rfl, frz_it⟩, trivial⟩ (H' := [(Ur q1 27 (C0 a0_0 a0_1 a0_2 a0_3 a0_4 a0_5 a0_6))]) frzH_refl) (ent_fn' Try.func8 isn8 rfl rfl) (laws_gGood_sim _ hr5 : Sx.Fn Try.prog 8 [(Sl KT27 ([(T27.mk a0_0 a0_1 a0_2 a0_3 a0_4 a0_5 a0_6)]))] [] (fun x : Unit => (Vb r5)) (fun x => [])) pu_vl rfl rfl) fun ⟨⟩ => ?_
 refine sm rfl ?_
 refine sx_cutn' 9 (fun (v2 : Bool) => (⟨16, [], [(15, (Vb v2))], []⟩ : St)) (fun (v2 : Bool) => laws_gHasParts_j2 k v2 = some out) ?_ ?_
 ·rintro x2 hp
  replace hp : laws_gHasParts_j2 k x2 = some out := hp
  unfold laws_gHasParts_j2 at hp
  refine sa rfl ?_
  refine nk hK2 ?_
  refine cx_retc' ?_
  replace hp := sj hp
  subst hp
  refine tk (L' := [(2, (Vb x2))]) (H' := []) [] (uc rfl un) pn ?_
  exact tx_ret1' Try.results14 rfl () (rv_tmp' rfl) lr
 intro K4 hK4
 rcases br_cases hp with ⟨h1, hp⟩ | ⟨h1, hp⟩
 ·refine sx_rd' (rd_field0' rfl Try.underlying27 rfl info3 rfl) rfl rfl (wt_is' (wt_guard' rfl rfl rfl) (beq_tt h1)) ?_
  refine sx_rd' (rd_load' (i := 1) (o := 0) rfl (ar rfl rfl rfl rfl) rfl flat3) rfl rfl (wt_is' (wt_guard' rfl rfl rfl) (beq_tt h1)) ?_
  refine sx_rd' (rd_bin' rfl rfl eg_int ru_geq) rfl rfl (wt_is' (wt_guard' rfl rfl rfl) (beq_tt h1)) ?_
  refine sx_rd' (rd_move' rfl) rfl rfl (wt_is' (wt_guard' rfl rfl rfl) (beq_tt h1)) ?_
  refine sx_cutn' 5 (fun (v1 : Bool) => (⟨16, [], [(15, (Vb v1))], []⟩ : St)) (fun (v1 : Bool) => laws_gHasParts_j1 k v1 = some out) ?_ ?_
  ·rintro x1 hp
   replace hp : laws_gHasParts_j1 k x1 = some out := hp
   unfold laws_gHasParts_j1 at hp
   refine sx_nil' ?_
   show TX E K4 _
   exact tk [] (uc rfl un) pn (hK4 x1 hp)
  intro K3 hK3
  rcases br_cases hp with ⟨h2, hp⟩ | ⟨h2, hp⟩
  ·refine sx_rd' (rd_field0' rfl Try.underlying27 rfl info3 rfl) rfl rfl (wt_is' (wt_guard' rfl rfl rfl) (beq_tt h2)) ?_
   refine sx_rd' (rd_load' (i := 1) (o := 0) rfl (ar rfl rfl rfl rfl) rfl flat3) rfl rfl (wt_is' (wt_guard' rfl rfl rfl) (beq_tt h2)) ?_
   refine sx_rd' (rd_bin' rfl rfl eg_int ru_leq) rfl rfl (wt_is' (wt_guard' rfl rfl rfl) (beq_tt h2)) ?_
   refine sx_rd' (rd_pick_true' rfl h2 rfl) rfl rfl (wt_is' (wt_guard' rfl rfl rfl) (beq_tt h1)) ?_
   refine s0 (rd_pick_true' rfl h1 rfl) ?_
   refine sx_nil' ?_
   show TX E K3 _
   exact tk [] (uc rfl un) pn (hK3 (decide (a0_0 ≤ 7)) hp)
  iterate 3 refine sx_skip' rfl rfl (wt_is' (wt_guard' rfl rfl rfl) (beq_ft h2)) ?_
  refine sx_rd' (rd_pick_false' rfl h2 rfl) rfl rfl (wt_is' (wt_guard' rfl rfl rfl) (beq_tt h1)) ?_
  refine s0 (rd_pick_true' rfl h1 rfl) ?_
  refine sx_nil' ?_
  show TX E K3 _
  exact tk [] (uc rfl un) pn (hK3 false hp)
 iterate 4 refine sx_skip' rfl rfl (wt_is' (wt_guard' rfl rfl rfl) (beq_ft h1)) ?_
 iterate 3 refine sx_skip' rfl rfl (wt_undef' rfl rfl rfl) ?_
 refine sx_skip' rfl rfl (wt_is' (wt_guard' rfl rfl rfl) (beq_ft h1)) ?_
 refine s0 (rd_pick_false' rfl h1 rfl) ?_
 refine sx_nil' ?_
 show TX E K4 _
 exact tk [] (uc rfl un) pn (hK4 false hp)

def spec_KidOf_j1 (k : Nat) (a0 : Int) (x1 : Bool) : Option (Int) :=
 br x1
  (some (isub .i64 a0 3))
  (some 0)
def spec_KidOf (k : Nat) (a0 : Int) : Option (Int) :=
 br (decide (4 ≤ a0))
  (spec_KidOf_j1 k a0 (decide (a0 ≤ 6)))
  (spec_KidOf_j1 k a0 false)

theorem spec_KidOf_sim {k : Nat}  (a0 : Int) {out : Int} (hp : spec_KidOf k a0 = some out) : Sx.Fn Try.prog 37 [(Vi a0)] [] (fun w : Unit => (Vi out)) (fun w => []) := by
 unfold spec_KidOf at hp
 refine fn_of Try.func37 rfl Try.ntmps37 rfl fun E hM => ?_
 refine cr fun K1 hK1 => ?_
 refine sa rfl ?_
 refine nk hK1 ?_
 refine cx_seq' fun K2 hK2 => ?_
 refine cr fun K3 hK3 => ?_
 refine sm rfl ?_
 refine sb rfl rfl eg_int ru_geq ?_
 refine sm rfl ?_
 refine sx_cutn' 3 (fun (v1 : Bool) => (⟨11, [], [(0, (Vi a0)), (8, (Vb v1))], []⟩ : St)) (fun (v1 : Bool) => spec_KidOf_j1 k a0 v1 = some out) ?_ ?_
 ·rintro x1 hp
  replace hp : spec_KidOf_j1 k a0 x1 = some out := hp
  unfold spec_KidOf_j1 at hp
  refine nk hK3 ?_
  refine cx_cond' rfl (fun h2 => ?_) (fun h2 => ?_)
  ·replace hp := (br_t h2).symm.trans hp
   refine cr fun K5 hK5 => ?_
   refine sm rfl ?_
   refine sb rfl rfl eg_int ru_sub ?_
   refine sa rfl ?_
   refine nk hK5 ?_
   refine cx_retc' ?_
   replace hp := sj hp
   subst hp
   refine tk (L' := [(2, (Vi (isub .i64 a0 3)))]) (H' := []) [] (uc rfl un) pn ?_
   exact tx_ret1' Try.results37 rfl () (rv_tmp' rfl) lr
  replace hp := (br_f h2).symm.trans hp
  refine cx_skip' ?_
  show TX E K2 _
  refine tx_k' hK2 ?_
  refine cr fun K6 hK6 => ?_
  refine sa rfl ?_
  refine nk hK6 ?_
  refine cx_retc' ?_
  replace hp := sj hp
  subst hp
  refine tk (L' := [(2, (Vi 0))]) (H' := []) [] (uc rfl un) pn ?_
  exact tx_ret1' Try.results37 rfl () (rv_tmp' rfl) lr
 intro K4 hK4
 rcases br_cases hp with ⟨h1, hp⟩ | ⟨h1, hp⟩
 ·refine sx_rd' (rd_move' rfl) rfl rfl (wt_is' (wt_guard' rfl rfl rfl) (beq_tt h1)) ?_
  refine sx_rd' (rd_bin' rfl rfl eg_int ru_leq) rfl rfl (wt_is' (wt_guard' rfl rfl rfl) (beq_tt h1)) ?_
  refine s0 (rd_pick_true' rfl h1 rfl) ?_
  refine sx_nil' ?_
  show TX E K4 _
  exact tk [] (u2 rfl rfl) pn (hK4 (decide (a0 ≤ 6)) hp)
 iterate 2 refine sx_skip' rfl rfl (wt_is' (wt_guard' rfl rfl rfl) (beq_ft h1)) ?_
 refine s0 (rd_pick_false' rfl h1 rfl) ?_
 refine sx_nil' ?_
 show TX E K4 _
 exact tk [] (u2 rfl rfl) pn (hK4 false hp)

def laws_gPartOf_j1 (k : Nat) (x1 : Bool) : Option (Bool) :=
 some x1
def laws_gPartOf (k : Nat) (a0_0 a0_1 a0_2 : Int) (a0_3 : List Nat) (a0_4 : List Int) (a0_5 : List (List Int)) (a0_6 : List T27) (a1_0 a1_1 a1_2 : Int) (a1_3 : List Nat) (a1_4 : List Int) (a1_5 : List (List Int)) (a1_6 : List T27) : Option (Bool) :=
 br (decide (a0_0 = 3))
  (some (decide (a1_0 = 8)))
  (br (decide (a0_0 = 7))
   (laws_gPartOf_j1 k true)
   ((spec_KidOf k a0_0) >>= fun r19 =>
   laws_gPartOf_j1 k (decide (a1_0 = r19))))

theorem laws_gPartOf_sim {k : Nat}  (a0_0 a0_1 a0_2 : Int) (a0_3 : List Nat) (a0_4 : List Int) (a0_5 : List (List Int)) (a0_6 : List T27) (a1_0 a1_1 a1_2 : Int) (a1_3 : List Nat) (a1_4 : List Int) (a1_5 : List (List Int)) (a1_6 : List T27) {out : Bool} (hp : laws_gPartOf k a0_0 a0_1 a0_2 a0_3 a0_4 a0_5 a0_6 a1_0 a1_1 a1_2 a1_3 a1_4 a1_5 a1_6 = some out) : Sx.Fn Try.prog 15 [(Ag (C0 a0_0 a0_1 a0_2 a0_3 a0_4 a0_5 a0_6)), (Ag (C0 a1_0 a1_1 a1_2 a1_3 a1_4 a1_5 a1_6))] [] (fun w : Unit => (Vb out)) (fun w => []) := by
 unfold laws_gPartOf at hp
 refine fn_of Try.func15 rfl Try.ntmps15 rfl fun E hM => ?_
 refine cr fun K1 hK1 => ?_
 refine so (ox_box' rfl (lv_ag _) rfl rfl) fun q2 => ?_
 refine so (ox_box' rfl (lv_ag _) rfl rfl) fun q3 => ?_
 refine sa rfl ?_
 refine nk hK1 ?_
 refine cx_seq' fun K2 hK2 => ?_
 refine cr fun K3 hK3 => ?_
 refine sf rfl Try.underlying27 rfl info3 rfl ?_
 refine sl (i := 1) (o := 0) rfl (ar rfl rfl rfl rfl) rfl flat3 ?_
 refine sb rfl rfl eg_int ru_eql ?_
 refine nk hK3 ?_
 refine cx_cond' rfl (fun h1 => ?_) (fun h1 => ?_)
 ·replace hp := (br_t h1).symm.trans hp
  refine cr fun K4 hK4 => ?_
  refine sf rfl Try.underlying27 rfl info3 rfl ?_
  refine sl (i := 0) (o := 0) rfl (ar rfl rfl rfl rfl) rfl flat3 ?_
  refine sb rfl rfl eg_int ru_eql ?_
  refine sa rfl ?_
  refine nk hK4 ?_
  refine cx_retc' ?_
  replace hp := sj hp
  subst hp
  refine tk (L' := [(4, (Vb (decide (a1_0 = 8))))]) (H' := []) [] (uc rfl un) pn ?_
  exact tx_ret1' Try.results15 rfl () (rv_tmp' rfl) lr
 replace hp := (br_f h1).symm.trans hp
 refine cx_skip' ?_
 show TX E K2 _
 refine tx_k' hK2 ?_
 refine cx_seq' fun K5 hK5 => ?_
 refine cx_plan' [] [] [(0, 1), (1, 1), (2, 1), (3, 1), (4, 1), (5, 1), (6, 1), (7, 1), (8, 0), (9, 1), (10, 1), (11, 1)] mixed (by kernel_rfl) ?_
 refine pd rfl (rd_field0' rfl Try.underlying27 rfl info3 rfl) ?_
 refine pd rfl (rd_load' (i := 1) (o := 0) rfl (ar rfl rfl rfl rfl) rfl flat3) ?_
 refine pd rfl (rd_bin' rfl rfl eg_int ru_eql) ?_
 refine pd rfl (rd_move' rfl) ?_
 refine px_cutn' 7 (fun (v1 : Bool) => (⟨22, [], [(21, (Vb v1))], []⟩ : St)) (fun (v1 : Bool) => laws_gPartOf_j1 k v1 = some out) ?_ ?_
 ·rintro x1 hp
  replace hp : laws_gPartOf_j1 k x1 = some out := hp
  unfold laws_gPartOf_j1 at hp
  refine pd rfl (rd_assign' rfl) ?_
  refine px_nil' ?_
  show TX E K5 _
  refine tx_k' hK5 ?_
  refine cx_retc' ?_
  replace hp := sj hp
  subst hp
  refine tk (L' := [(4, (Vb x1))]) (H' := []) [] (uc rfl un) pn ?_
  exact tx_ret1' Try.results15 rfl () (rv_tmp' rfl) lr
 intro K6 hK6
 rcases br_cases hp with ⟨h2, hp⟩ | ⟨h2, hp⟩
 ·refine px_skip' rfl rfl rfl (wt_is' (wt_guard' rfl rfl rfl) (beq_tf h2)) ?_
  iterate 3 refine px_skip' rfl rfl rfl (wt_is' (wt_guard' rfl rfl rfl) (beq_tf h2)) ?_
  refine px_oskip' rfl rfl rfl (wt_is' (wt_guard' rfl rfl rfl) (beq_tf h2)) ?_
  refine px_skip' rfl rfl rfl (wt_is' (wt_guard' rfl rfl rfl) (beq_tf h2)) ?_
  refine pd rfl (rd_pick_true' rfl h2 rfl) ?_
  refine px_nil' ?_
  show TX E K6 _
  exact tk [] (uc rfl un) pn (hK6 true hp)
 refine px_rd' rfl (rd_field0' rfl Try.underlying27 rfl info3 rfl) rfl rfl (wt_is' (wt_guard' rfl rfl rfl) (beq_ff h2)) ?_
 refine px_rd' rfl (rd_load' (i := 0) (o := 0) rfl (ar rfl rfl rfl rfl) rfl flat3) rfl rfl (wt_is' (wt_guard' rfl rfl rfl) (beq_ff h2)) ?_
 refine px_rd' rfl (rd_field0' rfl Try.underlying27 rfl info3 rfl) rfl rfl (wt_is' (wt_guard' rfl rfl rfl) (beq_ff h2)) ?_
 refine px_rd' rfl (rd_load' (i := 1) (o := 0) rfl (ar rfl rfl rfl rfl) rfl flat3) rfl rfl (wt_is' (wt_guard' rfl rfl rfl) (beq_ff h2)) ?_
 obtain ⟨r19, hr19, hp⟩ := bind_some hp
 refine px_ox' rfl (oz (ent_fn' Try.func37 isn37 rfl rfl) (spec_KidOf_sim _ hr19)) rfl bs_nil (wt_is' (wt_guard' rfl rfl rfl) (beq_ff h2)) fun ⟨⟩ => ?_
 refine px_rd' rfl (rd_bin' rfl rfl eg_int ru_eql) rfl rfl (wt_is' (wt_guard' rfl rfl rfl) (beq_ff h2)) ?_
 refine pd rfl (rd_pick_false' rfl h2 rfl) ?_
 refine px_nil' ?_
 show TX E K6 _
 exact tk [] (uc rfl un) pn (hK6 (decide (a1_0 = r19)) hp)

def spec_NumParts_j1 (k : Nat) (a0_4 : List Int) (a0_0 : Int) (a0_5 : List (List Int)) (a0_6 : List T27) (x1 : Bool) : Option (Int) :=
 br x1
  (some (a0_4.length : Int))
  (br (decide (a0_0 = 6))
   (some (a0_5.length : Int))
   (some (a0_6.length : Int)))
def spec_NumParts (k : Nat) (a0_0 a0_1 a0_2 : Int) (a0_3 : List Nat) (a0_4 : List Int) (a0_5 : List (List Int)) (a0_6 : List T27) : Option (Int) :=
 br (decide (a0_0 = 3))
  (spec_NumParts_j1 k a0_4 a0_0 a0_5 a0_6 (decide (a0_0 = 3)))
  (br (decide (a0_0 = 4))
   (spec_NumParts_j1 k a0_4 a0_0 a0_5 a0_6 (decide (a0_0 = 4)))
   (spec_NumParts_j1 k a0_4 a0_0 a0_5 a0_6 (decide (a0_0 = 5))))

theorem spec_NumParts_sim {k : Nat}  (a0_0 a0_1 a0_2 : Int) (a0_3 : List Nat) (a0_4 : List Int) (a0_5 : List (List Int)) (a0_6 : List T27) {out : Int} (hp : spec_NumParts k a0_0 a0_1 a0_2 a0_3 a0_4 a0_5 a0_6 = some out) : Sx.Fn Try.prog 39 [(Ag (C0 a0_0 a0_1 a0_2 a0_3 a0_4 a0_5 a0_6))] [] (fun w : Unit => (Vi out)) (fun w => []) := by
 unfold spec_NumParts at hp
 refine fn_of Try.func39 rfl Try.ntmps39 rfl fun E hM => ?_
 refine cr fun K1 hK1 => ?_
 refine so (ox_box' rfl (lv_ag _) rfl rfl) fun q1 => ?_
 refine sa rfl ?_
 refine nk hK1 ?_
 refine cx_seq' fun K2 hK2 => ?_
 refine cr fun K3 hK3 => ?_
 refine sf rfl Try.underlying27 rfl info3 rfl ?_
 refine sl (i := 0) (o := 0) rfl (ar rfl rfl rfl rfl) rfl flat3 ?_
 refine nk hK3 ?_
 refine cx_block' ?_
 refine cx_join' (fun (v1 : Bool) => (⟨20, [], [(1, (Vp q1)), (4, (Vi a0_0)), (5, (Vb v1))], [(Ur q1 27 (C0 a0_0 a0_1 a0_2 a0_3 a0_4 a0_5 a0_6))]⟩ : St)) (fun (v1 : Bool) => spec_NumParts_j1 k a0_4 a0_0 a0_5 a0_6 v1 = some out) ?_ ?_
 ·rintro x1 hp
  replace hp : spec_NumParts_j1 k a0_4 a0_0 a0_5 a0_6 x1 = some out := hp
  unfold spec_NumParts_j1 at hp
  refine cx_cond' rfl (fun h3 => ?_) (fun h3 => ?_)
  ·replace hp := (br_t h3).symm.trans hp
   refine cr fun K7 hK7 => ?_
   refine sg (off := 4) rfl Try.underlying27 rfl info23 rfl ?_
   refine sl (i := 0) (o := 4) rfl (ar rfl rfl rfl rfl) rfl flat23 ?_
   refine sk rfl Try.underlying23 ?_
   refine sa rfl ?_
   refine nk hK7 ?_
   refine cx_retc' ?_
   replace hp := sj hp
   subst hp
   refine tk (L' := [(2, (Vi (a0_4.length : Int)))]) (H' := []) [] (uc rfl un) pn ?_
   exact tx_ret1' Try.results39 rfl () (rv_tmp' rfl) lr
  replace hp := (br_f h3).symm.trans hp
  refine cr fun K8 hK8 => ?_
  refine sb rfl rfl eg_int ru_eql ?_
  refine sa rfl ?_
  refine nk hK8 ?_
  refine cx_cond' rfl (fun h4 => ?_) (fun h4 => ?_)
  ·replace hp := (br_t h4).symm.trans hp
   refine cr fun K9 hK9 => ?_
   refine sg (off := 5) rfl Try.underlying27 rfl info24 rfl ?_
   refine sl (i := 0) (o := 5) rfl (ar rfl rfl rfl rfl) rfl flat24 ?_
   refine sk rfl Try.underlying24 ?_
   refine sa rfl ?_
   refine nk hK9 ?_
   refine cx_retc' ?_
   replace hp := sj hp
   subst hp
   refine tk (L' := [(2, (Vi (a0_5.length : Int)))]) (H' := []) [] (uc rfl un) pn ?_
   exact tx_ret1' Try.results39 rfl () (rv_tmp' rfl) lr
  replace hp := (br_f h4).symm.trans hp
  refine cx_skip' ?_
  show TX E K2 _
  refine tx_k' hK2 ?_
  refine cr fun K10 hK10 => ?_
  refine sg (off := 6) rfl Try.underlying27 rfl info25 rfl ?_
  refine sl (i := 0) (o := 6) rfl (ar rfl rfl rfl rfl) rfl flat25 ?_
  refine sk rfl Try.underlying25 ?_
  refine sa rfl ?_
  refine nk hK10 ?_
  refine cx_retc' ?_
  replace hp := sj hp
  subst hp
  refine tk (L' := [(2, (Vi (a0_6.length : Int)))]) (H' := []) [] (uc rfl un) pn ?_
  exact tx_ret1' Try.results39 rfl () (rv_tmp' rfl) lr
 intro K4 hK4
 refine cr fun K5 hK5 => ?_
 refine sb rfl rfl eg_int ru_eql ?_
 refine sa rfl ?_
 refine nk hK5 ?_
 refine cx_cond' rfl (fun h1 => ?_) (fun h1 => ?_)
 ·replace hp := (br_t h1).symm.trans hp
  refine cx_skip' ?_
  show TX E K4 _
  exact tk [0] (u3 rfl rfl rfl) (pc rfl pn) (hK4 (decide (a0_0 = 3)) hp)
 replace hp := (br_f h1).symm.trans hp
 refine cr fun K6 hK6 => ?_
 refine sb rfl rfl eg_int ru_eql ?_
 refine sa rfl ?_
 refine nk hK6 ?_
 refine cx_cond' rfl (fun h2 => ?_) (fun h2 => ?_)
 ·replace hp := (br_t h2).symm.trans hp
  refine cx_skip' ?_
  show TX E K4 _
  exact tk [0] (u3 rfl rfl rfl) (pc rfl pn) (hK4 (decide (a0_0 = 4)) hp)
 replace hp := (br_f h2).symm.trans hp
 refine cx_region' ?_
 refine sb rfl rfl eg_int ru_eql ?_
 refine sa rfl ?_
 refine sx_nil' ?_
 show TX E K4 _
 exact tk [0] (u3 rfl rfl rfl) (pc rfl pn) (hK4 (decide (a0_0 = 5)) hp)

def spec_Part_j2 (k : Nat) (rec1 : (Int × Int) → Option (Int)) (x4 x2 : Int) : Option (Int) :=
 rec1 (x2, (iadd .i64 x4 1))
def spec_Part_l1s (r28 : List (List Int)) (k : Nat) (rec1 : (Int × Int) → Option (Int)) (x3 x4 : Int) : Option (Int) :=
 br (decide (x4 < (r28.length : Int)))
  ((idx r28 x4) >>= fun r32 =>
  br (decide (0 < (r32.length : Int)))
   ((idx r32 (isub .i64 (r32.length : Int) 1)) >>= fun r41 =>
   spec_Part_j2 k rec1 x4 r41)
   (spec_Part_j2 k rec1 x4 x3))
  (some x3)
def spec_Part_l1 (r28 : List (List Int)) : Nat → (Int × Int) → Option (Int)
 | 0, _ => none
 | k + 1, v => spec_Part_l1s r28 k (spec_Part_l1 r28 k) v.1 v.2
def spec_Part_l2s (r51 : List Int) (v4 : Int) (k : Nat) (rec2 : ((List Int) × Int × Int) → Option ((List Int) × Int)) (x6 : List Int) (x7 x8 : Int) : Option ((List Int) × Int) :=
 br (decide (x8 < (r51.length : Int)))
  ((idx r51 x8) >>= fun r56 =>
  (apd 8 x6 ([isub .i64 r56 v4])) >>= fun r64 =>
  rec2 (r64, r56, (iadd .i64 x8 1)))
  (some (x6, x7))
def spec_Part_l2 (r51 : List Int) (v4 : Int) : Nat → ((List Int) × Int × Int) → Option ((List Int) × Int)
 | 0, _ => none
 | k + 1, v => spec_Part_l2s r51 v4 k (spec_Part_l2 r51 v4 k) v.1 v.2.1 v.2.2
def spec_Part_j4 (k : Nat) (a0_4 : List Int) (a1 : Int) (a0_3 : List Nat) (x11 a0_1 x12 : Int) : Option (Int × Int × Int × (List Nat) × (List Int) × (List (List Int)) × (List T27)) :=
 (idx a0_4 a1) >>= fun r101 =>
 (cut a0_3 x11 r101) >>= fun r103 =>
 (apd 8 [] r103) >>= fun r104 =>
 some (x12, a0_1, 0, r104, [], [], [])
def spec_Part_j3 (k : Nat) (a0_0 : Int) (a0_4 : List Int) (a1 : Int) (a0_3 : List Nat) (a0_1 x11 : Int) : Option (Int × Int × Int × (List Nat) × (List Int) × (List (List Int)) × (List T27)) :=
 br (!decide (a0_0 = 3))
  ((spec_KidOf k a0_0) >>= fun r90 =>
  spec_Part_j4 k a0_4 a1 a0_3 x11 a0_1 r90)
  (spec_Part_j4 k a0_4 a1 a0_3 x11 a0_1 8)
def spec_Part (k : Nat) (a0_0 a0_1 a0_2 : Int) (a0_3 : List Nat) (a0_4 : List Int) (a0_5 : List (List Int)) (a0_6 : List T27) (a1 : Int) : Option (Int × Int × Int × (List Nat) × (List Int) × (List (List Int)) × (List T27)) :=
 br (decide (a0_0 = 7))
  ((idx a0_6 a1) >>= fun r20 =>
  some (r20.f0, r20.f1, r20.f2, r20.f3, r20.f4, r20.f5, r20.f6))
  (br (decide (a0_0 = 6))
   ((cut a0_5 0 a1) >>= fun r28 =>
   (spec_Part_l1 r28 k (0, 0)) >>= fun v4 =>
   (idx a0_5 a1) >>= fun r51 =>
   (spec_Part_l2 r51 v4 k ([], v4, 0)) >>= fun v6 =>
   (cut a0_3 v4 v6.2) >>= fun r73 =>
   (apd 8 [] r73) >>= fun r74 =>
   some (3, a0_1, 0, r74, v6.1, [], []))
   (br (decide (0 < a1))
    ((idx a0_4 (isub .i64 a1 1)) >>= fun r83 =>
    spec_Part_j3 k a0_0 a0_4 a1 a0_3 a0_1 r83)
    (spec_Part_j3 k a0_0 a0_4 a1 a0_3 a0_1 0)))

theorem spec_Part_sim {k : Nat}  (a0_0 a0_1 a0_2 : Int) (a0_3 : List Nat) (a0_4 : List Int) (a0_5 : List (List Int)) (a0_6 : List T27) (a1 : Int) {out : Int × Int × Int × (List Nat) × (List Int) × (List (List Int)) × (List T27)} (hp : spec_Part k a0_0 a0_1 a0_2 a0_3 a0_4 a0_5 a0_6 a1 = some out) : Sx.Fn Try.prog 40 [(Ag (C0 a0_0 a0_1 a0_2 a0_3 a0_4 a0_5 a0_6)), (Vi a1)] [] (fun w : Unit => (Ag (C0 out.1 out.2.1 out.2.2.1 out.2.2.2.1 out.2.2.2.2.1 out.2.2.2.2.2.1 out.2.2.2.2.2.2))) (fun w => []) := by
 unfold spec_Part at hp
 refine fn_of Try.func40 rfl Try.ntmps40 rfl fun E hM => ?_
 refine cr fun K1 hK1 => ?_
 refine so (ox_box' rfl (lv_ag _) rfl rfl) fun q2 => ?_
 refine so (ox_alloc' info27 rfl rfl rfl rfl (l := (C1 0 0 0)) rfl) fun q4 => ?_
 refine nk hK1 ?_
 refine cx_seq' fun K2 hK2 => ?_
 refine cr fun K3 hK3 => ?_
 refine sf rfl Try.underlying27 rfl info3 rfl ?_
 refine sl (i := 1) (o := 0) rfl (ar rfl rfl rfl rfl) rfl flat3 ?_
 refine sb rfl rfl eg_int ru_eql ?_
 refine nk hK3 ?_
 refine cx_cond' rfl (fun h1 => ?_) (fun h1 => ?_)
 ·replace hp := (br_t h1).symm.trans hp
  refine cr fun K4 hK4 => ?_
  refine sg (off := 6) rfl Try.underlying27 rfl info25 rfl ?_
  refine sl (i := 1) (o := 6) rfl (ar rfl rfl rfl rfl) rfl flat25 ?_
  refine sm rfl ?_
  obtain ⟨r20, hr20, hp⟩ := bind_some hp
  refine s0 (rd_eq' (congrArg Pt (KT27_enc r20)) (rd_at' (K := KT27) rfl rfl hr20 Try.underlying25 info27)) ?_
  refine s0 (rd_load_pt_agg' (nn := 7) rfl rfl agg27 (l' := (C0 r20.f0 r20.f1 r20.f2 r20.f3 r20.f4 r20.f5 r20.f6)) rfl) ?_
  refine so (ox_store' (i := 0) (o := 0) rfl rfl (lv_ag _) (ar rfl rfl rfl rfl) rfl info27 rfl (H' := [(Ur q4 27 (C0 r20.f0 r20.f1 r20.f2 r20.f3 r20.f4 r20.f5 r20.f6)), (Ur q2 27 (C0 a0_0 a0_1 a0_2 a0_3 a0_4 a0_5 a0_6))]) rfl) fun _ => ?_
  refine nk hK4 ?_
  refine cx_retc' ?_
  replace hp := sj hp
  subst hp
  refine tk (L' := [(4, (Vp q4))]) (H' := [(Ur q4 27 (C0 r20.f0 r20.f1 r20.f2 r20.f3 r20.f4 r20.f5 r20.f6))]) [0] (uc rfl un) (pc rfl pn) ?_
  exact tx_ret1' Try.results40 rfl () (rv_cell_agg' (i := 0) (o := 0) (nn := 7) rfl (ar rfl rfl rfl rfl) rfl agg27 rfl) (List.nil_sublist _)
 replace hp := (br_f h1).symm.trans hp
 refine cx_skip' ?_
 show TX E K2 _
 refine tx_k' hK2 ?_
 refine cx_seq' fun K5 hK5 => ?_
 refine cr fun K6 hK6 => ?_
 refine sf rfl Try.underlying27 rfl info3 rfl ?_
 refine sl (i := 1) (o := 0) rfl (ar rfl rfl rfl rfl) rfl flat3 ?_
 refine sb rfl rfl eg_int ru_eql ?_
 refine nk hK6 ?_
 refine cx_cond' rfl (fun h2 => ?_) (fun h2 => ?_)
 ·replace hp := (br_t h2).symm.trans hp
  refine cr fun K7 hK7 => ?_
  refine sa rfl ?_
  refine nk hK7 ?_
  refine cx_seq' fun K8 hK8 => ?_
  refine cr fun K9 hK9 => ?_
  refine sg (off := 5) rfl Try.underlying27 rfl info24 rfl ?_
  refine sl (i := 1) (o := 5) rfl (ar rfl rfl rfl rfl) rfl flat24 ?_
  refine sm rfl ?_
  obtain ⟨r28, hr28, hp⟩ := bind_some hp
  refine s0 (rd_cut_h' rfl rfl hr28 Try.underlying24 info23) ?_
  refine sk rfl Try.underlying24 ?_
  refine sm rfl ?_
  refine nk hK9 ?_
  refine cx_block' ?_
  obtain ⟨v4, hy1, hp⟩ := bind_some hp
  refine cx_loopg' (F := spec_Part_l1 r28) (G := fun k R v => spec_Part_l1s r28 k R v.1 v.2) (x := (0, 0)) (gh := ()) (fun (v2 : Int × Int) (w2 : Unit) => (⟨106, [], [(1, (Vi a1)), (2, (Vp q2)), (4, (Vp q4)), (5, (Vi v2.1)), (28, (Sl (Kl (Ki .i64)) r28)), (29, (Vi (r28.length : Int))), (30, (Vi v2.2))], [(Ur q2 27 (C0 a0_0 a0_1 a0_2 a0_3 a0_4 a0_5 a0_6)), (Ur q4 27 (C1 0 0 0))]⟩ : St)) (fun (v4 : Int) => Zg E (Exit.exit 0) (fun (w4 : Unit) => (⟨106, [], [(1, (Vi a1)), (2, (Vp q2)), (4, (Vp q4)), (5, (Vi v4))], [(Ur q2 27 (C0 a0_0 a0_1 a0_2 a0_3 a0_4 a0_5 a0_6)), (Ur q4 27 (C1 0 0 0))]⟩ : St))) (fun _ => rfl) (fun _ _ => rfl) ?_ hy1 (tx_to' rfl [1, 0] (u7 rfl rfl rfl rfl rfl rfl rfl) (by decide) (p2 rfl rfl)) ?_
  ·clear hp hy1
   clear v4
   intro k rec1 KY1 ih1
   rintro ⟨x3, x4⟩ ⟨⟩ y1 hp
   replace hp : spec_Part_l1s r28 k rec1 x3 x4 = some y1 := hp
   unfold spec_Part_l1s at hp
   refine cr fun K15 hK15 => ?_
   refine sb rfl rfl eg_int ru_lss ?_
   refine nk hK15 ?_
   refine cx_seq' fun K16 hK16 => ?_
   refine cx_cond' rfl (fun h6 => ?_) (fun h6 => ?_)
   ·replace hp := (br_t h6).symm.trans hp
    refine cx_skip' ?_
    show TX E K16 _
    refine tx_k' hK16 ?_
    refine cx_join' (fun (v3 : Int) => (⟨106, [], [(1, (Vi a1)), (2, (Vp q2)), (4, (Vp q4)), (5, (Vi v3)), (28, (Sl (Kl (Ki .i64)) r28)), (29, (Vi (r28.length : Int))), (30, (Vi x4))], [(Ur q2 27 (C0 a0_0 a0_1 a0_2 a0_3 a0_4 a0_5 a0_6)), (Ur q4 27 (C1 0 0 0))]⟩ : St)) (fun (v3 : Int) => spec_Part_j2 k rec1 x4 v3 = some y1) ?_ ?_
    ·rintro x2 hp
     replace hp : spec_Part_j2 k rec1 x4 x2 = some y1 := hp
     unfold spec_Part_j2 at hp
     refine cx_region' ?_
     refine sb rfl rfl eg_int ru_add ?_
     refine sm rfl ?_
     refine sx_nil' ?_
     show TX E (KY1 _) _
     exact tk [0, 1] (u7 rfl rfl rfl rfl rfl rfl rfl) (p2 rfl rfl) (ih1 (x2, (iadd .i64 x4 1)) () _ hp)
    intro K17 hK17
    refine cx_block' ?_
    refine cr fun K18 hK18 => ?_
    obtain ⟨r32, hr32, hp⟩ := bind_some hp
    refine s0 (rd_at' (K := (Kl (Ki .i64))) rfl rfl hr32 Try.underlying24 info23) ?_
    refine s0 (rd_load_pt' rfl rfl flat23) ?_
    refine sa rfl ?_
    refine nk hK18 ?_
    refine cr fun K19 hK19 => ?_
    refine sm rfl ?_
    refine sk rfl Try.underlying23 ?_
    refine sb rfl rfl eg_int ru_gtr ?_
    refine nk hK19 ?_
    refine cx_cond' rfl (fun h7 => ?_) (fun h7 => ?_)
    ·replace hp := (br_t h7).symm.trans hp
     refine cx_region' ?_
     iterate 2 refine sm rfl ?_
     refine sk rfl Try.underlying23 ?_
     refine sb rfl rfl eg_int ru_sub ?_
     obtain ⟨r41, hr41, hp⟩ := bind_some hp
     refine s0 (rd_at' (K := (Ki .i64)) rfl rfl hr41 Try.underlying23 info3) ?_
     refine s0 (rd_load_pt' rfl rfl flat3) ?_
     refine sa rfl ?_
     refine sx_nil' ?_
     show TX E K17 _
     exact tk [0, 1] (u7 rfl rfl rfl rfl rfl rfl rfl) (p2 rfl rfl) (hK17 r41 hp)
    replace hp := (br_f h7).symm.trans hp
    refine cx_skip' ?_
    show TX E K17 _
    exact tk [0, 1] (u7 rfl rfl rfl rfl rfl rfl rfl) (p2 rfl rfl) (hK17 x3 hp)
   replace hp := (br_f h6).symm.trans hp
   refine cx_exit' ?_
   replace hp := sj hp
   subst hp
   show TX E (Zg E (Exit.exit 0) _ (Exit.exit 0)) _
   exact tx_zend' () rfl [0, 1] (u4 rfl rfl rfl rfl) (by decide) (p2 rfl rfl)
  refine zg_out fun w4 => ?_
  show TX E K8 _
  refine tx_k' hK8 ?_
  refine cr fun K20 hK20 => ?_
  refine sg (off := 1) rfl Try.underlying27 rfl info3 rfl ?_
  refine sl (i := 0) (o := 1) rfl (ar rfl rfl rfl rfl) rfl flat3 ?_
  refine sv (pls := [(0, 1), (1, 1), (2, 1), (3, 1), (4, 1), (5, 1), (6, 1)]) (qs := [(0, [(Vi 3)]), (1, [(Vi a0_1)])]) (r := (C1 3 a0_1 0)) ⟨rfl, ⟨_, rfl, (lv_vl rfl rfl)⟩, ⟨rfl, ⟨_, rfl, (lv_vl rfl rfl)⟩, trivial⟩⟩ Try.underlying27 has27 places27 info27 rfl rfl rfl ?_
  refine so (ox_alloc' info27 rfl rfl rfl rfl (l := (C1 0 0 0)) rfl) fun q8 => ?_
  refine so (ox_store' (i := 0) (o := 0) rfl rfl (lv_ag _) (ar rfl rfl rfl rfl) rfl info27 rfl (H' := [(Ur q8 27 (C1 3 a0_1 0)), (Ur q2 27 (C0 a0_0 a0_1 a0_2 a0_3 a0_4 a0_5 a0_6)), (Ur q4 27 (C1 0 0 0))]) rfl) fun _ => ?_
  refine nk hK20 ?_
  refine cr fun K21 hK21 => ?_
  refine sm rfl ?_
  refine sa rfl ?_
  refine nk hK21 ?_
  refine cx_seq' fun K22 hK22 => ?_
  refine cr fun K23 hK23 => ?_
  refine sg (off := 5) rfl Try.underlying27 rfl info24 rfl ?_
  refine sl (i := 1) (o := 5) rfl (ar rfl rfl rfl rfl) rfl flat24 ?_
  refine sm rfl ?_
  obtain ⟨r51, hr51, hp⟩ := bind_some hp
  refine s0 (rd_at' (K := (Kl (Ki .i64))) rfl rfl hr51 Try.underlying24 info23) ?_
  refine s0 (rd_load_pt' rfl rfl flat23) ?_
  refine sk rfl Try.underlying23 ?_
  refine sm rfl ?_
  refine nk hK23 ?_
  refine cx_block' ?_
  obtain ⟨v6, hy2, hp⟩ := bind_some hp
  refine tx_nilrow' (Ki .i64) 3 ?_
  refine cx_loopg' (F := spec_Part_l2 r51 v4) (G := fun k R v => spec_Part_l2s r51 v4 k R v.1 v.2.1 v.2.2) (x := ([], v4, 0)) (gh := (none, 0, 0)) (fun (v5 : (List Int) × Int × Int) (w5 : Gs) => (⟨106, [], [(2, (Vp q2)), (4, (Vp q4)), (5, (Vi v4)), (8, (Vp q8)), (9, (Vi v5.2.1)), (52, (Sl (Ki .i64) r51)), (53, (Vi (r51.length : Int))), (54, (Vi v5.2.2))], [(Ur q2 27 (C0 a0_0 a0_1 a0_2 a0_3 a0_4 a0_5 a0_6)), (Ur q4 27 (C1 0 0 0)), (Ur q8 27 [(Vi 3), (Vi a0_1), (Vi 0), Vn, (Vw w5), Vn, Vn]), (Rg (Ki .i64) 3 w5 v5.1)]⟩ : St)) (fun (v6 : (List Int) × Int) => Zg E (Exit.exit 2) (fun (w6 : Gs) => (⟨106, [], [(2, (Vp q2)), (4, (Vp q4)), (5, (Vi v4)), (8, (Vp q8)), (9, (Vi v6.2))], [(Ur q2 27 (C0 a0_0 a0_1 a0_2 a0_3 a0_4 a0_5 a0_6)), (Ur q4 27 (C1 0 0 0)), (Ur q8 27 [(Vi 3), (Vi a0_1), (Vi 0), Vn, (Vw w6), Vn, Vn]), (Rg (Ki .i64) 3 w6 v6.1)]⟩ : St))) (fun _ => rfl) (fun _ _ => rfl) ?_ hy2 (tx_to' rfl [2, 3, 1, 0] (u8 rfl rfl rfl rfl rfl rfl rfl rfl) (by decide) (p4 rfl rfl rfl rfl)) ?_
  ·clear hp hy2
   clear v6
   intro k rec2 KY2 ih2
   rintro ⟨x6, x7, x8⟩ g901 y2 hp
   replace hp : spec_Part_l2s r51 v4 k rec2 x6 x7 x8 = some y2 := hp
   unfold spec_Part_l2s at hp
   refine cr fun K29 hK29 => ?_
   refine sb rfl rfl eg_int ru_lss ?_
   refine nk hK29 ?_
   refine cx_seq' fun K30 hK30 => ?_
   refine cx_cond' rfl (fun h10 => ?_) (fun h10 => ?_)
   ·replace hp := (br_t h10).symm.trans hp
    refine cx_skip' ?_
    show TX E K30 _
    refine tx_k' hK30 ?_
    refine cx_seq' fun K31 hK31 => ?_
    refine cx_block' ?_
    refine cr fun K32 hK32 => ?_
    obtain ⟨r56, hr56, hp⟩ := bind_some hp
    refine s0 (rd_at' (K := (Ki .i64)) rfl rfl hr56 Try.underlying23 info3) ?_
    refine s0 (rd_load_pt' rfl rfl flat3) ?_
    refine sa rfl ?_
    refine nk hK32 ?_
    refine cr fun K33 hK33 => ?_
    refine sg (off := 4) rfl Try.underlying27 rfl info23 rfl ?_
    refine sl (i := 2) (o := 4) rfl (ar rfl rfl rfl rfl) rfl flat23 ?_
    iterate 2 refine sm rfl ?_
    refine sb rfl rfl eg_int ru_sub ?_
    refine so (ox_rowlit' (K := (Ki .i64)) (xs := [isub .i64 r56 v4]) (qs := [(0, [(Vi (isub .i64 r56 v4))])]) ⟨rfl, ⟨_, rfl, (lv_vl rfl rfl)⟩, trivial⟩ Try.underlying23 info3 rfl rfl rfl rfl rfl (by kernel_rfl) rfl rfl rfl) fun g63 => ?_
    obtain ⟨r64, hr64, hp⟩ := bind_some hp
    refine so (ox_append' (K := (Ki .i64)) (i := 4) (xs := x6) (ys := ([isub .i64 r56 v4])) rfl rfl rfl (sr_row' (j := 0) rfl rfl rfl Try.underlying23) hr64 Try.underlying23 info3 rfl rfl rfl (H' := [(Rg (Ki .i64) 3 g63 ([isub .i64 r56 v4])), (Ur q2 27 (C0 a0_0 a0_1 a0_2 a0_3 a0_4 a0_5 a0_6)), (Ur q4 27 (C1 0 0 0)), (Ur q8 27 [(Vi 3), (Vi a0_1), (Vi 0), Vn, (Vw g901), Vn, Vn])]) rfl) fun g64 => ?_
    refine sg (off := 4) rfl Try.underlying27 rfl info23 rfl ?_
    refine so (ox_store' (i := 4) (o := 4) rfl rfl (lv_vl rfl rfl) (ar rfl rfl rfl rfl) rfl info23 rfl (H' := [(Rg (Ki .i64) 3 g64 r64), (Rg (Ki .i64) 3 g63 ([isub .i64 r56 v4])), (Ur q2 27 (C0 a0_0 a0_1 a0_2 a0_3 a0_4 a0_5 a0_6)), (Ur q4 27 (C1 0 0 0)), (Ur q8 27 [(Vi 3), (Vi a0_1), (Vi 0), Vn, (Vw g64), Vn, Vn])]) rfl) fun _ => ?_
    refine nk hK33 ?_
    refine cx_region' ?_
    refine sm rfl ?_
    refine sa rfl ?_
    refine nk hK31 ?_
    refine cx_region' ?_
    refine sb rfl rfl eg_int ru_add ?_
    refine sm rfl ?_
    refine sx_nil' ?_
    show TX E (KY2 _) _
    exact tk [2, 3, 4, 0] (u8 rfl rfl rfl rfl rfl rfl rfl rfl) (p4 rfl rfl rfl rfl) (ih2 (r64, r56, (iadd .i64 x8 1)) g64 _ hp)
   replace hp := (br_f h10).symm.trans hp
   refine cx_exit' ?_
   replace hp := sj hp
   subst hp
   show TX E (Zg E (Exit.exit 2) _ (Exit.exit 2)) _
   exact tx_zend' g901 rfl [0, 1, 2, 3] (u5 rfl rfl rfl rfl rfl) (by decide) (p4 rfl rfl rfl rfl)
  refine zg_out fun w6 => ?_
  show TX E K22 _
  refine tx_k' hK22 ?_
  refine cr fun K34 hK34 => ?_
  refine so (ox_rowlit' (K := Kf) (xs := []) (qs := []) trivial Try.underlying22 info32 rfl rfl rfl rfl rfl (by kernel_rfl) rfl rfl rfl) fun g68 => ?_
  refine sg (off := 3) rfl Try.underlying27 rfl info22 rfl ?_
  refine sl (i := 1) (o := 3) rfl (ar rfl rfl rfl rfl) rfl flat22 ?_
  iterate 2 refine sm rfl ?_
  obtain ⟨r73, hr73, hp⟩ := bind_some hp
  refine s0 (rd_cut_lh' rfl rfl rfl hr73 Try.underlying22 info32) ?_
  obtain ⟨r74, hr74, hp⟩ := bind_some hp
  refine so (ox_append' (K := Kf) (i := 0) (xs := []) (ys := r73) rfl rfl rfl (sr_sl' rfl Try.underlying22) hr74 Try.underlying22 info32 rfl rfl rfl (H' := [(Ur q2 27 (C0 a0_0 a0_1 a0_2 a0_3 a0_4 a0_5 a0_6)), (Ur q4 27 (C1 0 0 0)), (Ur q8 27 [(Vi 3), (Vi a0_1), (Vi 0), Vn, (Vw w6), Vn, Vn]), (Rg (Ki .i64) 3 w6 v6.1)]) rfl) fun g74 => ?_
  refine sg (off := 3) rfl Try.underlying27 rfl info22 rfl ?_
  refine so (ox_store' (i := 3) (o := 3) rfl rfl (lv_vl rfl rfl) (ar rfl rfl rfl rfl) rfl info22 rfl (H' := [(Rg Kf 32 g74 r74), (Ur q2 27 (C0 a0_0 a0_1 a0_2 a0_3 a0_4 a0_5 a0_6)), (Ur q4 27 (C1 0 0 0)), (Ur q8 27 (C7 3 a0_1 0 g74 w6)), (Rg (Ki .i64) 3 w6 v6.1)]) rfl) fun _ => ?_
  refine nk hK34 ?_
  refine cr fun K35 hK35 => ?_
  refine s0 (rd_load_agg' (i := 3) (o := 0) (nn := 7) rfl (ar rfl rfl rfl rfl) rfl agg27 (l' := (C7 3 a0_1 0 g74 w6)) rfl) ?_
  refine so (ox_store' (i := 2) (o := 0) rfl rfl (lv_ag _) (ar rfl rfl rfl rfl) rfl info27 rfl (H' := [(Rg Kf 32 g74 r74), (Ur q2 27 (C0 a0_0 a0_1 a0_2 a0_3 a0_4 a0_5 a0_6)), (Ur q4 27 (C7 3 a0_1 0 g74 w6)), (Ur q8 27 (C7 3 a0_1 0 g74 w6)), (Rg (Ki .i64) 3 w6 v6.1)]) rfl) fun _ => ?_
  refine nk hK35 ?_
  refine cx_retc' ?_
  replace hp := sj hp
  subst hp
  refine tx_fz' (frz_row 0 [(74, (Vw g74), (Sl Kf r74)), (76, (Ag (C7 3 a0_1 0 g74 w6)), (Ag (C9 3 a0_1 0 r74 w6)))] (K := Kf) (xs := r74) (by decide) rfl ⟨⟨rfl, frz_it⟩, ⟨rfl, fz_ag (fc f0 (fc f0 (fc f0 (fc fz0_it (fc f0 (fc f0 (fc f0 fz0_nil)))))))⟩, trivial⟩ (H' := [(Ur q2 27 (C0 a0_0 a0_1 a0_2 a0_3 a0_4 a0_5 a0_6)), (Ur q4 27 (C9 3 a0_1 0 r74 w6)), (Ur q8 27 (C9 3 a0_1 0 r74 w6)), (Rg (Ki .i64) 3 w6 v6.1)]) (fk (fh rfl rfl rfl (fl fs (fl fs (fl fs (fl frz_it (fl fs (fl fs (fl fs frzL_refl))))))) (fh rfl rfl rfl (fl fs (fl fs (fl fs (fl frz_it (fl fs (fl fs (fl fs frzL_refl))))))) (fk frzH_refl))))) ?_
  refine tx_fz' (frz_row 3 [(76, (Ag (C9 3 a0_1 0 r74 w6)), (Ag (C5 3 a0_1 0 r74 v6.1)))] (K := (Ki .i64)) (xs := v6.1) (by decide) rfl ⟨⟨rfl, fz_ag (fc f0 (fc f0 (fc f0 (fc f0 (fc fz0_it (fc f0 (fc f0 fz0_nil)))))))⟩, trivial⟩ (H' := [(Ur q2 27 (C0 a0_0 a0_1 a0_2 a0_3 a0_4 a0_5 a0_6)), (Ur q4 27 (C5 3 a0_1 0 r74 v6.1)), (Ur q8 27 (C5 3 a0_1 0 r74 v6.1))]) (fk (fh rfl rfl rfl (fl fs (fl fs (fl fs (fl fs (fl frz_it (fl fs (fl fs frzL_refl))))))) (fh rfl rfl rfl (fl fs (fl fs (fl fs (fl fs (fl frz_it (fl fs (fl fs frzL_refl))))))) frzH_refl)))) ?_
  refine tk (L' := [(4, (Vp q4))]) (H' := [(Ur q4 27 (C5 3 a0_1 0 r74 v6.1))]) [1] (uc rfl un) (pc rfl pn) ?_
  exact tx_ret1' Try.results40 rfl () (rv_imp' (x := (Ag (C5 3 a0_1 0 r74 v6.1))) (y := (Ag [(Vi 3), (Vi a0_1), (Vi 0), (Sl Kf r74), (Sl (Ki .i64) v6.1), (Sl (Kl (Ki .i64)) []), (Sl KT27 [])])) (rv_cell_agg' (i := 0) (o := 0) (nn := 7) rfl (ar rfl rfl rfl rfl) rfl agg27 rfl) (imp_ag ⟨imp_refl, imp_refl, imp_refl, imp_refl, imp_refl, imp_nil, imp_nil, trivial⟩)) (List.nil_sublist _)
 replace hp := (br_f h2).symm.trans hp
 refine cx_skip' ?_
 show TX E K5 _
 refine tx_k' hK5 ?_
 refine cr fun K36 hK36 => ?_
 refine sa rfl ?_
 refine nk hK36 ?_
 refine cx_join' (fun (v7 : Int) => (⟨106, [], [(1, (Vi a1)), (2, (Vp q2)), (4, (Vp q4)), (12, (Vi v7))], [(Ur q2 27 (C0 a0_0 a0_1 a0_2 a0_3 a0_4 a0_5 a0_6)), (Ur q4 27 (C1 0 0 0))]⟩ : St)) (fun (v7 : Int) => spec_Part_j3 k a0_0 a0_4 a1 a0_3 a0_1 v7 = some out) ?_ ?_
 ·rintro x11 hp
  replace hp : spec_Part_j3 k a0_0 a0_4 a1 a0_3 a0_1 x11 = some out := hp
  unfold spec_Part_j3 at hp
  refine cr fun K39 hK39 => ?_
  refine sa rfl ?_
  refine nk hK39 ?_
  refine cx_join' (fun (v8 : Int) => (⟨106, [], [(1, (Vi a1)), (2, (Vp q2)), (4, (Vp q4)), (12, (Vi x11)), (13, (Vi v8))], [(Ur q2 27 (C0 a0_0 a0_1 a0_2 a0_3 a0_4 a0_5 a0_6)), (Ur q4 27 (C1 0 0 0))]⟩ : St)) (fun (v8 : Int) => spec_Part_j4 k a0_4 a1 a0_3 x11 a0_1 v8 = some out) ?_ ?_
  ·rintro x12 hp
   replace hp : spec_Part_j4 k a0_4 a1 a0_3 x11 a0_1 x12 = some out := hp
   unfold spec_Part_j4 at hp
   refine cx_seq' fun K42 hK42 => ?_
   refine cx_plan' [q2.block] [(13, 1), (15, 1)] [(0, 2), (1, 2), (2, 2), (4, 1), (5, 1), (6, 1), (7, 1), (8, 1), (9, 1), (10, 1), (11, 1), (12, 1), (3, 0), (13, 0), (14, 1), (15, 0)] mixed (by kernel_rfl) ?_
   refine px_rb' rfl (rb_move' rfl) rfl rfl (wt_none' rfl) ?_
   refine px_rb' rfl (rb_field' (off := 1) rfl Try.underlying27 rfl info3 rfl) rfl rfl (wt_none' rfl) ?_
   refine px_rb' rfl (rb_load' (i := 0) (o := 1) rfl (ar rfl rfl rfl rfl) rfl flat3 (by simp)) rfl rfl (wt_none' rfl) ?_
   refine pd rfl (rd_field' (off := 3) rfl Try.underlying27 rfl info22 rfl) ?_
   refine pd rfl (rd_load' (i := 0) (o := 3) rfl (ar rfl rfl rfl rfl) rfl flat22) ?_
   refine pd rfl (rd_move' rfl) ?_
   refine pd rfl (rd_field' (off := 4) rfl Try.underlying27 rfl info23 rfl) ?_
   refine pd rfl (rd_load' (i := 0) (o := 4) rfl (ar rfl rfl rfl rfl) rfl flat23) ?_
   refine pd rfl (rd_move' rfl) ?_
   obtain ⟨r101, hr101, hp⟩ := bind_some hp
   refine pd rfl (rd_at' (K := (Ki .i64)) rfl rfl hr101 Try.underlying23 info3) ?_
   refine pd rfl (rd_load_pt' rfl rfl flat3) ?_
   obtain ⟨r103, hr103, hp⟩ := bind_some hp
   refine pd rfl (rd_cut_lh' rfl rfl rfl hr103 Try.underlying22 info32) ?_
   refine px_ox' rfl (ox_rowlit' (K := Kf) (xs := []) (qs := []) trivial Try.underlying22 info32 rfl rfl rfl rfl rfl (by kernel_rfl) rfl rfl rfl) rfl (bs_cons (m := 0) rfl rfl rfl bs_nil) (wt_none' rfl) fun g94 => ?_
   obtain ⟨r104, hr104, hp⟩ := bind_some hp
   refine px_ox' rfl (ox_append' (K := Kf) (i := 0) (xs := []) (ys := r103) rfl rfl rfl (sr_sl' rfl Try.underlying22) hr104 Try.underlying22 info32 rfl rfl rfl (H' := [(Ur q2 27 (C0 a0_0 a0_1 a0_2 a0_3 a0_4 a0_5 a0_6)), (Ur q4 27 (C1 0 0 0))]) rfl) rfl (bs_cons (m := 1) rfl rfl rfl bs_nil) (wt_none' rfl) fun g104 => ?_
   refine pd rfl (rd_build' (pls := [(0, 1), (1, 1), (2, 1), (3, 1), (4, 1), (5, 1), (6, 1)]) (qs := [(0, [(Vi x12)]), (1, [(Vi a0_1)]), (3, [(Vw g104)])]) (r := (C10 x12 a0_1 0 g104)) ⟨rfl, ⟨_, rfl, (lv_vl rfl rfl)⟩, ⟨rfl, ⟨_, rfl, (lv_vl rfl rfl)⟩, ⟨rfl, ⟨_, rfl, (lv_vl rfl rfl)⟩, trivial⟩⟩⟩ Try.underlying27 has27 places27 info27 rfl rfl rfl) ?_
   refine px_oxv' rfl (oxv_store (i := 2) (o := 0) rfl rfl (lv_ag _) (ar rfl rfl rfl rfl) rfl info27 rfl (H' := [(Rg Kf 32 g104 r104), (Ur q2 27 (C0 a0_0 a0_1 a0_2 a0_3 a0_4 a0_5 a0_6)), (Ur q4 27 (C10 x12 a0_1 0 g104))]) rfl) rfl rfl (bo_cons (m := 1) (by decide) rfl rfl bo_nil) (wt_none' rfl) fun _ => ?_
   refine px_nil' ?_
   show TX E K42 _
   refine tx_k' hK42 ?_
   refine cx_retc' ?_
   replace hp := sj hp
   subst hp
   refine tx_fz' (frz_row 0 [(104, (Vw g104), (Sl Kf r104)), (105, (Ag (C10 x12 a0_1 0 g104)), (Ag (C15 x12 a0_1 0 r104)))] (K := Kf) (xs := r104) (by decide) rfl ⟨⟨rfl, frz_it⟩, ⟨rfl, fz_ag (fc f0 (fc f0 (fc f0 (fc fz0_it (fc f0 (fc f0 (fc f0 fz0_nil)))))))⟩, trivial⟩ (H' := [(Ur q2 27 (C0 a0_0 a0_1 a0_2 a0_3 a0_4 a0_5 a0_6)), (Ur q4 27 (C15 x12 a0_1 0 r104))]) (fk (fh rfl rfl rfl (fl fs (fl fs (fl fs (fl frz_it (fl fs (fl fs (fl fs frzL_refl))))))) frzH_refl))) ?_
   refine tk (L' := [(4, (Vp q4))]) (H' := [(Ur q4 27 (C15 x12 a0_1 0 r104))]) [1] (uc rfl un) (pc rfl pn) ?_
   exact tx_ret1' Try.results40 rfl () (rv_imp' (x := (Ag (C15 x12 a0_1 0 r104))) (y := (Ag [(Vi x12), (Vi a0_1), (Vi 0), (Sl Kf r104), (Sl (Ki .i64) []), (Sl (Kl (Ki .i64)) []), (Sl KT27 [])])) (rv_cell_agg' (i := 0) (o := 0) (nn := 7) rfl (ar rfl rfl rfl rfl) rfl agg27 rfl) (imp_ag ⟨imp_refl, imp_refl, imp_refl, imp_refl, imp_nil, imp_nil, imp_nil, trivial⟩)) (List.nil_sublist _)
  intro K40 hK40
  refine cr fun K41 hK41 => ?_
  refine sf rfl Try.underlying27 rfl info3 rfl ?_
  refine sl (i := 0) (o := 0) rfl (ar rfl rfl rfl rfl) rfl flat3 ?_
  refine sb rfl rfl eg_int ru_neq ?_
  refine nk hK41 ?_
  refine cx_cond' rfl (fun h12 => ?_) (fun h12 => ?_)
  ·replace hp := (br_t h12).symm.trans hp
   refine cx_region' ?_
   refine sf rfl Try.underlying27 rfl info3 rfl ?_
   refine sl (i := 0) (o := 0) rfl (ar rfl rfl rfl rfl) rfl flat3 ?_
   obtain ⟨r90, hr90, hp⟩ := bind_some hp
   refine so (oz (ent_fn' Try.func37 isn37 rfl rfl) (spec_KidOf_sim _ hr90)) fun ⟨⟩ => ?_
   refine sa rfl ?_
   refine sx_nil' ?_
   show TX E K40 _
   exact tk [0, 1] (u5 rfl rfl rfl rfl rfl) (p2 rfl rfl) (hK40 r90 hp)
  replace hp := (br_f h12).symm.trans hp
  refine cx_skip' ?_
  show TX E K40 _
  exact tk [0, 1] (u5 rfl rfl rfl rfl rfl) (p2 rfl rfl) (hK40 8 hp)
 intro K37 hK37
 refine cr fun K38 hK38 => ?_
 refine sm rfl ?_
 refine sb rfl rfl eg_int ru_gtr ?_
 refine nk hK38 ?_
 refine cx_cond' rfl (fun h11 => ?_) (fun h11 => ?_)
 ·replace hp := (br_t h11).symm.trans hp
  refine cx_region' ?_
  refine sg (off := 4) rfl Try.underlying27 rfl info23 rfl ?_
  refine sl (i := 1) (o := 4) rfl (ar rfl rfl rfl rfl) rfl flat23 ?_
  refine sm rfl ?_
  refine sb rfl rfl eg_int ru_sub ?_
  obtain ⟨r83, hr83, hp⟩ := bind_some hp
  refine s0 (rd_at' (K := (Ki .i64)) rfl rfl hr83 Try.underlying23 info3) ?_
  refine s0 (rd_load_pt' rfl rfl flat3) ?_
  refine sa rfl ?_
  refine sx_nil' ?_
  show TX E K37 _
  exact tk [1, 0] (u4 rfl rfl rfl rfl) (p2 rfl rfl) (hK37 r83 hp)
 replace hp := (br_f h11).symm.trans hp
 refine cx_skip' ?_
 show TX E K37 _
 exact tk [1, 0] (u4 rfl rfl rfl rfl) (p2 rfl rfl) (hK37 0 hp)

def spec_Parts_l1s (r6 a0_0 : Int) (a0_1 a0_2 : Int) (a0_3 : List Nat) (a0_4 : List Int) (a0_5 : List (List Int)) (a0_6 : List T27) (k : Nat) (rec1 : ((List T27) × Int) → Option ((List T27))) (x1 : List T27) (x2 : Int) : Option ((List T27)) :=
 br (decide (x2 < r6))
  ((spec_Part k a0_0 a0_1 a0_2 a0_3 a0_4 a0_5 a0_6 x2) >>= fun r13 =>
  (apd 120 x1 ([(T27.mk r13.1 r13.2.1 r13.2.2.1 r13.2.2.2.1 r13.2.2.2.2.1 r13.2.2.2.2.2.1 r13.2.2.2.2.2.2)])) >>= fun r15 =>
  rec1 (r15, (iadd .i64 x2 1)))
  (some x1)
def spec_Parts_l1 (r6 a0_0 : Int) (a0_1 a0_2 : Int) (a0_3 : List Nat) (a0_4 : List Int) (a0_5 : List (List Int)) (a0_6 : List T27) : Nat → ((List T27) × Int) → Option ((List T27))
 | 0, _ => none
 | k + 1, v => spec_Parts_l1s r6 a0_0 a0_1 a0_2 a0_3 a0_4 a0_5 a0_6 k (spec_Parts_l1 r6 a0_0 a0_1 a0_2 a0_3 a0_4 a0_5 a0_6 k) v.1 v.2
def spec_Parts (k : Nat) (a0_0 a0_1 a0_2 : Int) (a0_3 : List Nat) (a0_4 : List Int) (a0_5 : List (List Int)) (a0_6 : List T27) : Option ((List T27)) :=
 (spec_NumParts k a0_0 a0_1 a0_2 a0_3 a0_4 a0_5 a0_6) >>= fun r6 =>
 (spec_Parts_l1 r6 a0_0 a0_1 a0_2 a0_3 a0_4 a0_5 a0_6 k ([], 0)) >>= fun v2 =>
 some v2

theorem spec_Parts_sim {k : Nat}  (a0_0 a0_1 a0_2 : Int) (a0_3 : List Nat) (a0_4 : List Int) (a0_5 : List (List Int)) (a0_6 : List T27) {out : (List T27)} (hp : spec_Parts k a0_0 a0_1 a0_2 a0_3 a0_4 a0_5 a0_6 = some out) : Sx.Fn Try.prog 18 [(Ag (C0 a0_0 a0_1 a0_2 a0_3 a0_4 a0_5 a0_6))] [] (fun w : Gs => (Vw w)) (fun w => [(Rg KT27 27 w out)]) := by
 unfold spec_Parts at hp
 refine fn_of Try.func18 rfl Try.ntmps18 rfl fun E hM => ?_
 refine cr fun K1 hK1 => ?_
 refine so (ox_box' rfl (lv_ag _) rfl rfl) fun q1 => ?_
 refine sa rfl ?_
 refine nk hK1 ?_
 refine cr fun K2 hK2 => ?_
 refine sa rfl ?_
 refine nk hK2 ?_
 refine cx_seq' fun K3 hK3 => ?_
 refine cr fun K4 hK4 => ?_
 refine s0 (rd_load_agg' (i := 0) (o := 0) (nn := 7) rfl (ar rfl rfl rfl rfl) rfl agg27 (l' := (C0 a0_0 a0_1 a0_2 a0_3 a0_4 a0_5 a0_6)) rfl) ?_
 obtain ⟨r6, hr6, hp⟩ := bind_some hp
 refine so (oz (ent_fn' Try.func39 isn39 rfl rfl) (spec_NumParts_sim _ _ _ _ _ _ _ hr6)) fun ⟨⟩ => ?_
 refine sm rfl ?_
 refine nk hK4 ?_
 refine cx_block' ?_
 obtain ⟨v2, hy1, hp⟩ := bind_some hp
 refine tx_nilrow' KT27 27 ?_
 refine cx_loopg' (F := spec_Parts_l1 r6 a0_0 a0_1 a0_2 a0_3 a0_4 a0_5 a0_6) (G := fun k R v => spec_Parts_l1s r6 a0_0 a0_1 a0_2 a0_3 a0_4 a0_5 a0_6 k R v.1 v.2) (x := ([], 0)) (gh := (none, 0, 0)) (fun (v1 : (List T27) × Int) (w1 : Gs) => (⟨18, [], [(1, (Vp q1)), (3, (Vw w1)), (6, (Vi r6)), (7, (Vi v1.2))], [(Ur q1 27 (C0 a0_0 a0_1 a0_2 a0_3 a0_4 a0_5 a0_6)), (Rg KT27 27 w1 v1.1)]⟩ : St)) (fun (v2 : (List T27)) => Zg E (Exit.exit 0) (fun (w2 : Gs) => (⟨18, [], [(3, (Vw w2))], [(Rg KT27 27 w2 v2)]⟩ : St))) (fun _ => rfl) (fun _ _ => rfl) ?_ hy1 (tx_to' rfl [1, 0] (u4 rfl rfl rfl rfl) (by decide) (p2 rfl rfl)) ?_
 ·clear hp hy1
  clear v2
  intro k rec1 KY1 ih1
  rintro ⟨x1, x2⟩ g901 y1 hp
  replace hp : spec_Parts_l1s r6 a0_0 a0_1 a0_2 a0_3 a0_4 a0_5 a0_6 k rec1 x1 x2 = some y1 := hp
  unfold spec_Parts_l1s at hp
  refine cr fun K9 hK9 => ?_
  refine sb rfl rfl eg_int ru_lss ?_
  refine nk hK9 ?_
  refine cx_seq' fun K10 hK10 => ?_
  refine cx_cond' rfl (fun h3 => ?_) (fun h3 => ?_)
  ·replace hp := (br_t h3).symm.trans hp
   refine cx_skip' ?_
   show TX E K10 _
   refine tx_k' hK10 ?_
   refine cx_seq' fun K11 hK11 => ?_
   refine cx_block' ?_
   refine cr fun K12 hK12 => ?_
   refine sm rfl ?_
   refine sa rfl ?_
   refine nk hK12 ?_
   refine cx_region' ?_
   refine sm rfl ?_
   refine s0 (rd_load_agg' (i := 0) (o := 0) (nn := 7) rfl (ar rfl rfl rfl rfl) rfl agg27 (l' := (C0 a0_0 a0_1 a0_2 a0_3 a0_4 a0_5 a0_6)) rfl) ?_
   refine sm rfl ?_
   obtain ⟨r13, hr13, hp⟩ := bind_some hp
   refine so (oz (ent_fn' Try.func40 isn40 rfl rfl) (spec_Part_sim _ _ _ _ _ _ _ _ hr13)) fun ⟨⟩ => ?_
   refine so (ox_rowlit' (K := KT27) (xs := [(T27.mk r13.1 r13.2.1 r13.2.2.1 r13.2.2.2.1 r13.2.2.2.2.1 r13.2.2.2.2.2.1 r13.2.2.2.2.2.2)]) (qs := [(0, (C0 r13.1 r13.2.1 r13.2.2.1 r13.2.2.2.1 r13.2.2.2.2.1 r13.2.2.2.2.2.1 r13.2.2.2.2.2.2))]) ⟨rfl, ⟨_, rfl, (lv_ag _)⟩, trivial⟩ Try.underlying25 info27 rfl rfl rfl rfl rfl (by simp only [List.flatMap_cons, List.flatMap_nil, KT27_enc, List.append_nil]; kernel_rfl) rfl rfl rfl) fun g14 => ?_
   obtain ⟨r15, hr15, hp⟩ := bind_some hp
   refine so (ox_append' (K := KT27) (i := 2) (xs := x1) (ys := ([(T27.mk r13.1 r13.2.1 r13.2.2.1 r13.2.2.2.1 r13.2.2.2.2.1 r13.2.2.2.2.2.1 r13.2.2.2.2.2.2)])) rfl rfl rfl (sr_row' (j := 0) rfl rfl rfl Try.underlying25) hr15 Try.underlying25 info27 rfl rfl rfl (H' := [(Rg KT27 27 g14 ([(T27.mk r13.1 r13.2.1 r13.2.2.1 r13.2.2.2.1 r13.2.2.2.2.1 r13.2.2.2.2.2.1 r13.2.2.2.2.2.2)])), (Ur q1 27 (C0 a0_0 a0_1 a0_2 a0_3 a0_4 a0_5 a0_6))]) rfl) fun g15 => ?_
   refine sa rfl ?_
   refine nk hK11 ?_
   refine cx_region' ?_
   refine sb rfl rfl eg_int ru_add ?_
   refine sm rfl ?_
   refine sx_nil' ?_
   show TX E (KY1 _) _
   exact tk [2, 0] (u4 rfl rfl rfl rfl) (p2 rfl rfl) (ih1 (r15, (iadd .i64 x2 1)) g15 _ hp)
  replace hp := (br_f h3).symm.trans hp
  refine cx_exit' ?_
  replace hp := sj hp
  subst hp
  show TX E (Zg E (Exit.exit 0) _ (Exit.exit 0)) _
  exact tx_zend' g901 rfl [1] (uc rfl un) (by decide) (pc rfl pn)
 refine zg_out fun w2 => ?_
 show TX E K3 _
 refine tx_k' hK3 ?_
 refine cr fun K13 hK13 => ?_
 refine sm rfl ?_
 refine sa rfl ?_
 refine nk hK13 ?_
 refine cx_retc' ?_
 replace hp := sj hp
 subst hp
 refine tk (L' := [(2, (Vw w2))]) (H' := [(Rg KT27 27 w2 v2)]) [0] (uc rfl un) (pc rfl pn) ?_
 exact tx_ret1' Try.results18 rfl w2 (rv_tmp' rfl) lr

def spec_OfParts_j2 (k : Nat) (rec3 : ((List Nat) × (List Int) × (List (List Int)) × Int) → Option ((List Nat) × (List Int) × (List (List Int)))) (x16 : Int) (x10 : List Nat) (x11 : List Int) (x12 : List (List Int)) : Option ((List Nat) × (List Int) × (List (List Int))) :=
 rec3 (x10, x11, x12, (iadd .i64 x16 1))
def spec_OfParts_l2s (r21 : T27) (x13 : List Nat) (k : Nat) (rec2 : ((List Int) × Int) → Option ((List Int))) (x7 : List Int) (x8 : Int) : Option ((List Int)) :=
 br (decide (x8 < (r21.f4.length : Int)))
  ((idx r21.f4 x8) >>= fun r47 =>
  (apd 8 x7 ([iadd .i64 (x13.length : Int) r47])) >>= fun r54 =>
  rec2 (r54, (iadd .i64 x8 1)))
  (some x7)
def spec_OfParts_l2 (r21 : T27) (x13 : List Nat) : Nat → ((List Int) × Int) → Option ((List Int))
 | 0, _ => none
 | k + 1, v => spec_OfParts_l2s r21 x13 k (spec_OfParts_l2 r21 x13 k) v.1 v.2
def spec_OfParts_l3s (a2 : List T27) (a0 : Int) (k : Nat) (rec3 : ((List Nat) × (List Int) × (List (List Int)) × Int) → Option ((List Nat) × (List Int) × (List (List Int)))) (x13 : List Nat) (x14 : List Int) (x15 : List (List Int)) (x16 : Int) : Option ((List Nat) × (List Int) × (List (List Int))) :=
 br (decide (x16 < (a2.length : Int)))
  ((idx a2 x16) >>= fun r21 =>
  (apd 8 x13 r21.f3) >>= fun r30 =>
  br (!decide (a0 = 6))
   ((apd 8 x14 ([(r30.length : Int)])) >>= fun r40 =>
   spec_OfParts_j2 k rec3 x16 r30 r40 x15)
   ((spec_OfParts_l2 r21 x13 k ([], 0)) >>= fun v6 =>
   (apd 24 x15 ([v6])) >>= fun r60 =>
   spec_OfParts_j2 k rec3 x16 r30 x14 r60))
  (some (x13, x14, x15))
def spec_OfParts_l3 (a2 : List T27) (a0 : Int) : Nat → ((List Nat) × (List Int) × (List (List Int)) × Int) → Option ((List Nat) × (List Int) × (List (List Int)))
 | 0, _ => none
 | k + 1, v => spec_OfParts_l3s a2 a0 k (spec_OfParts_l3 a2 a0 k) v.1 v.2.1 v.2.2.1 v.2.2.2
def spec_OfParts (k : Nat) (a0 a1 : Int) (a2 : List T27) : Option (Int × Int × Int × (List Nat) × (List Int) × (List (List Int))) :=
 (spec_OfParts_l3 a2 a0 k ([], [], [], 0)) >>= fun v8 =>
 some (a0, a1, 0, v8.1, v8.2.1, v8.2.2)

theorem spec_OfParts_sim {k : Nat}  (a0 a1 : Int) (a2 : List T27) {out : Int × Int × Int × (List Nat) × (List Int) × (List (List Int))} (hp : spec_OfParts k a0 a1 a2 = some out) : Sx.Fn Try.prog 17 [(Vi a0), (Vi a1), (Sl KT27 a2)] [] (fun w : Unit => (Ag (C8 out.1 out.2.1 out.2.2.1 out.2.2.2.1 out.2.2.2.2.1 out.2.2.2.2.2))) (fun w => []) := by
 unfold spec_OfParts at hp
 refine fn_of Try.func17 rfl Try.ntmps17 rfl fun E hM => ?_
 refine cr fun K1 hK1 => ?_
 refine so (ox_alloc' info27 rfl rfl rfl rfl (l := (C1 0 0 0)) rfl) fun q6 => ?_
 refine nk hK1 ?_
 refine cr fun K2 hK2 => ?_
 iterate 2 refine sm rfl ?_
 refine sv (pls := [(0, 1), (1, 1), (2, 1), (3, 1), (4, 1), (5, 1), (6, 1)]) (qs := [(0, [(Vi a0)]), (1, [(Vi a1)])]) (r := (C1 a0 a1 0)) ⟨rfl, ⟨_, rfl, (lv_vl rfl rfl)⟩, ⟨rfl, ⟨_, rfl, (lv_vl rfl rfl)⟩, trivial⟩⟩ Try.underlying27 has27 places27 info27 rfl rfl rfl ?_
 refine so (ox_alloc' info27 rfl rfl rfl rfl (l := (C1 0 0 0)) rfl) fun q7 => ?_
 refine so (ox_store' (i := 0) (o := 0) rfl rfl (lv_ag _) (ar rfl rfl rfl rfl) rfl info27 rfl (H' := [(Ur q7 27 (C1 a0 a1 0)), (Ur q6 27 (C1 0 0 0))]) rfl) fun _ => ?_
 refine nk hK2 ?_
 refine cx_seq' fun K3 hK3 => ?_
 refine cr fun K4 hK4 => ?_
 refine sm rfl ?_
 refine sk rfl Try.underlying25 ?_
 refine sm rfl ?_
 refine nk hK4 ?_
 refine cx_block' ?_
 obtain ⟨v8, hy3, hp⟩ := bind_some hp
 refine tx_nilrow' Kf 32 ?_
 refine tx_nilrow' (Ki .i64) 3 ?_
 refine tx_nilrow' (Kl (Ki .i64)) 23 ?_
 refine cx_loopg' (F := spec_OfParts_l3 a2 a0) (G := fun k R v => spec_OfParts_l3s a2 a0 k R v.1 v.2.1 v.2.2.1 v.2.2.2) (x := ([], [], [], 0)) (gh := ((none, 0, 0), (none, 0, 0), (none, 0, 0))) (fun (v4 : (List Nat) × (List Int) × (List (List Int)) × Int) (w4 : Gs × Gs × Gs) => (⟨64, [], [(0, (Vi a0)), (6, (Vp q6)), (7, (Vp q7)), (17, (Sl KT27 a2)), (18, (Vi (a2.length : Int))), (19, (Vi v4.2.2.2))], [(Ur q6 27 (C1 0 0 0)), (Ur q7 27 (C13 a0 a1 0 w4.1 w4.2.1 w4.2.2)), (Rg Kf 32 w4.1 v4.1), (Rg (Ki .i64) 3 w4.2.1 v4.2.1), (Rg (Kl (Ki .i64)) 23 w4.2.2 v4.2.2.1)]⟩ : St)) (fun (v8 : (List Nat) × (List Int) × (List (List Int))) => Zg E (Exit.exit 0) (fun (w8 : Gs × Gs × Gs) => (⟨64, [], [(6, (Vp q6)), (7, (Vp q7))], [(Ur q6 27 (C1 0 0 0)), (Ur q7 27 (C13 a0 a1 0 w8.1 w8.2.1 w8.2.2)), (Rg Kf 32 w8.1 v8.1), (Rg (Ki .i64) 3 w8.2.1 v8.2.1), (Rg (Kl (Ki .i64)) 23 w8.2.2 v8.2.2)]⟩ : St))) (fun _ => rfl) (fun _ _ => rfl) ?_ hy3 (tx_to' rfl [4, 3, 2, 1, 0] (u6 rfl rfl rfl rfl rfl rfl) (by decide) (p5 rfl rfl rfl rfl rfl)) ?_
 ·clear hp hy3
  clear v8
  intro k rec3 KY3 ih3
  rintro ⟨x13, x14, x15, x16⟩ ⟨g9011, g9012, g9013⟩ y3 hp
  replace hp : spec_OfParts_l3s a2 a0 k rec3 x13 x14 x15 x16 = some y3 := hp
  unfold spec_OfParts_l3s at hp
  refine cr fun K25 hK25 => ?_
  refine sb rfl rfl eg_int ru_lss ?_
  refine nk hK25 ?_
  refine cx_seq' fun K26 hK26 => ?_
  refine cx_cond' rfl (fun h7 => ?_) (fun h7 => ?_)
  ·replace hp := (br_t h7).symm.trans hp
   refine cx_skip' ?_
   show TX E K26 _
   refine tx_k' hK26 ?_
   refine cx_join' (fun (v7 : (List Nat) × (List Int) × (List (List Int)) × Gs × Gs × Gs) => (⟨64, [], [(0, (Vi a0)), (6, (Vp q6)), (7, (Vp q7)), (17, (Sl KT27 a2)), (18, (Vi (a2.length : Int))), (19, (Vi x16))], [(Ur q6 27 (C1 0 0 0)), (Ur q7 27 (C13 a0 a1 0 v7.2.2.2.1 v7.2.2.2.2.1 v7.2.2.2.2.2)), (Rg Kf 32 v7.2.2.2.1 v7.1), (Rg (Ki .i64) 3 v7.2.2.2.2.1 v7.2.1), (Rg (Kl (Ki .i64)) 23 v7.2.2.2.2.2 v7.2.2.1)]⟩ : St)) (fun (v7 : (List Nat) × (List Int) × (List (List Int)) × Gs × Gs × Gs) => spec_OfParts_j2 k rec3 x16 v7.1 v7.2.1 v7.2.2.1 = some y3) ?_ ?_
   ·rintro ⟨x10, x11, x12, g908, g909, g9010⟩ hp
    replace hp : spec_OfParts_j2 k rec3 x16 x10 x11 x12 = some y3 := hp
    unfold spec_OfParts_j2 at hp
    refine cx_region' ?_
    refine sb rfl rfl eg_int ru_add ?_
    refine sm rfl ?_
    refine sx_nil' ?_
    show TX E (KY3 _) _
    exact tk [0, 1, 2, 3, 4] (u6 rfl rfl rfl rfl rfl rfl) (p5 rfl rfl rfl rfl rfl) (ih3 (x10, x11, x12, (iadd .i64 x16 1)) (g908, g909, g9010) _ hp)
   intro K27 hK27
   refine cx_block' ?_
   refine cr fun K28 hK28 => ?_
   obtain ⟨r21, hr21, hp⟩ := bind_some hp
   refine s0 (rd_eq' (congrArg Pt (KT27_enc r21)) (rd_at' (K := KT27) rfl rfl hr21 Try.underlying25 info27)) ?_
   refine s0 (rd_load_pt_agg' (nn := 7) rfl rfl agg27 (l' := (C0 r21.f0 r21.f1 r21.f2 r21.f3 r21.f4 r21.f5 r21.f6)) rfl) ?_
   refine so (ox_alloc' info27 rfl rfl rfl rfl (l := (C1 0 0 0)) rfl) fun q9 => ?_
   refine so (ox_store' (i := 0) (o := 0) rfl rfl (lv_ag _) (ar rfl rfl rfl rfl) rfl info27 rfl (H' := [(Ur q9 27 (C0 r21.f0 r21.f1 r21.f2 r21.f3 r21.f4 r21.f5 r21.f6)), (Ur q6 27 (C1 0 0 0)), (Ur q7 27 (C13 a0 a1 0 g9011 g9012 g9013)), (Rg Kf 32 g9011 x13), (Rg (Ki .i64) 3 g9012 x14), (Rg (Kl (Ki .i64)) 23 g9013 x15)]) rfl) fun _ => ?_
   refine nk hK28 ?_
   refine cr fun K29 hK29 => ?_
   refine sg (off := 3) rfl Try.underlying27 rfl info22 rfl ?_
   refine sl (i := 2) (o := 3) rfl (ar rfl rfl rfl rfl) rfl flat22 ?_
   refine s0 (rd_lenr' (i := 3) rfl rfl rfl Try.underlying22) ?_
   refine sa rfl ?_
   refine nk hK29 ?_
   refine cr fun K30 hK30 => ?_
   refine sg (off := 3) rfl Try.underlying27 rfl info22 rfl ?_
   refine sl (i := 2) (o := 3) rfl (ar rfl rfl rfl rfl) rfl flat22 ?_
   refine sg (off := 3) rfl Try.underlying27 rfl info22 rfl ?_
   refine sl (i := 0) (o := 3) rfl (ar rfl rfl rfl rfl) rfl flat22 ?_
   obtain ⟨r30, hr30, hp⟩ := bind_some hp
   refine so (ox_append' (K := Kf) (i := 3) (xs := x13) (ys := r21.f3) rfl rfl rfl (sr_sl' rfl Try.underlying22) hr30 Try.underlying22 info32 rfl rfl rfl (H' := [(Ur q9 27 (C0 r21.f0 r21.f1 r21.f2 r21.f3 r21.f4 r21.f5 r21.f6)), (Ur q6 27 (C1 0 0 0)), (Ur q7 27 (C13 a0 a1 0 g9011 g9012 g9013)), (Rg (Ki .i64) 3 g9012 x14), (Rg (Kl (Ki .i64)) 23 g9013 x15)]) rfl) fun g30 => ?_
   refine sg (off := 3) rfl Try.underlying27 rfl info22 rfl ?_
   refine so (ox_store' (i := 3) (o := 3) rfl rfl (lv_vl rfl rfl) (ar rfl rfl rfl rfl) rfl info22 rfl (H' := [(Rg Kf 32 g30 r30), (Ur q9 27 (C0 r21.f0 r21.f1 r21.f2 r21.f3 r21.f4 r21.f5 r21.f6)), (Ur q6 27 (C1 0 0 0)), (Ur q7 27 (C13 a0 a1 0 g30 g9012 g9013)), (Rg (Ki .i64) 3 g9012 x14), (Rg (Kl (Ki .i64)) 23 g9013 x15)]) rfl) fun _ => ?_
   refine nk hK30 ?_
   refine cx_seq' fun K31 hK31 => ?_
   refine cr fun K32 hK32 => ?_
   refine sm rfl ?_
   refine sb rfl rfl eg_int ru_neq ?_
   refine nk hK32 ?_
   refine cx_cond' rfl (fun h8 => ?_) (fun h8 => ?_)
   ·replace hp := (br_t h8).symm.trans hp
    refine cr fun K33 hK33 => ?_
    refine sg (off := 4) rfl Try.underlying27 rfl info23 rfl ?_
    refine sl (i := 3) (o := 4) rfl (ar rfl rfl rfl rfl) rfl flat23 ?_
    refine sg (off := 3) rfl Try.underlying27 rfl info22 rfl ?_
    refine sl (i := 3) (o := 3) rfl (ar rfl rfl rfl rfl) rfl flat22 ?_
    refine s0 (rd_lenr' (i := 0) rfl rfl rfl Try.underlying22) ?_
    refine so (ox_rowlit' (K := (Ki .i64)) (xs := [(r30.length : Int)]) (qs := [(0, [(Vi (r30.length : Int))])]) ⟨rfl, ⟨_, rfl, (lv_vl rfl rfl)⟩, trivial⟩ Try.underlying23 info3 rfl rfl rfl rfl rfl (by kernel_rfl) rfl rfl rfl) fun g39 => ?_
    obtain ⟨r40, hr40, hp⟩ := bind_some hp
    refine so (ox_append' (K := (Ki .i64)) (i := 5) (xs := x14) (ys := ([(r30.length : Int)])) rfl rfl rfl (sr_row' (j := 0) rfl rfl rfl Try.underlying23) hr40 Try.underlying23 info3 rfl rfl rfl (H' := [(Rg (Ki .i64) 3 g39 ([(r30.length : Int)])), (Rg Kf 32 g30 r30), (Ur q9 27 (C0 r21.f0 r21.f1 r21.f2 r21.f3 r21.f4 r21.f5 r21.f6)), (Ur q6 27 (C1 0 0 0)), (Ur q7 27 (C13 a0 a1 0 g30 g9012 g9013)), (Rg (Kl (Ki .i64)) 23 g9013 x15)]) rfl) fun g40 => ?_
    refine sg (off := 4) rfl Try.underlying27 rfl info23 rfl ?_
    refine so (ox_store' (i := 5) (o := 4) rfl rfl (lv_vl rfl rfl) (ar rfl rfl rfl rfl) rfl info23 rfl (H' := [(Rg (Ki .i64) 3 g40 r40), (Rg (Ki .i64) 3 g39 ([(r30.length : Int)])), (Rg Kf 32 g30 r30), (Ur q9 27 (C0 r21.f0 r21.f1 r21.f2 r21.f3 r21.f4 r21.f5 r21.f6)), (Ur q6 27 (C1 0 0 0)), (Ur q7 27 (C13 a0 a1 0 g30 g40 g9013)), (Rg (Kl (Ki .i64)) 23 g9013 x15)]) rfl) fun _ => ?_
    refine nk hK33 ?_
    refine cx_exit' ?_
    show TX E K27 _
    exact tk [4, 5, 2, 0, 6] (u6 rfl rfl rfl rfl rfl rfl) (p5 rfl rfl rfl rfl rfl) (hK27 (r30, r40, x15, g30, g40, g9013) hp)
   replace hp := (br_f h8).symm.trans hp
   refine cx_skip' ?_
   show TX E K31 _
   refine tx_k' hK31 ?_
   refine cr fun K34 hK34 => ?_
   refine sa rfl ?_
   refine nk hK34 ?_
   refine cx_seq' fun K35 hK35 => ?_
   refine cr fun K36 hK36 => ?_
   refine sg (off := 4) rfl Try.underlying27 rfl info23 rfl ?_
   refine sl (i := 1) (o := 4) rfl (ar rfl rfl rfl rfl) rfl flat23 ?_
   refine sk rfl Try.underlying23 ?_
   refine sm rfl ?_
   refine nk hK36 ?_
   refine cx_block' ?_
   obtain ⟨v6, hy2, hp⟩ := bind_some hp
   refine tx_nilrow' (Ki .i64) 3 ?_
   refine cx_loopg' (F := spec_OfParts_l2 r21 x13) (G := fun k R v => spec_OfParts_l2s r21 x13 k R v.1 v.2) (x := ([], 0)) (gh := (none, 0, 0)) (fun (v5 : (List Int) × Int) (w5 : Gs) => (⟨64, [], [(0, (Vi a0)), (6, (Vp q6)), (7, (Vp q7)), (10, (Vi (x13.length : Int))), (11, (Vw w5)), (17, (Sl KT27 a2)), (18, (Vi (a2.length : Int))), (19, (Vi x16)), (43, (Sl (Ki .i64) r21.f4)), (44, (Vi (r21.f4.length : Int))), (45, (Vi v5.2))], [(Ur q6 27 (C1 0 0 0)), (Ur q7 27 (C13 a0 a1 0 g30 g9012 g9013)), (Rg Kf 32 g30 r30), (Rg (Ki .i64) 3 g9012 x14), (Rg (Kl (Ki .i64)) 23 g9013 x15), (Rg (Ki .i64) 3 w5 v5.1)]⟩ : St)) (fun (v6 : (List Int)) => Zg E (Exit.exit 2) (fun (w6 : Gs) => (⟨64, [], [(0, (Vi a0)), (6, (Vp q6)), (7, (Vp q7)), (11, (Vw w6)), (17, (Sl KT27 a2)), (18, (Vi (a2.length : Int))), (19, (Vi x16))], [(Ur q6 27 (C1 0 0 0)), (Ur q7 27 (C13 a0 a1 0 g30 g9012 g9013)), (Rg Kf 32 g30 r30), (Rg (Ki .i64) 3 g9012 x14), (Rg (Kl (Ki .i64)) 23 g9013 x15), (Rg (Ki .i64) 3 w6 v6)]⟩ : St))) (fun _ => rfl) (fun _ _ => rfl) ?_ hy2 (tx_to' rfl [3, 4, 1, 5, 6, 0] (u11 rfl rfl rfl rfl rfl rfl rfl rfl rfl rfl rfl) (by decide) (p6 rfl rfl rfl rfl rfl rfl)) ?_
   ·clear hp hy2
    clear v6
    intro k rec2 KY2 ih2
    rintro ⟨x7, x8⟩ g906 y2 hp
    replace hp : spec_OfParts_l2s r21 x13 k rec2 x7 x8 = some y2 := hp
    unfold spec_OfParts_l2s at hp
    refine cr fun K41 hK41 => ?_
    refine sb rfl rfl eg_int ru_lss ?_
    refine nk hK41 ?_
    refine cx_seq' fun K42 hK42 => ?_
    refine cx_cond' rfl (fun h11 => ?_) (fun h11 => ?_)
    ·replace hp := (br_t h11).symm.trans hp
     refine cx_skip' ?_
     show TX E K42 _
     refine tx_k' hK42 ?_
     refine cx_seq' fun K43 hK43 => ?_
     refine cx_block' ?_
     refine cr fun K44 hK44 => ?_
     obtain ⟨r47, hr47, hp⟩ := bind_some hp
     refine s0 (rd_at' (K := (Ki .i64)) rfl rfl hr47 Try.underlying23 info3) ?_
     refine s0 (rd_load_pt' rfl rfl flat3) ?_
     refine sa rfl ?_
     refine nk hK44 ?_
     refine cx_region' ?_
     iterate 3 refine sm rfl ?_
     refine sb rfl rfl eg_int ru_add ?_
     refine so (ox_rowlit' (K := (Ki .i64)) (xs := [iadd .i64 (x13.length : Int) r47]) (qs := [(0, [(Vi (iadd .i64 (x13.length : Int) r47))])]) ⟨rfl, ⟨_, rfl, (lv_vl rfl rfl)⟩, trivial⟩ Try.underlying23 info3 rfl rfl rfl rfl rfl (by kernel_rfl) rfl rfl rfl) fun g53 => ?_
     obtain ⟨r54, hr54, hp⟩ := bind_some hp
     refine so (ox_append' (K := (Ki .i64)) (i := 6) (xs := x7) (ys := ([iadd .i64 (x13.length : Int) r47])) rfl rfl rfl (sr_row' (j := 0) rfl rfl rfl Try.underlying23) hr54 Try.underlying23 info3 rfl rfl rfl (H' := [(Rg (Ki .i64) 3 g53 ([iadd .i64 (x13.length : Int) r47])), (Ur q6 27 (C1 0 0 0)), (Ur q7 27 (C13 a0 a1 0 g30 g9012 g9013)), (Rg Kf 32 g30 r30), (Rg (Ki .i64) 3 g9012 x14), (Rg (Kl (Ki .i64)) 23 g9013 x15)]) rfl) fun g54 => ?_
     refine sa rfl ?_
     refine nk hK43 ?_
     refine cx_region' ?_
     refine sb rfl rfl eg_int ru_add ?_
     refine sm rfl ?_
     refine sx_nil' ?_
     show TX E (KY2 _) _
     exact tk [2, 3, 4, 5, 6, 0] (u11 rfl rfl rfl rfl rfl rfl rfl rfl rfl rfl rfl) (p6 rfl rfl rfl rfl rfl rfl) (ih2 (r54, (iadd .i64 x8 1)) g54 _ hp)
    replace hp := (br_f h11).symm.trans hp
    refine cx_exit' ?_
    replace hp := sj hp
    subst hp
    show TX E (Zg E (Exit.exit 2) _ (Exit.exit 2)) _
    exact tx_zend' g906 rfl [0, 1, 2, 3, 4, 5] (u7 rfl rfl rfl rfl rfl rfl rfl) (by decide) (p6 rfl rfl rfl rfl rfl rfl)
   refine zg_out fun w6 => ?_
   show TX E K35 _
   refine tx_k' hK35 ?_
   refine cx_region' ?_
   refine sg (off := 5) rfl Try.underlying27 rfl info24 rfl ?_
   refine sl (i := 1) (o := 5) rfl (ar rfl rfl rfl rfl) rfl flat24 ?_
   refine sm rfl ?_
   refine tx_fz' (frz_row 5 [(11, (Vw w6), (Sl (Ki .i64) v6)), (58, (Vw w6), (Sl (Ki .i64) v6))] (K := (Ki .i64)) (xs := v6) (by decide) rfl ⟨⟨rfl, frz_it⟩, ⟨rfl, frz_it⟩, trivial⟩ (H' := [(Ur q6 27 (C1 0 0 0)), (Ur q7 27 (C13 a0 a1 0 g30 g9012 g9013)), (Rg Kf 32 g30 r30), (Rg (Ki .i64) 3 g9012 x14), (Rg (Kl (Ki .i64)) 23 g9013 x15)]) frzH_refl) ?_
   refine so (ox_rowlit' (K := (Kl (Ki .i64))) (xs := [v6]) (qs := [(0, [(Sl (Ki .i64) v6)])]) ⟨rfl, ⟨_, rfl, (lv_sl _ _)⟩, trivial⟩ Try.underlying24 info23 rfl rfl rfl rfl rfl (by kernel_rfl) rfl rfl rfl) fun g59 => ?_
   obtain ⟨r60, hr60, hp⟩ := bind_some hp
   refine so (ox_append' (K := (Kl (Ki .i64))) (i := 5) (xs := x15) (ys := ([v6])) rfl rfl rfl (sr_row' (j := 0) rfl rfl rfl Try.underlying24) hr60 Try.underlying24 info23 rfl rfl rfl (H' := [(Rg (Kl (Ki .i64)) 23 g59 ([v6])), (Ur q6 27 (C1 0 0 0)), (Ur q7 27 (C13 a0 a1 0 g30 g9012 g9013)), (Rg Kf 32 g30 r30), (Rg (Ki .i64) 3 g9012 x14)]) rfl) fun g60 => ?_
   refine sg (off := 5) rfl Try.underlying27 rfl info24 rfl ?_
   refine so (ox_store' (i := 3) (o := 5) rfl rfl (lv_vl rfl rfl) (ar rfl rfl rfl rfl) rfl info24 rfl (H' := [(Rg (Kl (Ki .i64)) 23 g60 r60), (Rg (Kl (Ki .i64)) 23 g59 ([v6])), (Ur q6 27 (C1 0 0 0)), (Ur q7 27 (C13 a0 a1 0 g30 g9012 g60)), (Rg Kf 32 g30 r30), (Rg (Ki .i64) 3 g9012 x14)]) rfl) fun _ => ?_
   refine sx_nil' ?_
   show TX E K27 _
   exact tk [2, 3, 4, 5, 0] (u6 rfl rfl rfl rfl rfl rfl) (p5 rfl rfl rfl rfl rfl) (hK27 (r30, x14, r60, g30, g9012, g60) hp)
  replace hp := (br_f h7).symm.trans hp
  refine cx_exit' ?_
  replace hp := sj hp
  subst hp
  show TX E (Zg E (Exit.exit 0) _ (Exit.exit 0)) _
  exact tx_zend' (g9011, g9012, g9013) rfl [0, 1, 2, 3, 4] (u2 rfl rfl) (by decide) (p5 rfl rfl rfl rfl rfl)
 refine zg_out fun w8 => ?_
 show TX E K3 _
 refine tx_k' hK3 ?_
 refine cr fun K45 hK45 => ?_
 refine s0 (rd_load_agg' (i := 1) (o := 0) (nn := 7) rfl (ar rfl rfl rfl rfl) rfl agg27 (l' := (C13 a0 a1 0 w8.1 w8.2.1 w8.2.2)) rfl) ?_
 refine so (ox_store' (i := 0) (o := 0) rfl rfl (lv_ag _) (ar rfl rfl rfl rfl) rfl info27 rfl (H' := [(Ur q6 27 (C13 a0 a1 0 w8.1 w8.2.1 w8.2.2)), (Ur q7 27 (C13 a0 a1 0 w8.1 w8.2.1 w8.2.2)), (Rg Kf 32 w8.1 v8.1), (Rg (Ki .i64) 3 w8.2.1 v8.2.1), (Rg (Kl (Ki .i64)) 23 w8.2.2 v8.2.2)]) rfl) fun _ => ?_
 refine nk hK45 ?_
 refine cx_retc' ?_
 replace hp := sj hp
 subst hp
 refine tx_fz' (frz_row 2 [(63, (Ag (C13 a0 a1 0 w8.1 w8.2.1 w8.2.2)), (Ag (C21 a0 a1 0 v8.1 w8.2.1 w8.2.2)))] (K := Kf) (xs := v8.1) (by decide) rfl ⟨⟨rfl, fz_ag (fc f0 (fc f0 (fc f0 (fc fz0_it (fc f0 (fc f0 (fc f0 fz0_nil)))))))⟩, trivial⟩ (H' := [(Ur q6 27 (C21 a0 a1 0 v8.1 w8.2.1 w8.2.2)), (Ur q7 27 (C21 a0 a1 0 v8.1 w8.2.1 w8.2.2)), (Rg (Ki .i64) 3 w8.2.1 v8.2.1), (Rg (Kl (Ki .i64)) 23 w8.2.2 v8.2.2)]) (fh rfl rfl rfl (fl fs (fl fs (fl fs (fl frz_it (fl fs (fl fs (fl fs frzL_refl))))))) (fh rfl rfl rfl (fl fs (fl fs (fl fs (fl frz_it (fl fs (fl fs (fl fs frzL_refl))))))) (fk (fk frzH_refl))))) ?_
 refine tx_fz' (frz_row 2 [(63, (Ag (C21 a0 a1 0 v8.1 w8.2.1 w8.2.2)), (Ag (C17 a0 a1 0 v8.1 v8.2.1 w8.2.2)))] (K := (Ki .i64)) (xs := v8.2.1) (by decide) rfl ⟨⟨rfl, fz_ag (fc f0 (fc f0 (fc f0 (fc f0 (fc fz0_it (fc f0 (fc f0 fz0_nil)))))))⟩, trivial⟩ (H' := [(Ur q6 27 (C17 a0 a1 0 v8.1 v8.2.1 w8.2.2)), (Ur q7 27 (C17 a0 a1 0 v8.1 v8.2.1 w8.2.2)), (Rg (Kl (Ki .i64)) 23 w8.2.2 v8.2.2)]) (fh rfl rfl rfl (fl fs (fl fs (fl fs (fl fs (fl frz_it (fl fs (fl fs frzL_refl))))))) (fh rfl rfl rfl (fl fs (fl fs (fl fs (fl fs (fl frz_it (fl fs (fl fs frzL_refl))))))) (fk frzH_refl)))) ?_
 refine tx_fz' (frz_row 2 [(63, (Ag (C17 a0 a1 0 v8.1 v8.2.1 w8.2.2)), (Ag (C8 a0 a1 0 v8.1 v8.2.1 v8.2.2)))] (K := (Kl (Ki .i64))) (xs := v8.2.2) (by decide) rfl ⟨⟨rfl, fz_ag (fc f0 (fc f0 (fc f0 (fc f0 (fc f0 (fc fz0_it (fc f0 fz0_nil)))))))⟩, trivial⟩ (H' := [(Ur q6 27 (C8 a0 a1 0 v8.1 v8.2.1 v8.2.2)), (Ur q7 27 (C8 a0 a1 0 v8.1 v8.2.1 v8.2.2))]) (fh rfl rfl rfl (fl fs (fl fs (fl fs (fl fs (fl fs (fl frz_it (fl fs frzL_refl))))))) (fh rfl rfl rfl (fl fs (fl fs (fl fs (fl fs (fl fs (fl frz_it (fl fs frzL_refl))))))) frzH_refl))) ?_
 refine tk (L' := [(6, (Vp q6))]) (H' := [(Ur q6 27 (C8 a0 a1 0 v8.1 v8.2.1 v8.2.2))]) [0] (uc rfl un) (pc rfl pn) ?_
 exact tx_ret1' Try.results17 rfl () (rv_cell_agg' (i := 0) (o := 0) (nn := 7) rfl (ar rfl rfl rfl rfl) rfl agg27 rfl) (List.nil_sublist _)

def impl_floats (k : Nat) (a0 : List Nat) : Option ((List Nat)) :=
 (apd 8 [] a0) >>= fun r4 =>
 some r4

theorem impl_floats_sim {k : Nat}  (a0 : List Nat) {out : (List Nat)} (hp : impl_floats k a0 = some out) : Sx.Fn Try.prog 59 [(Sl Kf a0)] [] (fun w : Gs => (Vw w)) (fun w => [(Rg Kf 32 w out)]) := by
 unfold impl_floats at hp
 refine fn_of Try.func59 rfl Try.ntmps59 rfl fun E hM => ?_
 refine cr fun K1 hK1 => ?_
 refine sa rfl ?_
 refine nk hK1 ?_
 refine cr fun K2 hK2 => ?_
 refine sm rfl ?_
 refine tx_nilrow' Kf 32 ?_
 obtain ⟨r4, hr4, hp⟩ := bind_some hp
 refine so (ox_append' (K := Kf) (i := 0) (xs := []) (ys := a0) rfl rfl rfl (sr_sl' rfl Try.underlying22) hr4 Try.underlying22 info32 rfl rfl rfl (H' := []) rfl) fun g4 => ?_
 refine sa rfl ?_
 refine nk hK2 ?_
 refine cx_retc' ?_
 replace hp := sj hp
 subst hp
 refine tk (L' := [(2, (Vw g4))]) (H' := [(Rg Kf 32 g4 r4)]) [0] (uc rfl un) (pc rfl pn) ?_
 exact tx_ret1' Try.results59 rfl g4 (rv_tmp' rfl) lr

def gogeom_Layout_Stride (k : Nat) (a0 : Int) : Option (Int) :=
 br (decide (a0 = 0))
  (some 0)
  (br (decide (a0 = 1))
   (some 2)
   (br (decide (a0 = 2))
    (some 3)
    (br (decide (a0 = 3))
     (some 3)
     (br (decide (a0 = 4))
      (some 4)
      (some a0)))))

theorem gogeom_Layout_Stride_sim {k : Nat}  (a0 : Int) {out : Int} (hp : gogeom_Layout_Stride k a0 = some out) : Sx.Fn Try.prog 89 [(Vi a0)] [] (fun w : Unit => (Vi out)) (fun w => []) := by
 unfold gogeom_Layout_Stride at hp
 refine fn_of Try.func89 rfl Try.ntmps89 rfl fun E hM => ?_
 refine cr fun K1 hK1 => ?_
 refine sa rfl ?_
 refine nk hK1 ?_
 refine cr fun K2 hK2 => ?_
 refine sm rfl ?_
 refine nk hK2 ?_
 refine cx_block' ?_
 refine cr fun K3 hK3 => ?_
 refine sb rfl rfl eg_int ru_eql ?_
 refine sa rfl ?_
 refine nk hK3 ?_
 refine cx_cond' rfl (fun h1 => ?_) (fun h1 => ?_)
 ·replace hp := (br_t h1).symm.trans hp
  refine cr fun K4 hK4 => ?_
  refine sa rfl ?_
  refine nk hK4 ?_
  refine cx_retc' ?_
  replace hp := sj hp
  subst hp
  refine tk (L' := [(2, (Vi 0))]) (H' := []) [] (uc rfl un) pn ?_
  exact tx_ret1' Try.results89 rfl () (rv_tmp' rfl) lr
 replace hp := (br_f h1).symm.trans hp
 refine cr fun K5 hK5 => ?_
 refine sb rfl rfl eg_int ru_eql ?_
 refine sa rfl ?_
 refine nk hK5 ?_
 refine cx_cond' rfl (fun h2 => ?_) (fun h2 => ?_)
 ·replace hp := (br_t h2).symm.trans hp
  refine cr fun K6 hK6 => ?_
  refine sa rfl ?_
  refine nk hK6 ?_
  refine cx_retc' ?_
  replace hp := sj hp
  subst hp
  refine tk (L' := [(2, (Vi 2))]) (H' := []) [] (uc rfl un) pn ?_
  exact tx_ret1' Try.results89 rfl () (rv_tmp' rfl) lr
 replace hp := (br_f h2).symm.trans hp
 refine cr fun K7 hK7 => ?_
 refine sb rfl rfl eg_int ru_eql ?_
 refine sa rfl ?_
 refine nk hK7 ?_
 refine cx_cond' rfl (fun h3 => ?_) (fun h3 => ?_)
 ·replace hp := (br_t h3).symm.trans hp
  refine cr fun K8 hK8 => ?_
  refine sa rfl ?_
  refine nk hK8 ?_
  refine cx_retc' ?_
  replace hp := sj hp
  subst hp
  refine tk (L' := [(2, (Vi 3))]) (H' := []) [] (uc rfl un) pn ?_
  exact tx_ret1' Try.results89 rfl () (rv_tmp' rfl) lr
 replace hp := (br_f h3).symm.trans hp
 refine cr fun K9 hK9 => ?_
 refine sb rfl rfl eg_int ru_eql ?_
 refine sa rfl ?_
 refine nk hK9 ?_
 refine cx_cond' rfl (fun h4 => ?_) (fun h4 => ?_)
 ·replace hp := (br_t h4).symm.trans hp
  refine cr fun K10 hK10 => ?_
  refine sa rfl ?_
  refine nk hK10 ?_
  refine cx_retc' ?_
  replace hp := sj hp
  subst hp
  refine tk (L' := [(2, (Vi 3))]) (H' := []) [] (uc rfl un) pn ?_
  exact tx_ret1' Try.results89 rfl () (rv_tmp' rfl) lr
 replace hp := (br_f h4).symm.trans hp
 refine cr fun K11 hK11 => ?_
 refine sb rfl rfl eg_int ru_eql ?_
 refine sa rfl ?_
 refine nk hK11 ?_
 refine cx_cond' rfl (fun h5 => ?_) (fun h5 => ?_)
 ·replace hp := (br_t h5).symm.trans hp
  refine cr fun K12 hK12 => ?_
  refine sa rfl ?_
  refine nk hK12 ?_
  refine cx_retc' ?_
  replace hp := sj hp
  subst hp
  refine tk (L' := [(2, (Vi 4))]) (H' := []) [] (uc rfl un) pn ?_
  exact tx_ret1' Try.results89 rfl () (rv_tmp' rfl) lr
 replace hp := (br_f h5).symm.trans hp
 refine cr fun K13 hK13 => ?_
 refine sm rfl ?_
 refine sa rfl ?_
 refine nk hK13 ?_
 refine cx_retc' ?_
 replace hp := sj hp
 subst hp
 refine tk (L' := [(2, (Vi a0))]) (H' := []) [] (uc rfl un) pn ?_
 exact tx_ret1' Try.results89 rfl () (rv_tmp' rfl) lr

def gogeom_NewPointFlat (k : Nat) (a0 : Int) (a1 : List Nat) : Option (Int × Int × (List Nat) × Int) :=
 (gogeom_Layout_Stride k a0) >>= fun r14 =>
 some (a0, r14, a1, 0)

theorem gogeom_NewPointFlat_sim {k : Nat}  (a0 : Int) (a1 : List Nat) {out : Int × Int × (List Nat) × Int} (hp : gogeom_NewPointFlat k a0 a1 = some out) : Sx.Fn Try.prog 60 [(Vi a0), (Sl Kf a1)] [] (fun w : Addr => (Vp w)) (fun w => [(Ur w 135 (C3 out.1 out.2.1 out.2.2.1 out.2.2.2))]) := by
 unfold gogeom_NewPointFlat at hp
 refine fn_of Try.func60 rfl Try.ntmps60 rfl fun E hM => ?_
 refine cr fun K1 hK1 => ?_
 refine sa rfl ?_
 refine nk hK1 ?_
 refine cr fun K2 hK2 => ?_
 refine so (ox_alloc' info135 rfl rfl rfl rfl (l := [(Vi 0), (Vi 0), Vn, (Vi 0)]) rfl) fun q6 => ?_
 refine sa rfl ?_
 refine nk hK2 ?_
 refine cr fun K3 hK3 => ?_
 iterate 2 refine sm rfl ?_
 refine sn rfl ?_
 refine sf rfl Try.underlying135 rfl info124 rfl ?_
 refine sf rfl Try.underlying124 rfl info61 rfl ?_
 refine so (ox_store' (i := 0) (o := 0) rfl rfl (lv_vl rfl rfl) (ar rfl rfl rfl rfl) rfl info61 rfl (H' := [(Ur q6 135 [(Vi a0), (Vi 0), Vn, (Vi 0)])]) rfl) fun _ => ?_
 refine nk hK3 ?_
 refine cr fun K4 hK4 => ?_
 iterate 2 refine sm rfl ?_
 obtain ⟨r14, hr14, hp⟩ := bind_some hp
 refine so (oz (ent_fn' Try.func89 isn89 rfl rfl) (gogeom_Layout_Stride_sim _ hr14)) fun ⟨⟩ => ?_
 refine sn rfl ?_
 refine sf rfl Try.underlying135 rfl info124 rfl ?_
 refine sg (off := 1) rfl Try.underlying124 rfl info3 rfl ?_
 refine so (ox_store' (i := 0) (o := 1) rfl rfl (lv_vl rfl rfl) (ar rfl rfl rfl rfl) rfl info3 rfl (H' := [(Ur q6 135 [(Vi a0), (Vi r14), Vn, (Vi 0)])]) rfl) fun _ => ?_
 refine nk hK4 ?_
 refine cr fun K5 hK5 => ?_
 iterate 2 refine sm rfl ?_
 refine sn rfl ?_
 refine sf rfl Try.underlying135 rfl info124 rfl ?_
 refine sg (off := 2) rfl Try.underlying124 rfl info22 rfl ?_
 refine so (ox_store' (i := 0) (o := 2) rfl rfl (lv_sl _ _) (ar rfl rfl rfl rfl) rfl info22 rfl (H' := [(Ur q6 135 (C3 a0 r14 a1 0))]) rfl) fun _ => ?_
 refine nk hK5 ?_
 refine cr fun K6 hK6 => ?_
 refine sm rfl ?_
 refine sa rfl ?_
 refine nk hK6 ?_
 refine cx_retc' ?_
 replace hp := sj hp
 subst hp
 refine tk (L' := [(4, (Vp q6))]) (H' := [(Ur q6 135 (C3 a0 r14 a1 0))]) [0] (uc rfl un) (pc rfl pn) ?_
 exact tx_ret1' Try.results60 rfl q6 (rv_tmp' rfl) lr

def gogeom_Point_SetSRID (k : Nat) (a0_0 a0_1 : Int) (a0_2 : List Nat) (a0_3 a1 : Int) : Option (Int × Int × (List Nat) × Int) :=
 some (a0_0, a0_1, a0_2, a1)

theorem gogeom_Point_SetSRID_sim {k : Nat} {wa0 : Addr} (a0_0 a0_1 : Int) (a0_2 : List Nat) (a0_3 a1 : Int) {out : Int × Int × (List Nat) × Int} (hp : gogeom_Point_SetSRID k a0_0 a0_1 a0_2 a0_3 a1 = some out) : Sx.Fn Try.prog 61 [(Vp wa0), (Vi a1)] [(Ur wa0 135 (C3 a0_0 a0_1 a0_2 a0_3))] (fun w : Unit => (Vp wa0)) (fun w => [(Ur wa0 135 (C3 out.1 out.2.1 out.2.2.1 out.2.2.2))]) := by
 unfold gogeom_Point_SetSRID at hp
 refine fn_of Try.func61 rfl Try.ntmps61 rfl fun E hM => ?_
 refine cr fun K1 hK1 => ?_
 refine sa rfl ?_
 refine nk hK1 ?_
 refine cr fun K2 hK2 => ?_
 iterate 2 refine sm rfl ?_
 refine sn rfl ?_
 refine sf rfl Try.underlying135 rfl info124 rfl ?_
 refine sg (off := 3) rfl Try.underlying124 rfl info3 rfl ?_
 refine so (ox_store' (i := 0) (o := 3) rfl rfl (lv_vl rfl rfl) (ar rfl rfl rfl rfl) rfl info3 rfl (H' := [(Ur wa0 135 (C3 a0_0 a0_1 a0_2 a1))]) rfl) fun _ => ?_
 refine nk hK2 ?_
 refine cr fun K3 hK3 => ?_
 refine sm rfl ?_
 refine sa rfl ?_
 refine nk hK3 ?_
 refine cx_retc' ?_
 replace hp := sj hp
 subst hp
 refine tk (L' := [(4, (Vp wa0))]) (H' := [(Ur wa0 135 (C3 a0_0 a0_1 a0_2 a1))]) [0] (uc rfl un) (pc rfl pn) ?_
 exact tx_ret1' Try.results61 rfl () (rv_tmp' rfl) lr

def gogeom_NewLineStringFlat (k : Nat) (a0 : Int) (a1 : List Nat) : Option (Int × Int × (List Nat) × Int) :=
 (gogeom_Layout_Stride k a0) >>= fun r15 =>
 some (a0, r15, a1, 0)

theorem gogeom_NewLineStringFlat_sim {k : Nat}  (a0 : Int) (a1 : List Nat) {out : Int × Int × (List Nat) × Int} (hp : gogeom_NewLineStringFlat k a0 a1 = some out) : Sx.Fn Try.prog 62 [(Vi a0), (Sl Kf a1)] [] (fun w : Addr => (Vp w)) (fun w => [(Ur w 138 (C3 out.1 out.2.1 out.2.2.1 out.2.2.2))]) := by
 unfold gogeom_NewLineStringFlat at hp
 refine fn_of Try.func62 rfl Try.ntmps62 rfl fun E hM => ?_
 refine cr fun K1 hK1 => ?_
 refine sa rfl ?_
 refine nk hK1 ?_
 refine cr fun K2 hK2 => ?_
 refine so (ox_alloc' info138 rfl rfl rfl rfl (l := [(Vi 0), (Vi 0), Vn, (Vi 0)]) rfl) fun q6 => ?_
 refine sa rfl ?_
 refine nk hK2 ?_
 refine cr fun K3 hK3 => ?_
 iterate 2 refine sm rfl ?_
 refine sn rfl ?_
 refine sf rfl Try.underlying138 rfl info126 rfl ?_
 refine sf rfl Try.underlying126 rfl info124 rfl ?_
 refine sf rfl Try.underlying124 rfl info61 rfl ?_
 refine so (ox_store' (i := 0) (o := 0) rfl rfl (lv_vl rfl rfl) (ar rfl rfl rfl rfl) rfl info61 rfl (H' := [(Ur q6 138 [(Vi a0), (Vi 0), Vn, (Vi 0)])]) rfl) fun _ => ?_
 refine nk hK3 ?_
 refine cr fun K4 hK4 => ?_
 iterate 2 refine sm rfl ?_
 obtain ⟨r15, hr15, hp⟩ := bind_some hp
 refine so (oz (ent_fn' Try.func89 isn89 rfl rfl) (gogeom_Layout_Stride_sim _ hr15)) fun ⟨⟩ => ?_
 refine sn rfl ?_
 refine sf rfl Try.underlying138 rfl info126 rfl ?_
 refine sf rfl Try.underlying126 rfl info124 rfl ?_
 refine sg (off := 1) rfl Try.underlying124 rfl info3 rfl ?_
 refine so (ox_store' (i := 0) (o := 1) rfl rfl (lv_vl rfl rfl) (ar rfl rfl rfl rfl) rfl info3 rfl (H' := [(Ur q6 138 [(Vi a0), (Vi r15), Vn, (Vi 0)])]) rfl) fun _ => ?_
 refine nk hK4 ?_
 refine cr fun K5 hK5 => ?_
 iterate 2 refine sm rfl ?_
 refine sn rfl ?_
 refine sf rfl Try.underlying138 rfl info126 rfl ?_
 refine sf rfl Try.underlying126 rfl info124 rfl ?_
 refine sg (off := 2) rfl Try.underlying124 rfl info22 rfl ?_
 refine so (ox_store' (i := 0) (o := 2) rfl rfl (lv_sl _ _) (ar rfl rfl rfl rfl) rfl info22 rfl (H' := [(Ur q6 138 (C3 a0 r15 a1 0))]) rfl) fun _ => ?_
 refine nk hK5 ?_
 refine cr fun K6 hK6 => ?_
 refine sm rfl ?_
 refine sa rfl ?_
 refine nk hK6 ?_
 refine cx_retc' ?_
 replace hp := sj hp
 subst hp
 refine tk (L' := [(4, (Vp q6))]) (H' := [(Ur q6 138 (C3 a0 r15 a1 0))]) [0] (uc rfl un) (pc rfl pn) ?_
 exact tx_ret1' Try.results62 rfl q6 (rv_tmp' rfl) lr

def gogeom_LineString_SetSRID (k : Nat) (a0_0 a0_1 : Int) (a0_2 : List Nat) (a0_3 a1 : Int) : Option (Int × Int × (List Nat) × Int) :=
 some (a0_0, a0_1, a0_2, a1)

theorem gogeom_LineString_SetSRID_sim {k : Nat} {wa0 : Addr} (a0_0 a0_1 : Int) (a0_2 : List Nat) (a0_3 a1 : Int) {out : Int × Int × (List Nat) × Int} (hp : gogeom_LineString_SetSRID k a0_0 a0_1 a0_2 a0_3 a1 = some out) : Sx.Fn Try.prog 63 [(Vp wa0), (Vi a1)] [(Ur wa0 138 (C3 a0_0 a0_1 a0_2 a0_3))] (fun w : Unit => (Vp wa0)) (fun w => [(Ur wa0 138 (C3 out.1 out.2.1 out.2.2.1 out.2.2.2))]) := by
 unfold gogeom_LineString_SetSRID at hp
 refine fn_of Try.func63 rfl Try.ntmps63 rfl fun E hM => ?_
 refine cr fun K1 hK1 => ?_
 refine sa rfl ?_
 refine nk hK1 ?_
 refine cr fun K2 hK2 => ?_
 iterate 2 refine sm rfl ?_
 refine sn rfl ?_
 refine sf rfl Try.underlying138 rfl info126 rfl ?_
 refine sf rfl Try.underlying126 rfl info124 rfl ?_
 refine sg (off := 3) rfl Try.underlying124 rfl info3 rfl ?_
 refine so (ox_store' (i := 0) (o := 3) rfl rfl (lv_vl rfl rfl) (ar rfl rfl rfl rfl) rfl info3 rfl (H' := [(Ur wa0 138 (C3 a0_0 a0_1 a0_2 a1))]) rfl) fun _ => ?_
 refine nk hK2 ?_
 refine cr fun K3 hK3 => ?_
 refine sm rfl ?_
 refine sa rfl ?_
 refine nk hK3 ?_
 refine cx_retc' ?_
 replace hp := sj hp
 subst hp
 refine tk (L' := [(4, (Vp wa0))]) (H' := [(Ur wa0 138 (C3 a0_0 a0_1 a0_2 a1))]) [0] (uc rfl un) (pc rfl pn) ?_
 exact tx_ret1' Try.results63 rfl () (rv_tmp' rfl) lr

def gogeom_NewLinearRingFlat (k : Nat) (a0 : Int) (a1 : List Nat) : Option (Int × Int × (List Nat) × Int) :=
 (gogeom_Layout_Stride k a0) >>= fun r15 =>
 some (a0, r15, a1, 0)

theorem gogeom_NewLinearRingFlat_sim {k : Nat}  (a0 : Int) (a1 : List Nat) {out : Int × Int × (List Nat) × Int} (hp : gogeom_NewLinearRingFlat k a0 a1 = some out) : Sx.Fn Try.prog 64 [(Vi a0), (Sl Kf a1)] [] (fun w : Addr => (Vp w)) (fun w => [(Ur w 128 (C3 out.1 out.2.1 out.2.2.1 out.2.2.2))]) := by
 unfold gogeom_NewLinearRingFlat at hp
 refine fn_of Try.func64 rfl Try.ntmps64 rfl fun E hM => ?_
 refine cr fun K1 hK1 => ?_
 refine sa rfl ?_
 refine nk hK1 ?_
 refine cr fun K2 hK2 => ?_
 refine so (ox_alloc' info128 rfl rfl rfl rfl (l := [(Vi 0), (Vi 0), Vn, (Vi 0)]) rfl) fun q6 => ?_
 refine sa rfl ?_
 refine nk hK2 ?_
 refine cr fun K3 hK3 => ?_
 iterate 2 refine sm rfl ?_
 refine sn rfl ?_
 refine sf rfl Try.underlying128 rfl info126 rfl ?_
 refine sf rfl Try.underlying126 rfl info124 rfl ?_
 refine sf rfl Try.underlying124 rfl info61 rfl ?_
 refine so (ox_store' (i := 0) (o := 0) rfl rfl (lv_vl rfl rfl) (ar rfl rfl rfl rfl) rfl info61 rfl (H' := [(Ur q6 128 [(Vi a0), (Vi 0), Vn, (Vi 0)])]) rfl) fun _ => ?_
 refine nk hK3 ?_
 refine cr fun K4 hK4 => ?_
 iterate 2 refine sm rfl ?_
 obtain ⟨r15, hr15, hp⟩ := bind_some hp
 refine so (oz (ent_fn' Try.func89 isn89 rfl rfl) (gogeom_Layout_Stride_sim _ hr15)) fun ⟨⟩ => ?_
 refine sn rfl ?_
 refine sf rfl Try.underlying128 rfl info126 rfl ?_
 refine sf rfl Try.underlying126 rfl info124 rfl ?_
 refine sg (off := 1) rfl Try.underlying124 rfl info3 rfl ?_
 refine so (ox_store' (i := 0) (o := 1) rfl rfl (lv_vl rfl rfl) (ar rfl rfl rfl rfl) rfl info3 rfl (H' := [(Ur q6 128 [(Vi a0), (Vi r15), Vn, (Vi 0)])]) rfl) fun _ => ?_
 refine nk hK4 ?_
 refine cr fun K5 hK5 => ?_
 iterate 2 refine sm rfl ?_
 refine sn rfl ?_
 refine sf rfl Try.underlying128 rfl info126 rfl ?_
 refine sf rfl Try.underlying126 rfl info124 rfl ?_
 refine sg (off := 2) rfl Try.underlying124 rfl info22 rfl ?_
 refine so (ox_store' (i := 0) (o := 2) rfl rfl (lv_sl _ _) (ar rfl rfl rfl rfl) rfl info22 rfl (H' := [(Ur q6 128 (C3 a0 r15 a1 0))]) rfl) fun _ => ?_
 refine nk hK5 ?_
 refine cr fun K6 hK6 => ?_
 refine sm rfl ?_
 refine sa rfl ?_
 refine nk hK6 ?_
 refine cx_retc' ?_
 replace hp := sj hp
 subst hp
 refine tk (L' := [(4, (Vp q6))]) (H' := [(Ur q6 128 (C3 a0 r15 a1 0))]) [0] (uc rfl un) (pc rfl pn) ?_
 exact tx_ret1' Try.results64 rfl q6 (rv_tmp' rfl) lr

def gogeom_LinearRing_SetSRID (k : Nat) (a0_0 a0_1 : Int) (a0_2 : List Nat) (a0_3 a1 : Int) : Option (Int × Int × (List Nat) × Int) :=
 some (a0_0, a0_1, a0_2, a1)

theorem gogeom_LinearRing_SetSRID_sim {k : Nat} {wa0 : Addr} (a0_0 a0_1 : Int) (a0_2 : List Nat) (a0_3 a1 : Int) {out : Int × Int × (List Nat) × Int} (hp : gogeom_LinearRing_SetSRID k a0_0 a0_1 a0_2 a0_3 a1 = some out) : Sx.Fn Try.prog 65 [(Vp wa0), (Vi a1)] [(Ur wa0 128 (C3 a0_0 a0_1 a0_2 a0_3))] (fun w : Unit => (Vp wa0)) (fun w => [(Ur wa0 128 (C3 out.1 out.2.1 out.2.2.1 out.2.2.2))]) := by
 unfold gogeom_LinearRing_SetSRID at hp
 refine fn_of Try.func65 rfl Try.ntmps65 rfl fun E hM => ?_
 refine cr fun K1 hK1 => ?_
 refine sa rfl ?_
 refine nk hK1 ?_
 refine cr fun K2 hK2 => ?_
 iterate 2 refine sm rfl ?_
 refine sn rfl ?_
 refine sf rfl Try.underlying128 rfl info126 rfl ?_
 refine sf rfl Try.underlying126 rfl info124 rfl ?_
 refine sg (off := 3) rfl Try.underlying124 rfl info3 rfl ?_
 refine so (ox_store' (i := 0) (o := 3) rfl rfl (lv_vl rfl rfl) (ar rfl rfl rfl rfl) rfl info3 rfl (H' := [(Ur wa0 128 (C3 a0_0 a0_1 a0_2 a1))]) rfl) fun _ => ?_
 refine nk hK2 ?_
 refine cr fun K3 hK3 => ?_
 refine sm rfl ?_
 refine sa rfl ?_
 refine nk hK3 ?_
 refine cx_retc' ?_
 replace hp := sj hp
 subst hp
 refine tk (L' := [(4, (Vp wa0))]) (H' := [(Ur wa0 128 (C3 a0_0 a0_1 a0_2 a1))]) [0] (uc rfl un) (pc rfl pn) ?_
 exact tx_ret1' Try.results65 rfl () (rv_tmp' rfl) lr

def impl_ints (k : Nat) (a0 : List Int) : Option (Unit ⊕ (List Int)) :=
 br a0.isEmpty
  (some (.inl ()))
  ((apd 8 [] a0) >>= fun r4 =>
  some (.inr r4))
def impl_ints_r  (a0 : List Int) (out : Unit ⊕ (List Int)) (w : Gs) : SV := match out with
 | (.inl y) => Vn
 | (.inr y) => (Vw w)
def impl_ints_h  (a0 : List Int) (out : Unit ⊕ (List Int)) (w : Gs) : List Res := match out with
 | (.inl y) => []
 | (.inr y) => [(Rg (Ki .i64) 3 w y)]

theorem impl_ints_sim {k : Nat}  (a0 : List Int) {out : Unit ⊕ (List Int)} (hp : impl_ints k a0 = some out) : Sx.Fn Try.prog 58 [(Sl (Ki .i64) a0)] [] (fun w => impl_ints_r a0 out w) (fun w => impl_ints_h a0 out w) := by
 unfold impl_ints at hp
 refine fn_of Try.func58 rfl Try.ntmps58 rfl fun E hM => ?_
 refine cr fun K1 hK1 => ?_
 refine sa rfl ?_
 refine nk hK1 ?_
 refine cr fun K2 hK2 => ?_
 refine sm rfl ?_
 rcases br_cases hp with ⟨h1, hp⟩ | ⟨h1, hp⟩
 ·refine s0 (rd_append0' (K := (Ki .i64)) (xs := a0) rfl rfl h1 Try.underlying23 Try.underlying23 info3) ?_
  refine sa rfl ?_
  refine nk hK2 ?_
  refine cx_retc' ?_
  replace hp := sj hp
  subst hp
  refine tk (L' := [(2, Vn)]) (H' := []) [] (uc rfl un) pn ?_
  exact tx_ret1' Try.results58 rfl (none, 0, 0) (rv_tmp' rfl) lr
 refine tx_nilrow' (Ki .i64) 3 ?_
 obtain ⟨r4, hr4, hp⟩ := bind_some hp
 refine so (ox_append' (K := (Ki .i64)) (i := 0) (xs := []) (ys := a0) rfl rfl rfl (sr_sl' rfl Try.underlying23) hr4 Try.underlying23 info3 rfl rfl rfl (H' := []) rfl) fun g4 => ?_
 refine sa rfl ?_
 refine nk hK2 ?_
 refine cx_retc' ?_
 replace hp := sj hp
 subst hp
 refine tk (L' := [(2, (Vw g4))]) (H' := [(Rg (Ki .i64) 3 g4 r4)]) [0] (uc rfl un) (pc rfl pn) ?_
 exact tx_ret1' Try.results58 rfl g4 (rv_tmp' rfl) lr

def gogeom_NewPolygonFlat (k : Nat) (a0 : Int) (a1 : List Nat) : Option ((List Nat) × Int × Int × Int) :=
 (gogeom_Layout_Stride k a0) >>= fun r18 =>
 some (a1, a0, r18, 0)

theorem gogeom_NewPolygonFlat_sim {k : Nat} {wa1 : Gs} (a0 : Int) (a1 : List Nat) {out : (List Nat) × Int × Int × Int} (hp : gogeom_NewPolygonFlat k a0 a1 = some out) : Sx.Fn Try.prog 66 [(Vi a0), (Vw wa1), Vn] [(Rg Kf 32 wa1 a1)] (fun w : Addr => (Vp w)) (fun w => [(Rg Kf 32 wa1 out.1), (Ur w 132 (C12 out.2.1 out.2.2.1 wa1 out.2.2.2))]) := by
 unfold gogeom_NewPolygonFlat at hp
 refine fn_of Try.func66 rfl Try.ntmps66 rfl fun E hM => ?_
 refine cr fun K1 hK1 => ?_
 refine sa rfl ?_
 refine nk hK1 ?_
 refine cr fun K2 hK2 => ?_
 refine so (ox_alloc' info132 rfl rfl rfl rfl (l := (C23 0 0 0)) rfl) fun q8 => ?_
 refine sa rfl ?_
 refine nk hK2 ?_
 refine cr fun K3 hK3 => ?_
 iterate 2 refine sm rfl ?_
 refine sn rfl ?_
 refine sf rfl Try.underlying132 rfl info130 rfl ?_
 refine sf rfl Try.underlying130 rfl info126 rfl ?_
 refine sf rfl Try.underlying126 rfl info124 rfl ?_
 refine sf rfl Try.underlying124 rfl info61 rfl ?_
 refine so (ox_store' (i := 0) (o := 0) rfl rfl (lv_vl rfl rfl) (ar rfl rfl rfl rfl) rfl info61 rfl (H' := [(Ur q8 132 (C23 a0 0 0)), (Rg Kf 32 wa1 a1)]) rfl) fun _ => ?_
 refine nk hK3 ?_
 refine cr fun K4 hK4 => ?_
 iterate 2 refine sm rfl ?_
 obtain ⟨r18, hr18, hp⟩ := bind_some hp
 refine so (oz (ent_fn' Try.func89 isn89 rfl rfl) (gogeom_Layout_Stride_sim _ hr18)) fun ⟨⟩ => ?_
 refine sn rfl ?_
 refine sf rfl Try.underlying132 rfl info130 rfl ?_
 refine sf rfl Try.underlying130 rfl info126 rfl ?_
 refine sf rfl Try.underlying126 rfl info124 rfl ?_
 refine sg (off := 1) rfl Try.underlying124 rfl info3 rfl ?_
 refine so (ox_store' (i := 0) (o := 1) rfl rfl (lv_vl rfl rfl) (ar rfl rfl rfl rfl) rfl info3 rfl (H' := [(Ur q8 132 (C23 a0 r18 0)), (Rg Kf 32 wa1 a1)]) rfl) fun _ => ?_
 refine nk hK4 ?_
 refine cr fun K5 hK5 => ?_
 iterate 2 refine sm rfl ?_
 refine sn rfl ?_
 refine sf rfl Try.underlying132 rfl info130 rfl ?_
 refine sf rfl Try.underlying130 rfl info126 rfl ?_
 refine sf rfl Try.underlying126 rfl info124 rfl ?_
 refine sg (off := 2) rfl Try.underlying124 rfl info22 rfl ?_
 refine so (ox_store' (i := 0) (o := 2) rfl rfl (lv_vl rfl rfl) (ar rfl rfl rfl rfl) rfl info22 rfl (H' := [(Ur q8 132 (C12 a0 r18 wa1 0)), (Rg Kf 32 wa1 a1)]) rfl) fun _ => ?_
 refine nk hK5 ?_
 refine cr fun K6 hK6 => ?_
 iterate 2 refine sm rfl ?_
 refine sn rfl ?_
 refine sf rfl Try.underlying132 rfl info130 rfl ?_
 refine sg (off := 4) rfl Try.underlying130 rfl info23 rfl ?_
 refine so (ox_store' (i := 0) (o := 4) rfl rfl (lv_vl rfl rfl) (ar rfl rfl rfl rfl) rfl info23 rfl (H' := [(Ur q8 132 (C12 a0 r18 wa1 0)), (Rg Kf 32 wa1 a1)]) rfl) fun _ => ?_
 refine nk hK6 ?_
 refine cr fun K7 hK7 => ?_
 refine sm rfl ?_
 refine sa rfl ?_
 refine nk hK7 ?_
 refine cx_retc' ?_
 replace hp := sj hp
 subst hp
 refine tk (L' := [(6, (Vp q8))]) (H' := [(Rg Kf 32 wa1 a1), (Ur q8 132 (C12 a0 r18 wa1 0))]) [1, 0] (uc rfl un) (p2 rfl rfl) ?_
 exact tx_ret1' Try.results66 rfl q8 (rv_tmp' rfl) lr

def gogeom_Polygon_SetSRID (k : Nat) (a0_0 a0_1 : Int) (a0_2 : List Nat) (a0_3 a1 : Int) : Option (Int × Int × (List Nat) × Int) :=
 some (a0_0, a0_1, a0_2, a1)

theorem gogeom_Polygon_SetSRID_sim {k : Nat} {wa0 : Addr} {wa0_2 : Gs} (a0_0 a0_1 : Int) (a0_2 : List Nat) (a0_3 a1 : Int) {out : Int × Int × (List Nat) × Int} (hp : gogeom_Polygon_SetSRID k a0_0 a0_1 a0_2 a0_3 a1 = some out) : Sx.Fn Try.prog 67 [(Vp wa0), (Vi a1)] [(Ur wa0 132 (C12 a0_0 a0_1 wa0_2 a0_3)), (Rg Kf 32 wa0_2 a0_2)] (fun w : Unit => (Vp wa0)) (fun w => [(Ur wa0 132 (C12 out.1 out.2.1 wa0_2 out.2.2.2)), (Rg Kf 32 wa0_2 out.2.2.1)]) := by
 unfold gogeom_Polygon_SetSRID at hp
 refine fn_of Try.func67 rfl Try.ntmps67 rfl fun E hM => ?_
 refine cr fun K1 hK1 => ?_
 refine sa rfl ?_
 refine nk hK1 ?_
 refine cr fun K2 hK2 => ?_
 iterate 2 refine sm rfl ?_
 refine sn rfl ?_
 refine sf rfl Try.underlying132 rfl info130 rfl ?_
 refine sf rfl Try.underlying130 rfl info126 rfl ?_
 refine sf rfl Try.underlying126 rfl info124 rfl ?_
 refine sg (off := 3) rfl Try.underlying124 rfl info3 rfl ?_
 refine so (ox_store' (i := 0) (o := 3) rfl rfl (lv_vl rfl rfl) (ar rfl rfl rfl rfl) rfl info3 rfl (H' := [(Ur wa0 132 (C12 a0_0 a0_1 wa0_2 a1)), (Rg Kf 32 wa0_2 a0_2)]) rfl) fun _ => ?_
 refine nk hK2 ?_
 refine cr fun K3 hK3 => ?_
 refine sm rfl ?_
 refine sa rfl ?_
 refine nk hK3 ?_
 refine cx_retc' ?_
 replace hp := sj hp
 subst hp
 refine tk (L' := [(4, (Vp wa0))]) (H' := [(Ur wa0 132 (C12 a0_0 a0_1 wa0_2 a1)), (Rg Kf 32 wa0_2 a0_2)]) [0, 1] (uc rfl un) (p2 rfl rfl) ?_
 exact tx_ret1' Try.results67 rfl () (rv_tmp' rfl) lr

def gogeom_NewPolygonFlat_v2 (k : Nat) (a0 : Int) (a1 : List Nat) (a2 : List Int) : Option ((List Nat) × (List Int) × Int × Int × Int) :=
 (gogeom_Layout_Stride k a0) >>= fun r18 =>
 some (a1, a2, a0, r18, 0)

theorem gogeom_NewPolygonFlat_v2_sim {k : Nat} {wa1 wa2 : Gs} (a0 : Int) (a1 : List Nat) (a2 : List Int) {out : (List Nat) × (List Int) × Int × Int × Int} (hp : gogeom_NewPolygonFlat_v2 k a0 a1 a2 = some out) : Sx.Fn Try.prog 66 [(Vi a0), (Vw wa1), (Vw wa2)] [(Rg Kf 32 wa1 a1), (Rg (Ki .i64) 3 wa2 a2)] (fun w : Addr => (Vp w)) (fun w => [(Rg Kf 32 wa1 out.1), (Rg (Ki .i64) 3 wa2 out.2.1), (Ur w 132 (C2 out.2.2.1 out.2.2.2.1 wa1 out.2.2.2.2 wa2))]) := by
 unfold gogeom_NewPolygonFlat_v2 at hp
 refine fn_of Try.func66 rfl Try.ntmps66 rfl fun E hM => ?_
 refine cr fun K1 hK1 => ?_
 refine sa rfl ?_
 refine nk hK1 ?_
 refine cr fun K2 hK2 => ?_
 refine so (ox_alloc' info132 rfl rfl rfl rfl (l := (C23 0 0 0)) rfl) fun q8 => ?_
 refine sa rfl ?_
 refine nk hK2 ?_
 refine cr fun K3 hK3 => ?_
 iterate 2 refine sm rfl ?_
 refine sn rfl ?_
 refine sf rfl Try.underlying132 rfl info130 rfl ?_
 refine sf rfl Try.underlying130 rfl info126 rfl ?_
 refine sf rfl Try.underlying126 rfl info124 rfl ?_
 refine sf rfl Try.underlying124 rfl info61 rfl ?_
 refine so (ox_store' (i := 0) (o := 0) rfl rfl (lv_vl rfl rfl) (ar rfl rfl rfl rfl) rfl info61 rfl (H' := [(Ur q8 132 (C23 a0 0 0)), (Rg Kf 32 wa1 a1), (Rg (Ki .i64) 3 wa2 a2)]) rfl) fun _ => ?_
 refine nk hK3 ?_
 refine cr fun K4 hK4 => ?_
 iterate 2 refine sm rfl ?_
 obtain ⟨r18, hr18, hp⟩ := bind_some hp
 refine so (oz (ent_fn' Try.func89 isn89 rfl rfl) (gogeom_Layout_Stride_sim _ hr18)) fun ⟨⟩ => ?_
 refine sn rfl ?_
 refine sf rfl Try.underlying132 rfl info130 rfl ?_
 refine sf rfl Try.underlying130 rfl info126 rfl ?_
 refine sf rfl Try.underlying126 rfl info124 rfl ?_
 refine sg (off := 1) rfl Try.underlying124 rfl info3 rfl ?_
 refine so (ox_store' (i := 0) (o := 1) rfl rfl (lv_vl rfl rfl) (ar rfl rfl rfl rfl) rfl info3 rfl (H' := [(Ur q8 132 (C23 a0 r18 0)), (Rg Kf 32 wa1 a1), (Rg (Ki .i64) 3 wa2 a2)]) rfl) fun _ => ?_
 refine nk hK4 ?_
 refine cr fun K5 hK5 => ?_
 iterate 2 refine sm rfl ?_
 refine sn rfl ?_
 refine sf rfl Try.underlying132 rfl info130 rfl ?_
 refine sf rfl Try.underlying130 rfl info126 rfl ?_
 refine sf rfl Try.underlying126 rfl info124 rfl ?_
 refine sg (off := 2) rfl Try.underlying124 rfl info22 rfl ?_
 refine so (ox_store' (i := 0) (o := 2) rfl rfl (lv_vl rfl rfl) (ar rfl rfl rfl rfl) rfl info22 rfl (H' := [(Ur q8 132 (C12 a0 r18 wa1 0)), (Rg Kf 32 wa1 a1), (Rg (Ki .i64) 3 wa2 a2)]) rfl) fun _ => ?_
 refine nk hK5 ?_
 refine cr fun K6 hK6 => ?_
 iterate 2 refine sm rfl ?_
 refine sn rfl ?_
 refine sf rfl Try.underlying132 rfl info130 rfl ?_
 refine sg (off := 4) rfl Try.underlying130 rfl info23 rfl ?_
 refine so (ox_store' (i := 0) (o := 4) rfl rfl (lv_vl rfl rfl) (ar rfl rfl rfl rfl) rfl info23 rfl (H' := [(Ur q8 132 (C2 a0 r18 wa1 0 wa2)), (Rg Kf 32 wa1 a1), (Rg (Ki .i64) 3 wa2 a2)]) rfl) fun _ => ?_
 refine nk hK6 ?_
 refine cr fun K7 hK7 => ?_
 refine sm rfl ?_
 refine sa rfl ?_
 refine nk hK7 ?_
 refine cx_retc' ?_
 replace hp := sj hp
 subst hp
 refine tk (L' := [(6, (Vp q8))]) (H' := [(Rg Kf 32 wa1 a1), (Rg (Ki .i64) 3 wa2 a2), (Ur q8 132 (C2 a0 r18 wa1 0 wa2))]) [1, 2, 0] (uc rfl un) (p3 rfl rfl rfl) ?_
 exact tx_ret1' Try.results66 rfl q8 (rv_tmp' rfl) lr

def gogeom_Polygon_SetSRID_v2 (k : Nat) (a0_0 a0_1 : Int) (a0_2 : List Nat) (a0_3 : Int) (a0_4 : List Int) (a1 : Int) : Option (Int × Int × (List Nat) × Int × (List Int)) :=
 some (a0_0, a0_1, a0_2, a1, a0_4)

theorem gogeom_Polygon_SetSRID_v2_sim {k : Nat} {wa0 : Addr} {wa0_2 wa0_4 : Gs} (a0_0 a0_1 : Int) (a0_2 : List Nat) (a0_3 : Int) (a0_4 : List Int) (a1 : Int) {out : Int × Int × (List Nat) × Int × (List Int)} (hp : gogeom_Polygon_SetSRID_v2 k a0_0 a0_1 a0_2 a0_3 a0_4 a1 = some out) : Sx.Fn Try.prog 67 [(Vp wa0), (Vi a1)] [(Ur wa0 132 (C2 a0_0 a0_1 wa0_2 a0_3 wa0_4)), (Rg Kf 32 wa0_2 a0_2), (Rg (Ki .i64) 3 wa0_4 a0_4)] (fun w : Unit => (Vp wa0)) (fun w => [(Ur wa0 132 (C2 out.1 out.2.1 wa0_2 out.2.2.2.1 wa0_4)), (Rg Kf 32 wa0_2 out.2.2.1), (Rg (Ki .i64) 3 wa0_4 out.2.2.2.2)]) := by
 unfold gogeom_Polygon_SetSRID_v2 at hp
 refine fn_of Try.func67 rfl Try.ntmps67 rfl fun E hM => ?_
 refine cr fun K1 hK1 => ?_
 refine sa rfl ?_
 refine nk hK1 ?_
 refine cr fun K2 hK2 => ?_
 iterate 2 refine sm rfl ?_
 refine sn rfl ?_
 refine sf rfl Try.underlying132 rfl info130 rfl ?_
 refine sf rfl Try.underlying130 rfl info126 rfl ?_
 refine sf rfl Try.underlying126 rfl info124 rfl ?_
 refine sg (off := 3) rfl Try.underlying124 rfl info3 rfl ?_
 refine so (ox_store' (i := 0) (o := 3) rfl rfl (lv_vl rfl rfl) (ar rfl rfl rfl rfl) rfl info3 rfl (H' := [(Ur wa0 132 (C2 a0_0 a0_1 wa0_2 a1 wa0_4)), (Rg Kf 32 wa0_2 a0_2), (Rg (Ki .i64) 3 wa0_4 a0_4)]) rfl) fun _ => ?_
 refine nk hK2 ?_
 refine cr fun K3 hK3 => ?_
 refine sm rfl ?_
 refine sa rfl ?_
 refine nk hK3 ?_
 refine cx_retc' ?_
 replace hp := sj hp
 subst hp
 refine tk (L' := [(4, (Vp wa0))]) (H' := [(Ur wa0 132 (C2 a0_0 a0_1 wa0_2 a1 wa0_4)), (Rg Kf 32 wa0_2 a0_2), (Rg (Ki .i64) 3 wa0_4 a0_4)]) [0, 1, 2] (uc rfl un) (p3 rfl rfl rfl) ?_
 exact tx_ret1' Try.results67 rfl () (rv_tmp' rfl) lr

def gogeom_NewMultiPointFlatOptionWithEnds (k : Nat)  : Option (Unit) :=
 some ()

theorem gogeom_NewMultiPointFlatOptionWithEnds_sim {k : Nat}   {out : Unit} (hp : gogeom_NewMultiPointFlatOptionWithEnds k = some out) : Sx.Fn Try.prog 69 [Vn] [] (fun w : Addr => (Vl (.func (.func 90) #[] ⟨[.pointer (some w)]⟩))) (fun w => [(Ur w 23 [Vn])]) := by
 unfold gogeom_NewMultiPointFlatOptionWithEnds at hp
 refine fn_of Try.func69 rfl Try.ntmps69 rfl fun E hM => ?_
 refine cr fun K1 hK1 => ?_
 refine so (ox_box' rfl (lv_vl rfl rfl) rfl rfl) fun q1 => ?_
 refine sa rfl ?_
 refine nk hK1 ?_
 refine cr fun K2 hK2 => ?_
 refine s0 (rd_mkfunc' (us := [.pointer (some q1)]) rfl) ?_
 refine sa rfl ?_
 refine nk hK2 ?_
 refine cx_retc' ?_
 replace hp := sj hp
 subst hp
 refine tk (L' := [(2, (Vl (.func (.func 90) #[] ⟨[.pointer (some q1)]⟩)))]) (H' := [(Ur q1 23 [Vn])]) [0] (uc rfl un) (pc rfl pn) ?_
 exact tx_ret1' Try.results69 rfl q1 (rv_tmp' rfl) lr

def gogeom_NewMultiPointFlatOptionWithEnds_1 (k : Nat) (a0_0 a0_1 : Int) (a0_2 : List Nat) (a0_3 : Int) : Option (Int × Int × (List Nat) × Int) :=
 some (a0_0, a0_1, a0_2, a0_3)

theorem gogeom_NewMultiPointFlatOptionWithEnds_1_sim {k : Nat} {wa0 : Addr} {wa0_2 : Gs} {wa1 : Addr} (a0_0 a0_1 : Int) (a0_2 : List Nat) (a0_3 : Int) {out : Int × Int × (List Nat) × Int} (hp : gogeom_NewMultiPointFlatOptionWithEnds_1 k a0_0 a0_1 a0_2 a0_3 = some out) : Sx.Fn Try.prog 90 [(Vp wa0), (Vp wa1)] [(Ur wa0 136 (C12 a0_0 a0_1 wa0_2 a0_3)), (Rg Kf 32 wa0_2 a0_2), (Ur wa1 23 [Vn])] (fun w : Unit => (Vl (.tuple #[]))) (fun w => [(Ur wa0 136 (C12 out.1 out.2.1 wa0_2 out.2.2.2)), (Rg Kf 32 wa0_2 out.2.2.1), (Ur wa1 23 [Vn])]) := by
 unfold gogeom_NewMultiPointFlatOptionWithEnds_1 at hp
 refine fn_of Try.func90 rfl Try.ntmps90 rfl fun E hM => ?_
 refine cx_region' ?_
 refine sm rfl ?_
 refine sl (i := 2) (o := 0) rfl (ar rfl rfl rfl rfl) rfl flat23 ?_
 refine sn rfl ?_
 refine sf rfl Try.underlying136 rfl info130 rfl ?_
 refine sg (off := 4) rfl Try.underlying130 rfl info23 rfl ?_
 refine so (ox_store' (i := 0) (o := 4) rfl rfl (lv_vl rfl rfl) (ar rfl rfl rfl rfl) rfl info23 rfl (H' := [(Ur wa0 136 (C12 a0_0 a0_1 wa0_2 a0_3)), (Rg Kf 32 wa0_2 a0_2), (Ur wa1 23 [Vn])]) rfl) fun _ => ?_
 refine sx_nil' ?_
 replace hp := sj hp
 subst hp
 refine tk (L' := []) (H' := [(Ur wa0 136 (C12 a0_0 a0_1 wa0_2 a0_3)), (Rg Kf 32 wa0_2 a0_2), (Ur wa1 23 [Vn])]) [0, 1, 2] un (p3 rfl rfl rfl) ?_
 exact tx_end0' Try.results90 rfl () rfl lr

def gogeom_NewMultiPointFlat_j2 (k : Nat) (r901 : Int × Int × (List Nat) × Int) (x5 : List Int) : Option ((List Nat) × Int × Int × Int × (List Int)) :=
 some (r901.2.2.1, r901.1, r901.2.1, r901.2.2.2, x5)
def gogeom_NewMultiPointFlat_l1s (x1 : Int) (r901 : Int × Int × (List Nat) × Int) (k : Nat) (rec1 : ((List Int) × Int) → Option ((List Int))) (x2 : List Int) (x3 : Int) : Option ((List Int)) :=
 br (decide (x3 < x1))
  ((idx x2 x3) >>= fun r106 =>
  rec1 ((x2.set x3.toNat (imul .i64 (iadd .i64 x3 1) r901.2.1)), (iadd .i64 x3 1)))
  (some x2)
def gogeom_NewMultiPointFlat_l1 (x1 : Int) (r901 : Int × Int × (List Nat) × Int) : Nat → ((List Int) × Int) → Option ((List Int))
 | 0, _ => none
 | k + 1, v => gogeom_NewMultiPointFlat_l1s x1 r901 k (gogeom_NewMultiPointFlat_l1 x1 r901 k) v.1 v.2
def gogeom_NewMultiPointFlat_j1 (k : Nat) (r901 : Int × Int × (List Nat) × Int) (x1 : Int) : Option ((List Nat) × Int × Int × Int × (List Int)) :=
 (mk 8 0 x1 x1) >>= fun r82 =>
 (gogeom_NewMultiPointFlat_l1 x1 r901 k (r82, 0)) >>= fun v3 =>
 gogeom_NewMultiPointFlat_j2 k r901 v3
def gogeom_NewMultiPointFlat (k : Nat) (a0 : Int) (a1 : List Nat) : Option ((List Nat) × Int × Int × Int × (List Int)) :=
 (gogeom_Layout_Stride k a0) >>= fun r22 =>
 (gogeom_NewMultiPointFlatOptionWithEnds_1 k a0 r22 a1 0) >>= fun r901 =>
 br (decide (0 < (r901.2.2.1.length : Int)))
  (br (decide (0 < r901.2.1))
   ((iquo .i64 (r901.2.2.1.length : Int) r901.2.1) >>= fun r79 =>
   gogeom_NewMultiPointFlat_j1 k r901 r79)
   (gogeom_NewMultiPointFlat_j1 k r901 0))
  (gogeom_NewMultiPointFlat_j2 k r901 [])

theorem gogeom_NewMultiPointFlat_sim {k : Nat} {wa1 : Gs} {wa2 wa2_0_0 : Addr} (a0 : Int) (a1 : List Nat) {out : (List Nat) × Int × Int × Int × (List Int)} (hp : gogeom_NewMultiPointFlat k a0 a1 = some out) : Sx.Fn Try.prog 68 [(Vi a0), (Vw wa1), (Vl (.slice (some wa2) 1 1))] [(Rg Kf 32 wa1 a1), ⟨.slice (some wa2) 1 1, [(Vl (.func (.func 90) #[] ⟨[.pointer (some wa2_0_0)]⟩))], 101, some 1⟩, (Ur wa2_0_0 23 [Vn])] (fun w : Addr × Gs => (Vp w.1)) (fun w => [(Rg Kf 32 wa1 out.1), (Ur wa2_0_0 23 [Vn]), (Ur w.1 136 (C2 out.2.1 out.2.2.1 wa1 out.2.2.2.1 w.2)), (Rg (Ki .i64) 3 w.2 out.2.2.2.2)]) := by
 unfold gogeom_NewMultiPointFlat at hp
 refine fn_of Try.func68 rfl Try.ntmps68 rfl fun E hM => ?_
 refine cr fun K1 hK1 => ?_
 refine sa rfl ?_
 refine nk hK1 ?_
 refine cr fun K2 hK2 => ?_
 refine so (ox_alloc' info136 rfl rfl rfl rfl (l := (C23 0 0 0)) rfl) fun q12 => ?_
 refine sa rfl ?_
 refine nk hK2 ?_
 refine cr fun K3 hK3 => ?_
 iterate 2 refine sm rfl ?_
 refine sn rfl ?_
 refine sf rfl Try.underlying136 rfl info130 rfl ?_
 refine sf rfl Try.underlying130 rfl info126 rfl ?_
 refine sf rfl Try.underlying126 rfl info124 rfl ?_
 refine sf rfl Try.underlying124 rfl info61 rfl ?_
 refine so (ox_store' (i := 0) (o := 0) rfl rfl (lv_vl rfl rfl) (ar rfl rfl rfl rfl) rfl info61 rfl (H' := [(Ur q12 136 (C23 a0 0 0)), (Rg Kf 32 wa1 a1), ⟨.slice (some wa2) 1 1, [(Vl (.func (.func 90) #[] ⟨[.pointer (some wa2_0_0)]⟩))], 101, some 1⟩, (Ur wa2_0_0 23 [Vn])]) rfl) fun _ => ?_
 refine nk hK3 ?_
 refine cr fun K4 hK4 => ?_
 iterate 2 refine sm rfl ?_
 obtain ⟨r22, hr22, hp⟩ := bind_some hp
 refine so (oz (ent_fn' Try.func89 isn89 rfl rfl) (gogeom_Layout_Stride_sim _ hr22)) fun ⟨⟩ => ?_
 refine sn rfl ?_
 refine sf rfl Try.underlying136 rfl info130 rfl ?_
 refine sf rfl Try.underlying130 rfl info126 rfl ?_
 refine sf rfl Try.underlying126 rfl info124 rfl ?_
 refine sg (off := 1) rfl Try.underlying124 rfl info3 rfl ?_
 refine so (ox_store' (i := 0) (o := 1) rfl rfl (lv_vl rfl rfl) (ar rfl rfl rfl rfl) rfl info3 rfl (H' := [(Ur q12 136 (C23 a0 r22 0)), (Rg Kf 32 wa1 a1), ⟨.slice (some wa2) 1 1, [(Vl (.func (.func 90) #[] ⟨[.pointer (some wa2_0_0)]⟩))], 101, some 1⟩, (Ur wa2_0_0 23 [Vn])]) rfl) fun _ => ?_
 refine nk hK4 ?_
 refine cr fun K5 hK5 => ?_
 iterate 2 refine sm rfl ?_
 refine sn rfl ?_
 refine sf rfl Try.underlying136 rfl info130 rfl ?_
 refine sf rfl Try.underlying130 rfl info126 rfl ?_
 refine sf rfl Try.underlying126 rfl info124 rfl ?_
 refine sg (off := 2) rfl Try.underlying124 rfl info22 rfl ?_
 refine so (ox_store' (i := 0) (o := 2) rfl rfl (lv_vl rfl rfl) (ar rfl rfl rfl rfl) rfl info22 rfl (H' := [(Ur q12 136 (C12 a0 r22 wa1 0)), (Rg Kf 32 wa1 a1), ⟨.slice (some wa2) 1 1, [(Vl (.func (.func 90) #[] ⟨[.pointer (some wa2_0_0)]⟩))], 101, some 1⟩, (Ur wa2_0_0 23 [Vn])]) rfl) fun _ => ?_
 refine nk hK5 ?_
 refine cx_seq' fun K6 hK6 => ?_
 refine cr fun K7 hK7 => ?_
 refine sm rfl ?_
 refine s0 (rd_lenv' rfl Try.underlying153) ?_
 refine sm rfl ?_
 refine nk hK7 ?_
 refine cx_block' ?_
 refine tx_loop' ?_
 refine tx_round' ?_
 refine cr fun K8 hK8 => ?_
 refine sb rfl rfl eg_int ru_lss ?_
 refine nk hK8 ?_
 refine cx_seq' fun K9 hK9 => ?_
 refine cx_cond_t' rfl rfl ?_
 refine cx_skip' ?_
 show TX E K9 _
 refine tx_k' hK9 ?_
 refine cx_seq' fun K10 hK10 => ?_
 refine cx_block' ?_
 refine cr fun K11 hK11 => ?_
 refine s0 (rd_atv' rfl rfl (by decide) (by decide) Try.underlying153 info101) ?_
 refine s0 (rd_load_row' (i := 2) (o := 0) rfl ⟨rfl, rfl, rfl⟩ rfl flat101) ?_
 refine sa rfl ?_
 refine nk hK11 ?_
 refine cx_region' ?_
 iterate 2 refine sm rfl ?_
 obtain ⟨r901, hr901, hp⟩ := bind_some hp
 refine so (ox_callg' (ent_clo' (us := [.pointer (some wa2_0_0)]) rfl Try.func90 isn90 rfl rfl) (gogeom_NewMultiPointFlatOptionWithEnds_1_sim _ _ _ _ hr901 : Sx.Fn Try.prog 90 [(Vp q12), (Vp wa2_0_0)] [(Ur q12 136 (C12 a0 r22 wa1 0)), (Rg Kf 32 wa1 a1), (Ur wa2_0_0 23 [Vn])] (fun x : Unit => (Vl (.tuple #[]))) (fun x => [(Ur q12 136 (C12 r901.1 r901.2.1 wa1 r901.2.2.2)), (Rg Kf 32 wa1 r901.2.2.1), (Ur wa2_0_0 23 [Vn])])) [0, 1, 3] [2] (by decide) (p3 rfl rfl rfl) (pc rfl pn) (Hn := fun x : Unit => [(Ur q12 136 (C12 r901.1 r901.2.1 wa1 r901.2.2.2)), (Rg Kf 32 wa1 r901.2.2.1), (Ur wa2_0_0 23 [Vn]), ⟨.slice (some wa2) 1 1, [(Vl (.func (.func 90) #[] ⟨[.pointer (some wa2_0_0)]⟩))], 101, some 1⟩]) (fun _ => rfl) rfl rfl) fun ⟨⟩ => ?_
 refine nk hK10 ?_
 refine cx_region' ?_
 refine sb rfl rfl eg_int (ru_addc (c := 1) (by decide)) ?_
 refine sm rfl ?_
 refine sx_nil' ?_
 show TX E (LoopIn _ _ _) _
 refine tx_round' ?_
 refine cr fun K12 hK12 => ?_
 refine sb rfl rfl eg_int ru_lss ?_
 refine nk hK12 ?_
 refine cx_seq' fun K13 hK13 => ?_
 refine cx_cond_f' rfl rfl ?_
 refine cx_exit' ?_
 show TX E K6 _
 refine tx_k' hK6 ?_
 refine cx_join' (fun (v4 : (List Int) × Gs) => (⟨109, [], [(7, (Vp q12))], [(Ur q12 136 (C2 r901.1 r901.2.1 wa1 r901.2.2.2 v4.2)), (Rg Kf 32 wa1 r901.2.2.1), (Rg (Ki .i64) 3 v4.2 v4.1), (Ur wa2_0_0 23 [Vn])]⟩ : St)) (fun (v4 : (List Int) × Gs) => gogeom_NewMultiPointFlat_j2 k r901 v4.1 = some out) ?_ ?_
 ·rintro ⟨x5, g901⟩ hp
  replace hp : gogeom_NewMultiPointFlat_j2 k r901 x5 = some out := hp
  unfold gogeom_NewMultiPointFlat_j2 at hp
  refine cr fun K29 hK29 => ?_
  refine sm rfl ?_
  refine sa rfl ?_
  refine nk hK29 ?_
  refine cx_retc' ?_
  replace hp := sj hp
  subst hp
  refine tk (L' := [(6, (Vp q12))]) (H' := [(Rg Kf 32 wa1 r901.2.2.1), (Ur wa2_0_0 23 [Vn]), (Ur q12 136 (C2 r901.1 r901.2.1 wa1 r901.2.2.2 g901)), (Rg (Ki .i64) 3 g901 x5)]) [1, 3, 0, 2] (uc rfl un) (p4 rfl rfl rfl rfl) ?_
  exact tx_ret1' Try.results68 rfl (q12, g901) (rv_tmp' rfl) lr
 intro K14 hK14
 refine cr fun K15 hK15 => ?_
 refine sm rfl ?_
 refine sn rfl ?_
 refine sf rfl Try.underlying136 rfl info130 rfl ?_
 refine sg (off := 4) rfl Try.underlying130 rfl info23 rfl ?_
 refine sl (i := 0) (o := 4) rfl (ar rfl rfl rfl rfl) rfl flat23 ?_
 refine s0 (rd_binf' rfl rfl (bf_vl (fun _ => by kernel_rfl) nil_eql23_nilsl)) ?_
 refine sm rfl ?_
 refine sx_rd' (rd_move' rfl) rfl rfl (wt_is' (wt_guard' rfl rfl rfl) (beq_tt rfl)) ?_
 refine sx_rd' (rd_nilck' rfl) rfl rfl (wt_is' (wt_guard' rfl rfl rfl) (beq_tt rfl)) ?_
 refine sx_rd' (rd_field0' rfl Try.underlying136 rfl info130 rfl) rfl rfl (wt_is' (wt_guard' rfl rfl rfl) (beq_tt rfl)) ?_
 refine sx_rd' (rd_field0' rfl Try.underlying130 rfl info126 rfl) rfl rfl (wt_is' (wt_guard' rfl rfl rfl) (beq_tt rfl)) ?_
 refine sx_rd' (rd_field0' rfl Try.underlying126 rfl info124 rfl) rfl rfl (wt_is' (wt_guard' rfl rfl rfl) (beq_tt rfl)) ?_
 refine sx_rd' (rd_field' (off := 2) rfl Try.underlying124 rfl info22 rfl) rfl rfl (wt_is' (wt_guard' rfl rfl rfl) (beq_tt rfl)) ?_
 refine sx_rd' (rd_load' (i := 0) (o := 2) rfl (ar rfl rfl rfl rfl) rfl flat22) rfl rfl (wt_is' (wt_guard' rfl rfl rfl) (beq_tt rfl)) ?_
 refine sx_rd' (rd_lenr' (i := 1) rfl rfl rfl Try.underlying22) rfl rfl (wt_is' (wt_guard' rfl rfl rfl) (beq_tt rfl)) ?_
 refine sx_rd' (rd_bin' rfl rfl eg_int ru_gtr) rfl rfl (wt_is' (wt_guard' rfl rfl rfl) (beq_tt rfl)) ?_
 refine s0 (rd_pick_true' rfl rfl rfl) ?_
 refine nk hK15 ?_
 refine cx_cond' rfl (fun h1 => ?_) (fun h1 => ?_)
 ·replace hp := (br_t h1).symm.trans hp
  refine cr fun K16 hK16 => ?_
  refine sa rfl ?_
  refine nk hK16 ?_
  refine cx_join' (fun (v1 : Int) => (⟨109, [], [(7, (Vp q12)), (10, (Vi v1))], [(Ur q12 136 (C12 r901.1 r901.2.1 wa1 r901.2.2.2)), (Rg Kf 32 wa1 r901.2.2.1), (Ur wa2_0_0 23 [Vn])]⟩ : St)) (fun (v1 : Int) => gogeom_NewMultiPointFlat_j1 k r901 v1 = some out) ?_ ?_
  ·rintro x1 hp
   replace hp : gogeom_NewMultiPointFlat_j1 k r901 x1 = some out := hp
   unfold gogeom_NewMultiPointFlat_j1 at hp
   refine cr fun K19 hK19 => ?_
   iterate 2 refine sm rfl ?_
   obtain ⟨r82, hr82, hp⟩ := bind_some hp
   refine so (ox_make' (K := (Ki .i64)) rfl rfl hr82 rfl Try.underlying23 info3 rfl rfl rfl rfl rfl) fun g82 => ?_
   refine sn rfl ?_
   refine sf rfl Try.underlying136 rfl info130 rfl ?_
   refine sg (off := 4) rfl Try.underlying130 rfl info23 rfl ?_
   refine so (ox_store' (i := 1) (o := 4) rfl rfl (lv_vl rfl rfl) (ar rfl rfl rfl rfl) rfl info23 rfl (H' := [(Rg (Ki .i64) 3 g82 r82), (Ur q12 136 (C2 r901.1 r901.2.1 wa1 r901.2.2.2 g82)), (Rg Kf 32 wa1 r901.2.2.1), (Ur wa2_0_0 23 [Vn])]) rfl) fun _ => ?_
   refine nk hK19 ?_
   refine cr fun K20 hK20 => ?_
   iterate 2 refine sm rfl ?_
   refine nk hK20 ?_
   refine cx_block' ?_
   obtain ⟨v3, hy1, hp⟩ := bind_some hp
   refine cx_loopg' (F := gogeom_NewMultiPointFlat_l1 x1 r901) (G := fun k R v => gogeom_NewMultiPointFlat_l1s x1 r901 k R v.1 v.2) (x := (r82, 0)) (gh := ()) (fun (v2 : (List Int) × Int) (w2 : Unit) => (⟨109, [], [(7, (Vp q12)), (86, (Vi x1)), (87, (Vi v2.2))], [(Ur q12 136 (C2 r901.1 r901.2.1 wa1 r901.2.2.2 g82)), (Rg Kf 32 wa1 r901.2.2.1), (Rg (Ki .i64) 3 g82 v2.1), (Ur wa2_0_0 23 [Vn])]⟩ : St)) (fun (v3 : (List Int)) => Zg E (Exit.exit 2) (fun (w3 : Unit) => (⟨109, [], [(7, (Vp q12))], [(Ur q12 136 (C2 r901.1 r901.2.1 wa1 r901.2.2.2 g82)), (Rg Kf 32 wa1 r901.2.2.1), (Rg (Ki .i64) 3 g82 v3), (Ur wa2_0_0 23 [Vn])]⟩ : St))) (fun _ => rfl) (fun _ _ => rfl) ?_ hy1 (tx_to' rfl [1, 2, 0, 3] (u3 rfl rfl rfl) (by decide) (p4 rfl rfl rfl rfl)) ?_
   ·clear hp hy1
    clear v3
    intro k rec1 KY1 ih1
    rintro ⟨x2, x3⟩ ⟨⟩ y1 hp
    replace hp : gogeom_NewMultiPointFlat_l1s x1 r901 k rec1 x2 x3 = some y1 := hp
    unfold gogeom_NewMultiPointFlat_l1s at hp
    refine cr fun K25 hK25 => ?_
    refine sb rfl rfl eg_int ru_lss ?_
    refine nk hK25 ?_
    refine cx_seq' fun K26 hK26 => ?_
    refine cx_cond' rfl (fun h5 => ?_) (fun h5 => ?_)
    ·replace hp := (br_t h5).symm.trans hp
     refine cx_skip' ?_
     show TX E K26 _
     refine tx_k' hK26 ?_
     refine cx_seq' fun K27 hK27 => ?_
     refine cx_block' ?_
     refine cr fun K28 hK28 => ?_
     refine sm rfl ?_
     refine sa rfl ?_
     refine nk hK28 ?_
     refine cx_plan' [] [(17, 1)] [(0, 1), (1, 1), (2, 1), (3, 1), (4, 1), (5, 1), (6, 1), (7, 1), (8, 1), (9, 1), (10, 1), (11, 1), (12, 1), (13, 1), (14, 1), (15, 1), (16, 1), (17, 0)] mixed (by kernel_rfl) ?_
     refine pd rfl (rd_move' rfl) ?_
     refine pd rfl (rd_nilck' rfl) ?_
     refine pd rfl (rd_field0' rfl Try.underlying136 rfl info130 rfl) ?_
     refine pd rfl (rd_field' (off := 4) rfl Try.underlying130 rfl info23 rfl) ?_
     refine pd rfl (rd_load' (i := 0) (o := 4) rfl (ar rfl rfl rfl rfl) rfl flat23) ?_
     iterate 2 refine pd rfl (rd_move' rfl) ?_
     refine pd rfl (rd_bin' rfl rfl eg_int ru_add) ?_
     refine pd rfl (rd_move' rfl) ?_
     refine pd rfl (rd_nilck' rfl) ?_
     refine pd rfl (rd_field0' rfl Try.underlying136 rfl info130 rfl) ?_
     refine pd rfl (rd_field0' rfl Try.underlying130 rfl info126 rfl) ?_
     refine pd rfl (rd_field0' rfl Try.underlying126 rfl info124 rfl) ?_
     refine pd rfl (rd_field' (off := 1) rfl Try.underlying124 rfl info3 rfl) ?_
     refine pd rfl (rd_load' (i := 0) (o := 1) rfl (ar rfl rfl rfl rfl) rfl flat3) ?_
     refine pd rfl (rd_bin' rfl rfl eg_int ru_mul) ?_
     obtain ⟨r106, hr106, hp⟩ := bind_some hp
     refine pd rfl (rd_atr' (m := 2) rfl rfl rfl rfl hr106 Try.underlying23 info3) ?_
     refine px_ox' rfl (ox_storer' (m := 2) (i := x3) (j := 0) (x' := (imul .i64 (iadd .i64 x3 1) r901.2.1)) rfl rfl (lv_vl rfl rfl) rfl rfl hr106 rfl rfl rfl info3 rfl (H' := [(Ur q12 136 (C2 r901.1 r901.2.1 wa1 r901.2.2.2 g82)), (Rg Kf 32 wa1 r901.2.2.1), (Rg (Ki .i64) 3 g82 (x2.set x3.toNat (imul .i64 (iadd .i64 x3 1) r901.2.1))), (Ur wa2_0_0 23 [Vn])]) rfl) rfl bs_nil (wt_none' rfl) fun _ => ?_
     refine px_nil' ?_
     show TX E K27 _
     refine tx_k' hK27 ?_
     refine cx_region' ?_
     refine sb rfl rfl eg_int ru_add ?_
     refine sm rfl ?_
     refine sx_nil' ?_
     show TX E (KY1 _) _
     exact tk [0, 1, 2, 3] (u3 rfl rfl rfl) (p4 rfl rfl rfl rfl) (ih1 ((x2.set x3.toNat (imul .i64 (iadd .i64 x3 1) r901.2.1)), (iadd .i64 x3 1)) () _ hp)
    replace hp := (br_f h5).symm.trans hp
    refine cx_exit' ?_
    replace hp := sj hp
    subst hp
    show TX E (Zg E (Exit.exit 2) _ (Exit.exit 2)) _
    exact tx_zend' () rfl [0, 1, 2, 3] (uc rfl un) (by decide) (p4 rfl rfl rfl rfl)
   refine zg_out fun w3 => ?_
   show TX E K14 _
   exact tk [0, 1, 2, 3] (uc rfl un) (p4 rfl rfl rfl rfl) (hK14 (v3, g82) hp)
  intro K17 hK17
  refine cr fun K18 hK18 => ?_
  refine sm rfl ?_
  refine sn rfl ?_
  refine sf rfl Try.underlying136 rfl info130 rfl ?_
  refine sf rfl Try.underlying130 rfl info126 rfl ?_
  refine sf rfl Try.underlying126 rfl info124 rfl ?_
  refine sg (off := 1) rfl Try.underlying124 rfl info3 rfl ?_
  refine sl (i := 0) (o := 1) rfl (ar rfl rfl rfl rfl) rfl flat3 ?_
  refine sb rfl rfl eg_int ru_gtr ?_
  refine nk hK18 ?_
  refine cx_cond' rfl (fun h2 => ?_) (fun h2 => ?_)
  ·replace hp := (br_t h2).symm.trans hp
   refine cx_region' ?_
   refine sm rfl ?_
   refine s0 (rd_lenr' (i := 1) rfl rfl rfl Try.underlying22) ?_
   refine sm rfl ?_
   refine sn rfl ?_
   refine sf rfl Try.underlying136 rfl info130 rfl ?_
   refine sf rfl Try.underlying130 rfl info126 rfl ?_
   refine sf rfl Try.underlying126 rfl info124 rfl ?_
   refine sg (off := 1) rfl Try.underlying124 rfl info3 rfl ?_
   refine sl (i := 0) (o := 1) rfl (ar rfl rfl rfl rfl) rfl flat3 ?_
   obtain ⟨r79, hr79, hp⟩ := bind_some hp
   refine sb rfl rfl eg_int (ru_quo hr79) ?_
   refine sa rfl ?_
   refine sx_nil' ?_
   show TX E K17 _
   exact tk [0, 1, 2] (u2 rfl rfl) (p3 rfl rfl rfl) (hK17 r79 hp)
  replace hp := (br_f h2).symm.trans hp
  refine cx_skip' ?_
  show TX E K17 _
  exact tk [0, 1, 2] (u2 rfl rfl) (p3 rfl rfl rfl) (hK17 0 hp)
 replace hp := (br_f h1).symm.trans hp
 refine cx_skip' ?_
 show TX E K14 _
 refine tx_nilrow' (Ki .i64) 3 ?_
 exact tk [1, 2, 0, 3] (uc rfl un) (p4 rfl rfl rfl rfl) (hK14 ([], (none, 0, 0)) hp)

end Go.Proofs.Ytmagcmeknclljaa
