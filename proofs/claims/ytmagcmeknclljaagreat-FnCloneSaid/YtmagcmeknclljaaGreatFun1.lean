/-
  Plain functions for the Go functions that this law reaches, and that each call does what its plain function says. Printed by a program of ours.
-/
import Derived.Test.YtmagcmeknclljaaGreatProg
import Derived.Test.YtmagcmeknclljaaGreatSxX
namespace Go.Proofs.YtmagcmeknclljaaGreat
open Go.Sx
set_option linter.unusedVariables false
set_option maxRecDepth 100000

theorem info27 : (Tryz.prog.info? 27).map (fun i => (i.zero, i.size, i.bytes)) = some (some (.agg #[.int .i64 0, .int .i64 0, .int .i64 0, .slice none 0 0, .slice none 0 0, .slice none 0 0, .slice none 0 0]), 7, 120) := by kernel_rfl
theorem agg27 : Agg Tryz.prog 27 7 := ⟨⟨_, Tryz.underlying27, .inl ⟨_, rfl⟩⟩, info_size info27⟩
theorem isn4 : (Tryz.f4.name == "runtime.NumGoroutine") = false := by kernel_rfl
theorem info22 : (Tryz.prog.info? 22).map (fun i => (i.zero, i.size, i.bytes)) = some (some (.slice none 0 0), 1, 24) := by kernel_rfl
theorem flat22 : Flat Tryz.prog 22 := ⟨_, Tryz.underlying22, fun _ h => (nomatch h), fun _ _ h => (nomatch h)⟩
theorem info23 : (Tryz.prog.info? 23).map (fun i => (i.zero, i.size, i.bytes)) = some (some (.slice none 0 0), 1, 24) := by kernel_rfl
theorem flat23 : Flat Tryz.prog 23 := ⟨_, Tryz.underlying23, fun _ h => (nomatch h), fun _ _ h => (nomatch h)⟩
theorem info24 : (Tryz.prog.info? 24).map (fun i => (i.zero, i.size, i.bytes)) = some (some (.slice none 0 0), 1, 24) := by kernel_rfl
theorem flat24 : Flat Tryz.prog 24 := ⟨_, Tryz.underlying24, fun _ h => (nomatch h), fun _ _ h => (nomatch h)⟩
theorem isn8 : (Tryz.f8.name == "runtime.NumGoroutine") = false := by kernel_rfl
theorem info25 : (Tryz.prog.info? 25).map (fun i => (i.zero, i.size, i.bytes)) = some (some (.slice none 0 0), 1, 24) := by kernel_rfl
theorem flat25 : Flat Tryz.prog 25 := ⟨_, Tryz.underlying25, fun _ h => (nomatch h), fun _ _ h => (nomatch h)⟩
theorem isn5 : (Tryz.f5.name == "runtime.NumGoroutine") = false := by kernel_rfl
theorem isn9 : (Tryz.f9.name == "runtime.NumGoroutine") = false := by kernel_rfl
theorem isn22 : (Tryz.f22.name == "runtime.NumGoroutine") = false := by kernel_rfl
theorem isn56 : (Tryz.f56.name == "runtime.NumGoroutine") = false := by kernel_rfl
theorem isn57 : (Tryz.f57.name == "runtime.NumGoroutine") = false := by kernel_rfl
theorem info3 : (Tryz.prog.info? 3).map (fun i => (i.zero, i.size, i.bytes)) = some (some (.int .i64 0), 1, 8) := by kernel_rfl
theorem flat3 : Flat Tryz.prog 3 := ⟨_, Tryz.underlying3, fun _ h => (nomatch h), fun _ _ h => (nomatch h)⟩
theorem isn23 : (Tryz.f23.name == "runtime.NumGoroutine") = false := by kernel_rfl
theorem isn58 : (Tryz.f58.name == "runtime.NumGoroutine") = false := by kernel_rfl
theorem mixed : Tryz.prog.follows .mixedOrders = true := by kernel_rfl
theorem isn60 : (Tryz.f60.name == "runtime.NumGoroutine") = false := by kernel_rfl
theorem isn59 : (Tryz.f59.name == "runtime.NumGoroutine") = false := by kernel_rfl
theorem isn72 : (Tryz.f72.name == "runtime.NumGoroutine") = false := by kernel_rfl
theorem isn6 : (Tryz.f6.name == "runtime.NumGoroutine") = false := by kernel_rfl
theorem isn11 : (Tryz.f11.name == "runtime.NumGoroutine") = false := by kernel_rfl
theorem isn24 : (Tryz.f24.name == "runtime.NumGoroutine") = false := by kernel_rfl
theorem info95 : (Tryz.prog.info? 95).map (fun i => (i.zero, i.size, i.bytes)) = some (some (.float .f64 0), 1, 8) := by kernel_rfl
theorem isn25 : (Tryz.f25.name == "runtime.NumGoroutine") = false := by kernel_rfl
theorem info105 : (Tryz.prog.info? 105).map (fun i => (i.zero, i.size, i.bytes)) = some (some (.agg #[.int .i64 0, .int .i64 0, .slice none 0 0, .int .i64 0]), 4, 48) := by kernel_rfl
theorem info54 : (Tryz.prog.info? 54).map (fun i => (i.zero, i.size, i.bytes)) = some (some (.int .i64 0), 1, 8) := by kernel_rfl
theorem isn61 : (Tryz.f61.name == "runtime.NumGoroutine") = false := by kernel_rfl
theorem info107 : (Tryz.prog.info? 107).map (fun i => (i.zero, i.size, i.bytes)) = some (some (.agg #[.int .i64 0, .int .i64 0, .slice none 0 0, .int .i64 0]), 4, 48) := by kernel_rfl
theorem isn26 : (Tryz.f26.name == "runtime.NumGoroutine") = false := by kernel_rfl
theorem isn27 : (Tryz.f27.name == "runtime.NumGoroutine") = false := by kernel_rfl
theorem info108 : (Tryz.prog.info? 108).map (fun i => (i.zero, i.size, i.bytes)) = some (some (.agg #[.int .i64 0, .int .i64 0, .slice none 0 0, .int .i64 0]), 4, 48) := by kernel_rfl
theorem info110 : (Tryz.prog.info? 110).map (fun i => (i.zero, i.size, i.bytes)) = some (some (.agg #[.int .i64 0, .int .i64 0, .slice none 0 0, .int .i64 0]), 4, 48) := by kernel_rfl
theorem isn28 : (Tryz.f28.name == "runtime.NumGoroutine") = false := by kernel_rfl
theorem isn29 : (Tryz.f29.name == "runtime.NumGoroutine") = false := by kernel_rfl
theorem info111 : (Tryz.prog.info? 111).map (fun i => (i.zero, i.size, i.bytes)) = some (some (.agg #[.int .i64 0, .int .i64 0, .slice none 0 0, .int .i64 0]), 4, 48) := by kernel_rfl
theorem isn30 : (Tryz.f30.name == "runtime.NumGoroutine") = false := by kernel_rfl
theorem isn32 : (Tryz.f32.name == "runtime.NumGoroutine") = false := by kernel_rfl
theorem isn31 : (Tryz.f31.name == "runtime.NumGoroutine") = false := by kernel_rfl
theorem info113 : (Tryz.prog.info? 113).map (fun i => (i.zero, i.size, i.bytes)) = some (some (.agg #[.int .i64 0, .int .i64 0, .slice none 0 0, .int .i64 0, .slice none 0 0]), 5, 72) := by kernel_rfl
theorem info115 : (Tryz.prog.info? 115).map (fun i => (i.zero, i.size, i.bytes)) = some (some (.agg #[.int .i64 0, .int .i64 0, .slice none 0 0, .int .i64 0, .slice none 0 0]), 5, 72) := by kernel_rfl
theorem isn33 : (Tryz.f33.name == "runtime.NumGoroutine") = false := by kernel_rfl
theorem isn35 : (Tryz.f35.name == "runtime.NumGoroutine") = false := by kernel_rfl
theorem isn34 : (Tryz.f34.name == "runtime.NumGoroutine") = false := by kernel_rfl
theorem info67 : (Tryz.prog.info? 67).map (fun i => (i.zero, i.size, i.bytes)) = some (some (.nilFunc), 1, 8) := by kernel_rfl
theorem flat67 : Flat Tryz.prog 67 := ⟨_, Tryz.underlying67, fun _ h => (nomatch h), fun _ _ h => (nomatch h)⟩
theorem isn62 : (Tryz.f62.name == "runtime.NumGoroutine") = false := by kernel_rfl
theorem nil_eql23_nilsl : ∀ (w : World), (binOp .eql 23 (.slice none 0 0) (.slice none 0 0)).run Tryz.prog w = .ok (.bool true) w := fun _ => by kernel_rfl
theorem info117 : (Tryz.prog.info? 117).map (fun i => (i.zero, i.size, i.bytes)) = some (some (.agg #[.int .i64 0, .int .i64 0, .slice none 0 0, .int .i64 0, .slice none 0 0]), 5, 72) := by kernel_rfl
theorem isn36 : (Tryz.f36.name == "runtime.NumGoroutine") = false := by kernel_rfl
theorem nil_eql23_sl : ∀ (q : Addr) (n c : Nat) (w : World), (binOp .eql 23 (.slice (some q) n c) (.slice none 0 0)).run Tryz.prog w = .ok (.bool false) w := fun _ _ _ _ => by kernel_rfl
theorem isn37 : (Tryz.f37.name == "runtime.NumGoroutine") = false := by kernel_rfl
theorem info118 : (Tryz.prog.info? 118).map (fun i => (i.zero, i.size, i.bytes)) = some (some (.agg #[.int .i64 0, .int .i64 0, .slice none 0 0, .int .i64 0, .slice none 0 0]), 5, 72) := by kernel_rfl
theorem isn38 : (Tryz.f38.name == "runtime.NumGoroutine") = false := by kernel_rfl
theorem isn40 : (Tryz.f40.name == "runtime.NumGoroutine") = false := by kernel_rfl
theorem isn39 : (Tryz.f39.name == "runtime.NumGoroutine") = false := by kernel_rfl
theorem info120 : (Tryz.prog.info? 120).map (fun i => (i.zero, i.size, i.bytes)) = some (some (.agg #[.int .i64 0, .int .i64 0, .slice none 0 0, .int .i64 0, .slice none 0 0]), 5, 72) := by kernel_rfl
theorem info122 : (Tryz.prog.info? 122).map (fun i => (i.zero, i.size, i.bytes)) = some (some (.agg #[.int .i64 0, .int .i64 0, .slice none 0 0, .int .i64 0, .slice none 0 0]), 5, 72) := by kernel_rfl
theorem isn41 : (Tryz.f41.name == "runtime.NumGoroutine") = false := by kernel_rfl
theorem isn42 : (Tryz.f42.name == "runtime.NumGoroutine") = false := by kernel_rfl
theorem places124 : placesOf Tryz.prog [{ name := "layout", type := 54, offset := 0, embedded := false, tag := "", pkgPath := "pub-orthodrome/pub/gogeom", byteOffset := 0 }, { name := "geoms", type := 82, offset := 1, embedded := false, tag := "", pkgPath := "pub-orthodrome/pub/gogeom", byteOffset := 8 }, { name := "srid", type := 3, offset := 2, embedded := false, tag := "", pkgPath := "pub-orthodrome/pub/gogeom", byteOffset := 32 }] = [(0, 1), (1, 1), (2, 1)] := by kernel_rfl
theorem has124 : ∀ f ∈ ([{ name := "layout", type := 54, offset := 0, embedded := false, tag := "", pkgPath := "pub-orthodrome/pub/gogeom", byteOffset := 0 }, { name := "geoms", type := 82, offset := 1, embedded := false, tag := "", pkgPath := "pub-orthodrome/pub/gogeom", byteOffset := 8 }, { name := "srid", type := 3, offset := 2, embedded := false, tag := "", pkgPath := "pub-orthodrome/pub/gogeom", byteOffset := 32 }] : List Field), (Tryz.prog.info? f.type).isSome = true := fun f hf => all_of (p := fun f => (Tryz.prog.info? f.type).isSome) (by kernel_rfl) f hf
theorem info124 : (Tryz.prog.info? 124).map (fun i => (i.zero, i.size, i.bytes)) = some (some (.agg #[.int .i64 0, .slice none 0 0, .int .i64 0]), 3, 40) := by kernel_rfl
theorem isn43 : (Tryz.f43.name == "runtime.NumGoroutine") = false := by kernel_rfl
theorem isn45 : (Tryz.f45.name == "runtime.NumGoroutine") = false := by kernel_rfl
theorem isn64 : (Tryz.f64.name == "runtime.NumGoroutine") = false := by kernel_rfl
theorem isn73 : (Tryz.f73.name == "runtime.NumGoroutine") = false := by kernel_rfl
theorem info82 : (Tryz.prog.info? 82).map (fun i => (i.zero, i.size, i.bytes)) = some (some (.slice none 0 0), 1, 24) := by kernel_rfl
theorem flat82 : Flat Tryz.prog 82 := ⟨_, Tryz.underlying82, fun _ h => (nomatch h), fun _ _ h => (nomatch h)⟩
theorem nil_neq126_nilif : ∀ (w : World), (binOp .neq 126 .nilIface .nilIface).run Tryz.prog w = .ok (.bool false) w := fun _ => by kernel_rfl
theorem as37_35_37k : ∀ v w, (Instr.typeAssert (.iface 37 v) 35 37 true).run Tryz.prog w = .ok (.tuple #[v, .bool true]) w := fun _ _ => by kernel_rfl
theorem isn13 : (Tryz.f13.name == "runtime.NumGoroutine") = false := by kernel_rfl
theorem isn48 : (Tryz.f48.name == "runtime.NumGoroutine") = false := by kernel_rfl
theorem nil_eql37_ptr : ∀ (q : Addr) (w : World), (binOp .eql 37 (.pointer (some q)) (.pointer none)).run Tryz.prog w = .ok (.bool false) w := fun _ _ => by kernel_rfl
theorem isn65 : (Tryz.f65.name == "runtime.NumGoroutine") = false := by kernel_rfl
theorem isn74 : (Tryz.f74.name == "runtime.NumGoroutine") = false := by kernel_rfl
theorem flat54 : Flat Tryz.prog 54 := ⟨_, Tryz.underlying54, fun _ h => (nomatch h), fun _ _ h => (nomatch h)⟩
theorem nil_eql22_none : ∀ (n c : Nat) (w : World), (binOp .eql 22 (.slice none n c) (.slice none 0 0)).run Tryz.prog w = .ok (.bool true) w := fun _ _ _ => by kernel_rfl
theorem nil_eql22_sl : ∀ (q : Addr) (n c : Nat) (w : World), (binOp .eql 22 (.slice (some q) n c) (.slice none 0 0)).run Tryz.prog w = .ok (.bool false) w := fun _ _ _ _ => by kernel_rfl
theorem nil_neq22_nilsl : ∀ (w : World), (binOp .neq 22 (.slice none 0 0) (.slice none 0 0)).run Tryz.prog w = .ok (.bool false) w := fun _ => by kernel_rfl
theorem agg105 : Agg Tryz.prog 105 4 := ⟨⟨_, Tryz.underlying105, .inl ⟨_, rfl⟩⟩, info_size info105⟩
theorem isn12 : (Tryz.f12.name == "runtime.NumGoroutine") = false := by kernel_rfl
theorem inv37_SRID : ∀ (q : Addr) w', (callMethod (.iface 37 (.pointer (some q))) "SRID" #[]).run Tryz.prog w' = .ok (.enter 101 #[.pointer (some q)]) w' := fun _ _ => by kernel_rfl
theorem places27 : placesOf Tryz.prog [{ name := "Kind", type := 3, offset := 0, embedded := false, tag := "", pkgPath := "", byteOffset := 0 }, { name := "Layout", type := 3, offset := 1, embedded := false, tag := "", pkgPath := "", byteOffset := 8 }, { name := "SRID", type := 3, offset := 2, embedded := false, tag := "", pkgPath := "", byteOffset := 16 }, { name := "Flat", type := 22, offset := 3, embedded := false, tag := "", pkgPath := "", byteOffset := 24 }, { name := "Ends", type := 23, offset := 4, embedded := false, tag := "", pkgPath := "", byteOffset := 48 }, { name := "Endss", type := 24, offset := 5, embedded := false, tag := "", pkgPath := "", byteOffset := 72 }, { name := "Kids", type := 25, offset := 6, embedded := false, tag := "", pkgPath := "", byteOffset := 96 }] = [(0, 1), (1, 1), (2, 1), (3, 1), (4, 1), (5, 1), (6, 1)] := by kernel_rfl
theorem has27 : ∀ f ∈ ([{ name := "Kind", type := 3, offset := 0, embedded := false, tag := "", pkgPath := "", byteOffset := 0 }, { name := "Layout", type := 3, offset := 1, embedded := false, tag := "", pkgPath := "", byteOffset := 8 }, { name := "SRID", type := 3, offset := 2, embedded := false, tag := "", pkgPath := "", byteOffset := 16 }, { name := "Flat", type := 22, offset := 3, embedded := false, tag := "", pkgPath := "", byteOffset := 24 }, { name := "Ends", type := 23, offset := 4, embedded := false, tag := "", pkgPath := "", byteOffset := 48 }, { name := "Endss", type := 24, offset := 5, embedded := false, tag := "", pkgPath := "", byteOffset := 72 }, { name := "Kids", type := 25, offset := 6, embedded := false, tag := "", pkgPath := "", byteOffset := 96 }] : List Field), (Tryz.prog.info? f.type).isSome = true := fun f hf => all_of (p := fun f => (Tryz.prog.info? f.type).isSome) (by kernel_rfl) f hf
theorem inv37_Layout : ∀ (q : Addr) w', (callMethod (.iface 37 (.pointer (some q))) "Layout" #[]).run Tryz.prog w' = .ok (.enter 100 #[.pointer (some q)]) w' := fun _ _ => by kernel_rfl
theorem inv37_FlatCoords : ∀ (q : Addr) w', (callMethod (.iface 37 (.pointer (some q))) "FlatCoords" #[]).run Tryz.prog w' = .ok (.enter 99 #[.pointer (some q)]) w' := fun _ _ => by kernel_rfl
theorem inv37_Ends : ∀ (q : Addr) w', (callMethod (.iface 37 (.pointer (some q))) "Ends" #[]).run Tryz.prog w' = .ok (.enter 97 #[.pointer (some q)]) w' := fun _ _ => by kernel_rfl
theorem inv37_Endss : ∀ (q : Addr) w', (callMethod (.iface 37 (.pointer (some q))) "Endss" #[]).run Tryz.prog w' = .ok (.enter 98 #[.pointer (some q)]) w' := fun _ _ => by kernel_rfl
theorem idle10 : Idle Tryz.prog 10 2 := fun vs w hv => by
  obtain ⟨v0, v1, rfl⟩ : ∃ v0 v1, vs = [v0, v1] := by
    obtain _ | ⟨v0, vs⟩ := vs
    · simp at hv
    obtain _ | ⟨v1, vs⟩ := vs
    · simp at hv
    obtain _ | ⟨u, vs⟩ := vs
    · exact ⟨v0, v1, rfl⟩
    · simp at hv
  refine callsD_of_wpS Tryz.func10 rfl fun c₀ cs hu => ?_
  apply wpS_seq
  apply wpS_region
  simp [wpOpsS, go_sem, recoverD, hu, Tryz.ntmps10, Exit.thenS]
  refine wpS_cond (t := false) (by simp [Act.eval, Array.replicate]) ?_
  simp only [Bool.false_eq_true, if_false]
  refine wpS_of_wp (wp_skip ?_)
  cases c₀
  simp_all [bodyPostS, results, Tryz.results10]
theorem isn10 : (Tryz.f10.name == "runtime.NumGoroutine") = false := by kernel_rfl
theorem info4 : (Tryz.prog.info? 4).map (fun i => (i.zero, i.size, i.bytes)) = some (some (.bool false), 1, 1) := by kernel_rfl
theorem as40_35_37 : ∀ v w, (Instr.typeAssert (.iface 40 v) 35 37 true).run Tryz.prog w = .ok (.tuple #[.pointer none, .bool false]) w := fun _ _ => by kernel_rfl
theorem as40_35_40k : ∀ v w, (Instr.typeAssert (.iface 40 v) 35 40 true).run Tryz.prog w = .ok (.tuple #[v, .bool true]) w := fun _ _ => by kernel_rfl
theorem isn14 : (Tryz.f14.name == "runtime.NumGoroutine") = false := by kernel_rfl
theorem isn49 : (Tryz.f49.name == "runtime.NumGoroutine") = false := by kernel_rfl
theorem nil_eql40_ptr : ∀ (q : Addr) (w : World), (binOp .eql 40 (.pointer (some q)) (.pointer none)).run Tryz.prog w = .ok (.bool false) w := fun _ _ => by kernel_rfl
theorem isn66 : (Tryz.f66.name == "runtime.NumGoroutine") = false := by kernel_rfl
theorem isn75 : (Tryz.f75.name == "runtime.NumGoroutine") = false := by kernel_rfl
theorem agg108 : Agg Tryz.prog 108 4 := ⟨⟨_, Tryz.underlying108, .inl ⟨_, rfl⟩⟩, info_size info108⟩
theorem inv40_SRID : ∀ (q : Addr) w', (callMethod (.iface 40 (.pointer (some q))) "SRID" #[]).run Tryz.prog w' = .ok (.enter 101 #[.pointer (some q)]) w' := fun _ _ => by kernel_rfl
theorem inv40_Layout : ∀ (q : Addr) w', (callMethod (.iface 40 (.pointer (some q))) "Layout" #[]).run Tryz.prog w' = .ok (.enter 100 #[.pointer (some q)]) w' := fun _ _ => by kernel_rfl
theorem inv40_FlatCoords : ∀ (q : Addr) w', (callMethod (.iface 40 (.pointer (some q))) "FlatCoords" #[]).run Tryz.prog w' = .ok (.enter 99 #[.pointer (some q)]) w' := fun _ _ => by kernel_rfl
theorem inv40_Ends : ∀ (q : Addr) w', (callMethod (.iface 40 (.pointer (some q))) "Ends" #[]).run Tryz.prog w' = .ok (.enter 97 #[.pointer (some q)]) w' := fun _ _ => by kernel_rfl
theorem inv40_Endss : ∀ (q : Addr) w', (callMethod (.iface 40 (.pointer (some q))) "Endss" #[]).run Tryz.prog w' = .ok (.enter 98 #[.pointer (some q)]) w' := fun _ _ => by kernel_rfl
theorem as42_35_37 : ∀ v w, (Instr.typeAssert (.iface 42 v) 35 37 true).run Tryz.prog w = .ok (.tuple #[.pointer none, .bool false]) w := fun _ _ => by kernel_rfl
theorem as42_35_40 : ∀ v w, (Instr.typeAssert (.iface 42 v) 35 40 true).run Tryz.prog w = .ok (.tuple #[.pointer none, .bool false]) w := fun _ _ => by kernel_rfl
theorem as42_35_42k : ∀ v w, (Instr.typeAssert (.iface 42 v) 35 42 true).run Tryz.prog w = .ok (.tuple #[v, .bool true]) w := fun _ _ => by kernel_rfl
theorem isn15 : (Tryz.f15.name == "runtime.NumGoroutine") = false := by kernel_rfl
theorem isn50 : (Tryz.f50.name == "runtime.NumGoroutine") = false := by kernel_rfl
theorem nil_eql42_ptr : ∀ (q : Addr) (w : World), (binOp .eql 42 (.pointer (some q)) (.pointer none)).run Tryz.prog w = .ok (.bool false) w := fun _ _ => by kernel_rfl
theorem isn67 : (Tryz.f67.name == "runtime.NumGoroutine") = false := by kernel_rfl
theorem inv42_SRID : ∀ (q : Addr) w', (callMethod (.iface 42 (.pointer (some q))) "SRID" #[]).run Tryz.prog w' = .ok (.enter 101 #[.pointer (some q)]) w' := fun _ _ => by kernel_rfl
theorem inv42_Layout : ∀ (q : Addr) w', (callMethod (.iface 42 (.pointer (some q))) "Layout" #[]).run Tryz.prog w' = .ok (.enter 100 #[.pointer (some q)]) w' := fun _ _ => by kernel_rfl
theorem inv42_FlatCoords : ∀ (q : Addr) w', (callMethod (.iface 42 (.pointer (some q))) "FlatCoords" #[]).run Tryz.prog w' = .ok (.enter 99 #[.pointer (some q)]) w' := fun _ _ => by kernel_rfl
theorem inv42_Ends : ∀ (q : Addr) w', (callMethod (.iface 42 (.pointer (some q))) "Ends" #[]).run Tryz.prog w' = .ok (.enter 97 #[.pointer (some q)]) w' := fun _ _ => by kernel_rfl
theorem inv42_Endss : ∀ (q : Addr) w', (callMethod (.iface 42 (.pointer (some q))) "Endss" #[]).run Tryz.prog w' = .ok (.enter 98 #[.pointer (some q)]) w' := fun _ _ => by kernel_rfl
theorem as44_35_37 : ∀ v w, (Instr.typeAssert (.iface 44 v) 35 37 true).run Tryz.prog w = .ok (.tuple #[.pointer none, .bool false]) w := fun _ _ => by kernel_rfl
theorem as44_35_40 : ∀ v w, (Instr.typeAssert (.iface 44 v) 35 40 true).run Tryz.prog w = .ok (.tuple #[.pointer none, .bool false]) w := fun _ _ => by kernel_rfl
theorem as44_35_42 : ∀ v w, (Instr.typeAssert (.iface 44 v) 35 42 true).run Tryz.prog w = .ok (.tuple #[.pointer none, .bool false]) w := fun _ _ => by kernel_rfl
theorem as44_35_44k : ∀ v w, (Instr.typeAssert (.iface 44 v) 35 44 true).run Tryz.prog w = .ok (.tuple #[v, .bool true]) w := fun _ _ => by kernel_rfl
theorem isn16 : (Tryz.f16.name == "runtime.NumGoroutine") = false := by kernel_rfl
theorem isn51 : (Tryz.f51.name == "runtime.NumGoroutine") = false := by kernel_rfl
theorem nil_eql44_ptr : ∀ (q : Addr) (w : World), (binOp .eql 44 (.pointer (some q)) (.pointer none)).run Tryz.prog w = .ok (.bool false) w := fun _ _ => by kernel_rfl
theorem isn68 : (Tryz.f68.name == "runtime.NumGoroutine") = false := by kernel_rfl
theorem isn76 : (Tryz.f76.name == "runtime.NumGoroutine") = false := by kernel_rfl
theorem nil_eql23_none : ∀ (n c : Nat) (w : World), (binOp .eql 23 (.slice none n c) (.slice none 0 0)).run Tryz.prog w = .ok (.bool true) w := fun _ _ _ => by kernel_rfl
theorem nil_neq23_nilsl : ∀ (w : World), (binOp .neq 23 (.slice none 0 0) (.slice none 0 0)).run Tryz.prog w = .ok (.bool false) w := fun _ => by kernel_rfl
theorem agg113 : Agg Tryz.prog 113 5 := ⟨⟨_, Tryz.underlying113, .inl ⟨_, rfl⟩⟩, info_size info113⟩
theorem inv44_SRID : ∀ (q : Addr) w', (callMethod (.iface 44 (.pointer (some q))) "SRID" #[]).run Tryz.prog w' = .ok (.enter 101 #[.pointer (some q)]) w' := fun _ _ => by kernel_rfl
theorem inv44_Layout : ∀ (q : Addr) w', (callMethod (.iface 44 (.pointer (some q))) "Layout" #[]).run Tryz.prog w' = .ok (.enter 100 #[.pointer (some q)]) w' := fun _ _ => by kernel_rfl
theorem inv44_FlatCoords : ∀ (q : Addr) w', (callMethod (.iface 44 (.pointer (some q))) "FlatCoords" #[]).run Tryz.prog w' = .ok (.enter 99 #[.pointer (some q)]) w' := fun _ _ => by kernel_rfl
theorem inv44_Ends : ∀ (q : Addr) w', (callMethod (.iface 44 (.pointer (some q))) "Ends" #[]).run Tryz.prog w' = .ok (.enter 104 #[.pointer (some q)]) w' := fun _ _ => by kernel_rfl
theorem inv44_Endss : ∀ (q : Addr) w', (callMethod (.iface 44 (.pointer (some q))) "Endss" #[]).run Tryz.prog w' = .ok (.enter 98 #[.pointer (some q)]) w' := fun _ _ => by kernel_rfl
theorem as46_35_37 : ∀ v w, (Instr.typeAssert (.iface 46 v) 35 37 true).run Tryz.prog w = .ok (.tuple #[.pointer none, .bool false]) w := fun _ _ => by kernel_rfl
theorem as46_35_40 : ∀ v w, (Instr.typeAssert (.iface 46 v) 35 40 true).run Tryz.prog w = .ok (.tuple #[.pointer none, .bool false]) w := fun _ _ => by kernel_rfl
theorem as46_35_42 : ∀ v w, (Instr.typeAssert (.iface 46 v) 35 42 true).run Tryz.prog w = .ok (.tuple #[.pointer none, .bool false]) w := fun _ _ => by kernel_rfl
theorem as46_35_44 : ∀ v w, (Instr.typeAssert (.iface 46 v) 35 44 true).run Tryz.prog w = .ok (.tuple #[.pointer none, .bool false]) w := fun _ _ => by kernel_rfl
theorem as46_35_46k : ∀ v w, (Instr.typeAssert (.iface 46 v) 35 46 true).run Tryz.prog w = .ok (.tuple #[v, .bool true]) w := fun _ _ => by kernel_rfl
theorem isn17 : (Tryz.f17.name == "runtime.NumGoroutine") = false := by kernel_rfl
theorem isn52 : (Tryz.f52.name == "runtime.NumGoroutine") = false := by kernel_rfl
theorem nil_eql46_ptr : ∀ (q : Addr) (w : World), (binOp .eql 46 (.pointer (some q)) (.pointer none)).run Tryz.prog w = .ok (.bool false) w := fun _ _ => by kernel_rfl
theorem isn69 : (Tryz.f69.name == "runtime.NumGoroutine") = false := by kernel_rfl
theorem inv46_SRID : ∀ (q : Addr) w', (callMethod (.iface 46 (.pointer (some q))) "SRID" #[]).run Tryz.prog w' = .ok (.enter 101 #[.pointer (some q)]) w' := fun _ _ => by kernel_rfl
theorem inv46_Layout : ∀ (q : Addr) w', (callMethod (.iface 46 (.pointer (some q))) "Layout" #[]).run Tryz.prog w' = .ok (.enter 100 #[.pointer (some q)]) w' := fun _ _ => by kernel_rfl
theorem inv46_FlatCoords : ∀ (q : Addr) w', (callMethod (.iface 46 (.pointer (some q))) "FlatCoords" #[]).run Tryz.prog w' = .ok (.enter 99 #[.pointer (some q)]) w' := fun _ _ => by kernel_rfl
theorem inv46_Ends : ∀ (q : Addr) w', (callMethod (.iface 46 (.pointer (some q))) "Ends" #[]).run Tryz.prog w' = .ok (.enter 104 #[.pointer (some q)]) w' := fun _ _ => by kernel_rfl
theorem inv46_Endss : ∀ (q : Addr) w', (callMethod (.iface 46 (.pointer (some q))) "Endss" #[]).run Tryz.prog w' = .ok (.enter 98 #[.pointer (some q)]) w' := fun _ _ => by kernel_rfl
theorem as48_35_37 : ∀ v w, (Instr.typeAssert (.iface 48 v) 35 37 true).run Tryz.prog w = .ok (.tuple #[.pointer none, .bool false]) w := fun _ _ => by kernel_rfl
theorem as48_35_40 : ∀ v w, (Instr.typeAssert (.iface 48 v) 35 40 true).run Tryz.prog w = .ok (.tuple #[.pointer none, .bool false]) w := fun _ _ => by kernel_rfl
theorem as48_35_42 : ∀ v w, (Instr.typeAssert (.iface 48 v) 35 42 true).run Tryz.prog w = .ok (.tuple #[.pointer none, .bool false]) w := fun _ _ => by kernel_rfl
theorem as48_35_44 : ∀ v w, (Instr.typeAssert (.iface 48 v) 35 44 true).run Tryz.prog w = .ok (.tuple #[.pointer none, .bool false]) w := fun _ _ => by kernel_rfl
theorem as48_35_46 : ∀ v w, (Instr.typeAssert (.iface 48 v) 35 46 true).run Tryz.prog w = .ok (.tuple #[.pointer none, .bool false]) w := fun _ _ => by kernel_rfl
theorem as48_35_48k : ∀ v w, (Instr.typeAssert (.iface 48 v) 35 48 true).run Tryz.prog w = .ok (.tuple #[v, .bool true]) w := fun _ _ => by kernel_rfl
theorem isn18 : (Tryz.f18.name == "runtime.NumGoroutine") = false := by kernel_rfl
theorem isn53 : (Tryz.f53.name == "runtime.NumGoroutine") = false := by kernel_rfl
theorem nil_eql48_ptr : ∀ (q : Addr) (w : World), (binOp .eql 48 (.pointer (some q)) (.pointer none)).run Tryz.prog w = .ok (.bool false) w := fun _ _ => by kernel_rfl
theorem isn70 : (Tryz.f70.name == "runtime.NumGoroutine") = false := by kernel_rfl
theorem inv48_SRID : ∀ (q : Addr) w', (callMethod (.iface 48 (.pointer (some q))) "SRID" #[]).run Tryz.prog w' = .ok (.enter 101 #[.pointer (some q)]) w' := fun _ _ => by kernel_rfl
theorem inv48_Layout : ∀ (q : Addr) w', (callMethod (.iface 48 (.pointer (some q))) "Layout" #[]).run Tryz.prog w' = .ok (.enter 100 #[.pointer (some q)]) w' := fun _ _ => by kernel_rfl
theorem inv48_FlatCoords : ∀ (q : Addr) w', (callMethod (.iface 48 (.pointer (some q))) "FlatCoords" #[]).run Tryz.prog w' = .ok (.enter 99 #[.pointer (some q)]) w' := fun _ _ => by kernel_rfl
theorem inv48_Ends : ∀ (q : Addr) w', (callMethod (.iface 48 (.pointer (some q))) "Ends" #[]).run Tryz.prog w' = .ok (.enter 104 #[.pointer (some q)]) w' := fun _ _ => by kernel_rfl
theorem inv48_Endss : ∀ (q : Addr) w', (callMethod (.iface 48 (.pointer (some q))) "Endss" #[]).run Tryz.prog w' = .ok (.enter 98 #[.pointer (some q)]) w' := fun _ _ => by kernel_rfl
theorem as50_35_37 : ∀ v w, (Instr.typeAssert (.iface 50 v) 35 37 true).run Tryz.prog w = .ok (.tuple #[.pointer none, .bool false]) w := fun _ _ => by kernel_rfl
theorem as50_35_40 : ∀ v w, (Instr.typeAssert (.iface 50 v) 35 40 true).run Tryz.prog w = .ok (.tuple #[.pointer none, .bool false]) w := fun _ _ => by kernel_rfl
theorem as50_35_42 : ∀ v w, (Instr.typeAssert (.iface 50 v) 35 42 true).run Tryz.prog w = .ok (.tuple #[.pointer none, .bool false]) w := fun _ _ => by kernel_rfl
theorem as50_35_44 : ∀ v w, (Instr.typeAssert (.iface 50 v) 35 44 true).run Tryz.prog w = .ok (.tuple #[.pointer none, .bool false]) w := fun _ _ => by kernel_rfl
theorem as50_35_46 : ∀ v w, (Instr.typeAssert (.iface 50 v) 35 46 true).run Tryz.prog w = .ok (.tuple #[.pointer none, .bool false]) w := fun _ _ => by kernel_rfl
theorem as50_35_48 : ∀ v w, (Instr.typeAssert (.iface 50 v) 35 48 true).run Tryz.prog w = .ok (.tuple #[.pointer none, .bool false]) w := fun _ _ => by kernel_rfl
theorem as50_35_50k : ∀ v w, (Instr.typeAssert (.iface 50 v) 35 50 true).run Tryz.prog w = .ok (.tuple #[v, .bool true]) w := fun _ _ => by kernel_rfl
theorem isn19 : (Tryz.f19.name == "runtime.NumGoroutine") = false := by kernel_rfl
theorem isn54 : (Tryz.f54.name == "runtime.NumGoroutine") = false := by kernel_rfl
theorem nil_eql50_ptr : ∀ (q : Addr) (w : World), (binOp .eql 50 (.pointer (some q)) (.pointer none)).run Tryz.prog w = .ok (.bool false) w := fun _ _ => by kernel_rfl
theorem isn71 : (Tryz.f71.name == "runtime.NumGoroutine") = false := by kernel_rfl
theorem isn77 : (Tryz.f77.name == "runtime.NumGoroutine") = false := by kernel_rfl
theorem nil_eql24_none : ∀ (n c : Nat) (w : World), (binOp .eql 24 (.slice none n c) (.slice none 0 0)).run Tryz.prog w = .ok (.bool true) w := fun _ _ _ => by kernel_rfl
theorem nil_eql24_sl : ∀ (q : Addr) (n c : Nat) (w : World), (binOp .eql 24 (.slice (some q) n c) (.slice none 0 0)).run Tryz.prog w = .ok (.bool false) w := fun _ _ _ _ => by kernel_rfl
theorem nil_neq24_nilsl : ∀ (w : World), (binOp .neq 24 (.slice none 0 0) (.slice none 0 0)).run Tryz.prog w = .ok (.bool false) w := fun _ => by kernel_rfl
theorem isn78 : (Tryz.f78.name == "runtime.NumGoroutine") = false := by kernel_rfl
theorem agg120 : Agg Tryz.prog 120 5 := ⟨⟨_, Tryz.underlying120, .inl ⟨_, rfl⟩⟩, info_size info120⟩
theorem inv50_SRID : ∀ (q : Addr) w', (callMethod (.iface 50 (.pointer (some q))) "SRID" #[]).run Tryz.prog w' = .ok (.enter 101 #[.pointer (some q)]) w' := fun _ _ => by kernel_rfl
theorem inv50_Layout : ∀ (q : Addr) w', (callMethod (.iface 50 (.pointer (some q))) "Layout" #[]).run Tryz.prog w' = .ok (.enter 100 #[.pointer (some q)]) w' := fun _ _ => by kernel_rfl
theorem inv50_FlatCoords : ∀ (q : Addr) w', (callMethod (.iface 50 (.pointer (some q))) "FlatCoords" #[]).run Tryz.prog w' = .ok (.enter 99 #[.pointer (some q)]) w' := fun _ _ => by kernel_rfl
theorem inv50_Ends : ∀ (q : Addr) w', (callMethod (.iface 50 (.pointer (some q))) "Ends" #[]).run Tryz.prog w' = .ok (.enter 97 #[.pointer (some q)]) w' := fun _ _ => by kernel_rfl
theorem inv50_Endss : ∀ (q : Addr) w', (callMethod (.iface 50 (.pointer (some q))) "Endss" #[]).run Tryz.prog w' = .ok (.enter 106 #[.pointer (some q)]) w' := fun _ _ => by kernel_rfl
theorem as75_35_37 : ∀ v w, (Instr.typeAssert (.iface 75 v) 35 37 true).run Tryz.prog w = .ok (.tuple #[.pointer none, .bool false]) w := fun _ _ => by kernel_rfl
theorem as75_35_40 : ∀ v w, (Instr.typeAssert (.iface 75 v) 35 40 true).run Tryz.prog w = .ok (.tuple #[.pointer none, .bool false]) w := fun _ _ => by kernel_rfl
theorem as75_35_42 : ∀ v w, (Instr.typeAssert (.iface 75 v) 35 42 true).run Tryz.prog w = .ok (.tuple #[.pointer none, .bool false]) w := fun _ _ => by kernel_rfl
theorem as75_35_44 : ∀ v w, (Instr.typeAssert (.iface 75 v) 35 44 true).run Tryz.prog w = .ok (.tuple #[.pointer none, .bool false]) w := fun _ _ => by kernel_rfl
theorem as75_35_46 : ∀ v w, (Instr.typeAssert (.iface 75 v) 35 46 true).run Tryz.prog w = .ok (.tuple #[.pointer none, .bool false]) w := fun _ _ => by kernel_rfl
theorem as75_35_48 : ∀ v w, (Instr.typeAssert (.iface 75 v) 35 48 true).run Tryz.prog w = .ok (.tuple #[.pointer none, .bool false]) w := fun _ _ => by kernel_rfl
theorem as75_35_50 : ∀ v w, (Instr.typeAssert (.iface 75 v) 35 50 true).run Tryz.prog w = .ok (.tuple #[.pointer none, .bool false]) w := fun _ _ => by kernel_rfl
theorem flat4 : Flat Tryz.prog 4 := ⟨_, Tryz.underlying4, fun _ h => (nomatch h), fun _ _ h => (nomatch h)⟩
theorem isn7 : (Tryz.f7.name == "runtime.NumGoroutine") = false := by kernel_rfl
theorem isn20 : (Tryz.f20.name == "runtime.NumGoroutine") = false := by kernel_rfl
theorem flat95 : Flat Tryz.prog 95 := ⟨_, Tryz.underlying95, fun _ h => (nomatch h), fun _ _ h => (nomatch h)⟩
theorem ext55 : ∀ {args : Array Value} {v : Value}, Runs Tryz.prog ((Extern.MathFloatBits.float64bits) args) v → Runs Tryz.prog (callFunc 55 args) (.value v) := fun hr => ru_ext Tryz.func55 (by kernel_rfl) (by kernel_rfl) (by kernel_rfl) (by kernel_rfl) hr
theorem isn21 : (Tryz.f21.name == "runtime.NumGoroutine") = false := by kernel_rfl
inductive T27 where
  | mk (x0 : Int) (x1 : Int) (x2 : Int) (x3 : List Nat) (x4 : List Int) (x5 : List (List Int)) (x6 : List T27) : T27
def T27.f0 : T27 → Int
  | .mk x0 x1 x2 x3 x4 x5 x6 => x0
def T27.f1 : T27 → Int
  | .mk x0 x1 x2 x3 x4 x5 x6 => x1
def T27.f2 : T27 → Int
  | .mk x0 x1 x2 x3 x4 x5 x6 => x2
def T27.f3 : T27 → List Nat
  | .mk x0 x1 x2 x3 x4 x5 x6 => x3
def T27.f4 : T27 → List Int
  | .mk x0 x1 x2 x3 x4 x5 x6 => x4
def T27.f5 : T27 → List (List Int)
  | .mk x0 x1 x2 x3 x4 x5 x6 => x5
def T27.f6 : T27 → List T27
  | .mk x0 x1 x2 x3 x4 x5 x6 => x6
def KT27d : Nat → Kd T27
  | 0 => ⟨7, fun _ => List.replicate 7 (Vl undef), fun _ => rfl⟩
  | n + 1 => ⟨7, fun x => [(Vl (.int .i64 x.f0)), (Vl (.int .i64 x.f1)), (Vl (.int .i64 x.f2)), (Sl Kf x.f3), (Sl (Ki .i64) x.f4), (Sl (Kl (Ki .i64)) x.f5), (Sl (KT27d n) x.f6)], fun _ => rfl⟩
def T27.depth : T27 → Nat
  | .mk x0 x1 x2 x3 x4 x5 x6 => ((x6.attach.map fun y => T27.depth y.1).foldl Nat.max 0) + 1
termination_by x => SizeOf.sizeOf x
decreasing_by
  have := List.sizeOf_lt_of_mem y.2
  simp only [T27.mk.sizeOf_spec]
  omega
def KT27 : Kd T27 := ⟨7, fun x => (KT27d x.depth).enc x, fun x => by cases h : x.depth <;> rfl⟩
theorem KT27_depth (x : T27) (y : T27) (h : y ∈ x.f6) : y.depth < x.depth := by
  cases x with
  | mk x0 x1 x2 x3 x4 x5 x6 =>
    rw [T27.depth]
    have := Go.Sx.le_foldl_max (x6.attach.map fun y => T27.depth y.1) 0 y.depth (List.mem_map.2 ⟨⟨y, h⟩, List.mem_attach _ _, rfl⟩)
    omega
theorem KT27_pos (x : T27) : 0 < x.depth := by cases x with | mk x0 x1 x2 x3 x4 x5 x6 => rw [T27.depth]; omega
theorem KT27_stable : ∀ (m n : Nat) (x : T27), x.depth ≤ m → x.depth ≤ n → (KT27d m).enc x = (KT27d n).enc x := by
  intro m
  induction m with
  | zero => intro n x h; have := KT27_pos x; omega
  | succ m ih =>
    intro n x h1 h2
    cases n with
    | zero => have := KT27_pos x; omega
    | succ n =>
      have : Sl (KT27d m) x.f6 = Sl (KT27d n) x.f6 := Go.Sx.sl_congr (by cases m <;> cases n <;> rfl) fun y hy => by
        have := KT27_depth x y hy
        exact ih n y (by omega) (by omega)
      show [(Vl (.int .i64 x.f0)), (Vl (.int .i64 x.f1)), (Vl (.int .i64 x.f2)), (Sl Kf x.f3), (Sl (Ki .i64) x.f4), (Sl (Kl (Ki .i64)) x.f5), (Sl (KT27d m) x.f6)] = [(Vl (.int .i64 x.f0)), (Vl (.int .i64 x.f1)), (Vl (.int .i64 x.f2)), (Sl Kf x.f3), (Sl (Ki .i64) x.f4), (Sl (Kl (Ki .i64)) x.f5), (Sl (KT27d n) x.f6)]
      rw [this]
theorem KT27_enc (x : T27) : KT27.enc x = [(Vl (.int .i64 x.f0)), (Vl (.int .i64 x.f1)), (Vl (.int .i64 x.f2)), (Sl Kf x.f3), (Sl (Ki .i64) x.f4), (Sl (Kl (Ki .i64)) x.f5), (Sl KT27 x.f6)] := by
  have hp := KT27_pos x
  obtain ⟨n, hn⟩ : ∃ n, x.depth = n + 1 := ⟨x.depth - 1, by omega⟩
  have : Sl (KT27d n) x.f6 = Sl KT27 x.f6 := Go.Sx.sl_congr (by cases n <;> rfl) fun y hy => by
    have := KT27_depth x y hy
    exact KT27_stable n y.depth y (by omega) (by omega)
  show (KT27d x.depth).enc x = _
  rw [hn]
  show [(Vl (.int .i64 x.f0)), (Vl (.int .i64 x.f1)), (Vl (.int .i64 x.f2)), (Sl Kf x.f3), (Sl (Ki .i64) x.f4), (Sl (Kl (Ki .i64)) x.f5), (Sl (KT27d n) x.f6)] = _
  rw [this]
inductive T27.Ok : T27 → Prop where
  | mk {x0 : Int} {x1 : Int} {x2 : Int} {x3 : List Nat} {x4 : List Int} {x5 : List (List Int)} {x6 : List T27} (g0 : IntKind.min .i64 ≤ x0 ∧ x0 ≤ IntKind.max .i64) (g1 : IntKind.min .i64 ≤ x1 ∧ x1 ≤ IntKind.max .i64) (g2 : IntKind.min .i64 ≤ x2 ∧ x2 ≤ IntKind.max .i64) (g3 : x3.length ≤ maxLen ∧ ∀ yx3 ∈ x3, yx3 < 18446744073709551616) (g4 : x4.length ≤ maxLen ∧ ∀ yx4 ∈ x4, IntKind.min .i64 ≤ yx4 ∧ yx4 ≤ IntKind.max .i64) (g5 : x5.length ≤ maxLen ∧ ∀ yx5 ∈ x5, yx5.length ≤ maxLen ∧ ∀ yyx5 ∈ yx5, IntKind.min .i64 ≤ yyx5 ∧ yyx5 ≤ IntKind.max .i64) (g6 : x6.length ≤ maxLen) (gk : ∀ y ∈ x6, T27.Ok y) : T27.Ok (.mk x0 x1 x2 x3 x4 x5 x6)
inductive T27.OkW : T27 → Prop where
  | mk {x0 : Int} {x1 : Int} {x2 : Int} {x3 : List Nat} {x4 : List Int} {x5 : List (List Int)} {x6 : List T27} (g0 : IntKind.min .i64 ≤ x0 ∧ x0 ≤ IntKind.max .i64) (g1 : IntKind.min .i64 ≤ x1 ∧ x1 ≤ IntKind.max .i64) (g2 : IntKind.min .i64 ≤ x2 ∧ x2 ≤ IntKind.max .i64) (g3 : x3.length * 8 ≤ 140737488351232 ∧ ∀ yx3 ∈ x3, yx3 < 18446744073709551616) (g4 : x4.length * 8 ≤ 140737488351232 ∧ ∀ yx4 ∈ x4, IntKind.min .i64 ≤ yx4 ∧ yx4 ≤ IntKind.max .i64) (g5 : x5.length * 24 ≤ 140737488351232 ∧ ∀ yx5 ∈ x5, yx5.length * 8 ≤ 140737488351232 ∧ ∀ yyx5 ∈ yx5, IntKind.min .i64 ≤ yyx5 ∧ yyx5 ≤ IntKind.max .i64) (g6 : x6.length * 120 ≤ 140737488351232) (gk : ∀ y ∈ x6, T27.OkW y) : T27.OkW (.mk x0 x1 x2 x3 x4 x5 x6)


def laws_zzFits3_l1s (a0 : List (List Int)) (k : Nat) (rec1 : Int → Option (Unit ⊕ Unit)) (x1 : Int) : Option (Unit ⊕ Unit) :=
 br (decide (x1 < (a0.length : Int)))
  ((idx a0 x1) >>= fun r12 =>
  br (decide (2147483647 < (r12.length : Int)))
   (some (.inl ()))
   (rec1 (iadd .i64 x1 1)))
  (some (.inr ()))
def laws_zzFits3_l1 (a0 : List (List Int)) : Nat → Int → Option (Unit ⊕ Unit)
 | 0, _ => none
 | k + 1, v => laws_zzFits3_l1s a0 k (laws_zzFits3_l1 a0 k) v
def laws_zzFits3 (k : Nat) (a0 : List (List Int)) : Option (Bool) :=
 br (decide (2147483647 < (a0.length : Int)))
  (some false)
  ((laws_zzFits3_l1 a0 k 0) >>= fun y1 => match y1 with
   | (.inl v2) =>
    (some false)
   | (.inr v3) =>
    (some true))

theorem laws_zzFits3_sim {k : Nat}  (a0 : List (List Int)) {out : Bool} (hp : laws_zzFits3 k a0 = some out) : Sx.Fn Tryz.prog 8 [(Sl (Kl (Ki .i64)) a0)] [] (fun w : Unit => (Vb out)) (fun w => []) := by
 unfold laws_zzFits3 at hp
 refine fn_of Tryz.func8 rfl Tryz.ntmps8 rfl fun E hM => ?_
 refine cr fun K1 hK1 => ?_
 refine s0 (rd_assign' rfl) ?_
 refine nk hK1 ?_
 refine cx_seq' fun K2 hK2 => ?_
 refine cr fun K3 hK3 => ?_
 refine s0 (rd_move' rfl) ?_
 refine s0 (rd_len' rfl Tryz.underlying24) ?_
 refine s0 (rd_bin' rfl rfl eg_int ru_gtr) ?_
 refine nk hK3 ?_
 refine cx_cond' rfl (fun h1 => ?_) (fun h1 => ?_)
 ·replace hp := (br_t h1).symm.trans hp
  refine cr fun K4 hK4 => ?_
  refine s0 (rd_assign' rfl) ?_
  refine nk hK4 ?_
  refine cx_retc' ?_
  replace hp := Option.some.inj hp
  subst hp
  refine tx_pick' (L' := [(2, (Vb false))]) (H' := []) [] (sub_cons rfl sub_nil) (by decide) pick_nil ?_
  exact tx_ret1' Tryz.results8 rfl () (rv_tmp' rfl) (List.Sublist.refl _)
 replace hp := (br_f h1).symm.trans hp
 refine cx_skip' ?_
 show TX E K2 _
 refine tx_k' hK2 ?_
 refine cx_seq' fun K5 hK5 => ?_
 refine cr fun K6 hK6 => ?_
 refine s0 (rd_move' rfl) ?_
 refine s0 (rd_len' rfl Tryz.underlying24) ?_
 refine s0 (rd_move' rfl) ?_
 refine nk hK6 ?_
 refine cx_block' ?_
 obtain ⟨y1, hy1, hp⟩ := bind_some hp
 refine cx_loopg' (F := laws_zzFits3_l1 a0) (G := fun k R v => laws_zzFits3_l1s a0 k R v) (x := 0) (gh := ()) (fun (v1 : Int) (w1 : Unit) => (⟨18, [], [(8, (Sl (Kl (Ki .i64)) a0)), (9, (Vi (a0.length : Int))), (10, (Vi v1))], []⟩ : St)) (fun (y : Unit ⊕ Unit) => match y with | (.inl v2) => Zg E Exit.ret (fun (w2 : Unit) => (⟨18, [], [(2, (Vb false))], []⟩ : St)) | (.inr v3) => Zg E (Exit.exit 0) (fun (w3 : Unit) => (⟨18, [], [], []⟩ : St))) (fun _ => rfl) (fun _ _ => rfl) ?_ hy1 (tx_to' rfl [] (sub_cons rfl (sub_cons rfl (sub_cons rfl sub_nil))) (by decide) pick_nil) ?_
 ·clear hp hy1
  clear y1
  intro k rec1 KY1 ih1
  rintro x1 ⟨⟩ y1 hp
  replace hp : laws_zzFits3_l1s a0 k rec1 x1 = some y1 := hp
  unfold laws_zzFits3_l1s at hp
  refine cr fun K13 hK13 => ?_
  refine s0 (rd_bin' rfl rfl eg_int ru_lss) ?_
  refine nk hK13 ?_
  refine cx_seq' fun K14 hK14 => ?_
  refine cx_cond' rfl (fun h5 => ?_) (fun h5 => ?_)
  ·replace hp := (br_t h5).symm.trans hp
   refine cx_skip' ?_
   show TX E K14 _
   refine tx_k' hK14 ?_
   refine cx_seq' fun K15 hK15 => ?_
   refine cx_block' ?_
   refine cr fun K16 hK16 => ?_
   obtain ⟨r12, hr12, hp⟩ := bind_some hp
   refine s0 (rd_at' (K := (Kl (Ki .i64))) rfl rfl hr12 Tryz.underlying24 info23) ?_
   refine s0 (rd_load_pt' rfl rfl flat23) ?_
   refine s0 (rd_assign' rfl) ?_
   refine nk hK16 ?_
   refine cr fun K17 hK17 => ?_
   refine s0 (rd_move' rfl) ?_
   refine s0 (rd_len' rfl Tryz.underlying23) ?_
   refine s0 (rd_bin' rfl rfl eg_int ru_gtr) ?_
   refine nk hK17 ?_
   refine cx_cond' rfl (fun h6 => ?_) (fun h6 => ?_)
   ·replace hp := (br_t h6).symm.trans hp
    refine cr fun K18 hK18 => ?_
    refine s0 (rd_assign' rfl) ?_
    refine nk hK18 ?_
    refine cx_retc' ?_
    replace hp := Option.some.inj hp
    subst hp
    show TX E (Zg E Exit.ret _ Exit.ret) _
    exact tx_zend' () rfl [] (sub_cons rfl sub_nil) (by decide) pick_nil
   replace hp := (br_f h6).symm.trans hp
   refine cx_skip' ?_
   show TX E K15 _
   refine tx_k' hK15 ?_
   refine cx_region' ?_
   refine s0 (rd_bin' rfl rfl eg_int ru_add) ?_
   refine s0 (rd_move' rfl) ?_
   refine sx_nil' ?_
   show TX E (KY1 _) _
   exact tx_pick' [] (sub_cons rfl (sub_cons rfl (sub_cons rfl sub_nil))) (by decide) pick_nil (ih1 (iadd .i64 x1 1) () _ hp)
  replace hp := (br_f h5).symm.trans hp
  refine cx_exit' ?_
  replace hp := Option.some.inj hp
  subst hp
  show TX E (Zg E (Exit.exit 0) _ (Exit.exit 0)) _
  exact tx_zend' () rfl [] sub_nil (by decide) pick_nil
 rcases y1 with v2 | v3
 ·dsimp only at hp
  refine zg_out fun w2 => ?_
  replace hp := Option.some.inj hp
  subst hp
  refine tx_pick' (L' := [(2, (Vb false))]) (H' := []) [] (sub_cons rfl sub_nil) (by decide) pick_nil ?_
  exact tx_ret1' Tryz.results8 rfl () (rv_tmp' rfl) (List.Sublist.refl _)
 dsimp only at hp
 refine zg_out fun w3 => ?_
 show TX E K5 _
 refine tx_k' hK5 ?_
 refine cr fun K19 hK19 => ?_
 refine s0 (rd_assign' rfl) ?_
 refine nk hK19 ?_
 refine cx_retc' ?_
 replace hp := Option.some.inj hp
 subst hp
 refine tx_pick' (L' := [(2, (Vb true))]) (H' := []) [] (sub_cons rfl sub_nil) (by decide) pick_nil ?_
 exact tx_ret1' Tryz.results8 rfl () (rv_tmp' rfl) (List.Sublist.refl _)

def laws_zzFits2 (k : Nat) (a0_0 : Int) (a0_1 : Int) (a0_2 : Int) (a0_3 : List Nat) (a0_4 : List Int) (a0_5 : List (List Int)) (a0_6 : List T27) : Option (Bool) :=
 br (decide (2147483647 < (a0_3.length : Int)))
  (some false)
  (br (decide (2147483647 < (a0_4.length : Int)))
   (some false)
   ((laws_zzFits3 k a0_5) >>= fun r13 =>
   br (!r13)
    (some false)
    (br (decide (2147483647 < (a0_6.length : Int)))
     (some false)
     (some true))))

theorem laws_zzFits2_sim {k : Nat}  (a0_0 : Int) (a0_1 : Int) (a0_2 : Int) (a0_3 : List Nat) (a0_4 : List Int) (a0_5 : List (List Int)) (a0_6 : List T27) {out : Bool} (hp : laws_zzFits2 k a0_0 a0_1 a0_2 a0_3 a0_4 a0_5 a0_6 = some out) : Sx.Fn Tryz.prog 4 [(Ag [(Vi a0_0), (Vi a0_1), (Vi a0_2), (Sl Kf a0_3), (Sl (Ki .i64) a0_4), (Sl (Kl (Ki .i64)) a0_5), (Sl KT27 a0_6)])] [] (fun w : Unit => (Vb out)) (fun w => []) := by
 unfold laws_zzFits2 at hp
 refine fn_of Tryz.func4 rfl Tryz.ntmps4 rfl fun E hM => ?_
 refine cr fun K1 hK1 => ?_
 refine sx_ox' (ox_box' rfl (lv_ag _) rfl rfl) (wt_none' rfl) fun q1 => ?_
 refine s0 (rd_assign' rfl) ?_
 refine nk hK1 ?_
 refine cx_seq' fun K2 hK2 => ?_
 refine cr fun K3 hK3 => ?_
 refine s0 (rd_field' (off := 3) rfl Tryz.underlying27 rfl info22 rfl) ?_
 refine s0 (rd_load' (i := 0) (o := 3) rfl ⟨rfl, rfl, rfl, rfl⟩ rfl flat22) ?_
 refine s0 (rd_len' rfl Tryz.underlying22) ?_
 refine s0 (rd_bin' rfl rfl eg_int ru_gtr) ?_
 refine nk hK3 ?_
 refine cx_cond' rfl (fun h1 => ?_) (fun h1 => ?_)
 ·replace hp := (br_t h1).symm.trans hp
  refine cr fun K4 hK4 => ?_
  refine s0 (rd_assign' rfl) ?_
  refine nk hK4 ?_
  refine cx_retc' ?_
  replace hp := Option.some.inj hp
  subst hp
  refine tx_pick' (L' := [(2, (Vb false))]) (H' := []) [] (sub_cons rfl sub_nil) (by decide) pick_nil ?_
  exact tx_ret1' Tryz.results4 rfl () (rv_tmp' rfl) (List.Sublist.refl _)
 replace hp := (br_f h1).symm.trans hp
 refine cx_skip' ?_
 show TX E K2 _
 refine tx_k' hK2 ?_
 refine cx_seq' fun K5 hK5 => ?_
 refine cr fun K6 hK6 => ?_
 refine s0 (rd_field' (off := 4) rfl Tryz.underlying27 rfl info23 rfl) ?_
 refine s0 (rd_load' (i := 0) (o := 4) rfl ⟨rfl, rfl, rfl, rfl⟩ rfl flat23) ?_
 refine s0 (rd_len' rfl Tryz.underlying23) ?_
 refine s0 (rd_bin' rfl rfl eg_int ru_gtr) ?_
 refine nk hK6 ?_
 refine cx_cond' rfl (fun h2 => ?_) (fun h2 => ?_)
 ·replace hp := (br_t h2).symm.trans hp
  refine cr fun K7 hK7 => ?_
  refine s0 (rd_assign' rfl) ?_
  refine nk hK7 ?_
  refine cx_retc' ?_
  replace hp := Option.some.inj hp
  subst hp
  refine tx_pick' (L' := [(2, (Vb false))]) (H' := []) [] (sub_cons rfl sub_nil) (by decide) pick_nil ?_
  exact tx_ret1' Tryz.results4 rfl () (rv_tmp' rfl) (List.Sublist.refl _)
 replace hp := (br_f h2).symm.trans hp
 refine cx_skip' ?_
 show TX E K5 _
 refine tx_k' hK5 ?_
 refine cx_seq' fun K8 hK8 => ?_
 refine cr fun K9 hK9 => ?_
 refine s0 (rd_field' (off := 5) rfl Tryz.underlying27 rfl info24 rfl) ?_
 refine s0 (rd_load' (i := 0) (o := 5) rfl ⟨rfl, rfl, rfl, rfl⟩ rfl flat24) ?_
 obtain ⟨r13, hr13, hp⟩ := bind_some hp
 refine sx_ox' (ox_calln' (ent_fn' Tryz.func8 isn8 rfl rfl) (laws_zzFits3_sim _ hr13 : Sx.Fn Tryz.prog 8 [(Sl (Kl (Ki .i64)) a0_5)] [] (fun x : Unit => (Vb r13)) (fun x => [])) (Hn := fun x : Unit => [⟨.pointer (some q1), [(Vi a0_0), (Vi a0_1), (Vi a0_2), (Sl Kf a0_3), (Sl (Ki .i64) a0_4), (Sl (Kl (Ki .i64)) a0_5), (Sl KT27 a0_6)], 27, none⟩]) (fun _ => rfl) rfl rfl) (wt_none' rfl) fun ⟨⟩ => ?_
 refine s0 (rd_un' rfl ru_not) ?_
 refine nk hK9 ?_
 refine cx_cond' rfl (fun h3 => ?_) (fun h3 => ?_)
 ·replace hp := (br_t h3).symm.trans hp
  refine cr fun K10 hK10 => ?_
  refine s0 (rd_assign' rfl) ?_
  refine nk hK10 ?_
  refine cx_retc' ?_
  replace hp := Option.some.inj hp
  subst hp
  refine tx_pick' (L' := [(2, (Vb false))]) (H' := []) [] (sub_cons rfl sub_nil) (by decide) pick_nil ?_
  exact tx_ret1' Tryz.results4 rfl () (rv_tmp' rfl) (List.Sublist.refl _)
 replace hp := (br_f h3).symm.trans hp
 refine cx_skip' ?_
 show TX E K8 _
 refine tx_k' hK8 ?_
 refine cx_seq' fun K11 hK11 => ?_
 refine cr fun K12 hK12 => ?_
 refine s0 (rd_field' (off := 6) rfl Tryz.underlying27 rfl info25 rfl) ?_
 refine s0 (rd_load' (i := 0) (o := 6) rfl ⟨rfl, rfl, rfl, rfl⟩ rfl flat25) ?_
 refine s0 (rd_len' rfl Tryz.underlying25) ?_
 refine s0 (rd_bin' rfl rfl eg_int ru_gtr) ?_
 refine nk hK12 ?_
 refine cx_cond' rfl (fun h4 => ?_) (fun h4 => ?_)
 ·replace hp := (br_t h4).symm.trans hp
  refine cr fun K13 hK13 => ?_
  refine s0 (rd_assign' rfl) ?_
  refine nk hK13 ?_
  refine cx_retc' ?_
  replace hp := Option.some.inj hp
  subst hp
  refine tx_pick' (L' := [(2, (Vb false))]) (H' := []) [] (sub_cons rfl sub_nil) (by decide) pick_nil ?_
  exact tx_ret1' Tryz.results4 rfl () (rv_tmp' rfl) (List.Sublist.refl _)
 replace hp := (br_f h4).symm.trans hp
 refine cx_skip' ?_
 show TX E K11 _
 refine tx_k' hK11 ?_
 refine cr fun K14 hK14 => ?_
 refine s0 (rd_assign' rfl) ?_
 refine nk hK14 ?_
 refine cx_retc' ?_
 replace hp := Option.some.inj hp
 subst hp
 refine tx_pick' (L' := [(2, (Vb true))]) (H' := []) [] (sub_cons rfl sub_nil) (by decide) pick_nil ?_
 exact tx_ret1' Tryz.results4 rfl () (rv_tmp' rfl) (List.Sublist.refl _)

def spec_Weight_l1s (a0_5 : List (List Int)) (k : Nat) (rec1 : (Int × Int) → Option (Int)) (x1 : Int) (x2 : Int) : Option (Int) :=
 br (decide (x2 < (a0_5.length : Int)))
  ((idx a0_5 x2) >>= fun r23 =>
  rec1 ((iadd .i64 x1 (iadd .i64 1 (r23.length : Int))), (iadd .i64 x2 1)))
  (some x1)
def spec_Weight_l1 (a0_5 : List (List Int)) : Nat → (Int × Int) → Option (Int)
 | 0, _ => none
 | k + 1, v => spec_Weight_l1s a0_5 k (spec_Weight_l1 a0_5 k) v.1 v.2
def spec_Weight_l2s (a0_6 : List T27) (a1 : Int) (recf : Int → Int → Int → (List Nat) → (List Int) → (List (List Int)) → (List T27) → Int → Option (Int)) (k : Nat) (rec2 : (Int × Int) → Option (Int ⊕ Int)) (x5 : Int) (x6 : Int) : Option (Int ⊕ Int) :=
 br (decide (x6 < (a0_6.length : Int)))
  ((idx a0_6 x6) >>= fun r36 =>
  br (decide (a1 < x5))
   (some (.inl x5))
   ((recf r36.f0 r36.f1 r36.f2 r36.f3 r36.f4 r36.f5 r36.f6 (isub .i64 a1 x5)) >>= fun r47 =>
   rec2 ((iadd .i64 x5 r47), (iadd .i64 x6 1))))
  (some (.inr x5))
def spec_Weight_l2 (a0_6 : List T27) (a1 : Int) (recf : Int → Int → Int → (List Nat) → (List Int) → (List (List Int)) → (List T27) → Int → Option (Int)) : Nat → (Int × Int) → Option (Int ⊕ Int)
 | 0, _ => none
 | k + 1, v => spec_Weight_l2s a0_6 a1 recf k (spec_Weight_l2 a0_6 a1 recf k) v.1 v.2
def spec_Weight_b (recf : Int → Int → Int → (List Nat) → (List Int) → (List (List Int)) → (List T27) → Int → Option (Int)) (k : Nat) (a0_0 : Int) (a0_1 : Int) (a0_2 : Int) (a0_3 : List Nat) (a0_4 : List Int) (a0_5 : List (List Int)) (a0_6 : List T27) (a1 : Int) : Option (Int) :=
 (spec_Weight_l1 a0_5 k ((iadd .i64 (iadd .i64 1 (a0_3.length : Int)) (a0_4.length : Int)), 0)) >>= fun v2 =>
 (spec_Weight_l2 a0_6 a1 recf k (v2, 0)) >>= fun y2 => match y2 with
  | (.inl v5) =>
   (some v5)
  | (.inr v6) =>
   (some v6)
def spec_Weight : Nat → Int → Int → Int → (List Nat) → (List Int) → (List (List Int)) → (List T27) → Int → Option (Int)
 | 0 => fun _ _ _ _ _ _ _ _ => none
 | k + 1 => fun a0_0 a0_1 a0_2 a0_3 a0_4 a0_5 a0_6 a1 => spec_Weight_b (spec_Weight k) k a0_0 a0_1 a0_2 a0_3 a0_4 a0_5 a0_6 a1

theorem spec_Weight_b_sim {recf : Int → Int → Int → (List Nat) → (List Int) → (List (List Int)) → (List T27) → Int → Option (Int)} (hrec : ∀  (a0_0 : Int) (a0_1 : Int) (a0_2 : Int) (a0_3 : List Nat) (a0_4 : List Int) (a0_5 : List (List Int)) (a0_6 : List T27) (a1 : Int) (out : Int), recf a0_0 a0_1 a0_2 a0_3 a0_4 a0_5 a0_6 a1 = some out → Sx.Fn Tryz.prog 56 [(Ag [(Vi a0_0), (Vi a0_1), (Vi a0_2), (Sl Kf a0_3), (Sl (Ki .i64) a0_4), (Sl (Kl (Ki .i64)) a0_5), (Sl KT27 a0_6)]), (Vi a1)] [] (fun w : Unit => (Vi out)) (fun w => [])) {k : Nat}  (a0_0 : Int) (a0_1 : Int) (a0_2 : Int) (a0_3 : List Nat) (a0_4 : List Int) (a0_5 : List (List Int)) (a0_6 : List T27) (a1 : Int) {out : Int} (hp : spec_Weight_b recf k a0_0 a0_1 a0_2 a0_3 a0_4 a0_5 a0_6 a1 = some out) : Sx.Fn Tryz.prog 56 [(Ag [(Vi a0_0), (Vi a0_1), (Vi a0_2), (Sl Kf a0_3), (Sl (Ki .i64) a0_4), (Sl (Kl (Ki .i64)) a0_5), (Sl KT27 a0_6)]), (Vi a1)] [] (fun w : Unit => (Vi out)) (fun w => []) := by
 unfold spec_Weight_b at hp
 refine fn_of Tryz.func56 rfl Tryz.ntmps56 rfl fun E hM => ?_
 refine cr fun K1 hK1 => ?_
 refine sx_ox' (ox_box' rfl (lv_ag _) rfl rfl) (wt_none' rfl) fun q2 => ?_
 refine s0 (rd_assign' rfl) ?_
 refine nk hK1 ?_
 refine cr fun K2 hK2 => ?_
 refine s0 (rd_field' (off := 3) rfl Tryz.underlying27 rfl info22 rfl) ?_
 refine s0 (rd_load' (i := 0) (o := 3) rfl ⟨rfl, rfl, rfl, rfl⟩ rfl flat22) ?_
 refine s0 (rd_len' rfl Tryz.underlying22) ?_
 refine s0 (rd_bin' rfl rfl eg_int ru_add) ?_
 refine s0 (rd_field' (off := 4) rfl Tryz.underlying27 rfl info23 rfl) ?_
 refine s0 (rd_load' (i := 0) (o := 4) rfl ⟨rfl, rfl, rfl, rfl⟩ rfl flat23) ?_
 refine s0 (rd_len' rfl Tryz.underlying23) ?_
 refine s0 (rd_bin' rfl rfl eg_int ru_add) ?_
 refine s0 (rd_assign' rfl) ?_
 refine nk hK2 ?_
 refine cx_seq' fun K3 hK3 => ?_
 refine cr fun K4 hK4 => ?_
 refine s0 (rd_field' (off := 5) rfl Tryz.underlying27 rfl info24 rfl) ?_
 refine s0 (rd_load' (i := 0) (o := 5) rfl ⟨rfl, rfl, rfl, rfl⟩ rfl flat24) ?_
 refine s0 (rd_len' rfl Tryz.underlying24) ?_
 refine s0 (rd_move' rfl) ?_
 refine nk hK4 ?_
 refine cx_block' ?_
 obtain ⟨v2, hy1, hp⟩ := bind_some hp
 refine cx_loopg' (F := spec_Weight_l1 a0_5) (G := fun k R v => spec_Weight_l1s a0_5 k R v.1 v.2) (x := ((iadd .i64 (iadd .i64 1 (a0_3.length : Int)) (a0_4.length : Int)), 0)) (gh := ()) (fun (v1 : Int × Int) (w1 : Unit) => (⟨51, [], [(1, (Vi a1)), (2, (Vp q2)), (5, (Vi v1.1)), (19, (Sl (Kl (Ki .i64)) a0_5)), (20, (Vi (a0_5.length : Int))), (21, (Vi v1.2))], [⟨.pointer (some q2), [(Vi a0_0), (Vi a0_1), (Vi a0_2), (Sl Kf a0_3), (Sl (Ki .i64) a0_4), (Sl (Kl (Ki .i64)) a0_5), (Sl KT27 a0_6)], 27, none⟩]⟩ : St)) (fun (v2 : Int) => Zg E (Exit.exit 0) (fun (w2 : Unit) => (⟨51, [], [(1, (Vi a1)), (2, (Vp q2)), (5, (Vi v2))], [⟨.pointer (some q2), [(Vi a0_0), (Vi a0_1), (Vi a0_2), (Sl Kf a0_3), (Sl (Ki .i64) a0_4), (Sl (Kl (Ki .i64)) a0_5), (Sl KT27 a0_6)], 27, none⟩]⟩ : St))) (fun _ => rfl) (fun _ _ => rfl) ?_ hy1 (tx_to' rfl [0] (sub_cons rfl (sub_cons rfl (sub_cons rfl (sub_cons rfl (sub_cons rfl (sub_cons rfl sub_nil)))))) (by decide) (pick_cons rfl pick_nil)) ?_
 ·clear hp hy1
  clear v2
  intro k rec1 KY1 ih1
  rintro ⟨x1, x2⟩ ⟨⟩ y1 hp
  replace hp : spec_Weight_l1s a0_5 k rec1 x1 x2 = some y1 := hp
  unfold spec_Weight_l1s at hp
  refine cr fun K9 hK9 => ?_
  refine s0 (rd_bin' rfl rfl eg_int ru_lss) ?_
  refine nk hK9 ?_
  refine cx_seq' fun K10 hK10 => ?_
  refine cx_cond' rfl (fun h3 => ?_) (fun h3 => ?_)
  ·replace hp := (br_t h3).symm.trans hp
   refine cx_skip' ?_
   show TX E K10 _
   refine tx_k' hK10 ?_
   refine cx_seq' fun K11 hK11 => ?_
   refine cx_block' ?_
   refine cr fun K12 hK12 => ?_
   obtain ⟨r23, hr23, hp⟩ := bind_some hp
   refine s0 (rd_at' (K := (Kl (Ki .i64))) rfl rfl hr23 Tryz.underlying24 info23) ?_
   refine s0 (rd_load_pt' rfl rfl flat23) ?_
   refine s0 (rd_assign' rfl) ?_
   refine nk hK12 ?_
   refine cx_region' ?_
   refine s0 (rd_move' rfl) ?_
   refine s0 (rd_move' rfl) ?_
   refine s0 (rd_len' rfl Tryz.underlying23) ?_
   refine s0 (rd_bin' rfl rfl eg_int ru_add) ?_
   refine s0 (rd_bin' rfl rfl eg_int ru_add) ?_
   refine s0 (rd_assign' rfl) ?_
   refine nk hK11 ?_
   refine cx_region' ?_
   refine s0 (rd_bin' rfl rfl eg_int ru_add) ?_
   refine s0 (rd_move' rfl) ?_
   refine sx_nil' ?_
   show TX E (KY1 _) _
   exact tx_pick' [0] (sub_cons rfl (sub_cons rfl (sub_cons rfl (sub_cons rfl (sub_cons rfl (sub_cons rfl sub_nil)))))) (by decide) (pick_cons rfl pick_nil) (ih1 ((iadd .i64 x1 (iadd .i64 1 (r23.length : Int))), (iadd .i64 x2 1)) () _ hp)
  replace hp := (br_f h3).symm.trans hp
  refine cx_exit' ?_
  replace hp := Option.some.inj hp
  subst hp
  show TX E (Zg E (Exit.exit 0) _ (Exit.exit 0)) _
  exact tx_zend' () rfl [0] (sub_cons rfl (sub_cons rfl (sub_cons rfl sub_nil))) (by decide) (pick_cons rfl pick_nil)
 refine zg_out fun w2 => ?_
 show TX E K3 _
 refine tx_k' hK3 ?_
 refine cx_seq' fun K13 hK13 => ?_
 refine cr fun K14 hK14 => ?_
 refine s0 (rd_field' (off := 6) rfl Tryz.underlying27 rfl info25 rfl) ?_
 refine s0 (rd_load' (i := 0) (o := 6) rfl ⟨rfl, rfl, rfl, rfl⟩ rfl flat25) ?_
 refine s0 (rd_len' rfl Tryz.underlying25) ?_
 refine s0 (rd_move' rfl) ?_
 refine nk hK14 ?_
 refine cx_block' ?_
 obtain ⟨y2, hy2, hp⟩ := bind_some hp
 refine cx_loopg' (F := spec_Weight_l2 a0_6 a1 recf) (G := fun k R v => spec_Weight_l2s a0_6 a1 recf k R v.1 v.2) (x := (v2, 0)) (gh := ()) (fun (v4 : Int × Int) (w4 : Unit) => (⟨51, [], [(1, (Vi a1)), (5, (Vi v4.1)), (32, (Sl KT27 a0_6)), (33, (Vi (a0_6.length : Int))), (34, (Vi v4.2))], []⟩ : St)) (fun (y : Int ⊕ Int) => match y with | (.inl v5) => Zg E Exit.ret (fun (w5 : Unit) => (⟨51, [], [(4, (Vi v5))], []⟩ : St)) | (.inr v6) => Zg E (Exit.exit 2) (fun (w6 : Unit) => (⟨51, [], [(5, (Vi v6))], []⟩ : St))) (fun _ => rfl) (fun _ _ => rfl) ?_ hy2 (tx_to' rfl [] (sub_cons rfl (sub_cons rfl (sub_cons rfl (sub_cons rfl (sub_cons rfl sub_nil))))) (by decide) pick_nil) ?_
 ·clear hp hy2
  clear y2
  intro k rec2 KY2 ih2
  rintro ⟨x5, x6⟩ ⟨⟩ y2 hp
  replace hp : spec_Weight_l2s a0_6 a1 recf k rec2 x5 x6 = some y2 := hp
  unfold spec_Weight_l2s at hp
  refine cr fun K23 hK23 => ?_
  refine s0 (rd_bin' rfl rfl eg_int ru_lss) ?_
  refine nk hK23 ?_
  refine cx_seq' fun K24 hK24 => ?_
  refine cx_cond' rfl (fun h7 => ?_) (fun h7 => ?_)
  ·replace hp := (br_t h7).symm.trans hp
   refine cx_skip' ?_
   show TX E K24 _
   refine tx_k' hK24 ?_
   refine cx_seq' fun K25 hK25 => ?_
   refine cx_block' ?_
   refine cr fun K26 hK26 => ?_
   obtain ⟨r36, hr36, hp⟩ := bind_some hp
   refine s0 (rd_eq' (congrArg Pt (KT27_enc r36)) (rd_at' (K := KT27) rfl rfl hr36 Tryz.underlying25 info27)) ?_
   refine s0 (rd_load_pt_agg' (nn := 7) rfl rfl agg27 (l' := [(Vi r36.f0), (Vi r36.f1), (Vi r36.f2), (Sl Kf r36.f3), (Sl (Ki .i64) r36.f4), (Sl (Kl (Ki .i64)) r36.f5), (Sl KT27 r36.f6)]) rfl) ?_
   refine sx_ox' (ox_alloc' info27 rfl rfl rfl rfl (l := [(Vi 0), (Vi 0), (Vi 0), Vn, Vn, Vn, Vn]) rfl) (wt_none' rfl) fun q9 => ?_
   refine sx_ox' (ox_store' (i := 0) (o := 0) rfl rfl (lv_ag _) ⟨rfl, rfl, rfl, rfl⟩ rfl info27 rfl (H' := [⟨.pointer (some q9), [(Vi r36.f0), (Vi r36.f1), (Vi r36.f2), (Sl Kf r36.f3), (Sl (Ki .i64) r36.f4), (Sl (Kl (Ki .i64)) r36.f5), (Sl KT27 r36.f6)], 27, none⟩]) rfl) (wt_none' rfl) fun _ => ?_
   refine nk hK26 ?_
   refine cx_seq' fun K27 hK27 => ?_
   refine cr fun K28 hK28 => ?_
   refine s0 (rd_move' rfl) ?_
   refine s0 (rd_move' rfl) ?_
   refine s0 (rd_bin' rfl rfl eg_int ru_gtr) ?_
   refine nk hK28 ?_
   refine cx_cond' rfl (fun h8 => ?_) (fun h8 => ?_)
   ·replace hp := (br_t h8).symm.trans hp
    refine cr fun K29 hK29 => ?_
    refine s0 (rd_move' rfl) ?_
    refine s0 (rd_assign' rfl) ?_
    refine nk hK29 ?_
    refine cx_retc' ?_
    replace hp := Option.some.inj hp
    subst hp
    show TX E (Zg E Exit.ret _ Exit.ret) _
    exact tx_zend' () rfl [] (sub_cons rfl sub_nil) (by decide) pick_nil
   replace hp := (br_f h8).symm.trans hp
   refine cx_skip' ?_
   show TX E K27 _
   refine tx_k' hK27 ?_
   refine cx_region' ?_
   refine s0 (rd_move' rfl) ?_
   refine s0 (rd_load_agg' (i := 0) (o := 0) (nn := 7) rfl ⟨rfl, rfl, rfl, rfl⟩ rfl agg27 (l' := [(Vi r36.f0), (Vi r36.f1), (Vi r36.f2), (Sl Kf r36.f3), (Sl (Ki .i64) r36.f4), (Sl (Kl (Ki .i64)) r36.f5), (Sl KT27 r36.f6)]) rfl) ?_
   refine s0 (rd_move' rfl) ?_
   refine s0 (rd_move' rfl) ?_
   refine s0 (rd_bin' rfl rfl eg_int ru_sub) ?_
   obtain ⟨r47, hr47, hp⟩ := bind_some hp
   refine sx_ox' (ox_calln' (ent_fn' Tryz.func56 isn56 rfl rfl) (hrec _ _ _ _ _ _ _ _ _ hr47 : Sx.Fn Tryz.prog 56 [(Ag [(Vi r36.f0), (Vi r36.f1), (Vi r36.f2), (Sl Kf r36.f3), (Sl (Ki .i64) r36.f4), (Sl (Kl (Ki .i64)) r36.f5), (Sl KT27 r36.f6)]), (Vi (isub .i64 a1 x5))] [] (fun x : Unit => (Vi r47)) (fun x => [])) (Hn := fun x : Unit => [⟨.pointer (some q9), [(Vi r36.f0), (Vi r36.f1), (Vi r36.f2), (Sl Kf r36.f3), (Sl (Ki .i64) r36.f4), (Sl (Kl (Ki .i64)) r36.f5), (Sl KT27 r36.f6)], 27, none⟩]) (fun _ => rfl) rfl rfl) (wt_none' rfl) fun ⟨⟩ => ?_
   refine s0 (rd_bin' rfl rfl eg_int ru_add) ?_
   refine s0 (rd_assign' rfl) ?_
   refine nk hK25 ?_
   refine cx_region' ?_
   refine s0 (rd_bin' rfl rfl eg_int ru_add) ?_
   refine s0 (rd_move' rfl) ?_
   refine sx_nil' ?_
   show TX E (KY2 _) _
   exact tx_pick' [] (sub_cons rfl (sub_cons rfl (sub_cons rfl (sub_cons rfl (sub_cons rfl sub_nil))))) (by decide) pick_nil (ih2 ((iadd .i64 x5 r47), (iadd .i64 x6 1)) () _ hp)
  replace hp := (br_f h7).symm.trans hp
  refine cx_exit' ?_
  replace hp := Option.some.inj hp
  subst hp
  show TX E (Zg E (Exit.exit 2) _ (Exit.exit 2)) _
  exact tx_zend' () rfl [] (sub_cons rfl sub_nil) (by decide) pick_nil
 rcases y2 with v5 | v6
 ·dsimp only at hp
  refine zg_out fun w5 => ?_
  replace hp := Option.some.inj hp
  subst hp
  refine tx_pick' (L' := [(4, (Vi v5))]) (H' := []) [] (sub_cons rfl sub_nil) (by decide) pick_nil ?_
  exact tx_ret1' Tryz.results56 rfl () (rv_tmp' rfl) (List.Sublist.refl _)
 dsimp only at hp
 refine zg_out fun w6 => ?_
 show TX E K13 _
 refine tx_k' hK13 ?_
 refine cr fun K22 hK22 => ?_
 refine s0 (rd_move' rfl) ?_
 refine s0 (rd_assign' rfl) ?_
 refine nk hK22 ?_
 refine cx_retc' ?_
 replace hp := Option.some.inj hp
 subst hp
 refine tx_pick' (L' := [(4, (Vi v6))]) (H' := []) [] (sub_cons rfl sub_nil) (by decide) pick_nil ?_
 exact tx_ret1' Tryz.results56 rfl () (rv_tmp' rfl) (List.Sublist.refl _)
theorem spec_Weight_simA : ∀ (k : Nat)  (a0_0 : Int) (a0_1 : Int) (a0_2 : Int) (a0_3 : List Nat) (a0_4 : List Int) (a0_5 : List (List Int)) (a0_6 : List T27) (a1 : Int) (out : Int), spec_Weight k a0_0 a0_1 a0_2 a0_3 a0_4 a0_5 a0_6 a1 = some out → Sx.Fn Tryz.prog 56 [(Ag [(Vi a0_0), (Vi a0_1), (Vi a0_2), (Sl Kf a0_3), (Sl (Ki .i64) a0_4), (Sl (Kl (Ki .i64)) a0_5), (Sl KT27 a0_6)]), (Vi a1)] [] (fun w : Unit => (Vi out)) (fun w => []) := by
 intro k
 induction k with
 | zero => intro a0_0 a0_1 a0_2 a0_3 a0_4 a0_5 a0_6 a1 out hp; cases hp
 | succ k ih => intro a0_0 a0_1 a0_2 a0_3 a0_4 a0_5 a0_6 a1 out hp; exact spec_Weight_b_sim ih a0_0 a0_1 a0_2 a0_3 a0_4 a0_5 a0_6 a1 hp
theorem spec_Weight_sim {k : Nat}  (a0_0 : Int) (a0_1 : Int) (a0_2 : Int) (a0_3 : List Nat) (a0_4 : List Int) (a0_5 : List (List Int)) (a0_6 : List T27) (a1 : Int) {out : Int} (hp : spec_Weight k a0_0 a0_1 a0_2 a0_3 a0_4 a0_5 a0_6 a1 = some out) : Sx.Fn Tryz.prog 56 [(Ag [(Vi a0_0), (Vi a0_1), (Vi a0_2), (Sl Kf a0_3), (Sl (Ki .i64) a0_4), (Sl (Kl (Ki .i64)) a0_5), (Sl KT27 a0_6)]), (Vi a1)] [] (fun w : Unit => (Vi out)) (fun w => []) := spec_Weight_simA k a0_0 a0_1 a0_2 a0_3 a0_4 a0_5 a0_6 a1 out hp

def laws_gLayouts_l1s (a0_6 : List T27) (recf : Int → Int → Int → (List Nat) → (List Int) → (List (List Int)) → (List T27) → Int → Option (Bool)) (a1 : Int) (k : Nat) (rec1 : Int → Option (Unit ⊕ Unit)) (x5 : Int) : Option (Unit ⊕ Unit) :=
 br (decide (x5 < (a0_6.length : Int)))
  ((idx a0_6 x5) >>= fun r12 =>
  (recf r12.f0 r12.f1 r12.f2 r12.f3 r12.f4 r12.f5 r12.f6 a1) >>= fun r16 =>
  br (!r16)
   (some (.inl ()))
   (rec1 (iadd .i64 x5 1)))
  (some (.inr ()))
def laws_gLayouts_l1 (a0_6 : List T27) (recf : Int → Int → Int → (List Nat) → (List Int) → (List (List Int)) → (List T27) → Int → Option (Bool)) (a1 : Int) : Nat → Int → Option (Unit ⊕ Unit)
 | 0, _ => none
 | k + 1, v => laws_gLayouts_l1s a0_6 recf a1 k (laws_gLayouts_l1 a0_6 recf a1 k) v
def laws_gLayouts_j3 (k : Nat) (x3 : Bool) : Option (Bool) :=
 some x3
def laws_gLayouts_j2 (k : Nat) (x2 : Bool) : Option (Bool) :=
 laws_gLayouts_j3 k x2
def laws_gLayouts_j1 (k : Nat) (x1 : Bool) : Option (Bool) :=
 laws_gLayouts_j2 k x1
def laws_gLayouts_b (recf : Int → Int → Int → (List Nat) → (List Int) → (List (List Int)) → (List T27) → Int → Option (Bool)) (k : Nat) (a0_0 : Int) (a0_1 : Int) (a0_2 : Int) (a0_3 : List Nat) (a0_4 : List Int) (a0_5 : List (List Int)) (a0_6 : List T27) (a1 : Int) : Option (Bool) :=
 (laws_gLayouts_l1 a0_6 recf a1 k 0) >>= fun y1 => match y1 with
  | (.inl v6) =>
   (some false)
  | (.inr v7) =>
   (br (decide (a0_1 ≤ a1))
    (br (decide (1 ≤ a0_1))
     (laws_gLayouts_j2 k true)
     (br (decide (a0_0 = 7))
      (laws_gLayouts_j1 k (decide (0 ≤ a0_1)))
      (laws_gLayouts_j1 k false)))
    (laws_gLayouts_j3 k false))
def laws_gLayouts : Nat → Int → Int → Int → (List Nat) → (List Int) → (List (List Int)) → (List T27) → Int → Option (Bool)
 | 0 => fun _ _ _ _ _ _ _ _ => none
 | k + 1 => fun a0_0 a0_1 a0_2 a0_3 a0_4 a0_5 a0_6 a1 => laws_gLayouts_b (laws_gLayouts k) k a0_0 a0_1 a0_2 a0_3 a0_4 a0_5 a0_6 a1

theorem laws_gLayouts_b_sim {recf : Int → Int → Int → (List Nat) → (List Int) → (List (List Int)) → (List T27) → Int → Option (Bool)} (hrec : ∀  (a0_0 : Int) (a0_1 : Int) (a0_2 : Int) (a0_3 : List Nat) (a0_4 : List Int) (a0_5 : List (List Int)) (a0_6 : List T27) (a1 : Int) (out : Bool), recf a0_0 a0_1 a0_2 a0_3 a0_4 a0_5 a0_6 a1 = some out → Sx.Fn Tryz.prog 57 [(Ag [(Vi a0_0), (Vi a0_1), (Vi a0_2), (Sl Kf a0_3), (Sl (Ki .i64) a0_4), (Sl (Kl (Ki .i64)) a0_5), (Sl KT27 a0_6)]), (Vi a1)] [] (fun w : Unit => (Vb out)) (fun w => [])) {k : Nat}  (a0_0 : Int) (a0_1 : Int) (a0_2 : Int) (a0_3 : List Nat) (a0_4 : List Int) (a0_5 : List (List Int)) (a0_6 : List T27) (a1 : Int) {out : Bool} (hp : laws_gLayouts_b recf k a0_0 a0_1 a0_2 a0_3 a0_4 a0_5 a0_6 a1 = some out) : Sx.Fn Tryz.prog 57 [(Ag [(Vi a0_0), (Vi a0_1), (Vi a0_2), (Sl Kf a0_3), (Sl (Ki .i64) a0_4), (Sl (Kl (Ki .i64)) a0_5), (Sl KT27 a0_6)]), (Vi a1)] [] (fun w : Unit => (Vb out)) (fun w => []) := by
 unfold laws_gLayouts_b at hp
 refine fn_of Tryz.func57 rfl Tryz.ntmps57 rfl fun E hM => ?_
 refine cr fun K1 hK1 => ?_
 refine sx_ox' (ox_box' rfl (lv_ag _) rfl rfl) (wt_none' rfl) fun q2 => ?_
 refine s0 (rd_assign' rfl) ?_
 refine nk hK1 ?_
 refine cx_seq' fun K2 hK2 => ?_
 refine cr fun K3 hK3 => ?_
 refine s0 (rd_field' (off := 6) rfl Tryz.underlying27 rfl info25 rfl) ?_
 refine s0 (rd_load' (i := 0) (o := 6) rfl ⟨rfl, rfl, rfl, rfl⟩ rfl flat25) ?_
 refine s0 (rd_len' rfl Tryz.underlying25) ?_
 refine s0 (rd_move' rfl) ?_
 refine nk hK3 ?_
 refine cx_block' ?_
 obtain ⟨y1, hy1, hp⟩ := bind_some hp
 refine cx_loopg' (F := laws_gLayouts_l1 a0_6 recf a1) (G := fun k R v => laws_gLayouts_l1s a0_6 recf a1 k R v) (x := 0) (gh := ()) (fun (v5 : Int) (w5 : Unit) => (⟨38, [], [(1, (Vi a1)), (2, (Vp q2)), (8, (Sl KT27 a0_6)), (9, (Vi (a0_6.length : Int))), (10, (Vi v5))], [⟨.pointer (some q2), [(Vi a0_0), (Vi a0_1), (Vi a0_2), (Sl Kf a0_3), (Sl (Ki .i64) a0_4), (Sl (Kl (Ki .i64)) a0_5), (Sl KT27 a0_6)], 27, none⟩]⟩ : St)) (fun (y : Unit ⊕ Unit) => match y with | (.inl v6) => Zg E Exit.ret (fun (w6 : Unit) => (⟨38, [], [(4, (Vb false))], []⟩ : St)) | (.inr v7) => Zg E (Exit.exit 0) (fun (w7 : Unit) => (⟨38, [], [(1, (Vi a1)), (2, (Vp q2))], [⟨.pointer (some q2), [(Vi a0_0), (Vi a0_1), (Vi a0_2), (Sl Kf a0_3), (Sl (Ki .i64) a0_4), (Sl (Kl (Ki .i64)) a0_5), (Sl KT27 a0_6)], 27, none⟩]⟩ : St))) (fun _ => rfl) (fun _ _ => rfl) ?_ hy1 (tx_to' rfl [0] (sub_cons rfl (sub_cons rfl (sub_cons rfl (sub_cons rfl (sub_cons rfl sub_nil))))) (by decide) (pick_cons rfl pick_nil)) ?_
 ·clear hp hy1
  clear y1
  intro k rec1 KY1 ih1
  rintro x5 ⟨⟩ y1 hp
  replace hp : laws_gLayouts_l1s a0_6 recf a1 k rec1 x5 = some y1 := hp
  unfold laws_gLayouts_l1s at hp
  refine cr fun K14 hK14 => ?_
  refine s0 (rd_bin' rfl rfl eg_int ru_lss) ?_
  refine nk hK14 ?_
  refine cx_seq' fun K15 hK15 => ?_
  refine cx_cond' rfl (fun h7 => ?_) (fun h7 => ?_)
  ·replace hp := (br_t h7).symm.trans hp
   refine cx_skip' ?_
   show TX E K15 _
   refine tx_k' hK15 ?_
   refine cx_seq' fun K16 hK16 => ?_
   refine cx_block' ?_
   refine cr fun K17 hK17 => ?_
   obtain ⟨r12, hr12, hp⟩ := bind_some hp
   refine s0 (rd_eq' (congrArg Pt (KT27_enc r12)) (rd_at' (K := KT27) rfl rfl hr12 Tryz.underlying25 info27)) ?_
   refine s0 (rd_load_pt_agg' (nn := 7) rfl rfl agg27 (l' := [(Vi r12.f0), (Vi r12.f1), (Vi r12.f2), (Sl Kf r12.f3), (Sl (Ki .i64) r12.f4), (Sl (Kl (Ki .i64)) r12.f5), (Sl KT27 r12.f6)]) rfl) ?_
   refine sx_ox' (ox_alloc' info27 rfl rfl rfl rfl (l := [(Vi 0), (Vi 0), (Vi 0), Vn, Vn, Vn, Vn]) rfl) (wt_none' rfl) fun q6 => ?_
   refine sx_ox' (ox_store' (i := 0) (o := 0) rfl rfl (lv_ag _) ⟨rfl, rfl, rfl, rfl⟩ rfl info27 rfl (H' := [⟨.pointer (some q6), [(Vi r12.f0), (Vi r12.f1), (Vi r12.f2), (Sl Kf r12.f3), (Sl (Ki .i64) r12.f4), (Sl (Kl (Ki .i64)) r12.f5), (Sl KT27 r12.f6)], 27, none⟩, ⟨.pointer (some q2), [(Vi a0_0), (Vi a0_1), (Vi a0_2), (Sl Kf a0_3), (Sl (Ki .i64) a0_4), (Sl (Kl (Ki .i64)) a0_5), (Sl KT27 a0_6)], 27, none⟩]) rfl) (wt_none' rfl) fun _ => ?_
   refine nk hK17 ?_
   refine cr fun K18 hK18 => ?_
   refine s0 (rd_load_agg' (i := 0) (o := 0) (nn := 7) rfl ⟨rfl, rfl, rfl, rfl⟩ rfl agg27 (l' := [(Vi r12.f0), (Vi r12.f1), (Vi r12.f2), (Sl Kf r12.f3), (Sl (Ki .i64) r12.f4), (Sl (Kl (Ki .i64)) r12.f5), (Sl KT27 r12.f6)]) rfl) ?_
   refine s0 (rd_move' rfl) ?_
   obtain ⟨r16, hr16, hp⟩ := bind_some hp
   refine sx_ox' (ox_calln' (ent_fn' Tryz.func57 isn57 rfl rfl) (hrec _ _ _ _ _ _ _ _ _ hr16 : Sx.Fn Tryz.prog 57 [(Ag [(Vi r12.f0), (Vi r12.f1), (Vi r12.f2), (Sl Kf r12.f3), (Sl (Ki .i64) r12.f4), (Sl (Kl (Ki .i64)) r12.f5), (Sl KT27 r12.f6)]), (Vi a1)] [] (fun x : Unit => (Vb r16)) (fun x => [])) (Hn := fun x : Unit => [⟨.pointer (some q6), [(Vi r12.f0), (Vi r12.f1), (Vi r12.f2), (Sl Kf r12.f3), (Sl (Ki .i64) r12.f4), (Sl (Kl (Ki .i64)) r12.f5), (Sl KT27 r12.f6)], 27, none⟩, ⟨.pointer (some q2), [(Vi a0_0), (Vi a0_1), (Vi a0_2), (Sl Kf a0_3), (Sl (Ki .i64) a0_4), (Sl (Kl (Ki .i64)) a0_5), (Sl KT27 a0_6)], 27, none⟩]) (fun _ => rfl) rfl rfl) (wt_none' rfl) fun ⟨⟩ => ?_
   refine s0 (rd_un' rfl ru_not) ?_
   refine nk hK18 ?_
   refine cx_cond' rfl (fun h8 => ?_) (fun h8 => ?_)
   ·replace hp := (br_t h8).symm.trans hp
    refine cr fun K19 hK19 => ?_
    refine s0 (rd_assign' rfl) ?_
    refine nk hK19 ?_
    refine cx_retc' ?_
    replace hp := Option.some.inj hp
    subst hp
    show TX E (Zg E Exit.ret _ Exit.ret) _
    exact tx_zend' () rfl [] (sub_cons rfl sub_nil) (by decide) pick_nil
   replace hp := (br_f h8).symm.trans hp
   refine cx_skip' ?_
   show TX E K16 _
   refine tx_k' hK16 ?_
   refine cx_region' ?_
   refine s0 (rd_bin' rfl rfl eg_int ru_add) ?_
   refine s0 (rd_move' rfl) ?_
   refine sx_nil' ?_
   show TX E (KY1 _) _
   exact tx_pick' [1] (sub_cons rfl (sub_cons rfl (sub_cons rfl (sub_cons rfl (sub_cons rfl sub_nil))))) (by decide) (pick_cons rfl pick_nil) (ih1 (iadd .i64 x5 1) () _ hp)
  replace hp := (br_f h7).symm.trans hp
  refine cx_exit' ?_
  replace hp := Option.some.inj hp
  subst hp
  show TX E (Zg E (Exit.exit 0) _ (Exit.exit 0)) _
  exact tx_zend' () rfl [0] (sub_cons rfl (sub_cons rfl sub_nil)) (by decide) (pick_cons rfl pick_nil)
 rcases y1 with v6 | v7
 ·dsimp only at hp
  refine zg_out fun w6 => ?_
  replace hp := Option.some.inj hp
  subst hp
  refine tx_pick' (L' := [(4, (Vb false))]) (H' := []) [] (sub_cons rfl sub_nil) (by decide) pick_nil ?_
  exact tx_ret1' Tryz.results57 rfl () (rv_tmp' rfl) (List.Sublist.refl _)
 dsimp only at hp
 refine zg_out fun w7 => ?_
 show TX E K2 _
 refine tx_k' hK2 ?_
 refine cr fun K9 hK9 => ?_
 refine s0 (rd_field' (off := 1) rfl Tryz.underlying27 rfl info3 rfl) ?_
 refine s0 (rd_load' (i := 0) (o := 1) rfl ⟨rfl, rfl, rfl, rfl⟩ rfl flat3) ?_
 refine s0 (rd_move' rfl) ?_
 refine s0 (rd_bin' rfl rfl eg_int ru_leq) ?_
 refine s0 (rd_move' rfl) ?_
 refine sx_cutn' 14 (fun (v3 : Bool) => (⟨38, [], [(37, (Vb v3))], []⟩ : St)) (fun (v3 : Bool) => laws_gLayouts_j3 k v3 = some out) ?_ ?_
 ·rintro x3 hp
  replace hp : laws_gLayouts_j3 k x3 = some out := hp
  unfold laws_gLayouts_j3 at hp
  refine s0 (rd_assign' rfl) ?_
  refine nk hK9 ?_
  refine cx_retc' ?_
  replace hp := Option.some.inj hp
  subst hp
  refine tx_pick' (L' := [(4, (Vb x3))]) (H' := []) [] (sub_cons rfl sub_nil) (by decide) pick_nil ?_
  exact tx_ret1' Tryz.results57 rfl () (rv_tmp' rfl) (List.Sublist.refl _)
 intro K12 hK12
 rcases br_cases hp with ⟨h2, hp⟩ | ⟨h2, hp⟩
 ·refine sx_rd' (rd_field' (off := 1) rfl Tryz.underlying27 rfl info3 rfl) rfl rfl (wt_is' (wt_guard' rfl rfl rfl) (beq_tt h2)) ?_
  refine sx_rd' (rd_load' (i := 0) (o := 1) rfl ⟨rfl, rfl, rfl, rfl⟩ rfl flat3) rfl rfl (wt_is' (wt_guard' rfl rfl rfl) (beq_tt h2)) ?_
  refine sx_rd' (rd_bin' rfl rfl eg_int ru_geq) rfl rfl (wt_is' (wt_guard' rfl rfl rfl) (beq_tt h2)) ?_
  refine sx_rd' (rd_move' rfl) rfl rfl (wt_is' (wt_guard' rfl rfl rfl) (beq_tt h2)) ?_
  refine sx_cutn' 10 (fun (v2 : Bool) => (⟨38, [], [(37, (Vb v2))], []⟩ : St)) (fun (v2 : Bool) => laws_gLayouts_j2 k v2 = some out) ?_ ?_
  ·rintro x2 hp
   replace hp : laws_gLayouts_j2 k x2 = some out := hp
   unfold laws_gLayouts_j2 at hp
   refine sx_nil' ?_
   show TX E K12 _
   exact tx_pick' [] (sub_cons rfl sub_nil) (by decide) pick_nil (hK12 x2 hp)
  intro K11 hK11
  rcases br_cases hp with ⟨h3, hp⟩ | ⟨h3, hp⟩
  ·refine sx_skip' rfl rfl (wt_is' (wt_guard' rfl rfl rfl) (beq_tf h3)) ?_
   refine sx_skip' rfl rfl (wt_is' (wt_guard' rfl rfl rfl) (beq_tf h3)) ?_
   refine sx_skip' rfl rfl (wt_is' (wt_guard' rfl rfl rfl) (beq_tf h3)) ?_
   refine sx_skip' rfl rfl (wt_is' (wt_guard' rfl rfl rfl) (beq_tf h3)) ?_
   refine sx_skip' rfl rfl (wt_undef' rfl rfl rfl) ?_
   refine sx_skip' rfl rfl (wt_undef' rfl rfl rfl) ?_
   refine sx_skip' rfl rfl (wt_undef' rfl rfl rfl) ?_
   refine sx_skip' rfl rfl (wt_is' (wt_guard' rfl rfl rfl) (beq_tf h3)) ?_
   refine sx_rd' (rd_pick_true' rfl h3 rfl) rfl rfl (wt_is' (wt_guard' rfl rfl rfl) (beq_tt h2)) ?_
   refine s0 (rd_pick_true' rfl h2 rfl) ?_
   refine sx_nil' ?_
   show TX E K11 _
   exact tx_pick' [] (sub_cons rfl sub_nil) (by decide) pick_nil (hK11 true hp)
  refine sx_rd' (rd_field0' rfl Tryz.underlying27 rfl info3 rfl) rfl rfl (wt_is' (wt_guard' rfl rfl rfl) (beq_ff h3)) ?_
  refine sx_rd' (rd_load' (i := 0) (o := 0) rfl ⟨rfl, rfl, rfl, rfl⟩ rfl flat3) rfl rfl (wt_is' (wt_guard' rfl rfl rfl) (beq_ff h3)) ?_
  refine sx_rd' (rd_bin' rfl rfl eg_int ru_eql) rfl rfl (wt_is' (wt_guard' rfl rfl rfl) (beq_ff h3)) ?_
  refine sx_rd' (rd_move' rfl) rfl rfl (wt_is' (wt_guard' rfl rfl rfl) (beq_ff h3)) ?_
  refine sx_cutn' 6 (fun (v1 : Bool) => (⟨38, [], [(37, (Vb v1))], []⟩ : St)) (fun (v1 : Bool) => laws_gLayouts_j1 k v1 = some out) ?_ ?_
  ·rintro x1 hp
   replace hp : laws_gLayouts_j1 k x1 = some out := hp
   unfold laws_gLayouts_j1 at hp
   refine sx_nil' ?_
   show TX E K11 _
   exact tx_pick' [] (sub_cons rfl sub_nil) (by decide) pick_nil (hK11 x1 hp)
  intro K10 hK10
  rcases br_cases hp with ⟨h4, hp⟩ | ⟨h4, hp⟩
  ·refine sx_rd' (rd_field' (off := 1) rfl Tryz.underlying27 rfl info3 rfl) rfl rfl (wt_is' (wt_guard' rfl rfl rfl) (beq_tt h4)) ?_
   refine sx_rd' (rd_load' (i := 0) (o := 1) rfl ⟨rfl, rfl, rfl, rfl⟩ rfl flat3) rfl rfl (wt_is' (wt_guard' rfl rfl rfl) (beq_tt h4)) ?_
   refine sx_rd' (rd_bin' rfl rfl eg_int ru_geq) rfl rfl (wt_is' (wt_guard' rfl rfl rfl) (beq_tt h4)) ?_
   refine sx_rd' (rd_pick_true' rfl h4 rfl) rfl rfl (wt_is' (wt_guard' rfl rfl rfl) (beq_ff h3)) ?_
   refine sx_rd' (rd_pick_false' rfl h3 rfl) rfl rfl (wt_is' (wt_guard' rfl rfl rfl) (beq_tt h2)) ?_
   refine s0 (rd_pick_true' rfl h2 rfl) ?_
   refine sx_nil' ?_
   show TX E K10 _
   exact tx_pick' [] (sub_cons rfl sub_nil) (by decide) pick_nil (hK10 (decide (0 ≤ a0_1)) hp)
  refine sx_skip' rfl rfl (wt_is' (wt_guard' rfl rfl rfl) (beq_ft h4)) ?_
  refine sx_skip' rfl rfl (wt_is' (wt_guard' rfl rfl rfl) (beq_ft h4)) ?_
  refine sx_skip' rfl rfl (wt_is' (wt_guard' rfl rfl rfl) (beq_ft h4)) ?_
  refine sx_rd' (rd_pick_false' rfl h4 rfl) rfl rfl (wt_is' (wt_guard' rfl rfl rfl) (beq_ff h3)) ?_
  refine sx_rd' (rd_pick_false' rfl h3 rfl) rfl rfl (wt_is' (wt_guard' rfl rfl rfl) (beq_tt h2)) ?_
  refine s0 (rd_pick_true' rfl h2 rfl) ?_
  refine sx_nil' ?_
  show TX E K10 _
  exact tx_pick' [] (sub_cons rfl sub_nil) (by decide) pick_nil (hK10 false hp)
 refine sx_skip' rfl rfl (wt_is' (wt_guard' rfl rfl rfl) (beq_ft h2)) ?_
 refine sx_skip' rfl rfl (wt_is' (wt_guard' rfl rfl rfl) (beq_ft h2)) ?_
 refine sx_skip' rfl rfl (wt_is' (wt_guard' rfl rfl rfl) (beq_ft h2)) ?_
 refine sx_skip' rfl rfl (wt_is' (wt_guard' rfl rfl rfl) (beq_ft h2)) ?_
 refine sx_skip' rfl rfl (wt_undef' rfl rfl rfl) ?_
 refine sx_skip' rfl rfl (wt_undef' rfl rfl rfl) ?_
 refine sx_skip' rfl rfl (wt_undef' rfl rfl rfl) ?_
 refine sx_skip' rfl rfl (wt_undef' rfl rfl rfl) ?_
 refine sx_skip' rfl rfl (wt_undef' rfl rfl rfl) ?_
 refine sx_skip' rfl rfl (wt_undef' rfl rfl rfl) ?_
 refine sx_skip' rfl rfl (wt_undef' rfl rfl rfl) ?_
 refine sx_skip' rfl rfl (wt_undef' rfl rfl rfl) ?_
 refine sx_skip' rfl rfl (wt_is' (wt_guard' rfl rfl rfl) (beq_ft h2)) ?_
 refine s0 (rd_pick_false' rfl h2 rfl) ?_
 refine sx_nil' ?_
 show TX E K12 _
 exact tx_pick' [] (sub_cons rfl sub_nil) (by decide) pick_nil (hK12 false hp)
theorem laws_gLayouts_simA : ∀ (k : Nat)  (a0_0 : Int) (a0_1 : Int) (a0_2 : Int) (a0_3 : List Nat) (a0_4 : List Int) (a0_5 : List (List Int)) (a0_6 : List T27) (a1 : Int) (out : Bool), laws_gLayouts k a0_0 a0_1 a0_2 a0_3 a0_4 a0_5 a0_6 a1 = some out → Sx.Fn Tryz.prog 57 [(Ag [(Vi a0_0), (Vi a0_1), (Vi a0_2), (Sl Kf a0_3), (Sl (Ki .i64) a0_4), (Sl (Kl (Ki .i64)) a0_5), (Sl KT27 a0_6)]), (Vi a1)] [] (fun w : Unit => (Vb out)) (fun w => []) := by
 intro k
 induction k with
 | zero => intro a0_0 a0_1 a0_2 a0_3 a0_4 a0_5 a0_6 a1 out hp; cases hp
 | succ k ih => intro a0_0 a0_1 a0_2 a0_3 a0_4 a0_5 a0_6 a1 out hp; exact laws_gLayouts_b_sim ih a0_0 a0_1 a0_2 a0_3 a0_4 a0_5 a0_6 a1 hp
theorem laws_gLayouts_sim {k : Nat}  (a0_0 : Int) (a0_1 : Int) (a0_2 : Int) (a0_3 : List Nat) (a0_4 : List Int) (a0_5 : List (List Int)) (a0_6 : List T27) (a1 : Int) {out : Bool} (hp : laws_gLayouts k a0_0 a0_1 a0_2 a0_3 a0_4 a0_5 a0_6 a1 = some out) : Sx.Fn Tryz.prog 57 [(Ag [(Vi a0_0), (Vi a0_1), (Vi a0_2), (Sl Kf a0_3), (Sl (Ki .i64) a0_4), (Sl (Kl (Ki .i64)) a0_5), (Sl KT27 a0_6)]), (Vi a1)] [] (fun w : Unit => (Vb out)) (fun w => []) := laws_gLayouts_simA k a0_0 a0_1 a0_2 a0_3 a0_4 a0_5 a0_6 a1 out hp

def laws_gSmall_j2 (k : Nat) (rec1 : (Int × Int) → Option (Unit ⊕ Unit)) (x3 : Int) (r15 : Int) (x4 : Int) (x2 : Bool) : Option (Unit ⊕ Unit) :=
 br x2
  (some (.inl ()))
  (rec1 ((isub .i64 x3 r15), (iadd .i64 x4 1)))
def laws_gSmall_l1s (a0 : List T27) (k : Nat) (rec1 : (Int × Int) → Option (Unit ⊕ Unit)) (x3 : Int) (x4 : Int) : Option (Unit ⊕ Unit) :=
 br (decide (x4 < (a0.length : Int)))
  ((idx a0 x4) >>= fun r10 =>
  (spec_Weight k r10.f0 r10.f1 r10.f2 r10.f3 r10.f4 r10.f5 r10.f6 x3) >>= fun r15 =>
  br (decide ((isub .i64 x3 r15) < 0))
   (laws_gSmall_j2 k rec1 x3 r15 x4 true)
   ((laws_gLayouts k r10.f0 r10.f1 r10.f2 r10.f3 r10.f4 r10.f5 r10.f6 9) >>= fun r21 =>
   laws_gSmall_j2 k rec1 x3 r15 x4 (!r21)))
  (some (.inr ()))
def laws_gSmall_l1 (a0 : List T27) : Nat → (Int × Int) → Option (Unit ⊕ Unit)
 | 0, _ => none
 | k + 1, v => laws_gSmall_l1s a0 k (laws_gSmall_l1 a0 k) v.1 v.2
def laws_gSmall (k : Nat) (a0 : List T27) : Option (Bool) :=
 (laws_gSmall_l1 a0 k (2000, 0)) >>= fun y1 => match y1 with
  | (.inl v4) =>
   (some false)
  | (.inr v5) =>
   (some true)

theorem laws_gSmall_sim {k : Nat}  (a0 : List T27) {out : Bool} (hp : laws_gSmall k a0 = some out) : Sx.Fn Tryz.prog 22 [(Sl KT27 a0)] [] (fun w : Unit => (Vb out)) (fun w => []) := by
 unfold laws_gSmall at hp
 refine fn_of Tryz.func22 rfl Tryz.ntmps22 rfl fun E hM => ?_
 refine cr fun K1 hK1 => ?_
 refine s0 (rd_assign' rfl) ?_
 refine nk hK1 ?_
 refine cr fun K2 hK2 => ?_
 refine s0 (rd_assign' rfl) ?_
 refine nk hK2 ?_
 refine cx_seq' fun K3 hK3 => ?_
 refine cr fun K4 hK4 => ?_
 refine s0 (rd_move' rfl) ?_
 refine s0 (rd_len' rfl Tryz.underlying25) ?_
 refine s0 (rd_move' rfl) ?_
 refine nk hK4 ?_
 refine cx_block' ?_
 obtain ⟨y1, hy1, hp⟩ := bind_some hp
 refine cx_loopg' (F := laws_gSmall_l1 a0) (G := fun k R v => laws_gSmall_l1s a0 k R v.1 v.2) (x := (2000, 0)) (gh := ()) (fun (v2 : Int × Int) (w2 : Unit) => (⟨25, [], [(3, (Vi v2.1)), (6, (Sl KT27 a0)), (7, (Vi (a0.length : Int))), (8, (Vi v2.2))], []⟩ : St)) (fun (y : Unit ⊕ Unit) => match y with | (.inl v4) => Zg E Exit.ret (fun (w4 : Unit) => (⟨25, [], [(2, (Vb false))], []⟩ : St)) | (.inr v5) => Zg E (Exit.exit 0) (fun (w5 : Unit) => (⟨25, [], [], []⟩ : St))) (fun _ => rfl) (fun _ _ => rfl) ?_ hy1 (tx_to' rfl [] (sub_cons rfl (sub_cons rfl (sub_cons rfl (sub_cons rfl sub_nil)))) (by decide) pick_nil) ?_
 ·clear hp hy1
  clear y1
  intro k rec1 KY1 ih1
  rintro ⟨x3, x4⟩ ⟨⟩ y1 hp
  replace hp : laws_gSmall_l1s a0 k rec1 x3 x4 = some y1 := hp
  unfold laws_gSmall_l1s at hp
  refine cr fun K13 hK13 => ?_
  refine s0 (rd_bin' rfl rfl eg_int ru_lss) ?_
  refine nk hK13 ?_
  refine cx_seq' fun K14 hK14 => ?_
  refine cx_cond' rfl (fun h5 => ?_) (fun h5 => ?_)
  ·replace hp := (br_t h5).symm.trans hp
   refine cx_skip' ?_
   show TX E K14 _
   refine tx_k' hK14 ?_
   refine cx_seq' fun K15 hK15 => ?_
   refine cx_block' ?_
   refine cr fun K16 hK16 => ?_
   obtain ⟨r10, hr10, hp⟩ := bind_some hp
   refine s0 (rd_eq' (congrArg Pt (KT27_enc r10)) (rd_at' (K := KT27) rfl rfl hr10 Tryz.underlying25 info27)) ?_
   refine s0 (rd_load_pt_agg' (nn := 7) rfl rfl agg27 (l' := [(Vi r10.f0), (Vi r10.f1), (Vi r10.f2), (Sl Kf r10.f3), (Sl (Ki .i64) r10.f4), (Sl (Kl (Ki .i64)) r10.f5), (Sl KT27 r10.f6)]) rfl) ?_
   refine sx_ox' (ox_alloc' info27 rfl rfl rfl rfl (l := [(Vi 0), (Vi 0), (Vi 0), Vn, Vn, Vn, Vn]) rfl) (wt_none' rfl) fun q5 => ?_
   refine sx_ox' (ox_store' (i := 0) (o := 0) rfl rfl (lv_ag _) ⟨rfl, rfl, rfl, rfl⟩ rfl info27 rfl (H' := [⟨.pointer (some q5), [(Vi r10.f0), (Vi r10.f1), (Vi r10.f2), (Sl Kf r10.f3), (Sl (Ki .i64) r10.f4), (Sl (Kl (Ki .i64)) r10.f5), (Sl KT27 r10.f6)], 27, none⟩]) rfl) (wt_none' rfl) fun _ => ?_
   refine nk hK16 ?_
   refine cr fun K17 hK17 => ?_
   refine s0 (rd_move' rfl) ?_
   refine s0 (rd_load_agg' (i := 0) (o := 0) (nn := 7) rfl ⟨rfl, rfl, rfl, rfl⟩ rfl agg27 (l' := [(Vi r10.f0), (Vi r10.f1), (Vi r10.f2), (Sl Kf r10.f3), (Sl (Ki .i64) r10.f4), (Sl (Kl (Ki .i64)) r10.f5), (Sl KT27 r10.f6)]) rfl) ?_
   refine s0 (rd_move' rfl) ?_
   obtain ⟨r15, hr15, hp⟩ := bind_some hp
   refine sx_ox' (ox_calln' (ent_fn' Tryz.func56 isn56 rfl rfl) (spec_Weight_sim _ _ _ _ _ _ _ _ hr15 : Sx.Fn Tryz.prog 56 [(Ag [(Vi r10.f0), (Vi r10.f1), (Vi r10.f2), (Sl Kf r10.f3), (Sl (Ki .i64) r10.f4), (Sl (Kl (Ki .i64)) r10.f5), (Sl KT27 r10.f6)]), (Vi x3)] [] (fun x : Unit => (Vi r15)) (fun x => [])) (Hn := fun x : Unit => [⟨.pointer (some q5), [(Vi r10.f0), (Vi r10.f1), (Vi r10.f2), (Sl Kf r10.f3), (Sl (Ki .i64) r10.f4), (Sl (Kl (Ki .i64)) r10.f5), (Sl KT27 r10.f6)], 27, none⟩]) (fun _ => rfl) rfl rfl) (wt_none' rfl) fun ⟨⟩ => ?_
   refine s0 (rd_bin' rfl rfl eg_int ru_sub) ?_
   refine s0 (rd_assign' rfl) ?_
   refine nk hK17 ?_
   refine cr fun K18 hK18 => ?_
   refine s0 (rd_move' rfl) ?_
   refine s0 (rd_bin' rfl rfl eg_int ru_lss) ?_
   refine s0 (rd_move' rfl) ?_
   refine sx_cutn' 4 (fun (v3 : Bool) => (⟨25, [], [(3, (Vi (isub .i64 x3 r15))), (6, (Sl KT27 a0)), (7, (Vi (a0.length : Int))), (8, (Vi x4)), (23, (Vb v3))], []⟩ : St)) (fun (v3 : Bool) => laws_gSmall_j2 k rec1 x3 r15 x4 v3 = some y1) ?_ ?_
   ·rintro x2 hp
    replace hp : laws_gSmall_j2 k rec1 x3 r15 x4 x2 = some y1 := hp
    unfold laws_gSmall_j2 at hp
    refine nk hK18 ?_
    refine cx_cond' rfl (fun h7 => ?_) (fun h7 => ?_)
    ·replace hp := (br_t h7).symm.trans hp
     refine cr fun K20 hK20 => ?_
     refine s0 (rd_assign' rfl) ?_
     refine nk hK20 ?_
     refine cx_retc' ?_
     replace hp := Option.some.inj hp
     subst hp
     show TX E (Zg E Exit.ret _ Exit.ret) _
     exact tx_zend' () rfl [] (sub_cons rfl sub_nil) (by decide) pick_nil
    replace hp := (br_f h7).symm.trans hp
    refine cx_skip' ?_
    show TX E K15 _
    refine tx_k' hK15 ?_
    refine cx_region' ?_
    refine s0 (rd_bin' rfl rfl eg_int ru_add) ?_
    refine s0 (rd_move' rfl) ?_
    refine sx_nil' ?_
    show TX E (KY1 _) _
    exact tx_pick' [] (sub_cons rfl (sub_cons rfl (sub_cons rfl (sub_cons rfl sub_nil)))) (by decide) pick_nil (ih1 ((isub .i64 x3 r15), (iadd .i64 x4 1)) () _ hp)
   intro K19 hK19
   rcases br_cases hp with ⟨h6, hp⟩ | ⟨h6, hp⟩
   ·refine sx_skip' rfl rfl (wt_is' (wt_guard' rfl rfl rfl) (beq_tf h6)) ?_
    refine sx_skip' rfl rfl (wt_is' (wt_guard' rfl rfl rfl) (beq_tf h6)) ?_
    refine sx_skip' rfl rfl (wt_is' (wt_guard' rfl rfl rfl) (beq_tf h6)) ?_
    refine s0 (rd_pick_true' rfl h6 rfl) ?_
    refine sx_nil' ?_
    show TX E K19 _
    exact tx_pick' [] (sub_cons rfl (sub_cons rfl (sub_cons rfl (sub_cons rfl (sub_cons rfl sub_nil))))) (by decide) pick_nil (hK19 true hp)
   refine sx_rd' (rd_load_agg' (i := 0) (o := 0) (nn := 7) rfl ⟨rfl, rfl, rfl, rfl⟩ rfl agg27 (l' := [(Vi r10.f0), (Vi r10.f1), (Vi r10.f2), (Sl Kf r10.f3), (Sl (Ki .i64) r10.f4), (Sl (Kl (Ki .i64)) r10.f5), (Sl KT27 r10.f6)]) rfl) rfl rfl (wt_is' (wt_guard' rfl rfl rfl) (beq_ff h6)) ?_
   obtain ⟨r21, hr21, hp⟩ := bind_some hp
   refine sx_ox' (ox_calln' (ent_fn' Tryz.func57 isn57 rfl rfl) (laws_gLayouts_sim _ _ _ _ _ _ _ _ hr21 : Sx.Fn Tryz.prog 57 [(Ag [(Vi r10.f0), (Vi r10.f1), (Vi r10.f2), (Sl Kf r10.f3), (Sl (Ki .i64) r10.f4), (Sl (Kl (Ki .i64)) r10.f5), (Sl KT27 r10.f6)]), (Vi 9)] [] (fun x : Unit => (Vb r21)) (fun x => [])) (Hn := fun x : Unit => [⟨.pointer (some q5), [(Vi r10.f0), (Vi r10.f1), (Vi r10.f2), (Sl Kf r10.f3), (Sl (Ki .i64) r10.f4), (Sl (Kl (Ki .i64)) r10.f5), (Sl KT27 r10.f6)], 27, none⟩]) (fun _ => rfl) rfl rfl) (wt_is' (wt_guard' rfl rfl rfl) (beq_ff h6)) fun ⟨⟩ => ?_
   refine sx_rd' (rd_un' rfl ru_not) rfl rfl (wt_is' (wt_guard' rfl rfl rfl) (beq_ff h6)) ?_
   refine s0 (rd_pick_false' rfl h6 rfl) ?_
   refine sx_nil' ?_
   show TX E K19 _
   exact tx_pick' [] (sub_cons rfl (sub_cons rfl (sub_cons rfl (sub_cons rfl (sub_cons rfl sub_nil))))) (by decide) pick_nil (hK19 (!r21) hp)
  replace hp := (br_f h5).symm.trans hp
  refine cx_exit' ?_
  replace hp := Option.some.inj hp
  subst hp
  show TX E (Zg E (Exit.exit 0) _ (Exit.exit 0)) _
  exact tx_zend' () rfl [] sub_nil (by decide) pick_nil
 rcases y1 with v4 | v5
 ·dsimp only at hp
  refine zg_out fun w4 => ?_
  replace hp := Option.some.inj hp
  subst hp
  refine tx_pick' (L' := [(2, (Vb false))]) (H' := []) [] (sub_cons rfl sub_nil) (by decide) pick_nil ?_
  exact tx_ret1' Tryz.results22 rfl () (rv_tmp' rfl) (List.Sublist.refl _)
 dsimp only at hp
 refine zg_out fun w5 => ?_
 show TX E K3 _
 refine tx_k' hK3 ?_
 refine cr fun K21 hK21 => ?_
 refine s0 (rd_assign' rfl) ?_
 refine nk hK21 ?_
 refine cx_retc' ?_
 replace hp := Option.some.inj hp
 subst hp
 refine tx_pick' (L' := [(2, (Vb true))]) (H' := []) [] (sub_cons rfl sub_nil) (by decide) pick_nil ?_
 exact tx_ret1' Tryz.results22 rfl () (rv_tmp' rfl) (List.Sublist.refl _)

def spec_Stride_j1 (k : Nat) (a0 : Int) (x1 : Bool) : Option (Int) :=
 br x1
  (some 3)
  (some a0)
def spec_Stride (k : Nat) (a0 : Int) : Option (Int) :=
 br (decide (a0 < 1))
  (some 0)
  (br (decide (a0 = 1))
   (some 2)
   (br (decide (a0 = 2))
    (spec_Stride_j1 k a0 true)
    (spec_Stride_j1 k a0 (decide (a0 = 3)))))

theorem spec_Stride_sim {k : Nat}  (a0 : Int) {out : Int} (hp : spec_Stride k a0 = some out) : Sx.Fn Tryz.prog 58 [(Vi a0)] [] (fun w : Unit => (Vi out)) (fun w => []) := by
 unfold spec_Stride at hp
 refine fn_of Tryz.func58 rfl Tryz.ntmps58 rfl fun E hM => ?_
 refine cr fun K1 hK1 => ?_
 refine s0 (rd_assign' rfl) ?_
 refine nk hK1 ?_
 refine cx_seq' fun K2 hK2 => ?_
 refine cx_block' ?_
 refine cr fun K3 hK3 => ?_
 refine s0 (rd_move' rfl) ?_
 refine s0 (rd_bin' rfl rfl eg_int ru_lss) ?_
 refine s0 (rd_assign' rfl) ?_
 refine nk hK3 ?_
 refine cx_cond' rfl (fun h1 => ?_) (fun h1 => ?_)
 ·replace hp := (br_t h1).symm.trans hp
  refine cr fun K4 hK4 => ?_
  refine s0 (rd_assign' rfl) ?_
  refine nk hK4 ?_
  refine cx_retc' ?_
  replace hp := Option.some.inj hp
  subst hp
  refine tx_pick' (L' := [(2, (Vi 0))]) (H' := []) [] (sub_cons rfl sub_nil) (by decide) pick_nil ?_
  exact tx_ret1' Tryz.results58 rfl () (rv_tmp' rfl) (List.Sublist.refl _)
 replace hp := (br_f h1).symm.trans hp
 refine cr fun K5 hK5 => ?_
 refine s0 (rd_move' rfl) ?_
 refine s0 (rd_bin' rfl rfl eg_int ru_eql) ?_
 refine s0 (rd_assign' rfl) ?_
 refine nk hK5 ?_
 refine cx_cond' rfl (fun h2 => ?_) (fun h2 => ?_)
 ·replace hp := (br_t h2).symm.trans hp
  refine cr fun K6 hK6 => ?_
  refine s0 (rd_assign' rfl) ?_
  refine nk hK6 ?_
  refine cx_retc' ?_
  replace hp := Option.some.inj hp
  subst hp
  refine tx_pick' (L' := [(2, (Vi 2))]) (H' := []) [] (sub_cons rfl sub_nil) (by decide) pick_nil ?_
  exact tx_ret1' Tryz.results58 rfl () (rv_tmp' rfl) (List.Sublist.refl _)
 replace hp := (br_f h2).symm.trans hp
 refine cr fun K7 hK7 => ?_
 refine s0 (rd_move' rfl) ?_
 refine s0 (rd_bin' rfl rfl eg_int ru_eql) ?_
 refine s0 (rd_move' rfl) ?_
 refine sx_cutn' 3 (fun (v1 : Bool) => (⟨17, [], [(0, (Vi a0)), (15, (Vb v1))], []⟩ : St)) (fun (v1 : Bool) => spec_Stride_j1 k a0 v1 = some out) ?_ ?_
 ·rintro x1 hp
  replace hp : spec_Stride_j1 k a0 x1 = some out := hp
  unfold spec_Stride_j1 at hp
  refine s0 (rd_assign' rfl) ?_
  refine nk hK7 ?_
  refine cx_cond' rfl (fun h4 => ?_) (fun h4 => ?_)
  ·replace hp := (br_t h4).symm.trans hp
   refine cr fun K9 hK9 => ?_
   refine s0 (rd_assign' rfl) ?_
   refine nk hK9 ?_
   refine cx_retc' ?_
   replace hp := Option.some.inj hp
   subst hp
   refine tx_pick' (L' := [(2, (Vi 3))]) (H' := []) [] (sub_cons rfl sub_nil) (by decide) pick_nil ?_
   exact tx_ret1' Tryz.results58 rfl () (rv_tmp' rfl) (List.Sublist.refl _)
  replace hp := (br_f h4).symm.trans hp
  refine cx_skip' ?_
  show TX E K2 _
  refine tx_k' hK2 ?_
  refine cr fun K10 hK10 => ?_
  refine s0 (rd_move' rfl) ?_
  refine s0 (rd_assign' rfl) ?_
  refine nk hK10 ?_
  refine cx_retc' ?_
  replace hp := Option.some.inj hp
  subst hp
  refine tx_pick' (L' := [(2, (Vi a0))]) (H' := []) [] (sub_cons rfl sub_nil) (by decide) pick_nil ?_
  exact tx_ret1' Tryz.results58 rfl () (rv_tmp' rfl) (List.Sublist.refl _)
 intro K8 hK8
 rcases br_cases hp with ⟨h3, hp⟩ | ⟨h3, hp⟩
 ·refine sx_skip' rfl rfl (wt_is' (wt_guard' rfl rfl rfl) (beq_tf h3)) ?_
  refine sx_skip' rfl rfl (wt_is' (wt_guard' rfl rfl rfl) (beq_tf h3)) ?_
  refine s0 (rd_pick_true' rfl h3 rfl) ?_
  refine sx_nil' ?_
  show TX E K8 _
  exact tx_pick' [] (sub_cons rfl (sub_cons rfl sub_nil)) (by decide) pick_nil (hK8 true hp)
 refine sx_rd' (rd_move' rfl) rfl rfl (wt_is' (wt_guard' rfl rfl rfl) (beq_ff h3)) ?_
 refine sx_rd' (rd_bin' rfl rfl eg_int ru_eql) rfl rfl (wt_is' (wt_guard' rfl rfl rfl) (beq_ff h3)) ?_
 refine s0 (rd_pick_false' rfl h3 rfl) ?_
 refine sx_nil' ?_
 show TX E K8 _
 exact tx_pick' [] (sub_cons rfl (sub_cons rfl sub_nil)) (by decide) pick_nil (hK8 (decide (a0 = 3)) hp)

def spec_goodEnds_j6 (k : Nat) (x7 : Int) (rec1 : (Int × Int) → Option (Int ⊕ Int)) (r16 : Int) (x8 : Int) (x6 : Bool) : Option (Int ⊕ Int) :=
 br x6
  (some (.inl x7))
  (rec1 (r16, (iadd .i64 x8 1)))
def spec_goodEnds_j5 (k : Nat) (x7 : Int) (rec1 : (Int × Int) → Option (Int ⊕ Int)) (r16 : Int) (x8 : Int) (x5 : Bool) : Option (Int ⊕ Int) :=
 spec_goodEnds_j6 k x7 rec1 r16 x8 x5
def spec_goodEnds_j4 (k : Nat) (x7 : Int) (rec1 : (Int × Int) → Option (Int ⊕ Int)) (r16 : Int) (x8 : Int) (a3 : Bool) (a2 : Int) (x4 : Bool) : Option (Int ⊕ Int) :=
 br x4
  (spec_goodEnds_j6 k x7 rec1 r16 x8 true)
  (br a3
   (spec_goodEnds_j5 k x7 rec1 r16 x8 (decide (a2 < (isub .i64 r16 x7))))
   (spec_goodEnds_j5 k x7 rec1 r16 x8 false))
def spec_goodEnds_l1s (a0 : List Int) (a3 : Bool) (a2 : Int) (k : Nat) (rec1 : (Int × Int) → Option (Int ⊕ Int)) (x7 : Int) (x8 : Int) : Option (Int ⊕ Int) :=
 br (decide (x8 < (a0.length : Int)))
  ((idx a0 x8) >>= fun r16 =>
  br (decide (r16 < x7))
   (spec_goodEnds_j4 k x7 rec1 r16 x8 a3 a2 true)
   ((irem (isub .i64 r16 x7) a2) >>= fun r26 =>
   spec_goodEnds_j4 k x7 rec1 r16 x8 a3 a2 (!decide (r26 = 0))))
  (some (.inr x7))
def spec_goodEnds_l1 (a0 : List Int) (a3 : Bool) (a2 : Int) : Nat → (Int × Int) → Option (Int ⊕ Int)
 | 0, _ => none
 | k + 1, v => spec_goodEnds_l1s a0 a3 a2 k (spec_goodEnds_l1 a0 a3 a2 k) v.1 v.2
def spec_goodEnds (k : Nat) (a0 : List Int) (a1 : Int) (a2 : Int) (a3 : Bool) : Option (Int × Bool) :=
 (spec_goodEnds_l1 a0 a3 a2 k (a1, 0)) >>= fun y1 => match y1 with
  | (.inl v8) =>
   (some (v8, false))
  | (.inr v9) =>
   (some (v9, true))

theorem spec_goodEnds_sim {k : Nat}  (a0 : List Int) (a1 : Int) (a2 : Int) (a3 : Bool) {out : Int × Bool} (hp : spec_goodEnds k a0 a1 a2 a3 = some out) : Sx.Fn Tryz.prog 60 [(Sl (Ki .i64) a0), (Vi a1), (Vi a2), (Vb a3)] [] (fun w : Unit => (Tu [(Vi out.1), (Vb out.2)])) (fun w => []) := by
 unfold spec_goodEnds at hp
 refine fn_of Tryz.func60 rfl Tryz.ntmps60 rfl fun E hM => ?_
 refine cr fun K1 hK1 => ?_
 refine s0 (rd_assign' rfl) ?_
 refine s0 (rd_assign' rfl) ?_
 refine nk hK1 ?_
 refine cx_seq' fun K2 hK2 => ?_
 refine cr fun K3 hK3 => ?_
 refine s0 (rd_move' rfl) ?_
 refine s0 (rd_len' rfl Tryz.underlying23) ?_
 refine s0 (rd_move' rfl) ?_
 refine nk hK3 ?_
 refine cx_block' ?_
 obtain ⟨y1, hy1, hp⟩ := bind_some hp
 refine cx_loopg' (F := spec_goodEnds_l1 a0 a3 a2) (G := fun k R v => spec_goodEnds_l1s a0 a3 a2 k R v.1 v.2) (x := (a1, 0)) (gh := ()) (fun (v4 : Int × Int) (w4 : Unit) => (⟨43, [], [(1, (Vi v4.1)), (2, (Vi a2)), (3, (Vb a3)), (12, (Sl (Ki .i64) a0)), (13, (Vi (a0.length : Int))), (14, (Vi v4.2))], []⟩ : St)) (fun (y : Int ⊕ Int) => match y with | (.inl v8) => Zg E Exit.ret (fun (w8 : Unit) => (⟨43, [], [(8, (Vi v8)), (9, (Vb false))], []⟩ : St)) | (.inr v9) => Zg E (Exit.exit 0) (fun (w9 : Unit) => (⟨43, [], [(1, (Vi v9))], []⟩ : St))) (fun _ => rfl) (fun _ _ => rfl) ?_ hy1 (tx_to' rfl [] (sub_cons rfl (sub_cons rfl (sub_cons rfl (sub_cons rfl (sub_cons rfl (sub_cons rfl sub_nil)))))) (by decide) pick_nil) ?_
 ·clear hp hy1
  clear y1
  intro k rec1 KY1 ih1
  rintro ⟨x7, x8⟩ ⟨⟩ y1 hp
  replace hp : spec_goodEnds_l1s a0 a3 a2 k rec1 x7 x8 = some y1 := hp
  unfold spec_goodEnds_l1s at hp
  refine cr fun K14 hK14 => ?_
  refine s0 (rd_bin' rfl rfl eg_int ru_lss) ?_
  refine nk hK14 ?_
  refine cx_seq' fun K15 hK15 => ?_
  refine cx_cond' rfl (fun h7 => ?_) (fun h7 => ?_)
  ·replace hp := (br_t h7).symm.trans hp
   refine cx_skip' ?_
   show TX E K15 _
   refine tx_k' hK15 ?_
   refine cx_seq' fun K16 hK16 => ?_
   refine cx_block' ?_
   refine cr fun K17 hK17 => ?_
   obtain ⟨r16, hr16, hp⟩ := bind_some hp
   refine s0 (rd_at' (K := (Ki .i64)) rfl rfl hr16 Tryz.underlying23 info3) ?_
   refine s0 (rd_load_pt' rfl rfl flat3) ?_
   refine s0 (rd_assign' rfl) ?_
   refine nk hK17 ?_
   refine cx_seq' fun K18 hK18 => ?_
   refine cr fun K19 hK19 => ?_
   refine s0 (rd_move' rfl) ?_
   refine s0 (rd_move' rfl) ?_
   refine s0 (rd_bin' rfl rfl eg_int ru_lss) ?_
   refine s0 (rd_move' rfl) ?_
   refine sx_cutn' 7 (fun (v5 : Bool) => (⟨43, [], [(1, (Vi x7)), (2, (Vi a2)), (3, (Vb a3)), (11, (Vi r16)), (12, (Sl (Ki .i64) a0)), (13, (Vi (a0.length : Int))), (14, (Vi x8)), (28, (Vb v5))], []⟩ : St)) (fun (v5 : Bool) => spec_goodEnds_j4 k x7 rec1 r16 x8 a3 a2 v5 = some y1) ?_ ?_
   ·rintro x4 hp
    replace hp : spec_goodEnds_j4 k x7 rec1 r16 x8 a3 a2 x4 = some y1 := hp
    unfold spec_goodEnds_j4 at hp
    refine s0 (rd_move' rfl) ?_
    refine sx_cutn' 9 (fun (v7 : Bool) => (⟨43, [], [(1, (Vi x7)), (2, (Vi a2)), (3, (Vb a3)), (11, (Vi r16)), (12, (Sl (Ki .i64) a0)), (13, (Vi (a0.length : Int))), (14, (Vi x8)), (38, (Vb v7))], []⟩ : St)) (fun (v7 : Bool) => spec_goodEnds_j6 k x7 rec1 r16 x8 v7 = some y1) ?_ ?_
    ·rintro x6 hp
     replace hp : spec_goodEnds_j6 k x7 rec1 r16 x8 x6 = some y1 := hp
     unfold spec_goodEnds_j6 at hp
     refine nk hK19 ?_
     refine cx_cond' rfl (fun h11 => ?_) (fun h11 => ?_)
     ·replace hp := (br_t h11).symm.trans hp
      refine cr fun K23 hK23 => ?_
      refine s0 (rd_move' rfl) ?_
      refine s0 (rd_assign' rfl) ?_
      refine s0 (rd_assign' rfl) ?_
      refine nk hK23 ?_
      refine cx_retc' ?_
      replace hp := Option.some.inj hp
      subst hp
      show TX E (Zg E Exit.ret _ Exit.ret) _
      exact tx_zend' () rfl [] (sub_cons rfl (sub_cons rfl sub_nil)) (by decide) pick_nil
     replace hp := (br_f h11).symm.trans hp
     refine cx_skip' ?_
     show TX E K18 _
     refine tx_k' hK18 ?_
     refine cx_region' ?_
     refine s0 (rd_move' rfl) ?_
     refine s0 (rd_assign' rfl) ?_
     refine nk hK16 ?_
     refine cx_region' ?_
     refine s0 (rd_bin' rfl rfl eg_int ru_add) ?_
     refine s0 (rd_move' rfl) ?_
     refine sx_nil' ?_
     show TX E (KY1 _) _
     exact tx_pick' [] (sub_cons rfl (sub_cons rfl (sub_cons rfl (sub_cons rfl (sub_cons rfl (sub_cons rfl sub_nil)))))) (by decide) pick_nil (ih1 (r16, (iadd .i64 x8 1)) () _ hp)
    intro K22 hK22
    rcases br_cases hp with ⟨h9, hp⟩ | ⟨h9, hp⟩
    ·refine sx_skip' rfl rfl (wt_is' (wt_guard' rfl rfl rfl) (beq_tf h9)) ?_
     refine sx_skip' rfl rfl (wt_is' (wt_guard' rfl rfl rfl) (beq_tf h9)) ?_
     refine sx_skip' rfl rfl (wt_undef' rfl rfl rfl) ?_
     refine sx_skip' rfl rfl (wt_undef' rfl rfl rfl) ?_
     refine sx_skip' rfl rfl (wt_undef' rfl rfl rfl) ?_
     refine sx_skip' rfl rfl (wt_undef' rfl rfl rfl) ?_
     refine sx_skip' rfl rfl (wt_undef' rfl rfl rfl) ?_
     refine sx_skip' rfl rfl (wt_is' (wt_guard' rfl rfl rfl) (beq_tf h9)) ?_
     refine s0 (rd_pick_true' rfl h9 rfl) ?_
     refine sx_nil' ?_
     show TX E K22 _
     exact tx_pick' [] (sub_cons rfl (sub_cons rfl (sub_cons rfl (sub_cons rfl (sub_cons rfl (sub_cons rfl (sub_cons rfl (sub_cons rfl sub_nil)))))))) (by decide) pick_nil (hK22 true hp)
    refine sx_rd' (rd_move' rfl) rfl rfl (wt_is' (wt_guard' rfl rfl rfl) (beq_ff h9)) ?_
    refine sx_rd' (rd_move' rfl) rfl rfl (wt_is' (wt_guard' rfl rfl rfl) (beq_ff h9)) ?_
    refine sx_cutn' 7 (fun (v6 : Bool) => (⟨43, [], [(1, (Vi x7)), (2, (Vi a2)), (3, (Vb a3)), (11, (Vi r16)), (12, (Sl (Ki .i64) a0)), (13, (Vi (a0.length : Int))), (14, (Vi x8)), (38, (Vb v6))], []⟩ : St)) (fun (v6 : Bool) => spec_goodEnds_j5 k x7 rec1 r16 x8 v6 = some y1) ?_ ?_
    ·rintro x5 hp
     replace hp : spec_goodEnds_j5 k x7 rec1 r16 x8 x5 = some y1 := hp
     unfold spec_goodEnds_j5 at hp
     refine sx_nil' ?_
     show TX E K22 _
     exact tx_pick' [] (sub_cons rfl (sub_cons rfl (sub_cons rfl (sub_cons rfl (sub_cons rfl (sub_cons rfl (sub_cons rfl (sub_cons rfl sub_nil)))))))) (by decide) pick_nil (hK22 x5 hp)
    intro K21 hK21
    rcases br_cases hp with ⟨h10, hp⟩ | ⟨h10, hp⟩
    ·refine sx_rd' (rd_move' rfl) rfl rfl (wt_is' (wt_guard' rfl rfl rfl) (beq_tt h10)) ?_
     refine sx_rd' (rd_move' rfl) rfl rfl (wt_is' (wt_guard' rfl rfl rfl) (beq_tt h10)) ?_
     refine sx_rd' (rd_bin' rfl rfl eg_int ru_sub) rfl rfl (wt_is' (wt_guard' rfl rfl rfl) (beq_tt h10)) ?_
     refine sx_rd' (rd_move' rfl) rfl rfl (wt_is' (wt_guard' rfl rfl rfl) (beq_tt h10)) ?_
     refine sx_rd' (rd_bin' rfl rfl eg_int ru_gtr) rfl rfl (wt_is' (wt_guard' rfl rfl rfl) (beq_tt h10)) ?_
     refine sx_rd' (rd_pick_true' rfl h10 rfl) rfl rfl (wt_is' (wt_guard' rfl rfl rfl) (beq_ff h9)) ?_
     refine s0 (rd_pick_false' rfl h9 rfl) ?_
     refine sx_nil' ?_
     show TX E K21 _
     exact tx_pick' [] (sub_cons rfl (sub_cons rfl (sub_cons rfl (sub_cons rfl (sub_cons rfl (sub_cons rfl (sub_cons rfl (sub_cons rfl sub_nil)))))))) (by decide) pick_nil (hK21 (decide (a2 < (isub .i64 r16 x7))) hp)
    refine sx_skip' rfl rfl (wt_is' (wt_guard' rfl rfl rfl) (beq_ft h10)) ?_
    refine sx_skip' rfl rfl (wt_is' (wt_guard' rfl rfl rfl) (beq_ft h10)) ?_
    refine sx_skip' rfl rfl (wt_is' (wt_guard' rfl rfl rfl) (beq_ft h10)) ?_
    refine sx_skip' rfl rfl (wt_is' (wt_guard' rfl rfl rfl) (beq_ft h10)) ?_
    refine sx_skip' rfl rfl (wt_is' (wt_guard' rfl rfl rfl) (beq_ft h10)) ?_
    refine sx_rd' (rd_pick_false' rfl h10 rfl) rfl rfl (wt_is' (wt_guard' rfl rfl rfl) (beq_ff h9)) ?_
    refine s0 (rd_pick_false' rfl h9 rfl) ?_
    refine sx_nil' ?_
    show TX E K21 _
    exact tx_pick' [] (sub_cons rfl (sub_cons rfl (sub_cons rfl (sub_cons rfl (sub_cons rfl (sub_cons rfl (sub_cons rfl (sub_cons rfl sub_nil)))))))) (by decide) pick_nil (hK21 false hp)
   intro K20 hK20
   rcases br_cases hp with ⟨h8, hp⟩ | ⟨h8, hp⟩
   ·refine sx_skip' rfl rfl (wt_is' (wt_guard' rfl rfl rfl) (beq_tf h8)) ?_
    refine sx_skip' rfl rfl (wt_is' (wt_guard' rfl rfl rfl) (beq_tf h8)) ?_
    refine sx_skip' rfl rfl (wt_is' (wt_guard' rfl rfl rfl) (beq_tf h8)) ?_
    refine sx_skip' rfl rfl (wt_is' (wt_guard' rfl rfl rfl) (beq_tf h8)) ?_
    refine sx_skip' rfl rfl (wt_is' (wt_guard' rfl rfl rfl) (beq_tf h8)) ?_
    refine sx_skip' rfl rfl (wt_is' (wt_guard' rfl rfl rfl) (beq_tf h8)) ?_
    refine s0 (rd_pick_true' rfl h8 rfl) ?_
    refine sx_nil' ?_
    show TX E K20 _
    exact tx_pick' [] (sub_cons rfl (sub_cons rfl (sub_cons rfl (sub_cons rfl (sub_cons rfl (sub_cons rfl (sub_cons rfl (sub_cons rfl sub_nil)))))))) (by decide) pick_nil (hK20 true hp)
   refine sx_rd' (rd_move' rfl) rfl rfl (wt_is' (wt_guard' rfl rfl rfl) (beq_ff h8)) ?_
   refine sx_rd' (rd_move' rfl) rfl rfl (wt_is' (wt_guard' rfl rfl rfl) (beq_ff h8)) ?_
   refine sx_rd' (rd_bin' rfl rfl eg_int ru_sub) rfl rfl (wt_is' (wt_guard' rfl rfl rfl) (beq_ff h8)) ?_
   refine sx_rd' (rd_move' rfl) rfl rfl (wt_is' (wt_guard' rfl rfl rfl) (beq_ff h8)) ?_
   obtain ⟨r26, hr26, hp⟩ := bind_some hp
   refine sx_rd' (rd_bin' rfl rfl eg_int (ru_rem hr26)) rfl rfl (wt_is' (wt_guard' rfl rfl rfl) (beq_ff h8)) ?_
   refine sx_rd' (rd_bin' rfl rfl eg_int ru_neq) rfl rfl (wt_is' (wt_guard' rfl rfl rfl) (beq_ff h8)) ?_
   refine s0 (rd_pick_false' rfl h8 rfl) ?_
   refine sx_nil' ?_
   show TX E K20 _
   exact tx_pick' [] (sub_cons rfl (sub_cons rfl (sub_cons rfl (sub_cons rfl (sub_cons rfl (sub_cons rfl (sub_cons rfl (sub_cons rfl sub_nil)))))))) (by decide) pick_nil (hK20 (!decide (r26 = 0)) hp)
  replace hp := (br_f h7).symm.trans hp
  refine cx_exit' ?_
  replace hp := Option.some.inj hp
  subst hp
  show TX E (Zg E (Exit.exit 0) _ (Exit.exit 0)) _
  exact tx_zend' () rfl [] (sub_cons rfl sub_nil) (by decide) pick_nil
 rcases y1 with v8 | v9
 ·dsimp only at hp
  refine zg_out fun w8 => ?_
  replace hp := Option.some.inj hp
  subst hp
  refine tx_pick' (L' := [(8, (Vi v8)), (9, (Vb false))]) (H' := []) [] (sub_cons rfl (sub_cons rfl sub_nil)) (by decide) pick_nil ?_
  exact tx_ret2' Tryz.results60 rfl () (rv_tmp' rfl) (rv_tmp' rfl) rfl (List.Sublist.refl _)
 dsimp only at hp
 refine zg_out fun w9 => ?_
 show TX E K2 _
 refine tx_k' hK2 ?_
 refine cr fun K24 hK24 => ?_
 refine s0 (rd_move' rfl) ?_
 refine s0 (rd_assign' rfl) ?_
 refine s0 (rd_assign' rfl) ?_
 refine nk hK24 ?_
 refine cx_retc' ?_
 replace hp := Option.some.inj hp
 subst hp
 refine tx_pick' (L' := [(8, (Vi v9)), (9, (Vb true))]) (H' := []) [] (sub_cons rfl (sub_cons rfl sub_nil)) (by decide) pick_nil ?_
 exact tx_ret2' Tryz.results60 rfl () (rv_tmp' rfl) (rv_tmp' rfl) rfl (List.Sublist.refl _)

def spec_Cover_j3 (k : Nat) (a0 : Int) (a1 : Int) (x3 : Bool) : Option (Int) :=
 br x3
  (some 4)
  (some (imax a0 a1))
def spec_Cover_j2 (k : Nat) (a0 : Int) (a1 : Int) (x2 : Bool) : Option (Int) :=
 spec_Cover_j3 k a0 a1 x2
def spec_Cover_j1 (k : Nat) (a0 : Int) (a1 : Int) (x1 : Bool) : Option (Int) :=
 br x1
  (spec_Cover_j3 k a0 a1 true)
  (br (decide (a0 = 3))
   (spec_Cover_j2 k a0 a1 (decide (a1 = 2)))
   (spec_Cover_j2 k a0 a1 false))
def spec_Cover (k : Nat) (a0 : Int) (a1 : Int) : Option (Int) :=
 br (decide (a0 = 2))
  (spec_Cover_j1 k a0 a1 (decide (a1 = 3)))
  (spec_Cover_j1 k a0 a1 false)

theorem spec_Cover_sim {k : Nat}  (a0 : Int) (a1 : Int) {out : Int} (hp : spec_Cover k a0 a1 = some out) : Sx.Fn Tryz.prog 72 [(Vi a0), (Vi a1)] [] (fun w : Unit => (Vi out)) (fun w => []) := by
 unfold spec_Cover at hp
 refine fn_of Tryz.func72 rfl Tryz.ntmps72 rfl fun E hM => ?_
 refine cr fun K1 hK1 => ?_
 refine s0 (rd_assign' rfl) ?_
 refine nk hK1 ?_
 refine cx_seq' fun K2 hK2 => ?_
 refine cr fun K3 hK3 => ?_
 refine s0 (rd_move' rfl) ?_
 refine s0 (rd_bin' rfl rfl eg_int ru_eql) ?_
 refine s0 (rd_move' rfl) ?_
 refine sx_cutn' 3 (fun (v1 : Bool) => (⟨22, [], [(0, (Vi a0)), (1, (Vi a1)), (10, (Vb v1))], []⟩ : St)) (fun (v1 : Bool) => spec_Cover_j1 k a0 a1 v1 = some out) ?_ ?_
 ·rintro x1 hp
  replace hp : spec_Cover_j1 k a0 a1 x1 = some out := hp
  unfold spec_Cover_j1 at hp
  refine s0 (rd_move' rfl) ?_
  refine sx_cutn' 7 (fun (v3 : Bool) => (⟨22, [], [(0, (Vi a0)), (1, (Vi a1)), (18, (Vb v3))], []⟩ : St)) (fun (v3 : Bool) => spec_Cover_j3 k a0 a1 v3 = some out) ?_ ?_
  ·rintro x3 hp
   replace hp : spec_Cover_j3 k a0 a1 x3 = some out := hp
   unfold spec_Cover_j3 at hp
   refine nk hK3 ?_
   refine cx_cond' rfl (fun h4 => ?_) (fun h4 => ?_)
   ·replace hp := (br_t h4).symm.trans hp
    refine cr fun K7 hK7 => ?_
    refine s0 (rd_assign' rfl) ?_
    refine nk hK7 ?_
    refine cx_retc' ?_
    replace hp := Option.some.inj hp
    subst hp
    refine tx_pick' (L' := [(4, (Vi 4))]) (H' := []) [] (sub_cons rfl sub_nil) (by decide) pick_nil ?_
    exact tx_ret1' Tryz.results72 rfl () (rv_tmp' rfl) (List.Sublist.refl _)
   replace hp := (br_f h4).symm.trans hp
   refine cx_skip' ?_
   show TX E K2 _
   refine tx_k' hK2 ?_
   refine cr fun K8 hK8 => ?_
   refine s0 (rd_move' rfl) ?_
   refine s0 (rd_move' rfl) ?_
   refine s0 (rd_imax' rfl rfl) ?_
   refine s0 (rd_assign' rfl) ?_
   refine nk hK8 ?_
   refine cx_retc' ?_
   replace hp := Option.some.inj hp
   subst hp
   refine tx_pick' (L' := [(4, (Vi (imax a0 a1)))]) (H' := []) [] (sub_cons rfl sub_nil) (by decide) pick_nil ?_
   exact tx_ret1' Tryz.results72 rfl () (rv_tmp' rfl) (List.Sublist.refl _)
  intro K6 hK6
  rcases br_cases hp with ⟨h2, hp⟩ | ⟨h2, hp⟩
  ·refine sx_skip' rfl rfl (wt_is' (wt_guard' rfl rfl rfl) (beq_tf h2)) ?_
   refine sx_skip' rfl rfl (wt_is' (wt_guard' rfl rfl rfl) (beq_tf h2)) ?_
   refine sx_skip' rfl rfl (wt_is' (wt_guard' rfl rfl rfl) (beq_tf h2)) ?_
   refine sx_skip' rfl rfl (wt_undef' rfl rfl rfl) ?_
   refine sx_skip' rfl rfl (wt_undef' rfl rfl rfl) ?_
   refine sx_skip' rfl rfl (wt_is' (wt_guard' rfl rfl rfl) (beq_tf h2)) ?_
   refine s0 (rd_pick_true' rfl h2 rfl) ?_
   refine sx_nil' ?_
   show TX E K6 _
   exact tx_pick' [] (sub_cons rfl (sub_cons rfl (sub_cons rfl sub_nil))) (by decide) pick_nil (hK6 true hp)
  refine sx_rd' (rd_move' rfl) rfl rfl (wt_is' (wt_guard' rfl rfl rfl) (beq_ff h2)) ?_
  refine sx_rd' (rd_bin' rfl rfl eg_int ru_eql) rfl rfl (wt_is' (wt_guard' rfl rfl rfl) (beq_ff h2)) ?_
  refine sx_rd' (rd_move' rfl) rfl rfl (wt_is' (wt_guard' rfl rfl rfl) (beq_ff h2)) ?_
  refine sx_cutn' 4 (fun (v2 : Bool) => (⟨22, [], [(0, (Vi a0)), (1, (Vi a1)), (18, (Vb v2))], []⟩ : St)) (fun (v2 : Bool) => spec_Cover_j2 k a0 a1 v2 = some out) ?_ ?_
  ·rintro x2 hp
   replace hp : spec_Cover_j2 k a0 a1 x2 = some out := hp
   unfold spec_Cover_j2 at hp
   refine sx_nil' ?_
   show TX E K6 _
   exact tx_pick' [] (sub_cons rfl (sub_cons rfl (sub_cons rfl sub_nil))) (by decide) pick_nil (hK6 x2 hp)
  intro K5 hK5
  rcases br_cases hp with ⟨h3, hp⟩ | ⟨h3, hp⟩
  ·refine sx_rd' (rd_move' rfl) rfl rfl (wt_is' (wt_guard' rfl rfl rfl) (beq_tt h3)) ?_
   refine sx_rd' (rd_bin' rfl rfl eg_int ru_eql) rfl rfl (wt_is' (wt_guard' rfl rfl rfl) (beq_tt h3)) ?_
   refine sx_rd' (rd_pick_true' rfl h3 rfl) rfl rfl (wt_is' (wt_guard' rfl rfl rfl) (beq_ff h2)) ?_
   refine s0 (rd_pick_false' rfl h2 rfl) ?_
   refine sx_nil' ?_
   show TX E K5 _
   exact tx_pick' [] (sub_cons rfl (sub_cons rfl (sub_cons rfl sub_nil))) (by decide) pick_nil (hK5 (decide (a1 = 2)) hp)
  refine sx_skip' rfl rfl (wt_is' (wt_guard' rfl rfl rfl) (beq_ft h3)) ?_
  refine sx_skip' rfl rfl (wt_is' (wt_guard' rfl rfl rfl) (beq_ft h3)) ?_
  refine sx_rd' (rd_pick_false' rfl h3 rfl) rfl rfl (wt_is' (wt_guard' rfl rfl rfl) (beq_ff h2)) ?_
  refine s0 (rd_pick_false' rfl h2 rfl) ?_
  refine sx_nil' ?_
  show TX E K5 _
  exact tx_pick' [] (sub_cons rfl (sub_cons rfl (sub_cons rfl sub_nil))) (by decide) pick_nil (hK5 false hp)
 intro K4 hK4
 rcases br_cases hp with ⟨h1, hp⟩ | ⟨h1, hp⟩
 ·refine sx_rd' (rd_move' rfl) rfl rfl (wt_is' (wt_guard' rfl rfl rfl) (beq_tt h1)) ?_
  refine sx_rd' (rd_bin' rfl rfl eg_int ru_eql) rfl rfl (wt_is' (wt_guard' rfl rfl rfl) (beq_tt h1)) ?_
  refine s0 (rd_pick_true' rfl h1 rfl) ?_
  refine sx_nil' ?_
  show TX E K4 _
  exact tx_pick' [] (sub_cons rfl (sub_cons rfl (sub_cons rfl sub_nil))) (by decide) pick_nil (hK4 (decide (a1 = 3)) hp)
 refine sx_skip' rfl rfl (wt_is' (wt_guard' rfl rfl rfl) (beq_ft h1)) ?_
 refine sx_skip' rfl rfl (wt_is' (wt_guard' rfl rfl rfl) (beq_ft h1)) ?_
 refine s0 (rd_pick_false' rfl h1 rfl) ?_
 refine sx_nil' ?_
 show TX E K4 _
 exact tx_pick' [] (sub_cons rfl (sub_cons rfl (sub_cons rfl sub_nil))) (by decide) pick_nil (hK4 false hp)

def spec_LayoutOf_l1s (a0_6 : List T27) (recf : Int → Int → Int → (List Nat) → (List Int) → (List (List Int)) → (List T27) → Option (Int)) (k : Nat) (rec1 : (Int × Int) → Option (Int)) (x3 : Int) (x4 : Int) : Option (Int) :=
 br (decide (x4 < (a0_6.length : Int)))
  ((idx a0_6 x4) >>= fun r21 =>
  (recf r21.f0 r21.f1 r21.f2 r21.f3 r21.f4 r21.f5 r21.f6) >>= fun r25 =>
  (spec_Cover k x3 r25) >>= fun r26 =>
  rec1 (r26, (iadd .i64 x4 1)))
  (some x3)
def spec_LayoutOf_l1 (a0_6 : List T27) (recf : Int → Int → Int → (List Nat) → (List Int) → (List (List Int)) → (List T27) → Option (Int)) : Nat → (Int × Int) → Option (Int)
 | 0, _ => none
 | k + 1, v => spec_LayoutOf_l1s a0_6 recf k (spec_LayoutOf_l1 a0_6 recf k) v.1 v.2
def spec_LayoutOf_j1 (k : Nat) (a0_1 : Int) (a0_6 : List T27) (recf : Int → Int → Int → (List Nat) → (List Int) → (List (List Int)) → (List T27) → Option (Int)) (x1 : Bool) : Option (Int) :=
 br x1
  (some a0_1)
  ((spec_LayoutOf_l1 a0_6 recf k (a0_1, 0)) >>= fun v4 =>
  some v4)
def spec_LayoutOf_b (recf : Int → Int → Int → (List Nat) → (List Int) → (List (List Int)) → (List T27) → Option (Int)) (k : Nat) (a0_0 : Int) (a0_1 : Int) (a0_2 : Int) (a0_3 : List Nat) (a0_4 : List Int) (a0_5 : List (List Int)) (a0_6 : List T27) : Option (Int) :=
 br (!decide (a0_0 = 7))
  (spec_LayoutOf_j1 k a0_1 a0_6 recf true)
  (spec_LayoutOf_j1 k a0_1 a0_6 recf (!decide (a0_1 = 0)))
def spec_LayoutOf : Nat → Int → Int → Int → (List Nat) → (List Int) → (List (List Int)) → (List T27) → Option (Int)
 | 0 => fun _ _ _ _ _ _ _ => none
 | k + 1 => fun a0_0 a0_1 a0_2 a0_3 a0_4 a0_5 a0_6 => spec_LayoutOf_b (spec_LayoutOf k) k a0_0 a0_1 a0_2 a0_3 a0_4 a0_5 a0_6

theorem spec_LayoutOf_b_sim {recf : Int → Int → Int → (List Nat) → (List Int) → (List (List Int)) → (List T27) → Option (Int)} (hrec : ∀  (a0_0 : Int) (a0_1 : Int) (a0_2 : Int) (a0_3 : List Nat) (a0_4 : List Int) (a0_5 : List (List Int)) (a0_6 : List T27) (out : Int), recf a0_0 a0_1 a0_2 a0_3 a0_4 a0_5 a0_6 = some out → Sx.Fn Tryz.prog 59 [(Ag [(Vi a0_0), (Vi a0_1), (Vi a0_2), (Sl Kf a0_3), (Sl (Ki .i64) a0_4), (Sl (Kl (Ki .i64)) a0_5), (Sl KT27 a0_6)])] [] (fun w : Unit => (Vi out)) (fun w => [])) {k : Nat}  (a0_0 : Int) (a0_1 : Int) (a0_2 : Int) (a0_3 : List Nat) (a0_4 : List Int) (a0_5 : List (List Int)) (a0_6 : List T27) {out : Int} (hp : spec_LayoutOf_b recf k a0_0 a0_1 a0_2 a0_3 a0_4 a0_5 a0_6 = some out) : Sx.Fn Tryz.prog 59 [(Ag [(Vi a0_0), (Vi a0_1), (Vi a0_2), (Sl Kf a0_3), (Sl (Ki .i64) a0_4), (Sl (Kl (Ki .i64)) a0_5), (Sl KT27 a0_6)])] [] (fun w : Unit => (Vi out)) (fun w => []) := by
 unfold spec_LayoutOf_b at hp
 refine fn_of Tryz.func59 rfl Tryz.ntmps59 rfl fun E hM => ?_
 refine cr fun K1 hK1 => ?_
 refine sx_ox' (ox_box' rfl (lv_ag _) rfl rfl) (wt_none' rfl) fun q1 => ?_
 refine s0 (rd_assign' rfl) ?_
 refine nk hK1 ?_
 refine cr fun K2 hK2 => ?_
 refine s0 (rd_field' (off := 1) rfl Tryz.underlying27 rfl info3 rfl) ?_
 refine s0 (rd_load' (i := 0) (o := 1) rfl ⟨rfl, rfl, rfl, rfl⟩ rfl flat3) ?_
 refine s0 (rd_assign' rfl) ?_
 refine nk hK2 ?_
 refine cx_seq' fun K3 hK3 => ?_
 refine cr fun K4 hK4 => ?_
 refine s0 (rd_field0' rfl Tryz.underlying27 rfl info3 rfl) ?_
 refine s0 (rd_load' (i := 0) (o := 0) rfl ⟨rfl, rfl, rfl, rfl⟩ rfl flat3) ?_
 refine s0 (rd_bin' rfl rfl eg_int ru_neq) ?_
 refine s0 (rd_move' rfl) ?_
 refine sx_cutn' 3 (fun (v1 : Bool) => (⟨29, [], [(1, (Vp q1)), (3, (Vi a0_1)), (14, (Vb v1))], [⟨.pointer (some q1), [(Vi a0_0), (Vi a0_1), (Vi a0_2), (Sl Kf a0_3), (Sl (Ki .i64) a0_4), (Sl (Kl (Ki .i64)) a0_5), (Sl KT27 a0_6)], 27, none⟩]⟩ : St)) (fun (v1 : Bool) => spec_LayoutOf_j1 k a0_1 a0_6 recf v1 = some out) ?_ ?_
 ·rintro x1 hp
  replace hp : spec_LayoutOf_j1 k a0_1 a0_6 recf x1 = some out := hp
  unfold spec_LayoutOf_j1 at hp
  refine nk hK4 ?_
  refine cx_cond' rfl (fun h2 => ?_) (fun h2 => ?_)
  ·replace hp := (br_t h2).symm.trans hp
   refine cr fun K6 hK6 => ?_
   refine s0 (rd_move' rfl) ?_
   refine s0 (rd_assign' rfl) ?_
   refine nk hK6 ?_
   refine cx_retc' ?_
   replace hp := Option.some.inj hp
   subst hp
   refine tx_pick' (L' := [(2, (Vi a0_1))]) (H' := []) [] (sub_cons rfl sub_nil) (by decide) pick_nil ?_
   exact tx_ret1' Tryz.results59 rfl () (rv_tmp' rfl) (List.Sublist.refl _)
  replace hp := (br_f h2).symm.trans hp
  refine cx_skip' ?_
  show TX E K3 _
  refine tx_k' hK3 ?_
  refine cx_seq' fun K7 hK7 => ?_
  refine cr fun K8 hK8 => ?_
  refine s0 (rd_field' (off := 6) rfl Tryz.underlying27 rfl info25 rfl) ?_
  refine s0 (rd_load' (i := 0) (o := 6) rfl ⟨rfl, rfl, rfl, rfl⟩ rfl flat25) ?_
  refine s0 (rd_len' rfl Tryz.underlying25) ?_
  refine s0 (rd_move' rfl) ?_
  refine nk hK8 ?_
  refine cx_block' ?_
  obtain ⟨v4, hy1, hp⟩ := bind_some hp
  refine cx_loopg' (F := spec_LayoutOf_l1 a0_6 recf) (G := fun k R v => spec_LayoutOf_l1s a0_6 recf k R v.1 v.2) (x := (a0_1, 0)) (gh := ()) (fun (v3 : Int × Int) (w3 : Unit) => (⟨29, [], [(3, (Vi v3.1)), (17, (Sl KT27 a0_6)), (18, (Vi (a0_6.length : Int))), (19, (Vi v3.2))], []⟩ : St)) (fun (v4 : Int) => Zg E (Exit.exit 0) (fun (w4 : Unit) => (⟨29, [], [(3, (Vi v4))], []⟩ : St))) (fun _ => rfl) (fun _ _ => rfl) ?_ hy1 (tx_to' rfl [] (sub_cons rfl (sub_cons rfl (sub_cons rfl (sub_cons rfl sub_nil)))) (by decide) pick_nil) ?_
  ·clear hp hy1
   clear v4
   intro k rec1 KY1 ih1
   rintro ⟨x3, x4⟩ ⟨⟩ y1 hp
   replace hp : spec_LayoutOf_l1s a0_6 recf k rec1 x3 x4 = some y1 := hp
   unfold spec_LayoutOf_l1s at hp
   refine cr fun K14 hK14 => ?_
   refine s0 (rd_bin' rfl rfl eg_int ru_lss) ?_
   refine nk hK14 ?_
   refine cx_seq' fun K15 hK15 => ?_
   refine cx_cond' rfl (fun h5 => ?_) (fun h5 => ?_)
   ·replace hp := (br_t h5).symm.trans hp
    refine cx_skip' ?_
    show TX E K15 _
    refine tx_k' hK15 ?_
    refine cx_seq' fun K16 hK16 => ?_
    refine cx_block' ?_
    refine cr fun K17 hK17 => ?_
    obtain ⟨r21, hr21, hp⟩ := bind_some hp
    refine s0 (rd_eq' (congrArg Pt (KT27_enc r21)) (rd_at' (K := KT27) rfl rfl hr21 Tryz.underlying25 info27)) ?_
    refine s0 (rd_load_pt_agg' (nn := 7) rfl rfl agg27 (l' := [(Vi r21.f0), (Vi r21.f1), (Vi r21.f2), (Sl Kf r21.f3), (Sl (Ki .i64) r21.f4), (Sl (Kl (Ki .i64)) r21.f5), (Sl KT27 r21.f6)]) rfl) ?_
    refine sx_ox' (ox_alloc' info27 rfl rfl rfl rfl (l := [(Vi 0), (Vi 0), (Vi 0), Vn, Vn, Vn, Vn]) rfl) (wt_none' rfl) fun q5 => ?_
    refine sx_ox' (ox_store' (i := 0) (o := 0) rfl rfl (lv_ag _) ⟨rfl, rfl, rfl, rfl⟩ rfl info27 rfl (H' := [⟨.pointer (some q5), [(Vi r21.f0), (Vi r21.f1), (Vi r21.f2), (Sl Kf r21.f3), (Sl (Ki .i64) r21.f4), (Sl (Kl (Ki .i64)) r21.f5), (Sl KT27 r21.f6)], 27, none⟩]) rfl) (wt_none' rfl) fun _ => ?_
    refine nk hK17 ?_
    refine cx_region' ?_
    refine s0 (rd_move' rfl) ?_
    refine s0 (rd_load_agg' (i := 0) (o := 0) (nn := 7) rfl ⟨rfl, rfl, rfl, rfl⟩ rfl agg27 (l' := [(Vi r21.f0), (Vi r21.f1), (Vi r21.f2), (Sl Kf r21.f3), (Sl (Ki .i64) r21.f4), (Sl (Kl (Ki .i64)) r21.f5), (Sl KT27 r21.f6)]) rfl) ?_
    obtain ⟨r25, hr25, hp⟩ := bind_some hp
    refine sx_ox' (ox_calln' (ent_fn' Tryz.func59 isn59 rfl rfl) (hrec _ _ _ _ _ _ _ _ hr25 : Sx.Fn Tryz.prog 59 [(Ag [(Vi r21.f0), (Vi r21.f1), (Vi r21.f2), (Sl Kf r21.f3), (Sl (Ki .i64) r21.f4), (Sl (Kl (Ki .i64)) r21.f5), (Sl KT27 r21.f6)])] [] (fun x : Unit => (Vi r25)) (fun x => [])) (Hn := fun x : Unit => [⟨.pointer (some q5), [(Vi r21.f0), (Vi r21.f1), (Vi r21.f2), (Sl Kf r21.f3), (Sl (Ki .i64) r21.f4), (Sl (Kl (Ki .i64)) r21.f5), (Sl KT27 r21.f6)], 27, none⟩]) (fun _ => rfl) rfl rfl) (wt_none' rfl) fun ⟨⟩ => ?_
    obtain ⟨r26, hr26, hp⟩ := bind_some hp
    refine sx_ox' (ox_calln' (ent_fn' Tryz.func72 isn72 rfl rfl) (spec_Cover_sim _ _ hr26 : Sx.Fn Tryz.prog 72 [(Vi x3), (Vi r25)] [] (fun x : Unit => (Vi r26)) (fun x => [])) (Hn := fun x : Unit => [⟨.pointer (some q5), [(Vi r21.f0), (Vi r21.f1), (Vi r21.f2), (Sl Kf r21.f3), (Sl (Ki .i64) r21.f4), (Sl (Kl (Ki .i64)) r21.f5), (Sl KT27 r21.f6)], 27, none⟩]) (fun _ => rfl) rfl rfl) (wt_none' rfl) fun ⟨⟩ => ?_
    refine s0 (rd_assign' rfl) ?_
    refine nk hK16 ?_
    refine cx_region' ?_
    refine s0 (rd_bin' rfl rfl eg_int ru_add) ?_
    refine s0 (rd_move' rfl) ?_
    refine sx_nil' ?_
    show TX E (KY1 _) _
    exact tx_pick' [] (sub_cons rfl (sub_cons rfl (sub_cons rfl (sub_cons rfl sub_nil)))) (by decide) pick_nil (ih1 (r26, (iadd .i64 x4 1)) () _ hp)
   replace hp := (br_f h5).symm.trans hp
   refine cx_exit' ?_
   replace hp := Option.some.inj hp
   subst hp
   show TX E (Zg E (Exit.exit 0) _ (Exit.exit 0)) _
   exact tx_zend' () rfl [] (sub_cons rfl sub_nil) (by decide) pick_nil
  refine zg_out fun w4 => ?_
  show TX E K7 _
  refine tx_k' hK7 ?_
  refine cr fun K13 hK13 => ?_
  refine s0 (rd_move' rfl) ?_
  refine s0 (rd_assign' rfl) ?_
  refine nk hK13 ?_
  refine cx_retc' ?_
  replace hp := Option.some.inj hp
  subst hp
  refine tx_pick' (L' := [(2, (Vi v4))]) (H' := []) [] (sub_cons rfl sub_nil) (by decide) pick_nil ?_
  exact tx_ret1' Tryz.results59 rfl () (rv_tmp' rfl) (List.Sublist.refl _)
 intro K5 hK5
 rcases br_cases hp with ⟨h1, hp⟩ | ⟨h1, hp⟩
 ·refine sx_skip' rfl rfl (wt_is' (wt_guard' rfl rfl rfl) (beq_tf h1)) ?_
  refine sx_skip' rfl rfl (wt_is' (wt_guard' rfl rfl rfl) (beq_tf h1)) ?_
  refine s0 (rd_pick_true' rfl h1 rfl) ?_
  refine sx_nil' ?_
  show TX E K5 _
  exact tx_pick' [0] (sub_cons rfl (sub_cons rfl (sub_cons rfl sub_nil))) (by decide) (pick_cons rfl pick_nil) (hK5 true hp)
 refine sx_rd' (rd_move' rfl) rfl rfl (wt_is' (wt_guard' rfl rfl rfl) (beq_ff h1)) ?_
 refine sx_rd' (rd_bin' rfl rfl eg_int ru_neq) rfl rfl (wt_is' (wt_guard' rfl rfl rfl) (beq_ff h1)) ?_
 refine s0 (rd_pick_false' rfl h1 rfl) ?_
 refine sx_nil' ?_
 show TX E K5 _
 exact tx_pick' [0] (sub_cons rfl (sub_cons rfl (sub_cons rfl sub_nil))) (by decide) (pick_cons rfl pick_nil) (hK5 (!decide (a0_1 = 0)) hp)
theorem spec_LayoutOf_simA : ∀ (k : Nat)  (a0_0 : Int) (a0_1 : Int) (a0_2 : Int) (a0_3 : List Nat) (a0_4 : List Int) (a0_5 : List (List Int)) (a0_6 : List T27) (out : Int), spec_LayoutOf k a0_0 a0_1 a0_2 a0_3 a0_4 a0_5 a0_6 = some out → Sx.Fn Tryz.prog 59 [(Ag [(Vi a0_0), (Vi a0_1), (Vi a0_2), (Sl Kf a0_3), (Sl (Ki .i64) a0_4), (Sl (Kl (Ki .i64)) a0_5), (Sl KT27 a0_6)])] [] (fun w : Unit => (Vi out)) (fun w => []) := by
 intro k
 induction k with
 | zero => intro a0_0 a0_1 a0_2 a0_3 a0_4 a0_5 a0_6 out hp; cases hp
 | succ k ih => intro a0_0 a0_1 a0_2 a0_3 a0_4 a0_5 a0_6 out hp; exact spec_LayoutOf_b_sim ih a0_0 a0_1 a0_2 a0_3 a0_4 a0_5 a0_6 hp
theorem spec_LayoutOf_sim {k : Nat}  (a0_0 : Int) (a0_1 : Int) (a0_2 : Int) (a0_3 : List Nat) (a0_4 : List Int) (a0_5 : List (List Int)) (a0_6 : List T27) {out : Int} (hp : spec_LayoutOf k a0_0 a0_1 a0_2 a0_3 a0_4 a0_5 a0_6 = some out) : Sx.Fn Tryz.prog 59 [(Ag [(Vi a0_0), (Vi a0_1), (Vi a0_2), (Sl Kf a0_3), (Sl (Ki .i64) a0_4), (Sl (Kl (Ki .i64)) a0_5), (Sl KT27 a0_6)])] [] (fun w : Unit => (Vi out)) (fun w => []) := spec_LayoutOf_simA k a0_0 a0_1 a0_2 a0_3 a0_4 a0_5 a0_6 out hp

def spec_Good_j16 (k : Nat) (rec2 : Int → Option (Unit ⊕ Unit)) (x23 : Int) (x22 : Bool) : Option (Unit ⊕ Unit) :=
 br x22
  (some (.inl ()))
  (rec2 (iadd .i64 x23 1))
def spec_Good_j15 (k : Nat) (rec2 : Int → Option (Unit ⊕ Unit)) (x23 : Int) (x21 : Bool) : Option (Unit ⊕ Unit) :=
 spec_Good_j16 k rec2 x23 x21
def spec_Good_l2s (a0_6 : List T27) (recf : Int → Int → Int → (List Nat) → (List Int) → (List (List Int)) → (List T27) → Option (Bool)) (a0_1 : Int) (k : Nat) (rec2 : Int → Option (Unit ⊕ Unit)) (x23 : Int) : Option (Unit ⊕ Unit) :=
 br (decide (x23 < (a0_6.length : Int)))
  ((idx a0_6 x23) >>= fun r24 =>
  (recf r24.f0 r24.f1 r24.f2 r24.f3 r24.f4 r24.f5 r24.f6) >>= fun r27 =>
  br (!r27)
   (spec_Good_j16 k rec2 x23 true)
   (br (!decide (a0_1 = 0))
    ((spec_LayoutOf k r24.f0 r24.f1 r24.f2 r24.f3 r24.f4 r24.f5 r24.f6) >>= fun r35 =>
    spec_Good_j15 k rec2 x23 (!decide (r35 = a0_1)))
    (spec_Good_j15 k rec2 x23 false)))
  (some (.inr ()))
def spec_Good_l2 (a0_6 : List T27) (recf : Int → Int → Int → (List Nat) → (List Int) → (List (List Int)) → (List T27) → Option (Bool)) (a0_1 : Int) : Nat → Int → Option (Unit ⊕ Unit)
 | 0, _ => none
 | k + 1, v => spec_Good_l2s a0_6 recf a0_1 k (spec_Good_l2 a0_6 recf a0_1 k) v
def spec_Good_j1 (k : Nat) (x1 : Bool) : Option (Bool) :=
 some x1
def spec_Good_j6 (k : Nat) (x6 : Bool) : Option (Bool) :=
 some x6
def spec_Good_j9 (k : Nat) (x9 : Bool) : Option (Bool) :=
 some x9
def spec_Good_j10 (k : Nat) (rec1 : (Int × Bool × Int) → Option (Int × Bool)) (r143 : Int × Bool) (x12 : Int) (x13 : Bool) : Option (Int × Bool) :=
 rec1 (r143.1, x13, (iadd .i64 x12 1))
def spec_Good_l1s (a0_5 : List (List Int)) (r15 : Int) (k : Nat) (rec1 : (Int × Bool × Int) → Option (Int × Bool)) (x10 : Int) (x11 : Bool) (x12 : Int) : Option (Int × Bool) :=
 br (decide (x12 < (a0_5.length : Int)))
  ((idx a0_5 x12) >>= fun r137 =>
  (spec_goodEnds k r137 x10 r15 false) >>= fun r143 =>
  br x11
   (spec_Good_j10 k rec1 r143 x12 r143.2)
   (spec_Good_j10 k rec1 r143 x12 false))
  (some (x10, x11))
def spec_Good_l1 (a0_5 : List (List Int)) (r15 : Int) : Nat → (Int × Bool × Int) → Option (Int × Bool)
 | 0, _ => none
 | k + 1, v => spec_Good_l1s a0_5 r15 k (spec_Good_l1 a0_5 r15 k) v.1 v.2.1 v.2.2
def spec_Good_j12 (k : Nat) (x17 : Bool) : Option (Bool) :=
 some x17
def spec_Good_j11 (k : Nat) (a0_4 : List Int) (x16 : Bool) : Option (Bool) :=
 br x16
  (spec_Good_j12 k (decide ((a0_4.length : Int) = 0)))
  (spec_Good_j12 k false)
def spec_Good_j8 (k : Nat) (a0_4 : List Int) (r15 : Int) (a0_0 : Int) (a0_3 : List Nat) (a0_5 : List (List Int)) (x8 : Bool) : Option (Bool) :=
 br x8
  ((spec_goodEnds k a0_4 0 r15 (decide (a0_0 = 4))) >>= fun r119 =>
  br r119.2
   (spec_Good_j9 k (decide (r119.1 = (a0_3.length : Int))))
   (spec_Good_j9 k false))
  (br (decide (a0_0 = 6))
   ((spec_Good_l1 a0_5 r15 k (0, true, 0)) >>= fun v12 =>
   br v12.2
    (spec_Good_j11 k a0_4 (decide (v12.1 = (a0_3.length : Int))))
    (spec_Good_j11 k a0_4 false))
   (some false))
def spec_Good_j7 (k : Nat) (a0_4 : List Int) (a0_0 : Int) (r15 : Int) (a0_3 : List Nat) (a0_5 : List (List Int)) (x7 : Bool) : Option (Bool) :=
 br x7
  (some (decide ((a0_4.length : Int) = 0)))
  (br (decide (a0_0 = 3))
   (spec_Good_j8 k a0_4 r15 a0_0 a0_3 a0_5 (decide (a0_0 = 3)))
   (br (decide (a0_0 = 4))
    (spec_Good_j8 k a0_4 r15 a0_0 a0_3 a0_5 (decide (a0_0 = 4)))
    (spec_Good_j8 k a0_4 r15 a0_0 a0_3 a0_5 (decide (a0_0 = 5)))))
def spec_Good_j5 (k : Nat) (a0_0 : Int) (a0_4 : List Int) (a0_3 : List Nat) (r15 : Int) (a0_5 : List (List Int)) (x5 : Bool) : Option (Bool) :=
 br x5
  (some false)
  (br (decide (a0_0 = 1))
   (br (decide ((a0_4.length : Int) = 0))
    (spec_Good_j6 k (decide ((a0_3.length : Int) ≤ r15)))
    (spec_Good_j6 k false))
   (br (decide (a0_0 = 2))
    (spec_Good_j7 k a0_4 a0_0 r15 a0_3 a0_5 (decide (a0_0 = 2)))
    (spec_Good_j7 k a0_4 a0_0 r15 a0_3 a0_5 (decide (a0_0 = 8)))))
def spec_Good_j4 (k : Nat) (a0_0 : Int) (a0_4 : List Int) (a0_3 : List Nat) (r15 : Int) (a0_5 : List (List Int)) (x4 : Bool) : Option (Bool) :=
 spec_Good_j5 k a0_0 a0_4 a0_3 r15 a0_5 x4
def spec_Good_j3 (k : Nat) (a0_0 : Int) (a0_4 : List Int) (a0_3 : List Nat) (r15 : Int) (a0_5 : List (List Int)) (x3 : Bool) : Option (Bool) :=
 br x3
  (spec_Good_j5 k a0_0 a0_4 a0_3 r15 a0_5 true)
  (br (decide (0 < (a0_5.length : Int)))
   (spec_Good_j4 k a0_0 a0_4 a0_3 r15 a0_5 (!decide (a0_0 = 6)))
   (spec_Good_j4 k a0_0 a0_4 a0_3 r15 a0_5 false))
def spec_Good_j2 (k : Nat) (a0_0 : Int) (a0_4 : List Int) (a0_3 : List Nat) (r15 : Int) (a0_5 : List (List Int)) (a0_6 : List T27) (x2 : Bool) : Option (Bool) :=
 br x2
  (spec_Good_j3 k a0_0 a0_4 a0_3 r15 a0_5 true)
  (spec_Good_j3 k a0_0 a0_4 a0_3 r15 a0_5 (decide (0 < (a0_6.length : Int))))
def spec_Good_b (recf : Int → Int → Int → (List Nat) → (List Int) → (List (List Int)) → (List T27) → Option (Bool)) (k : Nat) (a0_0 : Int) (a0_1 : Int) (a0_2 : Int) (a0_3 : List Nat) (a0_4 : List Int) (a0_5 : List (List Int)) (a0_6 : List T27) : Option (Bool) :=
 (spec_Stride k a0_1) >>= fun r15 =>
 br (decide (a0_0 = 7))
  ((spec_Good_l2 a0_6 recf a0_1 k 0) >>= fun y2 => match y2 with
   | (.inl v21) =>
    (some false)
   | (.inr v22) =>
    (br (decide (0 ≤ a0_1))
     (spec_Good_j1 k (decide ((iadd .i64 (iadd .i64 (a0_3.length : Int) (a0_4.length : Int)) (a0_5.length : Int)) = 0)))
     (spec_Good_j1 k false)))
  (br (decide (r15 = 0))
   (spec_Good_j2 k a0_0 a0_4 a0_3 r15 a0_5 a0_6 true)
   ((irem (a0_3.length : Int) r15) >>= fun r66 =>
   spec_Good_j2 k a0_0 a0_4 a0_3 r15 a0_5 a0_6 (!decide (r66 = 0))))
def spec_Good : Nat → Int → Int → Int → (List Nat) → (List Int) → (List (List Int)) → (List T27) → Option (Bool)
 | 0 => fun _ _ _ _ _ _ _ => none
 | k + 1 => fun a0_0 a0_1 a0_2 a0_3 a0_4 a0_5 a0_6 => spec_Good_b (spec_Good k) k a0_0 a0_1 a0_2 a0_3 a0_4 a0_5 a0_6

theorem spec_Good_b_sim {recf : Int → Int → Int → (List Nat) → (List Int) → (List (List Int)) → (List T27) → Option (Bool)} (hrec : ∀  (a0_0 : Int) (a0_1 : Int) (a0_2 : Int) (a0_3 : List Nat) (a0_4 : List Int) (a0_5 : List (List Int)) (a0_6 : List T27) (out : Bool), recf a0_0 a0_1 a0_2 a0_3 a0_4 a0_5 a0_6 = some out → Sx.Fn Tryz.prog 23 [(Ag [(Vi a0_0), (Vi a0_1), (Vi a0_2), (Sl Kf a0_3), (Sl (Ki .i64) a0_4), (Sl (Kl (Ki .i64)) a0_5), (Sl KT27 a0_6)])] [] (fun w : Unit => (Vb out)) (fun w => [])) {k : Nat}  (a0_0 : Int) (a0_1 : Int) (a0_2 : Int) (a0_3 : List Nat) (a0_4 : List Int) (a0_5 : List (List Int)) (a0_6 : List T27) {out : Bool} (hp : spec_Good_b recf k a0_0 a0_1 a0_2 a0_3 a0_4 a0_5 a0_6 = some out) : Sx.Fn Tryz.prog 23 [(Ag [(Vi a0_0), (Vi a0_1), (Vi a0_2), (Sl Kf a0_3), (Sl (Ki .i64) a0_4), (Sl (Kl (Ki .i64)) a0_5), (Sl KT27 a0_6)])] [] (fun w : Unit => (Vb out)) (fun w => []) := by
 unfold spec_Good_b at hp
 refine fn_of Tryz.func23 rfl Tryz.ntmps23 rfl fun E hM => ?_
 refine cr fun K1 hK1 => ?_
 refine sx_ox' (ox_box' rfl (lv_ag _) rfl rfl) (wt_none' rfl) fun q1 => ?_
 refine s0 (rd_assign' rfl) ?_
 refine nk hK1 ?_
 refine cr fun K2 hK2 => ?_
 refine s0 (rd_field' (off := 1) rfl Tryz.underlying27 rfl info3 rfl) ?_
 refine s0 (rd_load' (i := 0) (o := 1) rfl ⟨rfl, rfl, rfl, rfl⟩ rfl flat3) ?_
 obtain ⟨r15, hr15, hp⟩ := bind_some hp
 refine sx_ox' (ox_calln' (ent_fn' Tryz.func58 isn58 rfl rfl) (spec_Stride_sim _ hr15 : Sx.Fn Tryz.prog 58 [(Vi a0_1)] [] (fun x : Unit => (Vi r15)) (fun x => [])) (Hn := fun x : Unit => [⟨.pointer (some q1), [(Vi a0_0), (Vi a0_1), (Vi a0_2), (Sl Kf a0_3), (Sl (Ki .i64) a0_4), (Sl (Kl (Ki .i64)) a0_5), (Sl KT27 a0_6)], 27, none⟩]) (fun _ => rfl) rfl rfl) (wt_none' rfl) fun ⟨⟩ => ?_
 refine s0 (rd_assign' rfl) ?_
 refine nk hK2 ?_
 refine cx_seq' fun K3 hK3 => ?_
 refine cr fun K4 hK4 => ?_
 refine s0 (rd_field0' rfl Tryz.underlying27 rfl info3 rfl) ?_
 refine s0 (rd_load' (i := 0) (o := 0) rfl ⟨rfl, rfl, rfl, rfl⟩ rfl flat3) ?_
 refine s0 (rd_bin' rfl rfl eg_int ru_eql) ?_
 refine nk hK4 ?_
 refine cx_cond' rfl (fun h1 => ?_) (fun h1 => ?_)
 ·replace hp := (br_t h1).symm.trans hp
  refine cx_seq' fun K5 hK5 => ?_
  refine cr fun K6 hK6 => ?_
  refine s0 (rd_field' (off := 6) rfl Tryz.underlying27 rfl info25 rfl) ?_
  refine s0 (rd_load' (i := 0) (o := 6) rfl ⟨rfl, rfl, rfl, rfl⟩ rfl flat25) ?_
  refine s0 (rd_len' rfl Tryz.underlying25) ?_
  refine s0 (rd_move' rfl) ?_
  refine nk hK6 ?_
  refine cx_block' ?_
  obtain ⟨y2, hy2, hp⟩ := bind_some hp
  refine cx_loopg' (F := spec_Good_l2 a0_6 recf a0_1) (G := fun k R v => spec_Good_l2s a0_6 recf a0_1 k R v) (x := 0) (gh := ()) (fun (v18 : Int) (w18 : Unit) => (⟨165, [], [(1, (Vp q1)), (20, (Sl KT27 a0_6)), (21, (Vi (a0_6.length : Int))), (22, (Vi v18))], [⟨.pointer (some q1), [(Vi a0_0), (Vi a0_1), (Vi a0_2), (Sl Kf a0_3), (Sl (Ki .i64) a0_4), (Sl (Kl (Ki .i64)) a0_5), (Sl KT27 a0_6)], 27, none⟩]⟩ : St)) (fun (y : Unit ⊕ Unit) => match y with | (.inl v21) => Zg E Exit.ret (fun (w21 : Unit) => (⟨165, [], [(2, (Vb false))], []⟩ : St)) | (.inr v22) => Zg E (Exit.exit 0) (fun (w22 : Unit) => (⟨165, [], [(1, (Vp q1))], [⟨.pointer (some q1), [(Vi a0_0), (Vi a0_1), (Vi a0_2), (Sl Kf a0_3), (Sl (Ki .i64) a0_4), (Sl (Kl (Ki .i64)) a0_5), (Sl KT27 a0_6)], 27, none⟩]⟩ : St))) (fun _ => rfl) (fun _ _ => rfl) ?_ hy2 (tx_to' rfl [0] (sub_cons rfl (sub_cons rfl (sub_cons rfl (sub_cons rfl sub_nil)))) (by decide) (pick_cons rfl pick_nil)) ?_
  ·clear hp hy2
   clear y2
   intro k rec2 KY2 ih2
   rintro x23 ⟨⟩ y2 hp
   replace hp : spec_Good_l2s a0_6 recf a0_1 k rec2 x23 = some y2 := hp
   unfold spec_Good_l2s at hp
   refine cr fun K59 hK59 => ?_
   refine s0 (rd_bin' rfl rfl eg_int ru_lss) ?_
   refine nk hK59 ?_
   refine cx_seq' fun K60 hK60 => ?_
   refine cx_cond' rfl (fun h28 => ?_) (fun h28 => ?_)
   ·replace hp := (br_t h28).symm.trans hp
    refine cx_skip' ?_
    show TX E K60 _
    refine tx_k' hK60 ?_
    refine cx_seq' fun K61 hK61 => ?_
    refine cx_block' ?_
    refine cr fun K62 hK62 => ?_
    obtain ⟨r24, hr24, hp⟩ := bind_some hp
    refine s0 (rd_eq' (congrArg Pt (KT27_enc r24)) (rd_at' (K := KT27) rfl rfl hr24 Tryz.underlying25 info27)) ?_
    refine s0 (rd_load_pt_agg' (nn := 7) rfl rfl agg27 (l' := [(Vi r24.f0), (Vi r24.f1), (Vi r24.f2), (Sl Kf r24.f3), (Sl (Ki .i64) r24.f4), (Sl (Kl (Ki .i64)) r24.f5), (Sl KT27 r24.f6)]) rfl) ?_
    refine sx_ox' (ox_alloc' info27 rfl rfl rfl rfl (l := [(Vi 0), (Vi 0), (Vi 0), Vn, Vn, Vn, Vn]) rfl) (wt_none' rfl) fun q5 => ?_
    refine sx_ox' (ox_store' (i := 0) (o := 0) rfl rfl (lv_ag _) ⟨rfl, rfl, rfl, rfl⟩ rfl info27 rfl (H' := [⟨.pointer (some q5), [(Vi r24.f0), (Vi r24.f1), (Vi r24.f2), (Sl Kf r24.f3), (Sl (Ki .i64) r24.f4), (Sl (Kl (Ki .i64)) r24.f5), (Sl KT27 r24.f6)], 27, none⟩, ⟨.pointer (some q1), [(Vi a0_0), (Vi a0_1), (Vi a0_2), (Sl Kf a0_3), (Sl (Ki .i64) a0_4), (Sl (Kl (Ki .i64)) a0_5), (Sl KT27 a0_6)], 27, none⟩]) rfl) (wt_none' rfl) fun _ => ?_
    refine nk hK62 ?_
    refine cx_seq' fun K63 hK63 => ?_
    refine cx_plan' [] [] [(0, 1), (1, 0), (2, 1), (3, 1), (4, 1), (5, 1), (6, 1), (7, 1), (8, 1), (10, 1), (11, 1), (9, 0), (12, 1), (13, 1), (14, 1)] mixed (by kernel_rfl) ?_
    refine px_rd' rfl (rd_load_agg' (i := 0) (o := 0) (nn := 7) rfl ⟨rfl, rfl, rfl, rfl⟩ rfl agg27 (l' := [(Vi r24.f0), (Vi r24.f1), (Vi r24.f2), (Sl Kf r24.f3), (Sl (Ki .i64) r24.f4), (Sl (Kl (Ki .i64)) r24.f5), (Sl KT27 r24.f6)]) rfl) rfl rfl (wt_none' rfl) ?_
    obtain ⟨r27, hr27, hp⟩ := bind_some hp
    refine px_ox' rfl (ox_calln' (ent_fn' Tryz.func23 isn23 rfl rfl) (hrec _ _ _ _ _ _ _ _ hr27 : Sx.Fn Tryz.prog 23 [(Ag [(Vi r24.f0), (Vi r24.f1), (Vi r24.f2), (Sl Kf r24.f3), (Sl (Ki .i64) r24.f4), (Sl (Kl (Ki .i64)) r24.f5), (Sl KT27 r24.f6)])] [] (fun x : Unit => (Vb r27)) (fun x => [])) (Hn := fun x : Unit => [⟨.pointer (some q5), [(Vi r24.f0), (Vi r24.f1), (Vi r24.f2), (Sl Kf r24.f3), (Sl (Ki .i64) r24.f4), (Sl (Kl (Ki .i64)) r24.f5), (Sl KT27 r24.f6)], 27, none⟩, ⟨.pointer (some q1), [(Vi a0_0), (Vi a0_1), (Vi a0_2), (Sl Kf a0_3), (Sl (Ki .i64) a0_4), (Sl (Kl (Ki .i64)) a0_5), (Sl KT27 a0_6)], 27, none⟩]) (fun _ => rfl) rfl rfl) rfl bs_nil (wt_none' rfl) fun ⟨⟩ => ?_
    refine px_rd' rfl (rd_un' rfl ru_not) rfl rfl (wt_none' rfl) ?_
    refine px_rd' rfl (rd_move' rfl) rfl rfl (wt_none' rfl) ?_
    refine px_cutn' 11 (fun (v20 : Bool) => (⟨165, [], [(1, (Vp q1)), (20, (Sl KT27 a0_6)), (21, (Vi (a0_6.length : Int))), (22, (Vi x23)), (40, (Vb v20))], [⟨.pointer (some q1), [(Vi a0_0), (Vi a0_1), (Vi a0_2), (Sl Kf a0_3), (Sl (Ki .i64) a0_4), (Sl (Kl (Ki .i64)) a0_5), (Sl KT27 a0_6)], 27, none⟩]⟩ : St)) (fun (v20 : Bool) => spec_Good_j16 k rec2 x23 v20 = some y2) ?_ ?_
    ·rintro x22 hp
     replace hp : spec_Good_j16 k rec2 x23 x22 = some y2 := hp
     unfold spec_Good_j16 at hp
     refine px_nil' ?_
     show TX E K63 _
     refine tx_k' hK63 ?_
     refine cx_cond' rfl (fun h31 => ?_) (fun h31 => ?_)
     ·replace hp := (br_t h31).symm.trans hp
      refine cr fun K66 hK66 => ?_
      refine s0 (rd_assign' rfl) ?_
      refine nk hK66 ?_
      refine cx_retc' ?_
      replace hp := Option.some.inj hp
      subst hp
      show TX E (Zg E Exit.ret _ Exit.ret) _
      exact tx_zend' () rfl [] (sub_cons rfl sub_nil) (by decide) pick_nil
     replace hp := (br_f h31).symm.trans hp
     refine cx_skip' ?_
     show TX E K61 _
     refine tx_k' hK61 ?_
     refine cx_region' ?_
     refine s0 (rd_bin' rfl rfl eg_int ru_add) ?_
     refine s0 (rd_move' rfl) ?_
     refine sx_nil' ?_
     show TX E (KY2 _) _
     exact tx_pick' [0] (sub_cons rfl (sub_cons rfl (sub_cons rfl (sub_cons rfl sub_nil)))) (by decide) (pick_cons rfl pick_nil) (ih2 (iadd .i64 x23 1) () _ hp)
    intro K65 hK65
    rcases br_cases hp with ⟨h29, hp⟩ | ⟨h29, hp⟩
    ·refine px_skip' rfl rfl rfl (wt_is' (wt_guard' rfl rfl rfl) (beq_tf h29)) ?_
     refine px_skip' rfl rfl rfl (wt_is' (wt_guard' rfl rfl rfl) (beq_tf h29)) ?_
     refine px_skip' rfl rfl rfl (wt_is' (wt_guard' rfl rfl rfl) (beq_tf h29)) ?_
     refine px_skip' rfl rfl rfl (wt_is' (wt_guard' rfl rfl rfl) (beq_tf h29)) ?_
     refine px_skip' rfl rfl rfl (wt_undef' rfl rfl rfl) ?_
     refine px_skip' rfl rfl rfl (wt_undef' rfl rfl rfl) ?_
     refine px_skip' rfl rfl rfl (wt_undef' rfl rfl rfl) ?_
     refine px_oskip' rfl rfl rfl (wt_undef' rfl rfl rfl) ?_
     refine px_skip' rfl rfl rfl (wt_undef' rfl rfl rfl) ?_
     refine px_skip' rfl rfl rfl (wt_is' (wt_guard' rfl rfl rfl) (beq_tf h29)) ?_
     refine px_rd' rfl (rd_pick_true' rfl h29 rfl) rfl rfl (wt_none' rfl) ?_
     refine px_nil' ?_
     show TX E K65 _
     exact tx_pick' [1] (sub_cons rfl (sub_cons rfl (sub_cons rfl (sub_cons rfl (sub_cons rfl sub_nil))))) (by decide) (pick_cons rfl pick_nil) (hK65 true hp)
    refine px_rd' rfl (rd_field' (off := 1) rfl Tryz.underlying27 rfl info3 rfl) rfl rfl (wt_is' (wt_guard' rfl rfl rfl) (beq_ff h29)) ?_
    refine px_rd' rfl (rd_load' (i := 1) (o := 1) rfl ⟨rfl, rfl, rfl, rfl⟩ rfl flat3) rfl rfl (wt_is' (wt_guard' rfl rfl rfl) (beq_ff h29)) ?_
    refine px_rd' rfl (rd_bin' rfl rfl eg_int ru_neq) rfl rfl (wt_is' (wt_guard' rfl rfl rfl) (beq_ff h29)) ?_
    refine px_rd' rfl (rd_move' rfl) rfl rfl (wt_is' (wt_guard' rfl rfl rfl) (beq_ff h29)) ?_
    refine px_cutn' 7 (fun (v19 : Bool) => (⟨165, [], [(1, (Vp q1)), (20, (Sl KT27 a0_6)), (21, (Vi (a0_6.length : Int))), (22, (Vi x23)), (40, (Vb v19))], [⟨.pointer (some q1), [(Vi a0_0), (Vi a0_1), (Vi a0_2), (Sl Kf a0_3), (Sl (Ki .i64) a0_4), (Sl (Kl (Ki .i64)) a0_5), (Sl KT27 a0_6)], 27, none⟩]⟩ : St)) (fun (v19 : Bool) => spec_Good_j15 k rec2 x23 v19 = some y2) ?_ ?_
    ·rintro x21 hp
     replace hp : spec_Good_j15 k rec2 x23 x21 = some y2 := hp
     unfold spec_Good_j15 at hp
     refine px_nil' ?_
     show TX E K65 _
     exact tx_pick' [0] (sub_cons rfl (sub_cons rfl (sub_cons rfl (sub_cons rfl (sub_cons rfl sub_nil))))) (by decide) (pick_cons rfl pick_nil) (hK65 x21 hp)
    intro K64 hK64
    rcases br_cases hp with ⟨h30, hp⟩ | ⟨h30, hp⟩
    ·refine px_rd' rfl (rd_load_agg' (i := 0) (o := 0) (nn := 7) rfl ⟨rfl, rfl, rfl, rfl⟩ rfl agg27 (l' := [(Vi r24.f0), (Vi r24.f1), (Vi r24.f2), (Sl Kf r24.f3), (Sl (Ki .i64) r24.f4), (Sl (Kl (Ki .i64)) r24.f5), (Sl KT27 r24.f6)]) rfl) rfl rfl (wt_is' (wt_guard' rfl rfl rfl) (beq_tt h30)) ?_
     refine px_rd' rfl (rd_field' (off := 1) rfl Tryz.underlying27 rfl info3 rfl) rfl rfl (wt_is' (wt_guard' rfl rfl rfl) (beq_tt h30)) ?_
     refine px_rd' rfl (rd_load' (i := 1) (o := 1) rfl ⟨rfl, rfl, rfl, rfl⟩ rfl flat3) rfl rfl (wt_is' (wt_guard' rfl rfl rfl) (beq_tt h30)) ?_
     obtain ⟨r35, hr35, hp⟩ := bind_some hp
     refine px_ox' rfl (ox_calln' (ent_fn' Tryz.func59 isn59 rfl rfl) (spec_LayoutOf_sim _ _ _ _ _ _ _ hr35 : Sx.Fn Tryz.prog 59 [(Ag [(Vi r24.f0), (Vi r24.f1), (Vi r24.f2), (Sl Kf r24.f3), (Sl (Ki .i64) r24.f4), (Sl (Kl (Ki .i64)) r24.f5), (Sl KT27 r24.f6)])] [] (fun x : Unit => (Vi r35)) (fun x => [])) (Hn := fun x : Unit => [⟨.pointer (some q5), [(Vi r24.f0), (Vi r24.f1), (Vi r24.f2), (Sl Kf r24.f3), (Sl (Ki .i64) r24.f4), (Sl (Kl (Ki .i64)) r24.f5), (Sl KT27 r24.f6)], 27, none⟩, ⟨.pointer (some q1), [(Vi a0_0), (Vi a0_1), (Vi a0_2), (Sl Kf a0_3), (Sl (Ki .i64) a0_4), (Sl (Kl (Ki .i64)) a0_5), (Sl KT27 a0_6)], 27, none⟩]) (fun _ => rfl) rfl rfl) rfl bs_nil (wt_is' (wt_guard' rfl rfl rfl) (beq_tt h30)) fun ⟨⟩ => ?_
     refine px_rd' rfl (rd_bin' rfl rfl eg_int ru_neq) rfl rfl (wt_is' (wt_guard' rfl rfl rfl) (beq_tt h30)) ?_
     refine px_rd' rfl (rd_pick_true' rfl h30 rfl) rfl rfl (wt_is' (wt_guard' rfl rfl rfl) (beq_ff h29)) ?_
     refine px_rd' rfl (rd_pick_false' rfl h29 rfl) rfl rfl (wt_none' rfl) ?_
     refine px_nil' ?_
     show TX E K64 _
     exact tx_pick' [1] (sub_cons rfl (sub_cons rfl (sub_cons rfl (sub_cons rfl (sub_cons rfl sub_nil))))) (by decide) (pick_cons rfl pick_nil) (hK64 (!decide (r35 = a0_1)) hp)
    refine px_skip' rfl rfl rfl (wt_is' (wt_guard' rfl rfl rfl) (beq_ft h30)) ?_
    refine px_skip' rfl rfl rfl (wt_is' (wt_guard' rfl rfl rfl) (beq_ft h30)) ?_
    refine px_skip' rfl rfl rfl (wt_is' (wt_guard' rfl rfl rfl) (beq_ft h30)) ?_
    refine px_oskip' rfl rfl rfl (wt_is' (wt_guard' rfl rfl rfl) (beq_ft h30)) ?_
    refine px_skip' rfl rfl rfl (wt_is' (wt_guard' rfl rfl rfl) (beq_ft h30)) ?_
    refine px_rd' rfl (rd_pick_false' rfl h30 rfl) rfl rfl (wt_is' (wt_guard' rfl rfl rfl) (beq_ff h29)) ?_
    refine px_rd' rfl (rd_pick_false' rfl h29 rfl) rfl rfl (wt_none' rfl) ?_
    refine px_nil' ?_
    show TX E K64 _
    exact tx_pick' [1] (sub_cons rfl (sub_cons rfl (sub_cons rfl (sub_cons rfl (sub_cons rfl sub_nil))))) (by decide) (pick_cons rfl pick_nil) (hK64 false hp)
   replace hp := (br_f h28).symm.trans hp
   refine cx_exit' ?_
   replace hp := Option.some.inj hp
   subst hp
   show TX E (Zg E (Exit.exit 0) _ (Exit.exit 0)) _
   exact tx_zend' () rfl [0] (sub_cons rfl sub_nil) (by decide) (pick_cons rfl pick_nil)
  rcases y2 with v21 | v22
  ·dsimp only at hp
   refine zg_out fun w21 => ?_
   replace hp := Option.some.inj hp
   subst hp
   refine tx_pick' (L' := [(2, (Vb false))]) (H' := []) [] (sub_cons rfl sub_nil) (by decide) pick_nil ?_
   exact tx_ret1' Tryz.results23 rfl () (rv_tmp' rfl) (List.Sublist.refl _)
  dsimp only at hp
  refine zg_out fun w22 => ?_
  show TX E K5 _
  refine tx_k' hK5 ?_
  refine cr fun K12 hK12 => ?_
  refine s0 (rd_field' (off := 1) rfl Tryz.underlying27 rfl info3 rfl) ?_
  refine s0 (rd_load' (i := 0) (o := 1) rfl ⟨rfl, rfl, rfl, rfl⟩ rfl flat3) ?_
  refine s0 (rd_bin' rfl rfl eg_int ru_geq) ?_
  refine s0 (rd_move' rfl) ?_
  refine sx_cutn' 13 (fun (v1 : Bool) => (⟨165, [], [(58, (Vb v1))], []⟩ : St)) (fun (v1 : Bool) => spec_Good_j1 k v1 = some out) ?_ ?_
  ·rintro x1 hp
   replace hp : spec_Good_j1 k x1 = some out := hp
   unfold spec_Good_j1 at hp
   refine s0 (rd_assign' rfl) ?_
   refine nk hK12 ?_
   refine cx_retc' ?_
   replace hp := Option.some.inj hp
   subst hp
   refine tx_pick' (L' := [(2, (Vb x1))]) (H' := []) [] (sub_cons rfl sub_nil) (by decide) pick_nil ?_
   exact tx_ret1' Tryz.results23 rfl () (rv_tmp' rfl) (List.Sublist.refl _)
  intro K13 hK13
  rcases br_cases hp with ⟨h3, hp⟩ | ⟨h3, hp⟩
  ·refine sx_rd' (rd_field' (off := 3) rfl Tryz.underlying27 rfl info22 rfl) rfl rfl (wt_is' (wt_guard' rfl rfl rfl) (beq_tt h3)) ?_
   refine sx_rd' (rd_load' (i := 0) (o := 3) rfl ⟨rfl, rfl, rfl, rfl⟩ rfl flat22) rfl rfl (wt_is' (wt_guard' rfl rfl rfl) (beq_tt h3)) ?_
   refine sx_rd' (rd_len' rfl Tryz.underlying22) rfl rfl (wt_is' (wt_guard' rfl rfl rfl) (beq_tt h3)) ?_
   refine sx_rd' (rd_field' (off := 4) rfl Tryz.underlying27 rfl info23 rfl) rfl rfl (wt_is' (wt_guard' rfl rfl rfl) (beq_tt h3)) ?_
   refine sx_rd' (rd_load' (i := 0) (o := 4) rfl ⟨rfl, rfl, rfl, rfl⟩ rfl flat23) rfl rfl (wt_is' (wt_guard' rfl rfl rfl) (beq_tt h3)) ?_
   refine sx_rd' (rd_len' rfl Tryz.underlying23) rfl rfl (wt_is' (wt_guard' rfl rfl rfl) (beq_tt h3)) ?_
   refine sx_rd' (rd_bin' rfl rfl eg_int ru_add) rfl rfl (wt_is' (wt_guard' rfl rfl rfl) (beq_tt h3)) ?_
   refine sx_rd' (rd_field' (off := 5) rfl Tryz.underlying27 rfl info24 rfl) rfl rfl (wt_is' (wt_guard' rfl rfl rfl) (beq_tt h3)) ?_
   refine sx_rd' (rd_load' (i := 0) (o := 5) rfl ⟨rfl, rfl, rfl, rfl⟩ rfl flat24) rfl rfl (wt_is' (wt_guard' rfl rfl rfl) (beq_tt h3)) ?_
   refine sx_rd' (rd_len' rfl Tryz.underlying24) rfl rfl (wt_is' (wt_guard' rfl rfl rfl) (beq_tt h3)) ?_
   refine sx_rd' (rd_bin' rfl rfl eg_int ru_add) rfl rfl (wt_is' (wt_guard' rfl rfl rfl) (beq_tt h3)) ?_
   refine sx_rd' (rd_bin' rfl rfl eg_int ru_eql) rfl rfl (wt_is' (wt_guard' rfl rfl rfl) (beq_tt h3)) ?_
   refine s0 (rd_pick_true' rfl h3 rfl) ?_
   refine sx_nil' ?_
   show TX E K13 _
   exact tx_pick' [] (sub_cons rfl sub_nil) (by decide) pick_nil (hK13 (decide ((iadd .i64 (iadd .i64 (a0_3.length : Int) (a0_4.length : Int)) (a0_5.length : Int)) = 0)) hp)
  refine sx_skip' rfl rfl (wt_is' (wt_guard' rfl rfl rfl) (beq_ft h3)) ?_
  refine sx_skip' rfl rfl (wt_is' (wt_guard' rfl rfl rfl) (beq_ft h3)) ?_
  refine sx_skip' rfl rfl (wt_is' (wt_guard' rfl rfl rfl) (beq_ft h3)) ?_
  refine sx_skip' rfl rfl (wt_is' (wt_guard' rfl rfl rfl) (beq_ft h3)) ?_
  refine sx_skip' rfl rfl (wt_is' (wt_guard' rfl rfl rfl) (beq_ft h3)) ?_
  refine sx_skip' rfl rfl (wt_is' (wt_guard' rfl rfl rfl) (beq_ft h3)) ?_
  refine sx_skip' rfl rfl (wt_is' (wt_guard' rfl rfl rfl) (beq_ft h3)) ?_
  refine sx_skip' rfl rfl (wt_is' (wt_guard' rfl rfl rfl) (beq_ft h3)) ?_
  refine sx_skip' rfl rfl (wt_is' (wt_guard' rfl rfl rfl) (beq_ft h3)) ?_
  refine sx_skip' rfl rfl (wt_is' (wt_guard' rfl rfl rfl) (beq_ft h3)) ?_
  refine sx_skip' rfl rfl (wt_is' (wt_guard' rfl rfl rfl) (beq_ft h3)) ?_
  refine sx_skip' rfl rfl (wt_is' (wt_guard' rfl rfl rfl) (beq_ft h3)) ?_
  refine s0 (rd_pick_false' rfl h3 rfl) ?_
  refine sx_nil' ?_
  show TX E K13 _
  exact tx_pick' [] (sub_cons rfl sub_nil) (by decide) pick_nil (hK13 false hp)
 replace hp := (br_f h1).symm.trans hp
 refine cx_skip' ?_
 show TX E K3 _
 refine tx_k' hK3 ?_
 refine cx_seq' fun K14 hK14 => ?_
 refine cr fun K15 hK15 => ?_
 refine s0 (rd_move' rfl) ?_
 refine s0 (rd_bin' rfl rfl eg_int ru_eql) ?_
 refine s0 (rd_move' rfl) ?_
 refine sx_cutn' 7 (fun (v2 : Bool) => (⟨165, [], [(1, (Vp q1)), (3, (Vi r15)), (68, (Vb v2))], [⟨.pointer (some q1), [(Vi a0_0), (Vi a0_1), (Vi a0_2), (Sl Kf a0_3), (Sl (Ki .i64) a0_4), (Sl (Kl (Ki .i64)) a0_5), (Sl KT27 a0_6)], 27, none⟩]⟩ : St)) (fun (v2 : Bool) => spec_Good_j2 k a0_0 a0_4 a0_3 r15 a0_5 a0_6 v2 = some out) ?_ ?_
 ·rintro x2 hp
  replace hp : spec_Good_j2 k a0_0 a0_4 a0_3 r15 a0_5 a0_6 x2 = some out := hp
  unfold spec_Good_j2 at hp
  refine s0 (rd_move' rfl) ?_
  refine sx_cutn' 5 (fun (v3 : Bool) => (⟨165, [], [(1, (Vp q1)), (3, (Vi r15)), (74, (Vb v3))], [⟨.pointer (some q1), [(Vi a0_0), (Vi a0_1), (Vi a0_2), (Sl Kf a0_3), (Sl (Ki .i64) a0_4), (Sl (Kl (Ki .i64)) a0_5), (Sl KT27 a0_6)], 27, none⟩]⟩ : St)) (fun (v3 : Bool) => spec_Good_j3 k a0_0 a0_4 a0_3 r15 a0_5 v3 = some out) ?_ ?_
  ·rintro x3 hp
   replace hp : spec_Good_j3 k a0_0 a0_4 a0_3 r15 a0_5 x3 = some out := hp
   unfold spec_Good_j3 at hp
   refine s0 (rd_move' rfl) ?_
   refine sx_cutn' 10 (fun (v5 : Bool) => (⟨165, [], [(1, (Vp q1)), (3, (Vi r15)), (85, (Vb v5))], [⟨.pointer (some q1), [(Vi a0_0), (Vi a0_1), (Vi a0_2), (Sl Kf a0_3), (Sl (Ki .i64) a0_4), (Sl (Kl (Ki .i64)) a0_5), (Sl KT27 a0_6)], 27, none⟩]⟩ : St)) (fun (v5 : Bool) => spec_Good_j5 k a0_0 a0_4 a0_3 r15 a0_5 v5 = some out) ?_ ?_
   ·rintro x5 hp
    replace hp : spec_Good_j5 k a0_0 a0_4 a0_3 r15 a0_5 x5 = some out := hp
    unfold spec_Good_j5 at hp
    refine nk hK15 ?_
    refine cx_cond' rfl (fun h8 => ?_) (fun h8 => ?_)
    ·replace hp := (br_t h8).symm.trans hp
     refine cr fun K20 hK20 => ?_
     refine s0 (rd_assign' rfl) ?_
     refine nk hK20 ?_
     refine cx_retc' ?_
     replace hp := Option.some.inj hp
     subst hp
     refine tx_pick' (L' := [(2, (Vb false))]) (H' := []) [] (sub_cons rfl sub_nil) (by decide) pick_nil ?_
     exact tx_ret1' Tryz.results23 rfl () (rv_tmp' rfl) (List.Sublist.refl _)
    replace hp := (br_f h8).symm.trans hp
    refine cx_skip' ?_
    show TX E K14 _
    refine tx_k' hK14 ?_
    refine cx_seq' fun K21 hK21 => ?_
    refine cr fun K22 hK22 => ?_
    refine s0 (rd_field0' rfl Tryz.underlying27 rfl info3 rfl) ?_
    refine s0 (rd_load' (i := 0) (o := 0) rfl ⟨rfl, rfl, rfl, rfl⟩ rfl flat3) ?_
    refine nk hK22 ?_
    refine cx_block' ?_
    refine cr fun K23 hK23 => ?_
    refine s0 (rd_bin' rfl rfl eg_int ru_eql) ?_
    refine s0 (rd_assign' rfl) ?_
    refine nk hK23 ?_
    refine cx_cond' rfl (fun h9 => ?_) (fun h9 => ?_)
    ·replace hp := (br_t h9).symm.trans hp
     refine cr fun K24 hK24 => ?_
     refine s0 (rd_field' (off := 4) rfl Tryz.underlying27 rfl info23 rfl) ?_
     refine s0 (rd_load' (i := 0) (o := 4) rfl ⟨rfl, rfl, rfl, rfl⟩ rfl flat23) ?_
     refine s0 (rd_len' rfl Tryz.underlying23) ?_
     refine s0 (rd_bin' rfl rfl eg_int ru_eql) ?_
     refine s0 (rd_move' rfl) ?_
     refine sx_cutn' 6 (fun (v6 : Bool) => (⟨165, [], [(100, (Vb v6))], []⟩ : St)) (fun (v6 : Bool) => spec_Good_j6 k v6 = some out) ?_ ?_
     ·rintro x6 hp
      replace hp : spec_Good_j6 k x6 = some out := hp
      unfold spec_Good_j6 at hp
      refine s0 (rd_assign' rfl) ?_
      refine nk hK24 ?_
      refine cx_retc' ?_
      replace hp := Option.some.inj hp
      subst hp
      refine tx_pick' (L' := [(2, (Vb x6))]) (H' := []) [] (sub_cons rfl sub_nil) (by decide) pick_nil ?_
      exact tx_ret1' Tryz.results23 rfl () (rv_tmp' rfl) (List.Sublist.refl _)
     intro K25 hK25
     rcases br_cases hp with ⟨h10, hp⟩ | ⟨h10, hp⟩
     ·refine sx_rd' (rd_field' (off := 3) rfl Tryz.underlying27 rfl info22 rfl) rfl rfl (wt_is' (wt_guard' rfl rfl rfl) (beq_tt h10)) ?_
      refine sx_rd' (rd_load' (i := 0) (o := 3) rfl ⟨rfl, rfl, rfl, rfl⟩ rfl flat22) rfl rfl (wt_is' (wt_guard' rfl rfl rfl) (beq_tt h10)) ?_
      refine sx_rd' (rd_len' rfl Tryz.underlying22) rfl rfl (wt_is' (wt_guard' rfl rfl rfl) (beq_tt h10)) ?_
      refine sx_rd' (rd_move' rfl) rfl rfl (wt_is' (wt_guard' rfl rfl rfl) (beq_tt h10)) ?_
      refine sx_rd' (rd_bin' rfl rfl eg_int ru_leq) rfl rfl (wt_is' (wt_guard' rfl rfl rfl) (beq_tt h10)) ?_
      refine s0 (rd_pick_true' rfl h10 rfl) ?_
      refine sx_nil' ?_
      show TX E K25 _
      exact tx_pick' [] (sub_cons rfl sub_nil) (by decide) pick_nil (hK25 (decide ((a0_3.length : Int) ≤ r15)) hp)
     refine sx_skip' rfl rfl (wt_is' (wt_guard' rfl rfl rfl) (beq_ft h10)) ?_
     refine sx_skip' rfl rfl (wt_is' (wt_guard' rfl rfl rfl) (beq_ft h10)) ?_
     refine sx_skip' rfl rfl (wt_is' (wt_guard' rfl rfl rfl) (beq_ft h10)) ?_
     refine sx_skip' rfl rfl (wt_is' (wt_guard' rfl rfl rfl) (beq_ft h10)) ?_
     refine sx_skip' rfl rfl (wt_is' (wt_guard' rfl rfl rfl) (beq_ft h10)) ?_
     refine s0 (rd_pick_false' rfl h10 rfl) ?_
     refine sx_nil' ?_
     show TX E K25 _
     exact tx_pick' [] (sub_cons rfl sub_nil) (by decide) pick_nil (hK25 false hp)
    replace hp := (br_f h9).symm.trans hp
    refine cx_join' (fun (v7 : Bool) => (⟨165, [], [(1, (Vp q1)), (3, (Vi r15)), (87, (Vi a0_0)), (101, (Vb v7))], [⟨.pointer (some q1), [(Vi a0_0), (Vi a0_1), (Vi a0_2), (Sl Kf a0_3), (Sl (Ki .i64) a0_4), (Sl (Kl (Ki .i64)) a0_5), (Sl KT27 a0_6)], 27, none⟩]⟩ : St)) (fun (v7 : Bool) => spec_Good_j7 k a0_4 a0_0 r15 a0_3 a0_5 v7 = some out) ?_ ?_
    ·rintro x7 hp
     replace hp : spec_Good_j7 k a0_4 a0_0 r15 a0_3 a0_5 x7 = some out := hp
     unfold spec_Good_j7 at hp
     refine cx_cond' rfl (fun h12 => ?_) (fun h12 => ?_)
     ·replace hp := (br_t h12).symm.trans hp
      refine cr fun K28 hK28 => ?_
      refine s0 (rd_field' (off := 4) rfl Tryz.underlying27 rfl info23 rfl) ?_
      refine s0 (rd_load' (i := 0) (o := 4) rfl ⟨rfl, rfl, rfl, rfl⟩ rfl flat23) ?_
      refine s0 (rd_len' rfl Tryz.underlying23) ?_
      refine s0 (rd_bin' rfl rfl eg_int ru_eql) ?_
      refine s0 (rd_assign' rfl) ?_
      refine nk hK28 ?_
      refine cx_retc' ?_
      replace hp := Option.some.inj hp
      subst hp
      refine tx_pick' (L' := [(2, (Vb (decide ((a0_4.length : Int) = 0))))]) (H' := []) [] (sub_cons rfl sub_nil) (by decide) pick_nil ?_
      exact tx_ret1' Tryz.results23 rfl () (rv_tmp' rfl) (List.Sublist.refl _)
     replace hp := (br_f h12).symm.trans hp
     refine cx_join' (fun (v8 : Bool) => (⟨165, [], [(1, (Vp q1)), (3, (Vi r15)), (87, (Vi a0_0)), (108, (Vb v8))], [⟨.pointer (some q1), [(Vi a0_0), (Vi a0_1), (Vi a0_2), (Sl Kf a0_3), (Sl (Ki .i64) a0_4), (Sl (Kl (Ki .i64)) a0_5), (Sl KT27 a0_6)], 27, none⟩]⟩ : St)) (fun (v8 : Bool) => spec_Good_j8 k a0_4 r15 a0_0 a0_3 a0_5 v8 = some out) ?_ ?_
     ·rintro x8 hp
      replace hp : spec_Good_j8 k a0_4 r15 a0_0 a0_3 a0_5 x8 = some out := hp
      unfold spec_Good_j8 at hp
      refine cx_cond' rfl (fun h15 => ?_) (fun h15 => ?_)
      ·replace hp := (br_t h15).symm.trans hp
       refine cr fun K32 hK32 => ?_
       refine s0 (rd_field' (off := 4) rfl Tryz.underlying27 rfl info23 rfl) ?_
       refine s0 (rd_load' (i := 0) (o := 4) rfl ⟨rfl, rfl, rfl, rfl⟩ rfl flat23) ?_
       refine s0 (rd_move' rfl) ?_
       refine s0 (rd_field0' rfl Tryz.underlying27 rfl info3 rfl) ?_
       refine s0 (rd_load' (i := 0) (o := 0) rfl ⟨rfl, rfl, rfl, rfl⟩ rfl flat3) ?_
       refine s0 (rd_bin' rfl rfl eg_int ru_eql) ?_
       obtain ⟨r119, hr119, hp⟩ := bind_some hp
       refine sx_ox' (ox_calln' (ent_fn' Tryz.func60 isn60 rfl rfl) (spec_goodEnds_sim _ _ _ _ hr119 : Sx.Fn Tryz.prog 60 [(Sl (Ki .i64) a0_4), (Vi 0), (Vi r15), (Vb (decide (a0_0 = 4)))] [] (fun x : Unit => (Tu [(Vi r119.1), (Vb r119.2)])) (fun x => [])) (Hn := fun x : Unit => [⟨.pointer (some q1), [(Vi a0_0), (Vi a0_1), (Vi a0_2), (Sl Kf a0_3), (Sl (Ki .i64) a0_4), (Sl (Kl (Ki .i64)) a0_5), (Sl KT27 a0_6)], 27, none⟩]) (fun _ => rfl) rfl rfl) (wt_none' rfl) fun ⟨⟩ => ?_
       refine s0 (rd_move' rfl) ?_
       refine s0 (rd_extract' rfl rfl) ?_
       refine s0 (rd_extract' rfl rfl) ?_
       refine s0 (rd_assign' rfl) ?_
       refine s0 (rd_assign' rfl) ?_
       refine nk hK32 ?_
       refine cr fun K33 hK33 => ?_
       refine s0 (rd_move' rfl) ?_
       refine s0 (rd_move' rfl) ?_
       refine sx_cutn' 6 (fun (v9 : Bool) => (⟨165, [], [(129, (Vb v9))], []⟩ : St)) (fun (v9 : Bool) => spec_Good_j9 k v9 = some out) ?_ ?_
       ·rintro x9 hp
        replace hp : spec_Good_j9 k x9 = some out := hp
        unfold spec_Good_j9 at hp
        refine s0 (rd_assign' rfl) ?_
        refine nk hK33 ?_
        refine cx_retc' ?_
        replace hp := Option.some.inj hp
        subst hp
        refine tx_pick' (L' := [(2, (Vb x9))]) (H' := []) [] (sub_cons rfl sub_nil) (by decide) pick_nil ?_
        exact tx_ret1' Tryz.results23 rfl () (rv_tmp' rfl) (List.Sublist.refl _)
       intro K34 hK34
       rcases br_cases hp with ⟨h16, hp⟩ | ⟨h16, hp⟩
       ·refine sx_rd' (rd_move' rfl) rfl rfl (wt_is' (wt_guard' rfl rfl rfl) (beq_tt h16)) ?_
        refine sx_rd' (rd_field' (off := 3) rfl Tryz.underlying27 rfl info22 rfl) rfl rfl (wt_is' (wt_guard' rfl rfl rfl) (beq_tt h16)) ?_
        refine sx_rd' (rd_load' (i := 0) (o := 3) rfl ⟨rfl, rfl, rfl, rfl⟩ rfl flat22) rfl rfl (wt_is' (wt_guard' rfl rfl rfl) (beq_tt h16)) ?_
        refine sx_rd' (rd_len' rfl Tryz.underlying22) rfl rfl (wt_is' (wt_guard' rfl rfl rfl) (beq_tt h16)) ?_
        refine sx_rd' (rd_bin' rfl rfl eg_int ru_eql) rfl rfl (wt_is' (wt_guard' rfl rfl rfl) (beq_tt h16)) ?_
        refine s0 (rd_pick_true' rfl h16 rfl) ?_
        refine sx_nil' ?_
        show TX E K34 _
        exact tx_pick' [] (sub_cons rfl sub_nil) (by decide) pick_nil (hK34 (decide (r119.1 = (a0_3.length : Int))) hp)
       refine sx_skip' rfl rfl (wt_is' (wt_guard' rfl rfl rfl) (beq_ft h16)) ?_
       refine sx_skip' rfl rfl (wt_is' (wt_guard' rfl rfl rfl) (beq_ft h16)) ?_
       refine sx_skip' rfl rfl (wt_is' (wt_guard' rfl rfl rfl) (beq_ft h16)) ?_
       refine sx_skip' rfl rfl (wt_is' (wt_guard' rfl rfl rfl) (beq_ft h16)) ?_
       refine sx_skip' rfl rfl (wt_is' (wt_guard' rfl rfl rfl) (beq_ft h16)) ?_
       refine s0 (rd_pick_false' rfl h16 rfl) ?_
       refine sx_nil' ?_
       show TX E K34 _
       exact tx_pick' [] (sub_cons rfl sub_nil) (by decide) pick_nil (hK34 false hp)
      replace hp := (br_f h15).symm.trans hp
      refine cr fun K35 hK35 => ?_
      refine s0 (rd_bin' rfl rfl eg_int ru_eql) ?_
      refine s0 (rd_assign' rfl) ?_
      refine nk hK35 ?_
      refine cx_cond' rfl (fun h17 => ?_) (fun h17 => ?_)
      ·replace hp := (br_t h17).symm.trans hp
       refine cr fun K36 hK36 => ?_
       refine s0 (rd_assign' rfl) ?_
       refine s0 (rd_assign' rfl) ?_
       refine nk hK36 ?_
       refine cx_seq' fun K37 hK37 => ?_
       refine cr fun K38 hK38 => ?_
       refine s0 (rd_field' (off := 5) rfl Tryz.underlying27 rfl info24 rfl) ?_
       refine s0 (rd_load' (i := 0) (o := 5) rfl ⟨rfl, rfl, rfl, rfl⟩ rfl flat24) ?_
       refine s0 (rd_len' rfl Tryz.underlying24) ?_
       refine s0 (rd_move' rfl) ?_
       refine nk hK38 ?_
       refine cx_block' ?_
       obtain ⟨v12, hy1, hp⟩ := bind_some hp
       refine cx_loopg' (F := spec_Good_l1 a0_5 r15) (G := fun k R v => spec_Good_l1s a0_5 r15 k R v.1 v.2.1 v.2.2) (x := (0, true, 0)) (gh := ()) (fun (v10 : Int × Bool × Int) (w10 : Unit) => (⟨165, [], [(1, (Vp q1)), (3, (Vi r15)), (8, (Vi v10.1)), (9, (Vb v10.2.1)), (133, (Sl (Kl (Ki .i64)) a0_5)), (134, (Vi (a0_5.length : Int))), (135, (Vi v10.2.2))], [⟨.pointer (some q1), [(Vi a0_0), (Vi a0_1), (Vi a0_2), (Sl Kf a0_3), (Sl (Ki .i64) a0_4), (Sl (Kl (Ki .i64)) a0_5), (Sl KT27 a0_6)], 27, none⟩]⟩ : St)) (fun (v12 : Int × Bool) => Zg E (Exit.exit 3) (fun (w12 : Unit) => (⟨165, [], [(1, (Vp q1)), (8, (Vi v12.1)), (9, (Vb v12.2))], [⟨.pointer (some q1), [(Vi a0_0), (Vi a0_1), (Vi a0_2), (Sl Kf a0_3), (Sl (Ki .i64) a0_4), (Sl (Kl (Ki .i64)) a0_5), (Sl KT27 a0_6)], 27, none⟩]⟩ : St))) (fun _ => rfl) (fun _ _ => rfl) ?_ hy1 (tx_to' rfl [0] (sub_cons rfl (sub_cons rfl (sub_cons rfl (sub_cons rfl (sub_cons rfl (sub_cons rfl (sub_cons rfl sub_nil))))))) (by decide) (pick_cons rfl pick_nil)) ?_
       ·clear hp hy1
        clear v12
        intro k rec1 KY1 ih1
        rintro ⟨x10, x11, x12⟩ ⟨⟩ y1 hp
        replace hp : spec_Good_l1s a0_5 r15 k rec1 x10 x11 x12 = some y1 := hp
        unfold spec_Good_l1s at hp
        refine cr fun K45 hK45 => ?_
        refine s0 (rd_bin' rfl rfl eg_int ru_lss) ?_
        refine nk hK45 ?_
        refine cx_seq' fun K46 hK46 => ?_
        refine cx_cond' rfl (fun h20 => ?_) (fun h20 => ?_)
        ·replace hp := (br_t h20).symm.trans hp
         refine cx_skip' ?_
         show TX E K46 _
         refine tx_k' hK46 ?_
         refine cx_seq' fun K47 hK47 => ?_
         refine cx_block' ?_
         refine cr fun K48 hK48 => ?_
         obtain ⟨r137, hr137, hp⟩ := bind_some hp
         refine s0 (rd_at' (K := (Kl (Ki .i64))) rfl rfl hr137 Tryz.underlying24 info23) ?_
         refine s0 (rd_load_pt' rfl rfl flat23) ?_
         refine s0 (rd_assign' rfl) ?_
         refine nk hK48 ?_
         refine cr fun K49 hK49 => ?_
         refine s0 (rd_assign' rfl) ?_
         refine nk hK49 ?_
         refine cr fun K50 hK50 => ?_
         refine s0 (rd_move' rfl) ?_
         refine s0 (rd_move' rfl) ?_
         refine s0 (rd_move' rfl) ?_
         obtain ⟨r143, hr143, hp⟩ := bind_some hp
         refine sx_ox' (ox_calln' (ent_fn' Tryz.func60 isn60 rfl rfl) (spec_goodEnds_sim _ _ _ _ hr143 : Sx.Fn Tryz.prog 60 [(Sl (Ki .i64) r137), (Vi x10), (Vi r15), (Vb false)] [] (fun x : Unit => (Tu [(Vi r143.1), (Vb r143.2)])) (fun x => [])) (Hn := fun x : Unit => [⟨.pointer (some q1), [(Vi a0_0), (Vi a0_1), (Vi a0_2), (Sl Kf a0_3), (Sl (Ki .i64) a0_4), (Sl (Kl (Ki .i64)) a0_5), (Sl KT27 a0_6)], 27, none⟩]) (fun _ => rfl) rfl rfl) (wt_none' rfl) fun ⟨⟩ => ?_
         refine s0 (rd_move' rfl) ?_
         refine s0 (rd_extract' rfl rfl) ?_
         refine s0 (rd_extract' rfl rfl) ?_
         refine s0 (rd_assign' rfl) ?_
         refine s0 (rd_assign' rfl) ?_
         refine nk hK50 ?_
         refine cx_region' ?_
         refine s0 (rd_move' rfl) ?_
         refine s0 (rd_move' rfl) ?_
         refine sx_cutn' 2 (fun (v11 : Bool) => (⟨165, [], [(1, (Vp q1)), (3, (Vi r15)), (8, (Vi r143.1)), (133, (Sl (Kl (Ki .i64)) a0_5)), (134, (Vi (a0_5.length : Int))), (135, (Vi x12)), (149, (Vb v11))], [⟨.pointer (some q1), [(Vi a0_0), (Vi a0_1), (Vi a0_2), (Sl Kf a0_3), (Sl (Ki .i64) a0_4), (Sl (Kl (Ki .i64)) a0_5), (Sl KT27 a0_6)], 27, none⟩]⟩ : St)) (fun (v11 : Bool) => spec_Good_j10 k rec1 r143 x12 v11 = some y1) ?_ ?_
         ·rintro x13 hp
          replace hp : spec_Good_j10 k rec1 r143 x12 x13 = some y1 := hp
          unfold spec_Good_j10 at hp
          refine s0 (rd_assign' rfl) ?_
          refine nk hK47 ?_
          refine cx_region' ?_
          refine s0 (rd_bin' rfl rfl eg_int ru_add) ?_
          refine s0 (rd_move' rfl) ?_
          refine sx_nil' ?_
          show TX E (KY1 _) _
          exact tx_pick' [0] (sub_cons rfl (sub_cons rfl (sub_cons rfl (sub_cons rfl (sub_cons rfl (sub_cons rfl (sub_cons rfl sub_nil))))))) (by decide) (pick_cons rfl pick_nil) (ih1 (r143.1, x13, (iadd .i64 x12 1)) () _ hp)
         intro K51 hK51
         rcases br_cases hp with ⟨h21, hp⟩ | ⟨h21, hp⟩
         ·refine sx_rd' (rd_move' rfl) rfl rfl (wt_is' (wt_guard' rfl rfl rfl) (beq_tt h21)) ?_
          refine s0 (rd_pick_true' rfl h21 rfl) ?_
          refine sx_nil' ?_
          show TX E K51 _
          exact tx_pick' [0] (sub_cons rfl (sub_cons rfl (sub_cons rfl (sub_cons rfl (sub_cons rfl (sub_cons rfl (sub_cons rfl sub_nil))))))) (by decide) (pick_cons rfl pick_nil) (hK51 r143.2 hp)
         refine sx_skip' rfl rfl (wt_is' (wt_guard' rfl rfl rfl) (beq_ft h21)) ?_
         refine s0 (rd_pick_false' rfl h21 rfl) ?_
         refine sx_nil' ?_
         show TX E K51 _
         exact tx_pick' [0] (sub_cons rfl (sub_cons rfl (sub_cons rfl (sub_cons rfl (sub_cons rfl (sub_cons rfl (sub_cons rfl sub_nil))))))) (by decide) (pick_cons rfl pick_nil) (hK51 false hp)
        replace hp := (br_f h20).symm.trans hp
        refine cx_exit' ?_
        replace hp := Option.some.inj hp
        subst hp
        show TX E (Zg E (Exit.exit 3) _ (Exit.exit 3)) _
        exact tx_zend' () rfl [0] (sub_cons rfl (sub_cons rfl (sub_cons rfl sub_nil))) (by decide) (pick_cons rfl pick_nil)
       refine zg_out fun w12 => ?_
       show TX E K37 _
       refine tx_k' hK37 ?_
       refine cr fun K52 hK52 => ?_
       refine s0 (rd_move' rfl) ?_
       refine s0 (rd_move' rfl) ?_
       refine sx_cutn' 6 (fun (v13 : Bool) => (⟨165, [], [(1, (Vp q1)), (158, (Vb v13))], [⟨.pointer (some q1), [(Vi a0_0), (Vi a0_1), (Vi a0_2), (Sl Kf a0_3), (Sl (Ki .i64) a0_4), (Sl (Kl (Ki .i64)) a0_5), (Sl KT27 a0_6)], 27, none⟩]⟩ : St)) (fun (v13 : Bool) => spec_Good_j11 k a0_4 v13 = some out) ?_ ?_
       ·rintro x16 hp
        replace hp : spec_Good_j11 k a0_4 x16 = some out := hp
        unfold spec_Good_j11 at hp
        refine s0 (rd_move' rfl) ?_
        refine sx_cutn' 5 (fun (v14 : Bool) => (⟨165, [], [(164, (Vb v14))], []⟩ : St)) (fun (v14 : Bool) => spec_Good_j12 k v14 = some out) ?_ ?_
        ·rintro x17 hp
         replace hp : spec_Good_j12 k x17 = some out := hp
         unfold spec_Good_j12 at hp
         refine s0 (rd_assign' rfl) ?_
         refine nk hK52 ?_
         refine cx_retc' ?_
         replace hp := Option.some.inj hp
         subst hp
         refine tx_pick' (L' := [(2, (Vb x17))]) (H' := []) [] (sub_cons rfl sub_nil) (by decide) pick_nil ?_
         exact tx_ret1' Tryz.results23 rfl () (rv_tmp' rfl) (List.Sublist.refl _)
        intro K54 hK54
        rcases br_cases hp with ⟨h23, hp⟩ | ⟨h23, hp⟩
        ·refine sx_rd' (rd_field' (off := 4) rfl Tryz.underlying27 rfl info23 rfl) rfl rfl (wt_is' (wt_guard' rfl rfl rfl) (beq_tt h23)) ?_
         refine sx_rd' (rd_load' (i := 0) (o := 4) rfl ⟨rfl, rfl, rfl, rfl⟩ rfl flat23) rfl rfl (wt_is' (wt_guard' rfl rfl rfl) (beq_tt h23)) ?_
         refine sx_rd' (rd_len' rfl Tryz.underlying23) rfl rfl (wt_is' (wt_guard' rfl rfl rfl) (beq_tt h23)) ?_
         refine sx_rd' (rd_bin' rfl rfl eg_int ru_eql) rfl rfl (wt_is' (wt_guard' rfl rfl rfl) (beq_tt h23)) ?_
         refine s0 (rd_pick_true' rfl h23 rfl) ?_
         refine sx_nil' ?_
         show TX E K54 _
         exact tx_pick' [] (sub_cons rfl sub_nil) (by decide) pick_nil (hK54 (decide ((a0_4.length : Int) = 0)) hp)
        refine sx_skip' rfl rfl (wt_is' (wt_guard' rfl rfl rfl) (beq_ft h23)) ?_
        refine sx_skip' rfl rfl (wt_is' (wt_guard' rfl rfl rfl) (beq_ft h23)) ?_
        refine sx_skip' rfl rfl (wt_is' (wt_guard' rfl rfl rfl) (beq_ft h23)) ?_
        refine sx_skip' rfl rfl (wt_is' (wt_guard' rfl rfl rfl) (beq_ft h23)) ?_
        refine s0 (rd_pick_false' rfl h23 rfl) ?_
        refine sx_nil' ?_
        show TX E K54 _
        exact tx_pick' [] (sub_cons rfl sub_nil) (by decide) pick_nil (hK54 false hp)
       intro K53 hK53
       rcases br_cases hp with ⟨h22, hp⟩ | ⟨h22, hp⟩
       ·refine sx_rd' (rd_move' rfl) rfl rfl (wt_is' (wt_guard' rfl rfl rfl) (beq_tt h22)) ?_
        refine sx_rd' (rd_field' (off := 3) rfl Tryz.underlying27 rfl info22 rfl) rfl rfl (wt_is' (wt_guard' rfl rfl rfl) (beq_tt h22)) ?_
        refine sx_rd' (rd_load' (i := 0) (o := 3) rfl ⟨rfl, rfl, rfl, rfl⟩ rfl flat22) rfl rfl (wt_is' (wt_guard' rfl rfl rfl) (beq_tt h22)) ?_
        refine sx_rd' (rd_len' rfl Tryz.underlying22) rfl rfl (wt_is' (wt_guard' rfl rfl rfl) (beq_tt h22)) ?_
        refine sx_rd' (rd_bin' rfl rfl eg_int ru_eql) rfl rfl (wt_is' (wt_guard' rfl rfl rfl) (beq_tt h22)) ?_
        refine s0 (rd_pick_true' rfl h22 rfl) ?_
        refine sx_nil' ?_
        show TX E K53 _
        exact tx_pick' [0] (sub_cons rfl (sub_cons rfl sub_nil)) (by decide) (pick_cons rfl pick_nil) (hK53 (decide (v12.1 = (a0_3.length : Int))) hp)
       refine sx_skip' rfl rfl (wt_is' (wt_guard' rfl rfl rfl) (beq_ft h22)) ?_
       refine sx_skip' rfl rfl (wt_is' (wt_guard' rfl rfl rfl) (beq_ft h22)) ?_
       refine sx_skip' rfl rfl (wt_is' (wt_guard' rfl rfl rfl) (beq_ft h22)) ?_
       refine sx_skip' rfl rfl (wt_is' (wt_guard' rfl rfl rfl) (beq_ft h22)) ?_
       refine sx_skip' rfl rfl (wt_is' (wt_guard' rfl rfl rfl) (beq_ft h22)) ?_
       refine s0 (rd_pick_false' rfl h22 rfl) ?_
       refine sx_nil' ?_
       show TX E K53 _
       exact tx_pick' [0] (sub_cons rfl (sub_cons rfl sub_nil)) (by decide) (pick_cons rfl pick_nil) (hK53 false hp)
      replace hp := (br_f h17).symm.trans hp
      refine cx_skip' ?_
      show TX E K21 _
      refine tx_k' hK21 ?_
      refine cr fun K55 hK55 => ?_
      refine s0 (rd_assign' rfl) ?_
      refine nk hK55 ?_
      refine cx_retc' ?_
      replace hp := Option.some.inj hp
      subst hp
      refine tx_pick' (L' := [(2, (Vb false))]) (H' := []) [] (sub_cons rfl sub_nil) (by decide) pick_nil ?_
      exact tx_ret1' Tryz.results23 rfl () (rv_tmp' rfl) (List.Sublist.refl _)
     intro K29 hK29
     refine cr fun K30 hK30 => ?_
     refine s0 (rd_bin' rfl rfl eg_int ru_eql) ?_
     refine s0 (rd_assign' rfl) ?_
     refine nk hK30 ?_
     refine cx_cond' rfl (fun h13 => ?_) (fun h13 => ?_)
     ·replace hp := (br_t h13).symm.trans hp
      refine cx_skip' ?_
      show TX E K29 _
      exact tx_pick' [0] (sub_cons rfl (sub_cons rfl (sub_cons rfl (sub_cons rfl sub_nil)))) (by decide) (pick_cons rfl pick_nil) (hK29 (decide (a0_0 = 3)) hp)
     replace hp := (br_f h13).symm.trans hp
     refine cr fun K31 hK31 => ?_
     refine s0 (rd_bin' rfl rfl eg_int ru_eql) ?_
     refine s0 (rd_assign' rfl) ?_
     refine nk hK31 ?_
     refine cx_cond' rfl (fun h14 => ?_) (fun h14 => ?_)
     ·replace hp := (br_t h14).symm.trans hp
      refine cx_skip' ?_
      show TX E K29 _
      exact tx_pick' [0] (sub_cons rfl (sub_cons rfl (sub_cons rfl (sub_cons rfl sub_nil)))) (by decide) (pick_cons rfl pick_nil) (hK29 (decide (a0_0 = 4)) hp)
     replace hp := (br_f h14).symm.trans hp
     refine cx_region' ?_
     refine s0 (rd_bin' rfl rfl eg_int ru_eql) ?_
     refine s0 (rd_assign' rfl) ?_
     refine sx_nil' ?_
     show TX E K29 _
     exact tx_pick' [0] (sub_cons rfl (sub_cons rfl (sub_cons rfl (sub_cons rfl sub_nil)))) (by decide) (pick_cons rfl pick_nil) (hK29 (decide (a0_0 = 5)) hp)
    intro K26 hK26
    refine cr fun K27 hK27 => ?_
    refine s0 (rd_bin' rfl rfl eg_int ru_eql) ?_
    refine s0 (rd_assign' rfl) ?_
    refine nk hK27 ?_
    refine cx_cond' rfl (fun h11 => ?_) (fun h11 => ?_)
    ·replace hp := (br_t h11).symm.trans hp
     refine cx_skip' ?_
     show TX E K26 _
     exact tx_pick' [0] (sub_cons rfl (sub_cons rfl (sub_cons rfl (sub_cons rfl sub_nil)))) (by decide) (pick_cons rfl pick_nil) (hK26 (decide (a0_0 = 2)) hp)
    replace hp := (br_f h11).symm.trans hp
    refine cx_region' ?_
    refine s0 (rd_bin' rfl rfl eg_int ru_eql) ?_
    refine s0 (rd_assign' rfl) ?_
    refine sx_nil' ?_
    show TX E K26 _
    exact tx_pick' [0] (sub_cons rfl (sub_cons rfl (sub_cons rfl (sub_cons rfl sub_nil)))) (by decide) (pick_cons rfl pick_nil) (hK26 (decide (a0_0 = 8)) hp)
   intro K19 hK19
   rcases br_cases hp with ⟨h6, hp⟩ | ⟨h6, hp⟩
   ·refine sx_skip' rfl rfl (wt_is' (wt_guard' rfl rfl rfl) (beq_tf h6)) ?_
    refine sx_skip' rfl rfl (wt_is' (wt_guard' rfl rfl rfl) (beq_tf h6)) ?_
    refine sx_skip' rfl rfl (wt_is' (wt_guard' rfl rfl rfl) (beq_tf h6)) ?_
    refine sx_skip' rfl rfl (wt_is' (wt_guard' rfl rfl rfl) (beq_tf h6)) ?_
    refine sx_skip' rfl rfl (wt_is' (wt_guard' rfl rfl rfl) (beq_tf h6)) ?_
    refine sx_skip' rfl rfl (wt_undef' rfl rfl rfl) ?_
    refine sx_skip' rfl rfl (wt_undef' rfl rfl rfl) ?_
    refine sx_skip' rfl rfl (wt_undef' rfl rfl rfl) ?_
    refine sx_skip' rfl rfl (wt_is' (wt_guard' rfl rfl rfl) (beq_tf h6)) ?_
    refine s0 (rd_pick_true' rfl h6 rfl) ?_
    refine sx_nil' ?_
    show TX E K19 _
    exact tx_pick' [0] (sub_cons rfl (sub_cons rfl (sub_cons rfl sub_nil))) (by decide) (pick_cons rfl pick_nil) (hK19 true hp)
   refine sx_rd' (rd_field' (off := 5) rfl Tryz.underlying27 rfl info24 rfl) rfl rfl (wt_is' (wt_guard' rfl rfl rfl) (beq_ff h6)) ?_
   refine sx_rd' (rd_load' (i := 0) (o := 5) rfl ⟨rfl, rfl, rfl, rfl⟩ rfl flat24) rfl rfl (wt_is' (wt_guard' rfl rfl rfl) (beq_ff h6)) ?_
   refine sx_rd' (rd_len' rfl Tryz.underlying24) rfl rfl (wt_is' (wt_guard' rfl rfl rfl) (beq_ff h6)) ?_
   refine sx_rd' (rd_bin' rfl rfl eg_int ru_gtr) rfl rfl (wt_is' (wt_guard' rfl rfl rfl) (beq_ff h6)) ?_
   refine sx_rd' (rd_move' rfl) rfl rfl (wt_is' (wt_guard' rfl rfl rfl) (beq_ff h6)) ?_
   refine sx_cutn' 5 (fun (v4 : Bool) => (⟨165, [], [(1, (Vp q1)), (3, (Vi r15)), (85, (Vb v4))], [⟨.pointer (some q1), [(Vi a0_0), (Vi a0_1), (Vi a0_2), (Sl Kf a0_3), (Sl (Ki .i64) a0_4), (Sl (Kl (Ki .i64)) a0_5), (Sl KT27 a0_6)], 27, none⟩]⟩ : St)) (fun (v4 : Bool) => spec_Good_j4 k a0_0 a0_4 a0_3 r15 a0_5 v4 = some out) ?_ ?_
   ·rintro x4 hp
    replace hp : spec_Good_j4 k a0_0 a0_4 a0_3 r15 a0_5 x4 = some out := hp
    unfold spec_Good_j4 at hp
    refine sx_nil' ?_
    show TX E K19 _
    exact tx_pick' [0] (sub_cons rfl (sub_cons rfl (sub_cons rfl sub_nil))) (by decide) (pick_cons rfl pick_nil) (hK19 x4 hp)
   intro K18 hK18
   rcases br_cases hp with ⟨h7, hp⟩ | ⟨h7, hp⟩
   ·refine sx_rd' (rd_field0' rfl Tryz.underlying27 rfl info3 rfl) rfl rfl (wt_is' (wt_guard' rfl rfl rfl) (beq_tt h7)) ?_
    refine sx_rd' (rd_load' (i := 0) (o := 0) rfl ⟨rfl, rfl, rfl, rfl⟩ rfl flat3) rfl rfl (wt_is' (wt_guard' rfl rfl rfl) (beq_tt h7)) ?_
    refine sx_rd' (rd_bin' rfl rfl eg_int ru_neq) rfl rfl (wt_is' (wt_guard' rfl rfl rfl) (beq_tt h7)) ?_
    refine sx_rd' (rd_pick_true' rfl h7 rfl) rfl rfl (wt_is' (wt_guard' rfl rfl rfl) (beq_ff h6)) ?_
    refine s0 (rd_pick_false' rfl h6 rfl) ?_
    refine sx_nil' ?_
    show TX E K18 _
    exact tx_pick' [0] (sub_cons rfl (sub_cons rfl (sub_cons rfl sub_nil))) (by decide) (pick_cons rfl pick_nil) (hK18 (!decide (a0_0 = 6)) hp)
   refine sx_skip' rfl rfl (wt_is' (wt_guard' rfl rfl rfl) (beq_ft h7)) ?_
   refine sx_skip' rfl rfl (wt_is' (wt_guard' rfl rfl rfl) (beq_ft h7)) ?_
   refine sx_skip' rfl rfl (wt_is' (wt_guard' rfl rfl rfl) (beq_ft h7)) ?_
   refine sx_rd' (rd_pick_false' rfl h7 rfl) rfl rfl (wt_is' (wt_guard' rfl rfl rfl) (beq_ff h6)) ?_
   refine s0 (rd_pick_false' rfl h6 rfl) ?_
   refine sx_nil' ?_
   show TX E K18 _
   exact tx_pick' [0] (sub_cons rfl (sub_cons rfl (sub_cons rfl sub_nil))) (by decide) (pick_cons rfl pick_nil) (hK18 false hp)
  intro K17 hK17
  rcases br_cases hp with ⟨h5, hp⟩ | ⟨h5, hp⟩
  ·refine sx_skip' rfl rfl (wt_is' (wt_guard' rfl rfl rfl) (beq_tf h5)) ?_
   refine sx_skip' rfl rfl (wt_is' (wt_guard' rfl rfl rfl) (beq_tf h5)) ?_
   refine sx_skip' rfl rfl (wt_is' (wt_guard' rfl rfl rfl) (beq_tf h5)) ?_
   refine sx_skip' rfl rfl (wt_is' (wt_guard' rfl rfl rfl) (beq_tf h5)) ?_
   refine s0 (rd_pick_true' rfl h5 rfl) ?_
   refine sx_nil' ?_
   show TX E K17 _
   exact tx_pick' [0] (sub_cons rfl (sub_cons rfl (sub_cons rfl sub_nil))) (by decide) (pick_cons rfl pick_nil) (hK17 true hp)
  refine sx_rd' (rd_field' (off := 6) rfl Tryz.underlying27 rfl info25 rfl) rfl rfl (wt_is' (wt_guard' rfl rfl rfl) (beq_ff h5)) ?_
  refine sx_rd' (rd_load' (i := 0) (o := 6) rfl ⟨rfl, rfl, rfl, rfl⟩ rfl flat25) rfl rfl (wt_is' (wt_guard' rfl rfl rfl) (beq_ff h5)) ?_
  refine sx_rd' (rd_len' rfl Tryz.underlying25) rfl rfl (wt_is' (wt_guard' rfl rfl rfl) (beq_ff h5)) ?_
  refine sx_rd' (rd_bin' rfl rfl eg_int ru_gtr) rfl rfl (wt_is' (wt_guard' rfl rfl rfl) (beq_ff h5)) ?_
  refine s0 (rd_pick_false' rfl h5 rfl) ?_
  refine sx_nil' ?_
  show TX E K17 _
  exact tx_pick' [0] (sub_cons rfl (sub_cons rfl (sub_cons rfl sub_nil))) (by decide) (pick_cons rfl pick_nil) (hK17 (decide (0 < (a0_6.length : Int))) hp)
 intro K16 hK16
 rcases br_cases hp with ⟨h4, hp⟩ | ⟨h4, hp⟩
 ·refine sx_skip' rfl rfl (wt_is' (wt_guard' rfl rfl rfl) (beq_tf h4)) ?_
  refine sx_skip' rfl rfl (wt_is' (wt_guard' rfl rfl rfl) (beq_tf h4)) ?_
  refine sx_skip' rfl rfl (wt_is' (wt_guard' rfl rfl rfl) (beq_tf h4)) ?_
  refine sx_skip' rfl rfl (wt_is' (wt_guard' rfl rfl rfl) (beq_tf h4)) ?_
  refine sx_skip' rfl rfl (wt_is' (wt_guard' rfl rfl rfl) (beq_tf h4)) ?_
  refine sx_skip' rfl rfl (wt_is' (wt_guard' rfl rfl rfl) (beq_tf h4)) ?_
  refine s0 (rd_pick_true' rfl h4 rfl) ?_
  refine sx_nil' ?_
  show TX E K16 _
  exact tx_pick' [0] (sub_cons rfl (sub_cons rfl (sub_cons rfl sub_nil))) (by decide) (pick_cons rfl pick_nil) (hK16 true hp)
 refine sx_rd' (rd_field' (off := 3) rfl Tryz.underlying27 rfl info22 rfl) rfl rfl (wt_is' (wt_guard' rfl rfl rfl) (beq_ff h4)) ?_
 refine sx_rd' (rd_load' (i := 0) (o := 3) rfl ⟨rfl, rfl, rfl, rfl⟩ rfl flat22) rfl rfl (wt_is' (wt_guard' rfl rfl rfl) (beq_ff h4)) ?_
 refine sx_rd' (rd_len' rfl Tryz.underlying22) rfl rfl (wt_is' (wt_guard' rfl rfl rfl) (beq_ff h4)) ?_
 refine sx_rd' (rd_move' rfl) rfl rfl (wt_is' (wt_guard' rfl rfl rfl) (beq_ff h4)) ?_
 obtain ⟨r66, hr66, hp⟩ := bind_some hp
 refine sx_rd' (rd_bin' rfl rfl eg_int (ru_rem hr66)) rfl rfl (wt_is' (wt_guard' rfl rfl rfl) (beq_ff h4)) ?_
 refine sx_rd' (rd_bin' rfl rfl eg_int ru_neq) rfl rfl (wt_is' (wt_guard' rfl rfl rfl) (beq_ff h4)) ?_
 refine s0 (rd_pick_false' rfl h4 rfl) ?_
 refine sx_nil' ?_
 show TX E K16 _
 exact tx_pick' [0] (sub_cons rfl (sub_cons rfl (sub_cons rfl sub_nil))) (by decide) (pick_cons rfl pick_nil) (hK16 (!decide (r66 = 0)) hp)
theorem spec_Good_simA : ∀ (k : Nat)  (a0_0 : Int) (a0_1 : Int) (a0_2 : Int) (a0_3 : List Nat) (a0_4 : List Int) (a0_5 : List (List Int)) (a0_6 : List T27) (out : Bool), spec_Good k a0_0 a0_1 a0_2 a0_3 a0_4 a0_5 a0_6 = some out → Sx.Fn Tryz.prog 23 [(Ag [(Vi a0_0), (Vi a0_1), (Vi a0_2), (Sl Kf a0_3), (Sl (Ki .i64) a0_4), (Sl (Kl (Ki .i64)) a0_5), (Sl KT27 a0_6)])] [] (fun w : Unit => (Vb out)) (fun w => []) := by
 intro k
 induction k with
 | zero => intro a0_0 a0_1 a0_2 a0_3 a0_4 a0_5 a0_6 out hp; cases hp
 | succ k ih => intro a0_0 a0_1 a0_2 a0_3 a0_4 a0_5 a0_6 out hp; exact spec_Good_b_sim ih a0_0 a0_1 a0_2 a0_3 a0_4 a0_5 a0_6 hp
theorem spec_Good_sim {k : Nat}  (a0_0 : Int) (a0_1 : Int) (a0_2 : Int) (a0_3 : List Nat) (a0_4 : List Int) (a0_5 : List (List Int)) (a0_6 : List T27) {out : Bool} (hp : spec_Good k a0_0 a0_1 a0_2 a0_3 a0_4 a0_5 a0_6 = some out) : Sx.Fn Tryz.prog 23 [(Ag [(Vi a0_0), (Vi a0_1), (Vi a0_2), (Sl Kf a0_3), (Sl (Ki .i64) a0_4), (Sl (Kl (Ki .i64)) a0_5), (Sl KT27 a0_6)])] [] (fun w : Unit => (Vb out)) (fun w => []) := spec_Good_simA k a0_0 a0_1 a0_2 a0_3 a0_4 a0_5 a0_6 out hp

def laws_gGood_l1s (a0 : List T27) (k : Nat) (rec1 : Int → Option (Unit ⊕ Unit)) (x1 : Int) : Option (Unit ⊕ Unit) :=
 br (decide (x1 < (a0.length : Int)))
  ((idx a0 x1) >>= fun r12 =>
  (spec_Good k r12.f0 r12.f1 r12.f2 r12.f3 r12.f4 r12.f5 r12.f6) >>= fun r15 =>
  br (!r15)
   (some (.inl ()))
   (rec1 (iadd .i64 x1 1)))
  (some (.inr ()))
def laws_gGood_l1 (a0 : List T27) : Nat → Int → Option (Unit ⊕ Unit)
 | 0, _ => none
 | k + 1, v => laws_gGood_l1s a0 k (laws_gGood_l1 a0 k) v
def laws_gGood (k : Nat) (a0 : List T27) : Option (Bool) :=
 (laws_gSmall k a0) >>= fun r6 =>
 br (!r6)
  (some false)
  ((laws_gGood_l1 a0 k 0) >>= fun y1 => match y1 with
   | (.inl v2) =>
    (some false)
   | (.inr v3) =>
    (some true))

theorem laws_gGood_sim {k : Nat}  (a0 : List T27) {out : Bool} (hp : laws_gGood k a0 = some out) : Sx.Fn Tryz.prog 9 [(Sl KT27 a0)] [] (fun w : Unit => (Vb out)) (fun w => []) := by
 unfold laws_gGood at hp
 refine fn_of Tryz.func9 rfl Tryz.ntmps9 rfl fun E hM => ?_
 refine cr fun K1 hK1 => ?_
 refine s0 (rd_assign' rfl) ?_
 refine nk hK1 ?_
 refine cx_seq' fun K2 hK2 => ?_
 refine cr fun K3 hK3 => ?_
 refine s0 (rd_move' rfl) ?_
 obtain ⟨r6, hr6, hp⟩ := bind_some hp
 refine sx_ox' (ox_calln' (ent_fn' Tryz.func22 isn22 rfl rfl) (laws_gSmall_sim _ hr6 : Sx.Fn Tryz.prog 22 [(Sl KT27 a0)] [] (fun x : Unit => (Vb r6)) (fun x => [])) (Hn := fun x : Unit => []) (fun _ => rfl) rfl rfl) (wt_none' rfl) fun ⟨⟩ => ?_
 refine s0 (rd_un' rfl ru_not) ?_
 refine nk hK3 ?_
 refine cx_cond' rfl (fun h1 => ?_) (fun h1 => ?_)
 ·replace hp := (br_t h1).symm.trans hp
  refine cr fun K4 hK4 => ?_
  refine s0 (rd_assign' rfl) ?_
  refine nk hK4 ?_
  refine cx_retc' ?_
  replace hp := Option.some.inj hp
  subst hp
  refine tx_pick' (L' := [(2, (Vb false))]) (H' := []) [] (sub_cons rfl sub_nil) (by decide) pick_nil ?_
  exact tx_ret1' Tryz.results9 rfl () (rv_tmp' rfl) (List.Sublist.refl _)
 replace hp := (br_f h1).symm.trans hp
 refine cx_skip' ?_
 show TX E K2 _
 refine tx_k' hK2 ?_
 refine cx_seq' fun K5 hK5 => ?_
 refine cr fun K6 hK6 => ?_
 refine s0 (rd_move' rfl) ?_
 refine s0 (rd_len' rfl Tryz.underlying25) ?_
 refine s0 (rd_move' rfl) ?_
 refine nk hK6 ?_
 refine cx_block' ?_
 obtain ⟨y1, hy1, hp⟩ := bind_some hp
 refine cx_loopg' (F := laws_gGood_l1 a0) (G := fun k R v => laws_gGood_l1s a0 k R v) (x := 0) (gh := ()) (fun (v1 : Int) (w1 : Unit) => (⟨18, [], [(8, (Sl KT27 a0)), (9, (Vi (a0.length : Int))), (10, (Vi v1))], []⟩ : St)) (fun (y : Unit ⊕ Unit) => match y with | (.inl v2) => Zg E Exit.ret (fun (w2 : Unit) => (⟨18, [], [(2, (Vb false))], []⟩ : St)) | (.inr v3) => Zg E (Exit.exit 0) (fun (w3 : Unit) => (⟨18, [], [], []⟩ : St))) (fun _ => rfl) (fun _ _ => rfl) ?_ hy1 (tx_to' rfl [] (sub_cons rfl (sub_cons rfl (sub_cons rfl sub_nil))) (by decide) pick_nil) ?_
 ·clear hp hy1
  clear y1
  intro k rec1 KY1 ih1
  rintro x1 ⟨⟩ y1 hp
  replace hp : laws_gGood_l1s a0 k rec1 x1 = some y1 := hp
  unfold laws_gGood_l1s at hp
  refine cr fun K13 hK13 => ?_
  refine s0 (rd_bin' rfl rfl eg_int ru_lss) ?_
  refine nk hK13 ?_
  refine cx_seq' fun K14 hK14 => ?_
  refine cx_cond' rfl (fun h5 => ?_) (fun h5 => ?_)
  ·replace hp := (br_t h5).symm.trans hp
   refine cx_skip' ?_
   show TX E K14 _
   refine tx_k' hK14 ?_
   refine cx_seq' fun K15 hK15 => ?_
   refine cx_block' ?_
   refine cr fun K16 hK16 => ?_
   obtain ⟨r12, hr12, hp⟩ := bind_some hp
   refine s0 (rd_eq' (congrArg Pt (KT27_enc r12)) (rd_at' (K := KT27) rfl rfl hr12 Tryz.underlying25 info27)) ?_
   refine s0 (rd_load_pt_agg' (nn := 7) rfl rfl agg27 (l' := [(Vi r12.f0), (Vi r12.f1), (Vi r12.f2), (Sl Kf r12.f3), (Sl (Ki .i64) r12.f4), (Sl (Kl (Ki .i64)) r12.f5), (Sl KT27 r12.f6)]) rfl) ?_
   refine sx_ox' (ox_alloc' info27 rfl rfl rfl rfl (l := [(Vi 0), (Vi 0), (Vi 0), Vn, Vn, Vn, Vn]) rfl) (wt_none' rfl) fun q4 => ?_
   refine sx_ox' (ox_store' (i := 0) (o := 0) rfl rfl (lv_ag _) ⟨rfl, rfl, rfl, rfl⟩ rfl info27 rfl (H' := [⟨.pointer (some q4), [(Vi r12.f0), (Vi r12.f1), (Vi r12.f2), (Sl Kf r12.f3), (Sl (Ki .i64) r12.f4), (Sl (Kl (Ki .i64)) r12.f5), (Sl KT27 r12.f6)], 27, none⟩]) rfl) (wt_none' rfl) fun _ => ?_
   refine nk hK16 ?_
   refine cr fun K17 hK17 => ?_
   refine s0 (rd_load_agg' (i := 0) (o := 0) (nn := 7) rfl ⟨rfl, rfl, rfl, rfl⟩ rfl agg27 (l' := [(Vi r12.f0), (Vi r12.f1), (Vi r12.f2), (Sl Kf r12.f3), (Sl (Ki .i64) r12.f4), (Sl (Kl (Ki .i64)) r12.f5), (Sl KT27 r12.f6)]) rfl) ?_
   obtain ⟨r15, hr15, hp⟩ := bind_some hp
   refine sx_ox' (ox_calln' (ent_fn' Tryz.func23 isn23 rfl rfl) (spec_Good_sim _ _ _ _ _ _ _ hr15 : Sx.Fn Tryz.prog 23 [(Ag [(Vi r12.f0), (Vi r12.f1), (Vi r12.f2), (Sl Kf r12.f3), (Sl (Ki .i64) r12.f4), (Sl (Kl (Ki .i64)) r12.f5), (Sl KT27 r12.f6)])] [] (fun x : Unit => (Vb r15)) (fun x => [])) (Hn := fun x : Unit => [⟨.pointer (some q4), [(Vi r12.f0), (Vi r12.f1), (Vi r12.f2), (Sl Kf r12.f3), (Sl (Ki .i64) r12.f4), (Sl (Kl (Ki .i64)) r12.f5), (Sl KT27 r12.f6)], 27, none⟩]) (fun _ => rfl) rfl rfl) (wt_none' rfl) fun ⟨⟩ => ?_
   refine s0 (rd_un' rfl ru_not) ?_
   refine nk hK17 ?_
   refine cx_cond' rfl (fun h6 => ?_) (fun h6 => ?_)
   ·replace hp := (br_t h6).symm.trans hp
    refine cr fun K18 hK18 => ?_
    refine s0 (rd_assign' rfl) ?_
    refine nk hK18 ?_
    refine cx_retc' ?_
    replace hp := Option.some.inj hp
    subst hp
    show TX E (Zg E Exit.ret _ Exit.ret) _
    exact tx_zend' () rfl [] (sub_cons rfl sub_nil) (by decide) pick_nil
   replace hp := (br_f h6).symm.trans hp
   refine cx_skip' ?_
   show TX E K15 _
   refine tx_k' hK15 ?_
   refine cx_region' ?_
   refine s0 (rd_bin' rfl rfl eg_int ru_add) ?_
   refine s0 (rd_move' rfl) ?_
   refine sx_nil' ?_
   show TX E (KY1 _) _
   exact tx_pick' [] (sub_cons rfl (sub_cons rfl (sub_cons rfl sub_nil))) (by decide) pick_nil (ih1 (iadd .i64 x1 1) () _ hp)
  replace hp := (br_f h5).symm.trans hp
  refine cx_exit' ?_
  replace hp := Option.some.inj hp
  subst hp
  show TX E (Zg E (Exit.exit 0) _ (Exit.exit 0)) _
  exact tx_zend' () rfl [] sub_nil (by decide) pick_nil
 rcases y1 with v2 | v3
 ·dsimp only at hp
  refine zg_out fun w2 => ?_
  replace hp := Option.some.inj hp
  subst hp
  refine tx_pick' (L' := [(2, (Vb false))]) (H' := []) [] (sub_cons rfl sub_nil) (by decide) pick_nil ?_
  exact tx_ret1' Tryz.results9 rfl () (rv_tmp' rfl) (List.Sublist.refl _)
 dsimp only at hp
 refine zg_out fun w3 => ?_
 show TX E K5 _
 refine tx_k' hK5 ?_
 refine cr fun K19 hK19 => ?_
 refine s0 (rd_assign' rfl) ?_
 refine nk hK19 ?_
 refine cx_retc' ?_
 replace hp := Option.some.inj hp
 subst hp
 refine tx_pick' (L' := [(2, (Vb true))]) (H' := []) [] (sub_cons rfl sub_nil) (by decide) pick_nil ?_
 exact tx_ret1' Tryz.results9 rfl () (rv_tmp' rfl) (List.Sublist.refl _)

def laws_gPlain_j1 (k : Nat) (x1 : Bool) : Option (Bool) :=
 some x1
def laws_gPlain (k : Nat) (a0_0 : Int) (a0_1 : Int) (a0_2 : Int) (a0_3 : List Nat) (a0_4 : List Int) (a0_5 : List (List Int)) (a0_6 : List T27) : Option (Bool) :=
 (laws_gGood k ([(T27.mk a0_0 a0_1 a0_2 a0_3 a0_4 a0_5 a0_6)])) >>= fun r5 =>
 br r5
  (laws_gPlain_j1 k (!decide (a0_0 = 7)))
  (laws_gPlain_j1 k false)

theorem laws_gPlain_sim {k : Nat}  (a0_0 : Int) (a0_1 : Int) (a0_2 : Int) (a0_3 : List Nat) (a0_4 : List Int) (a0_5 : List (List Int)) (a0_6 : List T27) {out : Bool} (hp : laws_gPlain k a0_0 a0_1 a0_2 a0_3 a0_4 a0_5 a0_6 = some out) : Sx.Fn Tryz.prog 5 [(Ag [(Vi a0_0), (Vi a0_1), (Vi a0_2), (Sl Kf a0_3), (Sl (Ki .i64) a0_4), (Sl (Kl (Ki .i64)) a0_5), (Sl KT27 a0_6)])] [] (fun w : Unit => (Vb out)) (fun w => []) := by
 unfold laws_gPlain at hp
 refine fn_of Tryz.func5 rfl Tryz.ntmps5 rfl fun E hM => ?_
 refine cr fun K1 hK1 => ?_
 refine sx_ox' (ox_box' rfl (lv_ag _) rfl rfl) (wt_none' rfl) fun q1 => ?_
 refine s0 (rd_assign' rfl) ?_
 refine nk hK1 ?_
 refine cr fun K2 hK2 => ?_
 refine s0 (rd_load_agg' (i := 0) (o := 0) (nn := 7) rfl ⟨rfl, rfl, rfl, rfl⟩ rfl agg27 (l' := [(Vi a0_0), (Vi a0_1), (Vi a0_2), (Sl Kf a0_3), (Sl (Ki .i64) a0_4), (Sl (Kl (Ki .i64)) a0_5), (Sl KT27 a0_6)]) rfl) ?_
 refine sx_ox' (ox_rowlit' (K := KT27) (xs := [(T27.mk a0_0 a0_1 a0_2 a0_3 a0_4 a0_5 a0_6)]) (qs := [(0, [(Vi a0_0), (Vi a0_1), (Vi a0_2), (Sl Kf a0_3), (Sl (Ki .i64) a0_4), (Sl (Kl (Ki .i64)) a0_5), (Sl KT27 a0_6)])]) ⟨rfl, ⟨_, rfl, (lv_ag _)⟩, trivial⟩ Tryz.underlying25 info27 rfl rfl rfl rfl rfl (by simp only [List.flatMap_cons, List.flatMap_nil, KT27_enc, List.append_nil]; kernel_rfl) rfl rfl rfl) (wt_none' rfl) fun g4 => ?_
 obtain ⟨r5, hr5, hp⟩ := bind_some hp
 refine sx_ox' (ox_brw' (frz_row 0 [(4, (Vl (Vs g4)), (Sl KT27 ([(T27.mk a0_0 a0_1 a0_2 a0_3 a0_4 a0_5 a0_6)])))] (K := KT27) (xs := [(T27.mk a0_0 a0_1 a0_2 a0_3 a0_4 a0_5 a0_6)]) (by decide) rfl ⟨⟨rfl, frz_it⟩, trivial⟩ (H' := [⟨.pointer (some q1), [(Vi a0_0), (Vi a0_1), (Vi a0_2), (Sl Kf a0_3), (Sl (Ki .i64) a0_4), (Sl (Kl (Ki .i64)) a0_5), (Sl KT27 a0_6)], 27, none⟩]) frzH_refl) (ent_fn' Tryz.func9 isn9 rfl rfl) (laws_gGood_sim _ hr5 : Sx.Fn Tryz.prog 9 [(Sl KT27 ([(T27.mk a0_0 a0_1 a0_2 a0_3 a0_4 a0_5 a0_6)]))] [] (fun x : Unit => (Vb r5)) (fun x => [])) pu_vl rfl rfl) (wt_none' rfl) fun ⟨⟩ => ?_
 refine s0 (rd_move' rfl) ?_
 refine sx_cutn' 4 (fun (v1 : Bool) => (⟨11, [], [(10, (Vb v1))], []⟩ : St)) (fun (v1 : Bool) => laws_gPlain_j1 k v1 = some out) ?_ ?_
 ·rintro x1 hp
  replace hp : laws_gPlain_j1 k x1 = some out := hp
  unfold laws_gPlain_j1 at hp
  refine s0 (rd_assign' rfl) ?_
  refine nk hK2 ?_
  refine cx_retc' ?_
  replace hp := Option.some.inj hp
  subst hp
  refine tx_pick' (L' := [(2, (Vb x1))]) (H' := []) [] (sub_cons rfl sub_nil) (by decide) pick_nil ?_
  exact tx_ret1' Tryz.results5 rfl () (rv_tmp' rfl) (List.Sublist.refl _)
 intro K3 hK3
 rcases br_cases hp with ⟨h1, hp⟩ | ⟨h1, hp⟩
 ·refine sx_rd' (rd_field0' rfl Tryz.underlying27 rfl info3 rfl) rfl rfl (wt_is' (wt_guard' rfl rfl rfl) (beq_tt h1)) ?_
  refine sx_rd' (rd_load' (i := 1) (o := 0) rfl ⟨rfl, rfl, rfl, rfl⟩ rfl flat3) rfl rfl (wt_is' (wt_guard' rfl rfl rfl) (beq_tt h1)) ?_
  refine sx_rd' (rd_bin' rfl rfl eg_int ru_neq) rfl rfl (wt_is' (wt_guard' rfl rfl rfl) (beq_tt h1)) ?_
  refine s0 (rd_pick_true' rfl h1 rfl) ?_
  refine sx_nil' ?_
  show TX E K3 _
  exact tx_pick' [] (sub_cons rfl sub_nil) (by decide) pick_nil (hK3 (!decide (a0_0 = 7)) hp)
 refine sx_skip' rfl rfl (wt_is' (wt_guard' rfl rfl rfl) (beq_ft h1)) ?_
 refine sx_skip' rfl rfl (wt_is' (wt_guard' rfl rfl rfl) (beq_ft h1)) ?_
 refine sx_skip' rfl rfl (wt_is' (wt_guard' rfl rfl rfl) (beq_ft h1)) ?_
 refine s0 (rd_pick_false' rfl h1 rfl) ?_
 refine sx_nil' ?_
 show TX E K3 _
 exact tx_pick' [] (sub_cons rfl sub_nil) (by decide) pick_nil (hK3 false hp)

def impl_floats (k : Nat) (a0 : List Nat) : Option ((List Nat)) :=
 (apd 8 [] a0) >>= fun r4 =>
 some r4

theorem impl_floats_sim {k : Nat}  (a0 : List Nat) {out : (List Nat)} (hp : impl_floats k a0 = some out) : Sx.Fn Tryz.prog 24 [(Sl Kf a0)] [] (fun w : Unit => (Sl Kf out)) (fun w => []) := by
 unfold impl_floats at hp
 refine fn_of Tryz.func24 rfl Tryz.ntmps24 rfl fun E hM => ?_
 refine cr fun K1 hK1 => ?_
 refine s0 (rd_assign' rfl) ?_
 refine nk hK1 ?_
 refine cr fun K2 hK2 => ?_
 refine s0 (rd_move' rfl) ?_
 refine tx_nilrow' Kf 95 ?_
 obtain ⟨r4, hr4, hp⟩ := bind_some hp
 refine sx_ox' (ox_append' (K := Kf) (i := 0) (xs := []) (ys := a0) rfl rfl rfl (sr_sl' rfl Tryz.underlying22) hr4 Tryz.underlying22 info95 rfl rfl rfl (H' := []) rfl) (wt_none' rfl) fun g4 => ?_
 refine s0 (rd_assign' rfl) ?_
 refine nk hK2 ?_
 refine cx_retc' ?_
 replace hp := Option.some.inj hp
 subst hp
 refine tx_fz' (frz_row 0 [(2, (Vl (Vs g4)), (Sl Kf r4)), (4, (Vl (Vs g4)), (Sl Kf r4))] (K := Kf) (xs := r4) (by decide) rfl ⟨⟨rfl, frz_it⟩, ⟨rfl, frz_it⟩, trivial⟩ (H' := []) frzH_refl) ?_
 refine tx_pick' (L' := [(2, (Sl Kf r4))]) (H' := []) [] (sub_cons rfl sub_nil) (by decide) pick_nil ?_
 exact tx_ret1' Tryz.results24 rfl () (rv_tmp' rfl) (List.Sublist.refl _)

def gogeom_Layout_Stride (k : Nat) (a0 : Int) : Option (Int) :=
 br (decide (a0 = 0))
  (some 0)
  (br (decide (a0 = 1))
   (some 2)
   (br (decide (a0 = 2))
    (some 3)
    (br (decide (a0 = 3))
     (some 3)
     (br (decide (a0 = 4))
      (some 4)
      (some a0)))))

theorem gogeom_Layout_Stride_sim {k : Nat}  (a0 : Int) {out : Int} (hp : gogeom_Layout_Stride k a0 = some out) : Sx.Fn Tryz.prog 61 [(Vi a0)] [] (fun w : Unit => (Vi out)) (fun w => []) := by
 unfold gogeom_Layout_Stride at hp
 refine fn_of Tryz.func61 rfl Tryz.ntmps61 rfl fun E hM => ?_
 refine cr fun K1 hK1 => ?_
 refine s0 (rd_assign' rfl) ?_
 refine nk hK1 ?_
 refine cr fun K2 hK2 => ?_
 refine s0 (rd_move' rfl) ?_
 refine nk hK2 ?_
 refine cx_block' ?_
 refine cr fun K3 hK3 => ?_
 refine s0 (rd_bin' rfl rfl eg_int ru_eql) ?_
 refine s0 (rd_assign' rfl) ?_
 refine nk hK3 ?_
 refine cx_cond' rfl (fun h1 => ?_) (fun h1 => ?_)
 ·replace hp := (br_t h1).symm.trans hp
  refine cr fun K4 hK4 => ?_
  refine s0 (rd_assign' rfl) ?_
  refine nk hK4 ?_
  refine cx_retc' ?_
  replace hp := Option.some.inj hp
  subst hp
  refine tx_pick' (L' := [(2, (Vi 0))]) (H' := []) [] (sub_cons rfl sub_nil) (by decide) pick_nil ?_
  exact tx_ret1' Tryz.results61 rfl () (rv_tmp' rfl) (List.Sublist.refl _)
 replace hp := (br_f h1).symm.trans hp
 refine cr fun K5 hK5 => ?_
 refine s0 (rd_bin' rfl rfl eg_int ru_eql) ?_
 refine s0 (rd_assign' rfl) ?_
 refine nk hK5 ?_
 refine cx_cond' rfl (fun h2 => ?_) (fun h2 => ?_)
 ·replace hp := (br_t h2).symm.trans hp
  refine cr fun K6 hK6 => ?_
  refine s0 (rd_assign' rfl) ?_
  refine nk hK6 ?_
  refine cx_retc' ?_
  replace hp := Option.some.inj hp
  subst hp
  refine tx_pick' (L' := [(2, (Vi 2))]) (H' := []) [] (sub_cons rfl sub_nil) (by decide) pick_nil ?_
  exact tx_ret1' Tryz.results61 rfl () (rv_tmp' rfl) (List.Sublist.refl _)
 replace hp := (br_f h2).symm.trans hp
 refine cr fun K7 hK7 => ?_
 refine s0 (rd_bin' rfl rfl eg_int ru_eql) ?_
 refine s0 (rd_assign' rfl) ?_
 refine nk hK7 ?_
 refine cx_cond' rfl (fun h3 => ?_) (fun h3 => ?_)
 ·replace hp := (br_t h3).symm.trans hp
  refine cr fun K8 hK8 => ?_
  refine s0 (rd_assign' rfl) ?_
  refine nk hK8 ?_
  refine cx_retc' ?_
  replace hp := Option.some.inj hp
  subst hp
  refine tx_pick' (L' := [(2, (Vi 3))]) (H' := []) [] (sub_cons rfl sub_nil) (by decide) pick_nil ?_
  exact tx_ret1' Tryz.results61 rfl () (rv_tmp' rfl) (List.Sublist.refl _)
 replace hp := (br_f h3).symm.trans hp
 refine cr fun K9 hK9 => ?_
 refine s0 (rd_bin' rfl rfl eg_int ru_eql) ?_
 refine s0 (rd_assign' rfl) ?_
 refine nk hK9 ?_
 refine cx_cond' rfl (fun h4 => ?_) (fun h4 => ?_)
 ·replace hp := (br_t h4).symm.trans hp
  refine cr fun K10 hK10 => ?_
  refine s0 (rd_assign' rfl) ?_
  refine nk hK10 ?_
  refine cx_retc' ?_
  replace hp := Option.some.inj hp
  subst hp
  refine tx_pick' (L' := [(2, (Vi 3))]) (H' := []) [] (sub_cons rfl sub_nil) (by decide) pick_nil ?_
  exact tx_ret1' Tryz.results61 rfl () (rv_tmp' rfl) (List.Sublist.refl _)
 replace hp := (br_f h4).symm.trans hp
 refine cr fun K11 hK11 => ?_
 refine s0 (rd_bin' rfl rfl eg_int ru_eql) ?_
 refine s0 (rd_assign' rfl) ?_
 refine nk hK11 ?_
 refine cx_cond' rfl (fun h5 => ?_) (fun h5 => ?_)
 ·replace hp := (br_t h5).symm.trans hp
  refine cr fun K12 hK12 => ?_
  refine s0 (rd_assign' rfl) ?_
  refine nk hK12 ?_
  refine cx_retc' ?_
  replace hp := Option.some.inj hp
  subst hp
  refine tx_pick' (L' := [(2, (Vi 4))]) (H' := []) [] (sub_cons rfl sub_nil) (by decide) pick_nil ?_
  exact tx_ret1' Tryz.results61 rfl () (rv_tmp' rfl) (List.Sublist.refl _)
 replace hp := (br_f h5).symm.trans hp
 refine cr fun K13 hK13 => ?_
 refine s0 (rd_move' rfl) ?_
 refine s0 (rd_assign' rfl) ?_
 refine nk hK13 ?_
 refine cx_retc' ?_
 replace hp := Option.some.inj hp
 subst hp
 refine tx_pick' (L' := [(2, (Vi a0))]) (H' := []) [] (sub_cons rfl sub_nil) (by decide) pick_nil ?_
 exact tx_ret1' Tryz.results61 rfl () (rv_tmp' rfl) (List.Sublist.refl _)

def gogeom_NewPointFlat (k : Nat) (a0 : Int) (a1 : List Nat) : Option (Int × Int × (List Nat) × Int) :=
 (gogeom_Layout_Stride k a0) >>= fun r14 =>
 some (a0, r14, a1, 0)

theorem gogeom_NewPointFlat_sim {k : Nat}  (a0 : Int) (a1 : List Nat) {out : Int × Int × (List Nat) × Int} (hp : gogeom_NewPointFlat k a0 a1 = some out) : Sx.Fn Tryz.prog 25 [(Vi a0), (Sl Kf a1)] [] (fun w : Addr => (Vp w)) (fun w => [⟨.pointer (some w), [(Vi out.1), (Vi out.2.1), (Sl Kf out.2.2.1), (Vi out.2.2.2)], 107, none⟩]) := by
 unfold gogeom_NewPointFlat at hp
 refine fn_of Tryz.func25 rfl Tryz.ntmps25 rfl fun E hM => ?_
 refine cr fun K1 hK1 => ?_
 refine s0 (rd_assign' rfl) ?_
 refine nk hK1 ?_
 refine cr fun K2 hK2 => ?_
 refine sx_ox' (ox_alloc' info107 rfl rfl rfl rfl (l := [(Vi 0), (Vi 0), Vn, (Vi 0)]) rfl) (wt_none' rfl) fun q6 => ?_
 refine s0 (rd_assign' rfl) ?_
 refine nk hK2 ?_
 refine cr fun K3 hK3 => ?_
 refine s0 (rd_move' rfl) ?_
 refine s0 (rd_move' rfl) ?_
 refine s0 (rd_nilck' rfl) ?_
 refine s0 (rd_field0' rfl Tryz.underlying107 rfl info105 rfl) ?_
 refine s0 (rd_field0' rfl Tryz.underlying105 rfl info54 rfl) ?_
 refine sx_ox' (ox_store' (i := 0) (o := 0) rfl rfl (lv_vl rfl rfl) ⟨rfl, rfl, rfl, rfl⟩ rfl info54 rfl (H' := [⟨.pointer (some q6), [(Vi a0), (Vi 0), Vn, (Vi 0)], 107, none⟩]) rfl) (wt_none' rfl) fun _ => ?_
 refine nk hK3 ?_
 refine cr fun K4 hK4 => ?_
 refine s0 (rd_move' rfl) ?_
 refine s0 (rd_move' rfl) ?_
 obtain ⟨r14, hr14, hp⟩ := bind_some hp
 refine sx_ox' (ox_calln' (ent_fn' Tryz.func61 isn61 rfl rfl) (gogeom_Layout_Stride_sim _ hr14 : Sx.Fn Tryz.prog 61 [(Vi a0)] [] (fun x : Unit => (Vi r14)) (fun x => [])) (Hn := fun x : Unit => [⟨.pointer (some q6), [(Vi a0), (Vi 0), Vn, (Vi 0)], 107, none⟩]) (fun _ => rfl) rfl rfl) (wt_none' rfl) fun ⟨⟩ => ?_
 refine s0 (rd_nilck' rfl) ?_
 refine s0 (rd_field0' rfl Tryz.underlying107 rfl info105 rfl) ?_
 refine s0 (rd_field' (off := 1) rfl Tryz.underlying105 rfl info3 rfl) ?_
 refine sx_ox' (ox_store' (i := 0) (o := 1) rfl rfl (lv_vl rfl rfl) ⟨rfl, rfl, rfl, rfl⟩ rfl info3 rfl (H' := [⟨.pointer (some q6), [(Vi a0), (Vi r14), Vn, (Vi 0)], 107, none⟩]) rfl) (wt_none' rfl) fun _ => ?_
 refine nk hK4 ?_
 refine cr fun K5 hK5 => ?_
 refine s0 (rd_move' rfl) ?_
 refine s0 (rd_move' rfl) ?_
 refine s0 (rd_nilck' rfl) ?_
 refine s0 (rd_field0' rfl Tryz.underlying107 rfl info105 rfl) ?_
 refine s0 (rd_field' (off := 2) rfl Tryz.underlying105 rfl info22 rfl) ?_
 refine sx_ox' (ox_store' (i := 0) (o := 2) rfl rfl (lv_sl _ _) ⟨rfl, rfl, rfl, rfl⟩ rfl info22 rfl (H' := [⟨.pointer (some q6), [(Vi a0), (Vi r14), (Sl Kf a1), (Vi 0)], 107, none⟩]) rfl) (wt_none' rfl) fun _ => ?_
 refine nk hK5 ?_
 refine cr fun K6 hK6 => ?_
 refine s0 (rd_move' rfl) ?_
 refine s0 (rd_assign' rfl) ?_
 refine nk hK6 ?_
 refine cx_retc' ?_
 replace hp := Option.some.inj hp
 subst hp
 refine tx_pick' (L' := [(4, (Vp q6))]) (H' := [⟨.pointer (some q6), [(Vi a0), (Vi r14), (Sl Kf a1), (Vi 0)], 107, none⟩]) [0] (sub_cons rfl sub_nil) (by decide) (pick_cons rfl pick_nil) ?_
 exact tx_ret1' Tryz.results25 rfl q6 (rv_tmp' rfl) (List.Sublist.refl _)

def gogeom_Point_SetSRID (k : Nat) (a0_0 : Int) (a0_1 : Int) (a0_2 : List Nat) (a0_3 : Int) (a1 : Int) : Option (Int × Int × (List Nat) × Int) :=
 some (a0_0, a0_1, a0_2, a1)

theorem gogeom_Point_SetSRID_sim {k : Nat} {wa0 : Addr} (a0_0 : Int) (a0_1 : Int) (a0_2 : List Nat) (a0_3 : Int) (a1 : Int) {out : Int × Int × (List Nat) × Int} (hp : gogeom_Point_SetSRID k a0_0 a0_1 a0_2 a0_3 a1 = some out) : Sx.Fn Tryz.prog 26 [(Vp wa0), (Vi a1)] [⟨.pointer (some wa0), [(Vi a0_0), (Vi a0_1), (Sl Kf a0_2), (Vi a0_3)], 107, none⟩] (fun w : Unit => (Vp wa0)) (fun w => [⟨.pointer (some wa0), [(Vi out.1), (Vi out.2.1), (Sl Kf out.2.2.1), (Vi out.2.2.2)], 107, none⟩]) := by
 unfold gogeom_Point_SetSRID at hp
 refine fn_of Tryz.func26 rfl Tryz.ntmps26 rfl fun E hM => ?_
 refine cr fun K1 hK1 => ?_
 refine s0 (rd_assign' rfl) ?_
 refine nk hK1 ?_
 refine cr fun K2 hK2 => ?_
 refine s0 (rd_move' rfl) ?_
 refine s0 (rd_move' rfl) ?_
 refine s0 (rd_nilck' rfl) ?_
 refine s0 (rd_field0' rfl Tryz.underlying107 rfl info105 rfl) ?_
 refine s0 (rd_field' (off := 3) rfl Tryz.underlying105 rfl info3 rfl) ?_
 refine sx_ox' (ox_store' (i := 0) (o := 3) rfl rfl (lv_vl rfl rfl) ⟨rfl, rfl, rfl, rfl⟩ rfl info3 rfl (H' := [⟨.pointer (some wa0), [(Vi a0_0), (Vi a0_1), (Sl Kf a0_2), (Vi a1)], 107, none⟩]) rfl) (wt_none' rfl) fun _ => ?_
 refine nk hK2 ?_
 refine cr fun K3 hK3 => ?_
 refine s0 (rd_move' rfl) ?_
 refine s0 (rd_assign' rfl) ?_
 refine nk hK3 ?_
 refine cx_retc' ?_
 replace hp := Option.some.inj hp
 subst hp
 refine tx_pick' (L' := [(4, (Vp wa0))]) (H' := [⟨.pointer (some wa0), [(Vi a0_0), (Vi a0_1), (Sl Kf a0_2), (Vi a1)], 107, none⟩]) [0] (sub_cons rfl sub_nil) (by decide) (pick_cons rfl pick_nil) ?_
 exact tx_ret1' Tryz.results26 rfl () (rv_tmp' rfl) (List.Sublist.refl _)

def gogeom_NewLineStringFlat (k : Nat) (a0 : Int) (a1 : List Nat) : Option (Int × Int × (List Nat) × Int) :=
 (gogeom_Layout_Stride k a0) >>= fun r15 =>
 some (a0, r15, a1, 0)

theorem gogeom_NewLineStringFlat_sim {k : Nat}  (a0 : Int) (a1 : List Nat) {out : Int × Int × (List Nat) × Int} (hp : gogeom_NewLineStringFlat k a0 a1 = some out) : Sx.Fn Tryz.prog 27 [(Vi a0), (Sl Kf a1)] [] (fun w : Addr => (Vp w)) (fun w => [⟨.pointer (some w), [(Vi out.1), (Vi out.2.1), (Sl Kf out.2.2.1), (Vi out.2.2.2)], 110, none⟩]) := by
 unfold gogeom_NewLineStringFlat at hp
 refine fn_of Tryz.func27 rfl Tryz.ntmps27 rfl fun E hM => ?_
 refine cr fun K1 hK1 => ?_
 refine s0 (rd_assign' rfl) ?_
 refine nk hK1 ?_
 refine cr fun K2 hK2 => ?_
 refine sx_ox' (ox_alloc' info110 rfl rfl rfl rfl (l := [(Vi 0), (Vi 0), Vn, (Vi 0)]) rfl) (wt_none' rfl) fun q6 => ?_
 refine s0 (rd_assign' rfl) ?_
 refine nk hK2 ?_
 refine cr fun K3 hK3 => ?_
 refine s0 (rd_move' rfl) ?_
 refine s0 (rd_move' rfl) ?_
 refine s0 (rd_nilck' rfl) ?_
 refine s0 (rd_field0' rfl Tryz.underlying110 rfl info108 rfl) ?_
 refine s0 (rd_field0' rfl Tryz.underlying108 rfl info105 rfl) ?_
 refine s0 (rd_field0' rfl Tryz.underlying105 rfl info54 rfl) ?_
 refine sx_ox' (ox_store' (i := 0) (o := 0) rfl rfl (lv_vl rfl rfl) ⟨rfl, rfl, rfl, rfl⟩ rfl info54 rfl (H' := [⟨.pointer (some q6), [(Vi a0), (Vi 0), Vn, (Vi 0)], 110, none⟩]) rfl) (wt_none' rfl) fun _ => ?_
 refine nk hK3 ?_
 refine cr fun K4 hK4 => ?_
 refine s0 (rd_move' rfl) ?_
 refine s0 (rd_move' rfl) ?_
 obtain ⟨r15, hr15, hp⟩ := bind_some hp
 refine sx_ox' (ox_calln' (ent_fn' Tryz.func61 isn61 rfl rfl) (gogeom_Layout_Stride_sim _ hr15 : Sx.Fn Tryz.prog 61 [(Vi a0)] [] (fun x : Unit => (Vi r15)) (fun x => [])) (Hn := fun x : Unit => [⟨.pointer (some q6), [(Vi a0), (Vi 0), Vn, (Vi 0)], 110, none⟩]) (fun _ => rfl) rfl rfl) (wt_none' rfl) fun ⟨⟩ => ?_
 refine s0 (rd_nilck' rfl) ?_
 refine s0 (rd_field0' rfl Tryz.underlying110 rfl info108 rfl) ?_
 refine s0 (rd_field0' rfl Tryz.underlying108 rfl info105 rfl) ?_
 refine s0 (rd_field' (off := 1) rfl Tryz.underlying105 rfl info3 rfl) ?_
 refine sx_ox' (ox_store' (i := 0) (o := 1) rfl rfl (lv_vl rfl rfl) ⟨rfl, rfl, rfl, rfl⟩ rfl info3 rfl (H' := [⟨.pointer (some q6), [(Vi a0), (Vi r15), Vn, (Vi 0)], 110, none⟩]) rfl) (wt_none' rfl) fun _ => ?_
 refine nk hK4 ?_
 refine cr fun K5 hK5 => ?_
 refine s0 (rd_move' rfl) ?_
 refine s0 (rd_move' rfl) ?_
 refine s0 (rd_nilck' rfl) ?_
 refine s0 (rd_field0' rfl Tryz.underlying110 rfl info108 rfl) ?_
 refine s0 (rd_field0' rfl Tryz.underlying108 rfl info105 rfl) ?_
 refine s0 (rd_field' (off := 2) rfl Tryz.underlying105 rfl info22 rfl) ?_
 refine sx_ox' (ox_store' (i := 0) (o := 2) rfl rfl (lv_sl _ _) ⟨rfl, rfl, rfl, rfl⟩ rfl info22 rfl (H' := [⟨.pointer (some q6), [(Vi a0), (Vi r15), (Sl Kf a1), (Vi 0)], 110, none⟩]) rfl) (wt_none' rfl) fun _ => ?_
 refine nk hK5 ?_
 refine cr fun K6 hK6 => ?_
 refine s0 (rd_move' rfl) ?_
 refine s0 (rd_assign' rfl) ?_
 refine nk hK6 ?_
 refine cx_retc' ?_
 replace hp := Option.some.inj hp
 subst hp
 refine tx_pick' (L' := [(4, (Vp q6))]) (H' := [⟨.pointer (some q6), [(Vi a0), (Vi r15), (Sl Kf a1), (Vi 0)], 110, none⟩]) [0] (sub_cons rfl sub_nil) (by decide) (pick_cons rfl pick_nil) ?_
 exact tx_ret1' Tryz.results27 rfl q6 (rv_tmp' rfl) (List.Sublist.refl _)

def gogeom_LineString_SetSRID (k : Nat) (a0_0 : Int) (a0_1 : Int) (a0_2 : List Nat) (a0_3 : Int) (a1 : Int) : Option (Int × Int × (List Nat) × Int) :=
 some (a0_0, a0_1, a0_2, a1)

theorem gogeom_LineString_SetSRID_sim {k : Nat} {wa0 : Addr} (a0_0 : Int) (a0_1 : Int) (a0_2 : List Nat) (a0_3 : Int) (a1 : Int) {out : Int × Int × (List Nat) × Int} (hp : gogeom_LineString_SetSRID k a0_0 a0_1 a0_2 a0_3 a1 = some out) : Sx.Fn Tryz.prog 28 [(Vp wa0), (Vi a1)] [⟨.pointer (some wa0), [(Vi a0_0), (Vi a0_1), (Sl Kf a0_2), (Vi a0_3)], 110, none⟩] (fun w : Unit => (Vp wa0)) (fun w => [⟨.pointer (some wa0), [(Vi out.1), (Vi out.2.1), (Sl Kf out.2.2.1), (Vi out.2.2.2)], 110, none⟩]) := by
 unfold gogeom_LineString_SetSRID at hp
 refine fn_of Tryz.func28 rfl Tryz.ntmps28 rfl fun E hM => ?_
 refine cr fun K1 hK1 => ?_
 refine s0 (rd_assign' rfl) ?_
 refine nk hK1 ?_
 refine cr fun K2 hK2 => ?_
 refine s0 (rd_move' rfl) ?_
 refine s0 (rd_move' rfl) ?_
 refine s0 (rd_nilck' rfl) ?_
 refine s0 (rd_field0' rfl Tryz.underlying110 rfl info108 rfl) ?_
 refine s0 (rd_field0' rfl Tryz.underlying108 rfl info105 rfl) ?_
 refine s0 (rd_field' (off := 3) rfl Tryz.underlying105 rfl info3 rfl) ?_
 refine sx_ox' (ox_store' (i := 0) (o := 3) rfl rfl (lv_vl rfl rfl) ⟨rfl, rfl, rfl, rfl⟩ rfl info3 rfl (H' := [⟨.pointer (some wa0), [(Vi a0_0), (Vi a0_1), (Sl Kf a0_2), (Vi a1)], 110, none⟩]) rfl) (wt_none' rfl) fun _ => ?_
 refine nk hK2 ?_
 refine cr fun K3 hK3 => ?_
 refine s0 (rd_move' rfl) ?_
 refine s0 (rd_assign' rfl) ?_
 refine nk hK3 ?_
 refine cx_retc' ?_
 replace hp := Option.some.inj hp
 subst hp
 refine tx_pick' (L' := [(4, (Vp wa0))]) (H' := [⟨.pointer (some wa0), [(Vi a0_0), (Vi a0_1), (Sl Kf a0_2), (Vi a1)], 110, none⟩]) [0] (sub_cons rfl sub_nil) (by decide) (pick_cons rfl pick_nil) ?_
 exact tx_ret1' Tryz.results28 rfl () (rv_tmp' rfl) (List.Sublist.refl _)

def gogeom_NewLinearRingFlat (k : Nat) (a0 : Int) (a1 : List Nat) : Option (Int × Int × (List Nat) × Int) :=
 (gogeom_Layout_Stride k a0) >>= fun r15 =>
 some (a0, r15, a1, 0)

theorem gogeom_NewLinearRingFlat_sim {k : Nat}  (a0 : Int) (a1 : List Nat) {out : Int × Int × (List Nat) × Int} (hp : gogeom_NewLinearRingFlat k a0 a1 = some out) : Sx.Fn Tryz.prog 29 [(Vi a0), (Sl Kf a1)] [] (fun w : Addr => (Vp w)) (fun w => [⟨.pointer (some w), [(Vi out.1), (Vi out.2.1), (Sl Kf out.2.2.1), (Vi out.2.2.2)], 111, none⟩]) := by
 unfold gogeom_NewLinearRingFlat at hp
 refine fn_of Tryz.func29 rfl Tryz.ntmps29 rfl fun E hM => ?_
 refine cr fun K1 hK1 => ?_
 refine s0 (rd_assign' rfl) ?_
 refine nk hK1 ?_
 refine cr fun K2 hK2 => ?_
 refine sx_ox' (ox_alloc' info111 rfl rfl rfl rfl (l := [(Vi 0), (Vi 0), Vn, (Vi 0)]) rfl) (wt_none' rfl) fun q6 => ?_
 refine s0 (rd_assign' rfl) ?_
 refine nk hK2 ?_
 refine cr fun K3 hK3 => ?_
 refine s0 (rd_move' rfl) ?_
 refine s0 (rd_move' rfl) ?_
 refine s0 (rd_nilck' rfl) ?_
 refine s0 (rd_field0' rfl Tryz.underlying111 rfl info108 rfl) ?_
 refine s0 (rd_field0' rfl Tryz.underlying108 rfl info105 rfl) ?_
 refine s0 (rd_field0' rfl Tryz.underlying105 rfl info54 rfl) ?_
 refine sx_ox' (ox_store' (i := 0) (o := 0) rfl rfl (lv_vl rfl rfl) ⟨rfl, rfl, rfl, rfl⟩ rfl info54 rfl (H' := [⟨.pointer (some q6), [(Vi a0), (Vi 0), Vn, (Vi 0)], 111, none⟩]) rfl) (wt_none' rfl) fun _ => ?_
 refine nk hK3 ?_
 refine cr fun K4 hK4 => ?_
 refine s0 (rd_move' rfl) ?_
 refine s0 (rd_move' rfl) ?_
 obtain ⟨r15, hr15, hp⟩ := bind_some hp
 refine sx_ox' (ox_calln' (ent_fn' Tryz.func61 isn61 rfl rfl) (gogeom_Layout_Stride_sim _ hr15 : Sx.Fn Tryz.prog 61 [(Vi a0)] [] (fun x : Unit => (Vi r15)) (fun x => [])) (Hn := fun x : Unit => [⟨.pointer (some q6), [(Vi a0), (Vi 0), Vn, (Vi 0)], 111, none⟩]) (fun _ => rfl) rfl rfl) (wt_none' rfl) fun ⟨⟩ => ?_
 refine s0 (rd_nilck' rfl) ?_
 refine s0 (rd_field0' rfl Tryz.underlying111 rfl info108 rfl) ?_
 refine s0 (rd_field0' rfl Tryz.underlying108 rfl info105 rfl) ?_
 refine s0 (rd_field' (off := 1) rfl Tryz.underlying105 rfl info3 rfl) ?_
 refine sx_ox' (ox_store' (i := 0) (o := 1) rfl rfl (lv_vl rfl rfl) ⟨rfl, rfl, rfl, rfl⟩ rfl info3 rfl (H' := [⟨.pointer (some q6), [(Vi a0), (Vi r15), Vn, (Vi 0)], 111, none⟩]) rfl) (wt_none' rfl) fun _ => ?_
 refine nk hK4 ?_
 refine cr fun K5 hK5 => ?_
 refine s0 (rd_move' rfl) ?_
 refine s0 (rd_move' rfl) ?_
 refine s0 (rd_nilck' rfl) ?_
 refine s0 (rd_field0' rfl Tryz.underlying111 rfl info108 rfl) ?_
 refine s0 (rd_field0' rfl Tryz.underlying108 rfl info105 rfl) ?_
 refine s0 (rd_field' (off := 2) rfl Tryz.underlying105 rfl info22 rfl) ?_
 refine sx_ox' (ox_store' (i := 0) (o := 2) rfl rfl (lv_sl _ _) ⟨rfl, rfl, rfl, rfl⟩ rfl info22 rfl (H' := [⟨.pointer (some q6), [(Vi a0), (Vi r15), (Sl Kf a1), (Vi 0)], 111, none⟩]) rfl) (wt_none' rfl) fun _ => ?_
 refine nk hK5 ?_
 refine cr fun K6 hK6 => ?_
 refine s0 (rd_move' rfl) ?_
 refine s0 (rd_assign' rfl) ?_
 refine nk hK6 ?_
 refine cx_retc' ?_
 replace hp := Option.some.inj hp
 subst hp
 refine tx_pick' (L' := [(4, (Vp q6))]) (H' := [⟨.pointer (some q6), [(Vi a0), (Vi r15), (Sl Kf a1), (Vi 0)], 111, none⟩]) [0] (sub_cons rfl sub_nil) (by decide) (pick_cons rfl pick_nil) ?_
 exact tx_ret1' Tryz.results29 rfl q6 (rv_tmp' rfl) (List.Sublist.refl _)

def gogeom_LinearRing_SetSRID (k : Nat) (a0_0 : Int) (a0_1 : Int) (a0_2 : List Nat) (a0_3 : Int) (a1 : Int) : Option (Int × Int × (List Nat) × Int) :=
 some (a0_0, a0_1, a0_2, a1)

theorem gogeom_LinearRing_SetSRID_sim {k : Nat} {wa0 : Addr} (a0_0 : Int) (a0_1 : Int) (a0_2 : List Nat) (a0_3 : Int) (a1 : Int) {out : Int × Int × (List Nat) × Int} (hp : gogeom_LinearRing_SetSRID k a0_0 a0_1 a0_2 a0_3 a1 = some out) : Sx.Fn Tryz.prog 30 [(Vp wa0), (Vi a1)] [⟨.pointer (some wa0), [(Vi a0_0), (Vi a0_1), (Sl Kf a0_2), (Vi a0_3)], 111, none⟩] (fun w : Unit => (Vp wa0)) (fun w => [⟨.pointer (some wa0), [(Vi out.1), (Vi out.2.1), (Sl Kf out.2.2.1), (Vi out.2.2.2)], 111, none⟩]) := by
 unfold gogeom_LinearRing_SetSRID at hp
 refine fn_of Tryz.func30 rfl Tryz.ntmps30 rfl fun E hM => ?_
 refine cr fun K1 hK1 => ?_
 refine s0 (rd_assign' rfl) ?_
 refine nk hK1 ?_
 refine cr fun K2 hK2 => ?_
 refine s0 (rd_move' rfl) ?_
 refine s0 (rd_move' rfl) ?_
 refine s0 (rd_nilck' rfl) ?_
 refine s0 (rd_field0' rfl Tryz.underlying111 rfl info108 rfl) ?_
 refine s0 (rd_field0' rfl Tryz.underlying108 rfl info105 rfl) ?_
 refine s0 (rd_field' (off := 3) rfl Tryz.underlying105 rfl info3 rfl) ?_
 refine sx_ox' (ox_store' (i := 0) (o := 3) rfl rfl (lv_vl rfl rfl) ⟨rfl, rfl, rfl, rfl⟩ rfl info3 rfl (H' := [⟨.pointer (some wa0), [(Vi a0_0), (Vi a0_1), (Sl Kf a0_2), (Vi a1)], 111, none⟩]) rfl) (wt_none' rfl) fun _ => ?_
 refine nk hK2 ?_
 refine cr fun K3 hK3 => ?_
 refine s0 (rd_move' rfl) ?_
 refine s0 (rd_assign' rfl) ?_
 refine nk hK3 ?_
 refine cx_retc' ?_
 replace hp := Option.some.inj hp
 subst hp
 refine tx_pick' (L' := [(4, (Vp wa0))]) (H' := [⟨.pointer (some wa0), [(Vi a0_0), (Vi a0_1), (Sl Kf a0_2), (Vi a1)], 111, none⟩]) [0] (sub_cons rfl sub_nil) (by decide) (pick_cons rfl pick_nil) ?_
 exact tx_ret1' Tryz.results30 rfl () (rv_tmp' rfl) (List.Sublist.refl _)

def impl_ints (k : Nat) (a0 : List Int) : Option (Unit ⊕ (List Int)) :=
 br a0.isEmpty
  (some (.inl ()))
  ((apd 8 [] a0) >>= fun r4 =>
  some (.inr r4))
def impl_ints_r  (a0 : List Int) (out : Unit ⊕ (List Int)) (w : Unit) : SV := match out with
 | (.inl y) => Vn
 | (.inr y) => (Sl (Ki .i64) y)
def impl_ints_h  (a0 : List Int) (out : Unit ⊕ (List Int)) (w : Unit) : List Res := match out with
 | (.inl y) => []
 | (.inr y) => []

theorem impl_ints_sim {k : Nat}  (a0 : List Int) {out : Unit ⊕ (List Int)} (hp : impl_ints k a0 = some out) : Sx.Fn Tryz.prog 32 [(Sl (Ki .i64) a0)] [] (fun w => impl_ints_r a0 out w) (fun w => impl_ints_h a0 out w) := by
 unfold impl_ints at hp
 refine fn_of Tryz.func32 rfl Tryz.ntmps32 rfl fun E hM => ?_
 refine cr fun K1 hK1 => ?_
 refine s0 (rd_assign' rfl) ?_
 refine nk hK1 ?_
 refine cr fun K2 hK2 => ?_
 refine s0 (rd_move' rfl) ?_
 rcases br_cases hp with ⟨h1, hp⟩ | ⟨h1, hp⟩
 ·refine s0 (rd_append0' (K := (Ki .i64)) (xs := a0) rfl rfl h1 Tryz.underlying23 Tryz.underlying23 info3) ?_
  refine s0 (rd_assign' rfl) ?_
  refine nk hK2 ?_
  refine cx_retc' ?_
  replace hp := Option.some.inj hp
  subst hp
  refine tx_pick' (L' := [(2, Vn)]) (H' := []) [] (sub_cons rfl sub_nil) (by decide) pick_nil ?_
  exact tx_ret1' Tryz.results32 rfl () (rv_tmp' rfl) (List.Sublist.refl _)
 refine tx_nilrow' (Ki .i64) 3 ?_
 obtain ⟨r4, hr4, hp⟩ := bind_some hp
 refine sx_ox' (ox_append' (K := (Ki .i64)) (i := 0) (xs := []) (ys := a0) rfl rfl rfl (sr_sl' rfl Tryz.underlying23) hr4 Tryz.underlying23 info3 rfl rfl rfl (H' := []) rfl) (wt_none' rfl) fun g4 => ?_
 refine s0 (rd_assign' rfl) ?_
 refine nk hK2 ?_
 refine cx_retc' ?_
 replace hp := Option.some.inj hp
 subst hp
 refine tx_fz' (frz_row 0 [(2, (Vl (Vs g4)), (Sl (Ki .i64) r4)), (4, (Vl (Vs g4)), (Sl (Ki .i64) r4))] (K := (Ki .i64)) (xs := r4) (by decide) rfl ⟨⟨rfl, frz_it⟩, ⟨rfl, frz_it⟩, trivial⟩ (H' := []) frzH_refl) ?_
 refine tx_pick' (L' := [(2, (Sl (Ki .i64) r4))]) (H' := []) [] (sub_cons rfl sub_nil) (by decide) pick_nil ?_
 exact tx_ret1' Tryz.results32 rfl () (rv_tmp' rfl) (List.Sublist.refl _)

def gogeom_NewPolygonFlat (k : Nat) (a0 : Int) (a1 : List Nat) : Option (Int × Int × (List Nat) × Int) :=
 (gogeom_Layout_Stride k a0) >>= fun r18 =>
 some (a0, r18, a1, 0)

theorem gogeom_NewPolygonFlat_sim {k : Nat}  (a0 : Int) (a1 : List Nat) {out : Int × Int × (List Nat) × Int} (hp : gogeom_NewPolygonFlat k a0 a1 = some out) : Sx.Fn Tryz.prog 31 [(Vi a0), (Sl Kf a1), Vn] [] (fun w : Addr => (Vp w)) (fun w => [⟨.pointer (some w), [(Vi out.1), (Vi out.2.1), (Sl Kf out.2.2.1), (Vi out.2.2.2), Vn], 115, none⟩]) := by
 unfold gogeom_NewPolygonFlat at hp
 refine fn_of Tryz.func31 rfl Tryz.ntmps31 rfl fun E hM => ?_
 refine cr fun K1 hK1 => ?_
 refine s0 (rd_assign' rfl) ?_
 refine nk hK1 ?_
 refine cr fun K2 hK2 => ?_
 refine sx_ox' (ox_alloc' info115 rfl rfl rfl rfl (l := [(Vi 0), (Vi 0), Vn, (Vi 0), Vn]) rfl) (wt_none' rfl) fun q8 => ?_
 refine s0 (rd_assign' rfl) ?_
 refine nk hK2 ?_
 refine cr fun K3 hK3 => ?_
 refine s0 (rd_move' rfl) ?_
 refine s0 (rd_move' rfl) ?_
 refine s0 (rd_nilck' rfl) ?_
 refine s0 (rd_field0' rfl Tryz.underlying115 rfl info113 rfl) ?_
 refine s0 (rd_field0' rfl Tryz.underlying113 rfl info108 rfl) ?_
 refine s0 (rd_field0' rfl Tryz.underlying108 rfl info105 rfl) ?_
 refine s0 (rd_field0' rfl Tryz.underlying105 rfl info54 rfl) ?_
 refine sx_ox' (ox_store' (i := 0) (o := 0) rfl rfl (lv_vl rfl rfl) ⟨rfl, rfl, rfl, rfl⟩ rfl info54 rfl (H' := [⟨.pointer (some q8), [(Vi a0), (Vi 0), Vn, (Vi 0), Vn], 115, none⟩]) rfl) (wt_none' rfl) fun _ => ?_
 refine nk hK3 ?_
 refine cr fun K4 hK4 => ?_
 refine s0 (rd_move' rfl) ?_
 refine s0 (rd_move' rfl) ?_
 obtain ⟨r18, hr18, hp⟩ := bind_some hp
 refine sx_ox' (ox_calln' (ent_fn' Tryz.func61 isn61 rfl rfl) (gogeom_Layout_Stride_sim _ hr18 : Sx.Fn Tryz.prog 61 [(Vi a0)] [] (fun x : Unit => (Vi r18)) (fun x => [])) (Hn := fun x : Unit => [⟨.pointer (some q8), [(Vi a0), (Vi 0), Vn, (Vi 0), Vn], 115, none⟩]) (fun _ => rfl) rfl rfl) (wt_none' rfl) fun ⟨⟩ => ?_
 refine s0 (rd_nilck' rfl) ?_
 refine s0 (rd_field0' rfl Tryz.underlying115 rfl info113 rfl) ?_
 refine s0 (rd_field0' rfl Tryz.underlying113 rfl info108 rfl) ?_
 refine s0 (rd_field0' rfl Tryz.underlying108 rfl info105 rfl) ?_
 refine s0 (rd_field' (off := 1) rfl Tryz.underlying105 rfl info3 rfl) ?_
 refine sx_ox' (ox_store' (i := 0) (o := 1) rfl rfl (lv_vl rfl rfl) ⟨rfl, rfl, rfl, rfl⟩ rfl info3 rfl (H' := [⟨.pointer (some q8), [(Vi a0), (Vi r18), Vn, (Vi 0), Vn], 115, none⟩]) rfl) (wt_none' rfl) fun _ => ?_
 refine nk hK4 ?_
 refine cr fun K5 hK5 => ?_
 refine s0 (rd_move' rfl) ?_
 refine s0 (rd_move' rfl) ?_
 refine s0 (rd_nilck' rfl) ?_
 refine s0 (rd_field0' rfl Tryz.underlying115 rfl info113 rfl) ?_
 refine s0 (rd_field0' rfl Tryz.underlying113 rfl info108 rfl) ?_
 refine s0 (rd_field0' rfl Tryz.underlying108 rfl info105 rfl) ?_
 refine s0 (rd_field' (off := 2) rfl Tryz.underlying105 rfl info22 rfl) ?_
 refine sx_ox' (ox_store' (i := 0) (o := 2) rfl rfl (lv_sl _ _) ⟨rfl, rfl, rfl, rfl⟩ rfl info22 rfl (H' := [⟨.pointer (some q8), [(Vi a0), (Vi r18), (Sl Kf a1), (Vi 0), Vn], 115, none⟩]) rfl) (wt_none' rfl) fun _ => ?_
 refine nk hK5 ?_
 refine cr fun K6 hK6 => ?_
 refine s0 (rd_move' rfl) ?_
 refine s0 (rd_move' rfl) ?_
 refine s0 (rd_nilck' rfl) ?_
 refine s0 (rd_field0' rfl Tryz.underlying115 rfl info113 rfl) ?_
 refine s0 (rd_field' (off := 4) rfl Tryz.underlying113 rfl info23 rfl) ?_
 refine sx_ox' (ox_store' (i := 0) (o := 4) rfl rfl (lv_vl rfl rfl) ⟨rfl, rfl, rfl, rfl⟩ rfl info23 rfl (H' := [⟨.pointer (some q8), [(Vi a0), (Vi r18), (Sl Kf a1), (Vi 0), Vn], 115, none⟩]) rfl) (wt_none' rfl) fun _ => ?_
 refine nk hK6 ?_
 refine cr fun K7 hK7 => ?_
 refine s0 (rd_move' rfl) ?_
 refine s0 (rd_assign' rfl) ?_
 refine nk hK7 ?_
 refine cx_retc' ?_
 replace hp := Option.some.inj hp
 subst hp
 refine tx_pick' (L' := [(6, (Vp q8))]) (H' := [⟨.pointer (some q8), [(Vi a0), (Vi r18), (Sl Kf a1), (Vi 0), Vn], 115, none⟩]) [0] (sub_cons rfl sub_nil) (by decide) (pick_cons rfl pick_nil) ?_
 exact tx_ret1' Tryz.results31 rfl q8 (rv_tmp' rfl) (List.Sublist.refl _)

def gogeom_Polygon_SetSRID (k : Nat) (a0_0 : Int) (a0_1 : Int) (a0_2 : List Nat) (a0_3 : Int) (a1 : Int) : Option (Int × Int × (List Nat) × Int) :=
 some (a0_0, a0_1, a0_2, a1)

theorem gogeom_Polygon_SetSRID_sim {k : Nat} {wa0 : Addr} (a0_0 : Int) (a0_1 : Int) (a0_2 : List Nat) (a0_3 : Int) (a1 : Int) {out : Int × Int × (List Nat) × Int} (hp : gogeom_Polygon_SetSRID k a0_0 a0_1 a0_2 a0_3 a1 = some out) : Sx.Fn Tryz.prog 33 [(Vp wa0), (Vi a1)] [⟨.pointer (some wa0), [(Vi a0_0), (Vi a0_1), (Sl Kf a0_2), (Vi a0_3), Vn], 115, none⟩] (fun w : Unit => (Vp wa0)) (fun w => [⟨.pointer (some wa0), [(Vi out.1), (Vi out.2.1), (Sl Kf out.2.2.1), (Vi out.2.2.2), Vn], 115, none⟩]) := by
 unfold gogeom_Polygon_SetSRID at hp
 refine fn_of Tryz.func33 rfl Tryz.ntmps33 rfl fun E hM => ?_
 refine cr fun K1 hK1 => ?_
 refine s0 (rd_assign' rfl) ?_
 refine nk hK1 ?_
 refine cr fun K2 hK2 => ?_
 refine s0 (rd_move' rfl) ?_
 refine s0 (rd_move' rfl) ?_
 refine s0 (rd_nilck' rfl) ?_
 refine s0 (rd_field0' rfl Tryz.underlying115 rfl info113 rfl) ?_
 refine s0 (rd_field0' rfl Tryz.underlying113 rfl info108 rfl) ?_
 refine s0 (rd_field0' rfl Tryz.underlying108 rfl info105 rfl) ?_
 refine s0 (rd_field' (off := 3) rfl Tryz.underlying105 rfl info3 rfl) ?_
 refine sx_ox' (ox_store' (i := 0) (o := 3) rfl rfl (lv_vl rfl rfl) ⟨rfl, rfl, rfl, rfl⟩ rfl info3 rfl (H' := [⟨.pointer (some wa0), [(Vi a0_0), (Vi a0_1), (Sl Kf a0_2), (Vi a1), Vn], 115, none⟩]) rfl) (wt_none' rfl) fun _ => ?_
 refine nk hK2 ?_
 refine cr fun K3 hK3 => ?_
 refine s0 (rd_move' rfl) ?_
 refine s0 (rd_assign' rfl) ?_
 refine nk hK3 ?_
 refine cx_retc' ?_
 replace hp := Option.some.inj hp
 subst hp
 refine tx_pick' (L' := [(4, (Vp wa0))]) (H' := [⟨.pointer (some wa0), [(Vi a0_0), (Vi a0_1), (Sl Kf a0_2), (Vi a1), Vn], 115, none⟩]) [0] (sub_cons rfl sub_nil) (by decide) (pick_cons rfl pick_nil) ?_
 exact tx_ret1' Tryz.results33 rfl () (rv_tmp' rfl) (List.Sublist.refl _)

def gogeom_NewPolygonFlat_v2 (k : Nat) (a0 : Int) (a1 : List Nat) (a2 : List Int) : Option (Int × Int × (List Nat) × Int × (List Int)) :=
 (gogeom_Layout_Stride k a0) >>= fun r18 =>
 some (a0, r18, a1, 0, a2)

theorem gogeom_NewPolygonFlat_v2_sim {k : Nat}  (a0 : Int) (a1 : List Nat) (a2 : List Int) {out : Int × Int × (List Nat) × Int × (List Int)} (hp : gogeom_NewPolygonFlat_v2 k a0 a1 a2 = some out) : Sx.Fn Tryz.prog 31 [(Vi a0), (Sl Kf a1), (Sl (Ki .i64) a2)] [] (fun w : Addr => (Vp w)) (fun w => [⟨.pointer (some w), [(Vi out.1), (Vi out.2.1), (Sl Kf out.2.2.1), (Vi out.2.2.2.1), (Sl (Ki .i64) out.2.2.2.2)], 115, none⟩]) := by
 unfold gogeom_NewPolygonFlat_v2 at hp
 refine fn_of Tryz.func31 rfl Tryz.ntmps31 rfl fun E hM => ?_
 refine cr fun K1 hK1 => ?_
 refine s0 (rd_assign' rfl) ?_
 refine nk hK1 ?_
 refine cr fun K2 hK2 => ?_
 refine sx_ox' (ox_alloc' info115 rfl rfl rfl rfl (l := [(Vi 0), (Vi 0), Vn, (Vi 0), Vn]) rfl) (wt_none' rfl) fun q8 => ?_
 refine s0 (rd_assign' rfl) ?_
 refine nk hK2 ?_
 refine cr fun K3 hK3 => ?_
 refine s0 (rd_move' rfl) ?_
 refine s0 (rd_move' rfl) ?_
 refine s0 (rd_nilck' rfl) ?_
 refine s0 (rd_field0' rfl Tryz.underlying115 rfl info113 rfl) ?_
 refine s0 (rd_field0' rfl Tryz.underlying113 rfl info108 rfl) ?_
 refine s0 (rd_field0' rfl Tryz.underlying108 rfl info105 rfl) ?_
 refine s0 (rd_field0' rfl Tryz.underlying105 rfl info54 rfl) ?_
 refine sx_ox' (ox_store' (i := 0) (o := 0) rfl rfl (lv_vl rfl rfl) ⟨rfl, rfl, rfl, rfl⟩ rfl info54 rfl (H' := [⟨.pointer (some q8), [(Vi a0), (Vi 0), Vn, (Vi 0), Vn], 115, none⟩]) rfl) (wt_none' rfl) fun _ => ?_
 refine nk hK3 ?_
 refine cr fun K4 hK4 => ?_
 refine s0 (rd_move' rfl) ?_
 refine s0 (rd_move' rfl) ?_
 obtain ⟨r18, hr18, hp⟩ := bind_some hp
 refine sx_ox' (ox_calln' (ent_fn' Tryz.func61 isn61 rfl rfl) (gogeom_Layout_Stride_sim _ hr18 : Sx.Fn Tryz.prog 61 [(Vi a0)] [] (fun x : Unit => (Vi r18)) (fun x => [])) (Hn := fun x : Unit => [⟨.pointer (some q8), [(Vi a0), (Vi 0), Vn, (Vi 0), Vn], 115, none⟩]) (fun _ => rfl) rfl rfl) (wt_none' rfl) fun ⟨⟩ => ?_
 refine s0 (rd_nilck' rfl) ?_
 refine s0 (rd_field0' rfl Tryz.underlying115 rfl info113 rfl) ?_
 refine s0 (rd_field0' rfl Tryz.underlying113 rfl info108 rfl) ?_
 refine s0 (rd_field0' rfl Tryz.underlying108 rfl info105 rfl) ?_
 refine s0 (rd_field' (off := 1) rfl Tryz.underlying105 rfl info3 rfl) ?_
 refine sx_ox' (ox_store' (i := 0) (o := 1) rfl rfl (lv_vl rfl rfl) ⟨rfl, rfl, rfl, rfl⟩ rfl info3 rfl (H' := [⟨.pointer (some q8), [(Vi a0), (Vi r18), Vn, (Vi 0), Vn], 115, none⟩]) rfl) (wt_none' rfl) fun _ => ?_
 refine nk hK4 ?_
 refine cr fun K5 hK5 => ?_
 refine s0 (rd_move' rfl) ?_
 refine s0 (rd_move' rfl) ?_
 refine s0 (rd_nilck' rfl) ?_
 refine s0 (rd_field0' rfl Tryz.underlying115 rfl info113 rfl) ?_
 refine s0 (rd_field0' rfl Tryz.underlying113 rfl info108 rfl) ?_
 refine s0 (rd_field0' rfl Tryz.underlying108 rfl info105 rfl) ?_
 refine s0 (rd_field' (off := 2) rfl Tryz.underlying105 rfl info22 rfl) ?_
 refine sx_ox' (ox_store' (i := 0) (o := 2) rfl rfl (lv_sl _ _) ⟨rfl, rfl, rfl, rfl⟩ rfl info22 rfl (H' := [⟨.pointer (some q8), [(Vi a0), (Vi r18), (Sl Kf a1), (Vi 0), Vn], 115, none⟩]) rfl) (wt_none' rfl) fun _ => ?_
 refine nk hK5 ?_
 refine cr fun K6 hK6 => ?_
 refine s0 (rd_move' rfl) ?_
 refine s0 (rd_move' rfl) ?_
 refine s0 (rd_nilck' rfl) ?_
 refine s0 (rd_field0' rfl Tryz.underlying115 rfl info113 rfl) ?_
 refine s0 (rd_field' (off := 4) rfl Tryz.underlying113 rfl info23 rfl) ?_
 refine sx_ox' (ox_store' (i := 0) (o := 4) rfl rfl (lv_sl _ _) ⟨rfl, rfl, rfl, rfl⟩ rfl info23 rfl (H' := [⟨.pointer (some q8), [(Vi a0), (Vi r18), (Sl Kf a1), (Vi 0), (Sl (Ki .i64) a2)], 115, none⟩]) rfl) (wt_none' rfl) fun _ => ?_
 refine nk hK6 ?_
 refine cr fun K7 hK7 => ?_
 refine s0 (rd_move' rfl) ?_
 refine s0 (rd_assign' rfl) ?_
 refine nk hK7 ?_
 refine cx_retc' ?_
 replace hp := Option.some.inj hp
 subst hp
 refine tx_pick' (L' := [(6, (Vp q8))]) (H' := [⟨.pointer (some q8), [(Vi a0), (Vi r18), (Sl Kf a1), (Vi 0), (Sl (Ki .i64) a2)], 115, none⟩]) [0] (sub_cons rfl sub_nil) (by decide) (pick_cons rfl pick_nil) ?_
 exact tx_ret1' Tryz.results31 rfl q8 (rv_tmp' rfl) (List.Sublist.refl _)

def gogeom_Polygon_SetSRID_v2 (k : Nat) (a0_0 : Int) (a0_1 : Int) (a0_2 : List Nat) (a0_3 : Int) (a0_4 : List Int) (a1 : Int) : Option (Int × Int × (List Nat) × Int × (List Int)) :=
 some (a0_0, a0_1, a0_2, a1, a0_4)

theorem gogeom_Polygon_SetSRID_v2_sim {k : Nat} {wa0 : Addr} (a0_0 : Int) (a0_1 : Int) (a0_2 : List Nat) (a0_3 : Int) (a0_4 : List Int) (a1 : Int) {out : Int × Int × (List Nat) × Int × (List Int)} (hp : gogeom_Polygon_SetSRID_v2 k a0_0 a0_1 a0_2 a0_3 a0_4 a1 = some out) : Sx.Fn Tryz.prog 33 [(Vp wa0), (Vi a1)] [⟨.pointer (some wa0), [(Vi a0_0), (Vi a0_1), (Sl Kf a0_2), (Vi a0_3), (Sl (Ki .i64) a0_4)], 115, none⟩] (fun w : Unit => (Vp wa0)) (fun w => [⟨.pointer (some wa0), [(Vi out.1), (Vi out.2.1), (Sl Kf out.2.2.1), (Vi out.2.2.2.1), (Sl (Ki .i64) out.2.2.2.2)], 115, none⟩]) := by
 unfold gogeom_Polygon_SetSRID_v2 at hp
 refine fn_of Tryz.func33 rfl Tryz.ntmps33 rfl fun E hM => ?_
 refine cr fun K1 hK1 => ?_
 refine s0 (rd_assign' rfl) ?_
 refine nk hK1 ?_
 refine cr fun K2 hK2 => ?_
 refine s0 (rd_move' rfl) ?_
 refine s0 (rd_move' rfl) ?_
 refine s0 (rd_nilck' rfl) ?_
 refine s0 (rd_field0' rfl Tryz.underlying115 rfl info113 rfl) ?_
 refine s0 (rd_field0' rfl Tryz.underlying113 rfl info108 rfl) ?_
 refine s0 (rd_field0' rfl Tryz.underlying108 rfl info105 rfl) ?_
 refine s0 (rd_field' (off := 3) rfl Tryz.underlying105 rfl info3 rfl) ?_
 refine sx_ox' (ox_store' (i := 0) (o := 3) rfl rfl (lv_vl rfl rfl) ⟨rfl, rfl, rfl, rfl⟩ rfl info3 rfl (H' := [⟨.pointer (some wa0), [(Vi a0_0), (Vi a0_1), (Sl Kf a0_2), (Vi a1), (Sl (Ki .i64) a0_4)], 115, none⟩]) rfl) (wt_none' rfl) fun _ => ?_
 refine nk hK2 ?_
 refine cr fun K3 hK3 => ?_
 refine s0 (rd_move' rfl) ?_
 refine s0 (rd_assign' rfl) ?_
 refine nk hK3 ?_
 refine cx_retc' ?_
 replace hp := Option.some.inj hp
 subst hp
 refine tx_pick' (L' := [(4, (Vp wa0))]) (H' := [⟨.pointer (some wa0), [(Vi a0_0), (Vi a0_1), (Sl Kf a0_2), (Vi a1), (Sl (Ki .i64) a0_4)], 115, none⟩]) [0] (sub_cons rfl sub_nil) (by decide) (pick_cons rfl pick_nil) ?_
 exact tx_ret1' Tryz.results33 rfl () (rv_tmp' rfl) (List.Sublist.refl _)

def gogeom_NewMultiPointFlatOptionWithEnds (k : Nat)  : Option (Unit) :=
 some ()

theorem gogeom_NewMultiPointFlatOptionWithEnds_sim {k : Nat}   {out : Unit} (hp : gogeom_NewMultiPointFlatOptionWithEnds k = some out) : Sx.Fn Tryz.prog 35 [Vn] [] (fun w : Addr => (Vl (.func (.func 62) #[] ⟨[.pointer (some w)]⟩))) (fun w => [⟨.pointer (some w), [Vn], 23, none⟩]) := by
 unfold gogeom_NewMultiPointFlatOptionWithEnds at hp
 refine fn_of Tryz.func35 rfl Tryz.ntmps35 rfl fun E hM => ?_
 refine cr fun K1 hK1 => ?_
 refine sx_ox' (ox_box' rfl (lv_vl rfl rfl) rfl rfl) (wt_none' rfl) fun q1 => ?_
 refine s0 (rd_assign' rfl) ?_
 refine nk hK1 ?_
 refine cr fun K2 hK2 => ?_
 refine s0 (rd_mkfunc' (us := [.pointer (some q1)]) rfl) ?_
 refine s0 (rd_assign' rfl) ?_
 refine nk hK2 ?_
 refine cx_retc' ?_
 replace hp := Option.some.inj hp
 subst hp
 refine tx_pick' (L' := [(2, (Vl (.func (.func 62) #[] ⟨[.pointer (some q1)]⟩)))]) (H' := [⟨.pointer (some q1), [Vn], 23, none⟩]) [0] (sub_cons rfl sub_nil) (by decide) (pick_cons rfl pick_nil) ?_
 exact tx_ret1' Tryz.results35 rfl q1 (rv_tmp' rfl) (List.Sublist.refl _)

def gogeom_NewMultiPointFlatOptionWithEnds_1 (k : Nat) (a0_0 : Int) (a0_1 : Int) (a0_2 : List Nat) (a0_3 : Int) : Option (Int × Int × (List Nat) × Int) :=
 some (a0_0, a0_1, a0_2, a0_3)

theorem gogeom_NewMultiPointFlatOptionWithEnds_1_sim {k : Nat} {wa0 : Addr} {wa1 : Addr} (a0_0 : Int) (a0_1 : Int) (a0_2 : List Nat) (a0_3 : Int) {out : Int × Int × (List Nat) × Int} (hp : gogeom_NewMultiPointFlatOptionWithEnds_1 k a0_0 a0_1 a0_2 a0_3 = some out) : Sx.Fn Tryz.prog 62 [(Vp wa0), (Vp wa1)] [⟨.pointer (some wa0), [(Vi a0_0), (Vi a0_1), (Sl Kf a0_2), (Vi a0_3), Vn], 117, none⟩, ⟨.pointer (some wa1), [Vn], 23, none⟩] (fun w : Unit => (Vl (.tuple #[]))) (fun w => [⟨.pointer (some wa0), [(Vi out.1), (Vi out.2.1), (Sl Kf out.2.2.1), (Vi out.2.2.2), Vn], 117, none⟩, ⟨.pointer (some wa1), [Vn], 23, none⟩]) := by
 unfold gogeom_NewMultiPointFlatOptionWithEnds_1 at hp
 refine fn_of Tryz.func62 rfl Tryz.ntmps62 rfl fun E hM => ?_
 refine cx_region' ?_
 refine s0 (rd_move' rfl) ?_
 refine s0 (rd_load' (i := 1) (o := 0) rfl ⟨rfl, rfl, rfl, rfl⟩ rfl flat23) ?_
 refine s0 (rd_nilck' rfl) ?_
 refine s0 (rd_field0' rfl Tryz.underlying117 rfl info113 rfl) ?_
 refine s0 (rd_field' (off := 4) rfl Tryz.underlying113 rfl info23 rfl) ?_
 refine sx_ox' (ox_store' (i := 0) (o := 4) rfl rfl (lv_vl rfl rfl) ⟨rfl, rfl, rfl, rfl⟩ rfl info23 rfl (H' := [⟨.pointer (some wa0), [(Vi a0_0), (Vi a0_1), (Sl Kf a0_2), (Vi a0_3), Vn], 117, none⟩, ⟨.pointer (some wa1), [Vn], 23, none⟩]) rfl) (wt_none' rfl) fun _ => ?_
 refine sx_nil' ?_
 replace hp := Option.some.inj hp
 subst hp
 refine tx_pick' (L' := []) (H' := [⟨.pointer (some wa0), [(Vi a0_0), (Vi a0_1), (Sl Kf a0_2), (Vi a0_3), Vn], 117, none⟩, ⟨.pointer (some wa1), [Vn], 23, none⟩]) [0, 1] sub_nil (by decide) (pick_cons rfl (pick_cons rfl pick_nil)) ?_
 exact tx_end0' Tryz.results62 rfl () rfl (List.Sublist.refl _)

def gogeom_NewMultiPointFlat_j2 (k : Nat) (r901 : Int × Int × (List Nat) × Int) (x5 : List Int) : Option (Int × Int × (List Nat) × Int × (List Int)) :=
 some (r901.1, r901.2.1, r901.2.2.1, r901.2.2.2, x5)
def gogeom_NewMultiPointFlat_l1s (x1 : Int) (r901 : Int × Int × (List Nat) × Int) (k : Nat) (rec1 : ((List Int) × Int) → Option ((List Int))) (x2 : List Int) (x3 : Int) : Option ((List Int)) :=
 br (decide (x3 < x1))
  ((idx x2 x3) >>= fun r106 =>
  rec1 ((x2.set x3.toNat (imul .i64 (iadd .i64 x3 1) r901.2.1)), (iadd .i64 x3 1)))
  (some x2)
def gogeom_NewMultiPointFlat_l1 (x1 : Int) (r901 : Int × Int × (List Nat) × Int) : Nat → ((List Int) × Int) → Option ((List Int))
 | 0, _ => none
 | k + 1, v => gogeom_NewMultiPointFlat_l1s x1 r901 k (gogeom_NewMultiPointFlat_l1 x1 r901 k) v.1 v.2
def gogeom_NewMultiPointFlat_j1 (k : Nat) (r901 : Int × Int × (List Nat) × Int) (x1 : Int) : Option (Int × Int × (List Nat) × Int × (List Int)) :=
 (mk 8 0 x1 x1) >>= fun r82 =>
 (gogeom_NewMultiPointFlat_l1 x1 r901 k (r82, 0)) >>= fun v3 =>
 gogeom_NewMultiPointFlat_j2 k r901 v3
def gogeom_NewMultiPointFlat (k : Nat) (a0 : Int) (a1 : List Nat) : Option (Int × Int × (List Nat) × Int × (List Int)) :=
 (gogeom_Layout_Stride k a0) >>= fun r22 =>
 (gogeom_NewMultiPointFlatOptionWithEnds_1 k a0 r22 a1 0) >>= fun r901 =>
 br (decide (0 < (r901.2.2.1.length : Int)))
  (br (decide (0 < r901.2.1))
   ((iquo .i64 (a1.length : Int) r901.2.1) >>= fun r79 =>
   gogeom_NewMultiPointFlat_j1 k r901 r79)
   (gogeom_NewMultiPointFlat_j1 k r901 0))
  (gogeom_NewMultiPointFlat_j2 k r901 [])

theorem gogeom_NewMultiPointFlat_sim {k : Nat} {wa2 : Addr} {wa2_0_0 : Addr} (a0 : Int) (a1 : List Nat) {out : Int × Int × (List Nat) × Int × (List Int)} (hp : gogeom_NewMultiPointFlat k a0 a1 = some out) : Sx.Fn Tryz.prog 34 [(Vi a0), (Sl Kf a1), (Vl (.slice (some wa2) 1 1))] [⟨.slice (some wa2) 1 1, [(Vl (.func (.func 62) #[] ⟨[.pointer (some wa2_0_0)]⟩))], 67, some 1⟩, ⟨.pointer (some wa2_0_0), [Vn], 23, none⟩] (fun w : Addr × Gs => (Vp w.1)) (fun w => [⟨.pointer (some wa2_0_0), [Vn], 23, none⟩, ⟨.pointer (some w.1), [(Vi out.1), (Vi out.2.1), (Sl Kf out.2.2.1), (Vi out.2.2.2.1), (Vl (Vs w.2))], 117, none⟩, (Rw (Ki .i64) 3 (Vs w.2) out.2.2.2.2)]) := by
 unfold gogeom_NewMultiPointFlat at hp
 refine fn_of Tryz.func34 rfl Tryz.ntmps34 rfl fun E hM => ?_
 refine cr fun K1 hK1 => ?_
 refine s0 (rd_assign' rfl) ?_
 refine nk hK1 ?_
 refine cr fun K2 hK2 => ?_
 refine sx_ox' (ox_alloc' info117 rfl rfl rfl rfl (l := [(Vi 0), (Vi 0), Vn, (Vi 0), Vn]) rfl) (wt_none' rfl) fun q12 => ?_
 refine s0 (rd_assign' rfl) ?_
 refine nk hK2 ?_
 refine cr fun K3 hK3 => ?_
 refine s0 (rd_move' rfl) ?_
 refine s0 (rd_move' rfl) ?_
 refine s0 (rd_nilck' rfl) ?_
 refine s0 (rd_field0' rfl Tryz.underlying117 rfl info113 rfl) ?_
 refine s0 (rd_field0' rfl Tryz.underlying113 rfl info108 rfl) ?_
 refine s0 (rd_field0' rfl Tryz.underlying108 rfl info105 rfl) ?_
 refine s0 (rd_field0' rfl Tryz.underlying105 rfl info54 rfl) ?_
 refine sx_ox' (ox_store' (i := 0) (o := 0) rfl rfl (lv_vl rfl rfl) ⟨rfl, rfl, rfl, rfl⟩ rfl info54 rfl (H' := [⟨.pointer (some q12), [(Vi a0), (Vi 0), Vn, (Vi 0), Vn], 117, none⟩, ⟨.slice (some wa2) 1 1, [(Vl (.func (.func 62) #[] ⟨[.pointer (some wa2_0_0)]⟩))], 67, some 1⟩, ⟨.pointer (some wa2_0_0), [Vn], 23, none⟩]) rfl) (wt_none' rfl) fun _ => ?_
 refine nk hK3 ?_
 refine cr fun K4 hK4 => ?_
 refine s0 (rd_move' rfl) ?_
 refine s0 (rd_move' rfl) ?_
 obtain ⟨r22, hr22, hp⟩ := bind_some hp
 refine sx_ox' (ox_calln' (ent_fn' Tryz.func61 isn61 rfl rfl) (gogeom_Layout_Stride_sim _ hr22 : Sx.Fn Tryz.prog 61 [(Vi a0)] [] (fun x : Unit => (Vi r22)) (fun x => [])) (Hn := fun x : Unit => [⟨.pointer (some q12), [(Vi a0), (Vi 0), Vn, (Vi 0), Vn], 117, none⟩, ⟨.slice (some wa2) 1 1, [(Vl (.func (.func 62) #[] ⟨[.pointer (some wa2_0_0)]⟩))], 67, some 1⟩, ⟨.pointer (some wa2_0_0), [Vn], 23, none⟩]) (fun _ => rfl) rfl rfl) (wt_none' rfl) fun ⟨⟩ => ?_
 refine s0 (rd_nilck' rfl) ?_
 refine s0 (rd_field0' rfl Tryz.underlying117 rfl info113 rfl) ?_
 refine s0 (rd_field0' rfl Tryz.underlying113 rfl info108 rfl) ?_
 refine s0 (rd_field0' rfl Tryz.underlying108 rfl info105 rfl) ?_
 refine s0 (rd_field' (off := 1) rfl Tryz.underlying105 rfl info3 rfl) ?_
 refine sx_ox' (ox_store' (i := 0) (o := 1) rfl rfl (lv_vl rfl rfl) ⟨rfl, rfl, rfl, rfl⟩ rfl info3 rfl (H' := [⟨.pointer (some q12), [(Vi a0), (Vi r22), Vn, (Vi 0), Vn], 117, none⟩, ⟨.slice (some wa2) 1 1, [(Vl (.func (.func 62) #[] ⟨[.pointer (some wa2_0_0)]⟩))], 67, some 1⟩, ⟨.pointer (some wa2_0_0), [Vn], 23, none⟩]) rfl) (wt_none' rfl) fun _ => ?_
 refine nk hK4 ?_
 refine cr fun K5 hK5 => ?_
 refine s0 (rd_move' rfl) ?_
 refine s0 (rd_move' rfl) ?_
 refine s0 (rd_nilck' rfl) ?_
 refine s0 (rd_field0' rfl Tryz.underlying117 rfl info113 rfl) ?_
 refine s0 (rd_field0' rfl Tryz.underlying113 rfl info108 rfl) ?_
 refine s0 (rd_field0' rfl Tryz.underlying108 rfl info105 rfl) ?_
 refine s0 (rd_field' (off := 2) rfl Tryz.underlying105 rfl info22 rfl) ?_
 refine sx_ox' (ox_store' (i := 0) (o := 2) rfl rfl (lv_sl _ _) ⟨rfl, rfl, rfl, rfl⟩ rfl info22 rfl (H' := [⟨.pointer (some q12), [(Vi a0), (Vi r22), (Sl Kf a1), (Vi 0), Vn], 117, none⟩, ⟨.slice (some wa2) 1 1, [(Vl (.func (.func 62) #[] ⟨[.pointer (some wa2_0_0)]⟩))], 67, some 1⟩, ⟨.pointer (some wa2_0_0), [Vn], 23, none⟩]) rfl) (wt_none' rfl) fun _ => ?_
 refine nk hK5 ?_
 refine cx_seq' fun K6 hK6 => ?_
 refine cr fun K7 hK7 => ?_
 refine s0 (rd_move' rfl) ?_
 refine s0 (rd_lenv' rfl Tryz.underlying116) ?_
 refine s0 (rd_move' rfl) ?_
 refine nk hK7 ?_
 refine cx_block' ?_
 refine tx_loop' ?_
 refine tx_round' ?_
 refine cr fun K8 hK8 => ?_
 refine s0 (rd_bin' rfl rfl eg_int ru_lss) ?_
 refine nk hK8 ?_
 refine cx_seq' fun K9 hK9 => ?_
 refine cx_cond_t' rfl rfl ?_
 refine cx_skip' ?_
 show TX E K9 _
 refine tx_k' hK9 ?_
 refine cx_seq' fun K10 hK10 => ?_
 refine cx_block' ?_
 refine cr fun K11 hK11 => ?_
 refine s0 (rd_atv' rfl rfl (by decide) (by decide) Tryz.underlying116 info67) ?_
 refine s0 (rd_load_row' (i := 1) (o := 0) rfl ⟨rfl, rfl, rfl⟩ rfl flat67) ?_
 refine s0 (rd_assign' rfl) ?_
 refine nk hK11 ?_
 refine cx_region' ?_
 refine s0 (rd_move' rfl) ?_
 refine s0 (rd_move' rfl) ?_
 obtain ⟨r901, hr901, hp⟩ := bind_some hp
 refine sx_ox' (ox_callg' (ent_clo' (us := [.pointer (some wa2_0_0)]) rfl Tryz.func62 isn62 rfl rfl) (gogeom_NewMultiPointFlatOptionWithEnds_1_sim _ _ _ _ hr901 : Sx.Fn Tryz.prog 62 [(Vp q12), (Vp wa2_0_0)] [⟨.pointer (some q12), [(Vi a0), (Vi r22), (Sl Kf a1), (Vi 0), Vn], 117, none⟩, ⟨.pointer (some wa2_0_0), [Vn], 23, none⟩] (fun x : Unit => (Vl (.tuple #[]))) (fun x => [⟨.pointer (some q12), [(Vi r901.1), (Vi r901.2.1), (Sl Kf r901.2.2.1), (Vi r901.2.2.2), Vn], 117, none⟩, ⟨.pointer (some wa2_0_0), [Vn], 23, none⟩])) [0, 2] [1] (by decide) (pick_cons rfl (pick_cons rfl pick_nil)) (pick_cons rfl pick_nil) (Hn := fun x : Unit => [⟨.pointer (some q12), [(Vi r901.1), (Vi r901.2.1), (Sl Kf r901.2.2.1), (Vi r901.2.2.2), Vn], 117, none⟩, ⟨.pointer (some wa2_0_0), [Vn], 23, none⟩, ⟨.slice (some wa2) 1 1, [(Vl (.func (.func 62) #[] ⟨[.pointer (some wa2_0_0)]⟩))], 67, some 1⟩]) (fun _ => rfl) rfl rfl) (wt_none' rfl) fun ⟨⟩ => ?_
 refine nk hK10 ?_
 refine cx_region' ?_
 refine s0 (rd_bin' rfl rfl eg_int (ru_addc (c := 1) (by decide))) ?_
 refine s0 (rd_move' rfl) ?_
 refine sx_nil' ?_
 show TX E (LoopIn _ _ _) _
 refine tx_round' ?_
 refine cr fun K12 hK12 => ?_
 refine s0 (rd_bin' rfl rfl eg_int ru_lss) ?_
 refine nk hK12 ?_
 refine cx_seq' fun K13 hK13 => ?_
 refine cx_cond_f' rfl rfl ?_
 refine cx_exit' ?_
 show TX E K6 _
 refine tx_k' hK6 ?_
 refine cx_join' (fun (v4 : (List Int) × Gs) => (⟨109, [], [(7, (Vp q12))], [⟨.pointer (some q12), [(Vi r901.1), (Vi r901.2.1), (Sl Kf r901.2.2.1), (Vi r901.2.2.2), (Vl (Vs v4.2))], 117, none⟩, (Rw (Ki .i64) 3 (Vs v4.2) v4.1), ⟨.pointer (some wa2_0_0), [Vn], 23, none⟩]⟩ : St)) (fun (v4 : (List Int) × Gs) => gogeom_NewMultiPointFlat_j2 k r901 v4.1 = some out) ?_ ?_
 ·rintro ⟨x5, g901⟩ hp
  replace hp : gogeom_NewMultiPointFlat_j2 k r901 x5 = some out := hp
  unfold gogeom_NewMultiPointFlat_j2 at hp
  refine cr fun K29 hK29 => ?_
  refine s0 (rd_move' rfl) ?_
  refine s0 (rd_assign' rfl) ?_
  refine nk hK29 ?_
  refine cx_retc' ?_
  replace hp := Option.some.inj hp
  subst hp
  refine tx_pick' (L' := [(6, (Vp q12))]) (H' := [⟨.pointer (some wa2_0_0), [Vn], 23, none⟩, ⟨.pointer (some q12), [(Vi r901.1), (Vi r901.2.1), (Sl Kf r901.2.2.1), (Vi r901.2.2.2), (Vl (Vs g901))], 117, none⟩, (Rw (Ki .i64) 3 (Vs g901) x5)]) [2, 0, 1] (sub_cons rfl sub_nil) (by decide) (pick_cons rfl (pick_cons rfl (pick_cons rfl pick_nil))) ?_
  exact tx_ret1' Tryz.results34 rfl (q12, g901) (rv_tmp' rfl) (List.Sublist.refl _)
 intro K14 hK14
 refine cr fun K15 hK15 => ?_
 refine s0 (rd_move' rfl) ?_
 refine s0 (rd_nilck' rfl) ?_
 refine s0 (rd_field0' rfl Tryz.underlying117 rfl info113 rfl) ?_
 refine s0 (rd_field' (off := 4) rfl Tryz.underlying113 rfl info23 rfl) ?_
 refine s0 (rd_load' (i := 0) (o := 4) rfl ⟨rfl, rfl, rfl, rfl⟩ rfl flat23) ?_
 refine s0 (rd_binf' rfl rfl (bf_vl (fun _ => by kernel_rfl) nil_eql23_nilsl)) ?_
 refine s0 (rd_move' rfl) ?_
 refine sx_rd' (rd_move' rfl) rfl rfl (wt_is' (wt_guard' rfl rfl rfl) (beq_tt rfl)) ?_
 refine sx_rd' (rd_nilck' rfl) rfl rfl (wt_is' (wt_guard' rfl rfl rfl) (beq_tt rfl)) ?_
 refine sx_rd' (rd_field0' rfl Tryz.underlying117 rfl info113 rfl) rfl rfl (wt_is' (wt_guard' rfl rfl rfl) (beq_tt rfl)) ?_
 refine sx_rd' (rd_field0' rfl Tryz.underlying113 rfl info108 rfl) rfl rfl (wt_is' (wt_guard' rfl rfl rfl) (beq_tt rfl)) ?_
 refine sx_rd' (rd_field0' rfl Tryz.underlying108 rfl info105 rfl) rfl rfl (wt_is' (wt_guard' rfl rfl rfl) (beq_tt rfl)) ?_
 refine sx_rd' (rd_field' (off := 2) rfl Tryz.underlying105 rfl info22 rfl) rfl rfl (wt_is' (wt_guard' rfl rfl rfl) (beq_tt rfl)) ?_
 refine sx_rd' (rd_load' (i := 0) (o := 2) rfl ⟨rfl, rfl, rfl, rfl⟩ rfl flat22) rfl rfl (wt_is' (wt_guard' rfl rfl rfl) (beq_tt rfl)) ?_
 refine sx_rd' (rd_len' rfl Tryz.underlying22) rfl rfl (wt_is' (wt_guard' rfl rfl rfl) (beq_tt rfl)) ?_
 refine sx_rd' (rd_bin' rfl rfl eg_int ru_gtr) rfl rfl (wt_is' (wt_guard' rfl rfl rfl) (beq_tt rfl)) ?_
 refine s0 (rd_pick_true' rfl rfl rfl) ?_
 refine nk hK15 ?_
 refine cx_cond' rfl (fun h1 => ?_) (fun h1 => ?_)
 ·replace hp := (br_t h1).symm.trans hp
  refine cr fun K16 hK16 => ?_
  refine s0 (rd_assign' rfl) ?_
  refine nk hK16 ?_
  refine cx_join' (fun (v1 : Int) => (⟨109, [], [(7, (Vp q12)), (10, (Vi v1))], [⟨.pointer (some q12), [(Vi r901.1), (Vi r901.2.1), (Sl Kf r901.2.2.1), (Vi r901.2.2.2), Vn], 117, none⟩, ⟨.pointer (some wa2_0_0), [Vn], 23, none⟩]⟩ : St)) (fun (v1 : Int) => gogeom_NewMultiPointFlat_j1 k r901 v1 = some out) ?_ ?_
  ·rintro x1 hp
   replace hp : gogeom_NewMultiPointFlat_j1 k r901 x1 = some out := hp
   unfold gogeom_NewMultiPointFlat_j1 at hp
   refine cr fun K19 hK19 => ?_
   refine s0 (rd_move' rfl) ?_
   refine s0 (rd_move' rfl) ?_
   obtain ⟨r82, hr82, hp⟩ := bind_some hp
   refine sx_ox' (ox_make' (K := (Ki .i64)) rfl rfl hr82 rfl Tryz.underlying23 info3 rfl rfl rfl rfl rfl) (wt_none' rfl) fun g82 => ?_
   refine s0 (rd_nilck' rfl) ?_
   refine s0 (rd_field0' rfl Tryz.underlying117 rfl info113 rfl) ?_
   refine s0 (rd_field' (off := 4) rfl Tryz.underlying113 rfl info23 rfl) ?_
   refine sx_ox' (ox_store' (i := 1) (o := 4) rfl rfl (lv_vl rfl rfl) ⟨rfl, rfl, rfl, rfl⟩ rfl info23 rfl (H' := [(Rw (Ki .i64) 3 (Vs g82) r82), ⟨.pointer (some q12), [(Vi r901.1), (Vi r901.2.1), (Sl Kf r901.2.2.1), (Vi r901.2.2.2), (Vl (Vs g82))], 117, none⟩, ⟨.pointer (some wa2_0_0), [Vn], 23, none⟩]) rfl) (wt_none' rfl) fun _ => ?_
   refine nk hK19 ?_
   refine cr fun K20 hK20 => ?_
   refine s0 (rd_move' rfl) ?_
   refine s0 (rd_move' rfl) ?_
   refine nk hK20 ?_
   refine cx_block' ?_
   obtain ⟨v3, hy1, hp⟩ := bind_some hp
   refine cx_loopg' (F := gogeom_NewMultiPointFlat_l1 x1 r901) (G := fun k R v => gogeom_NewMultiPointFlat_l1s x1 r901 k R v.1 v.2) (x := (r82, 0)) (gh := ()) (fun (v2 : (List Int) × Int) (w2 : Unit) => (⟨109, [], [(7, (Vp q12)), (86, (Vi x1)), (87, (Vi v2.2))], [⟨.pointer (some q12), [(Vi r901.1), (Vi r901.2.1), (Sl Kf r901.2.2.1), (Vi r901.2.2.2), (Vl (Vs g82))], 117, none⟩, (Rw (Ki .i64) 3 (Vs g82) v2.1), ⟨.pointer (some wa2_0_0), [Vn], 23, none⟩]⟩ : St)) (fun (v3 : (List Int)) => Zg E (Exit.exit 2) (fun (w3 : Unit) => (⟨109, [], [(7, (Vp q12))], [⟨.pointer (some q12), [(Vi r901.1), (Vi r901.2.1), (Sl Kf r901.2.2.1), (Vi r901.2.2.2), (Vl (Vs g82))], 117, none⟩, (Rw (Ki .i64) 3 (Vs g82) v3), ⟨.pointer (some wa2_0_0), [Vn], 23, none⟩]⟩ : St))) (fun _ => rfl) (fun _ _ => rfl) ?_ hy1 (tx_to' rfl [1, 0, 2] (sub_cons rfl (sub_cons rfl (sub_cons rfl sub_nil))) (by decide) (pick_cons rfl (pick_cons rfl (pick_cons rfl pick_nil)))) ?_
   ·clear hp hy1
    clear v3
    intro k rec1 KY1 ih1
    rintro ⟨x2, x3⟩ ⟨⟩ y1 hp
    replace hp : gogeom_NewMultiPointFlat_l1s x1 r901 k rec1 x2 x3 = some y1 := hp
    unfold gogeom_NewMultiPointFlat_l1s at hp
    refine cr fun K25 hK25 => ?_
    refine s0 (rd_bin' rfl rfl eg_int ru_lss) ?_
    refine nk hK25 ?_
    refine cx_seq' fun K26 hK26 => ?_
    refine cx_cond' rfl (fun h5 => ?_) (fun h5 => ?_)
    ·replace hp := (br_t h5).symm.trans hp
     refine cx_skip' ?_
     show TX E K26 _
     refine tx_k' hK26 ?_
     refine cx_seq' fun K27 hK27 => ?_
     refine cx_block' ?_
     refine cr fun K28 hK28 => ?_
     refine s0 (rd_move' rfl) ?_
     refine s0 (rd_assign' rfl) ?_
     refine nk hK28 ?_
     refine cx_plan' [] [(17, 1)] [(0, 1), (1, 1), (2, 1), (3, 1), (4, 1), (5, 1), (6, 1), (7, 1), (8, 1), (9, 1), (10, 1), (11, 1), (12, 1), (13, 1), (14, 1), (15, 1), (16, 1), (17, 0)] mixed (by kernel_rfl) ?_
     refine px_rd' rfl (rd_move' rfl) rfl rfl (wt_none' rfl) ?_
     refine px_rd' rfl (rd_nilck' rfl) rfl rfl (wt_none' rfl) ?_
     refine px_rd' rfl (rd_field0' rfl Tryz.underlying117 rfl info113 rfl) rfl rfl (wt_none' rfl) ?_
     refine px_rd' rfl (rd_field' (off := 4) rfl Tryz.underlying113 rfl info23 rfl) rfl rfl (wt_none' rfl) ?_
     refine px_rd' rfl (rd_load' (i := 0) (o := 4) rfl ⟨rfl, rfl, rfl, rfl⟩ rfl flat23) rfl rfl (wt_none' rfl) ?_
     refine px_rd' rfl (rd_move' rfl) rfl rfl (wt_none' rfl) ?_
     refine px_rd' rfl (rd_move' rfl) rfl rfl (wt_none' rfl) ?_
     refine px_rd' rfl (rd_bin' rfl rfl eg_int ru_add) rfl rfl (wt_none' rfl) ?_
     refine px_rd' rfl (rd_move' rfl) rfl rfl (wt_none' rfl) ?_
     refine px_rd' rfl (rd_nilck' rfl) rfl rfl (wt_none' rfl) ?_
     refine px_rd' rfl (rd_field0' rfl Tryz.underlying117 rfl info113 rfl) rfl rfl (wt_none' rfl) ?_
     refine px_rd' rfl (rd_field0' rfl Tryz.underlying113 rfl info108 rfl) rfl rfl (wt_none' rfl) ?_
     refine px_rd' rfl (rd_field0' rfl Tryz.underlying108 rfl info105 rfl) rfl rfl (wt_none' rfl) ?_
     refine px_rd' rfl (rd_field' (off := 1) rfl Tryz.underlying105 rfl info3 rfl) rfl rfl (wt_none' rfl) ?_
     refine px_rd' rfl (rd_load' (i := 0) (o := 1) rfl ⟨rfl, rfl, rfl, rfl⟩ rfl flat3) rfl rfl (wt_none' rfl) ?_
     refine px_rd' rfl (rd_bin' rfl rfl eg_int ru_mul) rfl rfl (wt_none' rfl) ?_
     obtain ⟨r106, hr106, hp⟩ := bind_some hp
     refine px_rd' rfl (rd_atr' (m := 1) rfl rfl rfl rfl hr106 Tryz.underlying23 info3) rfl rfl (wt_none' rfl) ?_
     refine px_ox' rfl (ox_storer' (m := 1) (i := x3) (j := 0) (x' := (imul .i64 (iadd .i64 x3 1) r901.2.1)) rfl rfl (lv_vl rfl rfl) rfl rfl hr106 rfl rfl rfl info3 rfl (H' := [⟨.pointer (some q12), [(Vi r901.1), (Vi r901.2.1), (Sl Kf r901.2.2.1), (Vi r901.2.2.2), (Vl (Vs g82))], 117, none⟩, (Rw (Ki .i64) 3 (Vs g82) (x2.set x3.toNat (imul .i64 (iadd .i64 x3 1) r901.2.1))), ⟨.pointer (some wa2_0_0), [Vn], 23, none⟩]) rfl) rfl bs_nil (wt_none' rfl) fun _ => ?_
     refine px_nil' ?_
     show TX E K27 _
     refine tx_k' hK27 ?_
     refine cx_region' ?_
     refine s0 (rd_bin' rfl rfl eg_int ru_add) ?_
     refine s0 (rd_move' rfl) ?_
     refine sx_nil' ?_
     show TX E (KY1 _) _
     exact tx_pick' [0, 1, 2] (sub_cons rfl (sub_cons rfl (sub_cons rfl sub_nil))) (by decide) (pick_cons rfl (pick_cons rfl (pick_cons rfl pick_nil))) (ih1 ((x2.set x3.toNat (imul .i64 (iadd .i64 x3 1) r901.2.1)), (iadd .i64 x3 1)) () _ hp)
    replace hp := (br_f h5).symm.trans hp
    refine cx_exit' ?_
    replace hp := Option.some.inj hp
    subst hp
    show TX E (Zg E (Exit.exit 2) _ (Exit.exit 2)) _
    exact tx_zend' () rfl [0, 1, 2] (sub_cons rfl sub_nil) (by decide) (pick_cons rfl (pick_cons rfl (pick_cons rfl pick_nil)))
   refine zg_out fun w3 => ?_
   show TX E K14 _
   exact tx_pick' [0, 1, 2] (sub_cons rfl sub_nil) (by decide) (pick_cons rfl (pick_cons rfl (pick_cons rfl pick_nil))) (hK14 (v3, g82) hp)
  intro K17 hK17
  refine cr fun K18 hK18 => ?_
  refine s0 (rd_move' rfl) ?_
  refine s0 (rd_nilck' rfl) ?_
  refine s0 (rd_field0' rfl Tryz.underlying117 rfl info113 rfl) ?_
  refine s0 (rd_field0' rfl Tryz.underlying113 rfl info108 rfl) ?_
  refine s0 (rd_field0' rfl Tryz.underlying108 rfl info105 rfl) ?_
  refine s0 (rd_field' (off := 1) rfl Tryz.underlying105 rfl info3 rfl) ?_
  refine s0 (rd_load' (i := 0) (o := 1) rfl ⟨rfl, rfl, rfl, rfl⟩ rfl flat3) ?_
  refine s0 (rd_bin' rfl rfl eg_int ru_gtr) ?_
  refine nk hK18 ?_
  refine cx_cond' rfl (fun h2 => ?_) (fun h2 => ?_)
  ·replace hp := (br_t h2).symm.trans hp
   refine cx_region' ?_
   refine s0 (rd_move' rfl) ?_
   refine s0 (rd_len' rfl Tryz.underlying22) ?_
   refine s0 (rd_move' rfl) ?_
   refine s0 (rd_nilck' rfl) ?_
   refine s0 (rd_field0' rfl Tryz.underlying117 rfl info113 rfl) ?_
   refine s0 (rd_field0' rfl Tryz.underlying113 rfl info108 rfl) ?_
   refine s0 (rd_field0' rfl Tryz.underlying108 rfl info105 rfl) ?_
   refine s0 (rd_field' (off := 1) rfl Tryz.underlying105 rfl info3 rfl) ?_
   refine s0 (rd_load' (i := 0) (o := 1) rfl ⟨rfl, rfl, rfl, rfl⟩ rfl flat3) ?_
   obtain ⟨r79, hr79, hp⟩ := bind_some hp
   refine s0 (rd_bin' rfl rfl eg_int (ru_quo hr79)) ?_
   refine s0 (rd_assign' rfl) ?_
   refine sx_nil' ?_
   show TX E K17 _
   exact tx_pick' [0, 1] (sub_cons rfl (sub_cons rfl sub_nil)) (by decide) (pick_cons rfl (pick_cons rfl pick_nil)) (hK17 r79 hp)
  replace hp := (br_f h2).symm.trans hp
  refine cx_skip' ?_
  show TX E K17 _
  exact tx_pick' [0, 1] (sub_cons rfl (sub_cons rfl sub_nil)) (by decide) (pick_cons rfl (pick_cons rfl pick_nil)) (hK17 0 hp)
 replace hp := (br_f h1).symm.trans hp
 refine cx_skip' ?_
 show TX E K14 _
 refine tx_nilrow' (Ki .i64) 3 ?_
 exact tx_pick' [1, 0, 2] (sub_cons rfl sub_nil) (by decide) (pick_cons rfl (pick_cons rfl (pick_cons rfl pick_nil))) (hK14 ([], (none, 0, 0)) hp)

def gogeom_MultiPoint_SetSRID (k : Nat) (a0_0 : Int) (a0_1 : Int) (a0_2 : List Nat) (a0_3 : Int) (a0_4 : List Int) (a1 : Int) : Option (Int × Int × (List Nat) × Int × (List Int)) :=
 some (a0_0, a0_1, a0_2, a1, a0_4)

theorem gogeom_MultiPoint_SetSRID_sim {k : Nat} {wa0 : Addr} {wa0_4 : Gs} (a0_0 : Int) (a0_1 : Int) (a0_2 : List Nat) (a0_3 : Int) (a0_4 : List Int) (a1 : Int) {out : Int × Int × (List Nat) × Int × (List Int)} (hp : gogeom_MultiPoint_SetSRID k a0_0 a0_1 a0_2 a0_3 a0_4 a1 = some out) : Sx.Fn Tryz.prog 36 [(Vp wa0), (Vi a1)] [⟨.pointer (some wa0), [(Vi a0_0), (Vi a0_1), (Sl Kf a0_2), (Vi a0_3), (Vl (Vs wa0_4))], 117, none⟩, (Rw (Ki .i64) 3 (Vs wa0_4) a0_4)] (fun w : Unit => (Vp wa0)) (fun w => [⟨.pointer (some wa0), [(Vi out.1), (Vi out.2.1), (Sl Kf out.2.2.1), (Vi out.2.2.2.1), (Vl (Vs wa0_4))], 117, none⟩, (Rw (Ki .i64) 3 (Vs wa0_4) out.2.2.2.2)]) := by
 unfold gogeom_MultiPoint_SetSRID at hp
 refine fn_of Tryz.func36 rfl Tryz.ntmps36 rfl fun E hM => ?_
 refine cr fun K1 hK1 => ?_
 refine s0 (rd_assign' rfl) ?_
 refine nk hK1 ?_
 refine cr fun K2 hK2 => ?_
 refine s0 (rd_move' rfl) ?_
 refine s0 (rd_move' rfl) ?_
 refine s0 (rd_nilck' rfl) ?_
 refine s0 (rd_field0' rfl Tryz.underlying117 rfl info113 rfl) ?_
 refine s0 (rd_field0' rfl Tryz.underlying113 rfl info108 rfl) ?_
 refine s0 (rd_field0' rfl Tryz.underlying108 rfl info105 rfl) ?_
 refine s0 (rd_field' (off := 3) rfl Tryz.underlying105 rfl info3 rfl) ?_
 refine sx_ox' (ox_store' (i := 0) (o := 3) rfl rfl (lv_vl rfl rfl) ⟨rfl, rfl, rfl, rfl⟩ rfl info3 rfl (H' := [⟨.pointer (some wa0), [(Vi a0_0), (Vi a0_1), (Sl Kf a0_2), (Vi a1), (Vl (Vs wa0_4))], 117, none⟩, (Rw (Ki .i64) 3 (Vs wa0_4) a0_4)]) rfl) (wt_none' rfl) fun _ => ?_
 refine nk hK2 ?_
 refine cr fun K3 hK3 => ?_
 refine s0 (rd_move' rfl) ?_
 refine s0 (rd_assign' rfl) ?_
 refine nk hK3 ?_
 refine cx_retc' ?_
 replace hp := Option.some.inj hp
 subst hp
 refine tx_pick' (L' := [(4, (Vp wa0))]) (H' := [⟨.pointer (some wa0), [(Vi a0_0), (Vi a0_1), (Sl Kf a0_2), (Vi a1), (Vl (Vs wa0_4))], 117, none⟩, (Rw (Ki .i64) 3 (Vs wa0_4) a0_4)]) [0, 1] (sub_cons rfl sub_nil) (by decide) (pick_cons rfl (pick_cons rfl pick_nil)) ?_
 exact tx_ret1' Tryz.results36 rfl () (rv_tmp' rfl) (List.Sublist.refl _)

def gogeom_NewMultiPointFlatOptionWithEnds_v2 (k : Nat) (a0 : List Int) : Option ((List Int)) :=
 some a0

theorem gogeom_NewMultiPointFlatOptionWithEnds_v2_sim {k : Nat}  (a0 : List Int) {out : (List Int)} (hp : gogeom_NewMultiPointFlatOptionWithEnds_v2 k a0 = some out) : Sx.Fn Tryz.prog 35 [(Sl (Ki .i64) a0)] [] (fun w : Addr => (Vl (.func (.func 62) #[] ⟨[.pointer (some w)]⟩))) (fun w => [⟨.pointer (some w), [(Sl (Ki .i64) out)], 23, none⟩]) := by
 unfold gogeom_NewMultiPointFlatOptionWithEnds_v2 at hp
 refine fn_of Tryz.func35 rfl Tryz.ntmps35 rfl fun E hM => ?_
 refine cr fun K1 hK1 => ?_
 refine sx_ox' (ox_box' rfl (lv_sl _ _) rfl rfl) (wt_none' rfl) fun q1 => ?_
 refine s0 (rd_assign' rfl) ?_
 refine nk hK1 ?_
 refine cr fun K2 hK2 => ?_
 refine s0 (rd_mkfunc' (us := [.pointer (some q1)]) rfl) ?_
 refine s0 (rd_assign' rfl) ?_
 refine nk hK2 ?_
 refine cx_retc' ?_
 replace hp := Option.some.inj hp
 subst hp
 refine tx_pick' (L' := [(2, (Vl (.func (.func 62) #[] ⟨[.pointer (some q1)]⟩)))]) (H' := [⟨.pointer (some q1), [(Sl (Ki .i64) a0)], 23, none⟩]) [0] (sub_cons rfl sub_nil) (by decide) (pick_cons rfl pick_nil) ?_
 exact tx_ret1' Tryz.results35 rfl q1 (rv_tmp' rfl) (List.Sublist.refl _)

def gogeom_NewMultiPointFlatOptionWithEnds_1_v2 (k : Nat) (a0_0 : Int) (a0_1 : Int) (a0_2 : List Nat) (a0_3 : Int) (a1_0 : List Int) : Option (Int × Int × (List Nat) × Int × (List Int)) :=
 some (a0_0, a0_1, a0_2, a0_3, a1_0)

theorem gogeom_NewMultiPointFlatOptionWithEnds_1_v2_sim {k : Nat} {wa0 : Addr} {wa1 : Addr} (a0_0 : Int) (a0_1 : Int) (a0_2 : List Nat) (a0_3 : Int) (a1_0 : List Int) {out : Int × Int × (List Nat) × Int × (List Int)} (hp : gogeom_NewMultiPointFlatOptionWithEnds_1_v2 k a0_0 a0_1 a0_2 a0_3 a1_0 = some out) : Sx.Fn Tryz.prog 62 [(Vp wa0), (Vp wa1)] [⟨.pointer (some wa0), [(Vi a0_0), (Vi a0_1), (Sl Kf a0_2), (Vi a0_3), Vn], 117, none⟩, ⟨.pointer (some wa1), [(Sl (Ki .i64) a1_0)], 23, none⟩] (fun w : Unit => (Vl (.tuple #[]))) (fun w => [⟨.pointer (some wa0), [(Vi out.1), (Vi out.2.1), (Sl Kf out.2.2.1), (Vi out.2.2.2.1), (Sl (Ki .i64) out.2.2.2.2)], 117, none⟩, ⟨.pointer (some wa1), [(Sl (Ki .i64) out.2.2.2.2)], 23, none⟩]) := by
 unfold gogeom_NewMultiPointFlatOptionWithEnds_1_v2 at hp
 refine fn_of Tryz.func62 rfl Tryz.ntmps62 rfl fun E hM => ?_
 refine cx_region' ?_
 refine s0 (rd_move' rfl) ?_
 refine s0 (rd_load' (i := 1) (o := 0) rfl ⟨rfl, rfl, rfl, rfl⟩ rfl flat23) ?_
 refine s0 (rd_nilck' rfl) ?_
 refine s0 (rd_field0' rfl Tryz.underlying117 rfl info113 rfl) ?_
 refine s0 (rd_field' (off := 4) rfl Tryz.underlying113 rfl info23 rfl) ?_
 refine sx_ox' (ox_store' (i := 0) (o := 4) rfl rfl (lv_sl _ _) ⟨rfl, rfl, rfl, rfl⟩ rfl info23 rfl (H' := [⟨.pointer (some wa0), [(Vi a0_0), (Vi a0_1), (Sl Kf a0_2), (Vi a0_3), (Sl (Ki .i64) a1_0)], 117, none⟩, ⟨.pointer (some wa1), [(Sl (Ki .i64) a1_0)], 23, none⟩]) rfl) (wt_none' rfl) fun _ => ?_
 refine sx_nil' ?_
 replace hp := Option.some.inj hp
 subst hp
 refine tx_pick' (L' := []) (H' := [⟨.pointer (some wa0), [(Vi a0_0), (Vi a0_1), (Sl Kf a0_2), (Vi a0_3), (Sl (Ki .i64) a1_0)], 117, none⟩, ⟨.pointer (some wa1), [(Sl (Ki .i64) a1_0)], 23, none⟩]) [0, 1] sub_nil (by decide) (pick_cons rfl (pick_cons rfl pick_nil)) ?_
 exact tx_end0' Tryz.results62 rfl () rfl (List.Sublist.refl _)

def gogeom_NewMultiPointFlat_v2 (k : Nat) (a0 : Int) (a1 : List Nat) (a2_0_0_0 : List Int) : Option ((List Int) × Int × Int × (List Nat) × Int) :=
 (gogeom_Layout_Stride k a0) >>= fun r22 =>
 (gogeom_NewMultiPointFlatOptionWithEnds_1_v2 k a0 r22 a1 0 a2_0_0_0) >>= fun r901 =>
 (some1 r901.2.2.2.2) >>= fun z1 =>
 some (r901.2.2.2.2, r901.1, r901.2.1, r901.2.2.1, r901.2.2.2.1)

theorem gogeom_NewMultiPointFlat_v2_sim {k : Nat} {wa2 : Addr} {wa2_0_0 : Addr} (a0 : Int) (a1 : List Nat) (a2_0_0_0 : List Int) {out : (List Int) × Int × Int × (List Nat) × Int} (hp : gogeom_NewMultiPointFlat_v2 k a0 a1 a2_0_0_0 = some out) : Sx.Fn Tryz.prog 34 [(Vi a0), (Sl Kf a1), (Vl (.slice (some wa2) 1 1))] [⟨.slice (some wa2) 1 1, [(Vl (.func (.func 62) #[] ⟨[.pointer (some wa2_0_0)]⟩))], 67, some 1⟩, ⟨.pointer (some wa2_0_0), [(Sl (Ki .i64) a2_0_0_0)], 23, none⟩] (fun w : Addr => (Vp w)) (fun w => [⟨.pointer (some wa2_0_0), [(Sl (Ki .i64) out.1)], 23, none⟩, ⟨.pointer (some w), [(Vi out.2.1), (Vi out.2.2.1), (Sl Kf out.2.2.2.1), (Vi out.2.2.2.2), (Sl (Ki .i64) out.1)], 117, none⟩]) := by
 unfold gogeom_NewMultiPointFlat_v2 at hp
 refine fn_of Tryz.func34 rfl Tryz.ntmps34 rfl fun E hM => ?_
 refine cr fun K1 hK1 => ?_
 refine s0 (rd_assign' rfl) ?_
 refine nk hK1 ?_
 refine cr fun K2 hK2 => ?_
 refine sx_ox' (ox_alloc' info117 rfl rfl rfl rfl (l := [(Vi 0), (Vi 0), Vn, (Vi 0), Vn]) rfl) (wt_none' rfl) fun q12 => ?_
 refine s0 (rd_assign' rfl) ?_
 refine nk hK2 ?_
 refine cr fun K3 hK3 => ?_
 refine s0 (rd_move' rfl) ?_
 refine s0 (rd_move' rfl) ?_
 refine s0 (rd_nilck' rfl) ?_
 refine s0 (rd_field0' rfl Tryz.underlying117 rfl info113 rfl) ?_
 refine s0 (rd_field0' rfl Tryz.underlying113 rfl info108 rfl) ?_
 refine s0 (rd_field0' rfl Tryz.underlying108 rfl info105 rfl) ?_
 refine s0 (rd_field0' rfl Tryz.underlying105 rfl info54 rfl) ?_
 refine sx_ox' (ox_store' (i := 0) (o := 0) rfl rfl (lv_vl rfl rfl) ⟨rfl, rfl, rfl, rfl⟩ rfl info54 rfl (H' := [⟨.pointer (some q12), [(Vi a0), (Vi 0), Vn, (Vi 0), Vn], 117, none⟩, ⟨.slice (some wa2) 1 1, [(Vl (.func (.func 62) #[] ⟨[.pointer (some wa2_0_0)]⟩))], 67, some 1⟩, ⟨.pointer (some wa2_0_0), [(Sl (Ki .i64) a2_0_0_0)], 23, none⟩]) rfl) (wt_none' rfl) fun _ => ?_
 refine nk hK3 ?_
 refine cr fun K4 hK4 => ?_
 refine s0 (rd_move' rfl) ?_
 refine s0 (rd_move' rfl) ?_
 obtain ⟨r22, hr22, hp⟩ := bind_some hp
 refine sx_ox' (ox_calln' (ent_fn' Tryz.func61 isn61 rfl rfl) (gogeom_Layout_Stride_sim _ hr22 : Sx.Fn Tryz.prog 61 [(Vi a0)] [] (fun x : Unit => (Vi r22)) (fun x => [])) (Hn := fun x : Unit => [⟨.pointer (some q12), [(Vi a0), (Vi 0), Vn, (Vi 0), Vn], 117, none⟩, ⟨.slice (some wa2) 1 1, [(Vl (.func (.func 62) #[] ⟨[.pointer (some wa2_0_0)]⟩))], 67, some 1⟩, ⟨.pointer (some wa2_0_0), [(Sl (Ki .i64) a2_0_0_0)], 23, none⟩]) (fun _ => rfl) rfl rfl) (wt_none' rfl) fun ⟨⟩ => ?_
 refine s0 (rd_nilck' rfl) ?_
 refine s0 (rd_field0' rfl Tryz.underlying117 rfl info113 rfl) ?_
 refine s0 (rd_field0' rfl Tryz.underlying113 rfl info108 rfl) ?_
 refine s0 (rd_field0' rfl Tryz.underlying108 rfl info105 rfl) ?_
 refine s0 (rd_field' (off := 1) rfl Tryz.underlying105 rfl info3 rfl) ?_
 refine sx_ox' (ox_store' (i := 0) (o := 1) rfl rfl (lv_vl rfl rfl) ⟨rfl, rfl, rfl, rfl⟩ rfl info3 rfl (H' := [⟨.pointer (some q12), [(Vi a0), (Vi r22), Vn, (Vi 0), Vn], 117, none⟩, ⟨.slice (some wa2) 1 1, [(Vl (.func (.func 62) #[] ⟨[.pointer (some wa2_0_0)]⟩))], 67, some 1⟩, ⟨.pointer (some wa2_0_0), [(Sl (Ki .i64) a2_0_0_0)], 23, none⟩]) rfl) (wt_none' rfl) fun _ => ?_
 refine nk hK4 ?_
 refine cr fun K5 hK5 => ?_
 refine s0 (rd_move' rfl) ?_
 refine s0 (rd_move' rfl) ?_
 refine s0 (rd_nilck' rfl) ?_
 refine s0 (rd_field0' rfl Tryz.underlying117 rfl info113 rfl) ?_
 refine s0 (rd_field0' rfl Tryz.underlying113 rfl info108 rfl) ?_
 refine s0 (rd_field0' rfl Tryz.underlying108 rfl info105 rfl) ?_
 refine s0 (rd_field' (off := 2) rfl Tryz.underlying105 rfl info22 rfl) ?_
 refine sx_ox' (ox_store' (i := 0) (o := 2) rfl rfl (lv_sl _ _) ⟨rfl, rfl, rfl, rfl⟩ rfl info22 rfl (H' := [⟨.pointer (some q12), [(Vi a0), (Vi r22), (Sl Kf a1), (Vi 0), Vn], 117, none⟩, ⟨.slice (some wa2) 1 1, [(Vl (.func (.func 62) #[] ⟨[.pointer (some wa2_0_0)]⟩))], 67, some 1⟩, ⟨.pointer (some wa2_0_0), [(Sl (Ki .i64) a2_0_0_0)], 23, none⟩]) rfl) (wt_none' rfl) fun _ => ?_
 refine nk hK5 ?_
 refine cx_seq' fun K6 hK6 => ?_
 refine cr fun K7 hK7 => ?_
 refine s0 (rd_move' rfl) ?_
 refine s0 (rd_lenv' rfl Tryz.underlying116) ?_
 refine s0 (rd_move' rfl) ?_
 refine nk hK7 ?_
 refine cx_block' ?_
 refine tx_loop' ?_
 refine tx_round' ?_
 refine cr fun K8 hK8 => ?_
 refine s0 (rd_bin' rfl rfl eg_int ru_lss) ?_
 refine nk hK8 ?_
 refine cx_seq' fun K9 hK9 => ?_
 refine cx_cond_t' rfl rfl ?_
 refine cx_skip' ?_
 show TX E K9 _
 refine tx_k' hK9 ?_
 refine cx_seq' fun K10 hK10 => ?_
 refine cx_block' ?_
 refine cr fun K11 hK11 => ?_
 refine s0 (rd_atv' rfl rfl (by decide) (by decide) Tryz.underlying116 info67) ?_
 refine s0 (rd_load_row' (i := 1) (o := 0) rfl ⟨rfl, rfl, rfl⟩ rfl flat67) ?_
 refine s0 (rd_assign' rfl) ?_
 refine nk hK11 ?_
 refine cx_region' ?_
 refine s0 (rd_move' rfl) ?_
 refine s0 (rd_move' rfl) ?_
 obtain ⟨r901, hr901, hp⟩ := bind_some hp
 refine sx_ox' (ox_callg' (ent_clo' (us := [.pointer (some wa2_0_0)]) rfl Tryz.func62 isn62 rfl rfl) (gogeom_NewMultiPointFlatOptionWithEnds_1_v2_sim _ _ _ _ _ hr901 : Sx.Fn Tryz.prog 62 [(Vp q12), (Vp wa2_0_0)] [⟨.pointer (some q12), [(Vi a0), (Vi r22), (Sl Kf a1), (Vi 0), Vn], 117, none⟩, ⟨.pointer (some wa2_0_0), [(Sl (Ki .i64) a2_0_0_0)], 23, none⟩] (fun x : Unit => (Vl (.tuple #[]))) (fun x => [⟨.pointer (some q12), [(Vi r901.1), (Vi r901.2.1), (Sl Kf r901.2.2.1), (Vi r901.2.2.2.1), (Sl (Ki .i64) r901.2.2.2.2)], 117, none⟩, ⟨.pointer (some wa2_0_0), [(Sl (Ki .i64) r901.2.2.2.2)], 23, none⟩])) [0, 2] [1] (by decide) (pick_cons rfl (pick_cons rfl pick_nil)) (pick_cons rfl pick_nil) (Hn := fun x : Unit => [⟨.pointer (some q12), [(Vi r901.1), (Vi r901.2.1), (Sl Kf r901.2.2.1), (Vi r901.2.2.2.1), (Sl (Ki .i64) r901.2.2.2.2)], 117, none⟩, ⟨.pointer (some wa2_0_0), [(Sl (Ki .i64) r901.2.2.2.2)], 23, none⟩, ⟨.slice (some wa2) 1 1, [(Vl (.func (.func 62) #[] ⟨[.pointer (some wa2_0_0)]⟩))], 67, some 1⟩]) (fun _ => rfl) rfl rfl) (wt_none' rfl) fun ⟨⟩ => ?_
 refine nk hK10 ?_
 refine cx_region' ?_
 refine s0 (rd_bin' rfl rfl eg_int (ru_addc (c := 1) (by decide))) ?_
 refine s0 (rd_move' rfl) ?_
 refine sx_nil' ?_
 show TX E (LoopIn _ _ _) _
 refine tx_round' ?_
 refine cr fun K12 hK12 => ?_
 refine s0 (rd_bin' rfl rfl eg_int ru_lss) ?_
 refine nk hK12 ?_
 refine cx_seq' fun K13 hK13 => ?_
 refine cx_cond_f' rfl rfl ?_
 refine cx_exit' ?_
 show TX E K6 _
 refine tx_k' hK6 ?_
 refine cx_seq' fun K14 hK14 => ?_
 refine cr fun K15 hK15 => ?_
 refine s0 (rd_move' rfl) ?_
 refine s0 (rd_nilck' rfl) ?_
 refine s0 (rd_field0' rfl Tryz.underlying117 rfl info113 rfl) ?_
 refine s0 (rd_field' (off := 4) rfl Tryz.underlying113 rfl info23 rfl) ?_
 refine s0 (rd_load' (i := 0) (o := 4) rfl ⟨rfl, rfl, rfl, rfl⟩ rfl flat23) ?_
 obtain ⟨z1, hz1, hp⟩ := bind_some hp
 refine s0 (rd_binf' rfl rfl (bf_sl hz1 (fun _ _ _ _ => by kernel_rfl) nil_eql23_sl)) ?_
 refine s0 (rd_move' rfl) ?_
 refine sx_skip' rfl rfl (wt_is' (wt_guard' rfl rfl rfl) (beq_ft rfl)) ?_
 refine sx_skip' rfl rfl (wt_is' (wt_guard' rfl rfl rfl) (beq_ft rfl)) ?_
 refine sx_skip' rfl rfl (wt_is' (wt_guard' rfl rfl rfl) (beq_ft rfl)) ?_
 refine sx_skip' rfl rfl (wt_is' (wt_guard' rfl rfl rfl) (beq_ft rfl)) ?_
 refine sx_skip' rfl rfl (wt_is' (wt_guard' rfl rfl rfl) (beq_ft rfl)) ?_
 refine sx_skip' rfl rfl (wt_is' (wt_guard' rfl rfl rfl) (beq_ft rfl)) ?_
 refine sx_skip' rfl rfl (wt_is' (wt_guard' rfl rfl rfl) (beq_ft rfl)) ?_
 refine sx_skip' rfl rfl (wt_is' (wt_guard' rfl rfl rfl) (beq_ft rfl)) ?_
 refine sx_skip' rfl rfl (wt_is' (wt_guard' rfl rfl rfl) (beq_ft rfl)) ?_
 refine s0 (rd_pick_false' rfl rfl rfl) ?_
 refine nk hK15 ?_
 refine cx_cond_f' rfl rfl ?_
 refine cx_skip' ?_
 show TX E K14 _
 refine tx_k' hK14 ?_
 refine cr fun K16 hK16 => ?_
 refine s0 (rd_move' rfl) ?_
 refine s0 (rd_assign' rfl) ?_
 refine nk hK16 ?_
 refine cx_retc' ?_
 replace hp := Option.some.inj hp
 subst hp
 refine tx_pick' (L' := [(6, (Vp q12))]) (H' := [⟨.pointer (some wa2_0_0), [(Sl (Ki .i64) r901.2.2.2.2)], 23, none⟩, ⟨.pointer (some q12), [(Vi r901.1), (Vi r901.2.1), (Sl Kf r901.2.2.1), (Vi r901.2.2.2.1), (Sl (Ki .i64) r901.2.2.2.2)], 117, none⟩]) [1, 0] (sub_cons rfl sub_nil) (by decide) (pick_cons rfl (pick_cons rfl pick_nil)) ?_
 exact tx_ret1' Tryz.results34 rfl q12 (rv_tmp' rfl) (List.Sublist.refl _)

def gogeom_MultiPoint_SetSRID_v2 (k : Nat) (a0_0 : Int) (a0_1 : Int) (a0_2 : List Nat) (a0_3 : Int) (a0_4 : List Int) (a1 : Int) : Option (Int × Int × (List Nat) × Int × (List Int)) :=
 some (a0_0, a0_1, a0_2, a1, a0_4)

theorem gogeom_MultiPoint_SetSRID_v2_sim {k : Nat} {wa0 : Addr} (a0_0 : Int) (a0_1 : Int) (a0_2 : List Nat) (a0_3 : Int) (a0_4 : List Int) (a1 : Int) {out : Int × Int × (List Nat) × Int × (List Int)} (hp : gogeom_MultiPoint_SetSRID_v2 k a0_0 a0_1 a0_2 a0_3 a0_4 a1 = some out) : Sx.Fn Tryz.prog 36 [(Vp wa0), (Vi a1)] [⟨.pointer (some wa0), [(Vi a0_0), (Vi a0_1), (Sl Kf a0_2), (Vi a0_3), (Sl (Ki .i64) a0_4)], 117, none⟩] (fun w : Unit => (Vp wa0)) (fun w => [⟨.pointer (some wa0), [(Vi out.1), (Vi out.2.1), (Sl Kf out.2.2.1), (Vi out.2.2.2.1), (Sl (Ki .i64) out.2.2.2.2)], 117, none⟩]) := by
 unfold gogeom_MultiPoint_SetSRID_v2 at hp
 refine fn_of Tryz.func36 rfl Tryz.ntmps36 rfl fun E hM => ?_
 refine cr fun K1 hK1 => ?_
 refine s0 (rd_assign' rfl) ?_
 refine nk hK1 ?_
 refine cr fun K2 hK2 => ?_
 refine s0 (rd_move' rfl) ?_
 refine s0 (rd_move' rfl) ?_
 refine s0 (rd_nilck' rfl) ?_
 refine s0 (rd_field0' rfl Tryz.underlying117 rfl info113 rfl) ?_
 refine s0 (rd_field0' rfl Tryz.underlying113 rfl info108 rfl) ?_
 refine s0 (rd_field0' rfl Tryz.underlying108 rfl info105 rfl) ?_
 refine s0 (rd_field' (off := 3) rfl Tryz.underlying105 rfl info3 rfl) ?_
 refine sx_ox' (ox_store' (i := 0) (o := 3) rfl rfl (lv_vl rfl rfl) ⟨rfl, rfl, rfl, rfl⟩ rfl info3 rfl (H' := [⟨.pointer (some wa0), [(Vi a0_0), (Vi a0_1), (Sl Kf a0_2), (Vi a1), (Sl (Ki .i64) a0_4)], 117, none⟩]) rfl) (wt_none' rfl) fun _ => ?_
 refine nk hK2 ?_
 refine cr fun K3 hK3 => ?_
 refine s0 (rd_move' rfl) ?_
 refine s0 (rd_assign' rfl) ?_
 refine nk hK3 ?_
 refine cx_retc' ?_
 replace hp := Option.some.inj hp
 subst hp
 refine tx_pick' (L' := [(4, (Vp wa0))]) (H' := [⟨.pointer (some wa0), [(Vi a0_0), (Vi a0_1), (Sl Kf a0_2), (Vi a1), (Sl (Ki .i64) a0_4)], 117, none⟩]) [0] (sub_cons rfl sub_nil) (by decide) (pick_cons rfl pick_nil) ?_
 exact tx_ret1' Tryz.results36 rfl () (rv_tmp' rfl) (List.Sublist.refl _)

def gogeom_NewMultiLineStringFlat (k : Nat) (a0 : Int) (a1 : List Nat) : Option (Int × Int × (List Nat) × Int) :=
 (gogeom_Layout_Stride k a0) >>= fun r18 =>
 some (a0, r18, a1, 0)

theorem gogeom_NewMultiLineStringFlat_sim {k : Nat}  (a0 : Int) (a1 : List Nat) {out : Int × Int × (List Nat) × Int} (hp : gogeom_NewMultiLineStringFlat k a0 a1 = some out) : Sx.Fn Tryz.prog 37 [(Vi a0), (Sl Kf a1), Vn] [] (fun w : Addr => (Vp w)) (fun w => [⟨.pointer (some w), [(Vi out.1), (Vi out.2.1), (Sl Kf out.2.2.1), (Vi out.2.2.2), Vn], 118, none⟩]) := by
 unfold gogeom_NewMultiLineStringFlat at hp
 refine fn_of Tryz.func37 rfl Tryz.ntmps37 rfl fun E hM => ?_
 refine cr fun K1 hK1 => ?_
 refine s0 (rd_assign' rfl) ?_
 refine nk hK1 ?_
 refine cr fun K2 hK2 => ?_
 refine sx_ox' (ox_alloc' info118 rfl rfl rfl rfl (l := [(Vi 0), (Vi 0), Vn, (Vi 0), Vn]) rfl) (wt_none' rfl) fun q8 => ?_
 refine s0 (rd_assign' rfl) ?_
 refine nk hK2 ?_
 refine cr fun K3 hK3 => ?_
 refine s0 (rd_move' rfl) ?_
 refine s0 (rd_move' rfl) ?_
 refine s0 (rd_nilck' rfl) ?_
 refine s0 (rd_field0' rfl Tryz.underlying118 rfl info113 rfl) ?_
 refine s0 (rd_field0' rfl Tryz.underlying113 rfl info108 rfl) ?_
 refine s0 (rd_field0' rfl Tryz.underlying108 rfl info105 rfl) ?_
 refine s0 (rd_field0' rfl Tryz.underlying105 rfl info54 rfl) ?_
 refine sx_ox' (ox_store' (i := 0) (o := 0) rfl rfl (lv_vl rfl rfl) ⟨rfl, rfl, rfl, rfl⟩ rfl info54 rfl (H' := [⟨.pointer (some q8), [(Vi a0), (Vi 0), Vn, (Vi 0), Vn], 118, none⟩]) rfl) (wt_none' rfl) fun _ => ?_
 refine nk hK3 ?_
 refine cr fun K4 hK4 => ?_
 refine s0 (rd_move' rfl) ?_
 refine s0 (rd_move' rfl) ?_
 obtain ⟨r18, hr18, hp⟩ := bind_some hp
 refine sx_ox' (ox_calln' (ent_fn' Tryz.func61 isn61 rfl rfl) (gogeom_Layout_Stride_sim _ hr18 : Sx.Fn Tryz.prog 61 [(Vi a0)] [] (fun x : Unit => (Vi r18)) (fun x => [])) (Hn := fun x : Unit => [⟨.pointer (some q8), [(Vi a0), (Vi 0), Vn, (Vi 0), Vn], 118, none⟩]) (fun _ => rfl) rfl rfl) (wt_none' rfl) fun ⟨⟩ => ?_
 refine s0 (rd_nilck' rfl) ?_
 refine s0 (rd_field0' rfl Tryz.underlying118 rfl info113 rfl) ?_
 refine s0 (rd_field0' rfl Tryz.underlying113 rfl info108 rfl) ?_
 refine s0 (rd_field0' rfl Tryz.underlying108 rfl info105 rfl) ?_
 refine s0 (rd_field' (off := 1) rfl Tryz.underlying105 rfl info3 rfl) ?_
 refine sx_ox' (ox_store' (i := 0) (o := 1) rfl rfl (lv_vl rfl rfl) ⟨rfl, rfl, rfl, rfl⟩ rfl info3 rfl (H' := [⟨.pointer (some q8), [(Vi a0), (Vi r18), Vn, (Vi 0), Vn], 118, none⟩]) rfl) (wt_none' rfl) fun _ => ?_
 refine nk hK4 ?_
 refine cr fun K5 hK5 => ?_
 refine s0 (rd_move' rfl) ?_
 refine s0 (rd_move' rfl) ?_
 refine s0 (rd_nilck' rfl) ?_
 refine s0 (rd_field0' rfl Tryz.underlying118 rfl info113 rfl) ?_
 refine s0 (rd_field0' rfl Tryz.underlying113 rfl info108 rfl) ?_
 refine s0 (rd_field0' rfl Tryz.underlying108 rfl info105 rfl) ?_
 refine s0 (rd_field' (off := 2) rfl Tryz.underlying105 rfl info22 rfl) ?_
 refine sx_ox' (ox_store' (i := 0) (o := 2) rfl rfl (lv_sl _ _) ⟨rfl, rfl, rfl, rfl⟩ rfl info22 rfl (H' := [⟨.pointer (some q8), [(Vi a0), (Vi r18), (Sl Kf a1), (Vi 0), Vn], 118, none⟩]) rfl) (wt_none' rfl) fun _ => ?_
 refine nk hK5 ?_
 refine cr fun K6 hK6 => ?_
 refine s0 (rd_move' rfl) ?_
 refine s0 (rd_move' rfl) ?_
 refine s0 (rd_nilck' rfl) ?_
 refine s0 (rd_field0' rfl Tryz.underlying118 rfl info113 rfl) ?_
 refine s0 (rd_field' (off := 4) rfl Tryz.underlying113 rfl info23 rfl) ?_
 refine sx_ox' (ox_store' (i := 0) (o := 4) rfl rfl (lv_vl rfl rfl) ⟨rfl, rfl, rfl, rfl⟩ rfl info23 rfl (H' := [⟨.pointer (some q8), [(Vi a0), (Vi r18), (Sl Kf a1), (Vi 0), Vn], 118, none⟩]) rfl) (wt_none' rfl) fun _ => ?_
 refine nk hK6 ?_
 refine cr fun K7 hK7 => ?_
 refine s0 (rd_move' rfl) ?_
 refine s0 (rd_assign' rfl) ?_
 refine nk hK7 ?_
 refine cx_retc' ?_
 replace hp := Option.some.inj hp
 subst hp
 refine tx_pick' (L' := [(6, (Vp q8))]) (H' := [⟨.pointer (some q8), [(Vi a0), (Vi r18), (Sl Kf a1), (Vi 0), Vn], 118, none⟩]) [0] (sub_cons rfl sub_nil) (by decide) (pick_cons rfl pick_nil) ?_
 exact tx_ret1' Tryz.results37 rfl q8 (rv_tmp' rfl) (List.Sublist.refl _)

def gogeom_MultiLineString_SetSRID (k : Nat) (a0_0 : Int) (a0_1 : Int) (a0_2 : List Nat) (a0_3 : Int) (a1 : Int) : Option (Int × Int × (List Nat) × Int) :=
 some (a0_0, a0_1, a0_2, a1)

theorem gogeom_MultiLineString_SetSRID_sim {k : Nat} {wa0 : Addr} (a0_0 : Int) (a0_1 : Int) (a0_2 : List Nat) (a0_3 : Int) (a1 : Int) {out : Int × Int × (List Nat) × Int} (hp : gogeom_MultiLineString_SetSRID k a0_0 a0_1 a0_2 a0_3 a1 = some out) : Sx.Fn Tryz.prog 38 [(Vp wa0), (Vi a1)] [⟨.pointer (some wa0), [(Vi a0_0), (Vi a0_1), (Sl Kf a0_2), (Vi a0_3), Vn], 118, none⟩] (fun w : Unit => (Vp wa0)) (fun w => [⟨.pointer (some wa0), [(Vi out.1), (Vi out.2.1), (Sl Kf out.2.2.1), (Vi out.2.2.2), Vn], 118, none⟩]) := by
 unfold gogeom_MultiLineString_SetSRID at hp
 refine fn_of Tryz.func38 rfl Tryz.ntmps38 rfl fun E hM => ?_
 refine cr fun K1 hK1 => ?_
 refine s0 (rd_assign' rfl) ?_
 refine nk hK1 ?_
 refine cr fun K2 hK2 => ?_
 refine s0 (rd_move' rfl) ?_
 refine s0 (rd_move' rfl) ?_
 refine s0 (rd_nilck' rfl) ?_
 refine s0 (rd_field0' rfl Tryz.underlying118 rfl info113 rfl) ?_
 refine s0 (rd_field0' rfl Tryz.underlying113 rfl info108 rfl) ?_
 refine s0 (rd_field0' rfl Tryz.underlying108 rfl info105 rfl) ?_
 refine s0 (rd_field' (off := 3) rfl Tryz.underlying105 rfl info3 rfl) ?_
 refine sx_ox' (ox_store' (i := 0) (o := 3) rfl rfl (lv_vl rfl rfl) ⟨rfl, rfl, rfl, rfl⟩ rfl info3 rfl (H' := [⟨.pointer (some wa0), [(Vi a0_0), (Vi a0_1), (Sl Kf a0_2), (Vi a1), Vn], 118, none⟩]) rfl) (wt_none' rfl) fun _ => ?_
 refine nk hK2 ?_
 refine cr fun K3 hK3 => ?_
 refine s0 (rd_move' rfl) ?_
 refine s0 (rd_assign' rfl) ?_
 refine nk hK3 ?_
 refine cx_retc' ?_
 replace hp := Option.some.inj hp
 subst hp
 refine tx_pick' (L' := [(4, (Vp wa0))]) (H' := [⟨.pointer (some wa0), [(Vi a0_0), (Vi a0_1), (Sl Kf a0_2), (Vi a1), Vn], 118, none⟩]) [0] (sub_cons rfl sub_nil) (by decide) (pick_cons rfl pick_nil) ?_
 exact tx_ret1' Tryz.results38 rfl () (rv_tmp' rfl) (List.Sublist.refl _)

def gogeom_NewMultiLineStringFlat_v2 (k : Nat) (a0 : Int) (a1 : List Nat) (a2 : List Int) : Option (Int × Int × (List Nat) × Int × (List Int)) :=
 (gogeom_Layout_Stride k a0) >>= fun r18 =>
 some (a0, r18, a1, 0, a2)

theorem gogeom_NewMultiLineStringFlat_v2_sim {k : Nat}  (a0 : Int) (a1 : List Nat) (a2 : List Int) {out : Int × Int × (List Nat) × Int × (List Int)} (hp : gogeom_NewMultiLineStringFlat_v2 k a0 a1 a2 = some out) : Sx.Fn Tryz.prog 37 [(Vi a0), (Sl Kf a1), (Sl (Ki .i64) a2)] [] (fun w : Addr => (Vp w)) (fun w => [⟨.pointer (some w), [(Vi out.1), (Vi out.2.1), (Sl Kf out.2.2.1), (Vi out.2.2.2.1), (Sl (Ki .i64) out.2.2.2.2)], 118, none⟩]) := by
 unfold gogeom_NewMultiLineStringFlat_v2 at hp
 refine fn_of Tryz.func37 rfl Tryz.ntmps37 rfl fun E hM => ?_
 refine cr fun K1 hK1 => ?_
 refine s0 (rd_assign' rfl) ?_
 refine nk hK1 ?_
 refine cr fun K2 hK2 => ?_
 refine sx_ox' (ox_alloc' info118 rfl rfl rfl rfl (l := [(Vi 0), (Vi 0), Vn, (Vi 0), Vn]) rfl) (wt_none' rfl) fun q8 => ?_
 refine s0 (rd_assign' rfl) ?_
 refine nk hK2 ?_
 refine cr fun K3 hK3 => ?_
 refine s0 (rd_move' rfl) ?_
 refine s0 (rd_move' rfl) ?_
 refine s0 (rd_nilck' rfl) ?_
 refine s0 (rd_field0' rfl Tryz.underlying118 rfl info113 rfl) ?_
 refine s0 (rd_field0' rfl Tryz.underlying113 rfl info108 rfl) ?_
 refine s0 (rd_field0' rfl Tryz.underlying108 rfl info105 rfl) ?_
 refine s0 (rd_field0' rfl Tryz.underlying105 rfl info54 rfl) ?_
 refine sx_ox' (ox_store' (i := 0) (o := 0) rfl rfl (lv_vl rfl rfl) ⟨rfl, rfl, rfl, rfl⟩ rfl info54 rfl (H' := [⟨.pointer (some q8), [(Vi a0), (Vi 0), Vn, (Vi 0), Vn], 118, none⟩]) rfl) (wt_none' rfl) fun _ => ?_
 refine nk hK3 ?_
 refine cr fun K4 hK4 => ?_
 refine s0 (rd_move' rfl) ?_
 refine s0 (rd_move' rfl) ?_
 obtain ⟨r18, hr18, hp⟩ := bind_some hp
 refine sx_ox' (ox_calln' (ent_fn' Tryz.func61 isn61 rfl rfl) (gogeom_Layout_Stride_sim _ hr18 : Sx.Fn Tryz.prog 61 [(Vi a0)] [] (fun x : Unit => (Vi r18)) (fun x => [])) (Hn := fun x : Unit => [⟨.pointer (some q8), [(Vi a0), (Vi 0), Vn, (Vi 0), Vn], 118, none⟩]) (fun _ => rfl) rfl rfl) (wt_none' rfl) fun ⟨⟩ => ?_
 refine s0 (rd_nilck' rfl) ?_
 refine s0 (rd_field0' rfl Tryz.underlying118 rfl info113 rfl) ?_
 refine s0 (rd_field0' rfl Tryz.underlying113 rfl info108 rfl) ?_
 refine s0 (rd_field0' rfl Tryz.underlying108 rfl info105 rfl) ?_
 refine s0 (rd_field' (off := 1) rfl Tryz.underlying105 rfl info3 rfl) ?_
 refine sx_ox' (ox_store' (i := 0) (o := 1) rfl rfl (lv_vl rfl rfl) ⟨rfl, rfl, rfl, rfl⟩ rfl info3 rfl (H' := [⟨.pointer (some q8), [(Vi a0), (Vi r18), Vn, (Vi 0), Vn], 118, none⟩]) rfl) (wt_none' rfl) fun _ => ?_
 refine nk hK4 ?_
 refine cr fun K5 hK5 => ?_
 refine s0 (rd_move' rfl) ?_
 refine s0 (rd_move' rfl) ?_
 refine s0 (rd_nilck' rfl) ?_
 refine s0 (rd_field0' rfl Tryz.underlying118 rfl info113 rfl) ?_
 refine s0 (rd_field0' rfl Tryz.underlying113 rfl info108 rfl) ?_
 refine s0 (rd_field0' rfl Tryz.underlying108 rfl info105 rfl) ?_
 refine s0 (rd_field' (off := 2) rfl Tryz.underlying105 rfl info22 rfl) ?_
 refine sx_ox' (ox_store' (i := 0) (o := 2) rfl rfl (lv_sl _ _) ⟨rfl, rfl, rfl, rfl⟩ rfl info22 rfl (H' := [⟨.pointer (some q8), [(Vi a0), (Vi r18), (Sl Kf a1), (Vi 0), Vn], 118, none⟩]) rfl) (wt_none' rfl) fun _ => ?_
 refine nk hK5 ?_
 refine cr fun K6 hK6 => ?_
 refine s0 (rd_move' rfl) ?_
 refine s0 (rd_move' rfl) ?_
 refine s0 (rd_nilck' rfl) ?_
 refine s0 (rd_field0' rfl Tryz.underlying118 rfl info113 rfl) ?_
 refine s0 (rd_field' (off := 4) rfl Tryz.underlying113 rfl info23 rfl) ?_
 refine sx_ox' (ox_store' (i := 0) (o := 4) rfl rfl (lv_sl _ _) ⟨rfl, rfl, rfl, rfl⟩ rfl info23 rfl (H' := [⟨.pointer (some q8), [(Vi a0), (Vi r18), (Sl Kf a1), (Vi 0), (Sl (Ki .i64) a2)], 118, none⟩]) rfl) (wt_none' rfl) fun _ => ?_
 refine nk hK6 ?_
 refine cr fun K7 hK7 => ?_
 refine s0 (rd_move' rfl) ?_
 refine s0 (rd_assign' rfl) ?_
 refine nk hK7 ?_
 refine cx_retc' ?_
 replace hp := Option.some.inj hp
 subst hp
 refine tx_pick' (L' := [(6, (Vp q8))]) (H' := [⟨.pointer (some q8), [(Vi a0), (Vi r18), (Sl Kf a1), (Vi 0), (Sl (Ki .i64) a2)], 118, none⟩]) [0] (sub_cons rfl sub_nil) (by decide) (pick_cons rfl pick_nil) ?_
 exact tx_ret1' Tryz.results37 rfl q8 (rv_tmp' rfl) (List.Sublist.refl _)

def gogeom_MultiLineString_SetSRID_v2 (k : Nat) (a0_0 : Int) (a0_1 : Int) (a0_2 : List Nat) (a0_3 : Int) (a0_4 : List Int) (a1 : Int) : Option (Int × Int × (List Nat) × Int × (List Int)) :=
 some (a0_0, a0_1, a0_2, a1, a0_4)

theorem gogeom_MultiLineString_SetSRID_v2_sim {k : Nat} {wa0 : Addr} (a0_0 : Int) (a0_1 : Int) (a0_2 : List Nat) (a0_3 : Int) (a0_4 : List Int) (a1 : Int) {out : Int × Int × (List Nat) × Int × (List Int)} (hp : gogeom_MultiLineString_SetSRID_v2 k a0_0 a0_1 a0_2 a0_3 a0_4 a1 = some out) : Sx.Fn Tryz.prog 38 [(Vp wa0), (Vi a1)] [⟨.pointer (some wa0), [(Vi a0_0), (Vi a0_1), (Sl Kf a0_2), (Vi a0_3), (Sl (Ki .i64) a0_4)], 118, none⟩] (fun w : Unit => (Vp wa0)) (fun w => [⟨.pointer (some wa0), [(Vi out.1), (Vi out.2.1), (Sl Kf out.2.2.1), (Vi out.2.2.2.1), (Sl (Ki .i64) out.2.2.2.2)], 118, none⟩]) := by
 unfold gogeom_MultiLineString_SetSRID_v2 at hp
 refine fn_of Tryz.func38 rfl Tryz.ntmps38 rfl fun E hM => ?_
 refine cr fun K1 hK1 => ?_
 refine s0 (rd_assign' rfl) ?_
 refine nk hK1 ?_
 refine cr fun K2 hK2 => ?_
 refine s0 (rd_move' rfl) ?_
 refine s0 (rd_move' rfl) ?_
 refine s0 (rd_nilck' rfl) ?_
 refine s0 (rd_field0' rfl Tryz.underlying118 rfl info113 rfl) ?_
 refine s0 (rd_field0' rfl Tryz.underlying113 rfl info108 rfl) ?_
 refine s0 (rd_field0' rfl Tryz.underlying108 rfl info105 rfl) ?_
 refine s0 (rd_field' (off := 3) rfl Tryz.underlying105 rfl info3 rfl) ?_
 refine sx_ox' (ox_store' (i := 0) (o := 3) rfl rfl (lv_vl rfl rfl) ⟨rfl, rfl, rfl, rfl⟩ rfl info3 rfl (H' := [⟨.pointer (some wa0), [(Vi a0_0), (Vi a0_1), (Sl Kf a0_2), (Vi a1), (Sl (Ki .i64) a0_4)], 118, none⟩]) rfl) (wt_none' rfl) fun _ => ?_
 refine nk hK2 ?_
 refine cr fun K3 hK3 => ?_
 refine s0 (rd_move' rfl) ?_
 refine s0 (rd_assign' rfl) ?_
 refine nk hK3 ?_
 refine cx_retc' ?_
 replace hp := Option.some.inj hp
 subst hp
 refine tx_pick' (L' := [(4, (Vp wa0))]) (H' := [⟨.pointer (some wa0), [(Vi a0_0), (Vi a0_1), (Sl Kf a0_2), (Vi a1), (Sl (Ki .i64) a0_4)], 118, none⟩]) [0] (sub_cons rfl sub_nil) (by decide) (pick_cons rfl pick_nil) ?_
 exact tx_ret1' Tryz.results38 rfl () (rv_tmp' rfl) (List.Sublist.refl _)

end Go.Proofs.YtmagcmeknclljaaGreat
