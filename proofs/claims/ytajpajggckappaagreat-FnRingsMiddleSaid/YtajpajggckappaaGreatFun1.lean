/-
  Plain functions for the Go functions that this law reaches, and that each call does what its plain function says. Printed by a program of ours.
-/
import Derived.Test.YtajpajggckappaaGreatProg
import Derived.Test.YtajpajggckappaaGreatSxX
namespace Go.Proofs.YtajpajggckappaaGreat
open Go.Sx
set_option linter.unusedVariables false
set_option maxRecDepth 100000

theorem isn4 : (Tryz.f4.name == "runtime.NumGoroutine") = false := by kernel_rfl
theorem isn8 : (Tryz.f8.name == "runtime.NumGoroutine") = false := by kernel_rfl
theorem info38 : (Tryz.prog.info? 38).map (fun i => (i.zero, i.size, i.bytes)) = some (some (.agg #[.int .i64 0, .int .i64 0, .int .i64 0, .slice none 0 0, .slice none 0 0, .slice none 0 0, .slice none 0 0]), 7, 120) := by kernel_rfl
theorem agg38 : Agg Tryz.prog 38 7 := ⟨⟨_, Tryz.underlying38, .inl ⟨_, rfl⟩⟩, info_size info38⟩
theorem info3 : (Tryz.prog.info? 3).map (fun i => (i.zero, i.size, i.bytes)) = some (some (.int .i64 0), 1, 8) := by kernel_rfl
theorem flat3 : Flat Tryz.prog 3 := ⟨_, Tryz.underlying3, fun _ h => (nomatch h), fun _ _ h => (nomatch h)⟩
theorem isn9 : (Tryz.f9.name == "runtime.NumGoroutine") = false := by kernel_rfl
theorem info22 : (Tryz.prog.info? 22).map (fun i => (i.zero, i.size, i.bytes)) = some (some (.slice none 0 0), 1, 24) := by kernel_rfl
theorem flat22 : Flat Tryz.prog 22 := ⟨_, Tryz.underlying22, fun _ h => (nomatch h), fun _ _ h => (nomatch h)⟩
theorem mixed : Tryz.prog.follows .mixedOrders = true := by kernel_rfl
theorem info29 : (Tryz.prog.info? 29).map (fun i => (i.zero, i.size, i.bytes)) = some (some (.slice none 0 0), 1, 24) := by kernel_rfl
theorem flat29 : Flat Tryz.prog 29 := ⟨_, Tryz.underlying29, fun _ h => (nomatch h), fun _ _ h => (nomatch h)⟩
theorem info35 : (Tryz.prog.info? 35).map (fun i => (i.zero, i.size, i.bytes)) = some (some (.slice none 0 0), 1, 24) := by kernel_rfl
theorem flat35 : Flat Tryz.prog 35 := ⟨_, Tryz.underlying35, fun _ h => (nomatch h), fun _ _ h => (nomatch h)⟩
theorem info36 : (Tryz.prog.info? 36).map (fun i => (i.zero, i.size, i.bytes)) = some (some (.slice none 0 0), 1, 24) := by kernel_rfl
theorem flat36 : Flat Tryz.prog 36 := ⟨_, Tryz.underlying36, fun _ h => (nomatch h), fun _ _ h => (nomatch h)⟩
theorem isn24 : (Tryz.f24.name == "runtime.NumGoroutine") = false := by kernel_rfl
theorem isn23 : (Tryz.f23.name == "runtime.NumGoroutine") = false := by kernel_rfl
theorem isn61 : (Tryz.f61.name == "runtime.NumGoroutine") = false := by kernel_rfl
theorem isn10 : (Tryz.f10.name == "runtime.NumGoroutine") = false := by kernel_rfl
theorem info26 : (Tryz.prog.info? 26).map (fun i => (i.zero, i.size, i.bytes)) = some (some (.float .f64 0), 1, 8) := by kernel_rfl
theorem flat26 : Flat Tryz.prog 26 := ⟨_, Tryz.underlying26, fun _ h => (nomatch h), fun _ _ h => (nomatch h)⟩
theorem places72 : placesOf Tryz.prog [{ name := "X", type := 26, offset := 0, embedded := false, tag := "", pkgPath := "", byteOffset := 0 }, { name := "Y", type := 26, offset := 1, embedded := false, tag := "", pkgPath := "", byteOffset := 8 }] = [(0, 1), (1, 1)] := by kernel_rfl
theorem has72 : ∀ f ∈ ([{ name := "X", type := 26, offset := 0, embedded := false, tag := "", pkgPath := "", byteOffset := 0 }, { name := "Y", type := 26, offset := 1, embedded := false, tag := "", pkgPath := "", byteOffset := 8 }] : List Field), (Tryz.prog.info? f.type).isSome = true := fun f hf => all_of (p := fun f => (Tryz.prog.info? f.type).isSome) (by kernel_rfl) f hf
theorem info72 : (Tryz.prog.info? 72).map (fun i => (i.zero, i.size, i.bytes)) = some (some (.agg #[.float .f64 0, .float .f64 0]), 2, 16) := by kernel_rfl
theorem isn25 : (Tryz.f25.name == "runtime.NumGoroutine") = false := by kernel_rfl
theorem agg72 : Agg Tryz.prog 72 2 := ⟨⟨_, Tryz.underlying72, .inl ⟨_, rfl⟩⟩, info_size info72⟩
theorem isn62 : (Tryz.f62.name == "runtime.NumGoroutine") = false := by kernel_rfl
theorem isn79 : (Tryz.f79.name == "runtime.NumGoroutine") = false := by kernel_rfl
theorem extf89 : ∀ {x r : Nat}, gint .zero x = r → ∀ y, (y = x ∨ (isn x = true ∧ isn y = true)) → RunsF Tryz.prog (callFunc 89 #[.float .f64 y]) (Fl r) := fun hz y hy => hz ▸ runs_ext (e := Extern.MathFloor.toIntegral "math.archTrunc" .zero) Tryz.func89 (by kernel_rfl) (by kernel_rfl) (by kernel_rfl) (by kernel_rfl) (gint_runs hy)
theorem isn60 : (Tryz.f60.name == "runtime.NumGoroutine") = false := by kernel_rfl
theorem ext78 : ∀ {args : Array Value} {v : Value}, Runs Tryz.prog ((Extern.MathFloatBits.float64bits) args) v → Runs Tryz.prog (callFunc 78 args) (.value v) := fun hr => ru_ext Tryz.func78 (by kernel_rfl) (by kernel_rfl) (by kernel_rfl) (by kernel_rfl) hr
theorem ext77 : ∀ {args : Array Value} {v : Value}, Runs Tryz.prog ((Extern.MathFloatBits.float64frombits) args) v → Runs Tryz.prog (callFunc 77 args) (.value v) := fun hr => ru_ext Tryz.func77 (by kernel_rfl) (by kernel_rfl) (by kernel_rfl) (by kernel_rfl) hr
theorem isn11 : (Tryz.f11.name == "runtime.NumGoroutine") = false := by kernel_rfl
theorem isn26 : (Tryz.f26.name == "runtime.NumGoroutine") = false := by kernel_rfl
theorem isn63 : (Tryz.f63.name == "runtime.NumGoroutine") = false := by kernel_rfl
theorem isn80 : (Tryz.f80.name == "runtime.NumGoroutine") = false := by kernel_rfl
theorem places50 : placesOf Tryz.prog [{ name := "N", type := 48, offset := 0, embedded := false, tag := "", pkgPath := "", byteOffset := 0 }, { name := "E", type := 3, offset := 2, embedded := false, tag := "", pkgPath := "", byteOffset := 32 }] = [(0, 2), (2, 1)] := by kernel_rfl
theorem has50 : ∀ f ∈ ([{ name := "N", type := 48, offset := 0, embedded := false, tag := "", pkgPath := "", byteOffset := 0 }, { name := "E", type := 3, offset := 2, embedded := false, tag := "", pkgPath := "", byteOffset := 32 }] : List Field), (Tryz.prog.info? f.type).isSome = true := fun f hf => all_of (p := fun f => (Tryz.prog.info? f.type).isSome) (by kernel_rfl) f hf
theorem info50 : (Tryz.prog.info? 50).map (fun i => (i.zero, i.size, i.bytes)) = some (some (.agg #[.bool false, .slice none 0 0, .int .i64 0]), 3, 40) := by kernel_rfl
theorem isn91 : (Tryz.f91.name == "runtime.NumGoroutine") = false := by kernel_rfl
theorem isn69 : (Tryz.f69.name == "runtime.NumGoroutine") = false := by kernel_rfl
theorem info126 : (Tryz.prog.info? 126).map (fun i => (i.zero, i.size, i.bytes)) = some (some (.int .u32 0), 1, 4) := by kernel_rfl
theorem flat126 : Flat Tryz.prog 126 := ⟨_, Tryz.underlying126, fun _ h => (nomatch h), fun _ _ h => (nomatch h)⟩
theorem places48 : placesOf Tryz.prog [{ name := "Neg", type := 4, offset := 0, embedded := false, tag := "", pkgPath := "", byteOffset := 0 }, { name := "L", type := 46, offset := 1, embedded := false, tag := "", pkgPath := "", byteOffset := 8 }] = [(0, 1), (1, 1)] := by kernel_rfl
theorem has48 : ∀ f ∈ ([{ name := "Neg", type := 4, offset := 0, embedded := false, tag := "", pkgPath := "", byteOffset := 0 }, { name := "L", type := 46, offset := 1, embedded := false, tag := "", pkgPath := "", byteOffset := 8 }] : List Field), (Tryz.prog.info? f.type).isSome = true := fun f hf => all_of (p := fun f => (Tryz.prog.info? f.type).isSome) (by kernel_rfl) f hf
theorem info48 : (Tryz.prog.info? 48).map (fun i => (i.zero, i.size, i.bytes)) = some (some (.agg #[.bool false, .slice none 0 0]), 2, 32) := by kernel_rfl
theorem agg48 : Agg Tryz.prog 48 2 := ⟨⟨_, Tryz.underlying48, .inl ⟨_, rfl⟩⟩, info_size info48⟩
theorem agg50 : Agg Tryz.prog 50 3 := ⟨⟨_, Tryz.underlying50, .inl ⟨_, rfl⟩⟩, info_size info50⟩
theorem places53 : placesOf Tryz.prog [{ name := "X", type := 50, offset := 0, embedded := false, tag := "", pkgPath := "", byteOffset := 0 }, { name := "Y", type := 50, offset := 3, embedded := false, tag := "", pkgPath := "", byteOffset := 40 }] = [(0, 3), (3, 3)] := by kernel_rfl
theorem has53 : ∀ f ∈ ([{ name := "X", type := 50, offset := 0, embedded := false, tag := "", pkgPath := "", byteOffset := 0 }, { name := "Y", type := 50, offset := 3, embedded := false, tag := "", pkgPath := "", byteOffset := 40 }] : List Field), (Tryz.prog.info? f.type).isSome = true := fun f hf => all_of (p := fun f => (Tryz.prog.info? f.type).isSome) (by kernel_rfl) f hf
theorem info53 : (Tryz.prog.info? 53).map (fun i => (i.zero, i.size, i.bytes)) = some (some (.agg #[.bool false, .slice none 0 0, .int .i64 0, .bool false, .slice none 0 0, .int .i64 0]), 6, 80) := by kernel_rfl
theorem agg53 : Agg Tryz.prog 53 6 := ⟨⟨_, Tryz.underlying53, .inl ⟨_, rfl⟩⟩, info_size info53⟩
theorem info44 : (Tryz.prog.info? 44).map (fun i => (i.zero, i.size, i.bytes)) = some (some (.slice none 0 0), 1, 24) := by kernel_rfl
theorem isn5 : (Tryz.f5.name == "runtime.NumGoroutine") = false := by kernel_rfl
theorem flat44 : Flat Tryz.prog 44 := ⟨_, Tryz.underlying44, fun _ h => (nomatch h), fun _ _ h => (nomatch h)⟩
theorem isn13 : (Tryz.f13.name == "runtime.NumGoroutine") = false := by kernel_rfl
theorem isn28 : (Tryz.f28.name == "runtime.NumGoroutine") = false := by kernel_rfl
theorem isn64 : (Tryz.f64.name == "runtime.NumGoroutine") = false := by kernel_rfl
theorem isn81 : (Tryz.f81.name == "runtime.NumGoroutine") = false := by kernel_rfl
theorem isn92 : (Tryz.f92.name == "runtime.NumGoroutine") = false := by kernel_rfl
theorem info4 : (Tryz.prog.info? 4).map (fun i => (i.zero, i.size, i.bytes)) = some (some (.bool false), 1, 1) := by kernel_rfl
theorem flat4 : Flat Tryz.prog 4 := ⟨_, Tryz.underlying4, fun _ h => (nomatch h), fun _ _ h => (nomatch h)⟩
theorem info46 : (Tryz.prog.info? 46).map (fun i => (i.zero, i.size, i.bytes)) = some (some (.slice none 0 0), 1, 24) := by kernel_rfl
theorem flat46 : Flat Tryz.prog 46 := ⟨_, Tryz.underlying46, fun _ h => (nomatch h), fun _ _ h => (nomatch h)⟩
theorem isn15 : (Tryz.f15.name == "runtime.NumGoroutine") = false := by kernel_rfl
theorem isn29 : (Tryz.f29.name == "runtime.NumGoroutine") = false := by kernel_rfl
theorem isn66 : (Tryz.f66.name == "runtime.NumGoroutine") = false := by kernel_rfl
theorem isn34 : (Tryz.f34.name == "runtime.NumGoroutine") = false := by kernel_rfl
theorem isn35 : (Tryz.f35.name == "runtime.NumGoroutine") = false := by kernel_rfl
theorem isn70 : (Tryz.f70.name == "runtime.NumGoroutine") = false := by kernel_rfl
theorem isn71 : (Tryz.f71.name == "runtime.NumGoroutine") = false := by kernel_rfl
theorem isn72 : (Tryz.f72.name == "runtime.NumGoroutine") = false := by kernel_rfl
theorem isn65 : (Tryz.f65.name == "runtime.NumGoroutine") = false := by kernel_rfl
theorem isn82 : (Tryz.f82.name == "runtime.NumGoroutine") = false := by kernel_rfl
theorem isn14 : (Tryz.f14.name == "runtime.NumGoroutine") = false := by kernel_rfl
theorem isn30 : (Tryz.f30.name == "runtime.NumGoroutine") = false := by kernel_rfl
theorem isn31 : (Tryz.f31.name == "runtime.NumGoroutine") = false := by kernel_rfl
theorem isn32 : (Tryz.f32.name == "runtime.NumGoroutine") = false := by kernel_rfl
theorem isn33 : (Tryz.f33.name == "runtime.NumGoroutine") = false := by kernel_rfl
theorem isn68 : (Tryz.f68.name == "runtime.NumGoroutine") = false := by kernel_rfl
theorem isn83 : (Tryz.f83.name == "runtime.NumGoroutine") = false := by kernel_rfl
theorem isn84 : (Tryz.f84.name == "runtime.NumGoroutine") = false := by kernel_rfl
theorem isn85 : (Tryz.f85.name == "runtime.NumGoroutine") = false := by kernel_rfl
theorem isn86 : (Tryz.f86.name == "runtime.NumGoroutine") = false := by kernel_rfl
theorem isn87 : (Tryz.f87.name == "runtime.NumGoroutine") = false := by kernel_rfl
theorem isn12 : (Tryz.f12.name == "runtime.NumGoroutine") = false := by kernel_rfl
theorem extf27 : ∀ {x r : Nat}, gsqrt x = r → ∀ y, (y = x ∨ (isn x = true ∧ isn y = true)) → RunsF Tryz.prog (callFunc 27 #[.float .f64 y]) (Fl r) := fun hz y hy => hz ▸ runs_ext (e := Extern.MathSqrt.sqrt) Tryz.func27 (by kernel_rfl) (by kernel_rfl) (by kernel_rfl) (by kernel_rfl) (gsqrt_runs hy)
theorem isn6 : (Tryz.f6.name == "runtime.NumGoroutine") = false := by kernel_rfl
theorem isn17 : (Tryz.f17.name == "runtime.NumGoroutine") = false := by kernel_rfl
theorem isn36 : (Tryz.f36.name == "runtime.NumGoroutine") = false := by kernel_rfl
theorem places84 : placesOf Tryz.prog [{ name := "layout", type := 58, offset := 0, embedded := false, tag := "", pkgPath := "pub-orthodrome/pub/gogeom/xy", byteOffset := 0 }, { name := "stride", type := 3, offset := 1, embedded := false, tag := "", pkgPath := "pub-orthodrome/pub/gogeom/xy", byteOffset := 8 }, { name := "centSum", type := 65, offset := 2, embedded := false, tag := "", pkgPath := "pub-orthodrome/pub/gogeom/xy", byteOffset := 16 }, { name := "totalLength", type := 26, offset := 3, embedded := false, tag := "", pkgPath := "pub-orthodrome/pub/gogeom/xy", byteOffset := 40 }] = [(0, 1), (1, 1), (2, 1), (3, 1)] := by kernel_rfl
theorem has84 : ∀ f ∈ ([{ name := "layout", type := 58, offset := 0, embedded := false, tag := "", pkgPath := "pub-orthodrome/pub/gogeom/xy", byteOffset := 0 }, { name := "stride", type := 3, offset := 1, embedded := false, tag := "", pkgPath := "pub-orthodrome/pub/gogeom/xy", byteOffset := 8 }, { name := "centSum", type := 65, offset := 2, embedded := false, tag := "", pkgPath := "pub-orthodrome/pub/gogeom/xy", byteOffset := 16 }, { name := "totalLength", type := 26, offset := 3, embedded := false, tag := "", pkgPath := "pub-orthodrome/pub/gogeom/xy", byteOffset := 40 }] : List Field), (Tryz.prog.info? f.type).isSome = true := fun f hf => all_of (p := fun f => (Tryz.prog.info? f.type).isSome) (by kernel_rfl) f hf
theorem info84 : (Tryz.prog.info? 84).map (fun i => (i.zero, i.size, i.bytes)) = some (some (.agg #[.int .i64 0, .int .i64 0, .slice none 0 0, .float .f64 0]), 4, 48) := by kernel_rfl
theorem isn19 : (Tryz.f19.name == "runtime.NumGoroutine") = false := by kernel_rfl
theorem isn20 : (Tryz.f20.name == "runtime.NumGoroutine") = false := by kernel_rfl
theorem isn39 : (Tryz.f39.name == "runtime.NumGoroutine") = false := by kernel_rfl
theorem info87 : (Tryz.prog.info? 87).map (fun i => (i.zero, i.size, i.bytes)) = some (some (.agg #[.int .i64 0, .int .i64 0, .slice none 0 0, .int .i64 0]), 4, 48) := by kernel_rfl
theorem info58 : (Tryz.prog.info? 58).map (fun i => (i.zero, i.size, i.bytes)) = some (some (.int .i64 0), 1, 8) := by kernel_rfl
theorem info132 : (Tryz.prog.info? 132).map (fun i => (i.zero, i.size, i.bytes)) = some (some (.agg #[.int .i64 0, .int .i64 0, .slice none 0 0, .int .i64 0]), 4, 48) := by kernel_rfl
theorem isn40 : (Tryz.f40.name == "runtime.NumGoroutine") = false := by kernel_rfl
theorem isn41 : (Tryz.f41.name == "runtime.NumGoroutine") = false := by kernel_rfl
theorem info89 : (Tryz.prog.info? 89).map (fun i => (i.zero, i.size, i.bytes)) = some (some (.agg #[.int .i64 0, .int .i64 0, .slice none 0 0, .int .i64 0]), 4, 48) := by kernel_rfl
theorem info133 : (Tryz.prog.info? 133).map (fun i => (i.zero, i.size, i.bytes)) = some (some (.agg #[.int .i64 0, .int .i64 0, .slice none 0 0, .int .i64 0]), 4, 48) := by kernel_rfl
theorem isn42 : (Tryz.f42.name == "runtime.NumGoroutine") = false := by kernel_rfl
theorem isn43 : (Tryz.f43.name == "runtime.NumGoroutine") = false := by kernel_rfl
theorem info91 : (Tryz.prog.info? 91).map (fun i => (i.zero, i.size, i.bytes)) = some (some (.agg #[.int .i64 0, .int .i64 0, .slice none 0 0, .int .i64 0]), 4, 48) := by kernel_rfl
theorem isn44 : (Tryz.f44.name == "runtime.NumGoroutine") = false := by kernel_rfl
theorem isn46 : (Tryz.f46.name == "runtime.NumGoroutine") = false := by kernel_rfl
theorem isn45 : (Tryz.f45.name == "runtime.NumGoroutine") = false := by kernel_rfl
theorem info135 : (Tryz.prog.info? 135).map (fun i => (i.zero, i.size, i.bytes)) = some (some (.agg #[.int .i64 0, .int .i64 0, .slice none 0 0, .int .i64 0, .slice none 0 0]), 5, 72) := by kernel_rfl
theorem info137 : (Tryz.prog.info? 137).map (fun i => (i.zero, i.size, i.bytes)) = some (some (.agg #[.int .i64 0, .int .i64 0, .slice none 0 0, .int .i64 0, .slice none 0 0]), 5, 72) := by kernel_rfl
theorem isn47 : (Tryz.f47.name == "runtime.NumGoroutine") = false := by kernel_rfl
theorem isn49 : (Tryz.f49.name == "runtime.NumGoroutine") = false := by kernel_rfl
theorem isn48 : (Tryz.f48.name == "runtime.NumGoroutine") = false := by kernel_rfl
theorem info108 : (Tryz.prog.info? 108).map (fun i => (i.zero, i.size, i.bytes)) = some (some (.nilFunc), 1, 8) := by kernel_rfl
theorem flat108 : Flat Tryz.prog 108 := ⟨_, Tryz.underlying108, fun _ h => (nomatch h), fun _ _ h => (nomatch h)⟩
theorem isn74 : (Tryz.f74.name == "runtime.NumGoroutine") = false := by kernel_rfl
theorem nil_eql35_nilsl : ∀ (w : World), (binOp .eql 35 (.slice none 0 0) (.slice none 0 0)).run Tryz.prog w = .ok (.bool true) w := fun _ => by kernel_rfl
theorem info139 : (Tryz.prog.info? 139).map (fun i => (i.zero, i.size, i.bytes)) = some (some (.agg #[.int .i64 0, .int .i64 0, .slice none 0 0, .int .i64 0, .slice none 0 0]), 5, 72) := by kernel_rfl
theorem isn50 : (Tryz.f50.name == "runtime.NumGoroutine") = false := by kernel_rfl
theorem nil_eql35_sl : ∀ (q : Addr) (n c : Nat) (w : World), (binOp .eql 35 (.slice (some q) n c) (.slice none 0 0)).run Tryz.prog w = .ok (.bool false) w := fun _ _ _ _ => by kernel_rfl
theorem isn51 : (Tryz.f51.name == "runtime.NumGoroutine") = false := by kernel_rfl
theorem info140 : (Tryz.prog.info? 140).map (fun i => (i.zero, i.size, i.bytes)) = some (some (.agg #[.int .i64 0, .int .i64 0, .slice none 0 0, .int .i64 0, .slice none 0 0]), 5, 72) := by kernel_rfl
theorem isn52 : (Tryz.f52.name == "runtime.NumGoroutine") = false := by kernel_rfl
theorem isn54 : (Tryz.f54.name == "runtime.NumGoroutine") = false := by kernel_rfl
theorem isn53 : (Tryz.f53.name == "runtime.NumGoroutine") = false := by kernel_rfl
theorem info142 : (Tryz.prog.info? 142).map (fun i => (i.zero, i.size, i.bytes)) = some (some (.agg #[.int .i64 0, .int .i64 0, .slice none 0 0, .int .i64 0, .slice none 0 0]), 5, 72) := by kernel_rfl
theorem info144 : (Tryz.prog.info? 144).map (fun i => (i.zero, i.size, i.bytes)) = some (some (.agg #[.int .i64 0, .int .i64 0, .slice none 0 0, .int .i64 0, .slice none 0 0]), 5, 72) := by kernel_rfl
theorem isn55 : (Tryz.f55.name == "runtime.NumGoroutine") = false := by kernel_rfl
theorem isn56 : (Tryz.f56.name == "runtime.NumGoroutine") = false := by kernel_rfl
theorem places147 : placesOf Tryz.prog [{ name := "layout", type := 58, offset := 0, embedded := false, tag := "", pkgPath := "pub-orthodrome/pub/gogeom", byteOffset := 0 }, { name := "geoms", type := 145, offset := 1, embedded := false, tag := "", pkgPath := "pub-orthodrome/pub/gogeom", byteOffset := 8 }, { name := "srid", type := 3, offset := 2, embedded := false, tag := "", pkgPath := "pub-orthodrome/pub/gogeom", byteOffset := 32 }] = [(0, 1), (1, 1), (2, 1)] := by kernel_rfl
theorem has147 : ∀ f ∈ ([{ name := "layout", type := 58, offset := 0, embedded := false, tag := "", pkgPath := "pub-orthodrome/pub/gogeom", byteOffset := 0 }, { name := "geoms", type := 145, offset := 1, embedded := false, tag := "", pkgPath := "pub-orthodrome/pub/gogeom", byteOffset := 8 }, { name := "srid", type := 3, offset := 2, embedded := false, tag := "", pkgPath := "pub-orthodrome/pub/gogeom", byteOffset := 32 }] : List Field), (Tryz.prog.info? f.type).isSome = true := fun f hf => all_of (p := fun f => (Tryz.prog.info? f.type).isSome) (by kernel_rfl) f hf
theorem info147 : (Tryz.prog.info? 147).map (fun i => (i.zero, i.size, i.bytes)) = some (some (.agg #[.int .i64 0, .slice none 0 0, .int .i64 0]), 3, 40) := by kernel_rfl
theorem isn57 : (Tryz.f57.name == "runtime.NumGoroutine") = false := by kernel_rfl
theorem isn59 : (Tryz.f59.name == "runtime.NumGoroutine") = false := by kernel_rfl
theorem isn76 : (Tryz.f76.name == "runtime.NumGoroutine") = false := by kernel_rfl
theorem isn88 : (Tryz.f88.name == "runtime.NumGoroutine") = false := by kernel_rfl
theorem info145 : (Tryz.prog.info? 145).map (fun i => (i.zero, i.size, i.bytes)) = some (some (.slice none 0 0), 1, 24) := by kernel_rfl
theorem flat145 : Flat Tryz.prog 145 := ⟨_, Tryz.underlying145, fun _ h => (nomatch h), fun _ _ h => (nomatch h)⟩
theorem nil_neq149_nilif : ∀ (w : World), (binOp .neq 149 .nilIface .nilIface).run Tryz.prog w = .ok (.bool false) w := fun _ => by kernel_rfl
theorem as60_62_60 : ∀ v w, (Instr.typeAssert (.iface 60 v) 62 60 false).run Tryz.prog w = .ok (v) w := fun _ _ => by kernel_rfl
theorem isn18 : (Tryz.f18.name == "runtime.NumGoroutine") = false := by kernel_rfl
theorem isn37 : (Tryz.f37.name == "runtime.NumGoroutine") = false := by kernel_rfl
theorem isn38 : (Tryz.f38.name == "runtime.NumGoroutine") = false := by kernel_rfl
theorem isn73 : (Tryz.f73.name == "runtime.NumGoroutine") = false := by kernel_rfl
theorem info65 : (Tryz.prog.info? 65).map (fun i => (i.zero, i.size, i.bytes)) = some (some (.slice none 0 0), 1, 24) := by kernel_rfl
theorem flat65 : Flat Tryz.prog 65 := ⟨_, Tryz.underlying65, fun _ h => (nomatch h), fun _ _ h => (nomatch h)⟩
theorem isn21 : (Tryz.f21.name == "runtime.NumGoroutine") = false := by kernel_rfl
theorem flat58 : Flat Tryz.prog 58 := ⟨_, Tryz.underlying58, fun _ h => (nomatch h), fun _ _ h => (nomatch h)⟩
theorem idle16 : Idle Tryz.prog 16 2 := fun vs w hv => by
  obtain ⟨v0, v1, rfl⟩ : ∃ v0 v1, vs = [v0, v1] := by
    obtain _ | ⟨v0, vs⟩ := vs
    · simp at hv
    obtain _ | ⟨v1, vs⟩ := vs
    · simp at hv
    obtain _ | ⟨u, vs⟩ := vs
    · exact ⟨v0, v1, rfl⟩
    · simp at hv
  refine callsD_of_wpS Tryz.func16 rfl fun c₀ cs hu => ?_
  apply wpS_seq
  apply wpS_region
  simp [wpOpsS, go_sem, recoverD, hu, Tryz.ntmps16, Exit.thenS]
  refine wpS_cond (t := false) (by simp [Act.eval, Array.replicate]) ?_
  simp only [Bool.false_eq_true, if_false]
  refine wpS_of_wp (wp_skip ?_)
  cases c₀
  simp_all [bodyPostS, results, Tryz.results16]
theorem isn16 : (Tryz.f16.name == "runtime.NumGoroutine") = false := by kernel_rfl
theorem isn7 : (Tryz.f7.name == "runtime.NumGoroutine") = false := by kernel_rfl
theorem isn22 : (Tryz.f22.name == "runtime.NumGoroutine") = false := by kernel_rfl
inductive T38 where
  | mk (x0 : Int) (x1 : Int) (x2 : Int) (x3 : List Nat) (x4 : List Int) (x5 : List (List Int)) (x6 : List T38) : T38
def T38.f0 : T38 → Int
  | .mk x0 x1 x2 x3 x4 x5 x6 => x0
def T38.f1 : T38 → Int
  | .mk x0 x1 x2 x3 x4 x5 x6 => x1
def T38.f2 : T38 → Int
  | .mk x0 x1 x2 x3 x4 x5 x6 => x2
def T38.f3 : T38 → List Nat
  | .mk x0 x1 x2 x3 x4 x5 x6 => x3
def T38.f4 : T38 → List Int
  | .mk x0 x1 x2 x3 x4 x5 x6 => x4
def T38.f5 : T38 → List (List Int)
  | .mk x0 x1 x2 x3 x4 x5 x6 => x5
def T38.f6 : T38 → List T38
  | .mk x0 x1 x2 x3 x4 x5 x6 => x6
def KT38d : Nat → Kd T38
  | 0 => ⟨7, fun _ => List.replicate 7 (Vl undef), fun _ => rfl⟩
  | n + 1 => ⟨7, fun x => [(Vl (.int .i64 x.f0)), (Vl (.int .i64 x.f1)), (Vl (.int .i64 x.f2)), (Sl Kf x.f3), (Sl (Ki .i64) x.f4), (Sl (Kl (Ki .i64)) x.f5), (Sl (KT38d n) x.f6)], fun _ => rfl⟩
def T38.depth : T38 → Nat
  | .mk x0 x1 x2 x3 x4 x5 x6 => ((x6.attach.map fun y => T38.depth y.1).foldl Nat.max 0) + 1
termination_by x => SizeOf.sizeOf x
decreasing_by
  have := List.sizeOf_lt_of_mem y.2
  simp only [T38.mk.sizeOf_spec]
  omega
def KT38 : Kd T38 := ⟨7, fun x => (KT38d x.depth).enc x, fun x => by cases h : x.depth <;> rfl⟩
theorem KT38_depth (x : T38) (y : T38) (h : y ∈ x.f6) : y.depth < x.depth := by
  cases x with
  | mk x0 x1 x2 x3 x4 x5 x6 =>
    rw [T38.depth]
    have := Go.Sx.le_foldl_max (x6.attach.map fun y => T38.depth y.1) 0 y.depth (List.mem_map.2 ⟨⟨y, h⟩, List.mem_attach _ _, rfl⟩)
    omega
theorem KT38_pos (x : T38) : 0 < x.depth := by cases x with | mk x0 x1 x2 x3 x4 x5 x6 => rw [T38.depth]; omega
theorem KT38_stable : ∀ (m n : Nat) (x : T38), x.depth ≤ m → x.depth ≤ n → (KT38d m).enc x = (KT38d n).enc x := by
  intro m
  induction m with
  | zero => intro n x h; have := KT38_pos x; omega
  | succ m ih =>
    intro n x h1 h2
    cases n with
    | zero => have := KT38_pos x; omega
    | succ n =>
      have : Sl (KT38d m) x.f6 = Sl (KT38d n) x.f6 := Go.Sx.sl_congr (by cases m <;> cases n <;> rfl) fun y hy => by
        have := KT38_depth x y hy
        exact ih n y (by omega) (by omega)
      show [(Vl (.int .i64 x.f0)), (Vl (.int .i64 x.f1)), (Vl (.int .i64 x.f2)), (Sl Kf x.f3), (Sl (Ki .i64) x.f4), (Sl (Kl (Ki .i64)) x.f5), (Sl (KT38d m) x.f6)] = [(Vl (.int .i64 x.f0)), (Vl (.int .i64 x.f1)), (Vl (.int .i64 x.f2)), (Sl Kf x.f3), (Sl (Ki .i64) x.f4), (Sl (Kl (Ki .i64)) x.f5), (Sl (KT38d n) x.f6)]
      rw [this]
theorem KT38_enc (x : T38) : KT38.enc x = [(Vl (.int .i64 x.f0)), (Vl (.int .i64 x.f1)), (Vl (.int .i64 x.f2)), (Sl Kf x.f3), (Sl (Ki .i64) x.f4), (Sl (Kl (Ki .i64)) x.f5), (Sl KT38 x.f6)] := by
  have hp := KT38_pos x
  obtain ⟨n, hn⟩ : ∃ n, x.depth = n + 1 := ⟨x.depth - 1, by omega⟩
  have : Sl (KT38d n) x.f6 = Sl KT38 x.f6 := Go.Sx.sl_congr (by cases n <;> rfl) fun y hy => by
    have := KT38_depth x y hy
    exact KT38_stable n y.depth y (by omega) (by omega)
  show (KT38d x.depth).enc x = _
  rw [hn]
  show [(Vl (.int .i64 x.f0)), (Vl (.int .i64 x.f1)), (Vl (.int .i64 x.f2)), (Sl Kf x.f3), (Sl (Ki .i64) x.f4), (Sl (Kl (Ki .i64)) x.f5), (Sl (KT38d n) x.f6)] = _
  rw [this]
inductive T38.Ok : T38 → Prop where
  | mk {x0 : Int} {x1 : Int} {x2 : Int} {x3 : List Nat} {x4 : List Int} {x5 : List (List Int)} {x6 : List T38} (g0 : IntKind.min .i64 ≤ x0 ∧ x0 ≤ IntKind.max .i64) (g1 : IntKind.min .i64 ≤ x1 ∧ x1 ≤ IntKind.max .i64) (g2 : IntKind.min .i64 ≤ x2 ∧ x2 ≤ IntKind.max .i64) (g3 : x3.length ≤ maxLen ∧ ∀ yx3 ∈ x3, yx3 < 18446744073709551616) (g4 : x4.length ≤ maxLen ∧ ∀ yx4 ∈ x4, IntKind.min .i64 ≤ yx4 ∧ yx4 ≤ IntKind.max .i64) (g5 : x5.length ≤ maxLen ∧ ∀ yx5 ∈ x5, yx5.length ≤ maxLen ∧ ∀ yyx5 ∈ yx5, IntKind.min .i64 ≤ yyx5 ∧ yyx5 ≤ IntKind.max .i64) (g6 : x6.length ≤ maxLen) (gk : ∀ y ∈ x6, T38.Ok y) : T38.Ok (.mk x0 x1 x2 x3 x4 x5 x6)
inductive T38.OkW : T38 → Prop where
  | mk {x0 : Int} {x1 : Int} {x2 : Int} {x3 : List Nat} {x4 : List Int} {x5 : List (List Int)} {x6 : List T38} (g0 : IntKind.min .i64 ≤ x0 ∧ x0 ≤ IntKind.max .i64) (g1 : IntKind.min .i64 ≤ x1 ∧ x1 ≤ IntKind.max .i64) (g2 : IntKind.min .i64 ≤ x2 ∧ x2 ≤ IntKind.max .i64) (g3 : x3.length * 8 ≤ 140737488351232 ∧ ∀ yx3 ∈ x3, yx3 < 18446744073709551616) (g4 : x4.length * 8 ≤ 140737488351232 ∧ ∀ yx4 ∈ x4, IntKind.min .i64 ≤ yx4 ∧ yx4 ≤ IntKind.max .i64) (g5 : x5.length * 24 ≤ 140737488351232 ∧ ∀ yx5 ∈ x5, yx5.length * 8 ≤ 140737488351232 ∧ ∀ yyx5 ∈ yx5, IntKind.min .i64 ≤ yyx5 ∧ yyx5 ≤ IntKind.max .i64) (g6 : x6.length * 120 ≤ 140737488351232) (gk : ∀ y ∈ x6, T38.OkW y) : T38.OkW (.mk x0 x1 x2 x3 x4 x5 x6)

def KT72 : Kd (Nat × Nat) := ⟨2, fun x => [(Vl (.float .f64 x.1)), (Vl (.float .f64 x.2))], fun _ => rfl⟩
def KT53 : Kd (Bool × (List Int) × Int × Bool × (List Int) × Int) := ⟨6, fun x => [(Vl (.bool x.1)), (Sl (Ki .u32) x.2.1), (Vl (.int .i64 x.2.2.1)), (Vl (.bool x.2.2.2.1)), (Sl (Ki .u32) x.2.2.2.2.1), (Vl (.int .i64 x.2.2.2.2.2))], fun _ => rfl⟩

def spec_Stride_j1 (k : Nat) (a0 : Int) (x1 : Bool) : Option (Int) :=
 br x1
  (some 3)
  (some a0)
def spec_Stride (k : Nat) (a0 : Int) : Option (Int) :=
 br (decide (a0 < 1))
  (some 0)
  (br (decide (a0 = 1))
   (some 2)
   (br (decide (a0 = 2))
    (spec_Stride_j1 k a0 true)
    (spec_Stride_j1 k a0 (decide (a0 = 3)))))

theorem spec_Stride_sim {k : Nat}  (a0 : Int) {out : Int} (hp : spec_Stride k a0 = some out) : Sx.Fn Tryz.prog 8 [(Vi a0)] [] (fun w : Unit => (Vi out)) (fun w => []) := by
 unfold spec_Stride at hp
 refine fn_of Tryz.func8 rfl Tryz.ntmps8 rfl fun E hM => ?_
 refine cr fun K1 hK1 => ?_
 refine s0 (rd_assign' rfl) ?_
 refine nk hK1 ?_
 refine cx_seq' fun K2 hK2 => ?_
 refine cx_block' ?_
 refine cr fun K3 hK3 => ?_
 refine s0 (rd_move' rfl) ?_
 refine s0 (rd_bin' rfl rfl eg_int ru_lss) ?_
 refine s0 (rd_assign' rfl) ?_
 refine nk hK3 ?_
 refine cx_cond' rfl (fun h1 => ?_) (fun h1 => ?_)
 ·replace hp := (br_t h1).symm.trans hp
  refine cr fun K4 hK4 => ?_
  refine s0 (rd_assign' rfl) ?_
  refine nk hK4 ?_
  refine cx_retc' ?_
  replace hp := Option.some.inj hp
  subst hp
  refine tx_pick' (L' := [(2, (Vi 0))]) (H' := []) [] (sub_cons rfl sub_nil) (by decide) pick_nil ?_
  exact tx_ret1' Tryz.results8 rfl () (rv_tmp' rfl) (List.Sublist.refl _)
 replace hp := (br_f h1).symm.trans hp
 refine cr fun K5 hK5 => ?_
 refine s0 (rd_move' rfl) ?_
 refine s0 (rd_bin' rfl rfl eg_int ru_eql) ?_
 refine s0 (rd_assign' rfl) ?_
 refine nk hK5 ?_
 refine cx_cond' rfl (fun h2 => ?_) (fun h2 => ?_)
 ·replace hp := (br_t h2).symm.trans hp
  refine cr fun K6 hK6 => ?_
  refine s0 (rd_assign' rfl) ?_
  refine nk hK6 ?_
  refine cx_retc' ?_
  replace hp := Option.some.inj hp
  subst hp
  refine tx_pick' (L' := [(2, (Vi 2))]) (H' := []) [] (sub_cons rfl sub_nil) (by decide) pick_nil ?_
  exact tx_ret1' Tryz.results8 rfl () (rv_tmp' rfl) (List.Sublist.refl _)
 replace hp := (br_f h2).symm.trans hp
 refine cr fun K7 hK7 => ?_
 refine s0 (rd_move' rfl) ?_
 refine s0 (rd_bin' rfl rfl eg_int ru_eql) ?_
 refine s0 (rd_move' rfl) ?_
 refine sx_cutn' 3 (fun (v1 : Bool) => (⟨17, [], [(0, (Vi a0)), (15, (Vb v1))], []⟩ : St)) (fun (v1 : Bool) => spec_Stride_j1 k a0 v1 = some out) ?_ ?_
 ·rintro x1 hp
  replace hp : spec_Stride_j1 k a0 x1 = some out := hp
  unfold spec_Stride_j1 at hp
  refine s0 (rd_assign' rfl) ?_
  refine nk hK7 ?_
  refine cx_cond' rfl (fun h4 => ?_) (fun h4 => ?_)
  ·replace hp := (br_t h4).symm.trans hp
   refine cr fun K9 hK9 => ?_
   refine s0 (rd_assign' rfl) ?_
   refine nk hK9 ?_
   refine cx_retc' ?_
   replace hp := Option.some.inj hp
   subst hp
   refine tx_pick' (L' := [(2, (Vi 3))]) (H' := []) [] (sub_cons rfl sub_nil) (by decide) pick_nil ?_
   exact tx_ret1' Tryz.results8 rfl () (rv_tmp' rfl) (List.Sublist.refl _)
  replace hp := (br_f h4).symm.trans hp
  refine cx_skip' ?_
  show TX E K2 _
  refine tx_k' hK2 ?_
  refine cr fun K10 hK10 => ?_
  refine s0 (rd_move' rfl) ?_
  refine s0 (rd_assign' rfl) ?_
  refine nk hK10 ?_
  refine cx_retc' ?_
  replace hp := Option.some.inj hp
  subst hp
  refine tx_pick' (L' := [(2, (Vi a0))]) (H' := []) [] (sub_cons rfl sub_nil) (by decide) pick_nil ?_
  exact tx_ret1' Tryz.results8 rfl () (rv_tmp' rfl) (List.Sublist.refl _)
 intro K8 hK8
 rcases br_cases hp with ⟨h3, hp⟩ | ⟨h3, hp⟩
 ·refine sx_skip' rfl rfl (wt_is' (wt_guard' rfl rfl rfl) (beq_tf h3)) ?_
  refine sx_skip' rfl rfl (wt_is' (wt_guard' rfl rfl rfl) (beq_tf h3)) ?_
  refine s0 (rd_pick_true' rfl h3 rfl) ?_
  refine sx_nil' ?_
  show TX E K8 _
  exact tx_pick' [] (sub_cons rfl (sub_cons rfl sub_nil)) (by decide) pick_nil (hK8 true hp)
 refine sx_rd' (rd_move' rfl) rfl rfl (wt_is' (wt_guard' rfl rfl rfl) (beq_ff h3)) ?_
 refine sx_rd' (rd_bin' rfl rfl eg_int ru_eql) rfl rfl (wt_is' (wt_guard' rfl rfl rfl) (beq_ff h3)) ?_
 refine s0 (rd_pick_false' rfl h3 rfl) ?_
 refine sx_nil' ?_
 show TX E K8 _
 exact tx_pick' [] (sub_cons rfl (sub_cons rfl sub_nil)) (by decide) pick_nil (hK8 (decide (a0 = 3)) hp)

def spec_goodEnds_j6 (k : Nat) (x7 : Int) (rec1 : (Int × Int) → Option (Int ⊕ Int)) (r16 : Int) (x8 : Int) (x6 : Bool) : Option (Int ⊕ Int) :=
 br x6
  (some (.inl x7))
  (rec1 (r16, (iadd .i64 x8 1)))
def spec_goodEnds_j5 (k : Nat) (x7 : Int) (rec1 : (Int × Int) → Option (Int ⊕ Int)) (r16 : Int) (x8 : Int) (x5 : Bool) : Option (Int ⊕ Int) :=
 spec_goodEnds_j6 k x7 rec1 r16 x8 x5
def spec_goodEnds_j4 (k : Nat) (x7 : Int) (rec1 : (Int × Int) → Option (Int ⊕ Int)) (r16 : Int) (x8 : Int) (a3 : Bool) (a2 : Int) (x4 : Bool) : Option (Int ⊕ Int) :=
 br x4
  (spec_goodEnds_j6 k x7 rec1 r16 x8 true)
  (br a3
   (spec_goodEnds_j5 k x7 rec1 r16 x8 (decide (a2 < (isub .i64 r16 x7))))
   (spec_goodEnds_j5 k x7 rec1 r16 x8 false))
def spec_goodEnds_l1s (a0 : List Int) (a3 : Bool) (a2 : Int) (k : Nat) (rec1 : (Int × Int) → Option (Int ⊕ Int)) (x7 : Int) (x8 : Int) : Option (Int ⊕ Int) :=
 br (decide (x8 < (a0.length : Int)))
  ((idx a0 x8) >>= fun r16 =>
  br (decide (r16 < x7))
   (spec_goodEnds_j4 k x7 rec1 r16 x8 a3 a2 true)
   ((irem (isub .i64 r16 x7) a2) >>= fun r26 =>
   spec_goodEnds_j4 k x7 rec1 r16 x8 a3 a2 (!decide (r26 = 0))))
  (some (.inr x7))
def spec_goodEnds_l1 (a0 : List Int) (a3 : Bool) (a2 : Int) : Nat → (Int × Int) → Option (Int ⊕ Int)
 | 0, _ => none
 | k + 1, v => spec_goodEnds_l1s a0 a3 a2 k (spec_goodEnds_l1 a0 a3 a2 k) v.1 v.2
def spec_goodEnds (k : Nat) (a0 : List Int) (a1 : Int) (a2 : Int) (a3 : Bool) : Option (Int × Bool) :=
 (spec_goodEnds_l1 a0 a3 a2 k (a1, 0)) >>= fun y1 => match y1 with
  | (.inl v8) =>
   (some (v8, false))
  | (.inr v9) =>
   (some (v9, true))

theorem spec_goodEnds_sim {k : Nat}  (a0 : List Int) (a1 : Int) (a2 : Int) (a3 : Bool) {out : Int × Bool} (hp : spec_goodEnds k a0 a1 a2 a3 = some out) : Sx.Fn Tryz.prog 24 [(Sl (Ki .i64) a0), (Vi a1), (Vi a2), (Vb a3)] [] (fun w : Unit => (Tu [(Vi out.1), (Vb out.2)])) (fun w => []) := by
 unfold spec_goodEnds at hp
 refine fn_of Tryz.func24 rfl Tryz.ntmps24 rfl fun E hM => ?_
 refine cr fun K1 hK1 => ?_
 refine s0 (rd_assign' rfl) ?_
 refine s0 (rd_assign' rfl) ?_
 refine nk hK1 ?_
 refine cx_seq' fun K2 hK2 => ?_
 refine cr fun K3 hK3 => ?_
 refine s0 (rd_move' rfl) ?_
 refine s0 (rd_len' rfl Tryz.underlying35) ?_
 refine s0 (rd_move' rfl) ?_
 refine nk hK3 ?_
 refine cx_block' ?_
 obtain ⟨y1, hy1, hp⟩ := bind_some hp
 refine cx_loopg' (F := spec_goodEnds_l1 a0 a3 a2) (G := fun k R v => spec_goodEnds_l1s a0 a3 a2 k R v.1 v.2) (x := (a1, 0)) (gh := ()) (fun (v4 : Int × Int) (w4 : Unit) => (⟨43, [], [(1, (Vi v4.1)), (2, (Vi a2)), (3, (Vb a3)), (12, (Sl (Ki .i64) a0)), (13, (Vi (a0.length : Int))), (14, (Vi v4.2))], []⟩ : St)) (fun (y : Int ⊕ Int) => match y with | (.inl v8) => Zg E Exit.ret (fun (w8 : Unit) => (⟨43, [], [(8, (Vi v8)), (9, (Vb false))], []⟩ : St)) | (.inr v9) => Zg E (Exit.exit 0) (fun (w9 : Unit) => (⟨43, [], [(1, (Vi v9))], []⟩ : St))) (fun _ => rfl) (fun _ _ => rfl) ?_ hy1 (tx_to' rfl [] (sub_cons rfl (sub_cons rfl (sub_cons rfl (sub_cons rfl (sub_cons rfl (sub_cons rfl sub_nil)))))) (by decide) pick_nil) ?_
 ·clear hp hy1
  clear y1
  intro k rec1 KY1 ih1
  rintro ⟨x7, x8⟩ ⟨⟩ y1 hp
  replace hp : spec_goodEnds_l1s a0 a3 a2 k rec1 x7 x8 = some y1 := hp
  unfold spec_goodEnds_l1s at hp
  refine cr fun K14 hK14 => ?_
  refine s0 (rd_bin' rfl rfl eg_int ru_lss) ?_
  refine nk hK14 ?_
  refine cx_seq' fun K15 hK15 => ?_
  refine cx_cond' rfl (fun h7 => ?_) (fun h7 => ?_)
  ·replace hp := (br_t h7).symm.trans hp
   refine cx_skip' ?_
   show TX E K15 _
   refine tx_k' hK15 ?_
   refine cx_seq' fun K16 hK16 => ?_
   refine cx_block' ?_
   refine cr fun K17 hK17 => ?_
   obtain ⟨r16, hr16, hp⟩ := bind_some hp
   refine s0 (rd_at' (K := (Ki .i64)) rfl rfl hr16 Tryz.underlying35 info3) ?_
   refine s0 (rd_load_pt' rfl rfl flat3) ?_
   refine s0 (rd_assign' rfl) ?_
   refine nk hK17 ?_
   refine cx_seq' fun K18 hK18 => ?_
   refine cr fun K19 hK19 => ?_
   refine s0 (rd_move' rfl) ?_
   refine s0 (rd_move' rfl) ?_
   refine s0 (rd_bin' rfl rfl eg_int ru_lss) ?_
   refine s0 (rd_move' rfl) ?_
   refine sx_cutn' 7 (fun (v5 : Bool) => (⟨43, [], [(1, (Vi x7)), (2, (Vi a2)), (3, (Vb a3)), (11, (Vi r16)), (12, (Sl (Ki .i64) a0)), (13, (Vi (a0.length : Int))), (14, (Vi x8)), (28, (Vb v5))], []⟩ : St)) (fun (v5 : Bool) => spec_goodEnds_j4 k x7 rec1 r16 x8 a3 a2 v5 = some y1) ?_ ?_
   ·rintro x4 hp
    replace hp : spec_goodEnds_j4 k x7 rec1 r16 x8 a3 a2 x4 = some y1 := hp
    unfold spec_goodEnds_j4 at hp
    refine s0 (rd_move' rfl) ?_
    refine sx_cutn' 9 (fun (v7 : Bool) => (⟨43, [], [(1, (Vi x7)), (2, (Vi a2)), (3, (Vb a3)), (11, (Vi r16)), (12, (Sl (Ki .i64) a0)), (13, (Vi (a0.length : Int))), (14, (Vi x8)), (38, (Vb v7))], []⟩ : St)) (fun (v7 : Bool) => spec_goodEnds_j6 k x7 rec1 r16 x8 v7 = some y1) ?_ ?_
    ·rintro x6 hp
     replace hp : spec_goodEnds_j6 k x7 rec1 r16 x8 x6 = some y1 := hp
     unfold spec_goodEnds_j6 at hp
     refine nk hK19 ?_
     refine cx_cond' rfl (fun h11 => ?_) (fun h11 => ?_)
     ·replace hp := (br_t h11).symm.trans hp
      refine cr fun K23 hK23 => ?_
      refine s0 (rd_move' rfl) ?_
      refine s0 (rd_assign' rfl) ?_
      refine s0 (rd_assign' rfl) ?_
      refine nk hK23 ?_
      refine cx_retc' ?_
      replace hp := Option.some.inj hp
      subst hp
      show TX E (Zg E Exit.ret _ Exit.ret) _
      exact tx_zend' () rfl [] (sub_cons rfl (sub_cons rfl sub_nil)) (by decide) pick_nil
     replace hp := (br_f h11).symm.trans hp
     refine cx_skip' ?_
     show TX E K18 _
     refine tx_k' hK18 ?_
     refine cx_region' ?_
     refine s0 (rd_move' rfl) ?_
     refine s0 (rd_assign' rfl) ?_
     refine nk hK16 ?_
     refine cx_region' ?_
     refine s0 (rd_bin' rfl rfl eg_int ru_add) ?_
     refine s0 (rd_move' rfl) ?_
     refine sx_nil' ?_
     show TX E (KY1 _) _
     exact tx_pick' [] (sub_cons rfl (sub_cons rfl (sub_cons rfl (sub_cons rfl (sub_cons rfl (sub_cons rfl sub_nil)))))) (by decide) pick_nil (ih1 (r16, (iadd .i64 x8 1)) () _ hp)
    intro K22 hK22
    rcases br_cases hp with ⟨h9, hp⟩ | ⟨h9, hp⟩
    ·refine sx_skip' rfl rfl (wt_is' (wt_guard' rfl rfl rfl) (beq_tf h9)) ?_
     refine sx_skip' rfl rfl (wt_is' (wt_guard' rfl rfl rfl) (beq_tf h9)) ?_
     refine sx_skip' rfl rfl (wt_undef' rfl rfl rfl) ?_
     refine sx_skip' rfl rfl (wt_undef' rfl rfl rfl) ?_
     refine sx_skip' rfl rfl (wt_undef' rfl rfl rfl) ?_
     refine sx_skip' rfl rfl (wt_undef' rfl rfl rfl) ?_
     refine sx_skip' rfl rfl (wt_undef' rfl rfl rfl) ?_
     refine sx_skip' rfl rfl (wt_is' (wt_guard' rfl rfl rfl) (beq_tf h9)) ?_
     refine s0 (rd_pick_true' rfl h9 rfl) ?_
     refine sx_nil' ?_
     show TX E K22 _
     exact tx_pick' [] (sub_cons rfl (sub_cons rfl (sub_cons rfl (sub_cons rfl (sub_cons rfl (sub_cons rfl (sub_cons rfl (sub_cons rfl sub_nil)))))))) (by decide) pick_nil (hK22 true hp)
    refine sx_rd' (rd_move' rfl) rfl rfl (wt_is' (wt_guard' rfl rfl rfl) (beq_ff h9)) ?_
    refine sx_rd' (rd_move' rfl) rfl rfl (wt_is' (wt_guard' rfl rfl rfl) (beq_ff h9)) ?_
    refine sx_cutn' 7 (fun (v6 : Bool) => (⟨43, [], [(1, (Vi x7)), (2, (Vi a2)), (3, (Vb a3)), (11, (Vi r16)), (12, (Sl (Ki .i64) a0)), (13, (Vi (a0.length : Int))), (14, (Vi x8)), (38, (Vb v6))], []⟩ : St)) (fun (v6 : Bool) => spec_goodEnds_j5 k x7 rec1 r16 x8 v6 = some y1) ?_ ?_
    ·rintro x5 hp
     replace hp : spec_goodEnds_j5 k x7 rec1 r16 x8 x5 = some y1 := hp
     unfold spec_goodEnds_j5 at hp
     refine sx_nil' ?_
     show TX E K22 _
     exact tx_pick' [] (sub_cons rfl (sub_cons rfl (sub_cons rfl (sub_cons rfl (sub_cons rfl (sub_cons rfl (sub_cons rfl (sub_cons rfl sub_nil)))))))) (by decide) pick_nil (hK22 x5 hp)
    intro K21 hK21
    rcases br_cases hp with ⟨h10, hp⟩ | ⟨h10, hp⟩
    ·refine sx_rd' (rd_move' rfl) rfl rfl (wt_is' (wt_guard' rfl rfl rfl) (beq_tt h10)) ?_
     refine sx_rd' (rd_move' rfl) rfl rfl (wt_is' (wt_guard' rfl rfl rfl) (beq_tt h10)) ?_
     refine sx_rd' (rd_bin' rfl rfl eg_int ru_sub) rfl rfl (wt_is' (wt_guard' rfl rfl rfl) (beq_tt h10)) ?_
     refine sx_rd' (rd_move' rfl) rfl rfl (wt_is' (wt_guard' rfl rfl rfl) (beq_tt h10)) ?_
     refine sx_rd' (rd_bin' rfl rfl eg_int ru_gtr) rfl rfl (wt_is' (wt_guard' rfl rfl rfl) (beq_tt h10)) ?_
     refine sx_rd' (rd_pick_true' rfl h10 rfl) rfl rfl (wt_is' (wt_guard' rfl rfl rfl) (beq_ff h9)) ?_
     refine s0 (rd_pick_false' rfl h9 rfl) ?_
     refine sx_nil' ?_
     show TX E K21 _
     exact tx_pick' [] (sub_cons rfl (sub_cons rfl (sub_cons rfl (sub_cons rfl (sub_cons rfl (sub_cons rfl (sub_cons rfl (sub_cons rfl sub_nil)))))))) (by decide) pick_nil (hK21 (decide (a2 < (isub .i64 r16 x7))) hp)
    refine sx_skip' rfl rfl (wt_is' (wt_guard' rfl rfl rfl) (beq_ft h10)) ?_
    refine sx_skip' rfl rfl (wt_is' (wt_guard' rfl rfl rfl) (beq_ft h10)) ?_
    refine sx_skip' rfl rfl (wt_is' (wt_guard' rfl rfl rfl) (beq_ft h10)) ?_
    refine sx_skip' rfl rfl (wt_is' (wt_guard' rfl rfl rfl) (beq_ft h10)) ?_
    refine sx_skip' rfl rfl (wt_is' (wt_guard' rfl rfl rfl) (beq_ft h10)) ?_
    refine sx_rd' (rd_pick_false' rfl h10 rfl) rfl rfl (wt_is' (wt_guard' rfl rfl rfl) (beq_ff h9)) ?_
    refine s0 (rd_pick_false' rfl h9 rfl) ?_
    refine sx_nil' ?_
    show TX E K21 _
    exact tx_pick' [] (sub_cons rfl (sub_cons rfl (sub_cons rfl (sub_cons rfl (sub_cons rfl (sub_cons rfl (sub_cons rfl (sub_cons rfl sub_nil)))))))) (by decide) pick_nil (hK21 false hp)
   intro K20 hK20
   rcases br_cases hp with ⟨h8, hp⟩ | ⟨h8, hp⟩
   ·refine sx_skip' rfl rfl (wt_is' (wt_guard' rfl rfl rfl) (beq_tf h8)) ?_
    refine sx_skip' rfl rfl (wt_is' (wt_guard' rfl rfl rfl) (beq_tf h8)) ?_
    refine sx_skip' rfl rfl (wt_is' (wt_guard' rfl rfl rfl) (beq_tf h8)) ?_
    refine sx_skip' rfl rfl (wt_is' (wt_guard' rfl rfl rfl) (beq_tf h8)) ?_
    refine sx_skip' rfl rfl (wt_is' (wt_guard' rfl rfl rfl) (beq_tf h8)) ?_
    refine sx_skip' rfl rfl (wt_is' (wt_guard' rfl rfl rfl) (beq_tf h8)) ?_
    refine s0 (rd_pick_true' rfl h8 rfl) ?_
    refine sx_nil' ?_
    show TX E K20 _
    exact tx_pick' [] (sub_cons rfl (sub_cons rfl (sub_cons rfl (sub_cons rfl (sub_cons rfl (sub_cons rfl (sub_cons rfl (sub_cons rfl sub_nil)))))))) (by decide) pick_nil (hK20 true hp)
   refine sx_rd' (rd_move' rfl) rfl rfl (wt_is' (wt_guard' rfl rfl rfl) (beq_ff h8)) ?_
   refine sx_rd' (rd_move' rfl) rfl rfl (wt_is' (wt_guard' rfl rfl rfl) (beq_ff h8)) ?_
   refine sx_rd' (rd_bin' rfl rfl eg_int ru_sub) rfl rfl (wt_is' (wt_guard' rfl rfl rfl) (beq_ff h8)) ?_
   refine sx_rd' (rd_move' rfl) rfl rfl (wt_is' (wt_guard' rfl rfl rfl) (beq_ff h8)) ?_
   obtain ⟨r26, hr26, hp⟩ := bind_some hp
   refine sx_rd' (rd_bin' rfl rfl eg_int (ru_rem hr26)) rfl rfl (wt_is' (wt_guard' rfl rfl rfl) (beq_ff h8)) ?_
   refine sx_rd' (rd_bin' rfl rfl eg_int ru_neq) rfl rfl (wt_is' (wt_guard' rfl rfl rfl) (beq_ff h8)) ?_
   refine s0 (rd_pick_false' rfl h8 rfl) ?_
   refine sx_nil' ?_
   show TX E K20 _
   exact tx_pick' [] (sub_cons rfl (sub_cons rfl (sub_cons rfl (sub_cons rfl (sub_cons rfl (sub_cons rfl (sub_cons rfl (sub_cons rfl sub_nil)))))))) (by decide) pick_nil (hK20 (!decide (r26 = 0)) hp)
  replace hp := (br_f h7).symm.trans hp
  refine cx_exit' ?_
  replace hp := Option.some.inj hp
  subst hp
  show TX E (Zg E (Exit.exit 0) _ (Exit.exit 0)) _
  exact tx_zend' () rfl [] (sub_cons rfl sub_nil) (by decide) pick_nil
 rcases y1 with v8 | v9
 ·dsimp only at hp
  refine zg_out fun w8 => ?_
  replace hp := Option.some.inj hp
  subst hp
  refine tx_pick' (L' := [(8, (Vi v8)), (9, (Vb false))]) (H' := []) [] (sub_cons rfl (sub_cons rfl sub_nil)) (by decide) pick_nil ?_
  exact tx_ret2' Tryz.results24 rfl () (rv_tmp' rfl) (rv_tmp' rfl) rfl (List.Sublist.refl _)
 dsimp only at hp
 refine zg_out fun w9 => ?_
 show TX E K2 _
 refine tx_k' hK2 ?_
 refine cr fun K24 hK24 => ?_
 refine s0 (rd_move' rfl) ?_
 refine s0 (rd_assign' rfl) ?_
 refine s0 (rd_assign' rfl) ?_
 refine nk hK24 ?_
 refine cx_retc' ?_
 replace hp := Option.some.inj hp
 subst hp
 refine tx_pick' (L' := [(8, (Vi v9)), (9, (Vb true))]) (H' := []) [] (sub_cons rfl (sub_cons rfl sub_nil)) (by decide) pick_nil ?_
 exact tx_ret2' Tryz.results24 rfl () (rv_tmp' rfl) (rv_tmp' rfl) rfl (List.Sublist.refl _)

def spec_Cover_j3 (k : Nat) (a0 : Int) (a1 : Int) (x3 : Bool) : Option (Int) :=
 br x3
  (some 4)
  (some (imax a0 a1))
def spec_Cover_j2 (k : Nat) (a0 : Int) (a1 : Int) (x2 : Bool) : Option (Int) :=
 spec_Cover_j3 k a0 a1 x2
def spec_Cover_j1 (k : Nat) (a0 : Int) (a1 : Int) (x1 : Bool) : Option (Int) :=
 br x1
  (spec_Cover_j3 k a0 a1 true)
  (br (decide (a0 = 3))
   (spec_Cover_j2 k a0 a1 (decide (a1 = 2)))
   (spec_Cover_j2 k a0 a1 false))
def spec_Cover (k : Nat) (a0 : Int) (a1 : Int) : Option (Int) :=
 br (decide (a0 = 2))
  (spec_Cover_j1 k a0 a1 (decide (a1 = 3)))
  (spec_Cover_j1 k a0 a1 false)

theorem spec_Cover_sim {k : Nat}  (a0 : Int) (a1 : Int) {out : Int} (hp : spec_Cover k a0 a1 = some out) : Sx.Fn Tryz.prog 61 [(Vi a0), (Vi a1)] [] (fun w : Unit => (Vi out)) (fun w => []) := by
 unfold spec_Cover at hp
 refine fn_of Tryz.func61 rfl Tryz.ntmps61 rfl fun E hM => ?_
 refine cr fun K1 hK1 => ?_
 refine s0 (rd_assign' rfl) ?_
 refine nk hK1 ?_
 refine cx_seq' fun K2 hK2 => ?_
 refine cr fun K3 hK3 => ?_
 refine s0 (rd_move' rfl) ?_
 refine s0 (rd_bin' rfl rfl eg_int ru_eql) ?_
 refine s0 (rd_move' rfl) ?_
 refine sx_cutn' 3 (fun (v1 : Bool) => (⟨22, [], [(0, (Vi a0)), (1, (Vi a1)), (10, (Vb v1))], []⟩ : St)) (fun (v1 : Bool) => spec_Cover_j1 k a0 a1 v1 = some out) ?_ ?_
 ·rintro x1 hp
  replace hp : spec_Cover_j1 k a0 a1 x1 = some out := hp
  unfold spec_Cover_j1 at hp
  refine s0 (rd_move' rfl) ?_
  refine sx_cutn' 7 (fun (v3 : Bool) => (⟨22, [], [(0, (Vi a0)), (1, (Vi a1)), (18, (Vb v3))], []⟩ : St)) (fun (v3 : Bool) => spec_Cover_j3 k a0 a1 v3 = some out) ?_ ?_
  ·rintro x3 hp
   replace hp : spec_Cover_j3 k a0 a1 x3 = some out := hp
   unfold spec_Cover_j3 at hp
   refine nk hK3 ?_
   refine cx_cond' rfl (fun h4 => ?_) (fun h4 => ?_)
   ·replace hp := (br_t h4).symm.trans hp
    refine cr fun K7 hK7 => ?_
    refine s0 (rd_assign' rfl) ?_
    refine nk hK7 ?_
    refine cx_retc' ?_
    replace hp := Option.some.inj hp
    subst hp
    refine tx_pick' (L' := [(4, (Vi 4))]) (H' := []) [] (sub_cons rfl sub_nil) (by decide) pick_nil ?_
    exact tx_ret1' Tryz.results61 rfl () (rv_tmp' rfl) (List.Sublist.refl _)
   replace hp := (br_f h4).symm.trans hp
   refine cx_skip' ?_
   show TX E K2 _
   refine tx_k' hK2 ?_
   refine cr fun K8 hK8 => ?_
   refine s0 (rd_move' rfl) ?_
   refine s0 (rd_move' rfl) ?_
   refine s0 (rd_imax' rfl rfl) ?_
   refine s0 (rd_assign' rfl) ?_
   refine nk hK8 ?_
   refine cx_retc' ?_
   replace hp := Option.some.inj hp
   subst hp
   refine tx_pick' (L' := [(4, (Vi (imax a0 a1)))]) (H' := []) [] (sub_cons rfl sub_nil) (by decide) pick_nil ?_
   exact tx_ret1' Tryz.results61 rfl () (rv_tmp' rfl) (List.Sublist.refl _)
  intro K6 hK6
  rcases br_cases hp with ⟨h2, hp⟩ | ⟨h2, hp⟩
  ·refine sx_skip' rfl rfl (wt_is' (wt_guard' rfl rfl rfl) (beq_tf h2)) ?_
   refine sx_skip' rfl rfl (wt_is' (wt_guard' rfl rfl rfl) (beq_tf h2)) ?_
   refine sx_skip' rfl rfl (wt_is' (wt_guard' rfl rfl rfl) (beq_tf h2)) ?_
   refine sx_skip' rfl rfl (wt_undef' rfl rfl rfl) ?_
   refine sx_skip' rfl rfl (wt_undef' rfl rfl rfl) ?_
   refine sx_skip' rfl rfl (wt_is' (wt_guard' rfl rfl rfl) (beq_tf h2)) ?_
   refine s0 (rd_pick_true' rfl h2 rfl) ?_
   refine sx_nil' ?_
   show TX E K6 _
   exact tx_pick' [] (sub_cons rfl (sub_cons rfl (sub_cons rfl sub_nil))) (by decide) pick_nil (hK6 true hp)
  refine sx_rd' (rd_move' rfl) rfl rfl (wt_is' (wt_guard' rfl rfl rfl) (beq_ff h2)) ?_
  refine sx_rd' (rd_bin' rfl rfl eg_int ru_eql) rfl rfl (wt_is' (wt_guard' rfl rfl rfl) (beq_ff h2)) ?_
  refine sx_rd' (rd_move' rfl) rfl rfl (wt_is' (wt_guard' rfl rfl rfl) (beq_ff h2)) ?_
  refine sx_cutn' 4 (fun (v2 : Bool) => (⟨22, [], [(0, (Vi a0)), (1, (Vi a1)), (18, (Vb v2))], []⟩ : St)) (fun (v2 : Bool) => spec_Cover_j2 k a0 a1 v2 = some out) ?_ ?_
  ·rintro x2 hp
   replace hp : spec_Cover_j2 k a0 a1 x2 = some out := hp
   unfold spec_Cover_j2 at hp
   refine sx_nil' ?_
   show TX E K6 _
   exact tx_pick' [] (sub_cons rfl (sub_cons rfl (sub_cons rfl sub_nil))) (by decide) pick_nil (hK6 x2 hp)
  intro K5 hK5
  rcases br_cases hp with ⟨h3, hp⟩ | ⟨h3, hp⟩
  ·refine sx_rd' (rd_move' rfl) rfl rfl (wt_is' (wt_guard' rfl rfl rfl) (beq_tt h3)) ?_
   refine sx_rd' (rd_bin' rfl rfl eg_int ru_eql) rfl rfl (wt_is' (wt_guard' rfl rfl rfl) (beq_tt h3)) ?_
   refine sx_rd' (rd_pick_true' rfl h3 rfl) rfl rfl (wt_is' (wt_guard' rfl rfl rfl) (beq_ff h2)) ?_
   refine s0 (rd_pick_false' rfl h2 rfl) ?_
   refine sx_nil' ?_
   show TX E K5 _
   exact tx_pick' [] (sub_cons rfl (sub_cons rfl (sub_cons rfl sub_nil))) (by decide) pick_nil (hK5 (decide (a1 = 2)) hp)
  refine sx_skip' rfl rfl (wt_is' (wt_guard' rfl rfl rfl) (beq_ft h3)) ?_
  refine sx_skip' rfl rfl (wt_is' (wt_guard' rfl rfl rfl) (beq_ft h3)) ?_
  refine sx_rd' (rd_pick_false' rfl h3 rfl) rfl rfl (wt_is' (wt_guard' rfl rfl rfl) (beq_ff h2)) ?_
  refine s0 (rd_pick_false' rfl h2 rfl) ?_
  refine sx_nil' ?_
  show TX E K5 _
  exact tx_pick' [] (sub_cons rfl (sub_cons rfl (sub_cons rfl sub_nil))) (by decide) pick_nil (hK5 false hp)
 intro K4 hK4
 rcases br_cases hp with ⟨h1, hp⟩ | ⟨h1, hp⟩
 ·refine sx_rd' (rd_move' rfl) rfl rfl (wt_is' (wt_guard' rfl rfl rfl) (beq_tt h1)) ?_
  refine sx_rd' (rd_bin' rfl rfl eg_int ru_eql) rfl rfl (wt_is' (wt_guard' rfl rfl rfl) (beq_tt h1)) ?_
  refine s0 (rd_pick_true' rfl h1 rfl) ?_
  refine sx_nil' ?_
  show TX E K4 _
  exact tx_pick' [] (sub_cons rfl (sub_cons rfl (sub_cons rfl sub_nil))) (by decide) pick_nil (hK4 (decide (a1 = 3)) hp)
 refine sx_skip' rfl rfl (wt_is' (wt_guard' rfl rfl rfl) (beq_ft h1)) ?_
 refine sx_skip' rfl rfl (wt_is' (wt_guard' rfl rfl rfl) (beq_ft h1)) ?_
 refine s0 (rd_pick_false' rfl h1 rfl) ?_
 refine sx_nil' ?_
 show TX E K4 _
 exact tx_pick' [] (sub_cons rfl (sub_cons rfl (sub_cons rfl sub_nil))) (by decide) pick_nil (hK4 false hp)

def spec_LayoutOf_l1s (a0_6 : List T38) (recf : Int → Int → Int → (List Nat) → (List Int) → (List (List Int)) → (List T38) → Option (Int)) (k : Nat) (rec1 : (Int × Int) → Option (Int)) (x3 : Int) (x4 : Int) : Option (Int) :=
 br (decide (x4 < (a0_6.length : Int)))
  ((idx a0_6 x4) >>= fun r21 =>
  (recf r21.f0 r21.f1 r21.f2 r21.f3 r21.f4 r21.f5 r21.f6) >>= fun r25 =>
  (spec_Cover k x3 r25) >>= fun r26 =>
  rec1 (r26, (iadd .i64 x4 1)))
  (some x3)
def spec_LayoutOf_l1 (a0_6 : List T38) (recf : Int → Int → Int → (List Nat) → (List Int) → (List (List Int)) → (List T38) → Option (Int)) : Nat → (Int × Int) → Option (Int)
 | 0, _ => none
 | k + 1, v => spec_LayoutOf_l1s a0_6 recf k (spec_LayoutOf_l1 a0_6 recf k) v.1 v.2
def spec_LayoutOf_j1 (k : Nat) (a0_1 : Int) (a0_6 : List T38) (recf : Int → Int → Int → (List Nat) → (List Int) → (List (List Int)) → (List T38) → Option (Int)) (x1 : Bool) : Option (Int) :=
 br x1
  (some a0_1)
  ((spec_LayoutOf_l1 a0_6 recf k (a0_1, 0)) >>= fun v4 =>
  some v4)
def spec_LayoutOf_b (recf : Int → Int → Int → (List Nat) → (List Int) → (List (List Int)) → (List T38) → Option (Int)) (k : Nat) (a0_0 : Int) (a0_1 : Int) (a0_2 : Int) (a0_3 : List Nat) (a0_4 : List Int) (a0_5 : List (List Int)) (a0_6 : List T38) : Option (Int) :=
 br (!decide (a0_0 = 7))
  (spec_LayoutOf_j1 k a0_1 a0_6 recf true)
  (spec_LayoutOf_j1 k a0_1 a0_6 recf (!decide (a0_1 = 0)))
def spec_LayoutOf : Nat → Int → Int → Int → (List Nat) → (List Int) → (List (List Int)) → (List T38) → Option (Int)
 | 0 => fun _ _ _ _ _ _ _ => none
 | k + 1 => fun a0_0 a0_1 a0_2 a0_3 a0_4 a0_5 a0_6 => spec_LayoutOf_b (spec_LayoutOf k) k a0_0 a0_1 a0_2 a0_3 a0_4 a0_5 a0_6

theorem spec_LayoutOf_b_sim {recf : Int → Int → Int → (List Nat) → (List Int) → (List (List Int)) → (List T38) → Option (Int)} (hrec : ∀  (a0_0 : Int) (a0_1 : Int) (a0_2 : Int) (a0_3 : List Nat) (a0_4 : List Int) (a0_5 : List (List Int)) (a0_6 : List T38) (out : Int), recf a0_0 a0_1 a0_2 a0_3 a0_4 a0_5 a0_6 = some out → Sx.Fn Tryz.prog 23 [(Ag [(Vi a0_0), (Vi a0_1), (Vi a0_2), (Sl Kf a0_3), (Sl (Ki .i64) a0_4), (Sl (Kl (Ki .i64)) a0_5), (Sl KT38 a0_6)])] [] (fun w : Unit => (Vi out)) (fun w => [])) {k : Nat}  (a0_0 : Int) (a0_1 : Int) (a0_2 : Int) (a0_3 : List Nat) (a0_4 : List Int) (a0_5 : List (List Int)) (a0_6 : List T38) {out : Int} (hp : spec_LayoutOf_b recf k a0_0 a0_1 a0_2 a0_3 a0_4 a0_5 a0_6 = some out) : Sx.Fn Tryz.prog 23 [(Ag [(Vi a0_0), (Vi a0_1), (Vi a0_2), (Sl Kf a0_3), (Sl (Ki .i64) a0_4), (Sl (Kl (Ki .i64)) a0_5), (Sl KT38 a0_6)])] [] (fun w : Unit => (Vi out)) (fun w => []) := by
 unfold spec_LayoutOf_b at hp
 refine fn_of Tryz.func23 rfl Tryz.ntmps23 rfl fun E hM => ?_
 refine cr fun K1 hK1 => ?_
 refine sx_ox' (ox_box' rfl (lv_ag _) rfl rfl) (wt_none' rfl) fun q1 => ?_
 refine s0 (rd_assign' rfl) ?_
 refine nk hK1 ?_
 refine cr fun K2 hK2 => ?_
 refine s0 (rd_field' (off := 1) rfl Tryz.underlying38 rfl info3 rfl) ?_
 refine s0 (rd_load' (i := 0) (o := 1) rfl ⟨rfl, rfl, rfl, rfl⟩ rfl flat3) ?_
 refine s0 (rd_assign' rfl) ?_
 refine nk hK2 ?_
 refine cx_seq' fun K3 hK3 => ?_
 refine cr fun K4 hK4 => ?_
 refine s0 (rd_field0' rfl Tryz.underlying38 rfl info3 rfl) ?_
 refine s0 (rd_load' (i := 0) (o := 0) rfl ⟨rfl, rfl, rfl, rfl⟩ rfl flat3) ?_
 refine s0 (rd_bin' rfl rfl eg_int ru_neq) ?_
 refine s0 (rd_move' rfl) ?_
 refine sx_cutn' 3 (fun (v1 : Bool) => (⟨29, [], [(1, (Vp q1)), (3, (Vi a0_1)), (14, (Vb v1))], [⟨.pointer (some q1), [(Vi a0_0), (Vi a0_1), (Vi a0_2), (Sl Kf a0_3), (Sl (Ki .i64) a0_4), (Sl (Kl (Ki .i64)) a0_5), (Sl KT38 a0_6)], 38, none⟩]⟩ : St)) (fun (v1 : Bool) => spec_LayoutOf_j1 k a0_1 a0_6 recf v1 = some out) ?_ ?_
 ·rintro x1 hp
  replace hp : spec_LayoutOf_j1 k a0_1 a0_6 recf x1 = some out := hp
  unfold spec_LayoutOf_j1 at hp
  refine nk hK4 ?_
  refine cx_cond' rfl (fun h2 => ?_) (fun h2 => ?_)
  ·replace hp := (br_t h2).symm.trans hp
   refine cr fun K6 hK6 => ?_
   refine s0 (rd_move' rfl) ?_
   refine s0 (rd_assign' rfl) ?_
   refine nk hK6 ?_
   refine cx_retc' ?_
   replace hp := Option.some.inj hp
   subst hp
   refine tx_pick' (L' := [(2, (Vi a0_1))]) (H' := []) [] (sub_cons rfl sub_nil) (by decide) pick_nil ?_
   exact tx_ret1' Tryz.results23 rfl () (rv_tmp' rfl) (List.Sublist.refl _)
  replace hp := (br_f h2).symm.trans hp
  refine cx_skip' ?_
  show TX E K3 _
  refine tx_k' hK3 ?_
  refine cx_seq' fun K7 hK7 => ?_
  refine cr fun K8 hK8 => ?_
  refine s0 (rd_field' (off := 6) rfl Tryz.underlying38 rfl info22 rfl) ?_
  refine s0 (rd_load' (i := 0) (o := 6) rfl ⟨rfl, rfl, rfl, rfl⟩ rfl flat22) ?_
  refine s0 (rd_len' rfl Tryz.underlying22) ?_
  refine s0 (rd_move' rfl) ?_
  refine nk hK8 ?_
  refine cx_block' ?_
  obtain ⟨v4, hy1, hp⟩ := bind_some hp
  refine cx_loopg' (F := spec_LayoutOf_l1 a0_6 recf) (G := fun k R v => spec_LayoutOf_l1s a0_6 recf k R v.1 v.2) (x := (a0_1, 0)) (gh := ()) (fun (v3 : Int × Int) (w3 : Unit) => (⟨29, [], [(3, (Vi v3.1)), (17, (Sl KT38 a0_6)), (18, (Vi (a0_6.length : Int))), (19, (Vi v3.2))], []⟩ : St)) (fun (v4 : Int) => Zg E (Exit.exit 0) (fun (w4 : Unit) => (⟨29, [], [(3, (Vi v4))], []⟩ : St))) (fun _ => rfl) (fun _ _ => rfl) ?_ hy1 (tx_to' rfl [] (sub_cons rfl (sub_cons rfl (sub_cons rfl (sub_cons rfl sub_nil)))) (by decide) pick_nil) ?_
  ·clear hp hy1
   clear v4
   intro k rec1 KY1 ih1
   rintro ⟨x3, x4⟩ ⟨⟩ y1 hp
   replace hp : spec_LayoutOf_l1s a0_6 recf k rec1 x3 x4 = some y1 := hp
   unfold spec_LayoutOf_l1s at hp
   refine cr fun K14 hK14 => ?_
   refine s0 (rd_bin' rfl rfl eg_int ru_lss) ?_
   refine nk hK14 ?_
   refine cx_seq' fun K15 hK15 => ?_
   refine cx_cond' rfl (fun h5 => ?_) (fun h5 => ?_)
   ·replace hp := (br_t h5).symm.trans hp
    refine cx_skip' ?_
    show TX E K15 _
    refine tx_k' hK15 ?_
    refine cx_seq' fun K16 hK16 => ?_
    refine cx_block' ?_
    refine cr fun K17 hK17 => ?_
    obtain ⟨r21, hr21, hp⟩ := bind_some hp
    refine s0 (rd_eq' (congrArg Pt (KT38_enc r21)) (rd_at' (K := KT38) rfl rfl hr21 Tryz.underlying22 info38)) ?_
    refine s0 (rd_load_pt_agg' (nn := 7) rfl rfl agg38 (l' := [(Vi r21.f0), (Vi r21.f1), (Vi r21.f2), (Sl Kf r21.f3), (Sl (Ki .i64) r21.f4), (Sl (Kl (Ki .i64)) r21.f5), (Sl KT38 r21.f6)]) rfl) ?_
    refine sx_ox' (ox_alloc' info38 rfl rfl rfl rfl (l := [(Vi 0), (Vi 0), (Vi 0), Vn, Vn, Vn, Vn]) rfl) (wt_none' rfl) fun q5 => ?_
    refine sx_ox' (ox_store' (i := 0) (o := 0) rfl rfl (lv_ag _) ⟨rfl, rfl, rfl, rfl⟩ rfl info38 rfl (H' := [⟨.pointer (some q5), [(Vi r21.f0), (Vi r21.f1), (Vi r21.f2), (Sl Kf r21.f3), (Sl (Ki .i64) r21.f4), (Sl (Kl (Ki .i64)) r21.f5), (Sl KT38 r21.f6)], 38, none⟩]) rfl) (wt_none' rfl) fun _ => ?_
    refine nk hK17 ?_
    refine cx_region' ?_
    refine s0 (rd_move' rfl) ?_
    refine s0 (rd_load_agg' (i := 0) (o := 0) (nn := 7) rfl ⟨rfl, rfl, rfl, rfl⟩ rfl agg38 (l' := [(Vi r21.f0), (Vi r21.f1), (Vi r21.f2), (Sl Kf r21.f3), (Sl (Ki .i64) r21.f4), (Sl (Kl (Ki .i64)) r21.f5), (Sl KT38 r21.f6)]) rfl) ?_
    obtain ⟨r25, hr25, hp⟩ := bind_some hp
    refine sx_ox' (ox_calln' (ent_fn' Tryz.func23 isn23 rfl rfl) (hrec _ _ _ _ _ _ _ _ hr25 : Sx.Fn Tryz.prog 23 [(Ag [(Vi r21.f0), (Vi r21.f1), (Vi r21.f2), (Sl Kf r21.f3), (Sl (Ki .i64) r21.f4), (Sl (Kl (Ki .i64)) r21.f5), (Sl KT38 r21.f6)])] [] (fun x : Unit => (Vi r25)) (fun x => [])) (Hn := fun x : Unit => [⟨.pointer (some q5), [(Vi r21.f0), (Vi r21.f1), (Vi r21.f2), (Sl Kf r21.f3), (Sl (Ki .i64) r21.f4), (Sl (Kl (Ki .i64)) r21.f5), (Sl KT38 r21.f6)], 38, none⟩]) (fun _ => rfl) rfl rfl) (wt_none' rfl) fun ⟨⟩ => ?_
    obtain ⟨r26, hr26, hp⟩ := bind_some hp
    refine sx_ox' (ox_calln' (ent_fn' Tryz.func61 isn61 rfl rfl) (spec_Cover_sim _ _ hr26 : Sx.Fn Tryz.prog 61 [(Vi x3), (Vi r25)] [] (fun x : Unit => (Vi r26)) (fun x => [])) (Hn := fun x : Unit => [⟨.pointer (some q5), [(Vi r21.f0), (Vi r21.f1), (Vi r21.f2), (Sl Kf r21.f3), (Sl (Ki .i64) r21.f4), (Sl (Kl (Ki .i64)) r21.f5), (Sl KT38 r21.f6)], 38, none⟩]) (fun _ => rfl) rfl rfl) (wt_none' rfl) fun ⟨⟩ => ?_
    refine s0 (rd_assign' rfl) ?_
    refine nk hK16 ?_
    refine cx_region' ?_
    refine s0 (rd_bin' rfl rfl eg_int ru_add) ?_
    refine s0 (rd_move' rfl) ?_
    refine sx_nil' ?_
    show TX E (KY1 _) _
    exact tx_pick' [] (sub_cons rfl (sub_cons rfl (sub_cons rfl (sub_cons rfl sub_nil)))) (by decide) pick_nil (ih1 (r26, (iadd .i64 x4 1)) () _ hp)
   replace hp := (br_f h5).symm.trans hp
   refine cx_exit' ?_
   replace hp := Option.some.inj hp
   subst hp
   show TX E (Zg E (Exit.exit 0) _ (Exit.exit 0)) _
   exact tx_zend' () rfl [] (sub_cons rfl sub_nil) (by decide) pick_nil
  refine zg_out fun w4 => ?_
  show TX E K7 _
  refine tx_k' hK7 ?_
  refine cr fun K13 hK13 => ?_
  refine s0 (rd_move' rfl) ?_
  refine s0 (rd_assign' rfl) ?_
  refine nk hK13 ?_
  refine cx_retc' ?_
  replace hp := Option.some.inj hp
  subst hp
  refine tx_pick' (L' := [(2, (Vi v4))]) (H' := []) [] (sub_cons rfl sub_nil) (by decide) pick_nil ?_
  exact tx_ret1' Tryz.results23 rfl () (rv_tmp' rfl) (List.Sublist.refl _)
 intro K5 hK5
 rcases br_cases hp with ⟨h1, hp⟩ | ⟨h1, hp⟩
 ·refine sx_skip' rfl rfl (wt_is' (wt_guard' rfl rfl rfl) (beq_tf h1)) ?_
  refine sx_skip' rfl rfl (wt_is' (wt_guard' rfl rfl rfl) (beq_tf h1)) ?_
  refine s0 (rd_pick_true' rfl h1 rfl) ?_
  refine sx_nil' ?_
  show TX E K5 _
  exact tx_pick' [0] (sub_cons rfl (sub_cons rfl (sub_cons rfl sub_nil))) (by decide) (pick_cons rfl pick_nil) (hK5 true hp)
 refine sx_rd' (rd_move' rfl) rfl rfl (wt_is' (wt_guard' rfl rfl rfl) (beq_ff h1)) ?_
 refine sx_rd' (rd_bin' rfl rfl eg_int ru_neq) rfl rfl (wt_is' (wt_guard' rfl rfl rfl) (beq_ff h1)) ?_
 refine s0 (rd_pick_false' rfl h1 rfl) ?_
 refine sx_nil' ?_
 show TX E K5 _
 exact tx_pick' [0] (sub_cons rfl (sub_cons rfl (sub_cons rfl sub_nil))) (by decide) (pick_cons rfl pick_nil) (hK5 (!decide (a0_1 = 0)) hp)
theorem spec_LayoutOf_simA : ∀ (k : Nat)  (a0_0 : Int) (a0_1 : Int) (a0_2 : Int) (a0_3 : List Nat) (a0_4 : List Int) (a0_5 : List (List Int)) (a0_6 : List T38) (out : Int), spec_LayoutOf k a0_0 a0_1 a0_2 a0_3 a0_4 a0_5 a0_6 = some out → Sx.Fn Tryz.prog 23 [(Ag [(Vi a0_0), (Vi a0_1), (Vi a0_2), (Sl Kf a0_3), (Sl (Ki .i64) a0_4), (Sl (Kl (Ki .i64)) a0_5), (Sl KT38 a0_6)])] [] (fun w : Unit => (Vi out)) (fun w => []) := by
 intro k
 induction k with
 | zero => intro a0_0 a0_1 a0_2 a0_3 a0_4 a0_5 a0_6 out hp; cases hp
 | succ k ih => intro a0_0 a0_1 a0_2 a0_3 a0_4 a0_5 a0_6 out hp; exact spec_LayoutOf_b_sim ih a0_0 a0_1 a0_2 a0_3 a0_4 a0_5 a0_6 hp
theorem spec_LayoutOf_sim {k : Nat}  (a0_0 : Int) (a0_1 : Int) (a0_2 : Int) (a0_3 : List Nat) (a0_4 : List Int) (a0_5 : List (List Int)) (a0_6 : List T38) {out : Int} (hp : spec_LayoutOf k a0_0 a0_1 a0_2 a0_3 a0_4 a0_5 a0_6 = some out) : Sx.Fn Tryz.prog 23 [(Ag [(Vi a0_0), (Vi a0_1), (Vi a0_2), (Sl Kf a0_3), (Sl (Ki .i64) a0_4), (Sl (Kl (Ki .i64)) a0_5), (Sl KT38 a0_6)])] [] (fun w : Unit => (Vi out)) (fun w => []) := spec_LayoutOf_simA k a0_0 a0_1 a0_2 a0_3 a0_4 a0_5 a0_6 out hp

def spec_Good_j16 (k : Nat) (rec2 : Int → Option (Unit ⊕ Unit)) (x23 : Int) (x22 : Bool) : Option (Unit ⊕ Unit) :=
 br x22
  (some (.inl ()))
  (rec2 (iadd .i64 x23 1))
def spec_Good_j15 (k : Nat) (rec2 : Int → Option (Unit ⊕ Unit)) (x23 : Int) (x21 : Bool) : Option (Unit ⊕ Unit) :=
 spec_Good_j16 k rec2 x23 x21
def spec_Good_l2s (a0_6 : List T38) (recf : Int → Int → Int → (List Nat) → (List Int) → (List (List Int)) → (List T38) → Option (Bool)) (a0_1 : Int) (k : Nat) (rec2 : Int → Option (Unit ⊕ Unit)) (x23 : Int) : Option (Unit ⊕ Unit) :=
 br (decide (x23 < (a0_6.length : Int)))
  ((idx a0_6 x23) >>= fun r24 =>
  (recf r24.f0 r24.f1 r24.f2 r24.f3 r24.f4 r24.f5 r24.f6) >>= fun r27 =>
  br (!r27)
   (spec_Good_j16 k rec2 x23 true)
   (br (!decide (a0_1 = 0))
    ((spec_LayoutOf k r24.f0 r24.f1 r24.f2 r24.f3 r24.f4 r24.f5 r24.f6) >>= fun r35 =>
    spec_Good_j15 k rec2 x23 (!decide (r35 = a0_1)))
    (spec_Good_j15 k rec2 x23 false)))
  (some (.inr ()))
def spec_Good_l2 (a0_6 : List T38) (recf : Int → Int → Int → (List Nat) → (List Int) → (List (List Int)) → (List T38) → Option (Bool)) (a0_1 : Int) : Nat → Int → Option (Unit ⊕ Unit)
 | 0, _ => none
 | k + 1, v => spec_Good_l2s a0_6 recf a0_1 k (spec_Good_l2 a0_6 recf a0_1 k) v
def spec_Good_j1 (k : Nat) (x1 : Bool) : Option (Bool) :=
 some x1
def spec_Good_j6 (k : Nat) (x6 : Bool) : Option (Bool) :=
 some x6
def spec_Good_j9 (k : Nat) (x9 : Bool) : Option (Bool) :=
 some x9
def spec_Good_j10 (k : Nat) (rec1 : (Int × Bool × Int) → Option (Int × Bool)) (r143 : Int × Bool) (x12 : Int) (x13 : Bool) : Option (Int × Bool) :=
 rec1 (r143.1, x13, (iadd .i64 x12 1))
def spec_Good_l1s (a0_5 : List (List Int)) (r15 : Int) (k : Nat) (rec1 : (Int × Bool × Int) → Option (Int × Bool)) (x10 : Int) (x11 : Bool) (x12 : Int) : Option (Int × Bool) :=
 br (decide (x12 < (a0_5.length : Int)))
  ((idx a0_5 x12) >>= fun r137 =>
  (spec_goodEnds k r137 x10 r15 false) >>= fun r143 =>
  br x11
   (spec_Good_j10 k rec1 r143 x12 r143.2)
   (spec_Good_j10 k rec1 r143 x12 false))
  (some (x10, x11))
def spec_Good_l1 (a0_5 : List (List Int)) (r15 : Int) : Nat → (Int × Bool × Int) → Option (Int × Bool)
 | 0, _ => none
 | k + 1, v => spec_Good_l1s a0_5 r15 k (spec_Good_l1 a0_5 r15 k) v.1 v.2.1 v.2.2
def spec_Good_j12 (k : Nat) (x17 : Bool) : Option (Bool) :=
 some x17
def spec_Good_j11 (k : Nat) (a0_4 : List Int) (x16 : Bool) : Option (Bool) :=
 br x16
  (spec_Good_j12 k (decide ((a0_4.length : Int) = 0)))
  (spec_Good_j12 k false)
def spec_Good_j8 (k : Nat) (a0_4 : List Int) (r15 : Int) (a0_0 : Int) (a0_3 : List Nat) (a0_5 : List (List Int)) (x8 : Bool) : Option (Bool) :=
 br x8
  ((spec_goodEnds k a0_4 0 r15 (decide (a0_0 = 4))) >>= fun r119 =>
  br r119.2
   (spec_Good_j9 k (decide (r119.1 = (a0_3.length : Int))))
   (spec_Good_j9 k false))
  (br (decide (a0_0 = 6))
   ((spec_Good_l1 a0_5 r15 k (0, true, 0)) >>= fun v12 =>
   br v12.2
    (spec_Good_j11 k a0_4 (decide (v12.1 = (a0_3.length : Int))))
    (spec_Good_j11 k a0_4 false))
   (some false))
def spec_Good_j7 (k : Nat) (a0_4 : List Int) (a0_0 : Int) (r15 : Int) (a0_3 : List Nat) (a0_5 : List (List Int)) (x7 : Bool) : Option (Bool) :=
 br x7
  (some (decide ((a0_4.length : Int) = 0)))
  (br (decide (a0_0 = 3))
   (spec_Good_j8 k a0_4 r15 a0_0 a0_3 a0_5 (decide (a0_0 = 3)))
   (br (decide (a0_0 = 4))
    (spec_Good_j8 k a0_4 r15 a0_0 a0_3 a0_5 (decide (a0_0 = 4)))
    (spec_Good_j8 k a0_4 r15 a0_0 a0_3 a0_5 (decide (a0_0 = 5)))))
def spec_Good_j5 (k : Nat) (a0_0 : Int) (a0_4 : List Int) (a0_3 : List Nat) (r15 : Int) (a0_5 : List (List Int)) (x5 : Bool) : Option (Bool) :=
 br x5
  (some false)
  (br (decide (a0_0 = 1))
   (br (decide ((a0_4.length : Int) = 0))
    (spec_Good_j6 k (decide ((a0_3.length : Int) ≤ r15)))
    (spec_Good_j6 k false))
   (br (decide (a0_0 = 2))
    (spec_Good_j7 k a0_4 a0_0 r15 a0_3 a0_5 (decide (a0_0 = 2)))
    (spec_Good_j7 k a0_4 a0_0 r15 a0_3 a0_5 (decide (a0_0 = 8)))))
def spec_Good_j4 (k : Nat) (a0_0 : Int) (a0_4 : List Int) (a0_3 : List Nat) (r15 : Int) (a0_5 : List (List Int)) (x4 : Bool) : Option (Bool) :=
 spec_Good_j5 k a0_0 a0_4 a0_3 r15 a0_5 x4
def spec_Good_j3 (k : Nat) (a0_0 : Int) (a0_4 : List Int) (a0_3 : List Nat) (r15 : Int) (a0_5 : List (List Int)) (x3 : Bool) : Option (Bool) :=
 br x3
  (spec_Good_j5 k a0_0 a0_4 a0_3 r15 a0_5 true)
  (br (decide (0 < (a0_5.length : Int)))
   (spec_Good_j4 k a0_0 a0_4 a0_3 r15 a0_5 (!decide (a0_0 = 6)))
   (spec_Good_j4 k a0_0 a0_4 a0_3 r15 a0_5 false))
def spec_Good_j2 (k : Nat) (a0_0 : Int) (a0_4 : List Int) (a0_3 : List Nat) (r15 : Int) (a0_5 : List (List Int)) (a0_6 : List T38) (x2 : Bool) : Option (Bool) :=
 br x2
  (spec_Good_j3 k a0_0 a0_4 a0_3 r15 a0_5 true)
  (spec_Good_j3 k a0_0 a0_4 a0_3 r15 a0_5 (decide (0 < (a0_6.length : Int))))
def spec_Good_b (recf : Int → Int → Int → (List Nat) → (List Int) → (List (List Int)) → (List T38) → Option (Bool)) (k : Nat) (a0_0 : Int) (a0_1 : Int) (a0_2 : Int) (a0_3 : List Nat) (a0_4 : List Int) (a0_5 : List (List Int)) (a0_6 : List T38) : Option (Bool) :=
 (spec_Stride k a0_1) >>= fun r15 =>
 br (decide (a0_0 = 7))
  ((spec_Good_l2 a0_6 recf a0_1 k 0) >>= fun y2 => match y2 with
   | (.inl v21) =>
    (some false)
   | (.inr v22) =>
    (br (decide (0 ≤ a0_1))
     (spec_Good_j1 k (decide ((iadd .i64 (iadd .i64 (a0_3.length : Int) (a0_4.length : Int)) (a0_5.length : Int)) = 0)))
     (spec_Good_j1 k false)))
  (br (decide (r15 = 0))
   (spec_Good_j2 k a0_0 a0_4 a0_3 r15 a0_5 a0_6 true)
   ((irem (a0_3.length : Int) r15) >>= fun r66 =>
   spec_Good_j2 k a0_0 a0_4 a0_3 r15 a0_5 a0_6 (!decide (r66 = 0))))
def spec_Good : Nat → Int → Int → Int → (List Nat) → (List Int) → (List (List Int)) → (List T38) → Option (Bool)
 | 0 => fun _ _ _ _ _ _ _ => none
 | k + 1 => fun a0_0 a0_1 a0_2 a0_3 a0_4 a0_5 a0_6 => spec_Good_b (spec_Good k) k a0_0 a0_1 a0_2 a0_3 a0_4 a0_5 a0_6

theorem spec_Good_b_sim {recf : Int → Int → Int → (List Nat) → (List Int) → (List (List Int)) → (List T38) → Option (Bool)} (hrec : ∀  (a0_0 : Int) (a0_1 : Int) (a0_2 : Int) (a0_3 : List Nat) (a0_4 : List Int) (a0_5 : List (List Int)) (a0_6 : List T38) (out : Bool), recf a0_0 a0_1 a0_2 a0_3 a0_4 a0_5 a0_6 = some out → Sx.Fn Tryz.prog 9 [(Ag [(Vi a0_0), (Vi a0_1), (Vi a0_2), (Sl Kf a0_3), (Sl (Ki .i64) a0_4), (Sl (Kl (Ki .i64)) a0_5), (Sl KT38 a0_6)])] [] (fun w : Unit => (Vb out)) (fun w => [])) {k : Nat}  (a0_0 : Int) (a0_1 : Int) (a0_2 : Int) (a0_3 : List Nat) (a0_4 : List Int) (a0_5 : List (List Int)) (a0_6 : List T38) {out : Bool} (hp : spec_Good_b recf k a0_0 a0_1 a0_2 a0_3 a0_4 a0_5 a0_6 = some out) : Sx.Fn Tryz.prog 9 [(Ag [(Vi a0_0), (Vi a0_1), (Vi a0_2), (Sl Kf a0_3), (Sl (Ki .i64) a0_4), (Sl (Kl (Ki .i64)) a0_5), (Sl KT38 a0_6)])] [] (fun w : Unit => (Vb out)) (fun w => []) := by
 unfold spec_Good_b at hp
 refine fn_of Tryz.func9 rfl Tryz.ntmps9 rfl fun E hM => ?_
 refine cr fun K1 hK1 => ?_
 refine sx_ox' (ox_box' rfl (lv_ag _) rfl rfl) (wt_none' rfl) fun q1 => ?_
 refine s0 (rd_assign' rfl) ?_
 refine nk hK1 ?_
 refine cr fun K2 hK2 => ?_
 refine s0 (rd_field' (off := 1) rfl Tryz.underlying38 rfl info3 rfl) ?_
 refine s0 (rd_load' (i := 0) (o := 1) rfl ⟨rfl, rfl, rfl, rfl⟩ rfl flat3) ?_
 obtain ⟨r15, hr15, hp⟩ := bind_some hp
 refine sx_ox' (ox_calln' (ent_fn' Tryz.func8 isn8 rfl rfl) (spec_Stride_sim _ hr15 : Sx.Fn Tryz.prog 8 [(Vi a0_1)] [] (fun x : Unit => (Vi r15)) (fun x => [])) (Hn := fun x : Unit => [⟨.pointer (some q1), [(Vi a0_0), (Vi a0_1), (Vi a0_2), (Sl Kf a0_3), (Sl (Ki .i64) a0_4), (Sl (Kl (Ki .i64)) a0_5), (Sl KT38 a0_6)], 38, none⟩]) (fun _ => rfl) rfl rfl) (wt_none' rfl) fun ⟨⟩ => ?_
 refine s0 (rd_assign' rfl) ?_
 refine nk hK2 ?_
 refine cx_seq' fun K3 hK3 => ?_
 refine cr fun K4 hK4 => ?_
 refine s0 (rd_field0' rfl Tryz.underlying38 rfl info3 rfl) ?_
 refine s0 (rd_load' (i := 0) (o := 0) rfl ⟨rfl, rfl, rfl, rfl⟩ rfl flat3) ?_
 refine s0 (rd_bin' rfl rfl eg_int ru_eql) ?_
 refine nk hK4 ?_
 refine cx_cond' rfl (fun h1 => ?_) (fun h1 => ?_)
 ·replace hp := (br_t h1).symm.trans hp
  refine cx_seq' fun K5 hK5 => ?_
  refine cr fun K6 hK6 => ?_
  refine s0 (rd_field' (off := 6) rfl Tryz.underlying38 rfl info22 rfl) ?_
  refine s0 (rd_load' (i := 0) (o := 6) rfl ⟨rfl, rfl, rfl, rfl⟩ rfl flat22) ?_
  refine s0 (rd_len' rfl Tryz.underlying22) ?_
  refine s0 (rd_move' rfl) ?_
  refine nk hK6 ?_
  refine cx_block' ?_
  obtain ⟨y2, hy2, hp⟩ := bind_some hp
  refine cx_loopg' (F := spec_Good_l2 a0_6 recf a0_1) (G := fun k R v => spec_Good_l2s a0_6 recf a0_1 k R v) (x := 0) (gh := ()) (fun (v18 : Int) (w18 : Unit) => (⟨165, [], [(1, (Vp q1)), (20, (Sl KT38 a0_6)), (21, (Vi (a0_6.length : Int))), (22, (Vi v18))], [⟨.pointer (some q1), [(Vi a0_0), (Vi a0_1), (Vi a0_2), (Sl Kf a0_3), (Sl (Ki .i64) a0_4), (Sl (Kl (Ki .i64)) a0_5), (Sl KT38 a0_6)], 38, none⟩]⟩ : St)) (fun (y : Unit ⊕ Unit) => match y with | (.inl v21) => Zg E Exit.ret (fun (w21 : Unit) => (⟨165, [], [(2, (Vb false))], []⟩ : St)) | (.inr v22) => Zg E (Exit.exit 0) (fun (w22 : Unit) => (⟨165, [], [(1, (Vp q1))], [⟨.pointer (some q1), [(Vi a0_0), (Vi a0_1), (Vi a0_2), (Sl Kf a0_3), (Sl (Ki .i64) a0_4), (Sl (Kl (Ki .i64)) a0_5), (Sl KT38 a0_6)], 38, none⟩]⟩ : St))) (fun _ => rfl) (fun _ _ => rfl) ?_ hy2 (tx_to' rfl [0] (sub_cons rfl (sub_cons rfl (sub_cons rfl (sub_cons rfl sub_nil)))) (by decide) (pick_cons rfl pick_nil)) ?_
  ·clear hp hy2
   clear y2
   intro k rec2 KY2 ih2
   rintro x23 ⟨⟩ y2 hp
   replace hp : spec_Good_l2s a0_6 recf a0_1 k rec2 x23 = some y2 := hp
   unfold spec_Good_l2s at hp
   refine cr fun K59 hK59 => ?_
   refine s0 (rd_bin' rfl rfl eg_int ru_lss) ?_
   refine nk hK59 ?_
   refine cx_seq' fun K60 hK60 => ?_
   refine cx_cond' rfl (fun h28 => ?_) (fun h28 => ?_)
   ·replace hp := (br_t h28).symm.trans hp
    refine cx_skip' ?_
    show TX E K60 _
    refine tx_k' hK60 ?_
    refine cx_seq' fun K61 hK61 => ?_
    refine cx_block' ?_
    refine cr fun K62 hK62 => ?_
    obtain ⟨r24, hr24, hp⟩ := bind_some hp
    refine s0 (rd_eq' (congrArg Pt (KT38_enc r24)) (rd_at' (K := KT38) rfl rfl hr24 Tryz.underlying22 info38)) ?_
    refine s0 (rd_load_pt_agg' (nn := 7) rfl rfl agg38 (l' := [(Vi r24.f0), (Vi r24.f1), (Vi r24.f2), (Sl Kf r24.f3), (Sl (Ki .i64) r24.f4), (Sl (Kl (Ki .i64)) r24.f5), (Sl KT38 r24.f6)]) rfl) ?_
    refine sx_ox' (ox_alloc' info38 rfl rfl rfl rfl (l := [(Vi 0), (Vi 0), (Vi 0), Vn, Vn, Vn, Vn]) rfl) (wt_none' rfl) fun q5 => ?_
    refine sx_ox' (ox_store' (i := 0) (o := 0) rfl rfl (lv_ag _) ⟨rfl, rfl, rfl, rfl⟩ rfl info38 rfl (H' := [⟨.pointer (some q5), [(Vi r24.f0), (Vi r24.f1), (Vi r24.f2), (Sl Kf r24.f3), (Sl (Ki .i64) r24.f4), (Sl (Kl (Ki .i64)) r24.f5), (Sl KT38 r24.f6)], 38, none⟩, ⟨.pointer (some q1), [(Vi a0_0), (Vi a0_1), (Vi a0_2), (Sl Kf a0_3), (Sl (Ki .i64) a0_4), (Sl (Kl (Ki .i64)) a0_5), (Sl KT38 a0_6)], 38, none⟩]) rfl) (wt_none' rfl) fun _ => ?_
    refine nk hK62 ?_
    refine cx_seq' fun K63 hK63 => ?_
    refine cx_plan' [] [] [(0, 1), (1, 0), (2, 1), (3, 1), (4, 1), (5, 1), (6, 1), (7, 1), (8, 1), (10, 1), (11, 1), (9, 0), (12, 1), (13, 1), (14, 1)] mixed (by kernel_rfl) ?_
    refine px_rd' rfl (rd_load_agg' (i := 0) (o := 0) (nn := 7) rfl ⟨rfl, rfl, rfl, rfl⟩ rfl agg38 (l' := [(Vi r24.f0), (Vi r24.f1), (Vi r24.f2), (Sl Kf r24.f3), (Sl (Ki .i64) r24.f4), (Sl (Kl (Ki .i64)) r24.f5), (Sl KT38 r24.f6)]) rfl) rfl rfl (wt_none' rfl) ?_
    obtain ⟨r27, hr27, hp⟩ := bind_some hp
    refine px_ox' rfl (ox_calln' (ent_fn' Tryz.func9 isn9 rfl rfl) (hrec _ _ _ _ _ _ _ _ hr27 : Sx.Fn Tryz.prog 9 [(Ag [(Vi r24.f0), (Vi r24.f1), (Vi r24.f2), (Sl Kf r24.f3), (Sl (Ki .i64) r24.f4), (Sl (Kl (Ki .i64)) r24.f5), (Sl KT38 r24.f6)])] [] (fun x : Unit => (Vb r27)) (fun x => [])) (Hn := fun x : Unit => [⟨.pointer (some q5), [(Vi r24.f0), (Vi r24.f1), (Vi r24.f2), (Sl Kf r24.f3), (Sl (Ki .i64) r24.f4), (Sl (Kl (Ki .i64)) r24.f5), (Sl KT38 r24.f6)], 38, none⟩, ⟨.pointer (some q1), [(Vi a0_0), (Vi a0_1), (Vi a0_2), (Sl Kf a0_3), (Sl (Ki .i64) a0_4), (Sl (Kl (Ki .i64)) a0_5), (Sl KT38 a0_6)], 38, none⟩]) (fun _ => rfl) rfl rfl) rfl bs_nil (wt_none' rfl) fun ⟨⟩ => ?_
    refine px_rd' rfl (rd_un' rfl ru_not) rfl rfl (wt_none' rfl) ?_
    refine px_rd' rfl (rd_move' rfl) rfl rfl (wt_none' rfl) ?_
    refine px_cutn' 11 (fun (v20 : Bool) => (⟨165, [], [(1, (Vp q1)), (20, (Sl KT38 a0_6)), (21, (Vi (a0_6.length : Int))), (22, (Vi x23)), (40, (Vb v20))], [⟨.pointer (some q1), [(Vi a0_0), (Vi a0_1), (Vi a0_2), (Sl Kf a0_3), (Sl (Ki .i64) a0_4), (Sl (Kl (Ki .i64)) a0_5), (Sl KT38 a0_6)], 38, none⟩]⟩ : St)) (fun (v20 : Bool) => spec_Good_j16 k rec2 x23 v20 = some y2) ?_ ?_
    ·rintro x22 hp
     replace hp : spec_Good_j16 k rec2 x23 x22 = some y2 := hp
     unfold spec_Good_j16 at hp
     refine px_nil' ?_
     show TX E K63 _
     refine tx_k' hK63 ?_
     refine cx_cond' rfl (fun h31 => ?_) (fun h31 => ?_)
     ·replace hp := (br_t h31).symm.trans hp
      refine cr fun K66 hK66 => ?_
      refine s0 (rd_assign' rfl) ?_
      refine nk hK66 ?_
      refine cx_retc' ?_
      replace hp := Option.some.inj hp
      subst hp
      show TX E (Zg E Exit.ret _ Exit.ret) _
      exact tx_zend' () rfl [] (sub_cons rfl sub_nil) (by decide) pick_nil
     replace hp := (br_f h31).symm.trans hp
     refine cx_skip' ?_
     show TX E K61 _
     refine tx_k' hK61 ?_
     refine cx_region' ?_
     refine s0 (rd_bin' rfl rfl eg_int ru_add) ?_
     refine s0 (rd_move' rfl) ?_
     refine sx_nil' ?_
     show TX E (KY2 _) _
     exact tx_pick' [0] (sub_cons rfl (sub_cons rfl (sub_cons rfl (sub_cons rfl sub_nil)))) (by decide) (pick_cons rfl pick_nil) (ih2 (iadd .i64 x23 1) () _ hp)
    intro K65 hK65
    rcases br_cases hp with ⟨h29, hp⟩ | ⟨h29, hp⟩
    ·refine px_skip' rfl rfl rfl (wt_is' (wt_guard' rfl rfl rfl) (beq_tf h29)) ?_
     refine px_skip' rfl rfl rfl (wt_is' (wt_guard' rfl rfl rfl) (beq_tf h29)) ?_
     refine px_skip' rfl rfl rfl (wt_is' (wt_guard' rfl rfl rfl) (beq_tf h29)) ?_
     refine px_skip' rfl rfl rfl (wt_is' (wt_guard' rfl rfl rfl) (beq_tf h29)) ?_
     refine px_skip' rfl rfl rfl (wt_undef' rfl rfl rfl) ?_
     refine px_skip' rfl rfl rfl (wt_undef' rfl rfl rfl) ?_
     refine px_skip' rfl rfl rfl (wt_undef' rfl rfl rfl) ?_
     refine px_oskip' rfl rfl rfl (wt_undef' rfl rfl rfl) ?_
     refine px_skip' rfl rfl rfl (wt_undef' rfl rfl rfl) ?_
     refine px_skip' rfl rfl rfl (wt_is' (wt_guard' rfl rfl rfl) (beq_tf h29)) ?_
     refine px_rd' rfl (rd_pick_true' rfl h29 rfl) rfl rfl (wt_none' rfl) ?_
     refine px_nil' ?_
     show TX E K65 _
     exact tx_pick' [1] (sub_cons rfl (sub_cons rfl (sub_cons rfl (sub_cons rfl (sub_cons rfl sub_nil))))) (by decide) (pick_cons rfl pick_nil) (hK65 true hp)
    refine px_rd' rfl (rd_field' (off := 1) rfl Tryz.underlying38 rfl info3 rfl) rfl rfl (wt_is' (wt_guard' rfl rfl rfl) (beq_ff h29)) ?_
    refine px_rd' rfl (rd_load' (i := 1) (o := 1) rfl ⟨rfl, rfl, rfl, rfl⟩ rfl flat3) rfl rfl (wt_is' (wt_guard' rfl rfl rfl) (beq_ff h29)) ?_
    refine px_rd' rfl (rd_bin' rfl rfl eg_int ru_neq) rfl rfl (wt_is' (wt_guard' rfl rfl rfl) (beq_ff h29)) ?_
    refine px_rd' rfl (rd_move' rfl) rfl rfl (wt_is' (wt_guard' rfl rfl rfl) (beq_ff h29)) ?_
    refine px_cutn' 7 (fun (v19 : Bool) => (⟨165, [], [(1, (Vp q1)), (20, (Sl KT38 a0_6)), (21, (Vi (a0_6.length : Int))), (22, (Vi x23)), (40, (Vb v19))], [⟨.pointer (some q1), [(Vi a0_0), (Vi a0_1), (Vi a0_2), (Sl Kf a0_3), (Sl (Ki .i64) a0_4), (Sl (Kl (Ki .i64)) a0_5), (Sl KT38 a0_6)], 38, none⟩]⟩ : St)) (fun (v19 : Bool) => spec_Good_j15 k rec2 x23 v19 = some y2) ?_ ?_
    ·rintro x21 hp
     replace hp : spec_Good_j15 k rec2 x23 x21 = some y2 := hp
     unfold spec_Good_j15 at hp
     refine px_nil' ?_
     show TX E K65 _
     exact tx_pick' [0] (sub_cons rfl (sub_cons rfl (sub_cons rfl (sub_cons rfl (sub_cons rfl sub_nil))))) (by decide) (pick_cons rfl pick_nil) (hK65 x21 hp)
    intro K64 hK64
    rcases br_cases hp with ⟨h30, hp⟩ | ⟨h30, hp⟩
    ·refine px_rd' rfl (rd_load_agg' (i := 0) (o := 0) (nn := 7) rfl ⟨rfl, rfl, rfl, rfl⟩ rfl agg38 (l' := [(Vi r24.f0), (Vi r24.f1), (Vi r24.f2), (Sl Kf r24.f3), (Sl (Ki .i64) r24.f4), (Sl (Kl (Ki .i64)) r24.f5), (Sl KT38 r24.f6)]) rfl) rfl rfl (wt_is' (wt_guard' rfl rfl rfl) (beq_tt h30)) ?_
     refine px_rd' rfl (rd_field' (off := 1) rfl Tryz.underlying38 rfl info3 rfl) rfl rfl (wt_is' (wt_guard' rfl rfl rfl) (beq_tt h30)) ?_
     refine px_rd' rfl (rd_load' (i := 1) (o := 1) rfl ⟨rfl, rfl, rfl, rfl⟩ rfl flat3) rfl rfl (wt_is' (wt_guard' rfl rfl rfl) (beq_tt h30)) ?_
     obtain ⟨r35, hr35, hp⟩ := bind_some hp
     refine px_ox' rfl (ox_calln' (ent_fn' Tryz.func23 isn23 rfl rfl) (spec_LayoutOf_sim _ _ _ _ _ _ _ hr35 : Sx.Fn Tryz.prog 23 [(Ag [(Vi r24.f0), (Vi r24.f1), (Vi r24.f2), (Sl Kf r24.f3), (Sl (Ki .i64) r24.f4), (Sl (Kl (Ki .i64)) r24.f5), (Sl KT38 r24.f6)])] [] (fun x : Unit => (Vi r35)) (fun x => [])) (Hn := fun x : Unit => [⟨.pointer (some q5), [(Vi r24.f0), (Vi r24.f1), (Vi r24.f2), (Sl Kf r24.f3), (Sl (Ki .i64) r24.f4), (Sl (Kl (Ki .i64)) r24.f5), (Sl KT38 r24.f6)], 38, none⟩, ⟨.pointer (some q1), [(Vi a0_0), (Vi a0_1), (Vi a0_2), (Sl Kf a0_3), (Sl (Ki .i64) a0_4), (Sl (Kl (Ki .i64)) a0_5), (Sl KT38 a0_6)], 38, none⟩]) (fun _ => rfl) rfl rfl) rfl bs_nil (wt_is' (wt_guard' rfl rfl rfl) (beq_tt h30)) fun ⟨⟩ => ?_
     refine px_rd' rfl (rd_bin' rfl rfl eg_int ru_neq) rfl rfl (wt_is' (wt_guard' rfl rfl rfl) (beq_tt h30)) ?_
     refine px_rd' rfl (rd_pick_true' rfl h30 rfl) rfl rfl (wt_is' (wt_guard' rfl rfl rfl) (beq_ff h29)) ?_
     refine px_rd' rfl (rd_pick_false' rfl h29 rfl) rfl rfl (wt_none' rfl) ?_
     refine px_nil' ?_
     show TX E K64 _
     exact tx_pick' [1] (sub_cons rfl (sub_cons rfl (sub_cons rfl (sub_cons rfl (sub_cons rfl sub_nil))))) (by decide) (pick_cons rfl pick_nil) (hK64 (!decide (r35 = a0_1)) hp)
    refine px_skip' rfl rfl rfl (wt_is' (wt_guard' rfl rfl rfl) (beq_ft h30)) ?_
    refine px_skip' rfl rfl rfl (wt_is' (wt_guard' rfl rfl rfl) (beq_ft h30)) ?_
    refine px_skip' rfl rfl rfl (wt_is' (wt_guard' rfl rfl rfl) (beq_ft h30)) ?_
    refine px_oskip' rfl rfl rfl (wt_is' (wt_guard' rfl rfl rfl) (beq_ft h30)) ?_
    refine px_skip' rfl rfl rfl (wt_is' (wt_guard' rfl rfl rfl) (beq_ft h30)) ?_
    refine px_rd' rfl (rd_pick_false' rfl h30 rfl) rfl rfl (wt_is' (wt_guard' rfl rfl rfl) (beq_ff h29)) ?_
    refine px_rd' rfl (rd_pick_false' rfl h29 rfl) rfl rfl (wt_none' rfl) ?_
    refine px_nil' ?_
    show TX E K64 _
    exact tx_pick' [1] (sub_cons rfl (sub_cons rfl (sub_cons rfl (sub_cons rfl (sub_cons rfl sub_nil))))) (by decide) (pick_cons rfl pick_nil) (hK64 false hp)
   replace hp := (br_f h28).symm.trans hp
   refine cx_exit' ?_
   replace hp := Option.some.inj hp
   subst hp
   show TX E (Zg E (Exit.exit 0) _ (Exit.exit 0)) _
   exact tx_zend' () rfl [0] (sub_cons rfl sub_nil) (by decide) (pick_cons rfl pick_nil)
  rcases y2 with v21 | v22
  ·dsimp only at hp
   refine zg_out fun w21 => ?_
   replace hp := Option.some.inj hp
   subst hp
   refine tx_pick' (L' := [(2, (Vb false))]) (H' := []) [] (sub_cons rfl sub_nil) (by decide) pick_nil ?_
   exact tx_ret1' Tryz.results9 rfl () (rv_tmp' rfl) (List.Sublist.refl _)
  dsimp only at hp
  refine zg_out fun w22 => ?_
  show TX E K5 _
  refine tx_k' hK5 ?_
  refine cr fun K12 hK12 => ?_
  refine s0 (rd_field' (off := 1) rfl Tryz.underlying38 rfl info3 rfl) ?_
  refine s0 (rd_load' (i := 0) (o := 1) rfl ⟨rfl, rfl, rfl, rfl⟩ rfl flat3) ?_
  refine s0 (rd_bin' rfl rfl eg_int ru_geq) ?_
  refine s0 (rd_move' rfl) ?_
  refine sx_cutn' 13 (fun (v1 : Bool) => (⟨165, [], [(58, (Vb v1))], []⟩ : St)) (fun (v1 : Bool) => spec_Good_j1 k v1 = some out) ?_ ?_
  ·rintro x1 hp
   replace hp : spec_Good_j1 k x1 = some out := hp
   unfold spec_Good_j1 at hp
   refine s0 (rd_assign' rfl) ?_
   refine nk hK12 ?_
   refine cx_retc' ?_
   replace hp := Option.some.inj hp
   subst hp
   refine tx_pick' (L' := [(2, (Vb x1))]) (H' := []) [] (sub_cons rfl sub_nil) (by decide) pick_nil ?_
   exact tx_ret1' Tryz.results9 rfl () (rv_tmp' rfl) (List.Sublist.refl _)
  intro K13 hK13
  rcases br_cases hp with ⟨h3, hp⟩ | ⟨h3, hp⟩
  ·refine sx_rd' (rd_field' (off := 3) rfl Tryz.underlying38 rfl info29 rfl) rfl rfl (wt_is' (wt_guard' rfl rfl rfl) (beq_tt h3)) ?_
   refine sx_rd' (rd_load' (i := 0) (o := 3) rfl ⟨rfl, rfl, rfl, rfl⟩ rfl flat29) rfl rfl (wt_is' (wt_guard' rfl rfl rfl) (beq_tt h3)) ?_
   refine sx_rd' (rd_len' rfl Tryz.underlying29) rfl rfl (wt_is' (wt_guard' rfl rfl rfl) (beq_tt h3)) ?_
   refine sx_rd' (rd_field' (off := 4) rfl Tryz.underlying38 rfl info35 rfl) rfl rfl (wt_is' (wt_guard' rfl rfl rfl) (beq_tt h3)) ?_
   refine sx_rd' (rd_load' (i := 0) (o := 4) rfl ⟨rfl, rfl, rfl, rfl⟩ rfl flat35) rfl rfl (wt_is' (wt_guard' rfl rfl rfl) (beq_tt h3)) ?_
   refine sx_rd' (rd_len' rfl Tryz.underlying35) rfl rfl (wt_is' (wt_guard' rfl rfl rfl) (beq_tt h3)) ?_
   refine sx_rd' (rd_bin' rfl rfl eg_int ru_add) rfl rfl (wt_is' (wt_guard' rfl rfl rfl) (beq_tt h3)) ?_
   refine sx_rd' (rd_field' (off := 5) rfl Tryz.underlying38 rfl info36 rfl) rfl rfl (wt_is' (wt_guard' rfl rfl rfl) (beq_tt h3)) ?_
   refine sx_rd' (rd_load' (i := 0) (o := 5) rfl ⟨rfl, rfl, rfl, rfl⟩ rfl flat36) rfl rfl (wt_is' (wt_guard' rfl rfl rfl) (beq_tt h3)) ?_
   refine sx_rd' (rd_len' rfl Tryz.underlying36) rfl rfl (wt_is' (wt_guard' rfl rfl rfl) (beq_tt h3)) ?_
   refine sx_rd' (rd_bin' rfl rfl eg_int ru_add) rfl rfl (wt_is' (wt_guard' rfl rfl rfl) (beq_tt h3)) ?_
   refine sx_rd' (rd_bin' rfl rfl eg_int ru_eql) rfl rfl (wt_is' (wt_guard' rfl rfl rfl) (beq_tt h3)) ?_
   refine s0 (rd_pick_true' rfl h3 rfl) ?_
   refine sx_nil' ?_
   show TX E K13 _
   exact tx_pick' [] (sub_cons rfl sub_nil) (by decide) pick_nil (hK13 (decide ((iadd .i64 (iadd .i64 (a0_3.length : Int) (a0_4.length : Int)) (a0_5.length : Int)) = 0)) hp)
  refine sx_skip' rfl rfl (wt_is' (wt_guard' rfl rfl rfl) (beq_ft h3)) ?_
  refine sx_skip' rfl rfl (wt_is' (wt_guard' rfl rfl rfl) (beq_ft h3)) ?_
  refine sx_skip' rfl rfl (wt_is' (wt_guard' rfl rfl rfl) (beq_ft h3)) ?_
  refine sx_skip' rfl rfl (wt_is' (wt_guard' rfl rfl rfl) (beq_ft h3)) ?_
  refine sx_skip' rfl rfl (wt_is' (wt_guard' rfl rfl rfl) (beq_ft h3)) ?_
  refine sx_skip' rfl rfl (wt_is' (wt_guard' rfl rfl rfl) (beq_ft h3)) ?_
  refine sx_skip' rfl rfl (wt_is' (wt_guard' rfl rfl rfl) (beq_ft h3)) ?_
  refine sx_skip' rfl rfl (wt_is' (wt_guard' rfl rfl rfl) (beq_ft h3)) ?_
  refine sx_skip' rfl rfl (wt_is' (wt_guard' rfl rfl rfl) (beq_ft h3)) ?_
  refine sx_skip' rfl rfl (wt_is' (wt_guard' rfl rfl rfl) (beq_ft h3)) ?_
  refine sx_skip' rfl rfl (wt_is' (wt_guard' rfl rfl rfl) (beq_ft h3)) ?_
  refine sx_skip' rfl rfl (wt_is' (wt_guard' rfl rfl rfl) (beq_ft h3)) ?_
  refine s0 (rd_pick_false' rfl h3 rfl) ?_
  refine sx_nil' ?_
  show TX E K13 _
  exact tx_pick' [] (sub_cons rfl sub_nil) (by decide) pick_nil (hK13 false hp)
 replace hp := (br_f h1).symm.trans hp
 refine cx_skip' ?_
 show TX E K3 _
 refine tx_k' hK3 ?_
 refine cx_seq' fun K14 hK14 => ?_
 refine cr fun K15 hK15 => ?_
 refine s0 (rd_move' rfl) ?_
 refine s0 (rd_bin' rfl rfl eg_int ru_eql) ?_
 refine s0 (rd_move' rfl) ?_
 refine sx_cutn' 7 (fun (v2 : Bool) => (⟨165, [], [(1, (Vp q1)), (3, (Vi r15)), (68, (Vb v2))], [⟨.pointer (some q1), [(Vi a0_0), (Vi a0_1), (Vi a0_2), (Sl Kf a0_3), (Sl (Ki .i64) a0_4), (Sl (Kl (Ki .i64)) a0_5), (Sl KT38 a0_6)], 38, none⟩]⟩ : St)) (fun (v2 : Bool) => spec_Good_j2 k a0_0 a0_4 a0_3 r15 a0_5 a0_6 v2 = some out) ?_ ?_
 ·rintro x2 hp
  replace hp : spec_Good_j2 k a0_0 a0_4 a0_3 r15 a0_5 a0_6 x2 = some out := hp
  unfold spec_Good_j2 at hp
  refine s0 (rd_move' rfl) ?_
  refine sx_cutn' 5 (fun (v3 : Bool) => (⟨165, [], [(1, (Vp q1)), (3, (Vi r15)), (74, (Vb v3))], [⟨.pointer (some q1), [(Vi a0_0), (Vi a0_1), (Vi a0_2), (Sl Kf a0_3), (Sl (Ki .i64) a0_4), (Sl (Kl (Ki .i64)) a0_5), (Sl KT38 a0_6)], 38, none⟩]⟩ : St)) (fun (v3 : Bool) => spec_Good_j3 k a0_0 a0_4 a0_3 r15 a0_5 v3 = some out) ?_ ?_
  ·rintro x3 hp
   replace hp : spec_Good_j3 k a0_0 a0_4 a0_3 r15 a0_5 x3 = some out := hp
   unfold spec_Good_j3 at hp
   refine s0 (rd_move' rfl) ?_
   refine sx_cutn' 10 (fun (v5 : Bool) => (⟨165, [], [(1, (Vp q1)), (3, (Vi r15)), (85, (Vb v5))], [⟨.pointer (some q1), [(Vi a0_0), (Vi a0_1), (Vi a0_2), (Sl Kf a0_3), (Sl (Ki .i64) a0_4), (Sl (Kl (Ki .i64)) a0_5), (Sl KT38 a0_6)], 38, none⟩]⟩ : St)) (fun (v5 : Bool) => spec_Good_j5 k a0_0 a0_4 a0_3 r15 a0_5 v5 = some out) ?_ ?_
   ·rintro x5 hp
    replace hp : spec_Good_j5 k a0_0 a0_4 a0_3 r15 a0_5 x5 = some out := hp
    unfold spec_Good_j5 at hp
    refine nk hK15 ?_
    refine cx_cond' rfl (fun h8 => ?_) (fun h8 => ?_)
    ·replace hp := (br_t h8).symm.trans hp
     refine cr fun K20 hK20 => ?_
     refine s0 (rd_assign' rfl) ?_
     refine nk hK20 ?_
     refine cx_retc' ?_
     replace hp := Option.some.inj hp
     subst hp
     refine tx_pick' (L' := [(2, (Vb false))]) (H' := []) [] (sub_cons rfl sub_nil) (by decide) pick_nil ?_
     exact tx_ret1' Tryz.results9 rfl () (rv_tmp' rfl) (List.Sublist.refl _)
    replace hp := (br_f h8).symm.trans hp
    refine cx_skip' ?_
    show TX E K14 _
    refine tx_k' hK14 ?_
    refine cx_seq' fun K21 hK21 => ?_
    refine cr fun K22 hK22 => ?_
    refine s0 (rd_field0' rfl Tryz.underlying38 rfl info3 rfl) ?_
    refine s0 (rd_load' (i := 0) (o := 0) rfl ⟨rfl, rfl, rfl, rfl⟩ rfl flat3) ?_
    refine nk hK22 ?_
    refine cx_block' ?_
    refine cr fun K23 hK23 => ?_
    refine s0 (rd_bin' rfl rfl eg_int ru_eql) ?_
    refine s0 (rd_assign' rfl) ?_
    refine nk hK23 ?_
    refine cx_cond' rfl (fun h9 => ?_) (fun h9 => ?_)
    ·replace hp := (br_t h9).symm.trans hp
     refine cr fun K24 hK24 => ?_
     refine s0 (rd_field' (off := 4) rfl Tryz.underlying38 rfl info35 rfl) ?_
     refine s0 (rd_load' (i := 0) (o := 4) rfl ⟨rfl, rfl, rfl, rfl⟩ rfl flat35) ?_
     refine s0 (rd_len' rfl Tryz.underlying35) ?_
     refine s0 (rd_bin' rfl rfl eg_int ru_eql) ?_
     refine s0 (rd_move' rfl) ?_
     refine sx_cutn' 6 (fun (v6 : Bool) => (⟨165, [], [(100, (Vb v6))], []⟩ : St)) (fun (v6 : Bool) => spec_Good_j6 k v6 = some out) ?_ ?_
     ·rintro x6 hp
      replace hp : spec_Good_j6 k x6 = some out := hp
      unfold spec_Good_j6 at hp
      refine s0 (rd_assign' rfl) ?_
      refine nk hK24 ?_
      refine cx_retc' ?_
      replace hp := Option.some.inj hp
      subst hp
      refine tx_pick' (L' := [(2, (Vb x6))]) (H' := []) [] (sub_cons rfl sub_nil) (by decide) pick_nil ?_
      exact tx_ret1' Tryz.results9 rfl () (rv_tmp' rfl) (List.Sublist.refl _)
     intro K25 hK25
     rcases br_cases hp with ⟨h10, hp⟩ | ⟨h10, hp⟩
     ·refine sx_rd' (rd_field' (off := 3) rfl Tryz.underlying38 rfl info29 rfl) rfl rfl (wt_is' (wt_guard' rfl rfl rfl) (beq_tt h10)) ?_
      refine sx_rd' (rd_load' (i := 0) (o := 3) rfl ⟨rfl, rfl, rfl, rfl⟩ rfl flat29) rfl rfl (wt_is' (wt_guard' rfl rfl rfl) (beq_tt h10)) ?_
      refine sx_rd' (rd_len' rfl Tryz.underlying29) rfl rfl (wt_is' (wt_guard' rfl rfl rfl) (beq_tt h10)) ?_
      refine sx_rd' (rd_move' rfl) rfl rfl (wt_is' (wt_guard' rfl rfl rfl) (beq_tt h10)) ?_
      refine sx_rd' (rd_bin' rfl rfl eg_int ru_leq) rfl rfl (wt_is' (wt_guard' rfl rfl rfl) (beq_tt h10)) ?_
      refine s0 (rd_pick_true' rfl h10 rfl) ?_
      refine sx_nil' ?_
      show TX E K25 _
      exact tx_pick' [] (sub_cons rfl sub_nil) (by decide) pick_nil (hK25 (decide ((a0_3.length : Int) ≤ r15)) hp)
     refine sx_skip' rfl rfl (wt_is' (wt_guard' rfl rfl rfl) (beq_ft h10)) ?_
     refine sx_skip' rfl rfl (wt_is' (wt_guard' rfl rfl rfl) (beq_ft h10)) ?_
     refine sx_skip' rfl rfl (wt_is' (wt_guard' rfl rfl rfl) (beq_ft h10)) ?_
     refine sx_skip' rfl rfl (wt_is' (wt_guard' rfl rfl rfl) (beq_ft h10)) ?_
     refine sx_skip' rfl rfl (wt_is' (wt_guard' rfl rfl rfl) (beq_ft h10)) ?_
     refine s0 (rd_pick_false' rfl h10 rfl) ?_
     refine sx_nil' ?_
     show TX E K25 _
     exact tx_pick' [] (sub_cons rfl sub_nil) (by decide) pick_nil (hK25 false hp)
    replace hp := (br_f h9).symm.trans hp
    refine cx_join' (fun (v7 : Bool) => (⟨165, [], [(1, (Vp q1)), (3, (Vi r15)), (87, (Vi a0_0)), (101, (Vb v7))], [⟨.pointer (some q1), [(Vi a0_0), (Vi a0_1), (Vi a0_2), (Sl Kf a0_3), (Sl (Ki .i64) a0_4), (Sl (Kl (Ki .i64)) a0_5), (Sl KT38 a0_6)], 38, none⟩]⟩ : St)) (fun (v7 : Bool) => spec_Good_j7 k a0_4 a0_0 r15 a0_3 a0_5 v7 = some out) ?_ ?_
    ·rintro x7 hp
     replace hp : spec_Good_j7 k a0_4 a0_0 r15 a0_3 a0_5 x7 = some out := hp
     unfold spec_Good_j7 at hp
     refine cx_cond' rfl (fun h12 => ?_) (fun h12 => ?_)
     ·replace hp := (br_t h12).symm.trans hp
      refine cr fun K28 hK28 => ?_
      refine s0 (rd_field' (off := 4) rfl Tryz.underlying38 rfl info35 rfl) ?_
      refine s0 (rd_load' (i := 0) (o := 4) rfl ⟨rfl, rfl, rfl, rfl⟩ rfl flat35) ?_
      refine s0 (rd_len' rfl Tryz.underlying35) ?_
      refine s0 (rd_bin' rfl rfl eg_int ru_eql) ?_
      refine s0 (rd_assign' rfl) ?_
      refine nk hK28 ?_
      refine cx_retc' ?_
      replace hp := Option.some.inj hp
      subst hp
      refine tx_pick' (L' := [(2, (Vb (decide ((a0_4.length : Int) = 0))))]) (H' := []) [] (sub_cons rfl sub_nil) (by decide) pick_nil ?_
      exact tx_ret1' Tryz.results9 rfl () (rv_tmp' rfl) (List.Sublist.refl _)
     replace hp := (br_f h12).symm.trans hp
     refine cx_join' (fun (v8 : Bool) => (⟨165, [], [(1, (Vp q1)), (3, (Vi r15)), (87, (Vi a0_0)), (108, (Vb v8))], [⟨.pointer (some q1), [(Vi a0_0), (Vi a0_1), (Vi a0_2), (Sl Kf a0_3), (Sl (Ki .i64) a0_4), (Sl (Kl (Ki .i64)) a0_5), (Sl KT38 a0_6)], 38, none⟩]⟩ : St)) (fun (v8 : Bool) => spec_Good_j8 k a0_4 r15 a0_0 a0_3 a0_5 v8 = some out) ?_ ?_
     ·rintro x8 hp
      replace hp : spec_Good_j8 k a0_4 r15 a0_0 a0_3 a0_5 x8 = some out := hp
      unfold spec_Good_j8 at hp
      refine cx_cond' rfl (fun h15 => ?_) (fun h15 => ?_)
      ·replace hp := (br_t h15).symm.trans hp
       refine cr fun K32 hK32 => ?_
       refine s0 (rd_field' (off := 4) rfl Tryz.underlying38 rfl info35 rfl) ?_
       refine s0 (rd_load' (i := 0) (o := 4) rfl ⟨rfl, rfl, rfl, rfl⟩ rfl flat35) ?_
       refine s0 (rd_move' rfl) ?_
       refine s0 (rd_field0' rfl Tryz.underlying38 rfl info3 rfl) ?_
       refine s0 (rd_load' (i := 0) (o := 0) rfl ⟨rfl, rfl, rfl, rfl⟩ rfl flat3) ?_
       refine s0 (rd_bin' rfl rfl eg_int ru_eql) ?_
       obtain ⟨r119, hr119, hp⟩ := bind_some hp
       refine sx_ox' (ox_calln' (ent_fn' Tryz.func24 isn24 rfl rfl) (spec_goodEnds_sim _ _ _ _ hr119 : Sx.Fn Tryz.prog 24 [(Sl (Ki .i64) a0_4), (Vi 0), (Vi r15), (Vb (decide (a0_0 = 4)))] [] (fun x : Unit => (Tu [(Vi r119.1), (Vb r119.2)])) (fun x => [])) (Hn := fun x : Unit => [⟨.pointer (some q1), [(Vi a0_0), (Vi a0_1), (Vi a0_2), (Sl Kf a0_3), (Sl (Ki .i64) a0_4), (Sl (Kl (Ki .i64)) a0_5), (Sl KT38 a0_6)], 38, none⟩]) (fun _ => rfl) rfl rfl) (wt_none' rfl) fun ⟨⟩ => ?_
       refine s0 (rd_move' rfl) ?_
       refine s0 (rd_extract' rfl rfl) ?_
       refine s0 (rd_extract' rfl rfl) ?_
       refine s0 (rd_assign' rfl) ?_
       refine s0 (rd_assign' rfl) ?_
       refine nk hK32 ?_
       refine cr fun K33 hK33 => ?_
       refine s0 (rd_move' rfl) ?_
       refine s0 (rd_move' rfl) ?_
       refine sx_cutn' 6 (fun (v9 : Bool) => (⟨165, [], [(129, (Vb v9))], []⟩ : St)) (fun (v9 : Bool) => spec_Good_j9 k v9 = some out) ?_ ?_
       ·rintro x9 hp
        replace hp : spec_Good_j9 k x9 = some out := hp
        unfold spec_Good_j9 at hp
        refine s0 (rd_assign' rfl) ?_
        refine nk hK33 ?_
        refine cx_retc' ?_
        replace hp := Option.some.inj hp
        subst hp
        refine tx_pick' (L' := [(2, (Vb x9))]) (H' := []) [] (sub_cons rfl sub_nil) (by decide) pick_nil ?_
        exact tx_ret1' Tryz.results9 rfl () (rv_tmp' rfl) (List.Sublist.refl _)
       intro K34 hK34
       rcases br_cases hp with ⟨h16, hp⟩ | ⟨h16, hp⟩
       ·refine sx_rd' (rd_move' rfl) rfl rfl (wt_is' (wt_guard' rfl rfl rfl) (beq_tt h16)) ?_
        refine sx_rd' (rd_field' (off := 3) rfl Tryz.underlying38 rfl info29 rfl) rfl rfl (wt_is' (wt_guard' rfl rfl rfl) (beq_tt h16)) ?_
        refine sx_rd' (rd_load' (i := 0) (o := 3) rfl ⟨rfl, rfl, rfl, rfl⟩ rfl flat29) rfl rfl (wt_is' (wt_guard' rfl rfl rfl) (beq_tt h16)) ?_
        refine sx_rd' (rd_len' rfl Tryz.underlying29) rfl rfl (wt_is' (wt_guard' rfl rfl rfl) (beq_tt h16)) ?_
        refine sx_rd' (rd_bin' rfl rfl eg_int ru_eql) rfl rfl (wt_is' (wt_guard' rfl rfl rfl) (beq_tt h16)) ?_
        refine s0 (rd_pick_true' rfl h16 rfl) ?_
        refine sx_nil' ?_
        show TX E K34 _
        exact tx_pick' [] (sub_cons rfl sub_nil) (by decide) pick_nil (hK34 (decide (r119.1 = (a0_3.length : Int))) hp)
       refine sx_skip' rfl rfl (wt_is' (wt_guard' rfl rfl rfl) (beq_ft h16)) ?_
       refine sx_skip' rfl rfl (wt_is' (wt_guard' rfl rfl rfl) (beq_ft h16)) ?_
       refine sx_skip' rfl rfl (wt_is' (wt_guard' rfl rfl rfl) (beq_ft h16)) ?_
       refine sx_skip' rfl rfl (wt_is' (wt_guard' rfl rfl rfl) (beq_ft h16)) ?_
       refine sx_skip' rfl rfl (wt_is' (wt_guard' rfl rfl rfl) (beq_ft h16)) ?_
       refine s0 (rd_pick_false' rfl h16 rfl) ?_
       refine sx_nil' ?_
       show TX E K34 _
       exact tx_pick' [] (sub_cons rfl sub_nil) (by decide) pick_nil (hK34 false hp)
      replace hp := (br_f h15).symm.trans hp
      refine cr fun K35 hK35 => ?_
      refine s0 (rd_bin' rfl rfl eg_int ru_eql) ?_
      refine s0 (rd_assign' rfl) ?_
      refine nk hK35 ?_
      refine cx_cond' rfl (fun h17 => ?_) (fun h17 => ?_)
      ·replace hp := (br_t h17).symm.trans hp
       refine cr fun K36 hK36 => ?_
       refine s0 (rd_assign' rfl) ?_
       refine s0 (rd_assign' rfl) ?_
       refine nk hK36 ?_
       refine cx_seq' fun K37 hK37 => ?_
       refine cr fun K38 hK38 => ?_
       refine s0 (rd_field' (off := 5) rfl Tryz.underlying38 rfl info36 rfl) ?_
       refine s0 (rd_load' (i := 0) (o := 5) rfl ⟨rfl, rfl, rfl, rfl⟩ rfl flat36) ?_
       refine s0 (rd_len' rfl Tryz.underlying36) ?_
       refine s0 (rd_move' rfl) ?_
       refine nk hK38 ?_
       refine cx_block' ?_
       obtain ⟨v12, hy1, hp⟩ := bind_some hp
       refine cx_loopg' (F := spec_Good_l1 a0_5 r15) (G := fun k R v => spec_Good_l1s a0_5 r15 k R v.1 v.2.1 v.2.2) (x := (0, true, 0)) (gh := ()) (fun (v10 : Int × Bool × Int) (w10 : Unit) => (⟨165, [], [(1, (Vp q1)), (3, (Vi r15)), (8, (Vi v10.1)), (9, (Vb v10.2.1)), (133, (Sl (Kl (Ki .i64)) a0_5)), (134, (Vi (a0_5.length : Int))), (135, (Vi v10.2.2))], [⟨.pointer (some q1), [(Vi a0_0), (Vi a0_1), (Vi a0_2), (Sl Kf a0_3), (Sl (Ki .i64) a0_4), (Sl (Kl (Ki .i64)) a0_5), (Sl KT38 a0_6)], 38, none⟩]⟩ : St)) (fun (v12 : Int × Bool) => Zg E (Exit.exit 3) (fun (w12 : Unit) => (⟨165, [], [(1, (Vp q1)), (8, (Vi v12.1)), (9, (Vb v12.2))], [⟨.pointer (some q1), [(Vi a0_0), (Vi a0_1), (Vi a0_2), (Sl Kf a0_3), (Sl (Ki .i64) a0_4), (Sl (Kl (Ki .i64)) a0_5), (Sl KT38 a0_6)], 38, none⟩]⟩ : St))) (fun _ => rfl) (fun _ _ => rfl) ?_ hy1 (tx_to' rfl [0] (sub_cons rfl (sub_cons rfl (sub_cons rfl (sub_cons rfl (sub_cons rfl (sub_cons rfl (sub_cons rfl sub_nil))))))) (by decide) (pick_cons rfl pick_nil)) ?_
       ·clear hp hy1
        clear v12
        intro k rec1 KY1 ih1
        rintro ⟨x10, x11, x12⟩ ⟨⟩ y1 hp
        replace hp : spec_Good_l1s a0_5 r15 k rec1 x10 x11 x12 = some y1 := hp
        unfold spec_Good_l1s at hp
        refine cr fun K45 hK45 => ?_
        refine s0 (rd_bin' rfl rfl eg_int ru_lss) ?_
        refine nk hK45 ?_
        refine cx_seq' fun K46 hK46 => ?_
        refine cx_cond' rfl (fun h20 => ?_) (fun h20 => ?_)
        ·replace hp := (br_t h20).symm.trans hp
         refine cx_skip' ?_
         show TX E K46 _
         refine tx_k' hK46 ?_
         refine cx_seq' fun K47 hK47 => ?_
         refine cx_block' ?_
         refine cr fun K48 hK48 => ?_
         obtain ⟨r137, hr137, hp⟩ := bind_some hp
         refine s0 (rd_at' (K := (Kl (Ki .i64))) rfl rfl hr137 Tryz.underlying36 info35) ?_
         refine s0 (rd_load_pt' rfl rfl flat35) ?_
         refine s0 (rd_assign' rfl) ?_
         refine nk hK48 ?_
         refine cr fun K49 hK49 => ?_
         refine s0 (rd_assign' rfl) ?_
         refine nk hK49 ?_
         refine cr fun K50 hK50 => ?_
         refine s0 (rd_move' rfl) ?_
         refine s0 (rd_move' rfl) ?_
         refine s0 (rd_move' rfl) ?_
         obtain ⟨r143, hr143, hp⟩ := bind_some hp
         refine sx_ox' (ox_calln' (ent_fn' Tryz.func24 isn24 rfl rfl) (spec_goodEnds_sim _ _ _ _ hr143 : Sx.Fn Tryz.prog 24 [(Sl (Ki .i64) r137), (Vi x10), (Vi r15), (Vb false)] [] (fun x : Unit => (Tu [(Vi r143.1), (Vb r143.2)])) (fun x => [])) (Hn := fun x : Unit => [⟨.pointer (some q1), [(Vi a0_0), (Vi a0_1), (Vi a0_2), (Sl Kf a0_3), (Sl (Ki .i64) a0_4), (Sl (Kl (Ki .i64)) a0_5), (Sl KT38 a0_6)], 38, none⟩]) (fun _ => rfl) rfl rfl) (wt_none' rfl) fun ⟨⟩ => ?_
         refine s0 (rd_move' rfl) ?_
         refine s0 (rd_extract' rfl rfl) ?_
         refine s0 (rd_extract' rfl rfl) ?_
         refine s0 (rd_assign' rfl) ?_
         refine s0 (rd_assign' rfl) ?_
         refine nk hK50 ?_
         refine cx_region' ?_
         refine s0 (rd_move' rfl) ?_
         refine s0 (rd_move' rfl) ?_
         refine sx_cutn' 2 (fun (v11 : Bool) => (⟨165, [], [(1, (Vp q1)), (3, (Vi r15)), (8, (Vi r143.1)), (133, (Sl (Kl (Ki .i64)) a0_5)), (134, (Vi (a0_5.length : Int))), (135, (Vi x12)), (149, (Vb v11))], [⟨.pointer (some q1), [(Vi a0_0), (Vi a0_1), (Vi a0_2), (Sl Kf a0_3), (Sl (Ki .i64) a0_4), (Sl (Kl (Ki .i64)) a0_5), (Sl KT38 a0_6)], 38, none⟩]⟩ : St)) (fun (v11 : Bool) => spec_Good_j10 k rec1 r143 x12 v11 = some y1) ?_ ?_
         ·rintro x13 hp
          replace hp : spec_Good_j10 k rec1 r143 x12 x13 = some y1 := hp
          unfold spec_Good_j10 at hp
          refine s0 (rd_assign' rfl) ?_
          refine nk hK47 ?_
          refine cx_region' ?_
          refine s0 (rd_bin' rfl rfl eg_int ru_add) ?_
          refine s0 (rd_move' rfl) ?_
          refine sx_nil' ?_
          show TX E (KY1 _) _
          exact tx_pick' [0] (sub_cons rfl (sub_cons rfl (sub_cons rfl (sub_cons rfl (sub_cons rfl (sub_cons rfl (sub_cons rfl sub_nil))))))) (by decide) (pick_cons rfl pick_nil) (ih1 (r143.1, x13, (iadd .i64 x12 1)) () _ hp)
         intro K51 hK51
         rcases br_cases hp with ⟨h21, hp⟩ | ⟨h21, hp⟩
         ·refine sx_rd' (rd_move' rfl) rfl rfl (wt_is' (wt_guard' rfl rfl rfl) (beq_tt h21)) ?_
          refine s0 (rd_pick_true' rfl h21 rfl) ?_
          refine sx_nil' ?_
          show TX E K51 _
          exact tx_pick' [0] (sub_cons rfl (sub_cons rfl (sub_cons rfl (sub_cons rfl (sub_cons rfl (sub_cons rfl (sub_cons rfl sub_nil))))))) (by decide) (pick_cons rfl pick_nil) (hK51 r143.2 hp)
         refine sx_skip' rfl rfl (wt_is' (wt_guard' rfl rfl rfl) (beq_ft h21)) ?_
         refine s0 (rd_pick_false' rfl h21 rfl) ?_
         refine sx_nil' ?_
         show TX E K51 _
         exact tx_pick' [0] (sub_cons rfl (sub_cons rfl (sub_cons rfl (sub_cons rfl (sub_cons rfl (sub_cons rfl (sub_cons rfl sub_nil))))))) (by decide) (pick_cons rfl pick_nil) (hK51 false hp)
        replace hp := (br_f h20).symm.trans hp
        refine cx_exit' ?_
        replace hp := Option.some.inj hp
        subst hp
        show TX E (Zg E (Exit.exit 3) _ (Exit.exit 3)) _
        exact tx_zend' () rfl [0] (sub_cons rfl (sub_cons rfl (sub_cons rfl sub_nil))) (by decide) (pick_cons rfl pick_nil)
       refine zg_out fun w12 => ?_
       show TX E K37 _
       refine tx_k' hK37 ?_
       refine cr fun K52 hK52 => ?_
       refine s0 (rd_move' rfl) ?_
       refine s0 (rd_move' rfl) ?_
       refine sx_cutn' 6 (fun (v13 : Bool) => (⟨165, [], [(1, (Vp q1)), (158, (Vb v13))], [⟨.pointer (some q1), [(Vi a0_0), (Vi a0_1), (Vi a0_2), (Sl Kf a0_3), (Sl (Ki .i64) a0_4), (Sl (Kl (Ki .i64)) a0_5), (Sl KT38 a0_6)], 38, none⟩]⟩ : St)) (fun (v13 : Bool) => spec_Good_j11 k a0_4 v13 = some out) ?_ ?_
       ·rintro x16 hp
        replace hp : spec_Good_j11 k a0_4 x16 = some out := hp
        unfold spec_Good_j11 at hp
        refine s0 (rd_move' rfl) ?_
        refine sx_cutn' 5 (fun (v14 : Bool) => (⟨165, [], [(164, (Vb v14))], []⟩ : St)) (fun (v14 : Bool) => spec_Good_j12 k v14 = some out) ?_ ?_
        ·rintro x17 hp
         replace hp : spec_Good_j12 k x17 = some out := hp
         unfold spec_Good_j12 at hp
         refine s0 (rd_assign' rfl) ?_
         refine nk hK52 ?_
         refine cx_retc' ?_
         replace hp := Option.some.inj hp
         subst hp
         refine tx_pick' (L' := [(2, (Vb x17))]) (H' := []) [] (sub_cons rfl sub_nil) (by decide) pick_nil ?_
         exact tx_ret1' Tryz.results9 rfl () (rv_tmp' rfl) (List.Sublist.refl _)
        intro K54 hK54
        rcases br_cases hp with ⟨h23, hp⟩ | ⟨h23, hp⟩
        ·refine sx_rd' (rd_field' (off := 4) rfl Tryz.underlying38 rfl info35 rfl) rfl rfl (wt_is' (wt_guard' rfl rfl rfl) (beq_tt h23)) ?_
         refine sx_rd' (rd_load' (i := 0) (o := 4) rfl ⟨rfl, rfl, rfl, rfl⟩ rfl flat35) rfl rfl (wt_is' (wt_guard' rfl rfl rfl) (beq_tt h23)) ?_
         refine sx_rd' (rd_len' rfl Tryz.underlying35) rfl rfl (wt_is' (wt_guard' rfl rfl rfl) (beq_tt h23)) ?_
         refine sx_rd' (rd_bin' rfl rfl eg_int ru_eql) rfl rfl (wt_is' (wt_guard' rfl rfl rfl) (beq_tt h23)) ?_
         refine s0 (rd_pick_true' rfl h23 rfl) ?_
         refine sx_nil' ?_
         show TX E K54 _
         exact tx_pick' [] (sub_cons rfl sub_nil) (by decide) pick_nil (hK54 (decide ((a0_4.length : Int) = 0)) hp)
        refine sx_skip' rfl rfl (wt_is' (wt_guard' rfl rfl rfl) (beq_ft h23)) ?_
        refine sx_skip' rfl rfl (wt_is' (wt_guard' rfl rfl rfl) (beq_ft h23)) ?_
        refine sx_skip' rfl rfl (wt_is' (wt_guard' rfl rfl rfl) (beq_ft h23)) ?_
        refine sx_skip' rfl rfl (wt_is' (wt_guard' rfl rfl rfl) (beq_ft h23)) ?_
        refine s0 (rd_pick_false' rfl h23 rfl) ?_
        refine sx_nil' ?_
        show TX E K54 _
        exact tx_pick' [] (sub_cons rfl sub_nil) (by decide) pick_nil (hK54 false hp)
       intro K53 hK53
       rcases br_cases hp with ⟨h22, hp⟩ | ⟨h22, hp⟩
       ·refine sx_rd' (rd_move' rfl) rfl rfl (wt_is' (wt_guard' rfl rfl rfl) (beq_tt h22)) ?_
        refine sx_rd' (rd_field' (off := 3) rfl Tryz.underlying38 rfl info29 rfl) rfl rfl (wt_is' (wt_guard' rfl rfl rfl) (beq_tt h22)) ?_
        refine sx_rd' (rd_load' (i := 0) (o := 3) rfl ⟨rfl, rfl, rfl, rfl⟩ rfl flat29) rfl rfl (wt_is' (wt_guard' rfl rfl rfl) (beq_tt h22)) ?_
        refine sx_rd' (rd_len' rfl Tryz.underlying29) rfl rfl (wt_is' (wt_guard' rfl rfl rfl) (beq_tt h22)) ?_
        refine sx_rd' (rd_bin' rfl rfl eg_int ru_eql) rfl rfl (wt_is' (wt_guard' rfl rfl rfl) (beq_tt h22)) ?_
        refine s0 (rd_pick_true' rfl h22 rfl) ?_
        refine sx_nil' ?_
        show TX E K53 _
        exact tx_pick' [0] (sub_cons rfl (sub_cons rfl sub_nil)) (by decide) (pick_cons rfl pick_nil) (hK53 (decide (v12.1 = (a0_3.length : Int))) hp)
       refine sx_skip' rfl rfl (wt_is' (wt_guard' rfl rfl rfl) (beq_ft h22)) ?_
       refine sx_skip' rfl rfl (wt_is' (wt_guard' rfl rfl rfl) (beq_ft h22)) ?_
       refine sx_skip' rfl rfl (wt_is' (wt_guard' rfl rfl rfl) (beq_ft h22)) ?_
       refine sx_skip' rfl rfl (wt_is' (wt_guard' rfl rfl rfl) (beq_ft h22)) ?_
       refine sx_skip' rfl rfl (wt_is' (wt_guard' rfl rfl rfl) (beq_ft h22)) ?_
       refine s0 (rd_pick_false' rfl h22 rfl) ?_
       refine sx_nil' ?_
       show TX E K53 _
       exact tx_pick' [0] (sub_cons rfl (sub_cons rfl sub_nil)) (by decide) (pick_cons rfl pick_nil) (hK53 false hp)
      replace hp := (br_f h17).symm.trans hp
      refine cx_skip' ?_
      show TX E K21 _
      refine tx_k' hK21 ?_
      refine cr fun K55 hK55 => ?_
      refine s0 (rd_assign' rfl) ?_
      refine nk hK55 ?_
      refine cx_retc' ?_
      replace hp := Option.some.inj hp
      subst hp
      refine tx_pick' (L' := [(2, (Vb false))]) (H' := []) [] (sub_cons rfl sub_nil) (by decide) pick_nil ?_
      exact tx_ret1' Tryz.results9 rfl () (rv_tmp' rfl) (List.Sublist.refl _)
     intro K29 hK29
     refine cr fun K30 hK30 => ?_
     refine s0 (rd_bin' rfl rfl eg_int ru_eql) ?_
     refine s0 (rd_assign' rfl) ?_
     refine nk hK30 ?_
     refine cx_cond' rfl (fun h13 => ?_) (fun h13 => ?_)
     ·replace hp := (br_t h13).symm.trans hp
      refine cx_skip' ?_
      show TX E K29 _
      exact tx_pick' [0] (sub_cons rfl (sub_cons rfl (sub_cons rfl (sub_cons rfl sub_nil)))) (by decide) (pick_cons rfl pick_nil) (hK29 (decide (a0_0 = 3)) hp)
     replace hp := (br_f h13).symm.trans hp
     refine cr fun K31 hK31 => ?_
     refine s0 (rd_bin' rfl rfl eg_int ru_eql) ?_
     refine s0 (rd_assign' rfl) ?_
     refine nk hK31 ?_
     refine cx_cond' rfl (fun h14 => ?_) (fun h14 => ?_)
     ·replace hp := (br_t h14).symm.trans hp
      refine cx_skip' ?_
      show TX E K29 _
      exact tx_pick' [0] (sub_cons rfl (sub_cons rfl (sub_cons rfl (sub_cons rfl sub_nil)))) (by decide) (pick_cons rfl pick_nil) (hK29 (decide (a0_0 = 4)) hp)
     replace hp := (br_f h14).symm.trans hp
     refine cx_region' ?_
     refine s0 (rd_bin' rfl rfl eg_int ru_eql) ?_
     refine s0 (rd_assign' rfl) ?_
     refine sx_nil' ?_
     show TX E K29 _
     exact tx_pick' [0] (sub_cons rfl (sub_cons rfl (sub_cons rfl (sub_cons rfl sub_nil)))) (by decide) (pick_cons rfl pick_nil) (hK29 (decide (a0_0 = 5)) hp)
    intro K26 hK26
    refine cr fun K27 hK27 => ?_
    refine s0 (rd_bin' rfl rfl eg_int ru_eql) ?_
    refine s0 (rd_assign' rfl) ?_
    refine nk hK27 ?_
    refine cx_cond' rfl (fun h11 => ?_) (fun h11 => ?_)
    ·replace hp := (br_t h11).symm.trans hp
     refine cx_skip' ?_
     show TX E K26 _
     exact tx_pick' [0] (sub_cons rfl (sub_cons rfl (sub_cons rfl (sub_cons rfl sub_nil)))) (by decide) (pick_cons rfl pick_nil) (hK26 (decide (a0_0 = 2)) hp)
    replace hp := (br_f h11).symm.trans hp
    refine cx_region' ?_
    refine s0 (rd_bin' rfl rfl eg_int ru_eql) ?_
    refine s0 (rd_assign' rfl) ?_
    refine sx_nil' ?_
    show TX E K26 _
    exact tx_pick' [0] (sub_cons rfl (sub_cons rfl (sub_cons rfl (sub_cons rfl sub_nil)))) (by decide) (pick_cons rfl pick_nil) (hK26 (decide (a0_0 = 8)) hp)
   intro K19 hK19
   rcases br_cases hp with ⟨h6, hp⟩ | ⟨h6, hp⟩
   ·refine sx_skip' rfl rfl (wt_is' (wt_guard' rfl rfl rfl) (beq_tf h6)) ?_
    refine sx_skip' rfl rfl (wt_is' (wt_guard' rfl rfl rfl) (beq_tf h6)) ?_
    refine sx_skip' rfl rfl (wt_is' (wt_guard' rfl rfl rfl) (beq_tf h6)) ?_
    refine sx_skip' rfl rfl (wt_is' (wt_guard' rfl rfl rfl) (beq_tf h6)) ?_
    refine sx_skip' rfl rfl (wt_is' (wt_guard' rfl rfl rfl) (beq_tf h6)) ?_
    refine sx_skip' rfl rfl (wt_undef' rfl rfl rfl) ?_
    refine sx_skip' rfl rfl (wt_undef' rfl rfl rfl) ?_
    refine sx_skip' rfl rfl (wt_undef' rfl rfl rfl) ?_
    refine sx_skip' rfl rfl (wt_is' (wt_guard' rfl rfl rfl) (beq_tf h6)) ?_
    refine s0 (rd_pick_true' rfl h6 rfl) ?_
    refine sx_nil' ?_
    show TX E K19 _
    exact tx_pick' [0] (sub_cons rfl (sub_cons rfl (sub_cons rfl sub_nil))) (by decide) (pick_cons rfl pick_nil) (hK19 true hp)
   refine sx_rd' (rd_field' (off := 5) rfl Tryz.underlying38 rfl info36 rfl) rfl rfl (wt_is' (wt_guard' rfl rfl rfl) (beq_ff h6)) ?_
   refine sx_rd' (rd_load' (i := 0) (o := 5) rfl ⟨rfl, rfl, rfl, rfl⟩ rfl flat36) rfl rfl (wt_is' (wt_guard' rfl rfl rfl) (beq_ff h6)) ?_
   refine sx_rd' (rd_len' rfl Tryz.underlying36) rfl rfl (wt_is' (wt_guard' rfl rfl rfl) (beq_ff h6)) ?_
   refine sx_rd' (rd_bin' rfl rfl eg_int ru_gtr) rfl rfl (wt_is' (wt_guard' rfl rfl rfl) (beq_ff h6)) ?_
   refine sx_rd' (rd_move' rfl) rfl rfl (wt_is' (wt_guard' rfl rfl rfl) (beq_ff h6)) ?_
   refine sx_cutn' 5 (fun (v4 : Bool) => (⟨165, [], [(1, (Vp q1)), (3, (Vi r15)), (85, (Vb v4))], [⟨.pointer (some q1), [(Vi a0_0), (Vi a0_1), (Vi a0_2), (Sl Kf a0_3), (Sl (Ki .i64) a0_4), (Sl (Kl (Ki .i64)) a0_5), (Sl KT38 a0_6)], 38, none⟩]⟩ : St)) (fun (v4 : Bool) => spec_Good_j4 k a0_0 a0_4 a0_3 r15 a0_5 v4 = some out) ?_ ?_
   ·rintro x4 hp
    replace hp : spec_Good_j4 k a0_0 a0_4 a0_3 r15 a0_5 x4 = some out := hp
    unfold spec_Good_j4 at hp
    refine sx_nil' ?_
    show TX E K19 _
    exact tx_pick' [0] (sub_cons rfl (sub_cons rfl (sub_cons rfl sub_nil))) (by decide) (pick_cons rfl pick_nil) (hK19 x4 hp)
   intro K18 hK18
   rcases br_cases hp with ⟨h7, hp⟩ | ⟨h7, hp⟩
   ·refine sx_rd' (rd_field0' rfl Tryz.underlying38 rfl info3 rfl) rfl rfl (wt_is' (wt_guard' rfl rfl rfl) (beq_tt h7)) ?_
    refine sx_rd' (rd_load' (i := 0) (o := 0) rfl ⟨rfl, rfl, rfl, rfl⟩ rfl flat3) rfl rfl (wt_is' (wt_guard' rfl rfl rfl) (beq_tt h7)) ?_
    refine sx_rd' (rd_bin' rfl rfl eg_int ru_neq) rfl rfl (wt_is' (wt_guard' rfl rfl rfl) (beq_tt h7)) ?_
    refine sx_rd' (rd_pick_true' rfl h7 rfl) rfl rfl (wt_is' (wt_guard' rfl rfl rfl) (beq_ff h6)) ?_
    refine s0 (rd_pick_false' rfl h6 rfl) ?_
    refine sx_nil' ?_
    show TX E K18 _
    exact tx_pick' [0] (sub_cons rfl (sub_cons rfl (sub_cons rfl sub_nil))) (by decide) (pick_cons rfl pick_nil) (hK18 (!decide (a0_0 = 6)) hp)
   refine sx_skip' rfl rfl (wt_is' (wt_guard' rfl rfl rfl) (beq_ft h7)) ?_
   refine sx_skip' rfl rfl (wt_is' (wt_guard' rfl rfl rfl) (beq_ft h7)) ?_
   refine sx_skip' rfl rfl (wt_is' (wt_guard' rfl rfl rfl) (beq_ft h7)) ?_
   refine sx_rd' (rd_pick_false' rfl h7 rfl) rfl rfl (wt_is' (wt_guard' rfl rfl rfl) (beq_ff h6)) ?_
   refine s0 (rd_pick_false' rfl h6 rfl) ?_
   refine sx_nil' ?_
   show TX E K18 _
   exact tx_pick' [0] (sub_cons rfl (sub_cons rfl (sub_cons rfl sub_nil))) (by decide) (pick_cons rfl pick_nil) (hK18 false hp)
  intro K17 hK17
  rcases br_cases hp with ⟨h5, hp⟩ | ⟨h5, hp⟩
  ·refine sx_skip' rfl rfl (wt_is' (wt_guard' rfl rfl rfl) (beq_tf h5)) ?_
   refine sx_skip' rfl rfl (wt_is' (wt_guard' rfl rfl rfl) (beq_tf h5)) ?_
   refine sx_skip' rfl rfl (wt_is' (wt_guard' rfl rfl rfl) (beq_tf h5)) ?_
   refine sx_skip' rfl rfl (wt_is' (wt_guard' rfl rfl rfl) (beq_tf h5)) ?_
   refine s0 (rd_pick_true' rfl h5 rfl) ?_
   refine sx_nil' ?_
   show TX E K17 _
   exact tx_pick' [0] (sub_cons rfl (sub_cons rfl (sub_cons rfl sub_nil))) (by decide) (pick_cons rfl pick_nil) (hK17 true hp)
  refine sx_rd' (rd_field' (off := 6) rfl Tryz.underlying38 rfl info22 rfl) rfl rfl (wt_is' (wt_guard' rfl rfl rfl) (beq_ff h5)) ?_
  refine sx_rd' (rd_load' (i := 0) (o := 6) rfl ⟨rfl, rfl, rfl, rfl⟩ rfl flat22) rfl rfl (wt_is' (wt_guard' rfl rfl rfl) (beq_ff h5)) ?_
  refine sx_rd' (rd_len' rfl Tryz.underlying22) rfl rfl (wt_is' (wt_guard' rfl rfl rfl) (beq_ff h5)) ?_
  refine sx_rd' (rd_bin' rfl rfl eg_int ru_gtr) rfl rfl (wt_is' (wt_guard' rfl rfl rfl) (beq_ff h5)) ?_
  refine s0 (rd_pick_false' rfl h5 rfl) ?_
  refine sx_nil' ?_
  show TX E K17 _
  exact tx_pick' [0] (sub_cons rfl (sub_cons rfl (sub_cons rfl sub_nil))) (by decide) (pick_cons rfl pick_nil) (hK17 (decide (0 < (a0_6.length : Int))) hp)
 intro K16 hK16
 rcases br_cases hp with ⟨h4, hp⟩ | ⟨h4, hp⟩
 ·refine sx_skip' rfl rfl (wt_is' (wt_guard' rfl rfl rfl) (beq_tf h4)) ?_
  refine sx_skip' rfl rfl (wt_is' (wt_guard' rfl rfl rfl) (beq_tf h4)) ?_
  refine sx_skip' rfl rfl (wt_is' (wt_guard' rfl rfl rfl) (beq_tf h4)) ?_
  refine sx_skip' rfl rfl (wt_is' (wt_guard' rfl rfl rfl) (beq_tf h4)) ?_
  refine sx_skip' rfl rfl (wt_is' (wt_guard' rfl rfl rfl) (beq_tf h4)) ?_
  refine sx_skip' rfl rfl (wt_is' (wt_guard' rfl rfl rfl) (beq_tf h4)) ?_
  refine s0 (rd_pick_true' rfl h4 rfl) ?_
  refine sx_nil' ?_
  show TX E K16 _
  exact tx_pick' [0] (sub_cons rfl (sub_cons rfl (sub_cons rfl sub_nil))) (by decide) (pick_cons rfl pick_nil) (hK16 true hp)
 refine sx_rd' (rd_field' (off := 3) rfl Tryz.underlying38 rfl info29 rfl) rfl rfl (wt_is' (wt_guard' rfl rfl rfl) (beq_ff h4)) ?_
 refine sx_rd' (rd_load' (i := 0) (o := 3) rfl ⟨rfl, rfl, rfl, rfl⟩ rfl flat29) rfl rfl (wt_is' (wt_guard' rfl rfl rfl) (beq_ff h4)) ?_
 refine sx_rd' (rd_len' rfl Tryz.underlying29) rfl rfl (wt_is' (wt_guard' rfl rfl rfl) (beq_ff h4)) ?_
 refine sx_rd' (rd_move' rfl) rfl rfl (wt_is' (wt_guard' rfl rfl rfl) (beq_ff h4)) ?_
 obtain ⟨r66, hr66, hp⟩ := bind_some hp
 refine sx_rd' (rd_bin' rfl rfl eg_int (ru_rem hr66)) rfl rfl (wt_is' (wt_guard' rfl rfl rfl) (beq_ff h4)) ?_
 refine sx_rd' (rd_bin' rfl rfl eg_int ru_neq) rfl rfl (wt_is' (wt_guard' rfl rfl rfl) (beq_ff h4)) ?_
 refine s0 (rd_pick_false' rfl h4 rfl) ?_
 refine sx_nil' ?_
 show TX E K16 _
 exact tx_pick' [0] (sub_cons rfl (sub_cons rfl (sub_cons rfl sub_nil))) (by decide) (pick_cons rfl pick_nil) (hK16 (!decide (r66 = 0)) hp)
theorem spec_Good_simA : ∀ (k : Nat)  (a0_0 : Int) (a0_1 : Int) (a0_2 : Int) (a0_3 : List Nat) (a0_4 : List Int) (a0_5 : List (List Int)) (a0_6 : List T38) (out : Bool), spec_Good k a0_0 a0_1 a0_2 a0_3 a0_4 a0_5 a0_6 = some out → Sx.Fn Tryz.prog 9 [(Ag [(Vi a0_0), (Vi a0_1), (Vi a0_2), (Sl Kf a0_3), (Sl (Ki .i64) a0_4), (Sl (Kl (Ki .i64)) a0_5), (Sl KT38 a0_6)])] [] (fun w : Unit => (Vb out)) (fun w => []) := by
 intro k
 induction k with
 | zero => intro a0_0 a0_1 a0_2 a0_3 a0_4 a0_5 a0_6 out hp; cases hp
 | succ k ih => intro a0_0 a0_1 a0_2 a0_3 a0_4 a0_5 a0_6 out hp; exact spec_Good_b_sim ih a0_0 a0_1 a0_2 a0_3 a0_4 a0_5 a0_6 hp
theorem spec_Good_sim {k : Nat}  (a0_0 : Int) (a0_1 : Int) (a0_2 : Int) (a0_3 : List Nat) (a0_4 : List Int) (a0_5 : List (List Int)) (a0_6 : List T38) {out : Bool} (hp : spec_Good k a0_0 a0_1 a0_2 a0_3 a0_4 a0_5 a0_6 = some out) : Sx.Fn Tryz.prog 9 [(Ag [(Vi a0_0), (Vi a0_1), (Vi a0_2), (Sl Kf a0_3), (Sl (Ki .i64) a0_4), (Sl (Kl (Ki .i64)) a0_5), (Sl KT38 a0_6)])] [] (fun w : Unit => (Vb out)) (fun w => []) := spec_Good_simA k a0_0 a0_1 a0_2 a0_3 a0_4 a0_5 a0_6 out hp

def math_Trunc (k : Nat) (a0 : Nat) : Option (Nat) :=
 (some (gint .zero a0)) >>= fun r4 =>
 some r4

theorem math_Trunc_sim {k : Nat}  (a0 : Nat) {out : Nat} (hp : math_Trunc k a0 = some out) : Sx.Fn Tryz.prog 79 [(Vg a0)] [] (fun w : Unit => (Fl out)) (fun w => []) := by
 unfold math_Trunc at hp
 refine fn_of Tryz.func79 rfl Tryz.ntmps79 rfl fun E hM => ?_
 refine cr fun K1 hK1 => ?_
 refine s0 (rd_assign' rfl) ?_
 refine nk hK1 ?_
 refine cx_seq' fun K2 hK2 => ?_
 refine cx_cond_t' rfl rfl ?_
 refine cr fun K3 hK3 => ?_
 refine s0 (rd_move' rfl) ?_
 obtain ⟨r4, hr4, hp⟩ := bind_some hp
 refine sx_ox' (ox_extf' rfl (fl_v rfl) Tryz.func89 (extf89 (Option.some.inj hr4)) rfl rfl) (wt_none' rfl) fun _ => ?_
 refine s0 (rd_assign' rfl) ?_
 refine nk hK3 ?_
 refine cx_retc' ?_
 replace hp := Option.some.inj hp
 subst hp
 refine tx_pick' (L' := [(2, (Fl r4))]) (H' := []) [] (sub_cons rfl sub_nil) (by decide) pick_nil ?_
 exact tx_ret1' Tryz.results79 rfl () (rv_tmp' rfl) (List.Sublist.refl _)

def math_Abs (k : Nat) (a0 : Nat) : Option (Nat) :=
 some (ffrom (iandn .u64 (fbits a0) 9223372036854775808))

theorem math_Abs_sim {k : Nat}  (a0 : Nat) {out : Nat} (hp : math_Abs k a0 = some out) : Sx.Fn Tryz.prog 60 [(Vg a0)] [] (fun w : Unit => (Vg out)) (fun w => []) := by
 unfold math_Abs at hp
 refine fn_of Tryz.func60 rfl Tryz.ntmps60 rfl fun E hM => ?_
 refine cr fun K1 hK1 => ?_
 refine s0 (rd_assign' rfl) ?_
 refine nk hK1 ?_
 refine cr fun K2 hK2 => ?_
 refine s0 (rd_move' rfl) ?_
 refine s0 (rd_ext' (us := [.float .f64 a0]) rfl (ext78 ex_bits)) ?_
 refine s0 (rd_bin' rfl rfl eg_int ru_andn) ?_
 refine s0 (rd_ext' (us := [.int .u64 (iandn .u64 (fbits a0) 9223372036854775808)]) rfl (ext77 ex_from)) ?_
 refine s0 (rd_assign' rfl) ?_
 refine nk hK2 ?_
 refine cx_retc' ?_
 replace hp := Option.some.inj hp
 subst hp
 refine tx_pick' (L' := [(2, (Vg (ffrom (iandn .u64 (fbits a0) 9223372036854775808))))]) (H' := []) [] (sub_cons rfl sub_nil) (by decide) pick_nil ?_
 exact tx_ret1' Tryz.results60 rfl () (rv_tmp' rfl) (List.Sublist.refl _)

def laws_wholeTo_j2 (k : Nat) (rec1 : Int → Option (Unit ⊕ Unit)) (x3 : Int) (x2 : Bool) : Option (Unit ⊕ Unit) :=
 br x2
  (some (.inl ()))
  (rec1 (iadd .i64 x3 1))
def laws_wholeTo_l1s (a1 : List Nat) (a0 : Nat) (k : Nat) (rec1 : Int → Option (Unit ⊕ Unit)) (x3 : Int) : Option (Unit ⊕ Unit) :=
 br (decide (x3 < (a1.length : Int)))
  ((idx a1 x3) >>= fun r11 =>
  (math_Trunc k r11) >>= fun r15 =>
  br (fne r11 r15)
   (laws_wholeTo_j2 k rec1 x3 true)
   ((math_Abs k r11) >>= fun r19 =>
   laws_wholeTo_j2 k rec1 x3 (fgt r19 a0)))
  (some (.inr ()))
def laws_wholeTo_l1 (a1 : List Nat) (a0 : Nat) : Nat → Int → Option (Unit ⊕ Unit)
 | 0, _ => none
 | k + 1, v => laws_wholeTo_l1s a1 a0 k (laws_wholeTo_l1 a1 a0 k) v
def laws_wholeTo (k : Nat) (a0 : Nat) (a1 : List Nat) : Option (Bool) :=
 (laws_wholeTo_l1 a1 a0 k 0) >>= fun y1 => match y1 with
  | (.inl v4) =>
   (some false)
  | (.inr v5) =>
   (some true)

theorem laws_wholeTo_sim {k : Nat}  (a0 : Nat) (a1 : List Nat) {out : Bool} (hp : laws_wholeTo k a0 a1 = some out) : Sx.Fn Tryz.prog 62 [(Vg a0), (Sl Kf a1)] [] (fun w : Unit => (Vb out)) (fun w => []) := by
 unfold laws_wholeTo at hp
 refine fn_of Tryz.func62 rfl Tryz.ntmps62 rfl fun E hM => ?_
 refine cr fun K1 hK1 => ?_
 refine s0 (rd_assign' rfl) ?_
 refine nk hK1 ?_
 refine cx_seq' fun K2 hK2 => ?_
 refine cr fun K3 hK3 => ?_
 refine s0 (rd_move' rfl) ?_
 refine s0 (rd_len' rfl Tryz.underlying29) ?_
 refine s0 (rd_move' rfl) ?_
 refine nk hK3 ?_
 refine cx_block' ?_
 obtain ⟨y1, hy1, hp⟩ := bind_some hp
 refine cx_loopg' (F := laws_wholeTo_l1 a1 a0) (G := fun k R v => laws_wholeTo_l1s a1 a0 k R v) (x := 0) (gh := ()) (fun (v2 : Int) (w2 : Unit) => (⟨24, [], [(0, (Vg a0)), (7, (Sl Kf a1)), (8, (Vi (a1.length : Int))), (9, (Vi v2))], []⟩ : St)) (fun (y : Unit ⊕ Unit) => match y with | (.inl v4) => Zg E Exit.ret (fun (w4 : Unit) => (⟨24, [], [(4, (Vb false))], []⟩ : St)) | (.inr v5) => Zg E (Exit.exit 0) (fun (w5 : Unit) => (⟨24, [], [], []⟩ : St))) (fun _ => rfl) (fun _ _ => rfl) ?_ hy1 (tx_to' rfl [] (sub_cons rfl (sub_cons rfl (sub_cons rfl (sub_cons rfl sub_nil)))) (by decide) pick_nil) ?_
 ·clear hp hy1
  clear y1
  intro k rec1 KY1 ih1
  rintro x3 ⟨⟩ y1 hp
  replace hp : laws_wholeTo_l1s a1 a0 k rec1 x3 = some y1 := hp
  unfold laws_wholeTo_l1s at hp
  refine cr fun K11 hK11 => ?_
  refine s0 (rd_bin' rfl rfl eg_int ru_lss) ?_
  refine nk hK11 ?_
  refine cx_seq' fun K12 hK12 => ?_
  refine cx_cond' rfl (fun h5 => ?_) (fun h5 => ?_)
  ·replace hp := (br_t h5).symm.trans hp
   refine cx_skip' ?_
   show TX E K12 _
   refine tx_k' hK12 ?_
   refine cx_seq' fun K13 hK13 => ?_
   refine cx_block' ?_
   refine cr fun K14 hK14 => ?_
   obtain ⟨r11, hr11, hp⟩ := bind_some hp
   refine s0 (rd_at' (K := Kf) rfl rfl hr11 Tryz.underlying29 info26) ?_
   refine s0 (rd_load_pt' rfl rfl flat26) ?_
   refine s0 (rd_assign' rfl) ?_
   refine nk hK14 ?_
   refine cr fun K15 hK15 => ?_
   refine s0 (rd_move' rfl) ?_
   refine s0 (rd_move' rfl) ?_
   obtain ⟨r15, hr15, hp⟩ := bind_some hp
   refine sx_ox' (ox_calln' (ent_fn' Tryz.func79 isn79 rfl rfl) (math_Trunc_sim _ hr15 : Sx.Fn Tryz.prog 79 [(Vg r11)] [] (fun x : Unit => (Fl r15)) (fun x => [])) (Hn := fun x : Unit => []) (fun _ => rfl) rfl rfl) (wt_none' rfl) fun ⟨⟩ => ?_
   refine s0 (rd_fcmp' (fl_v rfl) (fl_f rfl) rfl) ?_
   refine s0 (rd_move' rfl) ?_
   refine sx_cutn' 5 (fun (v3 : Bool) => (⟨24, [], [(0, (Vg a0)), (7, (Sl Kf a1)), (8, (Vi (a1.length : Int))), (9, (Vi x3)), (22, (Vb v3))], []⟩ : St)) (fun (v3 : Bool) => laws_wholeTo_j2 k rec1 x3 v3 = some y1) ?_ ?_
   ·rintro x2 hp
    replace hp : laws_wholeTo_j2 k rec1 x3 x2 = some y1 := hp
    unfold laws_wholeTo_j2 at hp
    refine nk hK15 ?_
    refine cx_cond' rfl (fun h7 => ?_) (fun h7 => ?_)
    ·replace hp := (br_t h7).symm.trans hp
     refine cr fun K17 hK17 => ?_
     refine s0 (rd_assign' rfl) ?_
     refine nk hK17 ?_
     refine cx_retc' ?_
     replace hp := Option.some.inj hp
     subst hp
     show TX E (Zg E Exit.ret _ Exit.ret) _
     exact tx_zend' () rfl [] (sub_cons rfl sub_nil) (by decide) pick_nil
    replace hp := (br_f h7).symm.trans hp
    refine cx_skip' ?_
    show TX E K13 _
    refine tx_k' hK13 ?_
    refine cx_region' ?_
    refine s0 (rd_bin' rfl rfl eg_int ru_add) ?_
    refine s0 (rd_move' rfl) ?_
    refine sx_nil' ?_
    show TX E (KY1 _) _
    exact tx_pick' [] (sub_cons rfl (sub_cons rfl (sub_cons rfl (sub_cons rfl sub_nil)))) (by decide) pick_nil (ih1 (iadd .i64 x3 1) () _ hp)
   intro K16 hK16
   rcases br_cases hp with ⟨h6, hp⟩ | ⟨h6, hp⟩
   ·refine sx_skip' rfl rfl (wt_is' (wt_guard' rfl rfl rfl) (beq_tf h6)) ?_
    refine sx_skip' rfl rfl (wt_is' (wt_guard' rfl rfl rfl) (beq_tf h6)) ?_
    refine sx_skip' rfl rfl (wt_is' (wt_guard' rfl rfl rfl) (beq_tf h6)) ?_
    refine sx_skip' rfl rfl (wt_is' (wt_guard' rfl rfl rfl) (beq_tf h6)) ?_
    refine s0 (rd_pick_true' rfl h6 rfl) ?_
    refine sx_nil' ?_
    show TX E K16 _
    exact tx_pick' [] (sub_cons rfl (sub_cons rfl (sub_cons rfl (sub_cons rfl (sub_cons rfl sub_nil))))) (by decide) pick_nil (hK16 true hp)
   refine sx_rd' (rd_move' rfl) rfl rfl (wt_is' (wt_guard' rfl rfl rfl) (beq_ff h6)) ?_
   obtain ⟨r19, hr19, hp⟩ := bind_some hp
   refine sx_ox' (ox_calln' (ent_fn' Tryz.func60 isn60 rfl rfl) (math_Abs_sim _ hr19 : Sx.Fn Tryz.prog 60 [(Vg r11)] [] (fun x : Unit => (Vg r19)) (fun x => [])) (Hn := fun x : Unit => []) (fun _ => rfl) rfl rfl) (wt_is' (wt_guard' rfl rfl rfl) (beq_ff h6)) fun ⟨⟩ => ?_
   refine sx_rd' (rd_move' rfl) rfl rfl (wt_is' (wt_guard' rfl rfl rfl) (beq_ff h6)) ?_
   refine sx_rd' (rd_bin' rfl rfl eg_flt ru_fgt) rfl rfl (wt_is' (wt_guard' rfl rfl rfl) (beq_ff h6)) ?_
   refine s0 (rd_pick_false' rfl h6 rfl) ?_
   refine sx_nil' ?_
   show TX E K16 _
   exact tx_pick' [] (sub_cons rfl (sub_cons rfl (sub_cons rfl (sub_cons rfl (sub_cons rfl sub_nil))))) (by decide) pick_nil (hK16 (fgt r19 a0) hp)
  replace hp := (br_f h5).symm.trans hp
  refine cx_exit' ?_
  replace hp := Option.some.inj hp
  subst hp
  show TX E (Zg E (Exit.exit 0) _ (Exit.exit 0)) _
  exact tx_zend' () rfl [] sub_nil (by decide) pick_nil
 rcases y1 with v4 | v5
 ·dsimp only at hp
  refine zg_out fun w4 => ?_
  replace hp := Option.some.inj hp
  subst hp
  refine tx_pick' (L' := [(4, (Vb false))]) (H' := []) [] (sub_cons rfl sub_nil) (by decide) pick_nil ?_
  exact tx_ret1' Tryz.results62 rfl () (rv_tmp' rfl) (List.Sublist.refl _)
 dsimp only at hp
 refine zg_out fun w5 => ?_
 show TX E K2 _
 refine tx_k' hK2 ?_
 refine cr fun K18 hK18 => ?_
 refine s0 (rd_assign' rfl) ?_
 refine nk hK18 ?_
 refine cx_retc' ?_
 replace hp := Option.some.inj hp
 subst hp
 refine tx_pick' (L' := [(4, (Vb true))]) (H' := []) [] (sub_cons rfl sub_nil) (by decide) pick_nil ?_
 exact tx_ret1' Tryz.results62 rfl () (rv_tmp' rfl) (List.Sublist.refl _)

def laws_planeTo_l1s (a1 : List (Nat × Nat)) (a0 : Nat) (k : Nat) (rec1 : Int → Option (Unit ⊕ Unit)) (x1 : Int) : Option (Unit ⊕ Unit) :=
 br (decide (x1 < (a1.length : Int)))
  ((idx a1 x1) >>= fun r11 =>
  (laws_wholeTo k a0 ([r11.1, r11.2])) >>= fun r19 =>
  br (!r19)
   (some (.inl ()))
   (rec1 (iadd .i64 x1 1)))
  (some (.inr ()))
def laws_planeTo_l1 (a1 : List (Nat × Nat)) (a0 : Nat) : Nat → Int → Option (Unit ⊕ Unit)
 | 0, _ => none
 | k + 1, v => laws_planeTo_l1s a1 a0 k (laws_planeTo_l1 a1 a0 k) v
def laws_planeTo (k : Nat) (a0 : Nat) (a1 : List (Nat × Nat)) : Option (Bool) :=
 (laws_planeTo_l1 a1 a0 k 0) >>= fun y1 => match y1 with
  | (.inl v2) =>
   (some false)
  | (.inr v3) =>
   (some true)

theorem laws_planeTo_sim {k : Nat}  (a0 : Nat) (a1 : List (Nat × Nat)) {out : Bool} (hp : laws_planeTo k a0 a1 = some out) : Sx.Fn Tryz.prog 25 [(Vg a0), (Sl KT72 a1)] [] (fun w : Unit => (Vb out)) (fun w => []) := by
 unfold laws_planeTo at hp
 refine fn_of Tryz.func25 rfl Tryz.ntmps25 rfl fun E hM => ?_
 refine cr fun K1 hK1 => ?_
 refine s0 (rd_assign' rfl) ?_
 refine nk hK1 ?_
 refine cx_seq' fun K2 hK2 => ?_
 refine cr fun K3 hK3 => ?_
 refine s0 (rd_move' rfl) ?_
 refine s0 (rd_len' rfl Tryz.underlying40) ?_
 refine s0 (rd_move' rfl) ?_
 refine nk hK3 ?_
 refine cx_block' ?_
 obtain ⟨y1, hy1, hp⟩ := bind_some hp
 refine cx_loopg' (F := laws_planeTo_l1 a1 a0) (G := fun k R v => laws_planeTo_l1s a1 a0 k R v) (x := 0) (gh := ()) (fun (v1 : Int) (w1 : Unit) => (⟨22, [], [(0, (Vg a0)), (7, (Sl KT72 a1)), (8, (Vi (a1.length : Int))), (9, (Vi v1))], []⟩ : St)) (fun (y : Unit ⊕ Unit) => match y with | (.inl v2) => Zg E Exit.ret (fun (w2 : Unit) => (⟨22, [], [(4, (Vb false))], []⟩ : St)) | (.inr v3) => Zg E (Exit.exit 0) (fun (w3 : Unit) => (⟨22, [], [], []⟩ : St))) (fun _ => rfl) (fun _ _ => rfl) ?_ hy1 (tx_to' rfl [] (sub_cons rfl (sub_cons rfl (sub_cons rfl (sub_cons rfl sub_nil)))) (by decide) pick_nil) ?_
 ·clear hp hy1
  clear y1
  intro k rec1 KY1 ih1
  rintro x1 ⟨⟩ y1 hp
  replace hp : laws_planeTo_l1s a1 a0 k rec1 x1 = some y1 := hp
  unfold laws_planeTo_l1s at hp
  refine cr fun K10 hK10 => ?_
  refine s0 (rd_bin' rfl rfl eg_int ru_lss) ?_
  refine nk hK10 ?_
  refine cx_seq' fun K11 hK11 => ?_
  refine cx_cond' rfl (fun h4 => ?_) (fun h4 => ?_)
  ·replace hp := (br_t h4).symm.trans hp
   refine cx_skip' ?_
   show TX E K11 _
   refine tx_k' hK11 ?_
   refine cx_seq' fun K12 hK12 => ?_
   refine cx_block' ?_
   refine cr fun K13 hK13 => ?_
   obtain ⟨r11, hr11, hp⟩ := bind_some hp
   refine s0 (rd_at' (K := KT72) rfl rfl hr11 Tryz.underlying40 info72) ?_
   refine s0 (rd_load_pt_agg' (nn := 2) rfl rfl agg72 (l' := [(Vg r11.1), (Vg r11.2)]) rfl) ?_
   refine sx_ox' (ox_alloc' info72 rfl rfl rfl rfl (l := [(Vg 0), (Vg 0)]) rfl) (wt_none' rfl) fun q6 => ?_
   refine sx_ox' (ox_store' (i := 0) (o := 0) rfl rfl (lv_ag _) ⟨rfl, rfl, rfl, rfl⟩ rfl info72 rfl (H' := [⟨.pointer (some q6), [(Vg r11.1), (Vg r11.2)], 72, none⟩]) rfl) (wt_none' rfl) fun _ => ?_
   refine nk hK13 ?_
   refine cr fun K14 hK14 => ?_
   refine s0 (rd_move' rfl) ?_
   refine s0 (rd_field0' rfl Tryz.underlying72 rfl info26 rfl) ?_
   refine s0 (rd_load' (i := 0) (o := 0) rfl ⟨rfl, rfl, rfl, rfl⟩ rfl flat26) ?_
   refine s0 (rd_field' (off := 1) rfl Tryz.underlying72 rfl info26 rfl) ?_
   refine s0 (rd_load' (i := 0) (o := 1) rfl ⟨rfl, rfl, rfl, rfl⟩ rfl flat26) ?_
   refine sx_ox' (ox_rowlit' (K := Kf) (xs := [r11.1, r11.2]) (qs := [(0, [(Vg r11.1)]), (1, [(Vg r11.2)])]) ⟨rfl, ⟨_, rfl, (lv_vl rfl rfl)⟩, ⟨rfl, ⟨_, rfl, (lv_vl rfl rfl)⟩, trivial⟩⟩ Tryz.underlying29 info26 rfl rfl rfl rfl rfl (by kernel_rfl) rfl rfl rfl) (wt_none' rfl) fun g18 => ?_
   obtain ⟨r19, hr19, hp⟩ := bind_some hp
   refine sx_ox' (ox_brw' (frz_row 0 [(18, (Vl (Vs g18)), (Sl Kf ([r11.1, r11.2])))] (K := Kf) (xs := [r11.1, r11.2]) (by decide) rfl ⟨⟨rfl, frz_it⟩, trivial⟩ (H' := [⟨.pointer (some q6), [(Vg r11.1), (Vg r11.2)], 72, none⟩]) frzH_refl) (ent_fn' Tryz.func62 isn62 rfl rfl) (laws_wholeTo_sim _ _ hr19 : Sx.Fn Tryz.prog 62 [(Vg a0), (Sl Kf ([r11.1, r11.2]))] [] (fun x : Unit => (Vb r19)) (fun x => [])) pu_vl rfl rfl) (wt_none' rfl) fun ⟨⟩ => ?_
   refine s0 (rd_un' rfl ru_not) ?_
   refine nk hK14 ?_
   refine cx_cond' rfl (fun h5 => ?_) (fun h5 => ?_)
   ·replace hp := (br_t h5).symm.trans hp
    refine cr fun K15 hK15 => ?_
    refine s0 (rd_assign' rfl) ?_
    refine nk hK15 ?_
    refine cx_retc' ?_
    replace hp := Option.some.inj hp
    subst hp
    show TX E (Zg E Exit.ret _ Exit.ret) _
    exact tx_zend' () rfl [] (sub_cons rfl sub_nil) (by decide) pick_nil
   replace hp := (br_f h5).symm.trans hp
   refine cx_skip' ?_
   show TX E K12 _
   refine tx_k' hK12 ?_
   refine cx_region' ?_
   refine s0 (rd_bin' rfl rfl eg_int ru_add) ?_
   refine s0 (rd_move' rfl) ?_
   refine sx_nil' ?_
   show TX E (KY1 _) _
   exact tx_pick' [] (sub_cons rfl (sub_cons rfl (sub_cons rfl (sub_cons rfl sub_nil)))) (by decide) pick_nil (ih1 (iadd .i64 x1 1) () _ hp)
  replace hp := (br_f h4).symm.trans hp
  refine cx_exit' ?_
  replace hp := Option.some.inj hp
  subst hp
  show TX E (Zg E (Exit.exit 0) _ (Exit.exit 0)) _
  exact tx_zend' () rfl [] sub_nil (by decide) pick_nil
 rcases y1 with v2 | v3
 ·dsimp only at hp
  refine zg_out fun w2 => ?_
  replace hp := Option.some.inj hp
  subst hp
  refine tx_pick' (L' := [(4, (Vb false))]) (H' := []) [] (sub_cons rfl sub_nil) (by decide) pick_nil ?_
  exact tx_ret1' Tryz.results25 rfl () (rv_tmp' rfl) (List.Sublist.refl _)
 dsimp only at hp
 refine zg_out fun w3 => ?_
 show TX E K2 _
 refine tx_k' hK2 ?_
 refine cr fun K16 hK16 => ?_
 refine s0 (rd_assign' rfl) ?_
 refine nk hK16 ?_
 refine cx_retc' ?_
 replace hp := Option.some.inj hp
 subst hp
 refine tx_pick' (L' := [(4, (Vb true))]) (H' := []) [] (sub_cons rfl sub_nil) (by decide) pick_nil ?_
 exact tx_ret1' Tryz.results25 rfl () (rv_tmp' rfl) (List.Sublist.refl _)

def laws_flatTo_l1s (a1 : List Nat) (r19 : Int) (k : Nat) (rec1 : ((List (Nat × Nat)) × Int) → Option ((List (Nat × Nat)))) (x3 : List (Nat × Nat)) (x4 : Int) : Option ((List (Nat × Nat))) :=
 br (decide (x4 < (a1.length : Int)))
  ((idx a1 x4) >>= fun r43 =>
  (idx a1 (iadd .i64 x4 1)) >>= fun r48 =>
  (apd 16 x3 ([(r43, r48)])) >>= fun r52 =>
  rec1 (r52, (iadd .i64 x4 r19)))
  (some x3)
def laws_flatTo_l1 (a1 : List Nat) (r19 : Int) : Nat → ((List (Nat × Nat)) × Int) → Option ((List (Nat × Nat)))
 | 0, _ => none
 | k + 1, v => laws_flatTo_l1s a1 r19 k (laws_flatTo_l1 a1 r19 k) v.1 v.2
def laws_flatTo_j2 (k : Nat) (a1 : List Nat) (r19 : Int) (a2 : Nat) (x2 : Bool) : Option ((List (Nat × Nat)) × Bool) :=
 br x2
  (some ([], false))
  ((laws_flatTo_l1 a1 r19 k ([], 0)) >>= fun v4 =>
  (laws_planeTo k a2 v4) >>= fun r56 =>
  some (v4, r56))
def laws_flatTo_j1 (k : Nat) (a0 : Int) (a1 : List Nat) (a2 : Nat) (a3 : Int) (x1 : Bool) : Option ((List (Nat × Nat)) × Bool) :=
 br x1
  (some ([], false))
  ((spec_Stride k a0) >>= fun r19 =>
  (irem (a1.length : Int) r19) >>= fun r23 =>
  br (!decide (r23 = 0))
   (laws_flatTo_j2 k a1 r19 a2 true)
   (laws_flatTo_j2 k a1 r19 a2 (decide ((imul .i64 r19 a3) < (a1.length : Int)))))
def laws_flatTo (k : Nat) (a0 : Int) (a1 : List Nat) (a2 : Nat) (a3 : Int) : Option ((List (Nat × Nat)) × Bool) :=
 br (decide (a0 < 1))
  (laws_flatTo_j1 k a0 a1 a2 a3 true)
  (laws_flatTo_j1 k a0 a1 a2 a3 (decide (8 < a0)))

theorem laws_flatTo_sim {k : Nat}  (a0 : Int) (a1 : List Nat) (a2 : Nat) (a3 : Int) {out : (List (Nat × Nat)) × Bool} (hp : laws_flatTo k a0 a1 a2 a3 = some out) : Sx.Fn Tryz.prog 10 [(Vi a0), (Sl Kf a1), (Vg a2), (Vi a3)] [] (fun w : Unit => (Tu [(Sl KT72 out.1), (Vb out.2)])) (fun w => []) := by
 unfold laws_flatTo at hp
 refine fn_of Tryz.func10 rfl Tryz.ntmps10 rfl fun E hM => ?_
 refine cr fun K1 hK1 => ?_
 refine s0 (rd_assign' rfl) ?_
 refine s0 (rd_assign' rfl) ?_
 refine nk hK1 ?_
 refine cx_seq' fun K2 hK2 => ?_
 refine cr fun K3 hK3 => ?_
 refine s0 (rd_move' rfl) ?_
 refine s0 (rd_bin' rfl rfl eg_int ru_lss) ?_
 refine s0 (rd_move' rfl) ?_
 refine sx_cutn' 3 (fun (v1 : Bool) => (⟨57, [], [(0, (Vi a0)), (1, (Sl Kf a1)), (2, (Vg a2)), (3, (Vi a3)), (8, Vn), (17, (Vb v1))], []⟩ : St)) (fun (v1 : Bool) => laws_flatTo_j1 k a0 a1 a2 a3 v1 = some out) ?_ ?_
 ·rintro x1 hp
  replace hp : laws_flatTo_j1 k a0 a1 a2 a3 x1 = some out := hp
  unfold laws_flatTo_j1 at hp
  refine nk hK3 ?_
  refine cx_cond' rfl (fun h2 => ?_) (fun h2 => ?_)
  ·replace hp := (br_t h2).symm.trans hp
   refine cr fun K5 hK5 => ?_
   refine s0 (rd_assign' rfl) ?_
   refine s0 (rd_assign' rfl) ?_
   refine nk hK5 ?_
   refine cx_retc' ?_
   replace hp := Option.some.inj hp
   subst hp
   refine tx_pick' (L' := [(8, Vn), (9, (Vb false))]) (H' := []) [] (sub_cons rfl (sub_cons rfl sub_nil)) (by decide) pick_nil ?_
   exact tx_ret2' Tryz.results10 rfl () (rv_imp' (x := Vn) (y := (Sl KT72 [])) (rv_tmp' rfl) imp_nil) (rv_tmp' rfl) rfl (List.Sublist.refl _)
  replace hp := (br_f h2).symm.trans hp
  refine cx_skip' ?_
  show TX E K2 _
  refine tx_k' hK2 ?_
  refine cr fun K6 hK6 => ?_
  refine s0 (rd_move' rfl) ?_
  obtain ⟨r19, hr19, hp⟩ := bind_some hp
  refine sx_ox' (ox_calln' (ent_fn' Tryz.func8 isn8 rfl rfl) (spec_Stride_sim _ hr19 : Sx.Fn Tryz.prog 8 [(Vi a0)] [] (fun x : Unit => (Vi r19)) (fun x => [])) (Hn := fun x : Unit => []) (fun _ => rfl) rfl rfl) (wt_none' rfl) fun ⟨⟩ => ?_
  refine s0 (rd_assign' rfl) ?_
  refine nk hK6 ?_
  refine cx_seq' fun K7 hK7 => ?_
  refine cr fun K8 hK8 => ?_
  refine s0 (rd_move' rfl) ?_
  refine s0 (rd_len' rfl Tryz.underlying29) ?_
  refine s0 (rd_move' rfl) ?_
  obtain ⟨r23, hr23, hp⟩ := bind_some hp
  refine s0 (rd_bin' rfl rfl eg_int (ru_rem hr23)) ?_
  refine s0 (rd_bin' rfl rfl eg_int ru_neq) ?_
  refine s0 (rd_move' rfl) ?_
  refine sx_cutn' 7 (fun (v2 : Bool) => (⟨57, [], [(1, (Sl Kf a1)), (2, (Vg a2)), (8, Vn), (10, (Vi r19)), (32, (Vb v2))], []⟩ : St)) (fun (v2 : Bool) => laws_flatTo_j2 k a1 r19 a2 v2 = some out) ?_ ?_
  ·rintro x2 hp
   replace hp : laws_flatTo_j2 k a1 r19 a2 x2 = some out := hp
   unfold laws_flatTo_j2 at hp
   refine nk hK8 ?_
   refine cx_cond' rfl (fun h4 => ?_) (fun h4 => ?_)
   ·replace hp := (br_t h4).symm.trans hp
    refine cr fun K10 hK10 => ?_
    refine s0 (rd_assign' rfl) ?_
    refine s0 (rd_assign' rfl) ?_
    refine nk hK10 ?_
    refine cx_retc' ?_
    replace hp := Option.some.inj hp
    subst hp
    refine tx_pick' (L' := [(8, Vn), (9, (Vb false))]) (H' := []) [] (sub_cons rfl (sub_cons rfl sub_nil)) (by decide) pick_nil ?_
    exact tx_ret2' Tryz.results10 rfl () (rv_imp' (x := Vn) (y := (Sl KT72 [])) (rv_tmp' rfl) imp_nil) (rv_tmp' rfl) rfl (List.Sublist.refl _)
   replace hp := (br_f h4).symm.trans hp
   refine cx_skip' ?_
   show TX E K7 _
   refine tx_k' hK7 ?_
   refine cx_seq' fun K11 hK11 => ?_
   refine cr fun K12 hK12 => ?_
   refine s0 (rd_assign' rfl) ?_
   refine nk hK12 ?_
   refine cx_block' ?_
   obtain ⟨v4, hy1, hp⟩ := bind_some hp
   refine tx_nilrow' KT72 72 ?_
   refine cx_loopg' (F := laws_flatTo_l1 a1 r19) (G := fun k R v => laws_flatTo_l1s a1 r19 k R v.1 v.2) (x := ([], 0)) (gh := (none, 0, 0)) (fun (v3 : (List (Nat × Nat)) × Int) (w3 : Gs) => (⟨57, [], [(1, (Sl Kf a1)), (2, (Vg a2)), (8, (Vl (Vs w3))), (10, (Vi r19)), (11, (Vi v3.2))], [(Rw KT72 72 (Vs w3) v3.1)]⟩ : St)) (fun (v4 : (List (Nat × Nat))) => Zg E (Exit.exit 0) (fun (w4 : Gs) => (⟨57, [], [(2, (Vg a2)), (8, (Vl (Vs w4)))], [(Rw KT72 72 (Vs w4) v4)]⟩ : St))) (fun _ => rfl) (fun _ _ => rfl) ?_ hy1 (tx_to' rfl [0] (sub_cons rfl (sub_cons rfl (sub_cons rfl (sub_cons rfl (sub_cons rfl sub_nil))))) (by decide) (pick_cons rfl pick_nil)) ?_
   ·clear hp hy1
    clear v4
    intro k rec1 KY1 ih1
    rintro ⟨x3, x4⟩ g901 y1 hp
    replace hp : laws_flatTo_l1s a1 r19 k rec1 x3 x4 = some y1 := hp
    unfold laws_flatTo_l1s at hp
    refine cx_seq' fun K16 hK16 => ?_
    refine cr fun K17 hK17 => ?_
    refine s0 (rd_move' rfl) ?_
    refine s0 (rd_move' rfl) ?_
    refine s0 (rd_len' rfl Tryz.underlying29) ?_
    refine s0 (rd_bin' rfl rfl eg_int ru_lss) ?_
    refine nk hK17 ?_
    refine cx_cond' rfl (fun h7 => ?_) (fun h7 => ?_)
    ·replace hp := (br_t h7).symm.trans hp
     refine cx_skip' ?_
     show TX E K16 _
     refine tx_k' hK16 ?_
     refine cx_seq' fun K18 hK18 => ?_
     refine cx_block' ?_
     refine cx_plan' [] [(12, 1)] [(0, 1), (1, 1), (2, 1), (3, 1), (4, 1), (5, 1), (6, 1), (7, 1), (8, 1), (9, 1), (10, 1), (11, 0), (12, 0), (13, 1)] mixed (by kernel_rfl) ?_
     refine px_rd' rfl (rd_move' rfl) rfl rfl (wt_none' rfl) ?_
     refine px_rd' rfl (rd_move' rfl) rfl rfl (wt_none' rfl) ?_
     refine px_rd' rfl (rd_move' rfl) rfl rfl (wt_none' rfl) ?_
     obtain ⟨r43, hr43, hp⟩ := bind_some hp
     refine px_rd' rfl (rd_at' (K := Kf) rfl rfl hr43 Tryz.underlying29 info26) rfl rfl (wt_none' rfl) ?_
     refine px_rd' rfl (rd_load_pt' rfl rfl flat26) rfl rfl (wt_none' rfl) ?_
     refine px_rd' rfl (rd_move' rfl) rfl rfl (wt_none' rfl) ?_
     refine px_rd' rfl (rd_move' rfl) rfl rfl (wt_none' rfl) ?_
     refine px_rd' rfl (rd_bin' rfl rfl eg_int ru_add) rfl rfl (wt_none' rfl) ?_
     obtain ⟨r48, hr48, hp⟩ := bind_some hp
     refine px_rd' rfl (rd_at' (K := Kf) rfl rfl hr48 Tryz.underlying29 info26) rfl rfl (wt_none' rfl) ?_
     refine px_rd' rfl (rd_load_pt' rfl rfl flat26) rfl rfl (wt_none' rfl) ?_
     refine px_rd' rfl (rd_build' (pls := [(0, 1), (1, 1)]) (qs := [(0, [(Vg r43)]), (1, [(Vg r48)])]) (r := [(Vg r43), (Vg r48)]) ⟨rfl, ⟨_, rfl, (lv_vl rfl rfl)⟩, ⟨rfl, ⟨_, rfl, (lv_vl rfl rfl)⟩, trivial⟩⟩ Tryz.underlying72 has72 places72 info72 rfl rfl rfl) rfl rfl (wt_none' rfl) ?_
     refine px_ox' rfl (ox_rowlit' (K := KT72) (xs := [(r43, r48)]) (qs := [(0, [(Vg r43), (Vg r48)])]) ⟨rfl, ⟨_, rfl, (lv_ag _)⟩, trivial⟩ Tryz.underlying40 info72 rfl rfl rfl rfl rfl (by kernel_rfl) rfl rfl rfl) rfl bs_nil (wt_none' rfl) fun g51 => ?_
     obtain ⟨r52, hr52, hp⟩ := bind_some hp
     refine px_ox' rfl (ox_append' (K := KT72) (i := 1) (xs := x3) (ys := ([(r43, r48)])) rfl rfl rfl (sr_row' (j := 0) rfl rfl rfl Tryz.underlying40) hr52 Tryz.underlying40 info72 rfl rfl rfl (H' := [(Rw KT72 72 (Vs g51) ([(r43, r48)]))]) rfl) rfl bs_nil (wt_none' rfl) fun g52 => ?_
     refine px_rd' rfl (rd_assign' rfl) rfl rfl (wt_none' rfl) ?_
     refine px_nil' ?_
     show TX E K18 _
     refine tx_k' hK18 ?_
     refine cx_region' ?_
     refine s0 (rd_move' rfl) ?_
     refine s0 (rd_move' rfl) ?_
     refine s0 (rd_bin' rfl rfl eg_int ru_add) ?_
     refine s0 (rd_assign' rfl) ?_
     refine sx_nil' ?_
     show TX E (KY1 _) _
     exact tx_pick' [0] (sub_cons rfl (sub_cons rfl (sub_cons rfl (sub_cons rfl (sub_cons rfl sub_nil))))) (by decide) (pick_cons rfl pick_nil) (ih1 (r52, (iadd .i64 x4 r19)) g52 _ hp)
    replace hp := (br_f h7).symm.trans hp
    refine cx_exit' ?_
    replace hp := Option.some.inj hp
    subst hp
    show TX E (Zg E (Exit.exit 0) _ (Exit.exit 0)) _
    exact tx_zend' g901 rfl [0] (sub_cons rfl (sub_cons rfl sub_nil)) (by decide) (pick_cons rfl pick_nil)
   refine zg_out fun w4 => ?_
   show TX E K11 _
   refine tx_k' hK11 ?_
   refine cr fun K19 hK19 => ?_
   refine s0 (rd_move' rfl) ?_
   refine s0 (rd_move' rfl) ?_
   refine s0 (rd_move' rfl) ?_
   obtain ⟨r56, hr56, hp⟩ := bind_some hp
   refine sx_ox' (ox_brw' (frz_row 0 [(8, (Vl (Vs w4)), (Sl KT72 v4)), (53, (Vl (Vs w4)), (Sl KT72 v4)), (55, (Vl (Vs w4)), (Sl KT72 v4))] (K := KT72) (xs := v4) (by decide) rfl ⟨⟨rfl, frz_it⟩, ⟨rfl, frz_it⟩, ⟨rfl, frz_it⟩, trivial⟩ (H' := []) frzH_refl) (ent_fn' Tryz.func25 isn25 rfl rfl) (laws_planeTo_sim _ _ hr56 : Sx.Fn Tryz.prog 25 [(Vg a2), (Sl KT72 v4)] [] (fun x : Unit => (Vb r56)) (fun x => [])) pu_vl rfl rfl) (wt_none' rfl) fun ⟨⟩ => ?_
   refine s0 (rd_assign' rfl) ?_
   refine s0 (rd_assign' rfl) ?_
   refine nk hK19 ?_
   refine cx_retc' ?_
   replace hp := Option.some.inj hp
   subst hp
   refine tx_fz' (frz_row 0 [(8, (Vl (Vs w4)), (Sl KT72 v4)), (53, (Vl (Vs w4)), (Sl KT72 v4)), (55, (Vl (Vs w4)), (Sl KT72 v4))] (K := KT72) (xs := v4) (by decide) rfl ⟨⟨rfl, frz_it⟩, ⟨rfl, frz_it⟩, ⟨rfl, frz_it⟩, trivial⟩ (H' := []) frzH_refl) ?_
   refine tx_pick' (L' := [(8, (Sl KT72 v4)), (9, (Vb r56))]) (H' := []) [] (sub_cons rfl (sub_cons rfl sub_nil)) (by decide) pick_nil ?_
   exact tx_ret2' Tryz.results10 rfl () (rv_tmp' rfl) (rv_tmp' rfl) rfl (List.Sublist.refl _)
  intro K9 hK9
  rcases br_cases hp with ⟨h3, hp⟩ | ⟨h3, hp⟩
  ·refine sx_skip' rfl rfl (wt_is' (wt_guard' rfl rfl rfl) (beq_tf h3)) ?_
   refine sx_skip' rfl rfl (wt_is' (wt_guard' rfl rfl rfl) (beq_tf h3)) ?_
   refine sx_skip' rfl rfl (wt_is' (wt_guard' rfl rfl rfl) (beq_tf h3)) ?_
   refine sx_skip' rfl rfl (wt_is' (wt_guard' rfl rfl rfl) (beq_tf h3)) ?_
   refine sx_skip' rfl rfl (wt_is' (wt_guard' rfl rfl rfl) (beq_tf h3)) ?_
   refine sx_skip' rfl rfl (wt_is' (wt_guard' rfl rfl rfl) (beq_tf h3)) ?_
   refine s0 (rd_pick_true' rfl h3 rfl) ?_
   refine sx_nil' ?_
   show TX E K9 _
   exact tx_pick' [] (sub_cons rfl (sub_cons rfl (sub_cons rfl (sub_cons rfl (sub_cons rfl sub_nil))))) (by decide) pick_nil (hK9 true hp)
  refine sx_rd' (rd_move' rfl) rfl rfl (wt_is' (wt_guard' rfl rfl rfl) (beq_ff h3)) ?_
  refine sx_rd' (rd_len' rfl Tryz.underlying29) rfl rfl (wt_is' (wt_guard' rfl rfl rfl) (beq_ff h3)) ?_
  refine sx_rd' (rd_move' rfl) rfl rfl (wt_is' (wt_guard' rfl rfl rfl) (beq_ff h3)) ?_
  refine sx_rd' (rd_move' rfl) rfl rfl (wt_is' (wt_guard' rfl rfl rfl) (beq_ff h3)) ?_
  refine sx_rd' (rd_bin' rfl rfl eg_int ru_mul) rfl rfl (wt_is' (wt_guard' rfl rfl rfl) (beq_ff h3)) ?_
  refine sx_rd' (rd_bin' rfl rfl eg_int ru_gtr) rfl rfl (wt_is' (wt_guard' rfl rfl rfl) (beq_ff h3)) ?_
  refine s0 (rd_pick_false' rfl h3 rfl) ?_
  refine sx_nil' ?_
  show TX E K9 _
  exact tx_pick' [] (sub_cons rfl (sub_cons rfl (sub_cons rfl (sub_cons rfl (sub_cons rfl sub_nil))))) (by decide) pick_nil (hK9 (decide ((imul .i64 r19 a3) < (a1.length : Int))) hp)
 intro K4 hK4
 rcases br_cases hp with ⟨h1, hp⟩ | ⟨h1, hp⟩
 ·refine sx_skip' rfl rfl (wt_is' (wt_guard' rfl rfl rfl) (beq_tf h1)) ?_
  refine sx_skip' rfl rfl (wt_is' (wt_guard' rfl rfl rfl) (beq_tf h1)) ?_
  refine s0 (rd_pick_true' rfl h1 rfl) ?_
  refine sx_nil' ?_
  show TX E K4 _
  exact tx_pick' [] (sub_cons rfl (sub_cons rfl (sub_cons rfl (sub_cons rfl (sub_cons rfl (sub_cons rfl sub_nil)))))) (by decide) pick_nil (hK4 true hp)
 refine sx_rd' (rd_move' rfl) rfl rfl (wt_is' (wt_guard' rfl rfl rfl) (beq_ff h1)) ?_
 refine sx_rd' (rd_bin' rfl rfl eg_int ru_gtr) rfl rfl (wt_is' (wt_guard' rfl rfl rfl) (beq_ff h1)) ?_
 refine s0 (rd_pick_false' rfl h1 rfl) ?_
 refine sx_nil' ?_
 show TX E K4 _
 exact tx_pick' [] (sub_cons rfl (sub_cons rfl (sub_cons rfl (sub_cons rfl (sub_cons rfl (sub_cons rfl sub_nil)))))) (by decide) pick_nil (hK4 (decide (8 < a0)) hp)

def spec_trim_j2 (k : Nat) (x3 : List Int) (rec1 : (List Int) → Option ((List Int))) (x2 : Bool) : Option ((List Int)) :=
 br x2
  ((cut x3 0 (isub .i64 (x3.length : Int) 1)) >>= fun r19 =>
  rec1 r19)
  (some x3)
def spec_trim_l1s  (k : Nat) (rec1 : (List Int) → Option ((List Int))) (x3 : List Int) : Option ((List Int)) :=
 br (decide (0 < (x3.length : Int)))
  ((idx x3 (isub .i64 (x3.length : Int) 1)) >>= fun r11 =>
  spec_trim_j2 k x3 rec1 (decide (r11 = 0)))
  (spec_trim_j2 k x3 rec1 false)
def spec_trim_l1  : Nat → (List Int) → Option ((List Int))
 | 0, _ => none
 | k + 1, v => spec_trim_l1s k (spec_trim_l1 k) v
def spec_trim (k : Nat) (a0 : List Int) : Option ((List Int)) :=
 (spec_trim_l1 k a0) >>= fun v4 =>
 some v4

theorem spec_trim_sim {k : Nat}  (a0 : List Int) {out : (List Int)} (hp : spec_trim k a0 = some out) : Sx.Fn Tryz.prog 69 [(Sl (Ki .u32) a0)] [] (fun w : Unit => (Sl (Ki .u32) out)) (fun w => []) := by
 unfold spec_trim at hp
 refine fn_of Tryz.func69 rfl Tryz.ntmps69 rfl fun E hM => ?_
 refine cr fun K1 hK1 => ?_
 refine s0 (rd_assign' rfl) ?_
 refine nk hK1 ?_
 refine cx_seq' fun K2 hK2 => ?_
 refine cx_block' ?_
 obtain ⟨v4, hy1, hp⟩ := bind_some hp
 refine cx_loopg' (F := spec_trim_l1) (G := fun k R v => spec_trim_l1s k R v) (x := a0) (gh := ()) (fun (v2 : (List Int)) (w2 : Unit) => (⟨21, [], [(0, (Sl (Ki .u32) v2))], []⟩ : St)) (fun (v4 : (List Int)) => Zg E (Exit.exit 0) (fun (w4 : Unit) => (⟨21, [], [(0, (Sl (Ki .u32) v4))], []⟩ : St))) (fun _ => rfl) (fun _ _ => rfl) ?_ hy1 (tx_to' rfl [] (sub_cons rfl sub_nil) (by decide) pick_nil) ?_
 ·clear hp hy1
  clear v4
  intro k rec1 KY1 ih1
  rintro x3 ⟨⟩ y1 hp
  replace hp : spec_trim_l1s k rec1 x3 = some y1 := hp
  unfold spec_trim_l1s at hp
  refine cx_seq' fun K6 hK6 => ?_
  refine cr fun K7 hK7 => ?_
  refine s0 (rd_move' rfl) ?_
  refine s0 (rd_len' rfl Tryz.underlying46) ?_
  refine s0 (rd_bin' rfl rfl eg_int ru_gtr) ?_
  refine s0 (rd_move' rfl) ?_
  refine sx_cutn' 8 (fun (v3 : Bool) => (⟨21, [], [(0, (Sl (Ki .u32) x3)), (14, (Vb v3))], []⟩ : St)) (fun (v3 : Bool) => spec_trim_j2 k x3 rec1 v3 = some y1) ?_ ?_
  ·rintro x2 hp
   replace hp : spec_trim_j2 k x3 rec1 x2 = some y1 := hp
   unfold spec_trim_j2 at hp
   refine nk hK7 ?_
   refine cx_cond' rfl (fun h5 => ?_) (fun h5 => ?_)
   ·replace hp := (br_t h5).symm.trans hp
    refine cx_skip' ?_
    show TX E K6 _
    refine tx_k' hK6 ?_
    refine cx_block' ?_
    refine cx_region' ?_
    refine s0 (rd_move' rfl) ?_
    refine s0 (rd_move' rfl) ?_
    refine s0 (rd_len' rfl Tryz.underlying46) ?_
    refine s0 (rd_bin' rfl rfl eg_int ru_sub) ?_
    obtain ⟨r19, hr19, hp⟩ := bind_some hp
    refine s0 (rd_cut_h' rfl rfl hr19 Tryz.underlying46 info126) ?_
    refine s0 (rd_assign' rfl) ?_
    refine sx_nil' ?_
    show TX E (KY1 _) _
    exact tx_pick' [] (sub_cons rfl sub_nil) (by decide) pick_nil (ih1 r19 () _ hp)
   replace hp := (br_f h5).symm.trans hp
   refine cx_exit' ?_
   replace hp := Option.some.inj hp
   subst hp
   show TX E (Zg E (Exit.exit 0) _ (Exit.exit 0)) _
   exact tx_zend' () rfl [] (sub_cons rfl sub_nil) (by decide) pick_nil
  intro K8 hK8
  rcases br_cases hp with ⟨h4, hp⟩ | ⟨h4, hp⟩
  ·refine sx_rd' (rd_move' rfl) rfl rfl (wt_is' (wt_guard' rfl rfl rfl) (beq_tt h4)) ?_
   refine sx_rd' (rd_move' rfl) rfl rfl (wt_is' (wt_guard' rfl rfl rfl) (beq_tt h4)) ?_
   refine sx_rd' (rd_len' rfl Tryz.underlying46) rfl rfl (wt_is' (wt_guard' rfl rfl rfl) (beq_tt h4)) ?_
   refine sx_rd' (rd_bin' rfl rfl eg_int ru_sub) rfl rfl (wt_is' (wt_guard' rfl rfl rfl) (beq_tt h4)) ?_
   obtain ⟨r11, hr11, hp⟩ := bind_some hp
   refine sx_rd' (rd_at' (K := (Ki .u32)) rfl rfl hr11 Tryz.underlying46 info126) rfl rfl (wt_is' (wt_guard' rfl rfl rfl) (beq_tt h4)) ?_
   refine sx_rd' (rd_load_pt' rfl rfl flat126) rfl rfl (wt_is' (wt_guard' rfl rfl rfl) (beq_tt h4)) ?_
   refine sx_rd' (rd_bin' rfl rfl eg_int ru_eql) rfl rfl (wt_is' (wt_guard' rfl rfl rfl) (beq_tt h4)) ?_
   refine s0 (rd_pick_true' rfl h4 rfl) ?_
   refine sx_nil' ?_
   show TX E K8 _
   exact tx_pick' [] (sub_cons rfl (sub_cons rfl sub_nil)) (by decide) pick_nil (hK8 (decide (r11 = 0)) hp)
  refine sx_skip' rfl rfl (wt_is' (wt_guard' rfl rfl rfl) (beq_ft h4)) ?_
  refine sx_skip' rfl rfl (wt_is' (wt_guard' rfl rfl rfl) (beq_ft h4)) ?_
  refine sx_skip' rfl rfl (wt_is' (wt_guard' rfl rfl rfl) (beq_ft h4)) ?_
  refine sx_skip' rfl rfl (wt_is' (wt_guard' rfl rfl rfl) (beq_ft h4)) ?_
  refine sx_skip' rfl rfl (wt_is' (wt_guard' rfl rfl rfl) (beq_ft h4)) ?_
  refine sx_skip' rfl rfl (wt_is' (wt_guard' rfl rfl rfl) (beq_ft h4)) ?_
  refine sx_skip' rfl rfl (wt_is' (wt_guard' rfl rfl rfl) (beq_ft h4)) ?_
  refine s0 (rd_pick_false' rfl h4 rfl) ?_
  refine sx_nil' ?_
  show TX E K8 _
  exact tx_pick' [] (sub_cons rfl (sub_cons rfl sub_nil)) (by decide) pick_nil (hK8 false hp)
 refine zg_out fun w4 => ?_
 show TX E K2 _
 refine tx_k' hK2 ?_
 refine cr fun K9 hK9 => ?_
 refine s0 (rd_move' rfl) ?_
 refine s0 (rd_assign' rfl) ?_
 refine nk hK9 ?_
 refine cx_retc' ?_
 replace hp := Option.some.inj hp
 subst hp
 refine tx_pick' (L' := [(2, (Sl (Ki .u32) v4))]) (H' := []) [] (sub_cons rfl sub_nil) (by decide) pick_nil ?_
 exact tx_ret1' Tryz.results69 rfl () (rv_tmp' rfl) (List.Sublist.refl _)

def spec_WholeOf_j1 (k : Nat) (a0 : Int) (x1 : Int) : Option (Bool × (List Int)) :=
 (ishr .u64 x1 32) >>= fun r15 =>
 (spec_trim k ([icv .u32 x1, icv .u32 r15])) >>= fun r18 =>
 some (decide (a0 < 0), r18)
def spec_WholeOf (k : Nat) (a0 : Int) : Option (Bool × (List Int)) :=
 br (decide (a0 < 0))
  (spec_WholeOf_j1 k a0 (isub .u64 0 (icv .u64 a0)))
  (spec_WholeOf_j1 k a0 (icv .u64 a0))

theorem spec_WholeOf_sim {k : Nat}  (a0 : Int) {out : Bool × (List Int)} (hp : spec_WholeOf k a0 = some out) : Sx.Fn Tryz.prog 91 [(Vi a0)] [] (fun w : Unit => (Ag [(Vb out.1), (Sl (Ki .u32) out.2)])) (fun w => []) := by
 unfold spec_WholeOf at hp
 refine fn_of Tryz.func91 rfl Tryz.ntmps91 rfl fun E hM => ?_
 refine cr fun K1 hK1 => ?_
 refine sx_ox' (ox_alloc' info48 rfl rfl rfl rfl (l := [(Vb false), Vn]) rfl) (wt_none' rfl) fun q2 => ?_
 refine nk hK1 ?_
 refine cr fun K2 hK2 => ?_
 refine s0 (rd_move' rfl) ?_
 refine s0 (rd_conv' rfl (ru_i2i (by rw [Tryz.underlying2]; rfl) Tryz.underlying77)) ?_
 refine s0 (rd_assign' rfl) ?_
 refine nk hK2 ?_
 refine cx_join' (fun (v1 : Int) => (⟨20, [], [(0, (Vi a0)), (2, (Vp q2)), (3, (Vl (.int .u64 v1)))], [⟨.pointer (some q2), [(Vb false), Vn], 48, none⟩]⟩ : St)) (fun (v1 : Int) => spec_WholeOf_j1 k a0 v1 = some out) ?_ ?_
 ·rintro x1 hp
  replace hp : spec_WholeOf_j1 k a0 x1 = some out := hp
  unfold spec_WholeOf_j1 at hp
  refine cr fun K5 hK5 => ?_
  refine s0 (rd_move' rfl) ?_
  refine s0 (rd_bin' rfl rfl eg_int ru_lss) ?_
  refine s0 (rd_move' rfl) ?_
  refine s0 (rd_conv' rfl (ru_i2i (by rw [Tryz.underlying77]; rfl) Tryz.underlying126)) ?_
  refine s0 (rd_move' rfl) ?_
  obtain ⟨r15, hr15, hp⟩ := bind_some hp
  refine s0 (rd_bin' rfl rfl eg_int (ru_shr hr15)) ?_
  refine s0 (rd_conv' rfl (ru_i2i (by rw [Tryz.underlying77]; rfl) Tryz.underlying126)) ?_
  refine sx_ox' (ox_rowlit' (K := (Ki .u32)) (xs := [icv .u32 x1, icv .u32 r15]) (qs := [(0, [(Vl (.int .u32 (icv .u32 x1)))]), (1, [(Vl (.int .u32 (icv .u32 r15)))])]) ⟨rfl, ⟨_, rfl, (lv_vl rfl rfl)⟩, ⟨rfl, ⟨_, rfl, (lv_vl rfl rfl)⟩, trivial⟩⟩ Tryz.underlying46 info126 rfl rfl rfl rfl rfl (by kernel_rfl) rfl rfl rfl) (wt_none' rfl) fun g17 => ?_
  refine tx_fz' (frz_row 0 [(17, (Vl (Vs g17)), (Sl (Ki .u32) ([icv .u32 x1, icv .u32 r15])))] (K := (Ki .u32)) (xs := [icv .u32 x1, icv .u32 r15]) (by decide) rfl ⟨⟨rfl, frz_it⟩, trivial⟩ (H' := [⟨.pointer (some q2), [(Vb false), Vn], 48, none⟩]) frzH_refl) ?_
  obtain ⟨r18, hr18, hp⟩ := bind_some hp
  refine sx_ox' (ox_calln' (ent_fn' Tryz.func69 isn69 rfl rfl) (spec_trim_sim _ hr18 : Sx.Fn Tryz.prog 69 [(Sl (Ki .u32) ([icv .u32 x1, icv .u32 r15]))] [] (fun x : Unit => (Sl (Ki .u32) r18)) (fun x => [])) (Hn := fun x : Unit => [⟨.pointer (some q2), [(Vb false), Vn], 48, none⟩]) (fun _ => rfl) rfl rfl) (wt_none' rfl) fun ⟨⟩ => ?_
  refine s0 (rd_build' (pls := [(0, 1), (1, 1)]) (qs := [(0, [(Vb (decide (a0 < 0)))]), (1, [(Sl (Ki .u32) r18)])]) (r := [(Vb (decide (a0 < 0))), (Sl (Ki .u32) r18)]) ⟨rfl, ⟨_, rfl, (lv_vl rfl rfl)⟩, ⟨rfl, ⟨_, rfl, (lv_sl _ _)⟩, trivial⟩⟩ Tryz.underlying48 has48 places48 info48 rfl rfl rfl) ?_
  refine sx_ox' (ox_store' (i := 0) (o := 0) rfl rfl (lv_ag _) ⟨rfl, rfl, rfl, rfl⟩ rfl info48 rfl (H' := [⟨.pointer (some q2), [(Vb (decide (a0 < 0))), (Sl (Ki .u32) r18)], 48, none⟩]) rfl) (wt_none' rfl) fun _ => ?_
  refine nk hK5 ?_
  refine cx_retc' ?_
  replace hp := Option.some.inj hp
  subst hp
  refine tx_pick' (L' := [(2, (Vp q2))]) (H' := [⟨.pointer (some q2), [(Vb (decide (a0 < 0))), (Sl (Ki .u32) r18)], 48, none⟩]) [0] (sub_cons rfl sub_nil) (by decide) (pick_cons rfl pick_nil) ?_
  exact tx_ret1' Tryz.results91 rfl () (rv_cell_agg' (i := 0) (o := 0) (nn := 2) rfl ⟨rfl, rfl, rfl, rfl⟩ rfl agg48 rfl) (List.nil_sublist _)
 intro K3 hK3
 refine cr fun K4 hK4 => ?_
 refine s0 (rd_move' rfl) ?_
 refine s0 (rd_bin' rfl rfl eg_int ru_lss) ?_
 refine nk hK4 ?_
 refine cx_cond' rfl (fun h1 => ?_) (fun h1 => ?_)
 ·replace hp := (br_t h1).symm.trans hp
  refine cx_region' ?_
  refine s0 (rd_move' rfl) ?_
  refine s0 (rd_un' rfl ru_ineg) ?_
  refine s0 (rd_assign' rfl) ?_
  refine sx_nil' ?_
  show TX E K3 _
  exact tx_pick' [0] (sub_cons rfl (sub_cons rfl (sub_cons rfl sub_nil))) (by decide) (pick_cons rfl pick_nil) (hK3 (isub .u64 0 (icv .u64 a0)) hp)
 replace hp := (br_f h1).symm.trans hp
 refine cx_skip' ?_
 show TX E K3 _
 exact tx_pick' [0] (sub_cons rfl (sub_cons rfl (sub_cons rfl sub_nil))) (by decide) (pick_cons rfl pick_nil) (hK3 (icv .u64 a0) hp)

def spec_DyadicOf_j2 (k : Nat) (x2 : Int) (x3 : Int) : Option (Bool × (List Int) × Int) :=
 (spec_WholeOf k x3) >>= fun r29 =>
 some (r29.1, r29.2, isub .i64 x2 1075)
def spec_DyadicOf_j1 (k : Nat) (a0 : Nat) (x1 : Int) (x2 : Int) : Option (Bool × (List Int) × Int) :=
 (ishr .u64 (fbits a0) 63) >>= fun r24 =>
 br (decide (r24 = 1))
  (spec_DyadicOf_j2 k x2 (isub .i64 0 x1))
  (spec_DyadicOf_j2 k x2 x1)
def spec_DyadicOf (k : Nat) (a0 : Nat) : Option (Bool × (List Int) × Int) :=
 (ishr .u64 (fbits a0) 52) >>= fun r12 =>
 br (decide ((icv .i64 (iand .u64 r12 2047)) = 2047))
  (some (false, [], 0))
  (br (decide ((icv .i64 (iand .u64 r12 2047)) = 0))
   (spec_DyadicOf_j1 k a0 (icv .i64 (iand .u64 (fbits a0) 4503599627370495)) 1)
   (spec_DyadicOf_j1 k a0 (iadd .i64 (icv .i64 (iand .u64 (fbits a0) 4503599627370495)) 4503599627370496) (icv .i64 (iand .u64 r12 2047))))

theorem spec_DyadicOf_sim {k : Nat}  (a0 : Nat) {out : Bool × (List Int) × Int} (hp : spec_DyadicOf k a0 = some out) : Sx.Fn Tryz.prog 80 [(Vg a0)] [] (fun w : Unit => (Ag [(Vb out.1), (Sl (Ki .u32) out.2.1), (Vi out.2.2)])) (fun w => []) := by
 unfold spec_DyadicOf at hp
 refine fn_of Tryz.func80 rfl Tryz.ntmps80 rfl fun E hM => ?_
 refine cr fun K1 hK1 => ?_
 refine sx_ox' (ox_alloc' info50 rfl rfl rfl rfl (l := [(Vb false), Vn, (Vi 0)]) rfl) (wt_none' rfl) fun q2 => ?_
 refine nk hK1 ?_
 refine cr fun K2 hK2 => ?_
 refine s0 (rd_move' rfl) ?_
 refine s0 (rd_ext' (us := [.float .f64 a0]) rfl (ext78 ex_bits)) ?_
 refine s0 (rd_assign' rfl) ?_
 refine nk hK2 ?_
 refine cr fun K3 hK3 => ?_
 refine s0 (rd_move' rfl) ?_
 refine s0 (rd_bin' rfl rfl eg_int ru_and) ?_
 refine s0 (rd_conv' rfl (ru_i2i (by rw [Tryz.underlying77]; rfl) Tryz.underlying2)) ?_
 refine s0 (rd_move' rfl) ?_
 obtain ⟨r12, hr12, hp⟩ := bind_some hp
 refine s0 (rd_bin' rfl rfl eg_int (ru_shr hr12)) ?_
 refine s0 (rd_bin' rfl rfl eg_int ru_and) ?_
 refine s0 (rd_conv' rfl (ru_i2i (by rw [Tryz.underlying77]; rfl) Tryz.underlying3)) ?_
 refine s0 (rd_assign' rfl) ?_
 refine s0 (rd_assign' rfl) ?_
 refine nk hK3 ?_
 refine cx_join' (fun (v1 : Int × Int) => (⟨33, [], [(2, (Vp q2)), (3, (Vl (.int .u64 (fbits a0)))), (4, (Vi v1.1)), (5, (Vi v1.2))], [⟨.pointer (some q2), [(Vb false), Vn, (Vi 0)], 50, none⟩]⟩ : St)) (fun (v1 : Int × Int) => spec_DyadicOf_j1 k a0 v1.1 v1.2 = some out) ?_ ?_
 ·rintro ⟨x1, x2⟩ hp
  replace hp : spec_DyadicOf_j1 k a0 x1 x2 = some out := hp
  unfold spec_DyadicOf_j1 at hp
  refine cx_join' (fun (v2 : Int) => (⟨33, [], [(2, (Vp q2)), (4, (Vi v2)), (5, (Vi x2))], [⟨.pointer (some q2), [(Vb false), Vn, (Vi 0)], 50, none⟩]⟩ : St)) (fun (v2 : Int) => spec_DyadicOf_j2 k x2 v2 = some out) ?_ ?_
  ·rintro x3 hp
   replace hp : spec_DyadicOf_j2 k x2 x3 = some out := hp
   unfold spec_DyadicOf_j2 at hp
   refine cr fun K11 hK11 => ?_
   refine s0 (rd_move' rfl) ?_
   obtain ⟨r29, hr29, hp⟩ := bind_some hp
   refine sx_ox' (ox_calln' (ent_fn' Tryz.func91 isn91 rfl rfl) (spec_WholeOf_sim _ hr29 : Sx.Fn Tryz.prog 91 [(Vi x3)] [] (fun x : Unit => (Ag [(Vb r29.1), (Sl (Ki .u32) r29.2)])) (fun x => [])) (Hn := fun x : Unit => [⟨.pointer (some q2), [(Vb false), Vn, (Vi 0)], 50, none⟩]) (fun _ => rfl) rfl rfl) (wt_none' rfl) fun ⟨⟩ => ?_
   refine s0 (rd_move' rfl) ?_
   refine s0 (rd_bin' rfl rfl eg_int ru_sub) ?_
   refine s0 (rd_build' (pls := [(0, 2), (2, 1)]) (qs := [(0, [(Vb r29.1), (Sl (Ki .u32) r29.2)]), (1, [(Vi (isub .i64 x2 1075))])]) (r := [(Vb r29.1), (Sl (Ki .u32) r29.2), (Vi (isub .i64 x2 1075))]) ⟨rfl, ⟨_, rfl, (lv_ag _)⟩, ⟨rfl, ⟨_, rfl, (lv_vl rfl rfl)⟩, trivial⟩⟩ Tryz.underlying50 has50 places50 info50 rfl rfl rfl) ?_
   refine sx_ox' (ox_store' (i := 0) (o := 0) rfl rfl (lv_ag _) ⟨rfl, rfl, rfl, rfl⟩ rfl info50 rfl (H' := [⟨.pointer (some q2), [(Vb r29.1), (Sl (Ki .u32) r29.2), (Vi (isub .i64 x2 1075))], 50, none⟩]) rfl) (wt_none' rfl) fun _ => ?_
   refine nk hK11 ?_
   refine cx_retc' ?_
   replace hp := Option.some.inj hp
   subst hp
   refine tx_pick' (L' := [(2, (Vp q2))]) (H' := [⟨.pointer (some q2), [(Vb r29.1), (Sl (Ki .u32) r29.2), (Vi (isub .i64 x2 1075))], 50, none⟩]) [0] (sub_cons rfl sub_nil) (by decide) (pick_cons rfl pick_nil) ?_
   exact tx_ret1' Tryz.results80 rfl () (rv_cell_agg' (i := 0) (o := 0) (nn := 3) rfl ⟨rfl, rfl, rfl, rfl⟩ rfl agg50 rfl) (List.nil_sublist _)
  intro K9 hK9
  refine cr fun K10 hK10 => ?_
  refine s0 (rd_move' rfl) ?_
  obtain ⟨r24, hr24, hp⟩ := bind_some hp
  refine s0 (rd_bin' rfl rfl eg_int (ru_shr hr24)) ?_
  refine s0 (rd_bin' rfl rfl eg_int ru_eql) ?_
  refine nk hK10 ?_
  refine cx_cond' rfl (fun h3 => ?_) (fun h3 => ?_)
  ·replace hp := (br_t h3).symm.trans hp
   refine cx_region' ?_
   refine s0 (rd_move' rfl) ?_
   refine s0 (rd_un' rfl ru_ineg) ?_
   refine s0 (rd_assign' rfl) ?_
   refine sx_nil' ?_
   show TX E K9 _
   exact tx_pick' [0] (sub_cons rfl (sub_cons rfl (sub_cons rfl sub_nil))) (by decide) (pick_cons rfl pick_nil) (hK9 (isub .i64 0 x1) hp)
  replace hp := (br_f h3).symm.trans hp
  refine cx_skip' ?_
  show TX E K9 _
  exact tx_pick' [0] (sub_cons rfl (sub_cons rfl (sub_cons rfl sub_nil))) (by decide) (pick_cons rfl pick_nil) (hK9 x1 hp)
 intro K4 hK4
 refine cr fun K5 hK5 => ?_
 refine s0 (rd_move' rfl) ?_
 refine nk hK5 ?_
 refine cx_block' ?_
 refine cr fun K6 hK6 => ?_
 refine s0 (rd_bin' rfl rfl eg_int ru_eql) ?_
 refine s0 (rd_assign' rfl) ?_
 refine nk hK6 ?_
 refine cx_cond' rfl (fun h1 => ?_) (fun h1 => ?_)
 ·replace hp := (br_t h1).symm.trans hp
  refine cr fun K7 hK7 => ?_
  refine s0 (rd_build' (pls := [(0, 2), (2, 1)]) (qs := []) (r := [(Vb false), Vn, (Vi 0)]) trivial Tryz.underlying50 has50 places50 info50 rfl rfl rfl) ?_
  refine sx_ox' (ox_store' (i := 0) (o := 0) rfl rfl (lv_ag _) ⟨rfl, rfl, rfl, rfl⟩ rfl info50 rfl (H' := [⟨.pointer (some q2), [(Vb false), Vn, (Vi 0)], 50, none⟩]) rfl) (wt_none' rfl) fun _ => ?_
  refine nk hK7 ?_
  refine cx_retc' ?_
  replace hp := Option.some.inj hp
  subst hp
  refine tx_pick' (L' := [(2, (Vp q2))]) (H' := [⟨.pointer (some q2), [(Vb false), Vn, (Vi 0)], 50, none⟩]) [0] (sub_cons rfl sub_nil) (by decide) (pick_cons rfl pick_nil) ?_
  exact tx_ret1' Tryz.results80 rfl () (rv_imp' (x := (Ag [(Vb false), Vn, (Vi 0)])) (y := (Ag [(Vb false), (Sl (Ki .u32) []), (Vi 0)])) (rv_cell_agg' (i := 0) (o := 0) (nn := 3) rfl ⟨rfl, rfl, rfl, rfl⟩ rfl agg50 rfl) (imp_ag ⟨imp_refl, imp_nil, imp_refl, trivial⟩)) (List.nil_sublist _)
 replace hp := (br_f h1).symm.trans hp
 refine cr fun K8 hK8 => ?_
 refine s0 (rd_bin' rfl rfl eg_int ru_eql) ?_
 refine s0 (rd_assign' rfl) ?_
 refine nk hK8 ?_
 refine cx_cond' rfl (fun h2 => ?_) (fun h2 => ?_)
 ·replace hp := (br_t h2).symm.trans hp
  refine cx_region' ?_
  refine s0 (rd_assign' rfl) ?_
  refine sx_nil' ?_
  show TX E K4 _
  exact tx_pick' [0] (sub_cons rfl (sub_cons rfl (sub_cons rfl (sub_cons rfl sub_nil)))) (by decide) (pick_cons rfl pick_nil) (hK4 ((icv .i64 (iand .u64 (fbits a0) 4503599627370495)), 1) hp)
 replace hp := (br_f h2).symm.trans hp
 refine cx_region' ?_
 refine s0 (rd_move' rfl) ?_
 refine s0 (rd_bin' rfl rfl eg_int ru_add) ?_
 refine s0 (rd_assign' rfl) ?_
 refine sx_nil' ?_
 show TX E K4 _
 exact tx_pick' [0] (sub_cons rfl (sub_cons rfl (sub_cons rfl (sub_cons rfl sub_nil)))) (by decide) (pick_cons rfl pick_nil) (hK4 ((iadd .i64 (icv .i64 (iand .u64 (fbits a0) 4503599627370495)) 4503599627370496), (icv .i64 (iand .u64 r12 2047))) hp)

def spec_PointOf (k : Nat) (a0 : Nat) (a1 : Nat) : Option (Bool × (List Int) × Int × Bool × (List Int) × Int) :=
 (spec_DyadicOf k a0) >>= fun r6 =>
 (spec_DyadicOf k a1) >>= fun r8 =>
 some (r6.1, r6.2.1, r6.2.2, r8.1, r8.2.1, r8.2.2)

theorem spec_PointOf_sim {k : Nat}  (a0 : Nat) (a1 : Nat) {out : Bool × (List Int) × Int × Bool × (List Int) × Int} (hp : spec_PointOf k a0 a1 = some out) : Sx.Fn Tryz.prog 63 [(Vg a0), (Vg a1)] [] (fun w : Unit => (Ag [(Vb out.1), (Sl (Ki .u32) out.2.1), (Vi out.2.2.1), (Vb out.2.2.2.1), (Sl (Ki .u32) out.2.2.2.2.1), (Vi out.2.2.2.2.2)])) (fun w => []) := by
 unfold spec_PointOf at hp
 refine fn_of Tryz.func63 rfl Tryz.ntmps63 rfl fun E hM => ?_
 refine cr fun K1 hK1 => ?_
 refine sx_ox' (ox_alloc' info53 rfl rfl rfl rfl (l := [(Vb false), Vn, (Vi 0), (Vb false), Vn, (Vi 0)]) rfl) (wt_none' rfl) fun q4 => ?_
 refine nk hK1 ?_
 refine cr fun K2 hK2 => ?_
 refine s0 (rd_move' rfl) ?_
 obtain ⟨r6, hr6, hp⟩ := bind_some hp
 refine sx_ox' (ox_calln' (ent_fn' Tryz.func80 isn80 rfl rfl) (spec_DyadicOf_sim _ hr6 : Sx.Fn Tryz.prog 80 [(Vg a0)] [] (fun x : Unit => (Ag [(Vb r6.1), (Sl (Ki .u32) r6.2.1), (Vi r6.2.2)])) (fun x => [])) (Hn := fun x : Unit => [⟨.pointer (some q4), [(Vb false), Vn, (Vi 0), (Vb false), Vn, (Vi 0)], 53, none⟩]) (fun _ => rfl) rfl rfl) (wt_none' rfl) fun ⟨⟩ => ?_
 refine s0 (rd_move' rfl) ?_
 obtain ⟨r8, hr8, hp⟩ := bind_some hp
 refine sx_ox' (ox_calln' (ent_fn' Tryz.func80 isn80 rfl rfl) (spec_DyadicOf_sim _ hr8 : Sx.Fn Tryz.prog 80 [(Vg a1)] [] (fun x : Unit => (Ag [(Vb r8.1), (Sl (Ki .u32) r8.2.1), (Vi r8.2.2)])) (fun x => [])) (Hn := fun x : Unit => [⟨.pointer (some q4), [(Vb false), Vn, (Vi 0), (Vb false), Vn, (Vi 0)], 53, none⟩]) (fun _ => rfl) rfl rfl) (wt_none' rfl) fun ⟨⟩ => ?_
 refine s0 (rd_build' (pls := [(0, 3), (3, 3)]) (qs := [(0, [(Vb r6.1), (Sl (Ki .u32) r6.2.1), (Vi r6.2.2)]), (1, [(Vb r8.1), (Sl (Ki .u32) r8.2.1), (Vi r8.2.2)])]) (r := [(Vb r6.1), (Sl (Ki .u32) r6.2.1), (Vi r6.2.2), (Vb r8.1), (Sl (Ki .u32) r8.2.1), (Vi r8.2.2)]) ⟨rfl, ⟨_, rfl, (lv_ag _)⟩, ⟨rfl, ⟨_, rfl, (lv_ag _)⟩, trivial⟩⟩ Tryz.underlying53 has53 places53 info53 rfl rfl rfl) ?_
 refine sx_ox' (ox_store' (i := 0) (o := 0) rfl rfl (lv_ag _) ⟨rfl, rfl, rfl, rfl⟩ rfl info53 rfl (H' := [⟨.pointer (some q4), [(Vb r6.1), (Sl (Ki .u32) r6.2.1), (Vi r6.2.2), (Vb r8.1), (Sl (Ki .u32) r8.2.1), (Vi r8.2.2)], 53, none⟩]) rfl) (wt_none' rfl) fun _ => ?_
 refine nk hK2 ?_
 refine cx_retc' ?_
 replace hp := Option.some.inj hp
 subst hp
 refine tx_pick' (L' := [(4, (Vp q4))]) (H' := [⟨.pointer (some q4), [(Vb r6.1), (Sl (Ki .u32) r6.2.1), (Vi r6.2.2), (Vb r8.1), (Sl (Ki .u32) r8.2.1), (Vi r8.2.2)], 53, none⟩]) [0] (sub_cons rfl sub_nil) (by decide) (pick_cons rfl pick_nil) ?_
 exact tx_ret1' Tryz.results63 rfl () (rv_cell_agg' (i := 0) (o := 0) (nn := 6) rfl ⟨rfl, rfl, rfl, rfl⟩ rfl agg53 rfl) (List.nil_sublist _)

def spec_Places_j2 (k : Nat) (a0 : List Nat) (x4 : Int) (x3 : List (Bool × (List Int) × Int × Bool × (List Int) × Int)) (rec1 : ((List (Bool × (List Int) × Int × Bool × (List Int) × Int)) × Int) → Option ((List (Bool × (List Int) × Int × Bool × (List Int) × Int)))) (a1 : Int) (x2 : Bool) : Option ((List (Bool × (List Int) × Int × Bool × (List Int) × Int))) :=
 br x2
  ((idx a0 x4) >>= fun r23 =>
  (idx a0 (iadd .i64 x4 1)) >>= fun r28 =>
  (spec_PointOf k r23 r28) >>= fun r30 =>
  (apd 80 x3 ([(r30.1, r30.2.1, r30.2.2.1, r30.2.2.2.1, r30.2.2.2.2.1, r30.2.2.2.2.2)])) >>= fun r32 =>
  rec1 (r32, (iadd .i64 x4 a1)))
  (some x3)
def spec_Places_l1s (a1 : Int) (a0 : List Nat) (k : Nat) (rec1 : ((List (Bool × (List Int) × Int × Bool × (List Int) × Int)) × Int) → Option ((List (Bool × (List Int) × Int × Bool × (List Int) × Int)))) (x3 : List (Bool × (List Int) × Int × Bool × (List Int) × Int)) (x4 : Int) : Option ((List (Bool × (List Int) × Int × Bool × (List Int) × Int))) :=
 br (decide (1 < a1))
  (spec_Places_j2 k a0 x4 x3 rec1 a1 (decide ((iadd .i64 x4 a1) ≤ (a0.length : Int))))
  (spec_Places_j2 k a0 x4 x3 rec1 a1 false)
def spec_Places_l1 (a1 : Int) (a0 : List Nat) : Nat → ((List (Bool × (List Int) × Int × Bool × (List Int) × Int)) × Int) → Option ((List (Bool × (List Int) × Int × Bool × (List Int) × Int)))
 | 0, _ => none
 | k + 1, v => spec_Places_l1s a1 a0 k (spec_Places_l1 a1 a0 k) v.1 v.2
def spec_Places (k : Nat) (a0 : List Nat) (a1 : Int) : Option ((List (Bool × (List Int) × Int × Bool × (List Int) × Int))) :=
 (spec_Places_l1 a1 a0 k ([], 0)) >>= fun v4 =>
 some v4

theorem spec_Places_sim {k : Nat}  (a0 : List Nat) (a1 : Int) {out : (List (Bool × (List Int) × Int × Bool × (List Int) × Int))} (hp : spec_Places k a0 a1 = some out) : Sx.Fn Tryz.prog 26 [(Sl Kf a0), (Vi a1)] [] (fun w : Unit => (Sl KT53 out)) (fun w => []) := by
 unfold spec_Places at hp
 refine fn_of Tryz.func26 rfl Tryz.ntmps26 rfl fun E hM => ?_
 refine cr fun K1 hK1 => ?_
 refine s0 (rd_assign' rfl) ?_
 refine nk hK1 ?_
 refine cr fun K2 hK2 => ?_
 refine s0 (rd_assign' rfl) ?_
 refine nk hK2 ?_
 refine cx_seq' fun K3 hK3 => ?_
 refine cr fun K4 hK4 => ?_
 refine s0 (rd_assign' rfl) ?_
 refine nk hK4 ?_
 refine cx_block' ?_
 obtain ⟨v4, hy1, hp⟩ := bind_some hp
 refine tx_nilrow' KT53 53 ?_
 refine cx_loopg' (F := spec_Places_l1 a1 a0) (G := fun k R v => spec_Places_l1s a1 a0 k R v.1 v.2) (x := ([], 0)) (gh := (none, 0, 0)) (fun (v2 : (List (Bool × (List Int) × Int × Bool × (List Int) × Int)) × Int) (w2 : Gs) => (⟨34, [], [(0, (Sl Kf a0)), (1, (Vi a1)), (5, (Vl (Vs w2))), (6, (Vi v2.2))], [(Rw KT53 53 (Vs w2) v2.1)]⟩ : St)) (fun (v4 : (List (Bool × (List Int) × Int × Bool × (List Int) × Int))) => Zg E (Exit.exit 0) (fun (w4 : Gs) => (⟨34, [], [(5, (Vl (Vs w4)))], [(Rw KT53 53 (Vs w4) v4)]⟩ : St))) (fun _ => rfl) (fun _ _ => rfl) ?_ hy1 (tx_to' rfl [0] (sub_cons rfl (sub_cons rfl (sub_cons rfl (sub_cons rfl sub_nil)))) (by decide) (pick_cons rfl pick_nil)) ?_
 ·clear hp hy1
  clear v4
  intro k rec1 KY1 ih1
  rintro ⟨x3, x4⟩ g901 y1 hp
  replace hp : spec_Places_l1s a1 a0 k rec1 x3 x4 = some y1 := hp
  unfold spec_Places_l1s at hp
  refine cx_seq' fun K9 hK9 => ?_
  refine cr fun K10 hK10 => ?_
  refine s0 (rd_move' rfl) ?_
  refine s0 (rd_bin' rfl rfl eg_int ru_gtr) ?_
  refine s0 (rd_move' rfl) ?_
  refine sx_cutn' 7 (fun (v3 : Bool) => (⟨34, [], [(0, (Sl Kf a0)), (1, (Vi a1)), (5, (Vl (Vs g901))), (6, (Vi x4)), (16, (Vb v3))], [(Rw KT53 53 (Vs g901) x3)]⟩ : St)) (fun (v3 : Bool) => spec_Places_j2 k a0 x4 x3 rec1 a1 v3 = some y1) ?_ ?_
  ·rintro x2 hp
   replace hp : spec_Places_j2 k a0 x4 x3 rec1 a1 x2 = some y1 := hp
   unfold spec_Places_j2 at hp
   refine nk hK10 ?_
   refine cx_cond' rfl (fun h5 => ?_) (fun h5 => ?_)
   ·replace hp := (br_t h5).symm.trans hp
    refine cx_skip' ?_
    show TX E K9 _
    refine tx_k' hK9 ?_
    refine cx_seq' fun K12 hK12 => ?_
    refine cx_block' ?_
    refine cx_plan' [] [(12, 1)] [(0, 1), (1, 1), (2, 1), (3, 1), (4, 1), (5, 1), (6, 1), (7, 1), (8, 1), (9, 1), (10, 0), (11, 0), (12, 0), (13, 1)] mixed (by kernel_rfl) ?_
    refine px_rd' rfl (rd_move' rfl) rfl rfl (wt_none' rfl) ?_
    refine px_rd' rfl (rd_move' rfl) rfl rfl (wt_none' rfl) ?_
    refine px_rd' rfl (rd_move' rfl) rfl rfl (wt_none' rfl) ?_
    obtain ⟨r23, hr23, hp⟩ := bind_some hp
    refine px_rd' rfl (rd_at' (K := Kf) rfl rfl hr23 Tryz.underlying29 info26) rfl rfl (wt_none' rfl) ?_
    refine px_rd' rfl (rd_load_pt' rfl rfl flat26) rfl rfl (wt_none' rfl) ?_
    refine px_rd' rfl (rd_move' rfl) rfl rfl (wt_none' rfl) ?_
    refine px_rd' rfl (rd_move' rfl) rfl rfl (wt_none' rfl) ?_
    refine px_rd' rfl (rd_bin' rfl rfl eg_int ru_add) rfl rfl (wt_none' rfl) ?_
    obtain ⟨r28, hr28, hp⟩ := bind_some hp
    refine px_rd' rfl (rd_at' (K := Kf) rfl rfl hr28 Tryz.underlying29 info26) rfl rfl (wt_none' rfl) ?_
    refine px_rd' rfl (rd_load_pt' rfl rfl flat26) rfl rfl (wt_none' rfl) ?_
    obtain ⟨r30, hr30, hp⟩ := bind_some hp
    refine px_ox' rfl (ox_calln' (ent_fn' Tryz.func63 isn63 rfl rfl) (spec_PointOf_sim _ _ hr30 : Sx.Fn Tryz.prog 63 [(Vg r23), (Vg r28)] [] (fun x : Unit => (Ag [(Vb r30.1), (Sl (Ki .u32) r30.2.1), (Vi r30.2.2.1), (Vb r30.2.2.2.1), (Sl (Ki .u32) r30.2.2.2.2.1), (Vi r30.2.2.2.2.2)])) (fun x => [])) (Hn := fun x : Unit => [(Rw KT53 53 (Vs g901) x3)]) (fun _ => rfl) rfl rfl) rfl bs_nil (wt_none' rfl) fun ⟨⟩ => ?_
    refine px_ox' rfl (ox_rowlit' (K := KT53) (xs := [(r30.1, r30.2.1, r30.2.2.1, r30.2.2.2.1, r30.2.2.2.2.1, r30.2.2.2.2.2)]) (qs := [(0, [(Vb r30.1), (Sl (Ki .u32) r30.2.1), (Vi r30.2.2.1), (Vb r30.2.2.2.1), (Sl (Ki .u32) r30.2.2.2.2.1), (Vi r30.2.2.2.2.2)])]) ⟨rfl, ⟨_, rfl, (lv_ag _)⟩, trivial⟩ Tryz.underlying44 info53 rfl rfl rfl rfl rfl (by kernel_rfl) rfl rfl rfl) rfl bs_nil (wt_none' rfl) fun g31 => ?_
    obtain ⟨r32, hr32, hp⟩ := bind_some hp
    refine px_ox' rfl (ox_append' (K := KT53) (i := 1) (xs := x3) (ys := ([(r30.1, r30.2.1, r30.2.2.1, r30.2.2.2.1, r30.2.2.2.2.1, r30.2.2.2.2.2)])) rfl rfl rfl (sr_row' (j := 0) rfl rfl rfl Tryz.underlying44) hr32 Tryz.underlying44 info53 rfl rfl rfl (H' := [(Rw KT53 53 (Vs g31) ([(r30.1, r30.2.1, r30.2.2.1, r30.2.2.2.1, r30.2.2.2.2.1, r30.2.2.2.2.2)]))]) rfl) rfl bs_nil (wt_none' rfl) fun g32 => ?_
    refine px_rd' rfl (rd_assign' rfl) rfl rfl (wt_none' rfl) ?_
    refine px_nil' ?_
    show TX E K12 _
    refine tx_k' hK12 ?_
    refine cx_region' ?_
    refine s0 (rd_move' rfl) ?_
    refine s0 (rd_move' rfl) ?_
    refine s0 (rd_bin' rfl rfl eg_int ru_add) ?_
    refine s0 (rd_assign' rfl) ?_
    refine sx_nil' ?_
    show TX E (KY1 _) _
    exact tx_pick' [0] (sub_cons rfl (sub_cons rfl (sub_cons rfl (sub_cons rfl sub_nil)))) (by decide) (pick_cons rfl pick_nil) (ih1 (r32, (iadd .i64 x4 a1)) g32 _ hp)
   replace hp := (br_f h5).symm.trans hp
   refine cx_exit' ?_
   replace hp := Option.some.inj hp
   subst hp
   show TX E (Zg E (Exit.exit 0) _ (Exit.exit 0)) _
   exact tx_zend' g901 rfl [0] (sub_cons rfl sub_nil) (by decide) (pick_cons rfl pick_nil)
  intro K11 hK11
  rcases br_cases hp with ⟨h4, hp⟩ | ⟨h4, hp⟩
  ·refine sx_rd' (rd_move' rfl) rfl rfl (wt_is' (wt_guard' rfl rfl rfl) (beq_tt h4)) ?_
   refine sx_rd' (rd_move' rfl) rfl rfl (wt_is' (wt_guard' rfl rfl rfl) (beq_tt h4)) ?_
   refine sx_rd' (rd_bin' rfl rfl eg_int ru_add) rfl rfl (wt_is' (wt_guard' rfl rfl rfl) (beq_tt h4)) ?_
   refine sx_rd' (rd_move' rfl) rfl rfl (wt_is' (wt_guard' rfl rfl rfl) (beq_tt h4)) ?_
   refine sx_rd' (rd_len' rfl Tryz.underlying29) rfl rfl (wt_is' (wt_guard' rfl rfl rfl) (beq_tt h4)) ?_
   refine sx_rd' (rd_bin' rfl rfl eg_int ru_leq) rfl rfl (wt_is' (wt_guard' rfl rfl rfl) (beq_tt h4)) ?_
   refine s0 (rd_pick_true' rfl h4 rfl) ?_
   refine sx_nil' ?_
   show TX E K11 _
   exact tx_pick' [0] (sub_cons rfl (sub_cons rfl (sub_cons rfl (sub_cons rfl (sub_cons rfl sub_nil))))) (by decide) (pick_cons rfl pick_nil) (hK11 (decide ((iadd .i64 x4 a1) ≤ (a0.length : Int))) hp)
  refine sx_skip' rfl rfl (wt_is' (wt_guard' rfl rfl rfl) (beq_ft h4)) ?_
  refine sx_skip' rfl rfl (wt_is' (wt_guard' rfl rfl rfl) (beq_ft h4)) ?_
  refine sx_skip' rfl rfl (wt_is' (wt_guard' rfl rfl rfl) (beq_ft h4)) ?_
  refine sx_skip' rfl rfl (wt_is' (wt_guard' rfl rfl rfl) (beq_ft h4)) ?_
  refine sx_skip' rfl rfl (wt_is' (wt_guard' rfl rfl rfl) (beq_ft h4)) ?_
  refine sx_skip' rfl rfl (wt_is' (wt_guard' rfl rfl rfl) (beq_ft h4)) ?_
  refine s0 (rd_pick_false' rfl h4 rfl) ?_
  refine sx_nil' ?_
  show TX E K11 _
  exact tx_pick' [0] (sub_cons rfl (sub_cons rfl (sub_cons rfl (sub_cons rfl (sub_cons rfl sub_nil))))) (by decide) (pick_cons rfl pick_nil) (hK11 false hp)
 refine zg_out fun w4 => ?_
 show TX E K3 _
 refine tx_k' hK3 ?_
 refine cr fun K13 hK13 => ?_
 refine s0 (rd_move' rfl) ?_
 refine s0 (rd_assign' rfl) ?_
 refine nk hK13 ?_
 refine cx_retc' ?_
 replace hp := Option.some.inj hp
 subst hp
 refine tx_fz' (frz_row 0 [(5, (Vl (Vs w4)), (Sl KT53 v4)), (33, (Vl (Vs w4)), (Sl KT53 v4)), (4, (Vl (Vs w4)), (Sl KT53 v4))] (K := KT53) (xs := v4) (by decide) rfl ⟨⟨rfl, frz_it⟩, ⟨rfl, frz_it⟩, ⟨rfl, frz_it⟩, trivial⟩ (H' := []) frzH_refl) ?_
 refine tx_pick' (L' := [(4, (Sl KT53 v4))]) (H' := []) [] (sub_cons rfl sub_nil) (by decide) pick_nil ?_
 exact tx_ret1' Tryz.results26 rfl () (rv_tmp' rfl) (List.Sublist.refl _)

def spec_Lines_j4 (k : Nat) (rec1 : ((List (List (Bool × (List Int) × Int × Bool × (List Int) × Int))) × Int × Int) → Option ((List (List (Bool × (List Int) × Int × Bool × (List Int) × Int))))) (x6 : Int) (r15 : Int) (x7 : Int) (x4 : List (List (Bool × (List Int) × Int × Bool × (List Int) × Int))) : Option ((List (List (Bool × (List Int) × Int × Bool × (List Int) × Int)))) :=
 rec1 (x4, (imax x6 r15), (iadd .i64 x7 1))
def spec_Lines_j3 (k : Nat) (a0 : List Nat) (x6 : Int) (r15 : Int) (a2 : Int) (x5 : List (List (Bool × (List Int) × Int × Bool × (List Int) × Int))) (rec1 : ((List (List (Bool × (List Int) × Int × Bool × (List Int) × Int))) × Int × Int) → Option ((List (List (Bool × (List Int) × Int × Bool × (List Int) × Int))))) (x7 : Int) (x3 : Bool) : Option ((List (List (Bool × (List Int) × Int × Bool × (List Int) × Int)))) :=
 br x3
  ((cut a0 x6 r15) >>= fun r30 =>
  (spec_Places k r30 a2) >>= fun r32 =>
  (apd 24 x5 ([r32])) >>= fun r34 =>
  spec_Lines_j4 k rec1 x6 r15 x7 r34)
  (spec_Lines_j4 k rec1 x6 r15 x7 x5)
def spec_Lines_l1s (a1 : List Int) (a0 : List Nat) (a2 : Int) (k : Nat) (rec1 : ((List (List (Bool × (List Int) × Int × Bool × (List Int) × Int))) × Int × Int) → Option ((List (List (Bool × (List Int) × Int × Bool × (List Int) × Int))))) (x5 : List (List (Bool × (List Int) × Int × Bool × (List Int) × Int))) (x6 : Int) (x7 : Int) : Option ((List (List (Bool × (List Int) × Int × Bool × (List Int) × Int)))) :=
 br (decide (x7 < (a1.length : Int)))
  ((idx a1 x7) >>= fun r15 =>
  br (decide (x6 ≤ r15))
   (spec_Lines_j3 k a0 x6 r15 a2 x5 rec1 x7 (decide (r15 ≤ (a0.length : Int))))
   (spec_Lines_j3 k a0 x6 r15 a2 x5 rec1 x7 false))
  (some x5)
def spec_Lines_l1 (a1 : List Int) (a0 : List Nat) (a2 : Int) : Nat → ((List (List (Bool × (List Int) × Int × Bool × (List Int) × Int))) × Int × Int) → Option ((List (List (Bool × (List Int) × Int × Bool × (List Int) × Int))))
 | 0, _ => none
 | k + 1, v => spec_Lines_l1s a1 a0 a2 k (spec_Lines_l1 a1 a0 a2 k) v.1 v.2.1 v.2.2
def spec_Lines (k : Nat) (a0 : List Nat) (a1 : List Int) (a2 : Int) : Option ((List (List (Bool × (List Int) × Int × Bool × (List Int) × Int)))) :=
 (spec_Lines_l1 a1 a0 a2 k ([], 0, 0)) >>= fun v6 =>
 some v6

theorem spec_Lines_sim {k : Nat}  (a0 : List Nat) (a1 : List Int) (a2 : Int) {out : (List (List (Bool × (List Int) × Int × Bool × (List Int) × Int)))} (hp : spec_Lines k a0 a1 a2 = some out) : Sx.Fn Tryz.prog 11 [(Sl Kf a0), (Sl (Ki .i64) a1), (Vi a2)] [] (fun w : Unit => (Sl (Kl KT53) out)) (fun w => []) := by
 unfold spec_Lines at hp
 refine fn_of Tryz.func11 rfl Tryz.ntmps11 rfl fun E hM => ?_
 refine cr fun K1 hK1 => ?_
 refine s0 (rd_assign' rfl) ?_
 refine nk hK1 ?_
 refine cr fun K2 hK2 => ?_
 refine s0 (rd_assign' rfl) ?_
 refine nk hK2 ?_
 refine cr fun K3 hK3 => ?_
 refine s0 (rd_assign' rfl) ?_
 refine nk hK3 ?_
 refine cx_seq' fun K4 hK4 => ?_
 refine cr fun K5 hK5 => ?_
 refine s0 (rd_move' rfl) ?_
 refine s0 (rd_len' rfl Tryz.underlying35) ?_
 refine s0 (rd_move' rfl) ?_
 refine nk hK5 ?_
 refine cx_block' ?_
 obtain ⟨v6, hy1, hp⟩ := bind_some hp
 refine tx_nilrow' (Kl KT53) 44 ?_
 refine cx_loopg' (F := spec_Lines_l1 a1 a0 a2) (G := fun k R v => spec_Lines_l1s a1 a0 a2 k R v.1 v.2.1 v.2.2) (x := ([], 0, 0)) (gh := (none, 0, 0)) (fun (v3 : (List (List (Bool × (List Int) × Int × Bool × (List Int) × Int))) × Int × Int) (w3 : Gs) => (⟨40, [], [(0, (Sl Kf a0)), (2, (Vi a2)), (7, (Vl (Vs w3))), (8, (Vi v3.2.1)), (11, (Sl (Ki .i64) a1)), (12, (Vi (a1.length : Int))), (13, (Vi v3.2.2))], [(Rw (Kl KT53) 44 (Vs w3) v3.1)]⟩ : St)) (fun (v6 : (List (List (Bool × (List Int) × Int × Bool × (List Int) × Int)))) => Zg E (Exit.exit 0) (fun (w6 : Gs) => (⟨40, [], [(7, (Vl (Vs w6)))], [(Rw (Kl KT53) 44 (Vs w6) v6)]⟩ : St))) (fun _ => rfl) (fun _ _ => rfl) ?_ hy1 (tx_to' rfl [0] (sub_cons rfl (sub_cons rfl (sub_cons rfl (sub_cons rfl (sub_cons rfl (sub_cons rfl (sub_cons rfl sub_nil))))))) (by decide) (pick_cons rfl pick_nil)) ?_
 ·clear hp hy1
  clear v6
  intro k rec1 KY1 ih1
  rintro ⟨x5, x6, x7⟩ g903 y1 hp
  replace hp : spec_Lines_l1s a1 a0 a2 k rec1 x5 x6 x7 = some y1 := hp
  unfold spec_Lines_l1s at hp
  refine cr fun K13 hK13 => ?_
  refine s0 (rd_bin' rfl rfl eg_int ru_lss) ?_
  refine nk hK13 ?_
  refine cx_seq' fun K14 hK14 => ?_
  refine cx_cond' rfl (fun h5 => ?_) (fun h5 => ?_)
  ·replace hp := (br_t h5).symm.trans hp
   refine cx_skip' ?_
   show TX E K14 _
   refine tx_k' hK14 ?_
   refine cx_seq' fun K15 hK15 => ?_
   refine cx_block' ?_
   refine cr fun K16 hK16 => ?_
   obtain ⟨r15, hr15, hp⟩ := bind_some hp
   refine s0 (rd_at' (K := (Ki .i64)) rfl rfl hr15 Tryz.underlying35 info3) ?_
   refine s0 (rd_load_pt' rfl rfl flat3) ?_
   refine s0 (rd_assign' rfl) ?_
   refine nk hK16 ?_
   refine cx_join' (fun (v5 : (List (List (Bool × (List Int) × Int × Bool × (List Int) × Int))) × Gs) => (⟨40, [], [(0, (Sl Kf a0)), (2, (Vi a2)), (7, (Vl (Vs v5.2))), (8, (Vi x6)), (10, (Vi r15)), (11, (Sl (Ki .i64) a1)), (12, (Vi (a1.length : Int))), (13, (Vi x7))], [(Rw (Kl KT53) 44 (Vs v5.2) v5.1)]⟩ : St)) (fun (v5 : (List (List (Bool × (List Int) × Int × Bool × (List Int) × Int))) × Gs) => spec_Lines_j4 k rec1 x6 r15 x7 v5.1 = some y1) ?_ ?_
   ·rintro ⟨x4, g902⟩ hp
    replace hp : spec_Lines_j4 k rec1 x6 r15 x7 x4 = some y1 := hp
    unfold spec_Lines_j4 at hp
    refine cx_region' ?_
    refine s0 (rd_move' rfl) ?_
    refine s0 (rd_move' rfl) ?_
    refine s0 (rd_imax' rfl rfl) ?_
    refine s0 (rd_assign' rfl) ?_
    refine nk hK15 ?_
    refine cx_region' ?_
    refine s0 (rd_bin' rfl rfl eg_int ru_add) ?_
    refine s0 (rd_move' rfl) ?_
    refine sx_nil' ?_
    show TX E (KY1 _) _
    exact tx_pick' [0] (sub_cons rfl (sub_cons rfl (sub_cons rfl (sub_cons rfl (sub_cons rfl (sub_cons rfl (sub_cons rfl sub_nil))))))) (by decide) (pick_cons rfl pick_nil) (ih1 (x4, (imax x6 r15), (iadd .i64 x7 1)) g902 _ hp)
   intro K17 hK17
   refine cr fun K18 hK18 => ?_
   refine s0 (rd_move' rfl) ?_
   refine s0 (rd_move' rfl) ?_
   refine s0 (rd_bin' rfl rfl eg_int ru_leq) ?_
   refine s0 (rd_move' rfl) ?_
   refine sx_cutn' 5 (fun (v4 : Bool) => (⟨40, [], [(0, (Sl Kf a0)), (2, (Vi a2)), (7, (Vl (Vs g903))), (8, (Vi x6)), (10, (Vi r15)), (11, (Sl (Ki .i64) a1)), (12, (Vi (a1.length : Int))), (13, (Vi x7)), (25, (Vb v4))], [(Rw (Kl KT53) 44 (Vs g903) x5)]⟩ : St)) (fun (v4 : Bool) => spec_Lines_j3 k a0 x6 r15 a2 x5 rec1 x7 v4 = some y1) ?_ ?_
   ·rintro x3 hp
    replace hp : spec_Lines_j3 k a0 x6 r15 a2 x5 rec1 x7 x3 = some y1 := hp
    unfold spec_Lines_j3 at hp
    refine nk hK18 ?_
    refine cx_cond' rfl (fun h7 => ?_) (fun h7 => ?_)
    ·replace hp := (br_t h7).symm.trans hp
     refine cx_region' ?_
     refine s0 (rd_move' rfl) ?_
     refine s0 (rd_move' rfl) ?_
     refine s0 (rd_move' rfl) ?_
     refine s0 (rd_move' rfl) ?_
     obtain ⟨r30, hr30, hp⟩ := bind_some hp
     refine s0 (rd_cut_lh' rfl rfl rfl hr30 Tryz.underlying29 info26) ?_
     refine s0 (rd_move' rfl) ?_
     obtain ⟨r32, hr32, hp⟩ := bind_some hp
     refine sx_ox' (ox_calln' (ent_fn' Tryz.func26 isn26 rfl rfl) (spec_Places_sim _ _ hr32 : Sx.Fn Tryz.prog 26 [(Sl Kf r30), (Vi a2)] [] (fun x : Unit => (Sl KT53 r32)) (fun x => [])) (Hn := fun x : Unit => [(Rw (Kl KT53) 44 (Vs g903) x5)]) (fun _ => rfl) rfl rfl) (wt_none' rfl) fun ⟨⟩ => ?_
     refine sx_ox' (ox_rowlit' (K := (Kl KT53)) (xs := [r32]) (qs := [(0, [(Sl KT53 r32)])]) ⟨rfl, ⟨_, rfl, (lv_sl _ _)⟩, trivial⟩ Tryz.underlying23 info44 rfl rfl rfl rfl rfl (by kernel_rfl) rfl rfl rfl) (wt_none' rfl) fun g33 => ?_
     obtain ⟨r34, hr34, hp⟩ := bind_some hp
     refine sx_ox' (ox_append' (K := (Kl KT53)) (i := 1) (xs := x5) (ys := ([r32])) rfl rfl rfl (sr_row' (j := 0) rfl rfl rfl Tryz.underlying23) hr34 Tryz.underlying23 info44 rfl rfl rfl (H' := [(Rw (Kl KT53) 44 (Vs g33) ([r32]))]) rfl) (wt_none' rfl) fun g34 => ?_
     refine s0 (rd_assign' rfl) ?_
     refine sx_nil' ?_
     show TX E K17 _
     exact tx_pick' [0] (sub_cons rfl (sub_cons rfl (sub_cons rfl (sub_cons rfl (sub_cons rfl (sub_cons rfl (sub_cons rfl (sub_cons rfl sub_nil)))))))) (by decide) (pick_cons rfl pick_nil) (hK17 (r34, g34) hp)
    replace hp := (br_f h7).symm.trans hp
    refine cx_skip' ?_
    show TX E K17 _
    exact tx_pick' [0] (sub_cons rfl (sub_cons rfl (sub_cons rfl (sub_cons rfl (sub_cons rfl (sub_cons rfl (sub_cons rfl (sub_cons rfl sub_nil)))))))) (by decide) (pick_cons rfl pick_nil) (hK17 (x5, g903) hp)
   intro K19 hK19
   rcases br_cases hp with ⟨h6, hp⟩ | ⟨h6, hp⟩
   ·refine sx_rd' (rd_move' rfl) rfl rfl (wt_is' (wt_guard' rfl rfl rfl) (beq_tt h6)) ?_
    refine sx_rd' (rd_move' rfl) rfl rfl (wt_is' (wt_guard' rfl rfl rfl) (beq_tt h6)) ?_
    refine sx_rd' (rd_len' rfl Tryz.underlying29) rfl rfl (wt_is' (wt_guard' rfl rfl rfl) (beq_tt h6)) ?_
    refine sx_rd' (rd_bin' rfl rfl eg_int ru_leq) rfl rfl (wt_is' (wt_guard' rfl rfl rfl) (beq_tt h6)) ?_
    refine s0 (rd_pick_true' rfl h6 rfl) ?_
    refine sx_nil' ?_
    show TX E K19 _
    exact tx_pick' [0] (sub_cons rfl (sub_cons rfl (sub_cons rfl (sub_cons rfl (sub_cons rfl (sub_cons rfl (sub_cons rfl (sub_cons rfl (sub_cons rfl sub_nil))))))))) (by decide) (pick_cons rfl pick_nil) (hK19 (decide (r15 ≤ (a0.length : Int))) hp)
   refine sx_skip' rfl rfl (wt_is' (wt_guard' rfl rfl rfl) (beq_ft h6)) ?_
   refine sx_skip' rfl rfl (wt_is' (wt_guard' rfl rfl rfl) (beq_ft h6)) ?_
   refine sx_skip' rfl rfl (wt_is' (wt_guard' rfl rfl rfl) (beq_ft h6)) ?_
   refine sx_skip' rfl rfl (wt_is' (wt_guard' rfl rfl rfl) (beq_ft h6)) ?_
   refine s0 (rd_pick_false' rfl h6 rfl) ?_
   refine sx_nil' ?_
   show TX E K19 _
   exact tx_pick' [0] (sub_cons rfl (sub_cons rfl (sub_cons rfl (sub_cons rfl (sub_cons rfl (sub_cons rfl (sub_cons rfl (sub_cons rfl (sub_cons rfl sub_nil))))))))) (by decide) (pick_cons rfl pick_nil) (hK19 false hp)
  replace hp := (br_f h5).symm.trans hp
  refine cx_exit' ?_
  replace hp := Option.some.inj hp
  subst hp
  show TX E (Zg E (Exit.exit 0) _ (Exit.exit 0)) _
  exact tx_zend' g903 rfl [0] (sub_cons rfl sub_nil) (by decide) (pick_cons rfl pick_nil)
 refine zg_out fun w6 => ?_
 show TX E K4 _
 refine tx_k' hK4 ?_
 refine cr fun K20 hK20 => ?_
 refine s0 (rd_move' rfl) ?_
 refine s0 (rd_assign' rfl) ?_
 refine nk hK20 ?_
 refine cx_retc' ?_
 replace hp := Option.some.inj hp
 subst hp
 refine tx_fz' (frz_row 0 [(7, (Vl (Vs w6)), (Sl (Kl KT53) v6)), (39, (Vl (Vs w6)), (Sl (Kl KT53) v6)), (6, (Vl (Vs w6)), (Sl (Kl KT53) v6))] (K := (Kl KT53)) (xs := v6) (by decide) rfl ⟨⟨rfl, frz_it⟩, ⟨rfl, frz_it⟩, ⟨rfl, frz_it⟩, trivial⟩ (H' := []) frzH_refl) ?_
 refine tx_pick' (L' := [(6, (Sl (Kl KT53) v6))]) (H' := []) [] (sub_cons rfl sub_nil) (by decide) pick_nil ?_
 exact tx_ret1' Tryz.results11 rfl () (rv_tmp' rfl) (List.Sublist.refl _)

def laws_kindred_j14 (k : Nat) (r32 : T38) (r27 : Int) (x15 : List (List (Bool × (List Int) × Int × Bool × (List Int) × Int))) (rec1 : ((List (List (Bool × (List Int) × Int × Bool × (List Int) × Int))) × Int × Int) → Option (Unit ⊕ ((List (List (Bool × (List Int) × Int × Bool × (List Int) × Int))) × Int))) (x16 : Int) (r69 : Int) (x17 : Int) (x14 : List Int) : Option (Unit ⊕ ((List (List (Bool × (List Int) × Int × Bool × (List Int) × Int))) × Int)) :=
 (spec_Lines k r32.f3 x14 r27) >>= fun r92 =>
 (apd 24 x15 r92) >>= fun r93 =>
 rec1 (r93, (iadd .i64 x16 r69), (iadd .i64 x17 1))
def laws_kindred_j13 (k : Nat) (r32 : T38) (r27 : Int) (x15 : List (List (Bool × (List Int) × Int × Bool × (List Int) × Int))) (rec1 : ((List (List (Bool × (List Int) × Int × Bool × (List Int) × Int))) × Int × Int) → Option (Unit ⊕ ((List (List (Bool × (List Int) × Int × Bool × (List Int) × Int))) × Int))) (x16 : Int) (r69 : Int) (x17 : Int) (x13 : Bool) : Option (Unit ⊕ ((List (List (Bool × (List Int) × Int × Bool × (List Int) × Int))) × Int)) :=
 br x13
  (laws_kindred_j14 k r32 r27 x15 rec1 x16 r69 x17 ([(r32.f3.length : Int)]))
  (laws_kindred_j14 k r32 r27 x15 rec1 x16 r69 x17 r32.f4)
def laws_kindred_j12 (k : Nat) (r32 : T38) (r27 : Int) (x15 : List (List (Bool × (List Int) × Int × Bool × (List Int) × Int))) (rec1 : ((List (List (Bool × (List Int) × Int × Bool × (List Int) × Int))) × Int × Int) → Option (Unit ⊕ ((List (List (Bool × (List Int) × Int × Bool × (List Int) × Int))) × Int))) (x16 : Int) (r69 : Int) (x17 : Int) (a0 : Int) (x12 : Bool) : Option (Unit ⊕ ((List (List (Bool × (List Int) × Int × Bool × (List Int) × Int))) × Int)) :=
 br x12
  (laws_kindred_j13 k r32 r27 x15 rec1 x16 r69 x17 true)
  (laws_kindred_j13 k r32 r27 x15 rec1 x16 r69 x17 (decide (a0 = 1)))
def laws_kindred_j11 (k : Nat) (a1 : Int) (r32 : T38) (r27 : Int) (a0 : Int) (x15 : List (List (Bool × (List Int) × Int × Bool × (List Int) × Int))) (rec1 : ((List (List (Bool × (List Int) × Int × Bool × (List Int) × Int))) × Int × Int) → Option (Unit ⊕ ((List (List (Bool × (List Int) × Int × Bool × (List Int) × Int))) × Int))) (x16 : Int) (x17 : Int) (x11 : Bool) : Option (Unit ⊕ ((List (List (Bool × (List Int) × Int × Bool × (List Int) × Int))) × Int)) :=
 br x11
  (some (.inl ()))
  ((laws_flatTo k a1 r32.f3 4634204016564240384 100) >>= fun r59 =>
  br (!r59.2)
   (some (.inl ()))
   ((iquo .i64 (r32.f3.length : Int) r27) >>= fun r69 =>
   br (decide (a0 = 2))
    (laws_kindred_j12 k r32 r27 x15 rec1 x16 r69 x17 a0 true)
    (laws_kindred_j12 k r32 r27 x15 rec1 x16 r69 x17 a0 (decide (a0 = 8)))))
def laws_kindred_j10 (k : Nat) (a1 : Int) (r32 : T38) (r27 : Int) (a0 : Int) (x15 : List (List (Bool × (List Int) × Int × Bool × (List Int) × Int))) (rec1 : ((List (List (Bool × (List Int) × Int × Bool × (List Int) × Int))) × Int × Int) → Option (Unit ⊕ ((List (List (Bool × (List Int) × Int × Bool × (List Int) × Int))) × Int))) (x16 : Int) (x17 : Int) (x10 : Bool) : Option (Unit ⊕ ((List (List (Bool × (List Int) × Int × Bool × (List Int) × Int))) × Int)) :=
 br x10
  (laws_kindred_j11 k a1 r32 r27 a0 x15 rec1 x16 x17 true)
  (laws_kindred_j11 k a1 r32 r27 a0 x15 rec1 x16 x17 (decide ((r32.f3.length : Int) = 0)))
def laws_kindred_j9 (k : Nat) (a1 : Int) (r32 : T38) (r27 : Int) (a0 : Int) (x15 : List (List (Bool × (List Int) × Int × Bool × (List Int) × Int))) (rec1 : ((List (List (Bool × (List Int) × Int × Bool × (List Int) × Int))) × Int × Int) → Option (Unit ⊕ ((List (List (Bool × (List Int) × Int × Bool × (List Int) × Int))) × Int))) (x16 : Int) (x17 : Int) (x9 : Bool) : Option (Unit ⊕ ((List (List (Bool × (List Int) × Int × Bool × (List Int) × Int))) × Int)) :=
 br x9
  (laws_kindred_j10 k a1 r32 r27 a0 x15 rec1 x16 x17 true)
  ((spec_Good k r32.f0 r32.f1 r32.f2 r32.f3 r32.f4 r32.f5 r32.f6) >>= fun r46 =>
  laws_kindred_j10 k a1 r32 r27 a0 x15 rec1 x16 x17 (!r46))
def laws_kindred_l1s (a2 : List T38) (a0 : Int) (a1 : Int) (r27 : Int) (k : Nat) (rec1 : ((List (List (Bool × (List Int) × Int × Bool × (List Int) × Int))) × Int × Int) → Option (Unit ⊕ ((List (List (Bool × (List Int) × Int × Bool × (List Int) × Int))) × Int))) (x15 : List (List (Bool × (List Int) × Int × Bool × (List Int) × Int))) (x16 : Int) (x17 : Int) : Option (Unit ⊕ ((List (List (Bool × (List Int) × Int × Bool × (List Int) × Int))) × Int)) :=
 br (decide (x17 < (a2.length : Int)))
  ((idx a2 x17) >>= fun r32 =>
  br (!decide (r32.f0 = a0))
   (laws_kindred_j9 k a1 r32 r27 a0 x15 rec1 x16 x17 true)
   (laws_kindred_j9 k a1 r32 r27 a0 x15 rec1 x16 x17 (!decide (r32.f1 = a1))))
  (some (.inr (x15, x16)))
def laws_kindred_l1 (a2 : List T38) (a0 : Int) (a1 : Int) (r27 : Int) : Nat → ((List (List (Bool × (List Int) × Int × Bool × (List Int) × Int))) × Int × Int) → Option (Unit ⊕ ((List (List (Bool × (List Int) × Int × Bool × (List Int) × Int))) × Int))
 | 0, _ => none
 | k + 1, v => laws_kindred_l1s a2 a0 a1 r27 k (laws_kindred_l1 a2 a0 a1 r27 k) v.1 v.2.1 v.2.2
def laws_kindred_j2 (k : Nat) (a1 : Int) (a2 : List T38) (a0 : Int) (x2 : Bool) : Option ((List (List (Bool × (List Int) × Int × Bool × (List Int) × Int))) × Bool) :=
 br x2
  (some ([], false))
  ((spec_Stride k a1) >>= fun r27 =>
  (laws_kindred_l1 a2 a0 a1 r27 k ([], 0, 0)) >>= fun y1 => match y1 with
   | (.inl v16) =>
    (some ([], false))
   | (.inr v17) =>
    (some (v17.1, decide (v17.2 ≤ 100))))
def laws_kindred_j1 (k : Nat) (a1 : Int) (a2 : List T38) (a0 : Int) (x1 : Bool) : Option ((List (List (Bool × (List Int) × Int × Bool × (List Int) × Int))) × Bool) :=
 br x1
  (laws_kindred_j2 k a1 a2 a0 true)
  (laws_kindred_j2 k a1 a2 a0 (decide (20 < (a2.length : Int))))
def laws_kindred (k : Nat) (a0 : Int) (a1 : Int) (a2 : List T38) : Option ((List (List (Bool × (List Int) × Int × Bool × (List Int) × Int))) × Bool) :=
 br (decide (a1 < 1))
  (laws_kindred_j1 k a1 a2 a0 true)
  (laws_kindred_j1 k a1 a2 a0 (decide (8 < a1)))

theorem laws_kindred_sim {k : Nat}  (a0 : Int) (a1 : Int) (a2 : List T38) {out : (List (List (Bool × (List Int) × Int × Bool × (List Int) × Int))) × Bool} (hp : laws_kindred k a0 a1 a2 = some out) : Sx.Fn Tryz.prog 4 [(Vi a0), (Vi a1), (Sl KT38 a2)] [] (fun w : Unit => (Tu [(Sl (Kl KT53) out.1), (Vb out.2)])) (fun w => []) := by
 unfold laws_kindred at hp
 refine fn_of Tryz.func4 rfl Tryz.ntmps4 rfl fun E hM => ?_
 refine cr fun K1 hK1 => ?_
 refine s0 (rd_assign' rfl) ?_
 refine s0 (rd_assign' rfl) ?_
 refine nk hK1 ?_
 refine cx_seq' fun K2 hK2 => ?_
 refine cr fun K3 hK3 => ?_
 refine s0 (rd_move' rfl) ?_
 refine s0 (rd_bin' rfl rfl eg_int ru_lss) ?_
 refine s0 (rd_move' rfl) ?_
 refine sx_cutn' 3 (fun (v1 : Bool) => (⟨98, [], [(0, (Vi a0)), (1, (Vi a1)), (2, (Sl KT38 a2)), (6, Vn), (20, (Vb v1))], []⟩ : St)) (fun (v1 : Bool) => laws_kindred_j1 k a1 a2 a0 v1 = some out) ?_ ?_
 ·rintro x1 hp
  replace hp : laws_kindred_j1 k a1 a2 a0 x1 = some out := hp
  unfold laws_kindred_j1 at hp
  refine s0 (rd_move' rfl) ?_
  refine sx_cutn' 4 (fun (v2 : Bool) => (⟨98, [], [(0, (Vi a0)), (1, (Vi a1)), (2, (Sl KT38 a2)), (6, Vn), (25, (Vb v2))], []⟩ : St)) (fun (v2 : Bool) => laws_kindred_j2 k a1 a2 a0 v2 = some out) ?_ ?_
  ·rintro x2 hp
   replace hp : laws_kindred_j2 k a1 a2 a0 x2 = some out := hp
   unfold laws_kindred_j2 at hp
   refine nk hK3 ?_
   refine cx_cond' rfl (fun h3 => ?_) (fun h3 => ?_)
   ·replace hp := (br_t h3).symm.trans hp
    refine cr fun K6 hK6 => ?_
    refine s0 (rd_assign' rfl) ?_
    refine s0 (rd_assign' rfl) ?_
    refine nk hK6 ?_
    refine cx_retc' ?_
    replace hp := Option.some.inj hp
    subst hp
    refine tx_pick' (L' := [(6, Vn), (7, (Vb false))]) (H' := []) [] (sub_cons rfl (sub_cons rfl sub_nil)) (by decide) pick_nil ?_
    exact tx_ret2' Tryz.results4 rfl () (rv_imp' (x := Vn) (y := (Sl (Kl KT53) [])) (rv_tmp' rfl) imp_nil) (rv_tmp' rfl) rfl (List.Sublist.refl _)
   replace hp := (br_f h3).symm.trans hp
   refine cx_skip' ?_
   show TX E K2 _
   refine tx_k' hK2 ?_
   refine cr fun K7 hK7 => ?_
   refine s0 (rd_move' rfl) ?_
   obtain ⟨r27, hr27, hp⟩ := bind_some hp
   refine sx_ox' (ox_calln' (ent_fn' Tryz.func8 isn8 rfl rfl) (spec_Stride_sim _ hr27 : Sx.Fn Tryz.prog 8 [(Vi a1)] [] (fun x : Unit => (Vi r27)) (fun x => [])) (Hn := fun x : Unit => []) (fun _ => rfl) rfl rfl) (wt_none' rfl) fun ⟨⟩ => ?_
   refine s0 (rd_assign' rfl) ?_
   refine s0 (rd_assign' rfl) ?_
   refine nk hK7 ?_
   refine cx_seq' fun K8 hK8 => ?_
   refine cr fun K9 hK9 => ?_
   refine s0 (rd_move' rfl) ?_
   refine s0 (rd_len' rfl Tryz.underlying22) ?_
   refine s0 (rd_move' rfl) ?_
   refine nk hK9 ?_
   refine cx_block' ?_
   obtain ⟨y1, hy1, hp⟩ := bind_some hp
   refine tx_nilrow' (Kl KT53) 44 ?_
   refine cx_loopg' (F := laws_kindred_l1 a2 a0 a1 r27) (G := fun k R v => laws_kindred_l1s a2 a0 a1 r27 k R v.1 v.2.1 v.2.2) (x := ([], 0, 0)) (gh := (none, 0, 0)) (fun (v9 : (List (List (Bool × (List Int) × Int × Bool × (List Int) × Int))) × Int × Int) (w9 : Gs) => (⟨98, [], [(0, (Vi a0)), (1, (Vi a1)), (6, (Vl (Vs w9))), (8, (Vi r27)), (9, (Vi v9.2.1)), (28, (Sl KT38 a2)), (29, (Vi (a2.length : Int))), (30, (Vi v9.2.2))], [(Rw (Kl KT53) 44 (Vs w9) v9.1)]⟩ : St)) (fun (y : Unit ⊕ ((List (List (Bool × (List Int) × Int × Bool × (List Int) × Int))) × Int)) => match y with | (.inl v16) => Zg E Exit.ret (fun (w16 : Unit) => (⟨98, [], [(6, Vn), (7, (Vb false))], []⟩ : St)) | (.inr v17) => Zg E (Exit.exit 0) (fun (w17 : Gs) => (⟨98, [], [(6, (Vl (Vs w17))), (9, (Vi v17.2))], [(Rw (Kl KT53) 44 (Vs w17) v17.1)]⟩ : St))) (fun _ => rfl) (fun _ _ => rfl) ?_ hy1 (tx_to' rfl [0] (sub_cons rfl (sub_cons rfl (sub_cons rfl (sub_cons rfl (sub_cons rfl (sub_cons rfl (sub_cons rfl (sub_cons rfl sub_nil)))))))) (by decide) (pick_cons rfl pick_nil)) ?_
   ·clear hp hy1
    clear y1
    intro k rec1 KY1 ih1
    rintro ⟨x15, x16, x17⟩ g901 y1 hp
    replace hp : laws_kindred_l1s a2 a0 a1 r27 k rec1 x15 x16 x17 = some y1 := hp
    unfold laws_kindred_l1s at hp
    refine cr fun K30 hK30 => ?_
    refine s0 (rd_bin' rfl rfl eg_int ru_lss) ?_
    refine nk hK30 ?_
    refine cx_seq' fun K31 hK31 => ?_
    refine cx_cond' rfl (fun h14 => ?_) (fun h14 => ?_)
    ·replace hp := (br_t h14).symm.trans hp
     refine cx_skip' ?_
     show TX E K31 _
     refine tx_k' hK31 ?_
     refine cx_seq' fun K32 hK32 => ?_
     refine cx_block' ?_
     refine cr fun K33 hK33 => ?_
     obtain ⟨r32, hr32, hp⟩ := bind_some hp
     refine s0 (rd_eq' (congrArg Pt (KT38_enc r32)) (rd_at' (K := KT38) rfl rfl hr32 Tryz.underlying22 info38)) ?_
     refine s0 (rd_load_pt_agg' (nn := 7) rfl rfl agg38 (l' := [(Vi r32.f0), (Vi r32.f1), (Vi r32.f2), (Sl Kf r32.f3), (Sl (Ki .i64) r32.f4), (Sl (Kl (Ki .i64)) r32.f5), (Sl KT38 r32.f6)]) rfl) ?_
     refine sx_ox' (ox_alloc' info38 rfl rfl rfl rfl (l := [(Vi 0), (Vi 0), (Vi 0), Vn, Vn, Vn, Vn]) rfl) (wt_none' rfl) fun q11 => ?_
     refine sx_ox' (ox_store' (i := 0) (o := 0) rfl rfl (lv_ag _) ⟨rfl, rfl, rfl, rfl⟩ rfl info38 rfl (H' := [⟨.pointer (some q11), [(Vi r32.f0), (Vi r32.f1), (Vi r32.f2), (Sl Kf r32.f3), (Sl (Ki .i64) r32.f4), (Sl (Kl (Ki .i64)) r32.f5), (Sl KT38 r32.f6)], 38, none⟩, (Rw (Kl KT53) 44 (Vs g901) x15)]) rfl) (wt_none' rfl) fun _ => ?_
     refine nk hK33 ?_
     refine cx_seq' fun K34 hK34 => ?_
     refine cr fun K35 hK35 => ?_
     refine s0 (rd_field0' rfl Tryz.underlying38 rfl info3 rfl) ?_
     refine s0 (rd_load' (i := 0) (o := 0) rfl ⟨rfl, rfl, rfl, rfl⟩ rfl flat3) ?_
     refine s0 (rd_move' rfl) ?_
     refine s0 (rd_bin' rfl rfl eg_int ru_neq) ?_
     refine s0 (rd_move' rfl) ?_
     refine sx_cutn' 5 (fun (v10 : Bool) => (⟨98, [], [(0, (Vi a0)), (1, (Vi a1)), (6, (Vl (Vs g901))), (8, (Vi r27)), (9, (Vi x16)), (11, (Vp q11)), (28, (Sl KT38 a2)), (29, (Vi (a2.length : Int))), (30, (Vi x17)), (43, (Vb v10))], [(Rw (Kl KT53) 44 (Vs g901) x15), ⟨.pointer (some q11), [(Vi r32.f0), (Vi r32.f1), (Vi r32.f2), (Sl Kf r32.f3), (Sl (Ki .i64) r32.f4), (Sl (Kl (Ki .i64)) r32.f5), (Sl KT38 r32.f6)], 38, none⟩]⟩ : St)) (fun (v10 : Bool) => laws_kindred_j9 k a1 r32 r27 a0 x15 rec1 x16 x17 v10 = some y1) ?_ ?_
     ·rintro x9 hp
      replace hp : laws_kindred_j9 k a1 r32 r27 a0 x15 rec1 x16 x17 x9 = some y1 := hp
      unfold laws_kindred_j9 at hp
      refine s0 (rd_move' rfl) ?_
      refine sx_cutn' 4 (fun (v11 : Bool) => (⟨98, [], [(0, (Vi a0)), (1, (Vi a1)), (6, (Vl (Vs g901))), (8, (Vi r27)), (9, (Vi x16)), (11, (Vp q11)), (28, (Sl KT38 a2)), (29, (Vi (a2.length : Int))), (30, (Vi x17)), (48, (Vb v11))], [(Rw (Kl KT53) 44 (Vs g901) x15), ⟨.pointer (some q11), [(Vi r32.f0), (Vi r32.f1), (Vi r32.f2), (Sl Kf r32.f3), (Sl (Ki .i64) r32.f4), (Sl (Kl (Ki .i64)) r32.f5), (Sl KT38 r32.f6)], 38, none⟩]⟩ : St)) (fun (v11 : Bool) => laws_kindred_j10 k a1 r32 r27 a0 x15 rec1 x16 x17 v11 = some y1) ?_ ?_
      ·rintro x10 hp
       replace hp : laws_kindred_j10 k a1 r32 r27 a0 x15 rec1 x16 x17 x10 = some y1 := hp
       unfold laws_kindred_j10 at hp
       refine s0 (rd_move' rfl) ?_
       refine sx_cutn' 5 (fun (v12 : Bool) => (⟨98, [], [(0, (Vi a0)), (1, (Vi a1)), (6, (Vl (Vs g901))), (8, (Vi r27)), (9, (Vi x16)), (11, (Vp q11)), (28, (Sl KT38 a2)), (29, (Vi (a2.length : Int))), (30, (Vi x17)), (54, (Vb v12))], [(Rw (Kl KT53) 44 (Vs g901) x15), ⟨.pointer (some q11), [(Vi r32.f0), (Vi r32.f1), (Vi r32.f2), (Sl Kf r32.f3), (Sl (Ki .i64) r32.f4), (Sl (Kl (Ki .i64)) r32.f5), (Sl KT38 r32.f6)], 38, none⟩]⟩ : St)) (fun (v12 : Bool) => laws_kindred_j11 k a1 r32 r27 a0 x15 rec1 x16 x17 v12 = some y1) ?_ ?_
       ·rintro x11 hp
        replace hp : laws_kindred_j11 k a1 r32 r27 a0 x15 rec1 x16 x17 x11 = some y1 := hp
        unfold laws_kindred_j11 at hp
        refine nk hK35 ?_
        refine cx_cond' rfl (fun h18 => ?_) (fun h18 => ?_)
        ·replace hp := (br_t h18).symm.trans hp
         refine cr fun K39 hK39 => ?_
         refine s0 (rd_assign' rfl) ?_
         refine s0 (rd_assign' rfl) ?_
         refine nk hK39 ?_
         refine cx_retc' ?_
         replace hp := Option.some.inj hp
         subst hp
         show TX E (Zg E Exit.ret _ Exit.ret) _
         exact tx_zend' () rfl [] (sub_cons rfl (sub_cons rfl sub_nil)) (by decide) pick_nil
        replace hp := (br_f h18).symm.trans hp
        refine cx_skip' ?_
        show TX E K34 _
        refine tx_k' hK34 ?_
        refine cx_seq' fun K40 hK40 => ?_
        refine cr fun K41 hK41 => ?_
        refine s0 (rd_move' rfl) ?_
        refine s0 (rd_field' (off := 3) rfl Tryz.underlying38 rfl info29 rfl) ?_
        refine s0 (rd_load' (i := 1) (o := 3) rfl ⟨rfl, rfl, rfl, rfl⟩ rfl flat29) ?_
        obtain ⟨r59, hr59, hp⟩ := bind_some hp
        refine sx_ox' (ox_calln' (ent_fn' Tryz.func10 isn10 rfl rfl) (laws_flatTo_sim _ _ _ _ hr59 : Sx.Fn Tryz.prog 10 [(Vi a1), (Sl Kf r32.f3), (Vg 4634204016564240384), (Vi 100)] [] (fun x : Unit => (Tu [(Sl KT72 r59.1), (Vb r59.2)])) (fun x => [])) (Hn := fun x : Unit => [(Rw (Kl KT53) 44 (Vs g901) x15), ⟨.pointer (some q11), [(Vi r32.f0), (Vi r32.f1), (Vi r32.f2), (Sl Kf r32.f3), (Sl (Ki .i64) r32.f4), (Sl (Kl (Ki .i64)) r32.f5), (Sl KT38 r32.f6)], 38, none⟩]) (fun _ => rfl) rfl rfl) (wt_none' rfl) fun ⟨⟩ => ?_
        refine s0 (rd_move' rfl) ?_
        refine s0 (rd_extract' rfl rfl) ?_
        refine s0 (rd_extract' rfl rfl) ?_
        refine s0 (rd_assign' rfl) ?_
        refine s0 (rd_assign' rfl) ?_
        refine nk hK41 ?_
        refine cr fun K42 hK42 => ?_
        refine s0 (rd_move' rfl) ?_
        refine s0 (rd_un' rfl ru_not) ?_
        refine nk hK42 ?_
        refine cx_cond' rfl (fun h19 => ?_) (fun h19 => ?_)
        ·replace hp := (br_t h19).symm.trans hp
         refine cr fun K43 hK43 => ?_
         refine s0 (rd_assign' rfl) ?_
         refine s0 (rd_assign' rfl) ?_
         refine nk hK43 ?_
         refine cx_retc' ?_
         replace hp := Option.some.inj hp
         subst hp
         show TX E (Zg E Exit.ret _ Exit.ret) _
         exact tx_zend' () rfl [] (sub_cons rfl (sub_cons rfl sub_nil)) (by decide) pick_nil
        replace hp := (br_f h19).symm.trans hp
        refine cx_skip' ?_
        show TX E K40 _
        refine tx_k' hK40 ?_
        refine cr fun K44 hK44 => ?_
        refine s0 (rd_move' rfl) ?_
        refine s0 (rd_field' (off := 3) rfl Tryz.underlying38 rfl info29 rfl) ?_
        refine s0 (rd_load' (i := 1) (o := 3) rfl ⟨rfl, rfl, rfl, rfl⟩ rfl flat29) ?_
        refine s0 (rd_len' rfl Tryz.underlying29) ?_
        refine s0 (rd_move' rfl) ?_
        obtain ⟨r69, hr69, hp⟩ := bind_some hp
        refine s0 (rd_bin' rfl rfl eg_int (ru_quo hr69)) ?_
        refine s0 (rd_bin' rfl rfl eg_int ru_add) ?_
        refine s0 (rd_assign' rfl) ?_
        refine nk hK44 ?_
        refine cr fun K45 hK45 => ?_
        refine s0 (rd_field' (off := 4) rfl Tryz.underlying38 rfl info35 rfl) ?_
        refine s0 (rd_load' (i := 1) (o := 4) rfl ⟨rfl, rfl, rfl, rfl⟩ rfl flat35) ?_
        refine s0 (rd_assign' rfl) ?_
        refine nk hK45 ?_
        refine cx_join' (fun (v15 : (List Int)) => (⟨98, [], [(0, (Vi a0)), (1, (Vi a1)), (6, (Vl (Vs g901))), (8, (Vi r27)), (9, (Vi (iadd .i64 x16 r69))), (11, (Vp q11)), (14, (Sl (Ki .i64) v15)), (28, (Sl KT38 a2)), (29, (Vi (a2.length : Int))), (30, (Vi x17))], [(Rw (Kl KT53) 44 (Vs g901) x15), ⟨.pointer (some q11), [(Vi r32.f0), (Vi r32.f1), (Vi r32.f2), (Sl Kf r32.f3), (Sl (Ki .i64) r32.f4), (Sl (Kl (Ki .i64)) r32.f5), (Sl KT38 r32.f6)], 38, none⟩]⟩ : St)) (fun (v15 : (List Int)) => laws_kindred_j14 k r32 r27 x15 rec1 x16 r69 x17 v15 = some y1) ?_ ?_
        ·rintro x14 hp
         replace hp : laws_kindred_j14 k r32 r27 x15 rec1 x16 r69 x17 x14 = some y1 := hp
         unfold laws_kindred_j14 at hp
         refine cx_region' ?_
         refine s0 (rd_move' rfl) ?_
         refine s0 (rd_field' (off := 3) rfl Tryz.underlying38 rfl info29 rfl) ?_
         refine s0 (rd_load' (i := 1) (o := 3) rfl ⟨rfl, rfl, rfl, rfl⟩ rfl flat29) ?_
         refine s0 (rd_move' rfl) ?_
         refine s0 (rd_move' rfl) ?_
         obtain ⟨r92, hr92, hp⟩ := bind_some hp
         refine sx_ox' (ox_calln' (ent_fn' Tryz.func11 isn11 rfl rfl) (spec_Lines_sim _ _ _ hr92 : Sx.Fn Tryz.prog 11 [(Sl Kf r32.f3), (Sl (Ki .i64) x14), (Vi r27)] [] (fun x : Unit => (Sl (Kl KT53) r92)) (fun x => [])) (Hn := fun x : Unit => [(Rw (Kl KT53) 44 (Vs g901) x15), ⟨.pointer (some q11), [(Vi r32.f0), (Vi r32.f1), (Vi r32.f2), (Sl Kf r32.f3), (Sl (Ki .i64) r32.f4), (Sl (Kl (Ki .i64)) r32.f5), (Sl KT38 r32.f6)], 38, none⟩]) (fun _ => rfl) rfl rfl) (wt_none' rfl) fun ⟨⟩ => ?_
         obtain ⟨r93, hr93, hp⟩ := bind_some hp
         refine sx_ox' (ox_append' (K := (Kl KT53)) (i := 0) (xs := x15) (ys := r92) rfl rfl rfl (sr_sl' rfl Tryz.underlying23) hr93 Tryz.underlying23 info44 rfl rfl rfl (H' := [⟨.pointer (some q11), [(Vi r32.f0), (Vi r32.f1), (Vi r32.f2), (Sl Kf r32.f3), (Sl (Ki .i64) r32.f4), (Sl (Kl (Ki .i64)) r32.f5), (Sl KT38 r32.f6)], 38, none⟩]) rfl) (wt_none' rfl) fun g93 => ?_
         refine s0 (rd_assign' rfl) ?_
         refine nk hK32 ?_
         refine cx_region' ?_
         refine s0 (rd_bin' rfl rfl eg_int ru_add) ?_
         refine s0 (rd_move' rfl) ?_
         refine sx_nil' ?_
         show TX E (KY1 _) _
         exact tx_pick' [0] (sub_cons rfl (sub_cons rfl (sub_cons rfl (sub_cons rfl (sub_cons rfl (sub_cons rfl (sub_cons rfl (sub_cons rfl sub_nil)))))))) (by decide) (pick_cons rfl pick_nil) (ih1 (r93, (iadd .i64 x16 r69), (iadd .i64 x17 1)) g93 _ hp)
        intro K46 hK46
        refine cr fun K47 hK47 => ?_
        refine s0 (rd_move' rfl) ?_
        refine s0 (rd_bin' rfl rfl eg_int ru_eql) ?_
        refine s0 (rd_move' rfl) ?_
        refine sx_cutn' 3 (fun (v13 : Bool) => (⟨98, [], [(0, (Vi a0)), (1, (Vi a1)), (6, (Vl (Vs g901))), (8, (Vi r27)), (9, (Vi (iadd .i64 x16 r69))), (11, (Vp q11)), (14, (Sl (Ki .i64) r32.f4)), (28, (Sl KT38 a2)), (29, (Vi (a2.length : Int))), (30, (Vi x17)), (78, (Vb v13))], [(Rw (Kl KT53) 44 (Vs g901) x15), ⟨.pointer (some q11), [(Vi r32.f0), (Vi r32.f1), (Vi r32.f2), (Sl Kf r32.f3), (Sl (Ki .i64) r32.f4), (Sl (Kl (Ki .i64)) r32.f5), (Sl KT38 r32.f6)], 38, none⟩]⟩ : St)) (fun (v13 : Bool) => laws_kindred_j12 k r32 r27 x15 rec1 x16 r69 x17 a0 v13 = some y1) ?_ ?_
        ·rintro x12 hp
         replace hp : laws_kindred_j12 k r32 r27 x15 rec1 x16 r69 x17 a0 x12 = some y1 := hp
         unfold laws_kindred_j12 at hp
         refine s0 (rd_move' rfl) ?_
         refine sx_cutn' 3 (fun (v14 : Bool) => (⟨98, [], [(0, (Vi a0)), (1, (Vi a1)), (6, (Vl (Vs g901))), (8, (Vi r27)), (9, (Vi (iadd .i64 x16 r69))), (11, (Vp q11)), (14, (Sl (Ki .i64) r32.f4)), (28, (Sl KT38 a2)), (29, (Vi (a2.length : Int))), (30, (Vi x17)), (82, (Vb v14))], [(Rw (Kl KT53) 44 (Vs g901) x15), ⟨.pointer (some q11), [(Vi r32.f0), (Vi r32.f1), (Vi r32.f2), (Sl Kf r32.f3), (Sl (Ki .i64) r32.f4), (Sl (Kl (Ki .i64)) r32.f5), (Sl KT38 r32.f6)], 38, none⟩]⟩ : St)) (fun (v14 : Bool) => laws_kindred_j13 k r32 r27 x15 rec1 x16 r69 x17 v14 = some y1) ?_ ?_
         ·rintro x13 hp
          replace hp : laws_kindred_j13 k r32 r27 x15 rec1 x16 r69 x17 x13 = some y1 := hp
          unfold laws_kindred_j13 at hp
          refine nk hK47 ?_
          refine cx_cond' rfl (fun h22 => ?_) (fun h22 => ?_)
          ·replace hp := (br_t h22).symm.trans hp
           refine cx_region' ?_
           refine s0 (rd_field' (off := 3) rfl Tryz.underlying38 rfl info29 rfl) ?_
           refine s0 (rd_load' (i := 1) (o := 3) rfl ⟨rfl, rfl, rfl, rfl⟩ rfl flat29) ?_
           refine s0 (rd_len' rfl Tryz.underlying29) ?_
           refine sx_ox' (ox_rowlit' (K := (Ki .i64)) (xs := [(r32.f3.length : Int)]) (qs := [(0, [(Vi (r32.f3.length : Int))])]) ⟨rfl, ⟨_, rfl, (lv_vl rfl rfl)⟩, trivial⟩ Tryz.underlying35 info3 rfl rfl rfl rfl rfl (by kernel_rfl) rfl rfl rfl) (wt_none' rfl) fun g86 => ?_
           refine s0 (rd_assign' rfl) ?_
           refine sx_nil' ?_
           show TX E K46 _
           refine tx_fz' (frz_row 0 [(14, (Vl (Vs g86)), (Sl (Ki .i64) ([(r32.f3.length : Int)]))), (86, (Vl (Vs g86)), (Sl (Ki .i64) ([(r32.f3.length : Int)])))] (K := (Ki .i64)) (xs := [(r32.f3.length : Int)]) (by decide) rfl ⟨⟨rfl, frz_it⟩, ⟨rfl, frz_it⟩, trivial⟩ (H' := [(Rw (Kl KT53) 44 (Vs g901) x15), ⟨.pointer (some q11), [(Vi r32.f0), (Vi r32.f1), (Vi r32.f2), (Sl Kf r32.f3), (Sl (Ki .i64) r32.f4), (Sl (Kl (Ki .i64)) r32.f5), (Sl KT38 r32.f6)], 38, none⟩]) frzH_refl) ?_
           exact tx_pick' [0, 1] (sub_cons rfl (sub_cons rfl (sub_cons rfl (sub_cons rfl (sub_cons rfl (sub_cons rfl (sub_cons rfl (sub_cons rfl (sub_cons rfl (sub_cons rfl sub_nil)))))))))) (by decide) (pick_cons rfl (pick_cons rfl pick_nil)) (hK46 ([(r32.f3.length : Int)]) hp)
          replace hp := (br_f h22).symm.trans hp
          refine cx_skip' ?_
          show TX E K46 _
          exact tx_pick' [0, 1] (sub_cons rfl (sub_cons rfl (sub_cons rfl (sub_cons rfl (sub_cons rfl (sub_cons rfl (sub_cons rfl (sub_cons rfl (sub_cons rfl (sub_cons rfl sub_nil)))))))))) (by decide) (pick_cons rfl (pick_cons rfl pick_nil)) (hK46 r32.f4 hp)
         intro K49 hK49
         rcases br_cases hp with ⟨h21, hp⟩ | ⟨h21, hp⟩
         ·refine sx_skip' rfl rfl (wt_is' (wt_guard' rfl rfl rfl) (beq_tf h21)) ?_
          refine sx_skip' rfl rfl (wt_is' (wt_guard' rfl rfl rfl) (beq_tf h21)) ?_
          refine s0 (rd_pick_true' rfl h21 rfl) ?_
          refine sx_nil' ?_
          show TX E K49 _
          exact tx_pick' [0, 1] (sub_cons rfl (sub_cons rfl (sub_cons rfl (sub_cons rfl (sub_cons rfl (sub_cons rfl (sub_cons rfl (sub_cons rfl (sub_cons rfl (sub_cons rfl (sub_cons rfl sub_nil))))))))))) (by decide) (pick_cons rfl (pick_cons rfl pick_nil)) (hK49 true hp)
         refine sx_rd' (rd_move' rfl) rfl rfl (wt_is' (wt_guard' rfl rfl rfl) (beq_ff h21)) ?_
         refine sx_rd' (rd_bin' rfl rfl eg_int ru_eql) rfl rfl (wt_is' (wt_guard' rfl rfl rfl) (beq_ff h21)) ?_
         refine s0 (rd_pick_false' rfl h21 rfl) ?_
         refine sx_nil' ?_
         show TX E K49 _
         exact tx_pick' [0, 1] (sub_cons rfl (sub_cons rfl (sub_cons rfl (sub_cons rfl (sub_cons rfl (sub_cons rfl (sub_cons rfl (sub_cons rfl (sub_cons rfl (sub_cons rfl (sub_cons rfl sub_nil))))))))))) (by decide) (pick_cons rfl (pick_cons rfl pick_nil)) (hK49 (decide (a0 = 1)) hp)
        intro K48 hK48
        rcases br_cases hp with ⟨h20, hp⟩ | ⟨h20, hp⟩
        ·refine sx_skip' rfl rfl (wt_is' (wt_guard' rfl rfl rfl) (beq_tf h20)) ?_
         refine sx_skip' rfl rfl (wt_is' (wt_guard' rfl rfl rfl) (beq_tf h20)) ?_
         refine s0 (rd_pick_true' rfl h20 rfl) ?_
         refine sx_nil' ?_
         show TX E K48 _
         exact tx_pick' [0, 1] (sub_cons rfl (sub_cons rfl (sub_cons rfl (sub_cons rfl (sub_cons rfl (sub_cons rfl (sub_cons rfl (sub_cons rfl (sub_cons rfl (sub_cons rfl (sub_cons rfl sub_nil))))))))))) (by decide) (pick_cons rfl (pick_cons rfl pick_nil)) (hK48 true hp)
        refine sx_rd' (rd_move' rfl) rfl rfl (wt_is' (wt_guard' rfl rfl rfl) (beq_ff h20)) ?_
        refine sx_rd' (rd_bin' rfl rfl eg_int ru_eql) rfl rfl (wt_is' (wt_guard' rfl rfl rfl) (beq_ff h20)) ?_
        refine s0 (rd_pick_false' rfl h20 rfl) ?_
        refine sx_nil' ?_
        show TX E K48 _
        exact tx_pick' [0, 1] (sub_cons rfl (sub_cons rfl (sub_cons rfl (sub_cons rfl (sub_cons rfl (sub_cons rfl (sub_cons rfl (sub_cons rfl (sub_cons rfl (sub_cons rfl (sub_cons rfl sub_nil))))))))))) (by decide) (pick_cons rfl (pick_cons rfl pick_nil)) (hK48 (decide (a0 = 8)) hp)
       intro K38 hK38
       rcases br_cases hp with ⟨h17, hp⟩ | ⟨h17, hp⟩
       ·refine sx_skip' rfl rfl (wt_is' (wt_guard' rfl rfl rfl) (beq_tf h17)) ?_
        refine sx_skip' rfl rfl (wt_is' (wt_guard' rfl rfl rfl) (beq_tf h17)) ?_
        refine sx_skip' rfl rfl (wt_is' (wt_guard' rfl rfl rfl) (beq_tf h17)) ?_
        refine sx_skip' rfl rfl (wt_is' (wt_guard' rfl rfl rfl) (beq_tf h17)) ?_
        refine s0 (rd_pick_true' rfl h17 rfl) ?_
        refine sx_nil' ?_
        show TX E K38 _
        exact tx_pick' [0, 1] (sub_cons rfl (sub_cons rfl (sub_cons rfl (sub_cons rfl (sub_cons rfl (sub_cons rfl (sub_cons rfl (sub_cons rfl (sub_cons rfl (sub_cons rfl sub_nil)))))))))) (by decide) (pick_cons rfl (pick_cons rfl pick_nil)) (hK38 true hp)
       refine sx_rd' (rd_field' (off := 3) rfl Tryz.underlying38 rfl info29 rfl) rfl rfl (wt_is' (wt_guard' rfl rfl rfl) (beq_ff h17)) ?_
       refine sx_rd' (rd_load' (i := 1) (o := 3) rfl ⟨rfl, rfl, rfl, rfl⟩ rfl flat29) rfl rfl (wt_is' (wt_guard' rfl rfl rfl) (beq_ff h17)) ?_
       refine sx_rd' (rd_len' rfl Tryz.underlying29) rfl rfl (wt_is' (wt_guard' rfl rfl rfl) (beq_ff h17)) ?_
       refine sx_rd' (rd_bin' rfl rfl eg_int ru_eql) rfl rfl (wt_is' (wt_guard' rfl rfl rfl) (beq_ff h17)) ?_
       refine s0 (rd_pick_false' rfl h17 rfl) ?_
       refine sx_nil' ?_
       show TX E K38 _
       exact tx_pick' [0, 1] (sub_cons rfl (sub_cons rfl (sub_cons rfl (sub_cons rfl (sub_cons rfl (sub_cons rfl (sub_cons rfl (sub_cons rfl (sub_cons rfl (sub_cons rfl sub_nil)))))))))) (by decide) (pick_cons rfl (pick_cons rfl pick_nil)) (hK38 (decide ((r32.f3.length : Int) = 0)) hp)
      intro K37 hK37
      rcases br_cases hp with ⟨h16, hp⟩ | ⟨h16, hp⟩
      ·refine sx_skip' rfl rfl (wt_is' (wt_guard' rfl rfl rfl) (beq_tf h16)) ?_
       refine sx_skip' rfl rfl (wt_is' (wt_guard' rfl rfl rfl) (beq_tf h16)) ?_
       refine sx_skip' rfl rfl (wt_is' (wt_guard' rfl rfl rfl) (beq_tf h16)) ?_
       refine s0 (rd_pick_true' rfl h16 rfl) ?_
       refine sx_nil' ?_
       show TX E K37 _
       exact tx_pick' [0, 1] (sub_cons rfl (sub_cons rfl (sub_cons rfl (sub_cons rfl (sub_cons rfl (sub_cons rfl (sub_cons rfl (sub_cons rfl (sub_cons rfl (sub_cons rfl sub_nil)))))))))) (by decide) (pick_cons rfl (pick_cons rfl pick_nil)) (hK37 true hp)
      refine sx_rd' (rd_load_agg' (i := 1) (o := 0) (nn := 7) rfl ⟨rfl, rfl, rfl, rfl⟩ rfl agg38 (l' := [(Vi r32.f0), (Vi r32.f1), (Vi r32.f2), (Sl Kf r32.f3), (Sl (Ki .i64) r32.f4), (Sl (Kl (Ki .i64)) r32.f5), (Sl KT38 r32.f6)]) rfl) rfl rfl (wt_is' (wt_guard' rfl rfl rfl) (beq_ff h16)) ?_
      obtain ⟨r46, hr46, hp⟩ := bind_some hp
      refine sx_ox' (ox_calln' (ent_fn' Tryz.func9 isn9 rfl rfl) (spec_Good_sim _ _ _ _ _ _ _ hr46 : Sx.Fn Tryz.prog 9 [(Ag [(Vi r32.f0), (Vi r32.f1), (Vi r32.f2), (Sl Kf r32.f3), (Sl (Ki .i64) r32.f4), (Sl (Kl (Ki .i64)) r32.f5), (Sl KT38 r32.f6)])] [] (fun x : Unit => (Vb r46)) (fun x => [])) (Hn := fun x : Unit => [(Rw (Kl KT53) 44 (Vs g901) x15), ⟨.pointer (some q11), [(Vi r32.f0), (Vi r32.f1), (Vi r32.f2), (Sl Kf r32.f3), (Sl (Ki .i64) r32.f4), (Sl (Kl (Ki .i64)) r32.f5), (Sl KT38 r32.f6)], 38, none⟩]) (fun _ => rfl) rfl rfl) (wt_is' (wt_guard' rfl rfl rfl) (beq_ff h16)) fun ⟨⟩ => ?_
      refine sx_rd' (rd_un' rfl ru_not) rfl rfl (wt_is' (wt_guard' rfl rfl rfl) (beq_ff h16)) ?_
      refine s0 (rd_pick_false' rfl h16 rfl) ?_
      refine sx_nil' ?_
      show TX E K37 _
      exact tx_pick' [0, 1] (sub_cons rfl (sub_cons rfl (sub_cons rfl (sub_cons rfl (sub_cons rfl (sub_cons rfl (sub_cons rfl (sub_cons rfl (sub_cons rfl (sub_cons rfl sub_nil)))))))))) (by decide) (pick_cons rfl (pick_cons rfl pick_nil)) (hK37 (!r46) hp)
     intro K36 hK36
     rcases br_cases hp with ⟨h15, hp⟩ | ⟨h15, hp⟩
     ·refine sx_skip' rfl rfl (wt_is' (wt_guard' rfl rfl rfl) (beq_tf h15)) ?_
      refine sx_skip' rfl rfl (wt_is' (wt_guard' rfl rfl rfl) (beq_tf h15)) ?_
      refine sx_skip' rfl rfl (wt_is' (wt_guard' rfl rfl rfl) (beq_tf h15)) ?_
      refine sx_skip' rfl rfl (wt_is' (wt_guard' rfl rfl rfl) (beq_tf h15)) ?_
      refine s0 (rd_pick_true' rfl h15 rfl) ?_
      refine sx_nil' ?_
      show TX E K36 _
      exact tx_pick' [1, 0] (sub_cons rfl (sub_cons rfl (sub_cons rfl (sub_cons rfl (sub_cons rfl (sub_cons rfl (sub_cons rfl (sub_cons rfl (sub_cons rfl (sub_cons rfl sub_nil)))))))))) (by decide) (pick_cons rfl (pick_cons rfl pick_nil)) (hK36 true hp)
     refine sx_rd' (rd_field' (off := 1) rfl Tryz.underlying38 rfl info3 rfl) rfl rfl (wt_is' (wt_guard' rfl rfl rfl) (beq_ff h15)) ?_
     refine sx_rd' (rd_load' (i := 0) (o := 1) rfl ⟨rfl, rfl, rfl, rfl⟩ rfl flat3) rfl rfl (wt_is' (wt_guard' rfl rfl rfl) (beq_ff h15)) ?_
     refine sx_rd' (rd_move' rfl) rfl rfl (wt_is' (wt_guard' rfl rfl rfl) (beq_ff h15)) ?_
     refine sx_rd' (rd_bin' rfl rfl eg_int ru_neq) rfl rfl (wt_is' (wt_guard' rfl rfl rfl) (beq_ff h15)) ?_
     refine s0 (rd_pick_false' rfl h15 rfl) ?_
     refine sx_nil' ?_
     show TX E K36 _
     exact tx_pick' [1, 0] (sub_cons rfl (sub_cons rfl (sub_cons rfl (sub_cons rfl (sub_cons rfl (sub_cons rfl (sub_cons rfl (sub_cons rfl (sub_cons rfl (sub_cons rfl sub_nil)))))))))) (by decide) (pick_cons rfl (pick_cons rfl pick_nil)) (hK36 (!decide (r32.f1 = a1)) hp)
    replace hp := (br_f h14).symm.trans hp
    refine cx_exit' ?_
    replace hp := Option.some.inj hp
    subst hp
    show TX E (Zg E (Exit.exit 0) _ (Exit.exit 0)) _
    exact tx_zend' g901 rfl [0] (sub_cons rfl (sub_cons rfl sub_nil)) (by decide) (pick_cons rfl pick_nil)
   rcases y1 with v16 | v17
   ·dsimp only at hp
    refine zg_out fun w16 => ?_
    replace hp := Option.some.inj hp
    subst hp
    refine tx_pick' (L' := [(6, Vn), (7, (Vb false))]) (H' := []) [] (sub_cons rfl (sub_cons rfl sub_nil)) (by decide) pick_nil ?_
    exact tx_ret2' Tryz.results4 rfl () (rv_imp' (x := Vn) (y := (Sl (Kl KT53) [])) (rv_tmp' rfl) imp_nil) (rv_tmp' rfl) rfl (List.Sublist.refl _)
   dsimp only at hp
   refine zg_out fun w17 => ?_
   show TX E K8 _
   refine tx_k' hK8 ?_
   refine cr fun K50 hK50 => ?_
   refine s0 (rd_move' rfl) ?_
   refine s0 (rd_move' rfl) ?_
   refine s0 (rd_bin' rfl rfl eg_int ru_leq) ?_
   refine s0 (rd_assign' rfl) ?_
   refine s0 (rd_assign' rfl) ?_
   refine nk hK50 ?_
   refine cx_retc' ?_
   replace hp := Option.some.inj hp
   subst hp
   refine tx_fz' (frz_row 0 [(6, (Vl (Vs w17)), (Sl (Kl KT53) v17.1)), (95, (Vl (Vs w17)), (Sl (Kl KT53) v17.1))] (K := (Kl KT53)) (xs := v17.1) (by decide) rfl ⟨⟨rfl, frz_it⟩, ⟨rfl, frz_it⟩, trivial⟩ (H' := []) frzH_refl) ?_
   refine tx_pick' (L' := [(6, (Sl (Kl KT53) v17.1)), (7, (Vb (decide (v17.2 ≤ 100))))]) (H' := []) [] (sub_cons rfl (sub_cons rfl sub_nil)) (by decide) pick_nil ?_
   exact tx_ret2' Tryz.results4 rfl () (rv_tmp' rfl) (rv_tmp' rfl) rfl (List.Sublist.refl _)
  intro K5 hK5
  rcases br_cases hp with ⟨h2, hp⟩ | ⟨h2, hp⟩
  ·refine sx_skip' rfl rfl (wt_is' (wt_guard' rfl rfl rfl) (beq_tf h2)) ?_
   refine sx_skip' rfl rfl (wt_is' (wt_guard' rfl rfl rfl) (beq_tf h2)) ?_
   refine sx_skip' rfl rfl (wt_is' (wt_guard' rfl rfl rfl) (beq_tf h2)) ?_
   refine s0 (rd_pick_true' rfl h2 rfl) ?_
   refine sx_nil' ?_
   show TX E K5 _
   exact tx_pick' [] (sub_cons rfl (sub_cons rfl (sub_cons rfl (sub_cons rfl (sub_cons rfl sub_nil))))) (by decide) pick_nil (hK5 true hp)
  refine sx_rd' (rd_move' rfl) rfl rfl (wt_is' (wt_guard' rfl rfl rfl) (beq_ff h2)) ?_
  refine sx_rd' (rd_len' rfl Tryz.underlying22) rfl rfl (wt_is' (wt_guard' rfl rfl rfl) (beq_ff h2)) ?_
  refine sx_rd' (rd_bin' rfl rfl eg_int ru_gtr) rfl rfl (wt_is' (wt_guard' rfl rfl rfl) (beq_ff h2)) ?_
  refine s0 (rd_pick_false' rfl h2 rfl) ?_
  refine sx_nil' ?_
  show TX E K5 _
  exact tx_pick' [] (sub_cons rfl (sub_cons rfl (sub_cons rfl (sub_cons rfl (sub_cons rfl sub_nil))))) (by decide) pick_nil (hK5 (decide (20 < (a2.length : Int))) hp)
 intro K4 hK4
 rcases br_cases hp with ⟨h1, hp⟩ | ⟨h1, hp⟩
 ·refine sx_skip' rfl rfl (wt_is' (wt_guard' rfl rfl rfl) (beq_tf h1)) ?_
  refine sx_skip' rfl rfl (wt_is' (wt_guard' rfl rfl rfl) (beq_tf h1)) ?_
  refine s0 (rd_pick_true' rfl h1 rfl) ?_
  refine sx_nil' ?_
  show TX E K4 _
  exact tx_pick' [] (sub_cons rfl (sub_cons rfl (sub_cons rfl (sub_cons rfl (sub_cons rfl sub_nil))))) (by decide) pick_nil (hK4 true hp)
 refine sx_rd' (rd_move' rfl) rfl rfl (wt_is' (wt_guard' rfl rfl rfl) (beq_ff h1)) ?_
 refine sx_rd' (rd_bin' rfl rfl eg_int ru_gtr) rfl rfl (wt_is' (wt_guard' rfl rfl rfl) (beq_ff h1)) ?_
 refine s0 (rd_pick_false' rfl h1 rfl) ?_
 refine sx_nil' ?_
 show TX E K4 _
 exact tx_pick' [] (sub_cons rfl (sub_cons rfl (sub_cons rfl (sub_cons rfl (sub_cons rfl sub_nil))))) (by decide) pick_nil (hK4 (decide (8 < a1)) hp)

def spec_Whole_Minus_j1 (k : Nat) (a0_1 : List Int) (x1 : Bool) : Option (Bool × (List Int)) :=
 some (x1, a0_1)
def spec_Whole_Minus (k : Nat) (a0_0 : Bool) (a0_1 : List Int) : Option (Bool × (List Int)) :=
 br (!a0_0)
  (spec_Whole_Minus_j1 k a0_1 (decide (0 < (a0_1.length : Int))))
  (spec_Whole_Minus_j1 k a0_1 false)

theorem spec_Whole_Minus_sim {k : Nat}  (a0_0 : Bool) (a0_1 : List Int) {out : Bool × (List Int)} (hp : spec_Whole_Minus k a0_0 a0_1 = some out) : Sx.Fn Tryz.prog 92 [(Ag [(Vb a0_0), (Sl (Ki .u32) a0_1)])] [] (fun w : Unit => (Ag [(Vb out.1), (Sl (Ki .u32) out.2)])) (fun w => []) := by
 unfold spec_Whole_Minus at hp
 refine fn_of Tryz.func92 rfl Tryz.ntmps92 rfl fun E hM => ?_
 refine cr fun K1 hK1 => ?_
 refine sx_ox' (ox_box' rfl (lv_ag _) rfl rfl) (wt_none' rfl) fun q1 => ?_
 refine sx_ox' (ox_alloc' info48 rfl rfl rfl rfl (l := [(Vb false), Vn]) rfl) (wt_none' rfl) fun q2 => ?_
 refine nk hK1 ?_
 refine cr fun K2 hK2 => ?_
 refine s0 (rd_field0' rfl Tryz.underlying48 rfl info4 rfl) ?_
 refine s0 (rd_load' (i := 1) (o := 0) rfl ⟨rfl, rfl, rfl, rfl⟩ rfl flat4) ?_
 refine s0 (rd_un' rfl ru_not) ?_
 refine s0 (rd_move' rfl) ?_
 refine sx_cutn' 5 (fun (v1 : Bool) => (⟨15, [], [(1, (Vp q1)), (2, (Vp q2)), (11, (Vb v1))], [⟨.pointer (some q1), [(Vb a0_0), (Sl (Ki .u32) a0_1)], 48, none⟩, ⟨.pointer (some q2), [(Vb false), Vn], 48, none⟩]⟩ : St)) (fun (v1 : Bool) => spec_Whole_Minus_j1 k a0_1 v1 = some out) ?_ ?_
 ·rintro x1 hp
  replace hp : spec_Whole_Minus_j1 k a0_1 x1 = some out := hp
  unfold spec_Whole_Minus_j1 at hp
  refine s0 (rd_field' (off := 1) rfl Tryz.underlying48 rfl info46 rfl) ?_
  refine s0 (rd_load' (i := 0) (o := 1) rfl ⟨rfl, rfl, rfl, rfl⟩ rfl flat46) ?_
  refine s0 (rd_build' (pls := [(0, 1), (1, 1)]) (qs := [(0, [(Vb x1)]), (1, [(Sl (Ki .u32) a0_1)])]) (r := [(Vb x1), (Sl (Ki .u32) a0_1)]) ⟨rfl, ⟨_, rfl, (lv_vl rfl rfl)⟩, ⟨rfl, ⟨_, rfl, (lv_sl _ _)⟩, trivial⟩⟩ Tryz.underlying48 has48 places48 info48 rfl rfl rfl) ?_
  refine sx_ox' (ox_store' (i := 1) (o := 0) rfl rfl (lv_ag _) ⟨rfl, rfl, rfl, rfl⟩ rfl info48 rfl (H' := [⟨.pointer (some q1), [(Vb a0_0), (Sl (Ki .u32) a0_1)], 48, none⟩, ⟨.pointer (some q2), [(Vb x1), (Sl (Ki .u32) a0_1)], 48, none⟩]) rfl) (wt_none' rfl) fun _ => ?_
  refine nk hK2 ?_
  refine cx_retc' ?_
  replace hp := Option.some.inj hp
  subst hp
  refine tx_pick' (L' := [(2, (Vp q2))]) (H' := [⟨.pointer (some q2), [(Vb x1), (Sl (Ki .u32) a0_1)], 48, none⟩]) [1] (sub_cons rfl sub_nil) (by decide) (pick_cons rfl pick_nil) ?_
  exact tx_ret1' Tryz.results92 rfl () (rv_cell_agg' (i := 0) (o := 0) (nn := 2) rfl ⟨rfl, rfl, rfl, rfl⟩ rfl agg48 rfl) (List.nil_sublist _)
 intro K3 hK3
 rcases br_cases hp with ⟨h1, hp⟩ | ⟨h1, hp⟩
 ·refine sx_rd' (rd_field' (off := 1) rfl Tryz.underlying48 rfl info46 rfl) rfl rfl (wt_is' (wt_guard' rfl rfl rfl) (beq_tt h1)) ?_
  refine sx_rd' (rd_load' (i := 1) (o := 1) rfl ⟨rfl, rfl, rfl, rfl⟩ rfl flat46) rfl rfl (wt_is' (wt_guard' rfl rfl rfl) (beq_tt h1)) ?_
  refine sx_rd' (rd_len' rfl Tryz.underlying46) rfl rfl (wt_is' (wt_guard' rfl rfl rfl) (beq_tt h1)) ?_
  refine sx_rd' (rd_bin' rfl rfl eg_int ru_gtr) rfl rfl (wt_is' (wt_guard' rfl rfl rfl) (beq_tt h1)) ?_
  refine s0 (rd_pick_true' rfl h1 rfl) ?_
  refine sx_nil' ?_
  show TX E K3 _
  exact tx_pick' [1, 0] (sub_cons rfl (sub_cons rfl (sub_cons rfl sub_nil))) (by decide) (pick_cons rfl (pick_cons rfl pick_nil)) (hK3 (decide (0 < (a0_1.length : Int))) hp)
 refine sx_skip' rfl rfl (wt_is' (wt_guard' rfl rfl rfl) (beq_ft h1)) ?_
 refine sx_skip' rfl rfl (wt_is' (wt_guard' rfl rfl rfl) (beq_ft h1)) ?_
 refine sx_skip' rfl rfl (wt_is' (wt_guard' rfl rfl rfl) (beq_ft h1)) ?_
 refine sx_skip' rfl rfl (wt_is' (wt_guard' rfl rfl rfl) (beq_ft h1)) ?_
 refine s0 (rd_pick_false' rfl h1 rfl) ?_
 refine sx_nil' ?_
 show TX E K3 _
 exact tx_pick' [1, 0] (sub_cons rfl (sub_cons rfl (sub_cons rfl sub_nil))) (by decide) (pick_cons rfl (pick_cons rfl pick_nil)) (hK3 false hp)

def spec_Dyadic_Minus (k : Nat) (a0_0 : Bool) (a0_1 : List Int) (a0_2 : Int) : Option (Bool × (List Int) × Int) :=
 (spec_Whole_Minus k a0_0 a0_1) >>= fun r5 =>
 some (r5.1, r5.2, a0_2)

theorem spec_Dyadic_Minus_sim {k : Nat}  (a0_0 : Bool) (a0_1 : List Int) (a0_2 : Int) {out : Bool × (List Int) × Int} (hp : spec_Dyadic_Minus k a0_0 a0_1 a0_2 = some out) : Sx.Fn Tryz.prog 81 [(Ag [(Vb a0_0), (Sl (Ki .u32) a0_1), (Vi a0_2)])] [] (fun w : Unit => (Ag [(Vb out.1), (Sl (Ki .u32) out.2.1), (Vi out.2.2)])) (fun w => []) := by
 unfold spec_Dyadic_Minus at hp
 refine fn_of Tryz.func81 rfl Tryz.ntmps81 rfl fun E hM => ?_
 refine cr fun K1 hK1 => ?_
 refine sx_ox' (ox_box' rfl (lv_ag _) rfl rfl) (wt_none' rfl) fun q1 => ?_
 refine sx_ox' (ox_alloc' info50 rfl rfl rfl rfl (l := [(Vb false), Vn, (Vi 0)]) rfl) (wt_none' rfl) fun q2 => ?_
 refine nk hK1 ?_
 refine cx_seq' fun K2 hK2 => ?_
 refine cx_plan' [] [(6, 1)] [(0, 1), (1, 1), (3, 1), (4, 1), (2, 0), (5, 1), (6, 0)] mixed (by kernel_rfl) ?_
 refine px_rd' rfl (rd_field0' rfl Tryz.underlying50 rfl info48 rfl) rfl rfl (wt_none' rfl) ?_
 refine px_rd' rfl (rd_load_agg' (i := 1) (o := 0) (nn := 2) rfl ⟨rfl, rfl, rfl, rfl⟩ rfl agg48 (l' := [(Vb a0_0), (Sl (Ki .u32) a0_1)]) rfl) rfl rfl (wt_none' rfl) ?_
 refine px_rd' rfl (rd_field' (off := 2) rfl Tryz.underlying50 rfl info3 rfl) rfl rfl (wt_none' rfl) ?_
 refine px_rd' rfl (rd_load' (i := 1) (o := 2) rfl ⟨rfl, rfl, rfl, rfl⟩ rfl flat3) rfl rfl (wt_none' rfl) ?_
 obtain ⟨r5, hr5, hp⟩ := bind_some hp
 refine px_ox' rfl (ox_calln' (ent_fn' Tryz.func92 isn92 rfl rfl) (spec_Whole_Minus_sim _ _ hr5 : Sx.Fn Tryz.prog 92 [(Ag [(Vb a0_0), (Sl (Ki .u32) a0_1)])] [] (fun x : Unit => (Ag [(Vb r5.1), (Sl (Ki .u32) r5.2)])) (fun x => [])) (Hn := fun x : Unit => [⟨.pointer (some q2), [(Vb false), Vn, (Vi 0)], 50, none⟩, ⟨.pointer (some q1), [(Vb a0_0), (Sl (Ki .u32) a0_1), (Vi a0_2)], 50, none⟩]) (fun _ => rfl) rfl rfl) rfl bs_nil (wt_none' rfl) fun ⟨⟩ => ?_
 refine px_rd' rfl (rd_build' (pls := [(0, 2), (2, 1)]) (qs := [(0, [(Vb r5.1), (Sl (Ki .u32) r5.2)]), (1, [(Vi a0_2)])]) (r := [(Vb r5.1), (Sl (Ki .u32) r5.2), (Vi a0_2)]) ⟨rfl, ⟨_, rfl, (lv_ag _)⟩, ⟨rfl, ⟨_, rfl, (lv_vl rfl rfl)⟩, trivial⟩⟩ Tryz.underlying50 has50 places50 info50 rfl rfl rfl) rfl rfl (wt_none' rfl) ?_
 refine px_oxv' rfl (oxv_store (i := 0) (o := 0) rfl rfl (lv_ag _) ⟨rfl, rfl, rfl, rfl⟩ rfl info50 rfl (H' := [⟨.pointer (some q2), [(Vb r5.1), (Sl (Ki .u32) r5.2), (Vi a0_2)], 50, none⟩, ⟨.pointer (some q1), [(Vb a0_0), (Sl (Ki .u32) a0_1), (Vi a0_2)], 50, none⟩]) rfl) rfl rfl bo_nil (wt_none' rfl) fun _ => ?_
 refine px_nil' ?_
 show TX E K2 _
 refine tx_k' hK2 ?_
 refine cx_retc' ?_
 replace hp := Option.some.inj hp
 subst hp
 refine tx_pick' (L' := [(2, (Vp q2))]) (H' := [⟨.pointer (some q2), [(Vb r5.1), (Sl (Ki .u32) r5.2), (Vi a0_2)], 50, none⟩]) [0] (sub_cons rfl sub_nil) (by decide) (pick_cons rfl pick_nil) ?_
 exact tx_ret1' Tryz.results81 rfl () (rv_cell_agg' (i := 0) (o := 0) (nn := 3) rfl ⟨rfl, rfl, rfl, rfl⟩ rfl agg50 rfl) (List.nil_sublist _)

def spec_Whole_Sign (k : Nat) (a0_0 : Bool) (a0_1 : List Int) : Option (Int) :=
 br (decide ((a0_1.length : Int) = 0))
  (some 0)
  (br a0_0
   (some (-1))
   (some 1))

theorem spec_Whole_Sign_sim {k : Nat}  (a0_0 : Bool) (a0_1 : List Int) {out : Int} (hp : spec_Whole_Sign k a0_0 a0_1 = some out) : Sx.Fn Tryz.prog 66 [(Ag [(Vb a0_0), (Sl (Ki .u32) a0_1)])] [] (fun w : Unit => (Vi out)) (fun w => []) := by
 unfold spec_Whole_Sign at hp
 refine fn_of Tryz.func66 rfl Tryz.ntmps66 rfl fun E hM => ?_
 refine cr fun K1 hK1 => ?_
 refine sx_ox' (ox_box' rfl (lv_ag _) rfl rfl) (wt_none' rfl) fun q1 => ?_
 refine s0 (rd_assign' rfl) ?_
 refine nk hK1 ?_
 refine cx_seq' fun K2 hK2 => ?_
 refine cx_block' ?_
 refine cr fun K3 hK3 => ?_
 refine s0 (rd_field' (off := 1) rfl Tryz.underlying48 rfl info46 rfl) ?_
 refine s0 (rd_load' (i := 0) (o := 1) rfl ⟨rfl, rfl, rfl, rfl⟩ rfl flat46) ?_
 refine s0 (rd_len' rfl Tryz.underlying46) ?_
 refine s0 (rd_bin' rfl rfl eg_int ru_eql) ?_
 refine s0 (rd_assign' rfl) ?_
 refine nk hK3 ?_
 refine cx_cond' rfl (fun h1 => ?_) (fun h1 => ?_)
 ·replace hp := (br_t h1).symm.trans hp
  refine cr fun K4 hK4 => ?_
  refine s0 (rd_assign' rfl) ?_
  refine nk hK4 ?_
  refine cx_retc' ?_
  replace hp := Option.some.inj hp
  subst hp
  refine tx_pick' (L' := [(2, (Vi 0))]) (H' := []) [] (sub_cons rfl sub_nil) (by decide) pick_nil ?_
  exact tx_ret1' Tryz.results66 rfl () (rv_tmp' rfl) (List.Sublist.refl _)
 replace hp := (br_f h1).symm.trans hp
 refine cr fun K5 hK5 => ?_
 refine s0 (rd_field0' rfl Tryz.underlying48 rfl info4 rfl) ?_
 refine s0 (rd_load' (i := 0) (o := 0) rfl ⟨rfl, rfl, rfl, rfl⟩ rfl flat4) ?_
 refine s0 (rd_assign' rfl) ?_
 refine nk hK5 ?_
 refine cx_cond' rfl (fun h2 => ?_) (fun h2 => ?_)
 ·replace hp := (br_t h2).symm.trans hp
  refine cr fun K6 hK6 => ?_
  refine s0 (rd_assign' rfl) ?_
  refine nk hK6 ?_
  refine cx_retc' ?_
  replace hp := Option.some.inj hp
  subst hp
  refine tx_pick' (L' := [(2, (Vi (-1)))]) (H' := []) [] (sub_cons rfl sub_nil) (by decide) pick_nil ?_
  exact tx_ret1' Tryz.results66 rfl () (rv_tmp' rfl) (List.Sublist.refl _)
 replace hp := (br_f h2).symm.trans hp
 refine cx_skip' ?_
 show TX E K2 _
 refine tx_k' hK2 ?_
 refine cr fun K7 hK7 => ?_
 refine s0 (rd_assign' rfl) ?_
 refine nk hK7 ?_
 refine cx_retc' ?_
 replace hp := Option.some.inj hp
 subst hp
 refine tx_pick' (L' := [(2, (Vi 1))]) (H' := []) [] (sub_cons rfl sub_nil) (by decide) pick_nil ?_
 exact tx_ret1' Tryz.results66 rfl () (rv_tmp' rfl) (List.Sublist.refl _)

def spec_Dyadic_Sign (k : Nat) (a0_0 : Bool) (a0_1 : List Int) (a0_2 : Int) : Option (Int) :=
 (spec_Whole_Sign k a0_0 a0_1) >>= fun r5 =>
 some r5

theorem spec_Dyadic_Sign_sim {k : Nat}  (a0_0 : Bool) (a0_1 : List Int) (a0_2 : Int) {out : Int} (hp : spec_Dyadic_Sign k a0_0 a0_1 a0_2 = some out) : Sx.Fn Tryz.prog 29 [(Ag [(Vb a0_0), (Sl (Ki .u32) a0_1), (Vi a0_2)])] [] (fun w : Unit => (Vi out)) (fun w => []) := by
 unfold spec_Dyadic_Sign at hp
 refine fn_of Tryz.func29 rfl Tryz.ntmps29 rfl fun E hM => ?_
 refine cr fun K1 hK1 => ?_
 refine sx_ox' (ox_box' rfl (lv_ag _) rfl rfl) (wt_none' rfl) fun q1 => ?_
 refine s0 (rd_assign' rfl) ?_
 refine nk hK1 ?_
 refine cr fun K2 hK2 => ?_
 refine s0 (rd_field0' rfl Tryz.underlying50 rfl info48 rfl) ?_
 refine s0 (rd_load_agg' (i := 0) (o := 0) (nn := 2) rfl ⟨rfl, rfl, rfl, rfl⟩ rfl agg48 (l' := [(Vb a0_0), (Sl (Ki .u32) a0_1)]) rfl) ?_
 obtain ⟨r5, hr5, hp⟩ := bind_some hp
 refine sx_ox' (ox_calln' (ent_fn' Tryz.func66 isn66 rfl rfl) (spec_Whole_Sign_sim _ _ hr5 : Sx.Fn Tryz.prog 66 [(Ag [(Vb a0_0), (Sl (Ki .u32) a0_1)])] [] (fun x : Unit => (Vi r5)) (fun x => [])) (Hn := fun x : Unit => [⟨.pointer (some q1), [(Vb a0_0), (Sl (Ki .u32) a0_1), (Vi a0_2)], 50, none⟩]) (fun _ => rfl) rfl rfl) (wt_none' rfl) fun ⟨⟩ => ?_
 refine s0 (rd_assign' rfl) ?_
 refine nk hK2 ?_
 refine cx_retc' ?_
 replace hp := Option.some.inj hp
 subst hp
 refine tx_pick' (L' := [(2, (Vi r5))]) (H' := []) [] (sub_cons rfl sub_nil) (by decide) pick_nil ?_
 exact tx_ret1' Tryz.results29 rfl () (rv_tmp' rfl) (List.Sublist.refl _)

def spec_Whole_Up_l1s (a0_1 : List Int) (a1 : Int) (k : Nat) (rec1 : ((List Int) × Int × Int) → Option ((List Int) × Int)) (x1 : List Int) (x2 : Int) (x3 : Int) : Option ((List Int) × Int) :=
 br (decide (x3 < (a0_1.length : Int)))
  ((idx a0_1 x3) >>= fun r30 =>
  (irem a1 32) >>= fun r35 =>
  (ishl .u64 (icv .u64 r30) r35) >>= fun r36 =>
  (apd 4 x1 ([ior .u32 (icv .u32 r36) x2])) >>= fun r43 =>
  (ishr .u64 r36 32) >>= fun r45 =>
  rec1 (r43, (icv .u32 r45), (iadd .i64 x3 1)))
  (some (x1, x2))
def spec_Whole_Up_l1 (a0_1 : List Int) (a1 : Int) : Nat → ((List Int) × Int × Int) → Option ((List Int) × Int)
 | 0, _ => none
 | k + 1, v => spec_Whole_Up_l1s a0_1 a1 k (spec_Whole_Up_l1 a0_1 a1 k) v.1 v.2.1 v.2.2
def spec_Whole_Up (k : Nat) (a0_0 : Bool) (a0_1 : List Int) (a1 : Int) : Option (Bool × (List Int)) :=
 br (decide ((a0_1.length : Int) = 0))
  (some (a0_0, a0_1))
  ((iquo .i64 a1 32) >>= fun r16 =>
  (iquo .i64 a1 32) >>= fun r18 =>
  (mk 4 0 r16 (iadd .i64 (iadd .i64 r18 (a0_1.length : Int)) 1)) >>= fun r24 =>
  (spec_Whole_Up_l1 a0_1 a1 k (r24, 0, 0)) >>= fun v2 =>
  (apd 4 v2.1 ([v2.2])) >>= fun r53 =>
  (spec_trim k r53) >>= fun r54 =>
  some (a0_0, r54))

theorem spec_Whole_Up_sim {k : Nat}  (a0_0 : Bool) (a0_1 : List Int) (a1 : Int) {out : Bool × (List Int)} (hp : spec_Whole_Up k a0_0 a0_1 a1 = some out) : Sx.Fn Tryz.prog 34 [(Ag [(Vb a0_0), (Sl (Ki .u32) a0_1)]), (Vi a1)] [] (fun w : Unit => (Ag [(Vb out.1), (Sl (Ki .u32) out.2)])) (fun w => []) := by
 unfold spec_Whole_Up at hp
 refine fn_of Tryz.func34 rfl Tryz.ntmps34 rfl fun E hM => ?_
 refine cr fun K1 hK1 => ?_
 refine sx_ox' (ox_box' rfl (lv_ag _) rfl rfl) (wt_none' rfl) fun q2 => ?_
 refine sx_ox' (ox_alloc' info48 rfl rfl rfl rfl (l := [(Vb false), Vn]) rfl) (wt_none' rfl) fun q4 => ?_
 refine nk hK1 ?_
 refine cx_seq' fun K2 hK2 => ?_
 refine cr fun K3 hK3 => ?_
 refine s0 (rd_field' (off := 1) rfl Tryz.underlying48 rfl info46 rfl) ?_
 refine s0 (rd_load' (i := 1) (o := 1) rfl ⟨rfl, rfl, rfl, rfl⟩ rfl flat46) ?_
 refine s0 (rd_len' rfl Tryz.underlying46) ?_
 refine s0 (rd_bin' rfl rfl eg_int ru_eql) ?_
 refine nk hK3 ?_
 refine cx_cond' rfl (fun h1 => ?_) (fun h1 => ?_)
 ·replace hp := (br_t h1).symm.trans hp
  refine cr fun K4 hK4 => ?_
  refine s0 (rd_load_agg' (i := 1) (o := 0) (nn := 2) rfl ⟨rfl, rfl, rfl, rfl⟩ rfl agg48 (l' := [(Vb a0_0), (Sl (Ki .u32) a0_1)]) rfl) ?_
  refine sx_ox' (ox_store' (i := 0) (o := 0) rfl rfl (lv_ag _) ⟨rfl, rfl, rfl, rfl⟩ rfl info48 rfl (H' := [⟨.pointer (some q4), [(Vb a0_0), (Sl (Ki .u32) a0_1)], 48, none⟩, ⟨.pointer (some q2), [(Vb a0_0), (Sl (Ki .u32) a0_1)], 48, none⟩]) rfl) (wt_none' rfl) fun _ => ?_
  refine nk hK4 ?_
  refine cx_retc' ?_
  replace hp := Option.some.inj hp
  subst hp
  refine tx_pick' (L' := [(4, (Vp q4))]) (H' := [⟨.pointer (some q4), [(Vb a0_0), (Sl (Ki .u32) a0_1)], 48, none⟩]) [0] (sub_cons rfl sub_nil) (by decide) (pick_cons rfl pick_nil) ?_
  exact tx_ret1' Tryz.results34 rfl () (rv_cell_agg' (i := 0) (o := 0) (nn := 2) rfl ⟨rfl, rfl, rfl, rfl⟩ rfl agg48 rfl) (List.nil_sublist _)
 replace hp := (br_f h1).symm.trans hp
 refine cx_skip' ?_
 show TX E K2 _
 refine tx_k' hK2 ?_
 refine cr fun K5 hK5 => ?_
 refine s0 (rd_move' rfl) ?_
 obtain ⟨r16, hr16, hp⟩ := bind_some hp
 refine s0 (rd_bin' rfl rfl eg_int (ru_quo hr16)) ?_
 refine s0 (rd_move' rfl) ?_
 obtain ⟨r18, hr18, hp⟩ := bind_some hp
 refine s0 (rd_bin' rfl rfl eg_int (ru_quo hr18)) ?_
 refine s0 (rd_field' (off := 1) rfl Tryz.underlying48 rfl info46 rfl) ?_
 refine s0 (rd_load' (i := 1) (o := 1) rfl ⟨rfl, rfl, rfl, rfl⟩ rfl flat46) ?_
 refine s0 (rd_len' rfl Tryz.underlying46) ?_
 refine s0 (rd_bin' rfl rfl eg_int ru_add) ?_
 refine s0 (rd_bin' rfl rfl eg_int ru_add) ?_
 obtain ⟨r24, hr24, hp⟩ := bind_some hp
 refine sx_ox' (ox_make' (K := (Ki .u32)) rfl rfl hr24 rfl Tryz.underlying46 info126 rfl rfl rfl rfl rfl) (wt_none' rfl) fun g24 => ?_
 refine s0 (rd_assign' rfl) ?_
 refine nk hK5 ?_
 refine cr fun K6 hK6 => ?_
 refine s0 (rd_assign' rfl) ?_
 refine nk hK6 ?_
 refine cx_seq' fun K7 hK7 => ?_
 refine cr fun K8 hK8 => ?_
 refine s0 (rd_field' (off := 1) rfl Tryz.underlying48 rfl info46 rfl) ?_
 refine s0 (rd_load' (i := 2) (o := 1) rfl ⟨rfl, rfl, rfl, rfl⟩ rfl flat46) ?_
 refine s0 (rd_len' rfl Tryz.underlying46) ?_
 refine s0 (rd_move' rfl) ?_
 refine nk hK8 ?_
 refine cx_block' ?_
 obtain ⟨v2, hy1, hp⟩ := bind_some hp
 refine cx_loopg' (F := spec_Whole_Up_l1 a0_1 a1) (G := fun k R v => spec_Whole_Up_l1s a0_1 a1 k R v.1 v.2.1 v.2.2) (x := (r24, 0, 0)) (gh := g24) (fun (v1 : (List Int) × Int × Int) (w1 : Gs) => (⟨56, [], [(1, (Vi a1)), (2, (Vp q2)), (4, (Vp q4)), (5, (Vl (Vs w1))), (6, (Vl (.int .u32 v1.2.1))), (26, (Sl (Ki .u32) a0_1)), (27, (Vi (a0_1.length : Int))), (28, (Vi v1.2.2))], [⟨.pointer (some q2), [(Vb a0_0), (Sl (Ki .u32) a0_1)], 48, none⟩, ⟨.pointer (some q4), [(Vb false), Vn], 48, none⟩, (Rw (Ki .u32) 126 (Vs w1) v1.1)]⟩ : St)) (fun (v2 : (List Int) × Int) => Zg E (Exit.exit 0) (fun (w2 : Gs) => (⟨56, [], [(2, (Vp q2)), (4, (Vp q4)), (5, (Vl (Vs w2))), (6, (Vl (.int .u32 v2.2)))], [⟨.pointer (some q2), [(Vb a0_0), (Sl (Ki .u32) a0_1)], 48, none⟩, ⟨.pointer (some q4), [(Vb false), Vn], 48, none⟩, (Rw (Ki .u32) 126 (Vs w2) v2.1)]⟩ : St))) (fun _ => rfl) (fun _ _ => rfl) ?_ hy1 (tx_to' rfl [2, 1, 0] (sub_cons rfl (sub_cons rfl (sub_cons rfl (sub_cons rfl (sub_cons rfl (sub_cons rfl (sub_cons rfl (sub_cons rfl sub_nil)))))))) (by decide) (pick_cons rfl (pick_cons rfl (pick_cons rfl pick_nil)))) ?_
 ·clear hp hy1
  clear v2
  intro k rec1 KY1 ih1
  rintro ⟨x1, x2, x3⟩ g901 y1 hp
  replace hp : spec_Whole_Up_l1s a0_1 a1 k rec1 x1 x2 x3 = some y1 := hp
  unfold spec_Whole_Up_l1s at hp
  refine cr fun K15 hK15 => ?_
  refine s0 (rd_bin' rfl rfl eg_int ru_lss) ?_
  refine nk hK15 ?_
  refine cx_seq' fun K16 hK16 => ?_
  refine cx_cond' rfl (fun h4 => ?_) (fun h4 => ?_)
  ·replace hp := (br_t h4).symm.trans hp
   refine cx_skip' ?_
   show TX E K16 _
   refine tx_k' hK16 ?_
   refine cx_seq' fun K17 hK17 => ?_
   refine cx_block' ?_
   refine cr fun K18 hK18 => ?_
   obtain ⟨r30, hr30, hp⟩ := bind_some hp
   refine s0 (rd_at' (K := (Ki .u32)) rfl rfl hr30 Tryz.underlying46 info126) ?_
   refine s0 (rd_load_pt' rfl rfl flat126) ?_
   refine s0 (rd_assign' rfl) ?_
   refine nk hK18 ?_
   refine cr fun K19 hK19 => ?_
   refine s0 (rd_move' rfl) ?_
   refine s0 (rd_conv' rfl (ru_i2i (by rw [Tryz.underlying126]; rfl) Tryz.underlying77)) ?_
   refine s0 (rd_move' rfl) ?_
   obtain ⟨r35, hr35, hp⟩ := bind_some hp
   refine s0 (rd_bin' rfl rfl eg_int (ru_rem hr35)) ?_
   obtain ⟨r36, hr36, hp⟩ := bind_some hp
   refine s0 (rd_bin' rfl rfl eg_int (ru_shl hr36)) ?_
   refine s0 (rd_assign' rfl) ?_
   refine nk hK19 ?_
   refine cr fun K20 hK20 => ?_
   refine s0 (rd_move' rfl) ?_
   refine s0 (rd_move' rfl) ?_
   refine s0 (rd_conv' rfl (ru_i2i (by rw [Tryz.underlying77]; rfl) Tryz.underlying126)) ?_
   refine s0 (rd_move' rfl) ?_
   refine s0 (rd_bin' rfl rfl eg_int ru_or) ?_
   refine sx_ox' (ox_rowlit' (K := (Ki .u32)) (xs := [ior .u32 (icv .u32 r36) x2]) (qs := [(0, [(Vl (.int .u32 (ior .u32 (icv .u32 r36) x2)))])]) ⟨rfl, ⟨_, rfl, (lv_vl rfl rfl)⟩, trivial⟩ Tryz.underlying46 info126 rfl rfl rfl rfl rfl (by kernel_rfl) rfl rfl rfl) (wt_none' rfl) fun g42 => ?_
   obtain ⟨r43, hr43, hp⟩ := bind_some hp
   refine sx_ox' (ox_append' (K := (Ki .u32)) (i := 3) (xs := x1) (ys := ([ior .u32 (icv .u32 r36) x2])) rfl rfl rfl (sr_row' (j := 0) rfl rfl rfl Tryz.underlying46) hr43 Tryz.underlying46 info126 rfl rfl rfl (H' := [(Rw (Ki .u32) 126 (Vs g42) ([ior .u32 (icv .u32 r36) x2])), ⟨.pointer (some q2), [(Vb a0_0), (Sl (Ki .u32) a0_1)], 48, none⟩, ⟨.pointer (some q4), [(Vb false), Vn], 48, none⟩]) rfl) (wt_none' rfl) fun g43 => ?_
   refine s0 (rd_assign' rfl) ?_
   refine nk hK20 ?_
   refine cx_region' ?_
   refine s0 (rd_move' rfl) ?_
   obtain ⟨r45, hr45, hp⟩ := bind_some hp
   refine s0 (rd_bin' rfl rfl eg_int (ru_shr hr45)) ?_
   refine s0 (rd_conv' rfl (ru_i2i (by rw [Tryz.underlying77]; rfl) Tryz.underlying126)) ?_
   refine s0 (rd_assign' rfl) ?_
   refine nk hK17 ?_
   refine cx_region' ?_
   refine s0 (rd_bin' rfl rfl eg_int ru_add) ?_
   refine s0 (rd_move' rfl) ?_
   refine sx_nil' ?_
   show TX E (KY1 _) _
   exact tx_pick' [2, 3, 0] (sub_cons rfl (sub_cons rfl (sub_cons rfl (sub_cons rfl (sub_cons rfl (sub_cons rfl (sub_cons rfl (sub_cons rfl sub_nil)))))))) (by decide) (pick_cons rfl (pick_cons rfl (pick_cons rfl pick_nil))) (ih1 (r43, (icv .u32 r45), (iadd .i64 x3 1)) g43 _ hp)
  replace hp := (br_f h4).symm.trans hp
  refine cx_exit' ?_
  replace hp := Option.some.inj hp
  subst hp
  show TX E (Zg E (Exit.exit 0) _ (Exit.exit 0)) _
  exact tx_zend' g901 rfl [0, 1, 2] (sub_cons rfl (sub_cons rfl (sub_cons rfl (sub_cons rfl sub_nil)))) (by decide) (pick_cons rfl (pick_cons rfl (pick_cons rfl pick_nil)))
 refine zg_out fun w2 => ?_
 show TX E K7 _
 refine tx_k' hK7 ?_
 refine cx_seq' fun K21 hK21 => ?_
 refine cx_plan' [q2.block] [(5, 1), (8, 1)] [(0, 2), (1, 2), (2, 1), (3, 1), (4, 0), (5, 0), (6, 0), (7, 1), (8, 0)] mixed (by kernel_rfl) ?_
 refine px_rb' rfl (rb_field0' rfl Tryz.underlying48 rfl info4 rfl) rfl rfl (wt_none' rfl) ?_
 refine px_rb' rfl (rb_load' (i := 0) (o := 0) rfl ⟨rfl, rfl, rfl, rfl⟩ rfl flat4 (by simp)) rfl rfl (wt_none' rfl) ?_
 refine px_rd' rfl (rd_move' rfl) rfl rfl (wt_none' rfl) ?_
 refine px_rd' rfl (rd_move' rfl) rfl rfl (wt_none' rfl) ?_
 refine px_ox' rfl (ox_rowlit' (K := (Ki .u32)) (xs := [v2.2]) (qs := [(0, [(Vl (.int .u32 v2.2))])]) ⟨rfl, ⟨_, rfl, (lv_vl rfl rfl)⟩, trivial⟩ Tryz.underlying46 info126 rfl rfl rfl rfl rfl (by kernel_rfl) rfl rfl rfl) rfl (bs_cons (m := 0) rfl rfl rfl bs_nil) (wt_none' rfl) fun g52 => ?_
 obtain ⟨r53, hr53, hp⟩ := bind_some hp
 refine px_ox' rfl (ox_append' (K := (Ki .u32)) (i := 3) (xs := v2.1) (ys := ([v2.2])) rfl rfl rfl (sr_row' (j := 0) rfl rfl rfl Tryz.underlying46) hr53 Tryz.underlying46 info126 rfl rfl rfl (H' := [(Rw (Ki .u32) 126 (Vs g52) ([v2.2])), ⟨.pointer (some q2), [(Vb a0_0), (Sl (Ki .u32) a0_1)], 48, none⟩, ⟨.pointer (some q4), [(Vb false), Vn], 48, none⟩]) rfl) rfl (bs_cons (m := 1) rfl rfl rfl bs_nil) (wt_none' rfl) fun g53 => ?_
 refine tx_fz' (frz_row 0 [(53, (Vl (Vs g53)), (Sl (Ki .u32) r53))] (K := (Ki .u32)) (xs := r53) (by decide) rfl ⟨⟨rfl, frz_it⟩, trivial⟩ (H' := [(Rw (Ki .u32) 126 (Vs g52) ([v2.2])), ⟨.pointer (some q2), [(Vb a0_0), (Sl (Ki .u32) a0_1)], 48, none⟩, ⟨.pointer (some q4), [(Vb false), Vn], 48, none⟩]) frzH_refl) ?_
 obtain ⟨r54, hr54, hp⟩ := bind_some hp
 refine px_ox' rfl (ox_calln' (ent_fn' Tryz.func69 isn69 rfl rfl) (spec_trim_sim _ hr54 : Sx.Fn Tryz.prog 69 [(Sl (Ki .u32) r53)] [] (fun x : Unit => (Sl (Ki .u32) r54)) (fun x => [])) (Hn := fun x : Unit => [(Rw (Ki .u32) 126 (Vs g52) ([v2.2])), ⟨.pointer (some q2), [(Vb a0_0), (Sl (Ki .u32) a0_1)], 48, none⟩, ⟨.pointer (some q4), [(Vb false), Vn], 48, none⟩]) (fun _ => rfl) rfl rfl) rfl (bs_cons (m := 1) rfl rfl rfl bs_nil) (wt_none' rfl) fun ⟨⟩ => ?_
 refine px_rd' rfl (rd_build' (pls := [(0, 1), (1, 1)]) (qs := [(0, [(Vb a0_0)]), (1, [(Sl (Ki .u32) r54)])]) (r := [(Vb a0_0), (Sl (Ki .u32) r54)]) ⟨rfl, ⟨_, rfl, (lv_vl rfl rfl)⟩, ⟨rfl, ⟨_, rfl, (lv_sl _ _)⟩, trivial⟩⟩ Tryz.underlying48 has48 places48 info48 rfl rfl rfl) rfl rfl (wt_none' rfl) ?_
 refine px_oxv' rfl (oxv_store (i := 2) (o := 0) rfl rfl (lv_ag _) ⟨rfl, rfl, rfl, rfl⟩ rfl info48 rfl (H' := [(Rw (Ki .u32) 126 (Vs g52) ([v2.2])), ⟨.pointer (some q2), [(Vb a0_0), (Sl (Ki .u32) a0_1)], 48, none⟩, ⟨.pointer (some q4), [(Vb a0_0), (Sl (Ki .u32) r54)], 48, none⟩]) rfl) rfl rfl (bo_cons (m := 1) (by decide) rfl rfl bo_nil) (wt_none' rfl) fun _ => ?_
 refine px_nil' ?_
 show TX E K21 _
 refine tx_k' hK21 ?_
 refine cx_retc' ?_
 replace hp := Option.some.inj hp
 subst hp
 refine tx_pick' (L' := [(4, (Vp q4))]) (H' := [⟨.pointer (some q4), [(Vb a0_0), (Sl (Ki .u32) r54)], 48, none⟩]) [2] (sub_cons rfl sub_nil) (by decide) (pick_cons rfl pick_nil) ?_
 exact tx_ret1' Tryz.results34 rfl () (rv_cell_agg' (i := 0) (o := 0) (nn := 2) rfl ⟨rfl, rfl, rfl, rfl⟩ rfl agg48 rfl) (List.nil_sublist _)

def spec_addLimbs_j3 (k : Nat) (x5 : List Int) (rec1 : ((List Int) × Int × Int) → Option ((List Int) × Int)) (x7 : Int) (x4 : Int) : Option ((List Int) × Int) :=
 (apd 4 x5 ([icv .u32 x4])) >>= fun r47 =>
 (ishr .u64 x4 32) >>= fun r49 =>
 rec1 (r47, r49, (iadd .i64 x7 1))
def spec_addLimbs_l1s (x1 : List Int) (x2 : List Int) (k : Nat) (rec1 : ((List Int) × Int × Int) → Option ((List Int) × Int)) (x5 : List Int) (x6 : Int) (x7 : Int) : Option ((List Int) × Int) :=
 br (decide (x7 < (x1.length : Int)))
  ((idx x1 x7) >>= fun r26 =>
  br (decide (x7 < (x2.length : Int)))
   ((idx x2 x7) >>= fun r39 =>
   spec_addLimbs_j3 k x5 rec1 x7 (iadd .u64 (iadd .u64 (icv .u64 r26) x6) (icv .u64 r39)))
   (spec_addLimbs_j3 k x5 rec1 x7 (iadd .u64 (icv .u64 r26) x6)))
  (some (x5, x6))
def spec_addLimbs_l1 (x1 : List Int) (x2 : List Int) : Nat → ((List Int) × Int × Int) → Option ((List Int) × Int)
 | 0, _ => none
 | k + 1, v => spec_addLimbs_l1s x1 x2 k (spec_addLimbs_l1 x1 x2 k) v.1 v.2.1 v.2.2
def spec_addLimbs_j1 (k : Nat) (x1 : List Int) (x2 : List Int) : Option ((List Int)) :=
 (mk 4 0 0 (iadd .i64 (x1.length : Int) 1)) >>= fun r20 =>
 (spec_addLimbs_l1 x1 x2 k (r20, 0, 0)) >>= fun v5 =>
 (apd 4 v5.1 ([icv .u32 v5.2])) >>= fun r55 =>
 (spec_trim k r55) >>= fun r56 =>
 some r56
def spec_addLimbs (k : Nat) (a0 : List Int) (a1 : List Int) : Option ((List Int)) :=
 br (decide ((a0.length : Int) < (a1.length : Int)))
  (spec_addLimbs_j1 k a1 a0)
  (spec_addLimbs_j1 k a0 a1)

theorem spec_addLimbs_sim {k : Nat}  (a0 : List Int) (a1 : List Int) {out : (List Int)} (hp : spec_addLimbs k a0 a1 = some out) : Sx.Fn Tryz.prog 70 [(Sl (Ki .u32) a0), (Sl (Ki .u32) a1)] [] (fun w : Unit => (Sl (Ki .u32) out)) (fun w => []) := by
 unfold spec_addLimbs at hp
 refine fn_of Tryz.func70 rfl Tryz.ntmps70 rfl fun E hM => ?_
 refine cr fun K1 hK1 => ?_
 refine s0 (rd_assign' rfl) ?_
 refine nk hK1 ?_
 refine cx_join' (fun (v1 : (List Int) × (List Int)) => (⟨57, [], [(0, (Sl (Ki .u32) v1.1)), (1, (Sl (Ki .u32) v1.2))], []⟩ : St)) (fun (v1 : (List Int) × (List Int)) => spec_addLimbs_j1 k v1.1 v1.2 = some out) ?_ ?_
 ·rintro ⟨x1, x2⟩ hp
  replace hp : spec_addLimbs_j1 k x1 x2 = some out := hp
  unfold spec_addLimbs_j1 at hp
  refine cr fun K4 hK4 => ?_
  refine s0 (rd_move' rfl) ?_
  refine s0 (rd_len' rfl Tryz.underlying46) ?_
  refine s0 (rd_bin' rfl rfl eg_int ru_add) ?_
  obtain ⟨r20, hr20, hp⟩ := bind_some hp
  refine sx_ox' (ox_make' (K := (Ki .u32)) rfl rfl hr20 rfl Tryz.underlying46 info126 rfl rfl rfl rfl rfl) (wt_none' rfl) fun g20 => ?_
  refine s0 (rd_assign' rfl) ?_
  refine nk hK4 ?_
  refine cr fun K5 hK5 => ?_
  refine s0 (rd_assign' rfl) ?_
  refine nk hK5 ?_
  refine cx_seq' fun K6 hK6 => ?_
  refine cr fun K7 hK7 => ?_
  refine s0 (rd_move' rfl) ?_
  refine s0 (rd_len' rfl Tryz.underlying46) ?_
  refine s0 (rd_move' rfl) ?_
  refine nk hK7 ?_
  refine cx_block' ?_
  obtain ⟨v5, hy1, hp⟩ := bind_some hp
  refine cx_loopg' (F := spec_addLimbs_l1 x1 x2) (G := fun k R v => spec_addLimbs_l1s x1 x2 k R v.1 v.2.1 v.2.2) (x := (r20, 0, 0)) (gh := g20) (fun (v3 : (List Int) × Int × Int) (w3 : Gs) => (⟨57, [], [(1, (Sl (Ki .u32) x2)), (5, (Vl (Vs w3))), (6, (Vl (.int .u64 v3.2.1))), (21, (Sl (Ki .u32) x1)), (22, (Vi (x1.length : Int))), (23, (Vi v3.2.2))], [(Rw (Ki .u32) 126 (Vs w3) v3.1)]⟩ : St)) (fun (v5 : (List Int) × Int) => Zg E (Exit.exit 0) (fun (w5 : Gs) => (⟨57, [], [(5, (Vl (Vs w5))), (6, (Vl (.int .u64 v5.2)))], [(Rw (Ki .u32) 126 (Vs w5) v5.1)]⟩ : St))) (fun _ => rfl) (fun _ _ => rfl) ?_ hy1 (tx_to' rfl [0] (sub_cons rfl (sub_cons rfl (sub_cons rfl (sub_cons rfl (sub_cons rfl (sub_cons rfl sub_nil)))))) (by decide) (pick_cons rfl pick_nil)) ?_
  ·clear hp hy1
   clear v5
   intro k rec1 KY1 ih1
   rintro ⟨x5, x6, x7⟩ g901 y1 hp
   replace hp : spec_addLimbs_l1s x1 x2 k rec1 x5 x6 x7 = some y1 := hp
   unfold spec_addLimbs_l1s at hp
   refine cr fun K16 hK16 => ?_
   refine s0 (rd_bin' rfl rfl eg_int ru_lss) ?_
   refine nk hK16 ?_
   refine cx_seq' fun K17 hK17 => ?_
   refine cx_cond' rfl (fun h5 => ?_) (fun h5 => ?_)
   ·replace hp := (br_t h5).symm.trans hp
    refine cx_skip' ?_
    show TX E K17 _
    refine tx_k' hK17 ?_
    refine cx_seq' fun K18 hK18 => ?_
    refine cx_block' ?_
    refine cr fun K19 hK19 => ?_
    refine s0 (rd_move' rfl) ?_
    obtain ⟨r26, hr26, hp⟩ := bind_some hp
    refine s0 (rd_at' (K := (Ki .u32)) rfl rfl hr26 Tryz.underlying46 info126) ?_
    refine s0 (rd_load_pt' rfl rfl flat126) ?_
    refine s0 (rd_assign' rfl) ?_
    refine s0 (rd_assign' rfl) ?_
    refine nk hK19 ?_
    refine cr fun K20 hK20 => ?_
    refine s0 (rd_move' rfl) ?_
    refine s0 (rd_conv' rfl (ru_i2i (by rw [Tryz.underlying126]; rfl) Tryz.underlying77)) ?_
    refine s0 (rd_move' rfl) ?_
    refine s0 (rd_bin' rfl rfl eg_int ru_add) ?_
    refine s0 (rd_assign' rfl) ?_
    refine nk hK20 ?_
    refine cx_join' (fun (v4 : Int) => (⟨57, [], [(1, (Sl (Ki .u32) x2)), (5, (Vl (Vs g901))), (9, (Vl (.int .u64 v4))), (21, (Sl (Ki .u32) x1)), (22, (Vi (x1.length : Int))), (23, (Vi x7))], [(Rw (Ki .u32) 126 (Vs g901) x5)]⟩ : St)) (fun (v4 : Int) => spec_addLimbs_j3 k x5 rec1 x7 v4 = some y1) ?_ ?_
    ·rintro x4 hp
     replace hp : spec_addLimbs_j3 k x5 rec1 x7 x4 = some y1 := hp
     unfold spec_addLimbs_j3 at hp
     refine cr fun K23 hK23 => ?_
     refine s0 (rd_move' rfl) ?_
     refine s0 (rd_move' rfl) ?_
     refine s0 (rd_conv' rfl (ru_i2i (by rw [Tryz.underlying77]; rfl) Tryz.underlying126)) ?_
     refine sx_ox' (ox_rowlit' (K := (Ki .u32)) (xs := [icv .u32 x4]) (qs := [(0, [(Vl (.int .u32 (icv .u32 x4)))])]) ⟨rfl, ⟨_, rfl, (lv_vl rfl rfl)⟩, trivial⟩ Tryz.underlying46 info126 rfl rfl rfl rfl rfl (by kernel_rfl) rfl rfl rfl) (wt_none' rfl) fun g46 => ?_
     obtain ⟨r47, hr47, hp⟩ := bind_some hp
     refine sx_ox' (ox_append' (K := (Ki .u32)) (i := 1) (xs := x5) (ys := ([icv .u32 x4])) rfl rfl rfl (sr_row' (j := 0) rfl rfl rfl Tryz.underlying46) hr47 Tryz.underlying46 info126 rfl rfl rfl (H' := [(Rw (Ki .u32) 126 (Vs g46) ([icv .u32 x4]))]) rfl) (wt_none' rfl) fun g47 => ?_
     refine s0 (rd_assign' rfl) ?_
     refine nk hK23 ?_
     refine cx_region' ?_
     refine s0 (rd_move' rfl) ?_
     obtain ⟨r49, hr49, hp⟩ := bind_some hp
     refine s0 (rd_bin' rfl rfl eg_int (ru_shr hr49)) ?_
     refine s0 (rd_assign' rfl) ?_
     refine nk hK18 ?_
     refine cx_region' ?_
     refine s0 (rd_bin' rfl rfl eg_int ru_add) ?_
     refine s0 (rd_move' rfl) ?_
     refine sx_nil' ?_
     show TX E (KY1 _) _
     exact tx_pick' [0] (sub_cons rfl (sub_cons rfl (sub_cons rfl (sub_cons rfl (sub_cons rfl (sub_cons rfl sub_nil)))))) (by decide) (pick_cons rfl pick_nil) (ih1 (r47, r49, (iadd .i64 x7 1)) g47 _ hp)
    intro K21 hK21
    refine cr fun K22 hK22 => ?_
    refine s0 (rd_move' rfl) ?_
    refine s0 (rd_move' rfl) ?_
    refine s0 (rd_len' rfl Tryz.underlying46) ?_
    refine s0 (rd_bin' rfl rfl eg_int ru_lss) ?_
    refine nk hK22 ?_
    refine cx_cond' rfl (fun h6 => ?_) (fun h6 => ?_)
    ·replace hp := (br_t h6).symm.trans hp
     refine cx_region' ?_
     refine s0 (rd_move' rfl) ?_
     refine s0 (rd_move' rfl) ?_
     refine s0 (rd_move' rfl) ?_
     obtain ⟨r39, hr39, hp⟩ := bind_some hp
     refine s0 (rd_at' (K := (Ki .u32)) rfl rfl hr39 Tryz.underlying46 info126) ?_
     refine s0 (rd_load_pt' rfl rfl flat126) ?_
     refine s0 (rd_conv' rfl (ru_i2i (by rw [Tryz.underlying126]; rfl) Tryz.underlying77)) ?_
     refine s0 (rd_bin' rfl rfl eg_int ru_add) ?_
     refine s0 (rd_assign' rfl) ?_
     refine sx_nil' ?_
     show TX E K21 _
     exact tx_pick' [0] (sub_cons rfl (sub_cons rfl (sub_cons rfl (sub_cons rfl (sub_cons rfl (sub_cons rfl sub_nil)))))) (by decide) (pick_cons rfl pick_nil) (hK21 (iadd .u64 (iadd .u64 (icv .u64 r26) x6) (icv .u64 r39)) hp)
    replace hp := (br_f h6).symm.trans hp
    refine cx_skip' ?_
    show TX E K21 _
    exact tx_pick' [0] (sub_cons rfl (sub_cons rfl (sub_cons rfl (sub_cons rfl (sub_cons rfl (sub_cons rfl sub_nil)))))) (by decide) (pick_cons rfl pick_nil) (hK21 (iadd .u64 (icv .u64 r26) x6) hp)
   replace hp := (br_f h5).symm.trans hp
   refine cx_exit' ?_
   replace hp := Option.some.inj hp
   subst hp
   show TX E (Zg E (Exit.exit 0) _ (Exit.exit 0)) _
   exact tx_zend' g901 rfl [0] (sub_cons rfl (sub_cons rfl sub_nil)) (by decide) (pick_cons rfl pick_nil)
  refine zg_out fun w5 => ?_
  show TX E K6 _
  refine tx_k' hK6 ?_
  refine cr fun K24 hK24 => ?_
  refine s0 (rd_move' rfl) ?_
  refine s0 (rd_move' rfl) ?_
  refine s0 (rd_conv' rfl (ru_i2i (by rw [Tryz.underlying77]; rfl) Tryz.underlying126)) ?_
  refine sx_ox' (ox_rowlit' (K := (Ki .u32)) (xs := [icv .u32 v5.2]) (qs := [(0, [(Vl (.int .u32 (icv .u32 v5.2)))])]) ⟨rfl, ⟨_, rfl, (lv_vl rfl rfl)⟩, trivial⟩ Tryz.underlying46 info126 rfl rfl rfl rfl rfl (by kernel_rfl) rfl rfl rfl) (wt_none' rfl) fun g54 => ?_
  obtain ⟨r55, hr55, hp⟩ := bind_some hp
  refine sx_ox' (ox_append' (K := (Ki .u32)) (i := 1) (xs := v5.1) (ys := ([icv .u32 v5.2])) rfl rfl rfl (sr_row' (j := 0) rfl rfl rfl Tryz.underlying46) hr55 Tryz.underlying46 info126 rfl rfl rfl (H' := [(Rw (Ki .u32) 126 (Vs g54) ([icv .u32 v5.2]))]) rfl) (wt_none' rfl) fun g55 => ?_
  refine tx_fz' (frz_row 0 [(55, (Vl (Vs g55)), (Sl (Ki .u32) r55))] (K := (Ki .u32)) (xs := r55) (by decide) rfl ⟨⟨rfl, frz_it⟩, trivial⟩ (H' := [(Rw (Ki .u32) 126 (Vs g54) ([icv .u32 v5.2]))]) frzH_refl) ?_
  obtain ⟨r56, hr56, hp⟩ := bind_some hp
  refine sx_ox' (ox_calln' (ent_fn' Tryz.func69 isn69 rfl rfl) (spec_trim_sim _ hr56 : Sx.Fn Tryz.prog 69 [(Sl (Ki .u32) r55)] [] (fun x : Unit => (Sl (Ki .u32) r56)) (fun x => [])) (Hn := fun x : Unit => [(Rw (Ki .u32) 126 (Vs g54) ([icv .u32 v5.2]))]) (fun _ => rfl) rfl rfl) (wt_none' rfl) fun ⟨⟩ => ?_
  refine s0 (rd_assign' rfl) ?_
  refine nk hK24 ?_
  refine cx_retc' ?_
  replace hp := Option.some.inj hp
  subst hp
  refine tx_pick' (L' := [(4, (Sl (Ki .u32) r56))]) (H' := []) [] (sub_cons rfl sub_nil) (by decide) pick_nil ?_
  exact tx_ret1' Tryz.results70 rfl () (rv_tmp' rfl) (List.Sublist.refl _)
 intro K2 hK2
 refine cr fun K3 hK3 => ?_
 refine s0 (rd_move' rfl) ?_
 refine s0 (rd_len' rfl Tryz.underlying46) ?_
 refine s0 (rd_move' rfl) ?_
 refine s0 (rd_len' rfl Tryz.underlying46) ?_
 refine s0 (rd_bin' rfl rfl eg_int ru_lss) ?_
 refine nk hK3 ?_
 refine cx_cond' rfl (fun h1 => ?_) (fun h1 => ?_)
 ·replace hp := (br_t h1).symm.trans hp
  refine cx_region' ?_
  refine s0 (rd_move' rfl) ?_
  refine s0 (rd_move' rfl) ?_
  refine s0 (rd_assign' rfl) ?_
  refine s0 (rd_assign' rfl) ?_
  refine sx_nil' ?_
  show TX E K2 _
  exact tx_pick' [] (sub_cons rfl (sub_cons rfl sub_nil)) (by decide) pick_nil (hK2 (a1, a0) hp)
 replace hp := (br_f h1).symm.trans hp
 refine cx_skip' ?_
 show TX E K2 _
 exact tx_pick' [] (sub_cons rfl (sub_cons rfl sub_nil)) (by decide) pick_nil (hK2 (a0, a1) hp)

def spec_cmpLimbs_l1s (a0 : List Int) (a1 : List Int) (k : Nat) (rec1 : Int → Option (Int ⊕ Unit)) (x1 : Int) : Option (Int ⊕ Unit) :=
 br (decide (0 ≤ x1))
  ((idx a0 x1) >>= fun r25 =>
  (idx a1 x1) >>= fun r29 =>
  br (!decide (r25 = r29))
   ((idx a0 x1) >>= fun r34 =>
   (idx a1 x1) >>= fun r38 =>
   br (decide (r34 < r38))
    (some (.inl (-1)))
    (some (.inl 1)))
   (rec1 (isub .i64 x1 1)))
  (some (.inr ()))
def spec_cmpLimbs_l1 (a0 : List Int) (a1 : List Int) : Nat → Int → Option (Int ⊕ Unit)
 | 0, _ => none
 | k + 1, v => spec_cmpLimbs_l1s a0 a1 k (spec_cmpLimbs_l1 a0 a1 k) v
def spec_cmpLimbs (k : Nat) (a0 : List Int) (a1 : List Int) : Option (Int) :=
 br (!decide ((a0.length : Int) = (a1.length : Int)))
  (br (decide ((a0.length : Int) < (a1.length : Int)))
   (some (-1))
   (some 1))
  ((spec_cmpLimbs_l1 a0 a1 k (isub .i64 (a0.length : Int) 1)) >>= fun y1 => match y1 with
   | (.inl v2) =>
    (some v2)
   | (.inr v3) =>
    (some 0))

theorem spec_cmpLimbs_sim {k : Nat}  (a0 : List Int) (a1 : List Int) {out : Int} (hp : spec_cmpLimbs k a0 a1 = some out) : Sx.Fn Tryz.prog 71 [(Sl (Ki .u32) a0), (Sl (Ki .u32) a1)] [] (fun w : Unit => (Vi out)) (fun w => []) := by
 unfold spec_cmpLimbs at hp
 refine fn_of Tryz.func71 rfl Tryz.ntmps71 rfl fun E hM => ?_
 refine cr fun K1 hK1 => ?_
 refine s0 (rd_assign' rfl) ?_
 refine nk hK1 ?_
 refine cx_seq' fun K2 hK2 => ?_
 refine cr fun K3 hK3 => ?_
 refine s0 (rd_move' rfl) ?_
 refine s0 (rd_len' rfl Tryz.underlying46) ?_
 refine s0 (rd_move' rfl) ?_
 refine s0 (rd_len' rfl Tryz.underlying46) ?_
 refine s0 (rd_bin' rfl rfl eg_int ru_neq) ?_
 refine nk hK3 ?_
 refine cx_cond' rfl (fun h1 => ?_) (fun h1 => ?_)
 ·replace hp := (br_t h1).symm.trans hp
  refine cx_seq' fun K4 hK4 => ?_
  refine cr fun K5 hK5 => ?_
  refine s0 (rd_move' rfl) ?_
  refine s0 (rd_len' rfl Tryz.underlying46) ?_
  refine s0 (rd_move' rfl) ?_
  refine s0 (rd_len' rfl Tryz.underlying46) ?_
  refine s0 (rd_bin' rfl rfl eg_int ru_lss) ?_
  refine nk hK5 ?_
  refine cx_cond' rfl (fun h2 => ?_) (fun h2 => ?_)
  ·replace hp := (br_t h2).symm.trans hp
   refine cr fun K6 hK6 => ?_
   refine s0 (rd_assign' rfl) ?_
   refine nk hK6 ?_
   refine cx_retc' ?_
   replace hp := Option.some.inj hp
   subst hp
   refine tx_pick' (L' := [(4, (Vi (-1)))]) (H' := []) [] (sub_cons rfl sub_nil) (by decide) pick_nil ?_
   exact tx_ret1' Tryz.results71 rfl () (rv_tmp' rfl) (List.Sublist.refl _)
  replace hp := (br_f h2).symm.trans hp
  refine cx_skip' ?_
  show TX E K4 _
  refine tx_k' hK4 ?_
  refine cr fun K7 hK7 => ?_
  refine s0 (rd_assign' rfl) ?_
  refine nk hK7 ?_
  refine cx_retc' ?_
  replace hp := Option.some.inj hp
  subst hp
  refine tx_pick' (L' := [(4, (Vi 1))]) (H' := []) [] (sub_cons rfl sub_nil) (by decide) pick_nil ?_
  exact tx_ret1' Tryz.results71 rfl () (rv_tmp' rfl) (List.Sublist.refl _)
 replace hp := (br_f h1).symm.trans hp
 refine cx_skip' ?_
 show TX E K2 _
 refine tx_k' hK2 ?_
 refine cx_seq' fun K8 hK8 => ?_
 refine cr fun K9 hK9 => ?_
 refine s0 (rd_move' rfl) ?_
 refine s0 (rd_len' rfl Tryz.underlying46) ?_
 refine s0 (rd_bin' rfl rfl eg_int ru_sub) ?_
 refine s0 (rd_assign' rfl) ?_
 refine nk hK9 ?_
 refine cx_block' ?_
 obtain ⟨y1, hy1, hp⟩ := bind_some hp
 refine cx_loopg' (F := spec_cmpLimbs_l1 a0 a1) (G := fun k R v => spec_cmpLimbs_l1s a0 a1 k R v) (x := (isub .i64 (a0.length : Int) 1)) (gh := ()) (fun (v1 : Int) (w1 : Unit) => (⟨41, [], [(0, (Sl (Ki .u32) a0)), (1, (Sl (Ki .u32) a1)), (5, (Vi v1))], []⟩ : St)) (fun (y : Int ⊕ Unit) => match y with | (.inl v2) => Zg E Exit.ret (fun (w2 : Unit) => (⟨41, [], [(4, (Vi v2))], []⟩ : St)) | (.inr v3) => Zg E (Exit.exit 0) (fun (w3 : Unit) => (⟨41, [], [], []⟩ : St))) (fun _ => rfl) (fun _ _ => rfl) ?_ hy1 (tx_to' rfl [] (sub_cons rfl (sub_cons rfl (sub_cons rfl sub_nil))) (by decide) pick_nil) ?_
 ·clear hp hy1
  clear y1
  intro k rec1 KY1 ih1
  rintro x1 ⟨⟩ y1 hp
  replace hp : spec_cmpLimbs_l1s a0 a1 k rec1 x1 = some y1 := hp
  unfold spec_cmpLimbs_l1s at hp
  refine cx_seq' fun K18 hK18 => ?_
  refine cr fun K19 hK19 => ?_
  refine s0 (rd_move' rfl) ?_
  refine s0 (rd_bin' rfl rfl eg_int ru_geq) ?_
  refine nk hK19 ?_
  refine cx_cond' rfl (fun h7 => ?_) (fun h7 => ?_)
  ·replace hp := (br_t h7).symm.trans hp
   refine cx_skip' ?_
   show TX E K18 _
   refine tx_k' hK18 ?_
   refine cx_seq' fun K20 hK20 => ?_
   refine cx_block' ?_
   refine cx_seq' fun K21 hK21 => ?_
   refine cx_draw' mixed (by kernel_rfl) ?_
   refine qx_rd' (rd_move' rfl) rfl rfl (wt_none' rfl) ?_
   refine qx_rd' (rd_move' rfl) rfl rfl (wt_none' rfl) ?_
   obtain ⟨r25, hr25, hp⟩ := bind_some hp
   refine qx_rd' (rd_at' (K := (Ki .u32)) rfl rfl hr25 Tryz.underlying46 info126) rfl rfl (wt_none' rfl) ?_
   refine qx_rd' (rd_load_pt' rfl rfl flat126) rfl rfl (wt_none' rfl) ?_
   refine qx_rd' (rd_move' rfl) rfl rfl (wt_none' rfl) ?_
   refine qx_rd' (rd_move' rfl) rfl rfl (wt_none' rfl) ?_
   obtain ⟨r29, hr29, hp⟩ := bind_some hp
   refine qx_rd' (rd_at' (K := (Ki .u32)) rfl rfl hr29 Tryz.underlying46 info126) rfl rfl (wt_none' rfl) ?_
   refine qx_rd' (rd_load_pt' rfl rfl flat126) rfl rfl (wt_none' rfl) ?_
   refine qx_rd' (rd_bin' rfl rfl eg_int ru_neq) rfl rfl (wt_none' rfl) ?_
   refine qx_nil' ?_
   show TX E K21 _
   refine tx_k' hK21 ?_
   refine cx_cond' rfl (fun h8 => ?_) (fun h8 => ?_)
   ·replace hp := (br_t h8).symm.trans hp
    refine cx_seq' fun K22 hK22 => ?_
    refine cx_seq' fun K23 hK23 => ?_
    refine cx_draw' mixed (by kernel_rfl) ?_
    refine qx_rd' (rd_move' rfl) rfl rfl (wt_none' rfl) ?_
    refine qx_rd' (rd_move' rfl) rfl rfl (wt_none' rfl) ?_
    obtain ⟨r34, hr34, hp⟩ := bind_some hp
    refine qx_rd' (rd_at' (K := (Ki .u32)) rfl rfl hr34 Tryz.underlying46 info126) rfl rfl (wt_none' rfl) ?_
    refine qx_rd' (rd_load_pt' rfl rfl flat126) rfl rfl (wt_none' rfl) ?_
    refine qx_rd' (rd_move' rfl) rfl rfl (wt_none' rfl) ?_
    refine qx_rd' (rd_move' rfl) rfl rfl (wt_none' rfl) ?_
    obtain ⟨r38, hr38, hp⟩ := bind_some hp
    refine qx_rd' (rd_at' (K := (Ki .u32)) rfl rfl hr38 Tryz.underlying46 info126) rfl rfl (wt_none' rfl) ?_
    refine qx_rd' (rd_load_pt' rfl rfl flat126) rfl rfl (wt_none' rfl) ?_
    refine qx_rd' (rd_bin' rfl rfl eg_int ru_lss) rfl rfl (wt_none' rfl) ?_
    refine qx_nil' ?_
    show TX E K23 _
    refine tx_k' hK23 ?_
    refine cx_cond' rfl (fun h9 => ?_) (fun h9 => ?_)
    ·replace hp := (br_t h9).symm.trans hp
     refine cr fun K24 hK24 => ?_
     refine s0 (rd_assign' rfl) ?_
     refine nk hK24 ?_
     refine cx_retc' ?_
     replace hp := Option.some.inj hp
     subst hp
     show TX E (Zg E Exit.ret _ Exit.ret) _
     exact tx_zend' () rfl [] (sub_cons rfl sub_nil) (by decide) pick_nil
    replace hp := (br_f h9).symm.trans hp
    refine cx_skip' ?_
    show TX E K22 _
    refine tx_k' hK22 ?_
    refine cr fun K25 hK25 => ?_
    refine s0 (rd_assign' rfl) ?_
    refine nk hK25 ?_
    refine cx_retc' ?_
    replace hp := Option.some.inj hp
    subst hp
    show TX E (Zg E Exit.ret _ Exit.ret) _
    exact tx_zend' () rfl [] (sub_cons rfl sub_nil) (by decide) pick_nil
   replace hp := (br_f h8).symm.trans hp
   refine cx_skip' ?_
   show TX E K20 _
   refine tx_k' hK20 ?_
   refine cx_region' ?_
   refine s0 (rd_move' rfl) ?_
   refine s0 (rd_bin' rfl rfl eg_int ru_sub) ?_
   refine s0 (rd_assign' rfl) ?_
   refine sx_nil' ?_
   show TX E (KY1 _) _
   exact tx_pick' [] (sub_cons rfl (sub_cons rfl (sub_cons rfl sub_nil))) (by decide) pick_nil (ih1 (isub .i64 x1 1) () _ hp)
  replace hp := (br_f h7).symm.trans hp
  refine cx_exit' ?_
  replace hp := Option.some.inj hp
  subst hp
  show TX E (Zg E (Exit.exit 0) _ (Exit.exit 0)) _
  exact tx_zend' () rfl [] sub_nil (by decide) pick_nil
 rcases y1 with v2 | v3
 ·dsimp only at hp
  refine zg_out fun w2 => ?_
  replace hp := Option.some.inj hp
  subst hp
  refine tx_pick' (L' := [(4, (Vi v2))]) (H' := []) [] (sub_cons rfl sub_nil) (by decide) pick_nil ?_
  exact tx_ret1' Tryz.results71 rfl () (rv_tmp' rfl) (List.Sublist.refl _)
 dsimp only at hp
 refine zg_out fun w3 => ?_
 show TX E K8 _
 refine tx_k' hK8 ?_
 refine cr fun K26 hK26 => ?_
 refine s0 (rd_assign' rfl) ?_
 refine nk hK26 ?_
 refine cx_retc' ?_
 replace hp := Option.some.inj hp
 subst hp
 refine tx_pick' (L' := [(4, (Vi 0))]) (H' := []) [] (sub_cons rfl sub_nil) (by decide) pick_nil ?_
 exact tx_ret1' Tryz.results71 rfl () (rv_tmp' rfl) (List.Sublist.refl _)

def spec_subLimbs_j4 (k : Nat) (x5 : List Int) (r18 : Int) (x3 : Int) (rec1 : ((List Int) × Int × Int) → Option ((List Int))) (x7 : Int) (x4 : Int) : Option ((List Int)) :=
 (ishl .u64 x4 32) >>= fun r40 =>
 (apd 4 x5 ([icv .u32 (isub .u64 (iadd .u64 (icv .u64 r18) r40) x3)])) >>= fun r46 =>
 rec1 (r46, x4, (iadd .i64 x7 1))
def spec_subLimbs_j3 (k : Nat) (r18 : Int) (x5 : List Int) (rec1 : ((List Int) × Int × Int) → Option ((List Int))) (x7 : Int) (x3 : Int) : Option ((List Int)) :=
 br (decide ((icv .u64 r18) < x3))
  (spec_subLimbs_j4 k x5 r18 x3 rec1 x7 1)
  (spec_subLimbs_j4 k x5 r18 x3 rec1 x7 0)
def spec_subLimbs_l1s (a0 : List Int) (a1 : List Int) (k : Nat) (rec1 : ((List Int) × Int × Int) → Option ((List Int))) (x5 : List Int) (x6 : Int) (x7 : Int) : Option ((List Int)) :=
 br (decide (x7 < (a0.length : Int)))
  ((idx a0 x7) >>= fun r18 =>
  br (decide (x7 < (a1.length : Int)))
   ((idx a1 x7) >>= fun r28 =>
   spec_subLimbs_j3 k r18 x5 rec1 x7 (iadd .u64 x6 (icv .u64 r28)))
   (spec_subLimbs_j3 k r18 x5 rec1 x7 x6))
  (some x5)
def spec_subLimbs_l1 (a0 : List Int) (a1 : List Int) : Nat → ((List Int) × Int × Int) → Option ((List Int))
 | 0, _ => none
 | k + 1, v => spec_subLimbs_l1s a0 a1 k (spec_subLimbs_l1 a0 a1 k) v.1 v.2.1 v.2.2
def spec_subLimbs (k : Nat) (a0 : List Int) (a1 : List Int) : Option ((List Int)) :=
 (mk 4 0 0 (a0.length : Int)) >>= fun r12 =>
 (spec_subLimbs_l1 a0 a1 k (r12, 0, 0)) >>= fun v6 =>
 (spec_trim k v6) >>= fun r49 =>
 some r49

theorem spec_subLimbs_sim {k : Nat}  (a0 : List Int) (a1 : List Int) {out : (List Int)} (hp : spec_subLimbs k a0 a1 = some out) : Sx.Fn Tryz.prog 72 [(Sl (Ki .u32) a0), (Sl (Ki .u32) a1)] [] (fun w : Unit => (Sl (Ki .u32) out)) (fun w => []) := by
 unfold spec_subLimbs at hp
 refine fn_of Tryz.func72 rfl Tryz.ntmps72 rfl fun E hM => ?_
 refine cr fun K1 hK1 => ?_
 refine s0 (rd_assign' rfl) ?_
 refine nk hK1 ?_
 refine cr fun K2 hK2 => ?_
 refine s0 (rd_move' rfl) ?_
 refine s0 (rd_len' rfl Tryz.underlying46) ?_
 obtain ⟨r12, hr12, hp⟩ := bind_some hp
 refine sx_ox' (ox_make' (K := (Ki .u32)) rfl rfl hr12 rfl Tryz.underlying46 info126 rfl rfl rfl rfl rfl) (wt_none' rfl) fun g12 => ?_
 refine s0 (rd_assign' rfl) ?_
 refine nk hK2 ?_
 refine cr fun K3 hK3 => ?_
 refine s0 (rd_assign' rfl) ?_
 refine nk hK3 ?_
 refine cx_seq' fun K4 hK4 => ?_
 refine cr fun K5 hK5 => ?_
 refine s0 (rd_move' rfl) ?_
 refine s0 (rd_len' rfl Tryz.underlying46) ?_
 refine s0 (rd_move' rfl) ?_
 refine nk hK5 ?_
 refine cx_block' ?_
 obtain ⟨v6, hy1, hp⟩ := bind_some hp
 refine cx_loopg' (F := spec_subLimbs_l1 a0 a1) (G := fun k R v => spec_subLimbs_l1s a0 a1 k R v.1 v.2.1 v.2.2) (x := (r12, 0, 0)) (gh := g12) (fun (v3 : (List Int) × Int × Int) (w3 : Gs) => (⟨50, [], [(1, (Sl (Ki .u32) a1)), (5, (Vl (Vs w3))), (6, (Vl (.int .u64 v3.2.1))), (13, (Sl (Ki .u32) a0)), (14, (Vi (a0.length : Int))), (15, (Vi v3.2.2))], [(Rw (Ki .u32) 126 (Vs w3) v3.1)]⟩ : St)) (fun (v6 : (List Int)) => Zg E (Exit.exit 0) (fun (w6 : Gs) => (⟨50, [], [(5, (Vl (Vs w6)))], [(Rw (Ki .u32) 126 (Vs w6) v6)]⟩ : St))) (fun _ => rfl) (fun _ _ => rfl) ?_ hy1 (tx_to' rfl [0] (sub_cons rfl (sub_cons rfl (sub_cons rfl (sub_cons rfl (sub_cons rfl (sub_cons rfl sub_nil)))))) (by decide) (pick_cons rfl pick_nil)) ?_
 ·clear hp hy1
  clear v6
  intro k rec1 KY1 ih1
  rintro ⟨x5, x6, x7⟩ g901 y1 hp
  replace hp : spec_subLimbs_l1s a0 a1 k rec1 x5 x6 x7 = some y1 := hp
  unfold spec_subLimbs_l1s at hp
  refine cr fun K16 hK16 => ?_
  refine s0 (rd_bin' rfl rfl eg_int ru_lss) ?_
  refine nk hK16 ?_
  refine cx_seq' fun K17 hK17 => ?_
  refine cx_cond' rfl (fun h5 => ?_) (fun h5 => ?_)
  ·replace hp := (br_t h5).symm.trans hp
   refine cx_skip' ?_
   show TX E K17 _
   refine tx_k' hK17 ?_
   refine cx_seq' fun K18 hK18 => ?_
   refine cx_block' ?_
   refine cr fun K19 hK19 => ?_
   refine s0 (rd_move' rfl) ?_
   obtain ⟨r18, hr18, hp⟩ := bind_some hp
   refine s0 (rd_at' (K := (Ki .u32)) rfl rfl hr18 Tryz.underlying46 info126) ?_
   refine s0 (rd_load_pt' rfl rfl flat126) ?_
   refine s0 (rd_assign' rfl) ?_
   refine s0 (rd_assign' rfl) ?_
   refine nk hK19 ?_
   refine cr fun K20 hK20 => ?_
   refine s0 (rd_move' rfl) ?_
   refine s0 (rd_assign' rfl) ?_
   refine nk hK20 ?_
   refine cx_join' (fun (v4 : Int) => (⟨50, [], [(1, (Sl (Ki .u32) a1)), (5, (Vl (Vs g901))), (8, (Vl (.int .u32 r18))), (9, (Vl (.int .u64 v4))), (13, (Sl (Ki .u32) a0)), (14, (Vi (a0.length : Int))), (15, (Vi x7))], [(Rw (Ki .u32) 126 (Vs g901) x5)]⟩ : St)) (fun (v4 : Int) => spec_subLimbs_j3 k r18 x5 rec1 x7 v4 = some y1) ?_ ?_
   ·rintro x3 hp
    replace hp : spec_subLimbs_j3 k r18 x5 rec1 x7 x3 = some y1 := hp
    unfold spec_subLimbs_j3 at hp
    refine cr fun K23 hK23 => ?_
    refine s0 (rd_assign' rfl) ?_
    refine nk hK23 ?_
    refine cx_join' (fun (v5 : Int) => (⟨50, [], [(1, (Sl (Ki .u32) a1)), (5, (Vl (Vs g901))), (6, (Vl (.int .u64 v5))), (8, (Vl (.int .u32 r18))), (9, (Vl (.int .u64 x3))), (13, (Sl (Ki .u32) a0)), (14, (Vi (a0.length : Int))), (15, (Vi x7))], [(Rw (Ki .u32) 126 (Vs g901) x5)]⟩ : St)) (fun (v5 : Int) => spec_subLimbs_j4 k x5 r18 x3 rec1 x7 v5 = some y1) ?_ ?_
    ·rintro x4 hp
     replace hp : spec_subLimbs_j4 k x5 r18 x3 rec1 x7 x4 = some y1 := hp
     unfold spec_subLimbs_j4 at hp
     refine cx_region' ?_
     refine s0 (rd_move' rfl) ?_
     refine s0 (rd_move' rfl) ?_
     refine s0 (rd_conv' rfl (ru_i2i (by rw [Tryz.underlying126]; rfl) Tryz.underlying77)) ?_
     refine s0 (rd_move' rfl) ?_
     obtain ⟨r40, hr40, hp⟩ := bind_some hp
     refine s0 (rd_bin' rfl rfl eg_int (ru_shl hr40)) ?_
     refine s0 (rd_bin' rfl rfl eg_int ru_add) ?_
     refine s0 (rd_move' rfl) ?_
     refine s0 (rd_bin' rfl rfl eg_int ru_sub) ?_
     refine s0 (rd_conv' rfl (ru_i2i (by rw [Tryz.underlying77]; rfl) Tryz.underlying126)) ?_
     refine sx_ox' (ox_rowlit' (K := (Ki .u32)) (xs := [icv .u32 (isub .u64 (iadd .u64 (icv .u64 r18) r40) x3)]) (qs := [(0, [(Vl (.int .u32 (icv .u32 (isub .u64 (iadd .u64 (icv .u64 r18) r40) x3))))])]) ⟨rfl, ⟨_, rfl, (lv_vl rfl rfl)⟩, trivial⟩ Tryz.underlying46 info126 rfl rfl rfl rfl rfl (by kernel_rfl) rfl rfl rfl) (wt_none' rfl) fun g45 => ?_
     obtain ⟨r46, hr46, hp⟩ := bind_some hp
     refine sx_ox' (ox_append' (K := (Ki .u32)) (i := 1) (xs := x5) (ys := ([icv .u32 (isub .u64 (iadd .u64 (icv .u64 r18) r40) x3)])) rfl rfl rfl (sr_row' (j := 0) rfl rfl rfl Tryz.underlying46) hr46 Tryz.underlying46 info126 rfl rfl rfl (H' := [(Rw (Ki .u32) 126 (Vs g45) ([icv .u32 (isub .u64 (iadd .u64 (icv .u64 r18) r40) x3)]))]) rfl) (wt_none' rfl) fun g46 => ?_
     refine s0 (rd_assign' rfl) ?_
     refine nk hK18 ?_
     refine cx_region' ?_
     refine s0 (rd_bin' rfl rfl eg_int ru_add) ?_
     refine s0 (rd_move' rfl) ?_
     refine sx_nil' ?_
     show TX E (KY1 _) _
     exact tx_pick' [0] (sub_cons rfl (sub_cons rfl (sub_cons rfl (sub_cons rfl (sub_cons rfl (sub_cons rfl sub_nil)))))) (by decide) (pick_cons rfl pick_nil) (ih1 (r46, x4, (iadd .i64 x7 1)) g46 _ hp)
    intro K24 hK24
    refine cr fun K25 hK25 => ?_
    refine s0 (rd_move' rfl) ?_
    refine s0 (rd_conv' rfl (ru_i2i (by rw [Tryz.underlying126]; rfl) Tryz.underlying77)) ?_
    refine s0 (rd_move' rfl) ?_
    refine s0 (rd_bin' rfl rfl eg_int ru_lss) ?_
    refine nk hK25 ?_
    refine cx_cond' rfl (fun h7 => ?_) (fun h7 => ?_)
    ·replace hp := (br_t h7).symm.trans hp
     refine cx_region' ?_
     refine s0 (rd_assign' rfl) ?_
     refine sx_nil' ?_
     show TX E K24 _
     exact tx_pick' [0] (sub_cons rfl (sub_cons rfl (sub_cons rfl (sub_cons rfl (sub_cons rfl (sub_cons rfl (sub_cons rfl (sub_cons rfl sub_nil)))))))) (by decide) (pick_cons rfl pick_nil) (hK24 1 hp)
    replace hp := (br_f h7).symm.trans hp
    refine cx_skip' ?_
    show TX E K24 _
    exact tx_pick' [0] (sub_cons rfl (sub_cons rfl (sub_cons rfl (sub_cons rfl (sub_cons rfl (sub_cons rfl (sub_cons rfl (sub_cons rfl sub_nil)))))))) (by decide) (pick_cons rfl pick_nil) (hK24 0 hp)
   intro K21 hK21
   refine cr fun K22 hK22 => ?_
   refine s0 (rd_move' rfl) ?_
   refine s0 (rd_move' rfl) ?_
   refine s0 (rd_len' rfl Tryz.underlying46) ?_
   refine s0 (rd_bin' rfl rfl eg_int ru_lss) ?_
   refine nk hK22 ?_
   refine cx_cond' rfl (fun h6 => ?_) (fun h6 => ?_)
   ·replace hp := (br_t h6).symm.trans hp
    refine cx_region' ?_
    refine s0 (rd_move' rfl) ?_
    refine s0 (rd_move' rfl) ?_
    refine s0 (rd_move' rfl) ?_
    obtain ⟨r28, hr28, hp⟩ := bind_some hp
    refine s0 (rd_at' (K := (Ki .u32)) rfl rfl hr28 Tryz.underlying46 info126) ?_
    refine s0 (rd_load_pt' rfl rfl flat126) ?_
    refine s0 (rd_conv' rfl (ru_i2i (by rw [Tryz.underlying126]; rfl) Tryz.underlying77)) ?_
    refine s0 (rd_bin' rfl rfl eg_int ru_add) ?_
    refine s0 (rd_assign' rfl) ?_
    refine sx_nil' ?_
    show TX E K21 _
    exact tx_pick' [0] (sub_cons rfl (sub_cons rfl (sub_cons rfl (sub_cons rfl (sub_cons rfl (sub_cons rfl (sub_cons rfl sub_nil))))))) (by decide) (pick_cons rfl pick_nil) (hK21 (iadd .u64 x6 (icv .u64 r28)) hp)
   replace hp := (br_f h6).symm.trans hp
   refine cx_skip' ?_
   show TX E K21 _
   exact tx_pick' [0] (sub_cons rfl (sub_cons rfl (sub_cons rfl (sub_cons rfl (sub_cons rfl (sub_cons rfl (sub_cons rfl sub_nil))))))) (by decide) (pick_cons rfl pick_nil) (hK21 x6 hp)
  replace hp := (br_f h5).symm.trans hp
  refine cx_exit' ?_
  replace hp := Option.some.inj hp
  subst hp
  show TX E (Zg E (Exit.exit 0) _ (Exit.exit 0)) _
  exact tx_zend' g901 rfl [0] (sub_cons rfl sub_nil) (by decide) (pick_cons rfl pick_nil)
 refine zg_out fun w6 => ?_
 show TX E K4 _
 refine tx_k' hK4 ?_
 refine cr fun K26 hK26 => ?_
 refine s0 (rd_move' rfl) ?_
 refine tx_fz' (frz_row 0 [(5, (Vl (Vs w6)), (Sl (Ki .u32) v6)), (48, (Vl (Vs w6)), (Sl (Ki .u32) v6))] (K := (Ki .u32)) (xs := v6) (by decide) rfl ⟨⟨rfl, frz_it⟩, ⟨rfl, frz_it⟩, trivial⟩ (H' := []) frzH_refl) ?_
 obtain ⟨r49, hr49, hp⟩ := bind_some hp
 refine sx_ox' (ox_calln' (ent_fn' Tryz.func69 isn69 rfl rfl) (spec_trim_sim _ hr49 : Sx.Fn Tryz.prog 69 [(Sl (Ki .u32) v6)] [] (fun x : Unit => (Sl (Ki .u32) r49)) (fun x => [])) (Hn := fun x : Unit => []) (fun _ => rfl) rfl rfl) (wt_none' rfl) fun ⟨⟩ => ?_
 refine s0 (rd_assign' rfl) ?_
 refine nk hK26 ?_
 refine cx_retc' ?_
 replace hp := Option.some.inj hp
 subst hp
 refine tx_pick' (L' := [(4, (Sl (Ki .u32) r49))]) (H' := []) [] (sub_cons rfl sub_nil) (by decide) pick_nil ?_
 exact tx_ret1' Tryz.results72 rfl () (rv_tmp' rfl) (List.Sublist.refl _)

end Go.Proofs.YtajpajggckappaaGreat
