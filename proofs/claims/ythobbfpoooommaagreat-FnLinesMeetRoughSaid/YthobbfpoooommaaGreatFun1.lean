/-
  Plain functions for the Go functions that this law reaches, and that each call does what its plain function says. Printed by a program of ours.
-/
import Derived.Test.YthobbfpoooommaaGreatProg
import Derived.Test.YthobbfpoooommaaGreatSxX
namespace Go.Proofs.YthobbfpoooommaaGreat
open Go.Sx
set_option linter.unusedVariables false
set_option linter.unusedSimpArgs false
set_option maxRecDepth 100000
set_option maxHeartbeats 8000000

theorem info24 : (Tryz.prog.info? 24).map (fun i => (i.zero, i.size, i.bytes)) = some (some (.agg #[.float .f64 0, .float .f64 0]), 2, 16) := by kernel_rfl
theorem agg24 : Agg Tryz.prog 24 2 := ⟨⟨_, Tryz.underlying24, .inl ⟨_, rfl⟩⟩, info_size info24⟩
theorem isn4 : (Tryz.f4.name == "runtime.NumGoroutine") = false := by kernel_rfl
theorem info22 : (Tryz.prog.info? 22).map (fun i => (i.zero, i.size, i.bytes)) = some (some (.float .f64 0), 1, 8) := by kernel_rfl
theorem flat22 : Flat Tryz.prog 22 := ⟨_, Tryz.underlying22, fun _ h => (nomatch h), fun _ _ h => (nomatch h)⟩
theorem isn10 : (Tryz.f10.name == "runtime.NumGoroutine") = false := by kernel_rfl
theorem isn31 : (Tryz.f31.name == "runtime.NumGoroutine") = false := by kernel_rfl
theorem extf46 : ∀ {x r : Nat}, gint .zero x = r → ∀ y, (y = x ∨ (isn x = true ∧ isn y = true)) → RunsF Tryz.prog (callFunc 46 #[.float .f64 y]) (Fl r) := fun hz y hy => hz ▸ runs_ext (e := Extern.MathFloor.toIntegral "math.archTrunc" .zero) Tryz.func46 (by kernel_rfl) (by kernel_rfl) (by kernel_rfl) (by kernel_rfl) (gint_runs hy)
theorem isn32 : (Tryz.f32.name == "runtime.NumGoroutine") = false := by kernel_rfl
theorem ext44 : ∀ {args : Array Value} {v : Value}, Runs Tryz.prog ((Extern.MathFloatBits.float64bits) args) v → Runs Tryz.prog (callFunc 44 args) (.value v) := fun hr => ru_ext Tryz.func44 (by kernel_rfl) (by kernel_rfl) (by kernel_rfl) (by kernel_rfl) hr
theorem ext48 : ∀ {args : Array Value} {v : Value}, Runs Tryz.prog ((Extern.MathFloatBits.float64frombits) args) v → Runs Tryz.prog (callFunc 48 args) (.value v) := fun hr => ru_ext Tryz.func48 (by kernel_rfl) (by kernel_rfl) (by kernel_rfl) (by kernel_rfl) hr
theorem held24 : Tryz.prog.stoodInHeld 24 = false := by kernel_rfl
theorem eqg24 : Tryz.prog.eqGuardType Tryz.prog.depth 24 = false := by kernel_rfl
theorem mixed : Tryz.prog.follows .mixedOrders = true := by kernel_rfl
theorem isn5 : (Tryz.f5.name == "runtime.NumGoroutine") = false := by kernel_rfl
theorem isn11 : (Tryz.f11.name == "runtime.NumGoroutine") = false := by kernel_rfl
theorem isn27 : (Tryz.f27.name == "runtime.NumGoroutine") = false := by kernel_rfl
theorem places30 : placesOf Tryz.prog [{ name := "N", type := 28, offset := 0, embedded := false, tag := "", pkgPath := "", byteOffset := 0 }, { name := "E", type := 3, offset := 2, embedded := false, tag := "", pkgPath := "", byteOffset := 32 }] = [(0, 2), (2, 1)] := by kernel_rfl
theorem has30 : ∀ f ∈ ([{ name := "N", type := 28, offset := 0, embedded := false, tag := "", pkgPath := "", byteOffset := 0 }, { name := "E", type := 3, offset := 2, embedded := false, tag := "", pkgPath := "", byteOffset := 32 }] : List Field), (Tryz.prog.info? f.type).isSome = true := fun f hf => all_of (p := fun f => (Tryz.prog.info? f.type).isSome) (by kernel_rfl) f hf
theorem info30 : (Tryz.prog.info? 30).map (fun i => (i.zero, i.size, i.bytes)) = some (some (.agg #[.bool false, .slice none 0 0, .int .i64 0]), 3, 40) := by kernel_rfl
theorem isn45 : (Tryz.f45.name == "runtime.NumGoroutine") = false := by kernel_rfl
theorem isn50 : (Tryz.f50.name == "runtime.NumGoroutine") = false := by kernel_rfl
theorem info97 : (Tryz.prog.info? 97).map (fun i => (i.zero, i.size, i.bytes)) = some (some (.int .u32 0), 1, 4) := by kernel_rfl
theorem flat97 : Flat Tryz.prog 97 := ⟨_, Tryz.underlying97, fun _ h => (nomatch h), fun _ _ h => (nomatch h)⟩
theorem places28 : placesOf Tryz.prog [{ name := "Neg", type := 4, offset := 0, embedded := false, tag := "", pkgPath := "", byteOffset := 0 }, { name := "L", type := 26, offset := 1, embedded := false, tag := "", pkgPath := "", byteOffset := 8 }] = [(0, 1), (1, 1)] := by kernel_rfl
theorem has28 : ∀ f ∈ ([{ name := "Neg", type := 4, offset := 0, embedded := false, tag := "", pkgPath := "", byteOffset := 0 }, { name := "L", type := 26, offset := 1, embedded := false, tag := "", pkgPath := "", byteOffset := 8 }] : List Field), (Tryz.prog.info? f.type).isSome = true := fun f hf => all_of (p := fun f => (Tryz.prog.info? f.type).isSome) (by kernel_rfl) f hf
theorem info28 : (Tryz.prog.info? 28).map (fun i => (i.zero, i.size, i.bytes)) = some (some (.agg #[.bool false, .slice none 0 0]), 2, 32) := by kernel_rfl
theorem agg28 : Agg Tryz.prog 28 2 := ⟨⟨_, Tryz.underlying28, .inl ⟨_, rfl⟩⟩, info_size info28⟩
theorem agg30 : Agg Tryz.prog 30 3 := ⟨⟨_, Tryz.underlying30, .inl ⟨_, rfl⟩⟩, info_size info30⟩
theorem places32 : placesOf Tryz.prog [{ name := "X", type := 30, offset := 0, embedded := false, tag := "", pkgPath := "", byteOffset := 0 }, { name := "Y", type := 30, offset := 3, embedded := false, tag := "", pkgPath := "", byteOffset := 40 }] = [(0, 3), (3, 3)] := by kernel_rfl
theorem has32 : ∀ f ∈ ([{ name := "X", type := 30, offset := 0, embedded := false, tag := "", pkgPath := "", byteOffset := 0 }, { name := "Y", type := 30, offset := 3, embedded := false, tag := "", pkgPath := "", byteOffset := 40 }] : List Field), (Tryz.prog.info? f.type).isSome = true := fun f hf => all_of (p := fun f => (Tryz.prog.info? f.type).isSome) (by kernel_rfl) f hf
theorem info32 : (Tryz.prog.info? 32).map (fun i => (i.zero, i.size, i.bytes)) = some (some (.agg #[.bool false, .slice none 0 0, .int .i64 0, .bool false, .slice none 0 0, .int .i64 0]), 6, 80) := by kernel_rfl
theorem agg32 : Agg Tryz.prog 32 6 := ⟨⟨_, Tryz.underlying32, .inl ⟨_, rfl⟩⟩, info_size info32⟩
theorem isn6 : (Tryz.f6.name == "runtime.NumGoroutine") = false := by kernel_rfl
theorem isn12 : (Tryz.f12.name == "runtime.NumGoroutine") = false := by kernel_rfl
theorem isn14 : (Tryz.f14.name == "runtime.NumGoroutine") = false := by kernel_rfl
theorem isn36 : (Tryz.f36.name == "runtime.NumGoroutine") = false := by kernel_rfl
theorem isn15 : (Tryz.f15.name == "runtime.NumGoroutine") = false := by kernel_rfl
theorem isn37 : (Tryz.f37.name == "runtime.NumGoroutine") = false := by kernel_rfl
theorem info3 : (Tryz.prog.info? 3).map (fun i => (i.zero, i.size, i.bytes)) = some (some (.int .i64 0), 1, 8) := by kernel_rfl
theorem flat3 : Flat Tryz.prog 3 := ⟨_, Tryz.underlying3, fun _ h => (nomatch h), fun _ _ h => (nomatch h)⟩
theorem isn49 : (Tryz.f49.name == "runtime.NumGoroutine") = false := by kernel_rfl
theorem info4 : (Tryz.prog.info? 4).map (fun i => (i.zero, i.size, i.bytes)) = some (some (.bool false), 1, 1) := by kernel_rfl
theorem flat4 : Flat Tryz.prog 4 := ⟨_, Tryz.underlying4, fun _ h => (nomatch h), fun _ _ h => (nomatch h)⟩
theorem info26 : (Tryz.prog.info? 26).map (fun i => (i.zero, i.size, i.bytes)) = some (some (.slice none 0 0), 1, 24) := by kernel_rfl
theorem flat26 : Flat Tryz.prog 26 := ⟨_, Tryz.underlying26, fun _ h => (nomatch h), fun _ _ h => (nomatch h)⟩
theorem isn19 : (Tryz.f19.name == "runtime.NumGoroutine") = false := by kernel_rfl
theorem isn17 : (Tryz.f17.name == "runtime.NumGoroutine") = false := by kernel_rfl
theorem isn39 : (Tryz.f39.name == "runtime.NumGoroutine") = false := by kernel_rfl
theorem isn40 : (Tryz.f40.name == "runtime.NumGoroutine") = false := by kernel_rfl
theorem isn41 : (Tryz.f41.name == "runtime.NumGoroutine") = false := by kernel_rfl
theorem isn51 : (Tryz.f51.name == "runtime.NumGoroutine") = false := by kernel_rfl
theorem isn52 : (Tryz.f52.name == "runtime.NumGoroutine") = false := by kernel_rfl
theorem isn53 : (Tryz.f53.name == "runtime.NumGoroutine") = false := by kernel_rfl
theorem isn16 : (Tryz.f16.name == "runtime.NumGoroutine") = false := by kernel_rfl
theorem isn38 : (Tryz.f38.name == "runtime.NumGoroutine") = false := by kernel_rfl
theorem isn33 : (Tryz.f33.name == "runtime.NumGoroutine") = false := by kernel_rfl
theorem isn29 : (Tryz.f29.name == "runtime.NumGoroutine") = false := by kernel_rfl
theorem isn13 : (Tryz.f13.name == "runtime.NumGoroutine") = false := by kernel_rfl
theorem isn34 : (Tryz.f34.name == "runtime.NumGoroutine") = false := by kernel_rfl
theorem isn35 : (Tryz.f35.name == "runtime.NumGoroutine") = false := by kernel_rfl
theorem isn7 : (Tryz.f7.name == "runtime.NumGoroutine") = false := by kernel_rfl
theorem places37 : placesOf Tryz.prog [{ name := "N", type := 30, offset := 0, embedded := false, tag := "", pkgPath := "", byteOffset := 0 }, { name := "D", type := 30, offset := 3, embedded := false, tag := "", pkgPath := "", byteOffset := 40 }] = [(0, 3), (3, 3)] := by kernel_rfl
theorem has37 : ∀ f ∈ ([{ name := "N", type := 30, offset := 0, embedded := false, tag := "", pkgPath := "", byteOffset := 0 }, { name := "D", type := 30, offset := 3, embedded := false, tag := "", pkgPath := "", byteOffset := 40 }] : List Field), (Tryz.prog.info? f.type).isSome = true := fun f hf => all_of (p := fun f => (Tryz.prog.info? f.type).isSome) (by kernel_rfl) f hf
theorem info37 : (Tryz.prog.info? 37).map (fun i => (i.zero, i.size, i.bytes)) = some (some (.agg #[.bool false, .slice none 0 0, .int .i64 0, .bool false, .slice none 0 0, .int .i64 0]), 6, 80) := by kernel_rfl
theorem isn18 : (Tryz.f18.name == "runtime.NumGoroutine") = false := by kernel_rfl
theorem agg37 : Agg Tryz.prog 37 6 := ⟨⟨_, Tryz.underlying37, .inl ⟨_, rfl⟩⟩, info_size info37⟩
theorem isn8 : (Tryz.f8.name == "runtime.NumGoroutine") = false := by kernel_rfl
theorem isn21 : (Tryz.f21.name == "runtime.NumGoroutine") = false := by kernel_rfl
theorem places88 : placesOf Tryz.prog [] = [] := by kernel_rfl
theorem has88 : ∀ f ∈ ([] : List Field), (Tryz.prog.info? f.type).isSome = true := fun f hf => all_of (p := fun f => (Tryz.prog.info? f.type).isSome) (by kernel_rfl) f hf
theorem info88 : (Tryz.prog.info? 88).map (fun i => (i.zero, i.size, i.bytes)) = some (some (.agg #[]), 0, 0) := by kernel_rfl
theorem isn22 : (Tryz.f22.name == "runtime.NumGoroutine") = false := by kernel_rfl
theorem isn20 : (Tryz.f20.name == "runtime.NumGoroutine") = false := by kernel_rfl
theorem info63 : (Tryz.prog.info? 63).map (fun i => (i.zero, i.size, i.bytes)) = some (some (.slice none 0 0), 1, 24) := by kernel_rfl
theorem info80 : (Tryz.prog.info? 80).map (fun i => (i.zero, i.size, i.bytes)) = some (some (.agg #[.slice none 0 0, .slice none 0 0]), 2, 48) := by kernel_rfl
theorem info81 : (Tryz.prog.info? 81).map (fun i => (i.zero, i.size, i.bytes)) = some (some (.agg #[.slice none 0 0, .slice none 0 0, .slice none 0 0, .slice none 0 0]), 4, 96) := by kernel_rfl
theorem places83 : placesOf Tryz.prog [{ name := "inputLines", type := 81, offset := 0, embedded := false, tag := "", pkgPath := "pub-orthodrome/pub/gogeom/xy/lineintersector", byteOffset := 0 }, { name := "intersectionPoints", type := 80, offset := 4, embedded := false, tag := "", pkgPath := "pub-orthodrome/pub/gogeom/xy/lineintersector", byteOffset := 96 }, { name := "intersectionType", type := 54, offset := 6, embedded := false, tag := "", pkgPath := "pub-orthodrome/pub/gogeom/xy/lineintersector", byteOffset := 144 }, { name := "isProper", type := 4, offset := 7, embedded := false, tag := "", pkgPath := "pub-orthodrome/pub/gogeom/xy/lineintersector", byteOffset := 152 }, { name := "pa", type := 63, offset := 8, embedded := false, tag := "", pkgPath := "pub-orthodrome/pub/gogeom/xy/lineintersector", byteOffset := 160 }, { name := "pb", type := 63, offset := 9, embedded := false, tag := "", pkgPath := "pub-orthodrome/pub/gogeom/xy/lineintersector", byteOffset := 184 }, { name := "strategy", type := 60, offset := 10, embedded := false, tag := "", pkgPath := "pub-orthodrome/pub/gogeom/xy/lineintersector", byteOffset := 208 }] = [(0, 4), (4, 2), (6, 1), (7, 1), (8, 1), (9, 1), (10, 1)] := by kernel_rfl
theorem has83 : ∀ f ∈ ([{ name := "inputLines", type := 81, offset := 0, embedded := false, tag := "", pkgPath := "pub-orthodrome/pub/gogeom/xy/lineintersector", byteOffset := 0 }, { name := "intersectionPoints", type := 80, offset := 4, embedded := false, tag := "", pkgPath := "pub-orthodrome/pub/gogeom/xy/lineintersector", byteOffset := 96 }, { name := "intersectionType", type := 54, offset := 6, embedded := false, tag := "", pkgPath := "pub-orthodrome/pub/gogeom/xy/lineintersector", byteOffset := 144 }, { name := "isProper", type := 4, offset := 7, embedded := false, tag := "", pkgPath := "pub-orthodrome/pub/gogeom/xy/lineintersector", byteOffset := 152 }, { name := "pa", type := 63, offset := 8, embedded := false, tag := "", pkgPath := "pub-orthodrome/pub/gogeom/xy/lineintersector", byteOffset := 160 }, { name := "pb", type := 63, offset := 9, embedded := false, tag := "", pkgPath := "pub-orthodrome/pub/gogeom/xy/lineintersector", byteOffset := 184 }, { name := "strategy", type := 60, offset := 10, embedded := false, tag := "", pkgPath := "pub-orthodrome/pub/gogeom/xy/lineintersector", byteOffset := 208 }] : List Field), (Tryz.prog.info? f.type).isSome = true := fun f hf => all_of (p := fun f => (Tryz.prog.info? f.type).isSome) (by kernel_rfl) f hf
theorem info83 : (Tryz.prog.info? 83).map (fun i => (i.zero, i.size, i.bytes)) = some (some (.agg #[.slice none 0 0, .slice none 0 0, .slice none 0 0, .slice none 0 0, .slice none 0 0, .slice none 0 0, .int .i64 0, .bool false, .slice none 0 0, .slice none 0 0, .nilIface]), 11, 224) := by kernel_rfl
theorem flat63 : Flat Tryz.prog 63 := ⟨_, Tryz.underlying63, fun _ h => (nomatch h), fun _ _ h => (nomatch h)⟩
theorem inv88_pub_orthodrome_pub_gogeom_xy_lineintersector_computeLineOnLineIntersection : ∀ (v : Value) (a : Value) (b : Value) (c : Value) (d : Value) (e : Value) w', (callMethod (.iface 88 v) "pub-orthodrome/pub/gogeom/xy/lineintersector.computeLineOnLineIntersection" #[a, b, c, d, e]).run Tryz.prog w' = .ok (.enter 109 #[v, a, b, c, d, e]) w' := fun _ _ _ _ _ _ _ => by kernel_rfl
theorem isn111 : (Tryz.f111.name == "runtime.NumGoroutine") = false := by kernel_rfl
theorem info54 : (Tryz.prog.info? 54).map (fun i => (i.zero, i.size, i.bytes)) = some (some (.int .i64 0), 1, 8) := by kernel_rfl
theorem agg88 : Agg Tryz.prog 88 0 := ⟨⟨_, Tryz.underlying88, .inl ⟨_, rfl⟩⟩, info_size info88⟩
theorem isn112 : (Tryz.f112.name == "runtime.NumGoroutine") = false := by kernel_rfl
theorem isn114 : (Tryz.f114.name == "runtime.NumGoroutine") = false := by kernel_rfl
theorem sz63 : (Tryz.prog.info? 63).map (fun i => Nat.ble 1 i.size) = some true := by kernel_rfl
theorem isn113 : (Tryz.f113.name == "runtime.NumGoroutine") = false := by kernel_rfl
theorem isn115 : (Tryz.f115.name == "runtime.NumGoroutine") = false := by kernel_rfl
theorem isn99 : (Tryz.f99.name == "runtime.NumGoroutine") = false := by kernel_rfl
theorem flat54 : Flat Tryz.prog 54 := ⟨_, Tryz.underlying54, fun _ h => (nomatch h), fun _ _ h => (nomatch h)⟩
theorem isn42 : (Tryz.f42.name == "runtime.NumGoroutine") = false := by kernel_rfl
theorem places57 : placesOf Tryz.prog [{ name := "intersectionType", type := 54, offset := 0, embedded := false, tag := "", pkgPath := "pub-orthodrome/pub/gogeom/xy/lineintersection", byteOffset := 0 }, { name := "intersection", type := 55, offset := 1, embedded := false, tag := "", pkgPath := "pub-orthodrome/pub/gogeom/xy/lineintersection", byteOffset := 8 }] = [(0, 1), (1, 1)] := by kernel_rfl
theorem has57 : ∀ f ∈ ([{ name := "intersectionType", type := 54, offset := 0, embedded := false, tag := "", pkgPath := "pub-orthodrome/pub/gogeom/xy/lineintersection", byteOffset := 0 }, { name := "intersection", type := 55, offset := 1, embedded := false, tag := "", pkgPath := "pub-orthodrome/pub/gogeom/xy/lineintersection", byteOffset := 8 }] : List Field), (Tryz.prog.info? f.type).isSome = true := fun f hf => all_of (p := fun f => (Tryz.prog.info? f.type).isSome) (by kernel_rfl) f hf
theorem info57 : (Tryz.prog.info? 57).map (fun i => (i.zero, i.size, i.bytes)) = some (some (.agg #[.int .i64 0, .slice none 0 0]), 2, 32) := by kernel_rfl
theorem agg57 : Agg Tryz.prog 57 2 := ⟨⟨_, Tryz.underlying57, .inl ⟨_, rfl⟩⟩, info_size info57⟩
theorem isn23 : (Tryz.f23.name == "runtime.NumGoroutine") = false := by kernel_rfl
theorem isn25 : (Tryz.f25.name == "runtime.NumGoroutine") = false := by kernel_rfl
theorem info55 : (Tryz.prog.info? 55).map (fun i => (i.zero, i.size, i.bytes)) = some (some (.slice none 0 0), 1, 24) := by kernel_rfl
theorem flat55 : Flat Tryz.prog 55 := ⟨_, Tryz.underlying55, fun _ h => (nomatch h), fun _ _ h => (nomatch h)⟩
theorem isn24 : (Tryz.f24.name == "runtime.NumGoroutine") = false := by kernel_rfl
theorem isn43 : (Tryz.f43.name == "runtime.NumGoroutine") = false := by kernel_rfl
theorem places24 : placesOf Tryz.prog [{ name := "X", type := 22, offset := 0, embedded := false, tag := "", pkgPath := "", byteOffset := 0 }, { name := "Y", type := 22, offset := 1, embedded := false, tag := "", pkgPath := "", byteOffset := 8 }] = [(0, 1), (1, 1)] := by kernel_rfl
theorem has24 : ∀ f ∈ ([{ name := "X", type := 22, offset := 0, embedded := false, tag := "", pkgPath := "", byteOffset := 0 }, { name := "Y", type := 22, offset := 1, embedded := false, tag := "", pkgPath := "", byteOffset := 8 }] : List Field), (Tryz.prog.info? f.type).isSome = true := fun f hf => all_of (p := fun f => (Tryz.prog.info? f.type).isSome) (by kernel_rfl) f hf
theorem isn9 : (Tryz.f9.name == "runtime.NumGoroutine") = false := by kernel_rfl
theorem isn26 : (Tryz.f26.name == "runtime.NumGoroutine") = false := by kernel_rfl
theorem isn28 : (Tryz.f28.name == "runtime.NumGoroutine") = false := by kernel_rfl
theorem isn30 : (Tryz.f30.name == "runtime.NumGoroutine") = false := by kernel_rfl
def KT24 : Kd (Nat × Nat) := ⟨2, fun x => [(Vl (.float .f64 x.1)), (Vl (.float .f64 x.2))], fun _ => rfl⟩
def KT32 : Kd (Bool × (List Int) × Int × Bool × (List Int) × Int) := ⟨6, fun x => [(Vl (.bool x.1)), (Sl (Ki .u32) x.2.1), (Vl (.int .i64 x.2.2.1)), (Vl (.bool x.2.2.2.1)), (Sl (Ki .u32) x.2.2.2.2.1), (Vl (.int .i64 x.2.2.2.2.2))], fun _ => rfl⟩

def math_Trunc (k a0 : Nat) : Option (Nat) :=
 (some (gint .zero a0)) >>= fun r4 =>
 some r4

theorem math_Trunc_sim {k : Nat}  (a0 : Nat) {out : Nat} (hp : math_Trunc k a0 = some out) : Sx.Fn Tryz.prog 31 [(Vg a0)] [] (fun w : Unit => (Fl out)) (fun w => []) := by
 unfold math_Trunc at hp
 refine fn_of Tryz.func31 rfl Tryz.ntmps31 rfl fun E hM => ?_
 refine cr fun K1 hK1 => ?_
 refine sa rfl ?_
 refine nk hK1 ?_
 refine cx_seq' fun K2 hK2 => ?_
 refine cx_cond_t' rfl rfl ?_
 refine cr fun K3 hK3 => ?_
 refine sm rfl ?_
 obtain ⟨r4, hr4, hp⟩ := bind_some hp
 refine so (ox_extf' rfl (fl_v rfl) Tryz.func46 (extf46 (Option.some.inj hr4)) rfl rfl) fun _ => ?_
 refine sa rfl ?_
 refine nk hK3 ?_
 refine cx_retc' ?_
 replace hp := sj hp
 subst hp
 refine tk (L' := [(2, (Fl r4))]) (H' := []) [] (uc rfl un) pn ?_
 exact tx_ret1' Tryz.results31 rfl () (rv_tmp' rfl) lr

def math_Abs (k a0 : Nat) : Option (Nat) :=
 some (ffrom (iandn .u64 (fbits a0) 9223372036854775808))

theorem math_Abs_sim {k : Nat}  (a0 : Nat) {out : Nat} (hp : math_Abs k a0 = some out) : Sx.Fn Tryz.prog 32 [(Vg a0)] [] (fun w : Unit => (Vg out)) (fun w => []) := by
 unfold math_Abs at hp
 refine fn_of Tryz.func32 rfl Tryz.ntmps32 rfl fun E hM => ?_
 refine cr fun K1 hK1 => ?_
 refine sa rfl ?_
 refine nk hK1 ?_
 refine cr fun K2 hK2 => ?_
 refine sm rfl ?_
 refine s0 (rd_ext' (us := [.float .f64 a0]) rfl (ext44 ex_bits)) ?_
 refine sb rfl rfl eg_int ru_andn ?_
 refine s0 (rd_ext' (us := [.int .u64 (iandn .u64 (fbits a0) 9223372036854775808)]) rfl (ext48 ex_from)) ?_
 refine sa rfl ?_
 refine nk hK2 ?_
 refine cx_retc' ?_
 replace hp := sj hp
 subst hp
 refine tk (L' := [(2, (Vg (ffrom (iandn .u64 (fbits a0) 9223372036854775808))))]) (H' := []) [] (uc rfl un) pn ?_
 exact tx_ret1' Tryz.results32 rfl () (rv_tmp' rfl) lr

def laws_wholeTo_j2 (k : Nat) (rec1 : Int → Option (Unit ⊕ Unit)) (x3 : Int) (x2 : Bool) : Option (Unit ⊕ Unit) :=
 br x2
  (some (.inl ()))
  (rec1 (iadd .i64 x3 1))
def laws_wholeTo_l1s (a1 : List Nat) (a0 k : Nat) (rec1 : Int → Option (Unit ⊕ Unit)) (x3 : Int) : Option (Unit ⊕ Unit) :=
 br (decide (x3 < (a1.length : Int)))
  ((idx a1 x3) >>= fun r11 =>
  (math_Trunc k r11) >>= fun r15 =>
  br (fne r11 r15)
   (laws_wholeTo_j2 k rec1 x3 true)
   ((math_Abs k r11) >>= fun r19 =>
   laws_wholeTo_j2 k rec1 x3 (fgt r19 a0)))
  (some (.inr ()))
def laws_wholeTo_l1 (a1 : List Nat) (a0 : Nat) : Nat → Int → Option (Unit ⊕ Unit)
 | 0, _ => none
 | k + 1, v => laws_wholeTo_l1s a1 a0 k (laws_wholeTo_l1 a1 a0 k) v
def laws_wholeTo (k a0 : Nat) (a1 : List Nat) : Option (Bool) :=
 (laws_wholeTo_l1 a1 a0 k 0) >>= fun y1 => match y1 with
  | (.inl v4) =>
   (some false)
  | (.inr v5) =>
   (some true)

theorem laws_wholeTo_sim {k : Nat}  (a0 : Nat) (a1 : List Nat) {out : Bool} (hp : laws_wholeTo k a0 a1 = some out) : Sx.Fn Tryz.prog 10 [(Vg a0), (Sl Kf a1)] [] (fun w : Unit => (Vb out)) (fun w => []) := by
 unfold laws_wholeTo at hp
 refine fn_of Tryz.func10 rfl Tryz.ntmps10 rfl fun E hM => ?_
 refine cr fun K1 hK1 => ?_
 refine sa rfl ?_
 refine nk hK1 ?_
 refine cx_seq' fun K2 hK2 => ?_
 refine cr fun K3 hK3 => ?_
 refine sm rfl ?_
 refine sk rfl Tryz.underlying62 ?_
 refine sm rfl ?_
 refine nk hK3 ?_
 refine cx_block' ?_
 obtain ⟨y1, hy1, hp⟩ := bind_some hp
 refine cx_loopg' (F := laws_wholeTo_l1 a1 a0) (G := fun k R v => laws_wholeTo_l1s a1 a0 k R v) (x := 0) (gh := ()) (fun (v2 : Int) (w2 : Unit) => (⟨24, [], [(0, (Vg a0)), (7, (Sl Kf a1)), (8, (Vi (a1.length : Int))), (9, (Vi v2))], []⟩ : St)) (fun (y : Unit ⊕ Unit) => match y with | (.inl v4) => Zg E Exit.ret (fun (w4 : Unit) => (⟨24, [], [(4, (Vb false))], []⟩ : St)) | (.inr v5) => Zg E (Exit.exit 0) (fun (w5 : Unit) => (⟨24, [], [], []⟩ : St))) (fun _ => rfl) (fun _ _ => rfl) ?_ hy1 (tx_to' rfl [] (u4 rfl rfl rfl rfl) (by decide) pn) ?_
 ·clear hp hy1
  clear y1
  intro k rec1 KY1 ih1
  rintro x3 ⟨⟩ y1 hp
  replace hp : laws_wholeTo_l1s a1 a0 k rec1 x3 = some y1 := hp
  unfold laws_wholeTo_l1s at hp
  refine cr fun K11 hK11 => ?_
  refine sb rfl rfl eg_int ru_lss ?_
  refine nk hK11 ?_
  refine cx_seq' fun K12 hK12 => ?_
  refine cx_cond' rfl (fun h5 => ?_) (fun h5 => ?_)
  ·replace hp := (br_t h5).symm.trans hp
   refine cx_skip' ?_
   show TX E K12 _
   refine tx_k' hK12 ?_
   refine cx_seq' fun K13 hK13 => ?_
   refine cx_block' ?_
   refine cr fun K14 hK14 => ?_
   obtain ⟨r11, hr11, hp⟩ := bind_some hp
   refine s0 (rd_at' (K := Kf) rfl rfl hr11 Tryz.underlying62 info22) ?_
   refine s0 (rd_load_pt' rfl rfl flat22) ?_
   refine sa rfl ?_
   refine nk hK14 ?_
   refine cr fun K15 hK15 => ?_
   iterate 2 refine sm rfl ?_
   obtain ⟨r15, hr15, hp⟩ := bind_some hp
   refine so (oz (ent_fn' Tryz.func31 isn31 rfl rfl) (math_Trunc_sim _ hr15)) fun ⟨⟩ => ?_
   refine s0 (rd_fcmp' (fl_v rfl) (fl_f rfl) rfl) ?_
   refine sm rfl ?_
   refine sx_cutn' 5 (fun (v3 : Bool) => (⟨24, [], [(0, (Vg a0)), (7, (Sl Kf a1)), (8, (Vi (a1.length : Int))), (9, (Vi x3)), (22, (Vb v3))], []⟩ : St)) (fun (v3 : Bool) => laws_wholeTo_j2 k rec1 x3 v3 = some y1) ?_ ?_
   ·rintro x2 hp
    replace hp : laws_wholeTo_j2 k rec1 x3 x2 = some y1 := hp
    unfold laws_wholeTo_j2 at hp
    refine nk hK15 ?_
    refine cx_cond' rfl (fun h7 => ?_) (fun h7 => ?_)
    ·replace hp := (br_t h7).symm.trans hp
     refine cr fun K17 hK17 => ?_
     refine sa rfl ?_
     refine nk hK17 ?_
     refine cx_retc' ?_
     replace hp := sj hp
     subst hp
     show TX E (Zg E Exit.ret _ Exit.ret) _
     exact tx_zend' () rfl [] (uc rfl un) (by decide) pn
    replace hp := (br_f h7).symm.trans hp
    refine cx_skip' ?_
    show TX E K13 _
    refine tx_k' hK13 ?_
    refine cx_region' ?_
    refine sb rfl rfl eg_int ru_add ?_
    refine sm rfl ?_
    refine sx_nil' ?_
    show TX E (KY1 _) _
    exact tk [] (u4 rfl rfl rfl rfl) pn (ih1 (iadd .i64 x3 1) () _ hp)
   intro K16 hK16
   rcases br_cases hp with ⟨h6, hp⟩ | ⟨h6, hp⟩
   ·refine sx_skip' rfl rfl (wt_is' (wt_guard' rfl rfl rfl) (beq_tf h6)) ?_
    iterate 3 refine sx_skip' rfl rfl (wt_is' (wt_guard' rfl rfl rfl) (beq_tf h6)) ?_
    refine s0 (rd_pick_true' rfl h6 rfl) ?_
    refine sx_nil' ?_
    show TX E K16 _
    exact tk [] (u5 rfl rfl rfl rfl rfl) pn (hK16 true hp)
   refine sx_rd' (rd_move' rfl) rfl rfl (wt_is' (wt_guard' rfl rfl rfl) (beq_ff h6)) ?_
   obtain ⟨r19, hr19, hp⟩ := bind_some hp
   refine sx_ox' (oz (ent_fn' Tryz.func32 isn32 rfl rfl) (math_Abs_sim _ hr19)) (wt_is' (wt_guard' rfl rfl rfl) (beq_ff h6)) fun ⟨⟩ => ?_
   refine sx_rd' (rd_move' rfl) rfl rfl (wt_is' (wt_guard' rfl rfl rfl) (beq_ff h6)) ?_
   refine sx_rd' (rd_bin' rfl rfl eg_flt ru_fgt) rfl rfl (wt_is' (wt_guard' rfl rfl rfl) (beq_ff h6)) ?_
   refine s0 (rd_pick_false' rfl h6 rfl) ?_
   refine sx_nil' ?_
   show TX E K16 _
   exact tk [] (u5 rfl rfl rfl rfl rfl) pn (hK16 (fgt r19 a0) hp)
  replace hp := (br_f h5).symm.trans hp
  refine cx_exit' ?_
  replace hp := sj hp
  subst hp
  show TX E (Zg E (Exit.exit 0) _ (Exit.exit 0)) _
  exact tx_zend' () rfl [] un (by decide) pn
 rcases y1 with v4 | v5
 ·dsimp only at hp
  refine zg_out fun w4 => ?_
  replace hp := sj hp
  subst hp
  refine tk (L' := [(4, (Vb false))]) (H' := []) [] (uc rfl un) pn ?_
  exact tx_ret1' Tryz.results10 rfl () (rv_tmp' rfl) lr
 dsimp only at hp
 refine zg_out fun w5 => ?_
 show TX E K2 _
 refine tx_k' hK2 ?_
 refine cr fun K18 hK18 => ?_
 refine sa rfl ?_
 refine nk hK18 ?_
 refine cx_retc' ?_
 replace hp := sj hp
 subst hp
 refine tk (L' := [(4, (Vb true))]) (H' := []) [] (uc rfl un) pn ?_
 exact tx_ret1' Tryz.results10 rfl () (rv_tmp' rfl) lr

abbrev C0 (x0 : Bool) (x1 : _) (x2 : Int) (x3 : Bool) (x4 : _) (x5 : Int) := ([(Vb x0), (Sl (Ki .u32) x1), (Vi x2), (Vb x3), (Sl (Ki .u32) x4), (Vi x5)] : List SV)
abbrev C1 (x0 : Bool) (x2 : Int) (x3 : Bool) (x5 : Int) := ([(Vb x0), Vn, (Vi x2), (Vb x3), Vn, (Vi x5)] : List SV)
abbrev C2 (x0 : Bool) (x1 : _) (x2 : Int) := ([(Vb x0), (Sl (Ki .u32) x1), (Vi x2)] : List SV)
abbrev C3 (x0 : Bool) (x1 : _) := ([(Vb x0), (Sl (Ki .u32) x1)] : List SV)
abbrev C4 (x0 : Nat) (x1 : Nat) := ([(Vg x0), (Vg x1)] : List SV)
abbrev C5 (x0 : Bool) (x2 : Int) := ([(Vb x0), Vn, (Vi x2)] : List SV)
abbrev C6 (x0 : Int) (x1 : _) := ([(Vi x0), (Sl (Kl Kf) x1)] : List SV)
def laws_planeTo_l1s (a1 : List (Nat × Nat)) (a0 k : Nat) (rec1 : Int → Option (Unit ⊕ Unit)) (x1 : Int) : Option (Unit ⊕ Unit) :=
 br (decide (x1 < (a1.length : Int)))
  ((idx a1 x1) >>= fun r11 =>
  (laws_wholeTo k a0 ([r11.1, r11.2])) >>= fun r19 =>
  br (!r19)
   (some (.inl ()))
   (rec1 (iadd .i64 x1 1)))
  (some (.inr ()))
def laws_planeTo_l1 (a1 : List (Nat × Nat)) (a0 : Nat) : Nat → Int → Option (Unit ⊕ Unit)
 | 0, _ => none
 | k + 1, v => laws_planeTo_l1s a1 a0 k (laws_planeTo_l1 a1 a0 k) v
def laws_planeTo (k a0 : Nat) (a1 : List (Nat × Nat)) : Option (Bool) :=
 (laws_planeTo_l1 a1 a0 k 0) >>= fun y1 => match y1 with
  | (.inl v2) =>
   (some false)
  | (.inr v3) =>
   (some true)

theorem laws_planeTo_sim {k : Nat}  (a0 : Nat) (a1 : List (Nat × Nat)) {out : Bool} (hp : laws_planeTo k a0 a1 = some out) : Sx.Fn Tryz.prog 4 [(Vg a0), (Sl KT24 a1)] [] (fun w : Unit => (Vb out)) (fun w => []) := by
 unfold laws_planeTo at hp
 refine fn_of Tryz.func4 rfl Tryz.ntmps4 rfl fun E hM => ?_
 refine cr fun K1 hK1 => ?_
 refine sa rfl ?_
 refine nk hK1 ?_
 refine cx_seq' fun K2 hK2 => ?_
 refine cr fun K3 hK3 => ?_
 refine sm rfl ?_
 refine sk rfl Tryz.underlying40 ?_
 refine sm rfl ?_
 refine nk hK3 ?_
 refine cx_block' ?_
 obtain ⟨y1, hy1, hp⟩ := bind_some hp
 refine cx_loopg' (F := laws_planeTo_l1 a1 a0) (G := fun k R v => laws_planeTo_l1s a1 a0 k R v) (x := 0) (gh := ()) (fun (v1 : Int) (w1 : Unit) => (⟨22, [], [(0, (Vg a0)), (7, (Sl KT24 a1)), (8, (Vi (a1.length : Int))), (9, (Vi v1))], []⟩ : St)) (fun (y : Unit ⊕ Unit) => match y with | (.inl v2) => Zg E Exit.ret (fun (w2 : Unit) => (⟨22, [], [(4, (Vb false))], []⟩ : St)) | (.inr v3) => Zg E (Exit.exit 0) (fun (w3 : Unit) => (⟨22, [], [], []⟩ : St))) (fun _ => rfl) (fun _ _ => rfl) ?_ hy1 (tx_to' rfl [] (u4 rfl rfl rfl rfl) (by decide) pn) ?_
 ·clear hp hy1
  clear y1
  intro k rec1 KY1 ih1
  rintro x1 ⟨⟩ y1 hp
  replace hp : laws_planeTo_l1s a1 a0 k rec1 x1 = some y1 := hp
  unfold laws_planeTo_l1s at hp
  refine cr fun K10 hK10 => ?_
  refine sb rfl rfl eg_int ru_lss ?_
  refine nk hK10 ?_
  refine cx_seq' fun K11 hK11 => ?_
  refine cx_cond' rfl (fun h4 => ?_) (fun h4 => ?_)
  ·replace hp := (br_t h4).symm.trans hp
   refine cx_skip' ?_
   show TX E K11 _
   refine tx_k' hK11 ?_
   refine cx_seq' fun K12 hK12 => ?_
   refine cx_block' ?_
   refine cr fun K13 hK13 => ?_
   obtain ⟨r11, hr11, hp⟩ := bind_some hp
   refine s0 (rd_at' (K := KT24) rfl rfl hr11 Tryz.underlying40 info24) ?_
   refine s0 (rd_load_pt_agg' (nn := 2) rfl rfl agg24 (l' := (C4 r11.1 r11.2)) rfl) ?_
   refine so (ox_alloc' info24 rfl rfl rfl rfl (l := (C4 0 0)) rfl) fun q6 => ?_
   refine so (ox_store' (i := 0) (o := 0) rfl rfl (lv_ag _) (ar rfl rfl rfl rfl) rfl info24 rfl (H' := [(Ur q6 24 (C4 r11.1 r11.2))]) rfl) fun _ => ?_
   refine nk hK13 ?_
   refine cr fun K14 hK14 => ?_
   refine sm rfl ?_
   refine sf rfl Tryz.underlying24 rfl info22 rfl ?_
   refine sl (i := 0) (o := 0) rfl (ar rfl rfl rfl rfl) rfl flat22 ?_
   refine sg (off := 1) rfl Tryz.underlying24 rfl info22 rfl ?_
   refine sl (i := 0) (o := 1) rfl (ar rfl rfl rfl rfl) rfl flat22 ?_
   refine so (ox_rowlit' (K := Kf) (xs := [r11.1, r11.2]) (qs := [(0, [(Vg r11.1)]), (1, [(Vg r11.2)])]) ⟨rfl, ⟨_, rfl, (lv_vl rfl rfl)⟩, ⟨rfl, ⟨_, rfl, (lv_vl rfl rfl)⟩, trivial⟩⟩ Tryz.underlying62 info22 rfl rfl rfl rfl rfl (by kernel_rfl) rfl rfl rfl) fun g18 => ?_
   obtain ⟨r19, hr19, hp⟩ := bind_some hp
   refine so (ox_brw' (frz_row 0 [(18, (Vw g18), (Sl Kf ([r11.1, r11.2])))] (K := Kf) (xs := [r11.1, r11.2]) (by decide) rfl ⟨⟨rfl, frz_it⟩, trivial⟩ (H' := [(Ur q6 24 (C4 r11.1 r11.2))]) frzH_refl) (ent_fn' Tryz.func10 isn10 rfl rfl) (laws_wholeTo_sim _ _ hr19 : Sx.Fn Tryz.prog 10 [(Vg a0), (Sl Kf ([r11.1, r11.2]))] [] (fun x : Unit => (Vb r19)) (fun x => [])) pu_vl rfl rfl) fun ⟨⟩ => ?_
   refine s0 (rd_un' rfl ru_not) ?_
   refine nk hK14 ?_
   refine cx_cond' rfl (fun h5 => ?_) (fun h5 => ?_)
   ·replace hp := (br_t h5).symm.trans hp
    refine cr fun K15 hK15 => ?_
    refine sa rfl ?_
    refine nk hK15 ?_
    refine cx_retc' ?_
    replace hp := sj hp
    subst hp
    show TX E (Zg E Exit.ret _ Exit.ret) _
    exact tx_zend' () rfl [] (uc rfl un) (by decide) pn
   replace hp := (br_f h5).symm.trans hp
   refine cx_skip' ?_
   show TX E K12 _
   refine tx_k' hK12 ?_
   refine cx_region' ?_
   refine sb rfl rfl eg_int ru_add ?_
   refine sm rfl ?_
   refine sx_nil' ?_
   show TX E (KY1 _) _
   exact tk [] (u4 rfl rfl rfl rfl) pn (ih1 (iadd .i64 x1 1) () _ hp)
  replace hp := (br_f h4).symm.trans hp
  refine cx_exit' ?_
  replace hp := sj hp
  subst hp
  show TX E (Zg E (Exit.exit 0) _ (Exit.exit 0)) _
  exact tx_zend' () rfl [] un (by decide) pn
 rcases y1 with v2 | v3
 ·dsimp only at hp
  refine zg_out fun w2 => ?_
  replace hp := sj hp
  subst hp
  refine tk (L' := [(4, (Vb false))]) (H' := []) [] (uc rfl un) pn ?_
  exact tx_ret1' Tryz.results4 rfl () (rv_tmp' rfl) lr
 dsimp only at hp
 refine zg_out fun w3 => ?_
 show TX E K2 _
 refine tx_k' hK2 ?_
 refine cr fun K16 hK16 => ?_
 refine sa rfl ?_
 refine nk hK16 ?_
 refine cx_retc' ?_
 replace hp := sj hp
 subst hp
 refine tk (L' := [(4, (Vb true))]) (H' := []) [] (uc rfl un) pn ?_
 exact tx_ret1' Tryz.results4 rfl () (rv_tmp' rfl) lr

def spec_trim_j2 (k : Nat) (x3 : List Int) (rec1 : (List Int) → Option ((List Int))) (x2 : Bool) : Option ((List Int)) :=
 br x2
  ((cut x3 0 (isub .i64 (x3.length : Int) 1)) >>= fun r19 =>
  rec1 r19)
  (some x3)
def spec_trim_l1s  (k : Nat) (rec1 : (List Int) → Option ((List Int))) (x3 : List Int) : Option ((List Int)) :=
 br (decide (0 < (x3.length : Int)))
  ((idx x3 (isub .i64 (x3.length : Int) 1)) >>= fun r11 =>
  spec_trim_j2 k x3 rec1 (decide (r11 = 0)))
  (spec_trim_j2 k x3 rec1 false)
def spec_trim_l1  : Nat → (List Int) → Option ((List Int))
 | 0, _ => none
 | k + 1, v => spec_trim_l1s k (spec_trim_l1 k) v
def spec_trim (k : Nat) (a0 : List Int) : Option ((List Int)) :=
 (spec_trim_l1 k a0) >>= fun v4 =>
 some v4

theorem spec_trim_sim {k : Nat}  (a0 : List Int) {out : (List Int)} (hp : spec_trim k a0 = some out) : Sx.Fn Tryz.prog 50 [(Sl (Ki .u32) a0)] [] (fun w : Unit => (Sl (Ki .u32) out)) (fun w => []) := by
 unfold spec_trim at hp
 refine fn_of Tryz.func50 rfl Tryz.ntmps50 rfl fun E hM => ?_
 refine cr fun K1 hK1 => ?_
 refine sa rfl ?_
 refine nk hK1 ?_
 refine cx_seq' fun K2 hK2 => ?_
 refine cx_block' ?_
 obtain ⟨v4, hy1, hp⟩ := bind_some hp
 refine cx_loopg' (F := spec_trim_l1) (G := fun k R v => spec_trim_l1s k R v) (x := a0) (gh := ()) (fun (v2 : (List Int)) (w2 : Unit) => (⟨21, [], [(0, (Sl (Ki .u32) v2))], []⟩ : St)) (fun (v4 : (List Int)) => Zg E (Exit.exit 0) (fun (w4 : Unit) => (⟨21, [], [(0, (Sl (Ki .u32) v4))], []⟩ : St))) (fun _ => rfl) (fun _ _ => rfl) ?_ hy1 (tx_to' rfl [] (uc rfl un) (by decide) pn) ?_
 ·clear hp hy1
  clear v4
  intro k rec1 KY1 ih1
  rintro x3 ⟨⟩ y1 hp
  replace hp : spec_trim_l1s k rec1 x3 = some y1 := hp
  unfold spec_trim_l1s at hp
  refine cx_seq' fun K6 hK6 => ?_
  refine cr fun K7 hK7 => ?_
  refine sm rfl ?_
  refine sk rfl Tryz.underlying26 ?_
  refine sb rfl rfl eg_int ru_gtr ?_
  refine sm rfl ?_
  refine sx_cutn' 8 (fun (v3 : Bool) => (⟨21, [], [(0, (Sl (Ki .u32) x3)), (14, (Vb v3))], []⟩ : St)) (fun (v3 : Bool) => spec_trim_j2 k x3 rec1 v3 = some y1) ?_ ?_
  ·rintro x2 hp
   replace hp : spec_trim_j2 k x3 rec1 x2 = some y1 := hp
   unfold spec_trim_j2 at hp
   refine nk hK7 ?_
   refine cx_cond' rfl (fun h5 => ?_) (fun h5 => ?_)
   ·replace hp := (br_t h5).symm.trans hp
    refine cx_skip' ?_
    show TX E K6 _
    refine tx_k' hK6 ?_
    refine cx_block' ?_
    refine cx_region' ?_
    iterate 2 refine sm rfl ?_
    refine sk rfl Tryz.underlying26 ?_
    refine sb rfl rfl eg_int ru_sub ?_
    obtain ⟨r19, hr19, hp⟩ := bind_some hp
    refine s0 (rd_cut_h' rfl rfl hr19 Tryz.underlying26 info97) ?_
    refine sa rfl ?_
    refine sx_nil' ?_
    show TX E (KY1 _) _
    exact tk [] (uc rfl un) pn (ih1 r19 () _ hp)
   replace hp := (br_f h5).symm.trans hp
   refine cx_exit' ?_
   replace hp := sj hp
   subst hp
   show TX E (Zg E (Exit.exit 0) _ (Exit.exit 0)) _
   exact tx_zend' () rfl [] (uc rfl un) (by decide) pn
  intro K8 hK8
  rcases br_cases hp with ⟨h4, hp⟩ | ⟨h4, hp⟩
  ·refine sx_rd' (rd_move' rfl) rfl rfl (wt_is' (wt_guard' rfl rfl rfl) (beq_tt h4)) ?_
   refine sx_rd' (rd_move' rfl) rfl rfl (wt_is' (wt_guard' rfl rfl rfl) (beq_tt h4)) ?_
   refine sx_rd' (rd_len' rfl Tryz.underlying26) rfl rfl (wt_is' (wt_guard' rfl rfl rfl) (beq_tt h4)) ?_
   refine sx_rd' (rd_bin' rfl rfl eg_int ru_sub) rfl rfl (wt_is' (wt_guard' rfl rfl rfl) (beq_tt h4)) ?_
   obtain ⟨r11, hr11, hp⟩ := bind_some hp
   refine sx_rd' (rd_at' (K := (Ki .u32)) rfl rfl hr11 Tryz.underlying26 info97) rfl rfl (wt_is' (wt_guard' rfl rfl rfl) (beq_tt h4)) ?_
   refine sx_rd' (rd_load_pt' rfl rfl flat97) rfl rfl (wt_is' (wt_guard' rfl rfl rfl) (beq_tt h4)) ?_
   refine sx_rd' (rd_bin' rfl rfl eg_int ru_eql) rfl rfl (wt_is' (wt_guard' rfl rfl rfl) (beq_tt h4)) ?_
   refine s0 (rd_pick_true' rfl h4 rfl) ?_
   refine sx_nil' ?_
   show TX E K8 _
   exact tk [] (u2 rfl rfl) pn (hK8 (decide (r11 = 0)) hp)
  iterate 7 refine sx_skip' rfl rfl (wt_is' (wt_guard' rfl rfl rfl) (beq_ft h4)) ?_
  refine s0 (rd_pick_false' rfl h4 rfl) ?_
  refine sx_nil' ?_
  show TX E K8 _
  exact tk [] (u2 rfl rfl) pn (hK8 false hp)
 refine zg_out fun w4 => ?_
 show TX E K2 _
 refine tx_k' hK2 ?_
 refine cr fun K9 hK9 => ?_
 refine sm rfl ?_
 refine sa rfl ?_
 refine nk hK9 ?_
 refine cx_retc' ?_
 replace hp := sj hp
 subst hp
 refine tk (L' := [(2, (Sl (Ki .u32) v4))]) (H' := []) [] (uc rfl un) pn ?_
 exact tx_ret1' Tryz.results50 rfl () (rv_tmp' rfl) lr

def spec_WholeOf_j1 (k : Nat) (a0 x1 : Int) : Option (Bool × (List Int)) :=
 (ishr .u64 x1 32) >>= fun r15 =>
 (spec_trim k ([icv .u32 x1, icv .u32 r15])) >>= fun r18 =>
 some (decide (a0 < 0), r18)
def spec_WholeOf (k : Nat) (a0 : Int) : Option (Bool × (List Int)) :=
 br (decide (a0 < 0))
  (spec_WholeOf_j1 k a0 (isub .u64 0 (icv .u64 a0)))
  (spec_WholeOf_j1 k a0 (icv .u64 a0))

theorem spec_WholeOf_sim {k : Nat}  (a0 : Int) {out : Bool × (List Int)} (hp : spec_WholeOf k a0 = some out) : Sx.Fn Tryz.prog 45 [(Vi a0)] [] (fun w : Unit => (Ag (C3 out.1 out.2))) (fun w => []) := by
 unfold spec_WholeOf at hp
 refine fn_of Tryz.func45 rfl Tryz.ntmps45 rfl fun E hM => ?_
 refine cr fun K1 hK1 => ?_
 refine so (ox_alloc' info28 rfl rfl rfl rfl (l := [(Vb false), Vn]) rfl) fun q2 => ?_
 refine nk hK1 ?_
 refine cr fun K2 hK2 => ?_
 refine sm rfl ?_
 refine s0 (rd_conv' rfl (ru_i2i (by rw [Tryz.underlying2]; rfl) Tryz.underlying91)) ?_
 refine sa rfl ?_
 refine nk hK2 ?_
 refine cx_join' (fun (v1 : Int) => (⟨20, [], [(0, (Vi a0)), (2, (Vp q2)), (3, (Vl (.int .u64 v1)))], [(Ur q2 28 [(Vb false), Vn])]⟩ : St)) (fun (v1 : Int) => spec_WholeOf_j1 k a0 v1 = some out) ?_ ?_
 ·rintro x1 hp
  replace hp : spec_WholeOf_j1 k a0 x1 = some out := hp
  unfold spec_WholeOf_j1 at hp
  refine cr fun K5 hK5 => ?_
  refine sm rfl ?_
  refine sb rfl rfl eg_int ru_lss ?_
  refine sm rfl ?_
  refine s0 (rd_conv' rfl (ru_i2i (by rw [Tryz.underlying91]; rfl) Tryz.underlying97)) ?_
  refine sm rfl ?_
  obtain ⟨r15, hr15, hp⟩ := bind_some hp
  refine sb rfl rfl eg_int (ru_shr hr15) ?_
  refine s0 (rd_conv' rfl (ru_i2i (by rw [Tryz.underlying91]; rfl) Tryz.underlying97)) ?_
  refine so (ox_rowlit' (K := (Ki .u32)) (xs := [icv .u32 x1, icv .u32 r15]) (qs := [(0, [(Vl (.int .u32 (icv .u32 x1)))]), (1, [(Vl (.int .u32 (icv .u32 r15)))])]) ⟨rfl, ⟨_, rfl, (lv_vl rfl rfl)⟩, ⟨rfl, ⟨_, rfl, (lv_vl rfl rfl)⟩, trivial⟩⟩ Tryz.underlying26 info97 rfl rfl rfl rfl rfl (by kernel_rfl) rfl rfl rfl) fun g17 => ?_
  refine tx_fz' (frz_row 0 [(17, (Vw g17), (Sl (Ki .u32) ([icv .u32 x1, icv .u32 r15])))] (K := (Ki .u32)) (xs := [icv .u32 x1, icv .u32 r15]) (by decide) rfl ⟨⟨rfl, frz_it⟩, trivial⟩ (H' := [(Ur q2 28 [(Vb false), Vn])]) frzH_refl) ?_
  obtain ⟨r18, hr18, hp⟩ := bind_some hp
  refine so (oz (ent_fn' Tryz.func50 isn50 rfl rfl) (spec_trim_sim _ hr18)) fun ⟨⟩ => ?_
  refine sv (pls := [(0, 1), (1, 1)]) (qs := [(0, [(Vb (decide (a0 < 0)))]), (1, [(Sl (Ki .u32) r18)])]) (r := (C3 (decide (a0 < 0)) r18)) ⟨rfl, ⟨_, rfl, (lv_vl rfl rfl)⟩, ⟨rfl, ⟨_, rfl, (lv_sl _ _)⟩, trivial⟩⟩ Tryz.underlying28 has28 places28 info28 rfl rfl rfl ?_
  refine so (ox_store' (i := 0) (o := 0) rfl rfl (lv_ag _) (ar rfl rfl rfl rfl) rfl info28 rfl (H' := [(Ur q2 28 (C3 (decide (a0 < 0)) r18))]) rfl) fun _ => ?_
  refine nk hK5 ?_
  refine cx_retc' ?_
  replace hp := sj hp
  subst hp
  refine tk (L' := [(2, (Vp q2))]) (H' := [(Ur q2 28 (C3 (decide (a0 < 0)) r18))]) [0] (uc rfl un) (pc rfl pn) ?_
  exact tx_ret1' Tryz.results45 rfl () (rv_cell_agg' (i := 0) (o := 0) (nn := 2) rfl (ar rfl rfl rfl rfl) rfl agg28 rfl) (List.nil_sublist _)
 intro K3 hK3
 refine cr fun K4 hK4 => ?_
 refine sm rfl ?_
 refine sb rfl rfl eg_int ru_lss ?_
 refine nk hK4 ?_
 refine cx_cond' rfl (fun h1 => ?_) (fun h1 => ?_)
 ·replace hp := (br_t h1).symm.trans hp
  refine cx_region' ?_
  refine sm rfl ?_
  refine s0 (rd_un' rfl ru_ineg) ?_
  refine sa rfl ?_
  refine sx_nil' ?_
  show TX E K3 _
  exact tk [0] (u3 rfl rfl rfl) (pc rfl pn) (hK3 (isub .u64 0 (icv .u64 a0)) hp)
 replace hp := (br_f h1).symm.trans hp
 refine cx_skip' ?_
 show TX E K3 _
 exact tk [0] (u3 rfl rfl rfl) (pc rfl pn) (hK3 (icv .u64 a0) hp)

def spec_DyadicOf_j2 (k : Nat) (x2 x3 : Int) : Option (Bool × (List Int) × Int) :=
 (spec_WholeOf k x3) >>= fun r29 =>
 some (r29.1, r29.2, isub .i64 x2 1075)
def spec_DyadicOf_j1 (k a0 : Nat) (x1 x2 : Int) : Option (Bool × (List Int) × Int) :=
 (ishr .u64 (fbits a0) 63) >>= fun r24 =>
 br (decide (r24 = 1))
  (spec_DyadicOf_j2 k x2 (isub .i64 0 x1))
  (spec_DyadicOf_j2 k x2 x1)
def spec_DyadicOf (k a0 : Nat) : Option (Bool × (List Int) × Int) :=
 (ishr .u64 (fbits a0) 52) >>= fun r12 =>
 br (decide ((icv .i64 (iand .u64 r12 2047)) = 2047))
  (some (false, [], 0))
  (br (decide ((icv .i64 (iand .u64 r12 2047)) = 0))
   (spec_DyadicOf_j1 k a0 (icv .i64 (iand .u64 (fbits a0) 4503599627370495)) 1)
   (spec_DyadicOf_j1 k a0 (iadd .i64 (icv .i64 (iand .u64 (fbits a0) 4503599627370495)) 4503599627370496) (icv .i64 (iand .u64 r12 2047))))

theorem spec_DyadicOf_sim {k : Nat}  (a0 : Nat) {out : Bool × (List Int) × Int} (hp : spec_DyadicOf k a0 = some out) : Sx.Fn Tryz.prog 27 [(Vg a0)] [] (fun w : Unit => (Ag (C2 out.1 out.2.1 out.2.2))) (fun w => []) := by
 unfold spec_DyadicOf at hp
 refine fn_of Tryz.func27 rfl Tryz.ntmps27 rfl fun E hM => ?_
 refine cr fun K1 hK1 => ?_
 refine so (ox_alloc' info30 rfl rfl rfl rfl (l := (C5 false 0)) rfl) fun q2 => ?_
 refine nk hK1 ?_
 refine cr fun K2 hK2 => ?_
 refine sm rfl ?_
 refine s0 (rd_ext' (us := [.float .f64 a0]) rfl (ext44 ex_bits)) ?_
 refine sa rfl ?_
 refine nk hK2 ?_
 refine cr fun K3 hK3 => ?_
 refine sm rfl ?_
 refine sb rfl rfl eg_int ru_and ?_
 refine s0 (rd_conv' rfl (ru_i2i (by rw [Tryz.underlying91]; rfl) Tryz.underlying2)) ?_
 refine sm rfl ?_
 obtain ⟨r12, hr12, hp⟩ := bind_some hp
 refine sb rfl rfl eg_int (ru_shr hr12) ?_
 refine sb rfl rfl eg_int ru_and ?_
 refine s0 (rd_conv' rfl (ru_i2i (by rw [Tryz.underlying91]; rfl) Tryz.underlying3)) ?_
 iterate 2 refine sa rfl ?_
 refine nk hK3 ?_
 refine cx_join' (fun (v1 : Int × Int) => (⟨33, [], [(2, (Vp q2)), (3, (Vl (.int .u64 (fbits a0)))), (4, (Vi v1.1)), (5, (Vi v1.2))], [(Ur q2 30 (C5 false 0))]⟩ : St)) (fun (v1 : Int × Int) => spec_DyadicOf_j1 k a0 v1.1 v1.2 = some out) ?_ ?_
 ·rintro ⟨x1, x2⟩ hp
  replace hp : spec_DyadicOf_j1 k a0 x1 x2 = some out := hp
  unfold spec_DyadicOf_j1 at hp
  refine cx_join' (fun (v2 : Int) => (⟨33, [], [(2, (Vp q2)), (4, (Vi v2)), (5, (Vi x2))], [(Ur q2 30 (C5 false 0))]⟩ : St)) (fun (v2 : Int) => spec_DyadicOf_j2 k x2 v2 = some out) ?_ ?_
  ·rintro x3 hp
   replace hp : spec_DyadicOf_j2 k x2 x3 = some out := hp
   unfold spec_DyadicOf_j2 at hp
   refine cr fun K11 hK11 => ?_
   refine sm rfl ?_
   obtain ⟨r29, hr29, hp⟩ := bind_some hp
   refine so (oz (ent_fn' Tryz.func45 isn45 rfl rfl) (spec_WholeOf_sim _ hr29)) fun ⟨⟩ => ?_
   refine sm rfl ?_
   refine sb rfl rfl eg_int ru_sub ?_
   refine sv (pls := [(0, 2), (2, 1)]) (qs := [(0, (C3 r29.1 r29.2)), (1, [(Vi (isub .i64 x2 1075))])]) (r := (C2 r29.1 r29.2 (isub .i64 x2 1075))) ⟨rfl, ⟨_, rfl, (lv_ag _)⟩, ⟨rfl, ⟨_, rfl, (lv_vl rfl rfl)⟩, trivial⟩⟩ Tryz.underlying30 has30 places30 info30 rfl rfl rfl ?_
   refine so (ox_store' (i := 0) (o := 0) rfl rfl (lv_ag _) (ar rfl rfl rfl rfl) rfl info30 rfl (H' := [(Ur q2 30 (C2 r29.1 r29.2 (isub .i64 x2 1075)))]) rfl) fun _ => ?_
   refine nk hK11 ?_
   refine cx_retc' ?_
   replace hp := sj hp
   subst hp
   refine tk (L' := [(2, (Vp q2))]) (H' := [(Ur q2 30 (C2 r29.1 r29.2 (isub .i64 x2 1075)))]) [0] (uc rfl un) (pc rfl pn) ?_
   exact tx_ret1' Tryz.results27 rfl () (rv_cell_agg' (i := 0) (o := 0) (nn := 3) rfl (ar rfl rfl rfl rfl) rfl agg30 rfl) (List.nil_sublist _)
  intro K9 hK9
  refine cr fun K10 hK10 => ?_
  refine sm rfl ?_
  obtain ⟨r24, hr24, hp⟩ := bind_some hp
  refine sb rfl rfl eg_int (ru_shr hr24) ?_
  refine sb rfl rfl eg_int ru_eql ?_
  refine nk hK10 ?_
  refine cx_cond' rfl (fun h3 => ?_) (fun h3 => ?_)
  ·replace hp := (br_t h3).symm.trans hp
   refine cx_region' ?_
   refine sm rfl ?_
   refine s0 (rd_un' rfl ru_ineg) ?_
   refine sa rfl ?_
   refine sx_nil' ?_
   show TX E K9 _
   exact tk [0] (u3 rfl rfl rfl) (pc rfl pn) (hK9 (isub .i64 0 x1) hp)
  replace hp := (br_f h3).symm.trans hp
  refine cx_skip' ?_
  show TX E K9 _
  exact tk [0] (u3 rfl rfl rfl) (pc rfl pn) (hK9 x1 hp)
 intro K4 hK4
 refine cr fun K5 hK5 => ?_
 refine sm rfl ?_
 refine nk hK5 ?_
 refine cx_block' ?_
 refine cr fun K6 hK6 => ?_
 refine sb rfl rfl eg_int ru_eql ?_
 refine sa rfl ?_
 refine nk hK6 ?_
 refine cx_cond' rfl (fun h1 => ?_) (fun h1 => ?_)
 ·replace hp := (br_t h1).symm.trans hp
  refine cr fun K7 hK7 => ?_
  refine sv (pls := [(0, 2), (2, 1)]) (qs := []) (r := (C5 false 0)) trivial Tryz.underlying30 has30 places30 info30 rfl rfl rfl ?_
  refine so (ox_store' (i := 0) (o := 0) rfl rfl (lv_ag _) (ar rfl rfl rfl rfl) rfl info30 rfl (H' := [(Ur q2 30 (C5 false 0))]) rfl) fun _ => ?_
  refine nk hK7 ?_
  refine cx_retc' ?_
  replace hp := sj hp
  subst hp
  refine tk (L' := [(2, (Vp q2))]) (H' := [(Ur q2 30 (C5 false 0))]) [0] (uc rfl un) (pc rfl pn) ?_
  exact tx_ret1' Tryz.results27 rfl () (rv_imp' (x := (Ag (C5 false 0))) (y := (Ag [(Vb false), (Sl (Ki .u32) []), (Vi 0)])) (rv_cell_agg' (i := 0) (o := 0) (nn := 3) rfl (ar rfl rfl rfl rfl) rfl agg30 rfl) (imp_ag ⟨imp_refl, imp_nil, imp_refl, trivial⟩)) (List.nil_sublist _)
 replace hp := (br_f h1).symm.trans hp
 refine cr fun K8 hK8 => ?_
 refine sb rfl rfl eg_int ru_eql ?_
 refine sa rfl ?_
 refine nk hK8 ?_
 refine cx_cond' rfl (fun h2 => ?_) (fun h2 => ?_)
 ·replace hp := (br_t h2).symm.trans hp
  refine cx_region' ?_
  refine sa rfl ?_
  refine sx_nil' ?_
  show TX E K4 _
  exact tk [0] (u4 rfl rfl rfl rfl) (pc rfl pn) (hK4 ((icv .i64 (iand .u64 (fbits a0) 4503599627370495)), 1) hp)
 replace hp := (br_f h2).symm.trans hp
 refine cx_region' ?_
 refine sm rfl ?_
 refine sb rfl rfl eg_int ru_add ?_
 refine sa rfl ?_
 refine sx_nil' ?_
 show TX E K4 _
 exact tk [0] (u4 rfl rfl rfl rfl) (pc rfl pn) (hK4 ((iadd .i64 (icv .i64 (iand .u64 (fbits a0) 4503599627370495)) 4503599627370496), (icv .i64 (iand .u64 r12 2047))) hp)

def spec_PointOf (k a0 a1 : Nat) : Option (Bool × (List Int) × Int × Bool × (List Int) × Int) :=
 (spec_DyadicOf k a0) >>= fun r6 =>
 (spec_DyadicOf k a1) >>= fun r8 =>
 some (r6.1, r6.2.1, r6.2.2, r8.1, r8.2.1, r8.2.2)

theorem spec_PointOf_sim {k : Nat}  (a0 a1 : Nat) {out : Bool × (List Int) × Int × Bool × (List Int) × Int} (hp : spec_PointOf k a0 a1 = some out) : Sx.Fn Tryz.prog 11 (C4 a0 a1) [] (fun w : Unit => (Ag (C0 out.1 out.2.1 out.2.2.1 out.2.2.2.1 out.2.2.2.2.1 out.2.2.2.2.2))) (fun w => []) := by
 unfold spec_PointOf at hp
 refine fn_of Tryz.func11 rfl Tryz.ntmps11 rfl fun E hM => ?_
 refine cr fun K1 hK1 => ?_
 refine so (ox_alloc' info32 rfl rfl rfl rfl (l := (C1 false 0 false 0)) rfl) fun q4 => ?_
 refine nk hK1 ?_
 refine cr fun K2 hK2 => ?_
 refine sm rfl ?_
 obtain ⟨r6, hr6, hp⟩ := bind_some hp
 refine so (oz (ent_fn' Tryz.func27 isn27 rfl rfl) (spec_DyadicOf_sim _ hr6)) fun ⟨⟩ => ?_
 refine sm rfl ?_
 obtain ⟨r8, hr8, hp⟩ := bind_some hp
 refine so (oz (ent_fn' Tryz.func27 isn27 rfl rfl) (spec_DyadicOf_sim _ hr8)) fun ⟨⟩ => ?_
 refine sv (pls := [(0, 3), (3, 3)]) (qs := [(0, (C2 r6.1 r6.2.1 r6.2.2)), (1, (C2 r8.1 r8.2.1 r8.2.2))]) (r := (C0 r6.1 r6.2.1 r6.2.2 r8.1 r8.2.1 r8.2.2)) ⟨rfl, ⟨_, rfl, (lv_ag _)⟩, ⟨rfl, ⟨_, rfl, (lv_ag _)⟩, trivial⟩⟩ Tryz.underlying32 has32 places32 info32 rfl rfl rfl ?_
 refine so (ox_store' (i := 0) (o := 0) rfl rfl (lv_ag _) (ar rfl rfl rfl rfl) rfl info32 rfl (H' := [(Ur q4 32 (C0 r6.1 r6.2.1 r6.2.2 r8.1 r8.2.1 r8.2.2))]) rfl) fun _ => ?_
 refine nk hK2 ?_
 refine cx_retc' ?_
 replace hp := sj hp
 subst hp
 refine tk (L' := [(4, (Vp q4))]) (H' := [(Ur q4 32 (C0 r6.1 r6.2.1 r6.2.2 r8.1 r8.2.1 r8.2.2))]) [0] (uc rfl un) (pc rfl pn) ?_
 exact tx_ret1' Tryz.results11 rfl () (rv_cell_agg' (i := 0) (o := 0) (nn := 6) rfl (ar rfl rfl rfl rfl) rfl agg32 rfl) (List.nil_sublist _)

def laws_exactly (k a0_0 a0_1 : Nat) : Option (Bool × (List Int) × Int × Bool × (List Int) × Int) :=
 (spec_PointOf k a0_0 a0_1) >>= fun r7 =>
 some (r7.1, r7.2.1, r7.2.2.1, r7.2.2.2.1, r7.2.2.2.2.1, r7.2.2.2.2.2)

theorem laws_exactly_sim {k : Nat}  (a0_0 a0_1 : Nat) {out : Bool × (List Int) × Int × Bool × (List Int) × Int} (hp : laws_exactly k a0_0 a0_1 = some out) : Sx.Fn Tryz.prog 5 [(Ag (C4 a0_0 a0_1))] [] (fun w : Unit => (Ag (C0 out.1 out.2.1 out.2.2.1 out.2.2.2.1 out.2.2.2.2.1 out.2.2.2.2.2))) (fun w => []) := by
 unfold laws_exactly at hp
 refine fn_of Tryz.func5 rfl Tryz.ntmps5 rfl fun E hM => ?_
 refine cr fun K1 hK1 => ?_
 refine so (ox_box' rfl (lv_ag _) rfl rfl) fun q1 => ?_
 refine so (ox_alloc' info32 rfl rfl rfl rfl (l := (C1 false 0 false 0)) rfl) fun q2 => ?_
 refine nk hK1 ?_
 refine cr fun K2 hK2 => ?_
 refine sf rfl Tryz.underlying24 rfl info22 rfl ?_
 refine sl (i := 1) (o := 0) rfl (ar rfl rfl rfl rfl) rfl flat22 ?_
 refine sg (off := 1) rfl Tryz.underlying24 rfl info22 rfl ?_
 refine sl (i := 1) (o := 1) rfl (ar rfl rfl rfl rfl) rfl flat22 ?_
 obtain ⟨r7, hr7, hp⟩ := bind_some hp
 refine so (oz (ent_fn' Tryz.func11 isn11 rfl rfl) (spec_PointOf_sim _ _ hr7)) fun ⟨⟩ => ?_
 refine so (ox_store' (i := 0) (o := 0) rfl rfl (lv_ag _) (ar rfl rfl rfl rfl) rfl info32 rfl (H' := [(Ur q2 32 (C0 r7.1 r7.2.1 r7.2.2.1 r7.2.2.2.1 r7.2.2.2.2.1 r7.2.2.2.2.2)), (Ur q1 24 (C4 a0_0 a0_1))]) rfl) fun _ => ?_
 refine nk hK2 ?_
 refine cx_retc' ?_
 replace hp := sj hp
 subst hp
 refine tk (L' := [(2, (Vp q2))]) (H' := [(Ur q2 32 (C0 r7.1 r7.2.1 r7.2.2.1 r7.2.2.2.1 r7.2.2.2.2.1 r7.2.2.2.2.2))]) [0] (uc rfl un) (pc rfl pn) ?_
 exact tx_ret1' Tryz.results5 rfl () (rv_cell_agg' (i := 0) (o := 0) (nn := 6) rfl (ar rfl rfl rfl rfl) rfl agg32 rfl) (List.nil_sublist _)

def spec_Whole_Minus_j1 (k : Nat) (a0_1 : List Int) (x1 : Bool) : Option (Bool × (List Int)) :=
 some (x1, a0_1)
def spec_Whole_Minus (k : Nat) (a0_0 : Bool) (a0_1 : List Int) : Option (Bool × (List Int)) :=
 br (!a0_0)
  (spec_Whole_Minus_j1 k a0_1 (decide (0 < (a0_1.length : Int))))
  (spec_Whole_Minus_j1 k a0_1 false)

theorem spec_Whole_Minus_sim {k : Nat}  (a0_0 : Bool) (a0_1 : List Int) {out : Bool × (List Int)} (hp : spec_Whole_Minus k a0_0 a0_1 = some out) : Sx.Fn Tryz.prog 49 [(Ag (C3 a0_0 a0_1))] [] (fun w : Unit => (Ag (C3 out.1 out.2))) (fun w => []) := by
 unfold spec_Whole_Minus at hp
 refine fn_of Tryz.func49 rfl Tryz.ntmps49 rfl fun E hM => ?_
 refine cr fun K1 hK1 => ?_
 refine so (ox_box' rfl (lv_ag _) rfl rfl) fun q1 => ?_
 refine so (ox_alloc' info28 rfl rfl rfl rfl (l := [(Vb false), Vn]) rfl) fun q2 => ?_
 refine nk hK1 ?_
 refine cr fun K2 hK2 => ?_
 refine sf rfl Tryz.underlying28 rfl info4 rfl ?_
 refine sl (i := 1) (o := 0) rfl (ar rfl rfl rfl rfl) rfl flat4 ?_
 refine s0 (rd_un' rfl ru_not) ?_
 refine sm rfl ?_
 refine sx_cutn' 5 (fun (v1 : Bool) => (⟨15, [], [(1, (Vp q1)), (2, (Vp q2)), (11, (Vb v1))], [(Ur q1 28 (C3 a0_0 a0_1)), (Ur q2 28 [(Vb false), Vn])]⟩ : St)) (fun (v1 : Bool) => spec_Whole_Minus_j1 k a0_1 v1 = some out) ?_ ?_
 ·rintro x1 hp
  replace hp : spec_Whole_Minus_j1 k a0_1 x1 = some out := hp
  unfold spec_Whole_Minus_j1 at hp
  refine sg (off := 1) rfl Tryz.underlying28 rfl info26 rfl ?_
  refine sl (i := 0) (o := 1) rfl (ar rfl rfl rfl rfl) rfl flat26 ?_
  refine sv (pls := [(0, 1), (1, 1)]) (qs := [(0, [(Vb x1)]), (1, [(Sl (Ki .u32) a0_1)])]) (r := (C3 x1 a0_1)) ⟨rfl, ⟨_, rfl, (lv_vl rfl rfl)⟩, ⟨rfl, ⟨_, rfl, (lv_sl _ _)⟩, trivial⟩⟩ Tryz.underlying28 has28 places28 info28 rfl rfl rfl ?_
  refine so (ox_store' (i := 1) (o := 0) rfl rfl (lv_ag _) (ar rfl rfl rfl rfl) rfl info28 rfl (H' := [(Ur q1 28 (C3 a0_0 a0_1)), (Ur q2 28 (C3 x1 a0_1))]) rfl) fun _ => ?_
  refine nk hK2 ?_
  refine cx_retc' ?_
  replace hp := sj hp
  subst hp
  refine tk (L' := [(2, (Vp q2))]) (H' := [(Ur q2 28 (C3 x1 a0_1))]) [1] (uc rfl un) (pc rfl pn) ?_
  exact tx_ret1' Tryz.results49 rfl () (rv_cell_agg' (i := 0) (o := 0) (nn := 2) rfl (ar rfl rfl rfl rfl) rfl agg28 rfl) (List.nil_sublist _)
 intro K3 hK3
 rcases br_cases hp with ⟨h1, hp⟩ | ⟨h1, hp⟩
 ·refine sx_rd' (rd_field' (off := 1) rfl Tryz.underlying28 rfl info26 rfl) rfl rfl (wt_is' (wt_guard' rfl rfl rfl) (beq_tt h1)) ?_
  refine sx_rd' (rd_load' (i := 1) (o := 1) rfl (ar rfl rfl rfl rfl) rfl flat26) rfl rfl (wt_is' (wt_guard' rfl rfl rfl) (beq_tt h1)) ?_
  refine sx_rd' (rd_len' rfl Tryz.underlying26) rfl rfl (wt_is' (wt_guard' rfl rfl rfl) (beq_tt h1)) ?_
  refine sx_rd' (rd_bin' rfl rfl eg_int ru_gtr) rfl rfl (wt_is' (wt_guard' rfl rfl rfl) (beq_tt h1)) ?_
  refine s0 (rd_pick_true' rfl h1 rfl) ?_
  refine sx_nil' ?_
  show TX E K3 _
  exact tk [1,0] (u3 rfl rfl rfl) (p2 rfl rfl) (hK3 (decide (0 < (a0_1.length : Int))) hp)
 iterate 4 refine sx_skip' rfl rfl (wt_is' (wt_guard' rfl rfl rfl) (beq_ft h1)) ?_
 refine s0 (rd_pick_false' rfl h1 rfl) ?_
 refine sx_nil' ?_
 show TX E K3 _
 exact tk [1,0] (u3 rfl rfl rfl) (p2 rfl rfl) (hK3 false hp)

def spec_Dyadic_Minus (k : Nat) (a0_0 : Bool) (a0_1 : List Int) (a0_2 : Int) : Option (Bool × (List Int) × Int) :=
 (spec_Whole_Minus k a0_0 a0_1) >>= fun r5 =>
 some (r5.1, r5.2, a0_2)

theorem spec_Dyadic_Minus_sim {k : Nat}  (a0_0 : Bool) (a0_1 : List Int) (a0_2 : Int) {out : Bool × (List Int) × Int} (hp : spec_Dyadic_Minus k a0_0 a0_1 a0_2 = some out) : Sx.Fn Tryz.prog 37 [(Ag (C2 a0_0 a0_1 a0_2))] [] (fun w : Unit => (Ag (C2 out.1 out.2.1 out.2.2))) (fun w => []) := by
 unfold spec_Dyadic_Minus at hp
 refine fn_of Tryz.func37 rfl Tryz.ntmps37 rfl fun E hM => ?_
 refine cr fun K1 hK1 => ?_
 refine so (ox_box' rfl (lv_ag _) rfl rfl) fun q1 => ?_
 refine so (ox_alloc' info30 rfl rfl rfl rfl (l := (C5 false 0)) rfl) fun q2 => ?_
 refine nk hK1 ?_
 refine cx_seq' fun K2 hK2 => ?_
 refine cx_plan' [] [(6, 1)] [(0, 1), (1, 1), (3, 1), (4, 1), (2, 0), (5, 1), (6, 0)] mixed (by kernel_rfl) ?_
 refine pd rfl (rd_field0' rfl Tryz.underlying30 rfl info28 rfl) ?_
 refine pd rfl (rd_load_agg' (i := 1) (o := 0) (nn := 2) rfl (ar rfl rfl rfl rfl) rfl agg28 (l' := (C3 a0_0 a0_1)) rfl) ?_
 refine pd rfl (rd_field' (off := 2) rfl Tryz.underlying30 rfl info3 rfl) ?_
 refine pd rfl (rd_load' (i := 1) (o := 2) rfl (ar rfl rfl rfl rfl) rfl flat3) ?_
 obtain ⟨r5, hr5, hp⟩ := bind_some hp
 refine px_ox' rfl (oz (ent_fn' Tryz.func49 isn49 rfl rfl) (spec_Whole_Minus_sim _ _ hr5)) rfl bs_nil (wt_none' rfl) fun ⟨⟩ => ?_
 refine pd rfl (rd_build' (pls := [(0, 2), (2, 1)]) (qs := [(0, (C3 r5.1 r5.2)), (1, [(Vi a0_2)])]) (r := (C2 r5.1 r5.2 a0_2)) ⟨rfl, ⟨_, rfl, (lv_ag _)⟩, ⟨rfl, ⟨_, rfl, (lv_vl rfl rfl)⟩, trivial⟩⟩ Tryz.underlying30 has30 places30 info30 rfl rfl rfl) ?_
 refine px_oxv' rfl (oxv_store (i := 0) (o := 0) rfl rfl (lv_ag _) (ar rfl rfl rfl rfl) rfl info30 rfl (H' := [(Ur q2 30 (C2 r5.1 r5.2 a0_2)), (Ur q1 30 (C2 a0_0 a0_1 a0_2))]) rfl) rfl rfl bo_nil (wt_none' rfl) fun _ => ?_
 refine px_nil' ?_
 show TX E K2 _
 refine tx_k' hK2 ?_
 refine cx_retc' ?_
 replace hp := sj hp
 subst hp
 refine tk (L' := [(2, (Vp q2))]) (H' := [(Ur q2 30 (C2 r5.1 r5.2 a0_2))]) [0] (uc rfl un) (pc rfl pn) ?_
 exact tx_ret1' Tryz.results37 rfl () (rv_cell_agg' (i := 0) (o := 0) (nn := 3) rfl (ar rfl rfl rfl rfl) rfl agg30 rfl) (List.nil_sublist _)

def spec_Whole_Sign (k : Nat) (a0_0 : Bool) (a0_1 : List Int) : Option (Int) :=
 br (decide ((a0_1.length : Int) = 0))
  (some 0)
  (br a0_0
   (some (-1))
   (some 1))

theorem spec_Whole_Sign_sim {k : Nat}  (a0_0 : Bool) (a0_1 : List Int) {out : Int} (hp : spec_Whole_Sign k a0_0 a0_1 = some out) : Sx.Fn Tryz.prog 39 [(Ag (C3 a0_0 a0_1))] [] (fun w : Unit => (Vi out)) (fun w => []) := by
 unfold spec_Whole_Sign at hp
 refine fn_of Tryz.func39 rfl Tryz.ntmps39 rfl fun E hM => ?_
 refine cr fun K1 hK1 => ?_
 refine so (ox_box' rfl (lv_ag _) rfl rfl) fun q1 => ?_
 refine sa rfl ?_
 refine nk hK1 ?_
 refine cx_seq' fun K2 hK2 => ?_
 refine cx_block' ?_
 refine cr fun K3 hK3 => ?_
 refine sg (off := 1) rfl Tryz.underlying28 rfl info26 rfl ?_
 refine sl (i := 0) (o := 1) rfl (ar rfl rfl rfl rfl) rfl flat26 ?_
 refine sk rfl Tryz.underlying26 ?_
 refine sb rfl rfl eg_int ru_eql ?_
 refine sa rfl ?_
 refine nk hK3 ?_
 refine cx_cond' rfl (fun h1 => ?_) (fun h1 => ?_)
 ·replace hp := (br_t h1).symm.trans hp
  refine cr fun K4 hK4 => ?_
  refine sa rfl ?_
  refine nk hK4 ?_
  refine cx_retc' ?_
  replace hp := sj hp
  subst hp
  refine tk (L' := [(2, (Vi 0))]) (H' := []) [] (uc rfl un) pn ?_
  exact tx_ret1' Tryz.results39 rfl () (rv_tmp' rfl) lr
 replace hp := (br_f h1).symm.trans hp
 refine cr fun K5 hK5 => ?_
 refine sf rfl Tryz.underlying28 rfl info4 rfl ?_
 refine sl (i := 0) (o := 0) rfl (ar rfl rfl rfl rfl) rfl flat4 ?_
 refine sa rfl ?_
 refine nk hK5 ?_
 refine cx_cond' rfl (fun h2 => ?_) (fun h2 => ?_)
 ·replace hp := (br_t h2).symm.trans hp
  refine cr fun K6 hK6 => ?_
  refine sa rfl ?_
  refine nk hK6 ?_
  refine cx_retc' ?_
  replace hp := sj hp
  subst hp
  refine tk (L' := [(2, (Vi (-1)))]) (H' := []) [] (uc rfl un) pn ?_
  exact tx_ret1' Tryz.results39 rfl () (rv_tmp' rfl) lr
 replace hp := (br_f h2).symm.trans hp
 refine cx_skip' ?_
 show TX E K2 _
 refine tx_k' hK2 ?_
 refine cr fun K7 hK7 => ?_
 refine sa rfl ?_
 refine nk hK7 ?_
 refine cx_retc' ?_
 replace hp := sj hp
 subst hp
 refine tk (L' := [(2, (Vi 1))]) (H' := []) [] (uc rfl un) pn ?_
 exact tx_ret1' Tryz.results39 rfl () (rv_tmp' rfl) lr

def spec_Dyadic_Sign (k : Nat) (a0_0 : Bool) (a0_1 : List Int) (a0_2 : Int) : Option (Int) :=
 (spec_Whole_Sign k a0_0 a0_1) >>= fun r5 =>
 some r5

theorem spec_Dyadic_Sign_sim {k : Nat}  (a0_0 : Bool) (a0_1 : List Int) (a0_2 : Int) {out : Int} (hp : spec_Dyadic_Sign k a0_0 a0_1 a0_2 = some out) : Sx.Fn Tryz.prog 17 [(Ag (C2 a0_0 a0_1 a0_2))] [] (fun w : Unit => (Vi out)) (fun w => []) := by
 unfold spec_Dyadic_Sign at hp
 refine fn_of Tryz.func17 rfl Tryz.ntmps17 rfl fun E hM => ?_
 refine cr fun K1 hK1 => ?_
 refine so (ox_box' rfl (lv_ag _) rfl rfl) fun q1 => ?_
 refine sa rfl ?_
 refine nk hK1 ?_
 refine cr fun K2 hK2 => ?_
 refine sf rfl Tryz.underlying30 rfl info28 rfl ?_
 refine s0 (rd_load_agg' (i := 0) (o := 0) (nn := 2) rfl (ar rfl rfl rfl rfl) rfl agg28 (l' := (C3 a0_0 a0_1)) rfl) ?_
 obtain ⟨r5, hr5, hp⟩ := bind_some hp
 refine so (oz (ent_fn' Tryz.func39 isn39 rfl rfl) (spec_Whole_Sign_sim _ _ hr5)) fun ⟨⟩ => ?_
 refine sa rfl ?_
 refine nk hK2 ?_
 refine cx_retc' ?_
 replace hp := sj hp
 subst hp
 refine tk (L' := [(2, (Vi r5))]) (H' := []) [] (uc rfl un) pn ?_
 exact tx_ret1' Tryz.results17 rfl () (rv_tmp' rfl) lr

def spec_Whole_Up_l1s (a0_1 : List Int) (a1 : Int) (k : Nat) (rec1 : ((List Int) × Int × Int) → Option ((List Int) × Int)) (x1 : List Int) (x2 x3 : Int) : Option ((List Int) × Int) :=
 br (decide (x3 < (a0_1.length : Int)))
  ((idx a0_1 x3) >>= fun r30 =>
  (irem a1 32) >>= fun r35 =>
  (ishl .u64 (icv .u64 r30) r35) >>= fun r36 =>
  (apd 4 x1 ([ior .u32 (icv .u32 r36) x2])) >>= fun r43 =>
  (ishr .u64 r36 32) >>= fun r45 =>
  rec1 (r43, (icv .u32 r45), (iadd .i64 x3 1)))
  (some (x1, x2))
def spec_Whole_Up_l1 (a0_1 : List Int) (a1 : Int) : Nat → ((List Int) × Int × Int) → Option ((List Int) × Int)
 | 0, _ => none
 | k + 1, v => spec_Whole_Up_l1s a0_1 a1 k (spec_Whole_Up_l1 a0_1 a1 k) v.1 v.2.1 v.2.2
def spec_Whole_Up (k : Nat) (a0_0 : Bool) (a0_1 : List Int) (a1 : Int) : Option (Bool × (List Int)) :=
 br (decide ((a0_1.length : Int) = 0))
  (some (a0_0, a0_1))
  ((iquo .i64 a1 32) >>= fun r16 =>
  (iquo .i64 a1 32) >>= fun r18 =>
  (mk 4 0 r16 (iadd .i64 (iadd .i64 r18 (a0_1.length : Int)) 1)) >>= fun r24 =>
  (spec_Whole_Up_l1 a0_1 a1 k (r24, 0, 0)) >>= fun v2 =>
  (apd 4 v2.1 ([v2.2])) >>= fun r53 =>
  (spec_trim k r53) >>= fun r54 =>
  some (a0_0, r54))

theorem spec_Whole_Up_sim {k : Nat}  (a0_0 : Bool) (a0_1 : List Int) (a1 : Int) {out : Bool × (List Int)} (hp : spec_Whole_Up k a0_0 a0_1 a1 = some out) : Sx.Fn Tryz.prog 40 [(Ag (C3 a0_0 a0_1)), (Vi a1)] [] (fun w : Unit => (Ag (C3 out.1 out.2))) (fun w => []) := by
 unfold spec_Whole_Up at hp
 refine fn_of Tryz.func40 rfl Tryz.ntmps40 rfl fun E hM => ?_
 refine cr fun K1 hK1 => ?_
 refine so (ox_box' rfl (lv_ag _) rfl rfl) fun q2 => ?_
 refine so (ox_alloc' info28 rfl rfl rfl rfl (l := [(Vb false), Vn]) rfl) fun q4 => ?_
 refine nk hK1 ?_
 refine cx_seq' fun K2 hK2 => ?_
 refine cr fun K3 hK3 => ?_
 refine sg (off := 1) rfl Tryz.underlying28 rfl info26 rfl ?_
 refine sl (i := 1) (o := 1) rfl (ar rfl rfl rfl rfl) rfl flat26 ?_
 refine sk rfl Tryz.underlying26 ?_
 refine sb rfl rfl eg_int ru_eql ?_
 refine nk hK3 ?_
 refine cx_cond' rfl (fun h1 => ?_) (fun h1 => ?_)
 ·replace hp := (br_t h1).symm.trans hp
  refine cr fun K4 hK4 => ?_
  refine s0 (rd_load_agg' (i := 1) (o := 0) (nn := 2) rfl (ar rfl rfl rfl rfl) rfl agg28 (l' := (C3 a0_0 a0_1)) rfl) ?_
  refine so (ox_store' (i := 0) (o := 0) rfl rfl (lv_ag _) (ar rfl rfl rfl rfl) rfl info28 rfl (H' := [(Ur q4 28 (C3 a0_0 a0_1)), (Ur q2 28 (C3 a0_0 a0_1))]) rfl) fun _ => ?_
  refine nk hK4 ?_
  refine cx_retc' ?_
  replace hp := sj hp
  subst hp
  refine tk (L' := [(4, (Vp q4))]) (H' := [(Ur q4 28 (C3 a0_0 a0_1))]) [0] (uc rfl un) (pc rfl pn) ?_
  exact tx_ret1' Tryz.results40 rfl () (rv_cell_agg' (i := 0) (o := 0) (nn := 2) rfl (ar rfl rfl rfl rfl) rfl agg28 rfl) (List.nil_sublist _)
 replace hp := (br_f h1).symm.trans hp
 refine cx_skip' ?_
 show TX E K2 _
 refine tx_k' hK2 ?_
 refine cr fun K5 hK5 => ?_
 refine sm rfl ?_
 obtain ⟨r16, hr16, hp⟩ := bind_some hp
 refine sb rfl rfl eg_int (ru_quo hr16) ?_
 refine sm rfl ?_
 obtain ⟨r18, hr18, hp⟩ := bind_some hp
 refine sb rfl rfl eg_int (ru_quo hr18) ?_
 refine sg (off := 1) rfl Tryz.underlying28 rfl info26 rfl ?_
 refine sl (i := 1) (o := 1) rfl (ar rfl rfl rfl rfl) rfl flat26 ?_
 refine sk rfl Tryz.underlying26 ?_
 iterate 2 refine sb rfl rfl eg_int ru_add ?_
 obtain ⟨r24, hr24, hp⟩ := bind_some hp
 refine so (ox_make' (K := (Ki .u32)) rfl rfl hr24 rfl Tryz.underlying26 info97 rfl rfl rfl rfl rfl) fun g24 => ?_
 refine sa rfl ?_
 refine nk hK5 ?_
 refine cr fun K6 hK6 => ?_
 refine sa rfl ?_
 refine nk hK6 ?_
 refine cx_seq' fun K7 hK7 => ?_
 refine cr fun K8 hK8 => ?_
 refine sg (off := 1) rfl Tryz.underlying28 rfl info26 rfl ?_
 refine sl (i := 2) (o := 1) rfl (ar rfl rfl rfl rfl) rfl flat26 ?_
 refine sk rfl Tryz.underlying26 ?_
 refine sm rfl ?_
 refine nk hK8 ?_
 refine cx_block' ?_
 obtain ⟨v2, hy1, hp⟩ := bind_some hp
 refine cx_loopg' (F := spec_Whole_Up_l1 a0_1 a1) (G := fun k R v => spec_Whole_Up_l1s a0_1 a1 k R v.1 v.2.1 v.2.2) (x := (r24, 0, 0)) (gh := g24) (fun (v1 : (List Int) × Int × Int) (w1 : Gs) => (⟨56, [], [(1, (Vi a1)), (2, (Vp q2)), (4, (Vp q4)), (5, (Vw w1)), (6, (Vl (.int .u32 v1.2.1))), (26, (Sl (Ki .u32) a0_1)), (27, (Vi (a0_1.length : Int))), (28, (Vi v1.2.2))], [(Ur q2 28 (C3 a0_0 a0_1)), (Ur q4 28 [(Vb false), Vn]), (Rg (Ki .u32) 97 w1 v1.1)]⟩ : St)) (fun (v2 : (List Int) × Int) => Zg E (Exit.exit 0) (fun (w2 : Gs) => (⟨56, [], [(2, (Vp q2)), (4, (Vp q4)), (5, (Vw w2)), (6, (Vl (.int .u32 v2.2)))], [(Ur q2 28 (C3 a0_0 a0_1)), (Ur q4 28 [(Vb false), Vn]), (Rg (Ki .u32) 97 w2 v2.1)]⟩ : St))) (fun _ => rfl) (fun _ _ => rfl) ?_ hy1 (tx_to' rfl [2, 1, 0] (u8 rfl rfl rfl rfl rfl rfl rfl rfl) (by decide) (p3 rfl rfl rfl)) ?_
 ·clear hp hy1
  clear v2
  intro k rec1 KY1 ih1
  rintro ⟨x1, x2, x3⟩ g901 y1 hp
  replace hp : spec_Whole_Up_l1s a0_1 a1 k rec1 x1 x2 x3 = some y1 := hp
  unfold spec_Whole_Up_l1s at hp
  refine cr fun K15 hK15 => ?_
  refine sb rfl rfl eg_int ru_lss ?_
  refine nk hK15 ?_
  refine cx_seq' fun K16 hK16 => ?_
  refine cx_cond' rfl (fun h4 => ?_) (fun h4 => ?_)
  ·replace hp := (br_t h4).symm.trans hp
   refine cx_skip' ?_
   show TX E K16 _
   refine tx_k' hK16 ?_
   refine cx_seq' fun K17 hK17 => ?_
   refine cx_block' ?_
   refine cr fun K18 hK18 => ?_
   obtain ⟨r30, hr30, hp⟩ := bind_some hp
   refine s0 (rd_at' (K := (Ki .u32)) rfl rfl hr30 Tryz.underlying26 info97) ?_
   refine s0 (rd_load_pt' rfl rfl flat97) ?_
   refine sa rfl ?_
   refine nk hK18 ?_
   refine cr fun K19 hK19 => ?_
   refine sm rfl ?_
   refine s0 (rd_conv' rfl (ru_i2i (by rw [Tryz.underlying97]; rfl) Tryz.underlying91)) ?_
   refine sm rfl ?_
   obtain ⟨r35, hr35, hp⟩ := bind_some hp
   refine sb rfl rfl eg_int (ru_rem hr35) ?_
   obtain ⟨r36, hr36, hp⟩ := bind_some hp
   refine sb rfl rfl eg_int (ru_shl hr36) ?_
   refine sa rfl ?_
   refine nk hK19 ?_
   refine cr fun K20 hK20 => ?_
   iterate 2 refine sm rfl ?_
   refine s0 (rd_conv' rfl (ru_i2i (by rw [Tryz.underlying91]; rfl) Tryz.underlying97)) ?_
   refine sm rfl ?_
   refine sb rfl rfl eg_int ru_or ?_
   refine so (ox_rowlit' (K := (Ki .u32)) (xs := [ior .u32 (icv .u32 r36) x2]) (qs := [(0, [(Vl (.int .u32 (ior .u32 (icv .u32 r36) x2)))])]) ⟨rfl, ⟨_, rfl, (lv_vl rfl rfl)⟩, trivial⟩ Tryz.underlying26 info97 rfl rfl rfl rfl rfl (by kernel_rfl) rfl rfl rfl) fun g42 => ?_
   obtain ⟨r43, hr43, hp⟩ := bind_some hp
   refine so (ox_append' (K := (Ki .u32)) (i := 3) (xs := x1) (ys := ([ior .u32 (icv .u32 r36) x2])) rfl rfl rfl (sr_row' (j := 0) rfl rfl rfl Tryz.underlying26) hr43 Tryz.underlying26 info97 rfl rfl rfl (H' := [(Rg (Ki .u32) 97 g42 ([ior .u32 (icv .u32 r36) x2])), (Ur q2 28 (C3 a0_0 a0_1)), (Ur q4 28 [(Vb false), Vn])]) rfl) fun g43 => ?_
   refine sa rfl ?_
   refine nk hK20 ?_
   refine cx_region' ?_
   refine sm rfl ?_
   obtain ⟨r45, hr45, hp⟩ := bind_some hp
   refine sb rfl rfl eg_int (ru_shr hr45) ?_
   refine s0 (rd_conv' rfl (ru_i2i (by rw [Tryz.underlying91]; rfl) Tryz.underlying97)) ?_
   refine sa rfl ?_
   refine nk hK17 ?_
   refine cx_region' ?_
   refine sb rfl rfl eg_int ru_add ?_
   refine sm rfl ?_
   refine sx_nil' ?_
   show TX E (KY1 _) _
   exact tk [2,3,0] (u8 rfl rfl rfl rfl rfl rfl rfl rfl) (p3 rfl rfl rfl) (ih1 (r43, (icv .u32 r45), (iadd .i64 x3 1)) g43 _ hp)
  replace hp := (br_f h4).symm.trans hp
  refine cx_exit' ?_
  replace hp := sj hp
  subst hp
  show TX E (Zg E (Exit.exit 0) _ (Exit.exit 0)) _
  exact tx_zend' g901 rfl [0, 1, 2] (u4 rfl rfl rfl rfl) (by decide) (p3 rfl rfl rfl)
 refine zg_out fun w2 => ?_
 show TX E K7 _
 refine tx_k' hK7 ?_
 refine cx_seq' fun K21 hK21 => ?_
 refine cx_plan' [q2.block] [(5, 1), (8, 1)] [(0, 2), (1, 2), (2, 1), (3, 1), (4, 0), (5, 0), (6, 0), (7, 1), (8, 0)] mixed (by kernel_rfl) ?_
 refine px_rb' rfl (rb_field0' rfl Tryz.underlying28 rfl info4 rfl) rfl rfl (wt_none' rfl) ?_
 refine px_rb' rfl (rb_load' (i := 0) (o := 0) rfl (ar rfl rfl rfl rfl) rfl flat4 (by simp)) rfl rfl (wt_none' rfl) ?_
 iterate 2 refine pd rfl (rd_move' rfl) ?_
 refine px_ox' rfl (ox_rowlit' (K := (Ki .u32)) (xs := [v2.2]) (qs := [(0, [(Vl (.int .u32 v2.2))])]) ⟨rfl, ⟨_, rfl, (lv_vl rfl rfl)⟩, trivial⟩ Tryz.underlying26 info97 rfl rfl rfl rfl rfl (by kernel_rfl) rfl rfl rfl) rfl (bs_cons (m := 0) rfl rfl rfl bs_nil) (wt_none' rfl) fun g52 => ?_
 obtain ⟨r53, hr53, hp⟩ := bind_some hp
 refine px_ox' rfl (ox_append' (K := (Ki .u32)) (i := 3) (xs := v2.1) (ys := ([v2.2])) rfl rfl rfl (sr_row' (j := 0) rfl rfl rfl Tryz.underlying26) hr53 Tryz.underlying26 info97 rfl rfl rfl (H' := [(Rg (Ki .u32) 97 g52 ([v2.2])), (Ur q2 28 (C3 a0_0 a0_1)), (Ur q4 28 [(Vb false), Vn])]) rfl) rfl (bs_cons (m := 1) rfl rfl rfl bs_nil) (wt_none' rfl) fun g53 => ?_
 refine tx_fz' (frz_row 0 [(53, (Vw g53), (Sl (Ki .u32) r53))] (K := (Ki .u32)) (xs := r53) (by decide) rfl ⟨⟨rfl, frz_it⟩, trivial⟩ (H' := [(Rg (Ki .u32) 97 g52 ([v2.2])), (Ur q2 28 (C3 a0_0 a0_1)), (Ur q4 28 [(Vb false), Vn])]) frzH_refl) ?_
 obtain ⟨r54, hr54, hp⟩ := bind_some hp
 refine px_ox' rfl (oz (ent_fn' Tryz.func50 isn50 rfl rfl) (spec_trim_sim _ hr54)) rfl (bs_cons (m := 1) rfl rfl rfl bs_nil) (wt_none' rfl) fun ⟨⟩ => ?_
 refine pd rfl (rd_build' (pls := [(0, 1), (1, 1)]) (qs := [(0, [(Vb a0_0)]), (1, [(Sl (Ki .u32) r54)])]) (r := (C3 a0_0 r54)) ⟨rfl, ⟨_, rfl, (lv_vl rfl rfl)⟩, ⟨rfl, ⟨_, rfl, (lv_sl _ _)⟩, trivial⟩⟩ Tryz.underlying28 has28 places28 info28 rfl rfl rfl) ?_
 refine px_oxv' rfl (oxv_store (i := 2) (o := 0) rfl rfl (lv_ag _) (ar rfl rfl rfl rfl) rfl info28 rfl (H' := [(Rg (Ki .u32) 97 g52 ([v2.2])), (Ur q2 28 (C3 a0_0 a0_1)), (Ur q4 28 (C3 a0_0 r54))]) rfl) rfl rfl (bo_cons (m := 1) (by decide) rfl rfl bo_nil) (wt_none' rfl) fun _ => ?_
 refine px_nil' ?_
 show TX E K21 _
 refine tx_k' hK21 ?_
 refine cx_retc' ?_
 replace hp := sj hp
 subst hp
 refine tk (L' := [(4, (Vp q4))]) (H' := [(Ur q4 28 (C3 a0_0 r54))]) [2] (uc rfl un) (pc rfl pn) ?_
 exact tx_ret1' Tryz.results40 rfl () (rv_cell_agg' (i := 0) (o := 0) (nn := 2) rfl (ar rfl rfl rfl rfl) rfl agg28 rfl) (List.nil_sublist _)

def spec_addLimbs_j3 (k : Nat) (x5 : List Int) (rec1 : ((List Int) × Int × Int) → Option ((List Int) × Int)) (x7 x4 : Int) : Option ((List Int) × Int) :=
 (apd 4 x5 ([icv .u32 x4])) >>= fun r47 =>
 (ishr .u64 x4 32) >>= fun r49 =>
 rec1 (r47, r49, (iadd .i64 x7 1))
def spec_addLimbs_l1s (x1 x2 : List Int) (k : Nat) (rec1 : ((List Int) × Int × Int) → Option ((List Int) × Int)) (x5 : List Int) (x6 x7 : Int) : Option ((List Int) × Int) :=
 br (decide (x7 < (x1.length : Int)))
  ((idx x1 x7) >>= fun r26 =>
  br (decide (x7 < (x2.length : Int)))
   ((idx x2 x7) >>= fun r39 =>
   spec_addLimbs_j3 k x5 rec1 x7 (iadd .u64 (iadd .u64 (icv .u64 r26) x6) (icv .u64 r39)))
   (spec_addLimbs_j3 k x5 rec1 x7 (iadd .u64 (icv .u64 r26) x6)))
  (some (x5, x6))
def spec_addLimbs_l1 (x1 x2 : List Int) : Nat → ((List Int) × Int × Int) → Option ((List Int) × Int)
 | 0, _ => none
 | k + 1, v => spec_addLimbs_l1s x1 x2 k (spec_addLimbs_l1 x1 x2 k) v.1 v.2.1 v.2.2
def spec_addLimbs_j1 (k : Nat) (x1 x2 : List Int) : Option ((List Int)) :=
 (mk 4 0 0 (iadd .i64 (x1.length : Int) 1)) >>= fun r20 =>
 (spec_addLimbs_l1 x1 x2 k (r20, 0, 0)) >>= fun v5 =>
 (apd 4 v5.1 ([icv .u32 v5.2])) >>= fun r55 =>
 (spec_trim k r55) >>= fun r56 =>
 some r56
def spec_addLimbs (k : Nat) (a0 a1 : List Int) : Option ((List Int)) :=
 br (decide ((a0.length : Int) < (a1.length : Int)))
  (spec_addLimbs_j1 k a1 a0)
  (spec_addLimbs_j1 k a0 a1)

theorem spec_addLimbs_sim {k : Nat}  (a0 a1 : List Int) {out : (List Int)} (hp : spec_addLimbs k a0 a1 = some out) : Sx.Fn Tryz.prog 51 [(Sl (Ki .u32) a0), (Sl (Ki .u32) a1)] [] (fun w : Unit => (Sl (Ki .u32) out)) (fun w => []) := by
 unfold spec_addLimbs at hp
 refine fn_of Tryz.func51 rfl Tryz.ntmps51 rfl fun E hM => ?_
 refine cr fun K1 hK1 => ?_
 refine sa rfl ?_
 refine nk hK1 ?_
 refine cx_join' (fun (v1 : (List Int) × (List Int)) => (⟨57, [], [(0, (Sl (Ki .u32) v1.1)), (1, (Sl (Ki .u32) v1.2))], []⟩ : St)) (fun (v1 : (List Int) × (List Int)) => spec_addLimbs_j1 k v1.1 v1.2 = some out) ?_ ?_
 ·rintro ⟨x1, x2⟩ hp
  replace hp : spec_addLimbs_j1 k x1 x2 = some out := hp
  unfold spec_addLimbs_j1 at hp
  refine cr fun K4 hK4 => ?_
  refine sm rfl ?_
  refine sk rfl Tryz.underlying26 ?_
  refine sb rfl rfl eg_int ru_add ?_
  obtain ⟨r20, hr20, hp⟩ := bind_some hp
  refine so (ox_make' (K := (Ki .u32)) rfl rfl hr20 rfl Tryz.underlying26 info97 rfl rfl rfl rfl rfl) fun g20 => ?_
  refine sa rfl ?_
  refine nk hK4 ?_
  refine cr fun K5 hK5 => ?_
  refine sa rfl ?_
  refine nk hK5 ?_
  refine cx_seq' fun K6 hK6 => ?_
  refine cr fun K7 hK7 => ?_
  refine sm rfl ?_
  refine sk rfl Tryz.underlying26 ?_
  refine sm rfl ?_
  refine nk hK7 ?_
  refine cx_block' ?_
  obtain ⟨v5, hy1, hp⟩ := bind_some hp
  refine cx_loopg' (F := spec_addLimbs_l1 x1 x2) (G := fun k R v => spec_addLimbs_l1s x1 x2 k R v.1 v.2.1 v.2.2) (x := (r20, 0, 0)) (gh := g20) (fun (v3 : (List Int) × Int × Int) (w3 : Gs) => (⟨57, [], [(1, (Sl (Ki .u32) x2)), (5, (Vw w3)), (6, (Vl (.int .u64 v3.2.1))), (21, (Sl (Ki .u32) x1)), (22, (Vi (x1.length : Int))), (23, (Vi v3.2.2))], [(Rg (Ki .u32) 97 w3 v3.1)]⟩ : St)) (fun (v5 : (List Int) × Int) => Zg E (Exit.exit 0) (fun (w5 : Gs) => (⟨57, [], [(5, (Vw w5)), (6, (Vl (.int .u64 v5.2)))], [(Rg (Ki .u32) 97 w5 v5.1)]⟩ : St))) (fun _ => rfl) (fun _ _ => rfl) ?_ hy1 (tx_to' rfl [0] (u6 rfl rfl rfl rfl rfl rfl) (by decide) (pc rfl pn)) ?_
  ·clear hp hy1
   clear v5
   intro k rec1 KY1 ih1
   rintro ⟨x5, x6, x7⟩ g901 y1 hp
   replace hp : spec_addLimbs_l1s x1 x2 k rec1 x5 x6 x7 = some y1 := hp
   unfold spec_addLimbs_l1s at hp
   refine cr fun K16 hK16 => ?_
   refine sb rfl rfl eg_int ru_lss ?_
   refine nk hK16 ?_
   refine cx_seq' fun K17 hK17 => ?_
   refine cx_cond' rfl (fun h5 => ?_) (fun h5 => ?_)
   ·replace hp := (br_t h5).symm.trans hp
    refine cx_skip' ?_
    show TX E K17 _
    refine tx_k' hK17 ?_
    refine cx_seq' fun K18 hK18 => ?_
    refine cx_block' ?_
    refine cr fun K19 hK19 => ?_
    refine sm rfl ?_
    obtain ⟨r26, hr26, hp⟩ := bind_some hp
    refine s0 (rd_at' (K := (Ki .u32)) rfl rfl hr26 Tryz.underlying26 info97) ?_
    refine s0 (rd_load_pt' rfl rfl flat97) ?_
    iterate 2 refine sa rfl ?_
    refine nk hK19 ?_
    refine cr fun K20 hK20 => ?_
    refine sm rfl ?_
    refine s0 (rd_conv' rfl (ru_i2i (by rw [Tryz.underlying97]; rfl) Tryz.underlying91)) ?_
    refine sm rfl ?_
    refine sb rfl rfl eg_int ru_add ?_
    refine sa rfl ?_
    refine nk hK20 ?_
    refine cx_join' (fun (v4 : Int) => (⟨57, [], [(1, (Sl (Ki .u32) x2)), (5, (Vw g901)), (9, (Vl (.int .u64 v4))), (21, (Sl (Ki .u32) x1)), (22, (Vi (x1.length : Int))), (23, (Vi x7))], [(Rg (Ki .u32) 97 g901 x5)]⟩ : St)) (fun (v4 : Int) => spec_addLimbs_j3 k x5 rec1 x7 v4 = some y1) ?_ ?_
    ·rintro x4 hp
     replace hp : spec_addLimbs_j3 k x5 rec1 x7 x4 = some y1 := hp
     unfold spec_addLimbs_j3 at hp
     refine cr fun K23 hK23 => ?_
     iterate 2 refine sm rfl ?_
     refine s0 (rd_conv' rfl (ru_i2i (by rw [Tryz.underlying91]; rfl) Tryz.underlying97)) ?_
     refine so (ox_rowlit' (K := (Ki .u32)) (xs := [icv .u32 x4]) (qs := [(0, [(Vl (.int .u32 (icv .u32 x4)))])]) ⟨rfl, ⟨_, rfl, (lv_vl rfl rfl)⟩, trivial⟩ Tryz.underlying26 info97 rfl rfl rfl rfl rfl (by kernel_rfl) rfl rfl rfl) fun g46 => ?_
     obtain ⟨r47, hr47, hp⟩ := bind_some hp
     refine so (ox_append' (K := (Ki .u32)) (i := 1) (xs := x5) (ys := ([icv .u32 x4])) rfl rfl rfl (sr_row' (j := 0) rfl rfl rfl Tryz.underlying26) hr47 Tryz.underlying26 info97 rfl rfl rfl (H' := [(Rg (Ki .u32) 97 g46 ([icv .u32 x4]))]) rfl) fun g47 => ?_
     refine sa rfl ?_
     refine nk hK23 ?_
     refine cx_region' ?_
     refine sm rfl ?_
     obtain ⟨r49, hr49, hp⟩ := bind_some hp
     refine sb rfl rfl eg_int (ru_shr hr49) ?_
     refine sa rfl ?_
     refine nk hK18 ?_
     refine cx_region' ?_
     refine sb rfl rfl eg_int ru_add ?_
     refine sm rfl ?_
     refine sx_nil' ?_
     show TX E (KY1 _) _
     exact tk [0] (u6 rfl rfl rfl rfl rfl rfl) (pc rfl pn) (ih1 (r47, r49, (iadd .i64 x7 1)) g47 _ hp)
    intro K21 hK21
    refine cr fun K22 hK22 => ?_
    iterate 2 refine sm rfl ?_
    refine sk rfl Tryz.underlying26 ?_
    refine sb rfl rfl eg_int ru_lss ?_
    refine nk hK22 ?_
    refine cx_cond' rfl (fun h6 => ?_) (fun h6 => ?_)
    ·replace hp := (br_t h6).symm.trans hp
     refine cx_region' ?_
     iterate 3 refine sm rfl ?_
     obtain ⟨r39, hr39, hp⟩ := bind_some hp
     refine s0 (rd_at' (K := (Ki .u32)) rfl rfl hr39 Tryz.underlying26 info97) ?_
     refine s0 (rd_load_pt' rfl rfl flat97) ?_
     refine s0 (rd_conv' rfl (ru_i2i (by rw [Tryz.underlying97]; rfl) Tryz.underlying91)) ?_
     refine sb rfl rfl eg_int ru_add ?_
     refine sa rfl ?_
     refine sx_nil' ?_
     show TX E K21 _
     exact tk [0] (u6 rfl rfl rfl rfl rfl rfl) (pc rfl pn) (hK21 (iadd .u64 (iadd .u64 (icv .u64 r26) x6) (icv .u64 r39)) hp)
    replace hp := (br_f h6).symm.trans hp
    refine cx_skip' ?_
    show TX E K21 _
    exact tk [0] (u6 rfl rfl rfl rfl rfl rfl) (pc rfl pn) (hK21 (iadd .u64 (icv .u64 r26) x6) hp)
   replace hp := (br_f h5).symm.trans hp
   refine cx_exit' ?_
   replace hp := sj hp
   subst hp
   show TX E (Zg E (Exit.exit 0) _ (Exit.exit 0)) _
   exact tx_zend' g901 rfl [0] (u2 rfl rfl) (by decide) (pc rfl pn)
  refine zg_out fun w5 => ?_
  show TX E K6 _
  refine tx_k' hK6 ?_
  refine cr fun K24 hK24 => ?_
  iterate 2 refine sm rfl ?_
  refine s0 (rd_conv' rfl (ru_i2i (by rw [Tryz.underlying91]; rfl) Tryz.underlying97)) ?_
  refine so (ox_rowlit' (K := (Ki .u32)) (xs := [icv .u32 v5.2]) (qs := [(0, [(Vl (.int .u32 (icv .u32 v5.2)))])]) ⟨rfl, ⟨_, rfl, (lv_vl rfl rfl)⟩, trivial⟩ Tryz.underlying26 info97 rfl rfl rfl rfl rfl (by kernel_rfl) rfl rfl rfl) fun g54 => ?_
  obtain ⟨r55, hr55, hp⟩ := bind_some hp
  refine so (ox_append' (K := (Ki .u32)) (i := 1) (xs := v5.1) (ys := ([icv .u32 v5.2])) rfl rfl rfl (sr_row' (j := 0) rfl rfl rfl Tryz.underlying26) hr55 Tryz.underlying26 info97 rfl rfl rfl (H' := [(Rg (Ki .u32) 97 g54 ([icv .u32 v5.2]))]) rfl) fun g55 => ?_
  refine tx_fz' (frz_row 0 [(55, (Vw g55), (Sl (Ki .u32) r55))] (K := (Ki .u32)) (xs := r55) (by decide) rfl ⟨⟨rfl, frz_it⟩, trivial⟩ (H' := [(Rg (Ki .u32) 97 g54 ([icv .u32 v5.2]))]) frzH_refl) ?_
  obtain ⟨r56, hr56, hp⟩ := bind_some hp
  refine so (oz (ent_fn' Tryz.func50 isn50 rfl rfl) (spec_trim_sim _ hr56)) fun ⟨⟩ => ?_
  refine sa rfl ?_
  refine nk hK24 ?_
  refine cx_retc' ?_
  replace hp := sj hp
  subst hp
  refine tk (L' := [(4, (Sl (Ki .u32) r56))]) (H' := []) [] (uc rfl un) pn ?_
  exact tx_ret1' Tryz.results51 rfl () (rv_tmp' rfl) lr
 intro K2 hK2
 refine cr fun K3 hK3 => ?_
 refine sm rfl ?_
 refine sk rfl Tryz.underlying26 ?_
 refine sm rfl ?_
 refine sk rfl Tryz.underlying26 ?_
 refine sb rfl rfl eg_int ru_lss ?_
 refine nk hK3 ?_
 refine cx_cond' rfl (fun h1 => ?_) (fun h1 => ?_)
 ·replace hp := (br_t h1).symm.trans hp
  refine cx_region' ?_
  iterate 2 refine sm rfl ?_
  iterate 2 refine sa rfl ?_
  refine sx_nil' ?_
  show TX E K2 _
  exact tk [] (u2 rfl rfl) pn (hK2 (a1, a0) hp)
 replace hp := (br_f h1).symm.trans hp
 refine cx_skip' ?_
 show TX E K2 _
 exact tk [] (u2 rfl rfl) pn (hK2 (a0, a1) hp)

def spec_cmpLimbs_l1s (a0 a1 : List Int) (k : Nat) (rec1 : Int → Option (Int ⊕ Unit)) (x1 : Int) : Option (Int ⊕ Unit) :=
 br (decide (0 ≤ x1))
  ((idx a0 x1) >>= fun r25 =>
  (idx a1 x1) >>= fun r29 =>
  br (!decide (r25 = r29))
   ((idx a0 x1) >>= fun r34 =>
   (idx a1 x1) >>= fun r38 =>
   br (decide (r34 < r38))
    (some (.inl (-1)))
    (some (.inl 1)))
   (rec1 (isub .i64 x1 1)))
  (some (.inr ()))
def spec_cmpLimbs_l1 (a0 a1 : List Int) : Nat → Int → Option (Int ⊕ Unit)
 | 0, _ => none
 | k + 1, v => spec_cmpLimbs_l1s a0 a1 k (spec_cmpLimbs_l1 a0 a1 k) v
def spec_cmpLimbs (k : Nat) (a0 a1 : List Int) : Option (Int) :=
 br (!decide ((a0.length : Int) = (a1.length : Int)))
  (br (decide ((a0.length : Int) < (a1.length : Int)))
   (some (-1))
   (some 1))
  ((spec_cmpLimbs_l1 a0 a1 k (isub .i64 (a0.length : Int) 1)) >>= fun y1 => match y1 with
   | (.inl v2) =>
    (some v2)
   | (.inr v3) =>
    (some 0))

theorem spec_cmpLimbs_sim {k : Nat}  (a0 a1 : List Int) {out : Int} (hp : spec_cmpLimbs k a0 a1 = some out) : Sx.Fn Tryz.prog 52 [(Sl (Ki .u32) a0), (Sl (Ki .u32) a1)] [] (fun w : Unit => (Vi out)) (fun w => []) := by
 unfold spec_cmpLimbs at hp
 refine fn_of Tryz.func52 rfl Tryz.ntmps52 rfl fun E hM => ?_
 refine cr fun K1 hK1 => ?_
 refine sa rfl ?_
 refine nk hK1 ?_
 refine cx_seq' fun K2 hK2 => ?_
 refine cr fun K3 hK3 => ?_
 refine sm rfl ?_
 refine sk rfl Tryz.underlying26 ?_
 refine sm rfl ?_
 refine sk rfl Tryz.underlying26 ?_
 refine sb rfl rfl eg_int ru_neq ?_
 refine nk hK3 ?_
 refine cx_cond' rfl (fun h1 => ?_) (fun h1 => ?_)
 ·replace hp := (br_t h1).symm.trans hp
  refine cx_seq' fun K4 hK4 => ?_
  refine cr fun K5 hK5 => ?_
  refine sm rfl ?_
  refine sk rfl Tryz.underlying26 ?_
  refine sm rfl ?_
  refine sk rfl Tryz.underlying26 ?_
  refine sb rfl rfl eg_int ru_lss ?_
  refine nk hK5 ?_
  refine cx_cond' rfl (fun h2 => ?_) (fun h2 => ?_)
  ·replace hp := (br_t h2).symm.trans hp
   refine cr fun K6 hK6 => ?_
   refine sa rfl ?_
   refine nk hK6 ?_
   refine cx_retc' ?_
   replace hp := sj hp
   subst hp
   refine tk (L' := [(4, (Vi (-1)))]) (H' := []) [] (uc rfl un) pn ?_
   exact tx_ret1' Tryz.results52 rfl () (rv_tmp' rfl) lr
  replace hp := (br_f h2).symm.trans hp
  refine cx_skip' ?_
  show TX E K4 _
  refine tx_k' hK4 ?_
  refine cr fun K7 hK7 => ?_
  refine sa rfl ?_
  refine nk hK7 ?_
  refine cx_retc' ?_
  replace hp := sj hp
  subst hp
  refine tk (L' := [(4, (Vi 1))]) (H' := []) [] (uc rfl un) pn ?_
  exact tx_ret1' Tryz.results52 rfl () (rv_tmp' rfl) lr
 replace hp := (br_f h1).symm.trans hp
 refine cx_skip' ?_
 show TX E K2 _
 refine tx_k' hK2 ?_
 refine cx_seq' fun K8 hK8 => ?_
 refine cr fun K9 hK9 => ?_
 refine sm rfl ?_
 refine sk rfl Tryz.underlying26 ?_
 refine sb rfl rfl eg_int ru_sub ?_
 refine sa rfl ?_
 refine nk hK9 ?_
 refine cx_block' ?_
 obtain ⟨y1, hy1, hp⟩ := bind_some hp
 refine cx_loopg' (F := spec_cmpLimbs_l1 a0 a1) (G := fun k R v => spec_cmpLimbs_l1s a0 a1 k R v) (x := (isub .i64 (a0.length : Int) 1)) (gh := ()) (fun (v1 : Int) (w1 : Unit) => (⟨41, [], [(0, (Sl (Ki .u32) a0)), (1, (Sl (Ki .u32) a1)), (5, (Vi v1))], []⟩ : St)) (fun (y : Int ⊕ Unit) => match y with | (.inl v2) => Zg E Exit.ret (fun (w2 : Unit) => (⟨41, [], [(4, (Vi v2))], []⟩ : St)) | (.inr v3) => Zg E (Exit.exit 0) (fun (w3 : Unit) => (⟨41, [], [], []⟩ : St))) (fun _ => rfl) (fun _ _ => rfl) ?_ hy1 (tx_to' rfl [] (u3 rfl rfl rfl) (by decide) pn) ?_
 ·clear hp hy1
  clear y1
  intro k rec1 KY1 ih1
  rintro x1 ⟨⟩ y1 hp
  replace hp : spec_cmpLimbs_l1s a0 a1 k rec1 x1 = some y1 := hp
  unfold spec_cmpLimbs_l1s at hp
  refine cx_seq' fun K18 hK18 => ?_
  refine cr fun K19 hK19 => ?_
  refine sm rfl ?_
  refine sb rfl rfl eg_int ru_geq ?_
  refine nk hK19 ?_
  refine cx_cond' rfl (fun h7 => ?_) (fun h7 => ?_)
  ·replace hp := (br_t h7).symm.trans hp
   refine cx_skip' ?_
   show TX E K18 _
   refine tx_k' hK18 ?_
   refine cx_seq' fun K20 hK20 => ?_
   refine cx_block' ?_
   refine cx_seq' fun K21 hK21 => ?_
   refine cx_draw' mixed (by kernel_rfl) ?_
   iterate 2 refine qd (rd_move' rfl) ?_
   obtain ⟨r25, hr25, hp⟩ := bind_some hp
   refine qd (rd_at' (K := (Ki .u32)) rfl rfl hr25 Tryz.underlying26 info97) ?_
   refine qd (rd_load_pt' rfl rfl flat97) ?_
   iterate 2 refine qd (rd_move' rfl) ?_
   obtain ⟨r29, hr29, hp⟩ := bind_some hp
   refine qd (rd_at' (K := (Ki .u32)) rfl rfl hr29 Tryz.underlying26 info97) ?_
   refine qd (rd_load_pt' rfl rfl flat97) ?_
   refine qd (rd_bin' rfl rfl eg_int ru_neq) ?_
   refine qx_nil' ?_
   show TX E K21 _
   refine tx_k' hK21 ?_
   refine cx_cond' rfl (fun h8 => ?_) (fun h8 => ?_)
   ·replace hp := (br_t h8).symm.trans hp
    refine cx_seq' fun K22 hK22 => ?_
    refine cx_seq' fun K23 hK23 => ?_
    refine cx_draw' mixed (by kernel_rfl) ?_
    iterate 2 refine qd (rd_move' rfl) ?_
    obtain ⟨r34, hr34, hp⟩ := bind_some hp
    refine qd (rd_at' (K := (Ki .u32)) rfl rfl hr34 Tryz.underlying26 info97) ?_
    refine qd (rd_load_pt' rfl rfl flat97) ?_
    iterate 2 refine qd (rd_move' rfl) ?_
    obtain ⟨r38, hr38, hp⟩ := bind_some hp
    refine qd (rd_at' (K := (Ki .u32)) rfl rfl hr38 Tryz.underlying26 info97) ?_
    refine qd (rd_load_pt' rfl rfl flat97) ?_
    refine qd (rd_bin' rfl rfl eg_int ru_lss) ?_
    refine qx_nil' ?_
    show TX E K23 _
    refine tx_k' hK23 ?_
    refine cx_cond' rfl (fun h9 => ?_) (fun h9 => ?_)
    ·replace hp := (br_t h9).symm.trans hp
     refine cr fun K24 hK24 => ?_
     refine sa rfl ?_
     refine nk hK24 ?_
     refine cx_retc' ?_
     replace hp := sj hp
     subst hp
     show TX E (Zg E Exit.ret _ Exit.ret) _
     exact tx_zend' () rfl [] (uc rfl un) (by decide) pn
    replace hp := (br_f h9).symm.trans hp
    refine cx_skip' ?_
    show TX E K22 _
    refine tx_k' hK22 ?_
    refine cr fun K25 hK25 => ?_
    refine sa rfl ?_
    refine nk hK25 ?_
    refine cx_retc' ?_
    replace hp := sj hp
    subst hp
    show TX E (Zg E Exit.ret _ Exit.ret) _
    exact tx_zend' () rfl [] (uc rfl un) (by decide) pn
   replace hp := (br_f h8).symm.trans hp
   refine cx_skip' ?_
   show TX E K20 _
   refine tx_k' hK20 ?_
   refine cx_region' ?_
   refine sm rfl ?_
   refine sb rfl rfl eg_int ru_sub ?_
   refine sa rfl ?_
   refine sx_nil' ?_
   show TX E (KY1 _) _
   exact tk [] (u3 rfl rfl rfl) pn (ih1 (isub .i64 x1 1) () _ hp)
  replace hp := (br_f h7).symm.trans hp
  refine cx_exit' ?_
  replace hp := sj hp
  subst hp
  show TX E (Zg E (Exit.exit 0) _ (Exit.exit 0)) _
  exact tx_zend' () rfl [] un (by decide) pn
 rcases y1 with v2 | v3
 ·dsimp only at hp
  refine zg_out fun w2 => ?_
  replace hp := sj hp
  subst hp
  refine tk (L' := [(4, (Vi v2))]) (H' := []) [] (uc rfl un) pn ?_
  exact tx_ret1' Tryz.results52 rfl () (rv_tmp' rfl) lr
 dsimp only at hp
 refine zg_out fun w3 => ?_
 show TX E K8 _
 refine tx_k' hK8 ?_
 refine cr fun K26 hK26 => ?_
 refine sa rfl ?_
 refine nk hK26 ?_
 refine cx_retc' ?_
 replace hp := sj hp
 subst hp
 refine tk (L' := [(4, (Vi 0))]) (H' := []) [] (uc rfl un) pn ?_
 exact tx_ret1' Tryz.results52 rfl () (rv_tmp' rfl) lr

def spec_subLimbs_j4 (k : Nat) (x5 : List Int) (r18 x3 : Int) (rec1 : ((List Int) × Int × Int) → Option ((List Int))) (x7 x4 : Int) : Option ((List Int)) :=
 (ishl .u64 x4 32) >>= fun r40 =>
 (apd 4 x5 ([icv .u32 (isub .u64 (iadd .u64 (icv .u64 r18) r40) x3)])) >>= fun r46 =>
 rec1 (r46, x4, (iadd .i64 x7 1))
def spec_subLimbs_j3 (k : Nat) (r18 : Int) (x5 : List Int) (rec1 : ((List Int) × Int × Int) → Option ((List Int))) (x7 x3 : Int) : Option ((List Int)) :=
 br (decide ((icv .u64 r18) < x3))
  (spec_subLimbs_j4 k x5 r18 x3 rec1 x7 1)
  (spec_subLimbs_j4 k x5 r18 x3 rec1 x7 0)
def spec_subLimbs_l1s (a0 a1 : List Int) (k : Nat) (rec1 : ((List Int) × Int × Int) → Option ((List Int))) (x5 : List Int) (x6 x7 : Int) : Option ((List Int)) :=
 br (decide (x7 < (a0.length : Int)))
  ((idx a0 x7) >>= fun r18 =>
  br (decide (x7 < (a1.length : Int)))
   ((idx a1 x7) >>= fun r28 =>
   spec_subLimbs_j3 k r18 x5 rec1 x7 (iadd .u64 x6 (icv .u64 r28)))
   (spec_subLimbs_j3 k r18 x5 rec1 x7 x6))
  (some x5)
def spec_subLimbs_l1 (a0 a1 : List Int) : Nat → ((List Int) × Int × Int) → Option ((List Int))
 | 0, _ => none
 | k + 1, v => spec_subLimbs_l1s a0 a1 k (spec_subLimbs_l1 a0 a1 k) v.1 v.2.1 v.2.2
def spec_subLimbs (k : Nat) (a0 a1 : List Int) : Option ((List Int)) :=
 (mk 4 0 0 (a0.length : Int)) >>= fun r12 =>
 (spec_subLimbs_l1 a0 a1 k (r12, 0, 0)) >>= fun v6 =>
 (spec_trim k v6) >>= fun r49 =>
 some r49

theorem spec_subLimbs_sim {k : Nat}  (a0 a1 : List Int) {out : (List Int)} (hp : spec_subLimbs k a0 a1 = some out) : Sx.Fn Tryz.prog 53 [(Sl (Ki .u32) a0), (Sl (Ki .u32) a1)] [] (fun w : Unit => (Sl (Ki .u32) out)) (fun w => []) := by
 unfold spec_subLimbs at hp
 refine fn_of Tryz.func53 rfl Tryz.ntmps53 rfl fun E hM => ?_
 refine cr fun K1 hK1 => ?_
 refine sa rfl ?_
 refine nk hK1 ?_
 refine cr fun K2 hK2 => ?_
 refine sm rfl ?_
 refine sk rfl Tryz.underlying26 ?_
 obtain ⟨r12, hr12, hp⟩ := bind_some hp
 refine so (ox_make' (K := (Ki .u32)) rfl rfl hr12 rfl Tryz.underlying26 info97 rfl rfl rfl rfl rfl) fun g12 => ?_
 refine sa rfl ?_
 refine nk hK2 ?_
 refine cr fun K3 hK3 => ?_
 refine sa rfl ?_
 refine nk hK3 ?_
 refine cx_seq' fun K4 hK4 => ?_
 refine cr fun K5 hK5 => ?_
 refine sm rfl ?_
 refine sk rfl Tryz.underlying26 ?_
 refine sm rfl ?_
 refine nk hK5 ?_
 refine cx_block' ?_
 obtain ⟨v6, hy1, hp⟩ := bind_some hp
 refine cx_loopg' (F := spec_subLimbs_l1 a0 a1) (G := fun k R v => spec_subLimbs_l1s a0 a1 k R v.1 v.2.1 v.2.2) (x := (r12, 0, 0)) (gh := g12) (fun (v3 : (List Int) × Int × Int) (w3 : Gs) => (⟨50, [], [(1, (Sl (Ki .u32) a1)), (5, (Vw w3)), (6, (Vl (.int .u64 v3.2.1))), (13, (Sl (Ki .u32) a0)), (14, (Vi (a0.length : Int))), (15, (Vi v3.2.2))], [(Rg (Ki .u32) 97 w3 v3.1)]⟩ : St)) (fun (v6 : (List Int)) => Zg E (Exit.exit 0) (fun (w6 : Gs) => (⟨50, [], [(5, (Vw w6))], [(Rg (Ki .u32) 97 w6 v6)]⟩ : St))) (fun _ => rfl) (fun _ _ => rfl) ?_ hy1 (tx_to' rfl [0] (u6 rfl rfl rfl rfl rfl rfl) (by decide) (pc rfl pn)) ?_
 ·clear hp hy1
  clear v6
  intro k rec1 KY1 ih1
  rintro ⟨x5, x6, x7⟩ g901 y1 hp
  replace hp : spec_subLimbs_l1s a0 a1 k rec1 x5 x6 x7 = some y1 := hp
  unfold spec_subLimbs_l1s at hp
  refine cr fun K16 hK16 => ?_
  refine sb rfl rfl eg_int ru_lss ?_
  refine nk hK16 ?_
  refine cx_seq' fun K17 hK17 => ?_
  refine cx_cond' rfl (fun h5 => ?_) (fun h5 => ?_)
  ·replace hp := (br_t h5).symm.trans hp
   refine cx_skip' ?_
   show TX E K17 _
   refine tx_k' hK17 ?_
   refine cx_seq' fun K18 hK18 => ?_
   refine cx_block' ?_
   refine cr fun K19 hK19 => ?_
   refine sm rfl ?_
   obtain ⟨r18, hr18, hp⟩ := bind_some hp
   refine s0 (rd_at' (K := (Ki .u32)) rfl rfl hr18 Tryz.underlying26 info97) ?_
   refine s0 (rd_load_pt' rfl rfl flat97) ?_
   iterate 2 refine sa rfl ?_
   refine nk hK19 ?_
   refine cr fun K20 hK20 => ?_
   refine sm rfl ?_
   refine sa rfl ?_
   refine nk hK20 ?_
   refine cx_join' (fun (v4 : Int) => (⟨50, [], [(1, (Sl (Ki .u32) a1)), (5, (Vw g901)), (8, (Vl (.int .u32 r18))), (9, (Vl (.int .u64 v4))), (13, (Sl (Ki .u32) a0)), (14, (Vi (a0.length : Int))), (15, (Vi x7))], [(Rg (Ki .u32) 97 g901 x5)]⟩ : St)) (fun (v4 : Int) => spec_subLimbs_j3 k r18 x5 rec1 x7 v4 = some y1) ?_ ?_
   ·rintro x3 hp
    replace hp : spec_subLimbs_j3 k r18 x5 rec1 x7 x3 = some y1 := hp
    unfold spec_subLimbs_j3 at hp
    refine cr fun K23 hK23 => ?_
    refine sa rfl ?_
    refine nk hK23 ?_
    refine cx_join' (fun (v5 : Int) => (⟨50, [], [(1, (Sl (Ki .u32) a1)), (5, (Vw g901)), (6, (Vl (.int .u64 v5))), (8, (Vl (.int .u32 r18))), (9, (Vl (.int .u64 x3))), (13, (Sl (Ki .u32) a0)), (14, (Vi (a0.length : Int))), (15, (Vi x7))], [(Rg (Ki .u32) 97 g901 x5)]⟩ : St)) (fun (v5 : Int) => spec_subLimbs_j4 k x5 r18 x3 rec1 x7 v5 = some y1) ?_ ?_
    ·rintro x4 hp
     replace hp : spec_subLimbs_j4 k x5 r18 x3 rec1 x7 x4 = some y1 := hp
     unfold spec_subLimbs_j4 at hp
     refine cx_region' ?_
     iterate 2 refine sm rfl ?_
     refine s0 (rd_conv' rfl (ru_i2i (by rw [Tryz.underlying97]; rfl) Tryz.underlying91)) ?_
     refine sm rfl ?_
     obtain ⟨r40, hr40, hp⟩ := bind_some hp
     refine sb rfl rfl eg_int (ru_shl hr40) ?_
     refine sb rfl rfl eg_int ru_add ?_
     refine sm rfl ?_
     refine sb rfl rfl eg_int ru_sub ?_
     refine s0 (rd_conv' rfl (ru_i2i (by rw [Tryz.underlying91]; rfl) Tryz.underlying97)) ?_
     refine so (ox_rowlit' (K := (Ki .u32)) (xs := [icv .u32 (isub .u64 (iadd .u64 (icv .u64 r18) r40) x3)]) (qs := [(0, [(Vl (.int .u32 (icv .u32 (isub .u64 (iadd .u64 (icv .u64 r18) r40) x3))))])]) ⟨rfl, ⟨_, rfl, (lv_vl rfl rfl)⟩, trivial⟩ Tryz.underlying26 info97 rfl rfl rfl rfl rfl (by kernel_rfl) rfl rfl rfl) fun g45 => ?_
     obtain ⟨r46, hr46, hp⟩ := bind_some hp
     refine so (ox_append' (K := (Ki .u32)) (i := 1) (xs := x5) (ys := ([icv .u32 (isub .u64 (iadd .u64 (icv .u64 r18) r40) x3)])) rfl rfl rfl (sr_row' (j := 0) rfl rfl rfl Tryz.underlying26) hr46 Tryz.underlying26 info97 rfl rfl rfl (H' := [(Rg (Ki .u32) 97 g45 ([icv .u32 (isub .u64 (iadd .u64 (icv .u64 r18) r40) x3)]))]) rfl) fun g46 => ?_
     refine sa rfl ?_
     refine nk hK18 ?_
     refine cx_region' ?_
     refine sb rfl rfl eg_int ru_add ?_
     refine sm rfl ?_
     refine sx_nil' ?_
     show TX E (KY1 _) _
     exact tk [0] (u6 rfl rfl rfl rfl rfl rfl) (pc rfl pn) (ih1 (r46, x4, (iadd .i64 x7 1)) g46 _ hp)
    intro K24 hK24
    refine cr fun K25 hK25 => ?_
    refine sm rfl ?_
    refine s0 (rd_conv' rfl (ru_i2i (by rw [Tryz.underlying97]; rfl) Tryz.underlying91)) ?_
    refine sm rfl ?_
    refine sb rfl rfl eg_int ru_lss ?_
    refine nk hK25 ?_
    refine cx_cond' rfl (fun h7 => ?_) (fun h7 => ?_)
    ·replace hp := (br_t h7).symm.trans hp
     refine cx_region' ?_
     refine sa rfl ?_
     refine sx_nil' ?_
     show TX E K24 _
     exact tk [0] (u8 rfl rfl rfl rfl rfl rfl rfl rfl) (pc rfl pn) (hK24 1 hp)
    replace hp := (br_f h7).symm.trans hp
    refine cx_skip' ?_
    show TX E K24 _
    exact tk [0] (u8 rfl rfl rfl rfl rfl rfl rfl rfl) (pc rfl pn) (hK24 0 hp)
   intro K21 hK21
   refine cr fun K22 hK22 => ?_
   iterate 2 refine sm rfl ?_
   refine sk rfl Tryz.underlying26 ?_
   refine sb rfl rfl eg_int ru_lss ?_
   refine nk hK22 ?_
   refine cx_cond' rfl (fun h6 => ?_) (fun h6 => ?_)
   ·replace hp := (br_t h6).symm.trans hp
    refine cx_region' ?_
    iterate 3 refine sm rfl ?_
    obtain ⟨r28, hr28, hp⟩ := bind_some hp
    refine s0 (rd_at' (K := (Ki .u32)) rfl rfl hr28 Tryz.underlying26 info97) ?_
    refine s0 (rd_load_pt' rfl rfl flat97) ?_
    refine s0 (rd_conv' rfl (ru_i2i (by rw [Tryz.underlying97]; rfl) Tryz.underlying91)) ?_
    refine sb rfl rfl eg_int ru_add ?_
    refine sa rfl ?_
    refine sx_nil' ?_
    show TX E K21 _
    exact tk [0] (u7 rfl rfl rfl rfl rfl rfl rfl) (pc rfl pn) (hK21 (iadd .u64 x6 (icv .u64 r28)) hp)
   replace hp := (br_f h6).symm.trans hp
   refine cx_skip' ?_
   show TX E K21 _
   exact tk [0] (u7 rfl rfl rfl rfl rfl rfl rfl) (pc rfl pn) (hK21 x6 hp)
  replace hp := (br_f h5).symm.trans hp
  refine cx_exit' ?_
  replace hp := sj hp
  subst hp
  show TX E (Zg E (Exit.exit 0) _ (Exit.exit 0)) _
  exact tx_zend' g901 rfl [0] (uc rfl un) (by decide) (pc rfl pn)
 refine zg_out fun w6 => ?_
 show TX E K4 _
 refine tx_k' hK4 ?_
 refine cr fun K26 hK26 => ?_
 refine sm rfl ?_
 refine tx_fz' (frz_row 0 [(5, (Vw w6), (Sl (Ki .u32) v6)), (48, (Vw w6), (Sl (Ki .u32) v6))] (K := (Ki .u32)) (xs := v6) (by decide) rfl ⟨⟨rfl, frz_it⟩, ⟨rfl, frz_it⟩, trivial⟩ (H' := []) frzH_refl) ?_
 obtain ⟨r49, hr49, hp⟩ := bind_some hp
 refine so (oz (ent_fn' Tryz.func50 isn50 rfl rfl) (spec_trim_sim _ hr49)) fun ⟨⟩ => ?_
 refine sa rfl ?_
 refine nk hK26 ?_
 refine cx_retc' ?_
 replace hp := sj hp
 subst hp
 refine tk (L' := [(4, (Sl (Ki .u32) r49))]) (H' := []) [] (uc rfl un) pn ?_
 exact tx_ret1' Tryz.results53 rfl () (rv_tmp' rfl) lr

def spec_Whole_Add (k : Nat) (a0_0 : Bool) (a0_1 : List Int) (a1_0 : Bool) (a1_1 : List Int) : Option (Bool × (List Int)) :=
 br (a0_0 == a1_0)
  ((spec_addLimbs k a0_1 a1_1) >>= fun r16 =>
  some (a0_0, r16))
  ((spec_cmpLimbs k a0_1 a1_1) >>= fun r22 =>
  br (decide (r22 = 0))
   (some (false, []))
   (br (decide (r22 = 1))
    ((spec_subLimbs k a0_1 a1_1) >>= fun r34 =>
    some (a0_0, r34))
    ((spec_subLimbs k a1_1 a0_1) >>= fun r42 =>
    some (a1_0, r42))))

theorem spec_Whole_Add_sim {k : Nat}  (a0_0 : Bool) (a0_1 : List Int) (a1_0 : Bool) (a1_1 : List Int) {out : Bool × (List Int)} (hp : spec_Whole_Add k a0_0 a0_1 a1_0 a1_1 = some out) : Sx.Fn Tryz.prog 41 [(Ag (C3 a0_0 a0_1)), (Ag (C3 a1_0 a1_1))] [] (fun w : Unit => (Ag (C3 out.1 out.2))) (fun w => []) := by
 unfold spec_Whole_Add at hp
 refine fn_of Tryz.func41 rfl Tryz.ntmps41 rfl fun E hM => ?_
 refine cr fun K1 hK1 => ?_
 refine so (ox_box' rfl (lv_ag _) rfl rfl) fun q2 => ?_
 refine so (ox_box' rfl (lv_ag _) rfl rfl) fun q3 => ?_
 refine so (ox_alloc' info28 rfl rfl rfl rfl (l := [(Vb false), Vn]) rfl) fun q4 => ?_
 refine nk hK1 ?_
 refine cx_seq' fun K2 hK2 => ?_
 refine cr fun K3 hK3 => ?_
 refine sf rfl Tryz.underlying28 rfl info4 rfl ?_
 refine sl (i := 2) (o := 0) rfl (ar rfl rfl rfl rfl) rfl flat4 ?_
 refine sf rfl Tryz.underlying28 rfl info4 rfl ?_
 refine sl (i := 1) (o := 0) rfl (ar rfl rfl rfl rfl) rfl flat4 ?_
 refine sb rfl rfl eg_bool (ru_beq Tryz.underlying4) ?_
 refine nk hK3 ?_
 refine cx_cond' rfl (fun h1 => ?_) (fun h1 => ?_)
 ·replace hp := (br_t h1).symm.trans hp
  refine cx_seq' fun K4 hK4 => ?_
  refine cx_plan' [] [(8, 1)] [(0, 1), (1, 1), (2, 1), (3, 1), (4, 1), (5, 1), (6, 0), (7, 1), (8, 0)] mixed (by kernel_rfl) ?_
  refine pd rfl (rd_field0' rfl Tryz.underlying28 rfl info4 rfl) ?_
  refine pd rfl (rd_load' (i := 2) (o := 0) rfl (ar rfl rfl rfl rfl) rfl flat4) ?_
  refine pd rfl (rd_field' (off := 1) rfl Tryz.underlying28 rfl info26 rfl) ?_
  refine pd rfl (rd_load' (i := 2) (o := 1) rfl (ar rfl rfl rfl rfl) rfl flat26) ?_
  refine pd rfl (rd_field' (off := 1) rfl Tryz.underlying28 rfl info26 rfl) ?_
  refine pd rfl (rd_load' (i := 1) (o := 1) rfl (ar rfl rfl rfl rfl) rfl flat26) ?_
  obtain ⟨r16, hr16, hp⟩ := bind_some hp
  refine px_ox' rfl (oz (ent_fn' Tryz.func51 isn51 rfl rfl) (spec_addLimbs_sim _ _ hr16)) rfl bs_nil (wt_none' rfl) fun ⟨⟩ => ?_
  refine pd rfl (rd_build' (pls := [(0, 1), (1, 1)]) (qs := [(0, [(Vb a0_0)]), (1, [(Sl (Ki .u32) r16)])]) (r := (C3 a0_0 r16)) ⟨rfl, ⟨_, rfl, (lv_vl rfl rfl)⟩, ⟨rfl, ⟨_, rfl, (lv_sl _ _)⟩, trivial⟩⟩ Tryz.underlying28 has28 places28 info28 rfl rfl rfl) ?_
  refine px_oxv' rfl (oxv_store (i := 0) (o := 0) rfl rfl (lv_ag _) (ar rfl rfl rfl rfl) rfl info28 rfl (H' := [(Ur q4 28 (C3 a0_0 r16)), (Ur q3 28 (C3 a1_0 a1_1)), (Ur q2 28 (C3 a0_0 a0_1))]) rfl) rfl rfl bo_nil (wt_none' rfl) fun _ => ?_
  refine px_nil' ?_
  show TX E K4 _
  refine tx_k' hK4 ?_
  refine cx_retc' ?_
  replace hp := sj hp
  subst hp
  refine tk (L' := [(4, (Vp q4))]) (H' := [(Ur q4 28 (C3 a0_0 r16))]) [0] (uc rfl un) (pc rfl pn) ?_
  exact tx_ret1' Tryz.results41 rfl () (rv_cell_agg' (i := 0) (o := 0) (nn := 2) rfl (ar rfl rfl rfl rfl) rfl agg28 rfl) (List.nil_sublist _)
 replace hp := (br_f h1).symm.trans hp
 refine cx_skip' ?_
 show TX E K2 _
 refine tx_k' hK2 ?_
 refine cx_seq' fun K5 hK5 => ?_
 refine cr fun K6 hK6 => ?_
 refine sg (off := 1) rfl Tryz.underlying28 rfl info26 rfl ?_
 refine sl (i := 2) (o := 1) rfl (ar rfl rfl rfl rfl) rfl flat26 ?_
 refine sg (off := 1) rfl Tryz.underlying28 rfl info26 rfl ?_
 refine sl (i := 1) (o := 1) rfl (ar rfl rfl rfl rfl) rfl flat26 ?_
 obtain ⟨r22, hr22, hp⟩ := bind_some hp
 refine so (oz (ent_fn' Tryz.func52 isn52 rfl rfl) (spec_cmpLimbs_sim _ _ hr22)) fun ⟨⟩ => ?_
 refine nk hK6 ?_
 refine cx_block' ?_
 refine cr fun K7 hK7 => ?_
 refine sb rfl rfl eg_int ru_eql ?_
 refine sa rfl ?_
 refine nk hK7 ?_
 refine cx_cond' rfl (fun h2 => ?_) (fun h2 => ?_)
 ·replace hp := (br_t h2).symm.trans hp
  refine cr fun K8 hK8 => ?_
  refine sv (pls := [(0, 1), (1, 1)]) (qs := []) (r := [(Vb false), Vn]) trivial Tryz.underlying28 has28 places28 info28 rfl rfl rfl ?_
  refine so (ox_store' (i := 0) (o := 0) rfl rfl (lv_ag _) (ar rfl rfl rfl rfl) rfl info28 rfl (H' := [(Ur q4 28 [(Vb false), Vn]), (Ur q3 28 (C3 a1_0 a1_1)), (Ur q2 28 (C3 a0_0 a0_1))]) rfl) fun _ => ?_
  refine nk hK8 ?_
  refine cx_retc' ?_
  replace hp := sj hp
  subst hp
  refine tk (L' := [(4, (Vp q4))]) (H' := [(Ur q4 28 [(Vb false), Vn])]) [0] (uc rfl un) (pc rfl pn) ?_
  exact tx_ret1' Tryz.results41 rfl () (rv_imp' (x := (Ag [(Vb false), Vn])) (y := (Ag [(Vb false), (Sl (Ki .u32) [])])) (rv_cell_agg' (i := 0) (o := 0) (nn := 2) rfl (ar rfl rfl rfl rfl) rfl agg28 rfl) (imp_ag ⟨imp_refl, imp_nil, trivial⟩)) (List.nil_sublist _)
 replace hp := (br_f h2).symm.trans hp
 refine cr fun K9 hK9 => ?_
 refine sb rfl rfl eg_int ru_eql ?_
 refine sa rfl ?_
 refine nk hK9 ?_
 refine cx_cond' rfl (fun h3 => ?_) (fun h3 => ?_)
 ·replace hp := (br_t h3).symm.trans hp
  refine cx_seq' fun K10 hK10 => ?_
  refine cx_plan' [] [(8, 1)] [(0, 1), (1, 1), (2, 1), (3, 1), (4, 1), (5, 1), (6, 0), (7, 1), (8, 0)] mixed (by kernel_rfl) ?_
  refine pd rfl (rd_field0' rfl Tryz.underlying28 rfl info4 rfl) ?_
  refine pd rfl (rd_load' (i := 2) (o := 0) rfl (ar rfl rfl rfl rfl) rfl flat4) ?_
  refine pd rfl (rd_field' (off := 1) rfl Tryz.underlying28 rfl info26 rfl) ?_
  refine pd rfl (rd_load' (i := 2) (o := 1) rfl (ar rfl rfl rfl rfl) rfl flat26) ?_
  refine pd rfl (rd_field' (off := 1) rfl Tryz.underlying28 rfl info26 rfl) ?_
  refine pd rfl (rd_load' (i := 1) (o := 1) rfl (ar rfl rfl rfl rfl) rfl flat26) ?_
  obtain ⟨r34, hr34, hp⟩ := bind_some hp
  refine px_ox' rfl (oz (ent_fn' Tryz.func53 isn53 rfl rfl) (spec_subLimbs_sim _ _ hr34)) rfl bs_nil (wt_none' rfl) fun ⟨⟩ => ?_
  refine pd rfl (rd_build' (pls := [(0, 1), (1, 1)]) (qs := [(0, [(Vb a0_0)]), (1, [(Sl (Ki .u32) r34)])]) (r := (C3 a0_0 r34)) ⟨rfl, ⟨_, rfl, (lv_vl rfl rfl)⟩, ⟨rfl, ⟨_, rfl, (lv_sl _ _)⟩, trivial⟩⟩ Tryz.underlying28 has28 places28 info28 rfl rfl rfl) ?_
  refine px_oxv' rfl (oxv_store (i := 0) (o := 0) rfl rfl (lv_ag _) (ar rfl rfl rfl rfl) rfl info28 rfl (H' := [(Ur q4 28 (C3 a0_0 r34)), (Ur q3 28 (C3 a1_0 a1_1)), (Ur q2 28 (C3 a0_0 a0_1))]) rfl) rfl rfl bo_nil (wt_none' rfl) fun _ => ?_
  refine px_nil' ?_
  show TX E K10 _
  refine tx_k' hK10 ?_
  refine cx_retc' ?_
  replace hp := sj hp
  subst hp
  refine tk (L' := [(4, (Vp q4))]) (H' := [(Ur q4 28 (C3 a0_0 r34))]) [0] (uc rfl un) (pc rfl pn) ?_
  exact tx_ret1' Tryz.results41 rfl () (rv_cell_agg' (i := 0) (o := 0) (nn := 2) rfl (ar rfl rfl rfl rfl) rfl agg28 rfl) (List.nil_sublist _)
 replace hp := (br_f h3).symm.trans hp
 refine cx_skip' ?_
 show TX E K5 _
 refine tx_k' hK5 ?_
 refine cx_seq' fun K11 hK11 => ?_
 refine cx_plan' [] [(8, 1)] [(0, 1), (1, 1), (2, 1), (3, 1), (4, 1), (5, 1), (6, 0), (7, 1), (8, 0)] mixed (by kernel_rfl) ?_
 refine pd rfl (rd_field0' rfl Tryz.underlying28 rfl info4 rfl) ?_
 refine pd rfl (rd_load' (i := 1) (o := 0) rfl (ar rfl rfl rfl rfl) rfl flat4) ?_
 refine pd rfl (rd_field' (off := 1) rfl Tryz.underlying28 rfl info26 rfl) ?_
 refine pd rfl (rd_load' (i := 1) (o := 1) rfl (ar rfl rfl rfl rfl) rfl flat26) ?_
 refine pd rfl (rd_field' (off := 1) rfl Tryz.underlying28 rfl info26 rfl) ?_
 refine pd rfl (rd_load' (i := 2) (o := 1) rfl (ar rfl rfl rfl rfl) rfl flat26) ?_
 obtain ⟨r42, hr42, hp⟩ := bind_some hp
 refine px_ox' rfl (oz (ent_fn' Tryz.func53 isn53 rfl rfl) (spec_subLimbs_sim _ _ hr42)) rfl bs_nil (wt_none' rfl) fun ⟨⟩ => ?_
 refine pd rfl (rd_build' (pls := [(0, 1), (1, 1)]) (qs := [(0, [(Vb a1_0)]), (1, [(Sl (Ki .u32) r42)])]) (r := (C3 a1_0 r42)) ⟨rfl, ⟨_, rfl, (lv_vl rfl rfl)⟩, ⟨rfl, ⟨_, rfl, (lv_sl _ _)⟩, trivial⟩⟩ Tryz.underlying28 has28 places28 info28 rfl rfl rfl) ?_
 refine px_oxv' rfl (oxv_store (i := 0) (o := 0) rfl rfl (lv_ag _) (ar rfl rfl rfl rfl) rfl info28 rfl (H' := [(Ur q4 28 (C3 a1_0 r42)), (Ur q3 28 (C3 a1_0 a1_1)), (Ur q2 28 (C3 a0_0 a0_1))]) rfl) rfl rfl bo_nil (wt_none' rfl) fun _ => ?_
 refine px_nil' ?_
 show TX E K11 _
 refine tx_k' hK11 ?_
 refine cx_retc' ?_
 replace hp := sj hp
 subst hp
 refine tk (L' := [(4, (Vp q4))]) (H' := [(Ur q4 28 (C3 a1_0 r42))]) [0] (uc rfl un) (pc rfl pn) ?_
 exact tx_ret1' Tryz.results41 rfl () (rv_cell_agg' (i := 0) (o := 0) (nn := 2) rfl (ar rfl rfl rfl rfl) rfl agg28 rfl) (List.nil_sublist _)

def spec_Dyadic_Add (k : Nat) (a0_0 : Bool) (a0_1 : List Int) (a0_2 : Int) (a1_0 : Bool) (a1_1 : List Int) (a1_2 : Int) : Option (Bool × (List Int) × Int) :=
 (spec_Dyadic_Sign k a0_0 a0_1 a0_2) >>= fun r7 =>
 br (decide (r7 = 0))
  (some (a1_0, a1_1, a1_2))
  ((spec_Dyadic_Sign k a1_0 a1_1 a1_2) >>= fun r12 =>
  br (decide (r12 = 0))
   (some (a0_0, a0_1, a0_2))
   (br (decide (a1_2 < a0_2))
    ((spec_Whole_Up k a0_0 a0_1 (isub .i64 a0_2 a1_2)) >>= fun r28 =>
    (spec_Whole_Add k r28.1 r28.2 a1_0 a1_1) >>= fun r31 =>
    some (r31.1, r31.2, a1_2))
    ((spec_Whole_Up k a1_0 a1_1 (isub .i64 a1_2 a0_2)) >>= fun r42 =>
    (spec_Whole_Add k r42.1 r42.2 a0_0 a0_1) >>= fun r45 =>
    some (r45.1, r45.2, a0_2))))

theorem spec_Dyadic_Add_sim {k : Nat}  (a0_0 : Bool) (a0_1 : List Int) (a0_2 : Int) (a1_0 : Bool) (a1_1 : List Int) (a1_2 : Int) {out : Bool × (List Int) × Int} (hp : spec_Dyadic_Add k a0_0 a0_1 a0_2 a1_0 a1_1 a1_2 = some out) : Sx.Fn Tryz.prog 19 [(Ag (C2 a0_0 a0_1 a0_2)), (Ag (C2 a1_0 a1_1 a1_2))] [] (fun w : Unit => (Ag (C2 out.1 out.2.1 out.2.2))) (fun w => []) := by
 unfold spec_Dyadic_Add at hp
 refine fn_of Tryz.func19 rfl Tryz.ntmps19 rfl fun E hM => ?_
 refine cr fun K1 hK1 => ?_
 refine so (ox_box' rfl (lv_ag _) rfl rfl) fun q2 => ?_
 refine so (ox_box' rfl (lv_ag _) rfl rfl) fun q3 => ?_
 refine so (ox_alloc' info30 rfl rfl rfl rfl (l := (C5 false 0)) rfl) fun q4 => ?_
 refine nk hK1 ?_
 refine cx_seq' fun K2 hK2 => ?_
 refine cx_block' ?_
 refine cr fun K3 hK3 => ?_
 refine s0 (rd_load_agg' (i := 2) (o := 0) (nn := 3) rfl (ar rfl rfl rfl rfl) rfl agg30 (l' := (C2 a0_0 a0_1 a0_2)) rfl) ?_
 obtain ⟨r7, hr7, hp⟩ := bind_some hp
 refine so (oz (ent_fn' Tryz.func17 isn17 rfl rfl) (spec_Dyadic_Sign_sim _ _ _ hr7)) fun ⟨⟩ => ?_
 refine sb rfl rfl eg_int ru_eql ?_
 refine sa rfl ?_
 refine nk hK3 ?_
 refine cx_cond' rfl (fun h1 => ?_) (fun h1 => ?_)
 ·replace hp := (br_t h1).symm.trans hp
  refine cr fun K4 hK4 => ?_
  refine s0 (rd_load_agg' (i := 1) (o := 0) (nn := 3) rfl (ar rfl rfl rfl rfl) rfl agg30 (l' := (C2 a1_0 a1_1 a1_2)) rfl) ?_
  refine so (ox_store' (i := 0) (o := 0) rfl rfl (lv_ag _) (ar rfl rfl rfl rfl) rfl info30 rfl (H' := [(Ur q4 30 (C2 a1_0 a1_1 a1_2)), (Ur q3 30 (C2 a1_0 a1_1 a1_2)), (Ur q2 30 (C2 a0_0 a0_1 a0_2))]) rfl) fun _ => ?_
  refine nk hK4 ?_
  refine cx_retc' ?_
  replace hp := sj hp
  subst hp
  refine tk (L' := [(4, (Vp q4))]) (H' := [(Ur q4 30 (C2 a1_0 a1_1 a1_2))]) [0] (uc rfl un) (pc rfl pn) ?_
  exact tx_ret1' Tryz.results19 rfl () (rv_cell_agg' (i := 0) (o := 0) (nn := 3) rfl (ar rfl rfl rfl rfl) rfl agg30 rfl) (List.nil_sublist _)
 replace hp := (br_f h1).symm.trans hp
 refine cr fun K5 hK5 => ?_
 refine s0 (rd_load_agg' (i := 1) (o := 0) (nn := 3) rfl (ar rfl rfl rfl rfl) rfl agg30 (l' := (C2 a1_0 a1_1 a1_2)) rfl) ?_
 obtain ⟨r12, hr12, hp⟩ := bind_some hp
 refine so (oz (ent_fn' Tryz.func17 isn17 rfl rfl) (spec_Dyadic_Sign_sim _ _ _ hr12)) fun ⟨⟩ => ?_
 refine sb rfl rfl eg_int ru_eql ?_
 refine sa rfl ?_
 refine nk hK5 ?_
 refine cx_cond' rfl (fun h2 => ?_) (fun h2 => ?_)
 ·replace hp := (br_t h2).symm.trans hp
  refine cr fun K6 hK6 => ?_
  refine s0 (rd_load_agg' (i := 2) (o := 0) (nn := 3) rfl (ar rfl rfl rfl rfl) rfl agg30 (l' := (C2 a0_0 a0_1 a0_2)) rfl) ?_
  refine so (ox_store' (i := 0) (o := 0) rfl rfl (lv_ag _) (ar rfl rfl rfl rfl) rfl info30 rfl (H' := [(Ur q4 30 (C2 a0_0 a0_1 a0_2)), (Ur q3 30 (C2 a1_0 a1_1 a1_2)), (Ur q2 30 (C2 a0_0 a0_1 a0_2))]) rfl) fun _ => ?_
  refine nk hK6 ?_
  refine cx_retc' ?_
  replace hp := sj hp
  subst hp
  refine tk (L' := [(4, (Vp q4))]) (H' := [(Ur q4 30 (C2 a0_0 a0_1 a0_2))]) [0] (uc rfl un) (pc rfl pn) ?_
  exact tx_ret1' Tryz.results19 rfl () (rv_cell_agg' (i := 0) (o := 0) (nn := 3) rfl (ar rfl rfl rfl rfl) rfl agg30 rfl) (List.nil_sublist _)
 replace hp := (br_f h2).symm.trans hp
 refine cr fun K7 hK7 => ?_
 refine sg (off := 2) rfl Tryz.underlying30 rfl info3 rfl ?_
 refine sl (i := 2) (o := 2) rfl (ar rfl rfl rfl rfl) rfl flat3 ?_
 refine sg (off := 2) rfl Tryz.underlying30 rfl info3 rfl ?_
 refine sl (i := 1) (o := 2) rfl (ar rfl rfl rfl rfl) rfl flat3 ?_
 refine sb rfl rfl eg_int ru_gtr ?_
 refine sa rfl ?_
 refine nk hK7 ?_
 refine cx_cond' rfl (fun h3 => ?_) (fun h3 => ?_)
 ·replace hp := (br_t h3).symm.trans hp
  refine cx_seq' fun K8 hK8 => ?_
  refine cx_plan' [] [(14, 1)] [(0, 1), (1, 1), (2, 1), (3, 1), (4, 1), (5, 1), (6, 1), (8, 1), (9, 1), (11, 1), (12, 1), (7, 0), (10, 0), (13, 1), (14, 0)] mixed (by kernel_rfl) ?_
  refine pd rfl (rd_field0' rfl Tryz.underlying30 rfl info28 rfl) ?_
  refine pd rfl (rd_load_agg' (i := 2) (o := 0) (nn := 2) rfl (ar rfl rfl rfl rfl) rfl agg28 (l' := (C3 a0_0 a0_1)) rfl) ?_
  refine pd rfl (rd_field' (off := 2) rfl Tryz.underlying30 rfl info3 rfl) ?_
  refine pd rfl (rd_load' (i := 2) (o := 2) rfl (ar rfl rfl rfl rfl) rfl flat3) ?_
  refine pd rfl (rd_field' (off := 2) rfl Tryz.underlying30 rfl info3 rfl) ?_
  refine pd rfl (rd_load' (i := 1) (o := 2) rfl (ar rfl rfl rfl rfl) rfl flat3) ?_
  refine pd rfl (rd_bin' rfl rfl eg_int ru_sub) ?_
  refine pd rfl (rd_field0' rfl Tryz.underlying30 rfl info28 rfl) ?_
  refine pd rfl (rd_load_agg' (i := 1) (o := 0) (nn := 2) rfl (ar rfl rfl rfl rfl) rfl agg28 (l' := (C3 a1_0 a1_1)) rfl) ?_
  refine pd rfl (rd_field' (off := 2) rfl Tryz.underlying30 rfl info3 rfl) ?_
  refine pd rfl (rd_load' (i := 1) (o := 2) rfl (ar rfl rfl rfl rfl) rfl flat3) ?_
  obtain ⟨r28, hr28, hp⟩ := bind_some hp
  refine px_ox' rfl (oz (ent_fn' Tryz.func40 isn40 rfl rfl) (spec_Whole_Up_sim _ _ _ hr28)) rfl bs_nil (wt_none' rfl) fun ⟨⟩ => ?_
  obtain ⟨r31, hr31, hp⟩ := bind_some hp
  refine px_ox' rfl (oz (ent_fn' Tryz.func41 isn41 rfl rfl) (spec_Whole_Add_sim _ _ _ _ hr31)) rfl bs_nil (wt_none' rfl) fun ⟨⟩ => ?_
  refine pd rfl (rd_build' (pls := [(0, 2), (2, 1)]) (qs := [(0, (C3 r31.1 r31.2)), (1, [(Vi a1_2)])]) (r := (C2 r31.1 r31.2 a1_2)) ⟨rfl, ⟨_, rfl, (lv_ag _)⟩, ⟨rfl, ⟨_, rfl, (lv_vl rfl rfl)⟩, trivial⟩⟩ Tryz.underlying30 has30 places30 info30 rfl rfl rfl) ?_
  refine px_oxv' rfl (oxv_store (i := 0) (o := 0) rfl rfl (lv_ag _) (ar rfl rfl rfl rfl) rfl info30 rfl (H' := [(Ur q4 30 (C2 r31.1 r31.2 a1_2)), (Ur q3 30 (C2 a1_0 a1_1 a1_2)), (Ur q2 30 (C2 a0_0 a0_1 a0_2))]) rfl) rfl rfl bo_nil (wt_none' rfl) fun _ => ?_
  refine px_nil' ?_
  show TX E K8 _
  refine tx_k' hK8 ?_
  refine cx_retc' ?_
  replace hp := sj hp
  subst hp
  refine tk (L' := [(4, (Vp q4))]) (H' := [(Ur q4 30 (C2 r31.1 r31.2 a1_2))]) [0] (uc rfl un) (pc rfl pn) ?_
  exact tx_ret1' Tryz.results19 rfl () (rv_cell_agg' (i := 0) (o := 0) (nn := 3) rfl (ar rfl rfl rfl rfl) rfl agg30 rfl) (List.nil_sublist _)
 replace hp := (br_f h3).symm.trans hp
 refine cx_skip' ?_
 show TX E K2 _
 refine tx_k' hK2 ?_
 refine cx_seq' fun K9 hK9 => ?_
 refine cx_plan' [] [(14, 1)] [(0, 1), (1, 1), (2, 1), (3, 1), (4, 1), (5, 1), (6, 1), (8, 1), (9, 1), (11, 1), (12, 1), (7, 0), (10, 0), (13, 1), (14, 0)] mixed (by kernel_rfl) ?_
 refine pd rfl (rd_field0' rfl Tryz.underlying30 rfl info28 rfl) ?_
 refine pd rfl (rd_load_agg' (i := 1) (o := 0) (nn := 2) rfl (ar rfl rfl rfl rfl) rfl agg28 (l' := (C3 a1_0 a1_1)) rfl) ?_
 refine pd rfl (rd_field' (off := 2) rfl Tryz.underlying30 rfl info3 rfl) ?_
 refine pd rfl (rd_load' (i := 1) (o := 2) rfl (ar rfl rfl rfl rfl) rfl flat3) ?_
 refine pd rfl (rd_field' (off := 2) rfl Tryz.underlying30 rfl info3 rfl) ?_
 refine pd rfl (rd_load' (i := 2) (o := 2) rfl (ar rfl rfl rfl rfl) rfl flat3) ?_
 refine pd rfl (rd_bin' rfl rfl eg_int ru_sub) ?_
 refine pd rfl (rd_field0' rfl Tryz.underlying30 rfl info28 rfl) ?_
 refine pd rfl (rd_load_agg' (i := 2) (o := 0) (nn := 2) rfl (ar rfl rfl rfl rfl) rfl agg28 (l' := (C3 a0_0 a0_1)) rfl) ?_
 refine pd rfl (rd_field' (off := 2) rfl Tryz.underlying30 rfl info3 rfl) ?_
 refine pd rfl (rd_load' (i := 2) (o := 2) rfl (ar rfl rfl rfl rfl) rfl flat3) ?_
 obtain ⟨r42, hr42, hp⟩ := bind_some hp
 refine px_ox' rfl (oz (ent_fn' Tryz.func40 isn40 rfl rfl) (spec_Whole_Up_sim _ _ _ hr42)) rfl bs_nil (wt_none' rfl) fun ⟨⟩ => ?_
 obtain ⟨r45, hr45, hp⟩ := bind_some hp
 refine px_ox' rfl (oz (ent_fn' Tryz.func41 isn41 rfl rfl) (spec_Whole_Add_sim _ _ _ _ hr45)) rfl bs_nil (wt_none' rfl) fun ⟨⟩ => ?_
 refine pd rfl (rd_build' (pls := [(0, 2), (2, 1)]) (qs := [(0, (C3 r45.1 r45.2)), (1, [(Vi a0_2)])]) (r := (C2 r45.1 r45.2 a0_2)) ⟨rfl, ⟨_, rfl, (lv_ag _)⟩, ⟨rfl, ⟨_, rfl, (lv_vl rfl rfl)⟩, trivial⟩⟩ Tryz.underlying30 has30 places30 info30 rfl rfl rfl) ?_
 refine px_oxv' rfl (oxv_store (i := 0) (o := 0) rfl rfl (lv_ag _) (ar rfl rfl rfl rfl) rfl info30 rfl (H' := [(Ur q4 30 (C2 r45.1 r45.2 a0_2)), (Ur q3 30 (C2 a1_0 a1_1 a1_2)), (Ur q2 30 (C2 a0_0 a0_1 a0_2))]) rfl) rfl rfl bo_nil (wt_none' rfl) fun _ => ?_
 refine px_nil' ?_
 show TX E K9 _
 refine tx_k' hK9 ?_
 refine cx_retc' ?_
 replace hp := sj hp
 subst hp
 refine tk (L' := [(4, (Vp q4))]) (H' := [(Ur q4 30 (C2 r45.1 r45.2 a0_2))]) [0] (uc rfl un) (pc rfl pn) ?_
 exact tx_ret1' Tryz.results19 rfl () (rv_cell_agg' (i := 0) (o := 0) (nn := 3) rfl (ar rfl rfl rfl rfl) rfl agg30 rfl) (List.nil_sublist _)

def spec_Dyadic_Sub (k : Nat) (a0_0 : Bool) (a0_1 : List Int) (a0_2 : Int) (a1_0 : Bool) (a1_1 : List Int) (a1_2 : Int) : Option (Bool × (List Int) × Int) :=
 (spec_Dyadic_Minus k a1_0 a1_1 a1_2) >>= fun r7 =>
 (spec_Dyadic_Add k a0_0 a0_1 a0_2 r7.1 r7.2.1 r7.2.2) >>= fun r8 =>
 some (r8.1, r8.2.1, r8.2.2)

theorem spec_Dyadic_Sub_sim {k : Nat}  (a0_0 : Bool) (a0_1 : List Int) (a0_2 : Int) (a1_0 : Bool) (a1_1 : List Int) (a1_2 : Int) {out : Bool × (List Int) × Int} (hp : spec_Dyadic_Sub k a0_0 a0_1 a0_2 a1_0 a1_1 a1_2 = some out) : Sx.Fn Tryz.prog 15 [(Ag (C2 a0_0 a0_1 a0_2)), (Ag (C2 a1_0 a1_1 a1_2))] [] (fun w : Unit => (Ag (C2 out.1 out.2.1 out.2.2))) (fun w => []) := by
 unfold spec_Dyadic_Sub at hp
 refine fn_of Tryz.func15 rfl Tryz.ntmps15 rfl fun E hM => ?_
 refine cr fun K1 hK1 => ?_
 refine so (ox_box' rfl (lv_ag _) rfl rfl) fun q2 => ?_
 refine so (ox_box' rfl (lv_ag _) rfl rfl) fun q3 => ?_
 refine so (ox_alloc' info30 rfl rfl rfl rfl (l := (C5 false 0)) rfl) fun q4 => ?_
 refine nk hK1 ?_
 refine cx_seq' fun K2 hK2 => ?_
 refine cx_plan' [] [(4, 1)] [(0, 1), (1, 1), (2, 0), (3, 0), (4, 0)] mixed (by kernel_rfl) ?_
 refine pd rfl (rd_load_agg' (i := 2) (o := 0) (nn := 3) rfl (ar rfl rfl rfl rfl) rfl agg30 (l' := (C2 a0_0 a0_1 a0_2)) rfl) ?_
 refine pd rfl (rd_load_agg' (i := 1) (o := 0) (nn := 3) rfl (ar rfl rfl rfl rfl) rfl agg30 (l' := (C2 a1_0 a1_1 a1_2)) rfl) ?_
 obtain ⟨r7, hr7, hp⟩ := bind_some hp
 refine px_ox' rfl (oz (ent_fn' Tryz.func37 isn37 rfl rfl) (spec_Dyadic_Minus_sim _ _ _ hr7)) rfl bs_nil (wt_none' rfl) fun ⟨⟩ => ?_
 obtain ⟨r8, hr8, hp⟩ := bind_some hp
 refine px_ox' rfl (oz (ent_fn' Tryz.func19 isn19 rfl rfl) (spec_Dyadic_Add_sim _ _ _ _ _ _ hr8)) rfl bs_nil (wt_none' rfl) fun ⟨⟩ => ?_
 refine px_oxv' rfl (oxv_store (i := 0) (o := 0) rfl rfl (lv_ag _) (ar rfl rfl rfl rfl) rfl info30 rfl (H' := [(Ur q4 30 (C2 r8.1 r8.2.1 r8.2.2)), (Ur q3 30 (C2 a1_0 a1_1 a1_2)), (Ur q2 30 (C2 a0_0 a0_1 a0_2))]) rfl) rfl rfl bo_nil (wt_none' rfl) fun _ => ?_
 refine px_nil' ?_
 show TX E K2 _
 refine tx_k' hK2 ?_
 refine cx_retc' ?_
 replace hp := sj hp
 subst hp
 refine tk (L' := [(4, (Vp q4))]) (H' := [(Ur q4 30 (C2 r8.1 r8.2.1 r8.2.2))]) [0] (uc rfl un) (pc rfl pn) ?_
 exact tx_ret1' Tryz.results15 rfl () (rv_cell_agg' (i := 0) (o := 0) (nn := 3) rfl (ar rfl rfl rfl rfl) rfl agg30 rfl) (List.nil_sublist _)

def spec_Whole_Mul_l2s (a1_1 : List Int) (x12 r26 : Int) (k : Nat) (rec2 : ((List Int) × Int × Int) → Option ((List Int) × Int)) (x6 : List Int) (x7 x8 : Int) : Option ((List Int) × Int) :=
 br (decide (x8 < (a1_1.length : Int)))
  ((idx a1_1 x8) >>= fun r34 =>
  (idx x6 (iadd .i64 x12 x8)) >>= fun r45 =>
  (idx x6 (iadd .i64 x12 x8)) >>= fun r57 =>
  (ishr .u64 (iadd .u64 (iadd .u64 (imul .u64 (icv .u64 r26) (icv .u64 r34)) (icv .u64 r45)) x7) 32) >>= fun r59 =>
  rec2 ((x6.set (iadd .i64 x12 x8).toNat (icv .u32 (iadd .u64 (iadd .u64 (imul .u64 (icv .u64 r26) (icv .u64 r34)) (icv .u64 r45)) x7))), r59, (iadd .i64 x8 1)))
  (some (x6, x7))
def spec_Whole_Mul_l2 (a1_1 : List Int) (x12 r26 : Int) : Nat → ((List Int) × Int × Int) → Option ((List Int) × Int)
 | 0, _ => none
 | k + 1, v => spec_Whole_Mul_l2s a1_1 x12 r26 k (spec_Whole_Mul_l2 a1_1 x12 r26 k) v.1 v.2.1 v.2.2
def spec_Whole_Mul_l3s (a0_1 a1_1 : List Int) (k : Nat) (rec3 : ((List Int) × Int) → Option ((List Int))) (x11 : List Int) (x12 : Int) : Option ((List Int)) :=
 br (decide (x12 < (a0_1.length : Int)))
  ((idx a0_1 x12) >>= fun r26 =>
  (spec_Whole_Mul_l2 a1_1 x12 r26 k (x11, 0, 0)) >>= fun v5 =>
  (idx v5.1 (iadd .i64 x12 (a1_1.length : Int))) >>= fun r69 =>
  rec3 ((v5.1.set (iadd .i64 x12 (a1_1.length : Int)).toNat (icv .u32 v5.2)), (iadd .i64 x12 1)))
  (some x11)
def spec_Whole_Mul_l3 (a0_1 a1_1 : List Int) : Nat → ((List Int) × Int) → Option ((List Int))
 | 0, _ => none
 | k + 1, v => spec_Whole_Mul_l3s a0_1 a1_1 k (spec_Whole_Mul_l3 a0_1 a1_1 k) v.1 v.2
def spec_Whole_Mul_j1 (k : Nat) (r72 : (List Int)) (x14 : Bool) : Option (Bool × (List Int)) :=
 some (x14, r72)
def spec_Whole_Mul (k : Nat) (a0_0 : Bool) (a0_1 : List Int) (a1_0 : Bool) (a1_1 : List Int) : Option (Bool × (List Int)) :=
 (mk 4 0 (iadd .i64 (a0_1.length : Int) (a1_1.length : Int)) (iadd .i64 (a0_1.length : Int) (a1_1.length : Int))) >>= fun r19 =>
 (spec_Whole_Mul_l3 a0_1 a1_1 k (r19, 0)) >>= fun v6 =>
 (spec_trim k v6) >>= fun r72 =>
 br (decide (0 < (r72.length : Int)))
  (spec_Whole_Mul_j1 k r72 (!(a0_0 == a1_0)))
  (spec_Whole_Mul_j1 k r72 false)

theorem spec_Whole_Mul_sim {k : Nat}  (a0_0 : Bool) (a0_1 : List Int) (a1_0 : Bool) (a1_1 : List Int) {out : Bool × (List Int)} (hp : spec_Whole_Mul k a0_0 a0_1 a1_0 a1_1 = some out) : Sx.Fn Tryz.prog 38 [(Ag (C3 a0_0 a0_1)), (Ag (C3 a1_0 a1_1))] [] (fun w : Unit => (Ag (C3 out.1 out.2))) (fun w => []) := by
 unfold spec_Whole_Mul at hp
 refine fn_of Tryz.func38 rfl Tryz.ntmps38 rfl fun E hM => ?_
 refine cr fun K1 hK1 => ?_
 refine so (ox_box' rfl (lv_ag _) rfl rfl) fun q2 => ?_
 refine so (ox_box' rfl (lv_ag _) rfl rfl) fun q3 => ?_
 refine so (ox_alloc' info28 rfl rfl rfl rfl (l := [(Vb false), Vn]) rfl) fun q4 => ?_
 refine nk hK1 ?_
 refine cr fun K2 hK2 => ?_
 refine sg (off := 1) rfl Tryz.underlying28 rfl info26 rfl ?_
 refine sl (i := 2) (o := 1) rfl (ar rfl rfl rfl rfl) rfl flat26 ?_
 refine sk rfl Tryz.underlying26 ?_
 refine sg (off := 1) rfl Tryz.underlying28 rfl info26 rfl ?_
 refine sl (i := 1) (o := 1) rfl (ar rfl rfl rfl rfl) rfl flat26 ?_
 refine sk rfl Tryz.underlying26 ?_
 refine sb rfl rfl eg_int ru_add ?_
 obtain ⟨r19, hr19, hp⟩ := bind_some hp
 refine so (ox_make' (K := (Ki .u32)) rfl rfl hr19 rfl Tryz.underlying26 info97 rfl rfl rfl rfl rfl) fun g19 => ?_
 refine sa rfl ?_
 refine nk hK2 ?_
 refine cx_seq' fun K3 hK3 => ?_
 refine cr fun K4 hK4 => ?_
 refine sg (off := 1) rfl Tryz.underlying28 rfl info26 rfl ?_
 refine sl (i := 3) (o := 1) rfl (ar rfl rfl rfl rfl) rfl flat26 ?_
 refine sk rfl Tryz.underlying26 ?_
 refine sm rfl ?_
 refine nk hK4 ?_
 refine cx_block' ?_
 obtain ⟨v6, hy3, hp⟩ := bind_some hp
 refine cx_loopg' (F := spec_Whole_Mul_l3 a0_1 a1_1) (G := fun k R v => spec_Whole_Mul_l3s a0_1 a1_1 k R v.1 v.2) (x := (r19, 0)) (gh := ()) (fun (v3 : (List Int) × Int) (w3 : Unit) => (⟨85, [], [(2, (Vp q2)), (3, (Vp q3)), (4, (Vp q4)), (5, (Vw g19)), (21, (Sl (Ki .u32) a0_1)), (22, (Vi (a0_1.length : Int))), (23, (Vi v3.2))], [(Ur q2 28 (C3 a0_0 a0_1)), (Ur q3 28 (C3 a1_0 a1_1)), (Ur q4 28 [(Vb false), Vn]), (Rg (Ki .u32) 97 g19 v3.1)]⟩ : St)) (fun (v6 : (List Int)) => Zg E (Exit.exit 0) (fun (w6 : Unit) => (⟨85, [], [(2, (Vp q2)), (3, (Vp q3)), (4, (Vp q4)), (5, (Vw g19))], [(Ur q2 28 (C3 a0_0 a0_1)), (Ur q3 28 (C3 a1_0 a1_1)), (Ur q4 28 [(Vb false), Vn]), (Rg (Ki .u32) 97 g19 v6)]⟩ : St))) (fun _ => rfl) (fun _ _ => rfl) ?_ hy3 (tx_to' rfl [3, 2, 1, 0] (u7 rfl rfl rfl rfl rfl rfl rfl) (by decide) (p4 rfl rfl rfl rfl)) ?_
 ·clear hp hy3
  clear v6
  intro k rec3 KY3 ih3
  rintro ⟨x11, x12⟩ ⟨⟩ y3 hp
  replace hp : spec_Whole_Mul_l3s a0_1 a1_1 k rec3 x11 x12 = some y3 := hp
  unfold spec_Whole_Mul_l3s at hp
  refine cr fun K24 hK24 => ?_
  refine sb rfl rfl eg_int ru_lss ?_
  refine nk hK24 ?_
  refine cx_seq' fun K25 hK25 => ?_
  refine cx_cond' rfl (fun h6 => ?_) (fun h6 => ?_)
  ·replace hp := (br_t h6).symm.trans hp
   refine cx_skip' ?_
   show TX E K25 _
   refine tx_k' hK25 ?_
   refine cx_seq' fun K26 hK26 => ?_
   refine cx_block' ?_
   refine cr fun K27 hK27 => ?_
   refine sm rfl ?_
   obtain ⟨r26, hr26, hp⟩ := bind_some hp
   refine s0 (rd_at' (K := (Ki .u32)) rfl rfl hr26 Tryz.underlying26 info97) ?_
   refine s0 (rd_load_pt' rfl rfl flat97) ?_
   iterate 2 refine sa rfl ?_
   refine nk hK27 ?_
   refine cr fun K28 hK28 => ?_
   refine sa rfl ?_
   refine nk hK28 ?_
   refine cx_seq' fun K29 hK29 => ?_
   refine cr fun K30 hK30 => ?_
   refine sg (off := 1) rfl Tryz.underlying28 rfl info26 rfl ?_
   refine sl (i := 1) (o := 1) rfl (ar rfl rfl rfl rfl) rfl flat26 ?_
   refine sk rfl Tryz.underlying26 ?_
   refine sm rfl ?_
   refine nk hK30 ?_
   refine cx_block' ?_
   obtain ⟨v5, hy2, hp⟩ := bind_some hp
   refine cx_loopg' (F := spec_Whole_Mul_l2 a1_1 x12 r26) (G := fun k R v => spec_Whole_Mul_l2s a1_1 x12 r26 k R v.1 v.2.1 v.2.2) (x := (x11, 0, 0)) (gh := ()) (fun (v4 : (List Int) × Int × Int) (w4 : Unit) => (⟨85, [], [(2, (Vp q2)), (3, (Vp q3)), (4, (Vp q4)), (5, (Vw g19)), (6, (Vi x12)), (7, (Vl (.int .u32 r26))), (8, (Vl (.int .u64 v4.2.1))), (21, (Sl (Ki .u32) a0_1)), (22, (Vi (a0_1.length : Int))), (23, (Vi x12)), (29, (Sl (Ki .u32) a1_1)), (30, (Vi (a1_1.length : Int))), (31, (Vi v4.2.2))], [(Ur q2 28 (C3 a0_0 a0_1)), (Ur q3 28 (C3 a1_0 a1_1)), (Ur q4 28 [(Vb false), Vn]), (Rg (Ki .u32) 97 g19 v4.1)]⟩ : St)) (fun (v5 : (List Int) × Int) => Zg E (Exit.exit 2) (fun (w5 : Unit) => (⟨85, [], [(2, (Vp q2)), (3, (Vp q3)), (4, (Vp q4)), (5, (Vw g19)), (6, (Vi x12)), (8, (Vl (.int .u64 v5.2))), (21, (Sl (Ki .u32) a0_1)), (22, (Vi (a0_1.length : Int))), (23, (Vi x12))], [(Ur q2 28 (C3 a0_0 a0_1)), (Ur q3 28 (C3 a1_0 a1_1)), (Ur q4 28 [(Vb false), Vn]), (Rg (Ki .u32) 97 g19 v5.1)]⟩ : St))) (fun _ => rfl) (fun _ _ => rfl) ?_ hy2 (tx_to' rfl [0, 1, 2, 3] (u13 rfl rfl rfl rfl rfl rfl rfl rfl rfl rfl rfl rfl rfl) (by decide) (p4 rfl rfl rfl rfl)) ?_
   ·clear hp hy2
    clear v5
    intro k rec2 KY2 ih2
    rintro ⟨x6, x7, x8⟩ ⟨⟩ y2 hp
    replace hp : spec_Whole_Mul_l2s a1_1 x12 r26 k rec2 x6 x7 x8 = some y2 := hp
    unfold spec_Whole_Mul_l2s at hp
    refine cr fun K37 hK37 => ?_
    refine sb rfl rfl eg_int ru_lss ?_
    refine nk hK37 ?_
    refine cx_seq' fun K38 hK38 => ?_
    refine cx_cond' rfl (fun h9 => ?_) (fun h9 => ?_)
    ·replace hp := (br_t h9).symm.trans hp
     refine cx_skip' ?_
     show TX E K38 _
     refine tx_k' hK38 ?_
     refine cx_seq' fun K39 hK39 => ?_
     refine cx_block' ?_
     refine cr fun K40 hK40 => ?_
     refine sm rfl ?_
     obtain ⟨r34, hr34, hp⟩ := bind_some hp
     refine s0 (rd_at' (K := (Ki .u32)) rfl rfl hr34 Tryz.underlying26 info97) ?_
     refine s0 (rd_load_pt' rfl rfl flat97) ?_
     iterate 2 refine sa rfl ?_
     refine nk hK40 ?_
     refine cr fun K41 hK41 => ?_
     refine sm rfl ?_
     refine s0 (rd_conv' rfl (ru_i2i (by rw [Tryz.underlying97]; rfl) Tryz.underlying91)) ?_
     refine sm rfl ?_
     refine s0 (rd_conv' rfl (ru_i2i (by rw [Tryz.underlying97]; rfl) Tryz.underlying91)) ?_
     refine sb rfl rfl eg_int ru_mul ?_
     iterate 3 refine sm rfl ?_
     refine sb rfl rfl eg_int ru_add ?_
     obtain ⟨r45, hr45, hp⟩ := bind_some hp
     refine s0 (rd_atr' (m := 3) rfl rfl rfl rfl hr45 Tryz.underlying26 info97) ?_
     refine s0 (rd_loadr' rfl (m := 3) (i := (iadd .i64 x12 x8)) (j := 0) rfl rfl hr45 rfl rfl flat97) ?_
     refine s0 (rd_conv' rfl (ru_i2i (by rw [Tryz.underlying97]; rfl) Tryz.underlying91)) ?_
     refine sb rfl rfl eg_int ru_add ?_
     refine sm rfl ?_
     refine sb rfl rfl eg_int ru_add ?_
     refine sa rfl ?_
     refine nk hK41 ?_
     refine cr fun K42 hK42 => ?_
     iterate 3 refine sm rfl ?_
     refine sb rfl rfl eg_int ru_add ?_
     refine sm rfl ?_
     refine s0 (rd_conv' rfl (ru_i2i (by rw [Tryz.underlying91]; rfl) Tryz.underlying97)) ?_
     obtain ⟨r57, hr57, hp⟩ := bind_some hp
     refine s0 (rd_atr' (m := 3) rfl rfl rfl rfl hr57 Tryz.underlying26 info97) ?_
     refine so (ox_storer' (m := 3) (i := (iadd .i64 x12 x8)) (j := 0) (x' := (icv .u32 (iadd .u64 (iadd .u64 (imul .u64 (icv .u64 r26) (icv .u64 r34)) (icv .u64 r45)) x7))) rfl rfl (lv_vl rfl rfl) rfl rfl hr57 rfl rfl rfl info97 rfl (H' := [(Ur q2 28 (C3 a0_0 a0_1)), (Ur q3 28 (C3 a1_0 a1_1)), (Ur q4 28 [(Vb false), Vn]), (Rg (Ki .u32) 97 g19 (x6.set (iadd .i64 x12 x8).toNat (icv .u32 (iadd .u64 (iadd .u64 (imul .u64 (icv .u64 r26) (icv .u64 r34)) (icv .u64 r45)) x7))))]) rfl) fun _ => ?_
     refine nk hK42 ?_
     refine cx_region' ?_
     refine sm rfl ?_
     obtain ⟨r59, hr59, hp⟩ := bind_some hp
     refine sb rfl rfl eg_int (ru_shr hr59) ?_
     refine sa rfl ?_
     refine nk hK39 ?_
     refine cx_region' ?_
     refine sb rfl rfl eg_int ru_add ?_
     refine sm rfl ?_
     refine sx_nil' ?_
     show TX E (KY2 _) _
     exact tk [0,1,2,3] (u13 rfl rfl rfl rfl rfl rfl rfl rfl rfl rfl rfl rfl rfl) (p4 rfl rfl rfl rfl) (ih2 ((x6.set (iadd .i64 x12 x8).toNat (icv .u32 (iadd .u64 (iadd .u64 (imul .u64 (icv .u64 r26) (icv .u64 r34)) (icv .u64 r45)) x7))), r59, (iadd .i64 x8 1)) () _ hp)
    replace hp := (br_f h9).symm.trans hp
    refine cx_exit' ?_
    replace hp := sj hp
    subst hp
    show TX E (Zg E (Exit.exit 2) _ (Exit.exit 2)) _
    exact tx_zend' () rfl [0, 1, 2, 3] (u9 rfl rfl rfl rfl rfl rfl rfl rfl rfl) (by decide) (p4 rfl rfl rfl rfl)
   refine zg_out fun w5 => ?_
   show TX E K29 _
   refine tx_k' hK29 ?_
   refine cx_region' ?_
   iterate 2 refine sm rfl ?_
   refine sg (off := 1) rfl Tryz.underlying28 rfl info26 rfl ?_
   refine sl (i := 1) (o := 1) rfl (ar rfl rfl rfl rfl) rfl flat26 ?_
   refine sk rfl Tryz.underlying26 ?_
   refine sb rfl rfl eg_int ru_add ?_
   refine sm rfl ?_
   refine s0 (rd_conv' rfl (ru_i2i (by rw [Tryz.underlying91]; rfl) Tryz.underlying97)) ?_
   obtain ⟨r69, hr69, hp⟩ := bind_some hp
   refine s0 (rd_atr' (m := 3) rfl rfl rfl rfl hr69 Tryz.underlying26 info97) ?_
   refine so (ox_storer' (m := 3) (i := (iadd .i64 x12 (a1_1.length : Int))) (j := 0) (x' := (icv .u32 v5.2)) rfl rfl (lv_vl rfl rfl) rfl rfl hr69 rfl rfl rfl info97 rfl (H' := [(Ur q2 28 (C3 a0_0 a0_1)), (Ur q3 28 (C3 a1_0 a1_1)), (Ur q4 28 [(Vb false), Vn]), (Rg (Ki .u32) 97 g19 (v5.1.set (iadd .i64 x12 (a1_1.length : Int)).toNat (icv .u32 v5.2)))]) rfl) fun _ => ?_
   refine nk hK26 ?_
   refine cx_region' ?_
   refine sb rfl rfl eg_int ru_add ?_
   refine sm rfl ?_
   refine sx_nil' ?_
   show TX E (KY3 _) _
   exact tk [0,1,2,3] (u7 rfl rfl rfl rfl rfl rfl rfl) (p4 rfl rfl rfl rfl) (ih3 ((v5.1.set (iadd .i64 x12 (a1_1.length : Int)).toNat (icv .u32 v5.2)), (iadd .i64 x12 1)) () _ hp)
  replace hp := (br_f h6).symm.trans hp
  refine cx_exit' ?_
  replace hp := sj hp
  subst hp
  show TX E (Zg E (Exit.exit 0) _ (Exit.exit 0)) _
  exact tx_zend' () rfl [0, 1, 2, 3] (u4 rfl rfl rfl rfl) (by decide) (p4 rfl rfl rfl rfl)
 refine zg_out fun w6 => ?_
 show TX E K3 _
 refine tx_k' hK3 ?_
 refine cr fun K43 hK43 => ?_
 refine sm rfl ?_
 refine tx_fz' (frz_row 3 [(5, (Vw g19), (Sl (Ki .u32) v6)), (71, (Vw g19), (Sl (Ki .u32) v6))] (K := (Ki .u32)) (xs := v6) (by decide) rfl ⟨⟨rfl, frz_it⟩, ⟨rfl, frz_it⟩, trivial⟩ (H' := [(Ur q2 28 (C3 a0_0 a0_1)), (Ur q3 28 (C3 a1_0 a1_1)), (Ur q4 28 [(Vb false), Vn])]) frzH_refl) ?_
 obtain ⟨r72, hr72, hp⟩ := bind_some hp
 refine so (oz (ent_fn' Tryz.func50 isn50 rfl rfl) (spec_trim_sim _ hr72)) fun ⟨⟩ => ?_
 refine sa rfl ?_
 refine nk hK43 ?_
 refine cr fun K44 hK44 => ?_
 refine sm rfl ?_
 refine sk rfl Tryz.underlying26 ?_
 refine sb rfl rfl eg_int ru_gtr ?_
 refine sm rfl ?_
 refine sx_cutn' 6 (fun (v7 : Bool) => (⟨85, [], [(4, (Vp q4)), (5, (Sl (Ki .u32) r72)), (82, (Vb v7))], [(Ur q4 28 [(Vb false), Vn])]⟩ : St)) (fun (v7 : Bool) => spec_Whole_Mul_j1 k r72 v7 = some out) ?_ ?_
 ·rintro x14 hp
  replace hp : spec_Whole_Mul_j1 k r72 x14 = some out := hp
  unfold spec_Whole_Mul_j1 at hp
  refine sm rfl ?_
  refine sv (pls := [(0, 1), (1, 1)]) (qs := [(0, [(Vb x14)]), (1, [(Sl (Ki .u32) r72)])]) (r := (C3 x14 r72)) ⟨rfl, ⟨_, rfl, (lv_vl rfl rfl)⟩, ⟨rfl, ⟨_, rfl, (lv_sl _ _)⟩, trivial⟩⟩ Tryz.underlying28 has28 places28 info28 rfl rfl rfl ?_
  refine so (ox_store' (i := 0) (o := 0) rfl rfl (lv_ag _) (ar rfl rfl rfl rfl) rfl info28 rfl (H' := [(Ur q4 28 (C3 x14 r72))]) rfl) fun _ => ?_
  refine nk hK44 ?_
  refine cx_retc' ?_
  replace hp := sj hp
  subst hp
  refine tk (L' := [(4, (Vp q4))]) (H' := [(Ur q4 28 (C3 x14 r72))]) [0] (uc rfl un) (pc rfl pn) ?_
  exact tx_ret1' Tryz.results38 rfl () (rv_cell_agg' (i := 0) (o := 0) (nn := 2) rfl (ar rfl rfl rfl rfl) rfl agg28 rfl) (List.nil_sublist _)
 intro K45 hK45
 rcases br_cases hp with ⟨h10, hp⟩ | ⟨h10, hp⟩
 ·refine sx_rd' (rd_field0' rfl Tryz.underlying28 rfl info4 rfl) rfl rfl (wt_is' (wt_guard' rfl rfl rfl) (beq_tt h10)) ?_
  refine sx_rd' (rd_load' (i := 0) (o := 0) rfl (ar rfl rfl rfl rfl) rfl flat4) rfl rfl (wt_is' (wt_guard' rfl rfl rfl) (beq_tt h10)) ?_
  refine sx_rd' (rd_field0' rfl Tryz.underlying28 rfl info4 rfl) rfl rfl (wt_is' (wt_guard' rfl rfl rfl) (beq_tt h10)) ?_
  refine sx_rd' (rd_load' (i := 1) (o := 0) rfl (ar rfl rfl rfl rfl) rfl flat4) rfl rfl (wt_is' (wt_guard' rfl rfl rfl) (beq_tt h10)) ?_
  refine sx_rd' (rd_bin' rfl rfl eg_bool (ru_bne Tryz.underlying4)) rfl rfl (wt_is' (wt_guard' rfl rfl rfl) (beq_tt h10)) ?_
  refine s0 (rd_pick_true' rfl h10 rfl) ?_
  refine sx_nil' ?_
  show TX E K45 _
  exact tk [2] (u3 rfl rfl rfl) (pc rfl pn) (hK45 (!(a0_0 == a1_0)) hp)
 iterate 5 refine sx_skip' rfl rfl (wt_is' (wt_guard' rfl rfl rfl) (beq_ft h10)) ?_
 refine s0 (rd_pick_false' rfl h10 rfl) ?_
 refine sx_nil' ?_
 show TX E K45 _
 exact tk [2] (u3 rfl rfl rfl) (pc rfl pn) (hK45 false hp)

def spec_Dyadic_Mul (k : Nat) (a0_0 : Bool) (a0_1 : List Int) (a0_2 : Int) (a1_0 : Bool) (a1_1 : List Int) (a1_2 : Int) : Option (Bool × (List Int) × Int) :=
 (spec_Whole_Mul k a0_0 a0_1 a1_0 a1_1) >>= fun r9 =>
 some (r9.1, r9.2, iadd .i64 a0_2 a1_2)

theorem spec_Dyadic_Mul_sim {k : Nat}  (a0_0 : Bool) (a0_1 : List Int) (a0_2 : Int) (a1_0 : Bool) (a1_1 : List Int) (a1_2 : Int) {out : Bool × (List Int) × Int} (hp : spec_Dyadic_Mul k a0_0 a0_1 a0_2 a1_0 a1_1 a1_2 = some out) : Sx.Fn Tryz.prog 16 [(Ag (C2 a0_0 a0_1 a0_2)), (Ag (C2 a1_0 a1_1 a1_2))] [] (fun w : Unit => (Ag (C2 out.1 out.2.1 out.2.2))) (fun w => []) := by
 unfold spec_Dyadic_Mul at hp
 refine fn_of Tryz.func16 rfl Tryz.ntmps16 rfl fun E hM => ?_
 refine cr fun K1 hK1 => ?_
 refine so (ox_box' rfl (lv_ag _) rfl rfl) fun q2 => ?_
 refine so (ox_box' rfl (lv_ag _) rfl rfl) fun q3 => ?_
 refine so (ox_alloc' info30 rfl rfl rfl rfl (l := (C5 false 0)) rfl) fun q4 => ?_
 refine nk hK1 ?_
 refine cx_seq' fun K2 hK2 => ?_
 refine cx_plan' [] [(11, 1)] [(0, 1), (1, 1), (2, 1), (3, 1), (5, 1), (6, 1), (7, 1), (8, 1), (9, 1), (4, 0), (10, 1), (11, 0)] mixed (by kernel_rfl) ?_
 refine pd rfl (rd_field0' rfl Tryz.underlying30 rfl info28 rfl) ?_
 refine pd rfl (rd_load_agg' (i := 2) (o := 0) (nn := 2) rfl (ar rfl rfl rfl rfl) rfl agg28 (l' := (C3 a0_0 a0_1)) rfl) ?_
 refine pd rfl (rd_field0' rfl Tryz.underlying30 rfl info28 rfl) ?_
 refine pd rfl (rd_load_agg' (i := 1) (o := 0) (nn := 2) rfl (ar rfl rfl rfl rfl) rfl agg28 (l' := (C3 a1_0 a1_1)) rfl) ?_
 refine pd rfl (rd_field' (off := 2) rfl Tryz.underlying30 rfl info3 rfl) ?_
 refine pd rfl (rd_load' (i := 2) (o := 2) rfl (ar rfl rfl rfl rfl) rfl flat3) ?_
 refine pd rfl (rd_field' (off := 2) rfl Tryz.underlying30 rfl info3 rfl) ?_
 refine pd rfl (rd_load' (i := 1) (o := 2) rfl (ar rfl rfl rfl rfl) rfl flat3) ?_
 refine pd rfl (rd_bin' rfl rfl eg_int ru_add) ?_
 obtain ⟨r9, hr9, hp⟩ := bind_some hp
 refine px_ox' rfl (oz (ent_fn' Tryz.func38 isn38 rfl rfl) (spec_Whole_Mul_sim _ _ _ _ hr9)) rfl bs_nil (wt_none' rfl) fun ⟨⟩ => ?_
 refine pd rfl (rd_build' (pls := [(0, 2), (2, 1)]) (qs := [(0, (C3 r9.1 r9.2)), (1, [(Vi (iadd .i64 a0_2 a1_2))])]) (r := (C2 r9.1 r9.2 (iadd .i64 a0_2 a1_2))) ⟨rfl, ⟨_, rfl, (lv_ag _)⟩, ⟨rfl, ⟨_, rfl, (lv_vl rfl rfl)⟩, trivial⟩⟩ Tryz.underlying30 has30 places30 info30 rfl rfl rfl) ?_
 refine px_oxv' rfl (oxv_store (i := 0) (o := 0) rfl rfl (lv_ag _) (ar rfl rfl rfl rfl) rfl info30 rfl (H' := [(Ur q4 30 (C2 r9.1 r9.2 (iadd .i64 a0_2 a1_2))), (Ur q3 30 (C2 a1_0 a1_1 a1_2)), (Ur q2 30 (C2 a0_0 a0_1 a0_2))]) rfl) rfl rfl bo_nil (wt_none' rfl) fun _ => ?_
 refine px_nil' ?_
 show TX E K2 _
 refine tx_k' hK2 ?_
 refine cx_retc' ?_
 replace hp := sj hp
 subst hp
 refine tk (L' := [(4, (Vp q4))]) (H' := [(Ur q4 30 (C2 r9.1 r9.2 (iadd .i64 a0_2 a1_2)))]) [0] (uc rfl un) (pc rfl pn) ?_
 exact tx_ret1' Tryz.results16 rfl () (rv_cell_agg' (i := 0) (o := 0) (nn := 3) rfl (ar rfl rfl rfl rfl) rfl agg30 rfl) (List.nil_sublist _)

def spec_Cross (k : Nat) (a0_0 : Bool) (a0_1 : List Int) (a0_2 : Int) (a0_3 : Bool) (a0_4 : List Int) (a0_5 : Int) (a1_0 : Bool) (a1_1 : List Int) (a1_2 : Int) (a1_3 : Bool) (a1_4 : List Int) (a1_5 : Int) (a2_0 : Bool) (a2_1 : List Int) (a2_2 : Int) (a2_3 : Bool) (a2_4 : List Int) (a2_5 : Int) : Option (Bool × (List Int) × Int) :=
 (spec_Dyadic_Sub k a1_0 a1_1 a1_2 a0_0 a0_1 a0_2) >>= fun r11 =>
 (spec_Dyadic_Sub k a2_3 a2_4 a2_5 a0_3 a0_4 a0_5) >>= fun r16 =>
 (spec_Dyadic_Mul k r11.1 r11.2.1 r11.2.2 r16.1 r16.2.1 r16.2.2) >>= fun r17 =>
 (spec_Dyadic_Sub k a1_3 a1_4 a1_5 a0_3 a0_4 a0_5) >>= fun r22 =>
 (spec_Dyadic_Sub k a2_0 a2_1 a2_2 a0_0 a0_1 a0_2) >>= fun r27 =>
 (spec_Dyadic_Mul k r22.1 r22.2.1 r22.2.2 r27.1 r27.2.1 r27.2.2) >>= fun r28 =>
 (spec_Dyadic_Sub k r17.1 r17.2.1 r17.2.2 r28.1 r28.2.1 r28.2.2) >>= fun r29 =>
 some (r29.1, r29.2.1, r29.2.2)

theorem spec_Cross_sim {k : Nat}  (a0_0 : Bool) (a0_1 : List Int) (a0_2 : Int) (a0_3 : Bool) (a0_4 : List Int) (a0_5 : Int) (a1_0 : Bool) (a1_1 : List Int) (a1_2 : Int) (a1_3 : Bool) (a1_4 : List Int) (a1_5 : Int) (a2_0 : Bool) (a2_1 : List Int) (a2_2 : Int) (a2_3 : Bool) (a2_4 : List Int) (a2_5 : Int) {out : Bool × (List Int) × Int} (hp : spec_Cross k a0_0 a0_1 a0_2 a0_3 a0_4 a0_5 a1_0 a1_1 a1_2 a1_3 a1_4 a1_5 a2_0 a2_1 a2_2 a2_3 a2_4 a2_5 = some out) : Sx.Fn Tryz.prog 36 [(Ag (C0 a0_0 a0_1 a0_2 a0_3 a0_4 a0_5)), (Ag (C0 a1_0 a1_1 a1_2 a1_3 a1_4 a1_5)), (Ag (C0 a2_0 a2_1 a2_2 a2_3 a2_4 a2_5))] [] (fun w : Unit => (Ag (C2 out.1 out.2.1 out.2.2))) (fun w => []) := by
 unfold spec_Cross at hp
 refine fn_of Tryz.func36 rfl Tryz.ntmps36 rfl fun E hM => ?_
 refine cr fun K1 hK1 => ?_
 refine so (ox_box' rfl (lv_ag _) rfl rfl) fun q3 => ?_
 refine so (ox_box' rfl (lv_ag _) rfl rfl) fun q4 => ?_
 refine so (ox_box' rfl (lv_ag _) rfl rfl) fun q5 => ?_
 refine so (ox_alloc' info30 rfl rfl rfl rfl (l := (C5 false 0)) rfl) fun q6 => ?_
 refine nk hK1 ?_
 refine cx_seq' fun K2 hK2 => ?_
 refine cx_plan' [] [(23, 1)] [(0, 1), (1, 1), (2, 1), (3, 1), (5, 1), (6, 1), (7, 1), (8, 1), (11, 1), (12, 1), (13, 1), (14, 1), (16, 1), (17, 1), (18, 1), (19, 1), (4, 0), (9, 0), (10, 0), (15, 0), (20, 0), (21, 0), (22, 0), (23, 0)] mixed (by kernel_rfl) ?_
 refine pd rfl (rd_field0' rfl Tryz.underlying32 rfl info30 rfl) ?_
 refine pd rfl (rd_load_agg' (i := 2) (o := 0) (nn := 3) rfl (ar rfl rfl rfl rfl) rfl agg30 (l' := (C2 a1_0 a1_1 a1_2)) rfl) ?_
 refine pd rfl (rd_field0' rfl Tryz.underlying32 rfl info30 rfl) ?_
 refine pd rfl (rd_load_agg' (i := 3) (o := 0) (nn := 3) rfl (ar rfl rfl rfl rfl) rfl agg30 (l' := (C2 a0_0 a0_1 a0_2)) rfl) ?_
 refine pd rfl (rd_field' (off := 3) rfl Tryz.underlying32 rfl info30 rfl) ?_
 refine pd rfl (rd_load_agg' (i := 1) (o := 3) (nn := 3) rfl (ar rfl rfl rfl rfl) rfl agg30 (l' := (C2 a2_3 a2_4 a2_5)) rfl) ?_
 refine pd rfl (rd_field' (off := 3) rfl Tryz.underlying32 rfl info30 rfl) ?_
 refine pd rfl (rd_load_agg' (i := 3) (o := 3) (nn := 3) rfl (ar rfl rfl rfl rfl) rfl agg30 (l' := (C2 a0_3 a0_4 a0_5)) rfl) ?_
 refine pd rfl (rd_field' (off := 3) rfl Tryz.underlying32 rfl info30 rfl) ?_
 refine pd rfl (rd_load_agg' (i := 2) (o := 3) (nn := 3) rfl (ar rfl rfl rfl rfl) rfl agg30 (l' := (C2 a1_3 a1_4 a1_5)) rfl) ?_
 refine pd rfl (rd_field' (off := 3) rfl Tryz.underlying32 rfl info30 rfl) ?_
 refine pd rfl (rd_load_agg' (i := 3) (o := 3) (nn := 3) rfl (ar rfl rfl rfl rfl) rfl agg30 (l' := (C2 a0_3 a0_4 a0_5)) rfl) ?_
 refine pd rfl (rd_field0' rfl Tryz.underlying32 rfl info30 rfl) ?_
 refine pd rfl (rd_load_agg' (i := 1) (o := 0) (nn := 3) rfl (ar rfl rfl rfl rfl) rfl agg30 (l' := (C2 a2_0 a2_1 a2_2)) rfl) ?_
 refine pd rfl (rd_field0' rfl Tryz.underlying32 rfl info30 rfl) ?_
 refine pd rfl (rd_load_agg' (i := 3) (o := 0) (nn := 3) rfl (ar rfl rfl rfl rfl) rfl agg30 (l' := (C2 a0_0 a0_1 a0_2)) rfl) ?_
 obtain ⟨r11, hr11, hp⟩ := bind_some hp
 refine px_ox' rfl (oz (ent_fn' Tryz.func15 isn15 rfl rfl) (spec_Dyadic_Sub_sim _ _ _ _ _ _ hr11)) rfl bs_nil (wt_none' rfl) fun ⟨⟩ => ?_
 obtain ⟨r16, hr16, hp⟩ := bind_some hp
 refine px_ox' rfl (oz (ent_fn' Tryz.func15 isn15 rfl rfl) (spec_Dyadic_Sub_sim _ _ _ _ _ _ hr16)) rfl bs_nil (wt_none' rfl) fun ⟨⟩ => ?_
 obtain ⟨r17, hr17, hp⟩ := bind_some hp
 refine px_ox' rfl (oz (ent_fn' Tryz.func16 isn16 rfl rfl) (spec_Dyadic_Mul_sim _ _ _ _ _ _ hr17)) rfl bs_nil (wt_none' rfl) fun ⟨⟩ => ?_
 obtain ⟨r22, hr22, hp⟩ := bind_some hp
 refine px_ox' rfl (oz (ent_fn' Tryz.func15 isn15 rfl rfl) (spec_Dyadic_Sub_sim _ _ _ _ _ _ hr22)) rfl bs_nil (wt_none' rfl) fun ⟨⟩ => ?_
 obtain ⟨r27, hr27, hp⟩ := bind_some hp
 refine px_ox' rfl (oz (ent_fn' Tryz.func15 isn15 rfl rfl) (spec_Dyadic_Sub_sim _ _ _ _ _ _ hr27)) rfl bs_nil (wt_none' rfl) fun ⟨⟩ => ?_
 obtain ⟨r28, hr28, hp⟩ := bind_some hp
 refine px_ox' rfl (oz (ent_fn' Tryz.func16 isn16 rfl rfl) (spec_Dyadic_Mul_sim _ _ _ _ _ _ hr28)) rfl bs_nil (wt_none' rfl) fun ⟨⟩ => ?_
 obtain ⟨r29, hr29, hp⟩ := bind_some hp
 refine px_ox' rfl (oz (ent_fn' Tryz.func15 isn15 rfl rfl) (spec_Dyadic_Sub_sim _ _ _ _ _ _ hr29)) rfl bs_nil (wt_none' rfl) fun ⟨⟩ => ?_
 refine px_oxv' rfl (oxv_store (i := 0) (o := 0) rfl rfl (lv_ag _) (ar rfl rfl rfl rfl) rfl info30 rfl (H' := [(Ur q6 30 (C2 r29.1 r29.2.1 r29.2.2)), (Ur q5 32 (C0 a2_0 a2_1 a2_2 a2_3 a2_4 a2_5)), (Ur q4 32 (C0 a1_0 a1_1 a1_2 a1_3 a1_4 a1_5)), (Ur q3 32 (C0 a0_0 a0_1 a0_2 a0_3 a0_4 a0_5))]) rfl) rfl rfl bo_nil (wt_none' rfl) fun _ => ?_
 refine px_nil' ?_
 show TX E K2 _
 refine tx_k' hK2 ?_
 refine cx_retc' ?_
 replace hp := sj hp
 subst hp
 refine tk (L' := [(6, (Vp q6))]) (H' := [(Ur q6 30 (C2 r29.1 r29.2.1 r29.2.2))]) [0] (uc rfl un) (pc rfl pn) ?_
 exact tx_ret1' Tryz.results36 rfl () (rv_cell_agg' (i := 0) (o := 0) (nn := 3) rfl (ar rfl rfl rfl rfl) rfl agg30 rfl) (List.nil_sublist _)

def spec_Orient (k : Nat) (a0_0 : Bool) (a0_1 : List Int) (a0_2 : Int) (a0_3 : Bool) (a0_4 : List Int) (a0_5 : Int) (a1_0 : Bool) (a1_1 : List Int) (a1_2 : Int) (a1_3 : Bool) (a1_4 : List Int) (a1_5 : Int) (a2_0 : Bool) (a2_1 : List Int) (a2_2 : Int) (a2_3 : Bool) (a2_4 : List Int) (a2_5 : Int) : Option (Int) :=
 (spec_Cross k a0_0 a0_1 a0_2 a0_3 a0_4 a0_5 a1_0 a1_1 a1_2 a1_3 a1_4 a1_5 a2_0 a2_1 a2_2 a2_3 a2_4 a2_5) >>= fun r10 =>
 (spec_Dyadic_Sign k r10.1 r10.2.1 r10.2.2) >>= fun r11 =>
 some r11

theorem spec_Orient_sim {k : Nat}  (a0_0 : Bool) (a0_1 : List Int) (a0_2 : Int) (a0_3 : Bool) (a0_4 : List Int) (a0_5 : Int) (a1_0 : Bool) (a1_1 : List Int) (a1_2 : Int) (a1_3 : Bool) (a1_4 : List Int) (a1_5 : Int) (a2_0 : Bool) (a2_1 : List Int) (a2_2 : Int) (a2_3 : Bool) (a2_4 : List Int) (a2_5 : Int) {out : Int} (hp : spec_Orient k a0_0 a0_1 a0_2 a0_3 a0_4 a0_5 a1_0 a1_1 a1_2 a1_3 a1_4 a1_5 a2_0 a2_1 a2_2 a2_3 a2_4 a2_5 = some out) : Sx.Fn Tryz.prog 14 [(Ag (C0 a0_0 a0_1 a0_2 a0_3 a0_4 a0_5)), (Ag (C0 a1_0 a1_1 a1_2 a1_3 a1_4 a1_5)), (Ag (C0 a2_0 a2_1 a2_2 a2_3 a2_4 a2_5))] [] (fun w : Unit => (Vi out)) (fun w => []) := by
 unfold spec_Orient at hp
 refine fn_of Tryz.func14 rfl Tryz.ntmps14 rfl fun E hM => ?_
 refine cr fun K1 hK1 => ?_
 refine so (ox_box' rfl (lv_ag _) rfl rfl) fun q3 => ?_
 refine so (ox_box' rfl (lv_ag _) rfl rfl) fun q4 => ?_
 refine so (ox_box' rfl (lv_ag _) rfl rfl) fun q5 => ?_
 refine sa rfl ?_
 refine nk hK1 ?_
 refine cr fun K2 hK2 => ?_
 refine s0 (rd_load_agg' (i := 2) (o := 0) (nn := 6) rfl (ar rfl rfl rfl rfl) rfl agg32 (l' := (C0 a0_0 a0_1 a0_2 a0_3 a0_4 a0_5)) rfl) ?_
 refine s0 (rd_load_agg' (i := 1) (o := 0) (nn := 6) rfl (ar rfl rfl rfl rfl) rfl agg32 (l' := (C0 a1_0 a1_1 a1_2 a1_3 a1_4 a1_5)) rfl) ?_
 refine s0 (rd_load_agg' (i := 0) (o := 0) (nn := 6) rfl (ar rfl rfl rfl rfl) rfl agg32 (l' := (C0 a2_0 a2_1 a2_2 a2_3 a2_4 a2_5)) rfl) ?_
 obtain ⟨r10, hr10, hp⟩ := bind_some hp
 refine so (oz (ent_fn' Tryz.func36 isn36 rfl rfl) (spec_Cross_sim _ _ _ _ _ _ _ _ _ _ _ _ _ _ _ _ _ _ hr10)) fun ⟨⟩ => ?_
 obtain ⟨r11, hr11, hp⟩ := bind_some hp
 refine so (oz (ent_fn' Tryz.func17 isn17 rfl rfl) (spec_Dyadic_Sign_sim _ _ _ hr11)) fun ⟨⟩ => ?_
 refine sa rfl ?_
 refine nk hK2 ?_
 refine cx_retc' ?_
 replace hp := sj hp
 subst hp
 refine tk (L' := [(6, (Vi r11))]) (H' := []) [] (uc rfl un) pn ?_
 exact tx_ret1' Tryz.results14 rfl () (rv_tmp' rfl) lr

def spec_Dyadic_Cmp (k : Nat) (a0_0 : Bool) (a0_1 : List Int) (a0_2 : Int) (a1_0 : Bool) (a1_1 : List Int) (a1_2 : Int) : Option (Int) :=
 (spec_Dyadic_Sub k a0_0 a0_1 a0_2 a1_0 a1_1 a1_2) >>= fun r7 =>
 (spec_Dyadic_Sign k r7.1 r7.2.1 r7.2.2) >>= fun r8 =>
 some r8

theorem spec_Dyadic_Cmp_sim {k : Nat}  (a0_0 : Bool) (a0_1 : List Int) (a0_2 : Int) (a1_0 : Bool) (a1_1 : List Int) (a1_2 : Int) {out : Int} (hp : spec_Dyadic_Cmp k a0_0 a0_1 a0_2 a1_0 a1_1 a1_2 = some out) : Sx.Fn Tryz.prog 29 [(Ag (C2 a0_0 a0_1 a0_2)), (Ag (C2 a1_0 a1_1 a1_2))] [] (fun w : Unit => (Vi out)) (fun w => []) := by
 unfold spec_Dyadic_Cmp at hp
 refine fn_of Tryz.func29 rfl Tryz.ntmps29 rfl fun E hM => ?_
 refine cr fun K1 hK1 => ?_
 refine so (ox_box' rfl (lv_ag _) rfl rfl) fun q2 => ?_
 refine so (ox_box' rfl (lv_ag _) rfl rfl) fun q3 => ?_
 refine sa rfl ?_
 refine nk hK1 ?_
 refine cr fun K2 hK2 => ?_
 refine s0 (rd_load_agg' (i := 1) (o := 0) (nn := 3) rfl (ar rfl rfl rfl rfl) rfl agg30 (l' := (C2 a0_0 a0_1 a0_2)) rfl) ?_
 refine s0 (rd_load_agg' (i := 0) (o := 0) (nn := 3) rfl (ar rfl rfl rfl rfl) rfl agg30 (l' := (C2 a1_0 a1_1 a1_2)) rfl) ?_
 obtain ⟨r7, hr7, hp⟩ := bind_some hp
 refine so (oz (ent_fn' Tryz.func15 isn15 rfl rfl) (spec_Dyadic_Sub_sim _ _ _ _ _ _ hr7)) fun ⟨⟩ => ?_
 obtain ⟨r8, hr8, hp⟩ := bind_some hp
 refine so (oz (ent_fn' Tryz.func17 isn17 rfl rfl) (spec_Dyadic_Sign_sim _ _ _ hr8)) fun ⟨⟩ => ?_
 refine sa rfl ?_
 refine nk hK2 ?_
 refine cx_retc' ?_
 replace hp := sj hp
 subst hp
 refine tk (L' := [(4, (Vi r8))]) (H' := []) [] (uc rfl un) pn ?_
 exact tx_ret1' Tryz.results29 rfl () (rv_tmp' rfl) lr

def spec_Between_j3 (k : Nat) (x3 : Bool) : Option (Bool) :=
 some x3
def spec_Between_j2 (k : Nat) (x2 : Bool) : Option (Bool) :=
 spec_Between_j3 k x2
def spec_Between_j1 (k : Nat) (a1_0 : Bool) (a1_1 : List Int) (a1_2 : Int) (a2_0 : Bool) (a2_1 : List Int) (a2_2 : Int) (a0_0 : Bool) (a0_1 : List Int) (a0_2 : Int) (x1 : Bool) : Option (Bool) :=
 br x1
  (spec_Between_j3 k true)
  ((spec_Dyadic_Cmp k a1_0 a1_1 a1_2 a2_0 a2_1 a2_2) >>= fun r20 =>
  br (decide (r20 ≤ 0))
   ((spec_Dyadic_Cmp k a2_0 a2_1 a2_2 a0_0 a0_1 a0_2) >>= fun r25 =>
   spec_Between_j2 k (decide (r25 ≤ 0)))
   (spec_Between_j2 k false))
def spec_Between (k : Nat) (a0_0 : Bool) (a0_1 : List Int) (a0_2 : Int) (a1_0 : Bool) (a1_1 : List Int) (a1_2 : Int) (a2_0 : Bool) (a2_1 : List Int) (a2_2 : Int) : Option (Bool) :=
 (spec_Dyadic_Cmp k a0_0 a0_1 a0_2 a2_0 a2_1 a2_2) >>= fun r9 =>
 br (decide (r9 ≤ 0))
  ((spec_Dyadic_Cmp k a2_0 a2_1 a2_2 a1_0 a1_1 a1_2) >>= fun r14 =>
  spec_Between_j1 k a1_0 a1_1 a1_2 a2_0 a2_1 a2_2 a0_0 a0_1 a0_2 (decide (r14 ≤ 0)))
  (spec_Between_j1 k a1_0 a1_1 a1_2 a2_0 a2_1 a2_2 a0_0 a0_1 a0_2 false)

theorem spec_Between_sim {k : Nat}  (a0_0 : Bool) (a0_1 : List Int) (a0_2 : Int) (a1_0 : Bool) (a1_1 : List Int) (a1_2 : Int) (a2_0 : Bool) (a2_1 : List Int) (a2_2 : Int) {out : Bool} (hp : spec_Between k a0_0 a0_1 a0_2 a1_0 a1_1 a1_2 a2_0 a2_1 a2_2 = some out) : Sx.Fn Tryz.prog 33 [(Ag (C2 a0_0 a0_1 a0_2)), (Ag (C2 a1_0 a1_1 a1_2)), (Ag (C2 a2_0 a2_1 a2_2))] [] (fun w : Unit => (Vb out)) (fun w => []) := by
 unfold spec_Between at hp
 refine fn_of Tryz.func33 rfl Tryz.ntmps33 rfl fun E hM => ?_
 refine cr fun K1 hK1 => ?_
 refine so (ox_box' rfl (lv_ag _) rfl rfl) fun q3 => ?_
 refine so (ox_box' rfl (lv_ag _) rfl rfl) fun q4 => ?_
 refine so (ox_box' rfl (lv_ag _) rfl rfl) fun q5 => ?_
 refine sa rfl ?_
 refine nk hK1 ?_
 refine cr fun K2 hK2 => ?_
 refine s0 (rd_load_agg' (i := 2) (o := 0) (nn := 3) rfl (ar rfl rfl rfl rfl) rfl agg30 (l' := (C2 a0_0 a0_1 a0_2)) rfl) ?_
 refine s0 (rd_load_agg' (i := 0) (o := 0) (nn := 3) rfl (ar rfl rfl rfl rfl) rfl agg30 (l' := (C2 a2_0 a2_1 a2_2)) rfl) ?_
 obtain ⟨r9, hr9, hp⟩ := bind_some hp
 refine so (oz (ent_fn' Tryz.func29 isn29 rfl rfl) (spec_Dyadic_Cmp_sim _ _ _ _ _ _ hr9)) fun ⟨⟩ => ?_
 refine sb rfl rfl eg_int ru_leq ?_
 refine sm rfl ?_
 refine sx_cutn' 5 (fun (v1 : Bool) => (⟨29, [], [(3, (Vp q3)), (4, (Vp q4)), (5, (Vp q5)), (16, (Vb v1))], [(Ur q3 30 (C2 a0_0 a0_1 a0_2)), (Ur q4 30 (C2 a1_0 a1_1 a1_2)), (Ur q5 30 (C2 a2_0 a2_1 a2_2))]⟩ : St)) (fun (v1 : Bool) => spec_Between_j1 k a1_0 a1_1 a1_2 a2_0 a2_1 a2_2 a0_0 a0_1 a0_2 v1 = some out) ?_ ?_
 ·rintro x1 hp
  replace hp : spec_Between_j1 k a1_0 a1_1 a1_2 a2_0 a2_1 a2_2 a0_0 a0_1 a0_2 x1 = some out := hp
  unfold spec_Between_j1 at hp
  refine sm rfl ?_
  refine sx_cutn' 11 (fun (v3 : Bool) => (⟨29, [], [(28, (Vb v3))], []⟩ : St)) (fun (v3 : Bool) => spec_Between_j3 k v3 = some out) ?_ ?_
  ·rintro x3 hp
   replace hp : spec_Between_j3 k x3 = some out := hp
   unfold spec_Between_j3 at hp
   refine sa rfl ?_
   refine nk hK2 ?_
   refine cx_retc' ?_
   replace hp := sj hp
   subst hp
   refine tk (L' := [(6, (Vb x3))]) (H' := []) [] (uc rfl un) pn ?_
   exact tx_ret1' Tryz.results33 rfl () (rv_tmp' rfl) lr
  intro K5 hK5
  rcases br_cases hp with ⟨h2, hp⟩ | ⟨h2, hp⟩
  ·refine sx_skip' rfl rfl (wt_is' (wt_guard' rfl rfl rfl) (beq_tf h2)) ?_
   iterate 4 refine sx_skip' rfl rfl (wt_is' (wt_guard' rfl rfl rfl) (beq_tf h2)) ?_
   iterate 4 refine sx_skip' rfl rfl (wt_undef' rfl rfl rfl) ?_
   refine sx_skip' rfl rfl (wt_is' (wt_guard' rfl rfl rfl) (beq_tf h2)) ?_
   refine s0 (rd_pick_true' rfl h2 rfl) ?_
   refine sx_nil' ?_
   show TX E K5 _
   exact tk [] (uc rfl un) pn (hK5 true hp)
  refine sx_rd' (rd_load_agg' (i := 1) (o := 0) (nn := 3) rfl (ar rfl rfl rfl rfl) rfl agg30 (l' := (C2 a1_0 a1_1 a1_2)) rfl) rfl rfl (wt_is' (wt_guard' rfl rfl rfl) (beq_ff h2)) ?_
  refine sx_rd' (rd_load_agg' (i := 2) (o := 0) (nn := 3) rfl (ar rfl rfl rfl rfl) rfl agg30 (l' := (C2 a2_0 a2_1 a2_2)) rfl) rfl rfl (wt_is' (wt_guard' rfl rfl rfl) (beq_ff h2)) ?_
  obtain ⟨r20, hr20, hp⟩ := bind_some hp
  refine sx_ox' (oz (ent_fn' Tryz.func29 isn29 rfl rfl) (spec_Dyadic_Cmp_sim _ _ _ _ _ _ hr20)) (wt_is' (wt_guard' rfl rfl rfl) (beq_ff h2)) fun ⟨⟩ => ?_
  refine sx_rd' (rd_bin' rfl rfl eg_int ru_leq) rfl rfl (wt_is' (wt_guard' rfl rfl rfl) (beq_ff h2)) ?_
  refine sx_rd' (rd_move' rfl) rfl rfl (wt_is' (wt_guard' rfl rfl rfl) (beq_ff h2)) ?_
  refine sx_cutn' 6 (fun (v2 : Bool) => (⟨29, [], [(28, (Vb v2))], []⟩ : St)) (fun (v2 : Bool) => spec_Between_j2 k v2 = some out) ?_ ?_
  ·rintro x2 hp
   replace hp : spec_Between_j2 k x2 = some out := hp
   unfold spec_Between_j2 at hp
   refine sx_nil' ?_
   show TX E K5 _
   exact tk [] (uc rfl un) pn (hK5 x2 hp)
  intro K4 hK4
  rcases br_cases hp with ⟨h3, hp⟩ | ⟨h3, hp⟩
  ·refine sx_rd' (rd_load_agg' (i := 2) (o := 0) (nn := 3) rfl (ar rfl rfl rfl rfl) rfl agg30 (l' := (C2 a2_0 a2_1 a2_2)) rfl) rfl rfl (wt_is' (wt_guard' rfl rfl rfl) (beq_tt h3)) ?_
   refine sx_rd' (rd_load_agg' (i := 0) (o := 0) (nn := 3) rfl (ar rfl rfl rfl rfl) rfl agg30 (l' := (C2 a0_0 a0_1 a0_2)) rfl) rfl rfl (wt_is' (wt_guard' rfl rfl rfl) (beq_tt h3)) ?_
   obtain ⟨r25, hr25, hp⟩ := bind_some hp
   refine sx_ox' (oz (ent_fn' Tryz.func29 isn29 rfl rfl) (spec_Dyadic_Cmp_sim _ _ _ _ _ _ hr25)) (wt_is' (wt_guard' rfl rfl rfl) (beq_tt h3)) fun ⟨⟩ => ?_
   refine sx_rd' (rd_bin' rfl rfl eg_int ru_leq) rfl rfl (wt_is' (wt_guard' rfl rfl rfl) (beq_tt h3)) ?_
   refine sx_rd' (rd_pick_true' rfl h3 rfl) rfl rfl (wt_is' (wt_guard' rfl rfl rfl) (beq_ff h2)) ?_
   refine s0 (rd_pick_false' rfl h2 rfl) ?_
   refine sx_nil' ?_
   show TX E K4 _
   exact tk [] (uc rfl un) pn (hK4 (decide (r25 ≤ 0)) hp)
  iterate 4 refine sx_skip' rfl rfl (wt_is' (wt_guard' rfl rfl rfl) (beq_ft h3)) ?_
  refine sx_rd' (rd_pick_false' rfl h3 rfl) rfl rfl (wt_is' (wt_guard' rfl rfl rfl) (beq_ff h2)) ?_
  refine s0 (rd_pick_false' rfl h2 rfl) ?_
  refine sx_nil' ?_
  show TX E K4 _
  exact tk [] (uc rfl un) pn (hK4 false hp)
 intro K3 hK3
 rcases br_cases hp with ⟨h1, hp⟩ | ⟨h1, hp⟩
 ·refine sx_rd' (rd_load_agg' (i := 0) (o := 0) (nn := 3) rfl (ar rfl rfl rfl rfl) rfl agg30 (l' := (C2 a2_0 a2_1 a2_2)) rfl) rfl rfl (wt_is' (wt_guard' rfl rfl rfl) (beq_tt h1)) ?_
  refine sx_rd' (rd_load_agg' (i := 1) (o := 0) (nn := 3) rfl (ar rfl rfl rfl rfl) rfl agg30 (l' := (C2 a1_0 a1_1 a1_2)) rfl) rfl rfl (wt_is' (wt_guard' rfl rfl rfl) (beq_tt h1)) ?_
  obtain ⟨r14, hr14, hp⟩ := bind_some hp
  refine sx_ox' (oz (ent_fn' Tryz.func29 isn29 rfl rfl) (spec_Dyadic_Cmp_sim _ _ _ _ _ _ hr14)) (wt_is' (wt_guard' rfl rfl rfl) (beq_tt h1)) fun ⟨⟩ => ?_
  refine sx_rd' (rd_bin' rfl rfl eg_int ru_leq) rfl rfl (wt_is' (wt_guard' rfl rfl rfl) (beq_tt h1)) ?_
  refine s0 (rd_pick_true' rfl h1 rfl) ?_
  refine sx_nil' ?_
  show TX E K3 _
  exact tk [2,1,0] (u4 rfl rfl rfl rfl) (p3 rfl rfl rfl) (hK3 (decide (r14 ≤ 0)) hp)
 iterate 4 refine sx_skip' rfl rfl (wt_is' (wt_guard' rfl rfl rfl) (beq_ft h1)) ?_
 refine s0 (rd_pick_false' rfl h1 rfl) ?_
 refine sx_nil' ?_
 show TX E K3 _
 exact tk [2,1,0] (u4 rfl rfl rfl rfl) (p3 rfl rfl rfl) (hK3 false hp)

def spec_OnSegment_j2 (k : Nat) (x2 : Bool) : Option (Bool) :=
 some x2
def spec_OnSegment_j1 (k : Nat) (a1_3 : Bool) (a1_4 : List Int) (a1_5 : Int) (a2_3 : Bool) (a2_4 : List Int) (a2_5 : Int) (a0_3 : Bool) (a0_4 : List Int) (a0_5 : Int) (x1 : Bool) : Option (Bool) :=
 br x1
  ((spec_Between k a1_3 a1_4 a1_5 a2_3 a2_4 a2_5 a0_3 a0_4 a0_5) >>= fun r28 =>
  spec_OnSegment_j2 k r28)
  (spec_OnSegment_j2 k false)
def spec_OnSegment (k : Nat) (a0_0 : Bool) (a0_1 : List Int) (a0_2 : Int) (a0_3 : Bool) (a0_4 : List Int) (a0_5 : Int) (a1_0 : Bool) (a1_1 : List Int) (a1_2 : Int) (a1_3 : Bool) (a1_4 : List Int) (a1_5 : Int) (a2_0 : Bool) (a2_1 : List Int) (a2_2 : Int) (a2_3 : Bool) (a2_4 : List Int) (a2_5 : Int) : Option (Bool) :=
 (spec_Orient k a1_0 a1_1 a1_2 a1_3 a1_4 a1_5 a2_0 a2_1 a2_2 a2_3 a2_4 a2_5 a0_0 a0_1 a0_2 a0_3 a0_4 a0_5) >>= fun r10 =>
 br (decide (r10 = 0))
  ((spec_Between k a1_0 a1_1 a1_2 a2_0 a2_1 a2_2 a0_0 a0_1 a0_2) >>= fun r19 =>
  spec_OnSegment_j1 k a1_3 a1_4 a1_5 a2_3 a2_4 a2_5 a0_3 a0_4 a0_5 r19)
  (spec_OnSegment_j1 k a1_3 a1_4 a1_5 a2_3 a2_4 a2_5 a0_3 a0_4 a0_5 false)

theorem spec_OnSegment_sim {k : Nat}  (a0_0 : Bool) (a0_1 : List Int) (a0_2 : Int) (a0_3 : Bool) (a0_4 : List Int) (a0_5 : Int) (a1_0 : Bool) (a1_1 : List Int) (a1_2 : Int) (a1_3 : Bool) (a1_4 : List Int) (a1_5 : Int) (a2_0 : Bool) (a2_1 : List Int) (a2_2 : Int) (a2_3 : Bool) (a2_4 : List Int) (a2_5 : Int) {out : Bool} (hp : spec_OnSegment k a0_0 a0_1 a0_2 a0_3 a0_4 a0_5 a1_0 a1_1 a1_2 a1_3 a1_4 a1_5 a2_0 a2_1 a2_2 a2_3 a2_4 a2_5 = some out) : Sx.Fn Tryz.prog 12 [(Ag (C0 a0_0 a0_1 a0_2 a0_3 a0_4 a0_5)), (Ag (C0 a1_0 a1_1 a1_2 a1_3 a1_4 a1_5)), (Ag (C0 a2_0 a2_1 a2_2 a2_3 a2_4 a2_5))] [] (fun w : Unit => (Vb out)) (fun w => []) := by
 unfold spec_OnSegment at hp
 refine fn_of Tryz.func12 rfl Tryz.ntmps12 rfl fun E hM => ?_
 refine cr fun K1 hK1 => ?_
 refine so (ox_box' rfl (lv_ag _) rfl rfl) fun q3 => ?_
 refine so (ox_box' rfl (lv_ag _) rfl rfl) fun q4 => ?_
 refine so (ox_box' rfl (lv_ag _) rfl rfl) fun q5 => ?_
 refine sa rfl ?_
 refine nk hK1 ?_
 refine cr fun K2 hK2 => ?_
 refine s0 (rd_load_agg' (i := 1) (o := 0) (nn := 6) rfl (ar rfl rfl rfl rfl) rfl agg32 (l' := (C0 a1_0 a1_1 a1_2 a1_3 a1_4 a1_5)) rfl) ?_
 refine s0 (rd_load_agg' (i := 0) (o := 0) (nn := 6) rfl (ar rfl rfl rfl rfl) rfl agg32 (l' := (C0 a2_0 a2_1 a2_2 a2_3 a2_4 a2_5)) rfl) ?_
 refine s0 (rd_load_agg' (i := 2) (o := 0) (nn := 6) rfl (ar rfl rfl rfl rfl) rfl agg32 (l' := (C0 a0_0 a0_1 a0_2 a0_3 a0_4 a0_5)) rfl) ?_
 obtain ⟨r10, hr10, hp⟩ := bind_some hp
 refine so (oz (ent_fn' Tryz.func14 isn14 rfl rfl) (spec_Orient_sim _ _ _ _ _ _ _ _ _ _ _ _ _ _ _ _ _ _ hr10)) fun ⟨⟩ => ?_
 refine sb rfl rfl eg_int ru_eql ?_
 refine sm rfl ?_
 refine sx_cutn' 8 (fun (v1 : Bool) => (⟨30, [], [(3, (Vp q3)), (4, (Vp q4)), (5, (Vp q5)), (20, (Vb v1))], [(Ur q3 32 (C0 a0_0 a0_1 a0_2 a0_3 a0_4 a0_5)), (Ur q4 32 (C0 a1_0 a1_1 a1_2 a1_3 a1_4 a1_5)), (Ur q5 32 (C0 a2_0 a2_1 a2_2 a2_3 a2_4 a2_5))]⟩ : St)) (fun (v1 : Bool) => spec_OnSegment_j1 k a1_3 a1_4 a1_5 a2_3 a2_4 a2_5 a0_3 a0_4 a0_5 v1 = some out) ?_ ?_
 ·rintro x1 hp
  replace hp : spec_OnSegment_j1 k a1_3 a1_4 a1_5 a2_3 a2_4 a2_5 a0_3 a0_4 a0_5 x1 = some out := hp
  unfold spec_OnSegment_j1 at hp
  refine sm rfl ?_
  refine sx_cutn' 8 (fun (v2 : Bool) => (⟨30, [], [(29, (Vb v2))], []⟩ : St)) (fun (v2 : Bool) => spec_OnSegment_j2 k v2 = some out) ?_ ?_
  ·rintro x2 hp
   replace hp : spec_OnSegment_j2 k x2 = some out := hp
   unfold spec_OnSegment_j2 at hp
   refine sa rfl ?_
   refine nk hK2 ?_
   refine cx_retc' ?_
   replace hp := sj hp
   subst hp
   refine tk (L' := [(6, (Vb x2))]) (H' := []) [] (uc rfl un) pn ?_
   exact tx_ret1' Tryz.results12 rfl () (rv_tmp' rfl) lr
  intro K4 hK4
  rcases br_cases hp with ⟨h2, hp⟩ | ⟨h2, hp⟩
  ·refine sx_rd' (rd_field' (off := 3) rfl Tryz.underlying32 rfl info30 rfl) rfl rfl (wt_is' (wt_guard' rfl rfl rfl) (beq_tt h2)) ?_
   refine sx_rd' (rd_load_agg' (i := 1) (o := 3) (nn := 3) rfl (ar rfl rfl rfl rfl) rfl agg30 (l' := (C2 a1_3 a1_4 a1_5)) rfl) rfl rfl (wt_is' (wt_guard' rfl rfl rfl) (beq_tt h2)) ?_
   refine sx_rd' (rd_field' (off := 3) rfl Tryz.underlying32 rfl info30 rfl) rfl rfl (wt_is' (wt_guard' rfl rfl rfl) (beq_tt h2)) ?_
   refine sx_rd' (rd_load_agg' (i := 2) (o := 3) (nn := 3) rfl (ar rfl rfl rfl rfl) rfl agg30 (l' := (C2 a2_3 a2_4 a2_5)) rfl) rfl rfl (wt_is' (wt_guard' rfl rfl rfl) (beq_tt h2)) ?_
   refine sx_rd' (rd_field' (off := 3) rfl Tryz.underlying32 rfl info30 rfl) rfl rfl (wt_is' (wt_guard' rfl rfl rfl) (beq_tt h2)) ?_
   refine sx_rd' (rd_load_agg' (i := 0) (o := 3) (nn := 3) rfl (ar rfl rfl rfl rfl) rfl agg30 (l' := (C2 a0_3 a0_4 a0_5)) rfl) rfl rfl (wt_is' (wt_guard' rfl rfl rfl) (beq_tt h2)) ?_
   obtain ⟨r28, hr28, hp⟩ := bind_some hp
   refine sx_ox' (oz (ent_fn' Tryz.func33 isn33 rfl rfl) (spec_Between_sim _ _ _ _ _ _ _ _ _ hr28)) (wt_is' (wt_guard' rfl rfl rfl) (beq_tt h2)) fun ⟨⟩ => ?_
   refine s0 (rd_pick_true' rfl h2 rfl) ?_
   refine sx_nil' ?_
   show TX E K4 _
   exact tk [] (uc rfl un) pn (hK4 r28 hp)
  iterate 7 refine sx_skip' rfl rfl (wt_is' (wt_guard' rfl rfl rfl) (beq_ft h2)) ?_
  refine s0 (rd_pick_false' rfl h2 rfl) ?_
  refine sx_nil' ?_
  show TX E K4 _
  exact tk [] (uc rfl un) pn (hK4 false hp)
 intro K3 hK3
 rcases br_cases hp with ⟨h1, hp⟩ | ⟨h1, hp⟩
 ·refine sx_rd' (rd_field0' rfl Tryz.underlying32 rfl info30 rfl) rfl rfl (wt_is' (wt_guard' rfl rfl rfl) (beq_tt h1)) ?_
  refine sx_rd' (rd_load_agg' (i := 1) (o := 0) (nn := 3) rfl (ar rfl rfl rfl rfl) rfl agg30 (l' := (C2 a1_0 a1_1 a1_2)) rfl) rfl rfl (wt_is' (wt_guard' rfl rfl rfl) (beq_tt h1)) ?_
  refine sx_rd' (rd_field0' rfl Tryz.underlying32 rfl info30 rfl) rfl rfl (wt_is' (wt_guard' rfl rfl rfl) (beq_tt h1)) ?_
  refine sx_rd' (rd_load_agg' (i := 0) (o := 0) (nn := 3) rfl (ar rfl rfl rfl rfl) rfl agg30 (l' := (C2 a2_0 a2_1 a2_2)) rfl) rfl rfl (wt_is' (wt_guard' rfl rfl rfl) (beq_tt h1)) ?_
  refine sx_rd' (rd_field0' rfl Tryz.underlying32 rfl info30 rfl) rfl rfl (wt_is' (wt_guard' rfl rfl rfl) (beq_tt h1)) ?_
  refine sx_rd' (rd_load_agg' (i := 2) (o := 0) (nn := 3) rfl (ar rfl rfl rfl rfl) rfl agg30 (l' := (C2 a0_0 a0_1 a0_2)) rfl) rfl rfl (wt_is' (wt_guard' rfl rfl rfl) (beq_tt h1)) ?_
  obtain ⟨r19, hr19, hp⟩ := bind_some hp
  refine sx_ox' (oz (ent_fn' Tryz.func33 isn33 rfl rfl) (spec_Between_sim _ _ _ _ _ _ _ _ _ hr19)) (wt_is' (wt_guard' rfl rfl rfl) (beq_tt h1)) fun ⟨⟩ => ?_
  refine s0 (rd_pick_true' rfl h1 rfl) ?_
  refine sx_nil' ?_
  show TX E K3 _
  exact tk [2,1,0] (u4 rfl rfl rfl rfl) (p3 rfl rfl rfl) (hK3 r19 hp)
 iterate 7 refine sx_skip' rfl rfl (wt_is' (wt_guard' rfl rfl rfl) (beq_ft h1)) ?_
 refine s0 (rd_pick_false' rfl h1 rfl) ?_
 refine sx_nil' ?_
 show TX E K3 _
 exact tk [2,1,0] (u4 rfl rfl rfl rfl) (p3 rfl rfl rfl) (hK3 false hp)

def spec_Less_j2 (k : Nat) (x2 : Bool) : Option (Bool) :=
 some x2
def spec_Less_j1 (k : Nat) (x1 : Bool) : Option (Bool) :=
 spec_Less_j2 k x1
def spec_Less (k : Nat) (a0_0 : Bool) (a0_1 : List Int) (a0_2 : Int) (a0_3 : Bool) (a0_4 : List Int) (a0_5 : Int) (a1_0 : Bool) (a1_1 : List Int) (a1_2 : Int) (a1_3 : Bool) (a1_4 : List Int) (a1_5 : Int) : Option (Bool) :=
 (spec_Dyadic_Cmp k a0_0 a0_1 a0_2 a1_0 a1_1 a1_2) >>= fun r10 =>
 br (decide (r10 < 0))
  (spec_Less_j2 k true)
  (br (decide (r10 = 0))
   ((spec_Dyadic_Cmp k a0_3 a0_4 a0_5 a1_3 a1_4 a1_5) >>= fun r21 =>
   spec_Less_j1 k (decide (r21 < 0)))
   (spec_Less_j1 k false))

theorem spec_Less_sim {k : Nat}  (a0_0 : Bool) (a0_1 : List Int) (a0_2 : Int) (a0_3 : Bool) (a0_4 : List Int) (a0_5 : Int) (a1_0 : Bool) (a1_1 : List Int) (a1_2 : Int) (a1_3 : Bool) (a1_4 : List Int) (a1_5 : Int) {out : Bool} (hp : spec_Less k a0_0 a0_1 a0_2 a0_3 a0_4 a0_5 a1_0 a1_1 a1_2 a1_3 a1_4 a1_5 = some out) : Sx.Fn Tryz.prog 34 [(Ag (C0 a0_0 a0_1 a0_2 a0_3 a0_4 a0_5)), (Ag (C0 a1_0 a1_1 a1_2 a1_3 a1_4 a1_5))] [] (fun w : Unit => (Vb out)) (fun w => []) := by
 unfold spec_Less at hp
 refine fn_of Tryz.func34 rfl Tryz.ntmps34 rfl fun E hM => ?_
 refine cr fun K1 hK1 => ?_
 refine so (ox_box' rfl (lv_ag _) rfl rfl) fun q2 => ?_
 refine so (ox_box' rfl (lv_ag _) rfl rfl) fun q3 => ?_
 refine sa rfl ?_
 refine nk hK1 ?_
 refine cr fun K2 hK2 => ?_
 refine sf rfl Tryz.underlying32 rfl info30 rfl ?_
 refine s0 (rd_load_agg' (i := 1) (o := 0) (nn := 3) rfl (ar rfl rfl rfl rfl) rfl agg30 (l' := (C2 a0_0 a0_1 a0_2)) rfl) ?_
 refine sf rfl Tryz.underlying32 rfl info30 rfl ?_
 refine s0 (rd_load_agg' (i := 0) (o := 0) (nn := 3) rfl (ar rfl rfl rfl rfl) rfl agg30 (l' := (C2 a1_0 a1_1 a1_2)) rfl) ?_
 obtain ⟨r10, hr10, hp⟩ := bind_some hp
 refine so (oz (ent_fn' Tryz.func29 isn29 rfl rfl) (spec_Dyadic_Cmp_sim _ _ _ _ _ _ hr10)) fun ⟨⟩ => ?_
 refine sa rfl ?_
 refine nk hK2 ?_
 refine cr fun K3 hK3 => ?_
 refine sm rfl ?_
 refine sb rfl rfl eg_int ru_lss ?_
 refine sm rfl ?_
 refine sx_cutn' 11 (fun (v2 : Bool) => (⟨25, [], [(24, (Vb v2))], []⟩ : St)) (fun (v2 : Bool) => spec_Less_j2 k v2 = some out) ?_ ?_
 ·rintro x2 hp
  replace hp : spec_Less_j2 k x2 = some out := hp
  unfold spec_Less_j2 at hp
  refine sa rfl ?_
  refine nk hK3 ?_
  refine cx_retc' ?_
  replace hp := sj hp
  subst hp
  refine tk (L' := [(4, (Vb x2))]) (H' := []) [] (uc rfl un) pn ?_
  exact tx_ret1' Tryz.results34 rfl () (rv_tmp' rfl) lr
 intro K5 hK5
 rcases br_cases hp with ⟨h1, hp⟩ | ⟨h1, hp⟩
 ·refine sx_skip' rfl rfl (wt_is' (wt_guard' rfl rfl rfl) (beq_tf h1)) ?_
  iterate 2 refine sx_skip' rfl rfl (wt_is' (wt_guard' rfl rfl rfl) (beq_tf h1)) ?_
  iterate 6 refine sx_skip' rfl rfl (wt_undef' rfl rfl rfl) ?_
  refine sx_skip' rfl rfl (wt_is' (wt_guard' rfl rfl rfl) (beq_tf h1)) ?_
  refine s0 (rd_pick_true' rfl h1 rfl) ?_
  refine sx_nil' ?_
  show TX E K5 _
  exact tk [] (uc rfl un) pn (hK5 true hp)
 refine sx_rd' (rd_move' rfl) rfl rfl (wt_is' (wt_guard' rfl rfl rfl) (beq_ff h1)) ?_
 refine sx_rd' (rd_bin' rfl rfl eg_int ru_eql) rfl rfl (wt_is' (wt_guard' rfl rfl rfl) (beq_ff h1)) ?_
 refine sx_rd' (rd_move' rfl) rfl rfl (wt_is' (wt_guard' rfl rfl rfl) (beq_ff h1)) ?_
 refine sx_cutn' 8 (fun (v1 : Bool) => (⟨25, [], [(24, (Vb v1))], []⟩ : St)) (fun (v1 : Bool) => spec_Less_j1 k v1 = some out) ?_ ?_
 ·rintro x1 hp
  replace hp : spec_Less_j1 k x1 = some out := hp
  unfold spec_Less_j1 at hp
  refine sx_nil' ?_
  show TX E K5 _
  exact tk [] (uc rfl un) pn (hK5 x1 hp)
 intro K4 hK4
 rcases br_cases hp with ⟨h2, hp⟩ | ⟨h2, hp⟩
 ·refine sx_rd' (rd_field' (off := 3) rfl Tryz.underlying32 rfl info30 rfl) rfl rfl (wt_is' (wt_guard' rfl rfl rfl) (beq_tt h2)) ?_
  refine sx_rd' (rd_load_agg' (i := 1) (o := 3) (nn := 3) rfl (ar rfl rfl rfl rfl) rfl agg30 (l' := (C2 a0_3 a0_4 a0_5)) rfl) rfl rfl (wt_is' (wt_guard' rfl rfl rfl) (beq_tt h2)) ?_
  refine sx_rd' (rd_field' (off := 3) rfl Tryz.underlying32 rfl info30 rfl) rfl rfl (wt_is' (wt_guard' rfl rfl rfl) (beq_tt h2)) ?_
  refine sx_rd' (rd_load_agg' (i := 0) (o := 3) (nn := 3) rfl (ar rfl rfl rfl rfl) rfl agg30 (l' := (C2 a1_3 a1_4 a1_5)) rfl) rfl rfl (wt_is' (wt_guard' rfl rfl rfl) (beq_tt h2)) ?_
  obtain ⟨r21, hr21, hp⟩ := bind_some hp
  refine sx_ox' (oz (ent_fn' Tryz.func29 isn29 rfl rfl) (spec_Dyadic_Cmp_sim _ _ _ _ _ _ hr21)) (wt_is' (wt_guard' rfl rfl rfl) (beq_tt h2)) fun ⟨⟩ => ?_
  refine sx_rd' (rd_bin' rfl rfl eg_int ru_lss) rfl rfl (wt_is' (wt_guard' rfl rfl rfl) (beq_tt h2)) ?_
  refine sx_rd' (rd_pick_true' rfl h2 rfl) rfl rfl (wt_is' (wt_guard' rfl rfl rfl) (beq_ff h1)) ?_
  refine s0 (rd_pick_false' rfl h1 rfl) ?_
  refine sx_nil' ?_
  show TX E K4 _
  exact tk [] (uc rfl un) pn (hK4 (decide (r21 < 0)) hp)
 iterate 6 refine sx_skip' rfl rfl (wt_is' (wt_guard' rfl rfl rfl) (beq_ft h2)) ?_
 refine sx_rd' (rd_pick_false' rfl h2 rfl) rfl rfl (wt_is' (wt_guard' rfl rfl rfl) (beq_ff h1)) ?_
 refine s0 (rd_pick_false' rfl h1 rfl) ?_
 refine sx_nil' ?_
 show TX E K4 _
 exact tk [] (uc rfl un) pn (hK4 false hp)

def spec_Same_j1 (k : Nat) (x1 : Bool) : Option (Bool) :=
 some x1
def spec_Same (k : Nat) (a0_0 : Bool) (a0_1 : List Int) (a0_2 : Int) (a0_3 : Bool) (a0_4 : List Int) (a0_5 : Int) (a1_0 : Bool) (a1_1 : List Int) (a1_2 : Int) (a1_3 : Bool) (a1_4 : List Int) (a1_5 : Int) : Option (Bool) :=
 (spec_Dyadic_Cmp k a0_0 a0_1 a0_2 a1_0 a1_1 a1_2) >>= fun r9 =>
 br (decide (r9 = 0))
  ((spec_Dyadic_Cmp k a0_3 a0_4 a0_5 a1_3 a1_4 a1_5) >>= fun r16 =>
  spec_Same_j1 k (decide (r16 = 0)))
  (spec_Same_j1 k false)

theorem spec_Same_sim {k : Nat}  (a0_0 : Bool) (a0_1 : List Int) (a0_2 : Int) (a0_3 : Bool) (a0_4 : List Int) (a0_5 : Int) (a1_0 : Bool) (a1_1 : List Int) (a1_2 : Int) (a1_3 : Bool) (a1_4 : List Int) (a1_5 : Int) {out : Bool} (hp : spec_Same k a0_0 a0_1 a0_2 a0_3 a0_4 a0_5 a1_0 a1_1 a1_2 a1_3 a1_4 a1_5 = some out) : Sx.Fn Tryz.prog 35 [(Ag (C0 a0_0 a0_1 a0_2 a0_3 a0_4 a0_5)), (Ag (C0 a1_0 a1_1 a1_2 a1_3 a1_4 a1_5))] [] (fun w : Unit => (Vb out)) (fun w => []) := by
 unfold spec_Same at hp
 refine fn_of Tryz.func35 rfl Tryz.ntmps35 rfl fun E hM => ?_
 refine cr fun K1 hK1 => ?_
 refine so (ox_box' rfl (lv_ag _) rfl rfl) fun q2 => ?_
 refine so (ox_box' rfl (lv_ag _) rfl rfl) fun q3 => ?_
 refine sa rfl ?_
 refine nk hK1 ?_
 refine cr fun K2 hK2 => ?_
 refine sf rfl Tryz.underlying32 rfl info30 rfl ?_
 refine s0 (rd_load_agg' (i := 1) (o := 0) (nn := 3) rfl (ar rfl rfl rfl rfl) rfl agg30 (l' := (C2 a0_0 a0_1 a0_2)) rfl) ?_
 refine sf rfl Tryz.underlying32 rfl info30 rfl ?_
 refine s0 (rd_load_agg' (i := 0) (o := 0) (nn := 3) rfl (ar rfl rfl rfl rfl) rfl agg30 (l' := (C2 a1_0 a1_1 a1_2)) rfl) ?_
 obtain ⟨r9, hr9, hp⟩ := bind_some hp
 refine so (oz (ent_fn' Tryz.func29 isn29 rfl rfl) (spec_Dyadic_Cmp_sim _ _ _ _ _ _ hr9)) fun ⟨⟩ => ?_
 refine sb rfl rfl eg_int ru_eql ?_
 refine sm rfl ?_
 refine sx_cutn' 7 (fun (v1 : Bool) => (⟨19, [], [(18, (Vb v1))], []⟩ : St)) (fun (v1 : Bool) => spec_Same_j1 k v1 = some out) ?_ ?_
 ·rintro x1 hp
  replace hp : spec_Same_j1 k x1 = some out := hp
  unfold spec_Same_j1 at hp
  refine sa rfl ?_
  refine nk hK2 ?_
  refine cx_retc' ?_
  replace hp := sj hp
  subst hp
  refine tk (L' := [(4, (Vb x1))]) (H' := []) [] (uc rfl un) pn ?_
  exact tx_ret1' Tryz.results35 rfl () (rv_tmp' rfl) lr
 intro K3 hK3
 rcases br_cases hp with ⟨h1, hp⟩ | ⟨h1, hp⟩
 ·refine sx_rd' (rd_field' (off := 3) rfl Tryz.underlying32 rfl info30 rfl) rfl rfl (wt_is' (wt_guard' rfl rfl rfl) (beq_tt h1)) ?_
  refine sx_rd' (rd_load_agg' (i := 1) (o := 3) (nn := 3) rfl (ar rfl rfl rfl rfl) rfl agg30 (l' := (C2 a0_3 a0_4 a0_5)) rfl) rfl rfl (wt_is' (wt_guard' rfl rfl rfl) (beq_tt h1)) ?_
  refine sx_rd' (rd_field' (off := 3) rfl Tryz.underlying32 rfl info30 rfl) rfl rfl (wt_is' (wt_guard' rfl rfl rfl) (beq_tt h1)) ?_
  refine sx_rd' (rd_load_agg' (i := 0) (o := 3) (nn := 3) rfl (ar rfl rfl rfl rfl) rfl agg30 (l' := (C2 a1_3 a1_4 a1_5)) rfl) rfl rfl (wt_is' (wt_guard' rfl rfl rfl) (beq_tt h1)) ?_
  obtain ⟨r16, hr16, hp⟩ := bind_some hp
  refine sx_ox' (oz (ent_fn' Tryz.func29 isn29 rfl rfl) (spec_Dyadic_Cmp_sim _ _ _ _ _ _ hr16)) (wt_is' (wt_guard' rfl rfl rfl) (beq_tt h1)) fun ⟨⟩ => ?_
  refine sx_rd' (rd_bin' rfl rfl eg_int ru_eql) rfl rfl (wt_is' (wt_guard' rfl rfl rfl) (beq_tt h1)) ?_
  refine s0 (rd_pick_true' rfl h1 rfl) ?_
  refine sx_nil' ?_
  show TX E K3 _
  exact tk [] (uc rfl un) pn (hK3 (decide (r16 = 0)) hp)
 iterate 6 refine sx_skip' rfl rfl (wt_is' (wt_guard' rfl rfl rfl) (beq_ft h1)) ?_
 refine s0 (rd_pick_false' rfl h1 rfl) ?_
 refine sx_nil' ?_
 show TX E K3 _
 exact tk [] (uc rfl un) pn (hK3 false hp)

def spec_Distinct_j4 (k : Nat) (rec2 : ((List (Bool × (List Int) × Int × Bool × (List Int) × Int)) × Int) → Option ((List (Bool × (List Int) × Int × Bool × (List Int) × Int)))) (x2 : Int) (x8 : List (Bool × (List Int) × Int × Bool × (List Int) × Int)) : Option ((List (Bool × (List Int) × Int × Bool × (List Int) × Int))) :=
 rec2 (x8, (iadd .i64 x2 1))
def spec_Distinct_j2 (k : Nat) (rec1 : Int → Option (Int)) (x5 : Int) (x4 : Bool) : Option (Int) :=
 br x4
  (rec1 (iadd .i64 x5 1))
  (some x5)
def spec_Distinct_l1s (x1 : List (Bool × (List Int) × Int × Bool × (List Int) × Int)) (r11 : Bool × (List Int) × Int × Bool × (List Int) × Int) (k : Nat) (rec1 : Int → Option (Int)) (x5 : Int) : Option (Int) :=
 br (decide (x5 < (x1.length : Int)))
  ((idx x1 x5) >>= fun r20 =>
  (spec_Less k r20.1 r20.2.1 r20.2.2.1 r20.2.2.2.1 r20.2.2.2.2.1 r20.2.2.2.2.2 r11.1 r11.2.1 r11.2.2.1 r11.2.2.2.1 r11.2.2.2.2.1 r11.2.2.2.2.2) >>= fun r23 =>
  spec_Distinct_j2 k rec1 x5 r23)
  (spec_Distinct_j2 k rec1 x5 false)
def spec_Distinct_l1 (x1 : List (Bool × (List Int) × Int × Bool × (List Int) × Int)) (r11 : Bool × (List Int) × Int × Bool × (List Int) × Int) : Nat → Int → Option (Int)
 | 0, _ => none
 | k + 1, v => spec_Distinct_l1s x1 r11 k (spec_Distinct_l1 x1 r11 k) v
def spec_Distinct_j3 (k : Nat) (rec2 : ((List (Bool × (List Int) × Int × Bool × (List Int) × Int)) × Int) → Option ((List (Bool × (List Int) × Int × Bool × (List Int) × Int)))) (x2 : Int) (x1 : List (Bool × (List Int) × Int × Bool × (List Int) × Int)) (v19 : Int) (r11 : Bool × (List Int) × Int × Bool × (List Int) × Int) (x7 : Bool) : Option ((List (Bool × (List Int) × Int × Bool × (List Int) × Int))) :=
 br x7
  (spec_Distinct_j4 k rec2 x2 x1)
  ((cut x1 v19 (x1.length : Int)) >>= fun r47 =>
  (cut x1 0 v19) >>= fun r42 =>
  (apd 80 ([(r11.1, r11.2.1, r11.2.2.1, r11.2.2.2.1, r11.2.2.2.2.1, r11.2.2.2.2.2)]) r47) >>= fun r48 =>
  (apdc 80 r42 r48) >>= fun r49 =>
  spec_Distinct_j4 k rec2 x2 r49)
def spec_Distinct_l2s (a0 : List (Bool × (List Int) × Int × Bool × (List Int) × Int)) (k : Nat) (rec2 : ((List (Bool × (List Int) × Int × Bool × (List Int) × Int)) × Int) → Option ((List (Bool × (List Int) × Int × Bool × (List Int) × Int)))) (x1 : List (Bool × (List Int) × Int × Bool × (List Int) × Int)) (x2 : Int) : Option ((List (Bool × (List Int) × Int × Bool × (List Int) × Int))) :=
 br (decide (x2 < (a0.length : Int)))
  ((idx a0 x2) >>= fun r11 =>
  (spec_Distinct_l1 x1 r11 k 0) >>= fun v19 =>
  br (decide (v19 < (x1.length : Int)))
   ((idx x1 v19) >>= fun r34 =>
   (spec_Same k r34.1 r34.2.1 r34.2.2.1 r34.2.2.2.1 r34.2.2.2.2.1 r34.2.2.2.2.2 r11.1 r11.2.1 r11.2.2.1 r11.2.2.2.1 r11.2.2.2.2.1 r11.2.2.2.2.2) >>= fun r37 =>
   spec_Distinct_j3 k rec2 x2 x1 v19 r11 r37)
   (spec_Distinct_j3 k rec2 x2 x1 v19 r11 false))
  (some x1)
def spec_Distinct_l2 (a0 : List (Bool × (List Int) × Int × Bool × (List Int) × Int)) : Nat → ((List (Bool × (List Int) × Int × Bool × (List Int) × Int)) × Int) → Option ((List (Bool × (List Int) × Int × Bool × (List Int) × Int)))
 | 0, _ => none
 | k + 1, v => spec_Distinct_l2s a0 k (spec_Distinct_l2 a0 k) v.1 v.2
def spec_Distinct (k : Nat) (a0 : List (Bool × (List Int) × Int × Bool × (List Int) × Int)) : Option ((List (Bool × (List Int) × Int × Bool × (List Int) × Int)) × (List (Bool × (List Int) × Int × Bool × (List Int) × Int))) :=
 (spec_Distinct_l2 a0 k ([], 0)) >>= fun v22 =>
 some (a0, v22)

theorem spec_Distinct_sim {k : Nat} {wa0 : Gs} (a0 : List (Bool × (List Int) × Int × Bool × (List Int) × Int)) {out : (List (Bool × (List Int) × Int × Bool × (List Int) × Int)) × (List (Bool × (List Int) × Int × Bool × (List Int) × Int))} (hp : spec_Distinct k a0 = some out) : Sx.Fn Tryz.prog 13 [(Vw wa0)] [(Rg KT32 32 wa0 a0)] (fun w : Unit => (Sl KT32 out.2)) (fun w => [(Rg KT32 32 wa0 out.1)]) := by
 unfold spec_Distinct at hp
 refine fn_of Tryz.func13 rfl Tryz.ntmps13 rfl fun E hM => ?_
 refine cr fun K1 hK1 => ?_
 refine sa rfl ?_
 refine nk hK1 ?_
 refine cr fun K2 hK2 => ?_
 refine sa rfl ?_
 refine nk hK2 ?_
 refine cx_seq' fun K3 hK3 => ?_
 refine cr fun K4 hK4 => ?_
 refine sm rfl ?_
 refine s0 (rd_lenr' (i := 0) rfl rfl rfl Tryz.underlying47) ?_
 refine sm rfl ?_
 refine nk hK4 ?_
 refine cx_block' ?_
 obtain ⟨v22, hy2, hp⟩ := bind_some hp
 refine tx_nilrow' KT32 32 ?_
 refine cx_loopg' (F := spec_Distinct_l2 a0) (G := fun k R v => spec_Distinct_l2s a0 k R v.1 v.2) (x := ([], 0)) (gh := (none, 0, 0)) (fun (v8 : (List (Bool × (List Int) × Int × Bool × (List Int) × Int)) × Int) (w8 : Gs) => (⟨52, [], [(3, (Vw w8)), (7, (Vw wa0)), (8, (Vi (a0.length : Int))), (9, (Vi v8.2))], [(Rg KT32 32 w8 v8.1), (Rg KT32 32 wa0 a0)]⟩ : St)) (fun (v22 : (List (Bool × (List Int) × Int × Bool × (List Int) × Int))) => Zg E (Exit.exit 0) (fun (w22 : Gs) => (⟨52, [], [(3, (Vw w22))], [(Rg KT32 32 w22 v22), (Rg KT32 32 wa0 a0)]⟩ : St))) (fun _ => rfl) (fun _ _ => rfl) ?_ hy2 (tx_to' rfl [0, 1] (u4 rfl rfl rfl rfl) (by decide) (p2 rfl rfl)) ?_
 ·clear hp hy2
  clear v22
  intro k rec2 KY2 ih2
  rintro ⟨x1, x2⟩ g9013 y2 hp
  replace hp : spec_Distinct_l2s a0 k rec2 x1 x2 = some y2 := hp
  unfold spec_Distinct_l2s at hp
  refine cr fun K15 hK15 => ?_
  refine sb rfl rfl eg_int ru_lss ?_
  refine nk hK15 ?_
  refine cx_seq' fun K16 hK16 => ?_
  refine cx_cond' rfl (fun h3 => ?_) (fun h3 => ?_)
  ·replace hp := (br_t h3).symm.trans hp
   refine cx_skip' ?_
   show TX E K16 _
   refine tx_k' hK16 ?_
   refine cx_join' (fun (v21 : (List (Bool × (List Int) × Int × Bool × (List Int) × Int)) × Gs) => (⟨52, [], [(3, (Vw v21.2)), (7, (Vw wa0)), (8, (Vi (a0.length : Int))), (9, (Vi x2))], [(Rg KT32 32 v21.2 v21.1), (Rg KT32 32 wa0 a0)]⟩ : St)) (fun (v21 : (List (Bool × (List Int) × Int × Bool × (List Int) × Int)) × Gs) => spec_Distinct_j4 k rec2 x2 v21.1 = some y2) ?_ ?_
   ·rintro ⟨x8, g9014⟩ hp
    replace hp : spec_Distinct_j4 k rec2 x2 x8 = some y2 := hp
    unfold spec_Distinct_j4 at hp
    refine cx_region' ?_
    refine sb rfl rfl eg_int ru_add ?_
    refine sm rfl ?_
    refine sx_nil' ?_
    show TX E (KY2 _) _
    exact tk [0,1] (u4 rfl rfl rfl rfl) (p2 rfl rfl) (ih2 (x8, (iadd .i64 x2 1)) g9014 _ hp)
   intro K17 hK17
   refine cx_block' ?_
   refine cr fun K18 hK18 => ?_
   obtain ⟨r11, hr11, hp⟩ := bind_some hp
   refine s0 (rd_atr' (m := 1) rfl rfl rfl rfl hr11 Tryz.underlying47 info32) ?_
   refine s0 (rd_loadr_agg' (nn := 6) rfl (m := 1) (i := x2) (j := 0) rfl rfl hr11 rfl rfl agg32 rfl) ?_
   refine so (ox_alloc' info32 rfl rfl rfl rfl (l := (C1 false 0 false 0)) rfl) fun q5 => ?_
   refine so (ox_store' (i := 0) (o := 0) rfl rfl (lv_ag _) (ar rfl rfl rfl rfl) rfl info32 rfl (H' := [(Ur q5 32 (C0 r11.1 r11.2.1 r11.2.2.1 r11.2.2.2.1 r11.2.2.2.2.1 r11.2.2.2.2.2)), (Rg KT32 32 g9013 x1), (Rg KT32 32 wa0 a0)]) rfl) fun _ => ?_
   refine nk hK18 ?_
   refine cr fun K19 hK19 => ?_
   refine sa rfl ?_
   refine nk hK19 ?_
   refine cx_seq' fun K20 hK20 => ?_
   refine cx_block' ?_
   obtain ⟨v19, hy1, hp⟩ := bind_some hp
   refine cx_loopg' (F := spec_Distinct_l1 x1 r11) (G := fun k R v => spec_Distinct_l1s x1 r11 k R v) (x := 0) (gh := ()) (fun (v17 : Int) (w17 : Unit) => (⟨52, [], [(3, (Vw g9013)), (5, (Vp q5)), (6, (Vi v17)), (7, (Vw wa0)), (8, (Vi (a0.length : Int))), (9, (Vi x2))], [(Rg KT32 32 g9013 x1), (Ur q5 32 (C0 r11.1 r11.2.1 r11.2.2.1 r11.2.2.2.1 r11.2.2.2.2.1 r11.2.2.2.2.2)), (Rg KT32 32 wa0 a0)]⟩ : St)) (fun (v19 : Int) => Zg E (Exit.exit 2) (fun (w19 : Unit) => (⟨52, [], [(3, (Vw g9013)), (5, (Vp q5)), (6, (Vi v19)), (7, (Vw wa0)), (8, (Vi (a0.length : Int))), (9, (Vi x2))], [(Rg KT32 32 g9013 x1), (Ur q5 32 (C0 r11.1 r11.2.1 r11.2.2.1 r11.2.2.2.1 r11.2.2.2.2.1 r11.2.2.2.2.2)), (Rg KT32 32 wa0 a0)]⟩ : St))) (fun _ => rfl) (fun _ _ => rfl) ?_ hy1 (tx_to' rfl [1, 0, 2] (u6 rfl rfl rfl rfl rfl rfl) (by decide) (p3 rfl rfl rfl)) ?_
   ·clear hp hy1
    clear v19
    intro k rec1 KY1 ih1
    rintro x5 ⟨⟩ y1 hp
    replace hp : spec_Distinct_l1s x1 r11 k rec1 x5 = some y1 := hp
    unfold spec_Distinct_l1s at hp
    refine cx_seq' fun K26 hK26 => ?_
    refine cx_seq' fun K27 hK27 => ?_
    refine cx_plan' [] [] [(0, 1), (1, 1), (2, 1), (3, 1), (4, 1), (5, 1), (6, 1), (7, 1), (8, 1), (9, 1), (10, 0), (11, 1)] mixed (by kernel_rfl) ?_
    iterate 2 refine pd rfl (rd_move' rfl) ?_
    refine pd rfl (rd_lenr' (i := 0) rfl rfl rfl Tryz.underlying47) ?_
    refine pd rfl (rd_bin' rfl rfl eg_int ru_lss) ?_
    refine pd rfl (rd_move' rfl) ?_
    refine px_cutn' 7 (fun (v18 : Bool) => (⟨52, [], [(3, (Vw g9013)), (5, (Vp q5)), (6, (Vi x5)), (7, (Vw wa0)), (8, (Vi (a0.length : Int))), (9, (Vi x2)), (24, (Vb v18))], [(Rg KT32 32 g9013 x1), (Ur q5 32 (C0 r11.1 r11.2.1 r11.2.2.1 r11.2.2.2.1 r11.2.2.2.2.1 r11.2.2.2.2.2)), (Rg KT32 32 wa0 a0)]⟩ : St)) (fun (v18 : Bool) => spec_Distinct_j2 k rec1 x5 v18 = some y1) ?_ ?_
    ·rintro x4 hp
     replace hp : spec_Distinct_j2 k rec1 x5 x4 = some y1 := hp
     unfold spec_Distinct_j2 at hp
     refine px_nil' ?_
     show TX E K27 _
     refine tx_k' hK27 ?_
     refine cx_cond' rfl (fun h8 => ?_) (fun h8 => ?_)
     ·replace hp := (br_t h8).symm.trans hp
      refine cx_skip' ?_
      show TX E K26 _
      refine tx_k' hK26 ?_
      refine cx_block' ?_
      refine cx_region' ?_
      refine sm rfl ?_
      refine sb rfl rfl eg_int ru_add ?_
      refine sa rfl ?_
      refine sx_nil' ?_
      show TX E (KY1 _) _
      exact tk [0,1,2] (u6 rfl rfl rfl rfl rfl rfl) (p3 rfl rfl rfl) (ih1 (iadd .i64 x5 1) () _ hp)
     replace hp := (br_f h8).symm.trans hp
     refine cx_exit' ?_
     replace hp := sj hp
     subst hp
     show TX E (Zg E (Exit.exit 2) _ (Exit.exit 2)) _
     exact tx_zend' () rfl [0, 1, 2] (u6 rfl rfl rfl rfl rfl rfl) (by decide) (p3 rfl rfl rfl)
    intro K28 hK28
    rcases br_cases hp with ⟨h7, hp⟩ | ⟨h7, hp⟩
    ·refine px_rd' rfl (rd_move' rfl) rfl rfl (wt_is' (wt_guard' rfl rfl rfl) (beq_tt h7)) ?_
     refine px_rd' rfl (rd_move' rfl) rfl rfl (wt_is' (wt_guard' rfl rfl rfl) (beq_tt h7)) ?_
     obtain ⟨r20, hr20, hp⟩ := bind_some hp
     refine px_rd' rfl (rd_atr' (m := 0) rfl rfl rfl rfl hr20 Tryz.underlying47 info32) rfl rfl (wt_is' (wt_guard' rfl rfl rfl) (beq_tt h7)) ?_
     refine px_rd' rfl (rd_loadr_agg' (nn := 6) rfl (m := 0) (i := x5) (j := 0) rfl rfl hr20 rfl rfl agg32 rfl) rfl rfl (wt_is' (wt_guard' rfl rfl rfl) (beq_tt h7)) ?_
     refine px_rd' rfl (rd_load_agg' (i := 1) (o := 0) (nn := 6) rfl (ar rfl rfl rfl rfl) rfl agg32 (l' := (C0 r11.1 r11.2.1 r11.2.2.1 r11.2.2.2.1 r11.2.2.2.2.1 r11.2.2.2.2.2)) rfl) rfl rfl (wt_is' (wt_guard' rfl rfl rfl) (beq_tt h7)) ?_
     obtain ⟨r23, hr23, hp⟩ := bind_some hp
     refine px_ox' rfl (oz (ent_fn' Tryz.func34 isn34 rfl rfl) (spec_Less_sim _ _ _ _ _ _ _ _ _ _ _ _ hr23)) rfl bs_nil (wt_is' (wt_guard' rfl rfl rfl) (beq_tt h7)) fun ⟨⟩ => ?_
     refine pd rfl (rd_pick_true' rfl h7 rfl) ?_
     refine px_nil' ?_
     show TX E K28 _
     exact tk [0,1,2] (u7 rfl rfl rfl rfl rfl rfl rfl) (p3 rfl rfl rfl) (hK28 r23 hp)
    iterate 5 refine px_skip' rfl rfl rfl (wt_is' (wt_guard' rfl rfl rfl) (beq_ft h7)) ?_
    refine px_oskip' rfl rfl rfl (wt_is' (wt_guard' rfl rfl rfl) (beq_ft h7)) ?_
    refine pd rfl (rd_pick_false' rfl h7 rfl) ?_
    refine px_nil' ?_
    show TX E K28 _
    exact tk [0,1,2] (u7 rfl rfl rfl rfl rfl rfl rfl) (p3 rfl rfl rfl) (hK28 false hp)
   refine zg_out fun w19 => ?_
   show TX E K20 _
   refine tx_k' hK20 ?_
   refine cx_seq' fun K23 hK23 => ?_
   refine cx_seq' fun K24 hK24 => ?_
   refine cx_plan' [] [] [(0, 1), (1, 1), (2, 1), (3, 1), (4, 1), (5, 1), (6, 1), (7, 1), (8, 1), (9, 1), (10, 0), (11, 1)] mixed (by kernel_rfl) ?_
   iterate 2 refine pd rfl (rd_move' rfl) ?_
   refine pd rfl (rd_lenr' (i := 0) rfl rfl rfl Tryz.underlying47) ?_
   refine pd rfl (rd_bin' rfl rfl eg_int ru_lss) ?_
   refine pd rfl (rd_move' rfl) ?_
   refine px_cutn' 7 (fun (v20 : Bool) => (⟨52, [], [(3, (Vw g9013)), (5, (Vp q5)), (6, (Vi v19)), (7, (Vw wa0)), (8, (Vi (a0.length : Int))), (9, (Vi x2)), (38, (Vb v20))], [(Rg KT32 32 g9013 x1), (Ur q5 32 (C0 r11.1 r11.2.1 r11.2.2.1 r11.2.2.2.1 r11.2.2.2.2.1 r11.2.2.2.2.2)), (Rg KT32 32 wa0 a0)]⟩ : St)) (fun (v20 : Bool) => spec_Distinct_j3 k rec2 x2 x1 v19 r11 v20 = some y2) ?_ ?_
   ·rintro x7 hp
    replace hp : spec_Distinct_j3 k rec2 x2 x1 v19 r11 x7 = some y2 := hp
    unfold spec_Distinct_j3 at hp
    refine px_nil' ?_
    show TX E K24 _
    refine tx_k' hK24 ?_
    refine cx_cond' rfl (fun h10 => ?_) (fun h10 => ?_)
    ·replace hp := (br_t h10).symm.trans hp
     refine cx_exit' ?_
     show TX E K17 _
     exact tk [0,2] (u4 rfl rfl rfl rfl) (p2 rfl rfl) (hK17 (x1, g9013) hp)
    replace hp := (br_f h10).symm.trans hp
    refine cx_skip' ?_
    show TX E K23 _
    refine tx_k' hK23 ?_
    refine cx_plana' [] [(9, 1), (10, 1)] [(0, 2), (1, 2), (2, 2), (4, 1), (6, 1), (7, 1), (8, 1)] 5 #[true, true, true, false, true, false, true, true, true, false, false, false] mixed (by kernel_rfl) ?_
    iterate 3 refine px_rb' rfl (rb_move' rfl) rfl rfl (wt_none' rfl) ?_
    refine pd rfl (rd_load_agg' (i := 1) (o := 0) (nn := 6) rfl (ar rfl rfl rfl rfl) rfl agg32 (l' := (C0 r11.1 r11.2.1 r11.2.2.1 r11.2.2.2.1 r11.2.2.2.2.1 r11.2.2.2.2.2)) rfl) ?_
    iterate 2 refine pd rfl (rd_move' rfl) ?_
    refine tx_fz' (frz_row 0 [(3, (Vw g9013), (Sl KT32 x1)), (39, (Vw g9013), (Sl KT32 x1)), (45, (Vw g9013), (Sl KT32 x1))] (K := KT32) (xs := x1) (by decide) rfl ⟨⟨rfl, frz_it⟩, ⟨rfl, frz_it⟩, ⟨rfl, frz_it⟩, trivial⟩ (H' := [(Ur q5 32 (C0 r11.1 r11.2.1 r11.2.2.1 r11.2.2.2.1 r11.2.2.2.2.1 r11.2.2.2.2.2)), (Rg KT32 32 wa0 a0)]) frzH_refl) ?_
    obtain ⟨r47, hr47, hp⟩ := bind_some hp
    refine pd rfl (rd_cut_l' rfl rfl hr47 Tryz.underlying47 info32) ?_
    refine px_nil' ?_
    show AX E _ _ _ _ _ _ _ _
    obtain ⟨r42, hr42, hp⟩ := bind_some hp
    obtain ⟨r48, hr48, hp⟩ := bind_some hp
    obtain ⟨r49, hr49, hp⟩ := bind_some hp
    refine an 0 12 4095 (fun (v15 : Gs) => ⟨52, [], [(3, (Vw v15)), (7, (Vw wa0)), (8, (Vi (a0.length : Int))), (9, (Vi x2))], [(Rg KT32 32 v15 r49), (Rg KT32 32 wa0 a0)]⟩) ?_ ?_
    ·rintro g9012
     refine ax_nil (by kernel_rfl) ?_
     show TX E K17 _
     exact tk [0,1] (u4 rfl rfl rfl rfl) (p2 rfl rfl) (hK17 (r49, g9012) hp)
    intro hN16
    refine an 1 12 2047 (fun (v14 : Gs) => ⟨52, [], [(49, (Vw v14)), (7, (Vw wa0)), (8, (Vi (a0.length : Int))), (9, (Vi x2))], [(Rg KT32 32 v14 r49), (Rg KT32 32 wa0 a0)]⟩) ?_ ?_
    ·rintro g9011
     refine ax_rd (ix := 11) (last := #[true, true, true, true, true, true, true, true, true, true, true, true]) (by kernel_rfl) rfl (rd_assign' rfl) rfl rfl (wt_none' rfl) rfl ?_
     exact tk [0,1] (u4 rfl rfl rfl rfl) (p2 rfl rfl) (hN16 g9011)
    intro hN15
    refine an 2 12 1023 (fun (v13 : Gs) => ⟨52, [], [(42, (Sc KT32 r42)), (48, (Vw v13)), (7, (Vw wa0)), (8, (Vi (a0.length : Int))), (9, (Vi x2))], [(Rg KT32 32 v13 r48), (Rg KT32 32 wa0 a0)]⟩) ?_ ?_
    ·rintro g9010
     refine al1 10 (by kernel_rfl) ?_
     ·exact no rfl (ox_appendc' (K := KT32) (xs := r42) (ys := r48) rfl (sr_row' (j := 0) rfl rfl rfl Tryz.underlying47) hr49 Tryz.underlying47 info32 rfl rfl rfl) fun g49 => tk [0,2] (u4 rfl rfl rfl rfl) (p2 rfl rfl) (hN15 g49)
    intro hN14
    refine an 3 12 511 (fun (v11 : Gs) => ⟨52, [], [(42, (Sc KT32 r42)), (44, (Vw v11)), (47, (Sl KT32 r47)), (7, (Vw wa0)), (8, (Vi (a0.length : Int))), (9, (Vi x2))], [(Rg KT32 32 v11 ([(r11.1, r11.2.1, r11.2.2.1, r11.2.2.2.1, r11.2.2.2.2.1, r11.2.2.2.2.2)])), (Rg KT32 32 wa0 a0)]⟩) ?_ ?_
    ·rintro g908
     refine al1 9 (by kernel_rfl) ?_
     ·exact no rfl (ox_append' (K := KT32) (i := 0) (xs := ([(r11.1, r11.2.1, r11.2.2.1, r11.2.2.2.1, r11.2.2.2.2.1, r11.2.2.2.2.2)])) (ys := r47) rfl rfl rfl (sr_sl' rfl Tryz.underlying47) hr48 Tryz.underlying47 info32 rfl rfl rfl (H' := [(Rg KT32 32 wa0 a0)]) rfl) fun g48 => tk [0,1] (u5 rfl rfl rfl rfl rfl) (p2 rfl rfl) (hN14 g48)
    intro hN12
    refine an 3 12 1015 (fun (v12 : Gs) => ⟨52, [], [(39, (Sl KT32 x1)), (40, (Vi v19)), (41, (Vi v19)), (48, (Vw v12)), (7, (Vw wa0)), (8, (Vi (a0.length : Int))), (9, (Vi x2))], [(Rg KT32 32 v12 r48), (Rg KT32 32 wa0 a0)]⟩) ?_ ?_
    ·rintro g909
     refine ax_rd (ix := 3) (last := #[true, true, true, true, true, true, true, true, true, true, false, false]) (by kernel_rfl) rfl (rd_cutm' rfl rfl rfl hr42 Tryz.underlying47 info32) rfl rfl (wt_none' rfl) rfl ?_
     exact tk [0,1] (u5 rfl rfl rfl rfl rfl) (p2 rfl rfl) (hN14 g909)
    intro hN13
    refine an 4 12 479 (fun (v9 : Unit) => ⟨52, [], [(42, (Sc KT32 r42)), (43, (Ag (C0 r11.1 r11.2.1 r11.2.2.1 r11.2.2.2.1 r11.2.2.2.2.1 r11.2.2.2.2.2))), (47, (Sl KT32 r47)), (7, (Vw wa0)), (8, (Vi (a0.length : Int))), (9, (Vi x2))], [(Rg KT32 32 wa0 a0)]⟩) ?_ ?_
    ·rintro ⟨⟩
     refine al1 5 (by kernel_rfl) ?_
     ·exact no rfl (ox_rowlit' (K := KT32) (xs := [(r11.1, r11.2.1, r11.2.2.1, r11.2.2.2.1, r11.2.2.2.2.1, r11.2.2.2.2.2)]) (qs := [(0, (C0 r11.1 r11.2.1 r11.2.2.1 r11.2.2.2.1 r11.2.2.2.2.1 r11.2.2.2.2.2))]) ⟨rfl, ⟨_, rfl, (lv_ag _)⟩, trivial⟩ Tryz.underlying47 info32 rfl rfl rfl rfl rfl (by kernel_rfl) rfl rfl rfl) fun g44 => tk [0,1] (u6 rfl rfl rfl rfl rfl rfl) (p2 rfl rfl) (hN12 g44)
    intro hN10
    refine an 4 12 503 (fun (v10 : Gs) => ⟨52, [], [(39, (Sl KT32 x1)), (40, (Vi v19)), (41, (Vi v19)), (44, (Vw v10)), (47, (Sl KT32 r47)), (7, (Vw wa0)), (8, (Vi (a0.length : Int))), (9, (Vi x2))], [(Rg KT32 32 v10 ([(r11.1, r11.2.1, r11.2.2.1, r11.2.2.2.1, r11.2.2.2.2.1, r11.2.2.2.2.2)])), (Rg KT32 32 wa0 a0)]⟩) ?_ ?_
    ·rintro g907
     refine al2 3 9 (by kernel_rfl) ?_ ?_
     ·refine nx_rd rfl (rd_cutm' rfl rfl rfl hr42 Tryz.underlying47 info32) rfl rfl (wt_none' rfl) rfl ?_
      exact tk [0,1] (u6 rfl rfl rfl rfl rfl rfl) (p2 rfl rfl) (hN12 g907)
     exact no rfl (ox_append' (K := KT32) (i := 0) (xs := ([(r11.1, r11.2.1, r11.2.2.1, r11.2.2.2.1, r11.2.2.2.2.1, r11.2.2.2.2.2)])) (ys := r47) rfl rfl rfl (sr_sl' rfl Tryz.underlying47) hr48 Tryz.underlying47 info32 rfl rfl rfl (H' := [(Rg KT32 32 wa0 a0)]) rfl) fun g48 => tk [0,1] (u7 rfl rfl rfl rfl rfl rfl rfl) (p2 rfl rfl) (hN13 g48)
    intro hN11
    refine al2 3 5 (by kernel_rfl) ?_ ?_
    ·refine nx_rd rfl (rd_cutm' rfl rfl rfl hr42 Tryz.underlying47 info32) rfl rfl (wt_none' rfl) rfl ?_
     exact tk [1] (u6 rfl rfl rfl rfl rfl rfl) (pc rfl pn) (hN10 ())
    exact no rfl (ox_rowlit' (K := KT32) (xs := [(r11.1, r11.2.1, r11.2.2.1, r11.2.2.2.1, r11.2.2.2.2.1, r11.2.2.2.2.2)]) (qs := [(0, (C0 r11.1 r11.2.1 r11.2.2.1 r11.2.2.2.1 r11.2.2.2.2.1 r11.2.2.2.2.2))]) ⟨rfl, ⟨_, rfl, (lv_ag _)⟩, trivial⟩ Tryz.underlying47 info32 rfl rfl rfl rfl rfl (by kernel_rfl) rfl rfl rfl) fun g44 => tk [0,2] (u8 rfl rfl rfl rfl rfl rfl rfl rfl) (p2 rfl rfl) (hN11 g44)
   intro K29 hK29
   rcases br_cases hp with ⟨h9, hp⟩ | ⟨h9, hp⟩
   ·refine px_rd' rfl (rd_move' rfl) rfl rfl (wt_is' (wt_guard' rfl rfl rfl) (beq_tt h9)) ?_
    refine px_rd' rfl (rd_move' rfl) rfl rfl (wt_is' (wt_guard' rfl rfl rfl) (beq_tt h9)) ?_
    obtain ⟨r34, hr34, hp⟩ := bind_some hp
    refine px_rd' rfl (rd_atr' (m := 0) rfl rfl rfl rfl hr34 Tryz.underlying47 info32) rfl rfl (wt_is' (wt_guard' rfl rfl rfl) (beq_tt h9)) ?_
    refine px_rd' rfl (rd_loadr_agg' (nn := 6) rfl (m := 0) (i := v19) (j := 0) rfl rfl hr34 rfl rfl agg32 rfl) rfl rfl (wt_is' (wt_guard' rfl rfl rfl) (beq_tt h9)) ?_
    refine px_rd' rfl (rd_load_agg' (i := 1) (o := 0) (nn := 6) rfl (ar rfl rfl rfl rfl) rfl agg32 (l' := (C0 r11.1 r11.2.1 r11.2.2.1 r11.2.2.2.1 r11.2.2.2.2.1 r11.2.2.2.2.2)) rfl) rfl rfl (wt_is' (wt_guard' rfl rfl rfl) (beq_tt h9)) ?_
    obtain ⟨r37, hr37, hp⟩ := bind_some hp
    refine px_ox' rfl (oz (ent_fn' Tryz.func35 isn35 rfl rfl) (spec_Same_sim _ _ _ _ _ _ _ _ _ _ _ _ hr37)) rfl bs_nil (wt_is' (wt_guard' rfl rfl rfl) (beq_tt h9)) fun ⟨⟩ => ?_
    refine pd rfl (rd_pick_true' rfl h9 rfl) ?_
    refine px_nil' ?_
    show TX E K29 _
    exact tk [0,1,2] (u7 rfl rfl rfl rfl rfl rfl rfl) (p3 rfl rfl rfl) (hK29 r37 hp)
   iterate 5 refine px_skip' rfl rfl rfl (wt_is' (wt_guard' rfl rfl rfl) (beq_ft h9)) ?_
   refine px_oskip' rfl rfl rfl (wt_is' (wt_guard' rfl rfl rfl) (beq_ft h9)) ?_
   refine pd rfl (rd_pick_false' rfl h9 rfl) ?_
   refine px_nil' ?_
   show TX E K29 _
   exact tk [0,1,2] (u7 rfl rfl rfl rfl rfl rfl rfl) (p3 rfl rfl rfl) (hK29 false hp)
  replace hp := (br_f h3).symm.trans hp
  refine cx_exit' ?_
  replace hp := sj hp
  subst hp
  show TX E (Zg E (Exit.exit 0) _ (Exit.exit 0)) _
  exact tx_zend' g9013 rfl [0, 1] (uc rfl un) (by decide) (p2 rfl rfl)
 refine zg_out fun w22 => ?_
 show TX E K3 _
 refine tx_k' hK3 ?_
 refine cr fun K30 hK30 => ?_
 refine sm rfl ?_
 refine sa rfl ?_
 refine nk hK30 ?_
 refine cx_retc' ?_
 replace hp := sj hp
 subst hp
 refine tx_fz' (frz_row 0 [(3, (Vw w22), (Sl KT32 v22)), (51, (Vw w22), (Sl KT32 v22)), (2, (Vw w22), (Sl KT32 v22))] (K := KT32) (xs := v22) (by decide) rfl ⟨⟨rfl, frz_it⟩, ⟨rfl, frz_it⟩, ⟨rfl, frz_it⟩, trivial⟩ (H' := [(Rg KT32 32 wa0 a0)]) frzH_refl) ?_
 refine tk (L' := [(2, (Sl KT32 v22))]) (H' := [(Rg KT32 32 wa0 a0)]) [0] (uc rfl un) (pc rfl pn) ?_
 exact tx_ret1' Tryz.results13 rfl () (rv_tmp' rfl) lr

def spec_Meet_j2 (k : Nat) (rec1 : ((List (Bool × (List Int) × Int × Bool × (List Int) × Int)) × Int) → Option ((List (Bool × (List Int) × Int × Bool × (List Int) × Int)))) (x4 : Int) (x2 : List (Bool × (List Int) × Int × Bool × (List Int) × Int)) : Option ((List (Bool × (List Int) × Int × Bool × (List Int) × Int))) :=
 rec1 (x2, (iadd .i64 x4 1))
def spec_Meet_l1s (a0_0 : Bool) (a0_1 : List Int) (a0_2 : Int) (a0_3 : Bool) (a0_4 : List Int) (a0_5 : Int) (a1_0 : Bool) (a1_1 : List Int) (a1_2 : Int) (a1_3 : Bool) (a1_4 : List Int) (a1_5 : Int) (a2_0 : Bool) (a2_1 : List Int) (a2_2 : Int) (a2_3 : Bool) (a2_4 : List Int) (a2_5 : Int) (a3_0 : Bool) (a3_1 : List Int) (a3_2 : Int) (a3_3 : Bool) (a3_4 : List Int) (a3_5 : Int) (k : Nat) (rec1 : ((List (Bool × (List Int) × Int × Bool × (List Int) × Int)) × Int) → Option ((List (Bool × (List Int) × Int × Bool × (List Int) × Int)))) (x3 : List (Bool × (List Int) × Int × Bool × (List Int) × Int)) (x4 : Int) : Option ((List (Bool × (List Int) × Int × Bool × (List Int) × Int))) :=
 br (decide (x4 < (([(a0_0, a0_1, a0_2, a0_3, a0_4, a0_5), (a1_0, a1_1, a1_2, a1_3, a1_4, a1_5)]).length : Int)))
  ((idx ([(a0_0, a0_1, a0_2, a0_3, a0_4, a0_5), (a1_0, a1_1, a1_2, a1_3, a1_4, a1_5)]) x4) >>= fun r23 =>
  (spec_OnSegment k r23.1 r23.2.1 r23.2.2.1 r23.2.2.2.1 r23.2.2.2.2.1 r23.2.2.2.2.2 a2_0 a2_1 a2_2 a2_3 a2_4 a2_5 a3_0 a3_1 a3_2 a3_3 a3_4 a3_5) >>= fun r28 =>
  br r28
   ((apd 80 x3 ([(r23.1, r23.2.1, r23.2.2.1, r23.2.2.2.1, r23.2.2.2.2.1, r23.2.2.2.2.2)])) >>= fun r32 =>
   spec_Meet_j2 k rec1 x4 r32)
   (spec_Meet_j2 k rec1 x4 x3))
  (some x3)
def spec_Meet_l1 (a0_0 : Bool) (a0_1 : List Int) (a0_2 : Int) (a0_3 : Bool) (a0_4 : List Int) (a0_5 : Int) (a1_0 : Bool) (a1_1 : List Int) (a1_2 : Int) (a1_3 : Bool) (a1_4 : List Int) (a1_5 : Int) (a2_0 : Bool) (a2_1 : List Int) (a2_2 : Int) (a2_3 : Bool) (a2_4 : List Int) (a2_5 : Int) (a3_0 : Bool) (a3_1 : List Int) (a3_2 : Int) (a3_3 : Bool) (a3_4 : List Int) (a3_5 : Int) : Nat → ((List (Bool × (List Int) × Int × Bool × (List Int) × Int)) × Int) → Option ((List (Bool × (List Int) × Int × Bool × (List Int) × Int)))
 | 0, _ => none
 | k + 1, v => spec_Meet_l1s a0_0 a0_1 a0_2 a0_3 a0_4 a0_5 a1_0 a1_1 a1_2 a1_3 a1_4 a1_5 a2_0 a2_1 a2_2 a2_3 a2_4 a2_5 a3_0 a3_1 a3_2 a3_3 a3_4 a3_5 k (spec_Meet_l1 a0_0 a0_1 a0_2 a0_3 a0_4 a0_5 a1_0 a1_1 a1_2 a1_3 a1_4 a1_5 a2_0 a2_1 a2_2 a2_3 a2_4 a2_5 a3_0 a3_1 a3_2 a3_3 a3_4 a3_5 k) v.1 v.2
def spec_Meet_j4 (k : Nat) (rec2 : ((List (Bool × (List Int) × Int × Bool × (List Int) × Int)) × Int) → Option ((List (Bool × (List Int) × Int × Bool × (List Int) × Int)))) (x9 : Int) (x7 : List (Bool × (List Int) × Int × Bool × (List Int) × Int)) : Option ((List (Bool × (List Int) × Int × Bool × (List Int) × Int))) :=
 rec2 (x7, (iadd .i64 x9 1))
def spec_Meet_l2s (a2_0 : Bool) (a2_1 : List Int) (a2_2 : Int) (a2_3 : Bool) (a2_4 : List Int) (a2_5 : Int) (a3_0 : Bool) (a3_1 : List Int) (a3_2 : Int) (a3_3 : Bool) (a3_4 : List Int) (a3_5 : Int) (a0_0 : Bool) (a0_1 : List Int) (a0_2 : Int) (a0_3 : Bool) (a0_4 : List Int) (a0_5 : Int) (a1_0 : Bool) (a1_1 : List Int) (a1_2 : Int) (a1_3 : Bool) (a1_4 : List Int) (a1_5 : Int) (k : Nat) (rec2 : ((List (Bool × (List Int) × Int × Bool × (List Int) × Int)) × Int) → Option ((List (Bool × (List Int) × Int × Bool × (List Int) × Int)))) (x8 : List (Bool × (List Int) × Int × Bool × (List Int) × Int)) (x9 : Int) : Option ((List (Bool × (List Int) × Int × Bool × (List Int) × Int))) :=
 br (decide (x9 < (([(a2_0, a2_1, a2_2, a2_3, a2_4, a2_5), (a3_0, a3_1, a3_2, a3_3, a3_4, a3_5)]).length : Int)))
  ((idx ([(a2_0, a2_1, a2_2, a2_3, a2_4, a2_5), (a3_0, a3_1, a3_2, a3_3, a3_4, a3_5)]) x9) >>= fun r40 =>
  (spec_OnSegment k r40.1 r40.2.1 r40.2.2.1 r40.2.2.2.1 r40.2.2.2.2.1 r40.2.2.2.2.2 a0_0 a0_1 a0_2 a0_3 a0_4 a0_5 a1_0 a1_1 a1_2 a1_3 a1_4 a1_5) >>= fun r45 =>
  br r45
   ((apd 80 x8 ([(r40.1, r40.2.1, r40.2.2.1, r40.2.2.2.1, r40.2.2.2.2.1, r40.2.2.2.2.2)])) >>= fun r49 =>
   spec_Meet_j4 k rec2 x9 r49)
   (spec_Meet_j4 k rec2 x9 x8))
  (some x8)
def spec_Meet_l2 (a2_0 : Bool) (a2_1 : List Int) (a2_2 : Int) (a2_3 : Bool) (a2_4 : List Int) (a2_5 : Int) (a3_0 : Bool) (a3_1 : List Int) (a3_2 : Int) (a3_3 : Bool) (a3_4 : List Int) (a3_5 : Int) (a0_0 : Bool) (a0_1 : List Int) (a0_2 : Int) (a0_3 : Bool) (a0_4 : List Int) (a0_5 : Int) (a1_0 : Bool) (a1_1 : List Int) (a1_2 : Int) (a1_3 : Bool) (a1_4 : List Int) (a1_5 : Int) : Nat → ((List (Bool × (List Int) × Int × Bool × (List Int) × Int)) × Int) → Option ((List (Bool × (List Int) × Int × Bool × (List Int) × Int)))
 | 0, _ => none
 | k + 1, v => spec_Meet_l2s a2_0 a2_1 a2_2 a2_3 a2_4 a2_5 a3_0 a3_1 a3_2 a3_3 a3_4 a3_5 a0_0 a0_1 a0_2 a0_3 a0_4 a0_5 a1_0 a1_1 a1_2 a1_3 a1_4 a1_5 k (spec_Meet_l2 a2_0 a2_1 a2_2 a2_3 a2_4 a2_5 a3_0 a3_1 a3_2 a3_3 a3_4 a3_5 a0_0 a0_1 a0_2 a0_3 a0_4 a0_5 a1_0 a1_1 a1_2 a1_3 a1_4 a1_5 k) v.1 v.2
def spec_Meet_j5 (k : Nat) (x11 : Bool) : Option (Int × Bool × (List Int) × Int × Bool × (List Int) × Int × Bool × (List Int) × Int × Bool × (List Int) × Int × Bool) :=
 br x11
  (some (1, false, [], 0, false, [], 0, false, [], 0, false, [], 0, false))
  (some (0, false, [], 0, false, [], 0, false, [], 0, false, [], 0, false))
def spec_Meet (k : Nat) (a0_0 : Bool) (a0_1 : List Int) (a0_2 : Int) (a0_3 : Bool) (a0_4 : List Int) (a0_5 : Int) (a1_0 : Bool) (a1_1 : List Int) (a1_2 : Int) (a1_3 : Bool) (a1_4 : List Int) (a1_5 : Int) (a2_0 : Bool) (a2_1 : List Int) (a2_2 : Int) (a2_3 : Bool) (a2_4 : List Int) (a2_5 : Int) (a3_0 : Bool) (a3_1 : List Int) (a3_2 : Int) (a3_3 : Bool) (a3_4 : List Int) (a3_5 : Int) : Option (Int × Bool × (List Int) × Int × Bool × (List Int) × Int × Bool × (List Int) × Int × Bool × (List Int) × Int × Bool) :=
 (spec_Meet_l1 a0_0 a0_1 a0_2 a0_3 a0_4 a0_5 a1_0 a1_1 a1_2 a1_3 a1_4 a1_5 a2_0 a2_1 a2_2 a2_3 a2_4 a2_5 a3_0 a3_1 a3_2 a3_3 a3_4 a3_5 k ([], 0)) >>= fun v4 =>
 (spec_Meet_l2 a2_0 a2_1 a2_2 a2_3 a2_4 a2_5 a3_0 a3_1 a3_2 a3_3 a3_4 a3_5 a0_0 a0_1 a0_2 a0_3 a0_4 a0_5 a1_0 a1_1 a1_2 a1_3 a1_4 a1_5 k (v4, 0)) >>= fun v8 =>
 (spec_Distinct k v8) >>= fun r52 =>
 br (decide (1 < (r52.2.length : Int)))
  ((idx r52.2 0) >>= fun r58 =>
  (idx r52.2 (isub .i64 (r52.2.length : Int) 1)) >>= fun r64 =>
  some (2, r58.1, r58.2.1, r58.2.2.1, r58.2.2.2.1, r58.2.2.2.2.1, r58.2.2.2.2.2, r64.1, r64.2.1, r64.2.2.1, r64.2.2.2.1, r64.2.2.2.2.1, r64.2.2.2.2.2, true))
  (br (decide ((r52.2.length : Int) = 1))
   ((idx r52.2 0) >>= fun r71 =>
   (idx r52.2 0) >>= fun r74 =>
   some (1, r71.1, r71.2.1, r71.2.2.1, r71.2.2.2.1, r71.2.2.2.2.1, r71.2.2.2.2.2, r74.1, r74.2.1, r74.2.2.1, r74.2.2.2.1, r74.2.2.2.2.1, r74.2.2.2.2.2, true))
   ((spec_Orient k a0_0 a0_1 a0_2 a0_3 a0_4 a0_5 a1_0 a1_1 a1_2 a1_3 a1_4 a1_5 a2_0 a2_1 a2_2 a2_3 a2_4 a2_5) >>= fun r80 =>
   (spec_Orient k a0_0 a0_1 a0_2 a0_3 a0_4 a0_5 a1_0 a1_1 a1_2 a1_3 a1_4 a1_5 a3_0 a3_1 a3_2 a3_3 a3_4 a3_5) >>= fun r84 =>
   br (decide ((imul .i64 r80 r84) < 0))
    ((spec_Orient k a2_0 a2_1 a2_2 a2_3 a2_4 a2_5 a3_0 a3_1 a3_2 a3_3 a3_4 a3_5 a0_0 a0_1 a0_2 a0_3 a0_4 a0_5) >>= fun r91 =>
    (spec_Orient k a2_0 a2_1 a2_2 a2_3 a2_4 a2_5 a3_0 a3_1 a3_2 a3_3 a3_4 a3_5 a1_0 a1_1 a1_2 a1_3 a1_4 a1_5) >>= fun r95 =>
    spec_Meet_j5 k (decide ((imul .i64 r91 r95) < 0)))
    (spec_Meet_j5 k false)))

theorem spec_Meet_sim {k : Nat}  (a0_0 : Bool) (a0_1 : List Int) (a0_2 : Int) (a0_3 : Bool) (a0_4 : List Int) (a0_5 : Int) (a1_0 : Bool) (a1_1 : List Int) (a1_2 : Int) (a1_3 : Bool) (a1_4 : List Int) (a1_5 : Int) (a2_0 : Bool) (a2_1 : List Int) (a2_2 : Int) (a2_3 : Bool) (a2_4 : List Int) (a2_5 : Int) (a3_0 : Bool) (a3_1 : List Int) (a3_2 : Int) (a3_3 : Bool) (a3_4 : List Int) (a3_5 : Int) {out : Int × Bool × (List Int) × Int × Bool × (List Int) × Int × Bool × (List Int) × Int × Bool × (List Int) × Int × Bool} (hp : spec_Meet k a0_0 a0_1 a0_2 a0_3 a0_4 a0_5 a1_0 a1_1 a1_2 a1_3 a1_4 a1_5 a2_0 a2_1 a2_2 a2_3 a2_4 a2_5 a3_0 a3_1 a3_2 a3_3 a3_4 a3_5 = some out) : Sx.Fn Tryz.prog 6 [(Ag (C0 a0_0 a0_1 a0_2 a0_3 a0_4 a0_5)), (Ag (C0 a1_0 a1_1 a1_2 a1_3 a1_4 a1_5)), (Ag (C0 a2_0 a2_1 a2_2 a2_3 a2_4 a2_5)), (Ag (C0 a3_0 a3_1 a3_2 a3_3 a3_4 a3_5))] [] (fun w : Unit => (Tu [(Vi out.1), (Ag (C0 out.2.1 out.2.2.1 out.2.2.2.1 out.2.2.2.2.1 out.2.2.2.2.2.1 out.2.2.2.2.2.2.1)), (Ag (C0 out.2.2.2.2.2.2.2.1 out.2.2.2.2.2.2.2.2.1 out.2.2.2.2.2.2.2.2.2.1 out.2.2.2.2.2.2.2.2.2.2.1 out.2.2.2.2.2.2.2.2.2.2.2.1 out.2.2.2.2.2.2.2.2.2.2.2.2.1)), (Vb out.2.2.2.2.2.2.2.2.2.2.2.2.2)])) (fun w => []) := by
 unfold spec_Meet at hp
 refine fn_of Tryz.func6 rfl Tryz.ntmps6 rfl fun E hM => ?_
 refine cr fun K1 hK1 => ?_
 refine so (ox_box' rfl (lv_ag _) rfl rfl) fun q4 => ?_
 refine so (ox_box' rfl (lv_ag _) rfl rfl) fun q5 => ?_
 refine so (ox_box' rfl (lv_ag _) rfl rfl) fun q6 => ?_
 refine so (ox_box' rfl (lv_ag _) rfl rfl) fun q7 => ?_
 refine sa rfl ?_
 refine so (ox_alloc' info32 rfl rfl rfl rfl (l := (C1 false 0 false 0)) rfl) fun q9 => ?_
 refine so (ox_alloc' info32 rfl rfl rfl rfl (l := (C1 false 0 false 0)) rfl) fun q10 => ?_
 refine sa rfl ?_
 refine nk hK1 ?_
 refine cr fun K2 hK2 => ?_
 refine sa rfl ?_
 refine nk hK2 ?_
 refine cx_seq' fun K3 hK3 => ?_
 refine cr fun K4 hK4 => ?_
 refine s0 (rd_load_agg' (i := 5) (o := 0) (nn := 6) rfl (ar rfl rfl rfl rfl) rfl agg32 (l' := (C0 a0_0 a0_1 a0_2 a0_3 a0_4 a0_5)) rfl) ?_
 refine s0 (rd_load_agg' (i := 4) (o := 0) (nn := 6) rfl (ar rfl rfl rfl rfl) rfl agg32 (l' := (C0 a1_0 a1_1 a1_2 a1_3 a1_4 a1_5)) rfl) ?_
 refine so (ox_rowlit' (K := KT32) (xs := [(a0_0, a0_1, a0_2, a0_3, a0_4, a0_5), (a1_0, a1_1, a1_2, a1_3, a1_4, a1_5)]) (qs := [(0, (C0 a0_0 a0_1 a0_2 a0_3 a0_4 a0_5)), (1, (C0 a1_0 a1_1 a1_2 a1_3 a1_4 a1_5))]) ⟨rfl, ⟨_, rfl, (lv_ag _)⟩, ⟨rfl, ⟨_, rfl, (lv_ag _)⟩, trivial⟩⟩ Tryz.underlying47 info32 rfl rfl rfl rfl rfl (by kernel_rfl) rfl rfl rfl) fun g19 => ?_
 refine s0 (rd_lenr' (i := 0) rfl rfl rfl Tryz.underlying47) ?_
 refine sm rfl ?_
 refine nk hK4 ?_
 refine cx_block' ?_
 obtain ⟨v4, hy1, hp⟩ := bind_some hp
 refine tx_nilrow' KT32 32 ?_
 refine cx_loopg' (F := spec_Meet_l1 a0_0 a0_1 a0_2 a0_3 a0_4 a0_5 a1_0 a1_1 a1_2 a1_3 a1_4 a1_5 a2_0 a2_1 a2_2 a2_3 a2_4 a2_5 a3_0 a3_1 a3_2 a3_3 a3_4 a3_5) (G := fun k R v => spec_Meet_l1s a0_0 a0_1 a0_2 a0_3 a0_4 a0_5 a1_0 a1_1 a1_2 a1_3 a1_4 a1_5 a2_0 a2_1 a2_2 a2_3 a2_4 a2_5 a3_0 a3_1 a3_2 a3_3 a3_4 a3_5 k R v.1 v.2) (x := ([], 0)) (gh := (none, 0, 0)) (fun (v2 : (List (Bool × (List Int) × Int × Bool × (List Int) × Int)) × Int) (w2 : Gs) => (⟨103, [], [(4, (Vp q4)), (5, (Vp q5)), (6, (Vp q6)), (7, (Vp q7)), (9, (Vp q9)), (10, (Vp q10)), (12, (Vw w2)), (19, (Vw g19)), (20, (Vi (([(a0_0, a0_1, a0_2, a0_3, a0_4, a0_5), (a1_0, a1_1, a1_2, a1_3, a1_4, a1_5)]).length : Int))), (21, (Vi v2.2))], [(Ur q4 32 (C0 a0_0 a0_1 a0_2 a0_3 a0_4 a0_5)), (Ur q5 32 (C0 a1_0 a1_1 a1_2 a1_3 a1_4 a1_5)), (Ur q6 32 (C0 a2_0 a2_1 a2_2 a2_3 a2_4 a2_5)), (Ur q7 32 (C0 a3_0 a3_1 a3_2 a3_3 a3_4 a3_5)), (Ur q9 32 (C1 false 0 false 0)), (Ur q10 32 (C1 false 0 false 0)), (Rg KT32 32 w2 v2.1), (Rg KT32 32 g19 ([(a0_0, a0_1, a0_2, a0_3, a0_4, a0_5), (a1_0, a1_1, a1_2, a1_3, a1_4, a1_5)]))]⟩ : St)) (fun (v4 : (List (Bool × (List Int) × Int × Bool × (List Int) × Int))) => Zg E (Exit.exit 0) (fun (w4 : Gs) => (⟨103, [], [(4, (Vp q4)), (5, (Vp q5)), (6, (Vp q6)), (7, (Vp q7)), (9, (Vp q9)), (10, (Vp q10)), (12, (Vw w4))], [(Ur q4 32 (C0 a0_0 a0_1 a0_2 a0_3 a0_4 a0_5)), (Ur q5 32 (C0 a1_0 a1_1 a1_2 a1_3 a1_4 a1_5)), (Ur q6 32 (C0 a2_0 a2_1 a2_2 a2_3 a2_4 a2_5)), (Ur q7 32 (C0 a3_0 a3_1 a3_2 a3_3 a3_4 a3_5)), (Ur q9 32 (C1 false 0 false 0)), (Ur q10 32 (C1 false 0 false 0)), (Rg KT32 32 w4 v4)]⟩ : St))) (fun _ => rfl) (fun _ _ => rfl) ?_ hy1 (tx_to' rfl [7, 6, 5, 4, 3, 2, 0, 1] (u10 rfl rfl rfl rfl rfl rfl rfl rfl rfl rfl) (by decide) (p8 rfl rfl rfl rfl rfl rfl rfl rfl)) ?_
 ·clear hp hy1
  clear v4
  intro k rec1 KY1 ih1
  rintro ⟨x3, x4⟩ g903 y1 hp
  replace hp : spec_Meet_l1s a0_0 a0_1 a0_2 a0_3 a0_4 a0_5 a1_0 a1_1 a1_2 a1_3 a1_4 a1_5 a2_0 a2_1 a2_2 a2_3 a2_4 a2_5 a3_0 a3_1 a3_2 a3_3 a3_4 a3_5 k rec1 x3 x4 = some y1 := hp
  unfold spec_Meet_l1s at hp
  refine cr fun K10 hK10 => ?_
  refine sb rfl rfl eg_int ru_lss ?_
  refine nk hK10 ?_
  refine cx_seq' fun K11 hK11 => ?_
  refine cx_cond' rfl (fun h4 => ?_) (fun h4 => ?_)
  ·replace hp := (br_t h4).symm.trans hp
   refine cx_skip' ?_
   show TX E K11 _
   refine tx_k' hK11 ?_
   refine cx_join' (fun (v3 : (List (Bool × (List Int) × Int × Bool × (List Int) × Int)) × Gs) => (⟨103, [], [(4, (Vp q4)), (5, (Vp q5)), (6, (Vp q6)), (7, (Vp q7)), (9, (Vp q9)), (10, (Vp q10)), (12, (Vw v3.2)), (19, (Vw g19)), (20, (Vi (([(a0_0, a0_1, a0_2, a0_3, a0_4, a0_5), (a1_0, a1_1, a1_2, a1_3, a1_4, a1_5)]).length : Int))), (21, (Vi x4))], [(Ur q4 32 (C0 a0_0 a0_1 a0_2 a0_3 a0_4 a0_5)), (Ur q5 32 (C0 a1_0 a1_1 a1_2 a1_3 a1_4 a1_5)), (Ur q6 32 (C0 a2_0 a2_1 a2_2 a2_3 a2_4 a2_5)), (Ur q7 32 (C0 a3_0 a3_1 a3_2 a3_3 a3_4 a3_5)), (Ur q9 32 (C1 false 0 false 0)), (Ur q10 32 (C1 false 0 false 0)), (Rg KT32 32 v3.2 v3.1), (Rg KT32 32 g19 ([(a0_0, a0_1, a0_2, a0_3, a0_4, a0_5), (a1_0, a1_1, a1_2, a1_3, a1_4, a1_5)]))]⟩ : St)) (fun (v3 : (List (Bool × (List Int) × Int × Bool × (List Int) × Int)) × Gs) => spec_Meet_j2 k rec1 x4 v3.1 = some y1) ?_ ?_
   ·rintro ⟨x2, g902⟩ hp
    replace hp : spec_Meet_j2 k rec1 x4 x2 = some y1 := hp
    unfold spec_Meet_j2 at hp
    refine cx_region' ?_
    refine sb rfl rfl eg_int ru_add ?_
    refine sm rfl ?_
    refine sx_nil' ?_
    show TX E (KY1 _) _
    exact tk [0,1,2,3,4,5,6,7] (u10 rfl rfl rfl rfl rfl rfl rfl rfl rfl rfl) (p8 rfl rfl rfl rfl rfl rfl rfl rfl) (ih1 (x2, (iadd .i64 x4 1)) g902 _ hp)
   intro K12 hK12
   refine cx_block' ?_
   refine cr fun K13 hK13 => ?_
   obtain ⟨r23, hr23, hp⟩ := bind_some hp
   refine s0 (rd_atr' (m := 7) rfl rfl rfl rfl hr23 Tryz.underlying47 info32) ?_
   refine s0 (rd_loadr_agg' (nn := 6) rfl (m := 7) (i := x4) (j := 0) rfl rfl hr23 rfl rfl agg32 rfl) ?_
   refine so (ox_alloc' info32 rfl rfl rfl rfl (l := (C1 false 0 false 0)) rfl) fun q14 => ?_
   refine so (ox_store' (i := 0) (o := 0) rfl rfl (lv_ag _) (ar rfl rfl rfl rfl) rfl info32 rfl (H' := [(Ur q14 32 (C0 r23.1 r23.2.1 r23.2.2.1 r23.2.2.2.1 r23.2.2.2.2.1 r23.2.2.2.2.2)), (Ur q4 32 (C0 a0_0 a0_1 a0_2 a0_3 a0_4 a0_5)), (Ur q5 32 (C0 a1_0 a1_1 a1_2 a1_3 a1_4 a1_5)), (Ur q6 32 (C0 a2_0 a2_1 a2_2 a2_3 a2_4 a2_5)), (Ur q7 32 (C0 a3_0 a3_1 a3_2 a3_3 a3_4 a3_5)), (Ur q9 32 (C1 false 0 false 0)), (Ur q10 32 (C1 false 0 false 0)), (Rg KT32 32 g903 x3), (Rg KT32 32 g19 ([(a0_0, a0_1, a0_2, a0_3, a0_4, a0_5), (a1_0, a1_1, a1_2, a1_3, a1_4, a1_5)]))]) rfl) fun _ => ?_
   refine nk hK13 ?_
   refine cr fun K14 hK14 => ?_
   refine s0 (rd_load_agg' (i := 0) (o := 0) (nn := 6) rfl (ar rfl rfl rfl rfl) rfl agg32 (l' := (C0 r23.1 r23.2.1 r23.2.2.1 r23.2.2.2.1 r23.2.2.2.2.1 r23.2.2.2.2.2)) rfl) ?_
   refine s0 (rd_load_agg' (i := 3) (o := 0) (nn := 6) rfl (ar rfl rfl rfl rfl) rfl agg32 (l' := (C0 a2_0 a2_1 a2_2 a2_3 a2_4 a2_5)) rfl) ?_
   refine s0 (rd_load_agg' (i := 4) (o := 0) (nn := 6) rfl (ar rfl rfl rfl rfl) rfl agg32 (l' := (C0 a3_0 a3_1 a3_2 a3_3 a3_4 a3_5)) rfl) ?_
   obtain ⟨r28, hr28, hp⟩ := bind_some hp
   refine so (oz (ent_fn' Tryz.func12 isn12 rfl rfl) (spec_OnSegment_sim _ _ _ _ _ _ _ _ _ _ _ _ _ _ _ _ _ _ hr28)) fun ⟨⟩ => ?_
   refine nk hK14 ?_
   refine cx_cond' rfl (fun h5 => ?_) (fun h5 => ?_)
   ·replace hp := (br_t h5).symm.trans hp
    refine cx_region' ?_
    refine sm rfl ?_
    refine s0 (rd_load_agg' (i := 0) (o := 0) (nn := 6) rfl (ar rfl rfl rfl rfl) rfl agg32 (l' := (C0 r23.1 r23.2.1 r23.2.2.1 r23.2.2.2.1 r23.2.2.2.2.1 r23.2.2.2.2.2)) rfl) ?_
    refine so (ox_rowlit' (K := KT32) (xs := [(r23.1, r23.2.1, r23.2.2.1, r23.2.2.2.1, r23.2.2.2.2.1, r23.2.2.2.2.2)]) (qs := [(0, (C0 r23.1 r23.2.1 r23.2.2.1 r23.2.2.2.1 r23.2.2.2.2.1 r23.2.2.2.2.2))]) ⟨rfl, ⟨_, rfl, (lv_ag _)⟩, trivial⟩ Tryz.underlying47 info32 rfl rfl rfl rfl rfl (by kernel_rfl) rfl rfl rfl) fun g31 => ?_
    obtain ⟨r32, hr32, hp⟩ := bind_some hp
    refine so (ox_append' (K := KT32) (i := 8) (xs := x3) (ys := ([(r23.1, r23.2.1, r23.2.2.1, r23.2.2.2.1, r23.2.2.2.2.1, r23.2.2.2.2.2)])) rfl rfl rfl (sr_row' (j := 0) rfl rfl rfl Tryz.underlying47) hr32 Tryz.underlying47 info32 rfl rfl rfl (H' := [(Rg KT32 32 g31 ([(r23.1, r23.2.1, r23.2.2.1, r23.2.2.2.1, r23.2.2.2.2.1, r23.2.2.2.2.2)])), (Ur q14 32 (C0 r23.1 r23.2.1 r23.2.2.1 r23.2.2.2.1 r23.2.2.2.2.1 r23.2.2.2.2.2)), (Ur q4 32 (C0 a0_0 a0_1 a0_2 a0_3 a0_4 a0_5)), (Ur q5 32 (C0 a1_0 a1_1 a1_2 a1_3 a1_4 a1_5)), (Ur q6 32 (C0 a2_0 a2_1 a2_2 a2_3 a2_4 a2_5)), (Ur q7 32 (C0 a3_0 a3_1 a3_2 a3_3 a3_4 a3_5)), (Ur q9 32 (C1 false 0 false 0)), (Ur q10 32 (C1 false 0 false 0)), (Rg KT32 32 g19 ([(a0_0, a0_1, a0_2, a0_3, a0_4, a0_5), (a1_0, a1_1, a1_2, a1_3, a1_4, a1_5)]))]) rfl) fun g32 => ?_
    refine sa rfl ?_
    refine sx_nil' ?_
    show TX E K12 _
    exact tk [3,4,5,6,7,8,0,9] (u10 rfl rfl rfl rfl rfl rfl rfl rfl rfl rfl) (p8 rfl rfl rfl rfl rfl rfl rfl rfl) (hK12 (r32, g32) hp)
   replace hp := (br_f h5).symm.trans hp
   refine cx_skip' ?_
   show TX E K12 _
   exact tk [1,2,3,4,5,6,7,8] (u10 rfl rfl rfl rfl rfl rfl rfl rfl rfl rfl) (p8 rfl rfl rfl rfl rfl rfl rfl rfl) (hK12 (x3, g903) hp)
  replace hp := (br_f h4).symm.trans hp
  refine cx_exit' ?_
  replace hp := sj hp
  subst hp
  show TX E (Zg E (Exit.exit 0) _ (Exit.exit 0)) _
  exact tx_zend' g903 rfl [0, 1, 2, 3, 4, 5, 6] (u7 rfl rfl rfl rfl rfl rfl rfl) (by decide) (p7 rfl rfl rfl rfl rfl rfl rfl)
 refine zg_out fun w4 => ?_
 show TX E K3 _
 refine tx_k' hK3 ?_
 refine cx_seq' fun K15 hK15 => ?_
 refine cr fun K16 hK16 => ?_
 refine s0 (rd_load_agg' (i := 2) (o := 0) (nn := 6) rfl (ar rfl rfl rfl rfl) rfl agg32 (l' := (C0 a2_0 a2_1 a2_2 a2_3 a2_4 a2_5)) rfl) ?_
 refine s0 (rd_load_agg' (i := 3) (o := 0) (nn := 6) rfl (ar rfl rfl rfl rfl) rfl agg32 (l' := (C0 a3_0 a3_1 a3_2 a3_3 a3_4 a3_5)) rfl) ?_
 refine so (ox_rowlit' (K := KT32) (xs := [(a2_0, a2_1, a2_2, a2_3, a2_4, a2_5), (a3_0, a3_1, a3_2, a3_3, a3_4, a3_5)]) (qs := [(0, (C0 a2_0 a2_1 a2_2 a2_3 a2_4 a2_5)), (1, (C0 a3_0 a3_1 a3_2 a3_3 a3_4 a3_5))]) ⟨rfl, ⟨_, rfl, (lv_ag _)⟩, ⟨rfl, ⟨_, rfl, (lv_ag _)⟩, trivial⟩⟩ Tryz.underlying47 info32 rfl rfl rfl rfl rfl (by kernel_rfl) rfl rfl rfl) fun g36 => ?_
 refine s0 (rd_lenr' (i := 0) rfl rfl rfl Tryz.underlying47) ?_
 refine sm rfl ?_
 refine nk hK16 ?_
 refine cx_block' ?_
 obtain ⟨v8, hy2, hp⟩ := bind_some hp
 refine cx_loopg' (F := spec_Meet_l2 a2_0 a2_1 a2_2 a2_3 a2_4 a2_5 a3_0 a3_1 a3_2 a3_3 a3_4 a3_5 a0_0 a0_1 a0_2 a0_3 a0_4 a0_5 a1_0 a1_1 a1_2 a1_3 a1_4 a1_5) (G := fun k R v => spec_Meet_l2s a2_0 a2_1 a2_2 a2_3 a2_4 a2_5 a3_0 a3_1 a3_2 a3_3 a3_4 a3_5 a0_0 a0_1 a0_2 a0_3 a0_4 a0_5 a1_0 a1_1 a1_2 a1_3 a1_4 a1_5 k R v.1 v.2) (x := (v4, 0)) (gh := w4) (fun (v6 : (List (Bool × (List Int) × Int × Bool × (List Int) × Int)) × Int) (w6 : Gs) => (⟨103, [], [(4, (Vp q4)), (5, (Vp q5)), (6, (Vp q6)), (7, (Vp q7)), (9, (Vp q9)), (10, (Vp q10)), (12, (Vw w6)), (36, (Vw g36)), (37, (Vi (([(a2_0, a2_1, a2_2, a2_3, a2_4, a2_5), (a3_0, a3_1, a3_2, a3_3, a3_4, a3_5)]).length : Int))), (38, (Vi v6.2))], [(Ur q4 32 (C0 a0_0 a0_1 a0_2 a0_3 a0_4 a0_5)), (Ur q5 32 (C0 a1_0 a1_1 a1_2 a1_3 a1_4 a1_5)), (Ur q6 32 (C0 a2_0 a2_1 a2_2 a2_3 a2_4 a2_5)), (Ur q7 32 (C0 a3_0 a3_1 a3_2 a3_3 a3_4 a3_5)), (Ur q9 32 (C1 false 0 false 0)), (Ur q10 32 (C1 false 0 false 0)), (Rg KT32 32 w6 v6.1), (Rg KT32 32 g36 ([(a2_0, a2_1, a2_2, a2_3, a2_4, a2_5), (a3_0, a3_1, a3_2, a3_3, a3_4, a3_5)]))]⟩ : St)) (fun (v8 : (List (Bool × (List Int) × Int × Bool × (List Int) × Int))) => Zg E (Exit.exit 2) (fun (w8 : Gs) => (⟨103, [], [(4, (Vp q4)), (5, (Vp q5)), (6, (Vp q6)), (7, (Vp q7)), (9, (Vp q9)), (10, (Vp q10)), (12, (Vw w8))], [(Ur q4 32 (C0 a0_0 a0_1 a0_2 a0_3 a0_4 a0_5)), (Ur q5 32 (C0 a1_0 a1_1 a1_2 a1_3 a1_4 a1_5)), (Ur q6 32 (C0 a2_0 a2_1 a2_2 a2_3 a2_4 a2_5)), (Ur q7 32 (C0 a3_0 a3_1 a3_2 a3_3 a3_4 a3_5)), (Ur q9 32 (C1 false 0 false 0)), (Ur q10 32 (C1 false 0 false 0)), (Rg KT32 32 w8 v8)]⟩ : St))) (fun _ => rfl) (fun _ _ => rfl) ?_ hy2 (tx_to' rfl [1, 2, 3, 4, 5, 6, 7, 0] (u10 rfl rfl rfl rfl rfl rfl rfl rfl rfl rfl) (by decide) (p8 rfl rfl rfl rfl rfl rfl rfl rfl)) ?_
 ·clear hp hy2
  clear v8
  intro k rec2 KY2 ih2
  rintro ⟨x8, x9⟩ g907 y2 hp
  replace hp : spec_Meet_l2s a2_0 a2_1 a2_2 a2_3 a2_4 a2_5 a3_0 a3_1 a3_2 a3_3 a3_4 a3_5 a0_0 a0_1 a0_2 a0_3 a0_4 a0_5 a1_0 a1_1 a1_2 a1_3 a1_4 a1_5 k rec2 x8 x9 = some y2 := hp
  unfold spec_Meet_l2s at hp
  refine cr fun K22 hK22 => ?_
  refine sb rfl rfl eg_int ru_lss ?_
  refine nk hK22 ?_
  refine cx_seq' fun K23 hK23 => ?_
  refine cx_cond' rfl (fun h9 => ?_) (fun h9 => ?_)
  ·replace hp := (br_t h9).symm.trans hp
   refine cx_skip' ?_
   show TX E K23 _
   refine tx_k' hK23 ?_
   refine cx_join' (fun (v7 : (List (Bool × (List Int) × Int × Bool × (List Int) × Int)) × Gs) => (⟨103, [], [(4, (Vp q4)), (5, (Vp q5)), (6, (Vp q6)), (7, (Vp q7)), (9, (Vp q9)), (10, (Vp q10)), (12, (Vw v7.2)), (36, (Vw g36)), (37, (Vi (([(a2_0, a2_1, a2_2, a2_3, a2_4, a2_5), (a3_0, a3_1, a3_2, a3_3, a3_4, a3_5)]).length : Int))), (38, (Vi x9))], [(Ur q4 32 (C0 a0_0 a0_1 a0_2 a0_3 a0_4 a0_5)), (Ur q5 32 (C0 a1_0 a1_1 a1_2 a1_3 a1_4 a1_5)), (Ur q6 32 (C0 a2_0 a2_1 a2_2 a2_3 a2_4 a2_5)), (Ur q7 32 (C0 a3_0 a3_1 a3_2 a3_3 a3_4 a3_5)), (Ur q9 32 (C1 false 0 false 0)), (Ur q10 32 (C1 false 0 false 0)), (Rg KT32 32 v7.2 v7.1), (Rg KT32 32 g36 ([(a2_0, a2_1, a2_2, a2_3, a2_4, a2_5), (a3_0, a3_1, a3_2, a3_3, a3_4, a3_5)]))]⟩ : St)) (fun (v7 : (List (Bool × (List Int) × Int × Bool × (List Int) × Int)) × Gs) => spec_Meet_j4 k rec2 x9 v7.1 = some y2) ?_ ?_
   ·rintro ⟨x7, g906⟩ hp
    replace hp : spec_Meet_j4 k rec2 x9 x7 = some y2 := hp
    unfold spec_Meet_j4 at hp
    refine cx_region' ?_
    refine sb rfl rfl eg_int ru_add ?_
    refine sm rfl ?_
    refine sx_nil' ?_
    show TX E (KY2 _) _
    exact tk [0,1,2,3,4,5,6,7] (u10 rfl rfl rfl rfl rfl rfl rfl rfl rfl rfl) (p8 rfl rfl rfl rfl rfl rfl rfl rfl) (ih2 (x7, (iadd .i64 x9 1)) g906 _ hp)
   intro K24 hK24
   refine cx_block' ?_
   refine cr fun K25 hK25 => ?_
   obtain ⟨r40, hr40, hp⟩ := bind_some hp
   refine s0 (rd_atr' (m := 7) rfl rfl rfl rfl hr40 Tryz.underlying47 info32) ?_
   refine s0 (rd_loadr_agg' (nn := 6) rfl (m := 7) (i := x9) (j := 0) rfl rfl hr40 rfl rfl agg32 rfl) ?_
   refine so (ox_alloc' info32 rfl rfl rfl rfl (l := (C1 false 0 false 0)) rfl) fun q16 => ?_
   refine so (ox_store' (i := 0) (o := 0) rfl rfl (lv_ag _) (ar rfl rfl rfl rfl) rfl info32 rfl (H' := [(Ur q16 32 (C0 r40.1 r40.2.1 r40.2.2.1 r40.2.2.2.1 r40.2.2.2.2.1 r40.2.2.2.2.2)), (Ur q4 32 (C0 a0_0 a0_1 a0_2 a0_3 a0_4 a0_5)), (Ur q5 32 (C0 a1_0 a1_1 a1_2 a1_3 a1_4 a1_5)), (Ur q6 32 (C0 a2_0 a2_1 a2_2 a2_3 a2_4 a2_5)), (Ur q7 32 (C0 a3_0 a3_1 a3_2 a3_3 a3_4 a3_5)), (Ur q9 32 (C1 false 0 false 0)), (Ur q10 32 (C1 false 0 false 0)), (Rg KT32 32 g907 x8), (Rg KT32 32 g36 ([(a2_0, a2_1, a2_2, a2_3, a2_4, a2_5), (a3_0, a3_1, a3_2, a3_3, a3_4, a3_5)]))]) rfl) fun _ => ?_
   refine nk hK25 ?_
   refine cr fun K26 hK26 => ?_
   refine s0 (rd_load_agg' (i := 0) (o := 0) (nn := 6) rfl (ar rfl rfl rfl rfl) rfl agg32 (l' := (C0 r40.1 r40.2.1 r40.2.2.1 r40.2.2.2.1 r40.2.2.2.2.1 r40.2.2.2.2.2)) rfl) ?_
   refine s0 (rd_load_agg' (i := 1) (o := 0) (nn := 6) rfl (ar rfl rfl rfl rfl) rfl agg32 (l' := (C0 a0_0 a0_1 a0_2 a0_3 a0_4 a0_5)) rfl) ?_
   refine s0 (rd_load_agg' (i := 2) (o := 0) (nn := 6) rfl (ar rfl rfl rfl rfl) rfl agg32 (l' := (C0 a1_0 a1_1 a1_2 a1_3 a1_4 a1_5)) rfl) ?_
   obtain ⟨r45, hr45, hp⟩ := bind_some hp
   refine so (oz (ent_fn' Tryz.func12 isn12 rfl rfl) (spec_OnSegment_sim _ _ _ _ _ _ _ _ _ _ _ _ _ _ _ _ _ _ hr45)) fun ⟨⟩ => ?_
   refine nk hK26 ?_
   refine cx_cond' rfl (fun h10 => ?_) (fun h10 => ?_)
   ·replace hp := (br_t h10).symm.trans hp
    refine cx_region' ?_
    refine sm rfl ?_
    refine s0 (rd_load_agg' (i := 0) (o := 0) (nn := 6) rfl (ar rfl rfl rfl rfl) rfl agg32 (l' := (C0 r40.1 r40.2.1 r40.2.2.1 r40.2.2.2.1 r40.2.2.2.2.1 r40.2.2.2.2.2)) rfl) ?_
    refine so (ox_rowlit' (K := KT32) (xs := [(r40.1, r40.2.1, r40.2.2.1, r40.2.2.2.1, r40.2.2.2.2.1, r40.2.2.2.2.2)]) (qs := [(0, (C0 r40.1 r40.2.1 r40.2.2.1 r40.2.2.2.1 r40.2.2.2.2.1 r40.2.2.2.2.2))]) ⟨rfl, ⟨_, rfl, (lv_ag _)⟩, trivial⟩ Tryz.underlying47 info32 rfl rfl rfl rfl rfl (by kernel_rfl) rfl rfl rfl) fun g48 => ?_
    obtain ⟨r49, hr49, hp⟩ := bind_some hp
    refine so (ox_append' (K := KT32) (i := 8) (xs := x8) (ys := ([(r40.1, r40.2.1, r40.2.2.1, r40.2.2.2.1, r40.2.2.2.2.1, r40.2.2.2.2.2)])) rfl rfl rfl (sr_row' (j := 0) rfl rfl rfl Tryz.underlying47) hr49 Tryz.underlying47 info32 rfl rfl rfl (H' := [(Rg KT32 32 g48 ([(r40.1, r40.2.1, r40.2.2.1, r40.2.2.2.1, r40.2.2.2.2.1, r40.2.2.2.2.2)])), (Ur q16 32 (C0 r40.1 r40.2.1 r40.2.2.1 r40.2.2.2.1 r40.2.2.2.2.1 r40.2.2.2.2.2)), (Ur q4 32 (C0 a0_0 a0_1 a0_2 a0_3 a0_4 a0_5)), (Ur q5 32 (C0 a1_0 a1_1 a1_2 a1_3 a1_4 a1_5)), (Ur q6 32 (C0 a2_0 a2_1 a2_2 a2_3 a2_4 a2_5)), (Ur q7 32 (C0 a3_0 a3_1 a3_2 a3_3 a3_4 a3_5)), (Ur q9 32 (C1 false 0 false 0)), (Ur q10 32 (C1 false 0 false 0)), (Rg KT32 32 g36 ([(a2_0, a2_1, a2_2, a2_3, a2_4, a2_5), (a3_0, a3_1, a3_2, a3_3, a3_4, a3_5)]))]) rfl) fun g49 => ?_
    refine sa rfl ?_
    refine sx_nil' ?_
    show TX E K24 _
    exact tk [3,4,5,6,7,8,0,9] (u10 rfl rfl rfl rfl rfl rfl rfl rfl rfl rfl) (p8 rfl rfl rfl rfl rfl rfl rfl rfl) (hK24 (r49, g49) hp)
   replace hp := (br_f h10).symm.trans hp
   refine cx_skip' ?_
   show TX E K24 _
   exact tk [1,2,3,4,5,6,7,8] (u10 rfl rfl rfl rfl rfl rfl rfl rfl rfl rfl) (p8 rfl rfl rfl rfl rfl rfl rfl rfl) (hK24 (x8, g907) hp)
  replace hp := (br_f h9).symm.trans hp
  refine cx_exit' ?_
  replace hp := sj hp
  subst hp
  show TX E (Zg E (Exit.exit 2) _ (Exit.exit 2)) _
  exact tx_zend' g907 rfl [0, 1, 2, 3, 4, 5, 6] (u7 rfl rfl rfl rfl rfl rfl rfl) (by decide) (p7 rfl rfl rfl rfl rfl rfl rfl)
 refine zg_out fun w8 => ?_
 show TX E K15 _
 refine tx_k' hK15 ?_
 refine cr fun K27 hK27 => ?_
 refine sm rfl ?_
 obtain ⟨r52, hr52, hp⟩ := bind_some hp
 refine so (ox_callg' (ent_fn' Tryz.func13 isn13 rfl rfl) (spec_Distinct_sim _ hr52 : Sx.Fn Tryz.prog 13 [(Vw w8)] [(Rg KT32 32 w8 v8)] (fun x : Unit => (Sl KT32 r52.2)) (fun x => [(Rg KT32 32 w8 r52.1)])) [6] [0, 1, 2, 3, 4, 5] (by decide) (pc rfl pn) (p6 rfl rfl rfl rfl rfl rfl) (Hn := fun x : Unit => [(Rg KT32 32 w8 r52.1), (Ur q4 32 (C0 a0_0 a0_1 a0_2 a0_3 a0_4 a0_5)), (Ur q5 32 (C0 a1_0 a1_1 a1_2 a1_3 a1_4 a1_5)), (Ur q6 32 (C0 a2_0 a2_1 a2_2 a2_3 a2_4 a2_5)), (Ur q7 32 (C0 a3_0 a3_1 a3_2 a3_3 a3_4 a3_5)), (Ur q9 32 (C1 false 0 false 0)), (Ur q10 32 (C1 false 0 false 0))]) (fun _ => rfl) rfl rfl) fun ⟨⟩ => ?_
 refine sa rfl ?_
 refine nk hK27 ?_
 refine cx_seq' fun K28 hK28 => ?_
 refine cx_block' ?_
 refine cr fun K29 hK29 => ?_
 refine sm rfl ?_
 refine sk rfl Tryz.underlying47 ?_
 refine sb rfl rfl eg_int ru_gtr ?_
 refine sa rfl ?_
 refine nk hK29 ?_
 refine cx_cond' rfl (fun h11 => ?_) (fun h11 => ?_)
 ·replace hp := (br_t h11).symm.trans hp
  refine cx_seq' fun K30 hK30 => ?_
  refine cx_plana' [] [(10, 1), (11, 1)] [(0, 1), (1, 1), (2, 1), (3, 2), (4, 2), (5, 2), (6, 2), (9, 1)] 5 #[true, true, true, true, true, true, true, false, false, true, false, false, false] mixed (by kernel_rfl) ?_
  refine pd rfl (rd_move' rfl) ?_
  obtain ⟨r58, hr58, hp⟩ := bind_some hp
  refine pd rfl (rd_at' (K := KT32) rfl rfl hr58 Tryz.underlying47 info32) ?_
  refine pd rfl (rd_load_pt_agg' (nn := 6) rfl rfl agg32 (l' := (C0 r58.1 r58.2.1 r58.2.2.1 r58.2.2.2.1 r58.2.2.2.2.1 r58.2.2.2.2.2)) rfl) ?_
  iterate 2 refine px_rb' rfl (rb_move' rfl) rfl rfl (wt_none' rfl) ?_
  refine px_rb' rfl (rb_len' rfl Tryz.underlying47) rfl rfl (wt_none' rfl) ?_
  refine px_rb' rfl (rb_bin' rfl rfl eg_int ru_sub) rfl rfl (wt_none' rfl) ?_
  refine pd rfl (rd_assign' rfl) ?_
  refine px_nil' ?_
  show AX E _ _ _ _ _ _ _ _
  obtain ⟨r64, hr64, hp⟩ := bind_some hp
  refine an 0 13 8191 (fun (v15 : Unit) => ⟨103, [], [(11, (Vb true)), (8, (Vi 2)), (9, (Vp q9)), (10, (Vp q10))], [(Ur q9 32 (C0 r58.1 r58.2.1 r58.2.2.1 r58.2.2.2.1 r58.2.2.2.2.1 r58.2.2.2.2.2)), (Ur q10 32 (C0 r64.1 r64.2.1 r64.2.2.1 r64.2.2.2.1 r64.2.2.2.2.1 r64.2.2.2.2.2))]⟩) ?_ ?_
  ·rintro ⟨⟩
   refine ax_nil (by kernel_rfl) ?_
   show TX E K30 _
   refine tx_k' hK30 ?_
   refine cx_retc' ?_
   replace hp := sj hp
   subst hp
   refine tk (L' := [(8, (Vi 2)), (9, (Vp q9)), (10, (Vp q10)), (11, (Vb true))]) (H' := [(Ur q9 32 (C0 r58.1 r58.2.1 r58.2.2.1 r58.2.2.2.1 r58.2.2.2.2.1 r58.2.2.2.2.2)), (Ur q10 32 (C0 r64.1 r64.2.1 r64.2.2.1 r64.2.2.2.1 r64.2.2.2.2.1 r64.2.2.2.2.2))]) [0, 1] (u4 rfl rfl rfl rfl) (p2 rfl rfl) ?_
   exact tx_ret4' Tryz.results6 rfl () (rv_tmp' rfl) (rv_cell_agg' (i := 0) (o := 0) (nn := 6) rfl (ar rfl rfl rfl rfl) rfl agg32 rfl) (rv_cell_agg' (i := 1) (o := 0) (nn := 6) rfl (ar rfl rfl rfl rfl) rfl agg32 rfl) (rv_tmp' rfl) rfl (List.nil_sublist _)
  intro hN8
  refine an 1 13 4095 (fun (v14 : Unit) => ⟨103, [], [(8, (Vi 2)), (9, (Vp q9)), (10, (Vp q10))], [(Ur q9 32 (C0 r58.1 r58.2.1 r58.2.2.1 r58.2.2.2.1 r58.2.2.2.2.1 r58.2.2.2.2.2)), (Ur q10 32 (C0 r64.1 r64.2.1 r64.2.2.1 r64.2.2.2.1 r64.2.2.2.2.1 r64.2.2.2.2.2))]⟩) ?_ ?_
  ·rintro ⟨⟩
   refine ax_rd (ix := 12) (last := #[true, true, true, true, true, true, true, true, true, true, true, true, true]) (by kernel_rfl) rfl (rd_assign' rfl) rfl rfl (wt_none' rfl) rfl ?_
   exact tk [0,1] (u4 rfl rfl rfl rfl) (p2 rfl rfl) (hN8 ())
  intro hN7
  refine an 2 13 2047 (fun (v13 : Unit) => ⟨103, [], [(65, (Ag (C0 r64.1 r64.2.1 r64.2.2.1 r64.2.2.2.1 r64.2.2.2.2.1 r64.2.2.2.2.2))), (8, (Vi 2)), (9, (Vp q9)), (10, (Vp q10))], [(Ur q9 32 (C0 r58.1 r58.2.1 r58.2.2.1 r58.2.2.2.1 r58.2.2.2.2.1 r58.2.2.2.2.2)), (Ur q10 32 (C1 false 0 false 0))]⟩) ?_ ?_
  ·rintro ⟨⟩
   refine al1 11 (by kernel_rfl) ?_
   ·refine nx_oxv rfl (oxv_store (i := 1) (o := 0) rfl rfl (lv_ag _) (ar rfl rfl rfl rfl) rfl info32 rfl (H' := [(Ur q9 32 (C0 r58.1 r58.2.1 r58.2.2.1 r58.2.2.2.1 r58.2.2.2.2.1 r58.2.2.2.2.2)), (Ur q10 32 (C0 r64.1 r64.2.1 r64.2.2.1 r64.2.2.2.1 r64.2.2.2.2.1 r64.2.2.2.2.2))]) rfl) rfl rfl bo_nil (wt_none' rfl) rfl fun _ => ?_
    exact tk [0,1] (u3 rfl rfl rfl) (p2 rfl rfl) (hN7 ())
  intro hN6
  refine an 3 13 1023 (fun (v11 : Unit) => ⟨103, [], [(59, (Ag (C0 r58.1 r58.2.1 r58.2.2.1 r58.2.2.2.1 r58.2.2.2.2.1 r58.2.2.2.2.2))), (65, (Ag (C0 r64.1 r64.2.1 r64.2.2.1 r64.2.2.2.1 r64.2.2.2.2.1 r64.2.2.2.2.2))), (8, (Vi 2)), (9, (Vp q9)), (10, (Vp q10))], [(Ur q9 32 (C1 false 0 false 0)), (Ur q10 32 (C1 false 0 false 0))]⟩) ?_ ?_
  ·rintro ⟨⟩
   refine al1 10 (by kernel_rfl) ?_
   ·refine nx_oxv rfl (oxv_store (i := 0) (o := 0) rfl rfl (lv_ag _) (ar rfl rfl rfl rfl) rfl info32 rfl (H' := [(Ur q9 32 (C0 r58.1 r58.2.1 r58.2.2.1 r58.2.2.2.1 r58.2.2.2.2.1 r58.2.2.2.2.2)), (Ur q10 32 (C1 false 0 false 0))]) rfl) rfl rfl bo_nil (wt_none' rfl) rfl fun _ => ?_
    exact tk [0,1] (u4 rfl rfl rfl rfl) (p2 rfl rfl) (hN6 ())
  intro hN4
  refine an 3 13 1791 (fun (v12 : Unit) => ⟨103, [], [(64, (Pt (C0 r64.1 r64.2.1 r64.2.2.1 r64.2.2.2.1 r64.2.2.2.2.1 r64.2.2.2.2.2))), (8, (Vi 2)), (9, (Vp q9)), (10, (Vp q10))], [(Ur q9 32 (C0 r58.1 r58.2.1 r58.2.2.1 r58.2.2.2.1 r58.2.2.2.2.1 r58.2.2.2.2.2)), (Ur q10 32 (C1 false 0 false 0))]⟩) ?_ ?_
  ·rintro ⟨⟩
   refine ax_rd (ix := 8) (last := #[true, true, true, true, true, true, true, true, true, true, true, false, false]) (by kernel_rfl) rfl (rd_load_pt_agg' (nn := 6) rfl rfl agg32 (l' := (C0 r64.1 r64.2.1 r64.2.2.1 r64.2.2.2.1 r64.2.2.2.2.1 r64.2.2.2.2.2)) rfl) rfl rfl (wt_none' rfl) rfl ?_
   exact tk [0,1] (u4 rfl rfl rfl rfl) (p2 rfl rfl) (hN6 ())
  intro hN5
  refine an 4 13 767 (fun (v9 : Unit) => ⟨103, [], [(59, (Ag (C0 r58.1 r58.2.1 r58.2.2.1 r58.2.2.2.1 r58.2.2.2.2.1 r58.2.2.2.2.2))), (64, (Pt (C0 r64.1 r64.2.1 r64.2.2.1 r64.2.2.2.1 r64.2.2.2.2.1 r64.2.2.2.2.2))), (8, (Vi 2)), (9, (Vp q9)), (10, (Vp q10))], [(Ur q9 32 (C1 false 0 false 0)), (Ur q10 32 (C1 false 0 false 0))]⟩) ?_ ?_
  ·rintro ⟨⟩
   refine al2 8 10 (by kernel_rfl) ?_ ?_
   ·refine nx_rd rfl (rd_load_pt_agg' (nn := 6) rfl rfl agg32 (l' := (C0 r64.1 r64.2.1 r64.2.2.1 r64.2.2.2.1 r64.2.2.2.2.1 r64.2.2.2.2.2)) rfl) rfl rfl (wt_none' rfl) rfl ?_
    exact tk [0,1] (u5 rfl rfl rfl rfl rfl) (p2 rfl rfl) (hN4 ())
   refine nx_oxv rfl (oxv_store (i := 0) (o := 0) rfl rfl (lv_ag _) (ar rfl rfl rfl rfl) rfl info32 rfl (H' := [(Ur q9 32 (C0 r58.1 r58.2.1 r58.2.2.1 r58.2.2.2.1 r58.2.2.2.2.1 r58.2.2.2.2.2)), (Ur q10 32 (C1 false 0 false 0))]) rfl) rfl rfl bo_nil (wt_none' rfl) rfl fun _ => ?_
   exact tk [0,1] (u4 rfl rfl rfl rfl) (p2 rfl rfl) (hN5 ())
  intro hN2
  refine an 4 13 1663 (fun (v10 : Unit) => ⟨103, [], [(60, (Sl KT32 r52.2)), (63, (Vi (isub .i64 (r52.2.length : Int) 1))), (8, (Vi 2)), (9, (Vp q9)), (10, (Vp q10))], [(Ur q9 32 (C0 r58.1 r58.2.1 r58.2.2.1 r58.2.2.2.1 r58.2.2.2.2.1 r58.2.2.2.2.2)), (Ur q10 32 (C1 false 0 false 0))]⟩) ?_ ?_
  ·rintro ⟨⟩
   refine ax_rd (ix := 7) (last := #[true, true, true, true, true, true, true, true, false, true, true, false, false]) (by kernel_rfl) rfl (rd_at' (K := KT32) rfl rfl hr64 Tryz.underlying47 info32) rfl rfl (wt_none' rfl) rfl ?_
   exact tk [0,1] (u4 rfl rfl rfl rfl) (p2 rfl rfl) (hN5 ())
  intro hN3
  refine al2 7 10 (by kernel_rfl) ?_ ?_
  ·refine nx_rd rfl (rd_at' (K := KT32) rfl rfl hr64 Tryz.underlying47 info32) rfl rfl (wt_none' rfl) rfl ?_
   exact tk [5,6] (u5 rfl rfl rfl rfl rfl) (p2 rfl rfl) (hN2 ())
  refine nx_oxv rfl (oxv_store (i := 5) (o := 0) rfl rfl (lv_ag _) (ar rfl rfl rfl rfl) rfl info32 rfl (H' := [(Rg KT32 32 w8 r52.1), (Ur q4 32 (C0 a0_0 a0_1 a0_2 a0_3 a0_4 a0_5)), (Ur q5 32 (C0 a1_0 a1_1 a1_2 a1_3 a1_4 a1_5)), (Ur q6 32 (C0 a2_0 a2_1 a2_2 a2_3 a2_4 a2_5)), (Ur q7 32 (C0 a3_0 a3_1 a3_2 a3_3 a3_4 a3_5)), (Ur q9 32 (C0 r58.1 r58.2.1 r58.2.2.1 r58.2.2.2.1 r58.2.2.2.2.1 r58.2.2.2.2.2)), (Ur q10 32 (C1 false 0 false 0))]) rfl) rfl rfl bo_nil (wt_none' rfl) rfl fun _ => ?_
  exact tk [5,6] (u5 rfl rfl rfl rfl rfl) (p2 rfl rfl) (hN3 ())
 replace hp := (br_f h11).symm.trans hp
 refine cr fun K31 hK31 => ?_
 refine sm rfl ?_
 refine sk rfl Tryz.underlying47 ?_
 refine sb rfl rfl eg_int ru_eql ?_
 refine sa rfl ?_
 refine nk hK31 ?_
 refine cx_cond' rfl (fun h12 => ?_) (fun h12 => ?_)
 ·replace hp := (br_t h12).symm.trans hp
  refine cx_seq' fun K32 hK32 => ?_
  refine cx_plana' [] [(7, 1), (8, 1)] [(0, 1), (1, 1), (2, 1), (3, 2), (6, 1)] 5 #[true, true, true, true, false, false, true, false, false, false] mixed (by kernel_rfl) ?_
  refine pd rfl (rd_move' rfl) ?_
  obtain ⟨r71, hr71, hp⟩ := bind_some hp
  refine pd rfl (rd_at' (K := KT32) rfl rfl hr71 Tryz.underlying47 info32) ?_
  refine pd rfl (rd_load_pt_agg' (nn := 6) rfl rfl agg32 (l' := (C0 r71.1 r71.2.1 r71.2.2.1 r71.2.2.2.1 r71.2.2.2.2.1 r71.2.2.2.2.2)) rfl) ?_
  refine px_rb' rfl (rb_move' rfl) rfl rfl (wt_none' rfl) ?_
  refine pd rfl (rd_assign' rfl) ?_
  refine px_nil' ?_
  show AX E _ _ _ _ _ _ _ _
  obtain ⟨r74, hr74, hp⟩ := bind_some hp
  refine an 0 10 1023 (fun (v22 : Unit) => ⟨103, [], [(11, (Vb true)), (8, (Vi 1)), (9, (Vp q9)), (10, (Vp q10))], [(Ur q9 32 (C0 r71.1 r71.2.1 r71.2.2.1 r71.2.2.2.1 r71.2.2.2.2.1 r71.2.2.2.2.2)), (Ur q10 32 (C0 r74.1 r74.2.1 r74.2.2.1 r74.2.2.2.1 r74.2.2.2.2.1 r74.2.2.2.2.2))]⟩) ?_ ?_
  ·rintro ⟨⟩
   refine ax_nil (by kernel_rfl) ?_
   show TX E K32 _
   refine tx_k' hK32 ?_
   refine cx_retc' ?_
   replace hp := sj hp
   subst hp
   refine tk (L' := [(8, (Vi 1)), (9, (Vp q9)), (10, (Vp q10)), (11, (Vb true))]) (H' := [(Ur q9 32 (C0 r71.1 r71.2.1 r71.2.2.1 r71.2.2.2.1 r71.2.2.2.2.1 r71.2.2.2.2.2)), (Ur q10 32 (C0 r74.1 r74.2.1 r74.2.2.1 r74.2.2.2.1 r74.2.2.2.2.1 r74.2.2.2.2.2))]) [0, 1] (u4 rfl rfl rfl rfl) (p2 rfl rfl) ?_
   exact tx_ret4' Tryz.results6 rfl () (rv_tmp' rfl) (rv_cell_agg' (i := 0) (o := 0) (nn := 6) rfl (ar rfl rfl rfl rfl) rfl agg32 rfl) (rv_cell_agg' (i := 1) (o := 0) (nn := 6) rfl (ar rfl rfl rfl rfl) rfl agg32 rfl) (rv_tmp' rfl) rfl (List.nil_sublist _)
  intro hN16
  refine an 1 10 511 (fun (v21 : Unit) => ⟨103, [], [(8, (Vi 1)), (9, (Vp q9)), (10, (Vp q10))], [(Ur q9 32 (C0 r71.1 r71.2.1 r71.2.2.1 r71.2.2.2.1 r71.2.2.2.2.1 r71.2.2.2.2.2)), (Ur q10 32 (C0 r74.1 r74.2.1 r74.2.2.1 r74.2.2.2.1 r74.2.2.2.2.1 r74.2.2.2.2.2))]⟩) ?_ ?_
  ·rintro ⟨⟩
   refine ax_rd (ix := 9) (last := #[true, true, true, true, true, true, true, true, true, true]) (by kernel_rfl) rfl (rd_assign' rfl) rfl rfl (wt_none' rfl) rfl ?_
   exact tk [0,1] (u4 rfl rfl rfl rfl) (p2 rfl rfl) (hN16 ())
  intro hN15
  refine an 2 10 255 (fun (v20 : Unit) => ⟨103, [], [(75, (Ag (C0 r74.1 r74.2.1 r74.2.2.1 r74.2.2.2.1 r74.2.2.2.2.1 r74.2.2.2.2.2))), (8, (Vi 1)), (9, (Vp q9)), (10, (Vp q10))], [(Ur q9 32 (C0 r71.1 r71.2.1 r71.2.2.1 r71.2.2.2.1 r71.2.2.2.2.1 r71.2.2.2.2.2)), (Ur q10 32 (C1 false 0 false 0))]⟩) ?_ ?_
  ·rintro ⟨⟩
   refine al1 8 (by kernel_rfl) ?_
   ·refine nx_oxv rfl (oxv_store (i := 1) (o := 0) rfl rfl (lv_ag _) (ar rfl rfl rfl rfl) rfl info32 rfl (H' := [(Ur q9 32 (C0 r71.1 r71.2.1 r71.2.2.1 r71.2.2.2.1 r71.2.2.2.2.1 r71.2.2.2.2.2)), (Ur q10 32 (C0 r74.1 r74.2.1 r74.2.2.1 r74.2.2.2.1 r74.2.2.2.2.1 r74.2.2.2.2.2))]) rfl) rfl rfl bo_nil (wt_none' rfl) rfl fun _ => ?_
    exact tk [0,1] (u3 rfl rfl rfl) (p2 rfl rfl) (hN15 ())
  intro hN14
  refine an 3 10 127 (fun (v18 : Unit) => ⟨103, [], [(72, (Ag (C0 r71.1 r71.2.1 r71.2.2.1 r71.2.2.2.1 r71.2.2.2.2.1 r71.2.2.2.2.2))), (75, (Ag (C0 r74.1 r74.2.1 r74.2.2.1 r74.2.2.2.1 r74.2.2.2.2.1 r74.2.2.2.2.2))), (8, (Vi 1)), (9, (Vp q9)), (10, (Vp q10))], [(Ur q9 32 (C1 false 0 false 0)), (Ur q10 32 (C1 false 0 false 0))]⟩) ?_ ?_
  ·rintro ⟨⟩
   refine al1 7 (by kernel_rfl) ?_
   ·refine nx_oxv rfl (oxv_store (i := 0) (o := 0) rfl rfl (lv_ag _) (ar rfl rfl rfl rfl) rfl info32 rfl (H' := [(Ur q9 32 (C0 r71.1 r71.2.1 r71.2.2.1 r71.2.2.2.1 r71.2.2.2.2.1 r71.2.2.2.2.2)), (Ur q10 32 (C1 false 0 false 0))]) rfl) rfl rfl bo_nil (wt_none' rfl) rfl fun _ => ?_
    exact tk [0,1] (u4 rfl rfl rfl rfl) (p2 rfl rfl) (hN14 ())
  intro hN12
  refine an 3 10 223 (fun (v19 : Unit) => ⟨103, [], [(74, (Pt (C0 r74.1 r74.2.1 r74.2.2.1 r74.2.2.2.1 r74.2.2.2.2.1 r74.2.2.2.2.2))), (8, (Vi 1)), (9, (Vp q9)), (10, (Vp q10))], [(Ur q9 32 (C0 r71.1 r71.2.1 r71.2.2.1 r71.2.2.2.1 r71.2.2.2.2.1 r71.2.2.2.2.2)), (Ur q10 32 (C1 false 0 false 0))]⟩) ?_ ?_
  ·rintro ⟨⟩
   refine ax_rd (ix := 5) (last := #[true, true, true, true, true, true, true, true, false, false]) (by kernel_rfl) rfl (rd_load_pt_agg' (nn := 6) rfl rfl agg32 (l' := (C0 r74.1 r74.2.1 r74.2.2.1 r74.2.2.2.1 r74.2.2.2.2.1 r74.2.2.2.2.2)) rfl) rfl rfl (wt_none' rfl) rfl ?_
   exact tk [0,1] (u4 rfl rfl rfl rfl) (p2 rfl rfl) (hN14 ())
  intro hN13
  refine an 4 10 95 (fun (v16 : Unit) => ⟨103, [], [(72, (Ag (C0 r71.1 r71.2.1 r71.2.2.1 r71.2.2.2.1 r71.2.2.2.2.1 r71.2.2.2.2.2))), (74, (Pt (C0 r74.1 r74.2.1 r74.2.2.1 r74.2.2.2.1 r74.2.2.2.2.1 r74.2.2.2.2.2))), (8, (Vi 1)), (9, (Vp q9)), (10, (Vp q10))], [(Ur q9 32 (C1 false 0 false 0)), (Ur q10 32 (C1 false 0 false 0))]⟩) ?_ ?_
  ·rintro ⟨⟩
   refine al2 5 7 (by kernel_rfl) ?_ ?_
   ·refine nx_rd rfl (rd_load_pt_agg' (nn := 6) rfl rfl agg32 (l' := (C0 r74.1 r74.2.1 r74.2.2.1 r74.2.2.2.1 r74.2.2.2.2.1 r74.2.2.2.2.2)) rfl) rfl rfl (wt_none' rfl) rfl ?_
    exact tk [0,1] (u5 rfl rfl rfl rfl rfl) (p2 rfl rfl) (hN12 ())
   refine nx_oxv rfl (oxv_store (i := 0) (o := 0) rfl rfl (lv_ag _) (ar rfl rfl rfl rfl) rfl info32 rfl (H' := [(Ur q9 32 (C0 r71.1 r71.2.1 r71.2.2.1 r71.2.2.2.1 r71.2.2.2.2.1 r71.2.2.2.2.2)), (Ur q10 32 (C1 false 0 false 0))]) rfl) rfl rfl bo_nil (wt_none' rfl) rfl fun _ => ?_
   exact tk [0,1] (u4 rfl rfl rfl rfl) (p2 rfl rfl) (hN13 ())
  intro hN10
  refine an 4 10 207 (fun (v17 : Unit) => ⟨103, [], [(73, (Sl KT32 r52.2)), (8, (Vi 1)), (9, (Vp q9)), (10, (Vp q10))], [(Ur q9 32 (C0 r71.1 r71.2.1 r71.2.2.1 r71.2.2.2.1 r71.2.2.2.2.1 r71.2.2.2.2.2)), (Ur q10 32 (C1 false 0 false 0))]⟩) ?_ ?_
  ·rintro ⟨⟩
   refine ax_rd (ix := 4) (last := #[true, true, true, true, true, false, true, true, false, false]) (by kernel_rfl) rfl (rd_at' (K := KT32) rfl rfl hr74 Tryz.underlying47 info32) rfl rfl (wt_none' rfl) rfl ?_
   exact tk [0,1] (u4 rfl rfl rfl rfl) (p2 rfl rfl) (hN13 ())
  intro hN11
  refine al2 4 7 (by kernel_rfl) ?_ ?_
  ·refine nx_rd rfl (rd_at' (K := KT32) rfl rfl hr74 Tryz.underlying47 info32) rfl rfl (wt_none' rfl) rfl ?_
   exact tk [5,6] (u5 rfl rfl rfl rfl rfl) (p2 rfl rfl) (hN10 ())
  refine nx_oxv rfl (oxv_store (i := 5) (o := 0) rfl rfl (lv_ag _) (ar rfl rfl rfl rfl) rfl info32 rfl (H' := [(Rg KT32 32 w8 r52.1), (Ur q4 32 (C0 a0_0 a0_1 a0_2 a0_3 a0_4 a0_5)), (Ur q5 32 (C0 a1_0 a1_1 a1_2 a1_3 a1_4 a1_5)), (Ur q6 32 (C0 a2_0 a2_1 a2_2 a2_3 a2_4 a2_5)), (Ur q7 32 (C0 a3_0 a3_1 a3_2 a3_3 a3_4 a3_5)), (Ur q9 32 (C0 r71.1 r71.2.1 r71.2.2.1 r71.2.2.2.1 r71.2.2.2.2.1 r71.2.2.2.2.2)), (Ur q10 32 (C1 false 0 false 0))]) rfl) rfl rfl bo_nil (wt_none' rfl) rfl fun _ => ?_
  exact tk [5,6] (u4 rfl rfl rfl rfl) (p2 rfl rfl) (hN11 ())
 replace hp := (br_f h12).symm.trans hp
 refine cx_seq' fun K33 hK33 => ?_
 refine cx_plan' [] [] [(0, 1), (1, 1), (2, 1), (4, 1), (5, 1), (6, 1), (3, 0), (7, 0), (8, 1), (9, 1), (10, 1), (11, 1), (12, 1), (13, 1), (15, 1), (16, 1), (17, 1), (14, 0), (18, 0), (19, 1), (20, 1), (21, 1), (22, 1)] mixed (by kernel_rfl) ?_
 refine pd rfl (rd_load_agg' (i := 1) (o := 0) (nn := 6) rfl (ar rfl rfl rfl rfl) rfl agg32 (l' := (C0 a0_0 a0_1 a0_2 a0_3 a0_4 a0_5)) rfl) ?_
 refine pd rfl (rd_load_agg' (i := 2) (o := 0) (nn := 6) rfl (ar rfl rfl rfl rfl) rfl agg32 (l' := (C0 a1_0 a1_1 a1_2 a1_3 a1_4 a1_5)) rfl) ?_
 refine pd rfl (rd_load_agg' (i := 3) (o := 0) (nn := 6) rfl (ar rfl rfl rfl rfl) rfl agg32 (l' := (C0 a2_0 a2_1 a2_2 a2_3 a2_4 a2_5)) rfl) ?_
 refine pd rfl (rd_load_agg' (i := 1) (o := 0) (nn := 6) rfl (ar rfl rfl rfl rfl) rfl agg32 (l' := (C0 a0_0 a0_1 a0_2 a0_3 a0_4 a0_5)) rfl) ?_
 refine pd rfl (rd_load_agg' (i := 2) (o := 0) (nn := 6) rfl (ar rfl rfl rfl rfl) rfl agg32 (l' := (C0 a1_0 a1_1 a1_2 a1_3 a1_4 a1_5)) rfl) ?_
 refine pd rfl (rd_load_agg' (i := 4) (o := 0) (nn := 6) rfl (ar rfl rfl rfl rfl) rfl agg32 (l' := (C0 a3_0 a3_1 a3_2 a3_3 a3_4 a3_5)) rfl) ?_
 obtain ⟨r80, hr80, hp⟩ := bind_some hp
 refine px_ox' rfl (oz (ent_fn' Tryz.func14 isn14 rfl rfl) (spec_Orient_sim _ _ _ _ _ _ _ _ _ _ _ _ _ _ _ _ _ _ hr80)) rfl bs_nil (wt_none' rfl) fun ⟨⟩ => ?_
 obtain ⟨r84, hr84, hp⟩ := bind_some hp
 refine px_ox' rfl (oz (ent_fn' Tryz.func14 isn14 rfl rfl) (spec_Orient_sim _ _ _ _ _ _ _ _ _ _ _ _ _ _ _ _ _ _ hr84)) rfl bs_nil (wt_none' rfl) fun ⟨⟩ => ?_
 refine pd rfl (rd_bin' rfl rfl eg_int ru_mul) ?_
 refine pd rfl (rd_bin' rfl rfl eg_int ru_lss) ?_
 refine pd rfl (rd_move' rfl) ?_
 refine px_cutn' 11 (fun (v23 : Bool) => (⟨103, [], [(9, (Vp q9)), (10, (Vp q10)), (98, (Vb v23))], [(Ur q9 32 (C1 false 0 false 0)), (Ur q10 32 (C1 false 0 false 0))]⟩ : St)) (fun (v23 : Bool) => spec_Meet_j5 k v23 = some out) ?_ ?_
 ·rintro x11 hp
  replace hp : spec_Meet_j5 k x11 = some out := hp
  unfold spec_Meet_j5 at hp
  refine pd rfl (rd_assign' rfl) ?_
  refine px_nil' ?_
  show TX E K33 _
  refine tx_k' hK33 ?_
  refine cx_cond' rfl (fun h14 => ?_) (fun h14 => ?_)
  ·replace hp := (br_t h14).symm.trans hp
   refine cr fun K35 hK35 => ?_
   iterate 2 refine sv (pls := [(0, 3), (3, 3)]) (qs := []) (r := (C1 false 0 false 0)) trivial Tryz.underlying32 has32 places32 info32 rfl rfl rfl ?_
   refine sa rfl ?_
   refine so (ox_store' (i := 0) (o := 0) rfl rfl (lv_ag _) (ar rfl rfl rfl rfl) rfl info32 rfl (H' := [(Ur q9 32 (C1 false 0 false 0)), (Ur q10 32 (C1 false 0 false 0))]) rfl) fun _ => ?_
   refine so (ox_store' (i := 1) (o := 0) rfl rfl (lv_ag _) (ar rfl rfl rfl rfl) rfl info32 rfl (H' := [(Ur q9 32 (C1 false 0 false 0)), (Ur q10 32 (C1 false 0 false 0))]) rfl) fun _ => ?_
   refine sa rfl ?_
   refine nk hK35 ?_
   refine cx_retc' ?_
   replace hp := sj hp
   subst hp
   refine tk (L' := [(8, (Vi 1)), (9, (Vp q9)), (10, (Vp q10)), (11, (Vb false))]) (H' := [(Ur q9 32 (C1 false 0 false 0)), (Ur q10 32 (C1 false 0 false 0))]) [0, 1] (u4 rfl rfl rfl rfl) (p2 rfl rfl) ?_
   exact tx_ret4' Tryz.results6 rfl () (rv_tmp' rfl) (rv_imp' (x := (Ag (C1 false 0 false 0))) (y := (Ag [(Vb false), (Sl (Ki .u32) []), (Vi 0), (Vb false), (Sl (Ki .u32) []), (Vi 0)])) (rv_cell_agg' (i := 0) (o := 0) (nn := 6) rfl (ar rfl rfl rfl rfl) rfl agg32 rfl) (imp_ag ⟨imp_refl, imp_nil, imp_refl, imp_refl, imp_nil, imp_refl, trivial⟩)) (rv_imp' (x := (Ag (C1 false 0 false 0))) (y := (Ag [(Vb false), (Sl (Ki .u32) []), (Vi 0), (Vb false), (Sl (Ki .u32) []), (Vi 0)])) (rv_cell_agg' (i := 1) (o := 0) (nn := 6) rfl (ar rfl rfl rfl rfl) rfl agg32 rfl) (imp_ag ⟨imp_refl, imp_nil, imp_refl, imp_refl, imp_nil, imp_refl, trivial⟩)) (rv_tmp' rfl) rfl (List.nil_sublist _)
  replace hp := (br_f h14).symm.trans hp
  refine cx_skip' ?_
  show TX E K28 _
  refine tx_k' hK28 ?_
  refine cr fun K36 hK36 => ?_
  iterate 2 refine sv (pls := [(0, 3), (3, 3)]) (qs := []) (r := (C1 false 0 false 0)) trivial Tryz.underlying32 has32 places32 info32 rfl rfl rfl ?_
  refine sa rfl ?_
  refine so (ox_store' (i := 0) (o := 0) rfl rfl (lv_ag _) (ar rfl rfl rfl rfl) rfl info32 rfl (H' := [(Ur q9 32 (C1 false 0 false 0)), (Ur q10 32 (C1 false 0 false 0))]) rfl) fun _ => ?_
  refine so (ox_store' (i := 1) (o := 0) rfl rfl (lv_ag _) (ar rfl rfl rfl rfl) rfl info32 rfl (H' := [(Ur q9 32 (C1 false 0 false 0)), (Ur q10 32 (C1 false 0 false 0))]) rfl) fun _ => ?_
  refine sa rfl ?_
  refine nk hK36 ?_
  refine cx_retc' ?_
  replace hp := sj hp
  subst hp
  refine tk (L' := [(8, (Vi 0)), (9, (Vp q9)), (10, (Vp q10)), (11, (Vb false))]) (H' := [(Ur q9 32 (C1 false 0 false 0)), (Ur q10 32 (C1 false 0 false 0))]) [0, 1] (u4 rfl rfl rfl rfl) (p2 rfl rfl) ?_
  exact tx_ret4' Tryz.results6 rfl () (rv_tmp' rfl) (rv_imp' (x := (Ag (C1 false 0 false 0))) (y := (Ag [(Vb false), (Sl (Ki .u32) []), (Vi 0), (Vb false), (Sl (Ki .u32) []), (Vi 0)])) (rv_cell_agg' (i := 0) (o := 0) (nn := 6) rfl (ar rfl rfl rfl rfl) rfl agg32 rfl) (imp_ag ⟨imp_refl, imp_nil, imp_refl, imp_refl, imp_nil, imp_refl, trivial⟩)) (rv_imp' (x := (Ag (C1 false 0 false 0))) (y := (Ag [(Vb false), (Sl (Ki .u32) []), (Vi 0), (Vb false), (Sl (Ki .u32) []), (Vi 0)])) (rv_cell_agg' (i := 1) (o := 0) (nn := 6) rfl (ar rfl rfl rfl rfl) rfl agg32 rfl) (imp_ag ⟨imp_refl, imp_nil, imp_refl, imp_refl, imp_nil, imp_refl, trivial⟩)) (rv_tmp' rfl) rfl (List.nil_sublist _)
 intro K34 hK34
 rcases br_cases hp with ⟨h13, hp⟩ | ⟨h13, hp⟩
 ·refine px_rd' rfl (rd_load_agg' (i := 3) (o := 0) (nn := 6) rfl (ar rfl rfl rfl rfl) rfl agg32 (l' := (C0 a2_0 a2_1 a2_2 a2_3 a2_4 a2_5)) rfl) rfl rfl (wt_is' (wt_guard' rfl rfl rfl) (beq_tt h13)) ?_
  refine px_rd' rfl (rd_load_agg' (i := 4) (o := 0) (nn := 6) rfl (ar rfl rfl rfl rfl) rfl agg32 (l' := (C0 a3_0 a3_1 a3_2 a3_3 a3_4 a3_5)) rfl) rfl rfl (wt_is' (wt_guard' rfl rfl rfl) (beq_tt h13)) ?_
  refine px_rd' rfl (rd_load_agg' (i := 1) (o := 0) (nn := 6) rfl (ar rfl rfl rfl rfl) rfl agg32 (l' := (C0 a0_0 a0_1 a0_2 a0_3 a0_4 a0_5)) rfl) rfl rfl (wt_is' (wt_guard' rfl rfl rfl) (beq_tt h13)) ?_
  refine px_rd' rfl (rd_load_agg' (i := 3) (o := 0) (nn := 6) rfl (ar rfl rfl rfl rfl) rfl agg32 (l' := (C0 a2_0 a2_1 a2_2 a2_3 a2_4 a2_5)) rfl) rfl rfl (wt_is' (wt_guard' rfl rfl rfl) (beq_tt h13)) ?_
  refine px_rd' rfl (rd_load_agg' (i := 4) (o := 0) (nn := 6) rfl (ar rfl rfl rfl rfl) rfl agg32 (l' := (C0 a3_0 a3_1 a3_2 a3_3 a3_4 a3_5)) rfl) rfl rfl (wt_is' (wt_guard' rfl rfl rfl) (beq_tt h13)) ?_
  refine px_rd' rfl (rd_load_agg' (i := 2) (o := 0) (nn := 6) rfl (ar rfl rfl rfl rfl) rfl agg32 (l' := (C0 a1_0 a1_1 a1_2 a1_3 a1_4 a1_5)) rfl) rfl rfl (wt_is' (wt_guard' rfl rfl rfl) (beq_tt h13)) ?_
  obtain ⟨r91, hr91, hp⟩ := bind_some hp
  refine px_ox' rfl (oz (ent_fn' Tryz.func14 isn14 rfl rfl) (spec_Orient_sim _ _ _ _ _ _ _ _ _ _ _ _ _ _ _ _ _ _ hr91)) rfl bs_nil (wt_is' (wt_guard' rfl rfl rfl) (beq_tt h13)) fun ⟨⟩ => ?_
  obtain ⟨r95, hr95, hp⟩ := bind_some hp
  refine px_ox' rfl (oz (ent_fn' Tryz.func14 isn14 rfl rfl) (spec_Orient_sim _ _ _ _ _ _ _ _ _ _ _ _ _ _ _ _ _ _ hr95)) rfl bs_nil (wt_is' (wt_guard' rfl rfl rfl) (beq_tt h13)) fun ⟨⟩ => ?_
  refine px_rd' rfl (rd_bin' rfl rfl eg_int ru_mul) rfl rfl (wt_is' (wt_guard' rfl rfl rfl) (beq_tt h13)) ?_
  refine px_rd' rfl (rd_bin' rfl rfl eg_int ru_lss) rfl rfl (wt_is' (wt_guard' rfl rfl rfl) (beq_tt h13)) ?_
  refine pd rfl (rd_pick_true' rfl h13 rfl) ?_
  refine px_nil' ?_
  show TX E K34 _
  exact tk [5,6] (u3 rfl rfl rfl) (p2 rfl rfl) (hK34 (decide ((imul .i64 r91 r95) < 0)) hp)
 iterate 6 refine px_skip' rfl rfl rfl (wt_is' (wt_guard' rfl rfl rfl) (beq_ft h13)) ?_
 iterate 2 refine px_oskip' rfl rfl rfl (wt_is' (wt_guard' rfl rfl rfl) (beq_ft h13)) ?_
 iterate 2 refine px_skip' rfl rfl rfl (wt_is' (wt_guard' rfl rfl rfl) (beq_ft h13)) ?_
 refine pd rfl (rd_pick_false' rfl h13 rfl) ?_
 refine px_nil' ?_
 show TX E K34 _
 exact tk [5,6] (u3 rfl rfl rfl) (p2 rfl rfl) (hK34 false hp)

def spec_RatioOf (k : Nat) (a0_0 : Bool) (a0_1 : List Int) (a0_2 : Int) (a1_0 : Bool) (a1_1 : List Int) (a1_2 : Int) : Option (Bool × (List Int) × Int × Bool × (List Int) × Int) :=
 (spec_Dyadic_Sign k a1_0 a1_1 a1_2) >>= fun r6 =>
 br (decide (r6 < 0))
  ((spec_Dyadic_Minus k a0_0 a0_1 a0_2) >>= fun r9 =>
  (spec_Dyadic_Minus k a1_0 a1_1 a1_2) >>= fun r11 =>
  some (r9.1, r9.2.1, r9.2.2, r11.1, r11.2.1, r11.2.2))
  (some (a0_0, a0_1, a0_2, a1_0, a1_1, a1_2))

theorem spec_RatioOf_sim {k : Nat}  (a0_0 : Bool) (a0_1 : List Int) (a0_2 : Int) (a1_0 : Bool) (a1_1 : List Int) (a1_2 : Int) {out : Bool × (List Int) × Int × Bool × (List Int) × Int} (hp : spec_RatioOf k a0_0 a0_1 a0_2 a1_0 a1_1 a1_2 = some out) : Sx.Fn Tryz.prog 18 [(Ag (C2 a0_0 a0_1 a0_2)), (Ag (C2 a1_0 a1_1 a1_2))] [] (fun w : Unit => (Ag (C0 out.1 out.2.1 out.2.2.1 out.2.2.2.1 out.2.2.2.2.1 out.2.2.2.2.2))) (fun w => []) := by
 unfold spec_RatioOf at hp
 refine fn_of Tryz.func18 rfl Tryz.ntmps18 rfl fun E hM => ?_
 refine cr fun K1 hK1 => ?_
 refine so (ox_box' rfl (lv_ag _) rfl rfl) fun q2 => ?_
 refine so (ox_box' rfl (lv_ag _) rfl rfl) fun q3 => ?_
 refine so (ox_alloc' info37 rfl rfl rfl rfl (l := (C1 false 0 false 0)) rfl) fun q4 => ?_
 refine nk hK1 ?_
 refine cx_seq' fun K2 hK2 => ?_
 refine cr fun K3 hK3 => ?_
 refine s0 (rd_load_agg' (i := 1) (o := 0) (nn := 3) rfl (ar rfl rfl rfl rfl) rfl agg30 (l' := (C2 a1_0 a1_1 a1_2)) rfl) ?_
 obtain ⟨r6, hr6, hp⟩ := bind_some hp
 refine so (oz (ent_fn' Tryz.func17 isn17 rfl rfl) (spec_Dyadic_Sign_sim _ _ _ hr6)) fun ⟨⟩ => ?_
 refine sb rfl rfl eg_int ru_lss ?_
 refine nk hK3 ?_
 refine cx_cond' rfl (fun h1 => ?_) (fun h1 => ?_)
 ·replace hp := (br_t h1).symm.trans hp
  refine cx_seq' fun K4 hK4 => ?_
  refine cx_plan' [] [(5, 1)] [(0, 1), (2, 1), (1, 0), (3, 0), (4, 1), (5, 0)] mixed (by kernel_rfl) ?_
  refine pd rfl (rd_load_agg' (i := 2) (o := 0) (nn := 3) rfl (ar rfl rfl rfl rfl) rfl agg30 (l' := (C2 a0_0 a0_1 a0_2)) rfl) ?_
  refine pd rfl (rd_load_agg' (i := 1) (o := 0) (nn := 3) rfl (ar rfl rfl rfl rfl) rfl agg30 (l' := (C2 a1_0 a1_1 a1_2)) rfl) ?_
  obtain ⟨r9, hr9, hp⟩ := bind_some hp
  refine px_ox' rfl (oz (ent_fn' Tryz.func37 isn37 rfl rfl) (spec_Dyadic_Minus_sim _ _ _ hr9)) rfl bs_nil (wt_none' rfl) fun ⟨⟩ => ?_
  obtain ⟨r11, hr11, hp⟩ := bind_some hp
  refine px_ox' rfl (oz (ent_fn' Tryz.func37 isn37 rfl rfl) (spec_Dyadic_Minus_sim _ _ _ hr11)) rfl bs_nil (wt_none' rfl) fun ⟨⟩ => ?_
  refine pd rfl (rd_build' (pls := [(0, 3), (3, 3)]) (qs := [(0, (C2 r9.1 r9.2.1 r9.2.2)), (1, (C2 r11.1 r11.2.1 r11.2.2))]) (r := (C0 r9.1 r9.2.1 r9.2.2 r11.1 r11.2.1 r11.2.2)) ⟨rfl, ⟨_, rfl, (lv_ag _)⟩, ⟨rfl, ⟨_, rfl, (lv_ag _)⟩, trivial⟩⟩ Tryz.underlying37 has37 places37 info37 rfl rfl rfl) ?_
  refine px_oxv' rfl (oxv_store (i := 0) (o := 0) rfl rfl (lv_ag _) (ar rfl rfl rfl rfl) rfl info37 rfl (H' := [(Ur q4 37 (C0 r9.1 r9.2.1 r9.2.2 r11.1 r11.2.1 r11.2.2)), (Ur q3 30 (C2 a1_0 a1_1 a1_2)), (Ur q2 30 (C2 a0_0 a0_1 a0_2))]) rfl) rfl rfl bo_nil (wt_none' rfl) fun _ => ?_
  refine px_nil' ?_
  show TX E K4 _
  refine tx_k' hK4 ?_
  refine cx_retc' ?_
  replace hp := sj hp
  subst hp
  refine tk (L' := [(4, (Vp q4))]) (H' := [(Ur q4 37 (C0 r9.1 r9.2.1 r9.2.2 r11.1 r11.2.1 r11.2.2))]) [0] (uc rfl un) (pc rfl pn) ?_
  exact tx_ret1' Tryz.results18 rfl () (rv_cell_agg' (i := 0) (o := 0) (nn := 6) rfl (ar rfl rfl rfl rfl) rfl agg37 rfl) (List.nil_sublist _)
 replace hp := (br_f h1).symm.trans hp
 refine cx_skip' ?_
 show TX E K2 _
 refine tx_k' hK2 ?_
 refine cr fun K5 hK5 => ?_
 refine s0 (rd_load_agg' (i := 2) (o := 0) (nn := 3) rfl (ar rfl rfl rfl rfl) rfl agg30 (l' := (C2 a0_0 a0_1 a0_2)) rfl) ?_
 refine s0 (rd_load_agg' (i := 1) (o := 0) (nn := 3) rfl (ar rfl rfl rfl rfl) rfl agg30 (l' := (C2 a1_0 a1_1 a1_2)) rfl) ?_
 refine sv (pls := [(0, 3), (3, 3)]) (qs := [(0, (C2 a0_0 a0_1 a0_2)), (1, (C2 a1_0 a1_1 a1_2))]) (r := (C0 a0_0 a0_1 a0_2 a1_0 a1_1 a1_2)) ⟨rfl, ⟨_, rfl, (lv_ag _)⟩, ⟨rfl, ⟨_, rfl, (lv_ag _)⟩, trivial⟩⟩ Tryz.underlying37 has37 places37 info37 rfl rfl rfl ?_
 refine so (ox_store' (i := 0) (o := 0) rfl rfl (lv_ag _) (ar rfl rfl rfl rfl) rfl info37 rfl (H' := [(Ur q4 37 (C0 a0_0 a0_1 a0_2 a1_0 a1_1 a1_2)), (Ur q3 30 (C2 a1_0 a1_1 a1_2)), (Ur q2 30 (C2 a0_0 a0_1 a0_2))]) rfl) fun _ => ?_
 refine nk hK5 ?_
 refine cx_retc' ?_
 replace hp := sj hp
 subst hp
 refine tk (L' := [(4, (Vp q4))]) (H' := [(Ur q4 37 (C0 a0_0 a0_1 a0_2 a1_0 a1_1 a1_2))]) [0] (uc rfl un) (pc rfl pn) ?_
 exact tx_ret1' Tryz.results18 rfl () (rv_cell_agg' (i := 0) (o := 0) (nn := 6) rfl (ar rfl rfl rfl rfl) rfl agg37 rfl) (List.nil_sublist _)

end Go.Proofs.YthobbfpoooommaaGreat
