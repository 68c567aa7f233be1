/-
  Plain functions for the Go functions of this seat, and that each call does what its plain function says. Printed by a program of ours.
-/
import Derived.Test.YtmjhjnnlhjfbcaaProg
import Derived.Test.YtmjhjnnlhjfbcaaSxZ
namespace Go.Proofs.Ytmjhjnnlhjfbcaa
open Go.Sx
set_option linter.unusedVariables false

theorem info34 : (Try.prog.info? 34).map (fun i => (i.zero, i.size, i.bytes)) = some (some (.float .f64 0), 1, 8) := by kernel_rfl
theorem flat34 : Flat Try.prog 34 := ⟨_, Try.underlying34, fun _ h => (nomatch h), fun _ _ h => (nomatch h)⟩
theorem ext24 : ∀ {args : Array Value} {v : Value}, Runs Try.prog ((Extern.MathFloatBits.float64bits) args) v → Runs Try.prog (callFunc 24 args) (.value v) := fun hr => ru_ext Try.func24 (by kernel_rfl) (by kernel_rfl) (by kernel_rfl) (by kernel_rfl) hr
theorem ext51 : ∀ {args : Array Value} {v : Value}, Runs Try.prog ((Extern.MathFloatBits.float64frombits) args) v → Runs Try.prog (callFunc 51 args) (.value v) := fun hr => ru_ext Try.func51 (by kernel_rfl) (by kernel_rfl) (by kernel_rfl) (by kernel_rfl) hr
theorem isn49 : (Try.f49.name == "runtime.NumGoroutine") = false := by kernel_rfl
theorem isn50 : (Try.f50.name == "runtime.NumGoroutine") = false := by kernel_rfl
theorem ext47 : ∀ {args : Array Value} {v : Value}, Runs Try.prog ((Extern.MathFloor.toIntegral "math.archTrunc" .zero) args) v → Runs Try.prog (callFunc 47 args) (.value v) := fun hr => ru_ext Try.func47 (by kernel_rfl) (by kernel_rfl) (by kernel_rfl) (by kernel_rfl) hr
theorem info22 : (Try.prog.info? 22).map (fun i => (i.zero, i.size, i.bytes)) = some (some (.slice none 0 0), 1, 24) := by kernel_rfl
theorem flat22 : Flat Try.prog 22 := ⟨_, Try.underlying22, fun _ h => (nomatch h), fun _ _ h => (nomatch h)⟩
theorem isn43 : (Try.f43.name == "runtime.NumGoroutine") = false := by kernel_rfl
theorem info36 : (Try.prog.info? 36).map (fun i => (i.zero, i.size, i.bytes)) = some (some (.agg #[.float .f64 0, .float .f64 0]), 2, 16) := by kernel_rfl
theorem agg36 : Agg Try.prog 36 2 := ⟨⟨_, Try.underlying36, .inl ⟨_, rfl⟩⟩, info_size info36⟩
theorem isn32 : (Try.f32.name == "runtime.NumGoroutine") = false := by kernel_rfl
theorem isn31 : (Try.f31.name == "runtime.NumGoroutine") = false := by kernel_rfl
theorem places40 : placesOf Try.prog [{ name := "Min", type := 36, offset := 0, embedded := false, tag := "", pkgPath := "", byteOffset := 0 }, { name := "Max", type := 36, offset := 2, embedded := false, tag := "", pkgPath := "", byteOffset := 16 }] = [(0, 2), (2, 2)] := by kernel_rfl
theorem has40 : ∀ f ∈ ([{ name := "Min", type := 36, offset := 0, embedded := false, tag := "", pkgPath := "", byteOffset := 0 }, { name := "Max", type := 36, offset := 2, embedded := false, tag := "", pkgPath := "", byteOffset := 16 }] : List Field), (Try.prog.info? f.type).isSome = true := fun f hf => all_of (p := fun f => (Try.prog.info? f.type).isSome) (by kernel_rfl) f hf
theorem info40 : (Try.prog.info? 40).map (fun i => (i.zero, i.size, i.bytes)) = some (some (.agg #[.float .f64 0, .float .f64 0, .float .f64 0, .float .f64 0]), 4, 32) := by kernel_rfl
theorem agg40 : Agg Try.prog 40 4 := ⟨⟨_, Try.underlying40, .inl ⟨_, rfl⟩⟩, info_size info40⟩
theorem places69 : placesOf Try.prog [{ name := "X", type := 34, offset := 0, embedded := false, tag := "", pkgPath := "", byteOffset := 0 }, { name := "Y", type := 34, offset := 1, embedded := false, tag := "", pkgPath := "", byteOffset := 8 }] = [(0, 1), (1, 1)] := by kernel_rfl
theorem has69 : ∀ f ∈ ([{ name := "X", type := 34, offset := 0, embedded := false, tag := "", pkgPath := "", byteOffset := 0 }, { name := "Y", type := 34, offset := 1, embedded := false, tag := "", pkgPath := "", byteOffset := 8 }] : List Field), (Try.prog.info? f.type).isSome = true := fun f hf => all_of (p := fun f => (Try.prog.info? f.type).isSome) (by kernel_rfl) f hf
theorem info69 : (Try.prog.info? 69).map (fun i => (i.zero, i.size, i.bytes)) = some (some (.agg #[.float .f64 0, .float .f64 0]), 2, 16) := by kernel_rfl
theorem agg69 : Agg Try.prog 69 2 := ⟨⟨_, Try.underlying69, .inl ⟨_, rfl⟩⟩, info_size info69⟩
theorem info72 : (Try.prog.info? 72).map (fun i => (i.zero, i.size, i.bytes)) = some (some (.agg #[.float .f64 0, .float .f64 0, .float .f64 0, .float .f64 0]), 4, 32) := by kernel_rfl
theorem agg72 : Agg Try.prog 72 4 := ⟨⟨_, Try.underlying72, .inl ⟨_, rfl⟩⟩, info_size info72⟩
theorem isn44 : (Try.f44.name == "runtime.NumGoroutine") = false := by kernel_rfl
theorem held69 : Try.prog.stoodInHeld 69 = false := by kernel_rfl
theorem eqg69 : Try.prog.eqGuardType Try.prog.depth 69 = false := by kernel_rfl
theorem isn33 : (Try.f33.name == "runtime.NumGoroutine") = false := by kernel_rfl
theorem places72 : placesOf Try.prog [{ name := "Min", type := 69, offset := 0, embedded := false, tag := "", pkgPath := "", byteOffset := 0 }, { name := "Max", type := 69, offset := 2, embedded := false, tag := "", pkgPath := "", byteOffset := 16 }] = [(0, 2), (2, 2)] := by kernel_rfl
theorem has72 : ∀ f ∈ ([{ name := "Min", type := 69, offset := 0, embedded := false, tag := "", pkgPath := "", byteOffset := 0 }, { name := "Max", type := 69, offset := 2, embedded := false, tag := "", pkgPath := "", byteOffset := 16 }] : List Field), (Try.prog.info? f.type).isSome = true := fun f hf => all_of (p := fun f => (Try.prog.info? f.type).isSome) (by kernel_rfl) f hf
theorem isn34 : (Try.f34.name == "runtime.NumGoroutine") = false := by kernel_rfl
theorem mixed : Try.prog.follows .mixedOrders = true := by kernel_rfl
theorem isn15 : (Try.f15.name == "runtime.NumGoroutine") = false := by kernel_rfl
theorem held36 : Try.prog.stoodInHeld 36 = false := by kernel_rfl
theorem eqg36 : Try.prog.eqGuardType Try.prog.depth 36 = false := by kernel_rfl
theorem isn17 : (Try.f17.name == "runtime.NumGoroutine") = false := by kernel_rfl
theorem isn16 : (Try.f16.name == "runtime.NumGoroutine") = false := by kernel_rfl
theorem info44 : (Try.prog.info? 44).map (fun i => (i.zero, i.size, i.bytes)) = some (some (.agg #[.float .f64 0, .float .f64 0, .float .f64 0]), 3, 24) := by kernel_rfl
theorem agg44 : Agg Try.prog 44 3 := ⟨⟨_, Try.underlying44, .inl ⟨_, rfl⟩⟩, info_size info44⟩
theorem isn35 : (Try.f35.name == "runtime.NumGoroutine") = false := by kernel_rfl
theorem places48 : placesOf Try.prog [{ name := "Min", type := 44, offset := 0, embedded := false, tag := "", pkgPath := "", byteOffset := 0 }, { name := "Max", type := 44, offset := 3, embedded := false, tag := "", pkgPath := "", byteOffset := 24 }] = [(0, 3), (3, 3)] := by kernel_rfl
theorem has48 : ∀ f ∈ ([{ name := "Min", type := 44, offset := 0, embedded := false, tag := "", pkgPath := "", byteOffset := 0 }, { name := "Max", type := 44, offset := 3, embedded := false, tag := "", pkgPath := "", byteOffset := 24 }] : List Field), (Try.prog.info? f.type).isSome = true := fun f hf => all_of (p := fun f => (Try.prog.info? f.type).isSome) (by kernel_rfl) f hf
theorem info48 : (Try.prog.info? 48).map (fun i => (i.zero, i.size, i.bytes)) = some (some (.agg #[.float .f64 0, .float .f64 0, .float .f64 0, .float .f64 0, .float .f64 0, .float .f64 0]), 6, 48) := by kernel_rfl
theorem agg48 : Agg Try.prog 48 6 := ⟨⟨_, Try.underlying48, .inl ⟨_, rfl⟩⟩, info_size info48⟩
theorem places76 : placesOf Try.prog [{ name := "X", type := 34, offset := 0, embedded := false, tag := "", pkgPath := "", byteOffset := 0 }, { name := "Y", type := 34, offset := 1, embedded := false, tag := "", pkgPath := "", byteOffset := 8 }, { name := "Z", type := 34, offset := 2, embedded := false, tag := "", pkgPath := "", byteOffset := 16 }] = [(0, 1), (1, 1), (2, 1)] := by kernel_rfl
theorem has76 : ∀ f ∈ ([{ name := "X", type := 34, offset := 0, embedded := false, tag := "", pkgPath := "", byteOffset := 0 }, { name := "Y", type := 34, offset := 1, embedded := false, tag := "", pkgPath := "", byteOffset := 8 }, { name := "Z", type := 34, offset := 2, embedded := false, tag := "", pkgPath := "", byteOffset := 16 }] : List Field), (Try.prog.info? f.type).isSome = true := fun f hf => all_of (p := fun f => (Try.prog.info? f.type).isSome) (by kernel_rfl) f hf
theorem info76 : (Try.prog.info? 76).map (fun i => (i.zero, i.size, i.bytes)) = some (some (.agg #[.float .f64 0, .float .f64 0, .float .f64 0]), 3, 24) := by kernel_rfl
theorem agg76 : Agg Try.prog 76 3 := ⟨⟨_, Try.underlying76, .inl ⟨_, rfl⟩⟩, info_size info76⟩
theorem info79 : (Try.prog.info? 79).map (fun i => (i.zero, i.size, i.bytes)) = some (some (.agg #[.float .f64 0, .float .f64 0, .float .f64 0, .float .f64 0, .float .f64 0, .float .f64 0]), 6, 48) := by kernel_rfl
theorem agg79 : Agg Try.prog 79 6 := ⟨⟨_, Try.underlying79, .inl ⟨_, rfl⟩⟩, info_size info79⟩
theorem isn45 : (Try.f45.name == "runtime.NumGoroutine") = false := by kernel_rfl
theorem held76 : Try.prog.stoodInHeld 76 = false := by kernel_rfl
theorem eqg76 : Try.prog.eqGuardType Try.prog.depth 76 = false := by kernel_rfl
theorem isn36 : (Try.f36.name == "runtime.NumGoroutine") = false := by kernel_rfl
theorem places79 : placesOf Try.prog [{ name := "Min", type := 76, offset := 0, embedded := false, tag := "", pkgPath := "", byteOffset := 0 }, { name := "Max", type := 76, offset := 3, embedded := false, tag := "", pkgPath := "", byteOffset := 24 }] = [(0, 3), (3, 3)] := by kernel_rfl
theorem has79 : ∀ f ∈ ([{ name := "Min", type := 76, offset := 0, embedded := false, tag := "", pkgPath := "", byteOffset := 0 }, { name := "Max", type := 76, offset := 3, embedded := false, tag := "", pkgPath := "", byteOffset := 24 }] : List Field), (Try.prog.info? f.type).isSome = true := fun f hf => all_of (p := fun f => (Try.prog.info? f.type).isSome) (by kernel_rfl) f hf
theorem isn37 : (Try.f37.name == "runtime.NumGoroutine") = false := by kernel_rfl
theorem isn18 : (Try.f18.name == "runtime.NumGoroutine") = false := by kernel_rfl
theorem held44 : Try.prog.stoodInHeld 44 = false := by kernel_rfl
theorem eqg44 : Try.prog.eqGuardType Try.prog.depth 44 = false := by kernel_rfl
theorem isn20 : (Try.f20.name == "runtime.NumGoroutine") = false := by kernel_rfl
theorem isn19 : (Try.f19.name == "runtime.NumGoroutine") = false := by kernel_rfl
def K36 : Kd (Nat × Nat) := ⟨2, fun x => [(Vl (.float .f64 x.1)), (Vl (.float .f64 x.2))], fun _ => rfl⟩
def K44 : Kd (Nat × Nat × Nat) := ⟨3, fun x => [(Vl (.float .f64 x.1)), (Vl (.float .f64 x.2.1)), (Vl (.float .f64 x.2.2))], fun _ => rfl⟩

def laws_off2 (k : Nat) (a0_0 : Nat) (a0_1 : Nat) : Option (List Nat) :=
  some ([a0_0, a0_1])

theorem laws_off2_sim {k : Nat} (a0_0 : Nat) (a0_1 : Nat) {out : List Nat} (hp : laws_off2 k a0_0 a0_1 = some out) : Fp Try.prog 32 [(Ag [(Vl (.float .f64 a0_0)), (Vl (.float .f64 a0_1))])] (Sl Kf out) := by
  unfold laws_off2 at hp
  refine fn_of Try.func32 rfl Try.ntmps32 rfl fun E hM => ?_
  refine cx_seq' fun K1 hK1 => ?_
  refine cx_region' ?_
  refine sx_box' rfl (lv_ag _) rfl rfl (wt_none' rfl) fun q1 => ?_
  refine sx_rd' (rd_assign' rfl) rfl rfl (wt_none' rfl) ?_
  refine sx_nil' ?_
  show TX E K1 _
  refine tx_k' hK1 ?_
  refine cx_seq' fun K2 hK2 => ?_
  refine cx_region' ?_
  refine sx_rd' (rd_field' (off := 0) rfl Try.underlying36 rfl info34 rfl) rfl rfl (wt_none' rfl) ?_
  refine sx_rd' (rd_load' (i := 0) (o := 0) rfl ⟨rfl, rfl, rfl, rfl⟩ rfl flat34) rfl rfl (wt_none' rfl) ?_
  refine sx_rd' (rd_field' (off := 1) rfl Try.underlying36 rfl info34 rfl) rfl rfl (wt_none' rfl) ?_
  refine sx_rd' (rd_load' (i := 0) (o := 1) rfl ⟨rfl, rfl, rfl, rfl⟩ rfl flat34) rfl rfl (wt_none' rfl) ?_
  refine sx_buildSlice' (qs := [(0, [(Vl (.float .f64 a0_0))]), (1, [(Vl (.float .f64 a0_1))])]) (r := [(Vl (.float .f64 a0_0)), (Vl (.float .f64 a0_1))]) ⟨rfl, ⟨_, rfl, (lv_vl rfl rfl)⟩, ⟨rfl, ⟨_, rfl, (lv_vl rfl rfl)⟩, trivial⟩⟩ Try.underlying22 info34 rfl (by decide) rfl rfl rfl rfl rfl rfl rfl (wt_none' rfl) fun q7 => ?_
  refine sx_rd' (rd_assign' rfl) rfl rfl (wt_none' rfl) ?_
  refine sx_nil' ?_
  show TX E K2 _
  refine tx_k' hK2 ?_
  refine cx_retc' ?_
  cases hp
  refine tx_freeze_row' 0 2 (K := Kf) (xs := [a0_0, a0_1]) (by decide) rfl rfl rfl ?_
  exact tx_ret1' Try.results32 rfl () (rv_tmp' rfl) (keep_nil _)

def math_Abs (k : Nat) (a0 : Nat) : Option (Nat) :=
  some (ffrom (iandn .u64 (fbits a0) 9223372036854775808))

theorem math_Abs_sim {k : Nat} (a0 : Nat) {out : Nat} (hp : math_Abs k a0 = some out) : Fp Try.prog 49 [(Vl (.float .f64 a0))] (Vl (.float .f64 out)) := by
  unfold math_Abs at hp
  refine fn_of Try.func49 rfl Try.ntmps49 rfl fun E hM => ?_
  refine cx_seq' fun K1 hK1 => ?_
  refine cx_region' ?_
  refine sx_rd' (rd_assign' rfl) rfl rfl (wt_none' rfl) ?_
  refine sx_nil' ?_
  show TX E K1 _
  refine tx_k' hK1 ?_
  refine cx_seq' fun K2 hK2 => ?_
  refine cx_region' ?_
  refine sx_rd' (rd_move' rfl) rfl rfl (wt_none' rfl) ?_
  refine sx_rd' (rd_ext' (us := [.float .f64 a0]) rfl (ext24 ex_bits)) rfl rfl (wt_none' rfl) ?_
  refine sx_rd' (rd_bin' rfl rfl eg_int ru_andn) rfl rfl (wt_none' rfl) ?_
  refine sx_rd' (rd_ext' (us := [.int .u64 (iandn .u64 (fbits a0) 9223372036854775808)]) rfl (ext51 ex_from)) rfl rfl (wt_none' rfl) ?_
  refine sx_rd' (rd_assign' rfl) rfl rfl (wt_none' rfl) ?_
  refine sx_nil' ?_
  show TX E K2 _
  refine tx_k' hK2 ?_
  refine cx_retc' ?_
  cases hp
  exact tx_ret1' Try.results49 rfl () (rv_tmp' rfl) (keep_nil _)

def math_Copysign (k : Nat) (a0 : Nat) (a1 : Nat) : Option (Nat) :=
  some (ffrom (ior .u64 (iandn .u64 (fbits a0) 9223372036854775808) (iand .u64 (fbits a1) 9223372036854775808)))

theorem math_Copysign_sim {k : Nat} (a0 : Nat) (a1 : Nat) {out : Nat} (hp : math_Copysign k a0 a1 = some out) : Fp Try.prog 50 [(Vl (.float .f64 a0)), (Vl (.float .f64 a1))] (Vl (.float .f64 out)) := by
  unfold math_Copysign at hp
  refine fn_of Try.func50 rfl Try.ntmps50 rfl fun E hM => ?_
  refine cx_seq' fun K1 hK1 => ?_
  refine cx_region' ?_
  refine sx_rd' (rd_assign' rfl) rfl rfl (wt_none' rfl) ?_
  refine sx_nil' ?_
  show TX E K1 _
  refine tx_k' hK1 ?_
  refine cx_seq' fun K2 hK2 => ?_
  refine cx_region' ?_
  refine sx_rd' (rd_move' rfl) rfl rfl (wt_none' rfl) ?_
  refine sx_rd' (rd_ext' (us := [.float .f64 a0]) rfl (ext24 ex_bits)) rfl rfl (wt_none' rfl) ?_
  refine sx_rd' (rd_bin' rfl rfl eg_int ru_andn) rfl rfl (wt_none' rfl) ?_
  refine sx_rd' (rd_move' rfl) rfl rfl (wt_none' rfl) ?_
  refine sx_rd' (rd_ext' (us := [.float .f64 a1]) rfl (ext24 ex_bits)) rfl rfl (wt_none' rfl) ?_
  refine sx_rd' (rd_bin' rfl rfl eg_int ru_and) rfl rfl (wt_none' rfl) ?_
  refine sx_rd' (rd_bin' rfl rfl eg_int ru_or) rfl rfl (wt_none' rfl) ?_
  refine sx_rd' (rd_ext' (us := [.int .u64 (ior .u64 (iandn .u64 (fbits a0) 9223372036854775808) (iand .u64 (fbits a1) 9223372036854775808))]) rfl (ext51 ex_from)) rfl rfl (wt_none' rfl) ?_
  refine sx_rd' (rd_assign' rfl) rfl rfl (wt_none' rfl) ?_
  refine sx_nil' ?_
  show TX E K2 _
  refine tx_k' hK2 ?_
  refine cx_retc' ?_
  cases hp
  exact tx_ret1' Try.results50 rfl () (rv_tmp' rfl) (keep_nil _)

def math_trunc_j1 (k : Nat) (x1 : Int) : Option (Nat) :=
  some (ffrom x1)
def math_trunc (k : Nat) (a0 : Nat) : Option (Nat) :=
  (math_Abs k a0) >>= fun r6 =>
  br (flt r6 4607182418800017408)
    ((math_Copysign k 0 a0) >>= fun r9 =>
    some r9)
    ((ishr .u64 (fbits a0) 52) >>= fun r13 =>
    br (decide ((isub .u64 (iand .u64 r13 2047) 1023) < 52))
      ((ishl .u64 1 (isub .u64 52 (isub .u64 (iand .u64 r13 2047) 1023))) >>= fun r21 =>
      math_trunc_j1 k (iandn .u64 (fbits a0) (isub .u64 r21 1)))
      (math_trunc_j1 k (fbits a0)))

theorem math_trunc_sim {k : Nat} (a0 : Nat) {out : Nat} (hp : math_trunc k a0 = some out) : Fp Try.prog 48 [(Vl (.float .f64 a0))] (Vl (.float .f64 out)) := by
  unfold math_trunc at hp
  refine fn_of Try.func48 rfl Try.ntmps48 rfl fun E hM => ?_
  refine cx_seq' fun K1 hK1 => ?_
  refine cx_region' ?_
  refine sx_rd' (rd_assign' rfl) rfl rfl (wt_none' rfl) ?_
  refine sx_nil' ?_
  show TX E K1 _
  refine tx_k' hK1 ?_
  refine cx_seq' fun K2 hK2 => ?_
  refine cx_seq' fun K3 hK3 => ?_
  refine cx_region' ?_
  refine sx_rd' (rd_move' rfl) rfl rfl (wt_none' rfl) ?_
  obtain ⟨r6, hr6, hp⟩ := bind_some hp
  refine sx_call' (math_Abs_sim _ hr6) Try.func49 isn49 rfl rfl (List.Perm.refl _) rfl rfl (wt_none' rfl) fun _ => ?_
  refine sx_rd' (rd_bin' rfl rfl eg_flt ru_flt) rfl rfl (wt_none' rfl) ?_
  refine sx_nil' ?_
  show TX E K3 _
  refine tx_k' hK3 ?_
  refine cx_cond' rfl (fun h1 => ?_) (fun h1 => ?_)
  · replace hp := (br_t h1).symm.trans hp
    refine cx_seq' fun K4 hK4 => ?_
    refine cx_region' ?_
    refine sx_rd' (rd_move' rfl) rfl rfl (wt_none' rfl) ?_
    obtain ⟨r9, hr9, hp⟩ := bind_some hp
    refine sx_call' (math_Copysign_sim _ _ hr9) Try.func50 isn50 rfl rfl (List.Perm.refl _) rfl rfl (wt_none' rfl) fun _ => ?_
    refine sx_rd' (rd_assign' rfl) rfl rfl (wt_none' rfl) ?_
    refine sx_nil' ?_
    show TX E K4 _
    refine tx_k' hK4 ?_
    refine cx_retc' ?_
    cases hp
    exact tx_ret1' Try.results48 rfl () (rv_tmp' rfl) (keep_nil _)
  · replace hp := (br_f h1).symm.trans hp
    refine cx_skip' ?_
    show TX E K2 _
    refine tx_k' hK2 ?_
    refine cx_seq' fun K5 hK5 => ?_
    refine cx_region' ?_
    refine sx_rd' (rd_move' rfl) rfl rfl (wt_none' rfl) ?_
    refine sx_rd' (rd_ext' (us := [.float .f64 a0]) rfl (ext24 ex_bits)) rfl rfl (wt_none' rfl) ?_
    refine sx_rd' (rd_assign' rfl) rfl rfl (wt_none' rfl) ?_
    refine sx_nil' ?_
    show TX E K5 _
    refine tx_k' hK5 ?_
    refine cx_seq' fun K6 hK6 => ?_
    refine cx_region' ?_
    refine sx_rd' (rd_move' rfl) rfl rfl (wt_none' rfl) ?_
    obtain ⟨r13, hr13, hp⟩ := bind_some hp
    refine sx_rd' (rd_bin' rfl rfl eg_int (ru_shr hr13)) rfl rfl (wt_none' rfl) ?_
    refine sx_rd' (rd_bin' rfl rfl eg_int ru_and) rfl rfl (wt_none' rfl) ?_
    refine sx_rd' (rd_bin' rfl rfl eg_int ru_sub) rfl rfl (wt_none' rfl) ?_
    refine sx_rd' (rd_assign' rfl) rfl rfl (wt_none' rfl) ?_
    refine sx_nil' ?_
    show TX E K6 _
    refine tx_k' hK6 ?_
    refine cx_join' (fun v1 => (⟨26, [], [(3, (Vl (.int .u64 v1)))], []⟩ : St)) (fun v1 => math_trunc_j1 k v1 = some out) ?_ ?_
    · rintro x1 hp
      replace hp : math_trunc_j1 k x1 = some out := hp
      unfold math_trunc_j1 at hp
      refine cx_seq' fun K9 hK9 => ?_
      refine cx_region' ?_
      refine sx_rd' (rd_move' rfl) rfl rfl (wt_none' rfl) ?_
      refine sx_rd' (rd_ext' (us := [.int .u64 x1]) rfl (ext51 ex_from)) rfl rfl (wt_none' rfl) ?_
      refine sx_rd' (rd_assign' rfl) rfl rfl (wt_none' rfl) ?_
      refine sx_nil' ?_
      show TX E K9 _
      refine tx_k' hK9 ?_
      refine cx_retc' ?_
      cases hp
      exact tx_ret1' Try.results48 rfl () (rv_tmp' rfl) (keep_nil _)
    · intro K7 hK7
      refine cx_seq' fun K8 hK8 => ?_
      refine cx_region' ?_
      refine sx_rd' (rd_move' rfl) rfl rfl (wt_none' rfl) ?_
      refine sx_rd' (rd_bin' rfl rfl eg_int ru_lss) rfl rfl (wt_none' rfl) ?_
      refine sx_nil' ?_
      show TX E K8 _
      refine tx_k' hK8 ?_
      refine cx_cond' rfl (fun h2 => ?_) (fun h2 => ?_)
      · replace hp := (br_t h2).symm.trans hp
        refine cx_region' ?_
        refine sx_rd' (rd_move' rfl) rfl rfl (wt_none' rfl) ?_
        refine sx_rd' (rd_move' rfl) rfl rfl (wt_none' rfl) ?_
        refine sx_rd' (rd_bin' rfl rfl eg_int ru_sub) rfl rfl (wt_none' rfl) ?_
        obtain ⟨r21, hr21, hp⟩ := bind_some hp
        refine sx_rd' (rd_bin' rfl rfl eg_int (ru_shl hr21)) rfl rfl (wt_none' rfl) ?_
        refine sx_rd' (rd_bin' rfl rfl eg_int ru_sub) rfl rfl (wt_none' rfl) ?_
        refine sx_rd' (rd_bin' rfl rfl eg_int ru_andn) rfl rfl (wt_none' rfl) ?_
        refine sx_rd' (rd_assign' rfl) rfl rfl (wt_none' rfl) ?_
        refine sx_nil' ?_
        show TX E K7 _
        exact tx_weak' (sub_cons rfl sub_nil) (List.Perm.refl _) List.Sublist.slnil (hK7 (iandn .u64 (fbits a0) (isub .u64 r21 1)) hp)
      · replace hp := (br_f h2).symm.trans hp
        refine cx_skip' ?_
        show TX E K7 _
        exact tx_weak' (sub_cons rfl sub_nil) (List.Perm.refl _) List.Sublist.slnil (hK7 (fbits a0) hp)

def math_Trunc (k : Nat) (a0 : Nat) : Option (Nat) :=
  (fint .zero a0) >>= fun r4 =>
  some r4

theorem math_Trunc_sim {k : Nat} (a0 : Nat) {out : Nat} (hp : math_Trunc k a0 = some out) : Fp Try.prog 43 [(Vl (.float .f64 a0))] (Vl (.float .f64 out)) := by
  unfold math_Trunc at hp
  refine fn_of Try.func43 rfl Try.ntmps43 rfl fun E hM => ?_
  refine cx_seq' fun K1 hK1 => ?_
  refine cx_region' ?_
  refine sx_rd' (rd_assign' rfl) rfl rfl (wt_none' rfl) ?_
  refine sx_nil' ?_
  show TX E K1 _
  refine tx_k' hK1 ?_
  refine cx_seq' fun K2 hK2 => ?_
  refine cx_cond_t' rfl rfl ?_
  refine cx_seq' fun K3 hK3 => ?_
  refine cx_region' ?_
  refine sx_rd' (rd_move' rfl) rfl rfl (wt_none' rfl) ?_
  obtain ⟨r4, hr4, hp⟩ := bind_some hp
  refine sx_rd' (rd_ext' (us := [.float .f64 a0]) rfl (ext47 (ex_int hr4))) rfl rfl (wt_none' rfl) ?_
  refine sx_rd' (rd_assign' rfl) rfl rfl (wt_none' rfl) ?_
  refine sx_nil' ?_
  show TX E K3 _
  refine tx_k' hK3 ?_
  refine cx_retc' ?_
  cases hp
  exact tx_ret1' Try.results43 rfl () (rv_tmp' rfl) (keep_nil _)

def spec_Grid_j2 (k : Nat) (rec1 : Int → Option (Unit ⊕ Unit)) (x3 : Int) (x2 : Bool) : Option (Unit ⊕ Unit) :=
  br x2
    (some (.inl ()))
    (rec1 (iadd .i64 x3 1))
def spec_Grid_j1 (k : Nat) (rec1 : Int → Option (Unit ⊕ Unit)) (x3 : Int) (r25 : Nat) (x1 : Bool) : Option (Unit ⊕ Unit) :=
  br (!x1)
    (spec_Grid_j2 k rec1 x3 true)
    ((math_Trunc k r25) >>= fun r40 =>
    spec_Grid_j2 k rec1 x3 (fne r25 r40))
def spec_Grid_l1s (r15 : List Nat) (a2 : Nat) (k : Nat) (rec1 : Int → Option (Unit ⊕ Unit)) (x3 : Int) : Option (Unit ⊕ Unit) :=
  br (decide (x3 < (r15.length : Int)))
    ((idx r15 x3) >>= fun r25 =>
    br (fge r25 (fneg a2))
      (spec_Grid_j1 k rec1 x3 r25 (fle r25 a2))
      (spec_Grid_j1 k rec1 x3 r25 false))
    (some (.inr ()))
def spec_Grid_l1 (r15 : List Nat) (a2 : Nat) : Nat → Int → Option (Unit ⊕ Unit)
  | 0, _ => none
  | k + 1, v => spec_Grid_l1s r15 a2 k (spec_Grid_l1 r15 a2 k) v
def spec_Grid_l2s (a0 : List (List Nat)) (a1 : Int) (a2 : Nat) (k : Nat) (rec2 : Int → Option (Unit ⊕ Unit)) (x4 : Int) : Option (Unit ⊕ Unit) :=
  br (decide (x4 < (a0.length : Int)))
    ((idx a0 x4) >>= fun r15 =>
    br (!decide ((r15.length : Int) = a1))
      (some (.inl ()))
      ((spec_Grid_l1 r15 a2 k 0) >>= fun y1 => match y1 with
        | (.inl v5) =>
          (some (.inl ()))
        | (.inr v6) =>
          (rec2 (iadd .i64 x4 1))))
    (some (.inr ()))
def spec_Grid_l2 (a0 : List (List Nat)) (a1 : Int) (a2 : Nat) : Nat → Int → Option (Unit ⊕ Unit)
  | 0, _ => none
  | k + 1, v => spec_Grid_l2s a0 a1 a2 k (spec_Grid_l2 a0 a1 a2 k) v
def spec_Grid (k : Nat) (a0 : List (List Nat)) (a1 : Int) (a2 : Nat) : Option (Bool) :=
  (spec_Grid_l2 a0 a1 a2 k 0) >>= fun y2 => match y2 with
    | (.inl v7) =>
      (some false)
    | (.inr v8) =>
      (some (decide (0 < a1)))

theorem spec_Grid_sim {k : Nat} (a0 : List (List Nat)) (a1 : Int) (a2 : Nat) {out : Bool} (hp : spec_Grid k a0 a1 a2 = some out) : Fp Try.prog 31 [(Sl (Kl Kf) a0), (Vl (.int .i64 a1)), (Vl (.float .f64 a2))] (Vl (.bool out)) := by
  unfold spec_Grid at hp
  refine fn_of Try.func31 rfl Try.ntmps31 rfl fun E hM => ?_
  refine cx_seq' fun K1 hK1 => ?_
  refine cx_region' ?_
  refine sx_rd' (rd_assign' rfl) rfl rfl (wt_none' rfl) ?_
  refine sx_nil' ?_
  show TX E K1 _
  refine tx_k' hK1 ?_
  refine cx_seq' fun K2 hK2 => ?_
  refine cx_seq' fun K3 hK3 => ?_
  refine cx_region' ?_
  refine sx_rd' (rd_move' rfl) rfl rfl (wt_none' rfl) ?_
  refine sx_rd' (rd_len' rfl Try.underlying52) rfl rfl (wt_none' rfl) ?_
  refine sx_rd' (rd_move' rfl) rfl rfl (wt_none' rfl) ?_
  refine sx_nil' ?_
  show TX E K3 _
  refine tx_k' hK3 ?_
  refine cx_block' ?_
  obtain ⟨y2, hy2, hp⟩ := bind_some hp
  refine cx_loop' (F := spec_Grid_l2 a0 a1 a2) (G := fun k R v => spec_Grid_l2s a0 a1 a2 k R v) (x := 0) (fun v1 => (⟨47, [], [(1, (Vl (.int .i64 a1))), (2, (Vl (.float .f64 a2))), (11, (Sl (Kl Kf) a0)), (12, (Vl (.int .i64 (a0.length : Int)))), (13, (Vl (.int .i64 v1)))], []⟩ : St)) (fun y => match y with | (.inl v7) => Zx E Exit.ret (⟨47, [], [(6, (Vl (.bool false)))], []⟩ : St) | (.inr v8) => Zx E (Exit.exit 0) (⟨47, [], [(1, (Vl (.int .i64 a1)))], []⟩ : St)) (fun _ => rfl) (fun _ _ => rfl) ?_ hy2 (fun _ _ hs => sym_weak' hs (sub_cons rfl (sub_cons rfl (sub_cons rfl (sub_cons rfl (sub_cons rfl sub_nil))))) (List.Perm.refl _) List.Sublist.slnil) ?_
  · clear hp hy2
    clear y2
    intro k rec2 KY2 ih2
    rintro x4 y2 hp
    replace hp : spec_Grid_l2s a0 a1 a2 k rec2 x4 = some y2 := hp
    unfold spec_Grid_l2s at hp
    refine cx_seq' fun K4 hK4 => ?_
    refine cx_region' ?_
    refine sx_rd' (rd_bin' rfl rfl eg_int ru_lss) rfl rfl (wt_none' rfl) ?_
    refine sx_nil' ?_
    show TX E K4 _
    refine tx_k' hK4 ?_
    refine cx_seq' fun K5 hK5 => ?_
    refine cx_cond' rfl (fun h2 => ?_) (fun h2 => ?_)
    · replace hp := (br_t h2).symm.trans hp
      refine cx_skip' ?_
      show TX E K5 _
      refine tx_k' hK5 ?_
      refine cx_seq' fun K6 hK6 => ?_
      refine cx_block' ?_
      refine cx_seq' fun K7 hK7 => ?_
      refine cx_region' ?_
      obtain ⟨r15, hr15, hp⟩ := bind_some hp
      refine sx_rd' (rd_at' (K := (Kl Kf)) rfl rfl hr15 Try.underlying52 info22) rfl rfl (wt_none' rfl) ?_
      refine sx_rd' (rd_load_pt' rfl rfl flat22) rfl rfl (wt_none' rfl) ?_
      refine sx_rd' (rd_assign' rfl) rfl rfl (wt_none' rfl) ?_
      refine sx_nil' ?_
      show TX E K7 _
      refine tx_k' hK7 ?_
      refine cx_seq' fun K8 hK8 => ?_
      refine cx_seq' fun K9 hK9 => ?_
      refine cx_region' ?_
      refine sx_rd' (rd_move' rfl) rfl rfl (wt_none' rfl) ?_
      refine sx_rd' (rd_len' rfl Try.underlying22) rfl rfl (wt_none' rfl) ?_
      refine sx_rd' (rd_move' rfl) rfl rfl (wt_none' rfl) ?_
      refine sx_rd' (rd_bin' rfl rfl eg_int ru_neq) rfl rfl (wt_none' rfl) ?_
      refine sx_nil' ?_
      show TX E K9 _
      refine tx_k' hK9 ?_
      refine cx_cond' rfl (fun h3 => ?_) (fun h3 => ?_)
      · replace hp := (br_t h3).symm.trans hp
        refine cx_seq' fun K10 hK10 => ?_
        refine cx_region' ?_
        refine sx_rd' (rd_assign' rfl) rfl rfl (wt_none' rfl) ?_
        refine sx_nil' ?_
        show TX E K10 _
        refine tx_k' hK10 ?_
        refine cx_retc' ?_
        cases hp
        show TX E (Zx E Exit.ret _ Exit.ret) _
        exact tx_z' fun _ _ hs => sym_weak' hs (sub_cons rfl sub_nil) (List.Perm.refl _) List.Sublist.slnil
      · replace hp := (br_f h3).symm.trans hp
        refine cx_skip' ?_
        show TX E K8 _
        refine tx_k' hK8 ?_
        refine cx_seq' fun K11 hK11 => ?_
        refine cx_region' ?_
        refine sx_rd' (rd_move' rfl) rfl rfl (wt_none' rfl) ?_
        refine sx_rd' (rd_len' rfl Try.underlying22) rfl rfl (wt_none' rfl) ?_
        refine sx_rd' (rd_move' rfl) rfl rfl (wt_none' rfl) ?_
        refine sx_nil' ?_
        show TX E K11 _
        refine tx_k' hK11 ?_
        refine cx_block' ?_
        obtain ⟨y1, hy1, hp⟩ := bind_some hp
        refine cx_loop' (F := spec_Grid_l1 r15 a2) (G := fun k R v => spec_Grid_l1s r15 a2 k R v) (x := 0) (fun v2 => (⟨47, [], [(1, (Vl (.int .i64 a1))), (2, (Vl (.float .f64 a2))), (11, (Sl (Kl Kf) a0)), (12, (Vl (.int .i64 (a0.length : Int)))), (13, (Vl (.int .i64 x4))), (21, (Sl Kf r15)), (22, (Vl (.int .i64 (r15.length : Int)))), (23, (Vl (.int .i64 v2)))], []⟩ : St)) (fun y => match y with | (.inl v5) => Zx E Exit.ret (⟨47, [], [(6, (Vl (.bool false)))], []⟩ : St) | (.inr v6) => Zx E (Exit.exit 2) (⟨47, [], [(1, (Vl (.int .i64 a1))), (2, (Vl (.float .f64 a2))), (11, (Sl (Kl Kf) a0)), (12, (Vl (.int .i64 (a0.length : Int)))), (13, (Vl (.int .i64 x4)))], []⟩ : St)) (fun _ => rfl) (fun _ _ => rfl) ?_ hy1 (fun _ _ hs => sym_weak' hs (sub_cons rfl (sub_cons rfl (sub_cons rfl (sub_cons rfl (sub_cons rfl (sub_cons rfl (sub_cons rfl (sub_cons rfl sub_nil)))))))) (List.Perm.refl _) List.Sublist.slnil) ?_
        · clear hp hy1
          clear y1
          intro k rec1 KY1 ih1
          rintro x3 y1 hp
          replace hp : spec_Grid_l1s r15 a2 k rec1 x3 = some y1 := hp
          unfold spec_Grid_l1s at hp
          refine cx_seq' fun K12 hK12 => ?_
          refine cx_region' ?_
          refine sx_rd' (rd_bin' rfl rfl eg_int ru_lss) rfl rfl (wt_none' rfl) ?_
          refine sx_nil' ?_
          show TX E K12 _
          refine tx_k' hK12 ?_
          refine cx_seq' fun K13 hK13 => ?_
          refine cx_cond' rfl (fun h5 => ?_) (fun h5 => ?_)
          · replace hp := (br_t h5).symm.trans hp
            refine cx_skip' ?_
            show TX E K13 _
            refine tx_k' hK13 ?_
            refine cx_seq' fun K14 hK14 => ?_
            refine cx_block' ?_
            refine cx_seq' fun K15 hK15 => ?_
            refine cx_region' ?_
            obtain ⟨r25, hr25, hp⟩ := bind_some hp
            refine sx_rd' (rd_at' (K := Kf) rfl rfl hr25 Try.underlying22 info34) rfl rfl (wt_none' rfl) ?_
            refine sx_rd' (rd_load_pt' rfl rfl flat34) rfl rfl (wt_none' rfl) ?_
            refine sx_rd' (rd_assign' rfl) rfl rfl (wt_none' rfl) ?_
            refine sx_nil' ?_
            show TX E K15 _
            refine tx_k' hK15 ?_
            refine cx_seq' fun K16 hK16 => ?_
            refine cx_region' ?_
            refine sx_rd' (rd_move' rfl) rfl rfl (wt_none' rfl) ?_
            refine sx_rd' (rd_move' rfl) rfl rfl (wt_none' rfl) ?_
            refine sx_rd' (rd_un' rfl ru_fneg) rfl rfl (wt_none' rfl) ?_
            refine sx_rd' (rd_bin' rfl rfl eg_flt ru_fge) rfl rfl (wt_none' rfl) ?_
            refine sx_rd' (rd_move' rfl) rfl rfl (wt_none' rfl) ?_
            refine sx_cutn' 4 (fun v3 => (⟨47, [], [(1, (Vl (.int .i64 a1))), (2, (Vl (.float .f64 a2))), (10, (Vl (.float .f64 r25))), (11, (Sl (Kl Kf) a0)), (12, (Vl (.int .i64 (a0.length : Int)))), (13, (Vl (.int .i64 x4))), (21, (Sl Kf r15)), (22, (Vl (.int .i64 (r15.length : Int)))), (23, (Vl (.int .i64 x3))), (35, (Vl (.bool v3)))], []⟩ : St)) (fun v3 => spec_Grid_j1 k rec1 x3 r25 v3 = some y1) ?_ ?_
            · rintro x1 hp
              replace hp : spec_Grid_j1 k rec1 x3 r25 x1 = some y1 := hp
              unfold spec_Grid_j1 at hp
              refine sx_rd' (rd_un' rfl ru_not) rfl rfl (wt_none' rfl) ?_
              refine sx_rd' (rd_move' rfl) rfl rfl (wt_none' rfl) ?_
              refine sx_cutn' 5 (fun v4 => (⟨47, [], [(1, (Vl (.int .i64 a1))), (2, (Vl (.float .f64 a2))), (11, (Sl (Kl Kf) a0)), (12, (Vl (.int .i64 (a0.length : Int)))), (13, (Vl (.int .i64 x4))), (21, (Sl Kf r15)), (22, (Vl (.int .i64 (r15.length : Int)))), (23, (Vl (.int .i64 x3))), (42, (Vl (.bool v4)))], []⟩ : St)) (fun v4 => spec_Grid_j2 k rec1 x3 v4 = some y1) ?_ ?_
              · rintro x2 hp
                replace hp : spec_Grid_j2 k rec1 x3 x2 = some y1 := hp
                unfold spec_Grid_j2 at hp
                refine sx_nil' ?_
                show TX E K16 _
                refine tx_k' hK16 ?_
                refine cx_cond' rfl (fun h8 => ?_) (fun h8 => ?_)
                · replace hp := (br_t h8).symm.trans hp
                  refine cx_seq' fun K19 hK19 => ?_
                  refine cx_region' ?_
                  refine sx_rd' (rd_assign' rfl) rfl rfl (wt_none' rfl) ?_
                  refine sx_nil' ?_
                  show TX E K19 _
                  refine tx_k' hK19 ?_
                  refine cx_retc' ?_
                  cases hp
                  show TX E (Zx E Exit.ret _ Exit.ret) _
                  exact tx_z' fun _ _ hs => sym_weak' hs (sub_cons rfl sub_nil) (List.Perm.refl _) List.Sublist.slnil
                · replace hp := (br_f h8).symm.trans hp
                  refine cx_skip' ?_
                  show TX E K14 _
                  refine tx_k' hK14 ?_
                  refine cx_region' ?_
                  refine sx_rd' (rd_bin' rfl rfl eg_int ru_add) rfl rfl (wt_none' rfl) ?_
                  refine sx_rd' (rd_move' rfl) rfl rfl (wt_none' rfl) ?_
                  refine sx_nil' ?_
                  show TX E (KY1 _) _
                  exact tx_weak' (sub_cons rfl (sub_cons rfl (sub_cons rfl (sub_cons rfl (sub_cons rfl (sub_cons rfl (sub_cons rfl (sub_cons rfl sub_nil)))))))) (List.Perm.refl _) List.Sublist.slnil (ih1 (iadd .i64 x3 1) _ hp)
              · intro K18 hK18
                rcases br_cases hp with ⟨h7, hp⟩ | ⟨h7, hp⟩
                · refine sx_skip' rfl rfl (wt_is' (wt_guard' rfl rfl rfl) (beq_tf h7)) ?_
                  refine sx_skip' rfl rfl (wt_is' (wt_guard' rfl rfl rfl) (beq_tf h7)) ?_
                  refine sx_skip' rfl rfl (wt_is' (wt_guard' rfl rfl rfl) (beq_tf h7)) ?_
                  refine sx_skip' rfl rfl (wt_is' (wt_guard' rfl rfl rfl) (beq_tf h7)) ?_
                  refine sx_rd' (rd_pick_true' rfl h7 rfl) rfl rfl (wt_none' rfl) ?_
                  refine sx_nil' ?_
                  show TX E K18 _
                  exact tx_weak' (sub_cons rfl (sub_cons rfl (sub_cons rfl (sub_cons rfl (sub_cons rfl (sub_cons rfl (sub_cons rfl (sub_cons rfl (sub_cons rfl sub_nil))))))))) (List.Perm.refl _) List.Sublist.slnil (hK18 true hp)
                · refine sx_rd' (rd_move' rfl) rfl rfl (wt_is' (wt_guard' rfl rfl rfl) (beq_ff h7)) ?_
                  refine sx_rd' (rd_move' rfl) rfl rfl (wt_is' (wt_guard' rfl rfl rfl) (beq_ff h7)) ?_
                  obtain ⟨r40, hr40, hp⟩ := bind_some hp
                  refine sx_call' (math_Trunc_sim _ hr40) Try.func43 isn43 rfl rfl (List.Perm.refl _) rfl rfl (wt_is' (wt_guard' rfl rfl rfl) (beq_ff h7)) fun _ => ?_
                  refine sx_rd' (rd_bin' rfl rfl eg_flt ru_fne) rfl rfl (wt_is' (wt_guard' rfl rfl rfl) (beq_ff h7)) ?_
                  refine sx_rd' (rd_pick_false' rfl h7 rfl) rfl rfl (wt_none' rfl) ?_
                  refine sx_nil' ?_
                  show TX E K18 _
                  exact tx_weak' (sub_cons rfl (sub_cons rfl (sub_cons rfl (sub_cons rfl (sub_cons rfl (sub_cons rfl (sub_cons rfl (sub_cons rfl (sub_cons rfl sub_nil))))))))) (List.Perm.refl _) List.Sublist.slnil (hK18 (fne r25 r40) hp)
            · intro K17 hK17
              rcases br_cases hp with ⟨h6, hp⟩ | ⟨h6, hp⟩
              · refine sx_rd' (rd_move' rfl) rfl rfl (wt_is' (wt_guard' rfl rfl rfl) (beq_tt h6)) ?_
                refine sx_rd' (rd_move' rfl) rfl rfl (wt_is' (wt_guard' rfl rfl rfl) (beq_tt h6)) ?_
                refine sx_rd' (rd_bin' rfl rfl eg_flt ru_fle) rfl rfl (wt_is' (wt_guard' rfl rfl rfl) (beq_tt h6)) ?_
                refine sx_rd' (rd_pick_true' rfl h6 rfl) rfl rfl (wt_none' rfl) ?_
                refine sx_nil' ?_
                show TX E K17 _
                exact tx_weak' (sub_cons rfl (sub_cons rfl (sub_cons rfl (sub_cons rfl (sub_cons rfl (sub_cons rfl (sub_cons rfl (sub_cons rfl (sub_cons rfl (sub_cons rfl sub_nil)))))))))) (List.Perm.refl _) List.Sublist.slnil (hK17 (fle r25 a2) hp)
              · refine sx_skip' rfl rfl (wt_is' (wt_guard' rfl rfl rfl) (beq_ft h6)) ?_
                refine sx_skip' rfl rfl (wt_is' (wt_guard' rfl rfl rfl) (beq_ft h6)) ?_
                refine sx_skip' rfl rfl (wt_is' (wt_guard' rfl rfl rfl) (beq_ft h6)) ?_
                refine sx_rd' (rd_pick_false' rfl h6 rfl) rfl rfl (wt_none' rfl) ?_
                refine sx_nil' ?_
                show TX E K17 _
                exact tx_weak' (sub_cons rfl (sub_cons rfl (sub_cons rfl (sub_cons rfl (sub_cons rfl (sub_cons rfl (sub_cons rfl (sub_cons rfl (sub_cons rfl (sub_cons rfl sub_nil)))))))))) (List.Perm.refl _) List.Sublist.slnil (hK17 false hp)
          · replace hp := (br_f h5).symm.trans hp
            refine cx_exit' ?_
            cases hp
            show TX E (Zx E (Exit.exit 2) _ (Exit.exit 2)) _
            exact tx_z' fun _ _ hs => sym_weak' hs (sub_cons rfl (sub_cons rfl (sub_cons rfl (sub_cons rfl (sub_cons rfl sub_nil))))) (List.Perm.refl _) List.Sublist.slnil
        · rcases y1 with v5 | v6
          · dsimp only at hp
            refine zx_out ?_
            cases hp
            show TX E (Zx E Exit.ret _ Exit.ret) _
            exact tx_z' fun _ _ hs => sym_weak' hs (sub_cons rfl sub_nil) (List.Perm.refl _) List.Sublist.slnil
          · dsimp only at hp
            refine zx_out ?_
            show TX E K6 _
            refine tx_k' hK6 ?_
            refine cx_region' ?_
            refine sx_rd' (rd_bin' rfl rfl eg_int ru_add) rfl rfl (wt_none' rfl) ?_
            refine sx_rd' (rd_move' rfl) rfl rfl (wt_none' rfl) ?_
            refine sx_nil' ?_
            show TX E (KY2 _) _
            exact tx_weak' (sub_cons rfl (sub_cons rfl (sub_cons rfl (sub_cons rfl (sub_cons rfl sub_nil))))) (List.Perm.refl _) List.Sublist.slnil (ih2 (iadd .i64 x4 1) _ hp)
    · replace hp := (br_f h2).symm.trans hp
      refine cx_exit' ?_
      cases hp
      show TX E (Zx E (Exit.exit 0) _ (Exit.exit 0)) _
      exact tx_z' fun _ _ hs => sym_weak' hs (sub_cons rfl sub_nil) (List.Perm.refl _) List.Sublist.slnil
  · rcases y2 with v7 | v8
    · dsimp only at hp
      refine zx_out ?_
      cases hp
      exact tx_ret1' Try.results31 rfl () (rv_tmp' rfl) (keep_nil _)
    · dsimp only at hp
      refine zx_out ?_
      show TX E K2 _
      refine tx_k' hK2 ?_
      refine cx_seq' fun K20 hK20 => ?_
      refine cx_region' ?_
      refine sx_rd' (rd_move' rfl) rfl rfl (wt_none' rfl) ?_
      refine sx_rd' (rd_bin' rfl rfl eg_int ru_gtr) rfl rfl (wt_none' rfl) ?_
      refine sx_rd' (rd_assign' rfl) rfl rfl (wt_none' rfl) ?_
      refine sx_nil' ?_
      show TX E K20 _
      refine tx_k' hK20 ?_
      refine cx_retc' ?_
      cases hp
      exact tx_ret1' Try.results31 rfl () (rv_tmp' rfl) (keep_nil _)

def laws_whole2_l1s (a0 : List (Nat × Nat)) (k : Nat) (rec1 : Int → Option (Unit ⊕ Unit)) (x1 : Int) : Option (Unit ⊕ Unit) :=
  br (decide (x1 < (a0.length : Int)))
    ((idx a0 x1) >>= fun r9 =>
    (laws_off2 k r9.1 r9.2) >>= fun r12 =>
    (spec_Grid k ([r12]) 2 4697254411347427328) >>= fun r14 =>
    br (!r14)
      (some (.inl ()))
      (rec1 (iadd .i64 x1 1)))
    (some (.inr ()))
def laws_whole2_l1 (a0 : List (Nat × Nat)) : Nat → Int → Option (Unit ⊕ Unit)
  | 0, _ => none
  | k + 1, v => laws_whole2_l1s a0 k (laws_whole2_l1 a0 k) v
def laws_whole2 (k : Nat) (a0 : List (Nat × Nat)) : Option (Bool) :=
  (laws_whole2_l1 a0 k 0) >>= fun y1 => match y1 with
    | (.inl v2) =>
      (some false)
    | (.inr v3) =>
      (some true)

theorem laws_whole2_sim {k : Nat} (a0 : List (Nat × Nat)) {out : Bool} (hp : laws_whole2 k a0 = some out) : Fp Try.prog 15 [(Sl K36 a0)] (Vl (.bool out)) := by
  unfold laws_whole2 at hp
  refine fn_of Try.func15 rfl Try.ntmps15 rfl fun E hM => ?_
  refine cx_seq' fun K1 hK1 => ?_
  refine cx_region' ?_
  refine sx_rd' (rd_assign' rfl) rfl rfl (wt_none' rfl) ?_
  refine sx_nil' ?_
  show TX E K1 _
  refine tx_k' hK1 ?_
  refine cx_seq' fun K2 hK2 => ?_
  refine cx_seq' fun K3 hK3 => ?_
  refine cx_region' ?_
  refine sx_rd' (rd_move' rfl) rfl rfl (wt_none' rfl) ?_
  refine sx_rd' (rd_len' rfl Try.underlying66) rfl rfl (wt_none' rfl) ?_
  refine sx_rd' (rd_move' rfl) rfl rfl (wt_none' rfl) ?_
  refine sx_nil' ?_
  show TX E K3 _
  refine tx_k' hK3 ?_
  refine cx_block' ?_
  obtain ⟨y1, hy1, hp⟩ := bind_some hp
  refine cx_loop' (F := laws_whole2_l1 a0) (G := fun k R v => laws_whole2_l1s a0 k R v) (x := 0) (fun v1 => (⟨17, [], [(5, (Sl K36 a0)), (6, (Vl (.int .i64 (a0.length : Int)))), (7, (Vl (.int .i64 v1)))], []⟩ : St)) (fun y => match y with | (.inl v2) => Zx E Exit.ret (⟨17, [], [(2, (Vl (.bool false)))], []⟩ : St) | (.inr v3) => Zx E (Exit.exit 0) (⟨17, [], [], []⟩ : St)) (fun _ => rfl) (fun _ _ => rfl) ?_ hy1 (fun _ _ hs => sym_weak' hs (sub_cons rfl (sub_cons rfl (sub_cons rfl sub_nil))) (List.Perm.refl _) List.Sublist.slnil) ?_
  · clear hp hy1
    clear y1
    intro k rec1 KY1 ih1
    rintro x1 y1 hp
    replace hp : laws_whole2_l1s a0 k rec1 x1 = some y1 := hp
    unfold laws_whole2_l1s at hp
    refine cx_seq' fun K4 hK4 => ?_
    refine cx_region' ?_
    refine sx_rd' (rd_bin' rfl rfl eg_int ru_lss) rfl rfl (wt_none' rfl) ?_
    refine sx_nil' ?_
    show TX E K4 _
    refine tx_k' hK4 ?_
    refine cx_seq' fun K5 hK5 => ?_
    refine cx_cond' rfl (fun h2 => ?_) (fun h2 => ?_)
    · replace hp := (br_t h2).symm.trans hp
      refine cx_skip' ?_
      show TX E K5 _
      refine tx_k' hK5 ?_
      refine cx_seq' fun K6 hK6 => ?_
      refine cx_block' ?_
      refine cx_seq' fun K7 hK7 => ?_
      refine cx_region' ?_
      obtain ⟨r9, hr9, hp⟩ := bind_some hp
      refine sx_rd' (rd_at' (K := K36) rfl rfl hr9 Try.underlying66 info36) rfl rfl (wt_none' rfl) ?_
      refine sx_rd' (rd_load_pt_agg' (nn := 2) rfl rfl agg36 (l' := [(Vl (.float .f64 r9.1)), (Vl (.float .f64 r9.2))]) rfl) rfl rfl (wt_none' rfl) ?_
      refine sx_alloc' info36 rfl rfl rfl rfl (wt_none' rfl) (l := [(Vl (.float .f64 0)), (Vl (.float .f64 0))]) rfl fun q4 => ?_
      refine sx_store' (i := 0) (o := 0) rfl rfl (lv_ag _) ⟨rfl, rfl, rfl, rfl⟩ rfl info36 rfl (wt_none' rfl) (H' := [⟨.pointer (some q4), [(Vl (.float .f64 r9.1)), (Vl (.float .f64 r9.2))], 36, none⟩]) rfl ?_
      refine sx_nil' ?_
      show TX E K7 _
      refine tx_k' hK7 ?_
      refine cx_seq' fun K8 hK8 => ?_
      refine cx_region' ?_
      refine sx_rd' (rd_load_agg' (i := 0) (o := 0) (nn := 2) rfl ⟨rfl, rfl, rfl, rfl⟩ rfl agg36 (l' := [(Vl (.float .f64 r9.1)), (Vl (.float .f64 r9.2))]) rfl) rfl rfl (wt_none' rfl) ?_
      obtain ⟨r12, hr12, hp⟩ := bind_some hp
      refine sx_call' (laws_off2_sim _ _ hr12) Try.func32 isn32 rfl rfl (List.Perm.refl _) rfl rfl (wt_none' rfl) fun _ => ?_
      refine sx_buildSlice' (qs := [(0, [(Sl Kf r12)])]) (r := [(Sl Kf r12)]) ⟨rfl, ⟨_, rfl, (lv_sl _ _)⟩, trivial⟩ Try.underlying52 info22 rfl (by decide) rfl rfl rfl rfl rfl rfl rfl (wt_none' rfl) fun q13 => ?_
      refine tx_freeze_row' 0 13 (K := (Kl Kf)) (xs := [r12]) (by decide) rfl rfl rfl ?_
      obtain ⟨r14, hr14, hp⟩ := bind_some hp
      refine sx_call' (spec_Grid_sim _ _ _ hr14) Try.func31 isn31 rfl rfl (List.Perm.refl _) rfl rfl (wt_none' rfl) fun _ => ?_
      refine sx_rd' (rd_un' rfl ru_not) rfl rfl (wt_none' rfl) ?_
      refine sx_nil' ?_
      show TX E K8 _
      refine tx_k' hK8 ?_
      refine cx_cond' rfl (fun h3 => ?_) (fun h3 => ?_)
      · replace hp := (br_t h3).symm.trans hp
        refine cx_seq' fun K9 hK9 => ?_
        refine cx_region' ?_
        refine sx_rd' (rd_assign' rfl) rfl rfl (wt_none' rfl) ?_
        refine sx_nil' ?_
        show TX E K9 _
        refine tx_k' hK9 ?_
        refine cx_retc' ?_
        cases hp
        show TX E (Zx E Exit.ret _ Exit.ret) _
        exact tx_z' fun _ _ hs => sym_weak' hs (sub_cons rfl sub_nil) (List.Perm.refl _) (List.Sublist.cons _ List.Sublist.slnil)
      · replace hp := (br_f h3).symm.trans hp
        refine cx_skip' ?_
        show TX E K6 _
        refine tx_k' hK6 ?_
        refine cx_region' ?_
        refine sx_rd' (rd_bin' rfl rfl eg_int ru_add) rfl rfl (wt_none' rfl) ?_
        refine sx_rd' (rd_move' rfl) rfl rfl (wt_none' rfl) ?_
        refine sx_nil' ?_
        show TX E (KY1 _) _
        exact tx_weak' (sub_cons rfl (sub_cons rfl (sub_cons rfl sub_nil))) (List.Perm.refl _) (List.Sublist.cons _ List.Sublist.slnil) (ih1 (iadd .i64 x1 1) _ hp)
    · replace hp := (br_f h2).symm.trans hp
      refine cx_exit' ?_
      cases hp
      show TX E (Zx E (Exit.exit 0) _ (Exit.exit 0)) _
      exact tx_z' fun _ _ hs => sym_weak' hs sub_nil (List.Perm.refl _) List.Sublist.slnil
  · rcases y1 with v2 | v3
    · dsimp only at hp
      refine zx_out ?_
      cases hp
      exact tx_ret1' Try.results15 rfl () (rv_tmp' rfl) (keep_nil _)
    · dsimp only at hp
      refine zx_out ?_
      show TX E K2 _
      refine tx_k' hK2 ?_
      refine cx_seq' fun K10 hK10 => ?_
      refine cx_region' ?_
      refine sx_rd' (rd_assign' rfl) rfl rfl (wt_none' rfl) ?_
      refine sx_nil' ?_
      show TX E K10 _
      refine tx_k' hK10 ?_
      refine cx_retc' ?_
      cases hp
      exact tx_ret1' Try.results15 rfl () (rv_tmp' rfl) (keep_nil _)

def laws_box2 (k : Nat) (a0_0 : Nat) (a0_1 : Nat) (a1_0 : Nat) (a1_1 : Nat) : Option (Nat × Nat × Nat × Nat) :=
  some (a0_0, a0_1, a1_0, a1_1)

theorem laws_box2_sim {k : Nat} (a0_0 : Nat) (a0_1 : Nat) (a1_0 : Nat) (a1_1 : Nat) {out : Nat × Nat × Nat × Nat} (hp : laws_box2 k a0_0 a0_1 a1_0 a1_1 = some out) : Fp Try.prog 17 [(Ag [(Vl (.float .f64 a0_0)), (Vl (.float .f64 a0_1))]), (Ag [(Vl (.float .f64 a1_0)), (Vl (.float .f64 a1_1))])] (Ag [(Vl (.float .f64 out.1)), (Vl (.float .f64 out.2.1)), (Vl (.float .f64 out.2.2.1)), (Vl (.float .f64 out.2.2.2))]) := by
  unfold laws_box2 at hp
  refine fn_of Try.func17 rfl Try.ntmps17 rfl fun E hM => ?_
  refine cx_seq' fun K1 hK1 => ?_
  refine cx_region' ?_
  refine sx_box' rfl (lv_ag _) rfl rfl (wt_none' rfl) fun q2 => ?_
  refine sx_box' rfl (lv_ag _) rfl rfl (wt_none' rfl) fun q3 => ?_
  refine sx_alloc' info40 rfl rfl rfl rfl (wt_none' rfl) (l := [(Vl (.float .f64 0)), (Vl (.float .f64 0)), (Vl (.float .f64 0)), (Vl (.float .f64 0))]) rfl fun q4 => ?_
  refine sx_nil' ?_
  show TX E K1 _
  refine tx_k' hK1 ?_
  refine cx_seq' fun K2 hK2 => ?_
  refine cx_region' ?_
  refine sx_rd' (rd_load_agg' (i := 2) (o := 0) (nn := 2) rfl ⟨rfl, rfl, rfl, rfl⟩ rfl agg36 (l' := [(Vl (.float .f64 a0_0)), (Vl (.float .f64 a0_1))]) rfl) rfl rfl (wt_none' rfl) ?_
  refine sx_rd' (rd_load_agg' (i := 1) (o := 0) (nn := 2) rfl ⟨rfl, rfl, rfl, rfl⟩ rfl agg36 (l' := [(Vl (.float .f64 a1_0)), (Vl (.float .f64 a1_1))]) rfl) rfl rfl (wt_none' rfl) ?_
  refine sx_rd' (rd_build' (pls := [(0, 2), (2, 2)]) (qs := [(0, [(Vl (.float .f64 a0_0)), (Vl (.float .f64 a0_1))]), (1, [(Vl (.float .f64 a1_0)), (Vl (.float .f64 a1_1))])]) (r := [(Vl (.float .f64 a0_0)), (Vl (.float .f64 a0_1)), (Vl (.float .f64 a1_0)), (Vl (.float .f64 a1_1))]) ⟨rfl, ⟨_, rfl, (lv_ag _)⟩, ⟨rfl, ⟨_, rfl, (lv_ag _)⟩, trivial⟩⟩ Try.underlying40 has40 places40 info40 rfl rfl rfl) rfl rfl (wt_none' rfl) ?_
  refine sx_store' (i := 0) (o := 0) rfl rfl (lv_ag _) ⟨rfl, rfl, rfl, rfl⟩ rfl info40 rfl (wt_none' rfl) (H' := [⟨.pointer (some q4), [(Vl (.float .f64 a0_0)), (Vl (.float .f64 a0_1)), (Vl (.float .f64 a1_0)), (Vl (.float .f64 a1_1))], 40, none⟩, ⟨.pointer (some q3), [(Vl (.float .f64 a1_0)), (Vl (.float .f64 a1_1))], 36, none⟩, ⟨.pointer (some q2), [(Vl (.float .f64 a0_0)), (Vl (.float .f64 a0_1))], 36, none⟩]) rfl ?_
  refine sx_nil' ?_
  show TX E K2 _
  refine tx_k' hK2 ?_
  refine cx_retc' ?_
  cases hp
  exact tx_ret1' Try.results17 rfl () (rv_cell_agg' (i := 0) (o := 0) (nn := 4) rfl ⟨rfl, rfl, rfl, rfl⟩ rfl agg40 rfl) (keep_nil _)

def impl_vec2 (k : Nat) (a0_0 : Nat) (a0_1 : Nat) : Option (Nat × Nat) :=
  some (a0_0, a0_1)

theorem impl_vec2_sim {k : Nat} (a0_0 : Nat) (a0_1 : Nat) {out : Nat × Nat} (hp : impl_vec2 k a0_0 a0_1 = some out) : Fp Try.prog 33 [(Ag [(Vl (.float .f64 a0_0)), (Vl (.float .f64 a0_1))])] (Ag [(Vl (.float .f64 out.1)), (Vl (.float .f64 out.2))]) := by
  unfold impl_vec2 at hp
  refine fn_of Try.func33 rfl Try.ntmps33 rfl fun E hM => ?_
  refine cx_seq' fun K1 hK1 => ?_
  refine cx_region' ?_
  refine sx_box' rfl (lv_ag _) rfl rfl (wt_none' rfl) fun q1 => ?_
  refine sx_alloc' info69 rfl rfl rfl rfl (wt_none' rfl) (l := [(Vl (.float .f64 0)), (Vl (.float .f64 0))]) rfl fun q2 => ?_
  refine sx_nil' ?_
  show TX E K1 _
  refine tx_k' hK1 ?_
  refine cx_seq' fun K2 hK2 => ?_
  refine cx_region' ?_
  refine sx_rd' (rd_field' (off := 0) rfl Try.underlying36 rfl info34 rfl) rfl rfl (wt_none' rfl) ?_
  refine sx_rd' (rd_load' (i := 1) (o := 0) rfl ⟨rfl, rfl, rfl, rfl⟩ rfl flat34) rfl rfl (wt_none' rfl) ?_
  refine sx_rd' (rd_field' (off := 1) rfl Try.underlying36 rfl info34 rfl) rfl rfl (wt_none' rfl) ?_
  refine sx_rd' (rd_load' (i := 1) (o := 1) rfl ⟨rfl, rfl, rfl, rfl⟩ rfl flat34) rfl rfl (wt_none' rfl) ?_
  refine sx_rd' (rd_build' (pls := [(0, 1), (1, 1)]) (qs := [(0, [(Vl (.float .f64 a0_0))]), (1, [(Vl (.float .f64 a0_1))])]) (r := [(Vl (.float .f64 a0_0)), (Vl (.float .f64 a0_1))]) ⟨rfl, ⟨_, rfl, (lv_vl rfl rfl)⟩, ⟨rfl, ⟨_, rfl, (lv_vl rfl rfl)⟩, trivial⟩⟩ Try.underlying69 has69 places69 info69 rfl rfl rfl) rfl rfl (wt_none' rfl) ?_
  refine sx_store' (i := 0) (o := 0) rfl rfl (lv_ag _) ⟨rfl, rfl, rfl, rfl⟩ rfl info69 rfl (wt_none' rfl) (H' := [⟨.pointer (some q2), [(Vl (.float .f64 a0_0)), (Vl (.float .f64 a0_1))], 69, none⟩, ⟨.pointer (some q1), [(Vl (.float .f64 a0_0)), (Vl (.float .f64 a0_1))], 36, none⟩]) rfl ?_
  refine sx_nil' ?_
  show TX E K2 _
  refine tx_k' hK2 ?_
  refine cx_retc' ?_
  cases hp
  exact tx_ret1' Try.results33 rfl () (rv_cell_agg' (i := 0) (o := 0) (nn := 2) rfl ⟨rfl, rfl, rfl, rfl⟩ rfl agg69 rfl) (keep_nil _)

def r2_Box_Empty_j1 (k : Nat) (x1 : Bool) : Option (Bool) :=
  some x1
def r2_Box_Empty (k : Nat) (a0_0 : Nat) (a0_1 : Nat) (a0_2 : Nat) (a0_3 : Nat) : Option (Bool) :=
  br (fge a0_0 a0_2)
    (r2_Box_Empty_j1 k true)
    (r2_Box_Empty_j1 k (fge a0_1 a0_3))

theorem r2_Box_Empty_sim {k : Nat} (a0_0 : Nat) (a0_1 : Nat) (a0_2 : Nat) (a0_3 : Nat) {out : Bool} (hp : r2_Box_Empty k a0_0 a0_1 a0_2 a0_3 = some out) : Fp Try.prog 44 [(Ag [(Vl (.float .f64 a0_0)), (Vl (.float .f64 a0_1)), (Vl (.float .f64 a0_2)), (Vl (.float .f64 a0_3))])] (Vl (.bool out)) := by
  unfold r2_Box_Empty at hp
  refine fn_of Try.func44 rfl Try.ntmps44 rfl fun E hM => ?_
  refine cx_seq' fun K1 hK1 => ?_
  refine cx_region' ?_
  refine sx_box' rfl (lv_ag _) rfl rfl (wt_none' rfl) fun q1 => ?_
  refine sx_rd' (rd_assign' rfl) rfl rfl (wt_none' rfl) ?_
  refine sx_nil' ?_
  show TX E K1 _
  refine tx_k' hK1 ?_
  refine cx_seq' fun K2 hK2 => ?_
  refine cx_region' ?_
  refine sx_rd' (rd_field' (off := 0) rfl Try.underlying72 rfl info69 rfl) rfl rfl (wt_none' rfl) ?_
  refine sx_rd' (rd_field' (off := 0) rfl Try.underlying69 rfl info34 rfl) rfl rfl (wt_none' rfl) ?_
  refine sx_rd' (rd_load' (i := 0) (o := 0) rfl ⟨rfl, rfl, rfl, (by simp only [addr_add_add])⟩ rfl flat34) rfl rfl (wt_none' rfl) ?_
  refine sx_rd' (rd_field' (off := 2) rfl Try.underlying72 rfl info69 rfl) rfl rfl (wt_none' rfl) ?_
  refine sx_rd' (rd_field' (off := 0) rfl Try.underlying69 rfl info34 rfl) rfl rfl (wt_none' rfl) ?_
  refine sx_rd' (rd_load' (i := 0) (o := 2) rfl ⟨rfl, rfl, rfl, (by simp only [addr_add_add])⟩ rfl flat34) rfl rfl (wt_none' rfl) ?_
  refine sx_rd' (rd_bin' rfl rfl eg_flt ru_fge) rfl rfl (wt_none' rfl) ?_
  refine sx_rd' (rd_move' rfl) rfl rfl (wt_none' rfl) ?_
  refine sx_cutn' 8 (fun v1 => (⟨19, [], [(18, (Vl (.bool v1)))], []⟩ : St)) (fun v1 => r2_Box_Empty_j1 k v1 = some out) ?_ ?_
  · rintro x1 hp
    replace hp : r2_Box_Empty_j1 k x1 = some out := hp
    unfold r2_Box_Empty_j1 at hp
    refine sx_rd' (rd_assign' rfl) rfl rfl (wt_none' rfl) ?_
    refine sx_nil' ?_
    show TX E K2 _
    refine tx_k' hK2 ?_
    refine cx_retc' ?_
    cases hp
    exact tx_ret1' Try.results44 rfl () (rv_tmp' rfl) (keep_nil _)
  · intro K3 hK3
    rcases br_cases hp with ⟨h1, hp⟩ | ⟨h1, hp⟩
    · refine sx_skip' rfl rfl (wt_is' (wt_guard' rfl rfl rfl) (beq_tf h1)) ?_
      refine sx_skip' rfl rfl (wt_is' (wt_guard' rfl rfl rfl) (beq_tf h1)) ?_
      refine sx_skip' rfl rfl (wt_is' (wt_guard' rfl rfl rfl) (beq_tf h1)) ?_
      refine sx_skip' rfl rfl (wt_is' (wt_guard' rfl rfl rfl) (beq_tf h1)) ?_
      refine sx_skip' rfl rfl (wt_is' (wt_guard' rfl rfl rfl) (beq_tf h1)) ?_
      refine sx_skip' rfl rfl (wt_is' (wt_guard' rfl rfl rfl) (beq_tf h1)) ?_
      refine sx_skip' rfl rfl (wt_is' (wt_guard' rfl rfl rfl) (beq_tf h1)) ?_
      refine sx_rd' (rd_pick_true' rfl h1 rfl) rfl rfl (wt_none' rfl) ?_
      refine sx_nil' ?_
      show TX E K3 _
      exact tx_weak' (sub_cons rfl sub_nil) (List.Perm.refl _) (List.Sublist.cons _ List.Sublist.slnil) (hK3 true hp)
    · refine sx_rd' (rd_field' (off := 0) rfl Try.underlying72 rfl info69 rfl) rfl rfl (wt_is' (wt_guard' rfl rfl rfl) (beq_ff h1)) ?_
      refine sx_rd' (rd_field' (off := 1) rfl Try.underlying69 rfl info34 rfl) rfl rfl (wt_is' (wt_guard' rfl rfl rfl) (beq_ff h1)) ?_
      refine sx_rd' (rd_load' (i := 0) (o := 1) rfl ⟨rfl, rfl, rfl, (by simp only [addr_add_add])⟩ rfl flat34) rfl rfl (wt_is' (wt_guard' rfl rfl rfl) (beq_ff h1)) ?_
      refine sx_rd' (rd_field' (off := 2) rfl Try.underlying72 rfl info69 rfl) rfl rfl (wt_is' (wt_guard' rfl rfl rfl) (beq_ff h1)) ?_
      refine sx_rd' (rd_field' (off := 1) rfl Try.underlying69 rfl info34 rfl) rfl rfl (wt_is' (wt_guard' rfl rfl rfl) (beq_ff h1)) ?_
      refine sx_rd' (rd_load' (i := 0) (o := 3) rfl ⟨rfl, rfl, rfl, (by simp only [addr_add_add])⟩ rfl flat34) rfl rfl (wt_is' (wt_guard' rfl rfl rfl) (beq_ff h1)) ?_
      refine sx_rd' (rd_bin' rfl rfl eg_flt ru_fge) rfl rfl (wt_is' (wt_guard' rfl rfl rfl) (beq_ff h1)) ?_
      refine sx_rd' (rd_pick_false' rfl h1 rfl) rfl rfl (wt_none' rfl) ?_
      refine sx_nil' ?_
      show TX E K3 _
      exact tx_weak' (sub_cons rfl sub_nil) (List.Perm.refl _) (List.Sublist.cons _ List.Sublist.slnil) (hK3 (fge a0_1 a0_3) hp)

def r2_Box_Contains_j1 (k : Nat) (x1 : Bool) : Option (Bool) :=
  some x1
def r2_Box_Contains_j4 (k : Nat) (x4 : Bool) : Option (Bool) :=
  some x4
def r2_Box_Contains_j3 (k : Nat) (a1_1 : Nat) (a0_3 : Nat) (x3 : Bool) : Option (Bool) :=
  br x3
    (r2_Box_Contains_j4 k (fle a1_1 a0_3))
    (r2_Box_Contains_j4 k false)
def r2_Box_Contains_j2 (k : Nat) (a1_1 : Nat) (a0_3 : Nat) (a0_1 : Nat) (x2 : Bool) : Option (Bool) :=
  br x2
    (r2_Box_Contains_j3 k a1_1 a0_3 (fle a0_1 a1_1))
    (r2_Box_Contains_j3 k a1_1 a0_3 false)
def r2_Box_Contains (k : Nat) (a0_0 : Nat) (a0_1 : Nat) (a0_2 : Nat) (a0_3 : Nat) (a1_0 : Nat) (a1_1 : Nat) : Option (Bool) :=
  (r2_Box_Empty k a0_0 a0_1 a0_2 a0_3) >>= fun r6 =>
  br r6
    (br ((feq a1_0 a0_0) && ((feq a1_1 a0_1) && true))
      (r2_Box_Contains_j1 k ((feq a1_0 a0_2) && ((feq a1_1 a0_3) && true)))
      (r2_Box_Contains_j1 k false))
    (br (fle a0_0 a1_0)
      (r2_Box_Contains_j2 k a1_1 a0_3 a0_1 (fle a1_0 a0_2))
      (r2_Box_Contains_j2 k a1_1 a0_3 a0_1 false))

theorem r2_Box_Contains_sim {k : Nat} (a0_0 : Nat) (a0_1 : Nat) (a0_2 : Nat) (a0_3 : Nat) (a1_0 : Nat) (a1_1 : Nat) {out : Bool} (hp : r2_Box_Contains k a0_0 a0_1 a0_2 a0_3 a1_0 a1_1 = some out) : Fp Try.prog 34 [(Ag [(Vl (.float .f64 a0_0)), (Vl (.float .f64 a0_1)), (Vl (.float .f64 a0_2)), (Vl (.float .f64 a0_3))]), (Ag [(Vl (.float .f64 a1_0)), (Vl (.float .f64 a1_1))])] (Vl (.bool out)) := by
  unfold r2_Box_Contains at hp
  refine fn_of Try.func34 rfl Try.ntmps34 rfl fun E hM => ?_
  refine cx_seq' fun K1 hK1 => ?_
  refine cx_region' ?_
  refine sx_box' rfl (lv_ag _) rfl rfl (wt_none' rfl) fun q2 => ?_
  refine sx_box' rfl (lv_ag _) rfl rfl (wt_none' rfl) fun q3 => ?_
  refine sx_rd' (rd_assign' rfl) rfl rfl (wt_none' rfl) ?_
  refine sx_nil' ?_
  show TX E K1 _
  refine tx_k' hK1 ?_
  refine cx_seq' fun K2 hK2 => ?_
  refine cx_seq' fun K3 hK3 => ?_
  refine cx_region' ?_
  refine sx_rd' (rd_load_agg' (i := 1) (o := 0) (nn := 4) rfl ⟨rfl, rfl, rfl, rfl⟩ rfl agg72 (l' := [(Vl (.float .f64 a0_0)), (Vl (.float .f64 a0_1)), (Vl (.float .f64 a0_2)), (Vl (.float .f64 a0_3))]) rfl) rfl rfl (wt_none' rfl) ?_
  obtain ⟨r6, hr6, hp⟩ := bind_some hp
  refine sx_call' (r2_Box_Empty_sim _ _ _ _ hr6) Try.func44 isn44 rfl rfl (List.Perm.refl _) rfl rfl (wt_none' rfl) fun _ => ?_
  refine sx_nil' ?_
  show TX E K3 _
  refine tx_k' hK3 ?_
  refine cx_cond' rfl (fun h1 => ?_) (fun h1 => ?_)
  · replace hp := (br_t h1).symm.trans hp
    refine cx_seq' fun K4 hK4 => ?_
    refine cx_region' ?_
    refine sx_rd' (rd_load_agg' (i := 0) (o := 0) (nn := 2) rfl ⟨rfl, rfl, rfl, rfl⟩ rfl agg69 (l' := [(Vl (.float .f64 a1_0)), (Vl (.float .f64 a1_1))]) rfl) rfl rfl (wt_none' rfl) ?_
    refine sx_rd' (rd_field' (off := 0) rfl Try.underlying72 rfl info69 rfl) rfl rfl (wt_none' rfl) ?_
    refine sx_rd' (rd_load_agg' (i := 1) (o := 0) (nn := 2) rfl ⟨rfl, rfl, rfl, rfl⟩ rfl agg69 (l' := [(Vl (.float .f64 a0_0)), (Vl (.float .f64 a0_1))]) rfl) rfl rfl (wt_none' rfl) ?_
    refine sx_rd' (rd_eq_ag' (us := [.float .f64 a1_0, .float .f64 a1_1]) (vs := [.float .f64 a0_0, .float .f64 a0_1]) rfl rfl eqg69 (eqt_struct Try.underlying69 held69 (eqf_cons (by rfl) (part_flat flat34 rfl) (part_flat flat34 rfl) (eqt_flt Try.underlying34) (eqf_cons (by rfl) (part_flat flat34 rfl) (part_flat flat34 rfl) (eqt_flt Try.underlying34) eqf_nil)))) rfl rfl (wt_none' rfl) ?_
    refine sx_rd' (rd_move' rfl) rfl rfl (wt_none' rfl) ?_
    refine sx_cutn' 5 (fun v1 => (⟨47, [], [(16, (Vl (.bool v1)))], []⟩ : St)) (fun v1 => r2_Box_Contains_j1 k v1 = some out) ?_ ?_
    · rintro x1 hp
      replace hp : r2_Box_Contains_j1 k x1 = some out := hp
      unfold r2_Box_Contains_j1 at hp
      refine sx_rd' (rd_assign' rfl) rfl rfl (wt_none' rfl) ?_
      refine sx_nil' ?_
      show TX E K4 _
      refine tx_k' hK4 ?_
      refine cx_retc' ?_
      cases hp
      exact tx_ret1' Try.results34 rfl () (rv_tmp' rfl) (keep_nil _)
    · intro K5 hK5
      rcases br_cases hp with ⟨h2, hp⟩ | ⟨h2, hp⟩
      · refine sx_rd' (rd_load_agg' (i := 0) (o := 0) (nn := 2) rfl ⟨rfl, rfl, rfl, rfl⟩ rfl agg69 (l' := [(Vl (.float .f64 a1_0)), (Vl (.float .f64 a1_1))]) rfl) rfl rfl (wt_is' (wt_guard' rfl rfl rfl) (beq_tt h2)) ?_
        refine sx_rd' (rd_field' (off := 2) rfl Try.underlying72 rfl info69 rfl) rfl rfl (wt_is' (wt_guard' rfl rfl rfl) (beq_tt h2)) ?_
        refine sx_rd' (rd_load_agg' (i := 1) (o := 2) (nn := 2) rfl ⟨rfl, rfl, rfl, rfl⟩ rfl agg69 (l' := [(Vl (.float .f64 a0_2)), (Vl (.float .f64 a0_3))]) rfl) rfl rfl (wt_is' (wt_guard' rfl rfl rfl) (beq_tt h2)) ?_
        refine sx_rd' (rd_eq_ag' (us := [.float .f64 a1_0, .float .f64 a1_1]) (vs := [.float .f64 a0_2, .float .f64 a0_3]) rfl rfl eqg69 (eqt_struct Try.underlying69 held69 (eqf_cons (by rfl) (part_flat flat34 rfl) (part_flat flat34 rfl) (eqt_flt Try.underlying34) (eqf_cons (by rfl) (part_flat flat34 rfl) (part_flat flat34 rfl) (eqt_flt Try.underlying34) eqf_nil)))) rfl rfl (wt_is' (wt_guard' rfl rfl rfl) (beq_tt h2)) ?_
        refine sx_rd' (rd_pick_true' rfl h2 rfl) rfl rfl (wt_none' rfl) ?_
        refine sx_nil' ?_
        show TX E K5 _
        exact tx_weak' (sub_cons rfl sub_nil) (List.Perm.refl _) (List.Sublist.cons _ (List.Sublist.cons _ List.Sublist.slnil)) (hK5 ((feq a1_0 a0_2) && ((feq a1_1 a0_3) && true)) hp)
      · refine sx_skip' rfl rfl (wt_is' (wt_guard' rfl rfl rfl) (beq_ft h2)) ?_
        refine sx_skip' rfl rfl (wt_is' (wt_guard' rfl rfl rfl) (beq_ft h2)) ?_
        refine sx_skip' rfl rfl (wt_is' (wt_guard' rfl rfl rfl) (beq_ft h2)) ?_
        refine sx_skip' rfl rfl (wt_is' (wt_guard' rfl rfl rfl) (beq_ft h2)) ?_
        refine sx_rd' (rd_pick_false' rfl h2 rfl) rfl rfl (wt_none' rfl) ?_
        refine sx_nil' ?_
        show TX E K5 _
        exact tx_weak' (sub_cons rfl sub_nil) (List.Perm.refl _) (List.Sublist.cons _ (List.Sublist.cons _ List.Sublist.slnil)) (hK5 false hp)
  · replace hp := (br_f h1).symm.trans hp
    refine cx_skip' ?_
    show TX E K2 _
    refine tx_k' hK2 ?_
    refine cx_seq' fun K6 hK6 => ?_
    refine cx_region' ?_
    refine sx_rd' (rd_field' (off := 0) rfl Try.underlying72 rfl info69 rfl) rfl rfl (wt_none' rfl) ?_
    refine sx_rd' (rd_field' (off := 0) rfl Try.underlying69 rfl info34 rfl) rfl rfl (wt_none' rfl) ?_
    refine sx_rd' (rd_load' (i := 1) (o := 0) rfl ⟨rfl, rfl, rfl, (by simp only [addr_add_add])⟩ rfl flat34) rfl rfl (wt_none' rfl) ?_
    refine sx_rd' (rd_field' (off := 0) rfl Try.underlying69 rfl info34 rfl) rfl rfl (wt_none' rfl) ?_
    refine sx_rd' (rd_load' (i := 0) (o := 0) rfl ⟨rfl, rfl, rfl, rfl⟩ rfl flat34) rfl rfl (wt_none' rfl) ?_
    refine sx_rd' (rd_bin' rfl rfl eg_flt ru_fle) rfl rfl (wt_none' rfl) ?_
    refine sx_rd' (rd_move' rfl) rfl rfl (wt_none' rfl) ?_
    refine sx_cutn' 7 (fun v2 => (⟨47, [], [(2, (Vl (.pointer (some q2)))), (3, (Vl (.pointer (some q3)))), (30, (Vl (.bool v2)))], [⟨.pointer (some q3), [(Vl (.float .f64 a1_0)), (Vl (.float .f64 a1_1))], 69, none⟩, ⟨.pointer (some q2), [(Vl (.float .f64 a0_0)), (Vl (.float .f64 a0_1)), (Vl (.float .f64 a0_2)), (Vl (.float .f64 a0_3))], 72, none⟩]⟩ : St)) (fun v2 => r2_Box_Contains_j2 k a1_1 a0_3 a0_1 v2 = some out) ?_ ?_
    · rintro x2 hp
      replace hp : r2_Box_Contains_j2 k a1_1 a0_3 a0_1 x2 = some out := hp
      unfold r2_Box_Contains_j2 at hp
      refine sx_rd' (rd_move' rfl) rfl rfl (wt_none' rfl) ?_
      refine sx_cutn' 7 (fun v3 => (⟨47, [], [(2, (Vl (.pointer (some q2)))), (3, (Vl (.pointer (some q3)))), (38, (Vl (.bool v3)))], [⟨.pointer (some q3), [(Vl (.float .f64 a1_0)), (Vl (.float .f64 a1_1))], 69, none⟩, ⟨.pointer (some q2), [(Vl (.float .f64 a0_0)), (Vl (.float .f64 a0_1)), (Vl (.float .f64 a0_2)), (Vl (.float .f64 a0_3))], 72, none⟩]⟩ : St)) (fun v3 => r2_Box_Contains_j3 k a1_1 a0_3 v3 = some out) ?_ ?_
      · rintro x3 hp
        replace hp : r2_Box_Contains_j3 k a1_1 a0_3 x3 = some out := hp
        unfold r2_Box_Contains_j3 at hp
        refine sx_rd' (rd_move' rfl) rfl rfl (wt_none' rfl) ?_
        refine sx_cutn' 7 (fun v4 => (⟨47, [], [(46, (Vl (.bool v4)))], []⟩ : St)) (fun v4 => r2_Box_Contains_j4 k v4 = some out) ?_ ?_
        · rintro x4 hp
          replace hp : r2_Box_Contains_j4 k x4 = some out := hp
          unfold r2_Box_Contains_j4 at hp
          refine sx_rd' (rd_assign' rfl) rfl rfl (wt_none' rfl) ?_
          refine sx_nil' ?_
          show TX E K6 _
          refine tx_k' hK6 ?_
          refine cx_retc' ?_
          cases hp
          exact tx_ret1' Try.results34 rfl () (rv_tmp' rfl) (keep_nil _)
        · intro K9 hK9
          rcases br_cases hp with ⟨h5, hp⟩ | ⟨h5, hp⟩
          · refine sx_rd' (rd_field' (off := 1) rfl Try.underlying69 rfl info34 rfl) rfl rfl (wt_is' (wt_guard' rfl rfl rfl) (beq_tt h5)) ?_
            refine sx_rd' (rd_load' (i := 0) (o := 1) rfl ⟨rfl, rfl, rfl, rfl⟩ rfl flat34) rfl rfl (wt_is' (wt_guard' rfl rfl rfl) (beq_tt h5)) ?_
            refine sx_rd' (rd_field' (off := 2) rfl Try.underlying72 rfl info69 rfl) rfl rfl (wt_is' (wt_guard' rfl rfl rfl) (beq_tt h5)) ?_
            refine sx_rd' (rd_field' (off := 1) rfl Try.underlying69 rfl info34 rfl) rfl rfl (wt_is' (wt_guard' rfl rfl rfl) (beq_tt h5)) ?_
            refine sx_rd' (rd_load' (i := 1) (o := 3) rfl ⟨rfl, rfl, rfl, (by simp only [addr_add_add])⟩ rfl flat34) rfl rfl (wt_is' (wt_guard' rfl rfl rfl) (beq_tt h5)) ?_
            refine sx_rd' (rd_bin' rfl rfl eg_flt ru_fle) rfl rfl (wt_is' (wt_guard' rfl rfl rfl) (beq_tt h5)) ?_
            refine sx_rd' (rd_pick_true' rfl h5 rfl) rfl rfl (wt_none' rfl) ?_
            refine sx_nil' ?_
            show TX E K9 _
            exact tx_weak' (sub_cons rfl sub_nil) (List.Perm.refl _) (List.Sublist.cons _ (List.Sublist.cons _ List.Sublist.slnil)) (hK9 (fle a1_1 a0_3) hp)
          · refine sx_skip' rfl rfl (wt_is' (wt_guard' rfl rfl rfl) (beq_ft h5)) ?_
            refine sx_skip' rfl rfl (wt_is' (wt_guard' rfl rfl rfl) (beq_ft h5)) ?_
            refine sx_skip' rfl rfl (wt_is' (wt_guard' rfl rfl rfl) (beq_ft h5)) ?_
            refine sx_skip' rfl rfl (wt_is' (wt_guard' rfl rfl rfl) (beq_ft h5)) ?_
            refine sx_skip' rfl rfl (wt_is' (wt_guard' rfl rfl rfl) (beq_ft h5)) ?_
            refine sx_skip' rfl rfl (wt_is' (wt_guard' rfl rfl rfl) (beq_ft h5)) ?_
            refine sx_rd' (rd_pick_false' rfl h5 rfl) rfl rfl (wt_none' rfl) ?_
            refine sx_nil' ?_
            show TX E K9 _
            exact tx_weak' (sub_cons rfl sub_nil) (List.Perm.refl _) (List.Sublist.cons _ (List.Sublist.cons _ List.Sublist.slnil)) (hK9 false hp)
      · intro K8 hK8
        rcases br_cases hp with ⟨h4, hp⟩ | ⟨h4, hp⟩
        · refine sx_rd' (rd_field' (off := 0) rfl Try.underlying72 rfl info69 rfl) rfl rfl (wt_is' (wt_guard' rfl rfl rfl) (beq_tt h4)) ?_
          refine sx_rd' (rd_field' (off := 1) rfl Try.underlying69 rfl info34 rfl) rfl rfl (wt_is' (wt_guard' rfl rfl rfl) (beq_tt h4)) ?_
          refine sx_rd' (rd_load' (i := 1) (o := 1) rfl ⟨rfl, rfl, rfl, (by simp only [addr_add_add])⟩ rfl flat34) rfl rfl (wt_is' (wt_guard' rfl rfl rfl) (beq_tt h4)) ?_
          refine sx_rd' (rd_field' (off := 1) rfl Try.underlying69 rfl info34 rfl) rfl rfl (wt_is' (wt_guard' rfl rfl rfl) (beq_tt h4)) ?_
          refine sx_rd' (rd_load' (i := 0) (o := 1) rfl ⟨rfl, rfl, rfl, rfl⟩ rfl flat34) rfl rfl (wt_is' (wt_guard' rfl rfl rfl) (beq_tt h4)) ?_
          refine sx_rd' (rd_bin' rfl rfl eg_flt ru_fle) rfl rfl (wt_is' (wt_guard' rfl rfl rfl) (beq_tt h4)) ?_
          refine sx_rd' (rd_pick_true' rfl h4 rfl) rfl rfl (wt_none' rfl) ?_
          refine sx_nil' ?_
          show TX E K8 _
          exact tx_weak' (sub_cons rfl (sub_cons rfl (sub_cons rfl sub_nil))) (List.Perm.refl _) (List.Sublist.cons_cons _ (List.Sublist.cons_cons _ List.Sublist.slnil)) (hK8 (fle a0_1 a1_1) hp)
        · refine sx_skip' rfl rfl (wt_is' (wt_guard' rfl rfl rfl) (beq_ft h4)) ?_
          refine sx_skip' rfl rfl (wt_is' (wt_guard' rfl rfl rfl) (beq_ft h4)) ?_
          refine sx_skip' rfl rfl (wt_is' (wt_guard' rfl rfl rfl) (beq_ft h4)) ?_
          refine sx_skip' rfl rfl (wt_is' (wt_guard' rfl rfl rfl) (beq_ft h4)) ?_
          refine sx_skip' rfl rfl (wt_is' (wt_guard' rfl rfl rfl) (beq_ft h4)) ?_
          refine sx_skip' rfl rfl (wt_is' (wt_guard' rfl rfl rfl) (beq_ft h4)) ?_
          refine sx_rd' (rd_pick_false' rfl h4 rfl) rfl rfl (wt_none' rfl) ?_
          refine sx_nil' ?_
          show TX E K8 _
          exact tx_weak' (sub_cons rfl (sub_cons rfl (sub_cons rfl sub_nil))) (List.Perm.refl _) (List.Sublist.cons_cons _ (List.Sublist.cons_cons _ List.Sublist.slnil)) (hK8 false hp)
    · intro K7 hK7
      rcases br_cases hp with ⟨h3, hp⟩ | ⟨h3, hp⟩
      · refine sx_rd' (rd_field' (off := 0) rfl Try.underlying69 rfl info34 rfl) rfl rfl (wt_is' (wt_guard' rfl rfl rfl) (beq_tt h3)) ?_
        refine sx_rd' (rd_load' (i := 0) (o := 0) rfl ⟨rfl, rfl, rfl, rfl⟩ rfl flat34) rfl rfl (wt_is' (wt_guard' rfl rfl rfl) (beq_tt h3)) ?_
        refine sx_rd' (rd_field' (off := 2) rfl Try.underlying72 rfl info69 rfl) rfl rfl (wt_is' (wt_guard' rfl rfl rfl) (beq_tt h3)) ?_
        refine sx_rd' (rd_field' (off := 0) rfl Try.underlying69 rfl info34 rfl) rfl rfl (wt_is' (wt_guard' rfl rfl rfl) (beq_tt h3)) ?_
        refine sx_rd' (rd_load' (i := 1) (o := 2) rfl ⟨rfl, rfl, rfl, (by simp only [addr_add_add])⟩ rfl flat34) rfl rfl (wt_is' (wt_guard' rfl rfl rfl) (beq_tt h3)) ?_
        refine sx_rd' (rd_bin' rfl rfl eg_flt ru_fle) rfl rfl (wt_is' (wt_guard' rfl rfl rfl) (beq_tt h3)) ?_
        refine sx_rd' (rd_pick_true' rfl h3 rfl) rfl rfl (wt_none' rfl) ?_
        refine sx_nil' ?_
        show TX E K7 _
        exact tx_weak' (sub_cons rfl (sub_cons rfl (sub_cons rfl sub_nil))) (List.Perm.refl _) (List.Sublist.cons_cons _ (List.Sublist.cons_cons _ List.Sublist.slnil)) (hK7 (fle a1_0 a0_2) hp)
      · refine sx_skip' rfl rfl (wt_is' (wt_guard' rfl rfl rfl) (beq_ft h3)) ?_
        refine sx_skip' rfl rfl (wt_is' (wt_guard' rfl rfl rfl) (beq_ft h3)) ?_
        refine sx_skip' rfl rfl (wt_is' (wt_guard' rfl rfl rfl) (beq_ft h3)) ?_
        refine sx_skip' rfl rfl (wt_is' (wt_guard' rfl rfl rfl) (beq_ft h3)) ?_
        refine sx_skip' rfl rfl (wt_is' (wt_guard' rfl rfl rfl) (beq_ft h3)) ?_
        refine sx_skip' rfl rfl (wt_is' (wt_guard' rfl rfl rfl) (beq_ft h3)) ?_
        refine sx_rd' (rd_pick_false' rfl h3 rfl) rfl rfl (wt_none' rfl) ?_
        refine sx_nil' ?_
        show TX E K7 _
        exact tx_weak' (sub_cons rfl (sub_cons rfl (sub_cons rfl sub_nil))) (List.Perm.refl _) (List.Sublist.cons_cons _ (List.Sublist.cons_cons _ List.Sublist.slnil)) (hK7 false hp)

def impl_Contains2 (k : Nat) (a0_0 : Nat) (a0_1 : Nat) (a0_2 : Nat) (a0_3 : Nat) (a1_0 : Nat) (a1_1 : Nat) : Option (Bool) :=
  (impl_vec2 k a0_0 a0_1) >>= fun r7 =>
  (impl_vec2 k a0_2 a0_3) >>= fun r10 =>
  (impl_vec2 k a1_0 a1_1) >>= fun r13 =>
  (r2_Box_Contains k r7.1 r7.2 r10.1 r10.2 r13.1 r13.2) >>= fun r14 =>
  some r14

theorem impl_Contains2_sim {k : Nat} (a0_0 : Nat) (a0_1 : Nat) (a0_2 : Nat) (a0_3 : Nat) (a1_0 : Nat) (a1_1 : Nat) {out : Bool} (hp : impl_Contains2 k a0_0 a0_1 a0_2 a0_3 a1_0 a1_1 = some out) : Fp Try.prog 16 [(Ag [(Vl (.float .f64 a0_0)), (Vl (.float .f64 a0_1)), (Vl (.float .f64 a0_2)), (Vl (.float .f64 a0_3))]), (Ag [(Vl (.float .f64 a1_0)), (Vl (.float .f64 a1_1))])] (Vl (.bool out)) := by
  unfold impl_Contains2 at hp
  refine fn_of Try.func16 rfl Try.ntmps16 rfl fun E hM => ?_
  refine cx_seq' fun K1 hK1 => ?_
  refine cx_region' ?_
  refine sx_box' rfl (lv_ag _) rfl rfl (wt_none' rfl) fun q2 => ?_
  refine sx_box' rfl (lv_ag _) rfl rfl (wt_none' rfl) fun q3 => ?_
  refine sx_rd' (rd_assign' rfl) rfl rfl (wt_none' rfl) ?_
  refine sx_nil' ?_
  show TX E K1 _
  refine tx_k' hK1 ?_
  refine cx_seq' fun K2 hK2 => ?_
  refine cx_draw' mixed (by kernel_rfl) ?_
  refine qx_rd' (rd_field' (off := 0) rfl Try.underlying40 rfl info36 rfl) rfl rfl (wt_none' rfl) ?_
  refine qx_rd' (rd_load_agg' (i := 1) (o := 0) (nn := 2) rfl ⟨rfl, rfl, rfl, rfl⟩ rfl agg36 (l' := [(Vl (.float .f64 a0_0)), (Vl (.float .f64 a0_1))]) rfl) rfl rfl (wt_none' rfl) ?_
  obtain ⟨r7, hr7, hp⟩ := bind_some hp
  refine qx_call' (impl_vec2_sim _ _ hr7) (det_ag (us := [.float .f64 r7.1, .float .f64 r7.2]) rfl) Try.func33 isn33 rfl rfl rfl rfl (wt_none' rfl) ?_
  refine qx_rd' (rd_field' (off := 2) rfl Try.underlying40 rfl info36 rfl) rfl rfl (wt_none' rfl) ?_
  refine qx_rd' (rd_load_agg' (i := 1) (o := 2) (nn := 2) rfl ⟨rfl, rfl, rfl, rfl⟩ rfl agg36 (l' := [(Vl (.float .f64 a0_2)), (Vl (.float .f64 a0_3))]) rfl) rfl rfl (wt_none' rfl) ?_
  obtain ⟨r10, hr10, hp⟩ := bind_some hp
  refine qx_call' (impl_vec2_sim _ _ hr10) (det_ag (us := [.float .f64 r10.1, .float .f64 r10.2]) rfl) Try.func33 isn33 rfl rfl rfl rfl (wt_none' rfl) ?_
  refine qx_rd' (rd_build' (pls := [(0, 2), (2, 2)]) (qs := [(0, [(Vl (.float .f64 r7.1)), (Vl (.float .f64 r7.2))]), (1, [(Vl (.float .f64 r10.1)), (Vl (.float .f64 r10.2))])]) (r := [(Vl (.float .f64 r7.1)), (Vl (.float .f64 r7.2)), (Vl (.float .f64 r10.1)), (Vl (.float .f64 r10.2))]) ⟨rfl, ⟨_, rfl, (lv_ag _)⟩, ⟨rfl, ⟨_, rfl, (lv_ag _)⟩, trivial⟩⟩ Try.underlying72 has72 places72 info72 rfl rfl rfl) rfl rfl (wt_none' rfl) ?_
  refine qx_rd' (rd_load_agg' (i := 0) (o := 0) (nn := 2) rfl ⟨rfl, rfl, rfl, rfl⟩ rfl agg36 (l' := [(Vl (.float .f64 a1_0)), (Vl (.float .f64 a1_1))]) rfl) rfl rfl (wt_none' rfl) ?_
  obtain ⟨r13, hr13, hp⟩ := bind_some hp
  refine qx_call' (impl_vec2_sim _ _ hr13) (det_ag (us := [.float .f64 r13.1, .float .f64 r13.2]) rfl) Try.func33 isn33 rfl rfl rfl rfl (wt_none' rfl) ?_
  obtain ⟨r14, hr14, hp⟩ := bind_some hp
  refine qx_call' (r2_Box_Contains_sim _ _ _ _ _ _ hr14) (det_vl _) Try.func34 isn34 rfl rfl rfl rfl (wt_none' rfl) ?_
  refine qx_rd' (rd_assign' rfl) rfl rfl (wt_none' rfl) ?_
  refine qx_nil' ?_
  show TX E K2 _
  refine tx_k' hK2 ?_
  refine cx_retc' ?_
  cases hp
  exact tx_ret1' Try.results16 rfl () (rv_tmp' rfl) (keep_nil _)

def laws_FnBoxHas2_j6 (k : Nat) (a0_0 : Nat) (a0_1 : Nat) (a1_0 : Nat) (a1_1 : Nat) (a2_0 : Nat) (a2_1 : Nat) (x6 : Bool) : Option (Bool) :=
  (laws_box2 k a0_0 a0_1 a1_0 a1_1) >>= fun r62 =>
  (impl_Contains2 k r62.1 r62.2.1 r62.2.2.1 r62.2.2.2 a2_0 a2_1) >>= fun r64 =>
  some (r64 == x6)
def laws_FnBoxHas2_j5 (k : Nat) (a0_0 : Nat) (a0_1 : Nat) (a1_0 : Nat) (a1_1 : Nat) (a2_0 : Nat) (a2_1 : Nat) (x5 : Bool) : Option (Bool) :=
  laws_FnBoxHas2_j6 k a0_0 a0_1 a1_0 a1_1 a2_0 a2_1 x5
def laws_FnBoxHas2_j4 (k : Nat) (a2_0 : Nat) (a0_0 : Nat) (a2_1 : Nat) (a0_1 : Nat) (a1_0 : Nat) (a1_1 : Nat) (x3 : Bool) (x4 : Bool) : Option (Bool) :=
  br x4
    (br ((feq a2_0 a0_0) && ((feq a2_1 a0_1) && true))
      (laws_FnBoxHas2_j5 k a0_0 a0_1 a1_0 a1_1 a2_0 a2_1 ((feq a2_0 a1_0) && ((feq a2_1 a1_1) && true)))
      (laws_FnBoxHas2_j5 k a0_0 a0_1 a1_0 a1_1 a2_0 a2_1 false))
    (laws_FnBoxHas2_j6 k a0_0 a0_1 a1_0 a1_1 a2_0 a2_1 x3)
def laws_FnBoxHas2_j3 (k : Nat) (a1_0 : Nat) (a0_0 : Nat) (a2_0 : Nat) (a2_1 : Nat) (a0_1 : Nat) (a1_1 : Nat) (x3 : Bool) : Option (Bool) :=
  br (fle a1_0 a0_0)
    (laws_FnBoxHas2_j4 k a2_0 a0_0 a2_1 a0_1 a1_0 a1_1 x3 true)
    (laws_FnBoxHas2_j4 k a2_0 a0_0 a2_1 a0_1 a1_0 a1_1 x3 (fle a1_1 a0_1))
def laws_FnBoxHas2_j2 (k : Nat) (a1_0 : Nat) (a0_0 : Nat) (a2_0 : Nat) (a2_1 : Nat) (a0_1 : Nat) (a1_1 : Nat) (x2 : Bool) : Option (Bool) :=
  br x2
    (laws_FnBoxHas2_j3 k a1_0 a0_0 a2_0 a2_1 a0_1 a1_1 (fle a2_1 a1_1))
    (laws_FnBoxHas2_j3 k a1_0 a0_0 a2_0 a2_1 a0_1 a1_1 false)
def laws_FnBoxHas2_j1 (k : Nat) (a1_0 : Nat) (a0_0 : Nat) (a2_0 : Nat) (a2_1 : Nat) (a0_1 : Nat) (a1_1 : Nat) (x1 : Bool) : Option (Bool) :=
  br x1
    (laws_FnBoxHas2_j2 k a1_0 a0_0 a2_0 a2_1 a0_1 a1_1 (fle a0_1 a2_1))
    (laws_FnBoxHas2_j2 k a1_0 a0_0 a2_0 a2_1 a0_1 a1_1 false)
def laws_FnBoxHas2 (k : Nat) (a0_0 : Nat) (a0_1 : Nat) (a1_0 : Nat) (a1_1 : Nat) (a2_0 : Nat) (a2_1 : Nat) : Option (Bool) :=
  (laws_whole2 k ([(a0_0, a0_1), (a1_0, a1_1), (a2_0, a2_1)])) >>= fun r12 =>
  br (!r12)
    (some true)
    (br (fle a0_0 a2_0)
      (laws_FnBoxHas2_j1 k a1_0 a0_0 a2_0 a2_1 a0_1 a1_1 (fle a2_0 a1_0))
      (laws_FnBoxHas2_j1 k a1_0 a0_0 a2_0 a2_1 a0_1 a1_1 false))

theorem laws_FnBoxHas2_sim {k : Nat} (a0_0 : Nat) (a0_1 : Nat) (a1_0 : Nat) (a1_1 : Nat) (a2_0 : Nat) (a2_1 : Nat) {out : Bool} (hp : laws_FnBoxHas2 k a0_0 a0_1 a1_0 a1_1 a2_0 a2_1 = some out) : Fp Try.prog 5 [(Ag [(Vl (.float .f64 a0_0)), (Vl (.float .f64 a0_1))]), (Ag [(Vl (.float .f64 a1_0)), (Vl (.float .f64 a1_1))]), (Ag [(Vl (.float .f64 a2_0)), (Vl (.float .f64 a2_1))])] (Vl (.bool out)) := by
  unfold laws_FnBoxHas2 at hp
  refine fn_of Try.func5 rfl Try.ntmps5 rfl fun E hM => ?_
  refine cx_seq' fun K1 hK1 => ?_
  refine cx_region' ?_
  refine sx_box' rfl (lv_ag _) rfl rfl (wt_none' rfl) fun q3 => ?_
  refine sx_box' rfl (lv_ag _) rfl rfl (wt_none' rfl) fun q4 => ?_
  refine sx_box' rfl (lv_ag _) rfl rfl (wt_none' rfl) fun q5 => ?_
  refine sx_rd' (rd_assign' rfl) rfl rfl (wt_none' rfl) ?_
  refine sx_nil' ?_
  show TX E K1 _
  refine tx_k' hK1 ?_
  refine cx_seq' fun K2 hK2 => ?_
  refine cx_seq' fun K3 hK3 => ?_
  refine cx_region' ?_
  refine sx_rd' (rd_load_agg' (i := 2) (o := 0) (nn := 2) rfl ⟨rfl, rfl, rfl, rfl⟩ rfl agg36 (l' := [(Vl (.float .f64 a0_0)), (Vl (.float .f64 a0_1))]) rfl) rfl rfl (wt_none' rfl) ?_
  refine sx_rd' (rd_load_agg' (i := 1) (o := 0) (nn := 2) rfl ⟨rfl, rfl, rfl, rfl⟩ rfl agg36 (l' := [(Vl (.float .f64 a1_0)), (Vl (.float .f64 a1_1))]) rfl) rfl rfl (wt_none' rfl) ?_
  refine sx_rd' (rd_load_agg' (i := 0) (o := 0) (nn := 2) rfl ⟨rfl, rfl, rfl, rfl⟩ rfl agg36 (l' := [(Vl (.float .f64 a2_0)), (Vl (.float .f64 a2_1))]) rfl) rfl rfl (wt_none' rfl) ?_
  refine sx_buildSlice' (qs := [(0, [(Vl (.float .f64 a0_0)), (Vl (.float .f64 a0_1))]), (1, [(Vl (.float .f64 a1_0)), (Vl (.float .f64 a1_1))]), (2, [(Vl (.float .f64 a2_0)), (Vl (.float .f64 a2_1))])]) (r := [(Vl (.float .f64 a0_0)), (Vl (.float .f64 a0_1)), (Vl (.float .f64 a1_0)), (Vl (.float .f64 a1_1)), (Vl (.float .f64 a2_0)), (Vl (.float .f64 a2_1))]) ⟨rfl, ⟨_, rfl, (lv_ag _)⟩, ⟨rfl, ⟨_, rfl, (lv_ag _)⟩, ⟨rfl, ⟨_, rfl, (lv_ag _)⟩, trivial⟩⟩⟩ Try.underlying66 info36 rfl (by decide) rfl rfl rfl rfl rfl rfl rfl (wt_none' rfl) fun q11 => ?_
  refine tx_freeze_row' 0 11 (K := K36) (xs := [(a0_0, a0_1), (a1_0, a1_1), (a2_0, a2_1)]) (by decide) rfl rfl rfl ?_
  obtain ⟨r12, hr12, hp⟩ := bind_some hp
  refine sx_call' (laws_whole2_sim _ hr12) Try.func15 isn15 rfl rfl (List.Perm.refl _) rfl rfl (wt_none' rfl) fun _ => ?_
  refine sx_rd' (rd_un' rfl ru_not) rfl rfl (wt_none' rfl) ?_
  refine sx_nil' ?_
  show TX E K3 _
  refine tx_k' hK3 ?_
  refine cx_cond' rfl (fun h1 => ?_) (fun h1 => ?_)
  · replace hp := (br_t h1).symm.trans hp
    refine cx_seq' fun K4 hK4 => ?_
    refine cx_region' ?_
    refine sx_rd' (rd_assign' rfl) rfl rfl (wt_none' rfl) ?_
    refine sx_nil' ?_
    show TX E K4 _
    refine tx_k' hK4 ?_
    refine cx_retc' ?_
    cases hp
    exact tx_ret1' Try.results5 rfl () (rv_tmp' rfl) (keep_nil _)
  · replace hp := (br_f h1).symm.trans hp
    refine cx_skip' ?_
    show TX E K2 _
    refine tx_k' hK2 ?_
    refine cx_seq' fun K5 hK5 => ?_
    refine cx_region' ?_
    refine sx_rd' (rd_field' (off := 0) rfl Try.underlying36 rfl info34 rfl) rfl rfl (wt_none' rfl) ?_
    refine sx_rd' (rd_load' (i := 2) (o := 0) rfl ⟨rfl, rfl, rfl, rfl⟩ rfl flat34) rfl rfl (wt_none' rfl) ?_
    refine sx_rd' (rd_field' (off := 0) rfl Try.underlying36 rfl info34 rfl) rfl rfl (wt_none' rfl) ?_
    refine sx_rd' (rd_load' (i := 0) (o := 0) rfl ⟨rfl, rfl, rfl, rfl⟩ rfl flat34) rfl rfl (wt_none' rfl) ?_
    refine sx_rd' (rd_bin' rfl rfl eg_flt ru_fle) rfl rfl (wt_none' rfl) ?_
    refine sx_rd' (rd_move' rfl) rfl rfl (wt_none' rfl) ?_
    refine sx_cutn' 6 (fun v1 => (⟨67, [], [(3, (Vl (.pointer (some q3)))), (4, (Vl (.pointer (some q4)))), (5, (Vl (.pointer (some q5)))), (25, (Vl (.bool v1)))], [⟨.pointer (some q5), [(Vl (.float .f64 a2_0)), (Vl (.float .f64 a2_1))], 36, none⟩, ⟨.pointer (some q4), [(Vl (.float .f64 a1_0)), (Vl (.float .f64 a1_1))], 36, none⟩, ⟨.pointer (some q3), [(Vl (.float .f64 a0_0)), (Vl (.float .f64 a0_1))], 36, none⟩]⟩ : St)) (fun v1 => laws_FnBoxHas2_j1 k a1_0 a0_0 a2_0 a2_1 a0_1 a1_1 v1 = some out) ?_ ?_
    · rintro x1 hp
      replace hp : laws_FnBoxHas2_j1 k a1_0 a0_0 a2_0 a2_1 a0_1 a1_1 x1 = some out := hp
      unfold laws_FnBoxHas2_j1 at hp
      refine sx_rd' (rd_move' rfl) rfl rfl (wt_none' rfl) ?_
      refine sx_cutn' 6 (fun v2 => (⟨67, [], [(3, (Vl (.pointer (some q3)))), (4, (Vl (.pointer (some q4)))), (5, (Vl (.pointer (some q5)))), (32, (Vl (.bool v2)))], [⟨.pointer (some q5), [(Vl (.float .f64 a2_0)), (Vl (.float .f64 a2_1))], 36, none⟩, ⟨.pointer (some q4), [(Vl (.float .f64 a1_0)), (Vl (.float .f64 a1_1))], 36, none⟩, ⟨.pointer (some q3), [(Vl (.float .f64 a0_0)), (Vl (.float .f64 a0_1))], 36, none⟩]⟩ : St)) (fun v2 => laws_FnBoxHas2_j2 k a1_0 a0_0 a2_0 a2_1 a0_1 a1_1 v2 = some out) ?_ ?_
      · rintro x2 hp
        replace hp : laws_FnBoxHas2_j2 k a1_0 a0_0 a2_0 a2_1 a0_1 a1_1 x2 = some out := hp
        unfold laws_FnBoxHas2_j2 at hp
        refine sx_rd' (rd_move' rfl) rfl rfl (wt_none' rfl) ?_
        refine sx_cutn' 6 (fun v3 => (⟨67, [], [(3, (Vl (.pointer (some q3)))), (4, (Vl (.pointer (some q4)))), (5, (Vl (.pointer (some q5)))), (39, (Vl (.bool v3)))], [⟨.pointer (some q5), [(Vl (.float .f64 a2_0)), (Vl (.float .f64 a2_1))], 36, none⟩, ⟨.pointer (some q4), [(Vl (.float .f64 a1_0)), (Vl (.float .f64 a1_1))], 36, none⟩, ⟨.pointer (some q3), [(Vl (.float .f64 a0_0)), (Vl (.float .f64 a0_1))], 36, none⟩]⟩ : St)) (fun v3 => laws_FnBoxHas2_j3 k a1_0 a0_0 a2_0 a2_1 a0_1 a1_1 v3 = some out) ?_ ?_
        · rintro x3 hp
          replace hp : laws_FnBoxHas2_j3 k a1_0 a0_0 a2_0 a2_1 a0_1 a1_1 x3 = some out := hp
          unfold laws_FnBoxHas2_j3 at hp
          refine sx_rd' (rd_assign' rfl) rfl rfl (wt_none' rfl) ?_
          refine sx_nil' ?_
          show TX E K5 _
          refine tx_k' hK5 ?_
          refine cx_join' (fun v6 => (⟨67, [], [(3, (Vl (.pointer (some q3)))), (4, (Vl (.pointer (some q4)))), (5, (Vl (.pointer (some q5)))), (7, (Vl (.bool v6)))], [⟨.pointer (some q5), [(Vl (.float .f64 a2_0)), (Vl (.float .f64 a2_1))], 36, none⟩, ⟨.pointer (some q4), [(Vl (.float .f64 a1_0)), (Vl (.float .f64 a1_1))], 36, none⟩, ⟨.pointer (some q3), [(Vl (.float .f64 a0_0)), (Vl (.float .f64 a0_1))], 36, none⟩]⟩ : St)) (fun v6 => laws_FnBoxHas2_j6 k a0_0 a0_1 a1_0 a1_1 a2_0 a2_1 v6 = some out) ?_ ?_
          · rintro x6 hp
            replace hp : laws_FnBoxHas2_j6 k a0_0 a0_1 a1_0 a1_1 a2_0 a2_1 x6 = some out := hp
            unfold laws_FnBoxHas2_j6 at hp
            refine cx_seq' fun K13 hK13 => ?_
            refine cx_draw' mixed (by kernel_rfl) ?_
            refine qx_rd' (rd_load_agg' (i := 2) (o := 0) (nn := 2) rfl ⟨rfl, rfl, rfl, rfl⟩ rfl agg36 (l' := [(Vl (.float .f64 a0_0)), (Vl (.float .f64 a0_1))]) rfl) rfl rfl (wt_none' rfl) ?_
            refine qx_rd' (rd_load_agg' (i := 1) (o := 0) (nn := 2) rfl ⟨rfl, rfl, rfl, rfl⟩ rfl agg36 (l' := [(Vl (.float .f64 a1_0)), (Vl (.float .f64 a1_1))]) rfl) rfl rfl (wt_none' rfl) ?_
            obtain ⟨r62, hr62, hp⟩ := bind_some hp
            refine qx_call' (laws_box2_sim _ _ _ _ hr62) (det_ag (us := [.float .f64 r62.1, .float .f64 r62.2.1, .float .f64 r62.2.2.1, .float .f64 r62.2.2.2]) rfl) Try.func17 isn17 rfl rfl rfl rfl (wt_none' rfl) ?_
            refine qx_rd' (rd_load_agg' (i := 0) (o := 0) (nn := 2) rfl ⟨rfl, rfl, rfl, rfl⟩ rfl agg36 (l' := [(Vl (.float .f64 a2_0)), (Vl (.float .f64 a2_1))]) rfl) rfl rfl (wt_none' rfl) ?_
            obtain ⟨r64, hr64, hp⟩ := bind_some hp
            refine qx_call' (impl_Contains2_sim _ _ _ _ _ _ hr64) (det_vl _) Try.func16 isn16 rfl rfl rfl rfl (wt_none' rfl) ?_
            refine qx_rd' (rd_move' rfl) rfl rfl (wt_none' rfl) ?_
            refine qx_rd' (rd_bin' rfl rfl eg_bool (ru_beq Try.underlying4)) rfl rfl (wt_none' rfl) ?_
            refine qx_rd' (rd_assign' rfl) rfl rfl (wt_none' rfl) ?_
            refine qx_nil' ?_
            show TX E K13 _
            refine tx_k' hK13 ?_
            refine cx_retc' ?_
            cases hp
            exact tx_ret1' Try.results5 rfl () (rv_tmp' rfl) (keep_nil _)
          · intro K9 hK9
            refine cx_seq' fun K10 hK10 => ?_
            refine cx_region' ?_
            refine sx_rd' (rd_field' (off := 0) rfl Try.underlying36 rfl info34 rfl) rfl rfl (wt_none' rfl) ?_
            refine sx_rd' (rd_load' (i := 1) (o := 0) rfl ⟨rfl, rfl, rfl, rfl⟩ rfl flat34) rfl rfl (wt_none' rfl) ?_
            refine sx_rd' (rd_field' (off := 0) rfl Try.underlying36 rfl info34 rfl) rfl rfl (wt_none' rfl) ?_
            refine sx_rd' (rd_load' (i := 2) (o := 0) rfl ⟨rfl, rfl, rfl, rfl⟩ rfl flat34) rfl rfl (wt_none' rfl) ?_
            refine sx_rd' (rd_bin' rfl rfl eg_flt ru_fle) rfl rfl (wt_none' rfl) ?_
            refine sx_rd' (rd_move' rfl) rfl rfl (wt_none' rfl) ?_
            refine sx_cutn' 6 (fun v4 => (⟨67, [], [(3, (Vl (.pointer (some q3)))), (4, (Vl (.pointer (some q4)))), (5, (Vl (.pointer (some q5)))), (7, (Vl (.bool x3))), (51, (Vl (.bool v4)))], [⟨.pointer (some q5), [(Vl (.float .f64 a2_0)), (Vl (.float .f64 a2_1))], 36, none⟩, ⟨.pointer (some q4), [(Vl (.float .f64 a1_0)), (Vl (.float .f64 a1_1))], 36, none⟩, ⟨.pointer (some q3), [(Vl (.float .f64 a0_0)), (Vl (.float .f64 a0_1))], 36, none⟩]⟩ : St)) (fun v4 => laws_FnBoxHas2_j4 k a2_0 a0_0 a2_1 a0_1 a1_0 a1_1 x3 v4 = some out) ?_ ?_
            · rintro x4 hp
              replace hp : laws_FnBoxHas2_j4 k a2_0 a0_0 a2_1 a0_1 a1_0 a1_1 x3 x4 = some out := hp
              unfold laws_FnBoxHas2_j4 at hp
              refine sx_nil' ?_
              show TX E K10 _
              refine tx_k' hK10 ?_
              refine cx_cond' rfl (fun h6 => ?_) (fun h6 => ?_)
              · replace hp := (br_t h6).symm.trans hp
                refine cx_region' ?_
                refine sx_rd' (rd_load_agg' (i := 0) (o := 0) (nn := 2) rfl ⟨rfl, rfl, rfl, rfl⟩ rfl agg36 (l' := [(Vl (.float .f64 a2_0)), (Vl (.float .f64 a2_1))]) rfl) rfl rfl (wt_none' rfl) ?_
                refine sx_rd' (rd_load_agg' (i := 2) (o := 0) (nn := 2) rfl ⟨rfl, rfl, rfl, rfl⟩ rfl agg36 (l' := [(Vl (.float .f64 a0_0)), (Vl (.float .f64 a0_1))]) rfl) rfl rfl (wt_none' rfl) ?_
                refine sx_rd' (rd_eq_ag' (us := [.float .f64 a2_0, .float .f64 a2_1]) (vs := [.float .f64 a0_0, .float .f64 a0_1]) rfl rfl eqg36 (eqt_struct Try.underlying36 held36 (eqf_cons (by rfl) (part_flat flat34 rfl) (part_flat flat34 rfl) (eqt_flt Try.underlying34) (eqf_cons (by rfl) (part_flat flat34 rfl) (part_flat flat34 rfl) (eqt_flt Try.underlying34) eqf_nil)))) rfl rfl (wt_none' rfl) ?_
                refine sx_rd' (rd_move' rfl) rfl rfl (wt_none' rfl) ?_
                refine sx_cutn' 4 (fun v5 => (⟨67, [], [(3, (Vl (.pointer (some q3)))), (4, (Vl (.pointer (some q4)))), (5, (Vl (.pointer (some q5)))), (59, (Vl (.bool v5)))], [⟨.pointer (some q5), [(Vl (.float .f64 a2_0)), (Vl (.float .f64 a2_1))], 36, none⟩, ⟨.pointer (some q4), [(Vl (.float .f64 a1_0)), (Vl (.float .f64 a1_1))], 36, none⟩, ⟨.pointer (some q3), [(Vl (.float .f64 a0_0)), (Vl (.float .f64 a0_1))], 36, none⟩]⟩ : St)) (fun v5 => laws_FnBoxHas2_j5 k a0_0 a0_1 a1_0 a1_1 a2_0 a2_1 v5 = some out) ?_ ?_
                · rintro x5 hp
                  replace hp : laws_FnBoxHas2_j5 k a0_0 a0_1 a1_0 a1_1 a2_0 a2_1 x5 = some out := hp
                  unfold laws_FnBoxHas2_j5 at hp
                  refine sx_rd' (rd_assign' rfl) rfl rfl (wt_none' rfl) ?_
                  refine sx_nil' ?_
                  show TX E K9 _
                  exact tx_weak' (sub_cons rfl (sub_cons rfl (sub_cons rfl (sub_cons rfl sub_nil)))) (List.Perm.refl _) (List.Sublist.cons_cons _ (List.Sublist.cons_cons _ (List.Sublist.cons_cons _ List.Sublist.slnil))) (hK9 x5 hp)
                · intro K12 hK12
                  rcases br_cases hp with ⟨h7, hp⟩ | ⟨h7, hp⟩
                  · refine sx_rd' (rd_load_agg' (i := 0) (o := 0) (nn := 2) rfl ⟨rfl, rfl, rfl, rfl⟩ rfl agg36 (l' := [(Vl (.float .f64 a2_0)), (Vl (.float .f64 a2_1))]) rfl) rfl rfl (wt_is' (wt_guard' rfl rfl rfl) (beq_tt h7)) ?_
                    refine sx_rd' (rd_load_agg' (i := 1) (o := 0) (nn := 2) rfl ⟨rfl, rfl, rfl, rfl⟩ rfl agg36 (l' := [(Vl (.float .f64 a1_0)), (Vl (.float .f64 a1_1))]) rfl) rfl rfl (wt_is' (wt_guard' rfl rfl rfl) (beq_tt h7)) ?_
                    refine sx_rd' (rd_eq_ag' (us := [.float .f64 a2_0, .float .f64 a2_1]) (vs := [.float .f64 a1_0, .float .f64 a1_1]) rfl rfl eqg36 (eqt_struct Try.underlying36 held36 (eqf_cons (by rfl) (part_flat flat34 rfl) (part_flat flat34 rfl) (eqt_flt Try.underlying34) (eqf_cons (by rfl) (part_flat flat34 rfl) (part_flat flat34 rfl) (eqt_flt Try.underlying34) eqf_nil)))) rfl rfl (wt_is' (wt_guard' rfl rfl rfl) (beq_tt h7)) ?_
                    refine sx_rd' (rd_pick_true' rfl h7 rfl) rfl rfl (wt_none' rfl) ?_
                    refine sx_nil' ?_
                    show TX E K12 _
                    exact tx_weak' (sub_cons rfl (sub_cons rfl (sub_cons rfl (sub_cons rfl sub_nil)))) (List.Perm.refl _) (List.Sublist.cons_cons _ (List.Sublist.cons_cons _ (List.Sublist.cons_cons _ List.Sublist.slnil))) (hK12 ((feq a2_0 a1_0) && ((feq a2_1 a1_1) && true)) hp)
                  · refine sx_skip' rfl rfl (wt_is' (wt_guard' rfl rfl rfl) (beq_ft h7)) ?_
                    refine sx_skip' rfl rfl (wt_is' (wt_guard' rfl rfl rfl) (beq_ft h7)) ?_
                    refine sx_skip' rfl rfl (wt_is' (wt_guard' rfl rfl rfl) (beq_ft h7)) ?_
                    refine sx_rd' (rd_pick_false' rfl h7 rfl) rfl rfl (wt_none' rfl) ?_
                    refine sx_nil' ?_
                    show TX E K12 _
                    exact tx_weak' (sub_cons rfl (sub_cons rfl (sub_cons rfl (sub_cons rfl sub_nil)))) (List.Perm.refl _) (List.Sublist.cons_cons _ (List.Sublist.cons_cons _ (List.Sublist.cons_cons _ List.Sublist.slnil))) (hK12 false hp)
              · replace hp := (br_f h6).symm.trans hp
                refine cx_skip' ?_
                show TX E K9 _
                exact tx_weak' (sub_cons rfl (sub_cons rfl (sub_cons rfl (sub_cons rfl sub_nil)))) (List.Perm.refl _) (List.Sublist.cons_cons _ (List.Sublist.cons_cons _ (List.Sublist.cons_cons _ List.Sublist.slnil))) (hK9 x3 hp)
            · intro K11 hK11
              rcases br_cases hp with ⟨h5, hp⟩ | ⟨h5, hp⟩
              · refine sx_skip' rfl rfl (wt_is' (wt_guard' rfl rfl rfl) (beq_tf h5)) ?_
                refine sx_skip' rfl rfl (wt_is' (wt_guard' rfl rfl rfl) (beq_tf h5)) ?_
                refine sx_skip' rfl rfl (wt_is' (wt_guard' rfl rfl rfl) (beq_tf h5)) ?_
                refine sx_skip' rfl rfl (wt_is' (wt_guard' rfl rfl rfl) (beq_tf h5)) ?_
                refine sx_skip' rfl rfl (wt_is' (wt_guard' rfl rfl rfl) (beq_tf h5)) ?_
                refine sx_rd' (rd_pick_true' rfl h5 rfl) rfl rfl (wt_none' rfl) ?_
                refine sx_nil' ?_
                show TX E K11 _
                exact tx_weak' (sub_cons rfl (sub_cons rfl (sub_cons rfl (sub_cons rfl (sub_cons rfl sub_nil))))) (List.Perm.refl _) (List.Sublist.cons_cons _ (List.Sublist.cons_cons _ (List.Sublist.cons_cons _ List.Sublist.slnil))) (hK11 true hp)
              · refine sx_rd' (rd_field' (off := 1) rfl Try.underlying36 rfl info34 rfl) rfl rfl (wt_is' (wt_guard' rfl rfl rfl) (beq_ff h5)) ?_
                refine sx_rd' (rd_load' (i := 1) (o := 1) rfl ⟨rfl, rfl, rfl, rfl⟩ rfl flat34) rfl rfl (wt_is' (wt_guard' rfl rfl rfl) (beq_ff h5)) ?_
                refine sx_rd' (rd_field' (off := 1) rfl Try.underlying36 rfl info34 rfl) rfl rfl (wt_is' (wt_guard' rfl rfl rfl) (beq_ff h5)) ?_
                refine sx_rd' (rd_load' (i := 2) (o := 1) rfl ⟨rfl, rfl, rfl, rfl⟩ rfl flat34) rfl rfl (wt_is' (wt_guard' rfl rfl rfl) (beq_ff h5)) ?_
                refine sx_rd' (rd_bin' rfl rfl eg_flt ru_fle) rfl rfl (wt_is' (wt_guard' rfl rfl rfl) (beq_ff h5)) ?_
                refine sx_rd' (rd_pick_false' rfl h5 rfl) rfl rfl (wt_none' rfl) ?_
                refine sx_nil' ?_
                show TX E K11 _
                exact tx_weak' (sub_cons rfl (sub_cons rfl (sub_cons rfl (sub_cons rfl (sub_cons rfl sub_nil))))) (List.Perm.refl _) (List.Sublist.cons_cons _ (List.Sublist.cons_cons _ (List.Sublist.cons_cons _ List.Sublist.slnil))) (hK11 (fle a1_1 a0_1) hp)
        · intro K8 hK8
          rcases br_cases hp with ⟨h4, hp⟩ | ⟨h4, hp⟩
          · refine sx_rd' (rd_field' (off := 1) rfl Try.underlying36 rfl info34 rfl) rfl rfl (wt_is' (wt_guard' rfl rfl rfl) (beq_tt h4)) ?_
            refine sx_rd' (rd_load' (i := 0) (o := 1) rfl ⟨rfl, rfl, rfl, rfl⟩ rfl flat34) rfl rfl (wt_is' (wt_guard' rfl rfl rfl) (beq_tt h4)) ?_
            refine sx_rd' (rd_field' (off := 1) rfl Try.underlying36 rfl info34 rfl) rfl rfl (wt_is' (wt_guard' rfl rfl rfl) (beq_tt h4)) ?_
            refine sx_rd' (rd_load' (i := 1) (o := 1) rfl ⟨rfl, rfl, rfl, rfl⟩ rfl flat34) rfl rfl (wt_is' (wt_guard' rfl rfl rfl) (beq_tt h4)) ?_
            refine sx_rd' (rd_bin' rfl rfl eg_flt ru_fle) rfl rfl (wt_is' (wt_guard' rfl rfl rfl) (beq_tt h4)) ?_
            refine sx_rd' (rd_pick_true' rfl h4 rfl) rfl rfl (wt_none' rfl) ?_
            refine sx_nil' ?_
            show TX E K8 _
            exact tx_weak' (sub_cons rfl (sub_cons rfl (sub_cons rfl (sub_cons rfl sub_nil)))) (List.Perm.refl _) (List.Sublist.cons_cons _ (List.Sublist.cons_cons _ (List.Sublist.cons_cons _ List.Sublist.slnil))) (hK8 (fle a2_1 a1_1) hp)
          · refine sx_skip' rfl rfl (wt_is' (wt_guard' rfl rfl rfl) (beq_ft h4)) ?_
            refine sx_skip' rfl rfl (wt_is' (wt_guard' rfl rfl rfl) (beq_ft h4)) ?_
            refine sx_skip' rfl rfl (wt_is' (wt_guard' rfl rfl rfl) (beq_ft h4)) ?_
            refine sx_skip' rfl rfl (wt_is' (wt_guard' rfl rfl rfl) (beq_ft h4)) ?_
            refine sx_skip' rfl rfl (wt_is' (wt_guard' rfl rfl rfl) (beq_ft h4)) ?_
            refine sx_rd' (rd_pick_false' rfl h4 rfl) rfl rfl (wt_none' rfl) ?_
            refine sx_nil' ?_
            show TX E K8 _
            exact tx_weak' (sub_cons rfl (sub_cons rfl (sub_cons rfl (sub_cons rfl sub_nil)))) (List.Perm.refl _) (List.Sublist.cons_cons _ (List.Sublist.cons_cons _ (List.Sublist.cons_cons _ List.Sublist.slnil))) (hK8 false hp)
      · intro K7 hK7
        rcases br_cases hp with ⟨h3, hp⟩ | ⟨h3, hp⟩
        · refine sx_rd' (rd_field' (off := 1) rfl Try.underlying36 rfl info34 rfl) rfl rfl (wt_is' (wt_guard' rfl rfl rfl) (beq_tt h3)) ?_
          refine sx_rd' (rd_load' (i := 2) (o := 1) rfl ⟨rfl, rfl, rfl, rfl⟩ rfl flat34) rfl rfl (wt_is' (wt_guard' rfl rfl rfl) (beq_tt h3)) ?_
          refine sx_rd' (rd_field' (off := 1) rfl Try.underlying36 rfl info34 rfl) rfl rfl (wt_is' (wt_guard' rfl rfl rfl) (beq_tt h3)) ?_
          refine sx_rd' (rd_load' (i := 0) (o := 1) rfl ⟨rfl, rfl, rfl, rfl⟩ rfl flat34) rfl rfl (wt_is' (wt_guard' rfl rfl rfl) (beq_tt h3)) ?_
          refine sx_rd' (rd_bin' rfl rfl eg_flt ru_fle) rfl rfl (wt_is' (wt_guard' rfl rfl rfl) (beq_tt h3)) ?_
          refine sx_rd' (rd_pick_true' rfl h3 rfl) rfl rfl (wt_none' rfl) ?_
          refine sx_nil' ?_
          show TX E K7 _
          exact tx_weak' (sub_cons rfl (sub_cons rfl (sub_cons rfl (sub_cons rfl sub_nil)))) (List.Perm.refl _) (List.Sublist.cons_cons _ (List.Sublist.cons_cons _ (List.Sublist.cons_cons _ List.Sublist.slnil))) (hK7 (fle a0_1 a2_1) hp)
        · refine sx_skip' rfl rfl (wt_is' (wt_guard' rfl rfl rfl) (beq_ft h3)) ?_
          refine sx_skip' rfl rfl (wt_is' (wt_guard' rfl rfl rfl) (beq_ft h3)) ?_
          refine sx_skip' rfl rfl (wt_is' (wt_guard' rfl rfl rfl) (beq_ft h3)) ?_
          refine sx_skip' rfl rfl (wt_is' (wt_guard' rfl rfl rfl) (beq_ft h3)) ?_
          refine sx_skip' rfl rfl (wt_is' (wt_guard' rfl rfl rfl) (beq_ft h3)) ?_
          refine sx_rd' (rd_pick_false' rfl h3 rfl) rfl rfl (wt_none' rfl) ?_
          refine sx_nil' ?_
          show TX E K7 _
          exact tx_weak' (sub_cons rfl (sub_cons rfl (sub_cons rfl (sub_cons rfl sub_nil)))) (List.Perm.refl _) (List.Sublist.cons_cons _ (List.Sublist.cons_cons _ (List.Sublist.cons_cons _ List.Sublist.slnil))) (hK7 false hp)
    · intro K6 hK6
      rcases br_cases hp with ⟨h2, hp⟩ | ⟨h2, hp⟩
      · refine sx_rd' (rd_field' (off := 0) rfl Try.underlying36 rfl info34 rfl) rfl rfl (wt_is' (wt_guard' rfl rfl rfl) (beq_tt h2)) ?_
        refine sx_rd' (rd_load' (i := 0) (o := 0) rfl ⟨rfl, rfl, rfl, rfl⟩ rfl flat34) rfl rfl (wt_is' (wt_guard' rfl rfl rfl) (beq_tt h2)) ?_
        refine sx_rd' (rd_field' (off := 0) rfl Try.underlying36 rfl info34 rfl) rfl rfl (wt_is' (wt_guard' rfl rfl rfl) (beq_tt h2)) ?_
        refine sx_rd' (rd_load' (i := 1) (o := 0) rfl ⟨rfl, rfl, rfl, rfl⟩ rfl flat34) rfl rfl (wt_is' (wt_guard' rfl rfl rfl) (beq_tt h2)) ?_
        refine sx_rd' (rd_bin' rfl rfl eg_flt ru_fle) rfl rfl (wt_is' (wt_guard' rfl rfl rfl) (beq_tt h2)) ?_
        refine sx_rd' (rd_pick_true' rfl h2 rfl) rfl rfl (wt_none' rfl) ?_
        refine sx_nil' ?_
        show TX E K6 _
        exact tx_weak' (sub_cons rfl (sub_cons rfl (sub_cons rfl (sub_cons rfl sub_nil)))) (List.Perm.refl _) (List.Sublist.cons_cons _ (List.Sublist.cons_cons _ (List.Sublist.cons_cons _ List.Sublist.slnil))) (hK6 (fle a2_0 a1_0) hp)
      · refine sx_skip' rfl rfl (wt_is' (wt_guard' rfl rfl rfl) (beq_ft h2)) ?_
        refine sx_skip' rfl rfl (wt_is' (wt_guard' rfl rfl rfl) (beq_ft h2)) ?_
        refine sx_skip' rfl rfl (wt_is' (wt_guard' rfl rfl rfl) (beq_ft h2)) ?_
        refine sx_skip' rfl rfl (wt_is' (wt_guard' rfl rfl rfl) (beq_ft h2)) ?_
        refine sx_skip' rfl rfl (wt_is' (wt_guard' rfl rfl rfl) (beq_ft h2)) ?_
        refine sx_rd' (rd_pick_false' rfl h2 rfl) rfl rfl (wt_none' rfl) ?_
        refine sx_nil' ?_
        show TX E K6 _
        exact tx_weak' (sub_cons rfl (sub_cons rfl (sub_cons rfl (sub_cons rfl sub_nil)))) (List.Perm.refl _) (List.Sublist.cons_cons _ (List.Sublist.cons_cons _ (List.Sublist.cons_cons _ List.Sublist.slnil))) (hK6 false hp)

def laws_off3 (k : Nat) (a0_0 : Nat) (a0_1 : Nat) (a0_2 : Nat) : Option (List Nat) :=
  some ([a0_0, a0_1, a0_2])

theorem laws_off3_sim {k : Nat} (a0_0 : Nat) (a0_1 : Nat) (a0_2 : Nat) {out : List Nat} (hp : laws_off3 k a0_0 a0_1 a0_2 = some out) : Fp Try.prog 35 [(Ag [(Vl (.float .f64 a0_0)), (Vl (.float .f64 a0_1)), (Vl (.float .f64 a0_2))])] (Sl Kf out) := by
  unfold laws_off3 at hp
  refine fn_of Try.func35 rfl Try.ntmps35 rfl fun E hM => ?_
  refine cx_seq' fun K1 hK1 => ?_
  refine cx_region' ?_
  refine sx_box' rfl (lv_ag _) rfl rfl (wt_none' rfl) fun q1 => ?_
  refine sx_rd' (rd_assign' rfl) rfl rfl (wt_none' rfl) ?_
  refine sx_nil' ?_
  show TX E K1 _
  refine tx_k' hK1 ?_
  refine cx_seq' fun K2 hK2 => ?_
  refine cx_region' ?_
  refine sx_rd' (rd_field' (off := 0) rfl Try.underlying44 rfl info34 rfl) rfl rfl (wt_none' rfl) ?_
  refine sx_rd' (rd_load' (i := 0) (o := 0) rfl ⟨rfl, rfl, rfl, rfl⟩ rfl flat34) rfl rfl (wt_none' rfl) ?_
  refine sx_rd' (rd_field' (off := 1) rfl Try.underlying44 rfl info34 rfl) rfl rfl (wt_none' rfl) ?_
  refine sx_rd' (rd_load' (i := 0) (o := 1) rfl ⟨rfl, rfl, rfl, rfl⟩ rfl flat34) rfl rfl (wt_none' rfl) ?_
  refine sx_rd' (rd_field' (off := 2) rfl Try.underlying44 rfl info34 rfl) rfl rfl (wt_none' rfl) ?_
  refine sx_rd' (rd_load' (i := 0) (o := 2) rfl ⟨rfl, rfl, rfl, rfl⟩ rfl flat34) rfl rfl (wt_none' rfl) ?_
  refine sx_buildSlice' (qs := [(0, [(Vl (.float .f64 a0_0))]), (1, [(Vl (.float .f64 a0_1))]), (2, [(Vl (.float .f64 a0_2))])]) (r := [(Vl (.float .f64 a0_0)), (Vl (.float .f64 a0_1)), (Vl (.float .f64 a0_2))]) ⟨rfl, ⟨_, rfl, (lv_vl rfl rfl)⟩, ⟨rfl, ⟨_, rfl, (lv_vl rfl rfl)⟩, ⟨rfl, ⟨_, rfl, (lv_vl rfl rfl)⟩, trivial⟩⟩⟩ Try.underlying22 info34 rfl (by decide) rfl rfl rfl rfl rfl rfl rfl (wt_none' rfl) fun q9 => ?_
  refine sx_rd' (rd_assign' rfl) rfl rfl (wt_none' rfl) ?_
  refine sx_nil' ?_
  show TX E K2 _
  refine tx_k' hK2 ?_
  refine cx_retc' ?_
  cases hp
  refine tx_freeze_row' 0 2 (K := Kf) (xs := [a0_0, a0_1, a0_2]) (by decide) rfl rfl rfl ?_
  exact tx_ret1' Try.results35 rfl () (rv_tmp' rfl) (keep_nil _)

def laws_whole3_l1s (a0 : List (Nat × Nat × Nat)) (k : Nat) (rec1 : Int → Option (Unit ⊕ Unit)) (x1 : Int) : Option (Unit ⊕ Unit) :=
  br (decide (x1 < (a0.length : Int)))
    ((idx a0 x1) >>= fun r9 =>
    (laws_off3 k r9.1 r9.2.1 r9.2.2) >>= fun r12 =>
    (spec_Grid k ([r12]) 3 4697254411347427328) >>= fun r14 =>
    br (!r14)
      (some (.inl ()))
      (rec1 (iadd .i64 x1 1)))
    (some (.inr ()))
def laws_whole3_l1 (a0 : List (Nat × Nat × Nat)) : Nat → Int → Option (Unit ⊕ Unit)
  | 0, _ => none
  | k + 1, v => laws_whole3_l1s a0 k (laws_whole3_l1 a0 k) v
def laws_whole3 (k : Nat) (a0 : List (Nat × Nat × Nat)) : Option (Bool) :=
  (laws_whole3_l1 a0 k 0) >>= fun y1 => match y1 with
    | (.inl v2) =>
      (some false)
    | (.inr v3) =>
      (some true)

theorem laws_whole3_sim {k : Nat} (a0 : List (Nat × Nat × Nat)) {out : Bool} (hp : laws_whole3 k a0 = some out) : Fp Try.prog 18 [(Sl K44 a0)] (Vl (.bool out)) := by
  unfold laws_whole3 at hp
  refine fn_of Try.func18 rfl Try.ntmps18 rfl fun E hM => ?_
  refine cx_seq' fun K1 hK1 => ?_
  refine cx_region' ?_
  refine sx_rd' (rd_assign' rfl) rfl rfl (wt_none' rfl) ?_
  refine sx_nil' ?_
  show TX E K1 _
  refine tx_k' hK1 ?_
  refine cx_seq' fun K2 hK2 => ?_
  refine cx_seq' fun K3 hK3 => ?_
  refine cx_region' ?_
  refine sx_rd' (rd_move' rfl) rfl rfl (wt_none' rfl) ?_
  refine sx_rd' (rd_len' rfl Try.underlying74) rfl rfl (wt_none' rfl) ?_
  refine sx_rd' (rd_move' rfl) rfl rfl (wt_none' rfl) ?_
  refine sx_nil' ?_
  show TX E K3 _
  refine tx_k' hK3 ?_
  refine cx_block' ?_
  obtain ⟨y1, hy1, hp⟩ := bind_some hp
  refine cx_loop' (F := laws_whole3_l1 a0) (G := fun k R v => laws_whole3_l1s a0 k R v) (x := 0) (fun v1 => (⟨17, [], [(5, (Sl K44 a0)), (6, (Vl (.int .i64 (a0.length : Int)))), (7, (Vl (.int .i64 v1)))], []⟩ : St)) (fun y => match y with | (.inl v2) => Zx E Exit.ret (⟨17, [], [(2, (Vl (.bool false)))], []⟩ : St) | (.inr v3) => Zx E (Exit.exit 0) (⟨17, [], [], []⟩ : St)) (fun _ => rfl) (fun _ _ => rfl) ?_ hy1 (fun _ _ hs => sym_weak' hs (sub_cons rfl (sub_cons rfl (sub_cons rfl sub_nil))) (List.Perm.refl _) List.Sublist.slnil) ?_
  · clear hp hy1
    clear y1
    intro k rec1 KY1 ih1
    rintro x1 y1 hp
    replace hp : laws_whole3_l1s a0 k rec1 x1 = some y1 := hp
    unfold laws_whole3_l1s at hp
    refine cx_seq' fun K4 hK4 => ?_
    refine cx_region' ?_
    refine sx_rd' (rd_bin' rfl rfl eg_int ru_lss) rfl rfl (wt_none' rfl) ?_
    refine sx_nil' ?_
    show TX E K4 _
    refine tx_k' hK4 ?_
    refine cx_seq' fun K5 hK5 => ?_
    refine cx_cond' rfl (fun h2 => ?_) (fun h2 => ?_)
    · replace hp := (br_t h2).symm.trans hp
      refine cx_skip' ?_
      show TX E K5 _
      refine tx_k' hK5 ?_
      refine cx_seq' fun K6 hK6 => ?_
      refine cx_block' ?_
      refine cx_seq' fun K7 hK7 => ?_
      refine cx_region' ?_
      obtain ⟨r9, hr9, hp⟩ := bind_some hp
      refine sx_rd' (rd_at' (K := K44) rfl rfl hr9 Try.underlying74 info44) rfl rfl (wt_none' rfl) ?_
      refine sx_rd' (rd_load_pt_agg' (nn := 3) rfl rfl agg44 (l' := [(Vl (.float .f64 r9.1)), (Vl (.float .f64 r9.2.1)), (Vl (.float .f64 r9.2.2))]) rfl) rfl rfl (wt_none' rfl) ?_
      refine sx_alloc' info44 rfl rfl rfl rfl (wt_none' rfl) (l := [(Vl (.float .f64 0)), (Vl (.float .f64 0)), (Vl (.float .f64 0))]) rfl fun q4 => ?_
      refine sx_store' (i := 0) (o := 0) rfl rfl (lv_ag _) ⟨rfl, rfl, rfl, rfl⟩ rfl info44 rfl (wt_none' rfl) (H' := [⟨.pointer (some q4), [(Vl (.float .f64 r9.1)), (Vl (.float .f64 r9.2.1)), (Vl (.float .f64 r9.2.2))], 44, none⟩]) rfl ?_
      refine sx_nil' ?_
      show TX E K7 _
      refine tx_k' hK7 ?_
      refine cx_seq' fun K8 hK8 => ?_
      refine cx_region' ?_
      refine sx_rd' (rd_load_agg' (i := 0) (o := 0) (nn := 3) rfl ⟨rfl, rfl, rfl, rfl⟩ rfl agg44 (l' := [(Vl (.float .f64 r9.1)), (Vl (.float .f64 r9.2.1)), (Vl (.float .f64 r9.2.2))]) rfl) rfl rfl (wt_none' rfl) ?_
      obtain ⟨r12, hr12, hp⟩ := bind_some hp
      refine sx_call' (laws_off3_sim _ _ _ hr12) Try.func35 isn35 rfl rfl (List.Perm.refl _) rfl rfl (wt_none' rfl) fun _ => ?_
      refine sx_buildSlice' (qs := [(0, [(Sl Kf r12)])]) (r := [(Sl Kf r12)]) ⟨rfl, ⟨_, rfl, (lv_sl _ _)⟩, trivial⟩ Try.underlying52 info22 rfl (by decide) rfl rfl rfl rfl rfl rfl rfl (wt_none' rfl) fun q13 => ?_
      refine tx_freeze_row' 0 13 (K := (Kl Kf)) (xs := [r12]) (by decide) rfl rfl rfl ?_
      obtain ⟨r14, hr14, hp⟩ := bind_some hp
      refine sx_call' (spec_Grid_sim _ _ _ hr14) Try.func31 isn31 rfl rfl (List.Perm.refl _) rfl rfl (wt_none' rfl) fun _ => ?_
      refine sx_rd' (rd_un' rfl ru_not) rfl rfl (wt_none' rfl) ?_
      refine sx_nil' ?_
      show TX E K8 _
      refine tx_k' hK8 ?_
      refine cx_cond' rfl (fun h3 => ?_) (fun h3 => ?_)
      · replace hp := (br_t h3).symm.trans hp
        refine cx_seq' fun K9 hK9 => ?_
        refine cx_region' ?_
        refine sx_rd' (rd_assign' rfl) rfl rfl (wt_none' rfl) ?_
        refine sx_nil' ?_
        show TX E K9 _
        refine tx_k' hK9 ?_
        refine cx_retc' ?_
        cases hp
        show TX E (Zx E Exit.ret _ Exit.ret) _
        exact tx_z' fun _ _ hs => sym_weak' hs (sub_cons rfl sub_nil) (List.Perm.refl _) (List.Sublist.cons _ List.Sublist.slnil)
      · replace hp := (br_f h3).symm.trans hp
        refine cx_skip' ?_
        show TX E K6 _
        refine tx_k' hK6 ?_
        refine cx_region' ?_
        refine sx_rd' (rd_bin' rfl rfl eg_int ru_add) rfl rfl (wt_none' rfl) ?_
        refine sx_rd' (rd_move' rfl) rfl rfl (wt_none' rfl) ?_
        refine sx_nil' ?_
        show TX E (KY1 _) _
        exact tx_weak' (sub_cons rfl (sub_cons rfl (sub_cons rfl sub_nil))) (List.Perm.refl _) (List.Sublist.cons _ List.Sublist.slnil) (ih1 (iadd .i64 x1 1) _ hp)
    · replace hp := (br_f h2).symm.trans hp
      refine cx_exit' ?_
      cases hp
      show TX E (Zx E (Exit.exit 0) _ (Exit.exit 0)) _
      exact tx_z' fun _ _ hs => sym_weak' hs sub_nil (List.Perm.refl _) List.Sublist.slnil
  · rcases y1 with v2 | v3
    · dsimp only at hp
      refine zx_out ?_
      cases hp
      exact tx_ret1' Try.results18 rfl () (rv_tmp' rfl) (keep_nil _)
    · dsimp only at hp
      refine zx_out ?_
      show TX E K2 _
      refine tx_k' hK2 ?_
      refine cx_seq' fun K10 hK10 => ?_
      refine cx_region' ?_
      refine sx_rd' (rd_assign' rfl) rfl rfl (wt_none' rfl) ?_
      refine sx_nil' ?_
      show TX E K10 _
      refine tx_k' hK10 ?_
      refine cx_retc' ?_
      cases hp
      exact tx_ret1' Try.results18 rfl () (rv_tmp' rfl) (keep_nil _)

def laws_box3 (k : Nat) (a0_0 : Nat) (a0_1 : Nat) (a0_2 : Nat) (a1_0 : Nat) (a1_1 : Nat) (a1_2 : Nat) : Option (Nat × Nat × Nat × Nat × Nat × Nat) :=
  some (a0_0, a0_1, a0_2, a1_0, a1_1, a1_2)

theorem laws_box3_sim {k : Nat} (a0_0 : Nat) (a0_1 : Nat) (a0_2 : Nat) (a1_0 : Nat) (a1_1 : Nat) (a1_2 : Nat) {out : Nat × Nat × Nat × Nat × Nat × Nat} (hp : laws_box3 k a0_0 a0_1 a0_2 a1_0 a1_1 a1_2 = some out) : Fp Try.prog 20 [(Ag [(Vl (.float .f64 a0_0)), (Vl (.float .f64 a0_1)), (Vl (.float .f64 a0_2))]), (Ag [(Vl (.float .f64 a1_0)), (Vl (.float .f64 a1_1)), (Vl (.float .f64 a1_2))])] (Ag [(Vl (.float .f64 out.1)), (Vl (.float .f64 out.2.1)), (Vl (.float .f64 out.2.2.1)), (Vl (.float .f64 out.2.2.2.1)), (Vl (.float .f64 out.2.2.2.2.1)), (Vl (.float .f64 out.2.2.2.2.2))]) := by
  unfold laws_box3 at hp
  refine fn_of Try.func20 rfl Try.ntmps20 rfl fun E hM => ?_
  refine cx_seq' fun K1 hK1 => ?_
  refine cx_region' ?_
  refine sx_box' rfl (lv_ag _) rfl rfl (wt_none' rfl) fun q2 => ?_
  refine sx_box' rfl (lv_ag _) rfl rfl (wt_none' rfl) fun q3 => ?_
  refine sx_alloc' info48 rfl rfl rfl rfl (wt_none' rfl) (l := [(Vl (.float .f64 0)), (Vl (.float .f64 0)), (Vl (.float .f64 0)), (Vl (.float .f64 0)), (Vl (.float .f64 0)), (Vl (.float .f64 0))]) rfl fun q4 => ?_
  refine sx_nil' ?_
  show TX E K1 _
  refine tx_k' hK1 ?_
  refine cx_seq' fun K2 hK2 => ?_
  refine cx_region' ?_
  refine sx_rd' (rd_load_agg' (i := 2) (o := 0) (nn := 3) rfl ⟨rfl, rfl, rfl, rfl⟩ rfl agg44 (l' := [(Vl (.float .f64 a0_0)), (Vl (.float .f64 a0_1)), (Vl (.float .f64 a0_2))]) rfl) rfl rfl (wt_none' rfl) ?_
  refine sx_rd' (rd_load_agg' (i := 1) (o := 0) (nn := 3) rfl ⟨rfl, rfl, rfl, rfl⟩ rfl agg44 (l' := [(Vl (.float .f64 a1_0)), (Vl (.float .f64 a1_1)), (Vl (.float .f64 a1_2))]) rfl) rfl rfl (wt_none' rfl) ?_
  refine sx_rd' (rd_build' (pls := [(0, 3), (3, 3)]) (qs := [(0, [(Vl (.float .f64 a0_0)), (Vl (.float .f64 a0_1)), (Vl (.float .f64 a0_2))]), (1, [(Vl (.float .f64 a1_0)), (Vl (.float .f64 a1_1)), (Vl (.float .f64 a1_2))])]) (r := [(Vl (.float .f64 a0_0)), (Vl (.float .f64 a0_1)), (Vl (.float .f64 a0_2)), (Vl (.float .f64 a1_0)), (Vl (.float .f64 a1_1)), (Vl (.float .f64 a1_2))]) ⟨rfl, ⟨_, rfl, (lv_ag _)⟩, ⟨rfl, ⟨_, rfl, (lv_ag _)⟩, trivial⟩⟩ Try.underlying48 has48 places48 info48 rfl rfl rfl) rfl rfl (wt_none' rfl) ?_
  refine sx_store' (i := 0) (o := 0) rfl rfl (lv_ag _) ⟨rfl, rfl, rfl, rfl⟩ rfl info48 rfl (wt_none' rfl) (H' := [⟨.pointer (some q4), [(Vl (.float .f64 a0_0)), (Vl (.float .f64 a0_1)), (Vl (.float .f64 a0_2)), (Vl (.float .f64 a1_0)), (Vl (.float .f64 a1_1)), (Vl (.float .f64 a1_2))], 48, none⟩, ⟨.pointer (some q3), [(Vl (.float .f64 a1_0)), (Vl (.float .f64 a1_1)), (Vl (.float .f64 a1_2))], 44, none⟩, ⟨.pointer (some q2), [(Vl (.float .f64 a0_0)), (Vl (.float .f64 a0_1)), (Vl (.float .f64 a0_2))], 44, none⟩]) rfl ?_
  refine sx_nil' ?_
  show TX E K2 _
  refine tx_k' hK2 ?_
  refine cx_retc' ?_
  cases hp
  exact tx_ret1' Try.results20 rfl () (rv_cell_agg' (i := 0) (o := 0) (nn := 6) rfl ⟨rfl, rfl, rfl, rfl⟩ rfl agg48 rfl) (keep_nil _)

def impl_vec3 (k : Nat) (a0_0 : Nat) (a0_1 : Nat) (a0_2 : Nat) : Option (Nat × Nat × Nat) :=
  some (a0_0, a0_1, a0_2)

theorem impl_vec3_sim {k : Nat} (a0_0 : Nat) (a0_1 : Nat) (a0_2 : Nat) {out : Nat × Nat × Nat} (hp : impl_vec3 k a0_0 a0_1 a0_2 = some out) : Fp Try.prog 36 [(Ag [(Vl (.float .f64 a0_0)), (Vl (.float .f64 a0_1)), (Vl (.float .f64 a0_2))])] (Ag [(Vl (.float .f64 out.1)), (Vl (.float .f64 out.2.1)), (Vl (.float .f64 out.2.2))]) := by
  unfold impl_vec3 at hp
  refine fn_of Try.func36 rfl Try.ntmps36 rfl fun E hM => ?_
  refine cx_seq' fun K1 hK1 => ?_
  refine cx_region' ?_
  refine sx_box' rfl (lv_ag _) rfl rfl (wt_none' rfl) fun q1 => ?_
  refine sx_alloc' info76 rfl rfl rfl rfl (wt_none' rfl) (l := [(Vl (.float .f64 0)), (Vl (.float .f64 0)), (Vl (.float .f64 0))]) rfl fun q2 => ?_
  refine sx_nil' ?_
  show TX E K1 _
  refine tx_k' hK1 ?_
  refine cx_seq' fun K2 hK2 => ?_
  refine cx_region' ?_
  refine sx_rd' (rd_field' (off := 0) rfl Try.underlying44 rfl info34 rfl) rfl rfl (wt_none' rfl) ?_
  refine sx_rd' (rd_load' (i := 1) (o := 0) rfl ⟨rfl, rfl, rfl, rfl⟩ rfl flat34) rfl rfl (wt_none' rfl) ?_
  refine sx_rd' (rd_field' (off := 1) rfl Try.underlying44 rfl info34 rfl) rfl rfl (wt_none' rfl) ?_
  refine sx_rd' (rd_load' (i := 1) (o := 1) rfl ⟨rfl, rfl, rfl, rfl⟩ rfl flat34) rfl rfl (wt_none' rfl) ?_
  refine sx_rd' (rd_field' (off := 2) rfl Try.underlying44 rfl info34 rfl) rfl rfl (wt_none' rfl) ?_
  refine sx_rd' (rd_load' (i := 1) (o := 2) rfl ⟨rfl, rfl, rfl, rfl⟩ rfl flat34) rfl rfl (wt_none' rfl) ?_
  refine sx_rd' (rd_build' (pls := [(0, 1), (1, 1), (2, 1)]) (qs := [(0, [(Vl (.float .f64 a0_0))]), (1, [(Vl (.float .f64 a0_1))]), (2, [(Vl (.float .f64 a0_2))])]) (r := [(Vl (.float .f64 a0_0)), (Vl (.float .f64 a0_1)), (Vl (.float .f64 a0_2))]) ⟨rfl, ⟨_, rfl, (lv_vl rfl rfl)⟩, ⟨rfl, ⟨_, rfl, (lv_vl rfl rfl)⟩, ⟨rfl, ⟨_, rfl, (lv_vl rfl rfl)⟩, trivial⟩⟩⟩ Try.underlying76 has76 places76 info76 rfl rfl rfl) rfl rfl (wt_none' rfl) ?_
  refine sx_store' (i := 0) (o := 0) rfl rfl (lv_ag _) ⟨rfl, rfl, rfl, rfl⟩ rfl info76 rfl (wt_none' rfl) (H' := [⟨.pointer (some q2), [(Vl (.float .f64 a0_0)), (Vl (.float .f64 a0_1)), (Vl (.float .f64 a0_2))], 76, none⟩, ⟨.pointer (some q1), [(Vl (.float .f64 a0_0)), (Vl (.float .f64 a0_1)), (Vl (.float .f64 a0_2))], 44, none⟩]) rfl ?_
  refine sx_nil' ?_
  show TX E K2 _
  refine tx_k' hK2 ?_
  refine cx_retc' ?_
  cases hp
  exact tx_ret1' Try.results36 rfl () (rv_cell_agg' (i := 0) (o := 0) (nn := 3) rfl ⟨rfl, rfl, rfl, rfl⟩ rfl agg76 rfl) (keep_nil _)

def r3_Box_Empty_j2 (k : Nat) (x2 : Bool) : Option (Bool) :=
  some x2
def r3_Box_Empty_j1 (k : Nat) (a0_2 : Nat) (a0_5 : Nat) (x1 : Bool) : Option (Bool) :=
  br x1
    (r3_Box_Empty_j2 k true)
    (r3_Box_Empty_j2 k (fge a0_2 a0_5))
def r3_Box_Empty (k : Nat) (a0_0 : Nat) (a0_1 : Nat) (a0_2 : Nat) (a0_3 : Nat) (a0_4 : Nat) (a0_5 : Nat) : Option (Bool) :=
  br (fge a0_0 a0_3)
    (r3_Box_Empty_j1 k a0_2 a0_5 true)
    (r3_Box_Empty_j1 k a0_2 a0_5 (fge a0_1 a0_4))

theorem r3_Box_Empty_sim {k : Nat} (a0_0 : Nat) (a0_1 : Nat) (a0_2 : Nat) (a0_3 : Nat) (a0_4 : Nat) (a0_5 : Nat) {out : Bool} (hp : r3_Box_Empty k a0_0 a0_1 a0_2 a0_3 a0_4 a0_5 = some out) : Fp Try.prog 45 [(Ag [(Vl (.float .f64 a0_0)), (Vl (.float .f64 a0_1)), (Vl (.float .f64 a0_2)), (Vl (.float .f64 a0_3)), (Vl (.float .f64 a0_4)), (Vl (.float .f64 a0_5))])] (Vl (.bool out)) := by
  unfold r3_Box_Empty at hp
  refine fn_of Try.func45 rfl Try.ntmps45 rfl fun E hM => ?_
  refine cx_seq' fun K1 hK1 => ?_
  refine cx_region' ?_
  refine sx_box' rfl (lv_ag _) rfl rfl (wt_none' rfl) fun q1 => ?_
  refine sx_rd' (rd_assign' rfl) rfl rfl (wt_none' rfl) ?_
  refine sx_nil' ?_
  show TX E K1 _
  refine tx_k' hK1 ?_
  refine cx_seq' fun K2 hK2 => ?_
  refine cx_region' ?_
  refine sx_rd' (rd_field' (off := 0) rfl Try.underlying79 rfl info76 rfl) rfl rfl (wt_none' rfl) ?_
  refine sx_rd' (rd_field' (off := 0) rfl Try.underlying76 rfl info34 rfl) rfl rfl (wt_none' rfl) ?_
  refine sx_rd' (rd_load' (i := 0) (o := 0) rfl ⟨rfl, rfl, rfl, (by simp only [addr_add_add])⟩ rfl flat34) rfl rfl (wt_none' rfl) ?_
  refine sx_rd' (rd_field' (off := 3) rfl Try.underlying79 rfl info76 rfl) rfl rfl (wt_none' rfl) ?_
  refine sx_rd' (rd_field' (off := 0) rfl Try.underlying76 rfl info34 rfl) rfl rfl (wt_none' rfl) ?_
  refine sx_rd' (rd_load' (i := 0) (o := 3) rfl ⟨rfl, rfl, rfl, (by simp only [addr_add_add])⟩ rfl flat34) rfl rfl (wt_none' rfl) ?_
  refine sx_rd' (rd_bin' rfl rfl eg_flt ru_fge) rfl rfl (wt_none' rfl) ?_
  refine sx_rd' (rd_move' rfl) rfl rfl (wt_none' rfl) ?_
  refine sx_cutn' 8 (fun v1 => (⟨28, [], [(1, (Vl (.pointer (some q1)))), (18, (Vl (.bool v1)))], [⟨.pointer (some q1), [(Vl (.float .f64 a0_0)), (Vl (.float .f64 a0_1)), (Vl (.float .f64 a0_2)), (Vl (.float .f64 a0_3)), (Vl (.float .f64 a0_4)), (Vl (.float .f64 a0_5))], 79, none⟩]⟩ : St)) (fun v1 => r3_Box_Empty_j1 k a0_2 a0_5 v1 = some out) ?_ ?_
  · rintro x1 hp
    replace hp : r3_Box_Empty_j1 k a0_2 a0_5 x1 = some out := hp
    unfold r3_Box_Empty_j1 at hp
    refine sx_rd' (rd_move' rfl) rfl rfl (wt_none' rfl) ?_
    refine sx_cutn' 8 (fun v2 => (⟨28, [], [(27, (Vl (.bool v2)))], []⟩ : St)) (fun v2 => r3_Box_Empty_j2 k v2 = some out) ?_ ?_
    · rintro x2 hp
      replace hp : r3_Box_Empty_j2 k x2 = some out := hp
      unfold r3_Box_Empty_j2 at hp
      refine sx_rd' (rd_assign' rfl) rfl rfl (wt_none' rfl) ?_
      refine sx_nil' ?_
      show TX E K2 _
      refine tx_k' hK2 ?_
      refine cx_retc' ?_
      cases hp
      exact tx_ret1' Try.results45 rfl () (rv_tmp' rfl) (keep_nil _)
    · intro K4 hK4
      rcases br_cases hp with ⟨h2, hp⟩ | ⟨h2, hp⟩
      · refine sx_skip' rfl rfl (wt_is' (wt_guard' rfl rfl rfl) (beq_tf h2)) ?_
        refine sx_skip' rfl rfl (wt_is' (wt_guard' rfl rfl rfl) (beq_tf h2)) ?_
        refine sx_skip' rfl rfl (wt_is' (wt_guard' rfl rfl rfl) (beq_tf h2)) ?_
        refine sx_skip' rfl rfl (wt_is' (wt_guard' rfl rfl rfl) (beq_tf h2)) ?_
        refine sx_skip' rfl rfl (wt_is' (wt_guard' rfl rfl rfl) (beq_tf h2)) ?_
        refine sx_skip' rfl rfl (wt_is' (wt_guard' rfl rfl rfl) (beq_tf h2)) ?_
        refine sx_skip' rfl rfl (wt_is' (wt_guard' rfl rfl rfl) (beq_tf h2)) ?_
        refine sx_rd' (rd_pick_true' rfl h2 rfl) rfl rfl (wt_none' rfl) ?_
        refine sx_nil' ?_
        show TX E K4 _
        exact tx_weak' (sub_cons rfl sub_nil) (List.Perm.refl _) (List.Sublist.cons _ List.Sublist.slnil) (hK4 true hp)
      · refine sx_rd' (rd_field' (off := 0) rfl Try.underlying79 rfl info76 rfl) rfl rfl (wt_is' (wt_guard' rfl rfl rfl) (beq_ff h2)) ?_
        refine sx_rd' (rd_field' (off := 2) rfl Try.underlying76 rfl info34 rfl) rfl rfl (wt_is' (wt_guard' rfl rfl rfl) (beq_ff h2)) ?_
        refine sx_rd' (rd_load' (i := 0) (o := 2) rfl ⟨rfl, rfl, rfl, (by simp only [addr_add_add])⟩ rfl flat34) rfl rfl (wt_is' (wt_guard' rfl rfl rfl) (beq_ff h2)) ?_
        refine sx_rd' (rd_field' (off := 3) rfl Try.underlying79 rfl info76 rfl) rfl rfl (wt_is' (wt_guard' rfl rfl rfl) (beq_ff h2)) ?_
        refine sx_rd' (rd_field' (off := 2) rfl Try.underlying76 rfl info34 rfl) rfl rfl (wt_is' (wt_guard' rfl rfl rfl) (beq_ff h2)) ?_
        refine sx_rd' (rd_load' (i := 0) (o := 5) rfl ⟨rfl, rfl, rfl, (by simp only [addr_add_add])⟩ rfl flat34) rfl rfl (wt_is' (wt_guard' rfl rfl rfl) (beq_ff h2)) ?_
        refine sx_rd' (rd_bin' rfl rfl eg_flt ru_fge) rfl rfl (wt_is' (wt_guard' rfl rfl rfl) (beq_ff h2)) ?_
        refine sx_rd' (rd_pick_false' rfl h2 rfl) rfl rfl (wt_none' rfl) ?_
        refine sx_nil' ?_
        show TX E K4 _
        exact tx_weak' (sub_cons rfl sub_nil) (List.Perm.refl _) (List.Sublist.cons _ List.Sublist.slnil) (hK4 (fge a0_2 a0_5) hp)
  · intro K3 hK3
    rcases br_cases hp with ⟨h1, hp⟩ | ⟨h1, hp⟩
    · refine sx_skip' rfl rfl (wt_is' (wt_guard' rfl rfl rfl) (beq_tf h1)) ?_
      refine sx_skip' rfl rfl (wt_is' (wt_guard' rfl rfl rfl) (beq_tf h1)) ?_
      refine sx_skip' rfl rfl (wt_is' (wt_guard' rfl rfl rfl) (beq_tf h1)) ?_
      refine sx_skip' rfl rfl (wt_is' (wt_guard' rfl rfl rfl) (beq_tf h1)) ?_
      refine sx_skip' rfl rfl (wt_is' (wt_guard' rfl rfl rfl) (beq_tf h1)) ?_
      refine sx_skip' rfl rfl (wt_is' (wt_guard' rfl rfl rfl) (beq_tf h1)) ?_
      refine sx_skip' rfl rfl (wt_is' (wt_guard' rfl rfl rfl) (beq_tf h1)) ?_
      refine sx_rd' (rd_pick_true' rfl h1 rfl) rfl rfl (wt_none' rfl) ?_
      refine sx_nil' ?_
      show TX E K3 _
      exact tx_weak' (sub_cons rfl (sub_cons rfl sub_nil)) (List.Perm.refl _) (List.Sublist.cons_cons _ List.Sublist.slnil) (hK3 true hp)
    · refine sx_rd' (rd_field' (off := 0) rfl Try.underlying79 rfl info76 rfl) rfl rfl (wt_is' (wt_guard' rfl rfl rfl) (beq_ff h1)) ?_
      refine sx_rd' (rd_field' (off := 1) rfl Try.underlying76 rfl info34 rfl) rfl rfl (wt_is' (wt_guard' rfl rfl rfl) (beq_ff h1)) ?_
      refine sx_rd' (rd_load' (i := 0) (o := 1) rfl ⟨rfl, rfl, rfl, (by simp only [addr_add_add])⟩ rfl flat34) rfl rfl (wt_is' (wt_guard' rfl rfl rfl) (beq_ff h1)) ?_
      refine sx_rd' (rd_field' (off := 3) rfl Try.underlying79 rfl info76 rfl) rfl rfl (wt_is' (wt_guard' rfl rfl rfl) (beq_ff h1)) ?_
      refine sx_rd' (rd_field' (off := 1) rfl Try.underlying76 rfl info34 rfl) rfl rfl (wt_is' (wt_guard' rfl rfl rfl) (beq_ff h1)) ?_
      refine sx_rd' (rd_load' (i := 0) (o := 4) rfl ⟨rfl, rfl, rfl, (by simp only [addr_add_add])⟩ rfl flat34) rfl rfl (wt_is' (wt_guard' rfl rfl rfl) (beq_ff h1)) ?_
      refine sx_rd' (rd_bin' rfl rfl eg_flt ru_fge) rfl rfl (wt_is' (wt_guard' rfl rfl rfl) (beq_ff h1)) ?_
      refine sx_rd' (rd_pick_false' rfl h1 rfl) rfl rfl (wt_none' rfl) ?_
      refine sx_nil' ?_
      show TX E K3 _
      exact tx_weak' (sub_cons rfl (sub_cons rfl sub_nil)) (List.Perm.refl _) (List.Sublist.cons_cons _ List.Sublist.slnil) (hK3 (fge a0_1 a0_4) hp)

def r3_Box_Contains_j1 (k : Nat) (x1 : Bool) : Option (Bool) :=
  some x1
def r3_Box_Contains_j6 (k : Nat) (x6 : Bool) : Option (Bool) :=
  some x6
def r3_Box_Contains_j5 (k : Nat) (a1_2 : Nat) (a0_5 : Nat) (x5 : Bool) : Option (Bool) :=
  br x5
    (r3_Box_Contains_j6 k (fle a1_2 a0_5))
    (r3_Box_Contains_j6 k false)
def r3_Box_Contains_j4 (k : Nat) (a1_2 : Nat) (a0_5 : Nat) (a0_2 : Nat) (x4 : Bool) : Option (Bool) :=
  br x4
    (r3_Box_Contains_j5 k a1_2 a0_5 (fle a0_2 a1_2))
    (r3_Box_Contains_j5 k a1_2 a0_5 false)
def r3_Box_Contains_j3 (k : Nat) (a1_2 : Nat) (a0_5 : Nat) (a0_2 : Nat) (a1_1 : Nat) (a0_4 : Nat) (x3 : Bool) : Option (Bool) :=
  br x3
    (r3_Box_Contains_j4 k a1_2 a0_5 a0_2 (fle a1_1 a0_4))
    (r3_Box_Contains_j4 k a1_2 a0_5 a0_2 false)
def r3_Box_Contains_j2 (k : Nat) (a1_2 : Nat) (a0_5 : Nat) (a0_2 : Nat) (a1_1 : Nat) (a0_4 : Nat) (a0_1 : Nat) (x2 : Bool) : Option (Bool) :=
  br x2
    (r3_Box_Contains_j3 k a1_2 a0_5 a0_2 a1_1 a0_4 (fle a0_1 a1_1))
    (r3_Box_Contains_j3 k a1_2 a0_5 a0_2 a1_1 a0_4 false)
def r3_Box_Contains (k : Nat) (a0_0 : Nat) (a0_1 : Nat) (a0_2 : Nat) (a0_3 : Nat) (a0_4 : Nat) (a0_5 : Nat) (a1_0 : Nat) (a1_1 : Nat) (a1_2 : Nat) : Option (Bool) :=
  (r3_Box_Empty k a0_0 a0_1 a0_2 a0_3 a0_4 a0_5) >>= fun r6 =>
  br r6
    (br ((feq a1_0 a0_0) && ((feq a1_1 a0_1) && ((feq a1_2 a0_2) && true)))
      (r3_Box_Contains_j1 k ((feq a1_0 a0_3) && ((feq a1_1 a0_4) && ((feq a1_2 a0_5) && true))))
      (r3_Box_Contains_j1 k false))
    (br (fle a0_0 a1_0)
      (r3_Box_Contains_j2 k a1_2 a0_5 a0_2 a1_1 a0_4 a0_1 (fle a1_0 a0_3))
      (r3_Box_Contains_j2 k a1_2 a0_5 a0_2 a1_1 a0_4 a0_1 false))

theorem r3_Box_Contains_sim {k : Nat} (a0_0 : Nat) (a0_1 : Nat) (a0_2 : Nat) (a0_3 : Nat) (a0_4 : Nat) (a0_5 : Nat) (a1_0 : Nat) (a1_1 : Nat) (a1_2 : Nat) {out : Bool} (hp : r3_Box_Contains k a0_0 a0_1 a0_2 a0_3 a0_4 a0_5 a1_0 a1_1 a1_2 = some out) : Fp Try.prog 37 [(Ag [(Vl (.float .f64 a0_0)), (Vl (.float .f64 a0_1)), (Vl (.float .f64 a0_2)), (Vl (.float .f64 a0_3)), (Vl (.float .f64 a0_4)), (Vl (.float .f64 a0_5))]), (Ag [(Vl (.float .f64 a1_0)), (Vl (.float .f64 a1_1)), (Vl (.float .f64 a1_2))])] (Vl (.bool out)) := by
  unfold r3_Box_Contains at hp
  refine fn_of Try.func37 rfl Try.ntmps37 rfl fun E hM => ?_
  refine cx_seq' fun K1 hK1 => ?_
  refine cx_region' ?_
  refine sx_box' rfl (lv_ag _) rfl rfl (wt_none' rfl) fun q2 => ?_
  refine sx_box' rfl (lv_ag _) rfl rfl (wt_none' rfl) fun q3 => ?_
  refine sx_rd' (rd_assign' rfl) rfl rfl (wt_none' rfl) ?_
  refine sx_nil' ?_
  show TX E K1 _
  refine tx_k' hK1 ?_
  refine cx_seq' fun K2 hK2 => ?_
  refine cx_seq' fun K3 hK3 => ?_
  refine cx_region' ?_
  refine sx_rd' (rd_load_agg' (i := 1) (o := 0) (nn := 6) rfl ⟨rfl, rfl, rfl, rfl⟩ rfl agg79 (l' := [(Vl (.float .f64 a0_0)), (Vl (.float .f64 a0_1)), (Vl (.float .f64 a0_2)), (Vl (.float .f64 a0_3)), (Vl (.float .f64 a0_4)), (Vl (.float .f64 a0_5))]) rfl) rfl rfl (wt_none' rfl) ?_
  obtain ⟨r6, hr6, hp⟩ := bind_some hp
  refine sx_call' (r3_Box_Empty_sim _ _ _ _ _ _ hr6) Try.func45 isn45 rfl rfl (List.Perm.refl _) rfl rfl (wt_none' rfl) fun _ => ?_
  refine sx_nil' ?_
  show TX E K3 _
  refine tx_k' hK3 ?_
  refine cx_cond' rfl (fun h1 => ?_) (fun h1 => ?_)
  · replace hp := (br_t h1).symm.trans hp
    refine cx_seq' fun K4 hK4 => ?_
    refine cx_region' ?_
    refine sx_rd' (rd_load_agg' (i := 0) (o := 0) (nn := 3) rfl ⟨rfl, rfl, rfl, rfl⟩ rfl agg76 (l' := [(Vl (.float .f64 a1_0)), (Vl (.float .f64 a1_1)), (Vl (.float .f64 a1_2))]) rfl) rfl rfl (wt_none' rfl) ?_
    refine sx_rd' (rd_field' (off := 0) rfl Try.underlying79 rfl info76 rfl) rfl rfl (wt_none' rfl) ?_
    refine sx_rd' (rd_load_agg' (i := 1) (o := 0) (nn := 3) rfl ⟨rfl, rfl, rfl, rfl⟩ rfl agg76 (l' := [(Vl (.float .f64 a0_0)), (Vl (.float .f64 a0_1)), (Vl (.float .f64 a0_2))]) rfl) rfl rfl (wt_none' rfl) ?_
    refine sx_rd' (rd_eq_ag' (us := [.float .f64 a1_0, .float .f64 a1_1, .float .f64 a1_2]) (vs := [.float .f64 a0_0, .float .f64 a0_1, .float .f64 a0_2]) rfl rfl eqg76 (eqt_struct Try.underlying76 held76 (eqf_cons (by rfl) (part_flat flat34 rfl) (part_flat flat34 rfl) (eqt_flt Try.underlying34) (eqf_cons (by rfl) (part_flat flat34 rfl) (part_flat flat34 rfl) (eqt_flt Try.underlying34) (eqf_cons (by rfl) (part_flat flat34 rfl) (part_flat flat34 rfl) (eqt_flt Try.underlying34) eqf_nil))))) rfl rfl (wt_none' rfl) ?_
    refine sx_rd' (rd_move' rfl) rfl rfl (wt_none' rfl) ?_
    refine sx_cutn' 5 (fun v1 => (⟨63, [], [(16, (Vl (.bool v1)))], []⟩ : St)) (fun v1 => r3_Box_Contains_j1 k v1 = some out) ?_ ?_
    · rintro x1 hp
      replace hp : r3_Box_Contains_j1 k x1 = some out := hp
      unfold r3_Box_Contains_j1 at hp
      refine sx_rd' (rd_assign' rfl) rfl rfl (wt_none' rfl) ?_
      refine sx_nil' ?_
      show TX E K4 _
      refine tx_k' hK4 ?_
      refine cx_retc' ?_
      cases hp
      exact tx_ret1' Try.results37 rfl () (rv_tmp' rfl) (keep_nil _)
    · intro K5 hK5
      rcases br_cases hp with ⟨h2, hp⟩ | ⟨h2, hp⟩
      · refine sx_rd' (rd_load_agg' (i := 0) (o := 0) (nn := 3) rfl ⟨rfl, rfl, rfl, rfl⟩ rfl agg76 (l' := [(Vl (.float .f64 a1_0)), (Vl (.float .f64 a1_1)), (Vl (.float .f64 a1_2))]) rfl) rfl rfl (wt_is' (wt_guard' rfl rfl rfl) (beq_tt h2)) ?_
        refine sx_rd' (rd_field' (off := 3) rfl Try.underlying79 rfl info76 rfl) rfl rfl (wt_is' (wt_guard' rfl rfl rfl) (beq_tt h2)) ?_
        refine sx_rd' (rd_load_agg' (i := 1) (o := 3) (nn := 3) rfl ⟨rfl, rfl, rfl, rfl⟩ rfl agg76 (l' := [(Vl (.float .f64 a0_3)), (Vl (.float .f64 a0_4)), (Vl (.float .f64 a0_5))]) rfl) rfl rfl (wt_is' (wt_guard' rfl rfl rfl) (beq_tt h2)) ?_
        refine sx_rd' (rd_eq_ag' (us := [.float .f64 a1_0, .float .f64 a1_1, .float .f64 a1_2]) (vs := [.float .f64 a0_3, .float .f64 a0_4, .float .f64 a0_5]) rfl rfl eqg76 (eqt_struct Try.underlying76 held76 (eqf_cons (by rfl) (part_flat flat34 rfl) (part_flat flat34 rfl) (eqt_flt Try.underlying34) (eqf_cons (by rfl) (part_flat flat34 rfl) (part_flat flat34 rfl) (eqt_flt Try.underlying34) (eqf_cons (by rfl) (part_flat flat34 rfl) (part_flat flat34 rfl) (eqt_flt Try.underlying34) eqf_nil))))) rfl rfl (wt_is' (wt_guard' rfl rfl rfl) (beq_tt h2)) ?_
        refine sx_rd' (rd_pick_true' rfl h2 rfl) rfl rfl (wt_none' rfl) ?_
        refine sx_nil' ?_
        show TX E K5 _
        exact tx_weak' (sub_cons rfl sub_nil) (List.Perm.refl _) (List.Sublist.cons _ (List.Sublist.cons _ List.Sublist.slnil)) (hK5 ((feq a1_0 a0_3) && ((feq a1_1 a0_4) && ((feq a1_2 a0_5) && true))) hp)
      · refine sx_skip' rfl rfl (wt_is' (wt_guard' rfl rfl rfl) (beq_ft h2)) ?_
        refine sx_skip' rfl rfl (wt_is' (wt_guard' rfl rfl rfl) (beq_ft h2)) ?_
        refine sx_skip' rfl rfl (wt_is' (wt_guard' rfl rfl rfl) (beq_ft h2)) ?_
        refine sx_skip' rfl rfl (wt_is' (wt_guard' rfl rfl rfl) (beq_ft h2)) ?_
        refine sx_rd' (rd_pick_false' rfl h2 rfl) rfl rfl (wt_none' rfl) ?_
        refine sx_nil' ?_
        show TX E K5 _
        exact tx_weak' (sub_cons rfl sub_nil) (List.Perm.refl _) (List.Sublist.cons _ (List.Sublist.cons _ List.Sublist.slnil)) (hK5 false hp)
  · replace hp := (br_f h1).symm.trans hp
    refine cx_skip' ?_
    show TX E K2 _
    refine tx_k' hK2 ?_
    refine cx_seq' fun K6 hK6 => ?_
    refine cx_region' ?_
    refine sx_rd' (rd_field' (off := 0) rfl Try.underlying79 rfl info76 rfl) rfl rfl (wt_none' rfl) ?_
    refine sx_rd' (rd_field' (off := 0) rfl Try.underlying76 rfl info34 rfl) rfl rfl (wt_none' rfl) ?_
    refine sx_rd' (rd_load' (i := 1) (o := 0) rfl ⟨rfl, rfl, rfl, (by simp only [addr_add_add])⟩ rfl flat34) rfl rfl (wt_none' rfl) ?_
    refine sx_rd' (rd_field' (off := 0) rfl Try.underlying76 rfl info34 rfl) rfl rfl (wt_none' rfl) ?_
    refine sx_rd' (rd_load' (i := 0) (o := 0) rfl ⟨rfl, rfl, rfl, rfl⟩ rfl flat34) rfl rfl (wt_none' rfl) ?_
    refine sx_rd' (rd_bin' rfl rfl eg_flt ru_fle) rfl rfl (wt_none' rfl) ?_
    refine sx_rd' (rd_move' rfl) rfl rfl (wt_none' rfl) ?_
    refine sx_cutn' 7 (fun v2 => (⟨63, [], [(2, (Vl (.pointer (some q2)))), (3, (Vl (.pointer (some q3)))), (30, (Vl (.bool v2)))], [⟨.pointer (some q3), [(Vl (.float .f64 a1_0)), (Vl (.float .f64 a1_1)), (Vl (.float .f64 a1_2))], 76, none⟩, ⟨.pointer (some q2), [(Vl (.float .f64 a0_0)), (Vl (.float .f64 a0_1)), (Vl (.float .f64 a0_2)), (Vl (.float .f64 a0_3)), (Vl (.float .f64 a0_4)), (Vl (.float .f64 a0_5))], 79, none⟩]⟩ : St)) (fun v2 => r3_Box_Contains_j2 k a1_2 a0_5 a0_2 a1_1 a0_4 a0_1 v2 = some out) ?_ ?_
    · rintro x2 hp
      replace hp : r3_Box_Contains_j2 k a1_2 a0_5 a0_2 a1_1 a0_4 a0_1 x2 = some out := hp
      unfold r3_Box_Contains_j2 at hp
      refine sx_rd' (rd_move' rfl) rfl rfl (wt_none' rfl) ?_
      refine sx_cutn' 7 (fun v3 => (⟨63, [], [(2, (Vl (.pointer (some q2)))), (3, (Vl (.pointer (some q3)))), (38, (Vl (.bool v3)))], [⟨.pointer (some q3), [(Vl (.float .f64 a1_0)), (Vl (.float .f64 a1_1)), (Vl (.float .f64 a1_2))], 76, none⟩, ⟨.pointer (some q2), [(Vl (.float .f64 a0_0)), (Vl (.float .f64 a0_1)), (Vl (.float .f64 a0_2)), (Vl (.float .f64 a0_3)), (Vl (.float .f64 a0_4)), (Vl (.float .f64 a0_5))], 79, none⟩]⟩ : St)) (fun v3 => r3_Box_Contains_j3 k a1_2 a0_5 a0_2 a1_1 a0_4 v3 = some out) ?_ ?_
      · rintro x3 hp
        replace hp : r3_Box_Contains_j3 k a1_2 a0_5 a0_2 a1_1 a0_4 x3 = some out := hp
        unfold r3_Box_Contains_j3 at hp
        refine sx_rd' (rd_move' rfl) rfl rfl (wt_none' rfl) ?_
        refine sx_cutn' 7 (fun v4 => (⟨63, [], [(2, (Vl (.pointer (some q2)))), (3, (Vl (.pointer (some q3)))), (46, (Vl (.bool v4)))], [⟨.pointer (some q3), [(Vl (.float .f64 a1_0)), (Vl (.float .f64 a1_1)), (Vl (.float .f64 a1_2))], 76, none⟩, ⟨.pointer (some q2), [(Vl (.float .f64 a0_0)), (Vl (.float .f64 a0_1)), (Vl (.float .f64 a0_2)), (Vl (.float .f64 a0_3)), (Vl (.float .f64 a0_4)), (Vl (.float .f64 a0_5))], 79, none⟩]⟩ : St)) (fun v4 => r3_Box_Contains_j4 k a1_2 a0_5 a0_2 v4 = some out) ?_ ?_
        · rintro x4 hp
          replace hp : r3_Box_Contains_j4 k a1_2 a0_5 a0_2 x4 = some out := hp
          unfold r3_Box_Contains_j4 at hp
          refine sx_rd' (rd_move' rfl) rfl rfl (wt_none' rfl) ?_
          refine sx_cutn' 7 (fun v5 => (⟨63, [], [(2, (Vl (.pointer (some q2)))), (3, (Vl (.pointer (some q3)))), (54, (Vl (.bool v5)))], [⟨.pointer (some q3), [(Vl (.float .f64 a1_0)), (Vl (.float .f64 a1_1)), (Vl (.float .f64 a1_2))], 76, none⟩, ⟨.pointer (some q2), [(Vl (.float .f64 a0_0)), (Vl (.float .f64 a0_1)), (Vl (.float .f64 a0_2)), (Vl (.float .f64 a0_3)), (Vl (.float .f64 a0_4)), (Vl (.float .f64 a0_5))], 79, none⟩]⟩ : St)) (fun v5 => r3_Box_Contains_j5 k a1_2 a0_5 v5 = some out) ?_ ?_
          · rintro x5 hp
            replace hp : r3_Box_Contains_j5 k a1_2 a0_5 x5 = some out := hp
            unfold r3_Box_Contains_j5 at hp
            refine sx_rd' (rd_move' rfl) rfl rfl (wt_none' rfl) ?_
            refine sx_cutn' 7 (fun v6 => (⟨63, [], [(62, (Vl (.bool v6)))], []⟩ : St)) (fun v6 => r3_Box_Contains_j6 k v6 = some out) ?_ ?_
            · rintro x6 hp
              replace hp : r3_Box_Contains_j6 k x6 = some out := hp
              unfold r3_Box_Contains_j6 at hp
              refine sx_rd' (rd_assign' rfl) rfl rfl (wt_none' rfl) ?_
              refine sx_nil' ?_
              show TX E K6 _
              refine tx_k' hK6 ?_
              refine cx_retc' ?_
              cases hp
              exact tx_ret1' Try.results37 rfl () (rv_tmp' rfl) (keep_nil _)
            · intro K11 hK11
              rcases br_cases hp with ⟨h7, hp⟩ | ⟨h7, hp⟩
              · refine sx_rd' (rd_field' (off := 2) rfl Try.underlying76 rfl info34 rfl) rfl rfl (wt_is' (wt_guard' rfl rfl rfl) (beq_tt h7)) ?_
                refine sx_rd' (rd_load' (i := 0) (o := 2) rfl ⟨rfl, rfl, rfl, rfl⟩ rfl flat34) rfl rfl (wt_is' (wt_guard' rfl rfl rfl) (beq_tt h7)) ?_
                refine sx_rd' (rd_field' (off := 3) rfl Try.underlying79 rfl info76 rfl) rfl rfl (wt_is' (wt_guard' rfl rfl rfl) (beq_tt h7)) ?_
                refine sx_rd' (rd_field' (off := 2) rfl Try.underlying76 rfl info34 rfl) rfl rfl (wt_is' (wt_guard' rfl rfl rfl) (beq_tt h7)) ?_
                refine sx_rd' (rd_load' (i := 1) (o := 5) rfl ⟨rfl, rfl, rfl, (by simp only [addr_add_add])⟩ rfl flat34) rfl rfl (wt_is' (wt_guard' rfl rfl rfl) (beq_tt h7)) ?_
                refine sx_rd' (rd_bin' rfl rfl eg_flt ru_fle) rfl rfl (wt_is' (wt_guard' rfl rfl rfl) (beq_tt h7)) ?_
                refine sx_rd' (rd_pick_true' rfl h7 rfl) rfl rfl (wt_none' rfl) ?_
                refine sx_nil' ?_
                show TX E K11 _
                exact tx_weak' (sub_cons rfl sub_nil) (List.Perm.refl _) (List.Sublist.cons _ (List.Sublist.cons _ List.Sublist.slnil)) (hK11 (fle a1_2 a0_5) hp)
              · refine sx_skip' rfl rfl (wt_is' (wt_guard' rfl rfl rfl) (beq_ft h7)) ?_
                refine sx_skip' rfl rfl (wt_is' (wt_guard' rfl rfl rfl) (beq_ft h7)) ?_
                refine sx_skip' rfl rfl (wt_is' (wt_guard' rfl rfl rfl) (beq_ft h7)) ?_
                refine sx_skip' rfl rfl (wt_is' (wt_guard' rfl rfl rfl) (beq_ft h7)) ?_
                refine sx_skip' rfl rfl (wt_is' (wt_guard' rfl rfl rfl) (beq_ft h7)) ?_
                refine sx_skip' rfl rfl (wt_is' (wt_guard' rfl rfl rfl) (beq_ft h7)) ?_
                refine sx_rd' (rd_pick_false' rfl h7 rfl) rfl rfl (wt_none' rfl) ?_
                refine sx_nil' ?_
                show TX E K11 _
                exact tx_weak' (sub_cons rfl sub_nil) (List.Perm.refl _) (List.Sublist.cons _ (List.Sublist.cons _ List.Sublist.slnil)) (hK11 false hp)
          · intro K10 hK10
            rcases br_cases hp with ⟨h6, hp⟩ | ⟨h6, hp⟩
            · refine sx_rd' (rd_field' (off := 0) rfl Try.underlying79 rfl info76 rfl) rfl rfl (wt_is' (wt_guard' rfl rfl rfl) (beq_tt h6)) ?_
              refine sx_rd' (rd_field' (off := 2) rfl Try.underlying76 rfl info34 rfl) rfl rfl (wt_is' (wt_guard' rfl rfl rfl) (beq_tt h6)) ?_
              refine sx_rd' (rd_load' (i := 1) (o := 2) rfl ⟨rfl, rfl, rfl, (by simp only [addr_add_add])⟩ rfl flat34) rfl rfl (wt_is' (wt_guard' rfl rfl rfl) (beq_tt h6)) ?_
              refine sx_rd' (rd_field' (off := 2) rfl Try.underlying76 rfl info34 rfl) rfl rfl (wt_is' (wt_guard' rfl rfl rfl) (beq_tt h6)) ?_
              refine sx_rd' (rd_load' (i := 0) (o := 2) rfl ⟨rfl, rfl, rfl, rfl⟩ rfl flat34) rfl rfl (wt_is' (wt_guard' rfl rfl rfl) (beq_tt h6)) ?_
              refine sx_rd' (rd_bin' rfl rfl eg_flt ru_fle) rfl rfl (wt_is' (wt_guard' rfl rfl rfl) (beq_tt h6)) ?_
              refine sx_rd' (rd_pick_true' rfl h6 rfl) rfl rfl (wt_none' rfl) ?_
              refine sx_nil' ?_
              show TX E K10 _
              exact tx_weak' (sub_cons rfl (sub_cons rfl (sub_cons rfl sub_nil))) (List.Perm.refl _) (List.Sublist.cons_cons _ (List.Sublist.cons_cons _ List.Sublist.slnil)) (hK10 (fle a0_2 a1_2) hp)
            · refine sx_skip' rfl rfl (wt_is' (wt_guard' rfl rfl rfl) (beq_ft h6)) ?_
              refine sx_skip' rfl rfl (wt_is' (wt_guard' rfl rfl rfl) (beq_ft h6)) ?_
              refine sx_skip' rfl rfl (wt_is' (wt_guard' rfl rfl rfl) (beq_ft h6)) ?_
              refine sx_skip' rfl rfl (wt_is' (wt_guard' rfl rfl rfl) (beq_ft h6)) ?_
              refine sx_skip' rfl rfl (wt_is' (wt_guard' rfl rfl rfl) (beq_ft h6)) ?_
              refine sx_skip' rfl rfl (wt_is' (wt_guard' rfl rfl rfl) (beq_ft h6)) ?_
              refine sx_rd' (rd_pick_false' rfl h6 rfl) rfl rfl (wt_none' rfl) ?_
              refine sx_nil' ?_
              show TX E K10 _
              exact tx_weak' (sub_cons rfl (sub_cons rfl (sub_cons rfl sub_nil))) (List.Perm.refl _) (List.Sublist.cons_cons _ (List.Sublist.cons_cons _ List.Sublist.slnil)) (hK10 false hp)
        · intro K9 hK9
          rcases br_cases hp with ⟨h5, hp⟩ | ⟨h5, hp⟩
          · refine sx_rd' (rd_field' (off := 1) rfl Try.underlying76 rfl info34 rfl) rfl rfl (wt_is' (wt_guard' rfl rfl rfl) (beq_tt h5)) ?_
            refine sx_rd' (rd_load' (i := 0) (o := 1) rfl ⟨rfl, rfl, rfl, rfl⟩ rfl flat34) rfl rfl (wt_is' (wt_guard' rfl rfl rfl) (beq_tt h5)) ?_
            refine sx_rd' (rd_field' (off := 3) rfl Try.underlying79 rfl info76 rfl) rfl rfl (wt_is' (wt_guard' rfl rfl rfl) (beq_tt h5)) ?_
            refine sx_rd' (rd_field' (off := 1) rfl Try.underlying76 rfl info34 rfl) rfl rfl (wt_is' (wt_guard' rfl rfl rfl) (beq_tt h5)) ?_
            refine sx_rd' (rd_load' (i := 1) (o := 4) rfl ⟨rfl, rfl, rfl, (by simp only [addr_add_add])⟩ rfl flat34) rfl rfl (wt_is' (wt_guard' rfl rfl rfl) (beq_tt h5)) ?_
            refine sx_rd' (rd_bin' rfl rfl eg_flt ru_fle) rfl rfl (wt_is' (wt_guard' rfl rfl rfl) (beq_tt h5)) ?_
            refine sx_rd' (rd_pick_true' rfl h5 rfl) rfl rfl (wt_none' rfl) ?_
            refine sx_nil' ?_
            show TX E K9 _
            exact tx_weak' (sub_cons rfl (sub_cons rfl (sub_cons rfl sub_nil))) (List.Perm.refl _) (List.Sublist.cons_cons _ (List.Sublist.cons_cons _ List.Sublist.slnil)) (hK9 (fle a1_1 a0_4) hp)
          · refine sx_skip' rfl rfl (wt_is' (wt_guard' rfl rfl rfl) (beq_ft h5)) ?_
            refine sx_skip' rfl rfl (wt_is' (wt_guard' rfl rfl rfl) (beq_ft h5)) ?_
            refine sx_skip' rfl rfl (wt_is' (wt_guard' rfl rfl rfl) (beq_ft h5)) ?_
            refine sx_skip' rfl rfl (wt_is' (wt_guard' rfl rfl rfl) (beq_ft h5)) ?_
            refine sx_skip' rfl rfl (wt_is' (wt_guard' rfl rfl rfl) (beq_ft h5)) ?_
            refine sx_skip' rfl rfl (wt_is' (wt_guard' rfl rfl rfl) (beq_ft h5)) ?_
            refine sx_rd' (rd_pick_false' rfl h5 rfl) rfl rfl (wt_none' rfl) ?_
            refine sx_nil' ?_
            show TX E K9 _
            exact tx_weak' (sub_cons rfl (sub_cons rfl (sub_cons rfl sub_nil))) (List.Perm.refl _) (List.Sublist.cons_cons _ (List.Sublist.cons_cons _ List.Sublist.slnil)) (hK9 false hp)
      · intro K8 hK8
        rcases br_cases hp with ⟨h4, hp⟩ | ⟨h4, hp⟩
        · refine sx_rd' (rd_field' (off := 0) rfl Try.underlying79 rfl info76 rfl) rfl rfl (wt_is' (wt_guard' rfl rfl rfl) (beq_tt h4)) ?_
          refine sx_rd' (rd_field' (off := 1) rfl Try.underlying76 rfl info34 rfl) rfl rfl (wt_is' (wt_guard' rfl rfl rfl) (beq_tt h4)) ?_
          refine sx_rd' (rd_load' (i := 1) (o := 1) rfl ⟨rfl, rfl, rfl, (by simp only [addr_add_add])⟩ rfl flat34) rfl rfl (wt_is' (wt_guard' rfl rfl rfl) (beq_tt h4)) ?_
          refine sx_rd' (rd_field' (off := 1) rfl Try.underlying76 rfl info34 rfl) rfl rfl (wt_is' (wt_guard' rfl rfl rfl) (beq_tt h4)) ?_
          refine sx_rd' (rd_load' (i := 0) (o := 1) rfl ⟨rfl, rfl, rfl, rfl⟩ rfl flat34) rfl rfl (wt_is' (wt_guard' rfl rfl rfl) (beq_tt h4)) ?_
          refine sx_rd' (rd_bin' rfl rfl eg_flt ru_fle) rfl rfl (wt_is' (wt_guard' rfl rfl rfl) (beq_tt h4)) ?_
          refine sx_rd' (rd_pick_true' rfl h4 rfl) rfl rfl (wt_none' rfl) ?_
          refine sx_nil' ?_
          show TX E K8 _
          exact tx_weak' (sub_cons rfl (sub_cons rfl (sub_cons rfl sub_nil))) (List.Perm.refl _) (List.Sublist.cons_cons _ (List.Sublist.cons_cons _ List.Sublist.slnil)) (hK8 (fle a0_1 a1_1) hp)
        · refine sx_skip' rfl rfl (wt_is' (wt_guard' rfl rfl rfl) (beq_ft h4)) ?_
          refine sx_skip' rfl rfl (wt_is' (wt_guard' rfl rfl rfl) (beq_ft h4)) ?_
          refine sx_skip' rfl rfl (wt_is' (wt_guard' rfl rfl rfl) (beq_ft h4)) ?_
          refine sx_skip' rfl rfl (wt_is' (wt_guard' rfl rfl rfl) (beq_ft h4)) ?_
          refine sx_skip' rfl rfl (wt_is' (wt_guard' rfl rfl rfl) (beq_ft h4)) ?_
          refine sx_skip' rfl rfl (wt_is' (wt_guard' rfl rfl rfl) (beq_ft h4)) ?_
          refine sx_rd' (rd_pick_false' rfl h4 rfl) rfl rfl (wt_none' rfl) ?_
          refine sx_nil' ?_
          show TX E K8 _
          exact tx_weak' (sub_cons rfl (sub_cons rfl (sub_cons rfl sub_nil))) (List.Perm.refl _) (List.Sublist.cons_cons _ (List.Sublist.cons_cons _ List.Sublist.slnil)) (hK8 false hp)
    · intro K7 hK7
      rcases br_cases hp with ⟨h3, hp⟩ | ⟨h3, hp⟩
      · refine sx_rd' (rd_field' (off := 0) rfl Try.underlying76 rfl info34 rfl) rfl rfl (wt_is' (wt_guard' rfl rfl rfl) (beq_tt h3)) ?_
        refine sx_rd' (rd_load' (i := 0) (o := 0) rfl ⟨rfl, rfl, rfl, rfl⟩ rfl flat34) rfl rfl (wt_is' (wt_guard' rfl rfl rfl) (beq_tt h3)) ?_
        refine sx_rd' (rd_field' (off := 3) rfl Try.underlying79 rfl info76 rfl) rfl rfl (wt_is' (wt_guard' rfl rfl rfl) (beq_tt h3)) ?_
        refine sx_rd' (rd_field' (off := 0) rfl Try.underlying76 rfl info34 rfl) rfl rfl (wt_is' (wt_guard' rfl rfl rfl) (beq_tt h3)) ?_
        refine sx_rd' (rd_load' (i := 1) (o := 3) rfl ⟨rfl, rfl, rfl, (by simp only [addr_add_add])⟩ rfl flat34) rfl rfl (wt_is' (wt_guard' rfl rfl rfl) (beq_tt h3)) ?_
        refine sx_rd' (rd_bin' rfl rfl eg_flt ru_fle) rfl rfl (wt_is' (wt_guard' rfl rfl rfl) (beq_tt h3)) ?_
        refine sx_rd' (rd_pick_true' rfl h3 rfl) rfl rfl (wt_none' rfl) ?_
        refine sx_nil' ?_
        show TX E K7 _
        exact tx_weak' (sub_cons rfl (sub_cons rfl (sub_cons rfl sub_nil))) (List.Perm.refl _) (List.Sublist.cons_cons _ (List.Sublist.cons_cons _ List.Sublist.slnil)) (hK7 (fle a1_0 a0_3) hp)
      · refine sx_skip' rfl rfl (wt_is' (wt_guard' rfl rfl rfl) (beq_ft h3)) ?_
        refine sx_skip' rfl rfl (wt_is' (wt_guard' rfl rfl rfl) (beq_ft h3)) ?_
        refine sx_skip' rfl rfl (wt_is' (wt_guard' rfl rfl rfl) (beq_ft h3)) ?_
        refine sx_skip' rfl rfl (wt_is' (wt_guard' rfl rfl rfl) (beq_ft h3)) ?_
        refine sx_skip' rfl rfl (wt_is' (wt_guard' rfl rfl rfl) (beq_ft h3)) ?_
        refine sx_skip' rfl rfl (wt_is' (wt_guard' rfl rfl rfl) (beq_ft h3)) ?_
        refine sx_rd' (rd_pick_false' rfl h3 rfl) rfl rfl (wt_none' rfl) ?_
        refine sx_nil' ?_
        show TX E K7 _
        exact tx_weak' (sub_cons rfl (sub_cons rfl (sub_cons rfl sub_nil))) (List.Perm.refl _) (List.Sublist.cons_cons _ (List.Sublist.cons_cons _ List.Sublist.slnil)) (hK7 false hp)

def impl_Contains3 (k : Nat) (a0_0 : Nat) (a0_1 : Nat) (a0_2 : Nat) (a0_3 : Nat) (a0_4 : Nat) (a0_5 : Nat) (a1_0 : Nat) (a1_1 : Nat) (a1_2 : Nat) : Option (Bool) :=
  (impl_vec3 k a0_0 a0_1 a0_2) >>= fun r7 =>
  (impl_vec3 k a0_3 a0_4 a0_5) >>= fun r10 =>
  (impl_vec3 k a1_0 a1_1 a1_2) >>= fun r13 =>
  (r3_Box_Contains k r7.1 r7.2.1 r7.2.2 r10.1 r10.2.1 r10.2.2 r13.1 r13.2.1 r13.2.2) >>= fun r14 =>
  some r14

theorem impl_Contains3_sim {k : Nat} (a0_0 : Nat) (a0_1 : Nat) (a0_2 : Nat) (a0_3 : Nat) (a0_4 : Nat) (a0_5 : Nat) (a1_0 : Nat) (a1_1 : Nat) (a1_2 : Nat) {out : Bool} (hp : impl_Contains3 k a0_0 a0_1 a0_2 a0_3 a0_4 a0_5 a1_0 a1_1 a1_2 = some out) : Fp Try.prog 19 [(Ag [(Vl (.float .f64 a0_0)), (Vl (.float .f64 a0_1)), (Vl (.float .f64 a0_2)), (Vl (.float .f64 a0_3)), (Vl (.float .f64 a0_4)), (Vl (.float .f64 a0_5))]), (Ag [(Vl (.float .f64 a1_0)), (Vl (.float .f64 a1_1)), (Vl (.float .f64 a1_2))])] (Vl (.bool out)) := by
  unfold impl_Contains3 at hp
  refine fn_of Try.func19 rfl Try.ntmps19 rfl fun E hM => ?_
  refine cx_seq' fun K1 hK1 => ?_
  refine cx_region' ?_
  refine sx_box' rfl (lv_ag _) rfl rfl (wt_none' rfl) fun q2 => ?_
  refine sx_box' rfl (lv_ag _) rfl rfl (wt_none' rfl) fun q3 => ?_
  refine sx_rd' (rd_assign' rfl) rfl rfl (wt_none' rfl) ?_
  refine sx_nil' ?_
  show TX E K1 _
  refine tx_k' hK1 ?_
  refine cx_seq' fun K2 hK2 => ?_
  refine cx_draw' mixed (by kernel_rfl) ?_
  refine qx_rd' (rd_field' (off := 0) rfl Try.underlying48 rfl info44 rfl) rfl rfl (wt_none' rfl) ?_
  refine qx_rd' (rd_load_agg' (i := 1) (o := 0) (nn := 3) rfl ⟨rfl, rfl, rfl, rfl⟩ rfl agg44 (l' := [(Vl (.float .f64 a0_0)), (Vl (.float .f64 a0_1)), (Vl (.float .f64 a0_2))]) rfl) rfl rfl (wt_none' rfl) ?_
  obtain ⟨r7, hr7, hp⟩ := bind_some hp
  refine qx_call' (impl_vec3_sim _ _ _ hr7) (det_ag (us := [.float .f64 r7.1, .float .f64 r7.2.1, .float .f64 r7.2.2]) rfl) Try.func36 isn36 rfl rfl rfl rfl (wt_none' rfl) ?_
  refine qx_rd' (rd_field' (off := 3) rfl Try.underlying48 rfl info44 rfl) rfl rfl (wt_none' rfl) ?_
  refine qx_rd' (rd_load_agg' (i := 1) (o := 3) (nn := 3) rfl ⟨rfl, rfl, rfl, rfl⟩ rfl agg44 (l' := [(Vl (.float .f64 a0_3)), (Vl (.float .f64 a0_4)), (Vl (.float .f64 a0_5))]) rfl) rfl rfl (wt_none' rfl) ?_
  obtain ⟨r10, hr10, hp⟩ := bind_some hp
  refine qx_call' (impl_vec3_sim _ _ _ hr10) (det_ag (us := [.float .f64 r10.1, .float .f64 r10.2.1, .float .f64 r10.2.2]) rfl) Try.func36 isn36 rfl rfl rfl rfl (wt_none' rfl) ?_
  refine qx_rd' (rd_build' (pls := [(0, 3), (3, 3)]) (qs := [(0, [(Vl (.float .f64 r7.1)), (Vl (.float .f64 r7.2.1)), (Vl (.float .f64 r7.2.2))]), (1, [(Vl (.float .f64 r10.1)), (Vl (.float .f64 r10.2.1)), (Vl (.float .f64 r10.2.2))])]) (r := [(Vl (.float .f64 r7.1)), (Vl (.float .f64 r7.2.1)), (Vl (.float .f64 r7.2.2)), (Vl (.float .f64 r10.1)), (Vl (.float .f64 r10.2.1)), (Vl (.float .f64 r10.2.2))]) ⟨rfl, ⟨_, rfl, (lv_ag _)⟩, ⟨rfl, ⟨_, rfl, (lv_ag _)⟩, trivial⟩⟩ Try.underlying79 has79 places79 info79 rfl rfl rfl) rfl rfl (wt_none' rfl) ?_
  refine qx_rd' (rd_load_agg' (i := 0) (o := 0) (nn := 3) rfl ⟨rfl, rfl, rfl, rfl⟩ rfl agg44 (l' := [(Vl (.float .f64 a1_0)), (Vl (.float .f64 a1_1)), (Vl (.float .f64 a1_2))]) rfl) rfl rfl (wt_none' rfl) ?_
  obtain ⟨r13, hr13, hp⟩ := bind_some hp
  refine qx_call' (impl_vec3_sim _ _ _ hr13) (det_ag (us := [.float .f64 r13.1, .float .f64 r13.2.1, .float .f64 r13.2.2]) rfl) Try.func36 isn36 rfl rfl rfl rfl (wt_none' rfl) ?_
  obtain ⟨r14, hr14, hp⟩ := bind_some hp
  refine qx_call' (r3_Box_Contains_sim _ _ _ _ _ _ _ _ _ hr14) (det_vl _) Try.func37 isn37 rfl rfl rfl rfl (wt_none' rfl) ?_
  refine qx_rd' (rd_assign' rfl) rfl rfl (wt_none' rfl) ?_
  refine qx_nil' ?_
  show TX E K2 _
  refine tx_k' hK2 ?_
  refine cx_retc' ?_
  cases hp
  exact tx_ret1' Try.results19 rfl () (rv_tmp' rfl) (keep_nil _)

def laws_FnBoxHas3_j9 (k : Nat) (a0_0 : Nat) (a0_1 : Nat) (a0_2 : Nat) (a1_0 : Nat) (a1_1 : Nat) (a1_2 : Nat) (a2_0 : Nat) (a2_1 : Nat) (a2_2 : Nat) (x9 : Bool) : Option (Bool) :=
  (laws_box3 k a0_0 a0_1 a0_2 a1_0 a1_1 a1_2) >>= fun r83 =>
  (impl_Contains3 k r83.1 r83.2.1 r83.2.2.1 r83.2.2.2.1 r83.2.2.2.2.1 r83.2.2.2.2.2 a2_0 a2_1 a2_2) >>= fun r85 =>
  some (r85 == x9)
def laws_FnBoxHas3_j8 (k : Nat) (a0_0 : Nat) (a0_1 : Nat) (a0_2 : Nat) (a1_0 : Nat) (a1_1 : Nat) (a1_2 : Nat) (a2_0 : Nat) (a2_1 : Nat) (a2_2 : Nat) (x8 : Bool) : Option (Bool) :=
  laws_FnBoxHas3_j9 k a0_0 a0_1 a0_2 a1_0 a1_1 a1_2 a2_0 a2_1 a2_2 x8
def laws_FnBoxHas3_j7 (k : Nat) (a2_0 : Nat) (a0_0 : Nat) (a2_1 : Nat) (a0_1 : Nat) (a2_2 : Nat) (a0_2 : Nat) (a1_0 : Nat) (a1_1 : Nat) (a1_2 : Nat) (x5 : Bool) (x7 : Bool) : Option (Bool) :=
  br x7
    (br ((feq a2_0 a0_0) && ((feq a2_1 a0_1) && ((feq a2_2 a0_2) && true)))
      (laws_FnBoxHas3_j8 k a0_0 a0_1 a0_2 a1_0 a1_1 a1_2 a2_0 a2_1 a2_2 ((feq a2_0 a1_0) && ((feq a2_1 a1_1) && ((feq a2_2 a1_2) && true))))
      (laws_FnBoxHas3_j8 k a0_0 a0_1 a0_2 a1_0 a1_1 a1_2 a2_0 a2_1 a2_2 false))
    (laws_FnBoxHas3_j9 k a0_0 a0_1 a0_2 a1_0 a1_1 a1_2 a2_0 a2_1 a2_2 x5)
def laws_FnBoxHas3_j6 (k : Nat) (a2_0 : Nat) (a0_0 : Nat) (a2_1 : Nat) (a0_1 : Nat) (a2_2 : Nat) (a0_2 : Nat) (a1_0 : Nat) (a1_1 : Nat) (a1_2 : Nat) (x5 : Bool) (x6 : Bool) : Option (Bool) :=
  br x6
    (laws_FnBoxHas3_j7 k a2_0 a0_0 a2_1 a0_1 a2_2 a0_2 a1_0 a1_1 a1_2 x5 true)
    (laws_FnBoxHas3_j7 k a2_0 a0_0 a2_1 a0_1 a2_2 a0_2 a1_0 a1_1 a1_2 x5 (fle a1_2 a0_2))
def laws_FnBoxHas3_j5 (k : Nat) (a1_0 : Nat) (a0_0 : Nat) (a2_0 : Nat) (a2_1 : Nat) (a0_1 : Nat) (a2_2 : Nat) (a0_2 : Nat) (a1_1 : Nat) (a1_2 : Nat) (x5 : Bool) : Option (Bool) :=
  br (fle a1_0 a0_0)
    (laws_FnBoxHas3_j6 k a2_0 a0_0 a2_1 a0_1 a2_2 a0_2 a1_0 a1_1 a1_2 x5 true)
    (laws_FnBoxHas3_j6 k a2_0 a0_0 a2_1 a0_1 a2_2 a0_2 a1_0 a1_1 a1_2 x5 (fle a1_1 a0_1))
def laws_FnBoxHas3_j4 (k : Nat) (a1_0 : Nat) (a0_0 : Nat) (a2_0 : Nat) (a2_1 : Nat) (a0_1 : Nat) (a2_2 : Nat) (a0_2 : Nat) (a1_1 : Nat) (a1_2 : Nat) (x4 : Bool) : Option (Bool) :=
  br x4
    (laws_FnBoxHas3_j5 k a1_0 a0_0 a2_0 a2_1 a0_1 a2_2 a0_2 a1_1 a1_2 (fle a2_2 a1_2))
    (laws_FnBoxHas3_j5 k a1_0 a0_0 a2_0 a2_1 a0_1 a2_2 a0_2 a1_1 a1_2 false)
def laws_FnBoxHas3_j3 (k : Nat) (a1_0 : Nat) (a0_0 : Nat) (a2_0 : Nat) (a2_1 : Nat) (a0_1 : Nat) (a2_2 : Nat) (a0_2 : Nat) (a1_1 : Nat) (a1_2 : Nat) (x3 : Bool) : Option (Bool) :=
  br x3
    (laws_FnBoxHas3_j4 k a1_0 a0_0 a2_0 a2_1 a0_1 a2_2 a0_2 a1_1 a1_2 (fle a0_2 a2_2))
    (laws_FnBoxHas3_j4 k a1_0 a0_0 a2_0 a2_1 a0_1 a2_2 a0_2 a1_1 a1_2 false)
def laws_FnBoxHas3_j2 (k : Nat) (a1_0 : Nat) (a0_0 : Nat) (a2_0 : Nat) (a2_1 : Nat) (a0_1 : Nat) (a2_2 : Nat) (a0_2 : Nat) (a1_1 : Nat) (a1_2 : Nat) (x2 : Bool) : Option (Bool) :=
  br x2
    (laws_FnBoxHas3_j3 k a1_0 a0_0 a2_0 a2_1 a0_1 a2_2 a0_2 a1_1 a1_2 (fle a2_1 a1_1))
    (laws_FnBoxHas3_j3 k a1_0 a0_0 a2_0 a2_1 a0_1 a2_2 a0_2 a1_1 a1_2 false)
def laws_FnBoxHas3_j1 (k : Nat) (a1_0 : Nat) (a0_0 : Nat) (a2_0 : Nat) (a2_1 : Nat) (a0_1 : Nat) (a2_2 : Nat) (a0_2 : Nat) (a1_1 : Nat) (a1_2 : Nat) (x1 : Bool) : Option (Bool) :=
  br x1
    (laws_FnBoxHas3_j2 k a1_0 a0_0 a2_0 a2_1 a0_1 a2_2 a0_2 a1_1 a1_2 (fle a0_1 a2_1))
    (laws_FnBoxHas3_j2 k a1_0 a0_0 a2_0 a2_1 a0_1 a2_2 a0_2 a1_1 a1_2 false)
def laws_FnBoxHas3 (k : Nat) (a0_0 : Nat) (a0_1 : Nat) (a0_2 : Nat) (a1_0 : Nat) (a1_1 : Nat) (a1_2 : Nat) (a2_0 : Nat) (a2_1 : Nat) (a2_2 : Nat) : Option (Bool) :=
  (laws_whole3 k ([(a0_0, a0_1, a0_2), (a1_0, a1_1, a1_2), (a2_0, a2_1, a2_2)])) >>= fun r12 =>
  br (!r12)
    (some true)
    (br (fle a0_0 a2_0)
      (laws_FnBoxHas3_j1 k a1_0 a0_0 a2_0 a2_1 a0_1 a2_2 a0_2 a1_1 a1_2 (fle a2_0 a1_0))
      (laws_FnBoxHas3_j1 k a1_0 a0_0 a2_0 a2_1 a0_1 a2_2 a0_2 a1_1 a1_2 false))

theorem laws_FnBoxHas3_sim {k : Nat} (a0_0 : Nat) (a0_1 : Nat) (a0_2 : Nat) (a1_0 : Nat) (a1_1 : Nat) (a1_2 : Nat) (a2_0 : Nat) (a2_1 : Nat) (a2_2 : Nat) {out : Bool} (hp : laws_FnBoxHas3 k a0_0 a0_1 a0_2 a1_0 a1_1 a1_2 a2_0 a2_1 a2_2 = some out) : Fp Try.prog 6 [(Ag [(Vl (.float .f64 a0_0)), (Vl (.float .f64 a0_1)), (Vl (.float .f64 a0_2))]), (Ag [(Vl (.float .f64 a1_0)), (Vl (.float .f64 a1_1)), (Vl (.float .f64 a1_2))]), (Ag [(Vl (.float .f64 a2_0)), (Vl (.float .f64 a2_1)), (Vl (.float .f64 a2_2))])] (Vl (.bool out)) := by
  unfold laws_FnBoxHas3 at hp
  refine fn_of Try.func6 rfl Try.ntmps6 rfl fun E hM => ?_
  refine cx_seq' fun K1 hK1 => ?_
  refine cx_region' ?_
  refine sx_box' rfl (lv_ag _) rfl rfl (wt_none' rfl) fun q3 => ?_
  refine sx_box' rfl (lv_ag _) rfl rfl (wt_none' rfl) fun q4 => ?_
  refine sx_box' rfl (lv_ag _) rfl rfl (wt_none' rfl) fun q5 => ?_
  refine sx_rd' (rd_assign' rfl) rfl rfl (wt_none' rfl) ?_
  refine sx_nil' ?_
  show TX E K1 _
  refine tx_k' hK1 ?_
  refine cx_seq' fun K2 hK2 => ?_
  refine cx_seq' fun K3 hK3 => ?_
  refine cx_region' ?_
  refine sx_rd' (rd_load_agg' (i := 2) (o := 0) (nn := 3) rfl ⟨rfl, rfl, rfl, rfl⟩ rfl agg44 (l' := [(Vl (.float .f64 a0_0)), (Vl (.float .f64 a0_1)), (Vl (.float .f64 a0_2))]) rfl) rfl rfl (wt_none' rfl) ?_
  refine sx_rd' (rd_load_agg' (i := 1) (o := 0) (nn := 3) rfl ⟨rfl, rfl, rfl, rfl⟩ rfl agg44 (l' := [(Vl (.float .f64 a1_0)), (Vl (.float .f64 a1_1)), (Vl (.float .f64 a1_2))]) rfl) rfl rfl (wt_none' rfl) ?_
  refine sx_rd' (rd_load_agg' (i := 0) (o := 0) (nn := 3) rfl ⟨rfl, rfl, rfl, rfl⟩ rfl agg44 (l' := [(Vl (.float .f64 a2_0)), (Vl (.float .f64 a2_1)), (Vl (.float .f64 a2_2))]) rfl) rfl rfl (wt_none' rfl) ?_
  refine sx_buildSlice' (qs := [(0, [(Vl (.float .f64 a0_0)), (Vl (.float .f64 a0_1)), (Vl (.float .f64 a0_2))]), (1, [(Vl (.float .f64 a1_0)), (Vl (.float .f64 a1_1)), (Vl (.float .f64 a1_2))]), (2, [(Vl (.float .f64 a2_0)), (Vl (.float .f64 a2_1)), (Vl (.float .f64 a2_2))])]) (r := [(Vl (.float .f64 a0_0)), (Vl (.float .f64 a0_1)), (Vl (.float .f64 a0_2)), (Vl (.float .f64 a1_0)), (Vl (.float .f64 a1_1)), (Vl (.float .f64 a1_2)), (Vl (.float .f64 a2_0)), (Vl (.float .f64 a2_1)), (Vl (.float .f64 a2_2))]) ⟨rfl, ⟨_, rfl, (lv_ag _)⟩, ⟨rfl, ⟨_, rfl, (lv_ag _)⟩, ⟨rfl, ⟨_, rfl, (lv_ag _)⟩, trivial⟩⟩⟩ Try.underlying74 info44 rfl (by decide) rfl rfl rfl rfl rfl rfl rfl (wt_none' rfl) fun q11 => ?_
  refine tx_freeze_row' 0 11 (K := K44) (xs := [(a0_0, a0_1, a0_2), (a1_0, a1_1, a1_2), (a2_0, a2_1, a2_2)]) (by decide) rfl rfl rfl ?_
  obtain ⟨r12, hr12, hp⟩ := bind_some hp
  refine sx_call' (laws_whole3_sim _ hr12) Try.func18 isn18 rfl rfl (List.Perm.refl _) rfl rfl (wt_none' rfl) fun _ => ?_
  refine sx_rd' (rd_un' rfl ru_not) rfl rfl (wt_none' rfl) ?_
  refine sx_nil' ?_
  show TX E K3 _
  refine tx_k' hK3 ?_
  refine cx_cond' rfl (fun h1 => ?_) (fun h1 => ?_)
  · replace hp := (br_t h1).symm.trans hp
    refine cx_seq' fun K4 hK4 => ?_
    refine cx_region' ?_
    refine sx_rd' (rd_assign' rfl) rfl rfl (wt_none' rfl) ?_
    refine sx_nil' ?_
    show TX E K4 _
    refine tx_k' hK4 ?_
    refine cx_retc' ?_
    cases hp
    exact tx_ret1' Try.results6 rfl () (rv_tmp' rfl) (keep_nil _)
  · replace hp := (br_f h1).symm.trans hp
    refine cx_skip' ?_
    show TX E K2 _
    refine tx_k' hK2 ?_
    refine cx_seq' fun K5 hK5 => ?_
    refine cx_region' ?_
    refine sx_rd' (rd_field' (off := 0) rfl Try.underlying44 rfl info34 rfl) rfl rfl (wt_none' rfl) ?_
    refine sx_rd' (rd_load' (i := 2) (o := 0) rfl ⟨rfl, rfl, rfl, rfl⟩ rfl flat34) rfl rfl (wt_none' rfl) ?_
    refine sx_rd' (rd_field' (off := 0) rfl Try.underlying44 rfl info34 rfl) rfl rfl (wt_none' rfl) ?_
    refine sx_rd' (rd_load' (i := 0) (o := 0) rfl ⟨rfl, rfl, rfl, rfl⟩ rfl flat34) rfl rfl (wt_none' rfl) ?_
    refine sx_rd' (rd_bin' rfl rfl eg_flt ru_fle) rfl rfl (wt_none' rfl) ?_
    refine sx_rd' (rd_move' rfl) rfl rfl (wt_none' rfl) ?_
    refine sx_cutn' 6 (fun v1 => (⟨88, [], [(3, (Vl (.pointer (some q3)))), (4, (Vl (.pointer (some q4)))), (5, (Vl (.pointer (some q5)))), (25, (Vl (.bool v1)))], [⟨.pointer (some q5), [(Vl (.float .f64 a2_0)), (Vl (.float .f64 a2_1)), (Vl (.float .f64 a2_2))], 44, none⟩, ⟨.pointer (some q4), [(Vl (.float .f64 a1_0)), (Vl (.float .f64 a1_1)), (Vl (.float .f64 a1_2))], 44, none⟩, ⟨.pointer (some q3), [(Vl (.float .f64 a0_0)), (Vl (.float .f64 a0_1)), (Vl (.float .f64 a0_2))], 44, none⟩]⟩ : St)) (fun v1 => laws_FnBoxHas3_j1 k a1_0 a0_0 a2_0 a2_1 a0_1 a2_2 a0_2 a1_1 a1_2 v1 = some out) ?_ ?_
    · rintro x1 hp
      replace hp : laws_FnBoxHas3_j1 k a1_0 a0_0 a2_0 a2_1 a0_1 a2_2 a0_2 a1_1 a1_2 x1 = some out := hp
      unfold laws_FnBoxHas3_j1 at hp
      refine sx_rd' (rd_move' rfl) rfl rfl (wt_none' rfl) ?_
      refine sx_cutn' 6 (fun v2 => (⟨88, [], [(3, (Vl (.pointer (some q3)))), (4, (Vl (.pointer (some q4)))), (5, (Vl (.pointer (some q5)))), (32, (Vl (.bool v2)))], [⟨.pointer (some q5), [(Vl (.float .f64 a2_0)), (Vl (.float .f64 a2_1)), (Vl (.float .f64 a2_2))], 44, none⟩, ⟨.pointer (some q4), [(Vl (.float .f64 a1_0)), (Vl (.float .f64 a1_1)), (Vl (.float .f64 a1_2))], 44, none⟩, ⟨.pointer (some q3), [(Vl (.float .f64 a0_0)), (Vl (.float .f64 a0_1)), (Vl (.float .f64 a0_2))], 44, none⟩]⟩ : St)) (fun v2 => laws_FnBoxHas3_j2 k a1_0 a0_0 a2_0 a2_1 a0_1 a2_2 a0_2 a1_1 a1_2 v2 = some out) ?_ ?_
      · rintro x2 hp
        replace hp : laws_FnBoxHas3_j2 k a1_0 a0_0 a2_0 a2_1 a0_1 a2_2 a0_2 a1_1 a1_2 x2 = some out := hp
        unfold laws_FnBoxHas3_j2 at hp
        refine sx_rd' (rd_move' rfl) rfl rfl (wt_none' rfl) ?_
        refine sx_cutn' 6 (fun v3 => (⟨88, [], [(3, (Vl (.pointer (some q3)))), (4, (Vl (.pointer (some q4)))), (5, (Vl (.pointer (some q5)))), (39, (Vl (.bool v3)))], [⟨.pointer (some q5), [(Vl (.float .f64 a2_0)), (Vl (.float .f64 a2_1)), (Vl (.float .f64 a2_2))], 44, none⟩, ⟨.pointer (some q4), [(Vl (.float .f64 a1_0)), (Vl (.float .f64 a1_1)), (Vl (.float .f64 a1_2))], 44, none⟩, ⟨.pointer (some q3), [(Vl (.float .f64 a0_0)), (Vl (.float .f64 a0_1)), (Vl (.float .f64 a0_2))], 44, none⟩]⟩ : St)) (fun v3 => laws_FnBoxHas3_j3 k a1_0 a0_0 a2_0 a2_1 a0_1 a2_2 a0_2 a1_1 a1_2 v3 = some out) ?_ ?_
        · rintro x3 hp
          replace hp : laws_FnBoxHas3_j3 k a1_0 a0_0 a2_0 a2_1 a0_1 a2_2 a0_2 a1_1 a1_2 x3 = some out := hp
          unfold laws_FnBoxHas3_j3 at hp
          refine sx_rd' (rd_move' rfl) rfl rfl (wt_none' rfl) ?_
          refine sx_cutn' 6 (fun v4 => (⟨88, [], [(3, (Vl (.pointer (some q3)))), (4, (Vl (.pointer (some q4)))), (5, (Vl (.pointer (some q5)))), (46, (Vl (.bool v4)))], [⟨.pointer (some q5), [(Vl (.float .f64 a2_0)), (Vl (.float .f64 a2_1)), (Vl (.float .f64 a2_2))], 44, none⟩, ⟨.pointer (some q4), [(Vl (.float .f64 a1_0)), (Vl (.float .f64 a1_1)), (Vl (.float .f64 a1_2))], 44, none⟩, ⟨.pointer (some q3), [(Vl (.float .f64 a0_0)), (Vl (.float .f64 a0_1)), (Vl (.float .f64 a0_2))], 44, none⟩]⟩ : St)) (fun v4 => laws_FnBoxHas3_j4 k a1_0 a0_0 a2_0 a2_1 a0_1 a2_2 a0_2 a1_1 a1_2 v4 = some out) ?_ ?_
          · rintro x4 hp
            replace hp : laws_FnBoxHas3_j4 k a1_0 a0_0 a2_0 a2_1 a0_1 a2_2 a0_2 a1_1 a1_2 x4 = some out := hp
            unfold laws_FnBoxHas3_j4 at hp
            refine sx_rd' (rd_move' rfl) rfl rfl (wt_none' rfl) ?_
            refine sx_cutn' 6 (fun v5 => (⟨88, [], [(3, (Vl (.pointer (some q3)))), (4, (Vl (.pointer (some q4)))), (5, (Vl (.pointer (some q5)))), (53, (Vl (.bool v5)))], [⟨.pointer (some q5), [(Vl (.float .f64 a2_0)), (Vl (.float .f64 a2_1)), (Vl (.float .f64 a2_2))], 44, none⟩, ⟨.pointer (some q4), [(Vl (.float .f64 a1_0)), (Vl (.float .f64 a1_1)), (Vl (.float .f64 a1_2))], 44, none⟩, ⟨.pointer (some q3), [(Vl (.float .f64 a0_0)), (Vl (.float .f64 a0_1)), (Vl (.float .f64 a0_2))], 44, none⟩]⟩ : St)) (fun v5 => laws_FnBoxHas3_j5 k a1_0 a0_0 a2_0 a2_1 a0_1 a2_2 a0_2 a1_1 a1_2 v5 = some out) ?_ ?_
            · rintro x5 hp
              replace hp : laws_FnBoxHas3_j5 k a1_0 a0_0 a2_0 a2_1 a0_1 a2_2 a0_2 a1_1 a1_2 x5 = some out := hp
              unfold laws_FnBoxHas3_j5 at hp
              refine sx_rd' (rd_assign' rfl) rfl rfl (wt_none' rfl) ?_
              refine sx_nil' ?_
              show TX E K5 _
              refine tx_k' hK5 ?_
              refine cx_join' (fun v9 => (⟨88, [], [(3, (Vl (.pointer (some q3)))), (4, (Vl (.pointer (some q4)))), (5, (Vl (.pointer (some q5)))), (7, (Vl (.bool v9)))], [⟨.pointer (some q5), [(Vl (.float .f64 a2_0)), (Vl (.float .f64 a2_1)), (Vl (.float .f64 a2_2))], 44, none⟩, ⟨.pointer (some q4), [(Vl (.float .f64 a1_0)), (Vl (.float .f64 a1_1)), (Vl (.float .f64 a1_2))], 44, none⟩, ⟨.pointer (some q3), [(Vl (.float .f64 a0_0)), (Vl (.float .f64 a0_1)), (Vl (.float .f64 a0_2))], 44, none⟩]⟩ : St)) (fun v9 => laws_FnBoxHas3_j9 k a0_0 a0_1 a0_2 a1_0 a1_1 a1_2 a2_0 a2_1 a2_2 v9 = some out) ?_ ?_
              · rintro x9 hp
                replace hp : laws_FnBoxHas3_j9 k a0_0 a0_1 a0_2 a1_0 a1_1 a1_2 a2_0 a2_1 a2_2 x9 = some out := hp
                unfold laws_FnBoxHas3_j9 at hp
                refine cx_seq' fun K16 hK16 => ?_
                refine cx_draw' mixed (by kernel_rfl) ?_
                refine qx_rd' (rd_load_agg' (i := 2) (o := 0) (nn := 3) rfl ⟨rfl, rfl, rfl, rfl⟩ rfl agg44 (l' := [(Vl (.float .f64 a0_0)), (Vl (.float .f64 a0_1)), (Vl (.float .f64 a0_2))]) rfl) rfl rfl (wt_none' rfl) ?_
                refine qx_rd' (rd_load_agg' (i := 1) (o := 0) (nn := 3) rfl ⟨rfl, rfl, rfl, rfl⟩ rfl agg44 (l' := [(Vl (.float .f64 a1_0)), (Vl (.float .f64 a1_1)), (Vl (.float .f64 a1_2))]) rfl) rfl rfl (wt_none' rfl) ?_
                obtain ⟨r83, hr83, hp⟩ := bind_some hp
                refine qx_call' (laws_box3_sim _ _ _ _ _ _ hr83) (det_ag (us := [.float .f64 r83.1, .float .f64 r83.2.1, .float .f64 r83.2.2.1, .float .f64 r83.2.2.2.1, .float .f64 r83.2.2.2.2.1, .float .f64 r83.2.2.2.2.2]) rfl) Try.func20 isn20 rfl rfl rfl rfl (wt_none' rfl) ?_
                refine qx_rd' (rd_load_agg' (i := 0) (o := 0) (nn := 3) rfl ⟨rfl, rfl, rfl, rfl⟩ rfl agg44 (l' := [(Vl (.float .f64 a2_0)), (Vl (.float .f64 a2_1)), (Vl (.float .f64 a2_2))]) rfl) rfl rfl (wt_none' rfl) ?_
                obtain ⟨r85, hr85, hp⟩ := bind_some hp
                refine qx_call' (impl_Contains3_sim _ _ _ _ _ _ _ _ _ hr85) (det_vl _) Try.func19 isn19 rfl rfl rfl rfl (wt_none' rfl) ?_
                refine qx_rd' (rd_move' rfl) rfl rfl (wt_none' rfl) ?_
                refine qx_rd' (rd_bin' rfl rfl eg_bool (ru_beq Try.underlying4)) rfl rfl (wt_none' rfl) ?_
                refine qx_rd' (rd_assign' rfl) rfl rfl (wt_none' rfl) ?_
                refine qx_nil' ?_
                show TX E K16 _
                refine tx_k' hK16 ?_
                refine cx_retc' ?_
                cases hp
                exact tx_ret1' Try.results6 rfl () (rv_tmp' rfl) (keep_nil _)
              · intro K11 hK11
                refine cx_seq' fun K12 hK12 => ?_
                refine cx_region' ?_
                refine sx_rd' (rd_field' (off := 0) rfl Try.underlying44 rfl info34 rfl) rfl rfl (wt_none' rfl) ?_
                refine sx_rd' (rd_load' (i := 1) (o := 0) rfl ⟨rfl, rfl, rfl, rfl⟩ rfl flat34) rfl rfl (wt_none' rfl) ?_
                refine sx_rd' (rd_field' (off := 0) rfl Try.underlying44 rfl info34 rfl) rfl rfl (wt_none' rfl) ?_
                refine sx_rd' (rd_load' (i := 2) (o := 0) rfl ⟨rfl, rfl, rfl, rfl⟩ rfl flat34) rfl rfl (wt_none' rfl) ?_
                refine sx_rd' (rd_bin' rfl rfl eg_flt ru_fle) rfl rfl (wt_none' rfl) ?_
                refine sx_rd' (rd_move' rfl) rfl rfl (wt_none' rfl) ?_
                refine sx_cutn' 6 (fun v6 => (⟨88, [], [(3, (Vl (.pointer (some q3)))), (4, (Vl (.pointer (some q4)))), (5, (Vl (.pointer (some q5)))), (7, (Vl (.bool x5))), (65, (Vl (.bool v6)))], [⟨.pointer (some q5), [(Vl (.float .f64 a2_0)), (Vl (.float .f64 a2_1)), (Vl (.float .f64 a2_2))], 44, none⟩, ⟨.pointer (some q4), [(Vl (.float .f64 a1_0)), (Vl (.float .f64 a1_1)), (Vl (.float .f64 a1_2))], 44, none⟩, ⟨.pointer (some q3), [(Vl (.float .f64 a0_0)), (Vl (.float .f64 a0_1)), (Vl (.float .f64 a0_2))], 44, none⟩]⟩ : St)) (fun v6 => laws_FnBoxHas3_j6 k a2_0 a0_0 a2_1 a0_1 a2_2 a0_2 a1_0 a1_1 a1_2 x5 v6 = some out) ?_ ?_
                · rintro x6 hp
                  replace hp : laws_FnBoxHas3_j6 k a2_0 a0_0 a2_1 a0_1 a2_2 a0_2 a1_0 a1_1 a1_2 x5 x6 = some out := hp
                  unfold laws_FnBoxHas3_j6 at hp
                  refine sx_rd' (rd_move' rfl) rfl rfl (wt_none' rfl) ?_
                  refine sx_cutn' 6 (fun v7 => (⟨88, [], [(3, (Vl (.pointer (some q3)))), (4, (Vl (.pointer (some q4)))), (5, (Vl (.pointer (some q5)))), (7, (Vl (.bool x5))), (72, (Vl (.bool v7)))], [⟨.pointer (some q5), [(Vl (.float .f64 a2_0)), (Vl (.float .f64 a2_1)), (Vl (.float .f64 a2_2))], 44, none⟩, ⟨.pointer (some q4), [(Vl (.float .f64 a1_0)), (Vl (.float .f64 a1_1)), (Vl (.float .f64 a1_2))], 44, none⟩, ⟨.pointer (some q3), [(Vl (.float .f64 a0_0)), (Vl (.float .f64 a0_1)), (Vl (.float .f64 a0_2))], 44, none⟩]⟩ : St)) (fun v7 => laws_FnBoxHas3_j7 k a2_0 a0_0 a2_1 a0_1 a2_2 a0_2 a1_0 a1_1 a1_2 x5 v7 = some out) ?_ ?_
                  · rintro x7 hp
                    replace hp : laws_FnBoxHas3_j7 k a2_0 a0_0 a2_1 a0_1 a2_2 a0_2 a1_0 a1_1 a1_2 x5 x7 = some out := hp
                    unfold laws_FnBoxHas3_j7 at hp
                    refine sx_nil' ?_
                    show TX E K12 _
                    refine tx_k' hK12 ?_
                    refine cx_cond' rfl (fun h9 => ?_) (fun h9 => ?_)
                    · replace hp := (br_t h9).symm.trans hp
                      refine cx_region' ?_
                      refine sx_rd' (rd_load_agg' (i := 0) (o := 0) (nn := 3) rfl ⟨rfl, rfl, rfl, rfl⟩ rfl agg44 (l' := [(Vl (.float .f64 a2_0)), (Vl (.float .f64 a2_1)), (Vl (.float .f64 a2_2))]) rfl) rfl rfl (wt_none' rfl) ?_
                      refine sx_rd' (rd_load_agg' (i := 2) (o := 0) (nn := 3) rfl ⟨rfl, rfl, rfl, rfl⟩ rfl agg44 (l' := [(Vl (.float .f64 a0_0)), (Vl (.float .f64 a0_1)), (Vl (.float .f64 a0_2))]) rfl) rfl rfl (wt_none' rfl) ?_
                      refine sx_rd' (rd_eq_ag' (us := [.float .f64 a2_0, .float .f64 a2_1, .float .f64 a2_2]) (vs := [.float .f64 a0_0, .float .f64 a0_1, .float .f64 a0_2]) rfl rfl eqg44 (eqt_struct Try.underlying44 held44 (eqf_cons (by rfl) (part_flat flat34 rfl) (part_flat flat34 rfl) (eqt_flt Try.underlying34) (eqf_cons (by rfl) (part_flat flat34 rfl) (part_flat flat34 rfl) (eqt_flt Try.underlying34) (eqf_cons (by rfl) (part_flat flat34 rfl) (part_flat flat34 rfl) (eqt_flt Try.underlying34) eqf_nil))))) rfl rfl (wt_none' rfl) ?_
                      refine sx_rd' (rd_move' rfl) rfl rfl (wt_none' rfl) ?_
                      refine sx_cutn' 4 (fun v8 => (⟨88, [], [(3, (Vl (.pointer (some q3)))), (4, (Vl (.pointer (some q4)))), (5, (Vl (.pointer (some q5)))), (80, (Vl (.bool v8)))], [⟨.pointer (some q5), [(Vl (.float .f64 a2_0)), (Vl (.float .f64 a2_1)), (Vl (.float .f64 a2_2))], 44, none⟩, ⟨.pointer (some q4), [(Vl (.float .f64 a1_0)), (Vl (.float .f64 a1_1)), (Vl (.float .f64 a1_2))], 44, none⟩, ⟨.pointer (some q3), [(Vl (.float .f64 a0_0)), (Vl (.float .f64 a0_1)), (Vl (.float .f64 a0_2))], 44, none⟩]⟩ : St)) (fun v8 => laws_FnBoxHas3_j8 k a0_0 a0_1 a0_2 a1_0 a1_1 a1_2 a2_0 a2_1 a2_2 v8 = some out) ?_ ?_
                      · rintro x8 hp
                        replace hp : laws_FnBoxHas3_j8 k a0_0 a0_1 a0_2 a1_0 a1_1 a1_2 a2_0 a2_1 a2_2 x8 = some out := hp
                        unfold laws_FnBoxHas3_j8 at hp
                        refine sx_rd' (rd_assign' rfl) rfl rfl (wt_none' rfl) ?_
                        refine sx_nil' ?_
                        show TX E K11 _
                        exact tx_weak' (sub_cons rfl (sub_cons rfl (sub_cons rfl (sub_cons rfl sub_nil)))) (List.Perm.refl _) (List.Sublist.cons_cons _ (List.Sublist.cons_cons _ (List.Sublist.cons_cons _ List.Sublist.slnil))) (hK11 x8 hp)
                      · intro K15 hK15
                        rcases br_cases hp with ⟨h10, hp⟩ | ⟨h10, hp⟩
                        · refine sx_rd' (rd_load_agg' (i := 0) (o := 0) (nn := 3) rfl ⟨rfl, rfl, rfl, rfl⟩ rfl agg44 (l' := [(Vl (.float .f64 a2_0)), (Vl (.float .f64 a2_1)), (Vl (.float .f64 a2_2))]) rfl) rfl rfl (wt_is' (wt_guard' rfl rfl rfl) (beq_tt h10)) ?_
                          refine sx_rd' (rd_load_agg' (i := 1) (o := 0) (nn := 3) rfl ⟨rfl, rfl, rfl, rfl⟩ rfl agg44 (l' := [(Vl (.float .f64 a1_0)), (Vl (.float .f64 a1_1)), (Vl (.float .f64 a1_2))]) rfl) rfl rfl (wt_is' (wt_guard' rfl rfl rfl) (beq_tt h10)) ?_
                          refine sx_rd' (rd_eq_ag' (us := [.float .f64 a2_0, .float .f64 a2_1, .float .f64 a2_2]) (vs := [.float .f64 a1_0, .float .f64 a1_1, .float .f64 a1_2]) rfl rfl eqg44 (eqt_struct Try.underlying44 held44 (eqf_cons (by rfl) (part_flat flat34 rfl) (part_flat flat34 rfl) (eqt_flt Try.underlying34) (eqf_cons (by rfl) (part_flat flat34 rfl) (part_flat flat34 rfl) (eqt_flt Try.underlying34) (eqf_cons (by rfl) (part_flat flat34 rfl) (part_flat flat34 rfl) (eqt_flt Try.underlying34) eqf_nil))))) rfl rfl (wt_is' (wt_guard' rfl rfl rfl) (beq_tt h10)) ?_
                          refine sx_rd' (rd_pick_true' rfl h10 rfl) rfl rfl (wt_none' rfl) ?_
                          refine sx_nil' ?_
                          show TX E K15 _
                          exact tx_weak' (sub_cons rfl (sub_cons rfl (sub_cons rfl (sub_cons rfl sub_nil)))) (List.Perm.refl _) (List.Sublist.cons_cons _ (List.Sublist.cons_cons _ (List.Sublist.cons_cons _ List.Sublist.slnil))) (hK15 ((feq a2_0 a1_0) && ((feq a2_1 a1_1) && ((feq a2_2 a1_2) && true))) hp)
                        · refine sx_skip' rfl rfl (wt_is' (wt_guard' rfl rfl rfl) (beq_ft h10)) ?_
                          refine sx_skip' rfl rfl (wt_is' (wt_guard' rfl rfl rfl) (beq_ft h10)) ?_
                          refine sx_skip' rfl rfl (wt_is' (wt_guard' rfl rfl rfl) (beq_ft h10)) ?_
                          refine sx_rd' (rd_pick_false' rfl h10 rfl) rfl rfl (wt_none' rfl) ?_
                          refine sx_nil' ?_
                          show TX E K15 _
                          exact tx_weak' (sub_cons rfl (sub_cons rfl (sub_cons rfl (sub_cons rfl sub_nil)))) (List.Perm.refl _) (List.Sublist.cons_cons _ (List.Sublist.cons_cons _ (List.Sublist.cons_cons _ List.Sublist.slnil))) (hK15 false hp)
                    · replace hp := (br_f h9).symm.trans hp
                      refine cx_skip' ?_
                      show TX E K11 _
                      exact tx_weak' (sub_cons rfl (sub_cons rfl (sub_cons rfl (sub_cons rfl sub_nil)))) (List.Perm.refl _) (List.Sublist.cons_cons _ (List.Sublist.cons_cons _ (List.Sublist.cons_cons _ List.Sublist.slnil))) (hK11 x5 hp)
                  · intro K14 hK14
                    rcases br_cases hp with ⟨h8, hp⟩ | ⟨h8, hp⟩
                    · refine sx_skip' rfl rfl (wt_is' (wt_guard' rfl rfl rfl) (beq_tf h8)) ?_
                      refine sx_skip' rfl rfl (wt_is' (wt_guard' rfl rfl rfl) (beq_tf h8)) ?_
                      refine sx_skip' rfl rfl (wt_is' (wt_guard' rfl rfl rfl) (beq_tf h8)) ?_
                      refine sx_skip' rfl rfl (wt_is' (wt_guard' rfl rfl rfl) (beq_tf h8)) ?_
                      refine sx_skip' rfl rfl (wt_is' (wt_guard' rfl rfl rfl) (beq_tf h8)) ?_
                      refine sx_rd' (rd_pick_true' rfl h8 rfl) rfl rfl (wt_none' rfl) ?_
                      refine sx_nil' ?_
                      show TX E K14 _
                      exact tx_weak' (sub_cons rfl (sub_cons rfl (sub_cons rfl (sub_cons rfl (sub_cons rfl sub_nil))))) (List.Perm.refl _) (List.Sublist.cons_cons _ (List.Sublist.cons_cons _ (List.Sublist.cons_cons _ List.Sublist.slnil))) (hK14 true hp)
                    · refine sx_rd' (rd_field' (off := 2) rfl Try.underlying44 rfl info34 rfl) rfl rfl (wt_is' (wt_guard' rfl rfl rfl) (beq_ff h8)) ?_
                      refine sx_rd' (rd_load' (i := 1) (o := 2) rfl ⟨rfl, rfl, rfl, rfl⟩ rfl flat34) rfl rfl (wt_is' (wt_guard' rfl rfl rfl) (beq_ff h8)) ?_
                      refine sx_rd' (rd_field' (off := 2) rfl Try.underlying44 rfl info34 rfl) rfl rfl (wt_is' (wt_guard' rfl rfl rfl) (beq_ff h8)) ?_
                      refine sx_rd' (rd_load' (i := 2) (o := 2) rfl ⟨rfl, rfl, rfl, rfl⟩ rfl flat34) rfl rfl (wt_is' (wt_guard' rfl rfl rfl) (beq_ff h8)) ?_
                      refine sx_rd' (rd_bin' rfl rfl eg_flt ru_fle) rfl rfl (wt_is' (wt_guard' rfl rfl rfl) (beq_ff h8)) ?_
                      refine sx_rd' (rd_pick_false' rfl h8 rfl) rfl rfl (wt_none' rfl) ?_
                      refine sx_nil' ?_
                      show TX E K14 _
                      exact tx_weak' (sub_cons rfl (sub_cons rfl (sub_cons rfl (sub_cons rfl (sub_cons rfl sub_nil))))) (List.Perm.refl _) (List.Sublist.cons_cons _ (List.Sublist.cons_cons _ (List.Sublist.cons_cons _ List.Sublist.slnil))) (hK14 (fle a1_2 a0_2) hp)
                · intro K13 hK13
                  rcases br_cases hp with ⟨h7, hp⟩ | ⟨h7, hp⟩
                  · refine sx_skip' rfl rfl (wt_is' (wt_guard' rfl rfl rfl) (beq_tf h7)) ?_
                    refine sx_skip' rfl rfl (wt_is' (wt_guard' rfl rfl rfl) (beq_tf h7)) ?_
                    refine sx_skip' rfl rfl (wt_is' (wt_guard' rfl rfl rfl) (beq_tf h7)) ?_
                    refine sx_skip' rfl rfl (wt_is' (wt_guard' rfl rfl rfl) (beq_tf h7)) ?_
                    refine sx_skip' rfl rfl (wt_is' (wt_guard' rfl rfl rfl) (beq_tf h7)) ?_
                    refine sx_rd' (rd_pick_true' rfl h7 rfl) rfl rfl (wt_none' rfl) ?_
                    refine sx_nil' ?_
                    show TX E K13 _
                    exact tx_weak' (sub_cons rfl (sub_cons rfl (sub_cons rfl (sub_cons rfl (sub_cons rfl sub_nil))))) (List.Perm.refl _) (List.Sublist.cons_cons _ (List.Sublist.cons_cons _ (List.Sublist.cons_cons _ List.Sublist.slnil))) (hK13 true hp)
                  · refine sx_rd' (rd_field' (off := 1) rfl Try.underlying44 rfl info34 rfl) rfl rfl (wt_is' (wt_guard' rfl rfl rfl) (beq_ff h7)) ?_
                    refine sx_rd' (rd_load' (i := 1) (o := 1) rfl ⟨rfl, rfl, rfl, rfl⟩ rfl flat34) rfl rfl (wt_is' (wt_guard' rfl rfl rfl) (beq_ff h7)) ?_
                    refine sx_rd' (rd_field' (off := 1) rfl Try.underlying44 rfl info34 rfl) rfl rfl (wt_is' (wt_guard' rfl rfl rfl) (beq_ff h7)) ?_
                    refine sx_rd' (rd_load' (i := 2) (o := 1) rfl ⟨rfl, rfl, rfl, rfl⟩ rfl flat34) rfl rfl (wt_is' (wt_guard' rfl rfl rfl) (beq_ff h7)) ?_
                    refine sx_rd' (rd_bin' rfl rfl eg_flt ru_fle) rfl rfl (wt_is' (wt_guard' rfl rfl rfl) (beq_ff h7)) ?_
                    refine sx_rd' (rd_pick_false' rfl h7 rfl) rfl rfl (wt_none' rfl) ?_
                    refine sx_nil' ?_
                    show TX E K13 _
                    exact tx_weak' (sub_cons rfl (sub_cons rfl (sub_cons rfl (sub_cons rfl (sub_cons rfl sub_nil))))) (List.Perm.refl _) (List.Sublist.cons_cons _ (List.Sublist.cons_cons _ (List.Sublist.cons_cons _ List.Sublist.slnil))) (hK13 (fle a1_1 a0_1) hp)
            · intro K10 hK10
              rcases br_cases hp with ⟨h6, hp⟩ | ⟨h6, hp⟩
              · refine sx_rd' (rd_field' (off := 2) rfl Try.underlying44 rfl info34 rfl) rfl rfl (wt_is' (wt_guard' rfl rfl rfl) (beq_tt h6)) ?_
                refine sx_rd' (rd_load' (i := 0) (o := 2) rfl ⟨rfl, rfl, rfl, rfl⟩ rfl flat34) rfl rfl (wt_is' (wt_guard' rfl rfl rfl) (beq_tt h6)) ?_
                refine sx_rd' (rd_field' (off := 2) rfl Try.underlying44 rfl info34 rfl) rfl rfl (wt_is' (wt_guard' rfl rfl rfl) (beq_tt h6)) ?_
                refine sx_rd' (rd_load' (i := 1) (o := 2) rfl ⟨rfl, rfl, rfl, rfl⟩ rfl flat34) rfl rfl (wt_is' (wt_guard' rfl rfl rfl) (beq_tt h6)) ?_
                refine sx_rd' (rd_bin' rfl rfl eg_flt ru_fle) rfl rfl (wt_is' (wt_guard' rfl rfl rfl) (beq_tt h6)) ?_
                refine sx_rd' (rd_pick_true' rfl h6 rfl) rfl rfl (wt_none' rfl) ?_
                refine sx_nil' ?_
                show TX E K10 _
                exact tx_weak' (sub_cons rfl (sub_cons rfl (sub_cons rfl (sub_cons rfl sub_nil)))) (List.Perm.refl _) (List.Sublist.cons_cons _ (List.Sublist.cons_cons _ (List.Sublist.cons_cons _ List.Sublist.slnil))) (hK10 (fle a2_2 a1_2) hp)
              · refine sx_skip' rfl rfl (wt_is' (wt_guard' rfl rfl rfl) (beq_ft h6)) ?_
                refine sx_skip' rfl rfl (wt_is' (wt_guard' rfl rfl rfl) (beq_ft h6)) ?_
                refine sx_skip' rfl rfl (wt_is' (wt_guard' rfl rfl rfl) (beq_ft h6)) ?_
                refine sx_skip' rfl rfl (wt_is' (wt_guard' rfl rfl rfl) (beq_ft h6)) ?_
                refine sx_skip' rfl rfl (wt_is' (wt_guard' rfl rfl rfl) (beq_ft h6)) ?_
                refine sx_rd' (rd_pick_false' rfl h6 rfl) rfl rfl (wt_none' rfl) ?_
                refine sx_nil' ?_
                show TX E K10 _
                exact tx_weak' (sub_cons rfl (sub_cons rfl (sub_cons rfl (sub_cons rfl sub_nil)))) (List.Perm.refl _) (List.Sublist.cons_cons _ (List.Sublist.cons_cons _ (List.Sublist.cons_cons _ List.Sublist.slnil))) (hK10 false hp)
          · intro K9 hK9
            rcases br_cases hp with ⟨h5, hp⟩ | ⟨h5, hp⟩
            · refine sx_rd' (rd_field' (off := 2) rfl Try.underlying44 rfl info34 rfl) rfl rfl (wt_is' (wt_guard' rfl rfl rfl) (beq_tt h5)) ?_
              refine sx_rd' (rd_load' (i := 2) (o := 2) rfl ⟨rfl, rfl, rfl, rfl⟩ rfl flat34) rfl rfl (wt_is' (wt_guard' rfl rfl rfl) (beq_tt h5)) ?_
              refine sx_rd' (rd_field' (off := 2) rfl Try.underlying44 rfl info34 rfl) rfl rfl (wt_is' (wt_guard' rfl rfl rfl) (beq_tt h5)) ?_
              refine sx_rd' (rd_load' (i := 0) (o := 2) rfl ⟨rfl, rfl, rfl, rfl⟩ rfl flat34) rfl rfl (wt_is' (wt_guard' rfl rfl rfl) (beq_tt h5)) ?_
              refine sx_rd' (rd_bin' rfl rfl eg_flt ru_fle) rfl rfl (wt_is' (wt_guard' rfl rfl rfl) (beq_tt h5)) ?_
              refine sx_rd' (rd_pick_true' rfl h5 rfl) rfl rfl (wt_none' rfl) ?_
              refine sx_nil' ?_
              show TX E K9 _
              exact tx_weak' (sub_cons rfl (sub_cons rfl (sub_cons rfl (sub_cons rfl sub_nil)))) (List.Perm.refl _) (List.Sublist.cons_cons _ (List.Sublist.cons_cons _ (List.Sublist.cons_cons _ List.Sublist.slnil))) (hK9 (fle a0_2 a2_2) hp)
            · refine sx_skip' rfl rfl (wt_is' (wt_guard' rfl rfl rfl) (beq_ft h5)) ?_
              refine sx_skip' rfl rfl (wt_is' (wt_guard' rfl rfl rfl) (beq_ft h5)) ?_
              refine sx_skip' rfl rfl (wt_is' (wt_guard' rfl rfl rfl) (beq_ft h5)) ?_
              refine sx_skip' rfl rfl (wt_is' (wt_guard' rfl rfl rfl) (beq_ft h5)) ?_
              refine sx_skip' rfl rfl (wt_is' (wt_guard' rfl rfl rfl) (beq_ft h5)) ?_
              refine sx_rd' (rd_pick_false' rfl h5 rfl) rfl rfl (wt_none' rfl) ?_
              refine sx_nil' ?_
              show TX E K9 _
              exact tx_weak' (sub_cons rfl (sub_cons rfl (sub_cons rfl (sub_cons rfl sub_nil)))) (List.Perm.refl _) (List.Sublist.cons_cons _ (List.Sublist.cons_cons _ (List.Sublist.cons_cons _ List.Sublist.slnil))) (hK9 false hp)
        · intro K8 hK8
          rcases br_cases hp with ⟨h4, hp⟩ | ⟨h4, hp⟩
          · refine sx_rd' (rd_field' (off := 1) rfl Try.underlying44 rfl info34 rfl) rfl rfl (wt_is' (wt_guard' rfl rfl rfl) (beq_tt h4)) ?_
            refine sx_rd' (rd_load' (i := 0) (o := 1) rfl ⟨rfl, rfl, rfl, rfl⟩ rfl flat34) rfl rfl (wt_is' (wt_guard' rfl rfl rfl) (beq_tt h4)) ?_
            refine sx_rd' (rd_field' (off := 1) rfl Try.underlying44 rfl info34 rfl) rfl rfl (wt_is' (wt_guard' rfl rfl rfl) (beq_tt h4)) ?_
            refine sx_rd' (rd_load' (i := 1) (o := 1) rfl ⟨rfl, rfl, rfl, rfl⟩ rfl flat34) rfl rfl (wt_is' (wt_guard' rfl rfl rfl) (beq_tt h4)) ?_
            refine sx_rd' (rd_bin' rfl rfl eg_flt ru_fle) rfl rfl (wt_is' (wt_guard' rfl rfl rfl) (beq_tt h4)) ?_
            refine sx_rd' (rd_pick_true' rfl h4 rfl) rfl rfl (wt_none' rfl) ?_
            refine sx_nil' ?_
            show TX E K8 _
            exact tx_weak' (sub_cons rfl (sub_cons rfl (sub_cons rfl (sub_cons rfl sub_nil)))) (List.Perm.refl _) (List.Sublist.cons_cons _ (List.Sublist.cons_cons _ (List.Sublist.cons_cons _ List.Sublist.slnil))) (hK8 (fle a2_1 a1_1) hp)
          · refine sx_skip' rfl rfl (wt_is' (wt_guard' rfl rfl rfl) (beq_ft h4)) ?_
            refine sx_skip' rfl rfl (wt_is' (wt_guard' rfl rfl rfl) (beq_ft h4)) ?_
            refine sx_skip' rfl rfl (wt_is' (wt_guard' rfl rfl rfl) (beq_ft h4)) ?_
            refine sx_skip' rfl rfl (wt_is' (wt_guard' rfl rfl rfl) (beq_ft h4)) ?_
            refine sx_skip' rfl rfl (wt_is' (wt_guard' rfl rfl rfl) (beq_ft h4)) ?_
            refine sx_rd' (rd_pick_false' rfl h4 rfl) rfl rfl (wt_none' rfl) ?_
            refine sx_nil' ?_
            show TX E K8 _
            exact tx_weak' (sub_cons rfl (sub_cons rfl (sub_cons rfl (sub_cons rfl sub_nil)))) (List.Perm.refl _) (List.Sublist.cons_cons _ (List.Sublist.cons_cons _ (List.Sublist.cons_cons _ List.Sublist.slnil))) (hK8 false hp)
      · intro K7 hK7
        rcases br_cases hp with ⟨h3, hp⟩ | ⟨h3, hp⟩
        · refine sx_rd' (rd_field' (off := 1) rfl Try.underlying44 rfl info34 rfl) rfl rfl (wt_is' (wt_guard' rfl rfl rfl) (beq_tt h3)) ?_
          refine sx_rd' (rd_load' (i := 2) (o := 1) rfl ⟨rfl, rfl, rfl, rfl⟩ rfl flat34) rfl rfl (wt_is' (wt_guard' rfl rfl rfl) (beq_tt h3)) ?_
          refine sx_rd' (rd_field' (off := 1) rfl Try.underlying44 rfl info34 rfl) rfl rfl (wt_is' (wt_guard' rfl rfl rfl) (beq_tt h3)) ?_
          refine sx_rd' (rd_load' (i := 0) (o := 1) rfl ⟨rfl, rfl, rfl, rfl⟩ rfl flat34) rfl rfl (wt_is' (wt_guard' rfl rfl rfl) (beq_tt h3)) ?_
          refine sx_rd' (rd_bin' rfl rfl eg_flt ru_fle) rfl rfl (wt_is' (wt_guard' rfl rfl rfl) (beq_tt h3)) ?_
          refine sx_rd' (rd_pick_true' rfl h3 rfl) rfl rfl (wt_none' rfl) ?_
          refine sx_nil' ?_
          show TX E K7 _
          exact tx_weak' (sub_cons rfl (sub_cons rfl (sub_cons rfl (sub_cons rfl sub_nil)))) (List.Perm.refl _) (List.Sublist.cons_cons _ (List.Sublist.cons_cons _ (List.Sublist.cons_cons _ List.Sublist.slnil))) (hK7 (fle a0_1 a2_1) hp)
        · refine sx_skip' rfl rfl (wt_is' (wt_guard' rfl rfl rfl) (beq_ft h3)) ?_
          refine sx_skip' rfl rfl (wt_is' (wt_guard' rfl rfl rfl) (beq_ft h3)) ?_
          refine sx_skip' rfl rfl (wt_is' (wt_guard' rfl rfl rfl) (beq_ft h3)) ?_
          refine sx_skip' rfl rfl (wt_is' (wt_guard' rfl rfl rfl) (beq_ft h3)) ?_
          refine sx_skip' rfl rfl (wt_is' (wt_guard' rfl rfl rfl) (beq_ft h3)) ?_
          refine sx_rd' (rd_pick_false' rfl h3 rfl) rfl rfl (wt_none' rfl) ?_
          refine sx_nil' ?_
          show TX E K7 _
          exact tx_weak' (sub_cons rfl (sub_cons rfl (sub_cons rfl (sub_cons rfl sub_nil)))) (List.Perm.refl _) (List.Sublist.cons_cons _ (List.Sublist.cons_cons _ (List.Sublist.cons_cons _ List.Sublist.slnil))) (hK7 false hp)
    · intro K6 hK6
      rcases br_cases hp with ⟨h2, hp⟩ | ⟨h2, hp⟩
      · refine sx_rd' (rd_field' (off := 0) rfl Try.underlying44 rfl info34 rfl) rfl rfl (wt_is' (wt_guard' rfl rfl rfl) (beq_tt h2)) ?_
        refine sx_rd' (rd_load' (i := 0) (o := 0) rfl ⟨rfl, rfl, rfl, rfl⟩ rfl flat34) rfl rfl (wt_is' (wt_guard' rfl rfl rfl) (beq_tt h2)) ?_
        refine sx_rd' (rd_field' (off := 0) rfl Try.underlying44 rfl info34 rfl) rfl rfl (wt_is' (wt_guard' rfl rfl rfl) (beq_tt h2)) ?_
        refine sx_rd' (rd_load' (i := 1) (o := 0) rfl ⟨rfl, rfl, rfl, rfl⟩ rfl flat34) rfl rfl (wt_is' (wt_guard' rfl rfl rfl) (beq_tt h2)) ?_
        refine sx_rd' (rd_bin' rfl rfl eg_flt ru_fle) rfl rfl (wt_is' (wt_guard' rfl rfl rfl) (beq_tt h2)) ?_
        refine sx_rd' (rd_pick_true' rfl h2 rfl) rfl rfl (wt_none' rfl) ?_
        refine sx_nil' ?_
        show TX E K6 _
        exact tx_weak' (sub_cons rfl (sub_cons rfl (sub_cons rfl (sub_cons rfl sub_nil)))) (List.Perm.refl _) (List.Sublist.cons_cons _ (List.Sublist.cons_cons _ (List.Sublist.cons_cons _ List.Sublist.slnil))) (hK6 (fle a2_0 a1_0) hp)
      · refine sx_skip' rfl rfl (wt_is' (wt_guard' rfl rfl rfl) (beq_ft h2)) ?_
        refine sx_skip' rfl rfl (wt_is' (wt_guard' rfl rfl rfl) (beq_ft h2)) ?_
        refine sx_skip' rfl rfl (wt_is' (wt_guard' rfl rfl rfl) (beq_ft h2)) ?_
        refine sx_skip' rfl rfl (wt_is' (wt_guard' rfl rfl rfl) (beq_ft h2)) ?_
        refine sx_skip' rfl rfl (wt_is' (wt_guard' rfl rfl rfl) (beq_ft h2)) ?_
        refine sx_rd' (rd_pick_false' rfl h2 rfl) rfl rfl (wt_none' rfl) ?_
        refine sx_nil' ?_
        show TX E K6 _
        exact tx_weak' (sub_cons rfl (sub_cons rfl (sub_cons rfl (sub_cons rfl sub_nil)))) (List.Perm.refl _) (List.Sublist.cons_cons _ (List.Sublist.cons_cons _ (List.Sublist.cons_cons _ List.Sublist.slnil))) (hK6 false hp)

def spec_SquareN_l1s (a0 : List Nat) (a1 : List Nat) (k : Nat) (rec1 : (Nat × Int) → Option (Nat)) (x1 : Nat) (x2 : Int) : Option (Nat) :=
  br (decide (x2 < (a0.length : Int)))
    ((idx a0 x2) >>= fun r13 =>
    (idx a1 x2) >>= fun r19 =>
    (fsub r13 r19) >>= fun r21 =>
    (idx a1 x2) >>= fun r25 =>
    (fsub r13 r25) >>= fun r27 =>
    (fmul r21 r27) >>= fun r28 =>
    (fadd x1 r28) >>= fun r29 =>
    rec1 (r29, (iadd .i64 x2 1)))
    (some x1)
def spec_SquareN_l1 (a0 : List Nat) (a1 : List Nat) : Nat → (Nat × Int) → Option (Nat)
  | 0, _ => none
  | k + 1, v => spec_SquareN_l1s a0 a1 k (spec_SquareN_l1 a0 a1 k) v.1 v.2
def spec_SquareN (k : Nat) (a0 : List Nat) (a1 : List Nat) : Option (Nat) :=
  (spec_SquareN_l1 a0 a1 k (0, 0)) >>= fun v2 =>
  some v2

theorem spec_SquareN_sim {k : Nat} (a0 : List Nat) (a1 : List Nat) {out : Nat} (hp : spec_SquareN k a0 a1 = some out) : Fp Try.prog 23 [(Sl Kf a0), (Sl Kf a1)] (Vl (.float .f64 out)) := by
  unfold spec_SquareN at hp
  refine fn_of Try.func23 rfl Try.ntmps23 rfl fun E hM => ?_
  refine cx_seq' fun K1 hK1 => ?_
  refine cx_region' ?_
  refine sx_rd' (rd_assign' rfl) rfl rfl (wt_none' rfl) ?_
  refine sx_nil' ?_
  show TX E K1 _
  refine tx_k' hK1 ?_
  refine cx_seq' fun K2 hK2 => ?_
  refine cx_region' ?_
  refine sx_rd' (rd_assign' rfl) rfl rfl (wt_none' rfl) ?_
  refine sx_nil' ?_
  show TX E K2 _
  refine tx_k' hK2 ?_
  refine cx_seq' fun K3 hK3 => ?_
  refine cx_seq' fun K4 hK4 => ?_
  refine cx_region' ?_
  refine sx_rd' (rd_move' rfl) rfl rfl (wt_none' rfl) ?_
  refine sx_rd' (rd_len' rfl Try.underlying22) rfl rfl (wt_none' rfl) ?_
  refine sx_rd' (rd_move' rfl) rfl rfl (wt_none' rfl) ?_
  refine sx_nil' ?_
  show TX E K4 _
  refine tx_k' hK4 ?_
  refine cx_block' ?_
  obtain ⟨v2, hy1, hp⟩ := bind_some hp
  refine cx_loop' (F := spec_SquareN_l1 a0 a1) (G := fun k R v => spec_SquareN_l1s a0 a1 k R v.1 v.2) (x := (0, 0)) (fun v1 => (⟨32, [], [(1, (Sl Kf a1)), (5, (Vl (.float .f64 v1.1))), (8, (Sl Kf a0)), (9, (Vl (.int .i64 (a0.length : Int)))), (10, (Vl (.int .i64 v1.2)))], []⟩ : St)) (fun v2 => Zx E (Exit.exit 0) (⟨32, [], [(5, (Vl (.float .f64 v2)))], []⟩ : St)) (fun _ => rfl) (fun _ _ => rfl) ?_ hy1 (fun _ _ hs => sym_weak' hs (sub_cons rfl (sub_cons rfl (sub_cons rfl (sub_cons rfl (sub_cons rfl sub_nil))))) (List.Perm.refl _) List.Sublist.slnil) ?_
  · clear hp hy1
    clear v2
    intro k rec1 KY1 ih1
    rintro ⟨x1, x2⟩ y1 hp
    replace hp : spec_SquareN_l1s a0 a1 k rec1 x1 x2 = some y1 := hp
    unfold spec_SquareN_l1s at hp
    refine cx_seq' fun K5 hK5 => ?_
    refine cx_region' ?_
    refine sx_rd' (rd_bin' rfl rfl eg_int ru_lss) rfl rfl (wt_none' rfl) ?_
    refine sx_nil' ?_
    show TX E K5 _
    refine tx_k' hK5 ?_
    refine cx_seq' fun K6 hK6 => ?_
    refine cx_cond' rfl (fun h2 => ?_) (fun h2 => ?_)
    · replace hp := (br_t h2).symm.trans hp
      refine cx_skip' ?_
      show TX E K6 _
      refine tx_k' hK6 ?_
      refine cx_seq' fun K7 hK7 => ?_
      refine cx_block' ?_
      refine cx_seq' fun K8 hK8 => ?_
      refine cx_region' ?_
      refine sx_rd' (rd_move' rfl) rfl rfl (wt_none' rfl) ?_
      obtain ⟨r13, hr13, hp⟩ := bind_some hp
      refine sx_rd' (rd_at' (K := Kf) rfl rfl hr13 Try.underlying22 info34) rfl rfl (wt_none' rfl) ?_
      refine sx_rd' (rd_load_pt' rfl rfl flat34) rfl rfl (wt_none' rfl) ?_
      refine sx_rd' (rd_assign' rfl) rfl rfl (wt_none' rfl) ?_
      refine sx_rd' (rd_assign' rfl) rfl rfl (wt_none' rfl) ?_
      refine sx_nil' ?_
      show TX E K8 _
      refine tx_k' hK8 ?_
      refine cx_draw' mixed (by kernel_rfl) ?_
      refine qx_rd' (rd_move' rfl) rfl rfl (wt_none' rfl) ?_
      refine qx_rd' (rd_move' rfl) rfl rfl (wt_none' rfl) ?_
      refine qx_rd' (rd_move' rfl) rfl rfl (wt_none' rfl) ?_
      refine qx_rd' (rd_move' rfl) rfl rfl (wt_none' rfl) ?_
      obtain ⟨r19, hr19, hp⟩ := bind_some hp
      refine qx_rd' (rd_at' (K := Kf) rfl rfl hr19 Try.underlying22 info34) rfl rfl (wt_none' rfl) ?_
      refine qx_rd' (rd_load_pt' rfl rfl flat34) rfl rfl (wt_none' rfl) ?_
      obtain ⟨r21, hr21, hp⟩ := bind_some hp
      refine qx_rd' (rd_bin' rfl rfl eg_flt (ru_fsub hr21)) rfl rfl (wt_none' rfl) ?_
      refine qx_rd' (rd_move' rfl) rfl rfl (wt_none' rfl) ?_
      refine qx_rd' (rd_move' rfl) rfl rfl (wt_none' rfl) ?_
      refine qx_rd' (rd_move' rfl) rfl rfl (wt_none' rfl) ?_
      obtain ⟨r25, hr25, hp⟩ := bind_some hp
      refine qx_rd' (rd_at' (K := Kf) rfl rfl hr25 Try.underlying22 info34) rfl rfl (wt_none' rfl) ?_
      refine qx_rd' (rd_load_pt' rfl rfl flat34) rfl rfl (wt_none' rfl) ?_
      obtain ⟨r27, hr27, hp⟩ := bind_some hp
      refine qx_rd' (rd_bin' rfl rfl eg_flt (ru_fsub hr27)) rfl rfl (wt_none' rfl) ?_
      obtain ⟨r28, hr28, hp⟩ := bind_some hp
      refine qx_rd' (rd_bin' rfl rfl eg_flt (ru_fmul hr28)) rfl rfl (wt_none' rfl) ?_
      obtain ⟨r29, hr29, hp⟩ := bind_some hp
      refine qx_rd' (rd_bin' rfl rfl eg_flt (ru_fadd hr29)) rfl rfl (wt_none' rfl) ?_
      refine qx_rd' (rd_assign' rfl) rfl rfl (wt_none' rfl) ?_
      refine qx_nil' ?_
      show TX E K7 _
      refine tx_k' hK7 ?_
      refine cx_region' ?_
      refine sx_rd' (rd_bin' rfl rfl eg_int ru_add) rfl rfl (wt_none' rfl) ?_
      refine sx_rd' (rd_move' rfl) rfl rfl (wt_none' rfl) ?_
      refine sx_nil' ?_
      show TX E (KY1 _) _
      exact tx_weak' (sub_cons rfl (sub_cons rfl (sub_cons rfl (sub_cons rfl (sub_cons rfl sub_nil))))) (List.Perm.refl _) List.Sublist.slnil (ih1 (r29, (iadd .i64 x2 1)) _ hp)
    · replace hp := (br_f h2).symm.trans hp
      refine cx_exit' ?_
      cases hp
      show TX E (Zx E (Exit.exit 0) _ (Exit.exit 0)) _
      exact tx_z' fun _ _ hs => sym_weak' hs (sub_cons rfl sub_nil) (List.Perm.refl _) List.Sublist.slnil
  · refine zx_out ?_
    show TX E K3 _
    refine tx_k' hK3 ?_
    refine cx_seq' fun K9 hK9 => ?_
    refine cx_region' ?_
    refine sx_rd' (rd_move' rfl) rfl rfl (wt_none' rfl) ?_
    refine sx_rd' (rd_assign' rfl) rfl rfl (wt_none' rfl) ?_
    refine sx_nil' ?_
    show TX E K9 _
    refine tx_k' hK9 ?_
    refine cx_retc' ?_
    cases hp
    exact tx_ret1' Try.results23 rfl () (rv_tmp' rfl) (keep_nil _)

end Go.Proofs.Ytmjhjnnlhjfbcaa
