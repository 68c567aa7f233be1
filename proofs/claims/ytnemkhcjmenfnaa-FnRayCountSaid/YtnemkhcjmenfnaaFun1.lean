/-
  Plain functions for the Go functions that this law reaches, and that each call does what its plain function says. Printed by a program of ours.
-/
import Derived.Test.YtnemkhcjmenfnaaProg
import Derived.Test.YtnemkhcjmenfnaaSxZ
namespace Go.Proofs.Ytnemkhcjmenfnaa
open Go.Sx
set_option linter.unusedVariables false
set_option maxRecDepth 100000

theorem isn15 : (Try.f15.name == "runtime.NumGoroutine") = false := by kernel_rfl
theorem info27 : (Try.prog.info? 27).map (fun i => (i.zero, i.size, i.bytes)) = some (some (.agg #[.float .f64 0, .float .f64 0]), 2, 16) := by kernel_rfl
theorem agg27 : Agg Try.prog 27 2 := ⟨⟨_, Try.underlying27, .inl ⟨_, rfl⟩⟩, info_size info27⟩
theorem flat25 : Flat Try.prog 25 := ⟨_, Try.underlying25, fun _ h => (nomatch h), fun _ _ h => (nomatch h)⟩
theorem held27 : Try.prog.stoodInHeld 27 = false := by kernel_rfl
theorem eqg27 : Try.prog.eqGuardType Try.prog.depth 27 = false := by kernel_rfl
theorem mixed : Try.prog.follows .mixedOrders = true := by kernel_rfl
theorem isn16 : (Try.f16.name == "runtime.NumGoroutine") = false := by kernel_rfl
theorem info25 : (Try.prog.info? 25).map (fun i => (i.zero, i.size, i.bytes)) = some (some (.float .f64 0), 1, 8) := by kernel_rfl
theorem isn44 : (Try.f44.name == "runtime.NumGoroutine") = false := by kernel_rfl
theorem isn91 : (Try.f91.name == "runtime.NumGoroutine") = false := by kernel_rfl
theorem extf132 : ∀ {x r : Nat}, gint .zero x = r → ∀ y, (y = x ∨ (isn x = true ∧ isn y = true)) → RunsF Try.prog (callFunc 132 #[.float .f64 y]) (Fl r) := fun hz y hy => hz ▸ runs_ext (e := Extern.MathFloor.toIntegral "math.archTrunc" .zero) Try.func132 (by kernel_rfl) (by kernel_rfl) (by kernel_rfl) (by kernel_rfl) (gint_runs hy)
theorem isn38 : (Try.f38.name == "runtime.NumGoroutine") = false := by kernel_rfl
theorem ext85 : ∀ {args : Array Value} {v : Value}, Runs Try.prog ((Extern.MathFloatBits.float64bits) args) v → Runs Try.prog (callFunc 85 args) (.value v) := fun hr => ru_ext Try.func85 (by kernel_rfl) (by kernel_rfl) (by kernel_rfl) (by kernel_rfl) hr
theorem ext84 : ∀ {args : Array Value} {v : Value}, Runs Try.prog ((Extern.MathFloatBits.float64frombits) args) v → Runs Try.prog (callFunc 84 args) (.value v) := fun hr => ru_ext Try.func84 (by kernel_rfl) (by kernel_rfl) (by kernel_rfl) (by kernel_rfl) hr
theorem isn22 : (Try.f22.name == "runtime.NumGoroutine") = false := by kernel_rfl
theorem isn27 : (Try.f27.name == "runtime.NumGoroutine") = false := by kernel_rfl
theorem isn73 : (Try.f73.name == "runtime.NumGoroutine") = false := by kernel_rfl
theorem isn46 : (Try.f46.name == "runtime.NumGoroutine") = false := by kernel_rfl
theorem places40 : placesOf Try.prog [{ name := "N", type := 38, offset := 0, embedded := false, tag := "", pkgPath := "", byteOffset := 0 }, { name := "E", type := 3, offset := 2, embedded := false, tag := "", pkgPath := "", byteOffset := 32 }] = [(0, 2), (2, 1)] := by kernel_rfl
theorem has40 : ∀ f ∈ ([{ name := "N", type := 38, offset := 0, embedded := false, tag := "", pkgPath := "", byteOffset := 0 }, { name := "E", type := 3, offset := 2, embedded := false, tag := "", pkgPath := "", byteOffset := 32 }] : List Field), (Try.prog.info? f.type).isSome = true := fun f hf => all_of (p := fun f => (Try.prog.info? f.type).isSome) (by kernel_rfl) f hf
theorem info40 : (Try.prog.info? 40).map (fun i => (i.zero, i.size, i.bytes)) = some (some (.agg #[.bool false, .slice none 0 0, .int .i64 0]), 3, 40) := by kernel_rfl
theorem isn93 : (Try.f93.name == "runtime.NumGoroutine") = false := by kernel_rfl
theorem isn135 : (Try.f135.name == "runtime.NumGoroutine") = false := by kernel_rfl
theorem info152 : (Try.prog.info? 152).map (fun i => (i.zero, i.size, i.bytes)) = some (some (.int .u32 0), 1, 4) := by kernel_rfl
theorem flat152 : Flat Try.prog 152 := ⟨_, Try.underlying152, fun _ h => (nomatch h), fun _ _ h => (nomatch h)⟩
theorem places38 : placesOf Try.prog [{ name := "Neg", type := 4, offset := 0, embedded := false, tag := "", pkgPath := "", byteOffset := 0 }, { name := "L", type := 36, offset := 1, embedded := false, tag := "", pkgPath := "", byteOffset := 8 }] = [(0, 1), (1, 1)] := by kernel_rfl
theorem has38 : ∀ f ∈ ([{ name := "Neg", type := 4, offset := 0, embedded := false, tag := "", pkgPath := "", byteOffset := 0 }, { name := "L", type := 36, offset := 1, embedded := false, tag := "", pkgPath := "", byteOffset := 8 }] : List Field), (Try.prog.info? f.type).isSome = true := fun f hf => all_of (p := fun f => (Try.prog.info? f.type).isSome) (by kernel_rfl) f hf
theorem info38 : (Try.prog.info? 38).map (fun i => (i.zero, i.size, i.bytes)) = some (some (.agg #[.bool false, .slice none 0 0]), 2, 32) := by kernel_rfl
theorem agg38 : Agg Try.prog 38 2 := ⟨⟨_, Try.underlying38, .inl ⟨_, rfl⟩⟩, info_size info38⟩
theorem agg40 : Agg Try.prog 40 3 := ⟨⟨_, Try.underlying40, .inl ⟨_, rfl⟩⟩, info_size info40⟩
theorem places54 : placesOf Try.prog [{ name := "X", type := 40, offset := 0, embedded := false, tag := "", pkgPath := "", byteOffset := 0 }, { name := "Y", type := 40, offset := 3, embedded := false, tag := "", pkgPath := "", byteOffset := 40 }] = [(0, 3), (3, 3)] := by kernel_rfl
theorem has54 : ∀ f ∈ ([{ name := "X", type := 40, offset := 0, embedded := false, tag := "", pkgPath := "", byteOffset := 0 }, { name := "Y", type := 40, offset := 3, embedded := false, tag := "", pkgPath := "", byteOffset := 40 }] : List Field), (Try.prog.info? f.type).isSome = true := fun f hf => all_of (p := fun f => (Try.prog.info? f.type).isSome) (by kernel_rfl) f hf
theorem info54 : (Try.prog.info? 54).map (fun i => (i.zero, i.size, i.bytes)) = some (some (.agg #[.bool false, .slice none 0 0, .int .i64 0, .bool false, .slice none 0 0, .int .i64 0]), 6, 80) := by kernel_rfl
theorem agg54 : Agg Try.prog 54 6 := ⟨⟨_, Try.underlying54, .inl ⟨_, rfl⟩⟩, info_size info54⟩
theorem isn42 : (Try.f42.name == "runtime.NumGoroutine") = false := by kernel_rfl
theorem isn88 : (Try.f88.name == "runtime.NumGoroutine") = false := by kernel_rfl
theorem isn57 : (Try.f57.name == "runtime.NumGoroutine") = false := by kernel_rfl
theorem isn26 : (Try.f26.name == "runtime.NumGoroutine") = false := by kernel_rfl
theorem isn48 : (Try.f48.name == "runtime.NumGoroutine") = false := by kernel_rfl
theorem isn95 : (Try.f95.name == "runtime.NumGoroutine") = false := by kernel_rfl
theorem info3 : (Try.prog.info? 3).map (fun i => (i.zero, i.size, i.bytes)) = some (some (.int .i64 0), 1, 8) := by kernel_rfl
theorem flat3 : Flat Try.prog 3 := ⟨_, Try.underlying3, fun _ h => (nomatch h), fun _ _ h => (nomatch h)⟩
theorem isn136 : (Try.f136.name == "runtime.NumGoroutine") = false := by kernel_rfl
theorem info4 : (Try.prog.info? 4).map (fun i => (i.zero, i.size, i.bytes)) = some (some (.bool false), 1, 1) := by kernel_rfl
theorem flat4 : Flat Try.prog 4 := ⟨_, Try.underlying4, fun _ h => (nomatch h), fun _ _ h => (nomatch h)⟩
theorem info36 : (Try.prog.info? 36).map (fun i => (i.zero, i.size, i.bytes)) = some (some (.slice none 0 0), 1, 24) := by kernel_rfl
theorem flat36 : Flat Try.prog 36 := ⟨_, Try.underlying36, fun _ h => (nomatch h), fun _ _ h => (nomatch h)⟩
theorem isn65 : (Try.f65.name == "runtime.NumGoroutine") = false := by kernel_rfl
theorem isn49 : (Try.f49.name == "runtime.NumGoroutine") = false := by kernel_rfl
theorem isn96 : (Try.f96.name == "runtime.NumGoroutine") = false := by kernel_rfl
theorem isn117 : (Try.f117.name == "runtime.NumGoroutine") = false := by kernel_rfl
theorem isn118 : (Try.f118.name == "runtime.NumGoroutine") = false := by kernel_rfl
theorem isn151 : (Try.f151.name == "runtime.NumGoroutine") = false := by kernel_rfl
theorem isn152 : (Try.f152.name == "runtime.NumGoroutine") = false := by kernel_rfl
theorem isn153 : (Try.f153.name == "runtime.NumGoroutine") = false := by kernel_rfl
theorem isn47 : (Try.f47.name == "runtime.NumGoroutine") = false := by kernel_rfl
theorem isn94 : (Try.f94.name == "runtime.NumGoroutine") = false := by kernel_rfl
theorem isn111 : (Try.f111.name == "runtime.NumGoroutine") = false := by kernel_rfl
theorem isn89 : (Try.f89.name == "runtime.NumGoroutine") = false := by kernel_rfl
theorem isn43 : (Try.f43.name == "runtime.NumGoroutine") = false := by kernel_rfl
theorem isn72 : (Try.f72.name == "runtime.NumGoroutine") = false := by kernel_rfl
theorem isn90 : (Try.f90.name == "runtime.NumGoroutine") = false := by kernel_rfl
theorem places158 : placesOf Try.prog [{ name := "p", type := 106, offset := 0, embedded := false, tag := "", pkgPath := "pub-orthodrome/pub/gogeom/xy/inner/raycrossing", byteOffset := 0 }, { name := "crossingCount", type := 3, offset := 1, embedded := false, tag := "", pkgPath := "pub-orthodrome/pub/gogeom/xy/inner/raycrossing", byteOffset := 24 }, { name := "isPointOnSegment", type := 4, offset := 2, embedded := false, tag := "", pkgPath := "pub-orthodrome/pub/gogeom/xy/inner/raycrossing", byteOffset := 32 }] = [(0, 1), (1, 1), (2, 1)] := by kernel_rfl
theorem has158 : ∀ f ∈ ([{ name := "p", type := 106, offset := 0, embedded := false, tag := "", pkgPath := "pub-orthodrome/pub/gogeom/xy/inner/raycrossing", byteOffset := 0 }, { name := "crossingCount", type := 3, offset := 1, embedded := false, tag := "", pkgPath := "pub-orthodrome/pub/gogeom/xy/inner/raycrossing", byteOffset := 24 }, { name := "isPointOnSegment", type := 4, offset := 2, embedded := false, tag := "", pkgPath := "pub-orthodrome/pub/gogeom/xy/inner/raycrossing", byteOffset := 32 }] : List Field), (Try.prog.info? f.type).isSome = true := fun f hf => all_of (p := fun f => (Try.prog.info? f.type).isSome) (by kernel_rfl) f hf
theorem info158 : (Try.prog.info? 158).map (fun i => (i.zero, i.size, i.bytes)) = some (some (.agg #[.slice none 0 0, .int .i64 0, .bool false]), 3, 40) := by kernel_rfl
theorem isn131 : (Try.f131.name == "runtime.NumGoroutine") = false := by kernel_rfl
theorem info106 : (Try.prog.info? 106).map (fun i => (i.zero, i.size, i.bytes)) = some (some (.slice none 0 0), 1, 24) := by kernel_rfl
theorem flat106 : Flat Try.prog 106 := ⟨_, Try.underlying106, fun _ h => (nomatch h), fun _ _ h => (nomatch h)⟩
theorem isn92 : (Try.f92.name == "runtime.NumGoroutine") = false := by kernel_rfl
theorem isn134 : (Try.f134.name == "runtime.NumGoroutine") = false := by kernel_rfl
theorem extf162 : ∀ {x r : Nat}, gint .down x = r → ∀ y, (y = x ∨ (isn x = true ∧ isn y = true)) → RunsF Try.prog (callFunc 162 #[.float .f64 y]) (Fl r) := fun hz y hy => hz ▸ runs_ext (e := Extern.MathFloor.toIntegral "math.archFloor" .down) Try.func162 (by kernel_rfl) (by kernel_rfl) (by kernel_rfl) (by kernel_rfl) (gint_runs hy)
def KT27 : Kd (Nat × Nat) := ⟨2, fun x => [(Vl (.float .f64 x.1)), (Vl (.float .f64 x.2))], fun _ => rfl⟩
def KT54 : Kd (Bool × (List Int) × Int × Bool × (List Int) × Int) := ⟨6, fun x => [(Vl (.bool x.1)), (Sl (Ki .u32) x.2.1), (Vl (.int .i64 x.2.2.1)), (Vl (.bool x.2.2.2.1)), (Sl (Ki .u32) x.2.2.2.2.1), (Vl (.int .i64 x.2.2.2.2.2))], fun _ => rfl⟩

def laws_shut_j1 (k : Nat) (x1 : Bool) : Option (Bool) :=
  some x1
def laws_shut (k : Nat) (a0 : List (Nat × Nat)) : Option (Bool) :=
  br (decide (1 < (a0.length : Int)))
    ((idx a0 0) >>= fun r8 =>
    (idx a0 (isub .i64 (a0.length : Int) 1)) >>= fun r14 =>
    laws_shut_j1 k ((feq r8.1 r14.1) && ((feq r8.2 r14.2) && true)))
    (laws_shut_j1 k false)

theorem laws_shut_sim {k : Nat}  (a0 : List (Nat × Nat)) {out : Bool} (hp : laws_shut k a0 = some out) : Go.Sx.Fn Try.prog 15 [(Sl KT27 a0)] [] (fun w : Unit => (Vl (.bool out))) (fun w => []) := by
  unfold laws_shut at hp
  refine fn_of Try.func15 rfl Try.ntmps15 rfl fun E hM => ?_
  refine cx_seq' fun K1 hK1 => ?_
  refine cx_region' ?_
  refine sx_rd' (rd_assign' rfl) rfl rfl (wt_none' rfl) ?_
  refine sx_nil' ?_
  show TX E K1 _
  refine tx_k' hK1 ?_
  refine cx_seq' fun K2 hK2 => ?_
  refine cx_draw' mixed (by kernel_rfl) ?_
  refine qx_rd' (rd_move' rfl) rfl rfl (wt_none' rfl) ?_
  refine qx_rd' (rd_len' rfl Try.underlying22) rfl rfl (wt_none' rfl) ?_
  refine qx_rd' (rd_bin' rfl rfl eg_int ru_gtr) rfl rfl (wt_none' rfl) ?_
  refine qx_rd' (rd_move' rfl) rfl rfl (wt_none' rfl) ?_
  refine qx_cutn' 11 (fun (v1 : Bool) => (⟨18, [], [(17, (Vl (.bool v1)))], []⟩ : St)) (fun (v1 : Bool) => laws_shut_j1 k v1 = some out) ?_ ?_
  · rintro x1 hp
    replace hp : laws_shut_j1 k x1 = some out := hp
    unfold laws_shut_j1 at hp
    refine qx_rd' (rd_assign' rfl) rfl rfl (wt_none' rfl) ?_
    refine qx_nil' ?_
    show TX E K2 _
    refine tx_k' hK2 ?_
    refine cx_retc' ?_
    replace hp := Option.some.inj hp
    subst hp
    refine tx_pick' (L' := [(2, (Vl (.bool x1)))]) (H' := []) [] (sub_cons rfl sub_nil) (by decide) pick_nil ?_
    exact tx_ret1' Try.results15 rfl () (rv_tmp' rfl) (List.Sublist.refl _)
  · intro K3 hK3
    rcases br_cases hp with ⟨h1, hp⟩ | ⟨h1, hp⟩
    · refine qx_rd' (rd_move' rfl) rfl rfl (wt_is' (wt_guard' rfl rfl rfl) (beq_tt h1)) ?_
      obtain ⟨r8, hr8, hp⟩ := bind_some hp
      refine qx_rd' (rd_at' (K := KT27) rfl rfl hr8 Try.underlying22 info27) rfl rfl (wt_is' (wt_guard' rfl rfl rfl) (beq_tt h1)) ?_
      refine qx_rd' (rd_load_pt_agg' (nn := 2) rfl rfl agg27 (l' := [(Vl (.float .f64 r8.1)), (Vl (.float .f64 r8.2))]) rfl) rfl rfl (wt_is' (wt_guard' rfl rfl rfl) (beq_tt h1)) ?_
      refine qx_rd' (rd_move' rfl) rfl rfl (wt_is' (wt_guard' rfl rfl rfl) (beq_tt h1)) ?_
      refine qx_rd' (rd_move' rfl) rfl rfl (wt_is' (wt_guard' rfl rfl rfl) (beq_tt h1)) ?_
      refine qx_rd' (rd_len' rfl Try.underlying22) rfl rfl (wt_is' (wt_guard' rfl rfl rfl) (beq_tt h1)) ?_
      refine qx_rd' (rd_bin' rfl rfl eg_int ru_sub) rfl rfl (wt_is' (wt_guard' rfl rfl rfl) (beq_tt h1)) ?_
      obtain ⟨r14, hr14, hp⟩ := bind_some hp
      refine qx_rd' (rd_at' (K := KT27) rfl rfl hr14 Try.underlying22 info27) rfl rfl (wt_is' (wt_guard' rfl rfl rfl) (beq_tt h1)) ?_
      refine qx_rd' (rd_load_pt_agg' (nn := 2) rfl rfl agg27 (l' := [(Vl (.float .f64 r14.1)), (Vl (.float .f64 r14.2))]) rfl) rfl rfl (wt_is' (wt_guard' rfl rfl rfl) (beq_tt h1)) ?_
      refine qx_rd' (rd_eq_ag' (us := [.float .f64 r8.1, .float .f64 r8.2]) (vs := [.float .f64 r14.1, .float .f64 r14.2]) rfl rfl eqg27 (eqt_struct Try.underlying27 held27 (eqf_cons (by rfl) (part_flat flat25 rfl) (part_flat flat25 rfl) (eqt_flt Try.underlying25) (eqf_cons (by rfl) (part_flat flat25 rfl) (part_flat flat25 rfl) (eqt_flt Try.underlying25) eqf_nil)))) rfl rfl (wt_is' (wt_guard' rfl rfl rfl) (beq_tt h1)) ?_
      refine qx_rd' (rd_pick_true' rfl h1 rfl) rfl rfl (wt_none' rfl) ?_
      refine qx_end' ?_
      exact tq_pick' [] (sub_cons rfl sub_nil) (by decide) pick_nil (hK3 ((feq r8.1 r14.1) && ((feq r8.2 r14.2) && true)) hp)
    · refine qx_skip' rfl rfl (wt_is' (wt_guard' rfl rfl rfl) (beq_ft h1)) ?_
      refine qx_skip' rfl rfl (wt_is' (wt_guard' rfl rfl rfl) (beq_ft h1)) ?_
      refine qx_skip' rfl rfl (wt_is' (wt_guard' rfl rfl rfl) (beq_ft h1)) ?_
      refine qx_skip' rfl rfl (wt_is' (wt_guard' rfl rfl rfl) (beq_ft h1)) ?_
      refine qx_skip' rfl rfl (wt_is' (wt_guard' rfl rfl rfl) (beq_ft h1)) ?_
      refine qx_skip' rfl rfl (wt_is' (wt_guard' rfl rfl rfl) (beq_ft h1)) ?_
      refine qx_skip' rfl rfl (wt_is' (wt_guard' rfl rfl rfl) (beq_ft h1)) ?_
      refine qx_skip' rfl rfl (wt_is' (wt_guard' rfl rfl rfl) (beq_ft h1)) ?_
      refine qx_skip' rfl rfl (wt_is' (wt_guard' rfl rfl rfl) (beq_ft h1)) ?_
      refine qx_skip' rfl rfl (wt_is' (wt_guard' rfl rfl rfl) (beq_ft h1)) ?_
      refine qx_rd' (rd_pick_false' rfl h1 rfl) rfl rfl (wt_none' rfl) ?_
      refine qx_end' ?_
      exact tq_pick' [] (sub_cons rfl sub_nil) (by decide) pick_nil (hK3 false hp)

def math_Trunc (k : Nat) (a0 : Nat) : Option (Nat) :=
  (some (gint .zero a0)) >>= fun r4 =>
  some r4

theorem math_Trunc_sim {k : Nat}  (a0 : Nat) {out : Nat} (hp : math_Trunc k a0 = some out) : Go.Sx.Fn Try.prog 91 [(Vl (.float .f64 a0))] [] (fun w : Unit => (Fl out)) (fun w => []) := by
  unfold math_Trunc at hp
  refine fn_of Try.func91 rfl Try.ntmps91 rfl fun E hM => ?_
  refine cx_seq' fun K1 hK1 => ?_
  refine cx_region' ?_
  refine sx_rd' (rd_assign' rfl) rfl rfl (wt_none' rfl) ?_
  refine sx_nil' ?_
  show TX E K1 _
  refine tx_k' hK1 ?_
  refine cx_seq' fun K2 hK2 => ?_
  refine cx_cond_t' rfl rfl ?_
  refine cx_seq' fun K3 hK3 => ?_
  refine cx_region' ?_
  refine sx_rd' (rd_move' rfl) rfl rfl (wt_none' rfl) ?_
  obtain ⟨r4, hr4, hp⟩ := bind_some hp
  refine sx_ox' (ox_extf' rfl (fl_v rfl) Try.func132 (extf132 (Option.some.inj hr4)) rfl rfl) (wt_none' rfl) fun _ => ?_
  refine sx_rd' (rd_assign' rfl) rfl rfl (wt_none' rfl) ?_
  refine sx_nil' ?_
  show TX E K3 _
  refine tx_k' hK3 ?_
  refine cx_retc' ?_
  replace hp := Option.some.inj hp
  subst hp
  refine tx_pick' (L' := [(2, (Fl r4))]) (H' := []) [] (sub_cons rfl sub_nil) (by decide) pick_nil ?_
  exact tx_ret1' Try.results91 rfl () (rv_tmp' rfl) (List.Sublist.refl _)

def math_Abs (k : Nat) (a0 : Nat) : Option (Nat) :=
  some (ffrom (iandn .u64 (fbits a0) 9223372036854775808))

theorem math_Abs_sim {k : Nat}  (a0 : Nat) {out : Nat} (hp : math_Abs k a0 = some out) : Go.Sx.Fn Try.prog 38 [(Vl (.float .f64 a0))] [] (fun w : Unit => (Vl (.float .f64 out))) (fun w => []) := by
  unfold math_Abs at hp
  refine fn_of Try.func38 rfl Try.ntmps38 rfl fun E hM => ?_
  refine cx_seq' fun K1 hK1 => ?_
  refine cx_region' ?_
  refine sx_rd' (rd_assign' rfl) rfl rfl (wt_none' rfl) ?_
  refine sx_nil' ?_
  show TX E K1 _
  refine tx_k' hK1 ?_
  refine cx_seq' fun K2 hK2 => ?_
  refine cx_region' ?_
  refine sx_rd' (rd_move' rfl) rfl rfl (wt_none' rfl) ?_
  refine sx_rd' (rd_ext' (us := [.float .f64 a0]) rfl (ext85 ex_bits)) rfl rfl (wt_none' rfl) ?_
  refine sx_rd' (rd_bin' rfl rfl eg_int ru_andn) rfl rfl (wt_none' rfl) ?_
  refine sx_rd' (rd_ext' (us := [.int .u64 (iandn .u64 (fbits a0) 9223372036854775808)]) rfl (ext84 ex_from)) rfl rfl (wt_none' rfl) ?_
  refine sx_rd' (rd_assign' rfl) rfl rfl (wt_none' rfl) ?_
  refine sx_nil' ?_
  show TX E K2 _
  refine tx_k' hK2 ?_
  refine cx_retc' ?_
  replace hp := Option.some.inj hp
  subst hp
  refine tx_pick' (L' := [(2, (Vl (.float .f64 (ffrom (iandn .u64 (fbits a0) 9223372036854775808)))))]) (H' := []) [] (sub_cons rfl sub_nil) (by decide) pick_nil ?_
  exact tx_ret1' Try.results38 rfl () (rv_tmp' rfl) (List.Sublist.refl _)

def laws_wholeTo_j2 (k : Nat) (rec1 : Int → Option (Unit ⊕ Unit)) (x3 : Int) (x2 : Bool) : Option (Unit ⊕ Unit) :=
  br x2
    (some (.inl ()))
    (rec1 (iadd .i64 x3 1))
def laws_wholeTo_l1s (a1 : List Nat) (a0 : Nat) (k : Nat) (rec1 : Int → Option (Unit ⊕ Unit)) (x3 : Int) : Option (Unit ⊕ Unit) :=
  br (decide (x3 < (a1.length : Int)))
    ((idx a1 x3) >>= fun r11 =>
    (math_Trunc k r11) >>= fun r15 =>
    br (fne r11 r15)
      (laws_wholeTo_j2 k rec1 x3 true)
      ((math_Abs k r11) >>= fun r19 =>
      laws_wholeTo_j2 k rec1 x3 (fgt r19 a0)))
    (some (.inr ()))
def laws_wholeTo_l1 (a1 : List Nat) (a0 : Nat) : Nat → Int → Option (Unit ⊕ Unit)
  | 0, _ => none
  | k + 1, v => laws_wholeTo_l1s a1 a0 k (laws_wholeTo_l1 a1 a0 k) v
def laws_wholeTo (k : Nat) (a0 : Nat) (a1 : List Nat) : Option (Bool) :=
  (laws_wholeTo_l1 a1 a0 k 0) >>= fun y1 => match y1 with
    | (.inl v4) =>
      (some false)
    | (.inr v5) =>
      (some true)

theorem laws_wholeTo_sim {k : Nat}  (a0 : Nat) (a1 : List Nat) {out : Bool} (hp : laws_wholeTo k a0 a1 = some out) : Go.Sx.Fn Try.prog 44 [(Vl (.float .f64 a0)), (Sl Kf a1)] [] (fun w : Unit => (Vl (.bool out))) (fun w => []) := by
  unfold laws_wholeTo at hp
  refine fn_of Try.func44 rfl Try.ntmps44 rfl fun E hM => ?_
  refine cx_seq' fun K1 hK1 => ?_
  refine cx_region' ?_
  refine sx_rd' (rd_assign' rfl) rfl rfl (wt_none' rfl) ?_
  refine sx_nil' ?_
  show TX E K1 _
  refine tx_k' hK1 ?_
  refine cx_seq' fun K2 hK2 => ?_
  refine cx_seq' fun K3 hK3 => ?_
  refine cx_region' ?_
  refine sx_rd' (rd_move' rfl) rfl rfl (wt_none' rfl) ?_
  refine sx_rd' (rd_len' rfl Try.underlying30) rfl rfl (wt_none' rfl) ?_
  refine sx_rd' (rd_move' rfl) rfl rfl (wt_none' rfl) ?_
  refine sx_nil' ?_
  show TX E K3 _
  refine tx_k' hK3 ?_
  refine cx_block' ?_
  obtain ⟨y1, hy1, hp⟩ := bind_some hp
  refine cx_loopg' (F := laws_wholeTo_l1 a1 a0) (G := fun k R v => laws_wholeTo_l1s a1 a0 k R v) (x := 0) (gh := ()) (fun (v2 : Int) (w2 : Unit) => (⟨24, [], [(0, (Vl (.float .f64 a0))), (7, (Sl Kf a1)), (8, (Vl (.int .i64 (a1.length : Int)))), (9, (Vl (.int .i64 v2)))], []⟩ : St)) (fun (y : Unit ⊕ Unit) => match y with | (.inl v4) => Zg E Exit.ret (fun (w4 : Unit) => (⟨24, [], [(4, (Vl (.bool false)))], []⟩ : St)) | (.inr v5) => Zg E (Exit.exit 0) (fun (w5 : Unit) => (⟨24, [], [], []⟩ : St))) (fun _ => rfl) (fun _ _ => rfl) ?_ hy1 (tx_to' rfl [] (sub_cons rfl (sub_cons rfl (sub_cons rfl (sub_cons rfl sub_nil)))) (by decide) pick_nil) ?_
  · clear hp hy1
    clear y1
    intro k rec1 KY1 ih1
    rintro x3 ⟨⟩ y1 hp
    replace hp : laws_wholeTo_l1s a1 a0 k rec1 x3 = some y1 := hp
    unfold laws_wholeTo_l1s at hp
    refine cx_seq' fun K11 hK11 => ?_
    refine cx_region' ?_
    refine sx_rd' (rd_bin' rfl rfl eg_int ru_lss) rfl rfl (wt_none' rfl) ?_
    refine sx_nil' ?_
    show TX E K11 _
    refine tx_k' hK11 ?_
    refine cx_seq' fun K12 hK12 => ?_
    refine cx_cond' rfl (fun h5 => ?_) (fun h5 => ?_)
    · replace hp := (br_t h5).symm.trans hp
      refine cx_skip' ?_
      show TX E K12 _
      refine tx_k' hK12 ?_
      refine cx_seq' fun K13 hK13 => ?_
      refine cx_block' ?_
      refine cx_seq' fun K14 hK14 => ?_
      refine cx_region' ?_
      obtain ⟨r11, hr11, hp⟩ := bind_some hp
      refine sx_rd' (rd_at' (K := Kf) rfl rfl hr11 Try.underlying30 info25) rfl rfl (wt_none' rfl) ?_
      refine sx_rd' (rd_load_pt' rfl rfl flat25) rfl rfl (wt_none' rfl) ?_
      refine sx_rd' (rd_assign' rfl) rfl rfl (wt_none' rfl) ?_
      refine sx_nil' ?_
      show TX E K14 _
      refine tx_k' hK14 ?_
      refine cx_seq' fun K15 hK15 => ?_
      refine cx_region' ?_
      refine sx_rd' (rd_move' rfl) rfl rfl (wt_none' rfl) ?_
      refine sx_rd' (rd_move' rfl) rfl rfl (wt_none' rfl) ?_
      obtain ⟨r15, hr15, hp⟩ := bind_some hp
      refine sx_ox' (ox_calln' (ent_fn' Try.func91 isn91 rfl rfl) (math_Trunc_sim _ hr15 : Go.Sx.Fn Try.prog 91 [(Vl (.float .f64 r11))] [] (fun x : Unit => (Fl r15)) (fun x => [])) (Hn := fun x : Unit => []) (fun _ => rfl) rfl rfl) (wt_none' rfl) fun ⟨⟩ => ?_
      refine sx_rd' (rd_fcmp' (fl_v rfl) (fl_f rfl) rfl) rfl rfl (wt_none' rfl) ?_
      refine sx_rd' (rd_move' rfl) rfl rfl (wt_none' rfl) ?_
      refine sx_cutn' 5 (fun (v3 : Bool) => (⟨24, [], [(0, (Vl (.float .f64 a0))), (7, (Sl Kf a1)), (8, (Vl (.int .i64 (a1.length : Int)))), (9, (Vl (.int .i64 x3))), (22, (Vl (.bool v3)))], []⟩ : St)) (fun (v3 : Bool) => laws_wholeTo_j2 k rec1 x3 v3 = some y1) ?_ ?_
      · rintro x2 hp
        replace hp : laws_wholeTo_j2 k rec1 x3 x2 = some y1 := hp
        unfold laws_wholeTo_j2 at hp
        refine sx_nil' ?_
        show TX E K15 _
        refine tx_k' hK15 ?_
        refine cx_cond' rfl (fun h7 => ?_) (fun h7 => ?_)
        · replace hp := (br_t h7).symm.trans hp
          refine cx_seq' fun K17 hK17 => ?_
          refine cx_region' ?_
          refine sx_rd' (rd_assign' rfl) rfl rfl (wt_none' rfl) ?_
          refine sx_nil' ?_
          show TX E K17 _
          refine tx_k' hK17 ?_
          refine cx_retc' ?_
          replace hp := Option.some.inj hp
          subst hp
          show TX E (Zg E Exit.ret _ Exit.ret) _
          exact tx_zend' () rfl [] (sub_cons rfl sub_nil) (by decide) pick_nil
        · replace hp := (br_f h7).symm.trans hp
          refine cx_skip' ?_
          show TX E K13 _
          refine tx_k' hK13 ?_
          refine cx_region' ?_
          refine sx_rd' (rd_bin' rfl rfl eg_int ru_add) rfl rfl (wt_none' rfl) ?_
          refine sx_rd' (rd_move' rfl) rfl rfl (wt_none' rfl) ?_
          refine sx_nil' ?_
          show TX E (KY1 _) _
          exact tx_pick' [] (sub_cons rfl (sub_cons rfl (sub_cons rfl (sub_cons rfl sub_nil)))) (by decide) pick_nil (ih1 (iadd .i64 x3 1) () _ hp)
      · intro K16 hK16
        rcases br_cases hp with ⟨h6, hp⟩ | ⟨h6, hp⟩
        · refine sx_skip' rfl rfl (wt_is' (wt_guard' rfl rfl rfl) (beq_tf h6)) ?_
          refine sx_skip' rfl rfl (wt_is' (wt_guard' rfl rfl rfl) (beq_tf h6)) ?_
          refine sx_skip' rfl rfl (wt_is' (wt_guard' rfl rfl rfl) (beq_tf h6)) ?_
          refine sx_skip' rfl rfl (wt_is' (wt_guard' rfl rfl rfl) (beq_tf h6)) ?_
          refine sx_rd' (rd_pick_true' rfl h6 rfl) rfl rfl (wt_none' rfl) ?_
          refine sx_nil' ?_
          show TX E K16 _
          exact tx_pick' [] (sub_cons rfl (sub_cons rfl (sub_cons rfl (sub_cons rfl (sub_cons rfl sub_nil))))) (by decide) pick_nil (hK16 true hp)
        · refine sx_rd' (rd_move' rfl) rfl rfl (wt_is' (wt_guard' rfl rfl rfl) (beq_ff h6)) ?_
          obtain ⟨r19, hr19, hp⟩ := bind_some hp
          refine sx_ox' (ox_calln' (ent_fn' Try.func38 isn38 rfl rfl) (math_Abs_sim _ hr19 : Go.Sx.Fn Try.prog 38 [(Vl (.float .f64 r11))] [] (fun x : Unit => (Vl (.float .f64 r19))) (fun x => [])) (Hn := fun x : Unit => []) (fun _ => rfl) rfl rfl) (wt_is' (wt_guard' rfl rfl rfl) (beq_ff h6)) fun ⟨⟩ => ?_
          refine sx_rd' (rd_move' rfl) rfl rfl (wt_is' (wt_guard' rfl rfl rfl) (beq_ff h6)) ?_
          refine sx_rd' (rd_bin' rfl rfl eg_flt ru_fgt) rfl rfl (wt_is' (wt_guard' rfl rfl rfl) (beq_ff h6)) ?_
          refine sx_rd' (rd_pick_false' rfl h6 rfl) rfl rfl (wt_none' rfl) ?_
          refine sx_nil' ?_
          show TX E K16 _
          exact tx_pick' [] (sub_cons rfl (sub_cons rfl (sub_cons rfl (sub_cons rfl (sub_cons rfl sub_nil))))) (by decide) pick_nil (hK16 (fgt r19 a0) hp)
    · replace hp := (br_f h5).symm.trans hp
      refine cx_exit' ?_
      replace hp := Option.some.inj hp
      subst hp
      show TX E (Zg E (Exit.exit 0) _ (Exit.exit 0)) _
      exact tx_zend' () rfl [] sub_nil (by decide) pick_nil
  · rcases y1 with v4 | v5
    · dsimp only at hp
      refine zg_out fun w4 => ?_
      replace hp := Option.some.inj hp
      subst hp
      refine tx_pick' (L' := [(4, (Vl (.bool false)))]) (H' := []) [] (sub_cons rfl sub_nil) (by decide) pick_nil ?_
      exact tx_ret1' Try.results44 rfl () (rv_tmp' rfl) (List.Sublist.refl _)
    · dsimp only at hp
      refine zg_out fun w5 => ?_
      show TX E K2 _
      refine tx_k' hK2 ?_
      refine cx_seq' fun K18 hK18 => ?_
      refine cx_region' ?_
      refine sx_rd' (rd_assign' rfl) rfl rfl (wt_none' rfl) ?_
      refine sx_nil' ?_
      show TX E K18 _
      refine tx_k' hK18 ?_
      refine cx_retc' ?_
      replace hp := Option.some.inj hp
      subst hp
      refine tx_pick' (L' := [(4, (Vl (.bool true)))]) (H' := []) [] (sub_cons rfl sub_nil) (by decide) pick_nil ?_
      exact tx_ret1' Try.results44 rfl () (rv_tmp' rfl) (List.Sublist.refl _)

def laws_planeTo_l1s (a1 : List (Nat × Nat)) (a0 : Nat) (k : Nat) (rec1 : Int → Option (Unit ⊕ Unit)) (x1 : Int) : Option (Unit ⊕ Unit) :=
  br (decide (x1 < (a1.length : Int)))
    ((idx a1 x1) >>= fun r11 =>
    (laws_wholeTo k a0 ([r11.1, r11.2])) >>= fun r19 =>
    br (!r19)
      (some (.inl ()))
      (rec1 (iadd .i64 x1 1)))
    (some (.inr ()))
def laws_planeTo_l1 (a1 : List (Nat × Nat)) (a0 : Nat) : Nat → Int → Option (Unit ⊕ Unit)
  | 0, _ => none
  | k + 1, v => laws_planeTo_l1s a1 a0 k (laws_planeTo_l1 a1 a0 k) v
def laws_planeTo (k : Nat) (a0 : Nat) (a1 : List (Nat × Nat)) : Option (Bool) :=
  (laws_planeTo_l1 a1 a0 k 0) >>= fun y1 => match y1 with
    | (.inl v2) =>
      (some false)
    | (.inr v3) =>
      (some true)

theorem laws_planeTo_sim {k : Nat}  (a0 : Nat) (a1 : List (Nat × Nat)) {out : Bool} (hp : laws_planeTo k a0 a1 = some out) : Go.Sx.Fn Try.prog 16 [(Vl (.float .f64 a0)), (Sl KT27 a1)] [] (fun w : Unit => (Vl (.bool out))) (fun w => []) := by
  unfold laws_planeTo at hp
  refine fn_of Try.func16 rfl Try.ntmps16 rfl fun E hM => ?_
  refine cx_seq' fun K1 hK1 => ?_
  refine cx_region' ?_
  refine sx_rd' (rd_assign' rfl) rfl rfl (wt_none' rfl) ?_
  refine sx_nil' ?_
  show TX E K1 _
  refine tx_k' hK1 ?_
  refine cx_seq' fun K2 hK2 => ?_
  refine cx_seq' fun K3 hK3 => ?_
  refine cx_region' ?_
  refine sx_rd' (rd_move' rfl) rfl rfl (wt_none' rfl) ?_
  refine sx_rd' (rd_len' rfl Try.underlying22) rfl rfl (wt_none' rfl) ?_
  refine sx_rd' (rd_move' rfl) rfl rfl (wt_none' rfl) ?_
  refine sx_nil' ?_
  show TX E K3 _
  refine tx_k' hK3 ?_
  refine cx_block' ?_
  obtain ⟨y1, hy1, hp⟩ := bind_some hp
  refine cx_loopg' (F := laws_planeTo_l1 a1 a0) (G := fun k R v => laws_planeTo_l1s a1 a0 k R v) (x := 0) (gh := ()) (fun (v1 : Int) (w1 : Unit) => (⟨22, [], [(0, (Vl (.float .f64 a0))), (7, (Sl KT27 a1)), (8, (Vl (.int .i64 (a1.length : Int)))), (9, (Vl (.int .i64 v1)))], []⟩ : St)) (fun (y : Unit ⊕ Unit) => match y with | (.inl v2) => Zg E Exit.ret (fun (w2 : Unit) => (⟨22, [], [(4, (Vl (.bool false)))], []⟩ : St)) | (.inr v3) => Zg E (Exit.exit 0) (fun (w3 : Unit) => (⟨22, [], [], []⟩ : St))) (fun _ => rfl) (fun _ _ => rfl) ?_ hy1 (tx_to' rfl [] (sub_cons rfl (sub_cons rfl (sub_cons rfl (sub_cons rfl sub_nil)))) (by decide) pick_nil) ?_
  · clear hp hy1
    clear y1
    intro k rec1 KY1 ih1
    rintro x1 ⟨⟩ y1 hp
    replace hp : laws_planeTo_l1s a1 a0 k rec1 x1 = some y1 := hp
    unfold laws_planeTo_l1s at hp
    refine cx_seq' fun K10 hK10 => ?_
    refine cx_region' ?_
    refine sx_rd' (rd_bin' rfl rfl eg_int ru_lss) rfl rfl (wt_none' rfl) ?_
    refine sx_nil' ?_
    show TX E K10 _
    refine tx_k' hK10 ?_
    refine cx_seq' fun K11 hK11 => ?_
    refine cx_cond' rfl (fun h4 => ?_) (fun h4 => ?_)
    · replace hp := (br_t h4).symm.trans hp
      refine cx_skip' ?_
      show TX E K11 _
      refine tx_k' hK11 ?_
      refine cx_seq' fun K12 hK12 => ?_
      refine cx_block' ?_
      refine cx_seq' fun K13 hK13 => ?_
      refine cx_region' ?_
      obtain ⟨r11, hr11, hp⟩ := bind_some hp
      refine sx_rd' (rd_at' (K := KT27) rfl rfl hr11 Try.underlying22 info27) rfl rfl (wt_none' rfl) ?_
      refine sx_rd' (rd_load_pt_agg' (nn := 2) rfl rfl agg27 (l' := [(Vl (.float .f64 r11.1)), (Vl (.float .f64 r11.2))]) rfl) rfl rfl (wt_none' rfl) ?_
      refine sx_ox' (ox_alloc' info27 rfl rfl rfl rfl (l := [(Vl (.float .f64 0)), (Vl (.float .f64 0))]) rfl) (wt_none' rfl) fun q6 => ?_
      refine sx_ox' (ox_store' (i := 0) (o := 0) rfl rfl (lv_ag _) ⟨rfl, rfl, rfl, rfl⟩ rfl info27 rfl (H' := [⟨.pointer (some q6), [(Vl (.float .f64 r11.1)), (Vl (.float .f64 r11.2))], 27, none⟩]) rfl) (wt_none' rfl) fun _ => ?_
      refine sx_nil' ?_
      show TX E K13 _
      refine tx_k' hK13 ?_
      refine cx_seq' fun K14 hK14 => ?_
      refine cx_region' ?_
      refine sx_rd' (rd_move' rfl) rfl rfl (wt_none' rfl) ?_
      refine sx_rd' (rd_field0' rfl Try.underlying27 rfl info25 rfl) rfl rfl (wt_none' rfl) ?_
      refine sx_rd' (rd_load' (i := 0) (o := 0) rfl ⟨rfl, rfl, rfl, rfl⟩ rfl flat25) rfl rfl (wt_none' rfl) ?_
      refine sx_rd' (rd_field' (off := 1) rfl Try.underlying27 rfl info25 rfl) rfl rfl (wt_none' rfl) ?_
      refine sx_rd' (rd_load' (i := 0) (o := 1) rfl ⟨rfl, rfl, rfl, rfl⟩ rfl flat25) rfl rfl (wt_none' rfl) ?_
      refine sx_ox' (ox_rowlit' (K := Kf) (xs := [r11.1, r11.2]) (qs := [(0, [(Vl (.float .f64 r11.1))]), (1, [(Vl (.float .f64 r11.2))])]) ⟨rfl, ⟨_, rfl, (lv_vl rfl rfl)⟩, ⟨rfl, ⟨_, rfl, (lv_vl rfl rfl)⟩, trivial⟩⟩ Try.underlying30 info25 rfl rfl rfl rfl rfl (by kernel_rfl) rfl rfl rfl) (wt_none' rfl) fun g18 => ?_
      obtain ⟨r19, hr19, hp⟩ := bind_some hp
      refine sx_ox' (ox_brw' (frz_row 0 [(18, (Vl (Vs g18)), (Sl Kf ([r11.1, r11.2])))] (K := Kf) (xs := [r11.1, r11.2]) (by decide) rfl ⟨⟨rfl, frz_it⟩, trivial⟩ (H' := [⟨.pointer (some q6), [(Vl (.float .f64 r11.1)), (Vl (.float .f64 r11.2))], 27, none⟩]) frzH_refl) (ent_fn' Try.func44 isn44 rfl rfl) (laws_wholeTo_sim _ _ hr19 : Go.Sx.Fn Try.prog 44 [(Vl (.float .f64 a0)), (Sl Kf ([r11.1, r11.2]))] [] (fun x : Unit => (Vl (.bool r19))) (fun x => [])) pu_vl rfl rfl) (wt_none' rfl) fun ⟨⟩ => ?_
      refine sx_rd' (rd_un' rfl ru_not) rfl rfl (wt_none' rfl) ?_
      refine sx_nil' ?_
      show TX E K14 _
      refine tx_k' hK14 ?_
      refine cx_cond' rfl (fun h5 => ?_) (fun h5 => ?_)
      · replace hp := (br_t h5).symm.trans hp
        refine cx_seq' fun K15 hK15 => ?_
        refine cx_region' ?_
        refine sx_rd' (rd_assign' rfl) rfl rfl (wt_none' rfl) ?_
        refine sx_nil' ?_
        show TX E K15 _
        refine tx_k' hK15 ?_
        refine cx_retc' ?_
        replace hp := Option.some.inj hp
        subst hp
        show TX E (Zg E Exit.ret _ Exit.ret) _
        exact tx_zend' () rfl [] (sub_cons rfl sub_nil) (by decide) pick_nil
      · replace hp := (br_f h5).symm.trans hp
        refine cx_skip' ?_
        show TX E K12 _
        refine tx_k' hK12 ?_
        refine cx_region' ?_
        refine sx_rd' (rd_bin' rfl rfl eg_int ru_add) rfl rfl (wt_none' rfl) ?_
        refine sx_rd' (rd_move' rfl) rfl rfl (wt_none' rfl) ?_
        refine sx_nil' ?_
        show TX E (KY1 _) _
        exact tx_pick' [] (sub_cons rfl (sub_cons rfl (sub_cons rfl (sub_cons rfl sub_nil)))) (by decide) pick_nil (ih1 (iadd .i64 x1 1) () _ hp)
    · replace hp := (br_f h4).symm.trans hp
      refine cx_exit' ?_
      replace hp := Option.some.inj hp
      subst hp
      show TX E (Zg E (Exit.exit 0) _ (Exit.exit 0)) _
      exact tx_zend' () rfl [] sub_nil (by decide) pick_nil
  · rcases y1 with v2 | v3
    · dsimp only at hp
      refine zg_out fun w2 => ?_
      replace hp := Option.some.inj hp
      subst hp
      refine tx_pick' (L' := [(4, (Vl (.bool false)))]) (H' := []) [] (sub_cons rfl sub_nil) (by decide) pick_nil ?_
      exact tx_ret1' Try.results16 rfl () (rv_tmp' rfl) (List.Sublist.refl _)
    · dsimp only at hp
      refine zg_out fun w3 => ?_
      show TX E K2 _
      refine tx_k' hK2 ?_
      refine cx_seq' fun K16 hK16 => ?_
      refine cx_region' ?_
      refine sx_rd' (rd_assign' rfl) rfl rfl (wt_none' rfl) ?_
      refine sx_nil' ?_
      show TX E K16 _
      refine tx_k' hK16 ?_
      refine cx_retc' ?_
      replace hp := Option.some.inj hp
      subst hp
      refine tx_pick' (L' := [(4, (Vl (.bool true)))]) (H' := []) [] (sub_cons rfl sub_nil) (by decide) pick_nil ?_
      exact tx_ret1' Try.results16 rfl () (rv_tmp' rfl) (List.Sublist.refl _)

def spec_trim_j2 (k : Nat) (x3 : List Int) (rec1 : (List Int) → Option ((List Int))) (x2 : Bool) : Option ((List Int)) :=
  br x2
    ((cut x3 0 (isub .i64 (x3.length : Int) 1)) >>= fun r19 =>
    rec1 r19)
    (some x3)
def spec_trim_l1s  (k : Nat) (rec1 : (List Int) → Option ((List Int))) (x3 : List Int) : Option ((List Int)) :=
  br (decide (0 < (x3.length : Int)))
    ((idx x3 (isub .i64 (x3.length : Int) 1)) >>= fun r11 =>
    spec_trim_j2 k x3 rec1 (decide (r11 = 0)))
    (spec_trim_j2 k x3 rec1 false)
def spec_trim_l1  : Nat → (List Int) → Option ((List Int))
  | 0, _ => none
  | k + 1, v => spec_trim_l1s k (spec_trim_l1 k) v
def spec_trim (k : Nat) (a0 : List Int) : Option ((List Int)) :=
  (spec_trim_l1 k a0) >>= fun v4 =>
  some v4

theorem spec_trim_sim {k : Nat}  (a0 : List Int) {out : (List Int)} (hp : spec_trim k a0 = some out) : Go.Sx.Fn Try.prog 135 [(Sl (Ki .u32) a0)] [] (fun w : Unit => (Sl (Ki .u32) out)) (fun w => []) := by
  unfold spec_trim at hp
  refine fn_of Try.func135 rfl Try.ntmps135 rfl fun E hM => ?_
  refine cx_seq' fun K1 hK1 => ?_
  refine cx_region' ?_
  refine sx_rd' (rd_assign' rfl) rfl rfl (wt_none' rfl) ?_
  refine sx_nil' ?_
  show TX E K1 _
  refine tx_k' hK1 ?_
  refine cx_seq' fun K2 hK2 => ?_
  refine cx_block' ?_
  obtain ⟨v4, hy1, hp⟩ := bind_some hp
  refine cx_loopg' (F := spec_trim_l1) (G := fun k R v => spec_trim_l1s k R v) (x := a0) (gh := ()) (fun (v2 : (List Int)) (w2 : Unit) => (⟨21, [], [(0, (Sl (Ki .u32) v2))], []⟩ : St)) (fun (v4 : (List Int)) => Zg E (Exit.exit 0) (fun (w4 : Unit) => (⟨21, [], [(0, (Sl (Ki .u32) v4))], []⟩ : St))) (fun _ => rfl) (fun _ _ => rfl) ?_ hy1 (tx_to' rfl [] (sub_cons rfl sub_nil) (by decide) pick_nil) ?_
  · clear hp hy1
    clear v4
    intro k rec1 KY1 ih1
    rintro x3 ⟨⟩ y1 hp
    replace hp : spec_trim_l1s k rec1 x3 = some y1 := hp
    unfold spec_trim_l1s at hp
    refine cx_seq' fun K6 hK6 => ?_
    refine cx_seq' fun K7 hK7 => ?_
    refine cx_region' ?_
    refine sx_rd' (rd_move' rfl) rfl rfl (wt_none' rfl) ?_
    refine sx_rd' (rd_len' rfl Try.underlying36) rfl rfl (wt_none' rfl) ?_
    refine sx_rd' (rd_bin' rfl rfl eg_int ru_gtr) rfl rfl (wt_none' rfl) ?_
    refine sx_rd' (rd_move' rfl) rfl rfl (wt_none' rfl) ?_
    refine sx_cutn' 8 (fun (v3 : Bool) => (⟨21, [], [(0, (Sl (Ki .u32) x3)), (14, (Vl (.bool v3)))], []⟩ : St)) (fun (v3 : Bool) => spec_trim_j2 k x3 rec1 v3 = some y1) ?_ ?_
    · rintro x2 hp
      replace hp : spec_trim_j2 k x3 rec1 x2 = some y1 := hp
      unfold spec_trim_j2 at hp
      refine sx_nil' ?_
      show TX E K7 _
      refine tx_k' hK7 ?_
      refine cx_cond' rfl (fun h5 => ?_) (fun h5 => ?_)
      · replace hp := (br_t h5).symm.trans hp
        refine cx_skip' ?_
        show TX E K6 _
        refine tx_k' hK6 ?_
        refine cx_block' ?_
        refine cx_region' ?_
        refine sx_rd' (rd_move' rfl) rfl rfl (wt_none' rfl) ?_
        refine sx_rd' (rd_move' rfl) rfl rfl (wt_none' rfl) ?_
        refine sx_rd' (rd_len' rfl Try.underlying36) rfl rfl (wt_none' rfl) ?_
        refine sx_rd' (rd_bin' rfl rfl eg_int ru_sub) rfl rfl (wt_none' rfl) ?_
        obtain ⟨r19, hr19, hp⟩ := bind_some hp
        refine sx_rd' (rd_cut_h' rfl rfl hr19 Try.underlying36 info152) rfl rfl (wt_none' rfl) ?_
        refine sx_rd' (rd_assign' rfl) rfl rfl (wt_none' rfl) ?_
        refine sx_nil' ?_
        show TX E (KY1 _) _
        exact tx_pick' [] (sub_cons rfl sub_nil) (by decide) pick_nil (ih1 r19 () _ hp)
      · replace hp := (br_f h5).symm.trans hp
        refine cx_exit' ?_
        replace hp := Option.some.inj hp
        subst hp
        show TX E (Zg E (Exit.exit 0) _ (Exit.exit 0)) _
        exact tx_zend' () rfl [] (sub_cons rfl sub_nil) (by decide) pick_nil
    · intro K8 hK8
      rcases br_cases hp with ⟨h4, hp⟩ | ⟨h4, hp⟩
      · refine sx_rd' (rd_move' rfl) rfl rfl (wt_is' (wt_guard' rfl rfl rfl) (beq_tt h4)) ?_
        refine sx_rd' (rd_move' rfl) rfl rfl (wt_is' (wt_guard' rfl rfl rfl) (beq_tt h4)) ?_
        refine sx_rd' (rd_len' rfl Try.underlying36) rfl rfl (wt_is' (wt_guard' rfl rfl rfl) (beq_tt h4)) ?_
        refine sx_rd' (rd_bin' rfl rfl eg_int ru_sub) rfl rfl (wt_is' (wt_guard' rfl rfl rfl) (beq_tt h4)) ?_
        obtain ⟨r11, hr11, hp⟩ := bind_some hp
        refine sx_rd' (rd_at' (K := (Ki .u32)) rfl rfl hr11 Try.underlying36 info152) rfl rfl (wt_is' (wt_guard' rfl rfl rfl) (beq_tt h4)) ?_
        refine sx_rd' (rd_load_pt' rfl rfl flat152) rfl rfl (wt_is' (wt_guard' rfl rfl rfl) (beq_tt h4)) ?_
        refine sx_rd' (rd_bin' rfl rfl eg_int ru_eql) rfl rfl (wt_is' (wt_guard' rfl rfl rfl) (beq_tt h4)) ?_
        refine sx_rd' (rd_pick_true' rfl h4 rfl) rfl rfl (wt_none' rfl) ?_
        refine sx_nil' ?_
        show TX E K8 _
        exact tx_pick' [] (sub_cons rfl (sub_cons rfl sub_nil)) (by decide) pick_nil (hK8 (decide (r11 = 0)) hp)
      · refine sx_skip' rfl rfl (wt_is' (wt_guard' rfl rfl rfl) (beq_ft h4)) ?_
        refine sx_skip' rfl rfl (wt_is' (wt_guard' rfl rfl rfl) (beq_ft h4)) ?_
        refine sx_skip' rfl rfl (wt_is' (wt_guard' rfl rfl rfl) (beq_ft h4)) ?_
        refine sx_skip' rfl rfl (wt_is' (wt_guard' rfl rfl rfl) (beq_ft h4)) ?_
        refine sx_skip' rfl rfl (wt_is' (wt_guard' rfl rfl rfl) (beq_ft h4)) ?_
        refine sx_skip' rfl rfl (wt_is' (wt_guard' rfl rfl rfl) (beq_ft h4)) ?_
        refine sx_skip' rfl rfl (wt_is' (wt_guard' rfl rfl rfl) (beq_ft h4)) ?_
        refine sx_rd' (rd_pick_false' rfl h4 rfl) rfl rfl (wt_none' rfl) ?_
        refine sx_nil' ?_
        show TX E K8 _
        exact tx_pick' [] (sub_cons rfl (sub_cons rfl sub_nil)) (by decide) pick_nil (hK8 false hp)
  · refine zg_out fun w4 => ?_
    show TX E K2 _
    refine tx_k' hK2 ?_
    refine cx_seq' fun K9 hK9 => ?_
    refine cx_region' ?_
    refine sx_rd' (rd_move' rfl) rfl rfl (wt_none' rfl) ?_
    refine sx_rd' (rd_assign' rfl) rfl rfl (wt_none' rfl) ?_
    refine sx_nil' ?_
    show TX E K9 _
    refine tx_k' hK9 ?_
    refine cx_retc' ?_
    replace hp := Option.some.inj hp
    subst hp
    refine tx_pick' (L' := [(2, (Sl (Ki .u32) v4))]) (H' := []) [] (sub_cons rfl sub_nil) (by decide) pick_nil ?_
    exact tx_ret1' Try.results135 rfl () (rv_tmp' rfl) (List.Sublist.refl _)

def spec_WholeOf_j1 (k : Nat) (a0 : Int) (x1 : Int) : Option (Bool × (List Int)) :=
  (ishr .u64 x1 32) >>= fun r15 =>
  (spec_trim k ([icv .u32 x1, icv .u32 r15])) >>= fun r18 =>
  some (decide (a0 < 0), r18)
def spec_WholeOf (k : Nat) (a0 : Int) : Option (Bool × (List Int)) :=
  br (decide (a0 < 0))
    (spec_WholeOf_j1 k a0 (isub .u64 0 (icv .u64 a0)))
    (spec_WholeOf_j1 k a0 (icv .u64 a0))

theorem spec_WholeOf_sim {k : Nat}  (a0 : Int) {out : Bool × (List Int)} (hp : spec_WholeOf k a0 = some out) : Go.Sx.Fn Try.prog 93 [(Vl (.int .i64 a0))] [] (fun w : Unit => (Ag [(Vl (.bool out.1)), (Sl (Ki .u32) out.2)])) (fun w => []) := by
  unfold spec_WholeOf at hp
  refine fn_of Try.func93 rfl Try.ntmps93 rfl fun E hM => ?_
  refine cx_seq' fun K1 hK1 => ?_
  refine cx_region' ?_
  refine sx_ox' (ox_alloc' info38 rfl rfl rfl rfl (l := [(Vl (.bool false)), (Vl (.slice none 0 0))]) rfl) (wt_none' rfl) fun q2 => ?_
  refine sx_nil' ?_
  show TX E K1 _
  refine tx_k' hK1 ?_
  refine cx_seq' fun K2 hK2 => ?_
  refine cx_region' ?_
  refine sx_rd' (rd_move' rfl) rfl rfl (wt_none' rfl) ?_
  refine sx_rd' (rd_conv' rfl (ru_i2i (by rw [Try.underlying2]; rfl) Try.underlying112)) rfl rfl (wt_none' rfl) ?_
  refine sx_rd' (rd_assign' rfl) rfl rfl (wt_none' rfl) ?_
  refine sx_nil' ?_
  show TX E K2 _
  refine tx_k' hK2 ?_
  refine cx_join' (fun (v1 : Int) => (⟨20, [], [(0, (Vl (.int .i64 a0))), (2, (Vl (.pointer (some q2)))), (3, (Vl (.int .u64 v1)))], [⟨.pointer (some q2), [(Vl (.bool false)), (Vl (.slice none 0 0))], 38, none⟩]⟩ : St)) (fun (v1 : Int) => spec_WholeOf_j1 k a0 v1 = some out) ?_ ?_
  · rintro x1 hp
    replace hp : spec_WholeOf_j1 k a0 x1 = some out := hp
    unfold spec_WholeOf_j1 at hp
    refine cx_seq' fun K5 hK5 => ?_
    refine cx_region' ?_
    refine sx_rd' (rd_move' rfl) rfl rfl (wt_none' rfl) ?_
    refine sx_rd' (rd_bin' rfl rfl eg_int ru_lss) rfl rfl (wt_none' rfl) ?_
    refine sx_rd' (rd_move' rfl) rfl rfl (wt_none' rfl) ?_
    refine sx_rd' (rd_conv' rfl (ru_i2i (by rw [Try.underlying112]; rfl) Try.underlying152)) rfl rfl (wt_none' rfl) ?_
    refine sx_rd' (rd_move' rfl) rfl rfl (wt_none' rfl) ?_
    obtain ⟨r15, hr15, hp⟩ := bind_some hp
    refine sx_rd' (rd_bin' rfl rfl eg_int (ru_shr hr15)) rfl rfl (wt_none' rfl) ?_
    refine sx_rd' (rd_conv' rfl (ru_i2i (by rw [Try.underlying112]; rfl) Try.underlying152)) rfl rfl (wt_none' rfl) ?_
    refine sx_ox' (ox_rowlit' (K := (Ki .u32)) (xs := [icv .u32 x1, icv .u32 r15]) (qs := [(0, [(Vl (.int .u32 (icv .u32 x1)))]), (1, [(Vl (.int .u32 (icv .u32 r15)))])]) ⟨rfl, ⟨_, rfl, (lv_vl rfl rfl)⟩, ⟨rfl, ⟨_, rfl, (lv_vl rfl rfl)⟩, trivial⟩⟩ Try.underlying36 info152 rfl rfl rfl rfl rfl (by kernel_rfl) rfl rfl rfl) (wt_none' rfl) fun g17 => ?_
    refine tx_fz' (frz_row 0 [(17, (Vl (Vs g17)), (Sl (Ki .u32) ([icv .u32 x1, icv .u32 r15])))] (K := (Ki .u32)) (xs := [icv .u32 x1, icv .u32 r15]) (by decide) rfl ⟨⟨rfl, frz_it⟩, trivial⟩ (H' := [⟨.pointer (some q2), [(Vl (.bool false)), (Vl (.slice none 0 0))], 38, none⟩]) frzH_refl) ?_
    obtain ⟨r18, hr18, hp⟩ := bind_some hp
    refine sx_ox' (ox_calln' (ent_fn' Try.func135 isn135 rfl rfl) (spec_trim_sim _ hr18 : Go.Sx.Fn Try.prog 135 [(Sl (Ki .u32) ([icv .u32 x1, icv .u32 r15]))] [] (fun x : Unit => (Sl (Ki .u32) r18)) (fun x => [])) (Hn := fun x : Unit => [⟨.pointer (some q2), [(Vl (.bool false)), (Vl (.slice none 0 0))], 38, none⟩]) (fun _ => rfl) rfl rfl) (wt_none' rfl) fun ⟨⟩ => ?_
    refine sx_rd' (rd_build' (pls := [(0, 1), (1, 1)]) (qs := [(0, [(Vl (.bool (decide (a0 < 0))))]), (1, [(Sl (Ki .u32) r18)])]) (r := [(Vl (.bool (decide (a0 < 0)))), (Sl (Ki .u32) r18)]) ⟨rfl, ⟨_, rfl, (lv_vl rfl rfl)⟩, ⟨rfl, ⟨_, rfl, (lv_sl _ _)⟩, trivial⟩⟩ Try.underlying38 has38 places38 info38 rfl rfl rfl) rfl rfl (wt_none' rfl) ?_
    refine sx_ox' (ox_store' (i := 0) (o := 0) rfl rfl (lv_ag _) ⟨rfl, rfl, rfl, rfl⟩ rfl info38 rfl (H' := [⟨.pointer (some q2), [(Vl (.bool (decide (a0 < 0)))), (Sl (Ki .u32) r18)], 38, none⟩]) rfl) (wt_none' rfl) fun _ => ?_
    refine sx_nil' ?_
    show TX E K5 _
    refine tx_k' hK5 ?_
    refine cx_retc' ?_
    replace hp := Option.some.inj hp
    subst hp
    refine tx_pick' (L' := [(2, (Vl (.pointer (some q2))))]) (H' := [⟨.pointer (some q2), [(Vl (.bool (decide (a0 < 0)))), (Sl (Ki .u32) r18)], 38, none⟩]) [0] (sub_cons rfl sub_nil) (by decide) (pick_cons rfl pick_nil) ?_
    exact tx_ret1' Try.results93 rfl () (rv_cell_agg' (i := 0) (o := 0) (nn := 2) rfl ⟨rfl, rfl, rfl, rfl⟩ rfl agg38 rfl) (List.nil_sublist _)
  · intro K3 hK3
    refine cx_seq' fun K4 hK4 => ?_
    refine cx_region' ?_
    refine sx_rd' (rd_move' rfl) rfl rfl (wt_none' rfl) ?_
    refine sx_rd' (rd_bin' rfl rfl eg_int ru_lss) rfl rfl (wt_none' rfl) ?_
    refine sx_nil' ?_
    show TX E K4 _
    refine tx_k' hK4 ?_
    refine cx_cond' rfl (fun h1 => ?_) (fun h1 => ?_)
    · replace hp := (br_t h1).symm.trans hp
      refine cx_region' ?_
      refine sx_rd' (rd_move' rfl) rfl rfl (wt_none' rfl) ?_
      refine sx_rd' (rd_un' rfl ru_ineg) rfl rfl (wt_none' rfl) ?_
      refine sx_rd' (rd_assign' rfl) rfl rfl (wt_none' rfl) ?_
      refine sx_nil' ?_
      show TX E K3 _
      exact tx_pick' [0] (sub_cons rfl (sub_cons rfl (sub_cons rfl sub_nil))) (by decide) (pick_cons rfl pick_nil) (hK3 (isub .u64 0 (icv .u64 a0)) hp)
    · replace hp := (br_f h1).symm.trans hp
      refine cx_skip' ?_
      show TX E K3 _
      exact tx_pick' [0] (sub_cons rfl (sub_cons rfl (sub_cons rfl sub_nil))) (by decide) (pick_cons rfl pick_nil) (hK3 (icv .u64 a0) hp)

def spec_DyadicOf_j2 (k : Nat) (x2 : Int) (x3 : Int) : Option (Bool × (List Int) × Int) :=
  (spec_WholeOf k x3) >>= fun r29 =>
  some (r29.1, r29.2, isub .i64 x2 1075)
def spec_DyadicOf_j1 (k : Nat) (a0 : Nat) (x1 : Int) (x2 : Int) : Option (Bool × (List Int) × Int) :=
  (ishr .u64 (fbits a0) 63) >>= fun r24 =>
  br (decide (r24 = 1))
    (spec_DyadicOf_j2 k x2 (isub .i64 0 x1))
    (spec_DyadicOf_j2 k x2 x1)
def spec_DyadicOf (k : Nat) (a0 : Nat) : Option (Bool × (List Int) × Int) :=
  (ishr .u64 (fbits a0) 52) >>= fun r12 =>
  br (decide ((icv .i64 (iand .u64 r12 2047)) = 2047))
    (some (false, [], 0))
    (br (decide ((icv .i64 (iand .u64 r12 2047)) = 0))
      (spec_DyadicOf_j1 k a0 (icv .i64 (iand .u64 (fbits a0) 4503599627370495)) 1)
      (spec_DyadicOf_j1 k a0 (iadd .i64 (icv .i64 (iand .u64 (fbits a0) 4503599627370495)) 4503599627370496) (icv .i64 (iand .u64 r12 2047))))

theorem spec_DyadicOf_sim {k : Nat}  (a0 : Nat) {out : Bool × (List Int) × Int} (hp : spec_DyadicOf k a0 = some out) : Go.Sx.Fn Try.prog 46 [(Vl (.float .f64 a0))] [] (fun w : Unit => (Ag [(Vl (.bool out.1)), (Sl (Ki .u32) out.2.1), (Vl (.int .i64 out.2.2))])) (fun w => []) := by
  unfold spec_DyadicOf at hp
  refine fn_of Try.func46 rfl Try.ntmps46 rfl fun E hM => ?_
  refine cx_seq' fun K1 hK1 => ?_
  refine cx_region' ?_
  refine sx_ox' (ox_alloc' info40 rfl rfl rfl rfl (l := [(Vl (.bool false)), (Vl (.slice none 0 0)), (Vl (.int .i64 0))]) rfl) (wt_none' rfl) fun q2 => ?_
  refine sx_nil' ?_
  show TX E K1 _
  refine tx_k' hK1 ?_
  refine cx_seq' fun K2 hK2 => ?_
  refine cx_region' ?_
  refine sx_rd' (rd_move' rfl) rfl rfl (wt_none' rfl) ?_
  refine sx_rd' (rd_ext' (us := [.float .f64 a0]) rfl (ext85 ex_bits)) rfl rfl (wt_none' rfl) ?_
  refine sx_rd' (rd_assign' rfl) rfl rfl (wt_none' rfl) ?_
  refine sx_nil' ?_
  show TX E K2 _
  refine tx_k' hK2 ?_
  refine cx_seq' fun K3 hK3 => ?_
  refine cx_region' ?_
  refine sx_rd' (rd_move' rfl) rfl rfl (wt_none' rfl) ?_
  refine sx_rd' (rd_bin' rfl rfl eg_int ru_and) rfl rfl (wt_none' rfl) ?_
  refine sx_rd' (rd_conv' rfl (ru_i2i (by rw [Try.underlying112]; rfl) Try.underlying2)) rfl rfl (wt_none' rfl) ?_
  refine sx_rd' (rd_move' rfl) rfl rfl (wt_none' rfl) ?_
  obtain ⟨r12, hr12, hp⟩ := bind_some hp
  refine sx_rd' (rd_bin' rfl rfl eg_int (ru_shr hr12)) rfl rfl (wt_none' rfl) ?_
  refine sx_rd' (rd_bin' rfl rfl eg_int ru_and) rfl rfl (wt_none' rfl) ?_
  refine sx_rd' (rd_conv' rfl (ru_i2i (by rw [Try.underlying112]; rfl) Try.underlying3)) rfl rfl (wt_none' rfl) ?_
  refine sx_rd' (rd_assign' rfl) rfl rfl (wt_none' rfl) ?_
  refine sx_rd' (rd_assign' rfl) rfl rfl (wt_none' rfl) ?_
  refine sx_nil' ?_
  show TX E K3 _
  refine tx_k' hK3 ?_
  refine cx_join' (fun (v1 : Int × Int) => (⟨33, [], [(2, (Vl (.pointer (some q2)))), (3, (Vl (.int .u64 (fbits a0)))), (4, (Vl (.int .i64 v1.1))), (5, (Vl (.int .i64 v1.2)))], [⟨.pointer (some q2), [(Vl (.bool false)), (Vl (.slice none 0 0)), (Vl (.int .i64 0))], 40, none⟩]⟩ : St)) (fun (v1 : Int × Int) => spec_DyadicOf_j1 k a0 v1.1 v1.2 = some out) ?_ ?_
  · rintro ⟨x1, x2⟩ hp
    replace hp : spec_DyadicOf_j1 k a0 x1 x2 = some out := hp
    unfold spec_DyadicOf_j1 at hp
    refine cx_join' (fun (v2 : Int) => (⟨33, [], [(2, (Vl (.pointer (some q2)))), (4, (Vl (.int .i64 v2))), (5, (Vl (.int .i64 x2)))], [⟨.pointer (some q2), [(Vl (.bool false)), (Vl (.slice none 0 0)), (Vl (.int .i64 0))], 40, none⟩]⟩ : St)) (fun (v2 : Int) => spec_DyadicOf_j2 k x2 v2 = some out) ?_ ?_
    · rintro x3 hp
      replace hp : spec_DyadicOf_j2 k x2 x3 = some out := hp
      unfold spec_DyadicOf_j2 at hp
      refine cx_seq' fun K11 hK11 => ?_
      refine cx_region' ?_
      refine sx_rd' (rd_move' rfl) rfl rfl (wt_none' rfl) ?_
      obtain ⟨r29, hr29, hp⟩ := bind_some hp
      refine sx_ox' (ox_calln' (ent_fn' Try.func93 isn93 rfl rfl) (spec_WholeOf_sim _ hr29 : Go.Sx.Fn Try.prog 93 [(Vl (.int .i64 x3))] [] (fun x : Unit => (Ag [(Vl (.bool r29.1)), (Sl (Ki .u32) r29.2)])) (fun x => [])) (Hn := fun x : Unit => [⟨.pointer (some q2), [(Vl (.bool false)), (Vl (.slice none 0 0)), (Vl (.int .i64 0))], 40, none⟩]) (fun _ => rfl) rfl rfl) (wt_none' rfl) fun ⟨⟩ => ?_
      refine sx_rd' (rd_move' rfl) rfl rfl (wt_none' rfl) ?_
      refine sx_rd' (rd_bin' rfl rfl eg_int ru_sub) rfl rfl (wt_none' rfl) ?_
      refine sx_rd' (rd_build' (pls := [(0, 2), (2, 1)]) (qs := [(0, [(Vl (.bool r29.1)), (Sl (Ki .u32) r29.2)]), (1, [(Vl (.int .i64 (isub .i64 x2 1075)))])]) (r := [(Vl (.bool r29.1)), (Sl (Ki .u32) r29.2), (Vl (.int .i64 (isub .i64 x2 1075)))]) ⟨rfl, ⟨_, rfl, (lv_ag _)⟩, ⟨rfl, ⟨_, rfl, (lv_vl rfl rfl)⟩, trivial⟩⟩ Try.underlying40 has40 places40 info40 rfl rfl rfl) rfl rfl (wt_none' rfl) ?_
      refine sx_ox' (ox_store' (i := 0) (o := 0) rfl rfl (lv_ag _) ⟨rfl, rfl, rfl, rfl⟩ rfl info40 rfl (H' := [⟨.pointer (some q2), [(Vl (.bool r29.1)), (Sl (Ki .u32) r29.2), (Vl (.int .i64 (isub .i64 x2 1075)))], 40, none⟩]) rfl) (wt_none' rfl) fun _ => ?_
      refine sx_nil' ?_
      show TX E K11 _
      refine tx_k' hK11 ?_
      refine cx_retc' ?_
      replace hp := Option.some.inj hp
      subst hp
      refine tx_pick' (L' := [(2, (Vl (.pointer (some q2))))]) (H' := [⟨.pointer (some q2), [(Vl (.bool r29.1)), (Sl (Ki .u32) r29.2), (Vl (.int .i64 (isub .i64 x2 1075)))], 40, none⟩]) [0] (sub_cons rfl sub_nil) (by decide) (pick_cons rfl pick_nil) ?_
      exact tx_ret1' Try.results46 rfl () (rv_cell_agg' (i := 0) (o := 0) (nn := 3) rfl ⟨rfl, rfl, rfl, rfl⟩ rfl agg40 rfl) (List.nil_sublist _)
    · intro K9 hK9
      refine cx_seq' fun K10 hK10 => ?_
      refine cx_region' ?_
      refine sx_rd' (rd_move' rfl) rfl rfl (wt_none' rfl) ?_
      obtain ⟨r24, hr24, hp⟩ := bind_some hp
      refine sx_rd' (rd_bin' rfl rfl eg_int (ru_shr hr24)) rfl rfl (wt_none' rfl) ?_
      refine sx_rd' (rd_bin' rfl rfl eg_int ru_eql) rfl rfl (wt_none' rfl) ?_
      refine sx_nil' ?_
      show TX E K10 _
      refine tx_k' hK10 ?_
      refine cx_cond' rfl (fun h3 => ?_) (fun h3 => ?_)
      · replace hp := (br_t h3).symm.trans hp
        refine cx_region' ?_
        refine sx_rd' (rd_move' rfl) rfl rfl (wt_none' rfl) ?_
        refine sx_rd' (rd_un' rfl ru_ineg) rfl rfl (wt_none' rfl) ?_
        refine sx_rd' (rd_assign' rfl) rfl rfl (wt_none' rfl) ?_
        refine sx_nil' ?_
        show TX E K9 _
        exact tx_pick' [0] (sub_cons rfl (sub_cons rfl (sub_cons rfl sub_nil))) (by decide) (pick_cons rfl pick_nil) (hK9 (isub .i64 0 x1) hp)
      · replace hp := (br_f h3).symm.trans hp
        refine cx_skip' ?_
        show TX E K9 _
        exact tx_pick' [0] (sub_cons rfl (sub_cons rfl (sub_cons rfl sub_nil))) (by decide) (pick_cons rfl pick_nil) (hK9 x1 hp)
  · intro K4 hK4
    refine cx_seq' fun K5 hK5 => ?_
    refine cx_region' ?_
    refine sx_rd' (rd_move' rfl) rfl rfl (wt_none' rfl) ?_
    refine sx_nil' ?_
    show TX E K5 _
    refine tx_k' hK5 ?_
    refine cx_block' ?_
    refine cx_seq' fun K6 hK6 => ?_
    refine cx_region' ?_
    refine sx_rd' (rd_bin' rfl rfl eg_int ru_eql) rfl rfl (wt_none' rfl) ?_
    refine sx_rd' (rd_assign' rfl) rfl rfl (wt_none' rfl) ?_
    refine sx_nil' ?_
    show TX E K6 _
    refine tx_k' hK6 ?_
    refine cx_cond' rfl (fun h1 => ?_) (fun h1 => ?_)
    · replace hp := (br_t h1).symm.trans hp
      refine cx_seq' fun K7 hK7 => ?_
      refine cx_region' ?_
      refine sx_rd' (rd_build' (pls := [(0, 2), (2, 1)]) (qs := []) (r := [(Vl (.bool false)), (Vl (.slice none 0 0)), (Vl (.int .i64 0))]) trivial Try.underlying40 has40 places40 info40 rfl rfl rfl) rfl rfl (wt_none' rfl) ?_
      refine sx_ox' (ox_store' (i := 0) (o := 0) rfl rfl (lv_ag _) ⟨rfl, rfl, rfl, rfl⟩ rfl info40 rfl (H' := [⟨.pointer (some q2), [(Vl (.bool false)), (Vl (.slice none 0 0)), (Vl (.int .i64 0))], 40, none⟩]) rfl) (wt_none' rfl) fun _ => ?_
      refine sx_nil' ?_
      show TX E K7 _
      refine tx_k' hK7 ?_
      refine cx_retc' ?_
      replace hp := Option.some.inj hp
      subst hp
      refine tx_pick' (L' := [(2, (Vl (.pointer (some q2))))]) (H' := [⟨.pointer (some q2), [(Vl (.bool false)), (Vl (.slice none 0 0)), (Vl (.int .i64 0))], 40, none⟩]) [0] (sub_cons rfl sub_nil) (by decide) (pick_cons rfl pick_nil) ?_
      exact tx_ret1' Try.results46 rfl () (rv_imp' (x := (Ag [(Vl (.bool false)), (Vl (.slice none 0 0)), (Vl (.int .i64 0))])) (y := (Ag [(Vl (.bool false)), (Sl (Ki .u32) []), (Vl (.int .i64 0))])) (rv_cell_agg' (i := 0) (o := 0) (nn := 3) rfl ⟨rfl, rfl, rfl, rfl⟩ rfl agg40 rfl) (imp_ag ⟨imp_refl, imp_nil, imp_refl, trivial⟩)) (List.nil_sublist _)
    · replace hp := (br_f h1).symm.trans hp
      refine cx_seq' fun K8 hK8 => ?_
      refine cx_region' ?_
      refine sx_rd' (rd_bin' rfl rfl eg_int ru_eql) rfl rfl (wt_none' rfl) ?_
      refine sx_rd' (rd_assign' rfl) rfl rfl (wt_none' rfl) ?_
      refine sx_nil' ?_
      show TX E K8 _
      refine tx_k' hK8 ?_
      refine cx_cond' rfl (fun h2 => ?_) (fun h2 => ?_)
      · replace hp := (br_t h2).symm.trans hp
        refine cx_region' ?_
        refine sx_rd' (rd_assign' rfl) rfl rfl (wt_none' rfl) ?_
        refine sx_nil' ?_
        show TX E K4 _
        exact tx_pick' [0] (sub_cons rfl (sub_cons rfl (sub_cons rfl (sub_cons rfl sub_nil)))) (by decide) (pick_cons rfl pick_nil) (hK4 ((icv .i64 (iand .u64 (fbits a0) 4503599627370495)), 1) hp)
      · replace hp := (br_f h2).symm.trans hp
        refine cx_region' ?_
        refine sx_rd' (rd_move' rfl) rfl rfl (wt_none' rfl) ?_
        refine sx_rd' (rd_bin' rfl rfl eg_int ru_add) rfl rfl (wt_none' rfl) ?_
        refine sx_rd' (rd_assign' rfl) rfl rfl (wt_none' rfl) ?_
        refine sx_nil' ?_
        show TX E K4 _
        exact tx_pick' [0] (sub_cons rfl (sub_cons rfl (sub_cons rfl (sub_cons rfl sub_nil)))) (by decide) (pick_cons rfl pick_nil) (hK4 ((iadd .i64 (icv .i64 (iand .u64 (fbits a0) 4503599627370495)) 4503599627370496), (icv .i64 (iand .u64 r12 2047))) hp)

def spec_PointOf (k : Nat) (a0 : Nat) (a1 : Nat) : Option (Bool × (List Int) × Int × Bool × (List Int) × Int) :=
  (spec_DyadicOf k a0) >>= fun r6 =>
  (spec_DyadicOf k a1) >>= fun r8 =>
  some (r6.1, r6.2.1, r6.2.2, r8.1, r8.2.1, r8.2.2)

theorem spec_PointOf_sim {k : Nat}  (a0 : Nat) (a1 : Nat) {out : Bool × (List Int) × Int × Bool × (List Int) × Int} (hp : spec_PointOf k a0 a1 = some out) : Go.Sx.Fn Try.prog 73 [(Vl (.float .f64 a0)), (Vl (.float .f64 a1))] [] (fun w : Unit => (Ag [(Vl (.bool out.1)), (Sl (Ki .u32) out.2.1), (Vl (.int .i64 out.2.2.1)), (Vl (.bool out.2.2.2.1)), (Sl (Ki .u32) out.2.2.2.2.1), (Vl (.int .i64 out.2.2.2.2.2))])) (fun w => []) := by
  unfold spec_PointOf at hp
  refine fn_of Try.func73 rfl Try.ntmps73 rfl fun E hM => ?_
  refine cx_seq' fun K1 hK1 => ?_
  refine cx_region' ?_
  refine sx_ox' (ox_alloc' info54 rfl rfl rfl rfl (l := [(Vl (.bool false)), (Vl (.slice none 0 0)), (Vl (.int .i64 0)), (Vl (.bool false)), (Vl (.slice none 0 0)), (Vl (.int .i64 0))]) rfl) (wt_none' rfl) fun q4 => ?_
  refine sx_nil' ?_
  show TX E K1 _
  refine tx_k' hK1 ?_
  refine cx_seq' fun K2 hK2 => ?_
  refine cx_region' ?_
  refine sx_rd' (rd_move' rfl) rfl rfl (wt_none' rfl) ?_
  obtain ⟨r6, hr6, hp⟩ := bind_some hp
  refine sx_ox' (ox_calln' (ent_fn' Try.func46 isn46 rfl rfl) (spec_DyadicOf_sim _ hr6 : Go.Sx.Fn Try.prog 46 [(Vl (.float .f64 a0))] [] (fun x : Unit => (Ag [(Vl (.bool r6.1)), (Sl (Ki .u32) r6.2.1), (Vl (.int .i64 r6.2.2))])) (fun x => [])) (Hn := fun x : Unit => [⟨.pointer (some q4), [(Vl (.bool false)), (Vl (.slice none 0 0)), (Vl (.int .i64 0)), (Vl (.bool false)), (Vl (.slice none 0 0)), (Vl (.int .i64 0))], 54, none⟩]) (fun _ => rfl) rfl rfl) (wt_none' rfl) fun ⟨⟩ => ?_
  refine sx_rd' (rd_move' rfl) rfl rfl (wt_none' rfl) ?_
  obtain ⟨r8, hr8, hp⟩ := bind_some hp
  refine sx_ox' (ox_calln' (ent_fn' Try.func46 isn46 rfl rfl) (spec_DyadicOf_sim _ hr8 : Go.Sx.Fn Try.prog 46 [(Vl (.float .f64 a1))] [] (fun x : Unit => (Ag [(Vl (.bool r8.1)), (Sl (Ki .u32) r8.2.1), (Vl (.int .i64 r8.2.2))])) (fun x => [])) (Hn := fun x : Unit => [⟨.pointer (some q4), [(Vl (.bool false)), (Vl (.slice none 0 0)), (Vl (.int .i64 0)), (Vl (.bool false)), (Vl (.slice none 0 0)), (Vl (.int .i64 0))], 54, none⟩]) (fun _ => rfl) rfl rfl) (wt_none' rfl) fun ⟨⟩ => ?_
  refine sx_rd' (rd_build' (pls := [(0, 3), (3, 3)]) (qs := [(0, [(Vl (.bool r6.1)), (Sl (Ki .u32) r6.2.1), (Vl (.int .i64 r6.2.2))]), (1, [(Vl (.bool r8.1)), (Sl (Ki .u32) r8.2.1), (Vl (.int .i64 r8.2.2))])]) (r := [(Vl (.bool r6.1)), (Sl (Ki .u32) r6.2.1), (Vl (.int .i64 r6.2.2)), (Vl (.bool r8.1)), (Sl (Ki .u32) r8.2.1), (Vl (.int .i64 r8.2.2))]) ⟨rfl, ⟨_, rfl, (lv_ag _)⟩, ⟨rfl, ⟨_, rfl, (lv_ag _)⟩, trivial⟩⟩ Try.underlying54 has54 places54 info54 rfl rfl rfl) rfl rfl (wt_none' rfl) ?_
  refine sx_ox' (ox_store' (i := 0) (o := 0) rfl rfl (lv_ag _) ⟨rfl, rfl, rfl, rfl⟩ rfl info54 rfl (H' := [⟨.pointer (some q4), [(Vl (.bool r6.1)), (Sl (Ki .u32) r6.2.1), (Vl (.int .i64 r6.2.2)), (Vl (.bool r8.1)), (Sl (Ki .u32) r8.2.1), (Vl (.int .i64 r8.2.2))], 54, none⟩]) rfl) (wt_none' rfl) fun _ => ?_
  refine sx_nil' ?_
  show TX E K2 _
  refine tx_k' hK2 ?_
  refine cx_retc' ?_
  replace hp := Option.some.inj hp
  subst hp
  refine tx_pick' (L' := [(4, (Vl (.pointer (some q4))))]) (H' := [⟨.pointer (some q4), [(Vl (.bool r6.1)), (Sl (Ki .u32) r6.2.1), (Vl (.int .i64 r6.2.2)), (Vl (.bool r8.1)), (Sl (Ki .u32) r8.2.1), (Vl (.int .i64 r8.2.2))], 54, none⟩]) [0] (sub_cons rfl sub_nil) (by decide) (pick_cons rfl pick_nil) ?_
  exact tx_ret1' Try.results73 rfl () (rv_cell_agg' (i := 0) (o := 0) (nn := 6) rfl ⟨rfl, rfl, rfl, rfl⟩ rfl agg54 rfl) (List.nil_sublist _)

def laws_exactly (k : Nat) (a0_0 : Nat) (a0_1 : Nat) : Option (Bool × (List Int) × Int × Bool × (List Int) × Int) :=
  (spec_PointOf k a0_0 a0_1) >>= fun r7 =>
  some (r7.1, r7.2.1, r7.2.2.1, r7.2.2.2.1, r7.2.2.2.2.1, r7.2.2.2.2.2)

theorem laws_exactly_sim {k : Nat}  (a0_0 : Nat) (a0_1 : Nat) {out : Bool × (List Int) × Int × Bool × (List Int) × Int} (hp : laws_exactly k a0_0 a0_1 = some out) : Go.Sx.Fn Try.prog 27 [(Ag [(Vl (.float .f64 a0_0)), (Vl (.float .f64 a0_1))])] [] (fun w : Unit => (Ag [(Vl (.bool out.1)), (Sl (Ki .u32) out.2.1), (Vl (.int .i64 out.2.2.1)), (Vl (.bool out.2.2.2.1)), (Sl (Ki .u32) out.2.2.2.2.1), (Vl (.int .i64 out.2.2.2.2.2))])) (fun w => []) := by
  unfold laws_exactly at hp
  refine fn_of Try.func27 rfl Try.ntmps27 rfl fun E hM => ?_
  refine cx_seq' fun K1 hK1 => ?_
  refine cx_region' ?_
  refine sx_ox' (ox_box' rfl (lv_ag _) rfl rfl) (wt_none' rfl) fun q1 => ?_
  refine sx_ox' (ox_alloc' info54 rfl rfl rfl rfl (l := [(Vl (.bool false)), (Vl (.slice none 0 0)), (Vl (.int .i64 0)), (Vl (.bool false)), (Vl (.slice none 0 0)), (Vl (.int .i64 0))]) rfl) (wt_none' rfl) fun q2 => ?_
  refine sx_nil' ?_
  show TX E K1 _
  refine tx_k' hK1 ?_
  refine cx_seq' fun K2 hK2 => ?_
  refine cx_region' ?_
  refine sx_rd' (rd_field0' rfl Try.underlying27 rfl info25 rfl) rfl rfl (wt_none' rfl) ?_
  refine sx_rd' (rd_load' (i := 1) (o := 0) rfl ⟨rfl, rfl, rfl, rfl⟩ rfl flat25) rfl rfl (wt_none' rfl) ?_
  refine sx_rd' (rd_field' (off := 1) rfl Try.underlying27 rfl info25 rfl) rfl rfl (wt_none' rfl) ?_
  refine sx_rd' (rd_load' (i := 1) (o := 1) rfl ⟨rfl, rfl, rfl, rfl⟩ rfl flat25) rfl rfl (wt_none' rfl) ?_
  obtain ⟨r7, hr7, hp⟩ := bind_some hp
  refine sx_ox' (ox_calln' (ent_fn' Try.func73 isn73 rfl rfl) (spec_PointOf_sim _ _ hr7 : Go.Sx.Fn Try.prog 73 [(Vl (.float .f64 a0_0)), (Vl (.float .f64 a0_1))] [] (fun x : Unit => (Ag [(Vl (.bool r7.1)), (Sl (Ki .u32) r7.2.1), (Vl (.int .i64 r7.2.2.1)), (Vl (.bool r7.2.2.2.1)), (Sl (Ki .u32) r7.2.2.2.2.1), (Vl (.int .i64 r7.2.2.2.2.2))])) (fun x => [])) (Hn := fun x : Unit => [⟨.pointer (some q2), [(Vl (.bool false)), (Vl (.slice none 0 0)), (Vl (.int .i64 0)), (Vl (.bool false)), (Vl (.slice none 0 0)), (Vl (.int .i64 0))], 54, none⟩, ⟨.pointer (some q1), [(Vl (.float .f64 a0_0)), (Vl (.float .f64 a0_1))], 27, none⟩]) (fun _ => rfl) rfl rfl) (wt_none' rfl) fun ⟨⟩ => ?_
  refine sx_ox' (ox_store' (i := 0) (o := 0) rfl rfl (lv_ag _) ⟨rfl, rfl, rfl, rfl⟩ rfl info54 rfl (H' := [⟨.pointer (some q2), [(Vl (.bool r7.1)), (Sl (Ki .u32) r7.2.1), (Vl (.int .i64 r7.2.2.1)), (Vl (.bool r7.2.2.2.1)), (Sl (Ki .u32) r7.2.2.2.2.1), (Vl (.int .i64 r7.2.2.2.2.2))], 54, none⟩, ⟨.pointer (some q1), [(Vl (.float .f64 a0_0)), (Vl (.float .f64 a0_1))], 27, none⟩]) rfl) (wt_none' rfl) fun _ => ?_
  refine sx_nil' ?_
  show TX E K2 _
  refine tx_k' hK2 ?_
  refine cx_retc' ?_
  replace hp := Option.some.inj hp
  subst hp
  refine tx_pick' (L' := [(2, (Vl (.pointer (some q2))))]) (H' := [⟨.pointer (some q2), [(Vl (.bool r7.1)), (Sl (Ki .u32) r7.2.1), (Vl (.int .i64 r7.2.2.1)), (Vl (.bool r7.2.2.2.1)), (Sl (Ki .u32) r7.2.2.2.2.1), (Vl (.int .i64 r7.2.2.2.2.2))], 54, none⟩]) [0] (sub_cons rfl sub_nil) (by decide) (pick_cons rfl pick_nil) ?_
  exact tx_ret1' Try.results27 rfl () (rv_cell_agg' (i := 0) (o := 0) (nn := 6) rfl ⟨rfl, rfl, rfl, rfl⟩ rfl agg54 rfl) (List.nil_sublist _)

def laws_exacts_l1s (a0 : List (Nat × Nat)) (k : Nat) (rec1 : ((List (Bool × (List Int) × Int × Bool × (List Int) × Int)) × Int) → Option ((List (Bool × (List Int) × Int × Bool × (List Int) × Int)))) (x1 : List (Bool × (List Int) × Int × Bool × (List Int) × Int)) (x2 : Int) : Option ((List (Bool × (List Int) × Int × Bool × (List Int) × Int))) :=
  br (decide (x2 < (a0.length : Int)))
    ((idx a0 x2) >>= fun r10 =>
    (laws_exactly k r10.1 r10.2) >>= fun r14 =>
    (apd 80 x1 ([(r14.1, r14.2.1, r14.2.2.1, r14.2.2.2.1, r14.2.2.2.2.1, r14.2.2.2.2.2)])) >>= fun r16 =>
    rec1 (r16, (iadd .i64 x2 1)))
    (some x1)
def laws_exacts_l1 (a0 : List (Nat × Nat)) : Nat → ((List (Bool × (List Int) × Int × Bool × (List Int) × Int)) × Int) → Option ((List (Bool × (List Int) × Int × Bool × (List Int) × Int)))
  | 0, _ => none
  | k + 1, v => laws_exacts_l1s a0 k (laws_exacts_l1 a0 k) v.1 v.2
def laws_exacts (k : Nat) (a0 : List (Nat × Nat)) : Option ((List (Bool × (List Int) × Int × Bool × (List Int) × Int))) :=
  (laws_exacts_l1 a0 k ([], 0)) >>= fun v2 =>
  some v2

theorem laws_exacts_sim {k : Nat}  (a0 : List (Nat × Nat)) {out : (List (Bool × (List Int) × Int × Bool × (List Int) × Int))} (hp : laws_exacts k a0 = some out) : Go.Sx.Fn Try.prog 22 [(Sl KT27 a0)] [] (fun w : Unit => (Sl KT54 out)) (fun w => []) := by
  unfold laws_exacts at hp
  refine fn_of Try.func22 rfl Try.ntmps22 rfl fun E hM => ?_
  refine cx_seq' fun K1 hK1 => ?_
  refine cx_region' ?_
  refine sx_rd' (rd_assign' rfl) rfl rfl (wt_none' rfl) ?_
  refine sx_nil' ?_
  show TX E K1 _
  refine tx_k' hK1 ?_
  refine cx_seq' fun K2 hK2 => ?_
  refine cx_region' ?_
  refine sx_rd' (rd_assign' rfl) rfl rfl (wt_none' rfl) ?_
  refine sx_nil' ?_
  show TX E K2 _
  refine tx_k' hK2 ?_
  refine cx_seq' fun K3 hK3 => ?_
  refine cx_seq' fun K4 hK4 => ?_
  refine cx_region' ?_
  refine sx_rd' (rd_move' rfl) rfl rfl (wt_none' rfl) ?_
  refine sx_rd' (rd_len' rfl Try.underlying22) rfl rfl (wt_none' rfl) ?_
  refine sx_rd' (rd_move' rfl) rfl rfl (wt_none' rfl) ?_
  refine sx_nil' ?_
  show TX E K4 _
  refine tx_k' hK4 ?_
  refine cx_block' ?_
  obtain ⟨v2, hy1, hp⟩ := bind_some hp
  refine tx_nilrow' KT54 54 ?_
  refine cx_loopg' (F := laws_exacts_l1 a0) (G := fun k R v => laws_exacts_l1s a0 k R v.1 v.2) (x := ([], 0)) (gh := (none, 0, 0)) (fun (v1 : (List (Bool × (List Int) × Int × Bool × (List Int) × Int)) × Int) (w1 : Gs) => (⟨19, [], [(3, (Vl (Vs w1))), (6, (Sl KT27 a0)), (7, (Vl (.int .i64 (a0.length : Int)))), (8, (Vl (.int .i64 v1.2)))], [(Rw KT54 54 (Vs w1) v1.1)]⟩ : St)) (fun (v2 : (List (Bool × (List Int) × Int × Bool × (List Int) × Int))) => Zg E (Exit.exit 0) (fun (w2 : Gs) => (⟨19, [], [(3, (Vl (Vs w2)))], [(Rw KT54 54 (Vs w2) v2)]⟩ : St))) (fun _ => rfl) (fun _ _ => rfl) ?_ hy1 (tx_to' rfl [0] (sub_cons rfl (sub_cons rfl (sub_cons rfl (sub_cons rfl sub_nil)))) (by decide) (pick_cons rfl pick_nil)) ?_
  · clear hp hy1
    clear v2
    intro k rec1 KY1 ih1
    rintro ⟨x1, x2⟩ g901 y1 hp
    replace hp : laws_exacts_l1s a0 k rec1 x1 x2 = some y1 := hp
    unfold laws_exacts_l1s at hp
    refine cx_seq' fun K9 hK9 => ?_
    refine cx_region' ?_
    refine sx_rd' (rd_bin' rfl rfl eg_int ru_lss) rfl rfl (wt_none' rfl) ?_
    refine sx_nil' ?_
    show TX E K9 _
    refine tx_k' hK9 ?_
    refine cx_seq' fun K10 hK10 => ?_
    refine cx_cond' rfl (fun h3 => ?_) (fun h3 => ?_)
    · replace hp := (br_t h3).symm.trans hp
      refine cx_skip' ?_
      show TX E K10 _
      refine tx_k' hK10 ?_
      refine cx_seq' fun K11 hK11 => ?_
      refine cx_block' ?_
      refine cx_seq' fun K12 hK12 => ?_
      refine cx_region' ?_
      obtain ⟨r10, hr10, hp⟩ := bind_some hp
      refine sx_rd' (rd_at' (K := KT27) rfl rfl hr10 Try.underlying22 info27) rfl rfl (wt_none' rfl) ?_
      refine sx_rd' (rd_load_pt_agg' (nn := 2) rfl rfl agg27 (l' := [(Vl (.float .f64 r10.1)), (Vl (.float .f64 r10.2))]) rfl) rfl rfl (wt_none' rfl) ?_
      refine sx_ox' (ox_alloc' info27 rfl rfl rfl rfl (l := [(Vl (.float .f64 0)), (Vl (.float .f64 0))]) rfl) (wt_none' rfl) fun q5 => ?_
      refine sx_ox' (ox_store' (i := 0) (o := 0) rfl rfl (lv_ag _) ⟨rfl, rfl, rfl, rfl⟩ rfl info27 rfl (H' := [⟨.pointer (some q5), [(Vl (.float .f64 r10.1)), (Vl (.float .f64 r10.2))], 27, none⟩, (Rw KT54 54 (Vs g901) x1)]) rfl) (wt_none' rfl) fun _ => ?_
      refine sx_nil' ?_
      show TX E K12 _
      refine tx_k' hK12 ?_
      refine cx_region' ?_
      refine sx_rd' (rd_move' rfl) rfl rfl (wt_none' rfl) ?_
      refine sx_rd' (rd_load_agg' (i := 0) (o := 0) (nn := 2) rfl ⟨rfl, rfl, rfl, rfl⟩ rfl agg27 (l' := [(Vl (.float .f64 r10.1)), (Vl (.float .f64 r10.2))]) rfl) rfl rfl (wt_none' rfl) ?_
      obtain ⟨r14, hr14, hp⟩ := bind_some hp
      refine sx_ox' (ox_calln' (ent_fn' Try.func27 isn27 rfl rfl) (laws_exactly_sim _ _ hr14 : Go.Sx.Fn Try.prog 27 [(Ag [(Vl (.float .f64 r10.1)), (Vl (.float .f64 r10.2))])] [] (fun x : Unit => (Ag [(Vl (.bool r14.1)), (Sl (Ki .u32) r14.2.1), (Vl (.int .i64 r14.2.2.1)), (Vl (.bool r14.2.2.2.1)), (Sl (Ki .u32) r14.2.2.2.2.1), (Vl (.int .i64 r14.2.2.2.2.2))])) (fun x => [])) (Hn := fun x : Unit => [⟨.pointer (some q5), [(Vl (.float .f64 r10.1)), (Vl (.float .f64 r10.2))], 27, none⟩, (Rw KT54 54 (Vs g901) x1)]) (fun _ => rfl) rfl rfl) (wt_none' rfl) fun ⟨⟩ => ?_
      refine sx_ox' (ox_rowlit' (K := KT54) (xs := [(r14.1, r14.2.1, r14.2.2.1, r14.2.2.2.1, r14.2.2.2.2.1, r14.2.2.2.2.2)]) (qs := [(0, [(Vl (.bool r14.1)), (Sl (Ki .u32) r14.2.1), (Vl (.int .i64 r14.2.2.1)), (Vl (.bool r14.2.2.2.1)), (Sl (Ki .u32) r14.2.2.2.2.1), (Vl (.int .i64 r14.2.2.2.2.2))])]) ⟨rfl, ⟨_, rfl, (lv_ag _)⟩, trivial⟩ Try.underlying45 info54 rfl rfl rfl rfl rfl (by kernel_rfl) rfl rfl rfl) (wt_none' rfl) fun g15 => ?_
      obtain ⟨r16, hr16, hp⟩ := bind_some hp
      refine sx_ox' (ox_append' (K := KT54) (i := 2) (xs := x1) (ys := ([(r14.1, r14.2.1, r14.2.2.1, r14.2.2.2.1, r14.2.2.2.2.1, r14.2.2.2.2.2)])) rfl rfl rfl (sr_row' (j := 0) rfl rfl rfl Try.underlying45) hr16 Try.underlying45 info54 rfl rfl rfl (H' := [(Rw KT54 54 (Vs g15) ([(r14.1, r14.2.1, r14.2.2.1, r14.2.2.2.1, r14.2.2.2.2.1, r14.2.2.2.2.2)])), ⟨.pointer (some q5), [(Vl (.float .f64 r10.1)), (Vl (.float .f64 r10.2))], 27, none⟩]) rfl) (wt_none' rfl) fun g16 => ?_
      refine sx_rd' (rd_assign' rfl) rfl rfl (wt_none' rfl) ?_
      refine sx_nil' ?_
      show TX E K11 _
      refine tx_k' hK11 ?_
      refine cx_region' ?_
      refine sx_rd' (rd_bin' rfl rfl eg_int ru_add) rfl rfl (wt_none' rfl) ?_
      refine sx_rd' (rd_move' rfl) rfl rfl (wt_none' rfl) ?_
      refine sx_nil' ?_
      show TX E (KY1 _) _
      exact tx_pick' [0] (sub_cons rfl (sub_cons rfl (sub_cons rfl (sub_cons rfl sub_nil)))) (by decide) (pick_cons rfl pick_nil) (ih1 (r16, (iadd .i64 x2 1)) g16 _ hp)
    · replace hp := (br_f h3).symm.trans hp
      refine cx_exit' ?_
      replace hp := Option.some.inj hp
      subst hp
      show TX E (Zg E (Exit.exit 0) _ (Exit.exit 0)) _
      exact tx_zend' g901 rfl [0] (sub_cons rfl sub_nil) (by decide) (pick_cons rfl pick_nil)
  · refine zg_out fun w2 => ?_
    show TX E K3 _
    refine tx_k' hK3 ?_
    refine cx_seq' fun K13 hK13 => ?_
    refine cx_region' ?_
    refine sx_rd' (rd_move' rfl) rfl rfl (wt_none' rfl) ?_
    refine sx_rd' (rd_assign' rfl) rfl rfl (wt_none' rfl) ?_
    refine sx_nil' ?_
    show TX E K13 _
    refine tx_k' hK13 ?_
    refine cx_retc' ?_
    replace hp := Option.some.inj hp
    subst hp
    refine tx_fz' (frz_row 0 [(3, (Vl (Vs w2)), (Sl KT54 v2)), (18, (Vl (Vs w2)), (Sl KT54 v2)), (2, (Vl (Vs w2)), (Sl KT54 v2))] (K := KT54) (xs := v2) (by decide) rfl ⟨⟨rfl, frz_it⟩, ⟨rfl, frz_it⟩, ⟨rfl, frz_it⟩, trivial⟩ (H' := []) frzH_refl) ?_
    refine tx_pick' (L' := [(2, (Sl KT54 v2))]) (H' := []) [] (sub_cons rfl sub_nil) (by decide) pick_nil ?_
    exact tx_ret1' Try.results22 rfl () (rv_tmp' rfl) (List.Sublist.refl _)

def spec_Whole_Minus_j1 (k : Nat) (a0_1 : List Int) (x1 : Bool) : Option (Bool × (List Int)) :=
  some (x1, a0_1)
def spec_Whole_Minus (k : Nat) (a0_0 : Bool) (a0_1 : List Int) : Option (Bool × (List Int)) :=
  br (!a0_0)
    (spec_Whole_Minus_j1 k a0_1 (decide (0 < (a0_1.length : Int))))
    (spec_Whole_Minus_j1 k a0_1 false)

theorem spec_Whole_Minus_sim {k : Nat}  (a0_0 : Bool) (a0_1 : List Int) {out : Bool × (List Int)} (hp : spec_Whole_Minus k a0_0 a0_1 = some out) : Go.Sx.Fn Try.prog 136 [(Ag [(Vl (.bool a0_0)), (Sl (Ki .u32) a0_1)])] [] (fun w : Unit => (Ag [(Vl (.bool out.1)), (Sl (Ki .u32) out.2)])) (fun w => []) := by
  unfold spec_Whole_Minus at hp
  refine fn_of Try.func136 rfl Try.ntmps136 rfl fun E hM => ?_
  refine cx_seq' fun K1 hK1 => ?_
  refine cx_region' ?_
  refine sx_ox' (ox_box' rfl (lv_ag _) rfl rfl) (wt_none' rfl) fun q1 => ?_
  refine sx_ox' (ox_alloc' info38 rfl rfl rfl rfl (l := [(Vl (.bool false)), (Vl (.slice none 0 0))]) rfl) (wt_none' rfl) fun q2 => ?_
  refine sx_nil' ?_
  show TX E K1 _
  refine tx_k' hK1 ?_
  refine cx_seq' fun K2 hK2 => ?_
  refine cx_region' ?_
  refine sx_rd' (rd_field0' rfl Try.underlying38 rfl info4 rfl) rfl rfl (wt_none' rfl) ?_
  refine sx_rd' (rd_load' (i := 1) (o := 0) rfl ⟨rfl, rfl, rfl, rfl⟩ rfl flat4) rfl rfl (wt_none' rfl) ?_
  refine sx_rd' (rd_un' rfl ru_not) rfl rfl (wt_none' rfl) ?_
  refine sx_rd' (rd_move' rfl) rfl rfl (wt_none' rfl) ?_
  refine sx_cutn' 5 (fun (v1 : Bool) => (⟨15, [], [(1, (Vl (.pointer (some q1)))), (2, (Vl (.pointer (some q2)))), (11, (Vl (.bool v1)))], [⟨.pointer (some q1), [(Vl (.bool a0_0)), (Sl (Ki .u32) a0_1)], 38, none⟩, ⟨.pointer (some q2), [(Vl (.bool false)), (Vl (.slice none 0 0))], 38, none⟩]⟩ : St)) (fun (v1 : Bool) => spec_Whole_Minus_j1 k a0_1 v1 = some out) ?_ ?_
  · rintro x1 hp
    replace hp : spec_Whole_Minus_j1 k a0_1 x1 = some out := hp
    unfold spec_Whole_Minus_j1 at hp
    refine sx_rd' (rd_field' (off := 1) rfl Try.underlying38 rfl info36 rfl) rfl rfl (wt_none' rfl) ?_
    refine sx_rd' (rd_load' (i := 0) (o := 1) rfl ⟨rfl, rfl, rfl, rfl⟩ rfl flat36) rfl rfl (wt_none' rfl) ?_
    refine sx_rd' (rd_build' (pls := [(0, 1), (1, 1)]) (qs := [(0, [(Vl (.bool x1))]), (1, [(Sl (Ki .u32) a0_1)])]) (r := [(Vl (.bool x1)), (Sl (Ki .u32) a0_1)]) ⟨rfl, ⟨_, rfl, (lv_vl rfl rfl)⟩, ⟨rfl, ⟨_, rfl, (lv_sl _ _)⟩, trivial⟩⟩ Try.underlying38 has38 places38 info38 rfl rfl rfl) rfl rfl (wt_none' rfl) ?_
    refine sx_ox' (ox_store' (i := 1) (o := 0) rfl rfl (lv_ag _) ⟨rfl, rfl, rfl, rfl⟩ rfl info38 rfl (H' := [⟨.pointer (some q1), [(Vl (.bool a0_0)), (Sl (Ki .u32) a0_1)], 38, none⟩, ⟨.pointer (some q2), [(Vl (.bool x1)), (Sl (Ki .u32) a0_1)], 38, none⟩]) rfl) (wt_none' rfl) fun _ => ?_
    refine sx_nil' ?_
    show TX E K2 _
    refine tx_k' hK2 ?_
    refine cx_retc' ?_
    replace hp := Option.some.inj hp
    subst hp
    refine tx_pick' (L' := [(2, (Vl (.pointer (some q2))))]) (H' := [⟨.pointer (some q2), [(Vl (.bool x1)), (Sl (Ki .u32) a0_1)], 38, none⟩]) [1] (sub_cons rfl sub_nil) (by decide) (pick_cons rfl pick_nil) ?_
    exact tx_ret1' Try.results136 rfl () (rv_cell_agg' (i := 0) (o := 0) (nn := 2) rfl ⟨rfl, rfl, rfl, rfl⟩ rfl agg38 rfl) (List.nil_sublist _)
  · intro K3 hK3
    rcases br_cases hp with ⟨h1, hp⟩ | ⟨h1, hp⟩
    · refine sx_rd' (rd_field' (off := 1) rfl Try.underlying38 rfl info36 rfl) rfl rfl (wt_is' (wt_guard' rfl rfl rfl) (beq_tt h1)) ?_
      refine sx_rd' (rd_load' (i := 1) (o := 1) rfl ⟨rfl, rfl, rfl, rfl⟩ rfl flat36) rfl rfl (wt_is' (wt_guard' rfl rfl rfl) (beq_tt h1)) ?_
      refine sx_rd' (rd_len' rfl Try.underlying36) rfl rfl (wt_is' (wt_guard' rfl rfl rfl) (beq_tt h1)) ?_
      refine sx_rd' (rd_bin' rfl rfl eg_int ru_gtr) rfl rfl (wt_is' (wt_guard' rfl rfl rfl) (beq_tt h1)) ?_
      refine sx_rd' (rd_pick_true' rfl h1 rfl) rfl rfl (wt_none' rfl) ?_
      refine sx_nil' ?_
      show TX E K3 _
      exact tx_pick' [1, 0] (sub_cons rfl (sub_cons rfl (sub_cons rfl sub_nil))) (by decide) (pick_cons rfl (pick_cons rfl pick_nil)) (hK3 (decide (0 < (a0_1.length : Int))) hp)
    · refine sx_skip' rfl rfl (wt_is' (wt_guard' rfl rfl rfl) (beq_ft h1)) ?_
      refine sx_skip' rfl rfl (wt_is' (wt_guard' rfl rfl rfl) (beq_ft h1)) ?_
      refine sx_skip' rfl rfl (wt_is' (wt_guard' rfl rfl rfl) (beq_ft h1)) ?_
      refine sx_skip' rfl rfl (wt_is' (wt_guard' rfl rfl rfl) (beq_ft h1)) ?_
      refine sx_rd' (rd_pick_false' rfl h1 rfl) rfl rfl (wt_none' rfl) ?_
      refine sx_nil' ?_
      show TX E K3 _
      exact tx_pick' [1, 0] (sub_cons rfl (sub_cons rfl (sub_cons rfl sub_nil))) (by decide) (pick_cons rfl (pick_cons rfl pick_nil)) (hK3 false hp)

def spec_Dyadic_Minus (k : Nat) (a0_0 : Bool) (a0_1 : List Int) (a0_2 : Int) : Option (Bool × (List Int) × Int) :=
  (spec_Whole_Minus k a0_0 a0_1) >>= fun r5 =>
  some (r5.1, r5.2, a0_2)

theorem spec_Dyadic_Minus_sim {k : Nat}  (a0_0 : Bool) (a0_1 : List Int) (a0_2 : Int) {out : Bool × (List Int) × Int} (hp : spec_Dyadic_Minus k a0_0 a0_1 a0_2 = some out) : Go.Sx.Fn Try.prog 95 [(Ag [(Vl (.bool a0_0)), (Sl (Ki .u32) a0_1), (Vl (.int .i64 a0_2))])] [] (fun w : Unit => (Ag [(Vl (.bool out.1)), (Sl (Ki .u32) out.2.1), (Vl (.int .i64 out.2.2))])) (fun w => []) := by
  unfold spec_Dyadic_Minus at hp
  refine fn_of Try.func95 rfl Try.ntmps95 rfl fun E hM => ?_
  refine cx_seq' fun K1 hK1 => ?_
  refine cx_region' ?_
  refine sx_ox' (ox_box' rfl (lv_ag _) rfl rfl) (wt_none' rfl) fun q1 => ?_
  refine sx_ox' (ox_alloc' info40 rfl rfl rfl rfl (l := [(Vl (.bool false)), (Vl (.slice none 0 0)), (Vl (.int .i64 0))]) rfl) (wt_none' rfl) fun q2 => ?_
  refine sx_nil' ?_
  show TX E K1 _
  refine tx_k' hK1 ?_
  refine cx_seq' fun K2 hK2 => ?_
  refine cx_plan' [] [(6, 1)] [(0, 1), (1, 1), (3, 1), (4, 1), (2, 0), (5, 1), (6, 0)] mixed (by kernel_rfl) ?_
  refine px_rd' rfl (rd_field0' rfl Try.underlying40 rfl info38 rfl) rfl rfl (wt_none' rfl) ?_
  refine px_rd' rfl (rd_load_agg' (i := 1) (o := 0) (nn := 2) rfl ⟨rfl, rfl, rfl, rfl⟩ rfl agg38 (l' := [(Vl (.bool a0_0)), (Sl (Ki .u32) a0_1)]) rfl) rfl rfl (wt_none' rfl) ?_
  refine px_rd' rfl (rd_field' (off := 2) rfl Try.underlying40 rfl info3 rfl) rfl rfl (wt_none' rfl) ?_
  refine px_rd' rfl (rd_load' (i := 1) (o := 2) rfl ⟨rfl, rfl, rfl, rfl⟩ rfl flat3) rfl rfl (wt_none' rfl) ?_
  obtain ⟨r5, hr5, hp⟩ := bind_some hp
  refine px_ox' rfl (ox_calln' (ent_fn' Try.func136 isn136 rfl rfl) (spec_Whole_Minus_sim _ _ hr5 : Go.Sx.Fn Try.prog 136 [(Ag [(Vl (.bool a0_0)), (Sl (Ki .u32) a0_1)])] [] (fun x : Unit => (Ag [(Vl (.bool r5.1)), (Sl (Ki .u32) r5.2)])) (fun x => [])) (Hn := fun x : Unit => [⟨.pointer (some q2), [(Vl (.bool false)), (Vl (.slice none 0 0)), (Vl (.int .i64 0))], 40, none⟩, ⟨.pointer (some q1), [(Vl (.bool a0_0)), (Sl (Ki .u32) a0_1), (Vl (.int .i64 a0_2))], 40, none⟩]) (fun _ => rfl) rfl rfl) rfl bs_nil (wt_none' rfl) fun ⟨⟩ => ?_
  refine px_rd' rfl (rd_build' (pls := [(0, 2), (2, 1)]) (qs := [(0, [(Vl (.bool r5.1)), (Sl (Ki .u32) r5.2)]), (1, [(Vl (.int .i64 a0_2))])]) (r := [(Vl (.bool r5.1)), (Sl (Ki .u32) r5.2), (Vl (.int .i64 a0_2))]) ⟨rfl, ⟨_, rfl, (lv_ag _)⟩, ⟨rfl, ⟨_, rfl, (lv_vl rfl rfl)⟩, trivial⟩⟩ Try.underlying40 has40 places40 info40 rfl rfl rfl) rfl rfl (wt_none' rfl) ?_
  refine px_oxv' rfl (oxv_store (i := 0) (o := 0) rfl rfl (lv_ag _) ⟨rfl, rfl, rfl, rfl⟩ rfl info40 rfl (H' := [⟨.pointer (some q2), [(Vl (.bool r5.1)), (Sl (Ki .u32) r5.2), (Vl (.int .i64 a0_2))], 40, none⟩, ⟨.pointer (some q1), [(Vl (.bool a0_0)), (Sl (Ki .u32) a0_1), (Vl (.int .i64 a0_2))], 40, none⟩]) rfl) rfl rfl bo_nil (wt_none' rfl) fun _ => ?_
  refine px_nil' ?_
  show TX E K2 _
  refine tx_k' hK2 ?_
  refine cx_retc' ?_
  replace hp := Option.some.inj hp
  subst hp
  refine tx_pick' (L' := [(2, (Vl (.pointer (some q2))))]) (H' := [⟨.pointer (some q2), [(Vl (.bool r5.1)), (Sl (Ki .u32) r5.2), (Vl (.int .i64 a0_2))], 40, none⟩]) [0] (sub_cons rfl sub_nil) (by decide) (pick_cons rfl pick_nil) ?_
  exact tx_ret1' Try.results95 rfl () (rv_cell_agg' (i := 0) (o := 0) (nn := 3) rfl ⟨rfl, rfl, rfl, rfl⟩ rfl agg40 rfl) (List.nil_sublist _)

def spec_Whole_Sign (k : Nat) (a0_0 : Bool) (a0_1 : List Int) : Option (Int) :=
  br (decide ((a0_1.length : Int) = 0))
    (some 0)
    (br a0_0
      (some (-1))
      (some 1))

theorem spec_Whole_Sign_sim {k : Nat}  (a0_0 : Bool) (a0_1 : List Int) {out : Int} (hp : spec_Whole_Sign k a0_0 a0_1 = some out) : Go.Sx.Fn Try.prog 96 [(Ag [(Vl (.bool a0_0)), (Sl (Ki .u32) a0_1)])] [] (fun w : Unit => (Vl (.int .i64 out))) (fun w => []) := by
  unfold spec_Whole_Sign at hp
  refine fn_of Try.func96 rfl Try.ntmps96 rfl fun E hM => ?_
  refine cx_seq' fun K1 hK1 => ?_
  refine cx_region' ?_
  refine sx_ox' (ox_box' rfl (lv_ag _) rfl rfl) (wt_none' rfl) fun q1 => ?_
  refine sx_rd' (rd_assign' rfl) rfl rfl (wt_none' rfl) ?_
  refine sx_nil' ?_
  show TX E K1 _
  refine tx_k' hK1 ?_
  refine cx_seq' fun K2 hK2 => ?_
  refine cx_block' ?_
  refine cx_seq' fun K3 hK3 => ?_
  refine cx_region' ?_
  refine sx_rd' (rd_field' (off := 1) rfl Try.underlying38 rfl info36 rfl) rfl rfl (wt_none' rfl) ?_
  refine sx_rd' (rd_load' (i := 0) (o := 1) rfl ⟨rfl, rfl, rfl, rfl⟩ rfl flat36) rfl rfl (wt_none' rfl) ?_
  refine sx_rd' (rd_len' rfl Try.underlying36) rfl rfl (wt_none' rfl) ?_
  refine sx_rd' (rd_bin' rfl rfl eg_int ru_eql) rfl rfl (wt_none' rfl) ?_
  refine sx_rd' (rd_assign' rfl) rfl rfl (wt_none' rfl) ?_
  refine sx_nil' ?_
  show TX E K3 _
  refine tx_k' hK3 ?_
  refine cx_cond' rfl (fun h1 => ?_) (fun h1 => ?_)
  · replace hp := (br_t h1).symm.trans hp
    refine cx_seq' fun K4 hK4 => ?_
    refine cx_region' ?_
    refine sx_rd' (rd_assign' rfl) rfl rfl (wt_none' rfl) ?_
    refine sx_nil' ?_
    show TX E K4 _
    refine tx_k' hK4 ?_
    refine cx_retc' ?_
    replace hp := Option.some.inj hp
    subst hp
    refine tx_pick' (L' := [(2, (Vl (.int .i64 0)))]) (H' := []) [] (sub_cons rfl sub_nil) (by decide) pick_nil ?_
    exact tx_ret1' Try.results96 rfl () (rv_tmp' rfl) (List.Sublist.refl _)
  · replace hp := (br_f h1).symm.trans hp
    refine cx_seq' fun K5 hK5 => ?_
    refine cx_region' ?_
    refine sx_rd' (rd_field0' rfl Try.underlying38 rfl info4 rfl) rfl rfl (wt_none' rfl) ?_
    refine sx_rd' (rd_load' (i := 0) (o := 0) rfl ⟨rfl, rfl, rfl, rfl⟩ rfl flat4) rfl rfl (wt_none' rfl) ?_
    refine sx_rd' (rd_assign' rfl) rfl rfl (wt_none' rfl) ?_
    refine sx_nil' ?_
    show TX E K5 _
    refine tx_k' hK5 ?_
    refine cx_cond' rfl (fun h2 => ?_) (fun h2 => ?_)
    · replace hp := (br_t h2).symm.trans hp
      refine cx_seq' fun K6 hK6 => ?_
      refine cx_region' ?_
      refine sx_rd' (rd_assign' rfl) rfl rfl (wt_none' rfl) ?_
      refine sx_nil' ?_
      show TX E K6 _
      refine tx_k' hK6 ?_
      refine cx_retc' ?_
      replace hp := Option.some.inj hp
      subst hp
      refine tx_pick' (L' := [(2, (Vl (.int .i64 (-1))))]) (H' := []) [] (sub_cons rfl sub_nil) (by decide) pick_nil ?_
      exact tx_ret1' Try.results96 rfl () (rv_tmp' rfl) (List.Sublist.refl _)
    · replace hp := (br_f h2).symm.trans hp
      refine cx_skip' ?_
      show TX E K2 _
      refine tx_k' hK2 ?_
      refine cx_seq' fun K7 hK7 => ?_
      refine cx_region' ?_
      refine sx_rd' (rd_assign' rfl) rfl rfl (wt_none' rfl) ?_
      refine sx_nil' ?_
      show TX E K7 _
      refine tx_k' hK7 ?_
      refine cx_retc' ?_
      replace hp := Option.some.inj hp
      subst hp
      refine tx_pick' (L' := [(2, (Vl (.int .i64 1)))]) (H' := []) [] (sub_cons rfl sub_nil) (by decide) pick_nil ?_
      exact tx_ret1' Try.results96 rfl () (rv_tmp' rfl) (List.Sublist.refl _)

def spec_Dyadic_Sign (k : Nat) (a0_0 : Bool) (a0_1 : List Int) (a0_2 : Int) : Option (Int) :=
  (spec_Whole_Sign k a0_0 a0_1) >>= fun r5 =>
  some r5

theorem spec_Dyadic_Sign_sim {k : Nat}  (a0_0 : Bool) (a0_1 : List Int) (a0_2 : Int) {out : Int} (hp : spec_Dyadic_Sign k a0_0 a0_1 a0_2 = some out) : Go.Sx.Fn Try.prog 49 [(Ag [(Vl (.bool a0_0)), (Sl (Ki .u32) a0_1), (Vl (.int .i64 a0_2))])] [] (fun w : Unit => (Vl (.int .i64 out))) (fun w => []) := by
  unfold spec_Dyadic_Sign at hp
  refine fn_of Try.func49 rfl Try.ntmps49 rfl fun E hM => ?_
  refine cx_seq' fun K1 hK1 => ?_
  refine cx_region' ?_
  refine sx_ox' (ox_box' rfl (lv_ag _) rfl rfl) (wt_none' rfl) fun q1 => ?_
  refine sx_rd' (rd_assign' rfl) rfl rfl (wt_none' rfl) ?_
  refine sx_nil' ?_
  show TX E K1 _
  refine tx_k' hK1 ?_
  refine cx_seq' fun K2 hK2 => ?_
  refine cx_region' ?_
  refine sx_rd' (rd_field0' rfl Try.underlying40 rfl info38 rfl) rfl rfl (wt_none' rfl) ?_
  refine sx_rd' (rd_load_agg' (i := 0) (o := 0) (nn := 2) rfl ⟨rfl, rfl, rfl, rfl⟩ rfl agg38 (l' := [(Vl (.bool a0_0)), (Sl (Ki .u32) a0_1)]) rfl) rfl rfl (wt_none' rfl) ?_
  obtain ⟨r5, hr5, hp⟩ := bind_some hp
  refine sx_ox' (ox_calln' (ent_fn' Try.func96 isn96 rfl rfl) (spec_Whole_Sign_sim _ _ hr5 : Go.Sx.Fn Try.prog 96 [(Ag [(Vl (.bool a0_0)), (Sl (Ki .u32) a0_1)])] [] (fun x : Unit => (Vl (.int .i64 r5))) (fun x => [])) (Hn := fun x : Unit => [⟨.pointer (some q1), [(Vl (.bool a0_0)), (Sl (Ki .u32) a0_1), (Vl (.int .i64 a0_2))], 40, none⟩]) (fun _ => rfl) rfl rfl) (wt_none' rfl) fun ⟨⟩ => ?_
  refine sx_rd' (rd_assign' rfl) rfl rfl (wt_none' rfl) ?_
  refine sx_nil' ?_
  show TX E K2 _
  refine tx_k' hK2 ?_
  refine cx_retc' ?_
  replace hp := Option.some.inj hp
  subst hp
  refine tx_pick' (L' := [(2, (Vl (.int .i64 r5)))]) (H' := []) [] (sub_cons rfl sub_nil) (by decide) pick_nil ?_
  exact tx_ret1' Try.results49 rfl () (rv_tmp' rfl) (List.Sublist.refl _)

def spec_Whole_Up_l1s (a0_1 : List Int) (a1 : Int) (k : Nat) (rec1 : ((List Int) × Int × Int) → Option ((List Int) × Int)) (x1 : List Int) (x2 : Int) (x3 : Int) : Option ((List Int) × Int) :=
  br (decide (x3 < (a0_1.length : Int)))
    ((idx a0_1 x3) >>= fun r30 =>
    (irem a1 32) >>= fun r35 =>
    (ishl .u64 (icv .u64 r30) r35) >>= fun r36 =>
    (apd 4 x1 ([ior .u32 (icv .u32 r36) x2])) >>= fun r43 =>
    (ishr .u64 r36 32) >>= fun r45 =>
    rec1 (r43, (icv .u32 r45), (iadd .i64 x3 1)))
    (some (x1, x2))
def spec_Whole_Up_l1 (a0_1 : List Int) (a1 : Int) : Nat → ((List Int) × Int × Int) → Option ((List Int) × Int)
  | 0, _ => none
  | k + 1, v => spec_Whole_Up_l1s a0_1 a1 k (spec_Whole_Up_l1 a0_1 a1 k) v.1 v.2.1 v.2.2
def spec_Whole_Up (k : Nat) (a0_0 : Bool) (a0_1 : List Int) (a1 : Int) : Option (Bool × (List Int)) :=
  br (decide ((a0_1.length : Int) = 0))
    (some (a0_0, a0_1))
    ((iquo .i64 a1 32) >>= fun r16 =>
    (iquo .i64 a1 32) >>= fun r18 =>
    (mk 4 0 r16 (iadd .i64 (iadd .i64 r18 (a0_1.length : Int)) 1)) >>= fun r24 =>
    (spec_Whole_Up_l1 a0_1 a1 k (r24, 0, 0)) >>= fun v2 =>
    (apd 4 v2.1 ([v2.2])) >>= fun r53 =>
    (spec_trim k r53) >>= fun r54 =>
    some (a0_0, r54))

theorem spec_Whole_Up_sim {k : Nat}  (a0_0 : Bool) (a0_1 : List Int) (a1 : Int) {out : Bool × (List Int)} (hp : spec_Whole_Up k a0_0 a0_1 a1 = some out) : Go.Sx.Fn Try.prog 117 [(Ag [(Vl (.bool a0_0)), (Sl (Ki .u32) a0_1)]), (Vl (.int .i64 a1))] [] (fun w : Unit => (Ag [(Vl (.bool out.1)), (Sl (Ki .u32) out.2)])) (fun w => []) := by
  unfold spec_Whole_Up at hp
  refine fn_of Try.func117 rfl Try.ntmps117 rfl fun E hM => ?_
  refine cx_seq' fun K1 hK1 => ?_
  refine cx_region' ?_
  refine sx_ox' (ox_box' rfl (lv_ag _) rfl rfl) (wt_none' rfl) fun q2 => ?_
  refine sx_ox' (ox_alloc' info38 rfl rfl rfl rfl (l := [(Vl (.bool false)), (Vl (.slice none 0 0))]) rfl) (wt_none' rfl) fun q4 => ?_
  refine sx_nil' ?_
  show TX E K1 _
  refine tx_k' hK1 ?_
  refine cx_seq' fun K2 hK2 => ?_
  refine cx_seq' fun K3 hK3 => ?_
  refine cx_region' ?_
  refine sx_rd' (rd_field' (off := 1) rfl Try.underlying38 rfl info36 rfl) rfl rfl (wt_none' rfl) ?_
  refine sx_rd' (rd_load' (i := 1) (o := 1) rfl ⟨rfl, rfl, rfl, rfl⟩ rfl flat36) rfl rfl (wt_none' rfl) ?_
  refine sx_rd' (rd_len' rfl Try.underlying36) rfl rfl (wt_none' rfl) ?_
  refine sx_rd' (rd_bin' rfl rfl eg_int ru_eql) rfl rfl (wt_none' rfl) ?_
  refine sx_nil' ?_
  show TX E K3 _
  refine tx_k' hK3 ?_
  refine cx_cond' rfl (fun h1 => ?_) (fun h1 => ?_)
  · replace hp := (br_t h1).symm.trans hp
    refine cx_seq' fun K4 hK4 => ?_
    refine cx_region' ?_
    refine sx_rd' (rd_load_agg' (i := 1) (o := 0) (nn := 2) rfl ⟨rfl, rfl, rfl, rfl⟩ rfl agg38 (l' := [(Vl (.bool a0_0)), (Sl (Ki .u32) a0_1)]) rfl) rfl rfl (wt_none' rfl) ?_
    refine sx_ox' (ox_store' (i := 0) (o := 0) rfl rfl (lv_ag _) ⟨rfl, rfl, rfl, rfl⟩ rfl info38 rfl (H' := [⟨.pointer (some q4), [(Vl (.bool a0_0)), (Sl (Ki .u32) a0_1)], 38, none⟩, ⟨.pointer (some q2), [(Vl (.bool a0_0)), (Sl (Ki .u32) a0_1)], 38, none⟩]) rfl) (wt_none' rfl) fun _ => ?_
    refine sx_nil' ?_
    show TX E K4 _
    refine tx_k' hK4 ?_
    refine cx_retc' ?_
    replace hp := Option.some.inj hp
    subst hp
    refine tx_pick' (L' := [(4, (Vl (.pointer (some q4))))]) (H' := [⟨.pointer (some q4), [(Vl (.bool a0_0)), (Sl (Ki .u32) a0_1)], 38, none⟩]) [0] (sub_cons rfl sub_nil) (by decide) (pick_cons rfl pick_nil) ?_
    exact tx_ret1' Try.results117 rfl () (rv_cell_agg' (i := 0) (o := 0) (nn := 2) rfl ⟨rfl, rfl, rfl, rfl⟩ rfl agg38 rfl) (List.nil_sublist _)
  · replace hp := (br_f h1).symm.trans hp
    refine cx_skip' ?_
    show TX E K2 _
    refine tx_k' hK2 ?_
    refine cx_seq' fun K5 hK5 => ?_
    refine cx_region' ?_
    refine sx_rd' (rd_move' rfl) rfl rfl (wt_none' rfl) ?_
    obtain ⟨r16, hr16, hp⟩ := bind_some hp
    refine sx_rd' (rd_bin' rfl rfl eg_int (ru_quo hr16)) rfl rfl (wt_none' rfl) ?_
    refine sx_rd' (rd_move' rfl) rfl rfl (wt_none' rfl) ?_
    obtain ⟨r18, hr18, hp⟩ := bind_some hp
    refine sx_rd' (rd_bin' rfl rfl eg_int (ru_quo hr18)) rfl rfl (wt_none' rfl) ?_
    refine sx_rd' (rd_field' (off := 1) rfl Try.underlying38 rfl info36 rfl) rfl rfl (wt_none' rfl) ?_
    refine sx_rd' (rd_load' (i := 1) (o := 1) rfl ⟨rfl, rfl, rfl, rfl⟩ rfl flat36) rfl rfl (wt_none' rfl) ?_
    refine sx_rd' (rd_len' rfl Try.underlying36) rfl rfl (wt_none' rfl) ?_
    refine sx_rd' (rd_bin' rfl rfl eg_int ru_add) rfl rfl (wt_none' rfl) ?_
    refine sx_rd' (rd_bin' rfl rfl eg_int ru_add) rfl rfl (wt_none' rfl) ?_
    obtain ⟨r24, hr24, hp⟩ := bind_some hp
    refine sx_ox' (ox_make' (K := (Ki .u32)) rfl rfl hr24 rfl Try.underlying36 info152 rfl rfl rfl rfl rfl) (wt_none' rfl) fun g24 => ?_
    refine sx_rd' (rd_assign' rfl) rfl rfl (wt_none' rfl) ?_
    refine sx_nil' ?_
    show TX E K5 _
    refine tx_k' hK5 ?_
    refine cx_seq' fun K6 hK6 => ?_
    refine cx_region' ?_
    refine sx_rd' (rd_assign' rfl) rfl rfl (wt_none' rfl) ?_
    refine sx_nil' ?_
    show TX E K6 _
    refine tx_k' hK6 ?_
    refine cx_seq' fun K7 hK7 => ?_
    refine cx_seq' fun K8 hK8 => ?_
    refine cx_region' ?_
    refine sx_rd' (rd_field' (off := 1) rfl Try.underlying38 rfl info36 rfl) rfl rfl (wt_none' rfl) ?_
    refine sx_rd' (rd_load' (i := 2) (o := 1) rfl ⟨rfl, rfl, rfl, rfl⟩ rfl flat36) rfl rfl (wt_none' rfl) ?_
    refine sx_rd' (rd_len' rfl Try.underlying36) rfl rfl (wt_none' rfl) ?_
    refine sx_rd' (rd_move' rfl) rfl rfl (wt_none' rfl) ?_
    refine sx_nil' ?_
    show TX E K8 _
    refine tx_k' hK8 ?_
    refine cx_block' ?_
    obtain ⟨v2, hy1, hp⟩ := bind_some hp
    refine cx_loopg' (F := spec_Whole_Up_l1 a0_1 a1) (G := fun k R v => spec_Whole_Up_l1s a0_1 a1 k R v.1 v.2.1 v.2.2) (x := (r24, 0, 0)) (gh := g24) (fun (v1 : (List Int) × Int × Int) (w1 : Gs) => (⟨56, [], [(1, (Vl (.int .i64 a1))), (2, (Vl (.pointer (some q2)))), (4, (Vl (.pointer (some q4)))), (5, (Vl (Vs w1))), (6, (Vl (.int .u32 v1.2.1))), (26, (Sl (Ki .u32) a0_1)), (27, (Vl (.int .i64 (a0_1.length : Int)))), (28, (Vl (.int .i64 v1.2.2)))], [⟨.pointer (some q2), [(Vl (.bool a0_0)), (Sl (Ki .u32) a0_1)], 38, none⟩, ⟨.pointer (some q4), [(Vl (.bool false)), (Vl (.slice none 0 0))], 38, none⟩, (Rw (Ki .u32) 152 (Vs w1) v1.1)]⟩ : St)) (fun (v2 : (List Int) × Int) => Zg E (Exit.exit 0) (fun (w2 : Gs) => (⟨56, [], [(2, (Vl (.pointer (some q2)))), (4, (Vl (.pointer (some q4)))), (5, (Vl (Vs w2))), (6, (Vl (.int .u32 v2.2)))], [⟨.pointer (some q2), [(Vl (.bool a0_0)), (Sl (Ki .u32) a0_1)], 38, none⟩, ⟨.pointer (some q4), [(Vl (.bool false)), (Vl (.slice none 0 0))], 38, none⟩, (Rw (Ki .u32) 152 (Vs w2) v2.1)]⟩ : St))) (fun _ => rfl) (fun _ _ => rfl) ?_ hy1 (tx_to' rfl [2, 1, 0] (sub_cons rfl (sub_cons rfl (sub_cons rfl (sub_cons rfl (sub_cons rfl (sub_cons rfl (sub_cons rfl (sub_cons rfl sub_nil)))))))) (by decide) (pick_cons rfl (pick_cons rfl (pick_cons rfl pick_nil)))) ?_
    · clear hp hy1
      clear v2
      intro k rec1 KY1 ih1
      rintro ⟨x1, x2, x3⟩ g901 y1 hp
      replace hp : spec_Whole_Up_l1s a0_1 a1 k rec1 x1 x2 x3 = some y1 := hp
      unfold spec_Whole_Up_l1s at hp
      refine cx_seq' fun K15 hK15 => ?_
      refine cx_region' ?_
      refine sx_rd' (rd_bin' rfl rfl eg_int ru_lss) rfl rfl (wt_none' rfl) ?_
      refine sx_nil' ?_
      show TX E K15 _
      refine tx_k' hK15 ?_
      refine cx_seq' fun K16 hK16 => ?_
      refine cx_cond' rfl (fun h4 => ?_) (fun h4 => ?_)
      · replace hp := (br_t h4).symm.trans hp
        refine cx_skip' ?_
        show TX E K16 _
        refine tx_k' hK16 ?_
        refine cx_seq' fun K17 hK17 => ?_
        refine cx_block' ?_
        refine cx_seq' fun K18 hK18 => ?_
        refine cx_region' ?_
        obtain ⟨r30, hr30, hp⟩ := bind_some hp
        refine sx_rd' (rd_at' (K := (Ki .u32)) rfl rfl hr30 Try.underlying36 info152) rfl rfl (wt_none' rfl) ?_
        refine sx_rd' (rd_load_pt' rfl rfl flat152) rfl rfl (wt_none' rfl) ?_
        refine sx_rd' (rd_assign' rfl) rfl rfl (wt_none' rfl) ?_
        refine sx_nil' ?_
        show TX E K18 _
        refine tx_k' hK18 ?_
        refine cx_seq' fun K19 hK19 => ?_
        refine cx_region' ?_
        refine sx_rd' (rd_move' rfl) rfl rfl (wt_none' rfl) ?_
        refine sx_rd' (rd_conv' rfl (ru_i2i (by rw [Try.underlying152]; rfl) Try.underlying112)) rfl rfl (wt_none' rfl) ?_
        refine sx_rd' (rd_move' rfl) rfl rfl (wt_none' rfl) ?_
        obtain ⟨r35, hr35, hp⟩ := bind_some hp
        refine sx_rd' (rd_bin' rfl rfl eg_int (ru_rem hr35)) rfl rfl (wt_none' rfl) ?_
        obtain ⟨r36, hr36, hp⟩ := bind_some hp
        refine sx_rd' (rd_bin' rfl rfl eg_int (ru_shl hr36)) rfl rfl (wt_none' rfl) ?_
        refine sx_rd' (rd_assign' rfl) rfl rfl (wt_none' rfl) ?_
        refine sx_nil' ?_
        show TX E K19 _
        refine tx_k' hK19 ?_
        refine cx_seq' fun K20 hK20 => ?_
        refine cx_region' ?_
        refine sx_rd' (rd_move' rfl) rfl rfl (wt_none' rfl) ?_
        refine sx_rd' (rd_move' rfl) rfl rfl (wt_none' rfl) ?_
        refine sx_rd' (rd_conv' rfl (ru_i2i (by rw [Try.underlying112]; rfl) Try.underlying152)) rfl rfl (wt_none' rfl) ?_
        refine sx_rd' (rd_move' rfl) rfl rfl (wt_none' rfl) ?_
        refine sx_rd' (rd_bin' rfl rfl eg_int ru_or) rfl rfl (wt_none' rfl) ?_
        refine sx_ox' (ox_rowlit' (K := (Ki .u32)) (xs := [ior .u32 (icv .u32 r36) x2]) (qs := [(0, [(Vl (.int .u32 (ior .u32 (icv .u32 r36) x2)))])]) ⟨rfl, ⟨_, rfl, (lv_vl rfl rfl)⟩, trivial⟩ Try.underlying36 info152 rfl rfl rfl rfl rfl (by kernel_rfl) rfl rfl rfl) (wt_none' rfl) fun g42 => ?_
        obtain ⟨r43, hr43, hp⟩ := bind_some hp
        refine sx_ox' (ox_append' (K := (Ki .u32)) (i := 3) (xs := x1) (ys := ([ior .u32 (icv .u32 r36) x2])) rfl rfl rfl (sr_row' (j := 0) rfl rfl rfl Try.underlying36) hr43 Try.underlying36 info152 rfl rfl rfl (H' := [(Rw (Ki .u32) 152 (Vs g42) ([ior .u32 (icv .u32 r36) x2])), ⟨.pointer (some q2), [(Vl (.bool a0_0)), (Sl (Ki .u32) a0_1)], 38, none⟩, ⟨.pointer (some q4), [(Vl (.bool false)), (Vl (.slice none 0 0))], 38, none⟩]) rfl) (wt_none' rfl) fun g43 => ?_
        refine sx_rd' (rd_assign' rfl) rfl rfl (wt_none' rfl) ?_
        refine sx_nil' ?_
        show TX E K20 _
        refine tx_k' hK20 ?_
        refine cx_region' ?_
        refine sx_rd' (rd_move' rfl) rfl rfl (wt_none' rfl) ?_
        obtain ⟨r45, hr45, hp⟩ := bind_some hp
        refine sx_rd' (rd_bin' rfl rfl eg_int (ru_shr hr45)) rfl rfl (wt_none' rfl) ?_
        refine sx_rd' (rd_conv' rfl (ru_i2i (by rw [Try.underlying112]; rfl) Try.underlying152)) rfl rfl (wt_none' rfl) ?_
        refine sx_rd' (rd_assign' rfl) rfl rfl (wt_none' rfl) ?_
        refine sx_nil' ?_
        show TX E K17 _
        refine tx_k' hK17 ?_
        refine cx_region' ?_
        refine sx_rd' (rd_bin' rfl rfl eg_int ru_add) rfl rfl (wt_none' rfl) ?_
        refine sx_rd' (rd_move' rfl) rfl rfl (wt_none' rfl) ?_
        refine sx_nil' ?_
        show TX E (KY1 _) _
        exact tx_pick' [2, 3, 0] (sub_cons rfl (sub_cons rfl (sub_cons rfl (sub_cons rfl (sub_cons rfl (sub_cons rfl (sub_cons rfl (sub_cons rfl sub_nil)))))))) (by decide) (pick_cons rfl (pick_cons rfl (pick_cons rfl pick_nil))) (ih1 (r43, (icv .u32 r45), (iadd .i64 x3 1)) g43 _ hp)
      · replace hp := (br_f h4).symm.trans hp
        refine cx_exit' ?_
        replace hp := Option.some.inj hp
        subst hp
        show TX E (Zg E (Exit.exit 0) _ (Exit.exit 0)) _
        exact tx_zend' g901 rfl [0, 1, 2] (sub_cons rfl (sub_cons rfl (sub_cons rfl (sub_cons rfl sub_nil)))) (by decide) (pick_cons rfl (pick_cons rfl (pick_cons rfl pick_nil)))
    · refine zg_out fun w2 => ?_
      show TX E K7 _
      refine tx_k' hK7 ?_
      refine cx_seq' fun K21 hK21 => ?_
      refine cx_plan' [q2.block] [(5, 1), (8, 1)] [(0, 2), (1, 2), (2, 1), (3, 1), (4, 0), (5, 0), (6, 0), (7, 1), (8, 0)] mixed (by kernel_rfl) ?_
      refine px_rb' rfl (rb_field0' rfl Try.underlying38 rfl info4 rfl) rfl rfl (wt_none' rfl) ?_
      refine px_rb' rfl (rb_load' (i := 0) (o := 0) rfl ⟨rfl, rfl, rfl, rfl⟩ rfl flat4 (by simp)) rfl rfl (wt_none' rfl) ?_
      refine px_rd' rfl (rd_move' rfl) rfl rfl (wt_none' rfl) ?_
      refine px_rd' rfl (rd_move' rfl) rfl rfl (wt_none' rfl) ?_
      refine px_ox' rfl (ox_rowlit' (K := (Ki .u32)) (xs := [v2.2]) (qs := [(0, [(Vl (.int .u32 v2.2))])]) ⟨rfl, ⟨_, rfl, (lv_vl rfl rfl)⟩, trivial⟩ Try.underlying36 info152 rfl rfl rfl rfl rfl (by kernel_rfl) rfl rfl rfl) rfl (bs_cons (m := 0) rfl rfl rfl bs_nil) (wt_none' rfl) fun g52 => ?_
      obtain ⟨r53, hr53, hp⟩ := bind_some hp
      refine px_ox' rfl (ox_append' (K := (Ki .u32)) (i := 3) (xs := v2.1) (ys := ([v2.2])) rfl rfl rfl (sr_row' (j := 0) rfl rfl rfl Try.underlying36) hr53 Try.underlying36 info152 rfl rfl rfl (H' := [(Rw (Ki .u32) 152 (Vs g52) ([v2.2])), ⟨.pointer (some q2), [(Vl (.bool a0_0)), (Sl (Ki .u32) a0_1)], 38, none⟩, ⟨.pointer (some q4), [(Vl (.bool false)), (Vl (.slice none 0 0))], 38, none⟩]) rfl) rfl (bs_cons (m := 1) rfl rfl rfl bs_nil) (wt_none' rfl) fun g53 => ?_
      refine tx_fz' (frz_row 0 [(53, (Vl (Vs g53)), (Sl (Ki .u32) r53))] (K := (Ki .u32)) (xs := r53) (by decide) rfl ⟨⟨rfl, frz_it⟩, trivial⟩ (H' := [(Rw (Ki .u32) 152 (Vs g52) ([v2.2])), ⟨.pointer (some q2), [(Vl (.bool a0_0)), (Sl (Ki .u32) a0_1)], 38, none⟩, ⟨.pointer (some q4), [(Vl (.bool false)), (Vl (.slice none 0 0))], 38, none⟩]) frzH_refl) ?_
      obtain ⟨r54, hr54, hp⟩ := bind_some hp
      refine px_ox' rfl (ox_calln' (ent_fn' Try.func135 isn135 rfl rfl) (spec_trim_sim _ hr54 : Go.Sx.Fn Try.prog 135 [(Sl (Ki .u32) r53)] [] (fun x : Unit => (Sl (Ki .u32) r54)) (fun x => [])) (Hn := fun x : Unit => [(Rw (Ki .u32) 152 (Vs g52) ([v2.2])), ⟨.pointer (some q2), [(Vl (.bool a0_0)), (Sl (Ki .u32) a0_1)], 38, none⟩, ⟨.pointer (some q4), [(Vl (.bool false)), (Vl (.slice none 0 0))], 38, none⟩]) (fun _ => rfl) rfl rfl) rfl (bs_cons (m := 1) rfl rfl rfl bs_nil) (wt_none' rfl) fun ⟨⟩ => ?_
      refine px_rd' rfl (rd_build' (pls := [(0, 1), (1, 1)]) (qs := [(0, [(Vl (.bool a0_0))]), (1, [(Sl (Ki .u32) r54)])]) (r := [(Vl (.bool a0_0)), (Sl (Ki .u32) r54)]) ⟨rfl, ⟨_, rfl, (lv_vl rfl rfl)⟩, ⟨rfl, ⟨_, rfl, (lv_sl _ _)⟩, trivial⟩⟩ Try.underlying38 has38 places38 info38 rfl rfl rfl) rfl rfl (wt_none' rfl) ?_
      refine px_oxv' rfl (oxv_store (i := 2) (o := 0) rfl rfl (lv_ag _) ⟨rfl, rfl, rfl, rfl⟩ rfl info38 rfl (H' := [(Rw (Ki .u32) 152 (Vs g52) ([v2.2])), ⟨.pointer (some q2), [(Vl (.bool a0_0)), (Sl (Ki .u32) a0_1)], 38, none⟩, ⟨.pointer (some q4), [(Vl (.bool a0_0)), (Sl (Ki .u32) r54)], 38, none⟩]) rfl) rfl rfl (bo_cons (m := 1) (by decide) rfl rfl bo_nil) (wt_none' rfl) fun _ => ?_
      refine px_nil' ?_
      show TX E K21 _
      refine tx_k' hK21 ?_
      refine cx_retc' ?_
      replace hp := Option.some.inj hp
      subst hp
      refine tx_pick' (L' := [(4, (Vl (.pointer (some q4))))]) (H' := [⟨.pointer (some q4), [(Vl (.bool a0_0)), (Sl (Ki .u32) r54)], 38, none⟩]) [2] (sub_cons rfl sub_nil) (by decide) (pick_cons rfl pick_nil) ?_
      exact tx_ret1' Try.results117 rfl () (rv_cell_agg' (i := 0) (o := 0) (nn := 2) rfl ⟨rfl, rfl, rfl, rfl⟩ rfl agg38 rfl) (List.nil_sublist _)

def spec_addLimbs_j3 (k : Nat) (x5 : List Int) (rec1 : ((List Int) × Int × Int) → Option ((List Int) × Int)) (x7 : Int) (x4 : Int) : Option ((List Int) × Int) :=
  (apd 4 x5 ([icv .u32 x4])) >>= fun r47 =>
  (ishr .u64 x4 32) >>= fun r49 =>
  rec1 (r47, r49, (iadd .i64 x7 1))
def spec_addLimbs_l1s (x1 : List Int) (x2 : List Int) (k : Nat) (rec1 : ((List Int) × Int × Int) → Option ((List Int) × Int)) (x5 : List Int) (x6 : Int) (x7 : Int) : Option ((List Int) × Int) :=
  br (decide (x7 < (x1.length : Int)))
    ((idx x1 x7) >>= fun r26 =>
    br (decide (x7 < (x2.length : Int)))
      ((idx x2 x7) >>= fun r39 =>
      spec_addLimbs_j3 k x5 rec1 x7 (iadd .u64 (iadd .u64 (icv .u64 r26) x6) (icv .u64 r39)))
      (spec_addLimbs_j3 k x5 rec1 x7 (iadd .u64 (icv .u64 r26) x6)))
    (some (x5, x6))
def spec_addLimbs_l1 (x1 : List Int) (x2 : List Int) : Nat → ((List Int) × Int × Int) → Option ((List Int) × Int)
  | 0, _ => none
  | k + 1, v => spec_addLimbs_l1s x1 x2 k (spec_addLimbs_l1 x1 x2 k) v.1 v.2.1 v.2.2
def spec_addLimbs_j1 (k : Nat) (x1 : List Int) (x2 : List Int) : Option ((List Int)) :=
  (mk 4 0 0 (iadd .i64 (x1.length : Int) 1)) >>= fun r20 =>
  (spec_addLimbs_l1 x1 x2 k (r20, 0, 0)) >>= fun v5 =>
  (apd 4 v5.1 ([icv .u32 v5.2])) >>= fun r55 =>
  (spec_trim k r55) >>= fun r56 =>
  some r56
def spec_addLimbs (k : Nat) (a0 : List Int) (a1 : List Int) : Option ((List Int)) :=
  br (decide ((a0.length : Int) < (a1.length : Int)))
    (spec_addLimbs_j1 k a1 a0)
    (spec_addLimbs_j1 k a0 a1)

theorem spec_addLimbs_sim {k : Nat}  (a0 : List Int) (a1 : List Int) {out : (List Int)} (hp : spec_addLimbs k a0 a1 = some out) : Go.Sx.Fn Try.prog 151 [(Sl (Ki .u32) a0), (Sl (Ki .u32) a1)] [] (fun w : Unit => (Sl (Ki .u32) out)) (fun w => []) := by
  unfold spec_addLimbs at hp
  refine fn_of Try.func151 rfl Try.ntmps151 rfl fun E hM => ?_
  refine cx_seq' fun K1 hK1 => ?_
  refine cx_region' ?_
  refine sx_rd' (rd_assign' rfl) rfl rfl (wt_none' rfl) ?_
  refine sx_nil' ?_
  show TX E K1 _
  refine tx_k' hK1 ?_
  refine cx_join' (fun (v1 : (List Int) × (List Int)) => (⟨57, [], [(0, (Sl (Ki .u32) v1.1)), (1, (Sl (Ki .u32) v1.2))], []⟩ : St)) (fun (v1 : (List Int) × (List Int)) => spec_addLimbs_j1 k v1.1 v1.2 = some out) ?_ ?_
  · rintro ⟨x1, x2⟩ hp
    replace hp : spec_addLimbs_j1 k x1 x2 = some out := hp
    unfold spec_addLimbs_j1 at hp
    refine cx_seq' fun K4 hK4 => ?_
    refine cx_region' ?_
    refine sx_rd' (rd_move' rfl) rfl rfl (wt_none' rfl) ?_
    refine sx_rd' (rd_len' rfl Try.underlying36) rfl rfl (wt_none' rfl) ?_
    refine sx_rd' (rd_bin' rfl rfl eg_int ru_add) rfl rfl (wt_none' rfl) ?_
    obtain ⟨r20, hr20, hp⟩ := bind_some hp
    refine sx_ox' (ox_make' (K := (Ki .u32)) rfl rfl hr20 rfl Try.underlying36 info152 rfl rfl rfl rfl rfl) (wt_none' rfl) fun g20 => ?_
    refine sx_rd' (rd_assign' rfl) rfl rfl (wt_none' rfl) ?_
    refine sx_nil' ?_
    show TX E K4 _
    refine tx_k' hK4 ?_
    refine cx_seq' fun K5 hK5 => ?_
    refine cx_region' ?_
    refine sx_rd' (rd_assign' rfl) rfl rfl (wt_none' rfl) ?_
    refine sx_nil' ?_
    show TX E K5 _
    refine tx_k' hK5 ?_
    refine cx_seq' fun K6 hK6 => ?_
    refine cx_seq' fun K7 hK7 => ?_
    refine cx_region' ?_
    refine sx_rd' (rd_move' rfl) rfl rfl (wt_none' rfl) ?_
    refine sx_rd' (rd_len' rfl Try.underlying36) rfl rfl (wt_none' rfl) ?_
    refine sx_rd' (rd_move' rfl) rfl rfl (wt_none' rfl) ?_
    refine sx_nil' ?_
    show TX E K7 _
    refine tx_k' hK7 ?_
    refine cx_block' ?_
    obtain ⟨v5, hy1, hp⟩ := bind_some hp
    refine cx_loopg' (F := spec_addLimbs_l1 x1 x2) (G := fun k R v => spec_addLimbs_l1s x1 x2 k R v.1 v.2.1 v.2.2) (x := (r20, 0, 0)) (gh := g20) (fun (v3 : (List Int) × Int × Int) (w3 : Gs) => (⟨57, [], [(1, (Sl (Ki .u32) x2)), (5, (Vl (Vs w3))), (6, (Vl (.int .u64 v3.2.1))), (21, (Sl (Ki .u32) x1)), (22, (Vl (.int .i64 (x1.length : Int)))), (23, (Vl (.int .i64 v3.2.2)))], [(Rw (Ki .u32) 152 (Vs w3) v3.1)]⟩ : St)) (fun (v5 : (List Int) × Int) => Zg E (Exit.exit 0) (fun (w5 : Gs) => (⟨57, [], [(5, (Vl (Vs w5))), (6, (Vl (.int .u64 v5.2)))], [(Rw (Ki .u32) 152 (Vs w5) v5.1)]⟩ : St))) (fun _ => rfl) (fun _ _ => rfl) ?_ hy1 (tx_to' rfl [0] (sub_cons rfl (sub_cons rfl (sub_cons rfl (sub_cons rfl (sub_cons rfl (sub_cons rfl sub_nil)))))) (by decide) (pick_cons rfl pick_nil)) ?_
    · clear hp hy1
      clear v5
      intro k rec1 KY1 ih1
      rintro ⟨x5, x6, x7⟩ g901 y1 hp
      replace hp : spec_addLimbs_l1s x1 x2 k rec1 x5 x6 x7 = some y1 := hp
      unfold spec_addLimbs_l1s at hp
      refine cx_seq' fun K16 hK16 => ?_
      refine cx_region' ?_
      refine sx_rd' (rd_bin' rfl rfl eg_int ru_lss) rfl rfl (wt_none' rfl) ?_
      refine sx_nil' ?_
      show TX E K16 _
      refine tx_k' hK16 ?_
      refine cx_seq' fun K17 hK17 => ?_
      refine cx_cond' rfl (fun h5 => ?_) (fun h5 => ?_)
      · replace hp := (br_t h5).symm.trans hp
        refine cx_skip' ?_
        show TX E K17 _
        refine tx_k' hK17 ?_
        refine cx_seq' fun K18 hK18 => ?_
        refine cx_block' ?_
        refine cx_seq' fun K19 hK19 => ?_
        refine cx_region' ?_
        refine sx_rd' (rd_move' rfl) rfl rfl (wt_none' rfl) ?_
        obtain ⟨r26, hr26, hp⟩ := bind_some hp
        refine sx_rd' (rd_at' (K := (Ki .u32)) rfl rfl hr26 Try.underlying36 info152) rfl rfl (wt_none' rfl) ?_
        refine sx_rd' (rd_load_pt' rfl rfl flat152) rfl rfl (wt_none' rfl) ?_
        refine sx_rd' (rd_assign' rfl) rfl rfl (wt_none' rfl) ?_
        refine sx_rd' (rd_assign' rfl) rfl rfl (wt_none' rfl) ?_
        refine sx_nil' ?_
        show TX E K19 _
        refine tx_k' hK19 ?_
        refine cx_seq' fun K20 hK20 => ?_
        refine cx_region' ?_
        refine sx_rd' (rd_move' rfl) rfl rfl (wt_none' rfl) ?_
        refine sx_rd' (rd_conv' rfl (ru_i2i (by rw [Try.underlying152]; rfl) Try.underlying112)) rfl rfl (wt_none' rfl) ?_
        refine sx_rd' (rd_move' rfl) rfl rfl (wt_none' rfl) ?_
        refine sx_rd' (rd_bin' rfl rfl eg_int ru_add) rfl rfl (wt_none' rfl) ?_
        refine sx_rd' (rd_assign' rfl) rfl rfl (wt_none' rfl) ?_
        refine sx_nil' ?_
        show TX E K20 _
        refine tx_k' hK20 ?_
        refine cx_join' (fun (v4 : Int) => (⟨57, [], [(1, (Sl (Ki .u32) x2)), (5, (Vl (Vs g901))), (9, (Vl (.int .u64 v4))), (21, (Sl (Ki .u32) x1)), (22, (Vl (.int .i64 (x1.length : Int)))), (23, (Vl (.int .i64 x7)))], [(Rw (Ki .u32) 152 (Vs g901) x5)]⟩ : St)) (fun (v4 : Int) => spec_addLimbs_j3 k x5 rec1 x7 v4 = some y1) ?_ ?_
        · rintro x4 hp
          replace hp : spec_addLimbs_j3 k x5 rec1 x7 x4 = some y1 := hp
          unfold spec_addLimbs_j3 at hp
          refine cx_seq' fun K23 hK23 => ?_
          refine cx_region' ?_
          refine sx_rd' (rd_move' rfl) rfl rfl (wt_none' rfl) ?_
          refine sx_rd' (rd_move' rfl) rfl rfl (wt_none' rfl) ?_
          refine sx_rd' (rd_conv' rfl (ru_i2i (by rw [Try.underlying112]; rfl) Try.underlying152)) rfl rfl (wt_none' rfl) ?_
          refine sx_ox' (ox_rowlit' (K := (Ki .u32)) (xs := [icv .u32 x4]) (qs := [(0, [(Vl (.int .u32 (icv .u32 x4)))])]) ⟨rfl, ⟨_, rfl, (lv_vl rfl rfl)⟩, trivial⟩ Try.underlying36 info152 rfl rfl rfl rfl rfl (by kernel_rfl) rfl rfl rfl) (wt_none' rfl) fun g46 => ?_
          obtain ⟨r47, hr47, hp⟩ := bind_some hp
          refine sx_ox' (ox_append' (K := (Ki .u32)) (i := 1) (xs := x5) (ys := ([icv .u32 x4])) rfl rfl rfl (sr_row' (j := 0) rfl rfl rfl Try.underlying36) hr47 Try.underlying36 info152 rfl rfl rfl (H' := [(Rw (Ki .u32) 152 (Vs g46) ([icv .u32 x4]))]) rfl) (wt_none' rfl) fun g47 => ?_
          refine sx_rd' (rd_assign' rfl) rfl rfl (wt_none' rfl) ?_
          refine sx_nil' ?_
          show TX E K23 _
          refine tx_k' hK23 ?_
          refine cx_region' ?_
          refine sx_rd' (rd_move' rfl) rfl rfl (wt_none' rfl) ?_
          obtain ⟨r49, hr49, hp⟩ := bind_some hp
          refine sx_rd' (rd_bin' rfl rfl eg_int (ru_shr hr49)) rfl rfl (wt_none' rfl) ?_
          refine sx_rd' (rd_assign' rfl) rfl rfl (wt_none' rfl) ?_
          refine sx_nil' ?_
          show TX E K18 _
          refine tx_k' hK18 ?_
          refine cx_region' ?_
          refine sx_rd' (rd_bin' rfl rfl eg_int ru_add) rfl rfl (wt_none' rfl) ?_
          refine sx_rd' (rd_move' rfl) rfl rfl (wt_none' rfl) ?_
          refine sx_nil' ?_
          show TX E (KY1 _) _
          exact tx_pick' [0] (sub_cons rfl (sub_cons rfl (sub_cons rfl (sub_cons rfl (sub_cons rfl (sub_cons rfl sub_nil)))))) (by decide) (pick_cons rfl pick_nil) (ih1 (r47, r49, (iadd .i64 x7 1)) g47 _ hp)
        · intro K21 hK21
          refine cx_seq' fun K22 hK22 => ?_
          refine cx_region' ?_
          refine sx_rd' (rd_move' rfl) rfl rfl (wt_none' rfl) ?_
          refine sx_rd' (rd_move' rfl) rfl rfl (wt_none' rfl) ?_
          refine sx_rd' (rd_len' rfl Try.underlying36) rfl rfl (wt_none' rfl) ?_
          refine sx_rd' (rd_bin' rfl rfl eg_int ru_lss) rfl rfl (wt_none' rfl) ?_
          refine sx_nil' ?_
          show TX E K22 _
          refine tx_k' hK22 ?_
          refine cx_cond' rfl (fun h6 => ?_) (fun h6 => ?_)
          · replace hp := (br_t h6).symm.trans hp
            refine cx_region' ?_
            refine sx_rd' (rd_move' rfl) rfl rfl (wt_none' rfl) ?_
            refine sx_rd' (rd_move' rfl) rfl rfl (wt_none' rfl) ?_
            refine sx_rd' (rd_move' rfl) rfl rfl (wt_none' rfl) ?_
            obtain ⟨r39, hr39, hp⟩ := bind_some hp
            refine sx_rd' (rd_at' (K := (Ki .u32)) rfl rfl hr39 Try.underlying36 info152) rfl rfl (wt_none' rfl) ?_
            refine sx_rd' (rd_load_pt' rfl rfl flat152) rfl rfl (wt_none' rfl) ?_
            refine sx_rd' (rd_conv' rfl (ru_i2i (by rw [Try.underlying152]; rfl) Try.underlying112)) rfl rfl (wt_none' rfl) ?_
            refine sx_rd' (rd_bin' rfl rfl eg_int ru_add) rfl rfl (wt_none' rfl) ?_
            refine sx_rd' (rd_assign' rfl) rfl rfl (wt_none' rfl) ?_
            refine sx_nil' ?_
            show TX E K21 _
            exact tx_pick' [0] (sub_cons rfl (sub_cons rfl (sub_cons rfl (sub_cons rfl (sub_cons rfl (sub_cons rfl sub_nil)))))) (by decide) (pick_cons rfl pick_nil) (hK21 (iadd .u64 (iadd .u64 (icv .u64 r26) x6) (icv .u64 r39)) hp)
          · replace hp := (br_f h6).symm.trans hp
            refine cx_skip' ?_
            show TX E K21 _
            exact tx_pick' [0] (sub_cons rfl (sub_cons rfl (sub_cons rfl (sub_cons rfl (sub_cons rfl (sub_cons rfl sub_nil)))))) (by decide) (pick_cons rfl pick_nil) (hK21 (iadd .u64 (icv .u64 r26) x6) hp)
      · replace hp := (br_f h5).symm.trans hp
        refine cx_exit' ?_
        replace hp := Option.some.inj hp
        subst hp
        show TX E (Zg E (Exit.exit 0) _ (Exit.exit 0)) _
        exact tx_zend' g901 rfl [0] (sub_cons rfl (sub_cons rfl sub_nil)) (by decide) (pick_cons rfl pick_nil)
    · refine zg_out fun w5 => ?_
      show TX E K6 _
      refine tx_k' hK6 ?_
      refine cx_seq' fun K24 hK24 => ?_
      refine cx_region' ?_
      refine sx_rd' (rd_move' rfl) rfl rfl (wt_none' rfl) ?_
      refine sx_rd' (rd_move' rfl) rfl rfl (wt_none' rfl) ?_
      refine sx_rd' (rd_conv' rfl (ru_i2i (by rw [Try.underlying112]; rfl) Try.underlying152)) rfl rfl (wt_none' rfl) ?_
      refine sx_ox' (ox_rowlit' (K := (Ki .u32)) (xs := [icv .u32 v5.2]) (qs := [(0, [(Vl (.int .u32 (icv .u32 v5.2)))])]) ⟨rfl, ⟨_, rfl, (lv_vl rfl rfl)⟩, trivial⟩ Try.underlying36 info152 rfl rfl rfl rfl rfl (by kernel_rfl) rfl rfl rfl) (wt_none' rfl) fun g54 => ?_
      obtain ⟨r55, hr55, hp⟩ := bind_some hp
      refine sx_ox' (ox_append' (K := (Ki .u32)) (i := 1) (xs := v5.1) (ys := ([icv .u32 v5.2])) rfl rfl rfl (sr_row' (j := 0) rfl rfl rfl Try.underlying36) hr55 Try.underlying36 info152 rfl rfl rfl (H' := [(Rw (Ki .u32) 152 (Vs g54) ([icv .u32 v5.2]))]) rfl) (wt_none' rfl) fun g55 => ?_
      refine tx_fz' (frz_row 0 [(55, (Vl (Vs g55)), (Sl (Ki .u32) r55))] (K := (Ki .u32)) (xs := r55) (by decide) rfl ⟨⟨rfl, frz_it⟩, trivial⟩ (H' := [(Rw (Ki .u32) 152 (Vs g54) ([icv .u32 v5.2]))]) frzH_refl) ?_
      obtain ⟨r56, hr56, hp⟩ := bind_some hp
      refine sx_ox' (ox_calln' (ent_fn' Try.func135 isn135 rfl rfl) (spec_trim_sim _ hr56 : Go.Sx.Fn Try.prog 135 [(Sl (Ki .u32) r55)] [] (fun x : Unit => (Sl (Ki .u32) r56)) (fun x => [])) (Hn := fun x : Unit => [(Rw (Ki .u32) 152 (Vs g54) ([icv .u32 v5.2]))]) (fun _ => rfl) rfl rfl) (wt_none' rfl) fun ⟨⟩ => ?_
      refine sx_rd' (rd_assign' rfl) rfl rfl (wt_none' rfl) ?_
      refine sx_nil' ?_
      show TX E K24 _
      refine tx_k' hK24 ?_
      refine cx_retc' ?_
      replace hp := Option.some.inj hp
      subst hp
      refine tx_pick' (L' := [(4, (Sl (Ki .u32) r56))]) (H' := []) [] (sub_cons rfl sub_nil) (by decide) pick_nil ?_
      exact tx_ret1' Try.results151 rfl () (rv_tmp' rfl) (List.Sublist.refl _)
  · intro K2 hK2
    refine cx_seq' fun K3 hK3 => ?_
    refine cx_region' ?_
    refine sx_rd' (rd_move' rfl) rfl rfl (wt_none' rfl) ?_
    refine sx_rd' (rd_len' rfl Try.underlying36) rfl rfl (wt_none' rfl) ?_
    refine sx_rd' (rd_move' rfl) rfl rfl (wt_none' rfl) ?_
    refine sx_rd' (rd_len' rfl Try.underlying36) rfl rfl (wt_none' rfl) ?_
    refine sx_rd' (rd_bin' rfl rfl eg_int ru_lss) rfl rfl (wt_none' rfl) ?_
    refine sx_nil' ?_
    show TX E K3 _
    refine tx_k' hK3 ?_
    refine cx_cond' rfl (fun h1 => ?_) (fun h1 => ?_)
    · replace hp := (br_t h1).symm.trans hp
      refine cx_region' ?_
      refine sx_rd' (rd_move' rfl) rfl rfl (wt_none' rfl) ?_
      refine sx_rd' (rd_move' rfl) rfl rfl (wt_none' rfl) ?_
      refine sx_rd' (rd_assign' rfl) rfl rfl (wt_none' rfl) ?_
      refine sx_rd' (rd_assign' rfl) rfl rfl (wt_none' rfl) ?_
      refine sx_nil' ?_
      show TX E K2 _
      exact tx_pick' [] (sub_cons rfl (sub_cons rfl sub_nil)) (by decide) pick_nil (hK2 (a1, a0) hp)
    · replace hp := (br_f h1).symm.trans hp
      refine cx_skip' ?_
      show TX E K2 _
      exact tx_pick' [] (sub_cons rfl (sub_cons rfl sub_nil)) (by decide) pick_nil (hK2 (a0, a1) hp)

def spec_cmpLimbs_l1s (a0 : List Int) (a1 : List Int) (k : Nat) (rec1 : Int → Option (Int ⊕ Unit)) (x1 : Int) : Option (Int ⊕ Unit) :=
  br (decide (0 ≤ x1))
    ((idx a0 x1) >>= fun r25 =>
    (idx a1 x1) >>= fun r29 =>
    br (!decide (r25 = r29))
      ((idx a0 x1) >>= fun r34 =>
      (idx a1 x1) >>= fun r38 =>
      br (decide (r34 < r38))
        (some (.inl (-1)))
        (some (.inl 1)))
      (rec1 (isub .i64 x1 1)))
    (some (.inr ()))
def spec_cmpLimbs_l1 (a0 : List Int) (a1 : List Int) : Nat → Int → Option (Int ⊕ Unit)
  | 0, _ => none
  | k + 1, v => spec_cmpLimbs_l1s a0 a1 k (spec_cmpLimbs_l1 a0 a1 k) v
def spec_cmpLimbs (k : Nat) (a0 : List Int) (a1 : List Int) : Option (Int) :=
  br (!decide ((a0.length : Int) = (a1.length : Int)))
    (br (decide ((a0.length : Int) < (a1.length : Int)))
      (some (-1))
      (some 1))
    ((spec_cmpLimbs_l1 a0 a1 k (isub .i64 (a0.length : Int) 1)) >>= fun y1 => match y1 with
      | (.inl v2) =>
        (some v2)
      | (.inr v3) =>
        (some 0))

theorem spec_cmpLimbs_sim {k : Nat}  (a0 : List Int) (a1 : List Int) {out : Int} (hp : spec_cmpLimbs k a0 a1 = some out) : Go.Sx.Fn Try.prog 152 [(Sl (Ki .u32) a0), (Sl (Ki .u32) a1)] [] (fun w : Unit => (Vl (.int .i64 out))) (fun w => []) := by
  unfold spec_cmpLimbs at hp
  refine fn_of Try.func152 rfl Try.ntmps152 rfl fun E hM => ?_
  refine cx_seq' fun K1 hK1 => ?_
  refine cx_region' ?_
  refine sx_rd' (rd_assign' rfl) rfl rfl (wt_none' rfl) ?_
  refine sx_nil' ?_
  show TX E K1 _
  refine tx_k' hK1 ?_
  refine cx_seq' fun K2 hK2 => ?_
  refine cx_seq' fun K3 hK3 => ?_
  refine cx_region' ?_
  refine sx_rd' (rd_move' rfl) rfl rfl (wt_none' rfl) ?_
  refine sx_rd' (rd_len' rfl Try.underlying36) rfl rfl (wt_none' rfl) ?_
  refine sx_rd' (rd_move' rfl) rfl rfl (wt_none' rfl) ?_
  refine sx_rd' (rd_len' rfl Try.underlying36) rfl rfl (wt_none' rfl) ?_
  refine sx_rd' (rd_bin' rfl rfl eg_int ru_neq) rfl rfl (wt_none' rfl) ?_
  refine sx_nil' ?_
  show TX E K3 _
  refine tx_k' hK3 ?_
  refine cx_cond' rfl (fun h1 => ?_) (fun h1 => ?_)
  · replace hp := (br_t h1).symm.trans hp
    refine cx_seq' fun K4 hK4 => ?_
    refine cx_seq' fun K5 hK5 => ?_
    refine cx_region' ?_
    refine sx_rd' (rd_move' rfl) rfl rfl (wt_none' rfl) ?_
    refine sx_rd' (rd_len' rfl Try.underlying36) rfl rfl (wt_none' rfl) ?_
    refine sx_rd' (rd_move' rfl) rfl rfl (wt_none' rfl) ?_
    refine sx_rd' (rd_len' rfl Try.underlying36) rfl rfl (wt_none' rfl) ?_
    refine sx_rd' (rd_bin' rfl rfl eg_int ru_lss) rfl rfl (wt_none' rfl) ?_
    refine sx_nil' ?_
    show TX E K5 _
    refine tx_k' hK5 ?_
    refine cx_cond' rfl (fun h2 => ?_) (fun h2 => ?_)
    · replace hp := (br_t h2).symm.trans hp
      refine cx_seq' fun K6 hK6 => ?_
      refine cx_region' ?_
      refine sx_rd' (rd_assign' rfl) rfl rfl (wt_none' rfl) ?_
      refine sx_nil' ?_
      show TX E K6 _
      refine tx_k' hK6 ?_
      refine cx_retc' ?_
      replace hp := Option.some.inj hp
      subst hp
      refine tx_pick' (L' := [(4, (Vl (.int .i64 (-1))))]) (H' := []) [] (sub_cons rfl sub_nil) (by decide) pick_nil ?_
      exact tx_ret1' Try.results152 rfl () (rv_tmp' rfl) (List.Sublist.refl _)
    · replace hp := (br_f h2).symm.trans hp
      refine cx_skip' ?_
      show TX E K4 _
      refine tx_k' hK4 ?_
      refine cx_seq' fun K7 hK7 => ?_
      refine cx_region' ?_
      refine sx_rd' (rd_assign' rfl) rfl rfl (wt_none' rfl) ?_
      refine sx_nil' ?_
      show TX E K7 _
      refine tx_k' hK7 ?_
      refine cx_retc' ?_
      replace hp := Option.some.inj hp
      subst hp
      refine tx_pick' (L' := [(4, (Vl (.int .i64 1)))]) (H' := []) [] (sub_cons rfl sub_nil) (by decide) pick_nil ?_
      exact tx_ret1' Try.results152 rfl () (rv_tmp' rfl) (List.Sublist.refl _)
  · replace hp := (br_f h1).symm.trans hp
    refine cx_skip' ?_
    show TX E K2 _
    refine tx_k' hK2 ?_
    refine cx_seq' fun K8 hK8 => ?_
    refine cx_seq' fun K9 hK9 => ?_
    refine cx_region' ?_
    refine sx_rd' (rd_move' rfl) rfl rfl (wt_none' rfl) ?_
    refine sx_rd' (rd_len' rfl Try.underlying36) rfl rfl (wt_none' rfl) ?_
    refine sx_rd' (rd_bin' rfl rfl eg_int ru_sub) rfl rfl (wt_none' rfl) ?_
    refine sx_rd' (rd_assign' rfl) rfl rfl (wt_none' rfl) ?_
    refine sx_nil' ?_
    show TX E K9 _
    refine tx_k' hK9 ?_
    refine cx_block' ?_
    obtain ⟨y1, hy1, hp⟩ := bind_some hp
    refine cx_loopg' (F := spec_cmpLimbs_l1 a0 a1) (G := fun k R v => spec_cmpLimbs_l1s a0 a1 k R v) (x := (isub .i64 (a0.length : Int) 1)) (gh := ()) (fun (v1 : Int) (w1 : Unit) => (⟨41, [], [(0, (Sl (Ki .u32) a0)), (1, (Sl (Ki .u32) a1)), (5, (Vl (.int .i64 v1)))], []⟩ : St)) (fun (y : Int ⊕ Unit) => match y with | (.inl v2) => Zg E Exit.ret (fun (w2 : Unit) => (⟨41, [], [(4, (Vl (.int .i64 v2)))], []⟩ : St)) | (.inr v3) => Zg E (Exit.exit 0) (fun (w3 : Unit) => (⟨41, [], [], []⟩ : St))) (fun _ => rfl) (fun _ _ => rfl) ?_ hy1 (tx_to' rfl [] (sub_cons rfl (sub_cons rfl (sub_cons rfl sub_nil))) (by decide) pick_nil) ?_
    · clear hp hy1
      clear y1
      intro k rec1 KY1 ih1
      rintro x1 ⟨⟩ y1 hp
      replace hp : spec_cmpLimbs_l1s a0 a1 k rec1 x1 = some y1 := hp
      unfold spec_cmpLimbs_l1s at hp
      refine cx_seq' fun K18 hK18 => ?_
      refine cx_seq' fun K19 hK19 => ?_
      refine cx_region' ?_
      refine sx_rd' (rd_move' rfl) rfl rfl (wt_none' rfl) ?_
      refine sx_rd' (rd_bin' rfl rfl eg_int ru_geq) rfl rfl (wt_none' rfl) ?_
      refine sx_nil' ?_
      show TX E K19 _
      refine tx_k' hK19 ?_
      refine cx_cond' rfl (fun h7 => ?_) (fun h7 => ?_)
      · replace hp := (br_t h7).symm.trans hp
        refine cx_skip' ?_
        show TX E K18 _
        refine tx_k' hK18 ?_
        refine cx_seq' fun K20 hK20 => ?_
        refine cx_block' ?_
        refine cx_seq' fun K21 hK21 => ?_
        refine cx_draw' mixed (by kernel_rfl) ?_
        refine qx_rd' (rd_move' rfl) rfl rfl (wt_none' rfl) ?_
        refine qx_rd' (rd_move' rfl) rfl rfl (wt_none' rfl) ?_
        obtain ⟨r25, hr25, hp⟩ := bind_some hp
        refine qx_rd' (rd_at' (K := (Ki .u32)) rfl rfl hr25 Try.underlying36 info152) rfl rfl (wt_none' rfl) ?_
        refine qx_rd' (rd_load_pt' rfl rfl flat152) rfl rfl (wt_none' rfl) ?_
        refine qx_rd' (rd_move' rfl) rfl rfl (wt_none' rfl) ?_
        refine qx_rd' (rd_move' rfl) rfl rfl (wt_none' rfl) ?_
        obtain ⟨r29, hr29, hp⟩ := bind_some hp
        refine qx_rd' (rd_at' (K := (Ki .u32)) rfl rfl hr29 Try.underlying36 info152) rfl rfl (wt_none' rfl) ?_
        refine qx_rd' (rd_load_pt' rfl rfl flat152) rfl rfl (wt_none' rfl) ?_
        refine qx_rd' (rd_bin' rfl rfl eg_int ru_neq) rfl rfl (wt_none' rfl) ?_
        refine qx_nil' ?_
        show TX E K21 _
        refine tx_k' hK21 ?_
        refine cx_cond' rfl (fun h8 => ?_) (fun h8 => ?_)
        · replace hp := (br_t h8).symm.trans hp
          refine cx_seq' fun K22 hK22 => ?_
          refine cx_seq' fun K23 hK23 => ?_
          refine cx_draw' mixed (by kernel_rfl) ?_
          refine qx_rd' (rd_move' rfl) rfl rfl (wt_none' rfl) ?_
          refine qx_rd' (rd_move' rfl) rfl rfl (wt_none' rfl) ?_
          obtain ⟨r34, hr34, hp⟩ := bind_some hp
          refine qx_rd' (rd_at' (K := (Ki .u32)) rfl rfl hr34 Try.underlying36 info152) rfl rfl (wt_none' rfl) ?_
          refine qx_rd' (rd_load_pt' rfl rfl flat152) rfl rfl (wt_none' rfl) ?_
          refine qx_rd' (rd_move' rfl) rfl rfl (wt_none' rfl) ?_
          refine qx_rd' (rd_move' rfl) rfl rfl (wt_none' rfl) ?_
          obtain ⟨r38, hr38, hp⟩ := bind_some hp
          refine qx_rd' (rd_at' (K := (Ki .u32)) rfl rfl hr38 Try.underlying36 info152) rfl rfl (wt_none' rfl) ?_
          refine qx_rd' (rd_load_pt' rfl rfl flat152) rfl rfl (wt_none' rfl) ?_
          refine qx_rd' (rd_bin' rfl rfl eg_int ru_lss) rfl rfl (wt_none' rfl) ?_
          refine qx_nil' ?_
          show TX E K23 _
          refine tx_k' hK23 ?_
          refine cx_cond' rfl (fun h9 => ?_) (fun h9 => ?_)
          · replace hp := (br_t h9).symm.trans hp
            refine cx_seq' fun K24 hK24 => ?_
            refine cx_region' ?_
            refine sx_rd' (rd_assign' rfl) rfl rfl (wt_none' rfl) ?_
            refine sx_nil' ?_
            show TX E K24 _
            refine tx_k' hK24 ?_
            refine cx_retc' ?_
            replace hp := Option.some.inj hp
            subst hp
            show TX E (Zg E Exit.ret _ Exit.ret) _
            exact tx_zend' () rfl [] (sub_cons rfl sub_nil) (by decide) pick_nil
          · replace hp := (br_f h9).symm.trans hp
            refine cx_skip' ?_
            show TX E K22 _
            refine tx_k' hK22 ?_
            refine cx_seq' fun K25 hK25 => ?_
            refine cx_region' ?_
            refine sx_rd' (rd_assign' rfl) rfl rfl (wt_none' rfl) ?_
            refine sx_nil' ?_
            show TX E K25 _
            refine tx_k' hK25 ?_
            refine cx_retc' ?_
            replace hp := Option.some.inj hp
            subst hp
            show TX E (Zg E Exit.ret _ Exit.ret) _
            exact tx_zend' () rfl [] (sub_cons rfl sub_nil) (by decide) pick_nil
        · replace hp := (br_f h8).symm.trans hp
          refine cx_skip' ?_
          show TX E K20 _
          refine tx_k' hK20 ?_
          refine cx_region' ?_
          refine sx_rd' (rd_move' rfl) rfl rfl (wt_none' rfl) ?_
          refine sx_rd' (rd_bin' rfl rfl eg_int ru_sub) rfl rfl (wt_none' rfl) ?_
          refine sx_rd' (rd_assign' rfl) rfl rfl (wt_none' rfl) ?_
          refine sx_nil' ?_
          show TX E (KY1 _) _
          exact tx_pick' [] (sub_cons rfl (sub_cons rfl (sub_cons rfl sub_nil))) (by decide) pick_nil (ih1 (isub .i64 x1 1) () _ hp)
      · replace hp := (br_f h7).symm.trans hp
        refine cx_exit' ?_
        replace hp := Option.some.inj hp
        subst hp
        show TX E (Zg E (Exit.exit 0) _ (Exit.exit 0)) _
        exact tx_zend' () rfl [] sub_nil (by decide) pick_nil
    · rcases y1 with v2 | v3
      · dsimp only at hp
        refine zg_out fun w2 => ?_
        replace hp := Option.some.inj hp
        subst hp
        refine tx_pick' (L' := [(4, (Vl (.int .i64 v2)))]) (H' := []) [] (sub_cons rfl sub_nil) (by decide) pick_nil ?_
        exact tx_ret1' Try.results152 rfl () (rv_tmp' rfl) (List.Sublist.refl _)
      · dsimp only at hp
        refine zg_out fun w3 => ?_
        show TX E K8 _
        refine tx_k' hK8 ?_
        refine cx_seq' fun K26 hK26 => ?_
        refine cx_region' ?_
        refine sx_rd' (rd_assign' rfl) rfl rfl (wt_none' rfl) ?_
        refine sx_nil' ?_
        show TX E K26 _
        refine tx_k' hK26 ?_
        refine cx_retc' ?_
        replace hp := Option.some.inj hp
        subst hp
        refine tx_pick' (L' := [(4, (Vl (.int .i64 0)))]) (H' := []) [] (sub_cons rfl sub_nil) (by decide) pick_nil ?_
        exact tx_ret1' Try.results152 rfl () (rv_tmp' rfl) (List.Sublist.refl _)

def spec_subLimbs_j4 (k : Nat) (x5 : List Int) (r18 : Int) (x3 : Int) (rec1 : ((List Int) × Int × Int) → Option ((List Int))) (x7 : Int) (x4 : Int) : Option ((List Int)) :=
  (ishl .u64 x4 32) >>= fun r40 =>
  (apd 4 x5 ([icv .u32 (isub .u64 (iadd .u64 (icv .u64 r18) r40) x3)])) >>= fun r46 =>
  rec1 (r46, x4, (iadd .i64 x7 1))
def spec_subLimbs_j3 (k : Nat) (r18 : Int) (x5 : List Int) (rec1 : ((List Int) × Int × Int) → Option ((List Int))) (x7 : Int) (x3 : Int) : Option ((List Int)) :=
  br (decide ((icv .u64 r18) < x3))
    (spec_subLimbs_j4 k x5 r18 x3 rec1 x7 1)
    (spec_subLimbs_j4 k x5 r18 x3 rec1 x7 0)
def spec_subLimbs_l1s (a0 : List Int) (a1 : List Int) (k : Nat) (rec1 : ((List Int) × Int × Int) → Option ((List Int))) (x5 : List Int) (x6 : Int) (x7 : Int) : Option ((List Int)) :=
  br (decide (x7 < (a0.length : Int)))
    ((idx a0 x7) >>= fun r18 =>
    br (decide (x7 < (a1.length : Int)))
      ((idx a1 x7) >>= fun r28 =>
      spec_subLimbs_j3 k r18 x5 rec1 x7 (iadd .u64 x6 (icv .u64 r28)))
      (spec_subLimbs_j3 k r18 x5 rec1 x7 x6))
    (some x5)
def spec_subLimbs_l1 (a0 : List Int) (a1 : List Int) : Nat → ((List Int) × Int × Int) → Option ((List Int))
  | 0, _ => none
  | k + 1, v => spec_subLimbs_l1s a0 a1 k (spec_subLimbs_l1 a0 a1 k) v.1 v.2.1 v.2.2
def spec_subLimbs (k : Nat) (a0 : List Int) (a1 : List Int) : Option ((List Int)) :=
  (mk 4 0 0 (a0.length : Int)) >>= fun r12 =>
  (spec_subLimbs_l1 a0 a1 k (r12, 0, 0)) >>= fun v6 =>
  (spec_trim k v6) >>= fun r49 =>
  some r49

theorem spec_subLimbs_sim {k : Nat}  (a0 : List Int) (a1 : List Int) {out : (List Int)} (hp : spec_subLimbs k a0 a1 = some out) : Go.Sx.Fn Try.prog 153 [(Sl (Ki .u32) a0), (Sl (Ki .u32) a1)] [] (fun w : Unit => (Sl (Ki .u32) out)) (fun w => []) := by
  unfold spec_subLimbs at hp
  refine fn_of Try.func153 rfl Try.ntmps153 rfl fun E hM => ?_
  refine cx_seq' fun K1 hK1 => ?_
  refine cx_region' ?_
  refine sx_rd' (rd_assign' rfl) rfl rfl (wt_none' rfl) ?_
  refine sx_nil' ?_
  show TX E K1 _
  refine tx_k' hK1 ?_
  refine cx_seq' fun K2 hK2 => ?_
  refine cx_region' ?_
  refine sx_rd' (rd_move' rfl) rfl rfl (wt_none' rfl) ?_
  refine sx_rd' (rd_len' rfl Try.underlying36) rfl rfl (wt_none' rfl) ?_
  obtain ⟨r12, hr12, hp⟩ := bind_some hp
  refine sx_ox' (ox_make' (K := (Ki .u32)) rfl rfl hr12 rfl Try.underlying36 info152 rfl rfl rfl rfl rfl) (wt_none' rfl) fun g12 => ?_
  refine sx_rd' (rd_assign' rfl) rfl rfl (wt_none' rfl) ?_
  refine sx_nil' ?_
  show TX E K2 _
  refine tx_k' hK2 ?_
  refine cx_seq' fun K3 hK3 => ?_
  refine cx_region' ?_
  refine sx_rd' (rd_assign' rfl) rfl rfl (wt_none' rfl) ?_
  refine sx_nil' ?_
  show TX E K3 _
  refine tx_k' hK3 ?_
  refine cx_seq' fun K4 hK4 => ?_
  refine cx_seq' fun K5 hK5 => ?_
  refine cx_region' ?_
  refine sx_rd' (rd_move' rfl) rfl rfl (wt_none' rfl) ?_
  refine sx_rd' (rd_len' rfl Try.underlying36) rfl rfl (wt_none' rfl) ?_
  refine sx_rd' (rd_move' rfl) rfl rfl (wt_none' rfl) ?_
  refine sx_nil' ?_
  show TX E K5 _
  refine tx_k' hK5 ?_
  refine cx_block' ?_
  obtain ⟨v6, hy1, hp⟩ := bind_some hp
  refine cx_loopg' (F := spec_subLimbs_l1 a0 a1) (G := fun k R v => spec_subLimbs_l1s a0 a1 k R v.1 v.2.1 v.2.2) (x := (r12, 0, 0)) (gh := g12) (fun (v3 : (List Int) × Int × Int) (w3 : Gs) => (⟨50, [], [(1, (Sl (Ki .u32) a1)), (5, (Vl (Vs w3))), (6, (Vl (.int .u64 v3.2.1))), (13, (Sl (Ki .u32) a0)), (14, (Vl (.int .i64 (a0.length : Int)))), (15, (Vl (.int .i64 v3.2.2)))], [(Rw (Ki .u32) 152 (Vs w3) v3.1)]⟩ : St)) (fun (v6 : (List Int)) => Zg E (Exit.exit 0) (fun (w6 : Gs) => (⟨50, [], [(5, (Vl (Vs w6)))], [(Rw (Ki .u32) 152 (Vs w6) v6)]⟩ : St))) (fun _ => rfl) (fun _ _ => rfl) ?_ hy1 (tx_to' rfl [0] (sub_cons rfl (sub_cons rfl (sub_cons rfl (sub_cons rfl (sub_cons rfl (sub_cons rfl sub_nil)))))) (by decide) (pick_cons rfl pick_nil)) ?_
  · clear hp hy1
    clear v6
    intro k rec1 KY1 ih1
    rintro ⟨x5, x6, x7⟩ g901 y1 hp
    replace hp : spec_subLimbs_l1s a0 a1 k rec1 x5 x6 x7 = some y1 := hp
    unfold spec_subLimbs_l1s at hp
    refine cx_seq' fun K16 hK16 => ?_
    refine cx_region' ?_
    refine sx_rd' (rd_bin' rfl rfl eg_int ru_lss) rfl rfl (wt_none' rfl) ?_
    refine sx_nil' ?_
    show TX E K16 _
    refine tx_k' hK16 ?_
    refine cx_seq' fun K17 hK17 => ?_
    refine cx_cond' rfl (fun h5 => ?_) (fun h5 => ?_)
    · replace hp := (br_t h5).symm.trans hp
      refine cx_skip' ?_
      show TX E K17 _
      refine tx_k' hK17 ?_
      refine cx_seq' fun K18 hK18 => ?_
      refine cx_block' ?_
      refine cx_seq' fun K19 hK19 => ?_
      refine cx_region' ?_
      refine sx_rd' (rd_move' rfl) rfl rfl (wt_none' rfl) ?_
      obtain ⟨r18, hr18, hp⟩ := bind_some hp
      refine sx_rd' (rd_at' (K := (Ki .u32)) rfl rfl hr18 Try.underlying36 info152) rfl rfl (wt_none' rfl) ?_
      refine sx_rd' (rd_load_pt' rfl rfl flat152) rfl rfl (wt_none' rfl) ?_
      refine sx_rd' (rd_assign' rfl) rfl rfl (wt_none' rfl) ?_
      refine sx_rd' (rd_assign' rfl) rfl rfl (wt_none' rfl) ?_
      refine sx_nil' ?_
      show TX E K19 _
      refine tx_k' hK19 ?_
      refine cx_seq' fun K20 hK20 => ?_
      refine cx_region' ?_
      refine sx_rd' (rd_move' rfl) rfl rfl (wt_none' rfl) ?_
      refine sx_rd' (rd_assign' rfl) rfl rfl (wt_none' rfl) ?_
      refine sx_nil' ?_
      show TX E K20 _
      refine tx_k' hK20 ?_
      refine cx_join' (fun (v4 : Int) => (⟨50, [], [(1, (Sl (Ki .u32) a1)), (5, (Vl (Vs g901))), (8, (Vl (.int .u32 r18))), (9, (Vl (.int .u64 v4))), (13, (Sl (Ki .u32) a0)), (14, (Vl (.int .i64 (a0.length : Int)))), (15, (Vl (.int .i64 x7)))], [(Rw (Ki .u32) 152 (Vs g901) x5)]⟩ : St)) (fun (v4 : Int) => spec_subLimbs_j3 k r18 x5 rec1 x7 v4 = some y1) ?_ ?_
      · rintro x3 hp
        replace hp : spec_subLimbs_j3 k r18 x5 rec1 x7 x3 = some y1 := hp
        unfold spec_subLimbs_j3 at hp
        refine cx_seq' fun K23 hK23 => ?_
        refine cx_region' ?_
        refine sx_rd' (rd_assign' rfl) rfl rfl (wt_none' rfl) ?_
        refine sx_nil' ?_
        show TX E K23 _
        refine tx_k' hK23 ?_
        refine cx_join' (fun (v5 : Int) => (⟨50, [], [(1, (Sl (Ki .u32) a1)), (5, (Vl (Vs g901))), (6, (Vl (.int .u64 v5))), (8, (Vl (.int .u32 r18))), (9, (Vl (.int .u64 x3))), (13, (Sl (Ki .u32) a0)), (14, (Vl (.int .i64 (a0.length : Int)))), (15, (Vl (.int .i64 x7)))], [(Rw (Ki .u32) 152 (Vs g901) x5)]⟩ : St)) (fun (v5 : Int) => spec_subLimbs_j4 k x5 r18 x3 rec1 x7 v5 = some y1) ?_ ?_
        · rintro x4 hp
          replace hp : spec_subLimbs_j4 k x5 r18 x3 rec1 x7 x4 = some y1 := hp
          unfold spec_subLimbs_j4 at hp
          refine cx_region' ?_
          refine sx_rd' (rd_move' rfl) rfl rfl (wt_none' rfl) ?_
          refine sx_rd' (rd_move' rfl) rfl rfl (wt_none' rfl) ?_
          refine sx_rd' (rd_conv' rfl (ru_i2i (by rw [Try.underlying152]; rfl) Try.underlying112)) rfl rfl (wt_none' rfl) ?_
          refine sx_rd' (rd_move' rfl) rfl rfl (wt_none' rfl) ?_
          obtain ⟨r40, hr40, hp⟩ := bind_some hp
          refine sx_rd' (rd_bin' rfl rfl eg_int (ru_shl hr40)) rfl rfl (wt_none' rfl) ?_
          refine sx_rd' (rd_bin' rfl rfl eg_int ru_add) rfl rfl (wt_none' rfl) ?_
          refine sx_rd' (rd_move' rfl) rfl rfl (wt_none' rfl) ?_
          refine sx_rd' (rd_bin' rfl rfl eg_int ru_sub) rfl rfl (wt_none' rfl) ?_
          refine sx_rd' (rd_conv' rfl (ru_i2i (by rw [Try.underlying112]; rfl) Try.underlying152)) rfl rfl (wt_none' rfl) ?_
          refine sx_ox' (ox_rowlit' (K := (Ki .u32)) (xs := [icv .u32 (isub .u64 (iadd .u64 (icv .u64 r18) r40) x3)]) (qs := [(0, [(Vl (.int .u32 (icv .u32 (isub .u64 (iadd .u64 (icv .u64 r18) r40) x3))))])]) ⟨rfl, ⟨_, rfl, (lv_vl rfl rfl)⟩, trivial⟩ Try.underlying36 info152 rfl rfl rfl rfl rfl (by kernel_rfl) rfl rfl rfl) (wt_none' rfl) fun g45 => ?_
          obtain ⟨r46, hr46, hp⟩ := bind_some hp
          refine sx_ox' (ox_append' (K := (Ki .u32)) (i := 1) (xs := x5) (ys := ([icv .u32 (isub .u64 (iadd .u64 (icv .u64 r18) r40) x3)])) rfl rfl rfl (sr_row' (j := 0) rfl rfl rfl Try.underlying36) hr46 Try.underlying36 info152 rfl rfl rfl (H' := [(Rw (Ki .u32) 152 (Vs g45) ([icv .u32 (isub .u64 (iadd .u64 (icv .u64 r18) r40) x3)]))]) rfl) (wt_none' rfl) fun g46 => ?_
          refine sx_rd' (rd_assign' rfl) rfl rfl (wt_none' rfl) ?_
          refine sx_nil' ?_
          show TX E K18 _
          refine tx_k' hK18 ?_
          refine cx_region' ?_
          refine sx_rd' (rd_bin' rfl rfl eg_int ru_add) rfl rfl (wt_none' rfl) ?_
          refine sx_rd' (rd_move' rfl) rfl rfl (wt_none' rfl) ?_
          refine sx_nil' ?_
          show TX E (KY1 _) _
          exact tx_pick' [0] (sub_cons rfl (sub_cons rfl (sub_cons rfl (sub_cons rfl (sub_cons rfl (sub_cons rfl sub_nil)))))) (by decide) (pick_cons rfl pick_nil) (ih1 (r46, x4, (iadd .i64 x7 1)) g46 _ hp)
        · intro K24 hK24
          refine cx_seq' fun K25 hK25 => ?_
          refine cx_region' ?_
          refine sx_rd' (rd_move' rfl) rfl rfl (wt_none' rfl) ?_
          refine sx_rd' (rd_conv' rfl (ru_i2i (by rw [Try.underlying152]; rfl) Try.underlying112)) rfl rfl (wt_none' rfl) ?_
          refine sx_rd' (rd_move' rfl) rfl rfl (wt_none' rfl) ?_
          refine sx_rd' (rd_bin' rfl rfl eg_int ru_lss) rfl rfl (wt_none' rfl) ?_
          refine sx_nil' ?_
          show TX E K25 _
          refine tx_k' hK25 ?_
          refine cx_cond' rfl (fun h7 => ?_) (fun h7 => ?_)
          · replace hp := (br_t h7).symm.trans hp
            refine cx_region' ?_
            refine sx_rd' (rd_assign' rfl) rfl rfl (wt_none' rfl) ?_
            refine sx_nil' ?_
            show TX E K24 _
            exact tx_pick' [0] (sub_cons rfl (sub_cons rfl (sub_cons rfl (sub_cons rfl (sub_cons rfl (sub_cons rfl (sub_cons rfl (sub_cons rfl sub_nil)))))))) (by decide) (pick_cons rfl pick_nil) (hK24 1 hp)
          · replace hp := (br_f h7).symm.trans hp
            refine cx_skip' ?_
            show TX E K24 _
            exact tx_pick' [0] (sub_cons rfl (sub_cons rfl (sub_cons rfl (sub_cons rfl (sub_cons rfl (sub_cons rfl (sub_cons rfl (sub_cons rfl sub_nil)))))))) (by decide) (pick_cons rfl pick_nil) (hK24 0 hp)
      · intro K21 hK21
        refine cx_seq' fun K22 hK22 => ?_
        refine cx_region' ?_
        refine sx_rd' (rd_move' rfl) rfl rfl (wt_none' rfl) ?_
        refine sx_rd' (rd_move' rfl) rfl rfl (wt_none' rfl) ?_
        refine sx_rd' (rd_len' rfl Try.underlying36) rfl rfl (wt_none' rfl) ?_
        refine sx_rd' (rd_bin' rfl rfl eg_int ru_lss) rfl rfl (wt_none' rfl) ?_
        refine sx_nil' ?_
        show TX E K22 _
        refine tx_k' hK22 ?_
        refine cx_cond' rfl (fun h6 => ?_) (fun h6 => ?_)
        · replace hp := (br_t h6).symm.trans hp
          refine cx_region' ?_
          refine sx_rd' (rd_move' rfl) rfl rfl (wt_none' rfl) ?_
          refine sx_rd' (rd_move' rfl) rfl rfl (wt_none' rfl) ?_
          refine sx_rd' (rd_move' rfl) rfl rfl (wt_none' rfl) ?_
          obtain ⟨r28, hr28, hp⟩ := bind_some hp
          refine sx_rd' (rd_at' (K := (Ki .u32)) rfl rfl hr28 Try.underlying36 info152) rfl rfl (wt_none' rfl) ?_
          refine sx_rd' (rd_load_pt' rfl rfl flat152) rfl rfl (wt_none' rfl) ?_
          refine sx_rd' (rd_conv' rfl (ru_i2i (by rw [Try.underlying152]; rfl) Try.underlying112)) rfl rfl (wt_none' rfl) ?_
          refine sx_rd' (rd_bin' rfl rfl eg_int ru_add) rfl rfl (wt_none' rfl) ?_
          refine sx_rd' (rd_assign' rfl) rfl rfl (wt_none' rfl) ?_
          refine sx_nil' ?_
          show TX E K21 _
          exact tx_pick' [0] (sub_cons rfl (sub_cons rfl (sub_cons rfl (sub_cons rfl (sub_cons rfl (sub_cons rfl (sub_cons rfl sub_nil))))))) (by decide) (pick_cons rfl pick_nil) (hK21 (iadd .u64 x6 (icv .u64 r28)) hp)
        · replace hp := (br_f h6).symm.trans hp
          refine cx_skip' ?_
          show TX E K21 _
          exact tx_pick' [0] (sub_cons rfl (sub_cons rfl (sub_cons rfl (sub_cons rfl (sub_cons rfl (sub_cons rfl (sub_cons rfl sub_nil))))))) (by decide) (pick_cons rfl pick_nil) (hK21 x6 hp)
    · replace hp := (br_f h5).symm.trans hp
      refine cx_exit' ?_
      replace hp := Option.some.inj hp
      subst hp
      show TX E (Zg E (Exit.exit 0) _ (Exit.exit 0)) _
      exact tx_zend' g901 rfl [0] (sub_cons rfl sub_nil) (by decide) (pick_cons rfl pick_nil)
  · refine zg_out fun w6 => ?_
    show TX E K4 _
    refine tx_k' hK4 ?_
    refine cx_seq' fun K26 hK26 => ?_
    refine cx_region' ?_
    refine sx_rd' (rd_move' rfl) rfl rfl (wt_none' rfl) ?_
    refine tx_fz' (frz_row 0 [(5, (Vl (Vs w6)), (Sl (Ki .u32) v6)), (48, (Vl (Vs w6)), (Sl (Ki .u32) v6))] (K := (Ki .u32)) (xs := v6) (by decide) rfl ⟨⟨rfl, frz_it⟩, ⟨rfl, frz_it⟩, trivial⟩ (H' := []) frzH_refl) ?_
    obtain ⟨r49, hr49, hp⟩ := bind_some hp
    refine sx_ox' (ox_calln' (ent_fn' Try.func135 isn135 rfl rfl) (spec_trim_sim _ hr49 : Go.Sx.Fn Try.prog 135 [(Sl (Ki .u32) v6)] [] (fun x : Unit => (Sl (Ki .u32) r49)) (fun x => [])) (Hn := fun x : Unit => []) (fun _ => rfl) rfl rfl) (wt_none' rfl) fun ⟨⟩ => ?_
    refine sx_rd' (rd_assign' rfl) rfl rfl (wt_none' rfl) ?_
    refine sx_nil' ?_
    show TX E K26 _
    refine tx_k' hK26 ?_
    refine cx_retc' ?_
    replace hp := Option.some.inj hp
    subst hp
    refine tx_pick' (L' := [(4, (Sl (Ki .u32) r49))]) (H' := []) [] (sub_cons rfl sub_nil) (by decide) pick_nil ?_
    exact tx_ret1' Try.results153 rfl () (rv_tmp' rfl) (List.Sublist.refl _)

def spec_Whole_Add (k : Nat) (a0_0 : Bool) (a0_1 : List Int) (a1_0 : Bool) (a1_1 : List Int) : Option (Bool × (List Int)) :=
  br (a0_0 == a1_0)
    ((spec_addLimbs k a0_1 a1_1) >>= fun r16 =>
    some (a0_0, r16))
    ((spec_cmpLimbs k a0_1 a1_1) >>= fun r22 =>
    br (decide (r22 = 0))
      (some (false, []))
      (br (decide (r22 = 1))
        ((spec_subLimbs k a0_1 a1_1) >>= fun r34 =>
        some (a0_0, r34))
        ((spec_subLimbs k a1_1 a0_1) >>= fun r42 =>
        some (a1_0, r42))))

theorem spec_Whole_Add_sim {k : Nat}  (a0_0 : Bool) (a0_1 : List Int) (a1_0 : Bool) (a1_1 : List Int) {out : Bool × (List Int)} (hp : spec_Whole_Add k a0_0 a0_1 a1_0 a1_1 = some out) : Go.Sx.Fn Try.prog 118 [(Ag [(Vl (.bool a0_0)), (Sl (Ki .u32) a0_1)]), (Ag [(Vl (.bool a1_0)), (Sl (Ki .u32) a1_1)])] [] (fun w : Unit => (Ag [(Vl (.bool out.1)), (Sl (Ki .u32) out.2)])) (fun w => []) := by
  unfold spec_Whole_Add at hp
  refine fn_of Try.func118 rfl Try.ntmps118 rfl fun E hM => ?_
  refine cx_seq' fun K1 hK1 => ?_
  refine cx_region' ?_
  refine sx_ox' (ox_box' rfl (lv_ag _) rfl rfl) (wt_none' rfl) fun q2 => ?_
  refine sx_ox' (ox_box' rfl (lv_ag _) rfl rfl) (wt_none' rfl) fun q3 => ?_
  refine sx_ox' (ox_alloc' info38 rfl rfl rfl rfl (l := [(Vl (.bool false)), (Vl (.slice none 0 0))]) rfl) (wt_none' rfl) fun q4 => ?_
  refine sx_nil' ?_
  show TX E K1 _
  refine tx_k' hK1 ?_
  refine cx_seq' fun K2 hK2 => ?_
  refine cx_seq' fun K3 hK3 => ?_
  refine cx_region' ?_
  refine sx_rd' (rd_field0' rfl Try.underlying38 rfl info4 rfl) rfl rfl (wt_none' rfl) ?_
  refine sx_rd' (rd_load' (i := 2) (o := 0) rfl ⟨rfl, rfl, rfl, rfl⟩ rfl flat4) rfl rfl (wt_none' rfl) ?_
  refine sx_rd' (rd_field0' rfl Try.underlying38 rfl info4 rfl) rfl rfl (wt_none' rfl) ?_
  refine sx_rd' (rd_load' (i := 1) (o := 0) rfl ⟨rfl, rfl, rfl, rfl⟩ rfl flat4) rfl rfl (wt_none' rfl) ?_
  refine sx_rd' (rd_bin' rfl rfl eg_bool (ru_beq Try.underlying4)) rfl rfl (wt_none' rfl) ?_
  refine sx_nil' ?_
  show TX E K3 _
  refine tx_k' hK3 ?_
  refine cx_cond' rfl (fun h1 => ?_) (fun h1 => ?_)
  · replace hp := (br_t h1).symm.trans hp
    refine cx_seq' fun K4 hK4 => ?_
    refine cx_plan' [] [(8, 1)] [(0, 1), (1, 1), (2, 1), (3, 1), (4, 1), (5, 1), (6, 0), (7, 1), (8, 0)] mixed (by kernel_rfl) ?_
    refine px_rd' rfl (rd_field0' rfl Try.underlying38 rfl info4 rfl) rfl rfl (wt_none' rfl) ?_
    refine px_rd' rfl (rd_load' (i := 2) (o := 0) rfl ⟨rfl, rfl, rfl, rfl⟩ rfl flat4) rfl rfl (wt_none' rfl) ?_
    refine px_rd' rfl (rd_field' (off := 1) rfl Try.underlying38 rfl info36 rfl) rfl rfl (wt_none' rfl) ?_
    refine px_rd' rfl (rd_load' (i := 2) (o := 1) rfl ⟨rfl, rfl, rfl, rfl⟩ rfl flat36) rfl rfl (wt_none' rfl) ?_
    refine px_rd' rfl (rd_field' (off := 1) rfl Try.underlying38 rfl info36 rfl) rfl rfl (wt_none' rfl) ?_
    refine px_rd' rfl (rd_load' (i := 1) (o := 1) rfl ⟨rfl, rfl, rfl, rfl⟩ rfl flat36) rfl rfl (wt_none' rfl) ?_
    obtain ⟨r16, hr16, hp⟩ := bind_some hp
    refine px_ox' rfl (ox_calln' (ent_fn' Try.func151 isn151 rfl rfl) (spec_addLimbs_sim _ _ hr16 : Go.Sx.Fn Try.prog 151 [(Sl (Ki .u32) a0_1), (Sl (Ki .u32) a1_1)] [] (fun x : Unit => (Sl (Ki .u32) r16)) (fun x => [])) (Hn := fun x : Unit => [⟨.pointer (some q4), [(Vl (.bool false)), (Vl (.slice none 0 0))], 38, none⟩, ⟨.pointer (some q3), [(Vl (.bool a1_0)), (Sl (Ki .u32) a1_1)], 38, none⟩, ⟨.pointer (some q2), [(Vl (.bool a0_0)), (Sl (Ki .u32) a0_1)], 38, none⟩]) (fun _ => rfl) rfl rfl) rfl bs_nil (wt_none' rfl) fun ⟨⟩ => ?_
    refine px_rd' rfl (rd_build' (pls := [(0, 1), (1, 1)]) (qs := [(0, [(Vl (.bool a0_0))]), (1, [(Sl (Ki .u32) r16)])]) (r := [(Vl (.bool a0_0)), (Sl (Ki .u32) r16)]) ⟨rfl, ⟨_, rfl, (lv_vl rfl rfl)⟩, ⟨rfl, ⟨_, rfl, (lv_sl _ _)⟩, trivial⟩⟩ Try.underlying38 has38 places38 info38 rfl rfl rfl) rfl rfl (wt_none' rfl) ?_
    refine px_oxv' rfl (oxv_store (i := 0) (o := 0) rfl rfl (lv_ag _) ⟨rfl, rfl, rfl, rfl⟩ rfl info38 rfl (H' := [⟨.pointer (some q4), [(Vl (.bool a0_0)), (Sl (Ki .u32) r16)], 38, none⟩, ⟨.pointer (some q3), [(Vl (.bool a1_0)), (Sl (Ki .u32) a1_1)], 38, none⟩, ⟨.pointer (some q2), [(Vl (.bool a0_0)), (Sl (Ki .u32) a0_1)], 38, none⟩]) rfl) rfl rfl bo_nil (wt_none' rfl) fun _ => ?_
    refine px_nil' ?_
    show TX E K4 _
    refine tx_k' hK4 ?_
    refine cx_retc' ?_
    replace hp := Option.some.inj hp
    subst hp
    refine tx_pick' (L' := [(4, (Vl (.pointer (some q4))))]) (H' := [⟨.pointer (some q4), [(Vl (.bool a0_0)), (Sl (Ki .u32) r16)], 38, none⟩]) [0] (sub_cons rfl sub_nil) (by decide) (pick_cons rfl pick_nil) ?_
    exact tx_ret1' Try.results118 rfl () (rv_cell_agg' (i := 0) (o := 0) (nn := 2) rfl ⟨rfl, rfl, rfl, rfl⟩ rfl agg38 rfl) (List.nil_sublist _)
  · replace hp := (br_f h1).symm.trans hp
    refine cx_skip' ?_
    show TX E K2 _
    refine tx_k' hK2 ?_
    refine cx_seq' fun K5 hK5 => ?_
    refine cx_seq' fun K6 hK6 => ?_
    refine cx_region' ?_
    refine sx_rd' (rd_field' (off := 1) rfl Try.underlying38 rfl info36 rfl) rfl rfl (wt_none' rfl) ?_
    refine sx_rd' (rd_load' (i := 2) (o := 1) rfl ⟨rfl, rfl, rfl, rfl⟩ rfl flat36) rfl rfl (wt_none' rfl) ?_
    refine sx_rd' (rd_field' (off := 1) rfl Try.underlying38 rfl info36 rfl) rfl rfl (wt_none' rfl) ?_
    refine sx_rd' (rd_load' (i := 1) (o := 1) rfl ⟨rfl, rfl, rfl, rfl⟩ rfl flat36) rfl rfl (wt_none' rfl) ?_
    obtain ⟨r22, hr22, hp⟩ := bind_some hp
    refine sx_ox' (ox_calln' (ent_fn' Try.func152 isn152 rfl rfl) (spec_cmpLimbs_sim _ _ hr22 : Go.Sx.Fn Try.prog 152 [(Sl (Ki .u32) a0_1), (Sl (Ki .u32) a1_1)] [] (fun x : Unit => (Vl (.int .i64 r22))) (fun x => [])) (Hn := fun x : Unit => [⟨.pointer (some q4), [(Vl (.bool false)), (Vl (.slice none 0 0))], 38, none⟩, ⟨.pointer (some q3), [(Vl (.bool a1_0)), (Sl (Ki .u32) a1_1)], 38, none⟩, ⟨.pointer (some q2), [(Vl (.bool a0_0)), (Sl (Ki .u32) a0_1)], 38, none⟩]) (fun _ => rfl) rfl rfl) (wt_none' rfl) fun ⟨⟩ => ?_
    refine sx_nil' ?_
    show TX E K6 _
    refine tx_k' hK6 ?_
    refine cx_block' ?_
    refine cx_seq' fun K7 hK7 => ?_
    refine cx_region' ?_
    refine sx_rd' (rd_bin' rfl rfl eg_int ru_eql) rfl rfl (wt_none' rfl) ?_
    refine sx_rd' (rd_assign' rfl) rfl rfl (wt_none' rfl) ?_
    refine sx_nil' ?_
    show TX E K7 _
    refine tx_k' hK7 ?_
    refine cx_cond' rfl (fun h2 => ?_) (fun h2 => ?_)
    · replace hp := (br_t h2).symm.trans hp
      refine cx_seq' fun K8 hK8 => ?_
      refine cx_region' ?_
      refine sx_rd' (rd_build' (pls := [(0, 1), (1, 1)]) (qs := []) (r := [(Vl (.bool false)), (Vl (.slice none 0 0))]) trivial Try.underlying38 has38 places38 info38 rfl rfl rfl) rfl rfl (wt_none' rfl) ?_
      refine sx_ox' (ox_store' (i := 0) (o := 0) rfl rfl (lv_ag _) ⟨rfl, rfl, rfl, rfl⟩ rfl info38 rfl (H' := [⟨.pointer (some q4), [(Vl (.bool false)), (Vl (.slice none 0 0))], 38, none⟩, ⟨.pointer (some q3), [(Vl (.bool a1_0)), (Sl (Ki .u32) a1_1)], 38, none⟩, ⟨.pointer (some q2), [(Vl (.bool a0_0)), (Sl (Ki .u32) a0_1)], 38, none⟩]) rfl) (wt_none' rfl) fun _ => ?_
      refine sx_nil' ?_
      show TX E K8 _
      refine tx_k' hK8 ?_
      refine cx_retc' ?_
      replace hp := Option.some.inj hp
      subst hp
      refine tx_pick' (L' := [(4, (Vl (.pointer (some q4))))]) (H' := [⟨.pointer (some q4), [(Vl (.bool false)), (Vl (.slice none 0 0))], 38, none⟩]) [0] (sub_cons rfl sub_nil) (by decide) (pick_cons rfl pick_nil) ?_
      exact tx_ret1' Try.results118 rfl () (rv_imp' (x := (Ag [(Vl (.bool false)), (Vl (.slice none 0 0))])) (y := (Ag [(Vl (.bool false)), (Sl (Ki .u32) [])])) (rv_cell_agg' (i := 0) (o := 0) (nn := 2) rfl ⟨rfl, rfl, rfl, rfl⟩ rfl agg38 rfl) (imp_ag ⟨imp_refl, imp_nil, trivial⟩)) (List.nil_sublist _)
    · replace hp := (br_f h2).symm.trans hp
      refine cx_seq' fun K9 hK9 => ?_
      refine cx_region' ?_
      refine sx_rd' (rd_bin' rfl rfl eg_int ru_eql) rfl rfl (wt_none' rfl) ?_
      refine sx_rd' (rd_assign' rfl) rfl rfl (wt_none' rfl) ?_
      refine sx_nil' ?_
      show TX E K9 _
      refine tx_k' hK9 ?_
      refine cx_cond' rfl (fun h3 => ?_) (fun h3 => ?_)
      · replace hp := (br_t h3).symm.trans hp
        refine cx_seq' fun K10 hK10 => ?_
        refine cx_plan' [] [(8, 1)] [(0, 1), (1, 1), (2, 1), (3, 1), (4, 1), (5, 1), (6, 0), (7, 1), (8, 0)] mixed (by kernel_rfl) ?_
        refine px_rd' rfl (rd_field0' rfl Try.underlying38 rfl info4 rfl) rfl rfl (wt_none' rfl) ?_
        refine px_rd' rfl (rd_load' (i := 2) (o := 0) rfl ⟨rfl, rfl, rfl, rfl⟩ rfl flat4) rfl rfl (wt_none' rfl) ?_
        refine px_rd' rfl (rd_field' (off := 1) rfl Try.underlying38 rfl info36 rfl) rfl rfl (wt_none' rfl) ?_
        refine px_rd' rfl (rd_load' (i := 2) (o := 1) rfl ⟨rfl, rfl, rfl, rfl⟩ rfl flat36) rfl rfl (wt_none' rfl) ?_
        refine px_rd' rfl (rd_field' (off := 1) rfl Try.underlying38 rfl info36 rfl) rfl rfl (wt_none' rfl) ?_
        refine px_rd' rfl (rd_load' (i := 1) (o := 1) rfl ⟨rfl, rfl, rfl, rfl⟩ rfl flat36) rfl rfl (wt_none' rfl) ?_
        obtain ⟨r34, hr34, hp⟩ := bind_some hp
        refine px_ox' rfl (ox_calln' (ent_fn' Try.func153 isn153 rfl rfl) (spec_subLimbs_sim _ _ hr34 : Go.Sx.Fn Try.prog 153 [(Sl (Ki .u32) a0_1), (Sl (Ki .u32) a1_1)] [] (fun x : Unit => (Sl (Ki .u32) r34)) (fun x => [])) (Hn := fun x : Unit => [⟨.pointer (some q4), [(Vl (.bool false)), (Vl (.slice none 0 0))], 38, none⟩, ⟨.pointer (some q3), [(Vl (.bool a1_0)), (Sl (Ki .u32) a1_1)], 38, none⟩, ⟨.pointer (some q2), [(Vl (.bool a0_0)), (Sl (Ki .u32) a0_1)], 38, none⟩]) (fun _ => rfl) rfl rfl) rfl bs_nil (wt_none' rfl) fun ⟨⟩ => ?_
        refine px_rd' rfl (rd_build' (pls := [(0, 1), (1, 1)]) (qs := [(0, [(Vl (.bool a0_0))]), (1, [(Sl (Ki .u32) r34)])]) (r := [(Vl (.bool a0_0)), (Sl (Ki .u32) r34)]) ⟨rfl, ⟨_, rfl, (lv_vl rfl rfl)⟩, ⟨rfl, ⟨_, rfl, (lv_sl _ _)⟩, trivial⟩⟩ Try.underlying38 has38 places38 info38 rfl rfl rfl) rfl rfl (wt_none' rfl) ?_
        refine px_oxv' rfl (oxv_store (i := 0) (o := 0) rfl rfl (lv_ag _) ⟨rfl, rfl, rfl, rfl⟩ rfl info38 rfl (H' := [⟨.pointer (some q4), [(Vl (.bool a0_0)), (Sl (Ki .u32) r34)], 38, none⟩, ⟨.pointer (some q3), [(Vl (.bool a1_0)), (Sl (Ki .u32) a1_1)], 38, none⟩, ⟨.pointer (some q2), [(Vl (.bool a0_0)), (Sl (Ki .u32) a0_1)], 38, none⟩]) rfl) rfl rfl bo_nil (wt_none' rfl) fun _ => ?_
        refine px_nil' ?_
        show TX E K10 _
        refine tx_k' hK10 ?_
        refine cx_retc' ?_
        replace hp := Option.some.inj hp
        subst hp
        refine tx_pick' (L' := [(4, (Vl (.pointer (some q4))))]) (H' := [⟨.pointer (some q4), [(Vl (.bool a0_0)), (Sl (Ki .u32) r34)], 38, none⟩]) [0] (sub_cons rfl sub_nil) (by decide) (pick_cons rfl pick_nil) ?_
        exact tx_ret1' Try.results118 rfl () (rv_cell_agg' (i := 0) (o := 0) (nn := 2) rfl ⟨rfl, rfl, rfl, rfl⟩ rfl agg38 rfl) (List.nil_sublist _)
      · replace hp := (br_f h3).symm.trans hp
        refine cx_skip' ?_
        show TX E K5 _
        refine tx_k' hK5 ?_
        refine cx_seq' fun K11 hK11 => ?_
        refine cx_plan' [] [(8, 1)] [(0, 1), (1, 1), (2, 1), (3, 1), (4, 1), (5, 1), (6, 0), (7, 1), (8, 0)] mixed (by kernel_rfl) ?_
        refine px_rd' rfl (rd_field0' rfl Try.underlying38 rfl info4 rfl) rfl rfl (wt_none' rfl) ?_
        refine px_rd' rfl (rd_load' (i := 1) (o := 0) rfl ⟨rfl, rfl, rfl, rfl⟩ rfl flat4) rfl rfl (wt_none' rfl) ?_
        refine px_rd' rfl (rd_field' (off := 1) rfl Try.underlying38 rfl info36 rfl) rfl rfl (wt_none' rfl) ?_
        refine px_rd' rfl (rd_load' (i := 1) (o := 1) rfl ⟨rfl, rfl, rfl, rfl⟩ rfl flat36) rfl rfl (wt_none' rfl) ?_
        refine px_rd' rfl (rd_field' (off := 1) rfl Try.underlying38 rfl info36 rfl) rfl rfl (wt_none' rfl) ?_
        refine px_rd' rfl (rd_load' (i := 2) (o := 1) rfl ⟨rfl, rfl, rfl, rfl⟩ rfl flat36) rfl rfl (wt_none' rfl) ?_
        obtain ⟨r42, hr42, hp⟩ := bind_some hp
        refine px_ox' rfl (ox_calln' (ent_fn' Try.func153 isn153 rfl rfl) (spec_subLimbs_sim _ _ hr42 : Go.Sx.Fn Try.prog 153 [(Sl (Ki .u32) a1_1), (Sl (Ki .u32) a0_1)] [] (fun x : Unit => (Sl (Ki .u32) r42)) (fun x => [])) (Hn := fun x : Unit => [⟨.pointer (some q4), [(Vl (.bool false)), (Vl (.slice none 0 0))], 38, none⟩, ⟨.pointer (some q3), [(Vl (.bool a1_0)), (Sl (Ki .u32) a1_1)], 38, none⟩, ⟨.pointer (some q2), [(Vl (.bool a0_0)), (Sl (Ki .u32) a0_1)], 38, none⟩]) (fun _ => rfl) rfl rfl) rfl bs_nil (wt_none' rfl) fun ⟨⟩ => ?_
        refine px_rd' rfl (rd_build' (pls := [(0, 1), (1, 1)]) (qs := [(0, [(Vl (.bool a1_0))]), (1, [(Sl (Ki .u32) r42)])]) (r := [(Vl (.bool a1_0)), (Sl (Ki .u32) r42)]) ⟨rfl, ⟨_, rfl, (lv_vl rfl rfl)⟩, ⟨rfl, ⟨_, rfl, (lv_sl _ _)⟩, trivial⟩⟩ Try.underlying38 has38 places38 info38 rfl rfl rfl) rfl rfl (wt_none' rfl) ?_
        refine px_oxv' rfl (oxv_store (i := 0) (o := 0) rfl rfl (lv_ag _) ⟨rfl, rfl, rfl, rfl⟩ rfl info38 rfl (H' := [⟨.pointer (some q4), [(Vl (.bool a1_0)), (Sl (Ki .u32) r42)], 38, none⟩, ⟨.pointer (some q3), [(Vl (.bool a1_0)), (Sl (Ki .u32) a1_1)], 38, none⟩, ⟨.pointer (some q2), [(Vl (.bool a0_0)), (Sl (Ki .u32) a0_1)], 38, none⟩]) rfl) rfl rfl bo_nil (wt_none' rfl) fun _ => ?_
        refine px_nil' ?_
        show TX E K11 _
        refine tx_k' hK11 ?_
        refine cx_retc' ?_
        replace hp := Option.some.inj hp
        subst hp
        refine tx_pick' (L' := [(4, (Vl (.pointer (some q4))))]) (H' := [⟨.pointer (some q4), [(Vl (.bool a1_0)), (Sl (Ki .u32) r42)], 38, none⟩]) [0] (sub_cons rfl sub_nil) (by decide) (pick_cons rfl pick_nil) ?_
        exact tx_ret1' Try.results118 rfl () (rv_cell_agg' (i := 0) (o := 0) (nn := 2) rfl ⟨rfl, rfl, rfl, rfl⟩ rfl agg38 rfl) (List.nil_sublist _)

def spec_Dyadic_Add (k : Nat) (a0_0 : Bool) (a0_1 : List Int) (a0_2 : Int) (a1_0 : Bool) (a1_1 : List Int) (a1_2 : Int) : Option (Bool × (List Int) × Int) :=
  (spec_Dyadic_Sign k a0_0 a0_1 a0_2) >>= fun r7 =>
  br (decide (r7 = 0))
    (some (a1_0, a1_1, a1_2))
    ((spec_Dyadic_Sign k a1_0 a1_1 a1_2) >>= fun r12 =>
    br (decide (r12 = 0))
      (some (a0_0, a0_1, a0_2))
      (br (decide (a1_2 < a0_2))
        ((spec_Whole_Up k a0_0 a0_1 (isub .i64 a0_2 a1_2)) >>= fun r28 =>
        (spec_Whole_Add k r28.1 r28.2 a1_0 a1_1) >>= fun r31 =>
        some (r31.1, r31.2, a1_2))
        ((spec_Whole_Up k a1_0 a1_1 (isub .i64 a1_2 a0_2)) >>= fun r42 =>
        (spec_Whole_Add k r42.1 r42.2 a0_0 a0_1) >>= fun r45 =>
        some (r45.1, r45.2, a0_2))))

theorem spec_Dyadic_Add_sim {k : Nat}  (a0_0 : Bool) (a0_1 : List Int) (a0_2 : Int) (a1_0 : Bool) (a1_1 : List Int) (a1_2 : Int) {out : Bool × (List Int) × Int} (hp : spec_Dyadic_Add k a0_0 a0_1 a0_2 a1_0 a1_1 a1_2 = some out) : Go.Sx.Fn Try.prog 65 [(Ag [(Vl (.bool a0_0)), (Sl (Ki .u32) a0_1), (Vl (.int .i64 a0_2))]), (Ag [(Vl (.bool a1_0)), (Sl (Ki .u32) a1_1), (Vl (.int .i64 a1_2))])] [] (fun w : Unit => (Ag [(Vl (.bool out.1)), (Sl (Ki .u32) out.2.1), (Vl (.int .i64 out.2.2))])) (fun w => []) := by
  unfold spec_Dyadic_Add at hp
  refine fn_of Try.func65 rfl Try.ntmps65 rfl fun E hM => ?_
  refine cx_seq' fun K1 hK1 => ?_
  refine cx_region' ?_
  refine sx_ox' (ox_box' rfl (lv_ag _) rfl rfl) (wt_none' rfl) fun q2 => ?_
  refine sx_ox' (ox_box' rfl (lv_ag _) rfl rfl) (wt_none' rfl) fun q3 => ?_
  refine sx_ox' (ox_alloc' info40 rfl rfl rfl rfl (l := [(Vl (.bool false)), (Vl (.slice none 0 0)), (Vl (.int .i64 0))]) rfl) (wt_none' rfl) fun q4 => ?_
  refine sx_nil' ?_
  show TX E K1 _
  refine tx_k' hK1 ?_
  refine cx_seq' fun K2 hK2 => ?_
  refine cx_block' ?_
  refine cx_seq' fun K3 hK3 => ?_
  refine cx_region' ?_
  refine sx_rd' (rd_load_agg' (i := 2) (o := 0) (nn := 3) rfl ⟨rfl, rfl, rfl, rfl⟩ rfl agg40 (l' := [(Vl (.bool a0_0)), (Sl (Ki .u32) a0_1), (Vl (.int .i64 a0_2))]) rfl) rfl rfl (wt_none' rfl) ?_
  obtain ⟨r7, hr7, hp⟩ := bind_some hp
  refine sx_ox' (ox_calln' (ent_fn' Try.func49 isn49 rfl rfl) (spec_Dyadic_Sign_sim _ _ _ hr7 : Go.Sx.Fn Try.prog 49 [(Ag [(Vl (.bool a0_0)), (Sl (Ki .u32) a0_1), (Vl (.int .i64 a0_2))])] [] (fun x : Unit => (Vl (.int .i64 r7))) (fun x => [])) (Hn := fun x : Unit => [⟨.pointer (some q4), [(Vl (.bool false)), (Vl (.slice none 0 0)), (Vl (.int .i64 0))], 40, none⟩, ⟨.pointer (some q3), [(Vl (.bool a1_0)), (Sl (Ki .u32) a1_1), (Vl (.int .i64 a1_2))], 40, none⟩, ⟨.pointer (some q2), [(Vl (.bool a0_0)), (Sl (Ki .u32) a0_1), (Vl (.int .i64 a0_2))], 40, none⟩]) (fun _ => rfl) rfl rfl) (wt_none' rfl) fun ⟨⟩ => ?_
  refine sx_rd' (rd_bin' rfl rfl eg_int ru_eql) rfl rfl (wt_none' rfl) ?_
  refine sx_rd' (rd_assign' rfl) rfl rfl (wt_none' rfl) ?_
  refine sx_nil' ?_
  show TX E K3 _
  refine tx_k' hK3 ?_
  refine cx_cond' rfl (fun h1 => ?_) (fun h1 => ?_)
  · replace hp := (br_t h1).symm.trans hp
    refine cx_seq' fun K4 hK4 => ?_
    refine cx_region' ?_
    refine sx_rd' (rd_load_agg' (i := 1) (o := 0) (nn := 3) rfl ⟨rfl, rfl, rfl, rfl⟩ rfl agg40 (l' := [(Vl (.bool a1_0)), (Sl (Ki .u32) a1_1), (Vl (.int .i64 a1_2))]) rfl) rfl rfl (wt_none' rfl) ?_
    refine sx_ox' (ox_store' (i := 0) (o := 0) rfl rfl (lv_ag _) ⟨rfl, rfl, rfl, rfl⟩ rfl info40 rfl (H' := [⟨.pointer (some q4), [(Vl (.bool a1_0)), (Sl (Ki .u32) a1_1), (Vl (.int .i64 a1_2))], 40, none⟩, ⟨.pointer (some q3), [(Vl (.bool a1_0)), (Sl (Ki .u32) a1_1), (Vl (.int .i64 a1_2))], 40, none⟩, ⟨.pointer (some q2), [(Vl (.bool a0_0)), (Sl (Ki .u32) a0_1), (Vl (.int .i64 a0_2))], 40, none⟩]) rfl) (wt_none' rfl) fun _ => ?_
    refine sx_nil' ?_
    show TX E K4 _
    refine tx_k' hK4 ?_
    refine cx_retc' ?_
    replace hp := Option.some.inj hp
    subst hp
    refine tx_pick' (L' := [(4, (Vl (.pointer (some q4))))]) (H' := [⟨.pointer (some q4), [(Vl (.bool a1_0)), (Sl (Ki .u32) a1_1), (Vl (.int .i64 a1_2))], 40, none⟩]) [0] (sub_cons rfl sub_nil) (by decide) (pick_cons rfl pick_nil) ?_
    exact tx_ret1' Try.results65 rfl () (rv_cell_agg' (i := 0) (o := 0) (nn := 3) rfl ⟨rfl, rfl, rfl, rfl⟩ rfl agg40 rfl) (List.nil_sublist _)
  · replace hp := (br_f h1).symm.trans hp
    refine cx_seq' fun K5 hK5 => ?_
    refine cx_region' ?_
    refine sx_rd' (rd_load_agg' (i := 1) (o := 0) (nn := 3) rfl ⟨rfl, rfl, rfl, rfl⟩ rfl agg40 (l' := [(Vl (.bool a1_0)), (Sl (Ki .u32) a1_1), (Vl (.int .i64 a1_2))]) rfl) rfl rfl (wt_none' rfl) ?_
    obtain ⟨r12, hr12, hp⟩ := bind_some hp
    refine sx_ox' (ox_calln' (ent_fn' Try.func49 isn49 rfl rfl) (spec_Dyadic_Sign_sim _ _ _ hr12 : Go.Sx.Fn Try.prog 49 [(Ag [(Vl (.bool a1_0)), (Sl (Ki .u32) a1_1), (Vl (.int .i64 a1_2))])] [] (fun x : Unit => (Vl (.int .i64 r12))) (fun x => [])) (Hn := fun x : Unit => [⟨.pointer (some q4), [(Vl (.bool false)), (Vl (.slice none 0 0)), (Vl (.int .i64 0))], 40, none⟩, ⟨.pointer (some q3), [(Vl (.bool a1_0)), (Sl (Ki .u32) a1_1), (Vl (.int .i64 a1_2))], 40, none⟩, ⟨.pointer (some q2), [(Vl (.bool a0_0)), (Sl (Ki .u32) a0_1), (Vl (.int .i64 a0_2))], 40, none⟩]) (fun _ => rfl) rfl rfl) (wt_none' rfl) fun ⟨⟩ => ?_
    refine sx_rd' (rd_bin' rfl rfl eg_int ru_eql) rfl rfl (wt_none' rfl) ?_
    refine sx_rd' (rd_assign' rfl) rfl rfl (wt_none' rfl) ?_
    refine sx_nil' ?_
    show TX E K5 _
    refine tx_k' hK5 ?_
    refine cx_cond' rfl (fun h2 => ?_) (fun h2 => ?_)
    · replace hp := (br_t h2).symm.trans hp
      refine cx_seq' fun K6 hK6 => ?_
      refine cx_region' ?_
      refine sx_rd' (rd_load_agg' (i := 2) (o := 0) (nn := 3) rfl ⟨rfl, rfl, rfl, rfl⟩ rfl agg40 (l' := [(Vl (.bool a0_0)), (Sl (Ki .u32) a0_1), (Vl (.int .i64 a0_2))]) rfl) rfl rfl (wt_none' rfl) ?_
      refine sx_ox' (ox_store' (i := 0) (o := 0) rfl rfl (lv_ag _) ⟨rfl, rfl, rfl, rfl⟩ rfl info40 rfl (H' := [⟨.pointer (some q4), [(Vl (.bool a0_0)), (Sl (Ki .u32) a0_1), (Vl (.int .i64 a0_2))], 40, none⟩, ⟨.pointer (some q3), [(Vl (.bool a1_0)), (Sl (Ki .u32) a1_1), (Vl (.int .i64 a1_2))], 40, none⟩, ⟨.pointer (some q2), [(Vl (.bool a0_0)), (Sl (Ki .u32) a0_1), (Vl (.int .i64 a0_2))], 40, none⟩]) rfl) (wt_none' rfl) fun _ => ?_
      refine sx_nil' ?_
      show TX E K6 _
      refine tx_k' hK6 ?_
      refine cx_retc' ?_
      replace hp := Option.some.inj hp
      subst hp
      refine tx_pick' (L' := [(4, (Vl (.pointer (some q4))))]) (H' := [⟨.pointer (some q4), [(Vl (.bool a0_0)), (Sl (Ki .u32) a0_1), (Vl (.int .i64 a0_2))], 40, none⟩]) [0] (sub_cons rfl sub_nil) (by decide) (pick_cons rfl pick_nil) ?_
      exact tx_ret1' Try.results65 rfl () (rv_cell_agg' (i := 0) (o := 0) (nn := 3) rfl ⟨rfl, rfl, rfl, rfl⟩ rfl agg40 rfl) (List.nil_sublist _)
    · replace hp := (br_f h2).symm.trans hp
      refine cx_seq' fun K7 hK7 => ?_
      refine cx_region' ?_
      refine sx_rd' (rd_field' (off := 2) rfl Try.underlying40 rfl info3 rfl) rfl rfl (wt_none' rfl) ?_
      refine sx_rd' (rd_load' (i := 2) (o := 2) rfl ⟨rfl, rfl, rfl, rfl⟩ rfl flat3) rfl rfl (wt_none' rfl) ?_
      refine sx_rd' (rd_field' (off := 2) rfl Try.underlying40 rfl info3 rfl) rfl rfl (wt_none' rfl) ?_
      refine sx_rd' (rd_load' (i := 1) (o := 2) rfl ⟨rfl, rfl, rfl, rfl⟩ rfl flat3) rfl rfl (wt_none' rfl) ?_
      refine sx_rd' (rd_bin' rfl rfl eg_int ru_gtr) rfl rfl (wt_none' rfl) ?_
      refine sx_rd' (rd_assign' rfl) rfl rfl (wt_none' rfl) ?_
      refine sx_nil' ?_
      show TX E K7 _
      refine tx_k' hK7 ?_
      refine cx_cond' rfl (fun h3 => ?_) (fun h3 => ?_)
      · replace hp := (br_t h3).symm.trans hp
        refine cx_seq' fun K8 hK8 => ?_
        refine cx_plan' [] [(14, 1)] [(0, 1), (1, 1), (2, 1), (3, 1), (4, 1), (5, 1), (6, 1), (8, 1), (9, 1), (11, 1), (12, 1), (7, 0), (10, 0), (13, 1), (14, 0)] mixed (by kernel_rfl) ?_
        refine px_rd' rfl (rd_field0' rfl Try.underlying40 rfl info38 rfl) rfl rfl (wt_none' rfl) ?_
        refine px_rd' rfl (rd_load_agg' (i := 2) (o := 0) (nn := 2) rfl ⟨rfl, rfl, rfl, rfl⟩ rfl agg38 (l' := [(Vl (.bool a0_0)), (Sl (Ki .u32) a0_1)]) rfl) rfl rfl (wt_none' rfl) ?_
        refine px_rd' rfl (rd_field' (off := 2) rfl Try.underlying40 rfl info3 rfl) rfl rfl (wt_none' rfl) ?_
        refine px_rd' rfl (rd_load' (i := 2) (o := 2) rfl ⟨rfl, rfl, rfl, rfl⟩ rfl flat3) rfl rfl (wt_none' rfl) ?_
        refine px_rd' rfl (rd_field' (off := 2) rfl Try.underlying40 rfl info3 rfl) rfl rfl (wt_none' rfl) ?_
        refine px_rd' rfl (rd_load' (i := 1) (o := 2) rfl ⟨rfl, rfl, rfl, rfl⟩ rfl flat3) rfl rfl (wt_none' rfl) ?_
        refine px_rd' rfl (rd_bin' rfl rfl eg_int ru_sub) rfl rfl (wt_none' rfl) ?_
        refine px_rd' rfl (rd_field0' rfl Try.underlying40 rfl info38 rfl) rfl rfl (wt_none' rfl) ?_
        refine px_rd' rfl (rd_load_agg' (i := 1) (o := 0) (nn := 2) rfl ⟨rfl, rfl, rfl, rfl⟩ rfl agg38 (l' := [(Vl (.bool a1_0)), (Sl (Ki .u32) a1_1)]) rfl) rfl rfl (wt_none' rfl) ?_
        refine px_rd' rfl (rd_field' (off := 2) rfl Try.underlying40 rfl info3 rfl) rfl rfl (wt_none' rfl) ?_
        refine px_rd' rfl (rd_load' (i := 1) (o := 2) rfl ⟨rfl, rfl, rfl, rfl⟩ rfl flat3) rfl rfl (wt_none' rfl) ?_
        obtain ⟨r28, hr28, hp⟩ := bind_some hp
        refine px_ox' rfl (ox_calln' (ent_fn' Try.func117 isn117 rfl rfl) (spec_Whole_Up_sim _ _ _ hr28 : Go.Sx.Fn Try.prog 117 [(Ag [(Vl (.bool a0_0)), (Sl (Ki .u32) a0_1)]), (Vl (.int .i64 (isub .i64 a0_2 a1_2)))] [] (fun x : Unit => (Ag [(Vl (.bool r28.1)), (Sl (Ki .u32) r28.2)])) (fun x => [])) (Hn := fun x : Unit => [⟨.pointer (some q4), [(Vl (.bool false)), (Vl (.slice none 0 0)), (Vl (.int .i64 0))], 40, none⟩, ⟨.pointer (some q3), [(Vl (.bool a1_0)), (Sl (Ki .u32) a1_1), (Vl (.int .i64 a1_2))], 40, none⟩, ⟨.pointer (some q2), [(Vl (.bool a0_0)), (Sl (Ki .u32) a0_1), (Vl (.int .i64 a0_2))], 40, none⟩]) (fun _ => rfl) rfl rfl) rfl bs_nil (wt_none' rfl) fun ⟨⟩ => ?_
        obtain ⟨r31, hr31, hp⟩ := bind_some hp
        refine px_ox' rfl (ox_calln' (ent_fn' Try.func118 isn118 rfl rfl) (spec_Whole_Add_sim _ _ _ _ hr31 : Go.Sx.Fn Try.prog 118 [(Ag [(Vl (.bool r28.1)), (Sl (Ki .u32) r28.2)]), (Ag [(Vl (.bool a1_0)), (Sl (Ki .u32) a1_1)])] [] (fun x : Unit => (Ag [(Vl (.bool r31.1)), (Sl (Ki .u32) r31.2)])) (fun x => [])) (Hn := fun x : Unit => [⟨.pointer (some q4), [(Vl (.bool false)), (Vl (.slice none 0 0)), (Vl (.int .i64 0))], 40, none⟩, ⟨.pointer (some q3), [(Vl (.bool a1_0)), (Sl (Ki .u32) a1_1), (Vl (.int .i64 a1_2))], 40, none⟩, ⟨.pointer (some q2), [(Vl (.bool a0_0)), (Sl (Ki .u32) a0_1), (Vl (.int .i64 a0_2))], 40, none⟩]) (fun _ => rfl) rfl rfl) rfl bs_nil (wt_none' rfl) fun ⟨⟩ => ?_
        refine px_rd' rfl (rd_build' (pls := [(0, 2), (2, 1)]) (qs := [(0, [(Vl (.bool r31.1)), (Sl (Ki .u32) r31.2)]), (1, [(Vl (.int .i64 a1_2))])]) (r := [(Vl (.bool r31.1)), (Sl (Ki .u32) r31.2), (Vl (.int .i64 a1_2))]) ⟨rfl, ⟨_, rfl, (lv_ag _)⟩, ⟨rfl, ⟨_, rfl, (lv_vl rfl rfl)⟩, trivial⟩⟩ Try.underlying40 has40 places40 info40 rfl rfl rfl) rfl rfl (wt_none' rfl) ?_
        refine px_oxv' rfl (oxv_store (i := 0) (o := 0) rfl rfl (lv_ag _) ⟨rfl, rfl, rfl, rfl⟩ rfl info40 rfl (H' := [⟨.pointer (some q4), [(Vl (.bool r31.1)), (Sl (Ki .u32) r31.2), (Vl (.int .i64 a1_2))], 40, none⟩, ⟨.pointer (some q3), [(Vl (.bool a1_0)), (Sl (Ki .u32) a1_1), (Vl (.int .i64 a1_2))], 40, none⟩, ⟨.pointer (some q2), [(Vl (.bool a0_0)), (Sl (Ki .u32) a0_1), (Vl (.int .i64 a0_2))], 40, none⟩]) rfl) rfl rfl bo_nil (wt_none' rfl) fun _ => ?_
        refine px_nil' ?_
        show TX E K8 _
        refine tx_k' hK8 ?_
        refine cx_retc' ?_
        replace hp := Option.some.inj hp
        subst hp
        refine tx_pick' (L' := [(4, (Vl (.pointer (some q4))))]) (H' := [⟨.pointer (some q4), [(Vl (.bool r31.1)), (Sl (Ki .u32) r31.2), (Vl (.int .i64 a1_2))], 40, none⟩]) [0] (sub_cons rfl sub_nil) (by decide) (pick_cons rfl pick_nil) ?_
        exact tx_ret1' Try.results65 rfl () (rv_cell_agg' (i := 0) (o := 0) (nn := 3) rfl ⟨rfl, rfl, rfl, rfl⟩ rfl agg40 rfl) (List.nil_sublist _)
      · replace hp := (br_f h3).symm.trans hp
        refine cx_skip' ?_
        show TX E K2 _
        refine tx_k' hK2 ?_
        refine cx_seq' fun K9 hK9 => ?_
        refine cx_plan' [] [(14, 1)] [(0, 1), (1, 1), (2, 1), (3, 1), (4, 1), (5, 1), (6, 1), (8, 1), (9, 1), (11, 1), (12, 1), (7, 0), (10, 0), (13, 1), (14, 0)] mixed (by kernel_rfl) ?_
        refine px_rd' rfl (rd_field0' rfl Try.underlying40 rfl info38 rfl) rfl rfl (wt_none' rfl) ?_
        refine px_rd' rfl (rd_load_agg' (i := 1) (o := 0) (nn := 2) rfl ⟨rfl, rfl, rfl, rfl⟩ rfl agg38 (l' := [(Vl (.bool a1_0)), (Sl (Ki .u32) a1_1)]) rfl) rfl rfl (wt_none' rfl) ?_
        refine px_rd' rfl (rd_field' (off := 2) rfl Try.underlying40 rfl info3 rfl) rfl rfl (wt_none' rfl) ?_
        refine px_rd' rfl (rd_load' (i := 1) (o := 2) rfl ⟨rfl, rfl, rfl, rfl⟩ rfl flat3) rfl rfl (wt_none' rfl) ?_
        refine px_rd' rfl (rd_field' (off := 2) rfl Try.underlying40 rfl info3 rfl) rfl rfl (wt_none' rfl) ?_
        refine px_rd' rfl (rd_load' (i := 2) (o := 2) rfl ⟨rfl, rfl, rfl, rfl⟩ rfl flat3) rfl rfl (wt_none' rfl) ?_
        refine px_rd' rfl (rd_bin' rfl rfl eg_int ru_sub) rfl rfl (wt_none' rfl) ?_
        refine px_rd' rfl (rd_field0' rfl Try.underlying40 rfl info38 rfl) rfl rfl (wt_none' rfl) ?_
        refine px_rd' rfl (rd_load_agg' (i := 2) (o := 0) (nn := 2) rfl ⟨rfl, rfl, rfl, rfl⟩ rfl agg38 (l' := [(Vl (.bool a0_0)), (Sl (Ki .u32) a0_1)]) rfl) rfl rfl (wt_none' rfl) ?_
        refine px_rd' rfl (rd_field' (off := 2) rfl Try.underlying40 rfl info3 rfl) rfl rfl (wt_none' rfl) ?_
        refine px_rd' rfl (rd_load' (i := 2) (o := 2) rfl ⟨rfl, rfl, rfl, rfl⟩ rfl flat3) rfl rfl (wt_none' rfl) ?_
        obtain ⟨r42, hr42, hp⟩ := bind_some hp
        refine px_ox' rfl (ox_calln' (ent_fn' Try.func117 isn117 rfl rfl) (spec_Whole_Up_sim _ _ _ hr42 : Go.Sx.Fn Try.prog 117 [(Ag [(Vl (.bool a1_0)), (Sl (Ki .u32) a1_1)]), (Vl (.int .i64 (isub .i64 a1_2 a0_2)))] [] (fun x : Unit => (Ag [(Vl (.bool r42.1)), (Sl (Ki .u32) r42.2)])) (fun x => [])) (Hn := fun x : Unit => [⟨.pointer (some q4), [(Vl (.bool false)), (Vl (.slice none 0 0)), (Vl (.int .i64 0))], 40, none⟩, ⟨.pointer (some q3), [(Vl (.bool a1_0)), (Sl (Ki .u32) a1_1), (Vl (.int .i64 a1_2))], 40, none⟩, ⟨.pointer (some q2), [(Vl (.bool a0_0)), (Sl (Ki .u32) a0_1), (Vl (.int .i64 a0_2))], 40, none⟩]) (fun _ => rfl) rfl rfl) rfl bs_nil (wt_none' rfl) fun ⟨⟩ => ?_
        obtain ⟨r45, hr45, hp⟩ := bind_some hp
        refine px_ox' rfl (ox_calln' (ent_fn' Try.func118 isn118 rfl rfl) (spec_Whole_Add_sim _ _ _ _ hr45 : Go.Sx.Fn Try.prog 118 [(Ag [(Vl (.bool r42.1)), (Sl (Ki .u32) r42.2)]), (Ag [(Vl (.bool a0_0)), (Sl (Ki .u32) a0_1)])] [] (fun x : Unit => (Ag [(Vl (.bool r45.1)), (Sl (Ki .u32) r45.2)])) (fun x => [])) (Hn := fun x : Unit => [⟨.pointer (some q4), [(Vl (.bool false)), (Vl (.slice none 0 0)), (Vl (.int .i64 0))], 40, none⟩, ⟨.pointer (some q3), [(Vl (.bool a1_0)), (Sl (Ki .u32) a1_1), (Vl (.int .i64 a1_2))], 40, none⟩, ⟨.pointer (some q2), [(Vl (.bool a0_0)), (Sl (Ki .u32) a0_1), (Vl (.int .i64 a0_2))], 40, none⟩]) (fun _ => rfl) rfl rfl) rfl bs_nil (wt_none' rfl) fun ⟨⟩ => ?_
        refine px_rd' rfl (rd_build' (pls := [(0, 2), (2, 1)]) (qs := [(0, [(Vl (.bool r45.1)), (Sl (Ki .u32) r45.2)]), (1, [(Vl (.int .i64 a0_2))])]) (r := [(Vl (.bool r45.1)), (Sl (Ki .u32) r45.2), (Vl (.int .i64 a0_2))]) ⟨rfl, ⟨_, rfl, (lv_ag _)⟩, ⟨rfl, ⟨_, rfl, (lv_vl rfl rfl)⟩, trivial⟩⟩ Try.underlying40 has40 places40 info40 rfl rfl rfl) rfl rfl (wt_none' rfl) ?_
        refine px_oxv' rfl (oxv_store (i := 0) (o := 0) rfl rfl (lv_ag _) ⟨rfl, rfl, rfl, rfl⟩ rfl info40 rfl (H' := [⟨.pointer (some q4), [(Vl (.bool r45.1)), (Sl (Ki .u32) r45.2), (Vl (.int .i64 a0_2))], 40, none⟩, ⟨.pointer (some q3), [(Vl (.bool a1_0)), (Sl (Ki .u32) a1_1), (Vl (.int .i64 a1_2))], 40, none⟩, ⟨.pointer (some q2), [(Vl (.bool a0_0)), (Sl (Ki .u32) a0_1), (Vl (.int .i64 a0_2))], 40, none⟩]) rfl) rfl rfl bo_nil (wt_none' rfl) fun _ => ?_
        refine px_nil' ?_
        show TX E K9 _
        refine tx_k' hK9 ?_
        refine cx_retc' ?_
        replace hp := Option.some.inj hp
        subst hp
        refine tx_pick' (L' := [(4, (Vl (.pointer (some q4))))]) (H' := [⟨.pointer (some q4), [(Vl (.bool r45.1)), (Sl (Ki .u32) r45.2), (Vl (.int .i64 a0_2))], 40, none⟩]) [0] (sub_cons rfl sub_nil) (by decide) (pick_cons rfl pick_nil) ?_
        exact tx_ret1' Try.results65 rfl () (rv_cell_agg' (i := 0) (o := 0) (nn := 3) rfl ⟨rfl, rfl, rfl, rfl⟩ rfl agg40 rfl) (List.nil_sublist _)

def spec_Dyadic_Sub (k : Nat) (a0_0 : Bool) (a0_1 : List Int) (a0_2 : Int) (a1_0 : Bool) (a1_1 : List Int) (a1_2 : Int) : Option (Bool × (List Int) × Int) :=
  (spec_Dyadic_Minus k a1_0 a1_1 a1_2) >>= fun r7 =>
  (spec_Dyadic_Add k a0_0 a0_1 a0_2 r7.1 r7.2.1 r7.2.2) >>= fun r8 =>
  some (r8.1, r8.2.1, r8.2.2)

theorem spec_Dyadic_Sub_sim {k : Nat}  (a0_0 : Bool) (a0_1 : List Int) (a0_2 : Int) (a1_0 : Bool) (a1_1 : List Int) (a1_2 : Int) {out : Bool × (List Int) × Int} (hp : spec_Dyadic_Sub k a0_0 a0_1 a0_2 a1_0 a1_1 a1_2 = some out) : Go.Sx.Fn Try.prog 48 [(Ag [(Vl (.bool a0_0)), (Sl (Ki .u32) a0_1), (Vl (.int .i64 a0_2))]), (Ag [(Vl (.bool a1_0)), (Sl (Ki .u32) a1_1), (Vl (.int .i64 a1_2))])] [] (fun w : Unit => (Ag [(Vl (.bool out.1)), (Sl (Ki .u32) out.2.1), (Vl (.int .i64 out.2.2))])) (fun w => []) := by
  unfold spec_Dyadic_Sub at hp
  refine fn_of Try.func48 rfl Try.ntmps48 rfl fun E hM => ?_
  refine cx_seq' fun K1 hK1 => ?_
  refine cx_region' ?_
  refine sx_ox' (ox_box' rfl (lv_ag _) rfl rfl) (wt_none' rfl) fun q2 => ?_
  refine sx_ox' (ox_box' rfl (lv_ag _) rfl rfl) (wt_none' rfl) fun q3 => ?_
  refine sx_ox' (ox_alloc' info40 rfl rfl rfl rfl (l := [(Vl (.bool false)), (Vl (.slice none 0 0)), (Vl (.int .i64 0))]) rfl) (wt_none' rfl) fun q4 => ?_
  refine sx_nil' ?_
  show TX E K1 _
  refine tx_k' hK1 ?_
  refine cx_seq' fun K2 hK2 => ?_
  refine cx_plan' [] [(4, 1)] [(0, 1), (1, 1), (2, 0), (3, 0), (4, 0)] mixed (by kernel_rfl) ?_
  refine px_rd' rfl (rd_load_agg' (i := 2) (o := 0) (nn := 3) rfl ⟨rfl, rfl, rfl, rfl⟩ rfl agg40 (l' := [(Vl (.bool a0_0)), (Sl (Ki .u32) a0_1), (Vl (.int .i64 a0_2))]) rfl) rfl rfl (wt_none' rfl) ?_
  refine px_rd' rfl (rd_load_agg' (i := 1) (o := 0) (nn := 3) rfl ⟨rfl, rfl, rfl, rfl⟩ rfl agg40 (l' := [(Vl (.bool a1_0)), (Sl (Ki .u32) a1_1), (Vl (.int .i64 a1_2))]) rfl) rfl rfl (wt_none' rfl) ?_
  obtain ⟨r7, hr7, hp⟩ := bind_some hp
  refine px_ox' rfl (ox_calln' (ent_fn' Try.func95 isn95 rfl rfl) (spec_Dyadic_Minus_sim _ _ _ hr7 : Go.Sx.Fn Try.prog 95 [(Ag [(Vl (.bool a1_0)), (Sl (Ki .u32) a1_1), (Vl (.int .i64 a1_2))])] [] (fun x : Unit => (Ag [(Vl (.bool r7.1)), (Sl (Ki .u32) r7.2.1), (Vl (.int .i64 r7.2.2))])) (fun x => [])) (Hn := fun x : Unit => [⟨.pointer (some q4), [(Vl (.bool false)), (Vl (.slice none 0 0)), (Vl (.int .i64 0))], 40, none⟩, ⟨.pointer (some q3), [(Vl (.bool a1_0)), (Sl (Ki .u32) a1_1), (Vl (.int .i64 a1_2))], 40, none⟩, ⟨.pointer (some q2), [(Vl (.bool a0_0)), (Sl (Ki .u32) a0_1), (Vl (.int .i64 a0_2))], 40, none⟩]) (fun _ => rfl) rfl rfl) rfl bs_nil (wt_none' rfl) fun ⟨⟩ => ?_
  obtain ⟨r8, hr8, hp⟩ := bind_some hp
  refine px_ox' rfl (ox_calln' (ent_fn' Try.func65 isn65 rfl rfl) (spec_Dyadic_Add_sim _ _ _ _ _ _ hr8 : Go.Sx.Fn Try.prog 65 [(Ag [(Vl (.bool a0_0)), (Sl (Ki .u32) a0_1), (Vl (.int .i64 a0_2))]), (Ag [(Vl (.bool r7.1)), (Sl (Ki .u32) r7.2.1), (Vl (.int .i64 r7.2.2))])] [] (fun x : Unit => (Ag [(Vl (.bool r8.1)), (Sl (Ki .u32) r8.2.1), (Vl (.int .i64 r8.2.2))])) (fun x => [])) (Hn := fun x : Unit => [⟨.pointer (some q4), [(Vl (.bool false)), (Vl (.slice none 0 0)), (Vl (.int .i64 0))], 40, none⟩, ⟨.pointer (some q3), [(Vl (.bool a1_0)), (Sl (Ki .u32) a1_1), (Vl (.int .i64 a1_2))], 40, none⟩, ⟨.pointer (some q2), [(Vl (.bool a0_0)), (Sl (Ki .u32) a0_1), (Vl (.int .i64 a0_2))], 40, none⟩]) (fun _ => rfl) rfl rfl) rfl bs_nil (wt_none' rfl) fun ⟨⟩ => ?_
  refine px_oxv' rfl (oxv_store (i := 0) (o := 0) rfl rfl (lv_ag _) ⟨rfl, rfl, rfl, rfl⟩ rfl info40 rfl (H' := [⟨.pointer (some q4), [(Vl (.bool r8.1)), (Sl (Ki .u32) r8.2.1), (Vl (.int .i64 r8.2.2))], 40, none⟩, ⟨.pointer (some q3), [(Vl (.bool a1_0)), (Sl (Ki .u32) a1_1), (Vl (.int .i64 a1_2))], 40, none⟩, ⟨.pointer (some q2), [(Vl (.bool a0_0)), (Sl (Ki .u32) a0_1), (Vl (.int .i64 a0_2))], 40, none⟩]) rfl) rfl rfl bo_nil (wt_none' rfl) fun _ => ?_
  refine px_nil' ?_
  show TX E K2 _
  refine tx_k' hK2 ?_
  refine cx_retc' ?_
  replace hp := Option.some.inj hp
  subst hp
  refine tx_pick' (L' := [(4, (Vl (.pointer (some q4))))]) (H' := [⟨.pointer (some q4), [(Vl (.bool r8.1)), (Sl (Ki .u32) r8.2.1), (Vl (.int .i64 r8.2.2))], 40, none⟩]) [0] (sub_cons rfl sub_nil) (by decide) (pick_cons rfl pick_nil) ?_
  exact tx_ret1' Try.results48 rfl () (rv_cell_agg' (i := 0) (o := 0) (nn := 3) rfl ⟨rfl, rfl, rfl, rfl⟩ rfl agg40 rfl) (List.nil_sublist _)

def spec_Whole_Mul_l2s (a1_1 : List Int) (x12 : Int) (r26 : Int) (k : Nat) (rec2 : ((List Int) × Int × Int) → Option ((List Int) × Int)) (x6 : List Int) (x7 : Int) (x8 : Int) : Option ((List Int) × Int) :=
  br (decide (x8 < (a1_1.length : Int)))
    ((idx a1_1 x8) >>= fun r34 =>
    (idx x6 (iadd .i64 x12 x8)) >>= fun r45 =>
    (idx x6 (iadd .i64 x12 x8)) >>= fun r57 =>
    (ishr .u64 (iadd .u64 (iadd .u64 (imul .u64 (icv .u64 r26) (icv .u64 r34)) (icv .u64 r45)) x7) 32) >>= fun r59 =>
    rec2 ((x6.set (iadd .i64 x12 x8).toNat (icv .u32 (iadd .u64 (iadd .u64 (imul .u64 (icv .u64 r26) (icv .u64 r34)) (icv .u64 r45)) x7))), r59, (iadd .i64 x8 1)))
    (some (x6, x7))
def spec_Whole_Mul_l2 (a1_1 : List Int) (x12 : Int) (r26 : Int) : Nat → ((List Int) × Int × Int) → Option ((List Int) × Int)
  | 0, _ => none
  | k + 1, v => spec_Whole_Mul_l2s a1_1 x12 r26 k (spec_Whole_Mul_l2 a1_1 x12 r26 k) v.1 v.2.1 v.2.2
def spec_Whole_Mul_l3s (a0_1 : List Int) (a1_1 : List Int) (k : Nat) (rec3 : ((List Int) × Int) → Option ((List Int))) (x11 : List Int) (x12 : Int) : Option ((List Int)) :=
  br (decide (x12 < (a0_1.length : Int)))
    ((idx a0_1 x12) >>= fun r26 =>
    (spec_Whole_Mul_l2 a1_1 x12 r26 k (x11, 0, 0)) >>= fun v5 =>
    (idx v5.1 (iadd .i64 x12 (a1_1.length : Int))) >>= fun r69 =>
    rec3 ((v5.1.set (iadd .i64 x12 (a1_1.length : Int)).toNat (icv .u32 v5.2)), (iadd .i64 x12 1)))
    (some x11)
def spec_Whole_Mul_l3 (a0_1 : List Int) (a1_1 : List Int) : Nat → ((List Int) × Int) → Option ((List Int))
  | 0, _ => none
  | k + 1, v => spec_Whole_Mul_l3s a0_1 a1_1 k (spec_Whole_Mul_l3 a0_1 a1_1 k) v.1 v.2
def spec_Whole_Mul_j1 (k : Nat) (r72 : (List Int)) (x14 : Bool) : Option (Bool × (List Int)) :=
  some (x14, r72)
def spec_Whole_Mul (k : Nat) (a0_0 : Bool) (a0_1 : List Int) (a1_0 : Bool) (a1_1 : List Int) : Option (Bool × (List Int)) :=
  (mk 4 0 (iadd .i64 (a0_1.length : Int) (a1_1.length : Int)) (iadd .i64 (a0_1.length : Int) (a1_1.length : Int))) >>= fun r19 =>
  (spec_Whole_Mul_l3 a0_1 a1_1 k (r19, 0)) >>= fun v6 =>
  (spec_trim k v6) >>= fun r72 =>
  br (decide (0 < (r72.length : Int)))
    (spec_Whole_Mul_j1 k r72 (!(a0_0 == a1_0)))
    (spec_Whole_Mul_j1 k r72 false)

theorem spec_Whole_Mul_sim {k : Nat}  (a0_0 : Bool) (a0_1 : List Int) (a1_0 : Bool) (a1_1 : List Int) {out : Bool × (List Int)} (hp : spec_Whole_Mul k a0_0 a0_1 a1_0 a1_1 = some out) : Go.Sx.Fn Try.prog 94 [(Ag [(Vl (.bool a0_0)), (Sl (Ki .u32) a0_1)]), (Ag [(Vl (.bool a1_0)), (Sl (Ki .u32) a1_1)])] [] (fun w : Unit => (Ag [(Vl (.bool out.1)), (Sl (Ki .u32) out.2)])) (fun w => []) := by
  unfold spec_Whole_Mul at hp
  refine fn_of Try.func94 rfl Try.ntmps94 rfl fun E hM => ?_
  refine cx_seq' fun K1 hK1 => ?_
  refine cx_region' ?_
  refine sx_ox' (ox_box' rfl (lv_ag _) rfl rfl) (wt_none' rfl) fun q2 => ?_
  refine sx_ox' (ox_box' rfl (lv_ag _) rfl rfl) (wt_none' rfl) fun q3 => ?_
  refine sx_ox' (ox_alloc' info38 rfl rfl rfl rfl (l := [(Vl (.bool false)), (Vl (.slice none 0 0))]) rfl) (wt_none' rfl) fun q4 => ?_
  refine sx_nil' ?_
  show TX E K1 _
  refine tx_k' hK1 ?_
  refine cx_seq' fun K2 hK2 => ?_
  refine cx_region' ?_
  refine sx_rd' (rd_field' (off := 1) rfl Try.underlying38 rfl info36 rfl) rfl rfl (wt_none' rfl) ?_
  refine sx_rd' (rd_load' (i := 2) (o := 1) rfl ⟨rfl, rfl, rfl, rfl⟩ rfl flat36) rfl rfl (wt_none' rfl) ?_
  refine sx_rd' (rd_len' rfl Try.underlying36) rfl rfl (wt_none' rfl) ?_
  refine sx_rd' (rd_field' (off := 1) rfl Try.underlying38 rfl info36 rfl) rfl rfl (wt_none' rfl) ?_
  refine sx_rd' (rd_load' (i := 1) (o := 1) rfl ⟨rfl, rfl, rfl, rfl⟩ rfl flat36) rfl rfl (wt_none' rfl) ?_
  refine sx_rd' (rd_len' rfl Try.underlying36) rfl rfl (wt_none' rfl) ?_
  refine sx_rd' (rd_bin' rfl rfl eg_int ru_add) rfl rfl (wt_none' rfl) ?_
  obtain ⟨r19, hr19, hp⟩ := bind_some hp
  refine sx_ox' (ox_make' (K := (Ki .u32)) rfl rfl hr19 rfl Try.underlying36 info152 rfl rfl rfl rfl rfl) (wt_none' rfl) fun g19 => ?_
  refine sx_rd' (rd_assign' rfl) rfl rfl (wt_none' rfl) ?_
  refine sx_nil' ?_
  show TX E K2 _
  refine tx_k' hK2 ?_
  refine cx_seq' fun K3 hK3 => ?_
  refine cx_seq' fun K4 hK4 => ?_
  refine cx_region' ?_
  refine sx_rd' (rd_field' (off := 1) rfl Try.underlying38 rfl info36 rfl) rfl rfl (wt_none' rfl) ?_
  refine sx_rd' (rd_load' (i := 3) (o := 1) rfl ⟨rfl, rfl, rfl, rfl⟩ rfl flat36) rfl rfl (wt_none' rfl) ?_
  refine sx_rd' (rd_len' rfl Try.underlying36) rfl rfl (wt_none' rfl) ?_
  refine sx_rd' (rd_move' rfl) rfl rfl (wt_none' rfl) ?_
  refine sx_nil' ?_
  show TX E K4 _
  refine tx_k' hK4 ?_
  refine cx_block' ?_
  obtain ⟨v6, hy3, hp⟩ := bind_some hp
  refine cx_loopg' (F := spec_Whole_Mul_l3 a0_1 a1_1) (G := fun k R v => spec_Whole_Mul_l3s a0_1 a1_1 k R v.1 v.2) (x := (r19, 0)) (gh := ()) (fun (v3 : (List Int) × Int) (w3 : Unit) => (⟨85, [], [(2, (Vl (.pointer (some q2)))), (3, (Vl (.pointer (some q3)))), (4, (Vl (.pointer (some q4)))), (5, (Vl (Vs g19))), (21, (Sl (Ki .u32) a0_1)), (22, (Vl (.int .i64 (a0_1.length : Int)))), (23, (Vl (.int .i64 v3.2)))], [⟨.pointer (some q2), [(Vl (.bool a0_0)), (Sl (Ki .u32) a0_1)], 38, none⟩, ⟨.pointer (some q3), [(Vl (.bool a1_0)), (Sl (Ki .u32) a1_1)], 38, none⟩, ⟨.pointer (some q4), [(Vl (.bool false)), (Vl (.slice none 0 0))], 38, none⟩, (Rw (Ki .u32) 152 (Vs g19) v3.1)]⟩ : St)) (fun (v6 : (List Int)) => Zg E (Exit.exit 0) (fun (w6 : Unit) => (⟨85, [], [(2, (Vl (.pointer (some q2)))), (3, (Vl (.pointer (some q3)))), (4, (Vl (.pointer (some q4)))), (5, (Vl (Vs g19)))], [⟨.pointer (some q2), [(Vl (.bool a0_0)), (Sl (Ki .u32) a0_1)], 38, none⟩, ⟨.pointer (some q3), [(Vl (.bool a1_0)), (Sl (Ki .u32) a1_1)], 38, none⟩, ⟨.pointer (some q4), [(Vl (.bool false)), (Vl (.slice none 0 0))], 38, none⟩, (Rw (Ki .u32) 152 (Vs g19) v6)]⟩ : St))) (fun _ => rfl) (fun _ _ => rfl) ?_ hy3 (tx_to' rfl [3, 2, 1, 0] (sub_cons rfl (sub_cons rfl (sub_cons rfl (sub_cons rfl (sub_cons rfl (sub_cons rfl (sub_cons rfl sub_nil))))))) (by decide) (pick_cons rfl (pick_cons rfl (pick_cons rfl (pick_cons rfl pick_nil))))) ?_
  · clear hp hy3
    clear v6
    intro k rec3 KY3 ih3
    rintro ⟨x11, x12⟩ ⟨⟩ y3 hp
    replace hp : spec_Whole_Mul_l3s a0_1 a1_1 k rec3 x11 x12 = some y3 := hp
    unfold spec_Whole_Mul_l3s at hp
    refine cx_seq' fun K24 hK24 => ?_
    refine cx_region' ?_
    refine sx_rd' (rd_bin' rfl rfl eg_int ru_lss) rfl rfl (wt_none' rfl) ?_
    refine sx_nil' ?_
    show TX E K24 _
    refine tx_k' hK24 ?_
    refine cx_seq' fun K25 hK25 => ?_
    refine cx_cond' rfl (fun h6 => ?_) (fun h6 => ?_)
    · replace hp := (br_t h6).symm.trans hp
      refine cx_skip' ?_
      show TX E K25 _
      refine tx_k' hK25 ?_
      refine cx_seq' fun K26 hK26 => ?_
      refine cx_block' ?_
      refine cx_seq' fun K27 hK27 => ?_
      refine cx_region' ?_
      refine sx_rd' (rd_move' rfl) rfl rfl (wt_none' rfl) ?_
      obtain ⟨r26, hr26, hp⟩ := bind_some hp
      refine sx_rd' (rd_at' (K := (Ki .u32)) rfl rfl hr26 Try.underlying36 info152) rfl rfl (wt_none' rfl) ?_
      refine sx_rd' (rd_load_pt' rfl rfl flat152) rfl rfl (wt_none' rfl) ?_
      refine sx_rd' (rd_assign' rfl) rfl rfl (wt_none' rfl) ?_
      refine sx_rd' (rd_assign' rfl) rfl rfl (wt_none' rfl) ?_
      refine sx_nil' ?_
      show TX E K27 _
      refine tx_k' hK27 ?_
      refine cx_seq' fun K28 hK28 => ?_
      refine cx_region' ?_
      refine sx_rd' (rd_assign' rfl) rfl rfl (wt_none' rfl) ?_
      refine sx_nil' ?_
      show TX E K28 _
      refine tx_k' hK28 ?_
      refine cx_seq' fun K29 hK29 => ?_
      refine cx_seq' fun K30 hK30 => ?_
      refine cx_region' ?_
      refine sx_rd' (rd_field' (off := 1) rfl Try.underlying38 rfl info36 rfl) rfl rfl (wt_none' rfl) ?_
      refine sx_rd' (rd_load' (i := 1) (o := 1) rfl ⟨rfl, rfl, rfl, rfl⟩ rfl flat36) rfl rfl (wt_none' rfl) ?_
      refine sx_rd' (rd_len' rfl Try.underlying36) rfl rfl (wt_none' rfl) ?_
      refine sx_rd' (rd_move' rfl) rfl rfl (wt_none' rfl) ?_
      refine sx_nil' ?_
      show TX E K30 _
      refine tx_k' hK30 ?_
      refine cx_block' ?_
      obtain ⟨v5, hy2, hp⟩ := bind_some hp
      refine cx_loopg' (F := spec_Whole_Mul_l2 a1_1 x12 r26) (G := fun k R v => spec_Whole_Mul_l2s a1_1 x12 r26 k R v.1 v.2.1 v.2.2) (x := (x11, 0, 0)) (gh := ()) (fun (v4 : (List Int) × Int × Int) (w4 : Unit) => (⟨85, [], [(2, (Vl (.pointer (some q2)))), (3, (Vl (.pointer (some q3)))), (4, (Vl (.pointer (some q4)))), (5, (Vl (Vs g19))), (6, (Vl (.int .i64 x12))), (7, (Vl (.int .u32 r26))), (8, (Vl (.int .u64 v4.2.1))), (21, (Sl (Ki .u32) a0_1)), (22, (Vl (.int .i64 (a0_1.length : Int)))), (23, (Vl (.int .i64 x12))), (29, (Sl (Ki .u32) a1_1)), (30, (Vl (.int .i64 (a1_1.length : Int)))), (31, (Vl (.int .i64 v4.2.2)))], [⟨.pointer (some q2), [(Vl (.bool a0_0)), (Sl (Ki .u32) a0_1)], 38, none⟩, ⟨.pointer (some q3), [(Vl (.bool a1_0)), (Sl (Ki .u32) a1_1)], 38, none⟩, ⟨.pointer (some q4), [(Vl (.bool false)), (Vl (.slice none 0 0))], 38, none⟩, (Rw (Ki .u32) 152 (Vs g19) v4.1)]⟩ : St)) (fun (v5 : (List Int) × Int) => Zg E (Exit.exit 2) (fun (w5 : Unit) => (⟨85, [], [(2, (Vl (.pointer (some q2)))), (3, (Vl (.pointer (some q3)))), (4, (Vl (.pointer (some q4)))), (5, (Vl (Vs g19))), (6, (Vl (.int .i64 x12))), (8, (Vl (.int .u64 v5.2))), (21, (Sl (Ki .u32) a0_1)), (22, (Vl (.int .i64 (a0_1.length : Int)))), (23, (Vl (.int .i64 x12)))], [⟨.pointer (some q2), [(Vl (.bool a0_0)), (Sl (Ki .u32) a0_1)], 38, none⟩, ⟨.pointer (some q3), [(Vl (.bool a1_0)), (Sl (Ki .u32) a1_1)], 38, none⟩, ⟨.pointer (some q4), [(Vl (.bool false)), (Vl (.slice none 0 0))], 38, none⟩, (Rw (Ki .u32) 152 (Vs g19) v5.1)]⟩ : St))) (fun _ => rfl) (fun _ _ => rfl) ?_ hy2 (tx_to' rfl [0, 1, 2, 3] (sub_cons rfl (sub_cons rfl (sub_cons rfl (sub_cons rfl (sub_cons rfl (sub_cons rfl (sub_cons rfl (sub_cons rfl (sub_cons rfl (sub_cons rfl (sub_cons rfl (sub_cons rfl (sub_cons rfl sub_nil))))))))))))) (by decide) (pick_cons rfl (pick_cons rfl (pick_cons rfl (pick_cons rfl pick_nil))))) ?_
      · clear hp hy2
        clear v5
        intro k rec2 KY2 ih2
        rintro ⟨x6, x7, x8⟩ ⟨⟩ y2 hp
        replace hp : spec_Whole_Mul_l2s a1_1 x12 r26 k rec2 x6 x7 x8 = some y2 := hp
        unfold spec_Whole_Mul_l2s at hp
        refine cx_seq' fun K37 hK37 => ?_
        refine cx_region' ?_
        refine sx_rd' (rd_bin' rfl rfl eg_int ru_lss) rfl rfl (wt_none' rfl) ?_
        refine sx_nil' ?_
        show TX E K37 _
        refine tx_k' hK37 ?_
        refine cx_seq' fun K38 hK38 => ?_
        refine cx_cond' rfl (fun h9 => ?_) (fun h9 => ?_)
        · replace hp := (br_t h9).symm.trans hp
          refine cx_skip' ?_
          show TX E K38 _
          refine tx_k' hK38 ?_
          refine cx_seq' fun K39 hK39 => ?_
          refine cx_block' ?_
          refine cx_seq' fun K40 hK40 => ?_
          refine cx_region' ?_
          refine sx_rd' (rd_move' rfl) rfl rfl (wt_none' rfl) ?_
          obtain ⟨r34, hr34, hp⟩ := bind_some hp
          refine sx_rd' (rd_at' (K := (Ki .u32)) rfl rfl hr34 Try.underlying36 info152) rfl rfl (wt_none' rfl) ?_
          refine sx_rd' (rd_load_pt' rfl rfl flat152) rfl rfl (wt_none' rfl) ?_
          refine sx_rd' (rd_assign' rfl) rfl rfl (wt_none' rfl) ?_
          refine sx_rd' (rd_assign' rfl) rfl rfl (wt_none' rfl) ?_
          refine sx_nil' ?_
          show TX E K40 _
          refine tx_k' hK40 ?_
          refine cx_seq' fun K41 hK41 => ?_
          refine cx_region' ?_
          refine sx_rd' (rd_move' rfl) rfl rfl (wt_none' rfl) ?_
          refine sx_rd' (rd_conv' rfl (ru_i2i (by rw [Try.underlying152]; rfl) Try.underlying112)) rfl rfl (wt_none' rfl) ?_
          refine sx_rd' (rd_move' rfl) rfl rfl (wt_none' rfl) ?_
          refine sx_rd' (rd_conv' rfl (ru_i2i (by rw [Try.underlying152]; rfl) Try.underlying112)) rfl rfl (wt_none' rfl) ?_
          refine sx_rd' (rd_bin' rfl rfl eg_int ru_mul) rfl rfl (wt_none' rfl) ?_
          refine sx_rd' (rd_move' rfl) rfl rfl (wt_none' rfl) ?_
          refine sx_rd' (rd_move' rfl) rfl rfl (wt_none' rfl) ?_
          refine sx_rd' (rd_move' rfl) rfl rfl (wt_none' rfl) ?_
          refine sx_rd' (rd_bin' rfl rfl eg_int ru_add) rfl rfl (wt_none' rfl) ?_
          obtain ⟨r45, hr45, hp⟩ := bind_some hp
          refine sx_rd' (rd_atr' (m := 3) rfl rfl rfl rfl hr45 Try.underlying36 info152) rfl rfl (wt_none' rfl) ?_
          refine sx_rd' (rd_loadr' rfl (m := 3) (i := (iadd .i64 x12 x8)) (j := 0) rfl rfl hr45 rfl rfl flat152) rfl rfl (wt_none' rfl) ?_
          refine sx_rd' (rd_conv' rfl (ru_i2i (by rw [Try.underlying152]; rfl) Try.underlying112)) rfl rfl (wt_none' rfl) ?_
          refine sx_rd' (rd_bin' rfl rfl eg_int ru_add) rfl rfl (wt_none' rfl) ?_
          refine sx_rd' (rd_move' rfl) rfl rfl (wt_none' rfl) ?_
          refine sx_rd' (rd_bin' rfl rfl eg_int ru_add) rfl rfl (wt_none' rfl) ?_
          refine sx_rd' (rd_assign' rfl) rfl rfl (wt_none' rfl) ?_
          refine sx_nil' ?_
          show TX E K41 _
          refine tx_k' hK41 ?_
          refine cx_seq' fun K42 hK42 => ?_
          refine cx_region' ?_
          refine sx_rd' (rd_move' rfl) rfl rfl (wt_none' rfl) ?_
          refine sx_rd' (rd_move' rfl) rfl rfl (wt_none' rfl) ?_
          refine sx_rd' (rd_move' rfl) rfl rfl (wt_none' rfl) ?_
          refine sx_rd' (rd_bin' rfl rfl eg_int ru_add) rfl rfl (wt_none' rfl) ?_
          refine sx_rd' (rd_move' rfl) rfl rfl (wt_none' rfl) ?_
          refine sx_rd' (rd_conv' rfl (ru_i2i (by rw [Try.underlying112]; rfl) Try.underlying152)) rfl rfl (wt_none' rfl) ?_
          obtain ⟨r57, hr57, hp⟩ := bind_some hp
          refine sx_rd' (rd_atr' (m := 3) rfl rfl rfl rfl hr57 Try.underlying36 info152) rfl rfl (wt_none' rfl) ?_
          refine sx_ox' (ox_storer' (m := 3) (i := (iadd .i64 x12 x8)) (j := 0) (x' := (icv .u32 (iadd .u64 (iadd .u64 (imul .u64 (icv .u64 r26) (icv .u64 r34)) (icv .u64 r45)) x7))) rfl rfl (lv_vl rfl rfl) rfl rfl hr57 rfl rfl rfl info152 rfl (H' := [⟨.pointer (some q2), [(Vl (.bool a0_0)), (Sl (Ki .u32) a0_1)], 38, none⟩, ⟨.pointer (some q3), [(Vl (.bool a1_0)), (Sl (Ki .u32) a1_1)], 38, none⟩, ⟨.pointer (some q4), [(Vl (.bool false)), (Vl (.slice none 0 0))], 38, none⟩, (Rw (Ki .u32) 152 (Vs g19) (x6.set (iadd .i64 x12 x8).toNat (icv .u32 (iadd .u64 (iadd .u64 (imul .u64 (icv .u64 r26) (icv .u64 r34)) (icv .u64 r45)) x7))))]) rfl) (wt_none' rfl) fun _ => ?_
          refine sx_nil' ?_
          show TX E K42 _
          refine tx_k' hK42 ?_
          refine cx_region' ?_
          refine sx_rd' (rd_move' rfl) rfl rfl (wt_none' rfl) ?_
          obtain ⟨r59, hr59, hp⟩ := bind_some hp
          refine sx_rd' (rd_bin' rfl rfl eg_int (ru_shr hr59)) rfl rfl (wt_none' rfl) ?_
          refine sx_rd' (rd_assign' rfl) rfl rfl (wt_none' rfl) ?_
          refine sx_nil' ?_
          show TX E K39 _
          refine tx_k' hK39 ?_
          refine cx_region' ?_
          refine sx_rd' (rd_bin' rfl rfl eg_int ru_add) rfl rfl (wt_none' rfl) ?_
          refine sx_rd' (rd_move' rfl) rfl rfl (wt_none' rfl) ?_
          refine sx_nil' ?_
          show TX E (KY2 _) _
          exact tx_pick' [0, 1, 2, 3] (sub_cons rfl (sub_cons rfl (sub_cons rfl (sub_cons rfl (sub_cons rfl (sub_cons rfl (sub_cons rfl (sub_cons rfl (sub_cons rfl (sub_cons rfl (sub_cons rfl (sub_cons rfl (sub_cons rfl sub_nil))))))))))))) (by decide) (pick_cons rfl (pick_cons rfl (pick_cons rfl (pick_cons rfl pick_nil)))) (ih2 ((x6.set (iadd .i64 x12 x8).toNat (icv .u32 (iadd .u64 (iadd .u64 (imul .u64 (icv .u64 r26) (icv .u64 r34)) (icv .u64 r45)) x7))), r59, (iadd .i64 x8 1)) () _ hp)
        · replace hp := (br_f h9).symm.trans hp
          refine cx_exit' ?_
          replace hp := Option.some.inj hp
          subst hp
          show TX E (Zg E (Exit.exit 2) _ (Exit.exit 2)) _
          exact tx_zend' () rfl [0, 1, 2, 3] (sub_cons rfl (sub_cons rfl (sub_cons rfl (sub_cons rfl (sub_cons rfl (sub_cons rfl (sub_cons rfl (sub_cons rfl (sub_cons rfl sub_nil))))))))) (by decide) (pick_cons rfl (pick_cons rfl (pick_cons rfl (pick_cons rfl pick_nil))))
      · refine zg_out fun w5 => ?_
        show TX E K29 _
        refine tx_k' hK29 ?_
        refine cx_region' ?_
        refine sx_rd' (rd_move' rfl) rfl rfl (wt_none' rfl) ?_
        refine sx_rd' (rd_move' rfl) rfl rfl (wt_none' rfl) ?_
        refine sx_rd' (rd_field' (off := 1) rfl Try.underlying38 rfl info36 rfl) rfl rfl (wt_none' rfl) ?_
        refine sx_rd' (rd_load' (i := 1) (o := 1) rfl ⟨rfl, rfl, rfl, rfl⟩ rfl flat36) rfl rfl (wt_none' rfl) ?_
        refine sx_rd' (rd_len' rfl Try.underlying36) rfl rfl (wt_none' rfl) ?_
        refine sx_rd' (rd_bin' rfl rfl eg_int ru_add) rfl rfl (wt_none' rfl) ?_
        refine sx_rd' (rd_move' rfl) rfl rfl (wt_none' rfl) ?_
        refine sx_rd' (rd_conv' rfl (ru_i2i (by rw [Try.underlying112]; rfl) Try.underlying152)) rfl rfl (wt_none' rfl) ?_
        obtain ⟨r69, hr69, hp⟩ := bind_some hp
        refine sx_rd' (rd_atr' (m := 3) rfl rfl rfl rfl hr69 Try.underlying36 info152) rfl rfl (wt_none' rfl) ?_
        refine sx_ox' (ox_storer' (m := 3) (i := (iadd .i64 x12 (a1_1.length : Int))) (j := 0) (x' := (icv .u32 v5.2)) rfl rfl (lv_vl rfl rfl) rfl rfl hr69 rfl rfl rfl info152 rfl (H' := [⟨.pointer (some q2), [(Vl (.bool a0_0)), (Sl (Ki .u32) a0_1)], 38, none⟩, ⟨.pointer (some q3), [(Vl (.bool a1_0)), (Sl (Ki .u32) a1_1)], 38, none⟩, ⟨.pointer (some q4), [(Vl (.bool false)), (Vl (.slice none 0 0))], 38, none⟩, (Rw (Ki .u32) 152 (Vs g19) (v5.1.set (iadd .i64 x12 (a1_1.length : Int)).toNat (icv .u32 v5.2)))]) rfl) (wt_none' rfl) fun _ => ?_
        refine sx_nil' ?_
        show TX E K26 _
        refine tx_k' hK26 ?_
        refine cx_region' ?_
        refine sx_rd' (rd_bin' rfl rfl eg_int ru_add) rfl rfl (wt_none' rfl) ?_
        refine sx_rd' (rd_move' rfl) rfl rfl (wt_none' rfl) ?_
        refine sx_nil' ?_
        show TX E (KY3 _) _
        exact tx_pick' [0, 1, 2, 3] (sub_cons rfl (sub_cons rfl (sub_cons rfl (sub_cons rfl (sub_cons rfl (sub_cons rfl (sub_cons rfl sub_nil))))))) (by decide) (pick_cons rfl (pick_cons rfl (pick_cons rfl (pick_cons rfl pick_nil)))) (ih3 ((v5.1.set (iadd .i64 x12 (a1_1.length : Int)).toNat (icv .u32 v5.2)), (iadd .i64 x12 1)) () _ hp)
    · replace hp := (br_f h6).symm.trans hp
      refine cx_exit' ?_
      replace hp := Option.some.inj hp
      subst hp
      show TX E (Zg E (Exit.exit 0) _ (Exit.exit 0)) _
      exact tx_zend' () rfl [0, 1, 2, 3] (sub_cons rfl (sub_cons rfl (sub_cons rfl (sub_cons rfl sub_nil)))) (by decide) (pick_cons rfl (pick_cons rfl (pick_cons rfl (pick_cons rfl pick_nil))))
  · refine zg_out fun w6 => ?_
    show TX E K3 _
    refine tx_k' hK3 ?_
    refine cx_seq' fun K43 hK43 => ?_
    refine cx_region' ?_
    refine sx_rd' (rd_move' rfl) rfl rfl (wt_none' rfl) ?_
    refine tx_fz' (frz_row 3 [(5, (Vl (Vs g19)), (Sl (Ki .u32) v6)), (71, (Vl (Vs g19)), (Sl (Ki .u32) v6))] (K := (Ki .u32)) (xs := v6) (by decide) rfl ⟨⟨rfl, frz_it⟩, ⟨rfl, frz_it⟩, trivial⟩ (H' := [⟨.pointer (some q2), [(Vl (.bool a0_0)), (Sl (Ki .u32) a0_1)], 38, none⟩, ⟨.pointer (some q3), [(Vl (.bool a1_0)), (Sl (Ki .u32) a1_1)], 38, none⟩, ⟨.pointer (some q4), [(Vl (.bool false)), (Vl (.slice none 0 0))], 38, none⟩]) frzH_refl) ?_
    obtain ⟨r72, hr72, hp⟩ := bind_some hp
    refine sx_ox' (ox_calln' (ent_fn' Try.func135 isn135 rfl rfl) (spec_trim_sim _ hr72 : Go.Sx.Fn Try.prog 135 [(Sl (Ki .u32) v6)] [] (fun x : Unit => (Sl (Ki .u32) r72)) (fun x => [])) (Hn := fun x : Unit => [⟨.pointer (some q2), [(Vl (.bool a0_0)), (Sl (Ki .u32) a0_1)], 38, none⟩, ⟨.pointer (some q3), [(Vl (.bool a1_0)), (Sl (Ki .u32) a1_1)], 38, none⟩, ⟨.pointer (some q4), [(Vl (.bool false)), (Vl (.slice none 0 0))], 38, none⟩]) (fun _ => rfl) rfl rfl) (wt_none' rfl) fun ⟨⟩ => ?_
    refine sx_rd' (rd_assign' rfl) rfl rfl (wt_none' rfl) ?_
    refine sx_nil' ?_
    show TX E K43 _
    refine tx_k' hK43 ?_
    refine cx_seq' fun K44 hK44 => ?_
    refine cx_region' ?_
    refine sx_rd' (rd_move' rfl) rfl rfl (wt_none' rfl) ?_
    refine sx_rd' (rd_len' rfl Try.underlying36) rfl rfl (wt_none' rfl) ?_
    refine sx_rd' (rd_bin' rfl rfl eg_int ru_gtr) rfl rfl (wt_none' rfl) ?_
    refine sx_rd' (rd_move' rfl) rfl rfl (wt_none' rfl) ?_
    refine sx_cutn' 6 (fun (v7 : Bool) => (⟨85, [], [(4, (Vl (.pointer (some q4)))), (5, (Sl (Ki .u32) r72)), (82, (Vl (.bool v7)))], [⟨.pointer (some q4), [(Vl (.bool false)), (Vl (.slice none 0 0))], 38, none⟩]⟩ : St)) (fun (v7 : Bool) => spec_Whole_Mul_j1 k r72 v7 = some out) ?_ ?_
    · rintro x14 hp
      replace hp : spec_Whole_Mul_j1 k r72 x14 = some out := hp
      unfold spec_Whole_Mul_j1 at hp
      refine sx_rd' (rd_move' rfl) rfl rfl (wt_none' rfl) ?_
      refine sx_rd' (rd_build' (pls := [(0, 1), (1, 1)]) (qs := [(0, [(Vl (.bool x14))]), (1, [(Sl (Ki .u32) r72)])]) (r := [(Vl (.bool x14)), (Sl (Ki .u32) r72)]) ⟨rfl, ⟨_, rfl, (lv_vl rfl rfl)⟩, ⟨rfl, ⟨_, rfl, (lv_sl _ _)⟩, trivial⟩⟩ Try.underlying38 has38 places38 info38 rfl rfl rfl) rfl rfl (wt_none' rfl) ?_
      refine sx_ox' (ox_store' (i := 0) (o := 0) rfl rfl (lv_ag _) ⟨rfl, rfl, rfl, rfl⟩ rfl info38 rfl (H' := [⟨.pointer (some q4), [(Vl (.bool x14)), (Sl (Ki .u32) r72)], 38, none⟩]) rfl) (wt_none' rfl) fun _ => ?_
      refine sx_nil' ?_
      show TX E K44 _
      refine tx_k' hK44 ?_
      refine cx_retc' ?_
      replace hp := Option.some.inj hp
      subst hp
      refine tx_pick' (L' := [(4, (Vl (.pointer (some q4))))]) (H' := [⟨.pointer (some q4), [(Vl (.bool x14)), (Sl (Ki .u32) r72)], 38, none⟩]) [0] (sub_cons rfl sub_nil) (by decide) (pick_cons rfl pick_nil) ?_
      exact tx_ret1' Try.results94 rfl () (rv_cell_agg' (i := 0) (o := 0) (nn := 2) rfl ⟨rfl, rfl, rfl, rfl⟩ rfl agg38 rfl) (List.nil_sublist _)
    · intro K45 hK45
      rcases br_cases hp with ⟨h10, hp⟩ | ⟨h10, hp⟩
      · refine sx_rd' (rd_field0' rfl Try.underlying38 rfl info4 rfl) rfl rfl (wt_is' (wt_guard' rfl rfl rfl) (beq_tt h10)) ?_
        refine sx_rd' (rd_load' (i := 0) (o := 0) rfl ⟨rfl, rfl, rfl, rfl⟩ rfl flat4) rfl rfl (wt_is' (wt_guard' rfl rfl rfl) (beq_tt h10)) ?_
        refine sx_rd' (rd_field0' rfl Try.underlying38 rfl info4 rfl) rfl rfl (wt_is' (wt_guard' rfl rfl rfl) (beq_tt h10)) ?_
        refine sx_rd' (rd_load' (i := 1) (o := 0) rfl ⟨rfl, rfl, rfl, rfl⟩ rfl flat4) rfl rfl (wt_is' (wt_guard' rfl rfl rfl) (beq_tt h10)) ?_
        refine sx_rd' (rd_bin' rfl rfl eg_bool (ru_bne Try.underlying4)) rfl rfl (wt_is' (wt_guard' rfl rfl rfl) (beq_tt h10)) ?_
        refine sx_rd' (rd_pick_true' rfl h10 rfl) rfl rfl (wt_none' rfl) ?_
        refine sx_nil' ?_
        show TX E K45 _
        exact tx_pick' [2] (sub_cons rfl (sub_cons rfl (sub_cons rfl sub_nil))) (by decide) (pick_cons rfl pick_nil) (hK45 (!(a0_0 == a1_0)) hp)
      · refine sx_skip' rfl rfl (wt_is' (wt_guard' rfl rfl rfl) (beq_ft h10)) ?_
        refine sx_skip' rfl rfl (wt_is' (wt_guard' rfl rfl rfl) (beq_ft h10)) ?_
        refine sx_skip' rfl rfl (wt_is' (wt_guard' rfl rfl rfl) (beq_ft h10)) ?_
        refine sx_skip' rfl rfl (wt_is' (wt_guard' rfl rfl rfl) (beq_ft h10)) ?_
        refine sx_skip' rfl rfl (wt_is' (wt_guard' rfl rfl rfl) (beq_ft h10)) ?_
        refine sx_rd' (rd_pick_false' rfl h10 rfl) rfl rfl (wt_none' rfl) ?_
        refine sx_nil' ?_
        show TX E K45 _
        exact tx_pick' [2] (sub_cons rfl (sub_cons rfl (sub_cons rfl sub_nil))) (by decide) (pick_cons rfl pick_nil) (hK45 false hp)

def spec_Dyadic_Mul (k : Nat) (a0_0 : Bool) (a0_1 : List Int) (a0_2 : Int) (a1_0 : Bool) (a1_1 : List Int) (a1_2 : Int) : Option (Bool × (List Int) × Int) :=
  (spec_Whole_Mul k a0_0 a0_1 a1_0 a1_1) >>= fun r9 =>
  some (r9.1, r9.2, iadd .i64 a0_2 a1_2)

theorem spec_Dyadic_Mul_sim {k : Nat}  (a0_0 : Bool) (a0_1 : List Int) (a0_2 : Int) (a1_0 : Bool) (a1_1 : List Int) (a1_2 : Int) {out : Bool × (List Int) × Int} (hp : spec_Dyadic_Mul k a0_0 a0_1 a0_2 a1_0 a1_1 a1_2 = some out) : Go.Sx.Fn Try.prog 47 [(Ag [(Vl (.bool a0_0)), (Sl (Ki .u32) a0_1), (Vl (.int .i64 a0_2))]), (Ag [(Vl (.bool a1_0)), (Sl (Ki .u32) a1_1), (Vl (.int .i64 a1_2))])] [] (fun w : Unit => (Ag [(Vl (.bool out.1)), (Sl (Ki .u32) out.2.1), (Vl (.int .i64 out.2.2))])) (fun w => []) := by
  unfold spec_Dyadic_Mul at hp
  refine fn_of Try.func47 rfl Try.ntmps47 rfl fun E hM => ?_
  refine cx_seq' fun K1 hK1 => ?_
  refine cx_region' ?_
  refine sx_ox' (ox_box' rfl (lv_ag _) rfl rfl) (wt_none' rfl) fun q2 => ?_
  refine sx_ox' (ox_box' rfl (lv_ag _) rfl rfl) (wt_none' rfl) fun q3 => ?_
  refine sx_ox' (ox_alloc' info40 rfl rfl rfl rfl (l := [(Vl (.bool false)), (Vl (.slice none 0 0)), (Vl (.int .i64 0))]) rfl) (wt_none' rfl) fun q4 => ?_
  refine sx_nil' ?_
  show TX E K1 _
  refine tx_k' hK1 ?_
  refine cx_seq' fun K2 hK2 => ?_
  refine cx_plan' [] [(11, 1)] [(0, 1), (1, 1), (2, 1), (3, 1), (5, 1), (6, 1), (7, 1), (8, 1), (9, 1), (4, 0), (10, 1), (11, 0)] mixed (by kernel_rfl) ?_
  refine px_rd' rfl (rd_field0' rfl Try.underlying40 rfl info38 rfl) rfl rfl (wt_none' rfl) ?_
  refine px_rd' rfl (rd_load_agg' (i := 2) (o := 0) (nn := 2) rfl ⟨rfl, rfl, rfl, rfl⟩ rfl agg38 (l' := [(Vl (.bool a0_0)), (Sl (Ki .u32) a0_1)]) rfl) rfl rfl (wt_none' rfl) ?_
  refine px_rd' rfl (rd_field0' rfl Try.underlying40 rfl info38 rfl) rfl rfl (wt_none' rfl) ?_
  refine px_rd' rfl (rd_load_agg' (i := 1) (o := 0) (nn := 2) rfl ⟨rfl, rfl, rfl, rfl⟩ rfl agg38 (l' := [(Vl (.bool a1_0)), (Sl (Ki .u32) a1_1)]) rfl) rfl rfl (wt_none' rfl) ?_
  refine px_rd' rfl (rd_field' (off := 2) rfl Try.underlying40 rfl info3 rfl) rfl rfl (wt_none' rfl) ?_
  refine px_rd' rfl (rd_load' (i := 2) (o := 2) rfl ⟨rfl, rfl, rfl, rfl⟩ rfl flat3) rfl rfl (wt_none' rfl) ?_
  refine px_rd' rfl (rd_field' (off := 2) rfl Try.underlying40 rfl info3 rfl) rfl rfl (wt_none' rfl) ?_
  refine px_rd' rfl (rd_load' (i := 1) (o := 2) rfl ⟨rfl, rfl, rfl, rfl⟩ rfl flat3) rfl rfl (wt_none' rfl) ?_
  refine px_rd' rfl (rd_bin' rfl rfl eg_int ru_add) rfl rfl (wt_none' rfl) ?_
  obtain ⟨r9, hr9, hp⟩ := bind_some hp
  refine px_ox' rfl (ox_calln' (ent_fn' Try.func94 isn94 rfl rfl) (spec_Whole_Mul_sim _ _ _ _ hr9 : Go.Sx.Fn Try.prog 94 [(Ag [(Vl (.bool a0_0)), (Sl (Ki .u32) a0_1)]), (Ag [(Vl (.bool a1_0)), (Sl (Ki .u32) a1_1)])] [] (fun x : Unit => (Ag [(Vl (.bool r9.1)), (Sl (Ki .u32) r9.2)])) (fun x => [])) (Hn := fun x : Unit => [⟨.pointer (some q4), [(Vl (.bool false)), (Vl (.slice none 0 0)), (Vl (.int .i64 0))], 40, none⟩, ⟨.pointer (some q3), [(Vl (.bool a1_0)), (Sl (Ki .u32) a1_1), (Vl (.int .i64 a1_2))], 40, none⟩, ⟨.pointer (some q2), [(Vl (.bool a0_0)), (Sl (Ki .u32) a0_1), (Vl (.int .i64 a0_2))], 40, none⟩]) (fun _ => rfl) rfl rfl) rfl bs_nil (wt_none' rfl) fun ⟨⟩ => ?_
  refine px_rd' rfl (rd_build' (pls := [(0, 2), (2, 1)]) (qs := [(0, [(Vl (.bool r9.1)), (Sl (Ki .u32) r9.2)]), (1, [(Vl (.int .i64 (iadd .i64 a0_2 a1_2)))])]) (r := [(Vl (.bool r9.1)), (Sl (Ki .u32) r9.2), (Vl (.int .i64 (iadd .i64 a0_2 a1_2)))]) ⟨rfl, ⟨_, rfl, (lv_ag _)⟩, ⟨rfl, ⟨_, rfl, (lv_vl rfl rfl)⟩, trivial⟩⟩ Try.underlying40 has40 places40 info40 rfl rfl rfl) rfl rfl (wt_none' rfl) ?_
  refine px_oxv' rfl (oxv_store (i := 0) (o := 0) rfl rfl (lv_ag _) ⟨rfl, rfl, rfl, rfl⟩ rfl info40 rfl (H' := [⟨.pointer (some q4), [(Vl (.bool r9.1)), (Sl (Ki .u32) r9.2), (Vl (.int .i64 (iadd .i64 a0_2 a1_2)))], 40, none⟩, ⟨.pointer (some q3), [(Vl (.bool a1_0)), (Sl (Ki .u32) a1_1), (Vl (.int .i64 a1_2))], 40, none⟩, ⟨.pointer (some q2), [(Vl (.bool a0_0)), (Sl (Ki .u32) a0_1), (Vl (.int .i64 a0_2))], 40, none⟩]) rfl) rfl rfl bo_nil (wt_none' rfl) fun _ => ?_
  refine px_nil' ?_
  show TX E K2 _
  refine tx_k' hK2 ?_
  refine cx_retc' ?_
  replace hp := Option.some.inj hp
  subst hp
  refine tx_pick' (L' := [(4, (Vl (.pointer (some q4))))]) (H' := [⟨.pointer (some q4), [(Vl (.bool r9.1)), (Sl (Ki .u32) r9.2), (Vl (.int .i64 (iadd .i64 a0_2 a1_2)))], 40, none⟩]) [0] (sub_cons rfl sub_nil) (by decide) (pick_cons rfl pick_nil) ?_
  exact tx_ret1' Try.results47 rfl () (rv_cell_agg' (i := 0) (o := 0) (nn := 3) rfl ⟨rfl, rfl, rfl, rfl⟩ rfl agg40 rfl) (List.nil_sublist _)

def spec_Cross (k : Nat) (a0_0 : Bool) (a0_1 : List Int) (a0_2 : Int) (a0_3 : Bool) (a0_4 : List Int) (a0_5 : Int) (a1_0 : Bool) (a1_1 : List Int) (a1_2 : Int) (a1_3 : Bool) (a1_4 : List Int) (a1_5 : Int) (a2_0 : Bool) (a2_1 : List Int) (a2_2 : Int) (a2_3 : Bool) (a2_4 : List Int) (a2_5 : Int) : Option (Bool × (List Int) × Int) :=
  (spec_Dyadic_Sub k a1_0 a1_1 a1_2 a0_0 a0_1 a0_2) >>= fun r11 =>
  (spec_Dyadic_Sub k a2_3 a2_4 a2_5 a0_3 a0_4 a0_5) >>= fun r16 =>
  (spec_Dyadic_Mul k r11.1 r11.2.1 r11.2.2 r16.1 r16.2.1 r16.2.2) >>= fun r17 =>
  (spec_Dyadic_Sub k a1_3 a1_4 a1_5 a0_3 a0_4 a0_5) >>= fun r22 =>
  (spec_Dyadic_Sub k a2_0 a2_1 a2_2 a0_0 a0_1 a0_2) >>= fun r27 =>
  (spec_Dyadic_Mul k r22.1 r22.2.1 r22.2.2 r27.1 r27.2.1 r27.2.2) >>= fun r28 =>
  (spec_Dyadic_Sub k r17.1 r17.2.1 r17.2.2 r28.1 r28.2.1 r28.2.2) >>= fun r29 =>
  some (r29.1, r29.2.1, r29.2.2)

theorem spec_Cross_sim {k : Nat}  (a0_0 : Bool) (a0_1 : List Int) (a0_2 : Int) (a0_3 : Bool) (a0_4 : List Int) (a0_5 : Int) (a1_0 : Bool) (a1_1 : List Int) (a1_2 : Int) (a1_3 : Bool) (a1_4 : List Int) (a1_5 : Int) (a2_0 : Bool) (a2_1 : List Int) (a2_2 : Int) (a2_3 : Bool) (a2_4 : List Int) (a2_5 : Int) {out : Bool × (List Int) × Int} (hp : spec_Cross k a0_0 a0_1 a0_2 a0_3 a0_4 a0_5 a1_0 a1_1 a1_2 a1_3 a1_4 a1_5 a2_0 a2_1 a2_2 a2_3 a2_4 a2_5 = some out) : Go.Sx.Fn Try.prog 26 [(Ag [(Vl (.bool a0_0)), (Sl (Ki .u32) a0_1), (Vl (.int .i64 a0_2)), (Vl (.bool a0_3)), (Sl (Ki .u32) a0_4), (Vl (.int .i64 a0_5))]), (Ag [(Vl (.bool a1_0)), (Sl (Ki .u32) a1_1), (Vl (.int .i64 a1_2)), (Vl (.bool a1_3)), (Sl (Ki .u32) a1_4), (Vl (.int .i64 a1_5))]), (Ag [(Vl (.bool a2_0)), (Sl (Ki .u32) a2_1), (Vl (.int .i64 a2_2)), (Vl (.bool a2_3)), (Sl (Ki .u32) a2_4), (Vl (.int .i64 a2_5))])] [] (fun w : Unit => (Ag [(Vl (.bool out.1)), (Sl (Ki .u32) out.2.1), (Vl (.int .i64 out.2.2))])) (fun w => []) := by
  unfold spec_Cross at hp
  refine fn_of Try.func26 rfl Try.ntmps26 rfl fun E hM => ?_
  refine cx_seq' fun K1 hK1 => ?_
  refine cx_region' ?_
  refine sx_ox' (ox_box' rfl (lv_ag _) rfl rfl) (wt_none' rfl) fun q3 => ?_
  refine sx_ox' (ox_box' rfl (lv_ag _) rfl rfl) (wt_none' rfl) fun q4 => ?_
  refine sx_ox' (ox_box' rfl (lv_ag _) rfl rfl) (wt_none' rfl) fun q5 => ?_
  refine sx_ox' (ox_alloc' info40 rfl rfl rfl rfl (l := [(Vl (.bool false)), (Vl (.slice none 0 0)), (Vl (.int .i64 0))]) rfl) (wt_none' rfl) fun q6 => ?_
  refine sx_nil' ?_
  show TX E K1 _
  refine tx_k' hK1 ?_
  refine cx_seq' fun K2 hK2 => ?_
  refine cx_plan' [] [(23, 1)] [(0, 1), (1, 1), (2, 1), (3, 1), (5, 1), (6, 1), (7, 1), (8, 1), (11, 1), (12, 1), (13, 1), (14, 1), (16, 1), (17, 1), (18, 1), (19, 1), (4, 0), (9, 0), (10, 0), (15, 0), (20, 0), (21, 0), (22, 0), (23, 0)] mixed (by kernel_rfl) ?_
  refine px_rd' rfl (rd_field0' rfl Try.underlying54 rfl info40 rfl) rfl rfl (wt_none' rfl) ?_
  refine px_rd' rfl (rd_load_agg' (i := 2) (o := 0) (nn := 3) rfl ⟨rfl, rfl, rfl, rfl⟩ rfl agg40 (l' := [(Vl (.bool a1_0)), (Sl (Ki .u32) a1_1), (Vl (.int .i64 a1_2))]) rfl) rfl rfl (wt_none' rfl) ?_
  refine px_rd' rfl (rd_field0' rfl Try.underlying54 rfl info40 rfl) rfl rfl (wt_none' rfl) ?_
  refine px_rd' rfl (rd_load_agg' (i := 3) (o := 0) (nn := 3) rfl ⟨rfl, rfl, rfl, rfl⟩ rfl agg40 (l' := [(Vl (.bool a0_0)), (Sl (Ki .u32) a0_1), (Vl (.int .i64 a0_2))]) rfl) rfl rfl (wt_none' rfl) ?_
  refine px_rd' rfl (rd_field' (off := 3) rfl Try.underlying54 rfl info40 rfl) rfl rfl (wt_none' rfl) ?_
  refine px_rd' rfl (rd_load_agg' (i := 1) (o := 3) (nn := 3) rfl ⟨rfl, rfl, rfl, rfl⟩ rfl agg40 (l' := [(Vl (.bool a2_3)), (Sl (Ki .u32) a2_4), (Vl (.int .i64 a2_5))]) rfl) rfl rfl (wt_none' rfl) ?_
  refine px_rd' rfl (rd_field' (off := 3) rfl Try.underlying54 rfl info40 rfl) rfl rfl (wt_none' rfl) ?_
  refine px_rd' rfl (rd_load_agg' (i := 3) (o := 3) (nn := 3) rfl ⟨rfl, rfl, rfl, rfl⟩ rfl agg40 (l' := [(Vl (.bool a0_3)), (Sl (Ki .u32) a0_4), (Vl (.int .i64 a0_5))]) rfl) rfl rfl (wt_none' rfl) ?_
  refine px_rd' rfl (rd_field' (off := 3) rfl Try.underlying54 rfl info40 rfl) rfl rfl (wt_none' rfl) ?_
  refine px_rd' rfl (rd_load_agg' (i := 2) (o := 3) (nn := 3) rfl ⟨rfl, rfl, rfl, rfl⟩ rfl agg40 (l' := [(Vl (.bool a1_3)), (Sl (Ki .u32) a1_4), (Vl (.int .i64 a1_5))]) rfl) rfl rfl (wt_none' rfl) ?_
  refine px_rd' rfl (rd_field' (off := 3) rfl Try.underlying54 rfl info40 rfl) rfl rfl (wt_none' rfl) ?_
  refine px_rd' rfl (rd_load_agg' (i := 3) (o := 3) (nn := 3) rfl ⟨rfl, rfl, rfl, rfl⟩ rfl agg40 (l' := [(Vl (.bool a0_3)), (Sl (Ki .u32) a0_4), (Vl (.int .i64 a0_5))]) rfl) rfl rfl (wt_none' rfl) ?_
  refine px_rd' rfl (rd_field0' rfl Try.underlying54 rfl info40 rfl) rfl rfl (wt_none' rfl) ?_
  refine px_rd' rfl (rd_load_agg' (i := 1) (o := 0) (nn := 3) rfl ⟨rfl, rfl, rfl, rfl⟩ rfl agg40 (l' := [(Vl (.bool a2_0)), (Sl (Ki .u32) a2_1), (Vl (.int .i64 a2_2))]) rfl) rfl rfl (wt_none' rfl) ?_
  refine px_rd' rfl (rd_field0' rfl Try.underlying54 rfl info40 rfl) rfl rfl (wt_none' rfl) ?_
  refine px_rd' rfl (rd_load_agg' (i := 3) (o := 0) (nn := 3) rfl ⟨rfl, rfl, rfl, rfl⟩ rfl agg40 (l' := [(Vl (.bool a0_0)), (Sl (Ki .u32) a0_1), (Vl (.int .i64 a0_2))]) rfl) rfl rfl (wt_none' rfl) ?_
  obtain ⟨r11, hr11, hp⟩ := bind_some hp
  refine px_ox' rfl (ox_calln' (ent_fn' Try.func48 isn48 rfl rfl) (spec_Dyadic_Sub_sim _ _ _ _ _ _ hr11 : Go.Sx.Fn Try.prog 48 [(Ag [(Vl (.bool a1_0)), (Sl (Ki .u32) a1_1), (Vl (.int .i64 a1_2))]), (Ag [(Vl (.bool a0_0)), (Sl (Ki .u32) a0_1), (Vl (.int .i64 a0_2))])] [] (fun x : Unit => (Ag [(Vl (.bool r11.1)), (Sl (Ki .u32) r11.2.1), (Vl (.int .i64 r11.2.2))])) (fun x => [])) (Hn := fun x : Unit => [⟨.pointer (some q6), [(Vl (.bool false)), (Vl (.slice none 0 0)), (Vl (.int .i64 0))], 40, none⟩, ⟨.pointer (some q5), [(Vl (.bool a2_0)), (Sl (Ki .u32) a2_1), (Vl (.int .i64 a2_2)), (Vl (.bool a2_3)), (Sl (Ki .u32) a2_4), (Vl (.int .i64 a2_5))], 54, none⟩, ⟨.pointer (some q4), [(Vl (.bool a1_0)), (Sl (Ki .u32) a1_1), (Vl (.int .i64 a1_2)), (Vl (.bool a1_3)), (Sl (Ki .u32) a1_4), (Vl (.int .i64 a1_5))], 54, none⟩, ⟨.pointer (some q3), [(Vl (.bool a0_0)), (Sl (Ki .u32) a0_1), (Vl (.int .i64 a0_2)), (Vl (.bool a0_3)), (Sl (Ki .u32) a0_4), (Vl (.int .i64 a0_5))], 54, none⟩]) (fun _ => rfl) rfl rfl) rfl bs_nil (wt_none' rfl) fun ⟨⟩ => ?_
  obtain ⟨r16, hr16, hp⟩ := bind_some hp
  refine px_ox' rfl (ox_calln' (ent_fn' Try.func48 isn48 rfl rfl) (spec_Dyadic_Sub_sim _ _ _ _ _ _ hr16 : Go.Sx.Fn Try.prog 48 [(Ag [(Vl (.bool a2_3)), (Sl (Ki .u32) a2_4), (Vl (.int .i64 a2_5))]), (Ag [(Vl (.bool a0_3)), (Sl (Ki .u32) a0_4), (Vl (.int .i64 a0_5))])] [] (fun x : Unit => (Ag [(Vl (.bool r16.1)), (Sl (Ki .u32) r16.2.1), (Vl (.int .i64 r16.2.2))])) (fun x => [])) (Hn := fun x : Unit => [⟨.pointer (some q6), [(Vl (.bool false)), (Vl (.slice none 0 0)), (Vl (.int .i64 0))], 40, none⟩, ⟨.pointer (some q5), [(Vl (.bool a2_0)), (Sl (Ki .u32) a2_1), (Vl (.int .i64 a2_2)), (Vl (.bool a2_3)), (Sl (Ki .u32) a2_4), (Vl (.int .i64 a2_5))], 54, none⟩, ⟨.pointer (some q4), [(Vl (.bool a1_0)), (Sl (Ki .u32) a1_1), (Vl (.int .i64 a1_2)), (Vl (.bool a1_3)), (Sl (Ki .u32) a1_4), (Vl (.int .i64 a1_5))], 54, none⟩, ⟨.pointer (some q3), [(Vl (.bool a0_0)), (Sl (Ki .u32) a0_1), (Vl (.int .i64 a0_2)), (Vl (.bool a0_3)), (Sl (Ki .u32) a0_4), (Vl (.int .i64 a0_5))], 54, none⟩]) (fun _ => rfl) rfl rfl) rfl bs_nil (wt_none' rfl) fun ⟨⟩ => ?_
  obtain ⟨r17, hr17, hp⟩ := bind_some hp
  refine px_ox' rfl (ox_calln' (ent_fn' Try.func47 isn47 rfl rfl) (spec_Dyadic_Mul_sim _ _ _ _ _ _ hr17 : Go.Sx.Fn Try.prog 47 [(Ag [(Vl (.bool r11.1)), (Sl (Ki .u32) r11.2.1), (Vl (.int .i64 r11.2.2))]), (Ag [(Vl (.bool r16.1)), (Sl (Ki .u32) r16.2.1), (Vl (.int .i64 r16.2.2))])] [] (fun x : Unit => (Ag [(Vl (.bool r17.1)), (Sl (Ki .u32) r17.2.1), (Vl (.int .i64 r17.2.2))])) (fun x => [])) (Hn := fun x : Unit => [⟨.pointer (some q6), [(Vl (.bool false)), (Vl (.slice none 0 0)), (Vl (.int .i64 0))], 40, none⟩, ⟨.pointer (some q5), [(Vl (.bool a2_0)), (Sl (Ki .u32) a2_1), (Vl (.int .i64 a2_2)), (Vl (.bool a2_3)), (Sl (Ki .u32) a2_4), (Vl (.int .i64 a2_5))], 54, none⟩, ⟨.pointer (some q4), [(Vl (.bool a1_0)), (Sl (Ki .u32) a1_1), (Vl (.int .i64 a1_2)), (Vl (.bool a1_3)), (Sl (Ki .u32) a1_4), (Vl (.int .i64 a1_5))], 54, none⟩, ⟨.pointer (some q3), [(Vl (.bool a0_0)), (Sl (Ki .u32) a0_1), (Vl (.int .i64 a0_2)), (Vl (.bool a0_3)), (Sl (Ki .u32) a0_4), (Vl (.int .i64 a0_5))], 54, none⟩]) (fun _ => rfl) rfl rfl) rfl bs_nil (wt_none' rfl) fun ⟨⟩ => ?_
  obtain ⟨r22, hr22, hp⟩ := bind_some hp
  refine px_ox' rfl (ox_calln' (ent_fn' Try.func48 isn48 rfl rfl) (spec_Dyadic_Sub_sim _ _ _ _ _ _ hr22 : Go.Sx.Fn Try.prog 48 [(Ag [(Vl (.bool a1_3)), (Sl (Ki .u32) a1_4), (Vl (.int .i64 a1_5))]), (Ag [(Vl (.bool a0_3)), (Sl (Ki .u32) a0_4), (Vl (.int .i64 a0_5))])] [] (fun x : Unit => (Ag [(Vl (.bool r22.1)), (Sl (Ki .u32) r22.2.1), (Vl (.int .i64 r22.2.2))])) (fun x => [])) (Hn := fun x : Unit => [⟨.pointer (some q6), [(Vl (.bool false)), (Vl (.slice none 0 0)), (Vl (.int .i64 0))], 40, none⟩, ⟨.pointer (some q5), [(Vl (.bool a2_0)), (Sl (Ki .u32) a2_1), (Vl (.int .i64 a2_2)), (Vl (.bool a2_3)), (Sl (Ki .u32) a2_4), (Vl (.int .i64 a2_5))], 54, none⟩, ⟨.pointer (some q4), [(Vl (.bool a1_0)), (Sl (Ki .u32) a1_1), (Vl (.int .i64 a1_2)), (Vl (.bool a1_3)), (Sl (Ki .u32) a1_4), (Vl (.int .i64 a1_5))], 54, none⟩, ⟨.pointer (some q3), [(Vl (.bool a0_0)), (Sl (Ki .u32) a0_1), (Vl (.int .i64 a0_2)), (Vl (.bool a0_3)), (Sl (Ki .u32) a0_4), (Vl (.int .i64 a0_5))], 54, none⟩]) (fun _ => rfl) rfl rfl) rfl bs_nil (wt_none' rfl) fun ⟨⟩ => ?_
  obtain ⟨r27, hr27, hp⟩ := bind_some hp
  refine px_ox' rfl (ox_calln' (ent_fn' Try.func48 isn48 rfl rfl) (spec_Dyadic_Sub_sim _ _ _ _ _ _ hr27 : Go.Sx.Fn Try.prog 48 [(Ag [(Vl (.bool a2_0)), (Sl (Ki .u32) a2_1), (Vl (.int .i64 a2_2))]), (Ag [(Vl (.bool a0_0)), (Sl (Ki .u32) a0_1), (Vl (.int .i64 a0_2))])] [] (fun x : Unit => (Ag [(Vl (.bool r27.1)), (Sl (Ki .u32) r27.2.1), (Vl (.int .i64 r27.2.2))])) (fun x => [])) (Hn := fun x : Unit => [⟨.pointer (some q6), [(Vl (.bool false)), (Vl (.slice none 0 0)), (Vl (.int .i64 0))], 40, none⟩, ⟨.pointer (some q5), [(Vl (.bool a2_0)), (Sl (Ki .u32) a2_1), (Vl (.int .i64 a2_2)), (Vl (.bool a2_3)), (Sl (Ki .u32) a2_4), (Vl (.int .i64 a2_5))], 54, none⟩, ⟨.pointer (some q4), [(Vl (.bool a1_0)), (Sl (Ki .u32) a1_1), (Vl (.int .i64 a1_2)), (Vl (.bool a1_3)), (Sl (Ki .u32) a1_4), (Vl (.int .i64 a1_5))], 54, none⟩, ⟨.pointer (some q3), [(Vl (.bool a0_0)), (Sl (Ki .u32) a0_1), (Vl (.int .i64 a0_2)), (Vl (.bool a0_3)), (Sl (Ki .u32) a0_4), (Vl (.int .i64 a0_5))], 54, none⟩]) (fun _ => rfl) rfl rfl) rfl bs_nil (wt_none' rfl) fun ⟨⟩ => ?_
  obtain ⟨r28, hr28, hp⟩ := bind_some hp
  refine px_ox' rfl (ox_calln' (ent_fn' Try.func47 isn47 rfl rfl) (spec_Dyadic_Mul_sim _ _ _ _ _ _ hr28 : Go.Sx.Fn Try.prog 47 [(Ag [(Vl (.bool r22.1)), (Sl (Ki .u32) r22.2.1), (Vl (.int .i64 r22.2.2))]), (Ag [(Vl (.bool r27.1)), (Sl (Ki .u32) r27.2.1), (Vl (.int .i64 r27.2.2))])] [] (fun x : Unit => (Ag [(Vl (.bool r28.1)), (Sl (Ki .u32) r28.2.1), (Vl (.int .i64 r28.2.2))])) (fun x => [])) (Hn := fun x : Unit => [⟨.pointer (some q6), [(Vl (.bool false)), (Vl (.slice none 0 0)), (Vl (.int .i64 0))], 40, none⟩, ⟨.pointer (some q5), [(Vl (.bool a2_0)), (Sl (Ki .u32) a2_1), (Vl (.int .i64 a2_2)), (Vl (.bool a2_3)), (Sl (Ki .u32) a2_4), (Vl (.int .i64 a2_5))], 54, none⟩, ⟨.pointer (some q4), [(Vl (.bool a1_0)), (Sl (Ki .u32) a1_1), (Vl (.int .i64 a1_2)), (Vl (.bool a1_3)), (Sl (Ki .u32) a1_4), (Vl (.int .i64 a1_5))], 54, none⟩, ⟨.pointer (some q3), [(Vl (.bool a0_0)), (Sl (Ki .u32) a0_1), (Vl (.int .i64 a0_2)), (Vl (.bool a0_3)), (Sl (Ki .u32) a0_4), (Vl (.int .i64 a0_5))], 54, none⟩]) (fun _ => rfl) rfl rfl) rfl bs_nil (wt_none' rfl) fun ⟨⟩ => ?_
  obtain ⟨r29, hr29, hp⟩ := bind_some hp
  refine px_ox' rfl (ox_calln' (ent_fn' Try.func48 isn48 rfl rfl) (spec_Dyadic_Sub_sim _ _ _ _ _ _ hr29 : Go.Sx.Fn Try.prog 48 [(Ag [(Vl (.bool r17.1)), (Sl (Ki .u32) r17.2.1), (Vl (.int .i64 r17.2.2))]), (Ag [(Vl (.bool r28.1)), (Sl (Ki .u32) r28.2.1), (Vl (.int .i64 r28.2.2))])] [] (fun x : Unit => (Ag [(Vl (.bool r29.1)), (Sl (Ki .u32) r29.2.1), (Vl (.int .i64 r29.2.2))])) (fun x => [])) (Hn := fun x : Unit => [⟨.pointer (some q6), [(Vl (.bool false)), (Vl (.slice none 0 0)), (Vl (.int .i64 0))], 40, none⟩, ⟨.pointer (some q5), [(Vl (.bool a2_0)), (Sl (Ki .u32) a2_1), (Vl (.int .i64 a2_2)), (Vl (.bool a2_3)), (Sl (Ki .u32) a2_4), (Vl (.int .i64 a2_5))], 54, none⟩, ⟨.pointer (some q4), [(Vl (.bool a1_0)), (Sl (Ki .u32) a1_1), (Vl (.int .i64 a1_2)), (Vl (.bool a1_3)), (Sl (Ki .u32) a1_4), (Vl (.int .i64 a1_5))], 54, none⟩, ⟨.pointer (some q3), [(Vl (.bool a0_0)), (Sl (Ki .u32) a0_1), (Vl (.int .i64 a0_2)), (Vl (.bool a0_3)), (Sl (Ki .u32) a0_4), (Vl (.int .i64 a0_5))], 54, none⟩]) (fun _ => rfl) rfl rfl) rfl bs_nil (wt_none' rfl) fun ⟨⟩ => ?_
  refine px_oxv' rfl (oxv_store (i := 0) (o := 0) rfl rfl (lv_ag _) ⟨rfl, rfl, rfl, rfl⟩ rfl info40 rfl (H' := [⟨.pointer (some q6), [(Vl (.bool r29.1)), (Sl (Ki .u32) r29.2.1), (Vl (.int .i64 r29.2.2))], 40, none⟩, ⟨.pointer (some q5), [(Vl (.bool a2_0)), (Sl (Ki .u32) a2_1), (Vl (.int .i64 a2_2)), (Vl (.bool a2_3)), (Sl (Ki .u32) a2_4), (Vl (.int .i64 a2_5))], 54, none⟩, ⟨.pointer (some q4), [(Vl (.bool a1_0)), (Sl (Ki .u32) a1_1), (Vl (.int .i64 a1_2)), (Vl (.bool a1_3)), (Sl (Ki .u32) a1_4), (Vl (.int .i64 a1_5))], 54, none⟩, ⟨.pointer (some q3), [(Vl (.bool a0_0)), (Sl (Ki .u32) a0_1), (Vl (.int .i64 a0_2)), (Vl (.bool a0_3)), (Sl (Ki .u32) a0_4), (Vl (.int .i64 a0_5))], 54, none⟩]) rfl) rfl rfl bo_nil (wt_none' rfl) fun _ => ?_
  refine px_nil' ?_
  show TX E K2 _
  refine tx_k' hK2 ?_
  refine cx_retc' ?_
  replace hp := Option.some.inj hp
  subst hp
  refine tx_pick' (L' := [(6, (Vl (.pointer (some q6))))]) (H' := [⟨.pointer (some q6), [(Vl (.bool r29.1)), (Sl (Ki .u32) r29.2.1), (Vl (.int .i64 r29.2.2))], 40, none⟩]) [0] (sub_cons rfl sub_nil) (by decide) (pick_cons rfl pick_nil) ?_
  exact tx_ret1' Try.results26 rfl () (rv_cell_agg' (i := 0) (o := 0) (nn := 3) rfl ⟨rfl, rfl, rfl, rfl⟩ rfl agg40 rfl) (List.nil_sublist _)

def spec_Orient (k : Nat) (a0_0 : Bool) (a0_1 : List Int) (a0_2 : Int) (a0_3 : Bool) (a0_4 : List Int) (a0_5 : Int) (a1_0 : Bool) (a1_1 : List Int) (a1_2 : Int) (a1_3 : Bool) (a1_4 : List Int) (a1_5 : Int) (a2_0 : Bool) (a2_1 : List Int) (a2_2 : Int) (a2_3 : Bool) (a2_4 : List Int) (a2_5 : Int) : Option (Int) :=
  (spec_Cross k a0_0 a0_1 a0_2 a0_3 a0_4 a0_5 a1_0 a1_1 a1_2 a1_3 a1_4 a1_5 a2_0 a2_1 a2_2 a2_3 a2_4 a2_5) >>= fun r10 =>
  (spec_Dyadic_Sign k r10.1 r10.2.1 r10.2.2) >>= fun r11 =>
  some r11

theorem spec_Orient_sim {k : Nat}  (a0_0 : Bool) (a0_1 : List Int) (a0_2 : Int) (a0_3 : Bool) (a0_4 : List Int) (a0_5 : Int) (a1_0 : Bool) (a1_1 : List Int) (a1_2 : Int) (a1_3 : Bool) (a1_4 : List Int) (a1_5 : Int) (a2_0 : Bool) (a2_1 : List Int) (a2_2 : Int) (a2_3 : Bool) (a2_4 : List Int) (a2_5 : Int) {out : Int} (hp : spec_Orient k a0_0 a0_1 a0_2 a0_3 a0_4 a0_5 a1_0 a1_1 a1_2 a1_3 a1_4 a1_5 a2_0 a2_1 a2_2 a2_3 a2_4 a2_5 = some out) : Go.Sx.Fn Try.prog 57 [(Ag [(Vl (.bool a0_0)), (Sl (Ki .u32) a0_1), (Vl (.int .i64 a0_2)), (Vl (.bool a0_3)), (Sl (Ki .u32) a0_4), (Vl (.int .i64 a0_5))]), (Ag [(Vl (.bool a1_0)), (Sl (Ki .u32) a1_1), (Vl (.int .i64 a1_2)), (Vl (.bool a1_3)), (Sl (Ki .u32) a1_4), (Vl (.int .i64 a1_5))]), (Ag [(Vl (.bool a2_0)), (Sl (Ki .u32) a2_1), (Vl (.int .i64 a2_2)), (Vl (.bool a2_3)), (Sl (Ki .u32) a2_4), (Vl (.int .i64 a2_5))])] [] (fun w : Unit => (Vl (.int .i64 out))) (fun w => []) := by
  unfold spec_Orient at hp
  refine fn_of Try.func57 rfl Try.ntmps57 rfl fun E hM => ?_
  refine cx_seq' fun K1 hK1 => ?_
  refine cx_region' ?_
  refine sx_ox' (ox_box' rfl (lv_ag _) rfl rfl) (wt_none' rfl) fun q3 => ?_
  refine sx_ox' (ox_box' rfl (lv_ag _) rfl rfl) (wt_none' rfl) fun q4 => ?_
  refine sx_ox' (ox_box' rfl (lv_ag _) rfl rfl) (wt_none' rfl) fun q5 => ?_
  refine sx_rd' (rd_assign' rfl) rfl rfl (wt_none' rfl) ?_
  refine sx_nil' ?_
  show TX E K1 _
  refine tx_k' hK1 ?_
  refine cx_seq' fun K2 hK2 => ?_
  refine cx_region' ?_
  refine sx_rd' (rd_load_agg' (i := 2) (o := 0) (nn := 6) rfl ⟨rfl, rfl, rfl, rfl⟩ rfl agg54 (l' := [(Vl (.bool a0_0)), (Sl (Ki .u32) a0_1), (Vl (.int .i64 a0_2)), (Vl (.bool a0_3)), (Sl (Ki .u32) a0_4), (Vl (.int .i64 a0_5))]) rfl) rfl rfl (wt_none' rfl) ?_
  refine sx_rd' (rd_load_agg' (i := 1) (o := 0) (nn := 6) rfl ⟨rfl, rfl, rfl, rfl⟩ rfl agg54 (l' := [(Vl (.bool a1_0)), (Sl (Ki .u32) a1_1), (Vl (.int .i64 a1_2)), (Vl (.bool a1_3)), (Sl (Ki .u32) a1_4), (Vl (.int .i64 a1_5))]) rfl) rfl rfl (wt_none' rfl) ?_
  refine sx_rd' (rd_load_agg' (i := 0) (o := 0) (nn := 6) rfl ⟨rfl, rfl, rfl, rfl⟩ rfl agg54 (l' := [(Vl (.bool a2_0)), (Sl (Ki .u32) a2_1), (Vl (.int .i64 a2_2)), (Vl (.bool a2_3)), (Sl (Ki .u32) a2_4), (Vl (.int .i64 a2_5))]) rfl) rfl rfl (wt_none' rfl) ?_
  obtain ⟨r10, hr10, hp⟩ := bind_some hp
  refine sx_ox' (ox_calln' (ent_fn' Try.func26 isn26 rfl rfl) (spec_Cross_sim _ _ _ _ _ _ _ _ _ _ _ _ _ _ _ _ _ _ hr10 : Go.Sx.Fn Try.prog 26 [(Ag [(Vl (.bool a0_0)), (Sl (Ki .u32) a0_1), (Vl (.int .i64 a0_2)), (Vl (.bool a0_3)), (Sl (Ki .u32) a0_4), (Vl (.int .i64 a0_5))]), (Ag [(Vl (.bool a1_0)), (Sl (Ki .u32) a1_1), (Vl (.int .i64 a1_2)), (Vl (.bool a1_3)), (Sl (Ki .u32) a1_4), (Vl (.int .i64 a1_5))]), (Ag [(Vl (.bool a2_0)), (Sl (Ki .u32) a2_1), (Vl (.int .i64 a2_2)), (Vl (.bool a2_3)), (Sl (Ki .u32) a2_4), (Vl (.int .i64 a2_5))])] [] (fun x : Unit => (Ag [(Vl (.bool r10.1)), (Sl (Ki .u32) r10.2.1), (Vl (.int .i64 r10.2.2))])) (fun x => [])) (Hn := fun x : Unit => [⟨.pointer (some q5), [(Vl (.bool a2_0)), (Sl (Ki .u32) a2_1), (Vl (.int .i64 a2_2)), (Vl (.bool a2_3)), (Sl (Ki .u32) a2_4), (Vl (.int .i64 a2_5))], 54, none⟩, ⟨.pointer (some q4), [(Vl (.bool a1_0)), (Sl (Ki .u32) a1_1), (Vl (.int .i64 a1_2)), (Vl (.bool a1_3)), (Sl (Ki .u32) a1_4), (Vl (.int .i64 a1_5))], 54, none⟩, ⟨.pointer (some q3), [(Vl (.bool a0_0)), (Sl (Ki .u32) a0_1), (Vl (.int .i64 a0_2)), (Vl (.bool a0_3)), (Sl (Ki .u32) a0_4), (Vl (.int .i64 a0_5))], 54, none⟩]) (fun _ => rfl) rfl rfl) (wt_none' rfl) fun ⟨⟩ => ?_
  obtain ⟨r11, hr11, hp⟩ := bind_some hp
  refine sx_ox' (ox_calln' (ent_fn' Try.func49 isn49 rfl rfl) (spec_Dyadic_Sign_sim _ _ _ hr11 : Go.Sx.Fn Try.prog 49 [(Ag [(Vl (.bool r10.1)), (Sl (Ki .u32) r10.2.1), (Vl (.int .i64 r10.2.2))])] [] (fun x : Unit => (Vl (.int .i64 r11))) (fun x => [])) (Hn := fun x : Unit => [⟨.pointer (some q5), [(Vl (.bool a2_0)), (Sl (Ki .u32) a2_1), (Vl (.int .i64 a2_2)), (Vl (.bool a2_3)), (Sl (Ki .u32) a2_4), (Vl (.int .i64 a2_5))], 54, none⟩, ⟨.pointer (some q4), [(Vl (.bool a1_0)), (Sl (Ki .u32) a1_1), (Vl (.int .i64 a1_2)), (Vl (.bool a1_3)), (Sl (Ki .u32) a1_4), (Vl (.int .i64 a1_5))], 54, none⟩, ⟨.pointer (some q3), [(Vl (.bool a0_0)), (Sl (Ki .u32) a0_1), (Vl (.int .i64 a0_2)), (Vl (.bool a0_3)), (Sl (Ki .u32) a0_4), (Vl (.int .i64 a0_5))], 54, none⟩]) (fun _ => rfl) rfl rfl) (wt_none' rfl) fun ⟨⟩ => ?_
  refine sx_rd' (rd_assign' rfl) rfl rfl (wt_none' rfl) ?_
  refine sx_nil' ?_
  show TX E K2 _
  refine tx_k' hK2 ?_
  refine cx_retc' ?_
  replace hp := Option.some.inj hp
  subst hp
  refine tx_pick' (L' := [(6, (Vl (.int .i64 r11)))]) (H' := []) [] (sub_cons rfl sub_nil) (by decide) pick_nil ?_
  exact tx_ret1' Try.results57 rfl () (rv_tmp' rfl) (List.Sublist.refl _)

def spec_Dyadic_Cmp (k : Nat) (a0_0 : Bool) (a0_1 : List Int) (a0_2 : Int) (a1_0 : Bool) (a1_1 : List Int) (a1_2 : Int) : Option (Int) :=
  (spec_Dyadic_Sub k a0_0 a0_1 a0_2 a1_0 a1_1 a1_2) >>= fun r7 =>
  (spec_Dyadic_Sign k r7.1 r7.2.1 r7.2.2) >>= fun r8 =>
  some r8

theorem spec_Dyadic_Cmp_sim {k : Nat}  (a0_0 : Bool) (a0_1 : List Int) (a0_2 : Int) (a1_0 : Bool) (a1_1 : List Int) (a1_2 : Int) {out : Int} (hp : spec_Dyadic_Cmp k a0_0 a0_1 a0_2 a1_0 a1_1 a1_2 = some out) : Go.Sx.Fn Try.prog 89 [(Ag [(Vl (.bool a0_0)), (Sl (Ki .u32) a0_1), (Vl (.int .i64 a0_2))]), (Ag [(Vl (.bool a1_0)), (Sl (Ki .u32) a1_1), (Vl (.int .i64 a1_2))])] [] (fun w : Unit => (Vl (.int .i64 out))) (fun w => []) := by
  unfold spec_Dyadic_Cmp at hp
  refine fn_of Try.func89 rfl Try.ntmps89 rfl fun E hM => ?_
  refine cx_seq' fun K1 hK1 => ?_
  refine cx_region' ?_
  refine sx_ox' (ox_box' rfl (lv_ag _) rfl rfl) (wt_none' rfl) fun q2 => ?_
  refine sx_ox' (ox_box' rfl (lv_ag _) rfl rfl) (wt_none' rfl) fun q3 => ?_
  refine sx_rd' (rd_assign' rfl) rfl rfl (wt_none' rfl) ?_
  refine sx_nil' ?_
  show TX E K1 _
  refine tx_k' hK1 ?_
  refine cx_seq' fun K2 hK2 => ?_
  refine cx_region' ?_
  refine sx_rd' (rd_load_agg' (i := 1) (o := 0) (nn := 3) rfl ⟨rfl, rfl, rfl, rfl⟩ rfl agg40 (l' := [(Vl (.bool a0_0)), (Sl (Ki .u32) a0_1), (Vl (.int .i64 a0_2))]) rfl) rfl rfl (wt_none' rfl) ?_
  refine sx_rd' (rd_load_agg' (i := 0) (o := 0) (nn := 3) rfl ⟨rfl, rfl, rfl, rfl⟩ rfl agg40 (l' := [(Vl (.bool a1_0)), (Sl (Ki .u32) a1_1), (Vl (.int .i64 a1_2))]) rfl) rfl rfl (wt_none' rfl) ?_
  obtain ⟨r7, hr7, hp⟩ := bind_some hp
  refine sx_ox' (ox_calln' (ent_fn' Try.func48 isn48 rfl rfl) (spec_Dyadic_Sub_sim _ _ _ _ _ _ hr7 : Go.Sx.Fn Try.prog 48 [(Ag [(Vl (.bool a0_0)), (Sl (Ki .u32) a0_1), (Vl (.int .i64 a0_2))]), (Ag [(Vl (.bool a1_0)), (Sl (Ki .u32) a1_1), (Vl (.int .i64 a1_2))])] [] (fun x : Unit => (Ag [(Vl (.bool r7.1)), (Sl (Ki .u32) r7.2.1), (Vl (.int .i64 r7.2.2))])) (fun x => [])) (Hn := fun x : Unit => [⟨.pointer (some q3), [(Vl (.bool a1_0)), (Sl (Ki .u32) a1_1), (Vl (.int .i64 a1_2))], 40, none⟩, ⟨.pointer (some q2), [(Vl (.bool a0_0)), (Sl (Ki .u32) a0_1), (Vl (.int .i64 a0_2))], 40, none⟩]) (fun _ => rfl) rfl rfl) (wt_none' rfl) fun ⟨⟩ => ?_
  obtain ⟨r8, hr8, hp⟩ := bind_some hp
  refine sx_ox' (ox_calln' (ent_fn' Try.func49 isn49 rfl rfl) (spec_Dyadic_Sign_sim _ _ _ hr8 : Go.Sx.Fn Try.prog 49 [(Ag [(Vl (.bool r7.1)), (Sl (Ki .u32) r7.2.1), (Vl (.int .i64 r7.2.2))])] [] (fun x : Unit => (Vl (.int .i64 r8))) (fun x => [])) (Hn := fun x : Unit => [⟨.pointer (some q3), [(Vl (.bool a1_0)), (Sl (Ki .u32) a1_1), (Vl (.int .i64 a1_2))], 40, none⟩, ⟨.pointer (some q2), [(Vl (.bool a0_0)), (Sl (Ki .u32) a0_1), (Vl (.int .i64 a0_2))], 40, none⟩]) (fun _ => rfl) rfl rfl) (wt_none' rfl) fun ⟨⟩ => ?_
  refine sx_rd' (rd_assign' rfl) rfl rfl (wt_none' rfl) ?_
  refine sx_nil' ?_
  show TX E K2 _
  refine tx_k' hK2 ?_
  refine cx_retc' ?_
  replace hp := Option.some.inj hp
  subst hp
  refine tx_pick' (L' := [(4, (Vl (.int .i64 r8)))]) (H' := []) [] (sub_cons rfl sub_nil) (by decide) pick_nil ?_
  exact tx_ret1' Try.results89 rfl () (rv_tmp' rfl) (List.Sublist.refl _)

def spec_Between_j3 (k : Nat) (x3 : Bool) : Option (Bool) :=
  some x3
def spec_Between_j2 (k : Nat) (x2 : Bool) : Option (Bool) :=
  spec_Between_j3 k x2
def spec_Between_j1 (k : Nat) (a1_0 : Bool) (a1_1 : List Int) (a1_2 : Int) (a2_0 : Bool) (a2_1 : List Int) (a2_2 : Int) (a0_0 : Bool) (a0_1 : List Int) (a0_2 : Int) (x1 : Bool) : Option (Bool) :=
  br x1
    (spec_Between_j3 k true)
    ((spec_Dyadic_Cmp k a1_0 a1_1 a1_2 a2_0 a2_1 a2_2) >>= fun r20 =>
    br (decide (r20 ≤ 0))
      ((spec_Dyadic_Cmp k a2_0 a2_1 a2_2 a0_0 a0_1 a0_2) >>= fun r25 =>
      spec_Between_j2 k (decide (r25 ≤ 0)))
      (spec_Between_j2 k false))
def spec_Between (k : Nat) (a0_0 : Bool) (a0_1 : List Int) (a0_2 : Int) (a1_0 : Bool) (a1_1 : List Int) (a1_2 : Int) (a2_0 : Bool) (a2_1 : List Int) (a2_2 : Int) : Option (Bool) :=
  (spec_Dyadic_Cmp k a0_0 a0_1 a0_2 a2_0 a2_1 a2_2) >>= fun r9 =>
  br (decide (r9 ≤ 0))
    ((spec_Dyadic_Cmp k a2_0 a2_1 a2_2 a1_0 a1_1 a1_2) >>= fun r14 =>
    spec_Between_j1 k a1_0 a1_1 a1_2 a2_0 a2_1 a2_2 a0_0 a0_1 a0_2 (decide (r14 ≤ 0)))
    (spec_Between_j1 k a1_0 a1_1 a1_2 a2_0 a2_1 a2_2 a0_0 a0_1 a0_2 false)

theorem spec_Between_sim {k : Nat}  (a0_0 : Bool) (a0_1 : List Int) (a0_2 : Int) (a1_0 : Bool) (a1_1 : List Int) (a1_2 : Int) (a2_0 : Bool) (a2_1 : List Int) (a2_2 : Int) {out : Bool} (hp : spec_Between k a0_0 a0_1 a0_2 a1_0 a1_1 a1_2 a2_0 a2_1 a2_2 = some out) : Go.Sx.Fn Try.prog 111 [(Ag [(Vl (.bool a0_0)), (Sl (Ki .u32) a0_1), (Vl (.int .i64 a0_2))]), (Ag [(Vl (.bool a1_0)), (Sl (Ki .u32) a1_1), (Vl (.int .i64 a1_2))]), (Ag [(Vl (.bool a2_0)), (Sl (Ki .u32) a2_1), (Vl (.int .i64 a2_2))])] [] (fun w : Unit => (Vl (.bool out))) (fun w => []) := by
  unfold spec_Between at hp
  refine fn_of Try.func111 rfl Try.ntmps111 rfl fun E hM => ?_
  refine cx_seq' fun K1 hK1 => ?_
  refine cx_region' ?_
  refine sx_ox' (ox_box' rfl (lv_ag _) rfl rfl) (wt_none' rfl) fun q3 => ?_
  refine sx_ox' (ox_box' rfl (lv_ag _) rfl rfl) (wt_none' rfl) fun q4 => ?_
  refine sx_ox' (ox_box' rfl (lv_ag _) rfl rfl) (wt_none' rfl) fun q5 => ?_
  refine sx_rd' (rd_assign' rfl) rfl rfl (wt_none' rfl) ?_
  refine sx_nil' ?_
  show TX E K1 _
  refine tx_k' hK1 ?_
  refine cx_seq' fun K2 hK2 => ?_
  refine cx_region' ?_
  refine sx_rd' (rd_load_agg' (i := 2) (o := 0) (nn := 3) rfl ⟨rfl, rfl, rfl, rfl⟩ rfl agg40 (l' := [(Vl (.bool a0_0)), (Sl (Ki .u32) a0_1), (Vl (.int .i64 a0_2))]) rfl) rfl rfl (wt_none' rfl) ?_
  refine sx_rd' (rd_load_agg' (i := 0) (o := 0) (nn := 3) rfl ⟨rfl, rfl, rfl, rfl⟩ rfl agg40 (l' := [(Vl (.bool a2_0)), (Sl (Ki .u32) a2_1), (Vl (.int .i64 a2_2))]) rfl) rfl rfl (wt_none' rfl) ?_
  obtain ⟨r9, hr9, hp⟩ := bind_some hp
  refine sx_ox' (ox_calln' (ent_fn' Try.func89 isn89 rfl rfl) (spec_Dyadic_Cmp_sim _ _ _ _ _ _ hr9 : Go.Sx.Fn Try.prog 89 [(Ag [(Vl (.bool a0_0)), (Sl (Ki .u32) a0_1), (Vl (.int .i64 a0_2))]), (Ag [(Vl (.bool a2_0)), (Sl (Ki .u32) a2_1), (Vl (.int .i64 a2_2))])] [] (fun x : Unit => (Vl (.int .i64 r9))) (fun x => [])) (Hn := fun x : Unit => [⟨.pointer (some q5), [(Vl (.bool a2_0)), (Sl (Ki .u32) a2_1), (Vl (.int .i64 a2_2))], 40, none⟩, ⟨.pointer (some q4), [(Vl (.bool a1_0)), (Sl (Ki .u32) a1_1), (Vl (.int .i64 a1_2))], 40, none⟩, ⟨.pointer (some q3), [(Vl (.bool a0_0)), (Sl (Ki .u32) a0_1), (Vl (.int .i64 a0_2))], 40, none⟩]) (fun _ => rfl) rfl rfl) (wt_none' rfl) fun ⟨⟩ => ?_
  refine sx_rd' (rd_bin' rfl rfl eg_int ru_leq) rfl rfl (wt_none' rfl) ?_
  refine sx_rd' (rd_move' rfl) rfl rfl (wt_none' rfl) ?_
  refine sx_cutn' 5 (fun (v1 : Bool) => (⟨29, [], [(3, (Vl (.pointer (some q3)))), (4, (Vl (.pointer (some q4)))), (5, (Vl (.pointer (some q5)))), (16, (Vl (.bool v1)))], [⟨.pointer (some q3), [(Vl (.bool a0_0)), (Sl (Ki .u32) a0_1), (Vl (.int .i64 a0_2))], 40, none⟩, ⟨.pointer (some q4), [(Vl (.bool a1_0)), (Sl (Ki .u32) a1_1), (Vl (.int .i64 a1_2))], 40, none⟩, ⟨.pointer (some q5), [(Vl (.bool a2_0)), (Sl (Ki .u32) a2_1), (Vl (.int .i64 a2_2))], 40, none⟩]⟩ : St)) (fun (v1 : Bool) => spec_Between_j1 k a1_0 a1_1 a1_2 a2_0 a2_1 a2_2 a0_0 a0_1 a0_2 v1 = some out) ?_ ?_
  · rintro x1 hp
    replace hp : spec_Between_j1 k a1_0 a1_1 a1_2 a2_0 a2_1 a2_2 a0_0 a0_1 a0_2 x1 = some out := hp
    unfold spec_Between_j1 at hp
    refine sx_rd' (rd_move' rfl) rfl rfl (wt_none' rfl) ?_
    refine sx_cutn' 11 (fun (v3 : Bool) => (⟨29, [], [(28, (Vl (.bool v3)))], []⟩ : St)) (fun (v3 : Bool) => spec_Between_j3 k v3 = some out) ?_ ?_
    · rintro x3 hp
      replace hp : spec_Between_j3 k x3 = some out := hp
      unfold spec_Between_j3 at hp
      refine sx_rd' (rd_assign' rfl) rfl rfl (wt_none' rfl) ?_
      refine sx_nil' ?_
      show TX E K2 _
      refine tx_k' hK2 ?_
      refine cx_retc' ?_
      replace hp := Option.some.inj hp
      subst hp
      refine tx_pick' (L' := [(6, (Vl (.bool x3)))]) (H' := []) [] (sub_cons rfl sub_nil) (by decide) pick_nil ?_
      exact tx_ret1' Try.results111 rfl () (rv_tmp' rfl) (List.Sublist.refl _)
    · intro K5 hK5
      rcases br_cases hp with ⟨h2, hp⟩ | ⟨h2, hp⟩
      · refine sx_skip' rfl rfl (wt_is' (wt_guard' rfl rfl rfl) (beq_tf h2)) ?_
        refine sx_skip' rfl rfl (wt_is' (wt_guard' rfl rfl rfl) (beq_tf h2)) ?_
        refine sx_skip' rfl rfl (wt_is' (wt_guard' rfl rfl rfl) (beq_tf h2)) ?_
        refine sx_skip' rfl rfl (wt_is' (wt_guard' rfl rfl rfl) (beq_tf h2)) ?_
        refine sx_skip' rfl rfl (wt_is' (wt_guard' rfl rfl rfl) (beq_tf h2)) ?_
        refine sx_skip' rfl rfl (wt_undef' rfl rfl rfl) ?_
        refine sx_skip' rfl rfl (wt_undef' rfl rfl rfl) ?_
        refine sx_skip' rfl rfl (wt_undef' rfl rfl rfl) ?_
        refine sx_skip' rfl rfl (wt_undef' rfl rfl rfl) ?_
        refine sx_skip' rfl rfl (wt_is' (wt_guard' rfl rfl rfl) (beq_tf h2)) ?_
        refine sx_rd' (rd_pick_true' rfl h2 rfl) rfl rfl (wt_none' rfl) ?_
        refine sx_nil' ?_
        show TX E K5 _
        exact tx_pick' [] (sub_cons rfl sub_nil) (by decide) pick_nil (hK5 true hp)
      · refine sx_rd' (rd_load_agg' (i := 1) (o := 0) (nn := 3) rfl ⟨rfl, rfl, rfl, rfl⟩ rfl agg40 (l' := [(Vl (.bool a1_0)), (Sl (Ki .u32) a1_1), (Vl (.int .i64 a1_2))]) rfl) rfl rfl (wt_is' (wt_guard' rfl rfl rfl) (beq_ff h2)) ?_
        refine sx_rd' (rd_load_agg' (i := 2) (o := 0) (nn := 3) rfl ⟨rfl, rfl, rfl, rfl⟩ rfl agg40 (l' := [(Vl (.bool a2_0)), (Sl (Ki .u32) a2_1), (Vl (.int .i64 a2_2))]) rfl) rfl rfl (wt_is' (wt_guard' rfl rfl rfl) (beq_ff h2)) ?_
        obtain ⟨r20, hr20, hp⟩ := bind_some hp
        refine sx_ox' (ox_calln' (ent_fn' Try.func89 isn89 rfl rfl) (spec_Dyadic_Cmp_sim _ _ _ _ _ _ hr20 : Go.Sx.Fn Try.prog 89 [(Ag [(Vl (.bool a1_0)), (Sl (Ki .u32) a1_1), (Vl (.int .i64 a1_2))]), (Ag [(Vl (.bool a2_0)), (Sl (Ki .u32) a2_1), (Vl (.int .i64 a2_2))])] [] (fun x : Unit => (Vl (.int .i64 r20))) (fun x => [])) (Hn := fun x : Unit => [⟨.pointer (some q3), [(Vl (.bool a0_0)), (Sl (Ki .u32) a0_1), (Vl (.int .i64 a0_2))], 40, none⟩, ⟨.pointer (some q4), [(Vl (.bool a1_0)), (Sl (Ki .u32) a1_1), (Vl (.int .i64 a1_2))], 40, none⟩, ⟨.pointer (some q5), [(Vl (.bool a2_0)), (Sl (Ki .u32) a2_1), (Vl (.int .i64 a2_2))], 40, none⟩]) (fun _ => rfl) rfl rfl) (wt_is' (wt_guard' rfl rfl rfl) (beq_ff h2)) fun ⟨⟩ => ?_
        refine sx_rd' (rd_bin' rfl rfl eg_int ru_leq) rfl rfl (wt_is' (wt_guard' rfl rfl rfl) (beq_ff h2)) ?_
        refine sx_rd' (rd_move' rfl) rfl rfl (wt_is' (wt_guard' rfl rfl rfl) (beq_ff h2)) ?_
        refine sx_cutn' 6 (fun (v2 : Bool) => (⟨29, [], [(28, (Vl (.bool v2)))], []⟩ : St)) (fun (v2 : Bool) => spec_Between_j2 k v2 = some out) ?_ ?_
        · rintro x2 hp
          replace hp : spec_Between_j2 k x2 = some out := hp
          unfold spec_Between_j2 at hp
          refine sx_nil' ?_
          show TX E K5 _
          exact tx_pick' [] (sub_cons rfl sub_nil) (by decide) pick_nil (hK5 x2 hp)
        · intro K4 hK4
          rcases br_cases hp with ⟨h3, hp⟩ | ⟨h3, hp⟩
          · refine sx_rd' (rd_load_agg' (i := 2) (o := 0) (nn := 3) rfl ⟨rfl, rfl, rfl, rfl⟩ rfl agg40 (l' := [(Vl (.bool a2_0)), (Sl (Ki .u32) a2_1), (Vl (.int .i64 a2_2))]) rfl) rfl rfl (wt_is' (wt_guard' rfl rfl rfl) (beq_tt h3)) ?_
            refine sx_rd' (rd_load_agg' (i := 0) (o := 0) (nn := 3) rfl ⟨rfl, rfl, rfl, rfl⟩ rfl agg40 (l' := [(Vl (.bool a0_0)), (Sl (Ki .u32) a0_1), (Vl (.int .i64 a0_2))]) rfl) rfl rfl (wt_is' (wt_guard' rfl rfl rfl) (beq_tt h3)) ?_
            obtain ⟨r25, hr25, hp⟩ := bind_some hp
            refine sx_ox' (ox_calln' (ent_fn' Try.func89 isn89 rfl rfl) (spec_Dyadic_Cmp_sim _ _ _ _ _ _ hr25 : Go.Sx.Fn Try.prog 89 [(Ag [(Vl (.bool a2_0)), (Sl (Ki .u32) a2_1), (Vl (.int .i64 a2_2))]), (Ag [(Vl (.bool a0_0)), (Sl (Ki .u32) a0_1), (Vl (.int .i64 a0_2))])] [] (fun x : Unit => (Vl (.int .i64 r25))) (fun x => [])) (Hn := fun x : Unit => [⟨.pointer (some q3), [(Vl (.bool a0_0)), (Sl (Ki .u32) a0_1), (Vl (.int .i64 a0_2))], 40, none⟩, ⟨.pointer (some q4), [(Vl (.bool a1_0)), (Sl (Ki .u32) a1_1), (Vl (.int .i64 a1_2))], 40, none⟩, ⟨.pointer (some q5), [(Vl (.bool a2_0)), (Sl (Ki .u32) a2_1), (Vl (.int .i64 a2_2))], 40, none⟩]) (fun _ => rfl) rfl rfl) (wt_is' (wt_guard' rfl rfl rfl) (beq_tt h3)) fun ⟨⟩ => ?_
            refine sx_rd' (rd_bin' rfl rfl eg_int ru_leq) rfl rfl (wt_is' (wt_guard' rfl rfl rfl) (beq_tt h3)) ?_
            refine sx_rd' (rd_pick_true' rfl h3 rfl) rfl rfl (wt_is' (wt_guard' rfl rfl rfl) (beq_ff h2)) ?_
            refine sx_rd' (rd_pick_false' rfl h2 rfl) rfl rfl (wt_none' rfl) ?_
            refine sx_nil' ?_
            show TX E K4 _
            exact tx_pick' [] (sub_cons rfl sub_nil) (by decide) pick_nil (hK4 (decide (r25 ≤ 0)) hp)
          · refine sx_skip' rfl rfl (wt_is' (wt_guard' rfl rfl rfl) (beq_ft h3)) ?_
            refine sx_skip' rfl rfl (wt_is' (wt_guard' rfl rfl rfl) (beq_ft h3)) ?_
            refine sx_skip' rfl rfl (wt_is' (wt_guard' rfl rfl rfl) (beq_ft h3)) ?_
            refine sx_skip' rfl rfl (wt_is' (wt_guard' rfl rfl rfl) (beq_ft h3)) ?_
            refine sx_rd' (rd_pick_false' rfl h3 rfl) rfl rfl (wt_is' (wt_guard' rfl rfl rfl) (beq_ff h2)) ?_
            refine sx_rd' (rd_pick_false' rfl h2 rfl) rfl rfl (wt_none' rfl) ?_
            refine sx_nil' ?_
            show TX E K4 _
            exact tx_pick' [] (sub_cons rfl sub_nil) (by decide) pick_nil (hK4 false hp)
  · intro K3 hK3
    rcases br_cases hp with ⟨h1, hp⟩ | ⟨h1, hp⟩
    · refine sx_rd' (rd_load_agg' (i := 0) (o := 0) (nn := 3) rfl ⟨rfl, rfl, rfl, rfl⟩ rfl agg40 (l' := [(Vl (.bool a2_0)), (Sl (Ki .u32) a2_1), (Vl (.int .i64 a2_2))]) rfl) rfl rfl (wt_is' (wt_guard' rfl rfl rfl) (beq_tt h1)) ?_
      refine sx_rd' (rd_load_agg' (i := 1) (o := 0) (nn := 3) rfl ⟨rfl, rfl, rfl, rfl⟩ rfl agg40 (l' := [(Vl (.bool a1_0)), (Sl (Ki .u32) a1_1), (Vl (.int .i64 a1_2))]) rfl) rfl rfl (wt_is' (wt_guard' rfl rfl rfl) (beq_tt h1)) ?_
      obtain ⟨r14, hr14, hp⟩ := bind_some hp
      refine sx_ox' (ox_calln' (ent_fn' Try.func89 isn89 rfl rfl) (spec_Dyadic_Cmp_sim _ _ _ _ _ _ hr14 : Go.Sx.Fn Try.prog 89 [(Ag [(Vl (.bool a2_0)), (Sl (Ki .u32) a2_1), (Vl (.int .i64 a2_2))]), (Ag [(Vl (.bool a1_0)), (Sl (Ki .u32) a1_1), (Vl (.int .i64 a1_2))])] [] (fun x : Unit => (Vl (.int .i64 r14))) (fun x => [])) (Hn := fun x : Unit => [⟨.pointer (some q5), [(Vl (.bool a2_0)), (Sl (Ki .u32) a2_1), (Vl (.int .i64 a2_2))], 40, none⟩, ⟨.pointer (some q4), [(Vl (.bool a1_0)), (Sl (Ki .u32) a1_1), (Vl (.int .i64 a1_2))], 40, none⟩, ⟨.pointer (some q3), [(Vl (.bool a0_0)), (Sl (Ki .u32) a0_1), (Vl (.int .i64 a0_2))], 40, none⟩]) (fun _ => rfl) rfl rfl) (wt_is' (wt_guard' rfl rfl rfl) (beq_tt h1)) fun ⟨⟩ => ?_
      refine sx_rd' (rd_bin' rfl rfl eg_int ru_leq) rfl rfl (wt_is' (wt_guard' rfl rfl rfl) (beq_tt h1)) ?_
      refine sx_rd' (rd_pick_true' rfl h1 rfl) rfl rfl (wt_none' rfl) ?_
      refine sx_nil' ?_
      show TX E K3 _
      exact tx_pick' [2, 1, 0] (sub_cons rfl (sub_cons rfl (sub_cons rfl (sub_cons rfl sub_nil)))) (by decide) (pick_cons rfl (pick_cons rfl (pick_cons rfl pick_nil))) (hK3 (decide (r14 ≤ 0)) hp)
    · refine sx_skip' rfl rfl (wt_is' (wt_guard' rfl rfl rfl) (beq_ft h1)) ?_
      refine sx_skip' rfl rfl (wt_is' (wt_guard' rfl rfl rfl) (beq_ft h1)) ?_
      refine sx_skip' rfl rfl (wt_is' (wt_guard' rfl rfl rfl) (beq_ft h1)) ?_
      refine sx_skip' rfl rfl (wt_is' (wt_guard' rfl rfl rfl) (beq_ft h1)) ?_
      refine sx_rd' (rd_pick_false' rfl h1 rfl) rfl rfl (wt_none' rfl) ?_
      refine sx_nil' ?_
      show TX E K3 _
      exact tx_pick' [2, 1, 0] (sub_cons rfl (sub_cons rfl (sub_cons rfl (sub_cons rfl sub_nil)))) (by decide) (pick_cons rfl (pick_cons rfl (pick_cons rfl pick_nil))) (hK3 false hp)

def spec_OnSegment_j2 (k : Nat) (x2 : Bool) : Option (Bool) :=
  some x2
def spec_OnSegment_j1 (k : Nat) (a1_3 : Bool) (a1_4 : List Int) (a1_5 : Int) (a2_3 : Bool) (a2_4 : List Int) (a2_5 : Int) (a0_3 : Bool) (a0_4 : List Int) (a0_5 : Int) (x1 : Bool) : Option (Bool) :=
  br x1
    ((spec_Between k a1_3 a1_4 a1_5 a2_3 a2_4 a2_5 a0_3 a0_4 a0_5) >>= fun r28 =>
    spec_OnSegment_j2 k r28)
    (spec_OnSegment_j2 k false)
def spec_OnSegment (k : Nat) (a0_0 : Bool) (a0_1 : List Int) (a0_2 : Int) (a0_3 : Bool) (a0_4 : List Int) (a0_5 : Int) (a1_0 : Bool) (a1_1 : List Int) (a1_2 : Int) (a1_3 : Bool) (a1_4 : List Int) (a1_5 : Int) (a2_0 : Bool) (a2_1 : List Int) (a2_2 : Int) (a2_3 : Bool) (a2_4 : List Int) (a2_5 : Int) : Option (Bool) :=
  (spec_Orient k a1_0 a1_1 a1_2 a1_3 a1_4 a1_5 a2_0 a2_1 a2_2 a2_3 a2_4 a2_5 a0_0 a0_1 a0_2 a0_3 a0_4 a0_5) >>= fun r10 =>
  br (decide (r10 = 0))
    ((spec_Between k a1_0 a1_1 a1_2 a2_0 a2_1 a2_2 a0_0 a0_1 a0_2) >>= fun r19 =>
    spec_OnSegment_j1 k a1_3 a1_4 a1_5 a2_3 a2_4 a2_5 a0_3 a0_4 a0_5 r19)
    (spec_OnSegment_j1 k a1_3 a1_4 a1_5 a2_3 a2_4 a2_5 a0_3 a0_4 a0_5 false)

theorem spec_OnSegment_sim {k : Nat}  (a0_0 : Bool) (a0_1 : List Int) (a0_2 : Int) (a0_3 : Bool) (a0_4 : List Int) (a0_5 : Int) (a1_0 : Bool) (a1_1 : List Int) (a1_2 : Int) (a1_3 : Bool) (a1_4 : List Int) (a1_5 : Int) (a2_0 : Bool) (a2_1 : List Int) (a2_2 : Int) (a2_3 : Bool) (a2_4 : List Int) (a2_5 : Int) {out : Bool} (hp : spec_OnSegment k a0_0 a0_1 a0_2 a0_3 a0_4 a0_5 a1_0 a1_1 a1_2 a1_3 a1_4 a1_5 a2_0 a2_1 a2_2 a2_3 a2_4 a2_5 = some out) : Go.Sx.Fn Try.prog 88 [(Ag [(Vl (.bool a0_0)), (Sl (Ki .u32) a0_1), (Vl (.int .i64 a0_2)), (Vl (.bool a0_3)), (Sl (Ki .u32) a0_4), (Vl (.int .i64 a0_5))]), (Ag [(Vl (.bool a1_0)), (Sl (Ki .u32) a1_1), (Vl (.int .i64 a1_2)), (Vl (.bool a1_3)), (Sl (Ki .u32) a1_4), (Vl (.int .i64 a1_5))]), (Ag [(Vl (.bool a2_0)), (Sl (Ki .u32) a2_1), (Vl (.int .i64 a2_2)), (Vl (.bool a2_3)), (Sl (Ki .u32) a2_4), (Vl (.int .i64 a2_5))])] [] (fun w : Unit => (Vl (.bool out))) (fun w => []) := by
  unfold spec_OnSegment at hp
  refine fn_of Try.func88 rfl Try.ntmps88 rfl fun E hM => ?_
  refine cx_seq' fun K1 hK1 => ?_
  refine cx_region' ?_
  refine sx_ox' (ox_box' rfl (lv_ag _) rfl rfl) (wt_none' rfl) fun q3 => ?_
  refine sx_ox' (ox_box' rfl (lv_ag _) rfl rfl) (wt_none' rfl) fun q4 => ?_
  refine sx_ox' (ox_box' rfl (lv_ag _) rfl rfl) (wt_none' rfl) fun q5 => ?_
  refine sx_rd' (rd_assign' rfl) rfl rfl (wt_none' rfl) ?_
  refine sx_nil' ?_
  show TX E K1 _
  refine tx_k' hK1 ?_
  refine cx_seq' fun K2 hK2 => ?_
  refine cx_region' ?_
  refine sx_rd' (rd_load_agg' (i := 1) (o := 0) (nn := 6) rfl ⟨rfl, rfl, rfl, rfl⟩ rfl agg54 (l' := [(Vl (.bool a1_0)), (Sl (Ki .u32) a1_1), (Vl (.int .i64 a1_2)), (Vl (.bool a1_3)), (Sl (Ki .u32) a1_4), (Vl (.int .i64 a1_5))]) rfl) rfl rfl (wt_none' rfl) ?_
  refine sx_rd' (rd_load_agg' (i := 0) (o := 0) (nn := 6) rfl ⟨rfl, rfl, rfl, rfl⟩ rfl agg54 (l' := [(Vl (.bool a2_0)), (Sl (Ki .u32) a2_1), (Vl (.int .i64 a2_2)), (Vl (.bool a2_3)), (Sl (Ki .u32) a2_4), (Vl (.int .i64 a2_5))]) rfl) rfl rfl (wt_none' rfl) ?_
  refine sx_rd' (rd_load_agg' (i := 2) (o := 0) (nn := 6) rfl ⟨rfl, rfl, rfl, rfl⟩ rfl agg54 (l' := [(Vl (.bool a0_0)), (Sl (Ki .u32) a0_1), (Vl (.int .i64 a0_2)), (Vl (.bool a0_3)), (Sl (Ki .u32) a0_4), (Vl (.int .i64 a0_5))]) rfl) rfl rfl (wt_none' rfl) ?_
  obtain ⟨r10, hr10, hp⟩ := bind_some hp
  refine sx_ox' (ox_calln' (ent_fn' Try.func57 isn57 rfl rfl) (spec_Orient_sim _ _ _ _ _ _ _ _ _ _ _ _ _ _ _ _ _ _ hr10 : Go.Sx.Fn Try.prog 57 [(Ag [(Vl (.bool a1_0)), (Sl (Ki .u32) a1_1), (Vl (.int .i64 a1_2)), (Vl (.bool a1_3)), (Sl (Ki .u32) a1_4), (Vl (.int .i64 a1_5))]), (Ag [(Vl (.bool a2_0)), (Sl (Ki .u32) a2_1), (Vl (.int .i64 a2_2)), (Vl (.bool a2_3)), (Sl (Ki .u32) a2_4), (Vl (.int .i64 a2_5))]), (Ag [(Vl (.bool a0_0)), (Sl (Ki .u32) a0_1), (Vl (.int .i64 a0_2)), (Vl (.bool a0_3)), (Sl (Ki .u32) a0_4), (Vl (.int .i64 a0_5))])] [] (fun x : Unit => (Vl (.int .i64 r10))) (fun x => [])) (Hn := fun x : Unit => [⟨.pointer (some q5), [(Vl (.bool a2_0)), (Sl (Ki .u32) a2_1), (Vl (.int .i64 a2_2)), (Vl (.bool a2_3)), (Sl (Ki .u32) a2_4), (Vl (.int .i64 a2_5))], 54, none⟩, ⟨.pointer (some q4), [(Vl (.bool a1_0)), (Sl (Ki .u32) a1_1), (Vl (.int .i64 a1_2)), (Vl (.bool a1_3)), (Sl (Ki .u32) a1_4), (Vl (.int .i64 a1_5))], 54, none⟩, ⟨.pointer (some q3), [(Vl (.bool a0_0)), (Sl (Ki .u32) a0_1), (Vl (.int .i64 a0_2)), (Vl (.bool a0_3)), (Sl (Ki .u32) a0_4), (Vl (.int .i64 a0_5))], 54, none⟩]) (fun _ => rfl) rfl rfl) (wt_none' rfl) fun ⟨⟩ => ?_
  refine sx_rd' (rd_bin' rfl rfl eg_int ru_eql) rfl rfl (wt_none' rfl) ?_
  refine sx_rd' (rd_move' rfl) rfl rfl (wt_none' rfl) ?_
  refine sx_cutn' 8 (fun (v1 : Bool) => (⟨30, [], [(3, (Vl (.pointer (some q3)))), (4, (Vl (.pointer (some q4)))), (5, (Vl (.pointer (some q5)))), (20, (Vl (.bool v1)))], [⟨.pointer (some q3), [(Vl (.bool a0_0)), (Sl (Ki .u32) a0_1), (Vl (.int .i64 a0_2)), (Vl (.bool a0_3)), (Sl (Ki .u32) a0_4), (Vl (.int .i64 a0_5))], 54, none⟩, ⟨.pointer (some q4), [(Vl (.bool a1_0)), (Sl (Ki .u32) a1_1), (Vl (.int .i64 a1_2)), (Vl (.bool a1_3)), (Sl (Ki .u32) a1_4), (Vl (.int .i64 a1_5))], 54, none⟩, ⟨.pointer (some q5), [(Vl (.bool a2_0)), (Sl (Ki .u32) a2_1), (Vl (.int .i64 a2_2)), (Vl (.bool a2_3)), (Sl (Ki .u32) a2_4), (Vl (.int .i64 a2_5))], 54, none⟩]⟩ : St)) (fun (v1 : Bool) => spec_OnSegment_j1 k a1_3 a1_4 a1_5 a2_3 a2_4 a2_5 a0_3 a0_4 a0_5 v1 = some out) ?_ ?_
  · rintro x1 hp
    replace hp : spec_OnSegment_j1 k a1_3 a1_4 a1_5 a2_3 a2_4 a2_5 a0_3 a0_4 a0_5 x1 = some out := hp
    unfold spec_OnSegment_j1 at hp
    refine sx_rd' (rd_move' rfl) rfl rfl (wt_none' rfl) ?_
    refine sx_cutn' 8 (fun (v2 : Bool) => (⟨30, [], [(29, (Vl (.bool v2)))], []⟩ : St)) (fun (v2 : Bool) => spec_OnSegment_j2 k v2 = some out) ?_ ?_
    · rintro x2 hp
      replace hp : spec_OnSegment_j2 k x2 = some out := hp
      unfold spec_OnSegment_j2 at hp
      refine sx_rd' (rd_assign' rfl) rfl rfl (wt_none' rfl) ?_
      refine sx_nil' ?_
      show TX E K2 _
      refine tx_k' hK2 ?_
      refine cx_retc' ?_
      replace hp := Option.some.inj hp
      subst hp
      refine tx_pick' (L' := [(6, (Vl (.bool x2)))]) (H' := []) [] (sub_cons rfl sub_nil) (by decide) pick_nil ?_
      exact tx_ret1' Try.results88 rfl () (rv_tmp' rfl) (List.Sublist.refl _)
    · intro K4 hK4
      rcases br_cases hp with ⟨h2, hp⟩ | ⟨h2, hp⟩
      · refine sx_rd' (rd_field' (off := 3) rfl Try.underlying54 rfl info40 rfl) rfl rfl (wt_is' (wt_guard' rfl rfl rfl) (beq_tt h2)) ?_
        refine sx_rd' (rd_load_agg' (i := 1) (o := 3) (nn := 3) rfl ⟨rfl, rfl, rfl, rfl⟩ rfl agg40 (l' := [(Vl (.bool a1_3)), (Sl (Ki .u32) a1_4), (Vl (.int .i64 a1_5))]) rfl) rfl rfl (wt_is' (wt_guard' rfl rfl rfl) (beq_tt h2)) ?_
        refine sx_rd' (rd_field' (off := 3) rfl Try.underlying54 rfl info40 rfl) rfl rfl (wt_is' (wt_guard' rfl rfl rfl) (beq_tt h2)) ?_
        refine sx_rd' (rd_load_agg' (i := 2) (o := 3) (nn := 3) rfl ⟨rfl, rfl, rfl, rfl⟩ rfl agg40 (l' := [(Vl (.bool a2_3)), (Sl (Ki .u32) a2_4), (Vl (.int .i64 a2_5))]) rfl) rfl rfl (wt_is' (wt_guard' rfl rfl rfl) (beq_tt h2)) ?_
        refine sx_rd' (rd_field' (off := 3) rfl Try.underlying54 rfl info40 rfl) rfl rfl (wt_is' (wt_guard' rfl rfl rfl) (beq_tt h2)) ?_
        refine sx_rd' (rd_load_agg' (i := 0) (o := 3) (nn := 3) rfl ⟨rfl, rfl, rfl, rfl⟩ rfl agg40 (l' := [(Vl (.bool a0_3)), (Sl (Ki .u32) a0_4), (Vl (.int .i64 a0_5))]) rfl) rfl rfl (wt_is' (wt_guard' rfl rfl rfl) (beq_tt h2)) ?_
        obtain ⟨r28, hr28, hp⟩ := bind_some hp
        refine sx_ox' (ox_calln' (ent_fn' Try.func111 isn111 rfl rfl) (spec_Between_sim _ _ _ _ _ _ _ _ _ hr28 : Go.Sx.Fn Try.prog 111 [(Ag [(Vl (.bool a1_3)), (Sl (Ki .u32) a1_4), (Vl (.int .i64 a1_5))]), (Ag [(Vl (.bool a2_3)), (Sl (Ki .u32) a2_4), (Vl (.int .i64 a2_5))]), (Ag [(Vl (.bool a0_3)), (Sl (Ki .u32) a0_4), (Vl (.int .i64 a0_5))])] [] (fun x : Unit => (Vl (.bool r28))) (fun x => [])) (Hn := fun x : Unit => [⟨.pointer (some q3), [(Vl (.bool a0_0)), (Sl (Ki .u32) a0_1), (Vl (.int .i64 a0_2)), (Vl (.bool a0_3)), (Sl (Ki .u32) a0_4), (Vl (.int .i64 a0_5))], 54, none⟩, ⟨.pointer (some q4), [(Vl (.bool a1_0)), (Sl (Ki .u32) a1_1), (Vl (.int .i64 a1_2)), (Vl (.bool a1_3)), (Sl (Ki .u32) a1_4), (Vl (.int .i64 a1_5))], 54, none⟩, ⟨.pointer (some q5), [(Vl (.bool a2_0)), (Sl (Ki .u32) a2_1), (Vl (.int .i64 a2_2)), (Vl (.bool a2_3)), (Sl (Ki .u32) a2_4), (Vl (.int .i64 a2_5))], 54, none⟩]) (fun _ => rfl) rfl rfl) (wt_is' (wt_guard' rfl rfl rfl) (beq_tt h2)) fun ⟨⟩ => ?_
        refine sx_rd' (rd_pick_true' rfl h2 rfl) rfl rfl (wt_none' rfl) ?_
        refine sx_nil' ?_
        show TX E K4 _
        exact tx_pick' [] (sub_cons rfl sub_nil) (by decide) pick_nil (hK4 r28 hp)
      · refine sx_skip' rfl rfl (wt_is' (wt_guard' rfl rfl rfl) (beq_ft h2)) ?_
        refine sx_skip' rfl rfl (wt_is' (wt_guard' rfl rfl rfl) (beq_ft h2)) ?_
        refine sx_skip' rfl rfl (wt_is' (wt_guard' rfl rfl rfl) (beq_ft h2)) ?_
        refine sx_skip' rfl rfl (wt_is' (wt_guard' rfl rfl rfl) (beq_ft h2)) ?_
        refine sx_skip' rfl rfl (wt_is' (wt_guard' rfl rfl rfl) (beq_ft h2)) ?_
        refine sx_skip' rfl rfl (wt_is' (wt_guard' rfl rfl rfl) (beq_ft h2)) ?_
        refine sx_skip' rfl rfl (wt_is' (wt_guard' rfl rfl rfl) (beq_ft h2)) ?_
        refine sx_rd' (rd_pick_false' rfl h2 rfl) rfl rfl (wt_none' rfl) ?_
        refine sx_nil' ?_
        show TX E K4 _
        exact tx_pick' [] (sub_cons rfl sub_nil) (by decide) pick_nil (hK4 false hp)
  · intro K3 hK3
    rcases br_cases hp with ⟨h1, hp⟩ | ⟨h1, hp⟩
    · refine sx_rd' (rd_field0' rfl Try.underlying54 rfl info40 rfl) rfl rfl (wt_is' (wt_guard' rfl rfl rfl) (beq_tt h1)) ?_
      refine sx_rd' (rd_load_agg' (i := 1) (o := 0) (nn := 3) rfl ⟨rfl, rfl, rfl, rfl⟩ rfl agg40 (l' := [(Vl (.bool a1_0)), (Sl (Ki .u32) a1_1), (Vl (.int .i64 a1_2))]) rfl) rfl rfl (wt_is' (wt_guard' rfl rfl rfl) (beq_tt h1)) ?_
      refine sx_rd' (rd_field0' rfl Try.underlying54 rfl info40 rfl) rfl rfl (wt_is' (wt_guard' rfl rfl rfl) (beq_tt h1)) ?_
      refine sx_rd' (rd_load_agg' (i := 0) (o := 0) (nn := 3) rfl ⟨rfl, rfl, rfl, rfl⟩ rfl agg40 (l' := [(Vl (.bool a2_0)), (Sl (Ki .u32) a2_1), (Vl (.int .i64 a2_2))]) rfl) rfl rfl (wt_is' (wt_guard' rfl rfl rfl) (beq_tt h1)) ?_
      refine sx_rd' (rd_field0' rfl Try.underlying54 rfl info40 rfl) rfl rfl (wt_is' (wt_guard' rfl rfl rfl) (beq_tt h1)) ?_
      refine sx_rd' (rd_load_agg' (i := 2) (o := 0) (nn := 3) rfl ⟨rfl, rfl, rfl, rfl⟩ rfl agg40 (l' := [(Vl (.bool a0_0)), (Sl (Ki .u32) a0_1), (Vl (.int .i64 a0_2))]) rfl) rfl rfl (wt_is' (wt_guard' rfl rfl rfl) (beq_tt h1)) ?_
      obtain ⟨r19, hr19, hp⟩ := bind_some hp
      refine sx_ox' (ox_calln' (ent_fn' Try.func111 isn111 rfl rfl) (spec_Between_sim _ _ _ _ _ _ _ _ _ hr19 : Go.Sx.Fn Try.prog 111 [(Ag [(Vl (.bool a1_0)), (Sl (Ki .u32) a1_1), (Vl (.int .i64 a1_2))]), (Ag [(Vl (.bool a2_0)), (Sl (Ki .u32) a2_1), (Vl (.int .i64 a2_2))]), (Ag [(Vl (.bool a0_0)), (Sl (Ki .u32) a0_1), (Vl (.int .i64 a0_2))])] [] (fun x : Unit => (Vl (.bool r19))) (fun x => [])) (Hn := fun x : Unit => [⟨.pointer (some q5), [(Vl (.bool a2_0)), (Sl (Ki .u32) a2_1), (Vl (.int .i64 a2_2)), (Vl (.bool a2_3)), (Sl (Ki .u32) a2_4), (Vl (.int .i64 a2_5))], 54, none⟩, ⟨.pointer (some q4), [(Vl (.bool a1_0)), (Sl (Ki .u32) a1_1), (Vl (.int .i64 a1_2)), (Vl (.bool a1_3)), (Sl (Ki .u32) a1_4), (Vl (.int .i64 a1_5))], 54, none⟩, ⟨.pointer (some q3), [(Vl (.bool a0_0)), (Sl (Ki .u32) a0_1), (Vl (.int .i64 a0_2)), (Vl (.bool a0_3)), (Sl (Ki .u32) a0_4), (Vl (.int .i64 a0_5))], 54, none⟩]) (fun _ => rfl) rfl rfl) (wt_is' (wt_guard' rfl rfl rfl) (beq_tt h1)) fun ⟨⟩ => ?_
      refine sx_rd' (rd_pick_true' rfl h1 rfl) rfl rfl (wt_none' rfl) ?_
      refine sx_nil' ?_
      show TX E K3 _
      exact tx_pick' [2, 1, 0] (sub_cons rfl (sub_cons rfl (sub_cons rfl (sub_cons rfl sub_nil)))) (by decide) (pick_cons rfl (pick_cons rfl (pick_cons rfl pick_nil))) (hK3 r19 hp)
    · refine sx_skip' rfl rfl (wt_is' (wt_guard' rfl rfl rfl) (beq_ft h1)) ?_
      refine sx_skip' rfl rfl (wt_is' (wt_guard' rfl rfl rfl) (beq_ft h1)) ?_
      refine sx_skip' rfl rfl (wt_is' (wt_guard' rfl rfl rfl) (beq_ft h1)) ?_
      refine sx_skip' rfl rfl (wt_is' (wt_guard' rfl rfl rfl) (beq_ft h1)) ?_
      refine sx_skip' rfl rfl (wt_is' (wt_guard' rfl rfl rfl) (beq_ft h1)) ?_
      refine sx_skip' rfl rfl (wt_is' (wt_guard' rfl rfl rfl) (beq_ft h1)) ?_
      refine sx_skip' rfl rfl (wt_is' (wt_guard' rfl rfl rfl) (beq_ft h1)) ?_
      refine sx_rd' (rd_pick_false' rfl h1 rfl) rfl rfl (wt_none' rfl) ?_
      refine sx_nil' ?_
      show TX E K3 _
      exact tx_pick' [2, 1, 0] (sub_cons rfl (sub_cons rfl (sub_cons rfl (sub_cons rfl sub_nil)))) (by decide) (pick_cons rfl (pick_cons rfl (pick_cons rfl pick_nil))) (hK3 false hp)

end Go.Proofs.Ytnemkhcjmenfnaa
