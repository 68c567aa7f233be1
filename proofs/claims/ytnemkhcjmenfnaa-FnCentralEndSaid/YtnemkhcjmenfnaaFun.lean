/-
  Plain functions for the Go functions that this law reaches, and that each call does what its plain function says. Printed by a program of ours.
-/
import Derived.Test.YtnemkhcjmenfnaaProg
import Derived.Test.YtnemkhcjmenfnaaSxZ
namespace Go.Proofs.Ytnemkhcjmenfnaa
open Go.Sx
set_option linter.unusedVariables false
set_option maxRecDepth 100000

theorem info27 : (Try.prog.info? 27).map (fun i => (i.zero, i.size, i.bytes)) = some (some (.agg #[.float .f64 0, .float .f64 0]), 2, 16) := by kernel_rfl
theorem agg27 : Agg Try.prog 27 2 := ⟨⟨_, Try.underlying27, .inl ⟨_, rfl⟩⟩, info_size info27⟩
theorem isn16 : (Try.f16.name == "runtime.NumGoroutine") = false := by kernel_rfl
theorem info25 : (Try.prog.info? 25).map (fun i => (i.zero, i.size, i.bytes)) = some (some (.float .f64 0), 1, 8) := by kernel_rfl
theorem flat25 : Flat Try.prog 25 := ⟨_, Try.underlying25, fun _ h => (nomatch h), fun _ _ h => (nomatch h)⟩
theorem isn44 : (Try.f44.name == "runtime.NumGoroutine") = false := by kernel_rfl
theorem isn91 : (Try.f91.name == "runtime.NumGoroutine") = false := by kernel_rfl
theorem extf132 : ∀ {x r : Nat}, gint .zero x = r → ∀ y, (y = x ∨ (isn x = true ∧ isn y = true)) → RunsF Try.prog (callFunc 132 #[.float .f64 y]) (Fl r) := fun hz y hy => hz ▸ runs_ext (e := Extern.MathFloor.toIntegral "math.archTrunc" .zero) Try.func132 (by kernel_rfl) (by kernel_rfl) (by kernel_rfl) (by kernel_rfl) (gint_runs hy)
theorem isn38 : (Try.f38.name == "runtime.NumGoroutine") = false := by kernel_rfl
theorem ext85 : ∀ {args : Array Value} {v : Value}, Runs Try.prog ((Extern.MathFloatBits.float64bits) args) v → Runs Try.prog (callFunc 85 args) (.value v) := fun hr => ru_ext Try.func85 (by kernel_rfl) (by kernel_rfl) (by kernel_rfl) (by kernel_rfl) hr
theorem ext84 : ∀ {args : Array Value} {v : Value}, Runs Try.prog ((Extern.MathFloatBits.float64frombits) args) v → Runs Try.prog (callFunc 84 args) (.value v) := fun hr => ru_ext Try.func84 (by kernel_rfl) (by kernel_rfl) (by kernel_rfl) (by kernel_rfl) hr
theorem isn36 : (Try.f36.name == "runtime.NumGoroutine") = false := by kernel_rfl
theorem isn72 : (Try.f72.name == "runtime.NumGoroutine") = false := by kernel_rfl
theorem isn82 : (Try.f82.name == "runtime.NumGoroutine") = false := by kernel_rfl
theorem places156 : placesOf Try.prog [{ name := "line1End1", type := 106, offset := 0, embedded := false, tag := "", pkgPath := "pub-orthodrome/pub/gogeom/xy/inner/centralendpoint", byteOffset := 0 }, { name := "line1End2", type := 106, offset := 1, embedded := false, tag := "", pkgPath := "pub-orthodrome/pub/gogeom/xy/inner/centralendpoint", byteOffset := 24 }, { name := "line2End1", type := 106, offset := 2, embedded := false, tag := "", pkgPath := "pub-orthodrome/pub/gogeom/xy/inner/centralendpoint", byteOffset := 48 }, { name := "line2End2", type := 106, offset := 3, embedded := false, tag := "", pkgPath := "pub-orthodrome/pub/gogeom/xy/inner/centralendpoint", byteOffset := 72 }, { name := "intersectionPoint", type := 106, offset := 4, embedded := false, tag := "", pkgPath := "pub-orthodrome/pub/gogeom/xy/inner/centralendpoint", byteOffset := 96 }] = [(0, 1), (1, 1), (2, 1), (3, 1), (4, 1)] := by kernel_rfl
theorem has156 : ∀ f ∈ ([{ name := "line1End1", type := 106, offset := 0, embedded := false, tag := "", pkgPath := "pub-orthodrome/pub/gogeom/xy/inner/centralendpoint", byteOffset := 0 }, { name := "line1End2", type := 106, offset := 1, embedded := false, tag := "", pkgPath := "pub-orthodrome/pub/gogeom/xy/inner/centralendpoint", byteOffset := 24 }, { name := "line2End1", type := 106, offset := 2, embedded := false, tag := "", pkgPath := "pub-orthodrome/pub/gogeom/xy/inner/centralendpoint", byteOffset := 48 }, { name := "line2End2", type := 106, offset := 3, embedded := false, tag := "", pkgPath := "pub-orthodrome/pub/gogeom/xy/inner/centralendpoint", byteOffset := 72 }, { name := "intersectionPoint", type := 106, offset := 4, embedded := false, tag := "", pkgPath := "pub-orthodrome/pub/gogeom/xy/inner/centralendpoint", byteOffset := 96 }] : List Field), (Try.prog.info? f.type).isSome = true := fun f hf => all_of (p := fun f => (Try.prog.info? f.type).isSome) (by kernel_rfl) f hf
theorem info156 : (Try.prog.info? 156).map (fun i => (i.zero, i.size, i.bytes)) = some (some (.agg #[.slice none 0 0, .slice none 0 0, .slice none 0 0, .slice none 0 0, .slice none 0 0]), 5, 120) := by kernel_rfl
theorem isn129 : (Try.f129.name == "runtime.NumGoroutine") = false := by kernel_rfl
theorem info106 : (Try.prog.info? 106).map (fun i => (i.zero, i.size, i.bytes)) = some (some (.slice none 0 0), 1, 24) := by kernel_rfl
theorem flat106 : Flat Try.prog 106 := ⟨_, Try.underlying106, fun _ h => (nomatch h), fun _ _ h => (nomatch h)⟩
theorem info177 : (Try.prog.info? 177).map (fun i => (i.zero, i.size, i.bytes)) = some (some (.agg #[.slice none 0 0, .slice none 0 0, .slice none 0 0, .slice none 0 0]), 4, 96) := by kernel_rfl
theorem agg177 : Agg Try.prog 177 4 := ⟨⟨_, Try.underlying177, .inr ⟨_, _, rfl⟩⟩, info_size info177⟩
theorem isn160 : (Try.f160.name == "runtime.NumGoroutine") = false := by kernel_rfl
theorem mixed : Try.prog.follows .mixedOrders = true := by kernel_rfl
theorem isn161 : (Try.f161.name == "runtime.NumGoroutine") = false := by kernel_rfl
theorem isn130 : (Try.f130.name == "runtime.NumGoroutine") = false := by kernel_rfl
theorem isn40 : (Try.f40.name == "runtime.NumGoroutine") = false := by kernel_rfl
theorem extf86 : ∀ {x r : Nat}, gsqrt x = r → ∀ y, (y = x ∨ (isn x = true ∧ isn y = true)) → RunsF Try.prog (callFunc 86 #[.float .f64 y]) (Fl r) := fun hz y hy => hz ▸ runs_ext (e := Extern.MathSqrt.sqrt) Try.func86 (by kernel_rfl) (by kernel_rfl) (by kernel_rfl) (by kernel_rfl) (gsqrt_runs hy)
theorem isn81 : (Try.f81.name == "runtime.NumGoroutine") = false := by kernel_rfl
theorem places27 : placesOf Try.prog [{ name := "X", type := 25, offset := 0, embedded := false, tag := "", pkgPath := "", byteOffset := 0 }, { name := "Y", type := 25, offset := 1, embedded := false, tag := "", pkgPath := "", byteOffset := 8 }] = [(0, 1), (1, 1)] := by kernel_rfl
theorem has27 : ∀ f ∈ ([{ name := "X", type := 25, offset := 0, embedded := false, tag := "", pkgPath := "", byteOffset := 0 }, { name := "Y", type := 25, offset := 1, embedded := false, tag := "", pkgPath := "", byteOffset := 8 }] : List Field), (Try.prog.info? f.type).isSome = true := fun f hf => all_of (p := fun f => (Try.prog.info? f.type).isSome) (by kernel_rfl) f hf
theorem held27 : Try.prog.stoodInHeld 27 = false := by kernel_rfl
theorem eqg27 : Try.prog.eqGuardType Try.prog.depth 27 = false := by kernel_rfl
theorem isn35 : (Try.f35.name == "runtime.NumGoroutine") = false := by kernel_rfl
def KT27 : Kd (Nat × Nat) := ⟨2, fun x => [(Vl (.float .f64 x.1)), (Vl (.float .f64 x.2))], fun _ => rfl⟩

def math_Trunc (k : Nat) (a0 : Nat) : Option (Nat) :=
  (some (gint .zero a0)) >>= fun r4 =>
  some r4

theorem math_Trunc_sim {k : Nat}  (a0 : Nat) {out : Nat} (hp : math_Trunc k a0 = some out) : Go.Sx.Fn Try.prog 91 [(Vl (.float .f64 a0))] [] (fun w : Unit => (Fl out)) (fun w => []) := by
  unfold math_Trunc at hp
  refine fn_of Try.func91 rfl Try.ntmps91 rfl fun E hM => ?_
  refine cx_seq' fun K1 hK1 => ?_
  refine cx_region' ?_
  refine sx_rd' (rd_assign' rfl) rfl rfl (wt_none' rfl) ?_
  refine sx_nil' ?_
  show TX E K1 _
  refine tx_k' hK1 ?_
  refine cx_seq' fun K2 hK2 => ?_
  refine cx_cond_t' rfl rfl ?_
  refine cx_seq' fun K3 hK3 => ?_
  refine cx_region' ?_
  refine sx_rd' (rd_move' rfl) rfl rfl (wt_none' rfl) ?_
  obtain ⟨r4, hr4, hp⟩ := bind_some hp
  refine sx_ox' (ox_extf' rfl (fl_v rfl) Try.func132 (extf132 (Option.some.inj hr4)) rfl rfl) (wt_none' rfl) fun _ => ?_
  refine sx_rd' (rd_assign' rfl) rfl rfl (wt_none' rfl) ?_
  refine sx_nil' ?_
  show TX E K3 _
  refine tx_k' hK3 ?_
  refine cx_retc' ?_
  replace hp := Option.some.inj hp
  subst hp
  refine tx_pick' (L' := [(2, (Fl r4))]) (H' := []) [] (sub_cons rfl sub_nil) (by decide) pick_nil ?_
  exact tx_ret1' Try.results91 rfl () (rv_tmp' rfl) (List.Sublist.refl _)

def math_Abs (k : Nat) (a0 : Nat) : Option (Nat) :=
  some (ffrom (iandn .u64 (fbits a0) 9223372036854775808))

theorem math_Abs_sim {k : Nat}  (a0 : Nat) {out : Nat} (hp : math_Abs k a0 = some out) : Go.Sx.Fn Try.prog 38 [(Vl (.float .f64 a0))] [] (fun w : Unit => (Vl (.float .f64 out))) (fun w => []) := by
  unfold math_Abs at hp
  refine fn_of Try.func38 rfl Try.ntmps38 rfl fun E hM => ?_
  refine cx_seq' fun K1 hK1 => ?_
  refine cx_region' ?_
  refine sx_rd' (rd_assign' rfl) rfl rfl (wt_none' rfl) ?_
  refine sx_nil' ?_
  show TX E K1 _
  refine tx_k' hK1 ?_
  refine cx_seq' fun K2 hK2 => ?_
  refine cx_region' ?_
  refine sx_rd' (rd_move' rfl) rfl rfl (wt_none' rfl) ?_
  refine sx_rd' (rd_ext' (us := [.float .f64 a0]) rfl (ext85 ex_bits)) rfl rfl (wt_none' rfl) ?_
  refine sx_rd' (rd_bin' rfl rfl eg_int ru_andn) rfl rfl (wt_none' rfl) ?_
  refine sx_rd' (rd_ext' (us := [.int .u64 (iandn .u64 (fbits a0) 9223372036854775808)]) rfl (ext84 ex_from)) rfl rfl (wt_none' rfl) ?_
  refine sx_rd' (rd_assign' rfl) rfl rfl (wt_none' rfl) ?_
  refine sx_nil' ?_
  show TX E K2 _
  refine tx_k' hK2 ?_
  refine cx_retc' ?_
  replace hp := Option.some.inj hp
  subst hp
  refine tx_pick' (L' := [(2, (Vl (.float .f64 (ffrom (iandn .u64 (fbits a0) 9223372036854775808)))))]) (H' := []) [] (sub_cons rfl sub_nil) (by decide) pick_nil ?_
  exact tx_ret1' Try.results38 rfl () (rv_tmp' rfl) (List.Sublist.refl _)

def laws_wholeTo_j2 (k : Nat) (rec1 : Int → Option (Unit ⊕ Unit)) (x3 : Int) (x2 : Bool) : Option (Unit ⊕ Unit) :=
  br x2
    (some (.inl ()))
    (rec1 (iadd .i64 x3 1))
def laws_wholeTo_l1s (a1 : List Nat) (a0 : Nat) (k : Nat) (rec1 : Int → Option (Unit ⊕ Unit)) (x3 : Int) : Option (Unit ⊕ Unit) :=
  br (decide (x3 < (a1.length : Int)))
    ((idx a1 x3) >>= fun r11 =>
    (math_Trunc k r11) >>= fun r15 =>
    br (fne r11 r15)
      (laws_wholeTo_j2 k rec1 x3 true)
      ((math_Abs k r11) >>= fun r19 =>
      laws_wholeTo_j2 k rec1 x3 (fgt r19 a0)))
    (some (.inr ()))
def laws_wholeTo_l1 (a1 : List Nat) (a0 : Nat) : Nat → Int → Option (Unit ⊕ Unit)
  | 0, _ => none
  | k + 1, v => laws_wholeTo_l1s a1 a0 k (laws_wholeTo_l1 a1 a0 k) v
def laws_wholeTo (k : Nat) (a0 : Nat) (a1 : List Nat) : Option (Bool) :=
  (laws_wholeTo_l1 a1 a0 k 0) >>= fun y1 => match y1 with
    | (.inl v4) =>
      (some false)
    | (.inr v5) =>
      (some true)

theorem laws_wholeTo_sim {k : Nat}  (a0 : Nat) (a1 : List Nat) {out : Bool} (hp : laws_wholeTo k a0 a1 = some out) : Go.Sx.Fn Try.prog 44 [(Vl (.float .f64 a0)), (Sl Kf a1)] [] (fun w : Unit => (Vl (.bool out))) (fun w => []) := by
  unfold laws_wholeTo at hp
  refine fn_of Try.func44 rfl Try.ntmps44 rfl fun E hM => ?_
  refine cx_seq' fun K1 hK1 => ?_
  refine cx_region' ?_
  refine sx_rd' (rd_assign' rfl) rfl rfl (wt_none' rfl) ?_
  refine sx_nil' ?_
  show TX E K1 _
  refine tx_k' hK1 ?_
  refine cx_seq' fun K2 hK2 => ?_
  refine cx_seq' fun K3 hK3 => ?_
  refine cx_region' ?_
  refine sx_rd' (rd_move' rfl) rfl rfl (wt_none' rfl) ?_
  refine sx_rd' (rd_len' rfl Try.underlying30) rfl rfl (wt_none' rfl) ?_
  refine sx_rd' (rd_move' rfl) rfl rfl (wt_none' rfl) ?_
  refine sx_nil' ?_
  show TX E K3 _
  refine tx_k' hK3 ?_
  refine cx_block' ?_
  obtain ⟨y1, hy1, hp⟩ := bind_some hp
  refine cx_loopg' (F := laws_wholeTo_l1 a1 a0) (G := fun k R v => laws_wholeTo_l1s a1 a0 k R v) (x := 0) (gh := ()) (fun (v2 : Int) (w2 : Unit) => (⟨24, [], [(0, (Vl (.float .f64 a0))), (7, (Sl Kf a1)), (8, (Vl (.int .i64 (a1.length : Int)))), (9, (Vl (.int .i64 v2)))], []⟩ : St)) (fun (y : Unit ⊕ Unit) => match y with | (.inl v4) => Zg E Exit.ret (fun (w4 : Unit) => (⟨24, [], [(4, (Vl (.bool false)))], []⟩ : St)) | (.inr v5) => Zg E (Exit.exit 0) (fun (w5 : Unit) => (⟨24, [], [], []⟩ : St))) (fun _ => rfl) (fun _ _ => rfl) ?_ hy1 (tx_to' rfl [] (sub_cons rfl (sub_cons rfl (sub_cons rfl (sub_cons rfl sub_nil)))) (by decide) pick_nil) ?_
  · clear hp hy1
    clear y1
    intro k rec1 KY1 ih1
    rintro x3 ⟨⟩ y1 hp
    replace hp : laws_wholeTo_l1s a1 a0 k rec1 x3 = some y1 := hp
    unfold laws_wholeTo_l1s at hp
    refine cx_seq' fun K11 hK11 => ?_
    refine cx_region' ?_
    refine sx_rd' (rd_bin' rfl rfl eg_int ru_lss) rfl rfl (wt_none' rfl) ?_
    refine sx_nil' ?_
    show TX E K11 _
    refine tx_k' hK11 ?_
    refine cx_seq' fun K12 hK12 => ?_
    refine cx_cond' rfl (fun h5 => ?_) (fun h5 => ?_)
    · replace hp := (br_t h5).symm.trans hp
      refine cx_skip' ?_
      show TX E K12 _
      refine tx_k' hK12 ?_
      refine cx_seq' fun K13 hK13 => ?_
      refine cx_block' ?_
      refine cx_seq' fun K14 hK14 => ?_
      refine cx_region' ?_
      obtain ⟨r11, hr11, hp⟩ := bind_some hp
      refine sx_rd' (rd_at' (K := Kf) rfl rfl hr11 Try.underlying30 info25) rfl rfl (wt_none' rfl) ?_
      refine sx_rd' (rd_load_pt' rfl rfl flat25) rfl rfl (wt_none' rfl) ?_
      refine sx_rd' (rd_assign' rfl) rfl rfl (wt_none' rfl) ?_
      refine sx_nil' ?_
      show TX E K14 _
      refine tx_k' hK14 ?_
      refine cx_seq' fun K15 hK15 => ?_
      refine cx_region' ?_
      refine sx_rd' (rd_move' rfl) rfl rfl (wt_none' rfl) ?_
      refine sx_rd' (rd_move' rfl) rfl rfl (wt_none' rfl) ?_
      obtain ⟨r15, hr15, hp⟩ := bind_some hp
      refine sx_ox' (ox_calln' (ent_fn' Try.func91 isn91 rfl rfl) (math_Trunc_sim _ hr15 : Go.Sx.Fn Try.prog 91 [(Vl (.float .f64 r11))] [] (fun x : Unit => (Fl r15)) (fun x => [])) (Hn := fun x : Unit => []) (fun _ => rfl) rfl rfl) (wt_none' rfl) fun ⟨⟩ => ?_
      refine sx_rd' (rd_fcmp' (fl_v rfl) (fl_f rfl) rfl) rfl rfl (wt_none' rfl) ?_
      refine sx_rd' (rd_move' rfl) rfl rfl (wt_none' rfl) ?_
      refine sx_cutn' 5 (fun (v3 : Bool) => (⟨24, [], [(0, (Vl (.float .f64 a0))), (7, (Sl Kf a1)), (8, (Vl (.int .i64 (a1.length : Int)))), (9, (Vl (.int .i64 x3))), (22, (Vl (.bool v3)))], []⟩ : St)) (fun (v3 : Bool) => laws_wholeTo_j2 k rec1 x3 v3 = some y1) ?_ ?_
      · rintro x2 hp
        replace hp : laws_wholeTo_j2 k rec1 x3 x2 = some y1 := hp
        unfold laws_wholeTo_j2 at hp
        refine sx_nil' ?_
        show TX E K15 _
        refine tx_k' hK15 ?_
        refine cx_cond' rfl (fun h7 => ?_) (fun h7 => ?_)
        · replace hp := (br_t h7).symm.trans hp
          refine cx_seq' fun K17 hK17 => ?_
          refine cx_region' ?_
          refine sx_rd' (rd_assign' rfl) rfl rfl (wt_none' rfl) ?_
          refine sx_nil' ?_
          show TX E K17 _
          refine tx_k' hK17 ?_
          refine cx_retc' ?_
          replace hp := Option.some.inj hp
          subst hp
          show TX E (Zg E Exit.ret _ Exit.ret) _
          exact tx_zend' () rfl [] (sub_cons rfl sub_nil) (by decide) pick_nil
        · replace hp := (br_f h7).symm.trans hp
          refine cx_skip' ?_
          show TX E K13 _
          refine tx_k' hK13 ?_
          refine cx_region' ?_
          refine sx_rd' (rd_bin' rfl rfl eg_int ru_add) rfl rfl (wt_none' rfl) ?_
          refine sx_rd' (rd_move' rfl) rfl rfl (wt_none' rfl) ?_
          refine sx_nil' ?_
          show TX E (KY1 _) _
          exact tx_pick' [] (sub_cons rfl (sub_cons rfl (sub_cons rfl (sub_cons rfl sub_nil)))) (by decide) pick_nil (ih1 (iadd .i64 x3 1) () _ hp)
      · intro K16 hK16
        rcases br_cases hp with ⟨h6, hp⟩ | ⟨h6, hp⟩
        · refine sx_skip' rfl rfl (wt_is' (wt_guard' rfl rfl rfl) (beq_tf h6)) ?_
          refine sx_skip' rfl rfl (wt_is' (wt_guard' rfl rfl rfl) (beq_tf h6)) ?_
          refine sx_skip' rfl rfl (wt_is' (wt_guard' rfl rfl rfl) (beq_tf h6)) ?_
          refine sx_skip' rfl rfl (wt_is' (wt_guard' rfl rfl rfl) (beq_tf h6)) ?_
          refine sx_rd' (rd_pick_true' rfl h6 rfl) rfl rfl (wt_none' rfl) ?_
          refine sx_nil' ?_
          show TX E K16 _
          exact tx_pick' [] (sub_cons rfl (sub_cons rfl (sub_cons rfl (sub_cons rfl (sub_cons rfl sub_nil))))) (by decide) pick_nil (hK16 true hp)
        · refine sx_rd' (rd_move' rfl) rfl rfl (wt_is' (wt_guard' rfl rfl rfl) (beq_ff h6)) ?_
          obtain ⟨r19, hr19, hp⟩ := bind_some hp
          refine sx_ox' (ox_calln' (ent_fn' Try.func38 isn38 rfl rfl) (math_Abs_sim _ hr19 : Go.Sx.Fn Try.prog 38 [(Vl (.float .f64 r11))] [] (fun x : Unit => (Vl (.float .f64 r19))) (fun x => [])) (Hn := fun x : Unit => []) (fun _ => rfl) rfl rfl) (wt_is' (wt_guard' rfl rfl rfl) (beq_ff h6)) fun ⟨⟩ => ?_
          refine sx_rd' (rd_move' rfl) rfl rfl (wt_is' (wt_guard' rfl rfl rfl) (beq_ff h6)) ?_
          refine sx_rd' (rd_bin' rfl rfl eg_flt ru_fgt) rfl rfl (wt_is' (wt_guard' rfl rfl rfl) (beq_ff h6)) ?_
          refine sx_rd' (rd_pick_false' rfl h6 rfl) rfl rfl (wt_none' rfl) ?_
          refine sx_nil' ?_
          show TX E K16 _
          exact tx_pick' [] (sub_cons rfl (sub_cons rfl (sub_cons rfl (sub_cons rfl (sub_cons rfl sub_nil))))) (by decide) pick_nil (hK16 (fgt r19 a0) hp)
    · replace hp := (br_f h5).symm.trans hp
      refine cx_exit' ?_
      replace hp := Option.some.inj hp
      subst hp
      show TX E (Zg E (Exit.exit 0) _ (Exit.exit 0)) _
      exact tx_zend' () rfl [] sub_nil (by decide) pick_nil
  · rcases y1 with v4 | v5
    · dsimp only at hp
      refine zg_out fun w4 => ?_
      replace hp := Option.some.inj hp
      subst hp
      refine tx_pick' (L' := [(4, (Vl (.bool false)))]) (H' := []) [] (sub_cons rfl sub_nil) (by decide) pick_nil ?_
      exact tx_ret1' Try.results44 rfl () (rv_tmp' rfl) (List.Sublist.refl _)
    · dsimp only at hp
      refine zg_out fun w5 => ?_
      show TX E K2 _
      refine tx_k' hK2 ?_
      refine cx_seq' fun K18 hK18 => ?_
      refine cx_region' ?_
      refine sx_rd' (rd_assign' rfl) rfl rfl (wt_none' rfl) ?_
      refine sx_nil' ?_
      show TX E K18 _
      refine tx_k' hK18 ?_
      refine cx_retc' ?_
      replace hp := Option.some.inj hp
      subst hp
      refine tx_pick' (L' := [(4, (Vl (.bool true)))]) (H' := []) [] (sub_cons rfl sub_nil) (by decide) pick_nil ?_
      exact tx_ret1' Try.results44 rfl () (rv_tmp' rfl) (List.Sublist.refl _)

def laws_planeTo_l1s (a1 : List (Nat × Nat)) (a0 : Nat) (k : Nat) (rec1 : Int → Option (Unit ⊕ Unit)) (x1 : Int) : Option (Unit ⊕ Unit) :=
  br (decide (x1 < (a1.length : Int)))
    ((idx a1 x1) >>= fun r11 =>
    (laws_wholeTo k a0 ([r11.1, r11.2])) >>= fun r19 =>
    br (!r19)
      (some (.inl ()))
      (rec1 (iadd .i64 x1 1)))
    (some (.inr ()))
def laws_planeTo_l1 (a1 : List (Nat × Nat)) (a0 : Nat) : Nat → Int → Option (Unit ⊕ Unit)
  | 0, _ => none
  | k + 1, v => laws_planeTo_l1s a1 a0 k (laws_planeTo_l1 a1 a0 k) v
def laws_planeTo (k : Nat) (a0 : Nat) (a1 : List (Nat × Nat)) : Option (Bool) :=
  (laws_planeTo_l1 a1 a0 k 0) >>= fun y1 => match y1 with
    | (.inl v2) =>
      (some false)
    | (.inr v3) =>
      (some true)

theorem laws_planeTo_sim {k : Nat}  (a0 : Nat) (a1 : List (Nat × Nat)) {out : Bool} (hp : laws_planeTo k a0 a1 = some out) : Go.Sx.Fn Try.prog 16 [(Vl (.float .f64 a0)), (Sl KT27 a1)] [] (fun w : Unit => (Vl (.bool out))) (fun w => []) := by
  unfold laws_planeTo at hp
  refine fn_of Try.func16 rfl Try.ntmps16 rfl fun E hM => ?_
  refine cx_seq' fun K1 hK1 => ?_
  refine cx_region' ?_
  refine sx_rd' (rd_assign' rfl) rfl rfl (wt_none' rfl) ?_
  refine sx_nil' ?_
  show TX E K1 _
  refine tx_k' hK1 ?_
  refine cx_seq' fun K2 hK2 => ?_
  refine cx_seq' fun K3 hK3 => ?_
  refine cx_region' ?_
  refine sx_rd' (rd_move' rfl) rfl rfl (wt_none' rfl) ?_
  refine sx_rd' (rd_len' rfl Try.underlying22) rfl rfl (wt_none' rfl) ?_
  refine sx_rd' (rd_move' rfl) rfl rfl (wt_none' rfl) ?_
  refine sx_nil' ?_
  show TX E K3 _
  refine tx_k' hK3 ?_
  refine cx_block' ?_
  obtain ⟨y1, hy1, hp⟩ := bind_some hp
  refine cx_loopg' (F := laws_planeTo_l1 a1 a0) (G := fun k R v => laws_planeTo_l1s a1 a0 k R v) (x := 0) (gh := ()) (fun (v1 : Int) (w1 : Unit) => (⟨22, [], [(0, (Vl (.float .f64 a0))), (7, (Sl KT27 a1)), (8, (Vl (.int .i64 (a1.length : Int)))), (9, (Vl (.int .i64 v1)))], []⟩ : St)) (fun (y : Unit ⊕ Unit) => match y with | (.inl v2) => Zg E Exit.ret (fun (w2 : Unit) => (⟨22, [], [(4, (Vl (.bool false)))], []⟩ : St)) | (.inr v3) => Zg E (Exit.exit 0) (fun (w3 : Unit) => (⟨22, [], [], []⟩ : St))) (fun _ => rfl) (fun _ _ => rfl) ?_ hy1 (tx_to' rfl [] (sub_cons rfl (sub_cons rfl (sub_cons rfl (sub_cons rfl sub_nil)))) (by decide) pick_nil) ?_
  · clear hp hy1
    clear y1
    intro k rec1 KY1 ih1
    rintro x1 ⟨⟩ y1 hp
    replace hp : laws_planeTo_l1s a1 a0 k rec1 x1 = some y1 := hp
    unfold laws_planeTo_l1s at hp
    refine cx_seq' fun K10 hK10 => ?_
    refine cx_region' ?_
    refine sx_rd' (rd_bin' rfl rfl eg_int ru_lss) rfl rfl (wt_none' rfl) ?_
    refine sx_nil' ?_
    show TX E K10 _
    refine tx_k' hK10 ?_
    refine cx_seq' fun K11 hK11 => ?_
    refine cx_cond' rfl (fun h4 => ?_) (fun h4 => ?_)
    · replace hp := (br_t h4).symm.trans hp
      refine cx_skip' ?_
      show TX E K11 _
      refine tx_k' hK11 ?_
      refine cx_seq' fun K12 hK12 => ?_
      refine cx_block' ?_
      refine cx_seq' fun K13 hK13 => ?_
      refine cx_region' ?_
      obtain ⟨r11, hr11, hp⟩ := bind_some hp
      refine sx_rd' (rd_at' (K := KT27) rfl rfl hr11 Try.underlying22 info27) rfl rfl (wt_none' rfl) ?_
      refine sx_rd' (rd_load_pt_agg' (nn := 2) rfl rfl agg27 (l' := [(Vl (.float .f64 r11.1)), (Vl (.float .f64 r11.2))]) rfl) rfl rfl (wt_none' rfl) ?_
      refine sx_ox' (ox_alloc' info27 rfl rfl rfl rfl (l := [(Vl (.float .f64 0)), (Vl (.float .f64 0))]) rfl) (wt_none' rfl) fun q6 => ?_
      refine sx_ox' (ox_store' (i := 0) (o := 0) rfl rfl (lv_ag _) ⟨rfl, rfl, rfl, rfl⟩ rfl info27 rfl (H' := [⟨.pointer (some q6), [(Vl (.float .f64 r11.1)), (Vl (.float .f64 r11.2))], 27, none⟩]) rfl) (wt_none' rfl) fun _ => ?_
      refine sx_nil' ?_
      show TX E K13 _
      refine tx_k' hK13 ?_
      refine cx_seq' fun K14 hK14 => ?_
      refine cx_region' ?_
      refine sx_rd' (rd_move' rfl) rfl rfl (wt_none' rfl) ?_
      refine sx_rd' (rd_field0' rfl Try.underlying27 rfl info25 rfl) rfl rfl (wt_none' rfl) ?_
      refine sx_rd' (rd_load' (i := 0) (o := 0) rfl ⟨rfl, rfl, rfl, rfl⟩ rfl flat25) rfl rfl (wt_none' rfl) ?_
      refine sx_rd' (rd_field' (off := 1) rfl Try.underlying27 rfl info25 rfl) rfl rfl (wt_none' rfl) ?_
      refine sx_rd' (rd_load' (i := 0) (o := 1) rfl ⟨rfl, rfl, rfl, rfl⟩ rfl flat25) rfl rfl (wt_none' rfl) ?_
      refine sx_ox' (ox_rowlit' (K := Kf) (xs := [r11.1, r11.2]) (qs := [(0, [(Vl (.float .f64 r11.1))]), (1, [(Vl (.float .f64 r11.2))])]) ⟨rfl, ⟨_, rfl, (lv_vl rfl rfl)⟩, ⟨rfl, ⟨_, rfl, (lv_vl rfl rfl)⟩, trivial⟩⟩ Try.underlying30 info25 rfl rfl rfl rfl rfl (by kernel_rfl) rfl rfl rfl) (wt_none' rfl) fun g18 => ?_
      obtain ⟨r19, hr19, hp⟩ := bind_some hp
      refine sx_ox' (ox_brw' (frz_row 0 [(18, (Vl (Vs g18)), (Sl Kf ([r11.1, r11.2])))] (K := Kf) (xs := [r11.1, r11.2]) (by decide) rfl ⟨⟨rfl, frz_it⟩, trivial⟩ (H' := [⟨.pointer (some q6), [(Vl (.float .f64 r11.1)), (Vl (.float .f64 r11.2))], 27, none⟩]) frzH_refl) (ent_fn' Try.func44 isn44 rfl rfl) (laws_wholeTo_sim _ _ hr19 : Go.Sx.Fn Try.prog 44 [(Vl (.float .f64 a0)), (Sl Kf ([r11.1, r11.2]))] [] (fun x : Unit => (Vl (.bool r19))) (fun x => [])) pu_vl rfl rfl) (wt_none' rfl) fun ⟨⟩ => ?_
      refine sx_rd' (rd_un' rfl ru_not) rfl rfl (wt_none' rfl) ?_
      refine sx_nil' ?_
      show TX E K14 _
      refine tx_k' hK14 ?_
      refine cx_cond' rfl (fun h5 => ?_) (fun h5 => ?_)
      · replace hp := (br_t h5).symm.trans hp
        refine cx_seq' fun K15 hK15 => ?_
        refine cx_region' ?_
        refine sx_rd' (rd_assign' rfl) rfl rfl (wt_none' rfl) ?_
        refine sx_nil' ?_
        show TX E K15 _
        refine tx_k' hK15 ?_
        refine cx_retc' ?_
        replace hp := Option.some.inj hp
        subst hp
        show TX E (Zg E Exit.ret _ Exit.ret) _
        exact tx_zend' () rfl [] (sub_cons rfl sub_nil) (by decide) pick_nil
      · replace hp := (br_f h5).symm.trans hp
        refine cx_skip' ?_
        show TX E K12 _
        refine tx_k' hK12 ?_
        refine cx_region' ?_
        refine sx_rd' (rd_bin' rfl rfl eg_int ru_add) rfl rfl (wt_none' rfl) ?_
        refine sx_rd' (rd_move' rfl) rfl rfl (wt_none' rfl) ?_
        refine sx_nil' ?_
        show TX E (KY1 _) _
        exact tx_pick' [] (sub_cons rfl (sub_cons rfl (sub_cons rfl (sub_cons rfl sub_nil)))) (by decide) pick_nil (ih1 (iadd .i64 x1 1) () _ hp)
    · replace hp := (br_f h4).symm.trans hp
      refine cx_exit' ?_
      replace hp := Option.some.inj hp
      subst hp
      show TX E (Zg E (Exit.exit 0) _ (Exit.exit 0)) _
      exact tx_zend' () rfl [] sub_nil (by decide) pick_nil
  · rcases y1 with v2 | v3
    · dsimp only at hp
      refine zg_out fun w2 => ?_
      replace hp := Option.some.inj hp
      subst hp
      refine tx_pick' (L' := [(4, (Vl (.bool false)))]) (H' := []) [] (sub_cons rfl sub_nil) (by decide) pick_nil ?_
      exact tx_ret1' Try.results16 rfl () (rv_tmp' rfl) (List.Sublist.refl _)
    · dsimp only at hp
      refine zg_out fun w3 => ?_
      show TX E K2 _
      refine tx_k' hK2 ?_
      refine cx_seq' fun K16 hK16 => ?_
      refine cx_region' ?_
      refine sx_rd' (rd_assign' rfl) rfl rfl (wt_none' rfl) ?_
      refine sx_nil' ?_
      show TX E K16 _
      refine tx_k' hK16 ?_
      refine cx_retc' ?_
      replace hp := Option.some.inj hp
      subst hp
      refine tx_pick' (L' := [(4, (Vl (.bool true)))]) (H' := []) [] (sub_cons rfl sub_nil) (by decide) pick_nil ?_
      exact tx_ret1' Try.results16 rfl () (rv_tmp' rfl) (List.Sublist.refl _)

def impl_coord (k : Nat) (a0_0 : Nat) (a0_1 : Nat) : Option ((List Nat)) :=
  some ([a0_0, a0_1])

theorem impl_coord_sim {k : Nat}  (a0_0 : Nat) (a0_1 : Nat) {out : (List Nat)} (hp : impl_coord k a0_0 a0_1 = some out) : Go.Sx.Fn Try.prog 72 [(Ag [(Vl (.float .f64 a0_0)), (Vl (.float .f64 a0_1))])] [] (fun w : Unit => (Sl Kf out)) (fun w => []) := by
  unfold impl_coord at hp
  refine fn_of Try.func72 rfl Try.ntmps72 rfl fun E hM => ?_
  refine cx_seq' fun K1 hK1 => ?_
  refine cx_region' ?_
  refine sx_ox' (ox_box' rfl (lv_ag _) rfl rfl) (wt_none' rfl) fun q1 => ?_
  refine sx_rd' (rd_assign' rfl) rfl rfl (wt_none' rfl) ?_
  refine sx_nil' ?_
  show TX E K1 _
  refine tx_k' hK1 ?_
  refine cx_seq' fun K2 hK2 => ?_
  refine cx_region' ?_
  refine sx_rd' (rd_field0' rfl Try.underlying27 rfl info25 rfl) rfl rfl (wt_none' rfl) ?_
  refine sx_rd' (rd_load' (i := 0) (o := 0) rfl ⟨rfl, rfl, rfl, rfl⟩ rfl flat25) rfl rfl (wt_none' rfl) ?_
  refine sx_rd' (rd_field' (off := 1) rfl Try.underlying27 rfl info25 rfl) rfl rfl (wt_none' rfl) ?_
  refine sx_rd' (rd_load' (i := 0) (o := 1) rfl ⟨rfl, rfl, rfl, rfl⟩ rfl flat25) rfl rfl (wt_none' rfl) ?_
  refine sx_ox' (ox_rowlit' (K := Kf) (xs := [a0_0, a0_1]) (qs := [(0, [(Vl (.float .f64 a0_0))]), (1, [(Vl (.float .f64 a0_1))])]) ⟨rfl, ⟨_, rfl, (lv_vl rfl rfl)⟩, ⟨rfl, ⟨_, rfl, (lv_vl rfl rfl)⟩, trivial⟩⟩ Try.underlying106 info25 rfl rfl rfl rfl rfl (by kernel_rfl) rfl rfl rfl) (wt_none' rfl) fun g7 => ?_
  refine sx_rd' (rd_assign' rfl) rfl rfl (wt_none' rfl) ?_
  refine sx_nil' ?_
  show TX E K2 _
  refine tx_k' hK2 ?_
  refine cx_retc' ?_
  replace hp := Option.some.inj hp
  subst hp
  refine tx_fz' (frz_row 0 [(2, (Vl (Vs g7)), (Sl Kf ([a0_0, a0_1]))), (7, (Vl (Vs g7)), (Sl Kf ([a0_0, a0_1])))] (K := Kf) (xs := [a0_0, a0_1]) (by decide) rfl ⟨⟨rfl, frz_it⟩, ⟨rfl, frz_it⟩, trivial⟩ (H' := [⟨.pointer (some q1), [(Vl (.float .f64 a0_0)), (Vl (.float .f64 a0_1))], 27, none⟩]) frzH_refl) ?_
  refine tx_pick' (L' := [(2, (Sl Kf ([a0_0, a0_1])))]) (H' := []) [] (sub_cons rfl sub_nil) (by decide) pick_nil ?_
  exact tx_ret1' Try.results72 rfl () (rv_tmp' rfl) (List.Sublist.refl _)

def centralendpoint_average_j1 (k : Nat) (x1 : List Nat) : Option ((List Nat)) :=
  some x1
def centralendpoint_average (k : Nat) (a0_0 : List Nat) (a0_1 : List Nat) (a0_2 : List Nat) (a0_3 : List Nat) : Option ((List Nat)) :=
  (idx ([0, 0]) 0) >>= fun r901 =>
  (idx a0_0 0) >>= fun r902 =>
  (fadd r901 r902) >>= fun r903 =>
  (idx ([0, 0]) 0) >>= fun r904 =>
  (idx (([0, 0]).set (0 : Int).toNat r903) 1) >>= fun r905 =>
  (idx a0_0 1) >>= fun r906 =>
  (fadd r905 r906) >>= fun r907 =>
  (idx (([0, 0]).set (0 : Int).toNat r903) 1) >>= fun r908 =>
  (idx ((([0, 0]).set (0 : Int).toNat r903).set (1 : Int).toNat r907) 0) >>= fun r909 =>
  (idx a0_1 0) >>= fun r9010 =>
  (fadd r909 r9010) >>= fun r9011 =>
  (idx ((([0, 0]).set (0 : Int).toNat r903).set (1 : Int).toNat r907) 0) >>= fun r9012 =>
  (idx (((([0, 0]).set (0 : Int).toNat r903).set (1 : Int).toNat r907).set (0 : Int).toNat r9011) 1) >>= fun r9013 =>
  (idx a0_1 1) >>= fun r9014 =>
  (fadd r9013 r9014) >>= fun r9015 =>
  (idx (((([0, 0]).set (0 : Int).toNat r903).set (1 : Int).toNat r907).set (0 : Int).toNat r9011) 1) >>= fun r9016 =>
  (idx ((((([0, 0]).set (0 : Int).toNat r903).set (1 : Int).toNat r907).set (0 : Int).toNat r9011).set (1 : Int).toNat r9015) 0) >>= fun r9017 =>
  (idx a0_2 0) >>= fun r9018 =>
  (fadd r9017 r9018) >>= fun r9019 =>
  (idx ((((([0, 0]).set (0 : Int).toNat r903).set (1 : Int).toNat r907).set (0 : Int).toNat r9011).set (1 : Int).toNat r9015) 0) >>= fun r9020 =>
  (idx (((((([0, 0]).set (0 : Int).toNat r903).set (1 : Int).toNat r907).set (0 : Int).toNat r9011).set (1 : Int).toNat r9015).set (0 : Int).toNat r9019) 1) >>= fun r9021 =>
  (idx a0_2 1) >>= fun r9022 =>
  (fadd r9021 r9022) >>= fun r9023 =>
  (idx (((((([0, 0]).set (0 : Int).toNat r903).set (1 : Int).toNat r907).set (0 : Int).toNat r9011).set (1 : Int).toNat r9015).set (0 : Int).toNat r9019) 1) >>= fun r9024 =>
  (idx ((((((([0, 0]).set (0 : Int).toNat r903).set (1 : Int).toNat r907).set (0 : Int).toNat r9011).set (1 : Int).toNat r9015).set (0 : Int).toNat r9019).set (1 : Int).toNat r9023) 0) >>= fun r9025 =>
  (idx a0_3 0) >>= fun r9026 =>
  (fadd r9025 r9026) >>= fun r9027 =>
  (idx ((((((([0, 0]).set (0 : Int).toNat r903).set (1 : Int).toNat r907).set (0 : Int).toNat r9011).set (1 : Int).toNat r9015).set (0 : Int).toNat r9019).set (1 : Int).toNat r9023) 0) >>= fun r9028 =>
  (idx (((((((([0, 0]).set (0 : Int).toNat r903).set (1 : Int).toNat r907).set (0 : Int).toNat r9011).set (1 : Int).toNat r9015).set (0 : Int).toNat r9019).set (1 : Int).toNat r9023).set (0 : Int).toNat r9027) 1) >>= fun r9029 =>
  (idx a0_3 1) >>= fun r9030 =>
  (fadd r9029 r9030) >>= fun r9031 =>
  (idx (((((((([0, 0]).set (0 : Int).toNat r903).set (1 : Int).toNat r907).set (0 : Int).toNat r9011).set (1 : Int).toNat r9015).set (0 : Int).toNat r9019).set (1 : Int).toNat r9023).set (0 : Int).toNat r9027) 1) >>= fun r9032 =>
  br (fgt 4616189618054758400 0)
    ((idx ((((((((([0, 0]).set (0 : Int).toNat r903).set (1 : Int).toNat r907).set (0 : Int).toNat r9011).set (1 : Int).toNat r9015).set (0 : Int).toNat r9019).set (1 : Int).toNat r9023).set (0 : Int).toNat r9027).set (1 : Int).toNat r9031) 0) >>= fun r34 =>
    (some (gdiv r34 4616189618054758400)) >>= fun r37 =>
    (idx ((((((((([0, 0]).set (0 : Int).toNat r903).set (1 : Int).toNat r907).set (0 : Int).toNat r9011).set (1 : Int).toNat r9015).set (0 : Int).toNat r9019).set (1 : Int).toNat r9023).set (0 : Int).toNat r9027).set (1 : Int).toNat r9031) 0) >>= fun r38 =>
    (num r37) >>= fun u1 =>
    (idx (((((((((([0, 0]).set (0 : Int).toNat r903).set (1 : Int).toNat r907).set (0 : Int).toNat r9011).set (1 : Int).toNat r9015).set (0 : Int).toNat r9019).set (1 : Int).toNat r9023).set (0 : Int).toNat r9027).set (1 : Int).toNat r9031).set (0 : Int).toNat r37) 1) >>= fun r40 =>
    (some (gdiv r40 4616189618054758400)) >>= fun r43 =>
    (idx (((((((((([0, 0]).set (0 : Int).toNat r903).set (1 : Int).toNat r907).set (0 : Int).toNat r9011).set (1 : Int).toNat r9015).set (0 : Int).toNat r9019).set (1 : Int).toNat r9023).set (0 : Int).toNat r9027).set (1 : Int).toNat r9031).set (0 : Int).toNat r37) 1) >>= fun r44 =>
    (num r43) >>= fun u2 =>
    centralendpoint_average_j1 k ((((((((((([0, 0]).set (0 : Int).toNat r903).set (1 : Int).toNat r907).set (0 : Int).toNat r9011).set (1 : Int).toNat r9015).set (0 : Int).toNat r9019).set (1 : Int).toNat r9023).set (0 : Int).toNat r9027).set (1 : Int).toNat r9031).set (0 : Int).toNat r37).set (1 : Int).toNat r43))
    (centralendpoint_average_j1 k ((((((((([0, 0]).set (0 : Int).toNat r903).set (1 : Int).toNat r907).set (0 : Int).toNat r9011).set (1 : Int).toNat r9015).set (0 : Int).toNat r9019).set (1 : Int).toNat r9023).set (0 : Int).toNat r9027).set (1 : Int).toNat r9031))

theorem centralendpoint_average_sim {k : Nat}  (a0_0 : List Nat) (a0_1 : List Nat) (a0_2 : List Nat) (a0_3 : List Nat) {out : (List Nat)} (hp : centralendpoint_average k a0_0 a0_1 a0_2 a0_3 = some out) : Go.Sx.Fn Try.prog 160 [(Ag [(Sl Kf a0_0), (Sl Kf a0_1), (Sl Kf a0_2), (Sl Kf a0_3)])] [] (fun w : Unit => (Sl Kf out)) (fun w => []) := by
  unfold centralendpoint_average at hp
  refine fn_of Try.func160 rfl Try.ntmps160 rfl fun E hM => ?_
  refine cx_seq' fun K1 hK1 => ?_
  refine cx_region' ?_
  refine sx_ox' (ox_box' rfl (lv_ag _) rfl rfl) (wt_none' rfl) fun q1 => ?_
  refine sx_rd' (rd_assign' rfl) rfl rfl (wt_none' rfl) ?_
  refine sx_nil' ?_
  show TX E K1 _
  refine tx_k' hK1 ?_
  refine cx_seq' fun K2 hK2 => ?_
  refine cx_region' ?_
  refine sx_ox' (ox_rowlit' (K := Kf) (xs := [0, 0]) (qs := [(0, [(Vl (.float .f64 0))]), (1, [(Vl (.float .f64 0))])]) ⟨rfl, ⟨_, rfl, (lv_vl rfl rfl)⟩, ⟨rfl, ⟨_, rfl, (lv_vl rfl rfl)⟩, trivial⟩⟩ Try.underlying106 info25 rfl rfl rfl rfl rfl (by kernel_rfl) rfl rfl rfl) (wt_none' rfl) fun g6 => ?_
  refine sx_rd' (rd_assign' rfl) rfl rfl (wt_none' rfl) ?_
  refine sx_nil' ?_
  show TX E K2 _
  refine tx_k' hK2 ?_
  refine cx_seq' fun K3 hK3 => ?_
  refine cx_seq' fun K4 hK4 => ?_
  refine cx_region' ?_
  refine sx_rd' (rd_move' rfl) rfl rfl (wt_none' rfl) ?_
  refine sx_nil' ?_
  show TX E K4 _
  refine tx_k' hK4 ?_
  refine cx_block' ?_
  refine tx_loop' ?_
  refine tx_round' ?_
  refine cx_seq' fun K5 hK5 => ?_
  refine cx_region' ?_
  refine sx_rd' (rd_bin' rfl rfl eg_int ru_lss) rfl rfl (wt_none' rfl) ?_
  refine sx_nil' ?_
  show TX E K5 _
  refine tx_k' hK5 ?_
  refine cx_seq' fun K6 hK6 => ?_
  refine cx_cond_t' rfl rfl ?_
  refine cx_skip' ?_
  show TX E K6 _
  refine tx_k' hK6 ?_
  refine cx_seq' fun K7 hK7 => ?_
  refine cx_block' ?_
  refine cx_seq' fun K8 hK8 => ?_
  refine cx_region' ?_
  refine sx_rd' (rd_move' rfl) rfl rfl (wt_none' rfl) ?_
  refine sx_rd' (rd_assign' rfl) rfl rfl (wt_none' rfl) ?_
  refine sx_nil' ?_
  show TX E K8 _
  refine tx_k' hK8 ?_
  refine cx_seq' fun K9 hK9 => ?_
  refine cx_plan' [] [(10, 1)] [(0, 1), (1, 1), (2, 1), (3, 1), (4, 1), (5, 1), (6, 1), (7, 1), (8, 1), (9, 1), (10, 0)] mixed (by kernel_rfl) ?_
  refine px_rd' rfl (rd_move' rfl) rfl rfl (wt_none' rfl) ?_
  obtain ⟨r901, hr901, hp⟩ := bind_some hp
  refine px_rd' rfl (rd_atr' (m := 0) rfl rfl rfl rfl hr901 Try.underlying106 info25) rfl rfl (wt_none' rfl) ?_
  refine px_rd' rfl (rd_loadr' rfl (m := 0) (i := 0) (j := 0) rfl rfl hr901 rfl rfl flat25) rfl rfl (wt_none' rfl) ?_
  refine px_rd' rfl (rd_move' rfl) rfl rfl (wt_none' rfl) ?_
  refine px_rd' rfl (rd_ixa' (p' := q1) rfl rfl (by decide) (by decide) Try.underlying177 info106 rfl) rfl rfl (wt_none' rfl) ?_
  refine px_rd' rfl (rd_load' (i := 1) (o := 0) rfl ⟨rfl, rfl, rfl, rfl⟩ rfl flat106) rfl rfl (wt_none' rfl) ?_
  obtain ⟨r902, hr902, hp⟩ := bind_some hp
  refine px_rd' rfl (rd_at' (K := Kf) rfl rfl hr902 Try.underlying106 info25) rfl rfl (wt_none' rfl) ?_
  refine px_rd' rfl (rd_load_pt' rfl rfl flat25) rfl rfl (wt_none' rfl) ?_
  obtain ⟨r903, hr903, hp⟩ := bind_some hp
  refine px_rd' rfl (rd_bin' rfl rfl eg_flt (ru_fadd hr903)) rfl rfl (wt_none' rfl) ?_
  obtain ⟨r904, hr904, hp⟩ := bind_some hp
  refine px_rd' rfl (rd_atr' (m := 0) rfl rfl rfl rfl hr904 Try.underlying106 info25) rfl rfl (wt_none' rfl) ?_
  refine px_ox' rfl (ox_storer' (m := 0) (i := 0) (j := 0) (x' := r903) rfl rfl (lv_vl rfl rfl) rfl rfl hr904 rfl rfl rfl info25 rfl (H' := [(Rw Kf 25 (Vs g6) (([0, 0]).set (0 : Int).toNat r903)), ⟨.pointer (some q1), [(Sl Kf a0_0), (Sl Kf a0_1), (Sl Kf a0_2), (Sl Kf a0_3)], 177, none⟩]) rfl) rfl bs_nil (wt_none' rfl) fun _ => ?_
  refine px_nil' ?_
  show TX E K9 _
  refine tx_k' hK9 ?_
  refine cx_plan' [] [(10, 1)] [(0, 1), (1, 1), (2, 1), (3, 1), (4, 1), (5, 1), (6, 1), (7, 1), (8, 1), (9, 1), (10, 0)] mixed (by kernel_rfl) ?_
  refine px_rd' rfl (rd_move' rfl) rfl rfl (wt_none' rfl) ?_
  obtain ⟨r905, hr905, hp⟩ := bind_some hp
  refine px_rd' rfl (rd_atr' (m := 0) rfl rfl rfl rfl hr905 Try.underlying106 info25) rfl rfl (wt_none' rfl) ?_
  refine px_rd' rfl (rd_loadr' rfl (m := 0) (i := 1) (j := 0) rfl rfl hr905 rfl rfl flat25) rfl rfl (wt_none' rfl) ?_
  refine px_rd' rfl (rd_move' rfl) rfl rfl (wt_none' rfl) ?_
  refine px_rd' rfl (rd_ixa' (p' := q1) rfl rfl (by decide) (by decide) Try.underlying177 info106 rfl) rfl rfl (wt_none' rfl) ?_
  refine px_rd' rfl (rd_load' (i := 1) (o := 0) rfl ⟨rfl, rfl, rfl, rfl⟩ rfl flat106) rfl rfl (wt_none' rfl) ?_
  obtain ⟨r906, hr906, hp⟩ := bind_some hp
  refine px_rd' rfl (rd_at' (K := Kf) rfl rfl hr906 Try.underlying106 info25) rfl rfl (wt_none' rfl) ?_
  refine px_rd' rfl (rd_load_pt' rfl rfl flat25) rfl rfl (wt_none' rfl) ?_
  obtain ⟨r907, hr907, hp⟩ := bind_some hp
  refine px_rd' rfl (rd_bin' rfl rfl eg_flt (ru_fadd hr907)) rfl rfl (wt_none' rfl) ?_
  obtain ⟨r908, hr908, hp⟩ := bind_some hp
  refine px_rd' rfl (rd_atr' (m := 0) rfl rfl rfl rfl hr908 Try.underlying106 info25) rfl rfl (wt_none' rfl) ?_
  refine px_ox' rfl (ox_storer' (m := 0) (i := 1) (j := 0) (x' := r907) rfl rfl (lv_vl rfl rfl) rfl rfl hr908 rfl rfl rfl info25 rfl (H' := [(Rw Kf 25 (Vs g6) ((([0, 0]).set (0 : Int).toNat r903).set (1 : Int).toNat r907)), ⟨.pointer (some q1), [(Sl Kf a0_0), (Sl Kf a0_1), (Sl Kf a0_2), (Sl Kf a0_3)], 177, none⟩]) rfl) rfl bs_nil (wt_none' rfl) fun _ => ?_
  refine px_nil' ?_
  show TX E K7 _
  refine tx_k' hK7 ?_
  refine cx_region' ?_
  refine sx_rd' (rd_bin' rfl rfl eg_int (ru_addc (c := 1) (by decide))) rfl rfl (wt_none' rfl) ?_
  refine sx_rd' (rd_move' rfl) rfl rfl (wt_none' rfl) ?_
  refine sx_nil' ?_
  show TX E (LoopIn _ _ _) _
  refine tx_round' ?_
  refine cx_seq' fun K10 hK10 => ?_
  refine cx_region' ?_
  refine sx_rd' (rd_bin' rfl rfl eg_int ru_lss) rfl rfl (wt_none' rfl) ?_
  refine sx_nil' ?_
  show TX E K10 _
  refine tx_k' hK10 ?_
  refine cx_seq' fun K11 hK11 => ?_
  refine cx_cond_t' rfl rfl ?_
  refine cx_skip' ?_
  show TX E K11 _
  refine tx_k' hK11 ?_
  refine cx_seq' fun K12 hK12 => ?_
  refine cx_block' ?_
  refine cx_seq' fun K13 hK13 => ?_
  refine cx_region' ?_
  refine sx_rd' (rd_move' rfl) rfl rfl (wt_none' rfl) ?_
  refine sx_rd' (rd_assign' rfl) rfl rfl (wt_none' rfl) ?_
  refine sx_nil' ?_
  show TX E K13 _
  refine tx_k' hK13 ?_
  refine cx_seq' fun K14 hK14 => ?_
  refine cx_plan' [] [(10, 1)] [(0, 1), (1, 1), (2, 1), (3, 1), (4, 1), (5, 1), (6, 1), (7, 1), (8, 1), (9, 1), (10, 0)] mixed (by kernel_rfl) ?_
  refine px_rd' rfl (rd_move' rfl) rfl rfl (wt_none' rfl) ?_
  obtain ⟨r909, hr909, hp⟩ := bind_some hp
  refine px_rd' rfl (rd_atr' (m := 0) rfl rfl rfl rfl hr909 Try.underlying106 info25) rfl rfl (wt_none' rfl) ?_
  refine px_rd' rfl (rd_loadr' rfl (m := 0) (i := 0) (j := 0) rfl rfl hr909 rfl rfl flat25) rfl rfl (wt_none' rfl) ?_
  refine px_rd' rfl (rd_move' rfl) rfl rfl (wt_none' rfl) ?_
  refine px_rd' rfl (rd_ixa' (p' := (q1).add 1) rfl rfl (by decide) (by decide) Try.underlying177 info106 rfl) rfl rfl (wt_none' rfl) ?_
  refine px_rd' rfl (rd_load' (i := 1) (o := 1) rfl ⟨rfl, rfl, rfl, rfl⟩ rfl flat106) rfl rfl (wt_none' rfl) ?_
  obtain ⟨r9010, hr9010, hp⟩ := bind_some hp
  refine px_rd' rfl (rd_at' (K := Kf) rfl rfl hr9010 Try.underlying106 info25) rfl rfl (wt_none' rfl) ?_
  refine px_rd' rfl (rd_load_pt' rfl rfl flat25) rfl rfl (wt_none' rfl) ?_
  obtain ⟨r9011, hr9011, hp⟩ := bind_some hp
  refine px_rd' rfl (rd_bin' rfl rfl eg_flt (ru_fadd hr9011)) rfl rfl (wt_none' rfl) ?_
  obtain ⟨r9012, hr9012, hp⟩ := bind_some hp
  refine px_rd' rfl (rd_atr' (m := 0) rfl rfl rfl rfl hr9012 Try.underlying106 info25) rfl rfl (wt_none' rfl) ?_
  refine px_ox' rfl (ox_storer' (m := 0) (i := 0) (j := 0) (x' := r9011) rfl rfl (lv_vl rfl rfl) rfl rfl hr9012 rfl rfl rfl info25 rfl (H' := [(Rw Kf 25 (Vs g6) (((([0, 0]).set (0 : Int).toNat r903).set (1 : Int).toNat r907).set (0 : Int).toNat r9011)), ⟨.pointer (some q1), [(Sl Kf a0_0), (Sl Kf a0_1), (Sl Kf a0_2), (Sl Kf a0_3)], 177, none⟩]) rfl) rfl bs_nil (wt_none' rfl) fun _ => ?_
  refine px_nil' ?_
  show TX E K14 _
  refine tx_k' hK14 ?_
  refine cx_plan' [] [(10, 1)] [(0, 1), (1, 1), (2, 1), (3, 1), (4, 1), (5, 1), (6, 1), (7, 1), (8, 1), (9, 1), (10, 0)] mixed (by kernel_rfl) ?_
  refine px_rd' rfl (rd_move' rfl) rfl rfl (wt_none' rfl) ?_
  obtain ⟨r9013, hr9013, hp⟩ := bind_some hp
  refine px_rd' rfl (rd_atr' (m := 0) rfl rfl rfl rfl hr9013 Try.underlying106 info25) rfl rfl (wt_none' rfl) ?_
  refine px_rd' rfl (rd_loadr' rfl (m := 0) (i := 1) (j := 0) rfl rfl hr9013 rfl rfl flat25) rfl rfl (wt_none' rfl) ?_
  refine px_rd' rfl (rd_move' rfl) rfl rfl (wt_none' rfl) ?_
  refine px_rd' rfl (rd_ixa' (p' := (q1).add 1) rfl rfl (by decide) (by decide) Try.underlying177 info106 rfl) rfl rfl (wt_none' rfl) ?_
  refine px_rd' rfl (rd_load' (i := 1) (o := 1) rfl ⟨rfl, rfl, rfl, rfl⟩ rfl flat106) rfl rfl (wt_none' rfl) ?_
  obtain ⟨r9014, hr9014, hp⟩ := bind_some hp
  refine px_rd' rfl (rd_at' (K := Kf) rfl rfl hr9014 Try.underlying106 info25) rfl rfl (wt_none' rfl) ?_
  refine px_rd' rfl (rd_load_pt' rfl rfl flat25) rfl rfl (wt_none' rfl) ?_
  obtain ⟨r9015, hr9015, hp⟩ := bind_some hp
  refine px_rd' rfl (rd_bin' rfl rfl eg_flt (ru_fadd hr9015)) rfl rfl (wt_none' rfl) ?_
  obtain ⟨r9016, hr9016, hp⟩ := bind_some hp
  refine px_rd' rfl (rd_atr' (m := 0) rfl rfl rfl rfl hr9016 Try.underlying106 info25) rfl rfl (wt_none' rfl) ?_
  refine px_ox' rfl (ox_storer' (m := 0) (i := 1) (j := 0) (x' := r9015) rfl rfl (lv_vl rfl rfl) rfl rfl hr9016 rfl rfl rfl info25 rfl (H' := [(Rw Kf 25 (Vs g6) ((((([0, 0]).set (0 : Int).toNat r903).set (1 : Int).toNat r907).set (0 : Int).toNat r9011).set (1 : Int).toNat r9015)), ⟨.pointer (some q1), [(Sl Kf a0_0), (Sl Kf a0_1), (Sl Kf a0_2), (Sl Kf a0_3)], 177, none⟩]) rfl) rfl bs_nil (wt_none' rfl) fun _ => ?_
  refine px_nil' ?_
  show TX E K12 _
  refine tx_k' hK12 ?_
  refine cx_region' ?_
  refine sx_rd' (rd_bin' rfl rfl eg_int (ru_addc (c := 2) (by decide))) rfl rfl (wt_none' rfl) ?_
  refine sx_rd' (rd_move' rfl) rfl rfl (wt_none' rfl) ?_
  refine sx_nil' ?_
  show TX E (LoopIn _ _ _) _
  refine tx_round' ?_
  refine cx_seq' fun K15 hK15 => ?_
  refine cx_region' ?_
  refine sx_rd' (rd_bin' rfl rfl eg_int ru_lss) rfl rfl (wt_none' rfl) ?_
  refine sx_nil' ?_
  show TX E K15 _
  refine tx_k' hK15 ?_
  refine cx_seq' fun K16 hK16 => ?_
  refine cx_cond_t' rfl rfl ?_
  refine cx_skip' ?_
  show TX E K16 _
  refine tx_k' hK16 ?_
  refine cx_seq' fun K17 hK17 => ?_
  refine cx_block' ?_
  refine cx_seq' fun K18 hK18 => ?_
  refine cx_region' ?_
  refine sx_rd' (rd_move' rfl) rfl rfl (wt_none' rfl) ?_
  refine sx_rd' (rd_assign' rfl) rfl rfl (wt_none' rfl) ?_
  refine sx_nil' ?_
  show TX E K18 _
  refine tx_k' hK18 ?_
  refine cx_seq' fun K19 hK19 => ?_
  refine cx_plan' [] [(10, 1)] [(0, 1), (1, 1), (2, 1), (3, 1), (4, 1), (5, 1), (6, 1), (7, 1), (8, 1), (9, 1), (10, 0)] mixed (by kernel_rfl) ?_
  refine px_rd' rfl (rd_move' rfl) rfl rfl (wt_none' rfl) ?_
  obtain ⟨r9017, hr9017, hp⟩ := bind_some hp
  refine px_rd' rfl (rd_atr' (m := 0) rfl rfl rfl rfl hr9017 Try.underlying106 info25) rfl rfl (wt_none' rfl) ?_
  refine px_rd' rfl (rd_loadr' rfl (m := 0) (i := 0) (j := 0) rfl rfl hr9017 rfl rfl flat25) rfl rfl (wt_none' rfl) ?_
  refine px_rd' rfl (rd_move' rfl) rfl rfl (wt_none' rfl) ?_
  refine px_rd' rfl (rd_ixa' (p' := (q1).add 2) rfl rfl (by decide) (by decide) Try.underlying177 info106 rfl) rfl rfl (wt_none' rfl) ?_
  refine px_rd' rfl (rd_load' (i := 1) (o := 2) rfl ⟨rfl, rfl, rfl, rfl⟩ rfl flat106) rfl rfl (wt_none' rfl) ?_
  obtain ⟨r9018, hr9018, hp⟩ := bind_some hp
  refine px_rd' rfl (rd_at' (K := Kf) rfl rfl hr9018 Try.underlying106 info25) rfl rfl (wt_none' rfl) ?_
  refine px_rd' rfl (rd_load_pt' rfl rfl flat25) rfl rfl (wt_none' rfl) ?_
  obtain ⟨r9019, hr9019, hp⟩ := bind_some hp
  refine px_rd' rfl (rd_bin' rfl rfl eg_flt (ru_fadd hr9019)) rfl rfl (wt_none' rfl) ?_
  obtain ⟨r9020, hr9020, hp⟩ := bind_some hp
  refine px_rd' rfl (rd_atr' (m := 0) rfl rfl rfl rfl hr9020 Try.underlying106 info25) rfl rfl (wt_none' rfl) ?_
  refine px_ox' rfl (ox_storer' (m := 0) (i := 0) (j := 0) (x' := r9019) rfl rfl (lv_vl rfl rfl) rfl rfl hr9020 rfl rfl rfl info25 rfl (H' := [(Rw Kf 25 (Vs g6) (((((([0, 0]).set (0 : Int).toNat r903).set (1 : Int).toNat r907).set (0 : Int).toNat r9011).set (1 : Int).toNat r9015).set (0 : Int).toNat r9019)), ⟨.pointer (some q1), [(Sl Kf a0_0), (Sl Kf a0_1), (Sl Kf a0_2), (Sl Kf a0_3)], 177, none⟩]) rfl) rfl bs_nil (wt_none' rfl) fun _ => ?_
  refine px_nil' ?_
  show TX E K19 _
  refine tx_k' hK19 ?_
  refine cx_plan' [] [(10, 1)] [(0, 1), (1, 1), (2, 1), (3, 1), (4, 1), (5, 1), (6, 1), (7, 1), (8, 1), (9, 1), (10, 0)] mixed (by kernel_rfl) ?_
  refine px_rd' rfl (rd_move' rfl) rfl rfl (wt_none' rfl) ?_
  obtain ⟨r9021, hr9021, hp⟩ := bind_some hp
  refine px_rd' rfl (rd_atr' (m := 0) rfl rfl rfl rfl hr9021 Try.underlying106 info25) rfl rfl (wt_none' rfl) ?_
  refine px_rd' rfl (rd_loadr' rfl (m := 0) (i := 1) (j := 0) rfl rfl hr9021 rfl rfl flat25) rfl rfl (wt_none' rfl) ?_
  refine px_rd' rfl (rd_move' rfl) rfl rfl (wt_none' rfl) ?_
  refine px_rd' rfl (rd_ixa' (p' := (q1).add 2) rfl rfl (by decide) (by decide) Try.underlying177 info106 rfl) rfl rfl (wt_none' rfl) ?_
  refine px_rd' rfl (rd_load' (i := 1) (o := 2) rfl ⟨rfl, rfl, rfl, rfl⟩ rfl flat106) rfl rfl (wt_none' rfl) ?_
  obtain ⟨r9022, hr9022, hp⟩ := bind_some hp
  refine px_rd' rfl (rd_at' (K := Kf) rfl rfl hr9022 Try.underlying106 info25) rfl rfl (wt_none' rfl) ?_
  refine px_rd' rfl (rd_load_pt' rfl rfl flat25) rfl rfl (wt_none' rfl) ?_
  obtain ⟨r9023, hr9023, hp⟩ := bind_some hp
  refine px_rd' rfl (rd_bin' rfl rfl eg_flt (ru_fadd hr9023)) rfl rfl (wt_none' rfl) ?_
  obtain ⟨r9024, hr9024, hp⟩ := bind_some hp
  refine px_rd' rfl (rd_atr' (m := 0) rfl rfl rfl rfl hr9024 Try.underlying106 info25) rfl rfl (wt_none' rfl) ?_
  refine px_ox' rfl (ox_storer' (m := 0) (i := 1) (j := 0) (x' := r9023) rfl rfl (lv_vl rfl rfl) rfl rfl hr9024 rfl rfl rfl info25 rfl (H' := [(Rw Kf 25 (Vs g6) ((((((([0, 0]).set (0 : Int).toNat r903).set (1 : Int).toNat r907).set (0 : Int).toNat r9011).set (1 : Int).toNat r9015).set (0 : Int).toNat r9019).set (1 : Int).toNat r9023)), ⟨.pointer (some q1), [(Sl Kf a0_0), (Sl Kf a0_1), (Sl Kf a0_2), (Sl Kf a0_3)], 177, none⟩]) rfl) rfl bs_nil (wt_none' rfl) fun _ => ?_
  refine px_nil' ?_
  show TX E K17 _
  refine tx_k' hK17 ?_
  refine cx_region' ?_
  refine sx_rd' (rd_bin' rfl rfl eg_int (ru_addc (c := 3) (by decide))) rfl rfl (wt_none' rfl) ?_
  refine sx_rd' (rd_move' rfl) rfl rfl (wt_none' rfl) ?_
  refine sx_nil' ?_
  show TX E (LoopIn _ _ _) _
  refine tx_round' ?_
  refine cx_seq' fun K20 hK20 => ?_
  refine cx_region' ?_
  refine sx_rd' (rd_bin' rfl rfl eg_int ru_lss) rfl rfl (wt_none' rfl) ?_
  refine sx_nil' ?_
  show TX E K20 _
  refine tx_k' hK20 ?_
  refine cx_seq' fun K21 hK21 => ?_
  refine cx_cond_t' rfl rfl ?_
  refine cx_skip' ?_
  show TX E K21 _
  refine tx_k' hK21 ?_
  refine cx_seq' fun K22 hK22 => ?_
  refine cx_block' ?_
  refine cx_seq' fun K23 hK23 => ?_
  refine cx_region' ?_
  refine sx_rd' (rd_move' rfl) rfl rfl (wt_none' rfl) ?_
  refine sx_rd' (rd_assign' rfl) rfl rfl (wt_none' rfl) ?_
  refine sx_nil' ?_
  show TX E K23 _
  refine tx_k' hK23 ?_
  refine cx_seq' fun K24 hK24 => ?_
  refine cx_plan' [] [(10, 1)] [(0, 1), (1, 1), (2, 1), (3, 1), (4, 1), (5, 1), (6, 1), (7, 1), (8, 1), (9, 1), (10, 0)] mixed (by kernel_rfl) ?_
  refine px_rd' rfl (rd_move' rfl) rfl rfl (wt_none' rfl) ?_
  obtain ⟨r9025, hr9025, hp⟩ := bind_some hp
  refine px_rd' rfl (rd_atr' (m := 0) rfl rfl rfl rfl hr9025 Try.underlying106 info25) rfl rfl (wt_none' rfl) ?_
  refine px_rd' rfl (rd_loadr' rfl (m := 0) (i := 0) (j := 0) rfl rfl hr9025 rfl rfl flat25) rfl rfl (wt_none' rfl) ?_
  refine px_rd' rfl (rd_move' rfl) rfl rfl (wt_none' rfl) ?_
  refine px_rd' rfl (rd_ixa' (p' := (q1).add 3) rfl rfl (by decide) (by decide) Try.underlying177 info106 rfl) rfl rfl (wt_none' rfl) ?_
  refine px_rd' rfl (rd_load' (i := 1) (o := 3) rfl ⟨rfl, rfl, rfl, rfl⟩ rfl flat106) rfl rfl (wt_none' rfl) ?_
  obtain ⟨r9026, hr9026, hp⟩ := bind_some hp
  refine px_rd' rfl (rd_at' (K := Kf) rfl rfl hr9026 Try.underlying106 info25) rfl rfl (wt_none' rfl) ?_
  refine px_rd' rfl (rd_load_pt' rfl rfl flat25) rfl rfl (wt_none' rfl) ?_
  obtain ⟨r9027, hr9027, hp⟩ := bind_some hp
  refine px_rd' rfl (rd_bin' rfl rfl eg_flt (ru_fadd hr9027)) rfl rfl (wt_none' rfl) ?_
  obtain ⟨r9028, hr9028, hp⟩ := bind_some hp
  refine px_rd' rfl (rd_atr' (m := 0) rfl rfl rfl rfl hr9028 Try.underlying106 info25) rfl rfl (wt_none' rfl) ?_
  refine px_ox' rfl (ox_storer' (m := 0) (i := 0) (j := 0) (x' := r9027) rfl rfl (lv_vl rfl rfl) rfl rfl hr9028 rfl rfl rfl info25 rfl (H' := [(Rw Kf 25 (Vs g6) (((((((([0, 0]).set (0 : Int).toNat r903).set (1 : Int).toNat r907).set (0 : Int).toNat r9011).set (1 : Int).toNat r9015).set (0 : Int).toNat r9019).set (1 : Int).toNat r9023).set (0 : Int).toNat r9027)), ⟨.pointer (some q1), [(Sl Kf a0_0), (Sl Kf a0_1), (Sl Kf a0_2), (Sl Kf a0_3)], 177, none⟩]) rfl) rfl bs_nil (wt_none' rfl) fun _ => ?_
  refine px_nil' ?_
  show TX E K24 _
  refine tx_k' hK24 ?_
  refine cx_plan' [] [(10, 1)] [(0, 1), (1, 1), (2, 1), (3, 1), (4, 1), (5, 1), (6, 1), (7, 1), (8, 1), (9, 1), (10, 0)] mixed (by kernel_rfl) ?_
  refine px_rd' rfl (rd_move' rfl) rfl rfl (wt_none' rfl) ?_
  obtain ⟨r9029, hr9029, hp⟩ := bind_some hp
  refine px_rd' rfl (rd_atr' (m := 0) rfl rfl rfl rfl hr9029 Try.underlying106 info25) rfl rfl (wt_none' rfl) ?_
  refine px_rd' rfl (rd_loadr' rfl (m := 0) (i := 1) (j := 0) rfl rfl hr9029 rfl rfl flat25) rfl rfl (wt_none' rfl) ?_
  refine px_rd' rfl (rd_move' rfl) rfl rfl (wt_none' rfl) ?_
  refine px_rd' rfl (rd_ixa' (p' := (q1).add 3) rfl rfl (by decide) (by decide) Try.underlying177 info106 rfl) rfl rfl (wt_none' rfl) ?_
  refine px_rd' rfl (rd_load' (i := 1) (o := 3) rfl ⟨rfl, rfl, rfl, rfl⟩ rfl flat106) rfl rfl (wt_none' rfl) ?_
  obtain ⟨r9030, hr9030, hp⟩ := bind_some hp
  refine px_rd' rfl (rd_at' (K := Kf) rfl rfl hr9030 Try.underlying106 info25) rfl rfl (wt_none' rfl) ?_
  refine px_rd' rfl (rd_load_pt' rfl rfl flat25) rfl rfl (wt_none' rfl) ?_
  obtain ⟨r9031, hr9031, hp⟩ := bind_some hp
  refine px_rd' rfl (rd_bin' rfl rfl eg_flt (ru_fadd hr9031)) rfl rfl (wt_none' rfl) ?_
  obtain ⟨r9032, hr9032, hp⟩ := bind_some hp
  refine px_rd' rfl (rd_atr' (m := 0) rfl rfl rfl rfl hr9032 Try.underlying106 info25) rfl rfl (wt_none' rfl) ?_
  refine px_ox' rfl (ox_storer' (m := 0) (i := 1) (j := 0) (x' := r9031) rfl rfl (lv_vl rfl rfl) rfl rfl hr9032 rfl rfl rfl info25 rfl (H' := [(Rw Kf 25 (Vs g6) ((((((((([0, 0]).set (0 : Int).toNat r903).set (1 : Int).toNat r907).set (0 : Int).toNat r9011).set (1 : Int).toNat r9015).set (0 : Int).toNat r9019).set (1 : Int).toNat r9023).set (0 : Int).toNat r9027).set (1 : Int).toNat r9031)), ⟨.pointer (some q1), [(Sl Kf a0_0), (Sl Kf a0_1), (Sl Kf a0_2), (Sl Kf a0_3)], 177, none⟩]) rfl) rfl bs_nil (wt_none' rfl) fun _ => ?_
  refine px_nil' ?_
  show TX E K22 _
  refine tx_k' hK22 ?_
  refine cx_region' ?_
  refine sx_rd' (rd_bin' rfl rfl eg_int (ru_addc (c := 4) (by decide))) rfl rfl (wt_none' rfl) ?_
  refine sx_rd' (rd_move' rfl) rfl rfl (wt_none' rfl) ?_
  refine sx_nil' ?_
  show TX E (LoopIn _ _ _) _
  refine tx_round' ?_
  refine cx_seq' fun K25 hK25 => ?_
  refine cx_region' ?_
  refine sx_rd' (rd_bin' rfl rfl eg_int ru_lss) rfl rfl (wt_none' rfl) ?_
  refine sx_nil' ?_
  show TX E K25 _
  refine tx_k' hK25 ?_
  refine cx_seq' fun K26 hK26 => ?_
  refine cx_cond_f' rfl rfl ?_
  refine cx_exit' ?_
  show TX E K3 _
  refine tx_k' hK3 ?_
  refine cx_join' (fun (v1 : (List Nat)) => (⟨46, [], [(3, (Vl (Vs g6)))], [(Rw Kf 25 (Vs g6) v1)]⟩ : St)) (fun (v1 : (List Nat)) => centralendpoint_average_j1 k v1 = some out) ?_ ?_
  · rintro x1 hp
    replace hp : centralendpoint_average_j1 k x1 = some out := hp
    unfold centralendpoint_average_j1 at hp
    refine cx_seq' fun K31 hK31 => ?_
    refine cx_region' ?_
    refine sx_rd' (rd_move' rfl) rfl rfl (wt_none' rfl) ?_
    refine sx_rd' (rd_assign' rfl) rfl rfl (wt_none' rfl) ?_
    refine sx_nil' ?_
    show TX E K31 _
    refine tx_k' hK31 ?_
    refine cx_retc' ?_
    replace hp := Option.some.inj hp
    subst hp
    refine tx_fz' (frz_row 0 [(3, (Vl (Vs g6)), (Sl Kf x1)), (45, (Vl (Vs g6)), (Sl Kf x1)), (2, (Vl (Vs g6)), (Sl Kf x1))] (K := Kf) (xs := x1) (by decide) rfl ⟨⟨rfl, frz_it⟩, ⟨rfl, frz_it⟩, ⟨rfl, frz_it⟩, trivial⟩ (H' := []) frzH_refl) ?_
    refine tx_pick' (L' := [(2, (Sl Kf x1))]) (H' := []) [] (sub_cons rfl sub_nil) (by decide) pick_nil ?_
    exact tx_ret1' Try.results160 rfl () (rv_tmp' rfl) (List.Sublist.refl _)
  · intro K27 hK27
    refine cx_seq' fun K28 hK28 => ?_
    refine cx_region' ?_
    refine sx_rd' (rd_assign' rfl) rfl rfl (wt_none' rfl) ?_
    refine sx_nil' ?_
    show TX E K28 _
    refine tx_k' hK28 ?_
    refine cx_seq' fun K29 hK29 => ?_
    refine cx_region' ?_
    refine sx_rd' (rd_move' rfl) rfl rfl (wt_none' rfl) ?_
    refine sx_rd' (rd_bin' rfl rfl eg_flt ru_fgt) rfl rfl (wt_none' rfl) ?_
    refine sx_nil' ?_
    show TX E K29 _
    refine tx_k' hK29 ?_
    refine cx_cond' rfl (fun h1 => ?_) (fun h1 => ?_)
    · replace hp := (br_t h1).symm.trans hp
      refine cx_seq' fun K30 hK30 => ?_
      refine cx_region' ?_
      refine sx_rd' (rd_move' rfl) rfl rfl (wt_none' rfl) ?_
      obtain ⟨r34, hr34, hp⟩ := bind_some hp
      refine sx_rd' (rd_atr' (m := 0) rfl rfl rfl rfl hr34 Try.underlying106 info25) rfl rfl (wt_none' rfl) ?_
      refine sx_rd' (rd_loadr' rfl (m := 0) (i := 0) (j := 0) rfl rfl hr34 rfl rfl flat25) rfl rfl (wt_none' rfl) ?_
      refine sx_rd' (rd_move' rfl) rfl rfl (wt_none' rfl) ?_
      obtain ⟨r37, hr37, hp⟩ := bind_some hp
      refine sx_ox' (ox_fop' (.inr (.inr (.inr rfl))) (fl_v rfl) (fl_v rfl) (Option.some.inj hr37) rfl rfl) (wt_none' rfl) fun _ => ?_
      obtain ⟨r38, hr38, hp⟩ := bind_some hp
      refine sx_rd' (rd_atr' (m := 0) rfl rfl rfl rfl hr38 Try.underlying106 info25) rfl rfl (wt_none' rfl) ?_
      obtain ⟨u1, hu1, hp⟩ := bind_some hp
      refine tx_slot' 37 (y := (Vl (.float .f64 r37))) rfl (imp_num (num_some hu1).2) ?_
      refine sx_ox' (ox_storer' (m := 0) (i := 0) (j := 0) (x' := r37) rfl rfl (lv_vl rfl rfl) rfl rfl hr38 rfl rfl rfl info25 rfl (H' := [(Rw Kf 25 (Vs g6) (((((((((([0, 0]).set (0 : Int).toNat r903).set (1 : Int).toNat r907).set (0 : Int).toNat r9011).set (1 : Int).toNat r9015).set (0 : Int).toNat r9019).set (1 : Int).toNat r9023).set (0 : Int).toNat r9027).set (1 : Int).toNat r9031).set (0 : Int).toNat r37)), ⟨.pointer (some q1), [(Sl Kf a0_0), (Sl Kf a0_1), (Sl Kf a0_2), (Sl Kf a0_3)], 177, none⟩]) rfl) (wt_none' rfl) fun _ => ?_
      refine sx_nil' ?_
      show TX E K30 _
      refine tx_k' hK30 ?_
      refine cx_region' ?_
      refine sx_rd' (rd_move' rfl) rfl rfl (wt_none' rfl) ?_
      obtain ⟨r40, hr40, hp⟩ := bind_some hp
      refine sx_rd' (rd_atr' (m := 0) rfl rfl rfl rfl hr40 Try.underlying106 info25) rfl rfl (wt_none' rfl) ?_
      refine sx_rd' (rd_loadr' rfl (m := 0) (i := 1) (j := 0) rfl rfl hr40 rfl rfl flat25) rfl rfl (wt_none' rfl) ?_
      refine sx_rd' (rd_move' rfl) rfl rfl (wt_none' rfl) ?_
      obtain ⟨r43, hr43, hp⟩ := bind_some hp
      refine sx_ox' (ox_fop' (.inr (.inr (.inr rfl))) (fl_v rfl) (fl_v rfl) (Option.some.inj hr43) rfl rfl) (wt_none' rfl) fun _ => ?_
      obtain ⟨r44, hr44, hp⟩ := bind_some hp
      refine sx_rd' (rd_atr' (m := 0) rfl rfl rfl rfl hr44 Try.underlying106 info25) rfl rfl (wt_none' rfl) ?_
      obtain ⟨u2, hu2, hp⟩ := bind_some hp
      refine tx_slot' 43 (y := (Vl (.float .f64 r43))) rfl (imp_num (num_some hu2).2) ?_
      refine sx_ox' (ox_storer' (m := 0) (i := 1) (j := 0) (x' := r43) rfl rfl (lv_vl rfl rfl) rfl rfl hr44 rfl rfl rfl info25 rfl (H' := [(Rw Kf 25 (Vs g6) ((((((((((([0, 0]).set (0 : Int).toNat r903).set (1 : Int).toNat r907).set (0 : Int).toNat r9011).set (1 : Int).toNat r9015).set (0 : Int).toNat r9019).set (1 : Int).toNat r9023).set (0 : Int).toNat r9027).set (1 : Int).toNat r9031).set (0 : Int).toNat r37).set (1 : Int).toNat r43)), ⟨.pointer (some q1), [(Sl Kf a0_0), (Sl Kf a0_1), (Sl Kf a0_2), (Sl Kf a0_3)], 177, none⟩]) rfl) (wt_none' rfl) fun _ => ?_
      refine sx_nil' ?_
      show TX E K27 _
      exact tx_pick' [0] (sub_cons rfl sub_nil) (by decide) (pick_cons rfl pick_nil) (hK27 ((((((((((([0, 0]).set (0 : Int).toNat r903).set (1 : Int).toNat r907).set (0 : Int).toNat r9011).set (1 : Int).toNat r9015).set (0 : Int).toNat r9019).set (1 : Int).toNat r9023).set (0 : Int).toNat r9027).set (1 : Int).toNat r9031).set (0 : Int).toNat r37).set (1 : Int).toNat r43) hp)
    · replace hp := (br_f h1).symm.trans hp
      refine cx_skip' ?_
      show TX E K27 _
      exact tx_pick' [0] (sub_cons rfl sub_nil) (by decide) (pick_cons rfl pick_nil) (hK27 ((((((((([0, 0]).set (0 : Int).toNat r903).set (1 : Int).toNat r907).set (0 : Int).toNat r9011).set (1 : Int).toNat r9015).set (0 : Int).toNat r9019).set (1 : Int).toNat r9023).set (0 : Int).toNat r9027).set (1 : Int).toNat r9031) hp)

def math_Sqrt (k : Nat) (a0 : Nat) : Option (Nat) :=
  (some (gsqrt a0)) >>= fun r4 =>
  some r4

theorem math_Sqrt_sim {k : Nat}  (a0 : Nat) {out : Nat} (hp : math_Sqrt k a0 = some out) : Go.Sx.Fn Try.prog 40 [(Vl (.float .f64 a0))] [] (fun w : Unit => (Fl out)) (fun w => []) := by
  unfold math_Sqrt at hp
  refine fn_of Try.func40 rfl Try.ntmps40 rfl fun E hM => ?_
  refine cx_seq' fun K1 hK1 => ?_
  refine cx_region' ?_
  refine sx_rd' (rd_assign' rfl) rfl rfl (wt_none' rfl) ?_
  refine sx_nil' ?_
  show TX E K1 _
  refine tx_k' hK1 ?_
  refine cx_seq' fun K2 hK2 => ?_
  refine cx_region' ?_
  refine sx_rd' (rd_move' rfl) rfl rfl (wt_none' rfl) ?_
  obtain ⟨r4, hr4, hp⟩ := bind_some hp
  refine sx_ox' (ox_extf' rfl (fl_v rfl) Try.func86 (extf86 (Option.some.inj hr4)) rfl rfl) (wt_none' rfl) fun _ => ?_
  refine sx_rd' (rd_assign' rfl) rfl rfl (wt_none' rfl) ?_
  refine sx_nil' ?_
  show TX E K2 _
  refine tx_k' hK2 ?_
  refine cx_retc' ?_
  replace hp := Option.some.inj hp
  subst hp
  refine tx_pick' (L' := [(2, (Fl r4))]) (H' := []) [] (sub_cons rfl sub_nil) (by decide) pick_nil ?_
  exact tx_ret1' Try.results40 rfl () (rv_tmp' rfl) (List.Sublist.refl _)

def inner_Distance2D (k : Nat) (a0 : List Nat) (a1 : List Nat) : Option (Nat) :=
  (idx a0 0) >>= fun r8 =>
  (idx a1 0) >>= fun r11 =>
  (fsub r8 r11) >>= fun r13 =>
  (idx a0 1) >>= fun r15 =>
  (idx a1 1) >>= fun r18 =>
  (fsub r15 r18) >>= fun r20 =>
  (some (gmul r13 r13)) >>= fun r23 =>
  (some (gmul r20 r20)) >>= fun r26 =>
  (some (gadd r23 r26)) >>= fun r27 =>
  (num r27) >>= fun u1 =>
  (math_Sqrt k r27) >>= fun r28 =>
  some r28

theorem inner_Distance2D_sim {k : Nat}  (a0 : List Nat) (a1 : List Nat) {out : Nat} (hp : inner_Distance2D k a0 a1 = some out) : Go.Sx.Fn Try.prog 130 [(Sl Kf a0), (Sl Kf a1)] [] (fun w : Unit => (Fl out)) (fun w => []) := by
  unfold inner_Distance2D at hp
  refine fn_of Try.func130 rfl Try.ntmps130 rfl fun E hM => ?_
  refine cx_seq' fun K1 hK1 => ?_
  refine cx_region' ?_
  refine sx_rd' (rd_assign' rfl) rfl rfl (wt_none' rfl) ?_
  refine sx_nil' ?_
  show TX E K1 _
  refine tx_k' hK1 ?_
  refine cx_seq' fun K2 hK2 => ?_
  refine cx_draw' mixed (by kernel_rfl) ?_
  refine qx_rd' (rd_move' rfl) rfl rfl (wt_none' rfl) ?_
  obtain ⟨r8, hr8, hp⟩ := bind_some hp
  refine qx_rd' (rd_at' (K := Kf) rfl rfl hr8 Try.underlying106 info25) rfl rfl (wt_none' rfl) ?_
  refine qx_rd' (rd_load_pt' rfl rfl flat25) rfl rfl (wt_none' rfl) ?_
  refine qx_rd' (rd_move' rfl) rfl rfl (wt_none' rfl) ?_
  obtain ⟨r11, hr11, hp⟩ := bind_some hp
  refine qx_rd' (rd_at' (K := Kf) rfl rfl hr11 Try.underlying106 info25) rfl rfl (wt_none' rfl) ?_
  refine qx_rd' (rd_load_pt' rfl rfl flat25) rfl rfl (wt_none' rfl) ?_
  obtain ⟨r13, hr13, hp⟩ := bind_some hp
  refine qx_rd' (rd_bin' rfl rfl eg_flt (ru_fsub hr13)) rfl rfl (wt_none' rfl) ?_
  refine qx_rd' (rd_assign' rfl) rfl rfl (wt_none' rfl) ?_
  refine qx_nil' ?_
  show TX E K2 _
  refine tx_k' hK2 ?_
  refine cx_seq' fun K3 hK3 => ?_
  refine cx_draw' mixed (by kernel_rfl) ?_
  refine qx_rd' (rd_move' rfl) rfl rfl (wt_none' rfl) ?_
  obtain ⟨r15, hr15, hp⟩ := bind_some hp
  refine qx_rd' (rd_at' (K := Kf) rfl rfl hr15 Try.underlying106 info25) rfl rfl (wt_none' rfl) ?_
  refine qx_rd' (rd_load_pt' rfl rfl flat25) rfl rfl (wt_none' rfl) ?_
  refine qx_rd' (rd_move' rfl) rfl rfl (wt_none' rfl) ?_
  obtain ⟨r18, hr18, hp⟩ := bind_some hp
  refine qx_rd' (rd_at' (K := Kf) rfl rfl hr18 Try.underlying106 info25) rfl rfl (wt_none' rfl) ?_
  refine qx_rd' (rd_load_pt' rfl rfl flat25) rfl rfl (wt_none' rfl) ?_
  obtain ⟨r20, hr20, hp⟩ := bind_some hp
  refine qx_rd' (rd_bin' rfl rfl eg_flt (ru_fsub hr20)) rfl rfl (wt_none' rfl) ?_
  refine qx_rd' (rd_assign' rfl) rfl rfl (wt_none' rfl) ?_
  refine qx_nil' ?_
  show TX E K3 _
  refine tx_k' hK3 ?_
  refine cx_seq' fun K4 hK4 => ?_
  refine cx_region' ?_
  refine sx_rd' (rd_move' rfl) rfl rfl (wt_none' rfl) ?_
  refine sx_rd' (rd_move' rfl) rfl rfl (wt_none' rfl) ?_
  obtain ⟨r23, hr23, hp⟩ := bind_some hp
  refine sx_ox' (ox_fop' (.inr (.inr (.inl rfl))) (fl_v rfl) (fl_v rfl) (Option.some.inj hr23) rfl rfl) (wt_none' rfl) fun _ => ?_
  refine sx_rd' (rd_move' rfl) rfl rfl (wt_none' rfl) ?_
  refine sx_rd' (rd_move' rfl) rfl rfl (wt_none' rfl) ?_
  obtain ⟨r26, hr26, hp⟩ := bind_some hp
  refine sx_ox' (ox_fop' (.inr (.inr (.inl rfl))) (fl_v rfl) (fl_v rfl) (Option.some.inj hr26) rfl rfl) (wt_none' rfl) fun _ => ?_
  obtain ⟨r27, hr27, hp⟩ := bind_some hp
  refine sx_ox' (ox_fop' (.inl rfl) (fl_f rfl) (fl_f rfl) (Option.some.inj hr27) rfl rfl) (wt_none' rfl) fun _ => ?_
  obtain ⟨u1, hu1, hp⟩ := bind_some hp
  refine tx_slot' 27 (y := (Vl (.float .f64 r27))) rfl (imp_num (num_some hu1).2) ?_
  obtain ⟨r28, hr28, hp⟩ := bind_some hp
  refine sx_ox' (ox_calln' (ent_fn' Try.func40 isn40 rfl rfl) (math_Sqrt_sim _ hr28 : Go.Sx.Fn Try.prog 40 [(Vl (.float .f64 r27))] [] (fun x : Unit => (Fl r28)) (fun x => [])) (Hn := fun x : Unit => []) (fun _ => rfl) rfl rfl) (wt_none' rfl) fun ⟨⟩ => ?_
  refine sx_rd' (rd_assign' rfl) rfl rfl (wt_none' rfl) ?_
  refine sx_nil' ?_
  show TX E K4 _
  refine tx_k' hK4 ?_
  refine cx_retc' ?_
  replace hp := Option.some.inj hp
  subst hp
  refine tx_pick' (L' := [(4, (Fl r28))]) (H' := []) [] (sub_cons rfl sub_nil) (by decide) pick_nil ?_
  exact tx_ret1' Try.results130 rfl () (rv_tmp' rfl) (List.Sublist.refl _)

def centralendpoint_findNearestPoint_j3 (k : Nat) (x5 : Nat) (x6 : List Nat) : Option ((List Nat)) :=
  some x6
def centralendpoint_findNearestPoint_j2 (k : Nat) (a0 : List Nat) (a1_3 : List Nat) (x3 : Nat) (x4 : List Nat) : Option ((List Nat)) :=
  (inner_Distance2D k a0 a1_3) >>= fun r904 =>
  br (flt r904 x3)
    (centralendpoint_findNearestPoint_j3 k r904 a1_3)
    (centralendpoint_findNearestPoint_j3 k x3 x4)
def centralendpoint_findNearestPoint_j1 (k : Nat) (a0 : List Nat) (a1_2 : List Nat) (a1_3 : List Nat) (x1 : Nat) (x2 : List Nat) : Option ((List Nat)) :=
  (inner_Distance2D k a0 a1_2) >>= fun r903 =>
  br (flt r903 x1)
    (centralendpoint_findNearestPoint_j2 k a0 a1_3 r903 a1_2)
    (centralendpoint_findNearestPoint_j2 k a0 a1_3 x1 x2)
def centralendpoint_findNearestPoint (k : Nat) (a0 : List Nat) (a1_0 : List Nat) (a1_1 : List Nat) (a1_2 : List Nat) (a1_3 : List Nat) : Option ((List Nat)) :=
  (inner_Distance2D k a0 a1_0) >>= fun r901 =>
  (inner_Distance2D k a0 a1_1) >>= fun r902 =>
  br (flt r902 r901)
    (centralendpoint_findNearestPoint_j1 k a0 a1_2 a1_3 r902 a1_1)
    (centralendpoint_findNearestPoint_j1 k a0 a1_2 a1_3 r901 a1_0)

theorem centralendpoint_findNearestPoint_sim {k : Nat}  (a0 : List Nat) (a1_0 : List Nat) (a1_1 : List Nat) (a1_2 : List Nat) (a1_3 : List Nat) {out : (List Nat)} (hp : centralendpoint_findNearestPoint k a0 a1_0 a1_1 a1_2 a1_3 = some out) : Go.Sx.Fn Try.prog 161 [(Sl Kf a0), (Ag [(Sl Kf a1_0), (Sl Kf a1_1), (Sl Kf a1_2), (Sl Kf a1_3)])] [] (fun w : Unit => (Sl Kf out)) (fun w => []) := by
  unfold centralendpoint_findNearestPoint at hp
  refine fn_of Try.func161 rfl Try.ntmps161 rfl fun E hM => ?_
  refine cx_seq' fun K1 hK1 => ?_
  refine cx_region' ?_
  refine sx_ox' (ox_box' rfl (lv_ag _) rfl rfl) (wt_none' rfl) fun q3 => ?_
  refine sx_rd' (rd_assign' rfl) rfl rfl (wt_none' rfl) ?_
  refine sx_nil' ?_
  show TX E K1 _
  refine tx_k' hK1 ?_
  refine cx_seq' fun K2 hK2 => ?_
  refine cx_region' ?_
  refine sx_rd' (rd_assign' rfl) rfl rfl (wt_none' rfl) ?_
  refine sx_nil' ?_
  show TX E K2 _
  refine tx_k' hK2 ?_
  refine cx_seq' fun K3 hK3 => ?_
  refine cx_region' ?_
  refine sx_ox' (ox_rowlit' (K := Kf) (xs := []) (qs := []) trivial Try.underlying106 info25 rfl rfl rfl rfl rfl (by kernel_rfl) rfl rfl rfl) (wt_none' rfl) fun g9 => ?_
  refine sx_rd' (rd_assign' rfl) rfl rfl (wt_none' rfl) ?_
  refine sx_nil' ?_
  show TX E K3 _
  refine tx_k' hK3 ?_
  refine cx_seq' fun K4 hK4 => ?_
  refine cx_seq' fun K5 hK5 => ?_
  refine cx_region' ?_
  refine sx_rd' (rd_move' rfl) rfl rfl (wt_none' rfl) ?_
  refine sx_nil' ?_
  show TX E K5 _
  refine tx_k' hK5 ?_
  refine cx_block' ?_
  refine tx_loop' ?_
  refine tx_round' ?_
  refine cx_seq' fun K6 hK6 => ?_
  refine cx_region' ?_
  refine sx_rd' (rd_bin' rfl rfl eg_int ru_lss) rfl rfl (wt_none' rfl) ?_
  refine sx_nil' ?_
  show TX E K6 _
  refine tx_k' hK6 ?_
  refine cx_seq' fun K7 hK7 => ?_
  refine cx_cond_t' rfl rfl ?_
  refine cx_skip' ?_
  show TX E K7 _
  refine tx_k' hK7 ?_
  refine cx_seq' fun K8 hK8 => ?_
  refine cx_block' ?_
  refine cx_seq' fun K9 hK9 => ?_
  refine cx_region' ?_
  refine sx_rd' (rd_move' rfl) rfl rfl (wt_none' rfl) ?_
  refine sx_rd' (rd_assign' rfl) rfl rfl (wt_none' rfl) ?_
  refine sx_nil' ?_
  show TX E K9 _
  refine tx_k' hK9 ?_
  refine cx_seq' fun K10 hK10 => ?_
  refine cx_region' ?_
  refine sx_rd' (rd_move' rfl) rfl rfl (wt_none' rfl) ?_
  refine sx_rd' (rd_move' rfl) rfl rfl (wt_none' rfl) ?_
  refine sx_rd' (rd_ixa' (p' := q3) rfl rfl (by decide) (by decide) Try.underlying177 info106 rfl) rfl rfl (wt_none' rfl) ?_
  refine sx_rd' (rd_load' (i := 1) (o := 0) rfl ⟨rfl, rfl, rfl, rfl⟩ rfl flat106) rfl rfl (wt_none' rfl) ?_
  obtain ⟨r901, hr901, hp⟩ := bind_some hp
  refine sx_ox' (ox_calln' (ent_fn' Try.func130 isn130 rfl rfl) (inner_Distance2D_sim _ _ hr901 : Go.Sx.Fn Try.prog 130 [(Sl Kf a0), (Sl Kf a1_0)] [] (fun x : Unit => (Fl r901)) (fun x => [])) (Hn := fun x : Unit => [(Rw Kf 25 (Vs g9) []), ⟨.pointer (some q3), [(Sl Kf a1_0), (Sl Kf a1_1), (Sl Kf a1_2), (Sl Kf a1_3)], 177, none⟩]) (fun _ => rfl) rfl rfl) (wt_none' rfl) fun ⟨⟩ => ?_
  refine sx_rd' (rd_assign' rfl) rfl rfl (wt_none' rfl) ?_
  refine sx_nil' ?_
  show TX E K10 _
  refine tx_k' hK10 ?_
  refine cx_seq' fun K11 hK11 => ?_
  refine cx_region' ?_
  refine sx_rd' (rd_move' rfl) rfl rfl (wt_none' rfl) ?_
  refine sx_rd' (rd_bin' rfl rfl eg_int ru_eql) rfl rfl (wt_none' rfl) ?_
  refine sx_rd' (rd_move' rfl) rfl rfl (wt_none' rfl) ?_
  refine sx_skip' rfl rfl (wt_is' (wt_guard' rfl rfl rfl) (beq_tf rfl)) ?_
  refine sx_skip' rfl rfl (wt_is' (wt_guard' rfl rfl rfl) (beq_tf rfl)) ?_
  refine sx_skip' rfl rfl (wt_is' (wt_guard' rfl rfl rfl) (beq_tf rfl)) ?_
  refine sx_rd' (rd_pick_true' rfl rfl rfl) rfl rfl (wt_none' rfl) ?_
  refine sx_nil' ?_
  show TX E K11 _
  refine tx_k' hK11 ?_
  refine cx_cond_t' rfl rfl ?_
  refine cx_seq' fun K12 hK12 => ?_
  refine cx_region' ?_
  refine sx_rd' (rd_move' rfl) rfl rfl (wt_none' rfl) ?_
  refine sx_rd' (rd_assign' rfl) rfl rfl (wt_none' rfl) ?_
  refine sx_nil' ?_
  show TX E K12 _
  refine tx_k' hK12 ?_
  refine cx_region' ?_
  refine sx_rd' (rd_move' rfl) rfl rfl (wt_none' rfl) ?_
  refine sx_rd' (rd_ixa' (p' := q3) rfl rfl (by decide) (by decide) Try.underlying177 info106 rfl) rfl rfl (wt_none' rfl) ?_
  refine sx_rd' (rd_load' (i := 1) (o := 0) rfl ⟨rfl, rfl, rfl, rfl⟩ rfl flat106) rfl rfl (wt_none' rfl) ?_
  refine sx_rd' (rd_assign' rfl) rfl rfl (wt_none' rfl) ?_
  refine sx_nil' ?_
  show TX E K8 _
  refine tx_k' hK8 ?_
  refine cx_region' ?_
  refine sx_rd' (rd_bin' rfl rfl eg_int (ru_addc (c := 1) (by decide))) rfl rfl (wt_none' rfl) ?_
  refine sx_rd' (rd_move' rfl) rfl rfl (wt_none' rfl) ?_
  refine sx_nil' ?_
  show TX E (LoopIn _ _ _) _
  refine tx_round' ?_
  refine cx_seq' fun K13 hK13 => ?_
  refine cx_region' ?_
  refine sx_rd' (rd_bin' rfl rfl eg_int ru_lss) rfl rfl (wt_none' rfl) ?_
  refine sx_nil' ?_
  show TX E K13 _
  refine tx_k' hK13 ?_
  refine cx_seq' fun K14 hK14 => ?_
  refine cx_cond_t' rfl rfl ?_
  refine cx_skip' ?_
  show TX E K14 _
  refine tx_k' hK14 ?_
  refine cx_join' (fun (v1 : Nat × (List Nat)) => (⟨31, [], [(0, (Sl Kf a0)), (3, (Vl (.pointer (some q3)))), (5, (Fl v1.1)), (6, (Sl Kf v1.2)), (10, (Vl (.int .i64 1)))], [⟨.pointer (some q3), [(Sl Kf a1_0), (Sl Kf a1_1), (Sl Kf a1_2), (Sl Kf a1_3)], 177, none⟩]⟩ : St)) (fun (v1 : Nat × (List Nat)) => centralendpoint_findNearestPoint_j1 k a0 a1_2 a1_3 v1.1 v1.2 = some out) ?_ ?_
  · rintro ⟨x1, x2⟩ hp
    replace hp : centralendpoint_findNearestPoint_j1 k a0 a1_2 a1_3 x1 x2 = some out := hp
    unfold centralendpoint_findNearestPoint_j1 at hp
    refine cx_region' ?_
    refine sx_rd' (rd_bin' rfl rfl eg_int (ru_addc (c := 2) (by decide))) rfl rfl (wt_none' rfl) ?_
    refine sx_rd' (rd_move' rfl) rfl rfl (wt_none' rfl) ?_
    refine sx_nil' ?_
    show TX E (LoopIn _ _ _) _
    refine tx_round' ?_
    refine cx_seq' fun K20 hK20 => ?_
    refine cx_region' ?_
    refine sx_rd' (rd_bin' rfl rfl eg_int ru_lss) rfl rfl (wt_none' rfl) ?_
    refine sx_nil' ?_
    show TX E K20 _
    refine tx_k' hK20 ?_
    refine cx_seq' fun K21 hK21 => ?_
    refine cx_cond_t' rfl rfl ?_
    refine cx_skip' ?_
    show TX E K21 _
    refine tx_k' hK21 ?_
    refine cx_join' (fun (v2 : Nat × (List Nat)) => (⟨31, [], [(0, (Sl Kf a0)), (3, (Vl (.pointer (some q3)))), (5, (Fl v2.1)), (6, (Sl Kf v2.2)), (10, (Vl (.int .i64 2)))], [⟨.pointer (some q3), [(Sl Kf a1_0), (Sl Kf a1_1), (Sl Kf a1_2), (Sl Kf a1_3)], 177, none⟩]⟩ : St)) (fun (v2 : Nat × (List Nat)) => centralendpoint_findNearestPoint_j2 k a0 a1_3 v2.1 v2.2 = some out) ?_ ?_
    · rintro ⟨x3, x4⟩ hp
      replace hp : centralendpoint_findNearestPoint_j2 k a0 a1_3 x3 x4 = some out := hp
      unfold centralendpoint_findNearestPoint_j2 at hp
      refine cx_region' ?_
      refine sx_rd' (rd_bin' rfl rfl eg_int (ru_addc (c := 3) (by decide))) rfl rfl (wt_none' rfl) ?_
      refine sx_rd' (rd_move' rfl) rfl rfl (wt_none' rfl) ?_
      refine sx_nil' ?_
      show TX E (LoopIn _ _ _) _
      refine tx_round' ?_
      refine cx_seq' fun K27 hK27 => ?_
      refine cx_region' ?_
      refine sx_rd' (rd_bin' rfl rfl eg_int ru_lss) rfl rfl (wt_none' rfl) ?_
      refine sx_nil' ?_
      show TX E K27 _
      refine tx_k' hK27 ?_
      refine cx_seq' fun K28 hK28 => ?_
      refine cx_cond_t' rfl rfl ?_
      refine cx_skip' ?_
      show TX E K28 _
      refine tx_k' hK28 ?_
      refine cx_join' (fun (v3 : Nat × (List Nat)) => (⟨31, [], [(0, (Sl Kf a0)), (3, (Vl (.pointer (some q3)))), (5, (Fl v3.1)), (6, (Sl Kf v3.2)), (10, (Vl (.int .i64 3)))], [⟨.pointer (some q3), [(Sl Kf a1_0), (Sl Kf a1_1), (Sl Kf a1_2), (Sl Kf a1_3)], 177, none⟩]⟩ : St)) (fun (v3 : Nat × (List Nat)) => centralendpoint_findNearestPoint_j3 k v3.1 v3.2 = some out) ?_ ?_
      · rintro ⟨x5, x6⟩ hp
        replace hp : centralendpoint_findNearestPoint_j3 k x5 x6 = some out := hp
        unfold centralendpoint_findNearestPoint_j3 at hp
        refine cx_region' ?_
        refine sx_rd' (rd_bin' rfl rfl eg_int (ru_addc (c := 4) (by decide))) rfl rfl (wt_none' rfl) ?_
        refine sx_rd' (rd_move' rfl) rfl rfl (wt_none' rfl) ?_
        refine sx_nil' ?_
        show TX E (LoopIn _ _ _) _
        refine tx_round' ?_
        refine cx_seq' fun K34 hK34 => ?_
        refine cx_region' ?_
        refine sx_rd' (rd_bin' rfl rfl eg_int ru_lss) rfl rfl (wt_none' rfl) ?_
        refine sx_nil' ?_
        show TX E K34 _
        refine tx_k' hK34 ?_
        refine cx_seq' fun K35 hK35 => ?_
        refine cx_cond_f' rfl rfl ?_
        refine cx_exit' ?_
        show TX E K4 _
        refine tx_k' hK4 ?_
        refine cx_seq' fun K36 hK36 => ?_
        refine cx_region' ?_
        refine sx_rd' (rd_move' rfl) rfl rfl (wt_none' rfl) ?_
        refine sx_rd' (rd_assign' rfl) rfl rfl (wt_none' rfl) ?_
        refine sx_nil' ?_
        show TX E K36 _
        refine tx_k' hK36 ?_
        refine cx_retc' ?_
        replace hp := Option.some.inj hp
        subst hp
        refine tx_pick' (L' := [(4, (Sl Kf x6))]) (H' := []) [] (sub_cons rfl sub_nil) (by decide) pick_nil ?_
        exact tx_ret1' Try.results161 rfl () (rv_tmp' rfl) (List.Sublist.refl _)
      · intro K29 hK29
        refine cx_block' ?_
        refine cx_seq' fun K30 hK30 => ?_
        refine cx_region' ?_
        refine sx_rd' (rd_move' rfl) rfl rfl (wt_none' rfl) ?_
        refine sx_rd' (rd_assign' rfl) rfl rfl (wt_none' rfl) ?_
        refine sx_nil' ?_
        show TX E K30 _
        refine tx_k' hK30 ?_
        refine cx_seq' fun K31 hK31 => ?_
        refine cx_region' ?_
        refine sx_rd' (rd_move' rfl) rfl rfl (wt_none' rfl) ?_
        refine sx_rd' (rd_move' rfl) rfl rfl (wt_none' rfl) ?_
        refine sx_rd' (rd_ixa' (p' := (q3).add 3) rfl rfl (by decide) (by decide) Try.underlying177 info106 rfl) rfl rfl (wt_none' rfl) ?_
        refine sx_rd' (rd_load' (i := 0) (o := 3) rfl ⟨rfl, rfl, rfl, rfl⟩ rfl flat106) rfl rfl (wt_none' rfl) ?_
        obtain ⟨r904, hr904, hp⟩ := bind_some hp
        refine sx_ox' (ox_calln' (ent_fn' Try.func130 isn130 rfl rfl) (inner_Distance2D_sim _ _ hr904 : Go.Sx.Fn Try.prog 130 [(Sl Kf a0), (Sl Kf a1_3)] [] (fun x : Unit => (Fl r904)) (fun x => [])) (Hn := fun x : Unit => [⟨.pointer (some q3), [(Sl Kf a1_0), (Sl Kf a1_1), (Sl Kf a1_2), (Sl Kf a1_3)], 177, none⟩]) (fun _ => rfl) rfl rfl) (wt_none' rfl) fun ⟨⟩ => ?_
        refine sx_rd' (rd_assign' rfl) rfl rfl (wt_none' rfl) ?_
        refine sx_nil' ?_
        show TX E K31 _
        refine tx_k' hK31 ?_
        refine cx_seq' fun K32 hK32 => ?_
        refine cx_region' ?_
        refine sx_rd' (rd_move' rfl) rfl rfl (wt_none' rfl) ?_
        refine sx_rd' (rd_bin' rfl rfl eg_int ru_eql) rfl rfl (wt_none' rfl) ?_
        refine sx_rd' (rd_move' rfl) rfl rfl (wt_none' rfl) ?_
        refine sx_rd' (rd_move' rfl) rfl rfl (wt_is' (wt_guard' rfl rfl rfl) (beq_ff rfl)) ?_
        refine sx_rd' (rd_move' rfl) rfl rfl (wt_is' (wt_guard' rfl rfl rfl) (beq_ff rfl)) ?_
        refine sx_rd' (rd_fcmp' (fl_f rfl) (fl_f rfl) rfl) rfl rfl (wt_is' (wt_guard' rfl rfl rfl) (beq_ff rfl)) ?_
        refine sx_rd' (rd_pick_false' rfl rfl rfl) rfl rfl (wt_none' rfl) ?_
        refine sx_nil' ?_
        show TX E K32 _
        refine tx_k' hK32 ?_
        refine cx_cond' rfl (fun h3 => ?_) (fun h3 => ?_)
        · replace hp := (br_t h3).symm.trans hp
          refine cx_seq' fun K33 hK33 => ?_
          refine cx_region' ?_
          refine sx_rd' (rd_move' rfl) rfl rfl (wt_none' rfl) ?_
          refine sx_rd' (rd_assign' rfl) rfl rfl (wt_none' rfl) ?_
          refine sx_nil' ?_
          show TX E K33 _
          refine tx_k' hK33 ?_
          refine cx_region' ?_
          refine sx_rd' (rd_move' rfl) rfl rfl (wt_none' rfl) ?_
          refine sx_rd' (rd_ixa' (p' := (q3).add 3) rfl rfl (by decide) (by decide) Try.underlying177 info106 rfl) rfl rfl (wt_none' rfl) ?_
          refine sx_rd' (rd_load' (i := 0) (o := 3) rfl ⟨rfl, rfl, rfl, rfl⟩ rfl flat106) rfl rfl (wt_none' rfl) ?_
          refine sx_rd' (rd_assign' rfl) rfl rfl (wt_none' rfl) ?_
          refine sx_nil' ?_
          show TX E K29 _
          exact tx_pick' [0] (sub_cons rfl (sub_cons rfl (sub_cons rfl (sub_cons rfl (sub_cons rfl sub_nil))))) (by decide) (pick_cons rfl pick_nil) (hK29 (r904, a1_3) hp)
        · replace hp := (br_f h3).symm.trans hp
          refine cx_skip' ?_
          show TX E K29 _
          exact tx_pick' [0] (sub_cons rfl (sub_cons rfl (sub_cons rfl (sub_cons rfl (sub_cons rfl sub_nil))))) (by decide) (pick_cons rfl pick_nil) (hK29 (x3, x4) hp)
    · intro K22 hK22
      refine cx_block' ?_
      refine cx_seq' fun K23 hK23 => ?_
      refine cx_region' ?_
      refine sx_rd' (rd_move' rfl) rfl rfl (wt_none' rfl) ?_
      refine sx_rd' (rd_assign' rfl) rfl rfl (wt_none' rfl) ?_
      refine sx_nil' ?_
      show TX E K23 _
      refine tx_k' hK23 ?_
      refine cx_seq' fun K24 hK24 => ?_
      refine cx_region' ?_
      refine sx_rd' (rd_move' rfl) rfl rfl (wt_none' rfl) ?_
      refine sx_rd' (rd_move' rfl) rfl rfl (wt_none' rfl) ?_
      refine sx_rd' (rd_ixa' (p' := (q3).add 2) rfl rfl (by decide) (by decide) Try.underlying177 info106 rfl) rfl rfl (wt_none' rfl) ?_
      refine sx_rd' (rd_load' (i := 0) (o := 2) rfl ⟨rfl, rfl, rfl, rfl⟩ rfl flat106) rfl rfl (wt_none' rfl) ?_
      obtain ⟨r903, hr903, hp⟩ := bind_some hp
      refine sx_ox' (ox_calln' (ent_fn' Try.func130 isn130 rfl rfl) (inner_Distance2D_sim _ _ hr903 : Go.Sx.Fn Try.prog 130 [(Sl Kf a0), (Sl Kf a1_2)] [] (fun x : Unit => (Fl r903)) (fun x => [])) (Hn := fun x : Unit => [⟨.pointer (some q3), [(Sl Kf a1_0), (Sl Kf a1_1), (Sl Kf a1_2), (Sl Kf a1_3)], 177, none⟩]) (fun _ => rfl) rfl rfl) (wt_none' rfl) fun ⟨⟩ => ?_
      refine sx_rd' (rd_assign' rfl) rfl rfl (wt_none' rfl) ?_
      refine sx_nil' ?_
      show TX E K24 _
      refine tx_k' hK24 ?_
      refine cx_seq' fun K25 hK25 => ?_
      refine cx_region' ?_
      refine sx_rd' (rd_move' rfl) rfl rfl (wt_none' rfl) ?_
      refine sx_rd' (rd_bin' rfl rfl eg_int ru_eql) rfl rfl (wt_none' rfl) ?_
      refine sx_rd' (rd_move' rfl) rfl rfl (wt_none' rfl) ?_
      refine sx_rd' (rd_move' rfl) rfl rfl (wt_is' (wt_guard' rfl rfl rfl) (beq_ff rfl)) ?_
      refine sx_rd' (rd_move' rfl) rfl rfl (wt_is' (wt_guard' rfl rfl rfl) (beq_ff rfl)) ?_
      refine sx_rd' (rd_fcmp' (fl_f rfl) (fl_f rfl) rfl) rfl rfl (wt_is' (wt_guard' rfl rfl rfl) (beq_ff rfl)) ?_
      refine sx_rd' (rd_pick_false' rfl rfl rfl) rfl rfl (wt_none' rfl) ?_
      refine sx_nil' ?_
      show TX E K25 _
      refine tx_k' hK25 ?_
      refine cx_cond' rfl (fun h2 => ?_) (fun h2 => ?_)
      · replace hp := (br_t h2).symm.trans hp
        refine cx_seq' fun K26 hK26 => ?_
        refine cx_region' ?_
        refine sx_rd' (rd_move' rfl) rfl rfl (wt_none' rfl) ?_
        refine sx_rd' (rd_assign' rfl) rfl rfl (wt_none' rfl) ?_
        refine sx_nil' ?_
        show TX E K26 _
        refine tx_k' hK26 ?_
        refine cx_region' ?_
        refine sx_rd' (rd_move' rfl) rfl rfl (wt_none' rfl) ?_
        refine sx_rd' (rd_ixa' (p' := (q3).add 2) rfl rfl (by decide) (by decide) Try.underlying177 info106 rfl) rfl rfl (wt_none' rfl) ?_
        refine sx_rd' (rd_load' (i := 0) (o := 2) rfl ⟨rfl, rfl, rfl, rfl⟩ rfl flat106) rfl rfl (wt_none' rfl) ?_
        refine sx_rd' (rd_assign' rfl) rfl rfl (wt_none' rfl) ?_
        refine sx_nil' ?_
        show TX E K22 _
        exact tx_pick' [0] (sub_cons rfl (sub_cons rfl (sub_cons rfl (sub_cons rfl (sub_cons rfl sub_nil))))) (by decide) (pick_cons rfl pick_nil) (hK22 (r903, a1_2) hp)
      · replace hp := (br_f h2).symm.trans hp
        refine cx_skip' ?_
        show TX E K22 _
        exact tx_pick' [0] (sub_cons rfl (sub_cons rfl (sub_cons rfl (sub_cons rfl (sub_cons rfl sub_nil))))) (by decide) (pick_cons rfl pick_nil) (hK22 (x1, x2) hp)
  · intro K15 hK15
    refine cx_block' ?_
    refine cx_seq' fun K16 hK16 => ?_
    refine cx_region' ?_
    refine sx_rd' (rd_move' rfl) rfl rfl (wt_none' rfl) ?_
    refine sx_rd' (rd_assign' rfl) rfl rfl (wt_none' rfl) ?_
    refine sx_nil' ?_
    show TX E K16 _
    refine tx_k' hK16 ?_
    refine cx_seq' fun K17 hK17 => ?_
    refine cx_region' ?_
    refine sx_rd' (rd_move' rfl) rfl rfl (wt_none' rfl) ?_
    refine sx_rd' (rd_move' rfl) rfl rfl (wt_none' rfl) ?_
    refine sx_rd' (rd_ixa' (p' := (q3).add 1) rfl rfl (by decide) (by decide) Try.underlying177 info106 rfl) rfl rfl (wt_none' rfl) ?_
    refine sx_rd' (rd_load' (i := 1) (o := 1) rfl ⟨rfl, rfl, rfl, rfl⟩ rfl flat106) rfl rfl (wt_none' rfl) ?_
    obtain ⟨r902, hr902, hp⟩ := bind_some hp
    refine sx_ox' (ox_calln' (ent_fn' Try.func130 isn130 rfl rfl) (inner_Distance2D_sim _ _ hr902 : Go.Sx.Fn Try.prog 130 [(Sl Kf a0), (Sl Kf a1_1)] [] (fun x : Unit => (Fl r902)) (fun x => [])) (Hn := fun x : Unit => [(Rw Kf 25 (Vs g9) []), ⟨.pointer (some q3), [(Sl Kf a1_0), (Sl Kf a1_1), (Sl Kf a1_2), (Sl Kf a1_3)], 177, none⟩]) (fun _ => rfl) rfl rfl) (wt_none' rfl) fun ⟨⟩ => ?_
    refine sx_rd' (rd_assign' rfl) rfl rfl (wt_none' rfl) ?_
    refine sx_nil' ?_
    show TX E K17 _
    refine tx_k' hK17 ?_
    refine cx_seq' fun K18 hK18 => ?_
    refine cx_region' ?_
    refine sx_rd' (rd_move' rfl) rfl rfl (wt_none' rfl) ?_
    refine sx_rd' (rd_bin' rfl rfl eg_int ru_eql) rfl rfl (wt_none' rfl) ?_
    refine sx_rd' (rd_move' rfl) rfl rfl (wt_none' rfl) ?_
    refine sx_rd' (rd_move' rfl) rfl rfl (wt_is' (wt_guard' rfl rfl rfl) (beq_ff rfl)) ?_
    refine sx_rd' (rd_move' rfl) rfl rfl (wt_is' (wt_guard' rfl rfl rfl) (beq_ff rfl)) ?_
    refine sx_rd' (rd_fcmp' (fl_f rfl) (fl_f rfl) rfl) rfl rfl (wt_is' (wt_guard' rfl rfl rfl) (beq_ff rfl)) ?_
    refine sx_rd' (rd_pick_false' rfl rfl rfl) rfl rfl (wt_none' rfl) ?_
    refine sx_nil' ?_
    show TX E K18 _
    refine tx_k' hK18 ?_
    refine cx_cond' rfl (fun h1 => ?_) (fun h1 => ?_)
    · replace hp := (br_t h1).symm.trans hp
      refine cx_seq' fun K19 hK19 => ?_
      refine cx_region' ?_
      refine sx_rd' (rd_move' rfl) rfl rfl (wt_none' rfl) ?_
      refine sx_rd' (rd_assign' rfl) rfl rfl (wt_none' rfl) ?_
      refine sx_nil' ?_
      show TX E K19 _
      refine tx_k' hK19 ?_
      refine cx_region' ?_
      refine sx_rd' (rd_move' rfl) rfl rfl (wt_none' rfl) ?_
      refine sx_rd' (rd_ixa' (p' := (q3).add 1) rfl rfl (by decide) (by decide) Try.underlying177 info106 rfl) rfl rfl (wt_none' rfl) ?_
      refine sx_rd' (rd_load' (i := 1) (o := 1) rfl ⟨rfl, rfl, rfl, rfl⟩ rfl flat106) rfl rfl (wt_none' rfl) ?_
      refine sx_rd' (rd_assign' rfl) rfl rfl (wt_none' rfl) ?_
      refine sx_nil' ?_
      show TX E K15 _
      exact tx_pick' [1] (sub_cons rfl (sub_cons rfl (sub_cons rfl (sub_cons rfl (sub_cons rfl sub_nil))))) (by decide) (pick_cons rfl pick_nil) (hK15 (r902, a1_1) hp)
    · replace hp := (br_f h1).symm.trans hp
      refine cx_skip' ?_
      show TX E K15 _
      exact tx_pick' [1] (sub_cons rfl (sub_cons rfl (sub_cons rfl (sub_cons rfl (sub_cons rfl sub_nil))))) (by decide) (pick_cons rfl pick_nil) (hK15 (r901, a1_0) hp)

def centralendpoint_centralEndpointIntersector_compute (k : Nat) (a0_0 : List Nat) (a0_1 : List Nat) (a0_2 : List Nat) (a0_3 : List Nat) : Option ((List Nat) × (List Nat) × (List Nat) × (List Nat) × (List Nat)) :=
  (centralendpoint_average k a0_0 a0_1 a0_2 a0_3) >>= fun r22 =>
  (centralendpoint_findNearestPoint k r22 a0_0 a0_1 a0_2 a0_3) >>= fun r26 =>
  some (a0_0, a0_1, a0_2, a0_3, r26)

theorem centralendpoint_centralEndpointIntersector_compute_sim {k : Nat} {wa0 : Addr} (a0_0 : List Nat) (a0_1 : List Nat) (a0_2 : List Nat) (a0_3 : List Nat) {out : (List Nat) × (List Nat) × (List Nat) × (List Nat) × (List Nat)} (hp : centralendpoint_centralEndpointIntersector_compute k a0_0 a0_1 a0_2 a0_3 = some out) : Go.Sx.Fn Try.prog 129 [(Vl (.pointer (some wa0)))] [⟨.pointer (some wa0), [(Sl Kf a0_0), (Sl Kf a0_1), (Sl Kf a0_2), (Sl Kf a0_3), (Vl (.slice none 0 0))], 156, none⟩] (fun w : Unit => (Vl (.tuple #[]))) (fun w => [⟨.pointer (some wa0), [(Sl Kf out.1), (Sl Kf out.2.1), (Sl Kf out.2.2.1), (Sl Kf out.2.2.2.1), (Sl Kf out.2.2.2.2)], 156, none⟩]) := by
  unfold centralendpoint_centralEndpointIntersector_compute at hp
  refine fn_of Try.func129 rfl Try.ntmps129 rfl fun E hM => ?_
  refine cx_seq' fun K1 hK1 => ?_
  refine cx_plan' [] [(18, 1)] [(0, 1), (1, 1), (2, 1), (3, 1), (4, 1), (5, 1), (6, 1), (7, 1), (8, 1), (9, 1), (10, 1), (11, 1), (12, 1), (13, 1), (14, 1), (15, 1), (16, 1), (17, 0), (18, 0)] mixed (by kernel_rfl) ?_
  refine px_rd' rfl (rd_move' rfl) rfl rfl (wt_none' rfl) ?_
  refine px_rd' rfl (rd_nilck' rfl) rfl rfl (wt_none' rfl) ?_
  refine px_rd' rfl (rd_field0' rfl Try.underlying156 rfl info106 rfl) rfl rfl (wt_none' rfl) ?_
  refine px_rd' rfl (rd_load' (i := 0) (o := 0) rfl ⟨rfl, rfl, rfl, rfl⟩ rfl flat106) rfl rfl (wt_none' rfl) ?_
  refine px_rd' rfl (rd_move' rfl) rfl rfl (wt_none' rfl) ?_
  refine px_rd' rfl (rd_nilck' rfl) rfl rfl (wt_none' rfl) ?_
  refine px_rd' rfl (rd_field' (off := 1) rfl Try.underlying156 rfl info106 rfl) rfl rfl (wt_none' rfl) ?_
  refine px_rd' rfl (rd_load' (i := 0) (o := 1) rfl ⟨rfl, rfl, rfl, rfl⟩ rfl flat106) rfl rfl (wt_none' rfl) ?_
  refine px_rd' rfl (rd_move' rfl) rfl rfl (wt_none' rfl) ?_
  refine px_rd' rfl (rd_nilck' rfl) rfl rfl (wt_none' rfl) ?_
  refine px_rd' rfl (rd_field' (off := 2) rfl Try.underlying156 rfl info106 rfl) rfl rfl (wt_none' rfl) ?_
  refine px_rd' rfl (rd_load' (i := 0) (o := 2) rfl ⟨rfl, rfl, rfl, rfl⟩ rfl flat106) rfl rfl (wt_none' rfl) ?_
  refine px_rd' rfl (rd_move' rfl) rfl rfl (wt_none' rfl) ?_
  refine px_rd' rfl (rd_nilck' rfl) rfl rfl (wt_none' rfl) ?_
  refine px_rd' rfl (rd_field' (off := 3) rfl Try.underlying156 rfl info106 rfl) rfl rfl (wt_none' rfl) ?_
  refine px_rd' rfl (rd_load' (i := 0) (o := 3) rfl ⟨rfl, rfl, rfl, rfl⟩ rfl flat106) rfl rfl (wt_none' rfl) ?_
  refine px_rd' rfl (rd_builda' (qs := [(0, [(Sl Kf a0_0)]), (1, [(Sl Kf a0_1)]), (2, [(Sl Kf a0_2)]), (3, [(Sl Kf a0_3)])]) (r := [(Sl Kf a0_0), (Sl Kf a0_1), (Sl Kf a0_2), (Sl Kf a0_3)]) ⟨rfl, ⟨_, rfl, (lv_sl _ _)⟩, ⟨rfl, ⟨_, rfl, (lv_sl _ _)⟩, ⟨rfl, ⟨_, rfl, (lv_sl _ _)⟩, ⟨rfl, ⟨_, rfl, (lv_sl _ _)⟩, trivial⟩⟩⟩⟩ Try.underlying177 info106 info177 rfl rfl rfl) rfl rfl (wt_none' rfl) ?_
  refine px_ox' rfl (ox_alloc' info177 rfl rfl rfl rfl (l := [(Vl (.slice none 0 0)), (Vl (.slice none 0 0)), (Vl (.slice none 0 0)), (Vl (.slice none 0 0))]) rfl) rfl bs_nil (wt_none' rfl) fun q2 => ?_
  refine px_oxv' rfl (oxv_store (i := 0) (o := 0) rfl rfl (lv_ag _) ⟨rfl, rfl, rfl, rfl⟩ rfl info177 rfl (H' := [⟨.pointer (some q2), [(Sl Kf a0_0), (Sl Kf a0_1), (Sl Kf a0_2), (Sl Kf a0_3)], 177, none⟩, ⟨.pointer (some wa0), [(Sl Kf a0_0), (Sl Kf a0_1), (Sl Kf a0_2), (Sl Kf a0_3), (Vl (.slice none 0 0))], 156, none⟩]) rfl) rfl rfl bo_nil (wt_none' rfl) fun _ => ?_
  refine px_nil' ?_
  show TX E K1 _
  refine tx_k' hK1 ?_
  refine cx_seq' fun K2 hK2 => ?_
  refine cx_region' ?_
  refine sx_rd' (rd_load_agg' (i := 0) (o := 0) (nn := 4) rfl ⟨rfl, rfl, rfl, rfl⟩ rfl agg177 (l' := [(Sl Kf a0_0), (Sl Kf a0_1), (Sl Kf a0_2), (Sl Kf a0_3)]) rfl) rfl rfl (wt_none' rfl) ?_
  obtain ⟨r22, hr22, hp⟩ := bind_some hp
  refine sx_ox' (ox_calln' (ent_fn' Try.func160 isn160 rfl rfl) (centralendpoint_average_sim _ _ _ _ hr22 : Go.Sx.Fn Try.prog 160 [(Ag [(Sl Kf a0_0), (Sl Kf a0_1), (Sl Kf a0_2), (Sl Kf a0_3)])] [] (fun x : Unit => (Sl Kf r22)) (fun x => [])) (Hn := fun x : Unit => [⟨.pointer (some q2), [(Sl Kf a0_0), (Sl Kf a0_1), (Sl Kf a0_2), (Sl Kf a0_3)], 177, none⟩, ⟨.pointer (some wa0), [(Sl Kf a0_0), (Sl Kf a0_1), (Sl Kf a0_2), (Sl Kf a0_3), (Vl (.slice none 0 0))], 156, none⟩]) (fun _ => rfl) rfl rfl) (wt_none' rfl) fun ⟨⟩ => ?_
  refine sx_rd' (rd_assign' rfl) rfl rfl (wt_none' rfl) ?_
  refine sx_nil' ?_
  show TX E K2 _
  refine tx_k' hK2 ?_
  refine cx_region' ?_
  refine sx_rd' (rd_move' rfl) rfl rfl (wt_none' rfl) ?_
  refine sx_rd' (rd_move' rfl) rfl rfl (wt_none' rfl) ?_
  refine sx_rd' (rd_load_agg' (i := 0) (o := 0) (nn := 4) rfl ⟨rfl, rfl, rfl, rfl⟩ rfl agg177 (l' := [(Sl Kf a0_0), (Sl Kf a0_1), (Sl Kf a0_2), (Sl Kf a0_3)]) rfl) rfl rfl (wt_none' rfl) ?_
  obtain ⟨r26, hr26, hp⟩ := bind_some hp
  refine sx_ox' (ox_calln' (ent_fn' Try.func161 isn161 rfl rfl) (centralendpoint_findNearestPoint_sim _ _ _ _ _ hr26 : Go.Sx.Fn Try.prog 161 [(Sl Kf r22), (Ag [(Sl Kf a0_0), (Sl Kf a0_1), (Sl Kf a0_2), (Sl Kf a0_3)])] [] (fun x : Unit => (Sl Kf r26)) (fun x => [])) (Hn := fun x : Unit => [⟨.pointer (some q2), [(Sl Kf a0_0), (Sl Kf a0_1), (Sl Kf a0_2), (Sl Kf a0_3)], 177, none⟩, ⟨.pointer (some wa0), [(Sl Kf a0_0), (Sl Kf a0_1), (Sl Kf a0_2), (Sl Kf a0_3), (Vl (.slice none 0 0))], 156, none⟩]) (fun _ => rfl) rfl rfl) (wt_none' rfl) fun ⟨⟩ => ?_
  refine sx_rd' (rd_nilck' rfl) rfl rfl (wt_none' rfl) ?_
  refine sx_rd' (rd_field' (off := 4) rfl Try.underlying156 rfl info106 rfl) rfl rfl (wt_none' rfl) ?_
  refine sx_ox' (ox_store' (i := 1) (o := 4) rfl rfl (lv_sl _ _) ⟨rfl, rfl, rfl, rfl⟩ rfl info106 rfl (H' := [⟨.pointer (some q2), [(Sl Kf a0_0), (Sl Kf a0_1), (Sl Kf a0_2), (Sl Kf a0_3)], 177, none⟩, ⟨.pointer (some wa0), [(Sl Kf a0_0), (Sl Kf a0_1), (Sl Kf a0_2), (Sl Kf a0_3), (Sl Kf r26)], 156, none⟩]) rfl) (wt_none' rfl) fun _ => ?_
  refine sx_nil' ?_
  replace hp := Option.some.inj hp
  subst hp
  refine tx_pick' (L' := []) (H' := [⟨.pointer (some wa0), [(Sl Kf a0_0), (Sl Kf a0_1), (Sl Kf a0_2), (Sl Kf a0_3), (Sl Kf r26)], 156, none⟩]) [1] sub_nil (by decide) (pick_cons rfl pick_nil) ?_
  exact tx_end0' Try.results129 rfl () rfl (List.Sublist.refl _)

def centralendpoint_GetIntersection (k : Nat) (a0 : List Nat) (a1 : List Nat) (a2 : List Nat) (a3 : List Nat) : Option ((List Nat)) :=
  (centralendpoint_centralEndpointIntersector_compute k a0 a1 a2 a3) >>= fun r15 =>
  some r15.2.2.2.2

theorem centralendpoint_GetIntersection_sim {k : Nat}  (a0 : List Nat) (a1 : List Nat) (a2 : List Nat) (a3 : List Nat) {out : (List Nat)} (hp : centralendpoint_GetIntersection k a0 a1 a2 a3 = some out) : Go.Sx.Fn Try.prog 82 [(Sl Kf a0), (Sl Kf a1), (Sl Kf a2), (Sl Kf a3)] [] (fun w : Unit => (Sl Kf out)) (fun w => []) := by
  unfold centralendpoint_GetIntersection at hp
  refine fn_of Try.func82 rfl Try.ntmps82 rfl fun E hM => ?_
  refine cx_seq' fun K1 hK1 => ?_
  refine cx_region' ?_
  refine sx_rd' (rd_assign' rfl) rfl rfl (wt_none' rfl) ?_
  refine sx_nil' ?_
  show TX E K1 _
  refine tx_k' hK1 ?_
  refine cx_seq' fun K2 hK2 => ?_
  refine cx_region' ?_
  refine sx_rd' (rd_move' rfl) rfl rfl (wt_none' rfl) ?_
  refine sx_rd' (rd_move' rfl) rfl rfl (wt_none' rfl) ?_
  refine sx_rd' (rd_move' rfl) rfl rfl (wt_none' rfl) ?_
  refine sx_rd' (rd_move' rfl) rfl rfl (wt_none' rfl) ?_
  refine sx_rd' (rd_build' (pls := [(0, 1), (1, 1), (2, 1), (3, 1), (4, 1)]) (qs := [(0, [(Sl Kf a0)]), (1, [(Sl Kf a1)]), (2, [(Sl Kf a2)]), (3, [(Sl Kf a3)])]) (r := [(Sl Kf a0), (Sl Kf a1), (Sl Kf a2), (Sl Kf a3), (Vl (.slice none 0 0))]) ⟨rfl, ⟨_, rfl, (lv_sl _ _)⟩, ⟨rfl, ⟨_, rfl, (lv_sl _ _)⟩, ⟨rfl, ⟨_, rfl, (lv_sl _ _)⟩, ⟨rfl, ⟨_, rfl, (lv_sl _ _)⟩, trivial⟩⟩⟩⟩ Try.underlying156 has156 places156 info156 rfl rfl rfl) rfl rfl (wt_none' rfl) ?_
  refine sx_ox' (ox_alloc' info156 rfl rfl rfl rfl (l := [(Vl (.slice none 0 0)), (Vl (.slice none 0 0)), (Vl (.slice none 0 0)), (Vl (.slice none 0 0)), (Vl (.slice none 0 0))]) rfl) (wt_none' rfl) fun q9 => ?_
  refine sx_ox' (ox_store' (i := 0) (o := 0) rfl rfl (lv_ag _) ⟨rfl, rfl, rfl, rfl⟩ rfl info156 rfl (H' := [⟨.pointer (some q9), [(Sl Kf a0), (Sl Kf a1), (Sl Kf a2), (Sl Kf a3), (Vl (.slice none 0 0))], 156, none⟩]) rfl) (wt_none' rfl) fun _ => ?_
  refine sx_nil' ?_
  show TX E K2 _
  refine tx_k' hK2 ?_
  refine cx_seq' fun K3 hK3 => ?_
  refine cx_region' ?_
  obtain ⟨r15, hr15, hp⟩ := bind_some hp
  refine sx_ox' (ox_callg' (ent_fn' Try.func129 isn129 rfl rfl) (centralendpoint_centralEndpointIntersector_compute_sim _ _ _ _ hr15 : Go.Sx.Fn Try.prog 129 [(Vl (.pointer (some q9)))] [⟨.pointer (some q9), [(Sl Kf a0), (Sl Kf a1), (Sl Kf a2), (Sl Kf a3), (Vl (.slice none 0 0))], 156, none⟩] (fun x : Unit => (Vl (.tuple #[]))) (fun x => [⟨.pointer (some q9), [(Sl Kf r15.1), (Sl Kf r15.2.1), (Sl Kf r15.2.2.1), (Sl Kf r15.2.2.2.1), (Sl Kf r15.2.2.2.2)], 156, none⟩])) [0] [] (by decide) (pick_cons rfl pick_nil) pick_nil (Hn := fun x : Unit => [⟨.pointer (some q9), [(Sl Kf r15.1), (Sl Kf r15.2.1), (Sl Kf r15.2.2.1), (Sl Kf r15.2.2.2.1), (Sl Kf r15.2.2.2.2)], 156, none⟩]) (fun _ => rfl) rfl rfl) (wt_none' rfl) fun ⟨⟩ => ?_
  refine sx_nil' ?_
  show TX E K3 _
  refine tx_k' hK3 ?_
  refine cx_seq' fun K4 hK4 => ?_
  refine cx_region' ?_
  refine sx_rd' (rd_field' (off := 4) rfl Try.underlying156 rfl info106 rfl) rfl rfl (wt_none' rfl) ?_
  refine sx_rd' (rd_load' (i := 0) (o := 4) rfl ⟨rfl, rfl, rfl, rfl⟩ rfl flat106) rfl rfl (wt_none' rfl) ?_
  refine sx_rd' (rd_assign' rfl) rfl rfl (wt_none' rfl) ?_
  refine sx_nil' ?_
  show TX E K4 _
  refine tx_k' hK4 ?_
  refine cx_retc' ?_
  replace hp := Option.some.inj hp
  subst hp
  refine tx_pick' (L' := [(8, (Sl Kf r15.2.2.2.2))]) (H' := []) [] (sub_cons rfl sub_nil) (by decide) pick_nil ?_
  exact tx_ret1' Try.results82 rfl () (rv_tmp' rfl) (List.Sublist.refl _)

def impl_place (k : Nat) (a0 : List Nat) : Option (Nat × Nat) :=
  (idx a0 0) >>= fun r4 =>
  (idx a0 1) >>= fun r7 =>
  some (r4, r7)

theorem impl_place_sim {k : Nat}  (a0 : List Nat) {out : Nat × Nat} (hp : impl_place k a0 = some out) : Go.Sx.Fn Try.prog 81 [(Sl Kf a0)] [] (fun w : Unit => (Ag [(Vl (.float .f64 out.1)), (Vl (.float .f64 out.2))])) (fun w => []) := by
  unfold impl_place at hp
  refine fn_of Try.func81 rfl Try.ntmps81 rfl fun E hM => ?_
  refine cx_seq' fun K1 hK1 => ?_
  refine cx_region' ?_
  refine sx_ox' (ox_alloc' info27 rfl rfl rfl rfl (l := [(Vl (.float .f64 0)), (Vl (.float .f64 0))]) rfl) (wt_none' rfl) fun q2 => ?_
  refine sx_nil' ?_
  show TX E K1 _
  refine tx_k' hK1 ?_
  refine cx_seq' fun K2 hK2 => ?_
  refine cx_plan' [] [(7, 1)] [(0, 1), (1, 1), (2, 1), (3, 1), (4, 1), (5, 1), (6, 1), (7, 0)] mixed (by kernel_rfl) ?_
  refine px_rd' rfl (rd_move' rfl) rfl rfl (wt_none' rfl) ?_
  obtain ⟨r4, hr4, hp⟩ := bind_some hp
  refine px_rd' rfl (rd_at' (K := Kf) rfl rfl hr4 Try.underlying106 info25) rfl rfl (wt_none' rfl) ?_
  refine px_rd' rfl (rd_load_pt' rfl rfl flat25) rfl rfl (wt_none' rfl) ?_
  refine px_rd' rfl (rd_move' rfl) rfl rfl (wt_none' rfl) ?_
  obtain ⟨r7, hr7, hp⟩ := bind_some hp
  refine px_rd' rfl (rd_at' (K := Kf) rfl rfl hr7 Try.underlying106 info25) rfl rfl (wt_none' rfl) ?_
  refine px_rd' rfl (rd_load_pt' rfl rfl flat25) rfl rfl (wt_none' rfl) ?_
  refine px_rd' rfl (rd_build' (pls := [(0, 1), (1, 1)]) (qs := [(0, [(Vl (.float .f64 r4))]), (1, [(Vl (.float .f64 r7))])]) (r := [(Vl (.float .f64 r4)), (Vl (.float .f64 r7))]) ⟨rfl, ⟨_, rfl, (lv_vl rfl rfl)⟩, ⟨rfl, ⟨_, rfl, (lv_vl rfl rfl)⟩, trivial⟩⟩ Try.underlying27 has27 places27 info27 rfl rfl rfl) rfl rfl (wt_none' rfl) ?_
  refine px_oxv' rfl (oxv_store (i := 0) (o := 0) rfl rfl (lv_ag _) ⟨rfl, rfl, rfl, rfl⟩ rfl info27 rfl (H' := [⟨.pointer (some q2), [(Vl (.float .f64 r4)), (Vl (.float .f64 r7))], 27, none⟩]) rfl) rfl rfl bo_nil (wt_none' rfl) fun _ => ?_
  refine px_nil' ?_
  show TX E K2 _
  refine tx_k' hK2 ?_
  refine cx_retc' ?_
  replace hp := Option.some.inj hp
  subst hp
  refine tx_pick' (L' := [(2, (Vl (.pointer (some q2))))]) (H' := [⟨.pointer (some q2), [(Vl (.float .f64 r4)), (Vl (.float .f64 r7))], 27, none⟩]) [0] (sub_cons rfl sub_nil) (by decide) (pick_cons rfl pick_nil) ?_
  exact tx_ret1' Try.results81 rfl () (rv_cell_agg' (i := 0) (o := 0) (nn := 2) rfl ⟨rfl, rfl, rfl, rfl⟩ rfl agg27 rfl) (List.nil_sublist _)

def impl_CentralEnd (k : Nat) (a0_0 : Nat) (a0_1 : Nat) (a1_0 : Nat) (a1_1 : Nat) (a2_0 : Nat) (a2_1 : Nat) (a3_0 : Nat) (a3_1 : Nat) : Option (Nat × Nat) :=
  (impl_coord k a0_0 a0_1) >>= fun r10 =>
  (impl_coord k a1_0 a1_1) >>= fun r12 =>
  (impl_coord k a2_0 a2_1) >>= fun r14 =>
  (impl_coord k a3_0 a3_1) >>= fun r16 =>
  (centralendpoint_GetIntersection k r10 r12 r14 r16) >>= fun r17 =>
  (impl_place k r17) >>= fun r18 =>
  some (r18.1, r18.2)

theorem impl_CentralEnd_sim {k : Nat}  (a0_0 : Nat) (a0_1 : Nat) (a1_0 : Nat) (a1_1 : Nat) (a2_0 : Nat) (a2_1 : Nat) (a3_0 : Nat) (a3_1 : Nat) {out : Nat × Nat} (hp : impl_CentralEnd k a0_0 a0_1 a1_0 a1_1 a2_0 a2_1 a3_0 a3_1 = some out) : Go.Sx.Fn Try.prog 36 [(Ag [(Vl (.float .f64 a0_0)), (Vl (.float .f64 a0_1))]), (Ag [(Vl (.float .f64 a1_0)), (Vl (.float .f64 a1_1))]), (Ag [(Vl (.float .f64 a2_0)), (Vl (.float .f64 a2_1))]), (Ag [(Vl (.float .f64 a3_0)), (Vl (.float .f64 a3_1))])] [] (fun w : Unit => (Ag [(Vl (.float .f64 out.1)), (Vl (.float .f64 out.2))])) (fun w => []) := by
  unfold impl_CentralEnd at hp
  refine fn_of Try.func36 rfl Try.ntmps36 rfl fun E hM => ?_
  refine cx_seq' fun K1 hK1 => ?_
  refine cx_region' ?_
  refine sx_ox' (ox_box' rfl (lv_ag _) rfl rfl) (wt_none' rfl) fun q4 => ?_
  refine sx_ox' (ox_box' rfl (lv_ag _) rfl rfl) (wt_none' rfl) fun q5 => ?_
  refine sx_ox' (ox_box' rfl (lv_ag _) rfl rfl) (wt_none' rfl) fun q6 => ?_
  refine sx_ox' (ox_box' rfl (lv_ag _) rfl rfl) (wt_none' rfl) fun q7 => ?_
  refine sx_ox' (ox_alloc' info27 rfl rfl rfl rfl (l := [(Vl (.float .f64 0)), (Vl (.float .f64 0))]) rfl) (wt_none' rfl) fun q8 => ?_
  refine sx_nil' ?_
  show TX E K1 _
  refine tx_k' hK1 ?_
  refine cx_seq' fun K2 hK2 => ?_
  refine cx_plan' [] [(10, 1)] [(0, 1), (2, 1), (4, 1), (6, 1), (1, 0), (3, 0), (5, 0), (7, 0), (8, 0), (9, 0), (10, 0)] mixed (by kernel_rfl) ?_
  refine px_rd' rfl (rd_load_agg' (i := 4) (o := 0) (nn := 2) rfl ⟨rfl, rfl, rfl, rfl⟩ rfl agg27 (l' := [(Vl (.float .f64 a0_0)), (Vl (.float .f64 a0_1))]) rfl) rfl rfl (wt_none' rfl) ?_
  refine px_rd' rfl (rd_load_agg' (i := 3) (o := 0) (nn := 2) rfl ⟨rfl, rfl, rfl, rfl⟩ rfl agg27 (l' := [(Vl (.float .f64 a1_0)), (Vl (.float .f64 a1_1))]) rfl) rfl rfl (wt_none' rfl) ?_
  refine px_rd' rfl (rd_load_agg' (i := 2) (o := 0) (nn := 2) rfl ⟨rfl, rfl, rfl, rfl⟩ rfl agg27 (l' := [(Vl (.float .f64 a2_0)), (Vl (.float .f64 a2_1))]) rfl) rfl rfl (wt_none' rfl) ?_
  refine px_rd' rfl (rd_load_agg' (i := 1) (o := 0) (nn := 2) rfl ⟨rfl, rfl, rfl, rfl⟩ rfl agg27 (l' := [(Vl (.float .f64 a3_0)), (Vl (.float .f64 a3_1))]) rfl) rfl rfl (wt_none' rfl) ?_
  obtain ⟨r10, hr10, hp⟩ := bind_some hp
  refine px_ox' rfl (ox_calln' (ent_fn' Try.func72 isn72 rfl rfl) (impl_coord_sim _ _ hr10 : Go.Sx.Fn Try.prog 72 [(Ag [(Vl (.float .f64 a0_0)), (Vl (.float .f64 a0_1))])] [] (fun x : Unit => (Sl Kf r10)) (fun x => [])) (Hn := fun x : Unit => [⟨.pointer (some q8), [(Vl (.float .f64 0)), (Vl (.float .f64 0))], 27, none⟩, ⟨.pointer (some q7), [(Vl (.float .f64 a3_0)), (Vl (.float .f64 a3_1))], 27, none⟩, ⟨.pointer (some q6), [(Vl (.float .f64 a2_0)), (Vl (.float .f64 a2_1))], 27, none⟩, ⟨.pointer (some q5), [(Vl (.float .f64 a1_0)), (Vl (.float .f64 a1_1))], 27, none⟩, ⟨.pointer (some q4), [(Vl (.float .f64 a0_0)), (Vl (.float .f64 a0_1))], 27, none⟩]) (fun _ => rfl) rfl rfl) rfl bs_nil (wt_none' rfl) fun ⟨⟩ => ?_
  obtain ⟨r12, hr12, hp⟩ := bind_some hp
  refine px_ox' rfl (ox_calln' (ent_fn' Try.func72 isn72 rfl rfl) (impl_coord_sim _ _ hr12 : Go.Sx.Fn Try.prog 72 [(Ag [(Vl (.float .f64 a1_0)), (Vl (.float .f64 a1_1))])] [] (fun x : Unit => (Sl Kf r12)) (fun x => [])) (Hn := fun x : Unit => [⟨.pointer (some q8), [(Vl (.float .f64 0)), (Vl (.float .f64 0))], 27, none⟩, ⟨.pointer (some q7), [(Vl (.float .f64 a3_0)), (Vl (.float .f64 a3_1))], 27, none⟩, ⟨.pointer (some q6), [(Vl (.float .f64 a2_0)), (Vl (.float .f64 a2_1))], 27, none⟩, ⟨.pointer (some q5), [(Vl (.float .f64 a1_0)), (Vl (.float .f64 a1_1))], 27, none⟩, ⟨.pointer (some q4), [(Vl (.float .f64 a0_0)), (Vl (.float .f64 a0_1))], 27, none⟩]) (fun _ => rfl) rfl rfl) rfl bs_nil (wt_none' rfl) fun ⟨⟩ => ?_
  obtain ⟨r14, hr14, hp⟩ := bind_some hp
  refine px_ox' rfl (ox_calln' (ent_fn' Try.func72 isn72 rfl rfl) (impl_coord_sim _ _ hr14 : Go.Sx.Fn Try.prog 72 [(Ag [(Vl (.float .f64 a2_0)), (Vl (.float .f64 a2_1))])] [] (fun x : Unit => (Sl Kf r14)) (fun x => [])) (Hn := fun x : Unit => [⟨.pointer (some q8), [(Vl (.float .f64 0)), (Vl (.float .f64 0))], 27, none⟩, ⟨.pointer (some q7), [(Vl (.float .f64 a3_0)), (Vl (.float .f64 a3_1))], 27, none⟩, ⟨.pointer (some q6), [(Vl (.float .f64 a2_0)), (Vl (.float .f64 a2_1))], 27, none⟩, ⟨.pointer (some q5), [(Vl (.float .f64 a1_0)), (Vl (.float .f64 a1_1))], 27, none⟩, ⟨.pointer (some q4), [(Vl (.float .f64 a0_0)), (Vl (.float .f64 a0_1))], 27, none⟩]) (fun _ => rfl) rfl rfl) rfl bs_nil (wt_none' rfl) fun ⟨⟩ => ?_
  obtain ⟨r16, hr16, hp⟩ := bind_some hp
  refine px_ox' rfl (ox_calln' (ent_fn' Try.func72 isn72 rfl rfl) (impl_coord_sim _ _ hr16 : Go.Sx.Fn Try.prog 72 [(Ag [(Vl (.float .f64 a3_0)), (Vl (.float .f64 a3_1))])] [] (fun x : Unit => (Sl Kf r16)) (fun x => [])) (Hn := fun x : Unit => [⟨.pointer (some q8), [(Vl (.float .f64 0)), (Vl (.float .f64 0))], 27, none⟩, ⟨.pointer (some q7), [(Vl (.float .f64 a3_0)), (Vl (.float .f64 a3_1))], 27, none⟩, ⟨.pointer (some q6), [(Vl (.float .f64 a2_0)), (Vl (.float .f64 a2_1))], 27, none⟩, ⟨.pointer (some q5), [(Vl (.float .f64 a1_0)), (Vl (.float .f64 a1_1))], 27, none⟩, ⟨.pointer (some q4), [(Vl (.float .f64 a0_0)), (Vl (.float .f64 a0_1))], 27, none⟩]) (fun _ => rfl) rfl rfl) rfl bs_nil (wt_none' rfl) fun ⟨⟩ => ?_
  obtain ⟨r17, hr17, hp⟩ := bind_some hp
  refine px_ox' rfl (ox_calln' (ent_fn' Try.func82 isn82 rfl rfl) (centralendpoint_GetIntersection_sim _ _ _ _ hr17 : Go.Sx.Fn Try.prog 82 [(Sl Kf r10), (Sl Kf r12), (Sl Kf r14), (Sl Kf r16)] [] (fun x : Unit => (Sl Kf r17)) (fun x => [])) (Hn := fun x : Unit => [⟨.pointer (some q8), [(Vl (.float .f64 0)), (Vl (.float .f64 0))], 27, none⟩, ⟨.pointer (some q7), [(Vl (.float .f64 a3_0)), (Vl (.float .f64 a3_1))], 27, none⟩, ⟨.pointer (some q6), [(Vl (.float .f64 a2_0)), (Vl (.float .f64 a2_1))], 27, none⟩, ⟨.pointer (some q5), [(Vl (.float .f64 a1_0)), (Vl (.float .f64 a1_1))], 27, none⟩, ⟨.pointer (some q4), [(Vl (.float .f64 a0_0)), (Vl (.float .f64 a0_1))], 27, none⟩]) (fun _ => rfl) rfl rfl) rfl bs_nil (wt_none' rfl) fun ⟨⟩ => ?_
  obtain ⟨r18, hr18, hp⟩ := bind_some hp
  refine px_ox' rfl (ox_calln' (ent_fn' Try.func81 isn81 rfl rfl) (impl_place_sim _ hr18 : Go.Sx.Fn Try.prog 81 [(Sl Kf r17)] [] (fun x : Unit => (Ag [(Vl (.float .f64 r18.1)), (Vl (.float .f64 r18.2))])) (fun x => [])) (Hn := fun x : Unit => [⟨.pointer (some q8), [(Vl (.float .f64 0)), (Vl (.float .f64 0))], 27, none⟩, ⟨.pointer (some q7), [(Vl (.float .f64 a3_0)), (Vl (.float .f64 a3_1))], 27, none⟩, ⟨.pointer (some q6), [(Vl (.float .f64 a2_0)), (Vl (.float .f64 a2_1))], 27, none⟩, ⟨.pointer (some q5), [(Vl (.float .f64 a1_0)), (Vl (.float .f64 a1_1))], 27, none⟩, ⟨.pointer (some q4), [(Vl (.float .f64 a0_0)), (Vl (.float .f64 a0_1))], 27, none⟩]) (fun _ => rfl) rfl rfl) rfl bs_nil (wt_none' rfl) fun ⟨⟩ => ?_
  refine px_oxv' rfl (oxv_store (i := 0) (o := 0) rfl rfl (lv_ag _) ⟨rfl, rfl, rfl, rfl⟩ rfl info27 rfl (H' := [⟨.pointer (some q8), [(Vl (.float .f64 r18.1)), (Vl (.float .f64 r18.2))], 27, none⟩, ⟨.pointer (some q7), [(Vl (.float .f64 a3_0)), (Vl (.float .f64 a3_1))], 27, none⟩, ⟨.pointer (some q6), [(Vl (.float .f64 a2_0)), (Vl (.float .f64 a2_1))], 27, none⟩, ⟨.pointer (some q5), [(Vl (.float .f64 a1_0)), (Vl (.float .f64 a1_1))], 27, none⟩, ⟨.pointer (some q4), [(Vl (.float .f64 a0_0)), (Vl (.float .f64 a0_1))], 27, none⟩]) rfl) rfl rfl bo_nil (wt_none' rfl) fun _ => ?_
  refine px_nil' ?_
  show TX E K2 _
  refine tx_k' hK2 ?_
  refine cx_retc' ?_
  replace hp := Option.some.inj hp
  subst hp
  refine tx_pick' (L' := [(8, (Vl (.pointer (some q8))))]) (H' := [⟨.pointer (some q8), [(Vl (.float .f64 r18.1)), (Vl (.float .f64 r18.2))], 27, none⟩]) [0] (sub_cons rfl sub_nil) (by decide) (pick_cons rfl pick_nil) ?_
  exact tx_ret1' Try.results36 rfl () (rv_cell_agg' (i := 0) (o := 0) (nn := 2) rfl ⟨rfl, rfl, rfl, rfl⟩ rfl agg27 rfl) (List.nil_sublist _)

def laws_FnCentralEnd_1 (k : Nat) (a0_0 : Nat) (a0_1 : Nat) (a1_0 : Nat) (a1_1 : Nat) (a2_0 : Nat) (a2_1 : Nat) (a3_0 : Nat) (a3_1 : Nat) (a4_0 : Nat) (a4_1 : Nat) : Option (Nat × Nat × Nat × Nat × Nat × Nat × Nat × Nat × Nat) :=
  (fmul 4616189618054758400 a0_0) >>= fun r11 =>
  (fsub r11 a1_0) >>= fun r14 =>
  (fsub r14 a2_0) >>= fun r17 =>
  (fsub r17 a3_0) >>= fun r20 =>
  (fsub r20 a4_0) >>= fun r23 =>
  (fmul 4616189618054758400 a0_1) >>= fun r26 =>
  (fsub r26 a1_1) >>= fun r29 =>
  (fsub r29 a2_1) >>= fun r32 =>
  (fsub r32 a3_1) >>= fun r35 =>
  (fsub r35 a4_1) >>= fun r38 =>
  (some (gmul r23 r23)) >>= fun r41 =>
  (some (gmul r38 r38)) >>= fun r44 =>
  (some (gadd r41 r44)) >>= fun r45 =>
  some (a1_0, a1_1, a2_0, a2_1, a3_0, a3_1, a4_0, a4_1, r45)

theorem laws_FnCentralEnd_1_sim {k : Nat} {wa1 : Addr} {wa2 : Addr} {wa3 : Addr} {wa4 : Addr} (a0_0 : Nat) (a0_1 : Nat) (a1_0 : Nat) (a1_1 : Nat) (a2_0 : Nat) (a2_1 : Nat) (a3_0 : Nat) (a3_1 : Nat) (a4_0 : Nat) (a4_1 : Nat) {out : Nat × Nat × Nat × Nat × Nat × Nat × Nat × Nat × Nat} (hp : laws_FnCentralEnd_1 k a0_0 a0_1 a1_0 a1_1 a2_0 a2_1 a3_0 a3_1 a4_0 a4_1 = some out) : Go.Sx.Fn Try.prog 35 [(Ag [(Vl (.float .f64 a0_0)), (Vl (.float .f64 a0_1))]), (Vl (.pointer (some wa1))), (Vl (.pointer (some wa2))), (Vl (.pointer (some wa3))), (Vl (.pointer (some wa4)))] [⟨.pointer (some wa1), [(Vl (.float .f64 a1_0)), (Vl (.float .f64 a1_1))], 27, none⟩, ⟨.pointer (some wa2), [(Vl (.float .f64 a2_0)), (Vl (.float .f64 a2_1))], 27, none⟩, ⟨.pointer (some wa3), [(Vl (.float .f64 a3_0)), (Vl (.float .f64 a3_1))], 27, none⟩, ⟨.pointer (some wa4), [(Vl (.float .f64 a4_0)), (Vl (.float .f64 a4_1))], 27, none⟩] (fun w : Unit => (Fl out.2.2.2.2.2.2.2.2)) (fun w => [⟨.pointer (some wa1), [(Vl (.float .f64 out.1)), (Vl (.float .f64 out.2.1))], 27, none⟩, ⟨.pointer (some wa2), [(Vl (.float .f64 out.2.2.1)), (Vl (.float .f64 out.2.2.2.1))], 27, none⟩, ⟨.pointer (some wa3), [(Vl (.float .f64 out.2.2.2.2.1)), (Vl (.float .f64 out.2.2.2.2.2.1))], 27, none⟩, ⟨.pointer (some wa4), [(Vl (.float .f64 out.2.2.2.2.2.2.1)), (Vl (.float .f64 out.2.2.2.2.2.2.2.1))], 27, none⟩]) := by
  unfold laws_FnCentralEnd_1 at hp
  refine fn_of Try.func35 rfl Try.ntmps35 rfl fun E hM => ?_
  refine cx_seq' fun K1 hK1 => ?_
  refine cx_region' ?_
  refine sx_ox' (ox_box' rfl (lv_ag _) rfl rfl) (wt_none' rfl) fun q5 => ?_
  refine sx_rd' (rd_assign' rfl) rfl rfl (wt_none' rfl) ?_
  refine sx_nil' ?_
  show TX E K1 _
  refine tx_k' hK1 ?_
  refine cx_seq' fun K2 hK2 => ?_
  refine cx_draw' mixed (by kernel_rfl) ?_
  refine qx_rd' (rd_field0' rfl Try.underlying27 rfl info25 rfl) rfl rfl (wt_none' rfl) ?_
  refine qx_rd' (rd_load' (i := 0) (o := 0) rfl ⟨rfl, rfl, rfl, rfl⟩ rfl flat25) rfl rfl (wt_none' rfl) ?_
  obtain ⟨r11, hr11, hp⟩ := bind_some hp
  refine qx_rd' (rd_bin' rfl rfl eg_flt (ru_fmul hr11)) rfl rfl (wt_none' rfl) ?_
  refine qx_rd' (rd_field0' rfl Try.underlying27 rfl info25 rfl) rfl rfl (wt_none' rfl) ?_
  refine qx_rd' (rd_load' (i := 1) (o := 0) rfl ⟨rfl, rfl, rfl, rfl⟩ rfl flat25) rfl rfl (wt_none' rfl) ?_
  obtain ⟨r14, hr14, hp⟩ := bind_some hp
  refine qx_rd' (rd_bin' rfl rfl eg_flt (ru_fsub hr14)) rfl rfl (wt_none' rfl) ?_
  refine qx_rd' (rd_field0' rfl Try.underlying27 rfl info25 rfl) rfl rfl (wt_none' rfl) ?_
  refine qx_rd' (rd_load' (i := 2) (o := 0) rfl ⟨rfl, rfl, rfl, rfl⟩ rfl flat25) rfl rfl (wt_none' rfl) ?_
  obtain ⟨r17, hr17, hp⟩ := bind_some hp
  refine qx_rd' (rd_bin' rfl rfl eg_flt (ru_fsub hr17)) rfl rfl (wt_none' rfl) ?_
  refine qx_rd' (rd_field0' rfl Try.underlying27 rfl info25 rfl) rfl rfl (wt_none' rfl) ?_
  refine qx_rd' (rd_load' (i := 3) (o := 0) rfl ⟨rfl, rfl, rfl, rfl⟩ rfl flat25) rfl rfl (wt_none' rfl) ?_
  obtain ⟨r20, hr20, hp⟩ := bind_some hp
  refine qx_rd' (rd_bin' rfl rfl eg_flt (ru_fsub hr20)) rfl rfl (wt_none' rfl) ?_
  refine qx_rd' (rd_field0' rfl Try.underlying27 rfl info25 rfl) rfl rfl (wt_none' rfl) ?_
  refine qx_rd' (rd_load' (i := 4) (o := 0) rfl ⟨rfl, rfl, rfl, rfl⟩ rfl flat25) rfl rfl (wt_none' rfl) ?_
  obtain ⟨r23, hr23, hp⟩ := bind_some hp
  refine qx_rd' (rd_bin' rfl rfl eg_flt (ru_fsub hr23)) rfl rfl (wt_none' rfl) ?_
  refine qx_rd' (rd_field' (off := 1) rfl Try.underlying27 rfl info25 rfl) rfl rfl (wt_none' rfl) ?_
  refine qx_rd' (rd_load' (i := 0) (o := 1) rfl ⟨rfl, rfl, rfl, rfl⟩ rfl flat25) rfl rfl (wt_none' rfl) ?_
  obtain ⟨r26, hr26, hp⟩ := bind_some hp
  refine qx_rd' (rd_bin' rfl rfl eg_flt (ru_fmul hr26)) rfl rfl (wt_none' rfl) ?_
  refine qx_rd' (rd_field' (off := 1) rfl Try.underlying27 rfl info25 rfl) rfl rfl (wt_none' rfl) ?_
  refine qx_rd' (rd_load' (i := 1) (o := 1) rfl ⟨rfl, rfl, rfl, rfl⟩ rfl flat25) rfl rfl (wt_none' rfl) ?_
  obtain ⟨r29, hr29, hp⟩ := bind_some hp
  refine qx_rd' (rd_bin' rfl rfl eg_flt (ru_fsub hr29)) rfl rfl (wt_none' rfl) ?_
  refine qx_rd' (rd_field' (off := 1) rfl Try.underlying27 rfl info25 rfl) rfl rfl (wt_none' rfl) ?_
  refine qx_rd' (rd_load' (i := 2) (o := 1) rfl ⟨rfl, rfl, rfl, rfl⟩ rfl flat25) rfl rfl (wt_none' rfl) ?_
  obtain ⟨r32, hr32, hp⟩ := bind_some hp
  refine qx_rd' (rd_bin' rfl rfl eg_flt (ru_fsub hr32)) rfl rfl (wt_none' rfl) ?_
  refine qx_rd' (rd_field' (off := 1) rfl Try.underlying27 rfl info25 rfl) rfl rfl (wt_none' rfl) ?_
  refine qx_rd' (rd_load' (i := 3) (o := 1) rfl ⟨rfl, rfl, rfl, rfl⟩ rfl flat25) rfl rfl (wt_none' rfl) ?_
  obtain ⟨r35, hr35, hp⟩ := bind_some hp
  refine qx_rd' (rd_bin' rfl rfl eg_flt (ru_fsub hr35)) rfl rfl (wt_none' rfl) ?_
  refine qx_rd' (rd_field' (off := 1) rfl Try.underlying27 rfl info25 rfl) rfl rfl (wt_none' rfl) ?_
  refine qx_rd' (rd_load' (i := 4) (o := 1) rfl ⟨rfl, rfl, rfl, rfl⟩ rfl flat25) rfl rfl (wt_none' rfl) ?_
  obtain ⟨r38, hr38, hp⟩ := bind_some hp
  refine qx_rd' (rd_bin' rfl rfl eg_flt (ru_fsub hr38)) rfl rfl (wt_none' rfl) ?_
  refine qx_rd' (rd_assign' rfl) rfl rfl (wt_none' rfl) ?_
  refine qx_rd' (rd_assign' rfl) rfl rfl (wt_none' rfl) ?_
  refine qx_nil' ?_
  show TX E K2 _
  refine tx_k' hK2 ?_
  refine cx_seq' fun K3 hK3 => ?_
  refine cx_region' ?_
  refine sx_rd' (rd_move' rfl) rfl rfl (wt_none' rfl) ?_
  refine sx_rd' (rd_move' rfl) rfl rfl (wt_none' rfl) ?_
  obtain ⟨r41, hr41, hp⟩ := bind_some hp
  refine sx_ox' (ox_fop' (.inr (.inr (.inl rfl))) (fl_v rfl) (fl_v rfl) (Option.some.inj hr41) rfl rfl) (wt_none' rfl) fun _ => ?_
  refine sx_rd' (rd_move' rfl) rfl rfl (wt_none' rfl) ?_
  refine sx_rd' (rd_move' rfl) rfl rfl (wt_none' rfl) ?_
  obtain ⟨r44, hr44, hp⟩ := bind_some hp
  refine sx_ox' (ox_fop' (.inr (.inr (.inl rfl))) (fl_v rfl) (fl_v rfl) (Option.some.inj hr44) rfl rfl) (wt_none' rfl) fun _ => ?_
  obtain ⟨r45, hr45, hp⟩ := bind_some hp
  refine sx_ox' (ox_fop' (.inl rfl) (fl_f rfl) (fl_f rfl) (Option.some.inj hr45) rfl rfl) (wt_none' rfl) fun _ => ?_
  refine sx_rd' (rd_assign' rfl) rfl rfl (wt_none' rfl) ?_
  refine sx_nil' ?_
  show TX E K3 _
  refine tx_k' hK3 ?_
  refine cx_retc' ?_
  replace hp := Option.some.inj hp
  subst hp
  refine tx_pick' (L' := [(6, (Fl r45))]) (H' := [⟨.pointer (some wa1), [(Vl (.float .f64 a1_0)), (Vl (.float .f64 a1_1))], 27, none⟩, ⟨.pointer (some wa2), [(Vl (.float .f64 a2_0)), (Vl (.float .f64 a2_1))], 27, none⟩, ⟨.pointer (some wa3), [(Vl (.float .f64 a3_0)), (Vl (.float .f64 a3_1))], 27, none⟩, ⟨.pointer (some wa4), [(Vl (.float .f64 a4_0)), (Vl (.float .f64 a4_1))], 27, none⟩]) [1, 2, 3, 4] (sub_cons rfl sub_nil) (by decide) (pick_cons rfl (pick_cons rfl (pick_cons rfl (pick_cons rfl pick_nil)))) ?_
  exact tx_ret1' Try.results35 rfl () (rv_tmp' rfl) (List.Sublist.refl _)

def laws_FnCentralEnd_j1 (k : Nat) (r37 : Nat × Nat) (x1 : Nat) (x2 : Nat) (x3 : Nat) (x4 : Nat) (x5 : Nat) (x6 : Nat) (x7 : Nat) (x8 : Nat) (r32 : Nat × Nat) (rec1 : (Nat × Nat × Nat × Nat × Nat × Nat × Nat × Nat × Bool × Int) → Option (Unit ⊕ Bool)) (x10 : Int) (x11 : Bool) : Option (Unit ⊕ Bool) :=
  (laws_FnCentralEnd_1 k r37.1 r37.2 x1 x2 x3 x4 x5 x6 x7 x8) >>= fun r47 =>
  (laws_FnCentralEnd_1 k r32.1 r32.2 r47.1 r47.2.1 r47.2.2.1 r47.2.2.2.1 r47.2.2.2.2.1 r47.2.2.2.2.2.1 r47.2.2.2.2.2.2.1 r47.2.2.2.2.2.2.2.1) >>= fun r50 =>
  br (flt r47.2.2.2.2.2.2.2.2 r50.2.2.2.2.2.2.2.2)
    (some (.inl ()))
    (rec1 (r50.1, r50.2.1, r50.2.2.1, r50.2.2.2.1, r50.2.2.2.2.1, r50.2.2.2.2.2.1, r50.2.2.2.2.2.2.1, r50.2.2.2.2.2.2.2.1, x11, (iadd .i64 x10 1)))
def laws_FnCentralEnd_l1s (a0_0 : Nat) (a0_1 : Nat) (a1_0 : Nat) (a1_1 : Nat) (a2_0 : Nat) (a2_1 : Nat) (a3_0 : Nat) (a3_1 : Nat) (r32 : Nat × Nat) (k : Nat) (rec1 : (Nat × Nat × Nat × Nat × Nat × Nat × Nat × Nat × Bool × Int) → Option (Unit ⊕ Bool)) (x1 : Nat) (x2 : Nat) (x3 : Nat) (x4 : Nat) (x5 : Nat) (x6 : Nat) (x7 : Nat) (x8 : Nat) (x9 : Bool) (x10 : Int) : Option (Unit ⊕ Bool) :=
  br (decide (x10 < (([(a0_0, a0_1), (a1_0, a1_1), (a2_0, a2_1), (a3_0, a3_1)]).length : Int)))
    ((idx ([(a0_0, a0_1), (a1_0, a1_1), (a2_0, a2_1), (a3_0, a3_1)]) x10) >>= fun r37 =>
    br x9
      (laws_FnCentralEnd_j1 k r37 x1 x2 x3 x4 x5 x6 x7 x8 r32 rec1 x10 true)
      (laws_FnCentralEnd_j1 k r37 x1 x2 x3 x4 x5 x6 x7 x8 r32 rec1 x10 ((feq r37.1 r32.1) && ((feq r37.2 r32.2) && true))))
    (some (.inr x9))
def laws_FnCentralEnd_l1 (a0_0 : Nat) (a0_1 : Nat) (a1_0 : Nat) (a1_1 : Nat) (a2_0 : Nat) (a2_1 : Nat) (a3_0 : Nat) (a3_1 : Nat) (r32 : Nat × Nat) : Nat → (Nat × Nat × Nat × Nat × Nat × Nat × Nat × Nat × Bool × Int) → Option (Unit ⊕ Bool)
  | 0, _ => none
  | k + 1, v => laws_FnCentralEnd_l1s a0_0 a0_1 a1_0 a1_1 a2_0 a2_1 a3_0 a3_1 r32 k (laws_FnCentralEnd_l1 a0_0 a0_1 a1_0 a1_1 a2_0 a2_1 a3_0 a3_1 r32 k) v.1 v.2.1 v.2.2.1 v.2.2.2.1 v.2.2.2.2.1 v.2.2.2.2.2.1 v.2.2.2.2.2.2.1 v.2.2.2.2.2.2.2.1 v.2.2.2.2.2.2.2.2.1 v.2.2.2.2.2.2.2.2.2
def laws_FnCentralEnd (k : Nat) (a0_0 : Nat) (a0_1 : Nat) (a1_0 : Nat) (a1_1 : Nat) (a2_0 : Nat) (a2_1 : Nat) (a3_0 : Nat) (a3_1 : Nat) : Option (Bool) :=
  (laws_planeTo k 4665729213955833856 ([(a0_0, a0_1), (a1_0, a1_1), (a2_0, a2_1), (a3_0, a3_1)])) >>= fun r20 =>
  br (!r20)
    (some true)
    ((impl_CentralEnd k a0_0 a0_1 a1_0 a1_1 a2_0 a2_1 a3_0 a3_1) >>= fun r32 =>
    (laws_FnCentralEnd_l1 a0_0 a0_1 a1_0 a1_1 a2_0 a2_1 a3_0 a3_1 r32 k (a0_0, a0_1, a1_0, a1_1, a2_0, a2_1, a3_0, a3_1, false, 0)) >>= fun y1 => match y1 with
      | (.inl v3) =>
        (some false)
      | (.inr v4) =>
        (some v4))

theorem laws_FnCentralEnd_sim {k : Nat}  (a0_0 : Nat) (a0_1 : Nat) (a1_0 : Nat) (a1_1 : Nat) (a2_0 : Nat) (a2_1 : Nat) (a3_0 : Nat) (a3_1 : Nat) {out : Bool} (hp : laws_FnCentralEnd k a0_0 a0_1 a1_0 a1_1 a2_0 a2_1 a3_0 a3_1 = some out) : Go.Sx.Fn Try.prog 7 [(Ag [(Vl (.float .f64 a0_0)), (Vl (.float .f64 a0_1))]), (Ag [(Vl (.float .f64 a1_0)), (Vl (.float .f64 a1_1))]), (Ag [(Vl (.float .f64 a2_0)), (Vl (.float .f64 a2_1))]), (Ag [(Vl (.float .f64 a3_0)), (Vl (.float .f64 a3_1))])] [] (fun w : Unit => (Vl (.bool out))) (fun w => []) := by
  unfold laws_FnCentralEnd at hp
  refine fn_of Try.func7 rfl Try.ntmps7 rfl fun E hM => ?_
  refine cx_seq' fun K1 hK1 => ?_
  refine cx_region' ?_
  refine sx_ox' (ox_box' rfl (lv_ag _) rfl rfl) (wt_none' rfl) fun q4 => ?_
  refine sx_ox' (ox_box' rfl (lv_ag _) rfl rfl) (wt_none' rfl) fun q5 => ?_
  refine sx_ox' (ox_box' rfl (lv_ag _) rfl rfl) (wt_none' rfl) fun q6 => ?_
  refine sx_ox' (ox_box' rfl (lv_ag _) rfl rfl) (wt_none' rfl) fun q7 => ?_
  refine sx_rd' (rd_assign' rfl) rfl rfl (wt_none' rfl) ?_
  refine sx_nil' ?_
  show TX E K1 _
  refine tx_k' hK1 ?_
  refine cx_seq' fun K2 hK2 => ?_
  refine cx_seq' fun K3 hK3 => ?_
  refine cx_region' ?_
  refine sx_rd' (rd_load_agg' (i := 3) (o := 0) (nn := 2) rfl ⟨rfl, rfl, rfl, rfl⟩ rfl agg27 (l' := [(Vl (.float .f64 a0_0)), (Vl (.float .f64 a0_1))]) rfl) rfl rfl (wt_none' rfl) ?_
  refine sx_rd' (rd_load_agg' (i := 2) (o := 0) (nn := 2) rfl ⟨rfl, rfl, rfl, rfl⟩ rfl agg27 (l' := [(Vl (.float .f64 a1_0)), (Vl (.float .f64 a1_1))]) rfl) rfl rfl (wt_none' rfl) ?_
  refine sx_rd' (rd_load_agg' (i := 1) (o := 0) (nn := 2) rfl ⟨rfl, rfl, rfl, rfl⟩ rfl agg27 (l' := [(Vl (.float .f64 a2_0)), (Vl (.float .f64 a2_1))]) rfl) rfl rfl (wt_none' rfl) ?_
  refine sx_rd' (rd_load_agg' (i := 0) (o := 0) (nn := 2) rfl ⟨rfl, rfl, rfl, rfl⟩ rfl agg27 (l' := [(Vl (.float .f64 a3_0)), (Vl (.float .f64 a3_1))]) rfl) rfl rfl (wt_none' rfl) ?_
  refine sx_ox' (ox_rowlit' (K := KT27) (xs := [(a0_0, a0_1), (a1_0, a1_1), (a2_0, a2_1), (a3_0, a3_1)]) (qs := [(0, [(Vl (.float .f64 a0_0)), (Vl (.float .f64 a0_1))]), (1, [(Vl (.float .f64 a1_0)), (Vl (.float .f64 a1_1))]), (2, [(Vl (.float .f64 a2_0)), (Vl (.float .f64 a2_1))]), (3, [(Vl (.float .f64 a3_0)), (Vl (.float .f64 a3_1))])]) ⟨rfl, ⟨_, rfl, (lv_ag _)⟩, ⟨rfl, ⟨_, rfl, (lv_ag _)⟩, ⟨rfl, ⟨_, rfl, (lv_ag _)⟩, ⟨rfl, ⟨_, rfl, (lv_ag _)⟩, trivial⟩⟩⟩⟩ Try.underlying22 info27 rfl rfl rfl rfl rfl (by kernel_rfl) rfl rfl rfl) (wt_none' rfl) fun g19 => ?_
  obtain ⟨r20, hr20, hp⟩ := bind_some hp
  refine sx_ox' (ox_brw' (frz_row 0 [(19, (Vl (Vs g19)), (Sl KT27 ([(a0_0, a0_1), (a1_0, a1_1), (a2_0, a2_1), (a3_0, a3_1)])))] (K := KT27) (xs := [(a0_0, a0_1), (a1_0, a1_1), (a2_0, a2_1), (a3_0, a3_1)]) (by decide) rfl ⟨⟨rfl, frz_it⟩, trivial⟩ (H' := [⟨.pointer (some q7), [(Vl (.float .f64 a3_0)), (Vl (.float .f64 a3_1))], 27, none⟩, ⟨.pointer (some q6), [(Vl (.float .f64 a2_0)), (Vl (.float .f64 a2_1))], 27, none⟩, ⟨.pointer (some q5), [(Vl (.float .f64 a1_0)), (Vl (.float .f64 a1_1))], 27, none⟩, ⟨.pointer (some q4), [(Vl (.float .f64 a0_0)), (Vl (.float .f64 a0_1))], 27, none⟩]) frzH_refl) (ent_fn' Try.func16 isn16 rfl rfl) (laws_planeTo_sim _ _ hr20 : Go.Sx.Fn Try.prog 16 [(Vl (.float .f64 4665729213955833856)), (Sl KT27 ([(a0_0, a0_1), (a1_0, a1_1), (a2_0, a2_1), (a3_0, a3_1)]))] [] (fun x : Unit => (Vl (.bool r20))) (fun x => [])) pu_vl rfl rfl) (wt_none' rfl) fun ⟨⟩ => ?_
  refine sx_rd' (rd_un' rfl ru_not) rfl rfl (wt_none' rfl) ?_
  refine sx_nil' ?_
  show TX E K3 _
  refine tx_k' hK3 ?_
  refine cx_cond' rfl (fun h1 => ?_) (fun h1 => ?_)
  · replace hp := (br_t h1).symm.trans hp
    refine cx_seq' fun K4 hK4 => ?_
    refine cx_region' ?_
    refine sx_rd' (rd_assign' rfl) rfl rfl (wt_none' rfl) ?_
    refine sx_nil' ?_
    show TX E K4 _
    refine tx_k' hK4 ?_
    refine cx_retc' ?_
    replace hp := Option.some.inj hp
    subst hp
    refine tx_pick' (L' := [(8, (Vl (.bool true)))]) (H' := []) [] (sub_cons rfl sub_nil) (by decide) pick_nil ?_
    exact tx_ret1' Try.results7 rfl () (rv_tmp' rfl) (List.Sublist.refl _)
  · replace hp := (br_f h1).symm.trans hp
    refine cx_skip' ?_
    show TX E K2 _
    refine tx_k' hK2 ?_
    refine cx_seq' fun K5 hK5 => ?_
    refine cx_region' ?_
    refine sx_rd' (rd_load_agg' (i := 4) (o := 0) (nn := 2) rfl ⟨rfl, rfl, rfl, rfl⟩ rfl agg27 (l' := [(Vl (.float .f64 a0_0)), (Vl (.float .f64 a0_1))]) rfl) rfl rfl (wt_none' rfl) ?_
    refine sx_rd' (rd_load_agg' (i := 3) (o := 0) (nn := 2) rfl ⟨rfl, rfl, rfl, rfl⟩ rfl agg27 (l' := [(Vl (.float .f64 a1_0)), (Vl (.float .f64 a1_1))]) rfl) rfl rfl (wt_none' rfl) ?_
    refine sx_rd' (rd_load_agg' (i := 2) (o := 0) (nn := 2) rfl ⟨rfl, rfl, rfl, rfl⟩ rfl agg27 (l' := [(Vl (.float .f64 a2_0)), (Vl (.float .f64 a2_1))]) rfl) rfl rfl (wt_none' rfl) ?_
    refine sx_rd' (rd_load_agg' (i := 1) (o := 0) (nn := 2) rfl ⟨rfl, rfl, rfl, rfl⟩ rfl agg27 (l' := [(Vl (.float .f64 a3_0)), (Vl (.float .f64 a3_1))]) rfl) rfl rfl (wt_none' rfl) ?_
    refine sx_ox' (ox_rowlit' (K := KT27) (xs := [(a0_0, a0_1), (a1_0, a1_1), (a2_0, a2_1), (a3_0, a3_1)]) (qs := [(0, [(Vl (.float .f64 a0_0)), (Vl (.float .f64 a0_1))]), (1, [(Vl (.float .f64 a1_0)), (Vl (.float .f64 a1_1))]), (2, [(Vl (.float .f64 a2_0)), (Vl (.float .f64 a2_1))]), (3, [(Vl (.float .f64 a3_0)), (Vl (.float .f64 a3_1))])]) ⟨rfl, ⟨_, rfl, (lv_ag _)⟩, ⟨rfl, ⟨_, rfl, (lv_ag _)⟩, ⟨rfl, ⟨_, rfl, (lv_ag _)⟩, ⟨rfl, ⟨_, rfl, (lv_ag _)⟩, trivial⟩⟩⟩⟩ Try.underlying22 info27 rfl rfl rfl rfl rfl (by kernel_rfl) rfl rfl rfl) (wt_none' rfl) fun g26 => ?_
    refine sx_rd' (rd_assign' rfl) rfl rfl (wt_none' rfl) ?_
    refine sx_nil' ?_
    show TX E K5 _
    refine tx_k' hK5 ?_
    refine cx_seq' fun K6 hK6 => ?_
    refine cx_region' ?_
    refine sx_rd' (rd_mkfunc' (us := [.pointer (some q4), .pointer (some q5), .pointer (some q6), .pointer (some q7)]) rfl) rfl rfl (wt_none' rfl) ?_
    refine sx_rd' (rd_assign' rfl) rfl rfl (wt_none' rfl) ?_
    refine sx_nil' ?_
    show TX E K6 _
    refine tx_k' hK6 ?_
    refine cx_seq' fun K7 hK7 => ?_
    refine cx_region' ?_
    refine sx_rd' (rd_load_agg' (i := 5) (o := 0) (nn := 2) rfl ⟨rfl, rfl, rfl, rfl⟩ rfl agg27 (l' := [(Vl (.float .f64 a0_0)), (Vl (.float .f64 a0_1))]) rfl) rfl rfl (wt_none' rfl) ?_
    refine sx_rd' (rd_load_agg' (i := 4) (o := 0) (nn := 2) rfl ⟨rfl, rfl, rfl, rfl⟩ rfl agg27 (l' := [(Vl (.float .f64 a1_0)), (Vl (.float .f64 a1_1))]) rfl) rfl rfl (wt_none' rfl) ?_
    refine sx_rd' (rd_load_agg' (i := 3) (o := 0) (nn := 2) rfl ⟨rfl, rfl, rfl, rfl⟩ rfl agg27 (l' := [(Vl (.float .f64 a2_0)), (Vl (.float .f64 a2_1))]) rfl) rfl rfl (wt_none' rfl) ?_
    refine sx_rd' (rd_load_agg' (i := 2) (o := 0) (nn := 2) rfl ⟨rfl, rfl, rfl, rfl⟩ rfl agg27 (l' := [(Vl (.float .f64 a3_0)), (Vl (.float .f64 a3_1))]) rfl) rfl rfl (wt_none' rfl) ?_
    obtain ⟨r32, hr32, hp⟩ := bind_some hp
    refine sx_ox' (ox_calln' (ent_fn' Try.func36 isn36 rfl rfl) (impl_CentralEnd_sim _ _ _ _ _ _ _ _ hr32 : Go.Sx.Fn Try.prog 36 [(Ag [(Vl (.float .f64 a0_0)), (Vl (.float .f64 a0_1))]), (Ag [(Vl (.float .f64 a1_0)), (Vl (.float .f64 a1_1))]), (Ag [(Vl (.float .f64 a2_0)), (Vl (.float .f64 a2_1))]), (Ag [(Vl (.float .f64 a3_0)), (Vl (.float .f64 a3_1))])] [] (fun x : Unit => (Ag [(Vl (.float .f64 r32.1)), (Vl (.float .f64 r32.2))])) (fun x => [])) (Hn := fun x : Unit => [(Rw KT27 27 (Vs g26) ([(a0_0, a0_1), (a1_0, a1_1), (a2_0, a2_1), (a3_0, a3_1)])), (Rw KT27 27 (Vs g19) ([(a0_0, a0_1), (a1_0, a1_1), (a2_0, a2_1), (a3_0, a3_1)])), ⟨.pointer (some q7), [(Vl (.float .f64 a3_0)), (Vl (.float .f64 a3_1))], 27, none⟩, ⟨.pointer (some q6), [(Vl (.float .f64 a2_0)), (Vl (.float .f64 a2_1))], 27, none⟩, ⟨.pointer (some q5), [(Vl (.float .f64 a1_0)), (Vl (.float .f64 a1_1))], 27, none⟩, ⟨.pointer (some q4), [(Vl (.float .f64 a0_0)), (Vl (.float .f64 a0_1))], 27, none⟩]) (fun _ => rfl) rfl rfl) (wt_none' rfl) fun ⟨⟩ => ?_
    refine sx_ox' (ox_alloc' info27 rfl rfl rfl rfl (l := [(Vl (.float .f64 0)), (Vl (.float .f64 0))]) rfl) (wt_none' rfl) fun q11 => ?_
    refine sx_ox' (ox_store' (i := 0) (o := 0) rfl rfl (lv_ag _) ⟨rfl, rfl, rfl, rfl⟩ rfl info27 rfl (H' := [⟨.pointer (some q11), [(Vl (.float .f64 r32.1)), (Vl (.float .f64 r32.2))], 27, none⟩, (Rw KT27 27 (Vs g26) ([(a0_0, a0_1), (a1_0, a1_1), (a2_0, a2_1), (a3_0, a3_1)])), (Rw KT27 27 (Vs g19) ([(a0_0, a0_1), (a1_0, a1_1), (a2_0, a2_1), (a3_0, a3_1)])), ⟨.pointer (some q7), [(Vl (.float .f64 a3_0)), (Vl (.float .f64 a3_1))], 27, none⟩, ⟨.pointer (some q6), [(Vl (.float .f64 a2_0)), (Vl (.float .f64 a2_1))], 27, none⟩, ⟨.pointer (some q5), [(Vl (.float .f64 a1_0)), (Vl (.float .f64 a1_1))], 27, none⟩, ⟨.pointer (some q4), [(Vl (.float .f64 a0_0)), (Vl (.float .f64 a0_1))], 27, none⟩]) rfl) (wt_none' rfl) fun _ => ?_
    refine sx_nil' ?_
    show TX E K7 _
    refine tx_k' hK7 ?_
    refine cx_seq' fun K8 hK8 => ?_
    refine cx_region' ?_
    refine sx_rd' (rd_assign' rfl) rfl rfl (wt_none' rfl) ?_
    refine sx_nil' ?_
    show TX E K8 _
    refine tx_k' hK8 ?_
    refine cx_seq' fun K9 hK9 => ?_
    refine cx_seq' fun K10 hK10 => ?_
    refine cx_region' ?_
    refine sx_rd' (rd_move' rfl) rfl rfl (wt_none' rfl) ?_
    refine sx_rd' (rd_lenr' (i := 1) rfl rfl rfl Try.underlying22) rfl rfl (wt_none' rfl) ?_
    refine sx_rd' (rd_move' rfl) rfl rfl (wt_none' rfl) ?_
    refine sx_nil' ?_
    show TX E K10 _
    refine tx_k' hK10 ?_
    refine cx_block' ?_
    obtain ⟨y1, hy1, hp⟩ := bind_some hp
    refine cx_loopg' (F := laws_FnCentralEnd_l1 a0_0 a0_1 a1_0 a1_1 a2_0 a2_1 a3_0 a3_1 r32) (G := fun k R v => laws_FnCentralEnd_l1s a0_0 a0_1 a1_0 a1_1 a2_0 a2_1 a3_0 a3_1 r32 k R v.1 v.2.1 v.2.2.1 v.2.2.2.1 v.2.2.2.2.1 v.2.2.2.2.2.1 v.2.2.2.2.2.2.1 v.2.2.2.2.2.2.2.1 v.2.2.2.2.2.2.2.2.1 v.2.2.2.2.2.2.2.2.2) (x := (a0_0, a0_1, a1_0, a1_1, a2_0, a2_1, a3_0, a3_1, false, 0)) (gh := ()) (fun (v1 : Nat × Nat × Nat × Nat × Nat × Nat × Nat × Nat × Bool × Int) (w1 : Unit) => (⟨54, [], [(10, (Vl (.func (.func 35) #[] ⟨[.pointer (some q4), .pointer (some q5), .pointer (some q6), .pointer (some q7)]⟩))), (11, (Vl (.pointer (some q11)))), (12, (Vl (.bool v1.2.2.2.2.2.2.2.2.1))), (33, (Vl (Vs g26))), (34, (Vl (.int .i64 (([(a0_0, a0_1), (a1_0, a1_1), (a2_0, a2_1), (a3_0, a3_1)]).length : Int)))), (35, (Vl (.int .i64 v1.2.2.2.2.2.2.2.2.2)))], [⟨.pointer (some q4), [(Vl (.float .f64 v1.1)), (Vl (.float .f64 v1.2.1))], 27, none⟩, ⟨.pointer (some q5), [(Vl (.float .f64 v1.2.2.1)), (Vl (.float .f64 v1.2.2.2.1))], 27, none⟩, ⟨.pointer (some q6), [(Vl (.float .f64 v1.2.2.2.2.1)), (Vl (.float .f64 v1.2.2.2.2.2.1))], 27, none⟩, ⟨.pointer (some q7), [(Vl (.float .f64 v1.2.2.2.2.2.2.1)), (Vl (.float .f64 v1.2.2.2.2.2.2.2.1))], 27, none⟩, ⟨.pointer (some q11), [(Vl (.float .f64 r32.1)), (Vl (.float .f64 r32.2))], 27, none⟩, (Rw KT27 27 (Vs g26) ([(a0_0, a0_1), (a1_0, a1_1), (a2_0, a2_1), (a3_0, a3_1)]))]⟩ : St)) (fun (y : Unit ⊕ Bool) => match y with | (.inl v3) => Zg E Exit.ret (fun (w3 : Unit) => (⟨54, [], [(8, (Vl (.bool false)))], []⟩ : St)) | (.inr v4) => Zg E (Exit.exit 0) (fun (w4 : Unit) => (⟨54, [], [(12, (Vl (.bool v4)))], []⟩ : St))) (fun _ => rfl) (fun _ _ => rfl) ?_ hy1 (tx_to' rfl [6, 5, 4, 3, 0, 1] (sub_cons rfl (sub_cons rfl (sub_cons rfl (sub_cons rfl (sub_cons rfl (sub_cons rfl sub_nil)))))) (by decide) (pick_cons rfl (pick_cons rfl (pick_cons rfl (pick_cons rfl (pick_cons rfl (pick_cons rfl pick_nil))))))) ?_
    · clear hp hy1
      clear y1
      intro k rec1 KY1 ih1
      rintro ⟨x1, x2, x3, x4, x5, x6, x7, x8, x9, x10⟩ ⟨⟩ y1 hp
      replace hp : laws_FnCentralEnd_l1s a0_0 a0_1 a1_0 a1_1 a2_0 a2_1 a3_0 a3_1 r32 k rec1 x1 x2 x3 x4 x5 x6 x7 x8 x9 x10 = some y1 := hp
      unfold laws_FnCentralEnd_l1s at hp
      refine cx_seq' fun K18 hK18 => ?_
      refine cx_region' ?_
      refine sx_rd' (rd_bin' rfl rfl eg_int ru_lss) rfl rfl (wt_none' rfl) ?_
      refine sx_nil' ?_
      show TX E K18 _
      refine tx_k' hK18 ?_
      refine cx_seq' fun K19 hK19 => ?_
      refine cx_cond' rfl (fun h5 => ?_) (fun h5 => ?_)
      · replace hp := (br_t h5).symm.trans hp
        refine cx_skip' ?_
        show TX E K19 _
        refine tx_k' hK19 ?_
        refine cx_seq' fun K20 hK20 => ?_
        refine cx_block' ?_
        refine cx_seq' fun K21 hK21 => ?_
        refine cx_region' ?_
        obtain ⟨r37, hr37, hp⟩ := bind_some hp
        refine sx_rd' (rd_atr' (m := 5) rfl rfl rfl rfl hr37 Try.underlying22 info27) rfl rfl (wt_none' rfl) ?_
        refine sx_rd' (rd_loadr_agg' (nn := 2) rfl (m := 5) (i := x10) (j := 0) rfl rfl hr37 rfl rfl agg27 rfl) rfl rfl (wt_none' rfl) ?_
        refine sx_ox' (ox_alloc' info27 rfl rfl rfl rfl (l := [(Vl (.float .f64 0)), (Vl (.float .f64 0))]) rfl) (wt_none' rfl) fun q14 => ?_
        refine sx_ox' (ox_store' (i := 0) (o := 0) rfl rfl (lv_ag _) ⟨rfl, rfl, rfl, rfl⟩ rfl info27 rfl (H' := [⟨.pointer (some q14), [(Vl (.float .f64 r37.1)), (Vl (.float .f64 r37.2))], 27, none⟩, ⟨.pointer (some q4), [(Vl (.float .f64 x1)), (Vl (.float .f64 x2))], 27, none⟩, ⟨.pointer (some q5), [(Vl (.float .f64 x3)), (Vl (.float .f64 x4))], 27, none⟩, ⟨.pointer (some q6), [(Vl (.float .f64 x5)), (Vl (.float .f64 x6))], 27, none⟩, ⟨.pointer (some q7), [(Vl (.float .f64 x7)), (Vl (.float .f64 x8))], 27, none⟩, ⟨.pointer (some q11), [(Vl (.float .f64 r32.1)), (Vl (.float .f64 r32.2))], 27, none⟩, (Rw KT27 27 (Vs g26) ([(a0_0, a0_1), (a1_0, a1_1), (a2_0, a2_1), (a3_0, a3_1)]))]) rfl) (wt_none' rfl) fun _ => ?_
        refine sx_nil' ?_
        show TX E K21 _
        refine tx_k' hK21 ?_
        refine cx_seq' fun K22 hK22 => ?_
        refine cx_region' ?_
        refine sx_rd' (rd_move' rfl) rfl rfl (wt_none' rfl) ?_
        refine sx_rd' (rd_move' rfl) rfl rfl (wt_none' rfl) ?_
        refine sx_cutn' 4 (fun (v2 : Bool) => (⟨54, [], [(10, (Vl (.func (.func 35) #[] ⟨[.pointer (some q4), .pointer (some q5), .pointer (some q6), .pointer (some q7)]⟩))), (11, (Vl (.pointer (some q11)))), (14, (Vl (.pointer (some q14)))), (33, (Vl (Vs g26))), (34, (Vl (.int .i64 (([(a0_0, a0_1), (a1_0, a1_1), (a2_0, a2_1), (a3_0, a3_1)]).length : Int)))), (35, (Vl (.int .i64 x10))), (44, (Vl (.bool v2)))], [⟨.pointer (some q4), [(Vl (.float .f64 x1)), (Vl (.float .f64 x2))], 27, none⟩, ⟨.pointer (some q5), [(Vl (.float .f64 x3)), (Vl (.float .f64 x4))], 27, none⟩, ⟨.pointer (some q6), [(Vl (.float .f64 x5)), (Vl (.float .f64 x6))], 27, none⟩, ⟨.pointer (some q7), [(Vl (.float .f64 x7)), (Vl (.float .f64 x8))], 27, none⟩, ⟨.pointer (some q11), [(Vl (.float .f64 r32.1)), (Vl (.float .f64 r32.2))], 27, none⟩, ⟨.pointer (some q14), [(Vl (.float .f64 r37.1)), (Vl (.float .f64 r37.2))], 27, none⟩, (Rw KT27 27 (Vs g26) ([(a0_0, a0_1), (a1_0, a1_1), (a2_0, a2_1), (a3_0, a3_1)]))]⟩ : St)) (fun (v2 : Bool) => laws_FnCentralEnd_j1 k r37 x1 x2 x3 x4 x5 x6 x7 x8 r32 rec1 x10 v2 = some y1) ?_ ?_
        · rintro x11 hp
          replace hp : laws_FnCentralEnd_j1 k r37 x1 x2 x3 x4 x5 x6 x7 x8 r32 rec1 x10 x11 = some y1 := hp
          unfold laws_FnCentralEnd_j1 at hp
          refine sx_rd' (rd_assign' rfl) rfl rfl (wt_none' rfl) ?_
          refine sx_nil' ?_
          show TX E K22 _
          refine tx_k' hK22 ?_
          refine cx_seq' fun K23 hK23 => ?_
          refine cx_plan' [q11.block] [(2, 1), (5, 1)] [(0, 1), (1, 1), (3, 2), (4, 2), (2, 0), (5, 0), (6, 1)] mixed (by kernel_rfl) ?_
          refine px_rd' rfl (rd_move' rfl) rfl rfl (wt_none' rfl) ?_
          refine px_rd' rfl (rd_load_agg' (i := 5) (o := 0) (nn := 2) rfl ⟨rfl, rfl, rfl, rfl⟩ rfl agg27 (l' := [(Vl (.float .f64 r37.1)), (Vl (.float .f64 r37.2))]) rfl) rfl rfl (wt_none' rfl) ?_
          refine px_rb' rfl (rb_move' rfl) rfl rfl (wt_none' rfl) ?_
          refine px_rb' rfl (rb_load_agg' (i := 4) (o := 0) (nn := 2) rfl ⟨rfl, rfl, rfl, rfl⟩ rfl agg27 (l' := [(Vl (.float .f64 r32.1)), (Vl (.float .f64 r32.2))]) rfl (by simp)) rfl rfl (wt_none' rfl) ?_
          obtain ⟨r47, hr47, hp⟩ := bind_some hp
          refine px_oxb' (is := [0, 1, 2, 3]) rfl (oxb_callg (ent_clo' (us := [.pointer (some q4), .pointer (some q5), .pointer (some q6), .pointer (some q7)]) rfl Try.func35 isn35 rfl rfl) (laws_FnCentralEnd_1_sim _ _ _ _ _ _ _ _ _ _ hr47 : Go.Sx.Fn Try.prog 35 [(Ag [(Vl (.float .f64 r37.1)), (Vl (.float .f64 r37.2))]), (Vl (.pointer (some q4))), (Vl (.pointer (some q5))), (Vl (.pointer (some q6))), (Vl (.pointer (some q7)))] [⟨.pointer (some q4), [(Vl (.float .f64 x1)), (Vl (.float .f64 x2))], 27, none⟩, ⟨.pointer (some q5), [(Vl (.float .f64 x3)), (Vl (.float .f64 x4))], 27, none⟩, ⟨.pointer (some q6), [(Vl (.float .f64 x5)), (Vl (.float .f64 x6))], 27, none⟩, ⟨.pointer (some q7), [(Vl (.float .f64 x7)), (Vl (.float .f64 x8))], 27, none⟩] (fun x : Unit => (Fl r47.2.2.2.2.2.2.2.2)) (fun x => [⟨.pointer (some q4), [(Vl (.float .f64 r47.1)), (Vl (.float .f64 r47.2.1))], 27, none⟩, ⟨.pointer (some q5), [(Vl (.float .f64 r47.2.2.1)), (Vl (.float .f64 r47.2.2.2.1))], 27, none⟩, ⟨.pointer (some q6), [(Vl (.float .f64 r47.2.2.2.2.1)), (Vl (.float .f64 r47.2.2.2.2.2.1))], 27, none⟩, ⟨.pointer (some q7), [(Vl (.float .f64 r47.2.2.2.2.2.2.1)), (Vl (.float .f64 r47.2.2.2.2.2.2.2.1))], 27, none⟩])) [0, 1, 2, 3] [4, 5, 6] (by decide) (pick_cons rfl (pick_cons rfl (pick_cons rfl (pick_cons rfl pick_nil)))) (pick_cons rfl (pick_cons rfl (pick_cons rfl pick_nil))) (Hn := fun x : Unit => [⟨.pointer (some q4), [(Vl (.float .f64 r47.1)), (Vl (.float .f64 r47.2.1))], 27, none⟩, ⟨.pointer (some q5), [(Vl (.float .f64 r47.2.2.1)), (Vl (.float .f64 r47.2.2.2.1))], 27, none⟩, ⟨.pointer (some q6), [(Vl (.float .f64 r47.2.2.2.2.1)), (Vl (.float .f64 r47.2.2.2.2.2.1))], 27, none⟩, ⟨.pointer (some q7), [(Vl (.float .f64 r47.2.2.2.2.2.2.1)), (Vl (.float .f64 r47.2.2.2.2.2.2.2.1))], 27, none⟩, ⟨.pointer (some q11), [(Vl (.float .f64 r32.1)), (Vl (.float .f64 r32.2))], 27, none⟩, ⟨.pointer (some q14), [(Vl (.float .f64 r37.1)), (Vl (.float .f64 r37.2))], 27, none⟩, (Rw KT27 27 (Vs g26) ([(a0_0, a0_1), (a1_0, a1_1), (a2_0, a2_1), (a3_0, a3_1)]))]) (fun _ => rfl) rfl rfl) (pick_cons rfl (pick_cons rfl (pick_cons rfl (pick_cons rfl pick_nil)))) rfl (bl_cons (m := 4) (by decide) rfl rfl bl_nil) (wt_none' rfl) fun ⟨⟩ => ?_
          obtain ⟨r50, hr50, hp⟩ := bind_some hp
          refine px_oxb' (is := [0, 1, 2, 3]) rfl (oxb_callg (ent_clo' (us := [.pointer (some q4), .pointer (some q5), .pointer (some q6), .pointer (some q7)]) rfl Try.func35 isn35 rfl rfl) (laws_FnCentralEnd_1_sim _ _ _ _ _ _ _ _ _ _ hr50 : Go.Sx.Fn Try.prog 35 [(Ag [(Vl (.float .f64 r32.1)), (Vl (.float .f64 r32.2))]), (Vl (.pointer (some q4))), (Vl (.pointer (some q5))), (Vl (.pointer (some q6))), (Vl (.pointer (some q7)))] [⟨.pointer (some q4), [(Vl (.float .f64 r47.1)), (Vl (.float .f64 r47.2.1))], 27, none⟩, ⟨.pointer (some q5), [(Vl (.float .f64 r47.2.2.1)), (Vl (.float .f64 r47.2.2.2.1))], 27, none⟩, ⟨.pointer (some q6), [(Vl (.float .f64 r47.2.2.2.2.1)), (Vl (.float .f64 r47.2.2.2.2.2.1))], 27, none⟩, ⟨.pointer (some q7), [(Vl (.float .f64 r47.2.2.2.2.2.2.1)), (Vl (.float .f64 r47.2.2.2.2.2.2.2.1))], 27, none⟩] (fun x : Unit => (Fl r50.2.2.2.2.2.2.2.2)) (fun x => [⟨.pointer (some q4), [(Vl (.float .f64 r50.1)), (Vl (.float .f64 r50.2.1))], 27, none⟩, ⟨.pointer (some q5), [(Vl (.float .f64 r50.2.2.1)), (Vl (.float .f64 r50.2.2.2.1))], 27, none⟩, ⟨.pointer (some q6), [(Vl (.float .f64 r50.2.2.2.2.1)), (Vl (.float .f64 r50.2.2.2.2.2.1))], 27, none⟩, ⟨.pointer (some q7), [(Vl (.float .f64 r50.2.2.2.2.2.2.1)), (Vl (.float .f64 r50.2.2.2.2.2.2.2.1))], 27, none⟩])) [0, 1, 2, 3] [4, 5, 6] (by decide) (pick_cons rfl (pick_cons rfl (pick_cons rfl (pick_cons rfl pick_nil)))) (pick_cons rfl (pick_cons rfl (pick_cons rfl pick_nil))) (Hn := fun x : Unit => [⟨.pointer (some q4), [(Vl (.float .f64 r50.1)), (Vl (.float .f64 r50.2.1))], 27, none⟩, ⟨.pointer (some q5), [(Vl (.float .f64 r50.2.2.1)), (Vl (.float .f64 r50.2.2.2.1))], 27, none⟩, ⟨.pointer (some q6), [(Vl (.float .f64 r50.2.2.2.2.1)), (Vl (.float .f64 r50.2.2.2.2.2.1))], 27, none⟩, ⟨.pointer (some q7), [(Vl (.float .f64 r50.2.2.2.2.2.2.1)), (Vl (.float .f64 r50.2.2.2.2.2.2.2.1))], 27, none⟩, ⟨.pointer (some q11), [(Vl (.float .f64 r32.1)), (Vl (.float .f64 r32.2))], 27, none⟩, ⟨.pointer (some q14), [(Vl (.float .f64 r37.1)), (Vl (.float .f64 r37.2))], 27, none⟩, (Rw KT27 27 (Vs g26) ([(a0_0, a0_1), (a1_0, a1_1), (a2_0, a2_1), (a3_0, a3_1)]))]) (fun _ => rfl) rfl rfl) (pick_cons rfl (pick_cons rfl (pick_cons rfl (pick_cons rfl pick_nil)))) rfl (bl_cons (m := 4) (by decide) rfl rfl bl_nil) (wt_none' rfl) fun ⟨⟩ => ?_
          refine px_rd' rfl (rd_fcmp' (fl_f rfl) (fl_f rfl) rfl) rfl rfl (wt_none' rfl) ?_
          refine px_nil' ?_
          show TX E K23 _
          refine tx_k' hK23 ?_
          refine cx_cond' rfl (fun h6 => ?_) (fun h6 => ?_)
          · replace hp := (br_t h6).symm.trans hp
            refine cx_seq' fun K24 hK24 => ?_
            refine cx_region' ?_
            refine sx_rd' (rd_assign' rfl) rfl rfl (wt_none' rfl) ?_
            refine sx_nil' ?_
            show TX E K24 _
            refine tx_k' hK24 ?_
            refine cx_retc' ?_
            replace hp := Option.some.inj hp
            subst hp
            show TX E (Zg E Exit.ret _ Exit.ret) _
            exact tx_zend' () rfl [] (sub_cons rfl sub_nil) (by decide) pick_nil
          · replace hp := (br_f h6).symm.trans hp
            refine cx_skip' ?_
            show TX E K20 _
            refine tx_k' hK20 ?_
            refine cx_region' ?_
            refine sx_rd' (rd_bin' rfl rfl eg_int ru_add) rfl rfl (wt_none' rfl) ?_
            refine sx_rd' (rd_move' rfl) rfl rfl (wt_none' rfl) ?_
            refine sx_nil' ?_
            show TX E (KY1 _) _
            exact tx_pick' [0, 1, 2, 3, 4, 6] (sub_cons rfl (sub_cons rfl (sub_cons rfl (sub_cons rfl (sub_cons rfl (sub_cons rfl sub_nil)))))) (by decide) (pick_cons rfl (pick_cons rfl (pick_cons rfl (pick_cons rfl (pick_cons rfl (pick_cons rfl pick_nil)))))) (ih1 (r50.1, r50.2.1, r50.2.2.1, r50.2.2.2.1, r50.2.2.2.2.1, r50.2.2.2.2.2.1, r50.2.2.2.2.2.2.1, r50.2.2.2.2.2.2.2.1, x11, (iadd .i64 x10 1)) () _ hp)
        · intro K25 hK25
          rcases br_cases hp with ⟨h7, hp⟩ | ⟨h7, hp⟩
          · refine sx_skip' rfl rfl (wt_is' (wt_guard' rfl rfl rfl) (beq_tf h7)) ?_
            refine sx_skip' rfl rfl (wt_is' (wt_guard' rfl rfl rfl) (beq_tf h7)) ?_
            refine sx_skip' rfl rfl (wt_is' (wt_guard' rfl rfl rfl) (beq_tf h7)) ?_
            refine sx_rd' (rd_pick_true' rfl h7 rfl) rfl rfl (wt_none' rfl) ?_
            refine sx_nil' ?_
            show TX E K25 _
            exact tx_pick' [1, 2, 3, 4, 5, 0, 6] (sub_cons rfl (sub_cons rfl (sub_cons rfl (sub_cons rfl (sub_cons rfl (sub_cons rfl (sub_cons rfl sub_nil))))))) (by decide) (pick_cons rfl (pick_cons rfl (pick_cons rfl (pick_cons rfl (pick_cons rfl (pick_cons rfl (pick_cons rfl pick_nil))))))) (hK25 true hp)
          · refine sx_rd' (rd_load_agg' (i := 0) (o := 0) (nn := 2) rfl ⟨rfl, rfl, rfl, rfl⟩ rfl agg27 (l' := [(Vl (.float .f64 r37.1)), (Vl (.float .f64 r37.2))]) rfl) rfl rfl (wt_is' (wt_guard' rfl rfl rfl) (beq_ff h7)) ?_
            refine sx_rd' (rd_load_agg' (i := 5) (o := 0) (nn := 2) rfl ⟨rfl, rfl, rfl, rfl⟩ rfl agg27 (l' := [(Vl (.float .f64 r32.1)), (Vl (.float .f64 r32.2))]) rfl) rfl rfl (wt_is' (wt_guard' rfl rfl rfl) (beq_ff h7)) ?_
            refine sx_rd' (rd_eq_ag' (us := [.float .f64 r37.1, .float .f64 r37.2]) (vs := [.float .f64 r32.1, .float .f64 r32.2]) rfl rfl eqg27 (eqt_struct Try.underlying27 held27 (eqf_cons (by rfl) (part_flat flat25 rfl) (part_flat flat25 rfl) (eqt_flt Try.underlying25) (eqf_cons (by rfl) (part_flat flat25 rfl) (part_flat flat25 rfl) (eqt_flt Try.underlying25) eqf_nil)))) rfl rfl (wt_is' (wt_guard' rfl rfl rfl) (beq_ff h7)) ?_
            refine sx_rd' (rd_pick_false' rfl h7 rfl) rfl rfl (wt_none' rfl) ?_
            refine sx_nil' ?_
            show TX E K25 _
            exact tx_pick' [1, 2, 3, 4, 5, 0, 6] (sub_cons rfl (sub_cons rfl (sub_cons rfl (sub_cons rfl (sub_cons rfl (sub_cons rfl (sub_cons rfl sub_nil))))))) (by decide) (pick_cons rfl (pick_cons rfl (pick_cons rfl (pick_cons rfl (pick_cons rfl (pick_cons rfl (pick_cons rfl pick_nil))))))) (hK25 ((feq r37.1 r32.1) && ((feq r37.2 r32.2) && true)) hp)
      · replace hp := (br_f h5).symm.trans hp
        refine cx_exit' ?_
        replace hp := Option.some.inj hp
        subst hp
        show TX E (Zg E (Exit.exit 0) _ (Exit.exit 0)) _
        exact tx_zend' () rfl [] (sub_cons rfl sub_nil) (by decide) pick_nil
    · rcases y1 with v3 | v4
      · dsimp only at hp
        refine zg_out fun w3 => ?_
        replace hp := Option.some.inj hp
        subst hp
        refine tx_pick' (L' := [(8, (Vl (.bool false)))]) (H' := []) [] (sub_cons rfl sub_nil) (by decide) pick_nil ?_
        exact tx_ret1' Try.results7 rfl () (rv_tmp' rfl) (List.Sublist.refl _)
      · dsimp only at hp
        refine zg_out fun w4 => ?_
        show TX E K9 _
        refine tx_k' hK9 ?_
        refine cx_seq' fun K26 hK26 => ?_
        refine cx_region' ?_
        refine sx_rd' (rd_move' rfl) rfl rfl (wt_none' rfl) ?_
        refine sx_rd' (rd_assign' rfl) rfl rfl (wt_none' rfl) ?_
        refine sx_nil' ?_
        show TX E K26 _
        refine tx_k' hK26 ?_
        refine cx_retc' ?_
        replace hp := Option.some.inj hp
        subst hp
        refine tx_pick' (L' := [(8, (Vl (.bool v4)))]) (H' := []) [] (sub_cons rfl sub_nil) (by decide) pick_nil ?_
        exact tx_ret1' Try.results7 rfl () (rv_tmp' rfl) (List.Sublist.refl _)

end Go.Proofs.Ytnemkhcjmenfnaa
