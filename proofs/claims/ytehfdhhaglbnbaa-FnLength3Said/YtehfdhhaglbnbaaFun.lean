/-
  Plain functions for the Go functions that this law reaches, and that each call does what its plain function says. Printed by a program of ours.
-/
import Derived.Test.YtehfdhhaglbnbaaProg
import Derived.Test.YtehfdhhaglbnbaaSxZ
namespace Go.Proofs.Ytehfdhhaglbnbaa
open Go.Sx
set_option linter.unusedVariables false
set_option maxRecDepth 100000

theorem info53 : (Try.prog.info? 53).map (fun i => (i.zero, i.size, i.bytes)) = some (some (.agg #[.float .f64 0, .float .f64 0, .float .f64 0]), 3, 24) := by kernel_rfl
theorem agg53 : Agg Try.prog 53 3 := ⟨⟨_, Try.underlying53, .inl ⟨_, rfl⟩⟩, info_size info53⟩
theorem isn24 : (Try.f24.name == "runtime.NumGoroutine") = false := by kernel_rfl
theorem isn26 : (Try.f26.name == "runtime.NumGoroutine") = false := by kernel_rfl
theorem info22 : (Try.prog.info? 22).map (fun i => (i.zero, i.size, i.bytes)) = some (some (.float .f64 0), 1, 8) := by kernel_rfl
theorem flat22 : Flat Try.prog 22 := ⟨_, Try.underlying22, fun _ h => (nomatch h), fun _ _ h => (nomatch h)⟩
theorem isn27 : (Try.f27.name == "runtime.NumGoroutine") = false := by kernel_rfl
theorem info29 : (Try.prog.info? 29).map (fun i => (i.zero, i.size, i.bytes)) = some (some (.slice none 0 0), 1, 24) := by kernel_rfl
theorem flat29 : Flat Try.prog 29 := ⟨_, Try.underlying29, fun _ h => (nomatch h), fun _ _ h => (nomatch h)⟩
theorem isn50 : (Try.f50.name == "runtime.NumGoroutine") = false := by kernel_rfl
theorem extf64 : ∀ {x r : Nat}, gint .zero x = r → ∀ y, (y = x ∨ (isn x = true ∧ isn y = true)) → RunsF Try.prog (callFunc 64 #[.float .f64 y]) (Fl r) := fun hz y hy => hz ▸ runs_ext (e := Extern.MathFloor.toIntegral "math.archTrunc" .zero) Try.func64 (by kernel_rfl) (by kernel_rfl) (by kernel_rfl) (by kernel_rfl) (gint_runs hy)
theorem isn25 : (Try.f25.name == "runtime.NumGoroutine") = false := by kernel_rfl
theorem isn49 : (Try.f49.name == "runtime.NumGoroutine") = false := by kernel_rfl
theorem places83 : placesOf Try.prog [{ name := "X", type := 22, offset := 0, embedded := false, tag := "", pkgPath := "", byteOffset := 0 }, { name := "Y", type := 22, offset := 1, embedded := false, tag := "", pkgPath := "", byteOffset := 8 }, { name := "Z", type := 22, offset := 2, embedded := false, tag := "", pkgPath := "", byteOffset := 16 }] = [(0, 1), (1, 1), (2, 1)] := by kernel_rfl
theorem has83 : ∀ f ∈ ([{ name := "X", type := 22, offset := 0, embedded := false, tag := "", pkgPath := "", byteOffset := 0 }, { name := "Y", type := 22, offset := 1, embedded := false, tag := "", pkgPath := "", byteOffset := 8 }, { name := "Z", type := 22, offset := 2, embedded := false, tag := "", pkgPath := "", byteOffset := 16 }] : List Field), (Try.prog.info? f.type).isSome = true := fun f hf => all_of (p := fun f => (Try.prog.info? f.type).isSome) (by kernel_rfl) f hf
theorem info83 : (Try.prog.info? 83).map (fun i => (i.zero, i.size, i.bytes)) = some (some (.agg #[.float .f64 0, .float .f64 0, .float .f64 0]), 3, 24) := by kernel_rfl
theorem agg83 : Agg Try.prog 83 3 := ⟨⟨_, Try.underlying83, .inl ⟨_, rfl⟩⟩, info_size info83⟩
theorem isn48 : (Try.f48.name == "runtime.NumGoroutine") = false := by kernel_rfl
theorem isn58 : (Try.f58.name == "runtime.NumGoroutine") = false := by kernel_rfl
theorem ext71 : ∀ {args : Array Value} {v : Value}, Runs Try.prog ((Extern.MathHypot.archHypot) args) v → Runs Try.prog (callFunc 71 args) (.value v) := fun hr => ru_ext Try.func71 (by kernel_rfl) (by kernel_rfl) (by kernel_rfl) (by kernel_rfl) hr
theorem mixed : Try.prog.follows .mixedOrders = true := by kernel_rfl
theorem isn17 : (Try.f17.name == "runtime.NumGoroutine") = false := by kernel_rfl
theorem isn12 : (Try.f12.name == "runtime.NumGoroutine") = false := by kernel_rfl
theorem isn18 : (Try.f18.name == "runtime.NumGoroutine") = false := by kernel_rfl
theorem ext41 : ∀ {args : Array Value} {v : Value}, Runs Try.prog ((Extern.MathFloatBits.float64bits) args) v → Runs Try.prog (callFunc 41 args) (.value v) := fun hr => ru_ext Try.func41 (by kernel_rfl) (by kernel_rfl) (by kernel_rfl) (by kernel_rfl) hr
theorem places45 : placesOf Try.prog [{ name := "N", type := 43, offset := 0, embedded := false, tag := "", pkgPath := "", byteOffset := 0 }, { name := "E", type := 3, offset := 2, embedded := false, tag := "", pkgPath := "", byteOffset := 32 }] = [(0, 2), (2, 1)] := by kernel_rfl
theorem has45 : ∀ f ∈ ([{ name := "N", type := 43, offset := 0, embedded := false, tag := "", pkgPath := "", byteOffset := 0 }, { name := "E", type := 3, offset := 2, embedded := false, tag := "", pkgPath := "", byteOffset := 32 }] : List Field), (Try.prog.info? f.type).isSome = true := fun f hf => all_of (p := fun f => (Try.prog.info? f.type).isSome) (by kernel_rfl) f hf
theorem info45 : (Try.prog.info? 45).map (fun i => (i.zero, i.size, i.bytes)) = some (some (.agg #[.bool false, .slice none 0 0, .int .i64 0]), 3, 40) := by kernel_rfl
theorem isn43 : (Try.f43.name == "runtime.NumGoroutine") = false := by kernel_rfl
theorem isn59 : (Try.f59.name == "runtime.NumGoroutine") = false := by kernel_rfl
theorem info99 : (Try.prog.info? 99).map (fun i => (i.zero, i.size, i.bytes)) = some (some (.int .u32 0), 1, 4) := by kernel_rfl
theorem flat99 : Flat Try.prog 99 := ⟨_, Try.underlying99, fun _ h => (nomatch h), fun _ _ h => (nomatch h)⟩
theorem places43 : placesOf Try.prog [{ name := "Neg", type := 4, offset := 0, embedded := false, tag := "", pkgPath := "", byteOffset := 0 }, { name := "L", type := 41, offset := 1, embedded := false, tag := "", pkgPath := "", byteOffset := 8 }] = [(0, 1), (1, 1)] := by kernel_rfl
theorem has43 : ∀ f ∈ ([{ name := "Neg", type := 4, offset := 0, embedded := false, tag := "", pkgPath := "", byteOffset := 0 }, { name := "L", type := 41, offset := 1, embedded := false, tag := "", pkgPath := "", byteOffset := 8 }] : List Field), (Try.prog.info? f.type).isSome = true := fun f hf => all_of (p := fun f => (Try.prog.info? f.type).isSome) (by kernel_rfl) f hf
theorem info43 : (Try.prog.info? 43).map (fun i => (i.zero, i.size, i.bytes)) = some (some (.agg #[.bool false, .slice none 0 0]), 2, 32) := by kernel_rfl
theorem agg43 : Agg Try.prog 43 2 := ⟨⟨_, Try.underlying43, .inl ⟨_, rfl⟩⟩, info_size info43⟩
theorem agg45 : Agg Try.prog 45 3 := ⟨⟨_, Try.underlying45, .inl ⟨_, rfl⟩⟩, info_size info45⟩
theorem isn19 : (Try.f19.name == "runtime.NumGoroutine") = false := by kernel_rfl
theorem info3 : (Try.prog.info? 3).map (fun i => (i.zero, i.size, i.bytes)) = some (some (.int .i64 0), 1, 8) := by kernel_rfl
theorem flat3 : Flat Try.prog 3 := ⟨_, Try.underlying3, fun _ h => (nomatch h), fun _ _ h => (nomatch h)⟩
theorem isn44 : (Try.f44.name == "runtime.NumGoroutine") = false := by kernel_rfl
theorem info41 : (Try.prog.info? 41).map (fun i => (i.zero, i.size, i.bytes)) = some (some (.slice none 0 0), 1, 24) := by kernel_rfl
theorem flat41 : Flat Try.prog 41 := ⟨_, Try.underlying41, fun _ h => (nomatch h), fun _ _ h => (nomatch h)⟩
theorem info4 : (Try.prog.info? 4).map (fun i => (i.zero, i.size, i.bytes)) = some (some (.bool false), 1, 1) := by kernel_rfl
theorem flat4 : Flat Try.prog 4 := ⟨_, Try.underlying4, fun _ h => (nomatch h), fun _ _ h => (nomatch h)⟩
theorem isn20 : (Try.f20.name == "runtime.NumGoroutine") = false := by kernel_rfl
theorem isn46 : (Try.f46.name == "runtime.NumGoroutine") = false := by kernel_rfl
theorem isn62 : (Try.f62.name == "runtime.NumGoroutine") = false := by kernel_rfl
theorem isn45 : (Try.f45.name == "runtime.NumGoroutine") = false := by kernel_rfl
theorem isn47 : (Try.f47.name == "runtime.NumGoroutine") = false := by kernel_rfl
theorem isn63 : (Try.f63.name == "runtime.NumGoroutine") = false := by kernel_rfl
theorem isn60 : (Try.f60.name == "runtime.NumGoroutine") = false := by kernel_rfl
theorem isn61 : (Try.f61.name == "runtime.NumGoroutine") = false := by kernel_rfl
theorem isn73 : (Try.f73.name == "runtime.NumGoroutine") = false := by kernel_rfl
theorem isn74 : (Try.f74.name == "runtime.NumGoroutine") = false := by kernel_rfl
theorem isn75 : (Try.f75.name == "runtime.NumGoroutine") = false := by kernel_rfl
theorem isn21 : (Try.f21.name == "runtime.NumGoroutine") = false := by kernel_rfl
theorem isn23 : (Try.f23.name == "runtime.NumGoroutine") = false := by kernel_rfl
theorem isn22 : (Try.f22.name == "runtime.NumGoroutine") = false := by kernel_rfl
def KT53 : Kd (Nat × Nat × Nat) := ⟨3, fun x => [(Vl (.float .f64 x.1)), (Vl (.float .f64 x.2.1)), (Vl (.float .f64 x.2.2))], fun _ => rfl⟩

def laws_off3 (k : Nat) (a0_0 : Nat) (a0_1 : Nat) (a0_2 : Nat) : Option ((List Nat)) :=
  some ([a0_0, a0_1, a0_2])

theorem laws_off3_sim {k : Nat}  (a0_0 : Nat) (a0_1 : Nat) (a0_2 : Nat) {out : (List Nat)} (hp : laws_off3 k a0_0 a0_1 a0_2 = some out) : Go.Sx.Fn Try.prog 26 [(Ag [(Vl (.float .f64 a0_0)), (Vl (.float .f64 a0_1)), (Vl (.float .f64 a0_2))])] [] (fun w : Unit => (Sl Kf out)) (fun w => []) := by
  unfold laws_off3 at hp
  refine fn_of Try.func26 rfl Try.ntmps26 rfl fun E hM => ?_
  refine cx_seq' fun K1 hK1 => ?_
  refine cx_region' ?_
  refine sx_ox' (ox_box' rfl (lv_ag _) rfl rfl) (wt_none' rfl) fun q1 => ?_
  refine sx_rd' (rd_assign' rfl) rfl rfl (wt_none' rfl) ?_
  refine sx_nil' ?_
  show TX E K1 _
  refine tx_k' hK1 ?_
  refine cx_seq' fun K2 hK2 => ?_
  refine cx_region' ?_
  refine sx_rd' (rd_field0' rfl Try.underlying53 rfl info22 rfl) rfl rfl (wt_none' rfl) ?_
  refine sx_rd' (rd_load' (i := 0) (o := 0) rfl ⟨rfl, rfl, rfl, rfl⟩ rfl flat22) rfl rfl (wt_none' rfl) ?_
  refine sx_rd' (rd_field' (off := 1) rfl Try.underlying53 rfl info22 rfl) rfl rfl (wt_none' rfl) ?_
  refine sx_rd' (rd_load' (i := 0) (o := 1) rfl ⟨rfl, rfl, rfl, rfl⟩ rfl flat22) rfl rfl (wt_none' rfl) ?_
  refine sx_rd' (rd_field' (off := 2) rfl Try.underlying53 rfl info22 rfl) rfl rfl (wt_none' rfl) ?_
  refine sx_rd' (rd_load' (i := 0) (o := 2) rfl ⟨rfl, rfl, rfl, rfl⟩ rfl flat22) rfl rfl (wt_none' rfl) ?_
  refine sx_ox' (ox_rowlit' (K := Kf) (xs := [a0_0, a0_1, a0_2]) (qs := [(0, [(Vl (.float .f64 a0_0))]), (1, [(Vl (.float .f64 a0_1))]), (2, [(Vl (.float .f64 a0_2))])]) ⟨rfl, ⟨_, rfl, (lv_vl rfl rfl)⟩, ⟨rfl, ⟨_, rfl, (lv_vl rfl rfl)⟩, ⟨rfl, ⟨_, rfl, (lv_vl rfl rfl)⟩, trivial⟩⟩⟩ Try.underlying29 info22 rfl rfl rfl rfl rfl (by kernel_rfl) rfl rfl rfl) (wt_none' rfl) fun g9 => ?_
  refine sx_rd' (rd_assign' rfl) rfl rfl (wt_none' rfl) ?_
  refine sx_nil' ?_
  show TX E K2 _
  refine tx_k' hK2 ?_
  refine cx_retc' ?_
  replace hp := Option.some.inj hp
  subst hp
  refine tx_fz' (frz_row 0 [(2, (Vl (Vs g9)), (Sl Kf ([a0_0, a0_1, a0_2]))), (9, (Vl (Vs g9)), (Sl Kf ([a0_0, a0_1, a0_2])))] (K := Kf) (xs := [a0_0, a0_1, a0_2]) (by decide) rfl ⟨⟨rfl, frz_it⟩, ⟨rfl, frz_it⟩, trivial⟩ (H' := [⟨.pointer (some q1), [(Vl (.float .f64 a0_0)), (Vl (.float .f64 a0_1)), (Vl (.float .f64 a0_2))], 53, none⟩]) frzH_refl) ?_
  refine tx_pick' (L' := [(2, (Sl Kf ([a0_0, a0_1, a0_2])))]) (H' := []) [] (sub_cons rfl sub_nil) (by decide) pick_nil ?_
  exact tx_ret1' Try.results26 rfl () (rv_tmp' rfl) (List.Sublist.refl _)

def math_Trunc (k : Nat) (a0 : Nat) : Option (Nat) :=
  (some (gint .zero a0)) >>= fun r4 =>
  some r4

theorem math_Trunc_sim {k : Nat}  (a0 : Nat) {out : Nat} (hp : math_Trunc k a0 = some out) : Go.Sx.Fn Try.prog 50 [(Vl (.float .f64 a0))] [] (fun w : Unit => (Fl out)) (fun w => []) := by
  unfold math_Trunc at hp
  refine fn_of Try.func50 rfl Try.ntmps50 rfl fun E hM => ?_
  refine cx_seq' fun K1 hK1 => ?_
  refine cx_region' ?_
  refine sx_rd' (rd_assign' rfl) rfl rfl (wt_none' rfl) ?_
  refine sx_nil' ?_
  show TX E K1 _
  refine tx_k' hK1 ?_
  refine cx_seq' fun K2 hK2 => ?_
  refine cx_cond_t' rfl rfl ?_
  refine cx_seq' fun K3 hK3 => ?_
  refine cx_region' ?_
  refine sx_rd' (rd_move' rfl) rfl rfl (wt_none' rfl) ?_
  obtain ⟨r4, hr4, hp⟩ := bind_some hp
  refine sx_ox' (ox_extf' rfl (fl_v rfl) Try.func64 (extf64 (Option.some.inj hr4)) rfl rfl) (wt_none' rfl) fun _ => ?_
  refine sx_rd' (rd_assign' rfl) rfl rfl (wt_none' rfl) ?_
  refine sx_nil' ?_
  show TX E K3 _
  refine tx_k' hK3 ?_
  refine cx_retc' ?_
  replace hp := Option.some.inj hp
  subst hp
  refine tx_pick' (L' := [(2, (Fl r4))]) (H' := []) [] (sub_cons rfl sub_nil) (by decide) pick_nil ?_
  exact tx_ret1' Try.results50 rfl () (rv_tmp' rfl) (List.Sublist.refl _)

def spec_Grid_j8 (k : Nat) (rec2 : Int → Option (Unit ⊕ Unit)) (x10 : Int) (x9 : Bool) : Option (Unit ⊕ Unit) :=
  br x9
    (some (.inl ()))
    (rec2 (iadd .i64 x10 1))
def spec_Grid_j7 (k : Nat) (rec2 : Int → Option (Unit ⊕ Unit)) (x10 : Int) (r25 : Nat) (x8 : Bool) : Option (Unit ⊕ Unit) :=
  br (!x8)
    (spec_Grid_j8 k rec2 x10 true)
    ((math_Trunc k r25) >>= fun r40 =>
    spec_Grid_j8 k rec2 x10 (fne r25 r40))
def spec_Grid_l2s (r15 : List Nat) (a2 : Nat) (k : Nat) (rec2 : Int → Option (Unit ⊕ Unit)) (x10 : Int) : Option (Unit ⊕ Unit) :=
  br (decide (x10 < (r15.length : Int)))
    ((idx r15 x10) >>= fun r25 =>
    br (fge r25 (fneg a2))
      (spec_Grid_j7 k rec2 x10 r25 (fle r25 a2))
      (spec_Grid_j7 k rec2 x10 r25 false))
    (some (.inr ()))
def spec_Grid_l2 (r15 : List Nat) (a2 : Nat) : Nat → Int → Option (Unit ⊕ Unit)
  | 0, _ => none
  | k + 1, v => spec_Grid_l2s r15 a2 k (spec_Grid_l2 r15 a2 k) v
def spec_Grid_l3s (a0 : List (List Nat)) (a1 : Int) (a2 : Nat) (k : Nat) (rec3 : Int → Option (Unit ⊕ Unit)) (x11 : Int) : Option (Unit ⊕ Unit) :=
  br (decide (x11 < (a0.length : Int)))
    ((idx a0 x11) >>= fun r15 =>
    br (!decide ((r15.length : Int) = a1))
      (some (.inl ()))
      ((spec_Grid_l2 r15 a2 k 0) >>= fun y2 => match y2 with
        | (.inl v14) =>
          (some (.inl ()))
        | (.inr v15) =>
          (rec3 (iadd .i64 x11 1))))
    (some (.inr ()))
def spec_Grid_l3 (a0 : List (List Nat)) (a1 : Int) (a2 : Nat) : Nat → Int → Option (Unit ⊕ Unit)
  | 0, _ => none
  | k + 1, v => spec_Grid_l3s a0 a1 a2 k (spec_Grid_l3 a0 a1 a2 k) v
def spec_Grid (k : Nat) (a0 : List (List Nat)) (a1 : Int) (a2 : Nat) : Option (Bool) :=
  (spec_Grid_l3 a0 a1 a2 k 0) >>= fun y3 => match y3 with
    | (.inl v16) =>
      (some false)
    | (.inr v17) =>
      (some (decide (0 < a1)))

theorem spec_Grid_sim {k : Nat}  (a0 : List (List Nat)) (a1 : Int) (a2 : Nat) {out : Bool} (hp : spec_Grid k a0 a1 a2 = some out) : Go.Sx.Fn Try.prog 27 [(Sl (Kl Kf) a0), (Vl (.int .i64 a1)), (Vl (.float .f64 a2))] [] (fun w : Unit => (Vl (.bool out))) (fun w => []) := by
  unfold spec_Grid at hp
  refine fn_of Try.func27 rfl Try.ntmps27 rfl fun E hM => ?_
  refine cx_seq' fun K1 hK1 => ?_
  refine cx_region' ?_
  refine sx_rd' (rd_assign' rfl) rfl rfl (wt_none' rfl) ?_
  refine sx_nil' ?_
  show TX E K1 _
  refine tx_k' hK1 ?_
  refine cx_seq' fun K2 hK2 => ?_
  refine cx_seq' fun K3 hK3 => ?_
  refine cx_region' ?_
  refine sx_rd' (rd_move' rfl) rfl rfl (wt_none' rfl) ?_
  refine sx_rd' (rd_len' rfl Try.underlying58) rfl rfl (wt_none' rfl) ?_
  refine sx_rd' (rd_move' rfl) rfl rfl (wt_none' rfl) ?_
  refine sx_nil' ?_
  show TX E K3 _
  refine tx_k' hK3 ?_
  refine cx_block' ?_
  obtain ⟨y3, hy3, hp⟩ := bind_some hp
  refine cx_loopg' (F := spec_Grid_l3 a0 a1 a2) (G := fun k R v => spec_Grid_l3s a0 a1 a2 k R v) (x := 0) (gh := ()) (fun (v8 : Int) (w8 : Unit) => (⟨47, [], [(1, (Vl (.int .i64 a1))), (2, (Vl (.float .f64 a2))), (11, (Sl (Kl Kf) a0)), (12, (Vl (.int .i64 (a0.length : Int)))), (13, (Vl (.int .i64 v8)))], []⟩ : St)) (fun (y : Unit ⊕ Unit) => match y with | (.inl v16) => Zg E Exit.ret (fun (w16 : Unit) => (⟨47, [], [(6, (Vl (.bool false)))], []⟩ : St)) | (.inr v17) => Zg E (Exit.exit 0) (fun (w17 : Unit) => (⟨47, [], [(1, (Vl (.int .i64 a1)))], []⟩ : St))) (fun _ => rfl) (fun _ _ => rfl) ?_ hy3 (tx_to' rfl [] (sub_cons rfl (sub_cons rfl (sub_cons rfl (sub_cons rfl (sub_cons rfl sub_nil))))) (by decide) pick_nil) ?_
  · clear hp hy3
    clear y3
    intro k rec3 KY3 ih3
    rintro x11 ⟨⟩ y3 hp
    replace hp : spec_Grid_l3s a0 a1 a2 k rec3 x11 = some y3 := hp
    unfold spec_Grid_l3s at hp
    refine cx_seq' fun K28 hK28 => ?_
    refine cx_region' ?_
    refine sx_rd' (rd_bin' rfl rfl eg_int ru_lss) rfl rfl (wt_none' rfl) ?_
    refine sx_nil' ?_
    show TX E K28 _
    refine tx_k' hK28 ?_
    refine cx_seq' fun K29 hK29 => ?_
    refine cx_cond' rfl (fun h13 => ?_) (fun h13 => ?_)
    · replace hp := (br_t h13).symm.trans hp
      refine cx_skip' ?_
      show TX E K29 _
      refine tx_k' hK29 ?_
      refine cx_seq' fun K30 hK30 => ?_
      refine cx_block' ?_
      refine cx_seq' fun K31 hK31 => ?_
      refine cx_region' ?_
      obtain ⟨r15, hr15, hp⟩ := bind_some hp
      refine sx_rd' (rd_at' (K := (Kl Kf)) rfl rfl hr15 Try.underlying58 info29) rfl rfl (wt_none' rfl) ?_
      refine sx_rd' (rd_load_pt' rfl rfl flat29) rfl rfl (wt_none' rfl) ?_
      refine sx_rd' (rd_assign' rfl) rfl rfl (wt_none' rfl) ?_
      refine sx_nil' ?_
      show TX E K31 _
      refine tx_k' hK31 ?_
      refine cx_seq' fun K32 hK32 => ?_
      refine cx_seq' fun K33 hK33 => ?_
      refine cx_region' ?_
      refine sx_rd' (rd_move' rfl) rfl rfl (wt_none' rfl) ?_
      refine sx_rd' (rd_len' rfl Try.underlying29) rfl rfl (wt_none' rfl) ?_
      refine sx_rd' (rd_move' rfl) rfl rfl (wt_none' rfl) ?_
      refine sx_rd' (rd_bin' rfl rfl eg_int ru_neq) rfl rfl (wt_none' rfl) ?_
      refine sx_nil' ?_
      show TX E K33 _
      refine tx_k' hK33 ?_
      refine cx_cond' rfl (fun h14 => ?_) (fun h14 => ?_)
      · replace hp := (br_t h14).symm.trans hp
        refine cx_seq' fun K34 hK34 => ?_
        refine cx_region' ?_
        refine sx_rd' (rd_assign' rfl) rfl rfl (wt_none' rfl) ?_
        refine sx_nil' ?_
        show TX E K34 _
        refine tx_k' hK34 ?_
        refine cx_retc' ?_
        replace hp := Option.some.inj hp
        subst hp
        show TX E (Zg E Exit.ret _ Exit.ret) _
        exact tx_zend' () rfl [] (sub_cons rfl sub_nil) (by decide) pick_nil
      · replace hp := (br_f h14).symm.trans hp
        refine cx_skip' ?_
        show TX E K32 _
        refine tx_k' hK32 ?_
        refine cx_seq' fun K35 hK35 => ?_
        refine cx_region' ?_
        refine sx_rd' (rd_move' rfl) rfl rfl (wt_none' rfl) ?_
        refine sx_rd' (rd_len' rfl Try.underlying29) rfl rfl (wt_none' rfl) ?_
        refine sx_rd' (rd_move' rfl) rfl rfl (wt_none' rfl) ?_
        refine sx_nil' ?_
        show TX E K35 _
        refine tx_k' hK35 ?_
        refine cx_block' ?_
        obtain ⟨y2, hy2, hp⟩ := bind_some hp
        refine cx_loopg' (F := spec_Grid_l2 r15 a2) (G := fun k R v => spec_Grid_l2s r15 a2 k R v) (x := 0) (gh := ()) (fun (v11 : Int) (w11 : Unit) => (⟨47, [], [(1, (Vl (.int .i64 a1))), (2, (Vl (.float .f64 a2))), (11, (Sl (Kl Kf) a0)), (12, (Vl (.int .i64 (a0.length : Int)))), (13, (Vl (.int .i64 x11))), (21, (Sl Kf r15)), (22, (Vl (.int .i64 (r15.length : Int)))), (23, (Vl (.int .i64 v11)))], []⟩ : St)) (fun (y : Unit ⊕ Unit) => match y with | (.inl v14) => Zg E Exit.ret (fun (w14 : Unit) => (⟨47, [], [(6, (Vl (.bool false)))], []⟩ : St)) | (.inr v15) => Zg E (Exit.exit 2) (fun (w15 : Unit) => (⟨47, [], [(1, (Vl (.int .i64 a1))), (2, (Vl (.float .f64 a2))), (11, (Sl (Kl Kf) a0)), (12, (Vl (.int .i64 (a0.length : Int)))), (13, (Vl (.int .i64 x11)))], []⟩ : St))) (fun _ => rfl) (fun _ _ => rfl) ?_ hy2 (tx_to' rfl [] (sub_cons rfl (sub_cons rfl (sub_cons rfl (sub_cons rfl (sub_cons rfl (sub_cons rfl (sub_cons rfl (sub_cons rfl sub_nil)))))))) (by decide) pick_nil) ?_
        · clear hp hy2
          clear y2
          intro k rec2 KY2 ih2
          rintro x10 ⟨⟩ y2 hp
          replace hp : spec_Grid_l2s r15 a2 k rec2 x10 = some y2 := hp
          unfold spec_Grid_l2s at hp
          refine cx_seq' fun K44 hK44 => ?_
          refine cx_region' ?_
          refine sx_rd' (rd_bin' rfl rfl eg_int ru_lss) rfl rfl (wt_none' rfl) ?_
          refine sx_nil' ?_
          show TX E K44 _
          refine tx_k' hK44 ?_
          refine cx_seq' fun K45 hK45 => ?_
          refine cx_cond' rfl (fun h20 => ?_) (fun h20 => ?_)
          · replace hp := (br_t h20).symm.trans hp
            refine cx_skip' ?_
            show TX E K45 _
            refine tx_k' hK45 ?_
            refine cx_seq' fun K46 hK46 => ?_
            refine cx_block' ?_
            refine cx_seq' fun K47 hK47 => ?_
            refine cx_region' ?_
            obtain ⟨r25, hr25, hp⟩ := bind_some hp
            refine sx_rd' (rd_at' (K := Kf) rfl rfl hr25 Try.underlying29 info22) rfl rfl (wt_none' rfl) ?_
            refine sx_rd' (rd_load_pt' rfl rfl flat22) rfl rfl (wt_none' rfl) ?_
            refine sx_rd' (rd_assign' rfl) rfl rfl (wt_none' rfl) ?_
            refine sx_nil' ?_
            show TX E K47 _
            refine tx_k' hK47 ?_
            refine cx_seq' fun K48 hK48 => ?_
            refine cx_region' ?_
            refine sx_rd' (rd_move' rfl) rfl rfl (wt_none' rfl) ?_
            refine sx_rd' (rd_move' rfl) rfl rfl (wt_none' rfl) ?_
            refine sx_rd' (rd_un' rfl ru_fneg) rfl rfl (wt_none' rfl) ?_
            refine sx_rd' (rd_bin' rfl rfl eg_flt ru_fge) rfl rfl (wt_none' rfl) ?_
            refine sx_rd' (rd_move' rfl) rfl rfl (wt_none' rfl) ?_
            refine sx_cutn' 4 (fun (v12 : Bool) => (⟨47, [], [(1, (Vl (.int .i64 a1))), (2, (Vl (.float .f64 a2))), (10, (Vl (.float .f64 r25))), (11, (Sl (Kl Kf) a0)), (12, (Vl (.int .i64 (a0.length : Int)))), (13, (Vl (.int .i64 x11))), (21, (Sl Kf r15)), (22, (Vl (.int .i64 (r15.length : Int)))), (23, (Vl (.int .i64 x10))), (35, (Vl (.bool v12)))], []⟩ : St)) (fun (v12 : Bool) => spec_Grid_j7 k rec2 x10 r25 v12 = some y2) ?_ ?_
            · rintro x8 hp
              replace hp : spec_Grid_j7 k rec2 x10 r25 x8 = some y2 := hp
              unfold spec_Grid_j7 at hp
              refine sx_rd' (rd_un' rfl ru_not) rfl rfl (wt_none' rfl) ?_
              refine sx_rd' (rd_move' rfl) rfl rfl (wt_none' rfl) ?_
              refine sx_cutn' 5 (fun (v13 : Bool) => (⟨47, [], [(1, (Vl (.int .i64 a1))), (2, (Vl (.float .f64 a2))), (11, (Sl (Kl Kf) a0)), (12, (Vl (.int .i64 (a0.length : Int)))), (13, (Vl (.int .i64 x11))), (21, (Sl Kf r15)), (22, (Vl (.int .i64 (r15.length : Int)))), (23, (Vl (.int .i64 x10))), (42, (Vl (.bool v13)))], []⟩ : St)) (fun (v13 : Bool) => spec_Grid_j8 k rec2 x10 v13 = some y2) ?_ ?_
              · rintro x9 hp
                replace hp : spec_Grid_j8 k rec2 x10 x9 = some y2 := hp
                unfold spec_Grid_j8 at hp
                refine sx_nil' ?_
                show TX E K48 _
                refine tx_k' hK48 ?_
                refine cx_cond' rfl (fun h23 => ?_) (fun h23 => ?_)
                · replace hp := (br_t h23).symm.trans hp
                  refine cx_seq' fun K51 hK51 => ?_
                  refine cx_region' ?_
                  refine sx_rd' (rd_assign' rfl) rfl rfl (wt_none' rfl) ?_
                  refine sx_nil' ?_
                  show TX E K51 _
                  refine tx_k' hK51 ?_
                  refine cx_retc' ?_
                  replace hp := Option.some.inj hp
                  subst hp
                  show TX E (Zg E Exit.ret _ Exit.ret) _
                  exact tx_zend' () rfl [] (sub_cons rfl sub_nil) (by decide) pick_nil
                · replace hp := (br_f h23).symm.trans hp
                  refine cx_skip' ?_
                  show TX E K46 _
                  refine tx_k' hK46 ?_
                  refine cx_region' ?_
                  refine sx_rd' (rd_bin' rfl rfl eg_int ru_add) rfl rfl (wt_none' rfl) ?_
                  refine sx_rd' (rd_move' rfl) rfl rfl (wt_none' rfl) ?_
                  refine sx_nil' ?_
                  show TX E (KY2 _) _
                  exact tx_pick' [] (sub_cons rfl (sub_cons rfl (sub_cons rfl (sub_cons rfl (sub_cons rfl (sub_cons rfl (sub_cons rfl (sub_cons rfl sub_nil)))))))) (by decide) pick_nil (ih2 (iadd .i64 x10 1) () _ hp)
              · intro K50 hK50
                rcases br_cases hp with ⟨h22, hp⟩ | ⟨h22, hp⟩
                · refine sx_skip' rfl rfl (wt_is' (wt_guard' rfl rfl rfl) (beq_tf h22)) ?_
                  refine sx_skip' rfl rfl (wt_is' (wt_guard' rfl rfl rfl) (beq_tf h22)) ?_
                  refine sx_skip' rfl rfl (wt_is' (wt_guard' rfl rfl rfl) (beq_tf h22)) ?_
                  refine sx_skip' rfl rfl (wt_is' (wt_guard' rfl rfl rfl) (beq_tf h22)) ?_
                  refine sx_rd' (rd_pick_true' rfl h22 rfl) rfl rfl (wt_none' rfl) ?_
                  refine sx_nil' ?_
                  show TX E K50 _
                  exact tx_pick' [] (sub_cons rfl (sub_cons rfl (sub_cons rfl (sub_cons rfl (sub_cons rfl (sub_cons rfl (sub_cons rfl (sub_cons rfl (sub_cons rfl sub_nil))))))))) (by decide) pick_nil (hK50 true hp)
                · refine sx_rd' (rd_move' rfl) rfl rfl (wt_is' (wt_guard' rfl rfl rfl) (beq_ff h22)) ?_
                  refine sx_rd' (rd_move' rfl) rfl rfl (wt_is' (wt_guard' rfl rfl rfl) (beq_ff h22)) ?_
                  obtain ⟨r40, hr40, hp⟩ := bind_some hp
                  refine sx_ox' (ox_calln' (ent_fn' Try.func50 isn50 rfl rfl) (math_Trunc_sim _ hr40 : Go.Sx.Fn Try.prog 50 [(Vl (.float .f64 r25))] [] (fun x : Unit => (Fl r40)) (fun x => [])) (Hn := fun x : Unit => []) (fun _ => rfl) rfl rfl) (wt_is' (wt_guard' rfl rfl rfl) (beq_ff h22)) fun ⟨⟩ => ?_
                  refine sx_rd' (rd_fcmp' (fl_v rfl) (fl_f rfl) rfl) rfl rfl (wt_is' (wt_guard' rfl rfl rfl) (beq_ff h22)) ?_
                  refine sx_rd' (rd_pick_false' rfl h22 rfl) rfl rfl (wt_none' rfl) ?_
                  refine sx_nil' ?_
                  show TX E K50 _
                  exact tx_pick' [] (sub_cons rfl (sub_cons rfl (sub_cons rfl (sub_cons rfl (sub_cons rfl (sub_cons rfl (sub_cons rfl (sub_cons rfl (sub_cons rfl sub_nil))))))))) (by decide) pick_nil (hK50 (fne r25 r40) hp)
            · intro K49 hK49
              rcases br_cases hp with ⟨h21, hp⟩ | ⟨h21, hp⟩
              · refine sx_rd' (rd_move' rfl) rfl rfl (wt_is' (wt_guard' rfl rfl rfl) (beq_tt h21)) ?_
                refine sx_rd' (rd_move' rfl) rfl rfl (wt_is' (wt_guard' rfl rfl rfl) (beq_tt h21)) ?_
                refine sx_rd' (rd_bin' rfl rfl eg_flt ru_fle) rfl rfl (wt_is' (wt_guard' rfl rfl rfl) (beq_tt h21)) ?_
                refine sx_rd' (rd_pick_true' rfl h21 rfl) rfl rfl (wt_none' rfl) ?_
                refine sx_nil' ?_
                show TX E K49 _
                exact tx_pick' [] (sub_cons rfl (sub_cons rfl (sub_cons rfl (sub_cons rfl (sub_cons rfl (sub_cons rfl (sub_cons rfl (sub_cons rfl (sub_cons rfl (sub_cons rfl sub_nil)))))))))) (by decide) pick_nil (hK49 (fle r25 a2) hp)
              · refine sx_skip' rfl rfl (wt_is' (wt_guard' rfl rfl rfl) (beq_ft h21)) ?_
                refine sx_skip' rfl rfl (wt_is' (wt_guard' rfl rfl rfl) (beq_ft h21)) ?_
                refine sx_skip' rfl rfl (wt_is' (wt_guard' rfl rfl rfl) (beq_ft h21)) ?_
                refine sx_rd' (rd_pick_false' rfl h21 rfl) rfl rfl (wt_none' rfl) ?_
                refine sx_nil' ?_
                show TX E K49 _
                exact tx_pick' [] (sub_cons rfl (sub_cons rfl (sub_cons rfl (sub_cons rfl (sub_cons rfl (sub_cons rfl (sub_cons rfl (sub_cons rfl (sub_cons rfl (sub_cons rfl sub_nil)))))))))) (by decide) pick_nil (hK49 false hp)
          · replace hp := (br_f h20).symm.trans hp
            refine cx_exit' ?_
            replace hp := Option.some.inj hp
            subst hp
            show TX E (Zg E (Exit.exit 2) _ (Exit.exit 2)) _
            exact tx_zend' () rfl [] (sub_cons rfl (sub_cons rfl (sub_cons rfl (sub_cons rfl (sub_cons rfl sub_nil))))) (by decide) pick_nil
        · rcases y2 with v14 | v15
          · dsimp only at hp
            refine zg_out fun w14 => ?_
            replace hp := Option.some.inj hp
            subst hp
            show TX E (Zg E Exit.ret _ Exit.ret) _
            exact tx_zend' () rfl [] (sub_cons rfl sub_nil) (by decide) pick_nil
          · dsimp only at hp
            refine zg_out fun w15 => ?_
            show TX E K30 _
            refine tx_k' hK30 ?_
            refine cx_region' ?_
            refine sx_rd' (rd_bin' rfl rfl eg_int ru_add) rfl rfl (wt_none' rfl) ?_
            refine sx_rd' (rd_move' rfl) rfl rfl (wt_none' rfl) ?_
            refine sx_nil' ?_
            show TX E (KY3 _) _
            exact tx_pick' [] (sub_cons rfl (sub_cons rfl (sub_cons rfl (sub_cons rfl (sub_cons rfl sub_nil))))) (by decide) pick_nil (ih3 (iadd .i64 x11 1) () _ hp)
    · replace hp := (br_f h13).symm.trans hp
      refine cx_exit' ?_
      replace hp := Option.some.inj hp
      subst hp
      show TX E (Zg E (Exit.exit 0) _ (Exit.exit 0)) _
      exact tx_zend' () rfl [] (sub_cons rfl sub_nil) (by decide) pick_nil
  · rcases y3 with v16 | v17
    · dsimp only at hp
      refine zg_out fun w16 => ?_
      replace hp := Option.some.inj hp
      subst hp
      refine tx_pick' (L' := [(6, (Vl (.bool false)))]) (H' := []) [] (sub_cons rfl sub_nil) (by decide) pick_nil ?_
      exact tx_ret1' Try.results27 rfl () (rv_tmp' rfl) (List.Sublist.refl _)
    · dsimp only at hp
      refine zg_out fun w17 => ?_
      show TX E K2 _
      refine tx_k' hK2 ?_
      refine cx_seq' fun K52 hK52 => ?_
      refine cx_region' ?_
      refine sx_rd' (rd_move' rfl) rfl rfl (wt_none' rfl) ?_
      refine sx_rd' (rd_bin' rfl rfl eg_int ru_gtr) rfl rfl (wt_none' rfl) ?_
      refine sx_rd' (rd_assign' rfl) rfl rfl (wt_none' rfl) ?_
      refine sx_nil' ?_
      show TX E K52 _
      refine tx_k' hK52 ?_
      refine cx_retc' ?_
      replace hp := Option.some.inj hp
      subst hp
      refine tx_pick' (L' := [(6, (Vl (.bool (decide (0 < a1)))))]) (H' := []) [] (sub_cons rfl sub_nil) (by decide) pick_nil ?_
      exact tx_ret1' Try.results27 rfl () (rv_tmp' rfl) (List.Sublist.refl _)

def laws_whole3_l1s (a0 : List (Nat × Nat × Nat)) (k : Nat) (rec1 : Int → Option (Unit ⊕ Unit)) (x1 : Int) : Option (Unit ⊕ Unit) :=
  br (decide (x1 < (a0.length : Int)))
    ((idx a0 x1) >>= fun r9 =>
    (laws_off3 k r9.1 r9.2.1 r9.2.2) >>= fun r12 =>
    (spec_Grid k ([r12]) 3 4697254411347427328) >>= fun r14 =>
    br (!r14)
      (some (.inl ()))
      (rec1 (iadd .i64 x1 1)))
    (some (.inr ()))
def laws_whole3_l1 (a0 : List (Nat × Nat × Nat)) : Nat → Int → Option (Unit ⊕ Unit)
  | 0, _ => none
  | k + 1, v => laws_whole3_l1s a0 k (laws_whole3_l1 a0 k) v
def laws_whole3 (k : Nat) (a0 : List (Nat × Nat × Nat)) : Option (Bool) :=
  (laws_whole3_l1 a0 k 0) >>= fun y1 => match y1 with
    | (.inl v2) =>
      (some false)
    | (.inr v3) =>
      (some true)

theorem laws_whole3_sim {k : Nat}  (a0 : List (Nat × Nat × Nat)) {out : Bool} (hp : laws_whole3 k a0 = some out) : Go.Sx.Fn Try.prog 24 [(Sl KT53 a0)] [] (fun w : Unit => (Vl (.bool out))) (fun w => []) := by
  unfold laws_whole3 at hp
  refine fn_of Try.func24 rfl Try.ntmps24 rfl fun E hM => ?_
  refine cx_seq' fun K1 hK1 => ?_
  refine cx_region' ?_
  refine sx_rd' (rd_assign' rfl) rfl rfl (wt_none' rfl) ?_
  refine sx_nil' ?_
  show TX E K1 _
  refine tx_k' hK1 ?_
  refine cx_seq' fun K2 hK2 => ?_
  refine cx_seq' fun K3 hK3 => ?_
  refine cx_region' ?_
  refine sx_rd' (rd_move' rfl) rfl rfl (wt_none' rfl) ?_
  refine sx_rd' (rd_len' rfl Try.underlying81) rfl rfl (wt_none' rfl) ?_
  refine sx_rd' (rd_move' rfl) rfl rfl (wt_none' rfl) ?_
  refine sx_nil' ?_
  show TX E K3 _
  refine tx_k' hK3 ?_
  refine cx_block' ?_
  obtain ⟨y1, hy1, hp⟩ := bind_some hp
  refine cx_loopg' (F := laws_whole3_l1 a0) (G := fun k R v => laws_whole3_l1s a0 k R v) (x := 0) (gh := ()) (fun (v1 : Int) (w1 : Unit) => (⟨17, [], [(5, (Sl KT53 a0)), (6, (Vl (.int .i64 (a0.length : Int)))), (7, (Vl (.int .i64 v1)))], []⟩ : St)) (fun (y : Unit ⊕ Unit) => match y with | (.inl v2) => Zg E Exit.ret (fun (w2 : Unit) => (⟨17, [], [(2, (Vl (.bool false)))], []⟩ : St)) | (.inr v3) => Zg E (Exit.exit 0) (fun (w3 : Unit) => (⟨17, [], [], []⟩ : St))) (fun _ => rfl) (fun _ _ => rfl) ?_ hy1 (tx_to' rfl [] (sub_cons rfl (sub_cons rfl (sub_cons rfl sub_nil))) (by decide) pick_nil) ?_
  · clear hp hy1
    clear y1
    intro k rec1 KY1 ih1
    rintro x1 ⟨⟩ y1 hp
    replace hp : laws_whole3_l1s a0 k rec1 x1 = some y1 := hp
    unfold laws_whole3_l1s at hp
    refine cx_seq' fun K10 hK10 => ?_
    refine cx_region' ?_
    refine sx_rd' (rd_bin' rfl rfl eg_int ru_lss) rfl rfl (wt_none' rfl) ?_
    refine sx_nil' ?_
    show TX E K10 _
    refine tx_k' hK10 ?_
    refine cx_seq' fun K11 hK11 => ?_
    refine cx_cond' rfl (fun h4 => ?_) (fun h4 => ?_)
    · replace hp := (br_t h4).symm.trans hp
      refine cx_skip' ?_
      show TX E K11 _
      refine tx_k' hK11 ?_
      refine cx_seq' fun K12 hK12 => ?_
      refine cx_block' ?_
      refine cx_seq' fun K13 hK13 => ?_
      refine cx_region' ?_
      obtain ⟨r9, hr9, hp⟩ := bind_some hp
      refine sx_rd' (rd_at' (K := KT53) rfl rfl hr9 Try.underlying81 info53) rfl rfl (wt_none' rfl) ?_
      refine sx_rd' (rd_load_pt_agg' (nn := 3) rfl rfl agg53 (l' := [(Vl (.float .f64 r9.1)), (Vl (.float .f64 r9.2.1)), (Vl (.float .f64 r9.2.2))]) rfl) rfl rfl (wt_none' rfl) ?_
      refine sx_ox' (ox_alloc' info53 rfl rfl rfl rfl (l := [(Vl (.float .f64 0)), (Vl (.float .f64 0)), (Vl (.float .f64 0))]) rfl) (wt_none' rfl) fun q4 => ?_
      refine sx_ox' (ox_store' (i := 0) (o := 0) rfl rfl (lv_ag _) ⟨rfl, rfl, rfl, rfl⟩ rfl info53 rfl (H' := [⟨.pointer (some q4), [(Vl (.float .f64 r9.1)), (Vl (.float .f64 r9.2.1)), (Vl (.float .f64 r9.2.2))], 53, none⟩]) rfl) (wt_none' rfl) fun _ => ?_
      refine sx_nil' ?_
      show TX E K13 _
      refine tx_k' hK13 ?_
      refine cx_seq' fun K14 hK14 => ?_
      refine cx_region' ?_
      refine sx_rd' (rd_load_agg' (i := 0) (o := 0) (nn := 3) rfl ⟨rfl, rfl, rfl, rfl⟩ rfl agg53 (l' := [(Vl (.float .f64 r9.1)), (Vl (.float .f64 r9.2.1)), (Vl (.float .f64 r9.2.2))]) rfl) rfl rfl (wt_none' rfl) ?_
      obtain ⟨r12, hr12, hp⟩ := bind_some hp
      refine sx_ox' (ox_calln' (ent_fn' Try.func26 isn26 rfl rfl) (laws_off3_sim _ _ _ hr12 : Go.Sx.Fn Try.prog 26 [(Ag [(Vl (.float .f64 r9.1)), (Vl (.float .f64 r9.2.1)), (Vl (.float .f64 r9.2.2))])] [] (fun x : Unit => (Sl Kf r12)) (fun x => [])) (Hn := fun x : Unit => [⟨.pointer (some q4), [(Vl (.float .f64 r9.1)), (Vl (.float .f64 r9.2.1)), (Vl (.float .f64 r9.2.2))], 53, none⟩]) (fun _ => rfl) rfl rfl) (wt_none' rfl) fun ⟨⟩ => ?_
      refine sx_ox' (ox_rowlit' (K := (Kl Kf)) (xs := [r12]) (qs := [(0, [(Sl Kf r12)])]) ⟨rfl, ⟨_, rfl, (lv_sl _ _)⟩, trivial⟩ Try.underlying58 info29 rfl rfl rfl rfl rfl (by kernel_rfl) rfl rfl rfl) (wt_none' rfl) fun g13 => ?_
      obtain ⟨r14, hr14, hp⟩ := bind_some hp
      refine sx_ox' (ox_brw' (frz_row 0 [(13, (Vl (Vs g13)), (Sl (Kl Kf) ([r12])))] (K := (Kl Kf)) (xs := [r12]) (by decide) rfl ⟨⟨rfl, frz_it⟩, trivial⟩ (H' := [⟨.pointer (some q4), [(Vl (.float .f64 r9.1)), (Vl (.float .f64 r9.2.1)), (Vl (.float .f64 r9.2.2))], 53, none⟩]) frzH_refl) (ent_fn' Try.func27 isn27 rfl rfl) (spec_Grid_sim _ _ _ hr14 : Go.Sx.Fn Try.prog 27 [(Sl (Kl Kf) ([r12])), (Vl (.int .i64 3)), (Vl (.float .f64 4697254411347427328))] [] (fun x : Unit => (Vl (.bool r14))) (fun x => [])) pu_vl rfl rfl) (wt_none' rfl) fun ⟨⟩ => ?_
      refine sx_rd' (rd_un' rfl ru_not) rfl rfl (wt_none' rfl) ?_
      refine sx_nil' ?_
      show TX E K14 _
      refine tx_k' hK14 ?_
      refine cx_cond' rfl (fun h5 => ?_) (fun h5 => ?_)
      · replace hp := (br_t h5).symm.trans hp
        refine cx_seq' fun K15 hK15 => ?_
        refine cx_region' ?_
        refine sx_rd' (rd_assign' rfl) rfl rfl (wt_none' rfl) ?_
        refine sx_nil' ?_
        show TX E K15 _
        refine tx_k' hK15 ?_
        refine cx_retc' ?_
        replace hp := Option.some.inj hp
        subst hp
        show TX E (Zg E Exit.ret _ Exit.ret) _
        exact tx_zend' () rfl [] (sub_cons rfl sub_nil) (by decide) pick_nil
      · replace hp := (br_f h5).symm.trans hp
        refine cx_skip' ?_
        show TX E K12 _
        refine tx_k' hK12 ?_
        refine cx_region' ?_
        refine sx_rd' (rd_bin' rfl rfl eg_int ru_add) rfl rfl (wt_none' rfl) ?_
        refine sx_rd' (rd_move' rfl) rfl rfl (wt_none' rfl) ?_
        refine sx_nil' ?_
        show TX E (KY1 _) _
        exact tx_pick' [] (sub_cons rfl (sub_cons rfl (sub_cons rfl sub_nil))) (by decide) pick_nil (ih1 (iadd .i64 x1 1) () _ hp)
    · replace hp := (br_f h4).symm.trans hp
      refine cx_exit' ?_
      replace hp := Option.some.inj hp
      subst hp
      show TX E (Zg E (Exit.exit 0) _ (Exit.exit 0)) _
      exact tx_zend' () rfl [] sub_nil (by decide) pick_nil
  · rcases y1 with v2 | v3
    · dsimp only at hp
      refine zg_out fun w2 => ?_
      replace hp := Option.some.inj hp
      subst hp
      refine tx_pick' (L' := [(2, (Vl (.bool false)))]) (H' := []) [] (sub_cons rfl sub_nil) (by decide) pick_nil ?_
      exact tx_ret1' Try.results24 rfl () (rv_tmp' rfl) (List.Sublist.refl _)
    · dsimp only at hp
      refine zg_out fun w3 => ?_
      show TX E K2 _
      refine tx_k' hK2 ?_
      refine cx_seq' fun K16 hK16 => ?_
      refine cx_region' ?_
      refine sx_rd' (rd_assign' rfl) rfl rfl (wt_none' rfl) ?_
      refine sx_nil' ?_
      show TX E K16 _
      refine tx_k' hK16 ?_
      refine cx_retc' ?_
      replace hp := Option.some.inj hp
      subst hp
      refine tx_pick' (L' := [(2, (Vl (.bool true)))]) (H' := []) [] (sub_cons rfl sub_nil) (by decide) pick_nil ?_
      exact tx_ret1' Try.results24 rfl () (rv_tmp' rfl) (List.Sublist.refl _)

def impl_vec3 (k : Nat) (a0_0 : Nat) (a0_1 : Nat) (a0_2 : Nat) : Option (Nat × Nat × Nat) :=
  some (a0_0, a0_1, a0_2)

theorem impl_vec3_sim {k : Nat}  (a0_0 : Nat) (a0_1 : Nat) (a0_2 : Nat) {out : Nat × Nat × Nat} (hp : impl_vec3 k a0_0 a0_1 a0_2 = some out) : Go.Sx.Fn Try.prog 49 [(Ag [(Vl (.float .f64 a0_0)), (Vl (.float .f64 a0_1)), (Vl (.float .f64 a0_2))])] [] (fun w : Unit => (Ag [(Vl (.float .f64 out.1)), (Vl (.float .f64 out.2.1)), (Vl (.float .f64 out.2.2))])) (fun w => []) := by
  unfold impl_vec3 at hp
  refine fn_of Try.func49 rfl Try.ntmps49 rfl fun E hM => ?_
  refine cx_seq' fun K1 hK1 => ?_
  refine cx_region' ?_
  refine sx_ox' (ox_box' rfl (lv_ag _) rfl rfl) (wt_none' rfl) fun q1 => ?_
  refine sx_ox' (ox_alloc' info83 rfl rfl rfl rfl (l := [(Vl (.float .f64 0)), (Vl (.float .f64 0)), (Vl (.float .f64 0))]) rfl) (wt_none' rfl) fun q2 => ?_
  refine sx_nil' ?_
  show TX E K1 _
  refine tx_k' hK1 ?_
  refine cx_seq' fun K2 hK2 => ?_
  refine cx_region' ?_
  refine sx_rd' (rd_field0' rfl Try.underlying53 rfl info22 rfl) rfl rfl (wt_none' rfl) ?_
  refine sx_rd' (rd_load' (i := 1) (o := 0) rfl ⟨rfl, rfl, rfl, rfl⟩ rfl flat22) rfl rfl (wt_none' rfl) ?_
  refine sx_rd' (rd_field' (off := 1) rfl Try.underlying53 rfl info22 rfl) rfl rfl (wt_none' rfl) ?_
  refine sx_rd' (rd_load' (i := 1) (o := 1) rfl ⟨rfl, rfl, rfl, rfl⟩ rfl flat22) rfl rfl (wt_none' rfl) ?_
  refine sx_rd' (rd_field' (off := 2) rfl Try.underlying53 rfl info22 rfl) rfl rfl (wt_none' rfl) ?_
  refine sx_rd' (rd_load' (i := 1) (o := 2) rfl ⟨rfl, rfl, rfl, rfl⟩ rfl flat22) rfl rfl (wt_none' rfl) ?_
  refine sx_rd' (rd_build' (pls := [(0, 1), (1, 1), (2, 1)]) (qs := [(0, [(Vl (.float .f64 a0_0))]), (1, [(Vl (.float .f64 a0_1))]), (2, [(Vl (.float .f64 a0_2))])]) (r := [(Vl (.float .f64 a0_0)), (Vl (.float .f64 a0_1)), (Vl (.float .f64 a0_2))]) ⟨rfl, ⟨_, rfl, (lv_vl rfl rfl)⟩, ⟨rfl, ⟨_, rfl, (lv_vl rfl rfl)⟩, ⟨rfl, ⟨_, rfl, (lv_vl rfl rfl)⟩, trivial⟩⟩⟩ Try.underlying83 has83 places83 info83 rfl rfl rfl) rfl rfl (wt_none' rfl) ?_
  refine sx_ox' (ox_store' (i := 0) (o := 0) rfl rfl (lv_ag _) ⟨rfl, rfl, rfl, rfl⟩ rfl info83 rfl (H' := [⟨.pointer (some q2), [(Vl (.float .f64 a0_0)), (Vl (.float .f64 a0_1)), (Vl (.float .f64 a0_2))], 83, none⟩, ⟨.pointer (some q1), [(Vl (.float .f64 a0_0)), (Vl (.float .f64 a0_1)), (Vl (.float .f64 a0_2))], 53, none⟩]) rfl) (wt_none' rfl) fun _ => ?_
  refine sx_nil' ?_
  show TX E K2 _
  refine tx_k' hK2 ?_
  refine cx_retc' ?_
  replace hp := Option.some.inj hp
  subst hp
  refine tx_pick' (L' := [(2, (Vl (.pointer (some q2))))]) (H' := [⟨.pointer (some q2), [(Vl (.float .f64 a0_0)), (Vl (.float .f64 a0_1)), (Vl (.float .f64 a0_2))], 83, none⟩]) [0] (sub_cons rfl sub_nil) (by decide) (pick_cons rfl pick_nil) ?_
  exact tx_ret1' Try.results49 rfl () (rv_cell_agg' (i := 0) (o := 0) (nn := 3) rfl ⟨rfl, rfl, rfl, rfl⟩ rfl agg83 rfl) (List.nil_sublist _)

def math_Hypot (k : Nat) (a0 : Nat) (a1 : Nat) : Option (Nat) :=
  (fhypot a0 a1) >>= fun r7 =>
  some r7

theorem math_Hypot_sim {k : Nat}  (a0 : Nat) (a1 : Nat) {out : Nat} (hp : math_Hypot k a0 a1 = some out) : Go.Sx.Fn Try.prog 58 [(Vl (.float .f64 a0)), (Vl (.float .f64 a1))] [] (fun w : Unit => (Vl (.float .f64 out))) (fun w => []) := by
  unfold math_Hypot at hp
  refine fn_of Try.func58 rfl Try.ntmps58 rfl fun E hM => ?_
  refine cx_seq' fun K1 hK1 => ?_
  refine cx_region' ?_
  refine sx_rd' (rd_assign' rfl) rfl rfl (wt_none' rfl) ?_
  refine sx_nil' ?_
  show TX E K1 _
  refine tx_k' hK1 ?_
  refine cx_seq' fun K2 hK2 => ?_
  refine cx_cond_t' rfl rfl ?_
  refine cx_seq' fun K3 hK3 => ?_
  refine cx_region' ?_
  refine sx_rd' (rd_move' rfl) rfl rfl (wt_none' rfl) ?_
  refine sx_rd' (rd_move' rfl) rfl rfl (wt_none' rfl) ?_
  obtain ⟨r7, hr7, hp⟩ := bind_some hp
  refine sx_rd' (rd_ext' (us := [.float .f64 a0, .float .f64 a1]) rfl (ext71 (ex_hypot hr7))) rfl rfl (wt_none' rfl) ?_
  refine sx_rd' (rd_assign' rfl) rfl rfl (wt_none' rfl) ?_
  refine sx_nil' ?_
  show TX E K3 _
  refine tx_k' hK3 ?_
  refine cx_retc' ?_
  replace hp := Option.some.inj hp
  subst hp
  refine tx_pick' (L' := [(4, (Vl (.float .f64 r7)))]) (H' := []) [] (sub_cons rfl sub_nil) (by decide) pick_nil ?_
  exact tx_ret1' Try.results58 rfl () (rv_tmp' rfl) (List.Sublist.refl _)

def r3_Norm (k : Nat) (a0_0 : Nat) (a0_1 : Nat) (a0_2 : Nat) : Option (Nat) :=
  (math_Hypot k a0_1 a0_2) >>= fun r9 =>
  (math_Hypot k a0_0 r9) >>= fun r10 =>
  some r10

theorem r3_Norm_sim {k : Nat}  (a0_0 : Nat) (a0_1 : Nat) (a0_2 : Nat) {out : Nat} (hp : r3_Norm k a0_0 a0_1 a0_2 = some out) : Go.Sx.Fn Try.prog 48 [(Ag [(Vl (.float .f64 a0_0)), (Vl (.float .f64 a0_1)), (Vl (.float .f64 a0_2))])] [] (fun w : Unit => (Vl (.float .f64 out))) (fun w => []) := by
  unfold r3_Norm at hp
  refine fn_of Try.func48 rfl Try.ntmps48 rfl fun E hM => ?_
  refine cx_seq' fun K1 hK1 => ?_
  refine cx_region' ?_
  refine sx_ox' (ox_box' rfl (lv_ag _) rfl rfl) (wt_none' rfl) fun q1 => ?_
  refine sx_rd' (rd_assign' rfl) rfl rfl (wt_none' rfl) ?_
  refine sx_nil' ?_
  show TX E K1 _
  refine tx_k' hK1 ?_
  refine cx_seq' fun K2 hK2 => ?_
  refine cx_plan' [] [] [(0, 1), (1, 1), (2, 1), (3, 1), (4, 1), (5, 1), (6, 0), (7, 0), (8, 1)] mixed (by kernel_rfl) ?_
  refine px_rd' rfl (rd_field0' rfl Try.underlying83 rfl info22 rfl) rfl rfl (wt_none' rfl) ?_
  refine px_rd' rfl (rd_load' (i := 0) (o := 0) rfl ⟨rfl, rfl, rfl, rfl⟩ rfl flat22) rfl rfl (wt_none' rfl) ?_
  refine px_rd' rfl (rd_field' (off := 1) rfl Try.underlying83 rfl info22 rfl) rfl rfl (wt_none' rfl) ?_
  refine px_rd' rfl (rd_load' (i := 0) (o := 1) rfl ⟨rfl, rfl, rfl, rfl⟩ rfl flat22) rfl rfl (wt_none' rfl) ?_
  refine px_rd' rfl (rd_field' (off := 2) rfl Try.underlying83 rfl info22 rfl) rfl rfl (wt_none' rfl) ?_
  refine px_rd' rfl (rd_load' (i := 0) (o := 2) rfl ⟨rfl, rfl, rfl, rfl⟩ rfl flat22) rfl rfl (wt_none' rfl) ?_
  obtain ⟨r9, hr9, hp⟩ := bind_some hp
  refine px_ox' rfl (ox_calln' (ent_fn' Try.func58 isn58 rfl rfl) (math_Hypot_sim _ _ hr9 : Go.Sx.Fn Try.prog 58 [(Vl (.float .f64 a0_1)), (Vl (.float .f64 a0_2))] [] (fun x : Unit => (Vl (.float .f64 r9))) (fun x => [])) (Hn := fun x : Unit => [⟨.pointer (some q1), [(Vl (.float .f64 a0_0)), (Vl (.float .f64 a0_1)), (Vl (.float .f64 a0_2))], 83, none⟩]) (fun _ => rfl) rfl rfl) rfl bs_nil (wt_none' rfl) fun ⟨⟩ => ?_
  obtain ⟨r10, hr10, hp⟩ := bind_some hp
  refine px_ox' rfl (ox_calln' (ent_fn' Try.func58 isn58 rfl rfl) (math_Hypot_sim _ _ hr10 : Go.Sx.Fn Try.prog 58 [(Vl (.float .f64 a0_0)), (Vl (.float .f64 r9))] [] (fun x : Unit => (Vl (.float .f64 r10))) (fun x => [])) (Hn := fun x : Unit => [⟨.pointer (some q1), [(Vl (.float .f64 a0_0)), (Vl (.float .f64 a0_1)), (Vl (.float .f64 a0_2))], 83, none⟩]) (fun _ => rfl) rfl rfl) rfl bs_nil (wt_none' rfl) fun ⟨⟩ => ?_
  refine px_rd' rfl (rd_assign' rfl) rfl rfl (wt_none' rfl) ?_
  refine px_nil' ?_
  show TX E K2 _
  refine tx_k' hK2 ?_
  refine cx_retc' ?_
  replace hp := Option.some.inj hp
  subst hp
  refine tx_pick' (L' := [(2, (Vl (.float .f64 r10)))]) (H' := []) [] (sub_cons rfl sub_nil) (by decide) pick_nil ?_
  exact tx_ret1' Try.results48 rfl () (rv_tmp' rfl) (List.Sublist.refl _)

def impl_Length3 (k : Nat) (a0_0 : Nat) (a0_1 : Nat) (a0_2 : Nat) : Option (Nat) :=
  (impl_vec3 k a0_0 a0_1 a0_2) >>= fun r4 =>
  (r3_Norm k r4.1 r4.2.1 r4.2.2) >>= fun r5 =>
  some r5

theorem impl_Length3_sim {k : Nat}  (a0_0 : Nat) (a0_1 : Nat) (a0_2 : Nat) {out : Nat} (hp : impl_Length3 k a0_0 a0_1 a0_2 = some out) : Go.Sx.Fn Try.prog 25 [(Ag [(Vl (.float .f64 a0_0)), (Vl (.float .f64 a0_1)), (Vl (.float .f64 a0_2))])] [] (fun w : Unit => (Vl (.float .f64 out))) (fun w => []) := by
  unfold impl_Length3 at hp
  refine fn_of Try.func25 rfl Try.ntmps25 rfl fun E hM => ?_
  refine cx_seq' fun K1 hK1 => ?_
  refine cx_region' ?_
  refine sx_ox' (ox_box' rfl (lv_ag _) rfl rfl) (wt_none' rfl) fun q1 => ?_
  refine sx_rd' (rd_assign' rfl) rfl rfl (wt_none' rfl) ?_
  refine sx_nil' ?_
  show TX E K1 _
  refine tx_k' hK1 ?_
  refine cx_seq' fun K2 hK2 => ?_
  refine cx_region' ?_
  refine sx_rd' (rd_load_agg' (i := 0) (o := 0) (nn := 3) rfl ⟨rfl, rfl, rfl, rfl⟩ rfl agg53 (l' := [(Vl (.float .f64 a0_0)), (Vl (.float .f64 a0_1)), (Vl (.float .f64 a0_2))]) rfl) rfl rfl (wt_none' rfl) ?_
  obtain ⟨r4, hr4, hp⟩ := bind_some hp
  refine sx_ox' (ox_calln' (ent_fn' Try.func49 isn49 rfl rfl) (impl_vec3_sim _ _ _ hr4 : Go.Sx.Fn Try.prog 49 [(Ag [(Vl (.float .f64 a0_0)), (Vl (.float .f64 a0_1)), (Vl (.float .f64 a0_2))])] [] (fun x : Unit => (Ag [(Vl (.float .f64 r4.1)), (Vl (.float .f64 r4.2.1)), (Vl (.float .f64 r4.2.2))])) (fun x => [])) (Hn := fun x : Unit => [⟨.pointer (some q1), [(Vl (.float .f64 a0_0)), (Vl (.float .f64 a0_1)), (Vl (.float .f64 a0_2))], 53, none⟩]) (fun _ => rfl) rfl rfl) (wt_none' rfl) fun ⟨⟩ => ?_
  obtain ⟨r5, hr5, hp⟩ := bind_some hp
  refine sx_ox' (ox_calln' (ent_fn' Try.func48 isn48 rfl rfl) (r3_Norm_sim _ _ _ hr5 : Go.Sx.Fn Try.prog 48 [(Ag [(Vl (.float .f64 r4.1)), (Vl (.float .f64 r4.2.1)), (Vl (.float .f64 r4.2.2))])] [] (fun x : Unit => (Vl (.float .f64 r5))) (fun x => [])) (Hn := fun x : Unit => [⟨.pointer (some q1), [(Vl (.float .f64 a0_0)), (Vl (.float .f64 a0_1)), (Vl (.float .f64 a0_2))], 53, none⟩]) (fun _ => rfl) rfl rfl) (wt_none' rfl) fun ⟨⟩ => ?_
  refine sx_rd' (rd_assign' rfl) rfl rfl (wt_none' rfl) ?_
  refine sx_nil' ?_
  show TX E K2 _
  refine tx_k' hK2 ?_
  refine cx_retc' ?_
  replace hp := Option.some.inj hp
  subst hp
  refine tx_pick' (L' := [(2, (Vl (.float .f64 r5)))]) (H' := []) [] (sub_cons rfl sub_nil) (by decide) pick_nil ?_
  exact tx_ret1' Try.results25 rfl () (rv_tmp' rfl) (List.Sublist.refl _)

def spec_Finite (k : Nat) (a0 : Nat) : Option (Bool) :=
  (some (gsub a0 a0)) >>= fun r5 =>
  some (feq r5 0)

theorem spec_Finite_sim {k : Nat}  (a0 : Nat) {out : Bool} (hp : spec_Finite k a0 = some out) : Go.Sx.Fn Try.prog 17 [(Vl (.float .f64 a0))] [] (fun w : Unit => (Vl (.bool out))) (fun w => []) := by
  unfold spec_Finite at hp
  refine fn_of Try.func17 rfl Try.ntmps17 rfl fun E hM => ?_
  refine cx_seq' fun K1 hK1 => ?_
  refine cx_region' ?_
  refine sx_rd' (rd_assign' rfl) rfl rfl (wt_none' rfl) ?_
  refine sx_nil' ?_
  show TX E K1 _
  refine tx_k' hK1 ?_
  refine cx_seq' fun K2 hK2 => ?_
  refine cx_region' ?_
  refine sx_rd' (rd_move' rfl) rfl rfl (wt_none' rfl) ?_
  refine sx_rd' (rd_move' rfl) rfl rfl (wt_none' rfl) ?_
  obtain ⟨r5, hr5, hp⟩ := bind_some hp
  refine sx_ox' (ox_fop' (.inr (.inl rfl)) (fl_v rfl) (fl_v rfl) (Option.some.inj hr5) rfl rfl) (wt_none' rfl) fun _ => ?_
  refine sx_rd' (rd_fcmp' (fl_f rfl) (fl_v rfl) rfl) rfl rfl (wt_none' rfl) ?_
  refine sx_rd' (rd_assign' rfl) rfl rfl (wt_none' rfl) ?_
  refine sx_nil' ?_
  show TX E K2 _
  refine tx_k' hK2 ?_
  refine cx_retc' ?_
  replace hp := Option.some.inj hp
  subst hp
  refine tx_pick' (L' := [(2, (Vl (.bool (feq r5 0))))]) (H' := []) [] (sub_cons rfl sub_nil) (by decide) pick_nil ?_
  exact tx_ret1' Try.results17 rfl () (rv_tmp' rfl) (List.Sublist.refl _)

def spec_SquareN_l1s (a0 : List Nat) (a1 : List Nat) (k : Nat) (rec1 : (Nat × Int) → Option (Nat)) (x1 : Nat) (x2 : Int) : Option (Nat) :=
  br (decide (x2 < (a0.length : Int)))
    ((idx a0 x2) >>= fun r13 =>
    (idx a1 x2) >>= fun r19 =>
    (fsub r13 r19) >>= fun r21 =>
    (idx a1 x2) >>= fun r25 =>
    (fsub r13 r25) >>= fun r27 =>
    (fmul r21 r27) >>= fun r28 =>
    (fadd x1 r28) >>= fun r29 =>
    rec1 (r29, (iadd .i64 x2 1)))
    (some x1)
def spec_SquareN_l1 (a0 : List Nat) (a1 : List Nat) : Nat → (Nat × Int) → Option (Nat)
  | 0, _ => none
  | k + 1, v => spec_SquareN_l1s a0 a1 k (spec_SquareN_l1 a0 a1 k) v.1 v.2
def spec_SquareN (k : Nat) (a0 : List Nat) (a1 : List Nat) : Option (Nat) :=
  (spec_SquareN_l1 a0 a1 k (0, 0)) >>= fun v2 =>
  some v2

theorem spec_SquareN_sim {k : Nat}  (a0 : List Nat) (a1 : List Nat) {out : Nat} (hp : spec_SquareN k a0 a1 = some out) : Go.Sx.Fn Try.prog 12 [(Sl Kf a0), (Sl Kf a1)] [] (fun w : Unit => (Vl (.float .f64 out))) (fun w => []) := by
  unfold spec_SquareN at hp
  refine fn_of Try.func12 rfl Try.ntmps12 rfl fun E hM => ?_
  refine cx_seq' fun K1 hK1 => ?_
  refine cx_region' ?_
  refine sx_rd' (rd_assign' rfl) rfl rfl (wt_none' rfl) ?_
  refine sx_nil' ?_
  show TX E K1 _
  refine tx_k' hK1 ?_
  refine cx_seq' fun K2 hK2 => ?_
  refine cx_region' ?_
  refine sx_rd' (rd_assign' rfl) rfl rfl (wt_none' rfl) ?_
  refine sx_nil' ?_
  show TX E K2 _
  refine tx_k' hK2 ?_
  refine cx_seq' fun K3 hK3 => ?_
  refine cx_seq' fun K4 hK4 => ?_
  refine cx_region' ?_
  refine sx_rd' (rd_move' rfl) rfl rfl (wt_none' rfl) ?_
  refine sx_rd' (rd_len' rfl Try.underlying29) rfl rfl (wt_none' rfl) ?_
  refine sx_rd' (rd_move' rfl) rfl rfl (wt_none' rfl) ?_
  refine sx_nil' ?_
  show TX E K4 _
  refine tx_k' hK4 ?_
  refine cx_block' ?_
  obtain ⟨v2, hy1, hp⟩ := bind_some hp
  refine cx_loopg' (F := spec_SquareN_l1 a0 a1) (G := fun k R v => spec_SquareN_l1s a0 a1 k R v.1 v.2) (x := (0, 0)) (gh := ()) (fun (v1 : Nat × Int) (w1 : Unit) => (⟨32, [], [(1, (Sl Kf a1)), (5, (Vl (.float .f64 v1.1))), (8, (Sl Kf a0)), (9, (Vl (.int .i64 (a0.length : Int)))), (10, (Vl (.int .i64 v1.2)))], []⟩ : St)) (fun (v2 : Nat) => Zg E (Exit.exit 0) (fun (w2 : Unit) => (⟨32, [], [(5, (Vl (.float .f64 v2)))], []⟩ : St))) (fun _ => rfl) (fun _ _ => rfl) ?_ hy1 (tx_to' rfl [] (sub_cons rfl (sub_cons rfl (sub_cons rfl (sub_cons rfl (sub_cons rfl sub_nil))))) (by decide) pick_nil) ?_
  · clear hp hy1
    clear v2
    intro k rec1 KY1 ih1
    rintro ⟨x1, x2⟩ ⟨⟩ y1 hp
    replace hp : spec_SquareN_l1s a0 a1 k rec1 x1 x2 = some y1 := hp
    unfold spec_SquareN_l1s at hp
    refine cx_seq' fun K9 hK9 => ?_
    refine cx_region' ?_
    refine sx_rd' (rd_bin' rfl rfl eg_int ru_lss) rfl rfl (wt_none' rfl) ?_
    refine sx_nil' ?_
    show TX E K9 _
    refine tx_k' hK9 ?_
    refine cx_seq' fun K10 hK10 => ?_
    refine cx_cond' rfl (fun h3 => ?_) (fun h3 => ?_)
    · replace hp := (br_t h3).symm.trans hp
      refine cx_skip' ?_
      show TX E K10 _
      refine tx_k' hK10 ?_
      refine cx_seq' fun K11 hK11 => ?_
      refine cx_block' ?_
      refine cx_seq' fun K12 hK12 => ?_
      refine cx_region' ?_
      refine sx_rd' (rd_move' rfl) rfl rfl (wt_none' rfl) ?_
      obtain ⟨r13, hr13, hp⟩ := bind_some hp
      refine sx_rd' (rd_at' (K := Kf) rfl rfl hr13 Try.underlying29 info22) rfl rfl (wt_none' rfl) ?_
      refine sx_rd' (rd_load_pt' rfl rfl flat22) rfl rfl (wt_none' rfl) ?_
      refine sx_rd' (rd_assign' rfl) rfl rfl (wt_none' rfl) ?_
      refine sx_rd' (rd_assign' rfl) rfl rfl (wt_none' rfl) ?_
      refine sx_nil' ?_
      show TX E K12 _
      refine tx_k' hK12 ?_
      refine cx_draw' mixed (by kernel_rfl) ?_
      refine qx_rd' (rd_move' rfl) rfl rfl (wt_none' rfl) ?_
      refine qx_rd' (rd_move' rfl) rfl rfl (wt_none' rfl) ?_
      refine qx_rd' (rd_move' rfl) rfl rfl (wt_none' rfl) ?_
      refine qx_rd' (rd_move' rfl) rfl rfl (wt_none' rfl) ?_
      obtain ⟨r19, hr19, hp⟩ := bind_some hp
      refine qx_rd' (rd_at' (K := Kf) rfl rfl hr19 Try.underlying29 info22) rfl rfl (wt_none' rfl) ?_
      refine qx_rd' (rd_load_pt' rfl rfl flat22) rfl rfl (wt_none' rfl) ?_
      obtain ⟨r21, hr21, hp⟩ := bind_some hp
      refine qx_rd' (rd_bin' rfl rfl eg_flt (ru_fsub hr21)) rfl rfl (wt_none' rfl) ?_
      refine qx_rd' (rd_move' rfl) rfl rfl (wt_none' rfl) ?_
      refine qx_rd' (rd_move' rfl) rfl rfl (wt_none' rfl) ?_
      refine qx_rd' (rd_move' rfl) rfl rfl (wt_none' rfl) ?_
      obtain ⟨r25, hr25, hp⟩ := bind_some hp
      refine qx_rd' (rd_at' (K := Kf) rfl rfl hr25 Try.underlying29 info22) rfl rfl (wt_none' rfl) ?_
      refine qx_rd' (rd_load_pt' rfl rfl flat22) rfl rfl (wt_none' rfl) ?_
      obtain ⟨r27, hr27, hp⟩ := bind_some hp
      refine qx_rd' (rd_bin' rfl rfl eg_flt (ru_fsub hr27)) rfl rfl (wt_none' rfl) ?_
      obtain ⟨r28, hr28, hp⟩ := bind_some hp
      refine qx_rd' (rd_bin' rfl rfl eg_flt (ru_fmul hr28)) rfl rfl (wt_none' rfl) ?_
      obtain ⟨r29, hr29, hp⟩ := bind_some hp
      refine qx_rd' (rd_bin' rfl rfl eg_flt (ru_fadd hr29)) rfl rfl (wt_none' rfl) ?_
      refine qx_rd' (rd_assign' rfl) rfl rfl (wt_none' rfl) ?_
      refine qx_nil' ?_
      show TX E K11 _
      refine tx_k' hK11 ?_
      refine cx_region' ?_
      refine sx_rd' (rd_bin' rfl rfl eg_int ru_add) rfl rfl (wt_none' rfl) ?_
      refine sx_rd' (rd_move' rfl) rfl rfl (wt_none' rfl) ?_
      refine sx_nil' ?_
      show TX E (KY1 _) _
      exact tx_pick' [] (sub_cons rfl (sub_cons rfl (sub_cons rfl (sub_cons rfl (sub_cons rfl sub_nil))))) (by decide) pick_nil (ih1 (r29, (iadd .i64 x2 1)) () _ hp)
    · replace hp := (br_f h3).symm.trans hp
      refine cx_exit' ?_
      replace hp := Option.some.inj hp
      subst hp
      show TX E (Zg E (Exit.exit 0) _ (Exit.exit 0)) _
      exact tx_zend' () rfl [] (sub_cons rfl sub_nil) (by decide) pick_nil
  · refine zg_out fun w2 => ?_
    show TX E K3 _
    refine tx_k' hK3 ?_
    refine cx_seq' fun K13 hK13 => ?_
    refine cx_region' ?_
    refine sx_rd' (rd_move' rfl) rfl rfl (wt_none' rfl) ?_
    refine sx_rd' (rd_assign' rfl) rfl rfl (wt_none' rfl) ?_
    refine sx_nil' ?_
    show TX E K13 _
    refine tx_k' hK13 ?_
    refine cx_retc' ?_
    replace hp := Option.some.inj hp
    subst hp
    refine tx_pick' (L' := [(4, (Vl (.float .f64 v2)))]) (H' := []) [] (sub_cons rfl sub_nil) (by decide) pick_nil ?_
    exact tx_ret1' Try.results12 rfl () (rv_tmp' rfl) (List.Sublist.refl _)

def spec_trim_j2 (k : Nat) (x3 : List Int) (rec1 : (List Int) → Option ((List Int))) (x2 : Bool) : Option ((List Int)) :=
  br x2
    ((cut x3 0 (isub .i64 (x3.length : Int) 1)) >>= fun r19 =>
    rec1 r19)
    (some x3)
def spec_trim_l1s  (k : Nat) (rec1 : (List Int) → Option ((List Int))) (x3 : List Int) : Option ((List Int)) :=
  br (decide (0 < (x3.length : Int)))
    ((idx x3 (isub .i64 (x3.length : Int) 1)) >>= fun r11 =>
    spec_trim_j2 k x3 rec1 (decide (r11 = 0)))
    (spec_trim_j2 k x3 rec1 false)
def spec_trim_l1  : Nat → (List Int) → Option ((List Int))
  | 0, _ => none
  | k + 1, v => spec_trim_l1s k (spec_trim_l1 k) v
def spec_trim (k : Nat) (a0 : List Int) : Option ((List Int)) :=
  (spec_trim_l1 k a0) >>= fun v4 =>
  some v4

theorem spec_trim_sim {k : Nat}  (a0 : List Int) {out : (List Int)} (hp : spec_trim k a0 = some out) : Go.Sx.Fn Try.prog 59 [(Sl (Ki .u32) a0)] [] (fun w : Unit => (Sl (Ki .u32) out)) (fun w => []) := by
  unfold spec_trim at hp
  refine fn_of Try.func59 rfl Try.ntmps59 rfl fun E hM => ?_
  refine cx_seq' fun K1 hK1 => ?_
  refine cx_region' ?_
  refine sx_rd' (rd_assign' rfl) rfl rfl (wt_none' rfl) ?_
  refine sx_nil' ?_
  show TX E K1 _
  refine tx_k' hK1 ?_
  refine cx_seq' fun K2 hK2 => ?_
  refine cx_block' ?_
  obtain ⟨v4, hy1, hp⟩ := bind_some hp
  refine cx_loopg' (F := spec_trim_l1) (G := fun k R v => spec_trim_l1s k R v) (x := a0) (gh := ()) (fun (v2 : (List Int)) (w2 : Unit) => (⟨21, [], [(0, (Sl (Ki .u32) v2))], []⟩ : St)) (fun (v4 : (List Int)) => Zg E (Exit.exit 0) (fun (w4 : Unit) => (⟨21, [], [(0, (Sl (Ki .u32) v4))], []⟩ : St))) (fun _ => rfl) (fun _ _ => rfl) ?_ hy1 (tx_to' rfl [] (sub_cons rfl sub_nil) (by decide) pick_nil) ?_
  · clear hp hy1
    clear v4
    intro k rec1 KY1 ih1
    rintro x3 ⟨⟩ y1 hp
    replace hp : spec_trim_l1s k rec1 x3 = some y1 := hp
    unfold spec_trim_l1s at hp
    refine cx_seq' fun K6 hK6 => ?_
    refine cx_seq' fun K7 hK7 => ?_
    refine cx_region' ?_
    refine sx_rd' (rd_move' rfl) rfl rfl (wt_none' rfl) ?_
    refine sx_rd' (rd_len' rfl Try.underlying41) rfl rfl (wt_none' rfl) ?_
    refine sx_rd' (rd_bin' rfl rfl eg_int ru_gtr) rfl rfl (wt_none' rfl) ?_
    refine sx_rd' (rd_move' rfl) rfl rfl (wt_none' rfl) ?_
    refine sx_cutn' 8 (fun (v3 : Bool) => (⟨21, [], [(0, (Sl (Ki .u32) x3)), (14, (Vl (.bool v3)))], []⟩ : St)) (fun (v3 : Bool) => spec_trim_j2 k x3 rec1 v3 = some y1) ?_ ?_
    · rintro x2 hp
      replace hp : spec_trim_j2 k x3 rec1 x2 = some y1 := hp
      unfold spec_trim_j2 at hp
      refine sx_nil' ?_
      show TX E K7 _
      refine tx_k' hK7 ?_
      refine cx_cond' rfl (fun h5 => ?_) (fun h5 => ?_)
      · replace hp := (br_t h5).symm.trans hp
        refine cx_skip' ?_
        show TX E K6 _
        refine tx_k' hK6 ?_
        refine cx_block' ?_
        refine cx_region' ?_
        refine sx_rd' (rd_move' rfl) rfl rfl (wt_none' rfl) ?_
        refine sx_rd' (rd_move' rfl) rfl rfl (wt_none' rfl) ?_
        refine sx_rd' (rd_len' rfl Try.underlying41) rfl rfl (wt_none' rfl) ?_
        refine sx_rd' (rd_bin' rfl rfl eg_int ru_sub) rfl rfl (wt_none' rfl) ?_
        obtain ⟨r19, hr19, hp⟩ := bind_some hp
        refine sx_rd' (rd_cut_h' rfl rfl hr19 Try.underlying41 info99) rfl rfl (wt_none' rfl) ?_
        refine sx_rd' (rd_assign' rfl) rfl rfl (wt_none' rfl) ?_
        refine sx_nil' ?_
        show TX E (KY1 _) _
        exact tx_pick' [] (sub_cons rfl sub_nil) (by decide) pick_nil (ih1 r19 () _ hp)
      · replace hp := (br_f h5).symm.trans hp
        refine cx_exit' ?_
        replace hp := Option.some.inj hp
        subst hp
        show TX E (Zg E (Exit.exit 0) _ (Exit.exit 0)) _
        exact tx_zend' () rfl [] (sub_cons rfl sub_nil) (by decide) pick_nil
    · intro K8 hK8
      rcases br_cases hp with ⟨h4, hp⟩ | ⟨h4, hp⟩
      · refine sx_rd' (rd_move' rfl) rfl rfl (wt_is' (wt_guard' rfl rfl rfl) (beq_tt h4)) ?_
        refine sx_rd' (rd_move' rfl) rfl rfl (wt_is' (wt_guard' rfl rfl rfl) (beq_tt h4)) ?_
        refine sx_rd' (rd_len' rfl Try.underlying41) rfl rfl (wt_is' (wt_guard' rfl rfl rfl) (beq_tt h4)) ?_
        refine sx_rd' (rd_bin' rfl rfl eg_int ru_sub) rfl rfl (wt_is' (wt_guard' rfl rfl rfl) (beq_tt h4)) ?_
        obtain ⟨r11, hr11, hp⟩ := bind_some hp
        refine sx_rd' (rd_at' (K := (Ki .u32)) rfl rfl hr11 Try.underlying41 info99) rfl rfl (wt_is' (wt_guard' rfl rfl rfl) (beq_tt h4)) ?_
        refine sx_rd' (rd_load_pt' rfl rfl flat99) rfl rfl (wt_is' (wt_guard' rfl rfl rfl) (beq_tt h4)) ?_
        refine sx_rd' (rd_bin' rfl rfl eg_int ru_eql) rfl rfl (wt_is' (wt_guard' rfl rfl rfl) (beq_tt h4)) ?_
        refine sx_rd' (rd_pick_true' rfl h4 rfl) rfl rfl (wt_none' rfl) ?_
        refine sx_nil' ?_
        show TX E K8 _
        exact tx_pick' [] (sub_cons rfl (sub_cons rfl sub_nil)) (by decide) pick_nil (hK8 (decide (r11 = 0)) hp)
      · refine sx_skip' rfl rfl (wt_is' (wt_guard' rfl rfl rfl) (beq_ft h4)) ?_
        refine sx_skip' rfl rfl (wt_is' (wt_guard' rfl rfl rfl) (beq_ft h4)) ?_
        refine sx_skip' rfl rfl (wt_is' (wt_guard' rfl rfl rfl) (beq_ft h4)) ?_
        refine sx_skip' rfl rfl (wt_is' (wt_guard' rfl rfl rfl) (beq_ft h4)) ?_
        refine sx_skip' rfl rfl (wt_is' (wt_guard' rfl rfl rfl) (beq_ft h4)) ?_
        refine sx_skip' rfl rfl (wt_is' (wt_guard' rfl rfl rfl) (beq_ft h4)) ?_
        refine sx_skip' rfl rfl (wt_is' (wt_guard' rfl rfl rfl) (beq_ft h4)) ?_
        refine sx_rd' (rd_pick_false' rfl h4 rfl) rfl rfl (wt_none' rfl) ?_
        refine sx_nil' ?_
        show TX E K8 _
        exact tx_pick' [] (sub_cons rfl (sub_cons rfl sub_nil)) (by decide) pick_nil (hK8 false hp)
  · refine zg_out fun w4 => ?_
    show TX E K2 _
    refine tx_k' hK2 ?_
    refine cx_seq' fun K9 hK9 => ?_
    refine cx_region' ?_
    refine sx_rd' (rd_move' rfl) rfl rfl (wt_none' rfl) ?_
    refine sx_rd' (rd_assign' rfl) rfl rfl (wt_none' rfl) ?_
    refine sx_nil' ?_
    show TX E K9 _
    refine tx_k' hK9 ?_
    refine cx_retc' ?_
    replace hp := Option.some.inj hp
    subst hp
    refine tx_pick' (L' := [(2, (Sl (Ki .u32) v4))]) (H' := []) [] (sub_cons rfl sub_nil) (by decide) pick_nil ?_
    exact tx_ret1' Try.results59 rfl () (rv_tmp' rfl) (List.Sublist.refl _)

def spec_WholeOf_j1 (k : Nat) (a0 : Int) (x1 : Int) : Option (Bool × (List Int)) :=
  (ishr .u64 x1 32) >>= fun r15 =>
  (spec_trim k ([icv .u32 x1, icv .u32 r15])) >>= fun r18 =>
  some (decide (a0 < 0), r18)
def spec_WholeOf (k : Nat) (a0 : Int) : Option (Bool × (List Int)) :=
  br (decide (a0 < 0))
    (spec_WholeOf_j1 k a0 (isub .u64 0 (icv .u64 a0)))
    (spec_WholeOf_j1 k a0 (icv .u64 a0))

theorem spec_WholeOf_sim {k : Nat}  (a0 : Int) {out : Bool × (List Int)} (hp : spec_WholeOf k a0 = some out) : Go.Sx.Fn Try.prog 43 [(Vl (.int .i64 a0))] [] (fun w : Unit => (Ag [(Vl (.bool out.1)), (Sl (Ki .u32) out.2)])) (fun w => []) := by
  unfold spec_WholeOf at hp
  refine fn_of Try.func43 rfl Try.ntmps43 rfl fun E hM => ?_
  refine cx_seq' fun K1 hK1 => ?_
  refine cx_region' ?_
  refine sx_ox' (ox_alloc' info43 rfl rfl rfl rfl (l := [(Vl (.bool false)), (Vl (.slice none 0 0))]) rfl) (wt_none' rfl) fun q2 => ?_
  refine sx_nil' ?_
  show TX E K1 _
  refine tx_k' hK1 ?_
  refine cx_seq' fun K2 hK2 => ?_
  refine cx_region' ?_
  refine sx_rd' (rd_move' rfl) rfl rfl (wt_none' rfl) ?_
  refine sx_rd' (rd_conv' rfl (ru_i2i (by rw [Try.underlying2]; rfl) Try.underlying73)) rfl rfl (wt_none' rfl) ?_
  refine sx_rd' (rd_assign' rfl) rfl rfl (wt_none' rfl) ?_
  refine sx_nil' ?_
  show TX E K2 _
  refine tx_k' hK2 ?_
  refine cx_join' (fun (v1 : Int) => (⟨20, [], [(0, (Vl (.int .i64 a0))), (2, (Vl (.pointer (some q2)))), (3, (Vl (.int .u64 v1)))], [⟨.pointer (some q2), [(Vl (.bool false)), (Vl (.slice none 0 0))], 43, none⟩]⟩ : St)) (fun (v1 : Int) => spec_WholeOf_j1 k a0 v1 = some out) ?_ ?_
  · rintro x1 hp
    replace hp : spec_WholeOf_j1 k a0 x1 = some out := hp
    unfold spec_WholeOf_j1 at hp
    refine cx_seq' fun K5 hK5 => ?_
    refine cx_region' ?_
    refine sx_rd' (rd_move' rfl) rfl rfl (wt_none' rfl) ?_
    refine sx_rd' (rd_bin' rfl rfl eg_int ru_lss) rfl rfl (wt_none' rfl) ?_
    refine sx_rd' (rd_move' rfl) rfl rfl (wt_none' rfl) ?_
    refine sx_rd' (rd_conv' rfl (ru_i2i (by rw [Try.underlying73]; rfl) Try.underlying99)) rfl rfl (wt_none' rfl) ?_
    refine sx_rd' (rd_move' rfl) rfl rfl (wt_none' rfl) ?_
    obtain ⟨r15, hr15, hp⟩ := bind_some hp
    refine sx_rd' (rd_bin' rfl rfl eg_int (ru_shr hr15)) rfl rfl (wt_none' rfl) ?_
    refine sx_rd' (rd_conv' rfl (ru_i2i (by rw [Try.underlying73]; rfl) Try.underlying99)) rfl rfl (wt_none' rfl) ?_
    refine sx_ox' (ox_rowlit' (K := (Ki .u32)) (xs := [icv .u32 x1, icv .u32 r15]) (qs := [(0, [(Vl (.int .u32 (icv .u32 x1)))]), (1, [(Vl (.int .u32 (icv .u32 r15)))])]) ⟨rfl, ⟨_, rfl, (lv_vl rfl rfl)⟩, ⟨rfl, ⟨_, rfl, (lv_vl rfl rfl)⟩, trivial⟩⟩ Try.underlying41 info99 rfl rfl rfl rfl rfl (by kernel_rfl) rfl rfl rfl) (wt_none' rfl) fun g17 => ?_
    refine tx_fz' (frz_row 0 [(17, (Vl (Vs g17)), (Sl (Ki .u32) ([icv .u32 x1, icv .u32 r15])))] (K := (Ki .u32)) (xs := [icv .u32 x1, icv .u32 r15]) (by decide) rfl ⟨⟨rfl, frz_it⟩, trivial⟩ (H' := [⟨.pointer (some q2), [(Vl (.bool false)), (Vl (.slice none 0 0))], 43, none⟩]) frzH_refl) ?_
    obtain ⟨r18, hr18, hp⟩ := bind_some hp
    refine sx_ox' (ox_calln' (ent_fn' Try.func59 isn59 rfl rfl) (spec_trim_sim _ hr18 : Go.Sx.Fn Try.prog 59 [(Sl (Ki .u32) ([icv .u32 x1, icv .u32 r15]))] [] (fun x : Unit => (Sl (Ki .u32) r18)) (fun x => [])) (Hn := fun x : Unit => [⟨.pointer (some q2), [(Vl (.bool false)), (Vl (.slice none 0 0))], 43, none⟩]) (fun _ => rfl) rfl rfl) (wt_none' rfl) fun ⟨⟩ => ?_
    refine sx_rd' (rd_build' (pls := [(0, 1), (1, 1)]) (qs := [(0, [(Vl (.bool (decide (a0 < 0))))]), (1, [(Sl (Ki .u32) r18)])]) (r := [(Vl (.bool (decide (a0 < 0)))), (Sl (Ki .u32) r18)]) ⟨rfl, ⟨_, rfl, (lv_vl rfl rfl)⟩, ⟨rfl, ⟨_, rfl, (lv_sl _ _)⟩, trivial⟩⟩ Try.underlying43 has43 places43 info43 rfl rfl rfl) rfl rfl (wt_none' rfl) ?_
    refine sx_ox' (ox_store' (i := 0) (o := 0) rfl rfl (lv_ag _) ⟨rfl, rfl, rfl, rfl⟩ rfl info43 rfl (H' := [⟨.pointer (some q2), [(Vl (.bool (decide (a0 < 0)))), (Sl (Ki .u32) r18)], 43, none⟩]) rfl) (wt_none' rfl) fun _ => ?_
    refine sx_nil' ?_
    show TX E K5 _
    refine tx_k' hK5 ?_
    refine cx_retc' ?_
    replace hp := Option.some.inj hp
    subst hp
    refine tx_pick' (L' := [(2, (Vl (.pointer (some q2))))]) (H' := [⟨.pointer (some q2), [(Vl (.bool (decide (a0 < 0)))), (Sl (Ki .u32) r18)], 43, none⟩]) [0] (sub_cons rfl sub_nil) (by decide) (pick_cons rfl pick_nil) ?_
    exact tx_ret1' Try.results43 rfl () (rv_cell_agg' (i := 0) (o := 0) (nn := 2) rfl ⟨rfl, rfl, rfl, rfl⟩ rfl agg43 rfl) (List.nil_sublist _)
  · intro K3 hK3
    refine cx_seq' fun K4 hK4 => ?_
    refine cx_region' ?_
    refine sx_rd' (rd_move' rfl) rfl rfl (wt_none' rfl) ?_
    refine sx_rd' (rd_bin' rfl rfl eg_int ru_lss) rfl rfl (wt_none' rfl) ?_
    refine sx_nil' ?_
    show TX E K4 _
    refine tx_k' hK4 ?_
    refine cx_cond' rfl (fun h1 => ?_) (fun h1 => ?_)
    · replace hp := (br_t h1).symm.trans hp
      refine cx_region' ?_
      refine sx_rd' (rd_move' rfl) rfl rfl (wt_none' rfl) ?_
      refine sx_rd' (rd_un' rfl ru_ineg) rfl rfl (wt_none' rfl) ?_
      refine sx_rd' (rd_assign' rfl) rfl rfl (wt_none' rfl) ?_
      refine sx_nil' ?_
      show TX E K3 _
      exact tx_pick' [0] (sub_cons rfl (sub_cons rfl (sub_cons rfl sub_nil))) (by decide) (pick_cons rfl pick_nil) (hK3 (isub .u64 0 (icv .u64 a0)) hp)
    · replace hp := (br_f h1).symm.trans hp
      refine cx_skip' ?_
      show TX E K3 _
      exact tx_pick' [0] (sub_cons rfl (sub_cons rfl (sub_cons rfl sub_nil))) (by decide) (pick_cons rfl pick_nil) (hK3 (icv .u64 a0) hp)

def spec_DyadicOf_j2 (k : Nat) (x2 : Int) (x3 : Int) : Option (Bool × (List Int) × Int) :=
  (spec_WholeOf k x3) >>= fun r29 =>
  some (r29.1, r29.2, isub .i64 x2 1075)
def spec_DyadicOf_j1 (k : Nat) (a0 : Nat) (x1 : Int) (x2 : Int) : Option (Bool × (List Int) × Int) :=
  (ishr .u64 (fbits a0) 63) >>= fun r24 =>
  br (decide (r24 = 1))
    (spec_DyadicOf_j2 k x2 (isub .i64 0 x1))
    (spec_DyadicOf_j2 k x2 x1)
def spec_DyadicOf (k : Nat) (a0 : Nat) : Option (Bool × (List Int) × Int) :=
  (ishr .u64 (fbits a0) 52) >>= fun r12 =>
  br (decide ((icv .i64 (iand .u64 r12 2047)) = 2047))
    (some (false, [], 0))
    (br (decide ((icv .i64 (iand .u64 r12 2047)) = 0))
      (spec_DyadicOf_j1 k a0 (icv .i64 (iand .u64 (fbits a0) 4503599627370495)) 1)
      (spec_DyadicOf_j1 k a0 (iadd .i64 (icv .i64 (iand .u64 (fbits a0) 4503599627370495)) 4503599627370496) (icv .i64 (iand .u64 r12 2047))))

theorem spec_DyadicOf_sim {k : Nat}  (a0 : Nat) {out : Bool × (List Int) × Int} (hp : spec_DyadicOf k a0 = some out) : Go.Sx.Fn Try.prog 18 [(Vl (.float .f64 a0))] [] (fun w : Unit => (Ag [(Vl (.bool out.1)), (Sl (Ki .u32) out.2.1), (Vl (.int .i64 out.2.2))])) (fun w => []) := by
  unfold spec_DyadicOf at hp
  refine fn_of Try.func18 rfl Try.ntmps18 rfl fun E hM => ?_
  refine cx_seq' fun K1 hK1 => ?_
  refine cx_region' ?_
  refine sx_ox' (ox_alloc' info45 rfl rfl rfl rfl (l := [(Vl (.bool false)), (Vl (.slice none 0 0)), (Vl (.int .i64 0))]) rfl) (wt_none' rfl) fun q2 => ?_
  refine sx_nil' ?_
  show TX E K1 _
  refine tx_k' hK1 ?_
  refine cx_seq' fun K2 hK2 => ?_
  refine cx_region' ?_
  refine sx_rd' (rd_move' rfl) rfl rfl (wt_none' rfl) ?_
  refine sx_rd' (rd_ext' (us := [.float .f64 a0]) rfl (ext41 ex_bits)) rfl rfl (wt_none' rfl) ?_
  refine sx_rd' (rd_assign' rfl) rfl rfl (wt_none' rfl) ?_
  refine sx_nil' ?_
  show TX E K2 _
  refine tx_k' hK2 ?_
  refine cx_seq' fun K3 hK3 => ?_
  refine cx_region' ?_
  refine sx_rd' (rd_move' rfl) rfl rfl (wt_none' rfl) ?_
  refine sx_rd' (rd_bin' rfl rfl eg_int ru_and) rfl rfl (wt_none' rfl) ?_
  refine sx_rd' (rd_conv' rfl (ru_i2i (by rw [Try.underlying73]; rfl) Try.underlying2)) rfl rfl (wt_none' rfl) ?_
  refine sx_rd' (rd_move' rfl) rfl rfl (wt_none' rfl) ?_
  obtain ⟨r12, hr12, hp⟩ := bind_some hp
  refine sx_rd' (rd_bin' rfl rfl eg_int (ru_shr hr12)) rfl rfl (wt_none' rfl) ?_
  refine sx_rd' (rd_bin' rfl rfl eg_int ru_and) rfl rfl (wt_none' rfl) ?_
  refine sx_rd' (rd_conv' rfl (ru_i2i (by rw [Try.underlying73]; rfl) Try.underlying3)) rfl rfl (wt_none' rfl) ?_
  refine sx_rd' (rd_assign' rfl) rfl rfl (wt_none' rfl) ?_
  refine sx_rd' (rd_assign' rfl) rfl rfl (wt_none' rfl) ?_
  refine sx_nil' ?_
  show TX E K3 _
  refine tx_k' hK3 ?_
  refine cx_join' (fun (v1 : Int × Int) => (⟨33, [], [(2, (Vl (.pointer (some q2)))), (3, (Vl (.int .u64 (fbits a0)))), (4, (Vl (.int .i64 v1.1))), (5, (Vl (.int .i64 v1.2)))], [⟨.pointer (some q2), [(Vl (.bool false)), (Vl (.slice none 0 0)), (Vl (.int .i64 0))], 45, none⟩]⟩ : St)) (fun (v1 : Int × Int) => spec_DyadicOf_j1 k a0 v1.1 v1.2 = some out) ?_ ?_
  · rintro ⟨x1, x2⟩ hp
    replace hp : spec_DyadicOf_j1 k a0 x1 x2 = some out := hp
    unfold spec_DyadicOf_j1 at hp
    refine cx_join' (fun (v2 : Int) => (⟨33, [], [(2, (Vl (.pointer (some q2)))), (4, (Vl (.int .i64 v2))), (5, (Vl (.int .i64 x2)))], [⟨.pointer (some q2), [(Vl (.bool false)), (Vl (.slice none 0 0)), (Vl (.int .i64 0))], 45, none⟩]⟩ : St)) (fun (v2 : Int) => spec_DyadicOf_j2 k x2 v2 = some out) ?_ ?_
    · rintro x3 hp
      replace hp : spec_DyadicOf_j2 k x2 x3 = some out := hp
      unfold spec_DyadicOf_j2 at hp
      refine cx_seq' fun K11 hK11 => ?_
      refine cx_region' ?_
      refine sx_rd' (rd_move' rfl) rfl rfl (wt_none' rfl) ?_
      obtain ⟨r29, hr29, hp⟩ := bind_some hp
      refine sx_ox' (ox_calln' (ent_fn' Try.func43 isn43 rfl rfl) (spec_WholeOf_sim _ hr29 : Go.Sx.Fn Try.prog 43 [(Vl (.int .i64 x3))] [] (fun x : Unit => (Ag [(Vl (.bool r29.1)), (Sl (Ki .u32) r29.2)])) (fun x => [])) (Hn := fun x : Unit => [⟨.pointer (some q2), [(Vl (.bool false)), (Vl (.slice none 0 0)), (Vl (.int .i64 0))], 45, none⟩]) (fun _ => rfl) rfl rfl) (wt_none' rfl) fun ⟨⟩ => ?_
      refine sx_rd' (rd_move' rfl) rfl rfl (wt_none' rfl) ?_
      refine sx_rd' (rd_bin' rfl rfl eg_int ru_sub) rfl rfl (wt_none' rfl) ?_
      refine sx_rd' (rd_build' (pls := [(0, 2), (2, 1)]) (qs := [(0, [(Vl (.bool r29.1)), (Sl (Ki .u32) r29.2)]), (1, [(Vl (.int .i64 (isub .i64 x2 1075)))])]) (r := [(Vl (.bool r29.1)), (Sl (Ki .u32) r29.2), (Vl (.int .i64 (isub .i64 x2 1075)))]) ⟨rfl, ⟨_, rfl, (lv_ag _)⟩, ⟨rfl, ⟨_, rfl, (lv_vl rfl rfl)⟩, trivial⟩⟩ Try.underlying45 has45 places45 info45 rfl rfl rfl) rfl rfl (wt_none' rfl) ?_
      refine sx_ox' (ox_store' (i := 0) (o := 0) rfl rfl (lv_ag _) ⟨rfl, rfl, rfl, rfl⟩ rfl info45 rfl (H' := [⟨.pointer (some q2), [(Vl (.bool r29.1)), (Sl (Ki .u32) r29.2), (Vl (.int .i64 (isub .i64 x2 1075)))], 45, none⟩]) rfl) (wt_none' rfl) fun _ => ?_
      refine sx_nil' ?_
      show TX E K11 _
      refine tx_k' hK11 ?_
      refine cx_retc' ?_
      replace hp := Option.some.inj hp
      subst hp
      refine tx_pick' (L' := [(2, (Vl (.pointer (some q2))))]) (H' := [⟨.pointer (some q2), [(Vl (.bool r29.1)), (Sl (Ki .u32) r29.2), (Vl (.int .i64 (isub .i64 x2 1075)))], 45, none⟩]) [0] (sub_cons rfl sub_nil) (by decide) (pick_cons rfl pick_nil) ?_
      exact tx_ret1' Try.results18 rfl () (rv_cell_agg' (i := 0) (o := 0) (nn := 3) rfl ⟨rfl, rfl, rfl, rfl⟩ rfl agg45 rfl) (List.nil_sublist _)
    · intro K9 hK9
      refine cx_seq' fun K10 hK10 => ?_
      refine cx_region' ?_
      refine sx_rd' (rd_move' rfl) rfl rfl (wt_none' rfl) ?_
      obtain ⟨r24, hr24, hp⟩ := bind_some hp
      refine sx_rd' (rd_bin' rfl rfl eg_int (ru_shr hr24)) rfl rfl (wt_none' rfl) ?_
      refine sx_rd' (rd_bin' rfl rfl eg_int ru_eql) rfl rfl (wt_none' rfl) ?_
      refine sx_nil' ?_
      show TX E K10 _
      refine tx_k' hK10 ?_
      refine cx_cond' rfl (fun h3 => ?_) (fun h3 => ?_)
      · replace hp := (br_t h3).symm.trans hp
        refine cx_region' ?_
        refine sx_rd' (rd_move' rfl) rfl rfl (wt_none' rfl) ?_
        refine sx_rd' (rd_un' rfl ru_ineg) rfl rfl (wt_none' rfl) ?_
        refine sx_rd' (rd_assign' rfl) rfl rfl (wt_none' rfl) ?_
        refine sx_nil' ?_
        show TX E K9 _
        exact tx_pick' [0] (sub_cons rfl (sub_cons rfl (sub_cons rfl sub_nil))) (by decide) (pick_cons rfl pick_nil) (hK9 (isub .i64 0 x1) hp)
      · replace hp := (br_f h3).symm.trans hp
        refine cx_skip' ?_
        show TX E K9 _
        exact tx_pick' [0] (sub_cons rfl (sub_cons rfl (sub_cons rfl sub_nil))) (by decide) (pick_cons rfl pick_nil) (hK9 x1 hp)
  · intro K4 hK4
    refine cx_seq' fun K5 hK5 => ?_
    refine cx_region' ?_
    refine sx_rd' (rd_move' rfl) rfl rfl (wt_none' rfl) ?_
    refine sx_nil' ?_
    show TX E K5 _
    refine tx_k' hK5 ?_
    refine cx_block' ?_
    refine cx_seq' fun K6 hK6 => ?_
    refine cx_region' ?_
    refine sx_rd' (rd_bin' rfl rfl eg_int ru_eql) rfl rfl (wt_none' rfl) ?_
    refine sx_rd' (rd_assign' rfl) rfl rfl (wt_none' rfl) ?_
    refine sx_nil' ?_
    show TX E K6 _
    refine tx_k' hK6 ?_
    refine cx_cond' rfl (fun h1 => ?_) (fun h1 => ?_)
    · replace hp := (br_t h1).symm.trans hp
      refine cx_seq' fun K7 hK7 => ?_
      refine cx_region' ?_
      refine sx_rd' (rd_build' (pls := [(0, 2), (2, 1)]) (qs := []) (r := [(Vl (.bool false)), (Vl (.slice none 0 0)), (Vl (.int .i64 0))]) trivial Try.underlying45 has45 places45 info45 rfl rfl rfl) rfl rfl (wt_none' rfl) ?_
      refine sx_ox' (ox_store' (i := 0) (o := 0) rfl rfl (lv_ag _) ⟨rfl, rfl, rfl, rfl⟩ rfl info45 rfl (H' := [⟨.pointer (some q2), [(Vl (.bool false)), (Vl (.slice none 0 0)), (Vl (.int .i64 0))], 45, none⟩]) rfl) (wt_none' rfl) fun _ => ?_
      refine sx_nil' ?_
      show TX E K7 _
      refine tx_k' hK7 ?_
      refine cx_retc' ?_
      replace hp := Option.some.inj hp
      subst hp
      refine tx_pick' (L' := [(2, (Vl (.pointer (some q2))))]) (H' := [⟨.pointer (some q2), [(Vl (.bool false)), (Vl (.slice none 0 0)), (Vl (.int .i64 0))], 45, none⟩]) [0] (sub_cons rfl sub_nil) (by decide) (pick_cons rfl pick_nil) ?_
      exact tx_ret1' Try.results18 rfl () (rv_imp' (x := (Ag [(Vl (.bool false)), (Vl (.slice none 0 0)), (Vl (.int .i64 0))])) (y := (Ag [(Vl (.bool false)), (Sl (Ki .u32) []), (Vl (.int .i64 0))])) (rv_cell_agg' (i := 0) (o := 0) (nn := 3) rfl ⟨rfl, rfl, rfl, rfl⟩ rfl agg45 rfl) (imp_ag ⟨imp_refl, imp_nil, imp_refl, trivial⟩)) (List.nil_sublist _)
    · replace hp := (br_f h1).symm.trans hp
      refine cx_seq' fun K8 hK8 => ?_
      refine cx_region' ?_
      refine sx_rd' (rd_bin' rfl rfl eg_int ru_eql) rfl rfl (wt_none' rfl) ?_
      refine sx_rd' (rd_assign' rfl) rfl rfl (wt_none' rfl) ?_
      refine sx_nil' ?_
      show TX E K8 _
      refine tx_k' hK8 ?_
      refine cx_cond' rfl (fun h2 => ?_) (fun h2 => ?_)
      · replace hp := (br_t h2).symm.trans hp
        refine cx_region' ?_
        refine sx_rd' (rd_assign' rfl) rfl rfl (wt_none' rfl) ?_
        refine sx_nil' ?_
        show TX E K4 _
        exact tx_pick' [0] (sub_cons rfl (sub_cons rfl (sub_cons rfl (sub_cons rfl sub_nil)))) (by decide) (pick_cons rfl pick_nil) (hK4 ((icv .i64 (iand .u64 (fbits a0) 4503599627370495)), 1) hp)
      · replace hp := (br_f h2).symm.trans hp
        refine cx_region' ?_
        refine sx_rd' (rd_move' rfl) rfl rfl (wt_none' rfl) ?_
        refine sx_rd' (rd_bin' rfl rfl eg_int ru_add) rfl rfl (wt_none' rfl) ?_
        refine sx_rd' (rd_assign' rfl) rfl rfl (wt_none' rfl) ?_
        refine sx_nil' ?_
        show TX E K4 _
        exact tx_pick' [0] (sub_cons rfl (sub_cons rfl (sub_cons rfl (sub_cons rfl sub_nil)))) (by decide) (pick_cons rfl pick_nil) (hK4 ((iadd .i64 (icv .i64 (iand .u64 (fbits a0) 4503599627370495)) 4503599627370496), (icv .i64 (iand .u64 r12 2047))) hp)

def spec_Whole_Mul_l2s (a1_1 : List Int) (x12 : Int) (r26 : Int) (k : Nat) (rec2 : ((List Int) × Int × Int) → Option ((List Int) × Int)) (x6 : List Int) (x7 : Int) (x8 : Int) : Option ((List Int) × Int) :=
  br (decide (x8 < (a1_1.length : Int)))
    ((idx a1_1 x8) >>= fun r34 =>
    (idx x6 (iadd .i64 x12 x8)) >>= fun r45 =>
    (idx x6 (iadd .i64 x12 x8)) >>= fun r57 =>
    (ishr .u64 (iadd .u64 (iadd .u64 (imul .u64 (icv .u64 r26) (icv .u64 r34)) (icv .u64 r45)) x7) 32) >>= fun r59 =>
    rec2 ((x6.set (iadd .i64 x12 x8).toNat (icv .u32 (iadd .u64 (iadd .u64 (imul .u64 (icv .u64 r26) (icv .u64 r34)) (icv .u64 r45)) x7))), r59, (iadd .i64 x8 1)))
    (some (x6, x7))
def spec_Whole_Mul_l2 (a1_1 : List Int) (x12 : Int) (r26 : Int) : Nat → ((List Int) × Int × Int) → Option ((List Int) × Int)
  | 0, _ => none
  | k + 1, v => spec_Whole_Mul_l2s a1_1 x12 r26 k (spec_Whole_Mul_l2 a1_1 x12 r26 k) v.1 v.2.1 v.2.2
def spec_Whole_Mul_l3s (a0_1 : List Int) (a1_1 : List Int) (k : Nat) (rec3 : ((List Int) × Int) → Option ((List Int))) (x11 : List Int) (x12 : Int) : Option ((List Int)) :=
  br (decide (x12 < (a0_1.length : Int)))
    ((idx a0_1 x12) >>= fun r26 =>
    (spec_Whole_Mul_l2 a1_1 x12 r26 k (x11, 0, 0)) >>= fun v5 =>
    (idx v5.1 (iadd .i64 x12 (a1_1.length : Int))) >>= fun r69 =>
    rec3 ((v5.1.set (iadd .i64 x12 (a1_1.length : Int)).toNat (icv .u32 v5.2)), (iadd .i64 x12 1)))
    (some x11)
def spec_Whole_Mul_l3 (a0_1 : List Int) (a1_1 : List Int) : Nat → ((List Int) × Int) → Option ((List Int))
  | 0, _ => none
  | k + 1, v => spec_Whole_Mul_l3s a0_1 a1_1 k (spec_Whole_Mul_l3 a0_1 a1_1 k) v.1 v.2
def spec_Whole_Mul_j1 (k : Nat) (r72 : (List Int)) (x14 : Bool) : Option (Bool × (List Int)) :=
  some (x14, r72)
def spec_Whole_Mul (k : Nat) (a0_0 : Bool) (a0_1 : List Int) (a1_0 : Bool) (a1_1 : List Int) : Option (Bool × (List Int)) :=
  (mk 4 0 (iadd .i64 (a0_1.length : Int) (a1_1.length : Int)) (iadd .i64 (a0_1.length : Int) (a1_1.length : Int))) >>= fun r19 =>
  (spec_Whole_Mul_l3 a0_1 a1_1 k (r19, 0)) >>= fun v6 =>
  (spec_trim k v6) >>= fun r72 =>
  br (decide (0 < (r72.length : Int)))
    (spec_Whole_Mul_j1 k r72 (!(a0_0 == a1_0)))
    (spec_Whole_Mul_j1 k r72 false)

theorem spec_Whole_Mul_sim {k : Nat}  (a0_0 : Bool) (a0_1 : List Int) (a1_0 : Bool) (a1_1 : List Int) {out : Bool × (List Int)} (hp : spec_Whole_Mul k a0_0 a0_1 a1_0 a1_1 = some out) : Go.Sx.Fn Try.prog 44 [(Ag [(Vl (.bool a0_0)), (Sl (Ki .u32) a0_1)]), (Ag [(Vl (.bool a1_0)), (Sl (Ki .u32) a1_1)])] [] (fun w : Unit => (Ag [(Vl (.bool out.1)), (Sl (Ki .u32) out.2)])) (fun w => []) := by
  unfold spec_Whole_Mul at hp
  refine fn_of Try.func44 rfl Try.ntmps44 rfl fun E hM => ?_
  refine cx_seq' fun K1 hK1 => ?_
  refine cx_region' ?_
  refine sx_ox' (ox_box' rfl (lv_ag _) rfl rfl) (wt_none' rfl) fun q2 => ?_
  refine sx_ox' (ox_box' rfl (lv_ag _) rfl rfl) (wt_none' rfl) fun q3 => ?_
  refine sx_ox' (ox_alloc' info43 rfl rfl rfl rfl (l := [(Vl (.bool false)), (Vl (.slice none 0 0))]) rfl) (wt_none' rfl) fun q4 => ?_
  refine sx_nil' ?_
  show TX E K1 _
  refine tx_k' hK1 ?_
  refine cx_seq' fun K2 hK2 => ?_
  refine cx_region' ?_
  refine sx_rd' (rd_field' (off := 1) rfl Try.underlying43 rfl info41 rfl) rfl rfl (wt_none' rfl) ?_
  refine sx_rd' (rd_load' (i := 2) (o := 1) rfl ⟨rfl, rfl, rfl, rfl⟩ rfl flat41) rfl rfl (wt_none' rfl) ?_
  refine sx_rd' (rd_len' rfl Try.underlying41) rfl rfl (wt_none' rfl) ?_
  refine sx_rd' (rd_field' (off := 1) rfl Try.underlying43 rfl info41 rfl) rfl rfl (wt_none' rfl) ?_
  refine sx_rd' (rd_load' (i := 1) (o := 1) rfl ⟨rfl, rfl, rfl, rfl⟩ rfl flat41) rfl rfl (wt_none' rfl) ?_
  refine sx_rd' (rd_len' rfl Try.underlying41) rfl rfl (wt_none' rfl) ?_
  refine sx_rd' (rd_bin' rfl rfl eg_int ru_add) rfl rfl (wt_none' rfl) ?_
  obtain ⟨r19, hr19, hp⟩ := bind_some hp
  refine sx_ox' (ox_make' (K := (Ki .u32)) rfl rfl hr19 rfl Try.underlying41 info99 rfl rfl rfl rfl rfl) (wt_none' rfl) fun g19 => ?_
  refine sx_rd' (rd_assign' rfl) rfl rfl (wt_none' rfl) ?_
  refine sx_nil' ?_
  show TX E K2 _
  refine tx_k' hK2 ?_
  refine cx_seq' fun K3 hK3 => ?_
  refine cx_seq' fun K4 hK4 => ?_
  refine cx_region' ?_
  refine sx_rd' (rd_field' (off := 1) rfl Try.underlying43 rfl info41 rfl) rfl rfl (wt_none' rfl) ?_
  refine sx_rd' (rd_load' (i := 3) (o := 1) rfl ⟨rfl, rfl, rfl, rfl⟩ rfl flat41) rfl rfl (wt_none' rfl) ?_
  refine sx_rd' (rd_len' rfl Try.underlying41) rfl rfl (wt_none' rfl) ?_
  refine sx_rd' (rd_move' rfl) rfl rfl (wt_none' rfl) ?_
  refine sx_nil' ?_
  show TX E K4 _
  refine tx_k' hK4 ?_
  refine cx_block' ?_
  obtain ⟨v6, hy3, hp⟩ := bind_some hp
  refine cx_loopg' (F := spec_Whole_Mul_l3 a0_1 a1_1) (G := fun k R v => spec_Whole_Mul_l3s a0_1 a1_1 k R v.1 v.2) (x := (r19, 0)) (gh := ()) (fun (v3 : (List Int) × Int) (w3 : Unit) => (⟨85, [], [(2, (Vl (.pointer (some q2)))), (3, (Vl (.pointer (some q3)))), (4, (Vl (.pointer (some q4)))), (5, (Vl (Vs g19))), (21, (Sl (Ki .u32) a0_1)), (22, (Vl (.int .i64 (a0_1.length : Int)))), (23, (Vl (.int .i64 v3.2)))], [⟨.pointer (some q2), [(Vl (.bool a0_0)), (Sl (Ki .u32) a0_1)], 43, none⟩, ⟨.pointer (some q3), [(Vl (.bool a1_0)), (Sl (Ki .u32) a1_1)], 43, none⟩, ⟨.pointer (some q4), [(Vl (.bool false)), (Vl (.slice none 0 0))], 43, none⟩, (Rw (Ki .u32) 99 (Vs g19) v3.1)]⟩ : St)) (fun (v6 : (List Int)) => Zg E (Exit.exit 0) (fun (w6 : Unit) => (⟨85, [], [(2, (Vl (.pointer (some q2)))), (3, (Vl (.pointer (some q3)))), (4, (Vl (.pointer (some q4)))), (5, (Vl (Vs g19)))], [⟨.pointer (some q2), [(Vl (.bool a0_0)), (Sl (Ki .u32) a0_1)], 43, none⟩, ⟨.pointer (some q3), [(Vl (.bool a1_0)), (Sl (Ki .u32) a1_1)], 43, none⟩, ⟨.pointer (some q4), [(Vl (.bool false)), (Vl (.slice none 0 0))], 43, none⟩, (Rw (Ki .u32) 99 (Vs g19) v6)]⟩ : St))) (fun _ => rfl) (fun _ _ => rfl) ?_ hy3 (tx_to' rfl [3, 2, 1, 0] (sub_cons rfl (sub_cons rfl (sub_cons rfl (sub_cons rfl (sub_cons rfl (sub_cons rfl (sub_cons rfl sub_nil))))))) (by decide) (pick_cons rfl (pick_cons rfl (pick_cons rfl (pick_cons rfl pick_nil))))) ?_
  · clear hp hy3
    clear v6
    intro k rec3 KY3 ih3
    rintro ⟨x11, x12⟩ ⟨⟩ y3 hp
    replace hp : spec_Whole_Mul_l3s a0_1 a1_1 k rec3 x11 x12 = some y3 := hp
    unfold spec_Whole_Mul_l3s at hp
    refine cx_seq' fun K24 hK24 => ?_
    refine cx_region' ?_
    refine sx_rd' (rd_bin' rfl rfl eg_int ru_lss) rfl rfl (wt_none' rfl) ?_
    refine sx_nil' ?_
    show TX E K24 _
    refine tx_k' hK24 ?_
    refine cx_seq' fun K25 hK25 => ?_
    refine cx_cond' rfl (fun h6 => ?_) (fun h6 => ?_)
    · replace hp := (br_t h6).symm.trans hp
      refine cx_skip' ?_
      show TX E K25 _
      refine tx_k' hK25 ?_
      refine cx_seq' fun K26 hK26 => ?_
      refine cx_block' ?_
      refine cx_seq' fun K27 hK27 => ?_
      refine cx_region' ?_
      refine sx_rd' (rd_move' rfl) rfl rfl (wt_none' rfl) ?_
      obtain ⟨r26, hr26, hp⟩ := bind_some hp
      refine sx_rd' (rd_at' (K := (Ki .u32)) rfl rfl hr26 Try.underlying41 info99) rfl rfl (wt_none' rfl) ?_
      refine sx_rd' (rd_load_pt' rfl rfl flat99) rfl rfl (wt_none' rfl) ?_
      refine sx_rd' (rd_assign' rfl) rfl rfl (wt_none' rfl) ?_
      refine sx_rd' (rd_assign' rfl) rfl rfl (wt_none' rfl) ?_
      refine sx_nil' ?_
      show TX E K27 _
      refine tx_k' hK27 ?_
      refine cx_seq' fun K28 hK28 => ?_
      refine cx_region' ?_
      refine sx_rd' (rd_assign' rfl) rfl rfl (wt_none' rfl) ?_
      refine sx_nil' ?_
      show TX E K28 _
      refine tx_k' hK28 ?_
      refine cx_seq' fun K29 hK29 => ?_
      refine cx_seq' fun K30 hK30 => ?_
      refine cx_region' ?_
      refine sx_rd' (rd_field' (off := 1) rfl Try.underlying43 rfl info41 rfl) rfl rfl (wt_none' rfl) ?_
      refine sx_rd' (rd_load' (i := 1) (o := 1) rfl ⟨rfl, rfl, rfl, rfl⟩ rfl flat41) rfl rfl (wt_none' rfl) ?_
      refine sx_rd' (rd_len' rfl Try.underlying41) rfl rfl (wt_none' rfl) ?_
      refine sx_rd' (rd_move' rfl) rfl rfl (wt_none' rfl) ?_
      refine sx_nil' ?_
      show TX E K30 _
      refine tx_k' hK30 ?_
      refine cx_block' ?_
      obtain ⟨v5, hy2, hp⟩ := bind_some hp
      refine cx_loopg' (F := spec_Whole_Mul_l2 a1_1 x12 r26) (G := fun k R v => spec_Whole_Mul_l2s a1_1 x12 r26 k R v.1 v.2.1 v.2.2) (x := (x11, 0, 0)) (gh := ()) (fun (v4 : (List Int) × Int × Int) (w4 : Unit) => (⟨85, [], [(2, (Vl (.pointer (some q2)))), (3, (Vl (.pointer (some q3)))), (4, (Vl (.pointer (some q4)))), (5, (Vl (Vs g19))), (6, (Vl (.int .i64 x12))), (7, (Vl (.int .u32 r26))), (8, (Vl (.int .u64 v4.2.1))), (21, (Sl (Ki .u32) a0_1)), (22, (Vl (.int .i64 (a0_1.length : Int)))), (23, (Vl (.int .i64 x12))), (29, (Sl (Ki .u32) a1_1)), (30, (Vl (.int .i64 (a1_1.length : Int)))), (31, (Vl (.int .i64 v4.2.2)))], [⟨.pointer (some q2), [(Vl (.bool a0_0)), (Sl (Ki .u32) a0_1)], 43, none⟩, ⟨.pointer (some q3), [(Vl (.bool a1_0)), (Sl (Ki .u32) a1_1)], 43, none⟩, ⟨.pointer (some q4), [(Vl (.bool false)), (Vl (.slice none 0 0))], 43, none⟩, (Rw (Ki .u32) 99 (Vs g19) v4.1)]⟩ : St)) (fun (v5 : (List Int) × Int) => Zg E (Exit.exit 2) (fun (w5 : Unit) => (⟨85, [], [(2, (Vl (.pointer (some q2)))), (3, (Vl (.pointer (some q3)))), (4, (Vl (.pointer (some q4)))), (5, (Vl (Vs g19))), (6, (Vl (.int .i64 x12))), (8, (Vl (.int .u64 v5.2))), (21, (Sl (Ki .u32) a0_1)), (22, (Vl (.int .i64 (a0_1.length : Int)))), (23, (Vl (.int .i64 x12)))], [⟨.pointer (some q2), [(Vl (.bool a0_0)), (Sl (Ki .u32) a0_1)], 43, none⟩, ⟨.pointer (some q3), [(Vl (.bool a1_0)), (Sl (Ki .u32) a1_1)], 43, none⟩, ⟨.pointer (some q4), [(Vl (.bool false)), (Vl (.slice none 0 0))], 43, none⟩, (Rw (Ki .u32) 99 (Vs g19) v5.1)]⟩ : St))) (fun _ => rfl) (fun _ _ => rfl) ?_ hy2 (tx_to' rfl [0, 1, 2, 3] (sub_cons rfl (sub_cons rfl (sub_cons rfl (sub_cons rfl (sub_cons rfl (sub_cons rfl (sub_cons rfl (sub_cons rfl (sub_cons rfl (sub_cons rfl (sub_cons rfl (sub_cons rfl (sub_cons rfl sub_nil))))))))))))) (by decide) (pick_cons rfl (pick_cons rfl (pick_cons rfl (pick_cons rfl pick_nil))))) ?_
      · clear hp hy2
        clear v5
        intro k rec2 KY2 ih2
        rintro ⟨x6, x7, x8⟩ ⟨⟩ y2 hp
        replace hp : spec_Whole_Mul_l2s a1_1 x12 r26 k rec2 x6 x7 x8 = some y2 := hp
        unfold spec_Whole_Mul_l2s at hp
        refine cx_seq' fun K37 hK37 => ?_
        refine cx_region' ?_
        refine sx_rd' (rd_bin' rfl rfl eg_int ru_lss) rfl rfl (wt_none' rfl) ?_
        refine sx_nil' ?_
        show TX E K37 _
        refine tx_k' hK37 ?_
        refine cx_seq' fun K38 hK38 => ?_
        refine cx_cond' rfl (fun h9 => ?_) (fun h9 => ?_)
        · replace hp := (br_t h9).symm.trans hp
          refine cx_skip' ?_
          show TX E K38 _
          refine tx_k' hK38 ?_
          refine cx_seq' fun K39 hK39 => ?_
          refine cx_block' ?_
          refine cx_seq' fun K40 hK40 => ?_
          refine cx_region' ?_
          refine sx_rd' (rd_move' rfl) rfl rfl (wt_none' rfl) ?_
          obtain ⟨r34, hr34, hp⟩ := bind_some hp
          refine sx_rd' (rd_at' (K := (Ki .u32)) rfl rfl hr34 Try.underlying41 info99) rfl rfl (wt_none' rfl) ?_
          refine sx_rd' (rd_load_pt' rfl rfl flat99) rfl rfl (wt_none' rfl) ?_
          refine sx_rd' (rd_assign' rfl) rfl rfl (wt_none' rfl) ?_
          refine sx_rd' (rd_assign' rfl) rfl rfl (wt_none' rfl) ?_
          refine sx_nil' ?_
          show TX E K40 _
          refine tx_k' hK40 ?_
          refine cx_seq' fun K41 hK41 => ?_
          refine cx_region' ?_
          refine sx_rd' (rd_move' rfl) rfl rfl (wt_none' rfl) ?_
          refine sx_rd' (rd_conv' rfl (ru_i2i (by rw [Try.underlying99]; rfl) Try.underlying73)) rfl rfl (wt_none' rfl) ?_
          refine sx_rd' (rd_move' rfl) rfl rfl (wt_none' rfl) ?_
          refine sx_rd' (rd_conv' rfl (ru_i2i (by rw [Try.underlying99]; rfl) Try.underlying73)) rfl rfl (wt_none' rfl) ?_
          refine sx_rd' (rd_bin' rfl rfl eg_int ru_mul) rfl rfl (wt_none' rfl) ?_
          refine sx_rd' (rd_move' rfl) rfl rfl (wt_none' rfl) ?_
          refine sx_rd' (rd_move' rfl) rfl rfl (wt_none' rfl) ?_
          refine sx_rd' (rd_move' rfl) rfl rfl (wt_none' rfl) ?_
          refine sx_rd' (rd_bin' rfl rfl eg_int ru_add) rfl rfl (wt_none' rfl) ?_
          obtain ⟨r45, hr45, hp⟩ := bind_some hp
          refine sx_rd' (rd_atr' (m := 3) rfl rfl rfl rfl hr45 Try.underlying41 info99) rfl rfl (wt_none' rfl) ?_
          refine sx_rd' (rd_loadr' rfl (m := 3) (i := (iadd .i64 x12 x8)) (j := 0) rfl rfl hr45 rfl rfl flat99) rfl rfl (wt_none' rfl) ?_
          refine sx_rd' (rd_conv' rfl (ru_i2i (by rw [Try.underlying99]; rfl) Try.underlying73)) rfl rfl (wt_none' rfl) ?_
          refine sx_rd' (rd_bin' rfl rfl eg_int ru_add) rfl rfl (wt_none' rfl) ?_
          refine sx_rd' (rd_move' rfl) rfl rfl (wt_none' rfl) ?_
          refine sx_rd' (rd_bin' rfl rfl eg_int ru_add) rfl rfl (wt_none' rfl) ?_
          refine sx_rd' (rd_assign' rfl) rfl rfl (wt_none' rfl) ?_
          refine sx_nil' ?_
          show TX E K41 _
          refine tx_k' hK41 ?_
          refine cx_seq' fun K42 hK42 => ?_
          refine cx_region' ?_
          refine sx_rd' (rd_move' rfl) rfl rfl (wt_none' rfl) ?_
          refine sx_rd' (rd_move' rfl) rfl rfl (wt_none' rfl) ?_
          refine sx_rd' (rd_move' rfl) rfl rfl (wt_none' rfl) ?_
          refine sx_rd' (rd_bin' rfl rfl eg_int ru_add) rfl rfl (wt_none' rfl) ?_
          refine sx_rd' (rd_move' rfl) rfl rfl (wt_none' rfl) ?_
          refine sx_rd' (rd_conv' rfl (ru_i2i (by rw [Try.underlying73]; rfl) Try.underlying99)) rfl rfl (wt_none' rfl) ?_
          obtain ⟨r57, hr57, hp⟩ := bind_some hp
          refine sx_rd' (rd_atr' (m := 3) rfl rfl rfl rfl hr57 Try.underlying41 info99) rfl rfl (wt_none' rfl) ?_
          refine sx_ox' (ox_storer' (m := 3) (i := (iadd .i64 x12 x8)) (j := 0) (x' := (icv .u32 (iadd .u64 (iadd .u64 (imul .u64 (icv .u64 r26) (icv .u64 r34)) (icv .u64 r45)) x7))) rfl rfl (lv_vl rfl rfl) rfl rfl hr57 rfl rfl rfl info99 rfl (H' := [⟨.pointer (some q2), [(Vl (.bool a0_0)), (Sl (Ki .u32) a0_1)], 43, none⟩, ⟨.pointer (some q3), [(Vl (.bool a1_0)), (Sl (Ki .u32) a1_1)], 43, none⟩, ⟨.pointer (some q4), [(Vl (.bool false)), (Vl (.slice none 0 0))], 43, none⟩, (Rw (Ki .u32) 99 (Vs g19) (x6.set (iadd .i64 x12 x8).toNat (icv .u32 (iadd .u64 (iadd .u64 (imul .u64 (icv .u64 r26) (icv .u64 r34)) (icv .u64 r45)) x7))))]) rfl) (wt_none' rfl) fun _ => ?_
          refine sx_nil' ?_
          show TX E K42 _
          refine tx_k' hK42 ?_
          refine cx_region' ?_
          refine sx_rd' (rd_move' rfl) rfl rfl (wt_none' rfl) ?_
          obtain ⟨r59, hr59, hp⟩ := bind_some hp
          refine sx_rd' (rd_bin' rfl rfl eg_int (ru_shr hr59)) rfl rfl (wt_none' rfl) ?_
          refine sx_rd' (rd_assign' rfl) rfl rfl (wt_none' rfl) ?_
          refine sx_nil' ?_
          show TX E K39 _
          refine tx_k' hK39 ?_
          refine cx_region' ?_
          refine sx_rd' (rd_bin' rfl rfl eg_int ru_add) rfl rfl (wt_none' rfl) ?_
          refine sx_rd' (rd_move' rfl) rfl rfl (wt_none' rfl) ?_
          refine sx_nil' ?_
          show TX E (KY2 _) _
          exact tx_pick' [0, 1, 2, 3] (sub_cons rfl (sub_cons rfl (sub_cons rfl (sub_cons rfl (sub_cons rfl (sub_cons rfl (sub_cons rfl (sub_cons rfl (sub_cons rfl (sub_cons rfl (sub_cons rfl (sub_cons rfl (sub_cons rfl sub_nil))))))))))))) (by decide) (pick_cons rfl (pick_cons rfl (pick_cons rfl (pick_cons rfl pick_nil)))) (ih2 ((x6.set (iadd .i64 x12 x8).toNat (icv .u32 (iadd .u64 (iadd .u64 (imul .u64 (icv .u64 r26) (icv .u64 r34)) (icv .u64 r45)) x7))), r59, (iadd .i64 x8 1)) () _ hp)
        · replace hp := (br_f h9).symm.trans hp
          refine cx_exit' ?_
          replace hp := Option.some.inj hp
          subst hp
          show TX E (Zg E (Exit.exit 2) _ (Exit.exit 2)) _
          exact tx_zend' () rfl [0, 1, 2, 3] (sub_cons rfl (sub_cons rfl (sub_cons rfl (sub_cons rfl (sub_cons rfl (sub_cons rfl (sub_cons rfl (sub_cons rfl (sub_cons rfl sub_nil))))))))) (by decide) (pick_cons rfl (pick_cons rfl (pick_cons rfl (pick_cons rfl pick_nil))))
      · refine zg_out fun w5 => ?_
        show TX E K29 _
        refine tx_k' hK29 ?_
        refine cx_region' ?_
        refine sx_rd' (rd_move' rfl) rfl rfl (wt_none' rfl) ?_
        refine sx_rd' (rd_move' rfl) rfl rfl (wt_none' rfl) ?_
        refine sx_rd' (rd_field' (off := 1) rfl Try.underlying43 rfl info41 rfl) rfl rfl (wt_none' rfl) ?_
        refine sx_rd' (rd_load' (i := 1) (o := 1) rfl ⟨rfl, rfl, rfl, rfl⟩ rfl flat41) rfl rfl (wt_none' rfl) ?_
        refine sx_rd' (rd_len' rfl Try.underlying41) rfl rfl (wt_none' rfl) ?_
        refine sx_rd' (rd_bin' rfl rfl eg_int ru_add) rfl rfl (wt_none' rfl) ?_
        refine sx_rd' (rd_move' rfl) rfl rfl (wt_none' rfl) ?_
        refine sx_rd' (rd_conv' rfl (ru_i2i (by rw [Try.underlying73]; rfl) Try.underlying99)) rfl rfl (wt_none' rfl) ?_
        obtain ⟨r69, hr69, hp⟩ := bind_some hp
        refine sx_rd' (rd_atr' (m := 3) rfl rfl rfl rfl hr69 Try.underlying41 info99) rfl rfl (wt_none' rfl) ?_
        refine sx_ox' (ox_storer' (m := 3) (i := (iadd .i64 x12 (a1_1.length : Int))) (j := 0) (x' := (icv .u32 v5.2)) rfl rfl (lv_vl rfl rfl) rfl rfl hr69 rfl rfl rfl info99 rfl (H' := [⟨.pointer (some q2), [(Vl (.bool a0_0)), (Sl (Ki .u32) a0_1)], 43, none⟩, ⟨.pointer (some q3), [(Vl (.bool a1_0)), (Sl (Ki .u32) a1_1)], 43, none⟩, ⟨.pointer (some q4), [(Vl (.bool false)), (Vl (.slice none 0 0))], 43, none⟩, (Rw (Ki .u32) 99 (Vs g19) (v5.1.set (iadd .i64 x12 (a1_1.length : Int)).toNat (icv .u32 v5.2)))]) rfl) (wt_none' rfl) fun _ => ?_
        refine sx_nil' ?_
        show TX E K26 _
        refine tx_k' hK26 ?_
        refine cx_region' ?_
        refine sx_rd' (rd_bin' rfl rfl eg_int ru_add) rfl rfl (wt_none' rfl) ?_
        refine sx_rd' (rd_move' rfl) rfl rfl (wt_none' rfl) ?_
        refine sx_nil' ?_
        show TX E (KY3 _) _
        exact tx_pick' [0, 1, 2, 3] (sub_cons rfl (sub_cons rfl (sub_cons rfl (sub_cons rfl (sub_cons rfl (sub_cons rfl (sub_cons rfl sub_nil))))))) (by decide) (pick_cons rfl (pick_cons rfl (pick_cons rfl (pick_cons rfl pick_nil)))) (ih3 ((v5.1.set (iadd .i64 x12 (a1_1.length : Int)).toNat (icv .u32 v5.2)), (iadd .i64 x12 1)) () _ hp)
    · replace hp := (br_f h6).symm.trans hp
      refine cx_exit' ?_
      replace hp := Option.some.inj hp
      subst hp
      show TX E (Zg E (Exit.exit 0) _ (Exit.exit 0)) _
      exact tx_zend' () rfl [0, 1, 2, 3] (sub_cons rfl (sub_cons rfl (sub_cons rfl (sub_cons rfl sub_nil)))) (by decide) (pick_cons rfl (pick_cons rfl (pick_cons rfl (pick_cons rfl pick_nil))))
  · refine zg_out fun w6 => ?_
    show TX E K3 _
    refine tx_k' hK3 ?_
    refine cx_seq' fun K43 hK43 => ?_
    refine cx_region' ?_
    refine sx_rd' (rd_move' rfl) rfl rfl (wt_none' rfl) ?_
    refine tx_fz' (frz_row 3 [(5, (Vl (Vs g19)), (Sl (Ki .u32) v6)), (71, (Vl (Vs g19)), (Sl (Ki .u32) v6))] (K := (Ki .u32)) (xs := v6) (by decide) rfl ⟨⟨rfl, frz_it⟩, ⟨rfl, frz_it⟩, trivial⟩ (H' := [⟨.pointer (some q2), [(Vl (.bool a0_0)), (Sl (Ki .u32) a0_1)], 43, none⟩, ⟨.pointer (some q3), [(Vl (.bool a1_0)), (Sl (Ki .u32) a1_1)], 43, none⟩, ⟨.pointer (some q4), [(Vl (.bool false)), (Vl (.slice none 0 0))], 43, none⟩]) frzH_refl) ?_
    obtain ⟨r72, hr72, hp⟩ := bind_some hp
    refine sx_ox' (ox_calln' (ent_fn' Try.func59 isn59 rfl rfl) (spec_trim_sim _ hr72 : Go.Sx.Fn Try.prog 59 [(Sl (Ki .u32) v6)] [] (fun x : Unit => (Sl (Ki .u32) r72)) (fun x => [])) (Hn := fun x : Unit => [⟨.pointer (some q2), [(Vl (.bool a0_0)), (Sl (Ki .u32) a0_1)], 43, none⟩, ⟨.pointer (some q3), [(Vl (.bool a1_0)), (Sl (Ki .u32) a1_1)], 43, none⟩, ⟨.pointer (some q4), [(Vl (.bool false)), (Vl (.slice none 0 0))], 43, none⟩]) (fun _ => rfl) rfl rfl) (wt_none' rfl) fun ⟨⟩ => ?_
    refine sx_rd' (rd_assign' rfl) rfl rfl (wt_none' rfl) ?_
    refine sx_nil' ?_
    show TX E K43 _
    refine tx_k' hK43 ?_
    refine cx_seq' fun K44 hK44 => ?_
    refine cx_region' ?_
    refine sx_rd' (rd_move' rfl) rfl rfl (wt_none' rfl) ?_
    refine sx_rd' (rd_len' rfl Try.underlying41) rfl rfl (wt_none' rfl) ?_
    refine sx_rd' (rd_bin' rfl rfl eg_int ru_gtr) rfl rfl (wt_none' rfl) ?_
    refine sx_rd' (rd_move' rfl) rfl rfl (wt_none' rfl) ?_
    refine sx_cutn' 6 (fun (v7 : Bool) => (⟨85, [], [(4, (Vl (.pointer (some q4)))), (5, (Sl (Ki .u32) r72)), (82, (Vl (.bool v7)))], [⟨.pointer (some q4), [(Vl (.bool false)), (Vl (.slice none 0 0))], 43, none⟩]⟩ : St)) (fun (v7 : Bool) => spec_Whole_Mul_j1 k r72 v7 = some out) ?_ ?_
    · rintro x14 hp
      replace hp : spec_Whole_Mul_j1 k r72 x14 = some out := hp
      unfold spec_Whole_Mul_j1 at hp
      refine sx_rd' (rd_move' rfl) rfl rfl (wt_none' rfl) ?_
      refine sx_rd' (rd_build' (pls := [(0, 1), (1, 1)]) (qs := [(0, [(Vl (.bool x14))]), (1, [(Sl (Ki .u32) r72)])]) (r := [(Vl (.bool x14)), (Sl (Ki .u32) r72)]) ⟨rfl, ⟨_, rfl, (lv_vl rfl rfl)⟩, ⟨rfl, ⟨_, rfl, (lv_sl _ _)⟩, trivial⟩⟩ Try.underlying43 has43 places43 info43 rfl rfl rfl) rfl rfl (wt_none' rfl) ?_
      refine sx_ox' (ox_store' (i := 0) (o := 0) rfl rfl (lv_ag _) ⟨rfl, rfl, rfl, rfl⟩ rfl info43 rfl (H' := [⟨.pointer (some q4), [(Vl (.bool x14)), (Sl (Ki .u32) r72)], 43, none⟩]) rfl) (wt_none' rfl) fun _ => ?_
      refine sx_nil' ?_
      show TX E K44 _
      refine tx_k' hK44 ?_
      refine cx_retc' ?_
      replace hp := Option.some.inj hp
      subst hp
      refine tx_pick' (L' := [(4, (Vl (.pointer (some q4))))]) (H' := [⟨.pointer (some q4), [(Vl (.bool x14)), (Sl (Ki .u32) r72)], 43, none⟩]) [0] (sub_cons rfl sub_nil) (by decide) (pick_cons rfl pick_nil) ?_
      exact tx_ret1' Try.results44 rfl () (rv_cell_agg' (i := 0) (o := 0) (nn := 2) rfl ⟨rfl, rfl, rfl, rfl⟩ rfl agg43 rfl) (List.nil_sublist _)
    · intro K45 hK45
      rcases br_cases hp with ⟨h10, hp⟩ | ⟨h10, hp⟩
      · refine sx_rd' (rd_field0' rfl Try.underlying43 rfl info4 rfl) rfl rfl (wt_is' (wt_guard' rfl rfl rfl) (beq_tt h10)) ?_
        refine sx_rd' (rd_load' (i := 0) (o := 0) rfl ⟨rfl, rfl, rfl, rfl⟩ rfl flat4) rfl rfl (wt_is' (wt_guard' rfl rfl rfl) (beq_tt h10)) ?_
        refine sx_rd' (rd_field0' rfl Try.underlying43 rfl info4 rfl) rfl rfl (wt_is' (wt_guard' rfl rfl rfl) (beq_tt h10)) ?_
        refine sx_rd' (rd_load' (i := 1) (o := 0) rfl ⟨rfl, rfl, rfl, rfl⟩ rfl flat4) rfl rfl (wt_is' (wt_guard' rfl rfl rfl) (beq_tt h10)) ?_
        refine sx_rd' (rd_bin' rfl rfl eg_bool (ru_bne Try.underlying4)) rfl rfl (wt_is' (wt_guard' rfl rfl rfl) (beq_tt h10)) ?_
        refine sx_rd' (rd_pick_true' rfl h10 rfl) rfl rfl (wt_none' rfl) ?_
        refine sx_nil' ?_
        show TX E K45 _
        exact tx_pick' [2] (sub_cons rfl (sub_cons rfl (sub_cons rfl sub_nil))) (by decide) (pick_cons rfl pick_nil) (hK45 (!(a0_0 == a1_0)) hp)
      · refine sx_skip' rfl rfl (wt_is' (wt_guard' rfl rfl rfl) (beq_ft h10)) ?_
        refine sx_skip' rfl rfl (wt_is' (wt_guard' rfl rfl rfl) (beq_ft h10)) ?_
        refine sx_skip' rfl rfl (wt_is' (wt_guard' rfl rfl rfl) (beq_ft h10)) ?_
        refine sx_skip' rfl rfl (wt_is' (wt_guard' rfl rfl rfl) (beq_ft h10)) ?_
        refine sx_skip' rfl rfl (wt_is' (wt_guard' rfl rfl rfl) (beq_ft h10)) ?_
        refine sx_rd' (rd_pick_false' rfl h10 rfl) rfl rfl (wt_none' rfl) ?_
        refine sx_nil' ?_
        show TX E K45 _
        exact tx_pick' [2] (sub_cons rfl (sub_cons rfl (sub_cons rfl sub_nil))) (by decide) (pick_cons rfl pick_nil) (hK45 false hp)

def spec_Dyadic_Mul (k : Nat) (a0_0 : Bool) (a0_1 : List Int) (a0_2 : Int) (a1_0 : Bool) (a1_1 : List Int) (a1_2 : Int) : Option (Bool × (List Int) × Int) :=
  (spec_Whole_Mul k a0_0 a0_1 a1_0 a1_1) >>= fun r9 =>
  some (r9.1, r9.2, iadd .i64 a0_2 a1_2)

theorem spec_Dyadic_Mul_sim {k : Nat}  (a0_0 : Bool) (a0_1 : List Int) (a0_2 : Int) (a1_0 : Bool) (a1_1 : List Int) (a1_2 : Int) {out : Bool × (List Int) × Int} (hp : spec_Dyadic_Mul k a0_0 a0_1 a0_2 a1_0 a1_1 a1_2 = some out) : Go.Sx.Fn Try.prog 19 [(Ag [(Vl (.bool a0_0)), (Sl (Ki .u32) a0_1), (Vl (.int .i64 a0_2))]), (Ag [(Vl (.bool a1_0)), (Sl (Ki .u32) a1_1), (Vl (.int .i64 a1_2))])] [] (fun w : Unit => (Ag [(Vl (.bool out.1)), (Sl (Ki .u32) out.2.1), (Vl (.int .i64 out.2.2))])) (fun w => []) := by
  unfold spec_Dyadic_Mul at hp
  refine fn_of Try.func19 rfl Try.ntmps19 rfl fun E hM => ?_
  refine cx_seq' fun K1 hK1 => ?_
  refine cx_region' ?_
  refine sx_ox' (ox_box' rfl (lv_ag _) rfl rfl) (wt_none' rfl) fun q2 => ?_
  refine sx_ox' (ox_box' rfl (lv_ag _) rfl rfl) (wt_none' rfl) fun q3 => ?_
  refine sx_ox' (ox_alloc' info45 rfl rfl rfl rfl (l := [(Vl (.bool false)), (Vl (.slice none 0 0)), (Vl (.int .i64 0))]) rfl) (wt_none' rfl) fun q4 => ?_
  refine sx_nil' ?_
  show TX E K1 _
  refine tx_k' hK1 ?_
  refine cx_seq' fun K2 hK2 => ?_
  refine cx_plan' [] [(11, 1)] [(0, 1), (1, 1), (2, 1), (3, 1), (5, 1), (6, 1), (7, 1), (8, 1), (9, 1), (4, 0), (10, 1), (11, 0)] mixed (by kernel_rfl) ?_
  refine px_rd' rfl (rd_field0' rfl Try.underlying45 rfl info43 rfl) rfl rfl (wt_none' rfl) ?_
  refine px_rd' rfl (rd_load_agg' (i := 2) (o := 0) (nn := 2) rfl ⟨rfl, rfl, rfl, rfl⟩ rfl agg43 (l' := [(Vl (.bool a0_0)), (Sl (Ki .u32) a0_1)]) rfl) rfl rfl (wt_none' rfl) ?_
  refine px_rd' rfl (rd_field0' rfl Try.underlying45 rfl info43 rfl) rfl rfl (wt_none' rfl) ?_
  refine px_rd' rfl (rd_load_agg' (i := 1) (o := 0) (nn := 2) rfl ⟨rfl, rfl, rfl, rfl⟩ rfl agg43 (l' := [(Vl (.bool a1_0)), (Sl (Ki .u32) a1_1)]) rfl) rfl rfl (wt_none' rfl) ?_
  refine px_rd' rfl (rd_field' (off := 2) rfl Try.underlying45 rfl info3 rfl) rfl rfl (wt_none' rfl) ?_
  refine px_rd' rfl (rd_load' (i := 2) (o := 2) rfl ⟨rfl, rfl, rfl, rfl⟩ rfl flat3) rfl rfl (wt_none' rfl) ?_
  refine px_rd' rfl (rd_field' (off := 2) rfl Try.underlying45 rfl info3 rfl) rfl rfl (wt_none' rfl) ?_
  refine px_rd' rfl (rd_load' (i := 1) (o := 2) rfl ⟨rfl, rfl, rfl, rfl⟩ rfl flat3) rfl rfl (wt_none' rfl) ?_
  refine px_rd' rfl (rd_bin' rfl rfl eg_int ru_add) rfl rfl (wt_none' rfl) ?_
  obtain ⟨r9, hr9, hp⟩ := bind_some hp
  refine px_ox' rfl (ox_calln' (ent_fn' Try.func44 isn44 rfl rfl) (spec_Whole_Mul_sim _ _ _ _ hr9 : Go.Sx.Fn Try.prog 44 [(Ag [(Vl (.bool a0_0)), (Sl (Ki .u32) a0_1)]), (Ag [(Vl (.bool a1_0)), (Sl (Ki .u32) a1_1)])] [] (fun x : Unit => (Ag [(Vl (.bool r9.1)), (Sl (Ki .u32) r9.2)])) (fun x => [])) (Hn := fun x : Unit => [⟨.pointer (some q4), [(Vl (.bool false)), (Vl (.slice none 0 0)), (Vl (.int .i64 0))], 45, none⟩, ⟨.pointer (some q3), [(Vl (.bool a1_0)), (Sl (Ki .u32) a1_1), (Vl (.int .i64 a1_2))], 45, none⟩, ⟨.pointer (some q2), [(Vl (.bool a0_0)), (Sl (Ki .u32) a0_1), (Vl (.int .i64 a0_2))], 45, none⟩]) (fun _ => rfl) rfl rfl) rfl bs_nil (wt_none' rfl) fun ⟨⟩ => ?_
  refine px_rd' rfl (rd_build' (pls := [(0, 2), (2, 1)]) (qs := [(0, [(Vl (.bool r9.1)), (Sl (Ki .u32) r9.2)]), (1, [(Vl (.int .i64 (iadd .i64 a0_2 a1_2)))])]) (r := [(Vl (.bool r9.1)), (Sl (Ki .u32) r9.2), (Vl (.int .i64 (iadd .i64 a0_2 a1_2)))]) ⟨rfl, ⟨_, rfl, (lv_ag _)⟩, ⟨rfl, ⟨_, rfl, (lv_vl rfl rfl)⟩, trivial⟩⟩ Try.underlying45 has45 places45 info45 rfl rfl rfl) rfl rfl (wt_none' rfl) ?_
  refine px_oxv' rfl (oxv_store (i := 0) (o := 0) rfl rfl (lv_ag _) ⟨rfl, rfl, rfl, rfl⟩ rfl info45 rfl (H' := [⟨.pointer (some q4), [(Vl (.bool r9.1)), (Sl (Ki .u32) r9.2), (Vl (.int .i64 (iadd .i64 a0_2 a1_2)))], 45, none⟩, ⟨.pointer (some q3), [(Vl (.bool a1_0)), (Sl (Ki .u32) a1_1), (Vl (.int .i64 a1_2))], 45, none⟩, ⟨.pointer (some q2), [(Vl (.bool a0_0)), (Sl (Ki .u32) a0_1), (Vl (.int .i64 a0_2))], 45, none⟩]) rfl) rfl rfl bo_nil (wt_none' rfl) fun _ => ?_
  refine px_nil' ?_
  show TX E K2 _
  refine tx_k' hK2 ?_
  refine cx_retc' ?_
  replace hp := Option.some.inj hp
  subst hp
  refine tx_pick' (L' := [(4, (Vl (.pointer (some q4))))]) (H' := [⟨.pointer (some q4), [(Vl (.bool r9.1)), (Sl (Ki .u32) r9.2), (Vl (.int .i64 (iadd .i64 a0_2 a1_2)))], 45, none⟩]) [0] (sub_cons rfl sub_nil) (by decide) (pick_cons rfl pick_nil) ?_
  exact tx_ret1' Try.results19 rfl () (rv_cell_agg' (i := 0) (o := 0) (nn := 3) rfl ⟨rfl, rfl, rfl, rfl⟩ rfl agg45 rfl) (List.nil_sublist _)

def spec_Whole_Minus_j1 (k : Nat) (a0_1 : List Int) (x1 : Bool) : Option (Bool × (List Int)) :=
  some (x1, a0_1)
def spec_Whole_Minus (k : Nat) (a0_0 : Bool) (a0_1 : List Int) : Option (Bool × (List Int)) :=
  br (!a0_0)
    (spec_Whole_Minus_j1 k a0_1 (decide (0 < (a0_1.length : Int))))
    (spec_Whole_Minus_j1 k a0_1 false)

theorem spec_Whole_Minus_sim {k : Nat}  (a0_0 : Bool) (a0_1 : List Int) {out : Bool × (List Int)} (hp : spec_Whole_Minus k a0_0 a0_1 = some out) : Go.Sx.Fn Try.prog 62 [(Ag [(Vl (.bool a0_0)), (Sl (Ki .u32) a0_1)])] [] (fun w : Unit => (Ag [(Vl (.bool out.1)), (Sl (Ki .u32) out.2)])) (fun w => []) := by
  unfold spec_Whole_Minus at hp
  refine fn_of Try.func62 rfl Try.ntmps62 rfl fun E hM => ?_
  refine cx_seq' fun K1 hK1 => ?_
  refine cx_region' ?_
  refine sx_ox' (ox_box' rfl (lv_ag _) rfl rfl) (wt_none' rfl) fun q1 => ?_
  refine sx_ox' (ox_alloc' info43 rfl rfl rfl rfl (l := [(Vl (.bool false)), (Vl (.slice none 0 0))]) rfl) (wt_none' rfl) fun q2 => ?_
  refine sx_nil' ?_
  show TX E K1 _
  refine tx_k' hK1 ?_
  refine cx_seq' fun K2 hK2 => ?_
  refine cx_region' ?_
  refine sx_rd' (rd_field0' rfl Try.underlying43 rfl info4 rfl) rfl rfl (wt_none' rfl) ?_
  refine sx_rd' (rd_load' (i := 1) (o := 0) rfl ⟨rfl, rfl, rfl, rfl⟩ rfl flat4) rfl rfl (wt_none' rfl) ?_
  refine sx_rd' (rd_un' rfl ru_not) rfl rfl (wt_none' rfl) ?_
  refine sx_rd' (rd_move' rfl) rfl rfl (wt_none' rfl) ?_
  refine sx_cutn' 5 (fun (v1 : Bool) => (⟨15, [], [(1, (Vl (.pointer (some q1)))), (2, (Vl (.pointer (some q2)))), (11, (Vl (.bool v1)))], [⟨.pointer (some q1), [(Vl (.bool a0_0)), (Sl (Ki .u32) a0_1)], 43, none⟩, ⟨.pointer (some q2), [(Vl (.bool false)), (Vl (.slice none 0 0))], 43, none⟩]⟩ : St)) (fun (v1 : Bool) => spec_Whole_Minus_j1 k a0_1 v1 = some out) ?_ ?_
  · rintro x1 hp
    replace hp : spec_Whole_Minus_j1 k a0_1 x1 = some out := hp
    unfold spec_Whole_Minus_j1 at hp
    refine sx_rd' (rd_field' (off := 1) rfl Try.underlying43 rfl info41 rfl) rfl rfl (wt_none' rfl) ?_
    refine sx_rd' (rd_load' (i := 0) (o := 1) rfl ⟨rfl, rfl, rfl, rfl⟩ rfl flat41) rfl rfl (wt_none' rfl) ?_
    refine sx_rd' (rd_build' (pls := [(0, 1), (1, 1)]) (qs := [(0, [(Vl (.bool x1))]), (1, [(Sl (Ki .u32) a0_1)])]) (r := [(Vl (.bool x1)), (Sl (Ki .u32) a0_1)]) ⟨rfl, ⟨_, rfl, (lv_vl rfl rfl)⟩, ⟨rfl, ⟨_, rfl, (lv_sl _ _)⟩, trivial⟩⟩ Try.underlying43 has43 places43 info43 rfl rfl rfl) rfl rfl (wt_none' rfl) ?_
    refine sx_ox' (ox_store' (i := 1) (o := 0) rfl rfl (lv_ag _) ⟨rfl, rfl, rfl, rfl⟩ rfl info43 rfl (H' := [⟨.pointer (some q1), [(Vl (.bool a0_0)), (Sl (Ki .u32) a0_1)], 43, none⟩, ⟨.pointer (some q2), [(Vl (.bool x1)), (Sl (Ki .u32) a0_1)], 43, none⟩]) rfl) (wt_none' rfl) fun _ => ?_
    refine sx_nil' ?_
    show TX E K2 _
    refine tx_k' hK2 ?_
    refine cx_retc' ?_
    replace hp := Option.some.inj hp
    subst hp
    refine tx_pick' (L' := [(2, (Vl (.pointer (some q2))))]) (H' := [⟨.pointer (some q2), [(Vl (.bool x1)), (Sl (Ki .u32) a0_1)], 43, none⟩]) [1] (sub_cons rfl sub_nil) (by decide) (pick_cons rfl pick_nil) ?_
    exact tx_ret1' Try.results62 rfl () (rv_cell_agg' (i := 0) (o := 0) (nn := 2) rfl ⟨rfl, rfl, rfl, rfl⟩ rfl agg43 rfl) (List.nil_sublist _)
  · intro K3 hK3
    rcases br_cases hp with ⟨h1, hp⟩ | ⟨h1, hp⟩
    · refine sx_rd' (rd_field' (off := 1) rfl Try.underlying43 rfl info41 rfl) rfl rfl (wt_is' (wt_guard' rfl rfl rfl) (beq_tt h1)) ?_
      refine sx_rd' (rd_load' (i := 1) (o := 1) rfl ⟨rfl, rfl, rfl, rfl⟩ rfl flat41) rfl rfl (wt_is' (wt_guard' rfl rfl rfl) (beq_tt h1)) ?_
      refine sx_rd' (rd_len' rfl Try.underlying41) rfl rfl (wt_is' (wt_guard' rfl rfl rfl) (beq_tt h1)) ?_
      refine sx_rd' (rd_bin' rfl rfl eg_int ru_gtr) rfl rfl (wt_is' (wt_guard' rfl rfl rfl) (beq_tt h1)) ?_
      refine sx_rd' (rd_pick_true' rfl h1 rfl) rfl rfl (wt_none' rfl) ?_
      refine sx_nil' ?_
      show TX E K3 _
      exact tx_pick' [1, 0] (sub_cons rfl (sub_cons rfl (sub_cons rfl sub_nil))) (by decide) (pick_cons rfl (pick_cons rfl pick_nil)) (hK3 (decide (0 < (a0_1.length : Int))) hp)
    · refine sx_skip' rfl rfl (wt_is' (wt_guard' rfl rfl rfl) (beq_ft h1)) ?_
      refine sx_skip' rfl rfl (wt_is' (wt_guard' rfl rfl rfl) (beq_ft h1)) ?_
      refine sx_skip' rfl rfl (wt_is' (wt_guard' rfl rfl rfl) (beq_ft h1)) ?_
      refine sx_skip' rfl rfl (wt_is' (wt_guard' rfl rfl rfl) (beq_ft h1)) ?_
      refine sx_rd' (rd_pick_false' rfl h1 rfl) rfl rfl (wt_none' rfl) ?_
      refine sx_nil' ?_
      show TX E K3 _
      exact tx_pick' [1, 0] (sub_cons rfl (sub_cons rfl (sub_cons rfl sub_nil))) (by decide) (pick_cons rfl (pick_cons rfl pick_nil)) (hK3 false hp)

def spec_Dyadic_Minus (k : Nat) (a0_0 : Bool) (a0_1 : List Int) (a0_2 : Int) : Option (Bool × (List Int) × Int) :=
  (spec_Whole_Minus k a0_0 a0_1) >>= fun r5 =>
  some (r5.1, r5.2, a0_2)

theorem spec_Dyadic_Minus_sim {k : Nat}  (a0_0 : Bool) (a0_1 : List Int) (a0_2 : Int) {out : Bool × (List Int) × Int} (hp : spec_Dyadic_Minus k a0_0 a0_1 a0_2 = some out) : Go.Sx.Fn Try.prog 46 [(Ag [(Vl (.bool a0_0)), (Sl (Ki .u32) a0_1), (Vl (.int .i64 a0_2))])] [] (fun w : Unit => (Ag [(Vl (.bool out.1)), (Sl (Ki .u32) out.2.1), (Vl (.int .i64 out.2.2))])) (fun w => []) := by
  unfold spec_Dyadic_Minus at hp
  refine fn_of Try.func46 rfl Try.ntmps46 rfl fun E hM => ?_
  refine cx_seq' fun K1 hK1 => ?_
  refine cx_region' ?_
  refine sx_ox' (ox_box' rfl (lv_ag _) rfl rfl) (wt_none' rfl) fun q1 => ?_
  refine sx_ox' (ox_alloc' info45 rfl rfl rfl rfl (l := [(Vl (.bool false)), (Vl (.slice none 0 0)), (Vl (.int .i64 0))]) rfl) (wt_none' rfl) fun q2 => ?_
  refine sx_nil' ?_
  show TX E K1 _
  refine tx_k' hK1 ?_
  refine cx_seq' fun K2 hK2 => ?_
  refine cx_plan' [] [(6, 1)] [(0, 1), (1, 1), (3, 1), (4, 1), (2, 0), (5, 1), (6, 0)] mixed (by kernel_rfl) ?_
  refine px_rd' rfl (rd_field0' rfl Try.underlying45 rfl info43 rfl) rfl rfl (wt_none' rfl) ?_
  refine px_rd' rfl (rd_load_agg' (i := 1) (o := 0) (nn := 2) rfl ⟨rfl, rfl, rfl, rfl⟩ rfl agg43 (l' := [(Vl (.bool a0_0)), (Sl (Ki .u32) a0_1)]) rfl) rfl rfl (wt_none' rfl) ?_
  refine px_rd' rfl (rd_field' (off := 2) rfl Try.underlying45 rfl info3 rfl) rfl rfl (wt_none' rfl) ?_
  refine px_rd' rfl (rd_load' (i := 1) (o := 2) rfl ⟨rfl, rfl, rfl, rfl⟩ rfl flat3) rfl rfl (wt_none' rfl) ?_
  obtain ⟨r5, hr5, hp⟩ := bind_some hp
  refine px_ox' rfl (ox_calln' (ent_fn' Try.func62 isn62 rfl rfl) (spec_Whole_Minus_sim _ _ hr5 : Go.Sx.Fn Try.prog 62 [(Ag [(Vl (.bool a0_0)), (Sl (Ki .u32) a0_1)])] [] (fun x : Unit => (Ag [(Vl (.bool r5.1)), (Sl (Ki .u32) r5.2)])) (fun x => [])) (Hn := fun x : Unit => [⟨.pointer (some q2), [(Vl (.bool false)), (Vl (.slice none 0 0)), (Vl (.int .i64 0))], 45, none⟩, ⟨.pointer (some q1), [(Vl (.bool a0_0)), (Sl (Ki .u32) a0_1), (Vl (.int .i64 a0_2))], 45, none⟩]) (fun _ => rfl) rfl rfl) rfl bs_nil (wt_none' rfl) fun ⟨⟩ => ?_
  refine px_rd' rfl (rd_build' (pls := [(0, 2), (2, 1)]) (qs := [(0, [(Vl (.bool r5.1)), (Sl (Ki .u32) r5.2)]), (1, [(Vl (.int .i64 a0_2))])]) (r := [(Vl (.bool r5.1)), (Sl (Ki .u32) r5.2), (Vl (.int .i64 a0_2))]) ⟨rfl, ⟨_, rfl, (lv_ag _)⟩, ⟨rfl, ⟨_, rfl, (lv_vl rfl rfl)⟩, trivial⟩⟩ Try.underlying45 has45 places45 info45 rfl rfl rfl) rfl rfl (wt_none' rfl) ?_
  refine px_oxv' rfl (oxv_store (i := 0) (o := 0) rfl rfl (lv_ag _) ⟨rfl, rfl, rfl, rfl⟩ rfl info45 rfl (H' := [⟨.pointer (some q2), [(Vl (.bool r5.1)), (Sl (Ki .u32) r5.2), (Vl (.int .i64 a0_2))], 45, none⟩, ⟨.pointer (some q1), [(Vl (.bool a0_0)), (Sl (Ki .u32) a0_1), (Vl (.int .i64 a0_2))], 45, none⟩]) rfl) rfl rfl bo_nil (wt_none' rfl) fun _ => ?_
  refine px_nil' ?_
  show TX E K2 _
  refine tx_k' hK2 ?_
  refine cx_retc' ?_
  replace hp := Option.some.inj hp
  subst hp
  refine tx_pick' (L' := [(2, (Vl (.pointer (some q2))))]) (H' := [⟨.pointer (some q2), [(Vl (.bool r5.1)), (Sl (Ki .u32) r5.2), (Vl (.int .i64 a0_2))], 45, none⟩]) [0] (sub_cons rfl sub_nil) (by decide) (pick_cons rfl pick_nil) ?_
  exact tx_ret1' Try.results46 rfl () (rv_cell_agg' (i := 0) (o := 0) (nn := 3) rfl ⟨rfl, rfl, rfl, rfl⟩ rfl agg45 rfl) (List.nil_sublist _)

def spec_Whole_Sign (k : Nat) (a0_0 : Bool) (a0_1 : List Int) : Option (Int) :=
  br (decide ((a0_1.length : Int) = 0))
    (some 0)
    (br a0_0
      (some (-1))
      (some 1))

theorem spec_Whole_Sign_sim {k : Nat}  (a0_0 : Bool) (a0_1 : List Int) {out : Int} (hp : spec_Whole_Sign k a0_0 a0_1 = some out) : Go.Sx.Fn Try.prog 63 [(Ag [(Vl (.bool a0_0)), (Sl (Ki .u32) a0_1)])] [] (fun w : Unit => (Vl (.int .i64 out))) (fun w => []) := by
  unfold spec_Whole_Sign at hp
  refine fn_of Try.func63 rfl Try.ntmps63 rfl fun E hM => ?_
  refine cx_seq' fun K1 hK1 => ?_
  refine cx_region' ?_
  refine sx_ox' (ox_box' rfl (lv_ag _) rfl rfl) (wt_none' rfl) fun q1 => ?_
  refine sx_rd' (rd_assign' rfl) rfl rfl (wt_none' rfl) ?_
  refine sx_nil' ?_
  show TX E K1 _
  refine tx_k' hK1 ?_
  refine cx_seq' fun K2 hK2 => ?_
  refine cx_block' ?_
  refine cx_seq' fun K3 hK3 => ?_
  refine cx_region' ?_
  refine sx_rd' (rd_field' (off := 1) rfl Try.underlying43 rfl info41 rfl) rfl rfl (wt_none' rfl) ?_
  refine sx_rd' (rd_load' (i := 0) (o := 1) rfl ⟨rfl, rfl, rfl, rfl⟩ rfl flat41) rfl rfl (wt_none' rfl) ?_
  refine sx_rd' (rd_len' rfl Try.underlying41) rfl rfl (wt_none' rfl) ?_
  refine sx_rd' (rd_bin' rfl rfl eg_int ru_eql) rfl rfl (wt_none' rfl) ?_
  refine sx_rd' (rd_assign' rfl) rfl rfl (wt_none' rfl) ?_
  refine sx_nil' ?_
  show TX E K3 _
  refine tx_k' hK3 ?_
  refine cx_cond' rfl (fun h1 => ?_) (fun h1 => ?_)
  · replace hp := (br_t h1).symm.trans hp
    refine cx_seq' fun K4 hK4 => ?_
    refine cx_region' ?_
    refine sx_rd' (rd_assign' rfl) rfl rfl (wt_none' rfl) ?_
    refine sx_nil' ?_
    show TX E K4 _
    refine tx_k' hK4 ?_
    refine cx_retc' ?_
    replace hp := Option.some.inj hp
    subst hp
    refine tx_pick' (L' := [(2, (Vl (.int .i64 0)))]) (H' := []) [] (sub_cons rfl sub_nil) (by decide) pick_nil ?_
    exact tx_ret1' Try.results63 rfl () (rv_tmp' rfl) (List.Sublist.refl _)
  · replace hp := (br_f h1).symm.trans hp
    refine cx_seq' fun K5 hK5 => ?_
    refine cx_region' ?_
    refine sx_rd' (rd_field0' rfl Try.underlying43 rfl info4 rfl) rfl rfl (wt_none' rfl) ?_
    refine sx_rd' (rd_load' (i := 0) (o := 0) rfl ⟨rfl, rfl, rfl, rfl⟩ rfl flat4) rfl rfl (wt_none' rfl) ?_
    refine sx_rd' (rd_assign' rfl) rfl rfl (wt_none' rfl) ?_
    refine sx_nil' ?_
    show TX E K5 _
    refine tx_k' hK5 ?_
    refine cx_cond' rfl (fun h2 => ?_) (fun h2 => ?_)
    · replace hp := (br_t h2).symm.trans hp
      refine cx_seq' fun K6 hK6 => ?_
      refine cx_region' ?_
      refine sx_rd' (rd_assign' rfl) rfl rfl (wt_none' rfl) ?_
      refine sx_nil' ?_
      show TX E K6 _
      refine tx_k' hK6 ?_
      refine cx_retc' ?_
      replace hp := Option.some.inj hp
      subst hp
      refine tx_pick' (L' := [(2, (Vl (.int .i64 (-1))))]) (H' := []) [] (sub_cons rfl sub_nil) (by decide) pick_nil ?_
      exact tx_ret1' Try.results63 rfl () (rv_tmp' rfl) (List.Sublist.refl _)
    · replace hp := (br_f h2).symm.trans hp
      refine cx_skip' ?_
      show TX E K2 _
      refine tx_k' hK2 ?_
      refine cx_seq' fun K7 hK7 => ?_
      refine cx_region' ?_
      refine sx_rd' (rd_assign' rfl) rfl rfl (wt_none' rfl) ?_
      refine sx_nil' ?_
      show TX E K7 _
      refine tx_k' hK7 ?_
      refine cx_retc' ?_
      replace hp := Option.some.inj hp
      subst hp
      refine tx_pick' (L' := [(2, (Vl (.int .i64 1)))]) (H' := []) [] (sub_cons rfl sub_nil) (by decide) pick_nil ?_
      exact tx_ret1' Try.results63 rfl () (rv_tmp' rfl) (List.Sublist.refl _)

def spec_Dyadic_Sign (k : Nat) (a0_0 : Bool) (a0_1 : List Int) (a0_2 : Int) : Option (Int) :=
  (spec_Whole_Sign k a0_0 a0_1) >>= fun r5 =>
  some r5

theorem spec_Dyadic_Sign_sim {k : Nat}  (a0_0 : Bool) (a0_1 : List Int) (a0_2 : Int) {out : Int} (hp : spec_Dyadic_Sign k a0_0 a0_1 a0_2 = some out) : Go.Sx.Fn Try.prog 47 [(Ag [(Vl (.bool a0_0)), (Sl (Ki .u32) a0_1), (Vl (.int .i64 a0_2))])] [] (fun w : Unit => (Vl (.int .i64 out))) (fun w => []) := by
  unfold spec_Dyadic_Sign at hp
  refine fn_of Try.func47 rfl Try.ntmps47 rfl fun E hM => ?_
  refine cx_seq' fun K1 hK1 => ?_
  refine cx_region' ?_
  refine sx_ox' (ox_box' rfl (lv_ag _) rfl rfl) (wt_none' rfl) fun q1 => ?_
  refine sx_rd' (rd_assign' rfl) rfl rfl (wt_none' rfl) ?_
  refine sx_nil' ?_
  show TX E K1 _
  refine tx_k' hK1 ?_
  refine cx_seq' fun K2 hK2 => ?_
  refine cx_region' ?_
  refine sx_rd' (rd_field0' rfl Try.underlying45 rfl info43 rfl) rfl rfl (wt_none' rfl) ?_
  refine sx_rd' (rd_load_agg' (i := 0) (o := 0) (nn := 2) rfl ⟨rfl, rfl, rfl, rfl⟩ rfl agg43 (l' := [(Vl (.bool a0_0)), (Sl (Ki .u32) a0_1)]) rfl) rfl rfl (wt_none' rfl) ?_
  obtain ⟨r5, hr5, hp⟩ := bind_some hp
  refine sx_ox' (ox_calln' (ent_fn' Try.func63 isn63 rfl rfl) (spec_Whole_Sign_sim _ _ hr5 : Go.Sx.Fn Try.prog 63 [(Ag [(Vl (.bool a0_0)), (Sl (Ki .u32) a0_1)])] [] (fun x : Unit => (Vl (.int .i64 r5))) (fun x => [])) (Hn := fun x : Unit => [⟨.pointer (some q1), [(Vl (.bool a0_0)), (Sl (Ki .u32) a0_1), (Vl (.int .i64 a0_2))], 45, none⟩]) (fun _ => rfl) rfl rfl) (wt_none' rfl) fun ⟨⟩ => ?_
  refine sx_rd' (rd_assign' rfl) rfl rfl (wt_none' rfl) ?_
  refine sx_nil' ?_
  show TX E K2 _
  refine tx_k' hK2 ?_
  refine cx_retc' ?_
  replace hp := Option.some.inj hp
  subst hp
  refine tx_pick' (L' := [(2, (Vl (.int .i64 r5)))]) (H' := []) [] (sub_cons rfl sub_nil) (by decide) pick_nil ?_
  exact tx_ret1' Try.results47 rfl () (rv_tmp' rfl) (List.Sublist.refl _)

def spec_Whole_Up_l1s (a0_1 : List Int) (a1 : Int) (k : Nat) (rec1 : ((List Int) × Int × Int) → Option ((List Int) × Int)) (x1 : List Int) (x2 : Int) (x3 : Int) : Option ((List Int) × Int) :=
  br (decide (x3 < (a0_1.length : Int)))
    ((idx a0_1 x3) >>= fun r30 =>
    (irem a1 32) >>= fun r35 =>
    (ishl .u64 (icv .u64 r30) r35) >>= fun r36 =>
    (apd 4 x1 ([ior .u32 (icv .u32 r36) x2])) >>= fun r43 =>
    (ishr .u64 r36 32) >>= fun r45 =>
    rec1 (r43, (icv .u32 r45), (iadd .i64 x3 1)))
    (some (x1, x2))
def spec_Whole_Up_l1 (a0_1 : List Int) (a1 : Int) : Nat → ((List Int) × Int × Int) → Option ((List Int) × Int)
  | 0, _ => none
  | k + 1, v => spec_Whole_Up_l1s a0_1 a1 k (spec_Whole_Up_l1 a0_1 a1 k) v.1 v.2.1 v.2.2
def spec_Whole_Up (k : Nat) (a0_0 : Bool) (a0_1 : List Int) (a1 : Int) : Option (Bool × (List Int)) :=
  br (decide ((a0_1.length : Int) = 0))
    (some (a0_0, a0_1))
    ((iquo .i64 a1 32) >>= fun r16 =>
    (iquo .i64 a1 32) >>= fun r18 =>
    (mk 4 0 r16 (iadd .i64 (iadd .i64 r18 (a0_1.length : Int)) 1)) >>= fun r24 =>
    (spec_Whole_Up_l1 a0_1 a1 k (r24, 0, 0)) >>= fun v2 =>
    (apd 4 v2.1 ([v2.2])) >>= fun r53 =>
    (spec_trim k r53) >>= fun r54 =>
    some (a0_0, r54))

theorem spec_Whole_Up_sim {k : Nat}  (a0_0 : Bool) (a0_1 : List Int) (a1 : Int) {out : Bool × (List Int)} (hp : spec_Whole_Up k a0_0 a0_1 a1 = some out) : Go.Sx.Fn Try.prog 60 [(Ag [(Vl (.bool a0_0)), (Sl (Ki .u32) a0_1)]), (Vl (.int .i64 a1))] [] (fun w : Unit => (Ag [(Vl (.bool out.1)), (Sl (Ki .u32) out.2)])) (fun w => []) := by
  unfold spec_Whole_Up at hp
  refine fn_of Try.func60 rfl Try.ntmps60 rfl fun E hM => ?_
  refine cx_seq' fun K1 hK1 => ?_
  refine cx_region' ?_
  refine sx_ox' (ox_box' rfl (lv_ag _) rfl rfl) (wt_none' rfl) fun q2 => ?_
  refine sx_ox' (ox_alloc' info43 rfl rfl rfl rfl (l := [(Vl (.bool false)), (Vl (.slice none 0 0))]) rfl) (wt_none' rfl) fun q4 => ?_
  refine sx_nil' ?_
  show TX E K1 _
  refine tx_k' hK1 ?_
  refine cx_seq' fun K2 hK2 => ?_
  refine cx_seq' fun K3 hK3 => ?_
  refine cx_region' ?_
  refine sx_rd' (rd_field' (off := 1) rfl Try.underlying43 rfl info41 rfl) rfl rfl (wt_none' rfl) ?_
  refine sx_rd' (rd_load' (i := 1) (o := 1) rfl ⟨rfl, rfl, rfl, rfl⟩ rfl flat41) rfl rfl (wt_none' rfl) ?_
  refine sx_rd' (rd_len' rfl Try.underlying41) rfl rfl (wt_none' rfl) ?_
  refine sx_rd' (rd_bin' rfl rfl eg_int ru_eql) rfl rfl (wt_none' rfl) ?_
  refine sx_nil' ?_
  show TX E K3 _
  refine tx_k' hK3 ?_
  refine cx_cond' rfl (fun h1 => ?_) (fun h1 => ?_)
  · replace hp := (br_t h1).symm.trans hp
    refine cx_seq' fun K4 hK4 => ?_
    refine cx_region' ?_
    refine sx_rd' (rd_load_agg' (i := 1) (o := 0) (nn := 2) rfl ⟨rfl, rfl, rfl, rfl⟩ rfl agg43 (l' := [(Vl (.bool a0_0)), (Sl (Ki .u32) a0_1)]) rfl) rfl rfl (wt_none' rfl) ?_
    refine sx_ox' (ox_store' (i := 0) (o := 0) rfl rfl (lv_ag _) ⟨rfl, rfl, rfl, rfl⟩ rfl info43 rfl (H' := [⟨.pointer (some q4), [(Vl (.bool a0_0)), (Sl (Ki .u32) a0_1)], 43, none⟩, ⟨.pointer (some q2), [(Vl (.bool a0_0)), (Sl (Ki .u32) a0_1)], 43, none⟩]) rfl) (wt_none' rfl) fun _ => ?_
    refine sx_nil' ?_
    show TX E K4 _
    refine tx_k' hK4 ?_
    refine cx_retc' ?_
    replace hp := Option.some.inj hp
    subst hp
    refine tx_pick' (L' := [(4, (Vl (.pointer (some q4))))]) (H' := [⟨.pointer (some q4), [(Vl (.bool a0_0)), (Sl (Ki .u32) a0_1)], 43, none⟩]) [0] (sub_cons rfl sub_nil) (by decide) (pick_cons rfl pick_nil) ?_
    exact tx_ret1' Try.results60 rfl () (rv_cell_agg' (i := 0) (o := 0) (nn := 2) rfl ⟨rfl, rfl, rfl, rfl⟩ rfl agg43 rfl) (List.nil_sublist _)
  · replace hp := (br_f h1).symm.trans hp
    refine cx_skip' ?_
    show TX E K2 _
    refine tx_k' hK2 ?_
    refine cx_seq' fun K5 hK5 => ?_
    refine cx_region' ?_
    refine sx_rd' (rd_move' rfl) rfl rfl (wt_none' rfl) ?_
    obtain ⟨r16, hr16, hp⟩ := bind_some hp
    refine sx_rd' (rd_bin' rfl rfl eg_int (ru_quo hr16)) rfl rfl (wt_none' rfl) ?_
    refine sx_rd' (rd_move' rfl) rfl rfl (wt_none' rfl) ?_
    obtain ⟨r18, hr18, hp⟩ := bind_some hp
    refine sx_rd' (rd_bin' rfl rfl eg_int (ru_quo hr18)) rfl rfl (wt_none' rfl) ?_
    refine sx_rd' (rd_field' (off := 1) rfl Try.underlying43 rfl info41 rfl) rfl rfl (wt_none' rfl) ?_
    refine sx_rd' (rd_load' (i := 1) (o := 1) rfl ⟨rfl, rfl, rfl, rfl⟩ rfl flat41) rfl rfl (wt_none' rfl) ?_
    refine sx_rd' (rd_len' rfl Try.underlying41) rfl rfl (wt_none' rfl) ?_
    refine sx_rd' (rd_bin' rfl rfl eg_int ru_add) rfl rfl (wt_none' rfl) ?_
    refine sx_rd' (rd_bin' rfl rfl eg_int ru_add) rfl rfl (wt_none' rfl) ?_
    obtain ⟨r24, hr24, hp⟩ := bind_some hp
    refine sx_ox' (ox_make' (K := (Ki .u32)) rfl rfl hr24 rfl Try.underlying41 info99 rfl rfl rfl rfl rfl) (wt_none' rfl) fun g24 => ?_
    refine sx_rd' (rd_assign' rfl) rfl rfl (wt_none' rfl) ?_
    refine sx_nil' ?_
    show TX E K5 _
    refine tx_k' hK5 ?_
    refine cx_seq' fun K6 hK6 => ?_
    refine cx_region' ?_
    refine sx_rd' (rd_assign' rfl) rfl rfl (wt_none' rfl) ?_
    refine sx_nil' ?_
    show TX E K6 _
    refine tx_k' hK6 ?_
    refine cx_seq' fun K7 hK7 => ?_
    refine cx_seq' fun K8 hK8 => ?_
    refine cx_region' ?_
    refine sx_rd' (rd_field' (off := 1) rfl Try.underlying43 rfl info41 rfl) rfl rfl (wt_none' rfl) ?_
    refine sx_rd' (rd_load' (i := 2) (o := 1) rfl ⟨rfl, rfl, rfl, rfl⟩ rfl flat41) rfl rfl (wt_none' rfl) ?_
    refine sx_rd' (rd_len' rfl Try.underlying41) rfl rfl (wt_none' rfl) ?_
    refine sx_rd' (rd_move' rfl) rfl rfl (wt_none' rfl) ?_
    refine sx_nil' ?_
    show TX E K8 _
    refine tx_k' hK8 ?_
    refine cx_block' ?_
    obtain ⟨v2, hy1, hp⟩ := bind_some hp
    refine cx_loopg' (F := spec_Whole_Up_l1 a0_1 a1) (G := fun k R v => spec_Whole_Up_l1s a0_1 a1 k R v.1 v.2.1 v.2.2) (x := (r24, 0, 0)) (gh := g24) (fun (v1 : (List Int) × Int × Int) (w1 : Gs) => (⟨56, [], [(1, (Vl (.int .i64 a1))), (2, (Vl (.pointer (some q2)))), (4, (Vl (.pointer (some q4)))), (5, (Vl (Vs w1))), (6, (Vl (.int .u32 v1.2.1))), (26, (Sl (Ki .u32) a0_1)), (27, (Vl (.int .i64 (a0_1.length : Int)))), (28, (Vl (.int .i64 v1.2.2)))], [⟨.pointer (some q2), [(Vl (.bool a0_0)), (Sl (Ki .u32) a0_1)], 43, none⟩, ⟨.pointer (some q4), [(Vl (.bool false)), (Vl (.slice none 0 0))], 43, none⟩, (Rw (Ki .u32) 99 (Vs w1) v1.1)]⟩ : St)) (fun (v2 : (List Int) × Int) => Zg E (Exit.exit 0) (fun (w2 : Gs) => (⟨56, [], [(2, (Vl (.pointer (some q2)))), (4, (Vl (.pointer (some q4)))), (5, (Vl (Vs w2))), (6, (Vl (.int .u32 v2.2)))], [⟨.pointer (some q2), [(Vl (.bool a0_0)), (Sl (Ki .u32) a0_1)], 43, none⟩, ⟨.pointer (some q4), [(Vl (.bool false)), (Vl (.slice none 0 0))], 43, none⟩, (Rw (Ki .u32) 99 (Vs w2) v2.1)]⟩ : St))) (fun _ => rfl) (fun _ _ => rfl) ?_ hy1 (tx_to' rfl [2, 1, 0] (sub_cons rfl (sub_cons rfl (sub_cons rfl (sub_cons rfl (sub_cons rfl (sub_cons rfl (sub_cons rfl (sub_cons rfl sub_nil)))))))) (by decide) (pick_cons rfl (pick_cons rfl (pick_cons rfl pick_nil)))) ?_
    · clear hp hy1
      clear v2
      intro k rec1 KY1 ih1
      rintro ⟨x1, x2, x3⟩ g901 y1 hp
      replace hp : spec_Whole_Up_l1s a0_1 a1 k rec1 x1 x2 x3 = some y1 := hp
      unfold spec_Whole_Up_l1s at hp
      refine cx_seq' fun K15 hK15 => ?_
      refine cx_region' ?_
      refine sx_rd' (rd_bin' rfl rfl eg_int ru_lss) rfl rfl (wt_none' rfl) ?_
      refine sx_nil' ?_
      show TX E K15 _
      refine tx_k' hK15 ?_
      refine cx_seq' fun K16 hK16 => ?_
      refine cx_cond' rfl (fun h4 => ?_) (fun h4 => ?_)
      · replace hp := (br_t h4).symm.trans hp
        refine cx_skip' ?_
        show TX E K16 _
        refine tx_k' hK16 ?_
        refine cx_seq' fun K17 hK17 => ?_
        refine cx_block' ?_
        refine cx_seq' fun K18 hK18 => ?_
        refine cx_region' ?_
        obtain ⟨r30, hr30, hp⟩ := bind_some hp
        refine sx_rd' (rd_at' (K := (Ki .u32)) rfl rfl hr30 Try.underlying41 info99) rfl rfl (wt_none' rfl) ?_
        refine sx_rd' (rd_load_pt' rfl rfl flat99) rfl rfl (wt_none' rfl) ?_
        refine sx_rd' (rd_assign' rfl) rfl rfl (wt_none' rfl) ?_
        refine sx_nil' ?_
        show TX E K18 _
        refine tx_k' hK18 ?_
        refine cx_seq' fun K19 hK19 => ?_
        refine cx_region' ?_
        refine sx_rd' (rd_move' rfl) rfl rfl (wt_none' rfl) ?_
        refine sx_rd' (rd_conv' rfl (ru_i2i (by rw [Try.underlying99]; rfl) Try.underlying73)) rfl rfl (wt_none' rfl) ?_
        refine sx_rd' (rd_move' rfl) rfl rfl (wt_none' rfl) ?_
        obtain ⟨r35, hr35, hp⟩ := bind_some hp
        refine sx_rd' (rd_bin' rfl rfl eg_int (ru_rem hr35)) rfl rfl (wt_none' rfl) ?_
        obtain ⟨r36, hr36, hp⟩ := bind_some hp
        refine sx_rd' (rd_bin' rfl rfl eg_int (ru_shl hr36)) rfl rfl (wt_none' rfl) ?_
        refine sx_rd' (rd_assign' rfl) rfl rfl (wt_none' rfl) ?_
        refine sx_nil' ?_
        show TX E K19 _
        refine tx_k' hK19 ?_
        refine cx_seq' fun K20 hK20 => ?_
        refine cx_region' ?_
        refine sx_rd' (rd_move' rfl) rfl rfl (wt_none' rfl) ?_
        refine sx_rd' (rd_move' rfl) rfl rfl (wt_none' rfl) ?_
        refine sx_rd' (rd_conv' rfl (ru_i2i (by rw [Try.underlying73]; rfl) Try.underlying99)) rfl rfl (wt_none' rfl) ?_
        refine sx_rd' (rd_move' rfl) rfl rfl (wt_none' rfl) ?_
        refine sx_rd' (rd_bin' rfl rfl eg_int ru_or) rfl rfl (wt_none' rfl) ?_
        refine sx_ox' (ox_rowlit' (K := (Ki .u32)) (xs := [ior .u32 (icv .u32 r36) x2]) (qs := [(0, [(Vl (.int .u32 (ior .u32 (icv .u32 r36) x2)))])]) ⟨rfl, ⟨_, rfl, (lv_vl rfl rfl)⟩, trivial⟩ Try.underlying41 info99 rfl rfl rfl rfl rfl (by kernel_rfl) rfl rfl rfl) (wt_none' rfl) fun g42 => ?_
        obtain ⟨r43, hr43, hp⟩ := bind_some hp
        refine sx_ox' (ox_append' (K := (Ki .u32)) (i := 3) (xs := x1) (ys := ([ior .u32 (icv .u32 r36) x2])) rfl rfl rfl (sr_row' (j := 0) rfl rfl rfl Try.underlying41) hr43 Try.underlying41 info99 rfl rfl rfl (H' := [(Rw (Ki .u32) 99 (Vs g42) ([ior .u32 (icv .u32 r36) x2])), ⟨.pointer (some q2), [(Vl (.bool a0_0)), (Sl (Ki .u32) a0_1)], 43, none⟩, ⟨.pointer (some q4), [(Vl (.bool false)), (Vl (.slice none 0 0))], 43, none⟩]) rfl) (wt_none' rfl) fun g43 => ?_
        refine sx_rd' (rd_assign' rfl) rfl rfl (wt_none' rfl) ?_
        refine sx_nil' ?_
        show TX E K20 _
        refine tx_k' hK20 ?_
        refine cx_region' ?_
        refine sx_rd' (rd_move' rfl) rfl rfl (wt_none' rfl) ?_
        obtain ⟨r45, hr45, hp⟩ := bind_some hp
        refine sx_rd' (rd_bin' rfl rfl eg_int (ru_shr hr45)) rfl rfl (wt_none' rfl) ?_
        refine sx_rd' (rd_conv' rfl (ru_i2i (by rw [Try.underlying73]; rfl) Try.underlying99)) rfl rfl (wt_none' rfl) ?_
        refine sx_rd' (rd_assign' rfl) rfl rfl (wt_none' rfl) ?_
        refine sx_nil' ?_
        show TX E K17 _
        refine tx_k' hK17 ?_
        refine cx_region' ?_
        refine sx_rd' (rd_bin' rfl rfl eg_int ru_add) rfl rfl (wt_none' rfl) ?_
        refine sx_rd' (rd_move' rfl) rfl rfl (wt_none' rfl) ?_
        refine sx_nil' ?_
        show TX E (KY1 _) _
        exact tx_pick' [2, 3, 0] (sub_cons rfl (sub_cons rfl (sub_cons rfl (sub_cons rfl (sub_cons rfl (sub_cons rfl (sub_cons rfl (sub_cons rfl sub_nil)))))))) (by decide) (pick_cons rfl (pick_cons rfl (pick_cons rfl pick_nil))) (ih1 (r43, (icv .u32 r45), (iadd .i64 x3 1)) g43 _ hp)
      · replace hp := (br_f h4).symm.trans hp
        refine cx_exit' ?_
        replace hp := Option.some.inj hp
        subst hp
        show TX E (Zg E (Exit.exit 0) _ (Exit.exit 0)) _
        exact tx_zend' g901 rfl [0, 1, 2] (sub_cons rfl (sub_cons rfl (sub_cons rfl (sub_cons rfl sub_nil)))) (by decide) (pick_cons rfl (pick_cons rfl (pick_cons rfl pick_nil)))
    · refine zg_out fun w2 => ?_
      show TX E K7 _
      refine tx_k' hK7 ?_
      refine cx_seq' fun K21 hK21 => ?_
      refine cx_plan' [q2.block] [(5, 1), (8, 1)] [(0, 2), (1, 2), (2, 1), (3, 1), (4, 0), (5, 0), (6, 0), (7, 1), (8, 0)] mixed (by kernel_rfl) ?_
      refine px_rb' rfl (rb_field0' rfl Try.underlying43 rfl info4 rfl) rfl rfl (wt_none' rfl) ?_
      refine px_rb' rfl (rb_load' (i := 0) (o := 0) rfl ⟨rfl, rfl, rfl, rfl⟩ rfl flat4 (by simp)) rfl rfl (wt_none' rfl) ?_
      refine px_rd' rfl (rd_move' rfl) rfl rfl (wt_none' rfl) ?_
      refine px_rd' rfl (rd_move' rfl) rfl rfl (wt_none' rfl) ?_
      refine px_ox' rfl (ox_rowlit' (K := (Ki .u32)) (xs := [v2.2]) (qs := [(0, [(Vl (.int .u32 v2.2))])]) ⟨rfl, ⟨_, rfl, (lv_vl rfl rfl)⟩, trivial⟩ Try.underlying41 info99 rfl rfl rfl rfl rfl (by kernel_rfl) rfl rfl rfl) rfl (bs_cons (m := 0) rfl rfl rfl bs_nil) (wt_none' rfl) fun g52 => ?_
      obtain ⟨r53, hr53, hp⟩ := bind_some hp
      refine px_ox' rfl (ox_append' (K := (Ki .u32)) (i := 3) (xs := v2.1) (ys := ([v2.2])) rfl rfl rfl (sr_row' (j := 0) rfl rfl rfl Try.underlying41) hr53 Try.underlying41 info99 rfl rfl rfl (H' := [(Rw (Ki .u32) 99 (Vs g52) ([v2.2])), ⟨.pointer (some q2), [(Vl (.bool a0_0)), (Sl (Ki .u32) a0_1)], 43, none⟩, ⟨.pointer (some q4), [(Vl (.bool false)), (Vl (.slice none 0 0))], 43, none⟩]) rfl) rfl (bs_cons (m := 1) rfl rfl rfl bs_nil) (wt_none' rfl) fun g53 => ?_
      refine tx_fz' (frz_row 0 [(53, (Vl (Vs g53)), (Sl (Ki .u32) r53))] (K := (Ki .u32)) (xs := r53) (by decide) rfl ⟨⟨rfl, frz_it⟩, trivial⟩ (H' := [(Rw (Ki .u32) 99 (Vs g52) ([v2.2])), ⟨.pointer (some q2), [(Vl (.bool a0_0)), (Sl (Ki .u32) a0_1)], 43, none⟩, ⟨.pointer (some q4), [(Vl (.bool false)), (Vl (.slice none 0 0))], 43, none⟩]) frzH_refl) ?_
      obtain ⟨r54, hr54, hp⟩ := bind_some hp
      refine px_ox' rfl (ox_calln' (ent_fn' Try.func59 isn59 rfl rfl) (spec_trim_sim _ hr54 : Go.Sx.Fn Try.prog 59 [(Sl (Ki .u32) r53)] [] (fun x : Unit => (Sl (Ki .u32) r54)) (fun x => [])) (Hn := fun x : Unit => [(Rw (Ki .u32) 99 (Vs g52) ([v2.2])), ⟨.pointer (some q2), [(Vl (.bool a0_0)), (Sl (Ki .u32) a0_1)], 43, none⟩, ⟨.pointer (some q4), [(Vl (.bool false)), (Vl (.slice none 0 0))], 43, none⟩]) (fun _ => rfl) rfl rfl) rfl (bs_cons (m := 1) rfl rfl rfl bs_nil) (wt_none' rfl) fun ⟨⟩ => ?_
      refine px_rd' rfl (rd_build' (pls := [(0, 1), (1, 1)]) (qs := [(0, [(Vl (.bool a0_0))]), (1, [(Sl (Ki .u32) r54)])]) (r := [(Vl (.bool a0_0)), (Sl (Ki .u32) r54)]) ⟨rfl, ⟨_, rfl, (lv_vl rfl rfl)⟩, ⟨rfl, ⟨_, rfl, (lv_sl _ _)⟩, trivial⟩⟩ Try.underlying43 has43 places43 info43 rfl rfl rfl) rfl rfl (wt_none' rfl) ?_
      refine px_oxv' rfl (oxv_store (i := 2) (o := 0) rfl rfl (lv_ag _) ⟨rfl, rfl, rfl, rfl⟩ rfl info43 rfl (H' := [(Rw (Ki .u32) 99 (Vs g52) ([v2.2])), ⟨.pointer (some q2), [(Vl (.bool a0_0)), (Sl (Ki .u32) a0_1)], 43, none⟩, ⟨.pointer (some q4), [(Vl (.bool a0_0)), (Sl (Ki .u32) r54)], 43, none⟩]) rfl) rfl rfl (bo_cons (m := 1) (by decide) rfl rfl bo_nil) (wt_none' rfl) fun _ => ?_
      refine px_nil' ?_
      show TX E K21 _
      refine tx_k' hK21 ?_
      refine cx_retc' ?_
      replace hp := Option.some.inj hp
      subst hp
      refine tx_pick' (L' := [(4, (Vl (.pointer (some q4))))]) (H' := [⟨.pointer (some q4), [(Vl (.bool a0_0)), (Sl (Ki .u32) r54)], 43, none⟩]) [2] (sub_cons rfl sub_nil) (by decide) (pick_cons rfl pick_nil) ?_
      exact tx_ret1' Try.results60 rfl () (rv_cell_agg' (i := 0) (o := 0) (nn := 2) rfl ⟨rfl, rfl, rfl, rfl⟩ rfl agg43 rfl) (List.nil_sublist _)

def spec_addLimbs_j3 (k : Nat) (x5 : List Int) (rec1 : ((List Int) × Int × Int) → Option ((List Int) × Int)) (x7 : Int) (x4 : Int) : Option ((List Int) × Int) :=
  (apd 4 x5 ([icv .u32 x4])) >>= fun r47 =>
  (ishr .u64 x4 32) >>= fun r49 =>
  rec1 (r47, r49, (iadd .i64 x7 1))
def spec_addLimbs_l1s (x1 : List Int) (x2 : List Int) (k : Nat) (rec1 : ((List Int) × Int × Int) → Option ((List Int) × Int)) (x5 : List Int) (x6 : Int) (x7 : Int) : Option ((List Int) × Int) :=
  br (decide (x7 < (x1.length : Int)))
    ((idx x1 x7) >>= fun r26 =>
    br (decide (x7 < (x2.length : Int)))
      ((idx x2 x7) >>= fun r39 =>
      spec_addLimbs_j3 k x5 rec1 x7 (iadd .u64 (iadd .u64 (icv .u64 r26) x6) (icv .u64 r39)))
      (spec_addLimbs_j3 k x5 rec1 x7 (iadd .u64 (icv .u64 r26) x6)))
    (some (x5, x6))
def spec_addLimbs_l1 (x1 : List Int) (x2 : List Int) : Nat → ((List Int) × Int × Int) → Option ((List Int) × Int)
  | 0, _ => none
  | k + 1, v => spec_addLimbs_l1s x1 x2 k (spec_addLimbs_l1 x1 x2 k) v.1 v.2.1 v.2.2
def spec_addLimbs_j1 (k : Nat) (x1 : List Int) (x2 : List Int) : Option ((List Int)) :=
  (mk 4 0 0 (iadd .i64 (x1.length : Int) 1)) >>= fun r20 =>
  (spec_addLimbs_l1 x1 x2 k (r20, 0, 0)) >>= fun v5 =>
  (apd 4 v5.1 ([icv .u32 v5.2])) >>= fun r55 =>
  (spec_trim k r55) >>= fun r56 =>
  some r56
def spec_addLimbs (k : Nat) (a0 : List Int) (a1 : List Int) : Option ((List Int)) :=
  br (decide ((a0.length : Int) < (a1.length : Int)))
    (spec_addLimbs_j1 k a1 a0)
    (spec_addLimbs_j1 k a0 a1)

theorem spec_addLimbs_sim {k : Nat}  (a0 : List Int) (a1 : List Int) {out : (List Int)} (hp : spec_addLimbs k a0 a1 = some out) : Go.Sx.Fn Try.prog 73 [(Sl (Ki .u32) a0), (Sl (Ki .u32) a1)] [] (fun w : Unit => (Sl (Ki .u32) out)) (fun w => []) := by
  unfold spec_addLimbs at hp
  refine fn_of Try.func73 rfl Try.ntmps73 rfl fun E hM => ?_
  refine cx_seq' fun K1 hK1 => ?_
  refine cx_region' ?_
  refine sx_rd' (rd_assign' rfl) rfl rfl (wt_none' rfl) ?_
  refine sx_nil' ?_
  show TX E K1 _
  refine tx_k' hK1 ?_
  refine cx_join' (fun (v1 : (List Int) × (List Int)) => (⟨57, [], [(0, (Sl (Ki .u32) v1.1)), (1, (Sl (Ki .u32) v1.2))], []⟩ : St)) (fun (v1 : (List Int) × (List Int)) => spec_addLimbs_j1 k v1.1 v1.2 = some out) ?_ ?_
  · rintro ⟨x1, x2⟩ hp
    replace hp : spec_addLimbs_j1 k x1 x2 = some out := hp
    unfold spec_addLimbs_j1 at hp
    refine cx_seq' fun K4 hK4 => ?_
    refine cx_region' ?_
    refine sx_rd' (rd_move' rfl) rfl rfl (wt_none' rfl) ?_
    refine sx_rd' (rd_len' rfl Try.underlying41) rfl rfl (wt_none' rfl) ?_
    refine sx_rd' (rd_bin' rfl rfl eg_int ru_add) rfl rfl (wt_none' rfl) ?_
    obtain ⟨r20, hr20, hp⟩ := bind_some hp
    refine sx_ox' (ox_make' (K := (Ki .u32)) rfl rfl hr20 rfl Try.underlying41 info99 rfl rfl rfl rfl rfl) (wt_none' rfl) fun g20 => ?_
    refine sx_rd' (rd_assign' rfl) rfl rfl (wt_none' rfl) ?_
    refine sx_nil' ?_
    show TX E K4 _
    refine tx_k' hK4 ?_
    refine cx_seq' fun K5 hK5 => ?_
    refine cx_region' ?_
    refine sx_rd' (rd_assign' rfl) rfl rfl (wt_none' rfl) ?_
    refine sx_nil' ?_
    show TX E K5 _
    refine tx_k' hK5 ?_
    refine cx_seq' fun K6 hK6 => ?_
    refine cx_seq' fun K7 hK7 => ?_
    refine cx_region' ?_
    refine sx_rd' (rd_move' rfl) rfl rfl (wt_none' rfl) ?_
    refine sx_rd' (rd_len' rfl Try.underlying41) rfl rfl (wt_none' rfl) ?_
    refine sx_rd' (rd_move' rfl) rfl rfl (wt_none' rfl) ?_
    refine sx_nil' ?_
    show TX E K7 _
    refine tx_k' hK7 ?_
    refine cx_block' ?_
    obtain ⟨v5, hy1, hp⟩ := bind_some hp
    refine cx_loopg' (F := spec_addLimbs_l1 x1 x2) (G := fun k R v => spec_addLimbs_l1s x1 x2 k R v.1 v.2.1 v.2.2) (x := (r20, 0, 0)) (gh := g20) (fun (v3 : (List Int) × Int × Int) (w3 : Gs) => (⟨57, [], [(1, (Sl (Ki .u32) x2)), (5, (Vl (Vs w3))), (6, (Vl (.int .u64 v3.2.1))), (21, (Sl (Ki .u32) x1)), (22, (Vl (.int .i64 (x1.length : Int)))), (23, (Vl (.int .i64 v3.2.2)))], [(Rw (Ki .u32) 99 (Vs w3) v3.1)]⟩ : St)) (fun (v5 : (List Int) × Int) => Zg E (Exit.exit 0) (fun (w5 : Gs) => (⟨57, [], [(5, (Vl (Vs w5))), (6, (Vl (.int .u64 v5.2)))], [(Rw (Ki .u32) 99 (Vs w5) v5.1)]⟩ : St))) (fun _ => rfl) (fun _ _ => rfl) ?_ hy1 (tx_to' rfl [0] (sub_cons rfl (sub_cons rfl (sub_cons rfl (sub_cons rfl (sub_cons rfl (sub_cons rfl sub_nil)))))) (by decide) (pick_cons rfl pick_nil)) ?_
    · clear hp hy1
      clear v5
      intro k rec1 KY1 ih1
      rintro ⟨x5, x6, x7⟩ g901 y1 hp
      replace hp : spec_addLimbs_l1s x1 x2 k rec1 x5 x6 x7 = some y1 := hp
      unfold spec_addLimbs_l1s at hp
      refine cx_seq' fun K16 hK16 => ?_
      refine cx_region' ?_
      refine sx_rd' (rd_bin' rfl rfl eg_int ru_lss) rfl rfl (wt_none' rfl) ?_
      refine sx_nil' ?_
      show TX E K16 _
      refine tx_k' hK16 ?_
      refine cx_seq' fun K17 hK17 => ?_
      refine cx_cond' rfl (fun h5 => ?_) (fun h5 => ?_)
      · replace hp := (br_t h5).symm.trans hp
        refine cx_skip' ?_
        show TX E K17 _
        refine tx_k' hK17 ?_
        refine cx_seq' fun K18 hK18 => ?_
        refine cx_block' ?_
        refine cx_seq' fun K19 hK19 => ?_
        refine cx_region' ?_
        refine sx_rd' (rd_move' rfl) rfl rfl (wt_none' rfl) ?_
        obtain ⟨r26, hr26, hp⟩ := bind_some hp
        refine sx_rd' (rd_at' (K := (Ki .u32)) rfl rfl hr26 Try.underlying41 info99) rfl rfl (wt_none' rfl) ?_
        refine sx_rd' (rd_load_pt' rfl rfl flat99) rfl rfl (wt_none' rfl) ?_
        refine sx_rd' (rd_assign' rfl) rfl rfl (wt_none' rfl) ?_
        refine sx_rd' (rd_assign' rfl) rfl rfl (wt_none' rfl) ?_
        refine sx_nil' ?_
        show TX E K19 _
        refine tx_k' hK19 ?_
        refine cx_seq' fun K20 hK20 => ?_
        refine cx_region' ?_
        refine sx_rd' (rd_move' rfl) rfl rfl (wt_none' rfl) ?_
        refine sx_rd' (rd_conv' rfl (ru_i2i (by rw [Try.underlying99]; rfl) Try.underlying73)) rfl rfl (wt_none' rfl) ?_
        refine sx_rd' (rd_move' rfl) rfl rfl (wt_none' rfl) ?_
        refine sx_rd' (rd_bin' rfl rfl eg_int ru_add) rfl rfl (wt_none' rfl) ?_
        refine sx_rd' (rd_assign' rfl) rfl rfl (wt_none' rfl) ?_
        refine sx_nil' ?_
        show TX E K20 _
        refine tx_k' hK20 ?_
        refine cx_join' (fun (v4 : Int) => (⟨57, [], [(1, (Sl (Ki .u32) x2)), (5, (Vl (Vs g901))), (9, (Vl (.int .u64 v4))), (21, (Sl (Ki .u32) x1)), (22, (Vl (.int .i64 (x1.length : Int)))), (23, (Vl (.int .i64 x7)))], [(Rw (Ki .u32) 99 (Vs g901) x5)]⟩ : St)) (fun (v4 : Int) => spec_addLimbs_j3 k x5 rec1 x7 v4 = some y1) ?_ ?_
        · rintro x4 hp
          replace hp : spec_addLimbs_j3 k x5 rec1 x7 x4 = some y1 := hp
          unfold spec_addLimbs_j3 at hp
          refine cx_seq' fun K23 hK23 => ?_
          refine cx_region' ?_
          refine sx_rd' (rd_move' rfl) rfl rfl (wt_none' rfl) ?_
          refine sx_rd' (rd_move' rfl) rfl rfl (wt_none' rfl) ?_
          refine sx_rd' (rd_conv' rfl (ru_i2i (by rw [Try.underlying73]; rfl) Try.underlying99)) rfl rfl (wt_none' rfl) ?_
          refine sx_ox' (ox_rowlit' (K := (Ki .u32)) (xs := [icv .u32 x4]) (qs := [(0, [(Vl (.int .u32 (icv .u32 x4)))])]) ⟨rfl, ⟨_, rfl, (lv_vl rfl rfl)⟩, trivial⟩ Try.underlying41 info99 rfl rfl rfl rfl rfl (by kernel_rfl) rfl rfl rfl) (wt_none' rfl) fun g46 => ?_
          obtain ⟨r47, hr47, hp⟩ := bind_some hp
          refine sx_ox' (ox_append' (K := (Ki .u32)) (i := 1) (xs := x5) (ys := ([icv .u32 x4])) rfl rfl rfl (sr_row' (j := 0) rfl rfl rfl Try.underlying41) hr47 Try.underlying41 info99 rfl rfl rfl (H' := [(Rw (Ki .u32) 99 (Vs g46) ([icv .u32 x4]))]) rfl) (wt_none' rfl) fun g47 => ?_
          refine sx_rd' (rd_assign' rfl) rfl rfl (wt_none' rfl) ?_
          refine sx_nil' ?_
          show TX E K23 _
          refine tx_k' hK23 ?_
          refine cx_region' ?_
          refine sx_rd' (rd_move' rfl) rfl rfl (wt_none' rfl) ?_
          obtain ⟨r49, hr49, hp⟩ := bind_some hp
          refine sx_rd' (rd_bin' rfl rfl eg_int (ru_shr hr49)) rfl rfl (wt_none' rfl) ?_
          refine sx_rd' (rd_assign' rfl) rfl rfl (wt_none' rfl) ?_
          refine sx_nil' ?_
          show TX E K18 _
          refine tx_k' hK18 ?_
          refine cx_region' ?_
          refine sx_rd' (rd_bin' rfl rfl eg_int ru_add) rfl rfl (wt_none' rfl) ?_
          refine sx_rd' (rd_move' rfl) rfl rfl (wt_none' rfl) ?_
          refine sx_nil' ?_
          show TX E (KY1 _) _
          exact tx_pick' [0] (sub_cons rfl (sub_cons rfl (sub_cons rfl (sub_cons rfl (sub_cons rfl (sub_cons rfl sub_nil)))))) (by decide) (pick_cons rfl pick_nil) (ih1 (r47, r49, (iadd .i64 x7 1)) g47 _ hp)
        · intro K21 hK21
          refine cx_seq' fun K22 hK22 => ?_
          refine cx_region' ?_
          refine sx_rd' (rd_move' rfl) rfl rfl (wt_none' rfl) ?_
          refine sx_rd' (rd_move' rfl) rfl rfl (wt_none' rfl) ?_
          refine sx_rd' (rd_len' rfl Try.underlying41) rfl rfl (wt_none' rfl) ?_
          refine sx_rd' (rd_bin' rfl rfl eg_int ru_lss) rfl rfl (wt_none' rfl) ?_
          refine sx_nil' ?_
          show TX E K22 _
          refine tx_k' hK22 ?_
          refine cx_cond' rfl (fun h6 => ?_) (fun h6 => ?_)
          · replace hp := (br_t h6).symm.trans hp
            refine cx_region' ?_
            refine sx_rd' (rd_move' rfl) rfl rfl (wt_none' rfl) ?_
            refine sx_rd' (rd_move' rfl) rfl rfl (wt_none' rfl) ?_
            refine sx_rd' (rd_move' rfl) rfl rfl (wt_none' rfl) ?_
            obtain ⟨r39, hr39, hp⟩ := bind_some hp
            refine sx_rd' (rd_at' (K := (Ki .u32)) rfl rfl hr39 Try.underlying41 info99) rfl rfl (wt_none' rfl) ?_
            refine sx_rd' (rd_load_pt' rfl rfl flat99) rfl rfl (wt_none' rfl) ?_
            refine sx_rd' (rd_conv' rfl (ru_i2i (by rw [Try.underlying99]; rfl) Try.underlying73)) rfl rfl (wt_none' rfl) ?_
            refine sx_rd' (rd_bin' rfl rfl eg_int ru_add) rfl rfl (wt_none' rfl) ?_
            refine sx_rd' (rd_assign' rfl) rfl rfl (wt_none' rfl) ?_
            refine sx_nil' ?_
            show TX E K21 _
            exact tx_pick' [0] (sub_cons rfl (sub_cons rfl (sub_cons rfl (sub_cons rfl (sub_cons rfl (sub_cons rfl sub_nil)))))) (by decide) (pick_cons rfl pick_nil) (hK21 (iadd .u64 (iadd .u64 (icv .u64 r26) x6) (icv .u64 r39)) hp)
          · replace hp := (br_f h6).symm.trans hp
            refine cx_skip' ?_
            show TX E K21 _
            exact tx_pick' [0] (sub_cons rfl (sub_cons rfl (sub_cons rfl (sub_cons rfl (sub_cons rfl (sub_cons rfl sub_nil)))))) (by decide) (pick_cons rfl pick_nil) (hK21 (iadd .u64 (icv .u64 r26) x6) hp)
      · replace hp := (br_f h5).symm.trans hp
        refine cx_exit' ?_
        replace hp := Option.some.inj hp
        subst hp
        show TX E (Zg E (Exit.exit 0) _ (Exit.exit 0)) _
        exact tx_zend' g901 rfl [0] (sub_cons rfl (sub_cons rfl sub_nil)) (by decide) (pick_cons rfl pick_nil)
    · refine zg_out fun w5 => ?_
      show TX E K6 _
      refine tx_k' hK6 ?_
      refine cx_seq' fun K24 hK24 => ?_
      refine cx_region' ?_
      refine sx_rd' (rd_move' rfl) rfl rfl (wt_none' rfl) ?_
      refine sx_rd' (rd_move' rfl) rfl rfl (wt_none' rfl) ?_
      refine sx_rd' (rd_conv' rfl (ru_i2i (by rw [Try.underlying73]; rfl) Try.underlying99)) rfl rfl (wt_none' rfl) ?_
      refine sx_ox' (ox_rowlit' (K := (Ki .u32)) (xs := [icv .u32 v5.2]) (qs := [(0, [(Vl (.int .u32 (icv .u32 v5.2)))])]) ⟨rfl, ⟨_, rfl, (lv_vl rfl rfl)⟩, trivial⟩ Try.underlying41 info99 rfl rfl rfl rfl rfl (by kernel_rfl) rfl rfl rfl) (wt_none' rfl) fun g54 => ?_
      obtain ⟨r55, hr55, hp⟩ := bind_some hp
      refine sx_ox' (ox_append' (K := (Ki .u32)) (i := 1) (xs := v5.1) (ys := ([icv .u32 v5.2])) rfl rfl rfl (sr_row' (j := 0) rfl rfl rfl Try.underlying41) hr55 Try.underlying41 info99 rfl rfl rfl (H' := [(Rw (Ki .u32) 99 (Vs g54) ([icv .u32 v5.2]))]) rfl) (wt_none' rfl) fun g55 => ?_
      refine tx_fz' (frz_row 0 [(55, (Vl (Vs g55)), (Sl (Ki .u32) r55))] (K := (Ki .u32)) (xs := r55) (by decide) rfl ⟨⟨rfl, frz_it⟩, trivial⟩ (H' := [(Rw (Ki .u32) 99 (Vs g54) ([icv .u32 v5.2]))]) frzH_refl) ?_
      obtain ⟨r56, hr56, hp⟩ := bind_some hp
      refine sx_ox' (ox_calln' (ent_fn' Try.func59 isn59 rfl rfl) (spec_trim_sim _ hr56 : Go.Sx.Fn Try.prog 59 [(Sl (Ki .u32) r55)] [] (fun x : Unit => (Sl (Ki .u32) r56)) (fun x => [])) (Hn := fun x : Unit => [(Rw (Ki .u32) 99 (Vs g54) ([icv .u32 v5.2]))]) (fun _ => rfl) rfl rfl) (wt_none' rfl) fun ⟨⟩ => ?_
      refine sx_rd' (rd_assign' rfl) rfl rfl (wt_none' rfl) ?_
      refine sx_nil' ?_
      show TX E K24 _
      refine tx_k' hK24 ?_
      refine cx_retc' ?_
      replace hp := Option.some.inj hp
      subst hp
      refine tx_pick' (L' := [(4, (Sl (Ki .u32) r56))]) (H' := []) [] (sub_cons rfl sub_nil) (by decide) pick_nil ?_
      exact tx_ret1' Try.results73 rfl () (rv_tmp' rfl) (List.Sublist.refl _)
  · intro K2 hK2
    refine cx_seq' fun K3 hK3 => ?_
    refine cx_region' ?_
    refine sx_rd' (rd_move' rfl) rfl rfl (wt_none' rfl) ?_
    refine sx_rd' (rd_len' rfl Try.underlying41) rfl rfl (wt_none' rfl) ?_
    refine sx_rd' (rd_move' rfl) rfl rfl (wt_none' rfl) ?_
    refine sx_rd' (rd_len' rfl Try.underlying41) rfl rfl (wt_none' rfl) ?_
    refine sx_rd' (rd_bin' rfl rfl eg_int ru_lss) rfl rfl (wt_none' rfl) ?_
    refine sx_nil' ?_
    show TX E K3 _
    refine tx_k' hK3 ?_
    refine cx_cond' rfl (fun h1 => ?_) (fun h1 => ?_)
    · replace hp := (br_t h1).symm.trans hp
      refine cx_region' ?_
      refine sx_rd' (rd_move' rfl) rfl rfl (wt_none' rfl) ?_
      refine sx_rd' (rd_move' rfl) rfl rfl (wt_none' rfl) ?_
      refine sx_rd' (rd_assign' rfl) rfl rfl (wt_none' rfl) ?_
      refine sx_rd' (rd_assign' rfl) rfl rfl (wt_none' rfl) ?_
      refine sx_nil' ?_
      show TX E K2 _
      exact tx_pick' [] (sub_cons rfl (sub_cons rfl sub_nil)) (by decide) pick_nil (hK2 (a1, a0) hp)
    · replace hp := (br_f h1).symm.trans hp
      refine cx_skip' ?_
      show TX E K2 _
      exact tx_pick' [] (sub_cons rfl (sub_cons rfl sub_nil)) (by decide) pick_nil (hK2 (a0, a1) hp)

def spec_cmpLimbs_l1s (a0 : List Int) (a1 : List Int) (k : Nat) (rec1 : Int → Option (Int ⊕ Unit)) (x1 : Int) : Option (Int ⊕ Unit) :=
  br (decide (0 ≤ x1))
    ((idx a0 x1) >>= fun r25 =>
    (idx a1 x1) >>= fun r29 =>
    br (!decide (r25 = r29))
      ((idx a0 x1) >>= fun r34 =>
      (idx a1 x1) >>= fun r38 =>
      br (decide (r34 < r38))
        (some (.inl (-1)))
        (some (.inl 1)))
      (rec1 (isub .i64 x1 1)))
    (some (.inr ()))
def spec_cmpLimbs_l1 (a0 : List Int) (a1 : List Int) : Nat → Int → Option (Int ⊕ Unit)
  | 0, _ => none
  | k + 1, v => spec_cmpLimbs_l1s a0 a1 k (spec_cmpLimbs_l1 a0 a1 k) v
def spec_cmpLimbs (k : Nat) (a0 : List Int) (a1 : List Int) : Option (Int) :=
  br (!decide ((a0.length : Int) = (a1.length : Int)))
    (br (decide ((a0.length : Int) < (a1.length : Int)))
      (some (-1))
      (some 1))
    ((spec_cmpLimbs_l1 a0 a1 k (isub .i64 (a0.length : Int) 1)) >>= fun y1 => match y1 with
      | (.inl v2) =>
        (some v2)
      | (.inr v3) =>
        (some 0))

theorem spec_cmpLimbs_sim {k : Nat}  (a0 : List Int) (a1 : List Int) {out : Int} (hp : spec_cmpLimbs k a0 a1 = some out) : Go.Sx.Fn Try.prog 74 [(Sl (Ki .u32) a0), (Sl (Ki .u32) a1)] [] (fun w : Unit => (Vl (.int .i64 out))) (fun w => []) := by
  unfold spec_cmpLimbs at hp
  refine fn_of Try.func74 rfl Try.ntmps74 rfl fun E hM => ?_
  refine cx_seq' fun K1 hK1 => ?_
  refine cx_region' ?_
  refine sx_rd' (rd_assign' rfl) rfl rfl (wt_none' rfl) ?_
  refine sx_nil' ?_
  show TX E K1 _
  refine tx_k' hK1 ?_
  refine cx_seq' fun K2 hK2 => ?_
  refine cx_seq' fun K3 hK3 => ?_
  refine cx_region' ?_
  refine sx_rd' (rd_move' rfl) rfl rfl (wt_none' rfl) ?_
  refine sx_rd' (rd_len' rfl Try.underlying41) rfl rfl (wt_none' rfl) ?_
  refine sx_rd' (rd_move' rfl) rfl rfl (wt_none' rfl) ?_
  refine sx_rd' (rd_len' rfl Try.underlying41) rfl rfl (wt_none' rfl) ?_
  refine sx_rd' (rd_bin' rfl rfl eg_int ru_neq) rfl rfl (wt_none' rfl) ?_
  refine sx_nil' ?_
  show TX E K3 _
  refine tx_k' hK3 ?_
  refine cx_cond' rfl (fun h1 => ?_) (fun h1 => ?_)
  · replace hp := (br_t h1).symm.trans hp
    refine cx_seq' fun K4 hK4 => ?_
    refine cx_seq' fun K5 hK5 => ?_
    refine cx_region' ?_
    refine sx_rd' (rd_move' rfl) rfl rfl (wt_none' rfl) ?_
    refine sx_rd' (rd_len' rfl Try.underlying41) rfl rfl (wt_none' rfl) ?_
    refine sx_rd' (rd_move' rfl) rfl rfl (wt_none' rfl) ?_
    refine sx_rd' (rd_len' rfl Try.underlying41) rfl rfl (wt_none' rfl) ?_
    refine sx_rd' (rd_bin' rfl rfl eg_int ru_lss) rfl rfl (wt_none' rfl) ?_
    refine sx_nil' ?_
    show TX E K5 _
    refine tx_k' hK5 ?_
    refine cx_cond' rfl (fun h2 => ?_) (fun h2 => ?_)
    · replace hp := (br_t h2).symm.trans hp
      refine cx_seq' fun K6 hK6 => ?_
      refine cx_region' ?_
      refine sx_rd' (rd_assign' rfl) rfl rfl (wt_none' rfl) ?_
      refine sx_nil' ?_
      show TX E K6 _
      refine tx_k' hK6 ?_
      refine cx_retc' ?_
      replace hp := Option.some.inj hp
      subst hp
      refine tx_pick' (L' := [(4, (Vl (.int .i64 (-1))))]) (H' := []) [] (sub_cons rfl sub_nil) (by decide) pick_nil ?_
      exact tx_ret1' Try.results74 rfl () (rv_tmp' rfl) (List.Sublist.refl _)
    · replace hp := (br_f h2).symm.trans hp
      refine cx_skip' ?_
      show TX E K4 _
      refine tx_k' hK4 ?_
      refine cx_seq' fun K7 hK7 => ?_
      refine cx_region' ?_
      refine sx_rd' (rd_assign' rfl) rfl rfl (wt_none' rfl) ?_
      refine sx_nil' ?_
      show TX E K7 _
      refine tx_k' hK7 ?_
      refine cx_retc' ?_
      replace hp := Option.some.inj hp
      subst hp
      refine tx_pick' (L' := [(4, (Vl (.int .i64 1)))]) (H' := []) [] (sub_cons rfl sub_nil) (by decide) pick_nil ?_
      exact tx_ret1' Try.results74 rfl () (rv_tmp' rfl) (List.Sublist.refl _)
  · replace hp := (br_f h1).symm.trans hp
    refine cx_skip' ?_
    show TX E K2 _
    refine tx_k' hK2 ?_
    refine cx_seq' fun K8 hK8 => ?_
    refine cx_seq' fun K9 hK9 => ?_
    refine cx_region' ?_
    refine sx_rd' (rd_move' rfl) rfl rfl (wt_none' rfl) ?_
    refine sx_rd' (rd_len' rfl Try.underlying41) rfl rfl (wt_none' rfl) ?_
    refine sx_rd' (rd_bin' rfl rfl eg_int ru_sub) rfl rfl (wt_none' rfl) ?_
    refine sx_rd' (rd_assign' rfl) rfl rfl (wt_none' rfl) ?_
    refine sx_nil' ?_
    show TX E K9 _
    refine tx_k' hK9 ?_
    refine cx_block' ?_
    obtain ⟨y1, hy1, hp⟩ := bind_some hp
    refine cx_loopg' (F := spec_cmpLimbs_l1 a0 a1) (G := fun k R v => spec_cmpLimbs_l1s a0 a1 k R v) (x := (isub .i64 (a0.length : Int) 1)) (gh := ()) (fun (v1 : Int) (w1 : Unit) => (⟨41, [], [(0, (Sl (Ki .u32) a0)), (1, (Sl (Ki .u32) a1)), (5, (Vl (.int .i64 v1)))], []⟩ : St)) (fun (y : Int ⊕ Unit) => match y with | (.inl v2) => Zg E Exit.ret (fun (w2 : Unit) => (⟨41, [], [(4, (Vl (.int .i64 v2)))], []⟩ : St)) | (.inr v3) => Zg E (Exit.exit 0) (fun (w3 : Unit) => (⟨41, [], [], []⟩ : St))) (fun _ => rfl) (fun _ _ => rfl) ?_ hy1 (tx_to' rfl [] (sub_cons rfl (sub_cons rfl (sub_cons rfl sub_nil))) (by decide) pick_nil) ?_
    · clear hp hy1
      clear y1
      intro k rec1 KY1 ih1
      rintro x1 ⟨⟩ y1 hp
      replace hp : spec_cmpLimbs_l1s a0 a1 k rec1 x1 = some y1 := hp
      unfold spec_cmpLimbs_l1s at hp
      refine cx_seq' fun K18 hK18 => ?_
      refine cx_seq' fun K19 hK19 => ?_
      refine cx_region' ?_
      refine sx_rd' (rd_move' rfl) rfl rfl (wt_none' rfl) ?_
      refine sx_rd' (rd_bin' rfl rfl eg_int ru_geq) rfl rfl (wt_none' rfl) ?_
      refine sx_nil' ?_
      show TX E K19 _
      refine tx_k' hK19 ?_
      refine cx_cond' rfl (fun h7 => ?_) (fun h7 => ?_)
      · replace hp := (br_t h7).symm.trans hp
        refine cx_skip' ?_
        show TX E K18 _
        refine tx_k' hK18 ?_
        refine cx_seq' fun K20 hK20 => ?_
        refine cx_block' ?_
        refine cx_seq' fun K21 hK21 => ?_
        refine cx_draw' mixed (by kernel_rfl) ?_
        refine qx_rd' (rd_move' rfl) rfl rfl (wt_none' rfl) ?_
        refine qx_rd' (rd_move' rfl) rfl rfl (wt_none' rfl) ?_
        obtain ⟨r25, hr25, hp⟩ := bind_some hp
        refine qx_rd' (rd_at' (K := (Ki .u32)) rfl rfl hr25 Try.underlying41 info99) rfl rfl (wt_none' rfl) ?_
        refine qx_rd' (rd_load_pt' rfl rfl flat99) rfl rfl (wt_none' rfl) ?_
        refine qx_rd' (rd_move' rfl) rfl rfl (wt_none' rfl) ?_
        refine qx_rd' (rd_move' rfl) rfl rfl (wt_none' rfl) ?_
        obtain ⟨r29, hr29, hp⟩ := bind_some hp
        refine qx_rd' (rd_at' (K := (Ki .u32)) rfl rfl hr29 Try.underlying41 info99) rfl rfl (wt_none' rfl) ?_
        refine qx_rd' (rd_load_pt' rfl rfl flat99) rfl rfl (wt_none' rfl) ?_
        refine qx_rd' (rd_bin' rfl rfl eg_int ru_neq) rfl rfl (wt_none' rfl) ?_
        refine qx_nil' ?_
        show TX E K21 _
        refine tx_k' hK21 ?_
        refine cx_cond' rfl (fun h8 => ?_) (fun h8 => ?_)
        · replace hp := (br_t h8).symm.trans hp
          refine cx_seq' fun K22 hK22 => ?_
          refine cx_seq' fun K23 hK23 => ?_
          refine cx_draw' mixed (by kernel_rfl) ?_
          refine qx_rd' (rd_move' rfl) rfl rfl (wt_none' rfl) ?_
          refine qx_rd' (rd_move' rfl) rfl rfl (wt_none' rfl) ?_
          obtain ⟨r34, hr34, hp⟩ := bind_some hp
          refine qx_rd' (rd_at' (K := (Ki .u32)) rfl rfl hr34 Try.underlying41 info99) rfl rfl (wt_none' rfl) ?_
          refine qx_rd' (rd_load_pt' rfl rfl flat99) rfl rfl (wt_none' rfl) ?_
          refine qx_rd' (rd_move' rfl) rfl rfl (wt_none' rfl) ?_
          refine qx_rd' (rd_move' rfl) rfl rfl (wt_none' rfl) ?_
          obtain ⟨r38, hr38, hp⟩ := bind_some hp
          refine qx_rd' (rd_at' (K := (Ki .u32)) rfl rfl hr38 Try.underlying41 info99) rfl rfl (wt_none' rfl) ?_
          refine qx_rd' (rd_load_pt' rfl rfl flat99) rfl rfl (wt_none' rfl) ?_
          refine qx_rd' (rd_bin' rfl rfl eg_int ru_lss) rfl rfl (wt_none' rfl) ?_
          refine qx_nil' ?_
          show TX E K23 _
          refine tx_k' hK23 ?_
          refine cx_cond' rfl (fun h9 => ?_) (fun h9 => ?_)
          · replace hp := (br_t h9).symm.trans hp
            refine cx_seq' fun K24 hK24 => ?_
            refine cx_region' ?_
            refine sx_rd' (rd_assign' rfl) rfl rfl (wt_none' rfl) ?_
            refine sx_nil' ?_
            show TX E K24 _
            refine tx_k' hK24 ?_
            refine cx_retc' ?_
            replace hp := Option.some.inj hp
            subst hp
            show TX E (Zg E Exit.ret _ Exit.ret) _
            exact tx_zend' () rfl [] (sub_cons rfl sub_nil) (by decide) pick_nil
          · replace hp := (br_f h9).symm.trans hp
            refine cx_skip' ?_
            show TX E K22 _
            refine tx_k' hK22 ?_
            refine cx_seq' fun K25 hK25 => ?_
            refine cx_region' ?_
            refine sx_rd' (rd_assign' rfl) rfl rfl (wt_none' rfl) ?_
            refine sx_nil' ?_
            show TX E K25 _
            refine tx_k' hK25 ?_
            refine cx_retc' ?_
            replace hp := Option.some.inj hp
            subst hp
            show TX E (Zg E Exit.ret _ Exit.ret) _
            exact tx_zend' () rfl [] (sub_cons rfl sub_nil) (by decide) pick_nil
        · replace hp := (br_f h8).symm.trans hp
          refine cx_skip' ?_
          show TX E K20 _
          refine tx_k' hK20 ?_
          refine cx_region' ?_
          refine sx_rd' (rd_move' rfl) rfl rfl (wt_none' rfl) ?_
          refine sx_rd' (rd_bin' rfl rfl eg_int ru_sub) rfl rfl (wt_none' rfl) ?_
          refine sx_rd' (rd_assign' rfl) rfl rfl (wt_none' rfl) ?_
          refine sx_nil' ?_
          show TX E (KY1 _) _
          exact tx_pick' [] (sub_cons rfl (sub_cons rfl (sub_cons rfl sub_nil))) (by decide) pick_nil (ih1 (isub .i64 x1 1) () _ hp)
      · replace hp := (br_f h7).symm.trans hp
        refine cx_exit' ?_
        replace hp := Option.some.inj hp
        subst hp
        show TX E (Zg E (Exit.exit 0) _ (Exit.exit 0)) _
        exact tx_zend' () rfl [] sub_nil (by decide) pick_nil
    · rcases y1 with v2 | v3
      · dsimp only at hp
        refine zg_out fun w2 => ?_
        replace hp := Option.some.inj hp
        subst hp
        refine tx_pick' (L' := [(4, (Vl (.int .i64 v2)))]) (H' := []) [] (sub_cons rfl sub_nil) (by decide) pick_nil ?_
        exact tx_ret1' Try.results74 rfl () (rv_tmp' rfl) (List.Sublist.refl _)
      · dsimp only at hp
        refine zg_out fun w3 => ?_
        show TX E K8 _
        refine tx_k' hK8 ?_
        refine cx_seq' fun K26 hK26 => ?_
        refine cx_region' ?_
        refine sx_rd' (rd_assign' rfl) rfl rfl (wt_none' rfl) ?_
        refine sx_nil' ?_
        show TX E K26 _
        refine tx_k' hK26 ?_
        refine cx_retc' ?_
        replace hp := Option.some.inj hp
        subst hp
        refine tx_pick' (L' := [(4, (Vl (.int .i64 0)))]) (H' := []) [] (sub_cons rfl sub_nil) (by decide) pick_nil ?_
        exact tx_ret1' Try.results74 rfl () (rv_tmp' rfl) (List.Sublist.refl _)

def spec_subLimbs_j4 (k : Nat) (x5 : List Int) (r18 : Int) (x3 : Int) (rec1 : ((List Int) × Int × Int) → Option ((List Int))) (x7 : Int) (x4 : Int) : Option ((List Int)) :=
  (ishl .u64 x4 32) >>= fun r40 =>
  (apd 4 x5 ([icv .u32 (isub .u64 (iadd .u64 (icv .u64 r18) r40) x3)])) >>= fun r46 =>
  rec1 (r46, x4, (iadd .i64 x7 1))
def spec_subLimbs_j3 (k : Nat) (r18 : Int) (x5 : List Int) (rec1 : ((List Int) × Int × Int) → Option ((List Int))) (x7 : Int) (x3 : Int) : Option ((List Int)) :=
  br (decide ((icv .u64 r18) < x3))
    (spec_subLimbs_j4 k x5 r18 x3 rec1 x7 1)
    (spec_subLimbs_j4 k x5 r18 x3 rec1 x7 0)
def spec_subLimbs_l1s (a0 : List Int) (a1 : List Int) (k : Nat) (rec1 : ((List Int) × Int × Int) → Option ((List Int))) (x5 : List Int) (x6 : Int) (x7 : Int) : Option ((List Int)) :=
  br (decide (x7 < (a0.length : Int)))
    ((idx a0 x7) >>= fun r18 =>
    br (decide (x7 < (a1.length : Int)))
      ((idx a1 x7) >>= fun r28 =>
      spec_subLimbs_j3 k r18 x5 rec1 x7 (iadd .u64 x6 (icv .u64 r28)))
      (spec_subLimbs_j3 k r18 x5 rec1 x7 x6))
    (some x5)
def spec_subLimbs_l1 (a0 : List Int) (a1 : List Int) : Nat → ((List Int) × Int × Int) → Option ((List Int))
  | 0, _ => none
  | k + 1, v => spec_subLimbs_l1s a0 a1 k (spec_subLimbs_l1 a0 a1 k) v.1 v.2.1 v.2.2
def spec_subLimbs (k : Nat) (a0 : List Int) (a1 : List Int) : Option ((List Int)) :=
  (mk 4 0 0 (a0.length : Int)) >>= fun r12 =>
  (spec_subLimbs_l1 a0 a1 k (r12, 0, 0)) >>= fun v6 =>
  (spec_trim k v6) >>= fun r49 =>
  some r49

theorem spec_subLimbs_sim {k : Nat}  (a0 : List Int) (a1 : List Int) {out : (List Int)} (hp : spec_subLimbs k a0 a1 = some out) : Go.Sx.Fn Try.prog 75 [(Sl (Ki .u32) a0), (Sl (Ki .u32) a1)] [] (fun w : Unit => (Sl (Ki .u32) out)) (fun w => []) := by
  unfold spec_subLimbs at hp
  refine fn_of Try.func75 rfl Try.ntmps75 rfl fun E hM => ?_
  refine cx_seq' fun K1 hK1 => ?_
  refine cx_region' ?_
  refine sx_rd' (rd_assign' rfl) rfl rfl (wt_none' rfl) ?_
  refine sx_nil' ?_
  show TX E K1 _
  refine tx_k' hK1 ?_
  refine cx_seq' fun K2 hK2 => ?_
  refine cx_region' ?_
  refine sx_rd' (rd_move' rfl) rfl rfl (wt_none' rfl) ?_
  refine sx_rd' (rd_len' rfl Try.underlying41) rfl rfl (wt_none' rfl) ?_
  obtain ⟨r12, hr12, hp⟩ := bind_some hp
  refine sx_ox' (ox_make' (K := (Ki .u32)) rfl rfl hr12 rfl Try.underlying41 info99 rfl rfl rfl rfl rfl) (wt_none' rfl) fun g12 => ?_
  refine sx_rd' (rd_assign' rfl) rfl rfl (wt_none' rfl) ?_
  refine sx_nil' ?_
  show TX E K2 _
  refine tx_k' hK2 ?_
  refine cx_seq' fun K3 hK3 => ?_
  refine cx_region' ?_
  refine sx_rd' (rd_assign' rfl) rfl rfl (wt_none' rfl) ?_
  refine sx_nil' ?_
  show TX E K3 _
  refine tx_k' hK3 ?_
  refine cx_seq' fun K4 hK4 => ?_
  refine cx_seq' fun K5 hK5 => ?_
  refine cx_region' ?_
  refine sx_rd' (rd_move' rfl) rfl rfl (wt_none' rfl) ?_
  refine sx_rd' (rd_len' rfl Try.underlying41) rfl rfl (wt_none' rfl) ?_
  refine sx_rd' (rd_move' rfl) rfl rfl (wt_none' rfl) ?_
  refine sx_nil' ?_
  show TX E K5 _
  refine tx_k' hK5 ?_
  refine cx_block' ?_
  obtain ⟨v6, hy1, hp⟩ := bind_some hp
  refine cx_loopg' (F := spec_subLimbs_l1 a0 a1) (G := fun k R v => spec_subLimbs_l1s a0 a1 k R v.1 v.2.1 v.2.2) (x := (r12, 0, 0)) (gh := g12) (fun (v3 : (List Int) × Int × Int) (w3 : Gs) => (⟨50, [], [(1, (Sl (Ki .u32) a1)), (5, (Vl (Vs w3))), (6, (Vl (.int .u64 v3.2.1))), (13, (Sl (Ki .u32) a0)), (14, (Vl (.int .i64 (a0.length : Int)))), (15, (Vl (.int .i64 v3.2.2)))], [(Rw (Ki .u32) 99 (Vs w3) v3.1)]⟩ : St)) (fun (v6 : (List Int)) => Zg E (Exit.exit 0) (fun (w6 : Gs) => (⟨50, [], [(5, (Vl (Vs w6)))], [(Rw (Ki .u32) 99 (Vs w6) v6)]⟩ : St))) (fun _ => rfl) (fun _ _ => rfl) ?_ hy1 (tx_to' rfl [0] (sub_cons rfl (sub_cons rfl (sub_cons rfl (sub_cons rfl (sub_cons rfl (sub_cons rfl sub_nil)))))) (by decide) (pick_cons rfl pick_nil)) ?_
  · clear hp hy1
    clear v6
    intro k rec1 KY1 ih1
    rintro ⟨x5, x6, x7⟩ g901 y1 hp
    replace hp : spec_subLimbs_l1s a0 a1 k rec1 x5 x6 x7 = some y1 := hp
    unfold spec_subLimbs_l1s at hp
    refine cx_seq' fun K16 hK16 => ?_
    refine cx_region' ?_
    refine sx_rd' (rd_bin' rfl rfl eg_int ru_lss) rfl rfl (wt_none' rfl) ?_
    refine sx_nil' ?_
    show TX E K16 _
    refine tx_k' hK16 ?_
    refine cx_seq' fun K17 hK17 => ?_
    refine cx_cond' rfl (fun h5 => ?_) (fun h5 => ?_)
    · replace hp := (br_t h5).symm.trans hp
      refine cx_skip' ?_
      show TX E K17 _
      refine tx_k' hK17 ?_
      refine cx_seq' fun K18 hK18 => ?_
      refine cx_block' ?_
      refine cx_seq' fun K19 hK19 => ?_
      refine cx_region' ?_
      refine sx_rd' (rd_move' rfl) rfl rfl (wt_none' rfl) ?_
      obtain ⟨r18, hr18, hp⟩ := bind_some hp
      refine sx_rd' (rd_at' (K := (Ki .u32)) rfl rfl hr18 Try.underlying41 info99) rfl rfl (wt_none' rfl) ?_
      refine sx_rd' (rd_load_pt' rfl rfl flat99) rfl rfl (wt_none' rfl) ?_
      refine sx_rd' (rd_assign' rfl) rfl rfl (wt_none' rfl) ?_
      refine sx_rd' (rd_assign' rfl) rfl rfl (wt_none' rfl) ?_
      refine sx_nil' ?_
      show TX E K19 _
      refine tx_k' hK19 ?_
      refine cx_seq' fun K20 hK20 => ?_
      refine cx_region' ?_
      refine sx_rd' (rd_move' rfl) rfl rfl (wt_none' rfl) ?_
      refine sx_rd' (rd_assign' rfl) rfl rfl (wt_none' rfl) ?_
      refine sx_nil' ?_
      show TX E K20 _
      refine tx_k' hK20 ?_
      refine cx_join' (fun (v4 : Int) => (⟨50, [], [(1, (Sl (Ki .u32) a1)), (5, (Vl (Vs g901))), (8, (Vl (.int .u32 r18))), (9, (Vl (.int .u64 v4))), (13, (Sl (Ki .u32) a0)), (14, (Vl (.int .i64 (a0.length : Int)))), (15, (Vl (.int .i64 x7)))], [(Rw (Ki .u32) 99 (Vs g901) x5)]⟩ : St)) (fun (v4 : Int) => spec_subLimbs_j3 k r18 x5 rec1 x7 v4 = some y1) ?_ ?_
      · rintro x3 hp
        replace hp : spec_subLimbs_j3 k r18 x5 rec1 x7 x3 = some y1 := hp
        unfold spec_subLimbs_j3 at hp
        refine cx_seq' fun K23 hK23 => ?_
        refine cx_region' ?_
        refine sx_rd' (rd_assign' rfl) rfl rfl (wt_none' rfl) ?_
        refine sx_nil' ?_
        show TX E K23 _
        refine tx_k' hK23 ?_
        refine cx_join' (fun (v5 : Int) => (⟨50, [], [(1, (Sl (Ki .u32) a1)), (5, (Vl (Vs g901))), (6, (Vl (.int .u64 v5))), (8, (Vl (.int .u32 r18))), (9, (Vl (.int .u64 x3))), (13, (Sl (Ki .u32) a0)), (14, (Vl (.int .i64 (a0.length : Int)))), (15, (Vl (.int .i64 x7)))], [(Rw (Ki .u32) 99 (Vs g901) x5)]⟩ : St)) (fun (v5 : Int) => spec_subLimbs_j4 k x5 r18 x3 rec1 x7 v5 = some y1) ?_ ?_
        · rintro x4 hp
          replace hp : spec_subLimbs_j4 k x5 r18 x3 rec1 x7 x4 = some y1 := hp
          unfold spec_subLimbs_j4 at hp
          refine cx_region' ?_
          refine sx_rd' (rd_move' rfl) rfl rfl (wt_none' rfl) ?_
          refine sx_rd' (rd_move' rfl) rfl rfl (wt_none' rfl) ?_
          refine sx_rd' (rd_conv' rfl (ru_i2i (by rw [Try.underlying99]; rfl) Try.underlying73)) rfl rfl (wt_none' rfl) ?_
          refine sx_rd' (rd_move' rfl) rfl rfl (wt_none' rfl) ?_
          obtain ⟨r40, hr40, hp⟩ := bind_some hp
          refine sx_rd' (rd_bin' rfl rfl eg_int (ru_shl hr40)) rfl rfl (wt_none' rfl) ?_
          refine sx_rd' (rd_bin' rfl rfl eg_int ru_add) rfl rfl (wt_none' rfl) ?_
          refine sx_rd' (rd_move' rfl) rfl rfl (wt_none' rfl) ?_
          refine sx_rd' (rd_bin' rfl rfl eg_int ru_sub) rfl rfl (wt_none' rfl) ?_
          refine sx_rd' (rd_conv' rfl (ru_i2i (by rw [Try.underlying73]; rfl) Try.underlying99)) rfl rfl (wt_none' rfl) ?_
          refine sx_ox' (ox_rowlit' (K := (Ki .u32)) (xs := [icv .u32 (isub .u64 (iadd .u64 (icv .u64 r18) r40) x3)]) (qs := [(0, [(Vl (.int .u32 (icv .u32 (isub .u64 (iadd .u64 (icv .u64 r18) r40) x3))))])]) ⟨rfl, ⟨_, rfl, (lv_vl rfl rfl)⟩, trivial⟩ Try.underlying41 info99 rfl rfl rfl rfl rfl (by kernel_rfl) rfl rfl rfl) (wt_none' rfl) fun g45 => ?_
          obtain ⟨r46, hr46, hp⟩ := bind_some hp
          refine sx_ox' (ox_append' (K := (Ki .u32)) (i := 1) (xs := x5) (ys := ([icv .u32 (isub .u64 (iadd .u64 (icv .u64 r18) r40) x3)])) rfl rfl rfl (sr_row' (j := 0) rfl rfl rfl Try.underlying41) hr46 Try.underlying41 info99 rfl rfl rfl (H' := [(Rw (Ki .u32) 99 (Vs g45) ([icv .u32 (isub .u64 (iadd .u64 (icv .u64 r18) r40) x3)]))]) rfl) (wt_none' rfl) fun g46 => ?_
          refine sx_rd' (rd_assign' rfl) rfl rfl (wt_none' rfl) ?_
          refine sx_nil' ?_
          show TX E K18 _
          refine tx_k' hK18 ?_
          refine cx_region' ?_
          refine sx_rd' (rd_bin' rfl rfl eg_int ru_add) rfl rfl (wt_none' rfl) ?_
          refine sx_rd' (rd_move' rfl) rfl rfl (wt_none' rfl) ?_
          refine sx_nil' ?_
          show TX E (KY1 _) _
          exact tx_pick' [0] (sub_cons rfl (sub_cons rfl (sub_cons rfl (sub_cons rfl (sub_cons rfl (sub_cons rfl sub_nil)))))) (by decide) (pick_cons rfl pick_nil) (ih1 (r46, x4, (iadd .i64 x7 1)) g46 _ hp)
        · intro K24 hK24
          refine cx_seq' fun K25 hK25 => ?_
          refine cx_region' ?_
          refine sx_rd' (rd_move' rfl) rfl rfl (wt_none' rfl) ?_
          refine sx_rd' (rd_conv' rfl (ru_i2i (by rw [Try.underlying99]; rfl) Try.underlying73)) rfl rfl (wt_none' rfl) ?_
          refine sx_rd' (rd_move' rfl) rfl rfl (wt_none' rfl) ?_
          refine sx_rd' (rd_bin' rfl rfl eg_int ru_lss) rfl rfl (wt_none' rfl) ?_
          refine sx_nil' ?_
          show TX E K25 _
          refine tx_k' hK25 ?_
          refine cx_cond' rfl (fun h7 => ?_) (fun h7 => ?_)
          · replace hp := (br_t h7).symm.trans hp
            refine cx_region' ?_
            refine sx_rd' (rd_assign' rfl) rfl rfl (wt_none' rfl) ?_
            refine sx_nil' ?_
            show TX E K24 _
            exact tx_pick' [0] (sub_cons rfl (sub_cons rfl (sub_cons rfl (sub_cons rfl (sub_cons rfl (sub_cons rfl (sub_cons rfl (sub_cons rfl sub_nil)))))))) (by decide) (pick_cons rfl pick_nil) (hK24 1 hp)
          · replace hp := (br_f h7).symm.trans hp
            refine cx_skip' ?_
            show TX E K24 _
            exact tx_pick' [0] (sub_cons rfl (sub_cons rfl (sub_cons rfl (sub_cons rfl (sub_cons rfl (sub_cons rfl (sub_cons rfl (sub_cons rfl sub_nil)))))))) (by decide) (pick_cons rfl pick_nil) (hK24 0 hp)
      · intro K21 hK21
        refine cx_seq' fun K22 hK22 => ?_
        refine cx_region' ?_
        refine sx_rd' (rd_move' rfl) rfl rfl (wt_none' rfl) ?_
        refine sx_rd' (rd_move' rfl) rfl rfl (wt_none' rfl) ?_
        refine sx_rd' (rd_len' rfl Try.underlying41) rfl rfl (wt_none' rfl) ?_
        refine sx_rd' (rd_bin' rfl rfl eg_int ru_lss) rfl rfl (wt_none' rfl) ?_
        refine sx_nil' ?_
        show TX E K22 _
        refine tx_k' hK22 ?_
        refine cx_cond' rfl (fun h6 => ?_) (fun h6 => ?_)
        · replace hp := (br_t h6).symm.trans hp
          refine cx_region' ?_
          refine sx_rd' (rd_move' rfl) rfl rfl (wt_none' rfl) ?_
          refine sx_rd' (rd_move' rfl) rfl rfl (wt_none' rfl) ?_
          refine sx_rd' (rd_move' rfl) rfl rfl (wt_none' rfl) ?_
          obtain ⟨r28, hr28, hp⟩ := bind_some hp
          refine sx_rd' (rd_at' (K := (Ki .u32)) rfl rfl hr28 Try.underlying41 info99) rfl rfl (wt_none' rfl) ?_
          refine sx_rd' (rd_load_pt' rfl rfl flat99) rfl rfl (wt_none' rfl) ?_
          refine sx_rd' (rd_conv' rfl (ru_i2i (by rw [Try.underlying99]; rfl) Try.underlying73)) rfl rfl (wt_none' rfl) ?_
          refine sx_rd' (rd_bin' rfl rfl eg_int ru_add) rfl rfl (wt_none' rfl) ?_
          refine sx_rd' (rd_assign' rfl) rfl rfl (wt_none' rfl) ?_
          refine sx_nil' ?_
          show TX E K21 _
          exact tx_pick' [0] (sub_cons rfl (sub_cons rfl (sub_cons rfl (sub_cons rfl (sub_cons rfl (sub_cons rfl (sub_cons rfl sub_nil))))))) (by decide) (pick_cons rfl pick_nil) (hK21 (iadd .u64 x6 (icv .u64 r28)) hp)
        · replace hp := (br_f h6).symm.trans hp
          refine cx_skip' ?_
          show TX E K21 _
          exact tx_pick' [0] (sub_cons rfl (sub_cons rfl (sub_cons rfl (sub_cons rfl (sub_cons rfl (sub_cons rfl (sub_cons rfl sub_nil))))))) (by decide) (pick_cons rfl pick_nil) (hK21 x6 hp)
    · replace hp := (br_f h5).symm.trans hp
      refine cx_exit' ?_
      replace hp := Option.some.inj hp
      subst hp
      show TX E (Zg E (Exit.exit 0) _ (Exit.exit 0)) _
      exact tx_zend' g901 rfl [0] (sub_cons rfl sub_nil) (by decide) (pick_cons rfl pick_nil)
  · refine zg_out fun w6 => ?_
    show TX E K4 _
    refine tx_k' hK4 ?_
    refine cx_seq' fun K26 hK26 => ?_
    refine cx_region' ?_
    refine sx_rd' (rd_move' rfl) rfl rfl (wt_none' rfl) ?_
    refine tx_fz' (frz_row 0 [(5, (Vl (Vs w6)), (Sl (Ki .u32) v6)), (48, (Vl (Vs w6)), (Sl (Ki .u32) v6))] (K := (Ki .u32)) (xs := v6) (by decide) rfl ⟨⟨rfl, frz_it⟩, ⟨rfl, frz_it⟩, trivial⟩ (H' := []) frzH_refl) ?_
    obtain ⟨r49, hr49, hp⟩ := bind_some hp
    refine sx_ox' (ox_calln' (ent_fn' Try.func59 isn59 rfl rfl) (spec_trim_sim _ hr49 : Go.Sx.Fn Try.prog 59 [(Sl (Ki .u32) v6)] [] (fun x : Unit => (Sl (Ki .u32) r49)) (fun x => [])) (Hn := fun x : Unit => []) (fun _ => rfl) rfl rfl) (wt_none' rfl) fun ⟨⟩ => ?_
    refine sx_rd' (rd_assign' rfl) rfl rfl (wt_none' rfl) ?_
    refine sx_nil' ?_
    show TX E K26 _
    refine tx_k' hK26 ?_
    refine cx_retc' ?_
    replace hp := Option.some.inj hp
    subst hp
    refine tx_pick' (L' := [(4, (Sl (Ki .u32) r49))]) (H' := []) [] (sub_cons rfl sub_nil) (by decide) pick_nil ?_
    exact tx_ret1' Try.results75 rfl () (rv_tmp' rfl) (List.Sublist.refl _)

def spec_Whole_Add (k : Nat) (a0_0 : Bool) (a0_1 : List Int) (a1_0 : Bool) (a1_1 : List Int) : Option (Bool × (List Int)) :=
  br (a0_0 == a1_0)
    ((spec_addLimbs k a0_1 a1_1) >>= fun r16 =>
    some (a0_0, r16))
    ((spec_cmpLimbs k a0_1 a1_1) >>= fun r22 =>
    br (decide (r22 = 0))
      (some (false, []))
      (br (decide (r22 = 1))
        ((spec_subLimbs k a0_1 a1_1) >>= fun r34 =>
        some (a0_0, r34))
        ((spec_subLimbs k a1_1 a0_1) >>= fun r42 =>
        some (a1_0, r42))))

theorem spec_Whole_Add_sim {k : Nat}  (a0_0 : Bool) (a0_1 : List Int) (a1_0 : Bool) (a1_1 : List Int) {out : Bool × (List Int)} (hp : spec_Whole_Add k a0_0 a0_1 a1_0 a1_1 = some out) : Go.Sx.Fn Try.prog 61 [(Ag [(Vl (.bool a0_0)), (Sl (Ki .u32) a0_1)]), (Ag [(Vl (.bool a1_0)), (Sl (Ki .u32) a1_1)])] [] (fun w : Unit => (Ag [(Vl (.bool out.1)), (Sl (Ki .u32) out.2)])) (fun w => []) := by
  unfold spec_Whole_Add at hp
  refine fn_of Try.func61 rfl Try.ntmps61 rfl fun E hM => ?_
  refine cx_seq' fun K1 hK1 => ?_
  refine cx_region' ?_
  refine sx_ox' (ox_box' rfl (lv_ag _) rfl rfl) (wt_none' rfl) fun q2 => ?_
  refine sx_ox' (ox_box' rfl (lv_ag _) rfl rfl) (wt_none' rfl) fun q3 => ?_
  refine sx_ox' (ox_alloc' info43 rfl rfl rfl rfl (l := [(Vl (.bool false)), (Vl (.slice none 0 0))]) rfl) (wt_none' rfl) fun q4 => ?_
  refine sx_nil' ?_
  show TX E K1 _
  refine tx_k' hK1 ?_
  refine cx_seq' fun K2 hK2 => ?_
  refine cx_seq' fun K3 hK3 => ?_
  refine cx_region' ?_
  refine sx_rd' (rd_field0' rfl Try.underlying43 rfl info4 rfl) rfl rfl (wt_none' rfl) ?_
  refine sx_rd' (rd_load' (i := 2) (o := 0) rfl ⟨rfl, rfl, rfl, rfl⟩ rfl flat4) rfl rfl (wt_none' rfl) ?_
  refine sx_rd' (rd_field0' rfl Try.underlying43 rfl info4 rfl) rfl rfl (wt_none' rfl) ?_
  refine sx_rd' (rd_load' (i := 1) (o := 0) rfl ⟨rfl, rfl, rfl, rfl⟩ rfl flat4) rfl rfl (wt_none' rfl) ?_
  refine sx_rd' (rd_bin' rfl rfl eg_bool (ru_beq Try.underlying4)) rfl rfl (wt_none' rfl) ?_
  refine sx_nil' ?_
  show TX E K3 _
  refine tx_k' hK3 ?_
  refine cx_cond' rfl (fun h1 => ?_) (fun h1 => ?_)
  · replace hp := (br_t h1).symm.trans hp
    refine cx_seq' fun K4 hK4 => ?_
    refine cx_plan' [] [(8, 1)] [(0, 1), (1, 1), (2, 1), (3, 1), (4, 1), (5, 1), (6, 0), (7, 1), (8, 0)] mixed (by kernel_rfl) ?_
    refine px_rd' rfl (rd_field0' rfl Try.underlying43 rfl info4 rfl) rfl rfl (wt_none' rfl) ?_
    refine px_rd' rfl (rd_load' (i := 2) (o := 0) rfl ⟨rfl, rfl, rfl, rfl⟩ rfl flat4) rfl rfl (wt_none' rfl) ?_
    refine px_rd' rfl (rd_field' (off := 1) rfl Try.underlying43 rfl info41 rfl) rfl rfl (wt_none' rfl) ?_
    refine px_rd' rfl (rd_load' (i := 2) (o := 1) rfl ⟨rfl, rfl, rfl, rfl⟩ rfl flat41) rfl rfl (wt_none' rfl) ?_
    refine px_rd' rfl (rd_field' (off := 1) rfl Try.underlying43 rfl info41 rfl) rfl rfl (wt_none' rfl) ?_
    refine px_rd' rfl (rd_load' (i := 1) (o := 1) rfl ⟨rfl, rfl, rfl, rfl⟩ rfl flat41) rfl rfl (wt_none' rfl) ?_
    obtain ⟨r16, hr16, hp⟩ := bind_some hp
    refine px_ox' rfl (ox_calln' (ent_fn' Try.func73 isn73 rfl rfl) (spec_addLimbs_sim _ _ hr16 : Go.Sx.Fn Try.prog 73 [(Sl (Ki .u32) a0_1), (Sl (Ki .u32) a1_1)] [] (fun x : Unit => (Sl (Ki .u32) r16)) (fun x => [])) (Hn := fun x : Unit => [⟨.pointer (some q4), [(Vl (.bool false)), (Vl (.slice none 0 0))], 43, none⟩, ⟨.pointer (some q3), [(Vl (.bool a1_0)), (Sl (Ki .u32) a1_1)], 43, none⟩, ⟨.pointer (some q2), [(Vl (.bool a0_0)), (Sl (Ki .u32) a0_1)], 43, none⟩]) (fun _ => rfl) rfl rfl) rfl bs_nil (wt_none' rfl) fun ⟨⟩ => ?_
    refine px_rd' rfl (rd_build' (pls := [(0, 1), (1, 1)]) (qs := [(0, [(Vl (.bool a0_0))]), (1, [(Sl (Ki .u32) r16)])]) (r := [(Vl (.bool a0_0)), (Sl (Ki .u32) r16)]) ⟨rfl, ⟨_, rfl, (lv_vl rfl rfl)⟩, ⟨rfl, ⟨_, rfl, (lv_sl _ _)⟩, trivial⟩⟩ Try.underlying43 has43 places43 info43 rfl rfl rfl) rfl rfl (wt_none' rfl) ?_
    refine px_oxv' rfl (oxv_store (i := 0) (o := 0) rfl rfl (lv_ag _) ⟨rfl, rfl, rfl, rfl⟩ rfl info43 rfl (H' := [⟨.pointer (some q4), [(Vl (.bool a0_0)), (Sl (Ki .u32) r16)], 43, none⟩, ⟨.pointer (some q3), [(Vl (.bool a1_0)), (Sl (Ki .u32) a1_1)], 43, none⟩, ⟨.pointer (some q2), [(Vl (.bool a0_0)), (Sl (Ki .u32) a0_1)], 43, none⟩]) rfl) rfl rfl bo_nil (wt_none' rfl) fun _ => ?_
    refine px_nil' ?_
    show TX E K4 _
    refine tx_k' hK4 ?_
    refine cx_retc' ?_
    replace hp := Option.some.inj hp
    subst hp
    refine tx_pick' (L' := [(4, (Vl (.pointer (some q4))))]) (H' := [⟨.pointer (some q4), [(Vl (.bool a0_0)), (Sl (Ki .u32) r16)], 43, none⟩]) [0] (sub_cons rfl sub_nil) (by decide) (pick_cons rfl pick_nil) ?_
    exact tx_ret1' Try.results61 rfl () (rv_cell_agg' (i := 0) (o := 0) (nn := 2) rfl ⟨rfl, rfl, rfl, rfl⟩ rfl agg43 rfl) (List.nil_sublist _)
  · replace hp := (br_f h1).symm.trans hp
    refine cx_skip' ?_
    show TX E K2 _
    refine tx_k' hK2 ?_
    refine cx_seq' fun K5 hK5 => ?_
    refine cx_seq' fun K6 hK6 => ?_
    refine cx_region' ?_
    refine sx_rd' (rd_field' (off := 1) rfl Try.underlying43 rfl info41 rfl) rfl rfl (wt_none' rfl) ?_
    refine sx_rd' (rd_load' (i := 2) (o := 1) rfl ⟨rfl, rfl, rfl, rfl⟩ rfl flat41) rfl rfl (wt_none' rfl) ?_
    refine sx_rd' (rd_field' (off := 1) rfl Try.underlying43 rfl info41 rfl) rfl rfl (wt_none' rfl) ?_
    refine sx_rd' (rd_load' (i := 1) (o := 1) rfl ⟨rfl, rfl, rfl, rfl⟩ rfl flat41) rfl rfl (wt_none' rfl) ?_
    obtain ⟨r22, hr22, hp⟩ := bind_some hp
    refine sx_ox' (ox_calln' (ent_fn' Try.func74 isn74 rfl rfl) (spec_cmpLimbs_sim _ _ hr22 : Go.Sx.Fn Try.prog 74 [(Sl (Ki .u32) a0_1), (Sl (Ki .u32) a1_1)] [] (fun x : Unit => (Vl (.int .i64 r22))) (fun x => [])) (Hn := fun x : Unit => [⟨.pointer (some q4), [(Vl (.bool false)), (Vl (.slice none 0 0))], 43, none⟩, ⟨.pointer (some q3), [(Vl (.bool a1_0)), (Sl (Ki .u32) a1_1)], 43, none⟩, ⟨.pointer (some q2), [(Vl (.bool a0_0)), (Sl (Ki .u32) a0_1)], 43, none⟩]) (fun _ => rfl) rfl rfl) (wt_none' rfl) fun ⟨⟩ => ?_
    refine sx_nil' ?_
    show TX E K6 _
    refine tx_k' hK6 ?_
    refine cx_block' ?_
    refine cx_seq' fun K7 hK7 => ?_
    refine cx_region' ?_
    refine sx_rd' (rd_bin' rfl rfl eg_int ru_eql) rfl rfl (wt_none' rfl) ?_
    refine sx_rd' (rd_assign' rfl) rfl rfl (wt_none' rfl) ?_
    refine sx_nil' ?_
    show TX E K7 _
    refine tx_k' hK7 ?_
    refine cx_cond' rfl (fun h2 => ?_) (fun h2 => ?_)
    · replace hp := (br_t h2).symm.trans hp
      refine cx_seq' fun K8 hK8 => ?_
      refine cx_region' ?_
      refine sx_rd' (rd_build' (pls := [(0, 1), (1, 1)]) (qs := []) (r := [(Vl (.bool false)), (Vl (.slice none 0 0))]) trivial Try.underlying43 has43 places43 info43 rfl rfl rfl) rfl rfl (wt_none' rfl) ?_
      refine sx_ox' (ox_store' (i := 0) (o := 0) rfl rfl (lv_ag _) ⟨rfl, rfl, rfl, rfl⟩ rfl info43 rfl (H' := [⟨.pointer (some q4), [(Vl (.bool false)), (Vl (.slice none 0 0))], 43, none⟩, ⟨.pointer (some q3), [(Vl (.bool a1_0)), (Sl (Ki .u32) a1_1)], 43, none⟩, ⟨.pointer (some q2), [(Vl (.bool a0_0)), (Sl (Ki .u32) a0_1)], 43, none⟩]) rfl) (wt_none' rfl) fun _ => ?_
      refine sx_nil' ?_
      show TX E K8 _
      refine tx_k' hK8 ?_
      refine cx_retc' ?_
      replace hp := Option.some.inj hp
      subst hp
      refine tx_pick' (L' := [(4, (Vl (.pointer (some q4))))]) (H' := [⟨.pointer (some q4), [(Vl (.bool false)), (Vl (.slice none 0 0))], 43, none⟩]) [0] (sub_cons rfl sub_nil) (by decide) (pick_cons rfl pick_nil) ?_
      exact tx_ret1' Try.results61 rfl () (rv_imp' (x := (Ag [(Vl (.bool false)), (Vl (.slice none 0 0))])) (y := (Ag [(Vl (.bool false)), (Sl (Ki .u32) [])])) (rv_cell_agg' (i := 0) (o := 0) (nn := 2) rfl ⟨rfl, rfl, rfl, rfl⟩ rfl agg43 rfl) (imp_ag ⟨imp_refl, imp_nil, trivial⟩)) (List.nil_sublist _)
    · replace hp := (br_f h2).symm.trans hp
      refine cx_seq' fun K9 hK9 => ?_
      refine cx_region' ?_
      refine sx_rd' (rd_bin' rfl rfl eg_int ru_eql) rfl rfl (wt_none' rfl) ?_
      refine sx_rd' (rd_assign' rfl) rfl rfl (wt_none' rfl) ?_
      refine sx_nil' ?_
      show TX E K9 _
      refine tx_k' hK9 ?_
      refine cx_cond' rfl (fun h3 => ?_) (fun h3 => ?_)
      · replace hp := (br_t h3).symm.trans hp
        refine cx_seq' fun K10 hK10 => ?_
        refine cx_plan' [] [(8, 1)] [(0, 1), (1, 1), (2, 1), (3, 1), (4, 1), (5, 1), (6, 0), (7, 1), (8, 0)] mixed (by kernel_rfl) ?_
        refine px_rd' rfl (rd_field0' rfl Try.underlying43 rfl info4 rfl) rfl rfl (wt_none' rfl) ?_
        refine px_rd' rfl (rd_load' (i := 2) (o := 0) rfl ⟨rfl, rfl, rfl, rfl⟩ rfl flat4) rfl rfl (wt_none' rfl) ?_
        refine px_rd' rfl (rd_field' (off := 1) rfl Try.underlying43 rfl info41 rfl) rfl rfl (wt_none' rfl) ?_
        refine px_rd' rfl (rd_load' (i := 2) (o := 1) rfl ⟨rfl, rfl, rfl, rfl⟩ rfl flat41) rfl rfl (wt_none' rfl) ?_
        refine px_rd' rfl (rd_field' (off := 1) rfl Try.underlying43 rfl info41 rfl) rfl rfl (wt_none' rfl) ?_
        refine px_rd' rfl (rd_load' (i := 1) (o := 1) rfl ⟨rfl, rfl, rfl, rfl⟩ rfl flat41) rfl rfl (wt_none' rfl) ?_
        obtain ⟨r34, hr34, hp⟩ := bind_some hp
        refine px_ox' rfl (ox_calln' (ent_fn' Try.func75 isn75 rfl rfl) (spec_subLimbs_sim _ _ hr34 : Go.Sx.Fn Try.prog 75 [(Sl (Ki .u32) a0_1), (Sl (Ki .u32) a1_1)] [] (fun x : Unit => (Sl (Ki .u32) r34)) (fun x => [])) (Hn := fun x : Unit => [⟨.pointer (some q4), [(Vl (.bool false)), (Vl (.slice none 0 0))], 43, none⟩, ⟨.pointer (some q3), [(Vl (.bool a1_0)), (Sl (Ki .u32) a1_1)], 43, none⟩, ⟨.pointer (some q2), [(Vl (.bool a0_0)), (Sl (Ki .u32) a0_1)], 43, none⟩]) (fun _ => rfl) rfl rfl) rfl bs_nil (wt_none' rfl) fun ⟨⟩ => ?_
        refine px_rd' rfl (rd_build' (pls := [(0, 1), (1, 1)]) (qs := [(0, [(Vl (.bool a0_0))]), (1, [(Sl (Ki .u32) r34)])]) (r := [(Vl (.bool a0_0)), (Sl (Ki .u32) r34)]) ⟨rfl, ⟨_, rfl, (lv_vl rfl rfl)⟩, ⟨rfl, ⟨_, rfl, (lv_sl _ _)⟩, trivial⟩⟩ Try.underlying43 has43 places43 info43 rfl rfl rfl) rfl rfl (wt_none' rfl) ?_
        refine px_oxv' rfl (oxv_store (i := 0) (o := 0) rfl rfl (lv_ag _) ⟨rfl, rfl, rfl, rfl⟩ rfl info43 rfl (H' := [⟨.pointer (some q4), [(Vl (.bool a0_0)), (Sl (Ki .u32) r34)], 43, none⟩, ⟨.pointer (some q3), [(Vl (.bool a1_0)), (Sl (Ki .u32) a1_1)], 43, none⟩, ⟨.pointer (some q2), [(Vl (.bool a0_0)), (Sl (Ki .u32) a0_1)], 43, none⟩]) rfl) rfl rfl bo_nil (wt_none' rfl) fun _ => ?_
        refine px_nil' ?_
        show TX E K10 _
        refine tx_k' hK10 ?_
        refine cx_retc' ?_
        replace hp := Option.some.inj hp
        subst hp
        refine tx_pick' (L' := [(4, (Vl (.pointer (some q4))))]) (H' := [⟨.pointer (some q4), [(Vl (.bool a0_0)), (Sl (Ki .u32) r34)], 43, none⟩]) [0] (sub_cons rfl sub_nil) (by decide) (pick_cons rfl pick_nil) ?_
        exact tx_ret1' Try.results61 rfl () (rv_cell_agg' (i := 0) (o := 0) (nn := 2) rfl ⟨rfl, rfl, rfl, rfl⟩ rfl agg43 rfl) (List.nil_sublist _)
      · replace hp := (br_f h3).symm.trans hp
        refine cx_skip' ?_
        show TX E K5 _
        refine tx_k' hK5 ?_
        refine cx_seq' fun K11 hK11 => ?_
        refine cx_plan' [] [(8, 1)] [(0, 1), (1, 1), (2, 1), (3, 1), (4, 1), (5, 1), (6, 0), (7, 1), (8, 0)] mixed (by kernel_rfl) ?_
        refine px_rd' rfl (rd_field0' rfl Try.underlying43 rfl info4 rfl) rfl rfl (wt_none' rfl) ?_
        refine px_rd' rfl (rd_load' (i := 1) (o := 0) rfl ⟨rfl, rfl, rfl, rfl⟩ rfl flat4) rfl rfl (wt_none' rfl) ?_
        refine px_rd' rfl (rd_field' (off := 1) rfl Try.underlying43 rfl info41 rfl) rfl rfl (wt_none' rfl) ?_
        refine px_rd' rfl (rd_load' (i := 1) (o := 1) rfl ⟨rfl, rfl, rfl, rfl⟩ rfl flat41) rfl rfl (wt_none' rfl) ?_
        refine px_rd' rfl (rd_field' (off := 1) rfl Try.underlying43 rfl info41 rfl) rfl rfl (wt_none' rfl) ?_
        refine px_rd' rfl (rd_load' (i := 2) (o := 1) rfl ⟨rfl, rfl, rfl, rfl⟩ rfl flat41) rfl rfl (wt_none' rfl) ?_
        obtain ⟨r42, hr42, hp⟩ := bind_some hp
        refine px_ox' rfl (ox_calln' (ent_fn' Try.func75 isn75 rfl rfl) (spec_subLimbs_sim _ _ hr42 : Go.Sx.Fn Try.prog 75 [(Sl (Ki .u32) a1_1), (Sl (Ki .u32) a0_1)] [] (fun x : Unit => (Sl (Ki .u32) r42)) (fun x => [])) (Hn := fun x : Unit => [⟨.pointer (some q4), [(Vl (.bool false)), (Vl (.slice none 0 0))], 43, none⟩, ⟨.pointer (some q3), [(Vl (.bool a1_0)), (Sl (Ki .u32) a1_1)], 43, none⟩, ⟨.pointer (some q2), [(Vl (.bool a0_0)), (Sl (Ki .u32) a0_1)], 43, none⟩]) (fun _ => rfl) rfl rfl) rfl bs_nil (wt_none' rfl) fun ⟨⟩ => ?_
        refine px_rd' rfl (rd_build' (pls := [(0, 1), (1, 1)]) (qs := [(0, [(Vl (.bool a1_0))]), (1, [(Sl (Ki .u32) r42)])]) (r := [(Vl (.bool a1_0)), (Sl (Ki .u32) r42)]) ⟨rfl, ⟨_, rfl, (lv_vl rfl rfl)⟩, ⟨rfl, ⟨_, rfl, (lv_sl _ _)⟩, trivial⟩⟩ Try.underlying43 has43 places43 info43 rfl rfl rfl) rfl rfl (wt_none' rfl) ?_
        refine px_oxv' rfl (oxv_store (i := 0) (o := 0) rfl rfl (lv_ag _) ⟨rfl, rfl, rfl, rfl⟩ rfl info43 rfl (H' := [⟨.pointer (some q4), [(Vl (.bool a1_0)), (Sl (Ki .u32) r42)], 43, none⟩, ⟨.pointer (some q3), [(Vl (.bool a1_0)), (Sl (Ki .u32) a1_1)], 43, none⟩, ⟨.pointer (some q2), [(Vl (.bool a0_0)), (Sl (Ki .u32) a0_1)], 43, none⟩]) rfl) rfl rfl bo_nil (wt_none' rfl) fun _ => ?_
        refine px_nil' ?_
        show TX E K11 _
        refine tx_k' hK11 ?_
        refine cx_retc' ?_
        replace hp := Option.some.inj hp
        subst hp
        refine tx_pick' (L' := [(4, (Vl (.pointer (some q4))))]) (H' := [⟨.pointer (some q4), [(Vl (.bool a1_0)), (Sl (Ki .u32) r42)], 43, none⟩]) [0] (sub_cons rfl sub_nil) (by decide) (pick_cons rfl pick_nil) ?_
        exact tx_ret1' Try.results61 rfl () (rv_cell_agg' (i := 0) (o := 0) (nn := 2) rfl ⟨rfl, rfl, rfl, rfl⟩ rfl agg43 rfl) (List.nil_sublist _)

def spec_Dyadic_Add (k : Nat) (a0_0 : Bool) (a0_1 : List Int) (a0_2 : Int) (a1_0 : Bool) (a1_1 : List Int) (a1_2 : Int) : Option (Bool × (List Int) × Int) :=
  (spec_Dyadic_Sign k a0_0 a0_1 a0_2) >>= fun r7 =>
  br (decide (r7 = 0))
    (some (a1_0, a1_1, a1_2))
    ((spec_Dyadic_Sign k a1_0 a1_1 a1_2) >>= fun r12 =>
    br (decide (r12 = 0))
      (some (a0_0, a0_1, a0_2))
      (br (decide (a1_2 < a0_2))
        ((spec_Whole_Up k a0_0 a0_1 (isub .i64 a0_2 a1_2)) >>= fun r28 =>
        (spec_Whole_Add k r28.1 r28.2 a1_0 a1_1) >>= fun r31 =>
        some (r31.1, r31.2, a1_2))
        ((spec_Whole_Up k a1_0 a1_1 (isub .i64 a1_2 a0_2)) >>= fun r42 =>
        (spec_Whole_Add k r42.1 r42.2 a0_0 a0_1) >>= fun r45 =>
        some (r45.1, r45.2, a0_2))))

theorem spec_Dyadic_Add_sim {k : Nat}  (a0_0 : Bool) (a0_1 : List Int) (a0_2 : Int) (a1_0 : Bool) (a1_1 : List Int) (a1_2 : Int) {out : Bool × (List Int) × Int} (hp : spec_Dyadic_Add k a0_0 a0_1 a0_2 a1_0 a1_1 a1_2 = some out) : Go.Sx.Fn Try.prog 45 [(Ag [(Vl (.bool a0_0)), (Sl (Ki .u32) a0_1), (Vl (.int .i64 a0_2))]), (Ag [(Vl (.bool a1_0)), (Sl (Ki .u32) a1_1), (Vl (.int .i64 a1_2))])] [] (fun w : Unit => (Ag [(Vl (.bool out.1)), (Sl (Ki .u32) out.2.1), (Vl (.int .i64 out.2.2))])) (fun w => []) := by
  unfold spec_Dyadic_Add at hp
  refine fn_of Try.func45 rfl Try.ntmps45 rfl fun E hM => ?_
  refine cx_seq' fun K1 hK1 => ?_
  refine cx_region' ?_
  refine sx_ox' (ox_box' rfl (lv_ag _) rfl rfl) (wt_none' rfl) fun q2 => ?_
  refine sx_ox' (ox_box' rfl (lv_ag _) rfl rfl) (wt_none' rfl) fun q3 => ?_
  refine sx_ox' (ox_alloc' info45 rfl rfl rfl rfl (l := [(Vl (.bool false)), (Vl (.slice none 0 0)), (Vl (.int .i64 0))]) rfl) (wt_none' rfl) fun q4 => ?_
  refine sx_nil' ?_
  show TX E K1 _
  refine tx_k' hK1 ?_
  refine cx_seq' fun K2 hK2 => ?_
  refine cx_block' ?_
  refine cx_seq' fun K3 hK3 => ?_
  refine cx_region' ?_
  refine sx_rd' (rd_load_agg' (i := 2) (o := 0) (nn := 3) rfl ⟨rfl, rfl, rfl, rfl⟩ rfl agg45 (l' := [(Vl (.bool a0_0)), (Sl (Ki .u32) a0_1), (Vl (.int .i64 a0_2))]) rfl) rfl rfl (wt_none' rfl) ?_
  obtain ⟨r7, hr7, hp⟩ := bind_some hp
  refine sx_ox' (ox_calln' (ent_fn' Try.func47 isn47 rfl rfl) (spec_Dyadic_Sign_sim _ _ _ hr7 : Go.Sx.Fn Try.prog 47 [(Ag [(Vl (.bool a0_0)), (Sl (Ki .u32) a0_1), (Vl (.int .i64 a0_2))])] [] (fun x : Unit => (Vl (.int .i64 r7))) (fun x => [])) (Hn := fun x : Unit => [⟨.pointer (some q4), [(Vl (.bool false)), (Vl (.slice none 0 0)), (Vl (.int .i64 0))], 45, none⟩, ⟨.pointer (some q3), [(Vl (.bool a1_0)), (Sl (Ki .u32) a1_1), (Vl (.int .i64 a1_2))], 45, none⟩, ⟨.pointer (some q2), [(Vl (.bool a0_0)), (Sl (Ki .u32) a0_1), (Vl (.int .i64 a0_2))], 45, none⟩]) (fun _ => rfl) rfl rfl) (wt_none' rfl) fun ⟨⟩ => ?_
  refine sx_rd' (rd_bin' rfl rfl eg_int ru_eql) rfl rfl (wt_none' rfl) ?_
  refine sx_rd' (rd_assign' rfl) rfl rfl (wt_none' rfl) ?_
  refine sx_nil' ?_
  show TX E K3 _
  refine tx_k' hK3 ?_
  refine cx_cond' rfl (fun h1 => ?_) (fun h1 => ?_)
  · replace hp := (br_t h1).symm.trans hp
    refine cx_seq' fun K4 hK4 => ?_
    refine cx_region' ?_
    refine sx_rd' (rd_load_agg' (i := 1) (o := 0) (nn := 3) rfl ⟨rfl, rfl, rfl, rfl⟩ rfl agg45 (l' := [(Vl (.bool a1_0)), (Sl (Ki .u32) a1_1), (Vl (.int .i64 a1_2))]) rfl) rfl rfl (wt_none' rfl) ?_
    refine sx_ox' (ox_store' (i := 0) (o := 0) rfl rfl (lv_ag _) ⟨rfl, rfl, rfl, rfl⟩ rfl info45 rfl (H' := [⟨.pointer (some q4), [(Vl (.bool a1_0)), (Sl (Ki .u32) a1_1), (Vl (.int .i64 a1_2))], 45, none⟩, ⟨.pointer (some q3), [(Vl (.bool a1_0)), (Sl (Ki .u32) a1_1), (Vl (.int .i64 a1_2))], 45, none⟩, ⟨.pointer (some q2), [(Vl (.bool a0_0)), (Sl (Ki .u32) a0_1), (Vl (.int .i64 a0_2))], 45, none⟩]) rfl) (wt_none' rfl) fun _ => ?_
    refine sx_nil' ?_
    show TX E K4 _
    refine tx_k' hK4 ?_
    refine cx_retc' ?_
    replace hp := Option.some.inj hp
    subst hp
    refine tx_pick' (L' := [(4, (Vl (.pointer (some q4))))]) (H' := [⟨.pointer (some q4), [(Vl (.bool a1_0)), (Sl (Ki .u32) a1_1), (Vl (.int .i64 a1_2))], 45, none⟩]) [0] (sub_cons rfl sub_nil) (by decide) (pick_cons rfl pick_nil) ?_
    exact tx_ret1' Try.results45 rfl () (rv_cell_agg' (i := 0) (o := 0) (nn := 3) rfl ⟨rfl, rfl, rfl, rfl⟩ rfl agg45 rfl) (List.nil_sublist _)
  · replace hp := (br_f h1).symm.trans hp
    refine cx_seq' fun K5 hK5 => ?_
    refine cx_region' ?_
    refine sx_rd' (rd_load_agg' (i := 1) (o := 0) (nn := 3) rfl ⟨rfl, rfl, rfl, rfl⟩ rfl agg45 (l' := [(Vl (.bool a1_0)), (Sl (Ki .u32) a1_1), (Vl (.int .i64 a1_2))]) rfl) rfl rfl (wt_none' rfl) ?_
    obtain ⟨r12, hr12, hp⟩ := bind_some hp
    refine sx_ox' (ox_calln' (ent_fn' Try.func47 isn47 rfl rfl) (spec_Dyadic_Sign_sim _ _ _ hr12 : Go.Sx.Fn Try.prog 47 [(Ag [(Vl (.bool a1_0)), (Sl (Ki .u32) a1_1), (Vl (.int .i64 a1_2))])] [] (fun x : Unit => (Vl (.int .i64 r12))) (fun x => [])) (Hn := fun x : Unit => [⟨.pointer (some q4), [(Vl (.bool false)), (Vl (.slice none 0 0)), (Vl (.int .i64 0))], 45, none⟩, ⟨.pointer (some q3), [(Vl (.bool a1_0)), (Sl (Ki .u32) a1_1), (Vl (.int .i64 a1_2))], 45, none⟩, ⟨.pointer (some q2), [(Vl (.bool a0_0)), (Sl (Ki .u32) a0_1), (Vl (.int .i64 a0_2))], 45, none⟩]) (fun _ => rfl) rfl rfl) (wt_none' rfl) fun ⟨⟩ => ?_
    refine sx_rd' (rd_bin' rfl rfl eg_int ru_eql) rfl rfl (wt_none' rfl) ?_
    refine sx_rd' (rd_assign' rfl) rfl rfl (wt_none' rfl) ?_
    refine sx_nil' ?_
    show TX E K5 _
    refine tx_k' hK5 ?_
    refine cx_cond' rfl (fun h2 => ?_) (fun h2 => ?_)
    · replace hp := (br_t h2).symm.trans hp
      refine cx_seq' fun K6 hK6 => ?_
      refine cx_region' ?_
      refine sx_rd' (rd_load_agg' (i := 2) (o := 0) (nn := 3) rfl ⟨rfl, rfl, rfl, rfl⟩ rfl agg45 (l' := [(Vl (.bool a0_0)), (Sl (Ki .u32) a0_1), (Vl (.int .i64 a0_2))]) rfl) rfl rfl (wt_none' rfl) ?_
      refine sx_ox' (ox_store' (i := 0) (o := 0) rfl rfl (lv_ag _) ⟨rfl, rfl, rfl, rfl⟩ rfl info45 rfl (H' := [⟨.pointer (some q4), [(Vl (.bool a0_0)), (Sl (Ki .u32) a0_1), (Vl (.int .i64 a0_2))], 45, none⟩, ⟨.pointer (some q3), [(Vl (.bool a1_0)), (Sl (Ki .u32) a1_1), (Vl (.int .i64 a1_2))], 45, none⟩, ⟨.pointer (some q2), [(Vl (.bool a0_0)), (Sl (Ki .u32) a0_1), (Vl (.int .i64 a0_2))], 45, none⟩]) rfl) (wt_none' rfl) fun _ => ?_
      refine sx_nil' ?_
      show TX E K6 _
      refine tx_k' hK6 ?_
      refine cx_retc' ?_
      replace hp := Option.some.inj hp
      subst hp
      refine tx_pick' (L' := [(4, (Vl (.pointer (some q4))))]) (H' := [⟨.pointer (some q4), [(Vl (.bool a0_0)), (Sl (Ki .u32) a0_1), (Vl (.int .i64 a0_2))], 45, none⟩]) [0] (sub_cons rfl sub_nil) (by decide) (pick_cons rfl pick_nil) ?_
      exact tx_ret1' Try.results45 rfl () (rv_cell_agg' (i := 0) (o := 0) (nn := 3) rfl ⟨rfl, rfl, rfl, rfl⟩ rfl agg45 rfl) (List.nil_sublist _)
    · replace hp := (br_f h2).symm.trans hp
      refine cx_seq' fun K7 hK7 => ?_
      refine cx_region' ?_
      refine sx_rd' (rd_field' (off := 2) rfl Try.underlying45 rfl info3 rfl) rfl rfl (wt_none' rfl) ?_
      refine sx_rd' (rd_load' (i := 2) (o := 2) rfl ⟨rfl, rfl, rfl, rfl⟩ rfl flat3) rfl rfl (wt_none' rfl) ?_
      refine sx_rd' (rd_field' (off := 2) rfl Try.underlying45 rfl info3 rfl) rfl rfl (wt_none' rfl) ?_
      refine sx_rd' (rd_load' (i := 1) (o := 2) rfl ⟨rfl, rfl, rfl, rfl⟩ rfl flat3) rfl rfl (wt_none' rfl) ?_
      refine sx_rd' (rd_bin' rfl rfl eg_int ru_gtr) rfl rfl (wt_none' rfl) ?_
      refine sx_rd' (rd_assign' rfl) rfl rfl (wt_none' rfl) ?_
      refine sx_nil' ?_
      show TX E K7 _
      refine tx_k' hK7 ?_
      refine cx_cond' rfl (fun h3 => ?_) (fun h3 => ?_)
      · replace hp := (br_t h3).symm.trans hp
        refine cx_seq' fun K8 hK8 => ?_
        refine cx_plan' [] [(14, 1)] [(0, 1), (1, 1), (2, 1), (3, 1), (4, 1), (5, 1), (6, 1), (8, 1), (9, 1), (11, 1), (12, 1), (7, 0), (10, 0), (13, 1), (14, 0)] mixed (by kernel_rfl) ?_
        refine px_rd' rfl (rd_field0' rfl Try.underlying45 rfl info43 rfl) rfl rfl (wt_none' rfl) ?_
        refine px_rd' rfl (rd_load_agg' (i := 2) (o := 0) (nn := 2) rfl ⟨rfl, rfl, rfl, rfl⟩ rfl agg43 (l' := [(Vl (.bool a0_0)), (Sl (Ki .u32) a0_1)]) rfl) rfl rfl (wt_none' rfl) ?_
        refine px_rd' rfl (rd_field' (off := 2) rfl Try.underlying45 rfl info3 rfl) rfl rfl (wt_none' rfl) ?_
        refine px_rd' rfl (rd_load' (i := 2) (o := 2) rfl ⟨rfl, rfl, rfl, rfl⟩ rfl flat3) rfl rfl (wt_none' rfl) ?_
        refine px_rd' rfl (rd_field' (off := 2) rfl Try.underlying45 rfl info3 rfl) rfl rfl (wt_none' rfl) ?_
        refine px_rd' rfl (rd_load' (i := 1) (o := 2) rfl ⟨rfl, rfl, rfl, rfl⟩ rfl flat3) rfl rfl (wt_none' rfl) ?_
        refine px_rd' rfl (rd_bin' rfl rfl eg_int ru_sub) rfl rfl (wt_none' rfl) ?_
        refine px_rd' rfl (rd_field0' rfl Try.underlying45 rfl info43 rfl) rfl rfl (wt_none' rfl) ?_
        refine px_rd' rfl (rd_load_agg' (i := 1) (o := 0) (nn := 2) rfl ⟨rfl, rfl, rfl, rfl⟩ rfl agg43 (l' := [(Vl (.bool a1_0)), (Sl (Ki .u32) a1_1)]) rfl) rfl rfl (wt_none' rfl) ?_
        refine px_rd' rfl (rd_field' (off := 2) rfl Try.underlying45 rfl info3 rfl) rfl rfl (wt_none' rfl) ?_
        refine px_rd' rfl (rd_load' (i := 1) (o := 2) rfl ⟨rfl, rfl, rfl, rfl⟩ rfl flat3) rfl rfl (wt_none' rfl) ?_
        obtain ⟨r28, hr28, hp⟩ := bind_some hp
        refine px_ox' rfl (ox_calln' (ent_fn' Try.func60 isn60 rfl rfl) (spec_Whole_Up_sim _ _ _ hr28 : Go.Sx.Fn Try.prog 60 [(Ag [(Vl (.bool a0_0)), (Sl (Ki .u32) a0_1)]), (Vl (.int .i64 (isub .i64 a0_2 a1_2)))] [] (fun x : Unit => (Ag [(Vl (.bool r28.1)), (Sl (Ki .u32) r28.2)])) (fun x => [])) (Hn := fun x : Unit => [⟨.pointer (some q4), [(Vl (.bool false)), (Vl (.slice none 0 0)), (Vl (.int .i64 0))], 45, none⟩, ⟨.pointer (some q3), [(Vl (.bool a1_0)), (Sl (Ki .u32) a1_1), (Vl (.int .i64 a1_2))], 45, none⟩, ⟨.pointer (some q2), [(Vl (.bool a0_0)), (Sl (Ki .u32) a0_1), (Vl (.int .i64 a0_2))], 45, none⟩]) (fun _ => rfl) rfl rfl) rfl bs_nil (wt_none' rfl) fun ⟨⟩ => ?_
        obtain ⟨r31, hr31, hp⟩ := bind_some hp
        refine px_ox' rfl (ox_calln' (ent_fn' Try.func61 isn61 rfl rfl) (spec_Whole_Add_sim _ _ _ _ hr31 : Go.Sx.Fn Try.prog 61 [(Ag [(Vl (.bool r28.1)), (Sl (Ki .u32) r28.2)]), (Ag [(Vl (.bool a1_0)), (Sl (Ki .u32) a1_1)])] [] (fun x : Unit => (Ag [(Vl (.bool r31.1)), (Sl (Ki .u32) r31.2)])) (fun x => [])) (Hn := fun x : Unit => [⟨.pointer (some q4), [(Vl (.bool false)), (Vl (.slice none 0 0)), (Vl (.int .i64 0))], 45, none⟩, ⟨.pointer (some q3), [(Vl (.bool a1_0)), (Sl (Ki .u32) a1_1), (Vl (.int .i64 a1_2))], 45, none⟩, ⟨.pointer (some q2), [(Vl (.bool a0_0)), (Sl (Ki .u32) a0_1), (Vl (.int .i64 a0_2))], 45, none⟩]) (fun _ => rfl) rfl rfl) rfl bs_nil (wt_none' rfl) fun ⟨⟩ => ?_
        refine px_rd' rfl (rd_build' (pls := [(0, 2), (2, 1)]) (qs := [(0, [(Vl (.bool r31.1)), (Sl (Ki .u32) r31.2)]), (1, [(Vl (.int .i64 a1_2))])]) (r := [(Vl (.bool r31.1)), (Sl (Ki .u32) r31.2), (Vl (.int .i64 a1_2))]) ⟨rfl, ⟨_, rfl, (lv_ag _)⟩, ⟨rfl, ⟨_, rfl, (lv_vl rfl rfl)⟩, trivial⟩⟩ Try.underlying45 has45 places45 info45 rfl rfl rfl) rfl rfl (wt_none' rfl) ?_
        refine px_oxv' rfl (oxv_store (i := 0) (o := 0) rfl rfl (lv_ag _) ⟨rfl, rfl, rfl, rfl⟩ rfl info45 rfl (H' := [⟨.pointer (some q4), [(Vl (.bool r31.1)), (Sl (Ki .u32) r31.2), (Vl (.int .i64 a1_2))], 45, none⟩, ⟨.pointer (some q3), [(Vl (.bool a1_0)), (Sl (Ki .u32) a1_1), (Vl (.int .i64 a1_2))], 45, none⟩, ⟨.pointer (some q2), [(Vl (.bool a0_0)), (Sl (Ki .u32) a0_1), (Vl (.int .i64 a0_2))], 45, none⟩]) rfl) rfl rfl bo_nil (wt_none' rfl) fun _ => ?_
        refine px_nil' ?_
        show TX E K8 _
        refine tx_k' hK8 ?_
        refine cx_retc' ?_
        replace hp := Option.some.inj hp
        subst hp
        refine tx_pick' (L' := [(4, (Vl (.pointer (some q4))))]) (H' := [⟨.pointer (some q4), [(Vl (.bool r31.1)), (Sl (Ki .u32) r31.2), (Vl (.int .i64 a1_2))], 45, none⟩]) [0] (sub_cons rfl sub_nil) (by decide) (pick_cons rfl pick_nil) ?_
        exact tx_ret1' Try.results45 rfl () (rv_cell_agg' (i := 0) (o := 0) (nn := 3) rfl ⟨rfl, rfl, rfl, rfl⟩ rfl agg45 rfl) (List.nil_sublist _)
      · replace hp := (br_f h3).symm.trans hp
        refine cx_skip' ?_
        show TX E K2 _
        refine tx_k' hK2 ?_
        refine cx_seq' fun K9 hK9 => ?_
        refine cx_plan' [] [(14, 1)] [(0, 1), (1, 1), (2, 1), (3, 1), (4, 1), (5, 1), (6, 1), (8, 1), (9, 1), (11, 1), (12, 1), (7, 0), (10, 0), (13, 1), (14, 0)] mixed (by kernel_rfl) ?_
        refine px_rd' rfl (rd_field0' rfl Try.underlying45 rfl info43 rfl) rfl rfl (wt_none' rfl) ?_
        refine px_rd' rfl (rd_load_agg' (i := 1) (o := 0) (nn := 2) rfl ⟨rfl, rfl, rfl, rfl⟩ rfl agg43 (l' := [(Vl (.bool a1_0)), (Sl (Ki .u32) a1_1)]) rfl) rfl rfl (wt_none' rfl) ?_
        refine px_rd' rfl (rd_field' (off := 2) rfl Try.underlying45 rfl info3 rfl) rfl rfl (wt_none' rfl) ?_
        refine px_rd' rfl (rd_load' (i := 1) (o := 2) rfl ⟨rfl, rfl, rfl, rfl⟩ rfl flat3) rfl rfl (wt_none' rfl) ?_
        refine px_rd' rfl (rd_field' (off := 2) rfl Try.underlying45 rfl info3 rfl) rfl rfl (wt_none' rfl) ?_
        refine px_rd' rfl (rd_load' (i := 2) (o := 2) rfl ⟨rfl, rfl, rfl, rfl⟩ rfl flat3) rfl rfl (wt_none' rfl) ?_
        refine px_rd' rfl (rd_bin' rfl rfl eg_int ru_sub) rfl rfl (wt_none' rfl) ?_
        refine px_rd' rfl (rd_field0' rfl Try.underlying45 rfl info43 rfl) rfl rfl (wt_none' rfl) ?_
        refine px_rd' rfl (rd_load_agg' (i := 2) (o := 0) (nn := 2) rfl ⟨rfl, rfl, rfl, rfl⟩ rfl agg43 (l' := [(Vl (.bool a0_0)), (Sl (Ki .u32) a0_1)]) rfl) rfl rfl (wt_none' rfl) ?_
        refine px_rd' rfl (rd_field' (off := 2) rfl Try.underlying45 rfl info3 rfl) rfl rfl (wt_none' rfl) ?_
        refine px_rd' rfl (rd_load' (i := 2) (o := 2) rfl ⟨rfl, rfl, rfl, rfl⟩ rfl flat3) rfl rfl (wt_none' rfl) ?_
        obtain ⟨r42, hr42, hp⟩ := bind_some hp
        refine px_ox' rfl (ox_calln' (ent_fn' Try.func60 isn60 rfl rfl) (spec_Whole_Up_sim _ _ _ hr42 : Go.Sx.Fn Try.prog 60 [(Ag [(Vl (.bool a1_0)), (Sl (Ki .u32) a1_1)]), (Vl (.int .i64 (isub .i64 a1_2 a0_2)))] [] (fun x : Unit => (Ag [(Vl (.bool r42.1)), (Sl (Ki .u32) r42.2)])) (fun x => [])) (Hn := fun x : Unit => [⟨.pointer (some q4), [(Vl (.bool false)), (Vl (.slice none 0 0)), (Vl (.int .i64 0))], 45, none⟩, ⟨.pointer (some q3), [(Vl (.bool a1_0)), (Sl (Ki .u32) a1_1), (Vl (.int .i64 a1_2))], 45, none⟩, ⟨.pointer (some q2), [(Vl (.bool a0_0)), (Sl (Ki .u32) a0_1), (Vl (.int .i64 a0_2))], 45, none⟩]) (fun _ => rfl) rfl rfl) rfl bs_nil (wt_none' rfl) fun ⟨⟩ => ?_
        obtain ⟨r45, hr45, hp⟩ := bind_some hp
        refine px_ox' rfl (ox_calln' (ent_fn' Try.func61 isn61 rfl rfl) (spec_Whole_Add_sim _ _ _ _ hr45 : Go.Sx.Fn Try.prog 61 [(Ag [(Vl (.bool r42.1)), (Sl (Ki .u32) r42.2)]), (Ag [(Vl (.bool a0_0)), (Sl (Ki .u32) a0_1)])] [] (fun x : Unit => (Ag [(Vl (.bool r45.1)), (Sl (Ki .u32) r45.2)])) (fun x => [])) (Hn := fun x : Unit => [⟨.pointer (some q4), [(Vl (.bool false)), (Vl (.slice none 0 0)), (Vl (.int .i64 0))], 45, none⟩, ⟨.pointer (some q3), [(Vl (.bool a1_0)), (Sl (Ki .u32) a1_1), (Vl (.int .i64 a1_2))], 45, none⟩, ⟨.pointer (some q2), [(Vl (.bool a0_0)), (Sl (Ki .u32) a0_1), (Vl (.int .i64 a0_2))], 45, none⟩]) (fun _ => rfl) rfl rfl) rfl bs_nil (wt_none' rfl) fun ⟨⟩ => ?_
        refine px_rd' rfl (rd_build' (pls := [(0, 2), (2, 1)]) (qs := [(0, [(Vl (.bool r45.1)), (Sl (Ki .u32) r45.2)]), (1, [(Vl (.int .i64 a0_2))])]) (r := [(Vl (.bool r45.1)), (Sl (Ki .u32) r45.2), (Vl (.int .i64 a0_2))]) ⟨rfl, ⟨_, rfl, (lv_ag _)⟩, ⟨rfl, ⟨_, rfl, (lv_vl rfl rfl)⟩, trivial⟩⟩ Try.underlying45 has45 places45 info45 rfl rfl rfl) rfl rfl (wt_none' rfl) ?_
        refine px_oxv' rfl (oxv_store (i := 0) (o := 0) rfl rfl (lv_ag _) ⟨rfl, rfl, rfl, rfl⟩ rfl info45 rfl (H' := [⟨.pointer (some q4), [(Vl (.bool r45.1)), (Sl (Ki .u32) r45.2), (Vl (.int .i64 a0_2))], 45, none⟩, ⟨.pointer (some q3), [(Vl (.bool a1_0)), (Sl (Ki .u32) a1_1), (Vl (.int .i64 a1_2))], 45, none⟩, ⟨.pointer (some q2), [(Vl (.bool a0_0)), (Sl (Ki .u32) a0_1), (Vl (.int .i64 a0_2))], 45, none⟩]) rfl) rfl rfl bo_nil (wt_none' rfl) fun _ => ?_
        refine px_nil' ?_
        show TX E K9 _
        refine tx_k' hK9 ?_
        refine cx_retc' ?_
        replace hp := Option.some.inj hp
        subst hp
        refine tx_pick' (L' := [(4, (Vl (.pointer (some q4))))]) (H' := [⟨.pointer (some q4), [(Vl (.bool r45.1)), (Sl (Ki .u32) r45.2), (Vl (.int .i64 a0_2))], 45, none⟩]) [0] (sub_cons rfl sub_nil) (by decide) (pick_cons rfl pick_nil) ?_
        exact tx_ret1' Try.results45 rfl () (rv_cell_agg' (i := 0) (o := 0) (nn := 3) rfl ⟨rfl, rfl, rfl, rfl⟩ rfl agg45 rfl) (List.nil_sublist _)

def spec_Dyadic_Sub (k : Nat) (a0_0 : Bool) (a0_1 : List Int) (a0_2 : Int) (a1_0 : Bool) (a1_1 : List Int) (a1_2 : Int) : Option (Bool × (List Int) × Int) :=
  (spec_Dyadic_Minus k a1_0 a1_1 a1_2) >>= fun r7 =>
  (spec_Dyadic_Add k a0_0 a0_1 a0_2 r7.1 r7.2.1 r7.2.2) >>= fun r8 =>
  some (r8.1, r8.2.1, r8.2.2)

theorem spec_Dyadic_Sub_sim {k : Nat}  (a0_0 : Bool) (a0_1 : List Int) (a0_2 : Int) (a1_0 : Bool) (a1_1 : List Int) (a1_2 : Int) {out : Bool × (List Int) × Int} (hp : spec_Dyadic_Sub k a0_0 a0_1 a0_2 a1_0 a1_1 a1_2 = some out) : Go.Sx.Fn Try.prog 20 [(Ag [(Vl (.bool a0_0)), (Sl (Ki .u32) a0_1), (Vl (.int .i64 a0_2))]), (Ag [(Vl (.bool a1_0)), (Sl (Ki .u32) a1_1), (Vl (.int .i64 a1_2))])] [] (fun w : Unit => (Ag [(Vl (.bool out.1)), (Sl (Ki .u32) out.2.1), (Vl (.int .i64 out.2.2))])) (fun w => []) := by
  unfold spec_Dyadic_Sub at hp
  refine fn_of Try.func20 rfl Try.ntmps20 rfl fun E hM => ?_
  refine cx_seq' fun K1 hK1 => ?_
  refine cx_region' ?_
  refine sx_ox' (ox_box' rfl (lv_ag _) rfl rfl) (wt_none' rfl) fun q2 => ?_
  refine sx_ox' (ox_box' rfl (lv_ag _) rfl rfl) (wt_none' rfl) fun q3 => ?_
  refine sx_ox' (ox_alloc' info45 rfl rfl rfl rfl (l := [(Vl (.bool false)), (Vl (.slice none 0 0)), (Vl (.int .i64 0))]) rfl) (wt_none' rfl) fun q4 => ?_
  refine sx_nil' ?_
  show TX E K1 _
  refine tx_k' hK1 ?_
  refine cx_seq' fun K2 hK2 => ?_
  refine cx_plan' [] [(4, 1)] [(0, 1), (1, 1), (2, 0), (3, 0), (4, 0)] mixed (by kernel_rfl) ?_
  refine px_rd' rfl (rd_load_agg' (i := 2) (o := 0) (nn := 3) rfl ⟨rfl, rfl, rfl, rfl⟩ rfl agg45 (l' := [(Vl (.bool a0_0)), (Sl (Ki .u32) a0_1), (Vl (.int .i64 a0_2))]) rfl) rfl rfl (wt_none' rfl) ?_
  refine px_rd' rfl (rd_load_agg' (i := 1) (o := 0) (nn := 3) rfl ⟨rfl, rfl, rfl, rfl⟩ rfl agg45 (l' := [(Vl (.bool a1_0)), (Sl (Ki .u32) a1_1), (Vl (.int .i64 a1_2))]) rfl) rfl rfl (wt_none' rfl) ?_
  obtain ⟨r7, hr7, hp⟩ := bind_some hp
  refine px_ox' rfl (ox_calln' (ent_fn' Try.func46 isn46 rfl rfl) (spec_Dyadic_Minus_sim _ _ _ hr7 : Go.Sx.Fn Try.prog 46 [(Ag [(Vl (.bool a1_0)), (Sl (Ki .u32) a1_1), (Vl (.int .i64 a1_2))])] [] (fun x : Unit => (Ag [(Vl (.bool r7.1)), (Sl (Ki .u32) r7.2.1), (Vl (.int .i64 r7.2.2))])) (fun x => [])) (Hn := fun x : Unit => [⟨.pointer (some q4), [(Vl (.bool false)), (Vl (.slice none 0 0)), (Vl (.int .i64 0))], 45, none⟩, ⟨.pointer (some q3), [(Vl (.bool a1_0)), (Sl (Ki .u32) a1_1), (Vl (.int .i64 a1_2))], 45, none⟩, ⟨.pointer (some q2), [(Vl (.bool a0_0)), (Sl (Ki .u32) a0_1), (Vl (.int .i64 a0_2))], 45, none⟩]) (fun _ => rfl) rfl rfl) rfl bs_nil (wt_none' rfl) fun ⟨⟩ => ?_
  obtain ⟨r8, hr8, hp⟩ := bind_some hp
  refine px_ox' rfl (ox_calln' (ent_fn' Try.func45 isn45 rfl rfl) (spec_Dyadic_Add_sim _ _ _ _ _ _ hr8 : Go.Sx.Fn Try.prog 45 [(Ag [(Vl (.bool a0_0)), (Sl (Ki .u32) a0_1), (Vl (.int .i64 a0_2))]), (Ag [(Vl (.bool r7.1)), (Sl (Ki .u32) r7.2.1), (Vl (.int .i64 r7.2.2))])] [] (fun x : Unit => (Ag [(Vl (.bool r8.1)), (Sl (Ki .u32) r8.2.1), (Vl (.int .i64 r8.2.2))])) (fun x => [])) (Hn := fun x : Unit => [⟨.pointer (some q4), [(Vl (.bool false)), (Vl (.slice none 0 0)), (Vl (.int .i64 0))], 45, none⟩, ⟨.pointer (some q3), [(Vl (.bool a1_0)), (Sl (Ki .u32) a1_1), (Vl (.int .i64 a1_2))], 45, none⟩, ⟨.pointer (some q2), [(Vl (.bool a0_0)), (Sl (Ki .u32) a0_1), (Vl (.int .i64 a0_2))], 45, none⟩]) (fun _ => rfl) rfl rfl) rfl bs_nil (wt_none' rfl) fun ⟨⟩ => ?_
  refine px_oxv' rfl (oxv_store (i := 0) (o := 0) rfl rfl (lv_ag _) ⟨rfl, rfl, rfl, rfl⟩ rfl info45 rfl (H' := [⟨.pointer (some q4), [(Vl (.bool r8.1)), (Sl (Ki .u32) r8.2.1), (Vl (.int .i64 r8.2.2))], 45, none⟩, ⟨.pointer (some q3), [(Vl (.bool a1_0)), (Sl (Ki .u32) a1_1), (Vl (.int .i64 a1_2))], 45, none⟩, ⟨.pointer (some q2), [(Vl (.bool a0_0)), (Sl (Ki .u32) a0_1), (Vl (.int .i64 a0_2))], 45, none⟩]) rfl) rfl rfl bo_nil (wt_none' rfl) fun _ => ?_
  refine px_nil' ?_
  show TX E K2 _
  refine tx_k' hK2 ?_
  refine cx_retc' ?_
  replace hp := Option.some.inj hp
  subst hp
  refine tx_pick' (L' := [(4, (Vl (.pointer (some q4))))]) (H' := [⟨.pointer (some q4), [(Vl (.bool r8.1)), (Sl (Ki .u32) r8.2.1), (Vl (.int .i64 r8.2.2))], 45, none⟩]) [0] (sub_cons rfl sub_nil) (by decide) (pick_cons rfl pick_nil) ?_
  exact tx_ret1' Try.results20 rfl () (rv_cell_agg' (i := 0) (o := 0) (nn := 3) rfl ⟨rfl, rfl, rfl, rfl⟩ rfl agg45 rfl) (List.nil_sublist _)

def spec_Dyadic_Abs (k : Nat) (a0_0 : Bool) (a0_1 : List Int) (a0_2 : Int) : Option (Bool × (List Int) × Int) :=
  (spec_Dyadic_Sign k a0_0 a0_1 a0_2) >>= fun r4 =>
  br (decide (r4 < 0))
    ((spec_Dyadic_Minus k a0_0 a0_1 a0_2) >>= fun r7 =>
    some (r7.1, r7.2.1, r7.2.2))
    (some (a0_0, a0_1, a0_2))

theorem spec_Dyadic_Abs_sim {k : Nat}  (a0_0 : Bool) (a0_1 : List Int) (a0_2 : Int) {out : Bool × (List Int) × Int} (hp : spec_Dyadic_Abs k a0_0 a0_1 a0_2 = some out) : Go.Sx.Fn Try.prog 21 [(Ag [(Vl (.bool a0_0)), (Sl (Ki .u32) a0_1), (Vl (.int .i64 a0_2))])] [] (fun w : Unit => (Ag [(Vl (.bool out.1)), (Sl (Ki .u32) out.2.1), (Vl (.int .i64 out.2.2))])) (fun w => []) := by
  unfold spec_Dyadic_Abs at hp
  refine fn_of Try.func21 rfl Try.ntmps21 rfl fun E hM => ?_
  refine cx_seq' fun K1 hK1 => ?_
  refine cx_region' ?_
  refine sx_ox' (ox_box' rfl (lv_ag _) rfl rfl) (wt_none' rfl) fun q1 => ?_
  refine sx_ox' (ox_alloc' info45 rfl rfl rfl rfl (l := [(Vl (.bool false)), (Vl (.slice none 0 0)), (Vl (.int .i64 0))]) rfl) (wt_none' rfl) fun q2 => ?_
  refine sx_nil' ?_
  show TX E K1 _
  refine tx_k' hK1 ?_
  refine cx_seq' fun K2 hK2 => ?_
  refine cx_seq' fun K3 hK3 => ?_
  refine cx_region' ?_
  refine sx_rd' (rd_load_agg' (i := 1) (o := 0) (nn := 3) rfl ⟨rfl, rfl, rfl, rfl⟩ rfl agg45 (l' := [(Vl (.bool a0_0)), (Sl (Ki .u32) a0_1), (Vl (.int .i64 a0_2))]) rfl) rfl rfl (wt_none' rfl) ?_
  obtain ⟨r4, hr4, hp⟩ := bind_some hp
  refine sx_ox' (ox_calln' (ent_fn' Try.func47 isn47 rfl rfl) (spec_Dyadic_Sign_sim _ _ _ hr4 : Go.Sx.Fn Try.prog 47 [(Ag [(Vl (.bool a0_0)), (Sl (Ki .u32) a0_1), (Vl (.int .i64 a0_2))])] [] (fun x : Unit => (Vl (.int .i64 r4))) (fun x => [])) (Hn := fun x : Unit => [⟨.pointer (some q2), [(Vl (.bool false)), (Vl (.slice none 0 0)), (Vl (.int .i64 0))], 45, none⟩, ⟨.pointer (some q1), [(Vl (.bool a0_0)), (Sl (Ki .u32) a0_1), (Vl (.int .i64 a0_2))], 45, none⟩]) (fun _ => rfl) rfl rfl) (wt_none' rfl) fun ⟨⟩ => ?_
  refine sx_rd' (rd_bin' rfl rfl eg_int ru_lss) rfl rfl (wt_none' rfl) ?_
  refine sx_nil' ?_
  show TX E K3 _
  refine tx_k' hK3 ?_
  refine cx_cond' rfl (fun h1 => ?_) (fun h1 => ?_)
  · replace hp := (br_t h1).symm.trans hp
    refine cx_seq' fun K4 hK4 => ?_
    refine cx_region' ?_
    refine sx_rd' (rd_load_agg' (i := 1) (o := 0) (nn := 3) rfl ⟨rfl, rfl, rfl, rfl⟩ rfl agg45 (l' := [(Vl (.bool a0_0)), (Sl (Ki .u32) a0_1), (Vl (.int .i64 a0_2))]) rfl) rfl rfl (wt_none' rfl) ?_
    obtain ⟨r7, hr7, hp⟩ := bind_some hp
    refine sx_ox' (ox_calln' (ent_fn' Try.func46 isn46 rfl rfl) (spec_Dyadic_Minus_sim _ _ _ hr7 : Go.Sx.Fn Try.prog 46 [(Ag [(Vl (.bool a0_0)), (Sl (Ki .u32) a0_1), (Vl (.int .i64 a0_2))])] [] (fun x : Unit => (Ag [(Vl (.bool r7.1)), (Sl (Ki .u32) r7.2.1), (Vl (.int .i64 r7.2.2))])) (fun x => [])) (Hn := fun x : Unit => [⟨.pointer (some q2), [(Vl (.bool false)), (Vl (.slice none 0 0)), (Vl (.int .i64 0))], 45, none⟩, ⟨.pointer (some q1), [(Vl (.bool a0_0)), (Sl (Ki .u32) a0_1), (Vl (.int .i64 a0_2))], 45, none⟩]) (fun _ => rfl) rfl rfl) (wt_none' rfl) fun ⟨⟩ => ?_
    refine sx_ox' (ox_store' (i := 0) (o := 0) rfl rfl (lv_ag _) ⟨rfl, rfl, rfl, rfl⟩ rfl info45 rfl (H' := [⟨.pointer (some q2), [(Vl (.bool r7.1)), (Sl (Ki .u32) r7.2.1), (Vl (.int .i64 r7.2.2))], 45, none⟩, ⟨.pointer (some q1), [(Vl (.bool a0_0)), (Sl (Ki .u32) a0_1), (Vl (.int .i64 a0_2))], 45, none⟩]) rfl) (wt_none' rfl) fun _ => ?_
    refine sx_nil' ?_
    show TX E K4 _
    refine tx_k' hK4 ?_
    refine cx_retc' ?_
    replace hp := Option.some.inj hp
    subst hp
    refine tx_pick' (L' := [(2, (Vl (.pointer (some q2))))]) (H' := [⟨.pointer (some q2), [(Vl (.bool r7.1)), (Sl (Ki .u32) r7.2.1), (Vl (.int .i64 r7.2.2))], 45, none⟩]) [0] (sub_cons rfl sub_nil) (by decide) (pick_cons rfl pick_nil) ?_
    exact tx_ret1' Try.results21 rfl () (rv_cell_agg' (i := 0) (o := 0) (nn := 3) rfl ⟨rfl, rfl, rfl, rfl⟩ rfl agg45 rfl) (List.nil_sublist _)
  · replace hp := (br_f h1).symm.trans hp
    refine cx_skip' ?_
    show TX E K2 _
    refine tx_k' hK2 ?_
    refine cx_seq' fun K5 hK5 => ?_
    refine cx_region' ?_
    refine sx_rd' (rd_load_agg' (i := 1) (o := 0) (nn := 3) rfl ⟨rfl, rfl, rfl, rfl⟩ rfl agg45 (l' := [(Vl (.bool a0_0)), (Sl (Ki .u32) a0_1), (Vl (.int .i64 a0_2))]) rfl) rfl rfl (wt_none' rfl) ?_
    refine sx_ox' (ox_store' (i := 0) (o := 0) rfl rfl (lv_ag _) ⟨rfl, rfl, rfl, rfl⟩ rfl info45 rfl (H' := [⟨.pointer (some q2), [(Vl (.bool a0_0)), (Sl (Ki .u32) a0_1), (Vl (.int .i64 a0_2))], 45, none⟩, ⟨.pointer (some q1), [(Vl (.bool a0_0)), (Sl (Ki .u32) a0_1), (Vl (.int .i64 a0_2))], 45, none⟩]) rfl) (wt_none' rfl) fun _ => ?_
    refine sx_nil' ?_
    show TX E K5 _
    refine tx_k' hK5 ?_
    refine cx_retc' ?_
    replace hp := Option.some.inj hp
    subst hp
    refine tx_pick' (L' := [(2, (Vl (.pointer (some q2))))]) (H' := [⟨.pointer (some q2), [(Vl (.bool a0_0)), (Sl (Ki .u32) a0_1), (Vl (.int .i64 a0_2))], 45, none⟩]) [0] (sub_cons rfl sub_nil) (by decide) (pick_cons rfl pick_nil) ?_
    exact tx_ret1' Try.results21 rfl () (rv_cell_agg' (i := 0) (o := 0) (nn := 3) rfl ⟨rfl, rfl, rfl, rfl⟩ rfl agg45 rfl) (List.nil_sublist _)

def spec_Dyadic_Shift (k : Nat) (a0_0 : Bool) (a0_1 : List Int) (a0_2 : Int) (a1 : Int) : Option (Bool × (List Int) × Int) :=
  some (a0_0, a0_1, iadd .i64 a0_2 a1)

theorem spec_Dyadic_Shift_sim {k : Nat}  (a0_0 : Bool) (a0_1 : List Int) (a0_2 : Int) (a1 : Int) {out : Bool × (List Int) × Int} (hp : spec_Dyadic_Shift k a0_0 a0_1 a0_2 a1 = some out) : Go.Sx.Fn Try.prog 23 [(Ag [(Vl (.bool a0_0)), (Sl (Ki .u32) a0_1), (Vl (.int .i64 a0_2))]), (Vl (.int .i64 a1))] [] (fun w : Unit => (Ag [(Vl (.bool out.1)), (Sl (Ki .u32) out.2.1), (Vl (.int .i64 out.2.2))])) (fun w => []) := by
  unfold spec_Dyadic_Shift at hp
  refine fn_of Try.func23 rfl Try.ntmps23 rfl fun E hM => ?_
  refine cx_seq' fun K1 hK1 => ?_
  refine cx_region' ?_
  refine sx_ox' (ox_box' rfl (lv_ag _) rfl rfl) (wt_none' rfl) fun q2 => ?_
  refine sx_ox' (ox_alloc' info45 rfl rfl rfl rfl (l := [(Vl (.bool false)), (Vl (.slice none 0 0)), (Vl (.int .i64 0))]) rfl) (wt_none' rfl) fun q4 => ?_
  refine sx_nil' ?_
  show TX E K1 _
  refine tx_k' hK1 ?_
  refine cx_seq' fun K2 hK2 => ?_
  refine cx_region' ?_
  refine sx_rd' (rd_field0' rfl Try.underlying45 rfl info43 rfl) rfl rfl (wt_none' rfl) ?_
  refine sx_rd' (rd_load_agg' (i := 1) (o := 0) (nn := 2) rfl ⟨rfl, rfl, rfl, rfl⟩ rfl agg43 (l' := [(Vl (.bool a0_0)), (Sl (Ki .u32) a0_1)]) rfl) rfl rfl (wt_none' rfl) ?_
  refine sx_rd' (rd_field' (off := 2) rfl Try.underlying45 rfl info3 rfl) rfl rfl (wt_none' rfl) ?_
  refine sx_rd' (rd_load' (i := 1) (o := 2) rfl ⟨rfl, rfl, rfl, rfl⟩ rfl flat3) rfl rfl (wt_none' rfl) ?_
  refine sx_rd' (rd_move' rfl) rfl rfl (wt_none' rfl) ?_
  refine sx_rd' (rd_bin' rfl rfl eg_int ru_add) rfl rfl (wt_none' rfl) ?_
  refine sx_rd' (rd_build' (pls := [(0, 2), (2, 1)]) (qs := [(0, [(Vl (.bool a0_0)), (Sl (Ki .u32) a0_1)]), (1, [(Vl (.int .i64 (iadd .i64 a0_2 a1)))])]) (r := [(Vl (.bool a0_0)), (Sl (Ki .u32) a0_1), (Vl (.int .i64 (iadd .i64 a0_2 a1)))]) ⟨rfl, ⟨_, rfl, (lv_ag _)⟩, ⟨rfl, ⟨_, rfl, (lv_vl rfl rfl)⟩, trivial⟩⟩ Try.underlying45 has45 places45 info45 rfl rfl rfl) rfl rfl (wt_none' rfl) ?_
  refine sx_ox' (ox_store' (i := 0) (o := 0) rfl rfl (lv_ag _) ⟨rfl, rfl, rfl, rfl⟩ rfl info45 rfl (H' := [⟨.pointer (some q4), [(Vl (.bool a0_0)), (Sl (Ki .u32) a0_1), (Vl (.int .i64 (iadd .i64 a0_2 a1)))], 45, none⟩, ⟨.pointer (some q2), [(Vl (.bool a0_0)), (Sl (Ki .u32) a0_1), (Vl (.int .i64 a0_2))], 45, none⟩]) rfl) (wt_none' rfl) fun _ => ?_
  refine sx_nil' ?_
  show TX E K2 _
  refine tx_k' hK2 ?_
  refine cx_retc' ?_
  replace hp := Option.some.inj hp
  subst hp
  refine tx_pick' (L' := [(4, (Vl (.pointer (some q4))))]) (H' := [⟨.pointer (some q4), [(Vl (.bool a0_0)), (Sl (Ki .u32) a0_1), (Vl (.int .i64 (iadd .i64 a0_2 a1)))], 45, none⟩]) [0] (sub_cons rfl sub_nil) (by decide) (pick_cons rfl pick_nil) ?_
  exact tx_ret1' Try.results23 rfl () (rv_cell_agg' (i := 0) (o := 0) (nn := 3) rfl ⟨rfl, rfl, rfl, rfl⟩ rfl agg45 rfl) (List.nil_sublist _)

def spec_Dyadic_Cmp (k : Nat) (a0_0 : Bool) (a0_1 : List Int) (a0_2 : Int) (a1_0 : Bool) (a1_1 : List Int) (a1_2 : Int) : Option (Int) :=
  (spec_Dyadic_Sub k a0_0 a0_1 a0_2 a1_0 a1_1 a1_2) >>= fun r7 =>
  (spec_Dyadic_Sign k r7.1 r7.2.1 r7.2.2) >>= fun r8 =>
  some r8

theorem spec_Dyadic_Cmp_sim {k : Nat}  (a0_0 : Bool) (a0_1 : List Int) (a0_2 : Int) (a1_0 : Bool) (a1_1 : List Int) (a1_2 : Int) {out : Int} (hp : spec_Dyadic_Cmp k a0_0 a0_1 a0_2 a1_0 a1_1 a1_2 = some out) : Go.Sx.Fn Try.prog 22 [(Ag [(Vl (.bool a0_0)), (Sl (Ki .u32) a0_1), (Vl (.int .i64 a0_2))]), (Ag [(Vl (.bool a1_0)), (Sl (Ki .u32) a1_1), (Vl (.int .i64 a1_2))])] [] (fun w : Unit => (Vl (.int .i64 out))) (fun w => []) := by
  unfold spec_Dyadic_Cmp at hp
  refine fn_of Try.func22 rfl Try.ntmps22 rfl fun E hM => ?_
  refine cx_seq' fun K1 hK1 => ?_
  refine cx_region' ?_
  refine sx_ox' (ox_box' rfl (lv_ag _) rfl rfl) (wt_none' rfl) fun q2 => ?_
  refine sx_ox' (ox_box' rfl (lv_ag _) rfl rfl) (wt_none' rfl) fun q3 => ?_
  refine sx_rd' (rd_assign' rfl) rfl rfl (wt_none' rfl) ?_
  refine sx_nil' ?_
  show TX E K1 _
  refine tx_k' hK1 ?_
  refine cx_seq' fun K2 hK2 => ?_
  refine cx_region' ?_
  refine sx_rd' (rd_load_agg' (i := 1) (o := 0) (nn := 3) rfl ⟨rfl, rfl, rfl, rfl⟩ rfl agg45 (l' := [(Vl (.bool a0_0)), (Sl (Ki .u32) a0_1), (Vl (.int .i64 a0_2))]) rfl) rfl rfl (wt_none' rfl) ?_
  refine sx_rd' (rd_load_agg' (i := 0) (o := 0) (nn := 3) rfl ⟨rfl, rfl, rfl, rfl⟩ rfl agg45 (l' := [(Vl (.bool a1_0)), (Sl (Ki .u32) a1_1), (Vl (.int .i64 a1_2))]) rfl) rfl rfl (wt_none' rfl) ?_
  obtain ⟨r7, hr7, hp⟩ := bind_some hp
  refine sx_ox' (ox_calln' (ent_fn' Try.func20 isn20 rfl rfl) (spec_Dyadic_Sub_sim _ _ _ _ _ _ hr7 : Go.Sx.Fn Try.prog 20 [(Ag [(Vl (.bool a0_0)), (Sl (Ki .u32) a0_1), (Vl (.int .i64 a0_2))]), (Ag [(Vl (.bool a1_0)), (Sl (Ki .u32) a1_1), (Vl (.int .i64 a1_2))])] [] (fun x : Unit => (Ag [(Vl (.bool r7.1)), (Sl (Ki .u32) r7.2.1), (Vl (.int .i64 r7.2.2))])) (fun x => [])) (Hn := fun x : Unit => [⟨.pointer (some q3), [(Vl (.bool a1_0)), (Sl (Ki .u32) a1_1), (Vl (.int .i64 a1_2))], 45, none⟩, ⟨.pointer (some q2), [(Vl (.bool a0_0)), (Sl (Ki .u32) a0_1), (Vl (.int .i64 a0_2))], 45, none⟩]) (fun _ => rfl) rfl rfl) (wt_none' rfl) fun ⟨⟩ => ?_
  obtain ⟨r8, hr8, hp⟩ := bind_some hp
  refine sx_ox' (ox_calln' (ent_fn' Try.func47 isn47 rfl rfl) (spec_Dyadic_Sign_sim _ _ _ hr8 : Go.Sx.Fn Try.prog 47 [(Ag [(Vl (.bool r7.1)), (Sl (Ki .u32) r7.2.1), (Vl (.int .i64 r7.2.2))])] [] (fun x : Unit => (Vl (.int .i64 r8))) (fun x => [])) (Hn := fun x : Unit => [⟨.pointer (some q3), [(Vl (.bool a1_0)), (Sl (Ki .u32) a1_1), (Vl (.int .i64 a1_2))], 45, none⟩, ⟨.pointer (some q2), [(Vl (.bool a0_0)), (Sl (Ki .u32) a0_1), (Vl (.int .i64 a0_2))], 45, none⟩]) (fun _ => rfl) rfl rfl) (wt_none' rfl) fun ⟨⟩ => ?_
  refine sx_rd' (rd_assign' rfl) rfl rfl (wt_none' rfl) ?_
  refine sx_nil' ?_
  show TX E K2 _
  refine tx_k' hK2 ?_
  refine cx_retc' ?_
  replace hp := Option.some.inj hp
  subst hp
  refine tx_pick' (L' := [(4, (Vl (.int .i64 r8)))]) (H' := []) [] (sub_cons rfl sub_nil) (by decide) pick_nil ?_
  exact tx_ret1' Try.results22 rfl () (rv_tmp' rfl) (List.Sublist.refl _)

def laws_FnLength3_j1 (k : Nat) (a0_0 : Nat) (a0_1 : Nat) (a0_2 : Nat) (r11 : Nat) (x1 : Bool) : Option (Bool) :=
  br x1
    (some false)
    ((laws_off3 k a0_0 a0_1 a0_2) >>= fun r20 =>
    (mk 8 0 3 3) >>= fun r21 =>
    (spec_SquareN k r20 r21) >>= fun r22 =>
    (spec_DyadicOf k r22) >>= fun r23 =>
    (spec_DyadicOf k r11) >>= fun r25 =>
    (spec_DyadicOf k r11) >>= fun r27 =>
    (spec_Dyadic_Mul k r25.1 r25.2.1 r25.2.2 r27.1 r27.2.1 r27.2.2) >>= fun r28 =>
    (spec_Dyadic_Sub k r28.1 r28.2.1 r28.2.2 r23.1 r23.2.1 r23.2.2) >>= fun r30 =>
    (spec_Dyadic_Abs k r30.1 r30.2.1 r30.2.2) >>= fun r31 =>
    (spec_Dyadic_Shift k r23.1 r23.2.1 r23.2.2 (-48)) >>= fun r34 =>
    (spec_Dyadic_Cmp k r31.1 r31.2.1 r31.2.2 r34.1 r34.2.1 r34.2.2) >>= fun r35 =>
    some (decide (r35 ≤ 0)))
def laws_FnLength3 (k : Nat) (a0_0 : Nat) (a0_1 : Nat) (a0_2 : Nat) : Option (Bool) :=
  (laws_whole3 k ([(a0_0, a0_1, a0_2)])) >>= fun r8 =>
  br (!r8)
    (some true)
    ((impl_Length3 k a0_0 a0_1 a0_2) >>= fun r11 =>
    (spec_Finite k r11) >>= fun r13 =>
    br (!r13)
      (laws_FnLength3_j1 k a0_0 a0_1 a0_2 r11 true)
      (laws_FnLength3_j1 k a0_0 a0_1 a0_2 r11 (flt r11 0)))

theorem laws_FnLength3_sim {k : Nat}  (a0_0 : Nat) (a0_1 : Nat) (a0_2 : Nat) {out : Bool} (hp : laws_FnLength3 k a0_0 a0_1 a0_2 = some out) : Go.Sx.Fn Try.prog 5 [(Ag [(Vl (.float .f64 a0_0)), (Vl (.float .f64 a0_1)), (Vl (.float .f64 a0_2))])] [] (fun w : Unit => (Vl (.bool out))) (fun w => []) := by
  unfold laws_FnLength3 at hp
  refine fn_of Try.func5 rfl Try.ntmps5 rfl fun E hM => ?_
  refine cx_seq' fun K1 hK1 => ?_
  refine cx_region' ?_
  refine sx_ox' (ox_box' rfl (lv_ag _) rfl rfl) (wt_none' rfl) fun q1 => ?_
  refine sx_rd' (rd_assign' rfl) rfl rfl (wt_none' rfl) ?_
  refine sx_nil' ?_
  show TX E K1 _
  refine tx_k' hK1 ?_
  refine cx_seq' fun K2 hK2 => ?_
  refine cx_seq' fun K3 hK3 => ?_
  refine cx_region' ?_
  refine sx_rd' (rd_load_agg' (i := 0) (o := 0) (nn := 3) rfl ⟨rfl, rfl, rfl, rfl⟩ rfl agg53 (l' := [(Vl (.float .f64 a0_0)), (Vl (.float .f64 a0_1)), (Vl (.float .f64 a0_2))]) rfl) rfl rfl (wt_none' rfl) ?_
  refine sx_ox' (ox_rowlit' (K := KT53) (xs := [(a0_0, a0_1, a0_2)]) (qs := [(0, [(Vl (.float .f64 a0_0)), (Vl (.float .f64 a0_1)), (Vl (.float .f64 a0_2))])]) ⟨rfl, ⟨_, rfl, (lv_ag _)⟩, trivial⟩ Try.underlying81 info53 rfl rfl rfl rfl rfl (by kernel_rfl) rfl rfl rfl) (wt_none' rfl) fun g7 => ?_
  obtain ⟨r8, hr8, hp⟩ := bind_some hp
  refine sx_ox' (ox_brw' (frz_row 0 [(7, (Vl (Vs g7)), (Sl KT53 ([(a0_0, a0_1, a0_2)])))] (K := KT53) (xs := [(a0_0, a0_1, a0_2)]) (by decide) rfl ⟨⟨rfl, frz_it⟩, trivial⟩ (H' := [⟨.pointer (some q1), [(Vl (.float .f64 a0_0)), (Vl (.float .f64 a0_1)), (Vl (.float .f64 a0_2))], 53, none⟩]) frzH_refl) (ent_fn' Try.func24 isn24 rfl rfl) (laws_whole3_sim _ hr8 : Go.Sx.Fn Try.prog 24 [(Sl KT53 ([(a0_0, a0_1, a0_2)]))] [] (fun x : Unit => (Vl (.bool r8))) (fun x => [])) pu_vl rfl rfl) (wt_none' rfl) fun ⟨⟩ => ?_
  refine sx_rd' (rd_un' rfl ru_not) rfl rfl (wt_none' rfl) ?_
  refine sx_nil' ?_
  show TX E K3 _
  refine tx_k' hK3 ?_
  refine cx_cond' rfl (fun h1 => ?_) (fun h1 => ?_)
  · replace hp := (br_t h1).symm.trans hp
    refine cx_seq' fun K4 hK4 => ?_
    refine cx_region' ?_
    refine sx_rd' (rd_assign' rfl) rfl rfl (wt_none' rfl) ?_
    refine sx_nil' ?_
    show TX E K4 _
    refine tx_k' hK4 ?_
    refine cx_retc' ?_
    replace hp := Option.some.inj hp
    subst hp
    refine tx_pick' (L' := [(2, (Vl (.bool true)))]) (H' := []) [] (sub_cons rfl sub_nil) (by decide) pick_nil ?_
    exact tx_ret1' Try.results5 rfl () (rv_tmp' rfl) (List.Sublist.refl _)
  · replace hp := (br_f h1).symm.trans hp
    refine cx_skip' ?_
    show TX E K2 _
    refine tx_k' hK2 ?_
    refine cx_seq' fun K5 hK5 => ?_
    refine cx_region' ?_
    refine sx_rd' (rd_load_agg' (i := 1) (o := 0) (nn := 3) rfl ⟨rfl, rfl, rfl, rfl⟩ rfl agg53 (l' := [(Vl (.float .f64 a0_0)), (Vl (.float .f64 a0_1)), (Vl (.float .f64 a0_2))]) rfl) rfl rfl (wt_none' rfl) ?_
    obtain ⟨r11, hr11, hp⟩ := bind_some hp
    refine sx_ox' (ox_calln' (ent_fn' Try.func25 isn25 rfl rfl) (impl_Length3_sim _ _ _ hr11 : Go.Sx.Fn Try.prog 25 [(Ag [(Vl (.float .f64 a0_0)), (Vl (.float .f64 a0_1)), (Vl (.float .f64 a0_2))])] [] (fun x : Unit => (Vl (.float .f64 r11))) (fun x => [])) (Hn := fun x : Unit => [(Rw KT53 53 (Vs g7) ([(a0_0, a0_1, a0_2)])), ⟨.pointer (some q1), [(Vl (.float .f64 a0_0)), (Vl (.float .f64 a0_1)), (Vl (.float .f64 a0_2))], 53, none⟩]) (fun _ => rfl) rfl rfl) (wt_none' rfl) fun ⟨⟩ => ?_
    refine sx_rd' (rd_assign' rfl) rfl rfl (wt_none' rfl) ?_
    refine sx_nil' ?_
    show TX E K5 _
    refine tx_k' hK5 ?_
    refine cx_seq' fun K6 hK6 => ?_
    refine cx_seq' fun K7 hK7 => ?_
    refine cx_region' ?_
    refine sx_rd' (rd_move' rfl) rfl rfl (wt_none' rfl) ?_
    obtain ⟨r13, hr13, hp⟩ := bind_some hp
    refine sx_ox' (ox_calln' (ent_fn' Try.func17 isn17 rfl rfl) (spec_Finite_sim _ hr13 : Go.Sx.Fn Try.prog 17 [(Vl (.float .f64 r11))] [] (fun x : Unit => (Vl (.bool r13))) (fun x => [])) (Hn := fun x : Unit => [(Rw KT53 53 (Vs g7) ([(a0_0, a0_1, a0_2)])), ⟨.pointer (some q1), [(Vl (.float .f64 a0_0)), (Vl (.float .f64 a0_1)), (Vl (.float .f64 a0_2))], 53, none⟩]) (fun _ => rfl) rfl rfl) (wt_none' rfl) fun ⟨⟩ => ?_
    refine sx_rd' (rd_un' rfl ru_not) rfl rfl (wt_none' rfl) ?_
    refine sx_rd' (rd_move' rfl) rfl rfl (wt_none' rfl) ?_
    refine sx_cutn' 3 (fun (v1 : Bool) => (⟨37, [], [(1, (Vl (.pointer (some q1)))), (3, (Vl (.float .f64 r11))), (18, (Vl (.bool v1)))], [⟨.pointer (some q1), [(Vl (.float .f64 a0_0)), (Vl (.float .f64 a0_1)), (Vl (.float .f64 a0_2))], 53, none⟩]⟩ : St)) (fun (v1 : Bool) => laws_FnLength3_j1 k a0_0 a0_1 a0_2 r11 v1 = some out) ?_ ?_
    · rintro x1 hp
      replace hp : laws_FnLength3_j1 k a0_0 a0_1 a0_2 r11 x1 = some out := hp
      unfold laws_FnLength3_j1 at hp
      refine sx_nil' ?_
      show TX E K7 _
      refine tx_k' hK7 ?_
      refine cx_cond' rfl (fun h3 => ?_) (fun h3 => ?_)
      · replace hp := (br_t h3).symm.trans hp
        refine cx_seq' fun K9 hK9 => ?_
        refine cx_region' ?_
        refine sx_rd' (rd_assign' rfl) rfl rfl (wt_none' rfl) ?_
        refine sx_nil' ?_
        show TX E K9 _
        refine tx_k' hK9 ?_
        refine cx_retc' ?_
        replace hp := Option.some.inj hp
        subst hp
        refine tx_pick' (L' := [(2, (Vl (.bool false)))]) (H' := []) [] (sub_cons rfl sub_nil) (by decide) pick_nil ?_
        exact tx_ret1' Try.results5 rfl () (rv_tmp' rfl) (List.Sublist.refl _)
      · replace hp := (br_f h3).symm.trans hp
        refine cx_skip' ?_
        show TX E K6 _
        refine tx_k' hK6 ?_
        refine cx_seq' fun K10 hK10 => ?_
        refine cx_plana' [] [(6, 1)] [(0, 1)] 6 #[true, false, false, false, false, false, false] mixed (by kernel_rfl) ?_
        refine px_rd' rfl (rd_load_agg' (i := 0) (o := 0) (nn := 3) rfl ⟨rfl, rfl, rfl, rfl⟩ rfl agg53 (l' := [(Vl (.float .f64 a0_0)), (Vl (.float .f64 a0_1)), (Vl (.float .f64 a0_2))]) rfl) rfl rfl (wt_none' rfl) ?_
        refine px_nil' ?_
        show AX E _ _ _ _ _ _ _ _
        obtain ⟨r20, hr20, hp⟩ := bind_some hp
        obtain ⟨r21, hr21, hp⟩ := bind_some hp
        obtain ⟨r22, hr22, hp⟩ := bind_some hp
        obtain ⟨r23, hr23, hp⟩ := bind_some hp
        refine ax_node (f' := 0) #[true, true, true, true, true, true, true] (fun (v13 : Addr) => (⟨37, [], [(3, (Vl (.float .f64 r11))), (4, (Vl (.pointer (some v13))))], [⟨.pointer (some v13), [(Vl (.bool r23.1)), (Sl (Ki .u32) r23.2.1), (Vl (.int .i64 r23.2.2))], 45, none⟩]⟩ : St)) ?_ ?_
        · rintro q907
          refine ax_nil (by kernel_rfl) ?_
          show TX E K10 _
          refine tx_k' hK10 ?_
          refine cx_seq' fun K11 hK11 => ?_
          refine cx_plana' [] [(9, 1)] [(0, 1), (2, 1), (5, 1)] 7 #[true, false, true, false, false, true, false, false, false, false] mixed (by kernel_rfl) ?_
          refine px_rd' rfl (rd_move' rfl) rfl rfl (wt_none' rfl) ?_
          refine px_rd' rfl (rd_move' rfl) rfl rfl (wt_none' rfl) ?_
          refine px_rd' rfl (rd_load_agg' (i := 0) (o := 0) (nn := 3) rfl ⟨rfl, rfl, rfl, rfl⟩ rfl agg45 (l' := [(Vl (.bool r23.1)), (Sl (Ki .u32) r23.2.1), (Vl (.int .i64 r23.2.2))]) rfl) rfl rfl (wt_none' rfl) ?_
          refine px_nil' ?_
          show AX E _ _ _ _ _ _ _ _
          obtain ⟨r25, hr25, hp⟩ := bind_some hp
          obtain ⟨r27, hr27, hp⟩ := bind_some hp
          obtain ⟨r28, hr28, hp⟩ := bind_some hp
          obtain ⟨r30, hr30, hp⟩ := bind_some hp
          obtain ⟨r31, hr31, hp⟩ := bind_some hp
          refine ax_node (f' := 0) #[true, true, true, true, true, true, true, true, true, true] (fun (v25 : Addr × Addr) => (⟨37, [], [(4, (Vl (.pointer (some v25.1)))), (5, (Vl (.pointer (some v25.2))))], [⟨.pointer (some v25.1), [(Vl (.bool r23.1)), (Sl (Ki .u32) r23.2.1), (Vl (.int .i64 r23.2.2))], 45, none⟩, ⟨.pointer (some v25.2), [(Vl (.bool r31.1)), (Sl (Ki .u32) r31.2.1), (Vl (.int .i64 r31.2.2))], 45, none⟩]⟩ : St)) ?_ ?_
          · rintro ⟨q9025, q9026⟩
            refine ax_nil (by kernel_rfl) ?_
            show TX E K11 _
            refine tx_k' hK11 ?_
            refine cx_seq' fun K12 hK12 => ?_
            refine cx_plan' [] [] [(0, 1), (1, 1), (2, 0), (3, 0), (4, 1), (5, 1)] mixed (by kernel_rfl) ?_
            refine px_rd' rfl (rd_load_agg' (i := 1) (o := 0) (nn := 3) rfl ⟨rfl, rfl, rfl, rfl⟩ rfl agg45 (l' := [(Vl (.bool r31.1)), (Sl (Ki .u32) r31.2.1), (Vl (.int .i64 r31.2.2))]) rfl) rfl rfl (wt_none' rfl) ?_
            refine px_rd' rfl (rd_load_agg' (i := 0) (o := 0) (nn := 3) rfl ⟨rfl, rfl, rfl, rfl⟩ rfl agg45 (l' := [(Vl (.bool r23.1)), (Sl (Ki .u32) r23.2.1), (Vl (.int .i64 r23.2.2))]) rfl) rfl rfl (wt_none' rfl) ?_
            obtain ⟨r34, hr34, hp⟩ := bind_some hp
            refine px_ox' rfl (ox_calln' (ent_fn' Try.func23 isn23 rfl rfl) (spec_Dyadic_Shift_sim _ _ _ _ hr34 : Go.Sx.Fn Try.prog 23 [(Ag [(Vl (.bool r23.1)), (Sl (Ki .u32) r23.2.1), (Vl (.int .i64 r23.2.2))]), (Vl (.int .i64 (-48)))] [] (fun x : Unit => (Ag [(Vl (.bool r34.1)), (Sl (Ki .u32) r34.2.1), (Vl (.int .i64 r34.2.2))])) (fun x => [])) (Hn := fun x : Unit => [⟨.pointer (some q9025), [(Vl (.bool r23.1)), (Sl (Ki .u32) r23.2.1), (Vl (.int .i64 r23.2.2))], 45, none⟩, ⟨.pointer (some q9026), [(Vl (.bool r31.1)), (Sl (Ki .u32) r31.2.1), (Vl (.int .i64 r31.2.2))], 45, none⟩]) (fun _ => rfl) rfl rfl) rfl bs_nil (wt_none' rfl) fun ⟨⟩ => ?_
            obtain ⟨r35, hr35, hp⟩ := bind_some hp
            refine px_ox' rfl (ox_calln' (ent_fn' Try.func22 isn22 rfl rfl) (spec_Dyadic_Cmp_sim _ _ _ _ _ _ hr35 : Go.Sx.Fn Try.prog 22 [(Ag [(Vl (.bool r31.1)), (Sl (Ki .u32) r31.2.1), (Vl (.int .i64 r31.2.2))]), (Ag [(Vl (.bool r34.1)), (Sl (Ki .u32) r34.2.1), (Vl (.int .i64 r34.2.2))])] [] (fun x : Unit => (Vl (.int .i64 r35))) (fun x => [])) (Hn := fun x : Unit => [⟨.pointer (some q9025), [(Vl (.bool r23.1)), (Sl (Ki .u32) r23.2.1), (Vl (.int .i64 r23.2.2))], 45, none⟩, ⟨.pointer (some q9026), [(Vl (.bool r31.1)), (Sl (Ki .u32) r31.2.1), (Vl (.int .i64 r31.2.2))], 45, none⟩]) (fun _ => rfl) rfl rfl) rfl bs_nil (wt_none' rfl) fun ⟨⟩ => ?_
            refine px_rd' rfl (rd_bin' rfl rfl eg_int ru_leq) rfl rfl (wt_none' rfl) ?_
            refine px_rd' rfl (rd_assign' rfl) rfl rfl (wt_none' rfl) ?_
            refine px_nil' ?_
            show TX E K12 _
            refine tx_k' hK12 ?_
            refine cx_retc' ?_
            replace hp := Option.some.inj hp
            subst hp
            refine tx_pick' (L' := [(2, (Vl (.bool (decide (r35 ≤ 0)))))]) (H' := []) [] (sub_cons rfl sub_nil) (by decide) pick_nil ?_
            exact tx_ret1' Try.results5 rfl () (rv_tmp' rfl) (List.Sublist.refl _)
          intro hN13
          refine ax_node (f' := 1) #[true, true, true, true, true, true, true, true, true, false] (fun (v24 : Addr × Addr) => (⟨37, [], [(4, (Vl (.pointer (some v24.1)))), (5, (Vl (.pointer (some v24.2)))), (31, (Ag [(Vl (.bool r31.1)), (Sl (Ki .u32) r31.2.1), (Vl (.int .i64 r31.2.2))]))], [⟨.pointer (some v24.1), [(Vl (.bool r23.1)), (Sl (Ki .u32) r23.2.1), (Vl (.int .i64 r23.2.2))], 45, none⟩, ⟨.pointer (some v24.2), [(Vl (.bool false)), (Vl (.slice none 0 0)), (Vl (.int .i64 0))], 45, none⟩]⟩ : St)) ?_ ?_
          · rintro ⟨q9023, q9024⟩
            refine ax_all (i := 9) (is := []) (by kernel_rfl) (all_cons ?_ all_nil)
            · refine nx_oxv (last := #[true, true, true, true, true, true, true, true, true, true]) rfl (oxv_store (i := 1) (o := 0) rfl rfl (lv_ag _) ⟨rfl, rfl, rfl, rfl⟩ rfl info45 rfl (H' := [⟨.pointer (some q9023), [(Vl (.bool r23.1)), (Sl (Ki .u32) r23.2.1), (Vl (.int .i64 r23.2.2))], 45, none⟩, ⟨.pointer (some q9024), [(Vl (.bool r31.1)), (Sl (Ki .u32) r31.2.1), (Vl (.int .i64 r31.2.2))], 45, none⟩]) rfl) rfl rfl bo_nil (wt_none' rfl) rfl fun _ => ?_
              exact tx_pick' [0, 1] (sub_cons rfl (sub_cons rfl sub_nil)) (by decide) (pick_cons rfl (pick_cons rfl pick_nil)) (hN13 (q9023, q9024))
          intro hN12
          refine ax_node (f' := 2) #[true, true, true, true, true, true, true, true, false, false] (fun (v22 : Addr) => (⟨37, [], [(4, (Vl (.pointer (some v22)))), (31, (Ag [(Vl (.bool r31.1)), (Sl (Ki .u32) r31.2.1), (Vl (.int .i64 r31.2.2))]))], [⟨.pointer (some v22), [(Vl (.bool r23.1)), (Sl (Ki .u32) r23.2.1), (Vl (.int .i64 r23.2.2))], 45, none⟩]⟩ : St)) ?_ ?_
          · rintro q9020
            refine ax_all (i := 8) (is := []) (by kernel_rfl) (all_cons ?_ all_nil)
            · refine nx_ox (last := #[true, true, true, true, true, true, true, true, true, false]) rfl (ox_alloc' info45 rfl rfl rfl rfl (l := [(Vl (.bool false)), (Vl (.slice none 0 0)), (Vl (.int .i64 0))]) rfl) rfl bs_nil (wt_none' rfl) rfl fun q5 => ?_
              exact tx_pick' [1, 0] (sub_cons rfl (sub_cons rfl (sub_cons rfl sub_nil))) (by decide) (pick_cons rfl (pick_cons rfl pick_nil)) (hN12 (q9020, q5))
          intro hN10
          refine ax_node (f' := 2) #[true, true, true, true, true, true, true, false, true, false] (fun (v23 : Addr × Addr) => (⟨37, [], [(4, (Vl (.pointer (some v23.1)))), (5, (Vl (.pointer (some v23.2)))), (30, (Ag [(Vl (.bool r30.1)), (Sl (Ki .u32) r30.2.1), (Vl (.int .i64 r30.2.2))]))], [⟨.pointer (some v23.1), [(Vl (.bool r23.1)), (Sl (Ki .u32) r23.2.1), (Vl (.int .i64 r23.2.2))], 45, none⟩, ⟨.pointer (some v23.2), [(Vl (.bool false)), (Vl (.slice none 0 0)), (Vl (.int .i64 0))], 45, none⟩]⟩ : St)) ?_ ?_
          · rintro ⟨q9021, q9022⟩
            refine ax_all (i := 7) (is := []) (by kernel_rfl) (all_cons ?_ all_nil)
            · refine nx_ox (last := #[true, true, true, true, true, true, true, true, true, false]) rfl (ox_calln' (ent_fn' Try.func21 isn21 rfl rfl) (spec_Dyadic_Abs_sim _ _ _ hr31 : Go.Sx.Fn Try.prog 21 [(Ag [(Vl (.bool r30.1)), (Sl (Ki .u32) r30.2.1), (Vl (.int .i64 r30.2.2))])] [] (fun x : Unit => (Ag [(Vl (.bool r31.1)), (Sl (Ki .u32) r31.2.1), (Vl (.int .i64 r31.2.2))])) (fun x => [])) (Hn := fun x : Unit => [⟨.pointer (some q9021), [(Vl (.bool r23.1)), (Sl (Ki .u32) r23.2.1), (Vl (.int .i64 r23.2.2))], 45, none⟩, ⟨.pointer (some q9022), [(Vl (.bool false)), (Vl (.slice none 0 0)), (Vl (.int .i64 0))], 45, none⟩]) (fun _ => rfl) rfl rfl) rfl bs_nil (wt_none' rfl) rfl fun ⟨⟩ => ?_
              exact tx_pick' [0, 1] (sub_cons rfl (sub_cons rfl (sub_cons rfl sub_nil))) (by decide) (pick_cons rfl (pick_cons rfl pick_nil)) (hN12 (q9021, q9022))
          intro hN11
          refine ax_node (f' := 3) #[true, true, true, true, true, true, true, false, false, false] (fun (v20 : Addr) => (⟨37, [], [(4, (Vl (.pointer (some v20)))), (30, (Ag [(Vl (.bool r30.1)), (Sl (Ki .u32) r30.2.1), (Vl (.int .i64 r30.2.2))]))], [⟨.pointer (some v20), [(Vl (.bool r23.1)), (Sl (Ki .u32) r23.2.1), (Vl (.int .i64 r23.2.2))], 45, none⟩]⟩ : St)) ?_ ?_
          · rintro q9017
            refine ax_all (i := 7) (is := [8]) (by kernel_rfl) (all_cons ?_ (all_cons ?_ all_nil))
            · refine nx_ox (last := #[true, true, true, true, true, true, true, true, false, false]) rfl (ox_calln' (ent_fn' Try.func21 isn21 rfl rfl) (spec_Dyadic_Abs_sim _ _ _ hr31 : Go.Sx.Fn Try.prog 21 [(Ag [(Vl (.bool r30.1)), (Sl (Ki .u32) r30.2.1), (Vl (.int .i64 r30.2.2))])] [] (fun x : Unit => (Ag [(Vl (.bool r31.1)), (Sl (Ki .u32) r31.2.1), (Vl (.int .i64 r31.2.2))])) (fun x => [])) (Hn := fun x : Unit => [⟨.pointer (some q9017), [(Vl (.bool r23.1)), (Sl (Ki .u32) r23.2.1), (Vl (.int .i64 r23.2.2))], 45, none⟩]) (fun _ => rfl) rfl rfl) rfl bs_nil (wt_none' rfl) rfl fun ⟨⟩ => ?_
              exact tx_pick' [0] (sub_cons rfl (sub_cons rfl sub_nil)) (by decide) (pick_cons rfl pick_nil) (hN10 q9017)
            · refine nx_ox (last := #[true, true, true, true, true, true, true, false, true, false]) rfl (ox_alloc' info45 rfl rfl rfl rfl (l := [(Vl (.bool false)), (Vl (.slice none 0 0)), (Vl (.int .i64 0))]) rfl) rfl bs_nil (wt_none' rfl) rfl fun q5 => ?_
              exact tx_pick' [1, 0] (sub_cons rfl (sub_cons rfl (sub_cons rfl sub_nil))) (by decide) (pick_cons rfl (pick_cons rfl pick_nil)) (hN11 (q9017, q5))
          intro hN8
          refine ax_node (f' := 3) #[true, true, true, true, true, true, false, false, true, false] (fun (v21 : Addr × Addr) => (⟨37, [], [(4, (Vl (.pointer (some v21.1)))), (5, (Vl (.pointer (some v21.2)))), (28, (Ag [(Vl (.bool r28.1)), (Sl (Ki .u32) r28.2.1), (Vl (.int .i64 r28.2.2))])), (29, (Ag [(Vl (.bool r23.1)), (Sl (Ki .u32) r23.2.1), (Vl (.int .i64 r23.2.2))]))], [⟨.pointer (some v21.1), [(Vl (.bool r23.1)), (Sl (Ki .u32) r23.2.1), (Vl (.int .i64 r23.2.2))], 45, none⟩, ⟨.pointer (some v21.2), [(Vl (.bool false)), (Vl (.slice none 0 0)), (Vl (.int .i64 0))], 45, none⟩]⟩ : St)) ?_ ?_
          · rintro ⟨q9018, q9019⟩
            refine ax_all (i := 6) (is := []) (by kernel_rfl) (all_cons ?_ all_nil)
            · refine nx_ox (last := #[true, true, true, true, true, true, true, false, true, false]) rfl (ox_calln' (ent_fn' Try.func20 isn20 rfl rfl) (spec_Dyadic_Sub_sim _ _ _ _ _ _ hr30 : Go.Sx.Fn Try.prog 20 [(Ag [(Vl (.bool r28.1)), (Sl (Ki .u32) r28.2.1), (Vl (.int .i64 r28.2.2))]), (Ag [(Vl (.bool r23.1)), (Sl (Ki .u32) r23.2.1), (Vl (.int .i64 r23.2.2))])] [] (fun x : Unit => (Ag [(Vl (.bool r30.1)), (Sl (Ki .u32) r30.2.1), (Vl (.int .i64 r30.2.2))])) (fun x => [])) (Hn := fun x : Unit => [⟨.pointer (some q9018), [(Vl (.bool r23.1)), (Sl (Ki .u32) r23.2.1), (Vl (.int .i64 r23.2.2))], 45, none⟩, ⟨.pointer (some q9019), [(Vl (.bool false)), (Vl (.slice none 0 0)), (Vl (.int .i64 0))], 45, none⟩]) (fun _ => rfl) rfl rfl) rfl bs_nil (wt_none' rfl) rfl fun ⟨⟩ => ?_
              exact tx_pick' [0, 1] (sub_cons rfl (sub_cons rfl (sub_cons rfl sub_nil))) (by decide) (pick_cons rfl (pick_cons rfl pick_nil)) (hN11 (q9018, q9019))
          intro hN9
          refine ax_node (f' := 4) #[true, true, true, true, true, true, false, false, false, false] (fun (v18 : Addr) => (⟨37, [], [(4, (Vl (.pointer (some v18)))), (28, (Ag [(Vl (.bool r28.1)), (Sl (Ki .u32) r28.2.1), (Vl (.int .i64 r28.2.2))])), (29, (Ag [(Vl (.bool r23.1)), (Sl (Ki .u32) r23.2.1), (Vl (.int .i64 r23.2.2))]))], [⟨.pointer (some v18), [(Vl (.bool r23.1)), (Sl (Ki .u32) r23.2.1), (Vl (.int .i64 r23.2.2))], 45, none⟩]⟩ : St)) ?_ ?_
          · rintro q9014
            refine ax_all (i := 6) (is := [8]) (by kernel_rfl) (all_cons ?_ (all_cons ?_ all_nil))
            · refine nx_ox (last := #[true, true, true, true, true, true, true, false, false, false]) rfl (ox_calln' (ent_fn' Try.func20 isn20 rfl rfl) (spec_Dyadic_Sub_sim _ _ _ _ _ _ hr30 : Go.Sx.Fn Try.prog 20 [(Ag [(Vl (.bool r28.1)), (Sl (Ki .u32) r28.2.1), (Vl (.int .i64 r28.2.2))]), (Ag [(Vl (.bool r23.1)), (Sl (Ki .u32) r23.2.1), (Vl (.int .i64 r23.2.2))])] [] (fun x : Unit => (Ag [(Vl (.bool r30.1)), (Sl (Ki .u32) r30.2.1), (Vl (.int .i64 r30.2.2))])) (fun x => [])) (Hn := fun x : Unit => [⟨.pointer (some q9014), [(Vl (.bool r23.1)), (Sl (Ki .u32) r23.2.1), (Vl (.int .i64 r23.2.2))], 45, none⟩]) (fun _ => rfl) rfl rfl) rfl bs_nil (wt_none' rfl) rfl fun ⟨⟩ => ?_
              exact tx_pick' [0] (sub_cons rfl (sub_cons rfl sub_nil)) (by decide) (pick_cons rfl pick_nil) (hN8 q9014)
            · refine nx_ox (last := #[true, true, true, true, true, true, false, false, true, false]) rfl (ox_alloc' info45 rfl rfl rfl rfl (l := [(Vl (.bool false)), (Vl (.slice none 0 0)), (Vl (.int .i64 0))]) rfl) rfl bs_nil (wt_none' rfl) rfl fun q5 => ?_
              exact tx_pick' [1, 0] (sub_cons rfl (sub_cons rfl (sub_cons rfl (sub_cons rfl sub_nil)))) (by decide) (pick_cons rfl (pick_cons rfl pick_nil)) (hN9 (q9014, q5))
          intro hN6
          refine ax_node (f' := 4) #[true, true, true, true, false, true, false, false, true, false] (fun (v19 : Addr × Addr) => (⟨37, [], [(4, (Vl (.pointer (some v19.1)))), (5, (Vl (.pointer (some v19.2)))), (25, (Ag [(Vl (.bool r25.1)), (Sl (Ki .u32) r25.2.1), (Vl (.int .i64 r25.2.2))])), (27, (Ag [(Vl (.bool r27.1)), (Sl (Ki .u32) r27.2.1), (Vl (.int .i64 r27.2.2))])), (29, (Ag [(Vl (.bool r23.1)), (Sl (Ki .u32) r23.2.1), (Vl (.int .i64 r23.2.2))]))], [⟨.pointer (some v19.1), [(Vl (.bool r23.1)), (Sl (Ki .u32) r23.2.1), (Vl (.int .i64 r23.2.2))], 45, none⟩, ⟨.pointer (some v19.2), [(Vl (.bool false)), (Vl (.slice none 0 0)), (Vl (.int .i64 0))], 45, none⟩]⟩ : St)) ?_ ?_
          · rintro ⟨q9015, q9016⟩
            refine ax_all (i := 4) (is := []) (by kernel_rfl) (all_cons ?_ all_nil)
            · refine nx_ox (last := #[true, true, true, true, true, true, false, false, true, false]) rfl (ox_calln' (ent_fn' Try.func19 isn19 rfl rfl) (spec_Dyadic_Mul_sim _ _ _ _ _ _ hr28 : Go.Sx.Fn Try.prog 19 [(Ag [(Vl (.bool r25.1)), (Sl (Ki .u32) r25.2.1), (Vl (.int .i64 r25.2.2))]), (Ag [(Vl (.bool r27.1)), (Sl (Ki .u32) r27.2.1), (Vl (.int .i64 r27.2.2))])] [] (fun x : Unit => (Ag [(Vl (.bool r28.1)), (Sl (Ki .u32) r28.2.1), (Vl (.int .i64 r28.2.2))])) (fun x => [])) (Hn := fun x : Unit => [⟨.pointer (some q9015), [(Vl (.bool r23.1)), (Sl (Ki .u32) r23.2.1), (Vl (.int .i64 r23.2.2))], 45, none⟩, ⟨.pointer (some q9016), [(Vl (.bool false)), (Vl (.slice none 0 0)), (Vl (.int .i64 0))], 45, none⟩]) (fun _ => rfl) rfl rfl) rfl bs_nil (wt_none' rfl) rfl fun ⟨⟩ => ?_
              exact tx_pick' [0, 1] (sub_cons rfl (sub_cons rfl (sub_cons rfl (sub_cons rfl sub_nil)))) (by decide) (pick_cons rfl (pick_cons rfl pick_nil)) (hN9 (q9015, q9016))
          intro hN7
          refine ax_node (f' := 5) #[true, true, true, true, false, true, false, false, false, false] (fun (v16 : Addr) => (⟨37, [], [(4, (Vl (.pointer (some v16)))), (25, (Ag [(Vl (.bool r25.1)), (Sl (Ki .u32) r25.2.1), (Vl (.int .i64 r25.2.2))])), (27, (Ag [(Vl (.bool r27.1)), (Sl (Ki .u32) r27.2.1), (Vl (.int .i64 r27.2.2))])), (29, (Ag [(Vl (.bool r23.1)), (Sl (Ki .u32) r23.2.1), (Vl (.int .i64 r23.2.2))]))], [⟨.pointer (some v16), [(Vl (.bool r23.1)), (Sl (Ki .u32) r23.2.1), (Vl (.int .i64 r23.2.2))], 45, none⟩]⟩ : St)) ?_ ?_
          · rintro q9011
            refine ax_all (i := 4) (is := [8]) (by kernel_rfl) (all_cons ?_ (all_cons ?_ all_nil))
            · refine nx_ox (last := #[true, true, true, true, true, true, false, false, false, false]) rfl (ox_calln' (ent_fn' Try.func19 isn19 rfl rfl) (spec_Dyadic_Mul_sim _ _ _ _ _ _ hr28 : Go.Sx.Fn Try.prog 19 [(Ag [(Vl (.bool r25.1)), (Sl (Ki .u32) r25.2.1), (Vl (.int .i64 r25.2.2))]), (Ag [(Vl (.bool r27.1)), (Sl (Ki .u32) r27.2.1), (Vl (.int .i64 r27.2.2))])] [] (fun x : Unit => (Ag [(Vl (.bool r28.1)), (Sl (Ki .u32) r28.2.1), (Vl (.int .i64 r28.2.2))])) (fun x => [])) (Hn := fun x : Unit => [⟨.pointer (some q9011), [(Vl (.bool r23.1)), (Sl (Ki .u32) r23.2.1), (Vl (.int .i64 r23.2.2))], 45, none⟩]) (fun _ => rfl) rfl rfl) rfl bs_nil (wt_none' rfl) rfl fun ⟨⟩ => ?_
              exact tx_pick' [0] (sub_cons rfl (sub_cons rfl (sub_cons rfl sub_nil))) (by decide) (pick_cons rfl pick_nil) (hN6 q9011)
            · refine nx_ox (last := #[true, true, true, true, false, true, false, false, true, false]) rfl (ox_alloc' info45 rfl rfl rfl rfl (l := [(Vl (.bool false)), (Vl (.slice none 0 0)), (Vl (.int .i64 0))]) rfl) rfl bs_nil (wt_none' rfl) rfl fun q5 => ?_
              exact tx_pick' [1, 0] (sub_cons rfl (sub_cons rfl (sub_cons rfl (sub_cons rfl (sub_cons rfl sub_nil))))) (by decide) (pick_cons rfl (pick_cons rfl pick_nil)) (hN7 (q9011, q5))
          intro hN4
          refine ax_node (f' := 5) #[true, true, true, false, false, true, false, false, true, false] (fun (v17 : Addr × Addr) => (⟨37, [], [(4, (Vl (.pointer (some v17.1)))), (5, (Vl (.pointer (some v17.2)))), (25, (Ag [(Vl (.bool r25.1)), (Sl (Ki .u32) r25.2.1), (Vl (.int .i64 r25.2.2))])), (26, (Vl (.float .f64 r11))), (29, (Ag [(Vl (.bool r23.1)), (Sl (Ki .u32) r23.2.1), (Vl (.int .i64 r23.2.2))]))], [⟨.pointer (some v17.1), [(Vl (.bool r23.1)), (Sl (Ki .u32) r23.2.1), (Vl (.int .i64 r23.2.2))], 45, none⟩, ⟨.pointer (some v17.2), [(Vl (.bool false)), (Vl (.slice none 0 0)), (Vl (.int .i64 0))], 45, none⟩]⟩ : St)) ?_ ?_
          · rintro ⟨q9012, q9013⟩
            refine ax_all (i := 3) (is := []) (by kernel_rfl) (all_cons ?_ all_nil)
            · refine nx_ox (last := #[true, true, true, true, false, true, false, false, true, false]) rfl (ox_calln' (ent_fn' Try.func18 isn18 rfl rfl) (spec_DyadicOf_sim _ hr27 : Go.Sx.Fn Try.prog 18 [(Vl (.float .f64 r11))] [] (fun x : Unit => (Ag [(Vl (.bool r27.1)), (Sl (Ki .u32) r27.2.1), (Vl (.int .i64 r27.2.2))])) (fun x => [])) (Hn := fun x : Unit => [⟨.pointer (some q9012), [(Vl (.bool r23.1)), (Sl (Ki .u32) r23.2.1), (Vl (.int .i64 r23.2.2))], 45, none⟩, ⟨.pointer (some q9013), [(Vl (.bool false)), (Vl (.slice none 0 0)), (Vl (.int .i64 0))], 45, none⟩]) (fun _ => rfl) rfl rfl) rfl bs_nil (wt_none' rfl) rfl fun ⟨⟩ => ?_
              exact tx_pick' [0, 1] (sub_cons rfl (sub_cons rfl (sub_cons rfl (sub_cons rfl (sub_cons rfl sub_nil))))) (by decide) (pick_cons rfl (pick_cons rfl pick_nil)) (hN7 (q9012, q9013))
          intro hN5
          refine ax_node (f' := 6) #[true, true, true, false, false, true, false, false, false, false] (fun (v14 : Addr) => (⟨37, [], [(4, (Vl (.pointer (some v14)))), (25, (Ag [(Vl (.bool r25.1)), (Sl (Ki .u32) r25.2.1), (Vl (.int .i64 r25.2.2))])), (26, (Vl (.float .f64 r11))), (29, (Ag [(Vl (.bool r23.1)), (Sl (Ki .u32) r23.2.1), (Vl (.int .i64 r23.2.2))]))], [⟨.pointer (some v14), [(Vl (.bool r23.1)), (Sl (Ki .u32) r23.2.1), (Vl (.int .i64 r23.2.2))], 45, none⟩]⟩ : St)) ?_ ?_
          · rintro q908
            refine ax_all (i := 3) (is := [8]) (by kernel_rfl) (all_cons ?_ (all_cons ?_ all_nil))
            · refine nx_ox (last := #[true, true, true, true, false, true, false, false, false, false]) rfl (ox_calln' (ent_fn' Try.func18 isn18 rfl rfl) (spec_DyadicOf_sim _ hr27 : Go.Sx.Fn Try.prog 18 [(Vl (.float .f64 r11))] [] (fun x : Unit => (Ag [(Vl (.bool r27.1)), (Sl (Ki .u32) r27.2.1), (Vl (.int .i64 r27.2.2))])) (fun x => [])) (Hn := fun x : Unit => [⟨.pointer (some q908), [(Vl (.bool r23.1)), (Sl (Ki .u32) r23.2.1), (Vl (.int .i64 r23.2.2))], 45, none⟩]) (fun _ => rfl) rfl rfl) rfl bs_nil (wt_none' rfl) rfl fun ⟨⟩ => ?_
              exact tx_pick' [0] (sub_cons rfl (sub_cons rfl (sub_cons rfl (sub_cons rfl sub_nil)))) (by decide) (pick_cons rfl pick_nil) (hN4 q908)
            · refine nx_ox (last := #[true, true, true, false, false, true, false, false, true, false]) rfl (ox_alloc' info45 rfl rfl rfl rfl (l := [(Vl (.bool false)), (Vl (.slice none 0 0)), (Vl (.int .i64 0))]) rfl) rfl bs_nil (wt_none' rfl) rfl fun q5 => ?_
              exact tx_pick' [1, 0] (sub_cons rfl (sub_cons rfl (sub_cons rfl (sub_cons rfl (sub_cons rfl sub_nil))))) (by decide) (pick_cons rfl (pick_cons rfl pick_nil)) (hN5 (q908, q5))
          intro hN2
          refine ax_node (f' := 6) #[true, false, true, false, false, true, false, false, true, false] (fun (v15 : Addr × Addr) => (⟨37, [], [(4, (Vl (.pointer (some v15.1)))), (5, (Vl (.pointer (some v15.2)))), (24, (Vl (.float .f64 r11))), (26, (Vl (.float .f64 r11))), (29, (Ag [(Vl (.bool r23.1)), (Sl (Ki .u32) r23.2.1), (Vl (.int .i64 r23.2.2))]))], [⟨.pointer (some v15.1), [(Vl (.bool r23.1)), (Sl (Ki .u32) r23.2.1), (Vl (.int .i64 r23.2.2))], 45, none⟩, ⟨.pointer (some v15.2), [(Vl (.bool false)), (Vl (.slice none 0 0)), (Vl (.int .i64 0))], 45, none⟩]⟩ : St)) ?_ ?_
          · rintro ⟨q909, q9010⟩
            refine ax_all (i := 1) (is := []) (by kernel_rfl) (all_cons ?_ all_nil)
            · refine nx_ox (last := #[true, true, true, false, false, true, false, false, true, false]) rfl (ox_calln' (ent_fn' Try.func18 isn18 rfl rfl) (spec_DyadicOf_sim _ hr25 : Go.Sx.Fn Try.prog 18 [(Vl (.float .f64 r11))] [] (fun x : Unit => (Ag [(Vl (.bool r25.1)), (Sl (Ki .u32) r25.2.1), (Vl (.int .i64 r25.2.2))])) (fun x => [])) (Hn := fun x : Unit => [⟨.pointer (some q909), [(Vl (.bool r23.1)), (Sl (Ki .u32) r23.2.1), (Vl (.int .i64 r23.2.2))], 45, none⟩, ⟨.pointer (some q9010), [(Vl (.bool false)), (Vl (.slice none 0 0)), (Vl (.int .i64 0))], 45, none⟩]) (fun _ => rfl) rfl rfl) rfl bs_nil (wt_none' rfl) rfl fun ⟨⟩ => ?_
              exact tx_pick' [0, 1] (sub_cons rfl (sub_cons rfl (sub_cons rfl (sub_cons rfl (sub_cons rfl sub_nil))))) (by decide) (pick_cons rfl (pick_cons rfl pick_nil)) (hN5 (q909, q9010))
          intro hN3
          refine ax_all (i := 1) (is := [8]) (by kernel_rfl) (all_cons ?_ (all_cons ?_ all_nil))
          · refine nx_ox (last := #[true, true, true, false, false, true, false, false, false, false]) rfl (ox_calln' (ent_fn' Try.func18 isn18 rfl rfl) (spec_DyadicOf_sim _ hr25 : Go.Sx.Fn Try.prog 18 [(Vl (.float .f64 r11))] [] (fun x : Unit => (Ag [(Vl (.bool r25.1)), (Sl (Ki .u32) r25.2.1), (Vl (.int .i64 r25.2.2))])) (fun x => [])) (Hn := fun x : Unit => [⟨.pointer (some q907), [(Vl (.bool r23.1)), (Sl (Ki .u32) r23.2.1), (Vl (.int .i64 r23.2.2))], 45, none⟩]) (fun _ => rfl) rfl rfl) rfl bs_nil (wt_none' rfl) rfl fun ⟨⟩ => ?_
            exact tx_pick' [0] (sub_cons rfl (sub_cons rfl (sub_cons rfl (sub_cons rfl sub_nil)))) (by decide) (pick_cons rfl pick_nil) (hN2 q907)
          · refine nx_ox (last := #[true, false, true, false, false, true, false, false, true, false]) rfl (ox_alloc' info45 rfl rfl rfl rfl (l := [(Vl (.bool false)), (Vl (.slice none 0 0)), (Vl (.int .i64 0))]) rfl) rfl bs_nil (wt_none' rfl) rfl fun q5 => ?_
            exact tx_pick' [1, 0] (sub_cons rfl (sub_cons rfl (sub_cons rfl (sub_cons rfl (sub_cons rfl sub_nil))))) (by decide) (pick_cons rfl (pick_cons rfl pick_nil)) (hN3 (q907, q5))
        intro hN26
        refine ax_node (f' := 1) #[true, true, true, true, true, true, false] (fun (v12 : Addr) => (⟨37, [], [(3, (Vl (.float .f64 r11))), (4, (Vl (.pointer (some v12)))), (23, (Ag [(Vl (.bool r23.1)), (Sl (Ki .u32) r23.2.1), (Vl (.int .i64 r23.2.2))]))], [⟨.pointer (some v12), [(Vl (.bool false)), (Vl (.slice none 0 0)), (Vl (.int .i64 0))], 45, none⟩]⟩ : St)) ?_ ?_
        · rintro q906
          refine ax_all (i := 6) (is := []) (by kernel_rfl) (all_cons ?_ all_nil)
          · refine nx_oxv (last := #[true, true, true, true, true, true, true]) rfl (oxv_store (i := 0) (o := 0) rfl rfl (lv_ag _) ⟨rfl, rfl, rfl, rfl⟩ rfl info45 rfl (H' := [⟨.pointer (some q906), [(Vl (.bool r23.1)), (Sl (Ki .u32) r23.2.1), (Vl (.int .i64 r23.2.2))], 45, none⟩]) rfl) rfl rfl bo_nil (wt_none' rfl) rfl fun _ => ?_
            exact tx_pick' [0] (sub_cons rfl (sub_cons rfl sub_nil)) (by decide) (pick_cons rfl pick_nil) (hN26 q906)
        intro hN25
        refine ax_node (f' := 2) #[true, true, true, true, true, false, false] (fun (v10 : Unit) => (⟨37, [], [(3, (Vl (.float .f64 r11))), (23, (Ag [(Vl (.bool r23.1)), (Sl (Ki .u32) r23.2.1), (Vl (.int .i64 r23.2.2))]))], []⟩ : St)) ?_ ?_
        · rintro ⟨⟩
          refine ax_all (i := 5) (is := []) (by kernel_rfl) (all_cons ?_ all_nil)
          · refine nx_ox (last := #[true, true, true, true, true, true, false]) rfl (ox_alloc' info45 rfl rfl rfl rfl (l := [(Vl (.bool false)), (Vl (.slice none 0 0)), (Vl (.int .i64 0))]) rfl) rfl bs_nil (wt_none' rfl) rfl fun q4 => ?_
            exact tx_pick' [0] (sub_cons rfl (sub_cons rfl (sub_cons rfl sub_nil))) (by decide) (pick_cons rfl pick_nil) (hN25 q4)
        intro hN23
        refine ax_node (f' := 2) #[true, true, true, true, false, true, false] (fun (v11 : Addr) => (⟨37, [], [(3, (Vl (.float .f64 r11))), (4, (Vl (.pointer (some v11)))), (22, (Vl (.float .f64 r22)))], [⟨.pointer (some v11), [(Vl (.bool false)), (Vl (.slice none 0 0)), (Vl (.int .i64 0))], 45, none⟩]⟩ : St)) ?_ ?_
        · rintro q905
          refine ax_all (i := 4) (is := []) (by kernel_rfl) (all_cons ?_ all_nil)
          · refine nx_ox (last := #[true, true, true, true, true, true, false]) rfl (ox_calln' (ent_fn' Try.func18 isn18 rfl rfl) (spec_DyadicOf_sim _ hr23 : Go.Sx.Fn Try.prog 18 [(Vl (.float .f64 r22))] [] (fun x : Unit => (Ag [(Vl (.bool r23.1)), (Sl (Ki .u32) r23.2.1), (Vl (.int .i64 r23.2.2))])) (fun x => [])) (Hn := fun x : Unit => [⟨.pointer (some q905), [(Vl (.bool false)), (Vl (.slice none 0 0)), (Vl (.int .i64 0))], 45, none⟩]) (fun _ => rfl) rfl rfl) rfl bs_nil (wt_none' rfl) rfl fun ⟨⟩ => ?_
            exact tx_pick' [0] (sub_cons rfl (sub_cons rfl (sub_cons rfl sub_nil))) (by decide) (pick_cons rfl pick_nil) (hN25 q905)
        intro hN24
        refine ax_node (f' := 3) #[true, true, true, true, false, false, false] (fun (v8 : Unit) => (⟨37, [], [(3, (Vl (.float .f64 r11))), (22, (Vl (.float .f64 r22)))], []⟩ : St)) ?_ ?_
        · rintro ⟨⟩
          refine ax_all (i := 4) (is := [5]) (by kernel_rfl) (all_cons ?_ (all_cons ?_ all_nil))
          · refine nx_ox (last := #[true, true, true, true, true, false, false]) rfl (ox_calln' (ent_fn' Try.func18 isn18 rfl rfl) (spec_DyadicOf_sim _ hr23 : Go.Sx.Fn Try.prog 18 [(Vl (.float .f64 r22))] [] (fun x : Unit => (Ag [(Vl (.bool r23.1)), (Sl (Ki .u32) r23.2.1), (Vl (.int .i64 r23.2.2))])) (fun x => [])) (Hn := fun x : Unit => []) (fun _ => rfl) rfl rfl) rfl bs_nil (wt_none' rfl) rfl fun ⟨⟩ => ?_
            exact tx_pick' [] (sub_cons rfl (sub_cons rfl sub_nil)) (by decide) pick_nil (hN23 ())
          · refine nx_ox (last := #[true, true, true, true, false, true, false]) rfl (ox_alloc' info45 rfl rfl rfl rfl (l := [(Vl (.bool false)), (Vl (.slice none 0 0)), (Vl (.int .i64 0))]) rfl) rfl bs_nil (wt_none' rfl) rfl fun q4 => ?_
            exact tx_pick' [0] (sub_cons rfl (sub_cons rfl (sub_cons rfl sub_nil))) (by decide) (pick_cons rfl pick_nil) (hN24 q4)
        intro hN21
        refine ax_node (f' := 3) #[true, true, true, false, false, true, false] (fun (v9 : Addr × Gs) => (⟨37, [], [(3, (Vl (.float .f64 r11))), (4, (Vl (.pointer (some v9.1)))), (20, (Sl Kf r20)), (21, (Vl (Vs v9.2)))], [⟨.pointer (some v9.1), [(Vl (.bool false)), (Vl (.slice none 0 0)), (Vl (.int .i64 0))], 45, none⟩, (Rw Kf 22 (Vs v9.2) r21)]⟩ : St)) ?_ ?_
        · rintro ⟨q904, g904⟩
          refine ax_all (i := 3) (is := []) (by kernel_rfl) (all_cons ?_ all_nil)
          · refine nx_ox (last := #[true, true, true, true, false, true, false]) rfl (ox_brw' (frz_row 1 [(21, (Vl (Vs g904)), (Sl Kf r21))] (K := Kf) (xs := r21) (by decide) rfl ⟨⟨rfl, frz_it⟩, trivial⟩ (H' := [⟨.pointer (some q904), [(Vl (.bool false)), (Vl (.slice none 0 0)), (Vl (.int .i64 0))], 45, none⟩]) frzH_refl) (ent_fn' Try.func12 isn12 rfl rfl) (spec_SquareN_sim _ _ hr22 : Go.Sx.Fn Try.prog 12 [(Sl Kf r20), (Sl Kf r21)] [] (fun x : Unit => (Vl (.float .f64 r22))) (fun x => [])) pu_vl rfl rfl) rfl bs_nil (wt_none' rfl) rfl fun ⟨⟩ => ?_
            exact tx_pick' [0] (sub_cons rfl (sub_cons rfl (sub_cons rfl sub_nil))) (by decide) (pick_cons rfl pick_nil) (hN24 q904)
        intro hN22
        refine ax_node (f' := 4) #[true, true, true, false, false, false, false] (fun (v5 : Gs) => (⟨37, [], [(3, (Vl (.float .f64 r11))), (20, (Sl Kf r20)), (21, (Vl (Vs v5)))], [(Rw Kf 22 (Vs v5) r21)]⟩ : St)) ?_ ?_
        · rintro g902
          refine ax_all (i := 3) (is := [5]) (by kernel_rfl) (all_cons ?_ (all_cons ?_ all_nil))
          · refine nx_ox (last := #[true, true, true, true, false, false, false]) rfl (ox_brw' (frz_row 0 [(21, (Vl (Vs g902)), (Sl Kf r21))] (K := Kf) (xs := r21) (by decide) rfl ⟨⟨rfl, frz_it⟩, trivial⟩ (H' := []) frzH_refl) (ent_fn' Try.func12 isn12 rfl rfl) (spec_SquareN_sim _ _ hr22 : Go.Sx.Fn Try.prog 12 [(Sl Kf r20), (Sl Kf r21)] [] (fun x : Unit => (Vl (.float .f64 r22))) (fun x => [])) pu_vl rfl rfl) rfl bs_nil (wt_none' rfl) rfl fun ⟨⟩ => ?_
            exact tx_pick' [] (sub_cons rfl (sub_cons rfl sub_nil)) (by decide) pick_nil (hN21 ())
          · refine nx_ox (last := #[true, true, true, false, false, true, false]) rfl (ox_alloc' info45 rfl rfl rfl rfl (l := [(Vl (.bool false)), (Vl (.slice none 0 0)), (Vl (.int .i64 0))]) rfl) rfl bs_nil (wt_none' rfl) rfl fun q4 => ?_
            exact tx_pick' [0, 1] (sub_cons rfl (sub_cons rfl (sub_cons rfl (sub_cons rfl sub_nil)))) (by decide) (pick_cons rfl (pick_cons rfl pick_nil)) (hN22 (q4, g902))
        intro hN18
        refine ax_node (f' := 4) #[true, true, false, false, false, true, false] (fun (v6 : Addr) => (⟨37, [], [(3, (Vl (.float .f64 r11))), (4, (Vl (.pointer (some v6)))), (20, (Sl Kf r20))], [⟨.pointer (some v6), [(Vl (.bool false)), (Vl (.slice none 0 0)), (Vl (.int .i64 0))], 45, none⟩]⟩ : St)) ?_ ?_
        · rintro q902
          refine ax_all (i := 2) (is := []) (by kernel_rfl) (all_cons ?_ all_nil)
          · refine nx_ox (last := #[true, true, true, false, false, true, false]) rfl (ox_make' (K := Kf) rfl rfl hr21 rfl Try.underlying29 info22 rfl rfl rfl rfl rfl) rfl bs_nil (wt_none' rfl) rfl fun g21 => ?_
            exact tx_pick' [1, 0] (sub_cons rfl (sub_cons rfl (sub_cons rfl (sub_cons rfl sub_nil)))) (by decide) (pick_cons rfl (pick_cons rfl pick_nil)) (hN22 (q902, g21))
        intro hN19
        refine ax_node (f' := 4) #[true, false, true, false, false, true, false] (fun (v7 : Addr × Gs) => (⟨37, [], [(3, (Vl (.float .f64 r11))), (4, (Vl (.pointer (some v7.1)))), (19, (Ag [(Vl (.float .f64 a0_0)), (Vl (.float .f64 a0_1)), (Vl (.float .f64 a0_2))])), (21, (Vl (Vs v7.2)))], [⟨.pointer (some v7.1), [(Vl (.bool false)), (Vl (.slice none 0 0)), (Vl (.int .i64 0))], 45, none⟩, (Rw Kf 22 (Vs v7.2) r21)]⟩ : St)) ?_ ?_
        · rintro ⟨q903, g903⟩
          refine ax_all (i := 1) (is := []) (by kernel_rfl) (all_cons ?_ all_nil)
          · refine nx_ox (last := #[true, true, true, false, false, true, false]) rfl (ox_calln' (ent_fn' Try.func26 isn26 rfl rfl) (laws_off3_sim _ _ _ hr20 : Go.Sx.Fn Try.prog 26 [(Ag [(Vl (.float .f64 a0_0)), (Vl (.float .f64 a0_1)), (Vl (.float .f64 a0_2))])] [] (fun x : Unit => (Sl Kf r20)) (fun x => [])) (Hn := fun x : Unit => [⟨.pointer (some q903), [(Vl (.bool false)), (Vl (.slice none 0 0)), (Vl (.int .i64 0))], 45, none⟩, (Rw Kf 22 (Vs g903) r21)]) (fun _ => rfl) rfl rfl) rfl bs_nil (wt_none' rfl) rfl fun ⟨⟩ => ?_
            exact tx_pick' [0, 1] (sub_cons rfl (sub_cons rfl (sub_cons rfl (sub_cons rfl sub_nil)))) (by decide) (pick_cons rfl (pick_cons rfl pick_nil)) (hN22 (q903, g903))
        intro hN20
        refine ax_node (f' := 5) #[true, true, false, false, false, false, false] (fun (v2 : Unit) => (⟨37, [], [(3, (Vl (.float .f64 r11))), (20, (Sl Kf r20))], []⟩ : St)) ?_ ?_
        · rintro ⟨⟩
          refine ax_all (i := 2) (is := [5]) (by kernel_rfl) (all_cons ?_ (all_cons ?_ all_nil))
          · refine nx_ox (last := #[true, true, true, false, false, false, false]) rfl (ox_make' (K := Kf) rfl rfl hr21 rfl Try.underlying29 info22 rfl rfl rfl rfl rfl) rfl bs_nil (wt_none' rfl) rfl fun g21 => ?_
            exact tx_pick' [0] (sub_cons rfl (sub_cons rfl (sub_cons rfl sub_nil))) (by decide) (pick_cons rfl pick_nil) (hN18 g21)
          · refine nx_ox (last := #[true, true, false, false, false, true, false]) rfl (ox_alloc' info45 rfl rfl rfl rfl (l := [(Vl (.bool false)), (Vl (.slice none 0 0)), (Vl (.int .i64 0))]) rfl) rfl bs_nil (wt_none' rfl) rfl fun q4 => ?_
            exact tx_pick' [0] (sub_cons rfl (sub_cons rfl (sub_cons rfl sub_nil))) (by decide) (pick_cons rfl pick_nil) (hN19 q4)
        intro hN15
        refine ax_node (f' := 5) #[true, false, true, false, false, false, false] (fun (v3 : Gs) => (⟨37, [], [(3, (Vl (.float .f64 r11))), (19, (Ag [(Vl (.float .f64 a0_0)), (Vl (.float .f64 a0_1)), (Vl (.float .f64 a0_2))])), (21, (Vl (Vs v3)))], [(Rw Kf 22 (Vs v3) r21)]⟩ : St)) ?_ ?_
        · rintro g901
          refine ax_all (i := 1) (is := [5]) (by kernel_rfl) (all_cons ?_ (all_cons ?_ all_nil))
          · refine nx_ox (last := #[true, true, true, false, false, false, false]) rfl (ox_calln' (ent_fn' Try.func26 isn26 rfl rfl) (laws_off3_sim _ _ _ hr20 : Go.Sx.Fn Try.prog 26 [(Ag [(Vl (.float .f64 a0_0)), (Vl (.float .f64 a0_1)), (Vl (.float .f64 a0_2))])] [] (fun x : Unit => (Sl Kf r20)) (fun x => [])) (Hn := fun x : Unit => [(Rw Kf 22 (Vs g901) r21)]) (fun _ => rfl) rfl rfl) rfl bs_nil (wt_none' rfl) rfl fun ⟨⟩ => ?_
            exact tx_pick' [0] (sub_cons rfl (sub_cons rfl (sub_cons rfl sub_nil))) (by decide) (pick_cons rfl pick_nil) (hN18 g901)
          · refine nx_ox (last := #[true, false, true, false, false, true, false]) rfl (ox_alloc' info45 rfl rfl rfl rfl (l := [(Vl (.bool false)), (Vl (.slice none 0 0)), (Vl (.int .i64 0))]) rfl) rfl bs_nil (wt_none' rfl) rfl fun q4 => ?_
            exact tx_pick' [0, 1] (sub_cons rfl (sub_cons rfl (sub_cons rfl (sub_cons rfl sub_nil)))) (by decide) (pick_cons rfl (pick_cons rfl pick_nil)) (hN20 (q4, g901))
        intro hN16
        refine ax_node (f' := 5) #[true, false, false, false, false, true, false] (fun (v4 : Addr) => (⟨37, [], [(3, (Vl (.float .f64 r11))), (4, (Vl (.pointer (some v4)))), (19, (Ag [(Vl (.float .f64 a0_0)), (Vl (.float .f64 a0_1)), (Vl (.float .f64 a0_2))]))], [⟨.pointer (some v4), [(Vl (.bool false)), (Vl (.slice none 0 0)), (Vl (.int .i64 0))], 45, none⟩]⟩ : St)) ?_ ?_
        · rintro q901
          refine ax_all (i := 1) (is := [2]) (by kernel_rfl) (all_cons ?_ (all_cons ?_ all_nil))
          · refine nx_ox (last := #[true, true, false, false, false, true, false]) rfl (ox_calln' (ent_fn' Try.func26 isn26 rfl rfl) (laws_off3_sim _ _ _ hr20 : Go.Sx.Fn Try.prog 26 [(Ag [(Vl (.float .f64 a0_0)), (Vl (.float .f64 a0_1)), (Vl (.float .f64 a0_2))])] [] (fun x : Unit => (Sl Kf r20)) (fun x => [])) (Hn := fun x : Unit => [⟨.pointer (some q901), [(Vl (.bool false)), (Vl (.slice none 0 0)), (Vl (.int .i64 0))], 45, none⟩]) (fun _ => rfl) rfl rfl) rfl bs_nil (wt_none' rfl) rfl fun ⟨⟩ => ?_
            exact tx_pick' [0] (sub_cons rfl (sub_cons rfl (sub_cons rfl sub_nil))) (by decide) (pick_cons rfl pick_nil) (hN19 q901)
          · refine nx_ox (last := #[true, false, true, false, false, true, false]) rfl (ox_make' (K := Kf) rfl rfl hr21 rfl Try.underlying29 info22 rfl rfl rfl rfl rfl) rfl bs_nil (wt_none' rfl) rfl fun g21 => ?_
            exact tx_pick' [1, 0] (sub_cons rfl (sub_cons rfl (sub_cons rfl (sub_cons rfl sub_nil)))) (by decide) (pick_cons rfl (pick_cons rfl pick_nil)) (hN20 (q901, g21))
        intro hN17
        refine ax_all (i := 1) (is := [2, 5]) (by kernel_rfl) (all_cons ?_ (all_cons ?_ (all_cons ?_ all_nil)))
        · refine nx_ox (last := #[true, true, false, false, false, false, false]) rfl (ox_calln' (ent_fn' Try.func26 isn26 rfl rfl) (laws_off3_sim _ _ _ hr20 : Go.Sx.Fn Try.prog 26 [(Ag [(Vl (.float .f64 a0_0)), (Vl (.float .f64 a0_1)), (Vl (.float .f64 a0_2))])] [] (fun x : Unit => (Sl Kf r20)) (fun x => [])) (Hn := fun x : Unit => [⟨.pointer (some q1), [(Vl (.float .f64 a0_0)), (Vl (.float .f64 a0_1)), (Vl (.float .f64 a0_2))], 53, none⟩]) (fun _ => rfl) rfl rfl) rfl bs_nil (wt_none' rfl) rfl fun ⟨⟩ => ?_
          exact tx_pick' [] (sub_cons rfl (sub_cons rfl sub_nil)) (by decide) pick_nil (hN15 ())
        · refine nx_ox (last := #[true, false, true, false, false, false, false]) rfl (ox_make' (K := Kf) rfl rfl hr21 rfl Try.underlying29 info22 rfl rfl rfl rfl rfl) rfl bs_nil (wt_none' rfl) rfl fun g21 => ?_
          exact tx_pick' [0] (sub_cons rfl (sub_cons rfl (sub_cons rfl sub_nil))) (by decide) (pick_cons rfl pick_nil) (hN16 g21)
        · refine nx_ox (last := #[true, false, false, false, false, true, false]) rfl (ox_alloc' info45 rfl rfl rfl rfl (l := [(Vl (.bool false)), (Vl (.slice none 0 0)), (Vl (.int .i64 0))]) rfl) rfl bs_nil (wt_none' rfl) rfl fun q4 => ?_
          exact tx_pick' [0] (sub_cons rfl (sub_cons rfl (sub_cons rfl sub_nil))) (by decide) (pick_cons rfl pick_nil) (hN17 q4)
    · intro K8 hK8
      rcases br_cases hp with ⟨h2, hp⟩ | ⟨h2, hp⟩
      · refine sx_skip' rfl rfl (wt_is' (wt_guard' rfl rfl rfl) (beq_tf h2)) ?_
        refine sx_skip' rfl rfl (wt_is' (wt_guard' rfl rfl rfl) (beq_tf h2)) ?_
        refine sx_rd' (rd_pick_true' rfl h2 rfl) rfl rfl (wt_none' rfl) ?_
        refine sx_nil' ?_
        show TX E K8 _
        exact tx_pick' [1] (sub_cons rfl (sub_cons rfl (sub_cons rfl sub_nil))) (by decide) (pick_cons rfl pick_nil) (hK8 true hp)
      · refine sx_rd' (rd_move' rfl) rfl rfl (wt_is' (wt_guard' rfl rfl rfl) (beq_ff h2)) ?_
        refine sx_rd' (rd_bin' rfl rfl eg_flt ru_flt) rfl rfl (wt_is' (wt_guard' rfl rfl rfl) (beq_ff h2)) ?_
        refine sx_rd' (rd_pick_false' rfl h2 rfl) rfl rfl (wt_none' rfl) ?_
        refine sx_nil' ?_
        show TX E K8 _
        exact tx_pick' [1] (sub_cons rfl (sub_cons rfl (sub_cons rfl sub_nil))) (by decide) (pick_cons rfl pick_nil) (hK8 (flt r11 0) hp)

end Go.Proofs.Ytehfdhhaglbnbaa
