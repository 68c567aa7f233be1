/-
  Plain functions for the Go functions that this law reaches, and that each call does what its plain function says. Printed by a program of ours.
-/
import Derived.Test.YtnhbmhdjkibjaaaProg
import Derived.Test.YtnhbmhdjkibjaaaSxZ
namespace Go.Proofs.Ytnhbmhdjkibjaaa
open Go.Sx
set_option linter.unusedVariables false
set_option maxRecDepth 100000

theorem info35 : (Try.prog.info? 35).map (fun i => (i.zero, i.size, i.bytes)) = some (some (.agg #[.float .f64 0, .float .f64 0, .float .f64 0]), 3, 24) := by kernel_rfl
theorem agg35 : Agg Try.prog 35 3 := ⟨⟨_, Try.underlying35, .inl ⟨_, rfl⟩⟩, info_size info35⟩
theorem isn12 : (Try.f12.name == "runtime.NumGoroutine") = false := by kernel_rfl
theorem info22 : (Try.prog.info? 22).map (fun i => (i.zero, i.size, i.bytes)) = some (some (.float .f64 0), 1, 8) := by kernel_rfl
theorem flat22 : Flat Try.prog 22 := ⟨_, Try.underlying22, fun _ h => (nomatch h), fun _ _ h => (nomatch h)⟩
theorem isn6 : (Try.f6.name == "runtime.NumGoroutine") = false := by kernel_rfl
theorem info25 : (Try.prog.info? 25).map (fun i => (i.zero, i.size, i.bytes)) = some (some (.slice none 0 0), 1, 24) := by kernel_rfl
theorem flat25 : Flat Try.prog 25 := ⟨_, Try.underlying25, fun _ h => (nomatch h), fun _ _ h => (nomatch h)⟩
theorem isn16 : (Try.f16.name == "runtime.NumGoroutine") = false := by kernel_rfl
theorem extf27 : ∀ {x r : Nat}, gint .zero x = r → ∀ y, (y = x ∨ (isn x = true ∧ isn y = true)) → RunsF Try.prog (callFunc 27 #[.float .f64 y]) (Fl r) := fun hz y hy => hz ▸ runs_ext (e := Extern.MathFloor.toIntegral "math.archTrunc" .zero) Try.func27 (by kernel_rfl) (by kernel_rfl) (by kernel_rfl) (by kernel_rfl) (gint_runs hy)
theorem isn13 : (Try.f13.name == "runtime.NumGoroutine") = false := by kernel_rfl
theorem mixed : Try.prog.follows .mixedOrders = true := by kernel_rfl
theorem places35 : placesOf Try.prog [{ name := "X", type := 22, offset := 0, embedded := false, tag := "", pkgPath := "", byteOffset := 0 }, { name := "Y", type := 22, offset := 1, embedded := false, tag := "", pkgPath := "", byteOffset := 8 }, { name := "Z", type := 22, offset := 2, embedded := false, tag := "", pkgPath := "", byteOffset := 16 }] = [(0, 1), (1, 1), (2, 1)] := by kernel_rfl
theorem has35 : ∀ f ∈ ([{ name := "X", type := 22, offset := 0, embedded := false, tag := "", pkgPath := "", byteOffset := 0 }, { name := "Y", type := 22, offset := 1, embedded := false, tag := "", pkgPath := "", byteOffset := 8 }, { name := "Z", type := 22, offset := 2, embedded := false, tag := "", pkgPath := "", byteOffset := 16 }] : List Field), (Try.prog.info? f.type).isSome = true := fun f hf => all_of (p := fun f => (Try.prog.info? f.type).isSome) (by kernel_rfl) f hf
theorem isn8 : (Try.f8.name == "runtime.NumGoroutine") = false := by kernel_rfl
theorem isn14 : (Try.f14.name == "runtime.NumGoroutine") = false := by kernel_rfl
theorem isn23 : (Try.f23.name == "runtime.NumGoroutine") = false := by kernel_rfl
theorem places50 : placesOf Try.prog [{ name := "X", type := 22, offset := 0, embedded := false, tag := "", pkgPath := "", byteOffset := 0 }, { name := "Y", type := 22, offset := 1, embedded := false, tag := "", pkgPath := "", byteOffset := 8 }, { name := "Z", type := 22, offset := 2, embedded := false, tag := "", pkgPath := "", byteOffset := 16 }] = [(0, 1), (1, 1), (2, 1)] := by kernel_rfl
theorem has50 : ∀ f ∈ ([{ name := "X", type := 22, offset := 0, embedded := false, tag := "", pkgPath := "", byteOffset := 0 }, { name := "Y", type := 22, offset := 1, embedded := false, tag := "", pkgPath := "", byteOffset := 8 }, { name := "Z", type := 22, offset := 2, embedded := false, tag := "", pkgPath := "", byteOffset := 16 }] : List Field), (Try.prog.info? f.type).isSome = true := fun f hf => all_of (p := fun f => (Try.prog.info? f.type).isSome) (by kernel_rfl) f hf
theorem info50 : (Try.prog.info? 50).map (fun i => (i.zero, i.size, i.bytes)) = some (some (.agg #[.float .f64 0, .float .f64 0, .float .f64 0]), 3, 24) := by kernel_rfl
theorem agg50 : Agg Try.prog 50 3 := ⟨⟨_, Try.underlying50, .inl ⟨_, rfl⟩⟩, info_size info50⟩
theorem info53 : (Try.prog.info? 53).map (fun i => (i.zero, i.size, i.bytes)) = some (some (.agg #[.float .f64 0, .float .f64 0, .float .f64 0, .float .f64 0, .float .f64 0, .float .f64 0, .float .f64 0, .float .f64 0, .float .f64 0]), 9, 72) := by kernel_rfl
theorem isn24 : (Try.f24.name == "runtime.NumGoroutine") = false := by kernel_rfl
theorem agg53 : Agg Try.prog 53 9 := ⟨⟨_, Try.underlying53, .inr ⟨_, _, rfl⟩⟩, info_size info53⟩
theorem isn33 : (Try.f33.name == "runtime.NumGoroutine") = false := by kernel_rfl
theorem isn40 : (Try.f40.name == "runtime.NumGoroutine") = false := by kernel_rfl
theorem isn44 : (Try.f44.name == "runtime.NumGoroutine") = false := by kernel_rfl
theorem isn41 : (Try.f41.name == "runtime.NumGoroutine") = false := by kernel_rfl
theorem isn43 : (Try.f43.name == "runtime.NumGoroutine") = false := by kernel_rfl
theorem ext45 : ∀ {args : Array Value} {v : Value}, Runs Try.prog ((Extern.MathHypot.archHypot) args) v → Runs Try.prog (callFunc 45 args) (.value v) := fun hr => ru_ext Try.func45 (by kernel_rfl) (by kernel_rfl) (by kernel_rfl) (by kernel_rfl) hr
theorem isn30 : (Try.f30.name == "runtime.NumGoroutine") = false := by kernel_rfl
theorem extf39 : ∀ {x r : Nat}, gsqrt x = r → ∀ y, (y = x ∨ (isn x = true ∧ isn y = true)) → RunsF Try.prog (callFunc 39 #[.float .f64 y]) (Fl r) := fun hz y hy => hz ▸ runs_ext (e := Extern.MathSqrt.sqrt) Try.func39 (by kernel_rfl) (by kernel_rfl) (by kernel_rfl) (by kernel_rfl) (gsqrt_runs hy)
theorem isn15 : (Try.f15.name == "runtime.NumGoroutine") = false := by kernel_rfl
theorem isn26 : (Try.f26.name == "runtime.NumGoroutine") = false := by kernel_rfl
theorem isn35 : (Try.f35.name == "runtime.NumGoroutine") = false := by kernel_rfl
theorem isn34 : (Try.f34.name == "runtime.NumGoroutine") = false := by kernel_rfl
theorem isn25 : (Try.f25.name == "runtime.NumGoroutine") = false := by kernel_rfl
theorem isn11 : (Try.f11.name == "runtime.NumGoroutine") = false := by kernel_rfl
theorem ext22 : ∀ {args : Array Value} {v : Value}, Runs Try.prog ((Extern.MathFloatBits.float64bits) args) v → Runs Try.prog (callFunc 22 args) (.value v) := fun hr => ru_ext Try.func22 (by kernel_rfl) (by kernel_rfl) (by kernel_rfl) (by kernel_rfl) hr
theorem ext21 : ∀ {args : Array Value} {v : Value}, Runs Try.prog ((Extern.MathFloatBits.float64frombits) args) v → Runs Try.prog (callFunc 21 args) (.value v) := fun hr => ru_ext Try.func21 (by kernel_rfl) (by kernel_rfl) (by kernel_rfl) (by kernel_rfl) hr


def laws_off3 (k : Nat) (a0_0 : Nat) (a0_1 : Nat) (a0_2 : Nat) : Option ((List Nat)) :=
  some ([a0_0, a0_1, a0_2])

theorem laws_off3_sim {k : Nat}  (a0_0 : Nat) (a0_1 : Nat) (a0_2 : Nat) {out : (List Nat)} (hp : laws_off3 k a0_0 a0_1 a0_2 = some out) : Go.Sx.Fn Try.prog 12 [(Ag [(Vl (.float .f64 a0_0)), (Vl (.float .f64 a0_1)), (Vl (.float .f64 a0_2))])] [] (fun w : Unit => (Sl Kf out)) (fun w => []) := by
  unfold laws_off3 at hp
  refine fn_of Try.func12 rfl Try.ntmps12 rfl fun E hM => ?_
  refine cx_seq' fun K1 hK1 => ?_
  refine cx_region' ?_
  refine sx_ox' (ox_box' rfl (lv_ag _) rfl rfl) (wt_none' rfl) fun q1 => ?_
  refine sx_rd' (rd_assign' rfl) rfl rfl (wt_none' rfl) ?_
  refine sx_nil' ?_
  show TX E K1 _
  refine tx_k' hK1 ?_
  refine cx_seq' fun K2 hK2 => ?_
  refine cx_region' ?_
  refine sx_rd' (rd_field0' rfl Try.underlying35 rfl info22 rfl) rfl rfl (wt_none' rfl) ?_
  refine sx_rd' (rd_load' (i := 0) (o := 0) rfl ⟨rfl, rfl, rfl, rfl⟩ rfl flat22) rfl rfl (wt_none' rfl) ?_
  refine sx_rd' (rd_field' (off := 1) rfl Try.underlying35 rfl info22 rfl) rfl rfl (wt_none' rfl) ?_
  refine sx_rd' (rd_load' (i := 0) (o := 1) rfl ⟨rfl, rfl, rfl, rfl⟩ rfl flat22) rfl rfl (wt_none' rfl) ?_
  refine sx_rd' (rd_field' (off := 2) rfl Try.underlying35 rfl info22 rfl) rfl rfl (wt_none' rfl) ?_
  refine sx_rd' (rd_load' (i := 0) (o := 2) rfl ⟨rfl, rfl, rfl, rfl⟩ rfl flat22) rfl rfl (wt_none' rfl) ?_
  refine sx_ox' (ox_rowlit' (K := Kf) (xs := [a0_0, a0_1, a0_2]) (qs := [(0, [(Vl (.float .f64 a0_0))]), (1, [(Vl (.float .f64 a0_1))]), (2, [(Vl (.float .f64 a0_2))])]) ⟨rfl, ⟨_, rfl, (lv_vl rfl rfl)⟩, ⟨rfl, ⟨_, rfl, (lv_vl rfl rfl)⟩, ⟨rfl, ⟨_, rfl, (lv_vl rfl rfl)⟩, trivial⟩⟩⟩ Try.underlying25 info22 rfl rfl rfl rfl rfl (by kernel_rfl) rfl rfl rfl) (wt_none' rfl) fun g9 => ?_
  refine sx_rd' (rd_assign' rfl) rfl rfl (wt_none' rfl) ?_
  refine sx_nil' ?_
  show TX E K2 _
  refine tx_k' hK2 ?_
  refine cx_retc' ?_
  replace hp := Option.some.inj hp
  subst hp
  refine tx_fz' (frz_row 0 [(2, (Vl (Vs g9)), (Sl Kf ([a0_0, a0_1, a0_2]))), (9, (Vl (Vs g9)), (Sl Kf ([a0_0, a0_1, a0_2])))] (K := Kf) (xs := [a0_0, a0_1, a0_2]) (by decide) rfl ⟨⟨rfl, frz_it⟩, ⟨rfl, frz_it⟩, trivial⟩ (H' := [⟨.pointer (some q1), [(Vl (.float .f64 a0_0)), (Vl (.float .f64 a0_1)), (Vl (.float .f64 a0_2))], 35, none⟩]) frzH_refl) ?_
  refine tx_pick' (L' := [(2, (Sl Kf ([a0_0, a0_1, a0_2])))]) (H' := []) [] (sub_cons rfl sub_nil) (by decide) pick_nil ?_
  exact tx_ret1' Try.results12 rfl () (rv_tmp' rfl) (List.Sublist.refl _)

def math_Trunc (k : Nat) (a0 : Nat) : Option (Nat) :=
  (some (gint .zero a0)) >>= fun r4 =>
  some r4

theorem math_Trunc_sim {k : Nat}  (a0 : Nat) {out : Nat} (hp : math_Trunc k a0 = some out) : Go.Sx.Fn Try.prog 16 [(Vl (.float .f64 a0))] [] (fun w : Unit => (Fl out)) (fun w => []) := by
  unfold math_Trunc at hp
  refine fn_of Try.func16 rfl Try.ntmps16 rfl fun E hM => ?_
  refine cx_seq' fun K1 hK1 => ?_
  refine cx_region' ?_
  refine sx_rd' (rd_assign' rfl) rfl rfl (wt_none' rfl) ?_
  refine sx_nil' ?_
  show TX E K1 _
  refine tx_k' hK1 ?_
  refine cx_seq' fun K2 hK2 => ?_
  refine cx_cond_t' rfl rfl ?_
  refine cx_seq' fun K3 hK3 => ?_
  refine cx_region' ?_
  refine sx_rd' (rd_move' rfl) rfl rfl (wt_none' rfl) ?_
  obtain ⟨r4, hr4, hp⟩ := bind_some hp
  refine sx_ox' (ox_extf' rfl (fl_v rfl) Try.func27 (extf27 (Option.some.inj hr4)) rfl rfl) (wt_none' rfl) fun _ => ?_
  refine sx_rd' (rd_assign' rfl) rfl rfl (wt_none' rfl) ?_
  refine sx_nil' ?_
  show TX E K3 _
  refine tx_k' hK3 ?_
  refine cx_retc' ?_
  replace hp := Option.some.inj hp
  subst hp
  refine tx_pick' (L' := [(2, (Fl r4))]) (H' := []) [] (sub_cons rfl sub_nil) (by decide) pick_nil ?_
  exact tx_ret1' Try.results16 rfl () (rv_tmp' rfl) (List.Sublist.refl _)

def spec_Grid_j8 (k : Nat) (rec2 : Int → Option (Unit ⊕ Unit)) (x10 : Int) (x9 : Bool) : Option (Unit ⊕ Unit) :=
  br x9
    (some (.inl ()))
    (rec2 (iadd .i64 x10 1))
def spec_Grid_j7 (k : Nat) (rec2 : Int → Option (Unit ⊕ Unit)) (x10 : Int) (r25 : Nat) (x8 : Bool) : Option (Unit ⊕ Unit) :=
  br (!x8)
    (spec_Grid_j8 k rec2 x10 true)
    ((math_Trunc k r25) >>= fun r40 =>
    spec_Grid_j8 k rec2 x10 (fne r25 r40))
def spec_Grid_l2s (r15 : List Nat) (a2 : Nat) (k : Nat) (rec2 : Int → Option (Unit ⊕ Unit)) (x10 : Int) : Option (Unit ⊕ Unit) :=
  br (decide (x10 < (r15.length : Int)))
    ((idx r15 x10) >>= fun r25 =>
    br (fge r25 (fneg a2))
      (spec_Grid_j7 k rec2 x10 r25 (fle r25 a2))
      (spec_Grid_j7 k rec2 x10 r25 false))
    (some (.inr ()))
def spec_Grid_l2 (r15 : List Nat) (a2 : Nat) : Nat → Int → Option (Unit ⊕ Unit)
  | 0, _ => none
  | k + 1, v => spec_Grid_l2s r15 a2 k (spec_Grid_l2 r15 a2 k) v
def spec_Grid_l3s (a0 : List (List Nat)) (a1 : Int) (a2 : Nat) (k : Nat) (rec3 : Int → Option (Unit ⊕ Unit)) (x11 : Int) : Option (Unit ⊕ Unit) :=
  br (decide (x11 < (a0.length : Int)))
    ((idx a0 x11) >>= fun r15 =>
    br (!decide ((r15.length : Int) = a1))
      (some (.inl ()))
      ((spec_Grid_l2 r15 a2 k 0) >>= fun y2 => match y2 with
        | (.inl v14) =>
          (some (.inl ()))
        | (.inr v15) =>
          (rec3 (iadd .i64 x11 1))))
    (some (.inr ()))
def spec_Grid_l3 (a0 : List (List Nat)) (a1 : Int) (a2 : Nat) : Nat → Int → Option (Unit ⊕ Unit)
  | 0, _ => none
  | k + 1, v => spec_Grid_l3s a0 a1 a2 k (spec_Grid_l3 a0 a1 a2 k) v
def spec_Grid (k : Nat) (a0 : List (List Nat)) (a1 : Int) (a2 : Nat) : Option (Bool) :=
  (spec_Grid_l3 a0 a1 a2 k 0) >>= fun y3 => match y3 with
    | (.inl v16) =>
      (some false)
    | (.inr v17) =>
      (some (decide (0 < a1)))

theorem spec_Grid_sim {k : Nat}  (a0 : List (List Nat)) (a1 : Int) (a2 : Nat) {out : Bool} (hp : spec_Grid k a0 a1 a2 = some out) : Go.Sx.Fn Try.prog 6 [(Sl (Kl Kf) a0), (Vl (.int .i64 a1)), (Vl (.float .f64 a2))] [] (fun w : Unit => (Vl (.bool out))) (fun w => []) := by
  unfold spec_Grid at hp
  refine fn_of Try.func6 rfl Try.ntmps6 rfl fun E hM => ?_
  refine cx_seq' fun K1 hK1 => ?_
  refine cx_region' ?_
  refine sx_rd' (rd_assign' rfl) rfl rfl (wt_none' rfl) ?_
  refine sx_nil' ?_
  show TX E K1 _
  refine tx_k' hK1 ?_
  refine cx_seq' fun K2 hK2 => ?_
  refine cx_seq' fun K3 hK3 => ?_
  refine cx_region' ?_
  refine sx_rd' (rd_move' rfl) rfl rfl (wt_none' rfl) ?_
  refine sx_rd' (rd_len' rfl Try.underlying27) rfl rfl (wt_none' rfl) ?_
  refine sx_rd' (rd_move' rfl) rfl rfl (wt_none' rfl) ?_
  refine sx_nil' ?_
  show TX E K3 _
  refine tx_k' hK3 ?_
  refine cx_block' ?_
  obtain ⟨y3, hy3, hp⟩ := bind_some hp
  refine cx_loopg' (F := spec_Grid_l3 a0 a1 a2) (G := fun k R v => spec_Grid_l3s a0 a1 a2 k R v) (x := 0) (gh := ()) (fun (v8 : Int) (w8 : Unit) => (⟨47, [], [(1, (Vl (.int .i64 a1))), (2, (Vl (.float .f64 a2))), (11, (Sl (Kl Kf) a0)), (12, (Vl (.int .i64 (a0.length : Int)))), (13, (Vl (.int .i64 v8)))], []⟩ : St)) (fun (y : Unit ⊕ Unit) => match y with | (.inl v16) => Zg E Exit.ret (fun (w16 : Unit) => (⟨47, [], [(6, (Vl (.bool false)))], []⟩ : St)) | (.inr v17) => Zg E (Exit.exit 0) (fun (w17 : Unit) => (⟨47, [], [(1, (Vl (.int .i64 a1)))], []⟩ : St))) (fun _ => rfl) (fun _ _ => rfl) ?_ hy3 (tx_to' rfl [] (sub_cons rfl (sub_cons rfl (sub_cons rfl (sub_cons rfl (sub_cons rfl sub_nil))))) (by decide) pick_nil) ?_
  · clear hp hy3
    clear y3
    intro k rec3 KY3 ih3
    rintro x11 ⟨⟩ y3 hp
    replace hp : spec_Grid_l3s a0 a1 a2 k rec3 x11 = some y3 := hp
    unfold spec_Grid_l3s at hp
    refine cx_seq' fun K28 hK28 => ?_
    refine cx_region' ?_
    refine sx_rd' (rd_bin' rfl rfl eg_int ru_lss) rfl rfl (wt_none' rfl) ?_
    refine sx_nil' ?_
    show TX E K28 _
    refine tx_k' hK28 ?_
    refine cx_seq' fun K29 hK29 => ?_
    refine cx_cond' rfl (fun h13 => ?_) (fun h13 => ?_)
    · replace hp := (br_t h13).symm.trans hp
      refine cx_skip' ?_
      show TX E K29 _
      refine tx_k' hK29 ?_
      refine cx_seq' fun K30 hK30 => ?_
      refine cx_block' ?_
      refine cx_seq' fun K31 hK31 => ?_
      refine cx_region' ?_
      obtain ⟨r15, hr15, hp⟩ := bind_some hp
      refine sx_rd' (rd_at' (K := (Kl Kf)) rfl rfl hr15 Try.underlying27 info25) rfl rfl (wt_none' rfl) ?_
      refine sx_rd' (rd_load_pt' rfl rfl flat25) rfl rfl (wt_none' rfl) ?_
      refine sx_rd' (rd_assign' rfl) rfl rfl (wt_none' rfl) ?_
      refine sx_nil' ?_
      show TX E K31 _
      refine tx_k' hK31 ?_
      refine cx_seq' fun K32 hK32 => ?_
      refine cx_seq' fun K33 hK33 => ?_
      refine cx_region' ?_
      refine sx_rd' (rd_move' rfl) rfl rfl (wt_none' rfl) ?_
      refine sx_rd' (rd_len' rfl Try.underlying25) rfl rfl (wt_none' rfl) ?_
      refine sx_rd' (rd_move' rfl) rfl rfl (wt_none' rfl) ?_
      refine sx_rd' (rd_bin' rfl rfl eg_int ru_neq) rfl rfl (wt_none' rfl) ?_
      refine sx_nil' ?_
      show TX E K33 _
      refine tx_k' hK33 ?_
      refine cx_cond' rfl (fun h14 => ?_) (fun h14 => ?_)
      · replace hp := (br_t h14).symm.trans hp
        refine cx_seq' fun K34 hK34 => ?_
        refine cx_region' ?_
        refine sx_rd' (rd_assign' rfl) rfl rfl (wt_none' rfl) ?_
        refine sx_nil' ?_
        show TX E K34 _
        refine tx_k' hK34 ?_
        refine cx_retc' ?_
        replace hp := Option.some.inj hp
        subst hp
        show TX E (Zg E Exit.ret _ Exit.ret) _
        exact tx_zend' () rfl [] (sub_cons rfl sub_nil) (by decide) pick_nil
      · replace hp := (br_f h14).symm.trans hp
        refine cx_skip' ?_
        show TX E K32 _
        refine tx_k' hK32 ?_
        refine cx_seq' fun K35 hK35 => ?_
        refine cx_region' ?_
        refine sx_rd' (rd_move' rfl) rfl rfl (wt_none' rfl) ?_
        refine sx_rd' (rd_len' rfl Try.underlying25) rfl rfl (wt_none' rfl) ?_
        refine sx_rd' (rd_move' rfl) rfl rfl (wt_none' rfl) ?_
        refine sx_nil' ?_
        show TX E K35 _
        refine tx_k' hK35 ?_
        refine cx_block' ?_
        obtain ⟨y2, hy2, hp⟩ := bind_some hp
        refine cx_loopg' (F := spec_Grid_l2 r15 a2) (G := fun k R v => spec_Grid_l2s r15 a2 k R v) (x := 0) (gh := ()) (fun (v11 : Int) (w11 : Unit) => (⟨47, [], [(1, (Vl (.int .i64 a1))), (2, (Vl (.float .f64 a2))), (11, (Sl (Kl Kf) a0)), (12, (Vl (.int .i64 (a0.length : Int)))), (13, (Vl (.int .i64 x11))), (21, (Sl Kf r15)), (22, (Vl (.int .i64 (r15.length : Int)))), (23, (Vl (.int .i64 v11)))], []⟩ : St)) (fun (y : Unit ⊕ Unit) => match y with | (.inl v14) => Zg E Exit.ret (fun (w14 : Unit) => (⟨47, [], [(6, (Vl (.bool false)))], []⟩ : St)) | (.inr v15) => Zg E (Exit.exit 2) (fun (w15 : Unit) => (⟨47, [], [(1, (Vl (.int .i64 a1))), (2, (Vl (.float .f64 a2))), (11, (Sl (Kl Kf) a0)), (12, (Vl (.int .i64 (a0.length : Int)))), (13, (Vl (.int .i64 x11)))], []⟩ : St))) (fun _ => rfl) (fun _ _ => rfl) ?_ hy2 (tx_to' rfl [] (sub_cons rfl (sub_cons rfl (sub_cons rfl (sub_cons rfl (sub_cons rfl (sub_cons rfl (sub_cons rfl (sub_cons rfl sub_nil)))))))) (by decide) pick_nil) ?_
        · clear hp hy2
          clear y2
          intro k rec2 KY2 ih2
          rintro x10 ⟨⟩ y2 hp
          replace hp : spec_Grid_l2s r15 a2 k rec2 x10 = some y2 := hp
          unfold spec_Grid_l2s at hp
          refine cx_seq' fun K44 hK44 => ?_
          refine cx_region' ?_
          refine sx_rd' (rd_bin' rfl rfl eg_int ru_lss) rfl rfl (wt_none' rfl) ?_
          refine sx_nil' ?_
          show TX E K44 _
          refine tx_k' hK44 ?_
          refine cx_seq' fun K45 hK45 => ?_
          refine cx_cond' rfl (fun h20 => ?_) (fun h20 => ?_)
          · replace hp := (br_t h20).symm.trans hp
            refine cx_skip' ?_
            show TX E K45 _
            refine tx_k' hK45 ?_
            refine cx_seq' fun K46 hK46 => ?_
            refine cx_block' ?_
            refine cx_seq' fun K47 hK47 => ?_
            refine cx_region' ?_
            obtain ⟨r25, hr25, hp⟩ := bind_some hp
            refine sx_rd' (rd_at' (K := Kf) rfl rfl hr25 Try.underlying25 info22) rfl rfl (wt_none' rfl) ?_
            refine sx_rd' (rd_load_pt' rfl rfl flat22) rfl rfl (wt_none' rfl) ?_
            refine sx_rd' (rd_assign' rfl) rfl rfl (wt_none' rfl) ?_
            refine sx_nil' ?_
            show TX E K47 _
            refine tx_k' hK47 ?_
            refine cx_seq' fun K48 hK48 => ?_
            refine cx_region' ?_
            refine sx_rd' (rd_move' rfl) rfl rfl (wt_none' rfl) ?_
            refine sx_rd' (rd_move' rfl) rfl rfl (wt_none' rfl) ?_
            refine sx_rd' (rd_un' rfl ru_fneg) rfl rfl (wt_none' rfl) ?_
            refine sx_rd' (rd_bin' rfl rfl eg_flt ru_fge) rfl rfl (wt_none' rfl) ?_
            refine sx_rd' (rd_move' rfl) rfl rfl (wt_none' rfl) ?_
            refine sx_cutn' 4 (fun (v12 : Bool) => (⟨47, [], [(1, (Vl (.int .i64 a1))), (2, (Vl (.float .f64 a2))), (10, (Vl (.float .f64 r25))), (11, (Sl (Kl Kf) a0)), (12, (Vl (.int .i64 (a0.length : Int)))), (13, (Vl (.int .i64 x11))), (21, (Sl Kf r15)), (22, (Vl (.int .i64 (r15.length : Int)))), (23, (Vl (.int .i64 x10))), (35, (Vl (.bool v12)))], []⟩ : St)) (fun (v12 : Bool) => spec_Grid_j7 k rec2 x10 r25 v12 = some y2) ?_ ?_
            · rintro x8 hp
              replace hp : spec_Grid_j7 k rec2 x10 r25 x8 = some y2 := hp
              unfold spec_Grid_j7 at hp
              refine sx_rd' (rd_un' rfl ru_not) rfl rfl (wt_none' rfl) ?_
              refine sx_rd' (rd_move' rfl) rfl rfl (wt_none' rfl) ?_
              refine sx_cutn' 5 (fun (v13 : Bool) => (⟨47, [], [(1, (Vl (.int .i64 a1))), (2, (Vl (.float .f64 a2))), (11, (Sl (Kl Kf) a0)), (12, (Vl (.int .i64 (a0.length : Int)))), (13, (Vl (.int .i64 x11))), (21, (Sl Kf r15)), (22, (Vl (.int .i64 (r15.length : Int)))), (23, (Vl (.int .i64 x10))), (42, (Vl (.bool v13)))], []⟩ : St)) (fun (v13 : Bool) => spec_Grid_j8 k rec2 x10 v13 = some y2) ?_ ?_
              · rintro x9 hp
                replace hp : spec_Grid_j8 k rec2 x10 x9 = some y2 := hp
                unfold spec_Grid_j8 at hp
                refine sx_nil' ?_
                show TX E K48 _
                refine tx_k' hK48 ?_
                refine cx_cond' rfl (fun h23 => ?_) (fun h23 => ?_)
                · replace hp := (br_t h23).symm.trans hp
                  refine cx_seq' fun K51 hK51 => ?_
                  refine cx_region' ?_
                  refine sx_rd' (rd_assign' rfl) rfl rfl (wt_none' rfl) ?_
                  refine sx_nil' ?_
                  show TX E K51 _
                  refine tx_k' hK51 ?_
                  refine cx_retc' ?_
                  replace hp := Option.some.inj hp
                  subst hp
                  show TX E (Zg E Exit.ret _ Exit.ret) _
                  exact tx_zend' () rfl [] (sub_cons rfl sub_nil) (by decide) pick_nil
                · replace hp := (br_f h23).symm.trans hp
                  refine cx_skip' ?_
                  show TX E K46 _
                  refine tx_k' hK46 ?_
                  refine cx_region' ?_
                  refine sx_rd' (rd_bin' rfl rfl eg_int ru_add) rfl rfl (wt_none' rfl) ?_
                  refine sx_rd' (rd_move' rfl) rfl rfl (wt_none' rfl) ?_
                  refine sx_nil' ?_
                  show TX E (KY2 _) _
                  exact tx_pick' [] (sub_cons rfl (sub_cons rfl (sub_cons rfl (sub_cons rfl (sub_cons rfl (sub_cons rfl (sub_cons rfl (sub_cons rfl sub_nil)))))))) (by decide) pick_nil (ih2 (iadd .i64 x10 1) () _ hp)
              · intro K50 hK50
                rcases br_cases hp with ⟨h22, hp⟩ | ⟨h22, hp⟩
                · refine sx_skip' rfl rfl (wt_is' (wt_guard' rfl rfl rfl) (beq_tf h22)) ?_
                  refine sx_skip' rfl rfl (wt_is' (wt_guard' rfl rfl rfl) (beq_tf h22)) ?_
                  refine sx_skip' rfl rfl (wt_is' (wt_guard' rfl rfl rfl) (beq_tf h22)) ?_
                  refine sx_skip' rfl rfl (wt_is' (wt_guard' rfl rfl rfl) (beq_tf h22)) ?_
                  refine sx_rd' (rd_pick_true' rfl h22 rfl) rfl rfl (wt_none' rfl) ?_
                  refine sx_nil' ?_
                  show TX E K50 _
                  exact tx_pick' [] (sub_cons rfl (sub_cons rfl (sub_cons rfl (sub_cons rfl (sub_cons rfl (sub_cons rfl (sub_cons rfl (sub_cons rfl (sub_cons rfl sub_nil))))))))) (by decide) pick_nil (hK50 true hp)
                · refine sx_rd' (rd_move' rfl) rfl rfl (wt_is' (wt_guard' rfl rfl rfl) (beq_ff h22)) ?_
                  refine sx_rd' (rd_move' rfl) rfl rfl (wt_is' (wt_guard' rfl rfl rfl) (beq_ff h22)) ?_
                  obtain ⟨r40, hr40, hp⟩ := bind_some hp
                  refine sx_ox' (ox_calln' (ent_fn' Try.func16 isn16 rfl rfl) (math_Trunc_sim _ hr40 : Go.Sx.Fn Try.prog 16 [(Vl (.float .f64 r25))] [] (fun x : Unit => (Fl r40)) (fun x => [])) (Hn := fun x : Unit => []) (fun _ => rfl) rfl rfl) (wt_is' (wt_guard' rfl rfl rfl) (beq_ff h22)) fun ⟨⟩ => ?_
                  refine sx_rd' (rd_fcmp' (fl_v rfl) (fl_f rfl) rfl) rfl rfl (wt_is' (wt_guard' rfl rfl rfl) (beq_ff h22)) ?_
                  refine sx_rd' (rd_pick_false' rfl h22 rfl) rfl rfl (wt_none' rfl) ?_
                  refine sx_nil' ?_
                  show TX E K50 _
                  exact tx_pick' [] (sub_cons rfl (sub_cons rfl (sub_cons rfl (sub_cons rfl (sub_cons rfl (sub_cons rfl (sub_cons rfl (sub_cons rfl (sub_cons rfl sub_nil))))))))) (by decide) pick_nil (hK50 (fne r25 r40) hp)
            · intro K49 hK49
              rcases br_cases hp with ⟨h21, hp⟩ | ⟨h21, hp⟩
              · refine sx_rd' (rd_move' rfl) rfl rfl (wt_is' (wt_guard' rfl rfl rfl) (beq_tt h21)) ?_
                refine sx_rd' (rd_move' rfl) rfl rfl (wt_is' (wt_guard' rfl rfl rfl) (beq_tt h21)) ?_
                refine sx_rd' (rd_bin' rfl rfl eg_flt ru_fle) rfl rfl (wt_is' (wt_guard' rfl rfl rfl) (beq_tt h21)) ?_
                refine sx_rd' (rd_pick_true' rfl h21 rfl) rfl rfl (wt_none' rfl) ?_
                refine sx_nil' ?_
                show TX E K49 _
                exact tx_pick' [] (sub_cons rfl (sub_cons rfl (sub_cons rfl (sub_cons rfl (sub_cons rfl (sub_cons rfl (sub_cons rfl (sub_cons rfl (sub_cons rfl (sub_cons rfl sub_nil)))))))))) (by decide) pick_nil (hK49 (fle r25 a2) hp)
              · refine sx_skip' rfl rfl (wt_is' (wt_guard' rfl rfl rfl) (beq_ft h21)) ?_
                refine sx_skip' rfl rfl (wt_is' (wt_guard' rfl rfl rfl) (beq_ft h21)) ?_
                refine sx_skip' rfl rfl (wt_is' (wt_guard' rfl rfl rfl) (beq_ft h21)) ?_
                refine sx_rd' (rd_pick_false' rfl h21 rfl) rfl rfl (wt_none' rfl) ?_
                refine sx_nil' ?_
                show TX E K49 _
                exact tx_pick' [] (sub_cons rfl (sub_cons rfl (sub_cons rfl (sub_cons rfl (sub_cons rfl (sub_cons rfl (sub_cons rfl (sub_cons rfl (sub_cons rfl (sub_cons rfl sub_nil)))))))))) (by decide) pick_nil (hK49 false hp)
          · replace hp := (br_f h20).symm.trans hp
            refine cx_exit' ?_
            replace hp := Option.some.inj hp
            subst hp
            show TX E (Zg E (Exit.exit 2) _ (Exit.exit 2)) _
            exact tx_zend' () rfl [] (sub_cons rfl (sub_cons rfl (sub_cons rfl (sub_cons rfl (sub_cons rfl sub_nil))))) (by decide) pick_nil
        · rcases y2 with v14 | v15
          · dsimp only at hp
            refine zg_out fun w14 => ?_
            replace hp := Option.some.inj hp
            subst hp
            show TX E (Zg E Exit.ret _ Exit.ret) _
            exact tx_zend' () rfl [] (sub_cons rfl sub_nil) (by decide) pick_nil
          · dsimp only at hp
            refine zg_out fun w15 => ?_
            show TX E K30 _
            refine tx_k' hK30 ?_
            refine cx_region' ?_
            refine sx_rd' (rd_bin' rfl rfl eg_int ru_add) rfl rfl (wt_none' rfl) ?_
            refine sx_rd' (rd_move' rfl) rfl rfl (wt_none' rfl) ?_
            refine sx_nil' ?_
            show TX E (KY3 _) _
            exact tx_pick' [] (sub_cons rfl (sub_cons rfl (sub_cons rfl (sub_cons rfl (sub_cons rfl sub_nil))))) (by decide) pick_nil (ih3 (iadd .i64 x11 1) () _ hp)
    · replace hp := (br_f h13).symm.trans hp
      refine cx_exit' ?_
      replace hp := Option.some.inj hp
      subst hp
      show TX E (Zg E (Exit.exit 0) _ (Exit.exit 0)) _
      exact tx_zend' () rfl [] (sub_cons rfl sub_nil) (by decide) pick_nil
  · rcases y3 with v16 | v17
    · dsimp only at hp
      refine zg_out fun w16 => ?_
      replace hp := Option.some.inj hp
      subst hp
      refine tx_pick' (L' := [(6, (Vl (.bool false)))]) (H' := []) [] (sub_cons rfl sub_nil) (by decide) pick_nil ?_
      exact tx_ret1' Try.results6 rfl () (rv_tmp' rfl) (List.Sublist.refl _)
    · dsimp only at hp
      refine zg_out fun w17 => ?_
      show TX E K2 _
      refine tx_k' hK2 ?_
      refine cx_seq' fun K52 hK52 => ?_
      refine cx_region' ?_
      refine sx_rd' (rd_move' rfl) rfl rfl (wt_none' rfl) ?_
      refine sx_rd' (rd_bin' rfl rfl eg_int ru_gtr) rfl rfl (wt_none' rfl) ?_
      refine sx_rd' (rd_assign' rfl) rfl rfl (wt_none' rfl) ?_
      refine sx_nil' ?_
      show TX E K52 _
      refine tx_k' hK52 ?_
      refine cx_retc' ?_
      replace hp := Option.some.inj hp
      subst hp
      refine tx_pick' (L' := [(6, (Vl (.bool (decide (0 < a1)))))]) (H' := []) [] (sub_cons rfl sub_nil) (by decide) pick_nil ?_
      exact tx_ret1' Try.results6 rfl () (rv_tmp' rfl) (List.Sublist.refl _)

def laws_squareArea3 (k : Nat) (a0_0 : Nat) (a0_1 : Nat) (a0_2 : Nat) (a1_0 : Nat) (a1_1 : Nat) (a1_2 : Nat) (a2_0 : Nat) (a2_1 : Nat) (a2_2 : Nat) : Option (Nat) :=
  (fsub a1_0 a0_0) >>= fun r14 =>
  (fsub a1_1 a0_1) >>= fun r19 =>
  (fsub a1_2 a0_2) >>= fun r24 =>
  (fsub a2_0 a0_0) >>= fun r30 =>
  (fsub a2_1 a0_1) >>= fun r35 =>
  (fsub a2_2 a0_2) >>= fun r40 =>
  (some (gmul r19 r40)) >>= fun r46 =>
  (some (gmul r24 r35)) >>= fun r51 =>
  (some (gsub r46 r51)) >>= fun r52 =>
  (some (gmul r24 r30)) >>= fun r57 =>
  (some (gmul r14 r40)) >>= fun r62 =>
  (some (gsub r57 r62)) >>= fun r63 =>
  (some (gmul r14 r35)) >>= fun r68 =>
  (some (gmul r19 r30)) >>= fun r73 =>
  (some (gsub r68 r73)) >>= fun r74 =>
  (some (gmul r52 r52)) >>= fun r80 =>
  (some (gmul r63 r63)) >>= fun r85 =>
  (some (gadd r80 r85)) >>= fun r86 =>
  (some (gmul r74 r74)) >>= fun r91 =>
  (some (gadd r86 r91)) >>= fun r92 =>
  (some (gdiv r92 4616189618054758400)) >>= fun r93 =>
  some r93

theorem laws_squareArea3_sim {k : Nat}  (a0_0 : Nat) (a0_1 : Nat) (a0_2 : Nat) (a1_0 : Nat) (a1_1 : Nat) (a1_2 : Nat) (a2_0 : Nat) (a2_1 : Nat) (a2_2 : Nat) {out : Nat} (hp : laws_squareArea3 k a0_0 a0_1 a0_2 a1_0 a1_1 a1_2 a2_0 a2_1 a2_2 = some out) : Go.Sx.Fn Try.prog 13 [(Ag [(Vl (.float .f64 a0_0)), (Vl (.float .f64 a0_1)), (Vl (.float .f64 a0_2))]), (Ag [(Vl (.float .f64 a1_0)), (Vl (.float .f64 a1_1)), (Vl (.float .f64 a1_2))]), (Ag [(Vl (.float .f64 a2_0)), (Vl (.float .f64 a2_1)), (Vl (.float .f64 a2_2))])] [] (fun w : Unit => (Fl out)) (fun w => []) := by
  unfold laws_squareArea3 at hp
  refine fn_of Try.func13 rfl Try.ntmps13 rfl fun E hM => ?_
  refine cx_seq' fun K1 hK1 => ?_
  refine cx_region' ?_
  refine sx_ox' (ox_box' rfl (lv_ag _) rfl rfl) (wt_none' rfl) fun q3 => ?_
  refine sx_ox' (ox_box' rfl (lv_ag _) rfl rfl) (wt_none' rfl) fun q4 => ?_
  refine sx_ox' (ox_box' rfl (lv_ag _) rfl rfl) (wt_none' rfl) fun q5 => ?_
  refine sx_rd' (rd_assign' rfl) rfl rfl (wt_none' rfl) ?_
  refine sx_nil' ?_
  show TX E K1 _
  refine tx_k' hK1 ?_
  refine cx_seq' fun K2 hK2 => ?_
  refine cx_plana' [q5.block, q3.block] [(34, 1), (35, 1)] [(0, 1), (1, 1), (2, 1), (3, 1), (4, 1), (5, 1), (6, 1), (7, 1), (8, 1), (9, 1), (10, 1), (11, 1), (12, 1), (13, 1), (14, 1), (15, 1), (16, 2), (17, 2), (18, 2), (19, 2), (20, 2), (21, 2), (22, 2), (23, 2), (24, 2), (25, 2), (26, 2), (27, 2), (28, 2), (29, 2), (30, 2)] 5 #[true, true, true, true, true, true, true, true, true, true, true, true, true, true, true, true, true, true, true, true, true, true, true, true, true, true, true, true, true, true, true, false, false, false, false, false] mixed (by kernel_rfl) ?_
  refine px_rd' rfl (rd_field0' rfl Try.underlying35 rfl info22 rfl) rfl rfl (wt_none' rfl) ?_
  refine px_rd' rfl (rd_load' (i := 1) (o := 0) rfl ⟨rfl, rfl, rfl, rfl⟩ rfl flat22) rfl rfl (wt_none' rfl) ?_
  refine px_rd' rfl (rd_field0' rfl Try.underlying35 rfl info22 rfl) rfl rfl (wt_none' rfl) ?_
  refine px_rd' rfl (rd_load' (i := 2) (o := 0) rfl ⟨rfl, rfl, rfl, rfl⟩ rfl flat22) rfl rfl (wt_none' rfl) ?_
  obtain ⟨r14, hr14, hp⟩ := bind_some hp
  refine px_rd' rfl (rd_bin' rfl rfl eg_flt (ru_fsub hr14)) rfl rfl (wt_none' rfl) ?_
  refine px_rd' rfl (rd_field' (off := 1) rfl Try.underlying35 rfl info22 rfl) rfl rfl (wt_none' rfl) ?_
  refine px_rd' rfl (rd_load' (i := 1) (o := 1) rfl ⟨rfl, rfl, rfl, rfl⟩ rfl flat22) rfl rfl (wt_none' rfl) ?_
  refine px_rd' rfl (rd_field' (off := 1) rfl Try.underlying35 rfl info22 rfl) rfl rfl (wt_none' rfl) ?_
  refine px_rd' rfl (rd_load' (i := 2) (o := 1) rfl ⟨rfl, rfl, rfl, rfl⟩ rfl flat22) rfl rfl (wt_none' rfl) ?_
  obtain ⟨r19, hr19, hp⟩ := bind_some hp
  refine px_rd' rfl (rd_bin' rfl rfl eg_flt (ru_fsub hr19)) rfl rfl (wt_none' rfl) ?_
  refine px_rd' rfl (rd_field' (off := 2) rfl Try.underlying35 rfl info22 rfl) rfl rfl (wt_none' rfl) ?_
  refine px_rd' rfl (rd_load' (i := 1) (o := 2) rfl ⟨rfl, rfl, rfl, rfl⟩ rfl flat22) rfl rfl (wt_none' rfl) ?_
  refine px_rd' rfl (rd_field' (off := 2) rfl Try.underlying35 rfl info22 rfl) rfl rfl (wt_none' rfl) ?_
  refine px_rd' rfl (rd_load' (i := 2) (o := 2) rfl ⟨rfl, rfl, rfl, rfl⟩ rfl flat22) rfl rfl (wt_none' rfl) ?_
  obtain ⟨r24, hr24, hp⟩ := bind_some hp
  refine px_rd' rfl (rd_bin' rfl rfl eg_flt (ru_fsub hr24)) rfl rfl (wt_none' rfl) ?_
  refine px_rd' rfl (rd_build' (pls := [(0, 1), (1, 1), (2, 1)]) (qs := [(0, [(Vl (.float .f64 r14))]), (1, [(Vl (.float .f64 r19))]), (2, [(Vl (.float .f64 r24))])]) (r := [(Vl (.float .f64 r14)), (Vl (.float .f64 r19)), (Vl (.float .f64 r24))]) ⟨rfl, ⟨_, rfl, (lv_vl rfl rfl)⟩, ⟨rfl, ⟨_, rfl, (lv_vl rfl rfl)⟩, ⟨rfl, ⟨_, rfl, (lv_vl rfl rfl)⟩, trivial⟩⟩⟩ Try.underlying35 has35 places35 info35 rfl rfl rfl) rfl rfl (wt_none' rfl) ?_
  refine px_rb' rfl (rb_field0' rfl Try.underlying35 rfl info22 rfl) rfl rfl (wt_none' rfl) ?_
  refine px_rb' rfl (rb_load' (i := 0) (o := 0) rfl ⟨rfl, rfl, rfl, rfl⟩ rfl flat22 (by simp)) rfl rfl (wt_none' rfl) ?_
  refine px_rb' rfl (rb_field0' rfl Try.underlying35 rfl info22 rfl) rfl rfl (wt_none' rfl) ?_
  refine px_rb' rfl (rb_load' (i := 2) (o := 0) rfl ⟨rfl, rfl, rfl, rfl⟩ rfl flat22 (by simp)) rfl rfl (wt_none' rfl) ?_
  obtain ⟨r30, hr30, hp⟩ := bind_some hp
  refine px_rb' rfl (rb_bin' rfl rfl eg_flt (ru_fsub hr30)) rfl rfl (wt_none' rfl) ?_
  refine px_rb' rfl (rb_field' (off := 1) rfl Try.underlying35 rfl info22 rfl) rfl rfl (wt_none' rfl) ?_
  refine px_rb' rfl (rb_load' (i := 0) (o := 1) rfl ⟨rfl, rfl, rfl, rfl⟩ rfl flat22 (by simp)) rfl rfl (wt_none' rfl) ?_
  refine px_rb' rfl (rb_field' (off := 1) rfl Try.underlying35 rfl info22 rfl) rfl rfl (wt_none' rfl) ?_
  refine px_rb' rfl (rb_load' (i := 2) (o := 1) rfl ⟨rfl, rfl, rfl, rfl⟩ rfl flat22 (by simp)) rfl rfl (wt_none' rfl) ?_
  obtain ⟨r35, hr35, hp⟩ := bind_some hp
  refine px_rb' rfl (rb_bin' rfl rfl eg_flt (ru_fsub hr35)) rfl rfl (wt_none' rfl) ?_
  refine px_rb' rfl (rb_field' (off := 2) rfl Try.underlying35 rfl info22 rfl) rfl rfl (wt_none' rfl) ?_
  refine px_rb' rfl (rb_load' (i := 0) (o := 2) rfl ⟨rfl, rfl, rfl, rfl⟩ rfl flat22 (by simp)) rfl rfl (wt_none' rfl) ?_
  refine px_rb' rfl (rb_field' (off := 2) rfl Try.underlying35 rfl info22 rfl) rfl rfl (wt_none' rfl) ?_
  refine px_rb' rfl (rb_load' (i := 2) (o := 2) rfl ⟨rfl, rfl, rfl, rfl⟩ rfl flat22 (by simp)) rfl rfl (wt_none' rfl) ?_
  obtain ⟨r40, hr40, hp⟩ := bind_some hp
  refine px_rb' rfl (rb_bin' rfl rfl eg_flt (ru_fsub hr40)) rfl rfl (wt_none' rfl) ?_
  refine px_nil' ?_
  show AX E _ _ _ _ _ _ _ _
  refine ax_node (f' := 0) #[true, true, true, true, true, true, true, true, true, true, true, true, true, true, true, true, true, true, true, true, true, true, true, true, true, true, true, true, true, true, true, true, true, true, true, true] (fun (v10 : Addr × Addr) => (⟨94, [], [(3, (Vl (.pointer (some q3)))), (5, (Vl (.pointer (some q5)))), (7, (Vl (.pointer (some v10.1)))), (8, (Vl (.pointer (some v10.2))))], [⟨.pointer (some q3), [(Vl (.float .f64 a0_0)), (Vl (.float .f64 a0_1)), (Vl (.float .f64 a0_2))], 35, none⟩, ⟨.pointer (some q5), [(Vl (.float .f64 a2_0)), (Vl (.float .f64 a2_1)), (Vl (.float .f64 a2_2))], 35, none⟩, ⟨.pointer (some v10.1), [(Vl (.float .f64 r14)), (Vl (.float .f64 r19)), (Vl (.float .f64 r24))], 35, none⟩, ⟨.pointer (some v10.2), [(Vl (.float .f64 r30)), (Vl (.float .f64 r35)), (Vl (.float .f64 r40))], 35, none⟩]⟩ : St)) ?_ ?_
  · rintro ⟨q9013, q9014⟩
    refine ax_nil (by kernel_rfl) ?_
    show TX E K2 _
    refine tx_k' hK2 ?_
    refine cx_seq' fun K3 hK3 => ?_
    refine cx_region' ?_
    refine sx_rd' (rd_field' (off := 1) rfl Try.underlying35 rfl info22 rfl) rfl rfl (wt_none' rfl) ?_
    refine sx_rd' (rd_load' (i := 2) (o := 1) rfl ⟨rfl, rfl, rfl, rfl⟩ rfl flat22) rfl rfl (wt_none' rfl) ?_
    refine sx_rd' (rd_field' (off := 2) rfl Try.underlying35 rfl info22 rfl) rfl rfl (wt_none' rfl) ?_
    refine sx_rd' (rd_load' (i := 3) (o := 2) rfl ⟨rfl, rfl, rfl, rfl⟩ rfl flat22) rfl rfl (wt_none' rfl) ?_
    obtain ⟨r46, hr46, hp⟩ := bind_some hp
    refine sx_ox' (ox_fop' (.inr (.inr (.inl rfl))) (fl_v rfl) (fl_v rfl) (Option.some.inj hr46) rfl rfl) (wt_none' rfl) fun _ => ?_
    refine sx_rd' (rd_field' (off := 2) rfl Try.underlying35 rfl info22 rfl) rfl rfl (wt_none' rfl) ?_
    refine sx_rd' (rd_load' (i := 2) (o := 2) rfl ⟨rfl, rfl, rfl, rfl⟩ rfl flat22) rfl rfl (wt_none' rfl) ?_
    refine sx_rd' (rd_field' (off := 1) rfl Try.underlying35 rfl info22 rfl) rfl rfl (wt_none' rfl) ?_
    refine sx_rd' (rd_load' (i := 3) (o := 1) rfl ⟨rfl, rfl, rfl, rfl⟩ rfl flat22) rfl rfl (wt_none' rfl) ?_
    obtain ⟨r51, hr51, hp⟩ := bind_some hp
    refine sx_ox' (ox_fop' (.inr (.inr (.inl rfl))) (fl_v rfl) (fl_v rfl) (Option.some.inj hr51) rfl rfl) (wt_none' rfl) fun _ => ?_
    obtain ⟨r52, hr52, hp⟩ := bind_some hp
    refine sx_ox' (ox_fop' (.inr (.inl rfl)) (fl_f rfl) (fl_f rfl) (Option.some.inj hr52) rfl rfl) (wt_none' rfl) fun _ => ?_
    refine sx_rd' (rd_field' (off := 2) rfl Try.underlying35 rfl info22 rfl) rfl rfl (wt_none' rfl) ?_
    refine sx_rd' (rd_load' (i := 2) (o := 2) rfl ⟨rfl, rfl, rfl, rfl⟩ rfl flat22) rfl rfl (wt_none' rfl) ?_
    refine sx_rd' (rd_field0' rfl Try.underlying35 rfl info22 rfl) rfl rfl (wt_none' rfl) ?_
    refine sx_rd' (rd_load' (i := 3) (o := 0) rfl ⟨rfl, rfl, rfl, rfl⟩ rfl flat22) rfl rfl (wt_none' rfl) ?_
    obtain ⟨r57, hr57, hp⟩ := bind_some hp
    refine sx_ox' (ox_fop' (.inr (.inr (.inl rfl))) (fl_v rfl) (fl_v rfl) (Option.some.inj hr57) rfl rfl) (wt_none' rfl) fun _ => ?_
    refine sx_rd' (rd_field0' rfl Try.underlying35 rfl info22 rfl) rfl rfl (wt_none' rfl) ?_
    refine sx_rd' (rd_load' (i := 2) (o := 0) rfl ⟨rfl, rfl, rfl, rfl⟩ rfl flat22) rfl rfl (wt_none' rfl) ?_
    refine sx_rd' (rd_field' (off := 2) rfl Try.underlying35 rfl info22 rfl) rfl rfl (wt_none' rfl) ?_
    refine sx_rd' (rd_load' (i := 3) (o := 2) rfl ⟨rfl, rfl, rfl, rfl⟩ rfl flat22) rfl rfl (wt_none' rfl) ?_
    obtain ⟨r62, hr62, hp⟩ := bind_some hp
    refine sx_ox' (ox_fop' (.inr (.inr (.inl rfl))) (fl_v rfl) (fl_v rfl) (Option.some.inj hr62) rfl rfl) (wt_none' rfl) fun _ => ?_
    obtain ⟨r63, hr63, hp⟩ := bind_some hp
    refine sx_ox' (ox_fop' (.inr (.inl rfl)) (fl_f rfl) (fl_f rfl) (Option.some.inj hr63) rfl rfl) (wt_none' rfl) fun _ => ?_
    refine sx_rd' (rd_field0' rfl Try.underlying35 rfl info22 rfl) rfl rfl (wt_none' rfl) ?_
    refine sx_rd' (rd_load' (i := 2) (o := 0) rfl ⟨rfl, rfl, rfl, rfl⟩ rfl flat22) rfl rfl (wt_none' rfl) ?_
    refine sx_rd' (rd_field' (off := 1) rfl Try.underlying35 rfl info22 rfl) rfl rfl (wt_none' rfl) ?_
    refine sx_rd' (rd_load' (i := 3) (o := 1) rfl ⟨rfl, rfl, rfl, rfl⟩ rfl flat22) rfl rfl (wt_none' rfl) ?_
    obtain ⟨r68, hr68, hp⟩ := bind_some hp
    refine sx_ox' (ox_fop' (.inr (.inr (.inl rfl))) (fl_v rfl) (fl_v rfl) (Option.some.inj hr68) rfl rfl) (wt_none' rfl) fun _ => ?_
    refine sx_rd' (rd_field' (off := 1) rfl Try.underlying35 rfl info22 rfl) rfl rfl (wt_none' rfl) ?_
    refine sx_rd' (rd_load' (i := 2) (o := 1) rfl ⟨rfl, rfl, rfl, rfl⟩ rfl flat22) rfl rfl (wt_none' rfl) ?_
    refine sx_rd' (rd_field0' rfl Try.underlying35 rfl info22 rfl) rfl rfl (wt_none' rfl) ?_
    refine sx_rd' (rd_load' (i := 3) (o := 0) rfl ⟨rfl, rfl, rfl, rfl⟩ rfl flat22) rfl rfl (wt_none' rfl) ?_
    obtain ⟨r73, hr73, hp⟩ := bind_some hp
    refine sx_ox' (ox_fop' (.inr (.inr (.inl rfl))) (fl_v rfl) (fl_v rfl) (Option.some.inj hr73) rfl rfl) (wt_none' rfl) fun _ => ?_
    obtain ⟨r74, hr74, hp⟩ := bind_some hp
    refine sx_ox' (ox_fop' (.inr (.inl rfl)) (fl_f rfl) (fl_f rfl) (Option.some.inj hr74) rfl rfl) (wt_none' rfl) fun _ => ?_
    refine sx_rd' (rd_build' (pls := [(0, 1), (1, 1), (2, 1)]) (qs := [(0, [(Fl r52)]), (1, [(Fl r63)]), (2, [(Fl r74)])]) (r := [(Fl r52), (Fl r63), (Fl r74)]) ⟨rfl, ⟨_, rfl, (lv_fl _)⟩, ⟨rfl, ⟨_, rfl, (lv_fl _)⟩, ⟨rfl, ⟨_, rfl, (lv_fl _)⟩, trivial⟩⟩⟩ Try.underlying35 has35 places35 info35 rfl rfl rfl) rfl rfl (wt_none' rfl) ?_
    refine sx_ox' (ox_alloc' info35 rfl rfl rfl rfl (l := [(Vl (.float .f64 0)), (Vl (.float .f64 0)), (Vl (.float .f64 0))]) rfl) (wt_none' rfl) fun q9 => ?_
    refine sx_ox' (ox_store' (i := 0) (o := 0) rfl rfl (lv_ag _) ⟨rfl, rfl, rfl, rfl⟩ rfl info35 rfl (H' := [⟨.pointer (some q9), [(Fl r52), (Fl r63), (Fl r74)], 35, none⟩, ⟨.pointer (some q3), [(Vl (.float .f64 a0_0)), (Vl (.float .f64 a0_1)), (Vl (.float .f64 a0_2))], 35, none⟩, ⟨.pointer (some q5), [(Vl (.float .f64 a2_0)), (Vl (.float .f64 a2_1)), (Vl (.float .f64 a2_2))], 35, none⟩, ⟨.pointer (some q9013), [(Vl (.float .f64 r14)), (Vl (.float .f64 r19)), (Vl (.float .f64 r24))], 35, none⟩, ⟨.pointer (some q9014), [(Vl (.float .f64 r30)), (Vl (.float .f64 r35)), (Vl (.float .f64 r40))], 35, none⟩]) rfl) (wt_none' rfl) fun _ => ?_
    refine sx_nil' ?_
    show TX E K3 _
    refine tx_k' hK3 ?_
    refine cx_seq' fun K4 hK4 => ?_
    refine cx_region' ?_
    refine sx_rd' (rd_field0' rfl Try.underlying35 rfl info22 rfl) rfl rfl (wt_none' rfl) ?_
    refine sx_rd' (rd_load' (i := 0) (o := 0) rfl ⟨rfl, rfl, rfl, rfl⟩ rfl flat22) rfl rfl (wt_none' rfl) ?_
    refine sx_rd' (rd_field0' rfl Try.underlying35 rfl info22 rfl) rfl rfl (wt_none' rfl) ?_
    refine sx_rd' (rd_load' (i := 0) (o := 0) rfl ⟨rfl, rfl, rfl, rfl⟩ rfl flat22) rfl rfl (wt_none' rfl) ?_
    obtain ⟨r80, hr80, hp⟩ := bind_some hp
    refine sx_ox' (ox_fop' (.inr (.inr (.inl rfl))) (fl_f rfl) (fl_f rfl) (Option.some.inj hr80) rfl rfl) (wt_none' rfl) fun _ => ?_
    refine sx_rd' (rd_field' (off := 1) rfl Try.underlying35 rfl info22 rfl) rfl rfl (wt_none' rfl) ?_
    refine sx_rd' (rd_load' (i := 0) (o := 1) rfl ⟨rfl, rfl, rfl, rfl⟩ rfl flat22) rfl rfl (wt_none' rfl) ?_
    refine sx_rd' (rd_field' (off := 1) rfl Try.underlying35 rfl info22 rfl) rfl rfl (wt_none' rfl) ?_
    refine sx_rd' (rd_load' (i := 0) (o := 1) rfl ⟨rfl, rfl, rfl, rfl⟩ rfl flat22) rfl rfl (wt_none' rfl) ?_
    obtain ⟨r85, hr85, hp⟩ := bind_some hp
    refine sx_ox' (ox_fop' (.inr (.inr (.inl rfl))) (fl_f rfl) (fl_f rfl) (Option.some.inj hr85) rfl rfl) (wt_none' rfl) fun _ => ?_
    obtain ⟨r86, hr86, hp⟩ := bind_some hp
    refine sx_ox' (ox_fop' (.inl rfl) (fl_f rfl) (fl_f rfl) (Option.some.inj hr86) rfl rfl) (wt_none' rfl) fun _ => ?_
    refine sx_rd' (rd_field' (off := 2) rfl Try.underlying35 rfl info22 rfl) rfl rfl (wt_none' rfl) ?_
    refine sx_rd' (rd_load' (i := 0) (o := 2) rfl ⟨rfl, rfl, rfl, rfl⟩ rfl flat22) rfl rfl (wt_none' rfl) ?_
    refine sx_rd' (rd_field' (off := 2) rfl Try.underlying35 rfl info22 rfl) rfl rfl (wt_none' rfl) ?_
    refine sx_rd' (rd_load' (i := 0) (o := 2) rfl ⟨rfl, rfl, rfl, rfl⟩ rfl flat22) rfl rfl (wt_none' rfl) ?_
    obtain ⟨r91, hr91, hp⟩ := bind_some hp
    refine sx_ox' (ox_fop' (.inr (.inr (.inl rfl))) (fl_f rfl) (fl_f rfl) (Option.some.inj hr91) rfl rfl) (wt_none' rfl) fun _ => ?_
    obtain ⟨r92, hr92, hp⟩ := bind_some hp
    refine sx_ox' (ox_fop' (.inl rfl) (fl_f rfl) (fl_f rfl) (Option.some.inj hr92) rfl rfl) (wt_none' rfl) fun _ => ?_
    obtain ⟨r93, hr93, hp⟩ := bind_some hp
    refine sx_ox' (ox_fop' (.inr (.inr (.inr rfl))) (fl_f rfl) (fl_v rfl) (Option.some.inj hr93) rfl rfl) (wt_none' rfl) fun _ => ?_
    refine sx_rd' (rd_assign' rfl) rfl rfl (wt_none' rfl) ?_
    refine sx_nil' ?_
    show TX E K4 _
    refine tx_k' hK4 ?_
    refine cx_retc' ?_
    replace hp := Option.some.inj hp
    subst hp
    refine tx_pick' (L' := [(6, (Fl r93))]) (H' := []) [] (sub_cons rfl sub_nil) (by decide) pick_nil ?_
    exact tx_ret1' Try.results13 rfl () (rv_tmp' rfl) (List.Sublist.refl _)
  intro hN11
  refine ax_node (f' := 1) #[true, true, true, true, true, true, true, true, true, true, true, true, true, true, true, true, true, true, true, true, true, true, true, true, true, true, true, true, true, true, true, true, true, true, true, false] (fun (v9 : Addr × Addr) => (⟨94, [], [(3, (Vl (.pointer (some q3)))), (5, (Vl (.pointer (some q5)))), (7, (Vl (.pointer (some v9.1)))), (8, (Vl (.pointer (some v9.2)))), (41, (Ag [(Vl (.float .f64 r30)), (Vl (.float .f64 r35)), (Vl (.float .f64 r40))]))], [⟨.pointer (some q3), [(Vl (.float .f64 a0_0)), (Vl (.float .f64 a0_1)), (Vl (.float .f64 a0_2))], 35, none⟩, ⟨.pointer (some q5), [(Vl (.float .f64 a2_0)), (Vl (.float .f64 a2_1)), (Vl (.float .f64 a2_2))], 35, none⟩, ⟨.pointer (some v9.1), [(Vl (.float .f64 r14)), (Vl (.float .f64 r19)), (Vl (.float .f64 r24))], 35, none⟩, ⟨.pointer (some v9.2), [(Vl (.float .f64 0)), (Vl (.float .f64 0)), (Vl (.float .f64 0))], 35, none⟩]⟩ : St)) ?_ ?_
  · rintro ⟨q9011, q9012⟩
    refine ax_all (i := 35) (is := []) (by kernel_rfl) (all_cons ?_ all_nil)
    · refine nx_oxv (last := #[true, true, true, true, true, true, true, true, true, true, true, true, true, true, true, true, true, true, true, true, true, true, true, true, true, true, true, true, true, true, true, true, true, true, true, true]) rfl (oxv_store (i := 3) (o := 0) rfl rfl (lv_ag _) ⟨rfl, rfl, rfl, rfl⟩ rfl info35 rfl (H' := [⟨.pointer (some q3), [(Vl (.float .f64 a0_0)), (Vl (.float .f64 a0_1)), (Vl (.float .f64 a0_2))], 35, none⟩, ⟨.pointer (some q5), [(Vl (.float .f64 a2_0)), (Vl (.float .f64 a2_1)), (Vl (.float .f64 a2_2))], 35, none⟩, ⟨.pointer (some q9011), [(Vl (.float .f64 r14)), (Vl (.float .f64 r19)), (Vl (.float .f64 r24))], 35, none⟩, ⟨.pointer (some q9012), [(Vl (.float .f64 r30)), (Vl (.float .f64 r35)), (Vl (.float .f64 r40))], 35, none⟩]) rfl) rfl rfl (bo_cons (m := 1) (by decide) rfl rfl (bo_cons (m := 0) (by decide) rfl rfl bo_nil)) (wt_none' rfl) rfl fun _ => ?_
      exact tx_pick' [0, 1, 2, 3] (sub_cons rfl (sub_cons rfl (sub_cons rfl (sub_cons rfl sub_nil)))) (by decide) (pick_cons rfl (pick_cons rfl (pick_cons rfl (pick_cons rfl pick_nil)))) (hN11 (q9011, q9012))
  intro hN10
  refine ax_node (f' := 2) #[true, true, true, true, true, true, true, true, true, true, true, true, true, true, true, true, true, true, true, true, true, true, true, true, true, true, true, true, true, true, true, true, true, true, false, false] (fun (v7 : Addr × Addr) => (⟨94, [], [(3, (Vl (.pointer (some q3)))), (5, (Vl (.pointer (some q5)))), (7, (Vl (.pointer (some v7.1)))), (8, (Vl (.pointer (some v7.2)))), (25, (Ag [(Vl (.float .f64 r14)), (Vl (.float .f64 r19)), (Vl (.float .f64 r24))])), (41, (Ag [(Vl (.float .f64 r30)), (Vl (.float .f64 r35)), (Vl (.float .f64 r40))]))], [⟨.pointer (some q3), [(Vl (.float .f64 a0_0)), (Vl (.float .f64 a0_1)), (Vl (.float .f64 a0_2))], 35, none⟩, ⟨.pointer (some q5), [(Vl (.float .f64 a2_0)), (Vl (.float .f64 a2_1)), (Vl (.float .f64 a2_2))], 35, none⟩, ⟨.pointer (some v7.1), [(Vl (.float .f64 0)), (Vl (.float .f64 0)), (Vl (.float .f64 0))], 35, none⟩, ⟨.pointer (some v7.2), [(Vl (.float .f64 0)), (Vl (.float .f64 0)), (Vl (.float .f64 0))], 35, none⟩]⟩ : St)) ?_ ?_
  · rintro ⟨q907, q908⟩
    refine ax_all (i := 34) (is := []) (by kernel_rfl) (all_cons ?_ all_nil)
    · refine nx_oxv (last := #[true, true, true, true, true, true, true, true, true, true, true, true, true, true, true, true, true, true, true, true, true, true, true, true, true, true, true, true, true, true, true, true, true, true, true, false]) rfl (oxv_store (i := 2) (o := 0) rfl rfl (lv_ag _) ⟨rfl, rfl, rfl, rfl⟩ rfl info35 rfl (H' := [⟨.pointer (some q3), [(Vl (.float .f64 a0_0)), (Vl (.float .f64 a0_1)), (Vl (.float .f64 a0_2))], 35, none⟩, ⟨.pointer (some q5), [(Vl (.float .f64 a2_0)), (Vl (.float .f64 a2_1)), (Vl (.float .f64 a2_2))], 35, none⟩, ⟨.pointer (some q907), [(Vl (.float .f64 r14)), (Vl (.float .f64 r19)), (Vl (.float .f64 r24))], 35, none⟩, ⟨.pointer (some q908), [(Vl (.float .f64 0)), (Vl (.float .f64 0)), (Vl (.float .f64 0))], 35, none⟩]) rfl) rfl rfl (bo_cons (m := 1) (by decide) rfl rfl (bo_cons (m := 0) (by decide) rfl rfl bo_nil)) (wt_none' rfl) rfl fun _ => ?_
      exact tx_pick' [0, 1, 2, 3] (sub_cons rfl (sub_cons rfl (sub_cons rfl (sub_cons rfl (sub_cons rfl sub_nil))))) (by decide) (pick_cons rfl (pick_cons rfl (pick_cons rfl (pick_cons rfl pick_nil)))) (hN10 (q907, q908))
  intro hN8
  refine ax_node (f' := 2) #[true, true, true, true, true, true, true, true, true, true, true, true, true, true, true, true, true, true, true, true, true, true, true, true, true, true, true, true, true, true, true, false, true, true, true, false] (fun (v8 : Addr × Addr) => (⟨94, [], [(3, (Vl (.pointer (some q3)))), (5, (Vl (.pointer (some q5)))), (7, (Vl (.pointer (some v8.1)))), (8, (Vl (.pointer (some v8.2)))), (30, (Vl (.float .f64 r30))), (35, (Vl (.float .f64 r35))), (40, (Vl (.float .f64 r40)))], [⟨.pointer (some q3), [(Vl (.float .f64 a0_0)), (Vl (.float .f64 a0_1)), (Vl (.float .f64 a0_2))], 35, none⟩, ⟨.pointer (some q5), [(Vl (.float .f64 a2_0)), (Vl (.float .f64 a2_1)), (Vl (.float .f64 a2_2))], 35, none⟩, ⟨.pointer (some v8.1), [(Vl (.float .f64 r14)), (Vl (.float .f64 r19)), (Vl (.float .f64 r24))], 35, none⟩, ⟨.pointer (some v8.2), [(Vl (.float .f64 0)), (Vl (.float .f64 0)), (Vl (.float .f64 0))], 35, none⟩]⟩ : St)) ?_ ?_
  · rintro ⟨q909, q9010⟩
    refine ax_rd (ix := 31) (last := #[true, true, true, true, true, true, true, true, true, true, true, true, true, true, true, true, true, true, true, true, true, true, true, true, true, true, true, true, true, true, true, true, true, true, true, false]) (by kernel_rfl) rfl (rd_build' (pls := [(0, 1), (1, 1), (2, 1)]) (qs := [(0, [(Vl (.float .f64 r30))]), (1, [(Vl (.float .f64 r35))]), (2, [(Vl (.float .f64 r40))])]) (r := [(Vl (.float .f64 r30)), (Vl (.float .f64 r35)), (Vl (.float .f64 r40))]) ⟨rfl, ⟨_, rfl, (lv_vl rfl rfl)⟩, ⟨rfl, ⟨_, rfl, (lv_vl rfl rfl)⟩, ⟨rfl, ⟨_, rfl, (lv_vl rfl rfl)⟩, trivial⟩⟩⟩ Try.underlying35 has35 places35 info35 rfl rfl rfl) rfl rfl (wt_none' rfl) rfl ?_
    exact tx_pick' [0, 1, 2, 3] (sub_cons rfl (sub_cons rfl (sub_cons rfl (sub_cons rfl (sub_cons rfl sub_nil))))) (by decide) (pick_cons rfl (pick_cons rfl (pick_cons rfl (pick_cons rfl pick_nil)))) (hN10 (q909, q9010))
  intro hN9
  refine ax_node (f' := 3) #[true, true, true, true, true, true, true, true, true, true, true, true, true, true, true, true, true, true, true, true, true, true, true, true, true, true, true, true, true, true, true, true, true, false, false, false] (fun (v4 : Addr) => (⟨94, [], [(3, (Vl (.pointer (some q3)))), (5, (Vl (.pointer (some q5)))), (7, (Vl (.pointer (some v4)))), (25, (Ag [(Vl (.float .f64 r14)), (Vl (.float .f64 r19)), (Vl (.float .f64 r24))])), (41, (Ag [(Vl (.float .f64 r30)), (Vl (.float .f64 r35)), (Vl (.float .f64 r40))]))], [⟨.pointer (some q3), [(Vl (.float .f64 a0_0)), (Vl (.float .f64 a0_1)), (Vl (.float .f64 a0_2))], 35, none⟩, ⟨.pointer (some q5), [(Vl (.float .f64 a2_0)), (Vl (.float .f64 a2_1)), (Vl (.float .f64 a2_2))], 35, none⟩, ⟨.pointer (some v4), [(Vl (.float .f64 0)), (Vl (.float .f64 0)), (Vl (.float .f64 0))], 35, none⟩]⟩ : St)) ?_ ?_
  · rintro q903
    refine ax_all (i := 33) (is := []) (by kernel_rfl) (all_cons ?_ all_nil)
    · refine nx_ox (last := #[true, true, true, true, true, true, true, true, true, true, true, true, true, true, true, true, true, true, true, true, true, true, true, true, true, true, true, true, true, true, true, true, true, true, false, false]) rfl (ox_alloc' info35 rfl rfl rfl rfl (l := [(Vl (.float .f64 0)), (Vl (.float .f64 0)), (Vl (.float .f64 0))]) rfl) rfl (bs_cons (m := 1) rfl rfl rfl (bs_cons (m := 0) rfl rfl rfl bs_nil)) (wt_none' rfl) rfl fun q8 => ?_
      exact tx_pick' [1, 2, 3, 0] (sub_cons rfl (sub_cons rfl (sub_cons rfl (sub_cons rfl (sub_cons rfl (sub_cons rfl sub_nil)))))) (by decide) (pick_cons rfl (pick_cons rfl (pick_cons rfl (pick_cons rfl pick_nil)))) (hN8 (q903, q8))
  intro hN5
  refine ax_node (f' := 3) #[true, true, true, true, true, true, true, true, true, true, true, true, true, true, true, true, true, true, true, true, true, true, true, true, true, true, true, true, true, true, true, true, false, true, false, false] (fun (v5 : Addr) => (⟨94, [], [(3, (Vl (.pointer (some q3)))), (5, (Vl (.pointer (some q5)))), (8, (Vl (.pointer (some v5)))), (25, (Ag [(Vl (.float .f64 r14)), (Vl (.float .f64 r19)), (Vl (.float .f64 r24))])), (41, (Ag [(Vl (.float .f64 r30)), (Vl (.float .f64 r35)), (Vl (.float .f64 r40))]))], [⟨.pointer (some q3), [(Vl (.float .f64 a0_0)), (Vl (.float .f64 a0_1)), (Vl (.float .f64 a0_2))], 35, none⟩, ⟨.pointer (some q5), [(Vl (.float .f64 a2_0)), (Vl (.float .f64 a2_1)), (Vl (.float .f64 a2_2))], 35, none⟩, ⟨.pointer (some v5), [(Vl (.float .f64 0)), (Vl (.float .f64 0)), (Vl (.float .f64 0))], 35, none⟩]⟩ : St)) ?_ ?_
  · rintro q904
    refine ax_all (i := 32) (is := []) (by kernel_rfl) (all_cons ?_ all_nil)
    · refine nx_ox (last := #[true, true, true, true, true, true, true, true, true, true, true, true, true, true, true, true, true, true, true, true, true, true, true, true, true, true, true, true, true, true, true, true, true, true, false, false]) rfl (ox_alloc' info35 rfl rfl rfl rfl (l := [(Vl (.float .f64 0)), (Vl (.float .f64 0)), (Vl (.float .f64 0))]) rfl) rfl (bs_cons (m := 1) rfl rfl rfl (bs_cons (m := 0) rfl rfl rfl bs_nil)) (wt_none' rfl) rfl fun q7 => ?_
      exact tx_pick' [1, 2, 0, 3] (sub_cons rfl (sub_cons rfl (sub_cons rfl (sub_cons rfl (sub_cons rfl (sub_cons rfl sub_nil)))))) (by decide) (pick_cons rfl (pick_cons rfl (pick_cons rfl (pick_cons rfl pick_nil)))) (hN8 (q7, q904))
  intro hN6
  refine ax_node (f' := 3) #[true, true, true, true, true, true, true, true, true, true, true, true, true, true, true, true, true, true, true, true, true, true, true, true, true, true, true, true, true, true, true, false, true, true, false, false] (fun (v6 : Addr × Addr) => (⟨94, [], [(3, (Vl (.pointer (some q3)))), (5, (Vl (.pointer (some q5)))), (7, (Vl (.pointer (some v6.1)))), (8, (Vl (.pointer (some v6.2)))), (25, (Ag [(Vl (.float .f64 r14)), (Vl (.float .f64 r19)), (Vl (.float .f64 r24))])), (30, (Vl (.float .f64 r30))), (35, (Vl (.float .f64 r35))), (40, (Vl (.float .f64 r40)))], [⟨.pointer (some q3), [(Vl (.float .f64 a0_0)), (Vl (.float .f64 a0_1)), (Vl (.float .f64 a0_2))], 35, none⟩, ⟨.pointer (some q5), [(Vl (.float .f64 a2_0)), (Vl (.float .f64 a2_1)), (Vl (.float .f64 a2_2))], 35, none⟩, ⟨.pointer (some v6.1), [(Vl (.float .f64 0)), (Vl (.float .f64 0)), (Vl (.float .f64 0))], 35, none⟩, ⟨.pointer (some v6.2), [(Vl (.float .f64 0)), (Vl (.float .f64 0)), (Vl (.float .f64 0))], 35, none⟩]⟩ : St)) ?_ ?_
  · rintro ⟨q905, q906⟩
    refine ax_all (i := 31) (is := [34]) (by kernel_rfl) (all_cons ?_ (all_cons ?_ all_nil))
    · refine nx_rd (last := #[true, true, true, true, true, true, true, true, true, true, true, true, true, true, true, true, true, true, true, true, true, true, true, true, true, true, true, true, true, true, true, true, true, true, false, false]) rfl (rd_build' (pls := [(0, 1), (1, 1), (2, 1)]) (qs := [(0, [(Vl (.float .f64 r30))]), (1, [(Vl (.float .f64 r35))]), (2, [(Vl (.float .f64 r40))])]) (r := [(Vl (.float .f64 r30)), (Vl (.float .f64 r35)), (Vl (.float .f64 r40))]) ⟨rfl, ⟨_, rfl, (lv_vl rfl rfl)⟩, ⟨rfl, ⟨_, rfl, (lv_vl rfl rfl)⟩, ⟨rfl, ⟨_, rfl, (lv_vl rfl rfl)⟩, trivial⟩⟩⟩ Try.underlying35 has35 places35 info35 rfl rfl rfl) rfl rfl (wt_none' rfl) rfl ?_
      exact tx_pick' [0, 1, 2, 3] (sub_cons rfl (sub_cons rfl (sub_cons rfl (sub_cons rfl (sub_cons rfl (sub_cons rfl sub_nil)))))) (by decide) (pick_cons rfl (pick_cons rfl (pick_cons rfl (pick_cons rfl pick_nil)))) (hN8 (q905, q906))
    · refine nx_oxv (last := #[true, true, true, true, true, true, true, true, true, true, true, true, true, true, true, true, true, true, true, true, true, true, true, true, true, true, true, true, true, true, true, false, true, true, true, false]) rfl (oxv_store (i := 2) (o := 0) rfl rfl (lv_ag _) ⟨rfl, rfl, rfl, rfl⟩ rfl info35 rfl (H' := [⟨.pointer (some q3), [(Vl (.float .f64 a0_0)), (Vl (.float .f64 a0_1)), (Vl (.float .f64 a0_2))], 35, none⟩, ⟨.pointer (some q5), [(Vl (.float .f64 a2_0)), (Vl (.float .f64 a2_1)), (Vl (.float .f64 a2_2))], 35, none⟩, ⟨.pointer (some q905), [(Vl (.float .f64 r14)), (Vl (.float .f64 r19)), (Vl (.float .f64 r24))], 35, none⟩, ⟨.pointer (some q906), [(Vl (.float .f64 0)), (Vl (.float .f64 0)), (Vl (.float .f64 0))], 35, none⟩]) rfl) rfl rfl (bo_cons (m := 1) (by decide) rfl rfl (bo_cons (m := 0) (by decide) rfl rfl bo_nil)) (wt_none' rfl) rfl fun _ => ?_
      exact tx_pick' [0, 1, 2, 3] (sub_cons rfl (sub_cons rfl (sub_cons rfl (sub_cons rfl (sub_cons rfl (sub_cons rfl (sub_cons rfl sub_nil))))))) (by decide) (pick_cons rfl (pick_cons rfl (pick_cons rfl (pick_cons rfl pick_nil)))) (hN9 (q905, q906))
  intro hN7
  refine ax_node (f' := 4) #[true, true, true, true, true, true, true, true, true, true, true, true, true, true, true, true, true, true, true, true, true, true, true, true, true, true, true, true, true, true, true, true, false, false, false, false] (fun (v1 : Unit) => (⟨94, [], [(3, (Vl (.pointer (some q3)))), (5, (Vl (.pointer (some q5)))), (25, (Ag [(Vl (.float .f64 r14)), (Vl (.float .f64 r19)), (Vl (.float .f64 r24))])), (41, (Ag [(Vl (.float .f64 r30)), (Vl (.float .f64 r35)), (Vl (.float .f64 r40))]))], [⟨.pointer (some q3), [(Vl (.float .f64 a0_0)), (Vl (.float .f64 a0_1)), (Vl (.float .f64 a0_2))], 35, none⟩, ⟨.pointer (some q5), [(Vl (.float .f64 a2_0)), (Vl (.float .f64 a2_1)), (Vl (.float .f64 a2_2))], 35, none⟩]⟩ : St)) ?_ ?_
  · rintro ⟨⟩
    refine ax_all (i := 32) (is := [33]) (by kernel_rfl) (all_cons ?_ (all_cons ?_ all_nil))
    · refine nx_ox (last := #[true, true, true, true, true, true, true, true, true, true, true, true, true, true, true, true, true, true, true, true, true, true, true, true, true, true, true, true, true, true, true, true, true, false, false, false]) rfl (ox_alloc' info35 rfl rfl rfl rfl (l := [(Vl (.float .f64 0)), (Vl (.float .f64 0)), (Vl (.float .f64 0))]) rfl) rfl (bs_cons (m := 1) rfl rfl rfl (bs_cons (m := 0) rfl rfl rfl bs_nil)) (wt_none' rfl) rfl fun q7 => ?_
      exact tx_pick' [1, 2, 0] (sub_cons rfl (sub_cons rfl (sub_cons rfl (sub_cons rfl (sub_cons rfl sub_nil))))) (by decide) (pick_cons rfl (pick_cons rfl (pick_cons rfl pick_nil))) (hN5 q7)
    · refine nx_ox (last := #[true, true, true, true, true, true, true, true, true, true, true, true, true, true, true, true, true, true, true, true, true, true, true, true, true, true, true, true, true, true, true, true, false, true, false, false]) rfl (ox_alloc' info35 rfl rfl rfl rfl (l := [(Vl (.float .f64 0)), (Vl (.float .f64 0)), (Vl (.float .f64 0))]) rfl) rfl (bs_cons (m := 1) rfl rfl rfl (bs_cons (m := 0) rfl rfl rfl bs_nil)) (wt_none' rfl) rfl fun q8 => ?_
      exact tx_pick' [1, 2, 0] (sub_cons rfl (sub_cons rfl (sub_cons rfl (sub_cons rfl (sub_cons rfl sub_nil))))) (by decide) (pick_cons rfl (pick_cons rfl (pick_cons rfl pick_nil))) (hN6 q8)
  intro hN2
  refine ax_node (f' := 4) #[true, true, true, true, true, true, true, true, true, true, true, true, true, true, true, true, true, true, true, true, true, true, true, true, true, true, true, true, true, true, true, false, true, false, false, false] (fun (v2 : Addr) => (⟨94, [], [(3, (Vl (.pointer (some q3)))), (5, (Vl (.pointer (some q5)))), (7, (Vl (.pointer (some v2)))), (25, (Ag [(Vl (.float .f64 r14)), (Vl (.float .f64 r19)), (Vl (.float .f64 r24))])), (30, (Vl (.float .f64 r30))), (35, (Vl (.float .f64 r35))), (40, (Vl (.float .f64 r40)))], [⟨.pointer (some q3), [(Vl (.float .f64 a0_0)), (Vl (.float .f64 a0_1)), (Vl (.float .f64 a0_2))], 35, none⟩, ⟨.pointer (some q5), [(Vl (.float .f64 a2_0)), (Vl (.float .f64 a2_1)), (Vl (.float .f64 a2_2))], 35, none⟩, ⟨.pointer (some v2), [(Vl (.float .f64 0)), (Vl (.float .f64 0)), (Vl (.float .f64 0))], 35, none⟩]⟩ : St)) ?_ ?_
  · rintro q901
    refine ax_all (i := 31) (is := [33]) (by kernel_rfl) (all_cons ?_ (all_cons ?_ all_nil))
    · refine nx_rd (last := #[true, true, true, true, true, true, true, true, true, true, true, true, true, true, true, true, true, true, true, true, true, true, true, true, true, true, true, true, true, true, true, true, true, false, false, false]) rfl (rd_build' (pls := [(0, 1), (1, 1), (2, 1)]) (qs := [(0, [(Vl (.float .f64 r30))]), (1, [(Vl (.float .f64 r35))]), (2, [(Vl (.float .f64 r40))])]) (r := [(Vl (.float .f64 r30)), (Vl (.float .f64 r35)), (Vl (.float .f64 r40))]) ⟨rfl, ⟨_, rfl, (lv_vl rfl rfl)⟩, ⟨rfl, ⟨_, rfl, (lv_vl rfl rfl)⟩, ⟨rfl, ⟨_, rfl, (lv_vl rfl rfl)⟩, trivial⟩⟩⟩ Try.underlying35 has35 places35 info35 rfl rfl rfl) rfl rfl (wt_none' rfl) rfl ?_
      exact tx_pick' [0, 1, 2] (sub_cons rfl (sub_cons rfl (sub_cons rfl (sub_cons rfl (sub_cons rfl sub_nil))))) (by decide) (pick_cons rfl (pick_cons rfl (pick_cons rfl pick_nil))) (hN5 q901)
    · refine nx_ox (last := #[true, true, true, true, true, true, true, true, true, true, true, true, true, true, true, true, true, true, true, true, true, true, true, true, true, true, true, true, true, true, true, false, true, true, false, false]) rfl (ox_alloc' info35 rfl rfl rfl rfl (l := [(Vl (.float .f64 0)), (Vl (.float .f64 0)), (Vl (.float .f64 0))]) rfl) rfl (bs_cons (m := 1) rfl rfl rfl (bs_cons (m := 0) rfl rfl rfl bs_nil)) (wt_none' rfl) rfl fun q8 => ?_
      exact tx_pick' [1, 2, 3, 0] (sub_cons rfl (sub_cons rfl (sub_cons rfl (sub_cons rfl (sub_cons rfl (sub_cons rfl (sub_cons rfl (sub_cons rfl sub_nil)))))))) (by decide) (pick_cons rfl (pick_cons rfl (pick_cons rfl (pick_cons rfl pick_nil)))) (hN7 (q901, q8))
  intro hN3
  refine ax_node (f' := 4) #[true, true, true, true, true, true, true, true, true, true, true, true, true, true, true, true, true, true, true, true, true, true, true, true, true, true, true, true, true, true, true, false, false, true, false, false] (fun (v3 : Addr) => (⟨94, [], [(3, (Vl (.pointer (some q3)))), (5, (Vl (.pointer (some q5)))), (8, (Vl (.pointer (some v3)))), (25, (Ag [(Vl (.float .f64 r14)), (Vl (.float .f64 r19)), (Vl (.float .f64 r24))])), (30, (Vl (.float .f64 r30))), (35, (Vl (.float .f64 r35))), (40, (Vl (.float .f64 r40)))], [⟨.pointer (some q3), [(Vl (.float .f64 a0_0)), (Vl (.float .f64 a0_1)), (Vl (.float .f64 a0_2))], 35, none⟩, ⟨.pointer (some q5), [(Vl (.float .f64 a2_0)), (Vl (.float .f64 a2_1)), (Vl (.float .f64 a2_2))], 35, none⟩, ⟨.pointer (some v3), [(Vl (.float .f64 0)), (Vl (.float .f64 0)), (Vl (.float .f64 0))], 35, none⟩]⟩ : St)) ?_ ?_
  · rintro q902
    refine ax_all (i := 31) (is := [32]) (by kernel_rfl) (all_cons ?_ (all_cons ?_ all_nil))
    · refine nx_rd (last := #[true, true, true, true, true, true, true, true, true, true, true, true, true, true, true, true, true, true, true, true, true, true, true, true, true, true, true, true, true, true, true, true, false, true, false, false]) rfl (rd_build' (pls := [(0, 1), (1, 1), (2, 1)]) (qs := [(0, [(Vl (.float .f64 r30))]), (1, [(Vl (.float .f64 r35))]), (2, [(Vl (.float .f64 r40))])]) (r := [(Vl (.float .f64 r30)), (Vl (.float .f64 r35)), (Vl (.float .f64 r40))]) ⟨rfl, ⟨_, rfl, (lv_vl rfl rfl)⟩, ⟨rfl, ⟨_, rfl, (lv_vl rfl rfl)⟩, ⟨rfl, ⟨_, rfl, (lv_vl rfl rfl)⟩, trivial⟩⟩⟩ Try.underlying35 has35 places35 info35 rfl rfl rfl) rfl rfl (wt_none' rfl) rfl ?_
      exact tx_pick' [0, 1, 2] (sub_cons rfl (sub_cons rfl (sub_cons rfl (sub_cons rfl (sub_cons rfl sub_nil))))) (by decide) (pick_cons rfl (pick_cons rfl (pick_cons rfl pick_nil))) (hN6 q902)
    · refine nx_ox (last := #[true, true, true, true, true, true, true, true, true, true, true, true, true, true, true, true, true, true, true, true, true, true, true, true, true, true, true, true, true, true, true, false, true, true, false, false]) rfl (ox_alloc' info35 rfl rfl rfl rfl (l := [(Vl (.float .f64 0)), (Vl (.float .f64 0)), (Vl (.float .f64 0))]) rfl) rfl (bs_cons (m := 1) rfl rfl rfl (bs_cons (m := 0) rfl rfl rfl bs_nil)) (wt_none' rfl) rfl fun q7 => ?_
      exact tx_pick' [1, 2, 0, 3] (sub_cons rfl (sub_cons rfl (sub_cons rfl (sub_cons rfl (sub_cons rfl (sub_cons rfl (sub_cons rfl (sub_cons rfl sub_nil)))))))) (by decide) (pick_cons rfl (pick_cons rfl (pick_cons rfl (pick_cons rfl pick_nil)))) (hN7 (q7, q902))
  intro hN4
  refine ax_all (i := 31) (is := [32, 33]) (by kernel_rfl) (all_cons ?_ (all_cons ?_ (all_cons ?_ all_nil)))
  · refine nx_rd (last := #[true, true, true, true, true, true, true, true, true, true, true, true, true, true, true, true, true, true, true, true, true, true, true, true, true, true, true, true, true, true, true, true, false, false, false, false]) rfl (rd_build' (pls := [(0, 1), (1, 1), (2, 1)]) (qs := [(0, [(Vl (.float .f64 r30))]), (1, [(Vl (.float .f64 r35))]), (2, [(Vl (.float .f64 r40))])]) (r := [(Vl (.float .f64 r30)), (Vl (.float .f64 r35)), (Vl (.float .f64 r40))]) ⟨rfl, ⟨_, rfl, (lv_vl rfl rfl)⟩, ⟨rfl, ⟨_, rfl, (lv_vl rfl rfl)⟩, ⟨rfl, ⟨_, rfl, (lv_vl rfl rfl)⟩, trivial⟩⟩⟩ Try.underlying35 has35 places35 info35 rfl rfl rfl) rfl rfl (wt_none' rfl) rfl ?_
    exact tx_pick' [2, 0] (sub_cons rfl (sub_cons rfl (sub_cons rfl (sub_cons rfl sub_nil)))) (by decide) (pick_cons rfl (pick_cons rfl pick_nil)) (hN2 ())
  · refine nx_ox (last := #[true, true, true, true, true, true, true, true, true, true, true, true, true, true, true, true, true, true, true, true, true, true, true, true, true, true, true, true, true, true, true, false, true, false, false, false]) rfl (ox_alloc' info35 rfl rfl rfl rfl (l := [(Vl (.float .f64 0)), (Vl (.float .f64 0)), (Vl (.float .f64 0))]) rfl) rfl (bs_cons (m := 0) rfl rfl rfl (bs_cons (m := 2) rfl rfl rfl bs_nil)) (wt_none' rfl) rfl fun q7 => ?_
    exact tx_pick' [3, 1, 0] (sub_cons rfl (sub_cons rfl (sub_cons rfl (sub_cons rfl (sub_cons rfl (sub_cons rfl (sub_cons rfl sub_nil))))))) (by decide) (pick_cons rfl (pick_cons rfl (pick_cons rfl pick_nil))) (hN3 q7)
  · refine nx_ox (last := #[true, true, true, true, true, true, true, true, true, true, true, true, true, true, true, true, true, true, true, true, true, true, true, true, true, true, true, true, true, true, true, false, false, true, false, false]) rfl (ox_alloc' info35 rfl rfl rfl rfl (l := [(Vl (.float .f64 0)), (Vl (.float .f64 0)), (Vl (.float .f64 0))]) rfl) rfl (bs_cons (m := 0) rfl rfl rfl (bs_cons (m := 2) rfl rfl rfl bs_nil)) (wt_none' rfl) rfl fun q8 => ?_
    exact tx_pick' [3, 1, 0] (sub_cons rfl (sub_cons rfl (sub_cons rfl (sub_cons rfl (sub_cons rfl (sub_cons rfl (sub_cons rfl sub_nil))))))) (by decide) (pick_cons rfl (pick_cons rfl (pick_cons rfl pick_nil))) (hN4 q8)

def spec_SquareN_l1s (a0 : List Nat) (a1 : List Nat) (k : Nat) (rec1 : (Nat × Int) → Option (Nat)) (x1 : Nat) (x2 : Int) : Option (Nat) :=
  br (decide (x2 < (a0.length : Int)))
    ((idx a0 x2) >>= fun r13 =>
    (idx a1 x2) >>= fun r19 =>
    (fsub r13 r19) >>= fun r21 =>
    (idx a1 x2) >>= fun r25 =>
    (fsub r13 r25) >>= fun r27 =>
    (fmul r21 r27) >>= fun r28 =>
    (fadd x1 r28) >>= fun r29 =>
    rec1 (r29, (iadd .i64 x2 1)))
    (some x1)
def spec_SquareN_l1 (a0 : List Nat) (a1 : List Nat) : Nat → (Nat × Int) → Option (Nat)
  | 0, _ => none
  | k + 1, v => spec_SquareN_l1s a0 a1 k (spec_SquareN_l1 a0 a1 k) v.1 v.2
def spec_SquareN (k : Nat) (a0 : List Nat) (a1 : List Nat) : Option (Nat) :=
  (spec_SquareN_l1 a0 a1 k (0, 0)) >>= fun v2 =>
  some v2

theorem spec_SquareN_sim {k : Nat}  (a0 : List Nat) (a1 : List Nat) {out : Nat} (hp : spec_SquareN k a0 a1 = some out) : Go.Sx.Fn Try.prog 8 [(Sl Kf a0), (Sl Kf a1)] [] (fun w : Unit => (Vl (.float .f64 out))) (fun w => []) := by
  unfold spec_SquareN at hp
  refine fn_of Try.func8 rfl Try.ntmps8 rfl fun E hM => ?_
  refine cx_seq' fun K1 hK1 => ?_
  refine cx_region' ?_
  refine sx_rd' (rd_assign' rfl) rfl rfl (wt_none' rfl) ?_
  refine sx_nil' ?_
  show TX E K1 _
  refine tx_k' hK1 ?_
  refine cx_seq' fun K2 hK2 => ?_
  refine cx_region' ?_
  refine sx_rd' (rd_assign' rfl) rfl rfl (wt_none' rfl) ?_
  refine sx_nil' ?_
  show TX E K2 _
  refine tx_k' hK2 ?_
  refine cx_seq' fun K3 hK3 => ?_
  refine cx_seq' fun K4 hK4 => ?_
  refine cx_region' ?_
  refine sx_rd' (rd_move' rfl) rfl rfl (wt_none' rfl) ?_
  refine sx_rd' (rd_len' rfl Try.underlying25) rfl rfl (wt_none' rfl) ?_
  refine sx_rd' (rd_move' rfl) rfl rfl (wt_none' rfl) ?_
  refine sx_nil' ?_
  show TX E K4 _
  refine tx_k' hK4 ?_
  refine cx_block' ?_
  obtain ⟨v2, hy1, hp⟩ := bind_some hp
  refine cx_loopg' (F := spec_SquareN_l1 a0 a1) (G := fun k R v => spec_SquareN_l1s a0 a1 k R v.1 v.2) (x := (0, 0)) (gh := ()) (fun (v1 : Nat × Int) (w1 : Unit) => (⟨32, [], [(1, (Sl Kf a1)), (5, (Vl (.float .f64 v1.1))), (8, (Sl Kf a0)), (9, (Vl (.int .i64 (a0.length : Int)))), (10, (Vl (.int .i64 v1.2)))], []⟩ : St)) (fun (v2 : Nat) => Zg E (Exit.exit 0) (fun (w2 : Unit) => (⟨32, [], [(5, (Vl (.float .f64 v2)))], []⟩ : St))) (fun _ => rfl) (fun _ _ => rfl) ?_ hy1 (tx_to' rfl [] (sub_cons rfl (sub_cons rfl (sub_cons rfl (sub_cons rfl (sub_cons rfl sub_nil))))) (by decide) pick_nil) ?_
  · clear hp hy1
    clear v2
    intro k rec1 KY1 ih1
    rintro ⟨x1, x2⟩ ⟨⟩ y1 hp
    replace hp : spec_SquareN_l1s a0 a1 k rec1 x1 x2 = some y1 := hp
    unfold spec_SquareN_l1s at hp
    refine cx_seq' fun K9 hK9 => ?_
    refine cx_region' ?_
    refine sx_rd' (rd_bin' rfl rfl eg_int ru_lss) rfl rfl (wt_none' rfl) ?_
    refine sx_nil' ?_
    show TX E K9 _
    refine tx_k' hK9 ?_
    refine cx_seq' fun K10 hK10 => ?_
    refine cx_cond' rfl (fun h3 => ?_) (fun h3 => ?_)
    · replace hp := (br_t h3).symm.trans hp
      refine cx_skip' ?_
      show TX E K10 _
      refine tx_k' hK10 ?_
      refine cx_seq' fun K11 hK11 => ?_
      refine cx_block' ?_
      refine cx_seq' fun K12 hK12 => ?_
      refine cx_region' ?_
      refine sx_rd' (rd_move' rfl) rfl rfl (wt_none' rfl) ?_
      obtain ⟨r13, hr13, hp⟩ := bind_some hp
      refine sx_rd' (rd_at' (K := Kf) rfl rfl hr13 Try.underlying25 info22) rfl rfl (wt_none' rfl) ?_
      refine sx_rd' (rd_load_pt' rfl rfl flat22) rfl rfl (wt_none' rfl) ?_
      refine sx_rd' (rd_assign' rfl) rfl rfl (wt_none' rfl) ?_
      refine sx_rd' (rd_assign' rfl) rfl rfl (wt_none' rfl) ?_
      refine sx_nil' ?_
      show TX E K12 _
      refine tx_k' hK12 ?_
      refine cx_draw' mixed (by kernel_rfl) ?_
      refine qx_rd' (rd_move' rfl) rfl rfl (wt_none' rfl) ?_
      refine qx_rd' (rd_move' rfl) rfl rfl (wt_none' rfl) ?_
      refine qx_rd' (rd_move' rfl) rfl rfl (wt_none' rfl) ?_
      refine qx_rd' (rd_move' rfl) rfl rfl (wt_none' rfl) ?_
      obtain ⟨r19, hr19, hp⟩ := bind_some hp
      refine qx_rd' (rd_at' (K := Kf) rfl rfl hr19 Try.underlying25 info22) rfl rfl (wt_none' rfl) ?_
      refine qx_rd' (rd_load_pt' rfl rfl flat22) rfl rfl (wt_none' rfl) ?_
      obtain ⟨r21, hr21, hp⟩ := bind_some hp
      refine qx_rd' (rd_bin' rfl rfl eg_flt (ru_fsub hr21)) rfl rfl (wt_none' rfl) ?_
      refine qx_rd' (rd_move' rfl) rfl rfl (wt_none' rfl) ?_
      refine qx_rd' (rd_move' rfl) rfl rfl (wt_none' rfl) ?_
      refine qx_rd' (rd_move' rfl) rfl rfl (wt_none' rfl) ?_
      obtain ⟨r25, hr25, hp⟩ := bind_some hp
      refine qx_rd' (rd_at' (K := Kf) rfl rfl hr25 Try.underlying25 info22) rfl rfl (wt_none' rfl) ?_
      refine qx_rd' (rd_load_pt' rfl rfl flat22) rfl rfl (wt_none' rfl) ?_
      obtain ⟨r27, hr27, hp⟩ := bind_some hp
      refine qx_rd' (rd_bin' rfl rfl eg_flt (ru_fsub hr27)) rfl rfl (wt_none' rfl) ?_
      obtain ⟨r28, hr28, hp⟩ := bind_some hp
      refine qx_rd' (rd_bin' rfl rfl eg_flt (ru_fmul hr28)) rfl rfl (wt_none' rfl) ?_
      obtain ⟨r29, hr29, hp⟩ := bind_some hp
      refine qx_rd' (rd_bin' rfl rfl eg_flt (ru_fadd hr29)) rfl rfl (wt_none' rfl) ?_
      refine qx_rd' (rd_assign' rfl) rfl rfl (wt_none' rfl) ?_
      refine qx_nil' ?_
      show TX E K11 _
      refine tx_k' hK11 ?_
      refine cx_region' ?_
      refine sx_rd' (rd_bin' rfl rfl eg_int ru_add) rfl rfl (wt_none' rfl) ?_
      refine sx_rd' (rd_move' rfl) rfl rfl (wt_none' rfl) ?_
      refine sx_nil' ?_
      show TX E (KY1 _) _
      exact tx_pick' [] (sub_cons rfl (sub_cons rfl (sub_cons rfl (sub_cons rfl (sub_cons rfl sub_nil))))) (by decide) pick_nil (ih1 (r29, (iadd .i64 x2 1)) () _ hp)
    · replace hp := (br_f h3).symm.trans hp
      refine cx_exit' ?_
      replace hp := Option.some.inj hp
      subst hp
      show TX E (Zg E (Exit.exit 0) _ (Exit.exit 0)) _
      exact tx_zend' () rfl [] (sub_cons rfl sub_nil) (by decide) pick_nil
  · refine zg_out fun w2 => ?_
    show TX E K3 _
    refine tx_k' hK3 ?_
    refine cx_seq' fun K13 hK13 => ?_
    refine cx_region' ?_
    refine sx_rd' (rd_move' rfl) rfl rfl (wt_none' rfl) ?_
    refine sx_rd' (rd_assign' rfl) rfl rfl (wt_none' rfl) ?_
    refine sx_nil' ?_
    show TX E K13 _
    refine tx_k' hK13 ?_
    refine cx_retc' ?_
    replace hp := Option.some.inj hp
    subst hp
    refine tx_pick' (L' := [(4, (Vl (.float .f64 v2)))]) (H' := []) [] (sub_cons rfl sub_nil) (by decide) pick_nil ?_
    exact tx_ret1' Try.results8 rfl () (rv_tmp' rfl) (List.Sublist.refl _)

def impl_vec3 (k : Nat) (a0_0 : Nat) (a0_1 : Nat) (a0_2 : Nat) : Option (Nat × Nat × Nat) :=
  some (a0_0, a0_1, a0_2)

theorem impl_vec3_sim {k : Nat}  (a0_0 : Nat) (a0_1 : Nat) (a0_2 : Nat) {out : Nat × Nat × Nat} (hp : impl_vec3 k a0_0 a0_1 a0_2 = some out) : Go.Sx.Fn Try.prog 23 [(Ag [(Vl (.float .f64 a0_0)), (Vl (.float .f64 a0_1)), (Vl (.float .f64 a0_2))])] [] (fun w : Unit => (Ag [(Vl (.float .f64 out.1)), (Vl (.float .f64 out.2.1)), (Vl (.float .f64 out.2.2))])) (fun w => []) := by
  unfold impl_vec3 at hp
  refine fn_of Try.func23 rfl Try.ntmps23 rfl fun E hM => ?_
  refine cx_seq' fun K1 hK1 => ?_
  refine cx_region' ?_
  refine sx_ox' (ox_box' rfl (lv_ag _) rfl rfl) (wt_none' rfl) fun q1 => ?_
  refine sx_ox' (ox_alloc' info50 rfl rfl rfl rfl (l := [(Vl (.float .f64 0)), (Vl (.float .f64 0)), (Vl (.float .f64 0))]) rfl) (wt_none' rfl) fun q2 => ?_
  refine sx_nil' ?_
  show TX E K1 _
  refine tx_k' hK1 ?_
  refine cx_seq' fun K2 hK2 => ?_
  refine cx_region' ?_
  refine sx_rd' (rd_field0' rfl Try.underlying35 rfl info22 rfl) rfl rfl (wt_none' rfl) ?_
  refine sx_rd' (rd_load' (i := 1) (o := 0) rfl ⟨rfl, rfl, rfl, rfl⟩ rfl flat22) rfl rfl (wt_none' rfl) ?_
  refine sx_rd' (rd_field' (off := 1) rfl Try.underlying35 rfl info22 rfl) rfl rfl (wt_none' rfl) ?_
  refine sx_rd' (rd_load' (i := 1) (o := 1) rfl ⟨rfl, rfl, rfl, rfl⟩ rfl flat22) rfl rfl (wt_none' rfl) ?_
  refine sx_rd' (rd_field' (off := 2) rfl Try.underlying35 rfl info22 rfl) rfl rfl (wt_none' rfl) ?_
  refine sx_rd' (rd_load' (i := 1) (o := 2) rfl ⟨rfl, rfl, rfl, rfl⟩ rfl flat22) rfl rfl (wt_none' rfl) ?_
  refine sx_rd' (rd_build' (pls := [(0, 1), (1, 1), (2, 1)]) (qs := [(0, [(Vl (.float .f64 a0_0))]), (1, [(Vl (.float .f64 a0_1))]), (2, [(Vl (.float .f64 a0_2))])]) (r := [(Vl (.float .f64 a0_0)), (Vl (.float .f64 a0_1)), (Vl (.float .f64 a0_2))]) ⟨rfl, ⟨_, rfl, (lv_vl rfl rfl)⟩, ⟨rfl, ⟨_, rfl, (lv_vl rfl rfl)⟩, ⟨rfl, ⟨_, rfl, (lv_vl rfl rfl)⟩, trivial⟩⟩⟩ Try.underlying50 has50 places50 info50 rfl rfl rfl) rfl rfl (wt_none' rfl) ?_
  refine sx_ox' (ox_store' (i := 0) (o := 0) rfl rfl (lv_ag _) ⟨rfl, rfl, rfl, rfl⟩ rfl info50 rfl (H' := [⟨.pointer (some q2), [(Vl (.float .f64 a0_0)), (Vl (.float .f64 a0_1)), (Vl (.float .f64 a0_2))], 50, none⟩, ⟨.pointer (some q1), [(Vl (.float .f64 a0_0)), (Vl (.float .f64 a0_1)), (Vl (.float .f64 a0_2))], 35, none⟩]) rfl) (wt_none' rfl) fun _ => ?_
  refine sx_nil' ?_
  show TX E K2 _
  refine tx_k' hK2 ?_
  refine cx_retc' ?_
  replace hp := Option.some.inj hp
  subst hp
  refine tx_pick' (L' := [(2, (Vl (.pointer (some q2))))]) (H' := [⟨.pointer (some q2), [(Vl (.float .f64 a0_0)), (Vl (.float .f64 a0_1)), (Vl (.float .f64 a0_2))], 50, none⟩]) [0] (sub_cons rfl sub_nil) (by decide) (pick_cons rfl pick_nil) ?_
  exact tx_ret1' Try.results23 rfl () (rv_cell_agg' (i := 0) (o := 0) (nn := 3) rfl ⟨rfl, rfl, rfl, rfl⟩ rfl agg50 rfl) (List.nil_sublist _)

def r3_Sub (k : Nat) (a0_0 : Nat) (a0_1 : Nat) (a0_2 : Nat) (a1_0 : Nat) (a1_1 : Nat) (a1_2 : Nat) : Option (Nat × Nat × Nat) :=
  (some (gsub a0_0 a1_0)) >>= fun r9 =>
  (some (gsub a0_1 a1_1)) >>= fun r14 =>
  (some (gsub a0_2 a1_2)) >>= fun r19 =>
  some (r9, r14, r19)

theorem r3_Sub_sim {k : Nat}  (a0_0 : Nat) (a0_1 : Nat) (a0_2 : Nat) (a1_0 : Nat) (a1_1 : Nat) (a1_2 : Nat) {out : Nat × Nat × Nat} (hp : r3_Sub k a0_0 a0_1 a0_2 a1_0 a1_1 a1_2 = some out) : Go.Sx.Fn Try.prog 44 [(Ag [(Vl (.float .f64 a0_0)), (Vl (.float .f64 a0_1)), (Vl (.float .f64 a0_2))]), (Ag [(Vl (.float .f64 a1_0)), (Vl (.float .f64 a1_1)), (Vl (.float .f64 a1_2))])] [] (fun w : Unit => (Ag [(Fl out.1), (Fl out.2.1), (Fl out.2.2)])) (fun w => []) := by
  unfold r3_Sub at hp
  refine fn_of Try.func44 rfl Try.ntmps44 rfl fun E hM => ?_
  refine cx_seq' fun K1 hK1 => ?_
  refine cx_region' ?_
  refine sx_ox' (ox_box' rfl (lv_ag _) rfl rfl) (wt_none' rfl) fun q2 => ?_
  refine sx_ox' (ox_box' rfl (lv_ag _) rfl rfl) (wt_none' rfl) fun q3 => ?_
  refine sx_ox' (ox_alloc' info50 rfl rfl rfl rfl (l := [(Vl (.float .f64 0)), (Vl (.float .f64 0)), (Vl (.float .f64 0))]) rfl) (wt_none' rfl) fun q4 => ?_
  refine sx_nil' ?_
  show TX E K1 _
  refine tx_k' hK1 ?_
  refine cx_seq' fun K2 hK2 => ?_
  refine cx_region' ?_
  refine sx_rd' (rd_field0' rfl Try.underlying50 rfl info22 rfl) rfl rfl (wt_none' rfl) ?_
  refine sx_rd' (rd_load' (i := 2) (o := 0) rfl ⟨rfl, rfl, rfl, rfl⟩ rfl flat22) rfl rfl (wt_none' rfl) ?_
  refine sx_rd' (rd_field0' rfl Try.underlying50 rfl info22 rfl) rfl rfl (wt_none' rfl) ?_
  refine sx_rd' (rd_load' (i := 1) (o := 0) rfl ⟨rfl, rfl, rfl, rfl⟩ rfl flat22) rfl rfl (wt_none' rfl) ?_
  obtain ⟨r9, hr9, hp⟩ := bind_some hp
  refine sx_ox' (ox_fop' (.inr (.inl rfl)) (fl_v rfl) (fl_v rfl) (Option.some.inj hr9) rfl rfl) (wt_none' rfl) fun _ => ?_
  refine sx_rd' (rd_field' (off := 1) rfl Try.underlying50 rfl info22 rfl) rfl rfl (wt_none' rfl) ?_
  refine sx_rd' (rd_load' (i := 2) (o := 1) rfl ⟨rfl, rfl, rfl, rfl⟩ rfl flat22) rfl rfl (wt_none' rfl) ?_
  refine sx_rd' (rd_field' (off := 1) rfl Try.underlying50 rfl info22 rfl) rfl rfl (wt_none' rfl) ?_
  refine sx_rd' (rd_load' (i := 1) (o := 1) rfl ⟨rfl, rfl, rfl, rfl⟩ rfl flat22) rfl rfl (wt_none' rfl) ?_
  obtain ⟨r14, hr14, hp⟩ := bind_some hp
  refine sx_ox' (ox_fop' (.inr (.inl rfl)) (fl_v rfl) (fl_v rfl) (Option.some.inj hr14) rfl rfl) (wt_none' rfl) fun _ => ?_
  refine sx_rd' (rd_field' (off := 2) rfl Try.underlying50 rfl info22 rfl) rfl rfl (wt_none' rfl) ?_
  refine sx_rd' (rd_load' (i := 2) (o := 2) rfl ⟨rfl, rfl, rfl, rfl⟩ rfl flat22) rfl rfl (wt_none' rfl) ?_
  refine sx_rd' (rd_field' (off := 2) rfl Try.underlying50 rfl info22 rfl) rfl rfl (wt_none' rfl) ?_
  refine sx_rd' (rd_load' (i := 1) (o := 2) rfl ⟨rfl, rfl, rfl, rfl⟩ rfl flat22) rfl rfl (wt_none' rfl) ?_
  obtain ⟨r19, hr19, hp⟩ := bind_some hp
  refine sx_ox' (ox_fop' (.inr (.inl rfl)) (fl_v rfl) (fl_v rfl) (Option.some.inj hr19) rfl rfl) (wt_none' rfl) fun _ => ?_
  refine sx_rd' (rd_build' (pls := [(0, 1), (1, 1), (2, 1)]) (qs := [(0, [(Fl r9)]), (1, [(Fl r14)]), (2, [(Fl r19)])]) (r := [(Fl r9), (Fl r14), (Fl r19)]) ⟨rfl, ⟨_, rfl, (lv_fl _)⟩, ⟨rfl, ⟨_, rfl, (lv_fl _)⟩, ⟨rfl, ⟨_, rfl, (lv_fl _)⟩, trivial⟩⟩⟩ Try.underlying50 has50 places50 info50 rfl rfl rfl) rfl rfl (wt_none' rfl) ?_
  refine sx_ox' (ox_store' (i := 0) (o := 0) rfl rfl (lv_ag _) ⟨rfl, rfl, rfl, rfl⟩ rfl info50 rfl (H' := [⟨.pointer (some q4), [(Fl r9), (Fl r14), (Fl r19)], 50, none⟩, ⟨.pointer (some q3), [(Vl (.float .f64 a1_0)), (Vl (.float .f64 a1_1)), (Vl (.float .f64 a1_2))], 50, none⟩, ⟨.pointer (some q2), [(Vl (.float .f64 a0_0)), (Vl (.float .f64 a0_1)), (Vl (.float .f64 a0_2))], 50, none⟩]) rfl) (wt_none' rfl) fun _ => ?_
  refine sx_nil' ?_
  show TX E K2 _
  refine tx_k' hK2 ?_
  refine cx_retc' ?_
  replace hp := Option.some.inj hp
  subst hp
  refine tx_pick' (L' := [(4, (Vl (.pointer (some q4))))]) (H' := [⟨.pointer (some q4), [(Fl r9), (Fl r14), (Fl r19)], 50, none⟩]) [0] (sub_cons rfl sub_nil) (by decide) (pick_cons rfl pick_nil) ?_
  exact tx_ret1' Try.results44 rfl () (rv_cell_agg' (i := 0) (o := 0) (nn := 3) rfl ⟨rfl, rfl, rfl, rfl⟩ rfl agg50 rfl) (List.nil_sublist _)

def r3_Triangle_sides (k : Nat) (a0_0 : Nat) (a0_1 : Nat) (a0_2 : Nat) (a0_3 : Nat) (a0_4 : Nat) (a0_5 : Nat) (a0_6 : Nat) (a0_7 : Nat) (a0_8 : Nat) : Option (Nat × Nat × Nat × Nat × Nat × Nat × Nat × Nat × Nat) :=
  (r3_Sub k a0_3 a0_4 a0_5 a0_0 a0_1 a0_2) >>= fun r9 =>
  (r3_Sub k a0_6 a0_7 a0_8 a0_3 a0_4 a0_5) >>= fun r14 =>
  (r3_Sub k a0_0 a0_1 a0_2 a0_6 a0_7 a0_8) >>= fun r19 =>
  some (r9.1, r9.2.1, r9.2.2, r14.1, r14.2.1, r14.2.2, r19.1, r19.2.1, r19.2.2)

theorem r3_Triangle_sides_sim {k : Nat}  (a0_0 : Nat) (a0_1 : Nat) (a0_2 : Nat) (a0_3 : Nat) (a0_4 : Nat) (a0_5 : Nat) (a0_6 : Nat) (a0_7 : Nat) (a0_8 : Nat) {out : Nat × Nat × Nat × Nat × Nat × Nat × Nat × Nat × Nat} (hp : r3_Triangle_sides k a0_0 a0_1 a0_2 a0_3 a0_4 a0_5 a0_6 a0_7 a0_8 = some out) : Go.Sx.Fn Try.prog 40 [(Ag [(Vl (.float .f64 a0_0)), (Vl (.float .f64 a0_1)), (Vl (.float .f64 a0_2)), (Vl (.float .f64 a0_3)), (Vl (.float .f64 a0_4)), (Vl (.float .f64 a0_5)), (Vl (.float .f64 a0_6)), (Vl (.float .f64 a0_7)), (Vl (.float .f64 a0_8))])] [] (fun w : Unit => (Tu [(Ag [(Fl out.1), (Fl out.2.1), (Fl out.2.2.1)]), (Ag [(Fl out.2.2.2.1), (Fl out.2.2.2.2.1), (Fl out.2.2.2.2.2.1)]), (Ag [(Fl out.2.2.2.2.2.2.1), (Fl out.2.2.2.2.2.2.2.1), (Fl out.2.2.2.2.2.2.2.2)])])) (fun w => []) := by
  unfold r3_Triangle_sides at hp
  refine fn_of Try.func40 rfl Try.ntmps40 rfl fun E hM => ?_
  refine cx_seq' fun K1 hK1 => ?_
  refine cx_region' ?_
  refine sx_ox' (ox_box' rfl (lv_ag _) rfl rfl) (wt_none' rfl) fun q1 => ?_
  refine sx_ox' (ox_alloc' info50 rfl rfl rfl rfl (l := [(Vl (.float .f64 0)), (Vl (.float .f64 0)), (Vl (.float .f64 0))]) rfl) (wt_none' rfl) fun q2 => ?_
  refine sx_ox' (ox_alloc' info50 rfl rfl rfl rfl (l := [(Vl (.float .f64 0)), (Vl (.float .f64 0)), (Vl (.float .f64 0))]) rfl) (wt_none' rfl) fun q3 => ?_
  refine sx_ox' (ox_alloc' info50 rfl rfl rfl rfl (l := [(Vl (.float .f64 0)), (Vl (.float .f64 0)), (Vl (.float .f64 0))]) rfl) (wt_none' rfl) fun q4 => ?_
  refine sx_nil' ?_
  show TX E K1 _
  refine tx_k' hK1 ?_
  refine cx_seq' fun K2 hK2 => ?_
  refine cx_plan' [] [(15, 1), (16, 1), (17, 1)] [(0, 1), (1, 1), (2, 1), (3, 1), (5, 1), (6, 1), (7, 1), (8, 1), (10, 1), (11, 1), (12, 1), (13, 1), (4, 0), (9, 0), (14, 0), (15, 0), (16, 0), (17, 0)] mixed (by kernel_rfl) ?_
  refine px_rd' rfl (rd_ixa' (p' := (q1).add 3) rfl rfl (by decide) (by decide) Try.underlying53 info50 rfl) rfl rfl (wt_none' rfl) ?_
  refine px_rd' rfl (rd_load_agg' (i := 3) (o := 3) (nn := 3) rfl ⟨rfl, rfl, rfl, rfl⟩ rfl agg50 (l' := [(Vl (.float .f64 a0_3)), (Vl (.float .f64 a0_4)), (Vl (.float .f64 a0_5))]) rfl) rfl rfl (wt_none' rfl) ?_
  refine px_rd' rfl (rd_ixa' (p' := q1) rfl rfl (by decide) (by decide) Try.underlying53 info50 rfl) rfl rfl (wt_none' rfl) ?_
  refine px_rd' rfl (rd_load_agg' (i := 3) (o := 0) (nn := 3) rfl ⟨rfl, rfl, rfl, rfl⟩ rfl agg50 (l' := [(Vl (.float .f64 a0_0)), (Vl (.float .f64 a0_1)), (Vl (.float .f64 a0_2))]) rfl) rfl rfl (wt_none' rfl) ?_
  refine px_rd' rfl (rd_ixa' (p' := (q1).add 6) rfl rfl (by decide) (by decide) Try.underlying53 info50 rfl) rfl rfl (wt_none' rfl) ?_
  refine px_rd' rfl (rd_load_agg' (i := 3) (o := 6) (nn := 3) rfl ⟨rfl, rfl, rfl, rfl⟩ rfl agg50 (l' := [(Vl (.float .f64 a0_6)), (Vl (.float .f64 a0_7)), (Vl (.float .f64 a0_8))]) rfl) rfl rfl (wt_none' rfl) ?_
  refine px_rd' rfl (rd_ixa' (p' := (q1).add 3) rfl rfl (by decide) (by decide) Try.underlying53 info50 rfl) rfl rfl (wt_none' rfl) ?_
  refine px_rd' rfl (rd_load_agg' (i := 3) (o := 3) (nn := 3) rfl ⟨rfl, rfl, rfl, rfl⟩ rfl agg50 (l' := [(Vl (.float .f64 a0_3)), (Vl (.float .f64 a0_4)), (Vl (.float .f64 a0_5))]) rfl) rfl rfl (wt_none' rfl) ?_
  refine px_rd' rfl (rd_ixa' (p' := q1) rfl rfl (by decide) (by decide) Try.underlying53 info50 rfl) rfl rfl (wt_none' rfl) ?_
  refine px_rd' rfl (rd_load_agg' (i := 3) (o := 0) (nn := 3) rfl ⟨rfl, rfl, rfl, rfl⟩ rfl agg50 (l' := [(Vl (.float .f64 a0_0)), (Vl (.float .f64 a0_1)), (Vl (.float .f64 a0_2))]) rfl) rfl rfl (wt_none' rfl) ?_
  refine px_rd' rfl (rd_ixa' (p' := (q1).add 6) rfl rfl (by decide) (by decide) Try.underlying53 info50 rfl) rfl rfl (wt_none' rfl) ?_
  refine px_rd' rfl (rd_load_agg' (i := 3) (o := 6) (nn := 3) rfl ⟨rfl, rfl, rfl, rfl⟩ rfl agg50 (l' := [(Vl (.float .f64 a0_6)), (Vl (.float .f64 a0_7)), (Vl (.float .f64 a0_8))]) rfl) rfl rfl (wt_none' rfl) ?_
  obtain ⟨r9, hr9, hp⟩ := bind_some hp
  refine px_ox' rfl (ox_calln' (ent_fn' Try.func44 isn44 rfl rfl) (r3_Sub_sim _ _ _ _ _ _ hr9 : Go.Sx.Fn Try.prog 44 [(Ag [(Vl (.float .f64 a0_3)), (Vl (.float .f64 a0_4)), (Vl (.float .f64 a0_5))]), (Ag [(Vl (.float .f64 a0_0)), (Vl (.float .f64 a0_1)), (Vl (.float .f64 a0_2))])] [] (fun x : Unit => (Ag [(Fl r9.1), (Fl r9.2.1), (Fl r9.2.2)])) (fun x => [])) (Hn := fun x : Unit => [⟨.pointer (some q4), [(Vl (.float .f64 0)), (Vl (.float .f64 0)), (Vl (.float .f64 0))], 50, none⟩, ⟨.pointer (some q3), [(Vl (.float .f64 0)), (Vl (.float .f64 0)), (Vl (.float .f64 0))], 50, none⟩, ⟨.pointer (some q2), [(Vl (.float .f64 0)), (Vl (.float .f64 0)), (Vl (.float .f64 0))], 50, none⟩, ⟨.pointer (some q1), [(Vl (.float .f64 a0_0)), (Vl (.float .f64 a0_1)), (Vl (.float .f64 a0_2)), (Vl (.float .f64 a0_3)), (Vl (.float .f64 a0_4)), (Vl (.float .f64 a0_5)), (Vl (.float .f64 a0_6)), (Vl (.float .f64 a0_7)), (Vl (.float .f64 a0_8))], 53, none⟩]) (fun _ => rfl) rfl rfl) rfl bs_nil (wt_none' rfl) fun ⟨⟩ => ?_
  obtain ⟨r14, hr14, hp⟩ := bind_some hp
  refine px_ox' rfl (ox_calln' (ent_fn' Try.func44 isn44 rfl rfl) (r3_Sub_sim _ _ _ _ _ _ hr14 : Go.Sx.Fn Try.prog 44 [(Ag [(Vl (.float .f64 a0_6)), (Vl (.float .f64 a0_7)), (Vl (.float .f64 a0_8))]), (Ag [(Vl (.float .f64 a0_3)), (Vl (.float .f64 a0_4)), (Vl (.float .f64 a0_5))])] [] (fun x : Unit => (Ag [(Fl r14.1), (Fl r14.2.1), (Fl r14.2.2)])) (fun x => [])) (Hn := fun x : Unit => [⟨.pointer (some q4), [(Vl (.float .f64 0)), (Vl (.float .f64 0)), (Vl (.float .f64 0))], 50, none⟩, ⟨.pointer (some q3), [(Vl (.float .f64 0)), (Vl (.float .f64 0)), (Vl (.float .f64 0))], 50, none⟩, ⟨.pointer (some q2), [(Vl (.float .f64 0)), (Vl (.float .f64 0)), (Vl (.float .f64 0))], 50, none⟩, ⟨.pointer (some q1), [(Vl (.float .f64 a0_0)), (Vl (.float .f64 a0_1)), (Vl (.float .f64 a0_2)), (Vl (.float .f64 a0_3)), (Vl (.float .f64 a0_4)), (Vl (.float .f64 a0_5)), (Vl (.float .f64 a0_6)), (Vl (.float .f64 a0_7)), (Vl (.float .f64 a0_8))], 53, none⟩]) (fun _ => rfl) rfl rfl) rfl bs_nil (wt_none' rfl) fun ⟨⟩ => ?_
  obtain ⟨r19, hr19, hp⟩ := bind_some hp
  refine px_ox' rfl (ox_calln' (ent_fn' Try.func44 isn44 rfl rfl) (r3_Sub_sim _ _ _ _ _ _ hr19 : Go.Sx.Fn Try.prog 44 [(Ag [(Vl (.float .f64 a0_0)), (Vl (.float .f64 a0_1)), (Vl (.float .f64 a0_2))]), (Ag [(Vl (.float .f64 a0_6)), (Vl (.float .f64 a0_7)), (Vl (.float .f64 a0_8))])] [] (fun x : Unit => (Ag [(Fl r19.1), (Fl r19.2.1), (Fl r19.2.2)])) (fun x => [])) (Hn := fun x : Unit => [⟨.pointer (some q4), [(Vl (.float .f64 0)), (Vl (.float .f64 0)), (Vl (.float .f64 0))], 50, none⟩, ⟨.pointer (some q3), [(Vl (.float .f64 0)), (Vl (.float .f64 0)), (Vl (.float .f64 0))], 50, none⟩, ⟨.pointer (some q2), [(Vl (.float .f64 0)), (Vl (.float .f64 0)), (Vl (.float .f64 0))], 50, none⟩, ⟨.pointer (some q1), [(Vl (.float .f64 a0_0)), (Vl (.float .f64 a0_1)), (Vl (.float .f64 a0_2)), (Vl (.float .f64 a0_3)), (Vl (.float .f64 a0_4)), (Vl (.float .f64 a0_5)), (Vl (.float .f64 a0_6)), (Vl (.float .f64 a0_7)), (Vl (.float .f64 a0_8))], 53, none⟩]) (fun _ => rfl) rfl rfl) rfl bs_nil (wt_none' rfl) fun ⟨⟩ => ?_
  refine px_oxv' rfl (oxv_store (i := 2) (o := 0) rfl rfl (lv_ag _) ⟨rfl, rfl, rfl, rfl⟩ rfl info50 rfl (H' := [⟨.pointer (some q4), [(Vl (.float .f64 0)), (Vl (.float .f64 0)), (Vl (.float .f64 0))], 50, none⟩, ⟨.pointer (some q3), [(Vl (.float .f64 0)), (Vl (.float .f64 0)), (Vl (.float .f64 0))], 50, none⟩, ⟨.pointer (some q2), [(Fl r9.1), (Fl r9.2.1), (Fl r9.2.2)], 50, none⟩, ⟨.pointer (some q1), [(Vl (.float .f64 a0_0)), (Vl (.float .f64 a0_1)), (Vl (.float .f64 a0_2)), (Vl (.float .f64 a0_3)), (Vl (.float .f64 a0_4)), (Vl (.float .f64 a0_5)), (Vl (.float .f64 a0_6)), (Vl (.float .f64 a0_7)), (Vl (.float .f64 a0_8))], 53, none⟩]) rfl) rfl rfl bo_nil (wt_none' rfl) fun _ => ?_
  refine px_oxv' rfl (oxv_store (i := 1) (o := 0) rfl rfl (lv_ag _) ⟨rfl, rfl, rfl, rfl⟩ rfl info50 rfl (H' := [⟨.pointer (some q4), [(Vl (.float .f64 0)), (Vl (.float .f64 0)), (Vl (.float .f64 0))], 50, none⟩, ⟨.pointer (some q3), [(Fl r14.1), (Fl r14.2.1), (Fl r14.2.2)], 50, none⟩, ⟨.pointer (some q2), [(Fl r9.1), (Fl r9.2.1), (Fl r9.2.2)], 50, none⟩, ⟨.pointer (some q1), [(Vl (.float .f64 a0_0)), (Vl (.float .f64 a0_1)), (Vl (.float .f64 a0_2)), (Vl (.float .f64 a0_3)), (Vl (.float .f64 a0_4)), (Vl (.float .f64 a0_5)), (Vl (.float .f64 a0_6)), (Vl (.float .f64 a0_7)), (Vl (.float .f64 a0_8))], 53, none⟩]) rfl) rfl rfl bo_nil (wt_none' rfl) fun _ => ?_
  refine px_oxv' rfl (oxv_store (i := 0) (o := 0) rfl rfl (lv_ag _) ⟨rfl, rfl, rfl, rfl⟩ rfl info50 rfl (H' := [⟨.pointer (some q4), [(Fl r19.1), (Fl r19.2.1), (Fl r19.2.2)], 50, none⟩, ⟨.pointer (some q3), [(Fl r14.1), (Fl r14.2.1), (Fl r14.2.2)], 50, none⟩, ⟨.pointer (some q2), [(Fl r9.1), (Fl r9.2.1), (Fl r9.2.2)], 50, none⟩, ⟨.pointer (some q1), [(Vl (.float .f64 a0_0)), (Vl (.float .f64 a0_1)), (Vl (.float .f64 a0_2)), (Vl (.float .f64 a0_3)), (Vl (.float .f64 a0_4)), (Vl (.float .f64 a0_5)), (Vl (.float .f64 a0_6)), (Vl (.float .f64 a0_7)), (Vl (.float .f64 a0_8))], 53, none⟩]) rfl) rfl rfl bo_nil (wt_none' rfl) fun _ => ?_
  refine px_nil' ?_
  show TX E K2 _
  refine tx_k' hK2 ?_
  refine cx_retc' ?_
  replace hp := Option.some.inj hp
  subst hp
  refine tx_pick' (L' := [(2, (Vl (.pointer (some q2)))), (3, (Vl (.pointer (some q3)))), (4, (Vl (.pointer (some q4))))]) (H' := [⟨.pointer (some q2), [(Fl r9.1), (Fl r9.2.1), (Fl r9.2.2)], 50, none⟩, ⟨.pointer (some q3), [(Fl r14.1), (Fl r14.2.1), (Fl r14.2.2)], 50, none⟩, ⟨.pointer (some q4), [(Fl r19.1), (Fl r19.2.1), (Fl r19.2.2)], 50, none⟩]) [2, 1, 0] (sub_cons rfl (sub_cons rfl (sub_cons rfl sub_nil))) (by decide) (pick_cons rfl (pick_cons rfl (pick_cons rfl pick_nil))) ?_
  exact tx_ret3' Try.results40 rfl () (rv_cell_agg' (i := 0) (o := 0) (nn := 3) rfl ⟨rfl, rfl, rfl, rfl⟩ rfl agg50 rfl) (rv_cell_agg' (i := 1) (o := 0) (nn := 3) rfl ⟨rfl, rfl, rfl, rfl⟩ rfl agg50 rfl) (rv_cell_agg' (i := 2) (o := 0) (nn := 3) rfl ⟨rfl, rfl, rfl, rfl⟩ rfl agg50 rfl) rfl (List.nil_sublist _)

def math_Hypot (k : Nat) (a0 : Nat) (a1 : Nat) : Option (Nat) :=
  (fhypot a0 a1) >>= fun r7 =>
  some r7

theorem math_Hypot_sim {k : Nat}  (a0 : Nat) (a1 : Nat) {out : Nat} (hp : math_Hypot k a0 a1 = some out) : Go.Sx.Fn Try.prog 43 [(Vl (.float .f64 a0)), (Vl (.float .f64 a1))] [] (fun w : Unit => (Vl (.float .f64 out))) (fun w => []) := by
  unfold math_Hypot at hp
  refine fn_of Try.func43 rfl Try.ntmps43 rfl fun E hM => ?_
  refine cx_seq' fun K1 hK1 => ?_
  refine cx_region' ?_
  refine sx_rd' (rd_assign' rfl) rfl rfl (wt_none' rfl) ?_
  refine sx_nil' ?_
  show TX E K1 _
  refine tx_k' hK1 ?_
  refine cx_seq' fun K2 hK2 => ?_
  refine cx_cond_t' rfl rfl ?_
  refine cx_seq' fun K3 hK3 => ?_
  refine cx_region' ?_
  refine sx_rd' (rd_move' rfl) rfl rfl (wt_none' rfl) ?_
  refine sx_rd' (rd_move' rfl) rfl rfl (wt_none' rfl) ?_
  obtain ⟨r7, hr7, hp⟩ := bind_some hp
  refine sx_rd' (rd_ext' (us := [.float .f64 a0, .float .f64 a1]) rfl (ext45 (ex_hypot hr7))) rfl rfl (wt_none' rfl) ?_
  refine sx_rd' (rd_assign' rfl) rfl rfl (wt_none' rfl) ?_
  refine sx_nil' ?_
  show TX E K3 _
  refine tx_k' hK3 ?_
  refine cx_retc' ?_
  replace hp := Option.some.inj hp
  subst hp
  refine tx_pick' (L' := [(4, (Vl (.float .f64 r7)))]) (H' := []) [] (sub_cons rfl sub_nil) (by decide) pick_nil ?_
  exact tx_ret1' Try.results43 rfl () (rv_tmp' rfl) (List.Sublist.refl _)

def r3_Norm (k : Nat) (a0_0 : Nat) (a0_1 : Nat) (a0_2 : Nat) : Option (Nat) :=
  (math_Hypot k a0_1 a0_2) >>= fun r9 =>
  (math_Hypot k a0_0 r9) >>= fun r10 =>
  some r10

theorem r3_Norm_sim {k : Nat}  (a0_0 : Nat) (a0_1 : Nat) (a0_2 : Nat) {out : Nat} (hp : r3_Norm k a0_0 a0_1 a0_2 = some out) : Go.Sx.Fn Try.prog 41 [(Ag [(Vl (.float .f64 a0_0)), (Vl (.float .f64 a0_1)), (Vl (.float .f64 a0_2))])] [] (fun w : Unit => (Vl (.float .f64 out))) (fun w => []) := by
  unfold r3_Norm at hp
  refine fn_of Try.func41 rfl Try.ntmps41 rfl fun E hM => ?_
  refine cx_seq' fun K1 hK1 => ?_
  refine cx_region' ?_
  refine sx_ox' (ox_box' rfl (lv_ag _) rfl rfl) (wt_none' rfl) fun q1 => ?_
  refine sx_rd' (rd_assign' rfl) rfl rfl (wt_none' rfl) ?_
  refine sx_nil' ?_
  show TX E K1 _
  refine tx_k' hK1 ?_
  refine cx_seq' fun K2 hK2 => ?_
  refine cx_plan' [] [] [(0, 1), (1, 1), (2, 1), (3, 1), (4, 1), (5, 1), (6, 0), (7, 0), (8, 1)] mixed (by kernel_rfl) ?_
  refine px_rd' rfl (rd_field0' rfl Try.underlying50 rfl info22 rfl) rfl rfl (wt_none' rfl) ?_
  refine px_rd' rfl (rd_load' (i := 0) (o := 0) rfl ⟨rfl, rfl, rfl, rfl⟩ rfl flat22) rfl rfl (wt_none' rfl) ?_
  refine px_rd' rfl (rd_field' (off := 1) rfl Try.underlying50 rfl info22 rfl) rfl rfl (wt_none' rfl) ?_
  refine px_rd' rfl (rd_load' (i := 0) (o := 1) rfl ⟨rfl, rfl, rfl, rfl⟩ rfl flat22) rfl rfl (wt_none' rfl) ?_
  refine px_rd' rfl (rd_field' (off := 2) rfl Try.underlying50 rfl info22 rfl) rfl rfl (wt_none' rfl) ?_
  refine px_rd' rfl (rd_load' (i := 0) (o := 2) rfl ⟨rfl, rfl, rfl, rfl⟩ rfl flat22) rfl rfl (wt_none' rfl) ?_
  obtain ⟨r9, hr9, hp⟩ := bind_some hp
  refine px_ox' rfl (ox_calln' (ent_fn' Try.func43 isn43 rfl rfl) (math_Hypot_sim _ _ hr9 : Go.Sx.Fn Try.prog 43 [(Vl (.float .f64 a0_1)), (Vl (.float .f64 a0_2))] [] (fun x : Unit => (Vl (.float .f64 r9))) (fun x => [])) (Hn := fun x : Unit => [⟨.pointer (some q1), [(Vl (.float .f64 a0_0)), (Vl (.float .f64 a0_1)), (Vl (.float .f64 a0_2))], 50, none⟩]) (fun _ => rfl) rfl rfl) rfl bs_nil (wt_none' rfl) fun ⟨⟩ => ?_
  obtain ⟨r10, hr10, hp⟩ := bind_some hp
  refine px_ox' rfl (ox_calln' (ent_fn' Try.func43 isn43 rfl rfl) (math_Hypot_sim _ _ hr10 : Go.Sx.Fn Try.prog 43 [(Vl (.float .f64 a0_0)), (Vl (.float .f64 r9))] [] (fun x : Unit => (Vl (.float .f64 r10))) (fun x => [])) (Hn := fun x : Unit => [⟨.pointer (some q1), [(Vl (.float .f64 a0_0)), (Vl (.float .f64 a0_1)), (Vl (.float .f64 a0_2))], 50, none⟩]) (fun _ => rfl) rfl rfl) rfl bs_nil (wt_none' rfl) fun ⟨⟩ => ?_
  refine px_rd' rfl (rd_assign' rfl) rfl rfl (wt_none' rfl) ?_
  refine px_nil' ?_
  show TX E K2 _
  refine tx_k' hK2 ?_
  refine cx_retc' ?_
  replace hp := Option.some.inj hp
  subst hp
  refine tx_pick' (L' := [(2, (Vl (.float .f64 r10)))]) (H' := []) [] (sub_cons rfl sub_nil) (by decide) pick_nil ?_
  exact tx_ret1' Try.results41 rfl () (rv_tmp' rfl) (List.Sublist.refl _)

def r3_Triangle_orderedLengths_j2 (k : Nat) (x3 : Nat) (x4 : Nat) (x5 : Nat) : Option (Nat × Nat × Nat) :=
  some (x3, x4, x5)
def r3_Triangle_orderedLengths_j1 (k : Nat) (r22 : Nat) (x1 : Nat) (x2 : Nat) : Option (Nat × Nat × Nat) :=
  br (flt r22 x2)
    (br (flt r22 x1)
      (r3_Triangle_orderedLengths_j2 k r22 x1 x2)
      (r3_Triangle_orderedLengths_j2 k x1 r22 x2))
    (r3_Triangle_orderedLengths_j2 k x1 x2 r22)
def r3_Triangle_orderedLengths (k : Nat) (a0_0 : Nat) (a0_1 : Nat) (a0_2 : Nat) (a0_3 : Nat) (a0_4 : Nat) (a0_5 : Nat) (a0_6 : Nat) (a0_7 : Nat) (a0_8 : Nat) : Option (Nat × Nat × Nat) :=
  (r3_Triangle_sides k a0_0 a0_1 a0_2 a0_3 a0_4 a0_5 a0_6 a0_7 a0_8) >>= fun r13 =>
  (num r13.1) >>= fun u1 =>
  (num r13.2.1) >>= fun u2 =>
  (num r13.2.2.1) >>= fun u3 =>
  (r3_Norm k r13.1 r13.2.1 r13.2.2.1) >>= fun r18 =>
  (num r13.2.2.2.1) >>= fun u4 =>
  (num r13.2.2.2.2.1) >>= fun u5 =>
  (num r13.2.2.2.2.2.1) >>= fun u6 =>
  (r3_Norm k r13.2.2.2.1 r13.2.2.2.2.1 r13.2.2.2.2.2.1) >>= fun r20 =>
  (num r13.2.2.2.2.2.2.1) >>= fun u7 =>
  (num r13.2.2.2.2.2.2.2.1) >>= fun u8 =>
  (num r13.2.2.2.2.2.2.2.2) >>= fun u9 =>
  (r3_Norm k r13.2.2.2.2.2.2.1 r13.2.2.2.2.2.2.2.1 r13.2.2.2.2.2.2.2.2) >>= fun r22 =>
  br (flt r20 r18)
    (r3_Triangle_orderedLengths_j1 k r22 r20 r18)
    (r3_Triangle_orderedLengths_j1 k r22 r18 r20)

theorem r3_Triangle_orderedLengths_sim {k : Nat}  (a0_0 : Nat) (a0_1 : Nat) (a0_2 : Nat) (a0_3 : Nat) (a0_4 : Nat) (a0_5 : Nat) (a0_6 : Nat) (a0_7 : Nat) (a0_8 : Nat) {out : Nat × Nat × Nat} (hp : r3_Triangle_orderedLengths k a0_0 a0_1 a0_2 a0_3 a0_4 a0_5 a0_6 a0_7 a0_8 = some out) : Go.Sx.Fn Try.prog 33 [(Ag [(Vl (.float .f64 a0_0)), (Vl (.float .f64 a0_1)), (Vl (.float .f64 a0_2)), (Vl (.float .f64 a0_3)), (Vl (.float .f64 a0_4)), (Vl (.float .f64 a0_5)), (Vl (.float .f64 a0_6)), (Vl (.float .f64 a0_7)), (Vl (.float .f64 a0_8))])] [] (fun w : Unit => (Tu [(Vl (.float .f64 out.1)), (Vl (.float .f64 out.2.1)), (Vl (.float .f64 out.2.2))])) (fun w => []) := by
  unfold r3_Triangle_orderedLengths at hp
  refine fn_of Try.func33 rfl Try.ntmps33 rfl fun E hM => ?_
  refine cx_seq' fun K1 hK1 => ?_
  refine cx_region' ?_
  refine sx_ox' (ox_box' rfl (lv_ag _) rfl rfl) (wt_none' rfl) fun q1 => ?_
  refine sx_rd' (rd_assign' rfl) rfl rfl (wt_none' rfl) ?_
  refine sx_rd' (rd_assign' rfl) rfl rfl (wt_none' rfl) ?_
  refine sx_rd' (rd_assign' rfl) rfl rfl (wt_none' rfl) ?_
  refine sx_nil' ?_
  show TX E K1 _
  refine tx_k' hK1 ?_
  refine cx_seq' fun K2 hK2 => ?_
  refine cx_region' ?_
  refine sx_rd' (rd_load_agg' (i := 0) (o := 0) (nn := 9) rfl ⟨rfl, rfl, rfl, rfl⟩ rfl agg53 (l' := [(Vl (.float .f64 a0_0)), (Vl (.float .f64 a0_1)), (Vl (.float .f64 a0_2)), (Vl (.float .f64 a0_3)), (Vl (.float .f64 a0_4)), (Vl (.float .f64 a0_5)), (Vl (.float .f64 a0_6)), (Vl (.float .f64 a0_7)), (Vl (.float .f64 a0_8))]) rfl) rfl rfl (wt_none' rfl) ?_
  obtain ⟨r13, hr13, hp⟩ := bind_some hp
  refine sx_ox' (ox_calln' (ent_fn' Try.func40 isn40 rfl rfl) (r3_Triangle_sides_sim _ _ _ _ _ _ _ _ _ hr13 : Go.Sx.Fn Try.prog 40 [(Ag [(Vl (.float .f64 a0_0)), (Vl (.float .f64 a0_1)), (Vl (.float .f64 a0_2)), (Vl (.float .f64 a0_3)), (Vl (.float .f64 a0_4)), (Vl (.float .f64 a0_5)), (Vl (.float .f64 a0_6)), (Vl (.float .f64 a0_7)), (Vl (.float .f64 a0_8))])] [] (fun x : Unit => (Tu [(Ag [(Fl r13.1), (Fl r13.2.1), (Fl r13.2.2.1)]), (Ag [(Fl r13.2.2.2.1), (Fl r13.2.2.2.2.1), (Fl r13.2.2.2.2.2.1)]), (Ag [(Fl r13.2.2.2.2.2.2.1), (Fl r13.2.2.2.2.2.2.2.1), (Fl r13.2.2.2.2.2.2.2.2)])])) (fun x => [])) (Hn := fun x : Unit => [⟨.pointer (some q1), [(Vl (.float .f64 a0_0)), (Vl (.float .f64 a0_1)), (Vl (.float .f64 a0_2)), (Vl (.float .f64 a0_3)), (Vl (.float .f64 a0_4)), (Vl (.float .f64 a0_5)), (Vl (.float .f64 a0_6)), (Vl (.float .f64 a0_7)), (Vl (.float .f64 a0_8))], 53, none⟩]) (fun _ => rfl) rfl rfl) (wt_none' rfl) fun ⟨⟩ => ?_
  refine sx_rd' (rd_move' rfl) rfl rfl (wt_none' rfl) ?_
  refine sx_rd' (rd_extract' rfl rfl) rfl rfl (wt_none' rfl) ?_
  refine sx_rd' (rd_extract' rfl rfl) rfl rfl (wt_none' rfl) ?_
  refine sx_rd' (rd_extract' rfl rfl) rfl rfl (wt_none' rfl) ?_
  refine sx_ox' (ox_alloc' info50 rfl rfl rfl rfl (l := [(Vl (.float .f64 0)), (Vl (.float .f64 0)), (Vl (.float .f64 0))]) rfl) (wt_none' rfl) fun q5 => ?_
  refine sx_ox' (ox_alloc' info50 rfl rfl rfl rfl (l := [(Vl (.float .f64 0)), (Vl (.float .f64 0)), (Vl (.float .f64 0))]) rfl) (wt_none' rfl) fun q6 => ?_
  refine sx_ox' (ox_alloc' info50 rfl rfl rfl rfl (l := [(Vl (.float .f64 0)), (Vl (.float .f64 0)), (Vl (.float .f64 0))]) rfl) (wt_none' rfl) fun q7 => ?_
  refine sx_ox' (ox_store' (i := 2) (o := 0) rfl rfl (lv_ag _) ⟨rfl, rfl, rfl, rfl⟩ rfl info50 rfl (H' := [⟨.pointer (some q7), [(Vl (.float .f64 0)), (Vl (.float .f64 0)), (Vl (.float .f64 0))], 50, none⟩, ⟨.pointer (some q6), [(Vl (.float .f64 0)), (Vl (.float .f64 0)), (Vl (.float .f64 0))], 50, none⟩, ⟨.pointer (some q5), [(Fl r13.1), (Fl r13.2.1), (Fl r13.2.2.1)], 50, none⟩, ⟨.pointer (some q1), [(Vl (.float .f64 a0_0)), (Vl (.float .f64 a0_1)), (Vl (.float .f64 a0_2)), (Vl (.float .f64 a0_3)), (Vl (.float .f64 a0_4)), (Vl (.float .f64 a0_5)), (Vl (.float .f64 a0_6)), (Vl (.float .f64 a0_7)), (Vl (.float .f64 a0_8))], 53, none⟩]) rfl) (wt_none' rfl) fun _ => ?_
  refine sx_ox' (ox_store' (i := 1) (o := 0) rfl rfl (lv_ag _) ⟨rfl, rfl, rfl, rfl⟩ rfl info50 rfl (H' := [⟨.pointer (some q7), [(Vl (.float .f64 0)), (Vl (.float .f64 0)), (Vl (.float .f64 0))], 50, none⟩, ⟨.pointer (some q6), [(Fl r13.2.2.2.1), (Fl r13.2.2.2.2.1), (Fl r13.2.2.2.2.2.1)], 50, none⟩, ⟨.pointer (some q5), [(Fl r13.1), (Fl r13.2.1), (Fl r13.2.2.1)], 50, none⟩, ⟨.pointer (some q1), [(Vl (.float .f64 a0_0)), (Vl (.float .f64 a0_1)), (Vl (.float .f64 a0_2)), (Vl (.float .f64 a0_3)), (Vl (.float .f64 a0_4)), (Vl (.float .f64 a0_5)), (Vl (.float .f64 a0_6)), (Vl (.float .f64 a0_7)), (Vl (.float .f64 a0_8))], 53, none⟩]) rfl) (wt_none' rfl) fun _ => ?_
  refine sx_ox' (ox_store' (i := 0) (o := 0) rfl rfl (lv_ag _) ⟨rfl, rfl, rfl, rfl⟩ rfl info50 rfl (H' := [⟨.pointer (some q7), [(Fl r13.2.2.2.2.2.2.1), (Fl r13.2.2.2.2.2.2.2.1), (Fl r13.2.2.2.2.2.2.2.2)], 50, none⟩, ⟨.pointer (some q6), [(Fl r13.2.2.2.1), (Fl r13.2.2.2.2.1), (Fl r13.2.2.2.2.2.1)], 50, none⟩, ⟨.pointer (some q5), [(Fl r13.1), (Fl r13.2.1), (Fl r13.2.2.1)], 50, none⟩, ⟨.pointer (some q1), [(Vl (.float .f64 a0_0)), (Vl (.float .f64 a0_1)), (Vl (.float .f64 a0_2)), (Vl (.float .f64 a0_3)), (Vl (.float .f64 a0_4)), (Vl (.float .f64 a0_5)), (Vl (.float .f64 a0_6)), (Vl (.float .f64 a0_7)), (Vl (.float .f64 a0_8))], 53, none⟩]) rfl) (wt_none' rfl) fun _ => ?_
  refine sx_nil' ?_
  show TX E K2 _
  refine tx_k' hK2 ?_
  refine cx_seq' fun K3 hK3 => ?_
  refine cx_region' ?_
  refine sx_rd' (rd_load_agg' (i := 2) (o := 0) (nn := 3) rfl ⟨rfl, rfl, rfl, rfl⟩ rfl agg50 (l' := [(Fl r13.1), (Fl r13.2.1), (Fl r13.2.2.1)]) rfl) rfl rfl (wt_none' rfl) ?_
  obtain ⟨u1, hu1, hp⟩ := bind_some hp
  obtain ⟨u2, hu2, hp⟩ := bind_some hp
  obtain ⟨u3, hu3, hp⟩ := bind_some hp
  refine tx_slot' 17 (y := (Ag [(Vl (.float .f64 r13.1)), (Vl (.float .f64 r13.2.1)), (Vl (.float .f64 r13.2.2.1))])) rfl (imp_ag ⟨(imp_num (num_some hu1).2), (imp_num (num_some hu2).2), (imp_num (num_some hu3).2), trivial⟩) ?_
  obtain ⟨r18, hr18, hp⟩ := bind_some hp
  refine sx_ox' (ox_calln' (ent_fn' Try.func41 isn41 rfl rfl) (r3_Norm_sim _ _ _ hr18 : Go.Sx.Fn Try.prog 41 [(Ag [(Vl (.float .f64 r13.1)), (Vl (.float .f64 r13.2.1)), (Vl (.float .f64 r13.2.2.1))])] [] (fun x : Unit => (Vl (.float .f64 r18))) (fun x => [])) (Hn := fun x : Unit => [⟨.pointer (some q7), [(Fl r13.2.2.2.2.2.2.1), (Fl r13.2.2.2.2.2.2.2.1), (Fl r13.2.2.2.2.2.2.2.2)], 50, none⟩, ⟨.pointer (some q6), [(Fl r13.2.2.2.1), (Fl r13.2.2.2.2.1), (Fl r13.2.2.2.2.2.1)], 50, none⟩, ⟨.pointer (some q5), [(Fl r13.1), (Fl r13.2.1), (Fl r13.2.2.1)], 50, none⟩, ⟨.pointer (some q1), [(Vl (.float .f64 a0_0)), (Vl (.float .f64 a0_1)), (Vl (.float .f64 a0_2)), (Vl (.float .f64 a0_3)), (Vl (.float .f64 a0_4)), (Vl (.float .f64 a0_5)), (Vl (.float .f64 a0_6)), (Vl (.float .f64 a0_7)), (Vl (.float .f64 a0_8))], 53, none⟩]) (fun _ => rfl) rfl rfl) (wt_none' rfl) fun ⟨⟩ => ?_
  refine sx_rd' (rd_assign' rfl) rfl rfl (wt_none' rfl) ?_
  refine sx_nil' ?_
  show TX E K3 _
  refine tx_k' hK3 ?_
  refine cx_seq' fun K4 hK4 => ?_
  refine cx_region' ?_
  refine sx_rd' (rd_load_agg' (i := 1) (o := 0) (nn := 3) rfl ⟨rfl, rfl, rfl, rfl⟩ rfl agg50 (l' := [(Fl r13.2.2.2.1), (Fl r13.2.2.2.2.1), (Fl r13.2.2.2.2.2.1)]) rfl) rfl rfl (wt_none' rfl) ?_
  obtain ⟨u4, hu4, hp⟩ := bind_some hp
  obtain ⟨u5, hu5, hp⟩ := bind_some hp
  obtain ⟨u6, hu6, hp⟩ := bind_some hp
  refine tx_slot' 19 (y := (Ag [(Vl (.float .f64 r13.2.2.2.1)), (Vl (.float .f64 r13.2.2.2.2.1)), (Vl (.float .f64 r13.2.2.2.2.2.1))])) rfl (imp_ag ⟨(imp_num (num_some hu4).2), (imp_num (num_some hu5).2), (imp_num (num_some hu6).2), trivial⟩) ?_
  obtain ⟨r20, hr20, hp⟩ := bind_some hp
  refine sx_ox' (ox_calln' (ent_fn' Try.func41 isn41 rfl rfl) (r3_Norm_sim _ _ _ hr20 : Go.Sx.Fn Try.prog 41 [(Ag [(Vl (.float .f64 r13.2.2.2.1)), (Vl (.float .f64 r13.2.2.2.2.1)), (Vl (.float .f64 r13.2.2.2.2.2.1))])] [] (fun x : Unit => (Vl (.float .f64 r20))) (fun x => [])) (Hn := fun x : Unit => [⟨.pointer (some q7), [(Fl r13.2.2.2.2.2.2.1), (Fl r13.2.2.2.2.2.2.2.1), (Fl r13.2.2.2.2.2.2.2.2)], 50, none⟩, ⟨.pointer (some q6), [(Fl r13.2.2.2.1), (Fl r13.2.2.2.2.1), (Fl r13.2.2.2.2.2.1)], 50, none⟩, ⟨.pointer (some q5), [(Fl r13.1), (Fl r13.2.1), (Fl r13.2.2.1)], 50, none⟩, ⟨.pointer (some q1), [(Vl (.float .f64 a0_0)), (Vl (.float .f64 a0_1)), (Vl (.float .f64 a0_2)), (Vl (.float .f64 a0_3)), (Vl (.float .f64 a0_4)), (Vl (.float .f64 a0_5)), (Vl (.float .f64 a0_6)), (Vl (.float .f64 a0_7)), (Vl (.float .f64 a0_8))], 53, none⟩]) (fun _ => rfl) rfl rfl) (wt_none' rfl) fun ⟨⟩ => ?_
  refine sx_rd' (rd_assign' rfl) rfl rfl (wt_none' rfl) ?_
  refine sx_nil' ?_
  show TX E K4 _
  refine tx_k' hK4 ?_
  refine cx_seq' fun K5 hK5 => ?_
  refine cx_region' ?_
  refine sx_rd' (rd_load_agg' (i := 0) (o := 0) (nn := 3) rfl ⟨rfl, rfl, rfl, rfl⟩ rfl agg50 (l' := [(Fl r13.2.2.2.2.2.2.1), (Fl r13.2.2.2.2.2.2.2.1), (Fl r13.2.2.2.2.2.2.2.2)]) rfl) rfl rfl (wt_none' rfl) ?_
  obtain ⟨u7, hu7, hp⟩ := bind_some hp
  obtain ⟨u8, hu8, hp⟩ := bind_some hp
  obtain ⟨u9, hu9, hp⟩ := bind_some hp
  refine tx_slot' 21 (y := (Ag [(Vl (.float .f64 r13.2.2.2.2.2.2.1)), (Vl (.float .f64 r13.2.2.2.2.2.2.2.1)), (Vl (.float .f64 r13.2.2.2.2.2.2.2.2))])) rfl (imp_ag ⟨(imp_num (num_some hu7).2), (imp_num (num_some hu8).2), (imp_num (num_some hu9).2), trivial⟩) ?_
  obtain ⟨r22, hr22, hp⟩ := bind_some hp
  refine sx_ox' (ox_calln' (ent_fn' Try.func41 isn41 rfl rfl) (r3_Norm_sim _ _ _ hr22 : Go.Sx.Fn Try.prog 41 [(Ag [(Vl (.float .f64 r13.2.2.2.2.2.2.1)), (Vl (.float .f64 r13.2.2.2.2.2.2.2.1)), (Vl (.float .f64 r13.2.2.2.2.2.2.2.2))])] [] (fun x : Unit => (Vl (.float .f64 r22))) (fun x => [])) (Hn := fun x : Unit => [⟨.pointer (some q7), [(Fl r13.2.2.2.2.2.2.1), (Fl r13.2.2.2.2.2.2.2.1), (Fl r13.2.2.2.2.2.2.2.2)], 50, none⟩, ⟨.pointer (some q6), [(Fl r13.2.2.2.1), (Fl r13.2.2.2.2.1), (Fl r13.2.2.2.2.2.1)], 50, none⟩, ⟨.pointer (some q5), [(Fl r13.1), (Fl r13.2.1), (Fl r13.2.2.1)], 50, none⟩, ⟨.pointer (some q1), [(Vl (.float .f64 a0_0)), (Vl (.float .f64 a0_1)), (Vl (.float .f64 a0_2)), (Vl (.float .f64 a0_3)), (Vl (.float .f64 a0_4)), (Vl (.float .f64 a0_5)), (Vl (.float .f64 a0_6)), (Vl (.float .f64 a0_7)), (Vl (.float .f64 a0_8))], 53, none⟩]) (fun _ => rfl) rfl rfl) (wt_none' rfl) fun ⟨⟩ => ?_
  refine sx_rd' (rd_assign' rfl) rfl rfl (wt_none' rfl) ?_
  refine sx_nil' ?_
  show TX E K5 _
  refine tx_k' hK5 ?_
  refine cx_join' (fun (v1 : Nat × Nat) => (⟨41, [], [(8, (Vl (.float .f64 v1.1))), (9, (Vl (.float .f64 v1.2))), (10, (Vl (.float .f64 r22)))], []⟩ : St)) (fun (v1 : Nat × Nat) => r3_Triangle_orderedLengths_j1 k r22 v1.1 v1.2 = some out) ?_ ?_
  · rintro ⟨x1, x2⟩ hp
    replace hp : r3_Triangle_orderedLengths_j1 k r22 x1 x2 = some out := hp
    unfold r3_Triangle_orderedLengths_j1 at hp
    refine cx_join' (fun (v2 : Nat × Nat × Nat) => (⟨41, [], [(8, (Vl (.float .f64 v2.1))), (9, (Vl (.float .f64 v2.2.1))), (10, (Vl (.float .f64 v2.2.2)))], []⟩ : St)) (fun (v2 : Nat × Nat × Nat) => r3_Triangle_orderedLengths_j2 k v2.1 v2.2.1 v2.2.2 = some out) ?_ ?_
    · rintro ⟨x3, x4, x5⟩ hp
      replace hp : r3_Triangle_orderedLengths_j2 k x3 x4 x5 = some out := hp
      unfold r3_Triangle_orderedLengths_j2 at hp
      refine cx_seq' fun K12 hK12 => ?_
      refine cx_region' ?_
      refine sx_rd' (rd_move' rfl) rfl rfl (wt_none' rfl) ?_
      refine sx_rd' (rd_move' rfl) rfl rfl (wt_none' rfl) ?_
      refine sx_rd' (rd_move' rfl) rfl rfl (wt_none' rfl) ?_
      refine sx_rd' (rd_assign' rfl) rfl rfl (wt_none' rfl) ?_
      refine sx_rd' (rd_assign' rfl) rfl rfl (wt_none' rfl) ?_
      refine sx_rd' (rd_assign' rfl) rfl rfl (wt_none' rfl) ?_
      refine sx_nil' ?_
      show TX E K12 _
      refine tx_k' hK12 ?_
      refine cx_retc' ?_
      replace hp := Option.some.inj hp
      subst hp
      refine tx_pick' (L' := [(2, (Vl (.float .f64 x3))), (3, (Vl (.float .f64 x4))), (4, (Vl (.float .f64 x5)))]) (H' := []) [] (sub_cons rfl (sub_cons rfl (sub_cons rfl sub_nil))) (by decide) pick_nil ?_
      exact tx_ret3' Try.results33 rfl () (rv_tmp' rfl) (rv_tmp' rfl) (rv_tmp' rfl) rfl (List.Sublist.refl _)
    · intro K8 hK8
      refine cx_seq' fun K9 hK9 => ?_
      refine cx_region' ?_
      refine sx_rd' (rd_move' rfl) rfl rfl (wt_none' rfl) ?_
      refine sx_rd' (rd_move' rfl) rfl rfl (wt_none' rfl) ?_
      refine sx_rd' (rd_bin' rfl rfl eg_flt ru_flt) rfl rfl (wt_none' rfl) ?_
      refine sx_nil' ?_
      show TX E K9 _
      refine tx_k' hK9 ?_
      refine cx_cond' rfl (fun h2 => ?_) (fun h2 => ?_)
      · replace hp := (br_t h2).symm.trans hp
        refine cx_seq' fun K10 hK10 => ?_
        refine cx_region' ?_
        refine sx_rd' (rd_move' rfl) rfl rfl (wt_none' rfl) ?_
        refine sx_rd' (rd_move' rfl) rfl rfl (wt_none' rfl) ?_
        refine sx_rd' (rd_assign' rfl) rfl rfl (wt_none' rfl) ?_
        refine sx_rd' (rd_assign' rfl) rfl rfl (wt_none' rfl) ?_
        refine sx_nil' ?_
        show TX E K10 _
        refine tx_k' hK10 ?_
        refine cx_seq' fun K11 hK11 => ?_
        refine cx_region' ?_
        refine sx_rd' (rd_move' rfl) rfl rfl (wt_none' rfl) ?_
        refine sx_rd' (rd_move' rfl) rfl rfl (wt_none' rfl) ?_
        refine sx_rd' (rd_bin' rfl rfl eg_flt ru_flt) rfl rfl (wt_none' rfl) ?_
        refine sx_nil' ?_
        show TX E K11 _
        refine tx_k' hK11 ?_
        refine cx_cond' rfl (fun h3 => ?_) (fun h3 => ?_)
        · replace hp := (br_t h3).symm.trans hp
          refine cx_region' ?_
          refine sx_rd' (rd_move' rfl) rfl rfl (wt_none' rfl) ?_
          refine sx_rd' (rd_move' rfl) rfl rfl (wt_none' rfl) ?_
          refine sx_rd' (rd_assign' rfl) rfl rfl (wt_none' rfl) ?_
          refine sx_rd' (rd_assign' rfl) rfl rfl (wt_none' rfl) ?_
          refine sx_nil' ?_
          show TX E K8 _
          exact tx_pick' [] (sub_cons rfl (sub_cons rfl (sub_cons rfl sub_nil))) (by decide) pick_nil (hK8 (r22, x1, x2) hp)
        · replace hp := (br_f h3).symm.trans hp
          refine cx_skip' ?_
          show TX E K8 _
          exact tx_pick' [] (sub_cons rfl (sub_cons rfl (sub_cons rfl sub_nil))) (by decide) pick_nil (hK8 (x1, r22, x2) hp)
      · replace hp := (br_f h2).symm.trans hp
        refine cx_skip' ?_
        show TX E K8 _
        exact tx_pick' [] (sub_cons rfl (sub_cons rfl (sub_cons rfl sub_nil))) (by decide) pick_nil (hK8 (x1, x2, r22) hp)
  · intro K6 hK6
    refine cx_seq' fun K7 hK7 => ?_
    refine cx_region' ?_
    refine sx_rd' (rd_move' rfl) rfl rfl (wt_none' rfl) ?_
    refine sx_rd' (rd_move' rfl) rfl rfl (wt_none' rfl) ?_
    refine sx_rd' (rd_bin' rfl rfl eg_flt ru_flt) rfl rfl (wt_none' rfl) ?_
    refine sx_nil' ?_
    show TX E K7 _
    refine tx_k' hK7 ?_
    refine cx_cond' rfl (fun h1 => ?_) (fun h1 => ?_)
    · replace hp := (br_t h1).symm.trans hp
      refine cx_region' ?_
      refine sx_rd' (rd_move' rfl) rfl rfl (wt_none' rfl) ?_
      refine sx_rd' (rd_move' rfl) rfl rfl (wt_none' rfl) ?_
      refine sx_rd' (rd_assign' rfl) rfl rfl (wt_none' rfl) ?_
      refine sx_rd' (rd_assign' rfl) rfl rfl (wt_none' rfl) ?_
      refine sx_nil' ?_
      show TX E K6 _
      exact tx_pick' [] (sub_cons rfl (sub_cons rfl (sub_cons rfl sub_nil))) (by decide) pick_nil (hK6 (r20, r18) hp)
    · replace hp := (br_f h1).symm.trans hp
      refine cx_skip' ?_
      show TX E K6 _
      exact tx_pick' [] (sub_cons rfl (sub_cons rfl (sub_cons rfl sub_nil))) (by decide) pick_nil (hK6 (r18, r20) hp)

def math_Sqrt (k : Nat) (a0 : Nat) : Option (Nat) :=
  (some (gsqrt a0)) >>= fun r4 =>
  some r4

theorem math_Sqrt_sim {k : Nat}  (a0 : Nat) {out : Nat} (hp : math_Sqrt k a0 = some out) : Go.Sx.Fn Try.prog 30 [(Vl (.float .f64 a0))] [] (fun w : Unit => (Fl out)) (fun w => []) := by
  unfold math_Sqrt at hp
  refine fn_of Try.func30 rfl Try.ntmps30 rfl fun E hM => ?_
  refine cx_seq' fun K1 hK1 => ?_
  refine cx_region' ?_
  refine sx_rd' (rd_assign' rfl) rfl rfl (wt_none' rfl) ?_
  refine sx_nil' ?_
  show TX E K1 _
  refine tx_k' hK1 ?_
  refine cx_seq' fun K2 hK2 => ?_
  refine cx_region' ?_
  refine sx_rd' (rd_move' rfl) rfl rfl (wt_none' rfl) ?_
  obtain ⟨r4, hr4, hp⟩ := bind_some hp
  refine sx_ox' (ox_extf' rfl (fl_v rfl) Try.func39 (extf39 (Option.some.inj hr4)) rfl rfl) (wt_none' rfl) fun _ => ?_
  refine sx_rd' (rd_assign' rfl) rfl rfl (wt_none' rfl) ?_
  refine sx_nil' ?_
  show TX E K2 _
  refine tx_k' hK2 ?_
  refine cx_retc' ?_
  replace hp := Option.some.inj hp
  subst hp
  refine tx_pick' (L' := [(2, (Fl r4))]) (H' := []) [] (sub_cons rfl sub_nil) (by decide) pick_nil ?_
  exact tx_ret1' Try.results30 rfl () (rv_tmp' rfl) (List.Sublist.refl _)

def r3_Triangle_Area (k : Nat) (a0_0 : Nat) (a0_1 : Nat) (a0_2 : Nat) (a0_3 : Nat) (a0_4 : Nat) (a0_5 : Nat) (a0_6 : Nat) (a0_7 : Nat) (a0_8 : Nat) : Option (Nat) :=
  (r3_Triangle_orderedLengths k a0_0 a0_1 a0_2 a0_3 a0_4 a0_5 a0_6 a0_7 a0_8) >>= fun r9 =>
  (some (gadd r9.2.1 r9.1)) >>= fun r16 =>
  (some (gadd r9.2.2 r16)) >>= fun r17 =>
  (some (gsub r9.2.2 r9.2.1)) >>= fun r21 =>
  (some (gsub r9.1 r21)) >>= fun r22 =>
  (some (gmul r17 r22)) >>= fun r23 =>
  (some (gsub r9.2.2 r9.2.1)) >>= fun r28 =>
  (some (gadd r9.1 r28)) >>= fun r29 =>
  (some (gsub r9.2.1 r9.1)) >>= fun r33 =>
  (some (gadd r9.2.2 r33)) >>= fun r34 =>
  (some (gmul r29 r34)) >>= fun r35 =>
  (some (gmul r23 r35)) >>= fun r36 =>
  (num r36) >>= fun u1 =>
  (math_Sqrt k r36) >>= fun r38 =>
  (some (gdiv r38 4616189618054758400)) >>= fun r39 =>
  some r39

theorem r3_Triangle_Area_sim {k : Nat}  (a0_0 : Nat) (a0_1 : Nat) (a0_2 : Nat) (a0_3 : Nat) (a0_4 : Nat) (a0_5 : Nat) (a0_6 : Nat) (a0_7 : Nat) (a0_8 : Nat) {out : Nat} (hp : r3_Triangle_Area k a0_0 a0_1 a0_2 a0_3 a0_4 a0_5 a0_6 a0_7 a0_8 = some out) : Go.Sx.Fn Try.prog 24 [(Ag [(Vl (.float .f64 a0_0)), (Vl (.float .f64 a0_1)), (Vl (.float .f64 a0_2)), (Vl (.float .f64 a0_3)), (Vl (.float .f64 a0_4)), (Vl (.float .f64 a0_5)), (Vl (.float .f64 a0_6)), (Vl (.float .f64 a0_7)), (Vl (.float .f64 a0_8))])] [] (fun w : Unit => (Fl out)) (fun w => []) := by
  unfold r3_Triangle_Area at hp
  refine fn_of Try.func24 rfl Try.ntmps24 rfl fun E hM => ?_
  refine cx_seq' fun K1 hK1 => ?_
  refine cx_region' ?_
  refine sx_ox' (ox_box' rfl (lv_ag _) rfl rfl) (wt_none' rfl) fun q1 => ?_
  refine sx_rd' (rd_assign' rfl) rfl rfl (wt_none' rfl) ?_
  refine sx_nil' ?_
  show TX E K1 _
  refine tx_k' hK1 ?_
  refine cx_seq' fun K2 hK2 => ?_
  refine cx_region' ?_
  refine sx_rd' (rd_load_agg' (i := 0) (o := 0) (nn := 9) rfl ⟨rfl, rfl, rfl, rfl⟩ rfl agg53 (l' := [(Vl (.float .f64 a0_0)), (Vl (.float .f64 a0_1)), (Vl (.float .f64 a0_2)), (Vl (.float .f64 a0_3)), (Vl (.float .f64 a0_4)), (Vl (.float .f64 a0_5)), (Vl (.float .f64 a0_6)), (Vl (.float .f64 a0_7)), (Vl (.float .f64 a0_8))]) rfl) rfl rfl (wt_none' rfl) ?_
  obtain ⟨r9, hr9, hp⟩ := bind_some hp
  refine sx_ox' (ox_calln' (ent_fn' Try.func33 isn33 rfl rfl) (r3_Triangle_orderedLengths_sim _ _ _ _ _ _ _ _ _ hr9 : Go.Sx.Fn Try.prog 33 [(Ag [(Vl (.float .f64 a0_0)), (Vl (.float .f64 a0_1)), (Vl (.float .f64 a0_2)), (Vl (.float .f64 a0_3)), (Vl (.float .f64 a0_4)), (Vl (.float .f64 a0_5)), (Vl (.float .f64 a0_6)), (Vl (.float .f64 a0_7)), (Vl (.float .f64 a0_8))])] [] (fun x : Unit => (Tu [(Vl (.float .f64 r9.1)), (Vl (.float .f64 r9.2.1)), (Vl (.float .f64 r9.2.2))])) (fun x => [])) (Hn := fun x : Unit => [⟨.pointer (some q1), [(Vl (.float .f64 a0_0)), (Vl (.float .f64 a0_1)), (Vl (.float .f64 a0_2)), (Vl (.float .f64 a0_3)), (Vl (.float .f64 a0_4)), (Vl (.float .f64 a0_5)), (Vl (.float .f64 a0_6)), (Vl (.float .f64 a0_7)), (Vl (.float .f64 a0_8))], 53, none⟩]) (fun _ => rfl) rfl rfl) (wt_none' rfl) fun ⟨⟩ => ?_
  refine sx_rd' (rd_move' rfl) rfl rfl (wt_none' rfl) ?_
  refine sx_rd' (rd_extract' rfl rfl) rfl rfl (wt_none' rfl) ?_
  refine sx_rd' (rd_extract' rfl rfl) rfl rfl (wt_none' rfl) ?_
  refine sx_rd' (rd_extract' rfl rfl) rfl rfl (wt_none' rfl) ?_
  refine sx_rd' (rd_assign' rfl) rfl rfl (wt_none' rfl) ?_
  refine sx_rd' (rd_assign' rfl) rfl rfl (wt_none' rfl) ?_
  refine sx_rd' (rd_assign' rfl) rfl rfl (wt_none' rfl) ?_
  refine sx_nil' ?_
  show TX E K2 _
  refine tx_k' hK2 ?_
  refine cx_seq' fun K3 hK3 => ?_
  refine cx_region' ?_
  refine sx_rd' (rd_move' rfl) rfl rfl (wt_none' rfl) ?_
  refine sx_rd' (rd_move' rfl) rfl rfl (wt_none' rfl) ?_
  refine sx_rd' (rd_move' rfl) rfl rfl (wt_none' rfl) ?_
  obtain ⟨r16, hr16, hp⟩ := bind_some hp
  refine sx_ox' (ox_fop' (.inl rfl) (fl_v rfl) (fl_v rfl) (Option.some.inj hr16) rfl rfl) (wt_none' rfl) fun _ => ?_
  obtain ⟨r17, hr17, hp⟩ := bind_some hp
  refine sx_ox' (ox_fop' (.inl rfl) (fl_v rfl) (fl_f rfl) (Option.some.inj hr17) rfl rfl) (wt_none' rfl) fun _ => ?_
  refine sx_rd' (rd_move' rfl) rfl rfl (wt_none' rfl) ?_
  refine sx_rd' (rd_move' rfl) rfl rfl (wt_none' rfl) ?_
  refine sx_rd' (rd_move' rfl) rfl rfl (wt_none' rfl) ?_
  obtain ⟨r21, hr21, hp⟩ := bind_some hp
  refine sx_ox' (ox_fop' (.inr (.inl rfl)) (fl_v rfl) (fl_v rfl) (Option.some.inj hr21) rfl rfl) (wt_none' rfl) fun _ => ?_
  obtain ⟨r22, hr22, hp⟩ := bind_some hp
  refine sx_ox' (ox_fop' (.inr (.inl rfl)) (fl_v rfl) (fl_f rfl) (Option.some.inj hr22) rfl rfl) (wt_none' rfl) fun _ => ?_
  obtain ⟨r23, hr23, hp⟩ := bind_some hp
  refine sx_ox' (ox_fop' (.inr (.inr (.inl rfl))) (fl_f rfl) (fl_f rfl) (Option.some.inj hr23) rfl rfl) (wt_none' rfl) fun _ => ?_
  refine sx_rd' (rd_assign' rfl) rfl rfl (wt_none' rfl) ?_
  refine sx_nil' ?_
  show TX E K3 _
  refine tx_k' hK3 ?_
  refine cx_seq' fun K4 hK4 => ?_
  refine cx_region' ?_
  refine sx_rd' (rd_move' rfl) rfl rfl (wt_none' rfl) ?_
  refine sx_rd' (rd_move' rfl) rfl rfl (wt_none' rfl) ?_
  refine sx_rd' (rd_move' rfl) rfl rfl (wt_none' rfl) ?_
  refine sx_rd' (rd_move' rfl) rfl rfl (wt_none' rfl) ?_
  obtain ⟨r28, hr28, hp⟩ := bind_some hp
  refine sx_ox' (ox_fop' (.inr (.inl rfl)) (fl_v rfl) (fl_v rfl) (Option.some.inj hr28) rfl rfl) (wt_none' rfl) fun _ => ?_
  obtain ⟨r29, hr29, hp⟩ := bind_some hp
  refine sx_ox' (ox_fop' (.inl rfl) (fl_v rfl) (fl_f rfl) (Option.some.inj hr29) rfl rfl) (wt_none' rfl) fun _ => ?_
  refine sx_rd' (rd_move' rfl) rfl rfl (wt_none' rfl) ?_
  refine sx_rd' (rd_move' rfl) rfl rfl (wt_none' rfl) ?_
  refine sx_rd' (rd_move' rfl) rfl rfl (wt_none' rfl) ?_
  obtain ⟨r33, hr33, hp⟩ := bind_some hp
  refine sx_ox' (ox_fop' (.inr (.inl rfl)) (fl_v rfl) (fl_v rfl) (Option.some.inj hr33) rfl rfl) (wt_none' rfl) fun _ => ?_
  obtain ⟨r34, hr34, hp⟩ := bind_some hp
  refine sx_ox' (ox_fop' (.inl rfl) (fl_v rfl) (fl_f rfl) (Option.some.inj hr34) rfl rfl) (wt_none' rfl) fun _ => ?_
  obtain ⟨r35, hr35, hp⟩ := bind_some hp
  refine sx_ox' (ox_fop' (.inr (.inr (.inl rfl))) (fl_f rfl) (fl_f rfl) (Option.some.inj hr35) rfl rfl) (wt_none' rfl) fun _ => ?_
  obtain ⟨r36, hr36, hp⟩ := bind_some hp
  refine sx_ox' (ox_fop' (.inr (.inr (.inl rfl))) (fl_f rfl) (fl_f rfl) (Option.some.inj hr36) rfl rfl) (wt_none' rfl) fun _ => ?_
  refine sx_rd' (rd_assign' rfl) rfl rfl (wt_none' rfl) ?_
  refine sx_nil' ?_
  show TX E K4 _
  refine tx_k' hK4 ?_
  refine cx_seq' fun K5 hK5 => ?_
  refine cx_region' ?_
  refine sx_rd' (rd_move' rfl) rfl rfl (wt_none' rfl) ?_
  obtain ⟨u1, hu1, hp⟩ := bind_some hp
  refine tx_slot' 37 (y := (Vl (.float .f64 r36))) rfl (imp_num (num_some hu1).2) ?_
  obtain ⟨r38, hr38, hp⟩ := bind_some hp
  refine sx_ox' (ox_calln' (ent_fn' Try.func30 isn30 rfl rfl) (math_Sqrt_sim _ hr38 : Go.Sx.Fn Try.prog 30 [(Vl (.float .f64 r36))] [] (fun x : Unit => (Fl r38)) (fun x => [])) (Hn := fun x : Unit => [⟨.pointer (some q1), [(Vl (.float .f64 a0_0)), (Vl (.float .f64 a0_1)), (Vl (.float .f64 a0_2)), (Vl (.float .f64 a0_3)), (Vl (.float .f64 a0_4)), (Vl (.float .f64 a0_5)), (Vl (.float .f64 a0_6)), (Vl (.float .f64 a0_7)), (Vl (.float .f64 a0_8))], 53, none⟩]) (fun _ => rfl) rfl rfl) (wt_none' rfl) fun ⟨⟩ => ?_
  obtain ⟨r39, hr39, hp⟩ := bind_some hp
  refine sx_ox' (ox_fop' (.inr (.inr (.inr rfl))) (fl_f rfl) (fl_v rfl) (Option.some.inj hr39) rfl rfl) (wt_none' rfl) fun _ => ?_
  refine sx_rd' (rd_assign' rfl) rfl rfl (wt_none' rfl) ?_
  refine sx_nil' ?_
  show TX E K5 _
  refine tx_k' hK5 ?_
  refine cx_retc' ?_
  replace hp := Option.some.inj hp
  subst hp
  refine tx_pick' (L' := [(2, (Fl r39))]) (H' := []) [] (sub_cons rfl sub_nil) (by decide) pick_nil ?_
  exact tx_ret1' Try.results24 rfl () (rv_tmp' rfl) (List.Sublist.refl _)

def impl_TriangleAreaIn3 (k : Nat) (a0_0 : Nat) (a0_1 : Nat) (a0_2 : Nat) (a1_0 : Nat) (a1_1 : Nat) (a1_2 : Nat) (a2_0 : Nat) (a2_1 : Nat) (a2_2 : Nat) : Option (Nat) :=
  (impl_vec3 k a0_0 a0_1 a0_2) >>= fun r8 =>
  (impl_vec3 k a1_0 a1_1 a1_2) >>= fun r10 =>
  (impl_vec3 k a2_0 a2_1 a2_2) >>= fun r12 =>
  (r3_Triangle_Area k r8.1 r8.2.1 r8.2.2 r10.1 r10.2.1 r10.2.2 r12.1 r12.2.1 r12.2.2) >>= fun r14 =>
  some r14

theorem impl_TriangleAreaIn3_sim {k : Nat}  (a0_0 : Nat) (a0_1 : Nat) (a0_2 : Nat) (a1_0 : Nat) (a1_1 : Nat) (a1_2 : Nat) (a2_0 : Nat) (a2_1 : Nat) (a2_2 : Nat) {out : Nat} (hp : impl_TriangleAreaIn3 k a0_0 a0_1 a0_2 a1_0 a1_1 a1_2 a2_0 a2_1 a2_2 = some out) : Go.Sx.Fn Try.prog 14 [(Ag [(Vl (.float .f64 a0_0)), (Vl (.float .f64 a0_1)), (Vl (.float .f64 a0_2))]), (Ag [(Vl (.float .f64 a1_0)), (Vl (.float .f64 a1_1)), (Vl (.float .f64 a1_2))]), (Ag [(Vl (.float .f64 a2_0)), (Vl (.float .f64 a2_1)), (Vl (.float .f64 a2_2))])] [] (fun w : Unit => (Fl out)) (fun w => []) := by
  unfold impl_TriangleAreaIn3 at hp
  refine fn_of Try.func14 rfl Try.ntmps14 rfl fun E hM => ?_
  refine cx_seq' fun K1 hK1 => ?_
  refine cx_region' ?_
  refine sx_ox' (ox_box' rfl (lv_ag _) rfl rfl) (wt_none' rfl) fun q3 => ?_
  refine sx_ox' (ox_box' rfl (lv_ag _) rfl rfl) (wt_none' rfl) fun q4 => ?_
  refine sx_ox' (ox_box' rfl (lv_ag _) rfl rfl) (wt_none' rfl) fun q5 => ?_
  refine sx_rd' (rd_assign' rfl) rfl rfl (wt_none' rfl) ?_
  refine sx_nil' ?_
  show TX E K1 _
  refine tx_k' hK1 ?_
  refine cx_seq' fun K2 hK2 => ?_
  refine cx_plan' [] [] [(0, 1), (2, 1), (4, 1), (1, 0), (3, 0), (5, 0), (6, 1), (7, 0), (8, 1)] mixed (by kernel_rfl) ?_
  refine px_rd' rfl (rd_load_agg' (i := 2) (o := 0) (nn := 3) rfl ⟨rfl, rfl, rfl, rfl⟩ rfl agg35 (l' := [(Vl (.float .f64 a0_0)), (Vl (.float .f64 a0_1)), (Vl (.float .f64 a0_2))]) rfl) rfl rfl (wt_none' rfl) ?_
  refine px_rd' rfl (rd_load_agg' (i := 1) (o := 0) (nn := 3) rfl ⟨rfl, rfl, rfl, rfl⟩ rfl agg35 (l' := [(Vl (.float .f64 a1_0)), (Vl (.float .f64 a1_1)), (Vl (.float .f64 a1_2))]) rfl) rfl rfl (wt_none' rfl) ?_
  refine px_rd' rfl (rd_load_agg' (i := 0) (o := 0) (nn := 3) rfl ⟨rfl, rfl, rfl, rfl⟩ rfl agg35 (l' := [(Vl (.float .f64 a2_0)), (Vl (.float .f64 a2_1)), (Vl (.float .f64 a2_2))]) rfl) rfl rfl (wt_none' rfl) ?_
  obtain ⟨r8, hr8, hp⟩ := bind_some hp
  refine px_ox' rfl (ox_calln' (ent_fn' Try.func23 isn23 rfl rfl) (impl_vec3_sim _ _ _ hr8 : Go.Sx.Fn Try.prog 23 [(Ag [(Vl (.float .f64 a0_0)), (Vl (.float .f64 a0_1)), (Vl (.float .f64 a0_2))])] [] (fun x : Unit => (Ag [(Vl (.float .f64 r8.1)), (Vl (.float .f64 r8.2.1)), (Vl (.float .f64 r8.2.2))])) (fun x => [])) (Hn := fun x : Unit => [⟨.pointer (some q5), [(Vl (.float .f64 a2_0)), (Vl (.float .f64 a2_1)), (Vl (.float .f64 a2_2))], 35, none⟩, ⟨.pointer (some q4), [(Vl (.float .f64 a1_0)), (Vl (.float .f64 a1_1)), (Vl (.float .f64 a1_2))], 35, none⟩, ⟨.pointer (some q3), [(Vl (.float .f64 a0_0)), (Vl (.float .f64 a0_1)), (Vl (.float .f64 a0_2))], 35, none⟩]) (fun _ => rfl) rfl rfl) rfl bs_nil (wt_none' rfl) fun ⟨⟩ => ?_
  obtain ⟨r10, hr10, hp⟩ := bind_some hp
  refine px_ox' rfl (ox_calln' (ent_fn' Try.func23 isn23 rfl rfl) (impl_vec3_sim _ _ _ hr10 : Go.Sx.Fn Try.prog 23 [(Ag [(Vl (.float .f64 a1_0)), (Vl (.float .f64 a1_1)), (Vl (.float .f64 a1_2))])] [] (fun x : Unit => (Ag [(Vl (.float .f64 r10.1)), (Vl (.float .f64 r10.2.1)), (Vl (.float .f64 r10.2.2))])) (fun x => [])) (Hn := fun x : Unit => [⟨.pointer (some q5), [(Vl (.float .f64 a2_0)), (Vl (.float .f64 a2_1)), (Vl (.float .f64 a2_2))], 35, none⟩, ⟨.pointer (some q4), [(Vl (.float .f64 a1_0)), (Vl (.float .f64 a1_1)), (Vl (.float .f64 a1_2))], 35, none⟩, ⟨.pointer (some q3), [(Vl (.float .f64 a0_0)), (Vl (.float .f64 a0_1)), (Vl (.float .f64 a0_2))], 35, none⟩]) (fun _ => rfl) rfl rfl) rfl bs_nil (wt_none' rfl) fun ⟨⟩ => ?_
  obtain ⟨r12, hr12, hp⟩ := bind_some hp
  refine px_ox' rfl (ox_calln' (ent_fn' Try.func23 isn23 rfl rfl) (impl_vec3_sim _ _ _ hr12 : Go.Sx.Fn Try.prog 23 [(Ag [(Vl (.float .f64 a2_0)), (Vl (.float .f64 a2_1)), (Vl (.float .f64 a2_2))])] [] (fun x : Unit => (Ag [(Vl (.float .f64 r12.1)), (Vl (.float .f64 r12.2.1)), (Vl (.float .f64 r12.2.2))])) (fun x => [])) (Hn := fun x : Unit => [⟨.pointer (some q5), [(Vl (.float .f64 a2_0)), (Vl (.float .f64 a2_1)), (Vl (.float .f64 a2_2))], 35, none⟩, ⟨.pointer (some q4), [(Vl (.float .f64 a1_0)), (Vl (.float .f64 a1_1)), (Vl (.float .f64 a1_2))], 35, none⟩, ⟨.pointer (some q3), [(Vl (.float .f64 a0_0)), (Vl (.float .f64 a0_1)), (Vl (.float .f64 a0_2))], 35, none⟩]) (fun _ => rfl) rfl rfl) rfl bs_nil (wt_none' rfl) fun ⟨⟩ => ?_
  refine px_rd' rfl (rd_builda' (qs := [(0, [(Vl (.float .f64 r8.1)), (Vl (.float .f64 r8.2.1)), (Vl (.float .f64 r8.2.2))]), (1, [(Vl (.float .f64 r10.1)), (Vl (.float .f64 r10.2.1)), (Vl (.float .f64 r10.2.2))]), (2, [(Vl (.float .f64 r12.1)), (Vl (.float .f64 r12.2.1)), (Vl (.float .f64 r12.2.2))])]) (r := [(Vl (.float .f64 r8.1)), (Vl (.float .f64 r8.2.1)), (Vl (.float .f64 r8.2.2)), (Vl (.float .f64 r10.1)), (Vl (.float .f64 r10.2.1)), (Vl (.float .f64 r10.2.2)), (Vl (.float .f64 r12.1)), (Vl (.float .f64 r12.2.1)), (Vl (.float .f64 r12.2.2))]) ⟨rfl, ⟨_, rfl, (lv_ag _)⟩, ⟨rfl, ⟨_, rfl, (lv_ag _)⟩, ⟨rfl, ⟨_, rfl, (lv_ag _)⟩, trivial⟩⟩⟩ Try.underlying53 info50 info53 rfl rfl rfl) rfl rfl (wt_none' rfl) ?_
  obtain ⟨r14, hr14, hp⟩ := bind_some hp
  refine px_ox' rfl (ox_calln' (ent_fn' Try.func24 isn24 rfl rfl) (r3_Triangle_Area_sim _ _ _ _ _ _ _ _ _ hr14 : Go.Sx.Fn Try.prog 24 [(Ag [(Vl (.float .f64 r8.1)), (Vl (.float .f64 r8.2.1)), (Vl (.float .f64 r8.2.2)), (Vl (.float .f64 r10.1)), (Vl (.float .f64 r10.2.1)), (Vl (.float .f64 r10.2.2)), (Vl (.float .f64 r12.1)), (Vl (.float .f64 r12.2.1)), (Vl (.float .f64 r12.2.2))])] [] (fun x : Unit => (Fl r14)) (fun x => [])) (Hn := fun x : Unit => [⟨.pointer (some q5), [(Vl (.float .f64 a2_0)), (Vl (.float .f64 a2_1)), (Vl (.float .f64 a2_2))], 35, none⟩, ⟨.pointer (some q4), [(Vl (.float .f64 a1_0)), (Vl (.float .f64 a1_1)), (Vl (.float .f64 a1_2))], 35, none⟩, ⟨.pointer (some q3), [(Vl (.float .f64 a0_0)), (Vl (.float .f64 a0_1)), (Vl (.float .f64 a0_2))], 35, none⟩]) (fun _ => rfl) rfl rfl) rfl bs_nil (wt_none' rfl) fun ⟨⟩ => ?_
  refine px_rd' rfl (rd_assign' rfl) rfl rfl (wt_none' rfl) ?_
  refine px_nil' ?_
  show TX E K2 _
  refine tx_k' hK2 ?_
  refine cx_retc' ?_
  replace hp := Option.some.inj hp
  subst hp
  refine tx_pick' (L' := [(6, (Fl r14))]) (H' := []) [] (sub_cons rfl sub_nil) (by decide) pick_nil ?_
  exact tx_ret1' Try.results14 rfl () (rv_tmp' rfl) (List.Sublist.refl _)

def r3_Add (k : Nat) (a0_0 : Nat) (a0_1 : Nat) (a0_2 : Nat) (a1_0 : Nat) (a1_1 : Nat) (a1_2 : Nat) : Option (Nat × Nat × Nat) :=
  (some (gadd a0_0 a1_0)) >>= fun r9 =>
  (some (gadd a0_1 a1_1)) >>= fun r14 =>
  (some (gadd a0_2 a1_2)) >>= fun r19 =>
  some (r9, r14, r19)

theorem r3_Add_sim {k : Nat}  (a0_0 : Nat) (a0_1 : Nat) (a0_2 : Nat) (a1_0 : Nat) (a1_1 : Nat) (a1_2 : Nat) {out : Nat × Nat × Nat} (hp : r3_Add k a0_0 a0_1 a0_2 a1_0 a1_1 a1_2 = some out) : Go.Sx.Fn Try.prog 35 [(Ag [(Vl (.float .f64 a0_0)), (Vl (.float .f64 a0_1)), (Vl (.float .f64 a0_2))]), (Ag [(Vl (.float .f64 a1_0)), (Vl (.float .f64 a1_1)), (Vl (.float .f64 a1_2))])] [] (fun w : Unit => (Ag [(Fl out.1), (Fl out.2.1), (Fl out.2.2)])) (fun w => []) := by
  unfold r3_Add at hp
  refine fn_of Try.func35 rfl Try.ntmps35 rfl fun E hM => ?_
  refine cx_seq' fun K1 hK1 => ?_
  refine cx_region' ?_
  refine sx_ox' (ox_box' rfl (lv_ag _) rfl rfl) (wt_none' rfl) fun q2 => ?_
  refine sx_ox' (ox_box' rfl (lv_ag _) rfl rfl) (wt_none' rfl) fun q3 => ?_
  refine sx_ox' (ox_alloc' info50 rfl rfl rfl rfl (l := [(Vl (.float .f64 0)), (Vl (.float .f64 0)), (Vl (.float .f64 0))]) rfl) (wt_none' rfl) fun q4 => ?_
  refine sx_nil' ?_
  show TX E K1 _
  refine tx_k' hK1 ?_
  refine cx_seq' fun K2 hK2 => ?_
  refine cx_region' ?_
  refine sx_rd' (rd_field0' rfl Try.underlying50 rfl info22 rfl) rfl rfl (wt_none' rfl) ?_
  refine sx_rd' (rd_load' (i := 2) (o := 0) rfl ⟨rfl, rfl, rfl, rfl⟩ rfl flat22) rfl rfl (wt_none' rfl) ?_
  refine sx_rd' (rd_field0' rfl Try.underlying50 rfl info22 rfl) rfl rfl (wt_none' rfl) ?_
  refine sx_rd' (rd_load' (i := 1) (o := 0) rfl ⟨rfl, rfl, rfl, rfl⟩ rfl flat22) rfl rfl (wt_none' rfl) ?_
  obtain ⟨r9, hr9, hp⟩ := bind_some hp
  refine sx_ox' (ox_fop' (.inl rfl) (fl_v rfl) (fl_v rfl) (Option.some.inj hr9) rfl rfl) (wt_none' rfl) fun _ => ?_
  refine sx_rd' (rd_field' (off := 1) rfl Try.underlying50 rfl info22 rfl) rfl rfl (wt_none' rfl) ?_
  refine sx_rd' (rd_load' (i := 2) (o := 1) rfl ⟨rfl, rfl, rfl, rfl⟩ rfl flat22) rfl rfl (wt_none' rfl) ?_
  refine sx_rd' (rd_field' (off := 1) rfl Try.underlying50 rfl info22 rfl) rfl rfl (wt_none' rfl) ?_
  refine sx_rd' (rd_load' (i := 1) (o := 1) rfl ⟨rfl, rfl, rfl, rfl⟩ rfl flat22) rfl rfl (wt_none' rfl) ?_
  obtain ⟨r14, hr14, hp⟩ := bind_some hp
  refine sx_ox' (ox_fop' (.inl rfl) (fl_v rfl) (fl_v rfl) (Option.some.inj hr14) rfl rfl) (wt_none' rfl) fun _ => ?_
  refine sx_rd' (rd_field' (off := 2) rfl Try.underlying50 rfl info22 rfl) rfl rfl (wt_none' rfl) ?_
  refine sx_rd' (rd_load' (i := 2) (o := 2) rfl ⟨rfl, rfl, rfl, rfl⟩ rfl flat22) rfl rfl (wt_none' rfl) ?_
  refine sx_rd' (rd_field' (off := 2) rfl Try.underlying50 rfl info22 rfl) rfl rfl (wt_none' rfl) ?_
  refine sx_rd' (rd_load' (i := 1) (o := 2) rfl ⟨rfl, rfl, rfl, rfl⟩ rfl flat22) rfl rfl (wt_none' rfl) ?_
  obtain ⟨r19, hr19, hp⟩ := bind_some hp
  refine sx_ox' (ox_fop' (.inl rfl) (fl_v rfl) (fl_v rfl) (Option.some.inj hr19) rfl rfl) (wt_none' rfl) fun _ => ?_
  refine sx_rd' (rd_build' (pls := [(0, 1), (1, 1), (2, 1)]) (qs := [(0, [(Fl r9)]), (1, [(Fl r14)]), (2, [(Fl r19)])]) (r := [(Fl r9), (Fl r14), (Fl r19)]) ⟨rfl, ⟨_, rfl, (lv_fl _)⟩, ⟨rfl, ⟨_, rfl, (lv_fl _)⟩, ⟨rfl, ⟨_, rfl, (lv_fl _)⟩, trivial⟩⟩⟩ Try.underlying50 has50 places50 info50 rfl rfl rfl) rfl rfl (wt_none' rfl) ?_
  refine sx_ox' (ox_store' (i := 0) (o := 0) rfl rfl (lv_ag _) ⟨rfl, rfl, rfl, rfl⟩ rfl info50 rfl (H' := [⟨.pointer (some q4), [(Fl r9), (Fl r14), (Fl r19)], 50, none⟩, ⟨.pointer (some q3), [(Vl (.float .f64 a1_0)), (Vl (.float .f64 a1_1)), (Vl (.float .f64 a1_2))], 50, none⟩, ⟨.pointer (some q2), [(Vl (.float .f64 a0_0)), (Vl (.float .f64 a0_1)), (Vl (.float .f64 a0_2))], 50, none⟩]) rfl) (wt_none' rfl) fun _ => ?_
  refine sx_nil' ?_
  show TX E K2 _
  refine tx_k' hK2 ?_
  refine cx_retc' ?_
  replace hp := Option.some.inj hp
  subst hp
  refine tx_pick' (L' := [(4, (Vl (.pointer (some q4))))]) (H' := [⟨.pointer (some q4), [(Fl r9), (Fl r14), (Fl r19)], 50, none⟩]) [0] (sub_cons rfl sub_nil) (by decide) (pick_cons rfl pick_nil) ?_
  exact tx_ret1' Try.results35 rfl () (rv_cell_agg' (i := 0) (o := 0) (nn := 3) rfl ⟨rfl, rfl, rfl, rfl⟩ rfl agg50 rfl) (List.nil_sublist _)

def r3_Scale (k : Nat) (a0 : Nat) (a1_0 : Nat) (a1_1 : Nat) (a1_2 : Nat) : Option (Nat × Nat × Nat) :=
  (some (gmul a0 a1_0)) >>= fun r8 =>
  (some (gmul a0 a1_1)) >>= fun r12 =>
  (some (gmul a0 a1_2)) >>= fun r16 =>
  some (r8, r12, r16)

theorem r3_Scale_sim {k : Nat}  (a0 : Nat) (a1_0 : Nat) (a1_1 : Nat) (a1_2 : Nat) {out : Nat × Nat × Nat} (hp : r3_Scale k a0 a1_0 a1_1 a1_2 = some out) : Go.Sx.Fn Try.prog 34 [(Vl (.float .f64 a0)), (Ag [(Vl (.float .f64 a1_0)), (Vl (.float .f64 a1_1)), (Vl (.float .f64 a1_2))])] [] (fun w : Unit => (Ag [(Fl out.1), (Fl out.2.1), (Fl out.2.2)])) (fun w => []) := by
  unfold r3_Scale at hp
  refine fn_of Try.func34 rfl Try.ntmps34 rfl fun E hM => ?_
  refine cx_seq' fun K1 hK1 => ?_
  refine cx_region' ?_
  refine sx_ox' (ox_box' rfl (lv_ag _) rfl rfl) (wt_none' rfl) fun q3 => ?_
  refine sx_ox' (ox_alloc' info50 rfl rfl rfl rfl (l := [(Vl (.float .f64 0)), (Vl (.float .f64 0)), (Vl (.float .f64 0))]) rfl) (wt_none' rfl) fun q4 => ?_
  refine sx_nil' ?_
  show TX E K1 _
  refine tx_k' hK1 ?_
  refine cx_seq' fun K2 hK2 => ?_
  refine cx_region' ?_
  refine sx_rd' (rd_move' rfl) rfl rfl (wt_none' rfl) ?_
  refine sx_rd' (rd_field0' rfl Try.underlying50 rfl info22 rfl) rfl rfl (wt_none' rfl) ?_
  refine sx_rd' (rd_load' (i := 1) (o := 0) rfl ⟨rfl, rfl, rfl, rfl⟩ rfl flat22) rfl rfl (wt_none' rfl) ?_
  obtain ⟨r8, hr8, hp⟩ := bind_some hp
  refine sx_ox' (ox_fop' (.inr (.inr (.inl rfl))) (fl_v rfl) (fl_v rfl) (Option.some.inj hr8) rfl rfl) (wt_none' rfl) fun _ => ?_
  refine sx_rd' (rd_move' rfl) rfl rfl (wt_none' rfl) ?_
  refine sx_rd' (rd_field' (off := 1) rfl Try.underlying50 rfl info22 rfl) rfl rfl (wt_none' rfl) ?_
  refine sx_rd' (rd_load' (i := 1) (o := 1) rfl ⟨rfl, rfl, rfl, rfl⟩ rfl flat22) rfl rfl (wt_none' rfl) ?_
  obtain ⟨r12, hr12, hp⟩ := bind_some hp
  refine sx_ox' (ox_fop' (.inr (.inr (.inl rfl))) (fl_v rfl) (fl_v rfl) (Option.some.inj hr12) rfl rfl) (wt_none' rfl) fun _ => ?_
  refine sx_rd' (rd_move' rfl) rfl rfl (wt_none' rfl) ?_
  refine sx_rd' (rd_field' (off := 2) rfl Try.underlying50 rfl info22 rfl) rfl rfl (wt_none' rfl) ?_
  refine sx_rd' (rd_load' (i := 1) (o := 2) rfl ⟨rfl, rfl, rfl, rfl⟩ rfl flat22) rfl rfl (wt_none' rfl) ?_
  obtain ⟨r16, hr16, hp⟩ := bind_some hp
  refine sx_ox' (ox_fop' (.inr (.inr (.inl rfl))) (fl_v rfl) (fl_v rfl) (Option.some.inj hr16) rfl rfl) (wt_none' rfl) fun _ => ?_
  refine sx_rd' (rd_build' (pls := [(0, 1), (1, 1), (2, 1)]) (qs := [(0, [(Fl r8)]), (1, [(Fl r12)]), (2, [(Fl r16)])]) (r := [(Fl r8), (Fl r12), (Fl r16)]) ⟨rfl, ⟨_, rfl, (lv_fl _)⟩, ⟨rfl, ⟨_, rfl, (lv_fl _)⟩, ⟨rfl, ⟨_, rfl, (lv_fl _)⟩, trivial⟩⟩⟩ Try.underlying50 has50 places50 info50 rfl rfl rfl) rfl rfl (wt_none' rfl) ?_
  refine sx_ox' (ox_store' (i := 0) (o := 0) rfl rfl (lv_ag _) ⟨rfl, rfl, rfl, rfl⟩ rfl info50 rfl (H' := [⟨.pointer (some q4), [(Fl r8), (Fl r12), (Fl r16)], 50, none⟩, ⟨.pointer (some q3), [(Vl (.float .f64 a1_0)), (Vl (.float .f64 a1_1)), (Vl (.float .f64 a1_2))], 50, none⟩]) rfl) (wt_none' rfl) fun _ => ?_
  refine sx_nil' ?_
  show TX E K2 _
  refine tx_k' hK2 ?_
  refine cx_retc' ?_
  replace hp := Option.some.inj hp
  subst hp
  refine tx_pick' (L' := [(4, (Vl (.pointer (some q4))))]) (H' := [⟨.pointer (some q4), [(Fl r8), (Fl r12), (Fl r16)], 50, none⟩]) [0] (sub_cons rfl sub_nil) (by decide) (pick_cons rfl pick_nil) ?_
  exact tx_ret1' Try.results34 rfl () (rv_cell_agg' (i := 0) (o := 0) (nn := 3) rfl ⟨rfl, rfl, rfl, rfl⟩ rfl agg50 rfl) (List.nil_sublist _)

def r3_Triangle_Centroid (k : Nat) (a0_0 : Nat) (a0_1 : Nat) (a0_2 : Nat) (a0_3 : Nat) (a0_4 : Nat) (a0_5 : Nat) (a0_6 : Nat) (a0_7 : Nat) (a0_8 : Nat) : Option (Nat × Nat × Nat) :=
  (r3_Add k a0_0 a0_1 a0_2 a0_3 a0_4 a0_5) >>= fun r7 =>
  (num r7.1) >>= fun u1 =>
  (num r7.2.1) >>= fun u2 =>
  (num r7.2.2) >>= fun u3 =>
  (r3_Add k r7.1 r7.2.1 r7.2.2 a0_6 a0_7 a0_8) >>= fun r10 =>
  (num r10.1) >>= fun u4 =>
  (num r10.2.1) >>= fun u5 =>
  (num r10.2.2) >>= fun u6 =>
  (r3_Scale k 4599676419421066581 r10.1 r10.2.1 r10.2.2) >>= fun r11 =>
  some (r11.1, r11.2.1, r11.2.2)

theorem r3_Triangle_Centroid_sim {k : Nat}  (a0_0 : Nat) (a0_1 : Nat) (a0_2 : Nat) (a0_3 : Nat) (a0_4 : Nat) (a0_5 : Nat) (a0_6 : Nat) (a0_7 : Nat) (a0_8 : Nat) {out : Nat × Nat × Nat} (hp : r3_Triangle_Centroid k a0_0 a0_1 a0_2 a0_3 a0_4 a0_5 a0_6 a0_7 a0_8 = some out) : Go.Sx.Fn Try.prog 26 [(Ag [(Vl (.float .f64 a0_0)), (Vl (.float .f64 a0_1)), (Vl (.float .f64 a0_2)), (Vl (.float .f64 a0_3)), (Vl (.float .f64 a0_4)), (Vl (.float .f64 a0_5)), (Vl (.float .f64 a0_6)), (Vl (.float .f64 a0_7)), (Vl (.float .f64 a0_8))])] [] (fun w : Unit => (Ag [(Fl out.1), (Fl out.2.1), (Fl out.2.2)])) (fun w => []) := by
  unfold r3_Triangle_Centroid at hp
  refine fn_of Try.func26 rfl Try.ntmps26 rfl fun E hM => ?_
  refine cx_seq' fun K1 hK1 => ?_
  refine cx_region' ?_
  refine sx_ox' (ox_box' rfl (lv_ag _) rfl rfl) (wt_none' rfl) fun q1 => ?_
  refine sx_ox' (ox_alloc' info50 rfl rfl rfl rfl (l := [(Vl (.float .f64 0)), (Vl (.float .f64 0)), (Vl (.float .f64 0))]) rfl) (wt_none' rfl) fun q2 => ?_
  refine sx_nil' ?_
  show TX E K1 _
  refine tx_k' hK1 ?_
  refine cx_seq' fun K2 hK2 => ?_
  refine cx_plan' [] [(9, 1)] [(0, 1), (1, 1), (2, 1), (3, 1), (5, 1), (6, 1), (4, 0), (7, 0), (8, 0), (9, 0)] mixed (by kernel_rfl) ?_
  refine px_rd' rfl (rd_ixa' (p' := q1) rfl rfl (by decide) (by decide) Try.underlying53 info50 rfl) rfl rfl (wt_none' rfl) ?_
  refine px_rd' rfl (rd_load_agg' (i := 1) (o := 0) (nn := 3) rfl ⟨rfl, rfl, rfl, rfl⟩ rfl agg50 (l' := [(Vl (.float .f64 a0_0)), (Vl (.float .f64 a0_1)), (Vl (.float .f64 a0_2))]) rfl) rfl rfl (wt_none' rfl) ?_
  refine px_rd' rfl (rd_ixa' (p' := (q1).add 3) rfl rfl (by decide) (by decide) Try.underlying53 info50 rfl) rfl rfl (wt_none' rfl) ?_
  refine px_rd' rfl (rd_load_agg' (i := 1) (o := 3) (nn := 3) rfl ⟨rfl, rfl, rfl, rfl⟩ rfl agg50 (l' := [(Vl (.float .f64 a0_3)), (Vl (.float .f64 a0_4)), (Vl (.float .f64 a0_5))]) rfl) rfl rfl (wt_none' rfl) ?_
  refine px_rd' rfl (rd_ixa' (p' := (q1).add 6) rfl rfl (by decide) (by decide) Try.underlying53 info50 rfl) rfl rfl (wt_none' rfl) ?_
  refine px_rd' rfl (rd_load_agg' (i := 1) (o := 6) (nn := 3) rfl ⟨rfl, rfl, rfl, rfl⟩ rfl agg50 (l' := [(Vl (.float .f64 a0_6)), (Vl (.float .f64 a0_7)), (Vl (.float .f64 a0_8))]) rfl) rfl rfl (wt_none' rfl) ?_
  obtain ⟨r7, hr7, hp⟩ := bind_some hp
  refine px_ox' rfl (ox_calln' (ent_fn' Try.func35 isn35 rfl rfl) (r3_Add_sim _ _ _ _ _ _ hr7 : Go.Sx.Fn Try.prog 35 [(Ag [(Vl (.float .f64 a0_0)), (Vl (.float .f64 a0_1)), (Vl (.float .f64 a0_2))]), (Ag [(Vl (.float .f64 a0_3)), (Vl (.float .f64 a0_4)), (Vl (.float .f64 a0_5))])] [] (fun x : Unit => (Ag [(Fl r7.1), (Fl r7.2.1), (Fl r7.2.2)])) (fun x => [])) (Hn := fun x : Unit => [⟨.pointer (some q2), [(Vl (.float .f64 0)), (Vl (.float .f64 0)), (Vl (.float .f64 0))], 50, none⟩, ⟨.pointer (some q1), [(Vl (.float .f64 a0_0)), (Vl (.float .f64 a0_1)), (Vl (.float .f64 a0_2)), (Vl (.float .f64 a0_3)), (Vl (.float .f64 a0_4)), (Vl (.float .f64 a0_5)), (Vl (.float .f64 a0_6)), (Vl (.float .f64 a0_7)), (Vl (.float .f64 a0_8))], 53, none⟩]) (fun _ => rfl) rfl rfl) rfl bs_nil (wt_none' rfl) fun ⟨⟩ => ?_
  obtain ⟨u1, hu1, hp⟩ := bind_some hp
  obtain ⟨u2, hu2, hp⟩ := bind_some hp
  obtain ⟨u3, hu3, hp⟩ := bind_some hp
  refine tx_slot' 7 (y := (Ag [(Vl (.float .f64 r7.1)), (Vl (.float .f64 r7.2.1)), (Vl (.float .f64 r7.2.2))])) rfl (imp_ag ⟨(imp_num (num_some hu1).2), (imp_num (num_some hu2).2), (imp_num (num_some hu3).2), trivial⟩) ?_
  obtain ⟨r10, hr10, hp⟩ := bind_some hp
  refine px_ox' rfl (ox_calln' (ent_fn' Try.func35 isn35 rfl rfl) (r3_Add_sim _ _ _ _ _ _ hr10 : Go.Sx.Fn Try.prog 35 [(Ag [(Vl (.float .f64 r7.1)), (Vl (.float .f64 r7.2.1)), (Vl (.float .f64 r7.2.2))]), (Ag [(Vl (.float .f64 a0_6)), (Vl (.float .f64 a0_7)), (Vl (.float .f64 a0_8))])] [] (fun x : Unit => (Ag [(Fl r10.1), (Fl r10.2.1), (Fl r10.2.2)])) (fun x => [])) (Hn := fun x : Unit => [⟨.pointer (some q2), [(Vl (.float .f64 0)), (Vl (.float .f64 0)), (Vl (.float .f64 0))], 50, none⟩, ⟨.pointer (some q1), [(Vl (.float .f64 a0_0)), (Vl (.float .f64 a0_1)), (Vl (.float .f64 a0_2)), (Vl (.float .f64 a0_3)), (Vl (.float .f64 a0_4)), (Vl (.float .f64 a0_5)), (Vl (.float .f64 a0_6)), (Vl (.float .f64 a0_7)), (Vl (.float .f64 a0_8))], 53, none⟩]) (fun _ => rfl) rfl rfl) rfl bs_nil (wt_none' rfl) fun ⟨⟩ => ?_
  obtain ⟨u4, hu4, hp⟩ := bind_some hp
  obtain ⟨u5, hu5, hp⟩ := bind_some hp
  obtain ⟨u6, hu6, hp⟩ := bind_some hp
  refine tx_slot' 10 (y := (Ag [(Vl (.float .f64 r10.1)), (Vl (.float .f64 r10.2.1)), (Vl (.float .f64 r10.2.2))])) rfl (imp_ag ⟨(imp_num (num_some hu4).2), (imp_num (num_some hu5).2), (imp_num (num_some hu6).2), trivial⟩) ?_
  obtain ⟨r11, hr11, hp⟩ := bind_some hp
  refine px_ox' rfl (ox_calln' (ent_fn' Try.func34 isn34 rfl rfl) (r3_Scale_sim _ _ _ _ hr11 : Go.Sx.Fn Try.prog 34 [(Vl (.float .f64 4599676419421066581)), (Ag [(Vl (.float .f64 r10.1)), (Vl (.float .f64 r10.2.1)), (Vl (.float .f64 r10.2.2))])] [] (fun x : Unit => (Ag [(Fl r11.1), (Fl r11.2.1), (Fl r11.2.2)])) (fun x => [])) (Hn := fun x : Unit => [⟨.pointer (some q2), [(Vl (.float .f64 0)), (Vl (.float .f64 0)), (Vl (.float .f64 0))], 50, none⟩, ⟨.pointer (some q1), [(Vl (.float .f64 a0_0)), (Vl (.float .f64 a0_1)), (Vl (.float .f64 a0_2)), (Vl (.float .f64 a0_3)), (Vl (.float .f64 a0_4)), (Vl (.float .f64 a0_5)), (Vl (.float .f64 a0_6)), (Vl (.float .f64 a0_7)), (Vl (.float .f64 a0_8))], 53, none⟩]) (fun _ => rfl) rfl rfl) rfl bs_nil (wt_none' rfl) fun ⟨⟩ => ?_
  refine px_oxv' rfl (oxv_store (i := 0) (o := 0) rfl rfl (lv_ag _) ⟨rfl, rfl, rfl, rfl⟩ rfl info50 rfl (H' := [⟨.pointer (some q2), [(Fl r11.1), (Fl r11.2.1), (Fl r11.2.2)], 50, none⟩, ⟨.pointer (some q1), [(Vl (.float .f64 a0_0)), (Vl (.float .f64 a0_1)), (Vl (.float .f64 a0_2)), (Vl (.float .f64 a0_3)), (Vl (.float .f64 a0_4)), (Vl (.float .f64 a0_5)), (Vl (.float .f64 a0_6)), (Vl (.float .f64 a0_7)), (Vl (.float .f64 a0_8))], 53, none⟩]) rfl) rfl rfl bo_nil (wt_none' rfl) fun _ => ?_
  refine px_nil' ?_
  show TX E K2 _
  refine tx_k' hK2 ?_
  refine cx_retc' ?_
  replace hp := Option.some.inj hp
  subst hp
  refine tx_pick' (L' := [(2, (Vl (.pointer (some q2))))]) (H' := [⟨.pointer (some q2), [(Fl r11.1), (Fl r11.2.1), (Fl r11.2.2)], 50, none⟩]) [0] (sub_cons rfl sub_nil) (by decide) (pick_cons rfl pick_nil) ?_
  exact tx_ret1' Try.results26 rfl () (rv_cell_agg' (i := 0) (o := 0) (nn := 3) rfl ⟨rfl, rfl, rfl, rfl⟩ rfl agg50 rfl) (List.nil_sublist _)

def impl_plainP3 (k : Nat) (a0_0 : Nat) (a0_1 : Nat) (a0_2 : Nat) : Option (Nat × Nat × Nat) :=
  some (a0_0, a0_1, a0_2)

theorem impl_plainP3_sim {k : Nat}  (a0_0 : Nat) (a0_1 : Nat) (a0_2 : Nat) {out : Nat × Nat × Nat} (hp : impl_plainP3 k a0_0 a0_1 a0_2 = some out) : Go.Sx.Fn Try.prog 25 [(Ag [(Vl (.float .f64 a0_0)), (Vl (.float .f64 a0_1)), (Vl (.float .f64 a0_2))])] [] (fun w : Unit => (Ag [(Vl (.float .f64 out.1)), (Vl (.float .f64 out.2.1)), (Vl (.float .f64 out.2.2))])) (fun w => []) := by
  unfold impl_plainP3 at hp
  refine fn_of Try.func25 rfl Try.ntmps25 rfl fun E hM => ?_
  refine cx_seq' fun K1 hK1 => ?_
  refine cx_region' ?_
  refine sx_ox' (ox_box' rfl (lv_ag _) rfl rfl) (wt_none' rfl) fun q1 => ?_
  refine sx_ox' (ox_alloc' info35 rfl rfl rfl rfl (l := [(Vl (.float .f64 0)), (Vl (.float .f64 0)), (Vl (.float .f64 0))]) rfl) (wt_none' rfl) fun q2 => ?_
  refine sx_nil' ?_
  show TX E K1 _
  refine tx_k' hK1 ?_
  refine cx_seq' fun K2 hK2 => ?_
  refine cx_region' ?_
  refine sx_rd' (rd_field0' rfl Try.underlying50 rfl info22 rfl) rfl rfl (wt_none' rfl) ?_
  refine sx_rd' (rd_load' (i := 1) (o := 0) rfl ⟨rfl, rfl, rfl, rfl⟩ rfl flat22) rfl rfl (wt_none' rfl) ?_
  refine sx_rd' (rd_field' (off := 1) rfl Try.underlying50 rfl info22 rfl) rfl rfl (wt_none' rfl) ?_
  refine sx_rd' (rd_load' (i := 1) (o := 1) rfl ⟨rfl, rfl, rfl, rfl⟩ rfl flat22) rfl rfl (wt_none' rfl) ?_
  refine sx_rd' (rd_field' (off := 2) rfl Try.underlying50 rfl info22 rfl) rfl rfl (wt_none' rfl) ?_
  refine sx_rd' (rd_load' (i := 1) (o := 2) rfl ⟨rfl, rfl, rfl, rfl⟩ rfl flat22) rfl rfl (wt_none' rfl) ?_
  refine sx_rd' (rd_build' (pls := [(0, 1), (1, 1), (2, 1)]) (qs := [(0, [(Vl (.float .f64 a0_0))]), (1, [(Vl (.float .f64 a0_1))]), (2, [(Vl (.float .f64 a0_2))])]) (r := [(Vl (.float .f64 a0_0)), (Vl (.float .f64 a0_1)), (Vl (.float .f64 a0_2))]) ⟨rfl, ⟨_, rfl, (lv_vl rfl rfl)⟩, ⟨rfl, ⟨_, rfl, (lv_vl rfl rfl)⟩, ⟨rfl, ⟨_, rfl, (lv_vl rfl rfl)⟩, trivial⟩⟩⟩ Try.underlying35 has35 places35 info35 rfl rfl rfl) rfl rfl (wt_none' rfl) ?_
  refine sx_ox' (ox_store' (i := 0) (o := 0) rfl rfl (lv_ag _) ⟨rfl, rfl, rfl, rfl⟩ rfl info35 rfl (H' := [⟨.pointer (some q2), [(Vl (.float .f64 a0_0)), (Vl (.float .f64 a0_1)), (Vl (.float .f64 a0_2))], 35, none⟩, ⟨.pointer (some q1), [(Vl (.float .f64 a0_0)), (Vl (.float .f64 a0_1)), (Vl (.float .f64 a0_2))], 50, none⟩]) rfl) (wt_none' rfl) fun _ => ?_
  refine sx_nil' ?_
  show TX E K2 _
  refine tx_k' hK2 ?_
  refine cx_retc' ?_
  replace hp := Option.some.inj hp
  subst hp
  refine tx_pick' (L' := [(2, (Vl (.pointer (some q2))))]) (H' := [⟨.pointer (some q2), [(Vl (.float .f64 a0_0)), (Vl (.float .f64 a0_1)), (Vl (.float .f64 a0_2))], 35, none⟩]) [0] (sub_cons rfl sub_nil) (by decide) (pick_cons rfl pick_nil) ?_
  exact tx_ret1' Try.results25 rfl () (rv_cell_agg' (i := 0) (o := 0) (nn := 3) rfl ⟨rfl, rfl, rfl, rfl⟩ rfl agg35 rfl) (List.nil_sublist _)

def impl_TriangleCentroid3 (k : Nat) (a0_0 : Nat) (a0_1 : Nat) (a0_2 : Nat) (a1_0 : Nat) (a1_1 : Nat) (a1_2 : Nat) (a2_0 : Nat) (a2_1 : Nat) (a2_2 : Nat) : Option (Nat × Nat × Nat) :=
  (impl_vec3 k a0_0 a0_1 a0_2) >>= fun r8 =>
  (impl_vec3 k a1_0 a1_1 a1_2) >>= fun r10 =>
  (impl_vec3 k a2_0 a2_1 a2_2) >>= fun r12 =>
  (r3_Triangle_Centroid k r8.1 r8.2.1 r8.2.2 r10.1 r10.2.1 r10.2.2 r12.1 r12.2.1 r12.2.2) >>= fun r14 =>
  (num r14.1) >>= fun u1 =>
  (num r14.2.1) >>= fun u2 =>
  (num r14.2.2) >>= fun u3 =>
  (impl_plainP3 k r14.1 r14.2.1 r14.2.2) >>= fun r15 =>
  some (r15.1, r15.2.1, r15.2.2)

theorem impl_TriangleCentroid3_sim {k : Nat}  (a0_0 : Nat) (a0_1 : Nat) (a0_2 : Nat) (a1_0 : Nat) (a1_1 : Nat) (a1_2 : Nat) (a2_0 : Nat) (a2_1 : Nat) (a2_2 : Nat) {out : Nat × Nat × Nat} (hp : impl_TriangleCentroid3 k a0_0 a0_1 a0_2 a1_0 a1_1 a1_2 a2_0 a2_1 a2_2 = some out) : Go.Sx.Fn Try.prog 15 [(Ag [(Vl (.float .f64 a0_0)), (Vl (.float .f64 a0_1)), (Vl (.float .f64 a0_2))]), (Ag [(Vl (.float .f64 a1_0)), (Vl (.float .f64 a1_1)), (Vl (.float .f64 a1_2))]), (Ag [(Vl (.float .f64 a2_0)), (Vl (.float .f64 a2_1)), (Vl (.float .f64 a2_2))])] [] (fun w : Unit => (Ag [(Vl (.float .f64 out.1)), (Vl (.float .f64 out.2.1)), (Vl (.float .f64 out.2.2))])) (fun w => []) := by
  unfold impl_TriangleCentroid3 at hp
  refine fn_of Try.func15 rfl Try.ntmps15 rfl fun E hM => ?_
  refine cx_seq' fun K1 hK1 => ?_
  refine cx_region' ?_
  refine sx_ox' (ox_box' rfl (lv_ag _) rfl rfl) (wt_none' rfl) fun q3 => ?_
  refine sx_ox' (ox_box' rfl (lv_ag _) rfl rfl) (wt_none' rfl) fun q4 => ?_
  refine sx_ox' (ox_box' rfl (lv_ag _) rfl rfl) (wt_none' rfl) fun q5 => ?_
  refine sx_ox' (ox_alloc' info35 rfl rfl rfl rfl (l := [(Vl (.float .f64 0)), (Vl (.float .f64 0)), (Vl (.float .f64 0))]) rfl) (wt_none' rfl) fun q6 => ?_
  refine sx_nil' ?_
  show TX E K1 _
  refine tx_k' hK1 ?_
  refine cx_seq' fun K2 hK2 => ?_
  refine cx_plan' [] [(9, 1)] [(0, 1), (2, 1), (4, 1), (1, 0), (3, 0), (5, 0), (6, 1), (7, 0), (8, 0), (9, 0)] mixed (by kernel_rfl) ?_
  refine px_rd' rfl (rd_load_agg' (i := 3) (o := 0) (nn := 3) rfl ⟨rfl, rfl, rfl, rfl⟩ rfl agg35 (l' := [(Vl (.float .f64 a0_0)), (Vl (.float .f64 a0_1)), (Vl (.float .f64 a0_2))]) rfl) rfl rfl (wt_none' rfl) ?_
  refine px_rd' rfl (rd_load_agg' (i := 2) (o := 0) (nn := 3) rfl ⟨rfl, rfl, rfl, rfl⟩ rfl agg35 (l' := [(Vl (.float .f64 a1_0)), (Vl (.float .f64 a1_1)), (Vl (.float .f64 a1_2))]) rfl) rfl rfl (wt_none' rfl) ?_
  refine px_rd' rfl (rd_load_agg' (i := 1) (o := 0) (nn := 3) rfl ⟨rfl, rfl, rfl, rfl⟩ rfl agg35 (l' := [(Vl (.float .f64 a2_0)), (Vl (.float .f64 a2_1)), (Vl (.float .f64 a2_2))]) rfl) rfl rfl (wt_none' rfl) ?_
  obtain ⟨r8, hr8, hp⟩ := bind_some hp
  refine px_ox' rfl (ox_calln' (ent_fn' Try.func23 isn23 rfl rfl) (impl_vec3_sim _ _ _ hr8 : Go.Sx.Fn Try.prog 23 [(Ag [(Vl (.float .f64 a0_0)), (Vl (.float .f64 a0_1)), (Vl (.float .f64 a0_2))])] [] (fun x : Unit => (Ag [(Vl (.float .f64 r8.1)), (Vl (.float .f64 r8.2.1)), (Vl (.float .f64 r8.2.2))])) (fun x => [])) (Hn := fun x : Unit => [⟨.pointer (some q6), [(Vl (.float .f64 0)), (Vl (.float .f64 0)), (Vl (.float .f64 0))], 35, none⟩, ⟨.pointer (some q5), [(Vl (.float .f64 a2_0)), (Vl (.float .f64 a2_1)), (Vl (.float .f64 a2_2))], 35, none⟩, ⟨.pointer (some q4), [(Vl (.float .f64 a1_0)), (Vl (.float .f64 a1_1)), (Vl (.float .f64 a1_2))], 35, none⟩, ⟨.pointer (some q3), [(Vl (.float .f64 a0_0)), (Vl (.float .f64 a0_1)), (Vl (.float .f64 a0_2))], 35, none⟩]) (fun _ => rfl) rfl rfl) rfl bs_nil (wt_none' rfl) fun ⟨⟩ => ?_
  obtain ⟨r10, hr10, hp⟩ := bind_some hp
  refine px_ox' rfl (ox_calln' (ent_fn' Try.func23 isn23 rfl rfl) (impl_vec3_sim _ _ _ hr10 : Go.Sx.Fn Try.prog 23 [(Ag [(Vl (.float .f64 a1_0)), (Vl (.float .f64 a1_1)), (Vl (.float .f64 a1_2))])] [] (fun x : Unit => (Ag [(Vl (.float .f64 r10.1)), (Vl (.float .f64 r10.2.1)), (Vl (.float .f64 r10.2.2))])) (fun x => [])) (Hn := fun x : Unit => [⟨.pointer (some q6), [(Vl (.float .f64 0)), (Vl (.float .f64 0)), (Vl (.float .f64 0))], 35, none⟩, ⟨.pointer (some q5), [(Vl (.float .f64 a2_0)), (Vl (.float .f64 a2_1)), (Vl (.float .f64 a2_2))], 35, none⟩, ⟨.pointer (some q4), [(Vl (.float .f64 a1_0)), (Vl (.float .f64 a1_1)), (Vl (.float .f64 a1_2))], 35, none⟩, ⟨.pointer (some q3), [(Vl (.float .f64 a0_0)), (Vl (.float .f64 a0_1)), (Vl (.float .f64 a0_2))], 35, none⟩]) (fun _ => rfl) rfl rfl) rfl bs_nil (wt_none' rfl) fun ⟨⟩ => ?_
  obtain ⟨r12, hr12, hp⟩ := bind_some hp
  refine px_ox' rfl (ox_calln' (ent_fn' Try.func23 isn23 rfl rfl) (impl_vec3_sim _ _ _ hr12 : Go.Sx.Fn Try.prog 23 [(Ag [(Vl (.float .f64 a2_0)), (Vl (.float .f64 a2_1)), (Vl (.float .f64 a2_2))])] [] (fun x : Unit => (Ag [(Vl (.float .f64 r12.1)), (Vl (.float .f64 r12.2.1)), (Vl (.float .f64 r12.2.2))])) (fun x => [])) (Hn := fun x : Unit => [⟨.pointer (some q6), [(Vl (.float .f64 0)), (Vl (.float .f64 0)), (Vl (.float .f64 0))], 35, none⟩, ⟨.pointer (some q5), [(Vl (.float .f64 a2_0)), (Vl (.float .f64 a2_1)), (Vl (.float .f64 a2_2))], 35, none⟩, ⟨.pointer (some q4), [(Vl (.float .f64 a1_0)), (Vl (.float .f64 a1_1)), (Vl (.float .f64 a1_2))], 35, none⟩, ⟨.pointer (some q3), [(Vl (.float .f64 a0_0)), (Vl (.float .f64 a0_1)), (Vl (.float .f64 a0_2))], 35, none⟩]) (fun _ => rfl) rfl rfl) rfl bs_nil (wt_none' rfl) fun ⟨⟩ => ?_
  refine px_rd' rfl (rd_builda' (qs := [(0, [(Vl (.float .f64 r8.1)), (Vl (.float .f64 r8.2.1)), (Vl (.float .f64 r8.2.2))]), (1, [(Vl (.float .f64 r10.1)), (Vl (.float .f64 r10.2.1)), (Vl (.float .f64 r10.2.2))]), (2, [(Vl (.float .f64 r12.1)), (Vl (.float .f64 r12.2.1)), (Vl (.float .f64 r12.2.2))])]) (r := [(Vl (.float .f64 r8.1)), (Vl (.float .f64 r8.2.1)), (Vl (.float .f64 r8.2.2)), (Vl (.float .f64 r10.1)), (Vl (.float .f64 r10.2.1)), (Vl (.float .f64 r10.2.2)), (Vl (.float .f64 r12.1)), (Vl (.float .f64 r12.2.1)), (Vl (.float .f64 r12.2.2))]) ⟨rfl, ⟨_, rfl, (lv_ag _)⟩, ⟨rfl, ⟨_, rfl, (lv_ag _)⟩, ⟨rfl, ⟨_, rfl, (lv_ag _)⟩, trivial⟩⟩⟩ Try.underlying53 info50 info53 rfl rfl rfl) rfl rfl (wt_none' rfl) ?_
  obtain ⟨r14, hr14, hp⟩ := bind_some hp
  refine px_ox' rfl (ox_calln' (ent_fn' Try.func26 isn26 rfl rfl) (r3_Triangle_Centroid_sim _ _ _ _ _ _ _ _ _ hr14 : Go.Sx.Fn Try.prog 26 [(Ag [(Vl (.float .f64 r8.1)), (Vl (.float .f64 r8.2.1)), (Vl (.float .f64 r8.2.2)), (Vl (.float .f64 r10.1)), (Vl (.float .f64 r10.2.1)), (Vl (.float .f64 r10.2.2)), (Vl (.float .f64 r12.1)), (Vl (.float .f64 r12.2.1)), (Vl (.float .f64 r12.2.2))])] [] (fun x : Unit => (Ag [(Fl r14.1), (Fl r14.2.1), (Fl r14.2.2)])) (fun x => [])) (Hn := fun x : Unit => [⟨.pointer (some q6), [(Vl (.float .f64 0)), (Vl (.float .f64 0)), (Vl (.float .f64 0))], 35, none⟩, ⟨.pointer (some q5), [(Vl (.float .f64 a2_0)), (Vl (.float .f64 a2_1)), (Vl (.float .f64 a2_2))], 35, none⟩, ⟨.pointer (some q4), [(Vl (.float .f64 a1_0)), (Vl (.float .f64 a1_1)), (Vl (.float .f64 a1_2))], 35, none⟩, ⟨.pointer (some q3), [(Vl (.float .f64 a0_0)), (Vl (.float .f64 a0_1)), (Vl (.float .f64 a0_2))], 35, none⟩]) (fun _ => rfl) rfl rfl) rfl bs_nil (wt_none' rfl) fun ⟨⟩ => ?_
  obtain ⟨u1, hu1, hp⟩ := bind_some hp
  obtain ⟨u2, hu2, hp⟩ := bind_some hp
  obtain ⟨u3, hu3, hp⟩ := bind_some hp
  refine tx_slot' 14 (y := (Ag [(Vl (.float .f64 r14.1)), (Vl (.float .f64 r14.2.1)), (Vl (.float .f64 r14.2.2))])) rfl (imp_ag ⟨(imp_num (num_some hu1).2), (imp_num (num_some hu2).2), (imp_num (num_some hu3).2), trivial⟩) ?_
  obtain ⟨r15, hr15, hp⟩ := bind_some hp
  refine px_ox' rfl (ox_calln' (ent_fn' Try.func25 isn25 rfl rfl) (impl_plainP3_sim _ _ _ hr15 : Go.Sx.Fn Try.prog 25 [(Ag [(Vl (.float .f64 r14.1)), (Vl (.float .f64 r14.2.1)), (Vl (.float .f64 r14.2.2))])] [] (fun x : Unit => (Ag [(Vl (.float .f64 r15.1)), (Vl (.float .f64 r15.2.1)), (Vl (.float .f64 r15.2.2))])) (fun x => [])) (Hn := fun x : Unit => [⟨.pointer (some q6), [(Vl (.float .f64 0)), (Vl (.float .f64 0)), (Vl (.float .f64 0))], 35, none⟩, ⟨.pointer (some q5), [(Vl (.float .f64 a2_0)), (Vl (.float .f64 a2_1)), (Vl (.float .f64 a2_2))], 35, none⟩, ⟨.pointer (some q4), [(Vl (.float .f64 a1_0)), (Vl (.float .f64 a1_1)), (Vl (.float .f64 a1_2))], 35, none⟩, ⟨.pointer (some q3), [(Vl (.float .f64 a0_0)), (Vl (.float .f64 a0_1)), (Vl (.float .f64 a0_2))], 35, none⟩]) (fun _ => rfl) rfl rfl) rfl bs_nil (wt_none' rfl) fun ⟨⟩ => ?_
  refine px_oxv' rfl (oxv_store (i := 0) (o := 0) rfl rfl (lv_ag _) ⟨rfl, rfl, rfl, rfl⟩ rfl info35 rfl (H' := [⟨.pointer (some q6), [(Vl (.float .f64 r15.1)), (Vl (.float .f64 r15.2.1)), (Vl (.float .f64 r15.2.2))], 35, none⟩, ⟨.pointer (some q5), [(Vl (.float .f64 a2_0)), (Vl (.float .f64 a2_1)), (Vl (.float .f64 a2_2))], 35, none⟩, ⟨.pointer (some q4), [(Vl (.float .f64 a1_0)), (Vl (.float .f64 a1_1)), (Vl (.float .f64 a1_2))], 35, none⟩, ⟨.pointer (some q3), [(Vl (.float .f64 a0_0)), (Vl (.float .f64 a0_1)), (Vl (.float .f64 a0_2))], 35, none⟩]) rfl) rfl rfl bo_nil (wt_none' rfl) fun _ => ?_
  refine px_nil' ?_
  show TX E K2 _
  refine tx_k' hK2 ?_
  refine cx_retc' ?_
  replace hp := Option.some.inj hp
  subst hp
  refine tx_pick' (L' := [(6, (Vl (.pointer (some q6))))]) (H' := [⟨.pointer (some q6), [(Vl (.float .f64 r15.1)), (Vl (.float .f64 r15.2.1)), (Vl (.float .f64 r15.2.2))], 35, none⟩]) [0] (sub_cons rfl sub_nil) (by decide) (pick_cons rfl pick_nil) ?_
  exact tx_ret1' Try.results15 rfl () (rv_cell_agg' (i := 0) (o := 0) (nn := 3) rfl ⟨rfl, rfl, rfl, rfl⟩ rfl agg35 rfl) (List.nil_sublist _)

def math_Abs (k : Nat) (a0 : Nat) : Option (Nat) :=
  some (ffrom (iandn .u64 (fbits a0) 9223372036854775808))

theorem math_Abs_sim {k : Nat}  (a0 : Nat) {out : Nat} (hp : math_Abs k a0 = some out) : Go.Sx.Fn Try.prog 11 [(Vl (.float .f64 a0))] [] (fun w : Unit => (Vl (.float .f64 out))) (fun w => []) := by
  unfold math_Abs at hp
  refine fn_of Try.func11 rfl Try.ntmps11 rfl fun E hM => ?_
  refine cx_seq' fun K1 hK1 => ?_
  refine cx_region' ?_
  refine sx_rd' (rd_assign' rfl) rfl rfl (wt_none' rfl) ?_
  refine sx_nil' ?_
  show TX E K1 _
  refine tx_k' hK1 ?_
  refine cx_seq' fun K2 hK2 => ?_
  refine cx_region' ?_
  refine sx_rd' (rd_move' rfl) rfl rfl (wt_none' rfl) ?_
  refine sx_rd' (rd_ext' (us := [.float .f64 a0]) rfl (ext22 ex_bits)) rfl rfl (wt_none' rfl) ?_
  refine sx_rd' (rd_bin' rfl rfl eg_int ru_andn) rfl rfl (wt_none' rfl) ?_
  refine sx_rd' (rd_ext' (us := [.int .u64 (iandn .u64 (fbits a0) 9223372036854775808)]) rfl (ext21 ex_from)) rfl rfl (wt_none' rfl) ?_
  refine sx_rd' (rd_assign' rfl) rfl rfl (wt_none' rfl) ?_
  refine sx_nil' ?_
  show TX E K2 _
  refine tx_k' hK2 ?_
  refine cx_retc' ?_
  replace hp := Option.some.inj hp
  subst hp
  refine tx_pick' (L' := [(2, (Vl (.float .f64 (ffrom (iandn .u64 (fbits a0) 9223372036854775808)))))]) (H' := []) [] (sub_cons rfl sub_nil) (by decide) pick_nil ?_
  exact tx_ret1' Try.results11 rfl () (rv_tmp' rfl) (List.Sublist.refl _)

def laws_FnTriangle3_j5 (k : Nat) (x5 : Bool) : Option (Bool) :=
  some x5
def laws_FnTriangle3_j4 (k : Nat) (a0_2 : Nat) (a1_2 : Nat) (a2_2 : Nat) (r57 : Nat × Nat × Nat) (x4 : Bool) : Option (Bool) :=
  br x4
    ((some (gadd a0_2 a1_2)) >>= fun r115 =>
    (some (gadd r115 a2_2)) >>= fun r118 =>
    (some (gdiv r118 4613937818241073152)) >>= fun r119 =>
    (some (gsub r57.2.2 r119)) >>= fun r120 =>
    (num r120) >>= fun u4 =>
    (math_Abs k r120) >>= fun r121 =>
    laws_FnTriangle3_j5 k (flt r121 4472074429978902528))
    (laws_FnTriangle3_j5 k false)
def laws_FnTriangle3_j3 (k : Nat) (a0_1 : Nat) (a1_1 : Nat) (a2_1 : Nat) (r57 : Nat × Nat × Nat) (a0_2 : Nat) (a1_2 : Nat) (a2_2 : Nat) (x3 : Bool) : Option (Bool) :=
  br x3
    ((some (gadd a0_1 a1_1)) >>= fun r99 =>
    (some (gadd r99 a2_1)) >>= fun r102 =>
    (some (gdiv r102 4613937818241073152)) >>= fun r103 =>
    (some (gsub r57.2.1 r103)) >>= fun r104 =>
    (num r104) >>= fun u3 =>
    (math_Abs k r104) >>= fun r105 =>
    laws_FnTriangle3_j4 k a0_2 a1_2 a2_2 r57 (flt r105 4472074429978902528))
    (laws_FnTriangle3_j4 k a0_2 a1_2 a2_2 r57 false)
def laws_FnTriangle3_j2 (k : Nat) (a0_0 : Nat) (a1_0 : Nat) (a2_0 : Nat) (r57 : Nat × Nat × Nat) (a0_1 : Nat) (a1_1 : Nat) (a2_1 : Nat) (a0_2 : Nat) (a1_2 : Nat) (a2_2 : Nat) (x2 : Bool) : Option (Bool) :=
  br x2
    ((some (gadd a0_0 a1_0)) >>= fun r83 =>
    (some (gadd r83 a2_0)) >>= fun r86 =>
    (some (gdiv r86 4613937818241073152)) >>= fun r87 =>
    (some (gsub r57.1 r87)) >>= fun r88 =>
    (num r88) >>= fun u2 =>
    (math_Abs k r88) >>= fun r89 =>
    laws_FnTriangle3_j3 k a0_1 a1_1 a2_1 r57 a0_2 a1_2 a2_2 (flt r89 4472074429978902528))
    (laws_FnTriangle3_j3 k a0_1 a1_1 a2_1 r57 a0_2 a1_2 a2_2 false)
def laws_FnTriangle3_j1 (k : Nat) (r12 : (List Nat)) (r14 : (List Nat)) (r16 : (List Nat)) (a0_0 : Nat) (a0_1 : Nat) (a0_2 : Nat) (a1_0 : Nat) (a1_1 : Nat) (a1_2 : Nat) (a2_0 : Nat) (a2_1 : Nat) (a2_2 : Nat) (x1 : Bool) : Option (Bool) :=
  br x1
    (some true)
    ((idx ([r12, r14, r16]) 1) >>= fun r29 =>
    (idx ([r12, r14, r16]) 2) >>= fun r32 =>
    (idx ([r12, r14, r16]) 2) >>= fun r36 =>
    (idx ([r12, r14, r16]) 0) >>= fun r39 =>
    (idx ([r12, r14, r16]) 0) >>= fun r43 =>
    (idx ([r12, r14, r16]) 1) >>= fun r46 =>
    (spec_SquareN k r29 r32) >>= fun r34 =>
    (spec_SquareN k r36 r39) >>= fun r41 =>
    (spec_SquareN k r43 r46) >>= fun r48 =>
    (fmax3 r34 r41 r48) >>= fun r49 =>
    (impl_TriangleAreaIn3 k a0_0 a0_1 a0_2 a1_0 a1_1 a1_2 a2_0 a2_1 a2_2) >>= fun r53 =>
    (impl_TriangleCentroid3 k a0_0 a0_1 a0_2 a1_0 a1_1 a1_2 a2_0 a2_1 a2_2) >>= fun r57 =>
    br (fge r53 0)
      ((some (gmul r53 r53)) >>= fun r63 =>
      (laws_squareArea3 k a0_0 a0_1 a0_2 a1_0 a1_1 a1_2 a2_0 a2_1 a2_2) >>= fun r67 =>
      (some (gsub r63 r67)) >>= fun r68 =>
      (num r68) >>= fun u1 =>
      (math_Abs k r68) >>= fun r69 =>
      (some (gmul r49 r49)) >>= fun r72 =>
      (some (gdiv r72 4805340802404319232)) >>= fun r73 =>
      laws_FnTriangle3_j2 k a0_0 a1_0 a2_0 r57 a0_1 a1_1 a2_1 a0_2 a1_2 a2_2 (fle r69 r73))
      (laws_FnTriangle3_j2 k a0_0 a1_0 a2_0 r57 a0_1 a1_1 a2_1 a0_2 a1_2 a2_2 false))
def laws_FnTriangle3 (k : Nat) (a0_0 : Nat) (a0_1 : Nat) (a0_2 : Nat) (a1_0 : Nat) (a1_1 : Nat) (a1_2 : Nat) (a2_0 : Nat) (a2_1 : Nat) (a2_2 : Nat) : Option (Bool) :=
  (laws_off3 k a0_0 a0_1 a0_2) >>= fun r12 =>
  (laws_off3 k a1_0 a1_1 a1_2) >>= fun r14 =>
  (laws_off3 k a2_0 a2_1 a2_2) >>= fun r16 =>
  (spec_Grid k ([r12, r14, r16]) 3 4652007308841189376) >>= fun r19 =>
  br (!r19)
    (laws_FnTriangle3_j1 k r12 r14 r16 a0_0 a0_1 a0_2 a1_0 a1_1 a1_2 a2_0 a2_1 a2_2 true)
    ((laws_squareArea3 k a0_0 a0_1 a0_2 a1_0 a1_1 a1_2 a2_0 a2_1 a2_2) >>= fun r25 =>
    laws_FnTriangle3_j1 k r12 r14 r16 a0_0 a0_1 a0_2 a1_0 a1_1 a1_2 a2_0 a2_1 a2_2 (feq r25 0))

theorem laws_FnTriangle3_sim {k : Nat}  (a0_0 : Nat) (a0_1 : Nat) (a0_2 : Nat) (a1_0 : Nat) (a1_1 : Nat) (a1_2 : Nat) (a2_0 : Nat) (a2_1 : Nat) (a2_2 : Nat) {out : Bool} (hp : laws_FnTriangle3 k a0_0 a0_1 a0_2 a1_0 a1_1 a1_2 a2_0 a2_1 a2_2 = some out) : Go.Sx.Fn Try.prog 4 [(Ag [(Vl (.float .f64 a0_0)), (Vl (.float .f64 a0_1)), (Vl (.float .f64 a0_2))]), (Ag [(Vl (.float .f64 a1_0)), (Vl (.float .f64 a1_1)), (Vl (.float .f64 a1_2))]), (Ag [(Vl (.float .f64 a2_0)), (Vl (.float .f64 a2_1)), (Vl (.float .f64 a2_2))])] [] (fun w : Unit => (Vl (.bool out))) (fun w => []) := by
  unfold laws_FnTriangle3 at hp
  refine fn_of Try.func4 rfl Try.ntmps4 rfl fun E hM => ?_
  refine cx_seq' fun K1 hK1 => ?_
  refine cx_region' ?_
  refine sx_ox' (ox_box' rfl (lv_ag _) rfl rfl) (wt_none' rfl) fun q3 => ?_
  refine sx_ox' (ox_box' rfl (lv_ag _) rfl rfl) (wt_none' rfl) fun q4 => ?_
  refine sx_ox' (ox_box' rfl (lv_ag _) rfl rfl) (wt_none' rfl) fun q5 => ?_
  refine sx_rd' (rd_assign' rfl) rfl rfl (wt_none' rfl) ?_
  refine sx_nil' ?_
  show TX E K1 _
  refine tx_k' hK1 ?_
  refine cx_seq' fun K2 hK2 => ?_
  refine cx_plan' [] [] [(0, 1), (2, 1), (4, 1), (1, 0), (3, 0), (5, 0), (6, 0), (7, 1)] mixed (by kernel_rfl) ?_
  refine px_rd' rfl (rd_load_agg' (i := 2) (o := 0) (nn := 3) rfl ⟨rfl, rfl, rfl, rfl⟩ rfl agg35 (l' := [(Vl (.float .f64 a0_0)), (Vl (.float .f64 a0_1)), (Vl (.float .f64 a0_2))]) rfl) rfl rfl (wt_none' rfl) ?_
  refine px_rd' rfl (rd_load_agg' (i := 1) (o := 0) (nn := 3) rfl ⟨rfl, rfl, rfl, rfl⟩ rfl agg35 (l' := [(Vl (.float .f64 a1_0)), (Vl (.float .f64 a1_1)), (Vl (.float .f64 a1_2))]) rfl) rfl rfl (wt_none' rfl) ?_
  refine px_rd' rfl (rd_load_agg' (i := 0) (o := 0) (nn := 3) rfl ⟨rfl, rfl, rfl, rfl⟩ rfl agg35 (l' := [(Vl (.float .f64 a2_0)), (Vl (.float .f64 a2_1)), (Vl (.float .f64 a2_2))]) rfl) rfl rfl (wt_none' rfl) ?_
  obtain ⟨r12, hr12, hp⟩ := bind_some hp
  refine px_ox' rfl (ox_calln' (ent_fn' Try.func12 isn12 rfl rfl) (laws_off3_sim _ _ _ hr12 : Go.Sx.Fn Try.prog 12 [(Ag [(Vl (.float .f64 a0_0)), (Vl (.float .f64 a0_1)), (Vl (.float .f64 a0_2))])] [] (fun x : Unit => (Sl Kf r12)) (fun x => [])) (Hn := fun x : Unit => [⟨.pointer (some q5), [(Vl (.float .f64 a2_0)), (Vl (.float .f64 a2_1)), (Vl (.float .f64 a2_2))], 35, none⟩, ⟨.pointer (some q4), [(Vl (.float .f64 a1_0)), (Vl (.float .f64 a1_1)), (Vl (.float .f64 a1_2))], 35, none⟩, ⟨.pointer (some q3), [(Vl (.float .f64 a0_0)), (Vl (.float .f64 a0_1)), (Vl (.float .f64 a0_2))], 35, none⟩]) (fun _ => rfl) rfl rfl) rfl bs_nil (wt_none' rfl) fun ⟨⟩ => ?_
  obtain ⟨r14, hr14, hp⟩ := bind_some hp
  refine px_ox' rfl (ox_calln' (ent_fn' Try.func12 isn12 rfl rfl) (laws_off3_sim _ _ _ hr14 : Go.Sx.Fn Try.prog 12 [(Ag [(Vl (.float .f64 a1_0)), (Vl (.float .f64 a1_1)), (Vl (.float .f64 a1_2))])] [] (fun x : Unit => (Sl Kf r14)) (fun x => [])) (Hn := fun x : Unit => [⟨.pointer (some q5), [(Vl (.float .f64 a2_0)), (Vl (.float .f64 a2_1)), (Vl (.float .f64 a2_2))], 35, none⟩, ⟨.pointer (some q4), [(Vl (.float .f64 a1_0)), (Vl (.float .f64 a1_1)), (Vl (.float .f64 a1_2))], 35, none⟩, ⟨.pointer (some q3), [(Vl (.float .f64 a0_0)), (Vl (.float .f64 a0_1)), (Vl (.float .f64 a0_2))], 35, none⟩]) (fun _ => rfl) rfl rfl) rfl bs_nil (wt_none' rfl) fun ⟨⟩ => ?_
  obtain ⟨r16, hr16, hp⟩ := bind_some hp
  refine px_ox' rfl (ox_calln' (ent_fn' Try.func12 isn12 rfl rfl) (laws_off3_sim _ _ _ hr16 : Go.Sx.Fn Try.prog 12 [(Ag [(Vl (.float .f64 a2_0)), (Vl (.float .f64 a2_1)), (Vl (.float .f64 a2_2))])] [] (fun x : Unit => (Sl Kf r16)) (fun x => [])) (Hn := fun x : Unit => [⟨.pointer (some q5), [(Vl (.float .f64 a2_0)), (Vl (.float .f64 a2_1)), (Vl (.float .f64 a2_2))], 35, none⟩, ⟨.pointer (some q4), [(Vl (.float .f64 a1_0)), (Vl (.float .f64 a1_1)), (Vl (.float .f64 a1_2))], 35, none⟩, ⟨.pointer (some q3), [(Vl (.float .f64 a0_0)), (Vl (.float .f64 a0_1)), (Vl (.float .f64 a0_2))], 35, none⟩]) (fun _ => rfl) rfl rfl) rfl bs_nil (wt_none' rfl) fun ⟨⟩ => ?_
  refine px_ox' rfl (ox_rowlit' (K := (Kl Kf)) (xs := [r12, r14, r16]) (qs := [(0, [(Sl Kf r12)]), (1, [(Sl Kf r14)]), (2, [(Sl Kf r16)])]) ⟨rfl, ⟨_, rfl, (lv_sl _ _)⟩, ⟨rfl, ⟨_, rfl, (lv_sl _ _)⟩, ⟨rfl, ⟨_, rfl, (lv_sl _ _)⟩, trivial⟩⟩⟩ Try.underlying27 info25 rfl rfl rfl rfl rfl (by kernel_rfl) rfl rfl rfl) rfl bs_nil (wt_none' rfl) fun g17 => ?_
  refine px_rd' rfl (rd_assign' rfl) rfl rfl (wt_none' rfl) ?_
  refine px_nil' ?_
  show TX E K2 _
  refine tx_k' hK2 ?_
  refine cx_seq' fun K3 hK3 => ?_
  refine cx_seq' fun K4 hK4 => ?_
  refine cx_region' ?_
  refine sx_rd' (rd_move' rfl) rfl rfl (wt_none' rfl) ?_
  obtain ⟨r19, hr19, hp⟩ := bind_some hp
  refine sx_ox' (ox_brw' (frz_row 0 [(17, (Vl (Vs g17)), (Sl (Kl Kf) ([r12, r14, r16]))), (7, (Vl (Vs g17)), (Sl (Kl Kf) ([r12, r14, r16]))), (18, (Vl (Vs g17)), (Sl (Kl Kf) ([r12, r14, r16])))] (K := (Kl Kf)) (xs := [r12, r14, r16]) (by decide) rfl ⟨⟨rfl, frz_it⟩, ⟨rfl, frz_it⟩, ⟨rfl, frz_it⟩, trivial⟩ (H' := [⟨.pointer (some q5), [(Vl (.float .f64 a2_0)), (Vl (.float .f64 a2_1)), (Vl (.float .f64 a2_2))], 35, none⟩, ⟨.pointer (some q4), [(Vl (.float .f64 a1_0)), (Vl (.float .f64 a1_1)), (Vl (.float .f64 a1_2))], 35, none⟩, ⟨.pointer (some q3), [(Vl (.float .f64 a0_0)), (Vl (.float .f64 a0_1)), (Vl (.float .f64 a0_2))], 35, none⟩]) frzH_refl) (ent_fn' Try.func6 isn6 rfl rfl) (spec_Grid_sim _ _ _ hr19 : Go.Sx.Fn Try.prog 6 [(Sl (Kl Kf) ([r12, r14, r16])), (Vl (.int .i64 3)), (Vl (.float .f64 4652007308841189376))] [] (fun x : Unit => (Vl (.bool r19))) (fun x => [])) pu_vl rfl rfl) (wt_none' rfl) fun ⟨⟩ => ?_
  refine sx_rd' (rd_un' rfl ru_not) rfl rfl (wt_none' rfl) ?_
  refine sx_rd' (rd_move' rfl) rfl rfl (wt_none' rfl) ?_
  refine sx_cutn' 6 (fun (v1 : Bool) => (⟨124, [], [(3, (Vl (.pointer (some q3)))), (4, (Vl (.pointer (some q4)))), (5, (Vl (.pointer (some q5)))), (7, (Vl (Vs g17))), (27, (Vl (.bool v1)))], [⟨.pointer (some q3), [(Vl (.float .f64 a0_0)), (Vl (.float .f64 a0_1)), (Vl (.float .f64 a0_2))], 35, none⟩, ⟨.pointer (some q4), [(Vl (.float .f64 a1_0)), (Vl (.float .f64 a1_1)), (Vl (.float .f64 a1_2))], 35, none⟩, ⟨.pointer (some q5), [(Vl (.float .f64 a2_0)), (Vl (.float .f64 a2_1)), (Vl (.float .f64 a2_2))], 35, none⟩, (Rw (Kl Kf) 25 (Vs g17) ([r12, r14, r16]))]⟩ : St)) (fun (v1 : Bool) => laws_FnTriangle3_j1 k r12 r14 r16 a0_0 a0_1 a0_2 a1_0 a1_1 a1_2 a2_0 a2_1 a2_2 v1 = some out) ?_ ?_
  · rintro x1 hp
    replace hp : laws_FnTriangle3_j1 k r12 r14 r16 a0_0 a0_1 a0_2 a1_0 a1_1 a1_2 a2_0 a2_1 a2_2 x1 = some out := hp
    unfold laws_FnTriangle3_j1 at hp
    refine sx_nil' ?_
    show TX E K4 _
    refine tx_k' hK4 ?_
    refine cx_cond' rfl (fun h2 => ?_) (fun h2 => ?_)
    · replace hp := (br_t h2).symm.trans hp
      refine cx_seq' fun K6 hK6 => ?_
      refine cx_region' ?_
      refine sx_rd' (rd_assign' rfl) rfl rfl (wt_none' rfl) ?_
      refine sx_nil' ?_
      show TX E K6 _
      refine tx_k' hK6 ?_
      refine cx_retc' ?_
      replace hp := Option.some.inj hp
      subst hp
      refine tx_pick' (L' := [(6, (Vl (.bool true)))]) (H' := []) [] (sub_cons rfl sub_nil) (by decide) pick_nil ?_
      exact tx_ret1' Try.results4 rfl () (rv_tmp' rfl) (List.Sublist.refl _)
    · replace hp := (br_f h2).symm.trans hp
      refine cx_skip' ?_
      show TX E K3 _
      refine tx_k' hK3 ?_
      refine cx_seq' fun K7 hK7 => ?_
      refine cx_plan' [] [] [(0, 1), (1, 1), (2, 1), (3, 1), (4, 1), (5, 1), (7, 1), (8, 1), (9, 1), (10, 1), (11, 1), (12, 1), (14, 1), (15, 1), (16, 1), (17, 1), (18, 1), (19, 1), (6, 0), (13, 0), (20, 0), (21, 1), (22, 1)] mixed (by kernel_rfl) ?_
      refine px_rd' rfl (rd_move' rfl) rfl rfl (wt_none' rfl) ?_
      obtain ⟨r29, hr29, hp⟩ := bind_some hp
      refine px_rd' rfl (rd_atr' (m := 3) rfl rfl rfl rfl hr29 Try.underlying27 info25) rfl rfl (wt_none' rfl) ?_
      refine px_rd' rfl (rd_loadr' rfl (m := 3) (i := 1) (j := 0) rfl rfl hr29 rfl rfl flat25) rfl rfl (wt_none' rfl) ?_
      refine px_rd' rfl (rd_move' rfl) rfl rfl (wt_none' rfl) ?_
      obtain ⟨r32, hr32, hp⟩ := bind_some hp
      refine px_rd' rfl (rd_atr' (m := 3) rfl rfl rfl rfl hr32 Try.underlying27 info25) rfl rfl (wt_none' rfl) ?_
      refine px_rd' rfl (rd_loadr' rfl (m := 3) (i := 2) (j := 0) rfl rfl hr32 rfl rfl flat25) rfl rfl (wt_none' rfl) ?_
      refine px_rd' rfl (rd_move' rfl) rfl rfl (wt_none' rfl) ?_
      obtain ⟨r36, hr36, hp⟩ := bind_some hp
      refine px_rd' rfl (rd_atr' (m := 3) rfl rfl rfl rfl hr36 Try.underlying27 info25) rfl rfl (wt_none' rfl) ?_
      refine px_rd' rfl (rd_loadr' rfl (m := 3) (i := 2) (j := 0) rfl rfl hr36 rfl rfl flat25) rfl rfl (wt_none' rfl) ?_
      refine px_rd' rfl (rd_move' rfl) rfl rfl (wt_none' rfl) ?_
      obtain ⟨r39, hr39, hp⟩ := bind_some hp
      refine px_rd' rfl (rd_atr' (m := 3) rfl rfl rfl rfl hr39 Try.underlying27 info25) rfl rfl (wt_none' rfl) ?_
      refine px_rd' rfl (rd_loadr' rfl (m := 3) (i := 0) (j := 0) rfl rfl hr39 rfl rfl flat25) rfl rfl (wt_none' rfl) ?_
      refine px_rd' rfl (rd_move' rfl) rfl rfl (wt_none' rfl) ?_
      obtain ⟨r43, hr43, hp⟩ := bind_some hp
      refine px_rd' rfl (rd_atr' (m := 3) rfl rfl rfl rfl hr43 Try.underlying27 info25) rfl rfl (wt_none' rfl) ?_
      refine px_rd' rfl (rd_loadr' rfl (m := 3) (i := 0) (j := 0) rfl rfl hr43 rfl rfl flat25) rfl rfl (wt_none' rfl) ?_
      refine px_rd' rfl (rd_move' rfl) rfl rfl (wt_none' rfl) ?_
      obtain ⟨r46, hr46, hp⟩ := bind_some hp
      refine px_rd' rfl (rd_atr' (m := 3) rfl rfl rfl rfl hr46 Try.underlying27 info25) rfl rfl (wt_none' rfl) ?_
      refine px_rd' rfl (rd_loadr' rfl (m := 3) (i := 1) (j := 0) rfl rfl hr46 rfl rfl flat25) rfl rfl (wt_none' rfl) ?_
      obtain ⟨r34, hr34, hp⟩ := bind_some hp
      refine px_ox' rfl (ox_calln' (ent_fn' Try.func8 isn8 rfl rfl) (spec_SquareN_sim _ _ hr34 : Go.Sx.Fn Try.prog 8 [(Sl Kf r29), (Sl Kf r32)] [] (fun x : Unit => (Vl (.float .f64 r34))) (fun x => [])) (Hn := fun x : Unit => [⟨.pointer (some q3), [(Vl (.float .f64 a0_0)), (Vl (.float .f64 a0_1)), (Vl (.float .f64 a0_2))], 35, none⟩, ⟨.pointer (some q4), [(Vl (.float .f64 a1_0)), (Vl (.float .f64 a1_1)), (Vl (.float .f64 a1_2))], 35, none⟩, ⟨.pointer (some q5), [(Vl (.float .f64 a2_0)), (Vl (.float .f64 a2_1)), (Vl (.float .f64 a2_2))], 35, none⟩, (Rw (Kl Kf) 25 (Vs g17) ([r12, r14, r16]))]) (fun _ => rfl) rfl rfl) rfl bs_nil (wt_none' rfl) fun ⟨⟩ => ?_
      obtain ⟨r41, hr41, hp⟩ := bind_some hp
      refine px_ox' rfl (ox_calln' (ent_fn' Try.func8 isn8 rfl rfl) (spec_SquareN_sim _ _ hr41 : Go.Sx.Fn Try.prog 8 [(Sl Kf r36), (Sl Kf r39)] [] (fun x : Unit => (Vl (.float .f64 r41))) (fun x => [])) (Hn := fun x : Unit => [⟨.pointer (some q3), [(Vl (.float .f64 a0_0)), (Vl (.float .f64 a0_1)), (Vl (.float .f64 a0_2))], 35, none⟩, ⟨.pointer (some q4), [(Vl (.float .f64 a1_0)), (Vl (.float .f64 a1_1)), (Vl (.float .f64 a1_2))], 35, none⟩, ⟨.pointer (some q5), [(Vl (.float .f64 a2_0)), (Vl (.float .f64 a2_1)), (Vl (.float .f64 a2_2))], 35, none⟩, (Rw (Kl Kf) 25 (Vs g17) ([r12, r14, r16]))]) (fun _ => rfl) rfl rfl) rfl bs_nil (wt_none' rfl) fun ⟨⟩ => ?_
      obtain ⟨r48, hr48, hp⟩ := bind_some hp
      refine px_ox' rfl (ox_calln' (ent_fn' Try.func8 isn8 rfl rfl) (spec_SquareN_sim _ _ hr48 : Go.Sx.Fn Try.prog 8 [(Sl Kf r43), (Sl Kf r46)] [] (fun x : Unit => (Vl (.float .f64 r48))) (fun x => [])) (Hn := fun x : Unit => [⟨.pointer (some q3), [(Vl (.float .f64 a0_0)), (Vl (.float .f64 a0_1)), (Vl (.float .f64 a0_2))], 35, none⟩, ⟨.pointer (some q4), [(Vl (.float .f64 a1_0)), (Vl (.float .f64 a1_1)), (Vl (.float .f64 a1_2))], 35, none⟩, ⟨.pointer (some q5), [(Vl (.float .f64 a2_0)), (Vl (.float .f64 a2_1)), (Vl (.float .f64 a2_2))], 35, none⟩, (Rw (Kl Kf) 25 (Vs g17) ([r12, r14, r16]))]) (fun _ => rfl) rfl rfl) rfl bs_nil (wt_none' rfl) fun ⟨⟩ => ?_
      obtain ⟨r49, hr49, hp⟩ := bind_some hp
      refine px_rd' rfl (rd_fmax3' rfl rfl rfl hr49) rfl rfl (wt_none' rfl) ?_
      refine px_rd' rfl (rd_assign' rfl) rfl rfl (wt_none' rfl) ?_
      refine px_nil' ?_
      show TX E K7 _
      refine tx_k' hK7 ?_
      refine cx_seq' fun K8 hK8 => ?_
      refine cx_plana' [] [(10, 1)] [(0, 1), (1, 1), (2, 1), (4, 1), (5, 1), (6, 1)] 5 #[true, true, true, false, true, true, true, false, false, false, false] mixed (by kernel_rfl) ?_
      refine px_rd' rfl (rd_load_agg' (i := 0) (o := 0) (nn := 3) rfl ⟨rfl, rfl, rfl, rfl⟩ rfl agg35 (l' := [(Vl (.float .f64 a0_0)), (Vl (.float .f64 a0_1)), (Vl (.float .f64 a0_2))]) rfl) rfl rfl (wt_none' rfl) ?_
      refine px_rd' rfl (rd_load_agg' (i := 1) (o := 0) (nn := 3) rfl ⟨rfl, rfl, rfl, rfl⟩ rfl agg35 (l' := [(Vl (.float .f64 a1_0)), (Vl (.float .f64 a1_1)), (Vl (.float .f64 a1_2))]) rfl) rfl rfl (wt_none' rfl) ?_
      refine px_rd' rfl (rd_load_agg' (i := 2) (o := 0) (nn := 3) rfl ⟨rfl, rfl, rfl, rfl⟩ rfl agg35 (l' := [(Vl (.float .f64 a2_0)), (Vl (.float .f64 a2_1)), (Vl (.float .f64 a2_2))]) rfl) rfl rfl (wt_none' rfl) ?_
      refine px_rd' rfl (rd_load_agg' (i := 0) (o := 0) (nn := 3) rfl ⟨rfl, rfl, rfl, rfl⟩ rfl agg35 (l' := [(Vl (.float .f64 a0_0)), (Vl (.float .f64 a0_1)), (Vl (.float .f64 a0_2))]) rfl) rfl rfl (wt_none' rfl) ?_
      refine px_rd' rfl (rd_load_agg' (i := 1) (o := 0) (nn := 3) rfl ⟨rfl, rfl, rfl, rfl⟩ rfl agg35 (l' := [(Vl (.float .f64 a1_0)), (Vl (.float .f64 a1_1)), (Vl (.float .f64 a1_2))]) rfl) rfl rfl (wt_none' rfl) ?_
      refine px_rd' rfl (rd_load_agg' (i := 2) (o := 0) (nn := 3) rfl ⟨rfl, rfl, rfl, rfl⟩ rfl agg35 (l' := [(Vl (.float .f64 a2_0)), (Vl (.float .f64 a2_1)), (Vl (.float .f64 a2_2))]) rfl) rfl rfl (wt_none' rfl) ?_
      refine px_nil' ?_
      show AX E _ _ _ _ _ _ _ _
      obtain ⟨r53, hr53, hp⟩ := bind_some hp
      obtain ⟨r57, hr57, hp⟩ := bind_some hp
      refine ax_node (f' := 0) #[true, true, true, true, true, true, true, true, true, true, true] (fun (v8 : Addr × Addr × Addr × Addr) => (⟨124, [], [(3, (Vl (.pointer (some v8.1)))), (4, (Vl (.pointer (some v8.2.1)))), (5, (Vl (.pointer (some v8.2.2.1)))), (8, (Vl (.float .f64 r49))), (9, (Fl r53)), (10, (Vl (.pointer (some v8.2.2.2))))], [⟨.pointer (some v8.1), [(Vl (.float .f64 a0_0)), (Vl (.float .f64 a0_1)), (Vl (.float .f64 a0_2))], 35, none⟩, ⟨.pointer (some v8.2.1), [(Vl (.float .f64 a1_0)), (Vl (.float .f64 a1_1)), (Vl (.float .f64 a1_2))], 35, none⟩, ⟨.pointer (some v8.2.2.1), [(Vl (.float .f64 a2_0)), (Vl (.float .f64 a2_1)), (Vl (.float .f64 a2_2))], 35, none⟩, ⟨.pointer (some v8.2.2.2), [(Vl (.float .f64 r57.1)), (Vl (.float .f64 r57.2.1)), (Vl (.float .f64 r57.2.2))], 35, none⟩]⟩ : St)) ?_ ?_
      · rintro ⟨q9023, q9024, q9025, q9026⟩
        refine ax_nil (by kernel_rfl) ?_
        show TX E K8 _
        refine tx_k' hK8 ?_
        refine cx_seq' fun K9 hK9 => ?_
        refine cx_region' ?_
        refine sx_rd' (rd_move' rfl) rfl rfl (wt_none' rfl) ?_
        refine sx_rd' (rd_fcmp' (fl_f rfl) (fl_v rfl) rfl) rfl rfl (wt_none' rfl) ?_
        refine sx_rd' (rd_move' rfl) rfl rfl (wt_none' rfl) ?_
        refine sx_cutn' 15 (fun (v9 : Bool) => (⟨124, [], [(3, (Vl (.pointer (some q9023)))), (4, (Vl (.pointer (some q9024)))), (5, (Vl (.pointer (some q9025)))), (10, (Vl (.pointer (some q9026)))), (75, (Vl (.bool v9)))], [⟨.pointer (some q9023), [(Vl (.float .f64 a0_0)), (Vl (.float .f64 a0_1)), (Vl (.float .f64 a0_2))], 35, none⟩, ⟨.pointer (some q9024), [(Vl (.float .f64 a1_0)), (Vl (.float .f64 a1_1)), (Vl (.float .f64 a1_2))], 35, none⟩, ⟨.pointer (some q9025), [(Vl (.float .f64 a2_0)), (Vl (.float .f64 a2_1)), (Vl (.float .f64 a2_2))], 35, none⟩, ⟨.pointer (some q9026), [(Vl (.float .f64 r57.1)), (Vl (.float .f64 r57.2.1)), (Vl (.float .f64 r57.2.2))], 35, none⟩]⟩ : St)) (fun (v9 : Bool) => laws_FnTriangle3_j2 k a0_0 a1_0 a2_0 r57 a0_1 a1_1 a2_1 a0_2 a1_2 a2_2 v9 = some out) ?_ ?_
        · rintro x2 hp
          replace hp : laws_FnTriangle3_j2 k a0_0 a1_0 a2_0 r57 a0_1 a1_1 a2_1 a0_2 a1_2 a2_2 x2 = some out := hp
          unfold laws_FnTriangle3_j2 at hp
          refine sx_rd' (rd_move' rfl) rfl rfl (wt_none' rfl) ?_
          refine sx_cutn' 15 (fun (v10 : Bool) => (⟨124, [], [(3, (Vl (.pointer (some q9023)))), (4, (Vl (.pointer (some q9024)))), (5, (Vl (.pointer (some q9025)))), (10, (Vl (.pointer (some q9026)))), (91, (Vl (.bool v10)))], [⟨.pointer (some q9023), [(Vl (.float .f64 a0_0)), (Vl (.float .f64 a0_1)), (Vl (.float .f64 a0_2))], 35, none⟩, ⟨.pointer (some q9024), [(Vl (.float .f64 a1_0)), (Vl (.float .f64 a1_1)), (Vl (.float .f64 a1_2))], 35, none⟩, ⟨.pointer (some q9025), [(Vl (.float .f64 a2_0)), (Vl (.float .f64 a2_1)), (Vl (.float .f64 a2_2))], 35, none⟩, ⟨.pointer (some q9026), [(Vl (.float .f64 r57.1)), (Vl (.float .f64 r57.2.1)), (Vl (.float .f64 r57.2.2))], 35, none⟩]⟩ : St)) (fun (v10 : Bool) => laws_FnTriangle3_j3 k a0_1 a1_1 a2_1 r57 a0_2 a1_2 a2_2 v10 = some out) ?_ ?_
          · rintro x3 hp
            replace hp : laws_FnTriangle3_j3 k a0_1 a1_1 a2_1 r57 a0_2 a1_2 a2_2 x3 = some out := hp
            unfold laws_FnTriangle3_j3 at hp
            refine sx_rd' (rd_move' rfl) rfl rfl (wt_none' rfl) ?_
            refine sx_cutn' 15 (fun (v11 : Bool) => (⟨124, [], [(3, (Vl (.pointer (some q9023)))), (4, (Vl (.pointer (some q9024)))), (5, (Vl (.pointer (some q9025)))), (10, (Vl (.pointer (some q9026)))), (107, (Vl (.bool v11)))], [⟨.pointer (some q9023), [(Vl (.float .f64 a0_0)), (Vl (.float .f64 a0_1)), (Vl (.float .f64 a0_2))], 35, none⟩, ⟨.pointer (some q9024), [(Vl (.float .f64 a1_0)), (Vl (.float .f64 a1_1)), (Vl (.float .f64 a1_2))], 35, none⟩, ⟨.pointer (some q9025), [(Vl (.float .f64 a2_0)), (Vl (.float .f64 a2_1)), (Vl (.float .f64 a2_2))], 35, none⟩, ⟨.pointer (some q9026), [(Vl (.float .f64 r57.1)), (Vl (.float .f64 r57.2.1)), (Vl (.float .f64 r57.2.2))], 35, none⟩]⟩ : St)) (fun (v11 : Bool) => laws_FnTriangle3_j4 k a0_2 a1_2 a2_2 r57 v11 = some out) ?_ ?_
            · rintro x4 hp
              replace hp : laws_FnTriangle3_j4 k a0_2 a1_2 a2_2 r57 x4 = some out := hp
              unfold laws_FnTriangle3_j4 at hp
              refine sx_rd' (rd_move' rfl) rfl rfl (wt_none' rfl) ?_
              refine sx_cutn' 15 (fun (v12 : Bool) => (⟨124, [], [(123, (Vl (.bool v12)))], []⟩ : St)) (fun (v12 : Bool) => laws_FnTriangle3_j5 k v12 = some out) ?_ ?_
              · rintro x5 hp
                replace hp : laws_FnTriangle3_j5 k x5 = some out := hp
                unfold laws_FnTriangle3_j5 at hp
                refine sx_rd' (rd_assign' rfl) rfl rfl (wt_none' rfl) ?_
                refine sx_nil' ?_
                show TX E K9 _
                refine tx_k' hK9 ?_
                refine cx_retc' ?_
                replace hp := Option.some.inj hp
                subst hp
                refine tx_pick' (L' := [(6, (Vl (.bool x5)))]) (H' := []) [] (sub_cons rfl sub_nil) (by decide) pick_nil ?_
                exact tx_ret1' Try.results4 rfl () (rv_tmp' rfl) (List.Sublist.refl _)
              · intro K13 hK13
                rcases br_cases hp with ⟨h6, hp⟩ | ⟨h6, hp⟩
                · refine sx_rd' (rd_field' (off := 2) rfl Try.underlying35 rfl info22 rfl) rfl rfl (wt_is' (wt_guard' rfl rfl rfl) (beq_tt h6)) ?_
                  refine sx_rd' (rd_load' (i := 3) (o := 2) rfl ⟨rfl, rfl, rfl, rfl⟩ rfl flat22) rfl rfl (wt_is' (wt_guard' rfl rfl rfl) (beq_tt h6)) ?_
                  refine sx_rd' (rd_field' (off := 2) rfl Try.underlying35 rfl info22 rfl) rfl rfl (wt_is' (wt_guard' rfl rfl rfl) (beq_tt h6)) ?_
                  refine sx_rd' (rd_load' (i := 0) (o := 2) rfl ⟨rfl, rfl, rfl, rfl⟩ rfl flat22) rfl rfl (wt_is' (wt_guard' rfl rfl rfl) (beq_tt h6)) ?_
                  refine sx_rd' (rd_field' (off := 2) rfl Try.underlying35 rfl info22 rfl) rfl rfl (wt_is' (wt_guard' rfl rfl rfl) (beq_tt h6)) ?_
                  refine sx_rd' (rd_load' (i := 1) (o := 2) rfl ⟨rfl, rfl, rfl, rfl⟩ rfl flat22) rfl rfl (wt_is' (wt_guard' rfl rfl rfl) (beq_tt h6)) ?_
                  obtain ⟨r115, hr115, hp⟩ := bind_some hp
                  refine sx_ox' (ox_fop' (.inl rfl) (fl_v rfl) (fl_v rfl) (Option.some.inj hr115) rfl rfl) (wt_is' (wt_guard' rfl rfl rfl) (beq_tt h6)) fun _ => ?_
                  refine sx_rd' (rd_field' (off := 2) rfl Try.underlying35 rfl info22 rfl) rfl rfl (wt_is' (wt_guard' rfl rfl rfl) (beq_tt h6)) ?_
                  refine sx_rd' (rd_load' (i := 2) (o := 2) rfl ⟨rfl, rfl, rfl, rfl⟩ rfl flat22) rfl rfl (wt_is' (wt_guard' rfl rfl rfl) (beq_tt h6)) ?_
                  obtain ⟨r118, hr118, hp⟩ := bind_some hp
                  refine sx_ox' (ox_fop' (.inl rfl) (fl_f rfl) (fl_v rfl) (Option.some.inj hr118) rfl rfl) (wt_is' (wt_guard' rfl rfl rfl) (beq_tt h6)) fun _ => ?_
                  obtain ⟨r119, hr119, hp⟩ := bind_some hp
                  refine sx_ox' (ox_fop' (.inr (.inr (.inr rfl))) (fl_f rfl) (fl_v rfl) (Option.some.inj hr119) rfl rfl) (wt_is' (wt_guard' rfl rfl rfl) (beq_tt h6)) fun _ => ?_
                  obtain ⟨r120, hr120, hp⟩ := bind_some hp
                  refine sx_ox' (ox_fop' (.inr (.inl rfl)) (fl_v rfl) (fl_f rfl) (Option.some.inj hr120) rfl rfl) (wt_is' (wt_guard' rfl rfl rfl) (beq_tt h6)) fun _ => ?_
                  obtain ⟨u4, hu4, hp⟩ := bind_some hp
                  refine tx_slot' 120 (y := (Vl (.float .f64 r120))) rfl (imp_num (num_some hu4).2) ?_
                  obtain ⟨r121, hr121, hp⟩ := bind_some hp
                  refine sx_ox' (ox_calln' (ent_fn' Try.func11 isn11 rfl rfl) (math_Abs_sim _ hr121 : Go.Sx.Fn Try.prog 11 [(Vl (.float .f64 r120))] [] (fun x : Unit => (Vl (.float .f64 r121))) (fun x => [])) (Hn := fun x : Unit => [⟨.pointer (some q9023), [(Vl (.float .f64 a0_0)), (Vl (.float .f64 a0_1)), (Vl (.float .f64 a0_2))], 35, none⟩, ⟨.pointer (some q9024), [(Vl (.float .f64 a1_0)), (Vl (.float .f64 a1_1)), (Vl (.float .f64 a1_2))], 35, none⟩, ⟨.pointer (some q9025), [(Vl (.float .f64 a2_0)), (Vl (.float .f64 a2_1)), (Vl (.float .f64 a2_2))], 35, none⟩, ⟨.pointer (some q9026), [(Vl (.float .f64 r57.1)), (Vl (.float .f64 r57.2.1)), (Vl (.float .f64 r57.2.2))], 35, none⟩]) (fun _ => rfl) rfl rfl) (wt_is' (wt_guard' rfl rfl rfl) (beq_tt h6)) fun ⟨⟩ => ?_
                  refine sx_rd' (rd_bin' rfl rfl eg_flt ru_flt) rfl rfl (wt_is' (wt_guard' rfl rfl rfl) (beq_tt h6)) ?_
                  refine sx_rd' (rd_pick_true' rfl h6 rfl) rfl rfl (wt_none' rfl) ?_
                  refine sx_nil' ?_
                  show TX E K13 _
                  exact tx_pick' [] (sub_cons rfl sub_nil) (by decide) pick_nil (hK13 (flt r121 4472074429978902528) hp)
                · refine sx_skip' rfl rfl (wt_is' (wt_guard' rfl rfl rfl) (beq_ft h6)) ?_
                  refine sx_skip' rfl rfl (wt_is' (wt_guard' rfl rfl rfl) (beq_ft h6)) ?_
                  refine sx_skip' rfl rfl (wt_is' (wt_guard' rfl rfl rfl) (beq_ft h6)) ?_
                  refine sx_skip' rfl rfl (wt_is' (wt_guard' rfl rfl rfl) (beq_ft h6)) ?_
                  refine sx_skip' rfl rfl (wt_is' (wt_guard' rfl rfl rfl) (beq_ft h6)) ?_
                  refine sx_skip' rfl rfl (wt_is' (wt_guard' rfl rfl rfl) (beq_ft h6)) ?_
                  refine sx_skip' rfl rfl (wt_is' (wt_guard' rfl rfl rfl) (beq_ft h6)) ?_
                  refine sx_skip' rfl rfl (wt_is' (wt_guard' rfl rfl rfl) (beq_ft h6)) ?_
                  refine sx_skip' rfl rfl (wt_is' (wt_guard' rfl rfl rfl) (beq_ft h6)) ?_
                  refine sx_skip' rfl rfl (wt_is' (wt_guard' rfl rfl rfl) (beq_ft h6)) ?_
                  refine sx_skip' rfl rfl (wt_is' (wt_guard' rfl rfl rfl) (beq_ft h6)) ?_
                  refine sx_skip' rfl rfl (wt_is' (wt_guard' rfl rfl rfl) (beq_ft h6)) ?_
                  refine sx_skip' rfl rfl (wt_is' (wt_guard' rfl rfl rfl) (beq_ft h6)) ?_
                  refine sx_skip' rfl rfl (wt_is' (wt_guard' rfl rfl rfl) (beq_ft h6)) ?_
                  refine sx_rd' (rd_pick_false' rfl h6 rfl) rfl rfl (wt_none' rfl) ?_
                  refine sx_nil' ?_
                  show TX E K13 _
                  exact tx_pick' [] (sub_cons rfl sub_nil) (by decide) pick_nil (hK13 false hp)
            · intro K12 hK12
              rcases br_cases hp with ⟨h5, hp⟩ | ⟨h5, hp⟩
              · refine sx_rd' (rd_field' (off := 1) rfl Try.underlying35 rfl info22 rfl) rfl rfl (wt_is' (wt_guard' rfl rfl rfl) (beq_tt h5)) ?_
                refine sx_rd' (rd_load' (i := 3) (o := 1) rfl ⟨rfl, rfl, rfl, rfl⟩ rfl flat22) rfl rfl (wt_is' (wt_guard' rfl rfl rfl) (beq_tt h5)) ?_
                refine sx_rd' (rd_field' (off := 1) rfl Try.underlying35 rfl info22 rfl) rfl rfl (wt_is' (wt_guard' rfl rfl rfl) (beq_tt h5)) ?_
                refine sx_rd' (rd_load' (i := 0) (o := 1) rfl ⟨rfl, rfl, rfl, rfl⟩ rfl flat22) rfl rfl (wt_is' (wt_guard' rfl rfl rfl) (beq_tt h5)) ?_
                refine sx_rd' (rd_field' (off := 1) rfl Try.underlying35 rfl info22 rfl) rfl rfl (wt_is' (wt_guard' rfl rfl rfl) (beq_tt h5)) ?_
                refine sx_rd' (rd_load' (i := 1) (o := 1) rfl ⟨rfl, rfl, rfl, rfl⟩ rfl flat22) rfl rfl (wt_is' (wt_guard' rfl rfl rfl) (beq_tt h5)) ?_
                obtain ⟨r99, hr99, hp⟩ := bind_some hp
                refine sx_ox' (ox_fop' (.inl rfl) (fl_v rfl) (fl_v rfl) (Option.some.inj hr99) rfl rfl) (wt_is' (wt_guard' rfl rfl rfl) (beq_tt h5)) fun _ => ?_
                refine sx_rd' (rd_field' (off := 1) rfl Try.underlying35 rfl info22 rfl) rfl rfl (wt_is' (wt_guard' rfl rfl rfl) (beq_tt h5)) ?_
                refine sx_rd' (rd_load' (i := 2) (o := 1) rfl ⟨rfl, rfl, rfl, rfl⟩ rfl flat22) rfl rfl (wt_is' (wt_guard' rfl rfl rfl) (beq_tt h5)) ?_
                obtain ⟨r102, hr102, hp⟩ := bind_some hp
                refine sx_ox' (ox_fop' (.inl rfl) (fl_f rfl) (fl_v rfl) (Option.some.inj hr102) rfl rfl) (wt_is' (wt_guard' rfl rfl rfl) (beq_tt h5)) fun _ => ?_
                obtain ⟨r103, hr103, hp⟩ := bind_some hp
                refine sx_ox' (ox_fop' (.inr (.inr (.inr rfl))) (fl_f rfl) (fl_v rfl) (Option.some.inj hr103) rfl rfl) (wt_is' (wt_guard' rfl rfl rfl) (beq_tt h5)) fun _ => ?_
                obtain ⟨r104, hr104, hp⟩ := bind_some hp
                refine sx_ox' (ox_fop' (.inr (.inl rfl)) (fl_v rfl) (fl_f rfl) (Option.some.inj hr104) rfl rfl) (wt_is' (wt_guard' rfl rfl rfl) (beq_tt h5)) fun _ => ?_
                obtain ⟨u3, hu3, hp⟩ := bind_some hp
                refine tx_slot' 104 (y := (Vl (.float .f64 r104))) rfl (imp_num (num_some hu3).2) ?_
                obtain ⟨r105, hr105, hp⟩ := bind_some hp
                refine sx_ox' (ox_calln' (ent_fn' Try.func11 isn11 rfl rfl) (math_Abs_sim _ hr105 : Go.Sx.Fn Try.prog 11 [(Vl (.float .f64 r104))] [] (fun x : Unit => (Vl (.float .f64 r105))) (fun x => [])) (Hn := fun x : Unit => [⟨.pointer (some q9023), [(Vl (.float .f64 a0_0)), (Vl (.float .f64 a0_1)), (Vl (.float .f64 a0_2))], 35, none⟩, ⟨.pointer (some q9024), [(Vl (.float .f64 a1_0)), (Vl (.float .f64 a1_1)), (Vl (.float .f64 a1_2))], 35, none⟩, ⟨.pointer (some q9025), [(Vl (.float .f64 a2_0)), (Vl (.float .f64 a2_1)), (Vl (.float .f64 a2_2))], 35, none⟩, ⟨.pointer (some q9026), [(Vl (.float .f64 r57.1)), (Vl (.float .f64 r57.2.1)), (Vl (.float .f64 r57.2.2))], 35, none⟩]) (fun _ => rfl) rfl rfl) (wt_is' (wt_guard' rfl rfl rfl) (beq_tt h5)) fun ⟨⟩ => ?_
                refine sx_rd' (rd_bin' rfl rfl eg_flt ru_flt) rfl rfl (wt_is' (wt_guard' rfl rfl rfl) (beq_tt h5)) ?_
                refine sx_rd' (rd_pick_true' rfl h5 rfl) rfl rfl (wt_none' rfl) ?_
                refine sx_nil' ?_
                show TX E K12 _
                exact tx_pick' [0, 1, 2, 3] (sub_cons rfl (sub_cons rfl (sub_cons rfl (sub_cons rfl (sub_cons rfl sub_nil))))) (by decide) (pick_cons rfl (pick_cons rfl (pick_cons rfl (pick_cons rfl pick_nil)))) (hK12 (flt r105 4472074429978902528) hp)
              · refine sx_skip' rfl rfl (wt_is' (wt_guard' rfl rfl rfl) (beq_ft h5)) ?_
                refine sx_skip' rfl rfl (wt_is' (wt_guard' rfl rfl rfl) (beq_ft h5)) ?_
                refine sx_skip' rfl rfl (wt_is' (wt_guard' rfl rfl rfl) (beq_ft h5)) ?_
                refine sx_skip' rfl rfl (wt_is' (wt_guard' rfl rfl rfl) (beq_ft h5)) ?_
                refine sx_skip' rfl rfl (wt_is' (wt_guard' rfl rfl rfl) (beq_ft h5)) ?_
                refine sx_skip' rfl rfl (wt_is' (wt_guard' rfl rfl rfl) (beq_ft h5)) ?_
                refine sx_skip' rfl rfl (wt_is' (wt_guard' rfl rfl rfl) (beq_ft h5)) ?_
                refine sx_skip' rfl rfl (wt_is' (wt_guard' rfl rfl rfl) (beq_ft h5)) ?_
                refine sx_skip' rfl rfl (wt_is' (wt_guard' rfl rfl rfl) (beq_ft h5)) ?_
                refine sx_skip' rfl rfl (wt_is' (wt_guard' rfl rfl rfl) (beq_ft h5)) ?_
                refine sx_skip' rfl rfl (wt_is' (wt_guard' rfl rfl rfl) (beq_ft h5)) ?_
                refine sx_skip' rfl rfl (wt_is' (wt_guard' rfl rfl rfl) (beq_ft h5)) ?_
                refine sx_skip' rfl rfl (wt_is' (wt_guard' rfl rfl rfl) (beq_ft h5)) ?_
                refine sx_skip' rfl rfl (wt_is' (wt_guard' rfl rfl rfl) (beq_ft h5)) ?_
                refine sx_rd' (rd_pick_false' rfl h5 rfl) rfl rfl (wt_none' rfl) ?_
                refine sx_nil' ?_
                show TX E K12 _
                exact tx_pick' [0, 1, 2, 3] (sub_cons rfl (sub_cons rfl (sub_cons rfl (sub_cons rfl (sub_cons rfl sub_nil))))) (by decide) (pick_cons rfl (pick_cons rfl (pick_cons rfl (pick_cons rfl pick_nil)))) (hK12 false hp)
          · intro K11 hK11
            rcases br_cases hp with ⟨h4, hp⟩ | ⟨h4, hp⟩
            · refine sx_rd' (rd_field0' rfl Try.underlying35 rfl info22 rfl) rfl rfl (wt_is' (wt_guard' rfl rfl rfl) (beq_tt h4)) ?_
              refine sx_rd' (rd_load' (i := 3) (o := 0) rfl ⟨rfl, rfl, rfl, rfl⟩ rfl flat22) rfl rfl (wt_is' (wt_guard' rfl rfl rfl) (beq_tt h4)) ?_
              refine sx_rd' (rd_field0' rfl Try.underlying35 rfl info22 rfl) rfl rfl (wt_is' (wt_guard' rfl rfl rfl) (beq_tt h4)) ?_
              refine sx_rd' (rd_load' (i := 0) (o := 0) rfl ⟨rfl, rfl, rfl, rfl⟩ rfl flat22) rfl rfl (wt_is' (wt_guard' rfl rfl rfl) (beq_tt h4)) ?_
              refine sx_rd' (rd_field0' rfl Try.underlying35 rfl info22 rfl) rfl rfl (wt_is' (wt_guard' rfl rfl rfl) (beq_tt h4)) ?_
              refine sx_rd' (rd_load' (i := 1) (o := 0) rfl ⟨rfl, rfl, rfl, rfl⟩ rfl flat22) rfl rfl (wt_is' (wt_guard' rfl rfl rfl) (beq_tt h4)) ?_
              obtain ⟨r83, hr83, hp⟩ := bind_some hp
              refine sx_ox' (ox_fop' (.inl rfl) (fl_v rfl) (fl_v rfl) (Option.some.inj hr83) rfl rfl) (wt_is' (wt_guard' rfl rfl rfl) (beq_tt h4)) fun _ => ?_
              refine sx_rd' (rd_field0' rfl Try.underlying35 rfl info22 rfl) rfl rfl (wt_is' (wt_guard' rfl rfl rfl) (beq_tt h4)) ?_
              refine sx_rd' (rd_load' (i := 2) (o := 0) rfl ⟨rfl, rfl, rfl, rfl⟩ rfl flat22) rfl rfl (wt_is' (wt_guard' rfl rfl rfl) (beq_tt h4)) ?_
              obtain ⟨r86, hr86, hp⟩ := bind_some hp
              refine sx_ox' (ox_fop' (.inl rfl) (fl_f rfl) (fl_v rfl) (Option.some.inj hr86) rfl rfl) (wt_is' (wt_guard' rfl rfl rfl) (beq_tt h4)) fun _ => ?_
              obtain ⟨r87, hr87, hp⟩ := bind_some hp
              refine sx_ox' (ox_fop' (.inr (.inr (.inr rfl))) (fl_f rfl) (fl_v rfl) (Option.some.inj hr87) rfl rfl) (wt_is' (wt_guard' rfl rfl rfl) (beq_tt h4)) fun _ => ?_
              obtain ⟨r88, hr88, hp⟩ := bind_some hp
              refine sx_ox' (ox_fop' (.inr (.inl rfl)) (fl_v rfl) (fl_f rfl) (Option.some.inj hr88) rfl rfl) (wt_is' (wt_guard' rfl rfl rfl) (beq_tt h4)) fun _ => ?_
              obtain ⟨u2, hu2, hp⟩ := bind_some hp
              refine tx_slot' 88 (y := (Vl (.float .f64 r88))) rfl (imp_num (num_some hu2).2) ?_
              obtain ⟨r89, hr89, hp⟩ := bind_some hp
              refine sx_ox' (ox_calln' (ent_fn' Try.func11 isn11 rfl rfl) (math_Abs_sim _ hr89 : Go.Sx.Fn Try.prog 11 [(Vl (.float .f64 r88))] [] (fun x : Unit => (Vl (.float .f64 r89))) (fun x => [])) (Hn := fun x : Unit => [⟨.pointer (some q9023), [(Vl (.float .f64 a0_0)), (Vl (.float .f64 a0_1)), (Vl (.float .f64 a0_2))], 35, none⟩, ⟨.pointer (some q9024), [(Vl (.float .f64 a1_0)), (Vl (.float .f64 a1_1)), (Vl (.float .f64 a1_2))], 35, none⟩, ⟨.pointer (some q9025), [(Vl (.float .f64 a2_0)), (Vl (.float .f64 a2_1)), (Vl (.float .f64 a2_2))], 35, none⟩, ⟨.pointer (some q9026), [(Vl (.float .f64 r57.1)), (Vl (.float .f64 r57.2.1)), (Vl (.float .f64 r57.2.2))], 35, none⟩]) (fun _ => rfl) rfl rfl) (wt_is' (wt_guard' rfl rfl rfl) (beq_tt h4)) fun ⟨⟩ => ?_
              refine sx_rd' (rd_bin' rfl rfl eg_flt ru_flt) rfl rfl (wt_is' (wt_guard' rfl rfl rfl) (beq_tt h4)) ?_
              refine sx_rd' (rd_pick_true' rfl h4 rfl) rfl rfl (wt_none' rfl) ?_
              refine sx_nil' ?_
              show TX E K11 _
              exact tx_pick' [0, 1, 2, 3] (sub_cons rfl (sub_cons rfl (sub_cons rfl (sub_cons rfl (sub_cons rfl sub_nil))))) (by decide) (pick_cons rfl (pick_cons rfl (pick_cons rfl (pick_cons rfl pick_nil)))) (hK11 (flt r89 4472074429978902528) hp)
            · refine sx_skip' rfl rfl (wt_is' (wt_guard' rfl rfl rfl) (beq_ft h4)) ?_
              refine sx_skip' rfl rfl (wt_is' (wt_guard' rfl rfl rfl) (beq_ft h4)) ?_
              refine sx_skip' rfl rfl (wt_is' (wt_guard' rfl rfl rfl) (beq_ft h4)) ?_
              refine sx_skip' rfl rfl (wt_is' (wt_guard' rfl rfl rfl) (beq_ft h4)) ?_
              refine sx_skip' rfl rfl (wt_is' (wt_guard' rfl rfl rfl) (beq_ft h4)) ?_
              refine sx_skip' rfl rfl (wt_is' (wt_guard' rfl rfl rfl) (beq_ft h4)) ?_
              refine sx_skip' rfl rfl (wt_is' (wt_guard' rfl rfl rfl) (beq_ft h4)) ?_
              refine sx_skip' rfl rfl (wt_is' (wt_guard' rfl rfl rfl) (beq_ft h4)) ?_
              refine sx_skip' rfl rfl (wt_is' (wt_guard' rfl rfl rfl) (beq_ft h4)) ?_
              refine sx_skip' rfl rfl (wt_is' (wt_guard' rfl rfl rfl) (beq_ft h4)) ?_
              refine sx_skip' rfl rfl (wt_is' (wt_guard' rfl rfl rfl) (beq_ft h4)) ?_
              refine sx_skip' rfl rfl (wt_is' (wt_guard' rfl rfl rfl) (beq_ft h4)) ?_
              refine sx_skip' rfl rfl (wt_is' (wt_guard' rfl rfl rfl) (beq_ft h4)) ?_
              refine sx_skip' rfl rfl (wt_is' (wt_guard' rfl rfl rfl) (beq_ft h4)) ?_
              refine sx_rd' (rd_pick_false' rfl h4 rfl) rfl rfl (wt_none' rfl) ?_
              refine sx_nil' ?_
              show TX E K11 _
              exact tx_pick' [0, 1, 2, 3] (sub_cons rfl (sub_cons rfl (sub_cons rfl (sub_cons rfl (sub_cons rfl sub_nil))))) (by decide) (pick_cons rfl (pick_cons rfl (pick_cons rfl (pick_cons rfl pick_nil)))) (hK11 false hp)
        · intro K10 hK10
          rcases br_cases hp with ⟨h3, hp⟩ | ⟨h3, hp⟩
          · refine sx_rd' (rd_move' rfl) rfl rfl (wt_is' (wt_guard' rfl rfl rfl) (beq_tt h3)) ?_
            refine sx_rd' (rd_move' rfl) rfl rfl (wt_is' (wt_guard' rfl rfl rfl) (beq_tt h3)) ?_
            obtain ⟨r63, hr63, hp⟩ := bind_some hp
            refine sx_ox' (ox_fop' (.inr (.inr (.inl rfl))) (fl_f rfl) (fl_f rfl) (Option.some.inj hr63) rfl rfl) (wt_is' (wt_guard' rfl rfl rfl) (beq_tt h3)) fun _ => ?_
            refine sx_rd' (rd_load_agg' (i := 0) (o := 0) (nn := 3) rfl ⟨rfl, rfl, rfl, rfl⟩ rfl agg35 (l' := [(Vl (.float .f64 a0_0)), (Vl (.float .f64 a0_1)), (Vl (.float .f64 a0_2))]) rfl) rfl rfl (wt_is' (wt_guard' rfl rfl rfl) (beq_tt h3)) ?_
            refine sx_rd' (rd_load_agg' (i := 1) (o := 0) (nn := 3) rfl ⟨rfl, rfl, rfl, rfl⟩ rfl agg35 (l' := [(Vl (.float .f64 a1_0)), (Vl (.float .f64 a1_1)), (Vl (.float .f64 a1_2))]) rfl) rfl rfl (wt_is' (wt_guard' rfl rfl rfl) (beq_tt h3)) ?_
            refine sx_rd' (rd_load_agg' (i := 2) (o := 0) (nn := 3) rfl ⟨rfl, rfl, rfl, rfl⟩ rfl agg35 (l' := [(Vl (.float .f64 a2_0)), (Vl (.float .f64 a2_1)), (Vl (.float .f64 a2_2))]) rfl) rfl rfl (wt_is' (wt_guard' rfl rfl rfl) (beq_tt h3)) ?_
            obtain ⟨r67, hr67, hp⟩ := bind_some hp
            refine sx_ox' (ox_calln' (ent_fn' Try.func13 isn13 rfl rfl) (laws_squareArea3_sim _ _ _ _ _ _ _ _ _ hr67 : Go.Sx.Fn Try.prog 13 [(Ag [(Vl (.float .f64 a0_0)), (Vl (.float .f64 a0_1)), (Vl (.float .f64 a0_2))]), (Ag [(Vl (.float .f64 a1_0)), (Vl (.float .f64 a1_1)), (Vl (.float .f64 a1_2))]), (Ag [(Vl (.float .f64 a2_0)), (Vl (.float .f64 a2_1)), (Vl (.float .f64 a2_2))])] [] (fun x : Unit => (Fl r67)) (fun x => [])) (Hn := fun x : Unit => [⟨.pointer (some q9023), [(Vl (.float .f64 a0_0)), (Vl (.float .f64 a0_1)), (Vl (.float .f64 a0_2))], 35, none⟩, ⟨.pointer (some q9024), [(Vl (.float .f64 a1_0)), (Vl (.float .f64 a1_1)), (Vl (.float .f64 a1_2))], 35, none⟩, ⟨.pointer (some q9025), [(Vl (.float .f64 a2_0)), (Vl (.float .f64 a2_1)), (Vl (.float .f64 a2_2))], 35, none⟩, ⟨.pointer (some q9026), [(Vl (.float .f64 r57.1)), (Vl (.float .f64 r57.2.1)), (Vl (.float .f64 r57.2.2))], 35, none⟩]) (fun _ => rfl) rfl rfl) (wt_is' (wt_guard' rfl rfl rfl) (beq_tt h3)) fun ⟨⟩ => ?_
            obtain ⟨r68, hr68, hp⟩ := bind_some hp
            refine sx_ox' (ox_fop' (.inr (.inl rfl)) (fl_f rfl) (fl_f rfl) (Option.some.inj hr68) rfl rfl) (wt_is' (wt_guard' rfl rfl rfl) (beq_tt h3)) fun _ => ?_
            obtain ⟨u1, hu1, hp⟩ := bind_some hp
            refine tx_slot' 68 (y := (Vl (.float .f64 r68))) rfl (imp_num (num_some hu1).2) ?_
            obtain ⟨r69, hr69, hp⟩ := bind_some hp
            refine sx_ox' (ox_calln' (ent_fn' Try.func11 isn11 rfl rfl) (math_Abs_sim _ hr69 : Go.Sx.Fn Try.prog 11 [(Vl (.float .f64 r68))] [] (fun x : Unit => (Vl (.float .f64 r69))) (fun x => [])) (Hn := fun x : Unit => [⟨.pointer (some q9023), [(Vl (.float .f64 a0_0)), (Vl (.float .f64 a0_1)), (Vl (.float .f64 a0_2))], 35, none⟩, ⟨.pointer (some q9024), [(Vl (.float .f64 a1_0)), (Vl (.float .f64 a1_1)), (Vl (.float .f64 a1_2))], 35, none⟩, ⟨.pointer (some q9025), [(Vl (.float .f64 a2_0)), (Vl (.float .f64 a2_1)), (Vl (.float .f64 a2_2))], 35, none⟩, ⟨.pointer (some q9026), [(Vl (.float .f64 r57.1)), (Vl (.float .f64 r57.2.1)), (Vl (.float .f64 r57.2.2))], 35, none⟩]) (fun _ => rfl) rfl rfl) (wt_is' (wt_guard' rfl rfl rfl) (beq_tt h3)) fun ⟨⟩ => ?_
            refine sx_rd' (rd_move' rfl) rfl rfl (wt_is' (wt_guard' rfl rfl rfl) (beq_tt h3)) ?_
            refine sx_rd' (rd_move' rfl) rfl rfl (wt_is' (wt_guard' rfl rfl rfl) (beq_tt h3)) ?_
            obtain ⟨r72, hr72, hp⟩ := bind_some hp
            refine sx_ox' (ox_fop' (.inr (.inr (.inl rfl))) (fl_v rfl) (fl_v rfl) (Option.some.inj hr72) rfl rfl) (wt_is' (wt_guard' rfl rfl rfl) (beq_tt h3)) fun _ => ?_
            obtain ⟨r73, hr73, hp⟩ := bind_some hp
            refine sx_ox' (ox_fop' (.inr (.inr (.inr rfl))) (fl_f rfl) (fl_v rfl) (Option.some.inj hr73) rfl rfl) (wt_is' (wt_guard' rfl rfl rfl) (beq_tt h3)) fun _ => ?_
            refine sx_rd' (rd_fcmp' (fl_v rfl) (fl_f rfl) rfl) rfl rfl (wt_is' (wt_guard' rfl rfl rfl) (beq_tt h3)) ?_
            refine sx_rd' (rd_pick_true' rfl h3 rfl) rfl rfl (wt_none' rfl) ?_
            refine sx_nil' ?_
            show TX E K10 _
            exact tx_pick' [0, 1, 2, 3] (sub_cons rfl (sub_cons rfl (sub_cons rfl (sub_cons rfl (sub_cons rfl sub_nil))))) (by decide) (pick_cons rfl (pick_cons rfl (pick_cons rfl (pick_cons rfl pick_nil)))) (hK10 (fle r69 r73) hp)
          · refine sx_skip' rfl rfl (wt_is' (wt_guard' rfl rfl rfl) (beq_ft h3)) ?_
            refine sx_skip' rfl rfl (wt_is' (wt_guard' rfl rfl rfl) (beq_ft h3)) ?_
            refine sx_skip' rfl rfl (wt_is' (wt_guard' rfl rfl rfl) (beq_ft h3)) ?_
            refine sx_skip' rfl rfl (wt_is' (wt_guard' rfl rfl rfl) (beq_ft h3)) ?_
            refine sx_skip' rfl rfl (wt_is' (wt_guard' rfl rfl rfl) (beq_ft h3)) ?_
            refine sx_skip' rfl rfl (wt_is' (wt_guard' rfl rfl rfl) (beq_ft h3)) ?_
            refine sx_skip' rfl rfl (wt_is' (wt_guard' rfl rfl rfl) (beq_ft h3)) ?_
            refine sx_skip' rfl rfl (wt_is' (wt_guard' rfl rfl rfl) (beq_ft h3)) ?_
            refine sx_skip' rfl rfl (wt_is' (wt_guard' rfl rfl rfl) (beq_ft h3)) ?_
            refine sx_skip' rfl rfl (wt_is' (wt_guard' rfl rfl rfl) (beq_ft h3)) ?_
            refine sx_skip' rfl rfl (wt_is' (wt_guard' rfl rfl rfl) (beq_ft h3)) ?_
            refine sx_skip' rfl rfl (wt_is' (wt_guard' rfl rfl rfl) (beq_ft h3)) ?_
            refine sx_skip' rfl rfl (wt_is' (wt_guard' rfl rfl rfl) (beq_ft h3)) ?_
            refine sx_skip' rfl rfl (wt_is' (wt_guard' rfl rfl rfl) (beq_ft h3)) ?_
            refine sx_rd' (rd_pick_false' rfl h3 rfl) rfl rfl (wt_none' rfl) ?_
            refine sx_nil' ?_
            show TX E K10 _
            exact tx_pick' [0, 1, 2, 3] (sub_cons rfl (sub_cons rfl (sub_cons rfl (sub_cons rfl (sub_cons rfl sub_nil))))) (by decide) (pick_cons rfl (pick_cons rfl (pick_cons rfl (pick_cons rfl pick_nil)))) (hK10 false hp)
      intro hN8
      refine ax_node (f' := 1) #[true, true, true, true, true, true, true, true, true, true, false] (fun (v7 : Addr × Addr × Addr × Addr) => (⟨124, [], [(3, (Vl (.pointer (some v7.1)))), (4, (Vl (.pointer (some v7.2.1)))), (5, (Vl (.pointer (some v7.2.2.1)))), (8, (Vl (.float .f64 r49))), (9, (Fl r53)), (10, (Vl (.pointer (some v7.2.2.2)))), (57, (Ag [(Vl (.float .f64 r57.1)), (Vl (.float .f64 r57.2.1)), (Vl (.float .f64 r57.2.2))]))], [⟨.pointer (some v7.1), [(Vl (.float .f64 a0_0)), (Vl (.float .f64 a0_1)), (Vl (.float .f64 a0_2))], 35, none⟩, ⟨.pointer (some v7.2.1), [(Vl (.float .f64 a1_0)), (Vl (.float .f64 a1_1)), (Vl (.float .f64 a1_2))], 35, none⟩, ⟨.pointer (some v7.2.2.1), [(Vl (.float .f64 a2_0)), (Vl (.float .f64 a2_1)), (Vl (.float .f64 a2_2))], 35, none⟩, ⟨.pointer (some v7.2.2.2), [(Vl (.float .f64 0)), (Vl (.float .f64 0)), (Vl (.float .f64 0))], 35, none⟩]⟩ : St)) ?_ ?_
      · rintro ⟨q9019, q9020, q9021, q9022⟩
        refine ax_all (i := 10) (is := []) (by kernel_rfl) (all_cons ?_ all_nil)
        · refine nx_oxv (last := #[true, true, true, true, true, true, true, true, true, true, true]) rfl (oxv_store (i := 3) (o := 0) rfl rfl (lv_ag _) ⟨rfl, rfl, rfl, rfl⟩ rfl info35 rfl (H' := [⟨.pointer (some q9019), [(Vl (.float .f64 a0_0)), (Vl (.float .f64 a0_1)), (Vl (.float .f64 a0_2))], 35, none⟩, ⟨.pointer (some q9020), [(Vl (.float .f64 a1_0)), (Vl (.float .f64 a1_1)), (Vl (.float .f64 a1_2))], 35, none⟩, ⟨.pointer (some q9021), [(Vl (.float .f64 a2_0)), (Vl (.float .f64 a2_1)), (Vl (.float .f64 a2_2))], 35, none⟩, ⟨.pointer (some q9022), [(Vl (.float .f64 r57.1)), (Vl (.float .f64 r57.2.1)), (Vl (.float .f64 r57.2.2))], 35, none⟩]) rfl) rfl rfl bo_nil (wt_none' rfl) rfl fun _ => ?_
          exact tx_pick' [0, 1, 2, 3] (sub_cons rfl (sub_cons rfl (sub_cons rfl (sub_cons rfl (sub_cons rfl (sub_cons rfl sub_nil)))))) (by decide) (pick_cons rfl (pick_cons rfl (pick_cons rfl (pick_cons rfl pick_nil)))) (hN8 (q9019, q9020, q9021, q9022))
      intro hN7
      refine ax_node (f' := 2) #[true, true, true, true, true, true, true, true, true, false, false] (fun (v6 : Addr × Addr × Addr × Addr) => (⟨124, [], [(3, (Vl (.pointer (some v6.1)))), (4, (Vl (.pointer (some v6.2.1)))), (5, (Vl (.pointer (some v6.2.2.1)))), (8, (Vl (.float .f64 r49))), (10, (Vl (.pointer (some v6.2.2.2)))), (53, (Fl r53)), (57, (Ag [(Vl (.float .f64 r57.1)), (Vl (.float .f64 r57.2.1)), (Vl (.float .f64 r57.2.2))]))], [⟨.pointer (some v6.1), [(Vl (.float .f64 a0_0)), (Vl (.float .f64 a0_1)), (Vl (.float .f64 a0_2))], 35, none⟩, ⟨.pointer (some v6.2.1), [(Vl (.float .f64 a1_0)), (Vl (.float .f64 a1_1)), (Vl (.float .f64 a1_2))], 35, none⟩, ⟨.pointer (some v6.2.2.1), [(Vl (.float .f64 a2_0)), (Vl (.float .f64 a2_1)), (Vl (.float .f64 a2_2))], 35, none⟩, ⟨.pointer (some v6.2.2.2), [(Vl (.float .f64 0)), (Vl (.float .f64 0)), (Vl (.float .f64 0))], 35, none⟩]⟩ : St)) ?_ ?_
      · rintro ⟨q9015, q9016, q9017, q9018⟩
        refine ax_rd (ix := 9) (last := #[true, true, true, true, true, true, true, true, true, true, false]) (by kernel_rfl) rfl (rd_assign' rfl) rfl rfl (wt_none' rfl) rfl ?_
        exact tx_pick' [0, 1, 2, 3] (sub_cons rfl (sub_cons rfl (sub_cons rfl (sub_cons rfl (sub_cons rfl (sub_cons rfl (sub_cons rfl sub_nil))))))) (by decide) (pick_cons rfl (pick_cons rfl (pick_cons rfl (pick_cons rfl pick_nil)))) (hN7 (q9015, q9016, q9017, q9018))
      intro hN6
      refine ax_node (f' := 3) #[true, true, true, true, true, true, true, true, false, false, false] (fun (v4 : Addr × Addr × Addr) => (⟨124, [], [(3, (Vl (.pointer (some v4.1)))), (4, (Vl (.pointer (some v4.2.1)))), (5, (Vl (.pointer (some v4.2.2)))), (8, (Vl (.float .f64 r49))), (53, (Fl r53)), (57, (Ag [(Vl (.float .f64 r57.1)), (Vl (.float .f64 r57.2.1)), (Vl (.float .f64 r57.2.2))]))], [⟨.pointer (some v4.1), [(Vl (.float .f64 a0_0)), (Vl (.float .f64 a0_1)), (Vl (.float .f64 a0_2))], 35, none⟩, ⟨.pointer (some v4.2.1), [(Vl (.float .f64 a1_0)), (Vl (.float .f64 a1_1)), (Vl (.float .f64 a1_2))], 35, none⟩, ⟨.pointer (some v4.2.2), [(Vl (.float .f64 a2_0)), (Vl (.float .f64 a2_1)), (Vl (.float .f64 a2_2))], 35, none⟩]⟩ : St)) ?_ ?_
      · rintro ⟨q908, q909, q9010⟩
        refine ax_all (i := 8) (is := []) (by kernel_rfl) (all_cons ?_ all_nil)
        · refine nx_ox (last := #[true, true, true, true, true, true, true, true, true, false, false]) rfl (ox_alloc' info35 rfl rfl rfl rfl (l := [(Vl (.float .f64 0)), (Vl (.float .f64 0)), (Vl (.float .f64 0))]) rfl) rfl bs_nil (wt_none' rfl) rfl fun q10 => ?_
          exact tx_pick' [1, 2, 3, 0] (sub_cons rfl (sub_cons rfl (sub_cons rfl (sub_cons rfl (sub_cons rfl (sub_cons rfl (sub_cons rfl sub_nil))))))) (by decide) (pick_cons rfl (pick_cons rfl (pick_cons rfl (pick_cons rfl pick_nil)))) (hN6 (q908, q909, q9010, q10))
      intro hN4
      refine ax_node (f' := 3) #[true, true, true, true, true, true, true, false, true, false, false] (fun (v5 : Addr × Addr × Addr × Addr) => (⟨124, [], [(3, (Vl (.pointer (some v5.1)))), (4, (Vl (.pointer (some v5.2.1)))), (5, (Vl (.pointer (some v5.2.2.1)))), (8, (Vl (.float .f64 r49))), (10, (Vl (.pointer (some v5.2.2.2)))), (53, (Fl r53)), (54, (Ag [(Vl (.float .f64 a0_0)), (Vl (.float .f64 a0_1)), (Vl (.float .f64 a0_2))])), (55, (Ag [(Vl (.float .f64 a1_0)), (Vl (.float .f64 a1_1)), (Vl (.float .f64 a1_2))])), (56, (Ag [(Vl (.float .f64 a2_0)), (Vl (.float .f64 a2_1)), (Vl (.float .f64 a2_2))]))], [⟨.pointer (some v5.1), [(Vl (.float .f64 a0_0)), (Vl (.float .f64 a0_1)), (Vl (.float .f64 a0_2))], 35, none⟩, ⟨.pointer (some v5.2.1), [(Vl (.float .f64 a1_0)), (Vl (.float .f64 a1_1)), (Vl (.float .f64 a1_2))], 35, none⟩, ⟨.pointer (some v5.2.2.1), [(Vl (.float .f64 a2_0)), (Vl (.float .f64 a2_1)), (Vl (.float .f64 a2_2))], 35, none⟩, ⟨.pointer (some v5.2.2.2), [(Vl (.float .f64 0)), (Vl (.float .f64 0)), (Vl (.float .f64 0))], 35, none⟩]⟩ : St)) ?_ ?_
      · rintro ⟨q9011, q9012, q9013, q9014⟩
        refine ax_all (i := 7) (is := []) (by kernel_rfl) (all_cons ?_ all_nil)
        · refine nx_ox (last := #[true, true, true, true, true, true, true, true, true, false, false]) rfl (ox_calln' (ent_fn' Try.func15 isn15 rfl rfl) (impl_TriangleCentroid3_sim _ _ _ _ _ _ _ _ _ hr57 : Go.Sx.Fn Try.prog 15 [(Ag [(Vl (.float .f64 a0_0)), (Vl (.float .f64 a0_1)), (Vl (.float .f64 a0_2))]), (Ag [(Vl (.float .f64 a1_0)), (Vl (.float .f64 a1_1)), (Vl (.float .f64 a1_2))]), (Ag [(Vl (.float .f64 a2_0)), (Vl (.float .f64 a2_1)), (Vl (.float .f64 a2_2))])] [] (fun x : Unit => (Ag [(Vl (.float .f64 r57.1)), (Vl (.float .f64 r57.2.1)), (Vl (.float .f64 r57.2.2))])) (fun x => [])) (Hn := fun x : Unit => [⟨.pointer (some q9011), [(Vl (.float .f64 a0_0)), (Vl (.float .f64 a0_1)), (Vl (.float .f64 a0_2))], 35, none⟩, ⟨.pointer (some q9012), [(Vl (.float .f64 a1_0)), (Vl (.float .f64 a1_1)), (Vl (.float .f64 a1_2))], 35, none⟩, ⟨.pointer (some q9013), [(Vl (.float .f64 a2_0)), (Vl (.float .f64 a2_1)), (Vl (.float .f64 a2_2))], 35, none⟩, ⟨.pointer (some q9014), [(Vl (.float .f64 0)), (Vl (.float .f64 0)), (Vl (.float .f64 0))], 35, none⟩]) (fun _ => rfl) rfl rfl) rfl bs_nil (wt_none' rfl) rfl fun ⟨⟩ => ?_
          exact tx_pick' [0, 1, 2, 3] (sub_cons rfl (sub_cons rfl (sub_cons rfl (sub_cons rfl (sub_cons rfl (sub_cons rfl (sub_cons rfl sub_nil))))))) (by decide) (pick_cons rfl (pick_cons rfl (pick_cons rfl (pick_cons rfl pick_nil)))) (hN6 (q9011, q9012, q9013, q9014))
      intro hN5
      refine ax_node (f' := 4) #[true, true, true, true, true, true, true, false, false, false, false] (fun (v2 : Addr × Addr × Addr) => (⟨124, [], [(3, (Vl (.pointer (some v2.1)))), (4, (Vl (.pointer (some v2.2.1)))), (5, (Vl (.pointer (some v2.2.2)))), (8, (Vl (.float .f64 r49))), (53, (Fl r53)), (54, (Ag [(Vl (.float .f64 a0_0)), (Vl (.float .f64 a0_1)), (Vl (.float .f64 a0_2))])), (55, (Ag [(Vl (.float .f64 a1_0)), (Vl (.float .f64 a1_1)), (Vl (.float .f64 a1_2))])), (56, (Ag [(Vl (.float .f64 a2_0)), (Vl (.float .f64 a2_1)), (Vl (.float .f64 a2_2))]))], [⟨.pointer (some v2.1), [(Vl (.float .f64 a0_0)), (Vl (.float .f64 a0_1)), (Vl (.float .f64 a0_2))], 35, none⟩, ⟨.pointer (some v2.2.1), [(Vl (.float .f64 a1_0)), (Vl (.float .f64 a1_1)), (Vl (.float .f64 a1_2))], 35, none⟩, ⟨.pointer (some v2.2.2), [(Vl (.float .f64 a2_0)), (Vl (.float .f64 a2_1)), (Vl (.float .f64 a2_2))], 35, none⟩]⟩ : St)) ?_ ?_
      · rintro ⟨q901, q902, q903⟩
        refine ax_all (i := 7) (is := [8]) (by kernel_rfl) (all_cons ?_ (all_cons ?_ all_nil))
        · refine nx_ox (last := #[true, true, true, true, true, true, true, true, false, false, false]) rfl (ox_calln' (ent_fn' Try.func15 isn15 rfl rfl) (impl_TriangleCentroid3_sim _ _ _ _ _ _ _ _ _ hr57 : Go.Sx.Fn Try.prog 15 [(Ag [(Vl (.float .f64 a0_0)), (Vl (.float .f64 a0_1)), (Vl (.float .f64 a0_2))]), (Ag [(Vl (.float .f64 a1_0)), (Vl (.float .f64 a1_1)), (Vl (.float .f64 a1_2))]), (Ag [(Vl (.float .f64 a2_0)), (Vl (.float .f64 a2_1)), (Vl (.float .f64 a2_2))])] [] (fun x : Unit => (Ag [(Vl (.float .f64 r57.1)), (Vl (.float .f64 r57.2.1)), (Vl (.float .f64 r57.2.2))])) (fun x => [])) (Hn := fun x : Unit => [⟨.pointer (some q901), [(Vl (.float .f64 a0_0)), (Vl (.float .f64 a0_1)), (Vl (.float .f64 a0_2))], 35, none⟩, ⟨.pointer (some q902), [(Vl (.float .f64 a1_0)), (Vl (.float .f64 a1_1)), (Vl (.float .f64 a1_2))], 35, none⟩, ⟨.pointer (some q903), [(Vl (.float .f64 a2_0)), (Vl (.float .f64 a2_1)), (Vl (.float .f64 a2_2))], 35, none⟩]) (fun _ => rfl) rfl rfl) rfl bs_nil (wt_none' rfl) rfl fun ⟨⟩ => ?_
          exact tx_pick' [0, 1, 2] (sub_cons rfl (sub_cons rfl (sub_cons rfl (sub_cons rfl (sub_cons rfl (sub_cons rfl sub_nil)))))) (by decide) (pick_cons rfl (pick_cons rfl (pick_cons rfl pick_nil))) (hN4 (q901, q902, q903))
        · refine nx_ox (last := #[true, true, true, true, true, true, true, false, true, false, false]) rfl (ox_alloc' info35 rfl rfl rfl rfl (l := [(Vl (.float .f64 0)), (Vl (.float .f64 0)), (Vl (.float .f64 0))]) rfl) rfl bs_nil (wt_none' rfl) rfl fun q10 => ?_
          exact tx_pick' [1, 2, 3, 0] (sub_cons rfl (sub_cons rfl (sub_cons rfl (sub_cons rfl (sub_cons rfl (sub_cons rfl (sub_cons rfl (sub_cons rfl (sub_cons rfl sub_nil))))))))) (by decide) (pick_cons rfl (pick_cons rfl (pick_cons rfl (pick_cons rfl pick_nil)))) (hN5 (q901, q902, q903, q10))
      intro hN2
      refine ax_node (f' := 4) #[true, true, true, false, true, true, true, false, true, false, false] (fun (v3 : Addr × Addr × Addr × Addr) => (⟨124, [], [(3, (Vl (.pointer (some v3.1)))), (4, (Vl (.pointer (some v3.2.1)))), (5, (Vl (.pointer (some v3.2.2.1)))), (8, (Vl (.float .f64 r49))), (10, (Vl (.pointer (some v3.2.2.2)))), (50, (Ag [(Vl (.float .f64 a0_0)), (Vl (.float .f64 a0_1)), (Vl (.float .f64 a0_2))])), (51, (Ag [(Vl (.float .f64 a1_0)), (Vl (.float .f64 a1_1)), (Vl (.float .f64 a1_2))])), (52, (Ag [(Vl (.float .f64 a2_0)), (Vl (.float .f64 a2_1)), (Vl (.float .f64 a2_2))])), (54, (Ag [(Vl (.float .f64 a0_0)), (Vl (.float .f64 a0_1)), (Vl (.float .f64 a0_2))])), (55, (Ag [(Vl (.float .f64 a1_0)), (Vl (.float .f64 a1_1)), (Vl (.float .f64 a1_2))])), (56, (Ag [(Vl (.float .f64 a2_0)), (Vl (.float .f64 a2_1)), (Vl (.float .f64 a2_2))]))], [⟨.pointer (some v3.1), [(Vl (.float .f64 a0_0)), (Vl (.float .f64 a0_1)), (Vl (.float .f64 a0_2))], 35, none⟩, ⟨.pointer (some v3.2.1), [(Vl (.float .f64 a1_0)), (Vl (.float .f64 a1_1)), (Vl (.float .f64 a1_2))], 35, none⟩, ⟨.pointer (some v3.2.2.1), [(Vl (.float .f64 a2_0)), (Vl (.float .f64 a2_1)), (Vl (.float .f64 a2_2))], 35, none⟩, ⟨.pointer (some v3.2.2.2), [(Vl (.float .f64 0)), (Vl (.float .f64 0)), (Vl (.float .f64 0))], 35, none⟩]⟩ : St)) ?_ ?_
      · rintro ⟨q904, q905, q906, q907⟩
        refine ax_all (i := 3) (is := []) (by kernel_rfl) (all_cons ?_ all_nil)
        · refine nx_ox (last := #[true, true, true, true, true, true, true, false, true, false, false]) rfl (ox_calln' (ent_fn' Try.func14 isn14 rfl rfl) (impl_TriangleAreaIn3_sim _ _ _ _ _ _ _ _ _ hr53 : Go.Sx.Fn Try.prog 14 [(Ag [(Vl (.float .f64 a0_0)), (Vl (.float .f64 a0_1)), (Vl (.float .f64 a0_2))]), (Ag [(Vl (.float .f64 a1_0)), (Vl (.float .f64 a1_1)), (Vl (.float .f64 a1_2))]), (Ag [(Vl (.float .f64 a2_0)), (Vl (.float .f64 a2_1)), (Vl (.float .f64 a2_2))])] [] (fun x : Unit => (Fl r53)) (fun x => [])) (Hn := fun x : Unit => [⟨.pointer (some q904), [(Vl (.float .f64 a0_0)), (Vl (.float .f64 a0_1)), (Vl (.float .f64 a0_2))], 35, none⟩, ⟨.pointer (some q905), [(Vl (.float .f64 a1_0)), (Vl (.float .f64 a1_1)), (Vl (.float .f64 a1_2))], 35, none⟩, ⟨.pointer (some q906), [(Vl (.float .f64 a2_0)), (Vl (.float .f64 a2_1)), (Vl (.float .f64 a2_2))], 35, none⟩, ⟨.pointer (some q907), [(Vl (.float .f64 0)), (Vl (.float .f64 0)), (Vl (.float .f64 0))], 35, none⟩]) (fun _ => rfl) rfl rfl) rfl bs_nil (wt_none' rfl) rfl fun ⟨⟩ => ?_
          exact tx_pick' [0, 1, 2, 3] (sub_cons rfl (sub_cons rfl (sub_cons rfl (sub_cons rfl (sub_cons rfl (sub_cons rfl (sub_cons rfl (sub_cons rfl (sub_cons rfl sub_nil))))))))) (by decide) (pick_cons rfl (pick_cons rfl (pick_cons rfl (pick_cons rfl pick_nil)))) (hN5 (q904, q905, q906, q907))
      intro hN3
      refine ax_all (i := 3) (is := [8]) (by kernel_rfl) (all_cons ?_ (all_cons ?_ all_nil))
      · refine nx_ox (last := #[true, true, true, true, true, true, true, false, false, false, false]) rfl (ox_calln' (ent_fn' Try.func14 isn14 rfl rfl) (impl_TriangleAreaIn3_sim _ _ _ _ _ _ _ _ _ hr53 : Go.Sx.Fn Try.prog 14 [(Ag [(Vl (.float .f64 a0_0)), (Vl (.float .f64 a0_1)), (Vl (.float .f64 a0_2))]), (Ag [(Vl (.float .f64 a1_0)), (Vl (.float .f64 a1_1)), (Vl (.float .f64 a1_2))]), (Ag [(Vl (.float .f64 a2_0)), (Vl (.float .f64 a2_1)), (Vl (.float .f64 a2_2))])] [] (fun x : Unit => (Fl r53)) (fun x => [])) (Hn := fun x : Unit => [⟨.pointer (some q3), [(Vl (.float .f64 a0_0)), (Vl (.float .f64 a0_1)), (Vl (.float .f64 a0_2))], 35, none⟩, ⟨.pointer (some q4), [(Vl (.float .f64 a1_0)), (Vl (.float .f64 a1_1)), (Vl (.float .f64 a1_2))], 35, none⟩, ⟨.pointer (some q5), [(Vl (.float .f64 a2_0)), (Vl (.float .f64 a2_1)), (Vl (.float .f64 a2_2))], 35, none⟩, (Rw (Kl Kf) 25 (Vs g17) ([r12, r14, r16]))]) (fun _ => rfl) rfl rfl) rfl bs_nil (wt_none' rfl) rfl fun ⟨⟩ => ?_
        exact tx_pick' [0, 1, 2] (sub_cons rfl (sub_cons rfl (sub_cons rfl (sub_cons rfl (sub_cons rfl (sub_cons rfl (sub_cons rfl (sub_cons rfl sub_nil)))))))) (by decide) (pick_cons rfl (pick_cons rfl (pick_cons rfl pick_nil))) (hN2 (q3, q4, q5))
      · refine nx_ox (last := #[true, true, true, false, true, true, true, false, true, false, false]) rfl (ox_alloc' info35 rfl rfl rfl rfl (l := [(Vl (.float .f64 0)), (Vl (.float .f64 0)), (Vl (.float .f64 0))]) rfl) rfl bs_nil (wt_none' rfl) rfl fun q10 => ?_
        exact tx_pick' [1, 2, 3, 0] (sub_cons rfl (sub_cons rfl (sub_cons rfl (sub_cons rfl (sub_cons rfl (sub_cons rfl (sub_cons rfl (sub_cons rfl (sub_cons rfl (sub_cons rfl (sub_cons rfl sub_nil))))))))))) (by decide) (pick_cons rfl (pick_cons rfl (pick_cons rfl (pick_cons rfl pick_nil)))) (hN3 (q3, q4, q5, q10))
  · intro K5 hK5
    rcases br_cases hp with ⟨h1, hp⟩ | ⟨h1, hp⟩
    · refine sx_skip' rfl rfl (wt_is' (wt_guard' rfl rfl rfl) (beq_tf h1)) ?_
      refine sx_skip' rfl rfl (wt_is' (wt_guard' rfl rfl rfl) (beq_tf h1)) ?_
      refine sx_skip' rfl rfl (wt_is' (wt_guard' rfl rfl rfl) (beq_tf h1)) ?_
      refine sx_skip' rfl rfl (wt_is' (wt_guard' rfl rfl rfl) (beq_tf h1)) ?_
      refine sx_skip' rfl rfl (wt_is' (wt_guard' rfl rfl rfl) (beq_tf h1)) ?_
      refine sx_rd' (rd_pick_true' rfl h1 rfl) rfl rfl (wt_none' rfl) ?_
      refine sx_nil' ?_
      show TX E K5 _
      exact tx_pick' [3, 2, 1, 0] (sub_cons rfl (sub_cons rfl (sub_cons rfl (sub_cons rfl (sub_cons rfl sub_nil))))) (by decide) (pick_cons rfl (pick_cons rfl (pick_cons rfl (pick_cons rfl pick_nil)))) (hK5 true hp)
    · refine sx_rd' (rd_load_agg' (i := 3) (o := 0) (nn := 3) rfl ⟨rfl, rfl, rfl, rfl⟩ rfl agg35 (l' := [(Vl (.float .f64 a0_0)), (Vl (.float .f64 a0_1)), (Vl (.float .f64 a0_2))]) rfl) rfl rfl (wt_is' (wt_guard' rfl rfl rfl) (beq_ff h1)) ?_
      refine sx_rd' (rd_load_agg' (i := 2) (o := 0) (nn := 3) rfl ⟨rfl, rfl, rfl, rfl⟩ rfl agg35 (l' := [(Vl (.float .f64 a1_0)), (Vl (.float .f64 a1_1)), (Vl (.float .f64 a1_2))]) rfl) rfl rfl (wt_is' (wt_guard' rfl rfl rfl) (beq_ff h1)) ?_
      refine sx_rd' (rd_load_agg' (i := 1) (o := 0) (nn := 3) rfl ⟨rfl, rfl, rfl, rfl⟩ rfl agg35 (l' := [(Vl (.float .f64 a2_0)), (Vl (.float .f64 a2_1)), (Vl (.float .f64 a2_2))]) rfl) rfl rfl (wt_is' (wt_guard' rfl rfl rfl) (beq_ff h1)) ?_
      obtain ⟨r25, hr25, hp⟩ := bind_some hp
      refine sx_ox' (ox_calln' (ent_fn' Try.func13 isn13 rfl rfl) (laws_squareArea3_sim _ _ _ _ _ _ _ _ _ hr25 : Go.Sx.Fn Try.prog 13 [(Ag [(Vl (.float .f64 a0_0)), (Vl (.float .f64 a0_1)), (Vl (.float .f64 a0_2))]), (Ag [(Vl (.float .f64 a1_0)), (Vl (.float .f64 a1_1)), (Vl (.float .f64 a1_2))]), (Ag [(Vl (.float .f64 a2_0)), (Vl (.float .f64 a2_1)), (Vl (.float .f64 a2_2))])] [] (fun x : Unit => (Fl r25)) (fun x => [])) (Hn := fun x : Unit => [(Rw (Kl Kf) 25 (Vs g17) ([r12, r14, r16])), ⟨.pointer (some q5), [(Vl (.float .f64 a2_0)), (Vl (.float .f64 a2_1)), (Vl (.float .f64 a2_2))], 35, none⟩, ⟨.pointer (some q4), [(Vl (.float .f64 a1_0)), (Vl (.float .f64 a1_1)), (Vl (.float .f64 a1_2))], 35, none⟩, ⟨.pointer (some q3), [(Vl (.float .f64 a0_0)), (Vl (.float .f64 a0_1)), (Vl (.float .f64 a0_2))], 35, none⟩]) (fun _ => rfl) rfl rfl) (wt_is' (wt_guard' rfl rfl rfl) (beq_ff h1)) fun ⟨⟩ => ?_
      refine sx_rd' (rd_fcmp' (fl_f rfl) (fl_v rfl) rfl) rfl rfl (wt_is' (wt_guard' rfl rfl rfl) (beq_ff h1)) ?_
      refine sx_rd' (rd_pick_false' rfl h1 rfl) rfl rfl (wt_none' rfl) ?_
      refine sx_nil' ?_
      show TX E K5 _
      exact tx_pick' [3, 2, 1, 0] (sub_cons rfl (sub_cons rfl (sub_cons rfl (sub_cons rfl (sub_cons rfl sub_nil))))) (by decide) (pick_cons rfl (pick_cons rfl (pick_cons rfl (pick_cons rfl pick_nil)))) (hK5 (feq r25 0) hp)

end Go.Proofs.Ytnhbmhdjkibjaaa
