/-
  Plain functions for the Go functions that this law reaches, and that each call does what its plain function says. Printed by a program of ours.
-/
import Derived.Test.YtehfdhhaglbnbaaProg
import Derived.Test.YtehfdhhaglbnbaaSxZ
namespace Go.Proofs.Ytehfdhhaglbnbaa
open Go.Sx
set_option linter.unusedVariables false
set_option maxRecDepth 100000

theorem isn8 : (Try.f8.name == "runtime.NumGoroutine") = false := by kernel_rfl
theorem info23 : (Try.prog.info? 23).map (fun i => (i.zero, i.size, i.bytes)) = some (some (.slice none 0 0), 1, 24) := by kernel_rfl
theorem flat23 : Flat Try.prog 23 := ⟨_, Try.underlying23, fun _ h => (nomatch h), fun _ _ h => (nomatch h)⟩
theorem info3 : (Try.prog.info? 3).map (fun i => (i.zero, i.size, i.bytes)) = some (some (.int .i64 0), 1, 8) := by kernel_rfl
theorem flat3 : Flat Try.prog 3 := ⟨_, Try.underlying3, fun _ h => (nomatch h), fun _ _ h => (nomatch h)⟩
theorem places32 : placesOf Try.prog [{ name := "X", type := 22, offset := 0, embedded := false, tag := "", pkgPath := "", byteOffset := 0 }, { name := "Y", type := 22, offset := 1, embedded := false, tag := "", pkgPath := "", byteOffset := 8 }] = [(0, 1), (1, 1)] := by kernel_rfl
theorem has32 : ∀ f ∈ ([{ name := "X", type := 22, offset := 0, embedded := false, tag := "", pkgPath := "", byteOffset := 0 }, { name := "Y", type := 22, offset := 1, embedded := false, tag := "", pkgPath := "", byteOffset := 8 }] : List Field), (Try.prog.info? f.type).isSome = true := fun f hf => all_of (p := fun f => (Try.prog.info? f.type).isSome) (by kernel_rfl) f hf
theorem info32 : (Try.prog.info? 32).map (fun i => (i.zero, i.size, i.bytes)) = some (some (.agg #[.float .f64 0, .float .f64 0]), 2, 16) := by kernel_rfl
theorem places34 : placesOf Try.prog [{ name := "At", type := 32, offset := 0, embedded := false, tag := "", pkgPath := "", byteOffset := 0 }, { name := "Mass", type := 22, offset := 2, embedded := false, tag := "", pkgPath := "", byteOffset := 16 }] = [(0, 2), (2, 1)] := by kernel_rfl
theorem has34 : ∀ f ∈ ([{ name := "At", type := 32, offset := 0, embedded := false, tag := "", pkgPath := "", byteOffset := 0 }, { name := "Mass", type := 22, offset := 2, embedded := false, tag := "", pkgPath := "", byteOffset := 16 }] : List Field), (Try.prog.info? f.type).isSome = true := fun f hf => all_of (p := fun f => (Try.prog.info? f.type).isSome) (by kernel_rfl) f hf
theorem info34 : (Try.prog.info? 34).map (fun i => (i.zero, i.size, i.bytes)) = some (some (.agg #[.float .f64 0, .float .f64 0, .float .f64 0]), 3, 24) := by kernel_rfl
theorem mixed : Try.prog.follows .mixedOrders = true := by kernel_rfl
theorem isn34 : (Try.f34.name == "runtime.NumGoroutine") = false := by kernel_rfl
theorem agg34 : Agg Try.prog 34 3 := ⟨⟨_, Try.underlying34, .inl ⟨_, rfl⟩⟩, info_size info34⟩
theorem info22 : (Try.prog.info? 22).map (fun i => (i.zero, i.size, i.bytes)) = some (some (.float .f64 0), 1, 8) := by kernel_rfl
theorem flat22 : Flat Try.prog 22 := ⟨_, Try.underlying22, fun _ h => (nomatch h), fun _ _ h => (nomatch h)⟩
theorem info29 : (Try.prog.info? 29).map (fun i => (i.zero, i.size, i.bytes)) = some (some (.slice none 0 0), 1, 24) := by kernel_rfl
theorem isn27 : (Try.f27.name == "runtime.NumGoroutine") = false := by kernel_rfl
theorem flat29 : Flat Try.prog 29 := ⟨_, Try.underlying29, fun _ h => (nomatch h), fun _ _ h => (nomatch h)⟩
theorem isn50 : (Try.f50.name == "runtime.NumGoroutine") = false := by kernel_rfl
theorem extf64 : ∀ {x r : Nat}, gint .zero x = r → ∀ y, (y = x ∨ (isn x = true ∧ isn y = true)) → RunsF Try.prog (callFunc 64 #[.float .f64 y]) (Fl r) := fun hz y hy => hz ▸ runs_ext (e := Extern.MathFloor.toIntegral "math.archTrunc" .zero) Try.func64 (by kernel_rfl) (by kernel_rfl) (by kernel_rfl) (by kernel_rfl) (gint_runs hy)
theorem isn35 : (Try.f35.name == "runtime.NumGoroutine") = false := by kernel_rfl
theorem isn56 : (Try.f56.name == "runtime.NumGoroutine") = false := by kernel_rfl
theorem isn9 : (Try.f9.name == "runtime.NumGoroutine") = false := by kernel_rfl
theorem agg32 : Agg Try.prog 32 2 := ⟨⟨_, Try.underlying32, .inl ⟨_, rfl⟩⟩, info_size info32⟩
theorem isn10 : (Try.f10.name == "runtime.NumGoroutine") = false := by kernel_rfl
theorem isn11 : (Try.f11.name == "runtime.NumGoroutine") = false := by kernel_rfl
theorem isn38 : (Try.f38.name == "runtime.NumGoroutine") = false := by kernel_rfl
theorem places69 : placesOf Try.prog [{ name := "X", type := 22, offset := 0, embedded := false, tag := "", pkgPath := "", byteOffset := 0 }, { name := "Y", type := 22, offset := 1, embedded := false, tag := "", pkgPath := "", byteOffset := 8 }] = [(0, 1), (1, 1)] := by kernel_rfl
theorem has69 : ∀ f ∈ ([{ name := "X", type := 22, offset := 0, embedded := false, tag := "", pkgPath := "", byteOffset := 0 }, { name := "Y", type := 22, offset := 1, embedded := false, tag := "", pkgPath := "", byteOffset := 8 }] : List Field), (Try.prog.info? f.type).isSome = true := fun f hf => all_of (p := fun f => (Try.prog.info? f.type).isSome) (by kernel_rfl) f hf
theorem info69 : (Try.prog.info? 69).map (fun i => (i.zero, i.size, i.bytes)) = some (some (.agg #[.float .f64 0, .float .f64 0]), 2, 16) := by kernel_rfl
theorem agg69 : Agg Try.prog 69 2 := ⟨⟨_, Try.underlying69, .inl ⟨_, rfl⟩⟩, info_size info69⟩
theorem isn37 : (Try.f37.name == "runtime.NumGoroutine") = false := by kernel_rfl
theorem isn13 : (Try.f13.name == "runtime.NumGoroutine") = false := by kernel_rfl
theorem extf39 : ∀ {x r : Nat}, gsqrt x = r → ∀ y, (y = x ∨ (isn x = true ∧ isn y = true)) → RunsF Try.prog (callFunc 39 #[.float .f64 y]) (Fl r) := fun hz y hy => hz ▸ runs_ext (e := Extern.MathSqrt.sqrt) Try.func39 (by kernel_rfl) (by kernel_rfl) (by kernel_rfl) (by kernel_rfl) (gsqrt_runs hy)
theorem isn57 : (Try.f57.name == "runtime.NumGoroutine") = false := by kernel_rfl
theorem isn36 : (Try.f36.name == "runtime.NumGoroutine") = false := by kernel_rfl
theorem isn12 : (Try.f12.name == "runtime.NumGoroutine") = false := by kernel_rfl
theorem isn14 : (Try.f14.name == "runtime.NumGoroutine") = false := by kernel_rfl
theorem ext41 : ∀ {args : Array Value} {v : Value}, Runs Try.prog ((Extern.MathFloatBits.float64bits) args) v → Runs Try.prog (callFunc 41 args) (.value v) := fun hr => ru_ext Try.func41 (by kernel_rfl) (by kernel_rfl) (by kernel_rfl) (by kernel_rfl) hr
theorem ext40 : ∀ {args : Array Value} {v : Value}, Runs Try.prog ((Extern.MathFloatBits.float64frombits) args) v → Runs Try.prog (callFunc 40 args) (.value v) := fun hr => ru_ext Try.func40 (by kernel_rfl) (by kernel_rfl) (by kernel_rfl) (by kernel_rfl) hr
def KT34 : Kd (Nat × Nat × Nat) := ⟨3, fun x => [(Vl (.float .f64 x.1)), (Vl (.float .f64 x.2.1)), (Vl (.float .f64 x.2.2))], fun _ => rfl⟩

def laws_places2_l1s (a0 : List (Nat × Nat × Nat)) (k : Nat) (rec1 : ((List (List Nat)) × Int) → Option ((List (List Nat)))) (x1 : List (List Nat)) (x2 : Int) : Option ((List (List Nat))) :=
  br (decide (x2 < (a0.length : Int)))
    ((idx a0 x2) >>= fun r10 =>
    (apd 24 x1 ([[r10.1, r10.2.1]])) >>= fun r21 =>
    rec1 (r21, (iadd .i64 x2 1)))
    (some x1)
def laws_places2_l1 (a0 : List (Nat × Nat × Nat)) : Nat → ((List (List Nat)) × Int) → Option ((List (List Nat)))
  | 0, _ => none
  | k + 1, v => laws_places2_l1s a0 k (laws_places2_l1 a0 k) v.1 v.2
def laws_places2 (k : Nat) (a0 : List (Nat × Nat × Nat)) : Option ((List (List Nat))) :=
  (laws_places2_l1 a0 k ([], 0)) >>= fun v2 =>
  some v2

theorem laws_places2_sim {k : Nat}  (a0 : List (Nat × Nat × Nat)) {out : (List (List Nat))} (hp : laws_places2 k a0 = some out) : Go.Sx.Fn Try.prog 34 [(Sl KT34 a0)] [] (fun w : Unit => (Sl (Kl Kf) out)) (fun w => []) := by
  unfold laws_places2 at hp
  refine fn_of Try.func34 rfl Try.ntmps34 rfl fun E hM => ?_
  refine cx_seq' fun K1 hK1 => ?_
  refine cx_region' ?_
  refine sx_rd' (rd_assign' rfl) rfl rfl (wt_none' rfl) ?_
  refine sx_nil' ?_
  show TX E K1 _
  refine tx_k' hK1 ?_
  refine cx_seq' fun K2 hK2 => ?_
  refine cx_region' ?_
  refine sx_rd' (rd_assign' rfl) rfl rfl (wt_none' rfl) ?_
  refine sx_nil' ?_
  show TX E K2 _
  refine tx_k' hK2 ?_
  refine cx_seq' fun K3 hK3 => ?_
  refine cx_seq' fun K4 hK4 => ?_
  refine cx_region' ?_
  refine sx_rd' (rd_move' rfl) rfl rfl (wt_none' rfl) ?_
  refine sx_rd' (rd_len' rfl Try.underlying24) rfl rfl (wt_none' rfl) ?_
  refine sx_rd' (rd_move' rfl) rfl rfl (wt_none' rfl) ?_
  refine sx_nil' ?_
  show TX E K4 _
  refine tx_k' hK4 ?_
  refine cx_block' ?_
  obtain ⟨v2, hy1, hp⟩ := bind_some hp
  refine tx_nilrow' (Kl Kf) 29 ?_
  refine cx_loopg' (F := laws_places2_l1 a0) (G := fun k R v => laws_places2_l1s a0 k R v.1 v.2) (x := ([], 0)) (gh := (none, 0, 0)) (fun (v1 : (List (List Nat)) × Int) (w1 : Gs) => (⟨24, [], [(3, (Vl (Vs w1))), (6, (Sl KT34 a0)), (7, (Vl (.int .i64 (a0.length : Int)))), (8, (Vl (.int .i64 v1.2)))], [(Rw (Kl Kf) 29 (Vs w1) v1.1)]⟩ : St)) (fun (v2 : (List (List Nat))) => Zg E (Exit.exit 0) (fun (w2 : Gs) => (⟨24, [], [(3, (Vl (Vs w2)))], [(Rw (Kl Kf) 29 (Vs w2) v2)]⟩ : St))) (fun _ => rfl) (fun _ _ => rfl) ?_ hy1 (tx_to' rfl [0] (sub_cons rfl (sub_cons rfl (sub_cons rfl (sub_cons rfl sub_nil)))) (by decide) (pick_cons rfl pick_nil)) ?_
  · clear hp hy1
    clear v2
    intro k rec1 KY1 ih1
    rintro ⟨x1, x2⟩ g901 y1 hp
    replace hp : laws_places2_l1s a0 k rec1 x1 x2 = some y1 := hp
    unfold laws_places2_l1s at hp
    refine cx_seq' fun K9 hK9 => ?_
    refine cx_region' ?_
    refine sx_rd' (rd_bin' rfl rfl eg_int ru_lss) rfl rfl (wt_none' rfl) ?_
    refine sx_nil' ?_
    show TX E K9 _
    refine tx_k' hK9 ?_
    refine cx_seq' fun K10 hK10 => ?_
    refine cx_cond' rfl (fun h3 => ?_) (fun h3 => ?_)
    · replace hp := (br_t h3).symm.trans hp
      refine cx_skip' ?_
      show TX E K10 _
      refine tx_k' hK10 ?_
      refine cx_seq' fun K11 hK11 => ?_
      refine cx_block' ?_
      refine cx_seq' fun K12 hK12 => ?_
      refine cx_region' ?_
      obtain ⟨r10, hr10, hp⟩ := bind_some hp
      refine sx_rd' (rd_at' (K := KT34) rfl rfl hr10 Try.underlying24 info34) rfl rfl (wt_none' rfl) ?_
      refine sx_rd' (rd_load_pt_agg' (nn := 3) rfl rfl agg34 (l' := [(Vl (.float .f64 r10.1)), (Vl (.float .f64 r10.2.1)), (Vl (.float .f64 r10.2.2))]) rfl) rfl rfl (wt_none' rfl) ?_
      refine sx_ox' (ox_alloc' info34 rfl rfl rfl rfl (l := [(Vl (.float .f64 0)), (Vl (.float .f64 0)), (Vl (.float .f64 0))]) rfl) (wt_none' rfl) fun q5 => ?_
      refine sx_ox' (ox_store' (i := 0) (o := 0) rfl rfl (lv_ag _) ⟨rfl, rfl, rfl, rfl⟩ rfl info34 rfl (H' := [⟨.pointer (some q5), [(Vl (.float .f64 r10.1)), (Vl (.float .f64 r10.2.1)), (Vl (.float .f64 r10.2.2))], 34, none⟩, (Rw (Kl Kf) 29 (Vs g901) x1)]) rfl) (wt_none' rfl) fun _ => ?_
      refine sx_nil' ?_
      show TX E K12 _
      refine tx_k' hK12 ?_
      refine cx_region' ?_
      refine sx_rd' (rd_move' rfl) rfl rfl (wt_none' rfl) ?_
      refine sx_rd' (rd_field0' rfl Try.underlying34 rfl info32 rfl) rfl rfl (wt_none' rfl) ?_
      refine sx_rd' (rd_field0' rfl Try.underlying32 rfl info22 rfl) rfl rfl (wt_none' rfl) ?_
      refine sx_rd' (rd_load' (i := 0) (o := 0) rfl ⟨rfl, rfl, rfl, rfl⟩ rfl flat22) rfl rfl (wt_none' rfl) ?_
      refine sx_rd' (rd_field0' rfl Try.underlying34 rfl info32 rfl) rfl rfl (wt_none' rfl) ?_
      refine sx_rd' (rd_field' (off := 1) rfl Try.underlying32 rfl info22 rfl) rfl rfl (wt_none' rfl) ?_
      refine sx_rd' (rd_load' (i := 0) (o := 1) rfl ⟨rfl, rfl, rfl, rfl⟩ rfl flat22) rfl rfl (wt_none' rfl) ?_
      refine sx_ox' (ox_rowlit' (K := Kf) (xs := [r10.1, r10.2.1]) (qs := [(0, [(Vl (.float .f64 r10.1))]), (1, [(Vl (.float .f64 r10.2.1))])]) ⟨rfl, ⟨_, rfl, (lv_vl rfl rfl)⟩, ⟨rfl, ⟨_, rfl, (lv_vl rfl rfl)⟩, trivial⟩⟩ Try.underlying29 info22 rfl rfl rfl rfl rfl (by kernel_rfl) rfl rfl rfl) (wt_none' rfl) fun g19 => ?_
      refine tx_fz' (frz_row 0 [(19, (Vl (Vs g19)), (Sl Kf ([r10.1, r10.2.1])))] (K := Kf) (xs := [r10.1, r10.2.1]) (by decide) rfl ⟨⟨rfl, frz_it⟩, trivial⟩ (H' := [⟨.pointer (some q5), [(Vl (.float .f64 r10.1)), (Vl (.float .f64 r10.2.1)), (Vl (.float .f64 r10.2.2))], 34, none⟩, (Rw (Kl Kf) 29 (Vs g901) x1)]) frzH_refl) ?_
      refine sx_ox' (ox_rowlit' (K := (Kl Kf)) (xs := [[r10.1, r10.2.1]]) (qs := [(0, [(Sl Kf ([r10.1, r10.2.1]))])]) ⟨rfl, ⟨_, rfl, (lv_sl _ _)⟩, trivial⟩ Try.underlying58 info29 rfl rfl rfl rfl rfl (by kernel_rfl) rfl rfl rfl) (wt_none' rfl) fun g20 => ?_
      obtain ⟨r21, hr21, hp⟩ := bind_some hp
      refine sx_ox' (ox_append' (K := (Kl Kf)) (i := 2) (xs := x1) (ys := ([[r10.1, r10.2.1]])) rfl rfl rfl (sr_row' (j := 0) rfl rfl rfl Try.underlying58) hr21 Try.underlying58 info29 rfl rfl rfl (H' := [(Rw (Kl Kf) 29 (Vs g20) ([[r10.1, r10.2.1]])), ⟨.pointer (some q5), [(Vl (.float .f64 r10.1)), (Vl (.float .f64 r10.2.1)), (Vl (.float .f64 r10.2.2))], 34, none⟩]) rfl) (wt_none' rfl) fun g21 => ?_
      refine sx_rd' (rd_assign' rfl) rfl rfl (wt_none' rfl) ?_
      refine sx_nil' ?_
      show TX E K11 _
      refine tx_k' hK11 ?_
      refine cx_region' ?_
      refine sx_rd' (rd_bin' rfl rfl eg_int ru_add) rfl rfl (wt_none' rfl) ?_
      refine sx_rd' (rd_move' rfl) rfl rfl (wt_none' rfl) ?_
      refine sx_nil' ?_
      show TX E (KY1 _) _
      exact tx_pick' [0] (sub_cons rfl (sub_cons rfl (sub_cons rfl (sub_cons rfl sub_nil)))) (by decide) (pick_cons rfl pick_nil) (ih1 (r21, (iadd .i64 x2 1)) g21 _ hp)
    · replace hp := (br_f h3).symm.trans hp
      refine cx_exit' ?_
      replace hp := Option.some.inj hp
      subst hp
      show TX E (Zg E (Exit.exit 0) _ (Exit.exit 0)) _
      exact tx_zend' g901 rfl [0] (sub_cons rfl sub_nil) (by decide) (pick_cons rfl pick_nil)
  · refine zg_out fun w2 => ?_
    show TX E K3 _
    refine tx_k' hK3 ?_
    refine cx_seq' fun K13 hK13 => ?_
    refine cx_region' ?_
    refine sx_rd' (rd_move' rfl) rfl rfl (wt_none' rfl) ?_
    refine sx_rd' (rd_assign' rfl) rfl rfl (wt_none' rfl) ?_
    refine sx_nil' ?_
    show TX E K13 _
    refine tx_k' hK13 ?_
    refine cx_retc' ?_
    replace hp := Option.some.inj hp
    subst hp
    refine tx_fz' (frz_row 0 [(3, (Vl (Vs w2)), (Sl (Kl Kf) v2)), (23, (Vl (Vs w2)), (Sl (Kl Kf) v2)), (2, (Vl (Vs w2)), (Sl (Kl Kf) v2))] (K := (Kl Kf)) (xs := v2) (by decide) rfl ⟨⟨rfl, frz_it⟩, ⟨rfl, frz_it⟩, ⟨rfl, frz_it⟩, trivial⟩ (H' := []) frzH_refl) ?_
    refine tx_pick' (L' := [(2, (Sl (Kl Kf) v2))]) (H' := []) [] (sub_cons rfl sub_nil) (by decide) pick_nil ?_
    exact tx_ret1' Try.results34 rfl () (rv_tmp' rfl) (List.Sublist.refl _)

def math_Trunc (k : Nat) (a0 : Nat) : Option (Nat) :=
  (some (gint .zero a0)) >>= fun r4 =>
  some r4

theorem math_Trunc_sim {k : Nat}  (a0 : Nat) {out : Nat} (hp : math_Trunc k a0 = some out) : Go.Sx.Fn Try.prog 50 [(Vl (.float .f64 a0))] [] (fun w : Unit => (Fl out)) (fun w => []) := by
  unfold math_Trunc at hp
  refine fn_of Try.func50 rfl Try.ntmps50 rfl fun E hM => ?_
  refine cx_seq' fun K1 hK1 => ?_
  refine cx_region' ?_
  refine sx_rd' (rd_assign' rfl) rfl rfl (wt_none' rfl) ?_
  refine sx_nil' ?_
  show TX E K1 _
  refine tx_k' hK1 ?_
  refine cx_seq' fun K2 hK2 => ?_
  refine cx_cond_t' rfl rfl ?_
  refine cx_seq' fun K3 hK3 => ?_
  refine cx_region' ?_
  refine sx_rd' (rd_move' rfl) rfl rfl (wt_none' rfl) ?_
  obtain ⟨r4, hr4, hp⟩ := bind_some hp
  refine sx_ox' (ox_extf' rfl (fl_v rfl) Try.func64 (extf64 (Option.some.inj hr4)) rfl rfl) (wt_none' rfl) fun _ => ?_
  refine sx_rd' (rd_assign' rfl) rfl rfl (wt_none' rfl) ?_
  refine sx_nil' ?_
  show TX E K3 _
  refine tx_k' hK3 ?_
  refine cx_retc' ?_
  replace hp := Option.some.inj hp
  subst hp
  refine tx_pick' (L' := [(2, (Fl r4))]) (H' := []) [] (sub_cons rfl sub_nil) (by decide) pick_nil ?_
  exact tx_ret1' Try.results50 rfl () (rv_tmp' rfl) (List.Sublist.refl _)

def spec_Grid_j8 (k : Nat) (rec2 : Int → Option (Unit ⊕ Unit)) (x10 : Int) (x9 : Bool) : Option (Unit ⊕ Unit) :=
  br x9
    (some (.inl ()))
    (rec2 (iadd .i64 x10 1))
def spec_Grid_j7 (k : Nat) (rec2 : Int → Option (Unit ⊕ Unit)) (x10 : Int) (r25 : Nat) (x8 : Bool) : Option (Unit ⊕ Unit) :=
  br (!x8)
    (spec_Grid_j8 k rec2 x10 true)
    ((math_Trunc k r25) >>= fun r40 =>
    spec_Grid_j8 k rec2 x10 (fne r25 r40))
def spec_Grid_l2s (r15 : List Nat) (a2 : Nat) (k : Nat) (rec2 : Int → Option (Unit ⊕ Unit)) (x10 : Int) : Option (Unit ⊕ Unit) :=
  br (decide (x10 < (r15.length : Int)))
    ((idx r15 x10) >>= fun r25 =>
    br (fge r25 (fneg a2))
      (spec_Grid_j7 k rec2 x10 r25 (fle r25 a2))
      (spec_Grid_j7 k rec2 x10 r25 false))
    (some (.inr ()))
def spec_Grid_l2 (r15 : List Nat) (a2 : Nat) : Nat → Int → Option (Unit ⊕ Unit)
  | 0, _ => none
  | k + 1, v => spec_Grid_l2s r15 a2 k (spec_Grid_l2 r15 a2 k) v
def spec_Grid_l3s (a0 : List (List Nat)) (a1 : Int) (a2 : Nat) (k : Nat) (rec3 : Int → Option (Unit ⊕ Unit)) (x11 : Int) : Option (Unit ⊕ Unit) :=
  br (decide (x11 < (a0.length : Int)))
    ((idx a0 x11) >>= fun r15 =>
    br (!decide ((r15.length : Int) = a1))
      (some (.inl ()))
      ((spec_Grid_l2 r15 a2 k 0) >>= fun y2 => match y2 with
        | (.inl v14) =>
          (some (.inl ()))
        | (.inr v15) =>
          (rec3 (iadd .i64 x11 1))))
    (some (.inr ()))
def spec_Grid_l3 (a0 : List (List Nat)) (a1 : Int) (a2 : Nat) : Nat → Int → Option (Unit ⊕ Unit)
  | 0, _ => none
  | k + 1, v => spec_Grid_l3s a0 a1 a2 k (spec_Grid_l3 a0 a1 a2 k) v
def spec_Grid (k : Nat) (a0 : List (List Nat)) (a1 : Int) (a2 : Nat) : Option (Bool) :=
  (spec_Grid_l3 a0 a1 a2 k 0) >>= fun y3 => match y3 with
    | (.inl v16) =>
      (some false)
    | (.inr v17) =>
      (some (decide (0 < a1)))

theorem spec_Grid_sim {k : Nat}  (a0 : List (List Nat)) (a1 : Int) (a2 : Nat) {out : Bool} (hp : spec_Grid k a0 a1 a2 = some out) : Go.Sx.Fn Try.prog 27 [(Sl (Kl Kf) a0), (Vl (.int .i64 a1)), (Vl (.float .f64 a2))] [] (fun w : Unit => (Vl (.bool out))) (fun w => []) := by
  unfold spec_Grid at hp
  refine fn_of Try.func27 rfl Try.ntmps27 rfl fun E hM => ?_
  refine cx_seq' fun K1 hK1 => ?_
  refine cx_region' ?_
  refine sx_rd' (rd_assign' rfl) rfl rfl (wt_none' rfl) ?_
  refine sx_nil' ?_
  show TX E K1 _
  refine tx_k' hK1 ?_
  refine cx_seq' fun K2 hK2 => ?_
  refine cx_seq' fun K3 hK3 => ?_
  refine cx_region' ?_
  refine sx_rd' (rd_move' rfl) rfl rfl (wt_none' rfl) ?_
  refine sx_rd' (rd_len' rfl Try.underlying58) rfl rfl (wt_none' rfl) ?_
  refine sx_rd' (rd_move' rfl) rfl rfl (wt_none' rfl) ?_
  refine sx_nil' ?_
  show TX E K3 _
  refine tx_k' hK3 ?_
  refine cx_block' ?_
  obtain ⟨y3, hy3, hp⟩ := bind_some hp
  refine cx_loopg' (F := spec_Grid_l3 a0 a1 a2) (G := fun k R v => spec_Grid_l3s a0 a1 a2 k R v) (x := 0) (gh := ()) (fun (v8 : Int) (w8 : Unit) => (⟨47, [], [(1, (Vl (.int .i64 a1))), (2, (Vl (.float .f64 a2))), (11, (Sl (Kl Kf) a0)), (12, (Vl (.int .i64 (a0.length : Int)))), (13, (Vl (.int .i64 v8)))], []⟩ : St)) (fun (y : Unit ⊕ Unit) => match y with | (.inl v16) => Zg E Exit.ret (fun (w16 : Unit) => (⟨47, [], [(6, (Vl (.bool false)))], []⟩ : St)) | (.inr v17) => Zg E (Exit.exit 0) (fun (w17 : Unit) => (⟨47, [], [(1, (Vl (.int .i64 a1)))], []⟩ : St))) (fun _ => rfl) (fun _ _ => rfl) ?_ hy3 (tx_to' rfl [] (sub_cons rfl (sub_cons rfl (sub_cons rfl (sub_cons rfl (sub_cons rfl sub_nil))))) (by decide) pick_nil) ?_
  · clear hp hy3
    clear y3
    intro k rec3 KY3 ih3
    rintro x11 ⟨⟩ y3 hp
    replace hp : spec_Grid_l3s a0 a1 a2 k rec3 x11 = some y3 := hp
    unfold spec_Grid_l3s at hp
    refine cx_seq' fun K28 hK28 => ?_
    refine cx_region' ?_
    refine sx_rd' (rd_bin' rfl rfl eg_int ru_lss) rfl rfl (wt_none' rfl) ?_
    refine sx_nil' ?_
    show TX E K28 _
    refine tx_k' hK28 ?_
    refine cx_seq' fun K29 hK29 => ?_
    refine cx_cond' rfl (fun h13 => ?_) (fun h13 => ?_)
    · replace hp := (br_t h13).symm.trans hp
      refine cx_skip' ?_
      show TX E K29 _
      refine tx_k' hK29 ?_
      refine cx_seq' fun K30 hK30 => ?_
      refine cx_block' ?_
      refine cx_seq' fun K31 hK31 => ?_
      refine cx_region' ?_
      obtain ⟨r15, hr15, hp⟩ := bind_some hp
      refine sx_rd' (rd_at' (K := (Kl Kf)) rfl rfl hr15 Try.underlying58 info29) rfl rfl (wt_none' rfl) ?_
      refine sx_rd' (rd_load_pt' rfl rfl flat29) rfl rfl (wt_none' rfl) ?_
      refine sx_rd' (rd_assign' rfl) rfl rfl (wt_none' rfl) ?_
      refine sx_nil' ?_
      show TX E K31 _
      refine tx_k' hK31 ?_
      refine cx_seq' fun K32 hK32 => ?_
      refine cx_seq' fun K33 hK33 => ?_
      refine cx_region' ?_
      refine sx_rd' (rd_move' rfl) rfl rfl (wt_none' rfl) ?_
      refine sx_rd' (rd_len' rfl Try.underlying29) rfl rfl (wt_none' rfl) ?_
      refine sx_rd' (rd_move' rfl) rfl rfl (wt_none' rfl) ?_
      refine sx_rd' (rd_bin' rfl rfl eg_int ru_neq) rfl rfl (wt_none' rfl) ?_
      refine sx_nil' ?_
      show TX E K33 _
      refine tx_k' hK33 ?_
      refine cx_cond' rfl (fun h14 => ?_) (fun h14 => ?_)
      · replace hp := (br_t h14).symm.trans hp
        refine cx_seq' fun K34 hK34 => ?_
        refine cx_region' ?_
        refine sx_rd' (rd_assign' rfl) rfl rfl (wt_none' rfl) ?_
        refine sx_nil' ?_
        show TX E K34 _
        refine tx_k' hK34 ?_
        refine cx_retc' ?_
        replace hp := Option.some.inj hp
        subst hp
        show TX E (Zg E Exit.ret _ Exit.ret) _
        exact tx_zend' () rfl [] (sub_cons rfl sub_nil) (by decide) pick_nil
      · replace hp := (br_f h14).symm.trans hp
        refine cx_skip' ?_
        show TX E K32 _
        refine tx_k' hK32 ?_
        refine cx_seq' fun K35 hK35 => ?_
        refine cx_region' ?_
        refine sx_rd' (rd_move' rfl) rfl rfl (wt_none' rfl) ?_
        refine sx_rd' (rd_len' rfl Try.underlying29) rfl rfl (wt_none' rfl) ?_
        refine sx_rd' (rd_move' rfl) rfl rfl (wt_none' rfl) ?_
        refine sx_nil' ?_
        show TX E K35 _
        refine tx_k' hK35 ?_
        refine cx_block' ?_
        obtain ⟨y2, hy2, hp⟩ := bind_some hp
        refine cx_loopg' (F := spec_Grid_l2 r15 a2) (G := fun k R v => spec_Grid_l2s r15 a2 k R v) (x := 0) (gh := ()) (fun (v11 : Int) (w11 : Unit) => (⟨47, [], [(1, (Vl (.int .i64 a1))), (2, (Vl (.float .f64 a2))), (11, (Sl (Kl Kf) a0)), (12, (Vl (.int .i64 (a0.length : Int)))), (13, (Vl (.int .i64 x11))), (21, (Sl Kf r15)), (22, (Vl (.int .i64 (r15.length : Int)))), (23, (Vl (.int .i64 v11)))], []⟩ : St)) (fun (y : Unit ⊕ Unit) => match y with | (.inl v14) => Zg E Exit.ret (fun (w14 : Unit) => (⟨47, [], [(6, (Vl (.bool false)))], []⟩ : St)) | (.inr v15) => Zg E (Exit.exit 2) (fun (w15 : Unit) => (⟨47, [], [(1, (Vl (.int .i64 a1))), (2, (Vl (.float .f64 a2))), (11, (Sl (Kl Kf) a0)), (12, (Vl (.int .i64 (a0.length : Int)))), (13, (Vl (.int .i64 x11)))], []⟩ : St))) (fun _ => rfl) (fun _ _ => rfl) ?_ hy2 (tx_to' rfl [] (sub_cons rfl (sub_cons rfl (sub_cons rfl (sub_cons rfl (sub_cons rfl (sub_cons rfl (sub_cons rfl (sub_cons rfl sub_nil)))))))) (by decide) pick_nil) ?_
        · clear hp hy2
          clear y2
          intro k rec2 KY2 ih2
          rintro x10 ⟨⟩ y2 hp
          replace hp : spec_Grid_l2s r15 a2 k rec2 x10 = some y2 := hp
          unfold spec_Grid_l2s at hp
          refine cx_seq' fun K44 hK44 => ?_
          refine cx_region' ?_
          refine sx_rd' (rd_bin' rfl rfl eg_int ru_lss) rfl rfl (wt_none' rfl) ?_
          refine sx_nil' ?_
          show TX E K44 _
          refine tx_k' hK44 ?_
          refine cx_seq' fun K45 hK45 => ?_
          refine cx_cond' rfl (fun h20 => ?_) (fun h20 => ?_)
          · replace hp := (br_t h20).symm.trans hp
            refine cx_skip' ?_
            show TX E K45 _
            refine tx_k' hK45 ?_
            refine cx_seq' fun K46 hK46 => ?_
            refine cx_block' ?_
            refine cx_seq' fun K47 hK47 => ?_
            refine cx_region' ?_
            obtain ⟨r25, hr25, hp⟩ := bind_some hp
            refine sx_rd' (rd_at' (K := Kf) rfl rfl hr25 Try.underlying29 info22) rfl rfl (wt_none' rfl) ?_
            refine sx_rd' (rd_load_pt' rfl rfl flat22) rfl rfl (wt_none' rfl) ?_
            refine sx_rd' (rd_assign' rfl) rfl rfl (wt_none' rfl) ?_
            refine sx_nil' ?_
            show TX E K47 _
            refine tx_k' hK47 ?_
            refine cx_seq' fun K48 hK48 => ?_
            refine cx_region' ?_
            refine sx_rd' (rd_move' rfl) rfl rfl (wt_none' rfl) ?_
            refine sx_rd' (rd_move' rfl) rfl rfl (wt_none' rfl) ?_
            refine sx_rd' (rd_un' rfl ru_fneg) rfl rfl (wt_none' rfl) ?_
            refine sx_rd' (rd_bin' rfl rfl eg_flt ru_fge) rfl rfl (wt_none' rfl) ?_
            refine sx_rd' (rd_move' rfl) rfl rfl (wt_none' rfl) ?_
            refine sx_cutn' 4 (fun (v12 : Bool) => (⟨47, [], [(1, (Vl (.int .i64 a1))), (2, (Vl (.float .f64 a2))), (10, (Vl (.float .f64 r25))), (11, (Sl (Kl Kf) a0)), (12, (Vl (.int .i64 (a0.length : Int)))), (13, (Vl (.int .i64 x11))), (21, (Sl Kf r15)), (22, (Vl (.int .i64 (r15.length : Int)))), (23, (Vl (.int .i64 x10))), (35, (Vl (.bool v12)))], []⟩ : St)) (fun (v12 : Bool) => spec_Grid_j7 k rec2 x10 r25 v12 = some y2) ?_ ?_
            · rintro x8 hp
              replace hp : spec_Grid_j7 k rec2 x10 r25 x8 = some y2 := hp
              unfold spec_Grid_j7 at hp
              refine sx_rd' (rd_un' rfl ru_not) rfl rfl (wt_none' rfl) ?_
              refine sx_rd' (rd_move' rfl) rfl rfl (wt_none' rfl) ?_
              refine sx_cutn' 5 (fun (v13 : Bool) => (⟨47, [], [(1, (Vl (.int .i64 a1))), (2, (Vl (.float .f64 a2))), (11, (Sl (Kl Kf) a0)), (12, (Vl (.int .i64 (a0.length : Int)))), (13, (Vl (.int .i64 x11))), (21, (Sl Kf r15)), (22, (Vl (.int .i64 (r15.length : Int)))), (23, (Vl (.int .i64 x10))), (42, (Vl (.bool v13)))], []⟩ : St)) (fun (v13 : Bool) => spec_Grid_j8 k rec2 x10 v13 = some y2) ?_ ?_
              · rintro x9 hp
                replace hp : spec_Grid_j8 k rec2 x10 x9 = some y2 := hp
                unfold spec_Grid_j8 at hp
                refine sx_nil' ?_
                show TX E K48 _
                refine tx_k' hK48 ?_
                refine cx_cond' rfl (fun h23 => ?_) (fun h23 => ?_)
                · replace hp := (br_t h23).symm.trans hp
                  refine cx_seq' fun K51 hK51 => ?_
                  refine cx_region' ?_
                  refine sx_rd' (rd_assign' rfl) rfl rfl (wt_none' rfl) ?_
                  refine sx_nil' ?_
                  show TX E K51 _
                  refine tx_k' hK51 ?_
                  refine cx_retc' ?_
                  replace hp := Option.some.inj hp
                  subst hp
                  show TX E (Zg E Exit.ret _ Exit.ret) _
                  exact tx_zend' () rfl [] (sub_cons rfl sub_nil) (by decide) pick_nil
                · replace hp := (br_f h23).symm.trans hp
                  refine cx_skip' ?_
                  show TX E K46 _
                  refine tx_k' hK46 ?_
                  refine cx_region' ?_
                  refine sx_rd' (rd_bin' rfl rfl eg_int ru_add) rfl rfl (wt_none' rfl) ?_
                  refine sx_rd' (rd_move' rfl) rfl rfl (wt_none' rfl) ?_
                  refine sx_nil' ?_
                  show TX E (KY2 _) _
                  exact tx_pick' [] (sub_cons rfl (sub_cons rfl (sub_cons rfl (sub_cons rfl (sub_cons rfl (sub_cons rfl (sub_cons rfl (sub_cons rfl sub_nil)))))))) (by decide) pick_nil (ih2 (iadd .i64 x10 1) () _ hp)
              · intro K50 hK50
                rcases br_cases hp with ⟨h22, hp⟩ | ⟨h22, hp⟩
                · refine sx_skip' rfl rfl (wt_is' (wt_guard' rfl rfl rfl) (beq_tf h22)) ?_
                  refine sx_skip' rfl rfl (wt_is' (wt_guard' rfl rfl rfl) (beq_tf h22)) ?_
                  refine sx_skip' rfl rfl (wt_is' (wt_guard' rfl rfl rfl) (beq_tf h22)) ?_
                  refine sx_skip' rfl rfl (wt_is' (wt_guard' rfl rfl rfl) (beq_tf h22)) ?_
                  refine sx_rd' (rd_pick_true' rfl h22 rfl) rfl rfl (wt_none' rfl) ?_
                  refine sx_nil' ?_
                  show TX E K50 _
                  exact tx_pick' [] (sub_cons rfl (sub_cons rfl (sub_cons rfl (sub_cons rfl (sub_cons rfl (sub_cons rfl (sub_cons rfl (sub_cons rfl (sub_cons rfl sub_nil))))))))) (by decide) pick_nil (hK50 true hp)
                · refine sx_rd' (rd_move' rfl) rfl rfl (wt_is' (wt_guard' rfl rfl rfl) (beq_ff h22)) ?_
                  refine sx_rd' (rd_move' rfl) rfl rfl (wt_is' (wt_guard' rfl rfl rfl) (beq_ff h22)) ?_
                  obtain ⟨r40, hr40, hp⟩ := bind_some hp
                  refine sx_ox' (ox_calln' (ent_fn' Try.func50 isn50 rfl rfl) (math_Trunc_sim _ hr40 : Go.Sx.Fn Try.prog 50 [(Vl (.float .f64 r25))] [] (fun x : Unit => (Fl r40)) (fun x => [])) (Hn := fun x : Unit => []) (fun _ => rfl) rfl rfl) (wt_is' (wt_guard' rfl rfl rfl) (beq_ff h22)) fun ⟨⟩ => ?_
                  refine sx_rd' (rd_fcmp' (fl_v rfl) (fl_f rfl) rfl) rfl rfl (wt_is' (wt_guard' rfl rfl rfl) (beq_ff h22)) ?_
                  refine sx_rd' (rd_pick_false' rfl h22 rfl) rfl rfl (wt_none' rfl) ?_
                  refine sx_nil' ?_
                  show TX E K50 _
                  exact tx_pick' [] (sub_cons rfl (sub_cons rfl (sub_cons rfl (sub_cons rfl (sub_cons rfl (sub_cons rfl (sub_cons rfl (sub_cons rfl (sub_cons rfl sub_nil))))))))) (by decide) pick_nil (hK50 (fne r25 r40) hp)
            · intro K49 hK49
              rcases br_cases hp with ⟨h21, hp⟩ | ⟨h21, hp⟩
              · refine sx_rd' (rd_move' rfl) rfl rfl (wt_is' (wt_guard' rfl rfl rfl) (beq_tt h21)) ?_
                refine sx_rd' (rd_move' rfl) rfl rfl (wt_is' (wt_guard' rfl rfl rfl) (beq_tt h21)) ?_
                refine sx_rd' (rd_bin' rfl rfl eg_flt ru_fle) rfl rfl (wt_is' (wt_guard' rfl rfl rfl) (beq_tt h21)) ?_
                refine sx_rd' (rd_pick_true' rfl h21 rfl) rfl rfl (wt_none' rfl) ?_
                refine sx_nil' ?_
                show TX E K49 _
                exact tx_pick' [] (sub_cons rfl (sub_cons rfl (sub_cons rfl (sub_cons rfl (sub_cons rfl (sub_cons rfl (sub_cons rfl (sub_cons rfl (sub_cons rfl (sub_cons rfl sub_nil)))))))))) (by decide) pick_nil (hK49 (fle r25 a2) hp)
              · refine sx_skip' rfl rfl (wt_is' (wt_guard' rfl rfl rfl) (beq_ft h21)) ?_
                refine sx_skip' rfl rfl (wt_is' (wt_guard' rfl rfl rfl) (beq_ft h21)) ?_
                refine sx_skip' rfl rfl (wt_is' (wt_guard' rfl rfl rfl) (beq_ft h21)) ?_
                refine sx_rd' (rd_pick_false' rfl h21 rfl) rfl rfl (wt_none' rfl) ?_
                refine sx_nil' ?_
                show TX E K49 _
                exact tx_pick' [] (sub_cons rfl (sub_cons rfl (sub_cons rfl (sub_cons rfl (sub_cons rfl (sub_cons rfl (sub_cons rfl (sub_cons rfl (sub_cons rfl (sub_cons rfl sub_nil)))))))))) (by decide) pick_nil (hK49 false hp)
          · replace hp := (br_f h20).symm.trans hp
            refine cx_exit' ?_
            replace hp := Option.some.inj hp
            subst hp
            show TX E (Zg E (Exit.exit 2) _ (Exit.exit 2)) _
            exact tx_zend' () rfl [] (sub_cons rfl (sub_cons rfl (sub_cons rfl (sub_cons rfl (sub_cons rfl sub_nil))))) (by decide) pick_nil
        · rcases y2 with v14 | v15
          · dsimp only at hp
            refine zg_out fun w14 => ?_
            replace hp := Option.some.inj hp
            subst hp
            show TX E (Zg E Exit.ret _ Exit.ret) _
            exact tx_zend' () rfl [] (sub_cons rfl sub_nil) (by decide) pick_nil
          · dsimp only at hp
            refine zg_out fun w15 => ?_
            show TX E K30 _
            refine tx_k' hK30 ?_
            refine cx_region' ?_
            refine sx_rd' (rd_bin' rfl rfl eg_int ru_add) rfl rfl (wt_none' rfl) ?_
            refine sx_rd' (rd_move' rfl) rfl rfl (wt_none' rfl) ?_
            refine sx_nil' ?_
            show TX E (KY3 _) _
            exact tx_pick' [] (sub_cons rfl (sub_cons rfl (sub_cons rfl (sub_cons rfl (sub_cons rfl sub_nil))))) (by decide) pick_nil (ih3 (iadd .i64 x11 1) () _ hp)
    · replace hp := (br_f h13).symm.trans hp
      refine cx_exit' ?_
      replace hp := Option.some.inj hp
      subst hp
      show TX E (Zg E (Exit.exit 0) _ (Exit.exit 0)) _
      exact tx_zend' () rfl [] (sub_cons rfl sub_nil) (by decide) pick_nil
  · rcases y3 with v16 | v17
    · dsimp only at hp
      refine zg_out fun w16 => ?_
      replace hp := Option.some.inj hp
      subst hp
      refine tx_pick' (L' := [(6, (Vl (.bool false)))]) (H' := []) [] (sub_cons rfl sub_nil) (by decide) pick_nil ?_
      exact tx_ret1' Try.results27 rfl () (rv_tmp' rfl) (List.Sublist.refl _)
    · dsimp only at hp
      refine zg_out fun w17 => ?_
      show TX E K2 _
      refine tx_k' hK2 ?_
      refine cx_seq' fun K52 hK52 => ?_
      refine cx_region' ?_
      refine sx_rd' (rd_move' rfl) rfl rfl (wt_none' rfl) ?_
      refine sx_rd' (rd_bin' rfl rfl eg_int ru_gtr) rfl rfl (wt_none' rfl) ?_
      refine sx_rd' (rd_assign' rfl) rfl rfl (wt_none' rfl) ?_
      refine sx_nil' ?_
      show TX E K52 _
      refine tx_k' hK52 ?_
      refine cx_retc' ?_
      replace hp := Option.some.inj hp
      subst hp
      refine tx_pick' (L' := [(6, (Vl (.bool (decide (0 < a1)))))]) (H' := []) [] (sub_cons rfl sub_nil) (by decide) pick_nil ?_
      exact tx_ret1' Try.results27 rfl () (rv_tmp' rfl) (List.Sublist.refl _)

def spec_SamePoint_l1s (a0 : List Nat) (a1 : List Nat) (k : Nat) (rec1 : Int → Option (Unit ⊕ Unit)) (x1 : Int) : Option (Unit ⊕ Unit) :=
  br (decide (x1 < (a0.length : Int)))
    ((idx a0 x1) >>= fun r17 =>
    (idx a1 x1) >>= fun r22 =>
    br (fne r17 r22)
      (some (.inl ()))
      (rec1 (iadd .i64 x1 1)))
    (some (.inr ()))
def spec_SamePoint_l1 (a0 : List Nat) (a1 : List Nat) : Nat → Int → Option (Unit ⊕ Unit)
  | 0, _ => none
  | k + 1, v => spec_SamePoint_l1s a0 a1 k (spec_SamePoint_l1 a0 a1 k) v
def spec_SamePoint (k : Nat) (a0 : List Nat) (a1 : List Nat) : Option (Bool) :=
  br (!decide ((a0.length : Int) = (a1.length : Int)))
    (some false)
    ((spec_SamePoint_l1 a0 a1 k 0) >>= fun y1 => match y1 with
      | (.inl v2) =>
        (some false)
      | (.inr v3) =>
        (some true))

theorem spec_SamePoint_sim {k : Nat}  (a0 : List Nat) (a1 : List Nat) {out : Bool} (hp : spec_SamePoint k a0 a1 = some out) : Go.Sx.Fn Try.prog 56 [(Sl Kf a0), (Sl Kf a1)] [] (fun w : Unit => (Vl (.bool out))) (fun w => []) := by
  unfold spec_SamePoint at hp
  refine fn_of Try.func56 rfl Try.ntmps56 rfl fun E hM => ?_
  refine cx_seq' fun K1 hK1 => ?_
  refine cx_region' ?_
  refine sx_rd' (rd_assign' rfl) rfl rfl (wt_none' rfl) ?_
  refine sx_nil' ?_
  show TX E K1 _
  refine tx_k' hK1 ?_
  refine cx_seq' fun K2 hK2 => ?_
  refine cx_seq' fun K3 hK3 => ?_
  refine cx_region' ?_
  refine sx_rd' (rd_move' rfl) rfl rfl (wt_none' rfl) ?_
  refine sx_rd' (rd_len' rfl Try.underlying29) rfl rfl (wt_none' rfl) ?_
  refine sx_rd' (rd_move' rfl) rfl rfl (wt_none' rfl) ?_
  refine sx_rd' (rd_len' rfl Try.underlying29) rfl rfl (wt_none' rfl) ?_
  refine sx_rd' (rd_bin' rfl rfl eg_int ru_neq) rfl rfl (wt_none' rfl) ?_
  refine sx_nil' ?_
  show TX E K3 _
  refine tx_k' hK3 ?_
  refine cx_cond' rfl (fun h1 => ?_) (fun h1 => ?_)
  · replace hp := (br_t h1).symm.trans hp
    refine cx_seq' fun K4 hK4 => ?_
    refine cx_region' ?_
    refine sx_rd' (rd_assign' rfl) rfl rfl (wt_none' rfl) ?_
    refine sx_nil' ?_
    show TX E K4 _
    refine tx_k' hK4 ?_
    refine cx_retc' ?_
    replace hp := Option.some.inj hp
    subst hp
    refine tx_pick' (L' := [(4, (Vl (.bool false)))]) (H' := []) [] (sub_cons rfl sub_nil) (by decide) pick_nil ?_
    exact tx_ret1' Try.results56 rfl () (rv_tmp' rfl) (List.Sublist.refl _)
  · replace hp := (br_f h1).symm.trans hp
    refine cx_skip' ?_
    show TX E K2 _
    refine tx_k' hK2 ?_
    refine cx_seq' fun K5 hK5 => ?_
    refine cx_seq' fun K6 hK6 => ?_
    refine cx_region' ?_
    refine sx_rd' (rd_move' rfl) rfl rfl (wt_none' rfl) ?_
    refine sx_rd' (rd_len' rfl Try.underlying29) rfl rfl (wt_none' rfl) ?_
    refine sx_rd' (rd_move' rfl) rfl rfl (wt_none' rfl) ?_
    refine sx_nil' ?_
    show TX E K6 _
    refine tx_k' hK6 ?_
    refine cx_block' ?_
    obtain ⟨y1, hy1, hp⟩ := bind_some hp
    refine cx_loopg' (F := spec_SamePoint_l1 a0 a1) (G := fun k R v => spec_SamePoint_l1s a0 a1 k R v) (x := 0) (gh := ()) (fun (v1 : Int) (w1 : Unit) => (⟨26, [], [(1, (Sl Kf a1)), (12, (Sl Kf a0)), (13, (Vl (.int .i64 (a0.length : Int)))), (14, (Vl (.int .i64 v1)))], []⟩ : St)) (fun (y : Unit ⊕ Unit) => match y with | (.inl v2) => Zg E Exit.ret (fun (w2 : Unit) => (⟨26, [], [(4, (Vl (.bool false)))], []⟩ : St)) | (.inr v3) => Zg E (Exit.exit 0) (fun (w3 : Unit) => (⟨26, [], [], []⟩ : St))) (fun _ => rfl) (fun _ _ => rfl) ?_ hy1 (tx_to' rfl [] (sub_cons rfl (sub_cons rfl (sub_cons rfl (sub_cons rfl sub_nil)))) (by decide) pick_nil) ?_
    · clear hp hy1
      clear y1
      intro k rec1 KY1 ih1
      rintro x1 ⟨⟩ y1 hp
      replace hp : spec_SamePoint_l1s a0 a1 k rec1 x1 = some y1 := hp
      unfold spec_SamePoint_l1s at hp
      refine cx_seq' fun K13 hK13 => ?_
      refine cx_region' ?_
      refine sx_rd' (rd_bin' rfl rfl eg_int ru_lss) rfl rfl (wt_none' rfl) ?_
      refine sx_nil' ?_
      show TX E K13 _
      refine tx_k' hK13 ?_
      refine cx_seq' fun K14 hK14 => ?_
      refine cx_cond' rfl (fun h5 => ?_) (fun h5 => ?_)
      · replace hp := (br_t h5).symm.trans hp
        refine cx_skip' ?_
        show TX E K14 _
        refine tx_k' hK14 ?_
        refine cx_seq' fun K15 hK15 => ?_
        refine cx_block' ?_
        refine cx_seq' fun K16 hK16 => ?_
        refine cx_region' ?_
        refine sx_rd' (rd_move' rfl) rfl rfl (wt_none' rfl) ?_
        obtain ⟨r17, hr17, hp⟩ := bind_some hp
        refine sx_rd' (rd_at' (K := Kf) rfl rfl hr17 Try.underlying29 info22) rfl rfl (wt_none' rfl) ?_
        refine sx_rd' (rd_load_pt' rfl rfl flat22) rfl rfl (wt_none' rfl) ?_
        refine sx_rd' (rd_assign' rfl) rfl rfl (wt_none' rfl) ?_
        refine sx_rd' (rd_assign' rfl) rfl rfl (wt_none' rfl) ?_
        refine sx_nil' ?_
        show TX E K16 _
        refine tx_k' hK16 ?_
        refine cx_seq' fun K17 hK17 => ?_
        refine cx_region' ?_
        refine sx_rd' (rd_move' rfl) rfl rfl (wt_none' rfl) ?_
        refine sx_rd' (rd_move' rfl) rfl rfl (wt_none' rfl) ?_
        refine sx_rd' (rd_move' rfl) rfl rfl (wt_none' rfl) ?_
        obtain ⟨r22, hr22, hp⟩ := bind_some hp
        refine sx_rd' (rd_at' (K := Kf) rfl rfl hr22 Try.underlying29 info22) rfl rfl (wt_none' rfl) ?_
        refine sx_rd' (rd_load_pt' rfl rfl flat22) rfl rfl (wt_none' rfl) ?_
        refine sx_rd' (rd_bin' rfl rfl eg_flt ru_fne) rfl rfl (wt_none' rfl) ?_
        refine sx_nil' ?_
        show TX E K17 _
        refine tx_k' hK17 ?_
        refine cx_cond' rfl (fun h6 => ?_) (fun h6 => ?_)
        · replace hp := (br_t h6).symm.trans hp
          refine cx_seq' fun K18 hK18 => ?_
          refine cx_region' ?_
          refine sx_rd' (rd_assign' rfl) rfl rfl (wt_none' rfl) ?_
          refine sx_nil' ?_
          show TX E K18 _
          refine tx_k' hK18 ?_
          refine cx_retc' ?_
          replace hp := Option.some.inj hp
          subst hp
          show TX E (Zg E Exit.ret _ Exit.ret) _
          exact tx_zend' () rfl [] (sub_cons rfl sub_nil) (by decide) pick_nil
        · replace hp := (br_f h6).symm.trans hp
          refine cx_skip' ?_
          show TX E K15 _
          refine tx_k' hK15 ?_
          refine cx_region' ?_
          refine sx_rd' (rd_bin' rfl rfl eg_int ru_add) rfl rfl (wt_none' rfl) ?_
          refine sx_rd' (rd_move' rfl) rfl rfl (wt_none' rfl) ?_
          refine sx_nil' ?_
          show TX E (KY1 _) _
          exact tx_pick' [] (sub_cons rfl (sub_cons rfl (sub_cons rfl (sub_cons rfl sub_nil)))) (by decide) pick_nil (ih1 (iadd .i64 x1 1) () _ hp)
      · replace hp := (br_f h5).symm.trans hp
        refine cx_exit' ?_
        replace hp := Option.some.inj hp
        subst hp
        show TX E (Zg E (Exit.exit 0) _ (Exit.exit 0)) _
        exact tx_zend' () rfl [] sub_nil (by decide) pick_nil
    · rcases y1 with v2 | v3
      · dsimp only at hp
        refine zg_out fun w2 => ?_
        replace hp := Option.some.inj hp
        subst hp
        refine tx_pick' (L' := [(4, (Vl (.bool false)))]) (H' := []) [] (sub_cons rfl sub_nil) (by decide) pick_nil ?_
        exact tx_ret1' Try.results56 rfl () (rv_tmp' rfl) (List.Sublist.refl _)
      · dsimp only at hp
        refine zg_out fun w3 => ?_
        show TX E K5 _
        refine tx_k' hK5 ?_
        refine cx_seq' fun K19 hK19 => ?_
        refine cx_region' ?_
        refine sx_rd' (rd_assign' rfl) rfl rfl (wt_none' rfl) ?_
        refine sx_nil' ?_
        show TX E K19 _
        refine tx_k' hK19 ?_
        refine cx_retc' ?_
        replace hp := Option.some.inj hp
        subst hp
        refine tx_pick' (L' := [(4, (Vl (.bool true)))]) (H' := []) [] (sub_cons rfl sub_nil) (by decide) pick_nil ?_
        exact tx_ret1' Try.results56 rfl () (rv_tmp' rfl) (List.Sublist.refl _)

def spec_Differ_l2s (r16 : List (List Nat)) (r12 : List Nat) (k : Nat) (rec2 : Int → Option (Unit ⊕ Unit)) (x2 : Int) : Option (Unit ⊕ Unit) :=
  br (decide (x2 < (r16.length : Int)))
    ((idx r16 x2) >>= fun r20 =>
    (spec_SamePoint k r12 r20) >>= fun r24 =>
    br r24
      (some (.inl ()))
      (rec2 (iadd .i64 x2 1)))
    (some (.inr ()))
def spec_Differ_l2 (r16 : List (List Nat)) (r12 : List Nat) : Nat → Int → Option (Unit ⊕ Unit)
  | 0, _ => none
  | k + 1, v => spec_Differ_l2s r16 r12 k (spec_Differ_l2 r16 r12 k) v
def spec_Differ_l3s (a0 : List (List Nat)) (k : Nat) (rec3 : Int → Option (Unit ⊕ Unit)) (x3 : Int) : Option (Unit ⊕ Unit) :=
  br (decide (x3 < (a0.length : Int)))
    ((idx a0 x3) >>= fun r12 =>
    (cut a0 0 x3) >>= fun r16 =>
    (spec_Differ_l2 r16 r12 k 0) >>= fun y2 => match y2 with
      | (.inl v6) =>
        (some (.inl ()))
      | (.inr v7) =>
        (rec3 (iadd .i64 x3 1)))
    (some (.inr ()))
def spec_Differ_l3 (a0 : List (List Nat)) : Nat → Int → Option (Unit ⊕ Unit)
  | 0, _ => none
  | k + 1, v => spec_Differ_l3s a0 k (spec_Differ_l3 a0 k) v
def spec_Differ (k : Nat) (a0 : List (List Nat)) : Option (Bool) :=
  (spec_Differ_l3 a0 k 0) >>= fun y3 => match y3 with
    | (.inl v8) =>
      (some false)
    | (.inr v9) =>
      (some true)

theorem spec_Differ_sim {k : Nat}  (a0 : List (List Nat)) {out : Bool} (hp : spec_Differ k a0 = some out) : Go.Sx.Fn Try.prog 35 [(Sl (Kl Kf) a0)] [] (fun w : Unit => (Vl (.bool out))) (fun w => []) := by
  unfold spec_Differ at hp
  refine fn_of Try.func35 rfl Try.ntmps35 rfl fun E hM => ?_
  refine cx_seq' fun K1 hK1 => ?_
  refine cx_region' ?_
  refine sx_rd' (rd_assign' rfl) rfl rfl (wt_none' rfl) ?_
  refine sx_nil' ?_
  show TX E K1 _
  refine tx_k' hK1 ?_
  refine cx_seq' fun K2 hK2 => ?_
  refine cx_seq' fun K3 hK3 => ?_
  refine cx_region' ?_
  refine sx_rd' (rd_move' rfl) rfl rfl (wt_none' rfl) ?_
  refine sx_rd' (rd_len' rfl Try.underlying58) rfl rfl (wt_none' rfl) ?_
  refine sx_rd' (rd_move' rfl) rfl rfl (wt_none' rfl) ?_
  refine sx_nil' ?_
  show TX E K3 _
  refine tx_k' hK3 ?_
  refine cx_block' ?_
  obtain ⟨y3, hy3, hp⟩ := bind_some hp
  refine cx_loopg' (F := spec_Differ_l3 a0) (G := fun k R v => spec_Differ_l3s a0 k R v) (x := 0) (gh := ()) (fun (v4 : Int) (w4 : Unit) => (⟨27, [], [(0, (Sl (Kl Kf) a0)), (7, (Sl (Kl Kf) a0)), (8, (Vl (.int .i64 (a0.length : Int)))), (9, (Vl (.int .i64 v4)))], []⟩ : St)) (fun (y : Unit ⊕ Unit) => match y with | (.inl v8) => Zg E Exit.ret (fun (w8 : Unit) => (⟨27, [], [(2, (Vl (.bool false)))], []⟩ : St)) | (.inr v9) => Zg E (Exit.exit 0) (fun (w9 : Unit) => (⟨27, [], [], []⟩ : St))) (fun _ => rfl) (fun _ _ => rfl) ?_ hy3 (tx_to' rfl [] (sub_cons rfl (sub_cons rfl (sub_cons rfl (sub_cons rfl sub_nil)))) (by decide) pick_nil) ?_
  · clear hp hy3
    clear y3
    intro k rec3 KY3 ih3
    rintro x3 ⟨⟩ y3 hp
    replace hp : spec_Differ_l3s a0 k rec3 x3 = some y3 := hp
    unfold spec_Differ_l3s at hp
    refine cx_seq' fun K21 hK21 => ?_
    refine cx_region' ?_
    refine sx_rd' (rd_bin' rfl rfl eg_int ru_lss) rfl rfl (wt_none' rfl) ?_
    refine sx_nil' ?_
    show TX E K21 _
    refine tx_k' hK21 ?_
    refine cx_seq' fun K22 hK22 => ?_
    refine cx_cond' rfl (fun h8 => ?_) (fun h8 => ?_)
    · replace hp := (br_t h8).symm.trans hp
      refine cx_skip' ?_
      show TX E K22 _
      refine tx_k' hK22 ?_
      refine cx_seq' fun K23 hK23 => ?_
      refine cx_block' ?_
      refine cx_seq' fun K24 hK24 => ?_
      refine cx_region' ?_
      refine sx_rd' (rd_move' rfl) rfl rfl (wt_none' rfl) ?_
      obtain ⟨r12, hr12, hp⟩ := bind_some hp
      refine sx_rd' (rd_at' (K := (Kl Kf)) rfl rfl hr12 Try.underlying58 info29) rfl rfl (wt_none' rfl) ?_
      refine sx_rd' (rd_load_pt' rfl rfl flat29) rfl rfl (wt_none' rfl) ?_
      refine sx_rd' (rd_assign' rfl) rfl rfl (wt_none' rfl) ?_
      refine sx_rd' (rd_assign' rfl) rfl rfl (wt_none' rfl) ?_
      refine sx_nil' ?_
      show TX E K24 _
      refine tx_k' hK24 ?_
      refine cx_seq' fun K25 hK25 => ?_
      refine cx_region' ?_
      refine sx_rd' (rd_move' rfl) rfl rfl (wt_none' rfl) ?_
      refine sx_rd' (rd_move' rfl) rfl rfl (wt_none' rfl) ?_
      obtain ⟨r16, hr16, hp⟩ := bind_some hp
      refine sx_rd' (rd_cut_h' rfl rfl hr16 Try.underlying58 info29) rfl rfl (wt_none' rfl) ?_
      refine sx_rd' (rd_len' rfl Try.underlying58) rfl rfl (wt_none' rfl) ?_
      refine sx_rd' (rd_move' rfl) rfl rfl (wt_none' rfl) ?_
      refine sx_nil' ?_
      show TX E K25 _
      refine tx_k' hK25 ?_
      refine cx_block' ?_
      obtain ⟨y2, hy2, hp⟩ := bind_some hp
      refine cx_loopg' (F := spec_Differ_l2 r16 r12) (G := fun k R v => spec_Differ_l2s r16 r12 k R v) (x := 0) (gh := ()) (fun (v5 : Int) (w5 : Unit) => (⟨27, [], [(0, (Sl (Kl Kf) a0)), (4, (Sl Kf r12)), (7, (Sl (Kl Kf) a0)), (8, (Vl (.int .i64 (a0.length : Int)))), (9, (Vl (.int .i64 x3))), (16, (Sl (Kl Kf) r16)), (17, (Vl (.int .i64 (r16.length : Int)))), (18, (Vl (.int .i64 v5)))], []⟩ : St)) (fun (y : Unit ⊕ Unit) => match y with | (.inl v6) => Zg E Exit.ret (fun (w6 : Unit) => (⟨27, [], [(2, (Vl (.bool false)))], []⟩ : St)) | (.inr v7) => Zg E (Exit.exit 2) (fun (w7 : Unit) => (⟨27, [], [(0, (Sl (Kl Kf) a0)), (7, (Sl (Kl Kf) a0)), (8, (Vl (.int .i64 (a0.length : Int)))), (9, (Vl (.int .i64 x3)))], []⟩ : St))) (fun _ => rfl) (fun _ _ => rfl) ?_ hy2 (tx_to' rfl [] (sub_cons rfl (sub_cons rfl (sub_cons rfl (sub_cons rfl (sub_cons rfl (sub_cons rfl (sub_cons rfl (sub_cons rfl sub_nil)))))))) (by decide) pick_nil) ?_
      · clear hp hy2
        clear y2
        intro k rec2 KY2 ih2
        rintro x2 ⟨⟩ y2 hp
        replace hp : spec_Differ_l2s r16 r12 k rec2 x2 = some y2 := hp
        unfold spec_Differ_l2s at hp
        refine cx_seq' fun K32 hK32 => ?_
        refine cx_region' ?_
        refine sx_rd' (rd_bin' rfl rfl eg_int ru_lss) rfl rfl (wt_none' rfl) ?_
        refine sx_nil' ?_
        show TX E K32 _
        refine tx_k' hK32 ?_
        refine cx_seq' fun K33 hK33 => ?_
        refine cx_cond' rfl (fun h12 => ?_) (fun h12 => ?_)
        · replace hp := (br_t h12).symm.trans hp
          refine cx_skip' ?_
          show TX E K33 _
          refine tx_k' hK33 ?_
          refine cx_seq' fun K34 hK34 => ?_
          refine cx_block' ?_
          refine cx_seq' fun K35 hK35 => ?_
          refine cx_region' ?_
          obtain ⟨r20, hr20, hp⟩ := bind_some hp
          refine sx_rd' (rd_at' (K := (Kl Kf)) rfl rfl hr20 Try.underlying58 info29) rfl rfl (wt_none' rfl) ?_
          refine sx_rd' (rd_load_pt' rfl rfl flat29) rfl rfl (wt_none' rfl) ?_
          refine sx_rd' (rd_assign' rfl) rfl rfl (wt_none' rfl) ?_
          refine sx_nil' ?_
          show TX E K35 _
          refine tx_k' hK35 ?_
          refine cx_seq' fun K36 hK36 => ?_
          refine cx_region' ?_
          refine sx_rd' (rd_move' rfl) rfl rfl (wt_none' rfl) ?_
          refine sx_rd' (rd_move' rfl) rfl rfl (wt_none' rfl) ?_
          obtain ⟨r24, hr24, hp⟩ := bind_some hp
          refine sx_ox' (ox_calln' (ent_fn' Try.func56 isn56 rfl rfl) (spec_SamePoint_sim _ _ hr24 : Go.Sx.Fn Try.prog 56 [(Sl Kf r12), (Sl Kf r20)] [] (fun x : Unit => (Vl (.bool r24))) (fun x => [])) (Hn := fun x : Unit => []) (fun _ => rfl) rfl rfl) (wt_none' rfl) fun ⟨⟩ => ?_
          refine sx_nil' ?_
          show TX E K36 _
          refine tx_k' hK36 ?_
          refine cx_cond' rfl (fun h13 => ?_) (fun h13 => ?_)
          · replace hp := (br_t h13).symm.trans hp
            refine cx_seq' fun K37 hK37 => ?_
            refine cx_region' ?_
            refine sx_rd' (rd_assign' rfl) rfl rfl (wt_none' rfl) ?_
            refine sx_nil' ?_
            show TX E K37 _
            refine tx_k' hK37 ?_
            refine cx_retc' ?_
            replace hp := Option.some.inj hp
            subst hp
            show TX E (Zg E Exit.ret _ Exit.ret) _
            exact tx_zend' () rfl [] (sub_cons rfl sub_nil) (by decide) pick_nil
          · replace hp := (br_f h13).symm.trans hp
            refine cx_skip' ?_
            show TX E K34 _
            refine tx_k' hK34 ?_
            refine cx_region' ?_
            refine sx_rd' (rd_bin' rfl rfl eg_int ru_add) rfl rfl (wt_none' rfl) ?_
            refine sx_rd' (rd_move' rfl) rfl rfl (wt_none' rfl) ?_
            refine sx_nil' ?_
            show TX E (KY2 _) _
            exact tx_pick' [] (sub_cons rfl (sub_cons rfl (sub_cons rfl (sub_cons rfl (sub_cons rfl (sub_cons rfl (sub_cons rfl (sub_cons rfl sub_nil)))))))) (by decide) pick_nil (ih2 (iadd .i64 x2 1) () _ hp)
        · replace hp := (br_f h12).symm.trans hp
          refine cx_exit' ?_
          replace hp := Option.some.inj hp
          subst hp
          show TX E (Zg E (Exit.exit 2) _ (Exit.exit 2)) _
          exact tx_zend' () rfl [] (sub_cons rfl (sub_cons rfl (sub_cons rfl (sub_cons rfl sub_nil)))) (by decide) pick_nil
      · rcases y2 with v6 | v7
        · dsimp only at hp
          refine zg_out fun w6 => ?_
          replace hp := Option.some.inj hp
          subst hp
          show TX E (Zg E Exit.ret _ Exit.ret) _
          exact tx_zend' () rfl [] (sub_cons rfl sub_nil) (by decide) pick_nil
        · dsimp only at hp
          refine zg_out fun w7 => ?_
          show TX E K23 _
          refine tx_k' hK23 ?_
          refine cx_region' ?_
          refine sx_rd' (rd_bin' rfl rfl eg_int ru_add) rfl rfl (wt_none' rfl) ?_
          refine sx_rd' (rd_move' rfl) rfl rfl (wt_none' rfl) ?_
          refine sx_nil' ?_
          show TX E (KY3 _) _
          exact tx_pick' [] (sub_cons rfl (sub_cons rfl (sub_cons rfl (sub_cons rfl sub_nil)))) (by decide) pick_nil (ih3 (iadd .i64 x3 1) () _ hp)
    · replace hp := (br_f h8).symm.trans hp
      refine cx_exit' ?_
      replace hp := Option.some.inj hp
      subst hp
      show TX E (Zg E (Exit.exit 0) _ (Exit.exit 0)) _
      exact tx_zend' () rfl [] sub_nil (by decide) pick_nil
  · rcases y3 with v8 | v9
    · dsimp only at hp
      refine zg_out fun w8 => ?_
      replace hp := Option.some.inj hp
      subst hp
      refine tx_pick' (L' := [(2, (Vl (.bool false)))]) (H' := []) [] (sub_cons rfl sub_nil) (by decide) pick_nil ?_
      exact tx_ret1' Try.results35 rfl () (rv_tmp' rfl) (List.Sublist.refl _)
    · dsimp only at hp
      refine zg_out fun w9 => ?_
      show TX E K2 _
      refine tx_k' hK2 ?_
      refine cx_seq' fun K38 hK38 => ?_
      refine cx_region' ?_
      refine sx_rd' (rd_assign' rfl) rfl rfl (wt_none' rfl) ?_
      refine sx_nil' ?_
      show TX E K38 _
      refine tx_k' hK38 ?_
      refine cx_retc' ?_
      replace hp := Option.some.inj hp
      subst hp
      refine tx_pick' (L' := [(2, (Vl (.bool true)))]) (H' := []) [] (sub_cons rfl sub_nil) (by decide) pick_nil ?_
      exact tx_ret1' Try.results35 rfl () (rv_tmp' rfl) (List.Sublist.refl _)

def laws_ones2_j1 (k : Nat) (r12 : List Int) (x1 : List (Nat × Nat × Nat)) (rec1 : ((List (Nat × Nat × Nat)) × Int) → Option (Unit ⊕ (List (Nat × Nat × Nat)))) (x2 : Int) (x3 : Bool) : Option (Unit ⊕ (List (Nat × Nat × Nat))) :=
  br x3
    (some (.inl ()))
    ((idx r12 0) >>= fun r23 =>
    (idx r12 1) >>= fun r27 =>
    (apd 24 x1 ([(i2f r23, i2f r27, 4607182418800017408)])) >>= fun r33 =>
    rec1 (r33, (iadd .i64 x2 1)))
def laws_ones2_l1s (a0 : List (List Int)) (k : Nat) (rec1 : ((List (Nat × Nat × Nat)) × Int) → Option (Unit ⊕ (List (Nat × Nat × Nat)))) (x1 : List (Nat × Nat × Nat)) (x2 : Int) : Option (Unit ⊕ (List (Nat × Nat × Nat))) :=
  br (decide (x2 < (a0.length : Int)))
    ((idx a0 x2) >>= fun r12 =>
    br (decide (x2 = 60))
      (laws_ones2_j1 k r12 x1 rec1 x2 true)
      (laws_ones2_j1 k r12 x1 rec1 x2 (!decide ((r12.length : Int) = 2))))
    (some (.inr x1))
def laws_ones2_l1 (a0 : List (List Int)) : Nat → ((List (Nat × Nat × Nat)) × Int) → Option (Unit ⊕ (List (Nat × Nat × Nat)))
  | 0, _ => none
  | k + 1, v => laws_ones2_l1s a0 k (laws_ones2_l1 a0 k) v.1 v.2
def laws_ones2_j4 (k : Nat) (v4 : (List (Nat × Nat × Nat))) (x7 : Bool) : Option ((List (Nat × Nat × Nat)) × Bool) :=
  some (v4, x7)
def laws_ones2_j3 (k : Nat) (r36 : (List (List Nat))) (v4 : (List (Nat × Nat × Nat))) (x6 : Bool) : Option ((List (Nat × Nat × Nat)) × Bool) :=
  br x6
    ((spec_Differ k r36) >>= fun r52 =>
    laws_ones2_j4 k v4 r52)
    (laws_ones2_j4 k v4 false)
def laws_ones2_j2 (k : Nat) (r36 : (List (List Nat))) (v4 : (List (Nat × Nat × Nat))) (x5 : Bool) : Option ((List (Nat × Nat × Nat)) × Bool) :=
  br x5
    ((spec_Grid k r36 2 4652218415073722368) >>= fun r48 =>
    laws_ones2_j3 k r36 v4 r48)
    (laws_ones2_j3 k r36 v4 false)
def laws_ones2 (k : Nat) (a0 : List (List Int)) : Option ((List (Nat × Nat × Nat)) × Bool) :=
  (laws_ones2_l1 a0 k ([], 0)) >>= fun y1 => match y1 with
    | (.inl v3) =>
      (some ([], false))
    | (.inr v4) =>
      ((laws_places2 k v4) >>= fun r36 =>
      br (decide (0 < (v4.length : Int)))
        (laws_ones2_j2 k r36 v4 (decide ((v4.length : Int) ≤ 60)))
        (laws_ones2_j2 k r36 v4 false))

theorem laws_ones2_sim {k : Nat}  (a0 : List (List Int)) {out : (List (Nat × Nat × Nat)) × Bool} (hp : laws_ones2 k a0 = some out) : Go.Sx.Fn Try.prog 8 [(Sl (Kl (Ki .i64)) a0)] [] (fun w : Unit => (Tu [(Sl KT34 out.1), (Vl (.bool out.2))])) (fun w => []) := by
  unfold laws_ones2 at hp
  refine fn_of Try.func8 rfl Try.ntmps8 rfl fun E hM => ?_
  refine cx_seq' fun K1 hK1 => ?_
  refine cx_region' ?_
  refine sx_rd' (rd_assign' rfl) rfl rfl (wt_none' rfl) ?_
  refine sx_rd' (rd_assign' rfl) rfl rfl (wt_none' rfl) ?_
  refine sx_nil' ?_
  show TX E K1 _
  refine tx_k' hK1 ?_
  refine cx_seq' fun K2 hK2 => ?_
  refine cx_seq' fun K3 hK3 => ?_
  refine cx_region' ?_
  refine sx_rd' (rd_move' rfl) rfl rfl (wt_none' rfl) ?_
  refine sx_rd' (rd_len' rfl Try.underlying27) rfl rfl (wt_none' rfl) ?_
  refine sx_rd' (rd_move' rfl) rfl rfl (wt_none' rfl) ?_
  refine sx_nil' ?_
  show TX E K3 _
  refine tx_k' hK3 ?_
  refine cx_block' ?_
  obtain ⟨y1, hy1, hp⟩ := bind_some hp
  refine tx_nilrow' KT34 34 ?_
  refine cx_loopg' (F := laws_ones2_l1 a0) (G := fun k R v => laws_ones2_l1s a0 k R v.1 v.2) (x := ([], 0)) (gh := (none, 0, 0)) (fun (v1 : (List (Nat × Nat × Nat)) × Int) (w1 : Gs) => (⟨54, [], [(2, (Vl (Vs w1))), (7, (Sl (Kl (Ki .i64)) a0)), (8, (Vl (.int .i64 (a0.length : Int)))), (9, (Vl (.int .i64 v1.2)))], [(Rw KT34 34 (Vs w1) v1.1)]⟩ : St)) (fun (y : Unit ⊕ (List (Nat × Nat × Nat))) => match y with | (.inl v3) => Zg E Exit.ret (fun (w3 : Unit) => (⟨54, [], [(2, (Vl (.slice none 0 0))), (3, (Vl (.bool false)))], []⟩ : St)) | (.inr v4) => Zg E (Exit.exit 0) (fun (w4 : Gs) => (⟨54, [], [(2, (Vl (Vs w4)))], [(Rw KT34 34 (Vs w4) v4)]⟩ : St))) (fun _ => rfl) (fun _ _ => rfl) ?_ hy1 (tx_to' rfl [0] (sub_cons rfl (sub_cons rfl (sub_cons rfl (sub_cons rfl sub_nil)))) (by decide) (pick_cons rfl pick_nil)) ?_
  · clear hp hy1
    clear y1
    intro k rec1 KY1 ih1
    rintro ⟨x1, x2⟩ g901 y1 hp
    replace hp : laws_ones2_l1s a0 k rec1 x1 x2 = some y1 := hp
    unfold laws_ones2_l1s at hp
    refine cx_seq' fun K11 hK11 => ?_
    refine cx_region' ?_
    refine sx_rd' (rd_bin' rfl rfl eg_int ru_lss) rfl rfl (wt_none' rfl) ?_
    refine sx_nil' ?_
    show TX E K11 _
    refine tx_k' hK11 ?_
    refine cx_seq' fun K12 hK12 => ?_
    refine cx_cond' rfl (fun h4 => ?_) (fun h4 => ?_)
    · replace hp := (br_t h4).symm.trans hp
      refine cx_skip' ?_
      show TX E K12 _
      refine tx_k' hK12 ?_
      refine cx_seq' fun K13 hK13 => ?_
      refine cx_block' ?_
      refine cx_seq' fun K14 hK14 => ?_
      refine cx_region' ?_
      refine sx_rd' (rd_move' rfl) rfl rfl (wt_none' rfl) ?_
      obtain ⟨r12, hr12, hp⟩ := bind_some hp
      refine sx_rd' (rd_at' (K := (Kl (Ki .i64))) rfl rfl hr12 Try.underlying27 info23) rfl rfl (wt_none' rfl) ?_
      refine sx_rd' (rd_load_pt' rfl rfl flat23) rfl rfl (wt_none' rfl) ?_
      refine sx_rd' (rd_assign' rfl) rfl rfl (wt_none' rfl) ?_
      refine sx_rd' (rd_assign' rfl) rfl rfl (wt_none' rfl) ?_
      refine sx_nil' ?_
      show TX E K14 _
      refine tx_k' hK14 ?_
      refine cx_seq' fun K15 hK15 => ?_
      refine cx_seq' fun K16 hK16 => ?_
      refine cx_region' ?_
      refine sx_rd' (rd_move' rfl) rfl rfl (wt_none' rfl) ?_
      refine sx_rd' (rd_bin' rfl rfl eg_int ru_eql) rfl rfl (wt_none' rfl) ?_
      refine sx_rd' (rd_move' rfl) rfl rfl (wt_none' rfl) ?_
      refine sx_cutn' 4 (fun (v2 : Bool) => (⟨54, [], [(2, (Vl (Vs g901))), (5, (Sl (Ki .i64) r12)), (7, (Sl (Kl (Ki .i64)) a0)), (8, (Vl (.int .i64 (a0.length : Int)))), (9, (Vl (.int .i64 x2))), (20, (Vl (.bool v2)))], [(Rw KT34 34 (Vs g901) x1)]⟩ : St)) (fun (v2 : Bool) => laws_ones2_j1 k r12 x1 rec1 x2 v2 = some y1) ?_ ?_
      · rintro x3 hp
        replace hp : laws_ones2_j1 k r12 x1 rec1 x2 x3 = some y1 := hp
        unfold laws_ones2_j1 at hp
        refine sx_nil' ?_
        show TX E K16 _
        refine tx_k' hK16 ?_
        refine cx_cond' rfl (fun h5 => ?_) (fun h5 => ?_)
        · replace hp := (br_t h5).symm.trans hp
          refine cx_seq' fun K17 hK17 => ?_
          refine cx_region' ?_
          refine sx_rd' (rd_assign' rfl) rfl rfl (wt_none' rfl) ?_
          refine sx_rd' (rd_assign' rfl) rfl rfl (wt_none' rfl) ?_
          refine sx_nil' ?_
          show TX E K17 _
          refine tx_k' hK17 ?_
          refine cx_retc' ?_
          replace hp := Option.some.inj hp
          subst hp
          show TX E (Zg E Exit.ret _ Exit.ret) _
          exact tx_zend' () rfl [] (sub_cons rfl (sub_cons rfl sub_nil)) (by decide) pick_nil
        · replace hp := (br_f h5).symm.trans hp
          refine cx_skip' ?_
          show TX E K15 _
          refine tx_k' hK15 ?_
          refine cx_plan' [] [(12, 1)] [(0, 1), (1, 1), (2, 1), (3, 1), (4, 1), (5, 1), (6, 1), (7, 1), (8, 1), (9, 1), (10, 1), (11, 0), (12, 0), (13, 1)] mixed (by kernel_rfl) ?_
          refine px_rd' rfl (rd_move' rfl) rfl rfl (wt_none' rfl) ?_
          refine px_rd' rfl (rd_move' rfl) rfl rfl (wt_none' rfl) ?_
          obtain ⟨r23, hr23, hp⟩ := bind_some hp
          refine px_rd' rfl (rd_at' (K := (Ki .i64)) rfl rfl hr23 Try.underlying23 info3) rfl rfl (wt_none' rfl) ?_
          refine px_rd' rfl (rd_load_pt' rfl rfl flat3) rfl rfl (wt_none' rfl) ?_
          refine px_rd' rfl (rd_conv' rfl (ru_i2f (by rw [Try.underlying3]; rfl) Try.underlying22)) rfl rfl (wt_none' rfl) ?_
          refine px_rd' rfl (rd_move' rfl) rfl rfl (wt_none' rfl) ?_
          obtain ⟨r27, hr27, hp⟩ := bind_some hp
          refine px_rd' rfl (rd_at' (K := (Ki .i64)) rfl rfl hr27 Try.underlying23 info3) rfl rfl (wt_none' rfl) ?_
          refine px_rd' rfl (rd_load_pt' rfl rfl flat3) rfl rfl (wt_none' rfl) ?_
          refine px_rd' rfl (rd_conv' rfl (ru_i2f (by rw [Try.underlying3]; rfl) Try.underlying22)) rfl rfl (wt_none' rfl) ?_
          refine px_rd' rfl (rd_build' (pls := [(0, 1), (1, 1)]) (qs := [(0, [(Vl (.float .f64 (i2f r23)))]), (1, [(Vl (.float .f64 (i2f r27)))])]) (r := [(Vl (.float .f64 (i2f r23))), (Vl (.float .f64 (i2f r27)))]) ⟨rfl, ⟨_, rfl, (lv_vl rfl rfl)⟩, ⟨rfl, ⟨_, rfl, (lv_vl rfl rfl)⟩, trivial⟩⟩ Try.underlying32 has32 places32 info32 rfl rfl rfl) rfl rfl (wt_none' rfl) ?_
          refine px_rd' rfl (rd_build' (pls := [(0, 2), (2, 1)]) (qs := [(0, [(Vl (.float .f64 (i2f r23))), (Vl (.float .f64 (i2f r27)))]), (1, [(Vl (.float .f64 4607182418800017408))])]) (r := [(Vl (.float .f64 (i2f r23))), (Vl (.float .f64 (i2f r27))), (Vl (.float .f64 4607182418800017408))]) ⟨rfl, ⟨_, rfl, (lv_ag _)⟩, ⟨rfl, ⟨_, rfl, (lv_vl rfl rfl)⟩, trivial⟩⟩ Try.underlying34 has34 places34 info34 rfl rfl rfl) rfl rfl (wt_none' rfl) ?_
          refine px_ox' rfl (ox_rowlit' (K := KT34) (xs := [(i2f r23, i2f r27, 4607182418800017408)]) (qs := [(0, [(Vl (.float .f64 (i2f r23))), (Vl (.float .f64 (i2f r27))), (Vl (.float .f64 4607182418800017408))])]) ⟨rfl, ⟨_, rfl, (lv_ag _)⟩, trivial⟩ Try.underlying24 info34 rfl rfl rfl rfl rfl (by kernel_rfl) rfl rfl rfl) rfl bs_nil (wt_none' rfl) fun g32 => ?_
          obtain ⟨r33, hr33, hp⟩ := bind_some hp
          refine px_ox' rfl (ox_append' (K := KT34) (i := 1) (xs := x1) (ys := ([(i2f r23, i2f r27, 4607182418800017408)])) rfl rfl rfl (sr_row' (j := 0) rfl rfl rfl Try.underlying24) hr33 Try.underlying24 info34 rfl rfl rfl (H' := [(Rw KT34 34 (Vs g32) ([(i2f r23, i2f r27, 4607182418800017408)]))]) rfl) rfl bs_nil (wt_none' rfl) fun g33 => ?_
          refine px_rd' rfl (rd_assign' rfl) rfl rfl (wt_none' rfl) ?_
          refine px_nil' ?_
          show TX E K13 _
          refine tx_k' hK13 ?_
          refine cx_region' ?_
          refine sx_rd' (rd_bin' rfl rfl eg_int ru_add) rfl rfl (wt_none' rfl) ?_
          refine sx_rd' (rd_move' rfl) rfl rfl (wt_none' rfl) ?_
          refine sx_nil' ?_
          show TX E (KY1 _) _
          exact tx_pick' [0] (sub_cons rfl (sub_cons rfl (sub_cons rfl (sub_cons rfl sub_nil)))) (by decide) (pick_cons rfl pick_nil) (ih1 (r33, (iadd .i64 x2 1)) g33 _ hp)
      · intro K18 hK18
        rcases br_cases hp with ⟨h6, hp⟩ | ⟨h6, hp⟩
        · refine sx_skip' rfl rfl (wt_is' (wt_guard' rfl rfl rfl) (beq_tf h6)) ?_
          refine sx_skip' rfl rfl (wt_is' (wt_guard' rfl rfl rfl) (beq_tf h6)) ?_
          refine sx_skip' rfl rfl (wt_is' (wt_guard' rfl rfl rfl) (beq_tf h6)) ?_
          refine sx_rd' (rd_pick_true' rfl h6 rfl) rfl rfl (wt_none' rfl) ?_
          refine sx_nil' ?_
          show TX E K18 _
          exact tx_pick' [0] (sub_cons rfl (sub_cons rfl (sub_cons rfl (sub_cons rfl (sub_cons rfl (sub_cons rfl sub_nil)))))) (by decide) (pick_cons rfl pick_nil) (hK18 true hp)
        · refine sx_rd' (rd_move' rfl) rfl rfl (wt_is' (wt_guard' rfl rfl rfl) (beq_ff h6)) ?_
          refine sx_rd' (rd_len' rfl Try.underlying23) rfl rfl (wt_is' (wt_guard' rfl rfl rfl) (beq_ff h6)) ?_
          refine sx_rd' (rd_bin' rfl rfl eg_int ru_neq) rfl rfl (wt_is' (wt_guard' rfl rfl rfl) (beq_ff h6)) ?_
          refine sx_rd' (rd_pick_false' rfl h6 rfl) rfl rfl (wt_none' rfl) ?_
          refine sx_nil' ?_
          show TX E K18 _
          exact tx_pick' [0] (sub_cons rfl (sub_cons rfl (sub_cons rfl (sub_cons rfl (sub_cons rfl (sub_cons rfl sub_nil)))))) (by decide) (pick_cons rfl pick_nil) (hK18 (!decide ((r12.length : Int) = 2)) hp)
    · replace hp := (br_f h4).symm.trans hp
      refine cx_exit' ?_
      replace hp := Option.some.inj hp
      subst hp
      show TX E (Zg E (Exit.exit 0) _ (Exit.exit 0)) _
      exact tx_zend' g901 rfl [0] (sub_cons rfl sub_nil) (by decide) (pick_cons rfl pick_nil)
  · rcases y1 with v3 | v4
    · dsimp only at hp
      refine zg_out fun w3 => ?_
      replace hp := Option.some.inj hp
      subst hp
      refine tx_pick' (L' := [(2, (Vl (.slice none 0 0))), (3, (Vl (.bool false)))]) (H' := []) [] (sub_cons rfl (sub_cons rfl sub_nil)) (by decide) pick_nil ?_
      exact tx_ret2' Try.results8 rfl () (rv_imp' (x := (Vl (.slice none 0 0))) (y := (Sl KT34 [])) (rv_tmp' rfl) imp_nil) (rv_tmp' rfl) rfl (List.Sublist.refl _)
    · dsimp only at hp
      refine zg_out fun w4 => ?_
      show TX E K2 _
      refine tx_k' hK2 ?_
      refine cx_seq' fun K19 hK19 => ?_
      refine cx_region' ?_
      refine sx_rd' (rd_move' rfl) rfl rfl (wt_none' rfl) ?_
      refine tx_fz' (frz_row 0 [(2, (Vl (Vs w4)), (Sl KT34 v4)), (35, (Vl (Vs w4)), (Sl KT34 v4))] (K := KT34) (xs := v4) (by decide) rfl ⟨⟨rfl, frz_it⟩, ⟨rfl, frz_it⟩, trivial⟩ (H' := []) frzH_refl) ?_
      obtain ⟨r36, hr36, hp⟩ := bind_some hp
      refine sx_ox' (ox_calln' (ent_fn' Try.func34 isn34 rfl rfl) (laws_places2_sim _ hr36 : Go.Sx.Fn Try.prog 34 [(Sl KT34 v4)] [] (fun x : Unit => (Sl (Kl Kf) r36)) (fun x => [])) (Hn := fun x : Unit => []) (fun _ => rfl) rfl rfl) (wt_none' rfl) fun ⟨⟩ => ?_
      refine sx_rd' (rd_assign' rfl) rfl rfl (wt_none' rfl) ?_
      refine sx_nil' ?_
      show TX E K19 _
      refine tx_k' hK19 ?_
      refine cx_seq' fun K20 hK20 => ?_
      refine cx_region' ?_
      refine sx_rd' (rd_move' rfl) rfl rfl (wt_none' rfl) ?_
      refine sx_rd' (rd_move' rfl) rfl rfl (wt_none' rfl) ?_
      refine sx_rd' (rd_len' rfl Try.underlying24) rfl rfl (wt_none' rfl) ?_
      refine sx_rd' (rd_bin' rfl rfl eg_int ru_gtr) rfl rfl (wt_none' rfl) ?_
      refine sx_rd' (rd_move' rfl) rfl rfl (wt_none' rfl) ?_
      refine sx_cutn' 4 (fun (v5 : Bool) => (⟨54, [], [(6, (Sl (Kl Kf) r36)), (37, (Sl KT34 v4)), (45, (Vl (.bool v5)))], []⟩ : St)) (fun (v5 : Bool) => laws_ones2_j2 k r36 v4 v5 = some out) ?_ ?_
      · rintro x5 hp
        replace hp : laws_ones2_j2 k r36 v4 x5 = some out := hp
        unfold laws_ones2_j2 at hp
        refine sx_rd' (rd_move' rfl) rfl rfl (wt_none' rfl) ?_
        refine sx_cutn' 3 (fun (v6 : Bool) => (⟨54, [], [(6, (Sl (Kl Kf) r36)), (37, (Sl KT34 v4)), (49, (Vl (.bool v6)))], []⟩ : St)) (fun (v6 : Bool) => laws_ones2_j3 k r36 v4 v6 = some out) ?_ ?_
        · rintro x6 hp
          replace hp : laws_ones2_j3 k r36 v4 x6 = some out := hp
          unfold laws_ones2_j3 at hp
          refine sx_rd' (rd_move' rfl) rfl rfl (wt_none' rfl) ?_
          refine sx_cutn' 3 (fun (v7 : Bool) => (⟨54, [], [(37, (Sl KT34 v4)), (53, (Vl (.bool v7)))], []⟩ : St)) (fun (v7 : Bool) => laws_ones2_j4 k v4 v7 = some out) ?_ ?_
          · rintro x7 hp
            replace hp : laws_ones2_j4 k v4 x7 = some out := hp
            unfold laws_ones2_j4 at hp
            refine sx_rd' (rd_assign' rfl) rfl rfl (wt_none' rfl) ?_
            refine sx_rd' (rd_assign' rfl) rfl rfl (wt_none' rfl) ?_
            refine sx_nil' ?_
            show TX E K20 _
            refine tx_k' hK20 ?_
            refine cx_retc' ?_
            replace hp := Option.some.inj hp
            subst hp
            refine tx_pick' (L' := [(2, (Sl KT34 v4)), (3, (Vl (.bool x7)))]) (H' := []) [] (sub_cons rfl (sub_cons rfl sub_nil)) (by decide) pick_nil ?_
            exact tx_ret2' Try.results8 rfl () (rv_tmp' rfl) (rv_tmp' rfl) rfl (List.Sublist.refl _)
          · intro K23 hK23
            rcases br_cases hp with ⟨h9, hp⟩ | ⟨h9, hp⟩
            · refine sx_rd' (rd_move' rfl) rfl rfl (wt_is' (wt_guard' rfl rfl rfl) (beq_tt h9)) ?_
              obtain ⟨r52, hr52, hp⟩ := bind_some hp
              refine sx_ox' (ox_calln' (ent_fn' Try.func35 isn35 rfl rfl) (spec_Differ_sim _ hr52 : Go.Sx.Fn Try.prog 35 [(Sl (Kl Kf) r36)] [] (fun x : Unit => (Vl (.bool r52))) (fun x => [])) (Hn := fun x : Unit => []) (fun _ => rfl) rfl rfl) (wt_is' (wt_guard' rfl rfl rfl) (beq_tt h9)) fun ⟨⟩ => ?_
              refine sx_rd' (rd_pick_true' rfl h9 rfl) rfl rfl (wt_none' rfl) ?_
              refine sx_nil' ?_
              show TX E K23 _
              exact tx_pick' [] (sub_cons rfl (sub_cons rfl sub_nil)) (by decide) pick_nil (hK23 r52 hp)
            · refine sx_skip' rfl rfl (wt_is' (wt_guard' rfl rfl rfl) (beq_ft h9)) ?_
              refine sx_skip' rfl rfl (wt_is' (wt_guard' rfl rfl rfl) (beq_ft h9)) ?_
              refine sx_rd' (rd_pick_false' rfl h9 rfl) rfl rfl (wt_none' rfl) ?_
              refine sx_nil' ?_
              show TX E K23 _
              exact tx_pick' [] (sub_cons rfl (sub_cons rfl sub_nil)) (by decide) pick_nil (hK23 false hp)
        · intro K22 hK22
          rcases br_cases hp with ⟨h8, hp⟩ | ⟨h8, hp⟩
          · refine sx_rd' (rd_move' rfl) rfl rfl (wt_is' (wt_guard' rfl rfl rfl) (beq_tt h8)) ?_
            obtain ⟨r48, hr48, hp⟩ := bind_some hp
            refine sx_ox' (ox_calln' (ent_fn' Try.func27 isn27 rfl rfl) (spec_Grid_sim _ _ _ hr48 : Go.Sx.Fn Try.prog 27 [(Sl (Kl Kf) r36), (Vl (.int .i64 2)), (Vl (.float .f64 4652218415073722368))] [] (fun x : Unit => (Vl (.bool r48))) (fun x => [])) (Hn := fun x : Unit => []) (fun _ => rfl) rfl rfl) (wt_is' (wt_guard' rfl rfl rfl) (beq_tt h8)) fun ⟨⟩ => ?_
            refine sx_rd' (rd_pick_true' rfl h8 rfl) rfl rfl (wt_none' rfl) ?_
            refine sx_nil' ?_
            show TX E K22 _
            exact tx_pick' [] (sub_cons rfl (sub_cons rfl (sub_cons rfl sub_nil))) (by decide) pick_nil (hK22 r48 hp)
          · refine sx_skip' rfl rfl (wt_is' (wt_guard' rfl rfl rfl) (beq_ft h8)) ?_
            refine sx_skip' rfl rfl (wt_is' (wt_guard' rfl rfl rfl) (beq_ft h8)) ?_
            refine sx_rd' (rd_pick_false' rfl h8 rfl) rfl rfl (wt_none' rfl) ?_
            refine sx_nil' ?_
            show TX E K22 _
            exact tx_pick' [] (sub_cons rfl (sub_cons rfl (sub_cons rfl sub_nil))) (by decide) pick_nil (hK22 false hp)
      · intro K21 hK21
        rcases br_cases hp with ⟨h7, hp⟩ | ⟨h7, hp⟩
        · refine sx_rd' (rd_move' rfl) rfl rfl (wt_is' (wt_guard' rfl rfl rfl) (beq_tt h7)) ?_
          refine sx_rd' (rd_len' rfl Try.underlying24) rfl rfl (wt_is' (wt_guard' rfl rfl rfl) (beq_tt h7)) ?_
          refine sx_rd' (rd_bin' rfl rfl eg_int ru_leq) rfl rfl (wt_is' (wt_guard' rfl rfl rfl) (beq_tt h7)) ?_
          refine sx_rd' (rd_pick_true' rfl h7 rfl) rfl rfl (wt_none' rfl) ?_
          refine sx_nil' ?_
          show TX E K21 _
          exact tx_pick' [] (sub_cons rfl (sub_cons rfl (sub_cons rfl sub_nil))) (by decide) pick_nil (hK21 (decide ((v4.length : Int) ≤ 60)) hp)
        · refine sx_skip' rfl rfl (wt_is' (wt_guard' rfl rfl rfl) (beq_ft h7)) ?_
          refine sx_skip' rfl rfl (wt_is' (wt_guard' rfl rfl rfl) (beq_ft h7)) ?_
          refine sx_skip' rfl rfl (wt_is' (wt_guard' rfl rfl rfl) (beq_ft h7)) ?_
          refine sx_rd' (rd_pick_false' rfl h7 rfl) rfl rfl (wt_none' rfl) ?_
          refine sx_nil' ?_
          show TX E K21 _
          exact tx_pick' [] (sub_cons rfl (sub_cons rfl (sub_cons rfl sub_nil))) (by decide) pick_nil (hK21 false hp)

def laws_heavy_j2 (k : Nat) (x2 : Bool) : Option (Bool) :=
  some x2
def laws_heavy_j1 (k : Nat) (x1 : Bool) : Option (Bool) :=
  laws_heavy_j2 k x1
def laws_heavy (k : Nat) (a0 : Nat) : Option (Bool) :=
  br (feq a0 0)
    (laws_heavy_j2 k true)
    (br (fge a0 4517110426252607488)
      (laws_heavy_j1 k (fle a0 4652007308841189376))
      (laws_heavy_j1 k false))

theorem laws_heavy_sim {k : Nat}  (a0 : Nat) {out : Bool} (hp : laws_heavy k a0 = some out) : Go.Sx.Fn Try.prog 9 [(Vl (.float .f64 a0))] [] (fun w : Unit => (Vl (.bool out))) (fun w => []) := by
  unfold laws_heavy at hp
  refine fn_of Try.func9 rfl Try.ntmps9 rfl fun E hM => ?_
  refine cx_seq' fun K1 hK1 => ?_
  refine cx_region' ?_
  refine sx_rd' (rd_assign' rfl) rfl rfl (wt_none' rfl) ?_
  refine sx_nil' ?_
  show TX E K1 _
  refine tx_k' hK1 ?_
  refine cx_seq' fun K2 hK2 => ?_
  refine cx_region' ?_
  refine sx_rd' (rd_move' rfl) rfl rfl (wt_none' rfl) ?_
  refine sx_rd' (rd_bin' rfl rfl eg_flt ru_feq) rfl rfl (wt_none' rfl) ?_
  refine sx_rd' (rd_move' rfl) rfl rfl (wt_none' rfl) ?_
  refine sx_cutn' 7 (fun (v2 : Bool) => (⟨13, [], [(12, (Vl (.bool v2)))], []⟩ : St)) (fun (v2 : Bool) => laws_heavy_j2 k v2 = some out) ?_ ?_
  · rintro x2 hp
    replace hp : laws_heavy_j2 k x2 = some out := hp
    unfold laws_heavy_j2 at hp
    refine sx_rd' (rd_assign' rfl) rfl rfl (wt_none' rfl) ?_
    refine sx_nil' ?_
    show TX E K2 _
    refine tx_k' hK2 ?_
    refine cx_retc' ?_
    replace hp := Option.some.inj hp
    subst hp
    refine tx_pick' (L' := [(2, (Vl (.bool x2)))]) (H' := []) [] (sub_cons rfl sub_nil) (by decide) pick_nil ?_
    exact tx_ret1' Try.results9 rfl () (rv_tmp' rfl) (List.Sublist.refl _)
  · intro K4 hK4
    rcases br_cases hp with ⟨h1, hp⟩ | ⟨h1, hp⟩
    · refine sx_skip' rfl rfl (wt_is' (wt_guard' rfl rfl rfl) (beq_tf h1)) ?_
      refine sx_skip' rfl rfl (wt_is' (wt_guard' rfl rfl rfl) (beq_tf h1)) ?_
      refine sx_skip' rfl rfl (wt_is' (wt_guard' rfl rfl rfl) (beq_tf h1)) ?_
      refine sx_skip' rfl rfl (wt_undef' rfl rfl rfl) ?_
      refine sx_skip' rfl rfl (wt_undef' rfl rfl rfl) ?_
      refine sx_skip' rfl rfl (wt_is' (wt_guard' rfl rfl rfl) (beq_tf h1)) ?_
      refine sx_rd' (rd_pick_true' rfl h1 rfl) rfl rfl (wt_none' rfl) ?_
      refine sx_nil' ?_
      show TX E K4 _
      exact tx_pick' [] (sub_cons rfl sub_nil) (by decide) pick_nil (hK4 true hp)
    · refine sx_rd' (rd_move' rfl) rfl rfl (wt_is' (wt_guard' rfl rfl rfl) (beq_ff h1)) ?_
      refine sx_rd' (rd_bin' rfl rfl eg_flt ru_fge) rfl rfl (wt_is' (wt_guard' rfl rfl rfl) (beq_ff h1)) ?_
      refine sx_rd' (rd_move' rfl) rfl rfl (wt_is' (wt_guard' rfl rfl rfl) (beq_ff h1)) ?_
      refine sx_cutn' 4 (fun (v1 : Bool) => (⟨13, [], [(12, (Vl (.bool v1)))], []⟩ : St)) (fun (v1 : Bool) => laws_heavy_j1 k v1 = some out) ?_ ?_
      · rintro x1 hp
        replace hp : laws_heavy_j1 k x1 = some out := hp
        unfold laws_heavy_j1 at hp
        refine sx_nil' ?_
        show TX E K4 _
        exact tx_pick' [] (sub_cons rfl sub_nil) (by decide) pick_nil (hK4 x1 hp)
      · intro K3 hK3
        rcases br_cases hp with ⟨h2, hp⟩ | ⟨h2, hp⟩
        · refine sx_rd' (rd_move' rfl) rfl rfl (wt_is' (wt_guard' rfl rfl rfl) (beq_tt h2)) ?_
          refine sx_rd' (rd_bin' rfl rfl eg_flt ru_fle) rfl rfl (wt_is' (wt_guard' rfl rfl rfl) (beq_tt h2)) ?_
          refine sx_rd' (rd_pick_true' rfl h2 rfl) rfl rfl (wt_is' (wt_guard' rfl rfl rfl) (beq_ff h1)) ?_
          refine sx_rd' (rd_pick_false' rfl h1 rfl) rfl rfl (wt_none' rfl) ?_
          refine sx_nil' ?_
          show TX E K3 _
          exact tx_pick' [] (sub_cons rfl sub_nil) (by decide) pick_nil (hK3 (fle a0 4652007308841189376) hp)
        · refine sx_skip' rfl rfl (wt_is' (wt_guard' rfl rfl rfl) (beq_ft h2)) ?_
          refine sx_skip' rfl rfl (wt_is' (wt_guard' rfl rfl rfl) (beq_ft h2)) ?_
          refine sx_rd' (rd_pick_false' rfl h2 rfl) rfl rfl (wt_is' (wt_guard' rfl rfl rfl) (beq_ff h1)) ?_
          refine sx_rd' (rd_pick_false' rfl h1 rfl) rfl rfl (wt_none' rfl) ?_
          refine sx_nil' ?_
          show TX E K3 _
          exact tx_pick' [] (sub_cons rfl sub_nil) (by decide) pick_nil (hK3 false hp)

def laws_off2 (k : Nat) (a0_0 : Nat) (a0_1 : Nat) : Option ((List Nat)) :=
  some ([a0_0, a0_1])

theorem laws_off2_sim {k : Nat}  (a0_0 : Nat) (a0_1 : Nat) {out : (List Nat)} (hp : laws_off2 k a0_0 a0_1 = some out) : Go.Sx.Fn Try.prog 10 [(Ag [(Vl (.float .f64 a0_0)), (Vl (.float .f64 a0_1))])] [] (fun w : Unit => (Sl Kf out)) (fun w => []) := by
  unfold laws_off2 at hp
  refine fn_of Try.func10 rfl Try.ntmps10 rfl fun E hM => ?_
  refine cx_seq' fun K1 hK1 => ?_
  refine cx_region' ?_
  refine sx_ox' (ox_box' rfl (lv_ag _) rfl rfl) (wt_none' rfl) fun q1 => ?_
  refine sx_rd' (rd_assign' rfl) rfl rfl (wt_none' rfl) ?_
  refine sx_nil' ?_
  show TX E K1 _
  refine tx_k' hK1 ?_
  refine cx_seq' fun K2 hK2 => ?_
  refine cx_region' ?_
  refine sx_rd' (rd_field0' rfl Try.underlying32 rfl info22 rfl) rfl rfl (wt_none' rfl) ?_
  refine sx_rd' (rd_load' (i := 0) (o := 0) rfl ⟨rfl, rfl, rfl, rfl⟩ rfl flat22) rfl rfl (wt_none' rfl) ?_
  refine sx_rd' (rd_field' (off := 1) rfl Try.underlying32 rfl info22 rfl) rfl rfl (wt_none' rfl) ?_
  refine sx_rd' (rd_load' (i := 0) (o := 1) rfl ⟨rfl, rfl, rfl, rfl⟩ rfl flat22) rfl rfl (wt_none' rfl) ?_
  refine sx_ox' (ox_rowlit' (K := Kf) (xs := [a0_0, a0_1]) (qs := [(0, [(Vl (.float .f64 a0_0))]), (1, [(Vl (.float .f64 a0_1))])]) ⟨rfl, ⟨_, rfl, (lv_vl rfl rfl)⟩, ⟨rfl, ⟨_, rfl, (lv_vl rfl rfl)⟩, trivial⟩⟩ Try.underlying29 info22 rfl rfl rfl rfl rfl (by kernel_rfl) rfl rfl rfl) (wt_none' rfl) fun g7 => ?_
  refine sx_rd' (rd_assign' rfl) rfl rfl (wt_none' rfl) ?_
  refine sx_nil' ?_
  show TX E K2 _
  refine tx_k' hK2 ?_
  refine cx_retc' ?_
  replace hp := Option.some.inj hp
  subst hp
  refine tx_fz' (frz_row 0 [(2, (Vl (Vs g7)), (Sl Kf ([a0_0, a0_1]))), (7, (Vl (Vs g7)), (Sl Kf ([a0_0, a0_1])))] (K := Kf) (xs := [a0_0, a0_1]) (by decide) rfl ⟨⟨rfl, frz_it⟩, ⟨rfl, frz_it⟩, trivial⟩ (H' := [⟨.pointer (some q1), [(Vl (.float .f64 a0_0)), (Vl (.float .f64 a0_1))], 32, none⟩]) frzH_refl) ?_
  refine tx_pick' (L' := [(2, (Sl Kf ([a0_0, a0_1])))]) (H' := []) [] (sub_cons rfl sub_nil) (by decide) pick_nil ?_
  exact tx_ret1' Try.results10 rfl () (rv_tmp' rfl) (List.Sublist.refl _)

def impl_vec2 (k : Nat) (a0_0 : Nat) (a0_1 : Nat) : Option (Nat × Nat) :=
  some (a0_0, a0_1)

theorem impl_vec2_sim {k : Nat}  (a0_0 : Nat) (a0_1 : Nat) {out : Nat × Nat} (hp : impl_vec2 k a0_0 a0_1 = some out) : Go.Sx.Fn Try.prog 38 [(Ag [(Vl (.float .f64 a0_0)), (Vl (.float .f64 a0_1))])] [] (fun w : Unit => (Ag [(Vl (.float .f64 out.1)), (Vl (.float .f64 out.2))])) (fun w => []) := by
  unfold impl_vec2 at hp
  refine fn_of Try.func38 rfl Try.ntmps38 rfl fun E hM => ?_
  refine cx_seq' fun K1 hK1 => ?_
  refine cx_region' ?_
  refine sx_ox' (ox_box' rfl (lv_ag _) rfl rfl) (wt_none' rfl) fun q1 => ?_
  refine sx_ox' (ox_alloc' info69 rfl rfl rfl rfl (l := [(Vl (.float .f64 0)), (Vl (.float .f64 0))]) rfl) (wt_none' rfl) fun q2 => ?_
  refine sx_nil' ?_
  show TX E K1 _
  refine tx_k' hK1 ?_
  refine cx_seq' fun K2 hK2 => ?_
  refine cx_region' ?_
  refine sx_rd' (rd_field0' rfl Try.underlying32 rfl info22 rfl) rfl rfl (wt_none' rfl) ?_
  refine sx_rd' (rd_load' (i := 1) (o := 0) rfl ⟨rfl, rfl, rfl, rfl⟩ rfl flat22) rfl rfl (wt_none' rfl) ?_
  refine sx_rd' (rd_field' (off := 1) rfl Try.underlying32 rfl info22 rfl) rfl rfl (wt_none' rfl) ?_
  refine sx_rd' (rd_load' (i := 1) (o := 1) rfl ⟨rfl, rfl, rfl, rfl⟩ rfl flat22) rfl rfl (wt_none' rfl) ?_
  refine sx_rd' (rd_build' (pls := [(0, 1), (1, 1)]) (qs := [(0, [(Vl (.float .f64 a0_0))]), (1, [(Vl (.float .f64 a0_1))])]) (r := [(Vl (.float .f64 a0_0)), (Vl (.float .f64 a0_1))]) ⟨rfl, ⟨_, rfl, (lv_vl rfl rfl)⟩, ⟨rfl, ⟨_, rfl, (lv_vl rfl rfl)⟩, trivial⟩⟩ Try.underlying69 has69 places69 info69 rfl rfl rfl) rfl rfl (wt_none' rfl) ?_
  refine sx_ox' (ox_store' (i := 0) (o := 0) rfl rfl (lv_ag _) ⟨rfl, rfl, rfl, rfl⟩ rfl info69 rfl (H' := [⟨.pointer (some q2), [(Vl (.float .f64 a0_0)), (Vl (.float .f64 a0_1))], 69, none⟩, ⟨.pointer (some q1), [(Vl (.float .f64 a0_0)), (Vl (.float .f64 a0_1))], 32, none⟩]) rfl) (wt_none' rfl) fun _ => ?_
  refine sx_nil' ?_
  show TX E K2 _
  refine tx_k' hK2 ?_
  refine cx_retc' ?_
  replace hp := Option.some.inj hp
  subst hp
  refine tx_pick' (L' := [(2, (Vl (.pointer (some q2))))]) (H' := [⟨.pointer (some q2), [(Vl (.float .f64 a0_0)), (Vl (.float .f64 a0_1))], 69, none⟩]) [0] (sub_cons rfl sub_nil) (by decide) (pick_cons rfl pick_nil) ?_
  exact tx_ret1' Try.results38 rfl () (rv_cell_agg' (i := 0) (o := 0) (nn := 2) rfl ⟨rfl, rfl, rfl, rfl⟩ rfl agg69 rfl) (List.nil_sublist _)

def math_Sqrt (k : Nat) (a0 : Nat) : Option (Nat) :=
  (some (gsqrt a0)) >>= fun r4 =>
  some r4

theorem math_Sqrt_sim {k : Nat}  (a0 : Nat) {out : Nat} (hp : math_Sqrt k a0 = some out) : Go.Sx.Fn Try.prog 13 [(Vl (.float .f64 a0))] [] (fun w : Unit => (Fl out)) (fun w => []) := by
  unfold math_Sqrt at hp
  refine fn_of Try.func13 rfl Try.ntmps13 rfl fun E hM => ?_
  refine cx_seq' fun K1 hK1 => ?_
  refine cx_region' ?_
  refine sx_rd' (rd_assign' rfl) rfl rfl (wt_none' rfl) ?_
  refine sx_nil' ?_
  show TX E K1 _
  refine tx_k' hK1 ?_
  refine cx_seq' fun K2 hK2 => ?_
  refine cx_region' ?_
  refine sx_rd' (rd_move' rfl) rfl rfl (wt_none' rfl) ?_
  obtain ⟨r4, hr4, hp⟩ := bind_some hp
  refine sx_ox' (ox_extf' rfl (fl_v rfl) Try.func39 (extf39 (Option.some.inj hr4)) rfl rfl) (wt_none' rfl) fun _ => ?_
  refine sx_rd' (rd_assign' rfl) rfl rfl (wt_none' rfl) ?_
  refine sx_nil' ?_
  show TX E K2 _
  refine tx_k' hK2 ?_
  refine cx_retc' ?_
  replace hp := Option.some.inj hp
  subst hp
  refine tx_pick' (L' := [(2, (Fl r4))]) (H' := []) [] (sub_cons rfl sub_nil) (by decide) pick_nil ?_
  exact tx_ret1' Try.results13 rfl () (rv_tmp' rfl) (List.Sublist.refl _)

def r2_Scale (k : Nat) (a0 : Nat) (a1_0 : Nat) (a1_1 : Nat) : Option (Nat × Nat) :=
  (some (gmul a0 a1_0)) >>= fun r8 =>
  (some (gmul a0 a1_1)) >>= fun r12 =>
  some (r8, r12)

theorem r2_Scale_sim {k : Nat}  (a0 : Nat) (a1_0 : Nat) (a1_1 : Nat) {out : Nat × Nat} (hp : r2_Scale k a0 a1_0 a1_1 = some out) : Go.Sx.Fn Try.prog 57 [(Vl (.float .f64 a0)), (Ag [(Vl (.float .f64 a1_0)), (Vl (.float .f64 a1_1))])] [] (fun w : Unit => (Ag [(Fl out.1), (Fl out.2)])) (fun w => []) := by
  unfold r2_Scale at hp
  refine fn_of Try.func57 rfl Try.ntmps57 rfl fun E hM => ?_
  refine cx_seq' fun K1 hK1 => ?_
  refine cx_region' ?_
  refine sx_ox' (ox_box' rfl (lv_ag _) rfl rfl) (wt_none' rfl) fun q3 => ?_
  refine sx_ox' (ox_alloc' info69 rfl rfl rfl rfl (l := [(Vl (.float .f64 0)), (Vl (.float .f64 0))]) rfl) (wt_none' rfl) fun q4 => ?_
  refine sx_nil' ?_
  show TX E K1 _
  refine tx_k' hK1 ?_
  refine cx_seq' fun K2 hK2 => ?_
  refine cx_region' ?_
  refine sx_rd' (rd_move' rfl) rfl rfl (wt_none' rfl) ?_
  refine sx_rd' (rd_field0' rfl Try.underlying69 rfl info22 rfl) rfl rfl (wt_none' rfl) ?_
  refine sx_rd' (rd_load' (i := 1) (o := 0) rfl ⟨rfl, rfl, rfl, rfl⟩ rfl flat22) rfl rfl (wt_none' rfl) ?_
  obtain ⟨r8, hr8, hp⟩ := bind_some hp
  refine sx_ox' (ox_fop' (.inr (.inr (.inl rfl))) (fl_v rfl) (fl_v rfl) (Option.some.inj hr8) rfl rfl) (wt_none' rfl) fun _ => ?_
  refine sx_rd' (rd_move' rfl) rfl rfl (wt_none' rfl) ?_
  refine sx_rd' (rd_field' (off := 1) rfl Try.underlying69 rfl info22 rfl) rfl rfl (wt_none' rfl) ?_
  refine sx_rd' (rd_load' (i := 1) (o := 1) rfl ⟨rfl, rfl, rfl, rfl⟩ rfl flat22) rfl rfl (wt_none' rfl) ?_
  obtain ⟨r12, hr12, hp⟩ := bind_some hp
  refine sx_ox' (ox_fop' (.inr (.inr (.inl rfl))) (fl_v rfl) (fl_v rfl) (Option.some.inj hr12) rfl rfl) (wt_none' rfl) fun _ => ?_
  refine sx_rd' (rd_build' (pls := [(0, 1), (1, 1)]) (qs := [(0, [(Fl r8)]), (1, [(Fl r12)])]) (r := [(Fl r8), (Fl r12)]) ⟨rfl, ⟨_, rfl, (lv_fl _)⟩, ⟨rfl, ⟨_, rfl, (lv_fl _)⟩, trivial⟩⟩ Try.underlying69 has69 places69 info69 rfl rfl rfl) rfl rfl (wt_none' rfl) ?_
  refine sx_ox' (ox_store' (i := 0) (o := 0) rfl rfl (lv_ag _) ⟨rfl, rfl, rfl, rfl⟩ rfl info69 rfl (H' := [⟨.pointer (some q4), [(Fl r8), (Fl r12)], 69, none⟩, ⟨.pointer (some q3), [(Vl (.float .f64 a1_0)), (Vl (.float .f64 a1_1))], 69, none⟩]) rfl) (wt_none' rfl) fun _ => ?_
  refine sx_nil' ?_
  show TX E K2 _
  refine tx_k' hK2 ?_
  refine cx_retc' ?_
  replace hp := Option.some.inj hp
  subst hp
  refine tx_pick' (L' := [(4, (Vl (.pointer (some q4))))]) (H' := [⟨.pointer (some q4), [(Fl r8), (Fl r12)], 69, none⟩]) [0] (sub_cons rfl sub_nil) (by decide) (pick_cons rfl pick_nil) ?_
  exact tx_ret1' Try.results57 rfl () (rv_cell_agg' (i := 0) (o := 0) (nn := 2) rfl ⟨rfl, rfl, rfl, rfl⟩ rfl agg69 rfl) (List.nil_sublist _)

def barneshut_Gravity2 (k : Nat) (a2 : Nat) (a3 : Nat) (a4_0 : Nat) (a4_1 : Nat) : Option (Nat × Nat) :=
  (some (gmul a4_0 a4_0)) >>= fun r16 =>
  (some (gmul a4_1 a4_1)) >>= fun r21 =>
  (some (gadd r16 r21)) >>= fun r22 =>
  br (feq r22 0)
    (some (0, 0))
    ((fmul a2 a3) >>= fun r28 =>
    (num r22) >>= fun u1 =>
    (math_Sqrt k r22) >>= fun r31 =>
    (num r22) >>= fun u2 =>
    (num r31) >>= fun u3 =>
    (fmul r22 r31) >>= fun r32 =>
    (fdiv r28 r32) >>= fun r33 =>
    (r2_Scale k r33 a4_0 a4_1) >>= fun r35 =>
    some (r35.1, r35.2))

theorem barneshut_Gravity2_sim {k : Nat}  (a2 : Nat) (a3 : Nat) (a4_0 : Nat) (a4_1 : Nat) {out : Nat × Nat} (hp : barneshut_Gravity2 k a2 a3 a4_0 a4_1 = some out) : Go.Sx.Fn Try.prog 37 [(Vl .nilIface), (Vl .nilIface), (Vl (.float .f64 a2)), (Vl (.float .f64 a3)), (Ag [(Vl (.float .f64 a4_0)), (Vl (.float .f64 a4_1))])] [] (fun w : Unit => (Ag [(Fl out.1), (Fl out.2)])) (fun w => []) := by
  unfold barneshut_Gravity2 at hp
  refine fn_of Try.func37 rfl Try.ntmps37 rfl fun E hM => ?_
  refine cx_seq' fun K1 hK1 => ?_
  refine cx_region' ?_
  refine sx_ox' (ox_box' rfl (lv_ag _) rfl rfl) (wt_none' rfl) fun q9 => ?_
  refine sx_ox' (ox_alloc' info69 rfl rfl rfl rfl (l := [(Vl (.float .f64 0)), (Vl (.float .f64 0))]) rfl) (wt_none' rfl) fun q10 => ?_
  refine sx_nil' ?_
  show TX E K1 _
  refine tx_k' hK1 ?_
  refine cx_seq' fun K2 hK2 => ?_
  refine cx_region' ?_
  refine sx_rd' (rd_field0' rfl Try.underlying69 rfl info22 rfl) rfl rfl (wt_none' rfl) ?_
  refine sx_rd' (rd_load' (i := 1) (o := 0) rfl ⟨rfl, rfl, rfl, rfl⟩ rfl flat22) rfl rfl (wt_none' rfl) ?_
  refine sx_rd' (rd_field0' rfl Try.underlying69 rfl info22 rfl) rfl rfl (wt_none' rfl) ?_
  refine sx_rd' (rd_load' (i := 1) (o := 0) rfl ⟨rfl, rfl, rfl, rfl⟩ rfl flat22) rfl rfl (wt_none' rfl) ?_
  obtain ⟨r16, hr16, hp⟩ := bind_some hp
  refine sx_ox' (ox_fop' (.inr (.inr (.inl rfl))) (fl_v rfl) (fl_v rfl) (Option.some.inj hr16) rfl rfl) (wt_none' rfl) fun _ => ?_
  refine sx_rd' (rd_field' (off := 1) rfl Try.underlying69 rfl info22 rfl) rfl rfl (wt_none' rfl) ?_
  refine sx_rd' (rd_load' (i := 1) (o := 1) rfl ⟨rfl, rfl, rfl, rfl⟩ rfl flat22) rfl rfl (wt_none' rfl) ?_
  refine sx_rd' (rd_field' (off := 1) rfl Try.underlying69 rfl info22 rfl) rfl rfl (wt_none' rfl) ?_
  refine sx_rd' (rd_load' (i := 1) (o := 1) rfl ⟨rfl, rfl, rfl, rfl⟩ rfl flat22) rfl rfl (wt_none' rfl) ?_
  obtain ⟨r21, hr21, hp⟩ := bind_some hp
  refine sx_ox' (ox_fop' (.inr (.inr (.inl rfl))) (fl_v rfl) (fl_v rfl) (Option.some.inj hr21) rfl rfl) (wt_none' rfl) fun _ => ?_
  obtain ⟨r22, hr22, hp⟩ := bind_some hp
  refine sx_ox' (ox_fop' (.inl rfl) (fl_f rfl) (fl_f rfl) (Option.some.inj hr22) rfl rfl) (wt_none' rfl) fun _ => ?_
  refine sx_rd' (rd_assign' rfl) rfl rfl (wt_none' rfl) ?_
  refine sx_nil' ?_
  show TX E K2 _
  refine tx_k' hK2 ?_
  refine cx_seq' fun K3 hK3 => ?_
  refine cx_seq' fun K4 hK4 => ?_
  refine cx_region' ?_
  refine sx_rd' (rd_move' rfl) rfl rfl (wt_none' rfl) ?_
  refine sx_rd' (rd_fcmp' (fl_f rfl) (fl_v rfl) rfl) rfl rfl (wt_none' rfl) ?_
  refine sx_nil' ?_
  show TX E K4 _
  refine tx_k' hK4 ?_
  refine cx_cond' rfl (fun h1 => ?_) (fun h1 => ?_)
  · replace hp := (br_t h1).symm.trans hp
    refine cx_seq' fun K5 hK5 => ?_
    refine cx_region' ?_
    refine sx_rd' (rd_build' (pls := [(0, 1), (1, 1)]) (qs := []) (r := [(Vl (.float .f64 0)), (Vl (.float .f64 0))]) trivial Try.underlying69 has69 places69 info69 rfl rfl rfl) rfl rfl (wt_none' rfl) ?_
    refine sx_ox' (ox_store' (i := 0) (o := 0) rfl rfl (lv_ag _) ⟨rfl, rfl, rfl, rfl⟩ rfl info69 rfl (H' := [⟨.pointer (some q10), [(Vl (.float .f64 0)), (Vl (.float .f64 0))], 69, none⟩, ⟨.pointer (some q9), [(Vl (.float .f64 a4_0)), (Vl (.float .f64 a4_1))], 69, none⟩]) rfl) (wt_none' rfl) fun _ => ?_
    refine sx_nil' ?_
    show TX E K5 _
    refine tx_k' hK5 ?_
    refine cx_retc' ?_
    replace hp := Option.some.inj hp
    subst hp
    refine tx_pick' (L' := [(10, (Vl (.pointer (some q10))))]) (H' := [⟨.pointer (some q10), [(Vl (.float .f64 0)), (Vl (.float .f64 0))], 69, none⟩]) [0] (sub_cons rfl sub_nil) (by decide) (pick_cons rfl pick_nil) ?_
    exact tx_ret1' Try.results37 rfl () (rv_imp' (x := (Ag [(Vl (.float .f64 0)), (Vl (.float .f64 0))])) (y := (Ag [(Fl 0), (Fl 0)])) (rv_cell_agg' (i := 0) (o := 0) (nn := 2) rfl ⟨rfl, rfl, rfl, rfl⟩ rfl agg69 rfl) (imp_ag ⟨imp_vf, imp_vf, trivial⟩)) (List.nil_sublist _)
  · replace hp := (br_f h1).symm.trans hp
    refine cx_skip' ?_
    show TX E K3 _
    refine tx_k' hK3 ?_
    refine cx_seq' fun K6 hK6 => ?_
    refine cx_plan' [] [(10, 1)] [(0, 1), (1, 1), (2, 1), (3, 1), (4, 1), (8, 1), (5, 0), (6, 1), (7, 1), (9, 0), (10, 0)] mixed (by kernel_rfl) ?_
    refine px_rd' rfl (rd_move' rfl) rfl rfl (wt_none' rfl) ?_
    refine px_rd' rfl (rd_move' rfl) rfl rfl (wt_none' rfl) ?_
    obtain ⟨r28, hr28, hp⟩ := bind_some hp
    refine px_rd' rfl (rd_bin' rfl rfl eg_flt (ru_fmul hr28)) rfl rfl (wt_none' rfl) ?_
    refine px_rd' rfl (rd_move' rfl) rfl rfl (wt_none' rfl) ?_
    refine px_rd' rfl (rd_move' rfl) rfl rfl (wt_none' rfl) ?_
    refine px_rd' rfl (rd_load_agg' (i := 1) (o := 0) (nn := 2) rfl ⟨rfl, rfl, rfl, rfl⟩ rfl agg69 (l' := [(Vl (.float .f64 a4_0)), (Vl (.float .f64 a4_1))]) rfl) rfl rfl (wt_none' rfl) ?_
    obtain ⟨u1, hu1, hp⟩ := bind_some hp
    refine tx_slot' 30 (y := (Vl (.float .f64 r22))) rfl (imp_num (num_some hu1).2) ?_
    obtain ⟨r31, hr31, hp⟩ := bind_some hp
    refine px_ox' rfl (ox_calln' (ent_fn' Try.func13 isn13 rfl rfl) (math_Sqrt_sim _ hr31 : Go.Sx.Fn Try.prog 13 [(Vl (.float .f64 r22))] [] (fun x : Unit => (Fl r31)) (fun x => [])) (Hn := fun x : Unit => [⟨.pointer (some q10), [(Vl (.float .f64 0)), (Vl (.float .f64 0))], 69, none⟩, ⟨.pointer (some q9), [(Vl (.float .f64 a4_0)), (Vl (.float .f64 a4_1))], 69, none⟩]) (fun _ => rfl) rfl rfl) rfl bs_nil (wt_none' rfl) fun ⟨⟩ => ?_
    obtain ⟨u2, hu2, hp⟩ := bind_some hp
    refine tx_slot' 29 (y := (Vl (.float .f64 r22))) rfl (imp_num (num_some hu2).2) ?_
    obtain ⟨u3, hu3, hp⟩ := bind_some hp
    refine tx_slot' 31 (y := (Vl (.float .f64 r31))) rfl (imp_num (num_some hu3).2) ?_
    obtain ⟨r32, hr32, hp⟩ := bind_some hp
    refine px_rd' rfl (rd_bin' rfl rfl eg_flt (ru_fmul hr32)) rfl rfl (wt_none' rfl) ?_
    obtain ⟨r33, hr33, hp⟩ := bind_some hp
    refine px_rd' rfl (rd_bin' rfl rfl eg_flt (ru_fdiv hr33)) rfl rfl (wt_none' rfl) ?_
    obtain ⟨r35, hr35, hp⟩ := bind_some hp
    refine px_ox' rfl (ox_calln' (ent_fn' Try.func57 isn57 rfl rfl) (r2_Scale_sim _ _ _ hr35 : Go.Sx.Fn Try.prog 57 [(Vl (.float .f64 r33)), (Ag [(Vl (.float .f64 a4_0)), (Vl (.float .f64 a4_1))])] [] (fun x : Unit => (Ag [(Fl r35.1), (Fl r35.2)])) (fun x => [])) (Hn := fun x : Unit => [⟨.pointer (some q10), [(Vl (.float .f64 0)), (Vl (.float .f64 0))], 69, none⟩, ⟨.pointer (some q9), [(Vl (.float .f64 a4_0)), (Vl (.float .f64 a4_1))], 69, none⟩]) (fun _ => rfl) rfl rfl) rfl bs_nil (wt_none' rfl) fun ⟨⟩ => ?_
    refine px_oxv' rfl (oxv_store (i := 0) (o := 0) rfl rfl (lv_ag _) ⟨rfl, rfl, rfl, rfl⟩ rfl info69 rfl (H' := [⟨.pointer (some q10), [(Fl r35.1), (Fl r35.2)], 69, none⟩, ⟨.pointer (some q9), [(Vl (.float .f64 a4_0)), (Vl (.float .f64 a4_1))], 69, none⟩]) rfl) rfl rfl bo_nil (wt_none' rfl) fun _ => ?_
    refine px_nil' ?_
    show TX E K6 _
    refine tx_k' hK6 ?_
    refine cx_retc' ?_
    replace hp := Option.some.inj hp
    subst hp
    refine tx_pick' (L' := [(10, (Vl (.pointer (some q10))))]) (H' := [⟨.pointer (some q10), [(Fl r35.1), (Fl r35.2)], 69, none⟩]) [0] (sub_cons rfl sub_nil) (by decide) (pick_cons rfl pick_nil) ?_
    exact tx_ret1' Try.results37 rfl () (rv_cell_agg' (i := 0) (o := 0) (nn := 2) rfl ⟨rfl, rfl, rfl, rfl⟩ rfl agg69 rfl) (List.nil_sublist _)

def impl_plainP2 (k : Nat) (a0_0 : Nat) (a0_1 : Nat) : Option (Nat × Nat) :=
  some (a0_0, a0_1)

theorem impl_plainP2_sim {k : Nat}  (a0_0 : Nat) (a0_1 : Nat) {out : Nat × Nat} (hp : impl_plainP2 k a0_0 a0_1 = some out) : Go.Sx.Fn Try.prog 36 [(Ag [(Vl (.float .f64 a0_0)), (Vl (.float .f64 a0_1))])] [] (fun w : Unit => (Ag [(Vl (.float .f64 out.1)), (Vl (.float .f64 out.2))])) (fun w => []) := by
  unfold impl_plainP2 at hp
  refine fn_of Try.func36 rfl Try.ntmps36 rfl fun E hM => ?_
  refine cx_seq' fun K1 hK1 => ?_
  refine cx_region' ?_
  refine sx_ox' (ox_box' rfl (lv_ag _) rfl rfl) (wt_none' rfl) fun q1 => ?_
  refine sx_ox' (ox_alloc' info32 rfl rfl rfl rfl (l := [(Vl (.float .f64 0)), (Vl (.float .f64 0))]) rfl) (wt_none' rfl) fun q2 => ?_
  refine sx_nil' ?_
  show TX E K1 _
  refine tx_k' hK1 ?_
  refine cx_seq' fun K2 hK2 => ?_
  refine cx_region' ?_
  refine sx_rd' (rd_field0' rfl Try.underlying69 rfl info22 rfl) rfl rfl (wt_none' rfl) ?_
  refine sx_rd' (rd_load' (i := 1) (o := 0) rfl ⟨rfl, rfl, rfl, rfl⟩ rfl flat22) rfl rfl (wt_none' rfl) ?_
  refine sx_rd' (rd_field' (off := 1) rfl Try.underlying69 rfl info22 rfl) rfl rfl (wt_none' rfl) ?_
  refine sx_rd' (rd_load' (i := 1) (o := 1) rfl ⟨rfl, rfl, rfl, rfl⟩ rfl flat22) rfl rfl (wt_none' rfl) ?_
  refine sx_rd' (rd_build' (pls := [(0, 1), (1, 1)]) (qs := [(0, [(Vl (.float .f64 a0_0))]), (1, [(Vl (.float .f64 a0_1))])]) (r := [(Vl (.float .f64 a0_0)), (Vl (.float .f64 a0_1))]) ⟨rfl, ⟨_, rfl, (lv_vl rfl rfl)⟩, ⟨rfl, ⟨_, rfl, (lv_vl rfl rfl)⟩, trivial⟩⟩ Try.underlying32 has32 places32 info32 rfl rfl rfl) rfl rfl (wt_none' rfl) ?_
  refine sx_ox' (ox_store' (i := 0) (o := 0) rfl rfl (lv_ag _) ⟨rfl, rfl, rfl, rfl⟩ rfl info32 rfl (H' := [⟨.pointer (some q2), [(Vl (.float .f64 a0_0)), (Vl (.float .f64 a0_1))], 32, none⟩, ⟨.pointer (some q1), [(Vl (.float .f64 a0_0)), (Vl (.float .f64 a0_1))], 69, none⟩]) rfl) (wt_none' rfl) fun _ => ?_
  refine sx_nil' ?_
  show TX E K2 _
  refine tx_k' hK2 ?_
  refine cx_retc' ?_
  replace hp := Option.some.inj hp
  subst hp
  refine tx_pick' (L' := [(2, (Vl (.pointer (some q2))))]) (H' := [⟨.pointer (some q2), [(Vl (.float .f64 a0_0)), (Vl (.float .f64 a0_1))], 32, none⟩]) [0] (sub_cons rfl sub_nil) (by decide) (pick_cons rfl pick_nil) ?_
  exact tx_ret1' Try.results36 rfl () (rv_cell_agg' (i := 0) (o := 0) (nn := 2) rfl ⟨rfl, rfl, rfl, rfl⟩ rfl agg32 rfl) (List.nil_sublist _)

def impl_Gravity2 (k : Nat) (a0 : Nat) (a1 : Nat) (a2_0 : Nat) (a2_1 : Nat) : Option (Nat × Nat) :=
  (impl_vec2 k a2_0 a2_1) >>= fun r10 =>
  (barneshut_Gravity2 k a0 a1 r10.1 r10.2) >>= fun r11 =>
  (num r11.1) >>= fun u1 =>
  (num r11.2) >>= fun u2 =>
  (impl_plainP2 k r11.1 r11.2) >>= fun r12 =>
  some (r12.1, r12.2)

theorem impl_Gravity2_sim {k : Nat}  (a0 : Nat) (a1 : Nat) (a2_0 : Nat) (a2_1 : Nat) {out : Nat × Nat} (hp : impl_Gravity2 k a0 a1 a2_0 a2_1 = some out) : Go.Sx.Fn Try.prog 11 [(Vl (.float .f64 a0)), (Vl (.float .f64 a1)), (Ag [(Vl (.float .f64 a2_0)), (Vl (.float .f64 a2_1))])] [] (fun w : Unit => (Ag [(Vl (.float .f64 out.1)), (Vl (.float .f64 out.2))])) (fun w => []) := by
  unfold impl_Gravity2 at hp
  refine fn_of Try.func11 rfl Try.ntmps11 rfl fun E hM => ?_
  refine cx_seq' fun K1 hK1 => ?_
  refine cx_region' ?_
  refine sx_ox' (ox_box' rfl (lv_ag _) rfl rfl) (wt_none' rfl) fun q5 => ?_
  refine sx_ox' (ox_alloc' info32 rfl rfl rfl rfl (l := [(Vl (.float .f64 0)), (Vl (.float .f64 0))]) rfl) (wt_none' rfl) fun q6 => ?_
  refine sx_nil' ?_
  show TX E K1 _
  refine tx_k' hK1 ?_
  refine cx_seq' fun K2 hK2 => ?_
  refine cx_region' ?_
  refine sx_rd' (rd_move' rfl) rfl rfl (wt_none' rfl) ?_
  refine sx_rd' (rd_move' rfl) rfl rfl (wt_none' rfl) ?_
  refine sx_rd' (rd_load_agg' (i := 1) (o := 0) (nn := 2) rfl ⟨rfl, rfl, rfl, rfl⟩ rfl agg32 (l' := [(Vl (.float .f64 a2_0)), (Vl (.float .f64 a2_1))]) rfl) rfl rfl (wt_none' rfl) ?_
  obtain ⟨r10, hr10, hp⟩ := bind_some hp
  refine sx_ox' (ox_calln' (ent_fn' Try.func38 isn38 rfl rfl) (impl_vec2_sim _ _ hr10 : Go.Sx.Fn Try.prog 38 [(Ag [(Vl (.float .f64 a2_0)), (Vl (.float .f64 a2_1))])] [] (fun x : Unit => (Ag [(Vl (.float .f64 r10.1)), (Vl (.float .f64 r10.2))])) (fun x => [])) (Hn := fun x : Unit => [⟨.pointer (some q6), [(Vl (.float .f64 0)), (Vl (.float .f64 0))], 32, none⟩, ⟨.pointer (some q5), [(Vl (.float .f64 a2_0)), (Vl (.float .f64 a2_1))], 32, none⟩]) (fun _ => rfl) rfl rfl) (wt_none' rfl) fun ⟨⟩ => ?_
  obtain ⟨r11, hr11, hp⟩ := bind_some hp
  refine sx_ox' (ox_calln' (ent_fn' Try.func37 isn37 rfl rfl) (barneshut_Gravity2_sim _ _ _ _ hr11 : Go.Sx.Fn Try.prog 37 [(Vl .nilIface), (Vl .nilIface), (Vl (.float .f64 a0)), (Vl (.float .f64 a1)), (Ag [(Vl (.float .f64 r10.1)), (Vl (.float .f64 r10.2))])] [] (fun x : Unit => (Ag [(Fl r11.1), (Fl r11.2)])) (fun x => [])) (Hn := fun x : Unit => [⟨.pointer (some q6), [(Vl (.float .f64 0)), (Vl (.float .f64 0))], 32, none⟩, ⟨.pointer (some q5), [(Vl (.float .f64 a2_0)), (Vl (.float .f64 a2_1))], 32, none⟩]) (fun _ => rfl) rfl rfl) (wt_none' rfl) fun ⟨⟩ => ?_
  obtain ⟨u1, hu1, hp⟩ := bind_some hp
  obtain ⟨u2, hu2, hp⟩ := bind_some hp
  refine tx_slot' 11 (y := (Ag [(Vl (.float .f64 r11.1)), (Vl (.float .f64 r11.2))])) rfl (imp_ag ⟨(imp_num (num_some hu1).2), (imp_num (num_some hu2).2), trivial⟩) ?_
  obtain ⟨r12, hr12, hp⟩ := bind_some hp
  refine sx_ox' (ox_calln' (ent_fn' Try.func36 isn36 rfl rfl) (impl_plainP2_sim _ _ hr12 : Go.Sx.Fn Try.prog 36 [(Ag [(Vl (.float .f64 r11.1)), (Vl (.float .f64 r11.2))])] [] (fun x : Unit => (Ag [(Vl (.float .f64 r12.1)), (Vl (.float .f64 r12.2))])) (fun x => [])) (Hn := fun x : Unit => [⟨.pointer (some q6), [(Vl (.float .f64 0)), (Vl (.float .f64 0))], 32, none⟩, ⟨.pointer (some q5), [(Vl (.float .f64 a2_0)), (Vl (.float .f64 a2_1))], 32, none⟩]) (fun _ => rfl) rfl rfl) (wt_none' rfl) fun ⟨⟩ => ?_
  refine sx_ox' (ox_store' (i := 0) (o := 0) rfl rfl (lv_ag _) ⟨rfl, rfl, rfl, rfl⟩ rfl info32 rfl (H' := [⟨.pointer (some q6), [(Vl (.float .f64 r12.1)), (Vl (.float .f64 r12.2))], 32, none⟩, ⟨.pointer (some q5), [(Vl (.float .f64 a2_0)), (Vl (.float .f64 a2_1))], 32, none⟩]) rfl) (wt_none' rfl) fun _ => ?_
  refine sx_nil' ?_
  show TX E K2 _
  refine tx_k' hK2 ?_
  refine cx_retc' ?_
  replace hp := Option.some.inj hp
  subst hp
  refine tx_pick' (L' := [(6, (Vl (.pointer (some q6))))]) (H' := [⟨.pointer (some q6), [(Vl (.float .f64 r12.1)), (Vl (.float .f64 r12.2))], 32, none⟩]) [0] (sub_cons rfl sub_nil) (by decide) (pick_cons rfl pick_nil) ?_
  exact tx_ret1' Try.results11 rfl () (rv_cell_agg' (i := 0) (o := 0) (nn := 2) rfl ⟨rfl, rfl, rfl, rfl⟩ rfl agg32 rfl) (List.nil_sublist _)

def spec_SquareN_l1s (a0 : List Nat) (a1 : List Nat) (k : Nat) (rec1 : (Nat × Int) → Option (Nat)) (x1 : Nat) (x2 : Int) : Option (Nat) :=
  br (decide (x2 < (a0.length : Int)))
    ((idx a0 x2) >>= fun r13 =>
    (idx a1 x2) >>= fun r19 =>
    (fsub r13 r19) >>= fun r21 =>
    (idx a1 x2) >>= fun r25 =>
    (fsub r13 r25) >>= fun r27 =>
    (fmul r21 r27) >>= fun r28 =>
    (fadd x1 r28) >>= fun r29 =>
    rec1 (r29, (iadd .i64 x2 1)))
    (some x1)
def spec_SquareN_l1 (a0 : List Nat) (a1 : List Nat) : Nat → (Nat × Int) → Option (Nat)
  | 0, _ => none
  | k + 1, v => spec_SquareN_l1s a0 a1 k (spec_SquareN_l1 a0 a1 k) v.1 v.2
def spec_SquareN (k : Nat) (a0 : List Nat) (a1 : List Nat) : Option (Nat) :=
  (spec_SquareN_l1 a0 a1 k (0, 0)) >>= fun v2 =>
  some v2

theorem spec_SquareN_sim {k : Nat}  (a0 : List Nat) (a1 : List Nat) {out : Nat} (hp : spec_SquareN k a0 a1 = some out) : Go.Sx.Fn Try.prog 12 [(Sl Kf a0), (Sl Kf a1)] [] (fun w : Unit => (Vl (.float .f64 out))) (fun w => []) := by
  unfold spec_SquareN at hp
  refine fn_of Try.func12 rfl Try.ntmps12 rfl fun E hM => ?_
  refine cx_seq' fun K1 hK1 => ?_
  refine cx_region' ?_
  refine sx_rd' (rd_assign' rfl) rfl rfl (wt_none' rfl) ?_
  refine sx_nil' ?_
  show TX E K1 _
  refine tx_k' hK1 ?_
  refine cx_seq' fun K2 hK2 => ?_
  refine cx_region' ?_
  refine sx_rd' (rd_assign' rfl) rfl rfl (wt_none' rfl) ?_
  refine sx_nil' ?_
  show TX E K2 _
  refine tx_k' hK2 ?_
  refine cx_seq' fun K3 hK3 => ?_
  refine cx_seq' fun K4 hK4 => ?_
  refine cx_region' ?_
  refine sx_rd' (rd_move' rfl) rfl rfl (wt_none' rfl) ?_
  refine sx_rd' (rd_len' rfl Try.underlying29) rfl rfl (wt_none' rfl) ?_
  refine sx_rd' (rd_move' rfl) rfl rfl (wt_none' rfl) ?_
  refine sx_nil' ?_
  show TX E K4 _
  refine tx_k' hK4 ?_
  refine cx_block' ?_
  obtain ⟨v2, hy1, hp⟩ := bind_some hp
  refine cx_loopg' (F := spec_SquareN_l1 a0 a1) (G := fun k R v => spec_SquareN_l1s a0 a1 k R v.1 v.2) (x := (0, 0)) (gh := ()) (fun (v1 : Nat × Int) (w1 : Unit) => (⟨32, [], [(1, (Sl Kf a1)), (5, (Vl (.float .f64 v1.1))), (8, (Sl Kf a0)), (9, (Vl (.int .i64 (a0.length : Int)))), (10, (Vl (.int .i64 v1.2)))], []⟩ : St)) (fun (v2 : Nat) => Zg E (Exit.exit 0) (fun (w2 : Unit) => (⟨32, [], [(5, (Vl (.float .f64 v2)))], []⟩ : St))) (fun _ => rfl) (fun _ _ => rfl) ?_ hy1 (tx_to' rfl [] (sub_cons rfl (sub_cons rfl (sub_cons rfl (sub_cons rfl (sub_cons rfl sub_nil))))) (by decide) pick_nil) ?_
  · clear hp hy1
    clear v2
    intro k rec1 KY1 ih1
    rintro ⟨x1, x2⟩ ⟨⟩ y1 hp
    replace hp : spec_SquareN_l1s a0 a1 k rec1 x1 x2 = some y1 := hp
    unfold spec_SquareN_l1s at hp
    refine cx_seq' fun K9 hK9 => ?_
    refine cx_region' ?_
    refine sx_rd' (rd_bin' rfl rfl eg_int ru_lss) rfl rfl (wt_none' rfl) ?_
    refine sx_nil' ?_
    show TX E K9 _
    refine tx_k' hK9 ?_
    refine cx_seq' fun K10 hK10 => ?_
    refine cx_cond' rfl (fun h3 => ?_) (fun h3 => ?_)
    · replace hp := (br_t h3).symm.trans hp
      refine cx_skip' ?_
      show TX E K10 _
      refine tx_k' hK10 ?_
      refine cx_seq' fun K11 hK11 => ?_
      refine cx_block' ?_
      refine cx_seq' fun K12 hK12 => ?_
      refine cx_region' ?_
      refine sx_rd' (rd_move' rfl) rfl rfl (wt_none' rfl) ?_
      obtain ⟨r13, hr13, hp⟩ := bind_some hp
      refine sx_rd' (rd_at' (K := Kf) rfl rfl hr13 Try.underlying29 info22) rfl rfl (wt_none' rfl) ?_
      refine sx_rd' (rd_load_pt' rfl rfl flat22) rfl rfl (wt_none' rfl) ?_
      refine sx_rd' (rd_assign' rfl) rfl rfl (wt_none' rfl) ?_
      refine sx_rd' (rd_assign' rfl) rfl rfl (wt_none' rfl) ?_
      refine sx_nil' ?_
      show TX E K12 _
      refine tx_k' hK12 ?_
      refine cx_draw' mixed (by kernel_rfl) ?_
      refine qx_rd' (rd_move' rfl) rfl rfl (wt_none' rfl) ?_
      refine qx_rd' (rd_move' rfl) rfl rfl (wt_none' rfl) ?_
      refine qx_rd' (rd_move' rfl) rfl rfl (wt_none' rfl) ?_
      refine qx_rd' (rd_move' rfl) rfl rfl (wt_none' rfl) ?_
      obtain ⟨r19, hr19, hp⟩ := bind_some hp
      refine qx_rd' (rd_at' (K := Kf) rfl rfl hr19 Try.underlying29 info22) rfl rfl (wt_none' rfl) ?_
      refine qx_rd' (rd_load_pt' rfl rfl flat22) rfl rfl (wt_none' rfl) ?_
      obtain ⟨r21, hr21, hp⟩ := bind_some hp
      refine qx_rd' (rd_bin' rfl rfl eg_flt (ru_fsub hr21)) rfl rfl (wt_none' rfl) ?_
      refine qx_rd' (rd_move' rfl) rfl rfl (wt_none' rfl) ?_
      refine qx_rd' (rd_move' rfl) rfl rfl (wt_none' rfl) ?_
      refine qx_rd' (rd_move' rfl) rfl rfl (wt_none' rfl) ?_
      obtain ⟨r25, hr25, hp⟩ := bind_some hp
      refine qx_rd' (rd_at' (K := Kf) rfl rfl hr25 Try.underlying29 info22) rfl rfl (wt_none' rfl) ?_
      refine qx_rd' (rd_load_pt' rfl rfl flat22) rfl rfl (wt_none' rfl) ?_
      obtain ⟨r27, hr27, hp⟩ := bind_some hp
      refine qx_rd' (rd_bin' rfl rfl eg_flt (ru_fsub hr27)) rfl rfl (wt_none' rfl) ?_
      obtain ⟨r28, hr28, hp⟩ := bind_some hp
      refine qx_rd' (rd_bin' rfl rfl eg_flt (ru_fmul hr28)) rfl rfl (wt_none' rfl) ?_
      obtain ⟨r29, hr29, hp⟩ := bind_some hp
      refine qx_rd' (rd_bin' rfl rfl eg_flt (ru_fadd hr29)) rfl rfl (wt_none' rfl) ?_
      refine qx_rd' (rd_assign' rfl) rfl rfl (wt_none' rfl) ?_
      refine qx_nil' ?_
      show TX E K11 _
      refine tx_k' hK11 ?_
      refine cx_region' ?_
      refine sx_rd' (rd_bin' rfl rfl eg_int ru_add) rfl rfl (wt_none' rfl) ?_
      refine sx_rd' (rd_move' rfl) rfl rfl (wt_none' rfl) ?_
      refine sx_nil' ?_
      show TX E (KY1 _) _
      exact tx_pick' [] (sub_cons rfl (sub_cons rfl (sub_cons rfl (sub_cons rfl (sub_cons rfl sub_nil))))) (by decide) pick_nil (ih1 (r29, (iadd .i64 x2 1)) () _ hp)
    · replace hp := (br_f h3).symm.trans hp
      refine cx_exit' ?_
      replace hp := Option.some.inj hp
      subst hp
      show TX E (Zg E (Exit.exit 0) _ (Exit.exit 0)) _
      exact tx_zend' () rfl [] (sub_cons rfl sub_nil) (by decide) pick_nil
  · refine zg_out fun w2 => ?_
    show TX E K3 _
    refine tx_k' hK3 ?_
    refine cx_seq' fun K13 hK13 => ?_
    refine cx_region' ?_
    refine sx_rd' (rd_move' rfl) rfl rfl (wt_none' rfl) ?_
    refine sx_rd' (rd_assign' rfl) rfl rfl (wt_none' rfl) ?_
    refine sx_nil' ?_
    show TX E K13 _
    refine tx_k' hK13 ?_
    refine cx_retc' ?_
    replace hp := Option.some.inj hp
    subst hp
    refine tx_pick' (L' := [(4, (Vl (.float .f64 v2)))]) (H' := []) [] (sub_cons rfl sub_nil) (by decide) pick_nil ?_
    exact tx_ret1' Try.results12 rfl () (rv_tmp' rfl) (List.Sublist.refl _)

def math_Abs (k : Nat) (a0 : Nat) : Option (Nat) :=
  some (ffrom (iandn .u64 (fbits a0) 9223372036854775808))

theorem math_Abs_sim {k : Nat}  (a0 : Nat) {out : Nat} (hp : math_Abs k a0 = some out) : Go.Sx.Fn Try.prog 14 [(Vl (.float .f64 a0))] [] (fun w : Unit => (Vl (.float .f64 out))) (fun w => []) := by
  unfold math_Abs at hp
  refine fn_of Try.func14 rfl Try.ntmps14 rfl fun E hM => ?_
  refine cx_seq' fun K1 hK1 => ?_
  refine cx_region' ?_
  refine sx_rd' (rd_assign' rfl) rfl rfl (wt_none' rfl) ?_
  refine sx_nil' ?_
  show TX E K1 _
  refine tx_k' hK1 ?_
  refine cx_seq' fun K2 hK2 => ?_
  refine cx_region' ?_
  refine sx_rd' (rd_move' rfl) rfl rfl (wt_none' rfl) ?_
  refine sx_rd' (rd_ext' (us := [.float .f64 a0]) rfl (ext41 ex_bits)) rfl rfl (wt_none' rfl) ?_
  refine sx_rd' (rd_bin' rfl rfl eg_int ru_andn) rfl rfl (wt_none' rfl) ?_
  refine sx_rd' (rd_ext' (us := [.int .u64 (iandn .u64 (fbits a0) 9223372036854775808)]) rfl (ext40 ex_from)) rfl rfl (wt_none' rfl) ?_
  refine sx_rd' (rd_assign' rfl) rfl rfl (wt_none' rfl) ?_
  refine sx_nil' ?_
  show TX E K2 _
  refine tx_k' hK2 ?_
  refine cx_retc' ?_
  replace hp := Option.some.inj hp
  subst hp
  refine tx_pick' (L' := [(2, (Vl (.float .f64 (ffrom (iandn .u64 (fbits a0) 9223372036854775808)))))]) (H' := []) [] (sub_cons rfl sub_nil) (by decide) pick_nil ?_
  exact tx_ret1' Try.results14 rfl () (rv_tmp' rfl) (List.Sublist.refl _)

def laws_FnGravity2_j4 (k : Nat) (r48 : (List Nat)) (x5 : Int) (rec1 : Int → Option (Unit ⊕ Unit)) (x4 : Nat) : Option (Unit ⊕ Unit) :=
  (idx r48 x5) >>= fun r73 =>
  (some (gsub r73 x4)) >>= fun r76 =>
  (num r76) >>= fun u3 =>
  (math_Abs k r76) >>= fun r77 =>
  (num x4) >>= fun u4 =>
  (math_Abs k x4) >>= fun r79 =>
  (some (gmul r79 4472074429978902528)) >>= fun r80 =>
  br (!(fle r77 r80))
    (some (.inl ()))
    (rec1 (iadd .i64 x5 1))
def laws_FnGravity2_l1s (r40 : (List Nat)) (r51 : Nat) (a0 : Nat) (a1 : Nat) (r48 : (List Nat)) (k : Nat) (rec1 : Int → Option (Unit ⊕ Unit)) (x5 : Int) : Option (Unit ⊕ Unit) :=
  br (decide (x5 < (r40.length : Int)))
    ((idx r40 x5) >>= fun r57 =>
    br (fgt r51 0)
      ((some (gmul a0 a1)) >>= fun r63 =>
      (some (gmul r63 r57)) >>= fun r65 =>
      (math_Sqrt k r51) >>= fun r68 =>
      (some (gmul r51 r68)) >>= fun r69 =>
      (some (gdiv r65 r69)) >>= fun r70 =>
      laws_FnGravity2_j4 k r48 x5 rec1 r70)
      (laws_FnGravity2_j4 k r48 x5 rec1 0))
    (some (.inr ()))
def laws_FnGravity2_l1 (r40 : (List Nat)) (r51 : Nat) (a0 : Nat) (a1 : Nat) (r48 : (List Nat)) : Nat → Int → Option (Unit ⊕ Unit)
  | 0, _ => none
  | k + 1, v => laws_FnGravity2_l1s r40 r51 a0 a1 r48 k (laws_FnGravity2_l1 r40 r51 a0 a1 r48 k) v
def laws_FnGravity2_j2 (k : Nat) (r21 : (List (Nat × Nat × Nat)) × Bool) (a0 : Nat) (a1 : Nat) (x2 : Bool) : Option (Bool) :=
  br x2
    (some true)
    ((idx r21.1 0) >>= fun r37 =>
    (laws_off2 k r37.1 r37.2.1) >>= fun r40 =>
    (idx r21.1 0) >>= fun r44 =>
    (impl_Gravity2 k a0 a1 r44.1 r44.2.1) >>= fun r47 =>
    (laws_off2 k r47.1 r47.2) >>= fun r48 =>
    (mk 8 0 2 2) >>= fun r50 =>
    (spec_SquareN k r40 r50) >>= fun r51 =>
    (laws_FnGravity2_l1 r40 r51 a0 a1 r48 k 0) >>= fun y1 => match y1 with
      | (.inl v6) =>
        (some false)
      | (.inr v7) =>
        (some true))
def laws_FnGravity2_j1 (k : Nat) (r21 : (List (Nat × Nat × Nat)) × Bool) (a0 : Nat) (a1 : Nat) (x1 : Bool) : Option (Bool) :=
  br x1
    (laws_FnGravity2_j2 k r21 a0 a1 true)
    ((laws_heavy k a1) >>= fun r33 =>
    laws_FnGravity2_j2 k r21 a0 a1 (!r33))
def laws_FnGravity2 (k : Nat) (a0 : Nat) (a1 : Nat) (a2 : List Int) : Option (Bool) :=
  br (decide (2147483647 < (a2.length : Int)))
    (some true)
    ((laws_ones2 k ([a2])) >>= fun r21 =>
    br (!r21.2)
      (laws_FnGravity2_j1 k r21 a0 a1 true)
      ((laws_heavy k a0) >>= fun r28 =>
      laws_FnGravity2_j1 k r21 a0 a1 (!r28)))

theorem laws_FnGravity2_sim {k : Nat}  (a0 : Nat) (a1 : Nat) (a2 : List Int) {out : Bool} (hp : laws_FnGravity2 k a0 a1 a2 = some out) : Go.Sx.Fn Try.prog 3 [(Vl (.float .f64 a0)), (Vl (.float .f64 a1)), (Sl (Ki .i64) a2)] [] (fun w : Unit => (Vl (.bool out))) (fun w => []) := by
  unfold laws_FnGravity2 at hp
  refine fn_of Try.func3 rfl Try.ntmps3 rfl fun E hM => ?_
  refine cx_seq' fun K1 hK1 => ?_
  refine cx_region' ?_
  refine sx_rd' (rd_assign' rfl) rfl rfl (wt_none' rfl) ?_
  refine sx_nil' ?_
  show TX E K1 _
  refine tx_k' hK1 ?_
  refine cx_seq' fun K2 hK2 => ?_
  refine cx_seq' fun K3 hK3 => ?_
  refine cx_region' ?_
  refine sx_rd' (rd_move' rfl) rfl rfl (wt_none' rfl) ?_
  refine sx_rd' (rd_len' rfl Try.underlying23) rfl rfl (wt_none' rfl) ?_
  refine sx_rd' (rd_bin' rfl rfl eg_int ru_gtr) rfl rfl (wt_none' rfl) ?_
  refine sx_nil' ?_
  show TX E K3 _
  refine tx_k' hK3 ?_
  refine cx_cond' rfl (fun h1 => ?_) (fun h1 => ?_)
  · replace hp := (br_t h1).symm.trans hp
    refine cx_seq' fun K4 hK4 => ?_
    refine cx_region' ?_
    refine sx_rd' (rd_assign' rfl) rfl rfl (wt_none' rfl) ?_
    refine sx_nil' ?_
    show TX E K4 _
    refine tx_k' hK4 ?_
    refine cx_retc' ?_
    replace hp := Option.some.inj hp
    subst hp
    refine tx_pick' (L' := [(6, (Vl (.bool true)))]) (H' := []) [] (sub_cons rfl sub_nil) (by decide) pick_nil ?_
    exact tx_ret1' Try.results3 rfl () (rv_tmp' rfl) (List.Sublist.refl _)
  · replace hp := (br_f h1).symm.trans hp
    refine cx_skip' ?_
    show TX E K2 _
    refine tx_k' hK2 ?_
    refine cx_seq' fun K5 hK5 => ?_
    refine cx_region' ?_
    refine sx_rd' (rd_move' rfl) rfl rfl (wt_none' rfl) ?_
    refine sx_ox' (ox_rowlit' (K := (Kl (Ki .i64))) (xs := [a2]) (qs := [(0, [(Sl (Ki .i64) a2)])]) ⟨rfl, ⟨_, rfl, (lv_sl _ _)⟩, trivial⟩ Try.underlying27 info23 rfl rfl rfl rfl rfl (by kernel_rfl) rfl rfl rfl) (wt_none' rfl) fun g20 => ?_
    refine tx_fz' (frz_row 0 [(20, (Vl (Vs g20)), (Sl (Kl (Ki .i64)) ([a2])))] (K := (Kl (Ki .i64))) (xs := [a2]) (by decide) rfl ⟨⟨rfl, frz_it⟩, trivial⟩ (H' := []) frzH_refl) ?_
    obtain ⟨r21, hr21, hp⟩ := bind_some hp
    refine sx_ox' (ox_calln' (ent_fn' Try.func8 isn8 rfl rfl) (laws_ones2_sim _ hr21 : Go.Sx.Fn Try.prog 8 [(Sl (Kl (Ki .i64)) ([a2]))] [] (fun x : Unit => (Tu [(Sl KT34 r21.1), (Vl (.bool r21.2))])) (fun x => [])) (Hn := fun x : Unit => []) (fun _ => rfl) rfl rfl) (wt_none' rfl) fun ⟨⟩ => ?_
    refine sx_rd' (rd_move' rfl) rfl rfl (wt_none' rfl) ?_
    refine sx_rd' (rd_extract' rfl rfl) rfl rfl (wt_none' rfl) ?_
    refine sx_rd' (rd_extract' rfl rfl) rfl rfl (wt_none' rfl) ?_
    refine sx_rd' (rd_assign' rfl) rfl rfl (wt_none' rfl) ?_
    refine sx_rd' (rd_assign' rfl) rfl rfl (wt_none' rfl) ?_
    refine sx_nil' ?_
    show TX E K5 _
    refine tx_k' hK5 ?_
    refine cx_seq' fun K6 hK6 => ?_
    refine cx_seq' fun K7 hK7 => ?_
    refine cx_region' ?_
    refine sx_rd' (rd_move' rfl) rfl rfl (wt_none' rfl) ?_
    refine sx_rd' (rd_un' rfl ru_not) rfl rfl (wt_none' rfl) ?_
    refine sx_rd' (rd_move' rfl) rfl rfl (wt_none' rfl) ?_
    refine sx_cutn' 4 (fun (v1 : Bool) => (⟨84, [], [(0, (Vl (.float .f64 a0))), (1, (Vl (.float .f64 a1))), (7, (Sl KT34 r21.1)), (30, (Vl (.bool v1)))], []⟩ : St)) (fun (v1 : Bool) => laws_FnGravity2_j1 k r21 a0 a1 v1 = some out) ?_ ?_
    · rintro x1 hp
      replace hp : laws_FnGravity2_j1 k r21 a0 a1 x1 = some out := hp
      unfold laws_FnGravity2_j1 at hp
      refine sx_rd' (rd_move' rfl) rfl rfl (wt_none' rfl) ?_
      refine sx_cutn' 4 (fun (v2 : Bool) => (⟨84, [], [(0, (Vl (.float .f64 a0))), (1, (Vl (.float .f64 a1))), (7, (Sl KT34 r21.1)), (35, (Vl (.bool v2)))], []⟩ : St)) (fun (v2 : Bool) => laws_FnGravity2_j2 k r21 a0 a1 v2 = some out) ?_ ?_
      · rintro x2 hp
        replace hp : laws_FnGravity2_j2 k r21 a0 a1 x2 = some out := hp
        unfold laws_FnGravity2_j2 at hp
        refine sx_nil' ?_
        show TX E K7 _
        refine tx_k' hK7 ?_
        refine cx_cond' rfl (fun h4 => ?_) (fun h4 => ?_)
        · replace hp := (br_t h4).symm.trans hp
          refine cx_seq' fun K10 hK10 => ?_
          refine cx_region' ?_
          refine sx_rd' (rd_assign' rfl) rfl rfl (wt_none' rfl) ?_
          refine sx_nil' ?_
          show TX E K10 _
          refine tx_k' hK10 ?_
          refine cx_retc' ?_
          replace hp := Option.some.inj hp
          subst hp
          refine tx_pick' (L' := [(6, (Vl (.bool true)))]) (H' := []) [] (sub_cons rfl sub_nil) (by decide) pick_nil ?_
          exact tx_ret1' Try.results3 rfl () (rv_tmp' rfl) (List.Sublist.refl _)
        · replace hp := (br_f h4).symm.trans hp
          refine cx_skip' ?_
          show TX E K6 _
          refine tx_k' hK6 ?_
          refine cx_seq' fun K11 hK11 => ?_
          refine cx_region' ?_
          refine sx_rd' (rd_move' rfl) rfl rfl (wt_none' rfl) ?_
          obtain ⟨r37, hr37, hp⟩ := bind_some hp
          refine sx_rd' (rd_at' (K := KT34) rfl rfl hr37 Try.underlying24 info34) rfl rfl (wt_none' rfl) ?_
          refine sx_rd' (rd_field_pt' (off := 0) rfl Try.underlying34 rfl info32 rfl (l' := [(Vl (.float .f64 r37.1)), (Vl (.float .f64 r37.2.1)), (Vl (.float .f64 r37.2.2))]) rfl) rfl rfl (wt_none' rfl) ?_
          refine sx_rd' (rd_load_pt_agg' (nn := 2) rfl rfl agg32 (l' := [(Vl (.float .f64 r37.1)), (Vl (.float .f64 r37.2.1))]) rfl) rfl rfl (wt_none' rfl) ?_
          obtain ⟨r40, hr40, hp⟩ := bind_some hp
          refine sx_ox' (ox_calln' (ent_fn' Try.func10 isn10 rfl rfl) (laws_off2_sim _ _ hr40 : Go.Sx.Fn Try.prog 10 [(Ag [(Vl (.float .f64 r37.1)), (Vl (.float .f64 r37.2.1))])] [] (fun x : Unit => (Sl Kf r40)) (fun x => [])) (Hn := fun x : Unit => []) (fun _ => rfl) rfl rfl) (wt_none' rfl) fun ⟨⟩ => ?_
          refine sx_rd' (rd_assign' rfl) rfl rfl (wt_none' rfl) ?_
          refine sx_nil' ?_
          show TX E K11 _
          refine tx_k' hK11 ?_
          refine cx_seq' fun K12 hK12 => ?_
          refine cx_region' ?_
          refine sx_rd' (rd_move' rfl) rfl rfl (wt_none' rfl) ?_
          refine sx_rd' (rd_move' rfl) rfl rfl (wt_none' rfl) ?_
          refine sx_rd' (rd_move' rfl) rfl rfl (wt_none' rfl) ?_
          obtain ⟨r44, hr44, hp⟩ := bind_some hp
          refine sx_rd' (rd_at' (K := KT34) rfl rfl hr44 Try.underlying24 info34) rfl rfl (wt_none' rfl) ?_
          refine sx_rd' (rd_field_pt' (off := 0) rfl Try.underlying34 rfl info32 rfl (l' := [(Vl (.float .f64 r44.1)), (Vl (.float .f64 r44.2.1)), (Vl (.float .f64 r44.2.2))]) rfl) rfl rfl (wt_none' rfl) ?_
          refine sx_rd' (rd_load_pt_agg' (nn := 2) rfl rfl agg32 (l' := [(Vl (.float .f64 r44.1)), (Vl (.float .f64 r44.2.1))]) rfl) rfl rfl (wt_none' rfl) ?_
          obtain ⟨r47, hr47, hp⟩ := bind_some hp
          refine sx_ox' (ox_calln' (ent_fn' Try.func11 isn11 rfl rfl) (impl_Gravity2_sim _ _ _ _ hr47 : Go.Sx.Fn Try.prog 11 [(Vl (.float .f64 a0)), (Vl (.float .f64 a1)), (Ag [(Vl (.float .f64 r44.1)), (Vl (.float .f64 r44.2.1))])] [] (fun x : Unit => (Ag [(Vl (.float .f64 r47.1)), (Vl (.float .f64 r47.2))])) (fun x => [])) (Hn := fun x : Unit => []) (fun _ => rfl) rfl rfl) (wt_none' rfl) fun ⟨⟩ => ?_
          obtain ⟨r48, hr48, hp⟩ := bind_some hp
          refine sx_ox' (ox_calln' (ent_fn' Try.func10 isn10 rfl rfl) (laws_off2_sim _ _ hr48 : Go.Sx.Fn Try.prog 10 [(Ag [(Vl (.float .f64 r47.1)), (Vl (.float .f64 r47.2))])] [] (fun x : Unit => (Sl Kf r48)) (fun x => [])) (Hn := fun x : Unit => []) (fun _ => rfl) rfl rfl) (wt_none' rfl) fun ⟨⟩ => ?_
          refine sx_rd' (rd_assign' rfl) rfl rfl (wt_none' rfl) ?_
          refine sx_nil' ?_
          show TX E K12 _
          refine tx_k' hK12 ?_
          refine cx_seq' fun K13 hK13 => ?_
          refine cx_region' ?_
          refine sx_rd' (rd_move' rfl) rfl rfl (wt_none' rfl) ?_
          obtain ⟨r50, hr50, hp⟩ := bind_some hp
          refine sx_ox' (ox_make' (K := Kf) rfl rfl hr50 rfl Try.underlying29 info22 rfl rfl rfl rfl rfl) (wt_none' rfl) fun g50 => ?_
          obtain ⟨r51, hr51, hp⟩ := bind_some hp
          refine sx_ox' (ox_brw' (frz_row 0 [(50, (Vl (Vs g50)), (Sl Kf r50))] (K := Kf) (xs := r50) (by decide) rfl ⟨⟨rfl, frz_it⟩, trivial⟩ (H' := []) frzH_refl) (ent_fn' Try.func12 isn12 rfl rfl) (spec_SquareN_sim _ _ hr51 : Go.Sx.Fn Try.prog 12 [(Sl Kf r40), (Sl Kf r50)] [] (fun x : Unit => (Vl (.float .f64 r51))) (fun x => [])) pu_vl rfl rfl) (wt_none' rfl) fun ⟨⟩ => ?_
          refine sx_rd' (rd_assign' rfl) rfl rfl (wt_none' rfl) ?_
          refine sx_nil' ?_
          show TX E K13 _
          refine tx_k' hK13 ?_
          refine cx_seq' fun K14 hK14 => ?_
          refine cx_seq' fun K15 hK15 => ?_
          refine cx_region' ?_
          refine sx_rd' (rd_move' rfl) rfl rfl (wt_none' rfl) ?_
          refine sx_rd' (rd_len' rfl Try.underlying29) rfl rfl (wt_none' rfl) ?_
          refine sx_rd' (rd_move' rfl) rfl rfl (wt_none' rfl) ?_
          refine sx_nil' ?_
          show TX E K15 _
          refine tx_k' hK15 ?_
          refine cx_block' ?_
          obtain ⟨y1, hy1, hp⟩ := bind_some hp
          refine cx_loopg' (F := laws_FnGravity2_l1 r40 r51 a0 a1 r48) (G := fun k R v => laws_FnGravity2_l1s r40 r51 a0 a1 r48 k R v) (x := 0) (gh := ()) (fun (v4 : Int) (w4 : Unit) => (⟨84, [], [(0, (Vl (.float .f64 a0))), (1, (Vl (.float .f64 a1))), (10, (Sl Kf r48)), (11, (Vl (.float .f64 r51))), (52, (Sl Kf r40)), (53, (Vl (.int .i64 (r40.length : Int)))), (54, (Vl (.int .i64 v4)))], []⟩ : St)) (fun (y : Unit ⊕ Unit) => match y with | (.inl v6) => Zg E Exit.ret (fun (w6 : Unit) => (⟨84, [], [(6, (Vl (.bool false)))], []⟩ : St)) | (.inr v7) => Zg E (Exit.exit 0) (fun (w7 : Unit) => (⟨84, [], [], []⟩ : St))) (fun _ => rfl) (fun _ _ => rfl) ?_ hy1 (tx_to' rfl [] (sub_cons rfl (sub_cons rfl (sub_cons rfl (sub_cons rfl (sub_cons rfl (sub_cons rfl (sub_cons rfl sub_nil))))))) (by decide) pick_nil) ?_
          · clear hp hy1
            clear y1
            intro k rec1 KY1 ih1
            rintro x5 ⟨⟩ y1 hp
            replace hp : laws_FnGravity2_l1s r40 r51 a0 a1 r48 k rec1 x5 = some y1 := hp
            unfold laws_FnGravity2_l1s at hp
            refine cx_seq' fun K25 hK25 => ?_
            refine cx_region' ?_
            refine sx_rd' (rd_bin' rfl rfl eg_int ru_lss) rfl rfl (wt_none' rfl) ?_
            refine sx_nil' ?_
            show TX E K25 _
            refine tx_k' hK25 ?_
            refine cx_seq' fun K26 hK26 => ?_
            refine cx_cond' rfl (fun h9 => ?_) (fun h9 => ?_)
            · replace hp := (br_t h9).symm.trans hp
              refine cx_skip' ?_
              show TX E K26 _
              refine tx_k' hK26 ?_
              refine cx_seq' fun K27 hK27 => ?_
              refine cx_block' ?_
              refine cx_seq' fun K28 hK28 => ?_
              refine cx_region' ?_
              refine sx_rd' (rd_move' rfl) rfl rfl (wt_none' rfl) ?_
              obtain ⟨r57, hr57, hp⟩ := bind_some hp
              refine sx_rd' (rd_at' (K := Kf) rfl rfl hr57 Try.underlying29 info22) rfl rfl (wt_none' rfl) ?_
              refine sx_rd' (rd_load_pt' rfl rfl flat22) rfl rfl (wt_none' rfl) ?_
              refine sx_rd' (rd_assign' rfl) rfl rfl (wt_none' rfl) ?_
              refine sx_rd' (rd_assign' rfl) rfl rfl (wt_none' rfl) ?_
              refine sx_nil' ?_
              show TX E K28 _
              refine tx_k' hK28 ?_
              refine cx_seq' fun K29 hK29 => ?_
              refine cx_region' ?_
              refine sx_rd' (rd_assign' rfl) rfl rfl (wt_none' rfl) ?_
              refine sx_nil' ?_
              show TX E K29 _
              refine tx_k' hK29 ?_
              refine cx_join' (fun (v5 : Nat) => (⟨84, [], [(0, (Vl (.float .f64 a0))), (1, (Vl (.float .f64 a1))), (10, (Sl Kf r48)), (11, (Vl (.float .f64 r51))), (12, (Vl (.int .i64 x5))), (14, (Fl v5)), (52, (Sl Kf r40)), (53, (Vl (.int .i64 (r40.length : Int)))), (54, (Vl (.int .i64 x5)))], []⟩ : St)) (fun (v5 : Nat) => laws_FnGravity2_j4 k r48 x5 rec1 v5 = some y1) ?_ ?_
              · rintro x4 hp
                replace hp : laws_FnGravity2_j4 k r48 x5 rec1 x4 = some y1 := hp
                unfold laws_FnGravity2_j4 at hp
                refine cx_seq' fun K32 hK32 => ?_
                refine cx_region' ?_
                refine sx_rd' (rd_move' rfl) rfl rfl (wt_none' rfl) ?_
                refine sx_rd' (rd_move' rfl) rfl rfl (wt_none' rfl) ?_
                obtain ⟨r73, hr73, hp⟩ := bind_some hp
                refine sx_rd' (rd_at' (K := Kf) rfl rfl hr73 Try.underlying29 info22) rfl rfl (wt_none' rfl) ?_
                refine sx_rd' (rd_load_pt' rfl rfl flat22) rfl rfl (wt_none' rfl) ?_
                refine sx_rd' (rd_move' rfl) rfl rfl (wt_none' rfl) ?_
                obtain ⟨r76, hr76, hp⟩ := bind_some hp
                refine sx_ox' (ox_fop' (.inr (.inl rfl)) (fl_v rfl) (fl_f rfl) (Option.some.inj hr76) rfl rfl) (wt_none' rfl) fun _ => ?_
                obtain ⟨u3, hu3, hp⟩ := bind_some hp
                refine tx_slot' 76 (y := (Vl (.float .f64 r76))) rfl (imp_num (num_some hu3).2) ?_
                obtain ⟨r77, hr77, hp⟩ := bind_some hp
                refine sx_ox' (ox_calln' (ent_fn' Try.func14 isn14 rfl rfl) (math_Abs_sim _ hr77 : Go.Sx.Fn Try.prog 14 [(Vl (.float .f64 r76))] [] (fun x : Unit => (Vl (.float .f64 r77))) (fun x => [])) (Hn := fun x : Unit => []) (fun _ => rfl) rfl rfl) (wt_none' rfl) fun ⟨⟩ => ?_
                refine sx_rd' (rd_move' rfl) rfl rfl (wt_none' rfl) ?_
                obtain ⟨u4, hu4, hp⟩ := bind_some hp
                refine tx_slot' 78 (y := (Vl (.float .f64 x4))) rfl (imp_num (num_some hu4).2) ?_
                obtain ⟨r79, hr79, hp⟩ := bind_some hp
                refine sx_ox' (ox_calln' (ent_fn' Try.func14 isn14 rfl rfl) (math_Abs_sim _ hr79 : Go.Sx.Fn Try.prog 14 [(Vl (.float .f64 x4))] [] (fun x : Unit => (Vl (.float .f64 r79))) (fun x => [])) (Hn := fun x : Unit => []) (fun _ => rfl) rfl rfl) (wt_none' rfl) fun ⟨⟩ => ?_
                obtain ⟨r80, hr80, hp⟩ := bind_some hp
                refine sx_ox' (ox_fop' (.inr (.inr (.inl rfl))) (fl_v rfl) (fl_v rfl) (Option.some.inj hr80) rfl rfl) (wt_none' rfl) fun _ => ?_
                refine sx_rd' (rd_fcmp' (fl_v rfl) (fl_f rfl) rfl) rfl rfl (wt_none' rfl) ?_
                refine sx_rd' (rd_un' rfl ru_not) rfl rfl (wt_none' rfl) ?_
                refine sx_nil' ?_
                show TX E K32 _
                refine tx_k' hK32 ?_
                refine cx_cond' rfl (fun h11 => ?_) (fun h11 => ?_)
                · replace hp := (br_t h11).symm.trans hp
                  refine cx_seq' fun K33 hK33 => ?_
                  refine cx_region' ?_
                  refine sx_rd' (rd_assign' rfl) rfl rfl (wt_none' rfl) ?_
                  refine sx_nil' ?_
                  show TX E K33 _
                  refine tx_k' hK33 ?_
                  refine cx_retc' ?_
                  replace hp := Option.some.inj hp
                  subst hp
                  show TX E (Zg E Exit.ret _ Exit.ret) _
                  exact tx_zend' () rfl [] (sub_cons rfl sub_nil) (by decide) pick_nil
                · replace hp := (br_f h11).symm.trans hp
                  refine cx_skip' ?_
                  show TX E K27 _
                  refine tx_k' hK27 ?_
                  refine cx_region' ?_
                  refine sx_rd' (rd_bin' rfl rfl eg_int ru_add) rfl rfl (wt_none' rfl) ?_
                  refine sx_rd' (rd_move' rfl) rfl rfl (wt_none' rfl) ?_
                  refine sx_nil' ?_
                  show TX E (KY1 _) _
                  exact tx_pick' [] (sub_cons rfl (sub_cons rfl (sub_cons rfl (sub_cons rfl (sub_cons rfl (sub_cons rfl (sub_cons rfl sub_nil))))))) (by decide) pick_nil (ih1 (iadd .i64 x5 1) () _ hp)
              · intro K30 hK30
                refine cx_seq' fun K31 hK31 => ?_
                refine cx_region' ?_
                refine sx_rd' (rd_move' rfl) rfl rfl (wt_none' rfl) ?_
                refine sx_rd' (rd_bin' rfl rfl eg_flt ru_fgt) rfl rfl (wt_none' rfl) ?_
                refine sx_nil' ?_
                show TX E K31 _
                refine tx_k' hK31 ?_
                refine cx_cond' rfl (fun h10 => ?_) (fun h10 => ?_)
                · replace hp := (br_t h10).symm.trans hp
                  refine cx_region' ?_
                  refine sx_rd' (rd_move' rfl) rfl rfl (wt_none' rfl) ?_
                  refine sx_rd' (rd_move' rfl) rfl rfl (wt_none' rfl) ?_
                  obtain ⟨r63, hr63, hp⟩ := bind_some hp
                  refine sx_ox' (ox_fop' (.inr (.inr (.inl rfl))) (fl_v rfl) (fl_v rfl) (Option.some.inj hr63) rfl rfl) (wt_none' rfl) fun _ => ?_
                  refine sx_rd' (rd_move' rfl) rfl rfl (wt_none' rfl) ?_
                  obtain ⟨r65, hr65, hp⟩ := bind_some hp
                  refine sx_ox' (ox_fop' (.inr (.inr (.inl rfl))) (fl_f rfl) (fl_v rfl) (Option.some.inj hr65) rfl rfl) (wt_none' rfl) fun _ => ?_
                  refine sx_rd' (rd_move' rfl) rfl rfl (wt_none' rfl) ?_
                  refine sx_rd' (rd_move' rfl) rfl rfl (wt_none' rfl) ?_
                  obtain ⟨r68, hr68, hp⟩ := bind_some hp
                  refine sx_ox' (ox_calln' (ent_fn' Try.func13 isn13 rfl rfl) (math_Sqrt_sim _ hr68 : Go.Sx.Fn Try.prog 13 [(Vl (.float .f64 r51))] [] (fun x : Unit => (Fl r68)) (fun x => [])) (Hn := fun x : Unit => []) (fun _ => rfl) rfl rfl) (wt_none' rfl) fun ⟨⟩ => ?_
                  obtain ⟨r69, hr69, hp⟩ := bind_some hp
                  refine sx_ox' (ox_fop' (.inr (.inr (.inl rfl))) (fl_v rfl) (fl_f rfl) (Option.some.inj hr69) rfl rfl) (wt_none' rfl) fun _ => ?_
                  obtain ⟨r70, hr70, hp⟩ := bind_some hp
                  refine sx_ox' (ox_fop' (.inr (.inr (.inr rfl))) (fl_f rfl) (fl_f rfl) (Option.some.inj hr70) rfl rfl) (wt_none' rfl) fun _ => ?_
                  refine sx_rd' (rd_assign' rfl) rfl rfl (wt_none' rfl) ?_
                  refine sx_nil' ?_
                  show TX E K30 _
                  exact tx_pick' [] (sub_cons rfl (sub_cons rfl (sub_cons rfl (sub_cons rfl (sub_cons rfl (sub_cons rfl (sub_cons rfl (sub_cons rfl (sub_cons rfl sub_nil))))))))) (by decide) pick_nil (hK30 r70 hp)
                · replace hp := (br_f h10).symm.trans hp
                  refine cx_skip' ?_
                  show TX E K30 _
                  refine tx_slot' 14 (y := (Fl 0)) rfl imp_vf ?_
                  exact tx_pick' [] (sub_cons rfl (sub_cons rfl (sub_cons rfl (sub_cons rfl (sub_cons rfl (sub_cons rfl (sub_cons rfl (sub_cons rfl (sub_cons rfl sub_nil))))))))) (by decide) pick_nil (hK30 0 hp)
            · replace hp := (br_f h9).symm.trans hp
              refine cx_exit' ?_
              replace hp := Option.some.inj hp
              subst hp
              show TX E (Zg E (Exit.exit 0) _ (Exit.exit 0)) _
              exact tx_zend' () rfl [] sub_nil (by decide) pick_nil
          · rcases y1 with v6 | v7
            · dsimp only at hp
              refine zg_out fun w6 => ?_
              replace hp := Option.some.inj hp
              subst hp
              refine tx_pick' (L' := [(6, (Vl (.bool false)))]) (H' := []) [] (sub_cons rfl sub_nil) (by decide) pick_nil ?_
              exact tx_ret1' Try.results3 rfl () (rv_tmp' rfl) (List.Sublist.refl _)
            · dsimp only at hp
              refine zg_out fun w7 => ?_
              show TX E K14 _
              refine tx_k' hK14 ?_
              refine cx_seq' fun K34 hK34 => ?_
              refine cx_region' ?_
              refine sx_rd' (rd_assign' rfl) rfl rfl (wt_none' rfl) ?_
              refine sx_nil' ?_
              show TX E K34 _
              refine tx_k' hK34 ?_
              refine cx_retc' ?_
              replace hp := Option.some.inj hp
              subst hp
              refine tx_pick' (L' := [(6, (Vl (.bool true)))]) (H' := []) [] (sub_cons rfl sub_nil) (by decide) pick_nil ?_
              exact tx_ret1' Try.results3 rfl () (rv_tmp' rfl) (List.Sublist.refl _)
      · intro K9 hK9
        rcases br_cases hp with ⟨h3, hp⟩ | ⟨h3, hp⟩
        · refine sx_skip' rfl rfl (wt_is' (wt_guard' rfl rfl rfl) (beq_tf h3)) ?_
          refine sx_skip' rfl rfl (wt_is' (wt_guard' rfl rfl rfl) (beq_tf h3)) ?_
          refine sx_skip' rfl rfl (wt_is' (wt_guard' rfl rfl rfl) (beq_tf h3)) ?_
          refine sx_rd' (rd_pick_true' rfl h3 rfl) rfl rfl (wt_none' rfl) ?_
          refine sx_nil' ?_
          show TX E K9 _
          exact tx_pick' [] (sub_cons rfl (sub_cons rfl (sub_cons rfl (sub_cons rfl sub_nil)))) (by decide) pick_nil (hK9 true hp)
        · refine sx_rd' (rd_move' rfl) rfl rfl (wt_is' (wt_guard' rfl rfl rfl) (beq_ff h3)) ?_
          obtain ⟨r33, hr33, hp⟩ := bind_some hp
          refine sx_ox' (ox_calln' (ent_fn' Try.func9 isn9 rfl rfl) (laws_heavy_sim _ hr33 : Go.Sx.Fn Try.prog 9 [(Vl (.float .f64 a1))] [] (fun x : Unit => (Vl (.bool r33))) (fun x => [])) (Hn := fun x : Unit => []) (fun _ => rfl) rfl rfl) (wt_is' (wt_guard' rfl rfl rfl) (beq_ff h3)) fun ⟨⟩ => ?_
          refine sx_rd' (rd_un' rfl ru_not) rfl rfl (wt_is' (wt_guard' rfl rfl rfl) (beq_ff h3)) ?_
          refine sx_rd' (rd_pick_false' rfl h3 rfl) rfl rfl (wt_none' rfl) ?_
          refine sx_nil' ?_
          show TX E K9 _
          exact tx_pick' [] (sub_cons rfl (sub_cons rfl (sub_cons rfl (sub_cons rfl sub_nil)))) (by decide) pick_nil (hK9 (!r33) hp)
    · intro K8 hK8
      rcases br_cases hp with ⟨h2, hp⟩ | ⟨h2, hp⟩
      · refine sx_skip' rfl rfl (wt_is' (wt_guard' rfl rfl rfl) (beq_tf h2)) ?_
        refine sx_skip' rfl rfl (wt_is' (wt_guard' rfl rfl rfl) (beq_tf h2)) ?_
        refine sx_skip' rfl rfl (wt_is' (wt_guard' rfl rfl rfl) (beq_tf h2)) ?_
        refine sx_rd' (rd_pick_true' rfl h2 rfl) rfl rfl (wt_none' rfl) ?_
        refine sx_nil' ?_
        show TX E K8 _
        exact tx_pick' [] (sub_cons rfl (sub_cons rfl (sub_cons rfl (sub_cons rfl sub_nil)))) (by decide) pick_nil (hK8 true hp)
      · refine sx_rd' (rd_move' rfl) rfl rfl (wt_is' (wt_guard' rfl rfl rfl) (beq_ff h2)) ?_
        obtain ⟨r28, hr28, hp⟩ := bind_some hp
        refine sx_ox' (ox_calln' (ent_fn' Try.func9 isn9 rfl rfl) (laws_heavy_sim _ hr28 : Go.Sx.Fn Try.prog 9 [(Vl (.float .f64 a0))] [] (fun x : Unit => (Vl (.bool r28))) (fun x => [])) (Hn := fun x : Unit => []) (fun _ => rfl) rfl rfl) (wt_is' (wt_guard' rfl rfl rfl) (beq_ff h2)) fun ⟨⟩ => ?_
        refine sx_rd' (rd_un' rfl ru_not) rfl rfl (wt_is' (wt_guard' rfl rfl rfl) (beq_ff h2)) ?_
        refine sx_rd' (rd_pick_false' rfl h2 rfl) rfl rfl (wt_none' rfl) ?_
        refine sx_nil' ?_
        show TX E K8 _
        exact tx_pick' [] (sub_cons rfl (sub_cons rfl (sub_cons rfl (sub_cons rfl sub_nil)))) (by decide) pick_nil (hK8 (!r28) hp)

end Go.Proofs.Ytehfdhhaglbnbaa
