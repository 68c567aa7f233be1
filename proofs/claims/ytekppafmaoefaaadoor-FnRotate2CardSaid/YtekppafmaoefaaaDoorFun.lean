/-
  Plain functions for the Go functions that this law reaches, and that each call does what its plain function says. Printed by a program of ours.
-/
import Derived.Test.YtekppafmaoefaaaDoorProg
import Derived.Test.YtekppafmaoefaaaDoorSxX
namespace Go.Proofs.YtekppafmaoefaaaDoor
open Go.Sx
set_option linter.unusedVariables false
set_option maxRecDepth 100000
set_option linter.unusedSectionVars false
instance gvl : Gv := ⟨[(1, ([.float .f64 13666448263388469915, .float .f64 4477121864728985349, .float .f64 13732177093698800582, .float .f64 4537941361668146421, .float .f64 13787419979223748497, .float .f64 4586165620538955083] : List Value).map Vl), (2, ([.float .f64 4460209587652500685, .float .f64 13716528389658582877, .float .f64 4523617212962785441, .float .f64 13774824197404483331, .float .f64 4575957461383575504, .float .f64 13818544856648471880] : List Value).map Vl), (3, ([.int .u64 1, .int .u64 5040379952546458195, .int .u64 17892431488136887169, .int .u64 13169980181085364355, .int .u64 18204331823439776451, .int .u64 7946843935494350272, .int .u64 905889640498799673, .int .u64 18175356263134875261, .int .u64 15061281708168349961, .int .u64 15220161563773041794, .int .u64 8296664548579374057, .int .u64 4109744767560208502, .int .u64 4607516669194743839, .int .u64 16023283104648321598, .int .u64 15739233654134936430, .int .u64 11424645774684705882, .int .u64 16883842788696515318, .int .u64 8795094592981902804, .int .u64 15561835991111744016, .int .u64 12395701187267450711] : List Value).map Vl)]⟩
theorem info24 : (Tryd.prog.info? 24).map (fun i => (i.zero, i.size, i.bytes)) = some (some (.agg #[.float .f64 0, .float .f64 0]), 2, 16) := by kernel_rfl
theorem agg24 : Agg Tryd.prog 24 2 := ⟨⟨_, Tryd.underlying24, .inl ⟨_, rfl⟩⟩, info_size info24⟩
theorem isn15 : (Tryd.f15.name == "runtime.NumGoroutine") = false := by kernel_rfl
theorem info22 : (Tryd.prog.info? 22).map (fun i => (i.zero, i.size, i.bytes)) = some (some (.float .f64 0), 1, 8) := by kernel_rfl
theorem flat22 : Flat Tryd.prog 22 := ⟨_, Tryd.underlying22, fun _ h => (nomatch h), fun _ _ h => (nomatch h)⟩
theorem isn14 : (Tryd.f14.name == "runtime.NumGoroutine") = false := by kernel_rfl
theorem info42 : (Tryd.prog.info? 42).map (fun i => (i.zero, i.size, i.bytes)) = some (some (.slice none 0 0), 1, 24) := by kernel_rfl
theorem flat42 : Flat Tryd.prog 42 := ⟨_, Tryd.underlying42, fun _ h => (nomatch h), fun _ _ h => (nomatch h)⟩
theorem isn30 : (Tryd.f30.name == "runtime.NumGoroutine") = false := by kernel_rfl
theorem extf50 : ∀ {x r : Nat}, gint .zero x = r → ∀ y, (y = x ∨ (isn x = true ∧ isn y = true)) → RunsF Tryd.prog (callFunc 50 #[.float .f64 y]) (Fl r) := fun hz y hy => hz ▸ runs_ext (e := Extern.MathFloor.toIntegral "math.archTrunc" .zero) Tryd.func50 (by kernel_rfl) (by kernel_rfl) (by kernel_rfl) (by kernel_rfl) (gint_runs hy)
theorem isn16 : (Tryd.f16.name == "runtime.NumGoroutine") = false := by kernel_rfl
theorem isn33 : (Tryd.f33.name == "runtime.NumGoroutine") = false := by kernel_rfl
theorem places66 : placesOf Tryd.prog [{ name := "X", type := 22, offset := 0, embedded := false, tag := "", pkgPath := "", byteOffset := 0 }, { name := "Y", type := 22, offset := 1, embedded := false, tag := "", pkgPath := "", byteOffset := 8 }] = [(0, 1), (1, 1)] := by kernel_rfl
theorem has66 : ∀ f ∈ ([{ name := "X", type := 22, offset := 0, embedded := false, tag := "", pkgPath := "", byteOffset := 0 }, { name := "Y", type := 22, offset := 1, embedded := false, tag := "", pkgPath := "", byteOffset := 8 }] : List Field), (Tryd.prog.info? f.type).isSome = true := fun f hf => all_of (p := fun f => (Tryd.prog.info? f.type).isSome) (by kernel_rfl) f hf
theorem info66 : (Tryd.prog.info? 66).map (fun i => (i.zero, i.size, i.bytes)) = some (some (.agg #[.float .f64 0, .float .f64 0]), 2, 16) := by kernel_rfl
theorem agg66 : Agg Tryd.prog 66 2 := ⟨⟨_, Tryd.underlying66, .inl ⟨_, rfl⟩⟩, info_size info66⟩
theorem isn32 : (Tryd.f32.name == "runtime.NumGoroutine") = false := by kernel_rfl
theorem isn52 : (Tryd.f52.name == "runtime.NumGoroutine") = false := by kernel_rfl
theorem places80 : placesOf Tryd.prog [{ name := "sin", type := 22, offset := 0, embedded := false, tag := "", pkgPath := "pub-orthodrome/pub/gonum/spatial/r2", byteOffset := 0 }, { name := "cos", type := 22, offset := 1, embedded := false, tag := "", pkgPath := "pub-orthodrome/pub/gonum/spatial/r2", byteOffset := 8 }, { name := "p", type := 66, offset := 2, embedded := false, tag := "", pkgPath := "pub-orthodrome/pub/gonum/spatial/r2", byteOffset := 16 }] = [(0, 1), (1, 1), (2, 2)] := by kernel_rfl
theorem has80 : ∀ f ∈ ([{ name := "sin", type := 22, offset := 0, embedded := false, tag := "", pkgPath := "pub-orthodrome/pub/gonum/spatial/r2", byteOffset := 0 }, { name := "cos", type := 22, offset := 1, embedded := false, tag := "", pkgPath := "pub-orthodrome/pub/gonum/spatial/r2", byteOffset := 8 }, { name := "p", type := 66, offset := 2, embedded := false, tag := "", pkgPath := "pub-orthodrome/pub/gonum/spatial/r2", byteOffset := 16 }] : List Field), (Tryd.prog.info? f.type).isSome = true := fun f hf => all_of (p := fun f => (Tryd.prog.info? f.type).isSome) (by kernel_rfl) f hf
theorem info80 : (Tryd.prog.info? 80).map (fun i => (i.zero, i.size, i.bytes)) = some (some (.agg #[.float .f64 0, .float .f64 0, .float .f64 0, .float .f64 0]), 4, 32) := by kernel_rfl
theorem isn69 : (Tryd.f69.name == "runtime.NumGoroutine") = false := by kernel_rfl
theorem isn54 : (Tryd.f54.name == "runtime.NumGoroutine") = false := by kernel_rfl
theorem isn55 : (Tryd.f55.name == "runtime.NumGoroutine") = false := by kernel_rfl
theorem isn19 : (Tryd.f19.name == "runtime.NumGoroutine") = false := by kernel_rfl
theorem ext39 : ∀ {args : Array Value} {v : Value}, Runs Tryd.prog ((Extern.MathFloatBits.float64bits) args) v → Runs Tryd.prog (callFunc 39 args) (.value v) := fun hr => ru_ext Tryd.func39 (by kernel_rfl) (by kernel_rfl) (by kernel_rfl) (by kernel_rfl) hr
theorem ext38 : ∀ {args : Array Value} {v : Value}, Runs Tryd.prog ((Extern.MathFloatBits.float64frombits) args) v → Runs Tryd.prog (callFunc 38 args) (.value v) := fun hr => ru_ext Tryd.func38 (by kernel_rfl) (by kernel_rfl) (by kernel_rfl) (by kernel_rfl) hr
theorem isn56 : (Tryd.f56.name == "runtime.NumGoroutine") = false := by kernel_rfl
theorem gm1 : ((1 : Nat), ([.float .f64 13666448263388469915, .float .f64 4477121864728985349, .float .f64 13732177093698800582, .float .f64 4537941361668146421, .float .f64 13787419979223748497, .float .f64 4586165620538955083] : List Value).map Vl) ∈ (Gv.l : List (Nat × List SV)) := .head _
theorem gm2 : ((2 : Nat), ([.float .f64 4460209587652500685, .float .f64 13716528389658582877, .float .f64 4523617212962785441, .float .f64 13774824197404483331, .float .f64 4575957461383575504, .float .f64 13818544856648471880] : List Value).map Vl) ∈ (Gv.l : List (Nat × List SV)) := .tail _ (.head _)
theorem agg80 : Agg Tryd.prog 80 4 := ⟨⟨_, Tryd.underlying80, .inl ⟨_, rfl⟩⟩, info_size info80⟩
theorem isn53 : (Tryd.f53.name == "runtime.NumGoroutine") = false := by kernel_rfl
theorem isn70 : (Tryd.f70.name == "runtime.NumGoroutine") = false := by kernel_rfl
theorem isn71 : (Tryd.f71.name == "runtime.NumGoroutine") = false := by kernel_rfl
theorem isn72 : (Tryd.f72.name == "runtime.NumGoroutine") = false := by kernel_rfl
theorem mixed : Tryd.prog.follows .mixedOrders = true := by kernel_rfl
theorem isn31 : (Tryd.f31.name == "runtime.NumGoroutine") = false := by kernel_rfl
theorem places24 : placesOf Tryd.prog [{ name := "X", type := 22, offset := 0, embedded := false, tag := "", pkgPath := "", byteOffset := 0 }, { name := "Y", type := 22, offset := 1, embedded := false, tag := "", pkgPath := "", byteOffset := 8 }] = [(0, 1), (1, 1)] := by kernel_rfl
theorem has24 : ∀ f ∈ ([{ name := "X", type := 22, offset := 0, embedded := false, tag := "", pkgPath := "", byteOffset := 0 }, { name := "Y", type := 22, offset := 1, embedded := false, tag := "", pkgPath := "", byteOffset := 8 }] : List Field), (Tryd.prog.info? f.type).isSome = true := fun f hf => all_of (p := fun f => (Tryd.prog.info? f.type).isSome) (by kernel_rfl) f hf
theorem isn17 : (Tryd.f17.name == "runtime.NumGoroutine") = false := by kernel_rfl
theorem isn35 : (Tryd.f35.name == "runtime.NumGoroutine") = false := by kernel_rfl
theorem isn18 : (Tryd.f18.name == "runtime.NumGoroutine") = false := by kernel_rfl
theorem isn37 : (Tryd.f37.name == "runtime.NumGoroutine") = false := by kernel_rfl
theorem held24 : Tryd.prog.stoodInHeld 24 = false := by kernel_rfl
theorem eqg24 : Tryd.prog.eqGuardType Tryd.prog.depth 24 = false := by kernel_rfl


def laws_off2 (k : Nat) (a0_0 : Nat) (a0_1 : Nat) : Option ((List Nat)) :=
 some ([a0_0, a0_1])

theorem laws_off2_sim {k : Nat}  (a0_0 : Nat) (a0_1 : Nat) {out : (List Nat)} (hp : laws_off2 k a0_0 a0_1 = some out) : Sx.Fn Tryd.prog 15 [(Ag [(Vg a0_0), (Vg a0_1)])] [] (fun w : Unit => (Sl Kf out)) (fun w => []) := by
 unfold laws_off2 at hp
 refine fn_of Tryd.func15 rfl Tryd.ntmps15 rfl fun E hM => ?_
 refine cr fun K1 hK1 => ?_
 refine sx_ox' (ox_box' rfl (lv_ag _) rfl rfl) (wt_none' rfl) fun q1 => ?_
 refine s0 (rd_assign' rfl) ?_
 refine nk hK1 ?_
 refine cr fun K2 hK2 => ?_
 refine s0 (rd_field0' rfl Tryd.underlying24 rfl info22 rfl) ?_
 refine s0 (rd_load' (i := 0) (o := 0) rfl ⟨rfl, rfl, rfl, rfl⟩ rfl flat22) ?_
 refine s0 (rd_field' (off := 1) rfl Tryd.underlying24 rfl info22 rfl) ?_
 refine s0 (rd_load' (i := 0) (o := 1) rfl ⟨rfl, rfl, rfl, rfl⟩ rfl flat22) ?_
 refine sx_ox' (ox_rowlit' (K := Kf) (xs := [a0_0, a0_1]) (qs := [(0, [(Vg a0_0)]), (1, [(Vg a0_1)])]) ⟨rfl, ⟨_, rfl, (lv_vl rfl rfl)⟩, ⟨rfl, ⟨_, rfl, (lv_vl rfl rfl)⟩, trivial⟩⟩ Tryd.underlying42 info22 rfl rfl rfl rfl rfl (by kernel_rfl) rfl rfl rfl) (wt_none' rfl) fun g7 => ?_
 refine s0 (rd_assign' rfl) ?_
 refine nk hK2 ?_
 refine cx_retc' ?_
 replace hp := Option.some.inj hp
 subst hp
 refine tx_fz' (frz_row 0 [(2, (Vl (Vs g7)), (Sl Kf ([a0_0, a0_1]))), (7, (Vl (Vs g7)), (Sl Kf ([a0_0, a0_1])))] (K := Kf) (xs := [a0_0, a0_1]) (by decide) rfl ⟨⟨rfl, frz_it⟩, ⟨rfl, frz_it⟩, trivial⟩ (H' := [⟨.pointer (some q1), [(Vg a0_0), (Vg a0_1)], 24, none⟩]) frzH_refl) ?_
 refine tx_pick' (L' := [(2, (Sl Kf ([a0_0, a0_1])))]) (H' := []) [] (sub_cons rfl sub_nil) (by decide) pick_nil ?_
 exact tx_ret1' Tryd.results15 rfl () (rv_tmp' rfl) (List.Sublist.refl _)

def math_Trunc (k : Nat) (a0 : Nat) : Option (Nat) :=
 (some (gint .zero a0)) >>= fun r4 =>
 some r4

theorem math_Trunc_sim {k : Nat}  (a0 : Nat) {out : Nat} (hp : math_Trunc k a0 = some out) : Sx.Fn Tryd.prog 30 [(Vg a0)] [] (fun w : Unit => (Fl out)) (fun w => []) := by
 unfold math_Trunc at hp
 refine fn_of Tryd.func30 rfl Tryd.ntmps30 rfl fun E hM => ?_
 refine cr fun K1 hK1 => ?_
 refine s0 (rd_assign' rfl) ?_
 refine nk hK1 ?_
 refine cx_seq' fun K2 hK2 => ?_
 refine cx_cond_t' rfl rfl ?_
 refine cr fun K3 hK3 => ?_
 refine s0 (rd_move' rfl) ?_
 obtain ⟨r4, hr4, hp⟩ := bind_some hp
 refine sx_ox' (ox_extf' rfl (fl_v rfl) Tryd.func50 (extf50 (Option.some.inj hr4)) rfl rfl) (wt_none' rfl) fun _ => ?_
 refine s0 (rd_assign' rfl) ?_
 refine nk hK3 ?_
 refine cx_retc' ?_
 replace hp := Option.some.inj hp
 subst hp
 refine tx_pick' (L' := [(2, (Fl r4))]) (H' := []) [] (sub_cons rfl sub_nil) (by decide) pick_nil ?_
 exact tx_ret1' Tryd.results30 rfl () (rv_tmp' rfl) (List.Sublist.refl _)

def spec_Grid_j8 (k : Nat) (rec2 : Int → Option (Unit ⊕ Unit)) (x10 : Int) (x9 : Bool) : Option (Unit ⊕ Unit) :=
 br x9
  (some (.inl ()))
  (rec2 (iadd .i64 x10 1))
def spec_Grid_j7 (k : Nat) (rec2 : Int → Option (Unit ⊕ Unit)) (x10 : Int) (r25 : Nat) (x8 : Bool) : Option (Unit ⊕ Unit) :=
 br (!x8)
  (spec_Grid_j8 k rec2 x10 true)
  ((math_Trunc k r25) >>= fun r40 =>
  spec_Grid_j8 k rec2 x10 (fne r25 r40))
def spec_Grid_l2s (r15 : List Nat) (a2 : Nat) (k : Nat) (rec2 : Int → Option (Unit ⊕ Unit)) (x10 : Int) : Option (Unit ⊕ Unit) :=
 br (decide (x10 < (r15.length : Int)))
  ((idx r15 x10) >>= fun r25 =>
  br (fge r25 (fneg a2))
   (spec_Grid_j7 k rec2 x10 r25 (fle r25 a2))
   (spec_Grid_j7 k rec2 x10 r25 false))
  (some (.inr ()))
def spec_Grid_l2 (r15 : List Nat) (a2 : Nat) : Nat → Int → Option (Unit ⊕ Unit)
 | 0, _ => none
 | k + 1, v => spec_Grid_l2s r15 a2 k (spec_Grid_l2 r15 a2 k) v
def spec_Grid_l3s (a0 : List (List Nat)) (a1 : Int) (a2 : Nat) (k : Nat) (rec3 : Int → Option (Unit ⊕ Unit)) (x11 : Int) : Option (Unit ⊕ Unit) :=
 br (decide (x11 < (a0.length : Int)))
  ((idx a0 x11) >>= fun r15 =>
  br (!decide ((r15.length : Int) = a1))
   (some (.inl ()))
   ((spec_Grid_l2 r15 a2 k 0) >>= fun y2 => match y2 with
    | (.inl v14) =>
     (some (.inl ()))
    | (.inr v15) =>
     (rec3 (iadd .i64 x11 1))))
  (some (.inr ()))
def spec_Grid_l3 (a0 : List (List Nat)) (a1 : Int) (a2 : Nat) : Nat → Int → Option (Unit ⊕ Unit)
 | 0, _ => none
 | k + 1, v => spec_Grid_l3s a0 a1 a2 k (spec_Grid_l3 a0 a1 a2 k) v
def spec_Grid (k : Nat) (a0 : List (List Nat)) (a1 : Int) (a2 : Nat) : Option (Bool) :=
 (spec_Grid_l3 a0 a1 a2 k 0) >>= fun y3 => match y3 with
  | (.inl v16) =>
   (some false)
  | (.inr v17) =>
   (some (decide (0 < a1)))

theorem spec_Grid_sim {k : Nat}  (a0 : List (List Nat)) (a1 : Int) (a2 : Nat) {out : Bool} (hp : spec_Grid k a0 a1 a2 = some out) : Sx.Fn Tryd.prog 14 [(Sl (Kl Kf) a0), (Vi a1), (Vg a2)] [] (fun w : Unit => (Vb out)) (fun w => []) := by
 unfold spec_Grid at hp
 refine fn_of Tryd.func14 rfl Tryd.ntmps14 rfl fun E hM => ?_
 refine cr fun K1 hK1 => ?_
 refine s0 (rd_assign' rfl) ?_
 refine nk hK1 ?_
 refine cx_seq' fun K2 hK2 => ?_
 refine cr fun K3 hK3 => ?_
 refine s0 (rd_move' rfl) ?_
 refine s0 (rd_len' rfl Tryd.underlying44) ?_
 refine s0 (rd_move' rfl) ?_
 refine nk hK3 ?_
 refine cx_block' ?_
 obtain ⟨y3, hy3, hp⟩ := bind_some hp
 refine cx_loopg' (F := spec_Grid_l3 a0 a1 a2) (G := fun k R v => spec_Grid_l3s a0 a1 a2 k R v) (x := 0) (gh := ()) (fun (v8 : Int) (w8 : Unit) => (⟨47, [], [(1, (Vi a1)), (2, (Vg a2)), (11, (Sl (Kl Kf) a0)), (12, (Vi (a0.length : Int))), (13, (Vi v8))], []⟩ : St)) (fun (y : Unit ⊕ Unit) => match y with | (.inl v16) => Zg E Exit.ret (fun (w16 : Unit) => (⟨47, [], [(6, (Vb false))], []⟩ : St)) | (.inr v17) => Zg E (Exit.exit 0) (fun (w17 : Unit) => (⟨47, [], [(1, (Vi a1))], []⟩ : St))) (fun _ => rfl) (fun _ _ => rfl) ?_ hy3 (tx_to' rfl [] (sub_cons rfl (sub_cons rfl (sub_cons rfl (sub_cons rfl (sub_cons rfl sub_nil))))) (by decide) pick_nil) ?_
 ·clear hp hy3
  clear y3
  intro k rec3 KY3 ih3
  rintro x11 ⟨⟩ y3 hp
  replace hp : spec_Grid_l3s a0 a1 a2 k rec3 x11 = some y3 := hp
  unfold spec_Grid_l3s at hp
  refine cr fun K28 hK28 => ?_
  refine s0 (rd_bin' rfl rfl eg_int ru_lss) ?_
  refine nk hK28 ?_
  refine cx_seq' fun K29 hK29 => ?_
  refine cx_cond' rfl (fun h13 => ?_) (fun h13 => ?_)
  ·replace hp := (br_t h13).symm.trans hp
   refine cx_skip' ?_
   show TX E K29 _
   refine tx_k' hK29 ?_
   refine cx_seq' fun K30 hK30 => ?_
   refine cx_block' ?_
   refine cr fun K31 hK31 => ?_
   obtain ⟨r15, hr15, hp⟩ := bind_some hp
   refine s0 (rd_at' (K := (Kl Kf)) rfl rfl hr15 Tryd.underlying44 info42) ?_
   refine s0 (rd_load_pt' rfl rfl flat42) ?_
   refine s0 (rd_assign' rfl) ?_
   refine nk hK31 ?_
   refine cx_seq' fun K32 hK32 => ?_
   refine cr fun K33 hK33 => ?_
   refine s0 (rd_move' rfl) ?_
   refine s0 (rd_len' rfl Tryd.underlying42) ?_
   refine s0 (rd_move' rfl) ?_
   refine s0 (rd_bin' rfl rfl eg_int ru_neq) ?_
   refine nk hK33 ?_
   refine cx_cond' rfl (fun h14 => ?_) (fun h14 => ?_)
   ·replace hp := (br_t h14).symm.trans hp
    refine cr fun K34 hK34 => ?_
    refine s0 (rd_assign' rfl) ?_
    refine nk hK34 ?_
    refine cx_retc' ?_
    replace hp := Option.some.inj hp
    subst hp
    show TX E (Zg E Exit.ret _ Exit.ret) _
    exact tx_zend' () rfl [] (sub_cons rfl sub_nil) (by decide) pick_nil
   replace hp := (br_f h14).symm.trans hp
   refine cx_skip' ?_
   show TX E K32 _
   refine tx_k' hK32 ?_
   refine cr fun K35 hK35 => ?_
   refine s0 (rd_move' rfl) ?_
   refine s0 (rd_len' rfl Tryd.underlying42) ?_
   refine s0 (rd_move' rfl) ?_
   refine nk hK35 ?_
   refine cx_block' ?_
   obtain ⟨y2, hy2, hp⟩ := bind_some hp
   refine cx_loopg' (F := spec_Grid_l2 r15 a2) (G := fun k R v => spec_Grid_l2s r15 a2 k R v) (x := 0) (gh := ()) (fun (v11 : Int) (w11 : Unit) => (⟨47, [], [(1, (Vi a1)), (2, (Vg a2)), (11, (Sl (Kl Kf) a0)), (12, (Vi (a0.length : Int))), (13, (Vi x11)), (21, (Sl Kf r15)), (22, (Vi (r15.length : Int))), (23, (Vi v11))], []⟩ : St)) (fun (y : Unit ⊕ Unit) => match y with | (.inl v14) => Zg E Exit.ret (fun (w14 : Unit) => (⟨47, [], [(6, (Vb false))], []⟩ : St)) | (.inr v15) => Zg E (Exit.exit 2) (fun (w15 : Unit) => (⟨47, [], [(1, (Vi a1)), (2, (Vg a2)), (11, (Sl (Kl Kf) a0)), (12, (Vi (a0.length : Int))), (13, (Vi x11))], []⟩ : St))) (fun _ => rfl) (fun _ _ => rfl) ?_ hy2 (tx_to' rfl [] (sub_cons rfl (sub_cons rfl (sub_cons rfl (sub_cons rfl (sub_cons rfl (sub_cons rfl (sub_cons rfl (sub_cons rfl sub_nil)))))))) (by decide) pick_nil) ?_
   ·clear hp hy2
    clear y2
    intro k rec2 KY2 ih2
    rintro x10 ⟨⟩ y2 hp
    replace hp : spec_Grid_l2s r15 a2 k rec2 x10 = some y2 := hp
    unfold spec_Grid_l2s at hp
    refine cr fun K44 hK44 => ?_
    refine s0 (rd_bin' rfl rfl eg_int ru_lss) ?_
    refine nk hK44 ?_
    refine cx_seq' fun K45 hK45 => ?_
    refine cx_cond' rfl (fun h20 => ?_) (fun h20 => ?_)
    ·replace hp := (br_t h20).symm.trans hp
     refine cx_skip' ?_
     show TX E K45 _
     refine tx_k' hK45 ?_
     refine cx_seq' fun K46 hK46 => ?_
     refine cx_block' ?_
     refine cr fun K47 hK47 => ?_
     obtain ⟨r25, hr25, hp⟩ := bind_some hp
     refine s0 (rd_at' (K := Kf) rfl rfl hr25 Tryd.underlying42 info22) ?_
     refine s0 (rd_load_pt' rfl rfl flat22) ?_
     refine s0 (rd_assign' rfl) ?_
     refine nk hK47 ?_
     refine cr fun K48 hK48 => ?_
     refine s0 (rd_move' rfl) ?_
     refine s0 (rd_move' rfl) ?_
     refine s0 (rd_un' rfl ru_fneg) ?_
     refine s0 (rd_bin' rfl rfl eg_flt ru_fge) ?_
     refine s0 (rd_move' rfl) ?_
     refine sx_cutn' 4 (fun (v12 : Bool) => (⟨47, [], [(1, (Vi a1)), (2, (Vg a2)), (10, (Vg r25)), (11, (Sl (Kl Kf) a0)), (12, (Vi (a0.length : Int))), (13, (Vi x11)), (21, (Sl Kf r15)), (22, (Vi (r15.length : Int))), (23, (Vi x10)), (35, (Vb v12))], []⟩ : St)) (fun (v12 : Bool) => spec_Grid_j7 k rec2 x10 r25 v12 = some y2) ?_ ?_
     ·rintro x8 hp
      replace hp : spec_Grid_j7 k rec2 x10 r25 x8 = some y2 := hp
      unfold spec_Grid_j7 at hp
      refine s0 (rd_un' rfl ru_not) ?_
      refine s0 (rd_move' rfl) ?_
      refine sx_cutn' 5 (fun (v13 : Bool) => (⟨47, [], [(1, (Vi a1)), (2, (Vg a2)), (11, (Sl (Kl Kf) a0)), (12, (Vi (a0.length : Int))), (13, (Vi x11)), (21, (Sl Kf r15)), (22, (Vi (r15.length : Int))), (23, (Vi x10)), (42, (Vb v13))], []⟩ : St)) (fun (v13 : Bool) => spec_Grid_j8 k rec2 x10 v13 = some y2) ?_ ?_
      ·rintro x9 hp
       replace hp : spec_Grid_j8 k rec2 x10 x9 = some y2 := hp
       unfold spec_Grid_j8 at hp
       refine nk hK48 ?_
       refine cx_cond' rfl (fun h23 => ?_) (fun h23 => ?_)
       ·replace hp := (br_t h23).symm.trans hp
        refine cr fun K51 hK51 => ?_
        refine s0 (rd_assign' rfl) ?_
        refine nk hK51 ?_
        refine cx_retc' ?_
        replace hp := Option.some.inj hp
        subst hp
        show TX E (Zg E Exit.ret _ Exit.ret) _
        exact tx_zend' () rfl [] (sub_cons rfl sub_nil) (by decide) pick_nil
       replace hp := (br_f h23).symm.trans hp
       refine cx_skip' ?_
       show TX E K46 _
       refine tx_k' hK46 ?_
       refine cx_region' ?_
       refine s0 (rd_bin' rfl rfl eg_int ru_add) ?_
       refine s0 (rd_move' rfl) ?_
       refine sx_nil' ?_
       show TX E (KY2 _) _
       exact tx_pick' [] (sub_cons rfl (sub_cons rfl (sub_cons rfl (sub_cons rfl (sub_cons rfl (sub_cons rfl (sub_cons rfl (sub_cons rfl sub_nil)))))))) (by decide) pick_nil (ih2 (iadd .i64 x10 1) () _ hp)
      intro K50 hK50
      rcases br_cases hp with ⟨h22, hp⟩ | ⟨h22, hp⟩
      ·refine sx_skip' rfl rfl (wt_is' (wt_guard' rfl rfl rfl) (beq_tf h22)) ?_
       refine sx_skip' rfl rfl (wt_is' (wt_guard' rfl rfl rfl) (beq_tf h22)) ?_
       refine sx_skip' rfl rfl (wt_is' (wt_guard' rfl rfl rfl) (beq_tf h22)) ?_
       refine sx_skip' rfl rfl (wt_is' (wt_guard' rfl rfl rfl) (beq_tf h22)) ?_
       refine s0 (rd_pick_true' rfl h22 rfl) ?_
       refine sx_nil' ?_
       show TX E K50 _
       exact tx_pick' [] (sub_cons rfl (sub_cons rfl (sub_cons rfl (sub_cons rfl (sub_cons rfl (sub_cons rfl (sub_cons rfl (sub_cons rfl (sub_cons rfl sub_nil))))))))) (by decide) pick_nil (hK50 true hp)
      refine sx_rd' (rd_move' rfl) rfl rfl (wt_is' (wt_guard' rfl rfl rfl) (beq_ff h22)) ?_
      refine sx_rd' (rd_move' rfl) rfl rfl (wt_is' (wt_guard' rfl rfl rfl) (beq_ff h22)) ?_
      obtain ⟨r40, hr40, hp⟩ := bind_some hp
      refine sx_ox' (ox_calln' (ent_fn' Tryd.func30 isn30 rfl rfl) (math_Trunc_sim _ hr40 : Sx.Fn Tryd.prog 30 [(Vg r25)] [] (fun x : Unit => (Fl r40)) (fun x => [])) (Hn := fun x : Unit => []) (fun _ => rfl) rfl rfl) (wt_is' (wt_guard' rfl rfl rfl) (beq_ff h22)) fun ⟨⟩ => ?_
      refine sx_rd' (rd_fcmp' (fl_v rfl) (fl_f rfl) rfl) rfl rfl (wt_is' (wt_guard' rfl rfl rfl) (beq_ff h22)) ?_
      refine s0 (rd_pick_false' rfl h22 rfl) ?_
      refine sx_nil' ?_
      show TX E K50 _
      exact tx_pick' [] (sub_cons rfl (sub_cons rfl (sub_cons rfl (sub_cons rfl (sub_cons rfl (sub_cons rfl (sub_cons rfl (sub_cons rfl (sub_cons rfl sub_nil))))))))) (by decide) pick_nil (hK50 (fne r25 r40) hp)
     intro K49 hK49
     rcases br_cases hp with ⟨h21, hp⟩ | ⟨h21, hp⟩
     ·refine sx_rd' (rd_move' rfl) rfl rfl (wt_is' (wt_guard' rfl rfl rfl) (beq_tt h21)) ?_
      refine sx_rd' (rd_move' rfl) rfl rfl (wt_is' (wt_guard' rfl rfl rfl) (beq_tt h21)) ?_
      refine sx_rd' (rd_bin' rfl rfl eg_flt ru_fle) rfl rfl (wt_is' (wt_guard' rfl rfl rfl) (beq_tt h21)) ?_
      refine s0 (rd_pick_true' rfl h21 rfl) ?_
      refine sx_nil' ?_
      show TX E K49 _
      exact tx_pick' [] (sub_cons rfl (sub_cons rfl (sub_cons rfl (sub_cons rfl (sub_cons rfl (sub_cons rfl (sub_cons rfl (sub_cons rfl (sub_cons rfl (sub_cons rfl sub_nil)))))))))) (by decide) pick_nil (hK49 (fle r25 a2) hp)
     refine sx_skip' rfl rfl (wt_is' (wt_guard' rfl rfl rfl) (beq_ft h21)) ?_
     refine sx_skip' rfl rfl (wt_is' (wt_guard' rfl rfl rfl) (beq_ft h21)) ?_
     refine sx_skip' rfl rfl (wt_is' (wt_guard' rfl rfl rfl) (beq_ft h21)) ?_
     refine s0 (rd_pick_false' rfl h21 rfl) ?_
     refine sx_nil' ?_
     show TX E K49 _
     exact tx_pick' [] (sub_cons rfl (sub_cons rfl (sub_cons rfl (sub_cons rfl (sub_cons rfl (sub_cons rfl (sub_cons rfl (sub_cons rfl (sub_cons rfl (sub_cons rfl sub_nil)))))))))) (by decide) pick_nil (hK49 false hp)
    replace hp := (br_f h20).symm.trans hp
    refine cx_exit' ?_
    replace hp := Option.some.inj hp
    subst hp
    show TX E (Zg E (Exit.exit 2) _ (Exit.exit 2)) _
    exact tx_zend' () rfl [] (sub_cons rfl (sub_cons rfl (sub_cons rfl (sub_cons rfl (sub_cons rfl sub_nil))))) (by decide) pick_nil
   rcases y2 with v14 | v15
   ·dsimp only at hp
    refine zg_out fun w14 => ?_
    replace hp := Option.some.inj hp
    subst hp
    show TX E (Zg E Exit.ret _ Exit.ret) _
    exact tx_zend' () rfl [] (sub_cons rfl sub_nil) (by decide) pick_nil
   dsimp only at hp
   refine zg_out fun w15 => ?_
   show TX E K30 _
   refine tx_k' hK30 ?_
   refine cx_region' ?_
   refine s0 (rd_bin' rfl rfl eg_int ru_add) ?_
   refine s0 (rd_move' rfl) ?_
   refine sx_nil' ?_
   show TX E (KY3 _) _
   exact tx_pick' [] (sub_cons rfl (sub_cons rfl (sub_cons rfl (sub_cons rfl (sub_cons rfl sub_nil))))) (by decide) pick_nil (ih3 (iadd .i64 x11 1) () _ hp)
  replace hp := (br_f h13).symm.trans hp
  refine cx_exit' ?_
  replace hp := Option.some.inj hp
  subst hp
  show TX E (Zg E (Exit.exit 0) _ (Exit.exit 0)) _
  exact tx_zend' () rfl [] (sub_cons rfl sub_nil) (by decide) pick_nil
 rcases y3 with v16 | v17
 ·dsimp only at hp
  refine zg_out fun w16 => ?_
  replace hp := Option.some.inj hp
  subst hp
  refine tx_pick' (L' := [(6, (Vb false))]) (H' := []) [] (sub_cons rfl sub_nil) (by decide) pick_nil ?_
  exact tx_ret1' Tryd.results14 rfl () (rv_tmp' rfl) (List.Sublist.refl _)
 dsimp only at hp
 refine zg_out fun w17 => ?_
 show TX E K2 _
 refine tx_k' hK2 ?_
 refine cr fun K52 hK52 => ?_
 refine s0 (rd_move' rfl) ?_
 refine s0 (rd_bin' rfl rfl eg_int ru_gtr) ?_
 refine s0 (rd_assign' rfl) ?_
 refine nk hK52 ?_
 refine cx_retc' ?_
 replace hp := Option.some.inj hp
 subst hp
 refine tx_pick' (L' := [(6, (Vb (decide (0 < a1))))]) (H' := []) [] (sub_cons rfl sub_nil) (by decide) pick_nil ?_
 exact tx_ret1' Tryd.results14 rfl () (rv_tmp' rfl) (List.Sublist.refl _)

def impl_vec2 (k : Nat) (a0_0 : Nat) (a0_1 : Nat) : Option (Nat × Nat) :=
 some (a0_0, a0_1)

theorem impl_vec2_sim {k : Nat}  (a0_0 : Nat) (a0_1 : Nat) {out : Nat × Nat} (hp : impl_vec2 k a0_0 a0_1 = some out) : Sx.Fn Tryd.prog 33 [(Ag [(Vg a0_0), (Vg a0_1)])] [] (fun w : Unit => (Ag [(Vg out.1), (Vg out.2)])) (fun w => []) := by
 unfold impl_vec2 at hp
 refine fn_of Tryd.func33 rfl Tryd.ntmps33 rfl fun E hM => ?_
 refine cr fun K1 hK1 => ?_
 refine sx_ox' (ox_box' rfl (lv_ag _) rfl rfl) (wt_none' rfl) fun q1 => ?_
 refine sx_ox' (ox_alloc' info66 rfl rfl rfl rfl (l := [(Vg 0), (Vg 0)]) rfl) (wt_none' rfl) fun q2 => ?_
 refine nk hK1 ?_
 refine cr fun K2 hK2 => ?_
 refine s0 (rd_field0' rfl Tryd.underlying24 rfl info22 rfl) ?_
 refine s0 (rd_load' (i := 1) (o := 0) rfl ⟨rfl, rfl, rfl, rfl⟩ rfl flat22) ?_
 refine s0 (rd_field' (off := 1) rfl Tryd.underlying24 rfl info22 rfl) ?_
 refine s0 (rd_load' (i := 1) (o := 1) rfl ⟨rfl, rfl, rfl, rfl⟩ rfl flat22) ?_
 refine s0 (rd_build' (pls := [(0, 1), (1, 1)]) (qs := [(0, [(Vg a0_0)]), (1, [(Vg a0_1)])]) (r := [(Vg a0_0), (Vg a0_1)]) ⟨rfl, ⟨_, rfl, (lv_vl rfl rfl)⟩, ⟨rfl, ⟨_, rfl, (lv_vl rfl rfl)⟩, trivial⟩⟩ Tryd.underlying66 has66 places66 info66 rfl rfl rfl) ?_
 refine sx_ox' (ox_store' (i := 0) (o := 0) rfl rfl (lv_ag _) ⟨rfl, rfl, rfl, rfl⟩ rfl info66 rfl (H' := [⟨.pointer (some q2), [(Vg a0_0), (Vg a0_1)], 66, none⟩, ⟨.pointer (some q1), [(Vg a0_0), (Vg a0_1)], 24, none⟩]) rfl) (wt_none' rfl) fun _ => ?_
 refine nk hK2 ?_
 refine cx_retc' ?_
 replace hp := Option.some.inj hp
 subst hp
 refine tx_pick' (L' := [(2, (Vp q2))]) (H' := [⟨.pointer (some q2), [(Vg a0_0), (Vg a0_1)], 66, none⟩]) [0] (sub_cons rfl sub_nil) (by decide) (pick_cons rfl pick_nil) ?_
 exact tx_ret1' Tryd.results33 rfl () (rv_cell_agg' (i := 0) (o := 0) (nn := 2) rfl ⟨rfl, rfl, rfl, rfl⟩ rfl agg66 rfl) (List.nil_sublist _)

def math_IsNaN (k : Nat) (a0 : Nat) : Option (Bool) :=
 some (fne a0 a0)

theorem math_IsNaN_sim {k : Nat}  (a0 : Nat) {out : Bool} (hp : math_IsNaN k a0 = some out) : Sx.Fn Tryd.prog 54 [(Vg a0)] [] (fun w : Unit => (Vb out)) (fun w => []) := by
 unfold math_IsNaN at hp
 refine fn_of Tryd.func54 rfl Tryd.ntmps54 rfl fun E hM => ?_
 refine cr fun K1 hK1 => ?_
 refine s0 (rd_assign' rfl) ?_
 refine nk hK1 ?_
 refine cr fun K2 hK2 => ?_
 refine s0 (rd_move' rfl) ?_
 refine s0 (rd_move' rfl) ?_
 refine s0 (rd_bin' rfl rfl eg_flt ru_fne) ?_
 refine s0 (rd_assign' rfl) ?_
 refine nk hK2 ?_
 refine cx_retc' ?_
 replace hp := Option.some.inj hp
 subst hp
 refine tx_pick' (L' := [(2, (Vb (fne a0 a0)))]) (H' := []) [] (sub_cons rfl sub_nil) (by decide) pick_nil ?_
 exact tx_ret1' Tryd.results54 rfl () (rv_tmp' rfl) (List.Sublist.refl _)

def math_Abs (k : Nat) (a0 : Nat) : Option (Nat) :=
 some (ffrom (iandn .u64 (fbits a0) 9223372036854775808))

theorem math_Abs_sim {k : Nat}  (a0 : Nat) {out : Nat} (hp : math_Abs k a0 = some out) : Sx.Fn Tryd.prog 19 [(Vg a0)] [] (fun w : Unit => (Vg out)) (fun w => []) := by
 unfold math_Abs at hp
 refine fn_of Tryd.func19 rfl Tryd.ntmps19 rfl fun E hM => ?_
 refine cr fun K1 hK1 => ?_
 refine s0 (rd_assign' rfl) ?_
 refine nk hK1 ?_
 refine cr fun K2 hK2 => ?_
 refine s0 (rd_move' rfl) ?_
 refine s0 (rd_ext' (us := [.float .f64 a0]) rfl (ext39 ex_bits)) ?_
 refine s0 (rd_bin' rfl rfl eg_int ru_andn) ?_
 refine s0 (rd_ext' (us := [.int .u64 (iandn .u64 (fbits a0) 9223372036854775808)]) rfl (ext38 ex_from)) ?_
 refine s0 (rd_assign' rfl) ?_
 refine nk hK2 ?_
 refine cx_retc' ?_
 replace hp := Option.some.inj hp
 subst hp
 refine tx_pick' (L' := [(2, (Vg (ffrom (iandn .u64 (fbits a0) 9223372036854775808))))]) (H' := []) [] (sub_cons rfl sub_nil) (by decide) pick_nil ?_
 exact tx_ret1' Tryd.results19 rfl () (rv_tmp' rfl) (List.Sublist.refl _)

def math_IsInf_j1 (k : Nat) (x1 : Nat) : Option (Bool) :=
 some (fgt x1 9218868437227405311)
def math_IsInf (k : Nat) (a0 : Nat) (a1 : Int) : Option (Bool) :=
 br (decide (a1 = 0))
  ((math_Abs k a0) >>= fun r8 =>
  math_IsInf_j1 k r8)
  (br (decide (a1 < 0))
   (math_IsInf_j1 k (fneg a0))
   (math_IsInf_j1 k a0))

theorem math_IsInf_sim {k : Nat}  (a0 : Nat) (a1 : Int) {out : Bool} (hp : math_IsInf k a0 a1 = some out) : Sx.Fn Tryd.prog 55 [(Vg a0), (Vi a1)] [] (fun w : Unit => (Vb out)) (fun w => []) := by
 unfold math_IsInf at hp
 refine fn_of Tryd.func55 rfl Tryd.ntmps55 rfl fun E hM => ?_
 refine cr fun K1 hK1 => ?_
 refine s0 (rd_assign' rfl) ?_
 refine nk hK1 ?_
 refine cx_join' (fun (v1 : Nat) => (⟨15, [], [(0, (Vg v1))], []⟩ : St)) (fun (v1 : Nat) => math_IsInf_j1 k v1 = some out) ?_ ?_
 ·rintro x1 hp
  replace hp : math_IsInf_j1 k x1 = some out := hp
  unfold math_IsInf_j1 at hp
  refine cr fun K5 hK5 => ?_
  refine s0 (rd_move' rfl) ?_
  refine s0 (rd_bin' rfl rfl eg_flt ru_fgt) ?_
  refine s0 (rd_assign' rfl) ?_
  refine nk hK5 ?_
  refine cx_retc' ?_
  replace hp := Option.some.inj hp
  subst hp
  refine tx_pick' (L' := [(4, (Vb (fgt x1 9218868437227405311)))]) (H' := []) [] (sub_cons rfl sub_nil) (by decide) pick_nil ?_
  exact tx_ret1' Tryd.results55 rfl () (rv_tmp' rfl) (List.Sublist.refl _)
 intro K2 hK2
 refine cr fun K3 hK3 => ?_
 refine s0 (rd_move' rfl) ?_
 refine s0 (rd_bin' rfl rfl eg_int ru_eql) ?_
 refine nk hK3 ?_
 refine cx_cond' rfl (fun h1 => ?_) (fun h1 => ?_)
 ·replace hp := (br_t h1).symm.trans hp
  refine cx_region' ?_
  refine s0 (rd_move' rfl) ?_
  obtain ⟨r8, hr8, hp⟩ := bind_some hp
  refine sx_ox' (ox_calln' (ent_fn' Tryd.func19 isn19 rfl rfl) (math_Abs_sim _ hr8 : Sx.Fn Tryd.prog 19 [(Vg a0)] [] (fun x : Unit => (Vg r8)) (fun x => [])) (Hn := fun x : Unit => []) (fun _ => rfl) rfl rfl) (wt_none' rfl) fun ⟨⟩ => ?_
  refine s0 (rd_assign' rfl) ?_
  refine sx_nil' ?_
  show TX E K2 _
  exact tx_pick' [] (sub_cons rfl sub_nil) (by decide) pick_nil (hK2 r8 hp)
 replace hp := (br_f h1).symm.trans hp
 refine cr fun K4 hK4 => ?_
 refine s0 (rd_move' rfl) ?_
 refine s0 (rd_bin' rfl rfl eg_int ru_lss) ?_
 refine nk hK4 ?_
 refine cx_cond' rfl (fun h2 => ?_) (fun h2 => ?_)
 ·replace hp := (br_t h2).symm.trans hp
  refine cx_region' ?_
  refine s0 (rd_move' rfl) ?_
  refine s0 (rd_un' rfl ru_fneg) ?_
  refine s0 (rd_assign' rfl) ?_
  refine sx_nil' ?_
  show TX E K2 _
  exact tx_pick' [] (sub_cons rfl sub_nil) (by decide) pick_nil (hK2 (fneg a0) hp)
 replace hp := (br_f h2).symm.trans hp
 refine cx_skip' ?_
 show TX E K2 _
 exact tx_pick' [] (sub_cons rfl sub_nil) (by decide) pick_nil (hK2 a0 hp)

def math_NaN (k : Nat)  : Option (Nat) :=
 some (ffrom 9221120237041090561)

theorem math_NaN_sim {k : Nat}   {out : Nat} (hp : math_NaN k = some out) : Sx.Fn Tryd.prog 56 [] [] (fun w : Unit => (Vg out)) (fun w => []) := by
 unfold math_NaN at hp
 refine fn_of Tryd.func56 rfl Tryd.ntmps56 rfl fun E hM => ?_
 refine cr fun K1 hK1 => ?_
 refine s0 (rd_assign' rfl) ?_
 refine nk hK1 ?_
 refine cr fun K2 hK2 => ?_
 refine s0 (rd_ext' (us := [.int .u64 9221120237041090561]) rfl (ext38 ex_from)) ?_
 refine s0 (rd_assign' rfl) ?_
 refine nk hK2 ?_
 refine cx_retc' ?_
 replace hp := Option.some.inj hp
 subst hp
 refine tx_pick' (L' := [(0, (Vg (ffrom 9221120237041090561)))]) (H' := []) [] (sub_cons rfl sub_nil) (by decide) pick_nil ?_
 exact tx_ret1' Tryd.results56 rfl () (rv_tmp' rfl) (List.Sublist.refl _)

def math_Sincos_j9 (k : Nat) (x13 : Nat) (x14 : Nat) : Option (Nat × Nat) :=
 some (x14, x13)
def math_Sincos_j8 (k : Nat) (x6 : Bool) (x11 : Nat) (x13 : Nat) : Option (Nat × Nat) :=
 br x6
  (math_Sincos_j9 k x13 (fneg x11))
  (math_Sincos_j9 k x13 x11)
def math_Sincos_j7 (k : Nat) (x9 : Bool) (x6 : Bool) (x11 : Nat) (x12 : Nat) : Option (Nat × Nat) :=
 br x9
  (math_Sincos_j8 k x6 x11 (fneg x12))
  (math_Sincos_j8 k x6 x11 x12)
def math_Sincos_j6 (k : Nat) (x9 : Bool) (x6 : Bool) (r107 : Nat) (r140 : Nat) (x10 : Bool) : Option (Nat × Nat) :=
 br x10
  (math_Sincos_j7 k x9 x6 r107 r140)
  (math_Sincos_j7 k x9 x6 r140 r107)
def math_Sincos_j5 (k : Nat) (r57 : Nat) (x8 : Int) (x6 : Bool) (x9 : Bool) : Option (Nat × Nat) :=
 (some (gmul r57 r57)) >>= fun r72 =>
 (some (gmul 4602678819172646912 r72)) >>= fun r74 =>
 (some (gsub 4607182418800017408 r74)) >>= fun r75 =>
 (some (gmul r72 r72)) >>= fun r78 =>
 (some (gmul 13666448263388469915 r72)) >>= fun r82 =>
 (some (gadd r82 4477121864728985349)) >>= fun r85 =>
 (some (gmul r85 r72)) >>= fun r87 =>
 (some (gadd r87 13732177093698800582)) >>= fun r90 =>
 (some (gmul r90 r72)) >>= fun r92 =>
 (some (gadd r92 4537941361668146421)) >>= fun r95 =>
 (some (gmul r95 r72)) >>= fun r97 =>
 (some (gadd r97 13787419979223748497)) >>= fun r100 =>
 (some (gmul r100 r72)) >>= fun r102 =>
 (some (gadd r102 4586165620538955083)) >>= fun r105 =>
 (some (gmul r78 r105)) >>= fun r106 =>
 (some (gadd r75 r106)) >>= fun r107 =>
 (some (gmul r57 r72)) >>= fun r111 =>
 (some (gmul 4460209587652500685 r72)) >>= fun r115 =>
 (some (gadd r115 13716528389658582877)) >>= fun r118 =>
 (some (gmul r118 r72)) >>= fun r120 =>
 (some (gadd r120 4523617212962785441)) >>= fun r123 =>
 (some (gmul r123 r72)) >>= fun r125 =>
 (some (gadd r125 13774824197404483331)) >>= fun r128 =>
 (some (gmul r128 r72)) >>= fun r130 =>
 (some (gadd r130 4575957461383575504)) >>= fun r133 =>
 (some (gmul r133 r72)) >>= fun r135 =>
 (some (gadd r135 13818544856648471880)) >>= fun r138 =>
 (some (gmul r111 r138)) >>= fun r139 =>
 (some (gadd r57 r139)) >>= fun r140 =>
 br (decide (x8 = 1))
  (math_Sincos_j6 k x9 x6 r107 r140 true)
  (math_Sincos_j6 k x9 x6 r107 r140 (decide (x8 = 2)))
def math_Sincos_j4 (k : Nat) (r57 : Nat) (x6 : Bool) (x7 : Bool) (x8 : Int) : Option (Nat × Nat) :=
 br (decide (1 < x8))
  (math_Sincos_j5 k r57 x8 x6 (!x7))
  (math_Sincos_j5 k r57 x8 x6 x7)
def math_Sincos_j3 (k : Nat) (x2 : Nat) (x3 : Bool) (x4 : Int) (x5 : Nat) : Option (Nat × Nat) :=
 (some (gmul x5 4605249456957292544)) >>= fun r50 =>
 (some (gsub x2 r50)) >>= fun r51 =>
 (some (gmul x5 4495793288086814720)) >>= fun r53 =>
 (some (gsub r51 r53)) >>= fun r54 =>
 (some (gmul x5 4388835458085048688)) >>= fun r56 =>
 (some (gsub r54 r56)) >>= fun r57 =>
 br (decide (3 < (iand .u64 x4 7)))
  (math_Sincos_j4 k r57 (!x3) (!false) (isub .u64 (iand .u64 x4 7) 4))
  (math_Sincos_j4 k r57 x3 false (iand .u64 x4 7))
def math_Sincos_j2 (k : Nat) (x2 : Nat) (x3 : Bool) : Option (Nat × Nat) :=
 br (fge x2 4737786807993761792)
  (none)
  ((some (gmul x2 4608412980311869571)) >>= fun r35 =>
  (num r35) >>= fun u1 =>
  (f2i .u64 r35) >>= fun r36 =>
  br (decide ((iand .u64 r36 1) = 1))
   ((some (gadd (i2f r36) 4607182418800017408)) >>= fun r45 =>
   math_Sincos_j3 k x2 x3 (iadd .u64 r36 1) r45)
   (math_Sincos_j3 k x2 x3 r36 (i2f r36)))
def math_Sincos_j1 (k : Nat) (a0 : Nat) (x1 : Bool) : Option (Nat × Nat) :=
 br x1
  ((math_NaN k) >>= fun r21 =>
  (math_NaN k) >>= fun r22 =>
  some (r21, r22))
  (br (flt a0 0)
   (math_Sincos_j2 k (fneg a0) true)
   (math_Sincos_j2 k a0 false))
def math_Sincos (k : Nat) (a0 : Nat) : Option (Nat × Nat) :=
 br (feq a0 0)
  (some (a0, 4607182418800017408))
  ((math_IsNaN k a0) >>= fun r16 =>
  br r16
   (math_Sincos_j1 k a0 true)
   ((math_IsInf k a0 0) >>= fun r19 =>
   math_Sincos_j1 k a0 r19))

theorem math_Sincos_sim {k : Nat}  (a0 : Nat) {out : Nat × Nat} (hp : math_Sincos k a0 = some out) : Sx.Fn Tryd.prog 69 [(Vg a0)] [] (fun w : Unit => (Tu [(Fl out.1), (Fl out.2)])) (fun w => []) := by
 unfold math_Sincos at hp
 refine fn_of Tryd.func69 rfl Tryd.ntmps69 rfl fun E hM => ?_
 refine cr fun K1 hK1 => ?_
 refine s0 (rd_assign' rfl) ?_
 refine s0 (rd_assign' rfl) ?_
 refine nk hK1 ?_
 refine cx_seq' fun K2 hK2 => ?_
 refine cx_block' ?_
 refine cr fun K3 hK3 => ?_
 refine s0 (rd_move' rfl) ?_
 refine s0 (rd_bin' rfl rfl eg_flt ru_feq) ?_
 refine s0 (rd_assign' rfl) ?_
 refine nk hK3 ?_
 refine cx_cond' rfl (fun h1 => ?_) (fun h1 => ?_)
 ·replace hp := (br_t h1).symm.trans hp
  refine cr fun K4 hK4 => ?_
  refine s0 (rd_move' rfl) ?_
  refine s0 (rd_assign' rfl) ?_
  refine s0 (rd_assign' rfl) ?_
  refine nk hK4 ?_
  refine cx_retc' ?_
  replace hp := Option.some.inj hp
  subst hp
  refine tx_pick' (L' := [(2, (Vg a0)), (3, (Vg 4607182418800017408))]) (H' := []) [] (sub_cons rfl (sub_cons rfl sub_nil)) (by decide) pick_nil ?_
  exact tx_ret2' Tryd.results69 rfl () (rv_imp' (x := (Vg a0)) (y := (Fl a0)) (rv_tmp' rfl) imp_vf) (rv_imp' (x := (Vg 4607182418800017408)) (y := (Fl 4607182418800017408)) (rv_tmp' rfl) imp_vf) rfl (List.Sublist.refl _)
 replace hp := (br_f h1).symm.trans hp
 refine cr fun K5 hK5 => ?_
 refine s0 (rd_move' rfl) ?_
 obtain ⟨r16, hr16, hp⟩ := bind_some hp
 refine sx_ox' (ox_calln' (ent_fn' Tryd.func54 isn54 rfl rfl) (math_IsNaN_sim _ hr16 : Sx.Fn Tryd.prog 54 [(Vg a0)] [] (fun x : Unit => (Vb r16)) (fun x => [])) (Hn := fun x : Unit => []) (fun _ => rfl) rfl rfl) (wt_none' rfl) fun ⟨⟩ => ?_
 refine s0 (rd_move' rfl) ?_
 refine sx_cutn' 3 (fun (v1 : Bool) => (⟨155, [], [(0, (Vg a0)), (20, (Vb v1))], []⟩ : St)) (fun (v1 : Bool) => math_Sincos_j1 k a0 v1 = some out) ?_ ?_
 ·rintro x1 hp
  replace hp : math_Sincos_j1 k a0 x1 = some out := hp
  unfold math_Sincos_j1 at hp
  refine s0 (rd_assign' rfl) ?_
  refine nk hK5 ?_
  refine cx_cond' rfl (fun h3 => ?_) (fun h3 => ?_)
  ·replace hp := (br_t h3).symm.trans hp
   refine cr fun K7 hK7 => ?_
   obtain ⟨r21, hr21, hp⟩ := bind_some hp
   refine sx_ox' (ox_calln' (ent_fn' Tryd.func56 isn56 rfl rfl) (math_NaN_sim hr21 : Sx.Fn Tryd.prog 56 [] [] (fun x : Unit => (Vg r21)) (fun x => [])) (Hn := fun x : Unit => []) (fun _ => rfl) rfl rfl) (wt_none' rfl) fun ⟨⟩ => ?_
   obtain ⟨r22, hr22, hp⟩ := bind_some hp
   refine sx_ox' (ox_calln' (ent_fn' Tryd.func56 isn56 rfl rfl) (math_NaN_sim hr22 : Sx.Fn Tryd.prog 56 [] [] (fun x : Unit => (Vg r22)) (fun x => [])) (Hn := fun x : Unit => []) (fun _ => rfl) rfl rfl) (wt_none' rfl) fun ⟨⟩ => ?_
   refine s0 (rd_assign' rfl) ?_
   refine s0 (rd_assign' rfl) ?_
   refine nk hK7 ?_
   refine cx_retc' ?_
   replace hp := Option.some.inj hp
   subst hp
   refine tx_pick' (L' := [(2, (Vg r21)), (3, (Vg r22))]) (H' := []) [] (sub_cons rfl (sub_cons rfl sub_nil)) (by decide) pick_nil ?_
   exact tx_ret2' Tryd.results69 rfl () (rv_imp' (x := (Vg r21)) (y := (Fl r21)) (rv_tmp' rfl) imp_vf) (rv_imp' (x := (Vg r22)) (y := (Fl r22)) (rv_tmp' rfl) imp_vf) rfl (List.Sublist.refl _)
  replace hp := (br_f h3).symm.trans hp
  refine cx_skip' ?_
  show TX E K2 _
  refine tx_k' hK2 ?_
  refine cr fun K8 hK8 => ?_
  refine s0 (rd_assign' rfl) ?_
  refine s0 (rd_assign' rfl) ?_
  refine nk hK8 ?_
  refine cx_join' (fun (v2 : Nat × Bool) => (⟨155, [], [(0, (Vg v2.1)), (4, (Vb v2.2)), (5, (Vb false))], []⟩ : St)) (fun (v2 : Nat × Bool) => math_Sincos_j2 k v2.1 v2.2 = some out) ?_ ?_
  ·rintro ⟨x2, x3⟩ hp
   replace hp : math_Sincos_j2 k x2 x3 = some out := hp
   unfold math_Sincos_j2 at hp
   refine cr fun K12 hK12 => ?_
   refine s0 (rd_assign' rfl) ?_
   refine nk hK12 ?_
   refine cr fun K13 hK13 => ?_
   refine s0 (rd_assign' rfl) ?_
   refine s0 (rd_assign' rfl) ?_
   refine nk hK13 ?_
   refine cx_seq' fun K14 hK14 => ?_
   refine cr fun K15 hK15 => ?_
   refine s0 (rd_move' rfl) ?_
   refine s0 (rd_bin' rfl rfl eg_flt ru_fge) ?_
   refine nk hK15 ?_
   refine cx_cond' rfl (fun h5 => ?_) (fun h5 => ?_)
   ·replace hp := (br_t h5).symm.trans hp
    cases hp
   replace hp := (br_f h5).symm.trans hp
   refine cr fun K16 hK16 => ?_
   refine s0 (rd_move' rfl) ?_
   obtain ⟨r35, hr35, hp⟩ := bind_some hp
   refine sx_ox' (ox_fop' (.inr (.inr (.inl rfl))) (fl_v rfl) (fl_v rfl) (Option.some.inj hr35) rfl rfl) (wt_none' rfl) fun _ => ?_
   obtain ⟨u1, hu1, hp⟩ := bind_some hp
   refine tx_slot' 35 (y := (Vg r35)) rfl (imp_num (num_some hu1).2) ?_
   obtain ⟨r36, hr36, hp⟩ := bind_some hp
   refine s0 (rd_conv' rfl (ru_f2i hr36 (by rw [Tryd.underlying22]; rfl) Tryd.underlying70)) ?_
   refine s0 (rd_assign' rfl) ?_
   refine nk hK16 ?_
   refine cr fun K17 hK17 => ?_
   refine s0 (rd_move' rfl) ?_
   refine s0 (rd_conv' rfl (ru_i2f (by rw [Tryd.underlying70]; rfl) Tryd.underlying22)) ?_
   refine s0 (rd_assign' rfl) ?_
   refine nk hK17 ?_
   refine cx_join' (fun (v3 : Int × Nat) => (⟨155, [], [(0, (Vg x2)), (4, (Vb x3)), (5, (Vb false)), (6, (Vl (.int .u64 v3.1))), (7, (Fl v3.2))], []⟩ : St)) (fun (v3 : Int × Nat) => math_Sincos_j3 k x2 x3 v3.1 v3.2 = some out) ?_ ?_
   ·rintro ⟨x4, x5⟩ hp
    replace hp : math_Sincos_j3 k x2 x3 x4 x5 = some out := hp
    unfold math_Sincos_j3 at hp
    refine cr fun K21 hK21 => ?_
    refine s0 (rd_move' rfl) ?_
    refine s0 (rd_bin' rfl rfl eg_int ru_and) ?_
    refine s0 (rd_assign' rfl) ?_
    refine nk hK21 ?_
    refine cx_region' ?_
    refine s0 (rd_move' rfl) ?_
    refine s0 (rd_move' rfl) ?_
    obtain ⟨r50, hr50, hp⟩ := bind_some hp
    refine sx_ox' (ox_fop' (.inr (.inr (.inl rfl))) (fl_f rfl) (fl_v rfl) (Option.some.inj hr50) rfl rfl) (wt_none' rfl) fun _ => ?_
    obtain ⟨r51, hr51, hp⟩ := bind_some hp
    refine sx_ox' (ox_fop' (.inr (.inl rfl)) (fl_v rfl) (fl_f rfl) (Option.some.inj hr51) rfl rfl) (wt_none' rfl) fun _ => ?_
    refine s0 (rd_move' rfl) ?_
    obtain ⟨r53, hr53, hp⟩ := bind_some hp
    refine sx_ox' (ox_fop' (.inr (.inr (.inl rfl))) (fl_f rfl) (fl_v rfl) (Option.some.inj hr53) rfl rfl) (wt_none' rfl) fun _ => ?_
    obtain ⟨r54, hr54, hp⟩ := bind_some hp
    refine sx_ox' (ox_fop' (.inr (.inl rfl)) (fl_f rfl) (fl_f rfl) (Option.some.inj hr54) rfl rfl) (wt_none' rfl) fun _ => ?_
    refine s0 (rd_move' rfl) ?_
    obtain ⟨r56, hr56, hp⟩ := bind_some hp
    refine sx_ox' (ox_fop' (.inr (.inr (.inl rfl))) (fl_f rfl) (fl_v rfl) (Option.some.inj hr56) rfl rfl) (wt_none' rfl) fun _ => ?_
    obtain ⟨r57, hr57, hp⟩ := bind_some hp
    refine sx_ox' (ox_fop' (.inr (.inl rfl)) (fl_f rfl) (fl_f rfl) (Option.some.inj hr57) rfl rfl) (wt_none' rfl) fun _ => ?_
    refine s0 (rd_assign' rfl) ?_
    refine nk hK14 ?_
    refine cx_join' (fun (v4 : Bool × Bool × Int) => (⟨155, [], [(4, (Vb v4.1)), (5, (Vb v4.2.1)), (6, (Vl (.int .u64 v4.2.2))), (8, (Fl r57))], []⟩ : St)) (fun (v4 : Bool × Bool × Int) => math_Sincos_j4 k r57 v4.1 v4.2.1 v4.2.2 = some out) ?_ ?_
    ·rintro ⟨x6, x7, x8⟩ hp
     replace hp : math_Sincos_j4 k r57 x6 x7 x8 = some out := hp
     unfold math_Sincos_j4 at hp
     refine cx_join' (fun (v5 : Bool) => (⟨155, [], [(4, (Vb x6)), (5, (Vb v5)), (6, (Vl (.int .u64 x8))), (8, (Fl r57))], []⟩ : St)) (fun (v5 : Bool) => math_Sincos_j5 k r57 x8 x6 v5 = some out) ?_ ?_
     ·rintro x9 hp
      replace hp : math_Sincos_j5 k r57 x8 x6 x9 = some out := hp
      unfold math_Sincos_j5 at hp
      refine cr fun K27 hK27 => ?_
      refine s0 (rd_move' rfl) ?_
      refine s0 (rd_move' rfl) ?_
      obtain ⟨r72, hr72, hp⟩ := bind_some hp
      refine sx_ox' (ox_fop' (.inr (.inr (.inl rfl))) (fl_f rfl) (fl_f rfl) (Option.some.inj hr72) rfl rfl) (wt_none' rfl) fun _ => ?_
      refine s0 (rd_assign' rfl) ?_
      refine nk hK27 ?_
      refine cr fun K28 hK28 => ?_
      refine s0 (rd_move' rfl) ?_
      obtain ⟨r74, hr74, hp⟩ := bind_some hp
      refine sx_ox' (ox_fop' (.inr (.inr (.inl rfl))) (fl_v rfl) (fl_f rfl) (Option.some.inj hr74) rfl rfl) (wt_none' rfl) fun _ => ?_
      obtain ⟨r75, hr75, hp⟩ := bind_some hp
      refine sx_ox' (ox_fop' (.inr (.inl rfl)) (fl_v rfl) (fl_f rfl) (Option.some.inj hr75) rfl rfl) (wt_none' rfl) fun _ => ?_
      refine s0 (rd_move' rfl) ?_
      refine s0 (rd_move' rfl) ?_
      obtain ⟨r78, hr78, hp⟩ := bind_some hp
      refine sx_ox' (ox_fop' (.inr (.inr (.inl rfl))) (fl_f rfl) (fl_f rfl) (Option.some.inj hr78) rfl rfl) (wt_none' rfl) fun _ => ?_
      refine s0 (rd_ixa' (p' := ⟨1, 0, none⟩) rfl rfl (by decide) (by decide) Tryd.underlying88 info22 rfl) ?_
      refine s0 (rd_gloadat' rfl gm1 flat22 rfl) ?_
      refine s0 (rd_move' rfl) ?_
      obtain ⟨r82, hr82, hp⟩ := bind_some hp
      refine sx_ox' (ox_fop' (.inr (.inr (.inl rfl))) (fl_v rfl) (fl_f rfl) (Option.some.inj hr82) rfl rfl) (wt_none' rfl) fun _ => ?_
      refine s0 (rd_ixa' (p' := ⟨1, 1, none⟩) rfl rfl (by decide) (by decide) Tryd.underlying88 info22 rfl) ?_
      refine s0 (rd_gloadat' rfl gm1 flat22 rfl) ?_
      obtain ⟨r85, hr85, hp⟩ := bind_some hp
      refine sx_ox' (ox_fop' (.inl rfl) (fl_f rfl) (fl_v rfl) (Option.some.inj hr85) rfl rfl) (wt_none' rfl) fun _ => ?_
      refine s0 (rd_move' rfl) ?_
      obtain ⟨r87, hr87, hp⟩ := bind_some hp
      refine sx_ox' (ox_fop' (.inr (.inr (.inl rfl))) (fl_f rfl) (fl_f rfl) (Option.some.inj hr87) rfl rfl) (wt_none' rfl) fun _ => ?_
      refine s0 (rd_ixa' (p' := ⟨1, 2, none⟩) rfl rfl (by decide) (by decide) Tryd.underlying88 info22 rfl) ?_
      refine s0 (rd_gloadat' rfl gm1 flat22 rfl) ?_
      obtain ⟨r90, hr90, hp⟩ := bind_some hp
      refine sx_ox' (ox_fop' (.inl rfl) (fl_f rfl) (fl_v rfl) (Option.some.inj hr90) rfl rfl) (wt_none' rfl) fun _ => ?_
      refine s0 (rd_move' rfl) ?_
      obtain ⟨r92, hr92, hp⟩ := bind_some hp
      refine sx_ox' (ox_fop' (.inr (.inr (.inl rfl))) (fl_f rfl) (fl_f rfl) (Option.some.inj hr92) rfl rfl) (wt_none' rfl) fun _ => ?_
      refine s0 (rd_ixa' (p' := ⟨1, 3, none⟩) rfl rfl (by decide) (by decide) Tryd.underlying88 info22 rfl) ?_
      refine s0 (rd_gloadat' rfl gm1 flat22 rfl) ?_
      obtain ⟨r95, hr95, hp⟩ := bind_some hp
      refine sx_ox' (ox_fop' (.inl rfl) (fl_f rfl) (fl_v rfl) (Option.some.inj hr95) rfl rfl) (wt_none' rfl) fun _ => ?_
      refine s0 (rd_move' rfl) ?_
      obtain ⟨r97, hr97, hp⟩ := bind_some hp
      refine sx_ox' (ox_fop' (.inr (.inr (.inl rfl))) (fl_f rfl) (fl_f rfl) (Option.some.inj hr97) rfl rfl) (wt_none' rfl) fun _ => ?_
      refine s0 (rd_ixa' (p' := ⟨1, 4, none⟩) rfl rfl (by decide) (by decide) Tryd.underlying88 info22 rfl) ?_
      refine s0 (rd_gloadat' rfl gm1 flat22 rfl) ?_
      obtain ⟨r100, hr100, hp⟩ := bind_some hp
      refine sx_ox' (ox_fop' (.inl rfl) (fl_f rfl) (fl_v rfl) (Option.some.inj hr100) rfl rfl) (wt_none' rfl) fun _ => ?_
      refine s0 (rd_move' rfl) ?_
      obtain ⟨r102, hr102, hp⟩ := bind_some hp
      refine sx_ox' (ox_fop' (.inr (.inr (.inl rfl))) (fl_f rfl) (fl_f rfl) (Option.some.inj hr102) rfl rfl) (wt_none' rfl) fun _ => ?_
      refine s0 (rd_ixa' (p' := ⟨1, 5, none⟩) rfl rfl (by decide) (by decide) Tryd.underlying88 info22 rfl) ?_
      refine s0 (rd_gloadat' rfl gm1 flat22 rfl) ?_
      obtain ⟨r105, hr105, hp⟩ := bind_some hp
      refine sx_ox' (ox_fop' (.inl rfl) (fl_f rfl) (fl_v rfl) (Option.some.inj hr105) rfl rfl) (wt_none' rfl) fun _ => ?_
      obtain ⟨r106, hr106, hp⟩ := bind_some hp
      refine sx_ox' (ox_fop' (.inr (.inr (.inl rfl))) (fl_f rfl) (fl_f rfl) (Option.some.inj hr106) rfl rfl) (wt_none' rfl) fun _ => ?_
      obtain ⟨r107, hr107, hp⟩ := bind_some hp
      refine sx_ox' (ox_fop' (.inl rfl) (fl_f rfl) (fl_f rfl) (Option.some.inj hr107) rfl rfl) (wt_none' rfl) fun _ => ?_
      refine s0 (rd_assign' rfl) ?_
      refine nk hK28 ?_
      refine cr fun K29 hK29 => ?_
      refine s0 (rd_move' rfl) ?_
      refine s0 (rd_move' rfl) ?_
      refine s0 (rd_move' rfl) ?_
      obtain ⟨r111, hr111, hp⟩ := bind_some hp
      refine sx_ox' (ox_fop' (.inr (.inr (.inl rfl))) (fl_f rfl) (fl_f rfl) (Option.some.inj hr111) rfl rfl) (wt_none' rfl) fun _ => ?_
      refine s0 (rd_ixa' (p' := ⟨2, 0, none⟩) rfl rfl (by decide) (by decide) Tryd.underlying88 info22 rfl) ?_
      refine s0 (rd_gloadat' rfl gm2 flat22 rfl) ?_
      refine s0 (rd_move' rfl) ?_
      obtain ⟨r115, hr115, hp⟩ := bind_some hp
      refine sx_ox' (ox_fop' (.inr (.inr (.inl rfl))) (fl_v rfl) (fl_f rfl) (Option.some.inj hr115) rfl rfl) (wt_none' rfl) fun _ => ?_
      refine s0 (rd_ixa' (p' := ⟨2, 1, none⟩) rfl rfl (by decide) (by decide) Tryd.underlying88 info22 rfl) ?_
      refine s0 (rd_gloadat' rfl gm2 flat22 rfl) ?_
      obtain ⟨r118, hr118, hp⟩ := bind_some hp
      refine sx_ox' (ox_fop' (.inl rfl) (fl_f rfl) (fl_v rfl) (Option.some.inj hr118) rfl rfl) (wt_none' rfl) fun _ => ?_
      refine s0 (rd_move' rfl) ?_
      obtain ⟨r120, hr120, hp⟩ := bind_some hp
      refine sx_ox' (ox_fop' (.inr (.inr (.inl rfl))) (fl_f rfl) (fl_f rfl) (Option.some.inj hr120) rfl rfl) (wt_none' rfl) fun _ => ?_
      refine s0 (rd_ixa' (p' := ⟨2, 2, none⟩) rfl rfl (by decide) (by decide) Tryd.underlying88 info22 rfl) ?_
      refine s0 (rd_gloadat' rfl gm2 flat22 rfl) ?_
      obtain ⟨r123, hr123, hp⟩ := bind_some hp
      refine sx_ox' (ox_fop' (.inl rfl) (fl_f rfl) (fl_v rfl) (Option.some.inj hr123) rfl rfl) (wt_none' rfl) fun _ => ?_
      refine s0 (rd_move' rfl) ?_
      obtain ⟨r125, hr125, hp⟩ := bind_some hp
      refine sx_ox' (ox_fop' (.inr (.inr (.inl rfl))) (fl_f rfl) (fl_f rfl) (Option.some.inj hr125) rfl rfl) (wt_none' rfl) fun _ => ?_
      refine s0 (rd_ixa' (p' := ⟨2, 3, none⟩) rfl rfl (by decide) (by decide) Tryd.underlying88 info22 rfl) ?_
      refine s0 (rd_gloadat' rfl gm2 flat22 rfl) ?_
      obtain ⟨r128, hr128, hp⟩ := bind_some hp
      refine sx_ox' (ox_fop' (.inl rfl) (fl_f rfl) (fl_v rfl) (Option.some.inj hr128) rfl rfl) (wt_none' rfl) fun _ => ?_
      refine s0 (rd_move' rfl) ?_
      obtain ⟨r130, hr130, hp⟩ := bind_some hp
      refine sx_ox' (ox_fop' (.inr (.inr (.inl rfl))) (fl_f rfl) (fl_f rfl) (Option.some.inj hr130) rfl rfl) (wt_none' rfl) fun _ => ?_
      refine s0 (rd_ixa' (p' := ⟨2, 4, none⟩) rfl rfl (by decide) (by decide) Tryd.underlying88 info22 rfl) ?_
      refine s0 (rd_gloadat' rfl gm2 flat22 rfl) ?_
      obtain ⟨r133, hr133, hp⟩ := bind_some hp
      refine sx_ox' (ox_fop' (.inl rfl) (fl_f rfl) (fl_v rfl) (Option.some.inj hr133) rfl rfl) (wt_none' rfl) fun _ => ?_
      refine s0 (rd_move' rfl) ?_
      obtain ⟨r135, hr135, hp⟩ := bind_some hp
      refine sx_ox' (ox_fop' (.inr (.inr (.inl rfl))) (fl_f rfl) (fl_f rfl) (Option.some.inj hr135) rfl rfl) (wt_none' rfl) fun _ => ?_
      refine s0 (rd_ixa' (p' := ⟨2, 5, none⟩) rfl rfl (by decide) (by decide) Tryd.underlying88 info22 rfl) ?_
      refine s0 (rd_gloadat' rfl gm2 flat22 rfl) ?_
      obtain ⟨r138, hr138, hp⟩ := bind_some hp
      refine sx_ox' (ox_fop' (.inl rfl) (fl_f rfl) (fl_v rfl) (Option.some.inj hr138) rfl rfl) (wt_none' rfl) fun _ => ?_
      obtain ⟨r139, hr139, hp⟩ := bind_some hp
      refine sx_ox' (ox_fop' (.inr (.inr (.inl rfl))) (fl_f rfl) (fl_f rfl) (Option.some.inj hr139) rfl rfl) (wt_none' rfl) fun _ => ?_
      obtain ⟨r140, hr140, hp⟩ := bind_some hp
      refine sx_ox' (ox_fop' (.inl rfl) (fl_f rfl) (fl_f rfl) (Option.some.inj hr140) rfl rfl) (wt_none' rfl) fun _ => ?_
      refine s0 (rd_assign' rfl) ?_
      refine nk hK29 ?_
      refine cx_join' (fun (v7 : Nat × Nat) => (⟨155, [], [(2, (Fl v7.1)), (3, (Fl v7.2)), (4, (Vb x6)), (5, (Vb x9))], []⟩ : St)) (fun (v7 : Nat × Nat) => math_Sincos_j7 k x9 x6 v7.1 v7.2 = some out) ?_ ?_
      ·rintro ⟨x11, x12⟩ hp
       replace hp : math_Sincos_j7 k x9 x6 x11 x12 = some out := hp
       unfold math_Sincos_j7 at hp
       refine cx_join' (fun (v8 : Nat) => (⟨155, [], [(2, (Fl x11)), (3, (Fl v8)), (4, (Vb x6))], []⟩ : St)) (fun (v8 : Nat) => math_Sincos_j8 k x6 x11 v8 = some out) ?_ ?_
       ·rintro x13 hp
        replace hp : math_Sincos_j8 k x6 x11 x13 = some out := hp
        unfold math_Sincos_j8 at hp
        refine cx_join' (fun (v9 : Nat) => (⟨155, [], [(2, (Fl v9)), (3, (Fl x13))], []⟩ : St)) (fun (v9 : Nat) => math_Sincos_j9 k x13 v9 = some out) ?_ ?_
        ·rintro x14 hp
         replace hp : math_Sincos_j9 k x13 x14 = some out := hp
         unfold math_Sincos_j9 at hp
         refine cx_retc' ?_
         replace hp := Option.some.inj hp
         subst hp
         refine tx_pick' (L' := [(2, (Fl x14)), (3, (Fl x13))]) (H' := []) [] (sub_cons rfl (sub_cons rfl sub_nil)) (by decide) pick_nil ?_
         exact tx_ret2' Tryd.results69 rfl () (rv_tmp' rfl) (rv_tmp' rfl) rfl (List.Sublist.refl _)
        intro K35 hK35
        refine cr fun K36 hK36 => ?_
        refine s0 (rd_move' rfl) ?_
        refine nk hK36 ?_
        refine cx_cond' rfl (fun h12 => ?_) (fun h12 => ?_)
        ·replace hp := (br_t h12).symm.trans hp
         refine cx_region' ?_
         refine s0 (rd_move' rfl) ?_
         refine s0 (rd_fneg_fl' (fl_f rfl)) ?_
         refine s0 (rd_assign' rfl) ?_
         refine sx_nil' ?_
         show TX E K35 _
         exact tx_pick' [] (sub_cons rfl (sub_cons rfl sub_nil)) (by decide) pick_nil (hK35 (fneg x11) hp)
        replace hp := (br_f h12).symm.trans hp
        refine cx_skip' ?_
        show TX E K35 _
        exact tx_pick' [] (sub_cons rfl (sub_cons rfl sub_nil)) (by decide) pick_nil (hK35 x11 hp)
       intro K33 hK33
       refine cr fun K34 hK34 => ?_
       refine s0 (rd_move' rfl) ?_
       refine nk hK34 ?_
       refine cx_cond' rfl (fun h11 => ?_) (fun h11 => ?_)
       ·replace hp := (br_t h11).symm.trans hp
        refine cx_region' ?_
        refine s0 (rd_move' rfl) ?_
        refine s0 (rd_fneg_fl' (fl_f rfl)) ?_
        refine s0 (rd_assign' rfl) ?_
        refine sx_nil' ?_
        show TX E K33 _
        exact tx_pick' [] (sub_cons rfl (sub_cons rfl (sub_cons rfl sub_nil))) (by decide) pick_nil (hK33 (fneg x12) hp)
       replace hp := (br_f h11).symm.trans hp
       refine cx_skip' ?_
       show TX E K33 _
       exact tx_pick' [] (sub_cons rfl (sub_cons rfl (sub_cons rfl sub_nil))) (by decide) pick_nil (hK33 x12 hp)
      intro K30 hK30
      refine cr fun K31 hK31 => ?_
      refine s0 (rd_move' rfl) ?_
      refine s0 (rd_bin' rfl rfl eg_int ru_eql) ?_
      refine s0 (rd_move' rfl) ?_
      refine sx_cutn' 3 (fun (v6 : Bool) => (⟨155, [], [(2, (Fl r140)), (3, (Fl r107)), (4, (Vb x6)), (5, (Vb x9)), (146, (Vb v6))], []⟩ : St)) (fun (v6 : Bool) => math_Sincos_j6 k x9 x6 r107 r140 v6 = some out) ?_ ?_
      ·rintro x10 hp
       replace hp : math_Sincos_j6 k x9 x6 r107 r140 x10 = some out := hp
       unfold math_Sincos_j6 at hp
       refine nk hK31 ?_
       refine cx_cond' rfl (fun h10 => ?_) (fun h10 => ?_)
       ·replace hp := (br_t h10).symm.trans hp
        refine cx_region' ?_
        refine s0 (rd_move' rfl) ?_
        refine s0 (rd_move' rfl) ?_
        refine s0 (rd_assign' rfl) ?_
        refine s0 (rd_assign' rfl) ?_
        refine sx_nil' ?_
        show TX E K30 _
        exact tx_pick' [] (sub_cons rfl (sub_cons rfl (sub_cons rfl (sub_cons rfl sub_nil)))) (by decide) pick_nil (hK30 (r107, r140) hp)
       replace hp := (br_f h10).symm.trans hp
       refine cx_skip' ?_
       show TX E K30 _
       exact tx_pick' [] (sub_cons rfl (sub_cons rfl (sub_cons rfl (sub_cons rfl sub_nil)))) (by decide) pick_nil (hK30 (r140, r107) hp)
      intro K32 hK32
      rcases br_cases hp with ⟨h9, hp⟩ | ⟨h9, hp⟩
      ·refine sx_skip' rfl rfl (wt_is' (wt_guard' rfl rfl rfl) (beq_tf h9)) ?_
       refine sx_skip' rfl rfl (wt_is' (wt_guard' rfl rfl rfl) (beq_tf h9)) ?_
       refine s0 (rd_pick_true' rfl h9 rfl) ?_
       refine sx_nil' ?_
       show TX E K32 _
       exact tx_pick' [] (sub_cons rfl (sub_cons rfl (sub_cons rfl (sub_cons rfl (sub_cons rfl sub_nil))))) (by decide) pick_nil (hK32 true hp)
      refine sx_rd' (rd_move' rfl) rfl rfl (wt_is' (wt_guard' rfl rfl rfl) (beq_ff h9)) ?_
      refine sx_rd' (rd_bin' rfl rfl eg_int ru_eql) rfl rfl (wt_is' (wt_guard' rfl rfl rfl) (beq_ff h9)) ?_
      refine s0 (rd_pick_false' rfl h9 rfl) ?_
      refine sx_nil' ?_
      show TX E K32 _
      exact tx_pick' [] (sub_cons rfl (sub_cons rfl (sub_cons rfl (sub_cons rfl (sub_cons rfl sub_nil))))) (by decide) pick_nil (hK32 (decide (x8 = 2)) hp)
     intro K25 hK25
     refine cr fun K26 hK26 => ?_
     refine s0 (rd_move' rfl) ?_
     refine s0 (rd_bin' rfl rfl eg_int ru_gtr) ?_
     refine nk hK26 ?_
     refine cx_cond' rfl (fun h8 => ?_) (fun h8 => ?_)
     ·replace hp := (br_t h8).symm.trans hp
      refine cx_region' ?_
      refine s0 (rd_move' rfl) ?_
      refine s0 (rd_un' rfl ru_not) ?_
      refine s0 (rd_assign' rfl) ?_
      refine sx_nil' ?_
      show TX E K25 _
      exact tx_pick' [] (sub_cons rfl (sub_cons rfl (sub_cons rfl (sub_cons rfl sub_nil)))) (by decide) pick_nil (hK25 (!x7) hp)
     replace hp := (br_f h8).symm.trans hp
     refine cx_skip' ?_
     show TX E K25 _
     exact tx_pick' [] (sub_cons rfl (sub_cons rfl (sub_cons rfl (sub_cons rfl sub_nil)))) (by decide) pick_nil (hK25 x7 hp)
    intro K22 hK22
    refine cr fun K23 hK23 => ?_
    refine s0 (rd_move' rfl) ?_
    refine s0 (rd_bin' rfl rfl eg_int ru_gtr) ?_
    refine nk hK23 ?_
    refine cx_cond' rfl (fun h7 => ?_) (fun h7 => ?_)
    ·replace hp := (br_t h7).symm.trans hp
     refine cr fun K24 hK24 => ?_
     refine s0 (rd_move' rfl) ?_
     refine s0 (rd_bin' rfl rfl eg_int ru_sub) ?_
     refine s0 (rd_assign' rfl) ?_
     refine nk hK24 ?_
     refine cx_region' ?_
     refine s0 (rd_move' rfl) ?_
     refine s0 (rd_un' rfl ru_not) ?_
     refine s0 (rd_move' rfl) ?_
     refine s0 (rd_un' rfl ru_not) ?_
     refine s0 (rd_assign' rfl) ?_
     refine s0 (rd_assign' rfl) ?_
     refine sx_nil' ?_
     show TX E K22 _
     exact tx_pick' [] (sub_cons rfl (sub_cons rfl (sub_cons rfl (sub_cons rfl sub_nil)))) (by decide) pick_nil (hK22 ((!x3), (!false), (isub .u64 (iand .u64 x4 7) 4)) hp)
    replace hp := (br_f h7).symm.trans hp
    refine cx_skip' ?_
    show TX E K22 _
    exact tx_pick' [] (sub_cons rfl (sub_cons rfl (sub_cons rfl (sub_cons rfl sub_nil)))) (by decide) pick_nil (hK22 (x3, false, (iand .u64 x4 7)) hp)
   intro K18 hK18
   refine cr fun K19 hK19 => ?_
   refine s0 (rd_move' rfl) ?_
   refine s0 (rd_bin' rfl rfl eg_int ru_and) ?_
   refine s0 (rd_bin' rfl rfl eg_int ru_eql) ?_
   refine nk hK19 ?_
   refine cx_cond' rfl (fun h6 => ?_) (fun h6 => ?_)
   ·replace hp := (br_t h6).symm.trans hp
    refine cr fun K20 hK20 => ?_
    refine s0 (rd_move' rfl) ?_
    refine s0 (rd_bin' rfl rfl eg_int ru_add) ?_
    refine s0 (rd_assign' rfl) ?_
    refine nk hK20 ?_
    refine cx_region' ?_
    refine s0 (rd_move' rfl) ?_
    obtain ⟨r45, hr45, hp⟩ := bind_some hp
    refine sx_ox' (ox_fop' (.inl rfl) (fl_v rfl) (fl_v rfl) (Option.some.inj hr45) rfl rfl) (wt_none' rfl) fun _ => ?_
    refine s0 (rd_assign' rfl) ?_
    refine sx_nil' ?_
    show TX E K18 _
    exact tx_pick' [] (sub_cons rfl (sub_cons rfl (sub_cons rfl (sub_cons rfl (sub_cons rfl sub_nil))))) (by decide) pick_nil (hK18 ((iadd .u64 r36 1), r45) hp)
   replace hp := (br_f h6).symm.trans hp
   refine cx_skip' ?_
   show TX E K18 _
   refine tx_slot' 7 (y := (Fl (i2f r36))) rfl imp_vf ?_
   exact tx_pick' [] (sub_cons rfl (sub_cons rfl (sub_cons rfl (sub_cons rfl (sub_cons rfl sub_nil))))) (by decide) pick_nil (hK18 (r36, (i2f r36)) hp)
  intro K9 hK9
  refine cr fun K10 hK10 => ?_
  refine s0 (rd_move' rfl) ?_
  refine s0 (rd_bin' rfl rfl eg_flt ru_flt) ?_
  refine nk hK10 ?_
  refine cx_cond' rfl (fun h4 => ?_) (fun h4 => ?_)
  ·replace hp := (br_t h4).symm.trans hp
   refine cr fun K11 hK11 => ?_
   refine s0 (rd_move' rfl) ?_
   refine s0 (rd_un' rfl ru_fneg) ?_
   refine s0 (rd_assign' rfl) ?_
   refine nk hK11 ?_
   refine cx_region' ?_
   refine s0 (rd_assign' rfl) ?_
   refine sx_nil' ?_
   show TX E K9 _
   exact tx_pick' [] (sub_cons rfl (sub_cons rfl (sub_cons rfl sub_nil))) (by decide) pick_nil (hK9 ((fneg a0), true) hp)
  replace hp := (br_f h4).symm.trans hp
  refine cx_skip' ?_
  show TX E K9 _
  exact tx_pick' [] (sub_cons rfl (sub_cons rfl (sub_cons rfl sub_nil))) (by decide) pick_nil (hK9 (a0, false) hp)
 intro K6 hK6
 rcases br_cases hp with ⟨h2, hp⟩ | ⟨h2, hp⟩
 ·refine sx_skip' rfl rfl (wt_is' (wt_guard' rfl rfl rfl) (beq_tf h2)) ?_
  refine sx_skip' rfl rfl (wt_is' (wt_guard' rfl rfl rfl) (beq_tf h2)) ?_
  refine s0 (rd_pick_true' rfl h2 rfl) ?_
  refine sx_nil' ?_
  show TX E K6 _
  exact tx_pick' [] (sub_cons rfl (sub_cons rfl sub_nil)) (by decide) pick_nil (hK6 true hp)
 refine sx_rd' (rd_move' rfl) rfl rfl (wt_is' (wt_guard' rfl rfl rfl) (beq_ff h2)) ?_
 obtain ⟨r19, hr19, hp⟩ := bind_some hp
 refine sx_ox' (ox_calln' (ent_fn' Tryd.func55 isn55 rfl rfl) (math_IsInf_sim _ _ hr19 : Sx.Fn Tryd.prog 55 [(Vg a0), (Vi 0)] [] (fun x : Unit => (Vb r19)) (fun x => [])) (Hn := fun x : Unit => []) (fun _ => rfl) rfl rfl) (wt_is' (wt_guard' rfl rfl rfl) (beq_ff h2)) fun ⟨⟩ => ?_
 refine s0 (rd_pick_false' rfl h2 rfl) ?_
 refine sx_nil' ?_
 show TX E K6 _
 exact tx_pick' [] (sub_cons rfl (sub_cons rfl sub_nil)) (by decide) pick_nil (hK6 r19 hp)

def r2_NewRotation (k : Nat) (a0 : Nat) (a1_0 : Nat) (a1_1 : Nat) : Option (Nat × Nat × Nat × Nat) :=
 br (feq a0 0)
  (some (0, 4607182418800017408, a1_0, a1_1))
  ((math_Sincos k a0) >>= fun r13 =>
  some (r13.1, r13.2, a1_0, a1_1))

theorem r2_NewRotation_sim {k : Nat}  (a0 : Nat) (a1_0 : Nat) (a1_1 : Nat) {out : Nat × Nat × Nat × Nat} (hp : r2_NewRotation k a0 a1_0 a1_1 = some out) : Sx.Fn Tryd.prog 52 [(Vg a0), (Ag [(Vg a1_0), (Vg a1_1)])] [] (fun w : Unit => (Ag [(Fl out.1), (Fl out.2.1), (Vg out.2.2.1), (Vg out.2.2.2)])) (fun w => []) := by
 unfold r2_NewRotation at hp
 refine fn_of Tryd.func52 rfl Tryd.ntmps52 rfl fun E hM => ?_
 refine cr fun K1 hK1 => ?_
 refine sx_ox' (ox_box' rfl (lv_ag _) rfl rfl) (wt_none' rfl) fun q3 => ?_
 refine sx_ox' (ox_alloc' info80 rfl rfl rfl rfl (l := [(Vg 0), (Vg 0), (Vg 0), (Vg 0)]) rfl) (wt_none' rfl) fun q4 => ?_
 refine nk hK1 ?_
 refine cx_seq' fun K2 hK2 => ?_
 refine cr fun K3 hK3 => ?_
 refine s0 (rd_move' rfl) ?_
 refine s0 (rd_bin' rfl rfl eg_flt ru_feq) ?_
 refine nk hK3 ?_
 refine cx_cond' rfl (fun h1 => ?_) (fun h1 => ?_)
 ·replace hp := (br_t h1).symm.trans hp
  refine cr fun K4 hK4 => ?_
  refine s0 (rd_load_agg' (i := 1) (o := 0) (nn := 2) rfl ⟨rfl, rfl, rfl, rfl⟩ rfl agg66 (l' := [(Vg a1_0), (Vg a1_1)]) rfl) ?_
  refine s0 (rd_build' (pls := [(0, 1), (1, 1), (2, 2)]) (qs := [(0, [(Vg 0)]), (1, [(Vg 4607182418800017408)]), (2, [(Vg a1_0), (Vg a1_1)])]) (r := [(Vg 0), (Vg 4607182418800017408), (Vg a1_0), (Vg a1_1)]) ⟨rfl, ⟨_, rfl, (lv_vl rfl rfl)⟩, ⟨rfl, ⟨_, rfl, (lv_vl rfl rfl)⟩, ⟨rfl, ⟨_, rfl, (lv_ag _)⟩, trivial⟩⟩⟩ Tryd.underlying80 has80 places80 info80 rfl rfl rfl) ?_
  refine sx_ox' (ox_store' (i := 0) (o := 0) rfl rfl (lv_ag _) ⟨rfl, rfl, rfl, rfl⟩ rfl info80 rfl (H' := [⟨.pointer (some q4), [(Vg 0), (Vg 4607182418800017408), (Vg a1_0), (Vg a1_1)], 80, none⟩, ⟨.pointer (some q3), [(Vg a1_0), (Vg a1_1)], 66, none⟩]) rfl) (wt_none' rfl) fun _ => ?_
  refine nk hK4 ?_
  refine cx_retc' ?_
  replace hp := Option.some.inj hp
  subst hp
  refine tx_pick' (L' := [(4, (Vp q4))]) (H' := [⟨.pointer (some q4), [(Vg 0), (Vg 4607182418800017408), (Vg a1_0), (Vg a1_1)], 80, none⟩]) [0] (sub_cons rfl sub_nil) (by decide) (pick_cons rfl pick_nil) ?_
  exact tx_ret1' Tryd.results52 rfl () (rv_imp' (x := (Ag [(Vg 0), (Vg 4607182418800017408), (Vg a1_0), (Vg a1_1)])) (y := (Ag [(Fl 0), (Fl 4607182418800017408), (Vg a1_0), (Vg a1_1)])) (rv_cell_agg' (i := 0) (o := 0) (nn := 4) rfl ⟨rfl, rfl, rfl, rfl⟩ rfl agg80 rfl) (imp_ag ⟨imp_vf, imp_vf, imp_refl, imp_refl, trivial⟩)) (List.nil_sublist _)
 replace hp := (br_f h1).symm.trans hp
 refine cx_skip' ?_
 show TX E K2 _
 refine tx_k' hK2 ?_
 refine cr fun K5 hK5 => ?_
 refine s0 (rd_move' rfl) ?_
 obtain ⟨r13, hr13, hp⟩ := bind_some hp
 refine sx_ox' (ox_calln' (ent_fn' Tryd.func69 isn69 rfl rfl) (math_Sincos_sim _ hr13 : Sx.Fn Tryd.prog 69 [(Vg a0)] [] (fun x : Unit => (Tu [(Fl r13.1), (Fl r13.2)])) (fun x => [])) (Hn := fun x : Unit => [⟨.pointer (some q4), [(Vg 0), (Vg 0), (Vg 0), (Vg 0)], 80, none⟩, ⟨.pointer (some q3), [(Vg a1_0), (Vg a1_1)], 66, none⟩]) (fun _ => rfl) rfl rfl) (wt_none' rfl) fun ⟨⟩ => ?_
 refine s0 (rd_move' rfl) ?_
 refine s0 (rd_extract' rfl rfl) ?_
 refine s0 (rd_extract' rfl rfl) ?_
 refine s0 (rd_assign' rfl) ?_
 refine s0 (rd_assign' rfl) ?_
 refine nk hK5 ?_
 refine cr fun K6 hK6 => ?_
 refine s0 (rd_move' rfl) ?_
 refine s0 (rd_move' rfl) ?_
 refine s0 (rd_load_agg' (i := 1) (o := 0) (nn := 2) rfl ⟨rfl, rfl, rfl, rfl⟩ rfl agg66 (l' := [(Vg a1_0), (Vg a1_1)]) rfl) ?_
 refine s0 (rd_build' (pls := [(0, 1), (1, 1), (2, 2)]) (qs := [(0, [(Fl r13.1)]), (1, [(Fl r13.2)]), (2, [(Vg a1_0), (Vg a1_1)])]) (r := [(Fl r13.1), (Fl r13.2), (Vg a1_0), (Vg a1_1)]) ⟨rfl, ⟨_, rfl, (lv_fl _)⟩, ⟨rfl, ⟨_, rfl, (lv_fl _)⟩, ⟨rfl, ⟨_, rfl, (lv_ag _)⟩, trivial⟩⟩⟩ Tryd.underlying80 has80 places80 info80 rfl rfl rfl) ?_
 refine sx_ox' (ox_store' (i := 0) (o := 0) rfl rfl (lv_ag _) ⟨rfl, rfl, rfl, rfl⟩ rfl info80 rfl (H' := [⟨.pointer (some q4), [(Fl r13.1), (Fl r13.2), (Vg a1_0), (Vg a1_1)], 80, none⟩, ⟨.pointer (some q3), [(Vg a1_0), (Vg a1_1)], 66, none⟩]) rfl) (wt_none' rfl) fun _ => ?_
 refine nk hK6 ?_
 refine cx_retc' ?_
 replace hp := Option.some.inj hp
 subst hp
 refine tx_pick' (L' := [(4, (Vp q4))]) (H' := [⟨.pointer (some q4), [(Fl r13.1), (Fl r13.2), (Vg a1_0), (Vg a1_1)], 80, none⟩]) [0] (sub_cons rfl sub_nil) (by decide) (pick_cons rfl pick_nil) ?_
 exact tx_ret1' Tryd.results52 rfl () (rv_cell_agg' (i := 0) (o := 0) (nn := 4) rfl ⟨rfl, rfl, rfl, rfl⟩ rfl agg80 rfl) (List.nil_sublist _)

def r2_Rotation_isIdentity_j1 (k : Nat) (x1 : Bool) : Option (Bool) :=
 some x1
def r2_Rotation_isIdentity (k : Nat) (a0_0 : Nat) (a0_1 : Nat) (a0_2 : Nat) (a0_3 : Nat) : Option (Bool) :=
 br (feq a0_0 0)
  (r2_Rotation_isIdentity_j1 k (feq a0_1 4607182418800017408))
  (r2_Rotation_isIdentity_j1 k false)

theorem r2_Rotation_isIdentity_sim {k : Nat}  (a0_0 : Nat) (a0_1 : Nat) (a0_2 : Nat) (a0_3 : Nat) {out : Bool} (hp : r2_Rotation_isIdentity k a0_0 a0_1 a0_2 a0_3 = some out) : Sx.Fn Tryd.prog 70 [(Ag [(Vg a0_0), (Vg a0_1), (Vg a0_2), (Vg a0_3)])] [] (fun w : Unit => (Vb out)) (fun w => []) := by
 unfold r2_Rotation_isIdentity at hp
 refine fn_of Tryd.func70 rfl Tryd.ntmps70 rfl fun E hM => ?_
 refine cr fun K1 hK1 => ?_
 refine sx_ox' (ox_box' rfl (lv_ag _) rfl rfl) (wt_none' rfl) fun q1 => ?_
 refine s0 (rd_assign' rfl) ?_
 refine nk hK1 ?_
 refine cr fun K2 hK2 => ?_
 refine s0 (rd_field0' rfl Tryd.underlying80 rfl info22 rfl) ?_
 refine s0 (rd_load' (i := 0) (o := 0) rfl ⟨rfl, rfl, rfl, rfl⟩ rfl flat22) ?_
 refine s0 (rd_bin' rfl rfl eg_flt ru_feq) ?_
 refine s0 (rd_move' rfl) ?_
 refine sx_cutn' 4 (fun (v1 : Bool) => (⟨11, [], [(10, (Vb v1))], []⟩ : St)) (fun (v1 : Bool) => r2_Rotation_isIdentity_j1 k v1 = some out) ?_ ?_
 ·rintro x1 hp
  replace hp : r2_Rotation_isIdentity_j1 k x1 = some out := hp
  unfold r2_Rotation_isIdentity_j1 at hp
  refine s0 (rd_assign' rfl) ?_
  refine nk hK2 ?_
  refine cx_retc' ?_
  replace hp := Option.some.inj hp
  subst hp
  refine tx_pick' (L' := [(2, (Vb x1))]) (H' := []) [] (sub_cons rfl sub_nil) (by decide) pick_nil ?_
  exact tx_ret1' Tryd.results70 rfl () (rv_tmp' rfl) (List.Sublist.refl _)
 intro K3 hK3
 rcases br_cases hp with ⟨h1, hp⟩ | ⟨h1, hp⟩
 ·refine sx_rd' (rd_field' (off := 1) rfl Tryd.underlying80 rfl info22 rfl) rfl rfl (wt_is' (wt_guard' rfl rfl rfl) (beq_tt h1)) ?_
  refine sx_rd' (rd_load' (i := 0) (o := 1) rfl ⟨rfl, rfl, rfl, rfl⟩ rfl flat22) rfl rfl (wt_is' (wt_guard' rfl rfl rfl) (beq_tt h1)) ?_
  refine sx_rd' (rd_bin' rfl rfl eg_flt ru_feq) rfl rfl (wt_is' (wt_guard' rfl rfl rfl) (beq_tt h1)) ?_
  refine s0 (rd_pick_true' rfl h1 rfl) ?_
  refine sx_nil' ?_
  show TX E K3 _
  exact tx_pick' [] (sub_cons rfl sub_nil) (by decide) pick_nil (hK3 (feq a0_1 4607182418800017408) hp)
 refine sx_skip' rfl rfl (wt_is' (wt_guard' rfl rfl rfl) (beq_ft h1)) ?_
 refine sx_skip' rfl rfl (wt_is' (wt_guard' rfl rfl rfl) (beq_ft h1)) ?_
 refine sx_skip' rfl rfl (wt_is' (wt_guard' rfl rfl rfl) (beq_ft h1)) ?_
 refine s0 (rd_pick_false' rfl h1 rfl) ?_
 refine sx_nil' ?_
 show TX E K3 _
 exact tx_pick' [] (sub_cons rfl sub_nil) (by decide) pick_nil (hK3 false hp)

def r2_Sub (k : Nat) (a0_0 : Nat) (a0_1 : Nat) (a1_0 : Nat) (a1_1 : Nat) : Option (Nat × Nat) :=
 (some (gsub a0_0 a1_0)) >>= fun r9 =>
 (some (gsub a0_1 a1_1)) >>= fun r14 =>
 some (r9, r14)

theorem r2_Sub_sim {k : Nat}  (a0_0 : Nat) (a0_1 : Nat) (a1_0 : Nat) (a1_1 : Nat) {out : Nat × Nat} (hp : r2_Sub k a0_0 a0_1 a1_0 a1_1 = some out) : Sx.Fn Tryd.prog 71 [(Ag [(Vg a0_0), (Vg a0_1)]), (Ag [(Vg a1_0), (Vg a1_1)])] [] (fun w : Unit => (Ag [(Fl out.1), (Fl out.2)])) (fun w => []) := by
 unfold r2_Sub at hp
 refine fn_of Tryd.func71 rfl Tryd.ntmps71 rfl fun E hM => ?_
 refine cr fun K1 hK1 => ?_
 refine sx_ox' (ox_box' rfl (lv_ag _) rfl rfl) (wt_none' rfl) fun q2 => ?_
 refine sx_ox' (ox_box' rfl (lv_ag _) rfl rfl) (wt_none' rfl) fun q3 => ?_
 refine sx_ox' (ox_alloc' info66 rfl rfl rfl rfl (l := [(Vg 0), (Vg 0)]) rfl) (wt_none' rfl) fun q4 => ?_
 refine nk hK1 ?_
 refine cr fun K2 hK2 => ?_
 refine s0 (rd_field0' rfl Tryd.underlying66 rfl info22 rfl) ?_
 refine s0 (rd_load' (i := 2) (o := 0) rfl ⟨rfl, rfl, rfl, rfl⟩ rfl flat22) ?_
 refine s0 (rd_field0' rfl Tryd.underlying66 rfl info22 rfl) ?_
 refine s0 (rd_load' (i := 1) (o := 0) rfl ⟨rfl, rfl, rfl, rfl⟩ rfl flat22) ?_
 obtain ⟨r9, hr9, hp⟩ := bind_some hp
 refine sx_ox' (ox_fop' (.inr (.inl rfl)) (fl_v rfl) (fl_v rfl) (Option.some.inj hr9) rfl rfl) (wt_none' rfl) fun _ => ?_
 refine s0 (rd_field' (off := 1) rfl Tryd.underlying66 rfl info22 rfl) ?_
 refine s0 (rd_load' (i := 2) (o := 1) rfl ⟨rfl, rfl, rfl, rfl⟩ rfl flat22) ?_
 refine s0 (rd_field' (off := 1) rfl Tryd.underlying66 rfl info22 rfl) ?_
 refine s0 (rd_load' (i := 1) (o := 1) rfl ⟨rfl, rfl, rfl, rfl⟩ rfl flat22) ?_
 obtain ⟨r14, hr14, hp⟩ := bind_some hp
 refine sx_ox' (ox_fop' (.inr (.inl rfl)) (fl_v rfl) (fl_v rfl) (Option.some.inj hr14) rfl rfl) (wt_none' rfl) fun _ => ?_
 refine s0 (rd_build' (pls := [(0, 1), (1, 1)]) (qs := [(0, [(Fl r9)]), (1, [(Fl r14)])]) (r := [(Fl r9), (Fl r14)]) ⟨rfl, ⟨_, rfl, (lv_fl _)⟩, ⟨rfl, ⟨_, rfl, (lv_fl _)⟩, trivial⟩⟩ Tryd.underlying66 has66 places66 info66 rfl rfl rfl) ?_
 refine sx_ox' (ox_store' (i := 0) (o := 0) rfl rfl (lv_ag _) ⟨rfl, rfl, rfl, rfl⟩ rfl info66 rfl (H' := [⟨.pointer (some q4), [(Fl r9), (Fl r14)], 66, none⟩, ⟨.pointer (some q3), [(Vg a1_0), (Vg a1_1)], 66, none⟩, ⟨.pointer (some q2), [(Vg a0_0), (Vg a0_1)], 66, none⟩]) rfl) (wt_none' rfl) fun _ => ?_
 refine nk hK2 ?_
 refine cx_retc' ?_
 replace hp := Option.some.inj hp
 subst hp
 refine tx_pick' (L' := [(4, (Vp q4))]) (H' := [⟨.pointer (some q4), [(Fl r9), (Fl r14)], 66, none⟩]) [0] (sub_cons rfl sub_nil) (by decide) (pick_cons rfl pick_nil) ?_
 exact tx_ret1' Tryd.results71 rfl () (rv_cell_agg' (i := 0) (o := 0) (nn := 2) rfl ⟨rfl, rfl, rfl, rfl⟩ rfl agg66 rfl) (List.nil_sublist _)

def r2_Add (k : Nat) (a0_0 : Nat) (a0_1 : Nat) (a1_0 : Nat) (a1_1 : Nat) : Option (Nat × Nat) :=
 (some (gadd a0_0 a1_0)) >>= fun r9 =>
 (some (gadd a0_1 a1_1)) >>= fun r14 =>
 some (r9, r14)

theorem r2_Add_sim {k : Nat}  (a0_0 : Nat) (a0_1 : Nat) (a1_0 : Nat) (a1_1 : Nat) {out : Nat × Nat} (hp : r2_Add k a0_0 a0_1 a1_0 a1_1 = some out) : Sx.Fn Tryd.prog 72 [(Ag [(Vg a0_0), (Vg a0_1)]), (Ag [(Vg a1_0), (Vg a1_1)])] [] (fun w : Unit => (Ag [(Fl out.1), (Fl out.2)])) (fun w => []) := by
 unfold r2_Add at hp
 refine fn_of Tryd.func72 rfl Tryd.ntmps72 rfl fun E hM => ?_
 refine cr fun K1 hK1 => ?_
 refine sx_ox' (ox_box' rfl (lv_ag _) rfl rfl) (wt_none' rfl) fun q2 => ?_
 refine sx_ox' (ox_box' rfl (lv_ag _) rfl rfl) (wt_none' rfl) fun q3 => ?_
 refine sx_ox' (ox_alloc' info66 rfl rfl rfl rfl (l := [(Vg 0), (Vg 0)]) rfl) (wt_none' rfl) fun q4 => ?_
 refine nk hK1 ?_
 refine cr fun K2 hK2 => ?_
 refine s0 (rd_field0' rfl Tryd.underlying66 rfl info22 rfl) ?_
 refine s0 (rd_load' (i := 2) (o := 0) rfl ⟨rfl, rfl, rfl, rfl⟩ rfl flat22) ?_
 refine s0 (rd_field0' rfl Tryd.underlying66 rfl info22 rfl) ?_
 refine s0 (rd_load' (i := 1) (o := 0) rfl ⟨rfl, rfl, rfl, rfl⟩ rfl flat22) ?_
 obtain ⟨r9, hr9, hp⟩ := bind_some hp
 refine sx_ox' (ox_fop' (.inl rfl) (fl_v rfl) (fl_v rfl) (Option.some.inj hr9) rfl rfl) (wt_none' rfl) fun _ => ?_
 refine s0 (rd_field' (off := 1) rfl Tryd.underlying66 rfl info22 rfl) ?_
 refine s0 (rd_load' (i := 2) (o := 1) rfl ⟨rfl, rfl, rfl, rfl⟩ rfl flat22) ?_
 refine s0 (rd_field' (off := 1) rfl Tryd.underlying66 rfl info22 rfl) ?_
 refine s0 (rd_load' (i := 1) (o := 1) rfl ⟨rfl, rfl, rfl, rfl⟩ rfl flat22) ?_
 obtain ⟨r14, hr14, hp⟩ := bind_some hp
 refine sx_ox' (ox_fop' (.inl rfl) (fl_v rfl) (fl_v rfl) (Option.some.inj hr14) rfl rfl) (wt_none' rfl) fun _ => ?_
 refine s0 (rd_build' (pls := [(0, 1), (1, 1)]) (qs := [(0, [(Fl r9)]), (1, [(Fl r14)])]) (r := [(Fl r9), (Fl r14)]) ⟨rfl, ⟨_, rfl, (lv_fl _)⟩, ⟨rfl, ⟨_, rfl, (lv_fl _)⟩, trivial⟩⟩ Tryd.underlying66 has66 places66 info66 rfl rfl rfl) ?_
 refine sx_ox' (ox_store' (i := 0) (o := 0) rfl rfl (lv_ag _) ⟨rfl, rfl, rfl, rfl⟩ rfl info66 rfl (H' := [⟨.pointer (some q4), [(Fl r9), (Fl r14)], 66, none⟩, ⟨.pointer (some q3), [(Vg a1_0), (Vg a1_1)], 66, none⟩, ⟨.pointer (some q2), [(Vg a0_0), (Vg a0_1)], 66, none⟩]) rfl) (wt_none' rfl) fun _ => ?_
 refine nk hK2 ?_
 refine cx_retc' ?_
 replace hp := Option.some.inj hp
 subst hp
 refine tx_pick' (L' := [(4, (Vp q4))]) (H' := [⟨.pointer (some q4), [(Fl r9), (Fl r14)], 66, none⟩]) [0] (sub_cons rfl sub_nil) (by decide) (pick_cons rfl pick_nil) ?_
 exact tx_ret1' Tryd.results72 rfl () (rv_cell_agg' (i := 0) (o := 0) (nn := 2) rfl ⟨rfl, rfl, rfl, rfl⟩ rfl agg66 rfl) (List.nil_sublist _)

def r2_Rotation_Rotate (k : Nat) (a0_0 : Nat) (a0_1 : Nat) (a0_2 : Nat) (a0_3 : Nat) (a1_0 : Nat) (a1_1 : Nat) : Option (Nat × Nat) :=
 (r2_Rotation_isIdentity k a0_0 a0_1 a0_2 a0_3) >>= fun r7 =>
 br r7
  (some (a1_0, a1_1))
  ((r2_Sub k a1_0 a1_1 a0_2 a0_3) >>= fun r12 =>
  (some (gmul r12.1 a0_1)) >>= fun r17 =>
  (some (gmul r12.2 a0_0)) >>= fun r22 =>
  (some (gsub r17 r22)) >>= fun r23 =>
  (some (gmul r12.1 a0_0)) >>= fun r28 =>
  (some (gmul r12.2 a0_1)) >>= fun r33 =>
  (some (gadd r28 r33)) >>= fun r34 =>
  (num r23) >>= fun u1 =>
  (num r34) >>= fun u2 =>
  (r2_Add k r23 r34 a0_2 a0_3) >>= fun r38 =>
  some (r38.1, r38.2))

theorem r2_Rotation_Rotate_sim {k : Nat}  (a0_0 : Nat) (a0_1 : Nat) (a0_2 : Nat) (a0_3 : Nat) (a1_0 : Nat) (a1_1 : Nat) {out : Nat × Nat} (hp : r2_Rotation_Rotate k a0_0 a0_1 a0_2 a0_3 a1_0 a1_1 = some out) : Sx.Fn Tryd.prog 53 [(Ag [(Vg a0_0), (Vg a0_1), (Vg a0_2), (Vg a0_3)]), (Ag [(Vg a1_0), (Vg a1_1)])] [] (fun w : Unit => (Ag [(Fl out.1), (Fl out.2)])) (fun w => []) := by
 unfold r2_Rotation_Rotate at hp
 refine fn_of Tryd.func53 rfl Tryd.ntmps53 rfl fun E hM => ?_
 refine cr fun K1 hK1 => ?_
 refine sx_ox' (ox_box' rfl (lv_ag _) rfl rfl) (wt_none' rfl) fun q2 => ?_
 refine sx_ox' (ox_box' rfl (lv_ag _) rfl rfl) (wt_none' rfl) fun q3 => ?_
 refine sx_ox' (ox_alloc' info66 rfl rfl rfl rfl (l := [(Vg 0), (Vg 0)]) rfl) (wt_none' rfl) fun q4 => ?_
 refine nk hK1 ?_
 refine cx_seq' fun K2 hK2 => ?_
 refine cr fun K3 hK3 => ?_
 refine s0 (rd_load_agg' (i := 2) (o := 0) (nn := 4) rfl ⟨rfl, rfl, rfl, rfl⟩ rfl agg80 (l' := [(Vg a0_0), (Vg a0_1), (Vg a0_2), (Vg a0_3)]) rfl) ?_
 obtain ⟨r7, hr7, hp⟩ := bind_some hp
 refine sx_ox' (ox_calln' (ent_fn' Tryd.func70 isn70 rfl rfl) (r2_Rotation_isIdentity_sim _ _ _ _ hr7 : Sx.Fn Tryd.prog 70 [(Ag [(Vg a0_0), (Vg a0_1), (Vg a0_2), (Vg a0_3)])] [] (fun x : Unit => (Vb r7)) (fun x => [])) (Hn := fun x : Unit => [⟨.pointer (some q4), [(Vg 0), (Vg 0)], 66, none⟩, ⟨.pointer (some q3), [(Vg a1_0), (Vg a1_1)], 66, none⟩, ⟨.pointer (some q2), [(Vg a0_0), (Vg a0_1), (Vg a0_2), (Vg a0_3)], 80, none⟩]) (fun _ => rfl) rfl rfl) (wt_none' rfl) fun ⟨⟩ => ?_
 refine nk hK3 ?_
 refine cx_cond' rfl (fun h1 => ?_) (fun h1 => ?_)
 ·replace hp := (br_t h1).symm.trans hp
  refine cr fun K4 hK4 => ?_
  refine s0 (rd_load_agg' (i := 1) (o := 0) (nn := 2) rfl ⟨rfl, rfl, rfl, rfl⟩ rfl agg66 (l' := [(Vg a1_0), (Vg a1_1)]) rfl) ?_
  refine sx_ox' (ox_store' (i := 0) (o := 0) rfl rfl (lv_ag _) ⟨rfl, rfl, rfl, rfl⟩ rfl info66 rfl (H' := [⟨.pointer (some q4), [(Vg a1_0), (Vg a1_1)], 66, none⟩, ⟨.pointer (some q3), [(Vg a1_0), (Vg a1_1)], 66, none⟩, ⟨.pointer (some q2), [(Vg a0_0), (Vg a0_1), (Vg a0_2), (Vg a0_3)], 80, none⟩]) rfl) (wt_none' rfl) fun _ => ?_
  refine nk hK4 ?_
  refine cx_retc' ?_
  replace hp := Option.some.inj hp
  subst hp
  refine tx_pick' (L' := [(4, (Vp q4))]) (H' := [⟨.pointer (some q4), [(Vg a1_0), (Vg a1_1)], 66, none⟩]) [0] (sub_cons rfl sub_nil) (by decide) (pick_cons rfl pick_nil) ?_
  exact tx_ret1' Tryd.results53 rfl () (rv_imp' (x := (Ag [(Vg a1_0), (Vg a1_1)])) (y := (Ag [(Fl a1_0), (Fl a1_1)])) (rv_cell_agg' (i := 0) (o := 0) (nn := 2) rfl ⟨rfl, rfl, rfl, rfl⟩ rfl agg66 rfl) (imp_ag ⟨imp_vf, imp_vf, trivial⟩)) (List.nil_sublist _)
 replace hp := (br_f h1).symm.trans hp
 refine cx_skip' ?_
 show TX E K2 _
 refine tx_k' hK2 ?_
 refine cr fun K5 hK5 => ?_
 refine s0 (rd_load_agg' (i := 1) (o := 0) (nn := 2) rfl ⟨rfl, rfl, rfl, rfl⟩ rfl agg66 (l' := [(Vg a1_0), (Vg a1_1)]) rfl) ?_
 refine s0 (rd_field' (off := 2) rfl Tryd.underlying80 rfl info66 rfl) ?_
 refine s0 (rd_load_agg' (i := 2) (o := 2) (nn := 2) rfl ⟨rfl, rfl, rfl, rfl⟩ rfl agg66 (l' := [(Vg a0_2), (Vg a0_3)]) rfl) ?_
 obtain ⟨r12, hr12, hp⟩ := bind_some hp
 refine sx_ox' (ox_calln' (ent_fn' Tryd.func71 isn71 rfl rfl) (r2_Sub_sim _ _ _ _ hr12 : Sx.Fn Tryd.prog 71 [(Ag [(Vg a1_0), (Vg a1_1)]), (Ag [(Vg a0_2), (Vg a0_3)])] [] (fun x : Unit => (Ag [(Fl r12.1), (Fl r12.2)])) (fun x => [])) (Hn := fun x : Unit => [⟨.pointer (some q4), [(Vg 0), (Vg 0)], 66, none⟩, ⟨.pointer (some q3), [(Vg a1_0), (Vg a1_1)], 66, none⟩, ⟨.pointer (some q2), [(Vg a0_0), (Vg a0_1), (Vg a0_2), (Vg a0_3)], 80, none⟩]) (fun _ => rfl) rfl rfl) (wt_none' rfl) fun ⟨⟩ => ?_
 refine sx_ox' (ox_alloc' info66 rfl rfl rfl rfl (l := [(Vg 0), (Vg 0)]) rfl) (wt_none' rfl) fun q5 => ?_
 refine sx_ox' (ox_store' (i := 0) (o := 0) rfl rfl (lv_ag _) ⟨rfl, rfl, rfl, rfl⟩ rfl info66 rfl (H' := [⟨.pointer (some q5), [(Fl r12.1), (Fl r12.2)], 66, none⟩, ⟨.pointer (some q4), [(Vg 0), (Vg 0)], 66, none⟩, ⟨.pointer (some q3), [(Vg a1_0), (Vg a1_1)], 66, none⟩, ⟨.pointer (some q2), [(Vg a0_0), (Vg a0_1), (Vg a0_2), (Vg a0_3)], 80, none⟩]) rfl) (wt_none' rfl) fun _ => ?_
 refine nk hK5 ?_
 refine cr fun K6 hK6 => ?_
 refine s0 (rd_field0' rfl Tryd.underlying66 rfl info22 rfl) ?_
 refine s0 (rd_load' (i := 0) (o := 0) rfl ⟨rfl, rfl, rfl, rfl⟩ rfl flat22) ?_
 refine s0 (rd_field' (off := 1) rfl Tryd.underlying80 rfl info22 rfl) ?_
 refine s0 (rd_load' (i := 3) (o := 1) rfl ⟨rfl, rfl, rfl, rfl⟩ rfl flat22) ?_
 obtain ⟨r17, hr17, hp⟩ := bind_some hp
 refine sx_ox' (ox_fop' (.inr (.inr (.inl rfl))) (fl_f rfl) (fl_v rfl) (Option.some.inj hr17) rfl rfl) (wt_none' rfl) fun _ => ?_
 refine s0 (rd_field' (off := 1) rfl Tryd.underlying66 rfl info22 rfl) ?_
 refine s0 (rd_load' (i := 0) (o := 1) rfl ⟨rfl, rfl, rfl, rfl⟩ rfl flat22) ?_
 refine s0 (rd_field0' rfl Tryd.underlying80 rfl info22 rfl) ?_
 refine s0 (rd_load' (i := 3) (o := 0) rfl ⟨rfl, rfl, rfl, rfl⟩ rfl flat22) ?_
 obtain ⟨r22, hr22, hp⟩ := bind_some hp
 refine sx_ox' (ox_fop' (.inr (.inr (.inl rfl))) (fl_f rfl) (fl_v rfl) (Option.some.inj hr22) rfl rfl) (wt_none' rfl) fun _ => ?_
 obtain ⟨r23, hr23, hp⟩ := bind_some hp
 refine sx_ox' (ox_fop' (.inr (.inl rfl)) (fl_f rfl) (fl_f rfl) (Option.some.inj hr23) rfl rfl) (wt_none' rfl) fun _ => ?_
 refine s0 (rd_field0' rfl Tryd.underlying66 rfl info22 rfl) ?_
 refine s0 (rd_load' (i := 0) (o := 0) rfl ⟨rfl, rfl, rfl, rfl⟩ rfl flat22) ?_
 refine s0 (rd_field0' rfl Tryd.underlying80 rfl info22 rfl) ?_
 refine s0 (rd_load' (i := 3) (o := 0) rfl ⟨rfl, rfl, rfl, rfl⟩ rfl flat22) ?_
 obtain ⟨r28, hr28, hp⟩ := bind_some hp
 refine sx_ox' (ox_fop' (.inr (.inr (.inl rfl))) (fl_f rfl) (fl_v rfl) (Option.some.inj hr28) rfl rfl) (wt_none' rfl) fun _ => ?_
 refine s0 (rd_field' (off := 1) rfl Tryd.underlying66 rfl info22 rfl) ?_
 refine s0 (rd_load' (i := 0) (o := 1) rfl ⟨rfl, rfl, rfl, rfl⟩ rfl flat22) ?_
 refine s0 (rd_field' (off := 1) rfl Tryd.underlying80 rfl info22 rfl) ?_
 refine s0 (rd_load' (i := 3) (o := 1) rfl ⟨rfl, rfl, rfl, rfl⟩ rfl flat22) ?_
 obtain ⟨r33, hr33, hp⟩ := bind_some hp
 refine sx_ox' (ox_fop' (.inr (.inr (.inl rfl))) (fl_f rfl) (fl_v rfl) (Option.some.inj hr33) rfl rfl) (wt_none' rfl) fun _ => ?_
 obtain ⟨r34, hr34, hp⟩ := bind_some hp
 refine sx_ox' (ox_fop' (.inl rfl) (fl_f rfl) (fl_f rfl) (Option.some.inj hr34) rfl rfl) (wt_none' rfl) fun _ => ?_
 refine s0 (rd_build' (pls := [(0, 1), (1, 1)]) (qs := [(0, [(Fl r23)]), (1, [(Fl r34)])]) (r := [(Fl r23), (Fl r34)]) ⟨rfl, ⟨_, rfl, (lv_fl _)⟩, ⟨rfl, ⟨_, rfl, (lv_fl _)⟩, trivial⟩⟩ Tryd.underlying66 has66 places66 info66 rfl rfl rfl) ?_
 refine s0 (rd_field' (off := 2) rfl Tryd.underlying80 rfl info66 rfl) ?_
 refine s0 (rd_load_agg' (i := 3) (o := 2) (nn := 2) rfl ⟨rfl, rfl, rfl, rfl⟩ rfl agg66 (l' := [(Vg a0_2), (Vg a0_3)]) rfl) ?_
 obtain ⟨u1, hu1, hp⟩ := bind_some hp
 obtain ⟨u2, hu2, hp⟩ := bind_some hp
 refine tx_slot' 35 (y := (Ag [(Vg r23), (Vg r34)])) rfl (imp_ag ⟨(imp_num (num_some hu1).2), (imp_num (num_some hu2).2), trivial⟩) ?_
 obtain ⟨r38, hr38, hp⟩ := bind_some hp
 refine sx_ox' (ox_calln' (ent_fn' Tryd.func72 isn72 rfl rfl) (r2_Add_sim _ _ _ _ hr38 : Sx.Fn Tryd.prog 72 [(Ag [(Vg r23), (Vg r34)]), (Ag [(Vg a0_2), (Vg a0_3)])] [] (fun x : Unit => (Ag [(Fl r38.1), (Fl r38.2)])) (fun x => [])) (Hn := fun x : Unit => [⟨.pointer (some q5), [(Fl r12.1), (Fl r12.2)], 66, none⟩, ⟨.pointer (some q4), [(Vg 0), (Vg 0)], 66, none⟩, ⟨.pointer (some q3), [(Vg a1_0), (Vg a1_1)], 66, none⟩, ⟨.pointer (some q2), [(Vg a0_0), (Vg a0_1), (Vg a0_2), (Vg a0_3)], 80, none⟩]) (fun _ => rfl) rfl rfl) (wt_none' rfl) fun ⟨⟩ => ?_
 refine sx_ox' (ox_store' (i := 1) (o := 0) rfl rfl (lv_ag _) ⟨rfl, rfl, rfl, rfl⟩ rfl info66 rfl (H' := [⟨.pointer (some q5), [(Fl r12.1), (Fl r12.2)], 66, none⟩, ⟨.pointer (some q4), [(Fl r38.1), (Fl r38.2)], 66, none⟩, ⟨.pointer (some q3), [(Vg a1_0), (Vg a1_1)], 66, none⟩, ⟨.pointer (some q2), [(Vg a0_0), (Vg a0_1), (Vg a0_2), (Vg a0_3)], 80, none⟩]) rfl) (wt_none' rfl) fun _ => ?_
 refine nk hK6 ?_
 refine cx_retc' ?_
 replace hp := Option.some.inj hp
 subst hp
 refine tx_pick' (L' := [(4, (Vp q4))]) (H' := [⟨.pointer (some q4), [(Fl r38.1), (Fl r38.2)], 66, none⟩]) [1] (sub_cons rfl sub_nil) (by decide) (pick_cons rfl pick_nil) ?_
 exact tx_ret1' Tryd.results53 rfl () (rv_cell_agg' (i := 0) (o := 0) (nn := 2) rfl ⟨rfl, rfl, rfl, rfl⟩ rfl agg66 rfl) (List.nil_sublist _)

def r2_Rotate (k : Nat) (a0_0 : Nat) (a0_1 : Nat) (a1 : Nat) (a2_0 : Nat) (a2_1 : Nat) : Option (Nat × Nat) :=
 (r2_NewRotation k a1 a2_0 a2_1) >>= fun r9 =>
 (num r9.1) >>= fun u1 =>
 (num r9.2.1) >>= fun u2 =>
 (r2_Rotation_Rotate k r9.1 r9.2.1 r9.2.2.1 r9.2.2.2 a0_0 a0_1) >>= fun r11 =>
 some (r11.1, r11.2)

theorem r2_Rotate_sim {k : Nat}  (a0_0 : Nat) (a0_1 : Nat) (a1 : Nat) (a2_0 : Nat) (a2_1 : Nat) {out : Nat × Nat} (hp : r2_Rotate k a0_0 a0_1 a1 a2_0 a2_1 = some out) : Sx.Fn Tryd.prog 32 [(Ag [(Vg a0_0), (Vg a0_1)]), (Vg a1), (Ag [(Vg a2_0), (Vg a2_1)])] [] (fun w : Unit => (Ag [(Fl out.1), (Fl out.2)])) (fun w => []) := by
 unfold r2_Rotate at hp
 refine fn_of Tryd.func32 rfl Tryd.ntmps32 rfl fun E hM => ?_
 refine cr fun K1 hK1 => ?_
 refine sx_ox' (ox_box' rfl (lv_ag _) rfl rfl) (wt_none' rfl) fun q3 => ?_
 refine sx_ox' (ox_box' rfl (lv_ag _) rfl rfl) (wt_none' rfl) fun q5 => ?_
 refine sx_ox' (ox_alloc' info66 rfl rfl rfl rfl (l := [(Vg 0), (Vg 0)]) rfl) (wt_none' rfl) fun q6 => ?_
 refine nk hK1 ?_
 refine cx_seq' fun K2 hK2 => ?_
 refine cx_plan' [] [(5, 1)] [(0, 1), (1, 1), (3, 1), (2, 0), (4, 0), (5, 0)] mixed (by kernel_rfl) ?_
 refine px_rd' rfl (rd_move' rfl) rfl rfl (wt_none' rfl) ?_
 refine px_rd' rfl (rd_load_agg' (i := 1) (o := 0) (nn := 2) rfl ⟨rfl, rfl, rfl, rfl⟩ rfl agg66 (l' := [(Vg a2_0), (Vg a2_1)]) rfl) rfl rfl (wt_none' rfl) ?_
 refine px_rd' rfl (rd_load_agg' (i := 2) (o := 0) (nn := 2) rfl ⟨rfl, rfl, rfl, rfl⟩ rfl agg66 (l' := [(Vg a0_0), (Vg a0_1)]) rfl) rfl rfl (wt_none' rfl) ?_
 obtain ⟨r9, hr9, hp⟩ := bind_some hp
 refine px_ox' rfl (ox_calln' (ent_fn' Tryd.func52 isn52 rfl rfl) (r2_NewRotation_sim _ _ _ hr9 : Sx.Fn Tryd.prog 52 [(Vg a1), (Ag [(Vg a2_0), (Vg a2_1)])] [] (fun x : Unit => (Ag [(Fl r9.1), (Fl r9.2.1), (Vg r9.2.2.1), (Vg r9.2.2.2)])) (fun x => [])) (Hn := fun x : Unit => [⟨.pointer (some q6), [(Vg 0), (Vg 0)], 66, none⟩, ⟨.pointer (some q5), [(Vg a2_0), (Vg a2_1)], 66, none⟩, ⟨.pointer (some q3), [(Vg a0_0), (Vg a0_1)], 66, none⟩]) (fun _ => rfl) rfl rfl) rfl bs_nil (wt_none' rfl) fun ⟨⟩ => ?_
 obtain ⟨u1, hu1, hp⟩ := bind_some hp
 obtain ⟨u2, hu2, hp⟩ := bind_some hp
 refine tx_slot' 9 (y := (Ag [(Vg r9.1), (Vg r9.2.1), (Vg r9.2.2.1), (Vg r9.2.2.2)])) rfl (imp_ag ⟨(imp_num (num_some hu1).2), (imp_num (num_some hu2).2), imp_refl, imp_refl, trivial⟩) ?_
 obtain ⟨r11, hr11, hp⟩ := bind_some hp
 refine px_ox' rfl (ox_calln' (ent_fn' Tryd.func53 isn53 rfl rfl) (r2_Rotation_Rotate_sim _ _ _ _ _ _ hr11 : Sx.Fn Tryd.prog 53 [(Ag [(Vg r9.1), (Vg r9.2.1), (Vg r9.2.2.1), (Vg r9.2.2.2)]), (Ag [(Vg a0_0), (Vg a0_1)])] [] (fun x : Unit => (Ag [(Fl r11.1), (Fl r11.2)])) (fun x => [])) (Hn := fun x : Unit => [⟨.pointer (some q6), [(Vg 0), (Vg 0)], 66, none⟩, ⟨.pointer (some q5), [(Vg a2_0), (Vg a2_1)], 66, none⟩, ⟨.pointer (some q3), [(Vg a0_0), (Vg a0_1)], 66, none⟩]) (fun _ => rfl) rfl rfl) rfl bs_nil (wt_none' rfl) fun ⟨⟩ => ?_
 refine px_oxv' rfl (oxv_store (i := 0) (o := 0) rfl rfl (lv_ag _) ⟨rfl, rfl, rfl, rfl⟩ rfl info66 rfl (H' := [⟨.pointer (some q6), [(Fl r11.1), (Fl r11.2)], 66, none⟩, ⟨.pointer (some q5), [(Vg a2_0), (Vg a2_1)], 66, none⟩, ⟨.pointer (some q3), [(Vg a0_0), (Vg a0_1)], 66, none⟩]) rfl) rfl rfl bo_nil (wt_none' rfl) fun _ => ?_
 refine px_nil' ?_
 show TX E K2 _
 refine tx_k' hK2 ?_
 refine cx_retc' ?_
 replace hp := Option.some.inj hp
 subst hp
 refine tx_pick' (L' := [(6, (Vp q6))]) (H' := [⟨.pointer (some q6), [(Fl r11.1), (Fl r11.2)], 66, none⟩]) [0] (sub_cons rfl sub_nil) (by decide) (pick_cons rfl pick_nil) ?_
 exact tx_ret1' Tryd.results32 rfl () (rv_cell_agg' (i := 0) (o := 0) (nn := 2) rfl ⟨rfl, rfl, rfl, rfl⟩ rfl agg66 rfl) (List.nil_sublist _)

def impl_plainP2 (k : Nat) (a0_0 : Nat) (a0_1 : Nat) : Option (Nat × Nat) :=
 some (a0_0, a0_1)

theorem impl_plainP2_sim {k : Nat}  (a0_0 : Nat) (a0_1 : Nat) {out : Nat × Nat} (hp : impl_plainP2 k a0_0 a0_1 = some out) : Sx.Fn Tryd.prog 31 [(Ag [(Vg a0_0), (Vg a0_1)])] [] (fun w : Unit => (Ag [(Vg out.1), (Vg out.2)])) (fun w => []) := by
 unfold impl_plainP2 at hp
 refine fn_of Tryd.func31 rfl Tryd.ntmps31 rfl fun E hM => ?_
 refine cr fun K1 hK1 => ?_
 refine sx_ox' (ox_box' rfl (lv_ag _) rfl rfl) (wt_none' rfl) fun q1 => ?_
 refine sx_ox' (ox_alloc' info24 rfl rfl rfl rfl (l := [(Vg 0), (Vg 0)]) rfl) (wt_none' rfl) fun q2 => ?_
 refine nk hK1 ?_
 refine cr fun K2 hK2 => ?_
 refine s0 (rd_field0' rfl Tryd.underlying66 rfl info22 rfl) ?_
 refine s0 (rd_load' (i := 1) (o := 0) rfl ⟨rfl, rfl, rfl, rfl⟩ rfl flat22) ?_
 refine s0 (rd_field' (off := 1) rfl Tryd.underlying66 rfl info22 rfl) ?_
 refine s0 (rd_load' (i := 1) (o := 1) rfl ⟨rfl, rfl, rfl, rfl⟩ rfl flat22) ?_
 refine s0 (rd_build' (pls := [(0, 1), (1, 1)]) (qs := [(0, [(Vg a0_0)]), (1, [(Vg a0_1)])]) (r := [(Vg a0_0), (Vg a0_1)]) ⟨rfl, ⟨_, rfl, (lv_vl rfl rfl)⟩, ⟨rfl, ⟨_, rfl, (lv_vl rfl rfl)⟩, trivial⟩⟩ Tryd.underlying24 has24 places24 info24 rfl rfl rfl) ?_
 refine sx_ox' (ox_store' (i := 0) (o := 0) rfl rfl (lv_ag _) ⟨rfl, rfl, rfl, rfl⟩ rfl info24 rfl (H' := [⟨.pointer (some q2), [(Vg a0_0), (Vg a0_1)], 24, none⟩, ⟨.pointer (some q1), [(Vg a0_0), (Vg a0_1)], 66, none⟩]) rfl) (wt_none' rfl) fun _ => ?_
 refine nk hK2 ?_
 refine cx_retc' ?_
 replace hp := Option.some.inj hp
 subst hp
 refine tx_pick' (L' := [(2, (Vp q2))]) (H' := [⟨.pointer (some q2), [(Vg a0_0), (Vg a0_1)], 24, none⟩]) [0] (sub_cons rfl sub_nil) (by decide) (pick_cons rfl pick_nil) ?_
 exact tx_ret1' Tryd.results31 rfl () (rv_cell_agg' (i := 0) (o := 0) (nn := 2) rfl ⟨rfl, rfl, rfl, rfl⟩ rfl agg24 rfl) (List.nil_sublist _)

def impl_Rotate2 (k : Nat) (a0_0 : Nat) (a0_1 : Nat) (a1 : Nat) (a2_0 : Nat) (a2_1 : Nat) : Option (Nat × Nat) :=
 (impl_vec2 k a0_0 a0_1) >>= fun r8 =>
 (impl_vec2 k a2_0 a2_1) >>= fun r11 =>
 (r2_Rotate k r8.1 r8.2 a1 r11.1 r11.2) >>= fun r12 =>
 (num r12.1) >>= fun u1 =>
 (num r12.2) >>= fun u2 =>
 (impl_plainP2 k r12.1 r12.2) >>= fun r13 =>
 some (r13.1, r13.2)

theorem impl_Rotate2_sim {k : Nat}  (a0_0 : Nat) (a0_1 : Nat) (a1 : Nat) (a2_0 : Nat) (a2_1 : Nat) {out : Nat × Nat} (hp : impl_Rotate2 k a0_0 a0_1 a1 a2_0 a2_1 = some out) : Sx.Fn Tryd.prog 16 [(Ag [(Vg a0_0), (Vg a0_1)]), (Vg a1), (Ag [(Vg a2_0), (Vg a2_1)])] [] (fun w : Unit => (Ag [(Vg out.1), (Vg out.2)])) (fun w => []) := by
 unfold impl_Rotate2 at hp
 refine fn_of Tryd.func16 rfl Tryd.ntmps16 rfl fun E hM => ?_
 refine cr fun K1 hK1 => ?_
 refine sx_ox' (ox_box' rfl (lv_ag _) rfl rfl) (wt_none' rfl) fun q3 => ?_
 refine sx_ox' (ox_box' rfl (lv_ag _) rfl rfl) (wt_none' rfl) fun q5 => ?_
 refine sx_ox' (ox_alloc' info24 rfl rfl rfl rfl (l := [(Vg 0), (Vg 0)]) rfl) (wt_none' rfl) fun q6 => ?_
 refine nk hK1 ?_
 refine cx_seq' fun K2 hK2 => ?_
 refine cx_plan' [] [(7, 1)] [(0, 1), (2, 1), (3, 1), (1, 0), (4, 0), (5, 0), (6, 0), (7, 0)] mixed (by kernel_rfl) ?_
 refine px_rd' rfl (rd_load_agg' (i := 2) (o := 0) (nn := 2) rfl ⟨rfl, rfl, rfl, rfl⟩ rfl agg24 (l' := [(Vg a0_0), (Vg a0_1)]) rfl) rfl rfl (wt_none' rfl) ?_
 refine px_rd' rfl (rd_move' rfl) rfl rfl (wt_none' rfl) ?_
 refine px_rd' rfl (rd_load_agg' (i := 1) (o := 0) (nn := 2) rfl ⟨rfl, rfl, rfl, rfl⟩ rfl agg24 (l' := [(Vg a2_0), (Vg a2_1)]) rfl) rfl rfl (wt_none' rfl) ?_
 obtain ⟨r8, hr8, hp⟩ := bind_some hp
 refine px_ox' rfl (ox_calln' (ent_fn' Tryd.func33 isn33 rfl rfl) (impl_vec2_sim _ _ hr8 : Sx.Fn Tryd.prog 33 [(Ag [(Vg a0_0), (Vg a0_1)])] [] (fun x : Unit => (Ag [(Vg r8.1), (Vg r8.2)])) (fun x => [])) (Hn := fun x : Unit => [⟨.pointer (some q6), [(Vg 0), (Vg 0)], 24, none⟩, ⟨.pointer (some q5), [(Vg a2_0), (Vg a2_1)], 24, none⟩, ⟨.pointer (some q3), [(Vg a0_0), (Vg a0_1)], 24, none⟩]) (fun _ => rfl) rfl rfl) rfl bs_nil (wt_none' rfl) fun ⟨⟩ => ?_
 obtain ⟨r11, hr11, hp⟩ := bind_some hp
 refine px_ox' rfl (ox_calln' (ent_fn' Tryd.func33 isn33 rfl rfl) (impl_vec2_sim _ _ hr11 : Sx.Fn Tryd.prog 33 [(Ag [(Vg a2_0), (Vg a2_1)])] [] (fun x : Unit => (Ag [(Vg r11.1), (Vg r11.2)])) (fun x => [])) (Hn := fun x : Unit => [⟨.pointer (some q6), [(Vg 0), (Vg 0)], 24, none⟩, ⟨.pointer (some q5), [(Vg a2_0), (Vg a2_1)], 24, none⟩, ⟨.pointer (some q3), [(Vg a0_0), (Vg a0_1)], 24, none⟩]) (fun _ => rfl) rfl rfl) rfl bs_nil (wt_none' rfl) fun ⟨⟩ => ?_
 obtain ⟨r12, hr12, hp⟩ := bind_some hp
 refine px_ox' rfl (ox_calln' (ent_fn' Tryd.func32 isn32 rfl rfl) (r2_Rotate_sim _ _ _ _ _ hr12 : Sx.Fn Tryd.prog 32 [(Ag [(Vg r8.1), (Vg r8.2)]), (Vg a1), (Ag [(Vg r11.1), (Vg r11.2)])] [] (fun x : Unit => (Ag [(Fl r12.1), (Fl r12.2)])) (fun x => [])) (Hn := fun x : Unit => [⟨.pointer (some q6), [(Vg 0), (Vg 0)], 24, none⟩, ⟨.pointer (some q5), [(Vg a2_0), (Vg a2_1)], 24, none⟩, ⟨.pointer (some q3), [(Vg a0_0), (Vg a0_1)], 24, none⟩]) (fun _ => rfl) rfl rfl) rfl bs_nil (wt_none' rfl) fun ⟨⟩ => ?_
 obtain ⟨u1, hu1, hp⟩ := bind_some hp
 obtain ⟨u2, hu2, hp⟩ := bind_some hp
 refine tx_slot' 12 (y := (Ag [(Vg r12.1), (Vg r12.2)])) rfl (imp_ag ⟨(imp_num (num_some hu1).2), (imp_num (num_some hu2).2), trivial⟩) ?_
 obtain ⟨r13, hr13, hp⟩ := bind_some hp
 refine px_ox' rfl (ox_calln' (ent_fn' Tryd.func31 isn31 rfl rfl) (impl_plainP2_sim _ _ hr13 : Sx.Fn Tryd.prog 31 [(Ag [(Vg r12.1), (Vg r12.2)])] [] (fun x : Unit => (Ag [(Vg r13.1), (Vg r13.2)])) (fun x => [])) (Hn := fun x : Unit => [⟨.pointer (some q6), [(Vg 0), (Vg 0)], 24, none⟩, ⟨.pointer (some q5), [(Vg a2_0), (Vg a2_1)], 24, none⟩, ⟨.pointer (some q3), [(Vg a0_0), (Vg a0_1)], 24, none⟩]) (fun _ => rfl) rfl rfl) rfl bs_nil (wt_none' rfl) fun ⟨⟩ => ?_
 refine px_oxv' rfl (oxv_store (i := 0) (o := 0) rfl rfl (lv_ag _) ⟨rfl, rfl, rfl, rfl⟩ rfl info24 rfl (H' := [⟨.pointer (some q6), [(Vg r13.1), (Vg r13.2)], 24, none⟩, ⟨.pointer (some q5), [(Vg a2_0), (Vg a2_1)], 24, none⟩, ⟨.pointer (some q3), [(Vg a0_0), (Vg a0_1)], 24, none⟩]) rfl) rfl rfl bo_nil (wt_none' rfl) fun _ => ?_
 refine px_nil' ?_
 show TX E K2 _
 refine tx_k' hK2 ?_
 refine cx_retc' ?_
 replace hp := Option.some.inj hp
 subst hp
 refine tx_pick' (L' := [(6, (Vp q6))]) (H' := [⟨.pointer (some q6), [(Vg r13.1), (Vg r13.2)], 24, none⟩]) [0] (sub_cons rfl sub_nil) (by decide) (pick_cons rfl pick_nil) ?_
 exact tx_ret1' Tryd.results16 rfl () (rv_cell_agg' (i := 0) (o := 0) (nn := 2) rfl ⟨rfl, rfl, rfl, rfl⟩ rfl agg24 rfl) (List.nil_sublist _)

def math_sin_j7 (k : Nat) (x10 : Nat) : Option (Nat) :=
 some x10
def math_sin_j6 (k : Nat) (x6 : Bool) (x9 : Nat) : Option (Nat) :=
 br x6
  (math_sin_j7 k (fneg x9))
  (math_sin_j7 k x9)
def math_sin_j5 (k : Nat) (r63 : Nat) (x6 : Bool) (r54 : Nat) (x8 : Bool) : Option (Nat) :=
 br x8
  ((some (gmul 4602678819172646912 r63)) >>= fun r71 =>
  (some (gsub 4607182418800017408 r71)) >>= fun r72 =>
  (some (gmul r63 r63)) >>= fun r75 =>
  (some (gmul 13666448263388469915 r63)) >>= fun r79 =>
  (some (gadd r79 4477121864728985349)) >>= fun r82 =>
  (some (gmul r82 r63)) >>= fun r84 =>
  (some (gadd r84 13732177093698800582)) >>= fun r87 =>
  (some (gmul r87 r63)) >>= fun r89 =>
  (some (gadd r89 4537941361668146421)) >>= fun r92 =>
  (some (gmul r92 r63)) >>= fun r94 =>
  (some (gadd r94 13787419979223748497)) >>= fun r97 =>
  (some (gmul r97 r63)) >>= fun r99 =>
  (some (gadd r99 4586165620538955083)) >>= fun r102 =>
  (some (gmul r75 r102)) >>= fun r103 =>
  (some (gadd r72 r103)) >>= fun r104 =>
  math_sin_j6 k x6 r104)
  ((some (gmul r54 r63)) >>= fun r108 =>
  (some (gmul 4460209587652500685 r63)) >>= fun r112 =>
  (some (gadd r112 13716528389658582877)) >>= fun r115 =>
  (some (gmul r115 r63)) >>= fun r117 =>
  (some (gadd r117 4523617212962785441)) >>= fun r120 =>
  (some (gmul r120 r63)) >>= fun r122 =>
  (some (gadd r122 13774824197404483331)) >>= fun r125 =>
  (some (gmul r125 r63)) >>= fun r127 =>
  (some (gadd r127 4575957461383575504)) >>= fun r130 =>
  (some (gmul r130 r63)) >>= fun r132 =>
  (some (gadd r132 13818544856648471880)) >>= fun r135 =>
  (some (gmul r108 r135)) >>= fun r136 =>
  (some (gadd r54 r136)) >>= fun r137 =>
  math_sin_j6 k x6 r137)
def math_sin_j4 (k : Nat) (r54 : Nat) (x6 : Bool) (x7 : Int) : Option (Nat) :=
 (some (gmul r54 r54)) >>= fun r63 =>
 br (decide (x7 = 1))
  (math_sin_j5 k r63 x6 r54 true)
  (math_sin_j5 k r63 x6 r54 (decide (x7 = 2)))
def math_sin_j3 (k : Nat) (x2 : Nat) (x3 : Bool) (x4 : Int) (x5 : Nat) : Option (Nat) :=
 (some (gmul x5 4605249456957292544)) >>= fun r47 =>
 (some (gsub x2 r47)) >>= fun r48 =>
 (some (gmul x5 4495793288086814720)) >>= fun r50 =>
 (some (gsub r48 r50)) >>= fun r51 =>
 (some (gmul x5 4388835458085048688)) >>= fun r53 =>
 (some (gsub r51 r53)) >>= fun r54 =>
 br (decide (3 < (iand .u64 x4 7)))
  (math_sin_j4 k r54 (!x3) (isub .u64 (iand .u64 x4 7) 4))
  (math_sin_j4 k r54 x3 (iand .u64 x4 7))
def math_sin_j2 (k : Nat) (x2 : Nat) (x3 : Bool) : Option (Nat) :=
 br (fge x2 4737786807993761792)
  (none)
  ((some (gmul x2 4608412980311869571)) >>= fun r32 =>
  (num r32) >>= fun u1 =>
  (f2i .u64 r32) >>= fun r33 =>
  br (decide ((iand .u64 r33 1) = 1))
   ((some (gadd (i2f r33) 4607182418800017408)) >>= fun r42 =>
   math_sin_j3 k x2 x3 (iadd .u64 r33 1) r42)
   (math_sin_j3 k x2 x3 r33 (i2f r33)))
def math_sin_j1 (k : Nat) (a0 : Nat) (x1 : Bool) : Option (Nat) :=
 br x1
  (some a0)
  ((math_IsInf k a0 0) >>= fun r18 =>
  br r18
   ((math_NaN k) >>= fun r19 =>
   some r19)
   (br (flt a0 0)
    (math_sin_j2 k (fneg a0) true)
    (math_sin_j2 k a0 false)))
def math_sin (k : Nat) (a0 : Nat) : Option (Nat) :=
 br (feq a0 0)
  (math_sin_j1 k a0 true)
  ((math_IsNaN k a0) >>= fun r13 =>
  math_sin_j1 k a0 r13)

theorem math_sin_sim {k : Nat}  (a0 : Nat) {out : Nat} (hp : math_sin k a0 = some out) : Sx.Fn Tryd.prog 35 [(Vg a0)] [] (fun w : Unit => (Fl out)) (fun w => []) := by
 unfold math_sin at hp
 refine fn_of Tryd.func35 rfl Tryd.ntmps35 rfl fun E hM => ?_
 refine cr fun K1 hK1 => ?_
 refine s0 (rd_assign' rfl) ?_
 refine nk hK1 ?_
 refine cx_seq' fun K2 hK2 => ?_
 refine cx_block' ?_
 refine cr fun K3 hK3 => ?_
 refine s0 (rd_move' rfl) ?_
 refine s0 (rd_bin' rfl rfl eg_flt ru_feq) ?_
 refine s0 (rd_move' rfl) ?_
 refine sx_cutn' 3 (fun (v1 : Bool) => (⟨142, [], [(0, (Vg a0)), (14, (Vb v1))], []⟩ : St)) (fun (v1 : Bool) => math_sin_j1 k a0 v1 = some out) ?_ ?_
 ·rintro x1 hp
  replace hp : math_sin_j1 k a0 x1 = some out := hp
  unfold math_sin_j1 at hp
  refine s0 (rd_assign' rfl) ?_
  refine nk hK3 ?_
  refine cx_cond' rfl (fun h2 => ?_) (fun h2 => ?_)
  ·replace hp := (br_t h2).symm.trans hp
   refine cr fun K5 hK5 => ?_
   refine s0 (rd_move' rfl) ?_
   refine s0 (rd_assign' rfl) ?_
   refine nk hK5 ?_
   refine cx_retc' ?_
   replace hp := Option.some.inj hp
   subst hp
   refine tx_pick' (L' := [(2, (Vg a0))]) (H' := []) [] (sub_cons rfl sub_nil) (by decide) pick_nil ?_
   exact tx_ret1' Tryd.results35 rfl () (rv_imp' (x := (Vg a0)) (y := (Fl a0)) (rv_tmp' rfl) imp_vf) (List.Sublist.refl _)
  replace hp := (br_f h2).symm.trans hp
  refine cr fun K6 hK6 => ?_
  refine s0 (rd_move' rfl) ?_
  obtain ⟨r18, hr18, hp⟩ := bind_some hp
  refine sx_ox' (ox_calln' (ent_fn' Tryd.func55 isn55 rfl rfl) (math_IsInf_sim _ _ hr18 : Sx.Fn Tryd.prog 55 [(Vg a0), (Vi 0)] [] (fun x : Unit => (Vb r18)) (fun x => [])) (Hn := fun x : Unit => []) (fun _ => rfl) rfl rfl) (wt_none' rfl) fun ⟨⟩ => ?_
  refine s0 (rd_assign' rfl) ?_
  refine nk hK6 ?_
  refine cx_cond' rfl (fun h3 => ?_) (fun h3 => ?_)
  ·replace hp := (br_t h3).symm.trans hp
   refine cr fun K7 hK7 => ?_
   obtain ⟨r19, hr19, hp⟩ := bind_some hp
   refine sx_ox' (ox_calln' (ent_fn' Tryd.func56 isn56 rfl rfl) (math_NaN_sim hr19 : Sx.Fn Tryd.prog 56 [] [] (fun x : Unit => (Vg r19)) (fun x => [])) (Hn := fun x : Unit => []) (fun _ => rfl) rfl rfl) (wt_none' rfl) fun ⟨⟩ => ?_
   refine s0 (rd_assign' rfl) ?_
   refine nk hK7 ?_
   refine cx_retc' ?_
   replace hp := Option.some.inj hp
   subst hp
   refine tx_pick' (L' := [(2, (Vg r19))]) (H' := []) [] (sub_cons rfl sub_nil) (by decide) pick_nil ?_
   exact tx_ret1' Tryd.results35 rfl () (rv_imp' (x := (Vg r19)) (y := (Fl r19)) (rv_tmp' rfl) imp_vf) (List.Sublist.refl _)
  replace hp := (br_f h3).symm.trans hp
  refine cx_skip' ?_
  show TX E K2 _
  refine tx_k' hK2 ?_
  refine cr fun K8 hK8 => ?_
  refine s0 (rd_assign' rfl) ?_
  refine nk hK8 ?_
  refine cx_join' (fun (v2 : Nat × Bool) => (⟨142, [], [(0, (Vg v2.1)), (3, (Vb v2.2))], []⟩ : St)) (fun (v2 : Nat × Bool) => math_sin_j2 k v2.1 v2.2 = some out) ?_ ?_
  ·rintro ⟨x2, x3⟩ hp
   replace hp : math_sin_j2 k x2 x3 = some out := hp
   unfold math_sin_j2 at hp
   refine cr fun K12 hK12 => ?_
   refine s0 (rd_assign' rfl) ?_
   refine nk hK12 ?_
   refine cr fun K13 hK13 => ?_
   refine s0 (rd_assign' rfl) ?_
   refine s0 (rd_assign' rfl) ?_
   refine nk hK13 ?_
   refine cx_seq' fun K14 hK14 => ?_
   refine cr fun K15 hK15 => ?_
   refine s0 (rd_move' rfl) ?_
   refine s0 (rd_bin' rfl rfl eg_flt ru_fge) ?_
   refine nk hK15 ?_
   refine cx_cond' rfl (fun h5 => ?_) (fun h5 => ?_)
   ·replace hp := (br_t h5).symm.trans hp
    cases hp
   replace hp := (br_f h5).symm.trans hp
   refine cr fun K16 hK16 => ?_
   refine s0 (rd_move' rfl) ?_
   obtain ⟨r32, hr32, hp⟩ := bind_some hp
   refine sx_ox' (ox_fop' (.inr (.inr (.inl rfl))) (fl_v rfl) (fl_v rfl) (Option.some.inj hr32) rfl rfl) (wt_none' rfl) fun _ => ?_
   obtain ⟨u1, hu1, hp⟩ := bind_some hp
   refine tx_slot' 32 (y := (Vg r32)) rfl (imp_num (num_some hu1).2) ?_
   obtain ⟨r33, hr33, hp⟩ := bind_some hp
   refine s0 (rd_conv' rfl (ru_f2i hr33 (by rw [Tryd.underlying22]; rfl) Tryd.underlying70)) ?_
   refine s0 (rd_assign' rfl) ?_
   refine nk hK16 ?_
   refine cr fun K17 hK17 => ?_
   refine s0 (rd_move' rfl) ?_
   refine s0 (rd_conv' rfl (ru_i2f (by rw [Tryd.underlying70]; rfl) Tryd.underlying22)) ?_
   refine s0 (rd_assign' rfl) ?_
   refine nk hK17 ?_
   refine cx_join' (fun (v3 : Int × Nat) => (⟨142, [], [(0, (Vg x2)), (3, (Vb x3)), (4, (Vl (.int .u64 v3.1))), (5, (Fl v3.2))], []⟩ : St)) (fun (v3 : Int × Nat) => math_sin_j3 k x2 x3 v3.1 v3.2 = some out) ?_ ?_
   ·rintro ⟨x4, x5⟩ hp
    replace hp : math_sin_j3 k x2 x3 x4 x5 = some out := hp
    unfold math_sin_j3 at hp
    refine cr fun K21 hK21 => ?_
    refine s0 (rd_move' rfl) ?_
    refine s0 (rd_bin' rfl rfl eg_int ru_and) ?_
    refine s0 (rd_assign' rfl) ?_
    refine nk hK21 ?_
    refine cx_region' ?_
    refine s0 (rd_move' rfl) ?_
    refine s0 (rd_move' rfl) ?_
    obtain ⟨r47, hr47, hp⟩ := bind_some hp
    refine sx_ox' (ox_fop' (.inr (.inr (.inl rfl))) (fl_f rfl) (fl_v rfl) (Option.some.inj hr47) rfl rfl) (wt_none' rfl) fun _ => ?_
    obtain ⟨r48, hr48, hp⟩ := bind_some hp
    refine sx_ox' (ox_fop' (.inr (.inl rfl)) (fl_v rfl) (fl_f rfl) (Option.some.inj hr48) rfl rfl) (wt_none' rfl) fun _ => ?_
    refine s0 (rd_move' rfl) ?_
    obtain ⟨r50, hr50, hp⟩ := bind_some hp
    refine sx_ox' (ox_fop' (.inr (.inr (.inl rfl))) (fl_f rfl) (fl_v rfl) (Option.some.inj hr50) rfl rfl) (wt_none' rfl) fun _ => ?_
    obtain ⟨r51, hr51, hp⟩ := bind_some hp
    refine sx_ox' (ox_fop' (.inr (.inl rfl)) (fl_f rfl) (fl_f rfl) (Option.some.inj hr51) rfl rfl) (wt_none' rfl) fun _ => ?_
    refine s0 (rd_move' rfl) ?_
    obtain ⟨r53, hr53, hp⟩ := bind_some hp
    refine sx_ox' (ox_fop' (.inr (.inr (.inl rfl))) (fl_f rfl) (fl_v rfl) (Option.some.inj hr53) rfl rfl) (wt_none' rfl) fun _ => ?_
    obtain ⟨r54, hr54, hp⟩ := bind_some hp
    refine sx_ox' (ox_fop' (.inr (.inl rfl)) (fl_f rfl) (fl_f rfl) (Option.some.inj hr54) rfl rfl) (wt_none' rfl) fun _ => ?_
    refine s0 (rd_assign' rfl) ?_
    refine nk hK14 ?_
    refine cx_join' (fun (v4 : Bool × Int) => (⟨142, [], [(3, (Vb v4.1)), (4, (Vl (.int .u64 v4.2))), (6, (Fl r54))], []⟩ : St)) (fun (v4 : Bool × Int) => math_sin_j4 k r54 v4.1 v4.2 = some out) ?_ ?_
    ·rintro ⟨x6, x7⟩ hp
     replace hp : math_sin_j4 k r54 x6 x7 = some out := hp
     unfold math_sin_j4 at hp
     refine cr fun K25 hK25 => ?_
     refine s0 (rd_move' rfl) ?_
     refine s0 (rd_move' rfl) ?_
     obtain ⟨r63, hr63, hp⟩ := bind_some hp
     refine sx_ox' (ox_fop' (.inr (.inr (.inl rfl))) (fl_f rfl) (fl_f rfl) (Option.some.inj hr63) rfl rfl) (wt_none' rfl) fun _ => ?_
     refine s0 (rd_assign' rfl) ?_
     refine nk hK25 ?_
     refine cx_join' (fun (v6 : Nat) => (⟨142, [], [(3, (Vb x6)), (5, (Fl v6))], []⟩ : St)) (fun (v6 : Nat) => math_sin_j6 k x6 v6 = some out) ?_ ?_
     ·rintro x9 hp
      replace hp : math_sin_j6 k x6 x9 = some out := hp
      unfold math_sin_j6 at hp
      refine cx_join' (fun (v7 : Nat) => (⟨142, [], [(5, (Fl v7))], []⟩ : St)) (fun (v7 : Nat) => math_sin_j7 k v7 = some out) ?_ ?_
      ·rintro x10 hp
       replace hp : math_sin_j7 k x10 = some out := hp
       unfold math_sin_j7 at hp
       refine cr fun K31 hK31 => ?_
       refine s0 (rd_move' rfl) ?_
       refine s0 (rd_assign' rfl) ?_
       refine nk hK31 ?_
       refine cx_retc' ?_
       replace hp := Option.some.inj hp
       subst hp
       refine tx_pick' (L' := [(2, (Fl x10))]) (H' := []) [] (sub_cons rfl sub_nil) (by decide) pick_nil ?_
       exact tx_ret1' Tryd.results35 rfl () (rv_tmp' rfl) (List.Sublist.refl _)
      intro K29 hK29
      refine cr fun K30 hK30 => ?_
      refine s0 (rd_move' rfl) ?_
      refine nk hK30 ?_
      refine cx_cond' rfl (fun h10 => ?_) (fun h10 => ?_)
      ·replace hp := (br_t h10).symm.trans hp
       refine cx_region' ?_
       refine s0 (rd_move' rfl) ?_
       refine s0 (rd_fneg_fl' (fl_f rfl)) ?_
       refine s0 (rd_assign' rfl) ?_
       refine sx_nil' ?_
       show TX E K29 _
       exact tx_pick' [] (sub_cons rfl sub_nil) (by decide) pick_nil (hK29 (fneg x9) hp)
      replace hp := (br_f h10).symm.trans hp
      refine cx_skip' ?_
      show TX E K29 _
      exact tx_pick' [] (sub_cons rfl sub_nil) (by decide) pick_nil (hK29 x9 hp)
     intro K26 hK26
     refine cr fun K27 hK27 => ?_
     refine s0 (rd_move' rfl) ?_
     refine s0 (rd_bin' rfl rfl eg_int ru_eql) ?_
     refine s0 (rd_move' rfl) ?_
     refine sx_cutn' 3 (fun (v5 : Bool) => (⟨142, [], [(3, (Vb x6)), (6, (Fl r54)), (7, (Fl r63)), (69, (Vb v5))], []⟩ : St)) (fun (v5 : Bool) => math_sin_j5 k r63 x6 r54 v5 = some out) ?_ ?_
     ·rintro x8 hp
      replace hp : math_sin_j5 k r63 x6 r54 x8 = some out := hp
      unfold math_sin_j5 at hp
      refine nk hK27 ?_
      refine cx_cond' rfl (fun h9 => ?_) (fun h9 => ?_)
      ·replace hp := (br_t h9).symm.trans hp
       refine cx_region' ?_
       refine s0 (rd_move' rfl) ?_
       obtain ⟨r71, hr71, hp⟩ := bind_some hp
       refine sx_ox' (ox_fop' (.inr (.inr (.inl rfl))) (fl_v rfl) (fl_f rfl) (Option.some.inj hr71) rfl rfl) (wt_none' rfl) fun _ => ?_
       obtain ⟨r72, hr72, hp⟩ := bind_some hp
       refine sx_ox' (ox_fop' (.inr (.inl rfl)) (fl_v rfl) (fl_f rfl) (Option.some.inj hr72) rfl rfl) (wt_none' rfl) fun _ => ?_
       refine s0 (rd_move' rfl) ?_
       refine s0 (rd_move' rfl) ?_
       obtain ⟨r75, hr75, hp⟩ := bind_some hp
       refine sx_ox' (ox_fop' (.inr (.inr (.inl rfl))) (fl_f rfl) (fl_f rfl) (Option.some.inj hr75) rfl rfl) (wt_none' rfl) fun _ => ?_
       refine s0 (rd_ixa' (p' := ⟨1, 0, none⟩) rfl rfl (by decide) (by decide) Tryd.underlying88 info22 rfl) ?_
       refine s0 (rd_gloadat' rfl gm1 flat22 rfl) ?_
       refine s0 (rd_move' rfl) ?_
       obtain ⟨r79, hr79, hp⟩ := bind_some hp
       refine sx_ox' (ox_fop' (.inr (.inr (.inl rfl))) (fl_v rfl) (fl_f rfl) (Option.some.inj hr79) rfl rfl) (wt_none' rfl) fun _ => ?_
       refine s0 (rd_ixa' (p' := ⟨1, 1, none⟩) rfl rfl (by decide) (by decide) Tryd.underlying88 info22 rfl) ?_
       refine s0 (rd_gloadat' rfl gm1 flat22 rfl) ?_
       obtain ⟨r82, hr82, hp⟩ := bind_some hp
       refine sx_ox' (ox_fop' (.inl rfl) (fl_f rfl) (fl_v rfl) (Option.some.inj hr82) rfl rfl) (wt_none' rfl) fun _ => ?_
       refine s0 (rd_move' rfl) ?_
       obtain ⟨r84, hr84, hp⟩ := bind_some hp
       refine sx_ox' (ox_fop' (.inr (.inr (.inl rfl))) (fl_f rfl) (fl_f rfl) (Option.some.inj hr84) rfl rfl) (wt_none' rfl) fun _ => ?_
       refine s0 (rd_ixa' (p' := ⟨1, 2, none⟩) rfl rfl (by decide) (by decide) Tryd.underlying88 info22 rfl) ?_
       refine s0 (rd_gloadat' rfl gm1 flat22 rfl) ?_
       obtain ⟨r87, hr87, hp⟩ := bind_some hp
       refine sx_ox' (ox_fop' (.inl rfl) (fl_f rfl) (fl_v rfl) (Option.some.inj hr87) rfl rfl) (wt_none' rfl) fun _ => ?_
       refine s0 (rd_move' rfl) ?_
       obtain ⟨r89, hr89, hp⟩ := bind_some hp
       refine sx_ox' (ox_fop' (.inr (.inr (.inl rfl))) (fl_f rfl) (fl_f rfl) (Option.some.inj hr89) rfl rfl) (wt_none' rfl) fun _ => ?_
       refine s0 (rd_ixa' (p' := ⟨1, 3, none⟩) rfl rfl (by decide) (by decide) Tryd.underlying88 info22 rfl) ?_
       refine s0 (rd_gloadat' rfl gm1 flat22 rfl) ?_
       obtain ⟨r92, hr92, hp⟩ := bind_some hp
       refine sx_ox' (ox_fop' (.inl rfl) (fl_f rfl) (fl_v rfl) (Option.some.inj hr92) rfl rfl) (wt_none' rfl) fun _ => ?_
       refine s0 (rd_move' rfl) ?_
       obtain ⟨r94, hr94, hp⟩ := bind_some hp
       refine sx_ox' (ox_fop' (.inr (.inr (.inl rfl))) (fl_f rfl) (fl_f rfl) (Option.some.inj hr94) rfl rfl) (wt_none' rfl) fun _ => ?_
       refine s0 (rd_ixa' (p' := ⟨1, 4, none⟩) rfl rfl (by decide) (by decide) Tryd.underlying88 info22 rfl) ?_
       refine s0 (rd_gloadat' rfl gm1 flat22 rfl) ?_
       obtain ⟨r97, hr97, hp⟩ := bind_some hp
       refine sx_ox' (ox_fop' (.inl rfl) (fl_f rfl) (fl_v rfl) (Option.some.inj hr97) rfl rfl) (wt_none' rfl) fun _ => ?_
       refine s0 (rd_move' rfl) ?_
       obtain ⟨r99, hr99, hp⟩ := bind_some hp
       refine sx_ox' (ox_fop' (.inr (.inr (.inl rfl))) (fl_f rfl) (fl_f rfl) (Option.some.inj hr99) rfl rfl) (wt_none' rfl) fun _ => ?_
       refine s0 (rd_ixa' (p' := ⟨1, 5, none⟩) rfl rfl (by decide) (by decide) Tryd.underlying88 info22 rfl) ?_
       refine s0 (rd_gloadat' rfl gm1 flat22 rfl) ?_
       obtain ⟨r102, hr102, hp⟩ := bind_some hp
       refine sx_ox' (ox_fop' (.inl rfl) (fl_f rfl) (fl_v rfl) (Option.some.inj hr102) rfl rfl) (wt_none' rfl) fun _ => ?_
       obtain ⟨r103, hr103, hp⟩ := bind_some hp
       refine sx_ox' (ox_fop' (.inr (.inr (.inl rfl))) (fl_f rfl) (fl_f rfl) (Option.some.inj hr103) rfl rfl) (wt_none' rfl) fun _ => ?_
       obtain ⟨r104, hr104, hp⟩ := bind_some hp
       refine sx_ox' (ox_fop' (.inl rfl) (fl_f rfl) (fl_f rfl) (Option.some.inj hr104) rfl rfl) (wt_none' rfl) fun _ => ?_
       refine s0 (rd_assign' rfl) ?_
       refine sx_nil' ?_
       show TX E K26 _
       exact tx_pick' [] (sub_cons rfl (sub_cons rfl sub_nil)) (by decide) pick_nil (hK26 r104 hp)
      replace hp := (br_f h9).symm.trans hp
      refine cx_region' ?_
      refine s0 (rd_move' rfl) ?_
      refine s0 (rd_move' rfl) ?_
      refine s0 (rd_move' rfl) ?_
      obtain ⟨r108, hr108, hp⟩ := bind_some hp
      refine sx_ox' (ox_fop' (.inr (.inr (.inl rfl))) (fl_f rfl) (fl_f rfl) (Option.some.inj hr108) rfl rfl) (wt_none' rfl) fun _ => ?_
      refine s0 (rd_ixa' (p' := ⟨2, 0, none⟩) rfl rfl (by decide) (by decide) Tryd.underlying88 info22 rfl) ?_
      refine s0 (rd_gloadat' rfl gm2 flat22 rfl) ?_
      refine s0 (rd_move' rfl) ?_
      obtain ⟨r112, hr112, hp⟩ := bind_some hp
      refine sx_ox' (ox_fop' (.inr (.inr (.inl rfl))) (fl_v rfl) (fl_f rfl) (Option.some.inj hr112) rfl rfl) (wt_none' rfl) fun _ => ?_
      refine s0 (rd_ixa' (p' := ⟨2, 1, none⟩) rfl rfl (by decide) (by decide) Tryd.underlying88 info22 rfl) ?_
      refine s0 (rd_gloadat' rfl gm2 flat22 rfl) ?_
      obtain ⟨r115, hr115, hp⟩ := bind_some hp
      refine sx_ox' (ox_fop' (.inl rfl) (fl_f rfl) (fl_v rfl) (Option.some.inj hr115) rfl rfl) (wt_none' rfl) fun _ => ?_
      refine s0 (rd_move' rfl) ?_
      obtain ⟨r117, hr117, hp⟩ := bind_some hp
      refine sx_ox' (ox_fop' (.inr (.inr (.inl rfl))) (fl_f rfl) (fl_f rfl) (Option.some.inj hr117) rfl rfl) (wt_none' rfl) fun _ => ?_
      refine s0 (rd_ixa' (p' := ⟨2, 2, none⟩) rfl rfl (by decide) (by decide) Tryd.underlying88 info22 rfl) ?_
      refine s0 (rd_gloadat' rfl gm2 flat22 rfl) ?_
      obtain ⟨r120, hr120, hp⟩ := bind_some hp
      refine sx_ox' (ox_fop' (.inl rfl) (fl_f rfl) (fl_v rfl) (Option.some.inj hr120) rfl rfl) (wt_none' rfl) fun _ => ?_
      refine s0 (rd_move' rfl) ?_
      obtain ⟨r122, hr122, hp⟩ := bind_some hp
      refine sx_ox' (ox_fop' (.inr (.inr (.inl rfl))) (fl_f rfl) (fl_f rfl) (Option.some.inj hr122) rfl rfl) (wt_none' rfl) fun _ => ?_
      refine s0 (rd_ixa' (p' := ⟨2, 3, none⟩) rfl rfl (by decide) (by decide) Tryd.underlying88 info22 rfl) ?_
      refine s0 (rd_gloadat' rfl gm2 flat22 rfl) ?_
      obtain ⟨r125, hr125, hp⟩ := bind_some hp
      refine sx_ox' (ox_fop' (.inl rfl) (fl_f rfl) (fl_v rfl) (Option.some.inj hr125) rfl rfl) (wt_none' rfl) fun _ => ?_
      refine s0 (rd_move' rfl) ?_
      obtain ⟨r127, hr127, hp⟩ := bind_some hp
      refine sx_ox' (ox_fop' (.inr (.inr (.inl rfl))) (fl_f rfl) (fl_f rfl) (Option.some.inj hr127) rfl rfl) (wt_none' rfl) fun _ => ?_
      refine s0 (rd_ixa' (p' := ⟨2, 4, none⟩) rfl rfl (by decide) (by decide) Tryd.underlying88 info22 rfl) ?_
      refine s0 (rd_gloadat' rfl gm2 flat22 rfl) ?_
      obtain ⟨r130, hr130, hp⟩ := bind_some hp
      refine sx_ox' (ox_fop' (.inl rfl) (fl_f rfl) (fl_v rfl) (Option.some.inj hr130) rfl rfl) (wt_none' rfl) fun _ => ?_
      refine s0 (rd_move' rfl) ?_
      obtain ⟨r132, hr132, hp⟩ := bind_some hp
      refine sx_ox' (ox_fop' (.inr (.inr (.inl rfl))) (fl_f rfl) (fl_f rfl) (Option.some.inj hr132) rfl rfl) (wt_none' rfl) fun _ => ?_
      refine s0 (rd_ixa' (p' := ⟨2, 5, none⟩) rfl rfl (by decide) (by decide) Tryd.underlying88 info22 rfl) ?_
      refine s0 (rd_gloadat' rfl gm2 flat22 rfl) ?_
      obtain ⟨r135, hr135, hp⟩ := bind_some hp
      refine sx_ox' (ox_fop' (.inl rfl) (fl_f rfl) (fl_v rfl) (Option.some.inj hr135) rfl rfl) (wt_none' rfl) fun _ => ?_
      obtain ⟨r136, hr136, hp⟩ := bind_some hp
      refine sx_ox' (ox_fop' (.inr (.inr (.inl rfl))) (fl_f rfl) (fl_f rfl) (Option.some.inj hr136) rfl rfl) (wt_none' rfl) fun _ => ?_
      obtain ⟨r137, hr137, hp⟩ := bind_some hp
      refine sx_ox' (ox_fop' (.inl rfl) (fl_f rfl) (fl_f rfl) (Option.some.inj hr137) rfl rfl) (wt_none' rfl) fun _ => ?_
      refine s0 (rd_assign' rfl) ?_
      refine sx_nil' ?_
      show TX E K26 _
      exact tx_pick' [] (sub_cons rfl (sub_cons rfl sub_nil)) (by decide) pick_nil (hK26 r137 hp)
     intro K28 hK28
     rcases br_cases hp with ⟨h8, hp⟩ | ⟨h8, hp⟩
     ·refine sx_skip' rfl rfl (wt_is' (wt_guard' rfl rfl rfl) (beq_tf h8)) ?_
      refine sx_skip' rfl rfl (wt_is' (wt_guard' rfl rfl rfl) (beq_tf h8)) ?_
      refine s0 (rd_pick_true' rfl h8 rfl) ?_
      refine sx_nil' ?_
      show TX E K28 _
      exact tx_pick' [] (sub_cons rfl (sub_cons rfl (sub_cons rfl (sub_cons rfl sub_nil)))) (by decide) pick_nil (hK28 true hp)
     refine sx_rd' (rd_move' rfl) rfl rfl (wt_is' (wt_guard' rfl rfl rfl) (beq_ff h8)) ?_
     refine sx_rd' (rd_bin' rfl rfl eg_int ru_eql) rfl rfl (wt_is' (wt_guard' rfl rfl rfl) (beq_ff h8)) ?_
     refine s0 (rd_pick_false' rfl h8 rfl) ?_
     refine sx_nil' ?_
     show TX E K28 _
     exact tx_pick' [] (sub_cons rfl (sub_cons rfl (sub_cons rfl (sub_cons rfl sub_nil)))) (by decide) pick_nil (hK28 (decide (x7 = 2)) hp)
    intro K22 hK22
    refine cr fun K23 hK23 => ?_
    refine s0 (rd_move' rfl) ?_
    refine s0 (rd_bin' rfl rfl eg_int ru_gtr) ?_
    refine nk hK23 ?_
    refine cx_cond' rfl (fun h7 => ?_) (fun h7 => ?_)
    ·replace hp := (br_t h7).symm.trans hp
     refine cr fun K24 hK24 => ?_
     refine s0 (rd_move' rfl) ?_
     refine s0 (rd_un' rfl ru_not) ?_
     refine s0 (rd_assign' rfl) ?_
     refine nk hK24 ?_
     refine cx_region' ?_
     refine s0 (rd_move' rfl) ?_
     refine s0 (rd_bin' rfl rfl eg_int ru_sub) ?_
     refine s0 (rd_assign' rfl) ?_
     refine sx_nil' ?_
     show TX E K22 _
     exact tx_pick' [] (sub_cons rfl (sub_cons rfl (sub_cons rfl sub_nil))) (by decide) pick_nil (hK22 ((!x3), (isub .u64 (iand .u64 x4 7) 4)) hp)
    replace hp := (br_f h7).symm.trans hp
    refine cx_skip' ?_
    show TX E K22 _
    exact tx_pick' [] (sub_cons rfl (sub_cons rfl (sub_cons rfl sub_nil))) (by decide) pick_nil (hK22 (x3, (iand .u64 x4 7)) hp)
   intro K18 hK18
   refine cr fun K19 hK19 => ?_
   refine s0 (rd_move' rfl) ?_
   refine s0 (rd_bin' rfl rfl eg_int ru_and) ?_
   refine s0 (rd_bin' rfl rfl eg_int ru_eql) ?_
   refine nk hK19 ?_
   refine cx_cond' rfl (fun h6 => ?_) (fun h6 => ?_)
   ·replace hp := (br_t h6).symm.trans hp
    refine cr fun K20 hK20 => ?_
    refine s0 (rd_move' rfl) ?_
    refine s0 (rd_bin' rfl rfl eg_int ru_add) ?_
    refine s0 (rd_assign' rfl) ?_
    refine nk hK20 ?_
    refine cx_region' ?_
    refine s0 (rd_move' rfl) ?_
    obtain ⟨r42, hr42, hp⟩ := bind_some hp
    refine sx_ox' (ox_fop' (.inl rfl) (fl_v rfl) (fl_v rfl) (Option.some.inj hr42) rfl rfl) (wt_none' rfl) fun _ => ?_
    refine s0 (rd_assign' rfl) ?_
    refine sx_nil' ?_
    show TX E K18 _
    exact tx_pick' [] (sub_cons rfl (sub_cons rfl (sub_cons rfl (sub_cons rfl sub_nil)))) (by decide) pick_nil (hK18 ((iadd .u64 r33 1), r42) hp)
   replace hp := (br_f h6).symm.trans hp
   refine cx_skip' ?_
   show TX E K18 _
   refine tx_slot' 5 (y := (Fl (i2f r33))) rfl imp_vf ?_
   exact tx_pick' [] (sub_cons rfl (sub_cons rfl (sub_cons rfl (sub_cons rfl sub_nil)))) (by decide) pick_nil (hK18 (r33, (i2f r33)) hp)
  intro K9 hK9
  refine cr fun K10 hK10 => ?_
  refine s0 (rd_move' rfl) ?_
  refine s0 (rd_bin' rfl rfl eg_flt ru_flt) ?_
  refine nk hK10 ?_
  refine cx_cond' rfl (fun h4 => ?_) (fun h4 => ?_)
  ·replace hp := (br_t h4).symm.trans hp
   refine cr fun K11 hK11 => ?_
   refine s0 (rd_move' rfl) ?_
   refine s0 (rd_un' rfl ru_fneg) ?_
   refine s0 (rd_assign' rfl) ?_
   refine nk hK11 ?_
   refine cx_region' ?_
   refine s0 (rd_assign' rfl) ?_
   refine sx_nil' ?_
   show TX E K9 _
   exact tx_pick' [] (sub_cons rfl (sub_cons rfl sub_nil)) (by decide) pick_nil (hK9 ((fneg a0), true) hp)
  replace hp := (br_f h4).symm.trans hp
  refine cx_skip' ?_
  show TX E K9 _
  exact tx_pick' [] (sub_cons rfl (sub_cons rfl sub_nil)) (by decide) pick_nil (hK9 (a0, false) hp)
 intro K4 hK4
 rcases br_cases hp with ⟨h1, hp⟩ | ⟨h1, hp⟩
 ·refine sx_skip' rfl rfl (wt_is' (wt_guard' rfl rfl rfl) (beq_tf h1)) ?_
  refine sx_skip' rfl rfl (wt_is' (wt_guard' rfl rfl rfl) (beq_tf h1)) ?_
  refine s0 (rd_pick_true' rfl h1 rfl) ?_
  refine sx_nil' ?_
  show TX E K4 _
  exact tx_pick' [] (sub_cons rfl (sub_cons rfl sub_nil)) (by decide) pick_nil (hK4 true hp)
 refine sx_rd' (rd_move' rfl) rfl rfl (wt_is' (wt_guard' rfl rfl rfl) (beq_ff h1)) ?_
 obtain ⟨r13, hr13, hp⟩ := bind_some hp
 refine sx_ox' (ox_calln' (ent_fn' Tryd.func54 isn54 rfl rfl) (math_IsNaN_sim _ hr13 : Sx.Fn Tryd.prog 54 [(Vg a0)] [] (fun x : Unit => (Vb r13)) (fun x => [])) (Hn := fun x : Unit => []) (fun _ => rfl) rfl rfl) (wt_is' (wt_guard' rfl rfl rfl) (beq_ff h1)) fun ⟨⟩ => ?_
 refine s0 (rd_pick_false' rfl h1 rfl) ?_
 refine sx_nil' ?_
 show TX E K4 _
 exact tx_pick' [] (sub_cons rfl (sub_cons rfl sub_nil)) (by decide) pick_nil (hK4 r13 hp)

def math_Sin (k : Nat) (a0 : Nat) : Option (Nat) :=
 (math_sin k a0) >>= fun r6 =>
 some r6

theorem math_Sin_sim {k : Nat}  (a0 : Nat) {out : Nat} (hp : math_Sin k a0 = some out) : Sx.Fn Tryd.prog 17 [(Vg a0)] [] (fun w : Unit => (Fl out)) (fun w => []) := by
 unfold math_Sin at hp
 refine fn_of Tryd.func17 rfl Tryd.ntmps17 rfl fun E hM => ?_
 refine cr fun K1 hK1 => ?_
 refine s0 (rd_assign' rfl) ?_
 refine nk hK1 ?_
 refine cx_seq' fun K2 hK2 => ?_
 refine cx_cond_f' rfl rfl ?_
 refine cx_skip' ?_
 show TX E K2 _
 refine tx_k' hK2 ?_
 refine cr fun K3 hK3 => ?_
 refine s0 (rd_move' rfl) ?_
 obtain ⟨r6, hr6, hp⟩ := bind_some hp
 refine sx_ox' (ox_calln' (ent_fn' Tryd.func35 isn35 rfl rfl) (math_sin_sim _ hr6 : Sx.Fn Tryd.prog 35 [(Vg a0)] [] (fun x : Unit => (Fl r6)) (fun x => [])) (Hn := fun x : Unit => []) (fun _ => rfl) rfl rfl) (wt_none' rfl) fun ⟨⟩ => ?_
 refine s0 (rd_assign' rfl) ?_
 refine nk hK3 ?_
 refine cx_retc' ?_
 replace hp := Option.some.inj hp
 subst hp
 refine tx_pick' (L' := [(2, (Fl r6))]) (H' := []) [] (sub_cons rfl sub_nil) (by decide) pick_nil ?_
 exact tx_ret1' Tryd.results17 rfl () (rv_tmp' rfl) (List.Sublist.refl _)

def math_cos_j7 (k : Nat) (x9 : Nat) : Option (Nat) :=
 some x9
def math_cos_j6 (k : Nat) (x6 : Bool) (x8 : Nat) : Option (Nat) :=
 br x6
  (math_cos_j7 k (fneg x8))
  (math_cos_j7 k x8)
def math_cos_j5 (k : Nat) (r48 : Nat) (r61 : Nat) (x6 : Bool) (x7 : Bool) : Option (Nat) :=
 br x7
  ((some (gmul r48 r61)) >>= fun r71 =>
  (some (gmul 4460209587652500685 r61)) >>= fun r75 =>
  (some (gadd r75 13716528389658582877)) >>= fun r78 =>
  (some (gmul r78 r61)) >>= fun r80 =>
  (some (gadd r80 4523617212962785441)) >>= fun r83 =>
  (some (gmul r83 r61)) >>= fun r85 =>
  (some (gadd r85 13774824197404483331)) >>= fun r88 =>
  (some (gmul r88 r61)) >>= fun r90 =>
  (some (gadd r90 4575957461383575504)) >>= fun r93 =>
  (some (gmul r93 r61)) >>= fun r95 =>
  (some (gadd r95 13818544856648471880)) >>= fun r98 =>
  (some (gmul r71 r98)) >>= fun r99 =>
  (some (gadd r48 r99)) >>= fun r100 =>
  math_cos_j6 k x6 r100)
  ((some (gmul 4602678819172646912 r61)) >>= fun r102 =>
  (some (gsub 4607182418800017408 r102)) >>= fun r103 =>
  (some (gmul r61 r61)) >>= fun r106 =>
  (some (gmul 13666448263388469915 r61)) >>= fun r110 =>
  (some (gadd r110 4477121864728985349)) >>= fun r113 =>
  (some (gmul r113 r61)) >>= fun r115 =>
  (some (gadd r115 13732177093698800582)) >>= fun r118 =>
  (some (gmul r118 r61)) >>= fun r120 =>
  (some (gadd r120 4537941361668146421)) >>= fun r123 =>
  (some (gmul r123 r61)) >>= fun r125 =>
  (some (gadd r125 13787419979223748497)) >>= fun r128 =>
  (some (gmul r128 r61)) >>= fun r130 =>
  (some (gadd r130 4586165620538955083)) >>= fun r133 =>
  (some (gmul r106 r133)) >>= fun r134 =>
  (some (gadd r103 r134)) >>= fun r135 =>
  math_cos_j6 k x6 r135)
def math_cos_j4 (k : Nat) (r48 : Nat) (x5 : Int) (x6 : Bool) : Option (Nat) :=
 (some (gmul r48 r48)) >>= fun r61 =>
 br (decide (x5 = 1))
  (math_cos_j5 k r48 r61 x6 true)
  (math_cos_j5 k r48 r61 x6 (decide (x5 = 2)))
def math_cos_j3 (k : Nat) (r48 : Nat) (x4 : Bool) (x5 : Int) : Option (Nat) :=
 br (decide (1 < x5))
  (math_cos_j4 k r48 x5 (!x4))
  (math_cos_j4 k r48 x5 x4)
def math_cos_j2 (k : Nat) (r17 : Nat) (x2 : Int) (x3 : Nat) : Option (Nat) :=
 (some (gmul x3 4605249456957292544)) >>= fun r41 =>
 (some (gsub r17 r41)) >>= fun r42 =>
 (some (gmul x3 4495793288086814720)) >>= fun r44 =>
 (some (gsub r42 r44)) >>= fun r45 =>
 (some (gmul x3 4388835458085048688)) >>= fun r47 =>
 (some (gsub r45 r47)) >>= fun r48 =>
 br (decide (3 < (iand .u64 x2 7)))
  (math_cos_j3 k r48 (!false) (isub .u64 (iand .u64 x2 7) 4))
  (math_cos_j3 k r48 false (iand .u64 x2 7))
def math_cos_j1 (k : Nat) (a0 : Nat) (x1 : Bool) : Option (Nat) :=
 br x1
  ((math_NaN k) >>= fun r15 =>
  some r15)
  ((math_Abs k a0) >>= fun r17 =>
  br (fge r17 4737786807993761792)
   (none)
   ((some (gmul r17 4608412980311869571)) >>= fun r26 =>
   (num r26) >>= fun u1 =>
   (f2i .u64 r26) >>= fun r27 =>
   br (decide ((iand .u64 r27 1) = 1))
    ((some (gadd (i2f r27) 4607182418800017408)) >>= fun r36 =>
    math_cos_j2 k r17 (iadd .u64 r27 1) r36)
    (math_cos_j2 k r17 r27 (i2f r27))))
def math_cos (k : Nat) (a0 : Nat) : Option (Nat) :=
 (math_IsNaN k a0) >>= fun r10 =>
 br r10
  (math_cos_j1 k a0 true)
  ((math_IsInf k a0 0) >>= fun r13 =>
  math_cos_j1 k a0 r13)

theorem math_cos_sim {k : Nat}  (a0 : Nat) {out : Nat} (hp : math_cos k a0 = some out) : Sx.Fn Tryd.prog 37 [(Vg a0)] [] (fun w : Unit => (Fl out)) (fun w => []) := by
 unfold math_cos at hp
 refine fn_of Tryd.func37 rfl Tryd.ntmps37 rfl fun E hM => ?_
 refine cr fun K1 hK1 => ?_
 refine s0 (rd_assign' rfl) ?_
 refine nk hK1 ?_
 refine cx_seq' fun K2 hK2 => ?_
 refine cx_block' ?_
 refine cr fun K3 hK3 => ?_
 refine s0 (rd_move' rfl) ?_
 obtain ⟨r10, hr10, hp⟩ := bind_some hp
 refine sx_ox' (ox_calln' (ent_fn' Tryd.func54 isn54 rfl rfl) (math_IsNaN_sim _ hr10 : Sx.Fn Tryd.prog 54 [(Vg a0)] [] (fun x : Unit => (Vb r10)) (fun x => [])) (Hn := fun x : Unit => []) (fun _ => rfl) rfl rfl) (wt_none' rfl) fun ⟨⟩ => ?_
 refine s0 (rd_move' rfl) ?_
 refine sx_cutn' 3 (fun (v1 : Bool) => (⟨140, [], [(0, (Vg a0)), (14, (Vb v1))], []⟩ : St)) (fun (v1 : Bool) => math_cos_j1 k a0 v1 = some out) ?_ ?_
 ·rintro x1 hp
  replace hp : math_cos_j1 k a0 x1 = some out := hp
  unfold math_cos_j1 at hp
  refine s0 (rd_assign' rfl) ?_
  refine nk hK3 ?_
  refine cx_cond' rfl (fun h2 => ?_) (fun h2 => ?_)
  ·replace hp := (br_t h2).symm.trans hp
   refine cr fun K5 hK5 => ?_
   obtain ⟨r15, hr15, hp⟩ := bind_some hp
   refine sx_ox' (ox_calln' (ent_fn' Tryd.func56 isn56 rfl rfl) (math_NaN_sim hr15 : Sx.Fn Tryd.prog 56 [] [] (fun x : Unit => (Vg r15)) (fun x => [])) (Hn := fun x : Unit => []) (fun _ => rfl) rfl rfl) (wt_none' rfl) fun ⟨⟩ => ?_
   refine s0 (rd_assign' rfl) ?_
   refine nk hK5 ?_
   refine cx_retc' ?_
   replace hp := Option.some.inj hp
   subst hp
   refine tx_pick' (L' := [(2, (Vg r15))]) (H' := []) [] (sub_cons rfl sub_nil) (by decide) pick_nil ?_
   exact tx_ret1' Tryd.results37 rfl () (rv_imp' (x := (Vg r15)) (y := (Fl r15)) (rv_tmp' rfl) imp_vf) (List.Sublist.refl _)
  replace hp := (br_f h2).symm.trans hp
  refine cx_skip' ?_
  show TX E K2 _
  refine tx_k' hK2 ?_
  refine cr fun K6 hK6 => ?_
  refine s0 (rd_assign' rfl) ?_
  refine nk hK6 ?_
  refine cr fun K7 hK7 => ?_
  refine s0 (rd_move' rfl) ?_
  obtain ⟨r17, hr17, hp⟩ := bind_some hp
  refine sx_ox' (ox_calln' (ent_fn' Tryd.func19 isn19 rfl rfl) (math_Abs_sim _ hr17 : Sx.Fn Tryd.prog 19 [(Vg a0)] [] (fun x : Unit => (Vg r17)) (fun x => [])) (Hn := fun x : Unit => []) (fun _ => rfl) rfl rfl) (wt_none' rfl) fun ⟨⟩ => ?_
  refine s0 (rd_assign' rfl) ?_
  refine nk hK7 ?_
  refine cr fun K8 hK8 => ?_
  refine s0 (rd_assign' rfl) ?_
  refine nk hK8 ?_
  refine cr fun K9 hK9 => ?_
  refine s0 (rd_assign' rfl) ?_
  refine s0 (rd_assign' rfl) ?_
  refine nk hK9 ?_
  refine cx_seq' fun K10 hK10 => ?_
  refine cr fun K11 hK11 => ?_
  refine s0 (rd_move' rfl) ?_
  refine s0 (rd_bin' rfl rfl eg_flt ru_fge) ?_
  refine nk hK11 ?_
  refine cx_cond' rfl (fun h3 => ?_) (fun h3 => ?_)
  ·replace hp := (br_t h3).symm.trans hp
   cases hp
  replace hp := (br_f h3).symm.trans hp
  refine cr fun K12 hK12 => ?_
  refine s0 (rd_move' rfl) ?_
  obtain ⟨r26, hr26, hp⟩ := bind_some hp
  refine sx_ox' (ox_fop' (.inr (.inr (.inl rfl))) (fl_v rfl) (fl_v rfl) (Option.some.inj hr26) rfl rfl) (wt_none' rfl) fun _ => ?_
  obtain ⟨u1, hu1, hp⟩ := bind_some hp
  refine tx_slot' 26 (y := (Vg r26)) rfl (imp_num (num_some hu1).2) ?_
  obtain ⟨r27, hr27, hp⟩ := bind_some hp
  refine s0 (rd_conv' rfl (ru_f2i hr27 (by rw [Tryd.underlying22]; rfl) Tryd.underlying70)) ?_
  refine s0 (rd_assign' rfl) ?_
  refine nk hK12 ?_
  refine cr fun K13 hK13 => ?_
  refine s0 (rd_move' rfl) ?_
  refine s0 (rd_conv' rfl (ru_i2f (by rw [Tryd.underlying70]; rfl) Tryd.underlying22)) ?_
  refine s0 (rd_assign' rfl) ?_
  refine nk hK13 ?_
  refine cx_join' (fun (v2 : Int × Nat) => (⟨140, [], [(0, (Vg r17)), (3, (Vb false)), (4, (Vl (.int .u64 v2.1))), (5, (Fl v2.2))], []⟩ : St)) (fun (v2 : Int × Nat) => math_cos_j2 k r17 v2.1 v2.2 = some out) ?_ ?_
  ·rintro ⟨x2, x3⟩ hp
   replace hp : math_cos_j2 k r17 x2 x3 = some out := hp
   unfold math_cos_j2 at hp
   refine cr fun K17 hK17 => ?_
   refine s0 (rd_move' rfl) ?_
   refine s0 (rd_bin' rfl rfl eg_int ru_and) ?_
   refine s0 (rd_assign' rfl) ?_
   refine nk hK17 ?_
   refine cx_region' ?_
   refine s0 (rd_move' rfl) ?_
   refine s0 (rd_move' rfl) ?_
   obtain ⟨r41, hr41, hp⟩ := bind_some hp
   refine sx_ox' (ox_fop' (.inr (.inr (.inl rfl))) (fl_f rfl) (fl_v rfl) (Option.some.inj hr41) rfl rfl) (wt_none' rfl) fun _ => ?_
   obtain ⟨r42, hr42, hp⟩ := bind_some hp
   refine sx_ox' (ox_fop' (.inr (.inl rfl)) (fl_v rfl) (fl_f rfl) (Option.some.inj hr42) rfl rfl) (wt_none' rfl) fun _ => ?_
   refine s0 (rd_move' rfl) ?_
   obtain ⟨r44, hr44, hp⟩ := bind_some hp
   refine sx_ox' (ox_fop' (.inr (.inr (.inl rfl))) (fl_f rfl) (fl_v rfl) (Option.some.inj hr44) rfl rfl) (wt_none' rfl) fun _ => ?_
   obtain ⟨r45, hr45, hp⟩ := bind_some hp
   refine sx_ox' (ox_fop' (.inr (.inl rfl)) (fl_f rfl) (fl_f rfl) (Option.some.inj hr45) rfl rfl) (wt_none' rfl) fun _ => ?_
   refine s0 (rd_move' rfl) ?_
   obtain ⟨r47, hr47, hp⟩ := bind_some hp
   refine sx_ox' (ox_fop' (.inr (.inr (.inl rfl))) (fl_f rfl) (fl_v rfl) (Option.some.inj hr47) rfl rfl) (wt_none' rfl) fun _ => ?_
   obtain ⟨r48, hr48, hp⟩ := bind_some hp
   refine sx_ox' (ox_fop' (.inr (.inl rfl)) (fl_f rfl) (fl_f rfl) (Option.some.inj hr48) rfl rfl) (wt_none' rfl) fun _ => ?_
   refine s0 (rd_assign' rfl) ?_
   refine nk hK10 ?_
   refine cx_join' (fun (v3 : Bool × Int) => (⟨140, [], [(3, (Vb v3.1)), (4, (Vl (.int .u64 v3.2))), (6, (Fl r48))], []⟩ : St)) (fun (v3 : Bool × Int) => math_cos_j3 k r48 v3.1 v3.2 = some out) ?_ ?_
   ·rintro ⟨x4, x5⟩ hp
    replace hp : math_cos_j3 k r48 x4 x5 = some out := hp
    unfold math_cos_j3 at hp
    refine cx_join' (fun (v4 : Bool) => (⟨140, [], [(3, (Vb v4)), (4, (Vl (.int .u64 x5))), (6, (Fl r48))], []⟩ : St)) (fun (v4 : Bool) => math_cos_j4 k r48 x5 v4 = some out) ?_ ?_
    ·rintro x6 hp
     replace hp : math_cos_j4 k r48 x5 x6 = some out := hp
     unfold math_cos_j4 at hp
     refine cr fun K23 hK23 => ?_
     refine s0 (rd_move' rfl) ?_
     refine s0 (rd_move' rfl) ?_
     obtain ⟨r61, hr61, hp⟩ := bind_some hp
     refine sx_ox' (ox_fop' (.inr (.inr (.inl rfl))) (fl_f rfl) (fl_f rfl) (Option.some.inj hr61) rfl rfl) (wt_none' rfl) fun _ => ?_
     refine s0 (rd_assign' rfl) ?_
     refine nk hK23 ?_
     refine cx_join' (fun (v6 : Nat) => (⟨140, [], [(3, (Vb x6)), (5, (Fl v6))], []⟩ : St)) (fun (v6 : Nat) => math_cos_j6 k x6 v6 = some out) ?_ ?_
     ·rintro x8 hp
      replace hp : math_cos_j6 k x6 x8 = some out := hp
      unfold math_cos_j6 at hp
      refine cx_join' (fun (v7 : Nat) => (⟨140, [], [(5, (Fl v7))], []⟩ : St)) (fun (v7 : Nat) => math_cos_j7 k v7 = some out) ?_ ?_
      ·rintro x9 hp
       replace hp : math_cos_j7 k x9 = some out := hp
       unfold math_cos_j7 at hp
       refine cr fun K29 hK29 => ?_
       refine s0 (rd_move' rfl) ?_
       refine s0 (rd_assign' rfl) ?_
       refine nk hK29 ?_
       refine cx_retc' ?_
       replace hp := Option.some.inj hp
       subst hp
       refine tx_pick' (L' := [(2, (Fl x9))]) (H' := []) [] (sub_cons rfl sub_nil) (by decide) pick_nil ?_
       exact tx_ret1' Tryd.results37 rfl () (rv_tmp' rfl) (List.Sublist.refl _)
      intro K27 hK27
      refine cr fun K28 hK28 => ?_
      refine s0 (rd_move' rfl) ?_
      refine nk hK28 ?_
      refine cx_cond' rfl (fun h9 => ?_) (fun h9 => ?_)
      ·replace hp := (br_t h9).symm.trans hp
       refine cx_region' ?_
       refine s0 (rd_move' rfl) ?_
       refine s0 (rd_fneg_fl' (fl_f rfl)) ?_
       refine s0 (rd_assign' rfl) ?_
       refine sx_nil' ?_
       show TX E K27 _
       exact tx_pick' [] (sub_cons rfl sub_nil) (by decide) pick_nil (hK27 (fneg x8) hp)
      replace hp := (br_f h9).symm.trans hp
      refine cx_skip' ?_
      show TX E K27 _
      exact tx_pick' [] (sub_cons rfl sub_nil) (by decide) pick_nil (hK27 x8 hp)
     intro K24 hK24
     refine cr fun K25 hK25 => ?_
     refine s0 (rd_move' rfl) ?_
     refine s0 (rd_bin' rfl rfl eg_int ru_eql) ?_
     refine s0 (rd_move' rfl) ?_
     refine sx_cutn' 3 (fun (v5 : Bool) => (⟨140, [], [(3, (Vb x6)), (6, (Fl r48)), (7, (Fl r61)), (67, (Vb v5))], []⟩ : St)) (fun (v5 : Bool) => math_cos_j5 k r48 r61 x6 v5 = some out) ?_ ?_
     ·rintro x7 hp
      replace hp : math_cos_j5 k r48 r61 x6 x7 = some out := hp
      unfold math_cos_j5 at hp
      refine nk hK25 ?_
      refine cx_cond' rfl (fun h8 => ?_) (fun h8 => ?_)
      ·replace hp := (br_t h8).symm.trans hp
       refine cx_region' ?_
       refine s0 (rd_move' rfl) ?_
       refine s0 (rd_move' rfl) ?_
       refine s0 (rd_move' rfl) ?_
       obtain ⟨r71, hr71, hp⟩ := bind_some hp
       refine sx_ox' (ox_fop' (.inr (.inr (.inl rfl))) (fl_f rfl) (fl_f rfl) (Option.some.inj hr71) rfl rfl) (wt_none' rfl) fun _ => ?_
       refine s0 (rd_ixa' (p' := ⟨2, 0, none⟩) rfl rfl (by decide) (by decide) Tryd.underlying88 info22 rfl) ?_
       refine s0 (rd_gloadat' rfl gm2 flat22 rfl) ?_
       refine s0 (rd_move' rfl) ?_
       obtain ⟨r75, hr75, hp⟩ := bind_some hp
       refine sx_ox' (ox_fop' (.inr (.inr (.inl rfl))) (fl_v rfl) (fl_f rfl) (Option.some.inj hr75) rfl rfl) (wt_none' rfl) fun _ => ?_
       refine s0 (rd_ixa' (p' := ⟨2, 1, none⟩) rfl rfl (by decide) (by decide) Tryd.underlying88 info22 rfl) ?_
       refine s0 (rd_gloadat' rfl gm2 flat22 rfl) ?_
       obtain ⟨r78, hr78, hp⟩ := bind_some hp
       refine sx_ox' (ox_fop' (.inl rfl) (fl_f rfl) (fl_v rfl) (Option.some.inj hr78) rfl rfl) (wt_none' rfl) fun _ => ?_
       refine s0 (rd_move' rfl) ?_
       obtain ⟨r80, hr80, hp⟩ := bind_some hp
       refine sx_ox' (ox_fop' (.inr (.inr (.inl rfl))) (fl_f rfl) (fl_f rfl) (Option.some.inj hr80) rfl rfl) (wt_none' rfl) fun _ => ?_
       refine s0 (rd_ixa' (p' := ⟨2, 2, none⟩) rfl rfl (by decide) (by decide) Tryd.underlying88 info22 rfl) ?_
       refine s0 (rd_gloadat' rfl gm2 flat22 rfl) ?_
       obtain ⟨r83, hr83, hp⟩ := bind_some hp
       refine sx_ox' (ox_fop' (.inl rfl) (fl_f rfl) (fl_v rfl) (Option.some.inj hr83) rfl rfl) (wt_none' rfl) fun _ => ?_
       refine s0 (rd_move' rfl) ?_
       obtain ⟨r85, hr85, hp⟩ := bind_some hp
       refine sx_ox' (ox_fop' (.inr (.inr (.inl rfl))) (fl_f rfl) (fl_f rfl) (Option.some.inj hr85) rfl rfl) (wt_none' rfl) fun _ => ?_
       refine s0 (rd_ixa' (p' := ⟨2, 3, none⟩) rfl rfl (by decide) (by decide) Tryd.underlying88 info22 rfl) ?_
       refine s0 (rd_gloadat' rfl gm2 flat22 rfl) ?_
       obtain ⟨r88, hr88, hp⟩ := bind_some hp
       refine sx_ox' (ox_fop' (.inl rfl) (fl_f rfl) (fl_v rfl) (Option.some.inj hr88) rfl rfl) (wt_none' rfl) fun _ => ?_
       refine s0 (rd_move' rfl) ?_
       obtain ⟨r90, hr90, hp⟩ := bind_some hp
       refine sx_ox' (ox_fop' (.inr (.inr (.inl rfl))) (fl_f rfl) (fl_f rfl) (Option.some.inj hr90) rfl rfl) (wt_none' rfl) fun _ => ?_
       refine s0 (rd_ixa' (p' := ⟨2, 4, none⟩) rfl rfl (by decide) (by decide) Tryd.underlying88 info22 rfl) ?_
       refine s0 (rd_gloadat' rfl gm2 flat22 rfl) ?_
       obtain ⟨r93, hr93, hp⟩ := bind_some hp
       refine sx_ox' (ox_fop' (.inl rfl) (fl_f rfl) (fl_v rfl) (Option.some.inj hr93) rfl rfl) (wt_none' rfl) fun _ => ?_
       refine s0 (rd_move' rfl) ?_
       obtain ⟨r95, hr95, hp⟩ := bind_some hp
       refine sx_ox' (ox_fop' (.inr (.inr (.inl rfl))) (fl_f rfl) (fl_f rfl) (Option.some.inj hr95) rfl rfl) (wt_none' rfl) fun _ => ?_
       refine s0 (rd_ixa' (p' := ⟨2, 5, none⟩) rfl rfl (by decide) (by decide) Tryd.underlying88 info22 rfl) ?_
       refine s0 (rd_gloadat' rfl gm2 flat22 rfl) ?_
       obtain ⟨r98, hr98, hp⟩ := bind_some hp
       refine sx_ox' (ox_fop' (.inl rfl) (fl_f rfl) (fl_v rfl) (Option.some.inj hr98) rfl rfl) (wt_none' rfl) fun _ => ?_
       obtain ⟨r99, hr99, hp⟩ := bind_some hp
       refine sx_ox' (ox_fop' (.inr (.inr (.inl rfl))) (fl_f rfl) (fl_f rfl) (Option.some.inj hr99) rfl rfl) (wt_none' rfl) fun _ => ?_
       obtain ⟨r100, hr100, hp⟩ := bind_some hp
       refine sx_ox' (ox_fop' (.inl rfl) (fl_f rfl) (fl_f rfl) (Option.some.inj hr100) rfl rfl) (wt_none' rfl) fun _ => ?_
       refine s0 (rd_assign' rfl) ?_
       refine sx_nil' ?_
       show TX E K24 _
       exact tx_pick' [] (sub_cons rfl (sub_cons rfl sub_nil)) (by decide) pick_nil (hK24 r100 hp)
      replace hp := (br_f h8).symm.trans hp
      refine cx_region' ?_
      refine s0 (rd_move' rfl) ?_
      obtain ⟨r102, hr102, hp⟩ := bind_some hp
      refine sx_ox' (ox_fop' (.inr (.inr (.inl rfl))) (fl_v rfl) (fl_f rfl) (Option.some.inj hr102) rfl rfl) (wt_none' rfl) fun _ => ?_
      obtain ⟨r103, hr103, hp⟩ := bind_some hp
      refine sx_ox' (ox_fop' (.inr (.inl rfl)) (fl_v rfl) (fl_f rfl) (Option.some.inj hr103) rfl rfl) (wt_none' rfl) fun _ => ?_
      refine s0 (rd_move' rfl) ?_
      refine s0 (rd_move' rfl) ?_
      obtain ⟨r106, hr106, hp⟩ := bind_some hp
      refine sx_ox' (ox_fop' (.inr (.inr (.inl rfl))) (fl_f rfl) (fl_f rfl) (Option.some.inj hr106) rfl rfl) (wt_none' rfl) fun _ => ?_
      refine s0 (rd_ixa' (p' := ⟨1, 0, none⟩) rfl rfl (by decide) (by decide) Tryd.underlying88 info22 rfl) ?_
      refine s0 (rd_gloadat' rfl gm1 flat22 rfl) ?_
      refine s0 (rd_move' rfl) ?_
      obtain ⟨r110, hr110, hp⟩ := bind_some hp
      refine sx_ox' (ox_fop' (.inr (.inr (.inl rfl))) (fl_v rfl) (fl_f rfl) (Option.some.inj hr110) rfl rfl) (wt_none' rfl) fun _ => ?_
      refine s0 (rd_ixa' (p' := ⟨1, 1, none⟩) rfl rfl (by decide) (by decide) Tryd.underlying88 info22 rfl) ?_
      refine s0 (rd_gloadat' rfl gm1 flat22 rfl) ?_
      obtain ⟨r113, hr113, hp⟩ := bind_some hp
      refine sx_ox' (ox_fop' (.inl rfl) (fl_f rfl) (fl_v rfl) (Option.some.inj hr113) rfl rfl) (wt_none' rfl) fun _ => ?_
      refine s0 (rd_move' rfl) ?_
      obtain ⟨r115, hr115, hp⟩ := bind_some hp
      refine sx_ox' (ox_fop' (.inr (.inr (.inl rfl))) (fl_f rfl) (fl_f rfl) (Option.some.inj hr115) rfl rfl) (wt_none' rfl) fun _ => ?_
      refine s0 (rd_ixa' (p' := ⟨1, 2, none⟩) rfl rfl (by decide) (by decide) Tryd.underlying88 info22 rfl) ?_
      refine s0 (rd_gloadat' rfl gm1 flat22 rfl) ?_
      obtain ⟨r118, hr118, hp⟩ := bind_some hp
      refine sx_ox' (ox_fop' (.inl rfl) (fl_f rfl) (fl_v rfl) (Option.some.inj hr118) rfl rfl) (wt_none' rfl) fun _ => ?_
      refine s0 (rd_move' rfl) ?_
      obtain ⟨r120, hr120, hp⟩ := bind_some hp
      refine sx_ox' (ox_fop' (.inr (.inr (.inl rfl))) (fl_f rfl) (fl_f rfl) (Option.some.inj hr120) rfl rfl) (wt_none' rfl) fun _ => ?_
      refine s0 (rd_ixa' (p' := ⟨1, 3, none⟩) rfl rfl (by decide) (by decide) Tryd.underlying88 info22 rfl) ?_
      refine s0 (rd_gloadat' rfl gm1 flat22 rfl) ?_
      obtain ⟨r123, hr123, hp⟩ := bind_some hp
      refine sx_ox' (ox_fop' (.inl rfl) (fl_f rfl) (fl_v rfl) (Option.some.inj hr123) rfl rfl) (wt_none' rfl) fun _ => ?_
      refine s0 (rd_move' rfl) ?_
      obtain ⟨r125, hr125, hp⟩ := bind_some hp
      refine sx_ox' (ox_fop' (.inr (.inr (.inl rfl))) (fl_f rfl) (fl_f rfl) (Option.some.inj hr125) rfl rfl) (wt_none' rfl) fun _ => ?_
      refine s0 (rd_ixa' (p' := ⟨1, 4, none⟩) rfl rfl (by decide) (by decide) Tryd.underlying88 info22 rfl) ?_
      refine s0 (rd_gloadat' rfl gm1 flat22 rfl) ?_
      obtain ⟨r128, hr128, hp⟩ := bind_some hp
      refine sx_ox' (ox_fop' (.inl rfl) (fl_f rfl) (fl_v rfl) (Option.some.inj hr128) rfl rfl) (wt_none' rfl) fun _ => ?_
      refine s0 (rd_move' rfl) ?_
      obtain ⟨r130, hr130, hp⟩ := bind_some hp
      refine sx_ox' (ox_fop' (.inr (.inr (.inl rfl))) (fl_f rfl) (fl_f rfl) (Option.some.inj hr130) rfl rfl) (wt_none' rfl) fun _ => ?_
      refine s0 (rd_ixa' (p' := ⟨1, 5, none⟩) rfl rfl (by decide) (by decide) Tryd.underlying88 info22 rfl) ?_
      refine s0 (rd_gloadat' rfl gm1 flat22 rfl) ?_
      obtain ⟨r133, hr133, hp⟩ := bind_some hp
      refine sx_ox' (ox_fop' (.inl rfl) (fl_f rfl) (fl_v rfl) (Option.some.inj hr133) rfl rfl) (wt_none' rfl) fun _ => ?_
      obtain ⟨r134, hr134, hp⟩ := bind_some hp
      refine sx_ox' (ox_fop' (.inr (.inr (.inl rfl))) (fl_f rfl) (fl_f rfl) (Option.some.inj hr134) rfl rfl) (wt_none' rfl) fun _ => ?_
      obtain ⟨r135, hr135, hp⟩ := bind_some hp
      refine sx_ox' (ox_fop' (.inl rfl) (fl_f rfl) (fl_f rfl) (Option.some.inj hr135) rfl rfl) (wt_none' rfl) fun _ => ?_
      refine s0 (rd_assign' rfl) ?_
      refine sx_nil' ?_
      show TX E K24 _
      exact tx_pick' [] (sub_cons rfl (sub_cons rfl sub_nil)) (by decide) pick_nil (hK24 r135 hp)
     intro K26 hK26
     rcases br_cases hp with ⟨h7, hp⟩ | ⟨h7, hp⟩
     ·refine sx_skip' rfl rfl (wt_is' (wt_guard' rfl rfl rfl) (beq_tf h7)) ?_
      refine sx_skip' rfl rfl (wt_is' (wt_guard' rfl rfl rfl) (beq_tf h7)) ?_
      refine s0 (rd_pick_true' rfl h7 rfl) ?_
      refine sx_nil' ?_
      show TX E K26 _
      exact tx_pick' [] (sub_cons rfl (sub_cons rfl (sub_cons rfl (sub_cons rfl sub_nil)))) (by decide) pick_nil (hK26 true hp)
     refine sx_rd' (rd_move' rfl) rfl rfl (wt_is' (wt_guard' rfl rfl rfl) (beq_ff h7)) ?_
     refine sx_rd' (rd_bin' rfl rfl eg_int ru_eql) rfl rfl (wt_is' (wt_guard' rfl rfl rfl) (beq_ff h7)) ?_
     refine s0 (rd_pick_false' rfl h7 rfl) ?_
     refine sx_nil' ?_
     show TX E K26 _
     exact tx_pick' [] (sub_cons rfl (sub_cons rfl (sub_cons rfl (sub_cons rfl sub_nil)))) (by decide) pick_nil (hK26 (decide (x5 = 2)) hp)
    intro K21 hK21
    refine cr fun K22 hK22 => ?_
    refine s0 (rd_move' rfl) ?_
    refine s0 (rd_bin' rfl rfl eg_int ru_gtr) ?_
    refine nk hK22 ?_
    refine cx_cond' rfl (fun h6 => ?_) (fun h6 => ?_)
    ·replace hp := (br_t h6).symm.trans hp
     refine cx_region' ?_
     refine s0 (rd_move' rfl) ?_
     refine s0 (rd_un' rfl ru_not) ?_
     refine s0 (rd_assign' rfl) ?_
     refine sx_nil' ?_
     show TX E K21 _
     exact tx_pick' [] (sub_cons rfl (sub_cons rfl (sub_cons rfl sub_nil))) (by decide) pick_nil (hK21 (!x4) hp)
    replace hp := (br_f h6).symm.trans hp
    refine cx_skip' ?_
    show TX E K21 _
    exact tx_pick' [] (sub_cons rfl (sub_cons rfl (sub_cons rfl sub_nil))) (by decide) pick_nil (hK21 x4 hp)
   intro K18 hK18
   refine cr fun K19 hK19 => ?_
   refine s0 (rd_move' rfl) ?_
   refine s0 (rd_bin' rfl rfl eg_int ru_gtr) ?_
   refine nk hK19 ?_
   refine cx_cond' rfl (fun h5 => ?_) (fun h5 => ?_)
   ·replace hp := (br_t h5).symm.trans hp
    refine cr fun K20 hK20 => ?_
    refine s0 (rd_move' rfl) ?_
    refine s0 (rd_bin' rfl rfl eg_int ru_sub) ?_
    refine s0 (rd_assign' rfl) ?_
    refine nk hK20 ?_
    refine cx_region' ?_
    refine s0 (rd_move' rfl) ?_
    refine s0 (rd_un' rfl ru_not) ?_
    refine s0 (rd_assign' rfl) ?_
    refine sx_nil' ?_
    show TX E K18 _
    exact tx_pick' [] (sub_cons rfl (sub_cons rfl (sub_cons rfl sub_nil))) (by decide) pick_nil (hK18 ((!false), (isub .u64 (iand .u64 x2 7) 4)) hp)
   replace hp := (br_f h5).symm.trans hp
   refine cx_skip' ?_
   show TX E K18 _
   exact tx_pick' [] (sub_cons rfl (sub_cons rfl (sub_cons rfl sub_nil))) (by decide) pick_nil (hK18 (false, (iand .u64 x2 7)) hp)
  intro K14 hK14
  refine cr fun K15 hK15 => ?_
  refine s0 (rd_move' rfl) ?_
  refine s0 (rd_bin' rfl rfl eg_int ru_and) ?_
  refine s0 (rd_bin' rfl rfl eg_int ru_eql) ?_
  refine nk hK15 ?_
  refine cx_cond' rfl (fun h4 => ?_) (fun h4 => ?_)
  ·replace hp := (br_t h4).symm.trans hp
   refine cr fun K16 hK16 => ?_
   refine s0 (rd_move' rfl) ?_
   refine s0 (rd_bin' rfl rfl eg_int ru_add) ?_
   refine s0 (rd_assign' rfl) ?_
   refine nk hK16 ?_
   refine cx_region' ?_
   refine s0 (rd_move' rfl) ?_
   obtain ⟨r36, hr36, hp⟩ := bind_some hp
   refine sx_ox' (ox_fop' (.inl rfl) (fl_v rfl) (fl_v rfl) (Option.some.inj hr36) rfl rfl) (wt_none' rfl) fun _ => ?_
   refine s0 (rd_assign' rfl) ?_
   refine sx_nil' ?_
   show TX E K14 _
   exact tx_pick' [] (sub_cons rfl (sub_cons rfl (sub_cons rfl (sub_cons rfl sub_nil)))) (by decide) pick_nil (hK14 ((iadd .u64 r27 1), r36) hp)
  replace hp := (br_f h4).symm.trans hp
  refine cx_skip' ?_
  show TX E K14 _
  refine tx_slot' 5 (y := (Fl (i2f r27))) rfl imp_vf ?_
  exact tx_pick' [] (sub_cons rfl (sub_cons rfl (sub_cons rfl (sub_cons rfl sub_nil)))) (by decide) pick_nil (hK14 (r27, (i2f r27)) hp)
 intro K4 hK4
 rcases br_cases hp with ⟨h1, hp⟩ | ⟨h1, hp⟩
 ·refine sx_skip' rfl rfl (wt_is' (wt_guard' rfl rfl rfl) (beq_tf h1)) ?_
  refine sx_skip' rfl rfl (wt_is' (wt_guard' rfl rfl rfl) (beq_tf h1)) ?_
  refine s0 (rd_pick_true' rfl h1 rfl) ?_
  refine sx_nil' ?_
  show TX E K4 _
  exact tx_pick' [] (sub_cons rfl (sub_cons rfl sub_nil)) (by decide) pick_nil (hK4 true hp)
 refine sx_rd' (rd_move' rfl) rfl rfl (wt_is' (wt_guard' rfl rfl rfl) (beq_ff h1)) ?_
 obtain ⟨r13, hr13, hp⟩ := bind_some hp
 refine sx_ox' (ox_calln' (ent_fn' Tryd.func55 isn55 rfl rfl) (math_IsInf_sim _ _ hr13 : Sx.Fn Tryd.prog 55 [(Vg a0), (Vi 0)] [] (fun x : Unit => (Vb r13)) (fun x => [])) (Hn := fun x : Unit => []) (fun _ => rfl) rfl rfl) (wt_is' (wt_guard' rfl rfl rfl) (beq_ff h1)) fun ⟨⟩ => ?_
 refine s0 (rd_pick_false' rfl h1 rfl) ?_
 refine sx_nil' ?_
 show TX E K4 _
 exact tx_pick' [] (sub_cons rfl (sub_cons rfl sub_nil)) (by decide) pick_nil (hK4 r13 hp)

def math_Cos (k : Nat) (a0 : Nat) : Option (Nat) :=
 (math_cos k a0) >>= fun r6 =>
 some r6

theorem math_Cos_sim {k : Nat}  (a0 : Nat) {out : Nat} (hp : math_Cos k a0 = some out) : Sx.Fn Tryd.prog 18 [(Vg a0)] [] (fun w : Unit => (Fl out)) (fun w => []) := by
 unfold math_Cos at hp
 refine fn_of Tryd.func18 rfl Tryd.ntmps18 rfl fun E hM => ?_
 refine cr fun K1 hK1 => ?_
 refine s0 (rd_assign' rfl) ?_
 refine nk hK1 ?_
 refine cx_seq' fun K2 hK2 => ?_
 refine cx_cond_f' rfl rfl ?_
 refine cx_skip' ?_
 show TX E K2 _
 refine tx_k' hK2 ?_
 refine cr fun K3 hK3 => ?_
 refine s0 (rd_move' rfl) ?_
 obtain ⟨r6, hr6, hp⟩ := bind_some hp
 refine sx_ox' (ox_calln' (ent_fn' Tryd.func37 isn37 rfl rfl) (math_cos_sim _ hr6 : Sx.Fn Tryd.prog 37 [(Vg a0)] [] (fun x : Unit => (Fl r6)) (fun x => [])) (Hn := fun x : Unit => []) (fun _ => rfl) rfl rfl) (wt_none' rfl) fun ⟨⟩ => ?_
 refine s0 (rd_assign' rfl) ?_
 refine nk hK3 ?_
 refine cx_retc' ?_
 replace hp := Option.some.inj hp
 subst hp
 refine tx_pick' (L' := [(2, (Fl r6))]) (H' := []) [] (sub_cons rfl sub_nil) (by decide) pick_nil ?_
 exact tx_ret1' Tryd.results18 rfl () (rv_tmp' rfl) (List.Sublist.refl _)

def laws_FnRotate2_j4 (k : Nat) (x4 : Bool) : Option (Bool) :=
 some x4
def laws_FnRotate2_j3 (k : Nat) (a0_0 : Nat) (a0_1 : Nat) (a1_0 : Nat) (a1_1 : Nat) (x3 : Bool) : Option (Bool) :=
 br x3
  ((impl_Rotate2 k a0_0 a0_1 0 a1_0 a1_1) >>= fun r81 =>
  laws_FnRotate2_j4 k ((feq r81.1 a0_0) && ((feq r81.2 a0_1) && true)))
  (laws_FnRotate2_j4 k false)
def laws_FnRotate2_j2 (k : Nat) (a0_0 : Nat) (a0_1 : Nat) (a2 : Nat) (a1_0 : Nat) (a1_1 : Nat) (x2 : Bool) : Option (Bool) :=
 br x2
  (some true)
  ((impl_Rotate2 k a0_0 a0_1 a2 a1_0 a1_1) >>= fun r31 =>
  (fsub a0_0 a1_0) >>= fun r36 =>
  (fsub a0_1 a1_1) >>= fun r41 =>
  (math_Sin k a2) >>= fun r43 =>
  (math_Cos k a2) >>= fun r45 =>
  (fsub r31.1 a1_0) >>= fun r50 =>
  (num r45) >>= fun u1 =>
  (fmul r36 r45) >>= fun r53 =>
  (num r43) >>= fun u2 =>
  (fmul r41 r43) >>= fun r56 =>
  (fsub r53 r56) >>= fun r57 =>
  (fsub r50 r57) >>= fun r58 =>
  (math_Abs k r58) >>= fun r59 =>
  br (flt r59 4472074429978902528)
   ((fsub r31.2 a1_1) >>= fun r66 =>
   (num r43) >>= fun u3 =>
   (fmul r36 r43) >>= fun r69 =>
   (num r45) >>= fun u4 =>
   (fmul r41 r45) >>= fun r72 =>
   (fadd r69 r72) >>= fun r73 =>
   (fsub r66 r73) >>= fun r74 =>
   (math_Abs k r74) >>= fun r75 =>
   laws_FnRotate2_j3 k a0_0 a0_1 a1_0 a1_1 (flt r75 4472074429978902528))
   (laws_FnRotate2_j3 k a0_0 a0_1 a1_0 a1_1 false))
def laws_FnRotate2_j1 (k : Nat) (a0_0 : Nat) (a0_1 : Nat) (a2 : Nat) (a1_0 : Nat) (a1_1 : Nat) (x1 : Bool) : Option (Bool) :=
 laws_FnRotate2_j2 k a0_0 a0_1 a2 a1_0 a1_1 x1
def laws_FnRotate2 (k : Nat) (a0_0 : Nat) (a0_1 : Nat) (a1_0 : Nat) (a1_1 : Nat) (a2 : Nat) : Option (Bool) :=
 (laws_off2 k a0_0 a0_1) >>= fun r13 =>
 (laws_off2 k a1_0 a1_1) >>= fun r15 =>
 (spec_Grid k ([r13, r15]) 2 4652007308841189376) >>= fun r17 =>
 br (!r17)
  (laws_FnRotate2_j2 k a0_0 a0_1 a2 a1_0 a1_1 true)
  (br (fge a2 13842939354630062080)
   (laws_FnRotate2_j1 k a0_0 a0_1 a2 a1_0 a1_1 (!(fle a2 4619567317775286272)))
   (laws_FnRotate2_j1 k a0_0 a0_1 a2 a1_0 a1_1 (!false)))

theorem laws_FnRotate2_sim {k : Nat}  (a0_0 : Nat) (a0_1 : Nat) (a1_0 : Nat) (a1_1 : Nat) (a2 : Nat) {out : Bool} (hp : laws_FnRotate2 k a0_0 a0_1 a1_0 a1_1 a2 = some out) : Sx.Fn Tryd.prog 5 [(Ag [(Vg a0_0), (Vg a0_1)]), (Ag [(Vg a1_0), (Vg a1_1)]), (Vg a2)] [] (fun w : Unit => (Vb out)) (fun w => []) := by
 unfold laws_FnRotate2 at hp
 refine fn_of Tryd.func5 rfl Tryd.ntmps5 rfl fun E hM => ?_
 refine cr fun K1 hK1 => ?_
 refine sx_ox' (ox_box' rfl (lv_ag _) rfl rfl) (wt_none' rfl) fun q3 => ?_
 refine sx_ox' (ox_box' rfl (lv_ag _) rfl rfl) (wt_none' rfl) fun q4 => ?_
 refine s0 (rd_assign' rfl) ?_
 refine nk hK1 ?_
 refine cx_seq' fun K2 hK2 => ?_
 refine cx_seq' fun K3 hK3 => ?_
 refine cx_plan' [] [] [(0, 1), (2, 1), (1, 0), (3, 0), (4, 0), (5, 0), (6, 1), (7, 1), (8, 1), (9, 1), (10, 1), (11, 1), (12, 1), (13, 1), (14, 1), (15, 1)] mixed (by kernel_rfl) ?_
 refine px_rd' rfl (rd_load_agg' (i := 1) (o := 0) (nn := 2) rfl ⟨rfl, rfl, rfl, rfl⟩ rfl agg24 (l' := [(Vg a0_0), (Vg a0_1)]) rfl) rfl rfl (wt_none' rfl) ?_
 refine px_rd' rfl (rd_load_agg' (i := 0) (o := 0) (nn := 2) rfl ⟨rfl, rfl, rfl, rfl⟩ rfl agg24 (l' := [(Vg a1_0), (Vg a1_1)]) rfl) rfl rfl (wt_none' rfl) ?_
 obtain ⟨r13, hr13, hp⟩ := bind_some hp
 refine px_ox' rfl (ox_calln' (ent_fn' Tryd.func15 isn15 rfl rfl) (laws_off2_sim _ _ hr13 : Sx.Fn Tryd.prog 15 [(Ag [(Vg a0_0), (Vg a0_1)])] [] (fun x : Unit => (Sl Kf r13)) (fun x => [])) (Hn := fun x : Unit => [⟨.pointer (some q4), [(Vg a1_0), (Vg a1_1)], 24, none⟩, ⟨.pointer (some q3), [(Vg a0_0), (Vg a0_1)], 24, none⟩]) (fun _ => rfl) rfl rfl) rfl bs_nil (wt_none' rfl) fun ⟨⟩ => ?_
 obtain ⟨r15, hr15, hp⟩ := bind_some hp
 refine px_ox' rfl (ox_calln' (ent_fn' Tryd.func15 isn15 rfl rfl) (laws_off2_sim _ _ hr15 : Sx.Fn Tryd.prog 15 [(Ag [(Vg a1_0), (Vg a1_1)])] [] (fun x : Unit => (Sl Kf r15)) (fun x => [])) (Hn := fun x : Unit => [⟨.pointer (some q4), [(Vg a1_0), (Vg a1_1)], 24, none⟩, ⟨.pointer (some q3), [(Vg a0_0), (Vg a0_1)], 24, none⟩]) (fun _ => rfl) rfl rfl) rfl bs_nil (wt_none' rfl) fun ⟨⟩ => ?_
 refine px_ox' rfl (ox_rowlit' (K := (Kl Kf)) (xs := [r13, r15]) (qs := [(0, [(Sl Kf r13)]), (1, [(Sl Kf r15)])]) ⟨rfl, ⟨_, rfl, (lv_sl _ _)⟩, ⟨rfl, ⟨_, rfl, (lv_sl _ _)⟩, trivial⟩⟩ Tryd.underlying44 info42 rfl rfl rfl rfl rfl (by kernel_rfl) rfl rfl rfl) rfl bs_nil (wt_none' rfl) fun g16 => ?_
 obtain ⟨r17, hr17, hp⟩ := bind_some hp
 refine px_ox' rfl (ox_brw' (frz_row 0 [(16, (Vl (Vs g16)), (Sl (Kl Kf) ([r13, r15])))] (K := (Kl Kf)) (xs := [r13, r15]) (by decide) rfl ⟨⟨rfl, frz_it⟩, trivial⟩ (H' := [⟨.pointer (some q4), [(Vg a1_0), (Vg a1_1)], 24, none⟩, ⟨.pointer (some q3), [(Vg a0_0), (Vg a0_1)], 24, none⟩]) frzH_refl) (ent_fn' Tryd.func14 isn14 rfl rfl) (spec_Grid_sim _ _ _ hr17 : Sx.Fn Tryd.prog 14 [(Sl (Kl Kf) ([r13, r15])), (Vi 2), (Vg 4652007308841189376)] [] (fun x : Unit => (Vb r17)) (fun x => [])) pu_vl rfl rfl) rfl bs_nil (wt_none' rfl) fun ⟨⟩ => ?_
 refine px_rd' rfl (rd_un' rfl ru_not) rfl rfl (wt_none' rfl) ?_
 refine px_rd' rfl (rd_move' rfl) rfl rfl (wt_none' rfl) ?_
 refine px_cutn' 8 (fun (v2 : Bool) => (⟨85, [], [(2, (Vg a2)), (3, (Vp q3)), (4, (Vp q4)), (27, (Vb v2))], [⟨.pointer (some q3), [(Vg a0_0), (Vg a0_1)], 24, none⟩, ⟨.pointer (some q4), [(Vg a1_0), (Vg a1_1)], 24, none⟩]⟩ : St)) (fun (v2 : Bool) => laws_FnRotate2_j2 k a0_0 a0_1 a2 a1_0 a1_1 v2 = some out) ?_ ?_
 ·rintro x2 hp
  replace hp : laws_FnRotate2_j2 k a0_0 a0_1 a2 a1_0 a1_1 x2 = some out := hp
  unfold laws_FnRotate2_j2 at hp
  refine px_nil' ?_
  show TX E K3 _
  refine tx_k' hK3 ?_
  refine cx_cond' rfl (fun h3 => ?_) (fun h3 => ?_)
  ·replace hp := (br_t h3).symm.trans hp
   refine cr fun K6 hK6 => ?_
   refine s0 (rd_assign' rfl) ?_
   refine nk hK6 ?_
   refine cx_retc' ?_
   replace hp := Option.some.inj hp
   subst hp
   refine tx_pick' (L' := [(6, (Vb true))]) (H' := []) [] (sub_cons rfl sub_nil) (by decide) pick_nil ?_
   exact tx_ret1' Tryd.results5 rfl () (rv_tmp' rfl) (List.Sublist.refl _)
  replace hp := (br_f h3).symm.trans hp
  refine cx_skip' ?_
  show TX E K2 _
  refine tx_k' hK2 ?_
  refine cr fun K7 hK7 => ?_
  refine s0 (rd_load_agg' (i := 0) (o := 0) (nn := 2) rfl ⟨rfl, rfl, rfl, rfl⟩ rfl agg24 (l' := [(Vg a0_0), (Vg a0_1)]) rfl) ?_
  refine s0 (rd_move' rfl) ?_
  refine s0 (rd_load_agg' (i := 1) (o := 0) (nn := 2) rfl ⟨rfl, rfl, rfl, rfl⟩ rfl agg24 (l' := [(Vg a1_0), (Vg a1_1)]) rfl) ?_
  obtain ⟨r31, hr31, hp⟩ := bind_some hp
  refine sx_ox' (ox_calln' (ent_fn' Tryd.func16 isn16 rfl rfl) (impl_Rotate2_sim _ _ _ _ _ hr31 : Sx.Fn Tryd.prog 16 [(Ag [(Vg a0_0), (Vg a0_1)]), (Vg a2), (Ag [(Vg a1_0), (Vg a1_1)])] [] (fun x : Unit => (Ag [(Vg r31.1), (Vg r31.2)])) (fun x => [])) (Hn := fun x : Unit => [⟨.pointer (some q3), [(Vg a0_0), (Vg a0_1)], 24, none⟩, ⟨.pointer (some q4), [(Vg a1_0), (Vg a1_1)], 24, none⟩]) (fun _ => rfl) rfl rfl) (wt_none' rfl) fun ⟨⟩ => ?_
  refine sx_ox' (ox_alloc' info24 rfl rfl rfl rfl (l := [(Vg 0), (Vg 0)]) rfl) (wt_none' rfl) fun q7 => ?_
  refine sx_ox' (ox_store' (i := 0) (o := 0) rfl rfl (lv_ag _) ⟨rfl, rfl, rfl, rfl⟩ rfl info24 rfl (H' := [⟨.pointer (some q7), [(Vg r31.1), (Vg r31.2)], 24, none⟩, ⟨.pointer (some q3), [(Vg a0_0), (Vg a0_1)], 24, none⟩, ⟨.pointer (some q4), [(Vg a1_0), (Vg a1_1)], 24, none⟩]) rfl) (wt_none' rfl) fun _ => ?_
  refine nk hK7 ?_
  refine cx_seq' fun K8 hK8 => ?_
  refine cx_draw' mixed (by kernel_rfl) ?_
  refine qx_rd' (rd_field0' rfl Tryd.underlying24 rfl info22 rfl) rfl rfl (wt_none' rfl) ?_
  refine qx_rd' (rd_load' (i := 1) (o := 0) rfl ⟨rfl, rfl, rfl, rfl⟩ rfl flat22) rfl rfl (wt_none' rfl) ?_
  refine qx_rd' (rd_field0' rfl Tryd.underlying24 rfl info22 rfl) rfl rfl (wt_none' rfl) ?_
  refine qx_rd' (rd_load' (i := 2) (o := 0) rfl ⟨rfl, rfl, rfl, rfl⟩ rfl flat22) rfl rfl (wt_none' rfl) ?_
  obtain ⟨r36, hr36, hp⟩ := bind_some hp
  refine qx_rd' (rd_bin' rfl rfl eg_flt (ru_fsub hr36)) rfl rfl (wt_none' rfl) ?_
  refine qx_rd' (rd_field' (off := 1) rfl Tryd.underlying24 rfl info22 rfl) rfl rfl (wt_none' rfl) ?_
  refine qx_rd' (rd_load' (i := 1) (o := 1) rfl ⟨rfl, rfl, rfl, rfl⟩ rfl flat22) rfl rfl (wt_none' rfl) ?_
  refine qx_rd' (rd_field' (off := 1) rfl Tryd.underlying24 rfl info22 rfl) rfl rfl (wt_none' rfl) ?_
  refine qx_rd' (rd_load' (i := 2) (o := 1) rfl ⟨rfl, rfl, rfl, rfl⟩ rfl flat22) rfl rfl (wt_none' rfl) ?_
  obtain ⟨r41, hr41, hp⟩ := bind_some hp
  refine qx_rd' (rd_bin' rfl rfl eg_flt (ru_fsub hr41)) rfl rfl (wt_none' rfl) ?_
  refine qx_rd' (rd_assign' rfl) rfl rfl (wt_none' rfl) ?_
  refine qx_rd' (rd_assign' rfl) rfl rfl (wt_none' rfl) ?_
  refine qx_nil' ?_
  show TX E K8 _
  refine tx_k' hK8 ?_
  refine cr fun K9 hK9 => ?_
  refine s0 (rd_move' rfl) ?_
  obtain ⟨r43, hr43, hp⟩ := bind_some hp
  refine sx_ox' (ox_calln' (ent_fn' Tryd.func17 isn17 rfl rfl) (math_Sin_sim _ hr43 : Sx.Fn Tryd.prog 17 [(Vg a2)] [] (fun x : Unit => (Fl r43)) (fun x => [])) (Hn := fun x : Unit => [⟨.pointer (some q7), [(Vg r31.1), (Vg r31.2)], 24, none⟩, ⟨.pointer (some q3), [(Vg a0_0), (Vg a0_1)], 24, none⟩, ⟨.pointer (some q4), [(Vg a1_0), (Vg a1_1)], 24, none⟩]) (fun _ => rfl) rfl rfl) (wt_none' rfl) fun ⟨⟩ => ?_
  refine s0 (rd_move' rfl) ?_
  obtain ⟨r45, hr45, hp⟩ := bind_some hp
  refine sx_ox' (ox_calln' (ent_fn' Tryd.func18 isn18 rfl rfl) (math_Cos_sim _ hr45 : Sx.Fn Tryd.prog 18 [(Vg a2)] [] (fun x : Unit => (Fl r45)) (fun x => [])) (Hn := fun x : Unit => [⟨.pointer (some q7), [(Vg r31.1), (Vg r31.2)], 24, none⟩, ⟨.pointer (some q3), [(Vg a0_0), (Vg a0_1)], 24, none⟩, ⟨.pointer (some q4), [(Vg a1_0), (Vg a1_1)], 24, none⟩]) (fun _ => rfl) rfl rfl) (wt_none' rfl) fun ⟨⟩ => ?_
  refine s0 (rd_assign' rfl) ?_
  refine s0 (rd_assign' rfl) ?_
  refine nk hK9 ?_
  refine cx_seq' fun K10 hK10 => ?_
  refine cx_plan' [] [] [(0, 1), (1, 1), (2, 1), (3, 1), (4, 1), (5, 1), (6, 1), (7, 1), (8, 1), (9, 1), (10, 1), (11, 1), (12, 1), (13, 0), (14, 1), (15, 1), (16, 1), (17, 1), (18, 1), (19, 1), (20, 1), (21, 1), (22, 1), (23, 1), (24, 1), (25, 1), (26, 1), (27, 1), (28, 1), (29, 0), (30, 1), (31, 1), (32, 1), (33, 1), (34, 1), (36, 1), (35, 0), (37, 1), (38, 1), (39, 1)] mixed (by kernel_rfl) ?_
  refine px_rd' rfl (rd_field0' rfl Tryd.underlying24 rfl info22 rfl) rfl rfl (wt_none' rfl) ?_
  refine px_rd' rfl (rd_load' (i := 0) (o := 0) rfl ⟨rfl, rfl, rfl, rfl⟩ rfl flat22) rfl rfl (wt_none' rfl) ?_
  refine px_rd' rfl (rd_field0' rfl Tryd.underlying24 rfl info22 rfl) rfl rfl (wt_none' rfl) ?_
  refine px_rd' rfl (rd_load' (i := 2) (o := 0) rfl ⟨rfl, rfl, rfl, rfl⟩ rfl flat22) rfl rfl (wt_none' rfl) ?_
  obtain ⟨r50, hr50, hp⟩ := bind_some hp
  refine px_rd' rfl (rd_bin' rfl rfl eg_flt (ru_fsub hr50)) rfl rfl (wt_none' rfl) ?_
  refine px_rd' rfl (rd_move' rfl) rfl rfl (wt_none' rfl) ?_
  refine px_rd' rfl (rd_move' rfl) rfl rfl (wt_none' rfl) ?_
  obtain ⟨u1, hu1, hp⟩ := bind_some hp
  refine tx_slot' 52 (y := (Vg r45)) rfl (imp_num (num_some hu1).2) ?_
  obtain ⟨r53, hr53, hp⟩ := bind_some hp
  refine px_rd' rfl (rd_bin' rfl rfl eg_flt (ru_fmul hr53)) rfl rfl (wt_none' rfl) ?_
  refine px_rd' rfl (rd_move' rfl) rfl rfl (wt_none' rfl) ?_
  refine px_rd' rfl (rd_move' rfl) rfl rfl (wt_none' rfl) ?_
  obtain ⟨u2, hu2, hp⟩ := bind_some hp
  refine tx_slot' 55 (y := (Vg r43)) rfl (imp_num (num_some hu2).2) ?_
  obtain ⟨r56, hr56, hp⟩ := bind_some hp
  refine px_rd' rfl (rd_bin' rfl rfl eg_flt (ru_fmul hr56)) rfl rfl (wt_none' rfl) ?_
  obtain ⟨r57, hr57, hp⟩ := bind_some hp
  refine px_rd' rfl (rd_bin' rfl rfl eg_flt (ru_fsub hr57)) rfl rfl (wt_none' rfl) ?_
  obtain ⟨r58, hr58, hp⟩ := bind_some hp
  refine px_rd' rfl (rd_bin' rfl rfl eg_flt (ru_fsub hr58)) rfl rfl (wt_none' rfl) ?_
  obtain ⟨r59, hr59, hp⟩ := bind_some hp
  refine px_ox' rfl (ox_calln' (ent_fn' Tryd.func19 isn19 rfl rfl) (math_Abs_sim _ hr59 : Sx.Fn Tryd.prog 19 [(Vg r58)] [] (fun x : Unit => (Vg r59)) (fun x => [])) (Hn := fun x : Unit => [⟨.pointer (some q7), [(Vg r31.1), (Vg r31.2)], 24, none⟩, ⟨.pointer (some q3), [(Vg a0_0), (Vg a0_1)], 24, none⟩, ⟨.pointer (some q4), [(Vg a1_0), (Vg a1_1)], 24, none⟩]) (fun _ => rfl) rfl rfl) rfl bs_nil (wt_none' rfl) fun ⟨⟩ => ?_
  refine px_rd' rfl (rd_bin' rfl rfl eg_flt ru_flt) rfl rfl (wt_none' rfl) ?_
  refine px_rd' rfl (rd_move' rfl) rfl rfl (wt_none' rfl) ?_
  refine px_cutn' 16 (fun (v3 : Bool) => (⟨85, [], [(3, (Vp q3)), (4, (Vp q4)), (77, (Vb v3))], [⟨.pointer (some q3), [(Vg a0_0), (Vg a0_1)], 24, none⟩, ⟨.pointer (some q4), [(Vg a1_0), (Vg a1_1)], 24, none⟩]⟩ : St)) (fun (v3 : Bool) => laws_FnRotate2_j3 k a0_0 a0_1 a1_0 a1_1 v3 = some out) ?_ ?_
  ·rintro x3 hp
   replace hp : laws_FnRotate2_j3 k a0_0 a0_1 a1_0 a1_1 x3 = some out := hp
   unfold laws_FnRotate2_j3 at hp
   refine px_rd' rfl (rd_move' rfl) rfl rfl (wt_none' rfl) ?_
   refine px_cutn' 6 (fun (v4 : Bool) => (⟨85, [], [(84, (Vb v4))], []⟩ : St)) (fun (v4 : Bool) => laws_FnRotate2_j4 k v4 = some out) ?_ ?_
   ·rintro x4 hp
    replace hp : laws_FnRotate2_j4 k x4 = some out := hp
    unfold laws_FnRotate2_j4 at hp
    refine px_rd' rfl (rd_assign' rfl) rfl rfl (wt_none' rfl) ?_
    refine px_nil' ?_
    show TX E K10 _
    refine tx_k' hK10 ?_
    refine cx_retc' ?_
    replace hp := Option.some.inj hp
    subst hp
    refine tx_pick' (L' := [(6, (Vb x4))]) (H' := []) [] (sub_cons rfl sub_nil) (by decide) pick_nil ?_
    exact tx_ret1' Tryd.results5 rfl () (rv_tmp' rfl) (List.Sublist.refl _)
   intro K12 hK12
   rcases br_cases hp with ⟨h5, hp⟩ | ⟨h5, hp⟩
   ·refine px_rd' rfl (rd_load_agg' (i := 0) (o := 0) (nn := 2) rfl ⟨rfl, rfl, rfl, rfl⟩ rfl agg24 (l' := [(Vg a0_0), (Vg a0_1)]) rfl) rfl rfl (wt_is' (wt_guard' rfl rfl rfl) (beq_tt h5)) ?_
    refine px_rd' rfl (rd_load_agg' (i := 1) (o := 0) (nn := 2) rfl ⟨rfl, rfl, rfl, rfl⟩ rfl agg24 (l' := [(Vg a1_0), (Vg a1_1)]) rfl) rfl rfl (wt_is' (wt_guard' rfl rfl rfl) (beq_tt h5)) ?_
    refine px_rd' rfl (rd_load_agg' (i := 0) (o := 0) (nn := 2) rfl ⟨rfl, rfl, rfl, rfl⟩ rfl agg24 (l' := [(Vg a0_0), (Vg a0_1)]) rfl) rfl rfl (wt_is' (wt_guard' rfl rfl rfl) (beq_tt h5)) ?_
    obtain ⟨r81, hr81, hp⟩ := bind_some hp
    refine px_ox' rfl (ox_calln' (ent_fn' Tryd.func16 isn16 rfl rfl) (impl_Rotate2_sim _ _ _ _ _ hr81 : Sx.Fn Tryd.prog 16 [(Ag [(Vg a0_0), (Vg a0_1)]), (Vg 0), (Ag [(Vg a1_0), (Vg a1_1)])] [] (fun x : Unit => (Ag [(Vg r81.1), (Vg r81.2)])) (fun x => [])) (Hn := fun x : Unit => [⟨.pointer (some q3), [(Vg a0_0), (Vg a0_1)], 24, none⟩, ⟨.pointer (some q4), [(Vg a1_0), (Vg a1_1)], 24, none⟩]) (fun _ => rfl) rfl rfl) rfl bs_nil (wt_is' (wt_guard' rfl rfl rfl) (beq_tt h5)) fun ⟨⟩ => ?_
    refine px_rd' rfl (rd_eq_ag' (us := [.float .f64 r81.1, .float .f64 r81.2]) (vs := [.float .f64 a0_0, .float .f64 a0_1]) rfl rfl eqg24 (eqt_struct Tryd.underlying24 held24 (eqf_cons (by rfl) (part_flat flat22 rfl) (part_flat flat22 rfl) (eqt_flt Tryd.underlying22) (eqf_cons (by rfl) (part_flat flat22 rfl) (part_flat flat22 rfl) (eqt_flt Tryd.underlying22) eqf_nil)))) rfl rfl (wt_is' (wt_guard' rfl rfl rfl) (beq_tt h5)) ?_
    refine px_rd' rfl (rd_pick_true' rfl h5 rfl) rfl rfl (wt_none' rfl) ?_
    refine px_nil' ?_
    show TX E K12 _
    exact tx_pick' [] (sub_cons rfl sub_nil) (by decide) pick_nil (hK12 ((feq r81.1 a0_0) && ((feq r81.2 a0_1) && true)) hp)
   refine px_skip' rfl rfl rfl (wt_is' (wt_guard' rfl rfl rfl) (beq_ft h5)) ?_
   refine px_skip' rfl rfl rfl (wt_is' (wt_guard' rfl rfl rfl) (beq_ft h5)) ?_
   refine px_skip' rfl rfl rfl (wt_is' (wt_guard' rfl rfl rfl) (beq_ft h5)) ?_
   refine px_oskip' rfl rfl rfl (wt_is' (wt_guard' rfl rfl rfl) (beq_ft h5)) ?_
   refine px_skip' rfl rfl rfl (wt_is' (wt_guard' rfl rfl rfl) (beq_ft h5)) ?_
   refine px_rd' rfl (rd_pick_false' rfl h5 rfl) rfl rfl (wt_none' rfl) ?_
   refine px_nil' ?_
   show TX E K12 _
   exact tx_pick' [] (sub_cons rfl sub_nil) (by decide) pick_nil (hK12 false hp)
  intro K11 hK11
  rcases br_cases hp with ⟨h4, hp⟩ | ⟨h4, hp⟩
  ·refine px_rd' rfl (rd_field' (off := 1) rfl Tryd.underlying24 rfl info22 rfl) rfl rfl (wt_is' (wt_guard' rfl rfl rfl) (beq_tt h4)) ?_
   refine px_rd' rfl (rd_load' (i := 0) (o := 1) rfl ⟨rfl, rfl, rfl, rfl⟩ rfl flat22) rfl rfl (wt_is' (wt_guard' rfl rfl rfl) (beq_tt h4)) ?_
   refine px_rd' rfl (rd_field' (off := 1) rfl Tryd.underlying24 rfl info22 rfl) rfl rfl (wt_is' (wt_guard' rfl rfl rfl) (beq_tt h4)) ?_
   refine px_rd' rfl (rd_load' (i := 2) (o := 1) rfl ⟨rfl, rfl, rfl, rfl⟩ rfl flat22) rfl rfl (wt_is' (wt_guard' rfl rfl rfl) (beq_tt h4)) ?_
   obtain ⟨r66, hr66, hp⟩ := bind_some hp
   refine px_rd' rfl (rd_bin' rfl rfl eg_flt (ru_fsub hr66)) rfl rfl (wt_is' (wt_guard' rfl rfl rfl) (beq_tt h4)) ?_
   refine px_rd' rfl (rd_move' rfl) rfl rfl (wt_is' (wt_guard' rfl rfl rfl) (beq_tt h4)) ?_
   refine px_rd' rfl (rd_move' rfl) rfl rfl (wt_is' (wt_guard' rfl rfl rfl) (beq_tt h4)) ?_
   obtain ⟨u3, hu3, hp⟩ := bind_some hp
   refine tx_slot' 68 (y := (Vg r43)) rfl (imp_num (num_some hu3).2) ?_
   obtain ⟨r69, hr69, hp⟩ := bind_some hp
   refine px_rd' rfl (rd_bin' rfl rfl eg_flt (ru_fmul hr69)) rfl rfl (wt_is' (wt_guard' rfl rfl rfl) (beq_tt h4)) ?_
   refine px_rd' rfl (rd_move' rfl) rfl rfl (wt_is' (wt_guard' rfl rfl rfl) (beq_tt h4)) ?_
   refine px_rd' rfl (rd_move' rfl) rfl rfl (wt_is' (wt_guard' rfl rfl rfl) (beq_tt h4)) ?_
   obtain ⟨u4, hu4, hp⟩ := bind_some hp
   refine tx_slot' 71 (y := (Vg r45)) rfl (imp_num (num_some hu4).2) ?_
   obtain ⟨r72, hr72, hp⟩ := bind_some hp
   refine px_rd' rfl (rd_bin' rfl rfl eg_flt (ru_fmul hr72)) rfl rfl (wt_is' (wt_guard' rfl rfl rfl) (beq_tt h4)) ?_
   obtain ⟨r73, hr73, hp⟩ := bind_some hp
   refine px_rd' rfl (rd_bin' rfl rfl eg_flt (ru_fadd hr73)) rfl rfl (wt_is' (wt_guard' rfl rfl rfl) (beq_tt h4)) ?_
   obtain ⟨r74, hr74, hp⟩ := bind_some hp
   refine px_rd' rfl (rd_bin' rfl rfl eg_flt (ru_fsub hr74)) rfl rfl (wt_is' (wt_guard' rfl rfl rfl) (beq_tt h4)) ?_
   obtain ⟨r75, hr75, hp⟩ := bind_some hp
   refine px_ox' rfl (ox_calln' (ent_fn' Tryd.func19 isn19 rfl rfl) (math_Abs_sim _ hr75 : Sx.Fn Tryd.prog 19 [(Vg r74)] [] (fun x : Unit => (Vg r75)) (fun x => [])) (Hn := fun x : Unit => [⟨.pointer (some q7), [(Vg r31.1), (Vg r31.2)], 24, none⟩, ⟨.pointer (some q3), [(Vg a0_0), (Vg a0_1)], 24, none⟩, ⟨.pointer (some q4), [(Vg a1_0), (Vg a1_1)], 24, none⟩]) (fun _ => rfl) rfl rfl) rfl bs_nil (wt_is' (wt_guard' rfl rfl rfl) (beq_tt h4)) fun ⟨⟩ => ?_
   refine px_rd' rfl (rd_bin' rfl rfl eg_flt ru_flt) rfl rfl (wt_is' (wt_guard' rfl rfl rfl) (beq_tt h4)) ?_
   refine px_rd' rfl (rd_pick_true' rfl h4 rfl) rfl rfl (wt_none' rfl) ?_
   refine px_nil' ?_
   show TX E K11 _
   exact tx_pick' [1, 2] (sub_cons rfl (sub_cons rfl (sub_cons rfl sub_nil))) (by decide) (pick_cons rfl (pick_cons rfl pick_nil)) (hK11 (flt r75 4472074429978902528) hp)
  refine px_skip' rfl rfl rfl (wt_is' (wt_guard' rfl rfl rfl) (beq_ft h4)) ?_
  refine px_skip' rfl rfl rfl (wt_is' (wt_guard' rfl rfl rfl) (beq_ft h4)) ?_
  refine px_skip' rfl rfl rfl (wt_is' (wt_guard' rfl rfl rfl) (beq_ft h4)) ?_
  refine px_skip' rfl rfl rfl (wt_is' (wt_guard' rfl rfl rfl) (beq_ft h4)) ?_
  refine px_skip' rfl rfl rfl (wt_is' (wt_guard' rfl rfl rfl) (beq_ft h4)) ?_
  refine px_skip' rfl rfl rfl (wt_is' (wt_guard' rfl rfl rfl) (beq_ft h4)) ?_
  refine px_skip' rfl rfl rfl (wt_is' (wt_guard' rfl rfl rfl) (beq_ft h4)) ?_
  refine px_skip' rfl rfl rfl (wt_is' (wt_guard' rfl rfl rfl) (beq_ft h4)) ?_
  refine px_skip' rfl rfl rfl (wt_is' (wt_guard' rfl rfl rfl) (beq_ft h4)) ?_
  refine px_skip' rfl rfl rfl (wt_is' (wt_guard' rfl rfl rfl) (beq_ft h4)) ?_
  refine px_skip' rfl rfl rfl (wt_is' (wt_guard' rfl rfl rfl) (beq_ft h4)) ?_
  refine px_skip' rfl rfl rfl (wt_is' (wt_guard' rfl rfl rfl) (beq_ft h4)) ?_
  refine px_skip' rfl rfl rfl (wt_is' (wt_guard' rfl rfl rfl) (beq_ft h4)) ?_
  refine px_oskip' rfl rfl rfl (wt_is' (wt_guard' rfl rfl rfl) (beq_ft h4)) ?_
  refine px_skip' rfl rfl rfl (wt_is' (wt_guard' rfl rfl rfl) (beq_ft h4)) ?_
  refine px_rd' rfl (rd_pick_false' rfl h4 rfl) rfl rfl (wt_none' rfl) ?_
  refine px_nil' ?_
  show TX E K11 _
  exact tx_pick' [1, 2] (sub_cons rfl (sub_cons rfl (sub_cons rfl sub_nil))) (by decide) (pick_cons rfl (pick_cons rfl pick_nil)) (hK11 false hp)
 intro K5 hK5
 rcases br_cases hp with ⟨h1, hp⟩ | ⟨h1, hp⟩
 ·refine px_skip' rfl rfl rfl (wt_is' (wt_guard' rfl rfl rfl) (beq_tf h1)) ?_
  refine px_skip' rfl rfl rfl (wt_is' (wt_guard' rfl rfl rfl) (beq_tf h1)) ?_
  refine px_skip' rfl rfl rfl (wt_is' (wt_guard' rfl rfl rfl) (beq_tf h1)) ?_
  refine px_skip' rfl rfl rfl (wt_undef' rfl rfl rfl) ?_
  refine px_skip' rfl rfl rfl (wt_undef' rfl rfl rfl) ?_
  refine px_skip' rfl rfl rfl (wt_is' (wt_guard' rfl rfl rfl) (beq_tf h1)) ?_
  refine px_skip' rfl rfl rfl (wt_is' (wt_guard' rfl rfl rfl) (beq_tf h1)) ?_
  refine px_rd' rfl (rd_pick_true' rfl h1 rfl) rfl rfl (wt_none' rfl) ?_
  refine px_nil' ?_
  show TX E K5 _
  exact tx_pick' [2, 1] (sub_cons rfl (sub_cons rfl (sub_cons rfl (sub_cons rfl sub_nil)))) (by decide) (pick_cons rfl (pick_cons rfl pick_nil)) (hK5 true hp)
 refine px_rd' rfl (rd_move' rfl) rfl rfl (wt_is' (wt_guard' rfl rfl rfl) (beq_ff h1)) ?_
 refine px_rd' rfl (rd_bin' rfl rfl eg_flt ru_fge) rfl rfl (wt_is' (wt_guard' rfl rfl rfl) (beq_ff h1)) ?_
 refine px_rd' rfl (rd_move' rfl) rfl rfl (wt_is' (wt_guard' rfl rfl rfl) (beq_ff h1)) ?_
 refine px_cutn' 5 (fun (v1 : Bool) => (⟨85, [], [(2, (Vg a2)), (3, (Vp q3)), (4, (Vp q4)), (27, (Vb v1))], [⟨.pointer (some q3), [(Vg a0_0), (Vg a0_1)], 24, none⟩, ⟨.pointer (some q4), [(Vg a1_0), (Vg a1_1)], 24, none⟩]⟩ : St)) (fun (v1 : Bool) => laws_FnRotate2_j1 k a0_0 a0_1 a2 a1_0 a1_1 v1 = some out) ?_ ?_
 ·rintro x1 hp
  replace hp : laws_FnRotate2_j1 k a0_0 a0_1 a2 a1_0 a1_1 x1 = some out := hp
  unfold laws_FnRotate2_j1 at hp
  refine px_nil' ?_
  show TX E K5 _
  exact tx_pick' [0, 1] (sub_cons rfl (sub_cons rfl (sub_cons rfl (sub_cons rfl sub_nil)))) (by decide) (pick_cons rfl (pick_cons rfl pick_nil)) (hK5 x1 hp)
 intro K4 hK4
 rcases br_cases hp with ⟨h2, hp⟩ | ⟨h2, hp⟩
 ·refine px_rd' rfl (rd_move' rfl) rfl rfl (wt_is' (wt_guard' rfl rfl rfl) (beq_tt h2)) ?_
  refine px_rd' rfl (rd_bin' rfl rfl eg_flt ru_fle) rfl rfl (wt_is' (wt_guard' rfl rfl rfl) (beq_tt h2)) ?_
  refine px_rd' rfl (rd_pick_true' rfl h2 rfl) rfl rfl (wt_is' (wt_guard' rfl rfl rfl) (beq_ff h1)) ?_
  refine px_rd' rfl (rd_un' rfl ru_not) rfl rfl (wt_is' (wt_guard' rfl rfl rfl) (beq_ff h1)) ?_
  refine px_rd' rfl (rd_pick_false' rfl h1 rfl) rfl rfl (wt_none' rfl) ?_
  refine px_nil' ?_
  show TX E K4 _
  exact tx_pick' [2, 1] (sub_cons rfl (sub_cons rfl (sub_cons rfl (sub_cons rfl sub_nil)))) (by decide) (pick_cons rfl (pick_cons rfl pick_nil)) (hK4 (!(fle a2 4619567317775286272)) hp)
 refine px_skip' rfl rfl rfl (wt_is' (wt_guard' rfl rfl rfl) (beq_ft h2)) ?_
 refine px_skip' rfl rfl rfl (wt_is' (wt_guard' rfl rfl rfl) (beq_ft h2)) ?_
 refine px_rd' rfl (rd_pick_false' rfl h2 rfl) rfl rfl (wt_is' (wt_guard' rfl rfl rfl) (beq_ff h1)) ?_
 refine px_rd' rfl (rd_un' rfl ru_not) rfl rfl (wt_is' (wt_guard' rfl rfl rfl) (beq_ff h1)) ?_
 refine px_rd' rfl (rd_pick_false' rfl h1 rfl) rfl rfl (wt_none' rfl) ?_
 refine px_nil' ?_
 show TX E K4 _
 exact tx_pick' [2, 1] (sub_cons rfl (sub_cons rfl (sub_cons rfl (sub_cons rfl sub_nil)))) (by decide) (pick_cons rfl (pick_cons rfl pick_nil)) (hK4 (!false) hp)

end Go.Proofs.YtekppafmaoefaaaDoor
