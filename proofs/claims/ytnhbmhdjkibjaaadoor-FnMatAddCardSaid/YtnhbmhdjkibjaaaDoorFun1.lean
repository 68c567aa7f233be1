/-
  Plain functions for the Go functions that this law reaches, and that each call does what its plain function says. Printed by a program of ours.
-/
import Derived.Test.YtnhbmhdjkibjaaaDoorProg
import Derived.Test.YtnhbmhdjkibjaaaDoorSxZ
namespace Go.Proofs.YtnhbmhdjkibjaaaDoor
open Go.Sx
set_option linter.unusedVariables false
set_option maxRecDepth 100000
set_option maxHeartbeats 2000000

theorem info24 : (Tryd.prog.info? 24).map (fun i => (i.zero, i.size, i.bytes)) = some (some (.agg #[.float .f64 0, .float .f64 0, .float .f64 0, .float .f64 0, .float .f64 0, .float .f64 0, .float .f64 0, .float .f64 0, .float .f64 0]), 9, 72) := by kernel_rfl
theorem agg24 : Agg Tryd.prog 24 9 := ⟨⟨_, Tryd.underlying24, .inr ⟨_, _, rfl⟩⟩, info_size info24⟩
theorem isn6 : (Tryd.f6.name == "runtime.NumGoroutine") = false := by kernel_rfl
theorem info22 : (Tryd.prog.info? 22).map (fun i => (i.zero, i.size, i.bytes)) = some (some (.float .f64 0), 1, 8) := by kernel_rfl
theorem isn15 : (Tryd.f15.name == "runtime.NumGoroutine") = false := by kernel_rfl
theorem info40 : (Tryd.prog.info? 40).map (fun i => (i.zero, i.size, i.bytes)) = some (some (.slice none 0 0), 1, 24) := by kernel_rfl
theorem flat40 : Flat Tryd.prog 40 := ⟨_, Tryd.underlying40, fun _ h => (nomatch h), fun _ _ h => (nomatch h)⟩
theorem flat22 : Flat Tryd.prog 22 := ⟨_, Tryd.underlying22, fun _ h => (nomatch h), fun _ _ h => (nomatch h)⟩
theorem isn33 : (Tryd.f33.name == "runtime.NumGoroutine") = false := by kernel_rfl
theorem extf41 : ∀ {x r : Nat}, gint .zero x = r → ∀ y, (y = x ∨ (isn x = true ∧ isn y = true)) → RunsF Tryd.prog (callFunc 41 #[.float .f64 y]) (Fl r) := fun hz y hy => hz ▸ runs_ext (e := Extern.MathFloor.toIntegral "math.archTrunc" .zero) Tryd.func41 (by kernel_rfl) (by kernel_rfl) (by kernel_rfl) (by kernel_rfl) (gint_runs hy)
theorem mixed : Tryd.prog.follows .mixedOrders = true := by kernel_rfl
theorem isn10 : (Tryd.f10.name == "runtime.NumGoroutine") = false := by kernel_rfl
theorem isn17 : (Tryd.f17.name == "runtime.NumGoroutine") = false := by kernel_rfl
theorem isn35 : (Tryd.f35.name == "runtime.NumGoroutine") = false := by kernel_rfl
theorem isn34 : (Tryd.f34.name == "runtime.NumGoroutine") = false := by kernel_rfl
theorem isn43 : (Tryd.f43.name == "runtime.NumGoroutine") = false := by kernel_rfl
theorem places48 : placesOf Tryd.prog [{ name := "data", type := 46, offset := 0, embedded := false, tag := "", pkgPath := "pub-orthodrome/pub/gonum/spatial/r3", byteOffset := 0 }] = [(0, 1)] := by kernel_rfl
theorem has48 : ∀ f ∈ ([{ name := "data", type := 46, offset := 0, embedded := false, tag := "", pkgPath := "pub-orthodrome/pub/gonum/spatial/r3", byteOffset := 0 }] : List Field), (Tryd.prog.info? f.type).isSome = true := fun f hf => all_of (p := fun f => (Tryd.prog.info? f.type).isSome) (by kernel_rfl) f hf
theorem info48 : (Tryd.prog.info? 48).map (fun i => (i.zero, i.size, i.bytes)) = some (some (.agg #[.pointer none]), 1, 8) := by kernel_rfl
theorem isn22 : (Tryd.f22.name == "runtime.NumGoroutine") = false := by kernel_rfl
theorem inv43_Dims : ∀ (v : Value) w', (callMethod (.iface 43 v) "Dims" #[]).run Tryd.prog w' = .ok (.enter 69 #[v]) w' := fun _ _ => by kernel_rfl
theorem info46 : (Tryd.prog.info? 46).map (fun i => (i.zero, i.size, i.bytes)) = some (some (.pointer none), 1, 8) := by kernel_rfl
theorem flat46 : Flat Tryd.prog 46 := ⟨_, Tryd.underlying46, fun _ h => (nomatch h), fun _ _ h => (nomatch h)⟩
theorem nil_eql46_nilptr : ∀ (w : World), (binOp .eql 46 (.pointer none) (.pointer none)).run Tryd.prog w = .ok (.bool true) w := fun _ => by kernel_rfl
theorem info77 : (Tryd.prog.info? 77).map (fun i => (i.zero, i.size, i.bytes)) = some (some (.agg #[.float .f64 0, .float .f64 0, .float .f64 0, .float .f64 0, .float .f64 0, .float .f64 0, .float .f64 0, .float .f64 0, .float .f64 0]), 9, 72) := by kernel_rfl
theorem inv43_At : ∀ (v : Value) (a : Value) (b : Value) w', (callMethod (.iface 43 v) "At" #[a, b]).run Tryd.prog w' = .ok (.enter 36 #[v, a, b]) w' := fun _ _ _ _ => by kernel_rfl
theorem nil_eql46_ptr : ∀ (q : Addr) (w : World), (binOp .eql 46 (.pointer (some q)) (.pointer none)).run Tryd.prog w = .ok (.bool false) w := fun _ _ => by kernel_rfl
theorem isn37 : (Tryd.f37.name == "runtime.NumGoroutine") = false := by kernel_rfl
theorem isn21 : (Tryd.f21.name == "runtime.NumGoroutine") = false := by kernel_rfl
theorem isn36 : (Tryd.f36.name == "runtime.NumGoroutine") = false := by kernel_rfl
theorem isn11 : (Tryd.f11.name == "runtime.NumGoroutine") = false := by kernel_rfl
theorem isn23 : (Tryd.f23.name == "runtime.NumGoroutine") = false := by kernel_rfl
theorem isn12 : (Tryd.f12.name == "runtime.NumGoroutine") = false := by kernel_rfl
theorem isn24 : (Tryd.f24.name == "runtime.NumGoroutine") = false := by kernel_rfl
def vec9 {α : Type} : List α → Option (α × α × α × α × α × α × α × α × α)
  | [x0, x1, x2, x3, x4, x5, x6, x7, x8] => some (x0, x1, x2, x3, x4, x5, x6, x7, x8)
  | _ => none
theorem vec9_some {α : Type} {xs : List α} {r : α × α × α × α × α × α × α × α × α} (h : vec9 xs = some r) : xs = [r.1, r.2.1, r.2.2.1, r.2.2.2.1, r.2.2.2.2.1, r.2.2.2.2.2.1, r.2.2.2.2.2.2.1, r.2.2.2.2.2.2.2.1, r.2.2.2.2.2.2.2.2] := by
  unfold vec9 at h
  split at h
  · cases h; rfl
  · cases h
def KT24 : Kd (Nat × Nat × Nat × Nat × Nat × Nat × Nat × Nat × Nat) := ⟨9, fun x => [(Vl (.float .f64 x.1)), (Vl (.float .f64 x.2.1)), (Vl (.float .f64 x.2.2.1)), (Vl (.float .f64 x.2.2.2.1)), (Vl (.float .f64 x.2.2.2.2.1)), (Vl (.float .f64 x.2.2.2.2.2.1)), (Vl (.float .f64 x.2.2.2.2.2.2.1)), (Vl (.float .f64 x.2.2.2.2.2.2.2.1)), (Vl (.float .f64 x.2.2.2.2.2.2.2.2))], fun _ => rfl⟩

def math_Trunc (k : Nat) (a0 : Nat) : Option (Nat) :=
  (some (gint .zero a0)) >>= fun r4 =>
  some r4

theorem math_Trunc_sim {k : Nat}  (a0 : Nat) {out : Nat} (hp : math_Trunc k a0 = some out) : Go.Sx.Fn Tryd.prog 33 [(Vl (.float .f64 a0))] [] (fun w : Unit => (Fl out)) (fun w => []) := by
  unfold math_Trunc at hp
  refine fn_of Tryd.func33 rfl Tryd.ntmps33 rfl fun E hM => ?_
  refine cx_seq' fun K1 hK1 => ?_
  refine cx_region' ?_
  refine sx_rd' (rd_assign' rfl) rfl rfl (wt_none' rfl) ?_
  refine sx_nil' ?_
  show TX E K1 _
  refine tx_k' hK1 ?_
  refine cx_seq' fun K2 hK2 => ?_
  refine cx_cond_t' rfl rfl ?_
  refine cx_seq' fun K3 hK3 => ?_
  refine cx_region' ?_
  refine sx_rd' (rd_move' rfl) rfl rfl (wt_none' rfl) ?_
  obtain ⟨r4, hr4, hp⟩ := bind_some hp
  refine sx_ox' (ox_extf' rfl (fl_v rfl) Tryd.func41 (extf41 (Option.some.inj hr4)) rfl rfl) (wt_none' rfl) fun _ => ?_
  refine sx_rd' (rd_assign' rfl) rfl rfl (wt_none' rfl) ?_
  refine sx_nil' ?_
  show TX E K3 _
  refine tx_k' hK3 ?_
  refine cx_retc' ?_
  replace hp := Option.some.inj hp
  subst hp
  refine tx_pick' (L' := [(2, (Fl r4))]) (H' := []) [] (sub_cons rfl sub_nil) (by decide) pick_nil ?_
  exact tx_ret1' Tryd.results33 rfl () (rv_tmp' rfl) (List.Sublist.refl _)

def spec_Grid_j8 (k : Nat) (rec2 : Int → Option (Unit ⊕ Unit)) (x10 : Int) (x9 : Bool) : Option (Unit ⊕ Unit) :=
  br x9
    (some (.inl ()))
    (rec2 (iadd .i64 x10 1))
def spec_Grid_j7 (k : Nat) (rec2 : Int → Option (Unit ⊕ Unit)) (x10 : Int) (r25 : Nat) (x8 : Bool) : Option (Unit ⊕ Unit) :=
  br (!x8)
    (spec_Grid_j8 k rec2 x10 true)
    ((math_Trunc k r25) >>= fun r40 =>
    spec_Grid_j8 k rec2 x10 (fne r25 r40))
def spec_Grid_l2s (r15 : List Nat) (a2 : Nat) (k : Nat) (rec2 : Int → Option (Unit ⊕ Unit)) (x10 : Int) : Option (Unit ⊕ Unit) :=
  br (decide (x10 < (r15.length : Int)))
    ((idx r15 x10) >>= fun r25 =>
    br (fge r25 (fneg a2))
      (spec_Grid_j7 k rec2 x10 r25 (fle r25 a2))
      (spec_Grid_j7 k rec2 x10 r25 false))
    (some (.inr ()))
def spec_Grid_l2 (r15 : List Nat) (a2 : Nat) : Nat → Int → Option (Unit ⊕ Unit)
  | 0, _ => none
  | k + 1, v => spec_Grid_l2s r15 a2 k (spec_Grid_l2 r15 a2 k) v
def spec_Grid_l3s (a0 : List (List Nat)) (a1 : Int) (a2 : Nat) (k : Nat) (rec3 : Int → Option (Unit ⊕ Unit)) (x11 : Int) : Option (Unit ⊕ Unit) :=
  br (decide (x11 < (a0.length : Int)))
    ((idx a0 x11) >>= fun r15 =>
    br (!decide ((r15.length : Int) = a1))
      (some (.inl ()))
      ((spec_Grid_l2 r15 a2 k 0) >>= fun y2 => match y2 with
        | (.inl v14) =>
          (some (.inl ()))
        | (.inr v15) =>
          (rec3 (iadd .i64 x11 1))))
    (some (.inr ()))
def spec_Grid_l3 (a0 : List (List Nat)) (a1 : Int) (a2 : Nat) : Nat → Int → Option (Unit ⊕ Unit)
  | 0, _ => none
  | k + 1, v => spec_Grid_l3s a0 a1 a2 k (spec_Grid_l3 a0 a1 a2 k) v
def spec_Grid (k : Nat) (a0 : List (List Nat)) (a1 : Int) (a2 : Nat) : Option (Bool) :=
  (spec_Grid_l3 a0 a1 a2 k 0) >>= fun y3 => match y3 with
    | (.inl v16) =>
      (some false)
    | (.inr v17) =>
      (some (decide (0 < a1)))

theorem spec_Grid_sim {k : Nat}  (a0 : List (List Nat)) (a1 : Int) (a2 : Nat) {out : Bool} (hp : spec_Grid k a0 a1 a2 = some out) : Go.Sx.Fn Tryd.prog 15 [(Sl (Kl Kf) a0), (Vl (.int .i64 a1)), (Vl (.float .f64 a2))] [] (fun w : Unit => (Vl (.bool out))) (fun w => []) := by
  unfold spec_Grid at hp
  refine fn_of Tryd.func15 rfl Tryd.ntmps15 rfl fun E hM => ?_
  refine cx_seq' fun K1 hK1 => ?_
  refine cx_region' ?_
  refine sx_rd' (rd_assign' rfl) rfl rfl (wt_none' rfl) ?_
  refine sx_nil' ?_
  show TX E K1 _
  refine tx_k' hK1 ?_
  refine cx_seq' fun K2 hK2 => ?_
  refine cx_seq' fun K3 hK3 => ?_
  refine cx_region' ?_
  refine sx_rd' (rd_move' rfl) rfl rfl (wt_none' rfl) ?_
  refine sx_rd' (rd_len' rfl Tryd.underlying41) rfl rfl (wt_none' rfl) ?_
  refine sx_rd' (rd_move' rfl) rfl rfl (wt_none' rfl) ?_
  refine sx_nil' ?_
  show TX E K3 _
  refine tx_k' hK3 ?_
  refine cx_block' ?_
  obtain ⟨y3, hy3, hp⟩ := bind_some hp
  refine cx_loopg' (F := spec_Grid_l3 a0 a1 a2) (G := fun k R v => spec_Grid_l3s a0 a1 a2 k R v) (x := 0) (gh := ()) (fun (v8 : Int) (w8 : Unit) => (⟨47, [], [(1, (Vl (.int .i64 a1))), (2, (Vl (.float .f64 a2))), (11, (Sl (Kl Kf) a0)), (12, (Vl (.int .i64 (a0.length : Int)))), (13, (Vl (.int .i64 v8)))], []⟩ : St)) (fun (y : Unit ⊕ Unit) => match y with | (.inl v16) => Zg E Exit.ret (fun (w16 : Unit) => (⟨47, [], [(6, (Vl (.bool false)))], []⟩ : St)) | (.inr v17) => Zg E (Exit.exit 0) (fun (w17 : Unit) => (⟨47, [], [(1, (Vl (.int .i64 a1)))], []⟩ : St))) (fun _ => rfl) (fun _ _ => rfl) ?_ hy3 (tx_to' rfl [] (sub_cons rfl (sub_cons rfl (sub_cons rfl (sub_cons rfl (sub_cons rfl sub_nil))))) (by decide) pick_nil) ?_
  · clear hp hy3
    clear y3
    intro k rec3 KY3 ih3
    rintro x11 ⟨⟩ y3 hp
    replace hp : spec_Grid_l3s a0 a1 a2 k rec3 x11 = some y3 := hp
    unfold spec_Grid_l3s at hp
    refine cx_seq' fun K28 hK28 => ?_
    refine cx_region' ?_
    refine sx_rd' (rd_bin' rfl rfl eg_int ru_lss) rfl rfl (wt_none' rfl) ?_
    refine sx_nil' ?_
    show TX E K28 _
    refine tx_k' hK28 ?_
    refine cx_seq' fun K29 hK29 => ?_
    refine cx_cond' rfl (fun h13 => ?_) (fun h13 => ?_)
    · replace hp := (br_t h13).symm.trans hp
      refine cx_skip' ?_
      show TX E K29 _
      refine tx_k' hK29 ?_
      refine cx_seq' fun K30 hK30 => ?_
      refine cx_block' ?_
      refine cx_seq' fun K31 hK31 => ?_
      refine cx_region' ?_
      obtain ⟨r15, hr15, hp⟩ := bind_some hp
      refine sx_rd' (rd_at' (K := (Kl Kf)) rfl rfl hr15 Tryd.underlying41 info40) rfl rfl (wt_none' rfl) ?_
      refine sx_rd' (rd_load_pt' rfl rfl flat40) rfl rfl (wt_none' rfl) ?_
      refine sx_rd' (rd_assign' rfl) rfl rfl (wt_none' rfl) ?_
      refine sx_nil' ?_
      show TX E K31 _
      refine tx_k' hK31 ?_
      refine cx_seq' fun K32 hK32 => ?_
      refine cx_seq' fun K33 hK33 => ?_
      refine cx_region' ?_
      refine sx_rd' (rd_move' rfl) rfl rfl (wt_none' rfl) ?_
      refine sx_rd' (rd_len' rfl Tryd.underlying40) rfl rfl (wt_none' rfl) ?_
      refine sx_rd' (rd_move' rfl) rfl rfl (wt_none' rfl) ?_
      refine sx_rd' (rd_bin' rfl rfl eg_int ru_neq) rfl rfl (wt_none' rfl) ?_
      refine sx_nil' ?_
      show TX E K33 _
      refine tx_k' hK33 ?_
      refine cx_cond' rfl (fun h14 => ?_) (fun h14 => ?_)
      · replace hp := (br_t h14).symm.trans hp
        refine cx_seq' fun K34 hK34 => ?_
        refine cx_region' ?_
        refine sx_rd' (rd_assign' rfl) rfl rfl (wt_none' rfl) ?_
        refine sx_nil' ?_
        show TX E K34 _
        refine tx_k' hK34 ?_
        refine cx_retc' ?_
        replace hp := Option.some.inj hp
        subst hp
        show TX E (Zg E Exit.ret _ Exit.ret) _
        exact tx_zend' () rfl [] (sub_cons rfl sub_nil) (by decide) pick_nil
      · replace hp := (br_f h14).symm.trans hp
        refine cx_skip' ?_
        show TX E K32 _
        refine tx_k' hK32 ?_
        refine cx_seq' fun K35 hK35 => ?_
        refine cx_region' ?_
        refine sx_rd' (rd_move' rfl) rfl rfl (wt_none' rfl) ?_
        refine sx_rd' (rd_len' rfl Tryd.underlying40) rfl rfl (wt_none' rfl) ?_
        refine sx_rd' (rd_move' rfl) rfl rfl (wt_none' rfl) ?_
        refine sx_nil' ?_
        show TX E K35 _
        refine tx_k' hK35 ?_
        refine cx_block' ?_
        obtain ⟨y2, hy2, hp⟩ := bind_some hp
        refine cx_loopg' (F := spec_Grid_l2 r15 a2) (G := fun k R v => spec_Grid_l2s r15 a2 k R v) (x := 0) (gh := ()) (fun (v11 : Int) (w11 : Unit) => (⟨47, [], [(1, (Vl (.int .i64 a1))), (2, (Vl (.float .f64 a2))), (11, (Sl (Kl Kf) a0)), (12, (Vl (.int .i64 (a0.length : Int)))), (13, (Vl (.int .i64 x11))), (21, (Sl Kf r15)), (22, (Vl (.int .i64 (r15.length : Int)))), (23, (Vl (.int .i64 v11)))], []⟩ : St)) (fun (y : Unit ⊕ Unit) => match y with | (.inl v14) => Zg E Exit.ret (fun (w14 : Unit) => (⟨47, [], [(6, (Vl (.bool false)))], []⟩ : St)) | (.inr v15) => Zg E (Exit.exit 2) (fun (w15 : Unit) => (⟨47, [], [(1, (Vl (.int .i64 a1))), (2, (Vl (.float .f64 a2))), (11, (Sl (Kl Kf) a0)), (12, (Vl (.int .i64 (a0.length : Int)))), (13, (Vl (.int .i64 x11)))], []⟩ : St))) (fun _ => rfl) (fun _ _ => rfl) ?_ hy2 (tx_to' rfl [] (sub_cons rfl (sub_cons rfl (sub_cons rfl (sub_cons rfl (sub_cons rfl (sub_cons rfl (sub_cons rfl (sub_cons rfl sub_nil)))))))) (by decide) pick_nil) ?_
        · clear hp hy2
          clear y2
          intro k rec2 KY2 ih2
          rintro x10 ⟨⟩ y2 hp
          replace hp : spec_Grid_l2s r15 a2 k rec2 x10 = some y2 := hp
          unfold spec_Grid_l2s at hp
          refine cx_seq' fun K44 hK44 => ?_
          refine cx_region' ?_
          refine sx_rd' (rd_bin' rfl rfl eg_int ru_lss) rfl rfl (wt_none' rfl) ?_
          refine sx_nil' ?_
          show TX E K44 _
          refine tx_k' hK44 ?_
          refine cx_seq' fun K45 hK45 => ?_
          refine cx_cond' rfl (fun h20 => ?_) (fun h20 => ?_)
          · replace hp := (br_t h20).symm.trans hp
            refine cx_skip' ?_
            show TX E K45 _
            refine tx_k' hK45 ?_
            refine cx_seq' fun K46 hK46 => ?_
            refine cx_block' ?_
            refine cx_seq' fun K47 hK47 => ?_
            refine cx_region' ?_
            obtain ⟨r25, hr25, hp⟩ := bind_some hp
            refine sx_rd' (rd_at' (K := Kf) rfl rfl hr25 Tryd.underlying40 info22) rfl rfl (wt_none' rfl) ?_
            refine sx_rd' (rd_load_pt' rfl rfl flat22) rfl rfl (wt_none' rfl) ?_
            refine sx_rd' (rd_assign' rfl) rfl rfl (wt_none' rfl) ?_
            refine sx_nil' ?_
            show TX E K47 _
            refine tx_k' hK47 ?_
            refine cx_seq' fun K48 hK48 => ?_
            refine cx_region' ?_
            refine sx_rd' (rd_move' rfl) rfl rfl (wt_none' rfl) ?_
            refine sx_rd' (rd_move' rfl) rfl rfl (wt_none' rfl) ?_
            refine sx_rd' (rd_un' rfl ru_fneg) rfl rfl (wt_none' rfl) ?_
            refine sx_rd' (rd_bin' rfl rfl eg_flt ru_fge) rfl rfl (wt_none' rfl) ?_
            refine sx_rd' (rd_move' rfl) rfl rfl (wt_none' rfl) ?_
            refine sx_cutn' 4 (fun (v12 : Bool) => (⟨47, [], [(1, (Vl (.int .i64 a1))), (2, (Vl (.float .f64 a2))), (10, (Vl (.float .f64 r25))), (11, (Sl (Kl Kf) a0)), (12, (Vl (.int .i64 (a0.length : Int)))), (13, (Vl (.int .i64 x11))), (21, (Sl Kf r15)), (22, (Vl (.int .i64 (r15.length : Int)))), (23, (Vl (.int .i64 x10))), (35, (Vl (.bool v12)))], []⟩ : St)) (fun (v12 : Bool) => spec_Grid_j7 k rec2 x10 r25 v12 = some y2) ?_ ?_
            · rintro x8 hp
              replace hp : spec_Grid_j7 k rec2 x10 r25 x8 = some y2 := hp
              unfold spec_Grid_j7 at hp
              refine sx_rd' (rd_un' rfl ru_not) rfl rfl (wt_none' rfl) ?_
              refine sx_rd' (rd_move' rfl) rfl rfl (wt_none' rfl) ?_
              refine sx_cutn' 5 (fun (v13 : Bool) => (⟨47, [], [(1, (Vl (.int .i64 a1))), (2, (Vl (.float .f64 a2))), (11, (Sl (Kl Kf) a0)), (12, (Vl (.int .i64 (a0.length : Int)))), (13, (Vl (.int .i64 x11))), (21, (Sl Kf r15)), (22, (Vl (.int .i64 (r15.length : Int)))), (23, (Vl (.int .i64 x10))), (42, (Vl (.bool v13)))], []⟩ : St)) (fun (v13 : Bool) => spec_Grid_j8 k rec2 x10 v13 = some y2) ?_ ?_
              · rintro x9 hp
                replace hp : spec_Grid_j8 k rec2 x10 x9 = some y2 := hp
                unfold spec_Grid_j8 at hp
                refine sx_nil' ?_
                show TX E K48 _
                refine tx_k' hK48 ?_
                refine cx_cond' rfl (fun h23 => ?_) (fun h23 => ?_)
                · replace hp := (br_t h23).symm.trans hp
                  refine cx_seq' fun K51 hK51 => ?_
                  refine cx_region' ?_
                  refine sx_rd' (rd_assign' rfl) rfl rfl (wt_none' rfl) ?_
                  refine sx_nil' ?_
                  show TX E K51 _
                  refine tx_k' hK51 ?_
                  refine cx_retc' ?_
                  replace hp := Option.some.inj hp
                  subst hp
                  show TX E (Zg E Exit.ret _ Exit.ret) _
                  exact tx_zend' () rfl [] (sub_cons rfl sub_nil) (by decide) pick_nil
                · replace hp := (br_f h23).symm.trans hp
                  refine cx_skip' ?_
                  show TX E K46 _
                  refine tx_k' hK46 ?_
                  refine cx_region' ?_
                  refine sx_rd' (rd_bin' rfl rfl eg_int ru_add) rfl rfl (wt_none' rfl) ?_
                  refine sx_rd' (rd_move' rfl) rfl rfl (wt_none' rfl) ?_
                  refine sx_nil' ?_
                  show TX E (KY2 _) _
                  exact tx_pick' [] (sub_cons rfl (sub_cons rfl (sub_cons rfl (sub_cons rfl (sub_cons rfl (sub_cons rfl (sub_cons rfl (sub_cons rfl sub_nil)))))))) (by decide) pick_nil (ih2 (iadd .i64 x10 1) () _ hp)
              · intro K50 hK50
                rcases br_cases hp with ⟨h22, hp⟩ | ⟨h22, hp⟩
                · refine sx_skip' rfl rfl (wt_is' (wt_guard' rfl rfl rfl) (beq_tf h22)) ?_
                  refine sx_skip' rfl rfl (wt_is' (wt_guard' rfl rfl rfl) (beq_tf h22)) ?_
                  refine sx_skip' rfl rfl (wt_is' (wt_guard' rfl rfl rfl) (beq_tf h22)) ?_
                  refine sx_skip' rfl rfl (wt_is' (wt_guard' rfl rfl rfl) (beq_tf h22)) ?_
                  refine sx_rd' (rd_pick_true' rfl h22 rfl) rfl rfl (wt_none' rfl) ?_
                  refine sx_nil' ?_
                  show TX E K50 _
                  exact tx_pick' [] (sub_cons rfl (sub_cons rfl (sub_cons rfl (sub_cons rfl (sub_cons rfl (sub_cons rfl (sub_cons rfl (sub_cons rfl (sub_cons rfl sub_nil))))))))) (by decide) pick_nil (hK50 true hp)
                · refine sx_rd' (rd_move' rfl) rfl rfl (wt_is' (wt_guard' rfl rfl rfl) (beq_ff h22)) ?_
                  refine sx_rd' (rd_move' rfl) rfl rfl (wt_is' (wt_guard' rfl rfl rfl) (beq_ff h22)) ?_
                  obtain ⟨r40, hr40, hp⟩ := bind_some hp
                  refine sx_ox' (ox_calln' (ent_fn' Tryd.func33 isn33 rfl rfl) (math_Trunc_sim _ hr40 : Go.Sx.Fn Tryd.prog 33 [(Vl (.float .f64 r25))] [] (fun x : Unit => (Fl r40)) (fun x => [])) (Hn := fun x : Unit => []) (fun _ => rfl) rfl rfl) (wt_is' (wt_guard' rfl rfl rfl) (beq_ff h22)) fun ⟨⟩ => ?_
                  refine sx_rd' (rd_fcmp' (fl_v rfl) (fl_f rfl) rfl) rfl rfl (wt_is' (wt_guard' rfl rfl rfl) (beq_ff h22)) ?_
                  refine sx_rd' (rd_pick_false' rfl h22 rfl) rfl rfl (wt_none' rfl) ?_
                  refine sx_nil' ?_
                  show TX E K50 _
                  exact tx_pick' [] (sub_cons rfl (sub_cons rfl (sub_cons rfl (sub_cons rfl (sub_cons rfl (sub_cons rfl (sub_cons rfl (sub_cons rfl (sub_cons rfl sub_nil))))))))) (by decide) pick_nil (hK50 (fne r25 r40) hp)
            · intro K49 hK49
              rcases br_cases hp with ⟨h21, hp⟩ | ⟨h21, hp⟩
              · refine sx_rd' (rd_move' rfl) rfl rfl (wt_is' (wt_guard' rfl rfl rfl) (beq_tt h21)) ?_
                refine sx_rd' (rd_move' rfl) rfl rfl (wt_is' (wt_guard' rfl rfl rfl) (beq_tt h21)) ?_
                refine sx_rd' (rd_bin' rfl rfl eg_flt ru_fle) rfl rfl (wt_is' (wt_guard' rfl rfl rfl) (beq_tt h21)) ?_
                refine sx_rd' (rd_pick_true' rfl h21 rfl) rfl rfl (wt_none' rfl) ?_
                refine sx_nil' ?_
                show TX E K49 _
                exact tx_pick' [] (sub_cons rfl (sub_cons rfl (sub_cons rfl (sub_cons rfl (sub_cons rfl (sub_cons rfl (sub_cons rfl (sub_cons rfl (sub_cons rfl (sub_cons rfl sub_nil)))))))))) (by decide) pick_nil (hK49 (fle r25 a2) hp)
              · refine sx_skip' rfl rfl (wt_is' (wt_guard' rfl rfl rfl) (beq_ft h21)) ?_
                refine sx_skip' rfl rfl (wt_is' (wt_guard' rfl rfl rfl) (beq_ft h21)) ?_
                refine sx_skip' rfl rfl (wt_is' (wt_guard' rfl rfl rfl) (beq_ft h21)) ?_
                refine sx_rd' (rd_pick_false' rfl h21 rfl) rfl rfl (wt_none' rfl) ?_
                refine sx_nil' ?_
                show TX E K49 _
                exact tx_pick' [] (sub_cons rfl (sub_cons rfl (sub_cons rfl (sub_cons rfl (sub_cons rfl (sub_cons rfl (sub_cons rfl (sub_cons rfl (sub_cons rfl (sub_cons rfl sub_nil)))))))))) (by decide) pick_nil (hK49 false hp)
          · replace hp := (br_f h20).symm.trans hp
            refine cx_exit' ?_
            replace hp := Option.some.inj hp
            subst hp
            show TX E (Zg E (Exit.exit 2) _ (Exit.exit 2)) _
            exact tx_zend' () rfl [] (sub_cons rfl (sub_cons rfl (sub_cons rfl (sub_cons rfl (sub_cons rfl sub_nil))))) (by decide) pick_nil
        · rcases y2 with v14 | v15
          · dsimp only at hp
            refine zg_out fun w14 => ?_
            replace hp := Option.some.inj hp
            subst hp
            show TX E (Zg E Exit.ret _ Exit.ret) _
            exact tx_zend' () rfl [] (sub_cons rfl sub_nil) (by decide) pick_nil
          · dsimp only at hp
            refine zg_out fun w15 => ?_
            show TX E K30 _
            refine tx_k' hK30 ?_
            refine cx_region' ?_
            refine sx_rd' (rd_bin' rfl rfl eg_int ru_add) rfl rfl (wt_none' rfl) ?_
            refine sx_rd' (rd_move' rfl) rfl rfl (wt_none' rfl) ?_
            refine sx_nil' ?_
            show TX E (KY3 _) _
            exact tx_pick' [] (sub_cons rfl (sub_cons rfl (sub_cons rfl (sub_cons rfl (sub_cons rfl sub_nil))))) (by decide) pick_nil (ih3 (iadd .i64 x11 1) () _ hp)
    · replace hp := (br_f h13).symm.trans hp
      refine cx_exit' ?_
      replace hp := Option.some.inj hp
      subst hp
      show TX E (Zg E (Exit.exit 0) _ (Exit.exit 0)) _
      exact tx_zend' () rfl [] (sub_cons rfl sub_nil) (by decide) pick_nil
  · rcases y3 with v16 | v17
    · dsimp only at hp
      refine zg_out fun w16 => ?_
      replace hp := Option.some.inj hp
      subst hp
      refine tx_pick' (L' := [(6, (Vl (.bool false)))]) (H' := []) [] (sub_cons rfl sub_nil) (by decide) pick_nil ?_
      exact tx_ret1' Tryd.results15 rfl () (rv_tmp' rfl) (List.Sublist.refl _)
    · dsimp only at hp
      refine zg_out fun w17 => ?_
      show TX E K2 _
      refine tx_k' hK2 ?_
      refine cx_seq' fun K52 hK52 => ?_
      refine cx_region' ?_
      refine sx_rd' (rd_move' rfl) rfl rfl (wt_none' rfl) ?_
      refine sx_rd' (rd_bin' rfl rfl eg_int ru_gtr) rfl rfl (wt_none' rfl) ?_
      refine sx_rd' (rd_assign' rfl) rfl rfl (wt_none' rfl) ?_
      refine sx_nil' ?_
      show TX E K52 _
      refine tx_k' hK52 ?_
      refine cx_retc' ?_
      replace hp := Option.some.inj hp
      subst hp
      refine tx_pick' (L' := [(6, (Vl (.bool (decide (0 < a1)))))]) (H' := []) [] (sub_cons rfl sub_nil) (by decide) pick_nil ?_
      exact tx_ret1' Tryd.results15 rfl () (rv_tmp' rfl) (List.Sublist.refl _)

def laws_entries_l1s (a0 : List (Nat × Nat × Nat × Nat × Nat × Nat × Nat × Nat × Nat)) (k : Nat) (rec1 : Int → Option (Unit ⊕ Unit)) (x1 : Int) : Option (Unit ⊕ Unit) :=
  br (decide (x1 < (a0.length : Int)))
    ((idx a0 x1) >>= fun r9 =>
    (spec_Grid k ([[r9.1, r9.2.1, r9.2.2.1, r9.2.2.2.1, r9.2.2.2.2.1, r9.2.2.2.2.2.1, r9.2.2.2.2.2.2.1, r9.2.2.2.2.2.2.2.1, r9.2.2.2.2.2.2.2.2]]) 9 4652218415073722368) >>= fun r13 =>
    br (!r13)
      (some (.inl ()))
      (rec1 (iadd .i64 x1 1)))
    (some (.inr ()))
def laws_entries_l1 (a0 : List (Nat × Nat × Nat × Nat × Nat × Nat × Nat × Nat × Nat)) : Nat → Int → Option (Unit ⊕ Unit)
  | 0, _ => none
  | k + 1, v => laws_entries_l1s a0 k (laws_entries_l1 a0 k) v
def laws_entries (k : Nat) (a0 : List (Nat × Nat × Nat × Nat × Nat × Nat × Nat × Nat × Nat)) : Option (Bool) :=
  (laws_entries_l1 a0 k 0) >>= fun y1 => match y1 with
    | (.inl v2) =>
      (some false)
    | (.inr v3) =>
      (some true)

theorem laws_entries_sim {k : Nat}  (a0 : List (Nat × Nat × Nat × Nat × Nat × Nat × Nat × Nat × Nat)) {out : Bool} (hp : laws_entries k a0 = some out) : Go.Sx.Fn Tryd.prog 6 [(Sl KT24 a0)] [] (fun w : Unit => (Vl (.bool out))) (fun w => []) := by
  unfold laws_entries at hp
  refine fn_of Tryd.func6 rfl Tryd.ntmps6 rfl fun E hM => ?_
  refine cx_seq' fun K1 hK1 => ?_
  refine cx_region' ?_
  refine sx_rd' (rd_assign' rfl) rfl rfl (wt_none' rfl) ?_
  refine sx_nil' ?_
  show TX E K1 _
  refine tx_k' hK1 ?_
  refine cx_seq' fun K2 hK2 => ?_
  refine cx_seq' fun K3 hK3 => ?_
  refine cx_region' ?_
  refine sx_rd' (rd_move' rfl) rfl rfl (wt_none' rfl) ?_
  refine sx_rd' (rd_len' rfl Tryd.underlying38) rfl rfl (wt_none' rfl) ?_
  refine sx_rd' (rd_move' rfl) rfl rfl (wt_none' rfl) ?_
  refine sx_nil' ?_
  show TX E K3 _
  refine tx_k' hK3 ?_
  refine cx_block' ?_
  obtain ⟨y1, hy1, hp⟩ := bind_some hp
  refine cx_loopg' (F := laws_entries_l1 a0) (G := fun k R v => laws_entries_l1s a0 k R v) (x := 0) (gh := ()) (fun (v1 : Int) (w1 : Unit) => (⟨16, [], [(5, (Sl KT24 a0)), (6, (Vl (.int .i64 (a0.length : Int)))), (7, (Vl (.int .i64 v1)))], []⟩ : St)) (fun (y : Unit ⊕ Unit) => match y with | (.inl v2) => Zg E Exit.ret (fun (w2 : Unit) => (⟨16, [], [(2, (Vl (.bool false)))], []⟩ : St)) | (.inr v3) => Zg E (Exit.exit 0) (fun (w3 : Unit) => (⟨16, [], [], []⟩ : St))) (fun _ => rfl) (fun _ _ => rfl) ?_ hy1 (tx_to' rfl [] (sub_cons rfl (sub_cons rfl (sub_cons rfl sub_nil))) (by decide) pick_nil) ?_
  · clear hp hy1
    clear y1
    intro k rec1 KY1 ih1
    rintro x1 ⟨⟩ y1 hp
    replace hp : laws_entries_l1s a0 k rec1 x1 = some y1 := hp
    unfold laws_entries_l1s at hp
    refine cx_seq' fun K10 hK10 => ?_
    refine cx_region' ?_
    refine sx_rd' (rd_bin' rfl rfl eg_int ru_lss) rfl rfl (wt_none' rfl) ?_
    refine sx_nil' ?_
    show TX E K10 _
    refine tx_k' hK10 ?_
    refine cx_seq' fun K11 hK11 => ?_
    refine cx_cond' rfl (fun h4 => ?_) (fun h4 => ?_)
    · replace hp := (br_t h4).symm.trans hp
      refine cx_skip' ?_
      show TX E K11 _
      refine tx_k' hK11 ?_
      refine cx_seq' fun K12 hK12 => ?_
      refine cx_block' ?_
      refine cx_seq' fun K13 hK13 => ?_
      refine cx_region' ?_
      obtain ⟨r9, hr9, hp⟩ := bind_some hp
      refine sx_rd' (rd_at' (K := KT24) rfl rfl hr9 Tryd.underlying38 info24) rfl rfl (wt_none' rfl) ?_
      refine sx_rd' (rd_load_pt_agg' (nn := 9) rfl rfl agg24 (l' := [(Vl (.float .f64 r9.1)), (Vl (.float .f64 r9.2.1)), (Vl (.float .f64 r9.2.2.1)), (Vl (.float .f64 r9.2.2.2.1)), (Vl (.float .f64 r9.2.2.2.2.1)), (Vl (.float .f64 r9.2.2.2.2.2.1)), (Vl (.float .f64 r9.2.2.2.2.2.2.1)), (Vl (.float .f64 r9.2.2.2.2.2.2.2.1)), (Vl (.float .f64 r9.2.2.2.2.2.2.2.2))]) rfl) rfl rfl (wt_none' rfl) ?_
      refine sx_ox' (ox_alloc' info24 rfl rfl rfl rfl (l := [(Vl (.float .f64 0)), (Vl (.float .f64 0)), (Vl (.float .f64 0)), (Vl (.float .f64 0)), (Vl (.float .f64 0)), (Vl (.float .f64 0)), (Vl (.float .f64 0)), (Vl (.float .f64 0)), (Vl (.float .f64 0))]) rfl) (wt_none' rfl) fun q4 => ?_
      refine tx_arr' (K := Kf) (xs := [0, 0, 0, 0, 0, 0, 0, 0, 0]) (m := 9) (i := 0) rfl rfl rfl (H' := [(Rw Kf 24 (Vs (some q4, 9, 9)) ([0, 0, 0, 0, 0, 0, 0, 0, 0]))]) rfl ?_
      refine sx_ox' (ox_storearr' (K := Kf) (m := 0) (xs' := [r9.1, r9.2.1, r9.2.2.1, r9.2.2.2.1, r9.2.2.2.2.1, r9.2.2.2.2.2.1, r9.2.2.2.2.2.2.1, r9.2.2.2.2.2.2.2.1, r9.2.2.2.2.2.2.2.2]) rfl rfl (lv_ag _) rfl rfl rfl rfl rfl info24 rfl (H' := [(Rw Kf 24 (Vs (some q4, 9, 9)) ([r9.1, r9.2.1, r9.2.2.1, r9.2.2.2.1, r9.2.2.2.2.1, r9.2.2.2.2.2.1, r9.2.2.2.2.2.2.1, r9.2.2.2.2.2.2.2.1, r9.2.2.2.2.2.2.2.2]))]) rfl) (wt_none' rfl) fun _ => ?_
      refine sx_nil' ?_
      show TX E K13 _
      refine tx_k' hK13 ?_
      refine cx_seq' fun K14 hK14 => ?_
      refine cx_region' ?_
      refine sx_rd' (rd_cut_arr' (q := q4) rfl Tryd.underlying24 info22) rfl rfl (wt_none' rfl) ?_
      refine tx_fz' (frz_row 0 [(11, (Vl (Vs (some q4, 9, 9))), (Sl Kf ([r9.1, r9.2.1, r9.2.2.1, r9.2.2.2.1, r9.2.2.2.2.1, r9.2.2.2.2.2.1, r9.2.2.2.2.2.2.1, r9.2.2.2.2.2.2.2.1, r9.2.2.2.2.2.2.2.2])))] (K := Kf) (xs := [r9.1, r9.2.1, r9.2.2.1, r9.2.2.2.1, r9.2.2.2.2.1, r9.2.2.2.2.2.1, r9.2.2.2.2.2.2.1, r9.2.2.2.2.2.2.2.1, r9.2.2.2.2.2.2.2.2]) (by decide) rfl ⟨⟨rfl, frz_it⟩, trivial⟩ (H' := []) frzH_refl) ?_
      refine sx_ox' (ox_rowlit' (K := (Kl Kf)) (xs := [[r9.1, r9.2.1, r9.2.2.1, r9.2.2.2.1, r9.2.2.2.2.1, r9.2.2.2.2.2.1, r9.2.2.2.2.2.2.1, r9.2.2.2.2.2.2.2.1, r9.2.2.2.2.2.2.2.2]]) (qs := [(0, [(Sl Kf ([r9.1, r9.2.1, r9.2.2.1, r9.2.2.2.1, r9.2.2.2.2.1, r9.2.2.2.2.2.1, r9.2.2.2.2.2.2.1, r9.2.2.2.2.2.2.2.1, r9.2.2.2.2.2.2.2.2]))])]) ⟨rfl, ⟨_, rfl, (lv_sl _ _)⟩, trivial⟩ Tryd.underlying41 info40 rfl rfl rfl rfl rfl (by kernel_rfl) rfl rfl rfl) (wt_none' rfl) fun g12 => ?_
      obtain ⟨r13, hr13, hp⟩ := bind_some hp
      refine sx_ox' (ox_brw' (frz_row 0 [(12, (Vl (Vs g12)), (Sl (Kl Kf) ([[r9.1, r9.2.1, r9.2.2.1, r9.2.2.2.1, r9.2.2.2.2.1, r9.2.2.2.2.2.1, r9.2.2.2.2.2.2.1, r9.2.2.2.2.2.2.2.1, r9.2.2.2.2.2.2.2.2]])))] (K := (Kl Kf)) (xs := [[r9.1, r9.2.1, r9.2.2.1, r9.2.2.2.1, r9.2.2.2.2.1, r9.2.2.2.2.2.1, r9.2.2.2.2.2.2.1, r9.2.2.2.2.2.2.2.1, r9.2.2.2.2.2.2.2.2]]) (by decide) rfl ⟨⟨rfl, frz_it⟩, trivial⟩ (H' := []) frzH_refl) (ent_fn' Tryd.func15 isn15 rfl rfl) (spec_Grid_sim _ _ _ hr13 : Go.Sx.Fn Tryd.prog 15 [(Sl (Kl Kf) ([[r9.1, r9.2.1, r9.2.2.1, r9.2.2.2.1, r9.2.2.2.2.1, r9.2.2.2.2.2.1, r9.2.2.2.2.2.2.1, r9.2.2.2.2.2.2.2.1, r9.2.2.2.2.2.2.2.2]])), (Vl (.int .i64 9)), (Vl (.float .f64 4652218415073722368))] [] (fun x : Unit => (Vl (.bool r13))) (fun x => [])) pu_vl rfl rfl) (wt_none' rfl) fun ⟨⟩ => ?_
      refine sx_rd' (rd_un' rfl ru_not) rfl rfl (wt_none' rfl) ?_
      refine sx_nil' ?_
      show TX E K14 _
      refine tx_k' hK14 ?_
      refine cx_cond' rfl (fun h5 => ?_) (fun h5 => ?_)
      · replace hp := (br_t h5).symm.trans hp
        refine cx_seq' fun K15 hK15 => ?_
        refine cx_region' ?_
        refine sx_rd' (rd_assign' rfl) rfl rfl (wt_none' rfl) ?_
        refine sx_nil' ?_
        show TX E K15 _
        refine tx_k' hK15 ?_
        refine cx_retc' ?_
        replace hp := Option.some.inj hp
        subst hp
        show TX E (Zg E Exit.ret _ Exit.ret) _
        exact tx_zend' () rfl [] (sub_cons rfl sub_nil) (by decide) pick_nil
      · replace hp := (br_f h5).symm.trans hp
        refine cx_skip' ?_
        show TX E K12 _
        refine tx_k' hK12 ?_
        refine cx_region' ?_
        refine sx_rd' (rd_bin' rfl rfl eg_int ru_add) rfl rfl (wt_none' rfl) ?_
        refine sx_rd' (rd_move' rfl) rfl rfl (wt_none' rfl) ?_
        refine sx_nil' ?_
        show TX E (KY1 _) _
        exact tx_pick' [] (sub_cons rfl (sub_cons rfl (sub_cons rfl sub_nil))) (by decide) pick_nil (ih1 (iadd .i64 x1 1) () _ hp)
    · replace hp := (br_f h4).symm.trans hp
      refine cx_exit' ?_
      replace hp := Option.some.inj hp
      subst hp
      show TX E (Zg E (Exit.exit 0) _ (Exit.exit 0)) _
      exact tx_zend' () rfl [] sub_nil (by decide) pick_nil
  · rcases y1 with v2 | v3
    · dsimp only at hp
      refine zg_out fun w2 => ?_
      replace hp := Option.some.inj hp
      subst hp
      refine tx_pick' (L' := [(2, (Vl (.bool false)))]) (H' := []) [] (sub_cons rfl sub_nil) (by decide) pick_nil ?_
      exact tx_ret1' Tryd.results6 rfl () (rv_tmp' rfl) (List.Sublist.refl _)
    · dsimp only at hp
      refine zg_out fun w3 => ?_
      show TX E K2 _
      refine tx_k' hK2 ?_
      refine cx_seq' fun K16 hK16 => ?_
      refine cx_region' ?_
      refine sx_rd' (rd_assign' rfl) rfl rfl (wt_none' rfl) ?_
      refine sx_nil' ?_
      show TX E K16 _
      refine tx_k' hK16 ?_
      refine cx_retc' ?_
      replace hp := Option.some.inj hp
      subst hp
      refine tx_pick' (L' := [(2, (Vl (.bool true)))]) (H' := []) [] (sub_cons rfl sub_nil) (by decide) pick_nil ?_
      exact tx_ret1' Tryd.results6 rfl () (rv_tmp' rfl) (List.Sublist.refl _)

def impl_floats (k : Nat) (a0 : List Nat) : Option ((List Nat)) :=
  (apd 8 [] a0) >>= fun r4 =>
  some r4

theorem impl_floats_sim {k : Nat}  (a0 : List Nat) {out : (List Nat)} (hp : impl_floats k a0 = some out) : Go.Sx.Fn Tryd.prog 35 [(Sl Kf a0)] [] (fun w : Gs => (Vl (Vs w))) (fun w => [(Rw Kf 22 (Vs w) out)]) := by
  unfold impl_floats at hp
  refine fn_of Tryd.func35 rfl Tryd.ntmps35 rfl fun E hM => ?_
  refine cx_seq' fun K1 hK1 => ?_
  refine cx_region' ?_
  refine sx_rd' (rd_assign' rfl) rfl rfl (wt_none' rfl) ?_
  refine sx_nil' ?_
  show TX E K1 _
  refine tx_k' hK1 ?_
  refine cx_seq' fun K2 hK2 => ?_
  refine cx_region' ?_
  refine sx_rd' (rd_move' rfl) rfl rfl (wt_none' rfl) ?_
  refine tx_nilrow' Kf 22 ?_
  obtain ⟨r4, hr4, hp⟩ := bind_some hp
  refine sx_ox' (ox_append' (K := Kf) (i := 0) (xs := []) (ys := a0) rfl rfl rfl (sr_sl' rfl Tryd.underlying40) hr4 Tryd.underlying40 info22 rfl rfl rfl (H' := []) rfl) (wt_none' rfl) fun g4 => ?_
  refine sx_rd' (rd_assign' rfl) rfl rfl (wt_none' rfl) ?_
  refine sx_nil' ?_
  show TX E K2 _
  refine tx_k' hK2 ?_
  refine cx_retc' ?_
  replace hp := Option.some.inj hp
  subst hp
  refine tx_pick' (L' := [(2, (Vl (Vs g4)))]) (H' := [(Rw Kf 22 (Vs g4) r4)]) [0] (sub_cons rfl sub_nil) (by decide) (pick_cons rfl pick_nil) ?_
  exact tx_ret1' Tryd.results35 rfl g4 (rv_tmp' rfl) (List.Sublist.refl _)

def r3_arrayFrom (k : Nat) (a0 : List Nat) : Option ((List Nat)) :=
  (need 9 a0) >>= fun z1 =>
  some a0

theorem r3_arrayFrom_sim {k : Nat} {wa0 : Gs} (a0 : List Nat) {out : (List Nat)} (hp : r3_arrayFrom k a0 = some out) : Go.Sx.Fn Tryd.prog 43 [(Vl (Vs wa0))] [(Rw Kf 22 (Vs wa0) a0)] (fun w : Unit => (Vl (.pointer (wa0).1))) (fun w => [(Rw Kf 22 (Vs wa0) out)]) := by
  unfold r3_arrayFrom at hp
  refine fn_of Tryd.func43 rfl Tryd.ntmps43 rfl fun E hM => ?_
  refine cx_seq' fun K1 hK1 => ?_
  refine cx_region' ?_
  refine sx_rd' (rd_assign' rfl) rfl rfl (wt_none' rfl) ?_
  refine sx_nil' ?_
  show TX E K1 _
  refine tx_k' hK1 ?_
  refine cx_seq' fun K2 hK2 => ?_
  refine cx_region' ?_
  refine sx_rd' (rd_move' rfl) rfl rfl (wt_none' rfl) ?_
  obtain ⟨z1, hz1, hp⟩ := bind_some hp
  refine sx_rd' (rd_s2a' (m := 0) rfl rfl rfl (need_some hz1) rfl Tryd.underlying77) rfl rfl (wt_none' rfl) ?_
  refine sx_rd' (rd_assign' rfl) rfl rfl (wt_none' rfl) ?_
  refine sx_nil' ?_
  show TX E K2 _
  refine tx_k' hK2 ?_
  refine cx_retc' ?_
  replace hp := Option.some.inj hp
  subst hp
  refine tx_pick' (L' := [(2, (Vl (.pointer (wa0).1)))]) (H' := [(Rw Kf 22 (Vs wa0) a0)]) [0] (sub_cons rfl sub_nil) (by decide) (pick_cons rfl pick_nil) ?_
  exact tx_ret1' Tryd.results43 rfl () (rv_tmp' rfl) (List.Sublist.refl _)

def r3_NewMat (k : Nat) (a0 : List Nat) : Option ((List Nat)) :=
  br (decide ((a0.length : Int) = 9))
    ((r3_arrayFrom k a0) >>= fun r7 =>
    some r7)
    (none)

theorem r3_NewMat_sim {k : Nat} {wa0 : Gs} (a0 : List Nat) {out : (List Nat)} (hp : r3_NewMat k a0 = some out) : Go.Sx.Fn Tryd.prog 34 [(Vl (Vs wa0))] [(Rw Kf 22 (Vs wa0) a0)] (fun w : Addr => (Vl (.pointer (some w)))) (fun w => [(Rw Kf 22 (Vs wa0) out), ⟨.pointer (some w), [(Vl (.pointer (wa0).1))], 48, none⟩]) := by
  unfold r3_NewMat at hp
  refine fn_of Tryd.func34 rfl Tryd.ntmps34 rfl fun E hM => ?_
  refine cx_seq' fun K1 hK1 => ?_
  refine cx_region' ?_
  refine sx_rd' (rd_assign' rfl) rfl rfl (wt_none' rfl) ?_
  refine sx_nil' ?_
  show TX E K1 _
  refine tx_k' hK1 ?_
  refine cx_seq' fun K2 hK2 => ?_
  refine cx_seq' fun K3 hK3 => ?_
  refine cx_region' ?_
  refine sx_rd' (rd_move' rfl) rfl rfl (wt_none' rfl) ?_
  refine sx_rd' (rd_lenr' (i := 0) rfl rfl rfl Tryd.underlying40) rfl rfl (wt_none' rfl) ?_
  refine sx_rd' (rd_bin' rfl rfl eg_int ru_eql) rfl rfl (wt_none' rfl) ?_
  refine sx_nil' ?_
  show TX E K3 _
  refine tx_k' hK3 ?_
  refine cx_cond' rfl (fun h1 => ?_) (fun h1 => ?_)
  · replace hp := (br_t h1).symm.trans hp
    refine cx_seq' fun K4 hK4 => ?_
    refine cx_region' ?_
    refine sx_rd' (rd_move' rfl) rfl rfl (wt_none' rfl) ?_
    obtain ⟨r7, hr7, hp⟩ := bind_some hp
    refine sx_ox' (ox_callg' (ent_fn' Tryd.func43 isn43 rfl rfl) (r3_arrayFrom_sim _ hr7 : Go.Sx.Fn Tryd.prog 43 [(Vl (Vs wa0))] [(Rw Kf 22 (Vs wa0) a0)] (fun x : Unit => (Vl (.pointer (wa0).1))) (fun x => [(Rw Kf 22 (Vs wa0) r7)])) [0] [] (by decide) (pick_cons rfl pick_nil) pick_nil (Hn := fun x : Unit => [(Rw Kf 22 (Vs wa0) r7)]) (fun _ => rfl) rfl rfl) (wt_none' rfl) fun ⟨⟩ => ?_
    refine sx_rd' (rd_build' (pls := [(0, 1)]) (qs := [(0, [(Vl (.pointer (wa0).1))])]) (r := [(Vl (.pointer (wa0).1))]) ⟨rfl, ⟨_, rfl, (lv_vl rfl rfl)⟩, trivial⟩ Tryd.underlying48 has48 places48 info48 rfl rfl rfl) rfl rfl (wt_none' rfl) ?_
    refine sx_ox' (ox_box' rfl (lv_ag _) rfl rfl) (wt_none' rfl) fun q9 => ?_
    refine sx_rd' (rd_assign' rfl) rfl rfl (wt_none' rfl) ?_
    refine sx_nil' ?_
    show TX E K4 _
    refine tx_k' hK4 ?_
    refine cx_retc' ?_
    replace hp := Option.some.inj hp
    subst hp
    refine tx_pick' (L' := [(2, (Vl (.pointer (some q9))))]) (H' := [(Rw Kf 22 (Vs wa0) r7), ⟨.pointer (some q9), [(Vl (.pointer (wa0).1))], 48, none⟩]) [1, 0] (sub_cons rfl sub_nil) (by decide) (pick_cons rfl (pick_cons rfl pick_nil)) ?_
    exact tx_ret1' Tryd.results34 rfl q9 (rv_tmp' rfl) (List.Sublist.refl _)
  · replace hp := (br_f h1).symm.trans hp
    cases hp

def impl_mat (k : Nat) (a0_0 : Nat) (a0_1 : Nat) (a0_2 : Nat) (a0_3 : Nat) (a0_4 : Nat) (a0_5 : Nat) (a0_6 : Nat) (a0_7 : Nat) (a0_8 : Nat) : Option ((List Nat)) :=
  (impl_floats k ([a0_0, a0_1, a0_2, a0_3, a0_4, a0_5, a0_6, a0_7, a0_8])) >>= fun r4 =>
  (r3_NewMat k r4) >>= fun r5 =>
  some r5

theorem impl_mat_sim {k : Nat}  (a0_0 : Nat) (a0_1 : Nat) (a0_2 : Nat) (a0_3 : Nat) (a0_4 : Nat) (a0_5 : Nat) (a0_6 : Nat) (a0_7 : Nat) (a0_8 : Nat) {out : (List Nat)} (hp : impl_mat k a0_0 a0_1 a0_2 a0_3 a0_4 a0_5 a0_6 a0_7 a0_8 = some out) : Go.Sx.Fn Tryd.prog 17 [(Ag [(Vl (.float .f64 a0_0)), (Vl (.float .f64 a0_1)), (Vl (.float .f64 a0_2)), (Vl (.float .f64 a0_3)), (Vl (.float .f64 a0_4)), (Vl (.float .f64 a0_5)), (Vl (.float .f64 a0_6)), (Vl (.float .f64 a0_7)), (Vl (.float .f64 a0_8))])] [] (fun w : Addr × Gs => (Vl (.pointer (some w.1)))) (fun w => [⟨.pointer (some w.1), [(Vl (.pointer (w.2).1))], 48, none⟩, (Rw Kf 22 (Vs w.2) out)]) := by
  unfold impl_mat at hp
  refine fn_of Tryd.func17 rfl Tryd.ntmps17 rfl fun E hM => ?_
  refine cx_seq' fun K1 hK1 => ?_
  refine cx_region' ?_
  refine sx_ox' (ox_box' rfl (lv_ag _) rfl rfl) (wt_none' rfl) fun q1 => ?_
  refine tx_arr' (K := Kf) (xs := [a0_0, a0_1, a0_2, a0_3, a0_4, a0_5, a0_6, a0_7, a0_8]) (m := 9) (i := 0) rfl rfl rfl (H' := [(Rw Kf 24 (Vs (some q1, 9, 9)) ([a0_0, a0_1, a0_2, a0_3, a0_4, a0_5, a0_6, a0_7, a0_8]))]) rfl ?_
  refine sx_rd' (rd_assign' rfl) rfl rfl (wt_none' rfl) ?_
  refine sx_nil' ?_
  show TX E K1 _
  refine tx_k' hK1 ?_
  refine cx_seq' fun K2 hK2 => ?_
  refine cx_region' ?_
  refine sx_rd' (rd_cut_arr' (q := q1) rfl Tryd.underlying24 info22) rfl rfl (wt_none' rfl) ?_
  refine tx_fz' (frz_row 0 [(3, (Vl (Vs (some q1, 9, 9))), (Sl Kf ([a0_0, a0_1, a0_2, a0_3, a0_4, a0_5, a0_6, a0_7, a0_8])))] (K := Kf) (xs := [a0_0, a0_1, a0_2, a0_3, a0_4, a0_5, a0_6, a0_7, a0_8]) (by decide) rfl ⟨⟨rfl, frz_it⟩, trivial⟩ (H' := []) frzH_refl) ?_
  obtain ⟨r4, hr4, hp⟩ := bind_some hp
  refine sx_ox' (ox_calln' (ent_fn' Tryd.func35 isn35 rfl rfl) (impl_floats_sim _ hr4 : Go.Sx.Fn Tryd.prog 35 [(Sl Kf ([a0_0, a0_1, a0_2, a0_3, a0_4, a0_5, a0_6, a0_7, a0_8]))] [] (fun x : Gs => (Vl (Vs x))) (fun x => [(Rw Kf 22 (Vs x) r4)])) (Hn := fun x : Gs => [(Rw Kf 22 (Vs x) r4)]) (fun _ => rfl) rfl rfl) (wt_none' rfl) fun g4 => ?_
  obtain ⟨r5, hr5, hp⟩ := bind_some hp
  refine sx_ox' (ox_callg' (ent_fn' Tryd.func34 isn34 rfl rfl) (r3_NewMat_sim _ hr5 : Go.Sx.Fn Tryd.prog 34 [(Vl (Vs g4))] [(Rw Kf 22 (Vs g4) r4)] (fun x : Addr => (Vl (.pointer (some x)))) (fun x => [(Rw Kf 22 (Vs g4) r5), ⟨.pointer (some x), [(Vl (.pointer (g4).1))], 48, none⟩])) [0] [] (by decide) (pick_cons rfl pick_nil) pick_nil (Hn := fun x : Addr => [(Rw Kf 22 (Vs g4) r5), ⟨.pointer (some x), [(Vl (.pointer (g4).1))], 48, none⟩]) (fun _ => rfl) rfl rfl) (wt_none' rfl) fun q5 => ?_
  refine sx_rd' (rd_assign' rfl) rfl rfl (wt_none' rfl) ?_
  refine sx_nil' ?_
  show TX E K2 _
  refine tx_k' hK2 ?_
  refine cx_retc' ?_
  replace hp := Option.some.inj hp
  subst hp
  refine tx_pick' (L' := [(2, (Vl (.pointer (some q5))))]) (H' := [⟨.pointer (some q5), [(Vl (.pointer (g4).1))], 48, none⟩, (Rw Kf 22 (Vs g4) r5)]) [1, 0] (sub_cons rfl sub_nil) (by decide) (pick_cons rfl (pick_cons rfl pick_nil)) ?_
  exact tx_ret1' Tryd.results17 rfl (q5, g4) (rv_tmp' rfl) (List.Sublist.refl _)

def r3_Mat_Dims (k : Nat) (a0_0 : List Nat) : Option ((List Nat) × Int) :=
  some (a0_0, 3)

theorem r3_Mat_Dims_sim {k : Nat} {wa0 : Addr} {wa0_0 : Gs} (a0_0 : List Nat) {out : (List Nat) × Int} (hp : r3_Mat_Dims k a0_0 = some out) : Go.Sx.Fn Tryd.prog 69 [(Vl (.pointer (some wa0)))] [⟨.pointer (some wa0), [(Vl (.pointer (wa0_0).1))], 48, none⟩, (Rw Kf 22 (Vs wa0_0) a0_0)] (fun w : Unit => (Tu [(Vl (.int .i64 out.2)), (Vl (.int .i64 out.2))])) (fun w => [⟨.pointer (some wa0), [(Vl (.pointer (wa0_0).1))], 48, none⟩, (Rw Kf 22 (Vs wa0_0) out.1)]) := by
  unfold r3_Mat_Dims at hp
  refine fn_of Tryd.func69 rfl Tryd.ntmps69 rfl fun E hM => ?_
  refine cx_seq' fun K1 hK1 => ?_
  refine cx_region' ?_
  refine sx_rd' (rd_assign' rfl) rfl rfl (wt_none' rfl) ?_
  refine sx_rd' (rd_assign' rfl) rfl rfl (wt_none' rfl) ?_
  refine sx_nil' ?_
  show TX E K1 _
  refine tx_k' hK1 ?_
  refine cx_seq' fun K2 hK2 => ?_
  refine cx_region' ?_
  refine sx_rd' (rd_assign' rfl) rfl rfl (wt_none' rfl) ?_
  refine sx_rd' (rd_assign' rfl) rfl rfl (wt_none' rfl) ?_
  refine sx_nil' ?_
  show TX E K2 _
  refine tx_k' hK2 ?_
  refine cx_retc' ?_
  replace hp := Option.some.inj hp
  subst hp
  refine tx_pick' (L' := [(2, (Vl (.int .i64 3))), (3, (Vl (.int .i64 3)))]) (H' := [⟨.pointer (some wa0), [(Vl (.pointer (wa0_0).1))], 48, none⟩, (Rw Kf 22 (Vs wa0_0) a0_0)]) [0, 1] (sub_cons rfl (sub_cons rfl sub_nil)) (by decide) (pick_cons rfl (pick_cons rfl pick_nil)) ?_
  exact tx_ret2' Tryd.results69 rfl () (rv_tmp' rfl) (rv_tmp' rfl) rfl (List.Sublist.refl _)

def r3_Mat_At (k : Nat) (a0_0 : List Nat) (a1 : Int) (a2 : Int) : Option ((List Nat) × Nat) :=
  br (decide (2 < (icv .u64 a1)))
    (none)
    (br (decide (2 < (icv .u64 a2)))
      (none)
      ((need 1 a0_0) >>= fun z1 =>
      (need 1 a0_0) >>= fun z2 =>
      (idxn 9 a0_0 (iadd .i64 (imul .i64 a1 3) a2)) >>= fun r35 =>
      some (a0_0, r35)))

theorem r3_Mat_At_sim {k : Nat} {wa0 : Addr} {wa0_0 : Gs} (a0_0 : List Nat) (a1 : Int) (a2 : Int) {out : (List Nat) × Nat} (hp : r3_Mat_At k a0_0 a1 a2 = some out) : Go.Sx.Fn Tryd.prog 36 [(Vl (.pointer (some wa0))), (Vl (.int .i64 a1)), (Vl (.int .i64 a2))] [⟨.pointer (some wa0), [(Vl (.pointer (wa0_0).1))], 48, none⟩, (Rw Kf 22 (Vs wa0_0) a0_0)] (fun w : Unit => (Vl (.float .f64 out.2))) (fun w => [⟨.pointer (some wa0), [(Vl (.pointer (wa0_0).1))], 48, none⟩, (Rw Kf 22 (Vs wa0_0) out.1)]) := by
  unfold r3_Mat_At at hp
  refine fn_of Tryd.func36 rfl Tryd.ntmps36 rfl fun E hM => ?_
  refine cx_seq' fun K1 hK1 => ?_
  refine cx_region' ?_
  refine sx_rd' (rd_assign' rfl) rfl rfl (wt_none' rfl) ?_
  refine sx_nil' ?_
  show TX E K1 _
  refine tx_k' hK1 ?_
  refine cx_seq' fun K2 hK2 => ?_
  refine cx_seq' fun K3 hK3 => ?_
  refine cx_region' ?_
  refine sx_rd' (rd_move' rfl) rfl rfl (wt_none' rfl) ?_
  refine sx_rd' (rd_conv' rfl (ru_i2i (by rw [Tryd.underlying3]; rfl) Tryd.underlying82)) rfl rfl (wt_none' rfl) ?_
  refine sx_rd' (rd_bin' rfl rfl eg_int ru_gtr) rfl rfl (wt_none' rfl) ?_
  refine sx_nil' ?_
  show TX E K3 _
  refine tx_k' hK3 ?_
  refine cx_cond' rfl (fun h1 => ?_) (fun h1 => ?_)
  · replace hp := (br_t h1).symm.trans hp
    cases hp
  · replace hp := (br_f h1).symm.trans hp
    refine cx_skip' ?_
    show TX E K2 _
    refine tx_k' hK2 ?_
    refine cx_seq' fun K4 hK4 => ?_
    refine cx_seq' fun K5 hK5 => ?_
    refine cx_region' ?_
    refine sx_rd' (rd_move' rfl) rfl rfl (wt_none' rfl) ?_
    refine sx_rd' (rd_conv' rfl (ru_i2i (by rw [Tryd.underlying3]; rfl) Tryd.underlying82)) rfl rfl (wt_none' rfl) ?_
    refine sx_rd' (rd_bin' rfl rfl eg_int ru_gtr) rfl rfl (wt_none' rfl) ?_
    refine sx_nil' ?_
    show TX E K5 _
    refine tx_k' hK5 ?_
    refine cx_cond' rfl (fun h2 => ?_) (fun h2 => ?_)
    · replace hp := (br_t h2).symm.trans hp
      cases hp
    · replace hp := (br_f h2).symm.trans hp
      refine cx_skip' ?_
      show TX E K4 _
      refine tx_k' hK4 ?_
      refine cx_seq' fun K6 hK6 => ?_
      refine cx_seq' fun K7 hK7 => ?_
      refine cx_region' ?_
      refine sx_rd' (rd_move' rfl) rfl rfl (wt_none' rfl) ?_
      refine sx_rd' (rd_nilck' rfl) rfl rfl (wt_none' rfl) ?_
      refine sx_rd' (rd_field0' rfl Tryd.underlying48 rfl info46 rfl) rfl rfl (wt_none' rfl) ?_
      refine sx_rd' (rd_load' (i := 0) (o := 0) rfl ⟨rfl, rfl, rfl, rfl⟩ rfl flat46) rfl rfl (wt_none' rfl) ?_
      obtain ⟨z1, hz1, hp⟩ := bind_some hp
      refine sx_rd' (rd_pa_nil' (m := 1) rfl rfl rfl rfl (need_some hz1) (fun _ _ => by kernel_rfl) nil_eql46_ptr) rfl rfl (wt_none' rfl) ?_
      refine sx_nil' ?_
      show TX E K7 _
      refine tx_k' hK7 ?_
      refine cx_cond_f' rfl rfl ?_
      refine cx_skip' ?_
      show TX E K6 _
      refine tx_k' hK6 ?_
      refine cx_seq' fun K8 hK8 => ?_
      refine cx_region' ?_
      refine sx_rd' (rd_move' rfl) rfl rfl (wt_none' rfl) ?_
      refine sx_rd' (rd_nilck' rfl) rfl rfl (wt_none' rfl) ?_
      refine sx_rd' (rd_field0' rfl Tryd.underlying48 rfl info46 rfl) rfl rfl (wt_none' rfl) ?_
      refine sx_rd' (rd_load' (i := 0) (o := 0) rfl ⟨rfl, rfl, rfl, rfl⟩ rfl flat46) rfl rfl (wt_none' rfl) ?_
      refine sx_rd' (rd_move' rfl) rfl rfl (wt_none' rfl) ?_
      refine sx_rd' (rd_bin' rfl rfl eg_int ru_mul) rfl rfl (wt_none' rfl) ?_
      refine sx_rd' (rd_move' rfl) rfl rfl (wt_none' rfl) ?_
      refine sx_rd' (rd_bin' rfl rfl eg_int ru_add) rfl rfl (wt_none' rfl) ?_
      obtain ⟨z2, hz2, hp⟩ := bind_some hp
      refine sx_rd' (rd_nilck_pa' (m := 1) rfl rfl rfl (need_some hz2)) rfl rfl (wt_none' rfl) ?_
      obtain ⟨r35, hr35, hp⟩ := bind_some hp
      refine sx_rd' (rd_atarr' (m := 1) rfl rfl rfl rfl hr35 Tryd.underlying77 info22) rfl rfl (wt_none' rfl) ?_
      refine sx_rd' (rd_loadr' rfl (m := 1) (i := (iadd .i64 (imul .i64 a1 3) a2)) (j := 0) rfl rfl (idxn_some hr35).2 rfl rfl flat22) rfl rfl (wt_none' rfl) ?_
      refine sx_rd' (rd_assign' rfl) rfl rfl (wt_none' rfl) ?_
      refine sx_nil' ?_
      show TX E K8 _
      refine tx_k' hK8 ?_
      refine cx_retc' ?_
      replace hp := Option.some.inj hp
      subst hp
      refine tx_pick' (L' := [(6, (Vl (.float .f64 r35)))]) (H' := [⟨.pointer (some wa0), [(Vl (.pointer (wa0_0).1))], 48, none⟩, (Rw Kf 22 (Vs wa0_0) a0_0)]) [0, 1] (sub_cons rfl sub_nil) (by decide) (pick_cons rfl (pick_cons rfl pick_nil)) ?_
      exact tx_ret1' Tryd.results36 rfl () (rv_tmp' rfl) (List.Sublist.refl _)

def r3_Mat_Set (k : Nat) (a0_0 : List Nat) (a1 : Int) (a2 : Int) (a3 : Nat) : Option ((List Nat)) :=
  br (decide (2 < (icv .u64 a1)))
    (none)
    (br (decide (2 < (icv .u64 a2)))
      (none)
      ((need 1 a0_0) >>= fun z1 =>
      (idxn 9 a0_0 (iadd .i64 (imul .i64 a1 3) a2)) >>= fun r37 =>
      some (a0_0.set (iadd .i64 (imul .i64 a1 3) a2).toNat a3)))

theorem r3_Mat_Set_sim {k : Nat} {wa0 : Addr} {wa0_0 : Addr} (a0_0 : List Nat) (a1 : Int) (a2 : Int) (a3 : Nat) {out : (List Nat)} (hp : r3_Mat_Set k a0_0 a1 a2 a3 = some out) : Go.Sx.Fn Tryd.prog 37 [(Vl (.pointer (some wa0))), (Vl (.int .i64 a1)), (Vl (.int .i64 a2)), (Vl (.float .f64 a3))] [⟨.pointer (some wa0), [(Vl (.pointer ((some wa0_0, 9, 9)).1))], 48, none⟩, (Rw Kf 77 (Vs (some wa0_0, 9, 9)) a0_0)] (fun w : Unit => (Vl (.tuple #[]))) (fun w => [⟨.pointer (some wa0), [(Vl (.pointer ((some wa0_0, 9, 9)).1))], 48, none⟩, (Rw Kf 77 (Vs (some wa0_0, 9, 9)) out)]) := by
  unfold r3_Mat_Set at hp
  refine fn_of Tryd.func37 rfl Tryd.ntmps37 rfl fun E hM => ?_
  refine cx_seq' fun K1 hK1 => ?_
  refine cx_seq' fun K2 hK2 => ?_
  refine cx_region' ?_
  refine sx_rd' (rd_move' rfl) rfl rfl (wt_none' rfl) ?_
  refine sx_rd' (rd_conv' rfl (ru_i2i (by rw [Tryd.underlying3]; rfl) Tryd.underlying82)) rfl rfl (wt_none' rfl) ?_
  refine sx_rd' (rd_bin' rfl rfl eg_int ru_gtr) rfl rfl (wt_none' rfl) ?_
  refine sx_nil' ?_
  show TX E K2 _
  refine tx_k' hK2 ?_
  refine cx_cond' rfl (fun h1 => ?_) (fun h1 => ?_)
  · replace hp := (br_t h1).symm.trans hp
    cases hp
  · replace hp := (br_f h1).symm.trans hp
    refine cx_skip' ?_
    show TX E K1 _
    refine tx_k' hK1 ?_
    refine cx_seq' fun K3 hK3 => ?_
    refine cx_seq' fun K4 hK4 => ?_
    refine cx_region' ?_
    refine sx_rd' (rd_move' rfl) rfl rfl (wt_none' rfl) ?_
    refine sx_rd' (rd_conv' rfl (ru_i2i (by rw [Tryd.underlying3]; rfl) Tryd.underlying82)) rfl rfl (wt_none' rfl) ?_
    refine sx_rd' (rd_bin' rfl rfl eg_int ru_gtr) rfl rfl (wt_none' rfl) ?_
    refine sx_nil' ?_
    show TX E K4 _
    refine tx_k' hK4 ?_
    refine cx_cond' rfl (fun h2 => ?_) (fun h2 => ?_)
    · replace hp := (br_t h2).symm.trans hp
      cases hp
    · replace hp := (br_f h2).symm.trans hp
      refine cx_skip' ?_
      show TX E K3 _
      refine tx_k' hK3 ?_
      refine cx_seq' fun K5 hK5 => ?_
      refine cx_seq' fun K6 hK6 => ?_
      refine cx_region' ?_
      refine sx_rd' (rd_move' rfl) rfl rfl (wt_none' rfl) ?_
      refine sx_rd' (rd_nilck' rfl) rfl rfl (wt_none' rfl) ?_
      refine sx_rd' (rd_field0' rfl Tryd.underlying48 rfl info46 rfl) rfl rfl (wt_none' rfl) ?_
      refine sx_rd' (rd_load' (i := 0) (o := 0) rfl ⟨rfl, rfl, rfl, rfl⟩ rfl flat46) rfl rfl (wt_none' rfl) ?_
      obtain ⟨z1, hz1, hp⟩ := bind_some hp
      refine sx_rd' (rd_pa_nil' (m := 1) rfl rfl rfl rfl (need_some hz1) (fun _ _ => by kernel_rfl) nil_eql46_ptr) rfl rfl (wt_none' rfl) ?_
      refine sx_nil' ?_
      show TX E K6 _
      refine tx_k' hK6 ?_
      refine cx_cond_f' rfl rfl ?_
      refine cx_skip' ?_
      show TX E K5 _
      refine tx_k' hK5 ?_
      refine cx_region' ?_
      refine sx_rd' (rd_move' rfl) rfl rfl (wt_none' rfl) ?_
      refine sx_rd' (rd_nilck' rfl) rfl rfl (wt_none' rfl) ?_
      refine sx_rd' (rd_field0' rfl Tryd.underlying48 rfl info46 rfl) rfl rfl (wt_none' rfl) ?_
      refine sx_rd' (rd_load' (i := 0) (o := 0) rfl ⟨rfl, rfl, rfl, rfl⟩ rfl flat46) rfl rfl (wt_none' rfl) ?_
      refine sx_rd' (rd_move' rfl) rfl rfl (wt_none' rfl) ?_
      refine sx_rd' (rd_bin' rfl rfl eg_int ru_mul) rfl rfl (wt_none' rfl) ?_
      refine sx_rd' (rd_move' rfl) rfl rfl (wt_none' rfl) ?_
      refine sx_rd' (rd_bin' rfl rfl eg_int ru_add) rfl rfl (wt_none' rfl) ?_
      refine sx_rd' (rd_move' rfl) rfl rfl (wt_none' rfl) ?_
      refine sx_rd' (rd_nilck' (q := wa0_0) rfl) rfl rfl (wt_none' rfl) ?_
      obtain ⟨r37, hr37, hp⟩ := bind_some hp
      refine sx_rd' (rd_atarr' (m := 1) rfl rfl rfl rfl hr37 Tryd.underlying77 info22) rfl rfl (wt_none' rfl) ?_
      refine sx_ox' (ox_storer' (m := 1) (i := (iadd .i64 (imul .i64 a1 3) a2)) (j := 0) (x' := a3) rfl rfl (lv_vl rfl rfl) rfl rfl (idxn_some hr37).2 rfl rfl rfl info22 rfl (H' := [⟨.pointer (some wa0), [(Vl (.pointer ((some wa0_0, 9, 9)).1))], 48, none⟩, (Rw Kf 77 (Vs (some wa0_0, 9, 9)) (a0_0.set (iadd .i64 (imul .i64 a1 3) a2).toNat a3))]) rfl) (wt_none' rfl) fun _ => ?_
      refine sx_nil' ?_
      replace hp := Option.some.inj hp
      subst hp
      refine tx_pick' (L' := []) (H' := [⟨.pointer (some wa0), [(Vl (.pointer ((some wa0_0, 9, 9)).1))], 48, none⟩, (Rw Kf 77 (Vs (some wa0_0, 9, 9)) (a0_0.set (iadd .i64 (imul .i64 a1 3) a2).toNat a3))]) [0, 1] sub_nil (by decide) (pick_cons rfl (pick_cons rfl pick_nil)) ?_
      exact tx_end0' Tryd.results37 rfl () rfl (List.Sublist.refl _)

def r3_Mat_Add_j2 (k : Nat) (r12 : (List Nat) × Int) (r25 : (List Nat) × Int) (x2 : Bool) : Option ((List Nat) × (List Nat) × (List Nat)) :=
  br x2
    (none)
    ((r3_Mat_At k r12.1 0 0) >>= fun r47 =>
    (r3_Mat_At k r25.1 0 0) >>= fun r49 =>
    (some (gadd r47.2 r49.2)) >>= fun r50 =>
    (num r50) >>= fun u1 =>
    (r3_Mat_Set k ([0, 0, 0, 0, 0, 0, 0, 0, 0]) 0 0 r50) >>= fun r51 =>
    (r3_Mat_At k r47.1 0 1) >>= fun r54 =>
    (r3_Mat_At k r49.1 0 1) >>= fun r56 =>
    (some (gadd r54.2 r56.2)) >>= fun r57 =>
    (num r57) >>= fun u2 =>
    (r3_Mat_Set k r51 0 1 r57) >>= fun r58 =>
    (r3_Mat_At k r54.1 0 2) >>= fun r61 =>
    (r3_Mat_At k r56.1 0 2) >>= fun r63 =>
    (some (gadd r61.2 r63.2)) >>= fun r64 =>
    (num r64) >>= fun u3 =>
    (r3_Mat_Set k r58 0 2 r64) >>= fun r65 =>
    (r3_Mat_At k r61.1 1 0) >>= fun r68 =>
    (r3_Mat_At k r63.1 1 0) >>= fun r70 =>
    (some (gadd r68.2 r70.2)) >>= fun r71 =>
    (num r71) >>= fun u4 =>
    (r3_Mat_Set k r65 1 0 r71) >>= fun r72 =>
    (r3_Mat_At k r68.1 1 1) >>= fun r75 =>
    (r3_Mat_At k r70.1 1 1) >>= fun r77 =>
    (some (gadd r75.2 r77.2)) >>= fun r78 =>
    (num r78) >>= fun u5 =>
    (r3_Mat_Set k r72 1 1 r78) >>= fun r79 =>
    (r3_Mat_At k r75.1 1 2) >>= fun r82 =>
    (r3_Mat_At k r77.1 1 2) >>= fun r84 =>
    (some (gadd r82.2 r84.2)) >>= fun r85 =>
    (num r85) >>= fun u6 =>
    (r3_Mat_Set k r79 1 2 r85) >>= fun r86 =>
    (r3_Mat_At k r82.1 2 0) >>= fun r89 =>
    (r3_Mat_At k r84.1 2 0) >>= fun r91 =>
    (some (gadd r89.2 r91.2)) >>= fun r92 =>
    (num r92) >>= fun u7 =>
    (r3_Mat_Set k r86 2 0 r92) >>= fun r93 =>
    (r3_Mat_At k r89.1 2 1) >>= fun r96 =>
    (r3_Mat_At k r91.1 2 1) >>= fun r98 =>
    (some (gadd r96.2 r98.2)) >>= fun r99 =>
    (num r99) >>= fun u8 =>
    (r3_Mat_Set k r93 2 1 r99) >>= fun r100 =>
    (r3_Mat_At k r96.1 2 2) >>= fun r103 =>
    (r3_Mat_At k r98.1 2 2) >>= fun r105 =>
    (some (gadd r103.2 r105.2)) >>= fun r106 =>
    (num r106) >>= fun u9 =>
    (r3_Mat_Set k r100 2 2 r106) >>= fun r107 =>
    some (r107, r103.1, r105.1))
def r3_Mat_Add_j1 (k : Nat) (a2_0 : List Nat) (r12 : (List Nat) × Int) (x1 : Bool) : Option ((List Nat) × (List Nat) × (List Nat)) :=
  br x1
    (none)
    ((r3_Mat_Dims k a2_0) >>= fun r25 =>
    br (!decide (r25.2 = 3))
      (r3_Mat_Add_j2 k r12 r25 true)
      (r3_Mat_Add_j2 k r12 r25 (!decide (r25.2 = 3))))
def r3_Mat_Add (k : Nat) (a1_0 : List Nat) (a2_0 : List Nat) : Option ((List Nat) × (List Nat) × (List Nat)) :=
  (r3_Mat_Dims k a1_0) >>= fun r12 =>
  br (!decide (r12.2 = 3))
    (r3_Mat_Add_j1 k a2_0 r12 true)
    (r3_Mat_Add_j1 k a2_0 r12 (!decide (r12.2 = 3)))

theorem r3_Mat_Add_sim {k : Nat} {wa0 : Addr} {wa1 : Addr} {wa1_0 : Gs} {wa2 : Addr} {wa2_0 : Gs} (a1_0 : List Nat) (a2_0 : List Nat) {out : (List Nat) × (List Nat) × (List Nat)} (hp : r3_Mat_Add k a1_0 a2_0 = some out) : Go.Sx.Fn Tryd.prog 22 [(Vl (.pointer (some wa0))), (If 43 (Vl (.pointer (some wa1)))), (If 43 (Vl (.pointer (some wa2))))] [⟨.pointer (some wa0), [(Vl (.pointer none))], 48, none⟩, ⟨.pointer (some wa1), [(Vl (.pointer (wa1_0).1))], 48, none⟩, (Rw Kf 22 (Vs wa1_0) a1_0), ⟨.pointer (some wa2), [(Vl (.pointer (wa2_0).1))], 48, none⟩, (Rw Kf 22 (Vs wa2_0) a2_0)] (fun w : Addr => (Vl (.tuple #[]))) (fun w => [⟨.pointer (some wa0), [(Vl (.pointer ((some w, 9, 9)).1))], 48, none⟩, (Rw Kf 77 (Vs (some w, 9, 9)) out.1), ⟨.pointer (some wa1), [(Vl (.pointer (wa1_0).1))], 48, none⟩, (Rw Kf 22 (Vs wa1_0) out.2.1), ⟨.pointer (some wa2), [(Vl (.pointer (wa2_0).1))], 48, none⟩, (Rw Kf 22 (Vs wa2_0) out.2.2)]) := by
  unfold r3_Mat_Add at hp
  refine fn_of Tryd.func22 rfl Tryd.ntmps22 rfl fun E hM => ?_
  refine cx_seq' fun K1 hK1 => ?_
  refine cx_seq' fun K2 hK2 => ?_
  refine cx_region' ?_
  refine sx_rd' (rd_move' rfl) rfl rfl (wt_none' rfl) ?_
  obtain ⟨r12, hr12, hp⟩ := bind_some hp
  refine sx_ox' (ox_callg' (ent_inv' rfl rfl (inv_any0 inv43_Dims)) (r3_Mat_Dims_sim _ hr12 : Go.Sx.Fn Tryd.prog 69 [(Vl (.pointer (some wa1)))] [⟨.pointer (some wa1), [(Vl (.pointer (wa1_0).1))], 48, none⟩, (Rw Kf 22 (Vs wa1_0) a1_0)] (fun x : Unit => (Tu [(Vl (.int .i64 r12.2)), (Vl (.int .i64 r12.2))])) (fun x => [⟨.pointer (some wa1), [(Vl (.pointer (wa1_0).1))], 48, none⟩, (Rw Kf 22 (Vs wa1_0) r12.1)])) [1, 2] [0, 3, 4] (by decide) (pick_cons rfl (pick_cons rfl pick_nil)) (pick_cons rfl (pick_cons rfl (pick_cons rfl pick_nil))) (Hn := fun x : Unit => [⟨.pointer (some wa1), [(Vl (.pointer (wa1_0).1))], 48, none⟩, (Rw Kf 22 (Vs wa1_0) r12.1), ⟨.pointer (some wa0), [(Vl (.pointer none))], 48, none⟩, ⟨.pointer (some wa2), [(Vl (.pointer (wa2_0).1))], 48, none⟩, (Rw Kf 22 (Vs wa2_0) a2_0)]) (fun _ => rfl) rfl rfl) (wt_none' rfl) fun ⟨⟩ => ?_
  refine sx_rd' (rd_move' rfl) rfl rfl (wt_none' rfl) ?_
  refine sx_rd' (rd_extract' rfl rfl) rfl rfl (wt_none' rfl) ?_
  refine sx_rd' (rd_extract' rfl rfl) rfl rfl (wt_none' rfl) ?_
  refine sx_rd' (rd_assign' rfl) rfl rfl (wt_none' rfl) ?_
  refine sx_rd' (rd_assign' rfl) rfl rfl (wt_none' rfl) ?_
  refine sx_nil' ?_
  show TX E K2 _
  refine tx_k' hK2 ?_
  refine cx_seq' fun K3 hK3 => ?_
  refine cx_region' ?_
  refine sx_rd' (rd_move' rfl) rfl rfl (wt_none' rfl) ?_
  refine sx_rd' (rd_bin' rfl rfl eg_int ru_neq) rfl rfl (wt_none' rfl) ?_
  refine sx_rd' (rd_move' rfl) rfl rfl (wt_none' rfl) ?_
  refine sx_cutn' 3 (fun (v1 : Bool) => (⟨108, [], [(0, (Vl (.pointer (some wa0)))), (1, (If 43 (Vl (.pointer (some wa1))))), (2, (If 43 (Vl (.pointer (some wa2))))), (20, (Vl (.bool v1)))], [⟨.pointer (some wa0), [(Vl (.pointer none))], 48, none⟩, ⟨.pointer (some wa1), [(Vl (.pointer (wa1_0).1))], 48, none⟩, (Rw Kf 22 (Vs wa1_0) r12.1), ⟨.pointer (some wa2), [(Vl (.pointer (wa2_0).1))], 48, none⟩, (Rw Kf 22 (Vs wa2_0) a2_0)]⟩ : St)) (fun (v1 : Bool) => r3_Mat_Add_j1 k a2_0 r12 v1 = some out) ?_ ?_
  · rintro x1 hp
    replace hp : r3_Mat_Add_j1 k a2_0 r12 x1 = some out := hp
    unfold r3_Mat_Add_j1 at hp
    refine sx_nil' ?_
    show TX E K3 _
    refine tx_k' hK3 ?_
    refine cx_cond' rfl (fun h2 => ?_) (fun h2 => ?_)
    · replace hp := (br_t h2).symm.trans hp
      cases hp
    · replace hp := (br_f h2).symm.trans hp
      refine cx_skip' ?_
      show TX E K1 _
      refine tx_k' hK1 ?_
      refine cx_seq' fun K5 hK5 => ?_
      refine cx_seq' fun K6 hK6 => ?_
      refine cx_region' ?_
      refine sx_rd' (rd_move' rfl) rfl rfl (wt_none' rfl) ?_
      obtain ⟨r25, hr25, hp⟩ := bind_some hp
      refine sx_ox' (ox_callg' (ent_inv' rfl rfl (inv_any0 inv43_Dims)) (r3_Mat_Dims_sim _ hr25 : Go.Sx.Fn Tryd.prog 69 [(Vl (.pointer (some wa2)))] [⟨.pointer (some wa2), [(Vl (.pointer (wa2_0).1))], 48, none⟩, (Rw Kf 22 (Vs wa2_0) a2_0)] (fun x : Unit => (Tu [(Vl (.int .i64 r25.2)), (Vl (.int .i64 r25.2))])) (fun x => [⟨.pointer (some wa2), [(Vl (.pointer (wa2_0).1))], 48, none⟩, (Rw Kf 22 (Vs wa2_0) r25.1)])) [3, 4] [0, 1, 2] (by decide) (pick_cons rfl (pick_cons rfl pick_nil)) (pick_cons rfl (pick_cons rfl (pick_cons rfl pick_nil))) (Hn := fun x : Unit => [⟨.pointer (some wa2), [(Vl (.pointer (wa2_0).1))], 48, none⟩, (Rw Kf 22 (Vs wa2_0) r25.1), ⟨.pointer (some wa0), [(Vl (.pointer none))], 48, none⟩, ⟨.pointer (some wa1), [(Vl (.pointer (wa1_0).1))], 48, none⟩, (Rw Kf 22 (Vs wa1_0) r12.1)]) (fun _ => rfl) rfl rfl) (wt_none' rfl) fun ⟨⟩ => ?_
      refine sx_rd' (rd_move' rfl) rfl rfl (wt_none' rfl) ?_
      refine sx_rd' (rd_extract' rfl rfl) rfl rfl (wt_none' rfl) ?_
      refine sx_rd' (rd_extract' rfl rfl) rfl rfl (wt_none' rfl) ?_
      refine sx_rd' (rd_assign' rfl) rfl rfl (wt_none' rfl) ?_
      refine sx_rd' (rd_assign' rfl) rfl rfl (wt_none' rfl) ?_
      refine sx_nil' ?_
      show TX E K6 _
      refine tx_k' hK6 ?_
      refine cx_seq' fun K7 hK7 => ?_
      refine cx_region' ?_
      refine sx_rd' (rd_move' rfl) rfl rfl (wt_none' rfl) ?_
      refine sx_rd' (rd_bin' rfl rfl eg_int ru_neq) rfl rfl (wt_none' rfl) ?_
      refine sx_rd' (rd_move' rfl) rfl rfl (wt_none' rfl) ?_
      refine sx_cutn' 3 (fun (v2 : Bool) => (⟨108, [], [(0, (Vl (.pointer (some wa0)))), (1, (If 43 (Vl (.pointer (some wa1))))), (2, (If 43 (Vl (.pointer (some wa2))))), (33, (Vl (.bool v2)))], [⟨.pointer (some wa0), [(Vl (.pointer none))], 48, none⟩, ⟨.pointer (some wa1), [(Vl (.pointer (wa1_0).1))], 48, none⟩, (Rw Kf 22 (Vs wa1_0) r12.1), ⟨.pointer (some wa2), [(Vl (.pointer (wa2_0).1))], 48, none⟩, (Rw Kf 22 (Vs wa2_0) r25.1)]⟩ : St)) (fun (v2 : Bool) => r3_Mat_Add_j2 k r12 r25 v2 = some out) ?_ ?_
      · rintro x2 hp
        replace hp : r3_Mat_Add_j2 k r12 r25 x2 = some out := hp
        unfold r3_Mat_Add_j2 at hp
        refine sx_nil' ?_
        show TX E K7 _
        refine tx_k' hK7 ?_
        refine cx_cond' rfl (fun h4 => ?_) (fun h4 => ?_)
        · replace hp := (br_t h4).symm.trans hp
          cases hp
        · replace hp := (br_f h4).symm.trans hp
          refine cx_skip' ?_
          show TX E K5 _
          refine tx_k' hK5 ?_
          refine cx_seq' fun K9 hK9 => ?_
          refine cx_seq' fun K10 hK10 => ?_
          refine cx_region' ?_
          refine sx_rd' (rd_move' rfl) rfl rfl (wt_none' rfl) ?_
          refine sx_rd' (rd_nilck' rfl) rfl rfl (wt_none' rfl) ?_
          refine sx_rd' (rd_field0' rfl Tryd.underlying48 rfl info46 rfl) rfl rfl (wt_none' rfl) ?_
          refine sx_rd' (rd_load' (i := 0) (o := 0) rfl ⟨rfl, rfl, rfl, rfl⟩ rfl flat46) rfl rfl (wt_none' rfl) ?_
          refine sx_rd' (rd_binf' rfl rfl (bf_vl (fun _ => by kernel_rfl) nil_eql46_nilptr)) rfl rfl (wt_none' rfl) ?_
          refine sx_nil' ?_
          show TX E K10 _
          refine tx_k' hK10 ?_
          refine cx_cond_t' rfl rfl ?_
          refine cx_region' ?_
          refine sx_rd' (rd_move' rfl) rfl rfl (wt_none' rfl) ?_
          refine sx_ox' (ox_alloc' info77 rfl rfl rfl rfl (l := [(Vl (.float .f64 0)), (Vl (.float .f64 0)), (Vl (.float .f64 0)), (Vl (.float .f64 0)), (Vl (.float .f64 0)), (Vl (.float .f64 0)), (Vl (.float .f64 0)), (Vl (.float .f64 0)), (Vl (.float .f64 0))]) rfl) (wt_none' rfl) fun q42 => ?_
          refine tx_arr' (K := Kf) (xs := [0, 0, 0, 0, 0, 0, 0, 0, 0]) (m := 9) (i := 0) rfl rfl rfl (H' := [(Rw Kf 77 (Vs (some q42, 9, 9)) ([0, 0, 0, 0, 0, 0, 0, 0, 0])), ⟨.pointer (some wa0), [(Vl (.pointer none))], 48, none⟩, ⟨.pointer (some wa1), [(Vl (.pointer (wa1_0).1))], 48, none⟩, (Rw Kf 22 (Vs wa1_0) r12.1), ⟨.pointer (some wa2), [(Vl (.pointer (wa2_0).1))], 48, none⟩, (Rw Kf 22 (Vs wa2_0) r25.1)]) rfl ?_
          refine sx_rd' (rd_nilck' rfl) rfl rfl (wt_none' rfl) ?_
          refine sx_rd' (rd_field0' rfl Tryd.underlying48 rfl info46 rfl) rfl rfl (wt_none' rfl) ?_
          refine sx_ox' (ox_store' (i := 1) (o := 0) rfl rfl (lv_vl rfl rfl) ⟨rfl, rfl, rfl, rfl⟩ rfl info46 rfl (H' := [(Rw Kf 77 (Vs (some q42, 9, 9)) ([0, 0, 0, 0, 0, 0, 0, 0, 0])), ⟨.pointer (some wa0), [(Vl (.pointer ((some q42, 9, 9)).1))], 48, none⟩, ⟨.pointer (some wa1), [(Vl (.pointer (wa1_0).1))], 48, none⟩, (Rw Kf 22 (Vs wa1_0) r12.1), ⟨.pointer (some wa2), [(Vl (.pointer (wa2_0).1))], 48, none⟩, (Rw Kf 22 (Vs wa2_0) r25.1)]) rfl) (wt_none' rfl) fun _ => ?_
          refine sx_nil' ?_
          show TX E K9 _
          refine tx_k' hK9 ?_
          refine cx_seq' fun K11 hK11 => ?_
          refine cx_region' ?_
          refine sx_rd' (rd_move' rfl) rfl rfl (wt_none' rfl) ?_
          refine sx_rd' (rd_move' rfl) rfl rfl (wt_none' rfl) ?_
          obtain ⟨r47, hr47, hp⟩ := bind_some hp
          refine sx_ox' (ox_callg' (ent_inv' rfl rfl (inv_any2 inv43_At)) (r3_Mat_At_sim _ _ _ hr47 : Go.Sx.Fn Tryd.prog 36 [(Vl (.pointer (some wa1))), (Vl (.int .i64 0)), (Vl (.int .i64 0))] [⟨.pointer (some wa1), [(Vl (.pointer (wa1_0).1))], 48, none⟩, (Rw Kf 22 (Vs wa1_0) r12.1)] (fun x : Unit => (Vl (.float .f64 r47.2))) (fun x => [⟨.pointer (some wa1), [(Vl (.pointer (wa1_0).1))], 48, none⟩, (Rw Kf 22 (Vs wa1_0) r47.1)])) [2, 3] [0, 1, 4, 5] (by decide) (pick_cons rfl (pick_cons rfl pick_nil)) (pick_cons rfl (pick_cons rfl (pick_cons rfl (pick_cons rfl pick_nil)))) (Hn := fun x : Unit => [⟨.pointer (some wa1), [(Vl (.pointer (wa1_0).1))], 48, none⟩, (Rw Kf 22 (Vs wa1_0) r47.1), (Rw Kf 77 (Vs (some q42, 9, 9)) ([0, 0, 0, 0, 0, 0, 0, 0, 0])), ⟨.pointer (some wa0), [(Vl (.pointer ((some q42, 9, 9)).1))], 48, none⟩, ⟨.pointer (some wa2), [(Vl (.pointer (wa2_0).1))], 48, none⟩, (Rw Kf 22 (Vs wa2_0) r25.1)]) (fun _ => rfl) rfl rfl) (wt_none' rfl) fun ⟨⟩ => ?_
          refine sx_rd' (rd_move' rfl) rfl rfl (wt_none' rfl) ?_
          obtain ⟨r49, hr49, hp⟩ := bind_some hp
          refine sx_ox' (ox_callg' (ent_inv' rfl rfl (inv_any2 inv43_At)) (r3_Mat_At_sim _ _ _ hr49 : Go.Sx.Fn Tryd.prog 36 [(Vl (.pointer (some wa2))), (Vl (.int .i64 0)), (Vl (.int .i64 0))] [⟨.pointer (some wa2), [(Vl (.pointer (wa2_0).1))], 48, none⟩, (Rw Kf 22 (Vs wa2_0) r25.1)] (fun x : Unit => (Vl (.float .f64 r49.2))) (fun x => [⟨.pointer (some wa2), [(Vl (.pointer (wa2_0).1))], 48, none⟩, (Rw Kf 22 (Vs wa2_0) r49.1)])) [4, 5] [0, 1, 2, 3] (by decide) (pick_cons rfl (pick_cons rfl pick_nil)) (pick_cons rfl (pick_cons rfl (pick_cons rfl (pick_cons rfl pick_nil)))) (Hn := fun x : Unit => [⟨.pointer (some wa2), [(Vl (.pointer (wa2_0).1))], 48, none⟩, (Rw Kf 22 (Vs wa2_0) r49.1), ⟨.pointer (some wa1), [(Vl (.pointer (wa1_0).1))], 48, none⟩, (Rw Kf 22 (Vs wa1_0) r47.1), (Rw Kf 77 (Vs (some q42, 9, 9)) ([0, 0, 0, 0, 0, 0, 0, 0, 0])), ⟨.pointer (some wa0), [(Vl (.pointer ((some q42, 9, 9)).1))], 48, none⟩]) (fun _ => rfl) rfl rfl) (wt_none' rfl) fun ⟨⟩ => ?_
          obtain ⟨r50, hr50, hp⟩ := bind_some hp
          refine sx_ox' (ox_fop' (.inl rfl) (fl_v rfl) (fl_v rfl) (Option.some.inj hr50) rfl rfl) (wt_none' rfl) fun _ => ?_
          obtain ⟨u1, hu1, hp⟩ := bind_some hp
          refine tx_slot' 50 (y := (Vl (.float .f64 r50))) rfl (imp_num (num_some hu1).2) ?_
          obtain ⟨r51, hr51, hp⟩ := bind_some hp
          refine sx_ox' (ox_callg' (ent_fn' Tryd.func37 isn37 rfl rfl) (r3_Mat_Set_sim _ _ _ _ hr51 : Go.Sx.Fn Tryd.prog 37 [(Vl (.pointer (some wa0))), (Vl (.int .i64 0)), (Vl (.int .i64 0)), (Vl (.float .f64 r50))] [⟨.pointer (some wa0), [(Vl (.pointer ((some q42, 9, 9)).1))], 48, none⟩, (Rw Kf 77 (Vs (some q42, 9, 9)) ([0, 0, 0, 0, 0, 0, 0, 0, 0]))] (fun x : Unit => (Vl (.tuple #[]))) (fun x => [⟨.pointer (some wa0), [(Vl (.pointer ((some q42, 9, 9)).1))], 48, none⟩, (Rw Kf 77 (Vs (some q42, 9, 9)) r51)])) [5, 4] [0, 1, 2, 3] (by decide) (pick_cons rfl (pick_cons rfl pick_nil)) (pick_cons rfl (pick_cons rfl (pick_cons rfl (pick_cons rfl pick_nil)))) (Hn := fun x : Unit => [⟨.pointer (some wa0), [(Vl (.pointer ((some q42, 9, 9)).1))], 48, none⟩, (Rw Kf 77 (Vs (some q42, 9, 9)) r51), ⟨.pointer (some wa2), [(Vl (.pointer (wa2_0).1))], 48, none⟩, (Rw Kf 22 (Vs wa2_0) r49.1), ⟨.pointer (some wa1), [(Vl (.pointer (wa1_0).1))], 48, none⟩, (Rw Kf 22 (Vs wa1_0) r47.1)]) (fun _ => rfl) rfl rfl) (wt_none' rfl) fun ⟨⟩ => ?_
          refine sx_nil' ?_
          show TX E K11 _
          refine tx_k' hK11 ?_
          refine cx_seq' fun K12 hK12 => ?_
          refine cx_region' ?_
          refine sx_rd' (rd_move' rfl) rfl rfl (wt_none' rfl) ?_
          refine sx_rd' (rd_move' rfl) rfl rfl (wt_none' rfl) ?_
          obtain ⟨r54, hr54, hp⟩ := bind_some hp
          refine sx_ox' (ox_callg' (ent_inv' rfl rfl (inv_any2 inv43_At)) (r3_Mat_At_sim _ _ _ hr54 : Go.Sx.Fn Tryd.prog 36 [(Vl (.pointer (some wa1))), (Vl (.int .i64 0)), (Vl (.int .i64 1))] [⟨.pointer (some wa1), [(Vl (.pointer (wa1_0).1))], 48, none⟩, (Rw Kf 22 (Vs wa1_0) r47.1)] (fun x : Unit => (Vl (.float .f64 r54.2))) (fun x => [⟨.pointer (some wa1), [(Vl (.pointer (wa1_0).1))], 48, none⟩, (Rw Kf 22 (Vs wa1_0) r54.1)])) [4, 5] [0, 1, 2, 3] (by decide) (pick_cons rfl (pick_cons rfl pick_nil)) (pick_cons rfl (pick_cons rfl (pick_cons rfl (pick_cons rfl pick_nil)))) (Hn := fun x : Unit => [⟨.pointer (some wa1), [(Vl (.pointer (wa1_0).1))], 48, none⟩, (Rw Kf 22 (Vs wa1_0) r54.1), ⟨.pointer (some wa0), [(Vl (.pointer ((some q42, 9, 9)).1))], 48, none⟩, (Rw Kf 77 (Vs (some q42, 9, 9)) r51), ⟨.pointer (some wa2), [(Vl (.pointer (wa2_0).1))], 48, none⟩, (Rw Kf 22 (Vs wa2_0) r49.1)]) (fun _ => rfl) rfl rfl) (wt_none' rfl) fun ⟨⟩ => ?_
          refine sx_rd' (rd_move' rfl) rfl rfl (wt_none' rfl) ?_
          obtain ⟨r56, hr56, hp⟩ := bind_some hp
          refine sx_ox' (ox_callg' (ent_inv' rfl rfl (inv_any2 inv43_At)) (r3_Mat_At_sim _ _ _ hr56 : Go.Sx.Fn Tryd.prog 36 [(Vl (.pointer (some wa2))), (Vl (.int .i64 0)), (Vl (.int .i64 1))] [⟨.pointer (some wa2), [(Vl (.pointer (wa2_0).1))], 48, none⟩, (Rw Kf 22 (Vs wa2_0) r49.1)] (fun x : Unit => (Vl (.float .f64 r56.2))) (fun x => [⟨.pointer (some wa2), [(Vl (.pointer (wa2_0).1))], 48, none⟩, (Rw Kf 22 (Vs wa2_0) r56.1)])) [4, 5] [0, 1, 2, 3] (by decide) (pick_cons rfl (pick_cons rfl pick_nil)) (pick_cons rfl (pick_cons rfl (pick_cons rfl (pick_cons rfl pick_nil)))) (Hn := fun x : Unit => [⟨.pointer (some wa2), [(Vl (.pointer (wa2_0).1))], 48, none⟩, (Rw Kf 22 (Vs wa2_0) r56.1), ⟨.pointer (some wa1), [(Vl (.pointer (wa1_0).1))], 48, none⟩, (Rw Kf 22 (Vs wa1_0) r54.1), ⟨.pointer (some wa0), [(Vl (.pointer ((some q42, 9, 9)).1))], 48, none⟩, (Rw Kf 77 (Vs (some q42, 9, 9)) r51)]) (fun _ => rfl) rfl rfl) (wt_none' rfl) fun ⟨⟩ => ?_
          obtain ⟨r57, hr57, hp⟩ := bind_some hp
          refine sx_ox' (ox_fop' (.inl rfl) (fl_v rfl) (fl_v rfl) (Option.some.inj hr57) rfl rfl) (wt_none' rfl) fun _ => ?_
          obtain ⟨u2, hu2, hp⟩ := bind_some hp
          refine tx_slot' 57 (y := (Vl (.float .f64 r57))) rfl (imp_num (num_some hu2).2) ?_
          obtain ⟨r58, hr58, hp⟩ := bind_some hp
          refine sx_ox' (ox_callg' (ent_fn' Tryd.func37 isn37 rfl rfl) (r3_Mat_Set_sim _ _ _ _ hr58 : Go.Sx.Fn Tryd.prog 37 [(Vl (.pointer (some wa0))), (Vl (.int .i64 0)), (Vl (.int .i64 1)), (Vl (.float .f64 r57))] [⟨.pointer (some wa0), [(Vl (.pointer ((some q42, 9, 9)).1))], 48, none⟩, (Rw Kf 77 (Vs (some q42, 9, 9)) r51)] (fun x : Unit => (Vl (.tuple #[]))) (fun x => [⟨.pointer (some wa0), [(Vl (.pointer ((some q42, 9, 9)).1))], 48, none⟩, (Rw Kf 77 (Vs (some q42, 9, 9)) r58)])) [4, 5] [0, 1, 2, 3] (by decide) (pick_cons rfl (pick_cons rfl pick_nil)) (pick_cons rfl (pick_cons rfl (pick_cons rfl (pick_cons rfl pick_nil)))) (Hn := fun x : Unit => [⟨.pointer (some wa0), [(Vl (.pointer ((some q42, 9, 9)).1))], 48, none⟩, (Rw Kf 77 (Vs (some q42, 9, 9)) r58), ⟨.pointer (some wa2), [(Vl (.pointer (wa2_0).1))], 48, none⟩, (Rw Kf 22 (Vs wa2_0) r56.1), ⟨.pointer (some wa1), [(Vl (.pointer (wa1_0).1))], 48, none⟩, (Rw Kf 22 (Vs wa1_0) r54.1)]) (fun _ => rfl) rfl rfl) (wt_none' rfl) fun ⟨⟩ => ?_
          refine sx_nil' ?_
          show TX E K12 _
          refine tx_k' hK12 ?_
          refine cx_seq' fun K13 hK13 => ?_
          refine cx_region' ?_
          refine sx_rd' (rd_move' rfl) rfl rfl (wt_none' rfl) ?_
          refine sx_rd' (rd_move' rfl) rfl rfl (wt_none' rfl) ?_
          obtain ⟨r61, hr61, hp⟩ := bind_some hp
          refine sx_ox' (ox_callg' (ent_inv' rfl rfl (inv_any2 inv43_At)) (r3_Mat_At_sim _ _ _ hr61 : Go.Sx.Fn Tryd.prog 36 [(Vl (.pointer (some wa1))), (Vl (.int .i64 0)), (Vl (.int .i64 2))] [⟨.pointer (some wa1), [(Vl (.pointer (wa1_0).1))], 48, none⟩, (Rw Kf 22 (Vs wa1_0) r54.1)] (fun x : Unit => (Vl (.float .f64 r61.2))) (fun x => [⟨.pointer (some wa1), [(Vl (.pointer (wa1_0).1))], 48, none⟩, (Rw Kf 22 (Vs wa1_0) r61.1)])) [4, 5] [0, 1, 2, 3] (by decide) (pick_cons rfl (pick_cons rfl pick_nil)) (pick_cons rfl (pick_cons rfl (pick_cons rfl (pick_cons rfl pick_nil)))) (Hn := fun x : Unit => [⟨.pointer (some wa1), [(Vl (.pointer (wa1_0).1))], 48, none⟩, (Rw Kf 22 (Vs wa1_0) r61.1), ⟨.pointer (some wa0), [(Vl (.pointer ((some q42, 9, 9)).1))], 48, none⟩, (Rw Kf 77 (Vs (some q42, 9, 9)) r58), ⟨.pointer (some wa2), [(Vl (.pointer (wa2_0).1))], 48, none⟩, (Rw Kf 22 (Vs wa2_0) r56.1)]) (fun _ => rfl) rfl rfl) (wt_none' rfl) fun ⟨⟩ => ?_
          refine sx_rd' (rd_move' rfl) rfl rfl (wt_none' rfl) ?_
          obtain ⟨r63, hr63, hp⟩ := bind_some hp
          refine sx_ox' (ox_callg' (ent_inv' rfl rfl (inv_any2 inv43_At)) (r3_Mat_At_sim _ _ _ hr63 : Go.Sx.Fn Tryd.prog 36 [(Vl (.pointer (some wa2))), (Vl (.int .i64 0)), (Vl (.int .i64 2))] [⟨.pointer (some wa2), [(Vl (.pointer (wa2_0).1))], 48, none⟩, (Rw Kf 22 (Vs wa2_0) r56.1)] (fun x : Unit => (Vl (.float .f64 r63.2))) (fun x => [⟨.pointer (some wa2), [(Vl (.pointer (wa2_0).1))], 48, none⟩, (Rw Kf 22 (Vs wa2_0) r63.1)])) [4, 5] [0, 1, 2, 3] (by decide) (pick_cons rfl (pick_cons rfl pick_nil)) (pick_cons rfl (pick_cons rfl (pick_cons rfl (pick_cons rfl pick_nil)))) (Hn := fun x : Unit => [⟨.pointer (some wa2), [(Vl (.pointer (wa2_0).1))], 48, none⟩, (Rw Kf 22 (Vs wa2_0) r63.1), ⟨.pointer (some wa1), [(Vl (.pointer (wa1_0).1))], 48, none⟩, (Rw Kf 22 (Vs wa1_0) r61.1), ⟨.pointer (some wa0), [(Vl (.pointer ((some q42, 9, 9)).1))], 48, none⟩, (Rw Kf 77 (Vs (some q42, 9, 9)) r58)]) (fun _ => rfl) rfl rfl) (wt_none' rfl) fun ⟨⟩ => ?_
          obtain ⟨r64, hr64, hp⟩ := bind_some hp
          refine sx_ox' (ox_fop' (.inl rfl) (fl_v rfl) (fl_v rfl) (Option.some.inj hr64) rfl rfl) (wt_none' rfl) fun _ => ?_
          obtain ⟨u3, hu3, hp⟩ := bind_some hp
          refine tx_slot' 64 (y := (Vl (.float .f64 r64))) rfl (imp_num (num_some hu3).2) ?_
          obtain ⟨r65, hr65, hp⟩ := bind_some hp
          refine sx_ox' (ox_callg' (ent_fn' Tryd.func37 isn37 rfl rfl) (r3_Mat_Set_sim _ _ _ _ hr65 : Go.Sx.Fn Tryd.prog 37 [(Vl (.pointer (some wa0))), (Vl (.int .i64 0)), (Vl (.int .i64 2)), (Vl (.float .f64 r64))] [⟨.pointer (some wa0), [(Vl (.pointer ((some q42, 9, 9)).1))], 48, none⟩, (Rw Kf 77 (Vs (some q42, 9, 9)) r58)] (fun x : Unit => (Vl (.tuple #[]))) (fun x => [⟨.pointer (some wa0), [(Vl (.pointer ((some q42, 9, 9)).1))], 48, none⟩, (Rw Kf 77 (Vs (some q42, 9, 9)) r65)])) [4, 5] [0, 1, 2, 3] (by decide) (pick_cons rfl (pick_cons rfl pick_nil)) (pick_cons rfl (pick_cons rfl (pick_cons rfl (pick_cons rfl pick_nil)))) (Hn := fun x : Unit => [⟨.pointer (some wa0), [(Vl (.pointer ((some q42, 9, 9)).1))], 48, none⟩, (Rw Kf 77 (Vs (some q42, 9, 9)) r65), ⟨.pointer (some wa2), [(Vl (.pointer (wa2_0).1))], 48, none⟩, (Rw Kf 22 (Vs wa2_0) r63.1), ⟨.pointer (some wa1), [(Vl (.pointer (wa1_0).1))], 48, none⟩, (Rw Kf 22 (Vs wa1_0) r61.1)]) (fun _ => rfl) rfl rfl) (wt_none' rfl) fun ⟨⟩ => ?_
          refine sx_nil' ?_
          show TX E K13 _
          refine tx_k' hK13 ?_
          refine cx_seq' fun K14 hK14 => ?_
          refine cx_region' ?_
          refine sx_rd' (rd_move' rfl) rfl rfl (wt_none' rfl) ?_
          refine sx_rd' (rd_move' rfl) rfl rfl (wt_none' rfl) ?_
          obtain ⟨r68, hr68, hp⟩ := bind_some hp
          refine sx_ox' (ox_callg' (ent_inv' rfl rfl (inv_any2 inv43_At)) (r3_Mat_At_sim _ _ _ hr68 : Go.Sx.Fn Tryd.prog 36 [(Vl (.pointer (some wa1))), (Vl (.int .i64 1)), (Vl (.int .i64 0))] [⟨.pointer (some wa1), [(Vl (.pointer (wa1_0).1))], 48, none⟩, (Rw Kf 22 (Vs wa1_0) r61.1)] (fun x : Unit => (Vl (.float .f64 r68.2))) (fun x => [⟨.pointer (some wa1), [(Vl (.pointer (wa1_0).1))], 48, none⟩, (Rw Kf 22 (Vs wa1_0) r68.1)])) [4, 5] [0, 1, 2, 3] (by decide) (pick_cons rfl (pick_cons rfl pick_nil)) (pick_cons rfl (pick_cons rfl (pick_cons rfl (pick_cons rfl pick_nil)))) (Hn := fun x : Unit => [⟨.pointer (some wa1), [(Vl (.pointer (wa1_0).1))], 48, none⟩, (Rw Kf 22 (Vs wa1_0) r68.1), ⟨.pointer (some wa0), [(Vl (.pointer ((some q42, 9, 9)).1))], 48, none⟩, (Rw Kf 77 (Vs (some q42, 9, 9)) r65), ⟨.pointer (some wa2), [(Vl (.pointer (wa2_0).1))], 48, none⟩, (Rw Kf 22 (Vs wa2_0) r63.1)]) (fun _ => rfl) rfl rfl) (wt_none' rfl) fun ⟨⟩ => ?_
          refine sx_rd' (rd_move' rfl) rfl rfl (wt_none' rfl) ?_
          obtain ⟨r70, hr70, hp⟩ := bind_some hp
          refine sx_ox' (ox_callg' (ent_inv' rfl rfl (inv_any2 inv43_At)) (r3_Mat_At_sim _ _ _ hr70 : Go.Sx.Fn Tryd.prog 36 [(Vl (.pointer (some wa2))), (Vl (.int .i64 1)), (Vl (.int .i64 0))] [⟨.pointer (some wa2), [(Vl (.pointer (wa2_0).1))], 48, none⟩, (Rw Kf 22 (Vs wa2_0) r63.1)] (fun x : Unit => (Vl (.float .f64 r70.2))) (fun x => [⟨.pointer (some wa2), [(Vl (.pointer (wa2_0).1))], 48, none⟩, (Rw Kf 22 (Vs wa2_0) r70.1)])) [4, 5] [0, 1, 2, 3] (by decide) (pick_cons rfl (pick_cons rfl pick_nil)) (pick_cons rfl (pick_cons rfl (pick_cons rfl (pick_cons rfl pick_nil)))) (Hn := fun x : Unit => [⟨.pointer (some wa2), [(Vl (.pointer (wa2_0).1))], 48, none⟩, (Rw Kf 22 (Vs wa2_0) r70.1), ⟨.pointer (some wa1), [(Vl (.pointer (wa1_0).1))], 48, none⟩, (Rw Kf 22 (Vs wa1_0) r68.1), ⟨.pointer (some wa0), [(Vl (.pointer ((some q42, 9, 9)).1))], 48, none⟩, (Rw Kf 77 (Vs (some q42, 9, 9)) r65)]) (fun _ => rfl) rfl rfl) (wt_none' rfl) fun ⟨⟩ => ?_
          obtain ⟨r71, hr71, hp⟩ := bind_some hp
          refine sx_ox' (ox_fop' (.inl rfl) (fl_v rfl) (fl_v rfl) (Option.some.inj hr71) rfl rfl) (wt_none' rfl) fun _ => ?_
          obtain ⟨u4, hu4, hp⟩ := bind_some hp
          refine tx_slot' 71 (y := (Vl (.float .f64 r71))) rfl (imp_num (num_some hu4).2) ?_
          obtain ⟨r72, hr72, hp⟩ := bind_some hp
          refine sx_ox' (ox_callg' (ent_fn' Tryd.func37 isn37 rfl rfl) (r3_Mat_Set_sim _ _ _ _ hr72 : Go.Sx.Fn Tryd.prog 37 [(Vl (.pointer (some wa0))), (Vl (.int .i64 1)), (Vl (.int .i64 0)), (Vl (.float .f64 r71))] [⟨.pointer (some wa0), [(Vl (.pointer ((some q42, 9, 9)).1))], 48, none⟩, (Rw Kf 77 (Vs (some q42, 9, 9)) r65)] (fun x : Unit => (Vl (.tuple #[]))) (fun x => [⟨.pointer (some wa0), [(Vl (.pointer ((some q42, 9, 9)).1))], 48, none⟩, (Rw Kf 77 (Vs (some q42, 9, 9)) r72)])) [4, 5] [0, 1, 2, 3] (by decide) (pick_cons rfl (pick_cons rfl pick_nil)) (pick_cons rfl (pick_cons rfl (pick_cons rfl (pick_cons rfl pick_nil)))) (Hn := fun x : Unit => [⟨.pointer (some wa0), [(Vl (.pointer ((some q42, 9, 9)).1))], 48, none⟩, (Rw Kf 77 (Vs (some q42, 9, 9)) r72), ⟨.pointer (some wa2), [(Vl (.pointer (wa2_0).1))], 48, none⟩, (Rw Kf 22 (Vs wa2_0) r70.1), ⟨.pointer (some wa1), [(Vl (.pointer (wa1_0).1))], 48, none⟩, (Rw Kf 22 (Vs wa1_0) r68.1)]) (fun _ => rfl) rfl rfl) (wt_none' rfl) fun ⟨⟩ => ?_
          refine sx_nil' ?_
          show TX E K14 _
          refine tx_k' hK14 ?_
          refine cx_seq' fun K15 hK15 => ?_
          refine cx_region' ?_
          refine sx_rd' (rd_move' rfl) rfl rfl (wt_none' rfl) ?_
          refine sx_rd' (rd_move' rfl) rfl rfl (wt_none' rfl) ?_
          obtain ⟨r75, hr75, hp⟩ := bind_some hp
          refine sx_ox' (ox_callg' (ent_inv' rfl rfl (inv_any2 inv43_At)) (r3_Mat_At_sim _ _ _ hr75 : Go.Sx.Fn Tryd.prog 36 [(Vl (.pointer (some wa1))), (Vl (.int .i64 1)), (Vl (.int .i64 1))] [⟨.pointer (some wa1), [(Vl (.pointer (wa1_0).1))], 48, none⟩, (Rw Kf 22 (Vs wa1_0) r68.1)] (fun x : Unit => (Vl (.float .f64 r75.2))) (fun x => [⟨.pointer (some wa1), [(Vl (.pointer (wa1_0).1))], 48, none⟩, (Rw Kf 22 (Vs wa1_0) r75.1)])) [4, 5] [0, 1, 2, 3] (by decide) (pick_cons rfl (pick_cons rfl pick_nil)) (pick_cons rfl (pick_cons rfl (pick_cons rfl (pick_cons rfl pick_nil)))) (Hn := fun x : Unit => [⟨.pointer (some wa1), [(Vl (.pointer (wa1_0).1))], 48, none⟩, (Rw Kf 22 (Vs wa1_0) r75.1), ⟨.pointer (some wa0), [(Vl (.pointer ((some q42, 9, 9)).1))], 48, none⟩, (Rw Kf 77 (Vs (some q42, 9, 9)) r72), ⟨.pointer (some wa2), [(Vl (.pointer (wa2_0).1))], 48, none⟩, (Rw Kf 22 (Vs wa2_0) r70.1)]) (fun _ => rfl) rfl rfl) (wt_none' rfl) fun ⟨⟩ => ?_
          refine sx_rd' (rd_move' rfl) rfl rfl (wt_none' rfl) ?_
          obtain ⟨r77, hr77, hp⟩ := bind_some hp
          refine sx_ox' (ox_callg' (ent_inv' rfl rfl (inv_any2 inv43_At)) (r3_Mat_At_sim _ _ _ hr77 : Go.Sx.Fn Tryd.prog 36 [(Vl (.pointer (some wa2))), (Vl (.int .i64 1)), (Vl (.int .i64 1))] [⟨.pointer (some wa2), [(Vl (.pointer (wa2_0).1))], 48, none⟩, (Rw Kf 22 (Vs wa2_0) r70.1)] (fun x : Unit => (Vl (.float .f64 r77.2))) (fun x => [⟨.pointer (some wa2), [(Vl (.pointer (wa2_0).1))], 48, none⟩, (Rw Kf 22 (Vs wa2_0) r77.1)])) [4, 5] [0, 1, 2, 3] (by decide) (pick_cons rfl (pick_cons rfl pick_nil)) (pick_cons rfl (pick_cons rfl (pick_cons rfl (pick_cons rfl pick_nil)))) (Hn := fun x : Unit => [⟨.pointer (some wa2), [(Vl (.pointer (wa2_0).1))], 48, none⟩, (Rw Kf 22 (Vs wa2_0) r77.1), ⟨.pointer (some wa1), [(Vl (.pointer (wa1_0).1))], 48, none⟩, (Rw Kf 22 (Vs wa1_0) r75.1), ⟨.pointer (some wa0), [(Vl (.pointer ((some q42, 9, 9)).1))], 48, none⟩, (Rw Kf 77 (Vs (some q42, 9, 9)) r72)]) (fun _ => rfl) rfl rfl) (wt_none' rfl) fun ⟨⟩ => ?_
          obtain ⟨r78, hr78, hp⟩ := bind_some hp
          refine sx_ox' (ox_fop' (.inl rfl) (fl_v rfl) (fl_v rfl) (Option.some.inj hr78) rfl rfl) (wt_none' rfl) fun _ => ?_
          obtain ⟨u5, hu5, hp⟩ := bind_some hp
          refine tx_slot' 78 (y := (Vl (.float .f64 r78))) rfl (imp_num (num_some hu5).2) ?_
          obtain ⟨r79, hr79, hp⟩ := bind_some hp
          refine sx_ox' (ox_callg' (ent_fn' Tryd.func37 isn37 rfl rfl) (r3_Mat_Set_sim _ _ _ _ hr79 : Go.Sx.Fn Tryd.prog 37 [(Vl (.pointer (some wa0))), (Vl (.int .i64 1)), (Vl (.int .i64 1)), (Vl (.float .f64 r78))] [⟨.pointer (some wa0), [(Vl (.pointer ((some q42, 9, 9)).1))], 48, none⟩, (Rw Kf 77 (Vs (some q42, 9, 9)) r72)] (fun x : Unit => (Vl (.tuple #[]))) (fun x => [⟨.pointer (some wa0), [(Vl (.pointer ((some q42, 9, 9)).1))], 48, none⟩, (Rw Kf 77 (Vs (some q42, 9, 9)) r79)])) [4, 5] [0, 1, 2, 3] (by decide) (pick_cons rfl (pick_cons rfl pick_nil)) (pick_cons rfl (pick_cons rfl (pick_cons rfl (pick_cons rfl pick_nil)))) (Hn := fun x : Unit => [⟨.pointer (some wa0), [(Vl (.pointer ((some q42, 9, 9)).1))], 48, none⟩, (Rw Kf 77 (Vs (some q42, 9, 9)) r79), ⟨.pointer (some wa2), [(Vl (.pointer (wa2_0).1))], 48, none⟩, (Rw Kf 22 (Vs wa2_0) r77.1), ⟨.pointer (some wa1), [(Vl (.pointer (wa1_0).1))], 48, none⟩, (Rw Kf 22 (Vs wa1_0) r75.1)]) (fun _ => rfl) rfl rfl) (wt_none' rfl) fun ⟨⟩ => ?_
          refine sx_nil' ?_
          show TX E K15 _
          refine tx_k' hK15 ?_
          refine cx_seq' fun K16 hK16 => ?_
          refine cx_region' ?_
          refine sx_rd' (rd_move' rfl) rfl rfl (wt_none' rfl) ?_
          refine sx_rd' (rd_move' rfl) rfl rfl (wt_none' rfl) ?_
          obtain ⟨r82, hr82, hp⟩ := bind_some hp
          refine sx_ox' (ox_callg' (ent_inv' rfl rfl (inv_any2 inv43_At)) (r3_Mat_At_sim _ _ _ hr82 : Go.Sx.Fn Tryd.prog 36 [(Vl (.pointer (some wa1))), (Vl (.int .i64 1)), (Vl (.int .i64 2))] [⟨.pointer (some wa1), [(Vl (.pointer (wa1_0).1))], 48, none⟩, (Rw Kf 22 (Vs wa1_0) r75.1)] (fun x : Unit => (Vl (.float .f64 r82.2))) (fun x => [⟨.pointer (some wa1), [(Vl (.pointer (wa1_0).1))], 48, none⟩, (Rw Kf 22 (Vs wa1_0) r82.1)])) [4, 5] [0, 1, 2, 3] (by decide) (pick_cons rfl (pick_cons rfl pick_nil)) (pick_cons rfl (pick_cons rfl (pick_cons rfl (pick_cons rfl pick_nil)))) (Hn := fun x : Unit => [⟨.pointer (some wa1), [(Vl (.pointer (wa1_0).1))], 48, none⟩, (Rw Kf 22 (Vs wa1_0) r82.1), ⟨.pointer (some wa0), [(Vl (.pointer ((some q42, 9, 9)).1))], 48, none⟩, (Rw Kf 77 (Vs (some q42, 9, 9)) r79), ⟨.pointer (some wa2), [(Vl (.pointer (wa2_0).1))], 48, none⟩, (Rw Kf 22 (Vs wa2_0) r77.1)]) (fun _ => rfl) rfl rfl) (wt_none' rfl) fun ⟨⟩ => ?_
          refine sx_rd' (rd_move' rfl) rfl rfl (wt_none' rfl) ?_
          obtain ⟨r84, hr84, hp⟩ := bind_some hp
          refine sx_ox' (ox_callg' (ent_inv' rfl rfl (inv_any2 inv43_At)) (r3_Mat_At_sim _ _ _ hr84 : Go.Sx.Fn Tryd.prog 36 [(Vl (.pointer (some wa2))), (Vl (.int .i64 1)), (Vl (.int .i64 2))] [⟨.pointer (some wa2), [(Vl (.pointer (wa2_0).1))], 48, none⟩, (Rw Kf 22 (Vs wa2_0) r77.1)] (fun x : Unit => (Vl (.float .f64 r84.2))) (fun x => [⟨.pointer (some wa2), [(Vl (.pointer (wa2_0).1))], 48, none⟩, (Rw Kf 22 (Vs wa2_0) r84.1)])) [4, 5] [0, 1, 2, 3] (by decide) (pick_cons rfl (pick_cons rfl pick_nil)) (pick_cons rfl (pick_cons rfl (pick_cons rfl (pick_cons rfl pick_nil)))) (Hn := fun x : Unit => [⟨.pointer (some wa2), [(Vl (.pointer (wa2_0).1))], 48, none⟩, (Rw Kf 22 (Vs wa2_0) r84.1), ⟨.pointer (some wa1), [(Vl (.pointer (wa1_0).1))], 48, none⟩, (Rw Kf 22 (Vs wa1_0) r82.1), ⟨.pointer (some wa0), [(Vl (.pointer ((some q42, 9, 9)).1))], 48, none⟩, (Rw Kf 77 (Vs (some q42, 9, 9)) r79)]) (fun _ => rfl) rfl rfl) (wt_none' rfl) fun ⟨⟩ => ?_
          obtain ⟨r85, hr85, hp⟩ := bind_some hp
          refine sx_ox' (ox_fop' (.inl rfl) (fl_v rfl) (fl_v rfl) (Option.some.inj hr85) rfl rfl) (wt_none' rfl) fun _ => ?_
          obtain ⟨u6, hu6, hp⟩ := bind_some hp
          refine tx_slot' 85 (y := (Vl (.float .f64 r85))) rfl (imp_num (num_some hu6).2) ?_
          obtain ⟨r86, hr86, hp⟩ := bind_some hp
          refine sx_ox' (ox_callg' (ent_fn' Tryd.func37 isn37 rfl rfl) (r3_Mat_Set_sim _ _ _ _ hr86 : Go.Sx.Fn Tryd.prog 37 [(Vl (.pointer (some wa0))), (Vl (.int .i64 1)), (Vl (.int .i64 2)), (Vl (.float .f64 r85))] [⟨.pointer (some wa0), [(Vl (.pointer ((some q42, 9, 9)).1))], 48, none⟩, (Rw Kf 77 (Vs (some q42, 9, 9)) r79)] (fun x : Unit => (Vl (.tuple #[]))) (fun x => [⟨.pointer (some wa0), [(Vl (.pointer ((some q42, 9, 9)).1))], 48, none⟩, (Rw Kf 77 (Vs (some q42, 9, 9)) r86)])) [4, 5] [0, 1, 2, 3] (by decide) (pick_cons rfl (pick_cons rfl pick_nil)) (pick_cons rfl (pick_cons rfl (pick_cons rfl (pick_cons rfl pick_nil)))) (Hn := fun x : Unit => [⟨.pointer (some wa0), [(Vl (.pointer ((some q42, 9, 9)).1))], 48, none⟩, (Rw Kf 77 (Vs (some q42, 9, 9)) r86), ⟨.pointer (some wa2), [(Vl (.pointer (wa2_0).1))], 48, none⟩, (Rw Kf 22 (Vs wa2_0) r84.1), ⟨.pointer (some wa1), [(Vl (.pointer (wa1_0).1))], 48, none⟩, (Rw Kf 22 (Vs wa1_0) r82.1)]) (fun _ => rfl) rfl rfl) (wt_none' rfl) fun ⟨⟩ => ?_
          refine sx_nil' ?_
          show TX E K16 _
          refine tx_k' hK16 ?_
          refine cx_seq' fun K17 hK17 => ?_
          refine cx_region' ?_
          refine sx_rd' (rd_move' rfl) rfl rfl (wt_none' rfl) ?_
          refine sx_rd' (rd_move' rfl) rfl rfl (wt_none' rfl) ?_
          obtain ⟨r89, hr89, hp⟩ := bind_some hp
          refine sx_ox' (ox_callg' (ent_inv' rfl rfl (inv_any2 inv43_At)) (r3_Mat_At_sim _ _ _ hr89 : Go.Sx.Fn Tryd.prog 36 [(Vl (.pointer (some wa1))), (Vl (.int .i64 2)), (Vl (.int .i64 0))] [⟨.pointer (some wa1), [(Vl (.pointer (wa1_0).1))], 48, none⟩, (Rw Kf 22 (Vs wa1_0) r82.1)] (fun x : Unit => (Vl (.float .f64 r89.2))) (fun x => [⟨.pointer (some wa1), [(Vl (.pointer (wa1_0).1))], 48, none⟩, (Rw Kf 22 (Vs wa1_0) r89.1)])) [4, 5] [0, 1, 2, 3] (by decide) (pick_cons rfl (pick_cons rfl pick_nil)) (pick_cons rfl (pick_cons rfl (pick_cons rfl (pick_cons rfl pick_nil)))) (Hn := fun x : Unit => [⟨.pointer (some wa1), [(Vl (.pointer (wa1_0).1))], 48, none⟩, (Rw Kf 22 (Vs wa1_0) r89.1), ⟨.pointer (some wa0), [(Vl (.pointer ((some q42, 9, 9)).1))], 48, none⟩, (Rw Kf 77 (Vs (some q42, 9, 9)) r86), ⟨.pointer (some wa2), [(Vl (.pointer (wa2_0).1))], 48, none⟩, (Rw Kf 22 (Vs wa2_0) r84.1)]) (fun _ => rfl) rfl rfl) (wt_none' rfl) fun ⟨⟩ => ?_
          refine sx_rd' (rd_move' rfl) rfl rfl (wt_none' rfl) ?_
          obtain ⟨r91, hr91, hp⟩ := bind_some hp
          refine sx_ox' (ox_callg' (ent_inv' rfl rfl (inv_any2 inv43_At)) (r3_Mat_At_sim _ _ _ hr91 : Go.Sx.Fn Tryd.prog 36 [(Vl (.pointer (some wa2))), (Vl (.int .i64 2)), (Vl (.int .i64 0))] [⟨.pointer (some wa2), [(Vl (.pointer (wa2_0).1))], 48, none⟩, (Rw Kf 22 (Vs wa2_0) r84.1)] (fun x : Unit => (Vl (.float .f64 r91.2))) (fun x => [⟨.pointer (some wa2), [(Vl (.pointer (wa2_0).1))], 48, none⟩, (Rw Kf 22 (Vs wa2_0) r91.1)])) [4, 5] [0, 1, 2, 3] (by decide) (pick_cons rfl (pick_cons rfl pick_nil)) (pick_cons rfl (pick_cons rfl (pick_cons rfl (pick_cons rfl pick_nil)))) (Hn := fun x : Unit => [⟨.pointer (some wa2), [(Vl (.pointer (wa2_0).1))], 48, none⟩, (Rw Kf 22 (Vs wa2_0) r91.1), ⟨.pointer (some wa1), [(Vl (.pointer (wa1_0).1))], 48, none⟩, (Rw Kf 22 (Vs wa1_0) r89.1), ⟨.pointer (some wa0), [(Vl (.pointer ((some q42, 9, 9)).1))], 48, none⟩, (Rw Kf 77 (Vs (some q42, 9, 9)) r86)]) (fun _ => rfl) rfl rfl) (wt_none' rfl) fun ⟨⟩ => ?_
          obtain ⟨r92, hr92, hp⟩ := bind_some hp
          refine sx_ox' (ox_fop' (.inl rfl) (fl_v rfl) (fl_v rfl) (Option.some.inj hr92) rfl rfl) (wt_none' rfl) fun _ => ?_
          obtain ⟨u7, hu7, hp⟩ := bind_some hp
          refine tx_slot' 92 (y := (Vl (.float .f64 r92))) rfl (imp_num (num_some hu7).2) ?_
          obtain ⟨r93, hr93, hp⟩ := bind_some hp
          refine sx_ox' (ox_callg' (ent_fn' Tryd.func37 isn37 rfl rfl) (r3_Mat_Set_sim _ _ _ _ hr93 : Go.Sx.Fn Tryd.prog 37 [(Vl (.pointer (some wa0))), (Vl (.int .i64 2)), (Vl (.int .i64 0)), (Vl (.float .f64 r92))] [⟨.pointer (some wa0), [(Vl (.pointer ((some q42, 9, 9)).1))], 48, none⟩, (Rw Kf 77 (Vs (some q42, 9, 9)) r86)] (fun x : Unit => (Vl (.tuple #[]))) (fun x => [⟨.pointer (some wa0), [(Vl (.pointer ((some q42, 9, 9)).1))], 48, none⟩, (Rw Kf 77 (Vs (some q42, 9, 9)) r93)])) [4, 5] [0, 1, 2, 3] (by decide) (pick_cons rfl (pick_cons rfl pick_nil)) (pick_cons rfl (pick_cons rfl (pick_cons rfl (pick_cons rfl pick_nil)))) (Hn := fun x : Unit => [⟨.pointer (some wa0), [(Vl (.pointer ((some q42, 9, 9)).1))], 48, none⟩, (Rw Kf 77 (Vs (some q42, 9, 9)) r93), ⟨.pointer (some wa2), [(Vl (.pointer (wa2_0).1))], 48, none⟩, (Rw Kf 22 (Vs wa2_0) r91.1), ⟨.pointer (some wa1), [(Vl (.pointer (wa1_0).1))], 48, none⟩, (Rw Kf 22 (Vs wa1_0) r89.1)]) (fun _ => rfl) rfl rfl) (wt_none' rfl) fun ⟨⟩ => ?_
          refine sx_nil' ?_
          show TX E K17 _
          refine tx_k' hK17 ?_
          refine cx_seq' fun K18 hK18 => ?_
          refine cx_region' ?_
          refine sx_rd' (rd_move' rfl) rfl rfl (wt_none' rfl) ?_
          refine sx_rd' (rd_move' rfl) rfl rfl (wt_none' rfl) ?_
          obtain ⟨r96, hr96, hp⟩ := bind_some hp
          refine sx_ox' (ox_callg' (ent_inv' rfl rfl (inv_any2 inv43_At)) (r3_Mat_At_sim _ _ _ hr96 : Go.Sx.Fn Tryd.prog 36 [(Vl (.pointer (some wa1))), (Vl (.int .i64 2)), (Vl (.int .i64 1))] [⟨.pointer (some wa1), [(Vl (.pointer (wa1_0).1))], 48, none⟩, (Rw Kf 22 (Vs wa1_0) r89.1)] (fun x : Unit => (Vl (.float .f64 r96.2))) (fun x => [⟨.pointer (some wa1), [(Vl (.pointer (wa1_0).1))], 48, none⟩, (Rw Kf 22 (Vs wa1_0) r96.1)])) [4, 5] [0, 1, 2, 3] (by decide) (pick_cons rfl (pick_cons rfl pick_nil)) (pick_cons rfl (pick_cons rfl (pick_cons rfl (pick_cons rfl pick_nil)))) (Hn := fun x : Unit => [⟨.pointer (some wa1), [(Vl (.pointer (wa1_0).1))], 48, none⟩, (Rw Kf 22 (Vs wa1_0) r96.1), ⟨.pointer (some wa0), [(Vl (.pointer ((some q42, 9, 9)).1))], 48, none⟩, (Rw Kf 77 (Vs (some q42, 9, 9)) r93), ⟨.pointer (some wa2), [(Vl (.pointer (wa2_0).1))], 48, none⟩, (Rw Kf 22 (Vs wa2_0) r91.1)]) (fun _ => rfl) rfl rfl) (wt_none' rfl) fun ⟨⟩ => ?_
          refine sx_rd' (rd_move' rfl) rfl rfl (wt_none' rfl) ?_
          obtain ⟨r98, hr98, hp⟩ := bind_some hp
          refine sx_ox' (ox_callg' (ent_inv' rfl rfl (inv_any2 inv43_At)) (r3_Mat_At_sim _ _ _ hr98 : Go.Sx.Fn Tryd.prog 36 [(Vl (.pointer (some wa2))), (Vl (.int .i64 2)), (Vl (.int .i64 1))] [⟨.pointer (some wa2), [(Vl (.pointer (wa2_0).1))], 48, none⟩, (Rw Kf 22 (Vs wa2_0) r91.1)] (fun x : Unit => (Vl (.float .f64 r98.2))) (fun x => [⟨.pointer (some wa2), [(Vl (.pointer (wa2_0).1))], 48, none⟩, (Rw Kf 22 (Vs wa2_0) r98.1)])) [4, 5] [0, 1, 2, 3] (by decide) (pick_cons rfl (pick_cons rfl pick_nil)) (pick_cons rfl (pick_cons rfl (pick_cons rfl (pick_cons rfl pick_nil)))) (Hn := fun x : Unit => [⟨.pointer (some wa2), [(Vl (.pointer (wa2_0).1))], 48, none⟩, (Rw Kf 22 (Vs wa2_0) r98.1), ⟨.pointer (some wa1), [(Vl (.pointer (wa1_0).1))], 48, none⟩, (Rw Kf 22 (Vs wa1_0) r96.1), ⟨.pointer (some wa0), [(Vl (.pointer ((some q42, 9, 9)).1))], 48, none⟩, (Rw Kf 77 (Vs (some q42, 9, 9)) r93)]) (fun _ => rfl) rfl rfl) (wt_none' rfl) fun ⟨⟩ => ?_
          obtain ⟨r99, hr99, hp⟩ := bind_some hp
          refine sx_ox' (ox_fop' (.inl rfl) (fl_v rfl) (fl_v rfl) (Option.some.inj hr99) rfl rfl) (wt_none' rfl) fun _ => ?_
          obtain ⟨u8, hu8, hp⟩ := bind_some hp
          refine tx_slot' 99 (y := (Vl (.float .f64 r99))) rfl (imp_num (num_some hu8).2) ?_
          obtain ⟨r100, hr100, hp⟩ := bind_some hp
          refine sx_ox' (ox_callg' (ent_fn' Tryd.func37 isn37 rfl rfl) (r3_Mat_Set_sim _ _ _ _ hr100 : Go.Sx.Fn Tryd.prog 37 [(Vl (.pointer (some wa0))), (Vl (.int .i64 2)), (Vl (.int .i64 1)), (Vl (.float .f64 r99))] [⟨.pointer (some wa0), [(Vl (.pointer ((some q42, 9, 9)).1))], 48, none⟩, (Rw Kf 77 (Vs (some q42, 9, 9)) r93)] (fun x : Unit => (Vl (.tuple #[]))) (fun x => [⟨.pointer (some wa0), [(Vl (.pointer ((some q42, 9, 9)).1))], 48, none⟩, (Rw Kf 77 (Vs (some q42, 9, 9)) r100)])) [4, 5] [0, 1, 2, 3] (by decide) (pick_cons rfl (pick_cons rfl pick_nil)) (pick_cons rfl (pick_cons rfl (pick_cons rfl (pick_cons rfl pick_nil)))) (Hn := fun x : Unit => [⟨.pointer (some wa0), [(Vl (.pointer ((some q42, 9, 9)).1))], 48, none⟩, (Rw Kf 77 (Vs (some q42, 9, 9)) r100), ⟨.pointer (some wa2), [(Vl (.pointer (wa2_0).1))], 48, none⟩, (Rw Kf 22 (Vs wa2_0) r98.1), ⟨.pointer (some wa1), [(Vl (.pointer (wa1_0).1))], 48, none⟩, (Rw Kf 22 (Vs wa1_0) r96.1)]) (fun _ => rfl) rfl rfl) (wt_none' rfl) fun ⟨⟩ => ?_
          refine sx_nil' ?_
          show TX E K18 _
          refine tx_k' hK18 ?_
          refine cx_region' ?_
          refine sx_rd' (rd_move' rfl) rfl rfl (wt_none' rfl) ?_
          refine sx_rd' (rd_move' rfl) rfl rfl (wt_none' rfl) ?_
          obtain ⟨r103, hr103, hp⟩ := bind_some hp
          refine sx_ox' (ox_callg' (ent_inv' rfl rfl (inv_any2 inv43_At)) (r3_Mat_At_sim _ _ _ hr103 : Go.Sx.Fn Tryd.prog 36 [(Vl (.pointer (some wa1))), (Vl (.int .i64 2)), (Vl (.int .i64 2))] [⟨.pointer (some wa1), [(Vl (.pointer (wa1_0).1))], 48, none⟩, (Rw Kf 22 (Vs wa1_0) r96.1)] (fun x : Unit => (Vl (.float .f64 r103.2))) (fun x => [⟨.pointer (some wa1), [(Vl (.pointer (wa1_0).1))], 48, none⟩, (Rw Kf 22 (Vs wa1_0) r103.1)])) [4, 5] [0, 1, 2, 3] (by decide) (pick_cons rfl (pick_cons rfl pick_nil)) (pick_cons rfl (pick_cons rfl (pick_cons rfl (pick_cons rfl pick_nil)))) (Hn := fun x : Unit => [⟨.pointer (some wa1), [(Vl (.pointer (wa1_0).1))], 48, none⟩, (Rw Kf 22 (Vs wa1_0) r103.1), ⟨.pointer (some wa0), [(Vl (.pointer ((some q42, 9, 9)).1))], 48, none⟩, (Rw Kf 77 (Vs (some q42, 9, 9)) r100), ⟨.pointer (some wa2), [(Vl (.pointer (wa2_0).1))], 48, none⟩, (Rw Kf 22 (Vs wa2_0) r98.1)]) (fun _ => rfl) rfl rfl) (wt_none' rfl) fun ⟨⟩ => ?_
          refine sx_rd' (rd_move' rfl) rfl rfl (wt_none' rfl) ?_
          obtain ⟨r105, hr105, hp⟩ := bind_some hp
          refine sx_ox' (ox_callg' (ent_inv' rfl rfl (inv_any2 inv43_At)) (r3_Mat_At_sim _ _ _ hr105 : Go.Sx.Fn Tryd.prog 36 [(Vl (.pointer (some wa2))), (Vl (.int .i64 2)), (Vl (.int .i64 2))] [⟨.pointer (some wa2), [(Vl (.pointer (wa2_0).1))], 48, none⟩, (Rw Kf 22 (Vs wa2_0) r98.1)] (fun x : Unit => (Vl (.float .f64 r105.2))) (fun x => [⟨.pointer (some wa2), [(Vl (.pointer (wa2_0).1))], 48, none⟩, (Rw Kf 22 (Vs wa2_0) r105.1)])) [4, 5] [0, 1, 2, 3] (by decide) (pick_cons rfl (pick_cons rfl pick_nil)) (pick_cons rfl (pick_cons rfl (pick_cons rfl (pick_cons rfl pick_nil)))) (Hn := fun x : Unit => [⟨.pointer (some wa2), [(Vl (.pointer (wa2_0).1))], 48, none⟩, (Rw Kf 22 (Vs wa2_0) r105.1), ⟨.pointer (some wa1), [(Vl (.pointer (wa1_0).1))], 48, none⟩, (Rw Kf 22 (Vs wa1_0) r103.1), ⟨.pointer (some wa0), [(Vl (.pointer ((some q42, 9, 9)).1))], 48, none⟩, (Rw Kf 77 (Vs (some q42, 9, 9)) r100)]) (fun _ => rfl) rfl rfl) (wt_none' rfl) fun ⟨⟩ => ?_
          obtain ⟨r106, hr106, hp⟩ := bind_some hp
          refine sx_ox' (ox_fop' (.inl rfl) (fl_v rfl) (fl_v rfl) (Option.some.inj hr106) rfl rfl) (wt_none' rfl) fun _ => ?_
          obtain ⟨u9, hu9, hp⟩ := bind_some hp
          refine tx_slot' 106 (y := (Vl (.float .f64 r106))) rfl (imp_num (num_some hu9).2) ?_
          obtain ⟨r107, hr107, hp⟩ := bind_some hp
          refine sx_ox' (ox_callg' (ent_fn' Tryd.func37 isn37 rfl rfl) (r3_Mat_Set_sim _ _ _ _ hr107 : Go.Sx.Fn Tryd.prog 37 [(Vl (.pointer (some wa0))), (Vl (.int .i64 2)), (Vl (.int .i64 2)), (Vl (.float .f64 r106))] [⟨.pointer (some wa0), [(Vl (.pointer ((some q42, 9, 9)).1))], 48, none⟩, (Rw Kf 77 (Vs (some q42, 9, 9)) r100)] (fun x : Unit => (Vl (.tuple #[]))) (fun x => [⟨.pointer (some wa0), [(Vl (.pointer ((some q42, 9, 9)).1))], 48, none⟩, (Rw Kf 77 (Vs (some q42, 9, 9)) r107)])) [4, 5] [0, 1, 2, 3] (by decide) (pick_cons rfl (pick_cons rfl pick_nil)) (pick_cons rfl (pick_cons rfl (pick_cons rfl (pick_cons rfl pick_nil)))) (Hn := fun x : Unit => [⟨.pointer (some wa0), [(Vl (.pointer ((some q42, 9, 9)).1))], 48, none⟩, (Rw Kf 77 (Vs (some q42, 9, 9)) r107), ⟨.pointer (some wa2), [(Vl (.pointer (wa2_0).1))], 48, none⟩, (Rw Kf 22 (Vs wa2_0) r105.1), ⟨.pointer (some wa1), [(Vl (.pointer (wa1_0).1))], 48, none⟩, (Rw Kf 22 (Vs wa1_0) r103.1)]) (fun _ => rfl) rfl rfl) (wt_none' rfl) fun ⟨⟩ => ?_
          refine sx_nil' ?_
          replace hp := Option.some.inj hp
          subst hp
          refine tx_pick' (L' := []) (H' := [⟨.pointer (some wa0), [(Vl (.pointer ((some q42, 9, 9)).1))], 48, none⟩, (Rw Kf 77 (Vs (some q42, 9, 9)) r107), ⟨.pointer (some wa1), [(Vl (.pointer (wa1_0).1))], 48, none⟩, (Rw Kf 22 (Vs wa1_0) r103.1), ⟨.pointer (some wa2), [(Vl (.pointer (wa2_0).1))], 48, none⟩, (Rw Kf 22 (Vs wa2_0) r105.1)]) [0, 1, 4, 5, 2, 3] sub_nil (by decide) (pick_cons rfl (pick_cons rfl (pick_cons rfl (pick_cons rfl (pick_cons rfl (pick_cons rfl pick_nil)))))) ?_
          exact tx_end0' Tryd.results22 rfl q42 rfl (List.Sublist.refl _)
      · intro K8 hK8
        rcases br_cases hp with ⟨h3, hp⟩ | ⟨h3, hp⟩
        · refine sx_skip' rfl rfl (wt_is' (wt_guard' rfl rfl rfl) (beq_tf h3)) ?_
          refine sx_skip' rfl rfl (wt_is' (wt_guard' rfl rfl rfl) (beq_tf h3)) ?_
          refine sx_rd' (rd_pick_true' rfl h3 rfl) rfl rfl (wt_none' rfl) ?_
          refine sx_nil' ?_
          show TX E K8 _
          exact tx_pick' [2, 3, 4, 0, 1] (sub_cons rfl (sub_cons rfl (sub_cons rfl (sub_cons rfl sub_nil)))) (by decide) (pick_cons rfl (pick_cons rfl (pick_cons rfl (pick_cons rfl (pick_cons rfl pick_nil))))) (hK8 true hp)
        · refine sx_rd' (rd_move' rfl) rfl rfl (wt_is' (wt_guard' rfl rfl rfl) (beq_ff h3)) ?_
          refine sx_rd' (rd_bin' rfl rfl eg_int ru_neq) rfl rfl (wt_is' (wt_guard' rfl rfl rfl) (beq_ff h3)) ?_
          refine sx_rd' (rd_pick_false' rfl h3 rfl) rfl rfl (wt_none' rfl) ?_
          refine sx_nil' ?_
          show TX E K8 _
          exact tx_pick' [2, 3, 4, 0, 1] (sub_cons rfl (sub_cons rfl (sub_cons rfl (sub_cons rfl sub_nil)))) (by decide) (pick_cons rfl (pick_cons rfl (pick_cons rfl (pick_cons rfl (pick_cons rfl pick_nil))))) (hK8 (!decide (r25.2 = 3)) hp)
  · intro K4 hK4
    rcases br_cases hp with ⟨h1, hp⟩ | ⟨h1, hp⟩
    · refine sx_skip' rfl rfl (wt_is' (wt_guard' rfl rfl rfl) (beq_tf h1)) ?_
      refine sx_skip' rfl rfl (wt_is' (wt_guard' rfl rfl rfl) (beq_tf h1)) ?_
      refine sx_rd' (rd_pick_true' rfl h1 rfl) rfl rfl (wt_none' rfl) ?_
      refine sx_nil' ?_
      show TX E K4 _
      exact tx_pick' [2, 0, 1, 3, 4] (sub_cons rfl (sub_cons rfl (sub_cons rfl (sub_cons rfl sub_nil)))) (by decide) (pick_cons rfl (pick_cons rfl (pick_cons rfl (pick_cons rfl (pick_cons rfl pick_nil))))) (hK4 true hp)
    · refine sx_rd' (rd_move' rfl) rfl rfl (wt_is' (wt_guard' rfl rfl rfl) (beq_ff h1)) ?_
      refine sx_rd' (rd_bin' rfl rfl eg_int ru_neq) rfl rfl (wt_is' (wt_guard' rfl rfl rfl) (beq_ff h1)) ?_
      refine sx_rd' (rd_pick_false' rfl h1 rfl) rfl rfl (wt_none' rfl) ?_
      refine sx_nil' ?_
      show TX E K4 _
      exact tx_pick' [2, 0, 1, 3, 4] (sub_cons rfl (sub_cons rfl (sub_cons rfl (sub_cons rfl sub_nil)))) (by decide) (pick_cons rfl (pick_cons rfl (pick_cons rfl (pick_cons rfl (pick_cons rfl pick_nil))))) (hK4 (!decide (r12.2 = 3)) hp)

def r3_Mat_At_v2 (k : Nat) (a0_0 : List Nat) (a1 : Int) (a2 : Int) : Option ((List Nat) × Nat) :=
  br (decide (2 < (icv .u64 a1)))
    (none)
    (br (decide (2 < (icv .u64 a2)))
      (none)
      ((need 1 a0_0) >>= fun z1 =>
      (idxn 9 a0_0 (iadd .i64 (imul .i64 a1 3) a2)) >>= fun r35 =>
      some (a0_0, r35)))

theorem r3_Mat_At_v2_sim {k : Nat} {wa0 : Addr} {wa0_0 : Addr} (a0_0 : List Nat) (a1 : Int) (a2 : Int) {out : (List Nat) × Nat} (hp : r3_Mat_At_v2 k a0_0 a1 a2 = some out) : Go.Sx.Fn Tryd.prog 36 [(Vl (.pointer (some wa0))), (Vl (.int .i64 a1)), (Vl (.int .i64 a2))] [⟨.pointer (some wa0), [(Vl (.pointer ((some wa0_0, 9, 9)).1))], 48, none⟩, (Rw Kf 77 (Vs (some wa0_0, 9, 9)) a0_0)] (fun w : Unit => (Vl (.float .f64 out.2))) (fun w => [⟨.pointer (some wa0), [(Vl (.pointer ((some wa0_0, 9, 9)).1))], 48, none⟩, (Rw Kf 77 (Vs (some wa0_0, 9, 9)) out.1)]) := by
  unfold r3_Mat_At_v2 at hp
  refine fn_of Tryd.func36 rfl Tryd.ntmps36 rfl fun E hM => ?_
  refine cx_seq' fun K1 hK1 => ?_
  refine cx_region' ?_
  refine sx_rd' (rd_assign' rfl) rfl rfl (wt_none' rfl) ?_
  refine sx_nil' ?_
  show TX E K1 _
  refine tx_k' hK1 ?_
  refine cx_seq' fun K2 hK2 => ?_
  refine cx_seq' fun K3 hK3 => ?_
  refine cx_region' ?_
  refine sx_rd' (rd_move' rfl) rfl rfl (wt_none' rfl) ?_
  refine sx_rd' (rd_conv' rfl (ru_i2i (by rw [Tryd.underlying3]; rfl) Tryd.underlying82)) rfl rfl (wt_none' rfl) ?_
  refine sx_rd' (rd_bin' rfl rfl eg_int ru_gtr) rfl rfl (wt_none' rfl) ?_
  refine sx_nil' ?_
  show TX E K3 _
  refine tx_k' hK3 ?_
  refine cx_cond' rfl (fun h1 => ?_) (fun h1 => ?_)
  · replace hp := (br_t h1).symm.trans hp
    cases hp
  · replace hp := (br_f h1).symm.trans hp
    refine cx_skip' ?_
    show TX E K2 _
    refine tx_k' hK2 ?_
    refine cx_seq' fun K4 hK4 => ?_
    refine cx_seq' fun K5 hK5 => ?_
    refine cx_region' ?_
    refine sx_rd' (rd_move' rfl) rfl rfl (wt_none' rfl) ?_
    refine sx_rd' (rd_conv' rfl (ru_i2i (by rw [Tryd.underlying3]; rfl) Tryd.underlying82)) rfl rfl (wt_none' rfl) ?_
    refine sx_rd' (rd_bin' rfl rfl eg_int ru_gtr) rfl rfl (wt_none' rfl) ?_
    refine sx_nil' ?_
    show TX E K5 _
    refine tx_k' hK5 ?_
    refine cx_cond' rfl (fun h2 => ?_) (fun h2 => ?_)
    · replace hp := (br_t h2).symm.trans hp
      cases hp
    · replace hp := (br_f h2).symm.trans hp
      refine cx_skip' ?_
      show TX E K4 _
      refine tx_k' hK4 ?_
      refine cx_seq' fun K6 hK6 => ?_
      refine cx_seq' fun K7 hK7 => ?_
      refine cx_region' ?_
      refine sx_rd' (rd_move' rfl) rfl rfl (wt_none' rfl) ?_
      refine sx_rd' (rd_nilck' rfl) rfl rfl (wt_none' rfl) ?_
      refine sx_rd' (rd_field0' rfl Tryd.underlying48 rfl info46 rfl) rfl rfl (wt_none' rfl) ?_
      refine sx_rd' (rd_load' (i := 0) (o := 0) rfl ⟨rfl, rfl, rfl, rfl⟩ rfl flat46) rfl rfl (wt_none' rfl) ?_
      obtain ⟨z1, hz1, hp⟩ := bind_some hp
      refine sx_rd' (rd_pa_nil' (m := 1) rfl rfl rfl rfl (need_some hz1) (fun _ _ => by kernel_rfl) nil_eql46_ptr) rfl rfl (wt_none' rfl) ?_
      refine sx_nil' ?_
      show TX E K7 _
      refine tx_k' hK7 ?_
      refine cx_cond_f' rfl rfl ?_
      refine cx_skip' ?_
      show TX E K6 _
      refine tx_k' hK6 ?_
      refine cx_seq' fun K8 hK8 => ?_
      refine cx_region' ?_
      refine sx_rd' (rd_move' rfl) rfl rfl (wt_none' rfl) ?_
      refine sx_rd' (rd_nilck' rfl) rfl rfl (wt_none' rfl) ?_
      refine sx_rd' (rd_field0' rfl Tryd.underlying48 rfl info46 rfl) rfl rfl (wt_none' rfl) ?_
      refine sx_rd' (rd_load' (i := 0) (o := 0) rfl ⟨rfl, rfl, rfl, rfl⟩ rfl flat46) rfl rfl (wt_none' rfl) ?_
      refine sx_rd' (rd_move' rfl) rfl rfl (wt_none' rfl) ?_
      refine sx_rd' (rd_bin' rfl rfl eg_int ru_mul) rfl rfl (wt_none' rfl) ?_
      refine sx_rd' (rd_move' rfl) rfl rfl (wt_none' rfl) ?_
      refine sx_rd' (rd_bin' rfl rfl eg_int ru_add) rfl rfl (wt_none' rfl) ?_
      refine sx_rd' (rd_nilck' (q := wa0_0) rfl) rfl rfl (wt_none' rfl) ?_
      obtain ⟨r35, hr35, hp⟩ := bind_some hp
      refine sx_rd' (rd_atarr' (m := 1) rfl rfl rfl rfl hr35 Tryd.underlying77 info22) rfl rfl (wt_none' rfl) ?_
      refine sx_rd' (rd_loadr' rfl (m := 1) (i := (iadd .i64 (imul .i64 a1 3) a2)) (j := 0) rfl rfl (idxn_some hr35).2 rfl rfl flat22) rfl rfl (wt_none' rfl) ?_
      refine sx_rd' (rd_assign' rfl) rfl rfl (wt_none' rfl) ?_
      refine sx_nil' ?_
      show TX E K8 _
      refine tx_k' hK8 ?_
      refine cx_retc' ?_
      replace hp := Option.some.inj hp
      subst hp
      refine tx_pick' (L' := [(6, (Vl (.float .f64 r35)))]) (H' := [⟨.pointer (some wa0), [(Vl (.pointer ((some wa0_0, 9, 9)).1))], 48, none⟩, (Rw Kf 77 (Vs (some wa0_0, 9, 9)) a0_0)]) [0, 1] (sub_cons rfl sub_nil) (by decide) (pick_cons rfl (pick_cons rfl pick_nil)) ?_
      exact tx_ret1' Tryd.results36 rfl () (rv_tmp' rfl) (List.Sublist.refl _)

def impl_plainMat (k : Nat) (a0_0 : List Nat) : Option ((List Nat) × Nat × Nat × Nat × Nat × Nat × Nat × Nat × Nat × Nat) :=
  (iquo .i64 0 3) >>= fun r901 =>
  (irem 0 3) >>= fun r902 =>
  (r3_Mat_At_v2 k a0_0 r901 r902) >>= fun r903 =>
  (idxn 9 ([0, 0, 0, 0, 0, 0, 0, 0, 0]) 0) >>= fun r904 =>
  (iquo .i64 1 3) >>= fun r905 =>
  (irem 1 3) >>= fun r906 =>
  (r3_Mat_At_v2 k r903.1 r905 r906) >>= fun r907 =>
  (idxn 9 (([0, 0, 0, 0, 0, 0, 0, 0, 0]).set (0 : Int).toNat r903.2) 1) >>= fun r908 =>
  (iquo .i64 2 3) >>= fun r909 =>
  (irem 2 3) >>= fun r9010 =>
  (r3_Mat_At_v2 k r907.1 r909 r9010) >>= fun r9011 =>
  (idxn 9 ((([0, 0, 0, 0, 0, 0, 0, 0, 0]).set (0 : Int).toNat r903.2).set (1 : Int).toNat r907.2) 2) >>= fun r9012 =>
  (iquo .i64 3 3) >>= fun r9013 =>
  (irem 3 3) >>= fun r9014 =>
  (r3_Mat_At_v2 k r9011.1 r9013 r9014) >>= fun r9015 =>
  (idxn 9 (((([0, 0, 0, 0, 0, 0, 0, 0, 0]).set (0 : Int).toNat r903.2).set (1 : Int).toNat r907.2).set (2 : Int).toNat r9011.2) 3) >>= fun r9016 =>
  (iquo .i64 4 3) >>= fun r9017 =>
  (irem 4 3) >>= fun r9018 =>
  (r3_Mat_At_v2 k r9015.1 r9017 r9018) >>= fun r9019 =>
  (idxn 9 ((((([0, 0, 0, 0, 0, 0, 0, 0, 0]).set (0 : Int).toNat r903.2).set (1 : Int).toNat r907.2).set (2 : Int).toNat r9011.2).set (3 : Int).toNat r9015.2) 4) >>= fun r9020 =>
  (iquo .i64 5 3) >>= fun r9021 =>
  (irem 5 3) >>= fun r9022 =>
  (r3_Mat_At_v2 k r9019.1 r9021 r9022) >>= fun r9023 =>
  (idxn 9 (((((([0, 0, 0, 0, 0, 0, 0, 0, 0]).set (0 : Int).toNat r903.2).set (1 : Int).toNat r907.2).set (2 : Int).toNat r9011.2).set (3 : Int).toNat r9015.2).set (4 : Int).toNat r9019.2) 5) >>= fun r9024 =>
  (iquo .i64 6 3) >>= fun r9025 =>
  (irem 6 3) >>= fun r9026 =>
  (r3_Mat_At_v2 k r9023.1 r9025 r9026) >>= fun r9027 =>
  (idxn 9 ((((((([0, 0, 0, 0, 0, 0, 0, 0, 0]).set (0 : Int).toNat r903.2).set (1 : Int).toNat r907.2).set (2 : Int).toNat r9011.2).set (3 : Int).toNat r9015.2).set (4 : Int).toNat r9019.2).set (5 : Int).toNat r9023.2) 6) >>= fun r9028 =>
  (iquo .i64 7 3) >>= fun r9029 =>
  (irem 7 3) >>= fun r9030 =>
  (r3_Mat_At_v2 k r9027.1 r9029 r9030) >>= fun r9031 =>
  (idxn 9 (((((((([0, 0, 0, 0, 0, 0, 0, 0, 0]).set (0 : Int).toNat r903.2).set (1 : Int).toNat r907.2).set (2 : Int).toNat r9011.2).set (3 : Int).toNat r9015.2).set (4 : Int).toNat r9019.2).set (5 : Int).toNat r9023.2).set (6 : Int).toNat r9027.2) 7) >>= fun r9032 =>
  (iquo .i64 8 3) >>= fun r9033 =>
  (irem 8 3) >>= fun r9034 =>
  (r3_Mat_At_v2 k r9031.1 r9033 r9034) >>= fun r9035 =>
  (idxn 9 ((((((((([0, 0, 0, 0, 0, 0, 0, 0, 0]).set (0 : Int).toNat r903.2).set (1 : Int).toNat r907.2).set (2 : Int).toNat r9011.2).set (3 : Int).toNat r9015.2).set (4 : Int).toNat r9019.2).set (5 : Int).toNat r9023.2).set (6 : Int).toNat r9027.2).set (7 : Int).toNat r9031.2) 8) >>= fun r9036 =>
  (vec9 (((((((((([0, 0, 0, 0, 0, 0, 0, 0, 0]).set (0 : Int).toNat r903.2).set (1 : Int).toNat r907.2).set (2 : Int).toNat r9011.2).set (3 : Int).toNat r9015.2).set (4 : Int).toNat r9019.2).set (5 : Int).toNat r9023.2).set (6 : Int).toNat r9027.2).set (7 : Int).toNat r9031.2).set (8 : Int).toNat r9035.2)) >>= fun r17 =>
  some (r9035.1, r17.1, r17.2.1, r17.2.2.1, r17.2.2.2.1, r17.2.2.2.2.1, r17.2.2.2.2.2.1, r17.2.2.2.2.2.2.1, r17.2.2.2.2.2.2.2.1, r17.2.2.2.2.2.2.2.2)

theorem impl_plainMat_sim {k : Nat} {wa0 : Addr} {wa0_0 : Addr} (a0_0 : List Nat) {out : (List Nat) × Nat × Nat × Nat × Nat × Nat × Nat × Nat × Nat × Nat} (hp : impl_plainMat k a0_0 = some out) : Go.Sx.Fn Tryd.prog 21 [(Vl (.pointer (some wa0)))] [⟨.pointer (some wa0), [(Vl (.pointer ((some wa0_0, 9, 9)).1))], 48, none⟩, (Rw Kf 77 (Vs (some wa0_0, 9, 9)) a0_0)] (fun w : Unit => (Ag [(Vl (.float .f64 out.2.1)), (Vl (.float .f64 out.2.2.1)), (Vl (.float .f64 out.2.2.2.1)), (Vl (.float .f64 out.2.2.2.2.1)), (Vl (.float .f64 out.2.2.2.2.2.1)), (Vl (.float .f64 out.2.2.2.2.2.2.1)), (Vl (.float .f64 out.2.2.2.2.2.2.2.1)), (Vl (.float .f64 out.2.2.2.2.2.2.2.2.1)), (Vl (.float .f64 out.2.2.2.2.2.2.2.2.2))])) (fun w => [⟨.pointer (some wa0), [(Vl (.pointer ((some wa0_0, 9, 9)).1))], 48, none⟩, (Rw Kf 77 (Vs (some wa0_0, 9, 9)) out.1)]) := by
  unfold impl_plainMat at hp
  refine fn_of Tryd.func21 rfl Tryd.ntmps21 rfl fun E hM => ?_
  refine cx_seq' fun K1 hK1 => ?_
  refine cx_region' ?_
  refine sx_ox' (ox_alloc' info24 rfl rfl rfl rfl (l := [(Vl (.float .f64 0)), (Vl (.float .f64 0)), (Vl (.float .f64 0)), (Vl (.float .f64 0)), (Vl (.float .f64 0)), (Vl (.float .f64 0)), (Vl (.float .f64 0)), (Vl (.float .f64 0)), (Vl (.float .f64 0))]) rfl) (wt_none' rfl) fun q2 => ?_
  refine sx_nil' ?_
  show TX E K1 _
  refine tx_k' hK1 ?_
  refine cx_seq' fun K2 hK2 => ?_
  refine cx_region' ?_
  refine sx_ox' (ox_alloc' info24 rfl rfl rfl rfl (l := [(Vl (.float .f64 0)), (Vl (.float .f64 0)), (Vl (.float .f64 0)), (Vl (.float .f64 0)), (Vl (.float .f64 0)), (Vl (.float .f64 0)), (Vl (.float .f64 0)), (Vl (.float .f64 0)), (Vl (.float .f64 0))]) rfl) (wt_none' rfl) fun q3 => ?_
  refine tx_arr' (K := Kf) (xs := [0, 0, 0, 0, 0, 0, 0, 0, 0]) (m := 9) (i := 0) rfl rfl rfl (H' := [(Rw Kf 24 (Vs (some q3, 9, 9)) ([0, 0, 0, 0, 0, 0, 0, 0, 0])), ⟨.pointer (some q2), [(Vl (.float .f64 0)), (Vl (.float .f64 0)), (Vl (.float .f64 0)), (Vl (.float .f64 0)), (Vl (.float .f64 0)), (Vl (.float .f64 0)), (Vl (.float .f64 0)), (Vl (.float .f64 0)), (Vl (.float .f64 0))], 24, none⟩, ⟨.pointer (some wa0), [(Vl (.pointer ((some wa0_0, 9, 9)).1))], 48, none⟩, (Rw Kf 77 (Vs (some wa0_0, 9, 9)) a0_0)]) rfl ?_
  refine sx_nil' ?_
  show TX E K2 _
  refine tx_k' hK2 ?_
  refine cx_seq' fun K3 hK3 => ?_
  refine cx_seq' fun K4 hK4 => ?_
  refine cx_region' ?_
  refine sx_rd' (rd_move' rfl) rfl rfl (wt_none' rfl) ?_
  refine sx_nil' ?_
  show TX E K4 _
  refine tx_k' hK4 ?_
  refine cx_block' ?_
  refine tx_loop' ?_
  refine tx_round' ?_
  refine cx_seq' fun K5 hK5 => ?_
  refine cx_region' ?_
  refine sx_rd' (rd_bin' rfl rfl eg_int ru_lss) rfl rfl (wt_none' rfl) ?_
  refine sx_nil' ?_
  show TX E K5 _
  refine tx_k' hK5 ?_
  refine cx_seq' fun K6 hK6 => ?_
  refine cx_cond_t' rfl rfl ?_
  refine cx_skip' ?_
  show TX E K6 _
  refine tx_k' hK6 ?_
  refine cx_seq' fun K7 hK7 => ?_
  refine cx_block' ?_
  refine cx_seq' fun K8 hK8 => ?_
  refine cx_region' ?_
  refine sx_rd' (rd_move' rfl) rfl rfl (wt_none' rfl) ?_
  refine sx_rd' (rd_assign' rfl) rfl rfl (wt_none' rfl) ?_
  refine sx_nil' ?_
  show TX E K8 _
  refine tx_k' hK8 ?_
  refine cx_region' ?_
  refine sx_rd' (rd_move' rfl) rfl rfl (wt_none' rfl) ?_
  refine sx_rd' (rd_move' rfl) rfl rfl (wt_none' rfl) ?_
  refine sx_rd' (rd_move' rfl) rfl rfl (wt_none' rfl) ?_
  obtain ⟨r901, hr901, hp⟩ := bind_some hp
  refine sx_rd' (rd_bin' rfl rfl eg_int (ru_quo hr901)) rfl rfl (wt_none' rfl) ?_
  refine sx_rd' (rd_move' rfl) rfl rfl (wt_none' rfl) ?_
  obtain ⟨r902, hr902, hp⟩ := bind_some hp
  refine sx_rd' (rd_bin' rfl rfl eg_int (ru_rem hr902)) rfl rfl (wt_none' rfl) ?_
  obtain ⟨r903, hr903, hp⟩ := bind_some hp
  refine sx_ox' (ox_callg' (ent_fn' Tryd.func36 isn36 rfl rfl) (r3_Mat_At_v2_sim _ _ _ hr903 : Go.Sx.Fn Tryd.prog 36 [(Vl (.pointer (some wa0))), (Vl (.int .i64 r901)), (Vl (.int .i64 r902))] [⟨.pointer (some wa0), [(Vl (.pointer ((some wa0_0, 9, 9)).1))], 48, none⟩, (Rw Kf 77 (Vs (some wa0_0, 9, 9)) a0_0)] (fun x : Unit => (Vl (.float .f64 r903.2))) (fun x => [⟨.pointer (some wa0), [(Vl (.pointer ((some wa0_0, 9, 9)).1))], 48, none⟩, (Rw Kf 77 (Vs (some wa0_0, 9, 9)) r903.1)])) [2, 3] [0, 1] (by decide) (pick_cons rfl (pick_cons rfl pick_nil)) (pick_cons rfl (pick_cons rfl pick_nil)) (Hn := fun x : Unit => [⟨.pointer (some wa0), [(Vl (.pointer ((some wa0_0, 9, 9)).1))], 48, none⟩, (Rw Kf 77 (Vs (some wa0_0, 9, 9)) r903.1), (Rw Kf 24 (Vs (some q3, 9, 9)) ([0, 0, 0, 0, 0, 0, 0, 0, 0])), ⟨.pointer (some q2), [(Vl (.float .f64 0)), (Vl (.float .f64 0)), (Vl (.float .f64 0)), (Vl (.float .f64 0)), (Vl (.float .f64 0)), (Vl (.float .f64 0)), (Vl (.float .f64 0)), (Vl (.float .f64 0)), (Vl (.float .f64 0))], 24, none⟩]) (fun _ => rfl) rfl rfl) (wt_none' rfl) fun ⟨⟩ => ?_
  obtain ⟨r904, hr904, hp⟩ := bind_some hp
  refine sx_rd' (rd_atarr' (m := 2) rfl rfl rfl rfl hr904 Tryd.underlying24 info22) rfl rfl (wt_none' rfl) ?_
  refine sx_ox' (ox_storer' (m := 2) (i := 0) (j := 0) (x' := r903.2) rfl rfl (lv_vl rfl rfl) rfl rfl (idxn_some hr904).2 rfl rfl rfl info22 rfl (H' := [⟨.pointer (some wa0), [(Vl (.pointer ((some wa0_0, 9, 9)).1))], 48, none⟩, (Rw Kf 77 (Vs (some wa0_0, 9, 9)) r903.1), (Rw Kf 24 (Vs (some q3, 9, 9)) (([0, 0, 0, 0, 0, 0, 0, 0, 0]).set (0 : Int).toNat r903.2)), ⟨.pointer (some q2), [(Vl (.float .f64 0)), (Vl (.float .f64 0)), (Vl (.float .f64 0)), (Vl (.float .f64 0)), (Vl (.float .f64 0)), (Vl (.float .f64 0)), (Vl (.float .f64 0)), (Vl (.float .f64 0)), (Vl (.float .f64 0))], 24, none⟩]) rfl) (wt_none' rfl) fun _ => ?_
  refine sx_nil' ?_
  show TX E K7 _
  refine tx_k' hK7 ?_
  refine cx_region' ?_
  refine sx_rd' (rd_bin' rfl rfl eg_int (ru_addc (c := 1) (by decide))) rfl rfl (wt_none' rfl) ?_
  refine sx_rd' (rd_move' rfl) rfl rfl (wt_none' rfl) ?_
  refine sx_nil' ?_
  show TX E (LoopIn _ _ _) _
  refine tx_round' ?_
  refine cx_seq' fun K9 hK9 => ?_
  refine cx_region' ?_
  refine sx_rd' (rd_bin' rfl rfl eg_int ru_lss) rfl rfl (wt_none' rfl) ?_
  refine sx_nil' ?_
  show TX E K9 _
  refine tx_k' hK9 ?_
  refine cx_seq' fun K10 hK10 => ?_
  refine cx_cond_t' rfl rfl ?_
  refine cx_skip' ?_
  show TX E K10 _
  refine tx_k' hK10 ?_
  refine cx_seq' fun K11 hK11 => ?_
  refine cx_block' ?_
  refine cx_seq' fun K12 hK12 => ?_
  refine cx_region' ?_
  refine sx_rd' (rd_move' rfl) rfl rfl (wt_none' rfl) ?_
  refine sx_rd' (rd_assign' rfl) rfl rfl (wt_none' rfl) ?_
  refine sx_nil' ?_
  show TX E K12 _
  refine tx_k' hK12 ?_
  refine cx_region' ?_
  refine sx_rd' (rd_move' rfl) rfl rfl (wt_none' rfl) ?_
  refine sx_rd' (rd_move' rfl) rfl rfl (wt_none' rfl) ?_
  refine sx_rd' (rd_move' rfl) rfl rfl (wt_none' rfl) ?_
  obtain ⟨r905, hr905, hp⟩ := bind_some hp
  refine sx_rd' (rd_bin' rfl rfl eg_int (ru_quo hr905)) rfl rfl (wt_none' rfl) ?_
  refine sx_rd' (rd_move' rfl) rfl rfl (wt_none' rfl) ?_
  obtain ⟨r906, hr906, hp⟩ := bind_some hp
  refine sx_rd' (rd_bin' rfl rfl eg_int (ru_rem hr906)) rfl rfl (wt_none' rfl) ?_
  obtain ⟨r907, hr907, hp⟩ := bind_some hp
  refine sx_ox' (ox_callg' (ent_fn' Tryd.func36 isn36 rfl rfl) (r3_Mat_At_v2_sim _ _ _ hr907 : Go.Sx.Fn Tryd.prog 36 [(Vl (.pointer (some wa0))), (Vl (.int .i64 r905)), (Vl (.int .i64 r906))] [⟨.pointer (some wa0), [(Vl (.pointer ((some wa0_0, 9, 9)).1))], 48, none⟩, (Rw Kf 77 (Vs (some wa0_0, 9, 9)) r903.1)] (fun x : Unit => (Vl (.float .f64 r907.2))) (fun x => [⟨.pointer (some wa0), [(Vl (.pointer ((some wa0_0, 9, 9)).1))], 48, none⟩, (Rw Kf 77 (Vs (some wa0_0, 9, 9)) r907.1)])) [0, 1] [2, 3] (by decide) (pick_cons rfl (pick_cons rfl pick_nil)) (pick_cons rfl (pick_cons rfl pick_nil)) (Hn := fun x : Unit => [⟨.pointer (some wa0), [(Vl (.pointer ((some wa0_0, 9, 9)).1))], 48, none⟩, (Rw Kf 77 (Vs (some wa0_0, 9, 9)) r907.1), (Rw Kf 24 (Vs (some q3, 9, 9)) (([0, 0, 0, 0, 0, 0, 0, 0, 0]).set (0 : Int).toNat r903.2)), ⟨.pointer (some q2), [(Vl (.float .f64 0)), (Vl (.float .f64 0)), (Vl (.float .f64 0)), (Vl (.float .f64 0)), (Vl (.float .f64 0)), (Vl (.float .f64 0)), (Vl (.float .f64 0)), (Vl (.float .f64 0)), (Vl (.float .f64 0))], 24, none⟩]) (fun _ => rfl) rfl rfl) (wt_none' rfl) fun ⟨⟩ => ?_
  obtain ⟨r908, hr908, hp⟩ := bind_some hp
  refine sx_rd' (rd_atarr' (m := 2) rfl rfl rfl rfl hr908 Tryd.underlying24 info22) rfl rfl (wt_none' rfl) ?_
  refine sx_ox' (ox_storer' (m := 2) (i := 1) (j := 0) (x' := r907.2) rfl rfl (lv_vl rfl rfl) rfl rfl (idxn_some hr908).2 rfl rfl rfl info22 rfl (H' := [⟨.pointer (some wa0), [(Vl (.pointer ((some wa0_0, 9, 9)).1))], 48, none⟩, (Rw Kf 77 (Vs (some wa0_0, 9, 9)) r907.1), (Rw Kf 24 (Vs (some q3, 9, 9)) ((([0, 0, 0, 0, 0, 0, 0, 0, 0]).set (0 : Int).toNat r903.2).set (1 : Int).toNat r907.2)), ⟨.pointer (some q2), [(Vl (.float .f64 0)), (Vl (.float .f64 0)), (Vl (.float .f64 0)), (Vl (.float .f64 0)), (Vl (.float .f64 0)), (Vl (.float .f64 0)), (Vl (.float .f64 0)), (Vl (.float .f64 0)), (Vl (.float .f64 0))], 24, none⟩]) rfl) (wt_none' rfl) fun _ => ?_
  refine sx_nil' ?_
  show TX E K11 _
  refine tx_k' hK11 ?_
  refine cx_region' ?_
  refine sx_rd' (rd_bin' rfl rfl eg_int (ru_addc (c := 2) (by decide))) rfl rfl (wt_none' rfl) ?_
  refine sx_rd' (rd_move' rfl) rfl rfl (wt_none' rfl) ?_
  refine sx_nil' ?_
  show TX E (LoopIn _ _ _) _
  refine tx_round' ?_
  refine cx_seq' fun K13 hK13 => ?_
  refine cx_region' ?_
  refine sx_rd' (rd_bin' rfl rfl eg_int ru_lss) rfl rfl (wt_none' rfl) ?_
  refine sx_nil' ?_
  show TX E K13 _
  refine tx_k' hK13 ?_
  refine cx_seq' fun K14 hK14 => ?_
  refine cx_cond_t' rfl rfl ?_
  refine cx_skip' ?_
  show TX E K14 _
  refine tx_k' hK14 ?_
  refine cx_seq' fun K15 hK15 => ?_
  refine cx_block' ?_
  refine cx_seq' fun K16 hK16 => ?_
  refine cx_region' ?_
  refine sx_rd' (rd_move' rfl) rfl rfl (wt_none' rfl) ?_
  refine sx_rd' (rd_assign' rfl) rfl rfl (wt_none' rfl) ?_
  refine sx_nil' ?_
  show TX E K16 _
  refine tx_k' hK16 ?_
  refine cx_region' ?_
  refine sx_rd' (rd_move' rfl) rfl rfl (wt_none' rfl) ?_
  refine sx_rd' (rd_move' rfl) rfl rfl (wt_none' rfl) ?_
  refine sx_rd' (rd_move' rfl) rfl rfl (wt_none' rfl) ?_
  obtain ⟨r909, hr909, hp⟩ := bind_some hp
  refine sx_rd' (rd_bin' rfl rfl eg_int (ru_quo hr909)) rfl rfl (wt_none' rfl) ?_
  refine sx_rd' (rd_move' rfl) rfl rfl (wt_none' rfl) ?_
  obtain ⟨r9010, hr9010, hp⟩ := bind_some hp
  refine sx_rd' (rd_bin' rfl rfl eg_int (ru_rem hr9010)) rfl rfl (wt_none' rfl) ?_
  obtain ⟨r9011, hr9011, hp⟩ := bind_some hp
  refine sx_ox' (ox_callg' (ent_fn' Tryd.func36 isn36 rfl rfl) (r3_Mat_At_v2_sim _ _ _ hr9011 : Go.Sx.Fn Tryd.prog 36 [(Vl (.pointer (some wa0))), (Vl (.int .i64 r909)), (Vl (.int .i64 r9010))] [⟨.pointer (some wa0), [(Vl (.pointer ((some wa0_0, 9, 9)).1))], 48, none⟩, (Rw Kf 77 (Vs (some wa0_0, 9, 9)) r907.1)] (fun x : Unit => (Vl (.float .f64 r9011.2))) (fun x => [⟨.pointer (some wa0), [(Vl (.pointer ((some wa0_0, 9, 9)).1))], 48, none⟩, (Rw Kf 77 (Vs (some wa0_0, 9, 9)) r9011.1)])) [0, 1] [2, 3] (by decide) (pick_cons rfl (pick_cons rfl pick_nil)) (pick_cons rfl (pick_cons rfl pick_nil)) (Hn := fun x : Unit => [⟨.pointer (some wa0), [(Vl (.pointer ((some wa0_0, 9, 9)).1))], 48, none⟩, (Rw Kf 77 (Vs (some wa0_0, 9, 9)) r9011.1), (Rw Kf 24 (Vs (some q3, 9, 9)) ((([0, 0, 0, 0, 0, 0, 0, 0, 0]).set (0 : Int).toNat r903.2).set (1 : Int).toNat r907.2)), ⟨.pointer (some q2), [(Vl (.float .f64 0)), (Vl (.float .f64 0)), (Vl (.float .f64 0)), (Vl (.float .f64 0)), (Vl (.float .f64 0)), (Vl (.float .f64 0)), (Vl (.float .f64 0)), (Vl (.float .f64 0)), (Vl (.float .f64 0))], 24, none⟩]) (fun _ => rfl) rfl rfl) (wt_none' rfl) fun ⟨⟩ => ?_
  obtain ⟨r9012, hr9012, hp⟩ := bind_some hp
  refine sx_rd' (rd_atarr' (m := 2) rfl rfl rfl rfl hr9012 Tryd.underlying24 info22) rfl rfl (wt_none' rfl) ?_
  refine sx_ox' (ox_storer' (m := 2) (i := 2) (j := 0) (x' := r9011.2) rfl rfl (lv_vl rfl rfl) rfl rfl (idxn_some hr9012).2 rfl rfl rfl info22 rfl (H' := [⟨.pointer (some wa0), [(Vl (.pointer ((some wa0_0, 9, 9)).1))], 48, none⟩, (Rw Kf 77 (Vs (some wa0_0, 9, 9)) r9011.1), (Rw Kf 24 (Vs (some q3, 9, 9)) (((([0, 0, 0, 0, 0, 0, 0, 0, 0]).set (0 : Int).toNat r903.2).set (1 : Int).toNat r907.2).set (2 : Int).toNat r9011.2)), ⟨.pointer (some q2), [(Vl (.float .f64 0)), (Vl (.float .f64 0)), (Vl (.float .f64 0)), (Vl (.float .f64 0)), (Vl (.float .f64 0)), (Vl (.float .f64 0)), (Vl (.float .f64 0)), (Vl (.float .f64 0)), (Vl (.float .f64 0))], 24, none⟩]) rfl) (wt_none' rfl) fun _ => ?_
  refine sx_nil' ?_
  show TX E K15 _
  refine tx_k' hK15 ?_
  refine cx_region' ?_
  refine sx_rd' (rd_bin' rfl rfl eg_int (ru_addc (c := 3) (by decide))) rfl rfl (wt_none' rfl) ?_
  refine sx_rd' (rd_move' rfl) rfl rfl (wt_none' rfl) ?_
  refine sx_nil' ?_
  show TX E (LoopIn _ _ _) _
  refine tx_round' ?_
  refine cx_seq' fun K17 hK17 => ?_
  refine cx_region' ?_
  refine sx_rd' (rd_bin' rfl rfl eg_int ru_lss) rfl rfl (wt_none' rfl) ?_
  refine sx_nil' ?_
  show TX E K17 _
  refine tx_k' hK17 ?_
  refine cx_seq' fun K18 hK18 => ?_
  refine cx_cond_t' rfl rfl ?_
  refine cx_skip' ?_
  show TX E K18 _
  refine tx_k' hK18 ?_
  refine cx_seq' fun K19 hK19 => ?_
  refine cx_block' ?_
  refine cx_seq' fun K20 hK20 => ?_
  refine cx_region' ?_
  refine sx_rd' (rd_move' rfl) rfl rfl (wt_none' rfl) ?_
  refine sx_rd' (rd_assign' rfl) rfl rfl (wt_none' rfl) ?_
  refine sx_nil' ?_
  show TX E K20 _
  refine tx_k' hK20 ?_
  refine cx_region' ?_
  refine sx_rd' (rd_move' rfl) rfl rfl (wt_none' rfl) ?_
  refine sx_rd' (rd_move' rfl) rfl rfl (wt_none' rfl) ?_
  refine sx_rd' (rd_move' rfl) rfl rfl (wt_none' rfl) ?_
  obtain ⟨r9013, hr9013, hp⟩ := bind_some hp
  refine sx_rd' (rd_bin' rfl rfl eg_int (ru_quo hr9013)) rfl rfl (wt_none' rfl) ?_
  refine sx_rd' (rd_move' rfl) rfl rfl (wt_none' rfl) ?_
  obtain ⟨r9014, hr9014, hp⟩ := bind_some hp
  refine sx_rd' (rd_bin' rfl rfl eg_int (ru_rem hr9014)) rfl rfl (wt_none' rfl) ?_
  obtain ⟨r9015, hr9015, hp⟩ := bind_some hp
  refine sx_ox' (ox_callg' (ent_fn' Tryd.func36 isn36 rfl rfl) (r3_Mat_At_v2_sim _ _ _ hr9015 : Go.Sx.Fn Tryd.prog 36 [(Vl (.pointer (some wa0))), (Vl (.int .i64 r9013)), (Vl (.int .i64 r9014))] [⟨.pointer (some wa0), [(Vl (.pointer ((some wa0_0, 9, 9)).1))], 48, none⟩, (Rw Kf 77 (Vs (some wa0_0, 9, 9)) r9011.1)] (fun x : Unit => (Vl (.float .f64 r9015.2))) (fun x => [⟨.pointer (some wa0), [(Vl (.pointer ((some wa0_0, 9, 9)).1))], 48, none⟩, (Rw Kf 77 (Vs (some wa0_0, 9, 9)) r9015.1)])) [0, 1] [2, 3] (by decide) (pick_cons rfl (pick_cons rfl pick_nil)) (pick_cons rfl (pick_cons rfl pick_nil)) (Hn := fun x : Unit => [⟨.pointer (some wa0), [(Vl (.pointer ((some wa0_0, 9, 9)).1))], 48, none⟩, (Rw Kf 77 (Vs (some wa0_0, 9, 9)) r9015.1), (Rw Kf 24 (Vs (some q3, 9, 9)) (((([0, 0, 0, 0, 0, 0, 0, 0, 0]).set (0 : Int).toNat r903.2).set (1 : Int).toNat r907.2).set (2 : Int).toNat r9011.2)), ⟨.pointer (some q2), [(Vl (.float .f64 0)), (Vl (.float .f64 0)), (Vl (.float .f64 0)), (Vl (.float .f64 0)), (Vl (.float .f64 0)), (Vl (.float .f64 0)), (Vl (.float .f64 0)), (Vl (.float .f64 0)), (Vl (.float .f64 0))], 24, none⟩]) (fun _ => rfl) rfl rfl) (wt_none' rfl) fun ⟨⟩ => ?_
  obtain ⟨r9016, hr9016, hp⟩ := bind_some hp
  refine sx_rd' (rd_atarr' (m := 2) rfl rfl rfl rfl hr9016 Tryd.underlying24 info22) rfl rfl (wt_none' rfl) ?_
  refine sx_ox' (ox_storer' (m := 2) (i := 3) (j := 0) (x' := r9015.2) rfl rfl (lv_vl rfl rfl) rfl rfl (idxn_some hr9016).2 rfl rfl rfl info22 rfl (H' := [⟨.pointer (some wa0), [(Vl (.pointer ((some wa0_0, 9, 9)).1))], 48, none⟩, (Rw Kf 77 (Vs (some wa0_0, 9, 9)) r9015.1), (Rw Kf 24 (Vs (some q3, 9, 9)) ((((([0, 0, 0, 0, 0, 0, 0, 0, 0]).set (0 : Int).toNat r903.2).set (1 : Int).toNat r907.2).set (2 : Int).toNat r9011.2).set (3 : Int).toNat r9015.2)), ⟨.pointer (some q2), [(Vl (.float .f64 0)), (Vl (.float .f64 0)), (Vl (.float .f64 0)), (Vl (.float .f64 0)), (Vl (.float .f64 0)), (Vl (.float .f64 0)), (Vl (.float .f64 0)), (Vl (.float .f64 0)), (Vl (.float .f64 0))], 24, none⟩]) rfl) (wt_none' rfl) fun _ => ?_
  refine sx_nil' ?_
  show TX E K19 _
  refine tx_k' hK19 ?_
  refine cx_region' ?_
  refine sx_rd' (rd_bin' rfl rfl eg_int (ru_addc (c := 4) (by decide))) rfl rfl (wt_none' rfl) ?_
  refine sx_rd' (rd_move' rfl) rfl rfl (wt_none' rfl) ?_
  refine sx_nil' ?_
  show TX E (LoopIn _ _ _) _
  refine tx_round' ?_
  refine cx_seq' fun K21 hK21 => ?_
  refine cx_region' ?_
  refine sx_rd' (rd_bin' rfl rfl eg_int ru_lss) rfl rfl (wt_none' rfl) ?_
  refine sx_nil' ?_
  show TX E K21 _
  refine tx_k' hK21 ?_
  refine cx_seq' fun K22 hK22 => ?_
  refine cx_cond_t' rfl rfl ?_
  refine cx_skip' ?_
  show TX E K22 _
  refine tx_k' hK22 ?_
  refine cx_seq' fun K23 hK23 => ?_
  refine cx_block' ?_
  refine cx_seq' fun K24 hK24 => ?_
  refine cx_region' ?_
  refine sx_rd' (rd_move' rfl) rfl rfl (wt_none' rfl) ?_
  refine sx_rd' (rd_assign' rfl) rfl rfl (wt_none' rfl) ?_
  refine sx_nil' ?_
  show TX E K24 _
  refine tx_k' hK24 ?_
  refine cx_region' ?_
  refine sx_rd' (rd_move' rfl) rfl rfl (wt_none' rfl) ?_
  refine sx_rd' (rd_move' rfl) rfl rfl (wt_none' rfl) ?_
  refine sx_rd' (rd_move' rfl) rfl rfl (wt_none' rfl) ?_
  obtain ⟨r9017, hr9017, hp⟩ := bind_some hp
  refine sx_rd' (rd_bin' rfl rfl eg_int (ru_quo hr9017)) rfl rfl (wt_none' rfl) ?_
  refine sx_rd' (rd_move' rfl) rfl rfl (wt_none' rfl) ?_
  obtain ⟨r9018, hr9018, hp⟩ := bind_some hp
  refine sx_rd' (rd_bin' rfl rfl eg_int (ru_rem hr9018)) rfl rfl (wt_none' rfl) ?_
  obtain ⟨r9019, hr9019, hp⟩ := bind_some hp
  refine sx_ox' (ox_callg' (ent_fn' Tryd.func36 isn36 rfl rfl) (r3_Mat_At_v2_sim _ _ _ hr9019 : Go.Sx.Fn Tryd.prog 36 [(Vl (.pointer (some wa0))), (Vl (.int .i64 r9017)), (Vl (.int .i64 r9018))] [⟨.pointer (some wa0), [(Vl (.pointer ((some wa0_0, 9, 9)).1))], 48, none⟩, (Rw Kf 77 (Vs (some wa0_0, 9, 9)) r9015.1)] (fun x : Unit => (Vl (.float .f64 r9019.2))) (fun x => [⟨.pointer (some wa0), [(Vl (.pointer ((some wa0_0, 9, 9)).1))], 48, none⟩, (Rw Kf 77 (Vs (some wa0_0, 9, 9)) r9019.1)])) [0, 1] [2, 3] (by decide) (pick_cons rfl (pick_cons rfl pick_nil)) (pick_cons rfl (pick_cons rfl pick_nil)) (Hn := fun x : Unit => [⟨.pointer (some wa0), [(Vl (.pointer ((some wa0_0, 9, 9)).1))], 48, none⟩, (Rw Kf 77 (Vs (some wa0_0, 9, 9)) r9019.1), (Rw Kf 24 (Vs (some q3, 9, 9)) ((((([0, 0, 0, 0, 0, 0, 0, 0, 0]).set (0 : Int).toNat r903.2).set (1 : Int).toNat r907.2).set (2 : Int).toNat r9011.2).set (3 : Int).toNat r9015.2)), ⟨.pointer (some q2), [(Vl (.float .f64 0)), (Vl (.float .f64 0)), (Vl (.float .f64 0)), (Vl (.float .f64 0)), (Vl (.float .f64 0)), (Vl (.float .f64 0)), (Vl (.float .f64 0)), (Vl (.float .f64 0)), (Vl (.float .f64 0))], 24, none⟩]) (fun _ => rfl) rfl rfl) (wt_none' rfl) fun ⟨⟩ => ?_
  obtain ⟨r9020, hr9020, hp⟩ := bind_some hp
  refine sx_rd' (rd_atarr' (m := 2) rfl rfl rfl rfl hr9020 Tryd.underlying24 info22) rfl rfl (wt_none' rfl) ?_
  refine sx_ox' (ox_storer' (m := 2) (i := 4) (j := 0) (x' := r9019.2) rfl rfl (lv_vl rfl rfl) rfl rfl (idxn_some hr9020).2 rfl rfl rfl info22 rfl (H' := [⟨.pointer (some wa0), [(Vl (.pointer ((some wa0_0, 9, 9)).1))], 48, none⟩, (Rw Kf 77 (Vs (some wa0_0, 9, 9)) r9019.1), (Rw Kf 24 (Vs (some q3, 9, 9)) (((((([0, 0, 0, 0, 0, 0, 0, 0, 0]).set (0 : Int).toNat r903.2).set (1 : Int).toNat r907.2).set (2 : Int).toNat r9011.2).set (3 : Int).toNat r9015.2).set (4 : Int).toNat r9019.2)), ⟨.pointer (some q2), [(Vl (.float .f64 0)), (Vl (.float .f64 0)), (Vl (.float .f64 0)), (Vl (.float .f64 0)), (Vl (.float .f64 0)), (Vl (.float .f64 0)), (Vl (.float .f64 0)), (Vl (.float .f64 0)), (Vl (.float .f64 0))], 24, none⟩]) rfl) (wt_none' rfl) fun _ => ?_
  refine sx_nil' ?_
  show TX E K23 _
  refine tx_k' hK23 ?_
  refine cx_region' ?_
  refine sx_rd' (rd_bin' rfl rfl eg_int (ru_addc (c := 5) (by decide))) rfl rfl (wt_none' rfl) ?_
  refine sx_rd' (rd_move' rfl) rfl rfl (wt_none' rfl) ?_
  refine sx_nil' ?_
  show TX E (LoopIn _ _ _) _
  refine tx_round' ?_
  refine cx_seq' fun K25 hK25 => ?_
  refine cx_region' ?_
  refine sx_rd' (rd_bin' rfl rfl eg_int ru_lss) rfl rfl (wt_none' rfl) ?_
  refine sx_nil' ?_
  show TX E K25 _
  refine tx_k' hK25 ?_
  refine cx_seq' fun K26 hK26 => ?_
  refine cx_cond_t' rfl rfl ?_
  refine cx_skip' ?_
  show TX E K26 _
  refine tx_k' hK26 ?_
  refine cx_seq' fun K27 hK27 => ?_
  refine cx_block' ?_
  refine cx_seq' fun K28 hK28 => ?_
  refine cx_region' ?_
  refine sx_rd' (rd_move' rfl) rfl rfl (wt_none' rfl) ?_
  refine sx_rd' (rd_assign' rfl) rfl rfl (wt_none' rfl) ?_
  refine sx_nil' ?_
  show TX E K28 _
  refine tx_k' hK28 ?_
  refine cx_region' ?_
  refine sx_rd' (rd_move' rfl) rfl rfl (wt_none' rfl) ?_
  refine sx_rd' (rd_move' rfl) rfl rfl (wt_none' rfl) ?_
  refine sx_rd' (rd_move' rfl) rfl rfl (wt_none' rfl) ?_
  obtain ⟨r9021, hr9021, hp⟩ := bind_some hp
  refine sx_rd' (rd_bin' rfl rfl eg_int (ru_quo hr9021)) rfl rfl (wt_none' rfl) ?_
  refine sx_rd' (rd_move' rfl) rfl rfl (wt_none' rfl) ?_
  obtain ⟨r9022, hr9022, hp⟩ := bind_some hp
  refine sx_rd' (rd_bin' rfl rfl eg_int (ru_rem hr9022)) rfl rfl (wt_none' rfl) ?_
  obtain ⟨r9023, hr9023, hp⟩ := bind_some hp
  refine sx_ox' (ox_callg' (ent_fn' Tryd.func36 isn36 rfl rfl) (r3_Mat_At_v2_sim _ _ _ hr9023 : Go.Sx.Fn Tryd.prog 36 [(Vl (.pointer (some wa0))), (Vl (.int .i64 r9021)), (Vl (.int .i64 r9022))] [⟨.pointer (some wa0), [(Vl (.pointer ((some wa0_0, 9, 9)).1))], 48, none⟩, (Rw Kf 77 (Vs (some wa0_0, 9, 9)) r9019.1)] (fun x : Unit => (Vl (.float .f64 r9023.2))) (fun x => [⟨.pointer (some wa0), [(Vl (.pointer ((some wa0_0, 9, 9)).1))], 48, none⟩, (Rw Kf 77 (Vs (some wa0_0, 9, 9)) r9023.1)])) [0, 1] [2, 3] (by decide) (pick_cons rfl (pick_cons rfl pick_nil)) (pick_cons rfl (pick_cons rfl pick_nil)) (Hn := fun x : Unit => [⟨.pointer (some wa0), [(Vl (.pointer ((some wa0_0, 9, 9)).1))], 48, none⟩, (Rw Kf 77 (Vs (some wa0_0, 9, 9)) r9023.1), (Rw Kf 24 (Vs (some q3, 9, 9)) (((((([0, 0, 0, 0, 0, 0, 0, 0, 0]).set (0 : Int).toNat r903.2).set (1 : Int).toNat r907.2).set (2 : Int).toNat r9011.2).set (3 : Int).toNat r9015.2).set (4 : Int).toNat r9019.2)), ⟨.pointer (some q2), [(Vl (.float .f64 0)), (Vl (.float .f64 0)), (Vl (.float .f64 0)), (Vl (.float .f64 0)), (Vl (.float .f64 0)), (Vl (.float .f64 0)), (Vl (.float .f64 0)), (Vl (.float .f64 0)), (Vl (.float .f64 0))], 24, none⟩]) (fun _ => rfl) rfl rfl) (wt_none' rfl) fun ⟨⟩ => ?_
  obtain ⟨r9024, hr9024, hp⟩ := bind_some hp
  refine sx_rd' (rd_atarr' (m := 2) rfl rfl rfl rfl hr9024 Tryd.underlying24 info22) rfl rfl (wt_none' rfl) ?_
  refine sx_ox' (ox_storer' (m := 2) (i := 5) (j := 0) (x' := r9023.2) rfl rfl (lv_vl rfl rfl) rfl rfl (idxn_some hr9024).2 rfl rfl rfl info22 rfl (H' := [⟨.pointer (some wa0), [(Vl (.pointer ((some wa0_0, 9, 9)).1))], 48, none⟩, (Rw Kf 77 (Vs (some wa0_0, 9, 9)) r9023.1), (Rw Kf 24 (Vs (some q3, 9, 9)) ((((((([0, 0, 0, 0, 0, 0, 0, 0, 0]).set (0 : Int).toNat r903.2).set (1 : Int).toNat r907.2).set (2 : Int).toNat r9011.2).set (3 : Int).toNat r9015.2).set (4 : Int).toNat r9019.2).set (5 : Int).toNat r9023.2)), ⟨.pointer (some q2), [(Vl (.float .f64 0)), (Vl (.float .f64 0)), (Vl (.float .f64 0)), (Vl (.float .f64 0)), (Vl (.float .f64 0)), (Vl (.float .f64 0)), (Vl (.float .f64 0)), (Vl (.float .f64 0)), (Vl (.float .f64 0))], 24, none⟩]) rfl) (wt_none' rfl) fun _ => ?_
  refine sx_nil' ?_
  show TX E K27 _
  refine tx_k' hK27 ?_
  refine cx_region' ?_
  refine sx_rd' (rd_bin' rfl rfl eg_int (ru_addc (c := 6) (by decide))) rfl rfl (wt_none' rfl) ?_
  refine sx_rd' (rd_move' rfl) rfl rfl (wt_none' rfl) ?_
  refine sx_nil' ?_
  show TX E (LoopIn _ _ _) _
  refine tx_round' ?_
  refine cx_seq' fun K29 hK29 => ?_
  refine cx_region' ?_
  refine sx_rd' (rd_bin' rfl rfl eg_int ru_lss) rfl rfl (wt_none' rfl) ?_
  refine sx_nil' ?_
  show TX E K29 _
  refine tx_k' hK29 ?_
  refine cx_seq' fun K30 hK30 => ?_
  refine cx_cond_t' rfl rfl ?_
  refine cx_skip' ?_
  show TX E K30 _
  refine tx_k' hK30 ?_
  refine cx_seq' fun K31 hK31 => ?_
  refine cx_block' ?_
  refine cx_seq' fun K32 hK32 => ?_
  refine cx_region' ?_
  refine sx_rd' (rd_move' rfl) rfl rfl (wt_none' rfl) ?_
  refine sx_rd' (rd_assign' rfl) rfl rfl (wt_none' rfl) ?_
  refine sx_nil' ?_
  show TX E K32 _
  refine tx_k' hK32 ?_
  refine cx_region' ?_
  refine sx_rd' (rd_move' rfl) rfl rfl (wt_none' rfl) ?_
  refine sx_rd' (rd_move' rfl) rfl rfl (wt_none' rfl) ?_
  refine sx_rd' (rd_move' rfl) rfl rfl (wt_none' rfl) ?_
  obtain ⟨r9025, hr9025, hp⟩ := bind_some hp
  refine sx_rd' (rd_bin' rfl rfl eg_int (ru_quo hr9025)) rfl rfl (wt_none' rfl) ?_
  refine sx_rd' (rd_move' rfl) rfl rfl (wt_none' rfl) ?_
  obtain ⟨r9026, hr9026, hp⟩ := bind_some hp
  refine sx_rd' (rd_bin' rfl rfl eg_int (ru_rem hr9026)) rfl rfl (wt_none' rfl) ?_
  obtain ⟨r9027, hr9027, hp⟩ := bind_some hp
  refine sx_ox' (ox_callg' (ent_fn' Tryd.func36 isn36 rfl rfl) (r3_Mat_At_v2_sim _ _ _ hr9027 : Go.Sx.Fn Tryd.prog 36 [(Vl (.pointer (some wa0))), (Vl (.int .i64 r9025)), (Vl (.int .i64 r9026))] [⟨.pointer (some wa0), [(Vl (.pointer ((some wa0_0, 9, 9)).1))], 48, none⟩, (Rw Kf 77 (Vs (some wa0_0, 9, 9)) r9023.1)] (fun x : Unit => (Vl (.float .f64 r9027.2))) (fun x => [⟨.pointer (some wa0), [(Vl (.pointer ((some wa0_0, 9, 9)).1))], 48, none⟩, (Rw Kf 77 (Vs (some wa0_0, 9, 9)) r9027.1)])) [0, 1] [2, 3] (by decide) (pick_cons rfl (pick_cons rfl pick_nil)) (pick_cons rfl (pick_cons rfl pick_nil)) (Hn := fun x : Unit => [⟨.pointer (some wa0), [(Vl (.pointer ((some wa0_0, 9, 9)).1))], 48, none⟩, (Rw Kf 77 (Vs (some wa0_0, 9, 9)) r9027.1), (Rw Kf 24 (Vs (some q3, 9, 9)) ((((((([0, 0, 0, 0, 0, 0, 0, 0, 0]).set (0 : Int).toNat r903.2).set (1 : Int).toNat r907.2).set (2 : Int).toNat r9011.2).set (3 : Int).toNat r9015.2).set (4 : Int).toNat r9019.2).set (5 : Int).toNat r9023.2)), ⟨.pointer (some q2), [(Vl (.float .f64 0)), (Vl (.float .f64 0)), (Vl (.float .f64 0)), (Vl (.float .f64 0)), (Vl (.float .f64 0)), (Vl (.float .f64 0)), (Vl (.float .f64 0)), (Vl (.float .f64 0)), (Vl (.float .f64 0))], 24, none⟩]) (fun _ => rfl) rfl rfl) (wt_none' rfl) fun ⟨⟩ => ?_
  obtain ⟨r9028, hr9028, hp⟩ := bind_some hp
  refine sx_rd' (rd_atarr' (m := 2) rfl rfl rfl rfl hr9028 Tryd.underlying24 info22) rfl rfl (wt_none' rfl) ?_
  refine sx_ox' (ox_storer' (m := 2) (i := 6) (j := 0) (x' := r9027.2) rfl rfl (lv_vl rfl rfl) rfl rfl (idxn_some hr9028).2 rfl rfl rfl info22 rfl (H' := [⟨.pointer (some wa0), [(Vl (.pointer ((some wa0_0, 9, 9)).1))], 48, none⟩, (Rw Kf 77 (Vs (some wa0_0, 9, 9)) r9027.1), (Rw Kf 24 (Vs (some q3, 9, 9)) (((((((([0, 0, 0, 0, 0, 0, 0, 0, 0]).set (0 : Int).toNat r903.2).set (1 : Int).toNat r907.2).set (2 : Int).toNat r9011.2).set (3 : Int).toNat r9015.2).set (4 : Int).toNat r9019.2).set (5 : Int).toNat r9023.2).set (6 : Int).toNat r9027.2)), ⟨.pointer (some q2), [(Vl (.float .f64 0)), (Vl (.float .f64 0)), (Vl (.float .f64 0)), (Vl (.float .f64 0)), (Vl (.float .f64 0)), (Vl (.float .f64 0)), (Vl (.float .f64 0)), (Vl (.float .f64 0)), (Vl (.float .f64 0))], 24, none⟩]) rfl) (wt_none' rfl) fun _ => ?_
  refine sx_nil' ?_
  show TX E K31 _
  refine tx_k' hK31 ?_
  refine cx_region' ?_
  refine sx_rd' (rd_bin' rfl rfl eg_int (ru_addc (c := 7) (by decide))) rfl rfl (wt_none' rfl) ?_
  refine sx_rd' (rd_move' rfl) rfl rfl (wt_none' rfl) ?_
  refine sx_nil' ?_
  show TX E (LoopIn _ _ _) _
  refine tx_round' ?_
  refine cx_seq' fun K33 hK33 => ?_
  refine cx_region' ?_
  refine sx_rd' (rd_bin' rfl rfl eg_int ru_lss) rfl rfl (wt_none' rfl) ?_
  refine sx_nil' ?_
  show TX E K33 _
  refine tx_k' hK33 ?_
  refine cx_seq' fun K34 hK34 => ?_
  refine cx_cond_t' rfl rfl ?_
  refine cx_skip' ?_
  show TX E K34 _
  refine tx_k' hK34 ?_
  refine cx_seq' fun K35 hK35 => ?_
  refine cx_block' ?_
  refine cx_seq' fun K36 hK36 => ?_
  refine cx_region' ?_
  refine sx_rd' (rd_move' rfl) rfl rfl (wt_none' rfl) ?_
  refine sx_rd' (rd_assign' rfl) rfl rfl (wt_none' rfl) ?_
  refine sx_nil' ?_
  show TX E K36 _
  refine tx_k' hK36 ?_
  refine cx_region' ?_
  refine sx_rd' (rd_move' rfl) rfl rfl (wt_none' rfl) ?_
  refine sx_rd' (rd_move' rfl) rfl rfl (wt_none' rfl) ?_
  refine sx_rd' (rd_move' rfl) rfl rfl (wt_none' rfl) ?_
  obtain ⟨r9029, hr9029, hp⟩ := bind_some hp
  refine sx_rd' (rd_bin' rfl rfl eg_int (ru_quo hr9029)) rfl rfl (wt_none' rfl) ?_
  refine sx_rd' (rd_move' rfl) rfl rfl (wt_none' rfl) ?_
  obtain ⟨r9030, hr9030, hp⟩ := bind_some hp
  refine sx_rd' (rd_bin' rfl rfl eg_int (ru_rem hr9030)) rfl rfl (wt_none' rfl) ?_
  obtain ⟨r9031, hr9031, hp⟩ := bind_some hp
  refine sx_ox' (ox_callg' (ent_fn' Tryd.func36 isn36 rfl rfl) (r3_Mat_At_v2_sim _ _ _ hr9031 : Go.Sx.Fn Tryd.prog 36 [(Vl (.pointer (some wa0))), (Vl (.int .i64 r9029)), (Vl (.int .i64 r9030))] [⟨.pointer (some wa0), [(Vl (.pointer ((some wa0_0, 9, 9)).1))], 48, none⟩, (Rw Kf 77 (Vs (some wa0_0, 9, 9)) r9027.1)] (fun x : Unit => (Vl (.float .f64 r9031.2))) (fun x => [⟨.pointer (some wa0), [(Vl (.pointer ((some wa0_0, 9, 9)).1))], 48, none⟩, (Rw Kf 77 (Vs (some wa0_0, 9, 9)) r9031.1)])) [0, 1] [2, 3] (by decide) (pick_cons rfl (pick_cons rfl pick_nil)) (pick_cons rfl (pick_cons rfl pick_nil)) (Hn := fun x : Unit => [⟨.pointer (some wa0), [(Vl (.pointer ((some wa0_0, 9, 9)).1))], 48, none⟩, (Rw Kf 77 (Vs (some wa0_0, 9, 9)) r9031.1), (Rw Kf 24 (Vs (some q3, 9, 9)) (((((((([0, 0, 0, 0, 0, 0, 0, 0, 0]).set (0 : Int).toNat r903.2).set (1 : Int).toNat r907.2).set (2 : Int).toNat r9011.2).set (3 : Int).toNat r9015.2).set (4 : Int).toNat r9019.2).set (5 : Int).toNat r9023.2).set (6 : Int).toNat r9027.2)), ⟨.pointer (some q2), [(Vl (.float .f64 0)), (Vl (.float .f64 0)), (Vl (.float .f64 0)), (Vl (.float .f64 0)), (Vl (.float .f64 0)), (Vl (.float .f64 0)), (Vl (.float .f64 0)), (Vl (.float .f64 0)), (Vl (.float .f64 0))], 24, none⟩]) (fun _ => rfl) rfl rfl) (wt_none' rfl) fun ⟨⟩ => ?_
  obtain ⟨r9032, hr9032, hp⟩ := bind_some hp
  refine sx_rd' (rd_atarr' (m := 2) rfl rfl rfl rfl hr9032 Tryd.underlying24 info22) rfl rfl (wt_none' rfl) ?_
  refine sx_ox' (ox_storer' (m := 2) (i := 7) (j := 0) (x' := r9031.2) rfl rfl (lv_vl rfl rfl) rfl rfl (idxn_some hr9032).2 rfl rfl rfl info22 rfl (H' := [⟨.pointer (some wa0), [(Vl (.pointer ((some wa0_0, 9, 9)).1))], 48, none⟩, (Rw Kf 77 (Vs (some wa0_0, 9, 9)) r9031.1), (Rw Kf 24 (Vs (some q3, 9, 9)) ((((((((([0, 0, 0, 0, 0, 0, 0, 0, 0]).set (0 : Int).toNat r903.2).set (1 : Int).toNat r907.2).set (2 : Int).toNat r9011.2).set (3 : Int).toNat r9015.2).set (4 : Int).toNat r9019.2).set (5 : Int).toNat r9023.2).set (6 : Int).toNat r9027.2).set (7 : Int).toNat r9031.2)), ⟨.pointer (some q2), [(Vl (.float .f64 0)), (Vl (.float .f64 0)), (Vl (.float .f64 0)), (Vl (.float .f64 0)), (Vl (.float .f64 0)), (Vl (.float .f64 0)), (Vl (.float .f64 0)), (Vl (.float .f64 0)), (Vl (.float .f64 0))], 24, none⟩]) rfl) (wt_none' rfl) fun _ => ?_
  refine sx_nil' ?_
  show TX E K35 _
  refine tx_k' hK35 ?_
  refine cx_region' ?_
  refine sx_rd' (rd_bin' rfl rfl eg_int (ru_addc (c := 8) (by decide))) rfl rfl (wt_none' rfl) ?_
  refine sx_rd' (rd_move' rfl) rfl rfl (wt_none' rfl) ?_
  refine sx_nil' ?_
  show TX E (LoopIn _ _ _) _
  refine tx_round' ?_
  refine cx_seq' fun K37 hK37 => ?_
  refine cx_region' ?_
  refine sx_rd' (rd_bin' rfl rfl eg_int ru_lss) rfl rfl (wt_none' rfl) ?_
  refine sx_nil' ?_
  show TX E K37 _
  refine tx_k' hK37 ?_
  refine cx_seq' fun K38 hK38 => ?_
  refine cx_cond_t' rfl rfl ?_
  refine cx_skip' ?_
  show TX E K38 _
  refine tx_k' hK38 ?_
  refine cx_seq' fun K39 hK39 => ?_
  refine cx_block' ?_
  refine cx_seq' fun K40 hK40 => ?_
  refine cx_region' ?_
  refine sx_rd' (rd_move' rfl) rfl rfl (wt_none' rfl) ?_
  refine sx_rd' (rd_assign' rfl) rfl rfl (wt_none' rfl) ?_
  refine sx_nil' ?_
  show TX E K40 _
  refine tx_k' hK40 ?_
  refine cx_region' ?_
  refine sx_rd' (rd_move' rfl) rfl rfl (wt_none' rfl) ?_
  refine sx_rd' (rd_move' rfl) rfl rfl (wt_none' rfl) ?_
  refine sx_rd' (rd_move' rfl) rfl rfl (wt_none' rfl) ?_
  obtain ⟨r9033, hr9033, hp⟩ := bind_some hp
  refine sx_rd' (rd_bin' rfl rfl eg_int (ru_quo hr9033)) rfl rfl (wt_none' rfl) ?_
  refine sx_rd' (rd_move' rfl) rfl rfl (wt_none' rfl) ?_
  obtain ⟨r9034, hr9034, hp⟩ := bind_some hp
  refine sx_rd' (rd_bin' rfl rfl eg_int (ru_rem hr9034)) rfl rfl (wt_none' rfl) ?_
  obtain ⟨r9035, hr9035, hp⟩ := bind_some hp
  refine sx_ox' (ox_callg' (ent_fn' Tryd.func36 isn36 rfl rfl) (r3_Mat_At_v2_sim _ _ _ hr9035 : Go.Sx.Fn Tryd.prog 36 [(Vl (.pointer (some wa0))), (Vl (.int .i64 r9033)), (Vl (.int .i64 r9034))] [⟨.pointer (some wa0), [(Vl (.pointer ((some wa0_0, 9, 9)).1))], 48, none⟩, (Rw Kf 77 (Vs (some wa0_0, 9, 9)) r9031.1)] (fun x : Unit => (Vl (.float .f64 r9035.2))) (fun x => [⟨.pointer (some wa0), [(Vl (.pointer ((some wa0_0, 9, 9)).1))], 48, none⟩, (Rw Kf 77 (Vs (some wa0_0, 9, 9)) r9035.1)])) [0, 1] [2, 3] (by decide) (pick_cons rfl (pick_cons rfl pick_nil)) (pick_cons rfl (pick_cons rfl pick_nil)) (Hn := fun x : Unit => [⟨.pointer (some wa0), [(Vl (.pointer ((some wa0_0, 9, 9)).1))], 48, none⟩, (Rw Kf 77 (Vs (some wa0_0, 9, 9)) r9035.1), (Rw Kf 24 (Vs (some q3, 9, 9)) ((((((((([0, 0, 0, 0, 0, 0, 0, 0, 0]).set (0 : Int).toNat r903.2).set (1 : Int).toNat r907.2).set (2 : Int).toNat r9011.2).set (3 : Int).toNat r9015.2).set (4 : Int).toNat r9019.2).set (5 : Int).toNat r9023.2).set (6 : Int).toNat r9027.2).set (7 : Int).toNat r9031.2)), ⟨.pointer (some q2), [(Vl (.float .f64 0)), (Vl (.float .f64 0)), (Vl (.float .f64 0)), (Vl (.float .f64 0)), (Vl (.float .f64 0)), (Vl (.float .f64 0)), (Vl (.float .f64 0)), (Vl (.float .f64 0)), (Vl (.float .f64 0))], 24, none⟩]) (fun _ => rfl) rfl rfl) (wt_none' rfl) fun ⟨⟩ => ?_
  obtain ⟨r9036, hr9036, hp⟩ := bind_some hp
  refine sx_rd' (rd_atarr' (m := 2) rfl rfl rfl rfl hr9036 Tryd.underlying24 info22) rfl rfl (wt_none' rfl) ?_
  refine sx_ox' (ox_storer' (m := 2) (i := 8) (j := 0) (x' := r9035.2) rfl rfl (lv_vl rfl rfl) rfl rfl (idxn_some hr9036).2 rfl rfl rfl info22 rfl (H' := [⟨.pointer (some wa0), [(Vl (.pointer ((some wa0_0, 9, 9)).1))], 48, none⟩, (Rw Kf 77 (Vs (some wa0_0, 9, 9)) r9035.1), (Rw Kf 24 (Vs (some q3, 9, 9)) (((((((((([0, 0, 0, 0, 0, 0, 0, 0, 0]).set (0 : Int).toNat r903.2).set (1 : Int).toNat r907.2).set (2 : Int).toNat r9011.2).set (3 : Int).toNat r9015.2).set (4 : Int).toNat r9019.2).set (5 : Int).toNat r9023.2).set (6 : Int).toNat r9027.2).set (7 : Int).toNat r9031.2).set (8 : Int).toNat r9035.2)), ⟨.pointer (some q2), [(Vl (.float .f64 0)), (Vl (.float .f64 0)), (Vl (.float .f64 0)), (Vl (.float .f64 0)), (Vl (.float .f64 0)), (Vl (.float .f64 0)), (Vl (.float .f64 0)), (Vl (.float .f64 0)), (Vl (.float .f64 0))], 24, none⟩]) rfl) (wt_none' rfl) fun _ => ?_
  refine sx_nil' ?_
  show TX E K39 _
  refine tx_k' hK39 ?_
  refine cx_region' ?_
  refine sx_rd' (rd_bin' rfl rfl eg_int (ru_addc (c := 9) (by decide))) rfl rfl (wt_none' rfl) ?_
  refine sx_rd' (rd_move' rfl) rfl rfl (wt_none' rfl) ?_
  refine sx_nil' ?_
  show TX E (LoopIn _ _ _) _
  refine tx_round' ?_
  refine cx_seq' fun K41 hK41 => ?_
  refine cx_region' ?_
  refine sx_rd' (rd_bin' rfl rfl eg_int ru_lss) rfl rfl (wt_none' rfl) ?_
  refine sx_nil' ?_
  show TX E K41 _
  refine tx_k' hK41 ?_
  refine cx_seq' fun K42 hK42 => ?_
  refine cx_cond_f' rfl rfl ?_
  refine cx_exit' ?_
  show TX E K3 _
  refine tx_k' hK3 ?_
  refine cx_seq' fun K43 hK43 => ?_
  refine cx_region' ?_
  obtain ⟨r17, hr17, hp⟩ := bind_some hp
  refine sx_rd' (rd_loadarr' (m := 2) rfl rfl rfl agg24 (l' := [(Vl (.float .f64 r17.1)), (Vl (.float .f64 r17.2.1)), (Vl (.float .f64 r17.2.2.1)), (Vl (.float .f64 r17.2.2.2.1)), (Vl (.float .f64 r17.2.2.2.2.1)), (Vl (.float .f64 r17.2.2.2.2.2.1)), (Vl (.float .f64 r17.2.2.2.2.2.2.1)), (Vl (.float .f64 r17.2.2.2.2.2.2.2.1)), (Vl (.float .f64 r17.2.2.2.2.2.2.2.2))]) (by rw [vec9_some hr17]; rfl) rfl rfl) rfl rfl (wt_none' rfl) ?_
  refine sx_ox' (ox_store' (i := 3) (o := 0) rfl rfl (lv_ag _) ⟨rfl, rfl, rfl, rfl⟩ rfl info24 rfl (H' := [⟨.pointer (some wa0), [(Vl (.pointer ((some wa0_0, 9, 9)).1))], 48, none⟩, (Rw Kf 77 (Vs (some wa0_0, 9, 9)) r9035.1), (Rw Kf 24 (Vs (some q3, 9, 9)) (((((((((([0, 0, 0, 0, 0, 0, 0, 0, 0]).set (0 : Int).toNat r903.2).set (1 : Int).toNat r907.2).set (2 : Int).toNat r9011.2).set (3 : Int).toNat r9015.2).set (4 : Int).toNat r9019.2).set (5 : Int).toNat r9023.2).set (6 : Int).toNat r9027.2).set (7 : Int).toNat r9031.2).set (8 : Int).toNat r9035.2)), ⟨.pointer (some q2), [(Vl (.float .f64 r17.1)), (Vl (.float .f64 r17.2.1)), (Vl (.float .f64 r17.2.2.1)), (Vl (.float .f64 r17.2.2.2.1)), (Vl (.float .f64 r17.2.2.2.2.1)), (Vl (.float .f64 r17.2.2.2.2.2.1)), (Vl (.float .f64 r17.2.2.2.2.2.2.1)), (Vl (.float .f64 r17.2.2.2.2.2.2.2.1)), (Vl (.float .f64 r17.2.2.2.2.2.2.2.2))], 24, none⟩]) rfl) (wt_none' rfl) fun _ => ?_
  refine sx_nil' ?_
  show TX E K43 _
  refine tx_k' hK43 ?_
  refine cx_retc' ?_
  replace hp := Option.some.inj hp
  subst hp
  refine tx_pick' (L' := [(2, (Vl (.pointer (some q2))))]) (H' := [⟨.pointer (some wa0), [(Vl (.pointer ((some wa0_0, 9, 9)).1))], 48, none⟩, (Rw Kf 77 (Vs (some wa0_0, 9, 9)) r9035.1), ⟨.pointer (some q2), [(Vl (.float .f64 r17.1)), (Vl (.float .f64 r17.2.1)), (Vl (.float .f64 r17.2.2.1)), (Vl (.float .f64 r17.2.2.2.1)), (Vl (.float .f64 r17.2.2.2.2.1)), (Vl (.float .f64 r17.2.2.2.2.2.1)), (Vl (.float .f64 r17.2.2.2.2.2.2.1)), (Vl (.float .f64 r17.2.2.2.2.2.2.2.1)), (Vl (.float .f64 r17.2.2.2.2.2.2.2.2))], 24, none⟩]) [0, 1, 3] (sub_cons rfl sub_nil) (by decide) (pick_cons rfl (pick_cons rfl (pick_cons rfl pick_nil))) ?_
  exact tx_ret1' Tryd.results21 rfl () (rv_cell_agg' (i := 2) (o := 0) (nn := 9) rfl ⟨rfl, rfl, rfl, rfl⟩ rfl agg24 rfl) (List.Sublist.cons_cons _ (List.Sublist.cons_cons _ (List.nil_sublist _)))

def impl_MatAdd (k : Nat) (a0_0 : Nat) (a0_1 : Nat) (a0_2 : Nat) (a0_3 : Nat) (a0_4 : Nat) (a0_5 : Nat) (a0_6 : Nat) (a0_7 : Nat) (a0_8 : Nat) (a1_0 : Nat) (a1_1 : Nat) (a1_2 : Nat) (a1_3 : Nat) (a1_4 : Nat) (a1_5 : Nat) (a1_6 : Nat) (a1_7 : Nat) (a1_8 : Nat) : Option (Nat × Nat × Nat × Nat × Nat × Nat × Nat × Nat × Nat) :=
  (impl_mat k a0_0 a0_1 a0_2 a0_3 a0_4 a0_5 a0_6 a0_7 a0_8) >>= fun r7 =>
  (impl_mat k a1_0 a1_1 a1_2 a1_3 a1_4 a1_5 a1_6 a1_7 a1_8) >>= fun r10 =>
  (r3_Mat_Add k r7 r10) >>= fun r12 =>
  (impl_plainMat k r12.1) >>= fun r13 =>
  some (r13.2.1, r13.2.2.1, r13.2.2.2.1, r13.2.2.2.2.1, r13.2.2.2.2.2.1, r13.2.2.2.2.2.2.1, r13.2.2.2.2.2.2.2.1, r13.2.2.2.2.2.2.2.2.1, r13.2.2.2.2.2.2.2.2.2)

theorem impl_MatAdd_sim {k : Nat}  (a0_0 : Nat) (a0_1 : Nat) (a0_2 : Nat) (a0_3 : Nat) (a0_4 : Nat) (a0_5 : Nat) (a0_6 : Nat) (a0_7 : Nat) (a0_8 : Nat) (a1_0 : Nat) (a1_1 : Nat) (a1_2 : Nat) (a1_3 : Nat) (a1_4 : Nat) (a1_5 : Nat) (a1_6 : Nat) (a1_7 : Nat) (a1_8 : Nat) {out : Nat × Nat × Nat × Nat × Nat × Nat × Nat × Nat × Nat} (hp : impl_MatAdd k a0_0 a0_1 a0_2 a0_3 a0_4 a0_5 a0_6 a0_7 a0_8 a1_0 a1_1 a1_2 a1_3 a1_4 a1_5 a1_6 a1_7 a1_8 = some out) : Go.Sx.Fn Tryd.prog 10 [(Ag [(Vl (.float .f64 a0_0)), (Vl (.float .f64 a0_1)), (Vl (.float .f64 a0_2)), (Vl (.float .f64 a0_3)), (Vl (.float .f64 a0_4)), (Vl (.float .f64 a0_5)), (Vl (.float .f64 a0_6)), (Vl (.float .f64 a0_7)), (Vl (.float .f64 a0_8))]), (Ag [(Vl (.float .f64 a1_0)), (Vl (.float .f64 a1_1)), (Vl (.float .f64 a1_2)), (Vl (.float .f64 a1_3)), (Vl (.float .f64 a1_4)), (Vl (.float .f64 a1_5)), (Vl (.float .f64 a1_6)), (Vl (.float .f64 a1_7)), (Vl (.float .f64 a1_8))])] [] (fun w : Unit => (Ag [(Vl (.float .f64 out.1)), (Vl (.float .f64 out.2.1)), (Vl (.float .f64 out.2.2.1)), (Vl (.float .f64 out.2.2.2.1)), (Vl (.float .f64 out.2.2.2.2.1)), (Vl (.float .f64 out.2.2.2.2.2.1)), (Vl (.float .f64 out.2.2.2.2.2.2.1)), (Vl (.float .f64 out.2.2.2.2.2.2.2.1)), (Vl (.float .f64 out.2.2.2.2.2.2.2.2))])) (fun w => []) := by
  unfold impl_MatAdd at hp
  refine fn_of Tryd.func10 rfl Tryd.ntmps10 rfl fun E hM => ?_
  refine cx_seq' fun K1 hK1 => ?_
  refine cx_region' ?_
  refine sx_ox' (ox_box' rfl (lv_ag _) rfl rfl) (wt_none' rfl) fun q2 => ?_
  refine sx_ox' (ox_box' rfl (lv_ag _) rfl rfl) (wt_none' rfl) fun q3 => ?_
  refine sx_ox' (ox_alloc' info24 rfl rfl rfl rfl (l := [(Vl (.float .f64 0)), (Vl (.float .f64 0)), (Vl (.float .f64 0)), (Vl (.float .f64 0)), (Vl (.float .f64 0)), (Vl (.float .f64 0)), (Vl (.float .f64 0)), (Vl (.float .f64 0)), (Vl (.float .f64 0))]) rfl) (wt_none' rfl) fun q4 => ?_
  refine sx_nil' ?_
  show TX E K1 _
  refine tx_k' hK1 ?_
  refine cx_seq' fun K2 hK2 => ?_
  refine cx_region' ?_
  refine sx_ox' (ox_alloc' info48 rfl rfl rfl rfl (l := [(Vl (.pointer none))]) rfl) (wt_none' rfl) fun q5 => ?_
  refine sx_nil' ?_
  show TX E K2 _
  refine tx_k' hK2 ?_
  refine cx_seq' fun K3 hK3 => ?_
  refine cx_plan' [] [(6, 1)] [(0, 1), (3, 1), (1, 0), (2, 1), (4, 0), (5, 1), (6, 0)] mixed (by kernel_rfl) ?_
  refine px_rd' rfl (rd_load_agg' (i := 3) (o := 0) (nn := 9) rfl ⟨rfl, rfl, rfl, rfl⟩ rfl agg24 (l' := [(Vl (.float .f64 a0_0)), (Vl (.float .f64 a0_1)), (Vl (.float .f64 a0_2)), (Vl (.float .f64 a0_3)), (Vl (.float .f64 a0_4)), (Vl (.float .f64 a0_5)), (Vl (.float .f64 a0_6)), (Vl (.float .f64 a0_7)), (Vl (.float .f64 a0_8))]) rfl) rfl rfl (wt_none' rfl) ?_
  refine px_rd' rfl (rd_load_agg' (i := 2) (o := 0) (nn := 9) rfl ⟨rfl, rfl, rfl, rfl⟩ rfl agg24 (l' := [(Vl (.float .f64 a1_0)), (Vl (.float .f64 a1_1)), (Vl (.float .f64 a1_2)), (Vl (.float .f64 a1_3)), (Vl (.float .f64 a1_4)), (Vl (.float .f64 a1_5)), (Vl (.float .f64 a1_6)), (Vl (.float .f64 a1_7)), (Vl (.float .f64 a1_8))]) rfl) rfl rfl (wt_none' rfl) ?_
  obtain ⟨r7, hr7, hp⟩ := bind_some hp
  refine px_ox' rfl (ox_calln' (ent_fn' Tryd.func17 isn17 rfl rfl) (impl_mat_sim _ _ _ _ _ _ _ _ _ hr7 : Go.Sx.Fn Tryd.prog 17 [(Ag [(Vl (.float .f64 a0_0)), (Vl (.float .f64 a0_1)), (Vl (.float .f64 a0_2)), (Vl (.float .f64 a0_3)), (Vl (.float .f64 a0_4)), (Vl (.float .f64 a0_5)), (Vl (.float .f64 a0_6)), (Vl (.float .f64 a0_7)), (Vl (.float .f64 a0_8))])] [] (fun x : Addr × Gs => (Vl (.pointer (some x.1)))) (fun x => [⟨.pointer (some x.1), [(Vl (.pointer (x.2).1))], 48, none⟩, (Rw Kf 22 (Vs x.2) r7)])) (Hn := fun x : Addr × Gs => [⟨.pointer (some x.1), [(Vl (.pointer (x.2).1))], 48, none⟩, (Rw Kf 22 (Vs x.2) r7), ⟨.pointer (some q5), [(Vl (.pointer none))], 48, none⟩, ⟨.pointer (some q4), [(Vl (.float .f64 0)), (Vl (.float .f64 0)), (Vl (.float .f64 0)), (Vl (.float .f64 0)), (Vl (.float .f64 0)), (Vl (.float .f64 0)), (Vl (.float .f64 0)), (Vl (.float .f64 0)), (Vl (.float .f64 0))], 24, none⟩, ⟨.pointer (some q3), [(Vl (.float .f64 a1_0)), (Vl (.float .f64 a1_1)), (Vl (.float .f64 a1_2)), (Vl (.float .f64 a1_3)), (Vl (.float .f64 a1_4)), (Vl (.float .f64 a1_5)), (Vl (.float .f64 a1_6)), (Vl (.float .f64 a1_7)), (Vl (.float .f64 a1_8))], 24, none⟩, ⟨.pointer (some q2), [(Vl (.float .f64 a0_0)), (Vl (.float .f64 a0_1)), (Vl (.float .f64 a0_2)), (Vl (.float .f64 a0_3)), (Vl (.float .f64 a0_4)), (Vl (.float .f64 a0_5)), (Vl (.float .f64 a0_6)), (Vl (.float .f64 a0_7)), (Vl (.float .f64 a0_8))], 24, none⟩]) (fun _ => rfl) rfl rfl) rfl bs_nil (wt_none' rfl) fun ⟨q7, g7⟩ => ?_
  refine px_rd' rfl (rd_iface' rfl ⟨_, Tryd.underlying43, fun _ h => (nomatch h)⟩) rfl rfl (wt_none' rfl) ?_
  obtain ⟨r10, hr10, hp⟩ := bind_some hp
  refine px_ox' rfl (ox_calln' (ent_fn' Tryd.func17 isn17 rfl rfl) (impl_mat_sim _ _ _ _ _ _ _ _ _ hr10 : Go.Sx.Fn Tryd.prog 17 [(Ag [(Vl (.float .f64 a1_0)), (Vl (.float .f64 a1_1)), (Vl (.float .f64 a1_2)), (Vl (.float .f64 a1_3)), (Vl (.float .f64 a1_4)), (Vl (.float .f64 a1_5)), (Vl (.float .f64 a1_6)), (Vl (.float .f64 a1_7)), (Vl (.float .f64 a1_8))])] [] (fun x : Addr × Gs => (Vl (.pointer (some x.1)))) (fun x => [⟨.pointer (some x.1), [(Vl (.pointer (x.2).1))], 48, none⟩, (Rw Kf 22 (Vs x.2) r10)])) (Hn := fun x : Addr × Gs => [⟨.pointer (some x.1), [(Vl (.pointer (x.2).1))], 48, none⟩, (Rw Kf 22 (Vs x.2) r10), ⟨.pointer (some q7), [(Vl (.pointer (g7).1))], 48, none⟩, (Rw Kf 22 (Vs g7) r7), ⟨.pointer (some q5), [(Vl (.pointer none))], 48, none⟩, ⟨.pointer (some q4), [(Vl (.float .f64 0)), (Vl (.float .f64 0)), (Vl (.float .f64 0)), (Vl (.float .f64 0)), (Vl (.float .f64 0)), (Vl (.float .f64 0)), (Vl (.float .f64 0)), (Vl (.float .f64 0)), (Vl (.float .f64 0))], 24, none⟩, ⟨.pointer (some q3), [(Vl (.float .f64 a1_0)), (Vl (.float .f64 a1_1)), (Vl (.float .f64 a1_2)), (Vl (.float .f64 a1_3)), (Vl (.float .f64 a1_4)), (Vl (.float .f64 a1_5)), (Vl (.float .f64 a1_6)), (Vl (.float .f64 a1_7)), (Vl (.float .f64 a1_8))], 24, none⟩, ⟨.pointer (some q2), [(Vl (.float .f64 a0_0)), (Vl (.float .f64 a0_1)), (Vl (.float .f64 a0_2)), (Vl (.float .f64 a0_3)), (Vl (.float .f64 a0_4)), (Vl (.float .f64 a0_5)), (Vl (.float .f64 a0_6)), (Vl (.float .f64 a0_7)), (Vl (.float .f64 a0_8))], 24, none⟩]) (fun _ => rfl) rfl rfl) rfl bs_nil (wt_none' rfl) fun ⟨q10, g10⟩ => ?_
  refine px_rd' rfl (rd_iface' rfl ⟨_, Tryd.underlying43, fun _ h => (nomatch h)⟩) rfl rfl (wt_none' rfl) ?_
  obtain ⟨r12, hr12, hp⟩ := bind_some hp
  refine px_oxb' (is := [4, 2, 3, 0, 1]) rfl (oxb_callg (ent_fn' Tryd.func22 isn22 rfl rfl) (r3_Mat_Add_sim _ _ hr12 : Go.Sx.Fn Tryd.prog 22 [(Vl (.pointer (some q5))), (If 43 (Vl (.pointer (some q7)))), (If 43 (Vl (.pointer (some q10))))] [⟨.pointer (some q5), [(Vl (.pointer none))], 48, none⟩, ⟨.pointer (some q7), [(Vl (.pointer (g7).1))], 48, none⟩, (Rw Kf 22 (Vs g7) r7), ⟨.pointer (some q10), [(Vl (.pointer (g10).1))], 48, none⟩, (Rw Kf 22 (Vs g10) r10)] (fun x : Addr => (Vl (.tuple #[]))) (fun x => [⟨.pointer (some q5), [(Vl (.pointer ((some x, 9, 9)).1))], 48, none⟩, (Rw Kf 77 (Vs (some x, 9, 9)) r12.1), ⟨.pointer (some q7), [(Vl (.pointer (g7).1))], 48, none⟩, (Rw Kf 22 (Vs g7) r12.2.1), ⟨.pointer (some q10), [(Vl (.pointer (g10).1))], 48, none⟩, (Rw Kf 22 (Vs g10) r12.2.2)])) [4, 2, 3, 0, 1] [5, 6, 7] (by decide) (pick_cons rfl (pick_cons rfl (pick_cons rfl (pick_cons rfl (pick_cons rfl pick_nil))))) (pick_cons rfl (pick_cons rfl (pick_cons rfl pick_nil))) (Hn := fun x : Addr => [⟨.pointer (some q5), [(Vl (.pointer ((some x, 9, 9)).1))], 48, none⟩, (Rw Kf 77 (Vs (some x, 9, 9)) r12.1), ⟨.pointer (some q7), [(Vl (.pointer (g7).1))], 48, none⟩, (Rw Kf 22 (Vs g7) r12.2.1), ⟨.pointer (some q10), [(Vl (.pointer (g10).1))], 48, none⟩, (Rw Kf 22 (Vs g10) r12.2.2), ⟨.pointer (some q4), [(Vl (.float .f64 0)), (Vl (.float .f64 0)), (Vl (.float .f64 0)), (Vl (.float .f64 0)), (Vl (.float .f64 0)), (Vl (.float .f64 0)), (Vl (.float .f64 0)), (Vl (.float .f64 0)), (Vl (.float .f64 0))], 24, none⟩, ⟨.pointer (some q3), [(Vl (.float .f64 a1_0)), (Vl (.float .f64 a1_1)), (Vl (.float .f64 a1_2)), (Vl (.float .f64 a1_3)), (Vl (.float .f64 a1_4)), (Vl (.float .f64 a1_5)), (Vl (.float .f64 a1_6)), (Vl (.float .f64 a1_7)), (Vl (.float .f64 a1_8))], 24, none⟩, ⟨.pointer (some q2), [(Vl (.float .f64 a0_0)), (Vl (.float .f64 a0_1)), (Vl (.float .f64 a0_2)), (Vl (.float .f64 a0_3)), (Vl (.float .f64 a0_4)), (Vl (.float .f64 a0_5)), (Vl (.float .f64 a0_6)), (Vl (.float .f64 a0_7)), (Vl (.float .f64 a0_8))], 24, none⟩]) (fun _ => rfl) rfl rfl) (pick_cons rfl (pick_cons rfl (pick_cons rfl (pick_cons rfl (pick_cons rfl pick_nil))))) rfl bl_nil (wt_none' rfl) fun q12 => ?_
  refine px_nil' ?_
  show TX E K3 _
  refine tx_k' hK3 ?_
  refine cx_seq' fun K4 hK4 => ?_
  refine cx_region' ?_
  obtain ⟨r13, hr13, hp⟩ := bind_some hp
  refine sx_ox' (ox_callg' (ent_fn' Tryd.func21 isn21 rfl rfl) (impl_plainMat_sim _ hr13 : Go.Sx.Fn Tryd.prog 21 [(Vl (.pointer (some q5)))] [⟨.pointer (some q5), [(Vl (.pointer ((some q12, 9, 9)).1))], 48, none⟩, (Rw Kf 77 (Vs (some q12, 9, 9)) r12.1)] (fun x : Unit => (Ag [(Vl (.float .f64 r13.2.1)), (Vl (.float .f64 r13.2.2.1)), (Vl (.float .f64 r13.2.2.2.1)), (Vl (.float .f64 r13.2.2.2.2.1)), (Vl (.float .f64 r13.2.2.2.2.2.1)), (Vl (.float .f64 r13.2.2.2.2.2.2.1)), (Vl (.float .f64 r13.2.2.2.2.2.2.2.1)), (Vl (.float .f64 r13.2.2.2.2.2.2.2.2.1)), (Vl (.float .f64 r13.2.2.2.2.2.2.2.2.2))])) (fun x => [⟨.pointer (some q5), [(Vl (.pointer ((some q12, 9, 9)).1))], 48, none⟩, (Rw Kf 77 (Vs (some q12, 9, 9)) r13.1)])) [0, 1] [2, 3, 4, 5, 6, 7, 8] (by decide) (pick_cons rfl (pick_cons rfl pick_nil)) (pick_cons rfl (pick_cons rfl (pick_cons rfl (pick_cons rfl (pick_cons rfl (pick_cons rfl (pick_cons rfl pick_nil))))))) (Hn := fun x : Unit => [⟨.pointer (some q5), [(Vl (.pointer ((some q12, 9, 9)).1))], 48, none⟩, (Rw Kf 77 (Vs (some q12, 9, 9)) r13.1), ⟨.pointer (some q7), [(Vl (.pointer (g7).1))], 48, none⟩, (Rw Kf 22 (Vs g7) r12.2.1), ⟨.pointer (some q10), [(Vl (.pointer (g10).1))], 48, none⟩, (Rw Kf 22 (Vs g10) r12.2.2), ⟨.pointer (some q4), [(Vl (.float .f64 0)), (Vl (.float .f64 0)), (Vl (.float .f64 0)), (Vl (.float .f64 0)), (Vl (.float .f64 0)), (Vl (.float .f64 0)), (Vl (.float .f64 0)), (Vl (.float .f64 0)), (Vl (.float .f64 0))], 24, none⟩, ⟨.pointer (some q3), [(Vl (.float .f64 a1_0)), (Vl (.float .f64 a1_1)), (Vl (.float .f64 a1_2)), (Vl (.float .f64 a1_3)), (Vl (.float .f64 a1_4)), (Vl (.float .f64 a1_5)), (Vl (.float .f64 a1_6)), (Vl (.float .f64 a1_7)), (Vl (.float .f64 a1_8))], 24, none⟩, ⟨.pointer (some q2), [(Vl (.float .f64 a0_0)), (Vl (.float .f64 a0_1)), (Vl (.float .f64 a0_2)), (Vl (.float .f64 a0_3)), (Vl (.float .f64 a0_4)), (Vl (.float .f64 a0_5)), (Vl (.float .f64 a0_6)), (Vl (.float .f64 a0_7)), (Vl (.float .f64 a0_8))], 24, none⟩]) (fun _ => rfl) rfl rfl) (wt_none' rfl) fun ⟨⟩ => ?_
  refine sx_ox' (ox_store' (i := 6) (o := 0) rfl rfl (lv_ag _) ⟨rfl, rfl, rfl, rfl⟩ rfl info24 rfl (H' := [⟨.pointer (some q5), [(Vl (.pointer ((some q12, 9, 9)).1))], 48, none⟩, (Rw Kf 77 (Vs (some q12, 9, 9)) r13.1), ⟨.pointer (some q7), [(Vl (.pointer (g7).1))], 48, none⟩, (Rw Kf 22 (Vs g7) r12.2.1), ⟨.pointer (some q10), [(Vl (.pointer (g10).1))], 48, none⟩, (Rw Kf 22 (Vs g10) r12.2.2), ⟨.pointer (some q4), [(Vl (.float .f64 r13.2.1)), (Vl (.float .f64 r13.2.2.1)), (Vl (.float .f64 r13.2.2.2.1)), (Vl (.float .f64 r13.2.2.2.2.1)), (Vl (.float .f64 r13.2.2.2.2.2.1)), (Vl (.float .f64 r13.2.2.2.2.2.2.1)), (Vl (.float .f64 r13.2.2.2.2.2.2.2.1)), (Vl (.float .f64 r13.2.2.2.2.2.2.2.2.1)), (Vl (.float .f64 r13.2.2.2.2.2.2.2.2.2))], 24, none⟩, ⟨.pointer (some q3), [(Vl (.float .f64 a1_0)), (Vl (.float .f64 a1_1)), (Vl (.float .f64 a1_2)), (Vl (.float .f64 a1_3)), (Vl (.float .f64 a1_4)), (Vl (.float .f64 a1_5)), (Vl (.float .f64 a1_6)), (Vl (.float .f64 a1_7)), (Vl (.float .f64 a1_8))], 24, none⟩, ⟨.pointer (some q2), [(Vl (.float .f64 a0_0)), (Vl (.float .f64 a0_1)), (Vl (.float .f64 a0_2)), (Vl (.float .f64 a0_3)), (Vl (.float .f64 a0_4)), (Vl (.float .f64 a0_5)), (Vl (.float .f64 a0_6)), (Vl (.float .f64 a0_7)), (Vl (.float .f64 a0_8))], 24, none⟩]) rfl) (wt_none' rfl) fun _ => ?_
  refine sx_nil' ?_
  show TX E K4 _
  refine tx_k' hK4 ?_
  refine cx_retc' ?_
  replace hp := Option.some.inj hp
  subst hp
  refine tx_pick' (L' := [(4, (Vl (.pointer (some q4))))]) (H' := [⟨.pointer (some q4), [(Vl (.float .f64 r13.2.1)), (Vl (.float .f64 r13.2.2.1)), (Vl (.float .f64 r13.2.2.2.1)), (Vl (.float .f64 r13.2.2.2.2.1)), (Vl (.float .f64 r13.2.2.2.2.2.1)), (Vl (.float .f64 r13.2.2.2.2.2.2.1)), (Vl (.float .f64 r13.2.2.2.2.2.2.2.1)), (Vl (.float .f64 r13.2.2.2.2.2.2.2.2.1)), (Vl (.float .f64 r13.2.2.2.2.2.2.2.2.2))], 24, none⟩]) [6] (sub_cons rfl sub_nil) (by decide) (pick_cons rfl pick_nil) ?_
  exact tx_ret1' Tryd.results10 rfl () (rv_cell_agg' (i := 0) (o := 0) (nn := 9) rfl ⟨rfl, rfl, rfl, rfl⟩ rfl agg24 rfl) (List.nil_sublist _)

def r3_Mat_Sub_j2 (k : Nat) (r12 : (List Nat) × Int) (r25 : (List Nat) × Int) (x2 : Bool) : Option ((List Nat) × (List Nat) × (List Nat)) :=
  br x2
    (none)
    ((r3_Mat_At k r12.1 0 0) >>= fun r47 =>
    (r3_Mat_At k r25.1 0 0) >>= fun r49 =>
    (some (gsub r47.2 r49.2)) >>= fun r50 =>
    (num r50) >>= fun u1 =>
    (r3_Mat_Set k ([0, 0, 0, 0, 0, 0, 0, 0, 0]) 0 0 r50) >>= fun r51 =>
    (r3_Mat_At k r47.1 0 1) >>= fun r54 =>
    (r3_Mat_At k r49.1 0 1) >>= fun r56 =>
    (some (gsub r54.2 r56.2)) >>= fun r57 =>
    (num r57) >>= fun u2 =>
    (r3_Mat_Set k r51 0 1 r57) >>= fun r58 =>
    (r3_Mat_At k r54.1 0 2) >>= fun r61 =>
    (r3_Mat_At k r56.1 0 2) >>= fun r63 =>
    (some (gsub r61.2 r63.2)) >>= fun r64 =>
    (num r64) >>= fun u3 =>
    (r3_Mat_Set k r58 0 2 r64) >>= fun r65 =>
    (r3_Mat_At k r61.1 1 0) >>= fun r68 =>
    (r3_Mat_At k r63.1 1 0) >>= fun r70 =>
    (some (gsub r68.2 r70.2)) >>= fun r71 =>
    (num r71) >>= fun u4 =>
    (r3_Mat_Set k r65 1 0 r71) >>= fun r72 =>
    (r3_Mat_At k r68.1 1 1) >>= fun r75 =>
    (r3_Mat_At k r70.1 1 1) >>= fun r77 =>
    (some (gsub r75.2 r77.2)) >>= fun r78 =>
    (num r78) >>= fun u5 =>
    (r3_Mat_Set k r72 1 1 r78) >>= fun r79 =>
    (r3_Mat_At k r75.1 1 2) >>= fun r82 =>
    (r3_Mat_At k r77.1 1 2) >>= fun r84 =>
    (some (gsub r82.2 r84.2)) >>= fun r85 =>
    (num r85) >>= fun u6 =>
    (r3_Mat_Set k r79 1 2 r85) >>= fun r86 =>
    (r3_Mat_At k r82.1 2 0) >>= fun r89 =>
    (r3_Mat_At k r84.1 2 0) >>= fun r91 =>
    (some (gsub r89.2 r91.2)) >>= fun r92 =>
    (num r92) >>= fun u7 =>
    (r3_Mat_Set k r86 2 0 r92) >>= fun r93 =>
    (r3_Mat_At k r89.1 2 1) >>= fun r96 =>
    (r3_Mat_At k r91.1 2 1) >>= fun r98 =>
    (some (gsub r96.2 r98.2)) >>= fun r99 =>
    (num r99) >>= fun u8 =>
    (r3_Mat_Set k r93 2 1 r99) >>= fun r100 =>
    (r3_Mat_At k r96.1 2 2) >>= fun r103 =>
    (r3_Mat_At k r98.1 2 2) >>= fun r105 =>
    (some (gsub r103.2 r105.2)) >>= fun r106 =>
    (num r106) >>= fun u9 =>
    (r3_Mat_Set k r100 2 2 r106) >>= fun r107 =>
    some (r107, r103.1, r105.1))
def r3_Mat_Sub_j1 (k : Nat) (a2_0 : List Nat) (r12 : (List Nat) × Int) (x1 : Bool) : Option ((List Nat) × (List Nat) × (List Nat)) :=
  br x1
    (none)
    ((r3_Mat_Dims k a2_0) >>= fun r25 =>
    br (!decide (r25.2 = 3))
      (r3_Mat_Sub_j2 k r12 r25 true)
      (r3_Mat_Sub_j2 k r12 r25 (!decide (r25.2 = 3))))
def r3_Mat_Sub (k : Nat) (a1_0 : List Nat) (a2_0 : List Nat) : Option ((List Nat) × (List Nat) × (List Nat)) :=
  (r3_Mat_Dims k a1_0) >>= fun r12 =>
  br (!decide (r12.2 = 3))
    (r3_Mat_Sub_j1 k a2_0 r12 true)
    (r3_Mat_Sub_j1 k a2_0 r12 (!decide (r12.2 = 3)))

theorem r3_Mat_Sub_sim {k : Nat} {wa0 : Addr} {wa1 : Addr} {wa1_0 : Gs} {wa2 : Addr} {wa2_0 : Gs} (a1_0 : List Nat) (a2_0 : List Nat) {out : (List Nat) × (List Nat) × (List Nat)} (hp : r3_Mat_Sub k a1_0 a2_0 = some out) : Go.Sx.Fn Tryd.prog 23 [(Vl (.pointer (some wa0))), (If 43 (Vl (.pointer (some wa1)))), (If 43 (Vl (.pointer (some wa2))))] [⟨.pointer (some wa0), [(Vl (.pointer none))], 48, none⟩, ⟨.pointer (some wa1), [(Vl (.pointer (wa1_0).1))], 48, none⟩, (Rw Kf 22 (Vs wa1_0) a1_0), ⟨.pointer (some wa2), [(Vl (.pointer (wa2_0).1))], 48, none⟩, (Rw Kf 22 (Vs wa2_0) a2_0)] (fun w : Addr => (Vl (.tuple #[]))) (fun w => [⟨.pointer (some wa0), [(Vl (.pointer ((some w, 9, 9)).1))], 48, none⟩, (Rw Kf 77 (Vs (some w, 9, 9)) out.1), ⟨.pointer (some wa1), [(Vl (.pointer (wa1_0).1))], 48, none⟩, (Rw Kf 22 (Vs wa1_0) out.2.1), ⟨.pointer (some wa2), [(Vl (.pointer (wa2_0).1))], 48, none⟩, (Rw Kf 22 (Vs wa2_0) out.2.2)]) := by
  unfold r3_Mat_Sub at hp
  refine fn_of Tryd.func23 rfl Tryd.ntmps23 rfl fun E hM => ?_
  refine cx_seq' fun K1 hK1 => ?_
  refine cx_seq' fun K2 hK2 => ?_
  refine cx_region' ?_
  refine sx_rd' (rd_move' rfl) rfl rfl (wt_none' rfl) ?_
  obtain ⟨r12, hr12, hp⟩ := bind_some hp
  refine sx_ox' (ox_callg' (ent_inv' rfl rfl (inv_any0 inv43_Dims)) (r3_Mat_Dims_sim _ hr12 : Go.Sx.Fn Tryd.prog 69 [(Vl (.pointer (some wa1)))] [⟨.pointer (some wa1), [(Vl (.pointer (wa1_0).1))], 48, none⟩, (Rw Kf 22 (Vs wa1_0) a1_0)] (fun x : Unit => (Tu [(Vl (.int .i64 r12.2)), (Vl (.int .i64 r12.2))])) (fun x => [⟨.pointer (some wa1), [(Vl (.pointer (wa1_0).1))], 48, none⟩, (Rw Kf 22 (Vs wa1_0) r12.1)])) [1, 2] [0, 3, 4] (by decide) (pick_cons rfl (pick_cons rfl pick_nil)) (pick_cons rfl (pick_cons rfl (pick_cons rfl pick_nil))) (Hn := fun x : Unit => [⟨.pointer (some wa1), [(Vl (.pointer (wa1_0).1))], 48, none⟩, (Rw Kf 22 (Vs wa1_0) r12.1), ⟨.pointer (some wa0), [(Vl (.pointer none))], 48, none⟩, ⟨.pointer (some wa2), [(Vl (.pointer (wa2_0).1))], 48, none⟩, (Rw Kf 22 (Vs wa2_0) a2_0)]) (fun _ => rfl) rfl rfl) (wt_none' rfl) fun ⟨⟩ => ?_
  refine sx_rd' (rd_move' rfl) rfl rfl (wt_none' rfl) ?_
  refine sx_rd' (rd_extract' rfl rfl) rfl rfl (wt_none' rfl) ?_
  refine sx_rd' (rd_extract' rfl rfl) rfl rfl (wt_none' rfl) ?_
  refine sx_rd' (rd_assign' rfl) rfl rfl (wt_none' rfl) ?_
  refine sx_rd' (rd_assign' rfl) rfl rfl (wt_none' rfl) ?_
  refine sx_nil' ?_
  show TX E K2 _
  refine tx_k' hK2 ?_
  refine cx_seq' fun K3 hK3 => ?_
  refine cx_region' ?_
  refine sx_rd' (rd_move' rfl) rfl rfl (wt_none' rfl) ?_
  refine sx_rd' (rd_bin' rfl rfl eg_int ru_neq) rfl rfl (wt_none' rfl) ?_
  refine sx_rd' (rd_move' rfl) rfl rfl (wt_none' rfl) ?_
  refine sx_cutn' 3 (fun (v1 : Bool) => (⟨108, [], [(0, (Vl (.pointer (some wa0)))), (1, (If 43 (Vl (.pointer (some wa1))))), (2, (If 43 (Vl (.pointer (some wa2))))), (20, (Vl (.bool v1)))], [⟨.pointer (some wa0), [(Vl (.pointer none))], 48, none⟩, ⟨.pointer (some wa1), [(Vl (.pointer (wa1_0).1))], 48, none⟩, (Rw Kf 22 (Vs wa1_0) r12.1), ⟨.pointer (some wa2), [(Vl (.pointer (wa2_0).1))], 48, none⟩, (Rw Kf 22 (Vs wa2_0) a2_0)]⟩ : St)) (fun (v1 : Bool) => r3_Mat_Sub_j1 k a2_0 r12 v1 = some out) ?_ ?_
  · rintro x1 hp
    replace hp : r3_Mat_Sub_j1 k a2_0 r12 x1 = some out := hp
    unfold r3_Mat_Sub_j1 at hp
    refine sx_nil' ?_
    show TX E K3 _
    refine tx_k' hK3 ?_
    refine cx_cond' rfl (fun h2 => ?_) (fun h2 => ?_)
    · replace hp := (br_t h2).symm.trans hp
      cases hp
    · replace hp := (br_f h2).symm.trans hp
      refine cx_skip' ?_
      show TX E K1 _
      refine tx_k' hK1 ?_
      refine cx_seq' fun K5 hK5 => ?_
      refine cx_seq' fun K6 hK6 => ?_
      refine cx_region' ?_
      refine sx_rd' (rd_move' rfl) rfl rfl (wt_none' rfl) ?_
      obtain ⟨r25, hr25, hp⟩ := bind_some hp
      refine sx_ox' (ox_callg' (ent_inv' rfl rfl (inv_any0 inv43_Dims)) (r3_Mat_Dims_sim _ hr25 : Go.Sx.Fn Tryd.prog 69 [(Vl (.pointer (some wa2)))] [⟨.pointer (some wa2), [(Vl (.pointer (wa2_0).1))], 48, none⟩, (Rw Kf 22 (Vs wa2_0) a2_0)] (fun x : Unit => (Tu [(Vl (.int .i64 r25.2)), (Vl (.int .i64 r25.2))])) (fun x => [⟨.pointer (some wa2), [(Vl (.pointer (wa2_0).1))], 48, none⟩, (Rw Kf 22 (Vs wa2_0) r25.1)])) [3, 4] [0, 1, 2] (by decide) (pick_cons rfl (pick_cons rfl pick_nil)) (pick_cons rfl (pick_cons rfl (pick_cons rfl pick_nil))) (Hn := fun x : Unit => [⟨.pointer (some wa2), [(Vl (.pointer (wa2_0).1))], 48, none⟩, (Rw Kf 22 (Vs wa2_0) r25.1), ⟨.pointer (some wa0), [(Vl (.pointer none))], 48, none⟩, ⟨.pointer (some wa1), [(Vl (.pointer (wa1_0).1))], 48, none⟩, (Rw Kf 22 (Vs wa1_0) r12.1)]) (fun _ => rfl) rfl rfl) (wt_none' rfl) fun ⟨⟩ => ?_
      refine sx_rd' (rd_move' rfl) rfl rfl (wt_none' rfl) ?_
      refine sx_rd' (rd_extract' rfl rfl) rfl rfl (wt_none' rfl) ?_
      refine sx_rd' (rd_extract' rfl rfl) rfl rfl (wt_none' rfl) ?_
      refine sx_rd' (rd_assign' rfl) rfl rfl (wt_none' rfl) ?_
      refine sx_rd' (rd_assign' rfl) rfl rfl (wt_none' rfl) ?_
      refine sx_nil' ?_
      show TX E K6 _
      refine tx_k' hK6 ?_
      refine cx_seq' fun K7 hK7 => ?_
      refine cx_region' ?_
      refine sx_rd' (rd_move' rfl) rfl rfl (wt_none' rfl) ?_
      refine sx_rd' (rd_bin' rfl rfl eg_int ru_neq) rfl rfl (wt_none' rfl) ?_
      refine sx_rd' (rd_move' rfl) rfl rfl (wt_none' rfl) ?_
      refine sx_cutn' 3 (fun (v2 : Bool) => (⟨108, [], [(0, (Vl (.pointer (some wa0)))), (1, (If 43 (Vl (.pointer (some wa1))))), (2, (If 43 (Vl (.pointer (some wa2))))), (33, (Vl (.bool v2)))], [⟨.pointer (some wa0), [(Vl (.pointer none))], 48, none⟩, ⟨.pointer (some wa1), [(Vl (.pointer (wa1_0).1))], 48, none⟩, (Rw Kf 22 (Vs wa1_0) r12.1), ⟨.pointer (some wa2), [(Vl (.pointer (wa2_0).1))], 48, none⟩, (Rw Kf 22 (Vs wa2_0) r25.1)]⟩ : St)) (fun (v2 : Bool) => r3_Mat_Sub_j2 k r12 r25 v2 = some out) ?_ ?_
      · rintro x2 hp
        replace hp : r3_Mat_Sub_j2 k r12 r25 x2 = some out := hp
        unfold r3_Mat_Sub_j2 at hp
        refine sx_nil' ?_
        show TX E K7 _
        refine tx_k' hK7 ?_
        refine cx_cond' rfl (fun h4 => ?_) (fun h4 => ?_)
        · replace hp := (br_t h4).symm.trans hp
          cases hp
        · replace hp := (br_f h4).symm.trans hp
          refine cx_skip' ?_
          show TX E K5 _
          refine tx_k' hK5 ?_
          refine cx_seq' fun K9 hK9 => ?_
          refine cx_seq' fun K10 hK10 => ?_
          refine cx_region' ?_
          refine sx_rd' (rd_move' rfl) rfl rfl (wt_none' rfl) ?_
          refine sx_rd' (rd_nilck' rfl) rfl rfl (wt_none' rfl) ?_
          refine sx_rd' (rd_field0' rfl Tryd.underlying48 rfl info46 rfl) rfl rfl (wt_none' rfl) ?_
          refine sx_rd' (rd_load' (i := 0) (o := 0) rfl ⟨rfl, rfl, rfl, rfl⟩ rfl flat46) rfl rfl (wt_none' rfl) ?_
          refine sx_rd' (rd_binf' rfl rfl (bf_vl (fun _ => by kernel_rfl) nil_eql46_nilptr)) rfl rfl (wt_none' rfl) ?_
          refine sx_nil' ?_
          show TX E K10 _
          refine tx_k' hK10 ?_
          refine cx_cond_t' rfl rfl ?_
          refine cx_region' ?_
          refine sx_rd' (rd_move' rfl) rfl rfl (wt_none' rfl) ?_
          refine sx_ox' (ox_alloc' info77 rfl rfl rfl rfl (l := [(Vl (.float .f64 0)), (Vl (.float .f64 0)), (Vl (.float .f64 0)), (Vl (.float .f64 0)), (Vl (.float .f64 0)), (Vl (.float .f64 0)), (Vl (.float .f64 0)), (Vl (.float .f64 0)), (Vl (.float .f64 0))]) rfl) (wt_none' rfl) fun q42 => ?_
          refine tx_arr' (K := Kf) (xs := [0, 0, 0, 0, 0, 0, 0, 0, 0]) (m := 9) (i := 0) rfl rfl rfl (H' := [(Rw Kf 77 (Vs (some q42, 9, 9)) ([0, 0, 0, 0, 0, 0, 0, 0, 0])), ⟨.pointer (some wa0), [(Vl (.pointer none))], 48, none⟩, ⟨.pointer (some wa1), [(Vl (.pointer (wa1_0).1))], 48, none⟩, (Rw Kf 22 (Vs wa1_0) r12.1), ⟨.pointer (some wa2), [(Vl (.pointer (wa2_0).1))], 48, none⟩, (Rw Kf 22 (Vs wa2_0) r25.1)]) rfl ?_
          refine sx_rd' (rd_nilck' rfl) rfl rfl (wt_none' rfl) ?_
          refine sx_rd' (rd_field0' rfl Tryd.underlying48 rfl info46 rfl) rfl rfl (wt_none' rfl) ?_
          refine sx_ox' (ox_store' (i := 1) (o := 0) rfl rfl (lv_vl rfl rfl) ⟨rfl, rfl, rfl, rfl⟩ rfl info46 rfl (H' := [(Rw Kf 77 (Vs (some q42, 9, 9)) ([0, 0, 0, 0, 0, 0, 0, 0, 0])), ⟨.pointer (some wa0), [(Vl (.pointer ((some q42, 9, 9)).1))], 48, none⟩, ⟨.pointer (some wa1), [(Vl (.pointer (wa1_0).1))], 48, none⟩, (Rw Kf 22 (Vs wa1_0) r12.1), ⟨.pointer (some wa2), [(Vl (.pointer (wa2_0).1))], 48, none⟩, (Rw Kf 22 (Vs wa2_0) r25.1)]) rfl) (wt_none' rfl) fun _ => ?_
          refine sx_nil' ?_
          show TX E K9 _
          refine tx_k' hK9 ?_
          refine cx_seq' fun K11 hK11 => ?_
          refine cx_region' ?_
          refine sx_rd' (rd_move' rfl) rfl rfl (wt_none' rfl) ?_
          refine sx_rd' (rd_move' rfl) rfl rfl (wt_none' rfl) ?_
          obtain ⟨r47, hr47, hp⟩ := bind_some hp
          refine sx_ox' (ox_callg' (ent_inv' rfl rfl (inv_any2 inv43_At)) (r3_Mat_At_sim _ _ _ hr47 : Go.Sx.Fn Tryd.prog 36 [(Vl (.pointer (some wa1))), (Vl (.int .i64 0)), (Vl (.int .i64 0))] [⟨.pointer (some wa1), [(Vl (.pointer (wa1_0).1))], 48, none⟩, (Rw Kf 22 (Vs wa1_0) r12.1)] (fun x : Unit => (Vl (.float .f64 r47.2))) (fun x => [⟨.pointer (some wa1), [(Vl (.pointer (wa1_0).1))], 48, none⟩, (Rw Kf 22 (Vs wa1_0) r47.1)])) [2, 3] [0, 1, 4, 5] (by decide) (pick_cons rfl (pick_cons rfl pick_nil)) (pick_cons rfl (pick_cons rfl (pick_cons rfl (pick_cons rfl pick_nil)))) (Hn := fun x : Unit => [⟨.pointer (some wa1), [(Vl (.pointer (wa1_0).1))], 48, none⟩, (Rw Kf 22 (Vs wa1_0) r47.1), (Rw Kf 77 (Vs (some q42, 9, 9)) ([0, 0, 0, 0, 0, 0, 0, 0, 0])), ⟨.pointer (some wa0), [(Vl (.pointer ((some q42, 9, 9)).1))], 48, none⟩, ⟨.pointer (some wa2), [(Vl (.pointer (wa2_0).1))], 48, none⟩, (Rw Kf 22 (Vs wa2_0) r25.1)]) (fun _ => rfl) rfl rfl) (wt_none' rfl) fun ⟨⟩ => ?_
          refine sx_rd' (rd_move' rfl) rfl rfl (wt_none' rfl) ?_
          obtain ⟨r49, hr49, hp⟩ := bind_some hp
          refine sx_ox' (ox_callg' (ent_inv' rfl rfl (inv_any2 inv43_At)) (r3_Mat_At_sim _ _ _ hr49 : Go.Sx.Fn Tryd.prog 36 [(Vl (.pointer (some wa2))), (Vl (.int .i64 0)), (Vl (.int .i64 0))] [⟨.pointer (some wa2), [(Vl (.pointer (wa2_0).1))], 48, none⟩, (Rw Kf 22 (Vs wa2_0) r25.1)] (fun x : Unit => (Vl (.float .f64 r49.2))) (fun x => [⟨.pointer (some wa2), [(Vl (.pointer (wa2_0).1))], 48, none⟩, (Rw Kf 22 (Vs wa2_0) r49.1)])) [4, 5] [0, 1, 2, 3] (by decide) (pick_cons rfl (pick_cons rfl pick_nil)) (pick_cons rfl (pick_cons rfl (pick_cons rfl (pick_cons rfl pick_nil)))) (Hn := fun x : Unit => [⟨.pointer (some wa2), [(Vl (.pointer (wa2_0).1))], 48, none⟩, (Rw Kf 22 (Vs wa2_0) r49.1), ⟨.pointer (some wa1), [(Vl (.pointer (wa1_0).1))], 48, none⟩, (Rw Kf 22 (Vs wa1_0) r47.1), (Rw Kf 77 (Vs (some q42, 9, 9)) ([0, 0, 0, 0, 0, 0, 0, 0, 0])), ⟨.pointer (some wa0), [(Vl (.pointer ((some q42, 9, 9)).1))], 48, none⟩]) (fun _ => rfl) rfl rfl) (wt_none' rfl) fun ⟨⟩ => ?_
          obtain ⟨r50, hr50, hp⟩ := bind_some hp
          refine sx_ox' (ox_fop' (.inr (.inl rfl)) (fl_v rfl) (fl_v rfl) (Option.some.inj hr50) rfl rfl) (wt_none' rfl) fun _ => ?_
          obtain ⟨u1, hu1, hp⟩ := bind_some hp
          refine tx_slot' 50 (y := (Vl (.float .f64 r50))) rfl (imp_num (num_some hu1).2) ?_
          obtain ⟨r51, hr51, hp⟩ := bind_some hp
          refine sx_ox' (ox_callg' (ent_fn' Tryd.func37 isn37 rfl rfl) (r3_Mat_Set_sim _ _ _ _ hr51 : Go.Sx.Fn Tryd.prog 37 [(Vl (.pointer (some wa0))), (Vl (.int .i64 0)), (Vl (.int .i64 0)), (Vl (.float .f64 r50))] [⟨.pointer (some wa0), [(Vl (.pointer ((some q42, 9, 9)).1))], 48, none⟩, (Rw Kf 77 (Vs (some q42, 9, 9)) ([0, 0, 0, 0, 0, 0, 0, 0, 0]))] (fun x : Unit => (Vl (.tuple #[]))) (fun x => [⟨.pointer (some wa0), [(Vl (.pointer ((some q42, 9, 9)).1))], 48, none⟩, (Rw Kf 77 (Vs (some q42, 9, 9)) r51)])) [5, 4] [0, 1, 2, 3] (by decide) (pick_cons rfl (pick_cons rfl pick_nil)) (pick_cons rfl (pick_cons rfl (pick_cons rfl (pick_cons rfl pick_nil)))) (Hn := fun x : Unit => [⟨.pointer (some wa0), [(Vl (.pointer ((some q42, 9, 9)).1))], 48, none⟩, (Rw Kf 77 (Vs (some q42, 9, 9)) r51), ⟨.pointer (some wa2), [(Vl (.pointer (wa2_0).1))], 48, none⟩, (Rw Kf 22 (Vs wa2_0) r49.1), ⟨.pointer (some wa1), [(Vl (.pointer (wa1_0).1))], 48, none⟩, (Rw Kf 22 (Vs wa1_0) r47.1)]) (fun _ => rfl) rfl rfl) (wt_none' rfl) fun ⟨⟩ => ?_
          refine sx_nil' ?_
          show TX E K11 _
          refine tx_k' hK11 ?_
          refine cx_seq' fun K12 hK12 => ?_
          refine cx_region' ?_
          refine sx_rd' (rd_move' rfl) rfl rfl (wt_none' rfl) ?_
          refine sx_rd' (rd_move' rfl) rfl rfl (wt_none' rfl) ?_
          obtain ⟨r54, hr54, hp⟩ := bind_some hp
          refine sx_ox' (ox_callg' (ent_inv' rfl rfl (inv_any2 inv43_At)) (r3_Mat_At_sim _ _ _ hr54 : Go.Sx.Fn Tryd.prog 36 [(Vl (.pointer (some wa1))), (Vl (.int .i64 0)), (Vl (.int .i64 1))] [⟨.pointer (some wa1), [(Vl (.pointer (wa1_0).1))], 48, none⟩, (Rw Kf 22 (Vs wa1_0) r47.1)] (fun x : Unit => (Vl (.float .f64 r54.2))) (fun x => [⟨.pointer (some wa1), [(Vl (.pointer (wa1_0).1))], 48, none⟩, (Rw Kf 22 (Vs wa1_0) r54.1)])) [4, 5] [0, 1, 2, 3] (by decide) (pick_cons rfl (pick_cons rfl pick_nil)) (pick_cons rfl (pick_cons rfl (pick_cons rfl (pick_cons rfl pick_nil)))) (Hn := fun x : Unit => [⟨.pointer (some wa1), [(Vl (.pointer (wa1_0).1))], 48, none⟩, (Rw Kf 22 (Vs wa1_0) r54.1), ⟨.pointer (some wa0), [(Vl (.pointer ((some q42, 9, 9)).1))], 48, none⟩, (Rw Kf 77 (Vs (some q42, 9, 9)) r51), ⟨.pointer (some wa2), [(Vl (.pointer (wa2_0).1))], 48, none⟩, (Rw Kf 22 (Vs wa2_0) r49.1)]) (fun _ => rfl) rfl rfl) (wt_none' rfl) fun ⟨⟩ => ?_
          refine sx_rd' (rd_move' rfl) rfl rfl (wt_none' rfl) ?_
          obtain ⟨r56, hr56, hp⟩ := bind_some hp
          refine sx_ox' (ox_callg' (ent_inv' rfl rfl (inv_any2 inv43_At)) (r3_Mat_At_sim _ _ _ hr56 : Go.Sx.Fn Tryd.prog 36 [(Vl (.pointer (some wa2))), (Vl (.int .i64 0)), (Vl (.int .i64 1))] [⟨.pointer (some wa2), [(Vl (.pointer (wa2_0).1))], 48, none⟩, (Rw Kf 22 (Vs wa2_0) r49.1)] (fun x : Unit => (Vl (.float .f64 r56.2))) (fun x => [⟨.pointer (some wa2), [(Vl (.pointer (wa2_0).1))], 48, none⟩, (Rw Kf 22 (Vs wa2_0) r56.1)])) [4, 5] [0, 1, 2, 3] (by decide) (pick_cons rfl (pick_cons rfl pick_nil)) (pick_cons rfl (pick_cons rfl (pick_cons rfl (pick_cons rfl pick_nil)))) (Hn := fun x : Unit => [⟨.pointer (some wa2), [(Vl (.pointer (wa2_0).1))], 48, none⟩, (Rw Kf 22 (Vs wa2_0) r56.1), ⟨.pointer (some wa1), [(Vl (.pointer (wa1_0).1))], 48, none⟩, (Rw Kf 22 (Vs wa1_0) r54.1), ⟨.pointer (some wa0), [(Vl (.pointer ((some q42, 9, 9)).1))], 48, none⟩, (Rw Kf 77 (Vs (some q42, 9, 9)) r51)]) (fun _ => rfl) rfl rfl) (wt_none' rfl) fun ⟨⟩ => ?_
          obtain ⟨r57, hr57, hp⟩ := bind_some hp
          refine sx_ox' (ox_fop' (.inr (.inl rfl)) (fl_v rfl) (fl_v rfl) (Option.some.inj hr57) rfl rfl) (wt_none' rfl) fun _ => ?_
          obtain ⟨u2, hu2, hp⟩ := bind_some hp
          refine tx_slot' 57 (y := (Vl (.float .f64 r57))) rfl (imp_num (num_some hu2).2) ?_
          obtain ⟨r58, hr58, hp⟩ := bind_some hp
          refine sx_ox' (ox_callg' (ent_fn' Tryd.func37 isn37 rfl rfl) (r3_Mat_Set_sim _ _ _ _ hr58 : Go.Sx.Fn Tryd.prog 37 [(Vl (.pointer (some wa0))), (Vl (.int .i64 0)), (Vl (.int .i64 1)), (Vl (.float .f64 r57))] [⟨.pointer (some wa0), [(Vl (.pointer ((some q42, 9, 9)).1))], 48, none⟩, (Rw Kf 77 (Vs (some q42, 9, 9)) r51)] (fun x : Unit => (Vl (.tuple #[]))) (fun x => [⟨.pointer (some wa0), [(Vl (.pointer ((some q42, 9, 9)).1))], 48, none⟩, (Rw Kf 77 (Vs (some q42, 9, 9)) r58)])) [4, 5] [0, 1, 2, 3] (by decide) (pick_cons rfl (pick_cons rfl pick_nil)) (pick_cons rfl (pick_cons rfl (pick_cons rfl (pick_cons rfl pick_nil)))) (Hn := fun x : Unit => [⟨.pointer (some wa0), [(Vl (.pointer ((some q42, 9, 9)).1))], 48, none⟩, (Rw Kf 77 (Vs (some q42, 9, 9)) r58), ⟨.pointer (some wa2), [(Vl (.pointer (wa2_0).1))], 48, none⟩, (Rw Kf 22 (Vs wa2_0) r56.1), ⟨.pointer (some wa1), [(Vl (.pointer (wa1_0).1))], 48, none⟩, (Rw Kf 22 (Vs wa1_0) r54.1)]) (fun _ => rfl) rfl rfl) (wt_none' rfl) fun ⟨⟩ => ?_
          refine sx_nil' ?_
          show TX E K12 _
          refine tx_k' hK12 ?_
          refine cx_seq' fun K13 hK13 => ?_
          refine cx_region' ?_
          refine sx_rd' (rd_move' rfl) rfl rfl (wt_none' rfl) ?_
          refine sx_rd' (rd_move' rfl) rfl rfl (wt_none' rfl) ?_
          obtain ⟨r61, hr61, hp⟩ := bind_some hp
          refine sx_ox' (ox_callg' (ent_inv' rfl rfl (inv_any2 inv43_At)) (r3_Mat_At_sim _ _ _ hr61 : Go.Sx.Fn Tryd.prog 36 [(Vl (.pointer (some wa1))), (Vl (.int .i64 0)), (Vl (.int .i64 2))] [⟨.pointer (some wa1), [(Vl (.pointer (wa1_0).1))], 48, none⟩, (Rw Kf 22 (Vs wa1_0) r54.1)] (fun x : Unit => (Vl (.float .f64 r61.2))) (fun x => [⟨.pointer (some wa1), [(Vl (.pointer (wa1_0).1))], 48, none⟩, (Rw Kf 22 (Vs wa1_0) r61.1)])) [4, 5] [0, 1, 2, 3] (by decide) (pick_cons rfl (pick_cons rfl pick_nil)) (pick_cons rfl (pick_cons rfl (pick_cons rfl (pick_cons rfl pick_nil)))) (Hn := fun x : Unit => [⟨.pointer (some wa1), [(Vl (.pointer (wa1_0).1))], 48, none⟩, (Rw Kf 22 (Vs wa1_0) r61.1), ⟨.pointer (some wa0), [(Vl (.pointer ((some q42, 9, 9)).1))], 48, none⟩, (Rw Kf 77 (Vs (some q42, 9, 9)) r58), ⟨.pointer (some wa2), [(Vl (.pointer (wa2_0).1))], 48, none⟩, (Rw Kf 22 (Vs wa2_0) r56.1)]) (fun _ => rfl) rfl rfl) (wt_none' rfl) fun ⟨⟩ => ?_
          refine sx_rd' (rd_move' rfl) rfl rfl (wt_none' rfl) ?_
          obtain ⟨r63, hr63, hp⟩ := bind_some hp
          refine sx_ox' (ox_callg' (ent_inv' rfl rfl (inv_any2 inv43_At)) (r3_Mat_At_sim _ _ _ hr63 : Go.Sx.Fn Tryd.prog 36 [(Vl (.pointer (some wa2))), (Vl (.int .i64 0)), (Vl (.int .i64 2))] [⟨.pointer (some wa2), [(Vl (.pointer (wa2_0).1))], 48, none⟩, (Rw Kf 22 (Vs wa2_0) r56.1)] (fun x : Unit => (Vl (.float .f64 r63.2))) (fun x => [⟨.pointer (some wa2), [(Vl (.pointer (wa2_0).1))], 48, none⟩, (Rw Kf 22 (Vs wa2_0) r63.1)])) [4, 5] [0, 1, 2, 3] (by decide) (pick_cons rfl (pick_cons rfl pick_nil)) (pick_cons rfl (pick_cons rfl (pick_cons rfl (pick_cons rfl pick_nil)))) (Hn := fun x : Unit => [⟨.pointer (some wa2), [(Vl (.pointer (wa2_0).1))], 48, none⟩, (Rw Kf 22 (Vs wa2_0) r63.1), ⟨.pointer (some wa1), [(Vl (.pointer (wa1_0).1))], 48, none⟩, (Rw Kf 22 (Vs wa1_0) r61.1), ⟨.pointer (some wa0), [(Vl (.pointer ((some q42, 9, 9)).1))], 48, none⟩, (Rw Kf 77 (Vs (some q42, 9, 9)) r58)]) (fun _ => rfl) rfl rfl) (wt_none' rfl) fun ⟨⟩ => ?_
          obtain ⟨r64, hr64, hp⟩ := bind_some hp
          refine sx_ox' (ox_fop' (.inr (.inl rfl)) (fl_v rfl) (fl_v rfl) (Option.some.inj hr64) rfl rfl) (wt_none' rfl) fun _ => ?_
          obtain ⟨u3, hu3, hp⟩ := bind_some hp
          refine tx_slot' 64 (y := (Vl (.float .f64 r64))) rfl (imp_num (num_some hu3).2) ?_
          obtain ⟨r65, hr65, hp⟩ := bind_some hp
          refine sx_ox' (ox_callg' (ent_fn' Tryd.func37 isn37 rfl rfl) (r3_Mat_Set_sim _ _ _ _ hr65 : Go.Sx.Fn Tryd.prog 37 [(Vl (.pointer (some wa0))), (Vl (.int .i64 0)), (Vl (.int .i64 2)), (Vl (.float .f64 r64))] [⟨.pointer (some wa0), [(Vl (.pointer ((some q42, 9, 9)).1))], 48, none⟩, (Rw Kf 77 (Vs (some q42, 9, 9)) r58)] (fun x : Unit => (Vl (.tuple #[]))) (fun x => [⟨.pointer (some wa0), [(Vl (.pointer ((some q42, 9, 9)).1))], 48, none⟩, (Rw Kf 77 (Vs (some q42, 9, 9)) r65)])) [4, 5] [0, 1, 2, 3] (by decide) (pick_cons rfl (pick_cons rfl pick_nil)) (pick_cons rfl (pick_cons rfl (pick_cons rfl (pick_cons rfl pick_nil)))) (Hn := fun x : Unit => [⟨.pointer (some wa0), [(Vl (.pointer ((some q42, 9, 9)).1))], 48, none⟩, (Rw Kf 77 (Vs (some q42, 9, 9)) r65), ⟨.pointer (some wa2), [(Vl (.pointer (wa2_0).1))], 48, none⟩, (Rw Kf 22 (Vs wa2_0) r63.1), ⟨.pointer (some wa1), [(Vl (.pointer (wa1_0).1))], 48, none⟩, (Rw Kf 22 (Vs wa1_0) r61.1)]) (fun _ => rfl) rfl rfl) (wt_none' rfl) fun ⟨⟩ => ?_
          refine sx_nil' ?_
          show TX E K13 _
          refine tx_k' hK13 ?_
          refine cx_seq' fun K14 hK14 => ?_
          refine cx_region' ?_
          refine sx_rd' (rd_move' rfl) rfl rfl (wt_none' rfl) ?_
          refine sx_rd' (rd_move' rfl) rfl rfl (wt_none' rfl) ?_
          obtain ⟨r68, hr68, hp⟩ := bind_some hp
          refine sx_ox' (ox_callg' (ent_inv' rfl rfl (inv_any2 inv43_At)) (r3_Mat_At_sim _ _ _ hr68 : Go.Sx.Fn Tryd.prog 36 [(Vl (.pointer (some wa1))), (Vl (.int .i64 1)), (Vl (.int .i64 0))] [⟨.pointer (some wa1), [(Vl (.pointer (wa1_0).1))], 48, none⟩, (Rw Kf 22 (Vs wa1_0) r61.1)] (fun x : Unit => (Vl (.float .f64 r68.2))) (fun x => [⟨.pointer (some wa1), [(Vl (.pointer (wa1_0).1))], 48, none⟩, (Rw Kf 22 (Vs wa1_0) r68.1)])) [4, 5] [0, 1, 2, 3] (by decide) (pick_cons rfl (pick_cons rfl pick_nil)) (pick_cons rfl (pick_cons rfl (pick_cons rfl (pick_cons rfl pick_nil)))) (Hn := fun x : Unit => [⟨.pointer (some wa1), [(Vl (.pointer (wa1_0).1))], 48, none⟩, (Rw Kf 22 (Vs wa1_0) r68.1), ⟨.pointer (some wa0), [(Vl (.pointer ((some q42, 9, 9)).1))], 48, none⟩, (Rw Kf 77 (Vs (some q42, 9, 9)) r65), ⟨.pointer (some wa2), [(Vl (.pointer (wa2_0).1))], 48, none⟩, (Rw Kf 22 (Vs wa2_0) r63.1)]) (fun _ => rfl) rfl rfl) (wt_none' rfl) fun ⟨⟩ => ?_
          refine sx_rd' (rd_move' rfl) rfl rfl (wt_none' rfl) ?_
          obtain ⟨r70, hr70, hp⟩ := bind_some hp
          refine sx_ox' (ox_callg' (ent_inv' rfl rfl (inv_any2 inv43_At)) (r3_Mat_At_sim _ _ _ hr70 : Go.Sx.Fn Tryd.prog 36 [(Vl (.pointer (some wa2))), (Vl (.int .i64 1)), (Vl (.int .i64 0))] [⟨.pointer (some wa2), [(Vl (.pointer (wa2_0).1))], 48, none⟩, (Rw Kf 22 (Vs wa2_0) r63.1)] (fun x : Unit => (Vl (.float .f64 r70.2))) (fun x => [⟨.pointer (some wa2), [(Vl (.pointer (wa2_0).1))], 48, none⟩, (Rw Kf 22 (Vs wa2_0) r70.1)])) [4, 5] [0, 1, 2, 3] (by decide) (pick_cons rfl (pick_cons rfl pick_nil)) (pick_cons rfl (pick_cons rfl (pick_cons rfl (pick_cons rfl pick_nil)))) (Hn := fun x : Unit => [⟨.pointer (some wa2), [(Vl (.pointer (wa2_0).1))], 48, none⟩, (Rw Kf 22 (Vs wa2_0) r70.1), ⟨.pointer (some wa1), [(Vl (.pointer (wa1_0).1))], 48, none⟩, (Rw Kf 22 (Vs wa1_0) r68.1), ⟨.pointer (some wa0), [(Vl (.pointer ((some q42, 9, 9)).1))], 48, none⟩, (Rw Kf 77 (Vs (some q42, 9, 9)) r65)]) (fun _ => rfl) rfl rfl) (wt_none' rfl) fun ⟨⟩ => ?_
          obtain ⟨r71, hr71, hp⟩ := bind_some hp
          refine sx_ox' (ox_fop' (.inr (.inl rfl)) (fl_v rfl) (fl_v rfl) (Option.some.inj hr71) rfl rfl) (wt_none' rfl) fun _ => ?_
          obtain ⟨u4, hu4, hp⟩ := bind_some hp
          refine tx_slot' 71 (y := (Vl (.float .f64 r71))) rfl (imp_num (num_some hu4).2) ?_
          obtain ⟨r72, hr72, hp⟩ := bind_some hp
          refine sx_ox' (ox_callg' (ent_fn' Tryd.func37 isn37 rfl rfl) (r3_Mat_Set_sim _ _ _ _ hr72 : Go.Sx.Fn Tryd.prog 37 [(Vl (.pointer (some wa0))), (Vl (.int .i64 1)), (Vl (.int .i64 0)), (Vl (.float .f64 r71))] [⟨.pointer (some wa0), [(Vl (.pointer ((some q42, 9, 9)).1))], 48, none⟩, (Rw Kf 77 (Vs (some q42, 9, 9)) r65)] (fun x : Unit => (Vl (.tuple #[]))) (fun x => [⟨.pointer (some wa0), [(Vl (.pointer ((some q42, 9, 9)).1))], 48, none⟩, (Rw Kf 77 (Vs (some q42, 9, 9)) r72)])) [4, 5] [0, 1, 2, 3] (by decide) (pick_cons rfl (pick_cons rfl pick_nil)) (pick_cons rfl (pick_cons rfl (pick_cons rfl (pick_cons rfl pick_nil)))) (Hn := fun x : Unit => [⟨.pointer (some wa0), [(Vl (.pointer ((some q42, 9, 9)).1))], 48, none⟩, (Rw Kf 77 (Vs (some q42, 9, 9)) r72), ⟨.pointer (some wa2), [(Vl (.pointer (wa2_0).1))], 48, none⟩, (Rw Kf 22 (Vs wa2_0) r70.1), ⟨.pointer (some wa1), [(Vl (.pointer (wa1_0).1))], 48, none⟩, (Rw Kf 22 (Vs wa1_0) r68.1)]) (fun _ => rfl) rfl rfl) (wt_none' rfl) fun ⟨⟩ => ?_
          refine sx_nil' ?_
          show TX E K14 _
          refine tx_k' hK14 ?_
          refine cx_seq' fun K15 hK15 => ?_
          refine cx_region' ?_
          refine sx_rd' (rd_move' rfl) rfl rfl (wt_none' rfl) ?_
          refine sx_rd' (rd_move' rfl) rfl rfl (wt_none' rfl) ?_
          obtain ⟨r75, hr75, hp⟩ := bind_some hp
          refine sx_ox' (ox_callg' (ent_inv' rfl rfl (inv_any2 inv43_At)) (r3_Mat_At_sim _ _ _ hr75 : Go.Sx.Fn Tryd.prog 36 [(Vl (.pointer (some wa1))), (Vl (.int .i64 1)), (Vl (.int .i64 1))] [⟨.pointer (some wa1), [(Vl (.pointer (wa1_0).1))], 48, none⟩, (Rw Kf 22 (Vs wa1_0) r68.1)] (fun x : Unit => (Vl (.float .f64 r75.2))) (fun x => [⟨.pointer (some wa1), [(Vl (.pointer (wa1_0).1))], 48, none⟩, (Rw Kf 22 (Vs wa1_0) r75.1)])) [4, 5] [0, 1, 2, 3] (by decide) (pick_cons rfl (pick_cons rfl pick_nil)) (pick_cons rfl (pick_cons rfl (pick_cons rfl (pick_cons rfl pick_nil)))) (Hn := fun x : Unit => [⟨.pointer (some wa1), [(Vl (.pointer (wa1_0).1))], 48, none⟩, (Rw Kf 22 (Vs wa1_0) r75.1), ⟨.pointer (some wa0), [(Vl (.pointer ((some q42, 9, 9)).1))], 48, none⟩, (Rw Kf 77 (Vs (some q42, 9, 9)) r72), ⟨.pointer (some wa2), [(Vl (.pointer (wa2_0).1))], 48, none⟩, (Rw Kf 22 (Vs wa2_0) r70.1)]) (fun _ => rfl) rfl rfl) (wt_none' rfl) fun ⟨⟩ => ?_
          refine sx_rd' (rd_move' rfl) rfl rfl (wt_none' rfl) ?_
          obtain ⟨r77, hr77, hp⟩ := bind_some hp
          refine sx_ox' (ox_callg' (ent_inv' rfl rfl (inv_any2 inv43_At)) (r3_Mat_At_sim _ _ _ hr77 : Go.Sx.Fn Tryd.prog 36 [(Vl (.pointer (some wa2))), (Vl (.int .i64 1)), (Vl (.int .i64 1))] [⟨.pointer (some wa2), [(Vl (.pointer (wa2_0).1))], 48, none⟩, (Rw Kf 22 (Vs wa2_0) r70.1)] (fun x : Unit => (Vl (.float .f64 r77.2))) (fun x => [⟨.pointer (some wa2), [(Vl (.pointer (wa2_0).1))], 48, none⟩, (Rw Kf 22 (Vs wa2_0) r77.1)])) [4, 5] [0, 1, 2, 3] (by decide) (pick_cons rfl (pick_cons rfl pick_nil)) (pick_cons rfl (pick_cons rfl (pick_cons rfl (pick_cons rfl pick_nil)))) (Hn := fun x : Unit => [⟨.pointer (some wa2), [(Vl (.pointer (wa2_0).1))], 48, none⟩, (Rw Kf 22 (Vs wa2_0) r77.1), ⟨.pointer (some wa1), [(Vl (.pointer (wa1_0).1))], 48, none⟩, (Rw Kf 22 (Vs wa1_0) r75.1), ⟨.pointer (some wa0), [(Vl (.pointer ((some q42, 9, 9)).1))], 48, none⟩, (Rw Kf 77 (Vs (some q42, 9, 9)) r72)]) (fun _ => rfl) rfl rfl) (wt_none' rfl) fun ⟨⟩ => ?_
          obtain ⟨r78, hr78, hp⟩ := bind_some hp
          refine sx_ox' (ox_fop' (.inr (.inl rfl)) (fl_v rfl) (fl_v rfl) (Option.some.inj hr78) rfl rfl) (wt_none' rfl) fun _ => ?_
          obtain ⟨u5, hu5, hp⟩ := bind_some hp
          refine tx_slot' 78 (y := (Vl (.float .f64 r78))) rfl (imp_num (num_some hu5).2) ?_
          obtain ⟨r79, hr79, hp⟩ := bind_some hp
          refine sx_ox' (ox_callg' (ent_fn' Tryd.func37 isn37 rfl rfl) (r3_Mat_Set_sim _ _ _ _ hr79 : Go.Sx.Fn Tryd.prog 37 [(Vl (.pointer (some wa0))), (Vl (.int .i64 1)), (Vl (.int .i64 1)), (Vl (.float .f64 r78))] [⟨.pointer (some wa0), [(Vl (.pointer ((some q42, 9, 9)).1))], 48, none⟩, (Rw Kf 77 (Vs (some q42, 9, 9)) r72)] (fun x : Unit => (Vl (.tuple #[]))) (fun x => [⟨.pointer (some wa0), [(Vl (.pointer ((some q42, 9, 9)).1))], 48, none⟩, (Rw Kf 77 (Vs (some q42, 9, 9)) r79)])) [4, 5] [0, 1, 2, 3] (by decide) (pick_cons rfl (pick_cons rfl pick_nil)) (pick_cons rfl (pick_cons rfl (pick_cons rfl (pick_cons rfl pick_nil)))) (Hn := fun x : Unit => [⟨.pointer (some wa0), [(Vl (.pointer ((some q42, 9, 9)).1))], 48, none⟩, (Rw Kf 77 (Vs (some q42, 9, 9)) r79), ⟨.pointer (some wa2), [(Vl (.pointer (wa2_0).1))], 48, none⟩, (Rw Kf 22 (Vs wa2_0) r77.1), ⟨.pointer (some wa1), [(Vl (.pointer (wa1_0).1))], 48, none⟩, (Rw Kf 22 (Vs wa1_0) r75.1)]) (fun _ => rfl) rfl rfl) (wt_none' rfl) fun ⟨⟩ => ?_
          refine sx_nil' ?_
          show TX E K15 _
          refine tx_k' hK15 ?_
          refine cx_seq' fun K16 hK16 => ?_
          refine cx_region' ?_
          refine sx_rd' (rd_move' rfl) rfl rfl (wt_none' rfl) ?_
          refine sx_rd' (rd_move' rfl) rfl rfl (wt_none' rfl) ?_
          obtain ⟨r82, hr82, hp⟩ := bind_some hp
          refine sx_ox' (ox_callg' (ent_inv' rfl rfl (inv_any2 inv43_At)) (r3_Mat_At_sim _ _ _ hr82 : Go.Sx.Fn Tryd.prog 36 [(Vl (.pointer (some wa1))), (Vl (.int .i64 1)), (Vl (.int .i64 2))] [⟨.pointer (some wa1), [(Vl (.pointer (wa1_0).1))], 48, none⟩, (Rw Kf 22 (Vs wa1_0) r75.1)] (fun x : Unit => (Vl (.float .f64 r82.2))) (fun x => [⟨.pointer (some wa1), [(Vl (.pointer (wa1_0).1))], 48, none⟩, (Rw Kf 22 (Vs wa1_0) r82.1)])) [4, 5] [0, 1, 2, 3] (by decide) (pick_cons rfl (pick_cons rfl pick_nil)) (pick_cons rfl (pick_cons rfl (pick_cons rfl (pick_cons rfl pick_nil)))) (Hn := fun x : Unit => [⟨.pointer (some wa1), [(Vl (.pointer (wa1_0).1))], 48, none⟩, (Rw Kf 22 (Vs wa1_0) r82.1), ⟨.pointer (some wa0), [(Vl (.pointer ((some q42, 9, 9)).1))], 48, none⟩, (Rw Kf 77 (Vs (some q42, 9, 9)) r79), ⟨.pointer (some wa2), [(Vl (.pointer (wa2_0).1))], 48, none⟩, (Rw Kf 22 (Vs wa2_0) r77.1)]) (fun _ => rfl) rfl rfl) (wt_none' rfl) fun ⟨⟩ => ?_
          refine sx_rd' (rd_move' rfl) rfl rfl (wt_none' rfl) ?_
          obtain ⟨r84, hr84, hp⟩ := bind_some hp
          refine sx_ox' (ox_callg' (ent_inv' rfl rfl (inv_any2 inv43_At)) (r3_Mat_At_sim _ _ _ hr84 : Go.Sx.Fn Tryd.prog 36 [(Vl (.pointer (some wa2))), (Vl (.int .i64 1)), (Vl (.int .i64 2))] [⟨.pointer (some wa2), [(Vl (.pointer (wa2_0).1))], 48, none⟩, (Rw Kf 22 (Vs wa2_0) r77.1)] (fun x : Unit => (Vl (.float .f64 r84.2))) (fun x => [⟨.pointer (some wa2), [(Vl (.pointer (wa2_0).1))], 48, none⟩, (Rw Kf 22 (Vs wa2_0) r84.1)])) [4, 5] [0, 1, 2, 3] (by decide) (pick_cons rfl (pick_cons rfl pick_nil)) (pick_cons rfl (pick_cons rfl (pick_cons rfl (pick_cons rfl pick_nil)))) (Hn := fun x : Unit => [⟨.pointer (some wa2), [(Vl (.pointer (wa2_0).1))], 48, none⟩, (Rw Kf 22 (Vs wa2_0) r84.1), ⟨.pointer (some wa1), [(Vl (.pointer (wa1_0).1))], 48, none⟩, (Rw Kf 22 (Vs wa1_0) r82.1), ⟨.pointer (some wa0), [(Vl (.pointer ((some q42, 9, 9)).1))], 48, none⟩, (Rw Kf 77 (Vs (some q42, 9, 9)) r79)]) (fun _ => rfl) rfl rfl) (wt_none' rfl) fun ⟨⟩ => ?_
          obtain ⟨r85, hr85, hp⟩ := bind_some hp
          refine sx_ox' (ox_fop' (.inr (.inl rfl)) (fl_v rfl) (fl_v rfl) (Option.some.inj hr85) rfl rfl) (wt_none' rfl) fun _ => ?_
          obtain ⟨u6, hu6, hp⟩ := bind_some hp
          refine tx_slot' 85 (y := (Vl (.float .f64 r85))) rfl (imp_num (num_some hu6).2) ?_
          obtain ⟨r86, hr86, hp⟩ := bind_some hp
          refine sx_ox' (ox_callg' (ent_fn' Tryd.func37 isn37 rfl rfl) (r3_Mat_Set_sim _ _ _ _ hr86 : Go.Sx.Fn Tryd.prog 37 [(Vl (.pointer (some wa0))), (Vl (.int .i64 1)), (Vl (.int .i64 2)), (Vl (.float .f64 r85))] [⟨.pointer (some wa0), [(Vl (.pointer ((some q42, 9, 9)).1))], 48, none⟩, (Rw Kf 77 (Vs (some q42, 9, 9)) r79)] (fun x : Unit => (Vl (.tuple #[]))) (fun x => [⟨.pointer (some wa0), [(Vl (.pointer ((some q42, 9, 9)).1))], 48, none⟩, (Rw Kf 77 (Vs (some q42, 9, 9)) r86)])) [4, 5] [0, 1, 2, 3] (by decide) (pick_cons rfl (pick_cons rfl pick_nil)) (pick_cons rfl (pick_cons rfl (pick_cons rfl (pick_cons rfl pick_nil)))) (Hn := fun x : Unit => [⟨.pointer (some wa0), [(Vl (.pointer ((some q42, 9, 9)).1))], 48, none⟩, (Rw Kf 77 (Vs (some q42, 9, 9)) r86), ⟨.pointer (some wa2), [(Vl (.pointer (wa2_0).1))], 48, none⟩, (Rw Kf 22 (Vs wa2_0) r84.1), ⟨.pointer (some wa1), [(Vl (.pointer (wa1_0).1))], 48, none⟩, (Rw Kf 22 (Vs wa1_0) r82.1)]) (fun _ => rfl) rfl rfl) (wt_none' rfl) fun ⟨⟩ => ?_
          refine sx_nil' ?_
          show TX E K16 _
          refine tx_k' hK16 ?_
          refine cx_seq' fun K17 hK17 => ?_
          refine cx_region' ?_
          refine sx_rd' (rd_move' rfl) rfl rfl (wt_none' rfl) ?_
          refine sx_rd' (rd_move' rfl) rfl rfl (wt_none' rfl) ?_
          obtain ⟨r89, hr89, hp⟩ := bind_some hp
          refine sx_ox' (ox_callg' (ent_inv' rfl rfl (inv_any2 inv43_At)) (r3_Mat_At_sim _ _ _ hr89 : Go.Sx.Fn Tryd.prog 36 [(Vl (.pointer (some wa1))), (Vl (.int .i64 2)), (Vl (.int .i64 0))] [⟨.pointer (some wa1), [(Vl (.pointer (wa1_0).1))], 48, none⟩, (Rw Kf 22 (Vs wa1_0) r82.1)] (fun x : Unit => (Vl (.float .f64 r89.2))) (fun x => [⟨.pointer (some wa1), [(Vl (.pointer (wa1_0).1))], 48, none⟩, (Rw Kf 22 (Vs wa1_0) r89.1)])) [4, 5] [0, 1, 2, 3] (by decide) (pick_cons rfl (pick_cons rfl pick_nil)) (pick_cons rfl (pick_cons rfl (pick_cons rfl (pick_cons rfl pick_nil)))) (Hn := fun x : Unit => [⟨.pointer (some wa1), [(Vl (.pointer (wa1_0).1))], 48, none⟩, (Rw Kf 22 (Vs wa1_0) r89.1), ⟨.pointer (some wa0), [(Vl (.pointer ((some q42, 9, 9)).1))], 48, none⟩, (Rw Kf 77 (Vs (some q42, 9, 9)) r86), ⟨.pointer (some wa2), [(Vl (.pointer (wa2_0).1))], 48, none⟩, (Rw Kf 22 (Vs wa2_0) r84.1)]) (fun _ => rfl) rfl rfl) (wt_none' rfl) fun ⟨⟩ => ?_
          refine sx_rd' (rd_move' rfl) rfl rfl (wt_none' rfl) ?_
          obtain ⟨r91, hr91, hp⟩ := bind_some hp
          refine sx_ox' (ox_callg' (ent_inv' rfl rfl (inv_any2 inv43_At)) (r3_Mat_At_sim _ _ _ hr91 : Go.Sx.Fn Tryd.prog 36 [(Vl (.pointer (some wa2))), (Vl (.int .i64 2)), (Vl (.int .i64 0))] [⟨.pointer (some wa2), [(Vl (.pointer (wa2_0).1))], 48, none⟩, (Rw Kf 22 (Vs wa2_0) r84.1)] (fun x : Unit => (Vl (.float .f64 r91.2))) (fun x => [⟨.pointer (some wa2), [(Vl (.pointer (wa2_0).1))], 48, none⟩, (Rw Kf 22 (Vs wa2_0) r91.1)])) [4, 5] [0, 1, 2, 3] (by decide) (pick_cons rfl (pick_cons rfl pick_nil)) (pick_cons rfl (pick_cons rfl (pick_cons rfl (pick_cons rfl pick_nil)))) (Hn := fun x : Unit => [⟨.pointer (some wa2), [(Vl (.pointer (wa2_0).1))], 48, none⟩, (Rw Kf 22 (Vs wa2_0) r91.1), ⟨.pointer (some wa1), [(Vl (.pointer (wa1_0).1))], 48, none⟩, (Rw Kf 22 (Vs wa1_0) r89.1), ⟨.pointer (some wa0), [(Vl (.pointer ((some q42, 9, 9)).1))], 48, none⟩, (Rw Kf 77 (Vs (some q42, 9, 9)) r86)]) (fun _ => rfl) rfl rfl) (wt_none' rfl) fun ⟨⟩ => ?_
          obtain ⟨r92, hr92, hp⟩ := bind_some hp
          refine sx_ox' (ox_fop' (.inr (.inl rfl)) (fl_v rfl) (fl_v rfl) (Option.some.inj hr92) rfl rfl) (wt_none' rfl) fun _ => ?_
          obtain ⟨u7, hu7, hp⟩ := bind_some hp
          refine tx_slot' 92 (y := (Vl (.float .f64 r92))) rfl (imp_num (num_some hu7).2) ?_
          obtain ⟨r93, hr93, hp⟩ := bind_some hp
          refine sx_ox' (ox_callg' (ent_fn' Tryd.func37 isn37 rfl rfl) (r3_Mat_Set_sim _ _ _ _ hr93 : Go.Sx.Fn Tryd.prog 37 [(Vl (.pointer (some wa0))), (Vl (.int .i64 2)), (Vl (.int .i64 0)), (Vl (.float .f64 r92))] [⟨.pointer (some wa0), [(Vl (.pointer ((some q42, 9, 9)).1))], 48, none⟩, (Rw Kf 77 (Vs (some q42, 9, 9)) r86)] (fun x : Unit => (Vl (.tuple #[]))) (fun x => [⟨.pointer (some wa0), [(Vl (.pointer ((some q42, 9, 9)).1))], 48, none⟩, (Rw Kf 77 (Vs (some q42, 9, 9)) r93)])) [4, 5] [0, 1, 2, 3] (by decide) (pick_cons rfl (pick_cons rfl pick_nil)) (pick_cons rfl (pick_cons rfl (pick_cons rfl (pick_cons rfl pick_nil)))) (Hn := fun x : Unit => [⟨.pointer (some wa0), [(Vl (.pointer ((some q42, 9, 9)).1))], 48, none⟩, (Rw Kf 77 (Vs (some q42, 9, 9)) r93), ⟨.pointer (some wa2), [(Vl (.pointer (wa2_0).1))], 48, none⟩, (Rw Kf 22 (Vs wa2_0) r91.1), ⟨.pointer (some wa1), [(Vl (.pointer (wa1_0).1))], 48, none⟩, (Rw Kf 22 (Vs wa1_0) r89.1)]) (fun _ => rfl) rfl rfl) (wt_none' rfl) fun ⟨⟩ => ?_
          refine sx_nil' ?_
          show TX E K17 _
          refine tx_k' hK17 ?_
          refine cx_seq' fun K18 hK18 => ?_
          refine cx_region' ?_
          refine sx_rd' (rd_move' rfl) rfl rfl (wt_none' rfl) ?_
          refine sx_rd' (rd_move' rfl) rfl rfl (wt_none' rfl) ?_
          obtain ⟨r96, hr96, hp⟩ := bind_some hp
          refine sx_ox' (ox_callg' (ent_inv' rfl rfl (inv_any2 inv43_At)) (r3_Mat_At_sim _ _ _ hr96 : Go.Sx.Fn Tryd.prog 36 [(Vl (.pointer (some wa1))), (Vl (.int .i64 2)), (Vl (.int .i64 1))] [⟨.pointer (some wa1), [(Vl (.pointer (wa1_0).1))], 48, none⟩, (Rw Kf 22 (Vs wa1_0) r89.1)] (fun x : Unit => (Vl (.float .f64 r96.2))) (fun x => [⟨.pointer (some wa1), [(Vl (.pointer (wa1_0).1))], 48, none⟩, (Rw Kf 22 (Vs wa1_0) r96.1)])) [4, 5] [0, 1, 2, 3] (by decide) (pick_cons rfl (pick_cons rfl pick_nil)) (pick_cons rfl (pick_cons rfl (pick_cons rfl (pick_cons rfl pick_nil)))) (Hn := fun x : Unit => [⟨.pointer (some wa1), [(Vl (.pointer (wa1_0).1))], 48, none⟩, (Rw Kf 22 (Vs wa1_0) r96.1), ⟨.pointer (some wa0), [(Vl (.pointer ((some q42, 9, 9)).1))], 48, none⟩, (Rw Kf 77 (Vs (some q42, 9, 9)) r93), ⟨.pointer (some wa2), [(Vl (.pointer (wa2_0).1))], 48, none⟩, (Rw Kf 22 (Vs wa2_0) r91.1)]) (fun _ => rfl) rfl rfl) (wt_none' rfl) fun ⟨⟩ => ?_
          refine sx_rd' (rd_move' rfl) rfl rfl (wt_none' rfl) ?_
          obtain ⟨r98, hr98, hp⟩ := bind_some hp
          refine sx_ox' (ox_callg' (ent_inv' rfl rfl (inv_any2 inv43_At)) (r3_Mat_At_sim _ _ _ hr98 : Go.Sx.Fn Tryd.prog 36 [(Vl (.pointer (some wa2))), (Vl (.int .i64 2)), (Vl (.int .i64 1))] [⟨.pointer (some wa2), [(Vl (.pointer (wa2_0).1))], 48, none⟩, (Rw Kf 22 (Vs wa2_0) r91.1)] (fun x : Unit => (Vl (.float .f64 r98.2))) (fun x => [⟨.pointer (some wa2), [(Vl (.pointer (wa2_0).1))], 48, none⟩, (Rw Kf 22 (Vs wa2_0) r98.1)])) [4, 5] [0, 1, 2, 3] (by decide) (pick_cons rfl (pick_cons rfl pick_nil)) (pick_cons rfl (pick_cons rfl (pick_cons rfl (pick_cons rfl pick_nil)))) (Hn := fun x : Unit => [⟨.pointer (some wa2), [(Vl (.pointer (wa2_0).1))], 48, none⟩, (Rw Kf 22 (Vs wa2_0) r98.1), ⟨.pointer (some wa1), [(Vl (.pointer (wa1_0).1))], 48, none⟩, (Rw Kf 22 (Vs wa1_0) r96.1), ⟨.pointer (some wa0), [(Vl (.pointer ((some q42, 9, 9)).1))], 48, none⟩, (Rw Kf 77 (Vs (some q42, 9, 9)) r93)]) (fun _ => rfl) rfl rfl) (wt_none' rfl) fun ⟨⟩ => ?_
          obtain ⟨r99, hr99, hp⟩ := bind_some hp
          refine sx_ox' (ox_fop' (.inr (.inl rfl)) (fl_v rfl) (fl_v rfl) (Option.some.inj hr99) rfl rfl) (wt_none' rfl) fun _ => ?_
          obtain ⟨u8, hu8, hp⟩ := bind_some hp
          refine tx_slot' 99 (y := (Vl (.float .f64 r99))) rfl (imp_num (num_some hu8).2) ?_
          obtain ⟨r100, hr100, hp⟩ := bind_some hp
          refine sx_ox' (ox_callg' (ent_fn' Tryd.func37 isn37 rfl rfl) (r3_Mat_Set_sim _ _ _ _ hr100 : Go.Sx.Fn Tryd.prog 37 [(Vl (.pointer (some wa0))), (Vl (.int .i64 2)), (Vl (.int .i64 1)), (Vl (.float .f64 r99))] [⟨.pointer (some wa0), [(Vl (.pointer ((some q42, 9, 9)).1))], 48, none⟩, (Rw Kf 77 (Vs (some q42, 9, 9)) r93)] (fun x : Unit => (Vl (.tuple #[]))) (fun x => [⟨.pointer (some wa0), [(Vl (.pointer ((some q42, 9, 9)).1))], 48, none⟩, (Rw Kf 77 (Vs (some q42, 9, 9)) r100)])) [4, 5] [0, 1, 2, 3] (by decide) (pick_cons rfl (pick_cons rfl pick_nil)) (pick_cons rfl (pick_cons rfl (pick_cons rfl (pick_cons rfl pick_nil)))) (Hn := fun x : Unit => [⟨.pointer (some wa0), [(Vl (.pointer ((some q42, 9, 9)).1))], 48, none⟩, (Rw Kf 77 (Vs (some q42, 9, 9)) r100), ⟨.pointer (some wa2), [(Vl (.pointer (wa2_0).1))], 48, none⟩, (Rw Kf 22 (Vs wa2_0) r98.1), ⟨.pointer (some wa1), [(Vl (.pointer (wa1_0).1))], 48, none⟩, (Rw Kf 22 (Vs wa1_0) r96.1)]) (fun _ => rfl) rfl rfl) (wt_none' rfl) fun ⟨⟩ => ?_
          refine sx_nil' ?_
          show TX E K18 _
          refine tx_k' hK18 ?_
          refine cx_region' ?_
          refine sx_rd' (rd_move' rfl) rfl rfl (wt_none' rfl) ?_
          refine sx_rd' (rd_move' rfl) rfl rfl (wt_none' rfl) ?_
          obtain ⟨r103, hr103, hp⟩ := bind_some hp
          refine sx_ox' (ox_callg' (ent_inv' rfl rfl (inv_any2 inv43_At)) (r3_Mat_At_sim _ _ _ hr103 : Go.Sx.Fn Tryd.prog 36 [(Vl (.pointer (some wa1))), (Vl (.int .i64 2)), (Vl (.int .i64 2))] [⟨.pointer (some wa1), [(Vl (.pointer (wa1_0).1))], 48, none⟩, (Rw Kf 22 (Vs wa1_0) r96.1)] (fun x : Unit => (Vl (.float .f64 r103.2))) (fun x => [⟨.pointer (some wa1), [(Vl (.pointer (wa1_0).1))], 48, none⟩, (Rw Kf 22 (Vs wa1_0) r103.1)])) [4, 5] [0, 1, 2, 3] (by decide) (pick_cons rfl (pick_cons rfl pick_nil)) (pick_cons rfl (pick_cons rfl (pick_cons rfl (pick_cons rfl pick_nil)))) (Hn := fun x : Unit => [⟨.pointer (some wa1), [(Vl (.pointer (wa1_0).1))], 48, none⟩, (Rw Kf 22 (Vs wa1_0) r103.1), ⟨.pointer (some wa0), [(Vl (.pointer ((some q42, 9, 9)).1))], 48, none⟩, (Rw Kf 77 (Vs (some q42, 9, 9)) r100), ⟨.pointer (some wa2), [(Vl (.pointer (wa2_0).1))], 48, none⟩, (Rw Kf 22 (Vs wa2_0) r98.1)]) (fun _ => rfl) rfl rfl) (wt_none' rfl) fun ⟨⟩ => ?_
          refine sx_rd' (rd_move' rfl) rfl rfl (wt_none' rfl) ?_
          obtain ⟨r105, hr105, hp⟩ := bind_some hp
          refine sx_ox' (ox_callg' (ent_inv' rfl rfl (inv_any2 inv43_At)) (r3_Mat_At_sim _ _ _ hr105 : Go.Sx.Fn Tryd.prog 36 [(Vl (.pointer (some wa2))), (Vl (.int .i64 2)), (Vl (.int .i64 2))] [⟨.pointer (some wa2), [(Vl (.pointer (wa2_0).1))], 48, none⟩, (Rw Kf 22 (Vs wa2_0) r98.1)] (fun x : Unit => (Vl (.float .f64 r105.2))) (fun x => [⟨.pointer (some wa2), [(Vl (.pointer (wa2_0).1))], 48, none⟩, (Rw Kf 22 (Vs wa2_0) r105.1)])) [4, 5] [0, 1, 2, 3] (by decide) (pick_cons rfl (pick_cons rfl pick_nil)) (pick_cons rfl (pick_cons rfl (pick_cons rfl (pick_cons rfl pick_nil)))) (Hn := fun x : Unit => [⟨.pointer (some wa2), [(Vl (.pointer (wa2_0).1))], 48, none⟩, (Rw Kf 22 (Vs wa2_0) r105.1), ⟨.pointer (some wa1), [(Vl (.pointer (wa1_0).1))], 48, none⟩, (Rw Kf 22 (Vs wa1_0) r103.1), ⟨.pointer (some wa0), [(Vl (.pointer ((some q42, 9, 9)).1))], 48, none⟩, (Rw Kf 77 (Vs (some q42, 9, 9)) r100)]) (fun _ => rfl) rfl rfl) (wt_none' rfl) fun ⟨⟩ => ?_
          obtain ⟨r106, hr106, hp⟩ := bind_some hp
          refine sx_ox' (ox_fop' (.inr (.inl rfl)) (fl_v rfl) (fl_v rfl) (Option.some.inj hr106) rfl rfl) (wt_none' rfl) fun _ => ?_
          obtain ⟨u9, hu9, hp⟩ := bind_some hp
          refine tx_slot' 106 (y := (Vl (.float .f64 r106))) rfl (imp_num (num_some hu9).2) ?_
          obtain ⟨r107, hr107, hp⟩ := bind_some hp
          refine sx_ox' (ox_callg' (ent_fn' Tryd.func37 isn37 rfl rfl) (r3_Mat_Set_sim _ _ _ _ hr107 : Go.Sx.Fn Tryd.prog 37 [(Vl (.pointer (some wa0))), (Vl (.int .i64 2)), (Vl (.int .i64 2)), (Vl (.float .f64 r106))] [⟨.pointer (some wa0), [(Vl (.pointer ((some q42, 9, 9)).1))], 48, none⟩, (Rw Kf 77 (Vs (some q42, 9, 9)) r100)] (fun x : Unit => (Vl (.tuple #[]))) (fun x => [⟨.pointer (some wa0), [(Vl (.pointer ((some q42, 9, 9)).1))], 48, none⟩, (Rw Kf 77 (Vs (some q42, 9, 9)) r107)])) [4, 5] [0, 1, 2, 3] (by decide) (pick_cons rfl (pick_cons rfl pick_nil)) (pick_cons rfl (pick_cons rfl (pick_cons rfl (pick_cons rfl pick_nil)))) (Hn := fun x : Unit => [⟨.pointer (some wa0), [(Vl (.pointer ((some q42, 9, 9)).1))], 48, none⟩, (Rw Kf 77 (Vs (some q42, 9, 9)) r107), ⟨.pointer (some wa2), [(Vl (.pointer (wa2_0).1))], 48, none⟩, (Rw Kf 22 (Vs wa2_0) r105.1), ⟨.pointer (some wa1), [(Vl (.pointer (wa1_0).1))], 48, none⟩, (Rw Kf 22 (Vs wa1_0) r103.1)]) (fun _ => rfl) rfl rfl) (wt_none' rfl) fun ⟨⟩ => ?_
          refine sx_nil' ?_
          replace hp := Option.some.inj hp
          subst hp
          refine tx_pick' (L' := []) (H' := [⟨.pointer (some wa0), [(Vl (.pointer ((some q42, 9, 9)).1))], 48, none⟩, (Rw Kf 77 (Vs (some q42, 9, 9)) r107), ⟨.pointer (some wa1), [(Vl (.pointer (wa1_0).1))], 48, none⟩, (Rw Kf 22 (Vs wa1_0) r103.1), ⟨.pointer (some wa2), [(Vl (.pointer (wa2_0).1))], 48, none⟩, (Rw Kf 22 (Vs wa2_0) r105.1)]) [0, 1, 4, 5, 2, 3] sub_nil (by decide) (pick_cons rfl (pick_cons rfl (pick_cons rfl (pick_cons rfl (pick_cons rfl (pick_cons rfl pick_nil)))))) ?_
          exact tx_end0' Tryd.results23 rfl q42 rfl (List.Sublist.refl _)
      · intro K8 hK8
        rcases br_cases hp with ⟨h3, hp⟩ | ⟨h3, hp⟩
        · refine sx_skip' rfl rfl (wt_is' (wt_guard' rfl rfl rfl) (beq_tf h3)) ?_
          refine sx_skip' rfl rfl (wt_is' (wt_guard' rfl rfl rfl) (beq_tf h3)) ?_
          refine sx_rd' (rd_pick_true' rfl h3 rfl) rfl rfl (wt_none' rfl) ?_
          refine sx_nil' ?_
          show TX E K8 _
          exact tx_pick' [2, 3, 4, 0, 1] (sub_cons rfl (sub_cons rfl (sub_cons rfl (sub_cons rfl sub_nil)))) (by decide) (pick_cons rfl (pick_cons rfl (pick_cons rfl (pick_cons rfl (pick_cons rfl pick_nil))))) (hK8 true hp)
        · refine sx_rd' (rd_move' rfl) rfl rfl (wt_is' (wt_guard' rfl rfl rfl) (beq_ff h3)) ?_
          refine sx_rd' (rd_bin' rfl rfl eg_int ru_neq) rfl rfl (wt_is' (wt_guard' rfl rfl rfl) (beq_ff h3)) ?_
          refine sx_rd' (rd_pick_false' rfl h3 rfl) rfl rfl (wt_none' rfl) ?_
          refine sx_nil' ?_
          show TX E K8 _
          exact tx_pick' [2, 3, 4, 0, 1] (sub_cons rfl (sub_cons rfl (sub_cons rfl (sub_cons rfl sub_nil)))) (by decide) (pick_cons rfl (pick_cons rfl (pick_cons rfl (pick_cons rfl (pick_cons rfl pick_nil))))) (hK8 (!decide (r25.2 = 3)) hp)
  · intro K4 hK4
    rcases br_cases hp with ⟨h1, hp⟩ | ⟨h1, hp⟩
    · refine sx_skip' rfl rfl (wt_is' (wt_guard' rfl rfl rfl) (beq_tf h1)) ?_
      refine sx_skip' rfl rfl (wt_is' (wt_guard' rfl rfl rfl) (beq_tf h1)) ?_
      refine sx_rd' (rd_pick_true' rfl h1 rfl) rfl rfl (wt_none' rfl) ?_
      refine sx_nil' ?_
      show TX E K4 _
      exact tx_pick' [2, 0, 1, 3, 4] (sub_cons rfl (sub_cons rfl (sub_cons rfl (sub_cons rfl sub_nil)))) (by decide) (pick_cons rfl (pick_cons rfl (pick_cons rfl (pick_cons rfl (pick_cons rfl pick_nil))))) (hK4 true hp)
    · refine sx_rd' (rd_move' rfl) rfl rfl (wt_is' (wt_guard' rfl rfl rfl) (beq_ff h1)) ?_
      refine sx_rd' (rd_bin' rfl rfl eg_int ru_neq) rfl rfl (wt_is' (wt_guard' rfl rfl rfl) (beq_ff h1)) ?_
      refine sx_rd' (rd_pick_false' rfl h1 rfl) rfl rfl (wt_none' rfl) ?_
      refine sx_nil' ?_
      show TX E K4 _
      exact tx_pick' [2, 0, 1, 3, 4] (sub_cons rfl (sub_cons rfl (sub_cons rfl (sub_cons rfl sub_nil)))) (by decide) (pick_cons rfl (pick_cons rfl (pick_cons rfl (pick_cons rfl (pick_cons rfl pick_nil))))) (hK4 (!decide (r12.2 = 3)) hp)

def impl_MatSub (k : Nat) (a0_0 : Nat) (a0_1 : Nat) (a0_2 : Nat) (a0_3 : Nat) (a0_4 : Nat) (a0_5 : Nat) (a0_6 : Nat) (a0_7 : Nat) (a0_8 : Nat) (a1_0 : Nat) (a1_1 : Nat) (a1_2 : Nat) (a1_3 : Nat) (a1_4 : Nat) (a1_5 : Nat) (a1_6 : Nat) (a1_7 : Nat) (a1_8 : Nat) : Option (Nat × Nat × Nat × Nat × Nat × Nat × Nat × Nat × Nat) :=
  (impl_mat k a0_0 a0_1 a0_2 a0_3 a0_4 a0_5 a0_6 a0_7 a0_8) >>= fun r7 =>
  (impl_mat k a1_0 a1_1 a1_2 a1_3 a1_4 a1_5 a1_6 a1_7 a1_8) >>= fun r10 =>
  (r3_Mat_Sub k r7 r10) >>= fun r12 =>
  (impl_plainMat k r12.1) >>= fun r13 =>
  some (r13.2.1, r13.2.2.1, r13.2.2.2.1, r13.2.2.2.2.1, r13.2.2.2.2.2.1, r13.2.2.2.2.2.2.1, r13.2.2.2.2.2.2.2.1, r13.2.2.2.2.2.2.2.2.1, r13.2.2.2.2.2.2.2.2.2)

theorem impl_MatSub_sim {k : Nat}  (a0_0 : Nat) (a0_1 : Nat) (a0_2 : Nat) (a0_3 : Nat) (a0_4 : Nat) (a0_5 : Nat) (a0_6 : Nat) (a0_7 : Nat) (a0_8 : Nat) (a1_0 : Nat) (a1_1 : Nat) (a1_2 : Nat) (a1_3 : Nat) (a1_4 : Nat) (a1_5 : Nat) (a1_6 : Nat) (a1_7 : Nat) (a1_8 : Nat) {out : Nat × Nat × Nat × Nat × Nat × Nat × Nat × Nat × Nat} (hp : impl_MatSub k a0_0 a0_1 a0_2 a0_3 a0_4 a0_5 a0_6 a0_7 a0_8 a1_0 a1_1 a1_2 a1_3 a1_4 a1_5 a1_6 a1_7 a1_8 = some out) : Go.Sx.Fn Tryd.prog 11 [(Ag [(Vl (.float .f64 a0_0)), (Vl (.float .f64 a0_1)), (Vl (.float .f64 a0_2)), (Vl (.float .f64 a0_3)), (Vl (.float .f64 a0_4)), (Vl (.float .f64 a0_5)), (Vl (.float .f64 a0_6)), (Vl (.float .f64 a0_7)), (Vl (.float .f64 a0_8))]), (Ag [(Vl (.float .f64 a1_0)), (Vl (.float .f64 a1_1)), (Vl (.float .f64 a1_2)), (Vl (.float .f64 a1_3)), (Vl (.float .f64 a1_4)), (Vl (.float .f64 a1_5)), (Vl (.float .f64 a1_6)), (Vl (.float .f64 a1_7)), (Vl (.float .f64 a1_8))])] [] (fun w : Unit => (Ag [(Vl (.float .f64 out.1)), (Vl (.float .f64 out.2.1)), (Vl (.float .f64 out.2.2.1)), (Vl (.float .f64 out.2.2.2.1)), (Vl (.float .f64 out.2.2.2.2.1)), (Vl (.float .f64 out.2.2.2.2.2.1)), (Vl (.float .f64 out.2.2.2.2.2.2.1)), (Vl (.float .f64 out.2.2.2.2.2.2.2.1)), (Vl (.float .f64 out.2.2.2.2.2.2.2.2))])) (fun w => []) := by
  unfold impl_MatSub at hp
  refine fn_of Tryd.func11 rfl Tryd.ntmps11 rfl fun E hM => ?_
  refine cx_seq' fun K1 hK1 => ?_
  refine cx_region' ?_
  refine sx_ox' (ox_box' rfl (lv_ag _) rfl rfl) (wt_none' rfl) fun q2 => ?_
  refine sx_ox' (ox_box' rfl (lv_ag _) rfl rfl) (wt_none' rfl) fun q3 => ?_
  refine sx_ox' (ox_alloc' info24 rfl rfl rfl rfl (l := [(Vl (.float .f64 0)), (Vl (.float .f64 0)), (Vl (.float .f64 0)), (Vl (.float .f64 0)), (Vl (.float .f64 0)), (Vl (.float .f64 0)), (Vl (.float .f64 0)), (Vl (.float .f64 0)), (Vl (.float .f64 0))]) rfl) (wt_none' rfl) fun q4 => ?_
  refine sx_nil' ?_
  show TX E K1 _
  refine tx_k' hK1 ?_
  refine cx_seq' fun K2 hK2 => ?_
  refine cx_region' ?_
  refine sx_ox' (ox_alloc' info48 rfl rfl rfl rfl (l := [(Vl (.pointer none))]) rfl) (wt_none' rfl) fun q5 => ?_
  refine sx_nil' ?_
  show TX E K2 _
  refine tx_k' hK2 ?_
  refine cx_seq' fun K3 hK3 => ?_
  refine cx_plan' [] [(6, 1)] [(0, 1), (3, 1), (1, 0), (2, 1), (4, 0), (5, 1), (6, 0)] mixed (by kernel_rfl) ?_
  refine px_rd' rfl (rd_load_agg' (i := 3) (o := 0) (nn := 9) rfl ⟨rfl, rfl, rfl, rfl⟩ rfl agg24 (l' := [(Vl (.float .f64 a0_0)), (Vl (.float .f64 a0_1)), (Vl (.float .f64 a0_2)), (Vl (.float .f64 a0_3)), (Vl (.float .f64 a0_4)), (Vl (.float .f64 a0_5)), (Vl (.float .f64 a0_6)), (Vl (.float .f64 a0_7)), (Vl (.float .f64 a0_8))]) rfl) rfl rfl (wt_none' rfl) ?_
  refine px_rd' rfl (rd_load_agg' (i := 2) (o := 0) (nn := 9) rfl ⟨rfl, rfl, rfl, rfl⟩ rfl agg24 (l' := [(Vl (.float .f64 a1_0)), (Vl (.float .f64 a1_1)), (Vl (.float .f64 a1_2)), (Vl (.float .f64 a1_3)), (Vl (.float .f64 a1_4)), (Vl (.float .f64 a1_5)), (Vl (.float .f64 a1_6)), (Vl (.float .f64 a1_7)), (Vl (.float .f64 a1_8))]) rfl) rfl rfl (wt_none' rfl) ?_
  obtain ⟨r7, hr7, hp⟩ := bind_some hp
  refine px_ox' rfl (ox_calln' (ent_fn' Tryd.func17 isn17 rfl rfl) (impl_mat_sim _ _ _ _ _ _ _ _ _ hr7 : Go.Sx.Fn Tryd.prog 17 [(Ag [(Vl (.float .f64 a0_0)), (Vl (.float .f64 a0_1)), (Vl (.float .f64 a0_2)), (Vl (.float .f64 a0_3)), (Vl (.float .f64 a0_4)), (Vl (.float .f64 a0_5)), (Vl (.float .f64 a0_6)), (Vl (.float .f64 a0_7)), (Vl (.float .f64 a0_8))])] [] (fun x : Addr × Gs => (Vl (.pointer (some x.1)))) (fun x => [⟨.pointer (some x.1), [(Vl (.pointer (x.2).1))], 48, none⟩, (Rw Kf 22 (Vs x.2) r7)])) (Hn := fun x : Addr × Gs => [⟨.pointer (some x.1), [(Vl (.pointer (x.2).1))], 48, none⟩, (Rw Kf 22 (Vs x.2) r7), ⟨.pointer (some q5), [(Vl (.pointer none))], 48, none⟩, ⟨.pointer (some q4), [(Vl (.float .f64 0)), (Vl (.float .f64 0)), (Vl (.float .f64 0)), (Vl (.float .f64 0)), (Vl (.float .f64 0)), (Vl (.float .f64 0)), (Vl (.float .f64 0)), (Vl (.float .f64 0)), (Vl (.float .f64 0))], 24, none⟩, ⟨.pointer (some q3), [(Vl (.float .f64 a1_0)), (Vl (.float .f64 a1_1)), (Vl (.float .f64 a1_2)), (Vl (.float .f64 a1_3)), (Vl (.float .f64 a1_4)), (Vl (.float .f64 a1_5)), (Vl (.float .f64 a1_6)), (Vl (.float .f64 a1_7)), (Vl (.float .f64 a1_8))], 24, none⟩, ⟨.pointer (some q2), [(Vl (.float .f64 a0_0)), (Vl (.float .f64 a0_1)), (Vl (.float .f64 a0_2)), (Vl (.float .f64 a0_3)), (Vl (.float .f64 a0_4)), (Vl (.float .f64 a0_5)), (Vl (.float .f64 a0_6)), (Vl (.float .f64 a0_7)), (Vl (.float .f64 a0_8))], 24, none⟩]) (fun _ => rfl) rfl rfl) rfl bs_nil (wt_none' rfl) fun ⟨q7, g7⟩ => ?_
  refine px_rd' rfl (rd_iface' rfl ⟨_, Tryd.underlying43, fun _ h => (nomatch h)⟩) rfl rfl (wt_none' rfl) ?_
  obtain ⟨r10, hr10, hp⟩ := bind_some hp
  refine px_ox' rfl (ox_calln' (ent_fn' Tryd.func17 isn17 rfl rfl) (impl_mat_sim _ _ _ _ _ _ _ _ _ hr10 : Go.Sx.Fn Tryd.prog 17 [(Ag [(Vl (.float .f64 a1_0)), (Vl (.float .f64 a1_1)), (Vl (.float .f64 a1_2)), (Vl (.float .f64 a1_3)), (Vl (.float .f64 a1_4)), (Vl (.float .f64 a1_5)), (Vl (.float .f64 a1_6)), (Vl (.float .f64 a1_7)), (Vl (.float .f64 a1_8))])] [] (fun x : Addr × Gs => (Vl (.pointer (some x.1)))) (fun x => [⟨.pointer (some x.1), [(Vl (.pointer (x.2).1))], 48, none⟩, (Rw Kf 22 (Vs x.2) r10)])) (Hn := fun x : Addr × Gs => [⟨.pointer (some x.1), [(Vl (.pointer (x.2).1))], 48, none⟩, (Rw Kf 22 (Vs x.2) r10), ⟨.pointer (some q7), [(Vl (.pointer (g7).1))], 48, none⟩, (Rw Kf 22 (Vs g7) r7), ⟨.pointer (some q5), [(Vl (.pointer none))], 48, none⟩, ⟨.pointer (some q4), [(Vl (.float .f64 0)), (Vl (.float .f64 0)), (Vl (.float .f64 0)), (Vl (.float .f64 0)), (Vl (.float .f64 0)), (Vl (.float .f64 0)), (Vl (.float .f64 0)), (Vl (.float .f64 0)), (Vl (.float .f64 0))], 24, none⟩, ⟨.pointer (some q3), [(Vl (.float .f64 a1_0)), (Vl (.float .f64 a1_1)), (Vl (.float .f64 a1_2)), (Vl (.float .f64 a1_3)), (Vl (.float .f64 a1_4)), (Vl (.float .f64 a1_5)), (Vl (.float .f64 a1_6)), (Vl (.float .f64 a1_7)), (Vl (.float .f64 a1_8))], 24, none⟩, ⟨.pointer (some q2), [(Vl (.float .f64 a0_0)), (Vl (.float .f64 a0_1)), (Vl (.float .f64 a0_2)), (Vl (.float .f64 a0_3)), (Vl (.float .f64 a0_4)), (Vl (.float .f64 a0_5)), (Vl (.float .f64 a0_6)), (Vl (.float .f64 a0_7)), (Vl (.float .f64 a0_8))], 24, none⟩]) (fun _ => rfl) rfl rfl) rfl bs_nil (wt_none' rfl) fun ⟨q10, g10⟩ => ?_
  refine px_rd' rfl (rd_iface' rfl ⟨_, Tryd.underlying43, fun _ h => (nomatch h)⟩) rfl rfl (wt_none' rfl) ?_
  obtain ⟨r12, hr12, hp⟩ := bind_some hp
  refine px_oxb' (is := [4, 2, 3, 0, 1]) rfl (oxb_callg (ent_fn' Tryd.func23 isn23 rfl rfl) (r3_Mat_Sub_sim _ _ hr12 : Go.Sx.Fn Tryd.prog 23 [(Vl (.pointer (some q5))), (If 43 (Vl (.pointer (some q7)))), (If 43 (Vl (.pointer (some q10))))] [⟨.pointer (some q5), [(Vl (.pointer none))], 48, none⟩, ⟨.pointer (some q7), [(Vl (.pointer (g7).1))], 48, none⟩, (Rw Kf 22 (Vs g7) r7), ⟨.pointer (some q10), [(Vl (.pointer (g10).1))], 48, none⟩, (Rw Kf 22 (Vs g10) r10)] (fun x : Addr => (Vl (.tuple #[]))) (fun x => [⟨.pointer (some q5), [(Vl (.pointer ((some x, 9, 9)).1))], 48, none⟩, (Rw Kf 77 (Vs (some x, 9, 9)) r12.1), ⟨.pointer (some q7), [(Vl (.pointer (g7).1))], 48, none⟩, (Rw Kf 22 (Vs g7) r12.2.1), ⟨.pointer (some q10), [(Vl (.pointer (g10).1))], 48, none⟩, (Rw Kf 22 (Vs g10) r12.2.2)])) [4, 2, 3, 0, 1] [5, 6, 7] (by decide) (pick_cons rfl (pick_cons rfl (pick_cons rfl (pick_cons rfl (pick_cons rfl pick_nil))))) (pick_cons rfl (pick_cons rfl (pick_cons rfl pick_nil))) (Hn := fun x : Addr => [⟨.pointer (some q5), [(Vl (.pointer ((some x, 9, 9)).1))], 48, none⟩, (Rw Kf 77 (Vs (some x, 9, 9)) r12.1), ⟨.pointer (some q7), [(Vl (.pointer (g7).1))], 48, none⟩, (Rw Kf 22 (Vs g7) r12.2.1), ⟨.pointer (some q10), [(Vl (.pointer (g10).1))], 48, none⟩, (Rw Kf 22 (Vs g10) r12.2.2), ⟨.pointer (some q4), [(Vl (.float .f64 0)), (Vl (.float .f64 0)), (Vl (.float .f64 0)), (Vl (.float .f64 0)), (Vl (.float .f64 0)), (Vl (.float .f64 0)), (Vl (.float .f64 0)), (Vl (.float .f64 0)), (Vl (.float .f64 0))], 24, none⟩, ⟨.pointer (some q3), [(Vl (.float .f64 a1_0)), (Vl (.float .f64 a1_1)), (Vl (.float .f64 a1_2)), (Vl (.float .f64 a1_3)), (Vl (.float .f64 a1_4)), (Vl (.float .f64 a1_5)), (Vl (.float .f64 a1_6)), (Vl (.float .f64 a1_7)), (Vl (.float .f64 a1_8))], 24, none⟩, ⟨.pointer (some q2), [(Vl (.float .f64 a0_0)), (Vl (.float .f64 a0_1)), (Vl (.float .f64 a0_2)), (Vl (.float .f64 a0_3)), (Vl (.float .f64 a0_4)), (Vl (.float .f64 a0_5)), (Vl (.float .f64 a0_6)), (Vl (.float .f64 a0_7)), (Vl (.float .f64 a0_8))], 24, none⟩]) (fun _ => rfl) rfl rfl) (pick_cons rfl (pick_cons rfl (pick_cons rfl (pick_cons rfl (pick_cons rfl pick_nil))))) rfl bl_nil (wt_none' rfl) fun q12 => ?_
  refine px_nil' ?_
  show TX E K3 _
  refine tx_k' hK3 ?_
  refine cx_seq' fun K4 hK4 => ?_
  refine cx_region' ?_
  obtain ⟨r13, hr13, hp⟩ := bind_some hp
  refine sx_ox' (ox_callg' (ent_fn' Tryd.func21 isn21 rfl rfl) (impl_plainMat_sim _ hr13 : Go.Sx.Fn Tryd.prog 21 [(Vl (.pointer (some q5)))] [⟨.pointer (some q5), [(Vl (.pointer ((some q12, 9, 9)).1))], 48, none⟩, (Rw Kf 77 (Vs (some q12, 9, 9)) r12.1)] (fun x : Unit => (Ag [(Vl (.float .f64 r13.2.1)), (Vl (.float .f64 r13.2.2.1)), (Vl (.float .f64 r13.2.2.2.1)), (Vl (.float .f64 r13.2.2.2.2.1)), (Vl (.float .f64 r13.2.2.2.2.2.1)), (Vl (.float .f64 r13.2.2.2.2.2.2.1)), (Vl (.float .f64 r13.2.2.2.2.2.2.2.1)), (Vl (.float .f64 r13.2.2.2.2.2.2.2.2.1)), (Vl (.float .f64 r13.2.2.2.2.2.2.2.2.2))])) (fun x => [⟨.pointer (some q5), [(Vl (.pointer ((some q12, 9, 9)).1))], 48, none⟩, (Rw Kf 77 (Vs (some q12, 9, 9)) r13.1)])) [0, 1] [2, 3, 4, 5, 6, 7, 8] (by decide) (pick_cons rfl (pick_cons rfl pick_nil)) (pick_cons rfl (pick_cons rfl (pick_cons rfl (pick_cons rfl (pick_cons rfl (pick_cons rfl (pick_cons rfl pick_nil))))))) (Hn := fun x : Unit => [⟨.pointer (some q5), [(Vl (.pointer ((some q12, 9, 9)).1))], 48, none⟩, (Rw Kf 77 (Vs (some q12, 9, 9)) r13.1), ⟨.pointer (some q7), [(Vl (.pointer (g7).1))], 48, none⟩, (Rw Kf 22 (Vs g7) r12.2.1), ⟨.pointer (some q10), [(Vl (.pointer (g10).1))], 48, none⟩, (Rw Kf 22 (Vs g10) r12.2.2), ⟨.pointer (some q4), [(Vl (.float .f64 0)), (Vl (.float .f64 0)), (Vl (.float .f64 0)), (Vl (.float .f64 0)), (Vl (.float .f64 0)), (Vl (.float .f64 0)), (Vl (.float .f64 0)), (Vl (.float .f64 0)), (Vl (.float .f64 0))], 24, none⟩, ⟨.pointer (some q3), [(Vl (.float .f64 a1_0)), (Vl (.float .f64 a1_1)), (Vl (.float .f64 a1_2)), (Vl (.float .f64 a1_3)), (Vl (.float .f64 a1_4)), (Vl (.float .f64 a1_5)), (Vl (.float .f64 a1_6)), (Vl (.float .f64 a1_7)), (Vl (.float .f64 a1_8))], 24, none⟩, ⟨.pointer (some q2), [(Vl (.float .f64 a0_0)), (Vl (.float .f64 a0_1)), (Vl (.float .f64 a0_2)), (Vl (.float .f64 a0_3)), (Vl (.float .f64 a0_4)), (Vl (.float .f64 a0_5)), (Vl (.float .f64 a0_6)), (Vl (.float .f64 a0_7)), (Vl (.float .f64 a0_8))], 24, none⟩]) (fun _ => rfl) rfl rfl) (wt_none' rfl) fun ⟨⟩ => ?_
  refine sx_ox' (ox_store' (i := 6) (o := 0) rfl rfl (lv_ag _) ⟨rfl, rfl, rfl, rfl⟩ rfl info24 rfl (H' := [⟨.pointer (some q5), [(Vl (.pointer ((some q12, 9, 9)).1))], 48, none⟩, (Rw Kf 77 (Vs (some q12, 9, 9)) r13.1), ⟨.pointer (some q7), [(Vl (.pointer (g7).1))], 48, none⟩, (Rw Kf 22 (Vs g7) r12.2.1), ⟨.pointer (some q10), [(Vl (.pointer (g10).1))], 48, none⟩, (Rw Kf 22 (Vs g10) r12.2.2), ⟨.pointer (some q4), [(Vl (.float .f64 r13.2.1)), (Vl (.float .f64 r13.2.2.1)), (Vl (.float .f64 r13.2.2.2.1)), (Vl (.float .f64 r13.2.2.2.2.1)), (Vl (.float .f64 r13.2.2.2.2.2.1)), (Vl (.float .f64 r13.2.2.2.2.2.2.1)), (Vl (.float .f64 r13.2.2.2.2.2.2.2.1)), (Vl (.float .f64 r13.2.2.2.2.2.2.2.2.1)), (Vl (.float .f64 r13.2.2.2.2.2.2.2.2.2))], 24, none⟩, ⟨.pointer (some q3), [(Vl (.float .f64 a1_0)), (Vl (.float .f64 a1_1)), (Vl (.float .f64 a1_2)), (Vl (.float .f64 a1_3)), (Vl (.float .f64 a1_4)), (Vl (.float .f64 a1_5)), (Vl (.float .f64 a1_6)), (Vl (.float .f64 a1_7)), (Vl (.float .f64 a1_8))], 24, none⟩, ⟨.pointer (some q2), [(Vl (.float .f64 a0_0)), (Vl (.float .f64 a0_1)), (Vl (.float .f64 a0_2)), (Vl (.float .f64 a0_3)), (Vl (.float .f64 a0_4)), (Vl (.float .f64 a0_5)), (Vl (.float .f64 a0_6)), (Vl (.float .f64 a0_7)), (Vl (.float .f64 a0_8))], 24, none⟩]) rfl) (wt_none' rfl) fun _ => ?_
  refine sx_nil' ?_
  show TX E K4 _
  refine tx_k' hK4 ?_
  refine cx_retc' ?_
  replace hp := Option.some.inj hp
  subst hp
  refine tx_pick' (L' := [(4, (Vl (.pointer (some q4))))]) (H' := [⟨.pointer (some q4), [(Vl (.float .f64 r13.2.1)), (Vl (.float .f64 r13.2.2.1)), (Vl (.float .f64 r13.2.2.2.1)), (Vl (.float .f64 r13.2.2.2.2.1)), (Vl (.float .f64 r13.2.2.2.2.2.1)), (Vl (.float .f64 r13.2.2.2.2.2.2.1)), (Vl (.float .f64 r13.2.2.2.2.2.2.2.1)), (Vl (.float .f64 r13.2.2.2.2.2.2.2.2.1)), (Vl (.float .f64 r13.2.2.2.2.2.2.2.2.2))], 24, none⟩]) [6] (sub_cons rfl sub_nil) (by decide) (pick_cons rfl pick_nil) ?_
  exact tx_ret1' Tryd.results11 rfl () (rv_cell_agg' (i := 0) (o := 0) (nn := 9) rfl ⟨rfl, rfl, rfl, rfl⟩ rfl agg24 rfl) (List.nil_sublist _)

def r3_Mat_Scale_j1 (k : Nat) (r12 : (List Nat) × Int) (a1 : Nat) (x1 : Bool) : Option ((List Nat) × (List Nat)) :=
  br x1
    (none)
    ((r3_Mat_At k r12.1 0 0) >>= fun r901 =>
    (some (gmul a1 r901.2)) >>= fun r902 =>
    (num r902) >>= fun u1 =>
    (r3_Mat_Set k ([0, 0, 0, 0, 0, 0, 0, 0, 0]) 0 0 r902) >>= fun r903 =>
    (r3_Mat_At k r901.1 0 1) >>= fun r904 =>
    (some (gmul a1 r904.2)) >>= fun r905 =>
    (num r905) >>= fun u2 =>
    (r3_Mat_Set k r903 0 1 r905) >>= fun r906 =>
    (r3_Mat_At k r904.1 0 2) >>= fun r907 =>
    (some (gmul a1 r907.2)) >>= fun r908 =>
    (num r908) >>= fun u3 =>
    (r3_Mat_Set k r906 0 2 r908) >>= fun r909 =>
    (r3_Mat_At k r907.1 1 0) >>= fun r9010 =>
    (some (gmul a1 r9010.2)) >>= fun r9011 =>
    (num r9011) >>= fun u4 =>
    (r3_Mat_Set k r909 1 0 r9011) >>= fun r9012 =>
    (r3_Mat_At k r9010.1 1 1) >>= fun r9013 =>
    (some (gmul a1 r9013.2)) >>= fun r9014 =>
    (num r9014) >>= fun u5 =>
    (r3_Mat_Set k r9012 1 1 r9014) >>= fun r9015 =>
    (r3_Mat_At k r9013.1 1 2) >>= fun r9016 =>
    (some (gmul a1 r9016.2)) >>= fun r9017 =>
    (num r9017) >>= fun u6 =>
    (r3_Mat_Set k r9015 1 2 r9017) >>= fun r9018 =>
    (r3_Mat_At k r9016.1 2 0) >>= fun r9019 =>
    (some (gmul a1 r9019.2)) >>= fun r9020 =>
    (num r9020) >>= fun u7 =>
    (r3_Mat_Set k r9018 2 0 r9020) >>= fun r9021 =>
    (r3_Mat_At k r9019.1 2 1) >>= fun r9022 =>
    (some (gmul a1 r9022.2)) >>= fun r9023 =>
    (num r9023) >>= fun u8 =>
    (r3_Mat_Set k r9021 2 1 r9023) >>= fun r9024 =>
    (r3_Mat_At k r9022.1 2 2) >>= fun r9025 =>
    (some (gmul a1 r9025.2)) >>= fun r9026 =>
    (num r9026) >>= fun u9 =>
    (r3_Mat_Set k r9024 2 2 r9026) >>= fun r9027 =>
    some (r9027, r9025.1))
def r3_Mat_Scale (k : Nat) (a1 : Nat) (a2_0 : List Nat) : Option ((List Nat) × (List Nat)) :=
  (r3_Mat_Dims k a2_0) >>= fun r12 =>
  br (!decide (r12.2 = 3))
    (r3_Mat_Scale_j1 k r12 a1 true)
    (r3_Mat_Scale_j1 k r12 a1 (!decide (r12.2 = 3)))

theorem r3_Mat_Scale_sim {k : Nat} {wa0 : Addr} {wa2 : Addr} {wa2_0 : Gs} (a1 : Nat) (a2_0 : List Nat) {out : (List Nat) × (List Nat)} (hp : r3_Mat_Scale k a1 a2_0 = some out) : Go.Sx.Fn Tryd.prog 24 [(Vl (.pointer (some wa0))), (Vl (.float .f64 a1)), (If 43 (Vl (.pointer (some wa2))))] [⟨.pointer (some wa0), [(Vl (.pointer none))], 48, none⟩, ⟨.pointer (some wa2), [(Vl (.pointer (wa2_0).1))], 48, none⟩, (Rw Kf 22 (Vs wa2_0) a2_0)] (fun w : Addr => (Vl (.tuple #[]))) (fun w => [⟨.pointer (some wa0), [(Vl (.pointer ((some w, 9, 9)).1))], 48, none⟩, (Rw Kf 77 (Vs (some w, 9, 9)) out.1), ⟨.pointer (some wa2), [(Vl (.pointer (wa2_0).1))], 48, none⟩, (Rw Kf 22 (Vs wa2_0) out.2)]) := by
  unfold r3_Mat_Scale at hp
  refine fn_of Tryd.func24 rfl Tryd.ntmps24 rfl fun E hM => ?_
  refine cx_seq' fun K1 hK1 => ?_
  refine cx_region' ?_
  refine sx_rd' (rd_move' rfl) rfl rfl (wt_none' rfl) ?_
  obtain ⟨r12, hr12, hp⟩ := bind_some hp
  refine sx_ox' (ox_callg' (ent_inv' rfl rfl (inv_any0 inv43_Dims)) (r3_Mat_Dims_sim _ hr12 : Go.Sx.Fn Tryd.prog 69 [(Vl (.pointer (some wa2)))] [⟨.pointer (some wa2), [(Vl (.pointer (wa2_0).1))], 48, none⟩, (Rw Kf 22 (Vs wa2_0) a2_0)] (fun x : Unit => (Tu [(Vl (.int .i64 r12.2)), (Vl (.int .i64 r12.2))])) (fun x => [⟨.pointer (some wa2), [(Vl (.pointer (wa2_0).1))], 48, none⟩, (Rw Kf 22 (Vs wa2_0) r12.1)])) [1, 2] [0] (by decide) (pick_cons rfl (pick_cons rfl pick_nil)) (pick_cons rfl pick_nil) (Hn := fun x : Unit => [⟨.pointer (some wa2), [(Vl (.pointer (wa2_0).1))], 48, none⟩, (Rw Kf 22 (Vs wa2_0) r12.1), ⟨.pointer (some wa0), [(Vl (.pointer none))], 48, none⟩]) (fun _ => rfl) rfl rfl) (wt_none' rfl) fun ⟨⟩ => ?_
  refine sx_rd' (rd_move' rfl) rfl rfl (wt_none' rfl) ?_
  refine sx_rd' (rd_extract' rfl rfl) rfl rfl (wt_none' rfl) ?_
  refine sx_rd' (rd_extract' rfl rfl) rfl rfl (wt_none' rfl) ?_
  refine sx_rd' (rd_assign' rfl) rfl rfl (wt_none' rfl) ?_
  refine sx_rd' (rd_assign' rfl) rfl rfl (wt_none' rfl) ?_
  refine sx_nil' ?_
  show TX E K1 _
  refine tx_k' hK1 ?_
  refine cx_seq' fun K2 hK2 => ?_
  refine cx_seq' fun K3 hK3 => ?_
  refine cx_region' ?_
  refine sx_rd' (rd_move' rfl) rfl rfl (wt_none' rfl) ?_
  refine sx_rd' (rd_bin' rfl rfl eg_int ru_neq) rfl rfl (wt_none' rfl) ?_
  refine sx_rd' (rd_move' rfl) rfl rfl (wt_none' rfl) ?_
  refine sx_cutn' 3 (fun (v1 : Bool) => (⟨50, [], [(0, (Vl (.pointer (some wa0)))), (1, (Vl (.float .f64 a1))), (2, (If 43 (Vl (.pointer (some wa2))))), (20, (Vl (.bool v1)))], [⟨.pointer (some wa0), [(Vl (.pointer none))], 48, none⟩, ⟨.pointer (some wa2), [(Vl (.pointer (wa2_0).1))], 48, none⟩, (Rw Kf 22 (Vs wa2_0) r12.1)]⟩ : St)) (fun (v1 : Bool) => r3_Mat_Scale_j1 k r12 a1 v1 = some out) ?_ ?_
  · rintro x1 hp
    replace hp : r3_Mat_Scale_j1 k r12 a1 x1 = some out := hp
    unfold r3_Mat_Scale_j1 at hp
    refine sx_nil' ?_
    show TX E K3 _
    refine tx_k' hK3 ?_
    refine cx_cond' rfl (fun h2 => ?_) (fun h2 => ?_)
    · replace hp := (br_t h2).symm.trans hp
      cases hp
    · replace hp := (br_f h2).symm.trans hp
      refine cx_skip' ?_
      show TX E K2 _
      refine tx_k' hK2 ?_
      refine cx_seq' fun K5 hK5 => ?_
      refine cx_seq' fun K6 hK6 => ?_
      refine cx_region' ?_
      refine sx_rd' (rd_move' rfl) rfl rfl (wt_none' rfl) ?_
      refine sx_rd' (rd_nilck' rfl) rfl rfl (wt_none' rfl) ?_
      refine sx_rd' (rd_field0' rfl Tryd.underlying48 rfl info46 rfl) rfl rfl (wt_none' rfl) ?_
      refine sx_rd' (rd_load' (i := 0) (o := 0) rfl ⟨rfl, rfl, rfl, rfl⟩ rfl flat46) rfl rfl (wt_none' rfl) ?_
      refine sx_rd' (rd_binf' rfl rfl (bf_vl (fun _ => by kernel_rfl) nil_eql46_nilptr)) rfl rfl (wt_none' rfl) ?_
      refine sx_nil' ?_
      show TX E K6 _
      refine tx_k' hK6 ?_
      refine cx_cond_t' rfl rfl ?_
      refine cx_region' ?_
      refine sx_rd' (rd_move' rfl) rfl rfl (wt_none' rfl) ?_
      refine sx_ox' (ox_alloc' info77 rfl rfl rfl rfl (l := [(Vl (.float .f64 0)), (Vl (.float .f64 0)), (Vl (.float .f64 0)), (Vl (.float .f64 0)), (Vl (.float .f64 0)), (Vl (.float .f64 0)), (Vl (.float .f64 0)), (Vl (.float .f64 0)), (Vl (.float .f64 0))]) rfl) (wt_none' rfl) fun q29 => ?_
      refine tx_arr' (K := Kf) (xs := [0, 0, 0, 0, 0, 0, 0, 0, 0]) (m := 9) (i := 0) rfl rfl rfl (H' := [(Rw Kf 77 (Vs (some q29, 9, 9)) ([0, 0, 0, 0, 0, 0, 0, 0, 0])), ⟨.pointer (some wa0), [(Vl (.pointer none))], 48, none⟩, ⟨.pointer (some wa2), [(Vl (.pointer (wa2_0).1))], 48, none⟩, (Rw Kf 22 (Vs wa2_0) r12.1)]) rfl ?_
      refine sx_rd' (rd_nilck' rfl) rfl rfl (wt_none' rfl) ?_
      refine sx_rd' (rd_field0' rfl Tryd.underlying48 rfl info46 rfl) rfl rfl (wt_none' rfl) ?_
      refine sx_ox' (ox_store' (i := 1) (o := 0) rfl rfl (lv_vl rfl rfl) ⟨rfl, rfl, rfl, rfl⟩ rfl info46 rfl (H' := [(Rw Kf 77 (Vs (some q29, 9, 9)) ([0, 0, 0, 0, 0, 0, 0, 0, 0])), ⟨.pointer (some wa0), [(Vl (.pointer ((some q29, 9, 9)).1))], 48, none⟩, ⟨.pointer (some wa2), [(Vl (.pointer (wa2_0).1))], 48, none⟩, (Rw Kf 22 (Vs wa2_0) r12.1)]) rfl) (wt_none' rfl) fun _ => ?_
      refine sx_nil' ?_
      show TX E K5 _
      refine tx_k' hK5 ?_
      refine cx_seq' fun K7 hK7 => ?_
      refine cx_region' ?_
      refine sx_rd' (rd_assign' rfl) rfl rfl (wt_none' rfl) ?_
      refine sx_nil' ?_
      show TX E K7 _
      refine tx_k' hK7 ?_
      refine cx_block' ?_
      refine tx_loop' ?_
      refine tx_round' ?_
      refine cx_seq' fun K8 hK8 => ?_
      refine cx_seq' fun K9 hK9 => ?_
      refine cx_region' ?_
      refine sx_rd' (rd_move' rfl) rfl rfl (wt_none' rfl) ?_
      refine sx_rd' (rd_bin' rfl rfl eg_int ru_lss) rfl rfl (wt_none' rfl) ?_
      refine sx_nil' ?_
      show TX E K9 _
      refine tx_k' hK9 ?_
      refine cx_cond_t' rfl rfl ?_
      refine cx_skip' ?_
      show TX E K8 _
      refine tx_k' hK8 ?_
      refine cx_seq' fun K10 hK10 => ?_
      refine cx_block' ?_
      refine cx_seq' fun K11 hK11 => ?_
      refine cx_region' ?_
      refine sx_rd' (rd_assign' rfl) rfl rfl (wt_none' rfl) ?_
      refine sx_nil' ?_
      show TX E K11 _
      refine tx_k' hK11 ?_
      refine cx_block' ?_
      refine tx_loop' ?_
      refine tx_round' ?_
      refine cx_seq' fun K12 hK12 => ?_
      refine cx_seq' fun K13 hK13 => ?_
      refine cx_region' ?_
      refine sx_rd' (rd_move' rfl) rfl rfl (wt_none' rfl) ?_
      refine sx_rd' (rd_bin' rfl rfl eg_int ru_lss) rfl rfl (wt_none' rfl) ?_
      refine sx_nil' ?_
      show TX E K13 _
      refine tx_k' hK13 ?_
      refine cx_cond_t' rfl rfl ?_
      refine cx_skip' ?_
      show TX E K12 _
      refine tx_k' hK12 ?_
      refine cx_seq' fun K14 hK14 => ?_
      refine cx_block' ?_
      refine cx_region' ?_
      refine sx_rd' (rd_move' rfl) rfl rfl (wt_none' rfl) ?_
      refine sx_rd' (rd_move' rfl) rfl rfl (wt_none' rfl) ?_
      refine sx_rd' (rd_move' rfl) rfl rfl (wt_none' rfl) ?_
      refine sx_rd' (rd_move' rfl) rfl rfl (wt_none' rfl) ?_
      refine sx_rd' (rd_move' rfl) rfl rfl (wt_none' rfl) ?_
      refine sx_rd' (rd_move' rfl) rfl rfl (wt_none' rfl) ?_
      refine sx_rd' (rd_move' rfl) rfl rfl (wt_none' rfl) ?_
      obtain ⟨r901, hr901, hp⟩ := bind_some hp
      refine sx_ox' (ox_callg' (ent_inv' rfl rfl (inv_any2 inv43_At)) (r3_Mat_At_sim _ _ _ hr901 : Go.Sx.Fn Tryd.prog 36 [(Vl (.pointer (some wa2))), (Vl (.int .i64 0)), (Vl (.int .i64 0))] [⟨.pointer (some wa2), [(Vl (.pointer (wa2_0).1))], 48, none⟩, (Rw Kf 22 (Vs wa2_0) r12.1)] (fun x : Unit => (Vl (.float .f64 r901.2))) (fun x => [⟨.pointer (some wa2), [(Vl (.pointer (wa2_0).1))], 48, none⟩, (Rw Kf 22 (Vs wa2_0) r901.1)])) [2, 3] [0, 1] (by decide) (pick_cons rfl (pick_cons rfl pick_nil)) (pick_cons rfl (pick_cons rfl pick_nil)) (Hn := fun x : Unit => [⟨.pointer (some wa2), [(Vl (.pointer (wa2_0).1))], 48, none⟩, (Rw Kf 22 (Vs wa2_0) r901.1), (Rw Kf 77 (Vs (some q29, 9, 9)) ([0, 0, 0, 0, 0, 0, 0, 0, 0])), ⟨.pointer (some wa0), [(Vl (.pointer ((some q29, 9, 9)).1))], 48, none⟩]) (fun _ => rfl) rfl rfl) (wt_none' rfl) fun ⟨⟩ => ?_
      obtain ⟨r902, hr902, hp⟩ := bind_some hp
      refine sx_ox' (ox_fop' (.inr (.inr (.inl rfl))) (fl_v rfl) (fl_v rfl) (Option.some.inj hr902) rfl rfl) (wt_none' rfl) fun _ => ?_
      obtain ⟨u1, hu1, hp⟩ := bind_some hp
      refine tx_slot' 48 (y := (Vl (.float .f64 r902))) rfl (imp_num (num_some hu1).2) ?_
      obtain ⟨r903, hr903, hp⟩ := bind_some hp
      refine sx_ox' (ox_callg' (ent_fn' Tryd.func37 isn37 rfl rfl) (r3_Mat_Set_sim _ _ _ _ hr903 : Go.Sx.Fn Tryd.prog 37 [(Vl (.pointer (some wa0))), (Vl (.int .i64 0)), (Vl (.int .i64 0)), (Vl (.float .f64 r902))] [⟨.pointer (some wa0), [(Vl (.pointer ((some q29, 9, 9)).1))], 48, none⟩, (Rw Kf 77 (Vs (some q29, 9, 9)) ([0, 0, 0, 0, 0, 0, 0, 0, 0]))] (fun x : Unit => (Vl (.tuple #[]))) (fun x => [⟨.pointer (some wa0), [(Vl (.pointer ((some q29, 9, 9)).1))], 48, none⟩, (Rw Kf 77 (Vs (some q29, 9, 9)) r903)])) [3, 2] [0, 1] (by decide) (pick_cons rfl (pick_cons rfl pick_nil)) (pick_cons rfl (pick_cons rfl pick_nil)) (Hn := fun x : Unit => [⟨.pointer (some wa0), [(Vl (.pointer ((some q29, 9, 9)).1))], 48, none⟩, (Rw Kf 77 (Vs (some q29, 9, 9)) r903), ⟨.pointer (some wa2), [(Vl (.pointer (wa2_0).1))], 48, none⟩, (Rw Kf 22 (Vs wa2_0) r901.1)]) (fun _ => rfl) rfl rfl) (wt_none' rfl) fun ⟨⟩ => ?_
      refine sx_nil' ?_
      show TX E K14 _
      refine tx_k' hK14 ?_
      refine cx_region' ?_
      refine sx_rd' (rd_move' rfl) rfl rfl (wt_none' rfl) ?_
      refine sx_rd' (rd_bin' rfl rfl eg_int (ru_addc (c := 1) (by decide))) rfl rfl (wt_none' rfl) ?_
      refine sx_rd' (rd_assign' rfl) rfl rfl (wt_none' rfl) ?_
      refine sx_nil' ?_
      show TX E (LoopIn _ _ _) _
      refine tx_round' ?_
      refine cx_seq' fun K15 hK15 => ?_
      refine cx_seq' fun K16 hK16 => ?_
      refine cx_region' ?_
      refine sx_rd' (rd_move' rfl) rfl rfl (wt_none' rfl) ?_
      refine sx_rd' (rd_bin' rfl rfl eg_int ru_lss) rfl rfl (wt_none' rfl) ?_
      refine sx_nil' ?_
      show TX E K16 _
      refine tx_k' hK16 ?_
      refine cx_cond_t' rfl rfl ?_
      refine cx_skip' ?_
      show TX E K15 _
      refine tx_k' hK15 ?_
      refine cx_seq' fun K17 hK17 => ?_
      refine cx_block' ?_
      refine cx_region' ?_
      refine sx_rd' (rd_move' rfl) rfl rfl (wt_none' rfl) ?_
      refine sx_rd' (rd_move' rfl) rfl rfl (wt_none' rfl) ?_
      refine sx_rd' (rd_move' rfl) rfl rfl (wt_none' rfl) ?_
      refine sx_rd' (rd_move' rfl) rfl rfl (wt_none' rfl) ?_
      refine sx_rd' (rd_move' rfl) rfl rfl (wt_none' rfl) ?_
      refine sx_rd' (rd_move' rfl) rfl rfl (wt_none' rfl) ?_
      refine sx_rd' (rd_move' rfl) rfl rfl (wt_none' rfl) ?_
      obtain ⟨r904, hr904, hp⟩ := bind_some hp
      refine sx_ox' (ox_callg' (ent_inv' rfl rfl (inv_any2 inv43_At)) (r3_Mat_At_sim _ _ _ hr904 : Go.Sx.Fn Tryd.prog 36 [(Vl (.pointer (some wa2))), (Vl (.int .i64 0)), (Vl (.int .i64 1))] [⟨.pointer (some wa2), [(Vl (.pointer (wa2_0).1))], 48, none⟩, (Rw Kf 22 (Vs wa2_0) r901.1)] (fun x : Unit => (Vl (.float .f64 r904.2))) (fun x => [⟨.pointer (some wa2), [(Vl (.pointer (wa2_0).1))], 48, none⟩, (Rw Kf 22 (Vs wa2_0) r904.1)])) [2, 3] [0, 1] (by decide) (pick_cons rfl (pick_cons rfl pick_nil)) (pick_cons rfl (pick_cons rfl pick_nil)) (Hn := fun x : Unit => [⟨.pointer (some wa2), [(Vl (.pointer (wa2_0).1))], 48, none⟩, (Rw Kf 22 (Vs wa2_0) r904.1), ⟨.pointer (some wa0), [(Vl (.pointer ((some q29, 9, 9)).1))], 48, none⟩, (Rw Kf 77 (Vs (some q29, 9, 9)) r903)]) (fun _ => rfl) rfl rfl) (wt_none' rfl) fun ⟨⟩ => ?_
      obtain ⟨r905, hr905, hp⟩ := bind_some hp
      refine sx_ox' (ox_fop' (.inr (.inr (.inl rfl))) (fl_v rfl) (fl_v rfl) (Option.some.inj hr905) rfl rfl) (wt_none' rfl) fun _ => ?_
      obtain ⟨u2, hu2, hp⟩ := bind_some hp
      refine tx_slot' 48 (y := (Vl (.float .f64 r905))) rfl (imp_num (num_some hu2).2) ?_
      obtain ⟨r906, hr906, hp⟩ := bind_some hp
      refine sx_ox' (ox_callg' (ent_fn' Tryd.func37 isn37 rfl rfl) (r3_Mat_Set_sim _ _ _ _ hr906 : Go.Sx.Fn Tryd.prog 37 [(Vl (.pointer (some wa0))), (Vl (.int .i64 0)), (Vl (.int .i64 1)), (Vl (.float .f64 r905))] [⟨.pointer (some wa0), [(Vl (.pointer ((some q29, 9, 9)).1))], 48, none⟩, (Rw Kf 77 (Vs (some q29, 9, 9)) r903)] (fun x : Unit => (Vl (.tuple #[]))) (fun x => [⟨.pointer (some wa0), [(Vl (.pointer ((some q29, 9, 9)).1))], 48, none⟩, (Rw Kf 77 (Vs (some q29, 9, 9)) r906)])) [2, 3] [0, 1] (by decide) (pick_cons rfl (pick_cons rfl pick_nil)) (pick_cons rfl (pick_cons rfl pick_nil)) (Hn := fun x : Unit => [⟨.pointer (some wa0), [(Vl (.pointer ((some q29, 9, 9)).1))], 48, none⟩, (Rw Kf 77 (Vs (some q29, 9, 9)) r906), ⟨.pointer (some wa2), [(Vl (.pointer (wa2_0).1))], 48, none⟩, (Rw Kf 22 (Vs wa2_0) r904.1)]) (fun _ => rfl) rfl rfl) (wt_none' rfl) fun ⟨⟩ => ?_
      refine sx_nil' ?_
      show TX E K17 _
      refine tx_k' hK17 ?_
      refine cx_region' ?_
      refine sx_rd' (rd_move' rfl) rfl rfl (wt_none' rfl) ?_
      refine sx_rd' (rd_bin' rfl rfl eg_int (ru_addc (c := 2) (by decide))) rfl rfl (wt_none' rfl) ?_
      refine sx_rd' (rd_assign' rfl) rfl rfl (wt_none' rfl) ?_
      refine sx_nil' ?_
      show TX E (LoopIn _ _ _) _
      refine tx_round' ?_
      refine cx_seq' fun K18 hK18 => ?_
      refine cx_seq' fun K19 hK19 => ?_
      refine cx_region' ?_
      refine sx_rd' (rd_move' rfl) rfl rfl (wt_none' rfl) ?_
      refine sx_rd' (rd_bin' rfl rfl eg_int ru_lss) rfl rfl (wt_none' rfl) ?_
      refine sx_nil' ?_
      show TX E K19 _
      refine tx_k' hK19 ?_
      refine cx_cond_t' rfl rfl ?_
      refine cx_skip' ?_
      show TX E K18 _
      refine tx_k' hK18 ?_
      refine cx_seq' fun K20 hK20 => ?_
      refine cx_block' ?_
      refine cx_region' ?_
      refine sx_rd' (rd_move' rfl) rfl rfl (wt_none' rfl) ?_
      refine sx_rd' (rd_move' rfl) rfl rfl (wt_none' rfl) ?_
      refine sx_rd' (rd_move' rfl) rfl rfl (wt_none' rfl) ?_
      refine sx_rd' (rd_move' rfl) rfl rfl (wt_none' rfl) ?_
      refine sx_rd' (rd_move' rfl) rfl rfl (wt_none' rfl) ?_
      refine sx_rd' (rd_move' rfl) rfl rfl (wt_none' rfl) ?_
      refine sx_rd' (rd_move' rfl) rfl rfl (wt_none' rfl) ?_
      obtain ⟨r907, hr907, hp⟩ := bind_some hp
      refine sx_ox' (ox_callg' (ent_inv' rfl rfl (inv_any2 inv43_At)) (r3_Mat_At_sim _ _ _ hr907 : Go.Sx.Fn Tryd.prog 36 [(Vl (.pointer (some wa2))), (Vl (.int .i64 0)), (Vl (.int .i64 2))] [⟨.pointer (some wa2), [(Vl (.pointer (wa2_0).1))], 48, none⟩, (Rw Kf 22 (Vs wa2_0) r904.1)] (fun x : Unit => (Vl (.float .f64 r907.2))) (fun x => [⟨.pointer (some wa2), [(Vl (.pointer (wa2_0).1))], 48, none⟩, (Rw Kf 22 (Vs wa2_0) r907.1)])) [2, 3] [0, 1] (by decide) (pick_cons rfl (pick_cons rfl pick_nil)) (pick_cons rfl (pick_cons rfl pick_nil)) (Hn := fun x : Unit => [⟨.pointer (some wa2), [(Vl (.pointer (wa2_0).1))], 48, none⟩, (Rw Kf 22 (Vs wa2_0) r907.1), ⟨.pointer (some wa0), [(Vl (.pointer ((some q29, 9, 9)).1))], 48, none⟩, (Rw Kf 77 (Vs (some q29, 9, 9)) r906)]) (fun _ => rfl) rfl rfl) (wt_none' rfl) fun ⟨⟩ => ?_
      obtain ⟨r908, hr908, hp⟩ := bind_some hp
      refine sx_ox' (ox_fop' (.inr (.inr (.inl rfl))) (fl_v rfl) (fl_v rfl) (Option.some.inj hr908) rfl rfl) (wt_none' rfl) fun _ => ?_
      obtain ⟨u3, hu3, hp⟩ := bind_some hp
      refine tx_slot' 48 (y := (Vl (.float .f64 r908))) rfl (imp_num (num_some hu3).2) ?_
      obtain ⟨r909, hr909, hp⟩ := bind_some hp
      refine sx_ox' (ox_callg' (ent_fn' Tryd.func37 isn37 rfl rfl) (r3_Mat_Set_sim _ _ _ _ hr909 : Go.Sx.Fn Tryd.prog 37 [(Vl (.pointer (some wa0))), (Vl (.int .i64 0)), (Vl (.int .i64 2)), (Vl (.float .f64 r908))] [⟨.pointer (some wa0), [(Vl (.pointer ((some q29, 9, 9)).1))], 48, none⟩, (Rw Kf 77 (Vs (some q29, 9, 9)) r906)] (fun x : Unit => (Vl (.tuple #[]))) (fun x => [⟨.pointer (some wa0), [(Vl (.pointer ((some q29, 9, 9)).1))], 48, none⟩, (Rw Kf 77 (Vs (some q29, 9, 9)) r909)])) [2, 3] [0, 1] (by decide) (pick_cons rfl (pick_cons rfl pick_nil)) (pick_cons rfl (pick_cons rfl pick_nil)) (Hn := fun x : Unit => [⟨.pointer (some wa0), [(Vl (.pointer ((some q29, 9, 9)).1))], 48, none⟩, (Rw Kf 77 (Vs (some q29, 9, 9)) r909), ⟨.pointer (some wa2), [(Vl (.pointer (wa2_0).1))], 48, none⟩, (Rw Kf 22 (Vs wa2_0) r907.1)]) (fun _ => rfl) rfl rfl) (wt_none' rfl) fun ⟨⟩ => ?_
      refine sx_nil' ?_
      show TX E K20 _
      refine tx_k' hK20 ?_
      refine cx_region' ?_
      refine sx_rd' (rd_move' rfl) rfl rfl (wt_none' rfl) ?_
      refine sx_rd' (rd_bin' rfl rfl eg_int (ru_addc (c := 3) (by decide))) rfl rfl (wt_none' rfl) ?_
      refine sx_rd' (rd_assign' rfl) rfl rfl (wt_none' rfl) ?_
      refine sx_nil' ?_
      show TX E (LoopIn _ _ _) _
      refine tx_round' ?_
      refine cx_seq' fun K21 hK21 => ?_
      refine cx_seq' fun K22 hK22 => ?_
      refine cx_region' ?_
      refine sx_rd' (rd_move' rfl) rfl rfl (wt_none' rfl) ?_
      refine sx_rd' (rd_bin' rfl rfl eg_int ru_lss) rfl rfl (wt_none' rfl) ?_
      refine sx_nil' ?_
      show TX E K22 _
      refine tx_k' hK22 ?_
      refine cx_cond_f' rfl rfl ?_
      refine cx_exit' ?_
      show TX E K10 _
      refine tx_k' hK10 ?_
      refine cx_region' ?_
      refine sx_rd' (rd_move' rfl) rfl rfl (wt_none' rfl) ?_
      refine sx_rd' (rd_bin' rfl rfl eg_int (ru_addc (c := 1) (by decide))) rfl rfl (wt_none' rfl) ?_
      refine sx_rd' (rd_assign' rfl) rfl rfl (wt_none' rfl) ?_
      refine sx_nil' ?_
      show TX E (LoopIn _ _ _) _
      refine tx_round' ?_
      refine cx_seq' fun K23 hK23 => ?_
      refine cx_seq' fun K24 hK24 => ?_
      refine cx_region' ?_
      refine sx_rd' (rd_move' rfl) rfl rfl (wt_none' rfl) ?_
      refine sx_rd' (rd_bin' rfl rfl eg_int ru_lss) rfl rfl (wt_none' rfl) ?_
      refine sx_nil' ?_
      show TX E K24 _
      refine tx_k' hK24 ?_
      refine cx_cond_t' rfl rfl ?_
      refine cx_skip' ?_
      show TX E K23 _
      refine tx_k' hK23 ?_
      refine cx_seq' fun K25 hK25 => ?_
      refine cx_block' ?_
      refine cx_seq' fun K26 hK26 => ?_
      refine cx_region' ?_
      refine sx_rd' (rd_assign' rfl) rfl rfl (wt_none' rfl) ?_
      refine sx_nil' ?_
      show TX E K26 _
      refine tx_k' hK26 ?_
      refine cx_block' ?_
      refine tx_loop' ?_
      refine tx_round' ?_
      refine cx_seq' fun K27 hK27 => ?_
      refine cx_seq' fun K28 hK28 => ?_
      refine cx_region' ?_
      refine sx_rd' (rd_move' rfl) rfl rfl (wt_none' rfl) ?_
      refine sx_rd' (rd_bin' rfl rfl eg_int ru_lss) rfl rfl (wt_none' rfl) ?_
      refine sx_nil' ?_
      show TX E K28 _
      refine tx_k' hK28 ?_
      refine cx_cond_t' rfl rfl ?_
      refine cx_skip' ?_
      show TX E K27 _
      refine tx_k' hK27 ?_
      refine cx_seq' fun K29 hK29 => ?_
      refine cx_block' ?_
      refine cx_region' ?_
      refine sx_rd' (rd_move' rfl) rfl rfl (wt_none' rfl) ?_
      refine sx_rd' (rd_move' rfl) rfl rfl (wt_none' rfl) ?_
      refine sx_rd' (rd_move' rfl) rfl rfl (wt_none' rfl) ?_
      refine sx_rd' (rd_move' rfl) rfl rfl (wt_none' rfl) ?_
      refine sx_rd' (rd_move' rfl) rfl rfl (wt_none' rfl) ?_
      refine sx_rd' (rd_move' rfl) rfl rfl (wt_none' rfl) ?_
      refine sx_rd' (rd_move' rfl) rfl rfl (wt_none' rfl) ?_
      obtain ⟨r9010, hr9010, hp⟩ := bind_some hp
      refine sx_ox' (ox_callg' (ent_inv' rfl rfl (inv_any2 inv43_At)) (r3_Mat_At_sim _ _ _ hr9010 : Go.Sx.Fn Tryd.prog 36 [(Vl (.pointer (some wa2))), (Vl (.int .i64 1)), (Vl (.int .i64 0))] [⟨.pointer (some wa2), [(Vl (.pointer (wa2_0).1))], 48, none⟩, (Rw Kf 22 (Vs wa2_0) r907.1)] (fun x : Unit => (Vl (.float .f64 r9010.2))) (fun x => [⟨.pointer (some wa2), [(Vl (.pointer (wa2_0).1))], 48, none⟩, (Rw Kf 22 (Vs wa2_0) r9010.1)])) [2, 3] [0, 1] (by decide) (pick_cons rfl (pick_cons rfl pick_nil)) (pick_cons rfl (pick_cons rfl pick_nil)) (Hn := fun x : Unit => [⟨.pointer (some wa2), [(Vl (.pointer (wa2_0).1))], 48, none⟩, (Rw Kf 22 (Vs wa2_0) r9010.1), ⟨.pointer (some wa0), [(Vl (.pointer ((some q29, 9, 9)).1))], 48, none⟩, (Rw Kf 77 (Vs (some q29, 9, 9)) r909)]) (fun _ => rfl) rfl rfl) (wt_none' rfl) fun ⟨⟩ => ?_
      obtain ⟨r9011, hr9011, hp⟩ := bind_some hp
      refine sx_ox' (ox_fop' (.inr (.inr (.inl rfl))) (fl_v rfl) (fl_v rfl) (Option.some.inj hr9011) rfl rfl) (wt_none' rfl) fun _ => ?_
      obtain ⟨u4, hu4, hp⟩ := bind_some hp
      refine tx_slot' 48 (y := (Vl (.float .f64 r9011))) rfl (imp_num (num_some hu4).2) ?_
      obtain ⟨r9012, hr9012, hp⟩ := bind_some hp
      refine sx_ox' (ox_callg' (ent_fn' Tryd.func37 isn37 rfl rfl) (r3_Mat_Set_sim _ _ _ _ hr9012 : Go.Sx.Fn Tryd.prog 37 [(Vl (.pointer (some wa0))), (Vl (.int .i64 1)), (Vl (.int .i64 0)), (Vl (.float .f64 r9011))] [⟨.pointer (some wa0), [(Vl (.pointer ((some q29, 9, 9)).1))], 48, none⟩, (Rw Kf 77 (Vs (some q29, 9, 9)) r909)] (fun x : Unit => (Vl (.tuple #[]))) (fun x => [⟨.pointer (some wa0), [(Vl (.pointer ((some q29, 9, 9)).1))], 48, none⟩, (Rw Kf 77 (Vs (some q29, 9, 9)) r9012)])) [2, 3] [0, 1] (by decide) (pick_cons rfl (pick_cons rfl pick_nil)) (pick_cons rfl (pick_cons rfl pick_nil)) (Hn := fun x : Unit => [⟨.pointer (some wa0), [(Vl (.pointer ((some q29, 9, 9)).1))], 48, none⟩, (Rw Kf 77 (Vs (some q29, 9, 9)) r9012), ⟨.pointer (some wa2), [(Vl (.pointer (wa2_0).1))], 48, none⟩, (Rw Kf 22 (Vs wa2_0) r9010.1)]) (fun _ => rfl) rfl rfl) (wt_none' rfl) fun ⟨⟩ => ?_
      refine sx_nil' ?_
      show TX E K29 _
      refine tx_k' hK29 ?_
      refine cx_region' ?_
      refine sx_rd' (rd_move' rfl) rfl rfl (wt_none' rfl) ?_
      refine sx_rd' (rd_bin' rfl rfl eg_int (ru_addc (c := 1) (by decide))) rfl rfl (wt_none' rfl) ?_
      refine sx_rd' (rd_assign' rfl) rfl rfl (wt_none' rfl) ?_
      refine sx_nil' ?_
      show TX E (LoopIn _ _ _) _
      refine tx_round' ?_
      refine cx_seq' fun K30 hK30 => ?_
      refine cx_seq' fun K31 hK31 => ?_
      refine cx_region' ?_
      refine sx_rd' (rd_move' rfl) rfl rfl (wt_none' rfl) ?_
      refine sx_rd' (rd_bin' rfl rfl eg_int ru_lss) rfl rfl (wt_none' rfl) ?_
      refine sx_nil' ?_
      show TX E K31 _
      refine tx_k' hK31 ?_
      refine cx_cond_t' rfl rfl ?_
      refine cx_skip' ?_
      show TX E K30 _
      refine tx_k' hK30 ?_
      refine cx_seq' fun K32 hK32 => ?_
      refine cx_block' ?_
      refine cx_region' ?_
      refine sx_rd' (rd_move' rfl) rfl rfl (wt_none' rfl) ?_
      refine sx_rd' (rd_move' rfl) rfl rfl (wt_none' rfl) ?_
      refine sx_rd' (rd_move' rfl) rfl rfl (wt_none' rfl) ?_
      refine sx_rd' (rd_move' rfl) rfl rfl (wt_none' rfl) ?_
      refine sx_rd' (rd_move' rfl) rfl rfl (wt_none' rfl) ?_
      refine sx_rd' (rd_move' rfl) rfl rfl (wt_none' rfl) ?_
      refine sx_rd' (rd_move' rfl) rfl rfl (wt_none' rfl) ?_
      obtain ⟨r9013, hr9013, hp⟩ := bind_some hp
      refine sx_ox' (ox_callg' (ent_inv' rfl rfl (inv_any2 inv43_At)) (r3_Mat_At_sim _ _ _ hr9013 : Go.Sx.Fn Tryd.prog 36 [(Vl (.pointer (some wa2))), (Vl (.int .i64 1)), (Vl (.int .i64 1))] [⟨.pointer (some wa2), [(Vl (.pointer (wa2_0).1))], 48, none⟩, (Rw Kf 22 (Vs wa2_0) r9010.1)] (fun x : Unit => (Vl (.float .f64 r9013.2))) (fun x => [⟨.pointer (some wa2), [(Vl (.pointer (wa2_0).1))], 48, none⟩, (Rw Kf 22 (Vs wa2_0) r9013.1)])) [2, 3] [0, 1] (by decide) (pick_cons rfl (pick_cons rfl pick_nil)) (pick_cons rfl (pick_cons rfl pick_nil)) (Hn := fun x : Unit => [⟨.pointer (some wa2), [(Vl (.pointer (wa2_0).1))], 48, none⟩, (Rw Kf 22 (Vs wa2_0) r9013.1), ⟨.pointer (some wa0), [(Vl (.pointer ((some q29, 9, 9)).1))], 48, none⟩, (Rw Kf 77 (Vs (some q29, 9, 9)) r9012)]) (fun _ => rfl) rfl rfl) (wt_none' rfl) fun ⟨⟩ => ?_
      obtain ⟨r9014, hr9014, hp⟩ := bind_some hp
      refine sx_ox' (ox_fop' (.inr (.inr (.inl rfl))) (fl_v rfl) (fl_v rfl) (Option.some.inj hr9014) rfl rfl) (wt_none' rfl) fun _ => ?_
      obtain ⟨u5, hu5, hp⟩ := bind_some hp
      refine tx_slot' 48 (y := (Vl (.float .f64 r9014))) rfl (imp_num (num_some hu5).2) ?_
      obtain ⟨r9015, hr9015, hp⟩ := bind_some hp
      refine sx_ox' (ox_callg' (ent_fn' Tryd.func37 isn37 rfl rfl) (r3_Mat_Set_sim _ _ _ _ hr9015 : Go.Sx.Fn Tryd.prog 37 [(Vl (.pointer (some wa0))), (Vl (.int .i64 1)), (Vl (.int .i64 1)), (Vl (.float .f64 r9014))] [⟨.pointer (some wa0), [(Vl (.pointer ((some q29, 9, 9)).1))], 48, none⟩, (Rw Kf 77 (Vs (some q29, 9, 9)) r9012)] (fun x : Unit => (Vl (.tuple #[]))) (fun x => [⟨.pointer (some wa0), [(Vl (.pointer ((some q29, 9, 9)).1))], 48, none⟩, (Rw Kf 77 (Vs (some q29, 9, 9)) r9015)])) [2, 3] [0, 1] (by decide) (pick_cons rfl (pick_cons rfl pick_nil)) (pick_cons rfl (pick_cons rfl pick_nil)) (Hn := fun x : Unit => [⟨.pointer (some wa0), [(Vl (.pointer ((some q29, 9, 9)).1))], 48, none⟩, (Rw Kf 77 (Vs (some q29, 9, 9)) r9015), ⟨.pointer (some wa2), [(Vl (.pointer (wa2_0).1))], 48, none⟩, (Rw Kf 22 (Vs wa2_0) r9013.1)]) (fun _ => rfl) rfl rfl) (wt_none' rfl) fun ⟨⟩ => ?_
      refine sx_nil' ?_
      show TX E K32 _
      refine tx_k' hK32 ?_
      refine cx_region' ?_
      refine sx_rd' (rd_move' rfl) rfl rfl (wt_none' rfl) ?_
      refine sx_rd' (rd_bin' rfl rfl eg_int (ru_addc (c := 2) (by decide))) rfl rfl (wt_none' rfl) ?_
      refine sx_rd' (rd_assign' rfl) rfl rfl (wt_none' rfl) ?_
      refine sx_nil' ?_
      show TX E (LoopIn _ _ _) _
      refine tx_round' ?_
      refine cx_seq' fun K33 hK33 => ?_
      refine cx_seq' fun K34 hK34 => ?_
      refine cx_region' ?_
      refine sx_rd' (rd_move' rfl) rfl rfl (wt_none' rfl) ?_
      refine sx_rd' (rd_bin' rfl rfl eg_int ru_lss) rfl rfl (wt_none' rfl) ?_
      refine sx_nil' ?_
      show TX E K34 _
      refine tx_k' hK34 ?_
      refine cx_cond_t' rfl rfl ?_
      refine cx_skip' ?_
      show TX E K33 _
      refine tx_k' hK33 ?_
      refine cx_seq' fun K35 hK35 => ?_
      refine cx_block' ?_
      refine cx_region' ?_
      refine sx_rd' (rd_move' rfl) rfl rfl (wt_none' rfl) ?_
      refine sx_rd' (rd_move' rfl) rfl rfl (wt_none' rfl) ?_
      refine sx_rd' (rd_move' rfl) rfl rfl (wt_none' rfl) ?_
      refine sx_rd' (rd_move' rfl) rfl rfl (wt_none' rfl) ?_
      refine sx_rd' (rd_move' rfl) rfl rfl (wt_none' rfl) ?_
      refine sx_rd' (rd_move' rfl) rfl rfl (wt_none' rfl) ?_
      refine sx_rd' (rd_move' rfl) rfl rfl (wt_none' rfl) ?_
      obtain ⟨r9016, hr9016, hp⟩ := bind_some hp
      refine sx_ox' (ox_callg' (ent_inv' rfl rfl (inv_any2 inv43_At)) (r3_Mat_At_sim _ _ _ hr9016 : Go.Sx.Fn Tryd.prog 36 [(Vl (.pointer (some wa2))), (Vl (.int .i64 1)), (Vl (.int .i64 2))] [⟨.pointer (some wa2), [(Vl (.pointer (wa2_0).1))], 48, none⟩, (Rw Kf 22 (Vs wa2_0) r9013.1)] (fun x : Unit => (Vl (.float .f64 r9016.2))) (fun x => [⟨.pointer (some wa2), [(Vl (.pointer (wa2_0).1))], 48, none⟩, (Rw Kf 22 (Vs wa2_0) r9016.1)])) [2, 3] [0, 1] (by decide) (pick_cons rfl (pick_cons rfl pick_nil)) (pick_cons rfl (pick_cons rfl pick_nil)) (Hn := fun x : Unit => [⟨.pointer (some wa2), [(Vl (.pointer (wa2_0).1))], 48, none⟩, (Rw Kf 22 (Vs wa2_0) r9016.1), ⟨.pointer (some wa0), [(Vl (.pointer ((some q29, 9, 9)).1))], 48, none⟩, (Rw Kf 77 (Vs (some q29, 9, 9)) r9015)]) (fun _ => rfl) rfl rfl) (wt_none' rfl) fun ⟨⟩ => ?_
      obtain ⟨r9017, hr9017, hp⟩ := bind_some hp
      refine sx_ox' (ox_fop' (.inr (.inr (.inl rfl))) (fl_v rfl) (fl_v rfl) (Option.some.inj hr9017) rfl rfl) (wt_none' rfl) fun _ => ?_
      obtain ⟨u6, hu6, hp⟩ := bind_some hp
      refine tx_slot' 48 (y := (Vl (.float .f64 r9017))) rfl (imp_num (num_some hu6).2) ?_
      obtain ⟨r9018, hr9018, hp⟩ := bind_some hp
      refine sx_ox' (ox_callg' (ent_fn' Tryd.func37 isn37 rfl rfl) (r3_Mat_Set_sim _ _ _ _ hr9018 : Go.Sx.Fn Tryd.prog 37 [(Vl (.pointer (some wa0))), (Vl (.int .i64 1)), (Vl (.int .i64 2)), (Vl (.float .f64 r9017))] [⟨.pointer (some wa0), [(Vl (.pointer ((some q29, 9, 9)).1))], 48, none⟩, (Rw Kf 77 (Vs (some q29, 9, 9)) r9015)] (fun x : Unit => (Vl (.tuple #[]))) (fun x => [⟨.pointer (some wa0), [(Vl (.pointer ((some q29, 9, 9)).1))], 48, none⟩, (Rw Kf 77 (Vs (some q29, 9, 9)) r9018)])) [2, 3] [0, 1] (by decide) (pick_cons rfl (pick_cons rfl pick_nil)) (pick_cons rfl (pick_cons rfl pick_nil)) (Hn := fun x : Unit => [⟨.pointer (some wa0), [(Vl (.pointer ((some q29, 9, 9)).1))], 48, none⟩, (Rw Kf 77 (Vs (some q29, 9, 9)) r9018), ⟨.pointer (some wa2), [(Vl (.pointer (wa2_0).1))], 48, none⟩, (Rw Kf 22 (Vs wa2_0) r9016.1)]) (fun _ => rfl) rfl rfl) (wt_none' rfl) fun ⟨⟩ => ?_
      refine sx_nil' ?_
      show TX E K35 _
      refine tx_k' hK35 ?_
      refine cx_region' ?_
      refine sx_rd' (rd_move' rfl) rfl rfl (wt_none' rfl) ?_
      refine sx_rd' (rd_bin' rfl rfl eg_int (ru_addc (c := 3) (by decide))) rfl rfl (wt_none' rfl) ?_
      refine sx_rd' (rd_assign' rfl) rfl rfl (wt_none' rfl) ?_
      refine sx_nil' ?_
      show TX E (LoopIn _ _ _) _
      refine tx_round' ?_
      refine cx_seq' fun K36 hK36 => ?_
      refine cx_seq' fun K37 hK37 => ?_
      refine cx_region' ?_
      refine sx_rd' (rd_move' rfl) rfl rfl (wt_none' rfl) ?_
      refine sx_rd' (rd_bin' rfl rfl eg_int ru_lss) rfl rfl (wt_none' rfl) ?_
      refine sx_nil' ?_
      show TX E K37 _
      refine tx_k' hK37 ?_
      refine cx_cond_f' rfl rfl ?_
      refine cx_exit' ?_
      show TX E K25 _
      refine tx_k' hK25 ?_
      refine cx_region' ?_
      refine sx_rd' (rd_move' rfl) rfl rfl (wt_none' rfl) ?_
      refine sx_rd' (rd_bin' rfl rfl eg_int (ru_addc (c := 2) (by decide))) rfl rfl (wt_none' rfl) ?_
      refine sx_rd' (rd_assign' rfl) rfl rfl (wt_none' rfl) ?_
      refine sx_nil' ?_
      show TX E (LoopIn _ _ _) _
      refine tx_round' ?_
      refine cx_seq' fun K38 hK38 => ?_
      refine cx_seq' fun K39 hK39 => ?_
      refine cx_region' ?_
      refine sx_rd' (rd_move' rfl) rfl rfl (wt_none' rfl) ?_
      refine sx_rd' (rd_bin' rfl rfl eg_int ru_lss) rfl rfl (wt_none' rfl) ?_
      refine sx_nil' ?_
      show TX E K39 _
      refine tx_k' hK39 ?_
      refine cx_cond_t' rfl rfl ?_
      refine cx_skip' ?_
      show TX E K38 _
      refine tx_k' hK38 ?_
      refine cx_seq' fun K40 hK40 => ?_
      refine cx_block' ?_
      refine cx_seq' fun K41 hK41 => ?_
      refine cx_region' ?_
      refine sx_rd' (rd_assign' rfl) rfl rfl (wt_none' rfl) ?_
      refine sx_nil' ?_
      show TX E K41 _
      refine tx_k' hK41 ?_
      refine cx_block' ?_
      refine tx_loop' ?_
      refine tx_round' ?_
      refine cx_seq' fun K42 hK42 => ?_
      refine cx_seq' fun K43 hK43 => ?_
      refine cx_region' ?_
      refine sx_rd' (rd_move' rfl) rfl rfl (wt_none' rfl) ?_
      refine sx_rd' (rd_bin' rfl rfl eg_int ru_lss) rfl rfl (wt_none' rfl) ?_
      refine sx_nil' ?_
      show TX E K43 _
      refine tx_k' hK43 ?_
      refine cx_cond_t' rfl rfl ?_
      refine cx_skip' ?_
      show TX E K42 _
      refine tx_k' hK42 ?_
      refine cx_seq' fun K44 hK44 => ?_
      refine cx_block' ?_
      refine cx_region' ?_
      refine sx_rd' (rd_move' rfl) rfl rfl (wt_none' rfl) ?_
      refine sx_rd' (rd_move' rfl) rfl rfl (wt_none' rfl) ?_
      refine sx_rd' (rd_move' rfl) rfl rfl (wt_none' rfl) ?_
      refine sx_rd' (rd_move' rfl) rfl rfl (wt_none' rfl) ?_
      refine sx_rd' (rd_move' rfl) rfl rfl (wt_none' rfl) ?_
      refine sx_rd' (rd_move' rfl) rfl rfl (wt_none' rfl) ?_
      refine sx_rd' (rd_move' rfl) rfl rfl (wt_none' rfl) ?_
      obtain ⟨r9019, hr9019, hp⟩ := bind_some hp
      refine sx_ox' (ox_callg' (ent_inv' rfl rfl (inv_any2 inv43_At)) (r3_Mat_At_sim _ _ _ hr9019 : Go.Sx.Fn Tryd.prog 36 [(Vl (.pointer (some wa2))), (Vl (.int .i64 2)), (Vl (.int .i64 0))] [⟨.pointer (some wa2), [(Vl (.pointer (wa2_0).1))], 48, none⟩, (Rw Kf 22 (Vs wa2_0) r9016.1)] (fun x : Unit => (Vl (.float .f64 r9019.2))) (fun x => [⟨.pointer (some wa2), [(Vl (.pointer (wa2_0).1))], 48, none⟩, (Rw Kf 22 (Vs wa2_0) r9019.1)])) [2, 3] [0, 1] (by decide) (pick_cons rfl (pick_cons rfl pick_nil)) (pick_cons rfl (pick_cons rfl pick_nil)) (Hn := fun x : Unit => [⟨.pointer (some wa2), [(Vl (.pointer (wa2_0).1))], 48, none⟩, (Rw Kf 22 (Vs wa2_0) r9019.1), ⟨.pointer (some wa0), [(Vl (.pointer ((some q29, 9, 9)).1))], 48, none⟩, (Rw Kf 77 (Vs (some q29, 9, 9)) r9018)]) (fun _ => rfl) rfl rfl) (wt_none' rfl) fun ⟨⟩ => ?_
      obtain ⟨r9020, hr9020, hp⟩ := bind_some hp
      refine sx_ox' (ox_fop' (.inr (.inr (.inl rfl))) (fl_v rfl) (fl_v rfl) (Option.some.inj hr9020) rfl rfl) (wt_none' rfl) fun _ => ?_
      obtain ⟨u7, hu7, hp⟩ := bind_some hp
      refine tx_slot' 48 (y := (Vl (.float .f64 r9020))) rfl (imp_num (num_some hu7).2) ?_
      obtain ⟨r9021, hr9021, hp⟩ := bind_some hp
      refine sx_ox' (ox_callg' (ent_fn' Tryd.func37 isn37 rfl rfl) (r3_Mat_Set_sim _ _ _ _ hr9021 : Go.Sx.Fn Tryd.prog 37 [(Vl (.pointer (some wa0))), (Vl (.int .i64 2)), (Vl (.int .i64 0)), (Vl (.float .f64 r9020))] [⟨.pointer (some wa0), [(Vl (.pointer ((some q29, 9, 9)).1))], 48, none⟩, (Rw Kf 77 (Vs (some q29, 9, 9)) r9018)] (fun x : Unit => (Vl (.tuple #[]))) (fun x => [⟨.pointer (some wa0), [(Vl (.pointer ((some q29, 9, 9)).1))], 48, none⟩, (Rw Kf 77 (Vs (some q29, 9, 9)) r9021)])) [2, 3] [0, 1] (by decide) (pick_cons rfl (pick_cons rfl pick_nil)) (pick_cons rfl (pick_cons rfl pick_nil)) (Hn := fun x : Unit => [⟨.pointer (some wa0), [(Vl (.pointer ((some q29, 9, 9)).1))], 48, none⟩, (Rw Kf 77 (Vs (some q29, 9, 9)) r9021), ⟨.pointer (some wa2), [(Vl (.pointer (wa2_0).1))], 48, none⟩, (Rw Kf 22 (Vs wa2_0) r9019.1)]) (fun _ => rfl) rfl rfl) (wt_none' rfl) fun ⟨⟩ => ?_
      refine sx_nil' ?_
      show TX E K44 _
      refine tx_k' hK44 ?_
      refine cx_region' ?_
      refine sx_rd' (rd_move' rfl) rfl rfl (wt_none' rfl) ?_
      refine sx_rd' (rd_bin' rfl rfl eg_int (ru_addc (c := 1) (by decide))) rfl rfl (wt_none' rfl) ?_
      refine sx_rd' (rd_assign' rfl) rfl rfl (wt_none' rfl) ?_
      refine sx_nil' ?_
      show TX E (LoopIn _ _ _) _
      refine tx_round' ?_
      refine cx_seq' fun K45 hK45 => ?_
      refine cx_seq' fun K46 hK46 => ?_
      refine cx_region' ?_
      refine sx_rd' (rd_move' rfl) rfl rfl (wt_none' rfl) ?_
      refine sx_rd' (rd_bin' rfl rfl eg_int ru_lss) rfl rfl (wt_none' rfl) ?_
      refine sx_nil' ?_
      show TX E K46 _
      refine tx_k' hK46 ?_
      refine cx_cond_t' rfl rfl ?_
      refine cx_skip' ?_
      show TX E K45 _
      refine tx_k' hK45 ?_
      refine cx_seq' fun K47 hK47 => ?_
      refine cx_block' ?_
      refine cx_region' ?_
      refine sx_rd' (rd_move' rfl) rfl rfl (wt_none' rfl) ?_
      refine sx_rd' (rd_move' rfl) rfl rfl (wt_none' rfl) ?_
      refine sx_rd' (rd_move' rfl) rfl rfl (wt_none' rfl) ?_
      refine sx_rd' (rd_move' rfl) rfl rfl (wt_none' rfl) ?_
      refine sx_rd' (rd_move' rfl) rfl rfl (wt_none' rfl) ?_
      refine sx_rd' (rd_move' rfl) rfl rfl (wt_none' rfl) ?_
      refine sx_rd' (rd_move' rfl) rfl rfl (wt_none' rfl) ?_
      obtain ⟨r9022, hr9022, hp⟩ := bind_some hp
      refine sx_ox' (ox_callg' (ent_inv' rfl rfl (inv_any2 inv43_At)) (r3_Mat_At_sim _ _ _ hr9022 : Go.Sx.Fn Tryd.prog 36 [(Vl (.pointer (some wa2))), (Vl (.int .i64 2)), (Vl (.int .i64 1))] [⟨.pointer (some wa2), [(Vl (.pointer (wa2_0).1))], 48, none⟩, (Rw Kf 22 (Vs wa2_0) r9019.1)] (fun x : Unit => (Vl (.float .f64 r9022.2))) (fun x => [⟨.pointer (some wa2), [(Vl (.pointer (wa2_0).1))], 48, none⟩, (Rw Kf 22 (Vs wa2_0) r9022.1)])) [2, 3] [0, 1] (by decide) (pick_cons rfl (pick_cons rfl pick_nil)) (pick_cons rfl (pick_cons rfl pick_nil)) (Hn := fun x : Unit => [⟨.pointer (some wa2), [(Vl (.pointer (wa2_0).1))], 48, none⟩, (Rw Kf 22 (Vs wa2_0) r9022.1), ⟨.pointer (some wa0), [(Vl (.pointer ((some q29, 9, 9)).1))], 48, none⟩, (Rw Kf 77 (Vs (some q29, 9, 9)) r9021)]) (fun _ => rfl) rfl rfl) (wt_none' rfl) fun ⟨⟩ => ?_
      obtain ⟨r9023, hr9023, hp⟩ := bind_some hp
      refine sx_ox' (ox_fop' (.inr (.inr (.inl rfl))) (fl_v rfl) (fl_v rfl) (Option.some.inj hr9023) rfl rfl) (wt_none' rfl) fun _ => ?_
      obtain ⟨u8, hu8, hp⟩ := bind_some hp
      refine tx_slot' 48 (y := (Vl (.float .f64 r9023))) rfl (imp_num (num_some hu8).2) ?_
      obtain ⟨r9024, hr9024, hp⟩ := bind_some hp
      refine sx_ox' (ox_callg' (ent_fn' Tryd.func37 isn37 rfl rfl) (r3_Mat_Set_sim _ _ _ _ hr9024 : Go.Sx.Fn Tryd.prog 37 [(Vl (.pointer (some wa0))), (Vl (.int .i64 2)), (Vl (.int .i64 1)), (Vl (.float .f64 r9023))] [⟨.pointer (some wa0), [(Vl (.pointer ((some q29, 9, 9)).1))], 48, none⟩, (Rw Kf 77 (Vs (some q29, 9, 9)) r9021)] (fun x : Unit => (Vl (.tuple #[]))) (fun x => [⟨.pointer (some wa0), [(Vl (.pointer ((some q29, 9, 9)).1))], 48, none⟩, (Rw Kf 77 (Vs (some q29, 9, 9)) r9024)])) [2, 3] [0, 1] (by decide) (pick_cons rfl (pick_cons rfl pick_nil)) (pick_cons rfl (pick_cons rfl pick_nil)) (Hn := fun x : Unit => [⟨.pointer (some wa0), [(Vl (.pointer ((some q29, 9, 9)).1))], 48, none⟩, (Rw Kf 77 (Vs (some q29, 9, 9)) r9024), ⟨.pointer (some wa2), [(Vl (.pointer (wa2_0).1))], 48, none⟩, (Rw Kf 22 (Vs wa2_0) r9022.1)]) (fun _ => rfl) rfl rfl) (wt_none' rfl) fun ⟨⟩ => ?_
      refine sx_nil' ?_
      show TX E K47 _
      refine tx_k' hK47 ?_
      refine cx_region' ?_
      refine sx_rd' (rd_move' rfl) rfl rfl (wt_none' rfl) ?_
      refine sx_rd' (rd_bin' rfl rfl eg_int (ru_addc (c := 2) (by decide))) rfl rfl (wt_none' rfl) ?_
      refine sx_rd' (rd_assign' rfl) rfl rfl (wt_none' rfl) ?_
      refine sx_nil' ?_
      show TX E (LoopIn _ _ _) _
      refine tx_round' ?_
      refine cx_seq' fun K48 hK48 => ?_
      refine cx_seq' fun K49 hK49 => ?_
      refine cx_region' ?_
      refine sx_rd' (rd_move' rfl) rfl rfl (wt_none' rfl) ?_
      refine sx_rd' (rd_bin' rfl rfl eg_int ru_lss) rfl rfl (wt_none' rfl) ?_
      refine sx_nil' ?_
      show TX E K49 _
      refine tx_k' hK49 ?_
      refine cx_cond_t' rfl rfl ?_
      refine cx_skip' ?_
      show TX E K48 _
      refine tx_k' hK48 ?_
      refine cx_seq' fun K50 hK50 => ?_
      refine cx_block' ?_
      refine cx_region' ?_
      refine sx_rd' (rd_move' rfl) rfl rfl (wt_none' rfl) ?_
      refine sx_rd' (rd_move' rfl) rfl rfl (wt_none' rfl) ?_
      refine sx_rd' (rd_move' rfl) rfl rfl (wt_none' rfl) ?_
      refine sx_rd' (rd_move' rfl) rfl rfl (wt_none' rfl) ?_
      refine sx_rd' (rd_move' rfl) rfl rfl (wt_none' rfl) ?_
      refine sx_rd' (rd_move' rfl) rfl rfl (wt_none' rfl) ?_
      refine sx_rd' (rd_move' rfl) rfl rfl (wt_none' rfl) ?_
      obtain ⟨r9025, hr9025, hp⟩ := bind_some hp
      refine sx_ox' (ox_callg' (ent_inv' rfl rfl (inv_any2 inv43_At)) (r3_Mat_At_sim _ _ _ hr9025 : Go.Sx.Fn Tryd.prog 36 [(Vl (.pointer (some wa2))), (Vl (.int .i64 2)), (Vl (.int .i64 2))] [⟨.pointer (some wa2), [(Vl (.pointer (wa2_0).1))], 48, none⟩, (Rw Kf 22 (Vs wa2_0) r9022.1)] (fun x : Unit => (Vl (.float .f64 r9025.2))) (fun x => [⟨.pointer (some wa2), [(Vl (.pointer (wa2_0).1))], 48, none⟩, (Rw Kf 22 (Vs wa2_0) r9025.1)])) [2, 3] [0, 1] (by decide) (pick_cons rfl (pick_cons rfl pick_nil)) (pick_cons rfl (pick_cons rfl pick_nil)) (Hn := fun x : Unit => [⟨.pointer (some wa2), [(Vl (.pointer (wa2_0).1))], 48, none⟩, (Rw Kf 22 (Vs wa2_0) r9025.1), ⟨.pointer (some wa0), [(Vl (.pointer ((some q29, 9, 9)).1))], 48, none⟩, (Rw Kf 77 (Vs (some q29, 9, 9)) r9024)]) (fun _ => rfl) rfl rfl) (wt_none' rfl) fun ⟨⟩ => ?_
      obtain ⟨r9026, hr9026, hp⟩ := bind_some hp
      refine sx_ox' (ox_fop' (.inr (.inr (.inl rfl))) (fl_v rfl) (fl_v rfl) (Option.some.inj hr9026) rfl rfl) (wt_none' rfl) fun _ => ?_
      obtain ⟨u9, hu9, hp⟩ := bind_some hp
      refine tx_slot' 48 (y := (Vl (.float .f64 r9026))) rfl (imp_num (num_some hu9).2) ?_
      obtain ⟨r9027, hr9027, hp⟩ := bind_some hp
      refine sx_ox' (ox_callg' (ent_fn' Tryd.func37 isn37 rfl rfl) (r3_Mat_Set_sim _ _ _ _ hr9027 : Go.Sx.Fn Tryd.prog 37 [(Vl (.pointer (some wa0))), (Vl (.int .i64 2)), (Vl (.int .i64 2)), (Vl (.float .f64 r9026))] [⟨.pointer (some wa0), [(Vl (.pointer ((some q29, 9, 9)).1))], 48, none⟩, (Rw Kf 77 (Vs (some q29, 9, 9)) r9024)] (fun x : Unit => (Vl (.tuple #[]))) (fun x => [⟨.pointer (some wa0), [(Vl (.pointer ((some q29, 9, 9)).1))], 48, none⟩, (Rw Kf 77 (Vs (some q29, 9, 9)) r9027)])) [2, 3] [0, 1] (by decide) (pick_cons rfl (pick_cons rfl pick_nil)) (pick_cons rfl (pick_cons rfl pick_nil)) (Hn := fun x : Unit => [⟨.pointer (some wa0), [(Vl (.pointer ((some q29, 9, 9)).1))], 48, none⟩, (Rw Kf 77 (Vs (some q29, 9, 9)) r9027), ⟨.pointer (some wa2), [(Vl (.pointer (wa2_0).1))], 48, none⟩, (Rw Kf 22 (Vs wa2_0) r9025.1)]) (fun _ => rfl) rfl rfl) (wt_none' rfl) fun ⟨⟩ => ?_
      refine sx_nil' ?_
      show TX E K50 _
      refine tx_k' hK50 ?_
      refine cx_region' ?_
      refine sx_rd' (rd_move' rfl) rfl rfl (wt_none' rfl) ?_
      refine sx_rd' (rd_bin' rfl rfl eg_int (ru_addc (c := 3) (by decide))) rfl rfl (wt_none' rfl) ?_
      refine sx_rd' (rd_assign' rfl) rfl rfl (wt_none' rfl) ?_
      refine sx_nil' ?_
      show TX E (LoopIn _ _ _) _
      refine tx_round' ?_
      refine cx_seq' fun K51 hK51 => ?_
      refine cx_seq' fun K52 hK52 => ?_
      refine cx_region' ?_
      refine sx_rd' (rd_move' rfl) rfl rfl (wt_none' rfl) ?_
      refine sx_rd' (rd_bin' rfl rfl eg_int ru_lss) rfl rfl (wt_none' rfl) ?_
      refine sx_nil' ?_
      show TX E K52 _
      refine tx_k' hK52 ?_
      refine cx_cond_f' rfl rfl ?_
      refine cx_exit' ?_
      show TX E K40 _
      refine tx_k' hK40 ?_
      refine cx_region' ?_
      refine sx_rd' (rd_move' rfl) rfl rfl (wt_none' rfl) ?_
      refine sx_rd' (rd_bin' rfl rfl eg_int (ru_addc (c := 3) (by decide))) rfl rfl (wt_none' rfl) ?_
      refine sx_rd' (rd_assign' rfl) rfl rfl (wt_none' rfl) ?_
      refine sx_nil' ?_
      show TX E (LoopIn _ _ _) _
      refine tx_round' ?_
      refine cx_seq' fun K53 hK53 => ?_
      refine cx_seq' fun K54 hK54 => ?_
      refine cx_region' ?_
      refine sx_rd' (rd_move' rfl) rfl rfl (wt_none' rfl) ?_
      refine sx_rd' (rd_bin' rfl rfl eg_int ru_lss) rfl rfl (wt_none' rfl) ?_
      refine sx_nil' ?_
      show TX E K54 _
      refine tx_k' hK54 ?_
      refine cx_cond_f' rfl rfl ?_
      refine cx_exit' ?_
      replace hp := Option.some.inj hp
      subst hp
      refine tx_pick' (L' := []) (H' := [⟨.pointer (some wa0), [(Vl (.pointer ((some q29, 9, 9)).1))], 48, none⟩, (Rw Kf 77 (Vs (some q29, 9, 9)) r9027), ⟨.pointer (some wa2), [(Vl (.pointer (wa2_0).1))], 48, none⟩, (Rw Kf 22 (Vs wa2_0) r9025.1)]) [0, 1, 2, 3] sub_nil (by decide) (pick_cons rfl (pick_cons rfl (pick_cons rfl (pick_cons rfl pick_nil)))) ?_
      exact tx_end0' Tryd.results24 rfl q29 rfl (List.Sublist.refl _)
  · intro K4 hK4
    rcases br_cases hp with ⟨h1, hp⟩ | ⟨h1, hp⟩
    · refine sx_skip' rfl rfl (wt_is' (wt_guard' rfl rfl rfl) (beq_tf h1)) ?_
      refine sx_skip' rfl rfl (wt_is' (wt_guard' rfl rfl rfl) (beq_tf h1)) ?_
      refine sx_rd' (rd_pick_true' rfl h1 rfl) rfl rfl (wt_none' rfl) ?_
      refine sx_nil' ?_
      show TX E K4 _
      exact tx_pick' [2, 0, 1] (sub_cons rfl (sub_cons rfl (sub_cons rfl (sub_cons rfl sub_nil)))) (by decide) (pick_cons rfl (pick_cons rfl (pick_cons rfl pick_nil))) (hK4 true hp)
    · refine sx_rd' (rd_move' rfl) rfl rfl (wt_is' (wt_guard' rfl rfl rfl) (beq_ff h1)) ?_
      refine sx_rd' (rd_bin' rfl rfl eg_int ru_neq) rfl rfl (wt_is' (wt_guard' rfl rfl rfl) (beq_ff h1)) ?_
      refine sx_rd' (rd_pick_false' rfl h1 rfl) rfl rfl (wt_none' rfl) ?_
      refine sx_nil' ?_
      show TX E K4 _
      exact tx_pick' [2, 0, 1] (sub_cons rfl (sub_cons rfl (sub_cons rfl (sub_cons rfl sub_nil)))) (by decide) (pick_cons rfl (pick_cons rfl (pick_cons rfl pick_nil))) (hK4 (!decide (r12.2 = 3)) hp)

end Go.Proofs.YtnhbmhdjkibjaaaDoor
