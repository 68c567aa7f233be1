/-
  Plain functions for the Go functions that this law reaches, and that each call does what its plain function says. Printed by a program of ours.
-/
import Derived.Test.YtnhbmhdjkibjaaaDoorProg
import Derived.Test.YtnhbmhdjkibjaaaDoorSxZ
namespace Go.Proofs.YtnhbmhdjkibjaaaDoor
open Go.Sx
set_option linter.unusedVariables false
set_option maxRecDepth 100000

theorem info24 : (Tryd.prog.info? 24).map (fun i => (i.zero, i.size, i.bytes)) = some (some (.agg #[.float .f64 0, .float .f64 0, .float .f64 0, .float .f64 0, .float .f64 0, .float .f64 0, .float .f64 0, .float .f64 0, .float .f64 0]), 9, 72) := by kernel_rfl
theorem agg24 : Agg Tryd.prog 24 9 := ⟨⟨_, Tryd.underlying24, .inr ⟨_, _, rfl⟩⟩, info_size info24⟩
theorem isn6 : (Tryd.f6.name == "runtime.NumGoroutine") = false := by kernel_rfl
theorem info22 : (Tryd.prog.info? 22).map (fun i => (i.zero, i.size, i.bytes)) = some (some (.float .f64 0), 1, 8) := by kernel_rfl
theorem isn15 : (Tryd.f15.name == "runtime.NumGoroutine") = false := by kernel_rfl
theorem info40 : (Tryd.prog.info? 40).map (fun i => (i.zero, i.size, i.bytes)) = some (some (.slice none 0 0), 1, 24) := by kernel_rfl
theorem flat40 : Flat Tryd.prog 40 := ⟨_, Tryd.underlying40, fun _ h => (nomatch h), fun _ _ h => (nomatch h)⟩
theorem flat22 : Flat Tryd.prog 22 := ⟨_, Tryd.underlying22, fun _ h => (nomatch h), fun _ _ h => (nomatch h)⟩
theorem isn33 : (Tryd.f33.name == "runtime.NumGoroutine") = false := by kernel_rfl
theorem extf41 : ∀ {x r : Nat}, gint .zero x = r → ∀ y, (y = x ∨ (isn x = true ∧ isn y = true)) → RunsF Tryd.prog (callFunc 41 #[.float .f64 y]) (Fl r) := fun hz y hy => hz ▸ runs_ext (e := Extern.MathFloor.toIntegral "math.archTrunc" .zero) Tryd.func41 (by kernel_rfl) (by kernel_rfl) (by kernel_rfl) (by kernel_rfl) (gint_runs hy)
theorem isn7 : (Tryd.f7.name == "runtime.NumGoroutine") = false := by kernel_rfl
theorem isn16 : (Tryd.f16.name == "runtime.NumGoroutine") = false := by kernel_rfl
theorem isn8 : (Tryd.f8.name == "runtime.NumGoroutine") = false := by kernel_rfl
theorem isn17 : (Tryd.f17.name == "runtime.NumGoroutine") = false := by kernel_rfl
theorem isn35 : (Tryd.f35.name == "runtime.NumGoroutine") = false := by kernel_rfl
theorem isn34 : (Tryd.f34.name == "runtime.NumGoroutine") = false := by kernel_rfl
theorem isn43 : (Tryd.f43.name == "runtime.NumGoroutine") = false := by kernel_rfl
theorem places48 : placesOf Tryd.prog [{ name := "data", type := 46, offset := 0, embedded := false, tag := "", pkgPath := "pub-orthodrome/pub/gonum/spatial/r3", byteOffset := 0 }] = [(0, 1)] := by kernel_rfl
theorem has48 : ∀ f ∈ ([{ name := "data", type := 46, offset := 0, embedded := false, tag := "", pkgPath := "pub-orthodrome/pub/gonum/spatial/r3", byteOffset := 0 }] : List Field), (Tryd.prog.info? f.type).isSome = true := fun f hf => all_of (p := fun f => (Tryd.prog.info? f.type).isSome) (by kernel_rfl) f hf
theorem info48 : (Tryd.prog.info? 48).map (fun i => (i.zero, i.size, i.bytes)) = some (some (.agg #[.pointer none]), 1, 8) := by kernel_rfl
theorem isn18 : (Tryd.f18.name == "runtime.NumGoroutine") = false := by kernel_rfl
theorem isn36 : (Tryd.f36.name == "runtime.NumGoroutine") = false := by kernel_rfl
theorem info46 : (Tryd.prog.info? 46).map (fun i => (i.zero, i.size, i.bytes)) = some (some (.pointer none), 1, 8) := by kernel_rfl
theorem flat46 : Flat Tryd.prog 46 := ⟨_, Tryd.underlying46, fun _ h => (nomatch h), fun _ _ h => (nomatch h)⟩
theorem nil_eql46_ptr : ∀ (q : Addr) (w : World), (binOp .eql 46 (.pointer (some q)) (.pointer none)).run Tryd.prog w = .ok (.bool false) w := fun _ _ => by kernel_rfl
theorem isn9 : (Tryd.f9.name == "runtime.NumGoroutine") = false := by kernel_rfl
theorem isn20 : (Tryd.f20.name == "runtime.NumGoroutine") = false := by kernel_rfl
theorem places80 : placesOf Tryd.prog [{ name := "Matrix", type := 51, offset := 0, embedded := false, tag := "", pkgPath := "", byteOffset := 0 }] = [(0, 1)] := by kernel_rfl
theorem has80 : ∀ f ∈ ([{ name := "Matrix", type := 51, offset := 0, embedded := false, tag := "", pkgPath := "", byteOffset := 0 }] : List Field), (Tryd.prog.info? f.type).isSome = true := fun f hf => all_of (p := fun f => (Tryd.prog.info? f.type).isSome) (by kernel_rfl) f hf
theorem info80 : (Tryd.prog.info? 80).map (fun i => (i.zero, i.size, i.bytes)) = some (some (.agg #[.nilIface]), 1, 16) := by kernel_rfl
theorem isn19 : (Tryd.f19.name == "runtime.NumGoroutine") = false := by kernel_rfl
theorem inv80_Dims : ∀ (v : Value) w', (callMethod (.iface 80 v) "Dims" #[]).run Tryd.prog w' = .ok (.enter 78 #[v]) w' := fun _ _ => by kernel_rfl
theorem info51 : (Tryd.prog.info? 51).map (fun i => (i.zero, i.size, i.bytes)) = some (some (.nilIface), 1, 16) := by kernel_rfl
theorem flat51 : Flat Tryd.prog 51 := ⟨_, Tryd.underlying51, fun _ h => (nomatch h), fun _ _ h => (nomatch h)⟩
theorem inv43_Dims : ∀ (v : Value) w', (callMethod (.iface 43 v) "Dims" #[]).run Tryd.prog w' = .ok (.enter 69 #[v]) w' := fun _ _ => by kernel_rfl
theorem nil_eql46_nilptr : ∀ (w : World), (binOp .eql 46 (.pointer none) (.pointer none)).run Tryd.prog w = .ok (.bool true) w := fun _ => by kernel_rfl
theorem info77 : (Tryd.prog.info? 77).map (fun i => (i.zero, i.size, i.bytes)) = some (some (.agg #[.float .f64 0, .float .f64 0, .float .f64 0, .float .f64 0, .float .f64 0, .float .f64 0, .float .f64 0, .float .f64 0, .float .f64 0]), 9, 72) := by kernel_rfl
theorem inv80_At : ∀ (v : Value) (a : Value) (b : Value) w', (callMethod (.iface 80 v) "At" #[a, b]).run Tryd.prog w' = .ok (.enter 77 #[v, a, b]) w' := fun _ _ _ _ => by kernel_rfl
theorem inv43_At : ∀ (v : Value) (a : Value) (b : Value) w', (callMethod (.iface 43 v) "At" #[a, b]).run Tryd.prog w' = .ok (.enter 36 #[v, a, b]) w' := fun _ _ _ _ => by kernel_rfl
theorem isn37 : (Tryd.f37.name == "runtime.NumGoroutine") = false := by kernel_rfl
theorem isn21 : (Tryd.f21.name == "runtime.NumGoroutine") = false := by kernel_rfl
def KT24 : Kd (Nat × Nat × Nat × Nat × Nat × Nat × Nat × Nat × Nat) := ⟨9, fun x => [(Vl (.float .f64 x.1)), (Vl (.float .f64 x.2.1)), (Vl (.float .f64 x.2.2.1)), (Vl (.float .f64 x.2.2.2.1)), (Vl (.float .f64 x.2.2.2.2.1)), (Vl (.float .f64 x.2.2.2.2.2.1)), (Vl (.float .f64 x.2.2.2.2.2.2.1)), (Vl (.float .f64 x.2.2.2.2.2.2.2.1)), (Vl (.float .f64 x.2.2.2.2.2.2.2.2))], fun _ => rfl⟩
def vec9 {α : Type} : List α → Option (α × α × α × α × α × α × α × α × α)
  | [x0, x1, x2, x3, x4, x5, x6, x7, x8] => some (x0, x1, x2, x3, x4, x5, x6, x7, x8)
  | _ => none
theorem vec9_some {α : Type} {xs : List α} {r : α × α × α × α × α × α × α × α × α} (h : vec9 xs = some r) : xs = [r.1, r.2.1, r.2.2.1, r.2.2.2.1, r.2.2.2.2.1, r.2.2.2.2.2.1, r.2.2.2.2.2.2.1, r.2.2.2.2.2.2.2.1, r.2.2.2.2.2.2.2.2] := by
  unfold vec9 at h
  split at h
  · cases h; rfl
  · cases h

def math_Trunc (k : Nat) (a0 : Nat) : Option (Nat) :=
  (some (gint .zero a0)) >>= fun r4 =>
  some r4

theorem math_Trunc_sim {k : Nat}  (a0 : Nat) {out : Nat} (hp : math_Trunc k a0 = some out) : Go.Sx.Fn Tryd.prog 33 [(Vl (.float .f64 a0))] [] (fun w : Unit => (Fl out)) (fun w => []) := by
  unfold math_Trunc at hp
  refine fn_of Tryd.func33 rfl Tryd.ntmps33 rfl fun E hM => ?_
  refine cx_seq' fun K1 hK1 => ?_
  refine cx_region' ?_
  refine sx_rd' (rd_assign' rfl) rfl rfl (wt_none' rfl) ?_
  refine sx_nil' ?_
  show TX E K1 _
  refine tx_k' hK1 ?_
  refine cx_seq' fun K2 hK2 => ?_
  refine cx_cond_t' rfl rfl ?_
  refine cx_seq' fun K3 hK3 => ?_
  refine cx_region' ?_
  refine sx_rd' (rd_move' rfl) rfl rfl (wt_none' rfl) ?_
  obtain ⟨r4, hr4, hp⟩ := bind_some hp
  refine sx_ox' (ox_extf' rfl (fl_v rfl) Tryd.func41 (extf41 (Option.some.inj hr4)) rfl rfl) (wt_none' rfl) fun _ => ?_
  refine sx_rd' (rd_assign' rfl) rfl rfl (wt_none' rfl) ?_
  refine sx_nil' ?_
  show TX E K3 _
  refine tx_k' hK3 ?_
  refine cx_retc' ?_
  replace hp := Option.some.inj hp
  subst hp
  refine tx_pick' (L' := [(2, (Fl r4))]) (H' := []) [] (sub_cons rfl sub_nil) (by decide) pick_nil ?_
  exact tx_ret1' Tryd.results33 rfl () (rv_tmp' rfl) (List.Sublist.refl _)

def spec_Grid_j8 (k : Nat) (rec2 : Int → Option (Unit ⊕ Unit)) (x10 : Int) (x9 : Bool) : Option (Unit ⊕ Unit) :=
  br x9
    (some (.inl ()))
    (rec2 (iadd .i64 x10 1))
def spec_Grid_j7 (k : Nat) (rec2 : Int → Option (Unit ⊕ Unit)) (x10 : Int) (r25 : Nat) (x8 : Bool) : Option (Unit ⊕ Unit) :=
  br (!x8)
    (spec_Grid_j8 k rec2 x10 true)
    ((math_Trunc k r25) >>= fun r40 =>
    spec_Grid_j8 k rec2 x10 (fne r25 r40))
def spec_Grid_l2s (r15 : List Nat) (a2 : Nat) (k : Nat) (rec2 : Int → Option (Unit ⊕ Unit)) (x10 : Int) : Option (Unit ⊕ Unit) :=
  br (decide (x10 < (r15.length : Int)))
    ((idx r15 x10) >>= fun r25 =>
    br (fge r25 (fneg a2))
      (spec_Grid_j7 k rec2 x10 r25 (fle r25 a2))
      (spec_Grid_j7 k rec2 x10 r25 false))
    (some (.inr ()))
def spec_Grid_l2 (r15 : List Nat) (a2 : Nat) : Nat → Int → Option (Unit ⊕ Unit)
  | 0, _ => none
  | k + 1, v => spec_Grid_l2s r15 a2 k (spec_Grid_l2 r15 a2 k) v
def spec_Grid_l3s (a0 : List (List Nat)) (a1 : Int) (a2 : Nat) (k : Nat) (rec3 : Int → Option (Unit ⊕ Unit)) (x11 : Int) : Option (Unit ⊕ Unit) :=
  br (decide (x11 < (a0.length : Int)))
    ((idx a0 x11) >>= fun r15 =>
    br (!decide ((r15.length : Int) = a1))
      (some (.inl ()))
      ((spec_Grid_l2 r15 a2 k 0) >>= fun y2 => match y2 with
        | (.inl v14) =>
          (some (.inl ()))
        | (.inr v15) =>
          (rec3 (iadd .i64 x11 1))))
    (some (.inr ()))
def spec_Grid_l3 (a0 : List (List Nat)) (a1 : Int) (a2 : Nat) : Nat → Int → Option (Unit ⊕ Unit)
  | 0, _ => none
  | k + 1, v => spec_Grid_l3s a0 a1 a2 k (spec_Grid_l3 a0 a1 a2 k) v
def spec_Grid (k : Nat) (a0 : List (List Nat)) (a1 : Int) (a2 : Nat) : Option (Bool) :=
  (spec_Grid_l3 a0 a1 a2 k 0) >>= fun y3 => match y3 with
    | (.inl v16) =>
      (some false)
    | (.inr v17) =>
      (some (decide (0 < a1)))

theorem spec_Grid_sim {k : Nat}  (a0 : List (List Nat)) (a1 : Int) (a2 : Nat) {out : Bool} (hp : spec_Grid k a0 a1 a2 = some out) : Go.Sx.Fn Tryd.prog 15 [(Sl (Kl Kf) a0), (Vl (.int .i64 a1)), (Vl (.float .f64 a2))] [] (fun w : Unit => (Vl (.bool out))) (fun w => []) := by
  unfold spec_Grid at hp
  refine fn_of Tryd.func15 rfl Tryd.ntmps15 rfl fun E hM => ?_
  refine cx_seq' fun K1 hK1 => ?_
  refine cx_region' ?_
  refine sx_rd' (rd_assign' rfl) rfl rfl (wt_none' rfl) ?_
  refine sx_nil' ?_
  show TX E K1 _
  refine tx_k' hK1 ?_
  refine cx_seq' fun K2 hK2 => ?_
  refine cx_seq' fun K3 hK3 => ?_
  refine cx_region' ?_
  refine sx_rd' (rd_move' rfl) rfl rfl (wt_none' rfl) ?_
  refine sx_rd' (rd_len' rfl Tryd.underlying41) rfl rfl (wt_none' rfl) ?_
  refine sx_rd' (rd_move' rfl) rfl rfl (wt_none' rfl) ?_
  refine sx_nil' ?_
  show TX E K3 _
  refine tx_k' hK3 ?_
  refine cx_block' ?_
  obtain ⟨y3, hy3, hp⟩ := bind_some hp
  refine cx_loopg' (F := spec_Grid_l3 a0 a1 a2) (G := fun k R v => spec_Grid_l3s a0 a1 a2 k R v) (x := 0) (gh := ()) (fun (v8 : Int) (w8 : Unit) => (⟨47, [], [(1, (Vl (.int .i64 a1))), (2, (Vl (.float .f64 a2))), (11, (Sl (Kl Kf) a0)), (12, (Vl (.int .i64 (a0.length : Int)))), (13, (Vl (.int .i64 v8)))], []⟩ : St)) (fun (y : Unit ⊕ Unit) => match y with | (.inl v16) => Zg E Exit.ret (fun (w16 : Unit) => (⟨47, [], [(6, (Vl (.bool false)))], []⟩ : St)) | (.inr v17) => Zg E (Exit.exit 0) (fun (w17 : Unit) => (⟨47, [], [(1, (Vl (.int .i64 a1)))], []⟩ : St))) (fun _ => rfl) (fun _ _ => rfl) ?_ hy3 (tx_to' rfl [] (sub_cons rfl (sub_cons rfl (sub_cons rfl (sub_cons rfl (sub_cons rfl sub_nil))))) (by decide) pick_nil) ?_
  · clear hp hy3
    clear y3
    intro k rec3 KY3 ih3
    rintro x11 ⟨⟩ y3 hp
    replace hp : spec_Grid_l3s a0 a1 a2 k rec3 x11 = some y3 := hp
    unfold spec_Grid_l3s at hp
    refine cx_seq' fun K28 hK28 => ?_
    refine cx_region' ?_
    refine sx_rd' (rd_bin' rfl rfl eg_int ru_lss) rfl rfl (wt_none' rfl) ?_
    refine sx_nil' ?_
    show TX E K28 _
    refine tx_k' hK28 ?_
    refine cx_seq' fun K29 hK29 => ?_
    refine cx_cond' rfl (fun h13 => ?_) (fun h13 => ?_)
    · replace hp := (br_t h13).symm.trans hp
      refine cx_skip' ?_
      show TX E K29 _
      refine tx_k' hK29 ?_
      refine cx_seq' fun K30 hK30 => ?_
      refine cx_block' ?_
      refine cx_seq' fun K31 hK31 => ?_
      refine cx_region' ?_
      obtain ⟨r15, hr15, hp⟩ := bind_some hp
      refine sx_rd' (rd_at' (K := (Kl Kf)) rfl rfl hr15 Tryd.underlying41 info40) rfl rfl (wt_none' rfl) ?_
      refine sx_rd' (rd_load_pt' rfl rfl flat40) rfl rfl (wt_none' rfl) ?_
      refine sx_rd' (rd_assign' rfl) rfl rfl (wt_none' rfl) ?_
      refine sx_nil' ?_
      show TX E K31 _
      refine tx_k' hK31 ?_
      refine cx_seq' fun K32 hK32 => ?_
      refine cx_seq' fun K33 hK33 => ?_
      refine cx_region' ?_
      refine sx_rd' (rd_move' rfl) rfl rfl (wt_none' rfl) ?_
      refine sx_rd' (rd_len' rfl Tryd.underlying40) rfl rfl (wt_none' rfl) ?_
      refine sx_rd' (rd_move' rfl) rfl rfl (wt_none' rfl) ?_
      refine sx_rd' (rd_bin' rfl rfl eg_int ru_neq) rfl rfl (wt_none' rfl) ?_
      refine sx_nil' ?_
      show TX E K33 _
      refine tx_k' hK33 ?_
      refine cx_cond' rfl (fun h14 => ?_) (fun h14 => ?_)
      · replace hp := (br_t h14).symm.trans hp
        refine cx_seq' fun K34 hK34 => ?_
        refine cx_region' ?_
        refine sx_rd' (rd_assign' rfl) rfl rfl (wt_none' rfl) ?_
        refine sx_nil' ?_
        show TX E K34 _
        refine tx_k' hK34 ?_
        refine cx_retc' ?_
        replace hp := Option.some.inj hp
        subst hp
        show TX E (Zg E Exit.ret _ Exit.ret) _
        exact tx_zend' () rfl [] (sub_cons rfl sub_nil) (by decide) pick_nil
      · replace hp := (br_f h14).symm.trans hp
        refine cx_skip' ?_
        show TX E K32 _
        refine tx_k' hK32 ?_
        refine cx_seq' fun K35 hK35 => ?_
        refine cx_region' ?_
        refine sx_rd' (rd_move' rfl) rfl rfl (wt_none' rfl) ?_
        refine sx_rd' (rd_len' rfl Tryd.underlying40) rfl rfl (wt_none' rfl) ?_
        refine sx_rd' (rd_move' rfl) rfl rfl (wt_none' rfl) ?_
        refine sx_nil' ?_
        show TX E K35 _
        refine tx_k' hK35 ?_
        refine cx_block' ?_
        obtain ⟨y2, hy2, hp⟩ := bind_some hp
        refine cx_loopg' (F := spec_Grid_l2 r15 a2) (G := fun k R v => spec_Grid_l2s r15 a2 k R v) (x := 0) (gh := ()) (fun (v11 : Int) (w11 : Unit) => (⟨47, [], [(1, (Vl (.int .i64 a1))), (2, (Vl (.float .f64 a2))), (11, (Sl (Kl Kf) a0)), (12, (Vl (.int .i64 (a0.length : Int)))), (13, (Vl (.int .i64 x11))), (21, (Sl Kf r15)), (22, (Vl (.int .i64 (r15.length : Int)))), (23, (Vl (.int .i64 v11)))], []⟩ : St)) (fun (y : Unit ⊕ Unit) => match y with | (.inl v14) => Zg E Exit.ret (fun (w14 : Unit) => (⟨47, [], [(6, (Vl (.bool false)))], []⟩ : St)) | (.inr v15) => Zg E (Exit.exit 2) (fun (w15 : Unit) => (⟨47, [], [(1, (Vl (.int .i64 a1))), (2, (Vl (.float .f64 a2))), (11, (Sl (Kl Kf) a0)), (12, (Vl (.int .i64 (a0.length : Int)))), (13, (Vl (.int .i64 x11)))], []⟩ : St))) (fun _ => rfl) (fun _ _ => rfl) ?_ hy2 (tx_to' rfl [] (sub_cons rfl (sub_cons rfl (sub_cons rfl (sub_cons rfl (sub_cons rfl (sub_cons rfl (sub_cons rfl (sub_cons rfl sub_nil)))))))) (by decide) pick_nil) ?_
        · clear hp hy2
          clear y2
          intro k rec2 KY2 ih2
          rintro x10 ⟨⟩ y2 hp
          replace hp : spec_Grid_l2s r15 a2 k rec2 x10 = some y2 := hp
          unfold spec_Grid_l2s at hp
          refine cx_seq' fun K44 hK44 => ?_
          refine cx_region' ?_
          refine sx_rd' (rd_bin' rfl rfl eg_int ru_lss) rfl rfl (wt_none' rfl) ?_
          refine sx_nil' ?_
          show TX E K44 _
          refine tx_k' hK44 ?_
          refine cx_seq' fun K45 hK45 => ?_
          refine cx_cond' rfl (fun h20 => ?_) (fun h20 => ?_)
          · replace hp := (br_t h20).symm.trans hp
            refine cx_skip' ?_
            show TX E K45 _
            refine tx_k' hK45 ?_
            refine cx_seq' fun K46 hK46 => ?_
            refine cx_block' ?_
            refine cx_seq' fun K47 hK47 => ?_
            refine cx_region' ?_
            obtain ⟨r25, hr25, hp⟩ := bind_some hp
            refine sx_rd' (rd_at' (K := Kf) rfl rfl hr25 Tryd.underlying40 info22) rfl rfl (wt_none' rfl) ?_
            refine sx_rd' (rd_load_pt' rfl rfl flat22) rfl rfl (wt_none' rfl) ?_
            refine sx_rd' (rd_assign' rfl) rfl rfl (wt_none' rfl) ?_
            refine sx_nil' ?_
            show TX E K47 _
            refine tx_k' hK47 ?_
            refine cx_seq' fun K48 hK48 => ?_
            refine cx_region' ?_
            refine sx_rd' (rd_move' rfl) rfl rfl (wt_none' rfl) ?_
            refine sx_rd' (rd_move' rfl) rfl rfl (wt_none' rfl) ?_
            refine sx_rd' (rd_un' rfl ru_fneg) rfl rfl (wt_none' rfl) ?_
            refine sx_rd' (rd_bin' rfl rfl eg_flt ru_fge) rfl rfl (wt_none' rfl) ?_
            refine sx_rd' (rd_move' rfl) rfl rfl (wt_none' rfl) ?_
            refine sx_cutn' 4 (fun (v12 : Bool) => (⟨47, [], [(1, (Vl (.int .i64 a1))), (2, (Vl (.float .f64 a2))), (10, (Vl (.float .f64 r25))), (11, (Sl (Kl Kf) a0)), (12, (Vl (.int .i64 (a0.length : Int)))), (13, (Vl (.int .i64 x11))), (21, (Sl Kf r15)), (22, (Vl (.int .i64 (r15.length : Int)))), (23, (Vl (.int .i64 x10))), (35, (Vl (.bool v12)))], []⟩ : St)) (fun (v12 : Bool) => spec_Grid_j7 k rec2 x10 r25 v12 = some y2) ?_ ?_
            · rintro x8 hp
              replace hp : spec_Grid_j7 k rec2 x10 r25 x8 = some y2 := hp
              unfold spec_Grid_j7 at hp
              refine sx_rd' (rd_un' rfl ru_not) rfl rfl (wt_none' rfl) ?_
              refine sx_rd' (rd_move' rfl) rfl rfl (wt_none' rfl) ?_
              refine sx_cutn' 5 (fun (v13 : Bool) => (⟨47, [], [(1, (Vl (.int .i64 a1))), (2, (Vl (.float .f64 a2))), (11, (Sl (Kl Kf) a0)), (12, (Vl (.int .i64 (a0.length : Int)))), (13, (Vl (.int .i64 x11))), (21, (Sl Kf r15)), (22, (Vl (.int .i64 (r15.length : Int)))), (23, (Vl (.int .i64 x10))), (42, (Vl (.bool v13)))], []⟩ : St)) (fun (v13 : Bool) => spec_Grid_j8 k rec2 x10 v13 = some y2) ?_ ?_
              · rintro x9 hp
                replace hp : spec_Grid_j8 k rec2 x10 x9 = some y2 := hp
                unfold spec_Grid_j8 at hp
                refine sx_nil' ?_
                show TX E K48 _
                refine tx_k' hK48 ?_
                refine cx_cond' rfl (fun h23 => ?_) (fun h23 => ?_)
                · replace hp := (br_t h23).symm.trans hp
                  refine cx_seq' fun K51 hK51 => ?_
                  refine cx_region' ?_
                  refine sx_rd' (rd_assign' rfl) rfl rfl (wt_none' rfl) ?_
                  refine sx_nil' ?_
                  show TX E K51 _
                  refine tx_k' hK51 ?_
                  refine cx_retc' ?_
                  replace hp := Option.some.inj hp
                  subst hp
                  show TX E (Zg E Exit.ret _ Exit.ret) _
                  exact tx_zend' () rfl [] (sub_cons rfl sub_nil) (by decide) pick_nil
                · replace hp := (br_f h23).symm.trans hp
                  refine cx_skip' ?_
                  show TX E K46 _
                  refine tx_k' hK46 ?_
                  refine cx_region' ?_
                  refine sx_rd' (rd_bin' rfl rfl eg_int ru_add) rfl rfl (wt_none' rfl) ?_
                  refine sx_rd' (rd_move' rfl) rfl rfl (wt_none' rfl) ?_
                  refine sx_nil' ?_
                  show TX E (KY2 _) _
                  exact tx_pick' [] (sub_cons rfl (sub_cons rfl (sub_cons rfl (sub_cons rfl (sub_cons rfl (sub_cons rfl (sub_cons rfl (sub_cons rfl sub_nil)))))))) (by decide) pick_nil (ih2 (iadd .i64 x10 1) () _ hp)
              · intro K50 hK50
                rcases br_cases hp with ⟨h22, hp⟩ | ⟨h22, hp⟩
                · refine sx_skip' rfl rfl (wt_is' (wt_guard' rfl rfl rfl) (beq_tf h22)) ?_
                  refine sx_skip' rfl rfl (wt_is' (wt_guard' rfl rfl rfl) (beq_tf h22)) ?_
                  refine sx_skip' rfl rfl (wt_is' (wt_guard' rfl rfl rfl) (beq_tf h22)) ?_
                  refine sx_skip' rfl rfl (wt_is' (wt_guard' rfl rfl rfl) (beq_tf h22)) ?_
                  refine sx_rd' (rd_pick_true' rfl h22 rfl) rfl rfl (wt_none' rfl) ?_
                  refine sx_nil' ?_
                  show TX E K50 _
                  exact tx_pick' [] (sub_cons rfl (sub_cons rfl (sub_cons rfl (sub_cons rfl (sub_cons rfl (sub_cons rfl (sub_cons rfl (sub_cons rfl (sub_cons rfl sub_nil))))))))) (by decide) pick_nil (hK50 true hp)
                · refine sx_rd' (rd_move' rfl) rfl rfl (wt_is' (wt_guard' rfl rfl rfl) (beq_ff h22)) ?_
                  refine sx_rd' (rd_move' rfl) rfl rfl (wt_is' (wt_guard' rfl rfl rfl) (beq_ff h22)) ?_
                  obtain ⟨r40, hr40, hp⟩ := bind_some hp
                  refine sx_ox' (ox_calln' (ent_fn' Tryd.func33 isn33 rfl rfl) (math_Trunc_sim _ hr40 : Go.Sx.Fn Tryd.prog 33 [(Vl (.float .f64 r25))] [] (fun x : Unit => (Fl r40)) (fun x => [])) (Hn := fun x : Unit => []) (fun _ => rfl) rfl rfl) (wt_is' (wt_guard' rfl rfl rfl) (beq_ff h22)) fun ⟨⟩ => ?_
                  refine sx_rd' (rd_fcmp' (fl_v rfl) (fl_f rfl) rfl) rfl rfl (wt_is' (wt_guard' rfl rfl rfl) (beq_ff h22)) ?_
                  refine sx_rd' (rd_pick_false' rfl h22 rfl) rfl rfl (wt_none' rfl) ?_
                  refine sx_nil' ?_
                  show TX E K50 _
                  exact tx_pick' [] (sub_cons rfl (sub_cons rfl (sub_cons rfl (sub_cons rfl (sub_cons rfl (sub_cons rfl (sub_cons rfl (sub_cons rfl (sub_cons rfl sub_nil))))))))) (by decide) pick_nil (hK50 (fne r25 r40) hp)
            · intro K49 hK49
              rcases br_cases hp with ⟨h21, hp⟩ | ⟨h21, hp⟩
              · refine sx_rd' (rd_move' rfl) rfl rfl (wt_is' (wt_guard' rfl rfl rfl) (beq_tt h21)) ?_
                refine sx_rd' (rd_move' rfl) rfl rfl (wt_is' (wt_guard' rfl rfl rfl) (beq_tt h21)) ?_
                refine sx_rd' (rd_bin' rfl rfl eg_flt ru_fle) rfl rfl (wt_is' (wt_guard' rfl rfl rfl) (beq_tt h21)) ?_
                refine sx_rd' (rd_pick_true' rfl h21 rfl) rfl rfl (wt_none' rfl) ?_
                refine sx_nil' ?_
                show TX E K49 _
                exact tx_pick' [] (sub_cons rfl (sub_cons rfl (sub_cons rfl (sub_cons rfl (sub_cons rfl (sub_cons rfl (sub_cons rfl (sub_cons rfl (sub_cons rfl (sub_cons rfl sub_nil)))))))))) (by decide) pick_nil (hK49 (fle r25 a2) hp)
              · refine sx_skip' rfl rfl (wt_is' (wt_guard' rfl rfl rfl) (beq_ft h21)) ?_
                refine sx_skip' rfl rfl (wt_is' (wt_guard' rfl rfl rfl) (beq_ft h21)) ?_
                refine sx_skip' rfl rfl (wt_is' (wt_guard' rfl rfl rfl) (beq_ft h21)) ?_
                refine sx_rd' (rd_pick_false' rfl h21 rfl) rfl rfl (wt_none' rfl) ?_
                refine sx_nil' ?_
                show TX E K49 _
                exact tx_pick' [] (sub_cons rfl (sub_cons rfl (sub_cons rfl (sub_cons rfl (sub_cons rfl (sub_cons rfl (sub_cons rfl (sub_cons rfl (sub_cons rfl (sub_cons rfl sub_nil)))))))))) (by decide) pick_nil (hK49 false hp)
          · replace hp := (br_f h20).symm.trans hp
            refine cx_exit' ?_
            replace hp := Option.some.inj hp
            subst hp
            show TX E (Zg E (Exit.exit 2) _ (Exit.exit 2)) _
            exact tx_zend' () rfl [] (sub_cons rfl (sub_cons rfl (sub_cons rfl (sub_cons rfl (sub_cons rfl sub_nil))))) (by decide) pick_nil
        · rcases y2 with v14 | v15
          · dsimp only at hp
            refine zg_out fun w14 => ?_
            replace hp := Option.some.inj hp
            subst hp
            show TX E (Zg E Exit.ret _ Exit.ret) _
            exact tx_zend' () rfl [] (sub_cons rfl sub_nil) (by decide) pick_nil
          · dsimp only at hp
            refine zg_out fun w15 => ?_
            show TX E K30 _
            refine tx_k' hK30 ?_
            refine cx_region' ?_
            refine sx_rd' (rd_bin' rfl rfl eg_int ru_add) rfl rfl (wt_none' rfl) ?_
            refine sx_rd' (rd_move' rfl) rfl rfl (wt_none' rfl) ?_
            refine sx_nil' ?_
            show TX E (KY3 _) _
            exact tx_pick' [] (sub_cons rfl (sub_cons rfl (sub_cons rfl (sub_cons rfl (sub_cons rfl sub_nil))))) (by decide) pick_nil (ih3 (iadd .i64 x11 1) () _ hp)
    · replace hp := (br_f h13).symm.trans hp
      refine cx_exit' ?_
      replace hp := Option.some.inj hp
      subst hp
      show TX E (Zg E (Exit.exit 0) _ (Exit.exit 0)) _
      exact tx_zend' () rfl [] (sub_cons rfl sub_nil) (by decide) pick_nil
  · rcases y3 with v16 | v17
    · dsimp only at hp
      refine zg_out fun w16 => ?_
      replace hp := Option.some.inj hp
      subst hp
      refine tx_pick' (L' := [(6, (Vl (.bool false)))]) (H' := []) [] (sub_cons rfl sub_nil) (by decide) pick_nil ?_
      exact tx_ret1' Tryd.results15 rfl () (rv_tmp' rfl) (List.Sublist.refl _)
    · dsimp only at hp
      refine zg_out fun w17 => ?_
      show TX E K2 _
      refine tx_k' hK2 ?_
      refine cx_seq' fun K52 hK52 => ?_
      refine cx_region' ?_
      refine sx_rd' (rd_move' rfl) rfl rfl (wt_none' rfl) ?_
      refine sx_rd' (rd_bin' rfl rfl eg_int ru_gtr) rfl rfl (wt_none' rfl) ?_
      refine sx_rd' (rd_assign' rfl) rfl rfl (wt_none' rfl) ?_
      refine sx_nil' ?_
      show TX E K52 _
      refine tx_k' hK52 ?_
      refine cx_retc' ?_
      replace hp := Option.some.inj hp
      subst hp
      refine tx_pick' (L' := [(6, (Vl (.bool (decide (0 < a1)))))]) (H' := []) [] (sub_cons rfl sub_nil) (by decide) pick_nil ?_
      exact tx_ret1' Tryd.results15 rfl () (rv_tmp' rfl) (List.Sublist.refl _)

def laws_entries_l1s (a0 : List (Nat × Nat × Nat × Nat × Nat × Nat × Nat × Nat × Nat)) (k : Nat) (rec1 : Int → Option (Unit ⊕ Unit)) (x1 : Int) : Option (Unit ⊕ Unit) :=
  br (decide (x1 < (a0.length : Int)))
    ((idx a0 x1) >>= fun r9 =>
    (spec_Grid k ([[r9.1, r9.2.1, r9.2.2.1, r9.2.2.2.1, r9.2.2.2.2.1, r9.2.2.2.2.2.1, r9.2.2.2.2.2.2.1, r9.2.2.2.2.2.2.2.1, r9.2.2.2.2.2.2.2.2]]) 9 4652218415073722368) >>= fun r13 =>
    br (!r13)
      (some (.inl ()))
      (rec1 (iadd .i64 x1 1)))
    (some (.inr ()))
def laws_entries_l1 (a0 : List (Nat × Nat × Nat × Nat × Nat × Nat × Nat × Nat × Nat)) : Nat → Int → Option (Unit ⊕ Unit)
  | 0, _ => none
  | k + 1, v => laws_entries_l1s a0 k (laws_entries_l1 a0 k) v
def laws_entries (k : Nat) (a0 : List (Nat × Nat × Nat × Nat × Nat × Nat × Nat × Nat × Nat)) : Option (Bool) :=
  (laws_entries_l1 a0 k 0) >>= fun y1 => match y1 with
    | (.inl v2) =>
      (some false)
    | (.inr v3) =>
      (some true)

theorem laws_entries_sim {k : Nat}  (a0 : List (Nat × Nat × Nat × Nat × Nat × Nat × Nat × Nat × Nat)) {out : Bool} (hp : laws_entries k a0 = some out) : Go.Sx.Fn Tryd.prog 6 [(Sl KT24 a0)] [] (fun w : Unit => (Vl (.bool out))) (fun w => []) := by
  unfold laws_entries at hp
  refine fn_of Tryd.func6 rfl Tryd.ntmps6 rfl fun E hM => ?_
  refine cx_seq' fun K1 hK1 => ?_
  refine cx_region' ?_
  refine sx_rd' (rd_assign' rfl) rfl rfl (wt_none' rfl) ?_
  refine sx_nil' ?_
  show TX E K1 _
  refine tx_k' hK1 ?_
  refine cx_seq' fun K2 hK2 => ?_
  refine cx_seq' fun K3 hK3 => ?_
  refine cx_region' ?_
  refine sx_rd' (rd_move' rfl) rfl rfl (wt_none' rfl) ?_
  refine sx_rd' (rd_len' rfl Tryd.underlying38) rfl rfl (wt_none' rfl) ?_
  refine sx_rd' (rd_move' rfl) rfl rfl (wt_none' rfl) ?_
  refine sx_nil' ?_
  show TX E K3 _
  refine tx_k' hK3 ?_
  refine cx_block' ?_
  obtain ⟨y1, hy1, hp⟩ := bind_some hp
  refine cx_loopg' (F := laws_entries_l1 a0) (G := fun k R v => laws_entries_l1s a0 k R v) (x := 0) (gh := ()) (fun (v1 : Int) (w1 : Unit) => (⟨16, [], [(5, (Sl KT24 a0)), (6, (Vl (.int .i64 (a0.length : Int)))), (7, (Vl (.int .i64 v1)))], []⟩ : St)) (fun (y : Unit ⊕ Unit) => match y with | (.inl v2) => Zg E Exit.ret (fun (w2 : Unit) => (⟨16, [], [(2, (Vl (.bool false)))], []⟩ : St)) | (.inr v3) => Zg E (Exit.exit 0) (fun (w3 : Unit) => (⟨16, [], [], []⟩ : St))) (fun _ => rfl) (fun _ _ => rfl) ?_ hy1 (tx_to' rfl [] (sub_cons rfl (sub_cons rfl (sub_cons rfl sub_nil))) (by decide) pick_nil) ?_
  · clear hp hy1
    clear y1
    intro k rec1 KY1 ih1
    rintro x1 ⟨⟩ y1 hp
    replace hp : laws_entries_l1s a0 k rec1 x1 = some y1 := hp
    unfold laws_entries_l1s at hp
    refine cx_seq' fun K10 hK10 => ?_
    refine cx_region' ?_
    refine sx_rd' (rd_bin' rfl rfl eg_int ru_lss) rfl rfl (wt_none' rfl) ?_
    refine sx_nil' ?_
    show TX E K10 _
    refine tx_k' hK10 ?_
    refine cx_seq' fun K11 hK11 => ?_
    refine cx_cond' rfl (fun h4 => ?_) (fun h4 => ?_)
    · replace hp := (br_t h4).symm.trans hp
      refine cx_skip' ?_
      show TX E K11 _
      refine tx_k' hK11 ?_
      refine cx_seq' fun K12 hK12 => ?_
      refine cx_block' ?_
      refine cx_seq' fun K13 hK13 => ?_
      refine cx_region' ?_
      obtain ⟨r9, hr9, hp⟩ := bind_some hp
      refine sx_rd' (rd_at' (K := KT24) rfl rfl hr9 Tryd.underlying38 info24) rfl rfl (wt_none' rfl) ?_
      refine sx_rd' (rd_load_pt_agg' (nn := 9) rfl rfl agg24 (l' := [(Vl (.float .f64 r9.1)), (Vl (.float .f64 r9.2.1)), (Vl (.float .f64 r9.2.2.1)), (Vl (.float .f64 r9.2.2.2.1)), (Vl (.float .f64 r9.2.2.2.2.1)), (Vl (.float .f64 r9.2.2.2.2.2.1)), (Vl (.float .f64 r9.2.2.2.2.2.2.1)), (Vl (.float .f64 r9.2.2.2.2.2.2.2.1)), (Vl (.float .f64 r9.2.2.2.2.2.2.2.2))]) rfl) rfl rfl (wt_none' rfl) ?_
      refine sx_ox' (ox_alloc' info24 rfl rfl rfl rfl (l := [(Vl (.float .f64 0)), (Vl (.float .f64 0)), (Vl (.float .f64 0)), (Vl (.float .f64 0)), (Vl (.float .f64 0)), (Vl (.float .f64 0)), (Vl (.float .f64 0)), (Vl (.float .f64 0)), (Vl (.float .f64 0))]) rfl) (wt_none' rfl) fun q4 => ?_
      refine tx_arr' (K := Kf) (xs := [0, 0, 0, 0, 0, 0, 0, 0, 0]) (m := 9) (i := 0) rfl rfl rfl (H' := [(Rw Kf 24 (Vs (some q4, 9, 9)) ([0, 0, 0, 0, 0, 0, 0, 0, 0]))]) rfl ?_
      refine sx_ox' (ox_storearr' (K := Kf) (m := 0) (xs' := [r9.1, r9.2.1, r9.2.2.1, r9.2.2.2.1, r9.2.2.2.2.1, r9.2.2.2.2.2.1, r9.2.2.2.2.2.2.1, r9.2.2.2.2.2.2.2.1, r9.2.2.2.2.2.2.2.2]) rfl rfl (lv_ag _) rfl rfl rfl rfl rfl info24 rfl (H' := [(Rw Kf 24 (Vs (some q4, 9, 9)) ([r9.1, r9.2.1, r9.2.2.1, r9.2.2.2.1, r9.2.2.2.2.1, r9.2.2.2.2.2.1, r9.2.2.2.2.2.2.1, r9.2.2.2.2.2.2.2.1, r9.2.2.2.2.2.2.2.2]))]) rfl) (wt_none' rfl) fun _ => ?_
      refine sx_nil' ?_
      show TX E K13 _
      refine tx_k' hK13 ?_
      refine cx_seq' fun K14 hK14 => ?_
      refine cx_region' ?_
      refine sx_rd' (rd_cut_arr' (q := q4) rfl Tryd.underlying24 info22) rfl rfl (wt_none' rfl) ?_
      refine tx_fz' (frz_row 0 [(11, (Vl (Vs (some q4, 9, 9))), (Sl Kf ([r9.1, r9.2.1, r9.2.2.1, r9.2.2.2.1, r9.2.2.2.2.1, r9.2.2.2.2.2.1, r9.2.2.2.2.2.2.1, r9.2.2.2.2.2.2.2.1, r9.2.2.2.2.2.2.2.2])))] (K := Kf) (xs := [r9.1, r9.2.1, r9.2.2.1, r9.2.2.2.1, r9.2.2.2.2.1, r9.2.2.2.2.2.1, r9.2.2.2.2.2.2.1, r9.2.2.2.2.2.2.2.1, r9.2.2.2.2.2.2.2.2]) (by decide) rfl ⟨⟨rfl, frz_it⟩, trivial⟩ (H' := []) frzH_refl) ?_
      refine sx_ox' (ox_rowlit' (K := (Kl Kf)) (xs := [[r9.1, r9.2.1, r9.2.2.1, r9.2.2.2.1, r9.2.2.2.2.1, r9.2.2.2.2.2.1, r9.2.2.2.2.2.2.1, r9.2.2.2.2.2.2.2.1, r9.2.2.2.2.2.2.2.2]]) (qs := [(0, [(Sl Kf ([r9.1, r9.2.1, r9.2.2.1, r9.2.2.2.1, r9.2.2.2.2.1, r9.2.2.2.2.2.1, r9.2.2.2.2.2.2.1, r9.2.2.2.2.2.2.2.1, r9.2.2.2.2.2.2.2.2]))])]) ⟨rfl, ⟨_, rfl, (lv_sl _ _)⟩, trivial⟩ Tryd.underlying41 info40 rfl rfl rfl rfl rfl (by kernel_rfl) rfl rfl rfl) (wt_none' rfl) fun g12 => ?_
      obtain ⟨r13, hr13, hp⟩ := bind_some hp
      refine sx_ox' (ox_brw' (frz_row 0 [(12, (Vl (Vs g12)), (Sl (Kl Kf) ([[r9.1, r9.2.1, r9.2.2.1, r9.2.2.2.1, r9.2.2.2.2.1, r9.2.2.2.2.2.1, r9.2.2.2.2.2.2.1, r9.2.2.2.2.2.2.2.1, r9.2.2.2.2.2.2.2.2]])))] (K := (Kl Kf)) (xs := [[r9.1, r9.2.1, r9.2.2.1, r9.2.2.2.1, r9.2.2.2.2.1, r9.2.2.2.2.2.1, r9.2.2.2.2.2.2.1, r9.2.2.2.2.2.2.2.1, r9.2.2.2.2.2.2.2.2]]) (by decide) rfl ⟨⟨rfl, frz_it⟩, trivial⟩ (H' := []) frzH_refl) (ent_fn' Tryd.func15 isn15 rfl rfl) (spec_Grid_sim _ _ _ hr13 : Go.Sx.Fn Tryd.prog 15 [(Sl (Kl Kf) ([[r9.1, r9.2.1, r9.2.2.1, r9.2.2.2.1, r9.2.2.2.2.1, r9.2.2.2.2.2.1, r9.2.2.2.2.2.2.1, r9.2.2.2.2.2.2.2.1, r9.2.2.2.2.2.2.2.2]])), (Vl (.int .i64 9)), (Vl (.float .f64 4652218415073722368))] [] (fun x : Unit => (Vl (.bool r13))) (fun x => [])) pu_vl rfl rfl) (wt_none' rfl) fun ⟨⟩ => ?_
      refine sx_rd' (rd_un' rfl ru_not) rfl rfl (wt_none' rfl) ?_
      refine sx_nil' ?_
      show TX E K14 _
      refine tx_k' hK14 ?_
      refine cx_cond' rfl (fun h5 => ?_) (fun h5 => ?_)
      · replace hp := (br_t h5).symm.trans hp
        refine cx_seq' fun K15 hK15 => ?_
        refine cx_region' ?_
        refine sx_rd' (rd_assign' rfl) rfl rfl (wt_none' rfl) ?_
        refine sx_nil' ?_
        show TX E K15 _
        refine tx_k' hK15 ?_
        refine cx_retc' ?_
        replace hp := Option.some.inj hp
        subst hp
        show TX E (Zg E Exit.ret _ Exit.ret) _
        exact tx_zend' () rfl [] (sub_cons rfl sub_nil) (by decide) pick_nil
      · replace hp := (br_f h5).symm.trans hp
        refine cx_skip' ?_
        show TX E K12 _
        refine tx_k' hK12 ?_
        refine cx_region' ?_
        refine sx_rd' (rd_bin' rfl rfl eg_int ru_add) rfl rfl (wt_none' rfl) ?_
        refine sx_rd' (rd_move' rfl) rfl rfl (wt_none' rfl) ?_
        refine sx_nil' ?_
        show TX E (KY1 _) _
        exact tx_pick' [] (sub_cons rfl (sub_cons rfl (sub_cons rfl sub_nil))) (by decide) pick_nil (ih1 (iadd .i64 x1 1) () _ hp)
    · replace hp := (br_f h4).symm.trans hp
      refine cx_exit' ?_
      replace hp := Option.some.inj hp
      subst hp
      show TX E (Zg E (Exit.exit 0) _ (Exit.exit 0)) _
      exact tx_zend' () rfl [] sub_nil (by decide) pick_nil
  · rcases y1 with v2 | v3
    · dsimp only at hp
      refine zg_out fun w2 => ?_
      replace hp := Option.some.inj hp
      subst hp
      refine tx_pick' (L' := [(2, (Vl (.bool false)))]) (H' := []) [] (sub_cons rfl sub_nil) (by decide) pick_nil ?_
      exact tx_ret1' Tryd.results6 rfl () (rv_tmp' rfl) (List.Sublist.refl _)
    · dsimp only at hp
      refine zg_out fun w3 => ?_
      show TX E K2 _
      refine tx_k' hK2 ?_
      refine cx_seq' fun K16 hK16 => ?_
      refine cx_region' ?_
      refine sx_rd' (rd_assign' rfl) rfl rfl (wt_none' rfl) ?_
      refine sx_nil' ?_
      show TX E K16 _
      refine tx_k' hK16 ?_
      refine cx_retc' ?_
      replace hp := Option.some.inj hp
      subst hp
      refine tx_pick' (L' := [(2, (Vl (.bool true)))]) (H' := []) [] (sub_cons rfl sub_nil) (by decide) pick_nil ?_
      exact tx_ret1' Tryd.results6 rfl () (rv_tmp' rfl) (List.Sublist.refl _)

def laws_detOf_1 (k : Nat) (a0 : Int) (a1 : List Nat) : Option ((List Nat) × Int) :=
  (idxn 9 a1 a0) >>= fun r5 =>
  (f2i .i64 r5) >>= fun r7 =>
  some (a1, r7)

theorem laws_detOf_1_sim {k : Nat} {wa1 : Addr} (a0 : Int) (a1 : List Nat) {out : (List Nat) × Int} (hp : laws_detOf_1 k a0 a1 = some out) : Go.Sx.Fn Tryd.prog 16 [(Vl (.int .i64 a0)), (Vl (.pointer ((some wa1, 9, 9)).1))] [(Rw Kf 24 (Vs (some wa1, 9, 9)) a1)] (fun w : Unit => (Vl (.int .i64 out.2))) (fun w => [(Rw Kf 24 (Vs (some wa1, 9, 9)) out.1)]) := by
  unfold laws_detOf_1 at hp
  refine fn_of Tryd.func16 rfl Tryd.ntmps16 rfl fun E hM => ?_
  refine cx_seq' fun K1 hK1 => ?_
  refine cx_region' ?_
  refine sx_rd' (rd_assign' rfl) rfl rfl (wt_none' rfl) ?_
  refine sx_nil' ?_
  show TX E K1 _
  refine tx_k' hK1 ?_
  refine cx_seq' fun K2 hK2 => ?_
  refine cx_region' ?_
  refine sx_rd' (rd_move' rfl) rfl rfl (wt_none' rfl) ?_
  obtain ⟨r5, hr5, hp⟩ := bind_some hp
  refine sx_rd' (rd_atarr' (m := 0) rfl rfl rfl rfl hr5 Tryd.underlying24 info22) rfl rfl (wt_none' rfl) ?_
  refine sx_rd' (rd_loadr' rfl (m := 0) (i := a0) (j := 0) rfl rfl (idxn_some hr5).2 rfl rfl flat22) rfl rfl (wt_none' rfl) ?_
  obtain ⟨r7, hr7, hp⟩ := bind_some hp
  refine sx_rd' (rd_conv' rfl (ru_f2i hr7 (by rw [Tryd.underlying22]; rfl) Tryd.underlying3)) rfl rfl (wt_none' rfl) ?_
  refine sx_rd' (rd_assign' rfl) rfl rfl (wt_none' rfl) ?_
  refine sx_nil' ?_
  show TX E K2 _
  refine tx_k' hK2 ?_
  refine cx_retc' ?_
  replace hp := Option.some.inj hp
  subst hp
  refine tx_pick' (L' := [(3, (Vl (.int .i64 r7)))]) (H' := [(Rw Kf 24 (Vs (some wa1, 9, 9)) a1)]) [0] (sub_cons rfl sub_nil) (by decide) (pick_cons rfl pick_nil) ?_
  exact tx_ret1' Tryd.results16 rfl () (rv_tmp' rfl) (List.Sublist.refl _)

def laws_detOf (k : Nat) (a0_0 : Nat) (a0_1 : Nat) (a0_2 : Nat) (a0_3 : Nat) (a0_4 : Nat) (a0_5 : Nat) (a0_6 : Nat) (a0_7 : Nat) (a0_8 : Nat) : Option (Int) :=
  (laws_detOf_1 k 0 ([a0_0, a0_1, a0_2, a0_3, a0_4, a0_5, a0_6, a0_7, a0_8])) >>= fun r6 =>
  (laws_detOf_1 k 4 r6.1) >>= fun r8 =>
  (laws_detOf_1 k 8 r8.1) >>= fun r10 =>
  (laws_detOf_1 k 5 r10.1) >>= fun r13 =>
  (laws_detOf_1 k 7 r13.1) >>= fun r15 =>
  (laws_detOf_1 k 1 r15.1) >>= fun r20 =>
  (laws_detOf_1 k 3 r20.1) >>= fun r22 =>
  (laws_detOf_1 k 8 r22.1) >>= fun r24 =>
  (laws_detOf_1 k 5 r24.1) >>= fun r27 =>
  (laws_detOf_1 k 6 r27.1) >>= fun r29 =>
  (laws_detOf_1 k 2 r29.1) >>= fun r35 =>
  (laws_detOf_1 k 3 r35.1) >>= fun r37 =>
  (laws_detOf_1 k 7 r37.1) >>= fun r39 =>
  (laws_detOf_1 k 4 r39.1) >>= fun r42 =>
  (laws_detOf_1 k 6 r42.1) >>= fun r44 =>
  some (iadd .i64 (isub .i64 (imul .i64 r6.2 (isub .i64 (imul .i64 r8.2 r10.2) (imul .i64 r13.2 r15.2))) (imul .i64 r20.2 (isub .i64 (imul .i64 r22.2 r24.2) (imul .i64 r27.2 r29.2)))) (imul .i64 r35.2 (isub .i64 (imul .i64 r37.2 r39.2) (imul .i64 r42.2 r44.2))))

theorem laws_detOf_sim {k : Nat}  (a0_0 : Nat) (a0_1 : Nat) (a0_2 : Nat) (a0_3 : Nat) (a0_4 : Nat) (a0_5 : Nat) (a0_6 : Nat) (a0_7 : Nat) (a0_8 : Nat) {out : Int} (hp : laws_detOf k a0_0 a0_1 a0_2 a0_3 a0_4 a0_5 a0_6 a0_7 a0_8 = some out) : Go.Sx.Fn Tryd.prog 7 [(Ag [(Vl (.float .f64 a0_0)), (Vl (.float .f64 a0_1)), (Vl (.float .f64 a0_2)), (Vl (.float .f64 a0_3)), (Vl (.float .f64 a0_4)), (Vl (.float .f64 a0_5)), (Vl (.float .f64 a0_6)), (Vl (.float .f64 a0_7)), (Vl (.float .f64 a0_8))])] [] (fun w : Unit => (Vl (.int .i64 out))) (fun w => []) := by
  unfold laws_detOf at hp
  refine fn_of Tryd.func7 rfl Tryd.ntmps7 rfl fun E hM => ?_
  refine cx_seq' fun K1 hK1 => ?_
  refine cx_region' ?_
  refine sx_ox' (ox_box' rfl (lv_ag _) rfl rfl) (wt_none' rfl) fun q1 => ?_
  refine tx_arr' (K := Kf) (xs := [a0_0, a0_1, a0_2, a0_3, a0_4, a0_5, a0_6, a0_7, a0_8]) (m := 9) (i := 0) rfl rfl rfl (H' := [(Rw Kf 24 (Vs (some q1, 9, 9)) ([a0_0, a0_1, a0_2, a0_3, a0_4, a0_5, a0_6, a0_7, a0_8]))]) rfl ?_
  refine sx_rd' (rd_assign' rfl) rfl rfl (wt_none' rfl) ?_
  refine sx_nil' ?_
  show TX E K1 _
  refine tx_k' hK1 ?_
  refine cx_seq' fun K2 hK2 => ?_
  refine cx_region' ?_
  refine sx_rd' (rd_mkfunc' (us := [.pointer ((some q1, 9, 9)).1]) rfl) rfl rfl (wt_none' rfl) ?_
  refine sx_rd' (rd_assign' rfl) rfl rfl (wt_none' rfl) ?_
  refine sx_nil' ?_
  show TX E K2 _
  refine tx_k' hK2 ?_
  refine cx_seq' fun K3 hK3 => ?_
  refine cx_region' ?_
  refine sx_rd' (rd_move' rfl) rfl rfl (wt_none' rfl) ?_
  obtain ⟨r6, hr6, hp⟩ := bind_some hp
  refine sx_ox' (ox_callg' (ent_clo' (us := [.pointer ((some q1, 9, 9)).1]) rfl Tryd.func16 isn16 rfl rfl) (laws_detOf_1_sim _ _ hr6 : Go.Sx.Fn Tryd.prog 16 [(Vl (.int .i64 0)), (Vl (.pointer ((some q1, 9, 9)).1))] [(Rw Kf 24 (Vs (some q1, 9, 9)) ([a0_0, a0_1, a0_2, a0_3, a0_4, a0_5, a0_6, a0_7, a0_8]))] (fun x : Unit => (Vl (.int .i64 r6.2))) (fun x => [(Rw Kf 24 (Vs (some q1, 9, 9)) r6.1)])) [0] [] (by decide) (pick_cons rfl pick_nil) pick_nil (Hn := fun x : Unit => [(Rw Kf 24 (Vs (some q1, 9, 9)) r6.1)]) (fun _ => rfl) rfl rfl) (wt_none' rfl) fun ⟨⟩ => ?_
  refine sx_rd' (rd_move' rfl) rfl rfl (wt_none' rfl) ?_
  obtain ⟨r8, hr8, hp⟩ := bind_some hp
  refine sx_ox' (ox_callg' (ent_clo' (us := [.pointer ((some q1, 9, 9)).1]) rfl Tryd.func16 isn16 rfl rfl) (laws_detOf_1_sim _ _ hr8 : Go.Sx.Fn Tryd.prog 16 [(Vl (.int .i64 4)), (Vl (.pointer ((some q1, 9, 9)).1))] [(Rw Kf 24 (Vs (some q1, 9, 9)) r6.1)] (fun x : Unit => (Vl (.int .i64 r8.2))) (fun x => [(Rw Kf 24 (Vs (some q1, 9, 9)) r8.1)])) [0] [] (by decide) (pick_cons rfl pick_nil) pick_nil (Hn := fun x : Unit => [(Rw Kf 24 (Vs (some q1, 9, 9)) r8.1)]) (fun _ => rfl) rfl rfl) (wt_none' rfl) fun ⟨⟩ => ?_
  refine sx_rd' (rd_move' rfl) rfl rfl (wt_none' rfl) ?_
  obtain ⟨r10, hr10, hp⟩ := bind_some hp
  refine sx_ox' (ox_callg' (ent_clo' (us := [.pointer ((some q1, 9, 9)).1]) rfl Tryd.func16 isn16 rfl rfl) (laws_detOf_1_sim _ _ hr10 : Go.Sx.Fn Tryd.prog 16 [(Vl (.int .i64 8)), (Vl (.pointer ((some q1, 9, 9)).1))] [(Rw Kf 24 (Vs (some q1, 9, 9)) r8.1)] (fun x : Unit => (Vl (.int .i64 r10.2))) (fun x => [(Rw Kf 24 (Vs (some q1, 9, 9)) r10.1)])) [0] [] (by decide) (pick_cons rfl pick_nil) pick_nil (Hn := fun x : Unit => [(Rw Kf 24 (Vs (some q1, 9, 9)) r10.1)]) (fun _ => rfl) rfl rfl) (wt_none' rfl) fun ⟨⟩ => ?_
  refine sx_rd' (rd_bin' rfl rfl eg_int ru_mul) rfl rfl (wt_none' rfl) ?_
  refine sx_rd' (rd_move' rfl) rfl rfl (wt_none' rfl) ?_
  obtain ⟨r13, hr13, hp⟩ := bind_some hp
  refine sx_ox' (ox_callg' (ent_clo' (us := [.pointer ((some q1, 9, 9)).1]) rfl Tryd.func16 isn16 rfl rfl) (laws_detOf_1_sim _ _ hr13 : Go.Sx.Fn Tryd.prog 16 [(Vl (.int .i64 5)), (Vl (.pointer ((some q1, 9, 9)).1))] [(Rw Kf 24 (Vs (some q1, 9, 9)) r10.1)] (fun x : Unit => (Vl (.int .i64 r13.2))) (fun x => [(Rw Kf 24 (Vs (some q1, 9, 9)) r13.1)])) [0] [] (by decide) (pick_cons rfl pick_nil) pick_nil (Hn := fun x : Unit => [(Rw Kf 24 (Vs (some q1, 9, 9)) r13.1)]) (fun _ => rfl) rfl rfl) (wt_none' rfl) fun ⟨⟩ => ?_
  refine sx_rd' (rd_move' rfl) rfl rfl (wt_none' rfl) ?_
  obtain ⟨r15, hr15, hp⟩ := bind_some hp
  refine sx_ox' (ox_callg' (ent_clo' (us := [.pointer ((some q1, 9, 9)).1]) rfl Tryd.func16 isn16 rfl rfl) (laws_detOf_1_sim _ _ hr15 : Go.Sx.Fn Tryd.prog 16 [(Vl (.int .i64 7)), (Vl (.pointer ((some q1, 9, 9)).1))] [(Rw Kf 24 (Vs (some q1, 9, 9)) r13.1)] (fun x : Unit => (Vl (.int .i64 r15.2))) (fun x => [(Rw Kf 24 (Vs (some q1, 9, 9)) r15.1)])) [0] [] (by decide) (pick_cons rfl pick_nil) pick_nil (Hn := fun x : Unit => [(Rw Kf 24 (Vs (some q1, 9, 9)) r15.1)]) (fun _ => rfl) rfl rfl) (wt_none' rfl) fun ⟨⟩ => ?_
  refine sx_rd' (rd_bin' rfl rfl eg_int ru_mul) rfl rfl (wt_none' rfl) ?_
  refine sx_rd' (rd_bin' rfl rfl eg_int ru_sub) rfl rfl (wt_none' rfl) ?_
  refine sx_rd' (rd_bin' rfl rfl eg_int ru_mul) rfl rfl (wt_none' rfl) ?_
  refine sx_rd' (rd_move' rfl) rfl rfl (wt_none' rfl) ?_
  obtain ⟨r20, hr20, hp⟩ := bind_some hp
  refine sx_ox' (ox_callg' (ent_clo' (us := [.pointer ((some q1, 9, 9)).1]) rfl Tryd.func16 isn16 rfl rfl) (laws_detOf_1_sim _ _ hr20 : Go.Sx.Fn Tryd.prog 16 [(Vl (.int .i64 1)), (Vl (.pointer ((some q1, 9, 9)).1))] [(Rw Kf 24 (Vs (some q1, 9, 9)) r15.1)] (fun x : Unit => (Vl (.int .i64 r20.2))) (fun x => [(Rw Kf 24 (Vs (some q1, 9, 9)) r20.1)])) [0] [] (by decide) (pick_cons rfl pick_nil) pick_nil (Hn := fun x : Unit => [(Rw Kf 24 (Vs (some q1, 9, 9)) r20.1)]) (fun _ => rfl) rfl rfl) (wt_none' rfl) fun ⟨⟩ => ?_
  refine sx_rd' (rd_move' rfl) rfl rfl (wt_none' rfl) ?_
  obtain ⟨r22, hr22, hp⟩ := bind_some hp
  refine sx_ox' (ox_callg' (ent_clo' (us := [.pointer ((some q1, 9, 9)).1]) rfl Tryd.func16 isn16 rfl rfl) (laws_detOf_1_sim _ _ hr22 : Go.Sx.Fn Tryd.prog 16 [(Vl (.int .i64 3)), (Vl (.pointer ((some q1, 9, 9)).1))] [(Rw Kf 24 (Vs (some q1, 9, 9)) r20.1)] (fun x : Unit => (Vl (.int .i64 r22.2))) (fun x => [(Rw Kf 24 (Vs (some q1, 9, 9)) r22.1)])) [0] [] (by decide) (pick_cons rfl pick_nil) pick_nil (Hn := fun x : Unit => [(Rw Kf 24 (Vs (some q1, 9, 9)) r22.1)]) (fun _ => rfl) rfl rfl) (wt_none' rfl) fun ⟨⟩ => ?_
  refine sx_rd' (rd_move' rfl) rfl rfl (wt_none' rfl) ?_
  obtain ⟨r24, hr24, hp⟩ := bind_some hp
  refine sx_ox' (ox_callg' (ent_clo' (us := [.pointer ((some q1, 9, 9)).1]) rfl Tryd.func16 isn16 rfl rfl) (laws_detOf_1_sim _ _ hr24 : Go.Sx.Fn Tryd.prog 16 [(Vl (.int .i64 8)), (Vl (.pointer ((some q1, 9, 9)).1))] [(Rw Kf 24 (Vs (some q1, 9, 9)) r22.1)] (fun x : Unit => (Vl (.int .i64 r24.2))) (fun x => [(Rw Kf 24 (Vs (some q1, 9, 9)) r24.1)])) [0] [] (by decide) (pick_cons rfl pick_nil) pick_nil (Hn := fun x : Unit => [(Rw Kf 24 (Vs (some q1, 9, 9)) r24.1)]) (fun _ => rfl) rfl rfl) (wt_none' rfl) fun ⟨⟩ => ?_
  refine sx_rd' (rd_bin' rfl rfl eg_int ru_mul) rfl rfl (wt_none' rfl) ?_
  refine sx_rd' (rd_move' rfl) rfl rfl (wt_none' rfl) ?_
  obtain ⟨r27, hr27, hp⟩ := bind_some hp
  refine sx_ox' (ox_callg' (ent_clo' (us := [.pointer ((some q1, 9, 9)).1]) rfl Tryd.func16 isn16 rfl rfl) (laws_detOf_1_sim _ _ hr27 : Go.Sx.Fn Tryd.prog 16 [(Vl (.int .i64 5)), (Vl (.pointer ((some q1, 9, 9)).1))] [(Rw Kf 24 (Vs (some q1, 9, 9)) r24.1)] (fun x : Unit => (Vl (.int .i64 r27.2))) (fun x => [(Rw Kf 24 (Vs (some q1, 9, 9)) r27.1)])) [0] [] (by decide) (pick_cons rfl pick_nil) pick_nil (Hn := fun x : Unit => [(Rw Kf 24 (Vs (some q1, 9, 9)) r27.1)]) (fun _ => rfl) rfl rfl) (wt_none' rfl) fun ⟨⟩ => ?_
  refine sx_rd' (rd_move' rfl) rfl rfl (wt_none' rfl) ?_
  obtain ⟨r29, hr29, hp⟩ := bind_some hp
  refine sx_ox' (ox_callg' (ent_clo' (us := [.pointer ((some q1, 9, 9)).1]) rfl Tryd.func16 isn16 rfl rfl) (laws_detOf_1_sim _ _ hr29 : Go.Sx.Fn Tryd.prog 16 [(Vl (.int .i64 6)), (Vl (.pointer ((some q1, 9, 9)).1))] [(Rw Kf 24 (Vs (some q1, 9, 9)) r27.1)] (fun x : Unit => (Vl (.int .i64 r29.2))) (fun x => [(Rw Kf 24 (Vs (some q1, 9, 9)) r29.1)])) [0] [] (by decide) (pick_cons rfl pick_nil) pick_nil (Hn := fun x : Unit => [(Rw Kf 24 (Vs (some q1, 9, 9)) r29.1)]) (fun _ => rfl) rfl rfl) (wt_none' rfl) fun ⟨⟩ => ?_
  refine sx_rd' (rd_bin' rfl rfl eg_int ru_mul) rfl rfl (wt_none' rfl) ?_
  refine sx_rd' (rd_bin' rfl rfl eg_int ru_sub) rfl rfl (wt_none' rfl) ?_
  refine sx_rd' (rd_bin' rfl rfl eg_int ru_mul) rfl rfl (wt_none' rfl) ?_
  refine sx_rd' (rd_bin' rfl rfl eg_int ru_sub) rfl rfl (wt_none' rfl) ?_
  refine sx_rd' (rd_move' rfl) rfl rfl (wt_none' rfl) ?_
  obtain ⟨r35, hr35, hp⟩ := bind_some hp
  refine sx_ox' (ox_callg' (ent_clo' (us := [.pointer ((some q1, 9, 9)).1]) rfl Tryd.func16 isn16 rfl rfl) (laws_detOf_1_sim _ _ hr35 : Go.Sx.Fn Tryd.prog 16 [(Vl (.int .i64 2)), (Vl (.pointer ((some q1, 9, 9)).1))] [(Rw Kf 24 (Vs (some q1, 9, 9)) r29.1)] (fun x : Unit => (Vl (.int .i64 r35.2))) (fun x => [(Rw Kf 24 (Vs (some q1, 9, 9)) r35.1)])) [0] [] (by decide) (pick_cons rfl pick_nil) pick_nil (Hn := fun x : Unit => [(Rw Kf 24 (Vs (some q1, 9, 9)) r35.1)]) (fun _ => rfl) rfl rfl) (wt_none' rfl) fun ⟨⟩ => ?_
  refine sx_rd' (rd_move' rfl) rfl rfl (wt_none' rfl) ?_
  obtain ⟨r37, hr37, hp⟩ := bind_some hp
  refine sx_ox' (ox_callg' (ent_clo' (us := [.pointer ((some q1, 9, 9)).1]) rfl Tryd.func16 isn16 rfl rfl) (laws_detOf_1_sim _ _ hr37 : Go.Sx.Fn Tryd.prog 16 [(Vl (.int .i64 3)), (Vl (.pointer ((some q1, 9, 9)).1))] [(Rw Kf 24 (Vs (some q1, 9, 9)) r35.1)] (fun x : Unit => (Vl (.int .i64 r37.2))) (fun x => [(Rw Kf 24 (Vs (some q1, 9, 9)) r37.1)])) [0] [] (by decide) (pick_cons rfl pick_nil) pick_nil (Hn := fun x : Unit => [(Rw Kf 24 (Vs (some q1, 9, 9)) r37.1)]) (fun _ => rfl) rfl rfl) (wt_none' rfl) fun ⟨⟩ => ?_
  refine sx_rd' (rd_move' rfl) rfl rfl (wt_none' rfl) ?_
  obtain ⟨r39, hr39, hp⟩ := bind_some hp
  refine sx_ox' (ox_callg' (ent_clo' (us := [.pointer ((some q1, 9, 9)).1]) rfl Tryd.func16 isn16 rfl rfl) (laws_detOf_1_sim _ _ hr39 : Go.Sx.Fn Tryd.prog 16 [(Vl (.int .i64 7)), (Vl (.pointer ((some q1, 9, 9)).1))] [(Rw Kf 24 (Vs (some q1, 9, 9)) r37.1)] (fun x : Unit => (Vl (.int .i64 r39.2))) (fun x => [(Rw Kf 24 (Vs (some q1, 9, 9)) r39.1)])) [0] [] (by decide) (pick_cons rfl pick_nil) pick_nil (Hn := fun x : Unit => [(Rw Kf 24 (Vs (some q1, 9, 9)) r39.1)]) (fun _ => rfl) rfl rfl) (wt_none' rfl) fun ⟨⟩ => ?_
  refine sx_rd' (rd_bin' rfl rfl eg_int ru_mul) rfl rfl (wt_none' rfl) ?_
  refine sx_rd' (rd_move' rfl) rfl rfl (wt_none' rfl) ?_
  obtain ⟨r42, hr42, hp⟩ := bind_some hp
  refine sx_ox' (ox_callg' (ent_clo' (us := [.pointer ((some q1, 9, 9)).1]) rfl Tryd.func16 isn16 rfl rfl) (laws_detOf_1_sim _ _ hr42 : Go.Sx.Fn Tryd.prog 16 [(Vl (.int .i64 4)), (Vl (.pointer ((some q1, 9, 9)).1))] [(Rw Kf 24 (Vs (some q1, 9, 9)) r39.1)] (fun x : Unit => (Vl (.int .i64 r42.2))) (fun x => [(Rw Kf 24 (Vs (some q1, 9, 9)) r42.1)])) [0] [] (by decide) (pick_cons rfl pick_nil) pick_nil (Hn := fun x : Unit => [(Rw Kf 24 (Vs (some q1, 9, 9)) r42.1)]) (fun _ => rfl) rfl rfl) (wt_none' rfl) fun ⟨⟩ => ?_
  refine sx_rd' (rd_move' rfl) rfl rfl (wt_none' rfl) ?_
  obtain ⟨r44, hr44, hp⟩ := bind_some hp
  refine sx_ox' (ox_callg' (ent_clo' (us := [.pointer ((some q1, 9, 9)).1]) rfl Tryd.func16 isn16 rfl rfl) (laws_detOf_1_sim _ _ hr44 : Go.Sx.Fn Tryd.prog 16 [(Vl (.int .i64 6)), (Vl (.pointer ((some q1, 9, 9)).1))] [(Rw Kf 24 (Vs (some q1, 9, 9)) r42.1)] (fun x : Unit => (Vl (.int .i64 r44.2))) (fun x => [(Rw Kf 24 (Vs (some q1, 9, 9)) r44.1)])) [0] [] (by decide) (pick_cons rfl pick_nil) pick_nil (Hn := fun x : Unit => [(Rw Kf 24 (Vs (some q1, 9, 9)) r44.1)]) (fun _ => rfl) rfl rfl) (wt_none' rfl) fun ⟨⟩ => ?_
  refine sx_rd' (rd_bin' rfl rfl eg_int ru_mul) rfl rfl (wt_none' rfl) ?_
  refine sx_rd' (rd_bin' rfl rfl eg_int ru_sub) rfl rfl (wt_none' rfl) ?_
  refine sx_rd' (rd_bin' rfl rfl eg_int ru_mul) rfl rfl (wt_none' rfl) ?_
  refine sx_rd' (rd_bin' rfl rfl eg_int ru_add) rfl rfl (wt_none' rfl) ?_
  refine sx_rd' (rd_assign' rfl) rfl rfl (wt_none' rfl) ?_
  refine sx_nil' ?_
  show TX E K3 _
  refine tx_k' hK3 ?_
  refine cx_retc' ?_
  replace hp := Option.some.inj hp
  subst hp
  refine tx_pick' (L' := [(2, (Vl (.int .i64 (iadd .i64 (isub .i64 (imul .i64 r6.2 (isub .i64 (imul .i64 r8.2 r10.2) (imul .i64 r13.2 r15.2))) (imul .i64 r20.2 (isub .i64 (imul .i64 r22.2 r24.2) (imul .i64 r27.2 r29.2)))) (imul .i64 r35.2 (isub .i64 (imul .i64 r37.2 r39.2) (imul .i64 r42.2 r44.2)))))))]) (H' := []) [] (sub_cons rfl sub_nil) (by decide) pick_nil ?_
  exact tx_ret1' Tryd.results7 rfl () (rv_tmp' rfl) (List.Sublist.refl _)

def impl_floats (k : Nat) (a0 : List Nat) : Option ((List Nat)) :=
  (apd 8 [] a0) >>= fun r4 =>
  some r4

theorem impl_floats_sim {k : Nat}  (a0 : List Nat) {out : (List Nat)} (hp : impl_floats k a0 = some out) : Go.Sx.Fn Tryd.prog 35 [(Sl Kf a0)] [] (fun w : Gs => (Vl (Vs w))) (fun w => [(Rw Kf 22 (Vs w) out)]) := by
  unfold impl_floats at hp
  refine fn_of Tryd.func35 rfl Tryd.ntmps35 rfl fun E hM => ?_
  refine cx_seq' fun K1 hK1 => ?_
  refine cx_region' ?_
  refine sx_rd' (rd_assign' rfl) rfl rfl (wt_none' rfl) ?_
  refine sx_nil' ?_
  show TX E K1 _
  refine tx_k' hK1 ?_
  refine cx_seq' fun K2 hK2 => ?_
  refine cx_region' ?_
  refine sx_rd' (rd_move' rfl) rfl rfl (wt_none' rfl) ?_
  refine tx_nilrow' Kf 22 ?_
  obtain ⟨r4, hr4, hp⟩ := bind_some hp
  refine sx_ox' (ox_append' (K := Kf) (i := 0) (xs := []) (ys := a0) rfl rfl rfl (sr_sl' rfl Tryd.underlying40) hr4 Tryd.underlying40 info22 rfl rfl rfl (H' := []) rfl) (wt_none' rfl) fun g4 => ?_
  refine sx_rd' (rd_assign' rfl) rfl rfl (wt_none' rfl) ?_
  refine sx_nil' ?_
  show TX E K2 _
  refine tx_k' hK2 ?_
  refine cx_retc' ?_
  replace hp := Option.some.inj hp
  subst hp
  refine tx_pick' (L' := [(2, (Vl (Vs g4)))]) (H' := [(Rw Kf 22 (Vs g4) r4)]) [0] (sub_cons rfl sub_nil) (by decide) (pick_cons rfl pick_nil) ?_
  exact tx_ret1' Tryd.results35 rfl g4 (rv_tmp' rfl) (List.Sublist.refl _)

def r3_arrayFrom (k : Nat) (a0 : List Nat) : Option ((List Nat)) :=
  (need 9 a0) >>= fun z1 =>
  some a0

theorem r3_arrayFrom_sim {k : Nat} {wa0 : Gs} (a0 : List Nat) {out : (List Nat)} (hp : r3_arrayFrom k a0 = some out) : Go.Sx.Fn Tryd.prog 43 [(Vl (Vs wa0))] [(Rw Kf 22 (Vs wa0) a0)] (fun w : Unit => (Vl (.pointer (wa0).1))) (fun w => [(Rw Kf 22 (Vs wa0) out)]) := by
  unfold r3_arrayFrom at hp
  refine fn_of Tryd.func43 rfl Tryd.ntmps43 rfl fun E hM => ?_
  refine cx_seq' fun K1 hK1 => ?_
  refine cx_region' ?_
  refine sx_rd' (rd_assign' rfl) rfl rfl (wt_none' rfl) ?_
  refine sx_nil' ?_
  show TX E K1 _
  refine tx_k' hK1 ?_
  refine cx_seq' fun K2 hK2 => ?_
  refine cx_region' ?_
  refine sx_rd' (rd_move' rfl) rfl rfl (wt_none' rfl) ?_
  obtain ⟨z1, hz1, hp⟩ := bind_some hp
  refine sx_rd' (rd_s2a' (m := 0) rfl rfl rfl (need_some hz1) rfl Tryd.underlying77) rfl rfl (wt_none' rfl) ?_
  refine sx_rd' (rd_assign' rfl) rfl rfl (wt_none' rfl) ?_
  refine sx_nil' ?_
  show TX E K2 _
  refine tx_k' hK2 ?_
  refine cx_retc' ?_
  replace hp := Option.some.inj hp
  subst hp
  refine tx_pick' (L' := [(2, (Vl (.pointer (wa0).1)))]) (H' := [(Rw Kf 22 (Vs wa0) a0)]) [0] (sub_cons rfl sub_nil) (by decide) (pick_cons rfl pick_nil) ?_
  exact tx_ret1' Tryd.results43 rfl () (rv_tmp' rfl) (List.Sublist.refl _)

def r3_NewMat (k : Nat) (a0 : List Nat) : Option ((List Nat)) :=
  br (decide ((a0.length : Int) = 9))
    ((r3_arrayFrom k a0) >>= fun r7 =>
    some r7)
    (none)

theorem r3_NewMat_sim {k : Nat} {wa0 : Gs} (a0 : List Nat) {out : (List Nat)} (hp : r3_NewMat k a0 = some out) : Go.Sx.Fn Tryd.prog 34 [(Vl (Vs wa0))] [(Rw Kf 22 (Vs wa0) a0)] (fun w : Addr => (Vl (.pointer (some w)))) (fun w => [(Rw Kf 22 (Vs wa0) out), ⟨.pointer (some w), [(Vl (.pointer (wa0).1))], 48, none⟩]) := by
  unfold r3_NewMat at hp
  refine fn_of Tryd.func34 rfl Tryd.ntmps34 rfl fun E hM => ?_
  refine cx_seq' fun K1 hK1 => ?_
  refine cx_region' ?_
  refine sx_rd' (rd_assign' rfl) rfl rfl (wt_none' rfl) ?_
  refine sx_nil' ?_
  show TX E K1 _
  refine tx_k' hK1 ?_
  refine cx_seq' fun K2 hK2 => ?_
  refine cx_seq' fun K3 hK3 => ?_
  refine cx_region' ?_
  refine sx_rd' (rd_move' rfl) rfl rfl (wt_none' rfl) ?_
  refine sx_rd' (rd_lenr' (i := 0) rfl rfl rfl Tryd.underlying40) rfl rfl (wt_none' rfl) ?_
  refine sx_rd' (rd_bin' rfl rfl eg_int ru_eql) rfl rfl (wt_none' rfl) ?_
  refine sx_nil' ?_
  show TX E K3 _
  refine tx_k' hK3 ?_
  refine cx_cond' rfl (fun h1 => ?_) (fun h1 => ?_)
  · replace hp := (br_t h1).symm.trans hp
    refine cx_seq' fun K4 hK4 => ?_
    refine cx_region' ?_
    refine sx_rd' (rd_move' rfl) rfl rfl (wt_none' rfl) ?_
    obtain ⟨r7, hr7, hp⟩ := bind_some hp
    refine sx_ox' (ox_callg' (ent_fn' Tryd.func43 isn43 rfl rfl) (r3_arrayFrom_sim _ hr7 : Go.Sx.Fn Tryd.prog 43 [(Vl (Vs wa0))] [(Rw Kf 22 (Vs wa0) a0)] (fun x : Unit => (Vl (.pointer (wa0).1))) (fun x => [(Rw Kf 22 (Vs wa0) r7)])) [0] [] (by decide) (pick_cons rfl pick_nil) pick_nil (Hn := fun x : Unit => [(Rw Kf 22 (Vs wa0) r7)]) (fun _ => rfl) rfl rfl) (wt_none' rfl) fun ⟨⟩ => ?_
    refine sx_rd' (rd_build' (pls := [(0, 1)]) (qs := [(0, [(Vl (.pointer (wa0).1))])]) (r := [(Vl (.pointer (wa0).1))]) ⟨rfl, ⟨_, rfl, (lv_vl rfl rfl)⟩, trivial⟩ Tryd.underlying48 has48 places48 info48 rfl rfl rfl) rfl rfl (wt_none' rfl) ?_
    refine sx_ox' (ox_box' rfl (lv_ag _) rfl rfl) (wt_none' rfl) fun q9 => ?_
    refine sx_rd' (rd_assign' rfl) rfl rfl (wt_none' rfl) ?_
    refine sx_nil' ?_
    show TX E K4 _
    refine tx_k' hK4 ?_
    refine cx_retc' ?_
    replace hp := Option.some.inj hp
    subst hp
    refine tx_pick' (L' := [(2, (Vl (.pointer (some q9))))]) (H' := [(Rw Kf 22 (Vs wa0) r7), ⟨.pointer (some q9), [(Vl (.pointer (wa0).1))], 48, none⟩]) [1, 0] (sub_cons rfl sub_nil) (by decide) (pick_cons rfl (pick_cons rfl pick_nil)) ?_
    exact tx_ret1' Tryd.results34 rfl q9 (rv_tmp' rfl) (List.Sublist.refl _)
  · replace hp := (br_f h1).symm.trans hp
    cases hp

def impl_mat (k : Nat) (a0_0 : Nat) (a0_1 : Nat) (a0_2 : Nat) (a0_3 : Nat) (a0_4 : Nat) (a0_5 : Nat) (a0_6 : Nat) (a0_7 : Nat) (a0_8 : Nat) : Option ((List Nat)) :=
  (impl_floats k ([a0_0, a0_1, a0_2, a0_3, a0_4, a0_5, a0_6, a0_7, a0_8])) >>= fun r4 =>
  (r3_NewMat k r4) >>= fun r5 =>
  some r5

theorem impl_mat_sim {k : Nat}  (a0_0 : Nat) (a0_1 : Nat) (a0_2 : Nat) (a0_3 : Nat) (a0_4 : Nat) (a0_5 : Nat) (a0_6 : Nat) (a0_7 : Nat) (a0_8 : Nat) {out : (List Nat)} (hp : impl_mat k a0_0 a0_1 a0_2 a0_3 a0_4 a0_5 a0_6 a0_7 a0_8 = some out) : Go.Sx.Fn Tryd.prog 17 [(Ag [(Vl (.float .f64 a0_0)), (Vl (.float .f64 a0_1)), (Vl (.float .f64 a0_2)), (Vl (.float .f64 a0_3)), (Vl (.float .f64 a0_4)), (Vl (.float .f64 a0_5)), (Vl (.float .f64 a0_6)), (Vl (.float .f64 a0_7)), (Vl (.float .f64 a0_8))])] [] (fun w : Addr × Gs => (Vl (.pointer (some w.1)))) (fun w => [⟨.pointer (some w.1), [(Vl (.pointer (w.2).1))], 48, none⟩, (Rw Kf 22 (Vs w.2) out)]) := by
  unfold impl_mat at hp
  refine fn_of Tryd.func17 rfl Tryd.ntmps17 rfl fun E hM => ?_
  refine cx_seq' fun K1 hK1 => ?_
  refine cx_region' ?_
  refine sx_ox' (ox_box' rfl (lv_ag _) rfl rfl) (wt_none' rfl) fun q1 => ?_
  refine tx_arr' (K := Kf) (xs := [a0_0, a0_1, a0_2, a0_3, a0_4, a0_5, a0_6, a0_7, a0_8]) (m := 9) (i := 0) rfl rfl rfl (H' := [(Rw Kf 24 (Vs (some q1, 9, 9)) ([a0_0, a0_1, a0_2, a0_3, a0_4, a0_5, a0_6, a0_7, a0_8]))]) rfl ?_
  refine sx_rd' (rd_assign' rfl) rfl rfl (wt_none' rfl) ?_
  refine sx_nil' ?_
  show TX E K1 _
  refine tx_k' hK1 ?_
  refine cx_seq' fun K2 hK2 => ?_
  refine cx_region' ?_
  refine sx_rd' (rd_cut_arr' (q := q1) rfl Tryd.underlying24 info22) rfl rfl (wt_none' rfl) ?_
  refine tx_fz' (frz_row 0 [(3, (Vl (Vs (some q1, 9, 9))), (Sl Kf ([a0_0, a0_1, a0_2, a0_3, a0_4, a0_5, a0_6, a0_7, a0_8])))] (K := Kf) (xs := [a0_0, a0_1, a0_2, a0_3, a0_4, a0_5, a0_6, a0_7, a0_8]) (by decide) rfl ⟨⟨rfl, frz_it⟩, trivial⟩ (H' := []) frzH_refl) ?_
  obtain ⟨r4, hr4, hp⟩ := bind_some hp
  refine sx_ox' (ox_calln' (ent_fn' Tryd.func35 isn35 rfl rfl) (impl_floats_sim _ hr4 : Go.Sx.Fn Tryd.prog 35 [(Sl Kf ([a0_0, a0_1, a0_2, a0_3, a0_4, a0_5, a0_6, a0_7, a0_8]))] [] (fun x : Gs => (Vl (Vs x))) (fun x => [(Rw Kf 22 (Vs x) r4)])) (Hn := fun x : Gs => [(Rw Kf 22 (Vs x) r4)]) (fun _ => rfl) rfl rfl) (wt_none' rfl) fun g4 => ?_
  obtain ⟨r5, hr5, hp⟩ := bind_some hp
  refine sx_ox' (ox_callg' (ent_fn' Tryd.func34 isn34 rfl rfl) (r3_NewMat_sim _ hr5 : Go.Sx.Fn Tryd.prog 34 [(Vl (Vs g4))] [(Rw Kf 22 (Vs g4) r4)] (fun x : Addr => (Vl (.pointer (some x)))) (fun x => [(Rw Kf 22 (Vs g4) r5), ⟨.pointer (some x), [(Vl (.pointer (g4).1))], 48, none⟩])) [0] [] (by decide) (pick_cons rfl pick_nil) pick_nil (Hn := fun x : Addr => [(Rw Kf 22 (Vs g4) r5), ⟨.pointer (some x), [(Vl (.pointer (g4).1))], 48, none⟩]) (fun _ => rfl) rfl rfl) (wt_none' rfl) fun q5 => ?_
  refine sx_rd' (rd_assign' rfl) rfl rfl (wt_none' rfl) ?_
  refine sx_nil' ?_
  show TX E K2 _
  refine tx_k' hK2 ?_
  refine cx_retc' ?_
  replace hp := Option.some.inj hp
  subst hp
  refine tx_pick' (L' := [(2, (Vl (.pointer (some q5))))]) (H' := [⟨.pointer (some q5), [(Vl (.pointer (g4).1))], 48, none⟩, (Rw Kf 22 (Vs g4) r5)]) [1, 0] (sub_cons rfl sub_nil) (by decide) (pick_cons rfl (pick_cons rfl pick_nil)) ?_
  exact tx_ret1' Tryd.results17 rfl (q5, g4) (rv_tmp' rfl) (List.Sublist.refl _)

def r3_Mat_At (k : Nat) (a0_0 : List Nat) (a1 : Int) (a2 : Int) : Option ((List Nat) × Nat) :=
  br (decide (2 < (icv .u64 a1)))
    (none)
    (br (decide (2 < (icv .u64 a2)))
      (none)
      ((need 1 a0_0) >>= fun z1 =>
      (need 1 a0_0) >>= fun z2 =>
      (idxn 9 a0_0 (iadd .i64 (imul .i64 a1 3) a2)) >>= fun r35 =>
      some (a0_0, r35)))

theorem r3_Mat_At_sim {k : Nat} {wa0 : Addr} {wa0_0 : Gs} (a0_0 : List Nat) (a1 : Int) (a2 : Int) {out : (List Nat) × Nat} (hp : r3_Mat_At k a0_0 a1 a2 = some out) : Go.Sx.Fn Tryd.prog 36 [(Vl (.pointer (some wa0))), (Vl (.int .i64 a1)), (Vl (.int .i64 a2))] [⟨.pointer (some wa0), [(Vl (.pointer (wa0_0).1))], 48, none⟩, (Rw Kf 22 (Vs wa0_0) a0_0)] (fun w : Unit => (Vl (.float .f64 out.2))) (fun w => [⟨.pointer (some wa0), [(Vl (.pointer (wa0_0).1))], 48, none⟩, (Rw Kf 22 (Vs wa0_0) out.1)]) := by
  unfold r3_Mat_At at hp
  refine fn_of Tryd.func36 rfl Tryd.ntmps36 rfl fun E hM => ?_
  refine cx_seq' fun K1 hK1 => ?_
  refine cx_region' ?_
  refine sx_rd' (rd_assign' rfl) rfl rfl (wt_none' rfl) ?_
  refine sx_nil' ?_
  show TX E K1 _
  refine tx_k' hK1 ?_
  refine cx_seq' fun K2 hK2 => ?_
  refine cx_seq' fun K3 hK3 => ?_
  refine cx_region' ?_
  refine sx_rd' (rd_move' rfl) rfl rfl (wt_none' rfl) ?_
  refine sx_rd' (rd_conv' rfl (ru_i2i (by rw [Tryd.underlying3]; rfl) Tryd.underlying82)) rfl rfl (wt_none' rfl) ?_
  refine sx_rd' (rd_bin' rfl rfl eg_int ru_gtr) rfl rfl (wt_none' rfl) ?_
  refine sx_nil' ?_
  show TX E K3 _
  refine tx_k' hK3 ?_
  refine cx_cond' rfl (fun h1 => ?_) (fun h1 => ?_)
  · replace hp := (br_t h1).symm.trans hp
    cases hp
  · replace hp := (br_f h1).symm.trans hp
    refine cx_skip' ?_
    show TX E K2 _
    refine tx_k' hK2 ?_
    refine cx_seq' fun K4 hK4 => ?_
    refine cx_seq' fun K5 hK5 => ?_
    refine cx_region' ?_
    refine sx_rd' (rd_move' rfl) rfl rfl (wt_none' rfl) ?_
    refine sx_rd' (rd_conv' rfl (ru_i2i (by rw [Tryd.underlying3]; rfl) Tryd.underlying82)) rfl rfl (wt_none' rfl) ?_
    refine sx_rd' (rd_bin' rfl rfl eg_int ru_gtr) rfl rfl (wt_none' rfl) ?_
    refine sx_nil' ?_
    show TX E K5 _
    refine tx_k' hK5 ?_
    refine cx_cond' rfl (fun h2 => ?_) (fun h2 => ?_)
    · replace hp := (br_t h2).symm.trans hp
      cases hp
    · replace hp := (br_f h2).symm.trans hp
      refine cx_skip' ?_
      show TX E K4 _
      refine tx_k' hK4 ?_
      refine cx_seq' fun K6 hK6 => ?_
      refine cx_seq' fun K7 hK7 => ?_
      refine cx_region' ?_
      refine sx_rd' (rd_move' rfl) rfl rfl (wt_none' rfl) ?_
      refine sx_rd' (rd_nilck' rfl) rfl rfl (wt_none' rfl) ?_
      refine sx_rd' (rd_field0' rfl Tryd.underlying48 rfl info46 rfl) rfl rfl (wt_none' rfl) ?_
      refine sx_rd' (rd_load' (i := 0) (o := 0) rfl ⟨rfl, rfl, rfl, rfl⟩ rfl flat46) rfl rfl (wt_none' rfl) ?_
      obtain ⟨z1, hz1, hp⟩ := bind_some hp
      refine sx_rd' (rd_pa_nil' (m := 1) rfl rfl rfl rfl (need_some hz1) (fun _ _ => by kernel_rfl) nil_eql46_ptr) rfl rfl (wt_none' rfl) ?_
      refine sx_nil' ?_
      show TX E K7 _
      refine tx_k' hK7 ?_
      refine cx_cond_f' rfl rfl ?_
      refine cx_skip' ?_
      show TX E K6 _
      refine tx_k' hK6 ?_
      refine cx_seq' fun K8 hK8 => ?_
      refine cx_region' ?_
      refine sx_rd' (rd_move' rfl) rfl rfl (wt_none' rfl) ?_
      refine sx_rd' (rd_nilck' rfl) rfl rfl (wt_none' rfl) ?_
      refine sx_rd' (rd_field0' rfl Tryd.underlying48 rfl info46 rfl) rfl rfl (wt_none' rfl) ?_
      refine sx_rd' (rd_load' (i := 0) (o := 0) rfl ⟨rfl, rfl, rfl, rfl⟩ rfl flat46) rfl rfl (wt_none' rfl) ?_
      refine sx_rd' (rd_move' rfl) rfl rfl (wt_none' rfl) ?_
      refine sx_rd' (rd_bin' rfl rfl eg_int ru_mul) rfl rfl (wt_none' rfl) ?_
      refine sx_rd' (rd_move' rfl) rfl rfl (wt_none' rfl) ?_
      refine sx_rd' (rd_bin' rfl rfl eg_int ru_add) rfl rfl (wt_none' rfl) ?_
      obtain ⟨z2, hz2, hp⟩ := bind_some hp
      refine sx_rd' (rd_nilck_pa' (m := 1) rfl rfl rfl (need_some hz2)) rfl rfl (wt_none' rfl) ?_
      obtain ⟨r35, hr35, hp⟩ := bind_some hp
      refine sx_rd' (rd_atarr' (m := 1) rfl rfl rfl rfl hr35 Tryd.underlying77 info22) rfl rfl (wt_none' rfl) ?_
      refine sx_rd' (rd_loadr' rfl (m := 1) (i := (iadd .i64 (imul .i64 a1 3) a2)) (j := 0) rfl rfl (idxn_some hr35).2 rfl rfl flat22) rfl rfl (wt_none' rfl) ?_
      refine sx_rd' (rd_assign' rfl) rfl rfl (wt_none' rfl) ?_
      refine sx_nil' ?_
      show TX E K8 _
      refine tx_k' hK8 ?_
      refine cx_retc' ?_
      replace hp := Option.some.inj hp
      subst hp
      refine tx_pick' (L' := [(6, (Vl (.float .f64 r35)))]) (H' := [⟨.pointer (some wa0), [(Vl (.pointer (wa0_0).1))], 48, none⟩, (Rw Kf 22 (Vs wa0_0) a0_0)]) [0, 1] (sub_cons rfl sub_nil) (by decide) (pick_cons rfl (pick_cons rfl pick_nil)) ?_
      exact tx_ret1' Tryd.results36 rfl () (rv_tmp' rfl) (List.Sublist.refl _)

def r3_Mat_Det (k : Nat) (a0_0 : List Nat) : Option ((List Nat) × Nat) :=
  (r3_Mat_At k a0_0 0 0) >>= fun r10 =>
  (r3_Mat_At k r10.1 0 1) >>= fun r12 =>
  (r3_Mat_At k r12.1 0 2) >>= fun r14 =>
  (r3_Mat_At k r14.1 1 1) >>= fun r16 =>
  (r3_Mat_At k r16.1 2 2) >>= fun r18 =>
  (some (gmul r16.2 r18.2)) >>= fun r19 =>
  (r3_Mat_At k r18.1 1 2) >>= fun r21 =>
  (r3_Mat_At k r21.1 2 1) >>= fun r23 =>
  (some (gmul r21.2 r23.2)) >>= fun r24 =>
  (some (gsub r19 r24)) >>= fun r25 =>
  (r3_Mat_At k r23.1 1 0) >>= fun r27 =>
  (r3_Mat_At k r27.1 2 2) >>= fun r29 =>
  (some (gmul r27.2 r29.2)) >>= fun r30 =>
  (r3_Mat_At k r29.1 1 2) >>= fun r32 =>
  (r3_Mat_At k r32.1 2 0) >>= fun r34 =>
  (some (gmul r32.2 r34.2)) >>= fun r35 =>
  (some (gsub r30 r35)) >>= fun r36 =>
  (r3_Mat_At k r34.1 1 0) >>= fun r38 =>
  (r3_Mat_At k r38.1 2 1) >>= fun r40 =>
  (some (gmul r38.2 r40.2)) >>= fun r41 =>
  (r3_Mat_At k r40.1 1 1) >>= fun r43 =>
  (r3_Mat_At k r43.1 2 0) >>= fun r45 =>
  (some (gmul r43.2 r45.2)) >>= fun r46 =>
  (some (gsub r41 r46)) >>= fun r47 =>
  (some (gmul r10.2 r25)) >>= fun r50 =>
  (some (gmul r12.2 r36)) >>= fun r53 =>
  (some (gsub r50 r53)) >>= fun r54 =>
  (some (gmul r14.2 r47)) >>= fun r57 =>
  (some (gadd r54 r57)) >>= fun r58 =>
  some (r45.1, r58)

theorem r3_Mat_Det_sim {k : Nat} {wa0 : Addr} {wa0_0 : Gs} (a0_0 : List Nat) {out : (List Nat) × Nat} (hp : r3_Mat_Det k a0_0 = some out) : Go.Sx.Fn Tryd.prog 18 [(Vl (.pointer (some wa0)))] [⟨.pointer (some wa0), [(Vl (.pointer (wa0_0).1))], 48, none⟩, (Rw Kf 22 (Vs wa0_0) a0_0)] (fun w : Unit => (Fl out.2)) (fun w => [⟨.pointer (some wa0), [(Vl (.pointer (wa0_0).1))], 48, none⟩, (Rw Kf 22 (Vs wa0_0) out.1)]) := by
  unfold r3_Mat_Det at hp
  refine fn_of Tryd.func18 rfl Tryd.ntmps18 rfl fun E hM => ?_
  refine cx_seq' fun K1 hK1 => ?_
  refine cx_region' ?_
  refine sx_rd' (rd_assign' rfl) rfl rfl (wt_none' rfl) ?_
  refine sx_nil' ?_
  show TX E K1 _
  refine tx_k' hK1 ?_
  refine cx_seq' fun K2 hK2 => ?_
  refine cx_region' ?_
  refine sx_rd' (rd_move' rfl) rfl rfl (wt_none' rfl) ?_
  obtain ⟨r10, hr10, hp⟩ := bind_some hp
  refine sx_ox' (ox_callg' (ent_fn' Tryd.func36 isn36 rfl rfl) (r3_Mat_At_sim _ _ _ hr10 : Go.Sx.Fn Tryd.prog 36 [(Vl (.pointer (some wa0))), (Vl (.int .i64 0)), (Vl (.int .i64 0))] [⟨.pointer (some wa0), [(Vl (.pointer (wa0_0).1))], 48, none⟩, (Rw Kf 22 (Vs wa0_0) a0_0)] (fun x : Unit => (Vl (.float .f64 r10.2))) (fun x => [⟨.pointer (some wa0), [(Vl (.pointer (wa0_0).1))], 48, none⟩, (Rw Kf 22 (Vs wa0_0) r10.1)])) [0, 1] [] (by decide) (pick_cons rfl (pick_cons rfl pick_nil)) pick_nil (Hn := fun x : Unit => [⟨.pointer (some wa0), [(Vl (.pointer (wa0_0).1))], 48, none⟩, (Rw Kf 22 (Vs wa0_0) r10.1)]) (fun _ => rfl) rfl rfl) (wt_none' rfl) fun ⟨⟩ => ?_
  refine sx_rd' (rd_assign' rfl) rfl rfl (wt_none' rfl) ?_
  refine sx_nil' ?_
  show TX E K2 _
  refine tx_k' hK2 ?_
  refine cx_seq' fun K3 hK3 => ?_
  refine cx_region' ?_
  refine sx_rd' (rd_move' rfl) rfl rfl (wt_none' rfl) ?_
  obtain ⟨r12, hr12, hp⟩ := bind_some hp
  refine sx_ox' (ox_callg' (ent_fn' Tryd.func36 isn36 rfl rfl) (r3_Mat_At_sim _ _ _ hr12 : Go.Sx.Fn Tryd.prog 36 [(Vl (.pointer (some wa0))), (Vl (.int .i64 0)), (Vl (.int .i64 1))] [⟨.pointer (some wa0), [(Vl (.pointer (wa0_0).1))], 48, none⟩, (Rw Kf 22 (Vs wa0_0) r10.1)] (fun x : Unit => (Vl (.float .f64 r12.2))) (fun x => [⟨.pointer (some wa0), [(Vl (.pointer (wa0_0).1))], 48, none⟩, (Rw Kf 22 (Vs wa0_0) r12.1)])) [0, 1] [] (by decide) (pick_cons rfl (pick_cons rfl pick_nil)) pick_nil (Hn := fun x : Unit => [⟨.pointer (some wa0), [(Vl (.pointer (wa0_0).1))], 48, none⟩, (Rw Kf 22 (Vs wa0_0) r12.1)]) (fun _ => rfl) rfl rfl) (wt_none' rfl) fun ⟨⟩ => ?_
  refine sx_rd' (rd_assign' rfl) rfl rfl (wt_none' rfl) ?_
  refine sx_nil' ?_
  show TX E K3 _
  refine tx_k' hK3 ?_
  refine cx_seq' fun K4 hK4 => ?_
  refine cx_region' ?_
  refine sx_rd' (rd_move' rfl) rfl rfl (wt_none' rfl) ?_
  obtain ⟨r14, hr14, hp⟩ := bind_some hp
  refine sx_ox' (ox_callg' (ent_fn' Tryd.func36 isn36 rfl rfl) (r3_Mat_At_sim _ _ _ hr14 : Go.Sx.Fn Tryd.prog 36 [(Vl (.pointer (some wa0))), (Vl (.int .i64 0)), (Vl (.int .i64 2))] [⟨.pointer (some wa0), [(Vl (.pointer (wa0_0).1))], 48, none⟩, (Rw Kf 22 (Vs wa0_0) r12.1)] (fun x : Unit => (Vl (.float .f64 r14.2))) (fun x => [⟨.pointer (some wa0), [(Vl (.pointer (wa0_0).1))], 48, none⟩, (Rw Kf 22 (Vs wa0_0) r14.1)])) [0, 1] [] (by decide) (pick_cons rfl (pick_cons rfl pick_nil)) pick_nil (Hn := fun x : Unit => [⟨.pointer (some wa0), [(Vl (.pointer (wa0_0).1))], 48, none⟩, (Rw Kf 22 (Vs wa0_0) r14.1)]) (fun _ => rfl) rfl rfl) (wt_none' rfl) fun ⟨⟩ => ?_
  refine sx_rd' (rd_assign' rfl) rfl rfl (wt_none' rfl) ?_
  refine sx_nil' ?_
  show TX E K4 _
  refine tx_k' hK4 ?_
  refine cx_seq' fun K5 hK5 => ?_
  refine cx_region' ?_
  refine sx_rd' (rd_move' rfl) rfl rfl (wt_none' rfl) ?_
  obtain ⟨r16, hr16, hp⟩ := bind_some hp
  refine sx_ox' (ox_callg' (ent_fn' Tryd.func36 isn36 rfl rfl) (r3_Mat_At_sim _ _ _ hr16 : Go.Sx.Fn Tryd.prog 36 [(Vl (.pointer (some wa0))), (Vl (.int .i64 1)), (Vl (.int .i64 1))] [⟨.pointer (some wa0), [(Vl (.pointer (wa0_0).1))], 48, none⟩, (Rw Kf 22 (Vs wa0_0) r14.1)] (fun x : Unit => (Vl (.float .f64 r16.2))) (fun x => [⟨.pointer (some wa0), [(Vl (.pointer (wa0_0).1))], 48, none⟩, (Rw Kf 22 (Vs wa0_0) r16.1)])) [0, 1] [] (by decide) (pick_cons rfl (pick_cons rfl pick_nil)) pick_nil (Hn := fun x : Unit => [⟨.pointer (some wa0), [(Vl (.pointer (wa0_0).1))], 48, none⟩, (Rw Kf 22 (Vs wa0_0) r16.1)]) (fun _ => rfl) rfl rfl) (wt_none' rfl) fun ⟨⟩ => ?_
  refine sx_rd' (rd_move' rfl) rfl rfl (wt_none' rfl) ?_
  obtain ⟨r18, hr18, hp⟩ := bind_some hp
  refine sx_ox' (ox_callg' (ent_fn' Tryd.func36 isn36 rfl rfl) (r3_Mat_At_sim _ _ _ hr18 : Go.Sx.Fn Tryd.prog 36 [(Vl (.pointer (some wa0))), (Vl (.int .i64 2)), (Vl (.int .i64 2))] [⟨.pointer (some wa0), [(Vl (.pointer (wa0_0).1))], 48, none⟩, (Rw Kf 22 (Vs wa0_0) r16.1)] (fun x : Unit => (Vl (.float .f64 r18.2))) (fun x => [⟨.pointer (some wa0), [(Vl (.pointer (wa0_0).1))], 48, none⟩, (Rw Kf 22 (Vs wa0_0) r18.1)])) [0, 1] [] (by decide) (pick_cons rfl (pick_cons rfl pick_nil)) pick_nil (Hn := fun x : Unit => [⟨.pointer (some wa0), [(Vl (.pointer (wa0_0).1))], 48, none⟩, (Rw Kf 22 (Vs wa0_0) r18.1)]) (fun _ => rfl) rfl rfl) (wt_none' rfl) fun ⟨⟩ => ?_
  obtain ⟨r19, hr19, hp⟩ := bind_some hp
  refine sx_ox' (ox_fop' (.inr (.inr (.inl rfl))) (fl_v rfl) (fl_v rfl) (Option.some.inj hr19) rfl rfl) (wt_none' rfl) fun _ => ?_
  refine sx_rd' (rd_move' rfl) rfl rfl (wt_none' rfl) ?_
  obtain ⟨r21, hr21, hp⟩ := bind_some hp
  refine sx_ox' (ox_callg' (ent_fn' Tryd.func36 isn36 rfl rfl) (r3_Mat_At_sim _ _ _ hr21 : Go.Sx.Fn Tryd.prog 36 [(Vl (.pointer (some wa0))), (Vl (.int .i64 1)), (Vl (.int .i64 2))] [⟨.pointer (some wa0), [(Vl (.pointer (wa0_0).1))], 48, none⟩, (Rw Kf 22 (Vs wa0_0) r18.1)] (fun x : Unit => (Vl (.float .f64 r21.2))) (fun x => [⟨.pointer (some wa0), [(Vl (.pointer (wa0_0).1))], 48, none⟩, (Rw Kf 22 (Vs wa0_0) r21.1)])) [0, 1] [] (by decide) (pick_cons rfl (pick_cons rfl pick_nil)) pick_nil (Hn := fun x : Unit => [⟨.pointer (some wa0), [(Vl (.pointer (wa0_0).1))], 48, none⟩, (Rw Kf 22 (Vs wa0_0) r21.1)]) (fun _ => rfl) rfl rfl) (wt_none' rfl) fun ⟨⟩ => ?_
  refine sx_rd' (rd_move' rfl) rfl rfl (wt_none' rfl) ?_
  obtain ⟨r23, hr23, hp⟩ := bind_some hp
  refine sx_ox' (ox_callg' (ent_fn' Tryd.func36 isn36 rfl rfl) (r3_Mat_At_sim _ _ _ hr23 : Go.Sx.Fn Tryd.prog 36 [(Vl (.pointer (some wa0))), (Vl (.int .i64 2)), (Vl (.int .i64 1))] [⟨.pointer (some wa0), [(Vl (.pointer (wa0_0).1))], 48, none⟩, (Rw Kf 22 (Vs wa0_0) r21.1)] (fun x : Unit => (Vl (.float .f64 r23.2))) (fun x => [⟨.pointer (some wa0), [(Vl (.pointer (wa0_0).1))], 48, none⟩, (Rw Kf 22 (Vs wa0_0) r23.1)])) [0, 1] [] (by decide) (pick_cons rfl (pick_cons rfl pick_nil)) pick_nil (Hn := fun x : Unit => [⟨.pointer (some wa0), [(Vl (.pointer (wa0_0).1))], 48, none⟩, (Rw Kf 22 (Vs wa0_0) r23.1)]) (fun _ => rfl) rfl rfl) (wt_none' rfl) fun ⟨⟩ => ?_
  obtain ⟨r24, hr24, hp⟩ := bind_some hp
  refine sx_ox' (ox_fop' (.inr (.inr (.inl rfl))) (fl_v rfl) (fl_v rfl) (Option.some.inj hr24) rfl rfl) (wt_none' rfl) fun _ => ?_
  obtain ⟨r25, hr25, hp⟩ := bind_some hp
  refine sx_ox' (ox_fop' (.inr (.inl rfl)) (fl_f rfl) (fl_f rfl) (Option.some.inj hr25) rfl rfl) (wt_none' rfl) fun _ => ?_
  refine sx_rd' (rd_assign' rfl) rfl rfl (wt_none' rfl) ?_
  refine sx_nil' ?_
  show TX E K5 _
  refine tx_k' hK5 ?_
  refine cx_seq' fun K6 hK6 => ?_
  refine cx_region' ?_
  refine sx_rd' (rd_move' rfl) rfl rfl (wt_none' rfl) ?_
  obtain ⟨r27, hr27, hp⟩ := bind_some hp
  refine sx_ox' (ox_callg' (ent_fn' Tryd.func36 isn36 rfl rfl) (r3_Mat_At_sim _ _ _ hr27 : Go.Sx.Fn Tryd.prog 36 [(Vl (.pointer (some wa0))), (Vl (.int .i64 1)), (Vl (.int .i64 0))] [⟨.pointer (some wa0), [(Vl (.pointer (wa0_0).1))], 48, none⟩, (Rw Kf 22 (Vs wa0_0) r23.1)] (fun x : Unit => (Vl (.float .f64 r27.2))) (fun x => [⟨.pointer (some wa0), [(Vl (.pointer (wa0_0).1))], 48, none⟩, (Rw Kf 22 (Vs wa0_0) r27.1)])) [0, 1] [] (by decide) (pick_cons rfl (pick_cons rfl pick_nil)) pick_nil (Hn := fun x : Unit => [⟨.pointer (some wa0), [(Vl (.pointer (wa0_0).1))], 48, none⟩, (Rw Kf 22 (Vs wa0_0) r27.1)]) (fun _ => rfl) rfl rfl) (wt_none' rfl) fun ⟨⟩ => ?_
  refine sx_rd' (rd_move' rfl) rfl rfl (wt_none' rfl) ?_
  obtain ⟨r29, hr29, hp⟩ := bind_some hp
  refine sx_ox' (ox_callg' (ent_fn' Tryd.func36 isn36 rfl rfl) (r3_Mat_At_sim _ _ _ hr29 : Go.Sx.Fn Tryd.prog 36 [(Vl (.pointer (some wa0))), (Vl (.int .i64 2)), (Vl (.int .i64 2))] [⟨.pointer (some wa0), [(Vl (.pointer (wa0_0).1))], 48, none⟩, (Rw Kf 22 (Vs wa0_0) r27.1)] (fun x : Unit => (Vl (.float .f64 r29.2))) (fun x => [⟨.pointer (some wa0), [(Vl (.pointer (wa0_0).1))], 48, none⟩, (Rw Kf 22 (Vs wa0_0) r29.1)])) [0, 1] [] (by decide) (pick_cons rfl (pick_cons rfl pick_nil)) pick_nil (Hn := fun x : Unit => [⟨.pointer (some wa0), [(Vl (.pointer (wa0_0).1))], 48, none⟩, (Rw Kf 22 (Vs wa0_0) r29.1)]) (fun _ => rfl) rfl rfl) (wt_none' rfl) fun ⟨⟩ => ?_
  obtain ⟨r30, hr30, hp⟩ := bind_some hp
  refine sx_ox' (ox_fop' (.inr (.inr (.inl rfl))) (fl_v rfl) (fl_v rfl) (Option.some.inj hr30) rfl rfl) (wt_none' rfl) fun _ => ?_
  refine sx_rd' (rd_move' rfl) rfl rfl (wt_none' rfl) ?_
  obtain ⟨r32, hr32, hp⟩ := bind_some hp
  refine sx_ox' (ox_callg' (ent_fn' Tryd.func36 isn36 rfl rfl) (r3_Mat_At_sim _ _ _ hr32 : Go.Sx.Fn Tryd.prog 36 [(Vl (.pointer (some wa0))), (Vl (.int .i64 1)), (Vl (.int .i64 2))] [⟨.pointer (some wa0), [(Vl (.pointer (wa0_0).1))], 48, none⟩, (Rw Kf 22 (Vs wa0_0) r29.1)] (fun x : Unit => (Vl (.float .f64 r32.2))) (fun x => [⟨.pointer (some wa0), [(Vl (.pointer (wa0_0).1))], 48, none⟩, (Rw Kf 22 (Vs wa0_0) r32.1)])) [0, 1] [] (by decide) (pick_cons rfl (pick_cons rfl pick_nil)) pick_nil (Hn := fun x : Unit => [⟨.pointer (some wa0), [(Vl (.pointer (wa0_0).1))], 48, none⟩, (Rw Kf 22 (Vs wa0_0) r32.1)]) (fun _ => rfl) rfl rfl) (wt_none' rfl) fun ⟨⟩ => ?_
  refine sx_rd' (rd_move' rfl) rfl rfl (wt_none' rfl) ?_
  obtain ⟨r34, hr34, hp⟩ := bind_some hp
  refine sx_ox' (ox_callg' (ent_fn' Tryd.func36 isn36 rfl rfl) (r3_Mat_At_sim _ _ _ hr34 : Go.Sx.Fn Tryd.prog 36 [(Vl (.pointer (some wa0))), (Vl (.int .i64 2)), (Vl (.int .i64 0))] [⟨.pointer (some wa0), [(Vl (.pointer (wa0_0).1))], 48, none⟩, (Rw Kf 22 (Vs wa0_0) r32.1)] (fun x : Unit => (Vl (.float .f64 r34.2))) (fun x => [⟨.pointer (some wa0), [(Vl (.pointer (wa0_0).1))], 48, none⟩, (Rw Kf 22 (Vs wa0_0) r34.1)])) [0, 1] [] (by decide) (pick_cons rfl (pick_cons rfl pick_nil)) pick_nil (Hn := fun x : Unit => [⟨.pointer (some wa0), [(Vl (.pointer (wa0_0).1))], 48, none⟩, (Rw Kf 22 (Vs wa0_0) r34.1)]) (fun _ => rfl) rfl rfl) (wt_none' rfl) fun ⟨⟩ => ?_
  obtain ⟨r35, hr35, hp⟩ := bind_some hp
  refine sx_ox' (ox_fop' (.inr (.inr (.inl rfl))) (fl_v rfl) (fl_v rfl) (Option.some.inj hr35) rfl rfl) (wt_none' rfl) fun _ => ?_
  obtain ⟨r36, hr36, hp⟩ := bind_some hp
  refine sx_ox' (ox_fop' (.inr (.inl rfl)) (fl_f rfl) (fl_f rfl) (Option.some.inj hr36) rfl rfl) (wt_none' rfl) fun _ => ?_
  refine sx_rd' (rd_assign' rfl) rfl rfl (wt_none' rfl) ?_
  refine sx_nil' ?_
  show TX E K6 _
  refine tx_k' hK6 ?_
  refine cx_seq' fun K7 hK7 => ?_
  refine cx_region' ?_
  refine sx_rd' (rd_move' rfl) rfl rfl (wt_none' rfl) ?_
  obtain ⟨r38, hr38, hp⟩ := bind_some hp
  refine sx_ox' (ox_callg' (ent_fn' Tryd.func36 isn36 rfl rfl) (r3_Mat_At_sim _ _ _ hr38 : Go.Sx.Fn Tryd.prog 36 [(Vl (.pointer (some wa0))), (Vl (.int .i64 1)), (Vl (.int .i64 0))] [⟨.pointer (some wa0), [(Vl (.pointer (wa0_0).1))], 48, none⟩, (Rw Kf 22 (Vs wa0_0) r34.1)] (fun x : Unit => (Vl (.float .f64 r38.2))) (fun x => [⟨.pointer (some wa0), [(Vl (.pointer (wa0_0).1))], 48, none⟩, (Rw Kf 22 (Vs wa0_0) r38.1)])) [0, 1] [] (by decide) (pick_cons rfl (pick_cons rfl pick_nil)) pick_nil (Hn := fun x : Unit => [⟨.pointer (some wa0), [(Vl (.pointer (wa0_0).1))], 48, none⟩, (Rw Kf 22 (Vs wa0_0) r38.1)]) (fun _ => rfl) rfl rfl) (wt_none' rfl) fun ⟨⟩ => ?_
  refine sx_rd' (rd_move' rfl) rfl rfl (wt_none' rfl) ?_
  obtain ⟨r40, hr40, hp⟩ := bind_some hp
  refine sx_ox' (ox_callg' (ent_fn' Tryd.func36 isn36 rfl rfl) (r3_Mat_At_sim _ _ _ hr40 : Go.Sx.Fn Tryd.prog 36 [(Vl (.pointer (some wa0))), (Vl (.int .i64 2)), (Vl (.int .i64 1))] [⟨.pointer (some wa0), [(Vl (.pointer (wa0_0).1))], 48, none⟩, (Rw Kf 22 (Vs wa0_0) r38.1)] (fun x : Unit => (Vl (.float .f64 r40.2))) (fun x => [⟨.pointer (some wa0), [(Vl (.pointer (wa0_0).1))], 48, none⟩, (Rw Kf 22 (Vs wa0_0) r40.1)])) [0, 1] [] (by decide) (pick_cons rfl (pick_cons rfl pick_nil)) pick_nil (Hn := fun x : Unit => [⟨.pointer (some wa0), [(Vl (.pointer (wa0_0).1))], 48, none⟩, (Rw Kf 22 (Vs wa0_0) r40.1)]) (fun _ => rfl) rfl rfl) (wt_none' rfl) fun ⟨⟩ => ?_
  obtain ⟨r41, hr41, hp⟩ := bind_some hp
  refine sx_ox' (ox_fop' (.inr (.inr (.inl rfl))) (fl_v rfl) (fl_v rfl) (Option.some.inj hr41) rfl rfl) (wt_none' rfl) fun _ => ?_
  refine sx_rd' (rd_move' rfl) rfl rfl (wt_none' rfl) ?_
  obtain ⟨r43, hr43, hp⟩ := bind_some hp
  refine sx_ox' (ox_callg' (ent_fn' Tryd.func36 isn36 rfl rfl) (r3_Mat_At_sim _ _ _ hr43 : Go.Sx.Fn Tryd.prog 36 [(Vl (.pointer (some wa0))), (Vl (.int .i64 1)), (Vl (.int .i64 1))] [⟨.pointer (some wa0), [(Vl (.pointer (wa0_0).1))], 48, none⟩, (Rw Kf 22 (Vs wa0_0) r40.1)] (fun x : Unit => (Vl (.float .f64 r43.2))) (fun x => [⟨.pointer (some wa0), [(Vl (.pointer (wa0_0).1))], 48, none⟩, (Rw Kf 22 (Vs wa0_0) r43.1)])) [0, 1] [] (by decide) (pick_cons rfl (pick_cons rfl pick_nil)) pick_nil (Hn := fun x : Unit => [⟨.pointer (some wa0), [(Vl (.pointer (wa0_0).1))], 48, none⟩, (Rw Kf 22 (Vs wa0_0) r43.1)]) (fun _ => rfl) rfl rfl) (wt_none' rfl) fun ⟨⟩ => ?_
  refine sx_rd' (rd_move' rfl) rfl rfl (wt_none' rfl) ?_
  obtain ⟨r45, hr45, hp⟩ := bind_some hp
  refine sx_ox' (ox_callg' (ent_fn' Tryd.func36 isn36 rfl rfl) (r3_Mat_At_sim _ _ _ hr45 : Go.Sx.Fn Tryd.prog 36 [(Vl (.pointer (some wa0))), (Vl (.int .i64 2)), (Vl (.int .i64 0))] [⟨.pointer (some wa0), [(Vl (.pointer (wa0_0).1))], 48, none⟩, (Rw Kf 22 (Vs wa0_0) r43.1)] (fun x : Unit => (Vl (.float .f64 r45.2))) (fun x => [⟨.pointer (some wa0), [(Vl (.pointer (wa0_0).1))], 48, none⟩, (Rw Kf 22 (Vs wa0_0) r45.1)])) [0, 1] [] (by decide) (pick_cons rfl (pick_cons rfl pick_nil)) pick_nil (Hn := fun x : Unit => [⟨.pointer (some wa0), [(Vl (.pointer (wa0_0).1))], 48, none⟩, (Rw Kf 22 (Vs wa0_0) r45.1)]) (fun _ => rfl) rfl rfl) (wt_none' rfl) fun ⟨⟩ => ?_
  obtain ⟨r46, hr46, hp⟩ := bind_some hp
  refine sx_ox' (ox_fop' (.inr (.inr (.inl rfl))) (fl_v rfl) (fl_v rfl) (Option.some.inj hr46) rfl rfl) (wt_none' rfl) fun _ => ?_
  obtain ⟨r47, hr47, hp⟩ := bind_some hp
  refine sx_ox' (ox_fop' (.inr (.inl rfl)) (fl_f rfl) (fl_f rfl) (Option.some.inj hr47) rfl rfl) (wt_none' rfl) fun _ => ?_
  refine sx_rd' (rd_assign' rfl) rfl rfl (wt_none' rfl) ?_
  refine sx_nil' ?_
  show TX E K7 _
  refine tx_k' hK7 ?_
  refine cx_seq' fun K8 hK8 => ?_
  refine cx_region' ?_
  refine sx_rd' (rd_move' rfl) rfl rfl (wt_none' rfl) ?_
  refine sx_rd' (rd_move' rfl) rfl rfl (wt_none' rfl) ?_
  obtain ⟨r50, hr50, hp⟩ := bind_some hp
  refine sx_ox' (ox_fop' (.inr (.inr (.inl rfl))) (fl_v rfl) (fl_f rfl) (Option.some.inj hr50) rfl rfl) (wt_none' rfl) fun _ => ?_
  refine sx_rd' (rd_move' rfl) rfl rfl (wt_none' rfl) ?_
  refine sx_rd' (rd_move' rfl) rfl rfl (wt_none' rfl) ?_
  obtain ⟨r53, hr53, hp⟩ := bind_some hp
  refine sx_ox' (ox_fop' (.inr (.inr (.inl rfl))) (fl_v rfl) (fl_f rfl) (Option.some.inj hr53) rfl rfl) (wt_none' rfl) fun _ => ?_
  obtain ⟨r54, hr54, hp⟩ := bind_some hp
  refine sx_ox' (ox_fop' (.inr (.inl rfl)) (fl_f rfl) (fl_f rfl) (Option.some.inj hr54) rfl rfl) (wt_none' rfl) fun _ => ?_
  refine sx_rd' (rd_move' rfl) rfl rfl (wt_none' rfl) ?_
  refine sx_rd' (rd_move' rfl) rfl rfl (wt_none' rfl) ?_
  obtain ⟨r57, hr57, hp⟩ := bind_some hp
  refine sx_ox' (ox_fop' (.inr (.inr (.inl rfl))) (fl_v rfl) (fl_f rfl) (Option.some.inj hr57) rfl rfl) (wt_none' rfl) fun _ => ?_
  obtain ⟨r58, hr58, hp⟩ := bind_some hp
  refine sx_ox' (ox_fop' (.inl rfl) (fl_f rfl) (fl_f rfl) (Option.some.inj hr58) rfl rfl) (wt_none' rfl) fun _ => ?_
  refine sx_rd' (rd_assign' rfl) rfl rfl (wt_none' rfl) ?_
  refine sx_nil' ?_
  show TX E K8 _
  refine tx_k' hK8 ?_
  refine cx_retc' ?_
  replace hp := Option.some.inj hp
  subst hp
  refine tx_pick' (L' := [(2, (Fl r58))]) (H' := [⟨.pointer (some wa0), [(Vl (.pointer (wa0_0).1))], 48, none⟩, (Rw Kf 22 (Vs wa0_0) r45.1)]) [0, 1] (sub_cons rfl sub_nil) (by decide) (pick_cons rfl (pick_cons rfl pick_nil)) ?_
  exact tx_ret1' Tryd.results18 rfl () (rv_tmp' rfl) (List.Sublist.refl _)

def impl_MatDet (k : Nat) (a0_0 : Nat) (a0_1 : Nat) (a0_2 : Nat) (a0_3 : Nat) (a0_4 : Nat) (a0_5 : Nat) (a0_6 : Nat) (a0_7 : Nat) (a0_8 : Nat) : Option (Nat) :=
  (impl_mat k a0_0 a0_1 a0_2 a0_3 a0_4 a0_5 a0_6 a0_7 a0_8) >>= fun r4 =>
  (r3_Mat_Det k r4) >>= fun r5 =>
  some r5.2

theorem impl_MatDet_sim {k : Nat}  (a0_0 : Nat) (a0_1 : Nat) (a0_2 : Nat) (a0_3 : Nat) (a0_4 : Nat) (a0_5 : Nat) (a0_6 : Nat) (a0_7 : Nat) (a0_8 : Nat) {out : Nat} (hp : impl_MatDet k a0_0 a0_1 a0_2 a0_3 a0_4 a0_5 a0_6 a0_7 a0_8 = some out) : Go.Sx.Fn Tryd.prog 8 [(Ag [(Vl (.float .f64 a0_0)), (Vl (.float .f64 a0_1)), (Vl (.float .f64 a0_2)), (Vl (.float .f64 a0_3)), (Vl (.float .f64 a0_4)), (Vl (.float .f64 a0_5)), (Vl (.float .f64 a0_6)), (Vl (.float .f64 a0_7)), (Vl (.float .f64 a0_8))])] [] (fun w : Unit => (Fl out)) (fun w => []) := by
  unfold impl_MatDet at hp
  refine fn_of Tryd.func8 rfl Tryd.ntmps8 rfl fun E hM => ?_
  refine cx_seq' fun K1 hK1 => ?_
  refine cx_region' ?_
  refine sx_ox' (ox_box' rfl (lv_ag _) rfl rfl) (wt_none' rfl) fun q1 => ?_
  refine sx_rd' (rd_assign' rfl) rfl rfl (wt_none' rfl) ?_
  refine sx_nil' ?_
  show TX E K1 _
  refine tx_k' hK1 ?_
  refine cx_seq' fun K2 hK2 => ?_
  refine cx_region' ?_
  refine sx_rd' (rd_load_agg' (i := 0) (o := 0) (nn := 9) rfl ⟨rfl, rfl, rfl, rfl⟩ rfl agg24 (l' := [(Vl (.float .f64 a0_0)), (Vl (.float .f64 a0_1)), (Vl (.float .f64 a0_2)), (Vl (.float .f64 a0_3)), (Vl (.float .f64 a0_4)), (Vl (.float .f64 a0_5)), (Vl (.float .f64 a0_6)), (Vl (.float .f64 a0_7)), (Vl (.float .f64 a0_8))]) rfl) rfl rfl (wt_none' rfl) ?_
  obtain ⟨r4, hr4, hp⟩ := bind_some hp
  refine sx_ox' (ox_calln' (ent_fn' Tryd.func17 isn17 rfl rfl) (impl_mat_sim _ _ _ _ _ _ _ _ _ hr4 : Go.Sx.Fn Tryd.prog 17 [(Ag [(Vl (.float .f64 a0_0)), (Vl (.float .f64 a0_1)), (Vl (.float .f64 a0_2)), (Vl (.float .f64 a0_3)), (Vl (.float .f64 a0_4)), (Vl (.float .f64 a0_5)), (Vl (.float .f64 a0_6)), (Vl (.float .f64 a0_7)), (Vl (.float .f64 a0_8))])] [] (fun x : Addr × Gs => (Vl (.pointer (some x.1)))) (fun x => [⟨.pointer (some x.1), [(Vl (.pointer (x.2).1))], 48, none⟩, (Rw Kf 22 (Vs x.2) r4)])) (Hn := fun x : Addr × Gs => [⟨.pointer (some x.1), [(Vl (.pointer (x.2).1))], 48, none⟩, (Rw Kf 22 (Vs x.2) r4), ⟨.pointer (some q1), [(Vl (.float .f64 a0_0)), (Vl (.float .f64 a0_1)), (Vl (.float .f64 a0_2)), (Vl (.float .f64 a0_3)), (Vl (.float .f64 a0_4)), (Vl (.float .f64 a0_5)), (Vl (.float .f64 a0_6)), (Vl (.float .f64 a0_7)), (Vl (.float .f64 a0_8))], 24, none⟩]) (fun _ => rfl) rfl rfl) (wt_none' rfl) fun ⟨q4, g4⟩ => ?_
  obtain ⟨r5, hr5, hp⟩ := bind_some hp
  refine sx_ox' (ox_callg' (ent_fn' Tryd.func18 isn18 rfl rfl) (r3_Mat_Det_sim _ hr5 : Go.Sx.Fn Tryd.prog 18 [(Vl (.pointer (some q4)))] [⟨.pointer (some q4), [(Vl (.pointer (g4).1))], 48, none⟩, (Rw Kf 22 (Vs g4) r4)] (fun x : Unit => (Fl r5.2)) (fun x => [⟨.pointer (some q4), [(Vl (.pointer (g4).1))], 48, none⟩, (Rw Kf 22 (Vs g4) r5.1)])) [0, 1] [2] (by decide) (pick_cons rfl (pick_cons rfl pick_nil)) (pick_cons rfl pick_nil) (Hn := fun x : Unit => [⟨.pointer (some q4), [(Vl (.pointer (g4).1))], 48, none⟩, (Rw Kf 22 (Vs g4) r5.1), ⟨.pointer (some q1), [(Vl (.float .f64 a0_0)), (Vl (.float .f64 a0_1)), (Vl (.float .f64 a0_2)), (Vl (.float .f64 a0_3)), (Vl (.float .f64 a0_4)), (Vl (.float .f64 a0_5)), (Vl (.float .f64 a0_6)), (Vl (.float .f64 a0_7)), (Vl (.float .f64 a0_8))], 24, none⟩]) (fun _ => rfl) rfl rfl) (wt_none' rfl) fun ⟨⟩ => ?_
  refine sx_rd' (rd_assign' rfl) rfl rfl (wt_none' rfl) ?_
  refine sx_nil' ?_
  show TX E K2 _
  refine tx_k' hK2 ?_
  refine cx_retc' ?_
  replace hp := Option.some.inj hp
  subst hp
  refine tx_pick' (L' := [(2, (Fl r5.2))]) (H' := []) [] (sub_cons rfl sub_nil) (by decide) pick_nil ?_
  exact tx_ret1' Tryd.results8 rfl () (rv_tmp' rfl) (List.Sublist.refl _)

def r3_Mat_T (k : Nat) (a0_0 : List Nat) : Option ((List Nat)) :=
  some a0_0

theorem r3_Mat_T_sim {k : Nat} {wa0 : Addr} {wa0_0 : Gs} (a0_0 : List Nat) {out : (List Nat)} (hp : r3_Mat_T k a0_0 = some out) : Go.Sx.Fn Tryd.prog 20 [(Vl (.pointer (some wa0)))] [⟨.pointer (some wa0), [(Vl (.pointer (wa0_0).1))], 48, none⟩, (Rw Kf 22 (Vs wa0_0) a0_0)] (fun w : Unit => (If 80 (Ag [(If 43 (Vl (.pointer (some wa0))))]))) (fun w => [⟨.pointer (some wa0), [(Vl (.pointer (wa0_0).1))], 48, none⟩, (Rw Kf 22 (Vs wa0_0) out)]) := by
  unfold r3_Mat_T at hp
  refine fn_of Tryd.func20 rfl Tryd.ntmps20 rfl fun E hM => ?_
  refine cx_seq' fun K1 hK1 => ?_
  refine cx_region' ?_
  refine sx_rd' (rd_assign' rfl) rfl rfl (wt_none' rfl) ?_
  refine sx_nil' ?_
  show TX E K1 _
  refine tx_k' hK1 ?_
  refine cx_seq' fun K2 hK2 => ?_
  refine cx_region' ?_
  refine sx_rd' (rd_move' rfl) rfl rfl (wt_none' rfl) ?_
  refine sx_rd' (rd_iface' rfl ⟨_, Tryd.underlying43, fun _ h => (nomatch h)⟩) rfl rfl (wt_none' rfl) ?_
  refine sx_rd' (rd_build' (pls := [(0, 1)]) (qs := [(0, [(If 43 (Vl (.pointer (some wa0))))])]) (r := [(If 43 (Vl (.pointer (some wa0))))]) ⟨rfl, ⟨_, rfl, (lv_if _ _)⟩, trivial⟩ Tryd.underlying80 has80 places80 info80 rfl rfl rfl) rfl rfl (wt_none' rfl) ?_
  refine sx_rd' (rd_iface' rfl ⟨_, Tryd.underlying80, fun _ h => (nomatch h)⟩) rfl rfl (wt_none' rfl) ?_
  refine sx_rd' (rd_assign' rfl) rfl rfl (wt_none' rfl) ?_
  refine sx_nil' ?_
  show TX E K2 _
  refine tx_k' hK2 ?_
  refine cx_retc' ?_
  replace hp := Option.some.inj hp
  subst hp
  refine tx_pick' (L' := [(2, (If 80 (Ag [(If 43 (Vl (.pointer (some wa0))))])))]) (H' := [⟨.pointer (some wa0), [(Vl (.pointer (wa0_0).1))], 48, none⟩, (Rw Kf 22 (Vs wa0_0) a0_0)]) [0, 1] (sub_cons rfl sub_nil) (by decide) (pick_cons rfl (pick_cons rfl pick_nil)) ?_
  exact tx_ret1' Tryd.results20 rfl () (rv_tmp' rfl) (List.Sublist.refl _)

def r3_Mat_Dims (k : Nat) (a0_0 : List Nat) : Option ((List Nat) × Int) :=
  some (a0_0, 3)

theorem r3_Mat_Dims_sim {k : Nat} {wa0 : Addr} {wa0_0 : Gs} (a0_0 : List Nat) {out : (List Nat) × Int} (hp : r3_Mat_Dims k a0_0 = some out) : Go.Sx.Fn Tryd.prog 69 [(Vl (.pointer (some wa0)))] [⟨.pointer (some wa0), [(Vl (.pointer (wa0_0).1))], 48, none⟩, (Rw Kf 22 (Vs wa0_0) a0_0)] (fun w : Unit => (Tu [(Vl (.int .i64 out.2)), (Vl (.int .i64 out.2))])) (fun w => [⟨.pointer (some wa0), [(Vl (.pointer (wa0_0).1))], 48, none⟩, (Rw Kf 22 (Vs wa0_0) out.1)]) := by
  unfold r3_Mat_Dims at hp
  refine fn_of Tryd.func69 rfl Tryd.ntmps69 rfl fun E hM => ?_
  refine cx_seq' fun K1 hK1 => ?_
  refine cx_region' ?_
  refine sx_rd' (rd_assign' rfl) rfl rfl (wt_none' rfl) ?_
  refine sx_rd' (rd_assign' rfl) rfl rfl (wt_none' rfl) ?_
  refine sx_nil' ?_
  show TX E K1 _
  refine tx_k' hK1 ?_
  refine cx_seq' fun K2 hK2 => ?_
  refine cx_region' ?_
  refine sx_rd' (rd_assign' rfl) rfl rfl (wt_none' rfl) ?_
  refine sx_rd' (rd_assign' rfl) rfl rfl (wt_none' rfl) ?_
  refine sx_nil' ?_
  show TX E K2 _
  refine tx_k' hK2 ?_
  refine cx_retc' ?_
  replace hp := Option.some.inj hp
  subst hp
  refine tx_pick' (L' := [(2, (Vl (.int .i64 3))), (3, (Vl (.int .i64 3)))]) (H' := [⟨.pointer (some wa0), [(Vl (.pointer (wa0_0).1))], 48, none⟩, (Rw Kf 22 (Vs wa0_0) a0_0)]) [0, 1] (sub_cons rfl (sub_cons rfl sub_nil)) (by decide) (pick_cons rfl (pick_cons rfl pick_nil)) ?_
  exact tx_ret2' Tryd.results69 rfl () (rv_tmp' rfl) (rv_tmp' rfl) rfl (List.Sublist.refl _)

def mat_Transpose_Dims (k : Nat) (a0_0_0 : List Nat) : Option ((List Nat) × Int) :=
  (r3_Mat_Dims k a0_0_0) >>= fun r7 =>
  some (r7.1, r7.2)

theorem mat_Transpose_Dims_sim {k : Nat} {wa0_0 : Addr} {wa0_0_0 : Gs} (a0_0_0 : List Nat) {out : (List Nat) × Int} (hp : mat_Transpose_Dims k a0_0_0 = some out) : Go.Sx.Fn Tryd.prog 78 [(Ag [(If 43 (Vl (.pointer (some wa0_0))))])] [⟨.pointer (some wa0_0), [(Vl (.pointer (wa0_0_0).1))], 48, none⟩, (Rw Kf 22 (Vs wa0_0_0) a0_0_0)] (fun w : Unit => (Tu [(Vl (.int .i64 out.2)), (Vl (.int .i64 out.2))])) (fun w => [⟨.pointer (some wa0_0), [(Vl (.pointer (wa0_0_0).1))], 48, none⟩, (Rw Kf 22 (Vs wa0_0_0) out.1)]) := by
  unfold mat_Transpose_Dims at hp
  refine fn_of Tryd.func78 rfl Tryd.ntmps78 rfl fun E hM => ?_
  refine cx_seq' fun K1 hK1 => ?_
  refine cx_region' ?_
  refine sx_ox' (ox_box' rfl (lv_ag _) rfl rfl) (wt_none' rfl) fun q1 => ?_
  refine sx_rd' (rd_assign' rfl) rfl rfl (wt_none' rfl) ?_
  refine sx_rd' (rd_assign' rfl) rfl rfl (wt_none' rfl) ?_
  refine sx_nil' ?_
  show TX E K1 _
  refine tx_k' hK1 ?_
  refine cx_seq' fun K2 hK2 => ?_
  refine cx_region' ?_
  refine sx_rd' (rd_field0' rfl Tryd.underlying80 rfl info51 rfl) rfl rfl (wt_none' rfl) ?_
  refine sx_rd' (rd_load' (i := 0) (o := 0) rfl ⟨rfl, rfl, rfl, rfl⟩ rfl flat51) rfl rfl (wt_none' rfl) ?_
  obtain ⟨r7, hr7, hp⟩ := bind_some hp
  refine sx_ox' (ox_callg' (ent_inv' rfl rfl (inv_any0 inv43_Dims)) (r3_Mat_Dims_sim _ hr7 : Go.Sx.Fn Tryd.prog 69 [(Vl (.pointer (some wa0_0)))] [⟨.pointer (some wa0_0), [(Vl (.pointer (wa0_0_0).1))], 48, none⟩, (Rw Kf 22 (Vs wa0_0_0) a0_0_0)] (fun x : Unit => (Tu [(Vl (.int .i64 r7.2)), (Vl (.int .i64 r7.2))])) (fun x => [⟨.pointer (some wa0_0), [(Vl (.pointer (wa0_0_0).1))], 48, none⟩, (Rw Kf 22 (Vs wa0_0_0) r7.1)])) [1, 2] [0] (by decide) (pick_cons rfl (pick_cons rfl pick_nil)) (pick_cons rfl pick_nil) (Hn := fun x : Unit => [⟨.pointer (some wa0_0), [(Vl (.pointer (wa0_0_0).1))], 48, none⟩, (Rw Kf 22 (Vs wa0_0_0) r7.1), ⟨.pointer (some q1), [(If 43 (Vl (.pointer (some wa0_0))))], 80, none⟩]) (fun _ => rfl) rfl rfl) (wt_none' rfl) fun ⟨⟩ => ?_
  refine sx_rd' (rd_move' rfl) rfl rfl (wt_none' rfl) ?_
  refine sx_rd' (rd_extract' rfl rfl) rfl rfl (wt_none' rfl) ?_
  refine sx_rd' (rd_extract' rfl rfl) rfl rfl (wt_none' rfl) ?_
  refine sx_rd' (rd_assign' rfl) rfl rfl (wt_none' rfl) ?_
  refine sx_rd' (rd_assign' rfl) rfl rfl (wt_none' rfl) ?_
  refine sx_nil' ?_
  show TX E K2 _
  refine tx_k' hK2 ?_
  refine cx_seq' fun K3 hK3 => ?_
  refine cx_region' ?_
  refine sx_rd' (rd_move' rfl) rfl rfl (wt_none' rfl) ?_
  refine sx_rd' (rd_move' rfl) rfl rfl (wt_none' rfl) ?_
  refine sx_rd' (rd_assign' rfl) rfl rfl (wt_none' rfl) ?_
  refine sx_rd' (rd_assign' rfl) rfl rfl (wt_none' rfl) ?_
  refine sx_nil' ?_
  show TX E K3 _
  refine tx_k' hK3 ?_
  refine cx_retc' ?_
  replace hp := Option.some.inj hp
  subst hp
  refine tx_pick' (L' := [(2, (Vl (.int .i64 r7.2))), (3, (Vl (.int .i64 r7.2)))]) (H' := [⟨.pointer (some wa0_0), [(Vl (.pointer (wa0_0_0).1))], 48, none⟩, (Rw Kf 22 (Vs wa0_0_0) r7.1)]) [0, 1] (sub_cons rfl (sub_cons rfl sub_nil)) (by decide) (pick_cons rfl (pick_cons rfl pick_nil)) ?_
  exact tx_ret2' Tryd.results78 rfl () (rv_tmp' rfl) (rv_tmp' rfl) rfl (List.Sublist.refl _)

def mat_Transpose_At (k : Nat) (a0_0_0 : List Nat) (a1 : Int) (a2 : Int) : Option ((List Nat) × Nat) :=
  (r3_Mat_At k a0_0_0 a2 a1) >>= fun r11 =>
  some (r11.1, r11.2)

theorem mat_Transpose_At_sim {k : Nat} {wa0_0 : Addr} {wa0_0_0 : Gs} (a0_0_0 : List Nat) (a1 : Int) (a2 : Int) {out : (List Nat) × Nat} (hp : mat_Transpose_At k a0_0_0 a1 a2 = some out) : Go.Sx.Fn Tryd.prog 77 [(Ag [(If 43 (Vl (.pointer (some wa0_0))))]), (Vl (.int .i64 a1)), (Vl (.int .i64 a2))] [⟨.pointer (some wa0_0), [(Vl (.pointer (wa0_0_0).1))], 48, none⟩, (Rw Kf 22 (Vs wa0_0_0) a0_0_0)] (fun w : Unit => (Vl (.float .f64 out.2))) (fun w => [⟨.pointer (some wa0_0), [(Vl (.pointer (wa0_0_0).1))], 48, none⟩, (Rw Kf 22 (Vs wa0_0_0) out.1)]) := by
  unfold mat_Transpose_At at hp
  refine fn_of Tryd.func77 rfl Tryd.ntmps77 rfl fun E hM => ?_
  refine cx_seq' fun K1 hK1 => ?_
  refine cx_region' ?_
  refine sx_ox' (ox_box' rfl (lv_ag _) rfl rfl) (wt_none' rfl) fun q3 => ?_
  refine sx_rd' (rd_assign' rfl) rfl rfl (wt_none' rfl) ?_
  refine sx_nil' ?_
  show TX E K1 _
  refine tx_k' hK1 ?_
  refine cx_seq' fun K2 hK2 => ?_
  refine cx_region' ?_
  refine sx_rd' (rd_field0' rfl Tryd.underlying80 rfl info51 rfl) rfl rfl (wt_none' rfl) ?_
  refine sx_rd' (rd_load' (i := 0) (o := 0) rfl ⟨rfl, rfl, rfl, rfl⟩ rfl flat51) rfl rfl (wt_none' rfl) ?_
  refine sx_rd' (rd_move' rfl) rfl rfl (wt_none' rfl) ?_
  refine sx_rd' (rd_move' rfl) rfl rfl (wt_none' rfl) ?_
  obtain ⟨r11, hr11, hp⟩ := bind_some hp
  refine sx_ox' (ox_callg' (ent_inv' rfl rfl (inv_any2 inv43_At)) (r3_Mat_At_sim _ _ _ hr11 : Go.Sx.Fn Tryd.prog 36 [(Vl (.pointer (some wa0_0))), (Vl (.int .i64 a2)), (Vl (.int .i64 a1))] [⟨.pointer (some wa0_0), [(Vl (.pointer (wa0_0_0).1))], 48, none⟩, (Rw Kf 22 (Vs wa0_0_0) a0_0_0)] (fun x : Unit => (Vl (.float .f64 r11.2))) (fun x => [⟨.pointer (some wa0_0), [(Vl (.pointer (wa0_0_0).1))], 48, none⟩, (Rw Kf 22 (Vs wa0_0_0) r11.1)])) [1, 2] [0] (by decide) (pick_cons rfl (pick_cons rfl pick_nil)) (pick_cons rfl pick_nil) (Hn := fun x : Unit => [⟨.pointer (some wa0_0), [(Vl (.pointer (wa0_0_0).1))], 48, none⟩, (Rw Kf 22 (Vs wa0_0_0) r11.1), ⟨.pointer (some q3), [(If 43 (Vl (.pointer (some wa0_0))))], 80, none⟩]) (fun _ => rfl) rfl rfl) (wt_none' rfl) fun ⟨⟩ => ?_
  refine sx_rd' (rd_assign' rfl) rfl rfl (wt_none' rfl) ?_
  refine sx_nil' ?_
  show TX E K2 _
  refine tx_k' hK2 ?_
  refine cx_retc' ?_
  replace hp := Option.some.inj hp
  subst hp
  refine tx_pick' (L' := [(6, (Vl (.float .f64 r11.2)))]) (H' := [⟨.pointer (some wa0_0), [(Vl (.pointer (wa0_0_0).1))], 48, none⟩, (Rw Kf 22 (Vs wa0_0_0) r11.1)]) [0, 1] (sub_cons rfl sub_nil) (by decide) (pick_cons rfl (pick_cons rfl pick_nil)) ?_
  exact tx_ret1' Tryd.results77 rfl () (rv_tmp' rfl) (List.Sublist.refl _)

def r3_Mat_Set (k : Nat) (a0_0 : List Nat) (a1 : Int) (a2 : Int) (a3 : Nat) : Option ((List Nat)) :=
  br (decide (2 < (icv .u64 a1)))
    (none)
    (br (decide (2 < (icv .u64 a2)))
      (none)
      ((need 1 a0_0) >>= fun z1 =>
      (idxn 9 a0_0 (iadd .i64 (imul .i64 a1 3) a2)) >>= fun r37 =>
      some (a0_0.set (iadd .i64 (imul .i64 a1 3) a2).toNat a3)))

theorem r3_Mat_Set_sim {k : Nat} {wa0 : Addr} {wa0_0 : Addr} (a0_0 : List Nat) (a1 : Int) (a2 : Int) (a3 : Nat) {out : (List Nat)} (hp : r3_Mat_Set k a0_0 a1 a2 a3 = some out) : Go.Sx.Fn Tryd.prog 37 [(Vl (.pointer (some wa0))), (Vl (.int .i64 a1)), (Vl (.int .i64 a2)), (Vl (.float .f64 a3))] [⟨.pointer (some wa0), [(Vl (.pointer ((some wa0_0, 9, 9)).1))], 48, none⟩, (Rw Kf 77 (Vs (some wa0_0, 9, 9)) a0_0)] (fun w : Unit => (Vl (.tuple #[]))) (fun w => [⟨.pointer (some wa0), [(Vl (.pointer ((some wa0_0, 9, 9)).1))], 48, none⟩, (Rw Kf 77 (Vs (some wa0_0, 9, 9)) out)]) := by
  unfold r3_Mat_Set at hp
  refine fn_of Tryd.func37 rfl Tryd.ntmps37 rfl fun E hM => ?_
  refine cx_seq' fun K1 hK1 => ?_
  refine cx_seq' fun K2 hK2 => ?_
  refine cx_region' ?_
  refine sx_rd' (rd_move' rfl) rfl rfl (wt_none' rfl) ?_
  refine sx_rd' (rd_conv' rfl (ru_i2i (by rw [Tryd.underlying3]; rfl) Tryd.underlying82)) rfl rfl (wt_none' rfl) ?_
  refine sx_rd' (rd_bin' rfl rfl eg_int ru_gtr) rfl rfl (wt_none' rfl) ?_
  refine sx_nil' ?_
  show TX E K2 _
  refine tx_k' hK2 ?_
  refine cx_cond' rfl (fun h1 => ?_) (fun h1 => ?_)
  · replace hp := (br_t h1).symm.trans hp
    cases hp
  · replace hp := (br_f h1).symm.trans hp
    refine cx_skip' ?_
    show TX E K1 _
    refine tx_k' hK1 ?_
    refine cx_seq' fun K3 hK3 => ?_
    refine cx_seq' fun K4 hK4 => ?_
    refine cx_region' ?_
    refine sx_rd' (rd_move' rfl) rfl rfl (wt_none' rfl) ?_
    refine sx_rd' (rd_conv' rfl (ru_i2i (by rw [Tryd.underlying3]; rfl) Tryd.underlying82)) rfl rfl (wt_none' rfl) ?_
    refine sx_rd' (rd_bin' rfl rfl eg_int ru_gtr) rfl rfl (wt_none' rfl) ?_
    refine sx_nil' ?_
    show TX E K4 _
    refine tx_k' hK4 ?_
    refine cx_cond' rfl (fun h2 => ?_) (fun h2 => ?_)
    · replace hp := (br_t h2).symm.trans hp
      cases hp
    · replace hp := (br_f h2).symm.trans hp
      refine cx_skip' ?_
      show TX E K3 _
      refine tx_k' hK3 ?_
      refine cx_seq' fun K5 hK5 => ?_
      refine cx_seq' fun K6 hK6 => ?_
      refine cx_region' ?_
      refine sx_rd' (rd_move' rfl) rfl rfl (wt_none' rfl) ?_
      refine sx_rd' (rd_nilck' rfl) rfl rfl (wt_none' rfl) ?_
      refine sx_rd' (rd_field0' rfl Tryd.underlying48 rfl info46 rfl) rfl rfl (wt_none' rfl) ?_
      refine sx_rd' (rd_load' (i := 0) (o := 0) rfl ⟨rfl, rfl, rfl, rfl⟩ rfl flat46) rfl rfl (wt_none' rfl) ?_
      obtain ⟨z1, hz1, hp⟩ := bind_some hp
      refine sx_rd' (rd_pa_nil' (m := 1) rfl rfl rfl rfl (need_some hz1) (fun _ _ => by kernel_rfl) nil_eql46_ptr) rfl rfl (wt_none' rfl) ?_
      refine sx_nil' ?_
      show TX E K6 _
      refine tx_k' hK6 ?_
      refine cx_cond_f' rfl rfl ?_
      refine cx_skip' ?_
      show TX E K5 _
      refine tx_k' hK5 ?_
      refine cx_region' ?_
      refine sx_rd' (rd_move' rfl) rfl rfl (wt_none' rfl) ?_
      refine sx_rd' (rd_nilck' rfl) rfl rfl (wt_none' rfl) ?_
      refine sx_rd' (rd_field0' rfl Tryd.underlying48 rfl info46 rfl) rfl rfl (wt_none' rfl) ?_
      refine sx_rd' (rd_load' (i := 0) (o := 0) rfl ⟨rfl, rfl, rfl, rfl⟩ rfl flat46) rfl rfl (wt_none' rfl) ?_
      refine sx_rd' (rd_move' rfl) rfl rfl (wt_none' rfl) ?_
      refine sx_rd' (rd_bin' rfl rfl eg_int ru_mul) rfl rfl (wt_none' rfl) ?_
      refine sx_rd' (rd_move' rfl) rfl rfl (wt_none' rfl) ?_
      refine sx_rd' (rd_bin' rfl rfl eg_int ru_add) rfl rfl (wt_none' rfl) ?_
      refine sx_rd' (rd_move' rfl) rfl rfl (wt_none' rfl) ?_
      refine sx_rd' (rd_nilck' (q := wa0_0) rfl) rfl rfl (wt_none' rfl) ?_
      obtain ⟨r37, hr37, hp⟩ := bind_some hp
      refine sx_rd' (rd_atarr' (m := 1) rfl rfl rfl rfl hr37 Tryd.underlying77 info22) rfl rfl (wt_none' rfl) ?_
      refine sx_ox' (ox_storer' (m := 1) (i := (iadd .i64 (imul .i64 a1 3) a2)) (j := 0) (x' := a3) rfl rfl (lv_vl rfl rfl) rfl rfl (idxn_some hr37).2 rfl rfl rfl info22 rfl (H' := [⟨.pointer (some wa0), [(Vl (.pointer ((some wa0_0, 9, 9)).1))], 48, none⟩, (Rw Kf 77 (Vs (some wa0_0, 9, 9)) (a0_0.set (iadd .i64 (imul .i64 a1 3) a2).toNat a3))]) rfl) (wt_none' rfl) fun _ => ?_
      refine sx_nil' ?_
      replace hp := Option.some.inj hp
      subst hp
      refine tx_pick' (L' := []) (H' := [⟨.pointer (some wa0), [(Vl (.pointer ((some wa0_0, 9, 9)).1))], 48, none⟩, (Rw Kf 77 (Vs (some wa0_0, 9, 9)) (a0_0.set (iadd .i64 (imul .i64 a1 3) a2).toNat a3))]) [0, 1] sub_nil (by decide) (pick_cons rfl (pick_cons rfl pick_nil)) ?_
      exact tx_end0' Tryd.results37 rfl () rfl (List.Sublist.refl _)

def r3_Mat_CloneFrom_j1 (k : Nat) (r10 : (List Nat) × Int) (x1 : Bool) : Option ((List Nat) × (List Nat)) :=
  br x1
    (none)
    ((mat_Transpose_At k r10.1 0 0) >>= fun r901 =>
    (r3_Mat_Set k ([0, 0, 0, 0, 0, 0, 0, 0, 0]) 0 0 r901.2) >>= fun r902 =>
    (mat_Transpose_At k r901.1 0 1) >>= fun r903 =>
    (r3_Mat_Set k r902 0 1 r903.2) >>= fun r904 =>
    (mat_Transpose_At k r903.1 0 2) >>= fun r905 =>
    (r3_Mat_Set k r904 0 2 r905.2) >>= fun r906 =>
    (mat_Transpose_At k r905.1 1 0) >>= fun r907 =>
    (r3_Mat_Set k r906 1 0 r907.2) >>= fun r908 =>
    (mat_Transpose_At k r907.1 1 1) >>= fun r909 =>
    (r3_Mat_Set k r908 1 1 r909.2) >>= fun r9010 =>
    (mat_Transpose_At k r909.1 1 2) >>= fun r9011 =>
    (r3_Mat_Set k r9010 1 2 r9011.2) >>= fun r9012 =>
    (mat_Transpose_At k r9011.1 2 0) >>= fun r9013 =>
    (r3_Mat_Set k r9012 2 0 r9013.2) >>= fun r9014 =>
    (mat_Transpose_At k r9013.1 2 1) >>= fun r9015 =>
    (r3_Mat_Set k r9014 2 1 r9015.2) >>= fun r9016 =>
    (mat_Transpose_At k r9015.1 2 2) >>= fun r9017 =>
    (r3_Mat_Set k r9016 2 2 r9017.2) >>= fun r9018 =>
    some (r9018, r9017.1))
def r3_Mat_CloneFrom (k : Nat) (a1_0_0 : List Nat) : Option ((List Nat) × (List Nat)) :=
  (mat_Transpose_Dims k a1_0_0) >>= fun r10 =>
  br (!decide (r10.2 = 3))
    (r3_Mat_CloneFrom_j1 k r10 true)
    (r3_Mat_CloneFrom_j1 k r10 (!decide (r10.2 = 3)))

theorem r3_Mat_CloneFrom_sim {k : Nat} {wa0 : Addr} {wa1_0 : Addr} {wa1_0_0 : Gs} (a1_0_0 : List Nat) {out : (List Nat) × (List Nat)} (hp : r3_Mat_CloneFrom k a1_0_0 = some out) : Go.Sx.Fn Tryd.prog 19 [(Vl (.pointer (some wa0))), (If 80 (Ag [(If 43 (Vl (.pointer (some wa1_0))))]))] [⟨.pointer (some wa0), [(Vl (.pointer none))], 48, none⟩, ⟨.pointer (some wa1_0), [(Vl (.pointer (wa1_0_0).1))], 48, none⟩, (Rw Kf 22 (Vs wa1_0_0) a1_0_0)] (fun w : Addr => (Vl (.tuple #[]))) (fun w => [⟨.pointer (some wa0), [(Vl (.pointer ((some w, 9, 9)).1))], 48, none⟩, (Rw Kf 77 (Vs (some w, 9, 9)) out.1), ⟨.pointer (some wa1_0), [(Vl (.pointer (wa1_0_0).1))], 48, none⟩, (Rw Kf 22 (Vs wa1_0_0) out.2)]) := by
  unfold r3_Mat_CloneFrom at hp
  refine fn_of Tryd.func19 rfl Tryd.ntmps19 rfl fun E hM => ?_
  refine cx_seq' fun K1 hK1 => ?_
  refine cx_region' ?_
  refine sx_rd' (rd_move' rfl) rfl rfl (wt_none' rfl) ?_
  obtain ⟨r10, hr10, hp⟩ := bind_some hp
  refine sx_ox' (ox_callg' (ent_inv' rfl rfl (inv_any0 inv80_Dims)) (mat_Transpose_Dims_sim _ hr10 : Go.Sx.Fn Tryd.prog 78 [(Ag [(If 43 (Vl (.pointer (some wa1_0))))])] [⟨.pointer (some wa1_0), [(Vl (.pointer (wa1_0_0).1))], 48, none⟩, (Rw Kf 22 (Vs wa1_0_0) a1_0_0)] (fun x : Unit => (Tu [(Vl (.int .i64 r10.2)), (Vl (.int .i64 r10.2))])) (fun x => [⟨.pointer (some wa1_0), [(Vl (.pointer (wa1_0_0).1))], 48, none⟩, (Rw Kf 22 (Vs wa1_0_0) r10.1)])) [1, 2] [0] (by decide) (pick_cons rfl (pick_cons rfl pick_nil)) (pick_cons rfl pick_nil) (Hn := fun x : Unit => [⟨.pointer (some wa1_0), [(Vl (.pointer (wa1_0_0).1))], 48, none⟩, (Rw Kf 22 (Vs wa1_0_0) r10.1), ⟨.pointer (some wa0), [(Vl (.pointer none))], 48, none⟩]) (fun _ => rfl) rfl rfl) (wt_none' rfl) fun ⟨⟩ => ?_
  refine sx_rd' (rd_move' rfl) rfl rfl (wt_none' rfl) ?_
  refine sx_rd' (rd_extract' rfl rfl) rfl rfl (wt_none' rfl) ?_
  refine sx_rd' (rd_extract' rfl rfl) rfl rfl (wt_none' rfl) ?_
  refine sx_rd' (rd_assign' rfl) rfl rfl (wt_none' rfl) ?_
  refine sx_rd' (rd_assign' rfl) rfl rfl (wt_none' rfl) ?_
  refine sx_nil' ?_
  show TX E K1 _
  refine tx_k' hK1 ?_
  refine cx_seq' fun K2 hK2 => ?_
  refine cx_seq' fun K3 hK3 => ?_
  refine cx_region' ?_
  refine sx_rd' (rd_move' rfl) rfl rfl (wt_none' rfl) ?_
  refine sx_rd' (rd_bin' rfl rfl eg_int ru_neq) rfl rfl (wt_none' rfl) ?_
  refine sx_rd' (rd_move' rfl) rfl rfl (wt_none' rfl) ?_
  refine sx_cutn' 3 (fun (v1 : Bool) => (⟨46, [], [(0, (Vl (.pointer (some wa0)))), (1, (If 80 (Ag [(If 43 (Vl (.pointer (some wa1_0))))]))), (18, (Vl (.bool v1)))], [⟨.pointer (some wa0), [(Vl (.pointer none))], 48, none⟩, ⟨.pointer (some wa1_0), [(Vl (.pointer (wa1_0_0).1))], 48, none⟩, (Rw Kf 22 (Vs wa1_0_0) r10.1)]⟩ : St)) (fun (v1 : Bool) => r3_Mat_CloneFrom_j1 k r10 v1 = some out) ?_ ?_
  · rintro x1 hp
    replace hp : r3_Mat_CloneFrom_j1 k r10 x1 = some out := hp
    unfold r3_Mat_CloneFrom_j1 at hp
    refine sx_nil' ?_
    show TX E K3 _
    refine tx_k' hK3 ?_
    refine cx_cond' rfl (fun h2 => ?_) (fun h2 => ?_)
    · replace hp := (br_t h2).symm.trans hp
      cases hp
    · replace hp := (br_f h2).symm.trans hp
      refine cx_skip' ?_
      show TX E K2 _
      refine tx_k' hK2 ?_
      refine cx_seq' fun K5 hK5 => ?_
      refine cx_seq' fun K6 hK6 => ?_
      refine cx_region' ?_
      refine sx_rd' (rd_move' rfl) rfl rfl (wt_none' rfl) ?_
      refine sx_rd' (rd_nilck' rfl) rfl rfl (wt_none' rfl) ?_
      refine sx_rd' (rd_field0' rfl Tryd.underlying48 rfl info46 rfl) rfl rfl (wt_none' rfl) ?_
      refine sx_rd' (rd_load' (i := 0) (o := 0) rfl ⟨rfl, rfl, rfl, rfl⟩ rfl flat46) rfl rfl (wt_none' rfl) ?_
      refine sx_rd' (rd_binf' rfl rfl (bf_vl (fun _ => by kernel_rfl) nil_eql46_nilptr)) rfl rfl (wt_none' rfl) ?_
      refine sx_nil' ?_
      show TX E K6 _
      refine tx_k' hK6 ?_
      refine cx_cond_t' rfl rfl ?_
      refine cx_region' ?_
      refine sx_rd' (rd_move' rfl) rfl rfl (wt_none' rfl) ?_
      refine sx_ox' (ox_alloc' info77 rfl rfl rfl rfl (l := [(Vl (.float .f64 0)), (Vl (.float .f64 0)), (Vl (.float .f64 0)), (Vl (.float .f64 0)), (Vl (.float .f64 0)), (Vl (.float .f64 0)), (Vl (.float .f64 0)), (Vl (.float .f64 0)), (Vl (.float .f64 0))]) rfl) (wt_none' rfl) fun q27 => ?_
      refine tx_arr' (K := Kf) (xs := [0, 0, 0, 0, 0, 0, 0, 0, 0]) (m := 9) (i := 0) rfl rfl rfl (H' := [(Rw Kf 77 (Vs (some q27, 9, 9)) ([0, 0, 0, 0, 0, 0, 0, 0, 0])), ⟨.pointer (some wa0), [(Vl (.pointer none))], 48, none⟩, ⟨.pointer (some wa1_0), [(Vl (.pointer (wa1_0_0).1))], 48, none⟩, (Rw Kf 22 (Vs wa1_0_0) r10.1)]) rfl ?_
      refine sx_rd' (rd_nilck' rfl) rfl rfl (wt_none' rfl) ?_
      refine sx_rd' (rd_field0' rfl Tryd.underlying48 rfl info46 rfl) rfl rfl (wt_none' rfl) ?_
      refine sx_ox' (ox_store' (i := 1) (o := 0) rfl rfl (lv_vl rfl rfl) ⟨rfl, rfl, rfl, rfl⟩ rfl info46 rfl (H' := [(Rw Kf 77 (Vs (some q27, 9, 9)) ([0, 0, 0, 0, 0, 0, 0, 0, 0])), ⟨.pointer (some wa0), [(Vl (.pointer ((some q27, 9, 9)).1))], 48, none⟩, ⟨.pointer (some wa1_0), [(Vl (.pointer (wa1_0_0).1))], 48, none⟩, (Rw Kf 22 (Vs wa1_0_0) r10.1)]) rfl) (wt_none' rfl) fun _ => ?_
      refine sx_nil' ?_
      show TX E K5 _
      refine tx_k' hK5 ?_
      refine cx_seq' fun K7 hK7 => ?_
      refine cx_region' ?_
      refine sx_rd' (rd_assign' rfl) rfl rfl (wt_none' rfl) ?_
      refine sx_nil' ?_
      show TX E K7 _
      refine tx_k' hK7 ?_
      refine cx_block' ?_
      refine tx_loop' ?_
      refine tx_round' ?_
      refine cx_seq' fun K8 hK8 => ?_
      refine cx_seq' fun K9 hK9 => ?_
      refine cx_region' ?_
      refine sx_rd' (rd_move' rfl) rfl rfl (wt_none' rfl) ?_
      refine sx_rd' (rd_bin' rfl rfl eg_int ru_lss) rfl rfl (wt_none' rfl) ?_
      refine sx_nil' ?_
      show TX E K9 _
      refine tx_k' hK9 ?_
      refine cx_cond_t' rfl rfl ?_
      refine cx_skip' ?_
      show TX E K8 _
      refine tx_k' hK8 ?_
      refine cx_seq' fun K10 hK10 => ?_
      refine cx_block' ?_
      refine cx_seq' fun K11 hK11 => ?_
      refine cx_region' ?_
      refine sx_rd' (rd_assign' rfl) rfl rfl (wt_none' rfl) ?_
      refine sx_nil' ?_
      show TX E K11 _
      refine tx_k' hK11 ?_
      refine cx_block' ?_
      refine tx_loop' ?_
      refine tx_round' ?_
      refine cx_seq' fun K12 hK12 => ?_
      refine cx_seq' fun K13 hK13 => ?_
      refine cx_region' ?_
      refine sx_rd' (rd_move' rfl) rfl rfl (wt_none' rfl) ?_
      refine sx_rd' (rd_bin' rfl rfl eg_int ru_lss) rfl rfl (wt_none' rfl) ?_
      refine sx_nil' ?_
      show TX E K13 _
      refine tx_k' hK13 ?_
      refine cx_cond_t' rfl rfl ?_
      refine cx_skip' ?_
      show TX E K12 _
      refine tx_k' hK12 ?_
      refine cx_seq' fun K14 hK14 => ?_
      refine cx_block' ?_
      refine cx_region' ?_
      refine sx_rd' (rd_move' rfl) rfl rfl (wt_none' rfl) ?_
      refine sx_rd' (rd_move' rfl) rfl rfl (wt_none' rfl) ?_
      refine sx_rd' (rd_move' rfl) rfl rfl (wt_none' rfl) ?_
      refine sx_rd' (rd_move' rfl) rfl rfl (wt_none' rfl) ?_
      refine sx_rd' (rd_move' rfl) rfl rfl (wt_none' rfl) ?_
      refine sx_rd' (rd_move' rfl) rfl rfl (wt_none' rfl) ?_
      obtain ⟨r901, hr901, hp⟩ := bind_some hp
      refine sx_ox' (ox_callg' (ent_inv' rfl rfl (inv_any2 inv80_At)) (mat_Transpose_At_sim _ _ _ hr901 : Go.Sx.Fn Tryd.prog 77 [(Ag [(If 43 (Vl (.pointer (some wa1_0))))]), (Vl (.int .i64 0)), (Vl (.int .i64 0))] [⟨.pointer (some wa1_0), [(Vl (.pointer (wa1_0_0).1))], 48, none⟩, (Rw Kf 22 (Vs wa1_0_0) r10.1)] (fun x : Unit => (Vl (.float .f64 r901.2))) (fun x => [⟨.pointer (some wa1_0), [(Vl (.pointer (wa1_0_0).1))], 48, none⟩, (Rw Kf 22 (Vs wa1_0_0) r901.1)])) [2, 3] [0, 1] (by decide) (pick_cons rfl (pick_cons rfl pick_nil)) (pick_cons rfl (pick_cons rfl pick_nil)) (Hn := fun x : Unit => [⟨.pointer (some wa1_0), [(Vl (.pointer (wa1_0_0).1))], 48, none⟩, (Rw Kf 22 (Vs wa1_0_0) r901.1), (Rw Kf 77 (Vs (some q27, 9, 9)) ([0, 0, 0, 0, 0, 0, 0, 0, 0])), ⟨.pointer (some wa0), [(Vl (.pointer ((some q27, 9, 9)).1))], 48, none⟩]) (fun _ => rfl) rfl rfl) (wt_none' rfl) fun ⟨⟩ => ?_
      obtain ⟨r902, hr902, hp⟩ := bind_some hp
      refine sx_ox' (ox_callg' (ent_fn' Tryd.func37 isn37 rfl rfl) (r3_Mat_Set_sim _ _ _ _ hr902 : Go.Sx.Fn Tryd.prog 37 [(Vl (.pointer (some wa0))), (Vl (.int .i64 0)), (Vl (.int .i64 0)), (Vl (.float .f64 r901.2))] [⟨.pointer (some wa0), [(Vl (.pointer ((some q27, 9, 9)).1))], 48, none⟩, (Rw Kf 77 (Vs (some q27, 9, 9)) ([0, 0, 0, 0, 0, 0, 0, 0, 0]))] (fun x : Unit => (Vl (.tuple #[]))) (fun x => [⟨.pointer (some wa0), [(Vl (.pointer ((some q27, 9, 9)).1))], 48, none⟩, (Rw Kf 77 (Vs (some q27, 9, 9)) r902)])) [3, 2] [0, 1] (by decide) (pick_cons rfl (pick_cons rfl pick_nil)) (pick_cons rfl (pick_cons rfl pick_nil)) (Hn := fun x : Unit => [⟨.pointer (some wa0), [(Vl (.pointer ((some q27, 9, 9)).1))], 48, none⟩, (Rw Kf 77 (Vs (some q27, 9, 9)) r902), ⟨.pointer (some wa1_0), [(Vl (.pointer (wa1_0_0).1))], 48, none⟩, (Rw Kf 22 (Vs wa1_0_0) r901.1)]) (fun _ => rfl) rfl rfl) (wt_none' rfl) fun ⟨⟩ => ?_
      refine sx_nil' ?_
      show TX E K14 _
      refine tx_k' hK14 ?_
      refine cx_region' ?_
      refine sx_rd' (rd_move' rfl) rfl rfl (wt_none' rfl) ?_
      refine sx_rd' (rd_bin' rfl rfl eg_int (ru_addc (c := 1) (by decide))) rfl rfl (wt_none' rfl) ?_
      refine sx_rd' (rd_assign' rfl) rfl rfl (wt_none' rfl) ?_
      refine sx_nil' ?_
      show TX E (LoopIn _ _ _) _
      refine tx_round' ?_
      refine cx_seq' fun K15 hK15 => ?_
      refine cx_seq' fun K16 hK16 => ?_
      refine cx_region' ?_
      refine sx_rd' (rd_move' rfl) rfl rfl (wt_none' rfl) ?_
      refine sx_rd' (rd_bin' rfl rfl eg_int ru_lss) rfl rfl (wt_none' rfl) ?_
      refine sx_nil' ?_
      show TX E K16 _
      refine tx_k' hK16 ?_
      refine cx_cond_t' rfl rfl ?_
      refine cx_skip' ?_
      show TX E K15 _
      refine tx_k' hK15 ?_
      refine cx_seq' fun K17 hK17 => ?_
      refine cx_block' ?_
      refine cx_region' ?_
      refine sx_rd' (rd_move' rfl) rfl rfl (wt_none' rfl) ?_
      refine sx_rd' (rd_move' rfl) rfl rfl (wt_none' rfl) ?_
      refine sx_rd' (rd_move' rfl) rfl rfl (wt_none' rfl) ?_
      refine sx_rd' (rd_move' rfl) rfl rfl (wt_none' rfl) ?_
      refine sx_rd' (rd_move' rfl) rfl rfl (wt_none' rfl) ?_
      refine sx_rd' (rd_move' rfl) rfl rfl (wt_none' rfl) ?_
      obtain ⟨r903, hr903, hp⟩ := bind_some hp
      refine sx_ox' (ox_callg' (ent_inv' rfl rfl (inv_any2 inv80_At)) (mat_Transpose_At_sim _ _ _ hr903 : Go.Sx.Fn Tryd.prog 77 [(Ag [(If 43 (Vl (.pointer (some wa1_0))))]), (Vl (.int .i64 0)), (Vl (.int .i64 1))] [⟨.pointer (some wa1_0), [(Vl (.pointer (wa1_0_0).1))], 48, none⟩, (Rw Kf 22 (Vs wa1_0_0) r901.1)] (fun x : Unit => (Vl (.float .f64 r903.2))) (fun x => [⟨.pointer (some wa1_0), [(Vl (.pointer (wa1_0_0).1))], 48, none⟩, (Rw Kf 22 (Vs wa1_0_0) r903.1)])) [2, 3] [0, 1] (by decide) (pick_cons rfl (pick_cons rfl pick_nil)) (pick_cons rfl (pick_cons rfl pick_nil)) (Hn := fun x : Unit => [⟨.pointer (some wa1_0), [(Vl (.pointer (wa1_0_0).1))], 48, none⟩, (Rw Kf 22 (Vs wa1_0_0) r903.1), ⟨.pointer (some wa0), [(Vl (.pointer ((some q27, 9, 9)).1))], 48, none⟩, (Rw Kf 77 (Vs (some q27, 9, 9)) r902)]) (fun _ => rfl) rfl rfl) (wt_none' rfl) fun ⟨⟩ => ?_
      obtain ⟨r904, hr904, hp⟩ := bind_some hp
      refine sx_ox' (ox_callg' (ent_fn' Tryd.func37 isn37 rfl rfl) (r3_Mat_Set_sim _ _ _ _ hr904 : Go.Sx.Fn Tryd.prog 37 [(Vl (.pointer (some wa0))), (Vl (.int .i64 0)), (Vl (.int .i64 1)), (Vl (.float .f64 r903.2))] [⟨.pointer (some wa0), [(Vl (.pointer ((some q27, 9, 9)).1))], 48, none⟩, (Rw Kf 77 (Vs (some q27, 9, 9)) r902)] (fun x : Unit => (Vl (.tuple #[]))) (fun x => [⟨.pointer (some wa0), [(Vl (.pointer ((some q27, 9, 9)).1))], 48, none⟩, (Rw Kf 77 (Vs (some q27, 9, 9)) r904)])) [2, 3] [0, 1] (by decide) (pick_cons rfl (pick_cons rfl pick_nil)) (pick_cons rfl (pick_cons rfl pick_nil)) (Hn := fun x : Unit => [⟨.pointer (some wa0), [(Vl (.pointer ((some q27, 9, 9)).1))], 48, none⟩, (Rw Kf 77 (Vs (some q27, 9, 9)) r904), ⟨.pointer (some wa1_0), [(Vl (.pointer (wa1_0_0).1))], 48, none⟩, (Rw Kf 22 (Vs wa1_0_0) r903.1)]) (fun _ => rfl) rfl rfl) (wt_none' rfl) fun ⟨⟩ => ?_
      refine sx_nil' ?_
      show TX E K17 _
      refine tx_k' hK17 ?_
      refine cx_region' ?_
      refine sx_rd' (rd_move' rfl) rfl rfl (wt_none' rfl) ?_
      refine sx_rd' (rd_bin' rfl rfl eg_int (ru_addc (c := 2) (by decide))) rfl rfl (wt_none' rfl) ?_
      refine sx_rd' (rd_assign' rfl) rfl rfl (wt_none' rfl) ?_
      refine sx_nil' ?_
      show TX E (LoopIn _ _ _) _
      refine tx_round' ?_
      refine cx_seq' fun K18 hK18 => ?_
      refine cx_seq' fun K19 hK19 => ?_
      refine cx_region' ?_
      refine sx_rd' (rd_move' rfl) rfl rfl (wt_none' rfl) ?_
      refine sx_rd' (rd_bin' rfl rfl eg_int ru_lss) rfl rfl (wt_none' rfl) ?_
      refine sx_nil' ?_
      show TX E K19 _
      refine tx_k' hK19 ?_
      refine cx_cond_t' rfl rfl ?_
      refine cx_skip' ?_
      show TX E K18 _
      refine tx_k' hK18 ?_
      refine cx_seq' fun K20 hK20 => ?_
      refine cx_block' ?_
      refine cx_region' ?_
      refine sx_rd' (rd_move' rfl) rfl rfl (wt_none' rfl) ?_
      refine sx_rd' (rd_move' rfl) rfl rfl (wt_none' rfl) ?_
      refine sx_rd' (rd_move' rfl) rfl rfl (wt_none' rfl) ?_
      refine sx_rd' (rd_move' rfl) rfl rfl (wt_none' rfl) ?_
      refine sx_rd' (rd_move' rfl) rfl rfl (wt_none' rfl) ?_
      refine sx_rd' (rd_move' rfl) rfl rfl (wt_none' rfl) ?_
      obtain ⟨r905, hr905, hp⟩ := bind_some hp
      refine sx_ox' (ox_callg' (ent_inv' rfl rfl (inv_any2 inv80_At)) (mat_Transpose_At_sim _ _ _ hr905 : Go.Sx.Fn Tryd.prog 77 [(Ag [(If 43 (Vl (.pointer (some wa1_0))))]), (Vl (.int .i64 0)), (Vl (.int .i64 2))] [⟨.pointer (some wa1_0), [(Vl (.pointer (wa1_0_0).1))], 48, none⟩, (Rw Kf 22 (Vs wa1_0_0) r903.1)] (fun x : Unit => (Vl (.float .f64 r905.2))) (fun x => [⟨.pointer (some wa1_0), [(Vl (.pointer (wa1_0_0).1))], 48, none⟩, (Rw Kf 22 (Vs wa1_0_0) r905.1)])) [2, 3] [0, 1] (by decide) (pick_cons rfl (pick_cons rfl pick_nil)) (pick_cons rfl (pick_cons rfl pick_nil)) (Hn := fun x : Unit => [⟨.pointer (some wa1_0), [(Vl (.pointer (wa1_0_0).1))], 48, none⟩, (Rw Kf 22 (Vs wa1_0_0) r905.1), ⟨.pointer (some wa0), [(Vl (.pointer ((some q27, 9, 9)).1))], 48, none⟩, (Rw Kf 77 (Vs (some q27, 9, 9)) r904)]) (fun _ => rfl) rfl rfl) (wt_none' rfl) fun ⟨⟩ => ?_
      obtain ⟨r906, hr906, hp⟩ := bind_some hp
      refine sx_ox' (ox_callg' (ent_fn' Tryd.func37 isn37 rfl rfl) (r3_Mat_Set_sim _ _ _ _ hr906 : Go.Sx.Fn Tryd.prog 37 [(Vl (.pointer (some wa0))), (Vl (.int .i64 0)), (Vl (.int .i64 2)), (Vl (.float .f64 r905.2))] [⟨.pointer (some wa0), [(Vl (.pointer ((some q27, 9, 9)).1))], 48, none⟩, (Rw Kf 77 (Vs (some q27, 9, 9)) r904)] (fun x : Unit => (Vl (.tuple #[]))) (fun x => [⟨.pointer (some wa0), [(Vl (.pointer ((some q27, 9, 9)).1))], 48, none⟩, (Rw Kf 77 (Vs (some q27, 9, 9)) r906)])) [2, 3] [0, 1] (by decide) (pick_cons rfl (pick_cons rfl pick_nil)) (pick_cons rfl (pick_cons rfl pick_nil)) (Hn := fun x : Unit => [⟨.pointer (some wa0), [(Vl (.pointer ((some q27, 9, 9)).1))], 48, none⟩, (Rw Kf 77 (Vs (some q27, 9, 9)) r906), ⟨.pointer (some wa1_0), [(Vl (.pointer (wa1_0_0).1))], 48, none⟩, (Rw Kf 22 (Vs wa1_0_0) r905.1)]) (fun _ => rfl) rfl rfl) (wt_none' rfl) fun ⟨⟩ => ?_
      refine sx_nil' ?_
      show TX E K20 _
      refine tx_k' hK20 ?_
      refine cx_region' ?_
      refine sx_rd' (rd_move' rfl) rfl rfl (wt_none' rfl) ?_
      refine sx_rd' (rd_bin' rfl rfl eg_int (ru_addc (c := 3) (by decide))) rfl rfl (wt_none' rfl) ?_
      refine sx_rd' (rd_assign' rfl) rfl rfl (wt_none' rfl) ?_
      refine sx_nil' ?_
      show TX E (LoopIn _ _ _) _
      refine tx_round' ?_
      refine cx_seq' fun K21 hK21 => ?_
      refine cx_seq' fun K22 hK22 => ?_
      refine cx_region' ?_
      refine sx_rd' (rd_move' rfl) rfl rfl (wt_none' rfl) ?_
      refine sx_rd' (rd_bin' rfl rfl eg_int ru_lss) rfl rfl (wt_none' rfl) ?_
      refine sx_nil' ?_
      show TX E K22 _
      refine tx_k' hK22 ?_
      refine cx_cond_f' rfl rfl ?_
      refine cx_exit' ?_
      show TX E K10 _
      refine tx_k' hK10 ?_
      refine cx_region' ?_
      refine sx_rd' (rd_move' rfl) rfl rfl (wt_none' rfl) ?_
      refine sx_rd' (rd_bin' rfl rfl eg_int (ru_addc (c := 1) (by decide))) rfl rfl (wt_none' rfl) ?_
      refine sx_rd' (rd_assign' rfl) rfl rfl (wt_none' rfl) ?_
      refine sx_nil' ?_
      show TX E (LoopIn _ _ _) _
      refine tx_round' ?_
      refine cx_seq' fun K23 hK23 => ?_
      refine cx_seq' fun K24 hK24 => ?_
      refine cx_region' ?_
      refine sx_rd' (rd_move' rfl) rfl rfl (wt_none' rfl) ?_
      refine sx_rd' (rd_bin' rfl rfl eg_int ru_lss) rfl rfl (wt_none' rfl) ?_
      refine sx_nil' ?_
      show TX E K24 _
      refine tx_k' hK24 ?_
      refine cx_cond_t' rfl rfl ?_
      refine cx_skip' ?_
      show TX E K23 _
      refine tx_k' hK23 ?_
      refine cx_seq' fun K25 hK25 => ?_
      refine cx_block' ?_
      refine cx_seq' fun K26 hK26 => ?_
      refine cx_region' ?_
      refine sx_rd' (rd_assign' rfl) rfl rfl (wt_none' rfl) ?_
      refine sx_nil' ?_
      show TX E K26 _
      refine tx_k' hK26 ?_
      refine cx_block' ?_
      refine tx_loop' ?_
      refine tx_round' ?_
      refine cx_seq' fun K27 hK27 => ?_
      refine cx_seq' fun K28 hK28 => ?_
      refine cx_region' ?_
      refine sx_rd' (rd_move' rfl) rfl rfl (wt_none' rfl) ?_
      refine sx_rd' (rd_bin' rfl rfl eg_int ru_lss) rfl rfl (wt_none' rfl) ?_
      refine sx_nil' ?_
      show TX E K28 _
      refine tx_k' hK28 ?_
      refine cx_cond_t' rfl rfl ?_
      refine cx_skip' ?_
      show TX E K27 _
      refine tx_k' hK27 ?_
      refine cx_seq' fun K29 hK29 => ?_
      refine cx_block' ?_
      refine cx_region' ?_
      refine sx_rd' (rd_move' rfl) rfl rfl (wt_none' rfl) ?_
      refine sx_rd' (rd_move' rfl) rfl rfl (wt_none' rfl) ?_
      refine sx_rd' (rd_move' rfl) rfl rfl (wt_none' rfl) ?_
      refine sx_rd' (rd_move' rfl) rfl rfl (wt_none' rfl) ?_
      refine sx_rd' (rd_move' rfl) rfl rfl (wt_none' rfl) ?_
      refine sx_rd' (rd_move' rfl) rfl rfl (wt_none' rfl) ?_
      obtain ⟨r907, hr907, hp⟩ := bind_some hp
      refine sx_ox' (ox_callg' (ent_inv' rfl rfl (inv_any2 inv80_At)) (mat_Transpose_At_sim _ _ _ hr907 : Go.Sx.Fn Tryd.prog 77 [(Ag [(If 43 (Vl (.pointer (some wa1_0))))]), (Vl (.int .i64 1)), (Vl (.int .i64 0))] [⟨.pointer (some wa1_0), [(Vl (.pointer (wa1_0_0).1))], 48, none⟩, (Rw Kf 22 (Vs wa1_0_0) r905.1)] (fun x : Unit => (Vl (.float .f64 r907.2))) (fun x => [⟨.pointer (some wa1_0), [(Vl (.pointer (wa1_0_0).1))], 48, none⟩, (Rw Kf 22 (Vs wa1_0_0) r907.1)])) [2, 3] [0, 1] (by decide) (pick_cons rfl (pick_cons rfl pick_nil)) (pick_cons rfl (pick_cons rfl pick_nil)) (Hn := fun x : Unit => [⟨.pointer (some wa1_0), [(Vl (.pointer (wa1_0_0).1))], 48, none⟩, (Rw Kf 22 (Vs wa1_0_0) r907.1), ⟨.pointer (some wa0), [(Vl (.pointer ((some q27, 9, 9)).1))], 48, none⟩, (Rw Kf 77 (Vs (some q27, 9, 9)) r906)]) (fun _ => rfl) rfl rfl) (wt_none' rfl) fun ⟨⟩ => ?_
      obtain ⟨r908, hr908, hp⟩ := bind_some hp
      refine sx_ox' (ox_callg' (ent_fn' Tryd.func37 isn37 rfl rfl) (r3_Mat_Set_sim _ _ _ _ hr908 : Go.Sx.Fn Tryd.prog 37 [(Vl (.pointer (some wa0))), (Vl (.int .i64 1)), (Vl (.int .i64 0)), (Vl (.float .f64 r907.2))] [⟨.pointer (some wa0), [(Vl (.pointer ((some q27, 9, 9)).1))], 48, none⟩, (Rw Kf 77 (Vs (some q27, 9, 9)) r906)] (fun x : Unit => (Vl (.tuple #[]))) (fun x => [⟨.pointer (some wa0), [(Vl (.pointer ((some q27, 9, 9)).1))], 48, none⟩, (Rw Kf 77 (Vs (some q27, 9, 9)) r908)])) [2, 3] [0, 1] (by decide) (pick_cons rfl (pick_cons rfl pick_nil)) (pick_cons rfl (pick_cons rfl pick_nil)) (Hn := fun x : Unit => [⟨.pointer (some wa0), [(Vl (.pointer ((some q27, 9, 9)).1))], 48, none⟩, (Rw Kf 77 (Vs (some q27, 9, 9)) r908), ⟨.pointer (some wa1_0), [(Vl (.pointer (wa1_0_0).1))], 48, none⟩, (Rw Kf 22 (Vs wa1_0_0) r907.1)]) (fun _ => rfl) rfl rfl) (wt_none' rfl) fun ⟨⟩ => ?_
      refine sx_nil' ?_
      show TX E K29 _
      refine tx_k' hK29 ?_
      refine cx_region' ?_
      refine sx_rd' (rd_move' rfl) rfl rfl (wt_none' rfl) ?_
      refine sx_rd' (rd_bin' rfl rfl eg_int (ru_addc (c := 1) (by decide))) rfl rfl (wt_none' rfl) ?_
      refine sx_rd' (rd_assign' rfl) rfl rfl (wt_none' rfl) ?_
      refine sx_nil' ?_
      show TX E (LoopIn _ _ _) _
      refine tx_round' ?_
      refine cx_seq' fun K30 hK30 => ?_
      refine cx_seq' fun K31 hK31 => ?_
      refine cx_region' ?_
      refine sx_rd' (rd_move' rfl) rfl rfl (wt_none' rfl) ?_
      refine sx_rd' (rd_bin' rfl rfl eg_int ru_lss) rfl rfl (wt_none' rfl) ?_
      refine sx_nil' ?_
      show TX E K31 _
      refine tx_k' hK31 ?_
      refine cx_cond_t' rfl rfl ?_
      refine cx_skip' ?_
      show TX E K30 _
      refine tx_k' hK30 ?_
      refine cx_seq' fun K32 hK32 => ?_
      refine cx_block' ?_
      refine cx_region' ?_
      refine sx_rd' (rd_move' rfl) rfl rfl (wt_none' rfl) ?_
      refine sx_rd' (rd_move' rfl) rfl rfl (wt_none' rfl) ?_
      refine sx_rd' (rd_move' rfl) rfl rfl (wt_none' rfl) ?_
      refine sx_rd' (rd_move' rfl) rfl rfl (wt_none' rfl) ?_
      refine sx_rd' (rd_move' rfl) rfl rfl (wt_none' rfl) ?_
      refine sx_rd' (rd_move' rfl) rfl rfl (wt_none' rfl) ?_
      obtain ⟨r909, hr909, hp⟩ := bind_some hp
      refine sx_ox' (ox_callg' (ent_inv' rfl rfl (inv_any2 inv80_At)) (mat_Transpose_At_sim _ _ _ hr909 : Go.Sx.Fn Tryd.prog 77 [(Ag [(If 43 (Vl (.pointer (some wa1_0))))]), (Vl (.int .i64 1)), (Vl (.int .i64 1))] [⟨.pointer (some wa1_0), [(Vl (.pointer (wa1_0_0).1))], 48, none⟩, (Rw Kf 22 (Vs wa1_0_0) r907.1)] (fun x : Unit => (Vl (.float .f64 r909.2))) (fun x => [⟨.pointer (some wa1_0), [(Vl (.pointer (wa1_0_0).1))], 48, none⟩, (Rw Kf 22 (Vs wa1_0_0) r909.1)])) [2, 3] [0, 1] (by decide) (pick_cons rfl (pick_cons rfl pick_nil)) (pick_cons rfl (pick_cons rfl pick_nil)) (Hn := fun x : Unit => [⟨.pointer (some wa1_0), [(Vl (.pointer (wa1_0_0).1))], 48, none⟩, (Rw Kf 22 (Vs wa1_0_0) r909.1), ⟨.pointer (some wa0), [(Vl (.pointer ((some q27, 9, 9)).1))], 48, none⟩, (Rw Kf 77 (Vs (some q27, 9, 9)) r908)]) (fun _ => rfl) rfl rfl) (wt_none' rfl) fun ⟨⟩ => ?_
      obtain ⟨r9010, hr9010, hp⟩ := bind_some hp
      refine sx_ox' (ox_callg' (ent_fn' Tryd.func37 isn37 rfl rfl) (r3_Mat_Set_sim _ _ _ _ hr9010 : Go.Sx.Fn Tryd.prog 37 [(Vl (.pointer (some wa0))), (Vl (.int .i64 1)), (Vl (.int .i64 1)), (Vl (.float .f64 r909.2))] [⟨.pointer (some wa0), [(Vl (.pointer ((some q27, 9, 9)).1))], 48, none⟩, (Rw Kf 77 (Vs (some q27, 9, 9)) r908)] (fun x : Unit => (Vl (.tuple #[]))) (fun x => [⟨.pointer (some wa0), [(Vl (.pointer ((some q27, 9, 9)).1))], 48, none⟩, (Rw Kf 77 (Vs (some q27, 9, 9)) r9010)])) [2, 3] [0, 1] (by decide) (pick_cons rfl (pick_cons rfl pick_nil)) (pick_cons rfl (pick_cons rfl pick_nil)) (Hn := fun x : Unit => [⟨.pointer (some wa0), [(Vl (.pointer ((some q27, 9, 9)).1))], 48, none⟩, (Rw Kf 77 (Vs (some q27, 9, 9)) r9010), ⟨.pointer (some wa1_0), [(Vl (.pointer (wa1_0_0).1))], 48, none⟩, (Rw Kf 22 (Vs wa1_0_0) r909.1)]) (fun _ => rfl) rfl rfl) (wt_none' rfl) fun ⟨⟩ => ?_
      refine sx_nil' ?_
      show TX E K32 _
      refine tx_k' hK32 ?_
      refine cx_region' ?_
      refine sx_rd' (rd_move' rfl) rfl rfl (wt_none' rfl) ?_
      refine sx_rd' (rd_bin' rfl rfl eg_int (ru_addc (c := 2) (by decide))) rfl rfl (wt_none' rfl) ?_
      refine sx_rd' (rd_assign' rfl) rfl rfl (wt_none' rfl) ?_
      refine sx_nil' ?_
      show TX E (LoopIn _ _ _) _
      refine tx_round' ?_
      refine cx_seq' fun K33 hK33 => ?_
      refine cx_seq' fun K34 hK34 => ?_
      refine cx_region' ?_
      refine sx_rd' (rd_move' rfl) rfl rfl (wt_none' rfl) ?_
      refine sx_rd' (rd_bin' rfl rfl eg_int ru_lss) rfl rfl (wt_none' rfl) ?_
      refine sx_nil' ?_
      show TX E K34 _
      refine tx_k' hK34 ?_
      refine cx_cond_t' rfl rfl ?_
      refine cx_skip' ?_
      show TX E K33 _
      refine tx_k' hK33 ?_
      refine cx_seq' fun K35 hK35 => ?_
      refine cx_block' ?_
      refine cx_region' ?_
      refine sx_rd' (rd_move' rfl) rfl rfl (wt_none' rfl) ?_
      refine sx_rd' (rd_move' rfl) rfl rfl (wt_none' rfl) ?_
      refine sx_rd' (rd_move' rfl) rfl rfl (wt_none' rfl) ?_
      refine sx_rd' (rd_move' rfl) rfl rfl (wt_none' rfl) ?_
      refine sx_rd' (rd_move' rfl) rfl rfl (wt_none' rfl) ?_
      refine sx_rd' (rd_move' rfl) rfl rfl (wt_none' rfl) ?_
      obtain ⟨r9011, hr9011, hp⟩ := bind_some hp
      refine sx_ox' (ox_callg' (ent_inv' rfl rfl (inv_any2 inv80_At)) (mat_Transpose_At_sim _ _ _ hr9011 : Go.Sx.Fn Tryd.prog 77 [(Ag [(If 43 (Vl (.pointer (some wa1_0))))]), (Vl (.int .i64 1)), (Vl (.int .i64 2))] [⟨.pointer (some wa1_0), [(Vl (.pointer (wa1_0_0).1))], 48, none⟩, (Rw Kf 22 (Vs wa1_0_0) r909.1)] (fun x : Unit => (Vl (.float .f64 r9011.2))) (fun x => [⟨.pointer (some wa1_0), [(Vl (.pointer (wa1_0_0).1))], 48, none⟩, (Rw Kf 22 (Vs wa1_0_0) r9011.1)])) [2, 3] [0, 1] (by decide) (pick_cons rfl (pick_cons rfl pick_nil)) (pick_cons rfl (pick_cons rfl pick_nil)) (Hn := fun x : Unit => [⟨.pointer (some wa1_0), [(Vl (.pointer (wa1_0_0).1))], 48, none⟩, (Rw Kf 22 (Vs wa1_0_0) r9011.1), ⟨.pointer (some wa0), [(Vl (.pointer ((some q27, 9, 9)).1))], 48, none⟩, (Rw Kf 77 (Vs (some q27, 9, 9)) r9010)]) (fun _ => rfl) rfl rfl) (wt_none' rfl) fun ⟨⟩ => ?_
      obtain ⟨r9012, hr9012, hp⟩ := bind_some hp
      refine sx_ox' (ox_callg' (ent_fn' Tryd.func37 isn37 rfl rfl) (r3_Mat_Set_sim _ _ _ _ hr9012 : Go.Sx.Fn Tryd.prog 37 [(Vl (.pointer (some wa0))), (Vl (.int .i64 1)), (Vl (.int .i64 2)), (Vl (.float .f64 r9011.2))] [⟨.pointer (some wa0), [(Vl (.pointer ((some q27, 9, 9)).1))], 48, none⟩, (Rw Kf 77 (Vs (some q27, 9, 9)) r9010)] (fun x : Unit => (Vl (.tuple #[]))) (fun x => [⟨.pointer (some wa0), [(Vl (.pointer ((some q27, 9, 9)).1))], 48, none⟩, (Rw Kf 77 (Vs (some q27, 9, 9)) r9012)])) [2, 3] [0, 1] (by decide) (pick_cons rfl (pick_cons rfl pick_nil)) (pick_cons rfl (pick_cons rfl pick_nil)) (Hn := fun x : Unit => [⟨.pointer (some wa0), [(Vl (.pointer ((some q27, 9, 9)).1))], 48, none⟩, (Rw Kf 77 (Vs (some q27, 9, 9)) r9012), ⟨.pointer (some wa1_0), [(Vl (.pointer (wa1_0_0).1))], 48, none⟩, (Rw Kf 22 (Vs wa1_0_0) r9011.1)]) (fun _ => rfl) rfl rfl) (wt_none' rfl) fun ⟨⟩ => ?_
      refine sx_nil' ?_
      show TX E K35 _
      refine tx_k' hK35 ?_
      refine cx_region' ?_
      refine sx_rd' (rd_move' rfl) rfl rfl (wt_none' rfl) ?_
      refine sx_rd' (rd_bin' rfl rfl eg_int (ru_addc (c := 3) (by decide))) rfl rfl (wt_none' rfl) ?_
      refine sx_rd' (rd_assign' rfl) rfl rfl (wt_none' rfl) ?_
      refine sx_nil' ?_
      show TX E (LoopIn _ _ _) _
      refine tx_round' ?_
      refine cx_seq' fun K36 hK36 => ?_
      refine cx_seq' fun K37 hK37 => ?_
      refine cx_region' ?_
      refine sx_rd' (rd_move' rfl) rfl rfl (wt_none' rfl) ?_
      refine sx_rd' (rd_bin' rfl rfl eg_int ru_lss) rfl rfl (wt_none' rfl) ?_
      refine sx_nil' ?_
      show TX E K37 _
      refine tx_k' hK37 ?_
      refine cx_cond_f' rfl rfl ?_
      refine cx_exit' ?_
      show TX E K25 _
      refine tx_k' hK25 ?_
      refine cx_region' ?_
      refine sx_rd' (rd_move' rfl) rfl rfl (wt_none' rfl) ?_
      refine sx_rd' (rd_bin' rfl rfl eg_int (ru_addc (c := 2) (by decide))) rfl rfl (wt_none' rfl) ?_
      refine sx_rd' (rd_assign' rfl) rfl rfl (wt_none' rfl) ?_
      refine sx_nil' ?_
      show TX E (LoopIn _ _ _) _
      refine tx_round' ?_
      refine cx_seq' fun K38 hK38 => ?_
      refine cx_seq' fun K39 hK39 => ?_
      refine cx_region' ?_
      refine sx_rd' (rd_move' rfl) rfl rfl (wt_none' rfl) ?_
      refine sx_rd' (rd_bin' rfl rfl eg_int ru_lss) rfl rfl (wt_none' rfl) ?_
      refine sx_nil' ?_
      show TX E K39 _
      refine tx_k' hK39 ?_
      refine cx_cond_t' rfl rfl ?_
      refine cx_skip' ?_
      show TX E K38 _
      refine tx_k' hK38 ?_
      refine cx_seq' fun K40 hK40 => ?_
      refine cx_block' ?_
      refine cx_seq' fun K41 hK41 => ?_
      refine cx_region' ?_
      refine sx_rd' (rd_assign' rfl) rfl rfl (wt_none' rfl) ?_
      refine sx_nil' ?_
      show TX E K41 _
      refine tx_k' hK41 ?_
      refine cx_block' ?_
      refine tx_loop' ?_
      refine tx_round' ?_
      refine cx_seq' fun K42 hK42 => ?_
      refine cx_seq' fun K43 hK43 => ?_
      refine cx_region' ?_
      refine sx_rd' (rd_move' rfl) rfl rfl (wt_none' rfl) ?_
      refine sx_rd' (rd_bin' rfl rfl eg_int ru_lss) rfl rfl (wt_none' rfl) ?_
      refine sx_nil' ?_
      show TX E K43 _
      refine tx_k' hK43 ?_
      refine cx_cond_t' rfl rfl ?_
      refine cx_skip' ?_
      show TX E K42 _
      refine tx_k' hK42 ?_
      refine cx_seq' fun K44 hK44 => ?_
      refine cx_block' ?_
      refine cx_region' ?_
      refine sx_rd' (rd_move' rfl) rfl rfl (wt_none' rfl) ?_
      refine sx_rd' (rd_move' rfl) rfl rfl (wt_none' rfl) ?_
      refine sx_rd' (rd_move' rfl) rfl rfl (wt_none' rfl) ?_
      refine sx_rd' (rd_move' rfl) rfl rfl (wt_none' rfl) ?_
      refine sx_rd' (rd_move' rfl) rfl rfl (wt_none' rfl) ?_
      refine sx_rd' (rd_move' rfl) rfl rfl (wt_none' rfl) ?_
      obtain ⟨r9013, hr9013, hp⟩ := bind_some hp
      refine sx_ox' (ox_callg' (ent_inv' rfl rfl (inv_any2 inv80_At)) (mat_Transpose_At_sim _ _ _ hr9013 : Go.Sx.Fn Tryd.prog 77 [(Ag [(If 43 (Vl (.pointer (some wa1_0))))]), (Vl (.int .i64 2)), (Vl (.int .i64 0))] [⟨.pointer (some wa1_0), [(Vl (.pointer (wa1_0_0).1))], 48, none⟩, (Rw Kf 22 (Vs wa1_0_0) r9011.1)] (fun x : Unit => (Vl (.float .f64 r9013.2))) (fun x => [⟨.pointer (some wa1_0), [(Vl (.pointer (wa1_0_0).1))], 48, none⟩, (Rw Kf 22 (Vs wa1_0_0) r9013.1)])) [2, 3] [0, 1] (by decide) (pick_cons rfl (pick_cons rfl pick_nil)) (pick_cons rfl (pick_cons rfl pick_nil)) (Hn := fun x : Unit => [⟨.pointer (some wa1_0), [(Vl (.pointer (wa1_0_0).1))], 48, none⟩, (Rw Kf 22 (Vs wa1_0_0) r9013.1), ⟨.pointer (some wa0), [(Vl (.pointer ((some q27, 9, 9)).1))], 48, none⟩, (Rw Kf 77 (Vs (some q27, 9, 9)) r9012)]) (fun _ => rfl) rfl rfl) (wt_none' rfl) fun ⟨⟩ => ?_
      obtain ⟨r9014, hr9014, hp⟩ := bind_some hp
      refine sx_ox' (ox_callg' (ent_fn' Tryd.func37 isn37 rfl rfl) (r3_Mat_Set_sim _ _ _ _ hr9014 : Go.Sx.Fn Tryd.prog 37 [(Vl (.pointer (some wa0))), (Vl (.int .i64 2)), (Vl (.int .i64 0)), (Vl (.float .f64 r9013.2))] [⟨.pointer (some wa0), [(Vl (.pointer ((some q27, 9, 9)).1))], 48, none⟩, (Rw Kf 77 (Vs (some q27, 9, 9)) r9012)] (fun x : Unit => (Vl (.tuple #[]))) (fun x => [⟨.pointer (some wa0), [(Vl (.pointer ((some q27, 9, 9)).1))], 48, none⟩, (Rw Kf 77 (Vs (some q27, 9, 9)) r9014)])) [2, 3] [0, 1] (by decide) (pick_cons rfl (pick_cons rfl pick_nil)) (pick_cons rfl (pick_cons rfl pick_nil)) (Hn := fun x : Unit => [⟨.pointer (some wa0), [(Vl (.pointer ((some q27, 9, 9)).1))], 48, none⟩, (Rw Kf 77 (Vs (some q27, 9, 9)) r9014), ⟨.pointer (some wa1_0), [(Vl (.pointer (wa1_0_0).1))], 48, none⟩, (Rw Kf 22 (Vs wa1_0_0) r9013.1)]) (fun _ => rfl) rfl rfl) (wt_none' rfl) fun ⟨⟩ => ?_
      refine sx_nil' ?_
      show TX E K44 _
      refine tx_k' hK44 ?_
      refine cx_region' ?_
      refine sx_rd' (rd_move' rfl) rfl rfl (wt_none' rfl) ?_
      refine sx_rd' (rd_bin' rfl rfl eg_int (ru_addc (c := 1) (by decide))) rfl rfl (wt_none' rfl) ?_
      refine sx_rd' (rd_assign' rfl) rfl rfl (wt_none' rfl) ?_
      refine sx_nil' ?_
      show TX E (LoopIn _ _ _) _
      refine tx_round' ?_
      refine cx_seq' fun K45 hK45 => ?_
      refine cx_seq' fun K46 hK46 => ?_
      refine cx_region' ?_
      refine sx_rd' (rd_move' rfl) rfl rfl (wt_none' rfl) ?_
      refine sx_rd' (rd_bin' rfl rfl eg_int ru_lss) rfl rfl (wt_none' rfl) ?_
      refine sx_nil' ?_
      show TX E K46 _
      refine tx_k' hK46 ?_
      refine cx_cond_t' rfl rfl ?_
      refine cx_skip' ?_
      show TX E K45 _
      refine tx_k' hK45 ?_
      refine cx_seq' fun K47 hK47 => ?_
      refine cx_block' ?_
      refine cx_region' ?_
      refine sx_rd' (rd_move' rfl) rfl rfl (wt_none' rfl) ?_
      refine sx_rd' (rd_move' rfl) rfl rfl (wt_none' rfl) ?_
      refine sx_rd' (rd_move' rfl) rfl rfl (wt_none' rfl) ?_
      refine sx_rd' (rd_move' rfl) rfl rfl (wt_none' rfl) ?_
      refine sx_rd' (rd_move' rfl) rfl rfl (wt_none' rfl) ?_
      refine sx_rd' (rd_move' rfl) rfl rfl (wt_none' rfl) ?_
      obtain ⟨r9015, hr9015, hp⟩ := bind_some hp
      refine sx_ox' (ox_callg' (ent_inv' rfl rfl (inv_any2 inv80_At)) (mat_Transpose_At_sim _ _ _ hr9015 : Go.Sx.Fn Tryd.prog 77 [(Ag [(If 43 (Vl (.pointer (some wa1_0))))]), (Vl (.int .i64 2)), (Vl (.int .i64 1))] [⟨.pointer (some wa1_0), [(Vl (.pointer (wa1_0_0).1))], 48, none⟩, (Rw Kf 22 (Vs wa1_0_0) r9013.1)] (fun x : Unit => (Vl (.float .f64 r9015.2))) (fun x => [⟨.pointer (some wa1_0), [(Vl (.pointer (wa1_0_0).1))], 48, none⟩, (Rw Kf 22 (Vs wa1_0_0) r9015.1)])) [2, 3] [0, 1] (by decide) (pick_cons rfl (pick_cons rfl pick_nil)) (pick_cons rfl (pick_cons rfl pick_nil)) (Hn := fun x : Unit => [⟨.pointer (some wa1_0), [(Vl (.pointer (wa1_0_0).1))], 48, none⟩, (Rw Kf 22 (Vs wa1_0_0) r9015.1), ⟨.pointer (some wa0), [(Vl (.pointer ((some q27, 9, 9)).1))], 48, none⟩, (Rw Kf 77 (Vs (some q27, 9, 9)) r9014)]) (fun _ => rfl) rfl rfl) (wt_none' rfl) fun ⟨⟩ => ?_
      obtain ⟨r9016, hr9016, hp⟩ := bind_some hp
      refine sx_ox' (ox_callg' (ent_fn' Tryd.func37 isn37 rfl rfl) (r3_Mat_Set_sim _ _ _ _ hr9016 : Go.Sx.Fn Tryd.prog 37 [(Vl (.pointer (some wa0))), (Vl (.int .i64 2)), (Vl (.int .i64 1)), (Vl (.float .f64 r9015.2))] [⟨.pointer (some wa0), [(Vl (.pointer ((some q27, 9, 9)).1))], 48, none⟩, (Rw Kf 77 (Vs (some q27, 9, 9)) r9014)] (fun x : Unit => (Vl (.tuple #[]))) (fun x => [⟨.pointer (some wa0), [(Vl (.pointer ((some q27, 9, 9)).1))], 48, none⟩, (Rw Kf 77 (Vs (some q27, 9, 9)) r9016)])) [2, 3] [0, 1] (by decide) (pick_cons rfl (pick_cons rfl pick_nil)) (pick_cons rfl (pick_cons rfl pick_nil)) (Hn := fun x : Unit => [⟨.pointer (some wa0), [(Vl (.pointer ((some q27, 9, 9)).1))], 48, none⟩, (Rw Kf 77 (Vs (some q27, 9, 9)) r9016), ⟨.pointer (some wa1_0), [(Vl (.pointer (wa1_0_0).1))], 48, none⟩, (Rw Kf 22 (Vs wa1_0_0) r9015.1)]) (fun _ => rfl) rfl rfl) (wt_none' rfl) fun ⟨⟩ => ?_
      refine sx_nil' ?_
      show TX E K47 _
      refine tx_k' hK47 ?_
      refine cx_region' ?_
      refine sx_rd' (rd_move' rfl) rfl rfl (wt_none' rfl) ?_
      refine sx_rd' (rd_bin' rfl rfl eg_int (ru_addc (c := 2) (by decide))) rfl rfl (wt_none' rfl) ?_
      refine sx_rd' (rd_assign' rfl) rfl rfl (wt_none' rfl) ?_
      refine sx_nil' ?_
      show TX E (LoopIn _ _ _) _
      refine tx_round' ?_
      refine cx_seq' fun K48 hK48 => ?_
      refine cx_seq' fun K49 hK49 => ?_
      refine cx_region' ?_
      refine sx_rd' (rd_move' rfl) rfl rfl (wt_none' rfl) ?_
      refine sx_rd' (rd_bin' rfl rfl eg_int ru_lss) rfl rfl (wt_none' rfl) ?_
      refine sx_nil' ?_
      show TX E K49 _
      refine tx_k' hK49 ?_
      refine cx_cond_t' rfl rfl ?_
      refine cx_skip' ?_
      show TX E K48 _
      refine tx_k' hK48 ?_
      refine cx_seq' fun K50 hK50 => ?_
      refine cx_block' ?_
      refine cx_region' ?_
      refine sx_rd' (rd_move' rfl) rfl rfl (wt_none' rfl) ?_
      refine sx_rd' (rd_move' rfl) rfl rfl (wt_none' rfl) ?_
      refine sx_rd' (rd_move' rfl) rfl rfl (wt_none' rfl) ?_
      refine sx_rd' (rd_move' rfl) rfl rfl (wt_none' rfl) ?_
      refine sx_rd' (rd_move' rfl) rfl rfl (wt_none' rfl) ?_
      refine sx_rd' (rd_move' rfl) rfl rfl (wt_none' rfl) ?_
      obtain ⟨r9017, hr9017, hp⟩ := bind_some hp
      refine sx_ox' (ox_callg' (ent_inv' rfl rfl (inv_any2 inv80_At)) (mat_Transpose_At_sim _ _ _ hr9017 : Go.Sx.Fn Tryd.prog 77 [(Ag [(If 43 (Vl (.pointer (some wa1_0))))]), (Vl (.int .i64 2)), (Vl (.int .i64 2))] [⟨.pointer (some wa1_0), [(Vl (.pointer (wa1_0_0).1))], 48, none⟩, (Rw Kf 22 (Vs wa1_0_0) r9015.1)] (fun x : Unit => (Vl (.float .f64 r9017.2))) (fun x => [⟨.pointer (some wa1_0), [(Vl (.pointer (wa1_0_0).1))], 48, none⟩, (Rw Kf 22 (Vs wa1_0_0) r9017.1)])) [2, 3] [0, 1] (by decide) (pick_cons rfl (pick_cons rfl pick_nil)) (pick_cons rfl (pick_cons rfl pick_nil)) (Hn := fun x : Unit => [⟨.pointer (some wa1_0), [(Vl (.pointer (wa1_0_0).1))], 48, none⟩, (Rw Kf 22 (Vs wa1_0_0) r9017.1), ⟨.pointer (some wa0), [(Vl (.pointer ((some q27, 9, 9)).1))], 48, none⟩, (Rw Kf 77 (Vs (some q27, 9, 9)) r9016)]) (fun _ => rfl) rfl rfl) (wt_none' rfl) fun ⟨⟩ => ?_
      obtain ⟨r9018, hr9018, hp⟩ := bind_some hp
      refine sx_ox' (ox_callg' (ent_fn' Tryd.func37 isn37 rfl rfl) (r3_Mat_Set_sim _ _ _ _ hr9018 : Go.Sx.Fn Tryd.prog 37 [(Vl (.pointer (some wa0))), (Vl (.int .i64 2)), (Vl (.int .i64 2)), (Vl (.float .f64 r9017.2))] [⟨.pointer (some wa0), [(Vl (.pointer ((some q27, 9, 9)).1))], 48, none⟩, (Rw Kf 77 (Vs (some q27, 9, 9)) r9016)] (fun x : Unit => (Vl (.tuple #[]))) (fun x => [⟨.pointer (some wa0), [(Vl (.pointer ((some q27, 9, 9)).1))], 48, none⟩, (Rw Kf 77 (Vs (some q27, 9, 9)) r9018)])) [2, 3] [0, 1] (by decide) (pick_cons rfl (pick_cons rfl pick_nil)) (pick_cons rfl (pick_cons rfl pick_nil)) (Hn := fun x : Unit => [⟨.pointer (some wa0), [(Vl (.pointer ((some q27, 9, 9)).1))], 48, none⟩, (Rw Kf 77 (Vs (some q27, 9, 9)) r9018), ⟨.pointer (some wa1_0), [(Vl (.pointer (wa1_0_0).1))], 48, none⟩, (Rw Kf 22 (Vs wa1_0_0) r9017.1)]) (fun _ => rfl) rfl rfl) (wt_none' rfl) fun ⟨⟩ => ?_
      refine sx_nil' ?_
      show TX E K50 _
      refine tx_k' hK50 ?_
      refine cx_region' ?_
      refine sx_rd' (rd_move' rfl) rfl rfl (wt_none' rfl) ?_
      refine sx_rd' (rd_bin' rfl rfl eg_int (ru_addc (c := 3) (by decide))) rfl rfl (wt_none' rfl) ?_
      refine sx_rd' (rd_assign' rfl) rfl rfl (wt_none' rfl) ?_
      refine sx_nil' ?_
      show TX E (LoopIn _ _ _) _
      refine tx_round' ?_
      refine cx_seq' fun K51 hK51 => ?_
      refine cx_seq' fun K52 hK52 => ?_
      refine cx_region' ?_
      refine sx_rd' (rd_move' rfl) rfl rfl (wt_none' rfl) ?_
      refine sx_rd' (rd_bin' rfl rfl eg_int ru_lss) rfl rfl (wt_none' rfl) ?_
      refine sx_nil' ?_
      show TX E K52 _
      refine tx_k' hK52 ?_
      refine cx_cond_f' rfl rfl ?_
      refine cx_exit' ?_
      show TX E K40 _
      refine tx_k' hK40 ?_
      refine cx_region' ?_
      refine sx_rd' (rd_move' rfl) rfl rfl (wt_none' rfl) ?_
      refine sx_rd' (rd_bin' rfl rfl eg_int (ru_addc (c := 3) (by decide))) rfl rfl (wt_none' rfl) ?_
      refine sx_rd' (rd_assign' rfl) rfl rfl (wt_none' rfl) ?_
      refine sx_nil' ?_
      show TX E (LoopIn _ _ _) _
      refine tx_round' ?_
      refine cx_seq' fun K53 hK53 => ?_
      refine cx_seq' fun K54 hK54 => ?_
      refine cx_region' ?_
      refine sx_rd' (rd_move' rfl) rfl rfl (wt_none' rfl) ?_
      refine sx_rd' (rd_bin' rfl rfl eg_int ru_lss) rfl rfl (wt_none' rfl) ?_
      refine sx_nil' ?_
      show TX E K54 _
      refine tx_k' hK54 ?_
      refine cx_cond_f' rfl rfl ?_
      refine cx_exit' ?_
      replace hp := Option.some.inj hp
      subst hp
      refine tx_pick' (L' := []) (H' := [⟨.pointer (some wa0), [(Vl (.pointer ((some q27, 9, 9)).1))], 48, none⟩, (Rw Kf 77 (Vs (some q27, 9, 9)) r9018), ⟨.pointer (some wa1_0), [(Vl (.pointer (wa1_0_0).1))], 48, none⟩, (Rw Kf 22 (Vs wa1_0_0) r9017.1)]) [0, 1, 2, 3] sub_nil (by decide) (pick_cons rfl (pick_cons rfl (pick_cons rfl (pick_cons rfl pick_nil)))) ?_
      exact tx_end0' Tryd.results19 rfl q27 rfl (List.Sublist.refl _)
  · intro K4 hK4
    rcases br_cases hp with ⟨h1, hp⟩ | ⟨h1, hp⟩
    · refine sx_skip' rfl rfl (wt_is' (wt_guard' rfl rfl rfl) (beq_tf h1)) ?_
      refine sx_skip' rfl rfl (wt_is' (wt_guard' rfl rfl rfl) (beq_tf h1)) ?_
      refine sx_rd' (rd_pick_true' rfl h1 rfl) rfl rfl (wt_none' rfl) ?_
      refine sx_nil' ?_
      show TX E K4 _
      exact tx_pick' [2, 0, 1] (sub_cons rfl (sub_cons rfl (sub_cons rfl sub_nil))) (by decide) (pick_cons rfl (pick_cons rfl (pick_cons rfl pick_nil))) (hK4 true hp)
    · refine sx_rd' (rd_move' rfl) rfl rfl (wt_is' (wt_guard' rfl rfl rfl) (beq_ff h1)) ?_
      refine sx_rd' (rd_bin' rfl rfl eg_int ru_neq) rfl rfl (wt_is' (wt_guard' rfl rfl rfl) (beq_ff h1)) ?_
      refine sx_rd' (rd_pick_false' rfl h1 rfl) rfl rfl (wt_none' rfl) ?_
      refine sx_nil' ?_
      show TX E K4 _
      exact tx_pick' [2, 0, 1] (sub_cons rfl (sub_cons rfl (sub_cons rfl sub_nil))) (by decide) (pick_cons rfl (pick_cons rfl (pick_cons rfl pick_nil))) (hK4 (!decide (r10.2 = 3)) hp)

def r3_Mat_At_v2 (k : Nat) (a0_0 : List Nat) (a1 : Int) (a2 : Int) : Option ((List Nat) × Nat) :=
  br (decide (2 < (icv .u64 a1)))
    (none)
    (br (decide (2 < (icv .u64 a2)))
      (none)
      ((need 1 a0_0) >>= fun z1 =>
      (idxn 9 a0_0 (iadd .i64 (imul .i64 a1 3) a2)) >>= fun r35 =>
      some (a0_0, r35)))

theorem r3_Mat_At_v2_sim {k : Nat} {wa0 : Addr} {wa0_0 : Addr} (a0_0 : List Nat) (a1 : Int) (a2 : Int) {out : (List Nat) × Nat} (hp : r3_Mat_At_v2 k a0_0 a1 a2 = some out) : Go.Sx.Fn Tryd.prog 36 [(Vl (.pointer (some wa0))), (Vl (.int .i64 a1)), (Vl (.int .i64 a2))] [⟨.pointer (some wa0), [(Vl (.pointer ((some wa0_0, 9, 9)).1))], 48, none⟩, (Rw Kf 77 (Vs (some wa0_0, 9, 9)) a0_0)] (fun w : Unit => (Vl (.float .f64 out.2))) (fun w => [⟨.pointer (some wa0), [(Vl (.pointer ((some wa0_0, 9, 9)).1))], 48, none⟩, (Rw Kf 77 (Vs (some wa0_0, 9, 9)) out.1)]) := by
  unfold r3_Mat_At_v2 at hp
  refine fn_of Tryd.func36 rfl Tryd.ntmps36 rfl fun E hM => ?_
  refine cx_seq' fun K1 hK1 => ?_
  refine cx_region' ?_
  refine sx_rd' (rd_assign' rfl) rfl rfl (wt_none' rfl) ?_
  refine sx_nil' ?_
  show TX E K1 _
  refine tx_k' hK1 ?_
  refine cx_seq' fun K2 hK2 => ?_
  refine cx_seq' fun K3 hK3 => ?_
  refine cx_region' ?_
  refine sx_rd' (rd_move' rfl) rfl rfl (wt_none' rfl) ?_
  refine sx_rd' (rd_conv' rfl (ru_i2i (by rw [Tryd.underlying3]; rfl) Tryd.underlying82)) rfl rfl (wt_none' rfl) ?_
  refine sx_rd' (rd_bin' rfl rfl eg_int ru_gtr) rfl rfl (wt_none' rfl) ?_
  refine sx_nil' ?_
  show TX E K3 _
  refine tx_k' hK3 ?_
  refine cx_cond' rfl (fun h1 => ?_) (fun h1 => ?_)
  · replace hp := (br_t h1).symm.trans hp
    cases hp
  · replace hp := (br_f h1).symm.trans hp
    refine cx_skip' ?_
    show TX E K2 _
    refine tx_k' hK2 ?_
    refine cx_seq' fun K4 hK4 => ?_
    refine cx_seq' fun K5 hK5 => ?_
    refine cx_region' ?_
    refine sx_rd' (rd_move' rfl) rfl rfl (wt_none' rfl) ?_
    refine sx_rd' (rd_conv' rfl (ru_i2i (by rw [Tryd.underlying3]; rfl) Tryd.underlying82)) rfl rfl (wt_none' rfl) ?_
    refine sx_rd' (rd_bin' rfl rfl eg_int ru_gtr) rfl rfl (wt_none' rfl) ?_
    refine sx_nil' ?_
    show TX E K5 _
    refine tx_k' hK5 ?_
    refine cx_cond' rfl (fun h2 => ?_) (fun h2 => ?_)
    · replace hp := (br_t h2).symm.trans hp
      cases hp
    · replace hp := (br_f h2).symm.trans hp
      refine cx_skip' ?_
      show TX E K4 _
      refine tx_k' hK4 ?_
      refine cx_seq' fun K6 hK6 => ?_
      refine cx_seq' fun K7 hK7 => ?_
      refine cx_region' ?_
      refine sx_rd' (rd_move' rfl) rfl rfl (wt_none' rfl) ?_
      refine sx_rd' (rd_nilck' rfl) rfl rfl (wt_none' rfl) ?_
      refine sx_rd' (rd_field0' rfl Tryd.underlying48 rfl info46 rfl) rfl rfl (wt_none' rfl) ?_
      refine sx_rd' (rd_load' (i := 0) (o := 0) rfl ⟨rfl, rfl, rfl, rfl⟩ rfl flat46) rfl rfl (wt_none' rfl) ?_
      obtain ⟨z1, hz1, hp⟩ := bind_some hp
      refine sx_rd' (rd_pa_nil' (m := 1) rfl rfl rfl rfl (need_some hz1) (fun _ _ => by kernel_rfl) nil_eql46_ptr) rfl rfl (wt_none' rfl) ?_
      refine sx_nil' ?_
      show TX E K7 _
      refine tx_k' hK7 ?_
      refine cx_cond_f' rfl rfl ?_
      refine cx_skip' ?_
      show TX E K6 _
      refine tx_k' hK6 ?_
      refine cx_seq' fun K8 hK8 => ?_
      refine cx_region' ?_
      refine sx_rd' (rd_move' rfl) rfl rfl (wt_none' rfl) ?_
      refine sx_rd' (rd_nilck' rfl) rfl rfl (wt_none' rfl) ?_
      refine sx_rd' (rd_field0' rfl Tryd.underlying48 rfl info46 rfl) rfl rfl (wt_none' rfl) ?_
      refine sx_rd' (rd_load' (i := 0) (o := 0) rfl ⟨rfl, rfl, rfl, rfl⟩ rfl flat46) rfl rfl (wt_none' rfl) ?_
      refine sx_rd' (rd_move' rfl) rfl rfl (wt_none' rfl) ?_
      refine sx_rd' (rd_bin' rfl rfl eg_int ru_mul) rfl rfl (wt_none' rfl) ?_
      refine sx_rd' (rd_move' rfl) rfl rfl (wt_none' rfl) ?_
      refine sx_rd' (rd_bin' rfl rfl eg_int ru_add) rfl rfl (wt_none' rfl) ?_
      refine sx_rd' (rd_nilck' (q := wa0_0) rfl) rfl rfl (wt_none' rfl) ?_
      obtain ⟨r35, hr35, hp⟩ := bind_some hp
      refine sx_rd' (rd_atarr' (m := 1) rfl rfl rfl rfl hr35 Tryd.underlying77 info22) rfl rfl (wt_none' rfl) ?_
      refine sx_rd' (rd_loadr' rfl (m := 1) (i := (iadd .i64 (imul .i64 a1 3) a2)) (j := 0) rfl rfl (idxn_some hr35).2 rfl rfl flat22) rfl rfl (wt_none' rfl) ?_
      refine sx_rd' (rd_assign' rfl) rfl rfl (wt_none' rfl) ?_
      refine sx_nil' ?_
      show TX E K8 _
      refine tx_k' hK8 ?_
      refine cx_retc' ?_
      replace hp := Option.some.inj hp
      subst hp
      refine tx_pick' (L' := [(6, (Vl (.float .f64 r35)))]) (H' := [⟨.pointer (some wa0), [(Vl (.pointer ((some wa0_0, 9, 9)).1))], 48, none⟩, (Rw Kf 77 (Vs (some wa0_0, 9, 9)) a0_0)]) [0, 1] (sub_cons rfl sub_nil) (by decide) (pick_cons rfl (pick_cons rfl pick_nil)) ?_
      exact tx_ret1' Tryd.results36 rfl () (rv_tmp' rfl) (List.Sublist.refl _)

def impl_plainMat (k : Nat) (a0_0 : List Nat) : Option ((List Nat) × Nat × Nat × Nat × Nat × Nat × Nat × Nat × Nat × Nat) :=
  (iquo .i64 0 3) >>= fun r901 =>
  (irem 0 3) >>= fun r902 =>
  (r3_Mat_At_v2 k a0_0 r901 r902) >>= fun r903 =>
  (idxn 9 ([0, 0, 0, 0, 0, 0, 0, 0, 0]) 0) >>= fun r904 =>
  (iquo .i64 1 3) >>= fun r905 =>
  (irem 1 3) >>= fun r906 =>
  (r3_Mat_At_v2 k r903.1 r905 r906) >>= fun r907 =>
  (idxn 9 (([0, 0, 0, 0, 0, 0, 0, 0, 0]).set (0 : Int).toNat r903.2) 1) >>= fun r908 =>
  (iquo .i64 2 3) >>= fun r909 =>
  (irem 2 3) >>= fun r9010 =>
  (r3_Mat_At_v2 k r907.1 r909 r9010) >>= fun r9011 =>
  (idxn 9 ((([0, 0, 0, 0, 0, 0, 0, 0, 0]).set (0 : Int).toNat r903.2).set (1 : Int).toNat r907.2) 2) >>= fun r9012 =>
  (iquo .i64 3 3) >>= fun r9013 =>
  (irem 3 3) >>= fun r9014 =>
  (r3_Mat_At_v2 k r9011.1 r9013 r9014) >>= fun r9015 =>
  (idxn 9 (((([0, 0, 0, 0, 0, 0, 0, 0, 0]).set (0 : Int).toNat r903.2).set (1 : Int).toNat r907.2).set (2 : Int).toNat r9011.2) 3) >>= fun r9016 =>
  (iquo .i64 4 3) >>= fun r9017 =>
  (irem 4 3) >>= fun r9018 =>
  (r3_Mat_At_v2 k r9015.1 r9017 r9018) >>= fun r9019 =>
  (idxn 9 ((((([0, 0, 0, 0, 0, 0, 0, 0, 0]).set (0 : Int).toNat r903.2).set (1 : Int).toNat r907.2).set (2 : Int).toNat r9011.2).set (3 : Int).toNat r9015.2) 4) >>= fun r9020 =>
  (iquo .i64 5 3) >>= fun r9021 =>
  (irem 5 3) >>= fun r9022 =>
  (r3_Mat_At_v2 k r9019.1 r9021 r9022) >>= fun r9023 =>
  (idxn 9 (((((([0, 0, 0, 0, 0, 0, 0, 0, 0]).set (0 : Int).toNat r903.2).set (1 : Int).toNat r907.2).set (2 : Int).toNat r9011.2).set (3 : Int).toNat r9015.2).set (4 : Int).toNat r9019.2) 5) >>= fun r9024 =>
  (iquo .i64 6 3) >>= fun r9025 =>
  (irem 6 3) >>= fun r9026 =>
  (r3_Mat_At_v2 k r9023.1 r9025 r9026) >>= fun r9027 =>
  (idxn 9 ((((((([0, 0, 0, 0, 0, 0, 0, 0, 0]).set (0 : Int).toNat r903.2).set (1 : Int).toNat r907.2).set (2 : Int).toNat r9011.2).set (3 : Int).toNat r9015.2).set (4 : Int).toNat r9019.2).set (5 : Int).toNat r9023.2) 6) >>= fun r9028 =>
  (iquo .i64 7 3) >>= fun r9029 =>
  (irem 7 3) >>= fun r9030 =>
  (r3_Mat_At_v2 k r9027.1 r9029 r9030) >>= fun r9031 =>
  (idxn 9 (((((((([0, 0, 0, 0, 0, 0, 0, 0, 0]).set (0 : Int).toNat r903.2).set (1 : Int).toNat r907.2).set (2 : Int).toNat r9011.2).set (3 : Int).toNat r9015.2).set (4 : Int).toNat r9019.2).set (5 : Int).toNat r9023.2).set (6 : Int).toNat r9027.2) 7) >>= fun r9032 =>
  (iquo .i64 8 3) >>= fun r9033 =>
  (irem 8 3) >>= fun r9034 =>
  (r3_Mat_At_v2 k r9031.1 r9033 r9034) >>= fun r9035 =>
  (idxn 9 ((((((((([0, 0, 0, 0, 0, 0, 0, 0, 0]).set (0 : Int).toNat r903.2).set (1 : Int).toNat r907.2).set (2 : Int).toNat r9011.2).set (3 : Int).toNat r9015.2).set (4 : Int).toNat r9019.2).set (5 : Int).toNat r9023.2).set (6 : Int).toNat r9027.2).set (7 : Int).toNat r9031.2) 8) >>= fun r9036 =>
  (vec9 (((((((((([0, 0, 0, 0, 0, 0, 0, 0, 0]).set (0 : Int).toNat r903.2).set (1 : Int).toNat r907.2).set (2 : Int).toNat r9011.2).set (3 : Int).toNat r9015.2).set (4 : Int).toNat r9019.2).set (5 : Int).toNat r9023.2).set (6 : Int).toNat r9027.2).set (7 : Int).toNat r9031.2).set (8 : Int).toNat r9035.2)) >>= fun r17 =>
  some (r9035.1, r17.1, r17.2.1, r17.2.2.1, r17.2.2.2.1, r17.2.2.2.2.1, r17.2.2.2.2.2.1, r17.2.2.2.2.2.2.1, r17.2.2.2.2.2.2.2.1, r17.2.2.2.2.2.2.2.2)

theorem impl_plainMat_sim {k : Nat} {wa0 : Addr} {wa0_0 : Addr} (a0_0 : List Nat) {out : (List Nat) × Nat × Nat × Nat × Nat × Nat × Nat × Nat × Nat × Nat} (hp : impl_plainMat k a0_0 = some out) : Go.Sx.Fn Tryd.prog 21 [(Vl (.pointer (some wa0)))] [⟨.pointer (some wa0), [(Vl (.pointer ((some wa0_0, 9, 9)).1))], 48, none⟩, (Rw Kf 77 (Vs (some wa0_0, 9, 9)) a0_0)] (fun w : Unit => (Ag [(Vl (.float .f64 out.2.1)), (Vl (.float .f64 out.2.2.1)), (Vl (.float .f64 out.2.2.2.1)), (Vl (.float .f64 out.2.2.2.2.1)), (Vl (.float .f64 out.2.2.2.2.2.1)), (Vl (.float .f64 out.2.2.2.2.2.2.1)), (Vl (.float .f64 out.2.2.2.2.2.2.2.1)), (Vl (.float .f64 out.2.2.2.2.2.2.2.2.1)), (Vl (.float .f64 out.2.2.2.2.2.2.2.2.2))])) (fun w => [⟨.pointer (some wa0), [(Vl (.pointer ((some wa0_0, 9, 9)).1))], 48, none⟩, (Rw Kf 77 (Vs (some wa0_0, 9, 9)) out.1)]) := by
  unfold impl_plainMat at hp
  refine fn_of Tryd.func21 rfl Tryd.ntmps21 rfl fun E hM => ?_
  refine cx_seq' fun K1 hK1 => ?_
  refine cx_region' ?_
  refine sx_ox' (ox_alloc' info24 rfl rfl rfl rfl (l := [(Vl (.float .f64 0)), (Vl (.float .f64 0)), (Vl (.float .f64 0)), (Vl (.float .f64 0)), (Vl (.float .f64 0)), (Vl (.float .f64 0)), (Vl (.float .f64 0)), (Vl (.float .f64 0)), (Vl (.float .f64 0))]) rfl) (wt_none' rfl) fun q2 => ?_
  refine sx_nil' ?_
  show TX E K1 _
  refine tx_k' hK1 ?_
  refine cx_seq' fun K2 hK2 => ?_
  refine cx_region' ?_
  refine sx_ox' (ox_alloc' info24 rfl rfl rfl rfl (l := [(Vl (.float .f64 0)), (Vl (.float .f64 0)), (Vl (.float .f64 0)), (Vl (.float .f64 0)), (Vl (.float .f64 0)), (Vl (.float .f64 0)), (Vl (.float .f64 0)), (Vl (.float .f64 0)), (Vl (.float .f64 0))]) rfl) (wt_none' rfl) fun q3 => ?_
  refine tx_arr' (K := Kf) (xs := [0, 0, 0, 0, 0, 0, 0, 0, 0]) (m := 9) (i := 0) rfl rfl rfl (H' := [(Rw Kf 24 (Vs (some q3, 9, 9)) ([0, 0, 0, 0, 0, 0, 0, 0, 0])), ⟨.pointer (some q2), [(Vl (.float .f64 0)), (Vl (.float .f64 0)), (Vl (.float .f64 0)), (Vl (.float .f64 0)), (Vl (.float .f64 0)), (Vl (.float .f64 0)), (Vl (.float .f64 0)), (Vl (.float .f64 0)), (Vl (.float .f64 0))], 24, none⟩, ⟨.pointer (some wa0), [(Vl (.pointer ((some wa0_0, 9, 9)).1))], 48, none⟩, (Rw Kf 77 (Vs (some wa0_0, 9, 9)) a0_0)]) rfl ?_
  refine sx_nil' ?_
  show TX E K2 _
  refine tx_k' hK2 ?_
  refine cx_seq' fun K3 hK3 => ?_
  refine cx_seq' fun K4 hK4 => ?_
  refine cx_region' ?_
  refine sx_rd' (rd_move' rfl) rfl rfl (wt_none' rfl) ?_
  refine sx_nil' ?_
  show TX E K4 _
  refine tx_k' hK4 ?_
  refine cx_block' ?_
  refine tx_loop' ?_
  refine tx_round' ?_
  refine cx_seq' fun K5 hK5 => ?_
  refine cx_region' ?_
  refine sx_rd' (rd_bin' rfl rfl eg_int ru_lss) rfl rfl (wt_none' rfl) ?_
  refine sx_nil' ?_
  show TX E K5 _
  refine tx_k' hK5 ?_
  refine cx_seq' fun K6 hK6 => ?_
  refine cx_cond_t' rfl rfl ?_
  refine cx_skip' ?_
  show TX E K6 _
  refine tx_k' hK6 ?_
  refine cx_seq' fun K7 hK7 => ?_
  refine cx_block' ?_
  refine cx_seq' fun K8 hK8 => ?_
  refine cx_region' ?_
  refine sx_rd' (rd_move' rfl) rfl rfl (wt_none' rfl) ?_
  refine sx_rd' (rd_assign' rfl) rfl rfl (wt_none' rfl) ?_
  refine sx_nil' ?_
  show TX E K8 _
  refine tx_k' hK8 ?_
  refine cx_region' ?_
  refine sx_rd' (rd_move' rfl) rfl rfl (wt_none' rfl) ?_
  refine sx_rd' (rd_move' rfl) rfl rfl (wt_none' rfl) ?_
  refine sx_rd' (rd_move' rfl) rfl rfl (wt_none' rfl) ?_
  obtain ⟨r901, hr901, hp⟩ := bind_some hp
  refine sx_rd' (rd_bin' rfl rfl eg_int (ru_quo hr901)) rfl rfl (wt_none' rfl) ?_
  refine sx_rd' (rd_move' rfl) rfl rfl (wt_none' rfl) ?_
  obtain ⟨r902, hr902, hp⟩ := bind_some hp
  refine sx_rd' (rd_bin' rfl rfl eg_int (ru_rem hr902)) rfl rfl (wt_none' rfl) ?_
  obtain ⟨r903, hr903, hp⟩ := bind_some hp
  refine sx_ox' (ox_callg' (ent_fn' Tryd.func36 isn36 rfl rfl) (r3_Mat_At_v2_sim _ _ _ hr903 : Go.Sx.Fn Tryd.prog 36 [(Vl (.pointer (some wa0))), (Vl (.int .i64 r901)), (Vl (.int .i64 r902))] [⟨.pointer (some wa0), [(Vl (.pointer ((some wa0_0, 9, 9)).1))], 48, none⟩, (Rw Kf 77 (Vs (some wa0_0, 9, 9)) a0_0)] (fun x : Unit => (Vl (.float .f64 r903.2))) (fun x => [⟨.pointer (some wa0), [(Vl (.pointer ((some wa0_0, 9, 9)).1))], 48, none⟩, (Rw Kf 77 (Vs (some wa0_0, 9, 9)) r903.1)])) [2, 3] [0, 1] (by decide) (pick_cons rfl (pick_cons rfl pick_nil)) (pick_cons rfl (pick_cons rfl pick_nil)) (Hn := fun x : Unit => [⟨.pointer (some wa0), [(Vl (.pointer ((some wa0_0, 9, 9)).1))], 48, none⟩, (Rw Kf 77 (Vs (some wa0_0, 9, 9)) r903.1), (Rw Kf 24 (Vs (some q3, 9, 9)) ([0, 0, 0, 0, 0, 0, 0, 0, 0])), ⟨.pointer (some q2), [(Vl (.float .f64 0)), (Vl (.float .f64 0)), (Vl (.float .f64 0)), (Vl (.float .f64 0)), (Vl (.float .f64 0)), (Vl (.float .f64 0)), (Vl (.float .f64 0)), (Vl (.float .f64 0)), (Vl (.float .f64 0))], 24, none⟩]) (fun _ => rfl) rfl rfl) (wt_none' rfl) fun ⟨⟩ => ?_
  obtain ⟨r904, hr904, hp⟩ := bind_some hp
  refine sx_rd' (rd_atarr' (m := 2) rfl rfl rfl rfl hr904 Tryd.underlying24 info22) rfl rfl (wt_none' rfl) ?_
  refine sx_ox' (ox_storer' (m := 2) (i := 0) (j := 0) (x' := r903.2) rfl rfl (lv_vl rfl rfl) rfl rfl (idxn_some hr904).2 rfl rfl rfl info22 rfl (H' := [⟨.pointer (some wa0), [(Vl (.pointer ((some wa0_0, 9, 9)).1))], 48, none⟩, (Rw Kf 77 (Vs (some wa0_0, 9, 9)) r903.1), (Rw Kf 24 (Vs (some q3, 9, 9)) (([0, 0, 0, 0, 0, 0, 0, 0, 0]).set (0 : Int).toNat r903.2)), ⟨.pointer (some q2), [(Vl (.float .f64 0)), (Vl (.float .f64 0)), (Vl (.float .f64 0)), (Vl (.float .f64 0)), (Vl (.float .f64 0)), (Vl (.float .f64 0)), (Vl (.float .f64 0)), (Vl (.float .f64 0)), (Vl (.float .f64 0))], 24, none⟩]) rfl) (wt_none' rfl) fun _ => ?_
  refine sx_nil' ?_
  show TX E K7 _
  refine tx_k' hK7 ?_
  refine cx_region' ?_
  refine sx_rd' (rd_bin' rfl rfl eg_int (ru_addc (c := 1) (by decide))) rfl rfl (wt_none' rfl) ?_
  refine sx_rd' (rd_move' rfl) rfl rfl (wt_none' rfl) ?_
  refine sx_nil' ?_
  show TX E (LoopIn _ _ _) _
  refine tx_round' ?_
  refine cx_seq' fun K9 hK9 => ?_
  refine cx_region' ?_
  refine sx_rd' (rd_bin' rfl rfl eg_int ru_lss) rfl rfl (wt_none' rfl) ?_
  refine sx_nil' ?_
  show TX E K9 _
  refine tx_k' hK9 ?_
  refine cx_seq' fun K10 hK10 => ?_
  refine cx_cond_t' rfl rfl ?_
  refine cx_skip' ?_
  show TX E K10 _
  refine tx_k' hK10 ?_
  refine cx_seq' fun K11 hK11 => ?_
  refine cx_block' ?_
  refine cx_seq' fun K12 hK12 => ?_
  refine cx_region' ?_
  refine sx_rd' (rd_move' rfl) rfl rfl (wt_none' rfl) ?_
  refine sx_rd' (rd_assign' rfl) rfl rfl (wt_none' rfl) ?_
  refine sx_nil' ?_
  show TX E K12 _
  refine tx_k' hK12 ?_
  refine cx_region' ?_
  refine sx_rd' (rd_move' rfl) rfl rfl (wt_none' rfl) ?_
  refine sx_rd' (rd_move' rfl) rfl rfl (wt_none' rfl) ?_
  refine sx_rd' (rd_move' rfl) rfl rfl (wt_none' rfl) ?_
  obtain ⟨r905, hr905, hp⟩ := bind_some hp
  refine sx_rd' (rd_bin' rfl rfl eg_int (ru_quo hr905)) rfl rfl (wt_none' rfl) ?_
  refine sx_rd' (rd_move' rfl) rfl rfl (wt_none' rfl) ?_
  obtain ⟨r906, hr906, hp⟩ := bind_some hp
  refine sx_rd' (rd_bin' rfl rfl eg_int (ru_rem hr906)) rfl rfl (wt_none' rfl) ?_
  obtain ⟨r907, hr907, hp⟩ := bind_some hp
  refine sx_ox' (ox_callg' (ent_fn' Tryd.func36 isn36 rfl rfl) (r3_Mat_At_v2_sim _ _ _ hr907 : Go.Sx.Fn Tryd.prog 36 [(Vl (.pointer (some wa0))), (Vl (.int .i64 r905)), (Vl (.int .i64 r906))] [⟨.pointer (some wa0), [(Vl (.pointer ((some wa0_0, 9, 9)).1))], 48, none⟩, (Rw Kf 77 (Vs (some wa0_0, 9, 9)) r903.1)] (fun x : Unit => (Vl (.float .f64 r907.2))) (fun x => [⟨.pointer (some wa0), [(Vl (.pointer ((some wa0_0, 9, 9)).1))], 48, none⟩, (Rw Kf 77 (Vs (some wa0_0, 9, 9)) r907.1)])) [0, 1] [2, 3] (by decide) (pick_cons rfl (pick_cons rfl pick_nil)) (pick_cons rfl (pick_cons rfl pick_nil)) (Hn := fun x : Unit => [⟨.pointer (some wa0), [(Vl (.pointer ((some wa0_0, 9, 9)).1))], 48, none⟩, (Rw Kf 77 (Vs (some wa0_0, 9, 9)) r907.1), (Rw Kf 24 (Vs (some q3, 9, 9)) (([0, 0, 0, 0, 0, 0, 0, 0, 0]).set (0 : Int).toNat r903.2)), ⟨.pointer (some q2), [(Vl (.float .f64 0)), (Vl (.float .f64 0)), (Vl (.float .f64 0)), (Vl (.float .f64 0)), (Vl (.float .f64 0)), (Vl (.float .f64 0)), (Vl (.float .f64 0)), (Vl (.float .f64 0)), (Vl (.float .f64 0))], 24, none⟩]) (fun _ => rfl) rfl rfl) (wt_none' rfl) fun ⟨⟩ => ?_
  obtain ⟨r908, hr908, hp⟩ := bind_some hp
  refine sx_rd' (rd_atarr' (m := 2) rfl rfl rfl rfl hr908 Tryd.underlying24 info22) rfl rfl (wt_none' rfl) ?_
  refine sx_ox' (ox_storer' (m := 2) (i := 1) (j := 0) (x' := r907.2) rfl rfl (lv_vl rfl rfl) rfl rfl (idxn_some hr908).2 rfl rfl rfl info22 rfl (H' := [⟨.pointer (some wa0), [(Vl (.pointer ((some wa0_0, 9, 9)).1))], 48, none⟩, (Rw Kf 77 (Vs (some wa0_0, 9, 9)) r907.1), (Rw Kf 24 (Vs (some q3, 9, 9)) ((([0, 0, 0, 0, 0, 0, 0, 0, 0]).set (0 : Int).toNat r903.2).set (1 : Int).toNat r907.2)), ⟨.pointer (some q2), [(Vl (.float .f64 0)), (Vl (.float .f64 0)), (Vl (.float .f64 0)), (Vl (.float .f64 0)), (Vl (.float .f64 0)), (Vl (.float .f64 0)), (Vl (.float .f64 0)), (Vl (.float .f64 0)), (Vl (.float .f64 0))], 24, none⟩]) rfl) (wt_none' rfl) fun _ => ?_
  refine sx_nil' ?_
  show TX E K11 _
  refine tx_k' hK11 ?_
  refine cx_region' ?_
  refine sx_rd' (rd_bin' rfl rfl eg_int (ru_addc (c := 2) (by decide))) rfl rfl (wt_none' rfl) ?_
  refine sx_rd' (rd_move' rfl) rfl rfl (wt_none' rfl) ?_
  refine sx_nil' ?_
  show TX E (LoopIn _ _ _) _
  refine tx_round' ?_
  refine cx_seq' fun K13 hK13 => ?_
  refine cx_region' ?_
  refine sx_rd' (rd_bin' rfl rfl eg_int ru_lss) rfl rfl (wt_none' rfl) ?_
  refine sx_nil' ?_
  show TX E K13 _
  refine tx_k' hK13 ?_
  refine cx_seq' fun K14 hK14 => ?_
  refine cx_cond_t' rfl rfl ?_
  refine cx_skip' ?_
  show TX E K14 _
  refine tx_k' hK14 ?_
  refine cx_seq' fun K15 hK15 => ?_
  refine cx_block' ?_
  refine cx_seq' fun K16 hK16 => ?_
  refine cx_region' ?_
  refine sx_rd' (rd_move' rfl) rfl rfl (wt_none' rfl) ?_
  refine sx_rd' (rd_assign' rfl) rfl rfl (wt_none' rfl) ?_
  refine sx_nil' ?_
  show TX E K16 _
  refine tx_k' hK16 ?_
  refine cx_region' ?_
  refine sx_rd' (rd_move' rfl) rfl rfl (wt_none' rfl) ?_
  refine sx_rd' (rd_move' rfl) rfl rfl (wt_none' rfl) ?_
  refine sx_rd' (rd_move' rfl) rfl rfl (wt_none' rfl) ?_
  obtain ⟨r909, hr909, hp⟩ := bind_some hp
  refine sx_rd' (rd_bin' rfl rfl eg_int (ru_quo hr909)) rfl rfl (wt_none' rfl) ?_
  refine sx_rd' (rd_move' rfl) rfl rfl (wt_none' rfl) ?_
  obtain ⟨r9010, hr9010, hp⟩ := bind_some hp
  refine sx_rd' (rd_bin' rfl rfl eg_int (ru_rem hr9010)) rfl rfl (wt_none' rfl) ?_
  obtain ⟨r9011, hr9011, hp⟩ := bind_some hp
  refine sx_ox' (ox_callg' (ent_fn' Tryd.func36 isn36 rfl rfl) (r3_Mat_At_v2_sim _ _ _ hr9011 : Go.Sx.Fn Tryd.prog 36 [(Vl (.pointer (some wa0))), (Vl (.int .i64 r909)), (Vl (.int .i64 r9010))] [⟨.pointer (some wa0), [(Vl (.pointer ((some wa0_0, 9, 9)).1))], 48, none⟩, (Rw Kf 77 (Vs (some wa0_0, 9, 9)) r907.1)] (fun x : Unit => (Vl (.float .f64 r9011.2))) (fun x => [⟨.pointer (some wa0), [(Vl (.pointer ((some wa0_0, 9, 9)).1))], 48, none⟩, (Rw Kf 77 (Vs (some wa0_0, 9, 9)) r9011.1)])) [0, 1] [2, 3] (by decide) (pick_cons rfl (pick_cons rfl pick_nil)) (pick_cons rfl (pick_cons rfl pick_nil)) (Hn := fun x : Unit => [⟨.pointer (some wa0), [(Vl (.pointer ((some wa0_0, 9, 9)).1))], 48, none⟩, (Rw Kf 77 (Vs (some wa0_0, 9, 9)) r9011.1), (Rw Kf 24 (Vs (some q3, 9, 9)) ((([0, 0, 0, 0, 0, 0, 0, 0, 0]).set (0 : Int).toNat r903.2).set (1 : Int).toNat r907.2)), ⟨.pointer (some q2), [(Vl (.float .f64 0)), (Vl (.float .f64 0)), (Vl (.float .f64 0)), (Vl (.float .f64 0)), (Vl (.float .f64 0)), (Vl (.float .f64 0)), (Vl (.float .f64 0)), (Vl (.float .f64 0)), (Vl (.float .f64 0))], 24, none⟩]) (fun _ => rfl) rfl rfl) (wt_none' rfl) fun ⟨⟩ => ?_
  obtain ⟨r9012, hr9012, hp⟩ := bind_some hp
  refine sx_rd' (rd_atarr' (m := 2) rfl rfl rfl rfl hr9012 Tryd.underlying24 info22) rfl rfl (wt_none' rfl) ?_
  refine sx_ox' (ox_storer' (m := 2) (i := 2) (j := 0) (x' := r9011.2) rfl rfl (lv_vl rfl rfl) rfl rfl (idxn_some hr9012).2 rfl rfl rfl info22 rfl (H' := [⟨.pointer (some wa0), [(Vl (.pointer ((some wa0_0, 9, 9)).1))], 48, none⟩, (Rw Kf 77 (Vs (some wa0_0, 9, 9)) r9011.1), (Rw Kf 24 (Vs (some q3, 9, 9)) (((([0, 0, 0, 0, 0, 0, 0, 0, 0]).set (0 : Int).toNat r903.2).set (1 : Int).toNat r907.2).set (2 : Int).toNat r9011.2)), ⟨.pointer (some q2), [(Vl (.float .f64 0)), (Vl (.float .f64 0)), (Vl (.float .f64 0)), (Vl (.float .f64 0)), (Vl (.float .f64 0)), (Vl (.float .f64 0)), (Vl (.float .f64 0)), (Vl (.float .f64 0)), (Vl (.float .f64 0))], 24, none⟩]) rfl) (wt_none' rfl) fun _ => ?_
  refine sx_nil' ?_
  show TX E K15 _
  refine tx_k' hK15 ?_
  refine cx_region' ?_
  refine sx_rd' (rd_bin' rfl rfl eg_int (ru_addc (c := 3) (by decide))) rfl rfl (wt_none' rfl) ?_
  refine sx_rd' (rd_move' rfl) rfl rfl (wt_none' rfl) ?_
  refine sx_nil' ?_
  show TX E (LoopIn _ _ _) _
  refine tx_round' ?_
  refine cx_seq' fun K17 hK17 => ?_
  refine cx_region' ?_
  refine sx_rd' (rd_bin' rfl rfl eg_int ru_lss) rfl rfl (wt_none' rfl) ?_
  refine sx_nil' ?_
  show TX E K17 _
  refine tx_k' hK17 ?_
  refine cx_seq' fun K18 hK18 => ?_
  refine cx_cond_t' rfl rfl ?_
  refine cx_skip' ?_
  show TX E K18 _
  refine tx_k' hK18 ?_
  refine cx_seq' fun K19 hK19 => ?_
  refine cx_block' ?_
  refine cx_seq' fun K20 hK20 => ?_
  refine cx_region' ?_
  refine sx_rd' (rd_move' rfl) rfl rfl (wt_none' rfl) ?_
  refine sx_rd' (rd_assign' rfl) rfl rfl (wt_none' rfl) ?_
  refine sx_nil' ?_
  show TX E K20 _
  refine tx_k' hK20 ?_
  refine cx_region' ?_
  refine sx_rd' (rd_move' rfl) rfl rfl (wt_none' rfl) ?_
  refine sx_rd' (rd_move' rfl) rfl rfl (wt_none' rfl) ?_
  refine sx_rd' (rd_move' rfl) rfl rfl (wt_none' rfl) ?_
  obtain ⟨r9013, hr9013, hp⟩ := bind_some hp
  refine sx_rd' (rd_bin' rfl rfl eg_int (ru_quo hr9013)) rfl rfl (wt_none' rfl) ?_
  refine sx_rd' (rd_move' rfl) rfl rfl (wt_none' rfl) ?_
  obtain ⟨r9014, hr9014, hp⟩ := bind_some hp
  refine sx_rd' (rd_bin' rfl rfl eg_int (ru_rem hr9014)) rfl rfl (wt_none' rfl) ?_
  obtain ⟨r9015, hr9015, hp⟩ := bind_some hp
  refine sx_ox' (ox_callg' (ent_fn' Tryd.func36 isn36 rfl rfl) (r3_Mat_At_v2_sim _ _ _ hr9015 : Go.Sx.Fn Tryd.prog 36 [(Vl (.pointer (some wa0))), (Vl (.int .i64 r9013)), (Vl (.int .i64 r9014))] [⟨.pointer (some wa0), [(Vl (.pointer ((some wa0_0, 9, 9)).1))], 48, none⟩, (Rw Kf 77 (Vs (some wa0_0, 9, 9)) r9011.1)] (fun x : Unit => (Vl (.float .f64 r9015.2))) (fun x => [⟨.pointer (some wa0), [(Vl (.pointer ((some wa0_0, 9, 9)).1))], 48, none⟩, (Rw Kf 77 (Vs (some wa0_0, 9, 9)) r9015.1)])) [0, 1] [2, 3] (by decide) (pick_cons rfl (pick_cons rfl pick_nil)) (pick_cons rfl (pick_cons rfl pick_nil)) (Hn := fun x : Unit => [⟨.pointer (some wa0), [(Vl (.pointer ((some wa0_0, 9, 9)).1))], 48, none⟩, (Rw Kf 77 (Vs (some wa0_0, 9, 9)) r9015.1), (Rw Kf 24 (Vs (some q3, 9, 9)) (((([0, 0, 0, 0, 0, 0, 0, 0, 0]).set (0 : Int).toNat r903.2).set (1 : Int).toNat r907.2).set (2 : Int).toNat r9011.2)), ⟨.pointer (some q2), [(Vl (.float .f64 0)), (Vl (.float .f64 0)), (Vl (.float .f64 0)), (Vl (.float .f64 0)), (Vl (.float .f64 0)), (Vl (.float .f64 0)), (Vl (.float .f64 0)), (Vl (.float .f64 0)), (Vl (.float .f64 0))], 24, none⟩]) (fun _ => rfl) rfl rfl) (wt_none' rfl) fun ⟨⟩ => ?_
  obtain ⟨r9016, hr9016, hp⟩ := bind_some hp
  refine sx_rd' (rd_atarr' (m := 2) rfl rfl rfl rfl hr9016 Tryd.underlying24 info22) rfl rfl (wt_none' rfl) ?_
  refine sx_ox' (ox_storer' (m := 2) (i := 3) (j := 0) (x' := r9015.2) rfl rfl (lv_vl rfl rfl) rfl rfl (idxn_some hr9016).2 rfl rfl rfl info22 rfl (H' := [⟨.pointer (some wa0), [(Vl (.pointer ((some wa0_0, 9, 9)).1))], 48, none⟩, (Rw Kf 77 (Vs (some wa0_0, 9, 9)) r9015.1), (Rw Kf 24 (Vs (some q3, 9, 9)) ((((([0, 0, 0, 0, 0, 0, 0, 0, 0]).set (0 : Int).toNat r903.2).set (1 : Int).toNat r907.2).set (2 : Int).toNat r9011.2).set (3 : Int).toNat r9015.2)), ⟨.pointer (some q2), [(Vl (.float .f64 0)), (Vl (.float .f64 0)), (Vl (.float .f64 0)), (Vl (.float .f64 0)), (Vl (.float .f64 0)), (Vl (.float .f64 0)), (Vl (.float .f64 0)), (Vl (.float .f64 0)), (Vl (.float .f64 0))], 24, none⟩]) rfl) (wt_none' rfl) fun _ => ?_
  refine sx_nil' ?_
  show TX E K19 _
  refine tx_k' hK19 ?_
  refine cx_region' ?_
  refine sx_rd' (rd_bin' rfl rfl eg_int (ru_addc (c := 4) (by decide))) rfl rfl (wt_none' rfl) ?_
  refine sx_rd' (rd_move' rfl) rfl rfl (wt_none' rfl) ?_
  refine sx_nil' ?_
  show TX E (LoopIn _ _ _) _
  refine tx_round' ?_
  refine cx_seq' fun K21 hK21 => ?_
  refine cx_region' ?_
  refine sx_rd' (rd_bin' rfl rfl eg_int ru_lss) rfl rfl (wt_none' rfl) ?_
  refine sx_nil' ?_
  show TX E K21 _
  refine tx_k' hK21 ?_
  refine cx_seq' fun K22 hK22 => ?_
  refine cx_cond_t' rfl rfl ?_
  refine cx_skip' ?_
  show TX E K22 _
  refine tx_k' hK22 ?_
  refine cx_seq' fun K23 hK23 => ?_
  refine cx_block' ?_
  refine cx_seq' fun K24 hK24 => ?_
  refine cx_region' ?_
  refine sx_rd' (rd_move' rfl) rfl rfl (wt_none' rfl) ?_
  refine sx_rd' (rd_assign' rfl) rfl rfl (wt_none' rfl) ?_
  refine sx_nil' ?_
  show TX E K24 _
  refine tx_k' hK24 ?_
  refine cx_region' ?_
  refine sx_rd' (rd_move' rfl) rfl rfl (wt_none' rfl) ?_
  refine sx_rd' (rd_move' rfl) rfl rfl (wt_none' rfl) ?_
  refine sx_rd' (rd_move' rfl) rfl rfl (wt_none' rfl) ?_
  obtain ⟨r9017, hr9017, hp⟩ := bind_some hp
  refine sx_rd' (rd_bin' rfl rfl eg_int (ru_quo hr9017)) rfl rfl (wt_none' rfl) ?_
  refine sx_rd' (rd_move' rfl) rfl rfl (wt_none' rfl) ?_
  obtain ⟨r9018, hr9018, hp⟩ := bind_some hp
  refine sx_rd' (rd_bin' rfl rfl eg_int (ru_rem hr9018)) rfl rfl (wt_none' rfl) ?_
  obtain ⟨r9019, hr9019, hp⟩ := bind_some hp
  refine sx_ox' (ox_callg' (ent_fn' Tryd.func36 isn36 rfl rfl) (r3_Mat_At_v2_sim _ _ _ hr9019 : Go.Sx.Fn Tryd.prog 36 [(Vl (.pointer (some wa0))), (Vl (.int .i64 r9017)), (Vl (.int .i64 r9018))] [⟨.pointer (some wa0), [(Vl (.pointer ((some wa0_0, 9, 9)).1))], 48, none⟩, (Rw Kf 77 (Vs (some wa0_0, 9, 9)) r9015.1)] (fun x : Unit => (Vl (.float .f64 r9019.2))) (fun x => [⟨.pointer (some wa0), [(Vl (.pointer ((some wa0_0, 9, 9)).1))], 48, none⟩, (Rw Kf 77 (Vs (some wa0_0, 9, 9)) r9019.1)])) [0, 1] [2, 3] (by decide) (pick_cons rfl (pick_cons rfl pick_nil)) (pick_cons rfl (pick_cons rfl pick_nil)) (Hn := fun x : Unit => [⟨.pointer (some wa0), [(Vl (.pointer ((some wa0_0, 9, 9)).1))], 48, none⟩, (Rw Kf 77 (Vs (some wa0_0, 9, 9)) r9019.1), (Rw Kf 24 (Vs (some q3, 9, 9)) ((((([0, 0, 0, 0, 0, 0, 0, 0, 0]).set (0 : Int).toNat r903.2).set (1 : Int).toNat r907.2).set (2 : Int).toNat r9011.2).set (3 : Int).toNat r9015.2)), ⟨.pointer (some q2), [(Vl (.float .f64 0)), (Vl (.float .f64 0)), (Vl (.float .f64 0)), (Vl (.float .f64 0)), (Vl (.float .f64 0)), (Vl (.float .f64 0)), (Vl (.float .f64 0)), (Vl (.float .f64 0)), (Vl (.float .f64 0))], 24, none⟩]) (fun _ => rfl) rfl rfl) (wt_none' rfl) fun ⟨⟩ => ?_
  obtain ⟨r9020, hr9020, hp⟩ := bind_some hp
  refine sx_rd' (rd_atarr' (m := 2) rfl rfl rfl rfl hr9020 Tryd.underlying24 info22) rfl rfl (wt_none' rfl) ?_
  refine sx_ox' (ox_storer' (m := 2) (i := 4) (j := 0) (x' := r9019.2) rfl rfl (lv_vl rfl rfl) rfl rfl (idxn_some hr9020).2 rfl rfl rfl info22 rfl (H' := [⟨.pointer (some wa0), [(Vl (.pointer ((some wa0_0, 9, 9)).1))], 48, none⟩, (Rw Kf 77 (Vs (some wa0_0, 9, 9)) r9019.1), (Rw Kf 24 (Vs (some q3, 9, 9)) (((((([0, 0, 0, 0, 0, 0, 0, 0, 0]).set (0 : Int).toNat r903.2).set (1 : Int).toNat r907.2).set (2 : Int).toNat r9011.2).set (3 : Int).toNat r9015.2).set (4 : Int).toNat r9019.2)), ⟨.pointer (some q2), [(Vl (.float .f64 0)), (Vl (.float .f64 0)), (Vl (.float .f64 0)), (Vl (.float .f64 0)), (Vl (.float .f64 0)), (Vl (.float .f64 0)), (Vl (.float .f64 0)), (Vl (.float .f64 0)), (Vl (.float .f64 0))], 24, none⟩]) rfl) (wt_none' rfl) fun _ => ?_
  refine sx_nil' ?_
  show TX E K23 _
  refine tx_k' hK23 ?_
  refine cx_region' ?_
  refine sx_rd' (rd_bin' rfl rfl eg_int (ru_addc (c := 5) (by decide))) rfl rfl (wt_none' rfl) ?_
  refine sx_rd' (rd_move' rfl) rfl rfl (wt_none' rfl) ?_
  refine sx_nil' ?_
  show TX E (LoopIn _ _ _) _
  refine tx_round' ?_
  refine cx_seq' fun K25 hK25 => ?_
  refine cx_region' ?_
  refine sx_rd' (rd_bin' rfl rfl eg_int ru_lss) rfl rfl (wt_none' rfl) ?_
  refine sx_nil' ?_
  show TX E K25 _
  refine tx_k' hK25 ?_
  refine cx_seq' fun K26 hK26 => ?_
  refine cx_cond_t' rfl rfl ?_
  refine cx_skip' ?_
  show TX E K26 _
  refine tx_k' hK26 ?_
  refine cx_seq' fun K27 hK27 => ?_
  refine cx_block' ?_
  refine cx_seq' fun K28 hK28 => ?_
  refine cx_region' ?_
  refine sx_rd' (rd_move' rfl) rfl rfl (wt_none' rfl) ?_
  refine sx_rd' (rd_assign' rfl) rfl rfl (wt_none' rfl) ?_
  refine sx_nil' ?_
  show TX E K28 _
  refine tx_k' hK28 ?_
  refine cx_region' ?_
  refine sx_rd' (rd_move' rfl) rfl rfl (wt_none' rfl) ?_
  refine sx_rd' (rd_move' rfl) rfl rfl (wt_none' rfl) ?_
  refine sx_rd' (rd_move' rfl) rfl rfl (wt_none' rfl) ?_
  obtain ⟨r9021, hr9021, hp⟩ := bind_some hp
  refine sx_rd' (rd_bin' rfl rfl eg_int (ru_quo hr9021)) rfl rfl (wt_none' rfl) ?_
  refine sx_rd' (rd_move' rfl) rfl rfl (wt_none' rfl) ?_
  obtain ⟨r9022, hr9022, hp⟩ := bind_some hp
  refine sx_rd' (rd_bin' rfl rfl eg_int (ru_rem hr9022)) rfl rfl (wt_none' rfl) ?_
  obtain ⟨r9023, hr9023, hp⟩ := bind_some hp
  refine sx_ox' (ox_callg' (ent_fn' Tryd.func36 isn36 rfl rfl) (r3_Mat_At_v2_sim _ _ _ hr9023 : Go.Sx.Fn Tryd.prog 36 [(Vl (.pointer (some wa0))), (Vl (.int .i64 r9021)), (Vl (.int .i64 r9022))] [⟨.pointer (some wa0), [(Vl (.pointer ((some wa0_0, 9, 9)).1))], 48, none⟩, (Rw Kf 77 (Vs (some wa0_0, 9, 9)) r9019.1)] (fun x : Unit => (Vl (.float .f64 r9023.2))) (fun x => [⟨.pointer (some wa0), [(Vl (.pointer ((some wa0_0, 9, 9)).1))], 48, none⟩, (Rw Kf 77 (Vs (some wa0_0, 9, 9)) r9023.1)])) [0, 1] [2, 3] (by decide) (pick_cons rfl (pick_cons rfl pick_nil)) (pick_cons rfl (pick_cons rfl pick_nil)) (Hn := fun x : Unit => [⟨.pointer (some wa0), [(Vl (.pointer ((some wa0_0, 9, 9)).1))], 48, none⟩, (Rw Kf 77 (Vs (some wa0_0, 9, 9)) r9023.1), (Rw Kf 24 (Vs (some q3, 9, 9)) (((((([0, 0, 0, 0, 0, 0, 0, 0, 0]).set (0 : Int).toNat r903.2).set (1 : Int).toNat r907.2).set (2 : Int).toNat r9011.2).set (3 : Int).toNat r9015.2).set (4 : Int).toNat r9019.2)), ⟨.pointer (some q2), [(Vl (.float .f64 0)), (Vl (.float .f64 0)), (Vl (.float .f64 0)), (Vl (.float .f64 0)), (Vl (.float .f64 0)), (Vl (.float .f64 0)), (Vl (.float .f64 0)), (Vl (.float .f64 0)), (Vl (.float .f64 0))], 24, none⟩]) (fun _ => rfl) rfl rfl) (wt_none' rfl) fun ⟨⟩ => ?_
  obtain ⟨r9024, hr9024, hp⟩ := bind_some hp
  refine sx_rd' (rd_atarr' (m := 2) rfl rfl rfl rfl hr9024 Tryd.underlying24 info22) rfl rfl (wt_none' rfl) ?_
  refine sx_ox' (ox_storer' (m := 2) (i := 5) (j := 0) (x' := r9023.2) rfl rfl (lv_vl rfl rfl) rfl rfl (idxn_some hr9024).2 rfl rfl rfl info22 rfl (H' := [⟨.pointer (some wa0), [(Vl (.pointer ((some wa0_0, 9, 9)).1))], 48, none⟩, (Rw Kf 77 (Vs (some wa0_0, 9, 9)) r9023.1), (Rw Kf 24 (Vs (some q3, 9, 9)) ((((((([0, 0, 0, 0, 0, 0, 0, 0, 0]).set (0 : Int).toNat r903.2).set (1 : Int).toNat r907.2).set (2 : Int).toNat r9011.2).set (3 : Int).toNat r9015.2).set (4 : Int).toNat r9019.2).set (5 : Int).toNat r9023.2)), ⟨.pointer (some q2), [(Vl (.float .f64 0)), (Vl (.float .f64 0)), (Vl (.float .f64 0)), (Vl (.float .f64 0)), (Vl (.float .f64 0)), (Vl (.float .f64 0)), (Vl (.float .f64 0)), (Vl (.float .f64 0)), (Vl (.float .f64 0))], 24, none⟩]) rfl) (wt_none' rfl) fun _ => ?_
  refine sx_nil' ?_
  show TX E K27 _
  refine tx_k' hK27 ?_
  refine cx_region' ?_
  refine sx_rd' (rd_bin' rfl rfl eg_int (ru_addc (c := 6) (by decide))) rfl rfl (wt_none' rfl) ?_
  refine sx_rd' (rd_move' rfl) rfl rfl (wt_none' rfl) ?_
  refine sx_nil' ?_
  show TX E (LoopIn _ _ _) _
  refine tx_round' ?_
  refine cx_seq' fun K29 hK29 => ?_
  refine cx_region' ?_
  refine sx_rd' (rd_bin' rfl rfl eg_int ru_lss) rfl rfl (wt_none' rfl) ?_
  refine sx_nil' ?_
  show TX E K29 _
  refine tx_k' hK29 ?_
  refine cx_seq' fun K30 hK30 => ?_
  refine cx_cond_t' rfl rfl ?_
  refine cx_skip' ?_
  show TX E K30 _
  refine tx_k' hK30 ?_
  refine cx_seq' fun K31 hK31 => ?_
  refine cx_block' ?_
  refine cx_seq' fun K32 hK32 => ?_
  refine cx_region' ?_
  refine sx_rd' (rd_move' rfl) rfl rfl (wt_none' rfl) ?_
  refine sx_rd' (rd_assign' rfl) rfl rfl (wt_none' rfl) ?_
  refine sx_nil' ?_
  show TX E K32 _
  refine tx_k' hK32 ?_
  refine cx_region' ?_
  refine sx_rd' (rd_move' rfl) rfl rfl (wt_none' rfl) ?_
  refine sx_rd' (rd_move' rfl) rfl rfl (wt_none' rfl) ?_
  refine sx_rd' (rd_move' rfl) rfl rfl (wt_none' rfl) ?_
  obtain ⟨r9025, hr9025, hp⟩ := bind_some hp
  refine sx_rd' (rd_bin' rfl rfl eg_int (ru_quo hr9025)) rfl rfl (wt_none' rfl) ?_
  refine sx_rd' (rd_move' rfl) rfl rfl (wt_none' rfl) ?_
  obtain ⟨r9026, hr9026, hp⟩ := bind_some hp
  refine sx_rd' (rd_bin' rfl rfl eg_int (ru_rem hr9026)) rfl rfl (wt_none' rfl) ?_
  obtain ⟨r9027, hr9027, hp⟩ := bind_some hp
  refine sx_ox' (ox_callg' (ent_fn' Tryd.func36 isn36 rfl rfl) (r3_Mat_At_v2_sim _ _ _ hr9027 : Go.Sx.Fn Tryd.prog 36 [(Vl (.pointer (some wa0))), (Vl (.int .i64 r9025)), (Vl (.int .i64 r9026))] [⟨.pointer (some wa0), [(Vl (.pointer ((some wa0_0, 9, 9)).1))], 48, none⟩, (Rw Kf 77 (Vs (some wa0_0, 9, 9)) r9023.1)] (fun x : Unit => (Vl (.float .f64 r9027.2))) (fun x => [⟨.pointer (some wa0), [(Vl (.pointer ((some wa0_0, 9, 9)).1))], 48, none⟩, (Rw Kf 77 (Vs (some wa0_0, 9, 9)) r9027.1)])) [0, 1] [2, 3] (by decide) (pick_cons rfl (pick_cons rfl pick_nil)) (pick_cons rfl (pick_cons rfl pick_nil)) (Hn := fun x : Unit => [⟨.pointer (some wa0), [(Vl (.pointer ((some wa0_0, 9, 9)).1))], 48, none⟩, (Rw Kf 77 (Vs (some wa0_0, 9, 9)) r9027.1), (Rw Kf 24 (Vs (some q3, 9, 9)) ((((((([0, 0, 0, 0, 0, 0, 0, 0, 0]).set (0 : Int).toNat r903.2).set (1 : Int).toNat r907.2).set (2 : Int).toNat r9011.2).set (3 : Int).toNat r9015.2).set (4 : Int).toNat r9019.2).set (5 : Int).toNat r9023.2)), ⟨.pointer (some q2), [(Vl (.float .f64 0)), (Vl (.float .f64 0)), (Vl (.float .f64 0)), (Vl (.float .f64 0)), (Vl (.float .f64 0)), (Vl (.float .f64 0)), (Vl (.float .f64 0)), (Vl (.float .f64 0)), (Vl (.float .f64 0))], 24, none⟩]) (fun _ => rfl) rfl rfl) (wt_none' rfl) fun ⟨⟩ => ?_
  obtain ⟨r9028, hr9028, hp⟩ := bind_some hp
  refine sx_rd' (rd_atarr' (m := 2) rfl rfl rfl rfl hr9028 Tryd.underlying24 info22) rfl rfl (wt_none' rfl) ?_
  refine sx_ox' (ox_storer' (m := 2) (i := 6) (j := 0) (x' := r9027.2) rfl rfl (lv_vl rfl rfl) rfl rfl (idxn_some hr9028).2 rfl rfl rfl info22 rfl (H' := [⟨.pointer (some wa0), [(Vl (.pointer ((some wa0_0, 9, 9)).1))], 48, none⟩, (Rw Kf 77 (Vs (some wa0_0, 9, 9)) r9027.1), (Rw Kf 24 (Vs (some q3, 9, 9)) (((((((([0, 0, 0, 0, 0, 0, 0, 0, 0]).set (0 : Int).toNat r903.2).set (1 : Int).toNat r907.2).set (2 : Int).toNat r9011.2).set (3 : Int).toNat r9015.2).set (4 : Int).toNat r9019.2).set (5 : Int).toNat r9023.2).set (6 : Int).toNat r9027.2)), ⟨.pointer (some q2), [(Vl (.float .f64 0)), (Vl (.float .f64 0)), (Vl (.float .f64 0)), (Vl (.float .f64 0)), (Vl (.float .f64 0)), (Vl (.float .f64 0)), (Vl (.float .f64 0)), (Vl (.float .f64 0)), (Vl (.float .f64 0))], 24, none⟩]) rfl) (wt_none' rfl) fun _ => ?_
  refine sx_nil' ?_
  show TX E K31 _
  refine tx_k' hK31 ?_
  refine cx_region' ?_
  refine sx_rd' (rd_bin' rfl rfl eg_int (ru_addc (c := 7) (by decide))) rfl rfl (wt_none' rfl) ?_
  refine sx_rd' (rd_move' rfl) rfl rfl (wt_none' rfl) ?_
  refine sx_nil' ?_
  show TX E (LoopIn _ _ _) _
  refine tx_round' ?_
  refine cx_seq' fun K33 hK33 => ?_
  refine cx_region' ?_
  refine sx_rd' (rd_bin' rfl rfl eg_int ru_lss) rfl rfl (wt_none' rfl) ?_
  refine sx_nil' ?_
  show TX E K33 _
  refine tx_k' hK33 ?_
  refine cx_seq' fun K34 hK34 => ?_
  refine cx_cond_t' rfl rfl ?_
  refine cx_skip' ?_
  show TX E K34 _
  refine tx_k' hK34 ?_
  refine cx_seq' fun K35 hK35 => ?_
  refine cx_block' ?_
  refine cx_seq' fun K36 hK36 => ?_
  refine cx_region' ?_
  refine sx_rd' (rd_move' rfl) rfl rfl (wt_none' rfl) ?_
  refine sx_rd' (rd_assign' rfl) rfl rfl (wt_none' rfl) ?_
  refine sx_nil' ?_
  show TX E K36 _
  refine tx_k' hK36 ?_
  refine cx_region' ?_
  refine sx_rd' (rd_move' rfl) rfl rfl (wt_none' rfl) ?_
  refine sx_rd' (rd_move' rfl) rfl rfl (wt_none' rfl) ?_
  refine sx_rd' (rd_move' rfl) rfl rfl (wt_none' rfl) ?_
  obtain ⟨r9029, hr9029, hp⟩ := bind_some hp
  refine sx_rd' (rd_bin' rfl rfl eg_int (ru_quo hr9029)) rfl rfl (wt_none' rfl) ?_
  refine sx_rd' (rd_move' rfl) rfl rfl (wt_none' rfl) ?_
  obtain ⟨r9030, hr9030, hp⟩ := bind_some hp
  refine sx_rd' (rd_bin' rfl rfl eg_int (ru_rem hr9030)) rfl rfl (wt_none' rfl) ?_
  obtain ⟨r9031, hr9031, hp⟩ := bind_some hp
  refine sx_ox' (ox_callg' (ent_fn' Tryd.func36 isn36 rfl rfl) (r3_Mat_At_v2_sim _ _ _ hr9031 : Go.Sx.Fn Tryd.prog 36 [(Vl (.pointer (some wa0))), (Vl (.int .i64 r9029)), (Vl (.int .i64 r9030))] [⟨.pointer (some wa0), [(Vl (.pointer ((some wa0_0, 9, 9)).1))], 48, none⟩, (Rw Kf 77 (Vs (some wa0_0, 9, 9)) r9027.1)] (fun x : Unit => (Vl (.float .f64 r9031.2))) (fun x => [⟨.pointer (some wa0), [(Vl (.pointer ((some wa0_0, 9, 9)).1))], 48, none⟩, (Rw Kf 77 (Vs (some wa0_0, 9, 9)) r9031.1)])) [0, 1] [2, 3] (by decide) (pick_cons rfl (pick_cons rfl pick_nil)) (pick_cons rfl (pick_cons rfl pick_nil)) (Hn := fun x : Unit => [⟨.pointer (some wa0), [(Vl (.pointer ((some wa0_0, 9, 9)).1))], 48, none⟩, (Rw Kf 77 (Vs (some wa0_0, 9, 9)) r9031.1), (Rw Kf 24 (Vs (some q3, 9, 9)) (((((((([0, 0, 0, 0, 0, 0, 0, 0, 0]).set (0 : Int).toNat r903.2).set (1 : Int).toNat r907.2).set (2 : Int).toNat r9011.2).set (3 : Int).toNat r9015.2).set (4 : Int).toNat r9019.2).set (5 : Int).toNat r9023.2).set (6 : Int).toNat r9027.2)), ⟨.pointer (some q2), [(Vl (.float .f64 0)), (Vl (.float .f64 0)), (Vl (.float .f64 0)), (Vl (.float .f64 0)), (Vl (.float .f64 0)), (Vl (.float .f64 0)), (Vl (.float .f64 0)), (Vl (.float .f64 0)), (Vl (.float .f64 0))], 24, none⟩]) (fun _ => rfl) rfl rfl) (wt_none' rfl) fun ⟨⟩ => ?_
  obtain ⟨r9032, hr9032, hp⟩ := bind_some hp
  refine sx_rd' (rd_atarr' (m := 2) rfl rfl rfl rfl hr9032 Tryd.underlying24 info22) rfl rfl (wt_none' rfl) ?_
  refine sx_ox' (ox_storer' (m := 2) (i := 7) (j := 0) (x' := r9031.2) rfl rfl (lv_vl rfl rfl) rfl rfl (idxn_some hr9032).2 rfl rfl rfl info22 rfl (H' := [⟨.pointer (some wa0), [(Vl (.pointer ((some wa0_0, 9, 9)).1))], 48, none⟩, (Rw Kf 77 (Vs (some wa0_0, 9, 9)) r9031.1), (Rw Kf 24 (Vs (some q3, 9, 9)) ((((((((([0, 0, 0, 0, 0, 0, 0, 0, 0]).set (0 : Int).toNat r903.2).set (1 : Int).toNat r907.2).set (2 : Int).toNat r9011.2).set (3 : Int).toNat r9015.2).set (4 : Int).toNat r9019.2).set (5 : Int).toNat r9023.2).set (6 : Int).toNat r9027.2).set (7 : Int).toNat r9031.2)), ⟨.pointer (some q2), [(Vl (.float .f64 0)), (Vl (.float .f64 0)), (Vl (.float .f64 0)), (Vl (.float .f64 0)), (Vl (.float .f64 0)), (Vl (.float .f64 0)), (Vl (.float .f64 0)), (Vl (.float .f64 0)), (Vl (.float .f64 0))], 24, none⟩]) rfl) (wt_none' rfl) fun _ => ?_
  refine sx_nil' ?_
  show TX E K35 _
  refine tx_k' hK35 ?_
  refine cx_region' ?_
  refine sx_rd' (rd_bin' rfl rfl eg_int (ru_addc (c := 8) (by decide))) rfl rfl (wt_none' rfl) ?_
  refine sx_rd' (rd_move' rfl) rfl rfl (wt_none' rfl) ?_
  refine sx_nil' ?_
  show TX E (LoopIn _ _ _) _
  refine tx_round' ?_
  refine cx_seq' fun K37 hK37 => ?_
  refine cx_region' ?_
  refine sx_rd' (rd_bin' rfl rfl eg_int ru_lss) rfl rfl (wt_none' rfl) ?_
  refine sx_nil' ?_
  show TX E K37 _
  refine tx_k' hK37 ?_
  refine cx_seq' fun K38 hK38 => ?_
  refine cx_cond_t' rfl rfl ?_
  refine cx_skip' ?_
  show TX E K38 _
  refine tx_k' hK38 ?_
  refine cx_seq' fun K39 hK39 => ?_
  refine cx_block' ?_
  refine cx_seq' fun K40 hK40 => ?_
  refine cx_region' ?_
  refine sx_rd' (rd_move' rfl) rfl rfl (wt_none' rfl) ?_
  refine sx_rd' (rd_assign' rfl) rfl rfl (wt_none' rfl) ?_
  refine sx_nil' ?_
  show TX E K40 _
  refine tx_k' hK40 ?_
  refine cx_region' ?_
  refine sx_rd' (rd_move' rfl) rfl rfl (wt_none' rfl) ?_
  refine sx_rd' (rd_move' rfl) rfl rfl (wt_none' rfl) ?_
  refine sx_rd' (rd_move' rfl) rfl rfl (wt_none' rfl) ?_
  obtain ⟨r9033, hr9033, hp⟩ := bind_some hp
  refine sx_rd' (rd_bin' rfl rfl eg_int (ru_quo hr9033)) rfl rfl (wt_none' rfl) ?_
  refine sx_rd' (rd_move' rfl) rfl rfl (wt_none' rfl) ?_
  obtain ⟨r9034, hr9034, hp⟩ := bind_some hp
  refine sx_rd' (rd_bin' rfl rfl eg_int (ru_rem hr9034)) rfl rfl (wt_none' rfl) ?_
  obtain ⟨r9035, hr9035, hp⟩ := bind_some hp
  refine sx_ox' (ox_callg' (ent_fn' Tryd.func36 isn36 rfl rfl) (r3_Mat_At_v2_sim _ _ _ hr9035 : Go.Sx.Fn Tryd.prog 36 [(Vl (.pointer (some wa0))), (Vl (.int .i64 r9033)), (Vl (.int .i64 r9034))] [⟨.pointer (some wa0), [(Vl (.pointer ((some wa0_0, 9, 9)).1))], 48, none⟩, (Rw Kf 77 (Vs (some wa0_0, 9, 9)) r9031.1)] (fun x : Unit => (Vl (.float .f64 r9035.2))) (fun x => [⟨.pointer (some wa0), [(Vl (.pointer ((some wa0_0, 9, 9)).1))], 48, none⟩, (Rw Kf 77 (Vs (some wa0_0, 9, 9)) r9035.1)])) [0, 1] [2, 3] (by decide) (pick_cons rfl (pick_cons rfl pick_nil)) (pick_cons rfl (pick_cons rfl pick_nil)) (Hn := fun x : Unit => [⟨.pointer (some wa0), [(Vl (.pointer ((some wa0_0, 9, 9)).1))], 48, none⟩, (Rw Kf 77 (Vs (some wa0_0, 9, 9)) r9035.1), (Rw Kf 24 (Vs (some q3, 9, 9)) ((((((((([0, 0, 0, 0, 0, 0, 0, 0, 0]).set (0 : Int).toNat r903.2).set (1 : Int).toNat r907.2).set (2 : Int).toNat r9011.2).set (3 : Int).toNat r9015.2).set (4 : Int).toNat r9019.2).set (5 : Int).toNat r9023.2).set (6 : Int).toNat r9027.2).set (7 : Int).toNat r9031.2)), ⟨.pointer (some q2), [(Vl (.float .f64 0)), (Vl (.float .f64 0)), (Vl (.float .f64 0)), (Vl (.float .f64 0)), (Vl (.float .f64 0)), (Vl (.float .f64 0)), (Vl (.float .f64 0)), (Vl (.float .f64 0)), (Vl (.float .f64 0))], 24, none⟩]) (fun _ => rfl) rfl rfl) (wt_none' rfl) fun ⟨⟩ => ?_
  obtain ⟨r9036, hr9036, hp⟩ := bind_some hp
  refine sx_rd' (rd_atarr' (m := 2) rfl rfl rfl rfl hr9036 Tryd.underlying24 info22) rfl rfl (wt_none' rfl) ?_
  refine sx_ox' (ox_storer' (m := 2) (i := 8) (j := 0) (x' := r9035.2) rfl rfl (lv_vl rfl rfl) rfl rfl (idxn_some hr9036).2 rfl rfl rfl info22 rfl (H' := [⟨.pointer (some wa0), [(Vl (.pointer ((some wa0_0, 9, 9)).1))], 48, none⟩, (Rw Kf 77 (Vs (some wa0_0, 9, 9)) r9035.1), (Rw Kf 24 (Vs (some q3, 9, 9)) (((((((((([0, 0, 0, 0, 0, 0, 0, 0, 0]).set (0 : Int).toNat r903.2).set (1 : Int).toNat r907.2).set (2 : Int).toNat r9011.2).set (3 : Int).toNat r9015.2).set (4 : Int).toNat r9019.2).set (5 : Int).toNat r9023.2).set (6 : Int).toNat r9027.2).set (7 : Int).toNat r9031.2).set (8 : Int).toNat r9035.2)), ⟨.pointer (some q2), [(Vl (.float .f64 0)), (Vl (.float .f64 0)), (Vl (.float .f64 0)), (Vl (.float .f64 0)), (Vl (.float .f64 0)), (Vl (.float .f64 0)), (Vl (.float .f64 0)), (Vl (.float .f64 0)), (Vl (.float .f64 0))], 24, none⟩]) rfl) (wt_none' rfl) fun _ => ?_
  refine sx_nil' ?_
  show TX E K39 _
  refine tx_k' hK39 ?_
  refine cx_region' ?_
  refine sx_rd' (rd_bin' rfl rfl eg_int (ru_addc (c := 9) (by decide))) rfl rfl (wt_none' rfl) ?_
  refine sx_rd' (rd_move' rfl) rfl rfl (wt_none' rfl) ?_
  refine sx_nil' ?_
  show TX E (LoopIn _ _ _) _
  refine tx_round' ?_
  refine cx_seq' fun K41 hK41 => ?_
  refine cx_region' ?_
  refine sx_rd' (rd_bin' rfl rfl eg_int ru_lss) rfl rfl (wt_none' rfl) ?_
  refine sx_nil' ?_
  show TX E K41 _
  refine tx_k' hK41 ?_
  refine cx_seq' fun K42 hK42 => ?_
  refine cx_cond_f' rfl rfl ?_
  refine cx_exit' ?_
  show TX E K3 _
  refine tx_k' hK3 ?_
  refine cx_seq' fun K43 hK43 => ?_
  refine cx_region' ?_
  obtain ⟨r17, hr17, hp⟩ := bind_some hp
  refine sx_rd' (rd_loadarr' (m := 2) rfl rfl rfl agg24 (l' := [(Vl (.float .f64 r17.1)), (Vl (.float .f64 r17.2.1)), (Vl (.float .f64 r17.2.2.1)), (Vl (.float .f64 r17.2.2.2.1)), (Vl (.float .f64 r17.2.2.2.2.1)), (Vl (.float .f64 r17.2.2.2.2.2.1)), (Vl (.float .f64 r17.2.2.2.2.2.2.1)), (Vl (.float .f64 r17.2.2.2.2.2.2.2.1)), (Vl (.float .f64 r17.2.2.2.2.2.2.2.2))]) (by rw [vec9_some hr17]; rfl) rfl rfl) rfl rfl (wt_none' rfl) ?_
  refine sx_ox' (ox_store' (i := 3) (o := 0) rfl rfl (lv_ag _) ⟨rfl, rfl, rfl, rfl⟩ rfl info24 rfl (H' := [⟨.pointer (some wa0), [(Vl (.pointer ((some wa0_0, 9, 9)).1))], 48, none⟩, (Rw Kf 77 (Vs (some wa0_0, 9, 9)) r9035.1), (Rw Kf 24 (Vs (some q3, 9, 9)) (((((((((([0, 0, 0, 0, 0, 0, 0, 0, 0]).set (0 : Int).toNat r903.2).set (1 : Int).toNat r907.2).set (2 : Int).toNat r9011.2).set (3 : Int).toNat r9015.2).set (4 : Int).toNat r9019.2).set (5 : Int).toNat r9023.2).set (6 : Int).toNat r9027.2).set (7 : Int).toNat r9031.2).set (8 : Int).toNat r9035.2)), ⟨.pointer (some q2), [(Vl (.float .f64 r17.1)), (Vl (.float .f64 r17.2.1)), (Vl (.float .f64 r17.2.2.1)), (Vl (.float .f64 r17.2.2.2.1)), (Vl (.float .f64 r17.2.2.2.2.1)), (Vl (.float .f64 r17.2.2.2.2.2.1)), (Vl (.float .f64 r17.2.2.2.2.2.2.1)), (Vl (.float .f64 r17.2.2.2.2.2.2.2.1)), (Vl (.float .f64 r17.2.2.2.2.2.2.2.2))], 24, none⟩]) rfl) (wt_none' rfl) fun _ => ?_
  refine sx_nil' ?_
  show TX E K43 _
  refine tx_k' hK43 ?_
  refine cx_retc' ?_
  replace hp := Option.some.inj hp
  subst hp
  refine tx_pick' (L' := [(2, (Vl (.pointer (some q2))))]) (H' := [⟨.pointer (some wa0), [(Vl (.pointer ((some wa0_0, 9, 9)).1))], 48, none⟩, (Rw Kf 77 (Vs (some wa0_0, 9, 9)) r9035.1), ⟨.pointer (some q2), [(Vl (.float .f64 r17.1)), (Vl (.float .f64 r17.2.1)), (Vl (.float .f64 r17.2.2.1)), (Vl (.float .f64 r17.2.2.2.1)), (Vl (.float .f64 r17.2.2.2.2.1)), (Vl (.float .f64 r17.2.2.2.2.2.1)), (Vl (.float .f64 r17.2.2.2.2.2.2.1)), (Vl (.float .f64 r17.2.2.2.2.2.2.2.1)), (Vl (.float .f64 r17.2.2.2.2.2.2.2.2))], 24, none⟩]) [0, 1, 3] (sub_cons rfl sub_nil) (by decide) (pick_cons rfl (pick_cons rfl (pick_cons rfl pick_nil))) ?_
  exact tx_ret1' Tryd.results21 rfl () (rv_cell_agg' (i := 2) (o := 0) (nn := 9) rfl ⟨rfl, rfl, rfl, rfl⟩ rfl agg24 rfl) (List.Sublist.cons_cons _ (List.Sublist.cons_cons _ (List.nil_sublist _)))

def impl_MatTranspose (k : Nat) (a0_0 : Nat) (a0_1 : Nat) (a0_2 : Nat) (a0_3 : Nat) (a0_4 : Nat) (a0_5 : Nat) (a0_6 : Nat) (a0_7 : Nat) (a0_8 : Nat) : Option (Nat × Nat × Nat × Nat × Nat × Nat × Nat × Nat × Nat) :=
  (impl_mat k a0_0 a0_1 a0_2 a0_3 a0_4 a0_5 a0_6 a0_7 a0_8) >>= fun r5 =>
  (r3_Mat_T k r5) >>= fun r6 =>
  (r3_Mat_CloneFrom k r6) >>= fun r7 =>
  (impl_plainMat k r7.1) >>= fun r8 =>
  some (r8.2.1, r8.2.2.1, r8.2.2.2.1, r8.2.2.2.2.1, r8.2.2.2.2.2.1, r8.2.2.2.2.2.2.1, r8.2.2.2.2.2.2.2.1, r8.2.2.2.2.2.2.2.2.1, r8.2.2.2.2.2.2.2.2.2)

theorem impl_MatTranspose_sim {k : Nat}  (a0_0 : Nat) (a0_1 : Nat) (a0_2 : Nat) (a0_3 : Nat) (a0_4 : Nat) (a0_5 : Nat) (a0_6 : Nat) (a0_7 : Nat) (a0_8 : Nat) {out : Nat × Nat × Nat × Nat × Nat × Nat × Nat × Nat × Nat} (hp : impl_MatTranspose k a0_0 a0_1 a0_2 a0_3 a0_4 a0_5 a0_6 a0_7 a0_8 = some out) : Go.Sx.Fn Tryd.prog 9 [(Ag [(Vl (.float .f64 a0_0)), (Vl (.float .f64 a0_1)), (Vl (.float .f64 a0_2)), (Vl (.float .f64 a0_3)), (Vl (.float .f64 a0_4)), (Vl (.float .f64 a0_5)), (Vl (.float .f64 a0_6)), (Vl (.float .f64 a0_7)), (Vl (.float .f64 a0_8))])] [] (fun w : Unit => (Ag [(Vl (.float .f64 out.1)), (Vl (.float .f64 out.2.1)), (Vl (.float .f64 out.2.2.1)), (Vl (.float .f64 out.2.2.2.1)), (Vl (.float .f64 out.2.2.2.2.1)), (Vl (.float .f64 out.2.2.2.2.2.1)), (Vl (.float .f64 out.2.2.2.2.2.2.1)), (Vl (.float .f64 out.2.2.2.2.2.2.2.1)), (Vl (.float .f64 out.2.2.2.2.2.2.2.2))])) (fun w => []) := by
  unfold impl_MatTranspose at hp
  refine fn_of Tryd.func9 rfl Tryd.ntmps9 rfl fun E hM => ?_
  refine cx_seq' fun K1 hK1 => ?_
  refine cx_region' ?_
  refine sx_ox' (ox_box' rfl (lv_ag _) rfl rfl) (wt_none' rfl) fun q1 => ?_
  refine sx_ox' (ox_alloc' info24 rfl rfl rfl rfl (l := [(Vl (.float .f64 0)), (Vl (.float .f64 0)), (Vl (.float .f64 0)), (Vl (.float .f64 0)), (Vl (.float .f64 0)), (Vl (.float .f64 0)), (Vl (.float .f64 0)), (Vl (.float .f64 0)), (Vl (.float .f64 0))]) rfl) (wt_none' rfl) fun q2 => ?_
  refine sx_nil' ?_
  show TX E K1 _
  refine tx_k' hK1 ?_
  refine cx_seq' fun K2 hK2 => ?_
  refine cx_region' ?_
  refine sx_ox' (ox_alloc' info48 rfl rfl rfl rfl (l := [(Vl (.pointer none))]) rfl) (wt_none' rfl) fun q3 => ?_
  refine sx_nil' ?_
  show TX E K2 _
  refine tx_k' hK2 ?_
  refine cx_seq' fun K3 hK3 => ?_
  refine cx_region' ?_
  refine sx_rd' (rd_load_agg' (i := 2) (o := 0) (nn := 9) rfl ⟨rfl, rfl, rfl, rfl⟩ rfl agg24 (l' := [(Vl (.float .f64 a0_0)), (Vl (.float .f64 a0_1)), (Vl (.float .f64 a0_2)), (Vl (.float .f64 a0_3)), (Vl (.float .f64 a0_4)), (Vl (.float .f64 a0_5)), (Vl (.float .f64 a0_6)), (Vl (.float .f64 a0_7)), (Vl (.float .f64 a0_8))]) rfl) rfl rfl (wt_none' rfl) ?_
  obtain ⟨r5, hr5, hp⟩ := bind_some hp
  refine sx_ox' (ox_calln' (ent_fn' Tryd.func17 isn17 rfl rfl) (impl_mat_sim _ _ _ _ _ _ _ _ _ hr5 : Go.Sx.Fn Tryd.prog 17 [(Ag [(Vl (.float .f64 a0_0)), (Vl (.float .f64 a0_1)), (Vl (.float .f64 a0_2)), (Vl (.float .f64 a0_3)), (Vl (.float .f64 a0_4)), (Vl (.float .f64 a0_5)), (Vl (.float .f64 a0_6)), (Vl (.float .f64 a0_7)), (Vl (.float .f64 a0_8))])] [] (fun x : Addr × Gs => (Vl (.pointer (some x.1)))) (fun x => [⟨.pointer (some x.1), [(Vl (.pointer (x.2).1))], 48, none⟩, (Rw Kf 22 (Vs x.2) r5)])) (Hn := fun x : Addr × Gs => [⟨.pointer (some x.1), [(Vl (.pointer (x.2).1))], 48, none⟩, (Rw Kf 22 (Vs x.2) r5), ⟨.pointer (some q3), [(Vl (.pointer none))], 48, none⟩, ⟨.pointer (some q2), [(Vl (.float .f64 0)), (Vl (.float .f64 0)), (Vl (.float .f64 0)), (Vl (.float .f64 0)), (Vl (.float .f64 0)), (Vl (.float .f64 0)), (Vl (.float .f64 0)), (Vl (.float .f64 0)), (Vl (.float .f64 0))], 24, none⟩, ⟨.pointer (some q1), [(Vl (.float .f64 a0_0)), (Vl (.float .f64 a0_1)), (Vl (.float .f64 a0_2)), (Vl (.float .f64 a0_3)), (Vl (.float .f64 a0_4)), (Vl (.float .f64 a0_5)), (Vl (.float .f64 a0_6)), (Vl (.float .f64 a0_7)), (Vl (.float .f64 a0_8))], 24, none⟩]) (fun _ => rfl) rfl rfl) (wt_none' rfl) fun ⟨q5, g5⟩ => ?_
  obtain ⟨r6, hr6, hp⟩ := bind_some hp
  refine sx_ox' (ox_callg' (ent_fn' Tryd.func20 isn20 rfl rfl) (r3_Mat_T_sim _ hr6 : Go.Sx.Fn Tryd.prog 20 [(Vl (.pointer (some q5)))] [⟨.pointer (some q5), [(Vl (.pointer (g5).1))], 48, none⟩, (Rw Kf 22 (Vs g5) r5)] (fun x : Unit => (If 80 (Ag [(If 43 (Vl (.pointer (some q5))))]))) (fun x => [⟨.pointer (some q5), [(Vl (.pointer (g5).1))], 48, none⟩, (Rw Kf 22 (Vs g5) r6)])) [0, 1] [2, 3, 4] (by decide) (pick_cons rfl (pick_cons rfl pick_nil)) (pick_cons rfl (pick_cons rfl (pick_cons rfl pick_nil))) (Hn := fun x : Unit => [⟨.pointer (some q5), [(Vl (.pointer (g5).1))], 48, none⟩, (Rw Kf 22 (Vs g5) r6), ⟨.pointer (some q3), [(Vl (.pointer none))], 48, none⟩, ⟨.pointer (some q2), [(Vl (.float .f64 0)), (Vl (.float .f64 0)), (Vl (.float .f64 0)), (Vl (.float .f64 0)), (Vl (.float .f64 0)), (Vl (.float .f64 0)), (Vl (.float .f64 0)), (Vl (.float .f64 0)), (Vl (.float .f64 0))], 24, none⟩, ⟨.pointer (some q1), [(Vl (.float .f64 a0_0)), (Vl (.float .f64 a0_1)), (Vl (.float .f64 a0_2)), (Vl (.float .f64 a0_3)), (Vl (.float .f64 a0_4)), (Vl (.float .f64 a0_5)), (Vl (.float .f64 a0_6)), (Vl (.float .f64 a0_7)), (Vl (.float .f64 a0_8))], 24, none⟩]) (fun _ => rfl) rfl rfl) (wt_none' rfl) fun ⟨⟩ => ?_
  obtain ⟨r7, hr7, hp⟩ := bind_some hp
  refine sx_ox' (ox_callg' (ent_fn' Tryd.func19 isn19 rfl rfl) (r3_Mat_CloneFrom_sim _ hr7 : Go.Sx.Fn Tryd.prog 19 [(Vl (.pointer (some q3))), (If 80 (Ag [(If 43 (Vl (.pointer (some q5))))]))] [⟨.pointer (some q3), [(Vl (.pointer none))], 48, none⟩, ⟨.pointer (some q5), [(Vl (.pointer (g5).1))], 48, none⟩, (Rw Kf 22 (Vs g5) r6)] (fun x : Addr => (Vl (.tuple #[]))) (fun x => [⟨.pointer (some q3), [(Vl (.pointer ((some x, 9, 9)).1))], 48, none⟩, (Rw Kf 77 (Vs (some x, 9, 9)) r7.1), ⟨.pointer (some q5), [(Vl (.pointer (g5).1))], 48, none⟩, (Rw Kf 22 (Vs g5) r7.2)])) [2, 0, 1] [3, 4] (by decide) (pick_cons rfl (pick_cons rfl (pick_cons rfl pick_nil))) (pick_cons rfl (pick_cons rfl pick_nil)) (Hn := fun x : Addr => [⟨.pointer (some q3), [(Vl (.pointer ((some x, 9, 9)).1))], 48, none⟩, (Rw Kf 77 (Vs (some x, 9, 9)) r7.1), ⟨.pointer (some q5), [(Vl (.pointer (g5).1))], 48, none⟩, (Rw Kf 22 (Vs g5) r7.2), ⟨.pointer (some q2), [(Vl (.float .f64 0)), (Vl (.float .f64 0)), (Vl (.float .f64 0)), (Vl (.float .f64 0)), (Vl (.float .f64 0)), (Vl (.float .f64 0)), (Vl (.float .f64 0)), (Vl (.float .f64 0)), (Vl (.float .f64 0))], 24, none⟩, ⟨.pointer (some q1), [(Vl (.float .f64 a0_0)), (Vl (.float .f64 a0_1)), (Vl (.float .f64 a0_2)), (Vl (.float .f64 a0_3)), (Vl (.float .f64 a0_4)), (Vl (.float .f64 a0_5)), (Vl (.float .f64 a0_6)), (Vl (.float .f64 a0_7)), (Vl (.float .f64 a0_8))], 24, none⟩]) (fun _ => rfl) rfl rfl) (wt_none' rfl) fun q7 => ?_
  refine sx_nil' ?_
  show TX E K3 _
  refine tx_k' hK3 ?_
  refine cx_seq' fun K4 hK4 => ?_
  refine cx_region' ?_
  obtain ⟨r8, hr8, hp⟩ := bind_some hp
  refine sx_ox' (ox_callg' (ent_fn' Tryd.func21 isn21 rfl rfl) (impl_plainMat_sim _ hr8 : Go.Sx.Fn Tryd.prog 21 [(Vl (.pointer (some q3)))] [⟨.pointer (some q3), [(Vl (.pointer ((some q7, 9, 9)).1))], 48, none⟩, (Rw Kf 77 (Vs (some q7, 9, 9)) r7.1)] (fun x : Unit => (Ag [(Vl (.float .f64 r8.2.1)), (Vl (.float .f64 r8.2.2.1)), (Vl (.float .f64 r8.2.2.2.1)), (Vl (.float .f64 r8.2.2.2.2.1)), (Vl (.float .f64 r8.2.2.2.2.2.1)), (Vl (.float .f64 r8.2.2.2.2.2.2.1)), (Vl (.float .f64 r8.2.2.2.2.2.2.2.1)), (Vl (.float .f64 r8.2.2.2.2.2.2.2.2.1)), (Vl (.float .f64 r8.2.2.2.2.2.2.2.2.2))])) (fun x => [⟨.pointer (some q3), [(Vl (.pointer ((some q7, 9, 9)).1))], 48, none⟩, (Rw Kf 77 (Vs (some q7, 9, 9)) r8.1)])) [0, 1] [2, 3, 4, 5] (by decide) (pick_cons rfl (pick_cons rfl pick_nil)) (pick_cons rfl (pick_cons rfl (pick_cons rfl (pick_cons rfl pick_nil)))) (Hn := fun x : Unit => [⟨.pointer (some q3), [(Vl (.pointer ((some q7, 9, 9)).1))], 48, none⟩, (Rw Kf 77 (Vs (some q7, 9, 9)) r8.1), ⟨.pointer (some q5), [(Vl (.pointer (g5).1))], 48, none⟩, (Rw Kf 22 (Vs g5) r7.2), ⟨.pointer (some q2), [(Vl (.float .f64 0)), (Vl (.float .f64 0)), (Vl (.float .f64 0)), (Vl (.float .f64 0)), (Vl (.float .f64 0)), (Vl (.float .f64 0)), (Vl (.float .f64 0)), (Vl (.float .f64 0)), (Vl (.float .f64 0))], 24, none⟩, ⟨.pointer (some q1), [(Vl (.float .f64 a0_0)), (Vl (.float .f64 a0_1)), (Vl (.float .f64 a0_2)), (Vl (.float .f64 a0_3)), (Vl (.float .f64 a0_4)), (Vl (.float .f64 a0_5)), (Vl (.float .f64 a0_6)), (Vl (.float .f64 a0_7)), (Vl (.float .f64 a0_8))], 24, none⟩]) (fun _ => rfl) rfl rfl) (wt_none' rfl) fun ⟨⟩ => ?_
  refine sx_ox' (ox_store' (i := 4) (o := 0) rfl rfl (lv_ag _) ⟨rfl, rfl, rfl, rfl⟩ rfl info24 rfl (H' := [⟨.pointer (some q3), [(Vl (.pointer ((some q7, 9, 9)).1))], 48, none⟩, (Rw Kf 77 (Vs (some q7, 9, 9)) r8.1), ⟨.pointer (some q5), [(Vl (.pointer (g5).1))], 48, none⟩, (Rw Kf 22 (Vs g5) r7.2), ⟨.pointer (some q2), [(Vl (.float .f64 r8.2.1)), (Vl (.float .f64 r8.2.2.1)), (Vl (.float .f64 r8.2.2.2.1)), (Vl (.float .f64 r8.2.2.2.2.1)), (Vl (.float .f64 r8.2.2.2.2.2.1)), (Vl (.float .f64 r8.2.2.2.2.2.2.1)), (Vl (.float .f64 r8.2.2.2.2.2.2.2.1)), (Vl (.float .f64 r8.2.2.2.2.2.2.2.2.1)), (Vl (.float .f64 r8.2.2.2.2.2.2.2.2.2))], 24, none⟩, ⟨.pointer (some q1), [(Vl (.float .f64 a0_0)), (Vl (.float .f64 a0_1)), (Vl (.float .f64 a0_2)), (Vl (.float .f64 a0_3)), (Vl (.float .f64 a0_4)), (Vl (.float .f64 a0_5)), (Vl (.float .f64 a0_6)), (Vl (.float .f64 a0_7)), (Vl (.float .f64 a0_8))], 24, none⟩]) rfl) (wt_none' rfl) fun _ => ?_
  refine sx_nil' ?_
  show TX E K4 _
  refine tx_k' hK4 ?_
  refine cx_retc' ?_
  replace hp := Option.some.inj hp
  subst hp
  refine tx_pick' (L' := [(2, (Vl (.pointer (some q2))))]) (H' := [⟨.pointer (some q2), [(Vl (.float .f64 r8.2.1)), (Vl (.float .f64 r8.2.2.1)), (Vl (.float .f64 r8.2.2.2.1)), (Vl (.float .f64 r8.2.2.2.2.1)), (Vl (.float .f64 r8.2.2.2.2.2.1)), (Vl (.float .f64 r8.2.2.2.2.2.2.1)), (Vl (.float .f64 r8.2.2.2.2.2.2.2.1)), (Vl (.float .f64 r8.2.2.2.2.2.2.2.2.1)), (Vl (.float .f64 r8.2.2.2.2.2.2.2.2.2))], 24, none⟩]) [4] (sub_cons rfl sub_nil) (by decide) (pick_cons rfl pick_nil) ?_
  exact tx_ret1' Tryd.results9 rfl () (rv_cell_agg' (i := 0) (o := 0) (nn := 9) rfl ⟨rfl, rfl, rfl, rfl⟩ rfl agg24 rfl) (List.nil_sublist _)

def laws_FnMatDet_j1 (k : Nat) (x1 : Bool) : Option (Bool) :=
  some x1
def laws_FnMatDet (k : Nat) (a0_0 : Nat) (a0_1 : Nat) (a0_2 : Nat) (a0_3 : Nat) (a0_4 : Nat) (a0_5 : Nat) (a0_6 : Nat) (a0_7 : Nat) (a0_8 : Nat) : Option (Bool) :=
  (laws_entries k ([(a0_0, a0_1, a0_2, a0_3, a0_4, a0_5, a0_6, a0_7, a0_8)])) >>= fun r6 =>
  br (!r6)
    (some true)
    ((laws_detOf k a0_0 a0_1 a0_2 a0_3 a0_4 a0_5 a0_6 a0_7 a0_8) >>= fun r9 =>
    (impl_MatDet k a0_0 a0_1 a0_2 a0_3 a0_4 a0_5 a0_6 a0_7 a0_8) >>= fun r12 =>
    br (feq r12 (i2f r9))
      ((impl_MatTranspose k a0_0 a0_1 a0_2 a0_3 a0_4 a0_5 a0_6 a0_7 a0_8) >>= fun r17 =>
      (impl_MatDet k r17.1 r17.2.1 r17.2.2.1 r17.2.2.2.1 r17.2.2.2.2.1 r17.2.2.2.2.2.1 r17.2.2.2.2.2.2.1 r17.2.2.2.2.2.2.2.1 r17.2.2.2.2.2.2.2.2) >>= fun r18 =>
      laws_FnMatDet_j1 k (feq r18 (i2f r9)))
      (laws_FnMatDet_j1 k false))

theorem laws_FnMatDet_sim {k : Nat}  (a0_0 : Nat) (a0_1 : Nat) (a0_2 : Nat) (a0_3 : Nat) (a0_4 : Nat) (a0_5 : Nat) (a0_6 : Nat) (a0_7 : Nat) (a0_8 : Nat) {out : Bool} (hp : laws_FnMatDet k a0_0 a0_1 a0_2 a0_3 a0_4 a0_5 a0_6 a0_7 a0_8 = some out) : Go.Sx.Fn Tryd.prog 3 [(Ag [(Vl (.float .f64 a0_0)), (Vl (.float .f64 a0_1)), (Vl (.float .f64 a0_2)), (Vl (.float .f64 a0_3)), (Vl (.float .f64 a0_4)), (Vl (.float .f64 a0_5)), (Vl (.float .f64 a0_6)), (Vl (.float .f64 a0_7)), (Vl (.float .f64 a0_8))])] [] (fun w : Unit => (Vl (.bool out))) (fun w => []) := by
  unfold laws_FnMatDet at hp
  refine fn_of Tryd.func3 rfl Tryd.ntmps3 rfl fun E hM => ?_
  refine cx_seq' fun K1 hK1 => ?_
  refine cx_region' ?_
  refine sx_ox' (ox_box' rfl (lv_ag _) rfl rfl) (wt_none' rfl) fun q1 => ?_
  refine sx_rd' (rd_assign' rfl) rfl rfl (wt_none' rfl) ?_
  refine sx_nil' ?_
  show TX E K1 _
  refine tx_k' hK1 ?_
  refine cx_seq' fun K2 hK2 => ?_
  refine cx_seq' fun K3 hK3 => ?_
  refine cx_region' ?_
  refine sx_rd' (rd_load_agg' (i := 0) (o := 0) (nn := 9) rfl ⟨rfl, rfl, rfl, rfl⟩ rfl agg24 (l' := [(Vl (.float .f64 a0_0)), (Vl (.float .f64 a0_1)), (Vl (.float .f64 a0_2)), (Vl (.float .f64 a0_3)), (Vl (.float .f64 a0_4)), (Vl (.float .f64 a0_5)), (Vl (.float .f64 a0_6)), (Vl (.float .f64 a0_7)), (Vl (.float .f64 a0_8))]) rfl) rfl rfl (wt_none' rfl) ?_
  refine sx_ox' (ox_rowlit' (K := KT24) (xs := [(a0_0, a0_1, a0_2, a0_3, a0_4, a0_5, a0_6, a0_7, a0_8)]) (qs := [(0, [(Vl (.float .f64 a0_0)), (Vl (.float .f64 a0_1)), (Vl (.float .f64 a0_2)), (Vl (.float .f64 a0_3)), (Vl (.float .f64 a0_4)), (Vl (.float .f64 a0_5)), (Vl (.float .f64 a0_6)), (Vl (.float .f64 a0_7)), (Vl (.float .f64 a0_8))])]) ⟨rfl, ⟨_, rfl, (lv_ag _)⟩, trivial⟩ Tryd.underlying38 info24 rfl rfl rfl rfl rfl (by kernel_rfl) rfl rfl rfl) (wt_none' rfl) fun g5 => ?_
  obtain ⟨r6, hr6, hp⟩ := bind_some hp
  refine sx_ox' (ox_brw' (frz_row 0 [(5, (Vl (Vs g5)), (Sl KT24 ([(a0_0, a0_1, a0_2, a0_3, a0_4, a0_5, a0_6, a0_7, a0_8)])))] (K := KT24) (xs := [(a0_0, a0_1, a0_2, a0_3, a0_4, a0_5, a0_6, a0_7, a0_8)]) (by decide) rfl ⟨⟨rfl, frz_it⟩, trivial⟩ (H' := [⟨.pointer (some q1), [(Vl (.float .f64 a0_0)), (Vl (.float .f64 a0_1)), (Vl (.float .f64 a0_2)), (Vl (.float .f64 a0_3)), (Vl (.float .f64 a0_4)), (Vl (.float .f64 a0_5)), (Vl (.float .f64 a0_6)), (Vl (.float .f64 a0_7)), (Vl (.float .f64 a0_8))], 24, none⟩]) frzH_refl) (ent_fn' Tryd.func6 isn6 rfl rfl) (laws_entries_sim _ hr6 : Go.Sx.Fn Tryd.prog 6 [(Sl KT24 ([(a0_0, a0_1, a0_2, a0_3, a0_4, a0_5, a0_6, a0_7, a0_8)]))] [] (fun x : Unit => (Vl (.bool r6))) (fun x => [])) pu_vl rfl rfl) (wt_none' rfl) fun ⟨⟩ => ?_
  refine sx_rd' (rd_un' rfl ru_not) rfl rfl (wt_none' rfl) ?_
  refine sx_nil' ?_
  show TX E K3 _
  refine tx_k' hK3 ?_
  refine cx_cond' rfl (fun h1 => ?_) (fun h1 => ?_)
  · replace hp := (br_t h1).symm.trans hp
    refine cx_seq' fun K4 hK4 => ?_
    refine cx_region' ?_
    refine sx_rd' (rd_assign' rfl) rfl rfl (wt_none' rfl) ?_
    refine sx_nil' ?_
    show TX E K4 _
    refine tx_k' hK4 ?_
    refine cx_retc' ?_
    replace hp := Option.some.inj hp
    subst hp
    refine tx_pick' (L' := [(2, (Vl (.bool true)))]) (H' := []) [] (sub_cons rfl sub_nil) (by decide) pick_nil ?_
    exact tx_ret1' Tryd.results3 rfl () (rv_tmp' rfl) (List.Sublist.refl _)
  · replace hp := (br_f h1).symm.trans hp
    refine cx_skip' ?_
    show TX E K2 _
    refine tx_k' hK2 ?_
    refine cx_seq' fun K5 hK5 => ?_
    refine cx_region' ?_
    refine sx_rd' (rd_load_agg' (i := 1) (o := 0) (nn := 9) rfl ⟨rfl, rfl, rfl, rfl⟩ rfl agg24 (l' := [(Vl (.float .f64 a0_0)), (Vl (.float .f64 a0_1)), (Vl (.float .f64 a0_2)), (Vl (.float .f64 a0_3)), (Vl (.float .f64 a0_4)), (Vl (.float .f64 a0_5)), (Vl (.float .f64 a0_6)), (Vl (.float .f64 a0_7)), (Vl (.float .f64 a0_8))]) rfl) rfl rfl (wt_none' rfl) ?_
    obtain ⟨r9, hr9, hp⟩ := bind_some hp
    refine sx_ox' (ox_calln' (ent_fn' Tryd.func7 isn7 rfl rfl) (laws_detOf_sim _ _ _ _ _ _ _ _ _ hr9 : Go.Sx.Fn Tryd.prog 7 [(Ag [(Vl (.float .f64 a0_0)), (Vl (.float .f64 a0_1)), (Vl (.float .f64 a0_2)), (Vl (.float .f64 a0_3)), (Vl (.float .f64 a0_4)), (Vl (.float .f64 a0_5)), (Vl (.float .f64 a0_6)), (Vl (.float .f64 a0_7)), (Vl (.float .f64 a0_8))])] [] (fun x : Unit => (Vl (.int .i64 r9))) (fun x => [])) (Hn := fun x : Unit => [(Rw KT24 24 (Vs g5) ([(a0_0, a0_1, a0_2, a0_3, a0_4, a0_5, a0_6, a0_7, a0_8)])), ⟨.pointer (some q1), [(Vl (.float .f64 a0_0)), (Vl (.float .f64 a0_1)), (Vl (.float .f64 a0_2)), (Vl (.float .f64 a0_3)), (Vl (.float .f64 a0_4)), (Vl (.float .f64 a0_5)), (Vl (.float .f64 a0_6)), (Vl (.float .f64 a0_7)), (Vl (.float .f64 a0_8))], 24, none⟩]) (fun _ => rfl) rfl rfl) (wt_none' rfl) fun ⟨⟩ => ?_
    refine sx_rd' (rd_conv' rfl (ru_i2f (by rw [Tryd.underlying3]; rfl) Tryd.underlying22)) rfl rfl (wt_none' rfl) ?_
    refine sx_rd' (rd_assign' rfl) rfl rfl (wt_none' rfl) ?_
    refine sx_nil' ?_
    show TX E K5 _
    refine tx_k' hK5 ?_
    refine cx_seq' fun K6 hK6 => ?_
    refine cx_region' ?_
    refine sx_rd' (rd_load_agg' (i := 1) (o := 0) (nn := 9) rfl ⟨rfl, rfl, rfl, rfl⟩ rfl agg24 (l' := [(Vl (.float .f64 a0_0)), (Vl (.float .f64 a0_1)), (Vl (.float .f64 a0_2)), (Vl (.float .f64 a0_3)), (Vl (.float .f64 a0_4)), (Vl (.float .f64 a0_5)), (Vl (.float .f64 a0_6)), (Vl (.float .f64 a0_7)), (Vl (.float .f64 a0_8))]) rfl) rfl rfl (wt_none' rfl) ?_
    obtain ⟨r12, hr12, hp⟩ := bind_some hp
    refine sx_ox' (ox_calln' (ent_fn' Tryd.func8 isn8 rfl rfl) (impl_MatDet_sim _ _ _ _ _ _ _ _ _ hr12 : Go.Sx.Fn Tryd.prog 8 [(Ag [(Vl (.float .f64 a0_0)), (Vl (.float .f64 a0_1)), (Vl (.float .f64 a0_2)), (Vl (.float .f64 a0_3)), (Vl (.float .f64 a0_4)), (Vl (.float .f64 a0_5)), (Vl (.float .f64 a0_6)), (Vl (.float .f64 a0_7)), (Vl (.float .f64 a0_8))])] [] (fun x : Unit => (Fl r12)) (fun x => [])) (Hn := fun x : Unit => [(Rw KT24 24 (Vs g5) ([(a0_0, a0_1, a0_2, a0_3, a0_4, a0_5, a0_6, a0_7, a0_8)])), ⟨.pointer (some q1), [(Vl (.float .f64 a0_0)), (Vl (.float .f64 a0_1)), (Vl (.float .f64 a0_2)), (Vl (.float .f64 a0_3)), (Vl (.float .f64 a0_4)), (Vl (.float .f64 a0_5)), (Vl (.float .f64 a0_6)), (Vl (.float .f64 a0_7)), (Vl (.float .f64 a0_8))], 24, none⟩]) (fun _ => rfl) rfl rfl) (wt_none' rfl) fun ⟨⟩ => ?_
    refine sx_rd' (rd_move' rfl) rfl rfl (wt_none' rfl) ?_
    refine sx_rd' (rd_fcmp' (fl_f rfl) (fl_v rfl) rfl) rfl rfl (wt_none' rfl) ?_
    refine sx_rd' (rd_move' rfl) rfl rfl (wt_none' rfl) ?_
    refine sx_cutn' 6 (fun (v1 : Bool) => (⟨22, [], [(21, (Vl (.bool v1)))], []⟩ : St)) (fun (v1 : Bool) => laws_FnMatDet_j1 k v1 = some out) ?_ ?_
    · rintro x1 hp
      replace hp : laws_FnMatDet_j1 k x1 = some out := hp
      unfold laws_FnMatDet_j1 at hp
      refine sx_rd' (rd_assign' rfl) rfl rfl (wt_none' rfl) ?_
      refine sx_nil' ?_
      show TX E K6 _
      refine tx_k' hK6 ?_
      refine cx_retc' ?_
      replace hp := Option.some.inj hp
      subst hp
      refine tx_pick' (L' := [(2, (Vl (.bool x1)))]) (H' := []) [] (sub_cons rfl sub_nil) (by decide) pick_nil ?_
      exact tx_ret1' Tryd.results3 rfl () (rv_tmp' rfl) (List.Sublist.refl _)
    · intro K7 hK7
      rcases br_cases hp with ⟨h2, hp⟩ | ⟨h2, hp⟩
      · refine sx_rd' (rd_load_agg' (i := 1) (o := 0) (nn := 9) rfl ⟨rfl, rfl, rfl, rfl⟩ rfl agg24 (l' := [(Vl (.float .f64 a0_0)), (Vl (.float .f64 a0_1)), (Vl (.float .f64 a0_2)), (Vl (.float .f64 a0_3)), (Vl (.float .f64 a0_4)), (Vl (.float .f64 a0_5)), (Vl (.float .f64 a0_6)), (Vl (.float .f64 a0_7)), (Vl (.float .f64 a0_8))]) rfl) rfl rfl (wt_is' (wt_guard' rfl rfl rfl) (beq_tt h2)) ?_
        obtain ⟨r17, hr17, hp⟩ := bind_some hp
        refine sx_ox' (ox_calln' (ent_fn' Tryd.func9 isn9 rfl rfl) (impl_MatTranspose_sim _ _ _ _ _ _ _ _ _ hr17 : Go.Sx.Fn Tryd.prog 9 [(Ag [(Vl (.float .f64 a0_0)), (Vl (.float .f64 a0_1)), (Vl (.float .f64 a0_2)), (Vl (.float .f64 a0_3)), (Vl (.float .f64 a0_4)), (Vl (.float .f64 a0_5)), (Vl (.float .f64 a0_6)), (Vl (.float .f64 a0_7)), (Vl (.float .f64 a0_8))])] [] (fun x : Unit => (Ag [(Vl (.float .f64 r17.1)), (Vl (.float .f64 r17.2.1)), (Vl (.float .f64 r17.2.2.1)), (Vl (.float .f64 r17.2.2.2.1)), (Vl (.float .f64 r17.2.2.2.2.1)), (Vl (.float .f64 r17.2.2.2.2.2.1)), (Vl (.float .f64 r17.2.2.2.2.2.2.1)), (Vl (.float .f64 r17.2.2.2.2.2.2.2.1)), (Vl (.float .f64 r17.2.2.2.2.2.2.2.2))])) (fun x => [])) (Hn := fun x : Unit => [(Rw KT24 24 (Vs g5) ([(a0_0, a0_1, a0_2, a0_3, a0_4, a0_5, a0_6, a0_7, a0_8)])), ⟨.pointer (some q1), [(Vl (.float .f64 a0_0)), (Vl (.float .f64 a0_1)), (Vl (.float .f64 a0_2)), (Vl (.float .f64 a0_3)), (Vl (.float .f64 a0_4)), (Vl (.float .f64 a0_5)), (Vl (.float .f64 a0_6)), (Vl (.float .f64 a0_7)), (Vl (.float .f64 a0_8))], 24, none⟩]) (fun _ => rfl) rfl rfl) (wt_is' (wt_guard' rfl rfl rfl) (beq_tt h2)) fun ⟨⟩ => ?_
        obtain ⟨r18, hr18, hp⟩ := bind_some hp
        refine sx_ox' (ox_calln' (ent_fn' Tryd.func8 isn8 rfl rfl) (impl_MatDet_sim _ _ _ _ _ _ _ _ _ hr18 : Go.Sx.Fn Tryd.prog 8 [(Ag [(Vl (.float .f64 r17.1)), (Vl (.float .f64 r17.2.1)), (Vl (.float .f64 r17.2.2.1)), (Vl (.float .f64 r17.2.2.2.1)), (Vl (.float .f64 r17.2.2.2.2.1)), (Vl (.float .f64 r17.2.2.2.2.2.1)), (Vl (.float .f64 r17.2.2.2.2.2.2.1)), (Vl (.float .f64 r17.2.2.2.2.2.2.2.1)), (Vl (.float .f64 r17.2.2.2.2.2.2.2.2))])] [] (fun x : Unit => (Fl r18)) (fun x => [])) (Hn := fun x : Unit => [(Rw KT24 24 (Vs g5) ([(a0_0, a0_1, a0_2, a0_3, a0_4, a0_5, a0_6, a0_7, a0_8)])), ⟨.pointer (some q1), [(Vl (.float .f64 a0_0)), (Vl (.float .f64 a0_1)), (Vl (.float .f64 a0_2)), (Vl (.float .f64 a0_3)), (Vl (.float .f64 a0_4)), (Vl (.float .f64 a0_5)), (Vl (.float .f64 a0_6)), (Vl (.float .f64 a0_7)), (Vl (.float .f64 a0_8))], 24, none⟩]) (fun _ => rfl) rfl rfl) (wt_is' (wt_guard' rfl rfl rfl) (beq_tt h2)) fun ⟨⟩ => ?_
        refine sx_rd' (rd_move' rfl) rfl rfl (wt_is' (wt_guard' rfl rfl rfl) (beq_tt h2)) ?_
        refine sx_rd' (rd_fcmp' (fl_f rfl) (fl_v rfl) rfl) rfl rfl (wt_is' (wt_guard' rfl rfl rfl) (beq_tt h2)) ?_
        refine sx_rd' (rd_pick_true' rfl h2 rfl) rfl rfl (wt_none' rfl) ?_
        refine sx_nil' ?_
        show TX E K7 _
        exact tx_pick' [] (sub_cons rfl sub_nil) (by decide) pick_nil (hK7 (feq r18 (i2f r9)) hp)
      · refine sx_skip' rfl rfl (wt_is' (wt_guard' rfl rfl rfl) (beq_ft h2)) ?_
        refine sx_skip' rfl rfl (wt_is' (wt_guard' rfl rfl rfl) (beq_ft h2)) ?_
        refine sx_skip' rfl rfl (wt_is' (wt_guard' rfl rfl rfl) (beq_ft h2)) ?_
        refine sx_skip' rfl rfl (wt_is' (wt_guard' rfl rfl rfl) (beq_ft h2)) ?_
        refine sx_skip' rfl rfl (wt_is' (wt_guard' rfl rfl rfl) (beq_ft h2)) ?_
        refine sx_rd' (rd_pick_false' rfl h2 rfl) rfl rfl (wt_none' rfl) ?_
        refine sx_nil' ?_
        show TX E K7 _
        exact tx_pick' [] (sub_cons rfl sub_nil) (by decide) pick_nil (hK7 false hp)

end Go.Proofs.YtnhbmhdjkibjaaaDoor
