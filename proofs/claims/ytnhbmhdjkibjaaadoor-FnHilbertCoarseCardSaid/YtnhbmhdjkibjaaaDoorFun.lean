/-
  Plain functions for the Go functions that this law reaches, and that each call does what its plain function says. Printed by a program of ours.
-/
import Derived.Test.YtnhbmhdjkibjaaaDoorProg
import Derived.Test.YtnhbmhdjkibjaaaDoorSxZ
namespace Go.Proofs.YtnhbmhdjkibjaaaDoor
open Go.Sx
set_option linter.unusedVariables false
set_option maxRecDepth 100000

theorem isn13 : (Tryd.f13.name == "runtime.NumGoroutine") = false := by kernel_rfl
theorem isn25 : (Tryd.f25.name == "runtime.NumGoroutine") = false := by kernel_rfl
theorem isn14 : (Tryd.f14.name == "runtime.NumGoroutine") = false := by kernel_rfl
theorem isn27 : (Tryd.f27.name == "runtime.NumGoroutine") = false := by kernel_rfl
theorem places57 : placesOf Tryd.prog [{ name := "order", type := 3, offset := 0, embedded := false, tag := "", pkgPath := "pub-orthodrome/pub/gonum/spatial/curve", byteOffset := 0 }] = [(0, 1)] := by kernel_rfl
theorem has57 : ∀ f ∈ ([{ name := "order", type := 3, offset := 0, embedded := false, tag := "", pkgPath := "pub-orthodrome/pub/gonum/spatial/curve", byteOffset := 0 }] : List Field), (Tryd.prog.info? f.type).isSome = true := fun f hf => all_of (p := fun f => (Tryd.prog.info? f.type).isSome) (by kernel_rfl) f hf
theorem info57 : (Tryd.prog.info? 57).map (fun i => (i.zero, i.size, i.bytes)) = some (some (.agg #[.int .i64 0]), 1, 8) := by kernel_rfl
theorem mixed : Tryd.prog.follows .mixedOrders = true := by kernel_rfl
theorem agg57 : Agg Tryd.prog 57 1 := ⟨⟨_, Tryd.underlying57, .inl ⟨_, rfl⟩⟩, info_size info57⟩
theorem nil_neq59_nilif : ∀ (w : World), (binOp .neq 59 .nilIface .nilIface).run Tryd.prog w = .ok (.bool false) w := fun _ => by kernel_rfl
theorem isn28 : (Tryd.f28.name == "runtime.NumGoroutine") = false := by kernel_rfl
theorem nil_eql34_nilsl : ∀ (w : World), (binOp .eql 34 (.slice none 0 0) (.slice none 0 0)).run Tryd.prog w = .ok (.bool true) w := fun _ => by kernel_rfl
theorem info3 : (Tryd.prog.info? 3).map (fun i => (i.zero, i.size, i.bytes)) = some (some (.int .i64 0), 1, 8) := by kernel_rfl
theorem flat3 : Flat Tryd.prog 3 := ⟨_, Tryd.underlying3, fun _ h => (nomatch h), fun _ _ h => (nomatch h)⟩
theorem isn38 : (Tryd.f38.name == "runtime.NumGoroutine") = false := by kernel_rfl
theorem places86 : placesOf Tryd.prog [{ name := "i", type := 3, offset := 0, embedded := false, tag := "", pkgPath := "pub-orthodrome/pub/gonum/spatial/curve", byteOffset := 0 }, { name := "j", type := 3, offset := 1, embedded := false, tag := "", pkgPath := "pub-orthodrome/pub/gonum/spatial/curve", byteOffset := 8 }] = [(0, 1), (1, 1)] := by kernel_rfl
theorem has86 : ∀ f ∈ ([{ name := "i", type := 3, offset := 0, embedded := false, tag := "", pkgPath := "pub-orthodrome/pub/gonum/spatial/curve", byteOffset := 0 }, { name := "j", type := 3, offset := 1, embedded := false, tag := "", pkgPath := "pub-orthodrome/pub/gonum/spatial/curve", byteOffset := 8 }] : List Field), (Tryd.prog.info? f.type).isSome = true := fun f hf => all_of (p := fun f => (Tryd.prog.info? f.type).isSome) (by kernel_rfl) f hf
theorem info86 : (Tryd.prog.info? 86).map (fun i => (i.zero, i.size, i.bytes)) = some (some (.agg #[.int .i64 0, .int .i64 0]), 2, 16) := by kernel_rfl
theorem isn44 : (Tryd.f44.name == "runtime.NumGoroutine") = false := by kernel_rfl
theorem places88 : placesOf Tryd.prog [{ name := "i", type := 3, offset := 0, embedded := false, tag := "", pkgPath := "pub-orthodrome/pub/gonum/spatial/curve", byteOffset := 0 }, { name := "j", type := 3, offset := 1, embedded := false, tag := "", pkgPath := "pub-orthodrome/pub/gonum/spatial/curve", byteOffset := 8 }] = [(0, 1), (1, 1)] := by kernel_rfl
theorem has88 : ∀ f ∈ ([{ name := "i", type := 3, offset := 0, embedded := false, tag := "", pkgPath := "pub-orthodrome/pub/gonum/spatial/curve", byteOffset := 0 }, { name := "j", type := 3, offset := 1, embedded := false, tag := "", pkgPath := "pub-orthodrome/pub/gonum/spatial/curve", byteOffset := 8 }] : List Field), (Tryd.prog.info? f.type).isSome = true := fun f hf => all_of (p := fun f => (Tryd.prog.info? f.type).isSome) (by kernel_rfl) f hf
theorem info88 : (Tryd.prog.info? 88).map (fun i => (i.zero, i.size, i.bytes)) = some (some (.agg #[.int .i64 0, .int .i64 0]), 2, 16) := by kernel_rfl
theorem isn45 : (Tryd.f45.name == "runtime.NumGoroutine") = false := by kernel_rfl
theorem idle26 : Idle Tryd.prog 26 2 := fun vs w hv => by
  obtain ⟨v0, v1, rfl⟩ : ∃ v0 v1, vs = [v0, v1] := by
    obtain _ | ⟨v0, vs⟩ := vs
    · simp at hv
    obtain _ | ⟨v1, vs⟩ := vs
    · simp at hv
    obtain _ | ⟨u, vs⟩ := vs
    · exact ⟨v0, v1, rfl⟩
    · simp at hv
  refine callsD_of_wpS Tryd.func26 rfl fun c₀ cs hu => ?_
  apply wpS_seq
  apply wpS_region
  simp [wpOpsS, go_sem, recoverD, hu, Tryd.ntmps26, Exit.thenS]
  refine wpS_cond (t := false) (by simp [Act.eval, Array.replicate]) ?_
  simp only [Bool.false_eq_true, if_false]
  refine wpS_of_wp (wp_skip ?_)
  cases c₀
  simp_all [bodyPostS, results, Tryd.results26]
theorem isn26 : (Tryd.f26.name == "runtime.NumGoroutine") = false := by kernel_rfl
theorem info4 : (Tryd.prog.info? 4).map (fun i => (i.zero, i.size, i.bytes)) = some (some (.bool false), 1, 1) := by kernel_rfl
theorem info34 : (Tryd.prog.info? 34).map (fun i => (i.zero, i.size, i.bytes)) = some (some (.slice none 0 0), 1, 24) := by kernel_rfl
theorem isn29 : (Tryd.f29.name == "runtime.NumGoroutine") = false := by kernel_rfl
theorem places63 : placesOf Tryd.prog [{ name := "order", type := 3, offset := 0, embedded := false, tag := "", pkgPath := "pub-orthodrome/pub/gonum/spatial/curve", byteOffset := 0 }] = [(0, 1)] := by kernel_rfl
theorem has63 : ∀ f ∈ ([{ name := "order", type := 3, offset := 0, embedded := false, tag := "", pkgPath := "pub-orthodrome/pub/gonum/spatial/curve", byteOffset := 0 }] : List Field), (Tryd.prog.info? f.type).isSome = true := fun f hf => all_of (p := fun f => (Tryd.prog.info? f.type).isSome) (by kernel_rfl) f hf
theorem info63 : (Tryd.prog.info? 63).map (fun i => (i.zero, i.size, i.bytes)) = some (some (.agg #[.int .i64 0]), 1, 8) := by kernel_rfl
theorem agg63 : Agg Tryd.prog 63 1 := ⟨⟨_, Tryd.underlying63, .inl ⟨_, rfl⟩⟩, info_size info63⟩
theorem isn30 : (Tryd.f30.name == "runtime.NumGoroutine") = false := by kernel_rfl
theorem isn39 : (Tryd.f39.name == "runtime.NumGoroutine") = false := by kernel_rfl
theorem isn46 : (Tryd.f46.name == "runtime.NumGoroutine") = false := by kernel_rfl
theorem agg86 : Agg Tryd.prog 86 2 := ⟨⟨_, Tryd.underlying86, .inl ⟨_, rfl⟩⟩, info_size info86⟩
theorem inv86_pub_orthodrome_pub_gonum_spatial_curve_do : ∀ (v : Value) (a : Value) (b : Value) w', (callMethod (.iface 86 v) "pub-orthodrome/pub/gonum/spatial/curve.do" #[a, b]).run Tryd.prog w' = .ok (.enter 44 #[v, a, b]) w' := fun _ _ _ _ => by kernel_rfl
theorem places90 : placesOf Tryd.prog [{ name := "i", type := 3, offset := 0, embedded := false, tag := "", pkgPath := "pub-orthodrome/pub/gonum/spatial/curve", byteOffset := 0 }, { name := "j", type := 3, offset := 1, embedded := false, tag := "", pkgPath := "pub-orthodrome/pub/gonum/spatial/curve", byteOffset := 8 }] = [(0, 1), (1, 1)] := by kernel_rfl
theorem has90 : ∀ f ∈ ([{ name := "i", type := 3, offset := 0, embedded := false, tag := "", pkgPath := "pub-orthodrome/pub/gonum/spatial/curve", byteOffset := 0 }, { name := "j", type := 3, offset := 1, embedded := false, tag := "", pkgPath := "pub-orthodrome/pub/gonum/spatial/curve", byteOffset := 8 }] : List Field), (Tryd.prog.info? f.type).isSome = true := fun f hf => all_of (p := fun f => (Tryd.prog.info? f.type).isSome) (by kernel_rfl) f hf
theorem info90 : (Tryd.prog.info? 90).map (fun i => (i.zero, i.size, i.bytes)) = some (some (.agg #[.int .i64 0, .int .i64 0]), 2, 16) := by kernel_rfl
theorem isn47 : (Tryd.f47.name == "runtime.NumGoroutine") = false := by kernel_rfl
theorem isn48 : (Tryd.f48.name == "runtime.NumGoroutine") = false := by kernel_rfl
theorem agg88 : Agg Tryd.prog 88 2 := ⟨⟨_, Tryd.underlying88, .inl ⟨_, rfl⟩⟩, info_size info88⟩
theorem inv88_pub_orthodrome_pub_gonum_spatial_curve_do : ∀ (v : Value) (a : Value) (b : Value) w', (callMethod (.iface 88 v) "pub-orthodrome/pub/gonum/spatial/curve.do" #[a, b]).run Tryd.prog w' = .ok (.enter 45 #[v, a, b]) w' := fun _ _ _ _ => by kernel_rfl
theorem isn31 : (Tryd.f31.name == "runtime.NumGoroutine") = false := by kernel_rfl
theorem places66 : placesOf Tryd.prog [{ name := "order", type := 3, offset := 0, embedded := false, tag := "", pkgPath := "pub-orthodrome/pub/gonum/spatial/curve", byteOffset := 0 }] = [(0, 1)] := by kernel_rfl
theorem has66 : ∀ f ∈ ([{ name := "order", type := 3, offset := 0, embedded := false, tag := "", pkgPath := "pub-orthodrome/pub/gonum/spatial/curve", byteOffset := 0 }] : List Field), (Tryd.prog.info? f.type).isSome = true := fun f hf => all_of (p := fun f => (Tryd.prog.info? f.type).isSome) (by kernel_rfl) f hf
theorem info66 : (Tryd.prog.info? 66).map (fun i => (i.zero, i.size, i.bytes)) = some (some (.agg #[.int .i64 0]), 1, 8) := by kernel_rfl
theorem agg66 : Agg Tryd.prog 66 1 := ⟨⟨_, Tryd.underlying66, .inl ⟨_, rfl⟩⟩, info_size info66⟩
theorem isn32 : (Tryd.f32.name == "runtime.NumGoroutine") = false := by kernel_rfl
theorem isn40 : (Tryd.f40.name == "runtime.NumGoroutine") = false := by kernel_rfl
theorem isn49 : (Tryd.f49.name == "runtime.NumGoroutine") = false := by kernel_rfl
theorem flat34 : Flat Tryd.prog 34 := ⟨_, Tryd.underlying34, fun _ h => (nomatch h), fun _ _ h => (nomatch h)⟩
theorem flat4 : Flat Tryd.prog 4 := ⟨_, Tryd.underlying4, fun _ h => (nomatch h), fun _ _ h => (nomatch h)⟩


def laws_orders (k : Nat) (a0 : Int) : Option (Int) :=
  br (decide (a0 = 2))
    (some 31)
    ((iquo .i64 62 a0) >>= fun r6 =>
    some r6)

theorem laws_orders_sim {k : Nat}  (a0 : Int) {out : Int} (hp : laws_orders k a0 = some out) : Go.Sx.Fn Tryd.prog 25 [(Vl (.int .i64 a0))] [] (fun w : Unit => (Vl (.int .i64 out))) (fun w => []) := by
  unfold laws_orders at hp
  refine fn_of Tryd.func25 rfl Tryd.ntmps25 rfl fun E hM => ?_
  refine cx_seq' fun K1 hK1 => ?_
  refine cx_region' ?_
  refine sx_rd' (rd_assign' rfl) rfl rfl (wt_none' rfl) ?_
  refine sx_nil' ?_
  show TX E K1 _
  refine tx_k' hK1 ?_
  refine cx_seq' fun K2 hK2 => ?_
  refine cx_seq' fun K3 hK3 => ?_
  refine cx_region' ?_
  refine sx_rd' (rd_move' rfl) rfl rfl (wt_none' rfl) ?_
  refine sx_rd' (rd_bin' rfl rfl eg_int ru_eql) rfl rfl (wt_none' rfl) ?_
  refine sx_nil' ?_
  show TX E K3 _
  refine tx_k' hK3 ?_
  refine cx_cond' rfl (fun h1 => ?_) (fun h1 => ?_)
  · replace hp := (br_t h1).symm.trans hp
    refine cx_seq' fun K4 hK4 => ?_
    refine cx_region' ?_
    refine sx_rd' (rd_assign' rfl) rfl rfl (wt_none' rfl) ?_
    refine sx_nil' ?_
    show TX E K4 _
    refine tx_k' hK4 ?_
    refine cx_retc' ?_
    replace hp := Option.some.inj hp
    subst hp
    refine tx_pick' (L' := [(2, (Vl (.int .i64 31)))]) (H' := []) [] (sub_cons rfl sub_nil) (by decide) pick_nil ?_
    exact tx_ret1' Tryd.results25 rfl () (rv_tmp' rfl) (List.Sublist.refl _)
  · replace hp := (br_f h1).symm.trans hp
    refine cx_skip' ?_
    show TX E K2 _
    refine tx_k' hK2 ?_
    refine cx_seq' fun K5 hK5 => ?_
    refine cx_region' ?_
    refine sx_rd' (rd_move' rfl) rfl rfl (wt_none' rfl) ?_
    obtain ⟨r6, hr6, hp⟩ := bind_some hp
    refine sx_rd' (rd_bin' rfl rfl eg_int (ru_quo hr6)) rfl rfl (wt_none' rfl) ?_
    refine sx_rd' (rd_assign' rfl) rfl rfl (wt_none' rfl) ?_
    refine sx_nil' ?_
    show TX E K5 _
    refine tx_k' hK5 ?_
    refine cx_retc' ?_
    replace hp := Option.some.inj hp
    subst hp
    refine tx_pick' (L' := [(2, (Vl (.int .i64 r6)))]) (H' := []) [] (sub_cons rfl sub_nil) (by decide) pick_nil ?_
    exact tx_ret1' Tryd.results25 rfl () (rv_tmp' rfl) (List.Sublist.refl _)

def laws_curved_j3 (k : Nat) (x3 : Bool) : Option (Bool) :=
  some x3
def laws_curved_j2 (k : Nat) (a0 : Int) (a1 : Int) (x2 : Bool) : Option (Bool) :=
  br x2
    ((laws_orders k a0) >>= fun r18 =>
    laws_curved_j3 k (decide (a1 ≤ r18)))
    (laws_curved_j3 k false)
def laws_curved_j1 (k : Nat) (a0 : Int) (a1 : Int) (x1 : Bool) : Option (Bool) :=
  br x1
    (laws_curved_j2 k a0 a1 (decide (1 ≤ a1)))
    (laws_curved_j2 k a0 a1 false)
def laws_curved (k : Nat) (a0 : Int) (a1 : Int) : Option (Bool) :=
  br (decide (2 ≤ a0))
    (laws_curved_j1 k a0 a1 (decide (a0 ≤ 4)))
    (laws_curved_j1 k a0 a1 false)

theorem laws_curved_sim {k : Nat}  (a0 : Int) (a1 : Int) {out : Bool} (hp : laws_curved k a0 a1 = some out) : Go.Sx.Fn Tryd.prog 13 [(Vl (.int .i64 a0)), (Vl (.int .i64 a1))] [] (fun w : Unit => (Vl (.bool out))) (fun w => []) := by
  unfold laws_curved at hp
  refine fn_of Tryd.func13 rfl Tryd.ntmps13 rfl fun E hM => ?_
  refine cx_seq' fun K1 hK1 => ?_
  refine cx_region' ?_
  refine sx_rd' (rd_assign' rfl) rfl rfl (wt_none' rfl) ?_
  refine sx_nil' ?_
  show TX E K1 _
  refine tx_k' hK1 ?_
  refine cx_seq' fun K2 hK2 => ?_
  refine cx_region' ?_
  refine sx_rd' (rd_move' rfl) rfl rfl (wt_none' rfl) ?_
  refine sx_rd' (rd_bin' rfl rfl eg_int ru_geq) rfl rfl (wt_none' rfl) ?_
  refine sx_rd' (rd_move' rfl) rfl rfl (wt_none' rfl) ?_
  refine sx_cutn' 3 (fun (v1 : Bool) => (⟨21, [], [(0, (Vl (.int .i64 a0))), (1, (Vl (.int .i64 a1))), (10, (Vl (.bool v1)))], []⟩ : St)) (fun (v1 : Bool) => laws_curved_j1 k a0 a1 v1 = some out) ?_ ?_
  · rintro x1 hp
    replace hp : laws_curved_j1 k a0 a1 x1 = some out := hp
    unfold laws_curved_j1 at hp
    refine sx_rd' (rd_move' rfl) rfl rfl (wt_none' rfl) ?_
    refine sx_cutn' 3 (fun (v2 : Bool) => (⟨21, [], [(0, (Vl (.int .i64 a0))), (1, (Vl (.int .i64 a1))), (14, (Vl (.bool v2)))], []⟩ : St)) (fun (v2 : Bool) => laws_curved_j2 k a0 a1 v2 = some out) ?_ ?_
    · rintro x2 hp
      replace hp : laws_curved_j2 k a0 a1 x2 = some out := hp
      unfold laws_curved_j2 at hp
      refine sx_rd' (rd_move' rfl) rfl rfl (wt_none' rfl) ?_
      refine sx_cutn' 5 (fun (v3 : Bool) => (⟨21, [], [(20, (Vl (.bool v3)))], []⟩ : St)) (fun (v3 : Bool) => laws_curved_j3 k v3 = some out) ?_ ?_
      · rintro x3 hp
        replace hp : laws_curved_j3 k x3 = some out := hp
        unfold laws_curved_j3 at hp
        refine sx_rd' (rd_assign' rfl) rfl rfl (wt_none' rfl) ?_
        refine sx_nil' ?_
        show TX E K2 _
        refine tx_k' hK2 ?_
        refine cx_retc' ?_
        replace hp := Option.some.inj hp
        subst hp
        refine tx_pick' (L' := [(4, (Vl (.bool x3)))]) (H' := []) [] (sub_cons rfl sub_nil) (by decide) pick_nil ?_
        exact tx_ret1' Tryd.results13 rfl () (rv_tmp' rfl) (List.Sublist.refl _)
      · intro K5 hK5
        rcases br_cases hp with ⟨h3, hp⟩ | ⟨h3, hp⟩
        · refine sx_rd' (rd_move' rfl) rfl rfl (wt_is' (wt_guard' rfl rfl rfl) (beq_tt h3)) ?_
          refine sx_rd' (rd_move' rfl) rfl rfl (wt_is' (wt_guard' rfl rfl rfl) (beq_tt h3)) ?_
          obtain ⟨r18, hr18, hp⟩ := bind_some hp
          refine sx_ox' (ox_calln' (ent_fn' Tryd.func25 isn25 rfl rfl) (laws_orders_sim _ hr18 : Go.Sx.Fn Tryd.prog 25 [(Vl (.int .i64 a0))] [] (fun x : Unit => (Vl (.int .i64 r18))) (fun x => [])) (Hn := fun x : Unit => []) (fun _ => rfl) rfl rfl) (wt_is' (wt_guard' rfl rfl rfl) (beq_tt h3)) fun ⟨⟩ => ?_
          refine sx_rd' (rd_bin' rfl rfl eg_int ru_leq) rfl rfl (wt_is' (wt_guard' rfl rfl rfl) (beq_tt h3)) ?_
          refine sx_rd' (rd_pick_true' rfl h3 rfl) rfl rfl (wt_none' rfl) ?_
          refine sx_nil' ?_
          show TX E K5 _
          exact tx_pick' [] (sub_cons rfl sub_nil) (by decide) pick_nil (hK5 (decide (a1 ≤ r18)) hp)
        · refine sx_skip' rfl rfl (wt_is' (wt_guard' rfl rfl rfl) (beq_ft h3)) ?_
          refine sx_skip' rfl rfl (wt_is' (wt_guard' rfl rfl rfl) (beq_ft h3)) ?_
          refine sx_skip' rfl rfl (wt_is' (wt_guard' rfl rfl rfl) (beq_ft h3)) ?_
          refine sx_skip' rfl rfl (wt_is' (wt_guard' rfl rfl rfl) (beq_ft h3)) ?_
          refine sx_rd' (rd_pick_false' rfl h3 rfl) rfl rfl (wt_none' rfl) ?_
          refine sx_nil' ?_
          show TX E K5 _
          exact tx_pick' [] (sub_cons rfl sub_nil) (by decide) pick_nil (hK5 false hp)
    · intro K4 hK4
      rcases br_cases hp with ⟨h2, hp⟩ | ⟨h2, hp⟩
      · refine sx_rd' (rd_move' rfl) rfl rfl (wt_is' (wt_guard' rfl rfl rfl) (beq_tt h2)) ?_
        refine sx_rd' (rd_bin' rfl rfl eg_int ru_geq) rfl rfl (wt_is' (wt_guard' rfl rfl rfl) (beq_tt h2)) ?_
        refine sx_rd' (rd_pick_true' rfl h2 rfl) rfl rfl (wt_none' rfl) ?_
        refine sx_nil' ?_
        show TX E K4 _
        exact tx_pick' [] (sub_cons rfl (sub_cons rfl (sub_cons rfl sub_nil))) (by decide) pick_nil (hK4 (decide (1 ≤ a1)) hp)
      · refine sx_skip' rfl rfl (wt_is' (wt_guard' rfl rfl rfl) (beq_ft h2)) ?_
        refine sx_skip' rfl rfl (wt_is' (wt_guard' rfl rfl rfl) (beq_ft h2)) ?_
        refine sx_rd' (rd_pick_false' rfl h2 rfl) rfl rfl (wt_none' rfl) ?_
        refine sx_nil' ?_
        show TX E K4 _
        exact tx_pick' [] (sub_cons rfl (sub_cons rfl (sub_cons rfl sub_nil))) (by decide) pick_nil (hK4 false hp)
  · intro K3 hK3
    rcases br_cases hp with ⟨h1, hp⟩ | ⟨h1, hp⟩
    · refine sx_rd' (rd_move' rfl) rfl rfl (wt_is' (wt_guard' rfl rfl rfl) (beq_tt h1)) ?_
      refine sx_rd' (rd_bin' rfl rfl eg_int ru_leq) rfl rfl (wt_is' (wt_guard' rfl rfl rfl) (beq_tt h1)) ?_
      refine sx_rd' (rd_pick_true' rfl h1 rfl) rfl rfl (wt_none' rfl) ?_
      refine sx_nil' ?_
      show TX E K3 _
      exact tx_pick' [] (sub_cons rfl (sub_cons rfl (sub_cons rfl sub_nil))) (by decide) pick_nil (hK3 (decide (a0 ≤ 4)) hp)
    · refine sx_skip' rfl rfl (wt_is' (wt_guard' rfl rfl rfl) (beq_ft h1)) ?_
      refine sx_skip' rfl rfl (wt_is' (wt_guard' rfl rfl rfl) (beq_ft h1)) ?_
      refine sx_rd' (rd_pick_false' rfl h1 rfl) rfl rfl (wt_none' rfl) ?_
      refine sx_nil' ?_
      show TX E K3 _
      exact tx_pick' [] (sub_cons rfl (sub_cons rfl (sub_cons rfl sub_nil))) (by decide) pick_nil (hK3 false hp)

def curve_NewHilbert2D (k : Nat) (a0 : Int) : Option (Int) :=
  br (decide (a0 < 1))
    (none)
    (br (decide (64 ≤ (imul .i64 a0 2)))
      (none)
      (some a0))

theorem curve_NewHilbert2D_sim {k : Nat}  (a0 : Int) {out : Int} (hp : curve_NewHilbert2D k a0 = some out) : Go.Sx.Fn Tryd.prog 27 [(Vl (.int .i64 a0))] [] (fun w : Unit => (Tu [(Ag [(Vl (.int .i64 out))]), (Vl .nilIface)])) (fun w => []) := by
  unfold curve_NewHilbert2D at hp
  refine fn_of Tryd.func27 rfl Tryd.ntmps27 rfl fun E hM => ?_
  refine cx_seq' fun K1 hK1 => ?_
  refine cx_region' ?_
  refine sx_ox' (ox_alloc' info57 rfl rfl rfl rfl (l := [(Vl (.int .i64 0))]) rfl) (wt_none' rfl) fun q2 => ?_
  refine sx_rd' (rd_assign' rfl) rfl rfl (wt_none' rfl) ?_
  refine sx_nil' ?_
  show TX E K1 _
  refine tx_k' hK1 ?_
  refine cx_seq' fun K2 hK2 => ?_
  refine cx_region' ?_
  refine sx_rd' (rd_move' rfl) rfl rfl (wt_none' rfl) ?_
  refine sx_rd' (rd_build' (pls := [(0, 1)]) (qs := [(0, [(Vl (.int .i64 a0))])]) (r := [(Vl (.int .i64 a0))]) ⟨rfl, ⟨_, rfl, (lv_vl rfl rfl)⟩, trivial⟩ Tryd.underlying57 has57 places57 info57 rfl rfl rfl) rfl rfl (wt_none' rfl) ?_
  refine sx_ox' (ox_alloc' info57 rfl rfl rfl rfl (l := [(Vl (.int .i64 0))]) rfl) (wt_none' rfl) fun q4 => ?_
  refine sx_ox' (ox_store' (i := 0) (o := 0) rfl rfl (lv_ag _) ⟨rfl, rfl, rfl, rfl⟩ rfl info57 rfl (H' := [⟨.pointer (some q4), [(Vl (.int .i64 a0))], 57, none⟩, ⟨.pointer (some q2), [(Vl (.int .i64 0))], 57, none⟩]) rfl) (wt_none' rfl) fun _ => ?_
  refine sx_nil' ?_
  show TX E K2 _
  refine tx_k' hK2 ?_
  refine cx_seq' fun K3 hK3 => ?_
  refine cx_seq' fun K4 hK4 => ?_
  refine cx_region' ?_
  refine sx_rd' (rd_move' rfl) rfl rfl (wt_none' rfl) ?_
  refine sx_rd' (rd_bin' rfl rfl eg_int ru_lss) rfl rfl (wt_none' rfl) ?_
  refine sx_nil' ?_
  show TX E K4 _
  refine tx_k' hK4 ?_
  refine cx_cond' rfl (fun h1 => ?_) (fun h1 => ?_)
  · replace hp := (br_t h1).symm.trans hp
    cases hp
  · replace hp := (br_f h1).symm.trans hp
    refine cx_skip' ?_
    show TX E K3 _
    refine tx_k' hK3 ?_
    refine cx_seq' fun K6 hK6 => ?_
    refine cx_seq' fun K7 hK7 => ?_
    refine cx_region' ?_
    refine sx_rd' (rd_move' rfl) rfl rfl (wt_none' rfl) ?_
    refine sx_rd' (rd_bin' rfl rfl eg_int ru_mul) rfl rfl (wt_none' rfl) ?_
    refine sx_rd' (rd_bin' rfl rfl eg_int ru_geq) rfl rfl (wt_none' rfl) ?_
    refine sx_nil' ?_
    show TX E K7 _
    refine tx_k' hK7 ?_
    refine cx_cond' rfl (fun h2 => ?_) (fun h2 => ?_)
    · replace hp := (br_t h2).symm.trans hp
      cases hp
    · replace hp := (br_f h2).symm.trans hp
      refine cx_skip' ?_
      show TX E K6 _
      refine tx_k' hK6 ?_
      refine cx_seq' fun K9 hK9 => ?_
      refine cx_region' ?_
      refine sx_rd' (rd_load_agg' (i := 0) (o := 0) (nn := 1) rfl ⟨rfl, rfl, rfl, rfl⟩ rfl agg57 (l' := [(Vl (.int .i64 a0))]) rfl) rfl rfl (wt_none' rfl) ?_
      refine sx_ox' (ox_store' (i := 1) (o := 0) rfl rfl (lv_ag _) ⟨rfl, rfl, rfl, rfl⟩ rfl info57 rfl (H' := [⟨.pointer (some q4), [(Vl (.int .i64 a0))], 57, none⟩, ⟨.pointer (some q2), [(Vl (.int .i64 a0))], 57, none⟩]) rfl) (wt_none' rfl) fun _ => ?_
      refine sx_rd' (rd_assign' rfl) rfl rfl (wt_none' rfl) ?_
      refine sx_nil' ?_
      show TX E K9 _
      refine tx_k' hK9 ?_
      refine cx_retc' ?_
      replace hp := Option.some.inj hp
      subst hp
      refine tx_pick' (L' := [(2, (Vl (.pointer (some q2)))), (3, (Vl .nilIface))]) (H' := [⟨.pointer (some q2), [(Vl (.int .i64 a0))], 57, none⟩]) [1] (sub_cons rfl (sub_cons rfl sub_nil)) (by decide) (pick_cons rfl pick_nil) ?_
      exact tx_ret2' Tryd.results27 rfl () (rv_cell_agg' (i := 0) (o := 0) (nn := 1) rfl ⟨rfl, rfl, rfl, rfl⟩ rfl agg57 rfl) (rv_tmp' rfl) rfl (List.nil_sublist _)

def curve_swap_do (k : Nat) (a0_0 : Int) (a0_1 : Int) (a1 : Int) (a2 : List Int) : Option ((List Int)) :=
  (idx a2 a0_1) >>= fun r15 =>
  (idx a2 a0_0) >>= fun r20 =>
  (idx a2 a0_0) >>= fun r22 =>
  (idx (a2.set a0_0.toNat r15) a0_1) >>= fun r23 =>
  some ((a2.set a0_0.toNat r15).set a0_1.toNat r20)

theorem curve_swap_do_sim {k : Nat} {wa2 : Gs} (a0_0 : Int) (a0_1 : Int) (a1 : Int) (a2 : List Int) {out : (List Int)} (hp : curve_swap_do k a0_0 a0_1 a1 a2 = some out) : Go.Sx.Fn Tryd.prog 44 [(Ag [(Vl (.int .i64 a0_0)), (Vl (.int .i64 a0_1))]), (Vl (.int .i64 a1)), (Vl (Vs wa2))] [(Rw (Ki .i64) 3 (Vs wa2) a2)] (fun w : Unit => (Vl (.tuple #[]))) (fun w => [(Rw (Ki .i64) 3 (Vs wa2) out)]) := by
  unfold curve_swap_do at hp
  refine fn_of Tryd.func44 rfl Tryd.ntmps44 rfl fun E hM => ?_
  refine cx_seq' fun K1 hK1 => ?_
  refine cx_region' ?_
  refine sx_ox' (ox_box' rfl (lv_ag _) rfl rfl) (wt_none' rfl) fun q3 => ?_
  refine sx_nil' ?_
  show TX E K1 _
  refine tx_k' hK1 ?_
  refine cx_plan' [q3.block] [(17, 1), (19, 1)] [(0, 1), (1, 1), (2, 1), (3, 2), (4, 2), (5, 2), (6, 1), (7, 1), (8, 1), (9, 1), (10, 1), (11, 1), (12, 1), (13, 1), (14, 1), (15, 1), (16, 1), (17, 0), (18, 1), (19, 0)] mixed (by kernel_rfl) ?_
  refine px_rd' rfl (rd_move' rfl) rfl rfl (wt_none' rfl) ?_
  refine px_rd' rfl (rd_field0' rfl Tryd.underlying86 rfl info3 rfl) rfl rfl (wt_none' rfl) ?_
  refine px_rd' rfl (rd_load' (i := 0) (o := 0) rfl ⟨rfl, rfl, rfl, rfl⟩ rfl flat3) rfl rfl (wt_none' rfl) ?_
  refine px_rb' rfl (rb_move' rfl) rfl rfl (wt_none' rfl) ?_
  refine px_rb' rfl (rb_field' (off := 1) rfl Tryd.underlying86 rfl info3 rfl) rfl rfl (wt_none' rfl) ?_
  refine px_rb' rfl (rb_load' (i := 0) (o := 1) rfl ⟨rfl, rfl, rfl, rfl⟩ rfl flat3 (by simp)) rfl rfl (wt_none' rfl) ?_
  refine px_rd' rfl (rd_move' rfl) rfl rfl (wt_none' rfl) ?_
  refine px_rd' rfl (rd_field' (off := 1) rfl Tryd.underlying86 rfl info3 rfl) rfl rfl (wt_none' rfl) ?_
  refine px_rd' rfl (rd_load' (i := 0) (o := 1) rfl ⟨rfl, rfl, rfl, rfl⟩ rfl flat3) rfl rfl (wt_none' rfl) ?_
  obtain ⟨r15, hr15, hp⟩ := bind_some hp
  refine px_rd' rfl (rd_atr' (m := 1) rfl rfl rfl rfl hr15 Tryd.underlying34 info3) rfl rfl (wt_none' rfl) ?_
  refine px_rd' rfl (rd_loadr' rfl (m := 1) (i := a0_1) (j := 0) rfl rfl hr15 rfl rfl flat3) rfl rfl (wt_none' rfl) ?_
  refine px_rd' rfl (rd_move' rfl) rfl rfl (wt_none' rfl) ?_
  refine px_rd' rfl (rd_field0' rfl Tryd.underlying86 rfl info3 rfl) rfl rfl (wt_none' rfl) ?_
  refine px_rd' rfl (rd_load' (i := 0) (o := 0) rfl ⟨rfl, rfl, rfl, rfl⟩ rfl flat3) rfl rfl (wt_none' rfl) ?_
  obtain ⟨r20, hr20, hp⟩ := bind_some hp
  refine px_rd' rfl (rd_atr' (m := 1) rfl rfl rfl rfl hr20 Tryd.underlying34 info3) rfl rfl (wt_none' rfl) ?_
  refine px_rd' rfl (rd_loadr' rfl (m := 1) (i := a0_0) (j := 0) rfl rfl hr20 rfl rfl flat3) rfl rfl (wt_none' rfl) ?_
  obtain ⟨r22, hr22, hp⟩ := bind_some hp
  refine px_rd' rfl (rd_atr' (m := 1) rfl rfl rfl rfl hr22 Tryd.underlying34 info3) rfl rfl (wt_none' rfl) ?_
  refine px_ox' rfl (ox_storer' (m := 1) (i := a0_0) (j := 0) (x' := r15) rfl rfl (lv_vl rfl rfl) rfl rfl hr22 rfl rfl rfl info3 rfl (H' := [⟨.pointer (some q3), [(Vl (.int .i64 a0_0)), (Vl (.int .i64 a0_1))], 86, none⟩, (Rw (Ki .i64) 3 (Vs wa2) (a2.set a0_0.toNat r15))]) rfl) rfl (bs_cons (m := 0) rfl rfl rfl bs_nil) (wt_none' rfl) fun _ => ?_
  obtain ⟨r23, hr23, hp⟩ := bind_some hp
  refine px_rd' rfl (rd_atr' (m := 1) rfl rfl rfl rfl hr23 Tryd.underlying34 info3) rfl rfl (wt_none' rfl) ?_
  refine px_ox' rfl (ox_storer' (m := 1) (i := a0_1) (j := 0) (x' := r20) rfl rfl (lv_vl rfl rfl) rfl rfl hr23 rfl rfl rfl info3 rfl (H' := [⟨.pointer (some q3), [(Vl (.int .i64 a0_0)), (Vl (.int .i64 a0_1))], 86, none⟩, (Rw (Ki .i64) 3 (Vs wa2) ((a2.set a0_0.toNat r15).set a0_1.toNat r20))]) rfl) rfl (bs_cons (m := 0) rfl rfl rfl bs_nil) (wt_none' rfl) fun _ => ?_
  refine px_nil' ?_
  replace hp := Option.some.inj hp
  subst hp
  refine tx_pick' (L' := []) (H' := [(Rw (Ki .i64) 3 (Vs wa2) ((a2.set a0_0.toNat r15).set a0_1.toNat r20))]) [1] sub_nil (by decide) (pick_cons rfl pick_nil) ?_
  exact tx_end0' Tryd.results44 rfl () rfl (List.Sublist.refl _)

def curve_flip_do (k : Nat) (a0_0 : Int) (a0_1 : Int) (a1 : Int) (a2 : List Int) : Option ((List Int)) :=
  (idx a2 a0_1) >>= fun r15 =>
  (ishl .i64 1 a1) >>= fun r18 =>
  (idx a2 a0_0) >>= fun r24 =>
  (ishl .i64 1 a1) >>= fun r27 =>
  (idx a2 a0_0) >>= fun r30 =>
  (idx (a2.set a0_0.toNat (ixor .i64 r15 (isub .i64 r18 1))) a0_1) >>= fun r31 =>
  some ((a2.set a0_0.toNat (ixor .i64 r15 (isub .i64 r18 1))).set a0_1.toNat (ixor .i64 r24 (isub .i64 r27 1)))

theorem curve_flip_do_sim {k : Nat} {wa2 : Gs} (a0_0 : Int) (a0_1 : Int) (a1 : Int) (a2 : List Int) {out : (List Int)} (hp : curve_flip_do k a0_0 a0_1 a1 a2 = some out) : Go.Sx.Fn Tryd.prog 45 [(Ag [(Vl (.int .i64 a0_0)), (Vl (.int .i64 a0_1))]), (Vl (.int .i64 a1)), (Vl (Vs wa2))] [(Rw (Ki .i64) 3 (Vs wa2) a2)] (fun w : Unit => (Vl (.tuple #[]))) (fun w => [(Rw (Ki .i64) 3 (Vs wa2) out)]) := by
  unfold curve_flip_do at hp
  refine fn_of Tryd.func45 rfl Tryd.ntmps45 rfl fun E hM => ?_
  refine cx_seq' fun K1 hK1 => ?_
  refine cx_region' ?_
  refine sx_ox' (ox_box' rfl (lv_ag _) rfl rfl) (wt_none' rfl) fun q3 => ?_
  refine sx_nil' ?_
  show TX E K1 _
  refine tx_k' hK1 ?_
  refine cx_plan' [q3.block] [(25, 1), (27, 1)] [(0, 1), (1, 1), (2, 1), (3, 2), (4, 2), (5, 2), (6, 1), (7, 1), (8, 1), (9, 1), (10, 1), (11, 1), (12, 1), (13, 1), (14, 1), (15, 1), (16, 1), (17, 1), (18, 1), (19, 1), (20, 2), (21, 2), (22, 2), (23, 2), (24, 1), (25, 0), (26, 1), (27, 0)] mixed (by kernel_rfl) ?_
  refine px_rd' rfl (rd_move' rfl) rfl rfl (wt_none' rfl) ?_
  refine px_rd' rfl (rd_field0' rfl Tryd.underlying88 rfl info3 rfl) rfl rfl (wt_none' rfl) ?_
  refine px_rd' rfl (rd_load' (i := 0) (o := 0) rfl ⟨rfl, rfl, rfl, rfl⟩ rfl flat3) rfl rfl (wt_none' rfl) ?_
  refine px_rb' rfl (rb_move' rfl) rfl rfl (wt_none' rfl) ?_
  refine px_rb' rfl (rb_field' (off := 1) rfl Tryd.underlying88 rfl info3 rfl) rfl rfl (wt_none' rfl) ?_
  refine px_rb' rfl (rb_load' (i := 0) (o := 1) rfl ⟨rfl, rfl, rfl, rfl⟩ rfl flat3 (by simp)) rfl rfl (wt_none' rfl) ?_
  refine px_rd' rfl (rd_move' rfl) rfl rfl (wt_none' rfl) ?_
  refine px_rd' rfl (rd_field' (off := 1) rfl Tryd.underlying88 rfl info3 rfl) rfl rfl (wt_none' rfl) ?_
  refine px_rd' rfl (rd_load' (i := 0) (o := 1) rfl ⟨rfl, rfl, rfl, rfl⟩ rfl flat3) rfl rfl (wt_none' rfl) ?_
  obtain ⟨r15, hr15, hp⟩ := bind_some hp
  refine px_rd' rfl (rd_atr' (m := 1) rfl rfl rfl rfl hr15 Tryd.underlying34 info3) rfl rfl (wt_none' rfl) ?_
  refine px_rd' rfl (rd_loadr' rfl (m := 1) (i := a0_1) (j := 0) rfl rfl hr15 rfl rfl flat3) rfl rfl (wt_none' rfl) ?_
  refine px_rd' rfl (rd_move' rfl) rfl rfl (wt_none' rfl) ?_
  obtain ⟨r18, hr18, hp⟩ := bind_some hp
  refine px_rd' rfl (rd_bin' rfl rfl eg_int (ru_shl hr18)) rfl rfl (wt_none' rfl) ?_
  refine px_rd' rfl (rd_bin' rfl rfl eg_int ru_sub) rfl rfl (wt_none' rfl) ?_
  refine px_rd' rfl (rd_bin' rfl rfl eg_int ru_xor) rfl rfl (wt_none' rfl) ?_
  refine px_rd' rfl (rd_move' rfl) rfl rfl (wt_none' rfl) ?_
  refine px_rd' rfl (rd_field0' rfl Tryd.underlying88 rfl info3 rfl) rfl rfl (wt_none' rfl) ?_
  refine px_rd' rfl (rd_load' (i := 0) (o := 0) rfl ⟨rfl, rfl, rfl, rfl⟩ rfl flat3) rfl rfl (wt_none' rfl) ?_
  obtain ⟨r24, hr24, hp⟩ := bind_some hp
  refine px_rd' rfl (rd_atr' (m := 1) rfl rfl rfl rfl hr24 Tryd.underlying34 info3) rfl rfl (wt_none' rfl) ?_
  refine px_rd' rfl (rd_loadr' rfl (m := 1) (i := a0_0) (j := 0) rfl rfl hr24 rfl rfl flat3) rfl rfl (wt_none' rfl) ?_
  refine px_rb' rfl (rb_move' rfl) rfl rfl (wt_none' rfl) ?_
  obtain ⟨r27, hr27, hp⟩ := bind_some hp
  refine px_rb' rfl (rb_bin' rfl rfl eg_int (ru_shl hr27)) rfl rfl (wt_none' rfl) ?_
  refine px_rb' rfl (rb_bin' rfl rfl eg_int ru_sub) rfl rfl (wt_none' rfl) ?_
  refine px_rb' rfl (rb_bin' rfl rfl eg_int ru_xor) rfl rfl (wt_none' rfl) ?_
  obtain ⟨r30, hr30, hp⟩ := bind_some hp
  refine px_rd' rfl (rd_atr' (m := 1) rfl rfl rfl rfl hr30 Tryd.underlying34 info3) rfl rfl (wt_none' rfl) ?_
  refine px_ox' rfl (ox_storer' (m := 1) (i := a0_0) (j := 0) (x' := (ixor .i64 r15 (isub .i64 r18 1))) rfl rfl (lv_vl rfl rfl) rfl rfl hr30 rfl rfl rfl info3 rfl (H' := [⟨.pointer (some q3), [(Vl (.int .i64 a0_0)), (Vl (.int .i64 a0_1))], 88, none⟩, (Rw (Ki .i64) 3 (Vs wa2) (a2.set a0_0.toNat (ixor .i64 r15 (isub .i64 r18 1))))]) rfl) rfl (bs_cons (m := 0) rfl rfl rfl bs_nil) (wt_none' rfl) fun _ => ?_
  obtain ⟨r31, hr31, hp⟩ := bind_some hp
  refine px_rd' rfl (rd_atr' (m := 1) rfl rfl rfl rfl hr31 Tryd.underlying34 info3) rfl rfl (wt_none' rfl) ?_
  refine px_ox' rfl (ox_storer' (m := 1) (i := a0_1) (j := 0) (x' := (ixor .i64 r24 (isub .i64 r27 1))) rfl rfl (lv_vl rfl rfl) rfl rfl hr31 rfl rfl rfl info3 rfl (H' := [⟨.pointer (some q3), [(Vl (.int .i64 a0_0)), (Vl (.int .i64 a0_1))], 88, none⟩, (Rw (Ki .i64) 3 (Vs wa2) ((a2.set a0_0.toNat (ixor .i64 r15 (isub .i64 r18 1))).set a0_1.toNat (ixor .i64 r24 (isub .i64 r27 1))))]) rfl) rfl (bs_cons (m := 0) rfl rfl rfl bs_nil) (wt_none' rfl) fun _ => ?_
  refine px_nil' ?_
  replace hp := Option.some.inj hp
  subst hp
  refine tx_pick' (L' := []) (H' := [(Rw (Ki .i64) 3 (Vs wa2) ((a2.set a0_0.toNat (ixor .i64 r15 (isub .i64 r18 1))).set a0_1.toNat (ixor .i64 r24 (isub .i64 r27 1))))]) [1] sub_nil (by decide) (pick_cons rfl pick_nil) ?_
  exact tx_end0' Tryd.results45 rfl () rfl (List.Sublist.refl _)

def curve_Hilbert2D_rot (k : Nat) (a0_0 : Int) (a1 : Int) (a2 : List Int) (a3 : Int) : Option ((List Int)) :=
  br (decide (a3 = 0))
    ((curve_swap_do k 0 1 a1 a2) >>= fun r14 =>
    some r14)
    (br (decide (a3 = 3))
      ((curve_flip_do k 0 1 a1 a2) >>= fun r20 =>
      some r20)
      (some a2))

theorem curve_Hilbert2D_rot_sim {k : Nat} {wa2 : Gs} (a0_0 : Int) (a1 : Int) (a2 : List Int) (a3 : Int) {out : (List Int)} (hp : curve_Hilbert2D_rot k a0_0 a1 a2 a3 = some out) : Go.Sx.Fn Tryd.prog 38 [(Ag [(Vl (.int .i64 a0_0))]), (Vl (.int .i64 a1)), (Vl (Vs wa2)), (Vl (.int .i64 a3))] [(Rw (Ki .i64) 3 (Vs wa2) a2)] (fun w : Unit => (Vl (.tuple #[]))) (fun w => [(Rw (Ki .i64) 3 (Vs wa2) out)]) := by
  unfold curve_Hilbert2D_rot at hp
  refine fn_of Tryd.func38 rfl Tryd.ntmps38 rfl fun E hM => ?_
  refine cx_seq' fun K1 hK1 => ?_
  refine cx_region' ?_
  refine sx_ox' (ox_box' rfl (lv_ag _) rfl rfl) (wt_none' rfl) fun q4 => ?_
  refine sx_nil' ?_
  show TX E K1 _
  refine tx_k' hK1 ?_
  refine cx_seq' fun K2 hK2 => ?_
  refine cx_region' ?_
  refine sx_rd' (rd_move' rfl) rfl rfl (wt_none' rfl) ?_
  refine sx_nil' ?_
  show TX E K2 _
  refine tx_k' hK2 ?_
  refine cx_block' ?_
  refine cx_seq' fun K3 hK3 => ?_
  refine cx_region' ?_
  refine sx_rd' (rd_bin' rfl rfl eg_int ru_eql) rfl rfl (wt_none' rfl) ?_
  refine sx_rd' (rd_assign' rfl) rfl rfl (wt_none' rfl) ?_
  refine sx_nil' ?_
  show TX E K3 _
  refine tx_k' hK3 ?_
  refine cx_cond' rfl (fun h1 => ?_) (fun h1 => ?_)
  · replace hp := (br_t h1).symm.trans hp
    refine cx_region' ?_
    refine sx_rd' (rd_build' (pls := [(0, 1), (1, 1)]) (qs := [(0, [(Vl (.int .i64 0))]), (1, [(Vl (.int .i64 1))])]) (r := [(Vl (.int .i64 0)), (Vl (.int .i64 1))]) ⟨rfl, ⟨_, rfl, (lv_vl rfl rfl)⟩, ⟨rfl, ⟨_, rfl, (lv_vl rfl rfl)⟩, trivial⟩⟩ Tryd.underlying86 has86 places86 info86 rfl rfl rfl) rfl rfl (wt_none' rfl) ?_
    refine sx_rd' (rd_move' rfl) rfl rfl (wt_none' rfl) ?_
    refine sx_rd' (rd_move' rfl) rfl rfl (wt_none' rfl) ?_
    obtain ⟨r14, hr14, hp⟩ := bind_some hp
    refine sx_ox' (ox_callg' (ent_fn' Tryd.func44 isn44 rfl rfl) (curve_swap_do_sim _ _ _ _ hr14 : Go.Sx.Fn Tryd.prog 44 [(Ag [(Vl (.int .i64 0)), (Vl (.int .i64 1))]), (Vl (.int .i64 a1)), (Vl (Vs wa2))] [(Rw (Ki .i64) 3 (Vs wa2) a2)] (fun x : Unit => (Vl (.tuple #[]))) (fun x => [(Rw (Ki .i64) 3 (Vs wa2) r14)])) [1] [0] (by decide) (pick_cons rfl pick_nil) (pick_cons rfl pick_nil) (Hn := fun x : Unit => [(Rw (Ki .i64) 3 (Vs wa2) r14), ⟨.pointer (some q4), [(Vl (.int .i64 a0_0))], 57, none⟩]) (fun _ => rfl) rfl rfl) (wt_none' rfl) fun ⟨⟩ => ?_
    refine sx_nil' ?_
    replace hp := Option.some.inj hp
    subst hp
    refine tx_pick' (L' := []) (H' := [(Rw (Ki .i64) 3 (Vs wa2) r14)]) [0] sub_nil (by decide) (pick_cons rfl pick_nil) ?_
    exact tx_end0' Tryd.results38 rfl () rfl (List.Sublist.refl _)
  · replace hp := (br_f h1).symm.trans hp
    refine cx_seq' fun K4 hK4 => ?_
    refine cx_region' ?_
    refine sx_rd' (rd_bin' rfl rfl eg_int ru_eql) rfl rfl (wt_none' rfl) ?_
    refine sx_rd' (rd_assign' rfl) rfl rfl (wt_none' rfl) ?_
    refine sx_nil' ?_
    show TX E K4 _
    refine tx_k' hK4 ?_
    refine cx_cond' rfl (fun h2 => ?_) (fun h2 => ?_)
    · replace hp := (br_t h2).symm.trans hp
      refine cx_region' ?_
      refine sx_rd' (rd_build' (pls := [(0, 1), (1, 1)]) (qs := [(0, [(Vl (.int .i64 0))]), (1, [(Vl (.int .i64 1))])]) (r := [(Vl (.int .i64 0)), (Vl (.int .i64 1))]) ⟨rfl, ⟨_, rfl, (lv_vl rfl rfl)⟩, ⟨rfl, ⟨_, rfl, (lv_vl rfl rfl)⟩, trivial⟩⟩ Tryd.underlying88 has88 places88 info88 rfl rfl rfl) rfl rfl (wt_none' rfl) ?_
      refine sx_rd' (rd_move' rfl) rfl rfl (wt_none' rfl) ?_
      refine sx_rd' (rd_move' rfl) rfl rfl (wt_none' rfl) ?_
      obtain ⟨r20, hr20, hp⟩ := bind_some hp
      refine sx_ox' (ox_callg' (ent_fn' Tryd.func45 isn45 rfl rfl) (curve_flip_do_sim _ _ _ _ hr20 : Go.Sx.Fn Tryd.prog 45 [(Ag [(Vl (.int .i64 0)), (Vl (.int .i64 1))]), (Vl (.int .i64 a1)), (Vl (Vs wa2))] [(Rw (Ki .i64) 3 (Vs wa2) a2)] (fun x : Unit => (Vl (.tuple #[]))) (fun x => [(Rw (Ki .i64) 3 (Vs wa2) r20)])) [1] [0] (by decide) (pick_cons rfl pick_nil) (pick_cons rfl pick_nil) (Hn := fun x : Unit => [(Rw (Ki .i64) 3 (Vs wa2) r20), ⟨.pointer (some q4), [(Vl (.int .i64 a0_0))], 57, none⟩]) (fun _ => rfl) rfl rfl) (wt_none' rfl) fun ⟨⟩ => ?_
      refine sx_nil' ?_
      replace hp := Option.some.inj hp
      subst hp
      refine tx_pick' (L' := []) (H' := [(Rw (Ki .i64) 3 (Vs wa2) r20)]) [0] sub_nil (by decide) (pick_cons rfl pick_nil) ?_
      exact tx_end0' Tryd.results38 rfl () rfl (List.Sublist.refl _)
    · replace hp := (br_f h2).symm.trans hp
      refine cx_skip' ?_
      replace hp := Option.some.inj hp
      subst hp
      refine tx_pick' (L' := []) (H' := [(Rw (Ki .i64) 3 (Vs wa2) a2)]) [1] sub_nil (by decide) (pick_cons rfl pick_nil) ?_
      exact tx_end0' Tryd.results38 rfl () rfl (List.Sublist.refl _)

def curve_Hilbert2D_Coord_l1s (a0_0 : Int) (k : Nat) (rec1 : ((List Int) × Int × Int) → Option ((List Int))) (x1 : List Int) (x2 : Int) (x3 : Int) : Option ((List Int)) :=
  br (decide (x3 < a0_0))
    ((curve_Hilbert2D_rot k a0_0 x3 x1 (iand .i64 x2 3)) >>= fun r31 =>
    (ishr .i64 (iand .i64 x2 3) 1) >>= fun r33 =>
    (ishr .i64 (iand .i64 x2 3) 0) >>= fun r35 =>
    (ishr .i64 (iand .i64 x2 3) 1) >>= fun r37 =>
    (idx r31 0) >>= fun r41 =>
    (ishl .i64 (iand .i64 (ixor .i64 r35 r37) 1) x3) >>= fun r45 =>
    (idx r31 0) >>= fun r47 =>
    (idx (r31.set (0 : Int).toNat (iadd .i64 r41 r45)) 1) >>= fun r49 =>
    (ishl .i64 r33 x3) >>= fun r53 =>
    (idx (r31.set (0 : Int).toNat (iadd .i64 r41 r45)) 1) >>= fun r55 =>
    (ishr .i64 x2 2) >>= fun r57 =>
    rec1 (((r31.set (0 : Int).toNat (iadd .i64 r41 r45)).set (1 : Int).toNat (iadd .i64 r49 r53)), r57, (iadd .i64 x3 1)))
    (some x1)
def curve_Hilbert2D_Coord_l1 (a0_0 : Int) : Nat → ((List Int) × Int × Int) → Option ((List Int))
  | 0, _ => none
  | k + 1, v => curve_Hilbert2D_Coord_l1s a0_0 k (curve_Hilbert2D_Coord_l1 a0_0 k) v.1 v.2.1 v.2.2
def curve_Hilbert2D_Coord (k : Nat) (a0_0 : Int) (a2 : Int) : Option ((List Int)) :=
  (mk 8 0 2 2) >>= fun r13 =>
  (curve_Hilbert2D_Coord_l1 a0_0 k (r13, a2, 0)) >>= fun v2 =>
  some v2

theorem curve_Hilbert2D_Coord_sim {k : Nat}  (a0_0 : Int) (a2 : Int) {out : (List Int)} (hp : curve_Hilbert2D_Coord k a0_0 a2 = some out) : Go.Sx.Fn Tryd.prog 28 [(Ag [(Vl (.int .i64 a0_0))]), (Vl (.slice none 0 0)), (Vl (.int .i64 a2))] [] (fun w : Unit => (Sl (Ki .i64) out)) (fun w => []) := by
  unfold curve_Hilbert2D_Coord at hp
  refine fn_of Tryd.func28 rfl Tryd.ntmps28 rfl fun E hM => ?_
  refine cx_seq' fun K1 hK1 => ?_
  refine cx_region' ?_
  refine sx_ox' (ox_box' rfl (lv_ag _) rfl rfl) (wt_none' rfl) fun q3 => ?_
  refine sx_rd' (rd_assign' rfl) rfl rfl (wt_none' rfl) ?_
  refine sx_nil' ?_
  show TX E K1 _
  refine tx_k' hK1 ?_
  refine cx_seq' fun K2 hK2 => ?_
  refine cx_seq' fun K3 hK3 => ?_
  refine cx_region' ?_
  refine sx_rd' (rd_move' rfl) rfl rfl (wt_none' rfl) ?_
  refine sx_rd' (rd_binf' rfl rfl (bf_vl (fun _ => by kernel_rfl) nil_eql34_nilsl)) rfl rfl (wt_none' rfl) ?_
  refine sx_nil' ?_
  show TX E K3 _
  refine tx_k' hK3 ?_
  refine cx_cond_t' rfl rfl ?_
  refine cx_region' ?_
  obtain ⟨r13, hr13, hp⟩ := bind_some hp
  refine sx_ox' (ox_make' (K := (Ki .i64)) rfl rfl hr13 rfl Tryd.underlying34 info3 rfl rfl rfl rfl rfl) (wt_none' rfl) fun g13 => ?_
  refine sx_rd' (rd_assign' rfl) rfl rfl (wt_none' rfl) ?_
  refine sx_nil' ?_
  show TX E K2 _
  refine tx_k' hK2 ?_
  refine cx_seq' fun K4 hK4 => ?_
  refine cx_seq' fun K5 hK5 => ?_
  refine cx_region' ?_
  refine sx_rd' (rd_assign' rfl) rfl rfl (wt_none' rfl) ?_
  refine sx_nil' ?_
  show TX E K5 _
  refine tx_k' hK5 ?_
  refine cx_block' ?_
  obtain ⟨v2, hy1, hp⟩ := bind_some hp
  refine cx_loopg' (F := curve_Hilbert2D_Coord_l1 a0_0) (G := fun k R v => curve_Hilbert2D_Coord_l1s a0_0 k R v.1 v.2.1 v.2.2) (x := (r13, a2, 0)) (gh := ()) (fun (v1 : (List Int) × Int × Int) (w1 : Unit) => (⟨59, [], [(1, (Vl (Vs g13))), (2, (Vl (.int .i64 v1.2.1))), (3, (Vl (.pointer (some q3)))), (7, (Vl (.int .i64 v1.2.2)))], [(Rw (Ki .i64) 3 (Vs g13) v1.1), ⟨.pointer (some q3), [(Vl (.int .i64 a0_0))], 57, none⟩]⟩ : St)) (fun (v2 : (List Int)) => Zg E (Exit.exit 0) (fun (w2 : Unit) => (⟨59, [], [(1, (Vl (Vs g13)))], [(Rw (Ki .i64) 3 (Vs g13) v2)]⟩ : St))) (fun _ => rfl) (fun _ _ => rfl) ?_ hy1 (tx_to' rfl [0, 1] (sub_cons rfl (sub_cons rfl (sub_cons rfl (sub_cons rfl sub_nil)))) (by decide) (pick_cons rfl (pick_cons rfl pick_nil))) ?_
  · clear hp hy1
    clear v2
    intro k rec1 KY1 ih1
    rintro ⟨x1, x2, x3⟩ ⟨⟩ y1 hp
    replace hp : curve_Hilbert2D_Coord_l1s a0_0 k rec1 x1 x2 x3 = some y1 := hp
    unfold curve_Hilbert2D_Coord_l1s at hp
    refine cx_seq' fun K15 hK15 => ?_
    refine cx_seq' fun K16 hK16 => ?_
    refine cx_region' ?_
    refine sx_rd' (rd_move' rfl) rfl rfl (wt_none' rfl) ?_
    refine sx_rd' (rd_field0' rfl Tryd.underlying57 rfl info3 rfl) rfl rfl (wt_none' rfl) ?_
    refine sx_rd' (rd_load' (i := 1) (o := 0) rfl ⟨rfl, rfl, rfl, rfl⟩ rfl flat3) rfl rfl (wt_none' rfl) ?_
    refine sx_rd' (rd_bin' rfl rfl eg_int ru_lss) rfl rfl (wt_none' rfl) ?_
    refine sx_nil' ?_
    show TX E K16 _
    refine tx_k' hK16 ?_
    refine cx_cond' rfl (fun h3 => ?_) (fun h3 => ?_)
    · replace hp := (br_t h3).symm.trans hp
      refine cx_skip' ?_
      show TX E K15 _
      refine tx_k' hK15 ?_
      refine cx_seq' fun K17 hK17 => ?_
      refine cx_block' ?_
      refine cx_seq' fun K18 hK18 => ?_
      refine cx_region' ?_
      refine sx_rd' (rd_move' rfl) rfl rfl (wt_none' rfl) ?_
      refine sx_rd' (rd_bin' rfl rfl eg_int ru_and) rfl rfl (wt_none' rfl) ?_
      refine sx_rd' (rd_assign' rfl) rfl rfl (wt_none' rfl) ?_
      refine sx_nil' ?_
      show TX E K18 _
      refine tx_k' hK18 ?_
      refine cx_seq' fun K19 hK19 => ?_
      refine cx_plan' [] [(5, 1)] [(0, 1), (1, 1), (2, 1), (3, 1), (4, 1), (5, 0)] mixed (by kernel_rfl) ?_
      refine px_rd' rfl (rd_load_agg' (i := 1) (o := 0) (nn := 1) rfl ⟨rfl, rfl, rfl, rfl⟩ rfl agg57 (l' := [(Vl (.int .i64 a0_0))]) rfl) rfl rfl (wt_none' rfl) ?_
      refine px_rd' rfl (rd_move' rfl) rfl rfl (wt_none' rfl) ?_
      refine px_rd' rfl (rd_move' rfl) rfl rfl (wt_none' rfl) ?_
      refine px_rd' rfl (rd_cut_allr' (K := (Ki .i64)) (i := 0) rfl rfl rfl Tryd.underlying34 info3) rfl rfl (wt_none' rfl) ?_
      refine px_rd' rfl (rd_move' rfl) rfl rfl (wt_none' rfl) ?_
      obtain ⟨r31, hr31, hp⟩ := bind_some hp
      refine px_oxb' (is := [0]) rfl (oxb_callg (ent_fn' Tryd.func38 isn38 rfl rfl) (curve_Hilbert2D_rot_sim _ _ _ _ hr31 : Go.Sx.Fn Tryd.prog 38 [(Ag [(Vl (.int .i64 a0_0))]), (Vl (.int .i64 x3)), (Vl (Vs g13)), (Vl (.int .i64 (iand .i64 x2 3)))] [(Rw (Ki .i64) 3 (Vs g13) x1)] (fun x : Unit => (Vl (.tuple #[]))) (fun x => [(Rw (Ki .i64) 3 (Vs g13) r31)])) [0] [1] (by decide) (pick_cons rfl pick_nil) (pick_cons rfl pick_nil) (Hn := fun x : Unit => [(Rw (Ki .i64) 3 (Vs g13) r31), ⟨.pointer (some q3), [(Vl (.int .i64 a0_0))], 57, none⟩]) (fun _ => rfl) rfl rfl) (pick_cons rfl pick_nil) rfl bl_nil (wt_none' rfl) fun ⟨⟩ => ?_
      refine px_nil' ?_
      show TX E K19 _
      refine tx_k' hK19 ?_
      refine cx_seq' fun K20 hK20 => ?_
      refine cx_region' ?_
      refine sx_rd' (rd_move' rfl) rfl rfl (wt_none' rfl) ?_
      obtain ⟨r33, hr33, hp⟩ := bind_some hp
      refine sx_rd' (rd_bin' rfl rfl eg_int (ru_shr hr33)) rfl rfl (wt_none' rfl) ?_
      refine sx_rd' (rd_assign' rfl) rfl rfl (wt_none' rfl) ?_
      refine sx_nil' ?_
      show TX E K20 _
      refine tx_k' hK20 ?_
      refine cx_seq' fun K21 hK21 => ?_
      refine cx_region' ?_
      refine sx_rd' (rd_move' rfl) rfl rfl (wt_none' rfl) ?_
      obtain ⟨r35, hr35, hp⟩ := bind_some hp
      refine sx_rd' (rd_bin' rfl rfl eg_int (ru_shr hr35)) rfl rfl (wt_none' rfl) ?_
      refine sx_rd' (rd_move' rfl) rfl rfl (wt_none' rfl) ?_
      obtain ⟨r37, hr37, hp⟩ := bind_some hp
      refine sx_rd' (rd_bin' rfl rfl eg_int (ru_shr hr37)) rfl rfl (wt_none' rfl) ?_
      refine sx_rd' (rd_bin' rfl rfl eg_int ru_xor) rfl rfl (wt_none' rfl) ?_
      refine sx_rd' (rd_bin' rfl rfl eg_int ru_and) rfl rfl (wt_none' rfl) ?_
      refine sx_rd' (rd_assign' rfl) rfl rfl (wt_none' rfl) ?_
      refine sx_nil' ?_
      show TX E K21 _
      refine tx_k' hK21 ?_
      refine cx_seq' fun K22 hK22 => ?_
      refine cx_plan' [] [(8, 1)] [(0, 1), (1, 1), (2, 1), (3, 1), (4, 1), (5, 1), (6, 1), (7, 1), (8, 0)] mixed (by kernel_rfl) ?_
      refine px_rd' rfl (rd_move' rfl) rfl rfl (wt_none' rfl) ?_
      obtain ⟨r41, hr41, hp⟩ := bind_some hp
      refine px_rd' rfl (rd_atr' (m := 0) rfl rfl rfl rfl hr41 Tryd.underlying34 info3) rfl rfl (wt_none' rfl) ?_
      refine px_rd' rfl (rd_loadr' rfl (m := 0) (i := 0) (j := 0) rfl rfl hr41 rfl rfl flat3) rfl rfl (wt_none' rfl) ?_
      refine px_rd' rfl (rd_move' rfl) rfl rfl (wt_none' rfl) ?_
      refine px_rd' rfl (rd_move' rfl) rfl rfl (wt_none' rfl) ?_
      obtain ⟨r45, hr45, hp⟩ := bind_some hp
      refine px_rd' rfl (rd_bin' rfl rfl eg_int (ru_shl hr45)) rfl rfl (wt_none' rfl) ?_
      refine px_rd' rfl (rd_bin' rfl rfl eg_int ru_add) rfl rfl (wt_none' rfl) ?_
      obtain ⟨r47, hr47, hp⟩ := bind_some hp
      refine px_rd' rfl (rd_atr' (m := 0) rfl rfl rfl rfl hr47 Tryd.underlying34 info3) rfl rfl (wt_none' rfl) ?_
      refine px_ox' rfl (ox_storer' (m := 0) (i := 0) (j := 0) (x' := (iadd .i64 r41 r45)) rfl rfl (lv_vl rfl rfl) rfl rfl hr47 rfl rfl rfl info3 rfl (H' := [(Rw (Ki .i64) 3 (Vs g13) (r31.set (0 : Int).toNat (iadd .i64 r41 r45))), ⟨.pointer (some q3), [(Vl (.int .i64 a0_0))], 57, none⟩]) rfl) rfl bs_nil (wt_none' rfl) fun _ => ?_
      refine px_nil' ?_
      show TX E K22 _
      refine tx_k' hK22 ?_
      refine cx_seq' fun K23 hK23 => ?_
      refine cx_plan' [] [(8, 1)] [(0, 1), (1, 1), (2, 1), (3, 1), (4, 1), (5, 1), (6, 1), (7, 1), (8, 0)] mixed (by kernel_rfl) ?_
      refine px_rd' rfl (rd_move' rfl) rfl rfl (wt_none' rfl) ?_
      obtain ⟨r49, hr49, hp⟩ := bind_some hp
      refine px_rd' rfl (rd_atr' (m := 0) rfl rfl rfl rfl hr49 Tryd.underlying34 info3) rfl rfl (wt_none' rfl) ?_
      refine px_rd' rfl (rd_loadr' rfl (m := 0) (i := 1) (j := 0) rfl rfl hr49 rfl rfl flat3) rfl rfl (wt_none' rfl) ?_
      refine px_rd' rfl (rd_move' rfl) rfl rfl (wt_none' rfl) ?_
      refine px_rd' rfl (rd_move' rfl) rfl rfl (wt_none' rfl) ?_
      obtain ⟨r53, hr53, hp⟩ := bind_some hp
      refine px_rd' rfl (rd_bin' rfl rfl eg_int (ru_shl hr53)) rfl rfl (wt_none' rfl) ?_
      refine px_rd' rfl (rd_bin' rfl rfl eg_int ru_add) rfl rfl (wt_none' rfl) ?_
      obtain ⟨r55, hr55, hp⟩ := bind_some hp
      refine px_rd' rfl (rd_atr' (m := 0) rfl rfl rfl rfl hr55 Tryd.underlying34 info3) rfl rfl (wt_none' rfl) ?_
      refine px_ox' rfl (ox_storer' (m := 0) (i := 1) (j := 0) (x' := (iadd .i64 r49 r53)) rfl rfl (lv_vl rfl rfl) rfl rfl hr55 rfl rfl rfl info3 rfl (H' := [(Rw (Ki .i64) 3 (Vs g13) ((r31.set (0 : Int).toNat (iadd .i64 r41 r45)).set (1 : Int).toNat (iadd .i64 r49 r53))), ⟨.pointer (some q3), [(Vl (.int .i64 a0_0))], 57, none⟩]) rfl) rfl bs_nil (wt_none' rfl) fun _ => ?_
      refine px_nil' ?_
      show TX E K23 _
      refine tx_k' hK23 ?_
      refine cx_region' ?_
      refine sx_rd' (rd_move' rfl) rfl rfl (wt_none' rfl) ?_
      obtain ⟨r57, hr57, hp⟩ := bind_some hp
      refine sx_rd' (rd_bin' rfl rfl eg_int (ru_shr hr57)) rfl rfl (wt_none' rfl) ?_
      refine sx_rd' (rd_assign' rfl) rfl rfl (wt_none' rfl) ?_
      refine sx_nil' ?_
      show TX E K17 _
      refine tx_k' hK17 ?_
      refine cx_region' ?_
      refine sx_rd' (rd_move' rfl) rfl rfl (wt_none' rfl) ?_
      refine sx_rd' (rd_bin' rfl rfl eg_int ru_add) rfl rfl (wt_none' rfl) ?_
      refine sx_rd' (rd_assign' rfl) rfl rfl (wt_none' rfl) ?_
      refine sx_nil' ?_
      show TX E (KY1 _) _
      exact tx_pick' [0, 1] (sub_cons rfl (sub_cons rfl (sub_cons rfl (sub_cons rfl sub_nil)))) (by decide) (pick_cons rfl (pick_cons rfl pick_nil)) (ih1 (((r31.set (0 : Int).toNat (iadd .i64 r41 r45)).set (1 : Int).toNat (iadd .i64 r49 r53)), r57, (iadd .i64 x3 1)) () _ hp)
    · replace hp := (br_f h3).symm.trans hp
      refine cx_exit' ?_
      replace hp := Option.some.inj hp
      subst hp
      show TX E (Zg E (Exit.exit 0) _ (Exit.exit 0)) _
      exact tx_zend' () rfl [0] (sub_cons rfl sub_nil) (by decide) (pick_cons rfl pick_nil)
  · refine zg_out fun w2 => ?_
    show TX E K4 _
    refine tx_k' hK4 ?_
    refine cx_seq' fun K24 hK24 => ?_
    refine cx_region' ?_
    refine sx_rd' (rd_move' rfl) rfl rfl (wt_none' rfl) ?_
    refine sx_rd' (rd_assign' rfl) rfl rfl (wt_none' rfl) ?_
    refine sx_nil' ?_
    show TX E K24 _
    refine tx_k' hK24 ?_
    refine cx_retc' ?_
    replace hp := Option.some.inj hp
    subst hp
    refine tx_fz' (frz_row 0 [(1, (Vl (Vs g13)), (Sl (Ki .i64) v2)), (58, (Vl (Vs g13)), (Sl (Ki .i64) v2)), (6, (Vl (Vs g13)), (Sl (Ki .i64) v2))] (K := (Ki .i64)) (xs := v2) (by decide) rfl ⟨⟨rfl, frz_it⟩, ⟨rfl, frz_it⟩, ⟨rfl, frz_it⟩, trivial⟩ (H' := []) frzH_refl) ?_
    refine tx_pick' (L' := [(6, (Sl (Ki .i64) v2))]) (H' := []) [] (sub_cons rfl sub_nil) (by decide) pick_nil ?_
    exact tx_ret1' Tryd.results28 rfl () (rv_tmp' rfl) (List.Sublist.refl _)

def curve_NewHilbert3D (k : Nat) (a0 : Int) : Option (Int) :=
  br (decide (a0 < 1))
    (none)
    (br (decide (64 ≤ (imul .i64 a0 3)))
      (none)
      (some a0))

theorem curve_NewHilbert3D_sim {k : Nat}  (a0 : Int) {out : Int} (hp : curve_NewHilbert3D k a0 = some out) : Go.Sx.Fn Tryd.prog 29 [(Vl (.int .i64 a0))] [] (fun w : Unit => (Tu [(Ag [(Vl (.int .i64 out))]), (Vl .nilIface)])) (fun w => []) := by
  unfold curve_NewHilbert3D at hp
  refine fn_of Tryd.func29 rfl Tryd.ntmps29 rfl fun E hM => ?_
  refine cx_seq' fun K1 hK1 => ?_
  refine cx_region' ?_
  refine sx_ox' (ox_alloc' info63 rfl rfl rfl rfl (l := [(Vl (.int .i64 0))]) rfl) (wt_none' rfl) fun q2 => ?_
  refine sx_rd' (rd_assign' rfl) rfl rfl (wt_none' rfl) ?_
  refine sx_nil' ?_
  show TX E K1 _
  refine tx_k' hK1 ?_
  refine cx_seq' fun K2 hK2 => ?_
  refine cx_region' ?_
  refine sx_rd' (rd_move' rfl) rfl rfl (wt_none' rfl) ?_
  refine sx_rd' (rd_build' (pls := [(0, 1)]) (qs := [(0, [(Vl (.int .i64 a0))])]) (r := [(Vl (.int .i64 a0))]) ⟨rfl, ⟨_, rfl, (lv_vl rfl rfl)⟩, trivial⟩ Tryd.underlying63 has63 places63 info63 rfl rfl rfl) rfl rfl (wt_none' rfl) ?_
  refine sx_ox' (ox_alloc' info63 rfl rfl rfl rfl (l := [(Vl (.int .i64 0))]) rfl) (wt_none' rfl) fun q4 => ?_
  refine sx_ox' (ox_store' (i := 0) (o := 0) rfl rfl (lv_ag _) ⟨rfl, rfl, rfl, rfl⟩ rfl info63 rfl (H' := [⟨.pointer (some q4), [(Vl (.int .i64 a0))], 63, none⟩, ⟨.pointer (some q2), [(Vl (.int .i64 0))], 63, none⟩]) rfl) (wt_none' rfl) fun _ => ?_
  refine sx_nil' ?_
  show TX E K2 _
  refine tx_k' hK2 ?_
  refine cx_seq' fun K3 hK3 => ?_
  refine cx_seq' fun K4 hK4 => ?_
  refine cx_region' ?_
  refine sx_rd' (rd_move' rfl) rfl rfl (wt_none' rfl) ?_
  refine sx_rd' (rd_bin' rfl rfl eg_int ru_lss) rfl rfl (wt_none' rfl) ?_
  refine sx_nil' ?_
  show TX E K4 _
  refine tx_k' hK4 ?_
  refine cx_cond' rfl (fun h1 => ?_) (fun h1 => ?_)
  · replace hp := (br_t h1).symm.trans hp
    cases hp
  · replace hp := (br_f h1).symm.trans hp
    refine cx_skip' ?_
    show TX E K3 _
    refine tx_k' hK3 ?_
    refine cx_seq' fun K6 hK6 => ?_
    refine cx_seq' fun K7 hK7 => ?_
    refine cx_region' ?_
    refine sx_rd' (rd_move' rfl) rfl rfl (wt_none' rfl) ?_
    refine sx_rd' (rd_bin' rfl rfl eg_int ru_mul) rfl rfl (wt_none' rfl) ?_
    refine sx_rd' (rd_bin' rfl rfl eg_int ru_geq) rfl rfl (wt_none' rfl) ?_
    refine sx_nil' ?_
    show TX E K7 _
    refine tx_k' hK7 ?_
    refine cx_cond' rfl (fun h2 => ?_) (fun h2 => ?_)
    · replace hp := (br_t h2).symm.trans hp
      cases hp
    · replace hp := (br_f h2).symm.trans hp
      refine cx_skip' ?_
      show TX E K6 _
      refine tx_k' hK6 ?_
      refine cx_seq' fun K9 hK9 => ?_
      refine cx_region' ?_
      refine sx_rd' (rd_load_agg' (i := 0) (o := 0) (nn := 1) rfl ⟨rfl, rfl, rfl, rfl⟩ rfl agg63 (l' := [(Vl (.int .i64 a0))]) rfl) rfl rfl (wt_none' rfl) ?_
      refine sx_ox' (ox_store' (i := 1) (o := 0) rfl rfl (lv_ag _) ⟨rfl, rfl, rfl, rfl⟩ rfl info63 rfl (H' := [⟨.pointer (some q4), [(Vl (.int .i64 a0))], 63, none⟩, ⟨.pointer (some q2), [(Vl (.int .i64 a0))], 63, none⟩]) rfl) (wt_none' rfl) fun _ => ?_
      refine sx_rd' (rd_assign' rfl) rfl rfl (wt_none' rfl) ?_
      refine sx_nil' ?_
      show TX E K9 _
      refine tx_k' hK9 ?_
      refine cx_retc' ?_
      replace hp := Option.some.inj hp
      subst hp
      refine tx_pick' (L' := [(2, (Vl (.pointer (some q2)))), (3, (Vl .nilIface))]) (H' := [⟨.pointer (some q2), [(Vl (.int .i64 a0))], 63, none⟩]) [1] (sub_cons rfl (sub_cons rfl sub_nil)) (by decide) (pick_cons rfl pick_nil) ?_
      exact tx_ret2' Tryd.results29 rfl () (rv_cell_agg' (i := 0) (o := 0) (nn := 1) rfl ⟨rfl, rfl, rfl, rfl⟩ rfl agg63 rfl) (rv_tmp' rfl) rfl (List.nil_sublist _)

def curve_swap (k : Nat) (a0 : Bool) (a1 : Int) (a2 : List Int) (a3_0 : Int) (a3_1 : Int) (a4_0 : Int) (a4_1 : Int) : Option ((List Int)) :=
  br a0
    ((curve_swap_do k a4_0 a4_1 a1 a2) >>= fun r15 =>
    (curve_swap_do k a3_0 a3_1 a1 r15) >>= fun r20 =>
    some r20)
    ((curve_swap_do k a3_0 a3_1 a1 a2) >>= fun r25 =>
    (curve_swap_do k a4_0 a4_1 a1 r25) >>= fun r30 =>
    some r30)

theorem curve_swap_sim {k : Nat} {wa2 : Gs} (a0 : Bool) (a1 : Int) (a2 : List Int) (a3_0 : Int) (a3_1 : Int) (a4_0 : Int) (a4_1 : Int) {out : (List Int)} (hp : curve_swap k a0 a1 a2 a3_0 a3_1 a4_0 a4_1 = some out) : Go.Sx.Fn Tryd.prog 46 [(Vl (.bool a0)), (Vl (.int .i64 a1)), (Vl (Vs wa2)), (Ag [(Vl (.int .i64 a3_0)), (Vl (.int .i64 a3_1))]), (Ag [(Vl (.int .i64 a4_0)), (Vl (.int .i64 a4_1))])] [(Rw (Ki .i64) 3 (Vs wa2) a2)] (fun w : Unit => (Vl (.tuple #[]))) (fun w => [(Rw (Ki .i64) 3 (Vs wa2) out)]) := by
  unfold curve_swap at hp
  refine fn_of Tryd.func46 rfl Tryd.ntmps46 rfl fun E hM => ?_
  refine cx_seq' fun K1 hK1 => ?_
  refine cx_region' ?_
  refine sx_ox' (ox_box' rfl (lv_ag _) rfl rfl) (wt_none' rfl) fun q8 => ?_
  refine sx_ox' (ox_box' rfl (lv_ag _) rfl rfl) (wt_none' rfl) fun q9 => ?_
  refine sx_nil' ?_
  show TX E K1 _
  refine tx_k' hK1 ?_
  refine cx_seq' fun K2 hK2 => ?_
  refine cx_region' ?_
  refine sx_rd' (rd_move' rfl) rfl rfl (wt_none' rfl) ?_
  refine sx_nil' ?_
  show TX E K2 _
  refine tx_k' hK2 ?_
  refine cx_cond' rfl (fun h1 => ?_) (fun h1 => ?_)
  · replace hp := (br_t h1).symm.trans hp
    refine cx_seq' fun K3 hK3 => ?_
    refine cx_region' ?_
    refine sx_rd' (rd_load_agg' (i := 0) (o := 0) (nn := 2) rfl ⟨rfl, rfl, rfl, rfl⟩ rfl agg86 (l' := [(Vl (.int .i64 a4_0)), (Vl (.int .i64 a4_1))]) rfl) rfl rfl (wt_none' rfl) ?_
    refine sx_rd' (rd_iface' rfl ⟨_, Tryd.underlying86, fun _ h => (nomatch h)⟩) rfl rfl (wt_none' rfl) ?_
    refine sx_rd' (rd_move' rfl) rfl rfl (wt_none' rfl) ?_
    refine sx_rd' (rd_move' rfl) rfl rfl (wt_none' rfl) ?_
    obtain ⟨r15, hr15, hp⟩ := bind_some hp
    refine sx_ox' (ox_callg' (ent_inv' rfl rfl (inv_any2 inv86_pub_orthodrome_pub_gonum_spatial_curve_do)) (curve_swap_do_sim _ _ _ _ hr15 : Go.Sx.Fn Tryd.prog 44 [(Ag [(Vl (.int .i64 a4_0)), (Vl (.int .i64 a4_1))]), (Vl (.int .i64 a1)), (Vl (Vs wa2))] [(Rw (Ki .i64) 3 (Vs wa2) a2)] (fun x : Unit => (Vl (.tuple #[]))) (fun x => [(Rw (Ki .i64) 3 (Vs wa2) r15)])) [2] [0, 1] (by decide) (pick_cons rfl pick_nil) (pick_cons rfl (pick_cons rfl pick_nil)) (Hn := fun x : Unit => [(Rw (Ki .i64) 3 (Vs wa2) r15), ⟨.pointer (some q9), [(Vl (.int .i64 a4_0)), (Vl (.int .i64 a4_1))], 86, none⟩, ⟨.pointer (some q8), [(Vl (.int .i64 a3_0)), (Vl (.int .i64 a3_1))], 86, none⟩]) (fun _ => rfl) rfl rfl) (wt_none' rfl) fun ⟨⟩ => ?_
    refine sx_nil' ?_
    show TX E K3 _
    refine tx_k' hK3 ?_
    refine cx_region' ?_
    refine sx_rd' (rd_load_agg' (i := 2) (o := 0) (nn := 2) rfl ⟨rfl, rfl, rfl, rfl⟩ rfl agg86 (l' := [(Vl (.int .i64 a3_0)), (Vl (.int .i64 a3_1))]) rfl) rfl rfl (wt_none' rfl) ?_
    refine sx_rd' (rd_iface' rfl ⟨_, Tryd.underlying86, fun _ h => (nomatch h)⟩) rfl rfl (wt_none' rfl) ?_
    refine sx_rd' (rd_move' rfl) rfl rfl (wt_none' rfl) ?_
    refine sx_rd' (rd_move' rfl) rfl rfl (wt_none' rfl) ?_
    obtain ⟨r20, hr20, hp⟩ := bind_some hp
    refine sx_ox' (ox_callg' (ent_inv' rfl rfl (inv_any2 inv86_pub_orthodrome_pub_gonum_spatial_curve_do)) (curve_swap_do_sim _ _ _ _ hr20 : Go.Sx.Fn Tryd.prog 44 [(Ag [(Vl (.int .i64 a3_0)), (Vl (.int .i64 a3_1))]), (Vl (.int .i64 a1)), (Vl (Vs wa2))] [(Rw (Ki .i64) 3 (Vs wa2) r15)] (fun x : Unit => (Vl (.tuple #[]))) (fun x => [(Rw (Ki .i64) 3 (Vs wa2) r20)])) [0] [1, 2] (by decide) (pick_cons rfl pick_nil) (pick_cons rfl (pick_cons rfl pick_nil)) (Hn := fun x : Unit => [(Rw (Ki .i64) 3 (Vs wa2) r20), ⟨.pointer (some q9), [(Vl (.int .i64 a4_0)), (Vl (.int .i64 a4_1))], 86, none⟩, ⟨.pointer (some q8), [(Vl (.int .i64 a3_0)), (Vl (.int .i64 a3_1))], 86, none⟩]) (fun _ => rfl) rfl rfl) (wt_none' rfl) fun ⟨⟩ => ?_
    refine sx_nil' ?_
    replace hp := Option.some.inj hp
    subst hp
    refine tx_pick' (L' := []) (H' := [(Rw (Ki .i64) 3 (Vs wa2) r20)]) [0] sub_nil (by decide) (pick_cons rfl pick_nil) ?_
    exact tx_end0' Tryd.results46 rfl () rfl (List.Sublist.refl _)
  · replace hp := (br_f h1).symm.trans hp
    refine cx_seq' fun K4 hK4 => ?_
    refine cx_region' ?_
    refine sx_rd' (rd_load_agg' (i := 1) (o := 0) (nn := 2) rfl ⟨rfl, rfl, rfl, rfl⟩ rfl agg86 (l' := [(Vl (.int .i64 a3_0)), (Vl (.int .i64 a3_1))]) rfl) rfl rfl (wt_none' rfl) ?_
    refine sx_rd' (rd_iface' rfl ⟨_, Tryd.underlying86, fun _ h => (nomatch h)⟩) rfl rfl (wt_none' rfl) ?_
    refine sx_rd' (rd_move' rfl) rfl rfl (wt_none' rfl) ?_
    refine sx_rd' (rd_move' rfl) rfl rfl (wt_none' rfl) ?_
    obtain ⟨r25, hr25, hp⟩ := bind_some hp
    refine sx_ox' (ox_callg' (ent_inv' rfl rfl (inv_any2 inv86_pub_orthodrome_pub_gonum_spatial_curve_do)) (curve_swap_do_sim _ _ _ _ hr25 : Go.Sx.Fn Tryd.prog 44 [(Ag [(Vl (.int .i64 a3_0)), (Vl (.int .i64 a3_1))]), (Vl (.int .i64 a1)), (Vl (Vs wa2))] [(Rw (Ki .i64) 3 (Vs wa2) a2)] (fun x : Unit => (Vl (.tuple #[]))) (fun x => [(Rw (Ki .i64) 3 (Vs wa2) r25)])) [2] [0, 1] (by decide) (pick_cons rfl pick_nil) (pick_cons rfl (pick_cons rfl pick_nil)) (Hn := fun x : Unit => [(Rw (Ki .i64) 3 (Vs wa2) r25), ⟨.pointer (some q9), [(Vl (.int .i64 a4_0)), (Vl (.int .i64 a4_1))], 86, none⟩, ⟨.pointer (some q8), [(Vl (.int .i64 a3_0)), (Vl (.int .i64 a3_1))], 86, none⟩]) (fun _ => rfl) rfl rfl) (wt_none' rfl) fun ⟨⟩ => ?_
    refine sx_nil' ?_
    show TX E K4 _
    refine tx_k' hK4 ?_
    refine cx_region' ?_
    refine sx_rd' (rd_load_agg' (i := 1) (o := 0) (nn := 2) rfl ⟨rfl, rfl, rfl, rfl⟩ rfl agg86 (l' := [(Vl (.int .i64 a4_0)), (Vl (.int .i64 a4_1))]) rfl) rfl rfl (wt_none' rfl) ?_
    refine sx_rd' (rd_iface' rfl ⟨_, Tryd.underlying86, fun _ h => (nomatch h)⟩) rfl rfl (wt_none' rfl) ?_
    refine sx_rd' (rd_move' rfl) rfl rfl (wt_none' rfl) ?_
    refine sx_rd' (rd_move' rfl) rfl rfl (wt_none' rfl) ?_
    obtain ⟨r30, hr30, hp⟩ := bind_some hp
    refine sx_ox' (ox_callg' (ent_inv' rfl rfl (inv_any2 inv86_pub_orthodrome_pub_gonum_spatial_curve_do)) (curve_swap_do_sim _ _ _ _ hr30 : Go.Sx.Fn Tryd.prog 44 [(Ag [(Vl (.int .i64 a4_0)), (Vl (.int .i64 a4_1))]), (Vl (.int .i64 a1)), (Vl (Vs wa2))] [(Rw (Ki .i64) 3 (Vs wa2) r25)] (fun x : Unit => (Vl (.tuple #[]))) (fun x => [(Rw (Ki .i64) 3 (Vs wa2) r30)])) [0] [1, 2] (by decide) (pick_cons rfl pick_nil) (pick_cons rfl (pick_cons rfl pick_nil)) (Hn := fun x : Unit => [(Rw (Ki .i64) 3 (Vs wa2) r30), ⟨.pointer (some q9), [(Vl (.int .i64 a4_0)), (Vl (.int .i64 a4_1))], 86, none⟩, ⟨.pointer (some q8), [(Vl (.int .i64 a3_0)), (Vl (.int .i64 a3_1))], 86, none⟩]) (fun _ => rfl) rfl rfl) (wt_none' rfl) fun ⟨⟩ => ?_
    refine sx_nil' ?_
    replace hp := Option.some.inj hp
    subst hp
    refine tx_pick' (L' := []) (H' := [(Rw (Ki .i64) 3 (Vs wa2) r30)]) [0] sub_nil (by decide) (pick_cons rfl pick_nil) ?_
    exact tx_end0' Tryd.results46 rfl () rfl (List.Sublist.refl _)

def curve_invert_do (k : Nat) (a0_0 : Int) (a0_1 : Int) (a1 : Int) (a2 : List Int) : Option ((List Int)) :=
  (idx a2 a0_0) >>= fun r15 =>
  (ishl .i64 1 a1) >>= fun r18 =>
  (idx a2 a0_1) >>= fun r24 =>
  (ishl .i64 1 a1) >>= fun r27 =>
  (idx a2 a0_0) >>= fun r30 =>
  (idx (a2.set a0_0.toNat (ixor .i64 r15 (isub .i64 r18 1))) a0_1) >>= fun r31 =>
  some ((a2.set a0_0.toNat (ixor .i64 r15 (isub .i64 r18 1))).set a0_1.toNat (ixor .i64 r24 (isub .i64 r27 1)))

theorem curve_invert_do_sim {k : Nat} {wa2 : Gs} (a0_0 : Int) (a0_1 : Int) (a1 : Int) (a2 : List Int) {out : (List Int)} (hp : curve_invert_do k a0_0 a0_1 a1 a2 = some out) : Go.Sx.Fn Tryd.prog 47 [(Ag [(Vl (.int .i64 a0_0)), (Vl (.int .i64 a0_1))]), (Vl (.int .i64 a1)), (Vl (Vs wa2))] [(Rw (Ki .i64) 3 (Vs wa2) a2)] (fun w : Unit => (Vl (.tuple #[]))) (fun w => [(Rw (Ki .i64) 3 (Vs wa2) out)]) := by
  unfold curve_invert_do at hp
  refine fn_of Tryd.func47 rfl Tryd.ntmps47 rfl fun E hM => ?_
  refine cx_seq' fun K1 hK1 => ?_
  refine cx_region' ?_
  refine sx_ox' (ox_box' rfl (lv_ag _) rfl rfl) (wt_none' rfl) fun q3 => ?_
  refine sx_nil' ?_
  show TX E K1 _
  refine tx_k' hK1 ?_
  refine cx_plan' [q3.block] [(25, 1), (27, 1)] [(0, 1), (1, 1), (2, 1), (3, 2), (4, 2), (5, 2), (6, 1), (7, 1), (8, 1), (9, 1), (10, 1), (11, 1), (12, 1), (13, 1), (14, 1), (15, 1), (16, 1), (17, 1), (18, 1), (19, 1), (20, 2), (21, 2), (22, 2), (23, 2), (24, 1), (25, 0), (26, 1), (27, 0)] mixed (by kernel_rfl) ?_
  refine px_rd' rfl (rd_move' rfl) rfl rfl (wt_none' rfl) ?_
  refine px_rd' rfl (rd_field0' rfl Tryd.underlying90 rfl info3 rfl) rfl rfl (wt_none' rfl) ?_
  refine px_rd' rfl (rd_load' (i := 0) (o := 0) rfl ⟨rfl, rfl, rfl, rfl⟩ rfl flat3) rfl rfl (wt_none' rfl) ?_
  refine px_rb' rfl (rb_move' rfl) rfl rfl (wt_none' rfl) ?_
  refine px_rb' rfl (rb_field' (off := 1) rfl Tryd.underlying90 rfl info3 rfl) rfl rfl (wt_none' rfl) ?_
  refine px_rb' rfl (rb_load' (i := 0) (o := 1) rfl ⟨rfl, rfl, rfl, rfl⟩ rfl flat3 (by simp)) rfl rfl (wt_none' rfl) ?_
  refine px_rd' rfl (rd_move' rfl) rfl rfl (wt_none' rfl) ?_
  refine px_rd' rfl (rd_field0' rfl Tryd.underlying90 rfl info3 rfl) rfl rfl (wt_none' rfl) ?_
  refine px_rd' rfl (rd_load' (i := 0) (o := 0) rfl ⟨rfl, rfl, rfl, rfl⟩ rfl flat3) rfl rfl (wt_none' rfl) ?_
  obtain ⟨r15, hr15, hp⟩ := bind_some hp
  refine px_rd' rfl (rd_atr' (m := 1) rfl rfl rfl rfl hr15 Tryd.underlying34 info3) rfl rfl (wt_none' rfl) ?_
  refine px_rd' rfl (rd_loadr' rfl (m := 1) (i := a0_0) (j := 0) rfl rfl hr15 rfl rfl flat3) rfl rfl (wt_none' rfl) ?_
  refine px_rd' rfl (rd_move' rfl) rfl rfl (wt_none' rfl) ?_
  obtain ⟨r18, hr18, hp⟩ := bind_some hp
  refine px_rd' rfl (rd_bin' rfl rfl eg_int (ru_shl hr18)) rfl rfl (wt_none' rfl) ?_
  refine px_rd' rfl (rd_bin' rfl rfl eg_int ru_sub) rfl rfl (wt_none' rfl) ?_
  refine px_rd' rfl (rd_bin' rfl rfl eg_int ru_xor) rfl rfl (wt_none' rfl) ?_
  refine px_rd' rfl (rd_move' rfl) rfl rfl (wt_none' rfl) ?_
  refine px_rd' rfl (rd_field' (off := 1) rfl Tryd.underlying90 rfl info3 rfl) rfl rfl (wt_none' rfl) ?_
  refine px_rd' rfl (rd_load' (i := 0) (o := 1) rfl ⟨rfl, rfl, rfl, rfl⟩ rfl flat3) rfl rfl (wt_none' rfl) ?_
  obtain ⟨r24, hr24, hp⟩ := bind_some hp
  refine px_rd' rfl (rd_atr' (m := 1) rfl rfl rfl rfl hr24 Tryd.underlying34 info3) rfl rfl (wt_none' rfl) ?_
  refine px_rd' rfl (rd_loadr' rfl (m := 1) (i := a0_1) (j := 0) rfl rfl hr24 rfl rfl flat3) rfl rfl (wt_none' rfl) ?_
  refine px_rb' rfl (rb_move' rfl) rfl rfl (wt_none' rfl) ?_
  obtain ⟨r27, hr27, hp⟩ := bind_some hp
  refine px_rb' rfl (rb_bin' rfl rfl eg_int (ru_shl hr27)) rfl rfl (wt_none' rfl) ?_
  refine px_rb' rfl (rb_bin' rfl rfl eg_int ru_sub) rfl rfl (wt_none' rfl) ?_
  refine px_rb' rfl (rb_bin' rfl rfl eg_int ru_xor) rfl rfl (wt_none' rfl) ?_
  obtain ⟨r30, hr30, hp⟩ := bind_some hp
  refine px_rd' rfl (rd_atr' (m := 1) rfl rfl rfl rfl hr30 Tryd.underlying34 info3) rfl rfl (wt_none' rfl) ?_
  refine px_ox' rfl (ox_storer' (m := 1) (i := a0_0) (j := 0) (x' := (ixor .i64 r15 (isub .i64 r18 1))) rfl rfl (lv_vl rfl rfl) rfl rfl hr30 rfl rfl rfl info3 rfl (H' := [⟨.pointer (some q3), [(Vl (.int .i64 a0_0)), (Vl (.int .i64 a0_1))], 90, none⟩, (Rw (Ki .i64) 3 (Vs wa2) (a2.set a0_0.toNat (ixor .i64 r15 (isub .i64 r18 1))))]) rfl) rfl (bs_cons (m := 0) rfl rfl rfl bs_nil) (wt_none' rfl) fun _ => ?_
  obtain ⟨r31, hr31, hp⟩ := bind_some hp
  refine px_rd' rfl (rd_atr' (m := 1) rfl rfl rfl rfl hr31 Tryd.underlying34 info3) rfl rfl (wt_none' rfl) ?_
  refine px_ox' rfl (ox_storer' (m := 1) (i := a0_1) (j := 0) (x' := (ixor .i64 r24 (isub .i64 r27 1))) rfl rfl (lv_vl rfl rfl) rfl rfl hr31 rfl rfl rfl info3 rfl (H' := [⟨.pointer (some q3), [(Vl (.int .i64 a0_0)), (Vl (.int .i64 a0_1))], 90, none⟩, (Rw (Ki .i64) 3 (Vs wa2) ((a2.set a0_0.toNat (ixor .i64 r15 (isub .i64 r18 1))).set a0_1.toNat (ixor .i64 r24 (isub .i64 r27 1))))]) rfl) rfl (bs_cons (m := 0) rfl rfl rfl bs_nil) (wt_none' rfl) fun _ => ?_
  refine px_nil' ?_
  replace hp := Option.some.inj hp
  subst hp
  refine tx_pick' (L' := []) (H' := [(Rw (Ki .i64) 3 (Vs wa2) ((a2.set a0_0.toNat (ixor .i64 r15 (isub .i64 r18 1))).set a0_1.toNat (ixor .i64 r24 (isub .i64 r27 1))))]) [1] sub_nil (by decide) (pick_cons rfl pick_nil) ?_
  exact tx_end0' Tryd.results47 rfl () rfl (List.Sublist.refl _)

def curve_flip (k : Nat) (a0 : Bool) (a1 : Int) (a2 : List Int) (a3_0 : Int) (a3_1 : Int) (a4_0 : Int) (a4_1 : Int) : Option ((List Int)) :=
  br a0
    ((curve_flip_do k a4_0 a4_1 a1 a2) >>= fun r15 =>
    (curve_flip_do k a3_0 a3_1 a1 r15) >>= fun r20 =>
    some r20)
    ((curve_flip_do k a3_0 a3_1 a1 a2) >>= fun r25 =>
    (curve_flip_do k a4_0 a4_1 a1 r25) >>= fun r30 =>
    some r30)

theorem curve_flip_sim {k : Nat} {wa2 : Gs} (a0 : Bool) (a1 : Int) (a2 : List Int) (a3_0 : Int) (a3_1 : Int) (a4_0 : Int) (a4_1 : Int) {out : (List Int)} (hp : curve_flip k a0 a1 a2 a3_0 a3_1 a4_0 a4_1 = some out) : Go.Sx.Fn Tryd.prog 48 [(Vl (.bool a0)), (Vl (.int .i64 a1)), (Vl (Vs wa2)), (Ag [(Vl (.int .i64 a3_0)), (Vl (.int .i64 a3_1))]), (Ag [(Vl (.int .i64 a4_0)), (Vl (.int .i64 a4_1))])] [(Rw (Ki .i64) 3 (Vs wa2) a2)] (fun w : Unit => (Vl (.tuple #[]))) (fun w => [(Rw (Ki .i64) 3 (Vs wa2) out)]) := by
  unfold curve_flip at hp
  refine fn_of Tryd.func48 rfl Tryd.ntmps48 rfl fun E hM => ?_
  refine cx_seq' fun K1 hK1 => ?_
  refine cx_region' ?_
  refine sx_ox' (ox_box' rfl (lv_ag _) rfl rfl) (wt_none' rfl) fun q8 => ?_
  refine sx_ox' (ox_box' rfl (lv_ag _) rfl rfl) (wt_none' rfl) fun q9 => ?_
  refine sx_nil' ?_
  show TX E K1 _
  refine tx_k' hK1 ?_
  refine cx_seq' fun K2 hK2 => ?_
  refine cx_region' ?_
  refine sx_rd' (rd_move' rfl) rfl rfl (wt_none' rfl) ?_
  refine sx_nil' ?_
  show TX E K2 _
  refine tx_k' hK2 ?_
  refine cx_cond' rfl (fun h1 => ?_) (fun h1 => ?_)
  · replace hp := (br_t h1).symm.trans hp
    refine cx_seq' fun K3 hK3 => ?_
    refine cx_region' ?_
    refine sx_rd' (rd_load_agg' (i := 0) (o := 0) (nn := 2) rfl ⟨rfl, rfl, rfl, rfl⟩ rfl agg88 (l' := [(Vl (.int .i64 a4_0)), (Vl (.int .i64 a4_1))]) rfl) rfl rfl (wt_none' rfl) ?_
    refine sx_rd' (rd_iface' rfl ⟨_, Tryd.underlying88, fun _ h => (nomatch h)⟩) rfl rfl (wt_none' rfl) ?_
    refine sx_rd' (rd_move' rfl) rfl rfl (wt_none' rfl) ?_
    refine sx_rd' (rd_move' rfl) rfl rfl (wt_none' rfl) ?_
    obtain ⟨r15, hr15, hp⟩ := bind_some hp
    refine sx_ox' (ox_callg' (ent_inv' rfl rfl (inv_any2 inv88_pub_orthodrome_pub_gonum_spatial_curve_do)) (curve_flip_do_sim _ _ _ _ hr15 : Go.Sx.Fn Tryd.prog 45 [(Ag [(Vl (.int .i64 a4_0)), (Vl (.int .i64 a4_1))]), (Vl (.int .i64 a1)), (Vl (Vs wa2))] [(Rw (Ki .i64) 3 (Vs wa2) a2)] (fun x : Unit => (Vl (.tuple #[]))) (fun x => [(Rw (Ki .i64) 3 (Vs wa2) r15)])) [2] [0, 1] (by decide) (pick_cons rfl pick_nil) (pick_cons rfl (pick_cons rfl pick_nil)) (Hn := fun x : Unit => [(Rw (Ki .i64) 3 (Vs wa2) r15), ⟨.pointer (some q9), [(Vl (.int .i64 a4_0)), (Vl (.int .i64 a4_1))], 88, none⟩, ⟨.pointer (some q8), [(Vl (.int .i64 a3_0)), (Vl (.int .i64 a3_1))], 88, none⟩]) (fun _ => rfl) rfl rfl) (wt_none' rfl) fun ⟨⟩ => ?_
    refine sx_nil' ?_
    show TX E K3 _
    refine tx_k' hK3 ?_
    refine cx_region' ?_
    refine sx_rd' (rd_load_agg' (i := 2) (o := 0) (nn := 2) rfl ⟨rfl, rfl, rfl, rfl⟩ rfl agg88 (l' := [(Vl (.int .i64 a3_0)), (Vl (.int .i64 a3_1))]) rfl) rfl rfl (wt_none' rfl) ?_
    refine sx_rd' (rd_iface' rfl ⟨_, Tryd.underlying88, fun _ h => (nomatch h)⟩) rfl rfl (wt_none' rfl) ?_
    refine sx_rd' (rd_move' rfl) rfl rfl (wt_none' rfl) ?_
    refine sx_rd' (rd_move' rfl) rfl rfl (wt_none' rfl) ?_
    obtain ⟨r20, hr20, hp⟩ := bind_some hp
    refine sx_ox' (ox_callg' (ent_inv' rfl rfl (inv_any2 inv88_pub_orthodrome_pub_gonum_spatial_curve_do)) (curve_flip_do_sim _ _ _ _ hr20 : Go.Sx.Fn Tryd.prog 45 [(Ag [(Vl (.int .i64 a3_0)), (Vl (.int .i64 a3_1))]), (Vl (.int .i64 a1)), (Vl (Vs wa2))] [(Rw (Ki .i64) 3 (Vs wa2) r15)] (fun x : Unit => (Vl (.tuple #[]))) (fun x => [(Rw (Ki .i64) 3 (Vs wa2) r20)])) [0] [1, 2] (by decide) (pick_cons rfl pick_nil) (pick_cons rfl (pick_cons rfl pick_nil)) (Hn := fun x : Unit => [(Rw (Ki .i64) 3 (Vs wa2) r20), ⟨.pointer (some q9), [(Vl (.int .i64 a4_0)), (Vl (.int .i64 a4_1))], 88, none⟩, ⟨.pointer (some q8), [(Vl (.int .i64 a3_0)), (Vl (.int .i64 a3_1))], 88, none⟩]) (fun _ => rfl) rfl rfl) (wt_none' rfl) fun ⟨⟩ => ?_
    refine sx_nil' ?_
    replace hp := Option.some.inj hp
    subst hp
    refine tx_pick' (L' := []) (H' := [(Rw (Ki .i64) 3 (Vs wa2) r20)]) [0] sub_nil (by decide) (pick_cons rfl pick_nil) ?_
    exact tx_end0' Tryd.results48 rfl () rfl (List.Sublist.refl _)
  · replace hp := (br_f h1).symm.trans hp
    refine cx_seq' fun K4 hK4 => ?_
    refine cx_region' ?_
    refine sx_rd' (rd_load_agg' (i := 1) (o := 0) (nn := 2) rfl ⟨rfl, rfl, rfl, rfl⟩ rfl agg88 (l' := [(Vl (.int .i64 a3_0)), (Vl (.int .i64 a3_1))]) rfl) rfl rfl (wt_none' rfl) ?_
    refine sx_rd' (rd_iface' rfl ⟨_, Tryd.underlying88, fun _ h => (nomatch h)⟩) rfl rfl (wt_none' rfl) ?_
    refine sx_rd' (rd_move' rfl) rfl rfl (wt_none' rfl) ?_
    refine sx_rd' (rd_move' rfl) rfl rfl (wt_none' rfl) ?_
    obtain ⟨r25, hr25, hp⟩ := bind_some hp
    refine sx_ox' (ox_callg' (ent_inv' rfl rfl (inv_any2 inv88_pub_orthodrome_pub_gonum_spatial_curve_do)) (curve_flip_do_sim _ _ _ _ hr25 : Go.Sx.Fn Tryd.prog 45 [(Ag [(Vl (.int .i64 a3_0)), (Vl (.int .i64 a3_1))]), (Vl (.int .i64 a1)), (Vl (Vs wa2))] [(Rw (Ki .i64) 3 (Vs wa2) a2)] (fun x : Unit => (Vl (.tuple #[]))) (fun x => [(Rw (Ki .i64) 3 (Vs wa2) r25)])) [2] [0, 1] (by decide) (pick_cons rfl pick_nil) (pick_cons rfl (pick_cons rfl pick_nil)) (Hn := fun x : Unit => [(Rw (Ki .i64) 3 (Vs wa2) r25), ⟨.pointer (some q9), [(Vl (.int .i64 a4_0)), (Vl (.int .i64 a4_1))], 88, none⟩, ⟨.pointer (some q8), [(Vl (.int .i64 a3_0)), (Vl (.int .i64 a3_1))], 88, none⟩]) (fun _ => rfl) rfl rfl) (wt_none' rfl) fun ⟨⟩ => ?_
    refine sx_nil' ?_
    show TX E K4 _
    refine tx_k' hK4 ?_
    refine cx_region' ?_
    refine sx_rd' (rd_load_agg' (i := 1) (o := 0) (nn := 2) rfl ⟨rfl, rfl, rfl, rfl⟩ rfl agg88 (l' := [(Vl (.int .i64 a4_0)), (Vl (.int .i64 a4_1))]) rfl) rfl rfl (wt_none' rfl) ?_
    refine sx_rd' (rd_iface' rfl ⟨_, Tryd.underlying88, fun _ h => (nomatch h)⟩) rfl rfl (wt_none' rfl) ?_
    refine sx_rd' (rd_move' rfl) rfl rfl (wt_none' rfl) ?_
    refine sx_rd' (rd_move' rfl) rfl rfl (wt_none' rfl) ?_
    obtain ⟨r30, hr30, hp⟩ := bind_some hp
    refine sx_ox' (ox_callg' (ent_inv' rfl rfl (inv_any2 inv88_pub_orthodrome_pub_gonum_spatial_curve_do)) (curve_flip_do_sim _ _ _ _ hr30 : Go.Sx.Fn Tryd.prog 45 [(Ag [(Vl (.int .i64 a4_0)), (Vl (.int .i64 a4_1))]), (Vl (.int .i64 a1)), (Vl (Vs wa2))] [(Rw (Ki .i64) 3 (Vs wa2) r25)] (fun x : Unit => (Vl (.tuple #[]))) (fun x => [(Rw (Ki .i64) 3 (Vs wa2) r30)])) [0] [1, 2] (by decide) (pick_cons rfl pick_nil) (pick_cons rfl (pick_cons rfl pick_nil)) (Hn := fun x : Unit => [(Rw (Ki .i64) 3 (Vs wa2) r30), ⟨.pointer (some q9), [(Vl (.int .i64 a4_0)), (Vl (.int .i64 a4_1))], 88, none⟩, ⟨.pointer (some q8), [(Vl (.int .i64 a3_0)), (Vl (.int .i64 a3_1))], 88, none⟩]) (fun _ => rfl) rfl rfl) (wt_none' rfl) fun ⟨⟩ => ?_
    refine sx_nil' ?_
    replace hp := Option.some.inj hp
    subst hp
    refine tx_pick' (L' := []) (H' := [(Rw (Ki .i64) 3 (Vs wa2) r30)]) [0] sub_nil (by decide) (pick_cons rfl pick_nil) ?_
    exact tx_end0' Tryd.results48 rfl () rfl (List.Sublist.refl _)

def curve_Hilbert3D_rot_j3 (k : Nat) (a1 : Bool) (a2 : Int) (a3 : List Int) (a4 : Int) (x3 : Bool) : Option ((List Int)) :=
  br x3
    ((curve_flip k a1 a2 a3 0 2 1 2) >>= fun r43 =>
    some r43)
    (br (decide (a4 = 7))
      ((curve_flip k a1 a2 a3 1 2 0 2) >>= fun r51 =>
      some r51)
      (some a3))
def curve_Hilbert3D_rot_j2 (k : Nat) (a2 : Int) (a3 : List Int) (a4 : Int) (a1 : Bool) (x2 : Bool) : Option ((List Int)) :=
  br x2
    ((curve_invert_do k 0 1 a2 a3) >>= fun r34 =>
    some r34)
    (br (decide (a4 = 5))
      (curve_Hilbert3D_rot_j3 k a1 a2 a3 a4 (decide (a4 = 5)))
      (curve_Hilbert3D_rot_j3 k a1 a2 a3 a4 (decide (a4 = 6))))
def curve_Hilbert3D_rot_j1 (k : Nat) (a1 : Bool) (a2 : Int) (a3 : List Int) (a4 : Int) (x1 : Bool) : Option ((List Int)) :=
  br x1
    ((curve_swap k a1 a2 a3 0 2 1 2) >>= fun r27 =>
    some r27)
    (br (decide (a4 = 3))
      (curve_Hilbert3D_rot_j2 k a2 a3 a4 a1 (decide (a4 = 3)))
      (curve_Hilbert3D_rot_j2 k a2 a3 a4 a1 (decide (a4 = 4))))
def curve_Hilbert3D_rot (k : Nat) (a0_0 : Int) (a1 : Bool) (a2 : Int) (a3 : List Int) (a4 : Int) : Option ((List Int)) :=
  br (decide (a4 = 0))
    ((curve_swap k a1 a2 a3 1 2 0 2) >>= fun r18 =>
    some r18)
    (br (decide (a4 = 1))
      (curve_Hilbert3D_rot_j1 k a1 a2 a3 a4 (decide (a4 = 1)))
      (curve_Hilbert3D_rot_j1 k a1 a2 a3 a4 (decide (a4 = 2))))

theorem curve_Hilbert3D_rot_sim {k : Nat} {wa3 : Gs} (a0_0 : Int) (a1 : Bool) (a2 : Int) (a3 : List Int) (a4 : Int) {out : (List Int)} (hp : curve_Hilbert3D_rot k a0_0 a1 a2 a3 a4 = some out) : Go.Sx.Fn Tryd.prog 39 [(Ag [(Vl (.int .i64 a0_0))]), (Vl (.bool a1)), (Vl (.int .i64 a2)), (Vl (Vs wa3)), (Vl (.int .i64 a4))] [(Rw (Ki .i64) 3 (Vs wa3) a3)] (fun w : Unit => (Vl (.tuple #[]))) (fun w => [(Rw (Ki .i64) 3 (Vs wa3) out)]) := by
  unfold curve_Hilbert3D_rot at hp
  refine fn_of Tryd.func39 rfl Tryd.ntmps39 rfl fun E hM => ?_
  refine cx_seq' fun K1 hK1 => ?_
  refine cx_region' ?_
  refine sx_ox' (ox_box' rfl (lv_ag _) rfl rfl) (wt_none' rfl) fun q5 => ?_
  refine sx_nil' ?_
  show TX E K1 _
  refine tx_k' hK1 ?_
  refine cx_seq' fun K2 hK2 => ?_
  refine cx_region' ?_
  refine sx_rd' (rd_move' rfl) rfl rfl (wt_none' rfl) ?_
  refine sx_nil' ?_
  show TX E K2 _
  refine tx_k' hK2 ?_
  refine cx_block' ?_
  refine cx_seq' fun K3 hK3 => ?_
  refine cx_region' ?_
  refine sx_rd' (rd_bin' rfl rfl eg_int ru_eql) rfl rfl (wt_none' rfl) ?_
  refine sx_rd' (rd_assign' rfl) rfl rfl (wt_none' rfl) ?_
  refine sx_nil' ?_
  show TX E K3 _
  refine tx_k' hK3 ?_
  refine cx_cond' rfl (fun h1 => ?_) (fun h1 => ?_)
  · replace hp := (br_t h1).symm.trans hp
    refine cx_region' ?_
    refine sx_rd' (rd_move' rfl) rfl rfl (wt_none' rfl) ?_
    refine sx_rd' (rd_move' rfl) rfl rfl (wt_none' rfl) ?_
    refine sx_rd' (rd_move' rfl) rfl rfl (wt_none' rfl) ?_
    refine sx_rd' (rd_build' (pls := [(0, 1), (1, 1)]) (qs := [(0, [(Vl (.int .i64 1))]), (1, [(Vl (.int .i64 2))])]) (r := [(Vl (.int .i64 1)), (Vl (.int .i64 2))]) ⟨rfl, ⟨_, rfl, (lv_vl rfl rfl)⟩, ⟨rfl, ⟨_, rfl, (lv_vl rfl rfl)⟩, trivial⟩⟩ Tryd.underlying86 has86 places86 info86 rfl rfl rfl) rfl rfl (wt_none' rfl) ?_
    refine sx_rd' (rd_build' (pls := [(0, 1), (1, 1)]) (qs := [(0, [(Vl (.int .i64 0))]), (1, [(Vl (.int .i64 2))])]) (r := [(Vl (.int .i64 0)), (Vl (.int .i64 2))]) ⟨rfl, ⟨_, rfl, (lv_vl rfl rfl)⟩, ⟨rfl, ⟨_, rfl, (lv_vl rfl rfl)⟩, trivial⟩⟩ Tryd.underlying86 has86 places86 info86 rfl rfl rfl) rfl rfl (wt_none' rfl) ?_
    obtain ⟨r18, hr18, hp⟩ := bind_some hp
    refine sx_ox' (ox_callg' (ent_fn' Tryd.func46 isn46 rfl rfl) (curve_swap_sim _ _ _ _ _ _ _ hr18 : Go.Sx.Fn Tryd.prog 46 [(Vl (.bool a1)), (Vl (.int .i64 a2)), (Vl (Vs wa3)), (Ag [(Vl (.int .i64 1)), (Vl (.int .i64 2))]), (Ag [(Vl (.int .i64 0)), (Vl (.int .i64 2))])] [(Rw (Ki .i64) 3 (Vs wa3) a3)] (fun x : Unit => (Vl (.tuple #[]))) (fun x => [(Rw (Ki .i64) 3 (Vs wa3) r18)])) [1] [0] (by decide) (pick_cons rfl pick_nil) (pick_cons rfl pick_nil) (Hn := fun x : Unit => [(Rw (Ki .i64) 3 (Vs wa3) r18), ⟨.pointer (some q5), [(Vl (.int .i64 a0_0))], 63, none⟩]) (fun _ => rfl) rfl rfl) (wt_none' rfl) fun ⟨⟩ => ?_
    refine sx_nil' ?_
    replace hp := Option.some.inj hp
    subst hp
    refine tx_pick' (L' := []) (H' := [(Rw (Ki .i64) 3 (Vs wa3) r18)]) [0] sub_nil (by decide) (pick_cons rfl pick_nil) ?_
    exact tx_end0' Tryd.results39 rfl () rfl (List.Sublist.refl _)
  · replace hp := (br_f h1).symm.trans hp
    refine cx_join' (fun (v1 : Bool) => (⟨52, [], [(1, (Vl (.bool a1))), (2, (Vl (.int .i64 a2))), (3, (Vl (Vs wa3))), (10, (Vl (.int .i64 a4))), (19, (Vl (.bool v1)))], [(Rw (Ki .i64) 3 (Vs wa3) a3)]⟩ : St)) (fun (v1 : Bool) => curve_Hilbert3D_rot_j1 k a1 a2 a3 a4 v1 = some out) ?_ ?_
    · rintro x1 hp
      replace hp : curve_Hilbert3D_rot_j1 k a1 a2 a3 a4 x1 = some out := hp
      unfold curve_Hilbert3D_rot_j1 at hp
      refine cx_cond' rfl (fun h3 => ?_) (fun h3 => ?_)
      · replace hp := (br_t h3).symm.trans hp
        refine cx_region' ?_
        refine sx_rd' (rd_move' rfl) rfl rfl (wt_none' rfl) ?_
        refine sx_rd' (rd_move' rfl) rfl rfl (wt_none' rfl) ?_
        refine sx_rd' (rd_move' rfl) rfl rfl (wt_none' rfl) ?_
        refine sx_rd' (rd_build' (pls := [(0, 1), (1, 1)]) (qs := [(0, [(Vl (.int .i64 0))]), (1, [(Vl (.int .i64 2))])]) (r := [(Vl (.int .i64 0)), (Vl (.int .i64 2))]) ⟨rfl, ⟨_, rfl, (lv_vl rfl rfl)⟩, ⟨rfl, ⟨_, rfl, (lv_vl rfl rfl)⟩, trivial⟩⟩ Tryd.underlying86 has86 places86 info86 rfl rfl rfl) rfl rfl (wt_none' rfl) ?_
        refine sx_rd' (rd_build' (pls := [(0, 1), (1, 1)]) (qs := [(0, [(Vl (.int .i64 1))]), (1, [(Vl (.int .i64 2))])]) (r := [(Vl (.int .i64 1)), (Vl (.int .i64 2))]) ⟨rfl, ⟨_, rfl, (lv_vl rfl rfl)⟩, ⟨rfl, ⟨_, rfl, (lv_vl rfl rfl)⟩, trivial⟩⟩ Tryd.underlying86 has86 places86 info86 rfl rfl rfl) rfl rfl (wt_none' rfl) ?_
        obtain ⟨r27, hr27, hp⟩ := bind_some hp
        refine sx_ox' (ox_callg' (ent_fn' Tryd.func46 isn46 rfl rfl) (curve_swap_sim _ _ _ _ _ _ _ hr27 : Go.Sx.Fn Tryd.prog 46 [(Vl (.bool a1)), (Vl (.int .i64 a2)), (Vl (Vs wa3)), (Ag [(Vl (.int .i64 0)), (Vl (.int .i64 2))]), (Ag [(Vl (.int .i64 1)), (Vl (.int .i64 2))])] [(Rw (Ki .i64) 3 (Vs wa3) a3)] (fun x : Unit => (Vl (.tuple #[]))) (fun x => [(Rw (Ki .i64) 3 (Vs wa3) r27)])) [0] [] (by decide) (pick_cons rfl pick_nil) pick_nil (Hn := fun x : Unit => [(Rw (Ki .i64) 3 (Vs wa3) r27)]) (fun _ => rfl) rfl rfl) (wt_none' rfl) fun ⟨⟩ => ?_
        refine sx_nil' ?_
        replace hp := Option.some.inj hp
        subst hp
        refine tx_pick' (L' := []) (H' := [(Rw (Ki .i64) 3 (Vs wa3) r27)]) [0] sub_nil (by decide) (pick_cons rfl pick_nil) ?_
        exact tx_end0' Tryd.results39 rfl () rfl (List.Sublist.refl _)
      · replace hp := (br_f h3).symm.trans hp
        refine cx_join' (fun (v2 : Bool) => (⟨52, [], [(1, (Vl (.bool a1))), (2, (Vl (.int .i64 a2))), (3, (Vl (Vs wa3))), (10, (Vl (.int .i64 a4))), (28, (Vl (.bool v2)))], [(Rw (Ki .i64) 3 (Vs wa3) a3)]⟩ : St)) (fun (v2 : Bool) => curve_Hilbert3D_rot_j2 k a2 a3 a4 a1 v2 = some out) ?_ ?_
        · rintro x2 hp
          replace hp : curve_Hilbert3D_rot_j2 k a2 a3 a4 a1 x2 = some out := hp
          unfold curve_Hilbert3D_rot_j2 at hp
          refine cx_cond' rfl (fun h5 => ?_) (fun h5 => ?_)
          · replace hp := (br_t h5).symm.trans hp
            refine cx_region' ?_
            refine sx_rd' (rd_build' (pls := [(0, 1), (1, 1)]) (qs := [(0, [(Vl (.int .i64 0))]), (1, [(Vl (.int .i64 1))])]) (r := [(Vl (.int .i64 0)), (Vl (.int .i64 1))]) ⟨rfl, ⟨_, rfl, (lv_vl rfl rfl)⟩, ⟨rfl, ⟨_, rfl, (lv_vl rfl rfl)⟩, trivial⟩⟩ Tryd.underlying90 has90 places90 info90 rfl rfl rfl) rfl rfl (wt_none' rfl) ?_
            refine sx_rd' (rd_move' rfl) rfl rfl (wt_none' rfl) ?_
            refine sx_rd' (rd_move' rfl) rfl rfl (wt_none' rfl) ?_
            obtain ⟨r34, hr34, hp⟩ := bind_some hp
            refine sx_ox' (ox_callg' (ent_fn' Tryd.func47 isn47 rfl rfl) (curve_invert_do_sim _ _ _ _ hr34 : Go.Sx.Fn Tryd.prog 47 [(Ag [(Vl (.int .i64 0)), (Vl (.int .i64 1))]), (Vl (.int .i64 a2)), (Vl (Vs wa3))] [(Rw (Ki .i64) 3 (Vs wa3) a3)] (fun x : Unit => (Vl (.tuple #[]))) (fun x => [(Rw (Ki .i64) 3 (Vs wa3) r34)])) [0] [] (by decide) (pick_cons rfl pick_nil) pick_nil (Hn := fun x : Unit => [(Rw (Ki .i64) 3 (Vs wa3) r34)]) (fun _ => rfl) rfl rfl) (wt_none' rfl) fun ⟨⟩ => ?_
            refine sx_nil' ?_
            replace hp := Option.some.inj hp
            subst hp
            refine tx_pick' (L' := []) (H' := [(Rw (Ki .i64) 3 (Vs wa3) r34)]) [0] sub_nil (by decide) (pick_cons rfl pick_nil) ?_
            exact tx_end0' Tryd.results39 rfl () rfl (List.Sublist.refl _)
          · replace hp := (br_f h5).symm.trans hp
            refine cx_join' (fun (v3 : Bool) => (⟨52, [], [(1, (Vl (.bool a1))), (2, (Vl (.int .i64 a2))), (3, (Vl (Vs wa3))), (10, (Vl (.int .i64 a4))), (35, (Vl (.bool v3)))], [(Rw (Ki .i64) 3 (Vs wa3) a3)]⟩ : St)) (fun (v3 : Bool) => curve_Hilbert3D_rot_j3 k a1 a2 a3 a4 v3 = some out) ?_ ?_
            · rintro x3 hp
              replace hp : curve_Hilbert3D_rot_j3 k a1 a2 a3 a4 x3 = some out := hp
              unfold curve_Hilbert3D_rot_j3 at hp
              refine cx_cond' rfl (fun h7 => ?_) (fun h7 => ?_)
              · replace hp := (br_t h7).symm.trans hp
                refine cx_region' ?_
                refine sx_rd' (rd_move' rfl) rfl rfl (wt_none' rfl) ?_
                refine sx_rd' (rd_move' rfl) rfl rfl (wt_none' rfl) ?_
                refine sx_rd' (rd_move' rfl) rfl rfl (wt_none' rfl) ?_
                refine sx_rd' (rd_build' (pls := [(0, 1), (1, 1)]) (qs := [(0, [(Vl (.int .i64 0))]), (1, [(Vl (.int .i64 2))])]) (r := [(Vl (.int .i64 0)), (Vl (.int .i64 2))]) ⟨rfl, ⟨_, rfl, (lv_vl rfl rfl)⟩, ⟨rfl, ⟨_, rfl, (lv_vl rfl rfl)⟩, trivial⟩⟩ Tryd.underlying88 has88 places88 info88 rfl rfl rfl) rfl rfl (wt_none' rfl) ?_
                refine sx_rd' (rd_build' (pls := [(0, 1), (1, 1)]) (qs := [(0, [(Vl (.int .i64 1))]), (1, [(Vl (.int .i64 2))])]) (r := [(Vl (.int .i64 1)), (Vl (.int .i64 2))]) ⟨rfl, ⟨_, rfl, (lv_vl rfl rfl)⟩, ⟨rfl, ⟨_, rfl, (lv_vl rfl rfl)⟩, trivial⟩⟩ Tryd.underlying88 has88 places88 info88 rfl rfl rfl) rfl rfl (wt_none' rfl) ?_
                obtain ⟨r43, hr43, hp⟩ := bind_some hp
                refine sx_ox' (ox_callg' (ent_fn' Tryd.func48 isn48 rfl rfl) (curve_flip_sim _ _ _ _ _ _ _ hr43 : Go.Sx.Fn Tryd.prog 48 [(Vl (.bool a1)), (Vl (.int .i64 a2)), (Vl (Vs wa3)), (Ag [(Vl (.int .i64 0)), (Vl (.int .i64 2))]), (Ag [(Vl (.int .i64 1)), (Vl (.int .i64 2))])] [(Rw (Ki .i64) 3 (Vs wa3) a3)] (fun x : Unit => (Vl (.tuple #[]))) (fun x => [(Rw (Ki .i64) 3 (Vs wa3) r43)])) [0] [] (by decide) (pick_cons rfl pick_nil) pick_nil (Hn := fun x : Unit => [(Rw (Ki .i64) 3 (Vs wa3) r43)]) (fun _ => rfl) rfl rfl) (wt_none' rfl) fun ⟨⟩ => ?_
                refine sx_nil' ?_
                replace hp := Option.some.inj hp
                subst hp
                refine tx_pick' (L' := []) (H' := [(Rw (Ki .i64) 3 (Vs wa3) r43)]) [0] sub_nil (by decide) (pick_cons rfl pick_nil) ?_
                exact tx_end0' Tryd.results39 rfl () rfl (List.Sublist.refl _)
              · replace hp := (br_f h7).symm.trans hp
                refine cx_seq' fun K10 hK10 => ?_
                refine cx_region' ?_
                refine sx_rd' (rd_bin' rfl rfl eg_int ru_eql) rfl rfl (wt_none' rfl) ?_
                refine sx_rd' (rd_assign' rfl) rfl rfl (wt_none' rfl) ?_
                refine sx_nil' ?_
                show TX E K10 _
                refine tx_k' hK10 ?_
                refine cx_cond' rfl (fun h8 => ?_) (fun h8 => ?_)
                · replace hp := (br_t h8).symm.trans hp
                  refine cx_region' ?_
                  refine sx_rd' (rd_move' rfl) rfl rfl (wt_none' rfl) ?_
                  refine sx_rd' (rd_move' rfl) rfl rfl (wt_none' rfl) ?_
                  refine sx_rd' (rd_move' rfl) rfl rfl (wt_none' rfl) ?_
                  refine sx_rd' (rd_build' (pls := [(0, 1), (1, 1)]) (qs := [(0, [(Vl (.int .i64 1))]), (1, [(Vl (.int .i64 2))])]) (r := [(Vl (.int .i64 1)), (Vl (.int .i64 2))]) ⟨rfl, ⟨_, rfl, (lv_vl rfl rfl)⟩, ⟨rfl, ⟨_, rfl, (lv_vl rfl rfl)⟩, trivial⟩⟩ Tryd.underlying88 has88 places88 info88 rfl rfl rfl) rfl rfl (wt_none' rfl) ?_
                  refine sx_rd' (rd_build' (pls := [(0, 1), (1, 1)]) (qs := [(0, [(Vl (.int .i64 0))]), (1, [(Vl (.int .i64 2))])]) (r := [(Vl (.int .i64 0)), (Vl (.int .i64 2))]) ⟨rfl, ⟨_, rfl, (lv_vl rfl rfl)⟩, ⟨rfl, ⟨_, rfl, (lv_vl rfl rfl)⟩, trivial⟩⟩ Tryd.underlying88 has88 places88 info88 rfl rfl rfl) rfl rfl (wt_none' rfl) ?_
                  obtain ⟨r51, hr51, hp⟩ := bind_some hp
                  refine sx_ox' (ox_callg' (ent_fn' Tryd.func48 isn48 rfl rfl) (curve_flip_sim _ _ _ _ _ _ _ hr51 : Go.Sx.Fn Tryd.prog 48 [(Vl (.bool a1)), (Vl (.int .i64 a2)), (Vl (Vs wa3)), (Ag [(Vl (.int .i64 1)), (Vl (.int .i64 2))]), (Ag [(Vl (.int .i64 0)), (Vl (.int .i64 2))])] [(Rw (Ki .i64) 3 (Vs wa3) a3)] (fun x : Unit => (Vl (.tuple #[]))) (fun x => [(Rw (Ki .i64) 3 (Vs wa3) r51)])) [0] [] (by decide) (pick_cons rfl pick_nil) pick_nil (Hn := fun x : Unit => [(Rw (Ki .i64) 3 (Vs wa3) r51)]) (fun _ => rfl) rfl rfl) (wt_none' rfl) fun ⟨⟩ => ?_
                  refine sx_nil' ?_
                  replace hp := Option.some.inj hp
                  subst hp
                  refine tx_pick' (L' := []) (H' := [(Rw (Ki .i64) 3 (Vs wa3) r51)]) [0] sub_nil (by decide) (pick_cons rfl pick_nil) ?_
                  exact tx_end0' Tryd.results39 rfl () rfl (List.Sublist.refl _)
                · replace hp := (br_f h8).symm.trans hp
                  refine cx_skip' ?_
                  replace hp := Option.some.inj hp
                  subst hp
                  refine tx_pick' (L' := []) (H' := [(Rw (Ki .i64) 3 (Vs wa3) a3)]) [0] sub_nil (by decide) (pick_cons rfl pick_nil) ?_
                  exact tx_end0' Tryd.results39 rfl () rfl (List.Sublist.refl _)
            · intro K8 hK8
              refine cx_seq' fun K9 hK9 => ?_
              refine cx_region' ?_
              refine sx_rd' (rd_bin' rfl rfl eg_int ru_eql) rfl rfl (wt_none' rfl) ?_
              refine sx_rd' (rd_assign' rfl) rfl rfl (wt_none' rfl) ?_
              refine sx_nil' ?_
              show TX E K9 _
              refine tx_k' hK9 ?_
              refine cx_cond' rfl (fun h6 => ?_) (fun h6 => ?_)
              · replace hp := (br_t h6).symm.trans hp
                refine cx_skip' ?_
                show TX E K8 _
                exact tx_pick' [0] (sub_cons rfl (sub_cons rfl (sub_cons rfl (sub_cons rfl (sub_cons rfl sub_nil))))) (by decide) (pick_cons rfl pick_nil) (hK8 (decide (a4 = 5)) hp)
              · replace hp := (br_f h6).symm.trans hp
                refine cx_region' ?_
                refine sx_rd' (rd_bin' rfl rfl eg_int ru_eql) rfl rfl (wt_none' rfl) ?_
                refine sx_rd' (rd_assign' rfl) rfl rfl (wt_none' rfl) ?_
                refine sx_nil' ?_
                show TX E K8 _
                exact tx_pick' [0] (sub_cons rfl (sub_cons rfl (sub_cons rfl (sub_cons rfl (sub_cons rfl sub_nil))))) (by decide) (pick_cons rfl pick_nil) (hK8 (decide (a4 = 6)) hp)
        · intro K6 hK6
          refine cx_seq' fun K7 hK7 => ?_
          refine cx_region' ?_
          refine sx_rd' (rd_bin' rfl rfl eg_int ru_eql) rfl rfl (wt_none' rfl) ?_
          refine sx_rd' (rd_assign' rfl) rfl rfl (wt_none' rfl) ?_
          refine sx_nil' ?_
          show TX E K7 _
          refine tx_k' hK7 ?_
          refine cx_cond' rfl (fun h4 => ?_) (fun h4 => ?_)
          · replace hp := (br_t h4).symm.trans hp
            refine cx_skip' ?_
            show TX E K6 _
            exact tx_pick' [0] (sub_cons rfl (sub_cons rfl (sub_cons rfl (sub_cons rfl (sub_cons rfl sub_nil))))) (by decide) (pick_cons rfl pick_nil) (hK6 (decide (a4 = 3)) hp)
          · replace hp := (br_f h4).symm.trans hp
            refine cx_region' ?_
            refine sx_rd' (rd_bin' rfl rfl eg_int ru_eql) rfl rfl (wt_none' rfl) ?_
            refine sx_rd' (rd_assign' rfl) rfl rfl (wt_none' rfl) ?_
            refine sx_nil' ?_
            show TX E K6 _
            exact tx_pick' [0] (sub_cons rfl (sub_cons rfl (sub_cons rfl (sub_cons rfl (sub_cons rfl sub_nil))))) (by decide) (pick_cons rfl pick_nil) (hK6 (decide (a4 = 4)) hp)
    · intro K4 hK4
      refine cx_seq' fun K5 hK5 => ?_
      refine cx_region' ?_
      refine sx_rd' (rd_bin' rfl rfl eg_int ru_eql) rfl rfl (wt_none' rfl) ?_
      refine sx_rd' (rd_assign' rfl) rfl rfl (wt_none' rfl) ?_
      refine sx_nil' ?_
      show TX E K5 _
      refine tx_k' hK5 ?_
      refine cx_cond' rfl (fun h2 => ?_) (fun h2 => ?_)
      · replace hp := (br_t h2).symm.trans hp
        refine cx_skip' ?_
        show TX E K4 _
        exact tx_pick' [1] (sub_cons rfl (sub_cons rfl (sub_cons rfl (sub_cons rfl (sub_cons rfl sub_nil))))) (by decide) (pick_cons rfl pick_nil) (hK4 (decide (a4 = 1)) hp)
      · replace hp := (br_f h2).symm.trans hp
        refine cx_region' ?_
        refine sx_rd' (rd_bin' rfl rfl eg_int ru_eql) rfl rfl (wt_none' rfl) ?_
        refine sx_rd' (rd_assign' rfl) rfl rfl (wt_none' rfl) ?_
        refine sx_nil' ?_
        show TX E K4 _
        exact tx_pick' [1] (sub_cons rfl (sub_cons rfl (sub_cons rfl (sub_cons rfl (sub_cons rfl sub_nil))))) (by decide) (pick_cons rfl pick_nil) (hK4 (decide (a4 = 2)) hp)

def curve_Hilbert3D_Coord_l1s (a0_0 : Int) (k : Nat) (rec1 : ((List Int) × Int × Int) → Option ((List Int))) (x1 : List Int) (x2 : Int) (x3 : Int) : Option ((List Int)) :=
  br (decide (x3 < a0_0))
    ((curve_Hilbert3D_rot k a0_0 true x3 x1 (iand .i64 x2 7)) >>= fun r32 =>
    (ishr .i64 (iand .i64 x2 7) 2) >>= fun r34 =>
    (ishr .i64 (iand .i64 x2 7) 1) >>= fun r36 =>
    (ishr .i64 (iand .i64 x2 7) 2) >>= fun r38 =>
    (ishr .i64 (iand .i64 x2 7) 0) >>= fun r42 =>
    (ishr .i64 (iand .i64 x2 7) 1) >>= fun r44 =>
    (idx r32 0) >>= fun r48 =>
    (ishl .i64 (iand .i64 (ixor .i64 r42 r44) 1) x3) >>= fun r52 =>
    (idx r32 0) >>= fun r54 =>
    (idx (r32.set (0 : Int).toNat (iadd .i64 r48 r52)) 1) >>= fun r56 =>
    (ishl .i64 (iand .i64 (ixor .i64 r36 r38) 1) x3) >>= fun r60 =>
    (idx (r32.set (0 : Int).toNat (iadd .i64 r48 r52)) 1) >>= fun r62 =>
    (idx ((r32.set (0 : Int).toNat (iadd .i64 r48 r52)).set (1 : Int).toNat (iadd .i64 r56 r60)) 2) >>= fun r64 =>
    (ishl .i64 r34 x3) >>= fun r68 =>
    (idx ((r32.set (0 : Int).toNat (iadd .i64 r48 r52)).set (1 : Int).toNat (iadd .i64 r56 r60)) 2) >>= fun r70 =>
    (ishr .i64 x2 3) >>= fun r72 =>
    rec1 ((((r32.set (0 : Int).toNat (iadd .i64 r48 r52)).set (1 : Int).toNat (iadd .i64 r56 r60)).set (2 : Int).toNat (iadd .i64 r64 r68)), r72, (iadd .i64 x3 1)))
    (some x1)
def curve_Hilbert3D_Coord_l1 (a0_0 : Int) : Nat → ((List Int) × Int × Int) → Option ((List Int))
  | 0, _ => none
  | k + 1, v => curve_Hilbert3D_Coord_l1s a0_0 k (curve_Hilbert3D_Coord_l1 a0_0 k) v.1 v.2.1 v.2.2
def curve_Hilbert3D_Coord (k : Nat) (a0_0 : Int) (a2 : Int) : Option ((List Int)) :=
  (mk 8 0 3 3) >>= fun r14 =>
  (curve_Hilbert3D_Coord_l1 a0_0 k (r14, a2, 0)) >>= fun v2 =>
  some v2

theorem curve_Hilbert3D_Coord_sim {k : Nat}  (a0_0 : Int) (a2 : Int) {out : (List Int)} (hp : curve_Hilbert3D_Coord k a0_0 a2 = some out) : Go.Sx.Fn Tryd.prog 30 [(Ag [(Vl (.int .i64 a0_0))]), (Vl (.slice none 0 0)), (Vl (.int .i64 a2))] [] (fun w : Unit => (Sl (Ki .i64) out)) (fun w => []) := by
  unfold curve_Hilbert3D_Coord at hp
  refine fn_of Tryd.func30 rfl Tryd.ntmps30 rfl fun E hM => ?_
  refine cx_seq' fun K1 hK1 => ?_
  refine cx_region' ?_
  refine sx_ox' (ox_box' rfl (lv_ag _) rfl rfl) (wt_none' rfl) fun q3 => ?_
  refine sx_rd' (rd_assign' rfl) rfl rfl (wt_none' rfl) ?_
  refine sx_nil' ?_
  show TX E K1 _
  refine tx_k' hK1 ?_
  refine cx_seq' fun K2 hK2 => ?_
  refine cx_seq' fun K3 hK3 => ?_
  refine cx_region' ?_
  refine sx_rd' (rd_move' rfl) rfl rfl (wt_none' rfl) ?_
  refine sx_rd' (rd_binf' rfl rfl (bf_vl (fun _ => by kernel_rfl) nil_eql34_nilsl)) rfl rfl (wt_none' rfl) ?_
  refine sx_nil' ?_
  show TX E K3 _
  refine tx_k' hK3 ?_
  refine cx_cond_t' rfl rfl ?_
  refine cx_region' ?_
  obtain ⟨r14, hr14, hp⟩ := bind_some hp
  refine sx_ox' (ox_make' (K := (Ki .i64)) rfl rfl hr14 rfl Tryd.underlying34 info3 rfl rfl rfl rfl rfl) (wt_none' rfl) fun g14 => ?_
  refine sx_rd' (rd_assign' rfl) rfl rfl (wt_none' rfl) ?_
  refine sx_nil' ?_
  show TX E K2 _
  refine tx_k' hK2 ?_
  refine cx_seq' fun K4 hK4 => ?_
  refine cx_seq' fun K5 hK5 => ?_
  refine cx_region' ?_
  refine sx_rd' (rd_assign' rfl) rfl rfl (wt_none' rfl) ?_
  refine sx_nil' ?_
  show TX E K5 _
  refine tx_k' hK5 ?_
  refine cx_block' ?_
  obtain ⟨v2, hy1, hp⟩ := bind_some hp
  refine cx_loopg' (F := curve_Hilbert3D_Coord_l1 a0_0) (G := fun k R v => curve_Hilbert3D_Coord_l1s a0_0 k R v.1 v.2.1 v.2.2) (x := (r14, a2, 0)) (gh := ()) (fun (v1 : (List Int) × Int × Int) (w1 : Unit) => (⟨74, [], [(1, (Vl (Vs g14))), (2, (Vl (.int .i64 v1.2.1))), (3, (Vl (.pointer (some q3)))), (7, (Vl (.int .i64 v1.2.2)))], [(Rw (Ki .i64) 3 (Vs g14) v1.1), ⟨.pointer (some q3), [(Vl (.int .i64 a0_0))], 63, none⟩]⟩ : St)) (fun (v2 : (List Int)) => Zg E (Exit.exit 0) (fun (w2 : Unit) => (⟨74, [], [(1, (Vl (Vs g14)))], [(Rw (Ki .i64) 3 (Vs g14) v2)]⟩ : St))) (fun _ => rfl) (fun _ _ => rfl) ?_ hy1 (tx_to' rfl [0, 1] (sub_cons rfl (sub_cons rfl (sub_cons rfl (sub_cons rfl sub_nil)))) (by decide) (pick_cons rfl (pick_cons rfl pick_nil))) ?_
  · clear hp hy1
    clear v2
    intro k rec1 KY1 ih1
    rintro ⟨x1, x2, x3⟩ ⟨⟩ y1 hp
    replace hp : curve_Hilbert3D_Coord_l1s a0_0 k rec1 x1 x2 x3 = some y1 := hp
    unfold curve_Hilbert3D_Coord_l1s at hp
    refine cx_seq' fun K17 hK17 => ?_
    refine cx_seq' fun K18 hK18 => ?_
    refine cx_region' ?_
    refine sx_rd' (rd_move' rfl) rfl rfl (wt_none' rfl) ?_
    refine sx_rd' (rd_field0' rfl Tryd.underlying63 rfl info3 rfl) rfl rfl (wt_none' rfl) ?_
    refine sx_rd' (rd_load' (i := 1) (o := 0) rfl ⟨rfl, rfl, rfl, rfl⟩ rfl flat3) rfl rfl (wt_none' rfl) ?_
    refine sx_rd' (rd_bin' rfl rfl eg_int ru_lss) rfl rfl (wt_none' rfl) ?_
    refine sx_nil' ?_
    show TX E K18 _
    refine tx_k' hK18 ?_
    refine cx_cond' rfl (fun h3 => ?_) (fun h3 => ?_)
    · replace hp := (br_t h3).symm.trans hp
      refine cx_skip' ?_
      show TX E K17 _
      refine tx_k' hK17 ?_
      refine cx_seq' fun K19 hK19 => ?_
      refine cx_block' ?_
      refine cx_seq' fun K20 hK20 => ?_
      refine cx_region' ?_
      refine sx_rd' (rd_move' rfl) rfl rfl (wt_none' rfl) ?_
      refine sx_rd' (rd_bin' rfl rfl eg_int ru_and) rfl rfl (wt_none' rfl) ?_
      refine sx_rd' (rd_assign' rfl) rfl rfl (wt_none' rfl) ?_
      refine sx_nil' ?_
      show TX E K20 _
      refine tx_k' hK20 ?_
      refine cx_seq' fun K21 hK21 => ?_
      refine cx_plan' [] [(5, 1)] [(0, 1), (1, 1), (2, 1), (3, 1), (4, 1), (5, 0)] mixed (by kernel_rfl) ?_
      refine px_rd' rfl (rd_load_agg' (i := 1) (o := 0) (nn := 1) rfl ⟨rfl, rfl, rfl, rfl⟩ rfl agg63 (l' := [(Vl (.int .i64 a0_0))]) rfl) rfl rfl (wt_none' rfl) ?_
      refine px_rd' rfl (rd_move' rfl) rfl rfl (wt_none' rfl) ?_
      refine px_rd' rfl (rd_move' rfl) rfl rfl (wt_none' rfl) ?_
      refine px_rd' rfl (rd_cut_allr' (K := (Ki .i64)) (i := 0) rfl rfl rfl Tryd.underlying34 info3) rfl rfl (wt_none' rfl) ?_
      refine px_rd' rfl (rd_move' rfl) rfl rfl (wt_none' rfl) ?_
      obtain ⟨r32, hr32, hp⟩ := bind_some hp
      refine px_oxb' (is := [0]) rfl (oxb_callg (ent_fn' Tryd.func39 isn39 rfl rfl) (curve_Hilbert3D_rot_sim _ _ _ _ _ hr32 : Go.Sx.Fn Tryd.prog 39 [(Ag [(Vl (.int .i64 a0_0))]), (Vl (.bool true)), (Vl (.int .i64 x3)), (Vl (Vs g14)), (Vl (.int .i64 (iand .i64 x2 7)))] [(Rw (Ki .i64) 3 (Vs g14) x1)] (fun x : Unit => (Vl (.tuple #[]))) (fun x => [(Rw (Ki .i64) 3 (Vs g14) r32)])) [0] [1] (by decide) (pick_cons rfl pick_nil) (pick_cons rfl pick_nil) (Hn := fun x : Unit => [(Rw (Ki .i64) 3 (Vs g14) r32), ⟨.pointer (some q3), [(Vl (.int .i64 a0_0))], 63, none⟩]) (fun _ => rfl) rfl rfl) (pick_cons rfl pick_nil) rfl bl_nil (wt_none' rfl) fun ⟨⟩ => ?_
      refine px_nil' ?_
      show TX E K21 _
      refine tx_k' hK21 ?_
      refine cx_seq' fun K22 hK22 => ?_
      refine cx_region' ?_
      refine sx_rd' (rd_move' rfl) rfl rfl (wt_none' rfl) ?_
      obtain ⟨r34, hr34, hp⟩ := bind_some hp
      refine sx_rd' (rd_bin' rfl rfl eg_int (ru_shr hr34)) rfl rfl (wt_none' rfl) ?_
      refine sx_rd' (rd_assign' rfl) rfl rfl (wt_none' rfl) ?_
      refine sx_nil' ?_
      show TX E K22 _
      refine tx_k' hK22 ?_
      refine cx_seq' fun K23 hK23 => ?_
      refine cx_region' ?_
      refine sx_rd' (rd_move' rfl) rfl rfl (wt_none' rfl) ?_
      obtain ⟨r36, hr36, hp⟩ := bind_some hp
      refine sx_rd' (rd_bin' rfl rfl eg_int (ru_shr hr36)) rfl rfl (wt_none' rfl) ?_
      refine sx_rd' (rd_move' rfl) rfl rfl (wt_none' rfl) ?_
      obtain ⟨r38, hr38, hp⟩ := bind_some hp
      refine sx_rd' (rd_bin' rfl rfl eg_int (ru_shr hr38)) rfl rfl (wt_none' rfl) ?_
      refine sx_rd' (rd_bin' rfl rfl eg_int ru_xor) rfl rfl (wt_none' rfl) ?_
      refine sx_rd' (rd_bin' rfl rfl eg_int ru_and) rfl rfl (wt_none' rfl) ?_
      refine sx_rd' (rd_assign' rfl) rfl rfl (wt_none' rfl) ?_
      refine sx_nil' ?_
      show TX E K23 _
      refine tx_k' hK23 ?_
      refine cx_seq' fun K24 hK24 => ?_
      refine cx_region' ?_
      refine sx_rd' (rd_move' rfl) rfl rfl (wt_none' rfl) ?_
      obtain ⟨r42, hr42, hp⟩ := bind_some hp
      refine sx_rd' (rd_bin' rfl rfl eg_int (ru_shr hr42)) rfl rfl (wt_none' rfl) ?_
      refine sx_rd' (rd_move' rfl) rfl rfl (wt_none' rfl) ?_
      obtain ⟨r44, hr44, hp⟩ := bind_some hp
      refine sx_rd' (rd_bin' rfl rfl eg_int (ru_shr hr44)) rfl rfl (wt_none' rfl) ?_
      refine sx_rd' (rd_bin' rfl rfl eg_int ru_xor) rfl rfl (wt_none' rfl) ?_
      refine sx_rd' (rd_bin' rfl rfl eg_int ru_and) rfl rfl (wt_none' rfl) ?_
      refine sx_rd' (rd_assign' rfl) rfl rfl (wt_none' rfl) ?_
      refine sx_nil' ?_
      show TX E K24 _
      refine tx_k' hK24 ?_
      refine cx_seq' fun K25 hK25 => ?_
      refine cx_plan' [] [(8, 1)] [(0, 1), (1, 1), (2, 1), (3, 1), (4, 1), (5, 1), (6, 1), (7, 1), (8, 0)] mixed (by kernel_rfl) ?_
      refine px_rd' rfl (rd_move' rfl) rfl rfl (wt_none' rfl) ?_
      obtain ⟨r48, hr48, hp⟩ := bind_some hp
      refine px_rd' rfl (rd_atr' (m := 0) rfl rfl rfl rfl hr48 Tryd.underlying34 info3) rfl rfl (wt_none' rfl) ?_
      refine px_rd' rfl (rd_loadr' rfl (m := 0) (i := 0) (j := 0) rfl rfl hr48 rfl rfl flat3) rfl rfl (wt_none' rfl) ?_
      refine px_rd' rfl (rd_move' rfl) rfl rfl (wt_none' rfl) ?_
      refine px_rd' rfl (rd_move' rfl) rfl rfl (wt_none' rfl) ?_
      obtain ⟨r52, hr52, hp⟩ := bind_some hp
      refine px_rd' rfl (rd_bin' rfl rfl eg_int (ru_shl hr52)) rfl rfl (wt_none' rfl) ?_
      refine px_rd' rfl (rd_bin' rfl rfl eg_int ru_add) rfl rfl (wt_none' rfl) ?_
      obtain ⟨r54, hr54, hp⟩ := bind_some hp
      refine px_rd' rfl (rd_atr' (m := 0) rfl rfl rfl rfl hr54 Tryd.underlying34 info3) rfl rfl (wt_none' rfl) ?_
      refine px_ox' rfl (ox_storer' (m := 0) (i := 0) (j := 0) (x' := (iadd .i64 r48 r52)) rfl rfl (lv_vl rfl rfl) rfl rfl hr54 rfl rfl rfl info3 rfl (H' := [(Rw (Ki .i64) 3 (Vs g14) (r32.set (0 : Int).toNat (iadd .i64 r48 r52))), ⟨.pointer (some q3), [(Vl (.int .i64 a0_0))], 63, none⟩]) rfl) rfl bs_nil (wt_none' rfl) fun _ => ?_
      refine px_nil' ?_
      show TX E K25 _
      refine tx_k' hK25 ?_
      refine cx_seq' fun K26 hK26 => ?_
      refine cx_plan' [] [(8, 1)] [(0, 1), (1, 1), (2, 1), (3, 1), (4, 1), (5, 1), (6, 1), (7, 1), (8, 0)] mixed (by kernel_rfl) ?_
      refine px_rd' rfl (rd_move' rfl) rfl rfl (wt_none' rfl) ?_
      obtain ⟨r56, hr56, hp⟩ := bind_some hp
      refine px_rd' rfl (rd_atr' (m := 0) rfl rfl rfl rfl hr56 Tryd.underlying34 info3) rfl rfl (wt_none' rfl) ?_
      refine px_rd' rfl (rd_loadr' rfl (m := 0) (i := 1) (j := 0) rfl rfl hr56 rfl rfl flat3) rfl rfl (wt_none' rfl) ?_
      refine px_rd' rfl (rd_move' rfl) rfl rfl (wt_none' rfl) ?_
      refine px_rd' rfl (rd_move' rfl) rfl rfl (wt_none' rfl) ?_
      obtain ⟨r60, hr60, hp⟩ := bind_some hp
      refine px_rd' rfl (rd_bin' rfl rfl eg_int (ru_shl hr60)) rfl rfl (wt_none' rfl) ?_
      refine px_rd' rfl (rd_bin' rfl rfl eg_int ru_add) rfl rfl (wt_none' rfl) ?_
      obtain ⟨r62, hr62, hp⟩ := bind_some hp
      refine px_rd' rfl (rd_atr' (m := 0) rfl rfl rfl rfl hr62 Tryd.underlying34 info3) rfl rfl (wt_none' rfl) ?_
      refine px_ox' rfl (ox_storer' (m := 0) (i := 1) (j := 0) (x' := (iadd .i64 r56 r60)) rfl rfl (lv_vl rfl rfl) rfl rfl hr62 rfl rfl rfl info3 rfl (H' := [(Rw (Ki .i64) 3 (Vs g14) ((r32.set (0 : Int).toNat (iadd .i64 r48 r52)).set (1 : Int).toNat (iadd .i64 r56 r60))), ⟨.pointer (some q3), [(Vl (.int .i64 a0_0))], 63, none⟩]) rfl) rfl bs_nil (wt_none' rfl) fun _ => ?_
      refine px_nil' ?_
      show TX E K26 _
      refine tx_k' hK26 ?_
      refine cx_seq' fun K27 hK27 => ?_
      refine cx_plan' [] [(8, 1)] [(0, 1), (1, 1), (2, 1), (3, 1), (4, 1), (5, 1), (6, 1), (7, 1), (8, 0)] mixed (by kernel_rfl) ?_
      refine px_rd' rfl (rd_move' rfl) rfl rfl (wt_none' rfl) ?_
      obtain ⟨r64, hr64, hp⟩ := bind_some hp
      refine px_rd' rfl (rd_atr' (m := 0) rfl rfl rfl rfl hr64 Tryd.underlying34 info3) rfl rfl (wt_none' rfl) ?_
      refine px_rd' rfl (rd_loadr' rfl (m := 0) (i := 2) (j := 0) rfl rfl hr64 rfl rfl flat3) rfl rfl (wt_none' rfl) ?_
      refine px_rd' rfl (rd_move' rfl) rfl rfl (wt_none' rfl) ?_
      refine px_rd' rfl (rd_move' rfl) rfl rfl (wt_none' rfl) ?_
      obtain ⟨r68, hr68, hp⟩ := bind_some hp
      refine px_rd' rfl (rd_bin' rfl rfl eg_int (ru_shl hr68)) rfl rfl (wt_none' rfl) ?_
      refine px_rd' rfl (rd_bin' rfl rfl eg_int ru_add) rfl rfl (wt_none' rfl) ?_
      obtain ⟨r70, hr70, hp⟩ := bind_some hp
      refine px_rd' rfl (rd_atr' (m := 0) rfl rfl rfl rfl hr70 Tryd.underlying34 info3) rfl rfl (wt_none' rfl) ?_
      refine px_ox' rfl (ox_storer' (m := 0) (i := 2) (j := 0) (x' := (iadd .i64 r64 r68)) rfl rfl (lv_vl rfl rfl) rfl rfl hr70 rfl rfl rfl info3 rfl (H' := [(Rw (Ki .i64) 3 (Vs g14) (((r32.set (0 : Int).toNat (iadd .i64 r48 r52)).set (1 : Int).toNat (iadd .i64 r56 r60)).set (2 : Int).toNat (iadd .i64 r64 r68))), ⟨.pointer (some q3), [(Vl (.int .i64 a0_0))], 63, none⟩]) rfl) rfl bs_nil (wt_none' rfl) fun _ => ?_
      refine px_nil' ?_
      show TX E K27 _
      refine tx_k' hK27 ?_
      refine cx_region' ?_
      refine sx_rd' (rd_move' rfl) rfl rfl (wt_none' rfl) ?_
      obtain ⟨r72, hr72, hp⟩ := bind_some hp
      refine sx_rd' (rd_bin' rfl rfl eg_int (ru_shr hr72)) rfl rfl (wt_none' rfl) ?_
      refine sx_rd' (rd_assign' rfl) rfl rfl (wt_none' rfl) ?_
      refine sx_nil' ?_
      show TX E K19 _
      refine tx_k' hK19 ?_
      refine cx_region' ?_
      refine sx_rd' (rd_move' rfl) rfl rfl (wt_none' rfl) ?_
      refine sx_rd' (rd_bin' rfl rfl eg_int ru_add) rfl rfl (wt_none' rfl) ?_
      refine sx_rd' (rd_assign' rfl) rfl rfl (wt_none' rfl) ?_
      refine sx_nil' ?_
      show TX E (KY1 _) _
      exact tx_pick' [0, 1] (sub_cons rfl (sub_cons rfl (sub_cons rfl (sub_cons rfl sub_nil)))) (by decide) (pick_cons rfl (pick_cons rfl pick_nil)) (ih1 ((((r32.set (0 : Int).toNat (iadd .i64 r48 r52)).set (1 : Int).toNat (iadd .i64 r56 r60)).set (2 : Int).toNat (iadd .i64 r64 r68)), r72, (iadd .i64 x3 1)) () _ hp)
    · replace hp := (br_f h3).symm.trans hp
      refine cx_exit' ?_
      replace hp := Option.some.inj hp
      subst hp
      show TX E (Zg E (Exit.exit 0) _ (Exit.exit 0)) _
      exact tx_zend' () rfl [0] (sub_cons rfl sub_nil) (by decide) (pick_cons rfl pick_nil)
  · refine zg_out fun w2 => ?_
    show TX E K4 _
    refine tx_k' hK4 ?_
    refine cx_seq' fun K28 hK28 => ?_
    refine cx_region' ?_
    refine sx_rd' (rd_move' rfl) rfl rfl (wt_none' rfl) ?_
    refine sx_rd' (rd_assign' rfl) rfl rfl (wt_none' rfl) ?_
    refine sx_nil' ?_
    show TX E K28 _
    refine tx_k' hK28 ?_
    refine cx_retc' ?_
    replace hp := Option.some.inj hp
    subst hp
    refine tx_fz' (frz_row 0 [(1, (Vl (Vs g14)), (Sl (Ki .i64) v2)), (73, (Vl (Vs g14)), (Sl (Ki .i64) v2)), (6, (Vl (Vs g14)), (Sl (Ki .i64) v2))] (K := (Ki .i64)) (xs := v2) (by decide) rfl ⟨⟨rfl, frz_it⟩, ⟨rfl, frz_it⟩, ⟨rfl, frz_it⟩, trivial⟩ (H' := []) frzH_refl) ?_
    refine tx_pick' (L' := [(6, (Sl (Ki .i64) v2))]) (H' := []) [] (sub_cons rfl sub_nil) (by decide) pick_nil ?_
    exact tx_ret1' Tryd.results30 rfl () (rv_tmp' rfl) (List.Sublist.refl _)

def curve_NewHilbert4D (k : Nat) (a0 : Int) : Option (Int) :=
  br (decide (a0 < 1))
    (none)
    (br (decide (64 ≤ (imul .i64 a0 4)))
      (none)
      (some a0))

theorem curve_NewHilbert4D_sim {k : Nat}  (a0 : Int) {out : Int} (hp : curve_NewHilbert4D k a0 = some out) : Go.Sx.Fn Tryd.prog 31 [(Vl (.int .i64 a0))] [] (fun w : Unit => (Tu [(Ag [(Vl (.int .i64 out))]), (Vl .nilIface)])) (fun w => []) := by
  unfold curve_NewHilbert4D at hp
  refine fn_of Tryd.func31 rfl Tryd.ntmps31 rfl fun E hM => ?_
  refine cx_seq' fun K1 hK1 => ?_
  refine cx_region' ?_
  refine sx_ox' (ox_alloc' info66 rfl rfl rfl rfl (l := [(Vl (.int .i64 0))]) rfl) (wt_none' rfl) fun q2 => ?_
  refine sx_rd' (rd_assign' rfl) rfl rfl (wt_none' rfl) ?_
  refine sx_nil' ?_
  show TX E K1 _
  refine tx_k' hK1 ?_
  refine cx_seq' fun K2 hK2 => ?_
  refine cx_region' ?_
  refine sx_rd' (rd_move' rfl) rfl rfl (wt_none' rfl) ?_
  refine sx_rd' (rd_build' (pls := [(0, 1)]) (qs := [(0, [(Vl (.int .i64 a0))])]) (r := [(Vl (.int .i64 a0))]) ⟨rfl, ⟨_, rfl, (lv_vl rfl rfl)⟩, trivial⟩ Tryd.underlying66 has66 places66 info66 rfl rfl rfl) rfl rfl (wt_none' rfl) ?_
  refine sx_ox' (ox_alloc' info66 rfl rfl rfl rfl (l := [(Vl (.int .i64 0))]) rfl) (wt_none' rfl) fun q4 => ?_
  refine sx_ox' (ox_store' (i := 0) (o := 0) rfl rfl (lv_ag _) ⟨rfl, rfl, rfl, rfl⟩ rfl info66 rfl (H' := [⟨.pointer (some q4), [(Vl (.int .i64 a0))], 66, none⟩, ⟨.pointer (some q2), [(Vl (.int .i64 0))], 66, none⟩]) rfl) (wt_none' rfl) fun _ => ?_
  refine sx_nil' ?_
  show TX E K2 _
  refine tx_k' hK2 ?_
  refine cx_seq' fun K3 hK3 => ?_
  refine cx_seq' fun K4 hK4 => ?_
  refine cx_region' ?_
  refine sx_rd' (rd_move' rfl) rfl rfl (wt_none' rfl) ?_
  refine sx_rd' (rd_bin' rfl rfl eg_int ru_lss) rfl rfl (wt_none' rfl) ?_
  refine sx_nil' ?_
  show TX E K4 _
  refine tx_k' hK4 ?_
  refine cx_cond' rfl (fun h1 => ?_) (fun h1 => ?_)
  · replace hp := (br_t h1).symm.trans hp
    cases hp
  · replace hp := (br_f h1).symm.trans hp
    refine cx_skip' ?_
    show TX E K3 _
    refine tx_k' hK3 ?_
    refine cx_seq' fun K6 hK6 => ?_
    refine cx_seq' fun K7 hK7 => ?_
    refine cx_region' ?_
    refine sx_rd' (rd_move' rfl) rfl rfl (wt_none' rfl) ?_
    refine sx_rd' (rd_bin' rfl rfl eg_int ru_mul) rfl rfl (wt_none' rfl) ?_
    refine sx_rd' (rd_bin' rfl rfl eg_int ru_geq) rfl rfl (wt_none' rfl) ?_
    refine sx_nil' ?_
    show TX E K7 _
    refine tx_k' hK7 ?_
    refine cx_cond' rfl (fun h2 => ?_) (fun h2 => ?_)
    · replace hp := (br_t h2).symm.trans hp
      cases hp
    · replace hp := (br_f h2).symm.trans hp
      refine cx_skip' ?_
      show TX E K6 _
      refine tx_k' hK6 ?_
      refine cx_seq' fun K9 hK9 => ?_
      refine cx_region' ?_
      refine sx_rd' (rd_load_agg' (i := 0) (o := 0) (nn := 1) rfl ⟨rfl, rfl, rfl, rfl⟩ rfl agg66 (l' := [(Vl (.int .i64 a0))]) rfl) rfl rfl (wt_none' rfl) ?_
      refine sx_ox' (ox_store' (i := 1) (o := 0) rfl rfl (lv_ag _) ⟨rfl, rfl, rfl, rfl⟩ rfl info66 rfl (H' := [⟨.pointer (some q4), [(Vl (.int .i64 a0))], 66, none⟩, ⟨.pointer (some q2), [(Vl (.int .i64 a0))], 66, none⟩]) rfl) (wt_none' rfl) fun _ => ?_
      refine sx_rd' (rd_assign' rfl) rfl rfl (wt_none' rfl) ?_
      refine sx_nil' ?_
      show TX E K9 _
      refine tx_k' hK9 ?_
      refine cx_retc' ?_
      replace hp := Option.some.inj hp
      subst hp
      refine tx_pick' (L' := [(2, (Vl (.pointer (some q2)))), (3, (Vl .nilIface))]) (H' := [⟨.pointer (some q2), [(Vl (.int .i64 a0))], 66, none⟩]) [1] (sub_cons rfl (sub_cons rfl sub_nil)) (by decide) (pick_cons rfl pick_nil) ?_
      exact tx_ret2' Tryd.results31 rfl () (rv_cell_agg' (i := 0) (o := 0) (nn := 1) rfl ⟨rfl, rfl, rfl, rfl⟩ rfl agg66 rfl) (rv_tmp' rfl) rfl (List.nil_sublist _)

def curve_swap_v2 (k : Nat) (a0 : Bool) (a1 : Int) (a2 : List Int) (a3_0 : Int) (a3_1 : Int) (a4_0 : Int) (a4_1 : Int) : Option ((List Int)) :=
  br a0
    ((curve_swap_do k a4_0 a4_1 a1 a2) >>= fun r15 =>
    (curve_flip_do k a3_0 a3_1 a1 r15) >>= fun r20 =>
    some r20)
    ((curve_flip_do k a3_0 a3_1 a1 a2) >>= fun r25 =>
    (curve_swap_do k a4_0 a4_1 a1 r25) >>= fun r30 =>
    some r30)

theorem curve_swap_v2_sim {k : Nat} {wa2 : Gs} (a0 : Bool) (a1 : Int) (a2 : List Int) (a3_0 : Int) (a3_1 : Int) (a4_0 : Int) (a4_1 : Int) {out : (List Int)} (hp : curve_swap_v2 k a0 a1 a2 a3_0 a3_1 a4_0 a4_1 = some out) : Go.Sx.Fn Tryd.prog 49 [(Vl (.bool a0)), (Vl (.int .i64 a1)), (Vl (Vs wa2)), (Ag [(Vl (.int .i64 a3_0)), (Vl (.int .i64 a3_1))]), (Ag [(Vl (.int .i64 a4_0)), (Vl (.int .i64 a4_1))])] [(Rw (Ki .i64) 3 (Vs wa2) a2)] (fun w : Unit => (Vl (.tuple #[]))) (fun w => [(Rw (Ki .i64) 3 (Vs wa2) out)]) := by
  unfold curve_swap_v2 at hp
  refine fn_of Tryd.func49 rfl Tryd.ntmps49 rfl fun E hM => ?_
  refine cx_seq' fun K1 hK1 => ?_
  refine cx_region' ?_
  refine sx_ox' (ox_box' rfl (lv_ag _) rfl rfl) (wt_none' rfl) fun q8 => ?_
  refine sx_ox' (ox_box' rfl (lv_ag _) rfl rfl) (wt_none' rfl) fun q9 => ?_
  refine sx_nil' ?_
  show TX E K1 _
  refine tx_k' hK1 ?_
  refine cx_seq' fun K2 hK2 => ?_
  refine cx_region' ?_
  refine sx_rd' (rd_move' rfl) rfl rfl (wt_none' rfl) ?_
  refine sx_nil' ?_
  show TX E K2 _
  refine tx_k' hK2 ?_
  refine cx_cond' rfl (fun h1 => ?_) (fun h1 => ?_)
  · replace hp := (br_t h1).symm.trans hp
    refine cx_seq' fun K3 hK3 => ?_
    refine cx_region' ?_
    refine sx_rd' (rd_load_agg' (i := 0) (o := 0) (nn := 2) rfl ⟨rfl, rfl, rfl, rfl⟩ rfl agg86 (l' := [(Vl (.int .i64 a4_0)), (Vl (.int .i64 a4_1))]) rfl) rfl rfl (wt_none' rfl) ?_
    refine sx_rd' (rd_iface' rfl ⟨_, Tryd.underlying86, fun _ h => (nomatch h)⟩) rfl rfl (wt_none' rfl) ?_
    refine sx_rd' (rd_move' rfl) rfl rfl (wt_none' rfl) ?_
    refine sx_rd' (rd_move' rfl) rfl rfl (wt_none' rfl) ?_
    obtain ⟨r15, hr15, hp⟩ := bind_some hp
    refine sx_ox' (ox_callg' (ent_inv' rfl rfl (inv_any2 inv86_pub_orthodrome_pub_gonum_spatial_curve_do)) (curve_swap_do_sim _ _ _ _ hr15 : Go.Sx.Fn Tryd.prog 44 [(Ag [(Vl (.int .i64 a4_0)), (Vl (.int .i64 a4_1))]), (Vl (.int .i64 a1)), (Vl (Vs wa2))] [(Rw (Ki .i64) 3 (Vs wa2) a2)] (fun x : Unit => (Vl (.tuple #[]))) (fun x => [(Rw (Ki .i64) 3 (Vs wa2) r15)])) [2] [0, 1] (by decide) (pick_cons rfl pick_nil) (pick_cons rfl (pick_cons rfl pick_nil)) (Hn := fun x : Unit => [(Rw (Ki .i64) 3 (Vs wa2) r15), ⟨.pointer (some q9), [(Vl (.int .i64 a4_0)), (Vl (.int .i64 a4_1))], 86, none⟩, ⟨.pointer (some q8), [(Vl (.int .i64 a3_0)), (Vl (.int .i64 a3_1))], 88, none⟩]) (fun _ => rfl) rfl rfl) (wt_none' rfl) fun ⟨⟩ => ?_
    refine sx_nil' ?_
    show TX E K3 _
    refine tx_k' hK3 ?_
    refine cx_region' ?_
    refine sx_rd' (rd_load_agg' (i := 2) (o := 0) (nn := 2) rfl ⟨rfl, rfl, rfl, rfl⟩ rfl agg88 (l' := [(Vl (.int .i64 a3_0)), (Vl (.int .i64 a3_1))]) rfl) rfl rfl (wt_none' rfl) ?_
    refine sx_rd' (rd_iface' rfl ⟨_, Tryd.underlying88, fun _ h => (nomatch h)⟩) rfl rfl (wt_none' rfl) ?_
    refine sx_rd' (rd_move' rfl) rfl rfl (wt_none' rfl) ?_
    refine sx_rd' (rd_move' rfl) rfl rfl (wt_none' rfl) ?_
    obtain ⟨r20, hr20, hp⟩ := bind_some hp
    refine sx_ox' (ox_callg' (ent_inv' rfl rfl (inv_any2 inv88_pub_orthodrome_pub_gonum_spatial_curve_do)) (curve_flip_do_sim _ _ _ _ hr20 : Go.Sx.Fn Tryd.prog 45 [(Ag [(Vl (.int .i64 a3_0)), (Vl (.int .i64 a3_1))]), (Vl (.int .i64 a1)), (Vl (Vs wa2))] [(Rw (Ki .i64) 3 (Vs wa2) r15)] (fun x : Unit => (Vl (.tuple #[]))) (fun x => [(Rw (Ki .i64) 3 (Vs wa2) r20)])) [0] [1, 2] (by decide) (pick_cons rfl pick_nil) (pick_cons rfl (pick_cons rfl pick_nil)) (Hn := fun x : Unit => [(Rw (Ki .i64) 3 (Vs wa2) r20), ⟨.pointer (some q9), [(Vl (.int .i64 a4_0)), (Vl (.int .i64 a4_1))], 86, none⟩, ⟨.pointer (some q8), [(Vl (.int .i64 a3_0)), (Vl (.int .i64 a3_1))], 88, none⟩]) (fun _ => rfl) rfl rfl) (wt_none' rfl) fun ⟨⟩ => ?_
    refine sx_nil' ?_
    replace hp := Option.some.inj hp
    subst hp
    refine tx_pick' (L' := []) (H' := [(Rw (Ki .i64) 3 (Vs wa2) r20)]) [0] sub_nil (by decide) (pick_cons rfl pick_nil) ?_
    exact tx_end0' Tryd.results49 rfl () rfl (List.Sublist.refl _)
  · replace hp := (br_f h1).symm.trans hp
    refine cx_seq' fun K4 hK4 => ?_
    refine cx_region' ?_
    refine sx_rd' (rd_load_agg' (i := 1) (o := 0) (nn := 2) rfl ⟨rfl, rfl, rfl, rfl⟩ rfl agg88 (l' := [(Vl (.int .i64 a3_0)), (Vl (.int .i64 a3_1))]) rfl) rfl rfl (wt_none' rfl) ?_
    refine sx_rd' (rd_iface' rfl ⟨_, Tryd.underlying88, fun _ h => (nomatch h)⟩) rfl rfl (wt_none' rfl) ?_
    refine sx_rd' (rd_move' rfl) rfl rfl (wt_none' rfl) ?_
    refine sx_rd' (rd_move' rfl) rfl rfl (wt_none' rfl) ?_
    obtain ⟨r25, hr25, hp⟩ := bind_some hp
    refine sx_ox' (ox_callg' (ent_inv' rfl rfl (inv_any2 inv88_pub_orthodrome_pub_gonum_spatial_curve_do)) (curve_flip_do_sim _ _ _ _ hr25 : Go.Sx.Fn Tryd.prog 45 [(Ag [(Vl (.int .i64 a3_0)), (Vl (.int .i64 a3_1))]), (Vl (.int .i64 a1)), (Vl (Vs wa2))] [(Rw (Ki .i64) 3 (Vs wa2) a2)] (fun x : Unit => (Vl (.tuple #[]))) (fun x => [(Rw (Ki .i64) 3 (Vs wa2) r25)])) [2] [0, 1] (by decide) (pick_cons rfl pick_nil) (pick_cons rfl (pick_cons rfl pick_nil)) (Hn := fun x : Unit => [(Rw (Ki .i64) 3 (Vs wa2) r25), ⟨.pointer (some q9), [(Vl (.int .i64 a4_0)), (Vl (.int .i64 a4_1))], 86, none⟩, ⟨.pointer (some q8), [(Vl (.int .i64 a3_0)), (Vl (.int .i64 a3_1))], 88, none⟩]) (fun _ => rfl) rfl rfl) (wt_none' rfl) fun ⟨⟩ => ?_
    refine sx_nil' ?_
    show TX E K4 _
    refine tx_k' hK4 ?_
    refine cx_region' ?_
    refine sx_rd' (rd_load_agg' (i := 1) (o := 0) (nn := 2) rfl ⟨rfl, rfl, rfl, rfl⟩ rfl agg86 (l' := [(Vl (.int .i64 a4_0)), (Vl (.int .i64 a4_1))]) rfl) rfl rfl (wt_none' rfl) ?_
    refine sx_rd' (rd_iface' rfl ⟨_, Tryd.underlying86, fun _ h => (nomatch h)⟩) rfl rfl (wt_none' rfl) ?_
    refine sx_rd' (rd_move' rfl) rfl rfl (wt_none' rfl) ?_
    refine sx_rd' (rd_move' rfl) rfl rfl (wt_none' rfl) ?_
    obtain ⟨r30, hr30, hp⟩ := bind_some hp
    refine sx_ox' (ox_callg' (ent_inv' rfl rfl (inv_any2 inv86_pub_orthodrome_pub_gonum_spatial_curve_do)) (curve_swap_do_sim _ _ _ _ hr30 : Go.Sx.Fn Tryd.prog 44 [(Ag [(Vl (.int .i64 a4_0)), (Vl (.int .i64 a4_1))]), (Vl (.int .i64 a1)), (Vl (Vs wa2))] [(Rw (Ki .i64) 3 (Vs wa2) r25)] (fun x : Unit => (Vl (.tuple #[]))) (fun x => [(Rw (Ki .i64) 3 (Vs wa2) r30)])) [0] [1, 2] (by decide) (pick_cons rfl pick_nil) (pick_cons rfl (pick_cons rfl pick_nil)) (Hn := fun x : Unit => [(Rw (Ki .i64) 3 (Vs wa2) r30), ⟨.pointer (some q9), [(Vl (.int .i64 a4_0)), (Vl (.int .i64 a4_1))], 86, none⟩, ⟨.pointer (some q8), [(Vl (.int .i64 a3_0)), (Vl (.int .i64 a3_1))], 88, none⟩]) (fun _ => rfl) rfl rfl) (wt_none' rfl) fun ⟨⟩ => ?_
    refine sx_nil' ?_
    replace hp := Option.some.inj hp
    subst hp
    refine tx_pick' (L' := []) (H' := [(Rw (Ki .i64) 3 (Vs wa2) r30)]) [0] sub_nil (by decide) (pick_cons rfl pick_nil) ?_
    exact tx_end0' Tryd.results49 rfl () rfl (List.Sublist.refl _)

def curve_Hilbert4D_rot_j7 (k : Nat) (a1 : Bool) (a2 : Int) (a3 : List Int) (a4 : Int) (x7 : Bool) : Option ((List Int)) :=
  br x7
    ((curve_flip k a1 a2 a3 0 3 1 3) >>= fun r79 =>
    some r79)
    (br (decide (a4 = 15))
      ((curve_flip k a1 a2 a3 1 3 0 3) >>= fun r87 =>
      some r87)
      (some a3))
def curve_Hilbert4D_rot_j6 (k : Nat) (a1 : Bool) (a2 : Int) (a3 : List Int) (a4 : Int) (x6 : Bool) : Option ((List Int)) :=
  br x6
    ((curve_flip k a1 a2 a3 0 1 2 3) >>= fun r70 =>
    some r70)
    (br (decide (a4 = 13))
      (curve_Hilbert4D_rot_j7 k a1 a2 a3 a4 (decide (a4 = 13)))
      (curve_Hilbert4D_rot_j7 k a1 a2 a3 a4 (decide (a4 = 14))))
def curve_Hilbert4D_rot_j5 (k : Nat) (a1 : Bool) (a2 : Int) (a3 : List Int) (a4 : Int) (x5 : Bool) : Option ((List Int)) :=
  br x5
    ((curve_flip k a1 a2 a3 1 2 2 3) >>= fun r61 =>
    some r61)
    (br (decide (a4 = 11))
      (curve_Hilbert4D_rot_j6 k a1 a2 a3 a4 (decide (a4 = 11)))
      (curve_Hilbert4D_rot_j6 k a1 a2 a3 a4 (decide (a4 = 12))))
def curve_Hilbert4D_rot_j4 (k : Nat) (a2 : Int) (a3 : List Int) (a4 : Int) (a1 : Bool) (x4 : Bool) : Option ((List Int)) :=
  br x4
    ((curve_invert_do k 0 2 a2 a3) >>= fun r52 =>
    some r52)
    (br (decide (a4 = 9))
      (curve_Hilbert4D_rot_j5 k a1 a2 a3 a4 (decide (a4 = 9)))
      (curve_Hilbert4D_rot_j5 k a1 a2 a3 a4 (decide (a4 = 10))))
def curve_Hilbert4D_rot_j3 (k : Nat) (a1 : Bool) (a2 : Int) (a3 : List Int) (a4 : Int) (x3 : Bool) : Option ((List Int)) :=
  br x3
    ((curve_swap_v2 k a1 a2 a3 1 2 2 3) >>= fun r45 =>
    some r45)
    (br (decide (a4 = 7))
      (curve_Hilbert4D_rot_j4 k a2 a3 a4 a1 (decide (a4 = 7)))
      (curve_Hilbert4D_rot_j4 k a2 a3 a4 a1 (decide (a4 = 8))))
def curve_Hilbert4D_rot_j2 (k : Nat) (a1 : Bool) (a2 : Int) (a3 : List Int) (a4 : Int) (x2 : Bool) : Option ((List Int)) :=
  br x2
    ((curve_swap_v2 k a1 a2 a3 0 1 2 3) >>= fun r36 =>
    some r36)
    (br (decide (a4 = 5))
      (curve_Hilbert4D_rot_j3 k a1 a2 a3 a4 (decide (a4 = 5)))
      (curve_Hilbert4D_rot_j3 k a1 a2 a3 a4 (decide (a4 = 6))))
def curve_Hilbert4D_rot_j1 (k : Nat) (a1 : Bool) (a2 : Int) (a3 : List Int) (a4 : Int) (x1 : Bool) : Option ((List Int)) :=
  br x1
    ((curve_swap k a1 a2 a3 0 3 1 3) >>= fun r27 =>
    some r27)
    (br (decide (a4 = 3))
      (curve_Hilbert4D_rot_j2 k a1 a2 a3 a4 (decide (a4 = 3)))
      (curve_Hilbert4D_rot_j2 k a1 a2 a3 a4 (decide (a4 = 4))))
def curve_Hilbert4D_rot (k : Nat) (a0_0 : Int) (a1 : Bool) (a2 : Int) (a3 : List Int) (a4 : Int) : Option ((List Int)) :=
  br (decide (a4 = 0))
    ((curve_swap k a1 a2 a3 1 3 0 3) >>= fun r18 =>
    some r18)
    (br (decide (a4 = 1))
      (curve_Hilbert4D_rot_j1 k a1 a2 a3 a4 (decide (a4 = 1)))
      (curve_Hilbert4D_rot_j1 k a1 a2 a3 a4 (decide (a4 = 2))))

theorem curve_Hilbert4D_rot_sim {k : Nat} {wa3 : Gs} (a0_0 : Int) (a1 : Bool) (a2 : Int) (a3 : List Int) (a4 : Int) {out : (List Int)} (hp : curve_Hilbert4D_rot k a0_0 a1 a2 a3 a4 = some out) : Go.Sx.Fn Tryd.prog 40 [(Ag [(Vl (.int .i64 a0_0))]), (Vl (.bool a1)), (Vl (.int .i64 a2)), (Vl (Vs wa3)), (Vl (.int .i64 a4))] [(Rw (Ki .i64) 3 (Vs wa3) a3)] (fun w : Unit => (Vl (.tuple #[]))) (fun w => [(Rw (Ki .i64) 3 (Vs wa3) out)]) := by
  unfold curve_Hilbert4D_rot at hp
  refine fn_of Tryd.func40 rfl Tryd.ntmps40 rfl fun E hM => ?_
  refine cx_seq' fun K1 hK1 => ?_
  refine cx_region' ?_
  refine sx_ox' (ox_box' rfl (lv_ag _) rfl rfl) (wt_none' rfl) fun q5 => ?_
  refine sx_nil' ?_
  show TX E K1 _
  refine tx_k' hK1 ?_
  refine cx_seq' fun K2 hK2 => ?_
  refine cx_region' ?_
  refine sx_rd' (rd_move' rfl) rfl rfl (wt_none' rfl) ?_
  refine sx_nil' ?_
  show TX E K2 _
  refine tx_k' hK2 ?_
  refine cx_block' ?_
  refine cx_seq' fun K3 hK3 => ?_
  refine cx_region' ?_
  refine sx_rd' (rd_bin' rfl rfl eg_int ru_eql) rfl rfl (wt_none' rfl) ?_
  refine sx_rd' (rd_assign' rfl) rfl rfl (wt_none' rfl) ?_
  refine sx_nil' ?_
  show TX E K3 _
  refine tx_k' hK3 ?_
  refine cx_cond' rfl (fun h1 => ?_) (fun h1 => ?_)
  · replace hp := (br_t h1).symm.trans hp
    refine cx_region' ?_
    refine sx_rd' (rd_move' rfl) rfl rfl (wt_none' rfl) ?_
    refine sx_rd' (rd_move' rfl) rfl rfl (wt_none' rfl) ?_
    refine sx_rd' (rd_move' rfl) rfl rfl (wt_none' rfl) ?_
    refine sx_rd' (rd_build' (pls := [(0, 1), (1, 1)]) (qs := [(0, [(Vl (.int .i64 1))]), (1, [(Vl (.int .i64 3))])]) (r := [(Vl (.int .i64 1)), (Vl (.int .i64 3))]) ⟨rfl, ⟨_, rfl, (lv_vl rfl rfl)⟩, ⟨rfl, ⟨_, rfl, (lv_vl rfl rfl)⟩, trivial⟩⟩ Tryd.underlying86 has86 places86 info86 rfl rfl rfl) rfl rfl (wt_none' rfl) ?_
    refine sx_rd' (rd_build' (pls := [(0, 1), (1, 1)]) (qs := [(0, [(Vl (.int .i64 0))]), (1, [(Vl (.int .i64 3))])]) (r := [(Vl (.int .i64 0)), (Vl (.int .i64 3))]) ⟨rfl, ⟨_, rfl, (lv_vl rfl rfl)⟩, ⟨rfl, ⟨_, rfl, (lv_vl rfl rfl)⟩, trivial⟩⟩ Tryd.underlying86 has86 places86 info86 rfl rfl rfl) rfl rfl (wt_none' rfl) ?_
    obtain ⟨r18, hr18, hp⟩ := bind_some hp
    refine sx_ox' (ox_callg' (ent_fn' Tryd.func46 isn46 rfl rfl) (curve_swap_sim _ _ _ _ _ _ _ hr18 : Go.Sx.Fn Tryd.prog 46 [(Vl (.bool a1)), (Vl (.int .i64 a2)), (Vl (Vs wa3)), (Ag [(Vl (.int .i64 1)), (Vl (.int .i64 3))]), (Ag [(Vl (.int .i64 0)), (Vl (.int .i64 3))])] [(Rw (Ki .i64) 3 (Vs wa3) a3)] (fun x : Unit => (Vl (.tuple #[]))) (fun x => [(Rw (Ki .i64) 3 (Vs wa3) r18)])) [1] [0] (by decide) (pick_cons rfl pick_nil) (pick_cons rfl pick_nil) (Hn := fun x : Unit => [(Rw (Ki .i64) 3 (Vs wa3) r18), ⟨.pointer (some q5), [(Vl (.int .i64 a0_0))], 66, none⟩]) (fun _ => rfl) rfl rfl) (wt_none' rfl) fun ⟨⟩ => ?_
    refine sx_nil' ?_
    replace hp := Option.some.inj hp
    subst hp
    refine tx_pick' (L' := []) (H' := [(Rw (Ki .i64) 3 (Vs wa3) r18)]) [0] sub_nil (by decide) (pick_cons rfl pick_nil) ?_
    exact tx_end0' Tryd.results40 rfl () rfl (List.Sublist.refl _)
  · replace hp := (br_f h1).symm.trans hp
    refine cx_join' (fun (v1 : Bool) => (⟨88, [], [(1, (Vl (.bool a1))), (2, (Vl (.int .i64 a2))), (3, (Vl (Vs wa3))), (10, (Vl (.int .i64 a4))), (19, (Vl (.bool v1)))], [(Rw (Ki .i64) 3 (Vs wa3) a3)]⟩ : St)) (fun (v1 : Bool) => curve_Hilbert4D_rot_j1 k a1 a2 a3 a4 v1 = some out) ?_ ?_
    · rintro x1 hp
      replace hp : curve_Hilbert4D_rot_j1 k a1 a2 a3 a4 x1 = some out := hp
      unfold curve_Hilbert4D_rot_j1 at hp
      refine cx_cond' rfl (fun h3 => ?_) (fun h3 => ?_)
      · replace hp := (br_t h3).symm.trans hp
        refine cx_region' ?_
        refine sx_rd' (rd_move' rfl) rfl rfl (wt_none' rfl) ?_
        refine sx_rd' (rd_move' rfl) rfl rfl (wt_none' rfl) ?_
        refine sx_rd' (rd_move' rfl) rfl rfl (wt_none' rfl) ?_
        refine sx_rd' (rd_build' (pls := [(0, 1), (1, 1)]) (qs := [(0, [(Vl (.int .i64 0))]), (1, [(Vl (.int .i64 3))])]) (r := [(Vl (.int .i64 0)), (Vl (.int .i64 3))]) ⟨rfl, ⟨_, rfl, (lv_vl rfl rfl)⟩, ⟨rfl, ⟨_, rfl, (lv_vl rfl rfl)⟩, trivial⟩⟩ Tryd.underlying86 has86 places86 info86 rfl rfl rfl) rfl rfl (wt_none' rfl) ?_
        refine sx_rd' (rd_build' (pls := [(0, 1), (1, 1)]) (qs := [(0, [(Vl (.int .i64 1))]), (1, [(Vl (.int .i64 3))])]) (r := [(Vl (.int .i64 1)), (Vl (.int .i64 3))]) ⟨rfl, ⟨_, rfl, (lv_vl rfl rfl)⟩, ⟨rfl, ⟨_, rfl, (lv_vl rfl rfl)⟩, trivial⟩⟩ Tryd.underlying86 has86 places86 info86 rfl rfl rfl) rfl rfl (wt_none' rfl) ?_
        obtain ⟨r27, hr27, hp⟩ := bind_some hp
        refine sx_ox' (ox_callg' (ent_fn' Tryd.func46 isn46 rfl rfl) (curve_swap_sim _ _ _ _ _ _ _ hr27 : Go.Sx.Fn Tryd.prog 46 [(Vl (.bool a1)), (Vl (.int .i64 a2)), (Vl (Vs wa3)), (Ag [(Vl (.int .i64 0)), (Vl (.int .i64 3))]), (Ag [(Vl (.int .i64 1)), (Vl (.int .i64 3))])] [(Rw (Ki .i64) 3 (Vs wa3) a3)] (fun x : Unit => (Vl (.tuple #[]))) (fun x => [(Rw (Ki .i64) 3 (Vs wa3) r27)])) [0] [] (by decide) (pick_cons rfl pick_nil) pick_nil (Hn := fun x : Unit => [(Rw (Ki .i64) 3 (Vs wa3) r27)]) (fun _ => rfl) rfl rfl) (wt_none' rfl) fun ⟨⟩ => ?_
        refine sx_nil' ?_
        replace hp := Option.some.inj hp
        subst hp
        refine tx_pick' (L' := []) (H' := [(Rw (Ki .i64) 3 (Vs wa3) r27)]) [0] sub_nil (by decide) (pick_cons rfl pick_nil) ?_
        exact tx_end0' Tryd.results40 rfl () rfl (List.Sublist.refl _)
      · replace hp := (br_f h3).symm.trans hp
        refine cx_join' (fun (v2 : Bool) => (⟨88, [], [(1, (Vl (.bool a1))), (2, (Vl (.int .i64 a2))), (3, (Vl (Vs wa3))), (10, (Vl (.int .i64 a4))), (28, (Vl (.bool v2)))], [(Rw (Ki .i64) 3 (Vs wa3) a3)]⟩ : St)) (fun (v2 : Bool) => curve_Hilbert4D_rot_j2 k a1 a2 a3 a4 v2 = some out) ?_ ?_
        · rintro x2 hp
          replace hp : curve_Hilbert4D_rot_j2 k a1 a2 a3 a4 x2 = some out := hp
          unfold curve_Hilbert4D_rot_j2 at hp
          refine cx_cond' rfl (fun h5 => ?_) (fun h5 => ?_)
          · replace hp := (br_t h5).symm.trans hp
            refine cx_region' ?_
            refine sx_rd' (rd_move' rfl) rfl rfl (wt_none' rfl) ?_
            refine sx_rd' (rd_move' rfl) rfl rfl (wt_none' rfl) ?_
            refine sx_rd' (rd_move' rfl) rfl rfl (wt_none' rfl) ?_
            refine sx_rd' (rd_build' (pls := [(0, 1), (1, 1)]) (qs := [(0, [(Vl (.int .i64 0))]), (1, [(Vl (.int .i64 1))])]) (r := [(Vl (.int .i64 0)), (Vl (.int .i64 1))]) ⟨rfl, ⟨_, rfl, (lv_vl rfl rfl)⟩, ⟨rfl, ⟨_, rfl, (lv_vl rfl rfl)⟩, trivial⟩⟩ Tryd.underlying88 has88 places88 info88 rfl rfl rfl) rfl rfl (wt_none' rfl) ?_
            refine sx_rd' (rd_build' (pls := [(0, 1), (1, 1)]) (qs := [(0, [(Vl (.int .i64 2))]), (1, [(Vl (.int .i64 3))])]) (r := [(Vl (.int .i64 2)), (Vl (.int .i64 3))]) ⟨rfl, ⟨_, rfl, (lv_vl rfl rfl)⟩, ⟨rfl, ⟨_, rfl, (lv_vl rfl rfl)⟩, trivial⟩⟩ Tryd.underlying86 has86 places86 info86 rfl rfl rfl) rfl rfl (wt_none' rfl) ?_
            obtain ⟨r36, hr36, hp⟩ := bind_some hp
            refine sx_ox' (ox_callg' (ent_fn' Tryd.func49 isn49 rfl rfl) (curve_swap_v2_sim _ _ _ _ _ _ _ hr36 : Go.Sx.Fn Tryd.prog 49 [(Vl (.bool a1)), (Vl (.int .i64 a2)), (Vl (Vs wa3)), (Ag [(Vl (.int .i64 0)), (Vl (.int .i64 1))]), (Ag [(Vl (.int .i64 2)), (Vl (.int .i64 3))])] [(Rw (Ki .i64) 3 (Vs wa3) a3)] (fun x : Unit => (Vl (.tuple #[]))) (fun x => [(Rw (Ki .i64) 3 (Vs wa3) r36)])) [0] [] (by decide) (pick_cons rfl pick_nil) pick_nil (Hn := fun x : Unit => [(Rw (Ki .i64) 3 (Vs wa3) r36)]) (fun _ => rfl) rfl rfl) (wt_none' rfl) fun ⟨⟩ => ?_
            refine sx_nil' ?_
            replace hp := Option.some.inj hp
            subst hp
            refine tx_pick' (L' := []) (H' := [(Rw (Ki .i64) 3 (Vs wa3) r36)]) [0] sub_nil (by decide) (pick_cons rfl pick_nil) ?_
            exact tx_end0' Tryd.results40 rfl () rfl (List.Sublist.refl _)
          · replace hp := (br_f h5).symm.trans hp
            refine cx_join' (fun (v3 : Bool) => (⟨88, [], [(1, (Vl (.bool a1))), (2, (Vl (.int .i64 a2))), (3, (Vl (Vs wa3))), (10, (Vl (.int .i64 a4))), (37, (Vl (.bool v3)))], [(Rw (Ki .i64) 3 (Vs wa3) a3)]⟩ : St)) (fun (v3 : Bool) => curve_Hilbert4D_rot_j3 k a1 a2 a3 a4 v3 = some out) ?_ ?_
            · rintro x3 hp
              replace hp : curve_Hilbert4D_rot_j3 k a1 a2 a3 a4 x3 = some out := hp
              unfold curve_Hilbert4D_rot_j3 at hp
              refine cx_cond' rfl (fun h7 => ?_) (fun h7 => ?_)
              · replace hp := (br_t h7).symm.trans hp
                refine cx_region' ?_
                refine sx_rd' (rd_move' rfl) rfl rfl (wt_none' rfl) ?_
                refine sx_rd' (rd_move' rfl) rfl rfl (wt_none' rfl) ?_
                refine sx_rd' (rd_move' rfl) rfl rfl (wt_none' rfl) ?_
                refine sx_rd' (rd_build' (pls := [(0, 1), (1, 1)]) (qs := [(0, [(Vl (.int .i64 1))]), (1, [(Vl (.int .i64 2))])]) (r := [(Vl (.int .i64 1)), (Vl (.int .i64 2))]) ⟨rfl, ⟨_, rfl, (lv_vl rfl rfl)⟩, ⟨rfl, ⟨_, rfl, (lv_vl rfl rfl)⟩, trivial⟩⟩ Tryd.underlying88 has88 places88 info88 rfl rfl rfl) rfl rfl (wt_none' rfl) ?_
                refine sx_rd' (rd_build' (pls := [(0, 1), (1, 1)]) (qs := [(0, [(Vl (.int .i64 2))]), (1, [(Vl (.int .i64 3))])]) (r := [(Vl (.int .i64 2)), (Vl (.int .i64 3))]) ⟨rfl, ⟨_, rfl, (lv_vl rfl rfl)⟩, ⟨rfl, ⟨_, rfl, (lv_vl rfl rfl)⟩, trivial⟩⟩ Tryd.underlying86 has86 places86 info86 rfl rfl rfl) rfl rfl (wt_none' rfl) ?_
                obtain ⟨r45, hr45, hp⟩ := bind_some hp
                refine sx_ox' (ox_callg' (ent_fn' Tryd.func49 isn49 rfl rfl) (curve_swap_v2_sim _ _ _ _ _ _ _ hr45 : Go.Sx.Fn Tryd.prog 49 [(Vl (.bool a1)), (Vl (.int .i64 a2)), (Vl (Vs wa3)), (Ag [(Vl (.int .i64 1)), (Vl (.int .i64 2))]), (Ag [(Vl (.int .i64 2)), (Vl (.int .i64 3))])] [(Rw (Ki .i64) 3 (Vs wa3) a3)] (fun x : Unit => (Vl (.tuple #[]))) (fun x => [(Rw (Ki .i64) 3 (Vs wa3) r45)])) [0] [] (by decide) (pick_cons rfl pick_nil) pick_nil (Hn := fun x : Unit => [(Rw (Ki .i64) 3 (Vs wa3) r45)]) (fun _ => rfl) rfl rfl) (wt_none' rfl) fun ⟨⟩ => ?_
                refine sx_nil' ?_
                replace hp := Option.some.inj hp
                subst hp
                refine tx_pick' (L' := []) (H' := [(Rw (Ki .i64) 3 (Vs wa3) r45)]) [0] sub_nil (by decide) (pick_cons rfl pick_nil) ?_
                exact tx_end0' Tryd.results40 rfl () rfl (List.Sublist.refl _)
              · replace hp := (br_f h7).symm.trans hp
                refine cx_join' (fun (v4 : Bool) => (⟨88, [], [(1, (Vl (.bool a1))), (2, (Vl (.int .i64 a2))), (3, (Vl (Vs wa3))), (10, (Vl (.int .i64 a4))), (46, (Vl (.bool v4)))], [(Rw (Ki .i64) 3 (Vs wa3) a3)]⟩ : St)) (fun (v4 : Bool) => curve_Hilbert4D_rot_j4 k a2 a3 a4 a1 v4 = some out) ?_ ?_
                · rintro x4 hp
                  replace hp : curve_Hilbert4D_rot_j4 k a2 a3 a4 a1 x4 = some out := hp
                  unfold curve_Hilbert4D_rot_j4 at hp
                  refine cx_cond' rfl (fun h9 => ?_) (fun h9 => ?_)
                  · replace hp := (br_t h9).symm.trans hp
                    refine cx_region' ?_
                    refine sx_rd' (rd_build' (pls := [(0, 1), (1, 1)]) (qs := [(0, [(Vl (.int .i64 0))]), (1, [(Vl (.int .i64 2))])]) (r := [(Vl (.int .i64 0)), (Vl (.int .i64 2))]) ⟨rfl, ⟨_, rfl, (lv_vl rfl rfl)⟩, ⟨rfl, ⟨_, rfl, (lv_vl rfl rfl)⟩, trivial⟩⟩ Tryd.underlying90 has90 places90 info90 rfl rfl rfl) rfl rfl (wt_none' rfl) ?_
                    refine sx_rd' (rd_move' rfl) rfl rfl (wt_none' rfl) ?_
                    refine sx_rd' (rd_move' rfl) rfl rfl (wt_none' rfl) ?_
                    obtain ⟨r52, hr52, hp⟩ := bind_some hp
                    refine sx_ox' (ox_callg' (ent_fn' Tryd.func47 isn47 rfl rfl) (curve_invert_do_sim _ _ _ _ hr52 : Go.Sx.Fn Tryd.prog 47 [(Ag [(Vl (.int .i64 0)), (Vl (.int .i64 2))]), (Vl (.int .i64 a2)), (Vl (Vs wa3))] [(Rw (Ki .i64) 3 (Vs wa3) a3)] (fun x : Unit => (Vl (.tuple #[]))) (fun x => [(Rw (Ki .i64) 3 (Vs wa3) r52)])) [0] [] (by decide) (pick_cons rfl pick_nil) pick_nil (Hn := fun x : Unit => [(Rw (Ki .i64) 3 (Vs wa3) r52)]) (fun _ => rfl) rfl rfl) (wt_none' rfl) fun ⟨⟩ => ?_
                    refine sx_nil' ?_
                    replace hp := Option.some.inj hp
                    subst hp
                    refine tx_pick' (L' := []) (H' := [(Rw (Ki .i64) 3 (Vs wa3) r52)]) [0] sub_nil (by decide) (pick_cons rfl pick_nil) ?_
                    exact tx_end0' Tryd.results40 rfl () rfl (List.Sublist.refl _)
                  · replace hp := (br_f h9).symm.trans hp
                    refine cx_join' (fun (v5 : Bool) => (⟨88, [], [(1, (Vl (.bool a1))), (2, (Vl (.int .i64 a2))), (3, (Vl (Vs wa3))), (10, (Vl (.int .i64 a4))), (53, (Vl (.bool v5)))], [(Rw (Ki .i64) 3 (Vs wa3) a3)]⟩ : St)) (fun (v5 : Bool) => curve_Hilbert4D_rot_j5 k a1 a2 a3 a4 v5 = some out) ?_ ?_
                    · rintro x5 hp
                      replace hp : curve_Hilbert4D_rot_j5 k a1 a2 a3 a4 x5 = some out := hp
                      unfold curve_Hilbert4D_rot_j5 at hp
                      refine cx_cond' rfl (fun h11 => ?_) (fun h11 => ?_)
                      · replace hp := (br_t h11).symm.trans hp
                        refine cx_region' ?_
                        refine sx_rd' (rd_move' rfl) rfl rfl (wt_none' rfl) ?_
                        refine sx_rd' (rd_move' rfl) rfl rfl (wt_none' rfl) ?_
                        refine sx_rd' (rd_move' rfl) rfl rfl (wt_none' rfl) ?_
                        refine sx_rd' (rd_build' (pls := [(0, 1), (1, 1)]) (qs := [(0, [(Vl (.int .i64 1))]), (1, [(Vl (.int .i64 2))])]) (r := [(Vl (.int .i64 1)), (Vl (.int .i64 2))]) ⟨rfl, ⟨_, rfl, (lv_vl rfl rfl)⟩, ⟨rfl, ⟨_, rfl, (lv_vl rfl rfl)⟩, trivial⟩⟩ Tryd.underlying88 has88 places88 info88 rfl rfl rfl) rfl rfl (wt_none' rfl) ?_
                        refine sx_rd' (rd_build' (pls := [(0, 1), (1, 1)]) (qs := [(0, [(Vl (.int .i64 2))]), (1, [(Vl (.int .i64 3))])]) (r := [(Vl (.int .i64 2)), (Vl (.int .i64 3))]) ⟨rfl, ⟨_, rfl, (lv_vl rfl rfl)⟩, ⟨rfl, ⟨_, rfl, (lv_vl rfl rfl)⟩, trivial⟩⟩ Tryd.underlying88 has88 places88 info88 rfl rfl rfl) rfl rfl (wt_none' rfl) ?_
                        obtain ⟨r61, hr61, hp⟩ := bind_some hp
                        refine sx_ox' (ox_callg' (ent_fn' Tryd.func48 isn48 rfl rfl) (curve_flip_sim _ _ _ _ _ _ _ hr61 : Go.Sx.Fn Tryd.prog 48 [(Vl (.bool a1)), (Vl (.int .i64 a2)), (Vl (Vs wa3)), (Ag [(Vl (.int .i64 1)), (Vl (.int .i64 2))]), (Ag [(Vl (.int .i64 2)), (Vl (.int .i64 3))])] [(Rw (Ki .i64) 3 (Vs wa3) a3)] (fun x : Unit => (Vl (.tuple #[]))) (fun x => [(Rw (Ki .i64) 3 (Vs wa3) r61)])) [0] [] (by decide) (pick_cons rfl pick_nil) pick_nil (Hn := fun x : Unit => [(Rw (Ki .i64) 3 (Vs wa3) r61)]) (fun _ => rfl) rfl rfl) (wt_none' rfl) fun ⟨⟩ => ?_
                        refine sx_nil' ?_
                        replace hp := Option.some.inj hp
                        subst hp
                        refine tx_pick' (L' := []) (H' := [(Rw (Ki .i64) 3 (Vs wa3) r61)]) [0] sub_nil (by decide) (pick_cons rfl pick_nil) ?_
                        exact tx_end0' Tryd.results40 rfl () rfl (List.Sublist.refl _)
                      · replace hp := (br_f h11).symm.trans hp
                        refine cx_join' (fun (v6 : Bool) => (⟨88, [], [(1, (Vl (.bool a1))), (2, (Vl (.int .i64 a2))), (3, (Vl (Vs wa3))), (10, (Vl (.int .i64 a4))), (62, (Vl (.bool v6)))], [(Rw (Ki .i64) 3 (Vs wa3) a3)]⟩ : St)) (fun (v6 : Bool) => curve_Hilbert4D_rot_j6 k a1 a2 a3 a4 v6 = some out) ?_ ?_
                        · rintro x6 hp
                          replace hp : curve_Hilbert4D_rot_j6 k a1 a2 a3 a4 x6 = some out := hp
                          unfold curve_Hilbert4D_rot_j6 at hp
                          refine cx_cond' rfl (fun h13 => ?_) (fun h13 => ?_)
                          · replace hp := (br_t h13).symm.trans hp
                            refine cx_region' ?_
                            refine sx_rd' (rd_move' rfl) rfl rfl (wt_none' rfl) ?_
                            refine sx_rd' (rd_move' rfl) rfl rfl (wt_none' rfl) ?_
                            refine sx_rd' (rd_move' rfl) rfl rfl (wt_none' rfl) ?_
                            refine sx_rd' (rd_build' (pls := [(0, 1), (1, 1)]) (qs := [(0, [(Vl (.int .i64 0))]), (1, [(Vl (.int .i64 1))])]) (r := [(Vl (.int .i64 0)), (Vl (.int .i64 1))]) ⟨rfl, ⟨_, rfl, (lv_vl rfl rfl)⟩, ⟨rfl, ⟨_, rfl, (lv_vl rfl rfl)⟩, trivial⟩⟩ Tryd.underlying88 has88 places88 info88 rfl rfl rfl) rfl rfl (wt_none' rfl) ?_
                            refine sx_rd' (rd_build' (pls := [(0, 1), (1, 1)]) (qs := [(0, [(Vl (.int .i64 2))]), (1, [(Vl (.int .i64 3))])]) (r := [(Vl (.int .i64 2)), (Vl (.int .i64 3))]) ⟨rfl, ⟨_, rfl, (lv_vl rfl rfl)⟩, ⟨rfl, ⟨_, rfl, (lv_vl rfl rfl)⟩, trivial⟩⟩ Tryd.underlying88 has88 places88 info88 rfl rfl rfl) rfl rfl (wt_none' rfl) ?_
                            obtain ⟨r70, hr70, hp⟩ := bind_some hp
                            refine sx_ox' (ox_callg' (ent_fn' Tryd.func48 isn48 rfl rfl) (curve_flip_sim _ _ _ _ _ _ _ hr70 : Go.Sx.Fn Tryd.prog 48 [(Vl (.bool a1)), (Vl (.int .i64 a2)), (Vl (Vs wa3)), (Ag [(Vl (.int .i64 0)), (Vl (.int .i64 1))]), (Ag [(Vl (.int .i64 2)), (Vl (.int .i64 3))])] [(Rw (Ki .i64) 3 (Vs wa3) a3)] (fun x : Unit => (Vl (.tuple #[]))) (fun x => [(Rw (Ki .i64) 3 (Vs wa3) r70)])) [0] [] (by decide) (pick_cons rfl pick_nil) pick_nil (Hn := fun x : Unit => [(Rw (Ki .i64) 3 (Vs wa3) r70)]) (fun _ => rfl) rfl rfl) (wt_none' rfl) fun ⟨⟩ => ?_
                            refine sx_nil' ?_
                            replace hp := Option.some.inj hp
                            subst hp
                            refine tx_pick' (L' := []) (H' := [(Rw (Ki .i64) 3 (Vs wa3) r70)]) [0] sub_nil (by decide) (pick_cons rfl pick_nil) ?_
                            exact tx_end0' Tryd.results40 rfl () rfl (List.Sublist.refl _)
                          · replace hp := (br_f h13).symm.trans hp
                            refine cx_join' (fun (v7 : Bool) => (⟨88, [], [(1, (Vl (.bool a1))), (2, (Vl (.int .i64 a2))), (3, (Vl (Vs wa3))), (10, (Vl (.int .i64 a4))), (71, (Vl (.bool v7)))], [(Rw (Ki .i64) 3 (Vs wa3) a3)]⟩ : St)) (fun (v7 : Bool) => curve_Hilbert4D_rot_j7 k a1 a2 a3 a4 v7 = some out) ?_ ?_
                            · rintro x7 hp
                              replace hp : curve_Hilbert4D_rot_j7 k a1 a2 a3 a4 x7 = some out := hp
                              unfold curve_Hilbert4D_rot_j7 at hp
                              refine cx_cond' rfl (fun h15 => ?_) (fun h15 => ?_)
                              · replace hp := (br_t h15).symm.trans hp
                                refine cx_region' ?_
                                refine sx_rd' (rd_move' rfl) rfl rfl (wt_none' rfl) ?_
                                refine sx_rd' (rd_move' rfl) rfl rfl (wt_none' rfl) ?_
                                refine sx_rd' (rd_move' rfl) rfl rfl (wt_none' rfl) ?_
                                refine sx_rd' (rd_build' (pls := [(0, 1), (1, 1)]) (qs := [(0, [(Vl (.int .i64 0))]), (1, [(Vl (.int .i64 3))])]) (r := [(Vl (.int .i64 0)), (Vl (.int .i64 3))]) ⟨rfl, ⟨_, rfl, (lv_vl rfl rfl)⟩, ⟨rfl, ⟨_, rfl, (lv_vl rfl rfl)⟩, trivial⟩⟩ Tryd.underlying88 has88 places88 info88 rfl rfl rfl) rfl rfl (wt_none' rfl) ?_
                                refine sx_rd' (rd_build' (pls := [(0, 1), (1, 1)]) (qs := [(0, [(Vl (.int .i64 1))]), (1, [(Vl (.int .i64 3))])]) (r := [(Vl (.int .i64 1)), (Vl (.int .i64 3))]) ⟨rfl, ⟨_, rfl, (lv_vl rfl rfl)⟩, ⟨rfl, ⟨_, rfl, (lv_vl rfl rfl)⟩, trivial⟩⟩ Tryd.underlying88 has88 places88 info88 rfl rfl rfl) rfl rfl (wt_none' rfl) ?_
                                obtain ⟨r79, hr79, hp⟩ := bind_some hp
                                refine sx_ox' (ox_callg' (ent_fn' Tryd.func48 isn48 rfl rfl) (curve_flip_sim _ _ _ _ _ _ _ hr79 : Go.Sx.Fn Tryd.prog 48 [(Vl (.bool a1)), (Vl (.int .i64 a2)), (Vl (Vs wa3)), (Ag [(Vl (.int .i64 0)), (Vl (.int .i64 3))]), (Ag [(Vl (.int .i64 1)), (Vl (.int .i64 3))])] [(Rw (Ki .i64) 3 (Vs wa3) a3)] (fun x : Unit => (Vl (.tuple #[]))) (fun x => [(Rw (Ki .i64) 3 (Vs wa3) r79)])) [0] [] (by decide) (pick_cons rfl pick_nil) pick_nil (Hn := fun x : Unit => [(Rw (Ki .i64) 3 (Vs wa3) r79)]) (fun _ => rfl) rfl rfl) (wt_none' rfl) fun ⟨⟩ => ?_
                                refine sx_nil' ?_
                                replace hp := Option.some.inj hp
                                subst hp
                                refine tx_pick' (L' := []) (H' := [(Rw (Ki .i64) 3 (Vs wa3) r79)]) [0] sub_nil (by decide) (pick_cons rfl pick_nil) ?_
                                exact tx_end0' Tryd.results40 rfl () rfl (List.Sublist.refl _)
                              · replace hp := (br_f h15).symm.trans hp
                                refine cx_seq' fun K18 hK18 => ?_
                                refine cx_region' ?_
                                refine sx_rd' (rd_bin' rfl rfl eg_int ru_eql) rfl rfl (wt_none' rfl) ?_
                                refine sx_rd' (rd_assign' rfl) rfl rfl (wt_none' rfl) ?_
                                refine sx_nil' ?_
                                show TX E K18 _
                                refine tx_k' hK18 ?_
                                refine cx_cond' rfl (fun h16 => ?_) (fun h16 => ?_)
                                · replace hp := (br_t h16).symm.trans hp
                                  refine cx_region' ?_
                                  refine sx_rd' (rd_move' rfl) rfl rfl (wt_none' rfl) ?_
                                  refine sx_rd' (rd_move' rfl) rfl rfl (wt_none' rfl) ?_
                                  refine sx_rd' (rd_move' rfl) rfl rfl (wt_none' rfl) ?_
                                  refine sx_rd' (rd_build' (pls := [(0, 1), (1, 1)]) (qs := [(0, [(Vl (.int .i64 1))]), (1, [(Vl (.int .i64 3))])]) (r := [(Vl (.int .i64 1)), (Vl (.int .i64 3))]) ⟨rfl, ⟨_, rfl, (lv_vl rfl rfl)⟩, ⟨rfl, ⟨_, rfl, (lv_vl rfl rfl)⟩, trivial⟩⟩ Tryd.underlying88 has88 places88 info88 rfl rfl rfl) rfl rfl (wt_none' rfl) ?_
                                  refine sx_rd' (rd_build' (pls := [(0, 1), (1, 1)]) (qs := [(0, [(Vl (.int .i64 0))]), (1, [(Vl (.int .i64 3))])]) (r := [(Vl (.int .i64 0)), (Vl (.int .i64 3))]) ⟨rfl, ⟨_, rfl, (lv_vl rfl rfl)⟩, ⟨rfl, ⟨_, rfl, (lv_vl rfl rfl)⟩, trivial⟩⟩ Tryd.underlying88 has88 places88 info88 rfl rfl rfl) rfl rfl (wt_none' rfl) ?_
                                  obtain ⟨r87, hr87, hp⟩ := bind_some hp
                                  refine sx_ox' (ox_callg' (ent_fn' Tryd.func48 isn48 rfl rfl) (curve_flip_sim _ _ _ _ _ _ _ hr87 : Go.Sx.Fn Tryd.prog 48 [(Vl (.bool a1)), (Vl (.int .i64 a2)), (Vl (Vs wa3)), (Ag [(Vl (.int .i64 1)), (Vl (.int .i64 3))]), (Ag [(Vl (.int .i64 0)), (Vl (.int .i64 3))])] [(Rw (Ki .i64) 3 (Vs wa3) a3)] (fun x : Unit => (Vl (.tuple #[]))) (fun x => [(Rw (Ki .i64) 3 (Vs wa3) r87)])) [0] [] (by decide) (pick_cons rfl pick_nil) pick_nil (Hn := fun x : Unit => [(Rw (Ki .i64) 3 (Vs wa3) r87)]) (fun _ => rfl) rfl rfl) (wt_none' rfl) fun ⟨⟩ => ?_
                                  refine sx_nil' ?_
                                  replace hp := Option.some.inj hp
                                  subst hp
                                  refine tx_pick' (L' := []) (H' := [(Rw (Ki .i64) 3 (Vs wa3) r87)]) [0] sub_nil (by decide) (pick_cons rfl pick_nil) ?_
                                  exact tx_end0' Tryd.results40 rfl () rfl (List.Sublist.refl _)
                                · replace hp := (br_f h16).symm.trans hp
                                  refine cx_skip' ?_
                                  replace hp := Option.some.inj hp
                                  subst hp
                                  refine tx_pick' (L' := []) (H' := [(Rw (Ki .i64) 3 (Vs wa3) a3)]) [0] sub_nil (by decide) (pick_cons rfl pick_nil) ?_
                                  exact tx_end0' Tryd.results40 rfl () rfl (List.Sublist.refl _)
                            · intro K16 hK16
                              refine cx_seq' fun K17 hK17 => ?_
                              refine cx_region' ?_
                              refine sx_rd' (rd_bin' rfl rfl eg_int ru_eql) rfl rfl (wt_none' rfl) ?_
                              refine sx_rd' (rd_assign' rfl) rfl rfl (wt_none' rfl) ?_
                              refine sx_nil' ?_
                              show TX E K17 _
                              refine tx_k' hK17 ?_
                              refine cx_cond' rfl (fun h14 => ?_) (fun h14 => ?_)
                              · replace hp := (br_t h14).symm.trans hp
                                refine cx_skip' ?_
                                show TX E K16 _
                                exact tx_pick' [0] (sub_cons rfl (sub_cons rfl (sub_cons rfl (sub_cons rfl (sub_cons rfl sub_nil))))) (by decide) (pick_cons rfl pick_nil) (hK16 (decide (a4 = 13)) hp)
                              · replace hp := (br_f h14).symm.trans hp
                                refine cx_region' ?_
                                refine sx_rd' (rd_bin' rfl rfl eg_int ru_eql) rfl rfl (wt_none' rfl) ?_
                                refine sx_rd' (rd_assign' rfl) rfl rfl (wt_none' rfl) ?_
                                refine sx_nil' ?_
                                show TX E K16 _
                                exact tx_pick' [0] (sub_cons rfl (sub_cons rfl (sub_cons rfl (sub_cons rfl (sub_cons rfl sub_nil))))) (by decide) (pick_cons rfl pick_nil) (hK16 (decide (a4 = 14)) hp)
                        · intro K14 hK14
                          refine cx_seq' fun K15 hK15 => ?_
                          refine cx_region' ?_
                          refine sx_rd' (rd_bin' rfl rfl eg_int ru_eql) rfl rfl (wt_none' rfl) ?_
                          refine sx_rd' (rd_assign' rfl) rfl rfl (wt_none' rfl) ?_
                          refine sx_nil' ?_
                          show TX E K15 _
                          refine tx_k' hK15 ?_
                          refine cx_cond' rfl (fun h12 => ?_) (fun h12 => ?_)
                          · replace hp := (br_t h12).symm.trans hp
                            refine cx_skip' ?_
                            show TX E K14 _
                            exact tx_pick' [0] (sub_cons rfl (sub_cons rfl (sub_cons rfl (sub_cons rfl (sub_cons rfl sub_nil))))) (by decide) (pick_cons rfl pick_nil) (hK14 (decide (a4 = 11)) hp)
                          · replace hp := (br_f h12).symm.trans hp
                            refine cx_region' ?_
                            refine sx_rd' (rd_bin' rfl rfl eg_int ru_eql) rfl rfl (wt_none' rfl) ?_
                            refine sx_rd' (rd_assign' rfl) rfl rfl (wt_none' rfl) ?_
                            refine sx_nil' ?_
                            show TX E K14 _
                            exact tx_pick' [0] (sub_cons rfl (sub_cons rfl (sub_cons rfl (sub_cons rfl (sub_cons rfl sub_nil))))) (by decide) (pick_cons rfl pick_nil) (hK14 (decide (a4 = 12)) hp)
                    · intro K12 hK12
                      refine cx_seq' fun K13 hK13 => ?_
                      refine cx_region' ?_
                      refine sx_rd' (rd_bin' rfl rfl eg_int ru_eql) rfl rfl (wt_none' rfl) ?_
                      refine sx_rd' (rd_assign' rfl) rfl rfl (wt_none' rfl) ?_
                      refine sx_nil' ?_
                      show TX E K13 _
                      refine tx_k' hK13 ?_
                      refine cx_cond' rfl (fun h10 => ?_) (fun h10 => ?_)
                      · replace hp := (br_t h10).symm.trans hp
                        refine cx_skip' ?_
                        show TX E K12 _
                        exact tx_pick' [0] (sub_cons rfl (sub_cons rfl (sub_cons rfl (sub_cons rfl (sub_cons rfl sub_nil))))) (by decide) (pick_cons rfl pick_nil) (hK12 (decide (a4 = 9)) hp)
                      · replace hp := (br_f h10).symm.trans hp
                        refine cx_region' ?_
                        refine sx_rd' (rd_bin' rfl rfl eg_int ru_eql) rfl rfl (wt_none' rfl) ?_
                        refine sx_rd' (rd_assign' rfl) rfl rfl (wt_none' rfl) ?_
                        refine sx_nil' ?_
                        show TX E K12 _
                        exact tx_pick' [0] (sub_cons rfl (sub_cons rfl (sub_cons rfl (sub_cons rfl (sub_cons rfl sub_nil))))) (by decide) (pick_cons rfl pick_nil) (hK12 (decide (a4 = 10)) hp)
                · intro K10 hK10
                  refine cx_seq' fun K11 hK11 => ?_
                  refine cx_region' ?_
                  refine sx_rd' (rd_bin' rfl rfl eg_int ru_eql) rfl rfl (wt_none' rfl) ?_
                  refine sx_rd' (rd_assign' rfl) rfl rfl (wt_none' rfl) ?_
                  refine sx_nil' ?_
                  show TX E K11 _
                  refine tx_k' hK11 ?_
                  refine cx_cond' rfl (fun h8 => ?_) (fun h8 => ?_)
                  · replace hp := (br_t h8).symm.trans hp
                    refine cx_skip' ?_
                    show TX E K10 _
                    exact tx_pick' [0] (sub_cons rfl (sub_cons rfl (sub_cons rfl (sub_cons rfl (sub_cons rfl sub_nil))))) (by decide) (pick_cons rfl pick_nil) (hK10 (decide (a4 = 7)) hp)
                  · replace hp := (br_f h8).symm.trans hp
                    refine cx_region' ?_
                    refine sx_rd' (rd_bin' rfl rfl eg_int ru_eql) rfl rfl (wt_none' rfl) ?_
                    refine sx_rd' (rd_assign' rfl) rfl rfl (wt_none' rfl) ?_
                    refine sx_nil' ?_
                    show TX E K10 _
                    exact tx_pick' [0] (sub_cons rfl (sub_cons rfl (sub_cons rfl (sub_cons rfl (sub_cons rfl sub_nil))))) (by decide) (pick_cons rfl pick_nil) (hK10 (decide (a4 = 8)) hp)
            · intro K8 hK8
              refine cx_seq' fun K9 hK9 => ?_
              refine cx_region' ?_
              refine sx_rd' (rd_bin' rfl rfl eg_int ru_eql) rfl rfl (wt_none' rfl) ?_
              refine sx_rd' (rd_assign' rfl) rfl rfl (wt_none' rfl) ?_
              refine sx_nil' ?_
              show TX E K9 _
              refine tx_k' hK9 ?_
              refine cx_cond' rfl (fun h6 => ?_) (fun h6 => ?_)
              · replace hp := (br_t h6).symm.trans hp
                refine cx_skip' ?_
                show TX E K8 _
                exact tx_pick' [0] (sub_cons rfl (sub_cons rfl (sub_cons rfl (sub_cons rfl (sub_cons rfl sub_nil))))) (by decide) (pick_cons rfl pick_nil) (hK8 (decide (a4 = 5)) hp)
              · replace hp := (br_f h6).symm.trans hp
                refine cx_region' ?_
                refine sx_rd' (rd_bin' rfl rfl eg_int ru_eql) rfl rfl (wt_none' rfl) ?_
                refine sx_rd' (rd_assign' rfl) rfl rfl (wt_none' rfl) ?_
                refine sx_nil' ?_
                show TX E K8 _
                exact tx_pick' [0] (sub_cons rfl (sub_cons rfl (sub_cons rfl (sub_cons rfl (sub_cons rfl sub_nil))))) (by decide) (pick_cons rfl pick_nil) (hK8 (decide (a4 = 6)) hp)
        · intro K6 hK6
          refine cx_seq' fun K7 hK7 => ?_
          refine cx_region' ?_
          refine sx_rd' (rd_bin' rfl rfl eg_int ru_eql) rfl rfl (wt_none' rfl) ?_
          refine sx_rd' (rd_assign' rfl) rfl rfl (wt_none' rfl) ?_
          refine sx_nil' ?_
          show TX E K7 _
          refine tx_k' hK7 ?_
          refine cx_cond' rfl (fun h4 => ?_) (fun h4 => ?_)
          · replace hp := (br_t h4).symm.trans hp
            refine cx_skip' ?_
            show TX E K6 _
            exact tx_pick' [0] (sub_cons rfl (sub_cons rfl (sub_cons rfl (sub_cons rfl (sub_cons rfl sub_nil))))) (by decide) (pick_cons rfl pick_nil) (hK6 (decide (a4 = 3)) hp)
          · replace hp := (br_f h4).symm.trans hp
            refine cx_region' ?_
            refine sx_rd' (rd_bin' rfl rfl eg_int ru_eql) rfl rfl (wt_none' rfl) ?_
            refine sx_rd' (rd_assign' rfl) rfl rfl (wt_none' rfl) ?_
            refine sx_nil' ?_
            show TX E K6 _
            exact tx_pick' [0] (sub_cons rfl (sub_cons rfl (sub_cons rfl (sub_cons rfl (sub_cons rfl sub_nil))))) (by decide) (pick_cons rfl pick_nil) (hK6 (decide (a4 = 4)) hp)
    · intro K4 hK4
      refine cx_seq' fun K5 hK5 => ?_
      refine cx_region' ?_
      refine sx_rd' (rd_bin' rfl rfl eg_int ru_eql) rfl rfl (wt_none' rfl) ?_
      refine sx_rd' (rd_assign' rfl) rfl rfl (wt_none' rfl) ?_
      refine sx_nil' ?_
      show TX E K5 _
      refine tx_k' hK5 ?_
      refine cx_cond' rfl (fun h2 => ?_) (fun h2 => ?_)
      · replace hp := (br_t h2).symm.trans hp
        refine cx_skip' ?_
        show TX E K4 _
        exact tx_pick' [1] (sub_cons rfl (sub_cons rfl (sub_cons rfl (sub_cons rfl (sub_cons rfl sub_nil))))) (by decide) (pick_cons rfl pick_nil) (hK4 (decide (a4 = 1)) hp)
      · replace hp := (br_f h2).symm.trans hp
        refine cx_region' ?_
        refine sx_rd' (rd_bin' rfl rfl eg_int ru_eql) rfl rfl (wt_none' rfl) ?_
        refine sx_rd' (rd_assign' rfl) rfl rfl (wt_none' rfl) ?_
        refine sx_nil' ?_
        show TX E K4 _
        exact tx_pick' [1] (sub_cons rfl (sub_cons rfl (sub_cons rfl (sub_cons rfl (sub_cons rfl sub_nil))))) (by decide) (pick_cons rfl pick_nil) (hK4 (decide (a4 = 2)) hp)

def curve_Hilbert4D_Coord_l1s (a0_0 : Int) (k : Nat) (rec1 : ((List Int) × Int × Int) → Option ((List Int))) (x1 : List Int) (x2 : Int) (x3 : Int) : Option ((List Int)) :=
  br (decide (x3 < a0_0))
    ((ishl .i64 1 4) >>= fun r27 =>
    (curve_Hilbert4D_rot k a0_0 true x3 x1 (iand .i64 x2 (isub .i64 r27 1))) >>= fun r35 =>
    (idx r35 0) >>= fun r9024 =>
    (ishr .i64 (iand .i64 x2 (isub .i64 r27 1)) 1) >>= fun r9025 =>
    (ishl .i64 (iand .i64 (ixor .i64 (iand .i64 x2 (isub .i64 r27 1)) r9025) 1) x3) >>= fun r9026 =>
    (idx r35 0) >>= fun r9027 =>
    (ishr .i64 (iand .i64 x2 (isub .i64 r27 1)) 1) >>= fun r9028 =>
    (idx (r35.set (0 : Int).toNat (iadd .i64 r9024 r9026)) 1) >>= fun r9029 =>
    (ishr .i64 r9028 1) >>= fun r9030 =>
    (ishl .i64 (iand .i64 (ixor .i64 r9028 r9030) 1) x3) >>= fun r9031 =>
    (idx (r35.set (0 : Int).toNat (iadd .i64 r9024 r9026)) 1) >>= fun r9032 =>
    (ishr .i64 r9028 1) >>= fun r9033 =>
    (idx ((r35.set (0 : Int).toNat (iadd .i64 r9024 r9026)).set (1 : Int).toNat (iadd .i64 r9029 r9031)) 2) >>= fun r9034 =>
    (ishr .i64 r9033 1) >>= fun r9035 =>
    (ishl .i64 (iand .i64 (ixor .i64 r9033 r9035) 1) x3) >>= fun r9036 =>
    (idx ((r35.set (0 : Int).toNat (iadd .i64 r9024 r9026)).set (1 : Int).toNat (iadd .i64 r9029 r9031)) 2) >>= fun r9037 =>
    (ishr .i64 r9033 1) >>= fun r9038 =>
    (idx (((r35.set (0 : Int).toNat (iadd .i64 r9024 r9026)).set (1 : Int).toNat (iadd .i64 r9029 r9031)).set (2 : Int).toNat (iadd .i64 r9034 r9036)) 3) >>= fun r9039 =>
    (ishr .i64 r9038 1) >>= fun r9040 =>
    (ishl .i64 (iand .i64 (ixor .i64 r9038 r9040) 1) x3) >>= fun r9041 =>
    (idx (((r35.set (0 : Int).toNat (iadd .i64 r9024 r9026)).set (1 : Int).toNat (iadd .i64 r9029 r9031)).set (2 : Int).toNat (iadd .i64 r9034 r9036)) 3) >>= fun r9042 =>
    (ishr .i64 r9038 1) >>= fun r9043 =>
    (ishr .i64 x2 4) >>= fun r59 =>
    rec1 (((((r35.set (0 : Int).toNat (iadd .i64 r9024 r9026)).set (1 : Int).toNat (iadd .i64 r9029 r9031)).set (2 : Int).toNat (iadd .i64 r9034 r9036)).set (3 : Int).toNat (iadd .i64 r9039 r9041)), r59, (iadd .i64 x3 1)))
    (some x1)
def curve_Hilbert4D_Coord_l1 (a0_0 : Int) : Nat → ((List Int) × Int × Int) → Option ((List Int))
  | 0, _ => none
  | k + 1, v => curve_Hilbert4D_Coord_l1s a0_0 k (curve_Hilbert4D_Coord_l1 a0_0 k) v.1 v.2.1 v.2.2
def curve_Hilbert4D_Coord (k : Nat) (a0_0 : Int) (a2 : Int) : Option ((List Int)) :=
  (mk 8 0 4 4) >>= fun r14 =>
  (curve_Hilbert4D_Coord_l1 a0_0 k (r14, a2, 0)) >>= fun v2 =>
  some v2

theorem curve_Hilbert4D_Coord_sim {k : Nat}  (a0_0 : Int) (a2 : Int) {out : (List Int)} (hp : curve_Hilbert4D_Coord k a0_0 a2 = some out) : Go.Sx.Fn Tryd.prog 32 [(Ag [(Vl (.int .i64 a0_0))]), (Vl (.slice none 0 0)), (Vl (.int .i64 a2))] [] (fun w : Unit => (Sl (Ki .i64) out)) (fun w => []) := by
  unfold curve_Hilbert4D_Coord at hp
  refine fn_of Tryd.func32 rfl Tryd.ntmps32 rfl fun E hM => ?_
  refine cx_seq' fun K1 hK1 => ?_
  refine cx_region' ?_
  refine sx_ox' (ox_box' rfl (lv_ag _) rfl rfl) (wt_none' rfl) fun q3 => ?_
  refine sx_rd' (rd_assign' rfl) rfl rfl (wt_none' rfl) ?_
  refine sx_nil' ?_
  show TX E K1 _
  refine tx_k' hK1 ?_
  refine cx_seq' fun K2 hK2 => ?_
  refine cx_seq' fun K3 hK3 => ?_
  refine cx_region' ?_
  refine sx_rd' (rd_move' rfl) rfl rfl (wt_none' rfl) ?_
  refine sx_rd' (rd_binf' rfl rfl (bf_vl (fun _ => by kernel_rfl) nil_eql34_nilsl)) rfl rfl (wt_none' rfl) ?_
  refine sx_nil' ?_
  show TX E K3 _
  refine tx_k' hK3 ?_
  refine cx_cond_t' rfl rfl ?_
  refine cx_region' ?_
  obtain ⟨r14, hr14, hp⟩ := bind_some hp
  refine sx_ox' (ox_make' (K := (Ki .i64)) rfl rfl hr14 rfl Tryd.underlying34 info3 rfl rfl rfl rfl rfl) (wt_none' rfl) fun g14 => ?_
  refine sx_rd' (rd_assign' rfl) rfl rfl (wt_none' rfl) ?_
  refine sx_nil' ?_
  show TX E K2 _
  refine tx_k' hK2 ?_
  refine cx_seq' fun K4 hK4 => ?_
  refine cx_region' ?_
  refine sx_rd' (rd_assign' rfl) rfl rfl (wt_none' rfl) ?_
  refine sx_nil' ?_
  show TX E K4 _
  refine tx_k' hK4 ?_
  refine cx_seq' fun K5 hK5 => ?_
  refine cx_seq' fun K6 hK6 => ?_
  refine cx_region' ?_
  refine sx_rd' (rd_assign' rfl) rfl rfl (wt_none' rfl) ?_
  refine sx_nil' ?_
  show TX E K6 _
  refine tx_k' hK6 ?_
  refine cx_block' ?_
  obtain ⟨v2, hy1, hp⟩ := bind_some hp
  refine cx_loopg' (F := curve_Hilbert4D_Coord_l1 a0_0) (G := fun k R v => curve_Hilbert4D_Coord_l1s a0_0 k R v.1 v.2.1 v.2.2) (x := (r14, a2, 0)) (gh := ()) (fun (v1 : (List Int) × Int × Int) (w1 : Unit) => (⟨61, [], [(1, (Vl (Vs g14))), (2, (Vl (.int .i64 v1.2.1))), (3, (Vl (.pointer (some q3)))), (7, (Vl (.int .i64 4))), (8, (Vl (.int .i64 v1.2.2)))], [(Rw (Ki .i64) 3 (Vs g14) v1.1), ⟨.pointer (some q3), [(Vl (.int .i64 a0_0))], 66, none⟩]⟩ : St)) (fun (v2 : (List Int)) => Zg E (Exit.exit 0) (fun (w2 : Unit) => (⟨61, [], [(1, (Vl (Vs g14)))], [(Rw (Ki .i64) 3 (Vs g14) v2)]⟩ : St))) (fun _ => rfl) (fun _ _ => rfl) ?_ hy1 (tx_to' rfl [0, 1] (sub_cons rfl (sub_cons rfl (sub_cons rfl (sub_cons rfl (sub_cons rfl sub_nil))))) (by decide) (pick_cons rfl (pick_cons rfl pick_nil))) ?_
  · clear hp hy1
    clear v2
    intro k rec1 KY1 ih1
    rintro ⟨x1, x2, x3⟩ ⟨⟩ y1 hp
    replace hp : curve_Hilbert4D_Coord_l1s a0_0 k rec1 x1 x2 x3 = some y1 := hp
    unfold curve_Hilbert4D_Coord_l1s at hp
    refine cx_seq' fun K32 hK32 => ?_
    refine cx_seq' fun K33 hK33 => ?_
    refine cx_region' ?_
    refine sx_rd' (rd_move' rfl) rfl rfl (wt_none' rfl) ?_
    refine sx_rd' (rd_field0' rfl Tryd.underlying66 rfl info3 rfl) rfl rfl (wt_none' rfl) ?_
    refine sx_rd' (rd_load' (i := 1) (o := 0) rfl ⟨rfl, rfl, rfl, rfl⟩ rfl flat3) rfl rfl (wt_none' rfl) ?_
    refine sx_rd' (rd_bin' rfl rfl eg_int ru_lss) rfl rfl (wt_none' rfl) ?_
    refine sx_nil' ?_
    show TX E K33 _
    refine tx_k' hK33 ?_
    refine cx_cond' rfl (fun h3 => ?_) (fun h3 => ?_)
    · replace hp := (br_t h3).symm.trans hp
      refine cx_skip' ?_
      show TX E K32 _
      refine tx_k' hK32 ?_
      refine cx_seq' fun K34 hK34 => ?_
      refine cx_block' ?_
      refine cx_seq' fun K35 hK35 => ?_
      refine cx_region' ?_
      refine sx_rd' (rd_move' rfl) rfl rfl (wt_none' rfl) ?_
      refine sx_rd' (rd_move' rfl) rfl rfl (wt_none' rfl) ?_
      obtain ⟨r27, hr27, hp⟩ := bind_some hp
      refine sx_rd' (rd_bin' rfl rfl eg_int (ru_shl hr27)) rfl rfl (wt_none' rfl) ?_
      refine sx_rd' (rd_bin' rfl rfl eg_int ru_sub) rfl rfl (wt_none' rfl) ?_
      refine sx_rd' (rd_bin' rfl rfl eg_int ru_and) rfl rfl (wt_none' rfl) ?_
      refine sx_rd' (rd_assign' rfl) rfl rfl (wt_none' rfl) ?_
      refine sx_nil' ?_
      show TX E K35 _
      refine tx_k' hK35 ?_
      refine cx_seq' fun K36 hK36 => ?_
      refine cx_plan' [] [(5, 1)] [(0, 1), (1, 1), (2, 1), (3, 1), (4, 1), (5, 0)] mixed (by kernel_rfl) ?_
      refine px_rd' rfl (rd_load_agg' (i := 1) (o := 0) (nn := 1) rfl ⟨rfl, rfl, rfl, rfl⟩ rfl agg66 (l' := [(Vl (.int .i64 a0_0))]) rfl) rfl rfl (wt_none' rfl) ?_
      refine px_rd' rfl (rd_move' rfl) rfl rfl (wt_none' rfl) ?_
      refine px_rd' rfl (rd_move' rfl) rfl rfl (wt_none' rfl) ?_
      refine px_rd' rfl (rd_cut_allr' (K := (Ki .i64)) (i := 0) rfl rfl rfl Tryd.underlying34 info3) rfl rfl (wt_none' rfl) ?_
      refine px_rd' rfl (rd_move' rfl) rfl rfl (wt_none' rfl) ?_
      obtain ⟨r35, hr35, hp⟩ := bind_some hp
      refine px_oxb' (is := [0]) rfl (oxb_callg (ent_fn' Tryd.func40 isn40 rfl rfl) (curve_Hilbert4D_rot_sim _ _ _ _ _ hr35 : Go.Sx.Fn Tryd.prog 40 [(Ag [(Vl (.int .i64 a0_0))]), (Vl (.bool true)), (Vl (.int .i64 x3)), (Vl (Vs g14)), (Vl (.int .i64 (iand .i64 x2 (isub .i64 r27 1))))] [(Rw (Ki .i64) 3 (Vs g14) x1)] (fun x : Unit => (Vl (.tuple #[]))) (fun x => [(Rw (Ki .i64) 3 (Vs g14) r35)])) [0] [1] (by decide) (pick_cons rfl pick_nil) (pick_cons rfl pick_nil) (Hn := fun x : Unit => [(Rw (Ki .i64) 3 (Vs g14) r35), ⟨.pointer (some q3), [(Vl (.int .i64 a0_0))], 66, none⟩]) (fun _ => rfl) rfl rfl) (pick_cons rfl pick_nil) rfl bl_nil (wt_none' rfl) fun ⟨⟩ => ?_
      refine px_nil' ?_
      show TX E K36 _
      refine tx_k' hK36 ?_
      refine cx_seq' fun K37 hK37 => ?_
      refine cx_seq' fun K38 hK38 => ?_
      refine cx_region' ?_
      refine sx_rd' (rd_move' rfl) rfl rfl (wt_none' rfl) ?_
      refine sx_rd' (rd_assign' rfl) rfl rfl (wt_none' rfl) ?_
      refine sx_rd' (rd_assign' rfl) rfl rfl (wt_none' rfl) ?_
      refine sx_nil' ?_
      show TX E K38 _
      refine tx_k' hK38 ?_
      refine cx_block' ?_
      refine tx_loop' ?_
      refine tx_round' ?_
      refine cx_seq' fun K39 hK39 => ?_
      refine cx_seq' fun K40 hK40 => ?_
      refine cx_region' ?_
      refine sx_rd' (rd_move' rfl) rfl rfl (wt_none' rfl) ?_
      refine sx_rd' (rd_move' rfl) rfl rfl (wt_none' rfl) ?_
      refine sx_rd' (rd_bin' rfl rfl eg_int ru_lss) rfl rfl (wt_none' rfl) ?_
      refine sx_nil' ?_
      show TX E K40 _
      refine tx_k' hK40 ?_
      refine cx_cond_t' rfl rfl ?_
      refine cx_skip' ?_
      show TX E K39 _
      refine tx_k' hK39 ?_
      refine cx_seq' fun K41 hK41 => ?_
      refine cx_block' ?_
      refine cx_seq' fun K42 hK42 => ?_
      refine cx_plan' [] [(13, 1)] [(0, 1), (1, 1), (2, 1), (3, 1), (4, 1), (5, 1), (6, 1), (7, 1), (8, 1), (9, 1), (10, 1), (11, 1), (12, 1), (13, 0)] mixed (by kernel_rfl) ?_
      refine px_rd' rfl (rd_move' rfl) rfl rfl (wt_none' rfl) ?_
      refine px_rd' rfl (rd_move' rfl) rfl rfl (wt_none' rfl) ?_
      obtain ⟨r9024, hr9024, hp⟩ := bind_some hp
      refine px_rd' rfl (rd_atr' (m := 0) rfl rfl rfl rfl hr9024 Tryd.underlying34 info3) rfl rfl (wt_none' rfl) ?_
      refine px_rd' rfl (rd_loadr' rfl (m := 0) (i := 0) (j := 0) rfl rfl hr9024 rfl rfl flat3) rfl rfl (wt_none' rfl) ?_
      refine px_rd' rfl (rd_move' rfl) rfl rfl (wt_none' rfl) ?_
      refine px_rd' rfl (rd_move' rfl) rfl rfl (wt_none' rfl) ?_
      obtain ⟨r9025, hr9025, hp⟩ := bind_some hp
      refine px_rd' rfl (rd_bin' rfl rfl eg_int (ru_shr hr9025)) rfl rfl (wt_none' rfl) ?_
      refine px_rd' rfl (rd_bin' rfl rfl eg_int ru_xor) rfl rfl (wt_none' rfl) ?_
      refine px_rd' rfl (rd_bin' rfl rfl eg_int ru_and) rfl rfl (wt_none' rfl) ?_
      refine px_rd' rfl (rd_move' rfl) rfl rfl (wt_none' rfl) ?_
      obtain ⟨r9026, hr9026, hp⟩ := bind_some hp
      refine px_rd' rfl (rd_bin' rfl rfl eg_int (ru_shl hr9026)) rfl rfl (wt_none' rfl) ?_
      refine px_rd' rfl (rd_bin' rfl rfl eg_int ru_add) rfl rfl (wt_none' rfl) ?_
      obtain ⟨r9027, hr9027, hp⟩ := bind_some hp
      refine px_rd' rfl (rd_atr' (m := 0) rfl rfl rfl rfl hr9027 Tryd.underlying34 info3) rfl rfl (wt_none' rfl) ?_
      refine px_ox' rfl (ox_storer' (m := 0) (i := 0) (j := 0) (x' := (iadd .i64 r9024 r9026)) rfl rfl (lv_vl rfl rfl) rfl rfl hr9027 rfl rfl rfl info3 rfl (H' := [(Rw (Ki .i64) 3 (Vs g14) (r35.set (0 : Int).toNat (iadd .i64 r9024 r9026))), ⟨.pointer (some q3), [(Vl (.int .i64 a0_0))], 66, none⟩]) rfl) rfl bs_nil (wt_none' rfl) fun _ => ?_
      refine px_nil' ?_
      show TX E K42 _
      refine tx_k' hK42 ?_
      refine cx_region' ?_
      refine sx_rd' (rd_move' rfl) rfl rfl (wt_none' rfl) ?_
      obtain ⟨r9028, hr9028, hp⟩ := bind_some hp
      refine sx_rd' (rd_bin' rfl rfl eg_int (ru_shr hr9028)) rfl rfl (wt_none' rfl) ?_
      refine sx_rd' (rd_assign' rfl) rfl rfl (wt_none' rfl) ?_
      refine sx_nil' ?_
      show TX E K41 _
      refine tx_k' hK41 ?_
      refine cx_region' ?_
      refine sx_rd' (rd_move' rfl) rfl rfl (wt_none' rfl) ?_
      refine sx_rd' (rd_bin' rfl rfl eg_int (ru_addc (c := 1) (by decide))) rfl rfl (wt_none' rfl) ?_
      refine sx_rd' (rd_assign' rfl) rfl rfl (wt_none' rfl) ?_
      refine sx_nil' ?_
      show TX E (LoopIn _ _ _) _
      refine tx_round' ?_
      refine cx_seq' fun K43 hK43 => ?_
      refine cx_seq' fun K44 hK44 => ?_
      refine cx_region' ?_
      refine sx_rd' (rd_move' rfl) rfl rfl (wt_none' rfl) ?_
      refine sx_rd' (rd_move' rfl) rfl rfl (wt_none' rfl) ?_
      refine sx_rd' (rd_bin' rfl rfl eg_int ru_lss) rfl rfl (wt_none' rfl) ?_
      refine sx_nil' ?_
      show TX E K44 _
      refine tx_k' hK44 ?_
      refine cx_cond_t' rfl rfl ?_
      refine cx_skip' ?_
      show TX E K43 _
      refine tx_k' hK43 ?_
      refine cx_seq' fun K45 hK45 => ?_
      refine cx_block' ?_
      refine cx_seq' fun K46 hK46 => ?_
      refine cx_plan' [] [(13, 1)] [(0, 1), (1, 1), (2, 1), (3, 1), (4, 1), (5, 1), (6, 1), (7, 1), (8, 1), (9, 1), (10, 1), (11, 1), (12, 1), (13, 0)] mixed (by kernel_rfl) ?_
      refine px_rd' rfl (rd_move' rfl) rfl rfl (wt_none' rfl) ?_
      refine px_rd' rfl (rd_move' rfl) rfl rfl (wt_none' rfl) ?_
      obtain ⟨r9029, hr9029, hp⟩ := bind_some hp
      refine px_rd' rfl (rd_atr' (m := 0) rfl rfl rfl rfl hr9029 Tryd.underlying34 info3) rfl rfl (wt_none' rfl) ?_
      refine px_rd' rfl (rd_loadr' rfl (m := 0) (i := 1) (j := 0) rfl rfl hr9029 rfl rfl flat3) rfl rfl (wt_none' rfl) ?_
      refine px_rd' rfl (rd_move' rfl) rfl rfl (wt_none' rfl) ?_
      refine px_rd' rfl (rd_move' rfl) rfl rfl (wt_none' rfl) ?_
      obtain ⟨r9030, hr9030, hp⟩ := bind_some hp
      refine px_rd' rfl (rd_bin' rfl rfl eg_int (ru_shr hr9030)) rfl rfl (wt_none' rfl) ?_
      refine px_rd' rfl (rd_bin' rfl rfl eg_int ru_xor) rfl rfl (wt_none' rfl) ?_
      refine px_rd' rfl (rd_bin' rfl rfl eg_int ru_and) rfl rfl (wt_none' rfl) ?_
      refine px_rd' rfl (rd_move' rfl) rfl rfl (wt_none' rfl) ?_
      obtain ⟨r9031, hr9031, hp⟩ := bind_some hp
      refine px_rd' rfl (rd_bin' rfl rfl eg_int (ru_shl hr9031)) rfl rfl (wt_none' rfl) ?_
      refine px_rd' rfl (rd_bin' rfl rfl eg_int ru_add) rfl rfl (wt_none' rfl) ?_
      obtain ⟨r9032, hr9032, hp⟩ := bind_some hp
      refine px_rd' rfl (rd_atr' (m := 0) rfl rfl rfl rfl hr9032 Tryd.underlying34 info3) rfl rfl (wt_none' rfl) ?_
      refine px_ox' rfl (ox_storer' (m := 0) (i := 1) (j := 0) (x' := (iadd .i64 r9029 r9031)) rfl rfl (lv_vl rfl rfl) rfl rfl hr9032 rfl rfl rfl info3 rfl (H' := [(Rw (Ki .i64) 3 (Vs g14) ((r35.set (0 : Int).toNat (iadd .i64 r9024 r9026)).set (1 : Int).toNat (iadd .i64 r9029 r9031))), ⟨.pointer (some q3), [(Vl (.int .i64 a0_0))], 66, none⟩]) rfl) rfl bs_nil (wt_none' rfl) fun _ => ?_
      refine px_nil' ?_
      show TX E K46 _
      refine tx_k' hK46 ?_
      refine cx_region' ?_
      refine sx_rd' (rd_move' rfl) rfl rfl (wt_none' rfl) ?_
      obtain ⟨r9033, hr9033, hp⟩ := bind_some hp
      refine sx_rd' (rd_bin' rfl rfl eg_int (ru_shr hr9033)) rfl rfl (wt_none' rfl) ?_
      refine sx_rd' (rd_assign' rfl) rfl rfl (wt_none' rfl) ?_
      refine sx_nil' ?_
      show TX E K45 _
      refine tx_k' hK45 ?_
      refine cx_region' ?_
      refine sx_rd' (rd_move' rfl) rfl rfl (wt_none' rfl) ?_
      refine sx_rd' (rd_bin' rfl rfl eg_int (ru_addc (c := 2) (by decide))) rfl rfl (wt_none' rfl) ?_
      refine sx_rd' (rd_assign' rfl) rfl rfl (wt_none' rfl) ?_
      refine sx_nil' ?_
      show TX E (LoopIn _ _ _) _
      refine tx_round' ?_
      refine cx_seq' fun K47 hK47 => ?_
      refine cx_seq' fun K48 hK48 => ?_
      refine cx_region' ?_
      refine sx_rd' (rd_move' rfl) rfl rfl (wt_none' rfl) ?_
      refine sx_rd' (rd_move' rfl) rfl rfl (wt_none' rfl) ?_
      refine sx_rd' (rd_bin' rfl rfl eg_int ru_lss) rfl rfl (wt_none' rfl) ?_
      refine sx_nil' ?_
      show TX E K48 _
      refine tx_k' hK48 ?_
      refine cx_cond_t' rfl rfl ?_
      refine cx_skip' ?_
      show TX E K47 _
      refine tx_k' hK47 ?_
      refine cx_seq' fun K49 hK49 => ?_
      refine cx_block' ?_
      refine cx_seq' fun K50 hK50 => ?_
      refine cx_plan' [] [(13, 1)] [(0, 1), (1, 1), (2, 1), (3, 1), (4, 1), (5, 1), (6, 1), (7, 1), (8, 1), (9, 1), (10, 1), (11, 1), (12, 1), (13, 0)] mixed (by kernel_rfl) ?_
      refine px_rd' rfl (rd_move' rfl) rfl rfl (wt_none' rfl) ?_
      refine px_rd' rfl (rd_move' rfl) rfl rfl (wt_none' rfl) ?_
      obtain ⟨r9034, hr9034, hp⟩ := bind_some hp
      refine px_rd' rfl (rd_atr' (m := 0) rfl rfl rfl rfl hr9034 Tryd.underlying34 info3) rfl rfl (wt_none' rfl) ?_
      refine px_rd' rfl (rd_loadr' rfl (m := 0) (i := 2) (j := 0) rfl rfl hr9034 rfl rfl flat3) rfl rfl (wt_none' rfl) ?_
      refine px_rd' rfl (rd_move' rfl) rfl rfl (wt_none' rfl) ?_
      refine px_rd' rfl (rd_move' rfl) rfl rfl (wt_none' rfl) ?_
      obtain ⟨r9035, hr9035, hp⟩ := bind_some hp
      refine px_rd' rfl (rd_bin' rfl rfl eg_int (ru_shr hr9035)) rfl rfl (wt_none' rfl) ?_
      refine px_rd' rfl (rd_bin' rfl rfl eg_int ru_xor) rfl rfl (wt_none' rfl) ?_
      refine px_rd' rfl (rd_bin' rfl rfl eg_int ru_and) rfl rfl (wt_none' rfl) ?_
      refine px_rd' rfl (rd_move' rfl) rfl rfl (wt_none' rfl) ?_
      obtain ⟨r9036, hr9036, hp⟩ := bind_some hp
      refine px_rd' rfl (rd_bin' rfl rfl eg_int (ru_shl hr9036)) rfl rfl (wt_none' rfl) ?_
      refine px_rd' rfl (rd_bin' rfl rfl eg_int ru_add) rfl rfl (wt_none' rfl) ?_
      obtain ⟨r9037, hr9037, hp⟩ := bind_some hp
      refine px_rd' rfl (rd_atr' (m := 0) rfl rfl rfl rfl hr9037 Tryd.underlying34 info3) rfl rfl (wt_none' rfl) ?_
      refine px_ox' rfl (ox_storer' (m := 0) (i := 2) (j := 0) (x' := (iadd .i64 r9034 r9036)) rfl rfl (lv_vl rfl rfl) rfl rfl hr9037 rfl rfl rfl info3 rfl (H' := [(Rw (Ki .i64) 3 (Vs g14) (((r35.set (0 : Int).toNat (iadd .i64 r9024 r9026)).set (1 : Int).toNat (iadd .i64 r9029 r9031)).set (2 : Int).toNat (iadd .i64 r9034 r9036))), ⟨.pointer (some q3), [(Vl (.int .i64 a0_0))], 66, none⟩]) rfl) rfl bs_nil (wt_none' rfl) fun _ => ?_
      refine px_nil' ?_
      show TX E K50 _
      refine tx_k' hK50 ?_
      refine cx_region' ?_
      refine sx_rd' (rd_move' rfl) rfl rfl (wt_none' rfl) ?_
      obtain ⟨r9038, hr9038, hp⟩ := bind_some hp
      refine sx_rd' (rd_bin' rfl rfl eg_int (ru_shr hr9038)) rfl rfl (wt_none' rfl) ?_
      refine sx_rd' (rd_assign' rfl) rfl rfl (wt_none' rfl) ?_
      refine sx_nil' ?_
      show TX E K49 _
      refine tx_k' hK49 ?_
      refine cx_region' ?_
      refine sx_rd' (rd_move' rfl) rfl rfl (wt_none' rfl) ?_
      refine sx_rd' (rd_bin' rfl rfl eg_int (ru_addc (c := 3) (by decide))) rfl rfl (wt_none' rfl) ?_
      refine sx_rd' (rd_assign' rfl) rfl rfl (wt_none' rfl) ?_
      refine sx_nil' ?_
      show TX E (LoopIn _ _ _) _
      refine tx_round' ?_
      refine cx_seq' fun K51 hK51 => ?_
      refine cx_seq' fun K52 hK52 => ?_
      refine cx_region' ?_
      refine sx_rd' (rd_move' rfl) rfl rfl (wt_none' rfl) ?_
      refine sx_rd' (rd_move' rfl) rfl rfl (wt_none' rfl) ?_
      refine sx_rd' (rd_bin' rfl rfl eg_int ru_lss) rfl rfl (wt_none' rfl) ?_
      refine sx_nil' ?_
      show TX E K52 _
      refine tx_k' hK52 ?_
      refine cx_cond_t' rfl rfl ?_
      refine cx_skip' ?_
      show TX E K51 _
      refine tx_k' hK51 ?_
      refine cx_seq' fun K53 hK53 => ?_
      refine cx_block' ?_
      refine cx_seq' fun K54 hK54 => ?_
      refine cx_plan' [] [(13, 1)] [(0, 1), (1, 1), (2, 1), (3, 1), (4, 1), (5, 1), (6, 1), (7, 1), (8, 1), (9, 1), (10, 1), (11, 1), (12, 1), (13, 0)] mixed (by kernel_rfl) ?_
      refine px_rd' rfl (rd_move' rfl) rfl rfl (wt_none' rfl) ?_
      refine px_rd' rfl (rd_move' rfl) rfl rfl (wt_none' rfl) ?_
      obtain ⟨r9039, hr9039, hp⟩ := bind_some hp
      refine px_rd' rfl (rd_atr' (m := 0) rfl rfl rfl rfl hr9039 Tryd.underlying34 info3) rfl rfl (wt_none' rfl) ?_
      refine px_rd' rfl (rd_loadr' rfl (m := 0) (i := 3) (j := 0) rfl rfl hr9039 rfl rfl flat3) rfl rfl (wt_none' rfl) ?_
      refine px_rd' rfl (rd_move' rfl) rfl rfl (wt_none' rfl) ?_
      refine px_rd' rfl (rd_move' rfl) rfl rfl (wt_none' rfl) ?_
      obtain ⟨r9040, hr9040, hp⟩ := bind_some hp
      refine px_rd' rfl (rd_bin' rfl rfl eg_int (ru_shr hr9040)) rfl rfl (wt_none' rfl) ?_
      refine px_rd' rfl (rd_bin' rfl rfl eg_int ru_xor) rfl rfl (wt_none' rfl) ?_
      refine px_rd' rfl (rd_bin' rfl rfl eg_int ru_and) rfl rfl (wt_none' rfl) ?_
      refine px_rd' rfl (rd_move' rfl) rfl rfl (wt_none' rfl) ?_
      obtain ⟨r9041, hr9041, hp⟩ := bind_some hp
      refine px_rd' rfl (rd_bin' rfl rfl eg_int (ru_shl hr9041)) rfl rfl (wt_none' rfl) ?_
      refine px_rd' rfl (rd_bin' rfl rfl eg_int ru_add) rfl rfl (wt_none' rfl) ?_
      obtain ⟨r9042, hr9042, hp⟩ := bind_some hp
      refine px_rd' rfl (rd_atr' (m := 0) rfl rfl rfl rfl hr9042 Tryd.underlying34 info3) rfl rfl (wt_none' rfl) ?_
      refine px_ox' rfl (ox_storer' (m := 0) (i := 3) (j := 0) (x' := (iadd .i64 r9039 r9041)) rfl rfl (lv_vl rfl rfl) rfl rfl hr9042 rfl rfl rfl info3 rfl (H' := [(Rw (Ki .i64) 3 (Vs g14) ((((r35.set (0 : Int).toNat (iadd .i64 r9024 r9026)).set (1 : Int).toNat (iadd .i64 r9029 r9031)).set (2 : Int).toNat (iadd .i64 r9034 r9036)).set (3 : Int).toNat (iadd .i64 r9039 r9041))), ⟨.pointer (some q3), [(Vl (.int .i64 a0_0))], 66, none⟩]) rfl) rfl bs_nil (wt_none' rfl) fun _ => ?_
      refine px_nil' ?_
      show TX E K54 _
      refine tx_k' hK54 ?_
      refine cx_region' ?_
      refine sx_rd' (rd_move' rfl) rfl rfl (wt_none' rfl) ?_
      obtain ⟨r9043, hr9043, hp⟩ := bind_some hp
      refine sx_rd' (rd_bin' rfl rfl eg_int (ru_shr hr9043)) rfl rfl (wt_none' rfl) ?_
      refine sx_rd' (rd_assign' rfl) rfl rfl (wt_none' rfl) ?_
      refine sx_nil' ?_
      show TX E K53 _
      refine tx_k' hK53 ?_
      refine cx_region' ?_
      refine sx_rd' (rd_move' rfl) rfl rfl (wt_none' rfl) ?_
      refine sx_rd' (rd_bin' rfl rfl eg_int (ru_addc (c := 4) (by decide))) rfl rfl (wt_none' rfl) ?_
      refine sx_rd' (rd_assign' rfl) rfl rfl (wt_none' rfl) ?_
      refine sx_nil' ?_
      show TX E (LoopIn _ _ _) _
      refine tx_round' ?_
      refine cx_seq' fun K55 hK55 => ?_
      refine cx_seq' fun K56 hK56 => ?_
      refine cx_region' ?_
      refine sx_rd' (rd_move' rfl) rfl rfl (wt_none' rfl) ?_
      refine sx_rd' (rd_move' rfl) rfl rfl (wt_none' rfl) ?_
      refine sx_rd' (rd_bin' rfl rfl eg_int ru_lss) rfl rfl (wt_none' rfl) ?_
      refine sx_nil' ?_
      show TX E K56 _
      refine tx_k' hK56 ?_
      refine cx_cond_f' rfl rfl ?_
      refine cx_exit' ?_
      show TX E K37 _
      refine tx_k' hK37 ?_
      refine cx_region' ?_
      refine sx_rd' (rd_move' rfl) rfl rfl (wt_none' rfl) ?_
      refine sx_rd' (rd_move' rfl) rfl rfl (wt_none' rfl) ?_
      obtain ⟨r59, hr59, hp⟩ := bind_some hp
      refine sx_rd' (rd_bin' rfl rfl eg_int (ru_shr hr59)) rfl rfl (wt_none' rfl) ?_
      refine sx_rd' (rd_assign' rfl) rfl rfl (wt_none' rfl) ?_
      refine sx_nil' ?_
      show TX E K34 _
      refine tx_k' hK34 ?_
      refine cx_region' ?_
      refine sx_rd' (rd_move' rfl) rfl rfl (wt_none' rfl) ?_
      refine sx_rd' (rd_bin' rfl rfl eg_int ru_add) rfl rfl (wt_none' rfl) ?_
      refine sx_rd' (rd_assign' rfl) rfl rfl (wt_none' rfl) ?_
      refine sx_nil' ?_
      show TX E (KY1 _) _
      exact tx_pick' [0, 1] (sub_cons rfl (sub_cons rfl (sub_cons rfl (sub_cons rfl (sub_cons rfl sub_nil))))) (by decide) (pick_cons rfl (pick_cons rfl pick_nil)) (ih1 (((((r35.set (0 : Int).toNat (iadd .i64 r9024 r9026)).set (1 : Int).toNat (iadd .i64 r9029 r9031)).set (2 : Int).toNat (iadd .i64 r9034 r9036)).set (3 : Int).toNat (iadd .i64 r9039 r9041)), r59, (iadd .i64 x3 1)) () _ hp)
    · replace hp := (br_f h3).symm.trans hp
      refine cx_exit' ?_
      replace hp := Option.some.inj hp
      subst hp
      show TX E (Zg E (Exit.exit 0) _ (Exit.exit 0)) _
      exact tx_zend' () rfl [0] (sub_cons rfl sub_nil) (by decide) (pick_cons rfl pick_nil)
  · refine zg_out fun w2 => ?_
    show TX E K5 _
    refine tx_k' hK5 ?_
    refine cx_seq' fun K57 hK57 => ?_
    refine cx_region' ?_
    refine sx_rd' (rd_move' rfl) rfl rfl (wt_none' rfl) ?_
    refine sx_rd' (rd_assign' rfl) rfl rfl (wt_none' rfl) ?_
    refine sx_nil' ?_
    show TX E K57 _
    refine tx_k' hK57 ?_
    refine cx_retc' ?_
    replace hp := Option.some.inj hp
    subst hp
    refine tx_fz' (frz_row 0 [(1, (Vl (Vs g14)), (Sl (Ki .i64) v2)), (60, (Vl (Vs g14)), (Sl (Ki .i64) v2)), (6, (Vl (Vs g14)), (Sl (Ki .i64) v2))] (K := (Ki .i64)) (xs := v2) (by decide) rfl ⟨⟨rfl, frz_it⟩, ⟨rfl, frz_it⟩, ⟨rfl, frz_it⟩, trivial⟩ (H' := []) frzH_refl) ?_
    refine tx_pick' (L' := [(6, (Sl (Ki .i64) v2))]) (H' := []) [] (sub_cons rfl sub_nil) (by decide) pick_nil ?_
    exact tx_ret1' Tryd.results32 rfl () (rv_tmp' rfl) (List.Sublist.refl _)

def impl_HCoord (k : Nat) (a0 : Int) (a1 : Int) (a2 : Int) : Option ((List Int) × Bool) :=
  br (decide (a0 = 2))
    ((curve_NewHilbert2D k a1) >>= fun r20 =>
    (curve_Hilbert2D_Coord k r20 a2) >>= fun r27 =>
    some (r27, true))
    (br (decide (a0 = 3))
      ((curve_NewHilbert3D k a1) >>= fun r32 =>
      (curve_Hilbert3D_Coord k r32 a2) >>= fun r39 =>
      some (r39, true))
      (br (decide (a0 = 4))
        ((curve_NewHilbert4D k a1) >>= fun r44 =>
        (curve_Hilbert4D_Coord k r44 a2) >>= fun r51 =>
        some (r51, true))
        (some ([], false))))

theorem impl_HCoord_sim {k : Nat}  (a0 : Int) (a1 : Int) (a2 : Int) {out : (List Int) × Bool} (hp : impl_HCoord k a0 a1 a2 = some out) : Go.Sx.Fn Tryd.prog 14 [(Vl (.int .i64 a0)), (Vl (.int .i64 a1)), (Vl (.int .i64 a2))] [] (fun w : Unit => (Tu [(Sl (Ki .i64) out.1), (Vl (.bool out.2))])) (fun w => []) := by
  unfold impl_HCoord at hp
  refine fnD_of Tryd.func14 rfl Tryd.ntmps14 rfl fun E hM => ?_
  refine cx_seq' fun K1 hK1 => ?_
  refine cx_region' ?_
  refine sx_ox' (ox_alloc' info34 rfl rfl rfl rfl (l := [(Vl (.slice none 0 0))]) rfl) (wt_none' rfl) fun q6 => ?_
  refine sx_ox' (ox_alloc' info4 rfl rfl rfl rfl (l := [(Vl (.bool false))]) rfl) (wt_none' rfl) fun q7 => ?_
  refine sx_nil' ?_
  show TX E K1 _
  refine tx_k' hK1 ?_
  refine cx_seq' fun K2 hK2 => ?_
  refine cx_region' ?_
  refine sx_rd' (rd_mkfunc' (us := [.pointer (some q6), .pointer (some q7)]) rfl) rfl rfl (wt_none' rfl) ?_
  refine sx_ox' (ox_defer' rfl rfl) (wt_none' rfl) fun _ => ?_
  refine sx_nil' ?_
  show TX E K2 _
  refine tx_k' hK2 ?_
  refine cx_seq' fun K3 hK3 => ?_
  refine cx_seq' fun K4 hK4 => ?_
  refine cx_region' ?_
  refine sx_rd' (rd_move' rfl) rfl rfl (wt_none' rfl) ?_
  refine sx_nil' ?_
  show TX E K4 _
  refine tx_k' hK4 ?_
  refine cx_block' ?_
  refine cx_seq' fun K5 hK5 => ?_
  refine cx_region' ?_
  refine sx_rd' (rd_bin' rfl rfl eg_int ru_eql) rfl rfl (wt_none' rfl) ?_
  refine sx_rd' (rd_assign' rfl) rfl rfl (wt_none' rfl) ?_
  refine sx_nil' ?_
  show TX E K5 _
  refine tx_k' hK5 ?_
  refine cx_cond' rfl (fun h1 => ?_) (fun h1 => ?_)
  · replace hp := (br_t h1).symm.trans hp
    refine cx_seq' fun K6 hK6 => ?_
    refine cx_region' ?_
    refine sx_rd' (rd_move' rfl) rfl rfl (wt_none' rfl) ?_
    obtain ⟨r20, hr20, hp⟩ := bind_some hp
    refine sx_ox' (ox_calln' (ent_fn' Tryd.func27 isn27 rfl rfl) (curve_NewHilbert2D_sim _ hr20 : Go.Sx.Fn Tryd.prog 27 [(Vl (.int .i64 a1))] [] (fun x : Unit => (Tu [(Ag [(Vl (.int .i64 r20))]), (Vl .nilIface)])) (fun x => [])) (Hn := fun x : Unit => [⟨.pointer (some q7), [(Vl (.bool false))], 4, none⟩, ⟨.pointer (some q6), [(Vl (.slice none 0 0))], 34, none⟩]) (fun _ => rfl) rfl rfl) (wt_none' rfl) fun ⟨⟩ => ?_
    refine sx_rd' (rd_move' rfl) rfl rfl (wt_none' rfl) ?_
    refine sx_rd' (rd_extract' rfl rfl) rfl rfl (wt_none' rfl) ?_
    refine sx_rd' (rd_extract' rfl rfl) rfl rfl (wt_none' rfl) ?_
    refine sx_ox' (ox_alloc' info57 rfl rfl rfl rfl (l := [(Vl (.int .i64 0))]) rfl) (wt_none' rfl) fun q8 => ?_
    refine sx_ox' (ox_store' (i := 0) (o := 0) rfl rfl (lv_ag _) ⟨rfl, rfl, rfl, rfl⟩ rfl info57 rfl (H' := [⟨.pointer (some q8), [(Vl (.int .i64 r20))], 57, none⟩, ⟨.pointer (some q7), [(Vl (.bool false))], 4, none⟩, ⟨.pointer (some q6), [(Vl (.slice none 0 0))], 34, none⟩]) rfl) (wt_none' rfl) fun _ => ?_
    refine sx_rd' (rd_assign' rfl) rfl rfl (wt_none' rfl) ?_
    refine sx_nil' ?_
    show TX E K6 _
    refine tx_k' hK6 ?_
    refine cx_seq' fun K7 hK7 => ?_
    refine cx_seq' fun K8 hK8 => ?_
    refine cx_region' ?_
    refine sx_rd' (rd_move' rfl) rfl rfl (wt_none' rfl) ?_
    refine sx_rd' (rd_binf' rfl rfl (bf_vl (fun _ => by kernel_rfl) nil_neq59_nilif)) rfl rfl (wt_none' rfl) ?_
    refine sx_nil' ?_
    show TX E K8 _
    refine tx_k' hK8 ?_
    refine cx_cond_f' rfl rfl ?_
    refine cx_skip' ?_
    show TX E K7 _
    refine tx_k' hK7 ?_
    refine cx_seq' fun K9 hK9 => ?_
    refine cx_region' ?_
    refine sx_rd' (rd_load_agg' (i := 0) (o := 0) (nn := 1) rfl ⟨rfl, rfl, rfl, rfl⟩ rfl agg57 (l' := [(Vl (.int .i64 r20))]) rfl) rfl rfl (wt_none' rfl) ?_
    refine sx_rd' (rd_move' rfl) rfl rfl (wt_none' rfl) ?_
    obtain ⟨r27, hr27, hp⟩ := bind_some hp
    refine sx_ox' (ox_calln' (ent_fn' Tryd.func28 isn28 rfl rfl) (curve_Hilbert2D_Coord_sim _ _ hr27 : Go.Sx.Fn Tryd.prog 28 [(Ag [(Vl (.int .i64 r20))]), (Vl (.slice none 0 0)), (Vl (.int .i64 a2))] [] (fun x : Unit => (Sl (Ki .i64) r27)) (fun x => [])) (Hn := fun x : Unit => [⟨.pointer (some q8), [(Vl (.int .i64 r20))], 57, none⟩, ⟨.pointer (some q7), [(Vl (.bool false))], 4, none⟩, ⟨.pointer (some q6), [(Vl (.slice none 0 0))], 34, none⟩]) (fun _ => rfl) rfl rfl) (wt_none' rfl) fun ⟨⟩ => ?_
    refine sx_ox' (ox_store' (i := 2) (o := 0) rfl rfl (lv_sl _ _) ⟨rfl, rfl, rfl, rfl⟩ rfl info34 rfl (H' := [⟨.pointer (some q8), [(Vl (.int .i64 r20))], 57, none⟩, ⟨.pointer (some q7), [(Vl (.bool false))], 4, none⟩, ⟨.pointer (some q6), [(Sl (Ki .i64) r27)], 34, none⟩]) rfl) (wt_none' rfl) fun _ => ?_
    refine sx_ox' (ox_store' (i := 1) (o := 0) rfl rfl (lv_vl rfl rfl) ⟨rfl, rfl, rfl, rfl⟩ rfl info4 rfl (H' := [⟨.pointer (some q8), [(Vl (.int .i64 r20))], 57, none⟩, ⟨.pointer (some q7), [(Vl (.bool true))], 4, none⟩, ⟨.pointer (some q6), [(Sl (Ki .i64) r27)], 34, none⟩]) rfl) (wt_none' rfl) fun _ => ?_
    refine sx_nil' ?_
    show TX E K9 _
    refine tx_k' hK9 ?_
    refine cx_retc' ?_
    replace hp := Option.some.inj hp
    subst hp
    refine tx_leave' (.inl rfl) rfl idle26 rfl Tryd.func26 isn26 rfl ?_
    refine tx_pick' (L' := [(6, (Vl (.pointer (some q6)))), (7, (Vl (.pointer (some q7))))]) (H' := [⟨.pointer (some q6), [(Sl (Ki .i64) r27)], 34, none⟩, ⟨.pointer (some q7), [(Vl (.bool true))], 4, none⟩]) [2, 1] (sub_cons rfl (sub_cons rfl sub_nil)) (by decide) (pick_cons rfl (pick_cons rfl pick_nil)) ?_
    exact tx_ret2' Tryd.results14 rfl () (rv_cell' (i := 0) (o := 0) rfl ⟨rfl, rfl, rfl, rfl⟩ rfl flat34) (rv_cell' (i := 1) (o := 0) rfl ⟨rfl, rfl, rfl, rfl⟩ rfl flat4) rfl (List.nil_sublist _)
  · replace hp := (br_f h1).symm.trans hp
    refine cx_seq' fun K10 hK10 => ?_
    refine cx_region' ?_
    refine sx_rd' (rd_bin' rfl rfl eg_int ru_eql) rfl rfl (wt_none' rfl) ?_
    refine sx_rd' (rd_assign' rfl) rfl rfl (wt_none' rfl) ?_
    refine sx_nil' ?_
    show TX E K10 _
    refine tx_k' hK10 ?_
    refine cx_cond' rfl (fun h2 => ?_) (fun h2 => ?_)
    · replace hp := (br_t h2).symm.trans hp
      refine cx_seq' fun K11 hK11 => ?_
      refine cx_region' ?_
      refine sx_rd' (rd_move' rfl) rfl rfl (wt_none' rfl) ?_
      obtain ⟨r32, hr32, hp⟩ := bind_some hp
      refine sx_ox' (ox_calln' (ent_fn' Tryd.func29 isn29 rfl rfl) (curve_NewHilbert3D_sim _ hr32 : Go.Sx.Fn Tryd.prog 29 [(Vl (.int .i64 a1))] [] (fun x : Unit => (Tu [(Ag [(Vl (.int .i64 r32))]), (Vl .nilIface)])) (fun x => [])) (Hn := fun x : Unit => [⟨.pointer (some q7), [(Vl (.bool false))], 4, none⟩, ⟨.pointer (some q6), [(Vl (.slice none 0 0))], 34, none⟩]) (fun _ => rfl) rfl rfl) (wt_none' rfl) fun ⟨⟩ => ?_
      refine sx_rd' (rd_move' rfl) rfl rfl (wt_none' rfl) ?_
      refine sx_rd' (rd_extract' rfl rfl) rfl rfl (wt_none' rfl) ?_
      refine sx_rd' (rd_extract' rfl rfl) rfl rfl (wt_none' rfl) ?_
      refine sx_ox' (ox_alloc' info63 rfl rfl rfl rfl (l := [(Vl (.int .i64 0))]) rfl) (wt_none' rfl) fun q10 => ?_
      refine sx_ox' (ox_store' (i := 0) (o := 0) rfl rfl (lv_ag _) ⟨rfl, rfl, rfl, rfl⟩ rfl info63 rfl (H' := [⟨.pointer (some q10), [(Vl (.int .i64 r32))], 63, none⟩, ⟨.pointer (some q7), [(Vl (.bool false))], 4, none⟩, ⟨.pointer (some q6), [(Vl (.slice none 0 0))], 34, none⟩]) rfl) (wt_none' rfl) fun _ => ?_
      refine sx_rd' (rd_assign' rfl) rfl rfl (wt_none' rfl) ?_
      refine sx_nil' ?_
      show TX E K11 _
      refine tx_k' hK11 ?_
      refine cx_seq' fun K12 hK12 => ?_
      refine cx_seq' fun K13 hK13 => ?_
      refine cx_region' ?_
      refine sx_rd' (rd_move' rfl) rfl rfl (wt_none' rfl) ?_
      refine sx_rd' (rd_binf' rfl rfl (bf_vl (fun _ => by kernel_rfl) nil_neq59_nilif)) rfl rfl (wt_none' rfl) ?_
      refine sx_nil' ?_
      show TX E K13 _
      refine tx_k' hK13 ?_
      refine cx_cond_f' rfl rfl ?_
      refine cx_skip' ?_
      show TX E K12 _
      refine tx_k' hK12 ?_
      refine cx_seq' fun K14 hK14 => ?_
      refine cx_region' ?_
      refine sx_rd' (rd_load_agg' (i := 0) (o := 0) (nn := 1) rfl ⟨rfl, rfl, rfl, rfl⟩ rfl agg63 (l' := [(Vl (.int .i64 r32))]) rfl) rfl rfl (wt_none' rfl) ?_
      refine sx_rd' (rd_move' rfl) rfl rfl (wt_none' rfl) ?_
      obtain ⟨r39, hr39, hp⟩ := bind_some hp
      refine sx_ox' (ox_calln' (ent_fn' Tryd.func30 isn30 rfl rfl) (curve_Hilbert3D_Coord_sim _ _ hr39 : Go.Sx.Fn Tryd.prog 30 [(Ag [(Vl (.int .i64 r32))]), (Vl (.slice none 0 0)), (Vl (.int .i64 a2))] [] (fun x : Unit => (Sl (Ki .i64) r39)) (fun x => [])) (Hn := fun x : Unit => [⟨.pointer (some q10), [(Vl (.int .i64 r32))], 63, none⟩, ⟨.pointer (some q7), [(Vl (.bool false))], 4, none⟩, ⟨.pointer (some q6), [(Vl (.slice none 0 0))], 34, none⟩]) (fun _ => rfl) rfl rfl) (wt_none' rfl) fun ⟨⟩ => ?_
      refine sx_ox' (ox_store' (i := 2) (o := 0) rfl rfl (lv_sl _ _) ⟨rfl, rfl, rfl, rfl⟩ rfl info34 rfl (H' := [⟨.pointer (some q10), [(Vl (.int .i64 r32))], 63, none⟩, ⟨.pointer (some q7), [(Vl (.bool false))], 4, none⟩, ⟨.pointer (some q6), [(Sl (Ki .i64) r39)], 34, none⟩]) rfl) (wt_none' rfl) fun _ => ?_
      refine sx_ox' (ox_store' (i := 1) (o := 0) rfl rfl (lv_vl rfl rfl) ⟨rfl, rfl, rfl, rfl⟩ rfl info4 rfl (H' := [⟨.pointer (some q10), [(Vl (.int .i64 r32))], 63, none⟩, ⟨.pointer (some q7), [(Vl (.bool true))], 4, none⟩, ⟨.pointer (some q6), [(Sl (Ki .i64) r39)], 34, none⟩]) rfl) (wt_none' rfl) fun _ => ?_
      refine sx_nil' ?_
      show TX E K14 _
      refine tx_k' hK14 ?_
      refine cx_retc' ?_
      replace hp := Option.some.inj hp
      subst hp
      refine tx_leave' (.inl rfl) rfl idle26 rfl Tryd.func26 isn26 rfl ?_
      refine tx_pick' (L' := [(6, (Vl (.pointer (some q6)))), (7, (Vl (.pointer (some q7))))]) (H' := [⟨.pointer (some q6), [(Sl (Ki .i64) r39)], 34, none⟩, ⟨.pointer (some q7), [(Vl (.bool true))], 4, none⟩]) [2, 1] (sub_cons rfl (sub_cons rfl sub_nil)) (by decide) (pick_cons rfl (pick_cons rfl pick_nil)) ?_
      exact tx_ret2' Tryd.results14 rfl () (rv_cell' (i := 0) (o := 0) rfl ⟨rfl, rfl, rfl, rfl⟩ rfl flat34) (rv_cell' (i := 1) (o := 0) rfl ⟨rfl, rfl, rfl, rfl⟩ rfl flat4) rfl (List.nil_sublist _)
    · replace hp := (br_f h2).symm.trans hp
      refine cx_seq' fun K15 hK15 => ?_
      refine cx_region' ?_
      refine sx_rd' (rd_bin' rfl rfl eg_int ru_eql) rfl rfl (wt_none' rfl) ?_
      refine sx_rd' (rd_assign' rfl) rfl rfl (wt_none' rfl) ?_
      refine sx_nil' ?_
      show TX E K15 _
      refine tx_k' hK15 ?_
      refine cx_cond' rfl (fun h3 => ?_) (fun h3 => ?_)
      · replace hp := (br_t h3).symm.trans hp
        refine cx_seq' fun K16 hK16 => ?_
        refine cx_region' ?_
        refine sx_rd' (rd_move' rfl) rfl rfl (wt_none' rfl) ?_
        obtain ⟨r44, hr44, hp⟩ := bind_some hp
        refine sx_ox' (ox_calln' (ent_fn' Tryd.func31 isn31 rfl rfl) (curve_NewHilbert4D_sim _ hr44 : Go.Sx.Fn Tryd.prog 31 [(Vl (.int .i64 a1))] [] (fun x : Unit => (Tu [(Ag [(Vl (.int .i64 r44))]), (Vl .nilIface)])) (fun x => [])) (Hn := fun x : Unit => [⟨.pointer (some q7), [(Vl (.bool false))], 4, none⟩, ⟨.pointer (some q6), [(Vl (.slice none 0 0))], 34, none⟩]) (fun _ => rfl) rfl rfl) (wt_none' rfl) fun ⟨⟩ => ?_
        refine sx_rd' (rd_move' rfl) rfl rfl (wt_none' rfl) ?_
        refine sx_rd' (rd_extract' rfl rfl) rfl rfl (wt_none' rfl) ?_
        refine sx_rd' (rd_extract' rfl rfl) rfl rfl (wt_none' rfl) ?_
        refine sx_ox' (ox_alloc' info66 rfl rfl rfl rfl (l := [(Vl (.int .i64 0))]) rfl) (wt_none' rfl) fun q12 => ?_
        refine sx_ox' (ox_store' (i := 0) (o := 0) rfl rfl (lv_ag _) ⟨rfl, rfl, rfl, rfl⟩ rfl info66 rfl (H' := [⟨.pointer (some q12), [(Vl (.int .i64 r44))], 66, none⟩, ⟨.pointer (some q7), [(Vl (.bool false))], 4, none⟩, ⟨.pointer (some q6), [(Vl (.slice none 0 0))], 34, none⟩]) rfl) (wt_none' rfl) fun _ => ?_
        refine sx_rd' (rd_assign' rfl) rfl rfl (wt_none' rfl) ?_
        refine sx_nil' ?_
        show TX E K16 _
        refine tx_k' hK16 ?_
        refine cx_seq' fun K17 hK17 => ?_
        refine cx_seq' fun K18 hK18 => ?_
        refine cx_region' ?_
        refine sx_rd' (rd_move' rfl) rfl rfl (wt_none' rfl) ?_
        refine sx_rd' (rd_binf' rfl rfl (bf_vl (fun _ => by kernel_rfl) nil_neq59_nilif)) rfl rfl (wt_none' rfl) ?_
        refine sx_nil' ?_
        show TX E K18 _
        refine tx_k' hK18 ?_
        refine cx_cond_f' rfl rfl ?_
        refine cx_skip' ?_
        show TX E K17 _
        refine tx_k' hK17 ?_
        refine cx_seq' fun K19 hK19 => ?_
        refine cx_region' ?_
        refine sx_rd' (rd_load_agg' (i := 0) (o := 0) (nn := 1) rfl ⟨rfl, rfl, rfl, rfl⟩ rfl agg66 (l' := [(Vl (.int .i64 r44))]) rfl) rfl rfl (wt_none' rfl) ?_
        refine sx_rd' (rd_move' rfl) rfl rfl (wt_none' rfl) ?_
        obtain ⟨r51, hr51, hp⟩ := bind_some hp
        refine sx_ox' (ox_calln' (ent_fn' Tryd.func32 isn32 rfl rfl) (curve_Hilbert4D_Coord_sim _ _ hr51 : Go.Sx.Fn Tryd.prog 32 [(Ag [(Vl (.int .i64 r44))]), (Vl (.slice none 0 0)), (Vl (.int .i64 a2))] [] (fun x : Unit => (Sl (Ki .i64) r51)) (fun x => [])) (Hn := fun x : Unit => [⟨.pointer (some q12), [(Vl (.int .i64 r44))], 66, none⟩, ⟨.pointer (some q7), [(Vl (.bool false))], 4, none⟩, ⟨.pointer (some q6), [(Vl (.slice none 0 0))], 34, none⟩]) (fun _ => rfl) rfl rfl) (wt_none' rfl) fun ⟨⟩ => ?_
        refine sx_ox' (ox_store' (i := 2) (o := 0) rfl rfl (lv_sl _ _) ⟨rfl, rfl, rfl, rfl⟩ rfl info34 rfl (H' := [⟨.pointer (some q12), [(Vl (.int .i64 r44))], 66, none⟩, ⟨.pointer (some q7), [(Vl (.bool false))], 4, none⟩, ⟨.pointer (some q6), [(Sl (Ki .i64) r51)], 34, none⟩]) rfl) (wt_none' rfl) fun _ => ?_
        refine sx_ox' (ox_store' (i := 1) (o := 0) rfl rfl (lv_vl rfl rfl) ⟨rfl, rfl, rfl, rfl⟩ rfl info4 rfl (H' := [⟨.pointer (some q12), [(Vl (.int .i64 r44))], 66, none⟩, ⟨.pointer (some q7), [(Vl (.bool true))], 4, none⟩, ⟨.pointer (some q6), [(Sl (Ki .i64) r51)], 34, none⟩]) rfl) (wt_none' rfl) fun _ => ?_
        refine sx_nil' ?_
        show TX E K19 _
        refine tx_k' hK19 ?_
        refine cx_retc' ?_
        replace hp := Option.some.inj hp
        subst hp
        refine tx_leave' (.inl rfl) rfl idle26 rfl Tryd.func26 isn26 rfl ?_
        refine tx_pick' (L' := [(6, (Vl (.pointer (some q6)))), (7, (Vl (.pointer (some q7))))]) (H' := [⟨.pointer (some q6), [(Sl (Ki .i64) r51)], 34, none⟩, ⟨.pointer (some q7), [(Vl (.bool true))], 4, none⟩]) [2, 1] (sub_cons rfl (sub_cons rfl sub_nil)) (by decide) (pick_cons rfl (pick_cons rfl pick_nil)) ?_
        exact tx_ret2' Tryd.results14 rfl () (rv_cell' (i := 0) (o := 0) rfl ⟨rfl, rfl, rfl, rfl⟩ rfl flat34) (rv_cell' (i := 1) (o := 0) rfl ⟨rfl, rfl, rfl, rfl⟩ rfl flat4) rfl (List.nil_sublist _)
      · replace hp := (br_f h3).symm.trans hp
        refine cx_skip' ?_
        show TX E K3 _
        refine tx_k' hK3 ?_
        refine cx_seq' fun K20 hK20 => ?_
        refine cx_region' ?_
        refine sx_ox' (ox_store' (i := 1) (o := 0) rfl rfl (lv_vl rfl rfl) ⟨rfl, rfl, rfl, rfl⟩ rfl info34 rfl (H' := [⟨.pointer (some q7), [(Vl (.bool false))], 4, none⟩, ⟨.pointer (some q6), [(Vl (.slice none 0 0))], 34, none⟩]) rfl) (wt_none' rfl) fun _ => ?_
        refine sx_ox' (ox_store' (i := 0) (o := 0) rfl rfl (lv_vl rfl rfl) ⟨rfl, rfl, rfl, rfl⟩ rfl info4 rfl (H' := [⟨.pointer (some q7), [(Vl (.bool false))], 4, none⟩, ⟨.pointer (some q6), [(Vl (.slice none 0 0))], 34, none⟩]) rfl) (wt_none' rfl) fun _ => ?_
        refine sx_nil' ?_
        show TX E K20 _
        refine tx_k' hK20 ?_
        refine cx_retc' ?_
        replace hp := Option.some.inj hp
        subst hp
        refine tx_leave' (.inl rfl) rfl idle26 rfl Tryd.func26 isn26 rfl ?_
        refine tx_pick' (L' := [(6, (Vl (.pointer (some q6)))), (7, (Vl (.pointer (some q7))))]) (H' := [⟨.pointer (some q6), [(Vl (.slice none 0 0))], 34, none⟩, ⟨.pointer (some q7), [(Vl (.bool false))], 4, none⟩]) [1, 0] (sub_cons rfl (sub_cons rfl sub_nil)) (by decide) (pick_cons rfl (pick_cons rfl pick_nil)) ?_
        exact tx_ret2' Tryd.results14 rfl () (rv_imp' (x := (Vl (.slice none 0 0))) (y := (Sl (Ki .i64) [])) (rv_cell' (i := 0) (o := 0) rfl ⟨rfl, rfl, rfl, rfl⟩ rfl flat34) imp_nil) (rv_cell' (i := 1) (o := 0) rfl ⟨rfl, rfl, rfl, rfl⟩ rfl flat4) rfl (List.nil_sublist _)

def laws_FnHilbertCoarse_l1s (r43 : (List Int) × Bool) (a2 : Int) (r56 : (List Int) × Bool) (k : Nat) (rec1 : Int → Option (Unit ⊕ Unit)) (x8 : Int) : Option (Unit ⊕ Unit) :=
  br (decide (x8 < (r43.1.length : Int)))
    ((idx r43.1 x8) >>= fun r84 =>
    (ishr .i64 r84 a2) >>= fun r87 =>
    (idx r56.1 x8) >>= fun r90 =>
    br (!decide (r87 = r90))
      (some (.inl ()))
      (rec1 (iadd .i64 x8 1)))
    (some (.inr ()))
def laws_FnHilbertCoarse_l1 (r43 : (List Int) × Bool) (a2 : Int) (r56 : (List Int) × Bool) : Nat → Int → Option (Unit ⊕ Unit)
  | 0, _ => none
  | k + 1, v => laws_FnHilbertCoarse_l1s r43 a2 r56 k (laws_FnHilbertCoarse_l1 r43 a2 r56 k) v
def laws_FnHilbertCoarse_j7 (k : Nat) (r43 : (List Int) × Bool) (a2 : Int) (r56 : (List Int) × Bool) (x7 : Bool) : Option (Bool) :=
  br x7
    (some false)
    ((laws_FnHilbertCoarse_l1 r43 a2 r56 k 0) >>= fun y1 => match y1 with
      | (.inl v9) =>
        (some false)
      | (.inr v10) =>
        (some true))
def laws_FnHilbertCoarse_j6 (k : Nat) (r43 : (List Int) × Bool) (a2 : Int) (r56 : (List Int) × Bool) (a0 : Int) (x6 : Bool) : Option (Bool) :=
  br x6
    (laws_FnHilbertCoarse_j7 k r43 a2 r56 true)
    (laws_FnHilbertCoarse_j7 k r43 a2 r56 (!decide ((r56.1.length : Int) = a0)))
def laws_FnHilbertCoarse_j5 (k : Nat) (r43 : (List Int) × Bool) (a2 : Int) (r56 : (List Int) × Bool) (a0 : Int) (x5 : Bool) : Option (Bool) :=
  br x5
    (laws_FnHilbertCoarse_j6 k r43 a2 r56 a0 true)
    (laws_FnHilbertCoarse_j6 k r43 a2 r56 a0 (!decide ((r43.1.length : Int) = a0)))
def laws_FnHilbertCoarse_j4 (k : Nat) (a0 : Int) (a1 : Int) (a3 : Int) (a2 : Int) (x4 : Bool) : Option (Bool) :=
  br x4
    (some true)
    ((impl_HCoord k a0 a1 a3) >>= fun r43 =>
    (ishr .i64 a3 (imul .i64 a0 a2)) >>= fun r55 =>
    (impl_HCoord k a0 (isub .i64 a1 a2) r55) >>= fun r56 =>
    br (!r43.2)
      (laws_FnHilbertCoarse_j5 k r43 a2 r56 a0 true)
      (laws_FnHilbertCoarse_j5 k r43 a2 r56 a0 (!r56.2)))
def laws_FnHilbertCoarse_j3 (k : Nat) (a0 : Int) (a1 : Int) (a3 : Int) (a2 : Int) (x3 : Bool) : Option (Bool) :=
  br x3
    (laws_FnHilbertCoarse_j4 k a0 a1 a3 a2 true)
    ((ishl .i64 1 (imul .i64 a0 a1)) >>= fun r36 =>
    laws_FnHilbertCoarse_j4 k a0 a1 a3 a2 (decide (r36 ≤ a3)))
def laws_FnHilbertCoarse_j2 (k : Nat) (a0 : Int) (a1 : Int) (a3 : Int) (a2 : Int) (x2 : Bool) : Option (Bool) :=
  br x2
    (laws_FnHilbertCoarse_j3 k a0 a1 a3 a2 true)
    (laws_FnHilbertCoarse_j3 k a0 a1 a3 a2 (decide (a3 < 0)))
def laws_FnHilbertCoarse_j1 (k : Nat) (a0 : Int) (a1 : Int) (a3 : Int) (a2 : Int) (x1 : Bool) : Option (Bool) :=
  br x1
    (laws_FnHilbertCoarse_j2 k a0 a1 a3 a2 true)
    (laws_FnHilbertCoarse_j2 k a0 a1 a3 a2 (decide (a1 ≤ a2)))
def laws_FnHilbertCoarse (k : Nat) (a0 : Int) (a1 : Int) (a2 : Int) (a3 : Int) : Option (Bool) :=
  (laws_curved k a0 a1) >>= fun r16 =>
  br (!r16)
    (laws_FnHilbertCoarse_j1 k a0 a1 a3 a2 true)
    (laws_FnHilbertCoarse_j1 k a0 a1 a3 a2 (decide (a2 < 0)))

theorem laws_FnHilbertCoarse_sim {k : Nat}  (a0 : Int) (a1 : Int) (a2 : Int) (a3 : Int) {out : Bool} (hp : laws_FnHilbertCoarse k a0 a1 a2 a3 = some out) : Go.Sx.Fn Tryd.prog 5 [(Vl (.int .i64 a0)), (Vl (.int .i64 a1)), (Vl (.int .i64 a2)), (Vl (.int .i64 a3))] [] (fun w : Unit => (Vl (.bool out))) (fun w => []) := by
  unfold laws_FnHilbertCoarse at hp
  refine fn_of Tryd.func5 rfl Tryd.ntmps5 rfl fun E hM => ?_
  refine cx_seq' fun K1 hK1 => ?_
  refine cx_region' ?_
  refine sx_rd' (rd_assign' rfl) rfl rfl (wt_none' rfl) ?_
  refine sx_nil' ?_
  show TX E K1 _
  refine tx_k' hK1 ?_
  refine cx_seq' fun K2 hK2 => ?_
  refine cx_seq' fun K3 hK3 => ?_
  refine cx_region' ?_
  refine sx_rd' (rd_move' rfl) rfl rfl (wt_none' rfl) ?_
  refine sx_rd' (rd_move' rfl) rfl rfl (wt_none' rfl) ?_
  obtain ⟨r16, hr16, hp⟩ := bind_some hp
  refine sx_ox' (ox_calln' (ent_fn' Tryd.func13 isn13 rfl rfl) (laws_curved_sim _ _ hr16 : Go.Sx.Fn Tryd.prog 13 [(Vl (.int .i64 a0)), (Vl (.int .i64 a1))] [] (fun x : Unit => (Vl (.bool r16))) (fun x => [])) (Hn := fun x : Unit => []) (fun _ => rfl) rfl rfl) (wt_none' rfl) fun ⟨⟩ => ?_
  refine sx_rd' (rd_un' rfl ru_not) rfl rfl (wt_none' rfl) ?_
  refine sx_rd' (rd_move' rfl) rfl rfl (wt_none' rfl) ?_
  refine sx_cutn' 3 (fun (v1 : Bool) => (⟨94, [], [(0, (Vl (.int .i64 a0))), (1, (Vl (.int .i64 a1))), (2, (Vl (.int .i64 a2))), (3, (Vl (.int .i64 a3))), (21, (Vl (.bool v1)))], []⟩ : St)) (fun (v1 : Bool) => laws_FnHilbertCoarse_j1 k a0 a1 a3 a2 v1 = some out) ?_ ?_
  · rintro x1 hp
    replace hp : laws_FnHilbertCoarse_j1 k a0 a1 a3 a2 x1 = some out := hp
    unfold laws_FnHilbertCoarse_j1 at hp
    refine sx_rd' (rd_move' rfl) rfl rfl (wt_none' rfl) ?_
    refine sx_cutn' 4 (fun (v2 : Bool) => (⟨94, [], [(0, (Vl (.int .i64 a0))), (1, (Vl (.int .i64 a1))), (2, (Vl (.int .i64 a2))), (3, (Vl (.int .i64 a3))), (26, (Vl (.bool v2)))], []⟩ : St)) (fun (v2 : Bool) => laws_FnHilbertCoarse_j2 k a0 a1 a3 a2 v2 = some out) ?_ ?_
    · rintro x2 hp
      replace hp : laws_FnHilbertCoarse_j2 k a0 a1 a3 a2 x2 = some out := hp
      unfold laws_FnHilbertCoarse_j2 at hp
      refine sx_rd' (rd_move' rfl) rfl rfl (wt_none' rfl) ?_
      refine sx_cutn' 3 (fun (v3 : Bool) => (⟨94, [], [(0, (Vl (.int .i64 a0))), (1, (Vl (.int .i64 a1))), (2, (Vl (.int .i64 a2))), (3, (Vl (.int .i64 a3))), (30, (Vl (.bool v3)))], []⟩ : St)) (fun (v3 : Bool) => laws_FnHilbertCoarse_j3 k a0 a1 a3 a2 v3 = some out) ?_ ?_
      · rintro x3 hp
        replace hp : laws_FnHilbertCoarse_j3 k a0 a1 a3 a2 x3 = some out := hp
        unfold laws_FnHilbertCoarse_j3 at hp
        refine sx_rd' (rd_move' rfl) rfl rfl (wt_none' rfl) ?_
        refine sx_cutn' 7 (fun (v4 : Bool) => (⟨94, [], [(0, (Vl (.int .i64 a0))), (1, (Vl (.int .i64 a1))), (2, (Vl (.int .i64 a2))), (3, (Vl (.int .i64 a3))), (38, (Vl (.bool v4)))], []⟩ : St)) (fun (v4 : Bool) => laws_FnHilbertCoarse_j4 k a0 a1 a3 a2 v4 = some out) ?_ ?_
        · rintro x4 hp
          replace hp : laws_FnHilbertCoarse_j4 k a0 a1 a3 a2 x4 = some out := hp
          unfold laws_FnHilbertCoarse_j4 at hp
          refine sx_nil' ?_
          show TX E K3 _
          refine tx_k' hK3 ?_
          refine cx_cond' rfl (fun h5 => ?_) (fun h5 => ?_)
          · replace hp := (br_t h5).symm.trans hp
            refine cx_seq' fun K8 hK8 => ?_
            refine cx_region' ?_
            refine sx_rd' (rd_assign' rfl) rfl rfl (wt_none' rfl) ?_
            refine sx_nil' ?_
            show TX E K8 _
            refine tx_k' hK8 ?_
            refine cx_retc' ?_
            replace hp := Option.some.inj hp
            subst hp
            refine tx_pick' (L' := [(8, (Vl (.bool true)))]) (H' := []) [] (sub_cons rfl sub_nil) (by decide) pick_nil ?_
            exact tx_ret1' Tryd.results5 rfl () (rv_tmp' rfl) (List.Sublist.refl _)
          · replace hp := (br_f h5).symm.trans hp
            refine cx_skip' ?_
            show TX E K2 _
            refine tx_k' hK2 ?_
            refine cx_seq' fun K9 hK9 => ?_
            refine cx_region' ?_
            refine sx_rd' (rd_move' rfl) rfl rfl (wt_none' rfl) ?_
            refine sx_rd' (rd_move' rfl) rfl rfl (wt_none' rfl) ?_
            refine sx_rd' (rd_move' rfl) rfl rfl (wt_none' rfl) ?_
            obtain ⟨r43, hr43, hp⟩ := bind_some hp
            refine sx_ox' (ox_calln' (ent_fn' Tryd.func14 isn14 rfl rfl) (impl_HCoord_sim _ _ _ hr43 : Go.Sx.Fn Tryd.prog 14 [(Vl (.int .i64 a0)), (Vl (.int .i64 a1)), (Vl (.int .i64 a3))] [] (fun x : Unit => (Tu [(Sl (Ki .i64) r43.1), (Vl (.bool r43.2))])) (fun x => [])) (Hn := fun x : Unit => []) (fun _ => rfl) rfl rfl) (wt_none' rfl) fun ⟨⟩ => ?_
            refine sx_rd' (rd_move' rfl) rfl rfl (wt_none' rfl) ?_
            refine sx_rd' (rd_extract' rfl rfl) rfl rfl (wt_none' rfl) ?_
            refine sx_rd' (rd_extract' rfl rfl) rfl rfl (wt_none' rfl) ?_
            refine sx_rd' (rd_assign' rfl) rfl rfl (wt_none' rfl) ?_
            refine sx_rd' (rd_assign' rfl) rfl rfl (wt_none' rfl) ?_
            refine sx_nil' ?_
            show TX E K9 _
            refine tx_k' hK9 ?_
            refine cx_seq' fun K10 hK10 => ?_
            refine cx_region' ?_
            refine sx_rd' (rd_move' rfl) rfl rfl (wt_none' rfl) ?_
            refine sx_rd' (rd_move' rfl) rfl rfl (wt_none' rfl) ?_
            refine sx_rd' (rd_move' rfl) rfl rfl (wt_none' rfl) ?_
            refine sx_rd' (rd_bin' rfl rfl eg_int ru_sub) rfl rfl (wt_none' rfl) ?_
            refine sx_rd' (rd_move' rfl) rfl rfl (wt_none' rfl) ?_
            refine sx_rd' (rd_move' rfl) rfl rfl (wt_none' rfl) ?_
            refine sx_rd' (rd_move' rfl) rfl rfl (wt_none' rfl) ?_
            refine sx_rd' (rd_bin' rfl rfl eg_int ru_mul) rfl rfl (wt_none' rfl) ?_
            obtain ⟨r55, hr55, hp⟩ := bind_some hp
            refine sx_rd' (rd_bin' rfl rfl eg_int (ru_shr hr55)) rfl rfl (wt_none' rfl) ?_
            obtain ⟨r56, hr56, hp⟩ := bind_some hp
            refine sx_ox' (ox_calln' (ent_fn' Tryd.func14 isn14 rfl rfl) (impl_HCoord_sim _ _ _ hr56 : Go.Sx.Fn Tryd.prog 14 [(Vl (.int .i64 a0)), (Vl (.int .i64 (isub .i64 a1 a2))), (Vl (.int .i64 r55))] [] (fun x : Unit => (Tu [(Sl (Ki .i64) r56.1), (Vl (.bool r56.2))])) (fun x => [])) (Hn := fun x : Unit => []) (fun _ => rfl) rfl rfl) (wt_none' rfl) fun ⟨⟩ => ?_
            refine sx_rd' (rd_move' rfl) rfl rfl (wt_none' rfl) ?_
            refine sx_rd' (rd_extract' rfl rfl) rfl rfl (wt_none' rfl) ?_
            refine sx_rd' (rd_extract' rfl rfl) rfl rfl (wt_none' rfl) ?_
            refine sx_rd' (rd_assign' rfl) rfl rfl (wt_none' rfl) ?_
            refine sx_rd' (rd_assign' rfl) rfl rfl (wt_none' rfl) ?_
            refine sx_nil' ?_
            show TX E K10 _
            refine tx_k' hK10 ?_
            refine cx_seq' fun K11 hK11 => ?_
            refine cx_seq' fun K12 hK12 => ?_
            refine cx_region' ?_
            refine sx_rd' (rd_move' rfl) rfl rfl (wt_none' rfl) ?_
            refine sx_rd' (rd_un' rfl ru_not) rfl rfl (wt_none' rfl) ?_
            refine sx_rd' (rd_move' rfl) rfl rfl (wt_none' rfl) ?_
            refine sx_cutn' 3 (fun (v5 : Bool) => (⟨94, [], [(0, (Vl (.int .i64 a0))), (2, (Vl (.int .i64 a2))), (9, (Sl (Ki .i64) r43.1)), (11, (Sl (Ki .i64) r56.1)), (64, (Vl (.bool v5)))], []⟩ : St)) (fun (v5 : Bool) => laws_FnHilbertCoarse_j5 k r43 a2 r56 a0 v5 = some out) ?_ ?_
            · rintro x5 hp
              replace hp : laws_FnHilbertCoarse_j5 k r43 a2 r56 a0 x5 = some out := hp
              unfold laws_FnHilbertCoarse_j5 at hp
              refine sx_rd' (rd_move' rfl) rfl rfl (wt_none' rfl) ?_
              refine sx_cutn' 5 (fun (v6 : Bool) => (⟨94, [], [(0, (Vl (.int .i64 a0))), (2, (Vl (.int .i64 a2))), (9, (Sl (Ki .i64) r43.1)), (11, (Sl (Ki .i64) r56.1)), (70, (Vl (.bool v6)))], []⟩ : St)) (fun (v6 : Bool) => laws_FnHilbertCoarse_j6 k r43 a2 r56 a0 v6 = some out) ?_ ?_
              · rintro x6 hp
                replace hp : laws_FnHilbertCoarse_j6 k r43 a2 r56 a0 x6 = some out := hp
                unfold laws_FnHilbertCoarse_j6 at hp
                refine sx_rd' (rd_move' rfl) rfl rfl (wt_none' rfl) ?_
                refine sx_cutn' 5 (fun (v7 : Bool) => (⟨94, [], [(2, (Vl (.int .i64 a2))), (9, (Sl (Ki .i64) r43.1)), (11, (Sl (Ki .i64) r56.1)), (76, (Vl (.bool v7)))], []⟩ : St)) (fun (v7 : Bool) => laws_FnHilbertCoarse_j7 k r43 a2 r56 v7 = some out) ?_ ?_
                · rintro x7 hp
                  replace hp : laws_FnHilbertCoarse_j7 k r43 a2 r56 x7 = some out := hp
                  unfold laws_FnHilbertCoarse_j7 at hp
                  refine sx_nil' ?_
                  show TX E K12 _
                  refine tx_k' hK12 ?_
                  refine cx_cond' rfl (fun h9 => ?_) (fun h9 => ?_)
                  · replace hp := (br_t h9).symm.trans hp
                    refine cx_seq' fun K16 hK16 => ?_
                    refine cx_region' ?_
                    refine sx_rd' (rd_assign' rfl) rfl rfl (wt_none' rfl) ?_
                    refine sx_nil' ?_
                    show TX E K16 _
                    refine tx_k' hK16 ?_
                    refine cx_retc' ?_
                    replace hp := Option.some.inj hp
                    subst hp
                    refine tx_pick' (L' := [(8, (Vl (.bool false)))]) (H' := []) [] (sub_cons rfl sub_nil) (by decide) pick_nil ?_
                    exact tx_ret1' Tryd.results5 rfl () (rv_tmp' rfl) (List.Sublist.refl _)
                  · replace hp := (br_f h9).symm.trans hp
                    refine cx_skip' ?_
                    show TX E K11 _
                    refine tx_k' hK11 ?_
                    refine cx_seq' fun K17 hK17 => ?_
                    refine cx_seq' fun K18 hK18 => ?_
                    refine cx_region' ?_
                    refine sx_rd' (rd_move' rfl) rfl rfl (wt_none' rfl) ?_
                    refine sx_rd' (rd_len' rfl Tryd.underlying34) rfl rfl (wt_none' rfl) ?_
                    refine sx_rd' (rd_move' rfl) rfl rfl (wt_none' rfl) ?_
                    refine sx_nil' ?_
                    show TX E K18 _
                    refine tx_k' hK18 ?_
                    refine cx_block' ?_
                    obtain ⟨y1, hy1, hp⟩ := bind_some hp
                    refine cx_loopg' (F := laws_FnHilbertCoarse_l1 r43 a2 r56) (G := fun k R v => laws_FnHilbertCoarse_l1s r43 a2 r56 k R v) (x := 0) (gh := ()) (fun (v8 : Int) (w8 : Unit) => (⟨94, [], [(2, (Vl (.int .i64 a2))), (9, (Sl (Ki .i64) r43.1)), (11, (Sl (Ki .i64) r56.1)), (78, (Vl (.int .i64 (r43.1.length : Int)))), (79, (Vl (.int .i64 v8)))], []⟩ : St)) (fun (y : Unit ⊕ Unit) => match y with | (.inl v9) => Zg E Exit.ret (fun (w9 : Unit) => (⟨94, [], [(8, (Vl (.bool false)))], []⟩ : St)) | (.inr v10) => Zg E (Exit.exit 0) (fun (w10 : Unit) => (⟨94, [], [], []⟩ : St))) (fun _ => rfl) (fun _ _ => rfl) ?_ hy1 (tx_to' rfl [] (sub_cons rfl (sub_cons rfl (sub_cons rfl (sub_cons rfl (sub_cons rfl sub_nil))))) (by decide) pick_nil) ?_
                    · clear hp hy1
                      clear y1
                      intro k rec1 KY1 ih1
                      rintro x8 ⟨⟩ y1 hp
                      replace hp : laws_FnHilbertCoarse_l1s r43 a2 r56 k rec1 x8 = some y1 := hp
                      unfold laws_FnHilbertCoarse_l1s at hp
                      refine cx_seq' fun K25 hK25 => ?_
                      refine cx_region' ?_
                      refine sx_rd' (rd_bin' rfl rfl eg_int ru_lss) rfl rfl (wt_none' rfl) ?_
                      refine sx_nil' ?_
                      show TX E K25 _
                      refine tx_k' hK25 ?_
                      refine cx_seq' fun K26 hK26 => ?_
                      refine cx_cond' rfl (fun h13 => ?_) (fun h13 => ?_)
                      · replace hp := (br_t h13).symm.trans hp
                        refine cx_skip' ?_
                        show TX E K26 _
                        refine tx_k' hK26 ?_
                        refine cx_seq' fun K27 hK27 => ?_
                        refine cx_block' ?_
                        refine cx_seq' fun K28 hK28 => ?_
                        refine cx_region' ?_
                        refine sx_rd' (rd_move' rfl) rfl rfl (wt_none' rfl) ?_
                        refine sx_rd' (rd_assign' rfl) rfl rfl (wt_none' rfl) ?_
                        refine sx_nil' ?_
                        show TX E K28 _
                        refine tx_k' hK28 ?_
                        refine cx_seq' fun K29 hK29 => ?_
                        refine cx_draw' mixed (by kernel_rfl) ?_
                        refine qx_rd' (rd_move' rfl) rfl rfl (wt_none' rfl) ?_
                        refine qx_rd' (rd_move' rfl) rfl rfl (wt_none' rfl) ?_
                        obtain ⟨r84, hr84, hp⟩ := bind_some hp
                        refine qx_rd' (rd_at' (K := (Ki .i64)) rfl rfl hr84 Tryd.underlying34 info3) rfl rfl (wt_none' rfl) ?_
                        refine qx_rd' (rd_load_pt' rfl rfl flat3) rfl rfl (wt_none' rfl) ?_
                        refine qx_rd' (rd_move' rfl) rfl rfl (wt_none' rfl) ?_
                        obtain ⟨r87, hr87, hp⟩ := bind_some hp
                        refine qx_rd' (rd_bin' rfl rfl eg_int (ru_shr hr87)) rfl rfl (wt_none' rfl) ?_
                        refine qx_rd' (rd_move' rfl) rfl rfl (wt_none' rfl) ?_
                        refine qx_rd' (rd_move' rfl) rfl rfl (wt_none' rfl) ?_
                        obtain ⟨r90, hr90, hp⟩ := bind_some hp
                        refine qx_rd' (rd_at' (K := (Ki .i64)) rfl rfl hr90 Tryd.underlying34 info3) rfl rfl (wt_none' rfl) ?_
                        refine qx_rd' (rd_load_pt' rfl rfl flat3) rfl rfl (wt_none' rfl) ?_
                        refine qx_rd' (rd_bin' rfl rfl eg_int ru_neq) rfl rfl (wt_none' rfl) ?_
                        refine qx_nil' ?_
                        show TX E K29 _
                        refine tx_k' hK29 ?_
                        refine cx_cond' rfl (fun h14 => ?_) (fun h14 => ?_)
                        · replace hp := (br_t h14).symm.trans hp
                          refine cx_seq' fun K30 hK30 => ?_
                          refine cx_region' ?_
                          refine sx_rd' (rd_assign' rfl) rfl rfl (wt_none' rfl) ?_
                          refine sx_nil' ?_
                          show TX E K30 _
                          refine tx_k' hK30 ?_
                          refine cx_retc' ?_
                          replace hp := Option.some.inj hp
                          subst hp
                          show TX E (Zg E Exit.ret _ Exit.ret) _
                          exact tx_zend' () rfl [] (sub_cons rfl sub_nil) (by decide) pick_nil
                        · replace hp := (br_f h14).symm.trans hp
                          refine cx_skip' ?_
                          show TX E K27 _
                          refine tx_k' hK27 ?_
                          refine cx_region' ?_
                          refine sx_rd' (rd_bin' rfl rfl eg_int ru_add) rfl rfl (wt_none' rfl) ?_
                          refine sx_rd' (rd_move' rfl) rfl rfl (wt_none' rfl) ?_
                          refine sx_nil' ?_
                          show TX E (KY1 _) _
                          exact tx_pick' [] (sub_cons rfl (sub_cons rfl (sub_cons rfl (sub_cons rfl (sub_cons rfl sub_nil))))) (by decide) pick_nil (ih1 (iadd .i64 x8 1) () _ hp)
                      · replace hp := (br_f h13).symm.trans hp
                        refine cx_exit' ?_
                        replace hp := Option.some.inj hp
                        subst hp
                        show TX E (Zg E (Exit.exit 0) _ (Exit.exit 0)) _
                        exact tx_zend' () rfl [] sub_nil (by decide) pick_nil
                    · rcases y1 with v9 | v10
                      · dsimp only at hp
                        refine zg_out fun w9 => ?_
                        replace hp := Option.some.inj hp
                        subst hp
                        refine tx_pick' (L' := [(8, (Vl (.bool false)))]) (H' := []) [] (sub_cons rfl sub_nil) (by decide) pick_nil ?_
                        exact tx_ret1' Tryd.results5 rfl () (rv_tmp' rfl) (List.Sublist.refl _)
                      · dsimp only at hp
                        refine zg_out fun w10 => ?_
                        show TX E K17 _
                        refine tx_k' hK17 ?_
                        refine cx_seq' fun K31 hK31 => ?_
                        refine cx_region' ?_
                        refine sx_rd' (rd_assign' rfl) rfl rfl (wt_none' rfl) ?_
                        refine sx_nil' ?_
                        show TX E K31 _
                        refine tx_k' hK31 ?_
                        refine cx_retc' ?_
                        replace hp := Option.some.inj hp
                        subst hp
                        refine tx_pick' (L' := [(8, (Vl (.bool true)))]) (H' := []) [] (sub_cons rfl sub_nil) (by decide) pick_nil ?_
                        exact tx_ret1' Tryd.results5 rfl () (rv_tmp' rfl) (List.Sublist.refl _)
                · intro K15 hK15
                  rcases br_cases hp with ⟨h8, hp⟩ | ⟨h8, hp⟩
                  · refine sx_skip' rfl rfl (wt_is' (wt_guard' rfl rfl rfl) (beq_tf h8)) ?_
                    refine sx_skip' rfl rfl (wt_is' (wt_guard' rfl rfl rfl) (beq_tf h8)) ?_
                    refine sx_skip' rfl rfl (wt_is' (wt_guard' rfl rfl rfl) (beq_tf h8)) ?_
                    refine sx_skip' rfl rfl (wt_is' (wt_guard' rfl rfl rfl) (beq_tf h8)) ?_
                    refine sx_rd' (rd_pick_true' rfl h8 rfl) rfl rfl (wt_none' rfl) ?_
                    refine sx_nil' ?_
                    show TX E K15 _
                    exact tx_pick' [] (sub_cons rfl (sub_cons rfl (sub_cons rfl (sub_cons rfl sub_nil)))) (by decide) pick_nil (hK15 true hp)
                  · refine sx_rd' (rd_move' rfl) rfl rfl (wt_is' (wt_guard' rfl rfl rfl) (beq_ff h8)) ?_
                    refine sx_rd' (rd_len' rfl Tryd.underlying34) rfl rfl (wt_is' (wt_guard' rfl rfl rfl) (beq_ff h8)) ?_
                    refine sx_rd' (rd_move' rfl) rfl rfl (wt_is' (wt_guard' rfl rfl rfl) (beq_ff h8)) ?_
                    refine sx_rd' (rd_bin' rfl rfl eg_int ru_neq) rfl rfl (wt_is' (wt_guard' rfl rfl rfl) (beq_ff h8)) ?_
                    refine sx_rd' (rd_pick_false' rfl h8 rfl) rfl rfl (wt_none' rfl) ?_
                    refine sx_nil' ?_
                    show TX E K15 _
                    exact tx_pick' [] (sub_cons rfl (sub_cons rfl (sub_cons rfl (sub_cons rfl sub_nil)))) (by decide) pick_nil (hK15 (!decide ((r56.1.length : Int) = a0)) hp)
              · intro K14 hK14
                rcases br_cases hp with ⟨h7, hp⟩ | ⟨h7, hp⟩
                · refine sx_skip' rfl rfl (wt_is' (wt_guard' rfl rfl rfl) (beq_tf h7)) ?_
                  refine sx_skip' rfl rfl (wt_is' (wt_guard' rfl rfl rfl) (beq_tf h7)) ?_
                  refine sx_skip' rfl rfl (wt_is' (wt_guard' rfl rfl rfl) (beq_tf h7)) ?_
                  refine sx_skip' rfl rfl (wt_is' (wt_guard' rfl rfl rfl) (beq_tf h7)) ?_
                  refine sx_rd' (rd_pick_true' rfl h7 rfl) rfl rfl (wt_none' rfl) ?_
                  refine sx_nil' ?_
                  show TX E K14 _
                  exact tx_pick' [] (sub_cons rfl (sub_cons rfl (sub_cons rfl (sub_cons rfl (sub_cons rfl sub_nil))))) (by decide) pick_nil (hK14 true hp)
                · refine sx_rd' (rd_move' rfl) rfl rfl (wt_is' (wt_guard' rfl rfl rfl) (beq_ff h7)) ?_
                  refine sx_rd' (rd_len' rfl Tryd.underlying34) rfl rfl (wt_is' (wt_guard' rfl rfl rfl) (beq_ff h7)) ?_
                  refine sx_rd' (rd_move' rfl) rfl rfl (wt_is' (wt_guard' rfl rfl rfl) (beq_ff h7)) ?_
                  refine sx_rd' (rd_bin' rfl rfl eg_int ru_neq) rfl rfl (wt_is' (wt_guard' rfl rfl rfl) (beq_ff h7)) ?_
                  refine sx_rd' (rd_pick_false' rfl h7 rfl) rfl rfl (wt_none' rfl) ?_
                  refine sx_nil' ?_
                  show TX E K14 _
                  exact tx_pick' [] (sub_cons rfl (sub_cons rfl (sub_cons rfl (sub_cons rfl (sub_cons rfl sub_nil))))) (by decide) pick_nil (hK14 (!decide ((r43.1.length : Int) = a0)) hp)
            · intro K13 hK13
              rcases br_cases hp with ⟨h6, hp⟩ | ⟨h6, hp⟩
              · refine sx_skip' rfl rfl (wt_is' (wt_guard' rfl rfl rfl) (beq_tf h6)) ?_
                refine sx_skip' rfl rfl (wt_is' (wt_guard' rfl rfl rfl) (beq_tf h6)) ?_
                refine sx_rd' (rd_pick_true' rfl h6 rfl) rfl rfl (wt_none' rfl) ?_
                refine sx_nil' ?_
                show TX E K13 _
                exact tx_pick' [] (sub_cons rfl (sub_cons rfl (sub_cons rfl (sub_cons rfl (sub_cons rfl sub_nil))))) (by decide) pick_nil (hK13 true hp)
              · refine sx_rd' (rd_move' rfl) rfl rfl (wt_is' (wt_guard' rfl rfl rfl) (beq_ff h6)) ?_
                refine sx_rd' (rd_un' rfl ru_not) rfl rfl (wt_is' (wt_guard' rfl rfl rfl) (beq_ff h6)) ?_
                refine sx_rd' (rd_pick_false' rfl h6 rfl) rfl rfl (wt_none' rfl) ?_
                refine sx_nil' ?_
                show TX E K13 _
                exact tx_pick' [] (sub_cons rfl (sub_cons rfl (sub_cons rfl (sub_cons rfl (sub_cons rfl sub_nil))))) (by decide) pick_nil (hK13 (!r56.2) hp)
        · intro K7 hK7
          rcases br_cases hp with ⟨h4, hp⟩ | ⟨h4, hp⟩
          · refine sx_skip' rfl rfl (wt_is' (wt_guard' rfl rfl rfl) (beq_tf h4)) ?_
            refine sx_skip' rfl rfl (wt_is' (wt_guard' rfl rfl rfl) (beq_tf h4)) ?_
            refine sx_skip' rfl rfl (wt_is' (wt_guard' rfl rfl rfl) (beq_tf h4)) ?_
            refine sx_skip' rfl rfl (wt_is' (wt_guard' rfl rfl rfl) (beq_tf h4)) ?_
            refine sx_skip' rfl rfl (wt_is' (wt_guard' rfl rfl rfl) (beq_tf h4)) ?_
            refine sx_skip' rfl rfl (wt_is' (wt_guard' rfl rfl rfl) (beq_tf h4)) ?_
            refine sx_rd' (rd_pick_true' rfl h4 rfl) rfl rfl (wt_none' rfl) ?_
            refine sx_nil' ?_
            show TX E K7 _
            exact tx_pick' [] (sub_cons rfl (sub_cons rfl (sub_cons rfl (sub_cons rfl (sub_cons rfl sub_nil))))) (by decide) pick_nil (hK7 true hp)
          · refine sx_rd' (rd_move' rfl) rfl rfl (wt_is' (wt_guard' rfl rfl rfl) (beq_ff h4)) ?_
            refine sx_rd' (rd_move' rfl) rfl rfl (wt_is' (wt_guard' rfl rfl rfl) (beq_ff h4)) ?_
            refine sx_rd' (rd_move' rfl) rfl rfl (wt_is' (wt_guard' rfl rfl rfl) (beq_ff h4)) ?_
            refine sx_rd' (rd_bin' rfl rfl eg_int ru_mul) rfl rfl (wt_is' (wt_guard' rfl rfl rfl) (beq_ff h4)) ?_
            obtain ⟨r36, hr36, hp⟩ := bind_some hp
            refine sx_rd' (rd_bin' rfl rfl eg_int (ru_shl hr36)) rfl rfl (wt_is' (wt_guard' rfl rfl rfl) (beq_ff h4)) ?_
            refine sx_rd' (rd_bin' rfl rfl eg_int ru_geq) rfl rfl (wt_is' (wt_guard' rfl rfl rfl) (beq_ff h4)) ?_
            refine sx_rd' (rd_pick_false' rfl h4 rfl) rfl rfl (wt_none' rfl) ?_
            refine sx_nil' ?_
            show TX E K7 _
            exact tx_pick' [] (sub_cons rfl (sub_cons rfl (sub_cons rfl (sub_cons rfl (sub_cons rfl sub_nil))))) (by decide) pick_nil (hK7 (decide (r36 ≤ a3)) hp)
      · intro K6 hK6
        rcases br_cases hp with ⟨h3, hp⟩ | ⟨h3, hp⟩
        · refine sx_skip' rfl rfl (wt_is' (wt_guard' rfl rfl rfl) (beq_tf h3)) ?_
          refine sx_skip' rfl rfl (wt_is' (wt_guard' rfl rfl rfl) (beq_tf h3)) ?_
          refine sx_rd' (rd_pick_true' rfl h3 rfl) rfl rfl (wt_none' rfl) ?_
          refine sx_nil' ?_
          show TX E K6 _
          exact tx_pick' [] (sub_cons rfl (sub_cons rfl (sub_cons rfl (sub_cons rfl (sub_cons rfl sub_nil))))) (by decide) pick_nil (hK6 true hp)
        · refine sx_rd' (rd_move' rfl) rfl rfl (wt_is' (wt_guard' rfl rfl rfl) (beq_ff h3)) ?_
          refine sx_rd' (rd_bin' rfl rfl eg_int ru_lss) rfl rfl (wt_is' (wt_guard' rfl rfl rfl) (beq_ff h3)) ?_
          refine sx_rd' (rd_pick_false' rfl h3 rfl) rfl rfl (wt_none' rfl) ?_
          refine sx_nil' ?_
          show TX E K6 _
          exact tx_pick' [] (sub_cons rfl (sub_cons rfl (sub_cons rfl (sub_cons rfl (sub_cons rfl sub_nil))))) (by decide) pick_nil (hK6 (decide (a3 < 0)) hp)
    · intro K5 hK5
      rcases br_cases hp with ⟨h2, hp⟩ | ⟨h2, hp⟩
      · refine sx_skip' rfl rfl (wt_is' (wt_guard' rfl rfl rfl) (beq_tf h2)) ?_
        refine sx_skip' rfl rfl (wt_is' (wt_guard' rfl rfl rfl) (beq_tf h2)) ?_
        refine sx_skip' rfl rfl (wt_is' (wt_guard' rfl rfl rfl) (beq_tf h2)) ?_
        refine sx_rd' (rd_pick_true' rfl h2 rfl) rfl rfl (wt_none' rfl) ?_
        refine sx_nil' ?_
        show TX E K5 _
        exact tx_pick' [] (sub_cons rfl (sub_cons rfl (sub_cons rfl (sub_cons rfl (sub_cons rfl sub_nil))))) (by decide) pick_nil (hK5 true hp)
      · refine sx_rd' (rd_move' rfl) rfl rfl (wt_is' (wt_guard' rfl rfl rfl) (beq_ff h2)) ?_
        refine sx_rd' (rd_move' rfl) rfl rfl (wt_is' (wt_guard' rfl rfl rfl) (beq_ff h2)) ?_
        refine sx_rd' (rd_bin' rfl rfl eg_int ru_geq) rfl rfl (wt_is' (wt_guard' rfl rfl rfl) (beq_ff h2)) ?_
        refine sx_rd' (rd_pick_false' rfl h2 rfl) rfl rfl (wt_none' rfl) ?_
        refine sx_nil' ?_
        show TX E K5 _
        exact tx_pick' [] (sub_cons rfl (sub_cons rfl (sub_cons rfl (sub_cons rfl (sub_cons rfl sub_nil))))) (by decide) pick_nil (hK5 (decide (a1 ≤ a2)) hp)
  · intro K4 hK4
    rcases br_cases hp with ⟨h1, hp⟩ | ⟨h1, hp⟩
    · refine sx_skip' rfl rfl (wt_is' (wt_guard' rfl rfl rfl) (beq_tf h1)) ?_
      refine sx_skip' rfl rfl (wt_is' (wt_guard' rfl rfl rfl) (beq_tf h1)) ?_
      refine sx_rd' (rd_pick_true' rfl h1 rfl) rfl rfl (wt_none' rfl) ?_
      refine sx_nil' ?_
      show TX E K4 _
      exact tx_pick' [] (sub_cons rfl (sub_cons rfl (sub_cons rfl (sub_cons rfl (sub_cons rfl sub_nil))))) (by decide) pick_nil (hK4 true hp)
    · refine sx_rd' (rd_move' rfl) rfl rfl (wt_is' (wt_guard' rfl rfl rfl) (beq_ff h1)) ?_
      refine sx_rd' (rd_bin' rfl rfl eg_int ru_lss) rfl rfl (wt_is' (wt_guard' rfl rfl rfl) (beq_ff h1)) ?_
      refine sx_rd' (rd_pick_false' rfl h1 rfl) rfl rfl (wt_none' rfl) ?_
      refine sx_nil' ?_
      show TX E K4 _
      exact tx_pick' [] (sub_cons rfl (sub_cons rfl (sub_cons rfl (sub_cons rfl (sub_cons rfl sub_nil))))) (by decide) pick_nil (hK4 (decide (a2 < 0)) hp)

end Go.Proofs.YtnhbmhdjkibjaaaDoor
