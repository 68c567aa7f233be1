/-
  Plain functions for the Go functions that this law reaches, and that each call does what its plain function says. Printed by a program of ours.
-/
import Derived.Test.YtkeaodoibflhnaaProg
import Derived.Test.YtkeaodoibflhnaaSxZ
namespace Go.Proofs.Ytkeaodoibflhnaa
open Go.Sx
set_option linter.unusedVariables false
set_option maxRecDepth 100000

theorem info55 : (Try.prog.info? 55).map (fun i => (i.zero, i.size, i.bytes)) = some (some (.agg #[.int .i64 0, .slice none 0 0, .slice none 0 0]), 3, 56) := by kernel_rfl
theorem agg55 : Agg Try.prog 55 3 := ⟨⟨_, Try.underlying55, .inl ⟨_, rfl⟩⟩, info_size info55⟩
theorem isn27 : (Try.f27.name == "runtime.NumGoroutine") = false := by kernel_rfl
theorem info22 : (Try.prog.info? 22).map (fun i => (i.zero, i.size, i.bytes)) = some (some (.slice none 0 0), 1, 24) := by kernel_rfl
theorem flat22 : Flat Try.prog 22 := ⟨_, Try.underlying22, fun _ h => (nomatch h), fun _ _ h => (nomatch h)⟩
theorem isn28 : (Try.f28.name == "runtime.NumGoroutine") = false := by kernel_rfl
theorem info3 : (Try.prog.info? 3).map (fun i => (i.zero, i.size, i.bytes)) = some (some (.int .i64 0), 1, 8) := by kernel_rfl
theorem flat3 : Flat Try.prog 3 := ⟨_, Try.underlying3, fun _ h => (nomatch h), fun _ _ h => (nomatch h)⟩
theorem isn17 : (Try.f17.name == "runtime.NumGoroutine") = false := by kernel_rfl
theorem info32 : (Try.prog.info? 32).map (fun i => (i.zero, i.size, i.bytes)) = some (some (.float .f64 0), 1, 8) := by kernel_rfl
theorem flat32 : Flat Try.prog 32 := ⟨_, Try.underlying32, fun _ h => (nomatch h), fun _ _ h => (nomatch h)⟩
theorem isn29 : (Try.f29.name == "runtime.NumGoroutine") = false := by kernel_rfl
theorem mixed : Try.prog.follows .mixedOrders = true := by kernel_rfl
theorem places27 : placesOf Try.prog [{ name := "Kind", type := 3, offset := 0, embedded := false, tag := "", pkgPath := "", byteOffset := 0 }, { name := "Layout", type := 3, offset := 1, embedded := false, tag := "", pkgPath := "", byteOffset := 8 }, { name := "SRID", type := 3, offset := 2, embedded := false, tag := "", pkgPath := "", byteOffset := 16 }, { name := "Flat", type := 22, offset := 3, embedded := false, tag := "", pkgPath := "", byteOffset := 24 }, { name := "Ends", type := 23, offset := 4, embedded := false, tag := "", pkgPath := "", byteOffset := 48 }, { name := "Endss", type := 24, offset := 5, embedded := false, tag := "", pkgPath := "", byteOffset := 72 }, { name := "Kids", type := 25, offset := 6, embedded := false, tag := "", pkgPath := "", byteOffset := 96 }] = [(0, 1), (1, 1), (2, 1), (3, 1), (4, 1), (5, 1), (6, 1)] := by kernel_rfl
theorem has27 : ∀ f ∈ ([{ name := "Kind", type := 3, offset := 0, embedded := false, tag := "", pkgPath := "", byteOffset := 0 }, { name := "Layout", type := 3, offset := 1, embedded := false, tag := "", pkgPath := "", byteOffset := 8 }, { name := "SRID", type := 3, offset := 2, embedded := false, tag := "", pkgPath := "", byteOffset := 16 }, { name := "Flat", type := 22, offset := 3, embedded := false, tag := "", pkgPath := "", byteOffset := 24 }, { name := "Ends", type := 23, offset := 4, embedded := false, tag := "", pkgPath := "", byteOffset := 48 }, { name := "Endss", type := 24, offset := 5, embedded := false, tag := "", pkgPath := "", byteOffset := 72 }, { name := "Kids", type := 25, offset := 6, embedded := false, tag := "", pkgPath := "", byteOffset := 96 }] : List Field), (Try.prog.info? f.type).isSome = true := fun f hf => all_of (p := fun f => (Try.prog.info? f.type).isSome) (by kernel_rfl) f hf
theorem info27 : (Try.prog.info? 27).map (fun i => (i.zero, i.size, i.bytes)) = some (some (.agg #[.int .i64 0, .int .i64 0, .int .i64 0, .slice none 0 0, .slice none 0 0, .slice none 0 0, .slice none 0 0]), 7, 120) := by kernel_rfl
theorem isn45 : (Try.f45.name == "runtime.NumGoroutine") = false := by kernel_rfl
theorem info23 : (Try.prog.info? 23).map (fun i => (i.zero, i.size, i.bytes)) = some (some (.slice none 0 0), 1, 24) := by kernel_rfl
theorem isn46 : (Try.f46.name == "runtime.NumGoroutine") = false := by kernel_rfl
theorem isn71 : (Try.f71.name == "runtime.NumGoroutine") = false := by kernel_rfl
theorem isn58 : (Try.f58.name == "runtime.NumGoroutine") = false := by kernel_rfl
theorem isn116 : (Try.f116.name == "runtime.NumGoroutine") = false := by kernel_rfl
theorem places153 : placesOf Try.prog [{ name := "layout", type := 92, offset := 0, embedded := false, tag := "", pkgPath := "pub-orthodrome/pub/gogeom", byteOffset := 0 }, { name := "min", type := 140, offset := 1, embedded := false, tag := "", pkgPath := "pub-orthodrome/pub/gogeom", byteOffset := 8 }, { name := "max", type := 140, offset := 2, embedded := false, tag := "", pkgPath := "pub-orthodrome/pub/gogeom", byteOffset := 32 }] = [(0, 1), (1, 1), (2, 1)] := by kernel_rfl
theorem has153 : ∀ f ∈ ([{ name := "layout", type := 92, offset := 0, embedded := false, tag := "", pkgPath := "pub-orthodrome/pub/gogeom", byteOffset := 0 }, { name := "min", type := 140, offset := 1, embedded := false, tag := "", pkgPath := "pub-orthodrome/pub/gogeom", byteOffset := 8 }, { name := "max", type := 140, offset := 2, embedded := false, tag := "", pkgPath := "pub-orthodrome/pub/gogeom", byteOffset := 32 }] : List Field), (Try.prog.info? f.type).isSome = true := fun f hf => all_of (p := fun f => (Try.prog.info? f.type).isSome) (by kernel_rfl) f hf
theorem info153 : (Try.prog.info? 153).map (fun i => (i.zero, i.size, i.bytes)) = some (some (.agg #[.int .i64 0, .slice none 0 0, .slice none 0 0]), 3, 56) := by kernel_rfl
theorem isn95 : (Try.f95.name == "runtime.NumGoroutine") = false := by kernel_rfl
theorem isn126 : (Try.f126.name == "runtime.NumGoroutine") = false := by kernel_rfl
theorem info92 : (Try.prog.info? 92).map (fun i => (i.zero, i.size, i.bytes)) = some (some (.int .i64 0), 1, 8) := by kernel_rfl
theorem flat92 : Flat Try.prog 92 := ⟨_, Try.underlying92, fun _ h => (nomatch h), fun _ _ h => (nomatch h)⟩
theorem isn102 : (Try.f102.name == "runtime.NumGoroutine") = false := by kernel_rfl
theorem info140 : (Try.prog.info? 140).map (fun i => (i.zero, i.size, i.bytes)) = some (some (.slice none 0 0), 1, 24) := by kernel_rfl
theorem flat140 : Flat Try.prog 140 := ⟨_, Try.underlying140, fun _ h => (nomatch h), fun _ _ h => (nomatch h)⟩
theorem isn127 : (Try.f127.name == "runtime.NumGoroutine") = false := by kernel_rfl
theorem info206 : (Try.prog.info? 206).map (fun i => (i.zero, i.size, i.bytes)) = some (some (.agg #[.int .i64 0, .int .i64 0, .slice none 0 0, .int .i64 0, .slice none 0 0]), 5, 72) := by kernel_rfl
theorem info204 : (Try.prog.info? 204).map (fun i => (i.zero, i.size, i.bytes)) = some (some (.agg #[.int .i64 0, .int .i64 0, .slice none 0 0, .int .i64 0]), 4, 48) := by kernel_rfl
theorem info202 : (Try.prog.info? 202).map (fun i => (i.zero, i.size, i.bytes)) = some (some (.agg #[.int .i64 0, .int .i64 0, .slice none 0 0, .int .i64 0]), 4, 48) := by kernel_rfl
theorem info208 : (Try.prog.info? 208).map (fun i => (i.zero, i.size, i.bytes)) = some (some (.agg #[.int .i64 0, .int .i64 0, .slice none 0 0, .int .i64 0, .slice none 0 0]), 5, 72) := by kernel_rfl
theorem isn94 : (Try.f94.name == "runtime.NumGoroutine") = false := by kernel_rfl
theorem inv132_SRID : ∀ (q : Addr) w', (callMethod (.iface 132 (.pointer (some q))) "SRID" #[]).run Try.prog w' = .ok (.enter 186 #[.pointer (some q)]) w' := fun _ _ => by kernel_rfl
theorem as132_161_162 : ∀ v w, (Instr.typeAssert (.iface 132 v) 161 162 true).run Try.prog w = .ok (.tuple #[.pointer none, .bool false]) w := fun _ _ => by kernel_rfl
theorem as132_161_163 : ∀ v w, (Instr.typeAssert (.iface 132 v) 161 163 true).run Try.prog w = .ok (.tuple #[.pointer none, .bool false]) w := fun _ _ => by kernel_rfl
theorem as132_161_164 : ∀ v w, (Instr.typeAssert (.iface 132 v) 161 164 true).run Try.prog w = .ok (.tuple #[.pointer none, .bool false]) w := fun _ _ => by kernel_rfl
theorem as132_161_132k : ∀ v w, (Instr.typeAssert (.iface 132 v) 161 132 true).run Try.prog w = .ok (.tuple #[v, .bool true]) w := fun _ _ => by kernel_rfl
theorem inv132_Layout : ∀ (q : Addr) w', (callMethod (.iface 132 (.pointer (some q))) "Layout" #[]).run Try.prog w' = .ok (.enter 184 #[.pointer (some q)]) w' := fun _ _ => by kernel_rfl
theorem inv132_FlatCoords : ∀ (q : Addr) w', (callMethod (.iface 132 (.pointer (some q))) "FlatCoords" #[]).run Try.prog w' = .ok (.enter 183 #[.pointer (some q)]) w' := fun _ _ => by kernel_rfl
theorem inv132_Ends : ∀ (q : Addr) w', (callMethod (.iface 132 (.pointer (some q))) "Ends" #[]).run Try.prog w' = .ok (.enter 181 #[.pointer (some q)]) w' := fun _ _ => by kernel_rfl
theorem flat23 : Flat Try.prog 23 := ⟨_, Try.underlying23, fun _ h => (nomatch h), fun _ _ h => (nomatch h)⟩
theorem isn68 : (Try.f68.name == "runtime.NumGoroutine") = false := by kernel_rfl
theorem inv132_Endss : ∀ (q : Addr) w', (callMethod (.iface 132 (.pointer (some q))) "Endss" #[]).run Try.prog w' = .ok (.enter 182 #[.pointer (some q)]) w' := fun _ _ => by kernel_rfl
theorem isn92 : (Try.f92.name == "runtime.NumGoroutine") = false := by kernel_rfl
theorem info24 : (Try.prog.info? 24).map (fun i => (i.zero, i.size, i.bytes)) = some (some (.slice none 0 0), 1, 24) := by kernel_rfl
theorem agg27 : Agg Try.prog 27 7 := ⟨⟨_, Try.underlying27, .inl ⟨_, rfl⟩⟩, info_size info27⟩
theorem idle93 : Idle Try.prog 93 2 := fun vs w hv => by
  obtain ⟨v0, v1, rfl⟩ : ∃ v0 v1, vs = [v0, v1] := by
    obtain _ | ⟨v0, vs⟩ := vs
    · simp at hv
    obtain _ | ⟨v1, vs⟩ := vs
    · simp at hv
    obtain _ | ⟨u, vs⟩ := vs
    · exact ⟨v0, v1, rfl⟩
    · simp at hv
  refine callsD_of_wpS Try.func93 rfl fun c₀ cs hu => ?_
  apply wpS_seq
  apply wpS_region
  simp [wpOpsS, go_sem, recoverD, hu, Try.ntmps93, Exit.thenS]
  refine wpS_cond (t := false) (by simp [Act.eval, Array.replicate]) ?_
  simp only [Bool.false_eq_true, if_false]
  refine wpS_of_wp (wp_skip ?_)
  cases c₀
  simp_all [bodyPostS, results, Try.results93]
theorem isn93 : (Try.f93.name == "runtime.NumGoroutine") = false := by kernel_rfl
theorem info4 : (Try.prog.info? 4).map (fun i => (i.zero, i.size, i.bytes)) = some (some (.bool false), 1, 1) := by kernel_rfl
theorem flat4 : Flat Try.prog 4 := ⟨_, Try.underlying4, fun _ h => (nomatch h), fun _ _ h => (nomatch h)⟩
theorem isn47 : (Try.f47.name == "runtime.NumGoroutine") = false := by kernel_rfl
theorem isn26 : (Try.f26.name == "runtime.NumGoroutine") = false := by kernel_rfl
theorem flat24 : Flat Try.prog 24 := ⟨_, Try.underlying24, fun _ h => (nomatch h), fun _ _ h => (nomatch h)⟩
theorem isn44 : (Try.f44.name == "runtime.NumGoroutine") = false := by kernel_rfl
theorem info25 : (Try.prog.info? 25).map (fun i => (i.zero, i.size, i.bytes)) = some (some (.slice none 0 0), 1, 24) := by kernel_rfl
theorem flat25 : Flat Try.prog 25 := ⟨_, Try.underlying25, fun _ h => (nomatch h), fun _ _ h => (nomatch h)⟩
def K55 : Kd (Int × (List Nat) × (List Nat)) := ⟨3, fun x => [(Vl (.int .i64 x.1)), (Sl Kf x.2.1), (Sl Kf x.2.2)], fun _ => rfl⟩

def laws_zzFits1 (k : Nat) (a0_0 : Int) (a0_1 : List Nat) (a0_2 : List Nat) : Option (Bool) :=
  br (decide (2147483647 < (a0_1.length : Int)))
    (some false)
    (br (decide (2147483647 < (a0_2.length : Int)))
      (some false)
      (some true))

theorem laws_zzFits1_sim {k : Nat}  (a0_0 : Int) (a0_1 : List Nat) (a0_2 : List Nat) {out : Bool} (hp : laws_zzFits1 k a0_0 a0_1 a0_2 = some out) : Go.Sx.Fn Try.prog 27 [(Ag [(Vl (.int .i64 a0_0)), (Sl Kf a0_1), (Sl Kf a0_2)])] [] (fun w : Unit => (Vl (.bool out))) (fun w => []) := by
  unfold laws_zzFits1 at hp
  refine fn_of Try.func27 rfl Try.ntmps27 rfl fun E hM => ?_
  refine cx_seq' fun K1 hK1 => ?_
  refine cx_region' ?_
  refine sx_ox' (ox_box' rfl (lv_ag _) rfl rfl) (wt_none' rfl) fun q1 => ?_
  refine sx_rd' (rd_assign' rfl) rfl rfl (wt_none' rfl) ?_
  refine sx_nil' ?_
  show TX E K1 _
  refine tx_k' hK1 ?_
  refine cx_seq' fun K2 hK2 => ?_
  refine cx_seq' fun K3 hK3 => ?_
  refine cx_region' ?_
  refine sx_rd' (rd_field' (off := 1) rfl Try.underlying55 rfl info22 rfl) rfl rfl (wt_none' rfl) ?_
  refine sx_rd' (rd_load' (i := 0) (o := 1) rfl ⟨rfl, rfl, rfl, rfl⟩ rfl flat22) rfl rfl (wt_none' rfl) ?_
  refine sx_rd' (rd_len' rfl Try.underlying22) rfl rfl (wt_none' rfl) ?_
  refine sx_rd' (rd_bin' rfl rfl eg_int ru_gtr) rfl rfl (wt_none' rfl) ?_
  refine sx_nil' ?_
  show TX E K3 _
  refine tx_k' hK3 ?_
  refine cx_cond' rfl (fun h1 => ?_) (fun h1 => ?_)
  · replace hp := (br_t h1).symm.trans hp
    refine cx_seq' fun K4 hK4 => ?_
    refine cx_region' ?_
    refine sx_rd' (rd_assign' rfl) rfl rfl (wt_none' rfl) ?_
    refine sx_nil' ?_
    show TX E K4 _
    refine tx_k' hK4 ?_
    refine cx_retc' ?_
    replace hp := Option.some.inj hp
    subst hp
    refine tx_pick' (L' := [(2, (Vl (.bool false)))]) (H' := []) [] (sub_cons rfl sub_nil) (by decide) pick_nil ?_
    exact tx_ret1' Try.results27 rfl () (rv_tmp' rfl) (List.Sublist.refl _)
  · replace hp := (br_f h1).symm.trans hp
    refine cx_skip' ?_
    show TX E K2 _
    refine tx_k' hK2 ?_
    refine cx_seq' fun K5 hK5 => ?_
    refine cx_seq' fun K6 hK6 => ?_
    refine cx_region' ?_
    refine sx_rd' (rd_field' (off := 2) rfl Try.underlying55 rfl info22 rfl) rfl rfl (wt_none' rfl) ?_
    refine sx_rd' (rd_load' (i := 0) (o := 2) rfl ⟨rfl, rfl, rfl, rfl⟩ rfl flat22) rfl rfl (wt_none' rfl) ?_
    refine sx_rd' (rd_len' rfl Try.underlying22) rfl rfl (wt_none' rfl) ?_
    refine sx_rd' (rd_bin' rfl rfl eg_int ru_gtr) rfl rfl (wt_none' rfl) ?_
    refine sx_nil' ?_
    show TX E K6 _
    refine tx_k' hK6 ?_
    refine cx_cond' rfl (fun h2 => ?_) (fun h2 => ?_)
    · replace hp := (br_t h2).symm.trans hp
      refine cx_seq' fun K7 hK7 => ?_
      refine cx_region' ?_
      refine sx_rd' (rd_assign' rfl) rfl rfl (wt_none' rfl) ?_
      refine sx_nil' ?_
      show TX E K7 _
      refine tx_k' hK7 ?_
      refine cx_retc' ?_
      replace hp := Option.some.inj hp
      subst hp
      refine tx_pick' (L' := [(2, (Vl (.bool false)))]) (H' := []) [] (sub_cons rfl sub_nil) (by decide) pick_nil ?_
      exact tx_ret1' Try.results27 rfl () (rv_tmp' rfl) (List.Sublist.refl _)
    · replace hp := (br_f h2).symm.trans hp
      refine cx_skip' ?_
      show TX E K5 _
      refine tx_k' hK5 ?_
      refine cx_seq' fun K8 hK8 => ?_
      refine cx_region' ?_
      refine sx_rd' (rd_assign' rfl) rfl rfl (wt_none' rfl) ?_
      refine sx_nil' ?_
      show TX E K8 _
      refine tx_k' hK8 ?_
      refine cx_retc' ?_
      replace hp := Option.some.inj hp
      subst hp
      refine tx_pick' (L' := [(2, (Vl (.bool true)))]) (H' := []) [] (sub_cons rfl sub_nil) (by decide) pick_nil ?_
      exact tx_ret1' Try.results27 rfl () (rv_tmp' rfl) (List.Sublist.refl _)

def spec_Stride_j1 (k : Nat) (a0 : Int) (x1 : Bool) : Option (Int) :=
  br x1
    (some 3)
    (some a0)
def spec_Stride (k : Nat) (a0 : Int) : Option (Int) :=
  br (decide (a0 < 1))
    (some 0)
    (br (decide (a0 = 1))
      (some 2)
      (br (decide (a0 = 2))
        (spec_Stride_j1 k a0 true)
        (spec_Stride_j1 k a0 (decide (a0 = 3)))))

theorem spec_Stride_sim {k : Nat}  (a0 : Int) {out : Int} (hp : spec_Stride k a0 = some out) : Go.Sx.Fn Try.prog 17 [(Vl (.int .i64 a0))] [] (fun w : Unit => (Vl (.int .i64 out))) (fun w => []) := by
  unfold spec_Stride at hp
  refine fn_of Try.func17 rfl Try.ntmps17 rfl fun E hM => ?_
  refine cx_seq' fun K1 hK1 => ?_
  refine cx_region' ?_
  refine sx_rd' (rd_assign' rfl) rfl rfl (wt_none' rfl) ?_
  refine sx_nil' ?_
  show TX E K1 _
  refine tx_k' hK1 ?_
  refine cx_seq' fun K2 hK2 => ?_
  refine cx_block' ?_
  refine cx_seq' fun K3 hK3 => ?_
  refine cx_region' ?_
  refine sx_rd' (rd_move' rfl) rfl rfl (wt_none' rfl) ?_
  refine sx_rd' (rd_bin' rfl rfl eg_int ru_lss) rfl rfl (wt_none' rfl) ?_
  refine sx_rd' (rd_assign' rfl) rfl rfl (wt_none' rfl) ?_
  refine sx_nil' ?_
  show TX E K3 _
  refine tx_k' hK3 ?_
  refine cx_cond' rfl (fun h1 => ?_) (fun h1 => ?_)
  · replace hp := (br_t h1).symm.trans hp
    refine cx_seq' fun K4 hK4 => ?_
    refine cx_region' ?_
    refine sx_rd' (rd_assign' rfl) rfl rfl (wt_none' rfl) ?_
    refine sx_nil' ?_
    show TX E K4 _
    refine tx_k' hK4 ?_
    refine cx_retc' ?_
    replace hp := Option.some.inj hp
    subst hp
    refine tx_pick' (L' := [(2, (Vl (.int .i64 0)))]) (H' := []) [] (sub_cons rfl sub_nil) (by decide) pick_nil ?_
    exact tx_ret1' Try.results17 rfl () (rv_tmp' rfl) (List.Sublist.refl _)
  · replace hp := (br_f h1).symm.trans hp
    refine cx_seq' fun K5 hK5 => ?_
    refine cx_region' ?_
    refine sx_rd' (rd_move' rfl) rfl rfl (wt_none' rfl) ?_
    refine sx_rd' (rd_bin' rfl rfl eg_int ru_eql) rfl rfl (wt_none' rfl) ?_
    refine sx_rd' (rd_assign' rfl) rfl rfl (wt_none' rfl) ?_
    refine sx_nil' ?_
    show TX E K5 _
    refine tx_k' hK5 ?_
    refine cx_cond' rfl (fun h2 => ?_) (fun h2 => ?_)
    · replace hp := (br_t h2).symm.trans hp
      refine cx_seq' fun K6 hK6 => ?_
      refine cx_region' ?_
      refine sx_rd' (rd_assign' rfl) rfl rfl (wt_none' rfl) ?_
      refine sx_nil' ?_
      show TX E K6 _
      refine tx_k' hK6 ?_
      refine cx_retc' ?_
      replace hp := Option.some.inj hp
      subst hp
      refine tx_pick' (L' := [(2, (Vl (.int .i64 2)))]) (H' := []) [] (sub_cons rfl sub_nil) (by decide) pick_nil ?_
      exact tx_ret1' Try.results17 rfl () (rv_tmp' rfl) (List.Sublist.refl _)
    · replace hp := (br_f h2).symm.trans hp
      refine cx_seq' fun K7 hK7 => ?_
      refine cx_region' ?_
      refine sx_rd' (rd_move' rfl) rfl rfl (wt_none' rfl) ?_
      refine sx_rd' (rd_bin' rfl rfl eg_int ru_eql) rfl rfl (wt_none' rfl) ?_
      refine sx_rd' (rd_move' rfl) rfl rfl (wt_none' rfl) ?_
      refine sx_cutn' 3 (fun (v1 : Bool) => (⟨17, [], [(0, (Vl (.int .i64 a0))), (15, (Vl (.bool v1)))], []⟩ : St)) (fun (v1 : Bool) => spec_Stride_j1 k a0 v1 = some out) ?_ ?_
      · rintro x1 hp
        replace hp : spec_Stride_j1 k a0 x1 = some out := hp
        unfold spec_Stride_j1 at hp
        refine sx_rd' (rd_assign' rfl) rfl rfl (wt_none' rfl) ?_
        refine sx_nil' ?_
        show TX E K7 _
        refine tx_k' hK7 ?_
        refine cx_cond' rfl (fun h4 => ?_) (fun h4 => ?_)
        · replace hp := (br_t h4).symm.trans hp
          refine cx_seq' fun K9 hK9 => ?_
          refine cx_region' ?_
          refine sx_rd' (rd_assign' rfl) rfl rfl (wt_none' rfl) ?_
          refine sx_nil' ?_
          show TX E K9 _
          refine tx_k' hK9 ?_
          refine cx_retc' ?_
          replace hp := Option.some.inj hp
          subst hp
          refine tx_pick' (L' := [(2, (Vl (.int .i64 3)))]) (H' := []) [] (sub_cons rfl sub_nil) (by decide) pick_nil ?_
          exact tx_ret1' Try.results17 rfl () (rv_tmp' rfl) (List.Sublist.refl _)
        · replace hp := (br_f h4).symm.trans hp
          refine cx_skip' ?_
          show TX E K2 _
          refine tx_k' hK2 ?_
          refine cx_seq' fun K10 hK10 => ?_
          refine cx_region' ?_
          refine sx_rd' (rd_move' rfl) rfl rfl (wt_none' rfl) ?_
          refine sx_rd' (rd_assign' rfl) rfl rfl (wt_none' rfl) ?_
          refine sx_nil' ?_
          show TX E K10 _
          refine tx_k' hK10 ?_
          refine cx_retc' ?_
          replace hp := Option.some.inj hp
          subst hp
          refine tx_pick' (L' := [(2, (Vl (.int .i64 a0)))]) (H' := []) [] (sub_cons rfl sub_nil) (by decide) pick_nil ?_
          exact tx_ret1' Try.results17 rfl () (rv_tmp' rfl) (List.Sublist.refl _)
      · intro K8 hK8
        rcases br_cases hp with ⟨h3, hp⟩ | ⟨h3, hp⟩
        · refine sx_skip' rfl rfl (wt_is' (wt_guard' rfl rfl rfl) (beq_tf h3)) ?_
          refine sx_skip' rfl rfl (wt_is' (wt_guard' rfl rfl rfl) (beq_tf h3)) ?_
          refine sx_rd' (rd_pick_true' rfl h3 rfl) rfl rfl (wt_none' rfl) ?_
          refine sx_nil' ?_
          show TX E K8 _
          exact tx_pick' [] (sub_cons rfl (sub_cons rfl sub_nil)) (by decide) pick_nil (hK8 true hp)
        · refine sx_rd' (rd_move' rfl) rfl rfl (wt_is' (wt_guard' rfl rfl rfl) (beq_ff h3)) ?_
          refine sx_rd' (rd_bin' rfl rfl eg_int ru_eql) rfl rfl (wt_is' (wt_guard' rfl rfl rfl) (beq_ff h3)) ?_
          refine sx_rd' (rd_pick_false' rfl h3 rfl) rfl rfl (wt_none' rfl) ?_
          refine sx_nil' ?_
          show TX E K8 _
          exact tx_pick' [] (sub_cons rfl (sub_cons rfl sub_nil)) (by decide) pick_nil (hK8 (decide (a0 = 3)) hp)

def laws_gNumber (k : Nat) (a0 : Nat) : Option (Bool) :=
  some (feq a0 a0)

theorem laws_gNumber_sim {k : Nat}  (a0 : Nat) {out : Bool} (hp : laws_gNumber k a0 = some out) : Go.Sx.Fn Try.prog 29 [(Vl (.float .f64 a0))] [] (fun w : Unit => (Vl (.bool out))) (fun w => []) := by
  unfold laws_gNumber at hp
  refine fn_of Try.func29 rfl Try.ntmps29 rfl fun E hM => ?_
  refine cx_seq' fun K1 hK1 => ?_
  refine cx_region' ?_
  refine sx_rd' (rd_assign' rfl) rfl rfl (wt_none' rfl) ?_
  refine sx_nil' ?_
  show TX E K1 _
  refine tx_k' hK1 ?_
  refine cx_seq' fun K2 hK2 => ?_
  refine cx_region' ?_
  refine sx_rd' (rd_move' rfl) rfl rfl (wt_none' rfl) ?_
  refine sx_rd' (rd_move' rfl) rfl rfl (wt_none' rfl) ?_
  refine sx_rd' (rd_bin' rfl rfl eg_flt ru_feq) rfl rfl (wt_none' rfl) ?_
  refine sx_rd' (rd_assign' rfl) rfl rfl (wt_none' rfl) ?_
  refine sx_nil' ?_
  show TX E K2 _
  refine tx_k' hK2 ?_
  refine cx_retc' ?_
  replace hp := Option.some.inj hp
  subst hp
  refine tx_pick' (L' := [(2, (Vl (.bool (feq a0 a0))))]) (H' := []) [] (sub_cons rfl sub_nil) (by decide) pick_nil ?_
  exact tx_ret1' Try.results29 rfl () (rv_tmp' rfl) (List.Sublist.refl _)

def laws_bBox_j4 (k : Nat) (rec1 : Int → Option (Unit ⊕ Unit)) (x5 : Int) (x4 : Bool) : Option (Unit ⊕ Unit) :=
  br x4
    (some (.inl ()))
    (rec1 (iadd .i64 x5 1))
def laws_bBox_l1s (r10 : Int × (List Nat) × (List Nat)) (k : Nat) (rec1 : Int → Option (Unit ⊕ Unit)) (x5 : Int) : Option (Unit ⊕ Unit) :=
  br (decide (x5 < (r10.2.1.length : Int)))
    ((idx r10.2.1 x5) >>= fun r47 =>
    (laws_gNumber k r47) >>= fun r49 =>
    br (!r49)
      (laws_bBox_j4 k rec1 x5 true)
      ((idx r10.2.2 x5) >>= fun r55 =>
      (laws_gNumber k r55) >>= fun r57 =>
      laws_bBox_j4 k rec1 x5 (!r57)))
    (some (.inr ()))
def laws_bBox_l1 (r10 : Int × (List Nat) × (List Nat)) : Nat → Int → Option (Unit ⊕ Unit)
  | 0, _ => none
  | k + 1, v => laws_bBox_l1s r10 k (laws_bBox_l1 r10 k) v
def laws_bBox_j3 (k : Nat) (r10 : Int × (List Nat) × (List Nat)) (rec2 : Int → Option (Unit ⊕ Unit)) (x6 : Int) (x3 : Bool) : Option (Unit ⊕ Unit) :=
  br x3
    (some (.inl ()))
    ((laws_bBox_l1 r10 k 0) >>= fun y1 => match y1 with
      | (.inl v7) =>
        (some (.inl ()))
      | (.inr v8) =>
        (rec2 (iadd .i64 x6 1)))
def laws_bBox_j2 (k : Nat) (r10 : Int × (List Nat) × (List Nat)) (rec2 : Int → Option (Unit ⊕ Unit)) (x6 : Int) (x2 : Bool) : Option (Unit ⊕ Unit) :=
  br x2
    (laws_bBox_j3 k r10 rec2 x6 true)
    (laws_bBox_j3 k r10 rec2 x6 (!decide ((r10.2.2.length : Int) = (r10.2.1.length : Int))))
def laws_bBox_j1 (k : Nat) (r10 : Int × (List Nat) × (List Nat)) (rec2 : Int → Option (Unit ⊕ Unit)) (x6 : Int) (x1 : Bool) : Option (Unit ⊕ Unit) :=
  br x1
    (laws_bBox_j2 k r10 rec2 x6 true)
    ((spec_Stride k r10.1) >>= fun r26 =>
    laws_bBox_j2 k r10 rec2 x6 (!decide ((r10.2.1.length : Int) = r26)))
def laws_bBox_l2s (a0 : List (Int × (List Nat) × (List Nat))) (k : Nat) (rec2 : Int → Option (Unit ⊕ Unit)) (x6 : Int) : Option (Unit ⊕ Unit) :=
  br (decide (x6 < (a0.length : Int)))
    ((idx a0 x6) >>= fun r10 =>
    br (decide (r10.1 < 0))
      (laws_bBox_j1 k r10 rec2 x6 true)
      (laws_bBox_j1 k r10 rec2 x6 (decide (9 < r10.1))))
    (some (.inr ()))
def laws_bBox_l2 (a0 : List (Int × (List Nat) × (List Nat))) : Nat → Int → Option (Unit ⊕ Unit)
  | 0, _ => none
  | k + 1, v => laws_bBox_l2s a0 k (laws_bBox_l2 a0 k) v
def laws_bBox (k : Nat) (a0 : List (Int × (List Nat) × (List Nat))) : Option (Bool) :=
  (laws_bBox_l2 a0 k 0) >>= fun y2 => match y2 with
    | (.inl v9) =>
      (some false)
    | (.inr v10) =>
      (some true)

theorem laws_bBox_sim {k : Nat}  (a0 : List (Int × (List Nat) × (List Nat))) {out : Bool} (hp : laws_bBox k a0 = some out) : Go.Sx.Fn Try.prog 28 [(Sl K55 a0)] [] (fun w : Unit => (Vl (.bool out))) (fun w => []) := by
  unfold laws_bBox at hp
  refine fn_of Try.func28 rfl Try.ntmps28 rfl fun E hM => ?_
  refine cx_seq' fun K1 hK1 => ?_
  refine cx_region' ?_
  refine sx_rd' (rd_assign' rfl) rfl rfl (wt_none' rfl) ?_
  refine sx_nil' ?_
  show TX E K1 _
  refine tx_k' hK1 ?_
  refine cx_seq' fun K2 hK2 => ?_
  refine cx_seq' fun K3 hK3 => ?_
  refine cx_region' ?_
  refine sx_rd' (rd_move' rfl) rfl rfl (wt_none' rfl) ?_
  refine sx_rd' (rd_len' rfl Try.underlying109) rfl rfl (wt_none' rfl) ?_
  refine sx_rd' (rd_move' rfl) rfl rfl (wt_none' rfl) ?_
  refine sx_nil' ?_
  show TX E K3 _
  refine tx_k' hK3 ?_
  refine cx_block' ?_
  obtain ⟨y2, hy2, hp⟩ := bind_some hp
  refine cx_loopg' (F := laws_bBox_l2 a0) (G := fun k R v => laws_bBox_l2s a0 k R v) (x := 0) (gh := ()) (fun (v1 : Int) (w1 : Unit) => (⟨62, [], [(6, (Sl K55 a0)), (7, (Vl (.int .i64 (a0.length : Int)))), (8, (Vl (.int .i64 v1)))], []⟩ : St)) (fun (y : Unit ⊕ Unit) => match y with | (.inl v9) => Zg E Exit.ret (fun (w9 : Unit) => (⟨62, [], [(2, (Vl (.bool false)))], []⟩ : St)) | (.inr v10) => Zg E (Exit.exit 0) (fun (w10 : Unit) => (⟨62, [], [], []⟩ : St))) (fun _ => rfl) (fun _ _ => rfl) ?_ hy2 (tx_to' rfl [] (sub_cons rfl (sub_cons rfl (sub_cons rfl sub_nil))) (by decide) pick_nil) ?_
  · clear hp hy2
    clear y2
    intro k rec2 KY2 ih2
    rintro x6 ⟨⟩ y2 hp
    replace hp : laws_bBox_l2s a0 k rec2 x6 = some y2 := hp
    unfold laws_bBox_l2s at hp
    refine cx_seq' fun K4 hK4 => ?_
    refine cx_region' ?_
    refine sx_rd' (rd_bin' rfl rfl eg_int ru_lss) rfl rfl (wt_none' rfl) ?_
    refine sx_nil' ?_
    show TX E K4 _
    refine tx_k' hK4 ?_
    refine cx_seq' fun K5 hK5 => ?_
    refine cx_cond' rfl (fun h2 => ?_) (fun h2 => ?_)
    · replace hp := (br_t h2).symm.trans hp
      refine cx_skip' ?_
      show TX E K5 _
      refine tx_k' hK5 ?_
      refine cx_seq' fun K6 hK6 => ?_
      refine cx_block' ?_
      refine cx_seq' fun K7 hK7 => ?_
      refine cx_region' ?_
      obtain ⟨r10, hr10, hp⟩ := bind_some hp
      refine sx_rd' (rd_at' (K := K55) rfl rfl hr10 Try.underlying109 info55) rfl rfl (wt_none' rfl) ?_
      refine sx_rd' (rd_load_pt_agg' (nn := 3) rfl rfl agg55 (l' := [(Vl (.int .i64 r10.1)), (Sl Kf r10.2.1), (Sl Kf r10.2.2)]) rfl) rfl rfl (wt_none' rfl) ?_
      refine sx_ox' (ox_alloc' info55 rfl rfl rfl rfl (l := [(Vl (.int .i64 0)), (Vl (.slice none 0 0)), (Vl (.slice none 0 0))]) rfl) (wt_none' rfl) fun q4 => ?_
      refine sx_ox' (ox_store' (i := 0) (o := 0) rfl rfl (lv_ag _) ⟨rfl, rfl, rfl, rfl⟩ rfl info55 rfl (H' := [⟨.pointer (some q4), [(Vl (.int .i64 r10.1)), (Sl Kf r10.2.1), (Sl Kf r10.2.2)], 55, none⟩]) rfl) (wt_none' rfl) fun _ => ?_
      refine sx_nil' ?_
      show TX E K7 _
      refine tx_k' hK7 ?_
      refine cx_seq' fun K8 hK8 => ?_
      refine cx_seq' fun K9 hK9 => ?_
      refine cx_plan' [] [] [(0, 1), (1, 1), (2, 1), (3, 1), (4, 1), (5, 1), (6, 1), (7, 1), (8, 1), (9, 1), (10, 1), (11, 1), (12, 1), (13, 1), (14, 0), (15, 1), (16, 1), (17, 1), (18, 1), (19, 1), (20, 1), (21, 1), (22, 1), (23, 1), (24, 1), (25, 1)] mixed (by kernel_rfl) ?_
      refine px_rd' rfl (rd_field0' rfl Try.underlying55 rfl info3 rfl) rfl rfl (wt_none' rfl) ?_
      refine px_rd' rfl (rd_load' (i := 0) (o := 0) rfl ⟨rfl, rfl, rfl, rfl⟩ rfl flat3) rfl rfl (wt_none' rfl) ?_
      refine px_rd' rfl (rd_bin' rfl rfl eg_int ru_lss) rfl rfl (wt_none' rfl) ?_
      refine px_rd' rfl (rd_move' rfl) rfl rfl (wt_none' rfl) ?_
      refine px_cutn' 4 (fun (v2 : Bool) => (⟨62, [], [(4, (Vl (.pointer (some q4)))), (6, (Sl K55 a0)), (7, (Vl (.int .i64 (a0.length : Int)))), (8, (Vl (.int .i64 x6))), (19, (Vl (.bool v2)))], [⟨.pointer (some q4), [(Vl (.int .i64 r10.1)), (Sl Kf r10.2.1), (Sl Kf r10.2.2)], 55, none⟩]⟩ : St)) (fun (v2 : Bool) => laws_bBox_j1 k r10 rec2 x6 v2 = some y2) ?_ ?_
      · rintro x1 hp
        replace hp : laws_bBox_j1 k r10 rec2 x6 x1 = some y2 := hp
        unfold laws_bBox_j1 at hp
        refine px_rd' rfl (rd_move' rfl) rfl rfl (wt_none' rfl) ?_
        refine px_cutn' 8 (fun (v3 : Bool) => (⟨62, [], [(4, (Vl (.pointer (some q4)))), (6, (Sl K55 a0)), (7, (Vl (.int .i64 (a0.length : Int)))), (8, (Vl (.int .i64 x6))), (28, (Vl (.bool v3)))], [⟨.pointer (some q4), [(Vl (.int .i64 r10.1)), (Sl Kf r10.2.1), (Sl Kf r10.2.2)], 55, none⟩]⟩ : St)) (fun (v3 : Bool) => laws_bBox_j2 k r10 rec2 x6 v3 = some y2) ?_ ?_
        · rintro x2 hp
          replace hp : laws_bBox_j2 k r10 rec2 x6 x2 = some y2 := hp
          unfold laws_bBox_j2 at hp
          refine px_rd' rfl (rd_move' rfl) rfl rfl (wt_none' rfl) ?_
          refine px_cutn' 8 (fun (v4 : Bool) => (⟨62, [], [(4, (Vl (.pointer (some q4)))), (6, (Sl K55 a0)), (7, (Vl (.int .i64 (a0.length : Int)))), (8, (Vl (.int .i64 x6))), (37, (Vl (.bool v4)))], [⟨.pointer (some q4), [(Vl (.int .i64 r10.1)), (Sl Kf r10.2.1), (Sl Kf r10.2.2)], 55, none⟩]⟩ : St)) (fun (v4 : Bool) => laws_bBox_j3 k r10 rec2 x6 v4 = some y2) ?_ ?_
          · rintro x3 hp
            replace hp : laws_bBox_j3 k r10 rec2 x6 x3 = some y2 := hp
            unfold laws_bBox_j3 at hp
            refine px_nil' ?_
            show TX E K9 _
            refine tx_k' hK9 ?_
            refine cx_cond' rfl (fun h6 => ?_) (fun h6 => ?_)
            · replace hp := (br_t h6).symm.trans hp
              refine cx_seq' fun K13 hK13 => ?_
              refine cx_region' ?_
              refine sx_rd' (rd_assign' rfl) rfl rfl (wt_none' rfl) ?_
              refine sx_nil' ?_
              show TX E K13 _
              refine tx_k' hK13 ?_
              refine cx_retc' ?_
              replace hp := Option.some.inj hp
              subst hp
              show TX E (Zg E Exit.ret _ Exit.ret) _
              exact tx_zend' () rfl [] (sub_cons rfl sub_nil) (by decide) pick_nil
            · replace hp := (br_f h6).symm.trans hp
              refine cx_skip' ?_
              show TX E K8 _
              refine tx_k' hK8 ?_
              refine cx_seq' fun K14 hK14 => ?_
              refine cx_region' ?_
              refine sx_rd' (rd_field' (off := 1) rfl Try.underlying55 rfl info22 rfl) rfl rfl (wt_none' rfl) ?_
              refine sx_rd' (rd_load' (i := 0) (o := 1) rfl ⟨rfl, rfl, rfl, rfl⟩ rfl flat22) rfl rfl (wt_none' rfl) ?_
              refine sx_rd' (rd_len' rfl Try.underlying22) rfl rfl (wt_none' rfl) ?_
              refine sx_rd' (rd_move' rfl) rfl rfl (wt_none' rfl) ?_
              refine sx_nil' ?_
              show TX E K14 _
              refine tx_k' hK14 ?_
              refine cx_block' ?_
              obtain ⟨y1, hy1, hp⟩ := bind_some hp
              refine cx_loopg' (F := laws_bBox_l1 r10) (G := fun k R v => laws_bBox_l1s r10 k R v) (x := 0) (gh := ()) (fun (v5 : Int) (w5 : Unit) => (⟨62, [], [(4, (Vl (.pointer (some q4)))), (6, (Sl K55 a0)), (7, (Vl (.int .i64 (a0.length : Int)))), (8, (Vl (.int .i64 x6))), (40, (Vl (.int .i64 (r10.2.1.length : Int)))), (41, (Vl (.int .i64 v5)))], [⟨.pointer (some q4), [(Vl (.int .i64 r10.1)), (Sl Kf r10.2.1), (Sl Kf r10.2.2)], 55, none⟩]⟩ : St)) (fun (y : Unit ⊕ Unit) => match y with | (.inl v7) => Zg E Exit.ret (fun (w7 : Unit) => (⟨62, [], [(2, (Vl (.bool false)))], []⟩ : St)) | (.inr v8) => Zg E (Exit.exit 2) (fun (w8 : Unit) => (⟨62, [], [(6, (Sl K55 a0)), (7, (Vl (.int .i64 (a0.length : Int)))), (8, (Vl (.int .i64 x6)))], []⟩ : St))) (fun _ => rfl) (fun _ _ => rfl) ?_ hy1 (tx_to' rfl [0] (sub_cons rfl (sub_cons rfl (sub_cons rfl (sub_cons rfl (sub_cons rfl (sub_cons rfl sub_nil)))))) (by decide) (pick_cons rfl pick_nil)) ?_
              · clear hp hy1
                clear y1
                intro k rec1 KY1 ih1
                rintro x5 ⟨⟩ y1 hp
                replace hp : laws_bBox_l1s r10 k rec1 x5 = some y1 := hp
                unfold laws_bBox_l1s at hp
                refine cx_seq' fun K15 hK15 => ?_
                refine cx_region' ?_
                refine sx_rd' (rd_bin' rfl rfl eg_int ru_lss) rfl rfl (wt_none' rfl) ?_
                refine sx_nil' ?_
                show TX E K15 _
                refine tx_k' hK15 ?_
                refine cx_seq' fun K16 hK16 => ?_
                refine cx_cond' rfl (fun h8 => ?_) (fun h8 => ?_)
                · replace hp := (br_t h8).symm.trans hp
                  refine cx_skip' ?_
                  show TX E K16 _
                  refine tx_k' hK16 ?_
                  refine cx_seq' fun K17 hK17 => ?_
                  refine cx_block' ?_
                  refine cx_seq' fun K18 hK18 => ?_
                  refine cx_region' ?_
                  refine sx_rd' (rd_move' rfl) rfl rfl (wt_none' rfl) ?_
                  refine sx_rd' (rd_assign' rfl) rfl rfl (wt_none' rfl) ?_
                  refine sx_nil' ?_
                  show TX E K18 _
                  refine tx_k' hK18 ?_
                  refine cx_seq' fun K19 hK19 => ?_
                  refine cx_region' ?_
                  refine sx_rd' (rd_field' (off := 1) rfl Try.underlying55 rfl info22 rfl) rfl rfl (wt_none' rfl) ?_
                  refine sx_rd' (rd_load' (i := 0) (o := 1) rfl ⟨rfl, rfl, rfl, rfl⟩ rfl flat22) rfl rfl (wt_none' rfl) ?_
                  refine sx_rd' (rd_move' rfl) rfl rfl (wt_none' rfl) ?_
                  obtain ⟨r47, hr47, hp⟩ := bind_some hp
                  refine sx_rd' (rd_at' (K := Kf) rfl rfl hr47 Try.underlying22 info32) rfl rfl (wt_none' rfl) ?_
                  refine sx_rd' (rd_load_pt' rfl rfl flat32) rfl rfl (wt_none' rfl) ?_
                  obtain ⟨r49, hr49, hp⟩ := bind_some hp
                  refine sx_ox' (ox_calln' (ent_fn' Try.func29 isn29 rfl rfl) (laws_gNumber_sim _ hr49 : Go.Sx.Fn Try.prog 29 [(Vl (.float .f64 r47))] [] (fun x : Unit => (Vl (.bool r49))) (fun x => [])) (Hn := fun x : Unit => [⟨.pointer (some q4), [(Vl (.int .i64 r10.1)), (Sl Kf r10.2.1), (Sl Kf r10.2.2)], 55, none⟩]) (fun _ => rfl) rfl rfl) (wt_none' rfl) fun ⟨⟩ => ?_
                  refine sx_rd' (rd_un' rfl ru_not) rfl rfl (wt_none' rfl) ?_
                  refine sx_rd' (rd_move' rfl) rfl rfl (wt_none' rfl) ?_
                  refine sx_cutn' 8 (fun (v6 : Bool) => (⟨62, [], [(4, (Vl (.pointer (some q4)))), (6, (Sl K55 a0)), (7, (Vl (.int .i64 (a0.length : Int)))), (8, (Vl (.int .i64 x6))), (40, (Vl (.int .i64 (r10.2.1.length : Int)))), (41, (Vl (.int .i64 x5))), (59, (Vl (.bool v6)))], [⟨.pointer (some q4), [(Vl (.int .i64 r10.1)), (Sl Kf r10.2.1), (Sl Kf r10.2.2)], 55, none⟩]⟩ : St)) (fun (v6 : Bool) => laws_bBox_j4 k rec1 x5 v6 = some y1) ?_ ?_
                  · rintro x4 hp
                    replace hp : laws_bBox_j4 k rec1 x5 x4 = some y1 := hp
                    unfold laws_bBox_j4 at hp
                    refine sx_nil' ?_
                    show TX E K19 _
                    refine tx_k' hK19 ?_
                    refine cx_cond' rfl (fun h10 => ?_) (fun h10 => ?_)
                    · replace hp := (br_t h10).symm.trans hp
                      refine cx_seq' fun K21 hK21 => ?_
                      refine cx_region' ?_
                      refine sx_rd' (rd_assign' rfl) rfl rfl (wt_none' rfl) ?_
                      refine sx_nil' ?_
                      show TX E K21 _
                      refine tx_k' hK21 ?_
                      refine cx_retc' ?_
                      replace hp := Option.some.inj hp
                      subst hp
                      show TX E (Zg E Exit.ret _ Exit.ret) _
                      exact tx_zend' () rfl [] (sub_cons rfl sub_nil) (by decide) pick_nil
                    · replace hp := (br_f h10).symm.trans hp
                      refine cx_skip' ?_
                      show TX E K17 _
                      refine tx_k' hK17 ?_
                      refine cx_region' ?_
                      refine sx_rd' (rd_bin' rfl rfl eg_int ru_add) rfl rfl (wt_none' rfl) ?_
                      refine sx_rd' (rd_move' rfl) rfl rfl (wt_none' rfl) ?_
                      refine sx_nil' ?_
                      show TX E (KY1 _) _
                      exact tx_pick' [0] (sub_cons rfl (sub_cons rfl (sub_cons rfl (sub_cons rfl (sub_cons rfl (sub_cons rfl sub_nil)))))) (by decide) (pick_cons rfl pick_nil) (ih1 (iadd .i64 x5 1) () _ hp)
                  · intro K20 hK20
                    rcases br_cases hp with ⟨h9, hp⟩ | ⟨h9, hp⟩
                    · refine sx_skip' rfl rfl (wt_is' (wt_guard' rfl rfl rfl) (beq_tf h9)) ?_
                      refine sx_skip' rfl rfl (wt_is' (wt_guard' rfl rfl rfl) (beq_tf h9)) ?_
                      refine sx_skip' rfl rfl (wt_is' (wt_guard' rfl rfl rfl) (beq_tf h9)) ?_
                      refine sx_skip' rfl rfl (wt_is' (wt_guard' rfl rfl rfl) (beq_tf h9)) ?_
                      refine sx_skip' rfl rfl (wt_is' (wt_guard' rfl rfl rfl) (beq_tf h9)) ?_
                      refine sx_skip' rfl rfl (wt_is' (wt_guard' rfl rfl rfl) (beq_tf h9)) ?_
                      refine sx_skip' rfl rfl (wt_is' (wt_guard' rfl rfl rfl) (beq_tf h9)) ?_
                      refine sx_rd' (rd_pick_true' rfl h9 rfl) rfl rfl (wt_none' rfl) ?_
                      refine sx_nil' ?_
                      show TX E K20 _
                      exact tx_pick' [0] (sub_cons rfl (sub_cons rfl (sub_cons rfl (sub_cons rfl (sub_cons rfl (sub_cons rfl (sub_cons rfl sub_nil))))))) (by decide) (pick_cons rfl pick_nil) (hK20 true hp)
                    · refine sx_rd' (rd_field' (off := 2) rfl Try.underlying55 rfl info22 rfl) rfl rfl (wt_is' (wt_guard' rfl rfl rfl) (beq_ff h9)) ?_
                      refine sx_rd' (rd_load' (i := 0) (o := 2) rfl ⟨rfl, rfl, rfl, rfl⟩ rfl flat22) rfl rfl (wt_is' (wt_guard' rfl rfl rfl) (beq_ff h9)) ?_
                      refine sx_rd' (rd_move' rfl) rfl rfl (wt_is' (wt_guard' rfl rfl rfl) (beq_ff h9)) ?_
                      obtain ⟨r55, hr55, hp⟩ := bind_some hp
                      refine sx_rd' (rd_at' (K := Kf) rfl rfl hr55 Try.underlying22 info32) rfl rfl (wt_is' (wt_guard' rfl rfl rfl) (beq_ff h9)) ?_
                      refine sx_rd' (rd_load_pt' rfl rfl flat32) rfl rfl (wt_is' (wt_guard' rfl rfl rfl) (beq_ff h9)) ?_
                      obtain ⟨r57, hr57, hp⟩ := bind_some hp
                      refine sx_ox' (ox_calln' (ent_fn' Try.func29 isn29 rfl rfl) (laws_gNumber_sim _ hr57 : Go.Sx.Fn Try.prog 29 [(Vl (.float .f64 r55))] [] (fun x : Unit => (Vl (.bool r57))) (fun x => [])) (Hn := fun x : Unit => [⟨.pointer (some q4), [(Vl (.int .i64 r10.1)), (Sl Kf r10.2.1), (Sl Kf r10.2.2)], 55, none⟩]) (fun _ => rfl) rfl rfl) (wt_is' (wt_guard' rfl rfl rfl) (beq_ff h9)) fun ⟨⟩ => ?_
                      refine sx_rd' (rd_un' rfl ru_not) rfl rfl (wt_is' (wt_guard' rfl rfl rfl) (beq_ff h9)) ?_
                      refine sx_rd' (rd_pick_false' rfl h9 rfl) rfl rfl (wt_none' rfl) ?_
                      refine sx_nil' ?_
                      show TX E K20 _
                      exact tx_pick' [0] (sub_cons rfl (sub_cons rfl (sub_cons rfl (sub_cons rfl (sub_cons rfl (sub_cons rfl (sub_cons rfl sub_nil))))))) (by decide) (pick_cons rfl pick_nil) (hK20 (!r57) hp)
                · replace hp := (br_f h8).symm.trans hp
                  refine cx_exit' ?_
                  replace hp := Option.some.inj hp
                  subst hp
                  show TX E (Zg E (Exit.exit 2) _ (Exit.exit 2)) _
                  exact tx_zend' () rfl [] (sub_cons rfl (sub_cons rfl (sub_cons rfl sub_nil))) (by decide) pick_nil
              · rcases y1 with v7 | v8
                · dsimp only at hp
                  refine zg_out fun w7 => ?_
                  replace hp := Option.some.inj hp
                  subst hp
                  show TX E (Zg E Exit.ret _ Exit.ret) _
                  exact tx_zend' () rfl [] (sub_cons rfl sub_nil) (by decide) pick_nil
                · dsimp only at hp
                  refine zg_out fun w8 => ?_
                  show TX E K6 _
                  refine tx_k' hK6 ?_
                  refine cx_region' ?_
                  refine sx_rd' (rd_bin' rfl rfl eg_int ru_add) rfl rfl (wt_none' rfl) ?_
                  refine sx_rd' (rd_move' rfl) rfl rfl (wt_none' rfl) ?_
                  refine sx_nil' ?_
                  show TX E (KY2 _) _
                  exact tx_pick' [] (sub_cons rfl (sub_cons rfl (sub_cons rfl sub_nil))) (by decide) pick_nil (ih2 (iadd .i64 x6 1) () _ hp)
          · intro K12 hK12
            rcases br_cases hp with ⟨h5, hp⟩ | ⟨h5, hp⟩
            · refine px_skip' rfl rfl rfl (wt_is' (wt_guard' rfl rfl rfl) (beq_tf h5)) ?_
              refine px_skip' rfl rfl rfl (wt_is' (wt_guard' rfl rfl rfl) (beq_tf h5)) ?_
              refine px_skip' rfl rfl rfl (wt_is' (wt_guard' rfl rfl rfl) (beq_tf h5)) ?_
              refine px_skip' rfl rfl rfl (wt_is' (wt_guard' rfl rfl rfl) (beq_tf h5)) ?_
              refine px_skip' rfl rfl rfl (wt_is' (wt_guard' rfl rfl rfl) (beq_tf h5)) ?_
              refine px_skip' rfl rfl rfl (wt_is' (wt_guard' rfl rfl rfl) (beq_tf h5)) ?_
              refine px_skip' rfl rfl rfl (wt_is' (wt_guard' rfl rfl rfl) (beq_tf h5)) ?_
              refine px_rd' rfl (rd_pick_true' rfl h5 rfl) rfl rfl (wt_none' rfl) ?_
              refine px_nil' ?_
              show TX E K12 _
              exact tx_pick' [0] (sub_cons rfl (sub_cons rfl (sub_cons rfl (sub_cons rfl (sub_cons rfl sub_nil))))) (by decide) (pick_cons rfl pick_nil) (hK12 true hp)
            · refine px_rd' rfl (rd_field' (off := 2) rfl Try.underlying55 rfl info22 rfl) rfl rfl (wt_is' (wt_guard' rfl rfl rfl) (beq_ff h5)) ?_
              refine px_rd' rfl (rd_load' (i := 0) (o := 2) rfl ⟨rfl, rfl, rfl, rfl⟩ rfl flat22) rfl rfl (wt_is' (wt_guard' rfl rfl rfl) (beq_ff h5)) ?_
              refine px_rd' rfl (rd_len' rfl Try.underlying22) rfl rfl (wt_is' (wt_guard' rfl rfl rfl) (beq_ff h5)) ?_
              refine px_rd' rfl (rd_field' (off := 1) rfl Try.underlying55 rfl info22 rfl) rfl rfl (wt_is' (wt_guard' rfl rfl rfl) (beq_ff h5)) ?_
              refine px_rd' rfl (rd_load' (i := 0) (o := 1) rfl ⟨rfl, rfl, rfl, rfl⟩ rfl flat22) rfl rfl (wt_is' (wt_guard' rfl rfl rfl) (beq_ff h5)) ?_
              refine px_rd' rfl (rd_len' rfl Try.underlying22) rfl rfl (wt_is' (wt_guard' rfl rfl rfl) (beq_ff h5)) ?_
              refine px_rd' rfl (rd_bin' rfl rfl eg_int ru_neq) rfl rfl (wt_is' (wt_guard' rfl rfl rfl) (beq_ff h5)) ?_
              refine px_rd' rfl (rd_pick_false' rfl h5 rfl) rfl rfl (wt_none' rfl) ?_
              refine px_nil' ?_
              show TX E K12 _
              exact tx_pick' [0] (sub_cons rfl (sub_cons rfl (sub_cons rfl (sub_cons rfl (sub_cons rfl sub_nil))))) (by decide) (pick_cons rfl pick_nil) (hK12 (!decide ((r10.2.2.length : Int) = (r10.2.1.length : Int))) hp)
        · intro K11 hK11
          rcases br_cases hp with ⟨h4, hp⟩ | ⟨h4, hp⟩
          · refine px_skip' rfl rfl rfl (wt_is' (wt_guard' rfl rfl rfl) (beq_tf h4)) ?_
            refine px_skip' rfl rfl rfl (wt_is' (wt_guard' rfl rfl rfl) (beq_tf h4)) ?_
            refine px_skip' rfl rfl rfl (wt_is' (wt_guard' rfl rfl rfl) (beq_tf h4)) ?_
            refine px_skip' rfl rfl rfl (wt_is' (wt_guard' rfl rfl rfl) (beq_tf h4)) ?_
            refine px_skip' rfl rfl rfl (wt_is' (wt_guard' rfl rfl rfl) (beq_tf h4)) ?_
            refine px_oskip' rfl rfl rfl (wt_is' (wt_guard' rfl rfl rfl) (beq_tf h4)) ?_
            refine px_skip' rfl rfl rfl (wt_is' (wt_guard' rfl rfl rfl) (beq_tf h4)) ?_
            refine px_rd' rfl (rd_pick_true' rfl h4 rfl) rfl rfl (wt_none' rfl) ?_
            refine px_nil' ?_
            show TX E K11 _
            exact tx_pick' [0] (sub_cons rfl (sub_cons rfl (sub_cons rfl (sub_cons rfl (sub_cons rfl sub_nil))))) (by decide) (pick_cons rfl pick_nil) (hK11 true hp)
          · refine px_rd' rfl (rd_field' (off := 1) rfl Try.underlying55 rfl info22 rfl) rfl rfl (wt_is' (wt_guard' rfl rfl rfl) (beq_ff h4)) ?_
            refine px_rd' rfl (rd_load' (i := 0) (o := 1) rfl ⟨rfl, rfl, rfl, rfl⟩ rfl flat22) rfl rfl (wt_is' (wt_guard' rfl rfl rfl) (beq_ff h4)) ?_
            refine px_rd' rfl (rd_len' rfl Try.underlying22) rfl rfl (wt_is' (wt_guard' rfl rfl rfl) (beq_ff h4)) ?_
            refine px_rd' rfl (rd_field0' rfl Try.underlying55 rfl info3 rfl) rfl rfl (wt_is' (wt_guard' rfl rfl rfl) (beq_ff h4)) ?_
            refine px_rd' rfl (rd_load' (i := 0) (o := 0) rfl ⟨rfl, rfl, rfl, rfl⟩ rfl flat3) rfl rfl (wt_is' (wt_guard' rfl rfl rfl) (beq_ff h4)) ?_
            obtain ⟨r26, hr26, hp⟩ := bind_some hp
            refine px_ox' rfl (ox_calln' (ent_fn' Try.func17 isn17 rfl rfl) (spec_Stride_sim _ hr26 : Go.Sx.Fn Try.prog 17 [(Vl (.int .i64 r10.1))] [] (fun x : Unit => (Vl (.int .i64 r26))) (fun x => [])) (Hn := fun x : Unit => [⟨.pointer (some q4), [(Vl (.int .i64 r10.1)), (Sl Kf r10.2.1), (Sl Kf r10.2.2)], 55, none⟩]) (fun _ => rfl) rfl rfl) rfl bs_nil (wt_is' (wt_guard' rfl rfl rfl) (beq_ff h4)) fun ⟨⟩ => ?_
            refine px_rd' rfl (rd_bin' rfl rfl eg_int ru_neq) rfl rfl (wt_is' (wt_guard' rfl rfl rfl) (beq_ff h4)) ?_
            refine px_rd' rfl (rd_pick_false' rfl h4 rfl) rfl rfl (wt_none' rfl) ?_
            refine px_nil' ?_
            show TX E K11 _
            exact tx_pick' [0] (sub_cons rfl (sub_cons rfl (sub_cons rfl (sub_cons rfl (sub_cons rfl sub_nil))))) (by decide) (pick_cons rfl pick_nil) (hK11 (!decide ((r10.2.1.length : Int) = r26)) hp)
      · intro K10 hK10
        rcases br_cases hp with ⟨h3, hp⟩ | ⟨h3, hp⟩
        · refine px_skip' rfl rfl rfl (wt_is' (wt_guard' rfl rfl rfl) (beq_tf h3)) ?_
          refine px_skip' rfl rfl rfl (wt_is' (wt_guard' rfl rfl rfl) (beq_tf h3)) ?_
          refine px_skip' rfl rfl rfl (wt_is' (wt_guard' rfl rfl rfl) (beq_tf h3)) ?_
          refine px_rd' rfl (rd_pick_true' rfl h3 rfl) rfl rfl (wt_none' rfl) ?_
          refine px_nil' ?_
          show TX E K10 _
          exact tx_pick' [0] (sub_cons rfl (sub_cons rfl (sub_cons rfl (sub_cons rfl (sub_cons rfl sub_nil))))) (by decide) (pick_cons rfl pick_nil) (hK10 true hp)
        · refine px_rd' rfl (rd_field0' rfl Try.underlying55 rfl info3 rfl) rfl rfl (wt_is' (wt_guard' rfl rfl rfl) (beq_ff h3)) ?_
          refine px_rd' rfl (rd_load' (i := 0) (o := 0) rfl ⟨rfl, rfl, rfl, rfl⟩ rfl flat3) rfl rfl (wt_is' (wt_guard' rfl rfl rfl) (beq_ff h3)) ?_
          refine px_rd' rfl (rd_bin' rfl rfl eg_int ru_gtr) rfl rfl (wt_is' (wt_guard' rfl rfl rfl) (beq_ff h3)) ?_
          refine px_rd' rfl (rd_pick_false' rfl h3 rfl) rfl rfl (wt_none' rfl) ?_
          refine px_nil' ?_
          show TX E K10 _
          exact tx_pick' [0] (sub_cons rfl (sub_cons rfl (sub_cons rfl (sub_cons rfl (sub_cons rfl sub_nil))))) (by decide) (pick_cons rfl pick_nil) (hK10 (decide (9 < r10.1)) hp)
    · replace hp := (br_f h2).symm.trans hp
      refine cx_exit' ?_
      replace hp := Option.some.inj hp
      subst hp
      show TX E (Zg E (Exit.exit 0) _ (Exit.exit 0)) _
      exact tx_zend' () rfl [] sub_nil (by decide) pick_nil
  · rcases y2 with v9 | v10
    · dsimp only at hp
      refine zg_out fun w9 => ?_
      replace hp := Option.some.inj hp
      subst hp
      refine tx_pick' (L' := [(2, (Vl (.bool false)))]) (H' := []) [] (sub_cons rfl sub_nil) (by decide) pick_nil ?_
      exact tx_ret1' Try.results28 rfl () (rv_tmp' rfl) (List.Sublist.refl _)
    · dsimp only at hp
      refine zg_out fun w10 => ?_
      show TX E K2 _
      refine tx_k' hK2 ?_
      refine cx_seq' fun K22 hK22 => ?_
      refine cx_region' ?_
      refine sx_rd' (rd_assign' rfl) rfl rfl (wt_none' rfl) ?_
      refine sx_nil' ?_
      show TX E K22 _
      refine tx_k' hK22 ?_
      refine cx_retc' ?_
      replace hp := Option.some.inj hp
      subst hp
      refine tx_pick' (L' := [(2, (Vl (.bool true)))]) (H' := []) [] (sub_cons rfl sub_nil) (by decide) pick_nil ?_
      exact tx_ret1' Try.results28 rfl () (rv_tmp' rfl) (List.Sublist.refl _)

def spec_BoxEmpty_l1s (a0_1 : List Nat) (a0_2 : List Nat) (k : Nat) (rec1 : Int → Option (Unit ⊕ Unit)) (x1 : Int) : Option (Unit ⊕ Unit) :=
  br (decide (x1 < (a0_1.length : Int)))
    ((idx a0_2 x1) >>= fun r13 =>
    (idx a0_1 x1) >>= fun r18 =>
    br (flt r13 r18)
      (some (.inl ()))
      (rec1 (iadd .i64 x1 1)))
    (some (.inr ()))
def spec_BoxEmpty_l1 (a0_1 : List Nat) (a0_2 : List Nat) : Nat → Int → Option (Unit ⊕ Unit)
  | 0, _ => none
  | k + 1, v => spec_BoxEmpty_l1s a0_1 a0_2 k (spec_BoxEmpty_l1 a0_1 a0_2 k) v
def spec_BoxEmpty (k : Nat) (a0_0 : Int) (a0_1 : List Nat) (a0_2 : List Nat) : Option (Bool) :=
  (spec_BoxEmpty_l1 a0_1 a0_2 k 0) >>= fun y1 => match y1 with
    | (.inl v2) =>
      (some true)
    | (.inr v3) =>
      (some (decide (a0_0 = 0)))

theorem spec_BoxEmpty_sim {k : Nat}  (a0_0 : Int) (a0_1 : List Nat) (a0_2 : List Nat) {out : Bool} (hp : spec_BoxEmpty k a0_0 a0_1 a0_2 = some out) : Go.Sx.Fn Try.prog 45 [(Ag [(Vl (.int .i64 a0_0)), (Sl Kf a0_1), (Sl Kf a0_2)])] [] (fun w : Unit => (Vl (.bool out))) (fun w => []) := by
  unfold spec_BoxEmpty at hp
  refine fn_of Try.func45 rfl Try.ntmps45 rfl fun E hM => ?_
  refine cx_seq' fun K1 hK1 => ?_
  refine cx_region' ?_
  refine sx_ox' (ox_box' rfl (lv_ag _) rfl rfl) (wt_none' rfl) fun q1 => ?_
  refine sx_rd' (rd_assign' rfl) rfl rfl (wt_none' rfl) ?_
  refine sx_nil' ?_
  show TX E K1 _
  refine tx_k' hK1 ?_
  refine cx_seq' fun K2 hK2 => ?_
  refine cx_seq' fun K3 hK3 => ?_
  refine cx_region' ?_
  refine sx_rd' (rd_field' (off := 1) rfl Try.underlying55 rfl info22 rfl) rfl rfl (wt_none' rfl) ?_
  refine sx_rd' (rd_load' (i := 0) (o := 1) rfl ⟨rfl, rfl, rfl, rfl⟩ rfl flat22) rfl rfl (wt_none' rfl) ?_
  refine sx_rd' (rd_len' rfl Try.underlying22) rfl rfl (wt_none' rfl) ?_
  refine sx_rd' (rd_move' rfl) rfl rfl (wt_none' rfl) ?_
  refine sx_nil' ?_
  show TX E K3 _
  refine tx_k' hK3 ?_
  refine cx_block' ?_
  obtain ⟨y1, hy1, hp⟩ := bind_some hp
  refine cx_loopg' (F := spec_BoxEmpty_l1 a0_1 a0_2) (G := fun k R v => spec_BoxEmpty_l1s a0_1 a0_2 k R v) (x := 0) (gh := ()) (fun (v1 : Int) (w1 : Unit) => (⟨25, [], [(1, (Vl (.pointer (some q1)))), (6, (Vl (.int .i64 (a0_1.length : Int)))), (7, (Vl (.int .i64 v1)))], [⟨.pointer (some q1), [(Vl (.int .i64 a0_0)), (Sl Kf a0_1), (Sl Kf a0_2)], 55, none⟩]⟩ : St)) (fun (y : Unit ⊕ Unit) => match y with | (.inl v2) => Zg E Exit.ret (fun (w2 : Unit) => (⟨25, [], [(2, (Vl (.bool true)))], []⟩ : St)) | (.inr v3) => Zg E (Exit.exit 0) (fun (w3 : Unit) => (⟨25, [], [(1, (Vl (.pointer (some q1))))], [⟨.pointer (some q1), [(Vl (.int .i64 a0_0)), (Sl Kf a0_1), (Sl Kf a0_2)], 55, none⟩]⟩ : St))) (fun _ => rfl) (fun _ _ => rfl) ?_ hy1 (tx_to' rfl [0] (sub_cons rfl (sub_cons rfl (sub_cons rfl sub_nil))) (by decide) (pick_cons rfl pick_nil)) ?_
  · clear hp hy1
    clear y1
    intro k rec1 KY1 ih1
    rintro x1 ⟨⟩ y1 hp
    replace hp : spec_BoxEmpty_l1s a0_1 a0_2 k rec1 x1 = some y1 := hp
    unfold spec_BoxEmpty_l1s at hp
    refine cx_seq' fun K4 hK4 => ?_
    refine cx_region' ?_
    refine sx_rd' (rd_bin' rfl rfl eg_int ru_lss) rfl rfl (wt_none' rfl) ?_
    refine sx_nil' ?_
    show TX E K4 _
    refine tx_k' hK4 ?_
    refine cx_seq' fun K5 hK5 => ?_
    refine cx_cond' rfl (fun h2 => ?_) (fun h2 => ?_)
    · replace hp := (br_t h2).symm.trans hp
      refine cx_skip' ?_
      show TX E K5 _
      refine tx_k' hK5 ?_
      refine cx_seq' fun K6 hK6 => ?_
      refine cx_block' ?_
      refine cx_seq' fun K7 hK7 => ?_
      refine cx_region' ?_
      refine sx_rd' (rd_move' rfl) rfl rfl (wt_none' rfl) ?_
      refine sx_rd' (rd_assign' rfl) rfl rfl (wt_none' rfl) ?_
      refine sx_nil' ?_
      show TX E K7 _
      refine tx_k' hK7 ?_
      refine cx_seq' fun K8 hK8 => ?_
      refine cx_draw' mixed (by kernel_rfl) ?_
      refine qx_rd' (rd_field' (off := 2) rfl Try.underlying55 rfl info22 rfl) rfl rfl (wt_none' rfl) ?_
      refine qx_rd' (rd_load' (i := 0) (o := 2) rfl ⟨rfl, rfl, rfl, rfl⟩ rfl flat22) rfl rfl (wt_none' rfl) ?_
      refine qx_rd' (rd_move' rfl) rfl rfl (wt_none' rfl) ?_
      obtain ⟨r13, hr13, hp⟩ := bind_some hp
      refine qx_rd' (rd_at' (K := Kf) rfl rfl hr13 Try.underlying22 info32) rfl rfl (wt_none' rfl) ?_
      refine qx_rd' (rd_load_pt' rfl rfl flat32) rfl rfl (wt_none' rfl) ?_
      refine qx_rd' (rd_field' (off := 1) rfl Try.underlying55 rfl info22 rfl) rfl rfl (wt_none' rfl) ?_
      refine qx_rd' (rd_load' (i := 0) (o := 1) rfl ⟨rfl, rfl, rfl, rfl⟩ rfl flat22) rfl rfl (wt_none' rfl) ?_
      refine qx_rd' (rd_move' rfl) rfl rfl (wt_none' rfl) ?_
      obtain ⟨r18, hr18, hp⟩ := bind_some hp
      refine qx_rd' (rd_at' (K := Kf) rfl rfl hr18 Try.underlying22 info32) rfl rfl (wt_none' rfl) ?_
      refine qx_rd' (rd_load_pt' rfl rfl flat32) rfl rfl (wt_none' rfl) ?_
      refine qx_rd' (rd_bin' rfl rfl eg_flt ru_flt) rfl rfl (wt_none' rfl) ?_
      refine qx_nil' ?_
      show TX E K8 _
      refine tx_k' hK8 ?_
      refine cx_cond' rfl (fun h3 => ?_) (fun h3 => ?_)
      · replace hp := (br_t h3).symm.trans hp
        refine cx_seq' fun K9 hK9 => ?_
        refine cx_region' ?_
        refine sx_rd' (rd_assign' rfl) rfl rfl (wt_none' rfl) ?_
        refine sx_nil' ?_
        show TX E K9 _
        refine tx_k' hK9 ?_
        refine cx_retc' ?_
        replace hp := Option.some.inj hp
        subst hp
        show TX E (Zg E Exit.ret _ Exit.ret) _
        exact tx_zend' () rfl [] (sub_cons rfl sub_nil) (by decide) pick_nil
      · replace hp := (br_f h3).symm.trans hp
        refine cx_skip' ?_
        show TX E K6 _
        refine tx_k' hK6 ?_
        refine cx_region' ?_
        refine sx_rd' (rd_bin' rfl rfl eg_int ru_add) rfl rfl (wt_none' rfl) ?_
        refine sx_rd' (rd_move' rfl) rfl rfl (wt_none' rfl) ?_
        refine sx_nil' ?_
        show TX E (KY1 _) _
        exact tx_pick' [0] (sub_cons rfl (sub_cons rfl (sub_cons rfl sub_nil))) (by decide) (pick_cons rfl pick_nil) (ih1 (iadd .i64 x1 1) () _ hp)
    · replace hp := (br_f h2).symm.trans hp
      refine cx_exit' ?_
      replace hp := Option.some.inj hp
      subst hp
      show TX E (Zg E (Exit.exit 0) _ (Exit.exit 0)) _
      exact tx_zend' () rfl [0] (sub_cons rfl sub_nil) (by decide) (pick_cons rfl pick_nil)
  · rcases y1 with v2 | v3
    · dsimp only at hp
      refine zg_out fun w2 => ?_
      replace hp := Option.some.inj hp
      subst hp
      refine tx_pick' (L' := [(2, (Vl (.bool true)))]) (H' := []) [] (sub_cons rfl sub_nil) (by decide) pick_nil ?_
      exact tx_ret1' Try.results45 rfl () (rv_tmp' rfl) (List.Sublist.refl _)
    · dsimp only at hp
      refine zg_out fun w3 => ?_
      show TX E K2 _
      refine tx_k' hK2 ?_
      refine cx_seq' fun K10 hK10 => ?_
      refine cx_region' ?_
      refine sx_rd' (rd_field0' rfl Try.underlying55 rfl info3 rfl) rfl rfl (wt_none' rfl) ?_
      refine sx_rd' (rd_load' (i := 0) (o := 0) rfl ⟨rfl, rfl, rfl, rfl⟩ rfl flat3) rfl rfl (wt_none' rfl) ?_
      refine sx_rd' (rd_bin' rfl rfl eg_int ru_eql) rfl rfl (wt_none' rfl) ?_
      refine sx_rd' (rd_assign' rfl) rfl rfl (wt_none' rfl) ?_
      refine sx_nil' ?_
      show TX E K10 _
      refine tx_k' hK10 ?_
      refine cx_retc' ?_
      replace hp := Option.some.inj hp
      subst hp
      refine tx_pick' (L' := [(2, (Vl (.bool (decide (a0_0 = 0)))))]) (H' := []) [] (sub_cons rfl sub_nil) (by decide) pick_nil ?_
      exact tx_ret1' Try.results45 rfl () (rv_tmp' rfl) (List.Sublist.refl _)

def impl_floats (k : Nat) (a0 : List Nat) : Option ((List Nat)) :=
  (apd 8 [] a0) >>= fun r4 =>
  some r4

theorem impl_floats_sim {k : Nat}  (a0 : List Nat) {out : (List Nat)} (hp : impl_floats k a0 = some out) : Go.Sx.Fn Try.prog 58 [(Sl Kf a0)] [] (fun w : Unit => (Sl Kf out)) (fun w => []) := by
  unfold impl_floats at hp
  refine fn_of Try.func58 rfl Try.ntmps58 rfl fun E hM => ?_
  refine cx_seq' fun K1 hK1 => ?_
  refine cx_region' ?_
  refine sx_rd' (rd_assign' rfl) rfl rfl (wt_none' rfl) ?_
  refine sx_nil' ?_
  show TX E K1 _
  refine tx_k' hK1 ?_
  refine cx_seq' fun K2 hK2 => ?_
  refine cx_region' ?_
  refine sx_rd' (rd_move' rfl) rfl rfl (wt_none' rfl) ?_
  refine tx_nilrow' Kf 32 ?_
  obtain ⟨r4, hr4, hp⟩ := bind_some hp
  refine sx_ox' (ox_append' (K := Kf) (i := 0) (xs := []) (ys := a0) rfl rfl rfl (sr_sl' rfl Try.underlying22) hr4 Try.underlying22 info32 rfl rfl rfl (H' := []) rfl) (wt_none' rfl) fun g4 => ?_
  refine sx_rd' (rd_assign' rfl) rfl rfl (wt_none' rfl) ?_
  refine sx_nil' ?_
  show TX E K2 _
  refine tx_k' hK2 ?_
  refine cx_retc' ?_
  replace hp := Option.some.inj hp
  subst hp
  refine tx_fz' (frz_row 0 [(2, (Vl (Vs g4)), (Sl Kf r4)), (4, (Vl (Vs g4)), (Sl Kf r4))] (K := Kf) (xs := r4) (by decide) rfl ⟨⟨rfl, frz_it⟩, ⟨rfl, frz_it⟩, trivial⟩ (H' := []) frzH_refl) ?_
  refine tx_pick' (L' := [(2, (Sl Kf r4))]) (H' := []) [] (sub_cons rfl sub_nil) (by decide) pick_nil ?_
  exact tx_ret1' Try.results58 rfl () (rv_tmp' rfl) (List.Sublist.refl _)

def gogeom_DoorBounds (k : Nat) (a0 : Int) (a1 : List Nat) (a2 : List Nat) : Option (Int × (List Nat) × (List Nat)) :=
  some (a0, a1, a2)

theorem gogeom_DoorBounds_sim {k : Nat}  (a0 : Int) (a1 : List Nat) (a2 : List Nat) {out : Int × (List Nat) × (List Nat)} (hp : gogeom_DoorBounds k a0 a1 a2 = some out) : Go.Sx.Fn Try.prog 116 [(Vl (.int .i64 a0)), (Sl Kf a1), (Sl Kf a2)] [] (fun w : Addr => (Vl (.pointer (some w)))) (fun w => [⟨.pointer (some w), [(Vl (.int .i64 out.1)), (Sl Kf out.2.1), (Sl Kf out.2.2)], 153, none⟩]) := by
  unfold gogeom_DoorBounds at hp
  refine fn_of Try.func116 rfl Try.ntmps116 rfl fun E hM => ?_
  refine cx_seq' fun K1 hK1 => ?_
  refine cx_region' ?_
  refine sx_rd' (rd_assign' rfl) rfl rfl (wt_none' rfl) ?_
  refine sx_nil' ?_
  show TX E K1 _
  refine tx_k' hK1 ?_
  refine cx_seq' fun K2 hK2 => ?_
  refine cx_region' ?_
  refine sx_rd' (rd_move' rfl) rfl rfl (wt_none' rfl) ?_
  refine sx_rd' (rd_move' rfl) rfl rfl (wt_none' rfl) ?_
  refine sx_rd' (rd_move' rfl) rfl rfl (wt_none' rfl) ?_
  refine sx_rd' (rd_build' (pls := [(0, 1), (1, 1), (2, 1)]) (qs := [(0, [(Vl (.int .i64 a0))]), (1, [(Sl Kf a1)]), (2, [(Sl Kf a2)])]) (r := [(Vl (.int .i64 a0)), (Sl Kf a1), (Sl Kf a2)]) ⟨rfl, ⟨_, rfl, (lv_vl rfl rfl)⟩, ⟨rfl, ⟨_, rfl, (lv_sl _ _)⟩, ⟨rfl, ⟨_, rfl, (lv_sl _ _)⟩, trivial⟩⟩⟩ Try.underlying153 has153 places153 info153 rfl rfl rfl) rfl rfl (wt_none' rfl) ?_
  refine sx_ox' (ox_box' rfl (lv_ag _) rfl rfl) (wt_none' rfl) fun q11 => ?_
  refine sx_rd' (rd_assign' rfl) rfl rfl (wt_none' rfl) ?_
  refine sx_nil' ?_
  show TX E K2 _
  refine tx_k' hK2 ?_
  refine cx_retc' ?_
  replace hp := Option.some.inj hp
  subst hp
  refine tx_pick' (L' := [(6, (Vl (.pointer (some q11))))]) (H' := [⟨.pointer (some q11), [(Vl (.int .i64 a0)), (Sl Kf a1), (Sl Kf a2)], 153, none⟩]) [0] (sub_cons rfl sub_nil) (by decide) (pick_cons rfl pick_nil) ?_
  exact tx_ret1' Try.results116 rfl q11 (rv_tmp' rfl) (List.Sublist.refl _)

def impl_box (k : Nat) (a0_0 : Int) (a0_1 : List Nat) (a0_2 : List Nat) : Option (Int × (List Nat) × (List Nat)) :=
  (impl_floats k a0_1) >>= fun r7 =>
  (impl_floats k a0_2) >>= fun r10 =>
  (gogeom_DoorBounds k a0_0 r7 r10) >>= fun r11 =>
  some (r11.1, r11.2.1, r11.2.2)

theorem impl_box_sim {k : Nat}  (a0_0 : Int) (a0_1 : List Nat) (a0_2 : List Nat) {out : Int × (List Nat) × (List Nat)} (hp : impl_box k a0_0 a0_1 a0_2 = some out) : Go.Sx.Fn Try.prog 71 [(Ag [(Vl (.int .i64 a0_0)), (Sl Kf a0_1), (Sl Kf a0_2)])] [] (fun w : Addr => (Vl (.pointer (some w)))) (fun w => [⟨.pointer (some w), [(Vl (.int .i64 out.1)), (Sl Kf out.2.1), (Sl Kf out.2.2)], 153, none⟩]) := by
  unfold impl_box at hp
  refine fn_of Try.func71 rfl Try.ntmps71 rfl fun E hM => ?_
  refine cx_seq' fun K1 hK1 => ?_
  refine cx_region' ?_
  refine sx_ox' (ox_box' rfl (lv_ag _) rfl rfl) (wt_none' rfl) fun q1 => ?_
  refine sx_rd' (rd_assign' rfl) rfl rfl (wt_none' rfl) ?_
  refine sx_nil' ?_
  show TX E K1 _
  refine tx_k' hK1 ?_
  refine cx_seq' fun K2 hK2 => ?_
  refine cx_plan' [] [] [(0, 1), (1, 1), (2, 1), (3, 1), (5, 1), (6, 1), (4, 0), (7, 0), (8, 0), (9, 1)] mixed (by kernel_rfl) ?_
  refine px_rd' rfl (rd_field0' rfl Try.underlying55 rfl info3 rfl) rfl rfl (wt_none' rfl) ?_
  refine px_rd' rfl (rd_load' (i := 0) (o := 0) rfl ⟨rfl, rfl, rfl, rfl⟩ rfl flat3) rfl rfl (wt_none' rfl) ?_
  refine px_rd' rfl (rd_field' (off := 1) rfl Try.underlying55 rfl info22 rfl) rfl rfl (wt_none' rfl) ?_
  refine px_rd' rfl (rd_load' (i := 0) (o := 1) rfl ⟨rfl, rfl, rfl, rfl⟩ rfl flat22) rfl rfl (wt_none' rfl) ?_
  refine px_rd' rfl (rd_field' (off := 2) rfl Try.underlying55 rfl info22 rfl) rfl rfl (wt_none' rfl) ?_
  refine px_rd' rfl (rd_load' (i := 0) (o := 2) rfl ⟨rfl, rfl, rfl, rfl⟩ rfl flat22) rfl rfl (wt_none' rfl) ?_
  obtain ⟨r7, hr7, hp⟩ := bind_some hp
  refine px_ox' rfl (ox_calln' (ent_fn' Try.func58 isn58 rfl rfl) (impl_floats_sim _ hr7 : Go.Sx.Fn Try.prog 58 [(Sl Kf a0_1)] [] (fun x : Unit => (Sl Kf r7)) (fun x => [])) (Hn := fun x : Unit => [⟨.pointer (some q1), [(Vl (.int .i64 a0_0)), (Sl Kf a0_1), (Sl Kf a0_2)], 55, none⟩]) (fun _ => rfl) rfl rfl) rfl bs_nil (wt_none' rfl) fun ⟨⟩ => ?_
  obtain ⟨r10, hr10, hp⟩ := bind_some hp
  refine px_ox' rfl (ox_calln' (ent_fn' Try.func58 isn58 rfl rfl) (impl_floats_sim _ hr10 : Go.Sx.Fn Try.prog 58 [(Sl Kf a0_2)] [] (fun x : Unit => (Sl Kf r10)) (fun x => [])) (Hn := fun x : Unit => [⟨.pointer (some q1), [(Vl (.int .i64 a0_0)), (Sl Kf a0_1), (Sl Kf a0_2)], 55, none⟩]) (fun _ => rfl) rfl rfl) rfl bs_nil (wt_none' rfl) fun ⟨⟩ => ?_
  obtain ⟨r11, hr11, hp⟩ := bind_some hp
  refine px_ox' rfl (ox_calln' (ent_fn' Try.func116 isn116 rfl rfl) (gogeom_DoorBounds_sim _ _ _ hr11 : Go.Sx.Fn Try.prog 116 [(Vl (.int .i64 a0_0)), (Sl Kf r7), (Sl Kf r10)] [] (fun x : Addr => (Vl (.pointer (some x)))) (fun x => [⟨.pointer (some x), [(Vl (.int .i64 r11.1)), (Sl Kf r11.2.1), (Sl Kf r11.2.2)], 153, none⟩])) (Hn := fun x : Addr => [⟨.pointer (some x), [(Vl (.int .i64 r11.1)), (Sl Kf r11.2.1), (Sl Kf r11.2.2)], 153, none⟩, ⟨.pointer (some q1), [(Vl (.int .i64 a0_0)), (Sl Kf a0_1), (Sl Kf a0_2)], 55, none⟩]) (fun _ => rfl) rfl rfl) rfl bs_nil (wt_none' rfl) fun q11 => ?_
  refine px_rd' rfl (rd_assign' rfl) rfl rfl (wt_none' rfl) ?_
  refine px_nil' ?_
  show TX E K2 _
  refine tx_k' hK2 ?_
  refine cx_retc' ?_
  replace hp := Option.some.inj hp
  subst hp
  refine tx_pick' (L' := [(2, (Vl (.pointer (some q11))))]) (H' := [⟨.pointer (some q11), [(Vl (.int .i64 r11.1)), (Sl Kf r11.2.1), (Sl Kf r11.2.2)], 153, none⟩]) [0] (sub_cons rfl sub_nil) (by decide) (pick_cons rfl pick_nil) ?_
  exact tx_ret1' Try.results71 rfl q11 (rv_tmp' rfl) (List.Sublist.refl _)

def gogeom_Layout_Stride (k : Nat) (a0 : Int) : Option (Int) :=
  br (decide (a0 = 0))
    (some 0)
    (br (decide (a0 = 1))
      (some 2)
      (br (decide (a0 = 2))
        (some 3)
        (br (decide (a0 = 3))
          (some 3)
          (br (decide (a0 = 4))
            (some 4)
            (some a0)))))

theorem gogeom_Layout_Stride_sim {k : Nat}  (a0 : Int) {out : Int} (hp : gogeom_Layout_Stride k a0 = some out) : Go.Sx.Fn Try.prog 102 [(Vl (.int .i64 a0))] [] (fun w : Unit => (Vl (.int .i64 out))) (fun w => []) := by
  unfold gogeom_Layout_Stride at hp
  refine fn_of Try.func102 rfl Try.ntmps102 rfl fun E hM => ?_
  refine cx_seq' fun K1 hK1 => ?_
  refine cx_region' ?_
  refine sx_rd' (rd_assign' rfl) rfl rfl (wt_none' rfl) ?_
  refine sx_nil' ?_
  show TX E K1 _
  refine tx_k' hK1 ?_
  refine cx_seq' fun K2 hK2 => ?_
  refine cx_region' ?_
  refine sx_rd' (rd_move' rfl) rfl rfl (wt_none' rfl) ?_
  refine sx_nil' ?_
  show TX E K2 _
  refine tx_k' hK2 ?_
  refine cx_block' ?_
  refine cx_seq' fun K3 hK3 => ?_
  refine cx_region' ?_
  refine sx_rd' (rd_bin' rfl rfl eg_int ru_eql) rfl rfl (wt_none' rfl) ?_
  refine sx_rd' (rd_assign' rfl) rfl rfl (wt_none' rfl) ?_
  refine sx_nil' ?_
  show TX E K3 _
  refine tx_k' hK3 ?_
  refine cx_cond' rfl (fun h1 => ?_) (fun h1 => ?_)
  · replace hp := (br_t h1).symm.trans hp
    refine cx_seq' fun K4 hK4 => ?_
    refine cx_region' ?_
    refine sx_rd' (rd_assign' rfl) rfl rfl (wt_none' rfl) ?_
    refine sx_nil' ?_
    show TX E K4 _
    refine tx_k' hK4 ?_
    refine cx_retc' ?_
    replace hp := Option.some.inj hp
    subst hp
    refine tx_pick' (L' := [(2, (Vl (.int .i64 0)))]) (H' := []) [] (sub_cons rfl sub_nil) (by decide) pick_nil ?_
    exact tx_ret1' Try.results102 rfl () (rv_tmp' rfl) (List.Sublist.refl _)
  · replace hp := (br_f h1).symm.trans hp
    refine cx_seq' fun K5 hK5 => ?_
    refine cx_region' ?_
    refine sx_rd' (rd_bin' rfl rfl eg_int ru_eql) rfl rfl (wt_none' rfl) ?_
    refine sx_rd' (rd_assign' rfl) rfl rfl (wt_none' rfl) ?_
    refine sx_nil' ?_
    show TX E K5 _
    refine tx_k' hK5 ?_
    refine cx_cond' rfl (fun h2 => ?_) (fun h2 => ?_)
    · replace hp := (br_t h2).symm.trans hp
      refine cx_seq' fun K6 hK6 => ?_
      refine cx_region' ?_
      refine sx_rd' (rd_assign' rfl) rfl rfl (wt_none' rfl) ?_
      refine sx_nil' ?_
      show TX E K6 _
      refine tx_k' hK6 ?_
      refine cx_retc' ?_
      replace hp := Option.some.inj hp
      subst hp
      refine tx_pick' (L' := [(2, (Vl (.int .i64 2)))]) (H' := []) [] (sub_cons rfl sub_nil) (by decide) pick_nil ?_
      exact tx_ret1' Try.results102 rfl () (rv_tmp' rfl) (List.Sublist.refl _)
    · replace hp := (br_f h2).symm.trans hp
      refine cx_seq' fun K7 hK7 => ?_
      refine cx_region' ?_
      refine sx_rd' (rd_bin' rfl rfl eg_int ru_eql) rfl rfl (wt_none' rfl) ?_
      refine sx_rd' (rd_assign' rfl) rfl rfl (wt_none' rfl) ?_
      refine sx_nil' ?_
      show TX E K7 _
      refine tx_k' hK7 ?_
      refine cx_cond' rfl (fun h3 => ?_) (fun h3 => ?_)
      · replace hp := (br_t h3).symm.trans hp
        refine cx_seq' fun K8 hK8 => ?_
        refine cx_region' ?_
        refine sx_rd' (rd_assign' rfl) rfl rfl (wt_none' rfl) ?_
        refine sx_nil' ?_
        show TX E K8 _
        refine tx_k' hK8 ?_
        refine cx_retc' ?_
        replace hp := Option.some.inj hp
        subst hp
        refine tx_pick' (L' := [(2, (Vl (.int .i64 3)))]) (H' := []) [] (sub_cons rfl sub_nil) (by decide) pick_nil ?_
        exact tx_ret1' Try.results102 rfl () (rv_tmp' rfl) (List.Sublist.refl _)
      · replace hp := (br_f h3).symm.trans hp
        refine cx_seq' fun K9 hK9 => ?_
        refine cx_region' ?_
        refine sx_rd' (rd_bin' rfl rfl eg_int ru_eql) rfl rfl (wt_none' rfl) ?_
        refine sx_rd' (rd_assign' rfl) rfl rfl (wt_none' rfl) ?_
        refine sx_nil' ?_
        show TX E K9 _
        refine tx_k' hK9 ?_
        refine cx_cond' rfl (fun h4 => ?_) (fun h4 => ?_)
        · replace hp := (br_t h4).symm.trans hp
          refine cx_seq' fun K10 hK10 => ?_
          refine cx_region' ?_
          refine sx_rd' (rd_assign' rfl) rfl rfl (wt_none' rfl) ?_
          refine sx_nil' ?_
          show TX E K10 _
          refine tx_k' hK10 ?_
          refine cx_retc' ?_
          replace hp := Option.some.inj hp
          subst hp
          refine tx_pick' (L' := [(2, (Vl (.int .i64 3)))]) (H' := []) [] (sub_cons rfl sub_nil) (by decide) pick_nil ?_
          exact tx_ret1' Try.results102 rfl () (rv_tmp' rfl) (List.Sublist.refl _)
        · replace hp := (br_f h4).symm.trans hp
          refine cx_seq' fun K11 hK11 => ?_
          refine cx_region' ?_
          refine sx_rd' (rd_bin' rfl rfl eg_int ru_eql) rfl rfl (wt_none' rfl) ?_
          refine sx_rd' (rd_assign' rfl) rfl rfl (wt_none' rfl) ?_
          refine sx_nil' ?_
          show TX E K11 _
          refine tx_k' hK11 ?_
          refine cx_cond' rfl (fun h5 => ?_) (fun h5 => ?_)
          · replace hp := (br_t h5).symm.trans hp
            refine cx_seq' fun K12 hK12 => ?_
            refine cx_region' ?_
            refine sx_rd' (rd_assign' rfl) rfl rfl (wt_none' rfl) ?_
            refine sx_nil' ?_
            show TX E K12 _
            refine tx_k' hK12 ?_
            refine cx_retc' ?_
            replace hp := Option.some.inj hp
            subst hp
            refine tx_pick' (L' := [(2, (Vl (.int .i64 4)))]) (H' := []) [] (sub_cons rfl sub_nil) (by decide) pick_nil ?_
            exact tx_ret1' Try.results102 rfl () (rv_tmp' rfl) (List.Sublist.refl _)
          · replace hp := (br_f h5).symm.trans hp
            refine cx_seq' fun K13 hK13 => ?_
            refine cx_region' ?_
            refine sx_rd' (rd_move' rfl) rfl rfl (wt_none' rfl) ?_
            refine sx_rd' (rd_assign' rfl) rfl rfl (wt_none' rfl) ?_
            refine sx_nil' ?_
            show TX E K13 _
            refine tx_k' hK13 ?_
            refine cx_retc' ?_
            replace hp := Option.some.inj hp
            subst hp
            refine tx_pick' (L' := [(2, (Vl (.int .i64 a0)))]) (H' := []) [] (sub_cons rfl sub_nil) (by decide) pick_nil ?_
            exact tx_ret1' Try.results102 rfl () (rv_tmp' rfl) (List.Sublist.refl _)

def gogeom_Bounds_IsEmpty_l1s (r14 : Int) (a0_2 : List Nat) (a0_1 : List Nat) (k : Nat) (rec1 : Int → Option (Unit ⊕ Unit)) (x1 : Int) : Option (Unit ⊕ Unit) :=
  br (decide (x1 < r14))
    ((idx a0_2 x1) >>= fun r25 =>
    (idx a0_1 x1) >>= fun r32 =>
    br (flt r25 r32)
      (some (.inl ()))
      (rec1 (iadd .i64 x1 1)))
    (some (.inr ()))
def gogeom_Bounds_IsEmpty_l1 (r14 : Int) (a0_2 : List Nat) (a0_1 : List Nat) : Nat → Int → Option (Unit ⊕ Unit)
  | 0, _ => none
  | k + 1, v => gogeom_Bounds_IsEmpty_l1s r14 a0_2 a0_1 k (gogeom_Bounds_IsEmpty_l1 r14 a0_2 a0_1 k) v
def gogeom_Bounds_IsEmpty (k : Nat) (a0_0 : Int) (a0_1 : List Nat) (a0_2 : List Nat) : Option (Int × (List Nat) × (List Nat) × Bool) :=
  br (decide (a0_0 = 0))
    (some (a0_0, a0_1, a0_2, true))
    ((gogeom_Layout_Stride k a0_0) >>= fun r14 =>
    (gogeom_Bounds_IsEmpty_l1 r14 a0_2 a0_1 k 0) >>= fun y1 => match y1 with
      | (.inl v2) =>
        (some (a0_0, a0_1, a0_2, true))
      | (.inr v3) =>
        (some (a0_0, a0_1, a0_2, false)))

theorem gogeom_Bounds_IsEmpty_sim {k : Nat} {wa0 : Addr} (a0_0 : Int) (a0_1 : List Nat) (a0_2 : List Nat) {out : Int × (List Nat) × (List Nat) × Bool} (hp : gogeom_Bounds_IsEmpty k a0_0 a0_1 a0_2 = some out) : Go.Sx.Fn Try.prog 126 [(Vl (.pointer (some wa0)))] [⟨.pointer (some wa0), [(Vl (.int .i64 a0_0)), (Sl Kf a0_1), (Sl Kf a0_2)], 153, none⟩] (fun w : Unit => (Vl (.bool out.2.2.2))) (fun w => [⟨.pointer (some wa0), [(Vl (.int .i64 out.1)), (Sl Kf out.2.1), (Sl Kf out.2.2.1)], 153, none⟩]) := by
  unfold gogeom_Bounds_IsEmpty at hp
  refine fn_of Try.func126 rfl Try.ntmps126 rfl fun E hM => ?_
  refine cx_seq' fun K1 hK1 => ?_
  refine cx_region' ?_
  refine sx_rd' (rd_assign' rfl) rfl rfl (wt_none' rfl) ?_
  refine sx_nil' ?_
  show TX E K1 _
  refine tx_k' hK1 ?_
  refine cx_seq' fun K2 hK2 => ?_
  refine cx_seq' fun K3 hK3 => ?_
  refine cx_region' ?_
  refine sx_rd' (rd_move' rfl) rfl rfl (wt_none' rfl) ?_
  refine sx_rd' (rd_nilck' rfl) rfl rfl (wt_none' rfl) ?_
  refine sx_rd' (rd_field0' rfl Try.underlying153 rfl info92 rfl) rfl rfl (wt_none' rfl) ?_
  refine sx_rd' (rd_load' (i := 0) (o := 0) rfl ⟨rfl, rfl, rfl, rfl⟩ rfl flat92) rfl rfl (wt_none' rfl) ?_
  refine sx_rd' (rd_bin' rfl rfl eg_int ru_eql) rfl rfl (wt_none' rfl) ?_
  refine sx_nil' ?_
  show TX E K3 _
  refine tx_k' hK3 ?_
  refine cx_cond' rfl (fun h1 => ?_) (fun h1 => ?_)
  · replace hp := (br_t h1).symm.trans hp
    refine cx_seq' fun K4 hK4 => ?_
    refine cx_region' ?_
    refine sx_rd' (rd_assign' rfl) rfl rfl (wt_none' rfl) ?_
    refine sx_nil' ?_
    show TX E K4 _
    refine tx_k' hK4 ?_
    refine cx_retc' ?_
    replace hp := Option.some.inj hp
    subst hp
    refine tx_pick' (L' := [(2, (Vl (.bool true)))]) (H' := [⟨.pointer (some wa0), [(Vl (.int .i64 a0_0)), (Sl Kf a0_1), (Sl Kf a0_2)], 153, none⟩]) [0] (sub_cons rfl sub_nil) (by decide) (pick_cons rfl pick_nil) ?_
    exact tx_ret1' Try.results126 rfl () (rv_tmp' rfl) (List.Sublist.refl _)
  · replace hp := (br_f h1).symm.trans hp
    refine cx_skip' ?_
    show TX E K2 _
    refine tx_k' hK2 ?_
    refine cx_seq' fun K5 hK5 => ?_
    refine cx_seq' fun K6 hK6 => ?_
    refine cx_region' ?_
    refine sx_rd' (rd_move' rfl) rfl rfl (wt_none' rfl) ?_
    refine sx_rd' (rd_nilck' rfl) rfl rfl (wt_none' rfl) ?_
    refine sx_rd' (rd_field0' rfl Try.underlying153 rfl info92 rfl) rfl rfl (wt_none' rfl) ?_
    refine sx_rd' (rd_load' (i := 0) (o := 0) rfl ⟨rfl, rfl, rfl, rfl⟩ rfl flat92) rfl rfl (wt_none' rfl) ?_
    obtain ⟨r14, hr14, hp⟩ := bind_some hp
    refine sx_ox' (ox_calln' (ent_fn' Try.func102 isn102 rfl rfl) (gogeom_Layout_Stride_sim _ hr14 : Go.Sx.Fn Try.prog 102 [(Vl (.int .i64 a0_0))] [] (fun x : Unit => (Vl (.int .i64 r14))) (fun x => [])) (Hn := fun x : Unit => [⟨.pointer (some wa0), [(Vl (.int .i64 a0_0)), (Sl Kf a0_1), (Sl Kf a0_2)], 153, none⟩]) (fun _ => rfl) rfl rfl) (wt_none' rfl) fun ⟨⟩ => ?_
    refine sx_rd' (rd_assign' rfl) rfl rfl (wt_none' rfl) ?_
    refine sx_rd' (rd_assign' rfl) rfl rfl (wt_none' rfl) ?_
    refine sx_nil' ?_
    show TX E K6 _
    refine tx_k' hK6 ?_
    refine cx_block' ?_
    obtain ⟨y1, hy1, hp⟩ := bind_some hp
    refine cx_loopg' (F := gogeom_Bounds_IsEmpty_l1 r14 a0_2 a0_1) (G := fun k R v => gogeom_Bounds_IsEmpty_l1s r14 a0_2 a0_1 k R v) (x := 0) (gh := ()) (fun (v1 : Int) (w1 : Unit) => (⟨35, [], [(0, (Vl (.pointer (some wa0)))), (3, (Vl (.int .i64 v1))), (4, (Vl (.int .i64 r14)))], [⟨.pointer (some wa0), [(Vl (.int .i64 a0_0)), (Sl Kf a0_1), (Sl Kf a0_2)], 153, none⟩]⟩ : St)) (fun (y : Unit ⊕ Unit) => match y with | (.inl v2) => Zg E Exit.ret (fun (w2 : Unit) => (⟨35, [], [(2, (Vl (.bool true)))], [⟨.pointer (some wa0), [(Vl (.int .i64 a0_0)), (Sl Kf a0_1), (Sl Kf a0_2)], 153, none⟩]⟩ : St)) | (.inr v3) => Zg E (Exit.exit 0) (fun (w3 : Unit) => (⟨35, [], [], [⟨.pointer (some wa0), [(Vl (.int .i64 a0_0)), (Sl Kf a0_1), (Sl Kf a0_2)], 153, none⟩]⟩ : St))) (fun _ => rfl) (fun _ _ => rfl) ?_ hy1 (tx_to' rfl [0] (sub_cons rfl (sub_cons rfl (sub_cons rfl sub_nil))) (by decide) (pick_cons rfl pick_nil)) ?_
    · clear hp hy1
      clear y1
      intro k rec1 KY1 ih1
      rintro x1 ⟨⟩ y1 hp
      replace hp : gogeom_Bounds_IsEmpty_l1s r14 a0_2 a0_1 k rec1 x1 = some y1 := hp
      unfold gogeom_Bounds_IsEmpty_l1s at hp
      refine cx_seq' fun K7 hK7 => ?_
      refine cx_seq' fun K8 hK8 => ?_
      refine cx_region' ?_
      refine sx_rd' (rd_move' rfl) rfl rfl (wt_none' rfl) ?_
      refine sx_rd' (rd_move' rfl) rfl rfl (wt_none' rfl) ?_
      refine sx_rd' (rd_bin' rfl rfl eg_int ru_lss) rfl rfl (wt_none' rfl) ?_
      refine sx_nil' ?_
      show TX E K8 _
      refine tx_k' hK8 ?_
      refine cx_cond' rfl (fun h3 => ?_) (fun h3 => ?_)
      · replace hp := (br_t h3).symm.trans hp
        refine cx_skip' ?_
        show TX E K7 _
        refine tx_k' hK7 ?_
        refine cx_seq' fun K9 hK9 => ?_
        refine cx_block' ?_
        refine cx_seq' fun K10 hK10 => ?_
        refine cx_draw' mixed (by kernel_rfl) ?_
        refine qx_rd' (rd_move' rfl) rfl rfl (wt_none' rfl) ?_
        refine qx_rd' (rd_nilck' rfl) rfl rfl (wt_none' rfl) ?_
        refine qx_rd' (rd_field' (off := 2) rfl Try.underlying153 rfl info140 rfl) rfl rfl (wt_none' rfl) ?_
        refine qx_rd' (rd_load' (i := 0) (o := 2) rfl ⟨rfl, rfl, rfl, rfl⟩ rfl flat140) rfl rfl (wt_none' rfl) ?_
        refine qx_rd' (rd_move' rfl) rfl rfl (wt_none' rfl) ?_
        obtain ⟨r25, hr25, hp⟩ := bind_some hp
        refine qx_rd' (rd_at' (K := Kf) rfl rfl hr25 Try.underlying140 info32) rfl rfl (wt_none' rfl) ?_
        refine qx_rd' (rd_load_pt' rfl rfl flat32) rfl rfl (wt_none' rfl) ?_
        refine qx_rd' (rd_move' rfl) rfl rfl (wt_none' rfl) ?_
        refine qx_rd' (rd_nilck' rfl) rfl rfl (wt_none' rfl) ?_
        refine qx_rd' (rd_field' (off := 1) rfl Try.underlying153 rfl info140 rfl) rfl rfl (wt_none' rfl) ?_
        refine qx_rd' (rd_load' (i := 0) (o := 1) rfl ⟨rfl, rfl, rfl, rfl⟩ rfl flat140) rfl rfl (wt_none' rfl) ?_
        refine qx_rd' (rd_move' rfl) rfl rfl (wt_none' rfl) ?_
        obtain ⟨r32, hr32, hp⟩ := bind_some hp
        refine qx_rd' (rd_at' (K := Kf) rfl rfl hr32 Try.underlying140 info32) rfl rfl (wt_none' rfl) ?_
        refine qx_rd' (rd_load_pt' rfl rfl flat32) rfl rfl (wt_none' rfl) ?_
        refine qx_rd' (rd_bin' rfl rfl eg_flt ru_flt) rfl rfl (wt_none' rfl) ?_
        refine qx_nil' ?_
        show TX E K10 _
        refine tx_k' hK10 ?_
        refine cx_cond' rfl (fun h4 => ?_) (fun h4 => ?_)
        · replace hp := (br_t h4).symm.trans hp
          refine cx_seq' fun K11 hK11 => ?_
          refine cx_region' ?_
          refine sx_rd' (rd_assign' rfl) rfl rfl (wt_none' rfl) ?_
          refine sx_nil' ?_
          show TX E K11 _
          refine tx_k' hK11 ?_
          refine cx_retc' ?_
          replace hp := Option.some.inj hp
          subst hp
          show TX E (Zg E Exit.ret _ Exit.ret) _
          exact tx_zend' () rfl [0] (sub_cons rfl sub_nil) (by decide) (pick_cons rfl pick_nil)
        · replace hp := (br_f h4).symm.trans hp
          refine cx_skip' ?_
          show TX E K9 _
          refine tx_k' hK9 ?_
          refine cx_region' ?_
          refine sx_rd' (rd_move' rfl) rfl rfl (wt_none' rfl) ?_
          refine sx_rd' (rd_bin' rfl rfl eg_int ru_add) rfl rfl (wt_none' rfl) ?_
          refine sx_rd' (rd_assign' rfl) rfl rfl (wt_none' rfl) ?_
          refine sx_nil' ?_
          show TX E (KY1 _) _
          exact tx_pick' [0] (sub_cons rfl (sub_cons rfl (sub_cons rfl sub_nil))) (by decide) (pick_cons rfl pick_nil) (ih1 (iadd .i64 x1 1) () _ hp)
      · replace hp := (br_f h3).symm.trans hp
        refine cx_exit' ?_
        replace hp := Option.some.inj hp
        subst hp
        show TX E (Zg E (Exit.exit 0) _ (Exit.exit 0)) _
        exact tx_zend' () rfl [0] sub_nil (by decide) (pick_cons rfl pick_nil)
    · rcases y1 with v2 | v3
      · dsimp only at hp
        refine zg_out fun w2 => ?_
        replace hp := Option.some.inj hp
        subst hp
        refine tx_pick' (L' := [(2, (Vl (.bool true)))]) (H' := [⟨.pointer (some wa0), [(Vl (.int .i64 a0_0)), (Sl Kf a0_1), (Sl Kf a0_2)], 153, none⟩]) [0] (sub_cons rfl sub_nil) (by decide) (pick_cons rfl pick_nil) ?_
        exact tx_ret1' Try.results126 rfl () (rv_tmp' rfl) (List.Sublist.refl _)
      · dsimp only at hp
        refine zg_out fun w3 => ?_
        show TX E K5 _
        refine tx_k' hK5 ?_
        refine cx_seq' fun K12 hK12 => ?_
        refine cx_region' ?_
        refine sx_rd' (rd_assign' rfl) rfl rfl (wt_none' rfl) ?_
        refine sx_nil' ?_
        show TX E K12 _
        refine tx_k' hK12 ?_
        refine cx_retc' ?_
        replace hp := Option.some.inj hp
        subst hp
        refine tx_pick' (L' := [(2, (Vl (.bool false)))]) (H' := [⟨.pointer (some wa0), [(Vl (.int .i64 a0_0)), (Sl Kf a0_1), (Sl Kf a0_2)], 153, none⟩]) [0] (sub_cons rfl sub_nil) (by decide) (pick_cons rfl pick_nil) ?_
        exact tx_ret1' Try.results126 rfl () (rv_tmp' rfl) (List.Sublist.refl _)

def gogeom_NewPolygonFlat (k : Nat) (a0 : Int) : Option (Int × Int × Int) :=
  (gogeom_Layout_Stride k a0) >>= fun r18 =>
  some (a0, r18, 0)

theorem gogeom_NewPolygonFlat_sim {k : Nat}  (a0 : Int) {out : Int × Int × Int} (hp : gogeom_NewPolygonFlat k a0 = some out) : Go.Sx.Fn Try.prog 127 [(Vl (.int .i64 a0)), (Vl (.slice none 0 0)), (Vl (.slice none 0 0))] [] (fun w : Addr => (Vl (.pointer (some w)))) (fun w => [⟨.pointer (some w), [(Vl (.int .i64 out.1)), (Vl (.int .i64 out.2.1)), (Vl (.slice none 0 0)), (Vl (.int .i64 out.2.2)), (Vl (.slice none 0 0))], 208, none⟩]) := by
  unfold gogeom_NewPolygonFlat at hp
  refine fn_of Try.func127 rfl Try.ntmps127 rfl fun E hM => ?_
  refine cx_seq' fun K1 hK1 => ?_
  refine cx_region' ?_
  refine sx_rd' (rd_assign' rfl) rfl rfl (wt_none' rfl) ?_
  refine sx_nil' ?_
  show TX E K1 _
  refine tx_k' hK1 ?_
  refine cx_seq' fun K2 hK2 => ?_
  refine cx_region' ?_
  refine sx_ox' (ox_alloc' info208 rfl rfl rfl rfl (l := [(Vl (.int .i64 0)), (Vl (.int .i64 0)), (Vl (.slice none 0 0)), (Vl (.int .i64 0)), (Vl (.slice none 0 0))]) rfl) (wt_none' rfl) fun q8 => ?_
  refine sx_rd' (rd_assign' rfl) rfl rfl (wt_none' rfl) ?_
  refine sx_nil' ?_
  show TX E K2 _
  refine tx_k' hK2 ?_
  refine cx_seq' fun K3 hK3 => ?_
  refine cx_region' ?_
  refine sx_rd' (rd_move' rfl) rfl rfl (wt_none' rfl) ?_
  refine sx_rd' (rd_move' rfl) rfl rfl (wt_none' rfl) ?_
  refine sx_rd' (rd_nilck' rfl) rfl rfl (wt_none' rfl) ?_
  refine sx_rd' (rd_field0' rfl Try.underlying208 rfl info206 rfl) rfl rfl (wt_none' rfl) ?_
  refine sx_rd' (rd_field0' rfl Try.underlying206 rfl info204 rfl) rfl rfl (wt_none' rfl) ?_
  refine sx_rd' (rd_field0' rfl Try.underlying204 rfl info202 rfl) rfl rfl (wt_none' rfl) ?_
  refine sx_rd' (rd_field0' rfl Try.underlying202 rfl info92 rfl) rfl rfl (wt_none' rfl) ?_
  refine sx_ox' (ox_store' (i := 0) (o := 0) rfl rfl (lv_vl rfl rfl) ⟨rfl, rfl, rfl, rfl⟩ rfl info92 rfl (H' := [⟨.pointer (some q8), [(Vl (.int .i64 a0)), (Vl (.int .i64 0)), (Vl (.slice none 0 0)), (Vl (.int .i64 0)), (Vl (.slice none 0 0))], 208, none⟩]) rfl) (wt_none' rfl) fun _ => ?_
  refine sx_nil' ?_
  show TX E K3 _
  refine tx_k' hK3 ?_
  refine cx_seq' fun K4 hK4 => ?_
  refine cx_region' ?_
  refine sx_rd' (rd_move' rfl) rfl rfl (wt_none' rfl) ?_
  refine sx_rd' (rd_move' rfl) rfl rfl (wt_none' rfl) ?_
  obtain ⟨r18, hr18, hp⟩ := bind_some hp
  refine sx_ox' (ox_calln' (ent_fn' Try.func102 isn102 rfl rfl) (gogeom_Layout_Stride_sim _ hr18 : Go.Sx.Fn Try.prog 102 [(Vl (.int .i64 a0))] [] (fun x : Unit => (Vl (.int .i64 r18))) (fun x => [])) (Hn := fun x : Unit => [⟨.pointer (some q8), [(Vl (.int .i64 a0)), (Vl (.int .i64 0)), (Vl (.slice none 0 0)), (Vl (.int .i64 0)), (Vl (.slice none 0 0))], 208, none⟩]) (fun _ => rfl) rfl rfl) (wt_none' rfl) fun ⟨⟩ => ?_
  refine sx_rd' (rd_nilck' rfl) rfl rfl (wt_none' rfl) ?_
  refine sx_rd' (rd_field0' rfl Try.underlying208 rfl info206 rfl) rfl rfl (wt_none' rfl) ?_
  refine sx_rd' (rd_field0' rfl Try.underlying206 rfl info204 rfl) rfl rfl (wt_none' rfl) ?_
  refine sx_rd' (rd_field0' rfl Try.underlying204 rfl info202 rfl) rfl rfl (wt_none' rfl) ?_
  refine sx_rd' (rd_field' (off := 1) rfl Try.underlying202 rfl info3 rfl) rfl rfl (wt_none' rfl) ?_
  refine sx_ox' (ox_store' (i := 0) (o := 1) rfl rfl (lv_vl rfl rfl) ⟨rfl, rfl, rfl, rfl⟩ rfl info3 rfl (H' := [⟨.pointer (some q8), [(Vl (.int .i64 a0)), (Vl (.int .i64 r18)), (Vl (.slice none 0 0)), (Vl (.int .i64 0)), (Vl (.slice none 0 0))], 208, none⟩]) rfl) (wt_none' rfl) fun _ => ?_
  refine sx_nil' ?_
  show TX E K4 _
  refine tx_k' hK4 ?_
  refine cx_seq' fun K5 hK5 => ?_
  refine cx_region' ?_
  refine sx_rd' (rd_move' rfl) rfl rfl (wt_none' rfl) ?_
  refine sx_rd' (rd_move' rfl) rfl rfl (wt_none' rfl) ?_
  refine sx_rd' (rd_nilck' rfl) rfl rfl (wt_none' rfl) ?_
  refine sx_rd' (rd_field0' rfl Try.underlying208 rfl info206 rfl) rfl rfl (wt_none' rfl) ?_
  refine sx_rd' (rd_field0' rfl Try.underlying206 rfl info204 rfl) rfl rfl (wt_none' rfl) ?_
  refine sx_rd' (rd_field0' rfl Try.underlying204 rfl info202 rfl) rfl rfl (wt_none' rfl) ?_
  refine sx_rd' (rd_field' (off := 2) rfl Try.underlying202 rfl info22 rfl) rfl rfl (wt_none' rfl) ?_
  refine sx_ox' (ox_store' (i := 0) (o := 2) rfl rfl (lv_vl rfl rfl) ⟨rfl, rfl, rfl, rfl⟩ rfl info22 rfl (H' := [⟨.pointer (some q8), [(Vl (.int .i64 a0)), (Vl (.int .i64 r18)), (Vl (.slice none 0 0)), (Vl (.int .i64 0)), (Vl (.slice none 0 0))], 208, none⟩]) rfl) (wt_none' rfl) fun _ => ?_
  refine sx_nil' ?_
  show TX E K5 _
  refine tx_k' hK5 ?_
  refine cx_seq' fun K6 hK6 => ?_
  refine cx_region' ?_
  refine sx_rd' (rd_move' rfl) rfl rfl (wt_none' rfl) ?_
  refine sx_rd' (rd_move' rfl) rfl rfl (wt_none' rfl) ?_
  refine sx_rd' (rd_nilck' rfl) rfl rfl (wt_none' rfl) ?_
  refine sx_rd' (rd_field0' rfl Try.underlying208 rfl info206 rfl) rfl rfl (wt_none' rfl) ?_
  refine sx_rd' (rd_field' (off := 4) rfl Try.underlying206 rfl info23 rfl) rfl rfl (wt_none' rfl) ?_
  refine sx_ox' (ox_store' (i := 0) (o := 4) rfl rfl (lv_vl rfl rfl) ⟨rfl, rfl, rfl, rfl⟩ rfl info23 rfl (H' := [⟨.pointer (some q8), [(Vl (.int .i64 a0)), (Vl (.int .i64 r18)), (Vl (.slice none 0 0)), (Vl (.int .i64 0)), (Vl (.slice none 0 0))], 208, none⟩]) rfl) (wt_none' rfl) fun _ => ?_
  refine sx_nil' ?_
  show TX E K6 _
  refine tx_k' hK6 ?_
  refine cx_seq' fun K7 hK7 => ?_
  refine cx_region' ?_
  refine sx_rd' (rd_move' rfl) rfl rfl (wt_none' rfl) ?_
  refine sx_rd' (rd_assign' rfl) rfl rfl (wt_none' rfl) ?_
  refine sx_nil' ?_
  show TX E K7 _
  refine tx_k' hK7 ?_
  refine cx_retc' ?_
  replace hp := Option.some.inj hp
  subst hp
  refine tx_pick' (L' := [(6, (Vl (.pointer (some q8))))]) (H' := [⟨.pointer (some q8), [(Vl (.int .i64 a0)), (Vl (.int .i64 r18)), (Vl (.slice none 0 0)), (Vl (.int .i64 0)), (Vl (.slice none 0 0))], 208, none⟩]) [0] (sub_cons rfl sub_nil) (by decide) (pick_cons rfl pick_nil) ?_
  exact tx_ret1' Try.results127 rfl q8 (rv_tmp' rfl) (List.Sublist.refl _)

def gogeom_NewPolygonFlat_v2 (k : Nat) (a0 : Int) (a1 : List Nat) (a2 : List Int) : Option (Int × Int × (List Nat) × Int × (List Int)) :=
  (gogeom_Layout_Stride k a0) >>= fun r18 =>
  some (a0, r18, a1, 0, a2)

theorem gogeom_NewPolygonFlat_v2_sim {k : Nat}  (a0 : Int) (a1 : List Nat) (a2 : List Int) {out : Int × Int × (List Nat) × Int × (List Int)} (hp : gogeom_NewPolygonFlat_v2 k a0 a1 a2 = some out) : Go.Sx.Fn Try.prog 127 [(Vl (.int .i64 a0)), (Sl Kf a1), (Sl (Ki .i64) a2)] [] (fun w : Addr => (Vl (.pointer (some w)))) (fun w => [⟨.pointer (some w), [(Vl (.int .i64 out.1)), (Vl (.int .i64 out.2.1)), (Sl Kf out.2.2.1), (Vl (.int .i64 out.2.2.2.1)), (Sl (Ki .i64) out.2.2.2.2)], 208, none⟩]) := by
  unfold gogeom_NewPolygonFlat_v2 at hp
  refine fn_of Try.func127 rfl Try.ntmps127 rfl fun E hM => ?_
  refine cx_seq' fun K1 hK1 => ?_
  refine cx_region' ?_
  refine sx_rd' (rd_assign' rfl) rfl rfl (wt_none' rfl) ?_
  refine sx_nil' ?_
  show TX E K1 _
  refine tx_k' hK1 ?_
  refine cx_seq' fun K2 hK2 => ?_
  refine cx_region' ?_
  refine sx_ox' (ox_alloc' info208 rfl rfl rfl rfl (l := [(Vl (.int .i64 0)), (Vl (.int .i64 0)), (Vl (.slice none 0 0)), (Vl (.int .i64 0)), (Vl (.slice none 0 0))]) rfl) (wt_none' rfl) fun q8 => ?_
  refine sx_rd' (rd_assign' rfl) rfl rfl (wt_none' rfl) ?_
  refine sx_nil' ?_
  show TX E K2 _
  refine tx_k' hK2 ?_
  refine cx_seq' fun K3 hK3 => ?_
  refine cx_region' ?_
  refine sx_rd' (rd_move' rfl) rfl rfl (wt_none' rfl) ?_
  refine sx_rd' (rd_move' rfl) rfl rfl (wt_none' rfl) ?_
  refine sx_rd' (rd_nilck' rfl) rfl rfl (wt_none' rfl) ?_
  refine sx_rd' (rd_field0' rfl Try.underlying208 rfl info206 rfl) rfl rfl (wt_none' rfl) ?_
  refine sx_rd' (rd_field0' rfl Try.underlying206 rfl info204 rfl) rfl rfl (wt_none' rfl) ?_
  refine sx_rd' (rd_field0' rfl Try.underlying204 rfl info202 rfl) rfl rfl (wt_none' rfl) ?_
  refine sx_rd' (rd_field0' rfl Try.underlying202 rfl info92 rfl) rfl rfl (wt_none' rfl) ?_
  refine sx_ox' (ox_store' (i := 0) (o := 0) rfl rfl (lv_vl rfl rfl) ⟨rfl, rfl, rfl, rfl⟩ rfl info92 rfl (H' := [⟨.pointer (some q8), [(Vl (.int .i64 a0)), (Vl (.int .i64 0)), (Vl (.slice none 0 0)), (Vl (.int .i64 0)), (Vl (.slice none 0 0))], 208, none⟩]) rfl) (wt_none' rfl) fun _ => ?_
  refine sx_nil' ?_
  show TX E K3 _
  refine tx_k' hK3 ?_
  refine cx_seq' fun K4 hK4 => ?_
  refine cx_region' ?_
  refine sx_rd' (rd_move' rfl) rfl rfl (wt_none' rfl) ?_
  refine sx_rd' (rd_move' rfl) rfl rfl (wt_none' rfl) ?_
  obtain ⟨r18, hr18, hp⟩ := bind_some hp
  refine sx_ox' (ox_calln' (ent_fn' Try.func102 isn102 rfl rfl) (gogeom_Layout_Stride_sim _ hr18 : Go.Sx.Fn Try.prog 102 [(Vl (.int .i64 a0))] [] (fun x : Unit => (Vl (.int .i64 r18))) (fun x => [])) (Hn := fun x : Unit => [⟨.pointer (some q8), [(Vl (.int .i64 a0)), (Vl (.int .i64 0)), (Vl (.slice none 0 0)), (Vl (.int .i64 0)), (Vl (.slice none 0 0))], 208, none⟩]) (fun _ => rfl) rfl rfl) (wt_none' rfl) fun ⟨⟩ => ?_
  refine sx_rd' (rd_nilck' rfl) rfl rfl (wt_none' rfl) ?_
  refine sx_rd' (rd_field0' rfl Try.underlying208 rfl info206 rfl) rfl rfl (wt_none' rfl) ?_
  refine sx_rd' (rd_field0' rfl Try.underlying206 rfl info204 rfl) rfl rfl (wt_none' rfl) ?_
  refine sx_rd' (rd_field0' rfl Try.underlying204 rfl info202 rfl) rfl rfl (wt_none' rfl) ?_
  refine sx_rd' (rd_field' (off := 1) rfl Try.underlying202 rfl info3 rfl) rfl rfl (wt_none' rfl) ?_
  refine sx_ox' (ox_store' (i := 0) (o := 1) rfl rfl (lv_vl rfl rfl) ⟨rfl, rfl, rfl, rfl⟩ rfl info3 rfl (H' := [⟨.pointer (some q8), [(Vl (.int .i64 a0)), (Vl (.int .i64 r18)), (Vl (.slice none 0 0)), (Vl (.int .i64 0)), (Vl (.slice none 0 0))], 208, none⟩]) rfl) (wt_none' rfl) fun _ => ?_
  refine sx_nil' ?_
  show TX E K4 _
  refine tx_k' hK4 ?_
  refine cx_seq' fun K5 hK5 => ?_
  refine cx_region' ?_
  refine sx_rd' (rd_move' rfl) rfl rfl (wt_none' rfl) ?_
  refine sx_rd' (rd_move' rfl) rfl rfl (wt_none' rfl) ?_
  refine sx_rd' (rd_nilck' rfl) rfl rfl (wt_none' rfl) ?_
  refine sx_rd' (rd_field0' rfl Try.underlying208 rfl info206 rfl) rfl rfl (wt_none' rfl) ?_
  refine sx_rd' (rd_field0' rfl Try.underlying206 rfl info204 rfl) rfl rfl (wt_none' rfl) ?_
  refine sx_rd' (rd_field0' rfl Try.underlying204 rfl info202 rfl) rfl rfl (wt_none' rfl) ?_
  refine sx_rd' (rd_field' (off := 2) rfl Try.underlying202 rfl info22 rfl) rfl rfl (wt_none' rfl) ?_
  refine sx_ox' (ox_store' (i := 0) (o := 2) rfl rfl (lv_sl _ _) ⟨rfl, rfl, rfl, rfl⟩ rfl info22 rfl (H' := [⟨.pointer (some q8), [(Vl (.int .i64 a0)), (Vl (.int .i64 r18)), (Sl Kf a1), (Vl (.int .i64 0)), (Vl (.slice none 0 0))], 208, none⟩]) rfl) (wt_none' rfl) fun _ => ?_
  refine sx_nil' ?_
  show TX E K5 _
  refine tx_k' hK5 ?_
  refine cx_seq' fun K6 hK6 => ?_
  refine cx_region' ?_
  refine sx_rd' (rd_move' rfl) rfl rfl (wt_none' rfl) ?_
  refine sx_rd' (rd_move' rfl) rfl rfl (wt_none' rfl) ?_
  refine sx_rd' (rd_nilck' rfl) rfl rfl (wt_none' rfl) ?_
  refine sx_rd' (rd_field0' rfl Try.underlying208 rfl info206 rfl) rfl rfl (wt_none' rfl) ?_
  refine sx_rd' (rd_field' (off := 4) rfl Try.underlying206 rfl info23 rfl) rfl rfl (wt_none' rfl) ?_
  refine sx_ox' (ox_store' (i := 0) (o := 4) rfl rfl (lv_sl _ _) ⟨rfl, rfl, rfl, rfl⟩ rfl info23 rfl (H' := [⟨.pointer (some q8), [(Vl (.int .i64 a0)), (Vl (.int .i64 r18)), (Sl Kf a1), (Vl (.int .i64 0)), (Sl (Ki .i64) a2)], 208, none⟩]) rfl) (wt_none' rfl) fun _ => ?_
  refine sx_nil' ?_
  show TX E K6 _
  refine tx_k' hK6 ?_
  refine cx_seq' fun K7 hK7 => ?_
  refine cx_region' ?_
  refine sx_rd' (rd_move' rfl) rfl rfl (wt_none' rfl) ?_
  refine sx_rd' (rd_assign' rfl) rfl rfl (wt_none' rfl) ?_
  refine sx_nil' ?_
  show TX E K7 _
  refine tx_k' hK7 ?_
  refine cx_retc' ?_
  replace hp := Option.some.inj hp
  subst hp
  refine tx_pick' (L' := [(6, (Vl (.pointer (some q8))))]) (H' := [⟨.pointer (some q8), [(Vl (.int .i64 a0)), (Vl (.int .i64 r18)), (Sl Kf a1), (Vl (.int .i64 0)), (Sl (Ki .i64) a2)], 208, none⟩]) [0] (sub_cons rfl sub_nil) (by decide) (pick_cons rfl pick_nil) ?_
  exact tx_ret1' Try.results127 rfl q8 (rv_tmp' rfl) (List.Sublist.refl _)

def gogeom_Bounds_Polygon (k : Nat) (a0_0 : Int) (a0_1 : List Nat) (a0_2 : List Nat) : Option (Int × (List Nat) × (List Nat) × Int × Int × (List Nat) × Int × (List Int)) :=
  (gogeom_Bounds_IsEmpty k a0_0 a0_1 a0_2) >>= fun r9 =>
  br r9.2.2.2
    ((gogeom_NewPolygonFlat k 1) >>= fun r10 =>
    some (r9.1, r9.2.1, r9.2.2.1, r10.1, r10.2.1, [], r10.2.2, []))
    ((idx r9.2.1 0) >>= fun r15 =>
    (idx r9.2.1 1) >>= fun r21 =>
    (idx r9.2.2.1 0) >>= fun r27 =>
    (idx r9.2.2.1 1) >>= fun r33 =>
    (gogeom_NewPolygonFlat_v2 k 1 ([r15, r21, r15, r33, r27, r33, r27, r21, r15, r21]) ([(([r15, r21, r15, r33, r27, r33, r27, r21, r15, r21]).length : Int)])) >>= fun r50 =>
    some (r9.1, r9.2.1, r9.2.2.1, r50.1, r50.2.1, r50.2.2.1, r50.2.2.2.1, r50.2.2.2.2))

theorem gogeom_Bounds_Polygon_sim {k : Nat} {wa0 : Addr} (a0_0 : Int) (a0_1 : List Nat) (a0_2 : List Nat) {out : Int × (List Nat) × (List Nat) × Int × Int × (List Nat) × Int × (List Int)} (hp : gogeom_Bounds_Polygon k a0_0 a0_1 a0_2 = some out) : Go.Sx.Fn Try.prog 95 [(Vl (.pointer (some wa0)))] [⟨.pointer (some wa0), [(Vl (.int .i64 a0_0)), (Sl Kf a0_1), (Sl Kf a0_2)], 153, none⟩] (fun w : Addr => (Vl (.pointer (some w)))) (fun w => [⟨.pointer (some wa0), [(Vl (.int .i64 out.1)), (Sl Kf out.2.1), (Sl Kf out.2.2.1)], 153, none⟩, ⟨.pointer (some w), [(Vl (.int .i64 out.2.2.2.1)), (Vl (.int .i64 out.2.2.2.2.1)), (Sl Kf out.2.2.2.2.2.1), (Vl (.int .i64 out.2.2.2.2.2.2.1)), (Sl (Ki .i64) out.2.2.2.2.2.2.2)], 208, none⟩]) := by
  unfold gogeom_Bounds_Polygon at hp
  refine fn_of Try.func95 rfl Try.ntmps95 rfl fun E hM => ?_
  refine cx_seq' fun K1 hK1 => ?_
  refine cx_region' ?_
  refine sx_rd' (rd_assign' rfl) rfl rfl (wt_none' rfl) ?_
  refine sx_nil' ?_
  show TX E K1 _
  refine tx_k' hK1 ?_
  refine cx_seq' fun K2 hK2 => ?_
  refine cx_seq' fun K3 hK3 => ?_
  refine cx_region' ?_
  refine sx_rd' (rd_move' rfl) rfl rfl (wt_none' rfl) ?_
  obtain ⟨r9, hr9, hp⟩ := bind_some hp
  refine sx_ox' (ox_callg' (ent_fn' Try.func126 isn126 rfl rfl) (gogeom_Bounds_IsEmpty_sim _ _ _ hr9 : Go.Sx.Fn Try.prog 126 [(Vl (.pointer (some wa0)))] [⟨.pointer (some wa0), [(Vl (.int .i64 a0_0)), (Sl Kf a0_1), (Sl Kf a0_2)], 153, none⟩] (fun x : Unit => (Vl (.bool r9.2.2.2))) (fun x => [⟨.pointer (some wa0), [(Vl (.int .i64 r9.1)), (Sl Kf r9.2.1), (Sl Kf r9.2.2.1)], 153, none⟩])) [0] [] (by decide) (pick_cons rfl pick_nil) pick_nil (Hn := fun x : Unit => [⟨.pointer (some wa0), [(Vl (.int .i64 r9.1)), (Sl Kf r9.2.1), (Sl Kf r9.2.2.1)], 153, none⟩]) (fun _ => rfl) rfl rfl) (wt_none' rfl) fun ⟨⟩ => ?_
  refine sx_nil' ?_
  show TX E K3 _
  refine tx_k' hK3 ?_
  refine cx_cond' rfl (fun h1 => ?_) (fun h1 => ?_)
  · replace hp := (br_t h1).symm.trans hp
    refine cx_seq' fun K4 hK4 => ?_
    refine cx_region' ?_
    obtain ⟨r10, hr10, hp⟩ := bind_some hp
    refine sx_ox' (ox_calln' (ent_fn' Try.func127 isn127 rfl rfl) (gogeom_NewPolygonFlat_sim _ hr10 : Go.Sx.Fn Try.prog 127 [(Vl (.int .i64 1)), (Vl (.slice none 0 0)), (Vl (.slice none 0 0))] [] (fun x : Addr => (Vl (.pointer (some x)))) (fun x => [⟨.pointer (some x), [(Vl (.int .i64 r10.1)), (Vl (.int .i64 r10.2.1)), (Vl (.slice none 0 0)), (Vl (.int .i64 r10.2.2)), (Vl (.slice none 0 0))], 208, none⟩])) (Hn := fun x : Addr => [⟨.pointer (some x), [(Vl (.int .i64 r10.1)), (Vl (.int .i64 r10.2.1)), (Vl (.slice none 0 0)), (Vl (.int .i64 r10.2.2)), (Vl (.slice none 0 0))], 208, none⟩, ⟨.pointer (some wa0), [(Vl (.int .i64 r9.1)), (Sl Kf r9.2.1), (Sl Kf r9.2.2.1)], 153, none⟩]) (fun _ => rfl) rfl rfl) (wt_none' rfl) fun q10 => ?_
    refine sx_rd' (rd_assign' rfl) rfl rfl (wt_none' rfl) ?_
    refine sx_nil' ?_
    show TX E K4 _
    refine tx_k' hK4 ?_
    refine cx_retc' ?_
    replace hp := Option.some.inj hp
    subst hp
    refine tx_cell' 0 2 (y := (Sl Kf [])) rfl rfl imp_nil (H' := [⟨.pointer (some q10), [(Vl (.int .i64 r10.1)), (Vl (.int .i64 r10.2.1)), (Sl Kf []), (Vl (.int .i64 r10.2.2)), (Vl (.slice none 0 0))], 208, none⟩, ⟨.pointer (some wa0), [(Vl (.int .i64 r9.1)), (Sl Kf r9.2.1), (Sl Kf r9.2.2.1)], 153, none⟩]) rfl ?_
    refine tx_cell' 0 4 (y := (Sl (Ki .i64) [])) rfl rfl imp_nil (H' := [⟨.pointer (some q10), [(Vl (.int .i64 r10.1)), (Vl (.int .i64 r10.2.1)), (Sl Kf []), (Vl (.int .i64 r10.2.2)), (Sl (Ki .i64) [])], 208, none⟩, ⟨.pointer (some wa0), [(Vl (.int .i64 r9.1)), (Sl Kf r9.2.1), (Sl Kf r9.2.2.1)], 153, none⟩]) rfl ?_
    refine tx_pick' (L' := [(2, (Vl (.pointer (some q10))))]) (H' := [⟨.pointer (some wa0), [(Vl (.int .i64 r9.1)), (Sl Kf r9.2.1), (Sl Kf r9.2.2.1)], 153, none⟩, ⟨.pointer (some q10), [(Vl (.int .i64 r10.1)), (Vl (.int .i64 r10.2.1)), (Sl Kf []), (Vl (.int .i64 r10.2.2)), (Sl (Ki .i64) [])], 208, none⟩]) [1, 0] (sub_cons rfl sub_nil) (by decide) (pick_cons rfl (pick_cons rfl pick_nil)) ?_
    exact tx_ret1' Try.results95 rfl q10 (rv_tmp' rfl) (List.Sublist.refl _)
  · replace hp := (br_f h1).symm.trans hp
    refine cx_skip' ?_
    show TX E K2 _
    refine tx_k' hK2 ?_
    refine cx_seq' fun K5 hK5 => ?_
    refine cx_draw' mixed (by kernel_rfl) ?_
    refine qx_rd' (rd_move' rfl) rfl rfl (wt_none' rfl) ?_
    refine qx_rd' (rd_nilck' rfl) rfl rfl (wt_none' rfl) ?_
    refine qx_rd' (rd_field' (off := 1) rfl Try.underlying153 rfl info140 rfl) rfl rfl (wt_none' rfl) ?_
    refine qx_rd' (rd_load' (i := 0) (o := 1) rfl ⟨rfl, rfl, rfl, rfl⟩ rfl flat140) rfl rfl (wt_none' rfl) ?_
    obtain ⟨r15, hr15, hp⟩ := bind_some hp
    refine qx_rd' (rd_at' (K := Kf) rfl rfl hr15 Try.underlying140 info32) rfl rfl (wt_none' rfl) ?_
    refine qx_rd' (rd_load_pt' rfl rfl flat32) rfl rfl (wt_none' rfl) ?_
    refine qx_rd' (rd_move' rfl) rfl rfl (wt_none' rfl) ?_
    refine qx_rd' (rd_nilck' rfl) rfl rfl (wt_none' rfl) ?_
    refine qx_rd' (rd_field' (off := 1) rfl Try.underlying153 rfl info140 rfl) rfl rfl (wt_none' rfl) ?_
    refine qx_rd' (rd_load' (i := 0) (o := 1) rfl ⟨rfl, rfl, rfl, rfl⟩ rfl flat140) rfl rfl (wt_none' rfl) ?_
    obtain ⟨r21, hr21, hp⟩ := bind_some hp
    refine qx_rd' (rd_at' (K := Kf) rfl rfl hr21 Try.underlying140 info32) rfl rfl (wt_none' rfl) ?_
    refine qx_rd' (rd_load_pt' rfl rfl flat32) rfl rfl (wt_none' rfl) ?_
    refine qx_rd' (rd_assign' rfl) rfl rfl (wt_none' rfl) ?_
    refine qx_rd' (rd_assign' rfl) rfl rfl (wt_none' rfl) ?_
    refine qx_nil' ?_
    show TX E K5 _
    refine tx_k' hK5 ?_
    refine cx_seq' fun K6 hK6 => ?_
    refine cx_draw' mixed (by kernel_rfl) ?_
    refine qx_rd' (rd_move' rfl) rfl rfl (wt_none' rfl) ?_
    refine qx_rd' (rd_nilck' rfl) rfl rfl (wt_none' rfl) ?_
    refine qx_rd' (rd_field' (off := 2) rfl Try.underlying153 rfl info140 rfl) rfl rfl (wt_none' rfl) ?_
    refine qx_rd' (rd_load' (i := 0) (o := 2) rfl ⟨rfl, rfl, rfl, rfl⟩ rfl flat140) rfl rfl (wt_none' rfl) ?_
    obtain ⟨r27, hr27, hp⟩ := bind_some hp
    refine qx_rd' (rd_at' (K := Kf) rfl rfl hr27 Try.underlying140 info32) rfl rfl (wt_none' rfl) ?_
    refine qx_rd' (rd_load_pt' rfl rfl flat32) rfl rfl (wt_none' rfl) ?_
    refine qx_rd' (rd_move' rfl) rfl rfl (wt_none' rfl) ?_
    refine qx_rd' (rd_nilck' rfl) rfl rfl (wt_none' rfl) ?_
    refine qx_rd' (rd_field' (off := 2) rfl Try.underlying153 rfl info140 rfl) rfl rfl (wt_none' rfl) ?_
    refine qx_rd' (rd_load' (i := 0) (o := 2) rfl ⟨rfl, rfl, rfl, rfl⟩ rfl flat140) rfl rfl (wt_none' rfl) ?_
    obtain ⟨r33, hr33, hp⟩ := bind_some hp
    refine qx_rd' (rd_at' (K := Kf) rfl rfl hr33 Try.underlying140 info32) rfl rfl (wt_none' rfl) ?_
    refine qx_rd' (rd_load_pt' rfl rfl flat32) rfl rfl (wt_none' rfl) ?_
    refine qx_rd' (rd_assign' rfl) rfl rfl (wt_none' rfl) ?_
    refine qx_rd' (rd_assign' rfl) rfl rfl (wt_none' rfl) ?_
    refine qx_nil' ?_
    show TX E K6 _
    refine tx_k' hK6 ?_
    refine cx_seq' fun K7 hK7 => ?_
    refine cx_region' ?_
    refine sx_rd' (rd_move' rfl) rfl rfl (wt_none' rfl) ?_
    refine sx_rd' (rd_move' rfl) rfl rfl (wt_none' rfl) ?_
    refine sx_rd' (rd_move' rfl) rfl rfl (wt_none' rfl) ?_
    refine sx_rd' (rd_move' rfl) rfl rfl (wt_none' rfl) ?_
    refine sx_rd' (rd_move' rfl) rfl rfl (wt_none' rfl) ?_
    refine sx_rd' (rd_move' rfl) rfl rfl (wt_none' rfl) ?_
    refine sx_rd' (rd_move' rfl) rfl rfl (wt_none' rfl) ?_
    refine sx_rd' (rd_move' rfl) rfl rfl (wt_none' rfl) ?_
    refine sx_rd' (rd_move' rfl) rfl rfl (wt_none' rfl) ?_
    refine sx_rd' (rd_move' rfl) rfl rfl (wt_none' rfl) ?_
    refine sx_ox' (ox_rowlit' (K := Kf) (xs := [r15, r21, r15, r33, r27, r33, r27, r21, r15, r21]) (qs := [(0, [(Vl (.float .f64 r15))]), (1, [(Vl (.float .f64 r21))]), (2, [(Vl (.float .f64 r15))]), (3, [(Vl (.float .f64 r33))]), (4, [(Vl (.float .f64 r27))]), (5, [(Vl (.float .f64 r33))]), (6, [(Vl (.float .f64 r27))]), (7, [(Vl (.float .f64 r21))]), (8, [(Vl (.float .f64 r15))]), (9, [(Vl (.float .f64 r21))])]) ⟨rfl, ⟨_, rfl, (lv_vl rfl rfl)⟩, ⟨rfl, ⟨_, rfl, (lv_vl rfl rfl)⟩, ⟨rfl, ⟨_, rfl, (lv_vl rfl rfl)⟩, ⟨rfl, ⟨_, rfl, (lv_vl rfl rfl)⟩, ⟨rfl, ⟨_, rfl, (lv_vl rfl rfl)⟩, ⟨rfl, ⟨_, rfl, (lv_vl rfl rfl)⟩, ⟨rfl, ⟨_, rfl, (lv_vl rfl rfl)⟩, ⟨rfl, ⟨_, rfl, (lv_vl rfl rfl)⟩, ⟨rfl, ⟨_, rfl, (lv_vl rfl rfl)⟩, ⟨rfl, ⟨_, rfl, (lv_vl rfl rfl)⟩, trivial⟩⟩⟩⟩⟩⟩⟩⟩⟩⟩ Try.underlying22 info32 rfl rfl rfl rfl rfl (by kernel_rfl) rfl rfl rfl) (wt_none' rfl) fun g45 => ?_
    refine sx_rd' (rd_assign' rfl) rfl rfl (wt_none' rfl) ?_
    refine sx_nil' ?_
    show TX E K7 _
    refine tx_k' hK7 ?_
    refine cx_seq' fun K8 hK8 => ?_
    refine cx_region' ?_
    refine sx_rd' (rd_move' rfl) rfl rfl (wt_none' rfl) ?_
    refine sx_rd' (rd_move' rfl) rfl rfl (wt_none' rfl) ?_
    refine sx_rd' (rd_lenr' (i := 0) rfl rfl rfl Try.underlying22) rfl rfl (wt_none' rfl) ?_
    refine sx_ox' (ox_rowlit' (K := (Ki .i64)) (xs := [(([r15, r21, r15, r33, r27, r33, r27, r21, r15, r21]).length : Int)]) (qs := [(0, [(Vl (.int .i64 (([r15, r21, r15, r33, r27, r33, r27, r21, r15, r21]).length : Int)))])]) ⟨rfl, ⟨_, rfl, (lv_vl rfl rfl)⟩, trivial⟩ Try.underlying23 info3 rfl rfl rfl rfl rfl (by kernel_rfl) rfl rfl rfl) (wt_none' rfl) fun g49 => ?_
    refine tx_fz' (frz_comp (frz_row 1 [(45, (Vl (Vs g45)), (Sl Kf ([r15, r21, r15, r33, r27, r33, r27, r21, r15, r21]))), (7, (Vl (Vs g45)), (Sl Kf ([r15, r21, r15, r33, r27, r33, r27, r21, r15, r21]))), (46, (Vl (Vs g45)), (Sl Kf ([r15, r21, r15, r33, r27, r33, r27, r21, r15, r21]))), (47, (Vl (Vs g45)), (Sl Kf ([r15, r21, r15, r33, r27, r33, r27, r21, r15, r21])))] (K := Kf) (xs := [r15, r21, r15, r33, r27, r33, r27, r21, r15, r21]) (by decide) rfl ⟨⟨rfl, frz_it⟩, ⟨rfl, frz_it⟩, ⟨rfl, frz_it⟩, ⟨rfl, frz_it⟩, trivial⟩ (H' := [(Rw (Ki .i64) 3 (Vs g49) ([(([r15, r21, r15, r33, r27, r33, r27, r21, r15, r21]).length : Int)])), ⟨.pointer (some wa0), [(Vl (.int .i64 r9.1)), (Sl Kf r9.2.1), (Sl Kf r9.2.2.1)], 153, none⟩]) frzH_refl) (frz_row 0 [(49, (Vl (Vs g49)), (Sl (Ki .i64) ([(([r15, r21, r15, r33, r27, r33, r27, r21, r15, r21]).length : Int)])))] (K := (Ki .i64)) (xs := [(([r15, r21, r15, r33, r27, r33, r27, r21, r15, r21]).length : Int)]) (by decide) rfl ⟨⟨rfl, frz_it⟩, trivial⟩ (H' := [⟨.pointer (some wa0), [(Vl (.int .i64 r9.1)), (Sl Kf r9.2.1), (Sl Kf r9.2.2.1)], 153, none⟩]) frzH_refl)) ?_
    obtain ⟨r50, hr50, hp⟩ := bind_some hp
    refine sx_ox' (ox_calln' (ent_fn' Try.func127 isn127 rfl rfl) (gogeom_NewPolygonFlat_v2_sim _ _ _ hr50 : Go.Sx.Fn Try.prog 127 [(Vl (.int .i64 1)), (Sl Kf ([r15, r21, r15, r33, r27, r33, r27, r21, r15, r21])), (Sl (Ki .i64) ([(([r15, r21, r15, r33, r27, r33, r27, r21, r15, r21]).length : Int)]))] [] (fun x : Addr => (Vl (.pointer (some x)))) (fun x => [⟨.pointer (some x), [(Vl (.int .i64 r50.1)), (Vl (.int .i64 r50.2.1)), (Sl Kf r50.2.2.1), (Vl (.int .i64 r50.2.2.2.1)), (Sl (Ki .i64) r50.2.2.2.2)], 208, none⟩])) (Hn := fun x : Addr => [⟨.pointer (some x), [(Vl (.int .i64 r50.1)), (Vl (.int .i64 r50.2.1)), (Sl Kf r50.2.2.1), (Vl (.int .i64 r50.2.2.2.1)), (Sl (Ki .i64) r50.2.2.2.2)], 208, none⟩, ⟨.pointer (some wa0), [(Vl (.int .i64 r9.1)), (Sl Kf r9.2.1), (Sl Kf r9.2.2.1)], 153, none⟩]) (fun _ => rfl) rfl rfl) (wt_none' rfl) fun q50 => ?_
    refine sx_rd' (rd_assign' rfl) rfl rfl (wt_none' rfl) ?_
    refine sx_nil' ?_
    show TX E K8 _
    refine tx_k' hK8 ?_
    refine cx_retc' ?_
    replace hp := Option.some.inj hp
    subst hp
    refine tx_pick' (L' := [(2, (Vl (.pointer (some q50))))]) (H' := [⟨.pointer (some wa0), [(Vl (.int .i64 r9.1)), (Sl Kf r9.2.1), (Sl Kf r9.2.2.1)], 153, none⟩, ⟨.pointer (some q50), [(Vl (.int .i64 r50.1)), (Vl (.int .i64 r50.2.1)), (Sl Kf r50.2.2.1), (Vl (.int .i64 r50.2.2.2.1)), (Sl (Ki .i64) r50.2.2.2.2)], 208, none⟩]) [1, 0] (sub_cons rfl sub_nil) (by decide) (pick_cons rfl (pick_cons rfl pick_nil)) ?_
    exact tx_ret1' Try.results95 rfl q50 (rv_tmp' rfl) (List.Sublist.refl _)

def gogeom_geom0_SRID (k : Nat) (a0_0 : Int) (a0_1 : Int) (a0_2 : List Nat) (a0_3 : Int) (a0_4 : List Int) : Option (Int × Int × (List Nat) × Int × (List Int)) :=
  some (a0_0, a0_1, a0_2, a0_3, a0_4)

theorem gogeom_geom0_SRID_sim {k : Nat} {wa0 : Addr} (a0_0 : Int) (a0_1 : Int) (a0_2 : List Nat) (a0_3 : Int) (a0_4 : List Int) {out : Int × Int × (List Nat) × Int × (List Int)} (hp : gogeom_geom0_SRID k a0_0 a0_1 a0_2 a0_3 a0_4 = some out) : Go.Sx.Fn Try.prog 186 [(Vl (.pointer (some wa0)))] [⟨.pointer (some wa0), [(Vl (.int .i64 a0_0)), (Vl (.int .i64 a0_1)), (Sl Kf a0_2), (Vl (.int .i64 a0_3)), (Sl (Ki .i64) a0_4)], 208, none⟩] (fun w : Unit => (Vl (.int .i64 out.2.2.2.1))) (fun w => [⟨.pointer (some wa0), [(Vl (.int .i64 out.1)), (Vl (.int .i64 out.2.1)), (Sl Kf out.2.2.1), (Vl (.int .i64 out.2.2.2.1)), (Sl (Ki .i64) out.2.2.2.2)], 208, none⟩]) := by
  unfold gogeom_geom0_SRID at hp
  refine fn_of Try.func186 rfl Try.ntmps186 rfl fun E hM => ?_
  refine cx_seq' fun K1 hK1 => ?_
  refine cx_region' ?_
  refine sx_rd' (rd_assign' rfl) rfl rfl (wt_none' rfl) ?_
  refine sx_nil' ?_
  show TX E K1 _
  refine tx_k' hK1 ?_
  refine cx_seq' fun K2 hK2 => ?_
  refine cx_region' ?_
  refine sx_rd' (rd_move' rfl) rfl rfl (wt_none' rfl) ?_
  refine sx_rd' (rd_nilck' rfl) rfl rfl (wt_none' rfl) ?_
  refine sx_rd' (rd_field' (off := 3) rfl Try.underlying202 rfl info3 rfl) rfl rfl (wt_none' rfl) ?_
  refine sx_rd' (rd_load' (i := 0) (o := 3) rfl ⟨rfl, rfl, rfl, rfl⟩ rfl flat3) rfl rfl (wt_none' rfl) ?_
  refine sx_rd' (rd_assign' rfl) rfl rfl (wt_none' rfl) ?_
  refine sx_nil' ?_
  show TX E K2 _
  refine tx_k' hK2 ?_
  refine cx_retc' ?_
  replace hp := Option.some.inj hp
  subst hp
  refine tx_pick' (L' := [(2, (Vl (.int .i64 a0_3)))]) (H' := [⟨.pointer (some wa0), [(Vl (.int .i64 a0_0)), (Vl (.int .i64 a0_1)), (Sl Kf a0_2), (Vl (.int .i64 a0_3)), (Sl (Ki .i64) a0_4)], 208, none⟩]) [0] (sub_cons rfl sub_nil) (by decide) (pick_cons rfl pick_nil) ?_
  exact tx_ret1' Try.results186 rfl () (rv_tmp' rfl) (List.Sublist.refl _)

def gogeom_geom0_Layout (k : Nat) (a0_0 : Int) (a0_1 : Int) (a0_2 : List Nat) (a0_3 : Int) (a0_4 : List Int) : Option (Int × Int × (List Nat) × Int × (List Int)) :=
  some (a0_0, a0_1, a0_2, a0_3, a0_4)

theorem gogeom_geom0_Layout_sim {k : Nat} {wa0 : Addr} (a0_0 : Int) (a0_1 : Int) (a0_2 : List Nat) (a0_3 : Int) (a0_4 : List Int) {out : Int × Int × (List Nat) × Int × (List Int)} (hp : gogeom_geom0_Layout k a0_0 a0_1 a0_2 a0_3 a0_4 = some out) : Go.Sx.Fn Try.prog 184 [(Vl (.pointer (some wa0)))] [⟨.pointer (some wa0), [(Vl (.int .i64 a0_0)), (Vl (.int .i64 a0_1)), (Sl Kf a0_2), (Vl (.int .i64 a0_3)), (Sl (Ki .i64) a0_4)], 208, none⟩] (fun w : Unit => (Vl (.int .i64 out.1))) (fun w => [⟨.pointer (some wa0), [(Vl (.int .i64 out.1)), (Vl (.int .i64 out.2.1)), (Sl Kf out.2.2.1), (Vl (.int .i64 out.2.2.2.1)), (Sl (Ki .i64) out.2.2.2.2)], 208, none⟩]) := by
  unfold gogeom_geom0_Layout at hp
  refine fn_of Try.func184 rfl Try.ntmps184 rfl fun E hM => ?_
  refine cx_seq' fun K1 hK1 => ?_
  refine cx_region' ?_
  refine sx_rd' (rd_assign' rfl) rfl rfl (wt_none' rfl) ?_
  refine sx_nil' ?_
  show TX E K1 _
  refine tx_k' hK1 ?_
  refine cx_seq' fun K2 hK2 => ?_
  refine cx_region' ?_
  refine sx_rd' (rd_move' rfl) rfl rfl (wt_none' rfl) ?_
  refine sx_rd' (rd_nilck' rfl) rfl rfl (wt_none' rfl) ?_
  refine sx_rd' (rd_field0' rfl Try.underlying202 rfl info92 rfl) rfl rfl (wt_none' rfl) ?_
  refine sx_rd' (rd_load' (i := 0) (o := 0) rfl ⟨rfl, rfl, rfl, rfl⟩ rfl flat92) rfl rfl (wt_none' rfl) ?_
  refine sx_rd' (rd_assign' rfl) rfl rfl (wt_none' rfl) ?_
  refine sx_nil' ?_
  show TX E K2 _
  refine tx_k' hK2 ?_
  refine cx_retc' ?_
  replace hp := Option.some.inj hp
  subst hp
  refine tx_pick' (L' := [(2, (Vl (.int .i64 a0_0)))]) (H' := [⟨.pointer (some wa0), [(Vl (.int .i64 a0_0)), (Vl (.int .i64 a0_1)), (Sl Kf a0_2), (Vl (.int .i64 a0_3)), (Sl (Ki .i64) a0_4)], 208, none⟩]) [0] (sub_cons rfl sub_nil) (by decide) (pick_cons rfl pick_nil) ?_
  exact tx_ret1' Try.results184 rfl () (rv_tmp' rfl) (List.Sublist.refl _)

def gogeom_geom0_FlatCoords (k : Nat) (a0_0 : Int) (a0_1 : Int) (a0_2 : List Nat) (a0_3 : Int) (a0_4 : List Int) : Option (Int × Int × (List Nat) × Int × (List Int)) :=
  some (a0_0, a0_1, a0_2, a0_3, a0_4)

theorem gogeom_geom0_FlatCoords_sim {k : Nat} {wa0 : Addr} (a0_0 : Int) (a0_1 : Int) (a0_2 : List Nat) (a0_3 : Int) (a0_4 : List Int) {out : Int × Int × (List Nat) × Int × (List Int)} (hp : gogeom_geom0_FlatCoords k a0_0 a0_1 a0_2 a0_3 a0_4 = some out) : Go.Sx.Fn Try.prog 183 [(Vl (.pointer (some wa0)))] [⟨.pointer (some wa0), [(Vl (.int .i64 a0_0)), (Vl (.int .i64 a0_1)), (Sl Kf a0_2), (Vl (.int .i64 a0_3)), (Sl (Ki .i64) a0_4)], 208, none⟩] (fun w : Unit => (Sl Kf out.2.2.1)) (fun w => [⟨.pointer (some wa0), [(Vl (.int .i64 out.1)), (Vl (.int .i64 out.2.1)), (Sl Kf out.2.2.1), (Vl (.int .i64 out.2.2.2.1)), (Sl (Ki .i64) out.2.2.2.2)], 208, none⟩]) := by
  unfold gogeom_geom0_FlatCoords at hp
  refine fn_of Try.func183 rfl Try.ntmps183 rfl fun E hM => ?_
  refine cx_seq' fun K1 hK1 => ?_
  refine cx_region' ?_
  refine sx_rd' (rd_assign' rfl) rfl rfl (wt_none' rfl) ?_
  refine sx_nil' ?_
  show TX E K1 _
  refine tx_k' hK1 ?_
  refine cx_seq' fun K2 hK2 => ?_
  refine cx_region' ?_
  refine sx_rd' (rd_move' rfl) rfl rfl (wt_none' rfl) ?_
  refine sx_rd' (rd_nilck' rfl) rfl rfl (wt_none' rfl) ?_
  refine sx_rd' (rd_field' (off := 2) rfl Try.underlying202 rfl info22 rfl) rfl rfl (wt_none' rfl) ?_
  refine sx_rd' (rd_load' (i := 0) (o := 2) rfl ⟨rfl, rfl, rfl, rfl⟩ rfl flat22) rfl rfl (wt_none' rfl) ?_
  refine sx_rd' (rd_assign' rfl) rfl rfl (wt_none' rfl) ?_
  refine sx_nil' ?_
  show TX E K2 _
  refine tx_k' hK2 ?_
  refine cx_retc' ?_
  replace hp := Option.some.inj hp
  subst hp
  refine tx_pick' (L' := [(2, (Sl Kf a0_2))]) (H' := [⟨.pointer (some wa0), [(Vl (.int .i64 a0_0)), (Vl (.int .i64 a0_1)), (Sl Kf a0_2), (Vl (.int .i64 a0_3)), (Sl (Ki .i64) a0_4)], 208, none⟩]) [0] (sub_cons rfl sub_nil) (by decide) (pick_cons rfl pick_nil) ?_
  exact tx_ret1' Try.results183 rfl () (rv_tmp' rfl) (List.Sublist.refl _)

def gogeom_geom2_Ends (k : Nat) (a0_0 : Int) (a0_1 : Int) (a0_2 : List Nat) (a0_3 : Int) (a0_4 : List Int) : Option (Int × Int × (List Nat) × Int × (List Int)) :=
  some (a0_0, a0_1, a0_2, a0_3, a0_4)

theorem gogeom_geom2_Ends_sim {k : Nat} {wa0 : Addr} (a0_0 : Int) (a0_1 : Int) (a0_2 : List Nat) (a0_3 : Int) (a0_4 : List Int) {out : Int × Int × (List Nat) × Int × (List Int)} (hp : gogeom_geom2_Ends k a0_0 a0_1 a0_2 a0_3 a0_4 = some out) : Go.Sx.Fn Try.prog 181 [(Vl (.pointer (some wa0)))] [⟨.pointer (some wa0), [(Vl (.int .i64 a0_0)), (Vl (.int .i64 a0_1)), (Sl Kf a0_2), (Vl (.int .i64 a0_3)), (Sl (Ki .i64) a0_4)], 208, none⟩] (fun w : Unit => (Sl (Ki .i64) out.2.2.2.2)) (fun w => [⟨.pointer (some wa0), [(Vl (.int .i64 out.1)), (Vl (.int .i64 out.2.1)), (Sl Kf out.2.2.1), (Vl (.int .i64 out.2.2.2.1)), (Sl (Ki .i64) out.2.2.2.2)], 208, none⟩]) := by
  unfold gogeom_geom2_Ends at hp
  refine fn_of Try.func181 rfl Try.ntmps181 rfl fun E hM => ?_
  refine cx_seq' fun K1 hK1 => ?_
  refine cx_region' ?_
  refine sx_rd' (rd_assign' rfl) rfl rfl (wt_none' rfl) ?_
  refine sx_nil' ?_
  show TX E K1 _
  refine tx_k' hK1 ?_
  refine cx_seq' fun K2 hK2 => ?_
  refine cx_region' ?_
  refine sx_rd' (rd_move' rfl) rfl rfl (wt_none' rfl) ?_
  refine sx_rd' (rd_nilck' rfl) rfl rfl (wt_none' rfl) ?_
  refine sx_rd' (rd_field' (off := 4) rfl Try.underlying206 rfl info23 rfl) rfl rfl (wt_none' rfl) ?_
  refine sx_rd' (rd_load' (i := 0) (o := 4) rfl ⟨rfl, rfl, rfl, rfl⟩ rfl flat23) rfl rfl (wt_none' rfl) ?_
  refine sx_rd' (rd_assign' rfl) rfl rfl (wt_none' rfl) ?_
  refine sx_nil' ?_
  show TX E K2 _
  refine tx_k' hK2 ?_
  refine cx_retc' ?_
  replace hp := Option.some.inj hp
  subst hp
  refine tx_pick' (L' := [(2, (Sl (Ki .i64) a0_4))]) (H' := [⟨.pointer (some wa0), [(Vl (.int .i64 a0_0)), (Vl (.int .i64 a0_1)), (Sl Kf a0_2), (Vl (.int .i64 a0_3)), (Sl (Ki .i64) a0_4)], 208, none⟩]) [0] (sub_cons rfl sub_nil) (by decide) (pick_cons rfl pick_nil) ?_
  exact tx_ret1' Try.results181 rfl () (rv_tmp' rfl) (List.Sublist.refl _)

def impl_ints (k : Nat) (a0 : List Int) : Option ((List Int)) :=
  (apd 8 [] a0) >>= fun r4 =>
  some r4

theorem impl_ints_sim {k : Nat}  (a0 : List Int) {out : (List Int)} (hp : impl_ints k a0 = some out) : Go.Sx.Fn Try.prog 68 [(Sl (Ki .i64) a0)] [] (fun w : Unit => (Sl (Ki .i64) out)) (fun w => []) := by
  unfold impl_ints at hp
  refine fn_of Try.func68 rfl Try.ntmps68 rfl fun E hM => ?_
  refine cx_seq' fun K1 hK1 => ?_
  refine cx_region' ?_
  refine sx_rd' (rd_assign' rfl) rfl rfl (wt_none' rfl) ?_
  refine sx_nil' ?_
  show TX E K1 _
  refine tx_k' hK1 ?_
  refine cx_seq' fun K2 hK2 => ?_
  refine cx_region' ?_
  refine sx_rd' (rd_move' rfl) rfl rfl (wt_none' rfl) ?_
  refine tx_nilrow' (Ki .i64) 3 ?_
  obtain ⟨r4, hr4, hp⟩ := bind_some hp
  refine sx_ox' (ox_append' (K := (Ki .i64)) (i := 0) (xs := []) (ys := a0) rfl rfl rfl (sr_sl' rfl Try.underlying23) hr4 Try.underlying23 info3 rfl rfl rfl (H' := []) rfl) (wt_none' rfl) fun g4 => ?_
  refine sx_rd' (rd_assign' rfl) rfl rfl (wt_none' rfl) ?_
  refine sx_nil' ?_
  show TX E K2 _
  refine tx_k' hK2 ?_
  refine cx_retc' ?_
  replace hp := Option.some.inj hp
  subst hp
  refine tx_fz' (frz_row 0 [(2, (Vl (Vs g4)), (Sl (Ki .i64) r4)), (4, (Vl (Vs g4)), (Sl (Ki .i64) r4))] (K := (Ki .i64)) (xs := r4) (by decide) rfl ⟨⟨rfl, frz_it⟩, ⟨rfl, frz_it⟩, trivial⟩ (H' := []) frzH_refl) ?_
  refine tx_pick' (L' := [(2, (Sl (Ki .i64) r4))]) (H' := []) [] (sub_cons rfl sub_nil) (by decide) pick_nil ?_
  exact tx_ret1' Try.results68 rfl () (rv_tmp' rfl) (List.Sublist.refl _)

def gogeom_geom0_Endss (k : Nat) (a0_0 : Int) (a0_1 : Int) (a0_2 : List Nat) (a0_3 : Int) (a0_4 : List Int) : Option (Int × Int × (List Nat) × Int × (List Int)) :=
  some (a0_0, a0_1, a0_2, a0_3, a0_4)

theorem gogeom_geom0_Endss_sim {k : Nat} {wa0 : Addr} (a0_0 : Int) (a0_1 : Int) (a0_2 : List Nat) (a0_3 : Int) (a0_4 : List Int) {out : Int × Int × (List Nat) × Int × (List Int)} (hp : gogeom_geom0_Endss k a0_0 a0_1 a0_2 a0_3 a0_4 = some out) : Go.Sx.Fn Try.prog 182 [(Vl (.pointer (some wa0)))] [⟨.pointer (some wa0), [(Vl (.int .i64 a0_0)), (Vl (.int .i64 a0_1)), (Sl Kf a0_2), (Vl (.int .i64 a0_3)), (Sl (Ki .i64) a0_4)], 208, none⟩] (fun w : Unit => (Vl (.slice none 0 0))) (fun w => [⟨.pointer (some wa0), [(Vl (.int .i64 out.1)), (Vl (.int .i64 out.2.1)), (Sl Kf out.2.2.1), (Vl (.int .i64 out.2.2.2.1)), (Sl (Ki .i64) out.2.2.2.2)], 208, none⟩]) := by
  unfold gogeom_geom0_Endss at hp
  refine fn_of Try.func182 rfl Try.ntmps182 rfl fun E hM => ?_
  refine cx_seq' fun K1 hK1 => ?_
  refine cx_region' ?_
  refine sx_rd' (rd_assign' rfl) rfl rfl (wt_none' rfl) ?_
  refine sx_nil' ?_
  show TX E K1 _
  refine tx_k' hK1 ?_
  refine cx_seq' fun K2 hK2 => ?_
  refine cx_region' ?_
  refine sx_rd' (rd_assign' rfl) rfl rfl (wt_none' rfl) ?_
  refine sx_nil' ?_
  show TX E K2 _
  refine tx_k' hK2 ?_
  refine cx_retc' ?_
  replace hp := Option.some.inj hp
  subst hp
  refine tx_pick' (L' := [(2, (Vl (.slice none 0 0)))]) (H' := [⟨.pointer (some wa0), [(Vl (.int .i64 a0_0)), (Vl (.int .i64 a0_1)), (Sl Kf a0_2), (Vl (.int .i64 a0_3)), (Sl (Ki .i64) a0_4)], 208, none⟩]) [0] (sub_cons rfl sub_nil) (by decide) (pick_cons rfl pick_nil) ?_
  exact tx_ret1' Try.results182 rfl () (rv_tmp' rfl) (List.Sublist.refl _)

def impl_intss_l1s  (k : Nat) (rec1 : Unit → Option (Unit))  : Option (Unit) :=
  some ()
def impl_intss_l1  : Nat → Unit → Option (Unit)
  | 0, _ => none
  | k + 1, v => impl_intss_l1s k (impl_intss_l1 k) 
def impl_intss (k : Nat)  : Option (Unit) :=
  (impl_intss_l1 k ()) >>= fun v2 =>
  some ()

theorem impl_intss_sim {k : Nat}   {out : Unit} (hp : impl_intss k = some out) : Go.Sx.Fn Try.prog 92 [(Vl (.slice none 0 0))] [] (fun w : Unit => (Vl (.slice none 0 0))) (fun w => []) := by
  unfold impl_intss at hp
  refine fn_of Try.func92 rfl Try.ntmps92 rfl fun E hM => ?_
  refine cx_seq' fun K1 hK1 => ?_
  refine cx_region' ?_
  refine sx_rd' (rd_assign' rfl) rfl rfl (wt_none' rfl) ?_
  refine sx_nil' ?_
  show TX E K1 _
  refine tx_k' hK1 ?_
  refine cx_seq' fun K2 hK2 => ?_
  refine cx_region' ?_
  refine sx_rd' (rd_assign' rfl) rfl rfl (wt_none' rfl) ?_
  refine sx_nil' ?_
  show TX E K2 _
  refine tx_k' hK2 ?_
  refine cx_seq' fun K3 hK3 => ?_
  refine cx_seq' fun K4 hK4 => ?_
  refine cx_region' ?_
  refine sx_rd' (rd_move' rfl) rfl rfl (wt_none' rfl) ?_
  refine sx_rd' (rd_lenv' rfl Try.underlying24) rfl rfl (wt_none' rfl) ?_
  refine sx_rd' (rd_move' rfl) rfl rfl (wt_none' rfl) ?_
  refine sx_nil' ?_
  show TX E K4 _
  refine tx_k' hK4 ?_
  refine cx_block' ?_
  obtain ⟨v2, hy1, hp⟩ := bind_some hp
  refine cx_loopg' (F := impl_intss_l1) (G := fun k R v => impl_intss_l1s k R ) (x := ()) (gh := ()) (fun (v1 : Unit) (w1 : Unit) => (⟨19, [], [(3, (Vl (.slice none 0 0))), (6, (Vl (.slice none 0 0))), (7, (Vl (.int .i64 ((0 : Nat) : Int)))), (8, (Vl (.int .i64 0)))], []⟩ : St)) (fun (v2 : Unit) => Zg E (Exit.exit 0) (fun (w2 : Unit) => (⟨19, [], [(3, (Vl (.slice none 0 0)))], []⟩ : St))) (fun _ => rfl) (fun _ _ => rfl) ?_ hy1 (tx_to' rfl [] (sub_cons rfl (sub_cons rfl (sub_cons rfl (sub_cons rfl sub_nil)))) (by decide) pick_nil) ?_
  · clear hp hy1
    clear v2
    intro k rec1 KY1 ih1
    rintro ⟨⟩ ⟨⟩ y1 hp
    replace hp : impl_intss_l1s k rec1  = some y1 := hp
    unfold impl_intss_l1s at hp
    refine cx_seq' fun K5 hK5 => ?_
    refine cx_region' ?_
    refine sx_rd' (rd_bin' rfl rfl eg_int ru_lss) rfl rfl (wt_none' rfl) ?_
    refine sx_nil' ?_
    show TX E K5 _
    refine tx_k' hK5 ?_
    refine cx_seq' fun K6 hK6 => ?_
    refine cx_cond_f' rfl rfl ?_
    refine cx_exit' ?_
    replace hp := Option.some.inj hp
    subst hp
    show TX E (Zg E (Exit.exit 0) _ (Exit.exit 0)) _
    exact tx_zend' () rfl [] (sub_cons rfl sub_nil) (by decide) pick_nil
  · refine zg_out fun w2 => ?_
    show TX E K3 _
    refine tx_k' hK3 ?_
    refine cx_seq' fun K7 hK7 => ?_
    refine cx_region' ?_
    refine sx_rd' (rd_move' rfl) rfl rfl (wt_none' rfl) ?_
    refine sx_rd' (rd_assign' rfl) rfl rfl (wt_none' rfl) ?_
    refine sx_nil' ?_
    show TX E K7 _
    refine tx_k' hK7 ?_
    refine cx_retc' ?_
    replace hp := Option.some.inj hp
    subst hp
    refine tx_pick' (L' := [(2, (Vl (.slice none 0 0)))]) (H' := []) [] (sub_cons rfl sub_nil) (by decide) pick_nil ?_
    exact tx_ret1' Try.results92 rfl () (rv_tmp' rfl) (List.Sublist.refl _)

def impl_plain (k : Nat) (a0_0 : Int) (a0_1 : Int) (a0_2 : List Nat) (a0_3 : Int) (a0_4 : List Int) : Option (Int × Int × (List Nat) × Int × (List Int) × Int × Int × Int × (List Nat) × (List Int)) :=
  (gogeom_geom0_SRID k a0_0 a0_1 a0_2 a0_3 a0_4) >>= fun r15 =>
  (gogeom_geom0_Layout k r15.1 r15.2.1 r15.2.2.1 r15.2.2.2.1 r15.2.2.2.2) >>= fun r70 =>
  (gogeom_geom0_FlatCoords k r70.1 r70.2.1 r70.2.2.1 r70.2.2.2.1 r70.2.2.2.2) >>= fun r72 =>
  (impl_floats k r72.2.2.1) >>= fun r73 =>
  (gogeom_geom2_Ends k r72.1 r72.2.1 r72.2.2.1 r72.2.2.2.1 r72.2.2.2.2) >>= fun r75 =>
  (impl_ints k r75.2.2.2.2) >>= fun r76 =>
  (gogeom_geom0_Endss k r75.1 r75.2.1 r75.2.2.1 r75.2.2.2.1 r75.2.2.2.2) >>= fun r78 =>
  (impl_intss k) >>= fun r79 =>
  some (r78.1, r78.2.1, r78.2.2.1, r78.2.2.2.1, r78.2.2.2.2, 3, r70.1, r15.2.2.2.1, r73, r76)

theorem impl_plain_sim {k : Nat} {wa0 : Addr} (a0_0 : Int) (a0_1 : Int) (a0_2 : List Nat) (a0_3 : Int) (a0_4 : List Int) {out : Int × Int × (List Nat) × Int × (List Int) × Int × Int × Int × (List Nat) × (List Int)} (hp : impl_plain k a0_0 a0_1 a0_2 a0_3 a0_4 = some out) : Go.Sx.Fn Try.prog 94 [(If 132 (Vl (.pointer (some wa0))))] [⟨.pointer (some wa0), [(Vl (.int .i64 a0_0)), (Vl (.int .i64 a0_1)), (Sl Kf a0_2), (Vl (.int .i64 a0_3)), (Sl (Ki .i64) a0_4)], 208, none⟩] (fun w : Unit => (Ag [(Vl (.int .i64 out.2.2.2.2.2.1)), (Vl (.int .i64 out.2.2.2.2.2.2.1)), (Vl (.int .i64 out.2.2.2.2.2.2.2.1)), (Sl Kf out.2.2.2.2.2.2.2.2.1), (Sl (Ki .i64) out.2.2.2.2.2.2.2.2.2), (Vl (.slice none 0 0)), (Vl (.slice none 0 0))])) (fun w => [⟨.pointer (some wa0), [(Vl (.int .i64 out.1)), (Vl (.int .i64 out.2.1)), (Sl Kf out.2.2.1), (Vl (.int .i64 out.2.2.2.1)), (Sl (Ki .i64) out.2.2.2.2.1)], 208, none⟩]) := by
  unfold impl_plain at hp
  refine fn_of Try.func94 rfl Try.ntmps94 rfl fun E hM => ?_
  refine cx_seq' fun K1 hK1 => ?_
  refine cx_region' ?_
  refine sx_ox' (ox_alloc' info27 rfl rfl rfl rfl (l := [(Vl (.int .i64 0)), (Vl (.int .i64 0)), (Vl (.int .i64 0)), (Vl (.slice none 0 0)), (Vl (.slice none 0 0)), (Vl (.slice none 0 0)), (Vl (.slice none 0 0))]) rfl) (wt_none' rfl) fun q2 => ?_
  refine sx_nil' ?_
  show TX E K1 _
  refine tx_k' hK1 ?_
  refine cx_seq' fun K2 hK2 => ?_
  refine cx_region' ?_
  refine sx_rd' (rd_move' rfl) rfl rfl (wt_none' rfl) ?_
  obtain ⟨r15, hr15, hp⟩ := bind_some hp
  refine sx_ox' (ox_callg' (ent_inv' rfl rfl (inv_ptr0 (inv132_SRID _))) (gogeom_geom0_SRID_sim _ _ _ _ _ hr15 : Go.Sx.Fn Try.prog 186 [(Vl (.pointer (some wa0)))] [⟨.pointer (some wa0), [(Vl (.int .i64 a0_0)), (Vl (.int .i64 a0_1)), (Sl Kf a0_2), (Vl (.int .i64 a0_3)), (Sl (Ki .i64) a0_4)], 208, none⟩] (fun x : Unit => (Vl (.int .i64 r15.2.2.2.1))) (fun x => [⟨.pointer (some wa0), [(Vl (.int .i64 r15.1)), (Vl (.int .i64 r15.2.1)), (Sl Kf r15.2.2.1), (Vl (.int .i64 r15.2.2.2.1)), (Sl (Ki .i64) r15.2.2.2.2)], 208, none⟩])) [1] [0] (by decide) (pick_cons rfl pick_nil) (pick_cons rfl pick_nil) (Hn := fun x : Unit => [⟨.pointer (some wa0), [(Vl (.int .i64 r15.1)), (Vl (.int .i64 r15.2.1)), (Sl Kf r15.2.2.1), (Vl (.int .i64 r15.2.2.2.1)), (Sl (Ki .i64) r15.2.2.2.2)], 208, none⟩, ⟨.pointer (some q2), [(Vl (.int .i64 0)), (Vl (.int .i64 0)), (Vl (.int .i64 0)), (Vl (.slice none 0 0)), (Vl (.slice none 0 0)), (Vl (.slice none 0 0)), (Vl (.slice none 0 0))], 27, none⟩]) (fun _ => rfl) rfl rfl) (wt_none' rfl) fun ⟨⟩ => ?_
  refine sx_rd' (rd_build' (pls := [(0, 1), (1, 1), (2, 1), (3, 1), (4, 1), (5, 1), (6, 1)]) (qs := [(2, [(Vl (.int .i64 r15.2.2.2.1))])]) (r := [(Vl (.int .i64 0)), (Vl (.int .i64 0)), (Vl (.int .i64 r15.2.2.2.1)), (Vl (.slice none 0 0)), (Vl (.slice none 0 0)), (Vl (.slice none 0 0)), (Vl (.slice none 0 0))]) ⟨rfl, ⟨_, rfl, (lv_vl rfl rfl)⟩, trivial⟩ Try.underlying27 has27 places27 info27 rfl rfl rfl) rfl rfl (wt_none' rfl) ?_
  refine sx_ox' (ox_alloc' info27 rfl rfl rfl rfl (l := [(Vl (.int .i64 0)), (Vl (.int .i64 0)), (Vl (.int .i64 0)), (Vl (.slice none 0 0)), (Vl (.slice none 0 0)), (Vl (.slice none 0 0)), (Vl (.slice none 0 0))]) rfl) (wt_none' rfl) fun q3 => ?_
  refine sx_ox' (ox_store' (i := 0) (o := 0) rfl rfl (lv_ag _) ⟨rfl, rfl, rfl, rfl⟩ rfl info27 rfl (H' := [⟨.pointer (some q3), [(Vl (.int .i64 0)), (Vl (.int .i64 0)), (Vl (.int .i64 r15.2.2.2.1)), (Vl (.slice none 0 0)), (Vl (.slice none 0 0)), (Vl (.slice none 0 0)), (Vl (.slice none 0 0))], 27, none⟩, ⟨.pointer (some wa0), [(Vl (.int .i64 r15.1)), (Vl (.int .i64 r15.2.1)), (Sl Kf r15.2.2.1), (Vl (.int .i64 r15.2.2.2.1)), (Sl (Ki .i64) r15.2.2.2.2)], 208, none⟩, ⟨.pointer (some q2), [(Vl (.int .i64 0)), (Vl (.int .i64 0)), (Vl (.int .i64 0)), (Vl (.slice none 0 0)), (Vl (.slice none 0 0)), (Vl (.slice none 0 0)), (Vl (.slice none 0 0))], 27, none⟩]) rfl) (wt_none' rfl) fun _ => ?_
  refine sx_nil' ?_
  show TX E K2 _
  refine tx_k' hK2 ?_
  refine cx_seq' fun K3 hK3 => ?_
  refine cx_seq' fun K4 hK4 => ?_
  refine cx_region' ?_
  refine sx_rd' (rd_move' rfl) rfl rfl (wt_none' rfl) ?_
  refine sx_nil' ?_
  show TX E K4 _
  refine tx_k' hK4 ?_
  refine cx_block' ?_
  refine cx_seq' fun K5 hK5 => ?_
  refine cx_region' ?_
  refine sx_rd' (rd_assert' rfl (F := fun _ => .tuple #[.pointer none, .bool false]) as132_161_162 as_no) rfl rfl (wt_none' rfl) ?_
  refine sx_rd' (rd_extract' rfl rfl) rfl rfl (wt_none' rfl) ?_
  refine sx_rd' (rd_extract' rfl rfl) rfl rfl (wt_none' rfl) ?_
  refine sx_nil' ?_
  show TX E K5 _
  refine tx_k' hK5 ?_
  refine cx_cond_f' rfl rfl ?_
  refine cx_seq' fun K6 hK6 => ?_
  refine cx_region' ?_
  refine sx_rd' (rd_assert' rfl (F := fun _ => .tuple #[.pointer none, .bool false]) as132_161_163 as_no) rfl rfl (wt_none' rfl) ?_
  refine sx_rd' (rd_extract' rfl rfl) rfl rfl (wt_none' rfl) ?_
  refine sx_rd' (rd_extract' rfl rfl) rfl rfl (wt_none' rfl) ?_
  refine sx_nil' ?_
  show TX E K6 _
  refine tx_k' hK6 ?_
  refine cx_cond_f' rfl rfl ?_
  refine cx_seq' fun K7 hK7 => ?_
  refine cx_region' ?_
  refine sx_rd' (rd_assert' rfl (F := fun _ => .tuple #[.pointer none, .bool false]) as132_161_164 as_no) rfl rfl (wt_none' rfl) ?_
  refine sx_rd' (rd_extract' rfl rfl) rfl rfl (wt_none' rfl) ?_
  refine sx_rd' (rd_extract' rfl rfl) rfl rfl (wt_none' rfl) ?_
  refine sx_nil' ?_
  show TX E K7 _
  refine tx_k' hK7 ?_
  refine cx_cond_f' rfl rfl ?_
  refine cx_seq' fun K8 hK8 => ?_
  refine cx_region' ?_
  refine sx_rd' (rd_assert' rfl (F := fun v => .tuple #[v, .bool true]) as132_161_132k as_ok) rfl rfl (wt_none' rfl) ?_
  refine sx_rd' (rd_extract' rfl rfl) rfl rfl (wt_none' rfl) ?_
  refine sx_rd' (rd_extract' rfl rfl) rfl rfl (wt_none' rfl) ?_
  refine sx_nil' ?_
  show TX E K8 _
  refine tx_k' hK8 ?_
  refine cx_cond_t' rfl rfl ?_
  refine cx_seq' fun K9 hK9 => ?_
  refine cx_region' ?_
  refine sx_rd' (rd_assign' rfl) rfl rfl (wt_none' rfl) ?_
  refine sx_nil' ?_
  show TX E K9 _
  refine tx_k' hK9 ?_
  refine cx_region' ?_
  refine sx_rd' (rd_field0' rfl Try.underlying27 rfl info3 rfl) rfl rfl (wt_none' rfl) ?_
  refine sx_ox' (ox_store' (i := 0) (o := 0) rfl rfl (lv_vl rfl rfl) ⟨rfl, rfl, rfl, rfl⟩ rfl info3 rfl (H' := [⟨.pointer (some q3), [(Vl (.int .i64 3)), (Vl (.int .i64 0)), (Vl (.int .i64 r15.2.2.2.1)), (Vl (.slice none 0 0)), (Vl (.slice none 0 0)), (Vl (.slice none 0 0)), (Vl (.slice none 0 0))], 27, none⟩, ⟨.pointer (some wa0), [(Vl (.int .i64 r15.1)), (Vl (.int .i64 r15.2.1)), (Sl Kf r15.2.2.1), (Vl (.int .i64 r15.2.2.2.1)), (Sl (Ki .i64) r15.2.2.2.2)], 208, none⟩, ⟨.pointer (some q2), [(Vl (.int .i64 0)), (Vl (.int .i64 0)), (Vl (.int .i64 0)), (Vl (.slice none 0 0)), (Vl (.slice none 0 0)), (Vl (.slice none 0 0)), (Vl (.slice none 0 0))], 27, none⟩]) rfl) (wt_none' rfl) fun _ => ?_
  refine sx_nil' ?_
  show TX E K3 _
  refine tx_k' hK3 ?_
  refine cx_seq' fun K10 hK10 => ?_
  refine cx_region' ?_
  refine sx_rd' (rd_move' rfl) rfl rfl (wt_none' rfl) ?_
  obtain ⟨r70, hr70, hp⟩ := bind_some hp
  refine sx_ox' (ox_callg' (ent_inv' rfl rfl (inv_ptr0 (inv132_Layout _))) (gogeom_geom0_Layout_sim _ _ _ _ _ hr70 : Go.Sx.Fn Try.prog 184 [(Vl (.pointer (some wa0)))] [⟨.pointer (some wa0), [(Vl (.int .i64 r15.1)), (Vl (.int .i64 r15.2.1)), (Sl Kf r15.2.2.1), (Vl (.int .i64 r15.2.2.2.1)), (Sl (Ki .i64) r15.2.2.2.2)], 208, none⟩] (fun x : Unit => (Vl (.int .i64 r70.1))) (fun x => [⟨.pointer (some wa0), [(Vl (.int .i64 r70.1)), (Vl (.int .i64 r70.2.1)), (Sl Kf r70.2.2.1), (Vl (.int .i64 r70.2.2.2.1)), (Sl (Ki .i64) r70.2.2.2.2)], 208, none⟩])) [1] [0, 2] (by decide) (pick_cons rfl pick_nil) (pick_cons rfl (pick_cons rfl pick_nil)) (Hn := fun x : Unit => [⟨.pointer (some wa0), [(Vl (.int .i64 r70.1)), (Vl (.int .i64 r70.2.1)), (Sl Kf r70.2.2.1), (Vl (.int .i64 r70.2.2.2.1)), (Sl (Ki .i64) r70.2.2.2.2)], 208, none⟩, ⟨.pointer (some q3), [(Vl (.int .i64 3)), (Vl (.int .i64 0)), (Vl (.int .i64 r15.2.2.2.1)), (Vl (.slice none 0 0)), (Vl (.slice none 0 0)), (Vl (.slice none 0 0)), (Vl (.slice none 0 0))], 27, none⟩, ⟨.pointer (some q2), [(Vl (.int .i64 0)), (Vl (.int .i64 0)), (Vl (.int .i64 0)), (Vl (.slice none 0 0)), (Vl (.slice none 0 0)), (Vl (.slice none 0 0)), (Vl (.slice none 0 0))], 27, none⟩]) (fun _ => rfl) rfl rfl) (wt_none' rfl) fun ⟨⟩ => ?_
  refine sx_rd' (rd_move' rfl) rfl rfl (wt_none' rfl) ?_
  obtain ⟨r72, hr72, hp⟩ := bind_some hp
  refine sx_ox' (ox_callg' (ent_inv' rfl rfl (inv_ptr0 (inv132_FlatCoords _))) (gogeom_geom0_FlatCoords_sim _ _ _ _ _ hr72 : Go.Sx.Fn Try.prog 183 [(Vl (.pointer (some wa0)))] [⟨.pointer (some wa0), [(Vl (.int .i64 r70.1)), (Vl (.int .i64 r70.2.1)), (Sl Kf r70.2.2.1), (Vl (.int .i64 r70.2.2.2.1)), (Sl (Ki .i64) r70.2.2.2.2)], 208, none⟩] (fun x : Unit => (Sl Kf r72.2.2.1)) (fun x => [⟨.pointer (some wa0), [(Vl (.int .i64 r72.1)), (Vl (.int .i64 r72.2.1)), (Sl Kf r72.2.2.1), (Vl (.int .i64 r72.2.2.2.1)), (Sl (Ki .i64) r72.2.2.2.2)], 208, none⟩])) [0] [1, 2] (by decide) (pick_cons rfl pick_nil) (pick_cons rfl (pick_cons rfl pick_nil)) (Hn := fun x : Unit => [⟨.pointer (some wa0), [(Vl (.int .i64 r72.1)), (Vl (.int .i64 r72.2.1)), (Sl Kf r72.2.2.1), (Vl (.int .i64 r72.2.2.2.1)), (Sl (Ki .i64) r72.2.2.2.2)], 208, none⟩, ⟨.pointer (some q3), [(Vl (.int .i64 3)), (Vl (.int .i64 0)), (Vl (.int .i64 r15.2.2.2.1)), (Vl (.slice none 0 0)), (Vl (.slice none 0 0)), (Vl (.slice none 0 0)), (Vl (.slice none 0 0))], 27, none⟩, ⟨.pointer (some q2), [(Vl (.int .i64 0)), (Vl (.int .i64 0)), (Vl (.int .i64 0)), (Vl (.slice none 0 0)), (Vl (.slice none 0 0)), (Vl (.slice none 0 0)), (Vl (.slice none 0 0))], 27, none⟩]) (fun _ => rfl) rfl rfl) (wt_none' rfl) fun ⟨⟩ => ?_
  obtain ⟨r73, hr73, hp⟩ := bind_some hp
  refine sx_ox' (ox_calln' (ent_fn' Try.func58 isn58 rfl rfl) (impl_floats_sim _ hr73 : Go.Sx.Fn Try.prog 58 [(Sl Kf r72.2.2.1)] [] (fun x : Unit => (Sl Kf r73)) (fun x => [])) (Hn := fun x : Unit => [⟨.pointer (some wa0), [(Vl (.int .i64 r72.1)), (Vl (.int .i64 r72.2.1)), (Sl Kf r72.2.2.1), (Vl (.int .i64 r72.2.2.2.1)), (Sl (Ki .i64) r72.2.2.2.2)], 208, none⟩, ⟨.pointer (some q3), [(Vl (.int .i64 3)), (Vl (.int .i64 0)), (Vl (.int .i64 r15.2.2.2.1)), (Vl (.slice none 0 0)), (Vl (.slice none 0 0)), (Vl (.slice none 0 0)), (Vl (.slice none 0 0))], 27, none⟩, ⟨.pointer (some q2), [(Vl (.int .i64 0)), (Vl (.int .i64 0)), (Vl (.int .i64 0)), (Vl (.slice none 0 0)), (Vl (.slice none 0 0)), (Vl (.slice none 0 0)), (Vl (.slice none 0 0))], 27, none⟩]) (fun _ => rfl) rfl rfl) (wt_none' rfl) fun ⟨⟩ => ?_
  refine sx_rd' (rd_move' rfl) rfl rfl (wt_none' rfl) ?_
  obtain ⟨r75, hr75, hp⟩ := bind_some hp
  refine sx_ox' (ox_callg' (ent_inv' rfl rfl (inv_ptr0 (inv132_Ends _))) (gogeom_geom2_Ends_sim _ _ _ _ _ hr75 : Go.Sx.Fn Try.prog 181 [(Vl (.pointer (some wa0)))] [⟨.pointer (some wa0), [(Vl (.int .i64 r72.1)), (Vl (.int .i64 r72.2.1)), (Sl Kf r72.2.2.1), (Vl (.int .i64 r72.2.2.2.1)), (Sl (Ki .i64) r72.2.2.2.2)], 208, none⟩] (fun x : Unit => (Sl (Ki .i64) r75.2.2.2.2)) (fun x => [⟨.pointer (some wa0), [(Vl (.int .i64 r75.1)), (Vl (.int .i64 r75.2.1)), (Sl Kf r75.2.2.1), (Vl (.int .i64 r75.2.2.2.1)), (Sl (Ki .i64) r75.2.2.2.2)], 208, none⟩])) [0] [1, 2] (by decide) (pick_cons rfl pick_nil) (pick_cons rfl (pick_cons rfl pick_nil)) (Hn := fun x : Unit => [⟨.pointer (some wa0), [(Vl (.int .i64 r75.1)), (Vl (.int .i64 r75.2.1)), (Sl Kf r75.2.2.1), (Vl (.int .i64 r75.2.2.2.1)), (Sl (Ki .i64) r75.2.2.2.2)], 208, none⟩, ⟨.pointer (some q3), [(Vl (.int .i64 3)), (Vl (.int .i64 0)), (Vl (.int .i64 r15.2.2.2.1)), (Vl (.slice none 0 0)), (Vl (.slice none 0 0)), (Vl (.slice none 0 0)), (Vl (.slice none 0 0))], 27, none⟩, ⟨.pointer (some q2), [(Vl (.int .i64 0)), (Vl (.int .i64 0)), (Vl (.int .i64 0)), (Vl (.slice none 0 0)), (Vl (.slice none 0 0)), (Vl (.slice none 0 0)), (Vl (.slice none 0 0))], 27, none⟩]) (fun _ => rfl) rfl rfl) (wt_none' rfl) fun ⟨⟩ => ?_
  obtain ⟨r76, hr76, hp⟩ := bind_some hp
  refine sx_ox' (ox_calln' (ent_fn' Try.func68 isn68 rfl rfl) (impl_ints_sim _ hr76 : Go.Sx.Fn Try.prog 68 [(Sl (Ki .i64) r75.2.2.2.2)] [] (fun x : Unit => (Sl (Ki .i64) r76)) (fun x => [])) (Hn := fun x : Unit => [⟨.pointer (some wa0), [(Vl (.int .i64 r75.1)), (Vl (.int .i64 r75.2.1)), (Sl Kf r75.2.2.1), (Vl (.int .i64 r75.2.2.2.1)), (Sl (Ki .i64) r75.2.2.2.2)], 208, none⟩, ⟨.pointer (some q3), [(Vl (.int .i64 3)), (Vl (.int .i64 0)), (Vl (.int .i64 r15.2.2.2.1)), (Vl (.slice none 0 0)), (Vl (.slice none 0 0)), (Vl (.slice none 0 0)), (Vl (.slice none 0 0))], 27, none⟩, ⟨.pointer (some q2), [(Vl (.int .i64 0)), (Vl (.int .i64 0)), (Vl (.int .i64 0)), (Vl (.slice none 0 0)), (Vl (.slice none 0 0)), (Vl (.slice none 0 0)), (Vl (.slice none 0 0))], 27, none⟩]) (fun _ => rfl) rfl rfl) (wt_none' rfl) fun ⟨⟩ => ?_
  refine sx_rd' (rd_move' rfl) rfl rfl (wt_none' rfl) ?_
  obtain ⟨r78, hr78, hp⟩ := bind_some hp
  refine sx_ox' (ox_callg' (ent_inv' rfl rfl (inv_ptr0 (inv132_Endss _))) (gogeom_geom0_Endss_sim _ _ _ _ _ hr78 : Go.Sx.Fn Try.prog 182 [(Vl (.pointer (some wa0)))] [⟨.pointer (some wa0), [(Vl (.int .i64 r75.1)), (Vl (.int .i64 r75.2.1)), (Sl Kf r75.2.2.1), (Vl (.int .i64 r75.2.2.2.1)), (Sl (Ki .i64) r75.2.2.2.2)], 208, none⟩] (fun x : Unit => (Vl (.slice none 0 0))) (fun x => [⟨.pointer (some wa0), [(Vl (.int .i64 r78.1)), (Vl (.int .i64 r78.2.1)), (Sl Kf r78.2.2.1), (Vl (.int .i64 r78.2.2.2.1)), (Sl (Ki .i64) r78.2.2.2.2)], 208, none⟩])) [0] [1, 2] (by decide) (pick_cons rfl pick_nil) (pick_cons rfl (pick_cons rfl pick_nil)) (Hn := fun x : Unit => [⟨.pointer (some wa0), [(Vl (.int .i64 r78.1)), (Vl (.int .i64 r78.2.1)), (Sl Kf r78.2.2.1), (Vl (.int .i64 r78.2.2.2.1)), (Sl (Ki .i64) r78.2.2.2.2)], 208, none⟩, ⟨.pointer (some q3), [(Vl (.int .i64 3)), (Vl (.int .i64 0)), (Vl (.int .i64 r15.2.2.2.1)), (Vl (.slice none 0 0)), (Vl (.slice none 0 0)), (Vl (.slice none 0 0)), (Vl (.slice none 0 0))], 27, none⟩, ⟨.pointer (some q2), [(Vl (.int .i64 0)), (Vl (.int .i64 0)), (Vl (.int .i64 0)), (Vl (.slice none 0 0)), (Vl (.slice none 0 0)), (Vl (.slice none 0 0)), (Vl (.slice none 0 0))], 27, none⟩]) (fun _ => rfl) rfl rfl) (wt_none' rfl) fun ⟨⟩ => ?_
  obtain ⟨r79, hr79, hp⟩ := bind_some hp
  refine sx_ox' (ox_calln' (ent_fn' Try.func92 isn92 rfl rfl) (impl_intss_sim hr79 : Go.Sx.Fn Try.prog 92 [(Vl (.slice none 0 0))] [] (fun x : Unit => (Vl (.slice none 0 0))) (fun x => [])) (Hn := fun x : Unit => [⟨.pointer (some wa0), [(Vl (.int .i64 r78.1)), (Vl (.int .i64 r78.2.1)), (Sl Kf r78.2.2.1), (Vl (.int .i64 r78.2.2.2.1)), (Sl (Ki .i64) r78.2.2.2.2)], 208, none⟩, ⟨.pointer (some q3), [(Vl (.int .i64 3)), (Vl (.int .i64 0)), (Vl (.int .i64 r15.2.2.2.1)), (Vl (.slice none 0 0)), (Vl (.slice none 0 0)), (Vl (.slice none 0 0)), (Vl (.slice none 0 0))], 27, none⟩, ⟨.pointer (some q2), [(Vl (.int .i64 0)), (Vl (.int .i64 0)), (Vl (.int .i64 0)), (Vl (.slice none 0 0)), (Vl (.slice none 0 0)), (Vl (.slice none 0 0)), (Vl (.slice none 0 0))], 27, none⟩]) (fun _ => rfl) rfl rfl) (wt_none' rfl) fun ⟨⟩ => ?_
  refine sx_rd' (rd_field' (off := 1) rfl Try.underlying27 rfl info3 rfl) rfl rfl (wt_none' rfl) ?_
  refine sx_ox' (ox_store' (i := 1) (o := 1) rfl rfl (lv_vl rfl rfl) ⟨rfl, rfl, rfl, rfl⟩ rfl info3 rfl (H' := [⟨.pointer (some wa0), [(Vl (.int .i64 r78.1)), (Vl (.int .i64 r78.2.1)), (Sl Kf r78.2.2.1), (Vl (.int .i64 r78.2.2.2.1)), (Sl (Ki .i64) r78.2.2.2.2)], 208, none⟩, ⟨.pointer (some q3), [(Vl (.int .i64 3)), (Vl (.int .i64 r70.1)), (Vl (.int .i64 r15.2.2.2.1)), (Vl (.slice none 0 0)), (Vl (.slice none 0 0)), (Vl (.slice none 0 0)), (Vl (.slice none 0 0))], 27, none⟩, ⟨.pointer (some q2), [(Vl (.int .i64 0)), (Vl (.int .i64 0)), (Vl (.int .i64 0)), (Vl (.slice none 0 0)), (Vl (.slice none 0 0)), (Vl (.slice none 0 0)), (Vl (.slice none 0 0))], 27, none⟩]) rfl) (wt_none' rfl) fun _ => ?_
  refine sx_rd' (rd_field' (off := 3) rfl Try.underlying27 rfl info22 rfl) rfl rfl (wt_none' rfl) ?_
  refine sx_ox' (ox_store' (i := 1) (o := 3) rfl rfl (lv_sl _ _) ⟨rfl, rfl, rfl, rfl⟩ rfl info22 rfl (H' := [⟨.pointer (some wa0), [(Vl (.int .i64 r78.1)), (Vl (.int .i64 r78.2.1)), (Sl Kf r78.2.2.1), (Vl (.int .i64 r78.2.2.2.1)), (Sl (Ki .i64) r78.2.2.2.2)], 208, none⟩, ⟨.pointer (some q3), [(Vl (.int .i64 3)), (Vl (.int .i64 r70.1)), (Vl (.int .i64 r15.2.2.2.1)), (Sl Kf r73), (Vl (.slice none 0 0)), (Vl (.slice none 0 0)), (Vl (.slice none 0 0))], 27, none⟩, ⟨.pointer (some q2), [(Vl (.int .i64 0)), (Vl (.int .i64 0)), (Vl (.int .i64 0)), (Vl (.slice none 0 0)), (Vl (.slice none 0 0)), (Vl (.slice none 0 0)), (Vl (.slice none 0 0))], 27, none⟩]) rfl) (wt_none' rfl) fun _ => ?_
  refine sx_rd' (rd_field' (off := 4) rfl Try.underlying27 rfl info23 rfl) rfl rfl (wt_none' rfl) ?_
  refine sx_ox' (ox_store' (i := 1) (o := 4) rfl rfl (lv_sl _ _) ⟨rfl, rfl, rfl, rfl⟩ rfl info23 rfl (H' := [⟨.pointer (some wa0), [(Vl (.int .i64 r78.1)), (Vl (.int .i64 r78.2.1)), (Sl Kf r78.2.2.1), (Vl (.int .i64 r78.2.2.2.1)), (Sl (Ki .i64) r78.2.2.2.2)], 208, none⟩, ⟨.pointer (some q3), [(Vl (.int .i64 3)), (Vl (.int .i64 r70.1)), (Vl (.int .i64 r15.2.2.2.1)), (Sl Kf r73), (Sl (Ki .i64) r76), (Vl (.slice none 0 0)), (Vl (.slice none 0 0))], 27, none⟩, ⟨.pointer (some q2), [(Vl (.int .i64 0)), (Vl (.int .i64 0)), (Vl (.int .i64 0)), (Vl (.slice none 0 0)), (Vl (.slice none 0 0)), (Vl (.slice none 0 0)), (Vl (.slice none 0 0))], 27, none⟩]) rfl) (wt_none' rfl) fun _ => ?_
  refine sx_rd' (rd_field' (off := 5) rfl Try.underlying27 rfl info24 rfl) rfl rfl (wt_none' rfl) ?_
  refine sx_ox' (ox_store' (i := 1) (o := 5) rfl rfl (lv_vl rfl rfl) ⟨rfl, rfl, rfl, rfl⟩ rfl info24 rfl (H' := [⟨.pointer (some wa0), [(Vl (.int .i64 r78.1)), (Vl (.int .i64 r78.2.1)), (Sl Kf r78.2.2.1), (Vl (.int .i64 r78.2.2.2.1)), (Sl (Ki .i64) r78.2.2.2.2)], 208, none⟩, ⟨.pointer (some q3), [(Vl (.int .i64 3)), (Vl (.int .i64 r70.1)), (Vl (.int .i64 r15.2.2.2.1)), (Sl Kf r73), (Sl (Ki .i64) r76), (Vl (.slice none 0 0)), (Vl (.slice none 0 0))], 27, none⟩, ⟨.pointer (some q2), [(Vl (.int .i64 0)), (Vl (.int .i64 0)), (Vl (.int .i64 0)), (Vl (.slice none 0 0)), (Vl (.slice none 0 0)), (Vl (.slice none 0 0)), (Vl (.slice none 0 0))], 27, none⟩]) rfl) (wt_none' rfl) fun _ => ?_
  refine sx_nil' ?_
  show TX E K10 _
  refine tx_k' hK10 ?_
  refine cx_seq' fun K11 hK11 => ?_
  refine cx_region' ?_
  refine sx_rd' (rd_load_agg' (i := 1) (o := 0) (nn := 7) rfl ⟨rfl, rfl, rfl, rfl⟩ rfl agg27 (l' := [(Vl (.int .i64 3)), (Vl (.int .i64 r70.1)), (Vl (.int .i64 r15.2.2.2.1)), (Sl Kf r73), (Sl (Ki .i64) r76), (Vl (.slice none 0 0)), (Vl (.slice none 0 0))]) rfl) rfl rfl (wt_none' rfl) ?_
  refine sx_ox' (ox_store' (i := 2) (o := 0) rfl rfl (lv_ag _) ⟨rfl, rfl, rfl, rfl⟩ rfl info27 rfl (H' := [⟨.pointer (some wa0), [(Vl (.int .i64 r78.1)), (Vl (.int .i64 r78.2.1)), (Sl Kf r78.2.2.1), (Vl (.int .i64 r78.2.2.2.1)), (Sl (Ki .i64) r78.2.2.2.2)], 208, none⟩, ⟨.pointer (some q3), [(Vl (.int .i64 3)), (Vl (.int .i64 r70.1)), (Vl (.int .i64 r15.2.2.2.1)), (Sl Kf r73), (Sl (Ki .i64) r76), (Vl (.slice none 0 0)), (Vl (.slice none 0 0))], 27, none⟩, ⟨.pointer (some q2), [(Vl (.int .i64 3)), (Vl (.int .i64 r70.1)), (Vl (.int .i64 r15.2.2.2.1)), (Sl Kf r73), (Sl (Ki .i64) r76), (Vl (.slice none 0 0)), (Vl (.slice none 0 0))], 27, none⟩]) rfl) (wt_none' rfl) fun _ => ?_
  refine sx_nil' ?_
  show TX E K11 _
  refine tx_k' hK11 ?_
  refine cx_retc' ?_
  replace hp := Option.some.inj hp
  subst hp
  refine tx_pick' (L' := [(2, (Vl (.pointer (some q2))))]) (H' := [⟨.pointer (some wa0), [(Vl (.int .i64 r78.1)), (Vl (.int .i64 r78.2.1)), (Sl Kf r78.2.2.1), (Vl (.int .i64 r78.2.2.2.1)), (Sl (Ki .i64) r78.2.2.2.2)], 208, none⟩, ⟨.pointer (some q2), [(Vl (.int .i64 3)), (Vl (.int .i64 r70.1)), (Vl (.int .i64 r15.2.2.2.1)), (Sl Kf r73), (Sl (Ki .i64) r76), (Vl (.slice none 0 0)), (Vl (.slice none 0 0))], 27, none⟩]) [0, 2] (sub_cons rfl sub_nil) (by decide) (pick_cons rfl (pick_cons rfl pick_nil)) ?_
  exact tx_ret1' Try.results94 rfl () (rv_cell_agg' (i := 1) (o := 0) (nn := 7) rfl ⟨rfl, rfl, rfl, rfl⟩ rfl agg27 rfl) (List.Sublist.cons_cons _ (List.nil_sublist _))

def impl_BoxPolygon (k : Nat) (a0_0 : Int) (a0_1 : List Nat) (a0_2 : List Nat) : Option (Int × Int × Int × (List Nat) × (List Int) × Bool) :=
  (impl_box k a0_0 a0_1 a0_2) >>= fun r6 =>
  (gogeom_Bounds_Polygon k r6.1 r6.2.1 r6.2.2) >>= fun r7 =>
  (impl_plain k r7.2.2.2.1 r7.2.2.2.2.1 r7.2.2.2.2.2.1 r7.2.2.2.2.2.2.1 r7.2.2.2.2.2.2.2) >>= fun r9 =>
  some (r9.2.2.2.2.2.1, r9.2.2.2.2.2.2.1, r9.2.2.2.2.2.2.2.1, r9.2.2.2.2.2.2.2.2.1, r9.2.2.2.2.2.2.2.2.2, true)

theorem impl_BoxPolygon_sim {k : Nat}  (a0_0 : Int) (a0_1 : List Nat) (a0_2 : List Nat) {out : Int × Int × Int × (List Nat) × (List Int) × Bool} (hp : impl_BoxPolygon k a0_0 a0_1 a0_2 = some out) : Go.Sx.Fn Try.prog 46 [(Ag [(Vl (.int .i64 a0_0)), (Sl Kf a0_1), (Sl Kf a0_2)])] [] (fun w : Unit => (Tu [(Ag [(Vl (.int .i64 out.1)), (Vl (.int .i64 out.2.1)), (Vl (.int .i64 out.2.2.1)), (Sl Kf out.2.2.2.1), (Sl (Ki .i64) out.2.2.2.2.1), (Vl (.slice none 0 0)), (Vl (.slice none 0 0))]), (Vl (.bool out.2.2.2.2.2))])) (fun w => []) := by
  unfold impl_BoxPolygon at hp
  refine fnD_of Try.func46 rfl Try.ntmps46 rfl fun E hM => ?_
  refine cx_seq' fun K1 hK1 => ?_
  refine cx_region' ?_
  refine sx_ox' (ox_box' rfl (lv_ag _) rfl rfl) (wt_none' rfl) fun q1 => ?_
  refine sx_ox' (ox_alloc' info27 rfl rfl rfl rfl (l := [(Vl (.int .i64 0)), (Vl (.int .i64 0)), (Vl (.int .i64 0)), (Vl (.slice none 0 0)), (Vl (.slice none 0 0)), (Vl (.slice none 0 0)), (Vl (.slice none 0 0))]) rfl) (wt_none' rfl) fun q2 => ?_
  refine sx_ox' (ox_alloc' info4 rfl rfl rfl rfl (l := [(Vl (.bool false))]) rfl) (wt_none' rfl) fun q3 => ?_
  refine sx_nil' ?_
  show TX E K1 _
  refine tx_k' hK1 ?_
  refine cx_seq' fun K2 hK2 => ?_
  refine cx_region' ?_
  refine sx_rd' (rd_mkfunc' (us := [.pointer (some q2), .pointer (some q3)]) rfl) rfl rfl (wt_none' rfl) ?_
  refine sx_ox' (ox_defer' rfl rfl) (wt_none' rfl) fun _ => ?_
  refine sx_nil' ?_
  show TX E K2 _
  refine tx_k' hK2 ?_
  refine cx_seq' fun K3 hK3 => ?_
  refine cx_region' ?_
  refine sx_rd' (rd_load_agg' (i := 2) (o := 0) (nn := 3) rfl ⟨rfl, rfl, rfl, rfl⟩ rfl agg55 (l' := [(Vl (.int .i64 a0_0)), (Sl Kf a0_1), (Sl Kf a0_2)]) rfl) rfl rfl (wt_none' rfl) ?_
  obtain ⟨r6, hr6, hp⟩ := bind_some hp
  refine sx_ox' (ox_calln' (ent_fn' Try.func71 isn71 rfl rfl) (impl_box_sim _ _ _ hr6 : Go.Sx.Fn Try.prog 71 [(Ag [(Vl (.int .i64 a0_0)), (Sl Kf a0_1), (Sl Kf a0_2)])] [] (fun x : Addr => (Vl (.pointer (some x)))) (fun x => [⟨.pointer (some x), [(Vl (.int .i64 r6.1)), (Sl Kf r6.2.1), (Sl Kf r6.2.2)], 153, none⟩])) (Hn := fun x : Addr => [⟨.pointer (some x), [(Vl (.int .i64 r6.1)), (Sl Kf r6.2.1), (Sl Kf r6.2.2)], 153, none⟩, ⟨.pointer (some q3), [(Vl (.bool false))], 4, none⟩, ⟨.pointer (some q2), [(Vl (.int .i64 0)), (Vl (.int .i64 0)), (Vl (.int .i64 0)), (Vl (.slice none 0 0)), (Vl (.slice none 0 0)), (Vl (.slice none 0 0)), (Vl (.slice none 0 0))], 27, none⟩, ⟨.pointer (some q1), [(Vl (.int .i64 a0_0)), (Sl Kf a0_1), (Sl Kf a0_2)], 55, none⟩]) (fun _ => rfl) rfl rfl) (wt_none' rfl) fun q6 => ?_
  obtain ⟨r7, hr7, hp⟩ := bind_some hp
  refine sx_ox' (ox_callg' (ent_fn' Try.func95 isn95 rfl rfl) (gogeom_Bounds_Polygon_sim _ _ _ hr7 : Go.Sx.Fn Try.prog 95 [(Vl (.pointer (some q6)))] [⟨.pointer (some q6), [(Vl (.int .i64 r6.1)), (Sl Kf r6.2.1), (Sl Kf r6.2.2)], 153, none⟩] (fun x : Addr => (Vl (.pointer (some x)))) (fun x => [⟨.pointer (some q6), [(Vl (.int .i64 r7.1)), (Sl Kf r7.2.1), (Sl Kf r7.2.2.1)], 153, none⟩, ⟨.pointer (some x), [(Vl (.int .i64 r7.2.2.2.1)), (Vl (.int .i64 r7.2.2.2.2.1)), (Sl Kf r7.2.2.2.2.2.1), (Vl (.int .i64 r7.2.2.2.2.2.2.1)), (Sl (Ki .i64) r7.2.2.2.2.2.2.2)], 208, none⟩])) [0] [1, 2, 3] (by decide) (pick_cons rfl pick_nil) (pick_cons rfl (pick_cons rfl (pick_cons rfl pick_nil))) (Hn := fun x : Addr => [⟨.pointer (some q6), [(Vl (.int .i64 r7.1)), (Sl Kf r7.2.1), (Sl Kf r7.2.2.1)], 153, none⟩, ⟨.pointer (some x), [(Vl (.int .i64 r7.2.2.2.1)), (Vl (.int .i64 r7.2.2.2.2.1)), (Sl Kf r7.2.2.2.2.2.1), (Vl (.int .i64 r7.2.2.2.2.2.2.1)), (Sl (Ki .i64) r7.2.2.2.2.2.2.2)], 208, none⟩, ⟨.pointer (some q3), [(Vl (.bool false))], 4, none⟩, ⟨.pointer (some q2), [(Vl (.int .i64 0)), (Vl (.int .i64 0)), (Vl (.int .i64 0)), (Vl (.slice none 0 0)), (Vl (.slice none 0 0)), (Vl (.slice none 0 0)), (Vl (.slice none 0 0))], 27, none⟩, ⟨.pointer (some q1), [(Vl (.int .i64 a0_0)), (Sl Kf a0_1), (Sl Kf a0_2)], 55, none⟩]) (fun _ => rfl) rfl rfl) (wt_none' rfl) fun q7 => ?_
  refine sx_rd' (rd_iface' rfl ⟨_, Try.underlying132, fun _ h => (nomatch h)⟩) rfl rfl (wt_none' rfl) ?_
  obtain ⟨r9, hr9, hp⟩ := bind_some hp
  refine sx_ox' (ox_callg' (ent_fn' Try.func94 isn94 rfl rfl) (impl_plain_sim _ _ _ _ _ hr9 : Go.Sx.Fn Try.prog 94 [(If 132 (Vl (.pointer (some q7))))] [⟨.pointer (some q7), [(Vl (.int .i64 r7.2.2.2.1)), (Vl (.int .i64 r7.2.2.2.2.1)), (Sl Kf r7.2.2.2.2.2.1), (Vl (.int .i64 r7.2.2.2.2.2.2.1)), (Sl (Ki .i64) r7.2.2.2.2.2.2.2)], 208, none⟩] (fun x : Unit => (Ag [(Vl (.int .i64 r9.2.2.2.2.2.1)), (Vl (.int .i64 r9.2.2.2.2.2.2.1)), (Vl (.int .i64 r9.2.2.2.2.2.2.2.1)), (Sl Kf r9.2.2.2.2.2.2.2.2.1), (Sl (Ki .i64) r9.2.2.2.2.2.2.2.2.2), (Vl (.slice none 0 0)), (Vl (.slice none 0 0))])) (fun x => [⟨.pointer (some q7), [(Vl (.int .i64 r9.1)), (Vl (.int .i64 r9.2.1)), (Sl Kf r9.2.2.1), (Vl (.int .i64 r9.2.2.2.1)), (Sl (Ki .i64) r9.2.2.2.2.1)], 208, none⟩])) [1] [0, 2, 3, 4] (by decide) (pick_cons rfl pick_nil) (pick_cons rfl (pick_cons rfl (pick_cons rfl (pick_cons rfl pick_nil)))) (Hn := fun x : Unit => [⟨.pointer (some q7), [(Vl (.int .i64 r9.1)), (Vl (.int .i64 r9.2.1)), (Sl Kf r9.2.2.1), (Vl (.int .i64 r9.2.2.2.1)), (Sl (Ki .i64) r9.2.2.2.2.1)], 208, none⟩, ⟨.pointer (some q6), [(Vl (.int .i64 r7.1)), (Sl Kf r7.2.1), (Sl Kf r7.2.2.1)], 153, none⟩, ⟨.pointer (some q3), [(Vl (.bool false))], 4, none⟩, ⟨.pointer (some q2), [(Vl (.int .i64 0)), (Vl (.int .i64 0)), (Vl (.int .i64 0)), (Vl (.slice none 0 0)), (Vl (.slice none 0 0)), (Vl (.slice none 0 0)), (Vl (.slice none 0 0))], 27, none⟩, ⟨.pointer (some q1), [(Vl (.int .i64 a0_0)), (Sl Kf a0_1), (Sl Kf a0_2)], 55, none⟩]) (fun _ => rfl) rfl rfl) (wt_none' rfl) fun ⟨⟩ => ?_
  refine sx_ox' (ox_store' (i := 3) (o := 0) rfl rfl (lv_ag _) ⟨rfl, rfl, rfl, rfl⟩ rfl info27 rfl (H' := [⟨.pointer (some q7), [(Vl (.int .i64 r9.1)), (Vl (.int .i64 r9.2.1)), (Sl Kf r9.2.2.1), (Vl (.int .i64 r9.2.2.2.1)), (Sl (Ki .i64) r9.2.2.2.2.1)], 208, none⟩, ⟨.pointer (some q6), [(Vl (.int .i64 r7.1)), (Sl Kf r7.2.1), (Sl Kf r7.2.2.1)], 153, none⟩, ⟨.pointer (some q3), [(Vl (.bool false))], 4, none⟩, ⟨.pointer (some q2), [(Vl (.int .i64 r9.2.2.2.2.2.1)), (Vl (.int .i64 r9.2.2.2.2.2.2.1)), (Vl (.int .i64 r9.2.2.2.2.2.2.2.1)), (Sl Kf r9.2.2.2.2.2.2.2.2.1), (Sl (Ki .i64) r9.2.2.2.2.2.2.2.2.2), (Vl (.slice none 0 0)), (Vl (.slice none 0 0))], 27, none⟩, ⟨.pointer (some q1), [(Vl (.int .i64 a0_0)), (Sl Kf a0_1), (Sl Kf a0_2)], 55, none⟩]) rfl) (wt_none' rfl) fun _ => ?_
  refine sx_ox' (ox_store' (i := 2) (o := 0) rfl rfl (lv_vl rfl rfl) ⟨rfl, rfl, rfl, rfl⟩ rfl info4 rfl (H' := [⟨.pointer (some q7), [(Vl (.int .i64 r9.1)), (Vl (.int .i64 r9.2.1)), (Sl Kf r9.2.2.1), (Vl (.int .i64 r9.2.2.2.1)), (Sl (Ki .i64) r9.2.2.2.2.1)], 208, none⟩, ⟨.pointer (some q6), [(Vl (.int .i64 r7.1)), (Sl Kf r7.2.1), (Sl Kf r7.2.2.1)], 153, none⟩, ⟨.pointer (some q3), [(Vl (.bool true))], 4, none⟩, ⟨.pointer (some q2), [(Vl (.int .i64 r9.2.2.2.2.2.1)), (Vl (.int .i64 r9.2.2.2.2.2.2.1)), (Vl (.int .i64 r9.2.2.2.2.2.2.2.1)), (Sl Kf r9.2.2.2.2.2.2.2.2.1), (Sl (Ki .i64) r9.2.2.2.2.2.2.2.2.2), (Vl (.slice none 0 0)), (Vl (.slice none 0 0))], 27, none⟩, ⟨.pointer (some q1), [(Vl (.int .i64 a0_0)), (Sl Kf a0_1), (Sl Kf a0_2)], 55, none⟩]) rfl) (wt_none' rfl) fun _ => ?_
  refine sx_nil' ?_
  show TX E K3 _
  refine tx_k' hK3 ?_
  refine cx_retc' ?_
  replace hp := Option.some.inj hp
  subst hp
  refine tx_leave' (.inl rfl) rfl idle93 rfl Try.func93 isn93 rfl ?_
  refine tx_pick' (L' := [(2, (Vl (.pointer (some q2)))), (3, (Vl (.pointer (some q3))))]) (H' := [⟨.pointer (some q2), [(Vl (.int .i64 r9.2.2.2.2.2.1)), (Vl (.int .i64 r9.2.2.2.2.2.2.1)), (Vl (.int .i64 r9.2.2.2.2.2.2.2.1)), (Sl Kf r9.2.2.2.2.2.2.2.2.1), (Sl (Ki .i64) r9.2.2.2.2.2.2.2.2.2), (Vl (.slice none 0 0)), (Vl (.slice none 0 0))], 27, none⟩, ⟨.pointer (some q3), [(Vl (.bool true))], 4, none⟩]) [3, 2] (sub_cons rfl (sub_cons rfl sub_nil)) (by decide) (pick_cons rfl (pick_cons rfl pick_nil)) ?_
  exact tx_ret2' Try.results46 rfl () (rv_cell_agg' (i := 0) (o := 0) (nn := 7) rfl ⟨rfl, rfl, rfl, rfl⟩ rfl agg27 rfl) (rv_cell' (i := 1) (o := 0) rfl ⟨rfl, rfl, rfl, rfl⟩ rfl flat4) rfl (List.nil_sublist _)

def laws_gInts_l1s (a0 : List Int) (a1 : List Int) (k : Nat) (rec1 : Int → Option (Unit ⊕ Unit)) (x1 : Int) : Option (Unit ⊕ Unit) :=
  br (decide (x1 < (a0.length : Int)))
    ((idx a0 x1) >>= fun r17 =>
    (idx a1 x1) >>= fun r22 =>
    br (!decide (r17 = r22))
      (some (.inl ()))
      (rec1 (iadd .i64 x1 1)))
    (some (.inr ()))
def laws_gInts_l1 (a0 : List Int) (a1 : List Int) : Nat → Int → Option (Unit ⊕ Unit)
  | 0, _ => none
  | k + 1, v => laws_gInts_l1s a0 a1 k (laws_gInts_l1 a0 a1 k) v
def laws_gInts (k : Nat) (a0 : List Int) (a1 : List Int) : Option (Bool) :=
  br (!decide ((a0.length : Int) = (a1.length : Int)))
    (some false)
    ((laws_gInts_l1 a0 a1 k 0) >>= fun y1 => match y1 with
      | (.inl v2) =>
        (some false)
      | (.inr v3) =>
        (some true))

theorem laws_gInts_sim {k : Nat}  (a0 : List Int) (a1 : List Int) {out : Bool} (hp : laws_gInts k a0 a1 = some out) : Go.Sx.Fn Try.prog 26 [(Sl (Ki .i64) a0), (Sl (Ki .i64) a1)] [] (fun w : Unit => (Vl (.bool out))) (fun w => []) := by
  unfold laws_gInts at hp
  refine fn_of Try.func26 rfl Try.ntmps26 rfl fun E hM => ?_
  refine cx_seq' fun K1 hK1 => ?_
  refine cx_region' ?_
  refine sx_rd' (rd_assign' rfl) rfl rfl (wt_none' rfl) ?_
  refine sx_nil' ?_
  show TX E K1 _
  refine tx_k' hK1 ?_
  refine cx_seq' fun K2 hK2 => ?_
  refine cx_seq' fun K3 hK3 => ?_
  refine cx_region' ?_
  refine sx_rd' (rd_move' rfl) rfl rfl (wt_none' rfl) ?_
  refine sx_rd' (rd_len' rfl Try.underlying23) rfl rfl (wt_none' rfl) ?_
  refine sx_rd' (rd_move' rfl) rfl rfl (wt_none' rfl) ?_
  refine sx_rd' (rd_len' rfl Try.underlying23) rfl rfl (wt_none' rfl) ?_
  refine sx_rd' (rd_bin' rfl rfl eg_int ru_neq) rfl rfl (wt_none' rfl) ?_
  refine sx_nil' ?_
  show TX E K3 _
  refine tx_k' hK3 ?_
  refine cx_cond' rfl (fun h1 => ?_) (fun h1 => ?_)
  · replace hp := (br_t h1).symm.trans hp
    refine cx_seq' fun K4 hK4 => ?_
    refine cx_region' ?_
    refine sx_rd' (rd_assign' rfl) rfl rfl (wt_none' rfl) ?_
    refine sx_nil' ?_
    show TX E K4 _
    refine tx_k' hK4 ?_
    refine cx_retc' ?_
    replace hp := Option.some.inj hp
    subst hp
    refine tx_pick' (L' := [(4, (Vl (.bool false)))]) (H' := []) [] (sub_cons rfl sub_nil) (by decide) pick_nil ?_
    exact tx_ret1' Try.results26 rfl () (rv_tmp' rfl) (List.Sublist.refl _)
  · replace hp := (br_f h1).symm.trans hp
    refine cx_skip' ?_
    show TX E K2 _
    refine tx_k' hK2 ?_
    refine cx_seq' fun K5 hK5 => ?_
    refine cx_seq' fun K6 hK6 => ?_
    refine cx_region' ?_
    refine sx_rd' (rd_move' rfl) rfl rfl (wt_none' rfl) ?_
    refine sx_rd' (rd_len' rfl Try.underlying23) rfl rfl (wt_none' rfl) ?_
    refine sx_rd' (rd_move' rfl) rfl rfl (wt_none' rfl) ?_
    refine sx_nil' ?_
    show TX E K6 _
    refine tx_k' hK6 ?_
    refine cx_block' ?_
    obtain ⟨y1, hy1, hp⟩ := bind_some hp
    refine cx_loopg' (F := laws_gInts_l1 a0 a1) (G := fun k R v => laws_gInts_l1s a0 a1 k R v) (x := 0) (gh := ()) (fun (v1 : Int) (w1 : Unit) => (⟨26, [], [(1, (Sl (Ki .i64) a1)), (12, (Sl (Ki .i64) a0)), (13, (Vl (.int .i64 (a0.length : Int)))), (14, (Vl (.int .i64 v1)))], []⟩ : St)) (fun (y : Unit ⊕ Unit) => match y with | (.inl v2) => Zg E Exit.ret (fun (w2 : Unit) => (⟨26, [], [(4, (Vl (.bool false)))], []⟩ : St)) | (.inr v3) => Zg E (Exit.exit 0) (fun (w3 : Unit) => (⟨26, [], [], []⟩ : St))) (fun _ => rfl) (fun _ _ => rfl) ?_ hy1 (tx_to' rfl [] (sub_cons rfl (sub_cons rfl (sub_cons rfl (sub_cons rfl sub_nil)))) (by decide) pick_nil) ?_
    · clear hp hy1
      clear y1
      intro k rec1 KY1 ih1
      rintro x1 ⟨⟩ y1 hp
      replace hp : laws_gInts_l1s a0 a1 k rec1 x1 = some y1 := hp
      unfold laws_gInts_l1s at hp
      refine cx_seq' fun K7 hK7 => ?_
      refine cx_region' ?_
      refine sx_rd' (rd_bin' rfl rfl eg_int ru_lss) rfl rfl (wt_none' rfl) ?_
      refine sx_nil' ?_
      show TX E K7 _
      refine tx_k' hK7 ?_
      refine cx_seq' fun K8 hK8 => ?_
      refine cx_cond' rfl (fun h3 => ?_) (fun h3 => ?_)
      · replace hp := (br_t h3).symm.trans hp
        refine cx_skip' ?_
        show TX E K8 _
        refine tx_k' hK8 ?_
        refine cx_seq' fun K9 hK9 => ?_
        refine cx_block' ?_
        refine cx_seq' fun K10 hK10 => ?_
        refine cx_region' ?_
        refine sx_rd' (rd_move' rfl) rfl rfl (wt_none' rfl) ?_
        obtain ⟨r17, hr17, hp⟩ := bind_some hp
        refine sx_rd' (rd_at' (K := (Ki .i64)) rfl rfl hr17 Try.underlying23 info3) rfl rfl (wt_none' rfl) ?_
        refine sx_rd' (rd_load_pt' rfl rfl flat3) rfl rfl (wt_none' rfl) ?_
        refine sx_rd' (rd_assign' rfl) rfl rfl (wt_none' rfl) ?_
        refine sx_rd' (rd_assign' rfl) rfl rfl (wt_none' rfl) ?_
        refine sx_nil' ?_
        show TX E K10 _
        refine tx_k' hK10 ?_
        refine cx_seq' fun K11 hK11 => ?_
        refine cx_region' ?_
        refine sx_rd' (rd_move' rfl) rfl rfl (wt_none' rfl) ?_
        refine sx_rd' (rd_move' rfl) rfl rfl (wt_none' rfl) ?_
        refine sx_rd' (rd_move' rfl) rfl rfl (wt_none' rfl) ?_
        obtain ⟨r22, hr22, hp⟩ := bind_some hp
        refine sx_rd' (rd_at' (K := (Ki .i64)) rfl rfl hr22 Try.underlying23 info3) rfl rfl (wt_none' rfl) ?_
        refine sx_rd' (rd_load_pt' rfl rfl flat3) rfl rfl (wt_none' rfl) ?_
        refine sx_rd' (rd_bin' rfl rfl eg_int ru_neq) rfl rfl (wt_none' rfl) ?_
        refine sx_nil' ?_
        show TX E K11 _
        refine tx_k' hK11 ?_
        refine cx_cond' rfl (fun h4 => ?_) (fun h4 => ?_)
        · replace hp := (br_t h4).symm.trans hp
          refine cx_seq' fun K12 hK12 => ?_
          refine cx_region' ?_
          refine sx_rd' (rd_assign' rfl) rfl rfl (wt_none' rfl) ?_
          refine sx_nil' ?_
          show TX E K12 _
          refine tx_k' hK12 ?_
          refine cx_retc' ?_
          replace hp := Option.some.inj hp
          subst hp
          show TX E (Zg E Exit.ret _ Exit.ret) _
          exact tx_zend' () rfl [] (sub_cons rfl sub_nil) (by decide) pick_nil
        · replace hp := (br_f h4).symm.trans hp
          refine cx_skip' ?_
          show TX E K9 _
          refine tx_k' hK9 ?_
          refine cx_region' ?_
          refine sx_rd' (rd_bin' rfl rfl eg_int ru_add) rfl rfl (wt_none' rfl) ?_
          refine sx_rd' (rd_move' rfl) rfl rfl (wt_none' rfl) ?_
          refine sx_nil' ?_
          show TX E (KY1 _) _
          exact tx_pick' [] (sub_cons rfl (sub_cons rfl (sub_cons rfl (sub_cons rfl sub_nil)))) (by decide) pick_nil (ih1 (iadd .i64 x1 1) () _ hp)
      · replace hp := (br_f h3).symm.trans hp
        refine cx_exit' ?_
        replace hp := Option.some.inj hp
        subst hp
        show TX E (Zg E (Exit.exit 0) _ (Exit.exit 0)) _
        exact tx_zend' () rfl [] sub_nil (by decide) pick_nil
    · rcases y1 with v2 | v3
      · dsimp only at hp
        refine zg_out fun w2 => ?_
        replace hp := Option.some.inj hp
        subst hp
        refine tx_pick' (L' := [(4, (Vl (.bool false)))]) (H' := []) [] (sub_cons rfl sub_nil) (by decide) pick_nil ?_
        exact tx_ret1' Try.results26 rfl () (rv_tmp' rfl) (List.Sublist.refl _)
      · dsimp only at hp
        refine zg_out fun w3 => ?_
        show TX E K5 _
        refine tx_k' hK5 ?_
        refine cx_seq' fun K13 hK13 => ?_
        refine cx_region' ?_
        refine sx_rd' (rd_assign' rfl) rfl rfl (wt_none' rfl) ?_
        refine sx_nil' ?_
        show TX E K13 _
        refine tx_k' hK13 ?_
        refine cx_retc' ?_
        replace hp := Option.some.inj hp
        subst hp
        refine tx_pick' (L' := [(4, (Vl (.bool true)))]) (H' := []) [] (sub_cons rfl sub_nil) (by decide) pick_nil ?_
        exact tx_ret1' Try.results26 rfl () (rv_tmp' rfl) (List.Sublist.refl _)

def laws_gIntss_l1s  (k : Nat) (rec1 : Unit → Option (Unit))  : Option (Unit) :=
  some ()
def laws_gIntss_l1  : Nat → Unit → Option (Unit)
  | 0, _ => none
  | k + 1, v => laws_gIntss_l1s k (laws_gIntss_l1 k) 
def laws_gIntss (k : Nat)  : Option (Bool) :=
  (laws_gIntss_l1 k ()) >>= fun v2 =>
  some true

theorem laws_gIntss_sim {k : Nat}   {out : Bool} (hp : laws_gIntss k = some out) : Go.Sx.Fn Try.prog 44 [(Vl (.slice none 0 0)), (Vl (.slice none 0 0))] [] (fun w : Unit => (Vl (.bool out))) (fun w => []) := by
  unfold laws_gIntss at hp
  refine fn_of Try.func44 rfl Try.ntmps44 rfl fun E hM => ?_
  refine cx_seq' fun K1 hK1 => ?_
  refine cx_region' ?_
  refine sx_rd' (rd_assign' rfl) rfl rfl (wt_none' rfl) ?_
  refine sx_nil' ?_
  show TX E K1 _
  refine tx_k' hK1 ?_
  refine cx_seq' fun K2 hK2 => ?_
  refine cx_seq' fun K3 hK3 => ?_
  refine cx_region' ?_
  refine sx_rd' (rd_move' rfl) rfl rfl (wt_none' rfl) ?_
  refine sx_rd' (rd_lenv' rfl Try.underlying24) rfl rfl (wt_none' rfl) ?_
  refine sx_rd' (rd_move' rfl) rfl rfl (wt_none' rfl) ?_
  refine sx_rd' (rd_lenv' rfl Try.underlying24) rfl rfl (wt_none' rfl) ?_
  refine sx_rd' (rd_bin' rfl rfl eg_int ru_neq) rfl rfl (wt_none' rfl) ?_
  refine sx_nil' ?_
  show TX E K3 _
  refine tx_k' hK3 ?_
  refine cx_cond_f' rfl rfl ?_
  refine cx_skip' ?_
  show TX E K2 _
  refine tx_k' hK2 ?_
  refine cx_seq' fun K4 hK4 => ?_
  refine cx_seq' fun K5 hK5 => ?_
  refine cx_region' ?_
  refine sx_rd' (rd_move' rfl) rfl rfl (wt_none' rfl) ?_
  refine sx_rd' (rd_lenv' rfl Try.underlying24) rfl rfl (wt_none' rfl) ?_
  refine sx_rd' (rd_move' rfl) rfl rfl (wt_none' rfl) ?_
  refine sx_nil' ?_
  show TX E K5 _
  refine tx_k' hK5 ?_
  refine cx_block' ?_
  obtain ⟨v2, hy1, hp⟩ := bind_some hp
  refine cx_loopg' (F := laws_gIntss_l1) (G := fun k R v => laws_gIntss_l1s k R ) (x := ()) (gh := ()) (fun (v1 : Unit) (w1 : Unit) => (⟨27, [], [(1, (Vl (.slice none 0 0))), (12, (Vl (.slice none 0 0))), (13, (Vl (.int .i64 ((0 : Nat) : Int)))), (14, (Vl (.int .i64 0)))], []⟩ : St)) (fun (v2 : Unit) => Zg E (Exit.exit 0) (fun (w2 : Unit) => (⟨27, [], [], []⟩ : St))) (fun _ => rfl) (fun _ _ => rfl) ?_ hy1 (tx_to' rfl [] (sub_cons rfl (sub_cons rfl (sub_cons rfl (sub_cons rfl sub_nil)))) (by decide) pick_nil) ?_
  · clear hp hy1
    clear v2
    intro k rec1 KY1 ih1
    rintro ⟨⟩ ⟨⟩ y1 hp
    replace hp : laws_gIntss_l1s k rec1  = some y1 := hp
    unfold laws_gIntss_l1s at hp
    refine cx_seq' fun K6 hK6 => ?_
    refine cx_region' ?_
    refine sx_rd' (rd_bin' rfl rfl eg_int ru_lss) rfl rfl (wt_none' rfl) ?_
    refine sx_nil' ?_
    show TX E K6 _
    refine tx_k' hK6 ?_
    refine cx_seq' fun K7 hK7 => ?_
    refine cx_cond_f' rfl rfl ?_
    refine cx_exit' ?_
    replace hp := Option.some.inj hp
    subst hp
    show TX E (Zg E (Exit.exit 0) _ (Exit.exit 0)) _
    exact tx_zend' () rfl [] sub_nil (by decide) pick_nil
  · refine zg_out fun w2 => ?_
    show TX E K4 _
    refine tx_k' hK4 ?_
    refine cx_seq' fun K8 hK8 => ?_
    refine cx_region' ?_
    refine sx_rd' (rd_assign' rfl) rfl rfl (wt_none' rfl) ?_
    refine sx_nil' ?_
    show TX E K8 _
    refine tx_k' hK8 ?_
    refine cx_retc' ?_
    replace hp := Option.some.inj hp
    subst hp
    refine tx_pick' (L' := [(4, (Vl (.bool true)))]) (H' := []) [] (sub_cons rfl sub_nil) (by decide) pick_nil ?_
    exact tx_ret1' Try.results44 rfl () (rv_tmp' rfl) (List.Sublist.refl _)

def laws_gEqual_l1s (a0_3 : List Nat) (a1_3 : List Nat) (k : Nat) (rec1 : Int → Option (Unit ⊕ Unit)) (x7 : Int) : Option (Unit ⊕ Unit) :=
  br (decide (x7 < (a0_3.length : Int)))
    ((idx a0_3 x7) >>= fun r68 =>
    (idx a1_3 x7) >>= fun r74 =>
    br (fne r68 r74)
      (some (.inl ()))
      (rec1 (iadd .i64 x7 1)))
    (some (.inr ()))
def laws_gEqual_l1 (a0_3 : List Nat) (a1_3 : List Nat) : Nat → Int → Option (Unit ⊕ Unit)
  | 0, _ => none
  | k + 1, v => laws_gEqual_l1s a0_3 a1_3 k (laws_gEqual_l1 a0_3 a1_3 k) v
def laws_gEqual_l2s  (k : Nat) (rec2 : Unit → Option (Unit))  : Option (Unit) :=
  some ()
def laws_gEqual_l2  : Nat → Unit → Option (Unit)
  | 0, _ => none
  | k + 1, v => laws_gEqual_l2s k (laws_gEqual_l2 k) 
def laws_gEqual_j6 (k : Nat) (a0_3 : List Nat) (a1_3 : List Nat) (x6 : Bool) : Option (Bool) :=
  br x6
    (some false)
    ((laws_gEqual_l1 a0_3 a1_3 k 0) >>= fun y1 => match y1 with
      | (.inl v8) =>
        (some false)
      | (.inr v9) =>
        ((laws_gEqual_l2 k ()) >>= fun v11 =>
        some true))
def laws_gEqual_j5 (k : Nat) (a0_3 : List Nat) (a1_3 : List Nat) (x5 : Bool) : Option (Bool) :=
  br x5
    (laws_gEqual_j6 k a0_3 a1_3 true)
    (laws_gEqual_j6 k a0_3 a1_3 (!decide (((0 : Nat) : Int) = ((0 : Nat) : Int))))
def laws_gEqual_j4 (k : Nat) (a0_3 : List Nat) (a1_3 : List Nat) (x4 : Bool) : Option (Bool) :=
  br x4
    (laws_gEqual_j5 k a0_3 a1_3 true)
    ((laws_gIntss k) >>= fun r50 =>
    laws_gEqual_j5 k a0_3 a1_3 (!r50))
def laws_gEqual_j3 (k : Nat) (a0_3 : List Nat) (a1_3 : List Nat) (a0_4 : List Int) (a1_4 : List Int) (x3 : Bool) : Option (Bool) :=
  br x3
    (laws_gEqual_j4 k a0_3 a1_3 true)
    ((laws_gInts k a0_4 a1_4) >>= fun r42 =>
    laws_gEqual_j4 k a0_3 a1_3 (!r42))
def laws_gEqual_j2 (k : Nat) (a0_3 : List Nat) (a1_3 : List Nat) (a0_4 : List Int) (a1_4 : List Int) (x2 : Bool) : Option (Bool) :=
  br x2
    (laws_gEqual_j3 k a0_3 a1_3 a0_4 a1_4 true)
    (laws_gEqual_j3 k a0_3 a1_3 a0_4 a1_4 (!decide ((a0_3.length : Int) = (a1_3.length : Int))))
def laws_gEqual_j1 (k : Nat) (a0_3 : List Nat) (a1_3 : List Nat) (a0_4 : List Int) (a1_4 : List Int) (a0_2 : Int) (a1_2 : Int) (x1 : Bool) : Option (Bool) :=
  br x1
    (laws_gEqual_j2 k a0_3 a1_3 a0_4 a1_4 true)
    (laws_gEqual_j2 k a0_3 a1_3 a0_4 a1_4 (!decide (a0_2 = a1_2)))
def laws_gEqual (k : Nat) (a0_0 : Int) (a0_1 : Int) (a0_2 : Int) (a0_3 : List Nat) (a0_4 : List Int) (a1_0 : Int) (a1_1 : Int) (a1_2 : Int) (a1_3 : List Nat) (a1_4 : List Int) : Option (Bool) :=
  br (!decide (a0_0 = a1_0))
    (laws_gEqual_j1 k a0_3 a1_3 a0_4 a1_4 a0_2 a1_2 true)
    (laws_gEqual_j1 k a0_3 a1_3 a0_4 a1_4 a0_2 a1_2 (!decide (a0_1 = a1_1)))

theorem laws_gEqual_sim {k : Nat}  (a0_0 : Int) (a0_1 : Int) (a0_2 : Int) (a0_3 : List Nat) (a0_4 : List Int) (a1_0 : Int) (a1_1 : Int) (a1_2 : Int) (a1_3 : List Nat) (a1_4 : List Int) {out : Bool} (hp : laws_gEqual k a0_0 a0_1 a0_2 a0_3 a0_4 a1_0 a1_1 a1_2 a1_3 a1_4 = some out) : Go.Sx.Fn Try.prog 47 [(Ag [(Vl (.int .i64 a0_0)), (Vl (.int .i64 a0_1)), (Vl (.int .i64 a0_2)), (Sl Kf a0_3), (Sl (Ki .i64) a0_4), (Vl (.slice none 0 0)), (Vl (.slice none 0 0))]), (Ag [(Vl (.int .i64 a1_0)), (Vl (.int .i64 a1_1)), (Vl (.int .i64 a1_2)), (Sl Kf a1_3), (Sl (Ki .i64) a1_4), (Vl (.slice none 0 0)), (Vl (.slice none 0 0))])] [] (fun w : Unit => (Vl (.bool out))) (fun w => []) := by
  unfold laws_gEqual at hp
  refine fn_of Try.func47 rfl Try.ntmps47 rfl fun E hM => ?_
  refine cx_seq' fun K1 hK1 => ?_
  refine cx_region' ?_
  refine sx_ox' (ox_box' rfl (lv_ag _) rfl rfl) (wt_none' rfl) fun q2 => ?_
  refine sx_ox' (ox_box' rfl (lv_ag _) rfl rfl) (wt_none' rfl) fun q3 => ?_
  refine sx_rd' (rd_assign' rfl) rfl rfl (wt_none' rfl) ?_
  refine sx_nil' ?_
  show TX E K1 _
  refine tx_k' hK1 ?_
  refine cx_seq' fun K2 hK2 => ?_
  refine cx_seq' fun K3 hK3 => ?_
  refine cx_region' ?_
  refine sx_rd' (rd_field0' rfl Try.underlying27 rfl info3 rfl) rfl rfl (wt_none' rfl) ?_
  refine sx_rd' (rd_load' (i := 1) (o := 0) rfl ⟨rfl, rfl, rfl, rfl⟩ rfl flat3) rfl rfl (wt_none' rfl) ?_
  refine sx_rd' (rd_field0' rfl Try.underlying27 rfl info3 rfl) rfl rfl (wt_none' rfl) ?_
  refine sx_rd' (rd_load' (i := 0) (o := 0) rfl ⟨rfl, rfl, rfl, rfl⟩ rfl flat3) rfl rfl (wt_none' rfl) ?_
  refine sx_rd' (rd_bin' rfl rfl eg_int ru_neq) rfl rfl (wt_none' rfl) ?_
  refine sx_rd' (rd_move' rfl) rfl rfl (wt_none' rfl) ?_
  refine sx_cutn' 6 (fun (v1 : Bool) => (⟨95, [], [(2, (Vl (.pointer (some q2)))), (3, (Vl (.pointer (some q3)))), (20, (Vl (.bool v1)))], [⟨.pointer (some q2), [(Vl (.int .i64 a0_0)), (Vl (.int .i64 a0_1)), (Vl (.int .i64 a0_2)), (Sl Kf a0_3), (Sl (Ki .i64) a0_4), (Vl (.slice none 0 0)), (Vl (.slice none 0 0))], 27, none⟩, ⟨.pointer (some q3), [(Vl (.int .i64 a1_0)), (Vl (.int .i64 a1_1)), (Vl (.int .i64 a1_2)), (Sl Kf a1_3), (Sl (Ki .i64) a1_4), (Vl (.slice none 0 0)), (Vl (.slice none 0 0))], 27, none⟩]⟩ : St)) (fun (v1 : Bool) => laws_gEqual_j1 k a0_3 a1_3 a0_4 a1_4 a0_2 a1_2 v1 = some out) ?_ ?_
  · rintro x1 hp
    replace hp : laws_gEqual_j1 k a0_3 a1_3 a0_4 a1_4 a0_2 a1_2 x1 = some out := hp
    unfold laws_gEqual_j1 at hp
    refine sx_rd' (rd_move' rfl) rfl rfl (wt_none' rfl) ?_
    refine sx_cutn' 6 (fun (v2 : Bool) => (⟨95, [], [(2, (Vl (.pointer (some q2)))), (3, (Vl (.pointer (some q3)))), (27, (Vl (.bool v2)))], [⟨.pointer (some q2), [(Vl (.int .i64 a0_0)), (Vl (.int .i64 a0_1)), (Vl (.int .i64 a0_2)), (Sl Kf a0_3), (Sl (Ki .i64) a0_4), (Vl (.slice none 0 0)), (Vl (.slice none 0 0))], 27, none⟩, ⟨.pointer (some q3), [(Vl (.int .i64 a1_0)), (Vl (.int .i64 a1_1)), (Vl (.int .i64 a1_2)), (Sl Kf a1_3), (Sl (Ki .i64) a1_4), (Vl (.slice none 0 0)), (Vl (.slice none 0 0))], 27, none⟩]⟩ : St)) (fun (v2 : Bool) => laws_gEqual_j2 k a0_3 a1_3 a0_4 a1_4 v2 = some out) ?_ ?_
    · rintro x2 hp
      replace hp : laws_gEqual_j2 k a0_3 a1_3 a0_4 a1_4 x2 = some out := hp
      unfold laws_gEqual_j2 at hp
      refine sx_rd' (rd_move' rfl) rfl rfl (wt_none' rfl) ?_
      refine sx_cutn' 8 (fun (v3 : Bool) => (⟨95, [], [(2, (Vl (.pointer (some q2)))), (3, (Vl (.pointer (some q3)))), (36, (Vl (.bool v3)))], [⟨.pointer (some q2), [(Vl (.int .i64 a0_0)), (Vl (.int .i64 a0_1)), (Vl (.int .i64 a0_2)), (Sl Kf a0_3), (Sl (Ki .i64) a0_4), (Vl (.slice none 0 0)), (Vl (.slice none 0 0))], 27, none⟩, ⟨.pointer (some q3), [(Vl (.int .i64 a1_0)), (Vl (.int .i64 a1_1)), (Vl (.int .i64 a1_2)), (Sl Kf a1_3), (Sl (Ki .i64) a1_4), (Vl (.slice none 0 0)), (Vl (.slice none 0 0))], 27, none⟩]⟩ : St)) (fun (v3 : Bool) => laws_gEqual_j3 k a0_3 a1_3 a0_4 a1_4 v3 = some out) ?_ ?_
      · rintro x3 hp
        replace hp : laws_gEqual_j3 k a0_3 a1_3 a0_4 a1_4 x3 = some out := hp
        unfold laws_gEqual_j3 at hp
        refine sx_rd' (rd_move' rfl) rfl rfl (wt_none' rfl) ?_
        refine sx_cutn' 7 (fun (v4 : Bool) => (⟨95, [], [(2, (Vl (.pointer (some q2)))), (3, (Vl (.pointer (some q3)))), (44, (Vl (.bool v4)))], [⟨.pointer (some q2), [(Vl (.int .i64 a0_0)), (Vl (.int .i64 a0_1)), (Vl (.int .i64 a0_2)), (Sl Kf a0_3), (Sl (Ki .i64) a0_4), (Vl (.slice none 0 0)), (Vl (.slice none 0 0))], 27, none⟩, ⟨.pointer (some q3), [(Vl (.int .i64 a1_0)), (Vl (.int .i64 a1_1)), (Vl (.int .i64 a1_2)), (Sl Kf a1_3), (Sl (Ki .i64) a1_4), (Vl (.slice none 0 0)), (Vl (.slice none 0 0))], 27, none⟩]⟩ : St)) (fun (v4 : Bool) => laws_gEqual_j4 k a0_3 a1_3 v4 = some out) ?_ ?_
        · rintro x4 hp
          replace hp : laws_gEqual_j4 k a0_3 a1_3 x4 = some out := hp
          unfold laws_gEqual_j4 at hp
          refine sx_rd' (rd_move' rfl) rfl rfl (wt_none' rfl) ?_
          refine sx_cutn' 7 (fun (v5 : Bool) => (⟨95, [], [(2, (Vl (.pointer (some q2)))), (3, (Vl (.pointer (some q3)))), (52, (Vl (.bool v5)))], [⟨.pointer (some q2), [(Vl (.int .i64 a0_0)), (Vl (.int .i64 a0_1)), (Vl (.int .i64 a0_2)), (Sl Kf a0_3), (Sl (Ki .i64) a0_4), (Vl (.slice none 0 0)), (Vl (.slice none 0 0))], 27, none⟩, ⟨.pointer (some q3), [(Vl (.int .i64 a1_0)), (Vl (.int .i64 a1_1)), (Vl (.int .i64 a1_2)), (Sl Kf a1_3), (Sl (Ki .i64) a1_4), (Vl (.slice none 0 0)), (Vl (.slice none 0 0))], 27, none⟩]⟩ : St)) (fun (v5 : Bool) => laws_gEqual_j5 k a0_3 a1_3 v5 = some out) ?_ ?_
          · rintro x5 hp
            replace hp : laws_gEqual_j5 k a0_3 a1_3 x5 = some out := hp
            unfold laws_gEqual_j5 at hp
            refine sx_rd' (rd_move' rfl) rfl rfl (wt_none' rfl) ?_
            refine sx_cutn' 8 (fun (v6 : Bool) => (⟨95, [], [(2, (Vl (.pointer (some q2)))), (3, (Vl (.pointer (some q3)))), (61, (Vl (.bool v6)))], [⟨.pointer (some q2), [(Vl (.int .i64 a0_0)), (Vl (.int .i64 a0_1)), (Vl (.int .i64 a0_2)), (Sl Kf a0_3), (Sl (Ki .i64) a0_4), (Vl (.slice none 0 0)), (Vl (.slice none 0 0))], 27, none⟩, ⟨.pointer (some q3), [(Vl (.int .i64 a1_0)), (Vl (.int .i64 a1_1)), (Vl (.int .i64 a1_2)), (Sl Kf a1_3), (Sl (Ki .i64) a1_4), (Vl (.slice none 0 0)), (Vl (.slice none 0 0))], 27, none⟩]⟩ : St)) (fun (v6 : Bool) => laws_gEqual_j6 k a0_3 a1_3 v6 = some out) ?_ ?_
            · rintro x6 hp
              replace hp : laws_gEqual_j6 k a0_3 a1_3 x6 = some out := hp
              unfold laws_gEqual_j6 at hp
              refine sx_nil' ?_
              show TX E K3 _
              refine tx_k' hK3 ?_
              refine cx_cond' rfl (fun h7 => ?_) (fun h7 => ?_)
              · replace hp := (br_t h7).symm.trans hp
                refine cx_seq' fun K10 hK10 => ?_
                refine cx_region' ?_
                refine sx_rd' (rd_assign' rfl) rfl rfl (wt_none' rfl) ?_
                refine sx_nil' ?_
                show TX E K10 _
                refine tx_k' hK10 ?_
                refine cx_retc' ?_
                replace hp := Option.some.inj hp
                subst hp
                refine tx_pick' (L' := [(4, (Vl (.bool false)))]) (H' := []) [] (sub_cons rfl sub_nil) (by decide) pick_nil ?_
                exact tx_ret1' Try.results47 rfl () (rv_tmp' rfl) (List.Sublist.refl _)
              · replace hp := (br_f h7).symm.trans hp
                refine cx_skip' ?_
                show TX E K2 _
                refine tx_k' hK2 ?_
                refine cx_seq' fun K11 hK11 => ?_
                refine cx_seq' fun K12 hK12 => ?_
                refine cx_region' ?_
                refine sx_rd' (rd_field' (off := 3) rfl Try.underlying27 rfl info22 rfl) rfl rfl (wt_none' rfl) ?_
                refine sx_rd' (rd_load' (i := 0) (o := 3) rfl ⟨rfl, rfl, rfl, rfl⟩ rfl flat22) rfl rfl (wt_none' rfl) ?_
                refine sx_rd' (rd_len' rfl Try.underlying22) rfl rfl (wt_none' rfl) ?_
                refine sx_rd' (rd_move' rfl) rfl rfl (wt_none' rfl) ?_
                refine sx_nil' ?_
                show TX E K12 _
                refine tx_k' hK12 ?_
                refine cx_block' ?_
                obtain ⟨y1, hy1, hp⟩ := bind_some hp
                refine cx_loopg' (F := laws_gEqual_l1 a0_3 a1_3) (G := fun k R v => laws_gEqual_l1s a0_3 a1_3 k R v) (x := 0) (gh := ()) (fun (v7 : Int) (w7 : Unit) => (⟨95, [], [(2, (Vl (.pointer (some q2)))), (3, (Vl (.pointer (some q3)))), (63, (Sl Kf a0_3)), (64, (Vl (.int .i64 (a0_3.length : Int)))), (65, (Vl (.int .i64 v7)))], [⟨.pointer (some q2), [(Vl (.int .i64 a0_0)), (Vl (.int .i64 a0_1)), (Vl (.int .i64 a0_2)), (Sl Kf a0_3), (Sl (Ki .i64) a0_4), (Vl (.slice none 0 0)), (Vl (.slice none 0 0))], 27, none⟩, ⟨.pointer (some q3), [(Vl (.int .i64 a1_0)), (Vl (.int .i64 a1_1)), (Vl (.int .i64 a1_2)), (Sl Kf a1_3), (Sl (Ki .i64) a1_4), (Vl (.slice none 0 0)), (Vl (.slice none 0 0))], 27, none⟩]⟩ : St)) (fun (y : Unit ⊕ Unit) => match y with | (.inl v8) => Zg E Exit.ret (fun (w8 : Unit) => (⟨95, [], [(4, (Vl (.bool false)))], []⟩ : St)) | (.inr v9) => Zg E (Exit.exit 0) (fun (w9 : Unit) => (⟨95, [], [(2, (Vl (.pointer (some q2)))), (3, (Vl (.pointer (some q3))))], [⟨.pointer (some q2), [(Vl (.int .i64 a0_0)), (Vl (.int .i64 a0_1)), (Vl (.int .i64 a0_2)), (Sl Kf a0_3), (Sl (Ki .i64) a0_4), (Vl (.slice none 0 0)), (Vl (.slice none 0 0))], 27, none⟩, ⟨.pointer (some q3), [(Vl (.int .i64 a1_0)), (Vl (.int .i64 a1_1)), (Vl (.int .i64 a1_2)), (Sl Kf a1_3), (Sl (Ki .i64) a1_4), (Vl (.slice none 0 0)), (Vl (.slice none 0 0))], 27, none⟩]⟩ : St))) (fun _ => rfl) (fun _ _ => rfl) ?_ hy1 (tx_to' rfl [0, 1] (sub_cons rfl (sub_cons rfl (sub_cons rfl (sub_cons rfl (sub_cons rfl sub_nil))))) (by decide) (pick_cons rfl (pick_cons rfl pick_nil))) ?_
                · clear hp hy1
                  clear y1
                  intro k rec1 KY1 ih1
                  rintro x7 ⟨⟩ y1 hp
                  replace hp : laws_gEqual_l1s a0_3 a1_3 k rec1 x7 = some y1 := hp
                  unfold laws_gEqual_l1s at hp
                  refine cx_seq' fun K13 hK13 => ?_
                  refine cx_region' ?_
                  refine sx_rd' (rd_bin' rfl rfl eg_int ru_lss) rfl rfl (wt_none' rfl) ?_
                  refine sx_nil' ?_
                  show TX E K13 _
                  refine tx_k' hK13 ?_
                  refine cx_seq' fun K14 hK14 => ?_
                  refine cx_cond' rfl (fun h9 => ?_) (fun h9 => ?_)
                  · replace hp := (br_t h9).symm.trans hp
                    refine cx_skip' ?_
                    show TX E K14 _
                    refine tx_k' hK14 ?_
                    refine cx_seq' fun K15 hK15 => ?_
                    refine cx_block' ?_
                    refine cx_seq' fun K16 hK16 => ?_
                    refine cx_region' ?_
                    refine sx_rd' (rd_move' rfl) rfl rfl (wt_none' rfl) ?_
                    obtain ⟨r68, hr68, hp⟩ := bind_some hp
                    refine sx_rd' (rd_at' (K := Kf) rfl rfl hr68 Try.underlying22 info32) rfl rfl (wt_none' rfl) ?_
                    refine sx_rd' (rd_load_pt' rfl rfl flat32) rfl rfl (wt_none' rfl) ?_
                    refine sx_rd' (rd_assign' rfl) rfl rfl (wt_none' rfl) ?_
                    refine sx_rd' (rd_assign' rfl) rfl rfl (wt_none' rfl) ?_
                    refine sx_nil' ?_
                    show TX E K16 _
                    refine tx_k' hK16 ?_
                    refine cx_seq' fun K17 hK17 => ?_
                    refine cx_region' ?_
                    refine sx_rd' (rd_move' rfl) rfl rfl (wt_none' rfl) ?_
                    refine sx_rd' (rd_field' (off := 3) rfl Try.underlying27 rfl info22 rfl) rfl rfl (wt_none' rfl) ?_
                    refine sx_rd' (rd_load' (i := 1) (o := 3) rfl ⟨rfl, rfl, rfl, rfl⟩ rfl flat22) rfl rfl (wt_none' rfl) ?_
                    refine sx_rd' (rd_move' rfl) rfl rfl (wt_none' rfl) ?_
                    obtain ⟨r74, hr74, hp⟩ := bind_some hp
                    refine sx_rd' (rd_at' (K := Kf) rfl rfl hr74 Try.underlying22 info32) rfl rfl (wt_none' rfl) ?_
                    refine sx_rd' (rd_load_pt' rfl rfl flat32) rfl rfl (wt_none' rfl) ?_
                    refine sx_rd' (rd_bin' rfl rfl eg_flt ru_fne) rfl rfl (wt_none' rfl) ?_
                    refine sx_nil' ?_
                    show TX E K17 _
                    refine tx_k' hK17 ?_
                    refine cx_cond' rfl (fun h10 => ?_) (fun h10 => ?_)
                    · replace hp := (br_t h10).symm.trans hp
                      refine cx_seq' fun K18 hK18 => ?_
                      refine cx_region' ?_
                      refine sx_rd' (rd_assign' rfl) rfl rfl (wt_none' rfl) ?_
                      refine sx_nil' ?_
                      show TX E K18 _
                      refine tx_k' hK18 ?_
                      refine cx_retc' ?_
                      replace hp := Option.some.inj hp
                      subst hp
                      show TX E (Zg E Exit.ret _ Exit.ret) _
                      exact tx_zend' () rfl [] (sub_cons rfl sub_nil) (by decide) pick_nil
                    · replace hp := (br_f h10).symm.trans hp
                      refine cx_skip' ?_
                      show TX E K15 _
                      refine tx_k' hK15 ?_
                      refine cx_region' ?_
                      refine sx_rd' (rd_bin' rfl rfl eg_int ru_add) rfl rfl (wt_none' rfl) ?_
                      refine sx_rd' (rd_move' rfl) rfl rfl (wt_none' rfl) ?_
                      refine sx_nil' ?_
                      show TX E (KY1 _) _
                      exact tx_pick' [0, 1] (sub_cons rfl (sub_cons rfl (sub_cons rfl (sub_cons rfl (sub_cons rfl sub_nil))))) (by decide) (pick_cons rfl (pick_cons rfl pick_nil)) (ih1 (iadd .i64 x7 1) () _ hp)
                  · replace hp := (br_f h9).symm.trans hp
                    refine cx_exit' ?_
                    replace hp := Option.some.inj hp
                    subst hp
                    show TX E (Zg E (Exit.exit 0) _ (Exit.exit 0)) _
                    exact tx_zend' () rfl [0, 1] (sub_cons rfl (sub_cons rfl sub_nil)) (by decide) (pick_cons rfl (pick_cons rfl pick_nil))
                · rcases y1 with v8 | v9
                  · dsimp only at hp
                    refine zg_out fun w8 => ?_
                    replace hp := Option.some.inj hp
                    subst hp
                    refine tx_pick' (L' := [(4, (Vl (.bool false)))]) (H' := []) [] (sub_cons rfl sub_nil) (by decide) pick_nil ?_
                    exact tx_ret1' Try.results47 rfl () (rv_tmp' rfl) (List.Sublist.refl _)
                  · dsimp only at hp
                    refine zg_out fun w9 => ?_
                    show TX E K11 _
                    refine tx_k' hK11 ?_
                    refine cx_seq' fun K19 hK19 => ?_
                    refine cx_seq' fun K20 hK20 => ?_
                    refine cx_region' ?_
                    refine sx_rd' (rd_field' (off := 6) rfl Try.underlying27 rfl info25 rfl) rfl rfl (wt_none' rfl) ?_
                    refine sx_rd' (rd_load' (i := 0) (o := 6) rfl ⟨rfl, rfl, rfl, rfl⟩ rfl flat25) rfl rfl (wt_none' rfl) ?_
                    refine sx_rd' (rd_lenv' rfl Try.underlying25) rfl rfl (wt_none' rfl) ?_
                    refine sx_rd' (rd_move' rfl) rfl rfl (wt_none' rfl) ?_
                    refine sx_nil' ?_
                    show TX E K20 _
                    refine tx_k' hK20 ?_
                    refine cx_block' ?_
                    obtain ⟨v11, hy2, hp⟩ := bind_some hp
                    refine cx_loopg' (F := laws_gEqual_l2) (G := fun k R v => laws_gEqual_l2s k R ) (x := ()) (gh := ()) (fun (v10 : Unit) (w10 : Unit) => (⟨95, [], [(3, (Vl (.pointer (some q3)))), (79, (Vl (.slice none 0 0))), (80, (Vl (.int .i64 ((0 : Nat) : Int)))), (81, (Vl (.int .i64 0)))], [⟨.pointer (some q3), [(Vl (.int .i64 a1_0)), (Vl (.int .i64 a1_1)), (Vl (.int .i64 a1_2)), (Sl Kf a1_3), (Sl (Ki .i64) a1_4), (Vl (.slice none 0 0)), (Vl (.slice none 0 0))], 27, none⟩]⟩ : St)) (fun (v11 : Unit) => Zg E (Exit.exit 2) (fun (w11 : Unit) => (⟨95, [], [], []⟩ : St))) (fun _ => rfl) (fun _ _ => rfl) ?_ hy2 (tx_to' rfl [1] (sub_cons rfl (sub_cons rfl (sub_cons rfl (sub_cons rfl sub_nil)))) (by decide) (pick_cons rfl pick_nil)) ?_
                    · clear hp hy2
                      clear v11
                      intro k rec2 KY2 ih2
                      rintro ⟨⟩ ⟨⟩ y2 hp
                      replace hp : laws_gEqual_l2s k rec2  = some y2 := hp
                      unfold laws_gEqual_l2s at hp
                      refine cx_seq' fun K21 hK21 => ?_
                      refine cx_region' ?_
                      refine sx_rd' (rd_bin' rfl rfl eg_int ru_lss) rfl rfl (wt_none' rfl) ?_
                      refine sx_nil' ?_
                      show TX E K21 _
                      refine tx_k' hK21 ?_
                      refine cx_seq' fun K22 hK22 => ?_
                      refine cx_cond_f' rfl rfl ?_
                      refine cx_exit' ?_
                      replace hp := Option.some.inj hp
                      subst hp
                      show TX E (Zg E (Exit.exit 2) _ (Exit.exit 2)) _
                      exact tx_zend' () rfl [] sub_nil (by decide) pick_nil
                    · refine zg_out fun w11 => ?_
                      show TX E K19 _
                      refine tx_k' hK19 ?_
                      refine cx_seq' fun K23 hK23 => ?_
                      refine cx_region' ?_
                      refine sx_rd' (rd_assign' rfl) rfl rfl (wt_none' rfl) ?_
                      refine sx_nil' ?_
                      show TX E K23 _
                      refine tx_k' hK23 ?_
                      refine cx_retc' ?_
                      replace hp := Option.some.inj hp
                      subst hp
                      refine tx_pick' (L' := [(4, (Vl (.bool true)))]) (H' := []) [] (sub_cons rfl sub_nil) (by decide) pick_nil ?_
                      exact tx_ret1' Try.results47 rfl () (rv_tmp' rfl) (List.Sublist.refl _)
            · intro K9 hK9
              rcases br_cases hp with ⟨h6, hp⟩ | ⟨h6, hp⟩
              · refine sx_skip' rfl rfl (wt_is' (wt_guard' rfl rfl rfl) (beq_tf h6)) ?_
                refine sx_skip' rfl rfl (wt_is' (wt_guard' rfl rfl rfl) (beq_tf h6)) ?_
                refine sx_skip' rfl rfl (wt_is' (wt_guard' rfl rfl rfl) (beq_tf h6)) ?_
                refine sx_skip' rfl rfl (wt_is' (wt_guard' rfl rfl rfl) (beq_tf h6)) ?_
                refine sx_skip' rfl rfl (wt_is' (wt_guard' rfl rfl rfl) (beq_tf h6)) ?_
                refine sx_skip' rfl rfl (wt_is' (wt_guard' rfl rfl rfl) (beq_tf h6)) ?_
                refine sx_skip' rfl rfl (wt_is' (wt_guard' rfl rfl rfl) (beq_tf h6)) ?_
                refine sx_rd' (rd_pick_true' rfl h6 rfl) rfl rfl (wt_none' rfl) ?_
                refine sx_nil' ?_
                show TX E K9 _
                exact tx_pick' [0, 1] (sub_cons rfl (sub_cons rfl (sub_cons rfl sub_nil))) (by decide) (pick_cons rfl (pick_cons rfl pick_nil)) (hK9 true hp)
              · refine sx_rd' (rd_field' (off := 6) rfl Try.underlying27 rfl info25 rfl) rfl rfl (wt_is' (wt_guard' rfl rfl rfl) (beq_ff h6)) ?_
                refine sx_rd' (rd_load' (i := 0) (o := 6) rfl ⟨rfl, rfl, rfl, rfl⟩ rfl flat25) rfl rfl (wt_is' (wt_guard' rfl rfl rfl) (beq_ff h6)) ?_
                refine sx_rd' (rd_lenv' rfl Try.underlying25) rfl rfl (wt_is' (wt_guard' rfl rfl rfl) (beq_ff h6)) ?_
                refine sx_rd' (rd_field' (off := 6) rfl Try.underlying27 rfl info25 rfl) rfl rfl (wt_is' (wt_guard' rfl rfl rfl) (beq_ff h6)) ?_
                refine sx_rd' (rd_load' (i := 1) (o := 6) rfl ⟨rfl, rfl, rfl, rfl⟩ rfl flat25) rfl rfl (wt_is' (wt_guard' rfl rfl rfl) (beq_ff h6)) ?_
                refine sx_rd' (rd_lenv' rfl Try.underlying25) rfl rfl (wt_is' (wt_guard' rfl rfl rfl) (beq_ff h6)) ?_
                refine sx_rd' (rd_bin' rfl rfl eg_int ru_neq) rfl rfl (wt_is' (wt_guard' rfl rfl rfl) (beq_ff h6)) ?_
                refine sx_rd' (rd_pick_false' rfl h6 rfl) rfl rfl (wt_none' rfl) ?_
                refine sx_nil' ?_
                show TX E K9 _
                exact tx_pick' [0, 1] (sub_cons rfl (sub_cons rfl (sub_cons rfl sub_nil))) (by decide) (pick_cons rfl (pick_cons rfl pick_nil)) (hK9 (!decide (((0 : Nat) : Int) = ((0 : Nat) : Int))) hp)
          · intro K8 hK8
            rcases br_cases hp with ⟨h5, hp⟩ | ⟨h5, hp⟩
            · refine sx_skip' rfl rfl (wt_is' (wt_guard' rfl rfl rfl) (beq_tf h5)) ?_
              refine sx_skip' rfl rfl (wt_is' (wt_guard' rfl rfl rfl) (beq_tf h5)) ?_
              refine sx_skip' rfl rfl (wt_is' (wt_guard' rfl rfl rfl) (beq_tf h5)) ?_
              refine sx_skip' rfl rfl (wt_is' (wt_guard' rfl rfl rfl) (beq_tf h5)) ?_
              refine sx_skip' rfl rfl (wt_is' (wt_guard' rfl rfl rfl) (beq_tf h5)) ?_
              refine sx_skip' rfl rfl (wt_is' (wt_guard' rfl rfl rfl) (beq_tf h5)) ?_
              refine sx_rd' (rd_pick_true' rfl h5 rfl) rfl rfl (wt_none' rfl) ?_
              refine sx_nil' ?_
              show TX E K8 _
              exact tx_pick' [0, 1] (sub_cons rfl (sub_cons rfl (sub_cons rfl sub_nil))) (by decide) (pick_cons rfl (pick_cons rfl pick_nil)) (hK8 true hp)
            · refine sx_rd' (rd_field' (off := 5) rfl Try.underlying27 rfl info24 rfl) rfl rfl (wt_is' (wt_guard' rfl rfl rfl) (beq_ff h5)) ?_
              refine sx_rd' (rd_load' (i := 0) (o := 5) rfl ⟨rfl, rfl, rfl, rfl⟩ rfl flat24) rfl rfl (wt_is' (wt_guard' rfl rfl rfl) (beq_ff h5)) ?_
              refine sx_rd' (rd_field' (off := 5) rfl Try.underlying27 rfl info24 rfl) rfl rfl (wt_is' (wt_guard' rfl rfl rfl) (beq_ff h5)) ?_
              refine sx_rd' (rd_load' (i := 1) (o := 5) rfl ⟨rfl, rfl, rfl, rfl⟩ rfl flat24) rfl rfl (wt_is' (wt_guard' rfl rfl rfl) (beq_ff h5)) ?_
              obtain ⟨r50, hr50, hp⟩ := bind_some hp
              refine sx_ox' (ox_calln' (ent_fn' Try.func44 isn44 rfl rfl) (laws_gIntss_sim hr50 : Go.Sx.Fn Try.prog 44 [(Vl (.slice none 0 0)), (Vl (.slice none 0 0))] [] (fun x : Unit => (Vl (.bool r50))) (fun x => [])) (Hn := fun x : Unit => [⟨.pointer (some q2), [(Vl (.int .i64 a0_0)), (Vl (.int .i64 a0_1)), (Vl (.int .i64 a0_2)), (Sl Kf a0_3), (Sl (Ki .i64) a0_4), (Vl (.slice none 0 0)), (Vl (.slice none 0 0))], 27, none⟩, ⟨.pointer (some q3), [(Vl (.int .i64 a1_0)), (Vl (.int .i64 a1_1)), (Vl (.int .i64 a1_2)), (Sl Kf a1_3), (Sl (Ki .i64) a1_4), (Vl (.slice none 0 0)), (Vl (.slice none 0 0))], 27, none⟩]) (fun _ => rfl) rfl rfl) (wt_is' (wt_guard' rfl rfl rfl) (beq_ff h5)) fun ⟨⟩ => ?_
              refine sx_rd' (rd_un' rfl ru_not) rfl rfl (wt_is' (wt_guard' rfl rfl rfl) (beq_ff h5)) ?_
              refine sx_rd' (rd_pick_false' rfl h5 rfl) rfl rfl (wt_none' rfl) ?_
              refine sx_nil' ?_
              show TX E K8 _
              exact tx_pick' [0, 1] (sub_cons rfl (sub_cons rfl (sub_cons rfl sub_nil))) (by decide) (pick_cons rfl (pick_cons rfl pick_nil)) (hK8 (!r50) hp)
        · intro K7 hK7
          rcases br_cases hp with ⟨h4, hp⟩ | ⟨h4, hp⟩
          · refine sx_skip' rfl rfl (wt_is' (wt_guard' rfl rfl rfl) (beq_tf h4)) ?_
            refine sx_skip' rfl rfl (wt_is' (wt_guard' rfl rfl rfl) (beq_tf h4)) ?_
            refine sx_skip' rfl rfl (wt_is' (wt_guard' rfl rfl rfl) (beq_tf h4)) ?_
            refine sx_skip' rfl rfl (wt_is' (wt_guard' rfl rfl rfl) (beq_tf h4)) ?_
            refine sx_skip' rfl rfl (wt_is' (wt_guard' rfl rfl rfl) (beq_tf h4)) ?_
            refine sx_skip' rfl rfl (wt_is' (wt_guard' rfl rfl rfl) (beq_tf h4)) ?_
            refine sx_rd' (rd_pick_true' rfl h4 rfl) rfl rfl (wt_none' rfl) ?_
            refine sx_nil' ?_
            show TX E K7 _
            exact tx_pick' [0, 1] (sub_cons rfl (sub_cons rfl (sub_cons rfl sub_nil))) (by decide) (pick_cons rfl (pick_cons rfl pick_nil)) (hK7 true hp)
          · refine sx_rd' (rd_field' (off := 4) rfl Try.underlying27 rfl info23 rfl) rfl rfl (wt_is' (wt_guard' rfl rfl rfl) (beq_ff h4)) ?_
            refine sx_rd' (rd_load' (i := 0) (o := 4) rfl ⟨rfl, rfl, rfl, rfl⟩ rfl flat23) rfl rfl (wt_is' (wt_guard' rfl rfl rfl) (beq_ff h4)) ?_
            refine sx_rd' (rd_field' (off := 4) rfl Try.underlying27 rfl info23 rfl) rfl rfl (wt_is' (wt_guard' rfl rfl rfl) (beq_ff h4)) ?_
            refine sx_rd' (rd_load' (i := 1) (o := 4) rfl ⟨rfl, rfl, rfl, rfl⟩ rfl flat23) rfl rfl (wt_is' (wt_guard' rfl rfl rfl) (beq_ff h4)) ?_
            obtain ⟨r42, hr42, hp⟩ := bind_some hp
            refine sx_ox' (ox_calln' (ent_fn' Try.func26 isn26 rfl rfl) (laws_gInts_sim _ _ hr42 : Go.Sx.Fn Try.prog 26 [(Sl (Ki .i64) a0_4), (Sl (Ki .i64) a1_4)] [] (fun x : Unit => (Vl (.bool r42))) (fun x => [])) (Hn := fun x : Unit => [⟨.pointer (some q2), [(Vl (.int .i64 a0_0)), (Vl (.int .i64 a0_1)), (Vl (.int .i64 a0_2)), (Sl Kf a0_3), (Sl (Ki .i64) a0_4), (Vl (.slice none 0 0)), (Vl (.slice none 0 0))], 27, none⟩, ⟨.pointer (some q3), [(Vl (.int .i64 a1_0)), (Vl (.int .i64 a1_1)), (Vl (.int .i64 a1_2)), (Sl Kf a1_3), (Sl (Ki .i64) a1_4), (Vl (.slice none 0 0)), (Vl (.slice none 0 0))], 27, none⟩]) (fun _ => rfl) rfl rfl) (wt_is' (wt_guard' rfl rfl rfl) (beq_ff h4)) fun ⟨⟩ => ?_
            refine sx_rd' (rd_un' rfl ru_not) rfl rfl (wt_is' (wt_guard' rfl rfl rfl) (beq_ff h4)) ?_
            refine sx_rd' (rd_pick_false' rfl h4 rfl) rfl rfl (wt_none' rfl) ?_
            refine sx_nil' ?_
            show TX E K7 _
            exact tx_pick' [0, 1] (sub_cons rfl (sub_cons rfl (sub_cons rfl sub_nil))) (by decide) (pick_cons rfl (pick_cons rfl pick_nil)) (hK7 (!r42) hp)
      · intro K6 hK6
        rcases br_cases hp with ⟨h3, hp⟩ | ⟨h3, hp⟩
        · refine sx_skip' rfl rfl (wt_is' (wt_guard' rfl rfl rfl) (beq_tf h3)) ?_
          refine sx_skip' rfl rfl (wt_is' (wt_guard' rfl rfl rfl) (beq_tf h3)) ?_
          refine sx_skip' rfl rfl (wt_is' (wt_guard' rfl rfl rfl) (beq_tf h3)) ?_
          refine sx_skip' rfl rfl (wt_is' (wt_guard' rfl rfl rfl) (beq_tf h3)) ?_
          refine sx_skip' rfl rfl (wt_is' (wt_guard' rfl rfl rfl) (beq_tf h3)) ?_
          refine sx_skip' rfl rfl (wt_is' (wt_guard' rfl rfl rfl) (beq_tf h3)) ?_
          refine sx_skip' rfl rfl (wt_is' (wt_guard' rfl rfl rfl) (beq_tf h3)) ?_
          refine sx_rd' (rd_pick_true' rfl h3 rfl) rfl rfl (wt_none' rfl) ?_
          refine sx_nil' ?_
          show TX E K6 _
          exact tx_pick' [0, 1] (sub_cons rfl (sub_cons rfl (sub_cons rfl sub_nil))) (by decide) (pick_cons rfl (pick_cons rfl pick_nil)) (hK6 true hp)
        · refine sx_rd' (rd_field' (off := 3) rfl Try.underlying27 rfl info22 rfl) rfl rfl (wt_is' (wt_guard' rfl rfl rfl) (beq_ff h3)) ?_
          refine sx_rd' (rd_load' (i := 0) (o := 3) rfl ⟨rfl, rfl, rfl, rfl⟩ rfl flat22) rfl rfl (wt_is' (wt_guard' rfl rfl rfl) (beq_ff h3)) ?_
          refine sx_rd' (rd_len' rfl Try.underlying22) rfl rfl (wt_is' (wt_guard' rfl rfl rfl) (beq_ff h3)) ?_
          refine sx_rd' (rd_field' (off := 3) rfl Try.underlying27 rfl info22 rfl) rfl rfl (wt_is' (wt_guard' rfl rfl rfl) (beq_ff h3)) ?_
          refine sx_rd' (rd_load' (i := 1) (o := 3) rfl ⟨rfl, rfl, rfl, rfl⟩ rfl flat22) rfl rfl (wt_is' (wt_guard' rfl rfl rfl) (beq_ff h3)) ?_
          refine sx_rd' (rd_len' rfl Try.underlying22) rfl rfl (wt_is' (wt_guard' rfl rfl rfl) (beq_ff h3)) ?_
          refine sx_rd' (rd_bin' rfl rfl eg_int ru_neq) rfl rfl (wt_is' (wt_guard' rfl rfl rfl) (beq_ff h3)) ?_
          refine sx_rd' (rd_pick_false' rfl h3 rfl) rfl rfl (wt_none' rfl) ?_
          refine sx_nil' ?_
          show TX E K6 _
          exact tx_pick' [0, 1] (sub_cons rfl (sub_cons rfl (sub_cons rfl sub_nil))) (by decide) (pick_cons rfl (pick_cons rfl pick_nil)) (hK6 (!decide ((a0_3.length : Int) = (a1_3.length : Int))) hp)
    · intro K5 hK5
      rcases br_cases hp with ⟨h2, hp⟩ | ⟨h2, hp⟩
      · refine sx_skip' rfl rfl (wt_is' (wt_guard' rfl rfl rfl) (beq_tf h2)) ?_
        refine sx_skip' rfl rfl (wt_is' (wt_guard' rfl rfl rfl) (beq_tf h2)) ?_
        refine sx_skip' rfl rfl (wt_is' (wt_guard' rfl rfl rfl) (beq_tf h2)) ?_
        refine sx_skip' rfl rfl (wt_is' (wt_guard' rfl rfl rfl) (beq_tf h2)) ?_
        refine sx_skip' rfl rfl (wt_is' (wt_guard' rfl rfl rfl) (beq_tf h2)) ?_
        refine sx_rd' (rd_pick_true' rfl h2 rfl) rfl rfl (wt_none' rfl) ?_
        refine sx_nil' ?_
        show TX E K5 _
        exact tx_pick' [0, 1] (sub_cons rfl (sub_cons rfl (sub_cons rfl sub_nil))) (by decide) (pick_cons rfl (pick_cons rfl pick_nil)) (hK5 true hp)
      · refine sx_rd' (rd_field' (off := 2) rfl Try.underlying27 rfl info3 rfl) rfl rfl (wt_is' (wt_guard' rfl rfl rfl) (beq_ff h2)) ?_
        refine sx_rd' (rd_load' (i := 0) (o := 2) rfl ⟨rfl, rfl, rfl, rfl⟩ rfl flat3) rfl rfl (wt_is' (wt_guard' rfl rfl rfl) (beq_ff h2)) ?_
        refine sx_rd' (rd_field' (off := 2) rfl Try.underlying27 rfl info3 rfl) rfl rfl (wt_is' (wt_guard' rfl rfl rfl) (beq_ff h2)) ?_
        refine sx_rd' (rd_load' (i := 1) (o := 2) rfl ⟨rfl, rfl, rfl, rfl⟩ rfl flat3) rfl rfl (wt_is' (wt_guard' rfl rfl rfl) (beq_ff h2)) ?_
        refine sx_rd' (rd_bin' rfl rfl eg_int ru_neq) rfl rfl (wt_is' (wt_guard' rfl rfl rfl) (beq_ff h2)) ?_
        refine sx_rd' (rd_pick_false' rfl h2 rfl) rfl rfl (wt_none' rfl) ?_
        refine sx_nil' ?_
        show TX E K5 _
        exact tx_pick' [0, 1] (sub_cons rfl (sub_cons rfl (sub_cons rfl sub_nil))) (by decide) (pick_cons rfl (pick_cons rfl pick_nil)) (hK5 (!decide (a0_2 = a1_2)) hp)
  · intro K4 hK4
    rcases br_cases hp with ⟨h1, hp⟩ | ⟨h1, hp⟩
    · refine sx_skip' rfl rfl (wt_is' (wt_guard' rfl rfl rfl) (beq_tf h1)) ?_
      refine sx_skip' rfl rfl (wt_is' (wt_guard' rfl rfl rfl) (beq_tf h1)) ?_
      refine sx_skip' rfl rfl (wt_is' (wt_guard' rfl rfl rfl) (beq_tf h1)) ?_
      refine sx_skip' rfl rfl (wt_is' (wt_guard' rfl rfl rfl) (beq_tf h1)) ?_
      refine sx_skip' rfl rfl (wt_is' (wt_guard' rfl rfl rfl) (beq_tf h1)) ?_
      refine sx_rd' (rd_pick_true' rfl h1 rfl) rfl rfl (wt_none' rfl) ?_
      refine sx_nil' ?_
      show TX E K4 _
      exact tx_pick' [1, 0] (sub_cons rfl (sub_cons rfl (sub_cons rfl sub_nil))) (by decide) (pick_cons rfl (pick_cons rfl pick_nil)) (hK4 true hp)
    · refine sx_rd' (rd_field' (off := 1) rfl Try.underlying27 rfl info3 rfl) rfl rfl (wt_is' (wt_guard' rfl rfl rfl) (beq_ff h1)) ?_
      refine sx_rd' (rd_load' (i := 1) (o := 1) rfl ⟨rfl, rfl, rfl, rfl⟩ rfl flat3) rfl rfl (wt_is' (wt_guard' rfl rfl rfl) (beq_ff h1)) ?_
      refine sx_rd' (rd_field' (off := 1) rfl Try.underlying27 rfl info3 rfl) rfl rfl (wt_is' (wt_guard' rfl rfl rfl) (beq_ff h1)) ?_
      refine sx_rd' (rd_load' (i := 0) (o := 1) rfl ⟨rfl, rfl, rfl, rfl⟩ rfl flat3) rfl rfl (wt_is' (wt_guard' rfl rfl rfl) (beq_ff h1)) ?_
      refine sx_rd' (rd_bin' rfl rfl eg_int ru_neq) rfl rfl (wt_is' (wt_guard' rfl rfl rfl) (beq_ff h1)) ?_
      refine sx_rd' (rd_pick_false' rfl h1 rfl) rfl rfl (wt_none' rfl) ?_
      refine sx_nil' ?_
      show TX E K4 _
      exact tx_pick' [1, 0] (sub_cons rfl (sub_cons rfl (sub_cons rfl sub_nil))) (by decide) (pick_cons rfl (pick_cons rfl pick_nil)) (hK4 (!decide (a0_1 = a1_1)) hp)

def laws_FnBoxPolygon_j3 (k : Nat) (x4 : Bool) : Option (Bool) :=
  some x4
def laws_FnBoxPolygon_j2 (k : Nat) (a0_0 : Int) (a0_1 : List Nat) (a0_2 : List Nat) (x2 : List Nat) (x3 : List Int) : Option (Bool) :=
  (impl_BoxPolygon k a0_0 a0_1 a0_2) >>= fun r58 =>
  br r58.2.2.2.2.2
    ((laws_gEqual k r58.1 r58.2.1 r58.2.2.1 r58.2.2.2.1 r58.2.2.2.2.1 3 1 0 x2 x3) >>= fun r65 =>
    laws_FnBoxPolygon_j3 k r65)
    (laws_FnBoxPolygon_j3 k false)
def laws_FnBoxPolygon_j1 (k : Nat) (a0_0 : Int) (a0_1 : List Nat) (a0_2 : List Nat) (x1 : Bool) : Option (Bool) :=
  br x1
    (some true)
    ((spec_BoxEmpty k a0_0 a0_1 a0_2) >>= fun r24 =>
    br (!r24)
      ((idx a0_1 0) >>= fun r28 =>
      (idx a0_1 1) >>= fun r32 =>
      (idx a0_2 0) >>= fun r36 =>
      (idx a0_2 1) >>= fun r40 =>
      laws_FnBoxPolygon_j2 k a0_0 a0_1 a0_2 ([r28, r32, r28, r40, r36, r40, r36, r32, r28, r32]) ([10]))
      (laws_FnBoxPolygon_j2 k a0_0 a0_1 a0_2 [] []))
def laws_FnBoxPolygon (k : Nat) (a0_0 : Int) (a0_1 : List Nat) (a0_2 : List Nat) : Option (Bool) :=
  (laws_zzFits1 k a0_0 a0_1 a0_2) >>= fun r11 =>
  br (!r11)
    (some true)
    ((laws_bBox k ([(a0_0, a0_1, a0_2)])) >>= fun r15 =>
    br (!r15)
      (laws_FnBoxPolygon_j1 k a0_0 a0_1 a0_2 true)
      (laws_FnBoxPolygon_j1 k a0_0 a0_1 a0_2 (decide (a0_0 < 1))))

theorem laws_FnBoxPolygon_sim {k : Nat}  (a0_0 : Int) (a0_1 : List Nat) (a0_2 : List Nat) {out : Bool} (hp : laws_FnBoxPolygon k a0_0 a0_1 a0_2 = some out) : Go.Sx.Fn Try.prog 9 [(Ag [(Vl (.int .i64 a0_0)), (Sl Kf a0_1), (Sl Kf a0_2)])] [] (fun w : Unit => (Vl (.bool out))) (fun w => []) := by
  unfold laws_FnBoxPolygon at hp
  refine fn_of Try.func9 rfl Try.ntmps9 rfl fun E hM => ?_
  refine cx_seq' fun K1 hK1 => ?_
  refine cx_region' ?_
  refine sx_ox' (ox_box' rfl (lv_ag _) rfl rfl) (wt_none' rfl) fun q1 => ?_
  refine sx_rd' (rd_assign' rfl) rfl rfl (wt_none' rfl) ?_
  refine sx_nil' ?_
  show TX E K1 _
  refine tx_k' hK1 ?_
  refine cx_seq' fun K2 hK2 => ?_
  refine cx_seq' fun K3 hK3 => ?_
  refine cx_region' ?_
  refine sx_rd' (rd_load_agg' (i := 0) (o := 0) (nn := 3) rfl ⟨rfl, rfl, rfl, rfl⟩ rfl agg55 (l' := [(Vl (.int .i64 a0_0)), (Sl Kf a0_1), (Sl Kf a0_2)]) rfl) rfl rfl (wt_none' rfl) ?_
  obtain ⟨r11, hr11, hp⟩ := bind_some hp
  refine sx_ox' (ox_calln' (ent_fn' Try.func27 isn27 rfl rfl) (laws_zzFits1_sim _ _ _ hr11 : Go.Sx.Fn Try.prog 27 [(Ag [(Vl (.int .i64 a0_0)), (Sl Kf a0_1), (Sl Kf a0_2)])] [] (fun x : Unit => (Vl (.bool r11))) (fun x => [])) (Hn := fun x : Unit => [⟨.pointer (some q1), [(Vl (.int .i64 a0_0)), (Sl Kf a0_1), (Sl Kf a0_2)], 55, none⟩]) (fun _ => rfl) rfl rfl) (wt_none' rfl) fun ⟨⟩ => ?_
  refine sx_rd' (rd_un' rfl ru_not) rfl rfl (wt_none' rfl) ?_
  refine sx_nil' ?_
  show TX E K3 _
  refine tx_k' hK3 ?_
  refine cx_cond' rfl (fun h1 => ?_) (fun h1 => ?_)
  · replace hp := (br_t h1).symm.trans hp
    refine cx_seq' fun K4 hK4 => ?_
    refine cx_region' ?_
    refine sx_rd' (rd_assign' rfl) rfl rfl (wt_none' rfl) ?_
    refine sx_nil' ?_
    show TX E K4 _
    refine tx_k' hK4 ?_
    refine cx_retc' ?_
    replace hp := Option.some.inj hp
    subst hp
    refine tx_pick' (L' := [(2, (Vl (.bool true)))]) (H' := []) [] (sub_cons rfl sub_nil) (by decide) pick_nil ?_
    exact tx_ret1' Try.results9 rfl () (rv_tmp' rfl) (List.Sublist.refl _)
  · replace hp := (br_f h1).symm.trans hp
    refine cx_skip' ?_
    show TX E K2 _
    refine tx_k' hK2 ?_
    refine cx_seq' fun K5 hK5 => ?_
    refine cx_seq' fun K6 hK6 => ?_
    refine cx_region' ?_
    refine sx_rd' (rd_load_agg' (i := 0) (o := 0) (nn := 3) rfl ⟨rfl, rfl, rfl, rfl⟩ rfl agg55 (l' := [(Vl (.int .i64 a0_0)), (Sl Kf a0_1), (Sl Kf a0_2)]) rfl) rfl rfl (wt_none' rfl) ?_
    refine sx_ox' (ox_rowlit' (K := K55) (xs := [(a0_0, a0_1, a0_2)]) (qs := [(0, [(Vl (.int .i64 a0_0)), (Sl Kf a0_1), (Sl Kf a0_2)])]) ⟨rfl, ⟨_, rfl, (lv_ag _)⟩, trivial⟩ Try.underlying109 info55 rfl rfl rfl rfl rfl (by kernel_rfl) rfl rfl rfl) (wt_none' rfl) fun g14 => ?_
    obtain ⟨r15, hr15, hp⟩ := bind_some hp
    refine sx_ox' (ox_brw' (frz_row 0 [(14, (Vl (Vs g14)), (Sl K55 ([(a0_0, a0_1, a0_2)])))] (K := K55) (xs := [(a0_0, a0_1, a0_2)]) (by decide) rfl ⟨⟨rfl, frz_it⟩, trivial⟩ (H' := [⟨.pointer (some q1), [(Vl (.int .i64 a0_0)), (Sl Kf a0_1), (Sl Kf a0_2)], 55, none⟩]) frzH_refl) (ent_fn' Try.func28 isn28 rfl rfl) (laws_bBox_sim _ hr15 : Go.Sx.Fn Try.prog 28 [(Sl K55 ([(a0_0, a0_1, a0_2)]))] [] (fun x : Unit => (Vl (.bool r15))) (fun x => [])) pu_vl rfl rfl) (wt_none' rfl) fun ⟨⟩ => ?_
    refine sx_rd' (rd_un' rfl ru_not) rfl rfl (wt_none' rfl) ?_
    refine sx_rd' (rd_move' rfl) rfl rfl (wt_none' rfl) ?_
    refine sx_cutn' 4 (fun (v1 : Bool) => (⟨67, [], [(1, (Vl (.pointer (some q1)))), (21, (Vl (.bool v1)))], [⟨.pointer (some q1), [(Vl (.int .i64 a0_0)), (Sl Kf a0_1), (Sl Kf a0_2)], 55, none⟩]⟩ : St)) (fun (v1 : Bool) => laws_FnBoxPolygon_j1 k a0_0 a0_1 a0_2 v1 = some out) ?_ ?_
    · rintro x1 hp
      replace hp : laws_FnBoxPolygon_j1 k a0_0 a0_1 a0_2 x1 = some out := hp
      unfold laws_FnBoxPolygon_j1 at hp
      refine sx_nil' ?_
      show TX E K6 _
      refine tx_k' hK6 ?_
      refine cx_cond' rfl (fun h3 => ?_) (fun h3 => ?_)
      · replace hp := (br_t h3).symm.trans hp
        refine cx_seq' fun K8 hK8 => ?_
        refine cx_region' ?_
        refine sx_rd' (rd_assign' rfl) rfl rfl (wt_none' rfl) ?_
        refine sx_nil' ?_
        show TX E K8 _
        refine tx_k' hK8 ?_
        refine cx_retc' ?_
        replace hp := Option.some.inj hp
        subst hp
        refine tx_pick' (L' := [(2, (Vl (.bool true)))]) (H' := []) [] (sub_cons rfl sub_nil) (by decide) pick_nil ?_
        exact tx_ret1' Try.results9 rfl () (rv_tmp' rfl) (List.Sublist.refl _)
      · replace hp := (br_f h3).symm.trans hp
        refine cx_skip' ?_
        show TX E K5 _
        refine tx_k' hK5 ?_
        refine cx_seq' fun K9 hK9 => ?_
        refine cx_region' ?_
        refine sx_rd' (rd_build' (pls := [(0, 1), (1, 1), (2, 1), (3, 1), (4, 1), (5, 1), (6, 1)]) (qs := [(0, [(Vl (.int .i64 3))]), (1, [(Vl (.int .i64 1))])]) (r := [(Vl (.int .i64 3)), (Vl (.int .i64 1)), (Vl (.int .i64 0)), (Vl (.slice none 0 0)), (Vl (.slice none 0 0)), (Vl (.slice none 0 0)), (Vl (.slice none 0 0))]) ⟨rfl, ⟨_, rfl, (lv_vl rfl rfl)⟩, ⟨rfl, ⟨_, rfl, (lv_vl rfl rfl)⟩, trivial⟩⟩ Try.underlying27 has27 places27 info27 rfl rfl rfl) rfl rfl (wt_none' rfl) ?_
        refine sx_ox' (ox_alloc' info27 rfl rfl rfl rfl (l := [(Vl (.int .i64 0)), (Vl (.int .i64 0)), (Vl (.int .i64 0)), (Vl (.slice none 0 0)), (Vl (.slice none 0 0)), (Vl (.slice none 0 0)), (Vl (.slice none 0 0))]) rfl) (wt_none' rfl) fun q3 => ?_
        refine sx_ox' (ox_store' (i := 0) (o := 0) rfl rfl (lv_ag _) ⟨rfl, rfl, rfl, rfl⟩ rfl info27 rfl (H' := [⟨.pointer (some q3), [(Vl (.int .i64 3)), (Vl (.int .i64 1)), (Vl (.int .i64 0)), (Vl (.slice none 0 0)), (Vl (.slice none 0 0)), (Vl (.slice none 0 0)), (Vl (.slice none 0 0))], 27, none⟩, ⟨.pointer (some q1), [(Vl (.int .i64 a0_0)), (Sl Kf a0_1), (Sl Kf a0_2)], 55, none⟩]) rfl) (wt_none' rfl) fun _ => ?_
        refine sx_nil' ?_
        show TX E K9 _
        refine tx_k' hK9 ?_
        refine cx_join' (fun (v2 : (List Nat) × (List Int) × Gs × Gs) => (⟨67, [], [(1, (Vl (.pointer (some q1)))), (3, (Vl (.pointer (some q3))))], [⟨.pointer (some q1), [(Vl (.int .i64 a0_0)), (Sl Kf a0_1), (Sl Kf a0_2)], 55, none⟩, ⟨.pointer (some q3), [(Vl (.int .i64 3)), (Vl (.int .i64 1)), (Vl (.int .i64 0)), (Vl (Vs v2.2.2.1)), (Vl (Vs v2.2.2.2)), (Vl (.slice none 0 0)), (Vl (.slice none 0 0))], 27, none⟩, (Rw Kf 32 (Vs v2.2.2.1) v2.1), (Rw (Ki .i64) 3 (Vs v2.2.2.2) v2.2.1)]⟩ : St)) (fun (v2 : (List Nat) × (List Int) × Gs × Gs) => laws_FnBoxPolygon_j2 k a0_0 a0_1 a0_2 v2.1 v2.2.1 = some out) ?_ ?_
        · rintro ⟨x2, x3, g901, g902⟩ hp
          replace hp : laws_FnBoxPolygon_j2 k a0_0 a0_1 a0_2 x2 x3 = some out := hp
          unfold laws_FnBoxPolygon_j2 at hp
          refine cx_seq' fun K13 hK13 => ?_
          refine cx_region' ?_
          refine sx_rd' (rd_load_agg' (i := 0) (o := 0) (nn := 3) rfl ⟨rfl, rfl, rfl, rfl⟩ rfl agg55 (l' := [(Vl (.int .i64 a0_0)), (Sl Kf a0_1), (Sl Kf a0_2)]) rfl) rfl rfl (wt_none' rfl) ?_
          obtain ⟨r58, hr58, hp⟩ := bind_some hp
          refine sx_ox' (ox_calln' (ent_fn' Try.func46 isn46 rfl rfl) (impl_BoxPolygon_sim _ _ _ hr58 : Go.Sx.Fn Try.prog 46 [(Ag [(Vl (.int .i64 a0_0)), (Sl Kf a0_1), (Sl Kf a0_2)])] [] (fun x : Unit => (Tu [(Ag [(Vl (.int .i64 r58.1)), (Vl (.int .i64 r58.2.1)), (Vl (.int .i64 r58.2.2.1)), (Sl Kf r58.2.2.2.1), (Sl (Ki .i64) r58.2.2.2.2.1), (Vl (.slice none 0 0)), (Vl (.slice none 0 0))]), (Vl (.bool r58.2.2.2.2.2))])) (fun x => [])) (Hn := fun x : Unit => [⟨.pointer (some q1), [(Vl (.int .i64 a0_0)), (Sl Kf a0_1), (Sl Kf a0_2)], 55, none⟩, ⟨.pointer (some q3), [(Vl (.int .i64 3)), (Vl (.int .i64 1)), (Vl (.int .i64 0)), (Vl (Vs g901)), (Vl (Vs g902)), (Vl (.slice none 0 0)), (Vl (.slice none 0 0))], 27, none⟩, (Rw Kf 32 (Vs g901) x2), (Rw (Ki .i64) 3 (Vs g902) x3)]) (fun _ => rfl) rfl rfl) (wt_none' rfl) fun ⟨⟩ => ?_
          refine sx_rd' (rd_move' rfl) rfl rfl (wt_none' rfl) ?_
          refine sx_rd' (rd_extract' rfl rfl) rfl rfl (wt_none' rfl) ?_
          refine sx_rd' (rd_extract' rfl rfl) rfl rfl (wt_none' rfl) ?_
          refine sx_ox' (ox_alloc' info27 rfl rfl rfl rfl (l := [(Vl (.int .i64 0)), (Vl (.int .i64 0)), (Vl (.int .i64 0)), (Vl (.slice none 0 0)), (Vl (.slice none 0 0)), (Vl (.slice none 0 0)), (Vl (.slice none 0 0))]) rfl) (wt_none' rfl) fun q8 => ?_
          refine sx_ox' (ox_store' (i := 0) (o := 0) rfl rfl (lv_ag _) ⟨rfl, rfl, rfl, rfl⟩ rfl info27 rfl (H' := [⟨.pointer (some q8), [(Vl (.int .i64 r58.1)), (Vl (.int .i64 r58.2.1)), (Vl (.int .i64 r58.2.2.1)), (Sl Kf r58.2.2.2.1), (Sl (Ki .i64) r58.2.2.2.2.1), (Vl (.slice none 0 0)), (Vl (.slice none 0 0))], 27, none⟩, ⟨.pointer (some q1), [(Vl (.int .i64 a0_0)), (Sl Kf a0_1), (Sl Kf a0_2)], 55, none⟩, ⟨.pointer (some q3), [(Vl (.int .i64 3)), (Vl (.int .i64 1)), (Vl (.int .i64 0)), (Vl (Vs g901)), (Vl (Vs g902)), (Vl (.slice none 0 0)), (Vl (.slice none 0 0))], 27, none⟩, (Rw Kf 32 (Vs g901) x2), (Rw (Ki .i64) 3 (Vs g902) x3)]) rfl) (wt_none' rfl) fun _ => ?_
          refine sx_rd' (rd_assign' rfl) rfl rfl (wt_none' rfl) ?_
          refine sx_nil' ?_
          show TX E K13 _
          refine tx_k' hK13 ?_
          refine cx_seq' fun K14 hK14 => ?_
          refine cx_region' ?_
          refine sx_rd' (rd_move' rfl) rfl rfl (wt_none' rfl) ?_
          refine sx_rd' (rd_move' rfl) rfl rfl (wt_none' rfl) ?_
          refine sx_cutn' 4 (fun (v3 : Bool) => (⟨67, [], [(66, (Vl (.bool v3)))], []⟩ : St)) (fun (v3 : Bool) => laws_FnBoxPolygon_j3 k v3 = some out) ?_ ?_
          · rintro x4 hp
            replace hp : laws_FnBoxPolygon_j3 k x4 = some out := hp
            unfold laws_FnBoxPolygon_j3 at hp
            refine sx_rd' (rd_assign' rfl) rfl rfl (wt_none' rfl) ?_
            refine sx_nil' ?_
            show TX E K14 _
            refine tx_k' hK14 ?_
            refine cx_retc' ?_
            replace hp := Option.some.inj hp
            subst hp
            refine tx_pick' (L' := [(2, (Vl (.bool x4)))]) (H' := []) [] (sub_cons rfl sub_nil) (by decide) pick_nil ?_
            exact tx_ret1' Try.results9 rfl () (rv_tmp' rfl) (List.Sublist.refl _)
          · intro K15 hK15
            rcases br_cases hp with ⟨h5, hp⟩ | ⟨h5, hp⟩
            · refine sx_rd' (rd_load_agg' (i := 0) (o := 0) (nn := 7) rfl ⟨rfl, rfl, rfl, rfl⟩ rfl agg27 (l' := [(Vl (.int .i64 r58.1)), (Vl (.int .i64 r58.2.1)), (Vl (.int .i64 r58.2.2.1)), (Sl Kf r58.2.2.2.1), (Sl (Ki .i64) r58.2.2.2.2.1), (Vl (.slice none 0 0)), (Vl (.slice none 0 0))]) rfl) rfl rfl (wt_is' (wt_guard' rfl rfl rfl) (beq_tt h5)) ?_
              refine sx_rd' (rd_load_agg' (i := 2) (o := 0) (nn := 7) rfl ⟨rfl, rfl, rfl, rfl⟩ rfl agg27 (l' := [(Vl (.int .i64 3)), (Vl (.int .i64 1)), (Vl (.int .i64 0)), (Vl (Vs g901)), (Vl (Vs g902)), (Vl (.slice none 0 0)), (Vl (.slice none 0 0))]) rfl) rfl rfl (wt_is' (wt_guard' rfl rfl rfl) (beq_tt h5)) ?_
              obtain ⟨r65, hr65, hp⟩ := bind_some hp
              refine sx_ox' (ox_brw' (frz_comp (frz_row 3 [(64, (Ag [(Vl (.int .i64 3)), (Vl (.int .i64 1)), (Vl (.int .i64 0)), (Vl (Vs g901)), (Vl (Vs g902)), (Vl (.slice none 0 0)), (Vl (.slice none 0 0))]), (Ag [(Vl (.int .i64 3)), (Vl (.int .i64 1)), (Vl (.int .i64 0)), (Sl Kf x2), (Vl (Vs g902)), (Vl (.slice none 0 0)), (Vl (.slice none 0 0))]))] (K := Kf) (xs := x2) (by decide) rfl ⟨⟨rfl, fz_ag (fz0_cons fz0_same (fz0_cons fz0_same (fz0_cons fz0_same (fz0_cons fz0_it (fz0_cons fz0_same (fz0_cons fz0_same (fz0_cons fz0_same fz0_nil)))))))⟩, trivial⟩ (H' := [⟨.pointer (some q8), [(Vl (.int .i64 r58.1)), (Vl (.int .i64 r58.2.1)), (Vl (.int .i64 r58.2.2.1)), (Sl Kf r58.2.2.2.1), (Sl (Ki .i64) r58.2.2.2.2.1), (Vl (.slice none 0 0)), (Vl (.slice none 0 0))], 27, none⟩, ⟨.pointer (some q1), [(Vl (.int .i64 a0_0)), (Sl Kf a0_1), (Sl Kf a0_2)], 55, none⟩, ⟨.pointer (some q3), [(Vl (.int .i64 3)), (Vl (.int .i64 1)), (Vl (.int .i64 0)), (Sl Kf x2), (Vl (Vs g902)), (Vl (.slice none 0 0)), (Vl (.slice none 0 0))], 27, none⟩, (Rw (Ki .i64) 3 (Vs g902) x3)]) (frzH_cons rfl rfl rfl frzL_refl (frzH_cons rfl rfl rfl frzL_refl (frzH_cons rfl rfl rfl (frzL_cons frz_same (frzL_cons frz_same (frzL_cons frz_same (frzL_cons frz_it (frzL_cons frz_same (frzL_cons frz_same (frzL_cons frz_same frzL_refl))))))) (frzH_cons rfl rfl rfl frzL_refl frzH_refl))))) (frz_row 3 [(64, (Ag [(Vl (.int .i64 3)), (Vl (.int .i64 1)), (Vl (.int .i64 0)), (Sl Kf x2), (Vl (Vs g902)), (Vl (.slice none 0 0)), (Vl (.slice none 0 0))]), (Ag [(Vl (.int .i64 3)), (Vl (.int .i64 1)), (Vl (.int .i64 0)), (Sl Kf x2), (Sl (Ki .i64) x3), (Vl (.slice none 0 0)), (Vl (.slice none 0 0))]))] (K := (Ki .i64)) (xs := x3) (by decide) rfl ⟨⟨rfl, fz_ag (fz0_cons fz0_same (fz0_cons fz0_same (fz0_cons fz0_same (fz0_cons fz0_same (fz0_cons fz0_it (fz0_cons fz0_same (fz0_cons fz0_same fz0_nil)))))))⟩, trivial⟩ (H' := [⟨.pointer (some q8), [(Vl (.int .i64 r58.1)), (Vl (.int .i64 r58.2.1)), (Vl (.int .i64 r58.2.2.1)), (Sl Kf r58.2.2.2.1), (Sl (Ki .i64) r58.2.2.2.2.1), (Vl (.slice none 0 0)), (Vl (.slice none 0 0))], 27, none⟩, ⟨.pointer (some q1), [(Vl (.int .i64 a0_0)), (Sl Kf a0_1), (Sl Kf a0_2)], 55, none⟩, ⟨.pointer (some q3), [(Vl (.int .i64 3)), (Vl (.int .i64 1)), (Vl (.int .i64 0)), (Sl Kf x2), (Sl (Ki .i64) x3), (Vl (.slice none 0 0)), (Vl (.slice none 0 0))], 27, none⟩]) (frzH_cons rfl rfl rfl frzL_refl (frzH_cons rfl rfl rfl frzL_refl (frzH_cons rfl rfl rfl (frzL_cons frz_same (frzL_cons frz_same (frzL_cons frz_same (frzL_cons frz_same (frzL_cons frz_it (frzL_cons frz_same (frzL_cons frz_same frzL_refl))))))) frzH_refl))))) (ent_fn' Try.func47 isn47 rfl rfl) (laws_gEqual_sim _ _ _ _ _ _ _ _ _ _ hr65 : Go.Sx.Fn Try.prog 47 [(Ag [(Vl (.int .i64 r58.1)), (Vl (.int .i64 r58.2.1)), (Vl (.int .i64 r58.2.2.1)), (Sl Kf r58.2.2.2.1), (Sl (Ki .i64) r58.2.2.2.2.1), (Vl (.slice none 0 0)), (Vl (.slice none 0 0))]), (Ag [(Vl (.int .i64 3)), (Vl (.int .i64 1)), (Vl (.int .i64 0)), (Sl Kf x2), (Sl (Ki .i64) x3), (Vl (.slice none 0 0)), (Vl (.slice none 0 0))])] [] (fun x : Unit => (Vl (.bool r65))) (fun x => [])) pu_vl rfl rfl) (wt_is' (wt_guard' rfl rfl rfl) (beq_tt h5)) fun ⟨⟩ => ?_
              refine sx_rd' (rd_pick_true' rfl h5 rfl) rfl rfl (wt_none' rfl) ?_
              refine sx_nil' ?_
              show TX E K15 _
              exact tx_pick' [] (sub_cons rfl sub_nil) (by decide) pick_nil (hK15 r65 hp)
            · refine sx_skip' rfl rfl (wt_is' (wt_guard' rfl rfl rfl) (beq_ft h5)) ?_
              refine sx_skip' rfl rfl (wt_is' (wt_guard' rfl rfl rfl) (beq_ft h5)) ?_
              refine sx_skip' rfl rfl (wt_is' (wt_guard' rfl rfl rfl) (beq_ft h5)) ?_
              refine sx_rd' (rd_pick_false' rfl h5 rfl) rfl rfl (wt_none' rfl) ?_
              refine sx_nil' ?_
              show TX E K15 _
              exact tx_pick' [] (sub_cons rfl sub_nil) (by decide) pick_nil (hK15 false hp)
        · intro K10 hK10
          refine cx_seq' fun K11 hK11 => ?_
          refine cx_region' ?_
          refine sx_rd' (rd_load_agg' (i := 1) (o := 0) (nn := 3) rfl ⟨rfl, rfl, rfl, rfl⟩ rfl agg55 (l' := [(Vl (.int .i64 a0_0)), (Sl Kf a0_1), (Sl Kf a0_2)]) rfl) rfl rfl (wt_none' rfl) ?_
          obtain ⟨r24, hr24, hp⟩ := bind_some hp
          refine sx_ox' (ox_calln' (ent_fn' Try.func45 isn45 rfl rfl) (spec_BoxEmpty_sim _ _ _ hr24 : Go.Sx.Fn Try.prog 45 [(Ag [(Vl (.int .i64 a0_0)), (Sl Kf a0_1), (Sl Kf a0_2)])] [] (fun x : Unit => (Vl (.bool r24))) (fun x => [])) (Hn := fun x : Unit => [⟨.pointer (some q3), [(Vl (.int .i64 3)), (Vl (.int .i64 1)), (Vl (.int .i64 0)), (Vl (.slice none 0 0)), (Vl (.slice none 0 0)), (Vl (.slice none 0 0)), (Vl (.slice none 0 0))], 27, none⟩, ⟨.pointer (some q1), [(Vl (.int .i64 a0_0)), (Sl Kf a0_1), (Sl Kf a0_2)], 55, none⟩]) (fun _ => rfl) rfl rfl) (wt_none' rfl) fun ⟨⟩ => ?_
          refine sx_rd' (rd_un' rfl ru_not) rfl rfl (wt_none' rfl) ?_
          refine sx_nil' ?_
          show TX E K11 _
          refine tx_k' hK11 ?_
          refine cx_cond' rfl (fun h4 => ?_) (fun h4 => ?_)
          · replace hp := (br_t h4).symm.trans hp
            refine cx_seq' fun K12 hK12 => ?_
            refine cx_draw' mixed (by kernel_rfl) ?_
            refine qx_rd' (rd_field' (off := 1) rfl Try.underlying55 rfl info22 rfl) rfl rfl (wt_none' rfl) ?_
            refine qx_rd' (rd_load' (i := 1) (o := 1) rfl ⟨rfl, rfl, rfl, rfl⟩ rfl flat22) rfl rfl (wt_none' rfl) ?_
            obtain ⟨r28, hr28, hp⟩ := bind_some hp
            refine qx_rd' (rd_at' (K := Kf) rfl rfl hr28 Try.underlying22 info32) rfl rfl (wt_none' rfl) ?_
            refine qx_rd' (rd_load_pt' rfl rfl flat32) rfl rfl (wt_none' rfl) ?_
            refine qx_rd' (rd_field' (off := 1) rfl Try.underlying55 rfl info22 rfl) rfl rfl (wt_none' rfl) ?_
            refine qx_rd' (rd_load' (i := 1) (o := 1) rfl ⟨rfl, rfl, rfl, rfl⟩ rfl flat22) rfl rfl (wt_none' rfl) ?_
            obtain ⟨r32, hr32, hp⟩ := bind_some hp
            refine qx_rd' (rd_at' (K := Kf) rfl rfl hr32 Try.underlying22 info32) rfl rfl (wt_none' rfl) ?_
            refine qx_rd' (rd_load_pt' rfl rfl flat32) rfl rfl (wt_none' rfl) ?_
            refine qx_rd' (rd_field' (off := 2) rfl Try.underlying55 rfl info22 rfl) rfl rfl (wt_none' rfl) ?_
            refine qx_rd' (rd_load' (i := 1) (o := 2) rfl ⟨rfl, rfl, rfl, rfl⟩ rfl flat22) rfl rfl (wt_none' rfl) ?_
            obtain ⟨r36, hr36, hp⟩ := bind_some hp
            refine qx_rd' (rd_at' (K := Kf) rfl rfl hr36 Try.underlying22 info32) rfl rfl (wt_none' rfl) ?_
            refine qx_rd' (rd_load_pt' rfl rfl flat32) rfl rfl (wt_none' rfl) ?_
            refine qx_rd' (rd_field' (off := 2) rfl Try.underlying55 rfl info22 rfl) rfl rfl (wt_none' rfl) ?_
            refine qx_rd' (rd_load' (i := 1) (o := 2) rfl ⟨rfl, rfl, rfl, rfl⟩ rfl flat22) rfl rfl (wt_none' rfl) ?_
            obtain ⟨r40, hr40, hp⟩ := bind_some hp
            refine qx_rd' (rd_at' (K := Kf) rfl rfl hr40 Try.underlying22 info32) rfl rfl (wt_none' rfl) ?_
            refine qx_rd' (rd_load_pt' rfl rfl flat32) rfl rfl (wt_none' rfl) ?_
            refine qx_rd' (rd_assign' rfl) rfl rfl (wt_none' rfl) ?_
            refine qx_rd' (rd_assign' rfl) rfl rfl (wt_none' rfl) ?_
            refine qx_rd' (rd_assign' rfl) rfl rfl (wt_none' rfl) ?_
            refine qx_rd' (rd_assign' rfl) rfl rfl (wt_none' rfl) ?_
            refine qx_nil' ?_
            show TX E K12 _
            refine tx_k' hK12 ?_
            refine cx_region' ?_
            refine sx_rd' (rd_move' rfl) rfl rfl (wt_none' rfl) ?_
            refine sx_rd' (rd_move' rfl) rfl rfl (wt_none' rfl) ?_
            refine sx_rd' (rd_move' rfl) rfl rfl (wt_none' rfl) ?_
            refine sx_rd' (rd_move' rfl) rfl rfl (wt_none' rfl) ?_
            refine sx_rd' (rd_move' rfl) rfl rfl (wt_none' rfl) ?_
            refine sx_rd' (rd_move' rfl) rfl rfl (wt_none' rfl) ?_
            refine sx_rd' (rd_move' rfl) rfl rfl (wt_none' rfl) ?_
            refine sx_rd' (rd_move' rfl) rfl rfl (wt_none' rfl) ?_
            refine sx_rd' (rd_move' rfl) rfl rfl (wt_none' rfl) ?_
            refine sx_rd' (rd_move' rfl) rfl rfl (wt_none' rfl) ?_
            refine sx_ox' (ox_rowlit' (K := Kf) (xs := [r28, r32, r28, r40, r36, r40, r36, r32, r28, r32]) (qs := [(0, [(Vl (.float .f64 r28))]), (1, [(Vl (.float .f64 r32))]), (2, [(Vl (.float .f64 r28))]), (3, [(Vl (.float .f64 r40))]), (4, [(Vl (.float .f64 r36))]), (5, [(Vl (.float .f64 r40))]), (6, [(Vl (.float .f64 r36))]), (7, [(Vl (.float .f64 r32))]), (8, [(Vl (.float .f64 r28))]), (9, [(Vl (.float .f64 r32))])]) ⟨rfl, ⟨_, rfl, (lv_vl rfl rfl)⟩, ⟨rfl, ⟨_, rfl, (lv_vl rfl rfl)⟩, ⟨rfl, ⟨_, rfl, (lv_vl rfl rfl)⟩, ⟨rfl, ⟨_, rfl, (lv_vl rfl rfl)⟩, ⟨rfl, ⟨_, rfl, (lv_vl rfl rfl)⟩, ⟨rfl, ⟨_, rfl, (lv_vl rfl rfl)⟩, ⟨rfl, ⟨_, rfl, (lv_vl rfl rfl)⟩, ⟨rfl, ⟨_, rfl, (lv_vl rfl rfl)⟩, ⟨rfl, ⟨_, rfl, (lv_vl rfl rfl)⟩, ⟨rfl, ⟨_, rfl, (lv_vl rfl rfl)⟩, trivial⟩⟩⟩⟩⟩⟩⟩⟩⟩⟩ Try.underlying22 info32 rfl rfl rfl rfl rfl (by kernel_rfl) rfl rfl rfl) (wt_none' rfl) fun g52 => ?_
            refine sx_ox' (ox_rowlit' (K := (Ki .i64)) (xs := [10]) (qs := [(0, [(Vl (.int .i64 10))])]) ⟨rfl, ⟨_, rfl, (lv_vl rfl rfl)⟩, trivial⟩ Try.underlying23 info3 rfl rfl rfl rfl rfl (by kernel_rfl) rfl rfl rfl) (wt_none' rfl) fun g53 => ?_
            refine sx_rd' (rd_field' (off := 3) rfl Try.underlying27 rfl info22 rfl) rfl rfl (wt_none' rfl) ?_
            refine sx_ox' (ox_store' (i := 2) (o := 3) rfl rfl (lv_vl rfl rfl) ⟨rfl, rfl, rfl, rfl⟩ rfl info22 rfl (H' := [(Rw (Ki .i64) 3 (Vs g53) ([10])), (Rw Kf 32 (Vs g52) ([r28, r32, r28, r40, r36, r40, r36, r32, r28, r32])), ⟨.pointer (some q3), [(Vl (.int .i64 3)), (Vl (.int .i64 1)), (Vl (.int .i64 0)), (Vl (Vs g52)), (Vl (.slice none 0 0)), (Vl (.slice none 0 0)), (Vl (.slice none 0 0))], 27, none⟩, ⟨.pointer (some q1), [(Vl (.int .i64 a0_0)), (Sl Kf a0_1), (Sl Kf a0_2)], 55, none⟩]) rfl) (wt_none' rfl) fun _ => ?_
            refine sx_rd' (rd_field' (off := 4) rfl Try.underlying27 rfl info23 rfl) rfl rfl (wt_none' rfl) ?_
            refine sx_ox' (ox_store' (i := 2) (o := 4) rfl rfl (lv_vl rfl rfl) ⟨rfl, rfl, rfl, rfl⟩ rfl info23 rfl (H' := [(Rw (Ki .i64) 3 (Vs g53) ([10])), (Rw Kf 32 (Vs g52) ([r28, r32, r28, r40, r36, r40, r36, r32, r28, r32])), ⟨.pointer (some q3), [(Vl (.int .i64 3)), (Vl (.int .i64 1)), (Vl (.int .i64 0)), (Vl (Vs g52)), (Vl (Vs g53)), (Vl (.slice none 0 0)), (Vl (.slice none 0 0))], 27, none⟩, ⟨.pointer (some q1), [(Vl (.int .i64 a0_0)), (Sl Kf a0_1), (Sl Kf a0_2)], 55, none⟩]) rfl) (wt_none' rfl) fun _ => ?_
            refine sx_nil' ?_
            show TX E K10 _
            exact tx_pick' [3, 2, 1, 0] (sub_cons rfl (sub_cons rfl sub_nil)) (by decide) (pick_cons rfl (pick_cons rfl (pick_cons rfl (pick_cons rfl pick_nil)))) (hK10 (([r28, r32, r28, r40, r36, r40, r36, r32, r28, r32]), ([10]), g52, g53) hp)
          · replace hp := (br_f h4).symm.trans hp
            refine cx_skip' ?_
            show TX E K10 _
            refine tx_nilrow' Kf 32 ?_
            refine tx_nilrow' (Ki .i64) 3 ?_
            exact tx_pick' [3, 2, 1, 0] (sub_cons rfl (sub_cons rfl sub_nil)) (by decide) (pick_cons rfl (pick_cons rfl (pick_cons rfl (pick_cons rfl pick_nil)))) (hK10 ([], [], (none, 0, 0), (none, 0, 0)) hp)
    · intro K7 hK7
      rcases br_cases hp with ⟨h2, hp⟩ | ⟨h2, hp⟩
      · refine sx_skip' rfl rfl (wt_is' (wt_guard' rfl rfl rfl) (beq_tf h2)) ?_
        refine sx_skip' rfl rfl (wt_is' (wt_guard' rfl rfl rfl) (beq_tf h2)) ?_
        refine sx_skip' rfl rfl (wt_is' (wt_guard' rfl rfl rfl) (beq_tf h2)) ?_
        refine sx_rd' (rd_pick_true' rfl h2 rfl) rfl rfl (wt_none' rfl) ?_
        refine sx_nil' ?_
        show TX E K7 _
        exact tx_pick' [1] (sub_cons rfl (sub_cons rfl sub_nil)) (by decide) (pick_cons rfl pick_nil) (hK7 true hp)
      · refine sx_rd' (rd_field0' rfl Try.underlying55 rfl info3 rfl) rfl rfl (wt_is' (wt_guard' rfl rfl rfl) (beq_ff h2)) ?_
        refine sx_rd' (rd_load' (i := 1) (o := 0) rfl ⟨rfl, rfl, rfl, rfl⟩ rfl flat3) rfl rfl (wt_is' (wt_guard' rfl rfl rfl) (beq_ff h2)) ?_
        refine sx_rd' (rd_bin' rfl rfl eg_int ru_lss) rfl rfl (wt_is' (wt_guard' rfl rfl rfl) (beq_ff h2)) ?_
        refine sx_rd' (rd_pick_false' rfl h2 rfl) rfl rfl (wt_none' rfl) ?_
        refine sx_nil' ?_
        show TX E K7 _
        exact tx_pick' [1] (sub_cons rfl (sub_cons rfl sub_nil)) (by decide) (pick_cons rfl pick_nil) (hK7 (decide (a0_0 < 1)) hp)

end Go.Proofs.Ytkeaodoibflhnaa
