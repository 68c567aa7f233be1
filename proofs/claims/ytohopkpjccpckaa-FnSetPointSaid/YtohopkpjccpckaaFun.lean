/-
  Plain functions for the Go functions that this law reaches, and that each call does what its plain function says. Printed by a program of ours.
-/
import Derived.Test.YtohopkpjccpckaaProg
import Derived.Test.YtohopkpjccpckaaSxZ
namespace Go.Proofs.Ytohopkpjccpckaa
open Go.Sx
set_option linter.unusedVariables false
set_option maxRecDepth 100000

theorem isn11 : (Try.f11.name == "runtime.NumGoroutine") = false := by kernel_rfl
theorem isn41 : (Try.f41.name == "runtime.NumGoroutine") = false := by kernel_rfl
theorem isn80 : (Try.f80.name == "runtime.NumGoroutine") = false := by kernel_rfl
theorem isn79 : (Try.f79.name == "runtime.NumGoroutine") = false := by kernel_rfl
theorem info112 : (Try.prog.info? 112).map (fun i => (i.zero, i.size, i.bytes)) = some (some (.agg #[.int .i64 0, .int .i64 0, .slice none 0 0, .int .i64 0]), 4, 48) := by kernel_rfl
theorem info65 : (Try.prog.info? 65).map (fun i => (i.zero, i.size, i.bytes)) = some (some (.int .i64 0), 1, 8) := by kernel_rfl
theorem info3 : (Try.prog.info? 3).map (fun i => (i.zero, i.size, i.bytes)) = some (some (.int .i64 0), 1, 8) := by kernel_rfl
theorem info22 : (Try.prog.info? 22).map (fun i => (i.zero, i.size, i.bytes)) = some (some (.slice none 0 0), 1, 24) := by kernel_rfl
theorem info114 : (Try.prog.info? 114).map (fun i => (i.zero, i.size, i.bytes)) = some (some (.agg #[.int .i64 0, .int .i64 0, .slice none 0 0, .int .i64 0]), 4, 48) := by kernel_rfl
theorem info30 : (Try.prog.info? 30).map (fun i => (i.zero, i.size, i.bytes)) = some (some (.float .f64 0), 1, 8) := by kernel_rfl
theorem isn43 : (Try.f43.name == "runtime.NumGoroutine") = false := by kernel_rfl
theorem isn42 : (Try.f42.name == "runtime.NumGoroutine") = false := by kernel_rfl
theorem isn81 : (Try.f81.name == "runtime.NumGoroutine") = false := by kernel_rfl
theorem flat3 : Flat Try.prog 3 := ⟨_, Try.underlying3, fun _ h => (nomatch h), fun _ _ h => (nomatch h)⟩
theorem isn114 : (Try.f114.name == "runtime.NumGoroutine") = false := by kernel_rfl
theorem places183 : placesOf Try.prog [{ name := "Got", type := 3, offset := 0, embedded := false, tag := "", pkgPath := "", byteOffset := 0 }, { name := "Want", type := 3, offset := 1, embedded := false, tag := "", pkgPath := "", byteOffset := 8 }] = [(0, 1), (1, 1)] := by kernel_rfl
theorem has183 : ∀ f ∈ ([{ name := "Got", type := 3, offset := 0, embedded := false, tag := "", pkgPath := "", byteOffset := 0 }, { name := "Want", type := 3, offset := 1, embedded := false, tag := "", pkgPath := "", byteOffset := 8 }] : List Field), (Try.prog.info? f.type).isSome = true := fun f hf => all_of (p := fun f => (Try.prog.info? f.type).isSome) (by kernel_rfl) f hf
theorem info183 : (Try.prog.info? 183).map (fun i => (i.zero, i.size, i.bytes)) = some (some (.agg #[.int .i64 0, .int .i64 0]), 2, 16) := by kernel_rfl
theorem nil_neq62_if183 : ∀ (v : Value) (w : World), (binOp .neq 62 (.iface 183 v) .nilIface).run Try.prog w = .ok (.bool true) w := fun _ _ => by kernel_rfl
theorem nil_neq62_nilif : ∀ (w : World), (binOp .neq 62 .nilIface .nilIface).run Try.prog w = .ok (.bool false) w := fun _ => by kernel_rfl
theorem places27 : placesOf Try.prog [{ name := "Kind", type := 3, offset := 0, embedded := false, tag := "", pkgPath := "", byteOffset := 0 }, { name := "Layout", type := 3, offset := 1, embedded := false, tag := "", pkgPath := "", byteOffset := 8 }, { name := "SRID", type := 3, offset := 2, embedded := false, tag := "", pkgPath := "", byteOffset := 16 }, { name := "Flat", type := 22, offset := 3, embedded := false, tag := "", pkgPath := "", byteOffset := 24 }, { name := "Ends", type := 23, offset := 4, embedded := false, tag := "", pkgPath := "", byteOffset := 48 }, { name := "Endss", type := 24, offset := 5, embedded := false, tag := "", pkgPath := "", byteOffset := 72 }, { name := "Kids", type := 25, offset := 6, embedded := false, tag := "", pkgPath := "", byteOffset := 96 }] = [(0, 1), (1, 1), (2, 1), (3, 1), (4, 1), (5, 1), (6, 1)] := by kernel_rfl
theorem has27 : ∀ f ∈ ([{ name := "Kind", type := 3, offset := 0, embedded := false, tag := "", pkgPath := "", byteOffset := 0 }, { name := "Layout", type := 3, offset := 1, embedded := false, tag := "", pkgPath := "", byteOffset := 8 }, { name := "SRID", type := 3, offset := 2, embedded := false, tag := "", pkgPath := "", byteOffset := 16 }, { name := "Flat", type := 22, offset := 3, embedded := false, tag := "", pkgPath := "", byteOffset := 24 }, { name := "Ends", type := 23, offset := 4, embedded := false, tag := "", pkgPath := "", byteOffset := 48 }, { name := "Endss", type := 24, offset := 5, embedded := false, tag := "", pkgPath := "", byteOffset := 72 }, { name := "Kids", type := 25, offset := 6, embedded := false, tag := "", pkgPath := "", byteOffset := 96 }] : List Field), (Try.prog.info? f.type).isSome = true := fun f hf => all_of (p := fun f => (Try.prog.info? f.type).isSome) (by kernel_rfl) f hf
theorem info27 : (Try.prog.info? 27).map (fun i => (i.zero, i.size, i.bytes)) = some (some (.agg #[.int .i64 0, .int .i64 0, .int .i64 0, .slice none 0 0, .slice none 0 0, .slice none 0 0, .slice none 0 0]), 7, 120) := by kernel_rfl
theorem idle40 : Idle Try.prog 40 2 := fun vs w hv => by
  obtain ⟨v0, v1, rfl⟩ : ∃ v0 v1, vs = [v0, v1] := by
    obtain _ | ⟨v0, vs⟩ := vs
    · simp at hv
    obtain _ | ⟨v1, vs⟩ := vs
    · simp at hv
    obtain _ | ⟨u, vs⟩ := vs
    · exact ⟨v0, v1, rfl⟩
    · simp at hv
  refine callsD_of_wpS Try.func40 rfl fun c₀ cs hu => ?_
  apply wpS_seq
  apply wpS_region
  simp [wpOpsS, go_sem, recoverD, hu, Try.ntmps40, Exit.thenS]
  refine wpS_cond (t := false) (by simp [Act.eval, Array.replicate]) ?_
  simp only [Bool.false_eq_true, if_false]
  refine wpS_of_wp (wp_skip ?_)
  cases c₀
  simp_all [bodyPostS, results, Try.results40]
theorem isn40 : (Try.f40.name == "runtime.NumGoroutine") = false := by kernel_rfl
theorem info4 : (Try.prog.info? 4).map (fun i => (i.zero, i.size, i.bytes)) = some (some (.bool false), 1, 1) := by kernel_rfl
theorem isn44 : (Try.f44.name == "runtime.NumGoroutine") = false := by kernel_rfl
theorem inv60_SRID : ∀ (q : Addr) w', (callMethod (.iface 60 (.pointer (some q))) "SRID" #[]).run Try.prog w' = .ok (.enter 151 #[.pointer (some q)]) w' := fun _ _ => by kernel_rfl
theorem as60_75_60k : ∀ v w, (Instr.typeAssert (.iface 60 v) 75 60 true).run Try.prog w = .ok (.tuple #[v, .bool true]) w := fun _ _ => by kernel_rfl
theorem inv60_Layout : ∀ (q : Addr) w', (callMethod (.iface 60 (.pointer (some q))) "Layout" #[]).run Try.prog w' = .ok (.enter 148 #[.pointer (some q)]) w' := fun _ _ => by kernel_rfl
theorem flat65 : Flat Try.prog 65 := ⟨_, Try.underlying65, fun _ h => (nomatch h), fun _ _ h => (nomatch h)⟩
theorem inv60_FlatCoords : ∀ (q : Addr) w', (callMethod (.iface 60 (.pointer (some q))) "FlatCoords" #[]).run Try.prog w' = .ok (.enter 147 #[.pointer (some q)]) w' := fun _ _ => by kernel_rfl
theorem flat22 : Flat Try.prog 22 := ⟨_, Try.underlying22, fun _ h => (nomatch h), fun _ _ h => (nomatch h)⟩
theorem inv60_Ends : ∀ (q : Addr) w', (callMethod (.iface 60 (.pointer (some q))) "Ends" #[]).run Try.prog w' = .ok (.enter 145 #[.pointer (some q)]) w' := fun _ _ => by kernel_rfl
theorem isn84 : (Try.f84.name == "runtime.NumGoroutine") = false := by kernel_rfl
theorem inv60_Endss : ∀ (q : Addr) w', (callMethod (.iface 60 (.pointer (some q))) "Endss" #[]).run Try.prog w' = .ok (.enter 146 #[.pointer (some q)]) w' := fun _ _ => by kernel_rfl
theorem isn51 : (Try.f51.name == "runtime.NumGoroutine") = false := by kernel_rfl
theorem info23 : (Try.prog.info? 23).map (fun i => (i.zero, i.size, i.bytes)) = some (some (.slice none 0 0), 1, 24) := by kernel_rfl
theorem info24 : (Try.prog.info? 24).map (fun i => (i.zero, i.size, i.bytes)) = some (some (.slice none 0 0), 1, 24) := by kernel_rfl
theorem agg27 : Agg Try.prog 27 7 := ⟨⟨_, Try.underlying27, .inl ⟨_, rfl⟩⟩, info_size info27⟩
theorem flat4 : Flat Try.prog 4 := ⟨_, Try.underlying4, fun _ h => (nomatch h), fun _ _ h => (nomatch h)⟩
theorem isn12 : (Try.f12.name == "runtime.NumGoroutine") = false := by kernel_rfl
theorem isn13 : (Try.f13.name == "runtime.NumGoroutine") = false := by kernel_rfl
theorem isn45 : (Try.f45.name == "runtime.NumGoroutine") = false := by kernel_rfl
theorem flat30 : Flat Try.prog 30 := ⟨_, Try.underlying30, fun _ h => (nomatch h), fun _ _ h => (nomatch h)⟩
theorem ext72 : ∀ {args : Array Value} {v : Value}, Runs Try.prog ((Extern.MathFloatBits.float64bits) args) v → Runs Try.prog (callFunc 72 args) (.value v) := fun hr => ru_ext Try.func72 (by kernel_rfl) (by kernel_rfl) (by kernel_rfl) (by kernel_rfl) hr
theorem mixed : Try.prog.follows .mixedOrders = true := by kernel_rfl
theorem flat23 : Flat Try.prog 23 := ⟨_, Try.underlying23, fun _ h => (nomatch h), fun _ _ h => (nomatch h)⟩
theorem isn46 : (Try.f46.name == "runtime.NumGoroutine") = false := by kernel_rfl
theorem flat24 : Flat Try.prog 24 := ⟨_, Try.underlying24, fun _ h => (nomatch h), fun _ _ h => (nomatch h)⟩
theorem info25 : (Try.prog.info? 25).map (fun i => (i.zero, i.size, i.bytes)) = some (some (.slice none 0 0), 1, 24) := by kernel_rfl
theorem flat25 : Flat Try.prog 25 := ⟨_, Try.underlying25, fun _ h => (nomatch h), fun _ _ h => (nomatch h)⟩


def gogeom_Layout_Stride (k : Nat) (a0 : Int) : Option (Int) :=
  br (decide (a0 = 0))
    (some 0)
    (br (decide (a0 = 1))
      (some 2)
      (br (decide (a0 = 2))
        (some 3)
        (br (decide (a0 = 3))
          (some 3)
          (br (decide (a0 = 4))
            (some 4)
            (some a0)))))

theorem gogeom_Layout_Stride_sim {k : Nat}  (a0 : Int) {out : Int} (hp : gogeom_Layout_Stride k a0 = some out) : Go.Sx.Fn Try.prog 80 [(Vl (.int .i64 a0))] [] (fun w : Unit => (Vl (.int .i64 out))) (fun w => []) := by
  unfold gogeom_Layout_Stride at hp
  refine fn_of Try.func80 rfl Try.ntmps80 rfl fun E hM => ?_
  refine cx_seq' fun K1 hK1 => ?_
  refine cx_region' ?_
  refine sx_rd' (rd_assign' rfl) rfl rfl (wt_none' rfl) ?_
  refine sx_nil' ?_
  show TX E K1 _
  refine tx_k' hK1 ?_
  refine cx_seq' fun K2 hK2 => ?_
  refine cx_region' ?_
  refine sx_rd' (rd_move' rfl) rfl rfl (wt_none' rfl) ?_
  refine sx_nil' ?_
  show TX E K2 _
  refine tx_k' hK2 ?_
  refine cx_block' ?_
  refine cx_seq' fun K3 hK3 => ?_
  refine cx_region' ?_
  refine sx_rd' (rd_bin' rfl rfl eg_int ru_eql) rfl rfl (wt_none' rfl) ?_
  refine sx_rd' (rd_assign' rfl) rfl rfl (wt_none' rfl) ?_
  refine sx_nil' ?_
  show TX E K3 _
  refine tx_k' hK3 ?_
  refine cx_cond' rfl (fun h1 => ?_) (fun h1 => ?_)
  · replace hp := (br_t h1).symm.trans hp
    refine cx_seq' fun K4 hK4 => ?_
    refine cx_region' ?_
    refine sx_rd' (rd_assign' rfl) rfl rfl (wt_none' rfl) ?_
    refine sx_nil' ?_
    show TX E K4 _
    refine tx_k' hK4 ?_
    refine cx_retc' ?_
    replace hp := Option.some.inj hp
    subst hp
    refine tx_pick' (L' := [(2, (Vl (.int .i64 0)))]) (H' := []) [] (sub_cons rfl sub_nil) (by decide) pick_nil ?_
    exact tx_ret1' Try.results80 rfl () (rv_tmp' rfl) (List.Sublist.refl _)
  · replace hp := (br_f h1).symm.trans hp
    refine cx_seq' fun K5 hK5 => ?_
    refine cx_region' ?_
    refine sx_rd' (rd_bin' rfl rfl eg_int ru_eql) rfl rfl (wt_none' rfl) ?_
    refine sx_rd' (rd_assign' rfl) rfl rfl (wt_none' rfl) ?_
    refine sx_nil' ?_
    show TX E K5 _
    refine tx_k' hK5 ?_
    refine cx_cond' rfl (fun h2 => ?_) (fun h2 => ?_)
    · replace hp := (br_t h2).symm.trans hp
      refine cx_seq' fun K6 hK6 => ?_
      refine cx_region' ?_
      refine sx_rd' (rd_assign' rfl) rfl rfl (wt_none' rfl) ?_
      refine sx_nil' ?_
      show TX E K6 _
      refine tx_k' hK6 ?_
      refine cx_retc' ?_
      replace hp := Option.some.inj hp
      subst hp
      refine tx_pick' (L' := [(2, (Vl (.int .i64 2)))]) (H' := []) [] (sub_cons rfl sub_nil) (by decide) pick_nil ?_
      exact tx_ret1' Try.results80 rfl () (rv_tmp' rfl) (List.Sublist.refl _)
    · replace hp := (br_f h2).symm.trans hp
      refine cx_seq' fun K7 hK7 => ?_
      refine cx_region' ?_
      refine sx_rd' (rd_bin' rfl rfl eg_int ru_eql) rfl rfl (wt_none' rfl) ?_
      refine sx_rd' (rd_assign' rfl) rfl rfl (wt_none' rfl) ?_
      refine sx_nil' ?_
      show TX E K7 _
      refine tx_k' hK7 ?_
      refine cx_cond' rfl (fun h3 => ?_) (fun h3 => ?_)
      · replace hp := (br_t h3).symm.trans hp
        refine cx_seq' fun K8 hK8 => ?_
        refine cx_region' ?_
        refine sx_rd' (rd_assign' rfl) rfl rfl (wt_none' rfl) ?_
        refine sx_nil' ?_
        show TX E K8 _
        refine tx_k' hK8 ?_
        refine cx_retc' ?_
        replace hp := Option.some.inj hp
        subst hp
        refine tx_pick' (L' := [(2, (Vl (.int .i64 3)))]) (H' := []) [] (sub_cons rfl sub_nil) (by decide) pick_nil ?_
        exact tx_ret1' Try.results80 rfl () (rv_tmp' rfl) (List.Sublist.refl _)
      · replace hp := (br_f h3).symm.trans hp
        refine cx_seq' fun K9 hK9 => ?_
        refine cx_region' ?_
        refine sx_rd' (rd_bin' rfl rfl eg_int ru_eql) rfl rfl (wt_none' rfl) ?_
        refine sx_rd' (rd_assign' rfl) rfl rfl (wt_none' rfl) ?_
        refine sx_nil' ?_
        show TX E K9 _
        refine tx_k' hK9 ?_
        refine cx_cond' rfl (fun h4 => ?_) (fun h4 => ?_)
        · replace hp := (br_t h4).symm.trans hp
          refine cx_seq' fun K10 hK10 => ?_
          refine cx_region' ?_
          refine sx_rd' (rd_assign' rfl) rfl rfl (wt_none' rfl) ?_
          refine sx_nil' ?_
          show TX E K10 _
          refine tx_k' hK10 ?_
          refine cx_retc' ?_
          replace hp := Option.some.inj hp
          subst hp
          refine tx_pick' (L' := [(2, (Vl (.int .i64 3)))]) (H' := []) [] (sub_cons rfl sub_nil) (by decide) pick_nil ?_
          exact tx_ret1' Try.results80 rfl () (rv_tmp' rfl) (List.Sublist.refl _)
        · replace hp := (br_f h4).symm.trans hp
          refine cx_seq' fun K11 hK11 => ?_
          refine cx_region' ?_
          refine sx_rd' (rd_bin' rfl rfl eg_int ru_eql) rfl rfl (wt_none' rfl) ?_
          refine sx_rd' (rd_assign' rfl) rfl rfl (wt_none' rfl) ?_
          refine sx_nil' ?_
          show TX E K11 _
          refine tx_k' hK11 ?_
          refine cx_cond' rfl (fun h5 => ?_) (fun h5 => ?_)
          · replace hp := (br_t h5).symm.trans hp
            refine cx_seq' fun K12 hK12 => ?_
            refine cx_region' ?_
            refine sx_rd' (rd_assign' rfl) rfl rfl (wt_none' rfl) ?_
            refine sx_nil' ?_
            show TX E K12 _
            refine tx_k' hK12 ?_
            refine cx_retc' ?_
            replace hp := Option.some.inj hp
            subst hp
            refine tx_pick' (L' := [(2, (Vl (.int .i64 4)))]) (H' := []) [] (sub_cons rfl sub_nil) (by decide) pick_nil ?_
            exact tx_ret1' Try.results80 rfl () (rv_tmp' rfl) (List.Sublist.refl _)
          · replace hp := (br_f h5).symm.trans hp
            refine cx_seq' fun K13 hK13 => ?_
            refine cx_region' ?_
            refine sx_rd' (rd_move' rfl) rfl rfl (wt_none' rfl) ?_
            refine sx_rd' (rd_assign' rfl) rfl rfl (wt_none' rfl) ?_
            refine sx_nil' ?_
            show TX E K13 _
            refine tx_k' hK13 ?_
            refine cx_retc' ?_
            replace hp := Option.some.inj hp
            subst hp
            refine tx_pick' (L' := [(2, (Vl (.int .i64 a0)))]) (H' := []) [] (sub_cons rfl sub_nil) (by decide) pick_nil ?_
            exact tx_ret1' Try.results80 rfl () (rv_tmp' rfl) (List.Sublist.refl _)

def gogeom_NewPointFlat (k : Nat) (a0 : Int) (a1 : List Nat) : Option (Int × Int × (List Nat) × Int) :=
  (gogeom_Layout_Stride k a0) >>= fun r14 =>
  some (a0, r14, a1, 0)

theorem gogeom_NewPointFlat_sim {k : Nat}  (a0 : Int) (a1 : List Nat) {out : Int × Int × (List Nat) × Int} (hp : gogeom_NewPointFlat k a0 a1 = some out) : Go.Sx.Fn Try.prog 79 [(Vl (.int .i64 a0)), (Sl Kf a1)] [] (fun w : Addr => (Vl (.pointer (some w)))) (fun w => [⟨.pointer (some w), [(Vl (.int .i64 out.1)), (Vl (.int .i64 out.2.1)), (Sl Kf out.2.2.1), (Vl (.int .i64 out.2.2.2))], 114, none⟩]) := by
  unfold gogeom_NewPointFlat at hp
  refine fn_of Try.func79 rfl Try.ntmps79 rfl fun E hM => ?_
  refine cx_seq' fun K1 hK1 => ?_
  refine cx_region' ?_
  refine sx_rd' (rd_assign' rfl) rfl rfl (wt_none' rfl) ?_
  refine sx_nil' ?_
  show TX E K1 _
  refine tx_k' hK1 ?_
  refine cx_seq' fun K2 hK2 => ?_
  refine cx_region' ?_
  refine sx_ox' (ox_alloc' info114 rfl rfl rfl rfl (l := [(Vl (.int .i64 0)), (Vl (.int .i64 0)), (Vl (.slice none 0 0)), (Vl (.int .i64 0))]) rfl) (wt_none' rfl) fun q6 => ?_
  refine sx_rd' (rd_assign' rfl) rfl rfl (wt_none' rfl) ?_
  refine sx_nil' ?_
  show TX E K2 _
  refine tx_k' hK2 ?_
  refine cx_seq' fun K3 hK3 => ?_
  refine cx_region' ?_
  refine sx_rd' (rd_move' rfl) rfl rfl (wt_none' rfl) ?_
  refine sx_rd' (rd_move' rfl) rfl rfl (wt_none' rfl) ?_
  refine sx_rd' (rd_nilck' rfl) rfl rfl (wt_none' rfl) ?_
  refine sx_rd' (rd_field0' rfl Try.underlying114 rfl info112 rfl) rfl rfl (wt_none' rfl) ?_
  refine sx_rd' (rd_field0' rfl Try.underlying112 rfl info65 rfl) rfl rfl (wt_none' rfl) ?_
  refine sx_ox' (ox_store' (i := 0) (o := 0) rfl rfl (lv_vl rfl rfl) ⟨rfl, rfl, rfl, rfl⟩ rfl info65 rfl (H' := [⟨.pointer (some q6), [(Vl (.int .i64 a0)), (Vl (.int .i64 0)), (Vl (.slice none 0 0)), (Vl (.int .i64 0))], 114, none⟩]) rfl) (wt_none' rfl) fun _ => ?_
  refine sx_nil' ?_
  show TX E K3 _
  refine tx_k' hK3 ?_
  refine cx_seq' fun K4 hK4 => ?_
  refine cx_region' ?_
  refine sx_rd' (rd_move' rfl) rfl rfl (wt_none' rfl) ?_
  refine sx_rd' (rd_move' rfl) rfl rfl (wt_none' rfl) ?_
  obtain ⟨r14, hr14, hp⟩ := bind_some hp
  refine sx_ox' (ox_calln' (ent_fn' Try.func80 isn80 rfl rfl) (gogeom_Layout_Stride_sim _ hr14 : Go.Sx.Fn Try.prog 80 [(Vl (.int .i64 a0))] [] (fun x : Unit => (Vl (.int .i64 r14))) (fun x => [])) (Hn := fun x : Unit => [⟨.pointer (some q6), [(Vl (.int .i64 a0)), (Vl (.int .i64 0)), (Vl (.slice none 0 0)), (Vl (.int .i64 0))], 114, none⟩]) (fun _ => rfl) rfl rfl) (wt_none' rfl) fun ⟨⟩ => ?_
  refine sx_rd' (rd_nilck' rfl) rfl rfl (wt_none' rfl) ?_
  refine sx_rd' (rd_field0' rfl Try.underlying114 rfl info112 rfl) rfl rfl (wt_none' rfl) ?_
  refine sx_rd' (rd_field' (off := 1) rfl Try.underlying112 rfl info3 rfl) rfl rfl (wt_none' rfl) ?_
  refine sx_ox' (ox_store' (i := 0) (o := 1) rfl rfl (lv_vl rfl rfl) ⟨rfl, rfl, rfl, rfl⟩ rfl info3 rfl (H' := [⟨.pointer (some q6), [(Vl (.int .i64 a0)), (Vl (.int .i64 r14)), (Vl (.slice none 0 0)), (Vl (.int .i64 0))], 114, none⟩]) rfl) (wt_none' rfl) fun _ => ?_
  refine sx_nil' ?_
  show TX E K4 _
  refine tx_k' hK4 ?_
  refine cx_seq' fun K5 hK5 => ?_
  refine cx_region' ?_
  refine sx_rd' (rd_move' rfl) rfl rfl (wt_none' rfl) ?_
  refine sx_rd' (rd_move' rfl) rfl rfl (wt_none' rfl) ?_
  refine sx_rd' (rd_nilck' rfl) rfl rfl (wt_none' rfl) ?_
  refine sx_rd' (rd_field0' rfl Try.underlying114 rfl info112 rfl) rfl rfl (wt_none' rfl) ?_
  refine sx_rd' (rd_field' (off := 2) rfl Try.underlying112 rfl info22 rfl) rfl rfl (wt_none' rfl) ?_
  refine sx_ox' (ox_store' (i := 0) (o := 2) rfl rfl (lv_sl _ _) ⟨rfl, rfl, rfl, rfl⟩ rfl info22 rfl (H' := [⟨.pointer (some q6), [(Vl (.int .i64 a0)), (Vl (.int .i64 r14)), (Sl Kf a1), (Vl (.int .i64 0))], 114, none⟩]) rfl) (wt_none' rfl) fun _ => ?_
  refine sx_nil' ?_
  show TX E K5 _
  refine tx_k' hK5 ?_
  refine cx_seq' fun K6 hK6 => ?_
  refine cx_region' ?_
  refine sx_rd' (rd_move' rfl) rfl rfl (wt_none' rfl) ?_
  refine sx_rd' (rd_assign' rfl) rfl rfl (wt_none' rfl) ?_
  refine sx_nil' ?_
  show TX E K6 _
  refine tx_k' hK6 ?_
  refine cx_retc' ?_
  replace hp := Option.some.inj hp
  subst hp
  refine tx_pick' (L' := [(4, (Vl (.pointer (some q6))))]) (H' := [⟨.pointer (some q6), [(Vl (.int .i64 a0)), (Vl (.int .i64 r14)), (Sl Kf a1), (Vl (.int .i64 0))], 114, none⟩]) [0] (sub_cons rfl sub_nil) (by decide) (pick_cons rfl pick_nil) ?_
  exact tx_ret1' Try.results79 rfl q6 (rv_tmp' rfl) (List.Sublist.refl _)

def gogeom_NewPoint (k : Nat) (a0 : Int) : Option (Int × Int × (List Nat) × Int) :=
  (gogeom_Layout_Stride k a0) >>= fun r5 =>
  (mk 8 0 r5 r5) >>= fun r6 =>
  (gogeom_NewPointFlat k a0 r6) >>= fun r7 =>
  some (r7.1, r7.2.1, r7.2.2.1, r7.2.2.2)

theorem gogeom_NewPoint_sim {k : Nat}  (a0 : Int) {out : Int × Int × (List Nat) × Int} (hp : gogeom_NewPoint k a0 = some out) : Go.Sx.Fn Try.prog 41 [(Vl (.int .i64 a0))] [] (fun w : Addr => (Vl (.pointer (some w)))) (fun w => [⟨.pointer (some w), [(Vl (.int .i64 out.1)), (Vl (.int .i64 out.2.1)), (Sl Kf out.2.2.1), (Vl (.int .i64 out.2.2.2))], 114, none⟩]) := by
  unfold gogeom_NewPoint at hp
  refine fn_of Try.func41 rfl Try.ntmps41 rfl fun E hM => ?_
  refine cx_seq' fun K1 hK1 => ?_
  refine cx_region' ?_
  refine sx_rd' (rd_assign' rfl) rfl rfl (wt_none' rfl) ?_
  refine sx_nil' ?_
  show TX E K1 _
  refine tx_k' hK1 ?_
  refine cx_seq' fun K2 hK2 => ?_
  refine cx_region' ?_
  refine sx_rd' (rd_move' rfl) rfl rfl (wt_none' rfl) ?_
  refine sx_rd' (rd_move' rfl) rfl rfl (wt_none' rfl) ?_
  obtain ⟨r5, hr5, hp⟩ := bind_some hp
  refine sx_ox' (ox_calln' (ent_fn' Try.func80 isn80 rfl rfl) (gogeom_Layout_Stride_sim _ hr5 : Go.Sx.Fn Try.prog 80 [(Vl (.int .i64 a0))] [] (fun x : Unit => (Vl (.int .i64 r5))) (fun x => [])) (Hn := fun x : Unit => []) (fun _ => rfl) rfl rfl) (wt_none' rfl) fun ⟨⟩ => ?_
  obtain ⟨r6, hr6, hp⟩ := bind_some hp
  refine sx_ox' (ox_make' (K := Kf) rfl rfl hr6 rfl Try.underlying22 info30 rfl rfl rfl rfl rfl) (wt_none' rfl) fun g6 => ?_
  refine tx_fz' (frz_row 0 [(6, (Vl (Vs g6)), (Sl Kf r6))] (K := Kf) (xs := r6) (by decide) rfl ⟨⟨rfl, frz_it⟩, trivial⟩ (H' := []) frzH_refl) ?_
  obtain ⟨r7, hr7, hp⟩ := bind_some hp
  refine sx_ox' (ox_calln' (ent_fn' Try.func79 isn79 rfl rfl) (gogeom_NewPointFlat_sim _ _ hr7 : Go.Sx.Fn Try.prog 79 [(Vl (.int .i64 a0)), (Sl Kf r6)] [] (fun x : Addr => (Vl (.pointer (some x)))) (fun x => [⟨.pointer (some x), [(Vl (.int .i64 r7.1)), (Vl (.int .i64 r7.2.1)), (Sl Kf r7.2.2.1), (Vl (.int .i64 r7.2.2.2))], 114, none⟩])) (Hn := fun x : Addr => [⟨.pointer (some x), [(Vl (.int .i64 r7.1)), (Vl (.int .i64 r7.2.1)), (Sl Kf r7.2.2.1), (Vl (.int .i64 r7.2.2.2))], 114, none⟩]) (fun _ => rfl) rfl rfl) (wt_none' rfl) fun q7 => ?_
  refine sx_rd' (rd_assign' rfl) rfl rfl (wt_none' rfl) ?_
  refine sx_nil' ?_
  show TX E K2 _
  refine tx_k' hK2 ?_
  refine cx_retc' ?_
  replace hp := Option.some.inj hp
  subst hp
  refine tx_pick' (L' := [(2, (Vl (.pointer (some q7))))]) (H' := [⟨.pointer (some q7), [(Vl (.int .i64 r7.1)), (Vl (.int .i64 r7.2.1)), (Sl Kf r7.2.2.1), (Vl (.int .i64 r7.2.2.2))], 114, none⟩]) [0] (sub_cons rfl sub_nil) (by decide) (pick_cons rfl pick_nil) ?_
  exact tx_ret1' Try.results41 rfl q7 (rv_tmp' rfl) (List.Sublist.refl _)

def impl_floats (k : Nat) (a0 : List Nat) : Option ((List Nat)) :=
  (apd 8 [] a0) >>= fun r4 =>
  some r4

theorem impl_floats_sim {k : Nat}  (a0 : List Nat) {out : (List Nat)} (hp : impl_floats k a0 = some out) : Go.Sx.Fn Try.prog 43 [(Sl Kf a0)] [] (fun w : Unit => (Sl Kf out)) (fun w => []) := by
  unfold impl_floats at hp
  refine fn_of Try.func43 rfl Try.ntmps43 rfl fun E hM => ?_
  refine cx_seq' fun K1 hK1 => ?_
  refine cx_region' ?_
  refine sx_rd' (rd_assign' rfl) rfl rfl (wt_none' rfl) ?_
  refine sx_nil' ?_
  show TX E K1 _
  refine tx_k' hK1 ?_
  refine cx_seq' fun K2 hK2 => ?_
  refine cx_region' ?_
  refine sx_rd' (rd_move' rfl) rfl rfl (wt_none' rfl) ?_
  refine tx_nilrow' Kf 30 ?_
  obtain ⟨r4, hr4, hp⟩ := bind_some hp
  refine sx_ox' (ox_append' (K := Kf) (i := 0) (xs := []) (ys := a0) rfl rfl rfl (sr_sl' rfl Try.underlying22) hr4 Try.underlying22 info30 rfl rfl rfl (H' := []) rfl) (wt_none' rfl) fun g4 => ?_
  refine sx_rd' (rd_assign' rfl) rfl rfl (wt_none' rfl) ?_
  refine sx_nil' ?_
  show TX E K2 _
  refine tx_k' hK2 ?_
  refine cx_retc' ?_
  replace hp := Option.some.inj hp
  subst hp
  refine tx_fz' (frz_row 0 [(2, (Vl (Vs g4)), (Sl Kf r4)), (4, (Vl (Vs g4)), (Sl Kf r4))] (K := Kf) (xs := r4) (by decide) rfl ⟨⟨rfl, frz_it⟩, ⟨rfl, frz_it⟩, trivial⟩ (H' := []) frzH_refl) ?_
  refine tx_pick' (L' := [(2, (Sl Kf r4))]) (H' := []) [] (sub_cons rfl sub_nil) (by decide) pick_nil ?_
  exact tx_ret1' Try.results43 rfl () (rv_tmp' rfl) (List.Sublist.refl _)

def gogeom_deflate0 (k : Nat) (a1 : List Nat) (a2 : Int) : Option ((Int × Int) ⊕ (List Nat)) :=
  br (!decide ((a1.length : Int) = a2))
    (some (.inl ((a1.length : Int), a2)))
    ((apd 8 [] a1) >>= fun r19 =>
    some (.inr r19))
def gogeom_deflate0_r  (a1 : List Nat) (a2 : Int) (out : (Int × Int) ⊕ (List Nat)) (w : Unit) : SV := match out with
  | (.inl y) => (Tu [(Vl (.slice none 0 0)), (If 183 (Ag [(Vl (.int .i64 y.1)), (Vl (.int .i64 y.2))]))])
  | (.inr y) => (Tu [(Sl Kf y), (Vl .nilIface)])
def gogeom_deflate0_h  (a1 : List Nat) (a2 : Int) (out : (Int × Int) ⊕ (List Nat)) (w : Unit) : List Res := match out with
  | (.inl y) => []
  | (.inr y) => []

theorem gogeom_deflate0_sim {k : Nat}  (a1 : List Nat) (a2 : Int) {out : (Int × Int) ⊕ (List Nat)} (hp : gogeom_deflate0 k a1 a2 = some out) : Go.Sx.Fn Try.prog 114 [(Vl (.slice none 0 0)), (Sl Kf a1), (Vl (.int .i64 a2))] [] (fun w => gogeom_deflate0_r a1 a2 out w) (fun w => gogeom_deflate0_h a1 a2 out w) := by
  unfold gogeom_deflate0 at hp
  refine fn_of Try.func114 rfl Try.ntmps114 rfl fun E hM => ?_
  refine cx_seq' fun K1 hK1 => ?_
  refine cx_region' ?_
  refine sx_rd' (rd_assign' rfl) rfl rfl (wt_none' rfl) ?_
  refine sx_rd' (rd_assign' rfl) rfl rfl (wt_none' rfl) ?_
  refine sx_nil' ?_
  show TX E K1 _
  refine tx_k' hK1 ?_
  refine cx_seq' fun K2 hK2 => ?_
  refine cx_seq' fun K3 hK3 => ?_
  refine cx_region' ?_
  refine sx_rd' (rd_move' rfl) rfl rfl (wt_none' rfl) ?_
  refine sx_rd' (rd_len' rfl Try.underlying67) rfl rfl (wt_none' rfl) ?_
  refine sx_rd' (rd_move' rfl) rfl rfl (wt_none' rfl) ?_
  refine sx_rd' (rd_bin' rfl rfl eg_int ru_neq) rfl rfl (wt_none' rfl) ?_
  refine sx_nil' ?_
  show TX E K3 _
  refine tx_k' hK3 ?_
  refine cx_cond' rfl (fun h1 => ?_) (fun h1 => ?_)
  · replace hp := (br_t h1).symm.trans hp
    refine cx_seq' fun K4 hK4 => ?_
    refine cx_region' ?_
    refine sx_rd' (rd_move' rfl) rfl rfl (wt_none' rfl) ?_
    refine sx_rd' (rd_len' rfl Try.underlying67) rfl rfl (wt_none' rfl) ?_
    refine sx_rd' (rd_move' rfl) rfl rfl (wt_none' rfl) ?_
    refine sx_rd' (rd_build' (pls := [(0, 1), (1, 1)]) (qs := [(0, [(Vl (.int .i64 (a1.length : Int)))]), (1, [(Vl (.int .i64 a2))])]) (r := [(Vl (.int .i64 (a1.length : Int))), (Vl (.int .i64 a2))]) ⟨rfl, ⟨_, rfl, (lv_vl rfl rfl)⟩, ⟨rfl, ⟨_, rfl, (lv_vl rfl rfl)⟩, trivial⟩⟩ Try.underlying183 has183 places183 info183 rfl rfl rfl) rfl rfl (wt_none' rfl) ?_
    refine sx_rd' (rd_iface' rfl ⟨_, Try.underlying183, fun _ h => (nomatch h)⟩) rfl rfl (wt_none' rfl) ?_
    refine sx_rd' (rd_assign' rfl) rfl rfl (wt_none' rfl) ?_
    refine sx_rd' (rd_assign' rfl) rfl rfl (wt_none' rfl) ?_
    refine sx_nil' ?_
    show TX E K4 _
    refine tx_k' hK4 ?_
    refine cx_retc' ?_
    replace hp := Option.some.inj hp
    subst hp
    refine tx_pick' (L' := [(6, (Vl (.slice none 0 0))), (7, (If 183 (Ag [(Vl (.int .i64 (a1.length : Int))), (Vl (.int .i64 a2))])))]) (H' := []) [] (sub_cons rfl (sub_cons rfl sub_nil)) (by decide) pick_nil ?_
    exact tx_ret2' Try.results114 rfl () (rv_tmp' rfl) (rv_tmp' rfl) rfl (List.Sublist.refl _)
  · replace hp := (br_f h1).symm.trans hp
    refine cx_skip' ?_
    show TX E K2 _
    refine tx_k' hK2 ?_
    refine cx_seq' fun K5 hK5 => ?_
    refine cx_region' ?_
    refine sx_rd' (rd_move' rfl) rfl rfl (wt_none' rfl) ?_
    refine sx_rd' (rd_move' rfl) rfl rfl (wt_none' rfl) ?_
    refine tx_nilrow' Kf 30 ?_
    obtain ⟨r19, hr19, hp⟩ := bind_some hp
    refine sx_ox' (ox_append' (K := Kf) (i := 0) (xs := []) (ys := a1) rfl rfl rfl (sr_sl' rfl Try.underlying67) hr19 Try.underlying22 info30 rfl rfl rfl (H' := []) rfl) (wt_none' rfl) fun g19 => ?_
    refine sx_rd' (rd_assign' rfl) rfl rfl (wt_none' rfl) ?_
    refine sx_nil' ?_
    show TX E K5 _
    refine tx_k' hK5 ?_
    refine cx_seq' fun K6 hK6 => ?_
    refine cx_region' ?_
    refine sx_rd' (rd_move' rfl) rfl rfl (wt_none' rfl) ?_
    refine sx_rd' (rd_assign' rfl) rfl rfl (wt_none' rfl) ?_
    refine sx_rd' (rd_assign' rfl) rfl rfl (wt_none' rfl) ?_
    refine sx_nil' ?_
    show TX E K6 _
    refine tx_k' hK6 ?_
    refine cx_retc' ?_
    replace hp := Option.some.inj hp
    subst hp
    refine tx_fz' (frz_row 0 [(0, (Vl (Vs g19)), (Sl Kf r19)), (6, (Vl (Vs g19)), (Sl Kf r19)), (19, (Vl (Vs g19)), (Sl Kf r19)), (20, (Vl (Vs g19)), (Sl Kf r19))] (K := Kf) (xs := r19) (by decide) rfl ⟨⟨rfl, frz_it⟩, ⟨rfl, frz_it⟩, ⟨rfl, frz_it⟩, ⟨rfl, frz_it⟩, trivial⟩ (H' := []) frzH_refl) ?_
    refine tx_pick' (L' := [(6, (Sl Kf r19)), (7, (Vl .nilIface))]) (H' := []) [] (sub_cons rfl (sub_cons rfl sub_nil)) (by decide) pick_nil ?_
    exact tx_ret2' Try.results114 rfl () (rv_tmp' rfl) (rv_tmp' rfl) rfl (List.Sublist.refl _)

def gogeom_geom0_setCoords (k : Nat) (a0_0 : Int) (a0_1 : Int) (a0_2 : List Nat) (a0_3 : Int) (a1 : List Nat) : Option ((Int × Int × Int × Int × Int) ⊕ (Int × Int × (List Nat) × Int)) :=
  (gogeom_deflate0 k a1 a0_1) >>= fun r13 =>
  match r13 with
    | (.inl y1) =>
      (some (.inl (a0_0, a0_1, a0_3, y1.1, y1.2)))
    | (.inr y1) =>
      (some (.inr (a0_0, a0_1, y1, a0_3)))
def gogeom_geom0_setCoords_r (wa0 : Addr) (a0_0 : Int) (a0_1 : Int) (a0_2 : List Nat) (a0_3 : Int) (a1 : List Nat) (out : (Int × Int × Int × Int × Int) ⊕ (Int × Int × (List Nat) × Int)) (w : Unit) : SV := match out with
  | (.inl y) => (If 183 (Ag [(Vl (.int .i64 y.2.2.2.1)), (Vl (.int .i64 y.2.2.2.2))]))
  | (.inr y) => (Vl .nilIface)
def gogeom_geom0_setCoords_h (wa0 : Addr) (a0_0 : Int) (a0_1 : Int) (a0_2 : List Nat) (a0_3 : Int) (a1 : List Nat) (out : (Int × Int × Int × Int × Int) ⊕ (Int × Int × (List Nat) × Int)) (w : Unit) : List Res := match out with
  | (.inl y) => [⟨.pointer (some wa0), [(Vl (.int .i64 y.1)), (Vl (.int .i64 y.2.1)), (Vl (.slice none 0 0)), (Vl (.int .i64 y.2.2.1))], 114, none⟩]
  | (.inr y) => [⟨.pointer (some wa0), [(Vl (.int .i64 y.1)), (Vl (.int .i64 y.2.1)), (Sl Kf y.2.2.1), (Vl (.int .i64 y.2.2.2))], 114, none⟩]

theorem gogeom_geom0_setCoords_sim {k : Nat} {wa0 : Addr} (a0_0 : Int) (a0_1 : Int) (a0_2 : List Nat) (a0_3 : Int) (a1 : List Nat) {out : (Int × Int × Int × Int × Int) ⊕ (Int × Int × (List Nat) × Int)} (hp : gogeom_geom0_setCoords k a0_0 a0_1 a0_2 a0_3 a1 = some out) : Go.Sx.Fn Try.prog 81 [(Vl (.pointer (some wa0))), (Sl Kf a1)] [⟨.pointer (some wa0), [(Vl (.int .i64 a0_0)), (Vl (.int .i64 a0_1)), (Sl Kf a0_2), (Vl (.int .i64 a0_3))], 114, none⟩] (fun w => gogeom_geom0_setCoords_r wa0 a0_0 a0_1 a0_2 a0_3 a1 out w) (fun w => gogeom_geom0_setCoords_h wa0 a0_0 a0_1 a0_2 a0_3 a1 out w) := by
  unfold gogeom_geom0_setCoords at hp
  refine fn_of Try.func81 rfl Try.ntmps81 rfl fun E hM => ?_
  refine cx_seq' fun K1 hK1 => ?_
  refine cx_region' ?_
  refine sx_rd' (rd_assign' rfl) rfl rfl (wt_none' rfl) ?_
  refine sx_nil' ?_
  show TX E K1 _
  refine tx_k' hK1 ?_
  refine cx_seq' fun K2 hK2 => ?_
  refine cx_region' ?_
  refine sx_rd' (rd_assign' rfl) rfl rfl (wt_none' rfl) ?_
  refine sx_nil' ?_
  show TX E K2 _
  refine tx_k' hK2 ?_
  refine cx_seq' fun K3 hK3 => ?_
  refine cx_region' ?_
  refine sx_rd' (rd_move' rfl) rfl rfl (wt_none' rfl) ?_
  refine sx_rd' (rd_move' rfl) rfl rfl (wt_none' rfl) ?_
  refine sx_rd' (rd_move' rfl) rfl rfl (wt_none' rfl) ?_
  refine sx_rd' (rd_nilck' rfl) rfl rfl (wt_none' rfl) ?_
  refine sx_rd' (rd_field' (off := 1) rfl Try.underlying112 rfl info3 rfl) rfl rfl (wt_none' rfl) ?_
  refine sx_rd' (rd_load' (i := 0) (o := 1) rfl ⟨rfl, rfl, rfl, rfl⟩ rfl flat3) rfl rfl (wt_none' rfl) ?_
  obtain ⟨r13, hr13, hp⟩ := bind_some hp
  rcases r13 with y1 | y1
  · dsimp only at hp
    refine sx_ox' (ox_calln' (ent_fn' Try.func114 isn114 rfl rfl) (gogeom_deflate0_sim _ _ hr13 : Go.Sx.Fn Try.prog 114 [(Vl (.slice none 0 0)), (Sl Kf a1), (Vl (.int .i64 a0_1))] [] (fun x : Unit => (Tu [(Vl (.slice none 0 0)), (If 183 (Ag [(Vl (.int .i64 y1.1)), (Vl (.int .i64 y1.2))]))])) (fun x => [])) (Hn := fun x : Unit => [⟨.pointer (some wa0), [(Vl (.int .i64 a0_0)), (Vl (.int .i64 a0_1)), (Sl Kf a0_2), (Vl (.int .i64 a0_3))], 114, none⟩]) (fun _ => rfl) rfl rfl) (wt_none' rfl) fun ⟨⟩ => ?_
    refine sx_rd' (rd_move' rfl) rfl rfl (wt_none' rfl) ?_
    refine sx_rd' (rd_extract' rfl rfl) rfl rfl (wt_none' rfl) ?_
    refine sx_rd' (rd_extract' rfl rfl) rfl rfl (wt_none' rfl) ?_
    refine sx_rd' (rd_nilck' rfl) rfl rfl (wt_none' rfl) ?_
    refine sx_rd' (rd_field' (off := 2) rfl Try.underlying112 rfl info22 rfl) rfl rfl (wt_none' rfl) ?_
    refine sx_ox' (ox_store' (i := 0) (o := 2) rfl rfl (lv_vl rfl rfl) ⟨rfl, rfl, rfl, rfl⟩ rfl info22 rfl (H' := [⟨.pointer (some wa0), [(Vl (.int .i64 a0_0)), (Vl (.int .i64 a0_1)), (Vl (.slice none 0 0)), (Vl (.int .i64 a0_3))], 114, none⟩]) rfl) (wt_none' rfl) fun _ => ?_
    refine sx_rd' (rd_assign' rfl) rfl rfl (wt_none' rfl) ?_
    refine sx_nil' ?_
    show TX E K3 _
    refine tx_k' hK3 ?_
    refine cx_seq' fun K4 hK4 => ?_
    refine cx_region' ?_
    refine sx_rd' (rd_move' rfl) rfl rfl (wt_none' rfl) ?_
    refine sx_rd' (rd_assign' rfl) rfl rfl (wt_none' rfl) ?_
    refine sx_nil' ?_
    show TX E K4 _
    refine tx_k' hK4 ?_
    refine cx_retc' ?_
    replace hp := Option.some.inj hp
    subst hp
    refine tx_pick' (L' := [(4, (If 183 (Ag [(Vl (.int .i64 y1.1)), (Vl (.int .i64 y1.2))])))]) (H' := [⟨.pointer (some wa0), [(Vl (.int .i64 a0_0)), (Vl (.int .i64 a0_1)), (Vl (.slice none 0 0)), (Vl (.int .i64 a0_3))], 114, none⟩]) [0] (sub_cons rfl sub_nil) (by decide) (pick_cons rfl pick_nil) ?_
    exact tx_ret1' Try.results81 rfl () (rv_tmp' rfl) (List.Sublist.refl _)
  · dsimp only at hp
    refine sx_ox' (ox_calln' (ent_fn' Try.func114 isn114 rfl rfl) (gogeom_deflate0_sim _ _ hr13 : Go.Sx.Fn Try.prog 114 [(Vl (.slice none 0 0)), (Sl Kf a1), (Vl (.int .i64 a0_1))] [] (fun x : Unit => (Tu [(Sl Kf y1), (Vl .nilIface)])) (fun x => [])) (Hn := fun x : Unit => [⟨.pointer (some wa0), [(Vl (.int .i64 a0_0)), (Vl (.int .i64 a0_1)), (Sl Kf a0_2), (Vl (.int .i64 a0_3))], 114, none⟩]) (fun _ => rfl) rfl rfl) (wt_none' rfl) fun ⟨⟩ => ?_
    refine sx_rd' (rd_move' rfl) rfl rfl (wt_none' rfl) ?_
    refine sx_rd' (rd_extract' rfl rfl) rfl rfl (wt_none' rfl) ?_
    refine sx_rd' (rd_extract' rfl rfl) rfl rfl (wt_none' rfl) ?_
    refine sx_rd' (rd_nilck' rfl) rfl rfl (wt_none' rfl) ?_
    refine sx_rd' (rd_field' (off := 2) rfl Try.underlying112 rfl info22 rfl) rfl rfl (wt_none' rfl) ?_
    refine sx_ox' (ox_store' (i := 0) (o := 2) rfl rfl (lv_sl _ _) ⟨rfl, rfl, rfl, rfl⟩ rfl info22 rfl (H' := [⟨.pointer (some wa0), [(Vl (.int .i64 a0_0)), (Vl (.int .i64 a0_1)), (Sl Kf y1), (Vl (.int .i64 a0_3))], 114, none⟩]) rfl) (wt_none' rfl) fun _ => ?_
    refine sx_rd' (rd_assign' rfl) rfl rfl (wt_none' rfl) ?_
    refine sx_nil' ?_
    show TX E K3 _
    refine tx_k' hK3 ?_
    refine cx_seq' fun K4 hK4 => ?_
    refine cx_region' ?_
    refine sx_rd' (rd_move' rfl) rfl rfl (wt_none' rfl) ?_
    refine sx_rd' (rd_assign' rfl) rfl rfl (wt_none' rfl) ?_
    refine sx_nil' ?_
    show TX E K4 _
    refine tx_k' hK4 ?_
    refine cx_retc' ?_
    replace hp := Option.some.inj hp
    subst hp
    refine tx_pick' (L' := [(4, (Vl .nilIface))]) (H' := [⟨.pointer (some wa0), [(Vl (.int .i64 a0_0)), (Vl (.int .i64 a0_1)), (Sl Kf y1), (Vl (.int .i64 a0_3))], 114, none⟩]) [0] (sub_cons rfl sub_nil) (by decide) (pick_cons rfl pick_nil) ?_
    exact tx_ret1' Try.results81 rfl () (rv_tmp' rfl) (List.Sublist.refl _)

def gogeom_Point_SetCoords (k : Nat) (a0_0 : Int) (a0_1 : Int) (a0_2 : List Nat) (a0_3 : Int) (a1 : List Nat) : Option ((Int × Int × Int × Int × Int) ⊕ (Int × Int × (List Nat) × Int)) :=
  (gogeom_geom0_setCoords k a0_0 a0_1 a0_2 a0_3 a1) >>= fun r11 =>
  match r11 with
    | (.inl y1) =>
      (some (.inl (y1.1, y1.2.1, y1.2.2.1, y1.2.2.2.1, y1.2.2.2.2)))
    | (.inr y1) =>
      (some (.inr (y1.1, y1.2.1, y1.2.2.1, y1.2.2.2)))
def gogeom_Point_SetCoords_r (wa0 : Addr) (a0_0 : Int) (a0_1 : Int) (a0_2 : List Nat) (a0_3 : Int) (a1 : List Nat) (out : (Int × Int × Int × Int × Int) ⊕ (Int × Int × (List Nat) × Int)) (w : Unit) : SV := match out with
  | (.inl y) => (Tu [(Vl (.pointer none)), (If 183 (Ag [(Vl (.int .i64 y.2.2.2.1)), (Vl (.int .i64 y.2.2.2.2))]))])
  | (.inr y) => (Tu [(Vl (.pointer (some wa0))), (Vl .nilIface)])
def gogeom_Point_SetCoords_h (wa0 : Addr) (a0_0 : Int) (a0_1 : Int) (a0_2 : List Nat) (a0_3 : Int) (a1 : List Nat) (out : (Int × Int × Int × Int × Int) ⊕ (Int × Int × (List Nat) × Int)) (w : Unit) : List Res := match out with
  | (.inl y) => [⟨.pointer (some wa0), [(Vl (.int .i64 y.1)), (Vl (.int .i64 y.2.1)), (Vl (.slice none 0 0)), (Vl (.int .i64 y.2.2.1))], 114, none⟩]
  | (.inr y) => [⟨.pointer (some wa0), [(Vl (.int .i64 y.1)), (Vl (.int .i64 y.2.1)), (Sl Kf y.2.2.1), (Vl (.int .i64 y.2.2.2))], 114, none⟩]

theorem gogeom_Point_SetCoords_sim {k : Nat} {wa0 : Addr} (a0_0 : Int) (a0_1 : Int) (a0_2 : List Nat) (a0_3 : Int) (a1 : List Nat) {out : (Int × Int × Int × Int × Int) ⊕ (Int × Int × (List Nat) × Int)} (hp : gogeom_Point_SetCoords k a0_0 a0_1 a0_2 a0_3 a1 = some out) : Go.Sx.Fn Try.prog 42 [(Vl (.pointer (some wa0))), (Sl Kf a1)] [⟨.pointer (some wa0), [(Vl (.int .i64 a0_0)), (Vl (.int .i64 a0_1)), (Sl Kf a0_2), (Vl (.int .i64 a0_3))], 114, none⟩] (fun w => gogeom_Point_SetCoords_r wa0 a0_0 a0_1 a0_2 a0_3 a1 out w) (fun w => gogeom_Point_SetCoords_h wa0 a0_0 a0_1 a0_2 a0_3 a1 out w) := by
  unfold gogeom_Point_SetCoords at hp
  refine fn_of Try.func42 rfl Try.ntmps42 rfl fun E hM => ?_
  refine cx_seq' fun K1 hK1 => ?_
  refine cx_region' ?_
  refine sx_rd' (rd_assign' rfl) rfl rfl (wt_none' rfl) ?_
  refine sx_rd' (rd_assign' rfl) rfl rfl (wt_none' rfl) ?_
  refine sx_nil' ?_
  show TX E K1 _
  refine tx_k' hK1 ?_
  refine cx_seq' fun K2 hK2 => ?_
  refine cx_seq' fun K3 hK3 => ?_
  refine cx_region' ?_
  refine sx_rd' (rd_move' rfl) rfl rfl (wt_none' rfl) ?_
  refine sx_rd' (rd_nilck' rfl) rfl rfl (wt_none' rfl) ?_
  refine sx_rd' (rd_field0' rfl Try.underlying114 rfl info112 rfl) rfl rfl (wt_none' rfl) ?_
  refine sx_rd' (rd_move' rfl) rfl rfl (wt_none' rfl) ?_
  obtain ⟨r11, hr11, hp⟩ := bind_some hp
  rcases r11 with y1 | y1
  · dsimp only at hp
    refine sx_ox' (ox_callg' (ent_fn' Try.func81 isn81 rfl rfl) (gogeom_geom0_setCoords_sim _ _ _ _ _ hr11 : Go.Sx.Fn Try.prog 81 [(Vl (.pointer (some wa0))), (Sl Kf a1)] [⟨.pointer (some wa0), [(Vl (.int .i64 a0_0)), (Vl (.int .i64 a0_1)), (Sl Kf a0_2), (Vl (.int .i64 a0_3))], 114, none⟩] (fun x : Unit => (If 183 (Ag [(Vl (.int .i64 y1.2.2.2.1)), (Vl (.int .i64 y1.2.2.2.2))]))) (fun x => [⟨.pointer (some wa0), [(Vl (.int .i64 y1.1)), (Vl (.int .i64 y1.2.1)), (Vl (.slice none 0 0)), (Vl (.int .i64 y1.2.2.1))], 114, none⟩])) [0] [] (by decide) (pick_cons rfl pick_nil) pick_nil (Hn := fun x : Unit => [⟨.pointer (some wa0), [(Vl (.int .i64 y1.1)), (Vl (.int .i64 y1.2.1)), (Vl (.slice none 0 0)), (Vl (.int .i64 y1.2.2.1))], 114, none⟩]) (fun _ => rfl) rfl rfl) (wt_none' rfl) fun ⟨⟩ => ?_
    refine sx_rd' (rd_assign' rfl) rfl rfl (wt_none' rfl) ?_
    refine sx_nil' ?_
    show TX E K3 _
    refine tx_k' hK3 ?_
    refine cx_seq' fun K4 hK4 => ?_
    refine cx_region' ?_
    refine sx_rd' (rd_move' rfl) rfl rfl (wt_none' rfl) ?_
    refine sx_rd' (rd_binf' rfl rfl (bf_if (fun _ _ => by kernel_rfl) nil_neq62_if183)) rfl rfl (wt_none' rfl) ?_
    refine sx_nil' ?_
    show TX E K4 _
    refine tx_k' hK4 ?_
    refine cx_cond_t' rfl rfl ?_
    refine cx_seq' fun K5 hK5 => ?_
    refine cx_region' ?_
    refine sx_rd' (rd_move' rfl) rfl rfl (wt_none' rfl) ?_
    refine sx_rd' (rd_assign' rfl) rfl rfl (wt_none' rfl) ?_
    refine sx_rd' (rd_assign' rfl) rfl rfl (wt_none' rfl) ?_
    refine sx_nil' ?_
    show TX E K5 _
    refine tx_k' hK5 ?_
    refine cx_retc' ?_
    replace hp := Option.some.inj hp
    subst hp
    refine tx_pick' (L' := [(4, (Vl (.pointer none))), (5, (If 183 (Ag [(Vl (.int .i64 y1.2.2.2.1)), (Vl (.int .i64 y1.2.2.2.2))])))]) (H' := [⟨.pointer (some wa0), [(Vl (.int .i64 y1.1)), (Vl (.int .i64 y1.2.1)), (Vl (.slice none 0 0)), (Vl (.int .i64 y1.2.2.1))], 114, none⟩]) [0] (sub_cons rfl (sub_cons rfl sub_nil)) (by decide) (pick_cons rfl pick_nil) ?_
    exact tx_ret2' Try.results42 rfl () (rv_tmp' rfl) (rv_tmp' rfl) rfl (List.Sublist.refl _)
  · dsimp only at hp
    refine sx_ox' (ox_callg' (ent_fn' Try.func81 isn81 rfl rfl) (gogeom_geom0_setCoords_sim _ _ _ _ _ hr11 : Go.Sx.Fn Try.prog 81 [(Vl (.pointer (some wa0))), (Sl Kf a1)] [⟨.pointer (some wa0), [(Vl (.int .i64 a0_0)), (Vl (.int .i64 a0_1)), (Sl Kf a0_2), (Vl (.int .i64 a0_3))], 114, none⟩] (fun x : Unit => (Vl .nilIface)) (fun x => [⟨.pointer (some wa0), [(Vl (.int .i64 y1.1)), (Vl (.int .i64 y1.2.1)), (Sl Kf y1.2.2.1), (Vl (.int .i64 y1.2.2.2))], 114, none⟩])) [0] [] (by decide) (pick_cons rfl pick_nil) pick_nil (Hn := fun x : Unit => [⟨.pointer (some wa0), [(Vl (.int .i64 y1.1)), (Vl (.int .i64 y1.2.1)), (Sl Kf y1.2.2.1), (Vl (.int .i64 y1.2.2.2))], 114, none⟩]) (fun _ => rfl) rfl rfl) (wt_none' rfl) fun ⟨⟩ => ?_
    refine sx_rd' (rd_assign' rfl) rfl rfl (wt_none' rfl) ?_
    refine sx_nil' ?_
    show TX E K3 _
    refine tx_k' hK3 ?_
    refine cx_seq' fun K4 hK4 => ?_
    refine cx_region' ?_
    refine sx_rd' (rd_move' rfl) rfl rfl (wt_none' rfl) ?_
    refine sx_rd' (rd_binf' rfl rfl (bf_vl (fun _ => by kernel_rfl) nil_neq62_nilif)) rfl rfl (wt_none' rfl) ?_
    refine sx_nil' ?_
    show TX E K4 _
    refine tx_k' hK4 ?_
    refine cx_cond_f' rfl rfl ?_
    refine cx_skip' ?_
    show TX E K2 _
    refine tx_k' hK2 ?_
    refine cx_seq' fun K6 hK6 => ?_
    refine cx_region' ?_
    refine sx_rd' (rd_move' rfl) rfl rfl (wt_none' rfl) ?_
    refine sx_rd' (rd_assign' rfl) rfl rfl (wt_none' rfl) ?_
    refine sx_rd' (rd_assign' rfl) rfl rfl (wt_none' rfl) ?_
    refine sx_nil' ?_
    show TX E K6 _
    refine tx_k' hK6 ?_
    refine cx_retc' ?_
    replace hp := Option.some.inj hp
    subst hp
    refine tx_pick' (L' := [(4, (Vl (.pointer (some wa0)))), (5, (Vl .nilIface))]) (H' := [⟨.pointer (some wa0), [(Vl (.int .i64 y1.1)), (Vl (.int .i64 y1.2.1)), (Sl Kf y1.2.2.1), (Vl (.int .i64 y1.2.2.2))], 114, none⟩]) [0] (sub_cons rfl (sub_cons rfl sub_nil)) (by decide) (pick_cons rfl pick_nil) ?_
    exact tx_ret2' Try.results42 rfl () (rv_tmp' rfl) (rv_tmp' rfl) rfl (List.Sublist.refl _)

def gogeom_geom0_SRID (k : Nat) (a0_0 : Int) (a0_1 : Int) (a0_2 : List Nat) (a0_3 : Int) : Option (Int × Int × (List Nat) × Int) :=
  some (a0_0, a0_1, a0_2, a0_3)

theorem gogeom_geom0_SRID_sim {k : Nat} {wa0 : Addr} (a0_0 : Int) (a0_1 : Int) (a0_2 : List Nat) (a0_3 : Int) {out : Int × Int × (List Nat) × Int} (hp : gogeom_geom0_SRID k a0_0 a0_1 a0_2 a0_3 = some out) : Go.Sx.Fn Try.prog 151 [(Vl (.pointer (some wa0)))] [⟨.pointer (some wa0), [(Vl (.int .i64 a0_0)), (Vl (.int .i64 a0_1)), (Sl Kf a0_2), (Vl (.int .i64 a0_3))], 114, none⟩] (fun w : Unit => (Vl (.int .i64 out.2.2.2))) (fun w => [⟨.pointer (some wa0), [(Vl (.int .i64 out.1)), (Vl (.int .i64 out.2.1)), (Sl Kf out.2.2.1), (Vl (.int .i64 out.2.2.2))], 114, none⟩]) := by
  unfold gogeom_geom0_SRID at hp
  refine fn_of Try.func151 rfl Try.ntmps151 rfl fun E hM => ?_
  refine cx_seq' fun K1 hK1 => ?_
  refine cx_region' ?_
  refine sx_rd' (rd_assign' rfl) rfl rfl (wt_none' rfl) ?_
  refine sx_nil' ?_
  show TX E K1 _
  refine tx_k' hK1 ?_
  refine cx_seq' fun K2 hK2 => ?_
  refine cx_region' ?_
  refine sx_rd' (rd_move' rfl) rfl rfl (wt_none' rfl) ?_
  refine sx_rd' (rd_nilck' rfl) rfl rfl (wt_none' rfl) ?_
  refine sx_rd' (rd_field' (off := 3) rfl Try.underlying112 rfl info3 rfl) rfl rfl (wt_none' rfl) ?_
  refine sx_rd' (rd_load' (i := 0) (o := 3) rfl ⟨rfl, rfl, rfl, rfl⟩ rfl flat3) rfl rfl (wt_none' rfl) ?_
  refine sx_rd' (rd_assign' rfl) rfl rfl (wt_none' rfl) ?_
  refine sx_nil' ?_
  show TX E K2 _
  refine tx_k' hK2 ?_
  refine cx_retc' ?_
  replace hp := Option.some.inj hp
  subst hp
  refine tx_pick' (L' := [(2, (Vl (.int .i64 a0_3)))]) (H' := [⟨.pointer (some wa0), [(Vl (.int .i64 a0_0)), (Vl (.int .i64 a0_1)), (Sl Kf a0_2), (Vl (.int .i64 a0_3))], 114, none⟩]) [0] (sub_cons rfl sub_nil) (by decide) (pick_cons rfl pick_nil) ?_
  exact tx_ret1' Try.results151 rfl () (rv_tmp' rfl) (List.Sublist.refl _)

def gogeom_geom0_Layout (k : Nat) (a0_0 : Int) (a0_1 : Int) (a0_2 : List Nat) (a0_3 : Int) : Option (Int × Int × (List Nat) × Int) :=
  some (a0_0, a0_1, a0_2, a0_3)

theorem gogeom_geom0_Layout_sim {k : Nat} {wa0 : Addr} (a0_0 : Int) (a0_1 : Int) (a0_2 : List Nat) (a0_3 : Int) {out : Int × Int × (List Nat) × Int} (hp : gogeom_geom0_Layout k a0_0 a0_1 a0_2 a0_3 = some out) : Go.Sx.Fn Try.prog 148 [(Vl (.pointer (some wa0)))] [⟨.pointer (some wa0), [(Vl (.int .i64 a0_0)), (Vl (.int .i64 a0_1)), (Sl Kf a0_2), (Vl (.int .i64 a0_3))], 114, none⟩] (fun w : Unit => (Vl (.int .i64 out.1))) (fun w => [⟨.pointer (some wa0), [(Vl (.int .i64 out.1)), (Vl (.int .i64 out.2.1)), (Sl Kf out.2.2.1), (Vl (.int .i64 out.2.2.2))], 114, none⟩]) := by
  unfold gogeom_geom0_Layout at hp
  refine fn_of Try.func148 rfl Try.ntmps148 rfl fun E hM => ?_
  refine cx_seq' fun K1 hK1 => ?_
  refine cx_region' ?_
  refine sx_rd' (rd_assign' rfl) rfl rfl (wt_none' rfl) ?_
  refine sx_nil' ?_
  show TX E K1 _
  refine tx_k' hK1 ?_
  refine cx_seq' fun K2 hK2 => ?_
  refine cx_region' ?_
  refine sx_rd' (rd_move' rfl) rfl rfl (wt_none' rfl) ?_
  refine sx_rd' (rd_nilck' rfl) rfl rfl (wt_none' rfl) ?_
  refine sx_rd' (rd_field0' rfl Try.underlying112 rfl info65 rfl) rfl rfl (wt_none' rfl) ?_
  refine sx_rd' (rd_load' (i := 0) (o := 0) rfl ⟨rfl, rfl, rfl, rfl⟩ rfl flat65) rfl rfl (wt_none' rfl) ?_
  refine sx_rd' (rd_assign' rfl) rfl rfl (wt_none' rfl) ?_
  refine sx_nil' ?_
  show TX E K2 _
  refine tx_k' hK2 ?_
  refine cx_retc' ?_
  replace hp := Option.some.inj hp
  subst hp
  refine tx_pick' (L' := [(2, (Vl (.int .i64 a0_0)))]) (H' := [⟨.pointer (some wa0), [(Vl (.int .i64 a0_0)), (Vl (.int .i64 a0_1)), (Sl Kf a0_2), (Vl (.int .i64 a0_3))], 114, none⟩]) [0] (sub_cons rfl sub_nil) (by decide) (pick_cons rfl pick_nil) ?_
  exact tx_ret1' Try.results148 rfl () (rv_tmp' rfl) (List.Sublist.refl _)

def gogeom_geom0_FlatCoords (k : Nat) (a0_0 : Int) (a0_1 : Int) (a0_2 : List Nat) (a0_3 : Int) : Option (Int × Int × (List Nat) × Int) :=
  some (a0_0, a0_1, a0_2, a0_3)

theorem gogeom_geom0_FlatCoords_sim {k : Nat} {wa0 : Addr} (a0_0 : Int) (a0_1 : Int) (a0_2 : List Nat) (a0_3 : Int) {out : Int × Int × (List Nat) × Int} (hp : gogeom_geom0_FlatCoords k a0_0 a0_1 a0_2 a0_3 = some out) : Go.Sx.Fn Try.prog 147 [(Vl (.pointer (some wa0)))] [⟨.pointer (some wa0), [(Vl (.int .i64 a0_0)), (Vl (.int .i64 a0_1)), (Sl Kf a0_2), (Vl (.int .i64 a0_3))], 114, none⟩] (fun w : Unit => (Sl Kf out.2.2.1)) (fun w => [⟨.pointer (some wa0), [(Vl (.int .i64 out.1)), (Vl (.int .i64 out.2.1)), (Sl Kf out.2.2.1), (Vl (.int .i64 out.2.2.2))], 114, none⟩]) := by
  unfold gogeom_geom0_FlatCoords at hp
  refine fn_of Try.func147 rfl Try.ntmps147 rfl fun E hM => ?_
  refine cx_seq' fun K1 hK1 => ?_
  refine cx_region' ?_
  refine sx_rd' (rd_assign' rfl) rfl rfl (wt_none' rfl) ?_
  refine sx_nil' ?_
  show TX E K1 _
  refine tx_k' hK1 ?_
  refine cx_seq' fun K2 hK2 => ?_
  refine cx_region' ?_
  refine sx_rd' (rd_move' rfl) rfl rfl (wt_none' rfl) ?_
  refine sx_rd' (rd_nilck' rfl) rfl rfl (wt_none' rfl) ?_
  refine sx_rd' (rd_field' (off := 2) rfl Try.underlying112 rfl info22 rfl) rfl rfl (wt_none' rfl) ?_
  refine sx_rd' (rd_load' (i := 0) (o := 2) rfl ⟨rfl, rfl, rfl, rfl⟩ rfl flat22) rfl rfl (wt_none' rfl) ?_
  refine sx_rd' (rd_assign' rfl) rfl rfl (wt_none' rfl) ?_
  refine sx_nil' ?_
  show TX E K2 _
  refine tx_k' hK2 ?_
  refine cx_retc' ?_
  replace hp := Option.some.inj hp
  subst hp
  refine tx_pick' (L' := [(2, (Sl Kf a0_2))]) (H' := [⟨.pointer (some wa0), [(Vl (.int .i64 a0_0)), (Vl (.int .i64 a0_1)), (Sl Kf a0_2), (Vl (.int .i64 a0_3))], 114, none⟩]) [0] (sub_cons rfl sub_nil) (by decide) (pick_cons rfl pick_nil) ?_
  exact tx_ret1' Try.results147 rfl () (rv_tmp' rfl) (List.Sublist.refl _)

def gogeom_geom0_Ends (k : Nat) (a0_0 : Int) (a0_1 : Int) (a0_2 : List Nat) (a0_3 : Int) : Option (Int × Int × (List Nat) × Int) :=
  some (a0_0, a0_1, a0_2, a0_3)

theorem gogeom_geom0_Ends_sim {k : Nat} {wa0 : Addr} (a0_0 : Int) (a0_1 : Int) (a0_2 : List Nat) (a0_3 : Int) {out : Int × Int × (List Nat) × Int} (hp : gogeom_geom0_Ends k a0_0 a0_1 a0_2 a0_3 = some out) : Go.Sx.Fn Try.prog 145 [(Vl (.pointer (some wa0)))] [⟨.pointer (some wa0), [(Vl (.int .i64 a0_0)), (Vl (.int .i64 a0_1)), (Sl Kf a0_2), (Vl (.int .i64 a0_3))], 114, none⟩] (fun w : Unit => (Vl (.slice none 0 0))) (fun w => [⟨.pointer (some wa0), [(Vl (.int .i64 out.1)), (Vl (.int .i64 out.2.1)), (Sl Kf out.2.2.1), (Vl (.int .i64 out.2.2.2))], 114, none⟩]) := by
  unfold gogeom_geom0_Ends at hp
  refine fn_of Try.func145 rfl Try.ntmps145 rfl fun E hM => ?_
  refine cx_seq' fun K1 hK1 => ?_
  refine cx_region' ?_
  refine sx_rd' (rd_assign' rfl) rfl rfl (wt_none' rfl) ?_
  refine sx_nil' ?_
  show TX E K1 _
  refine tx_k' hK1 ?_
  refine cx_seq' fun K2 hK2 => ?_
  refine cx_region' ?_
  refine sx_rd' (rd_assign' rfl) rfl rfl (wt_none' rfl) ?_
  refine sx_nil' ?_
  show TX E K2 _
  refine tx_k' hK2 ?_
  refine cx_retc' ?_
  replace hp := Option.some.inj hp
  subst hp
  refine tx_pick' (L' := [(2, (Vl (.slice none 0 0)))]) (H' := [⟨.pointer (some wa0), [(Vl (.int .i64 a0_0)), (Vl (.int .i64 a0_1)), (Sl Kf a0_2), (Vl (.int .i64 a0_3))], 114, none⟩]) [0] (sub_cons rfl sub_nil) (by decide) (pick_cons rfl pick_nil) ?_
  exact tx_ret1' Try.results145 rfl () (rv_tmp' rfl) (List.Sublist.refl _)

def impl_ints (k : Nat)  : Option ((List Int)) :=
  (apd 8 [] []) >>= fun r4 =>
  some r4

theorem impl_ints_sim {k : Nat}   {out : (List Int)} (hp : impl_ints k = some out) : Go.Sx.Fn Try.prog 84 [(Vl (.slice none 0 0))] [] (fun w : Unit => (Sl (Ki .i64) out)) (fun w => []) := by
  unfold impl_ints at hp
  refine fn_of Try.func84 rfl Try.ntmps84 rfl fun E hM => ?_
  refine cx_seq' fun K1 hK1 => ?_
  refine cx_region' ?_
  refine sx_rd' (rd_assign' rfl) rfl rfl (wt_none' rfl) ?_
  refine sx_nil' ?_
  show TX E K1 _
  refine tx_k' hK1 ?_
  refine cx_seq' fun K2 hK2 => ?_
  refine cx_region' ?_
  refine sx_rd' (rd_move' rfl) rfl rfl (wt_none' rfl) ?_
  refine tx_nilrow' (Ki .i64) 3 ?_
  obtain ⟨r4, hr4, hp⟩ := bind_some hp
  refine sx_ox' (ox_append' (K := (Ki .i64)) (i := 0) (xs := []) (ys := []) rfl rfl rfl (sr_nil' rfl Try.underlying23) hr4 Try.underlying23 info3 rfl rfl rfl (H' := []) rfl) (wt_none' rfl) fun g4 => ?_
  refine sx_rd' (rd_assign' rfl) rfl rfl (wt_none' rfl) ?_
  refine sx_nil' ?_
  show TX E K2 _
  refine tx_k' hK2 ?_
  refine cx_retc' ?_
  replace hp := Option.some.inj hp
  subst hp
  refine tx_fz' (frz_row 0 [(2, (Vl (Vs g4)), (Sl (Ki .i64) r4)), (4, (Vl (Vs g4)), (Sl (Ki .i64) r4))] (K := (Ki .i64)) (xs := r4) (by decide) rfl ⟨⟨rfl, frz_it⟩, ⟨rfl, frz_it⟩, trivial⟩ (H' := []) frzH_refl) ?_
  refine tx_pick' (L' := [(2, (Sl (Ki .i64) r4))]) (H' := []) [] (sub_cons rfl sub_nil) (by decide) pick_nil ?_
  exact tx_ret1' Try.results84 rfl () (rv_tmp' rfl) (List.Sublist.refl _)

def gogeom_geom0_Endss (k : Nat) (a0_0 : Int) (a0_1 : Int) (a0_2 : List Nat) (a0_3 : Int) : Option (Int × Int × (List Nat) × Int) :=
  some (a0_0, a0_1, a0_2, a0_3)

theorem gogeom_geom0_Endss_sim {k : Nat} {wa0 : Addr} (a0_0 : Int) (a0_1 : Int) (a0_2 : List Nat) (a0_3 : Int) {out : Int × Int × (List Nat) × Int} (hp : gogeom_geom0_Endss k a0_0 a0_1 a0_2 a0_3 = some out) : Go.Sx.Fn Try.prog 146 [(Vl (.pointer (some wa0)))] [⟨.pointer (some wa0), [(Vl (.int .i64 a0_0)), (Vl (.int .i64 a0_1)), (Sl Kf a0_2), (Vl (.int .i64 a0_3))], 114, none⟩] (fun w : Unit => (Vl (.slice none 0 0))) (fun w => [⟨.pointer (some wa0), [(Vl (.int .i64 out.1)), (Vl (.int .i64 out.2.1)), (Sl Kf out.2.2.1), (Vl (.int .i64 out.2.2.2))], 114, none⟩]) := by
  unfold gogeom_geom0_Endss at hp
  refine fn_of Try.func146 rfl Try.ntmps146 rfl fun E hM => ?_
  refine cx_seq' fun K1 hK1 => ?_
  refine cx_region' ?_
  refine sx_rd' (rd_assign' rfl) rfl rfl (wt_none' rfl) ?_
  refine sx_nil' ?_
  show TX E K1 _
  refine tx_k' hK1 ?_
  refine cx_seq' fun K2 hK2 => ?_
  refine cx_region' ?_
  refine sx_rd' (rd_assign' rfl) rfl rfl (wt_none' rfl) ?_
  refine sx_nil' ?_
  show TX E K2 _
  refine tx_k' hK2 ?_
  refine cx_retc' ?_
  replace hp := Option.some.inj hp
  subst hp
  refine tx_pick' (L' := [(2, (Vl (.slice none 0 0)))]) (H' := [⟨.pointer (some wa0), [(Vl (.int .i64 a0_0)), (Vl (.int .i64 a0_1)), (Sl Kf a0_2), (Vl (.int .i64 a0_3))], 114, none⟩]) [0] (sub_cons rfl sub_nil) (by decide) (pick_cons rfl pick_nil) ?_
  exact tx_ret1' Try.results146 rfl () (rv_tmp' rfl) (List.Sublist.refl _)

def impl_intss_l1s  (k : Nat) (rec1 : Unit → Option (Unit))  : Option (Unit) :=
  some ()
def impl_intss_l1  : Nat → Unit → Option (Unit)
  | 0, _ => none
  | k + 1, v => impl_intss_l1s k (impl_intss_l1 k) 
def impl_intss (k : Nat)  : Option (Unit) :=
  (impl_intss_l1 k ()) >>= fun v2 =>
  some ()

theorem impl_intss_sim {k : Nat}   {out : Unit} (hp : impl_intss k = some out) : Go.Sx.Fn Try.prog 51 [(Vl (.slice none 0 0))] [] (fun w : Unit => (Vl (.slice none 0 0))) (fun w => []) := by
  unfold impl_intss at hp
  refine fn_of Try.func51 rfl Try.ntmps51 rfl fun E hM => ?_
  refine cx_seq' fun K1 hK1 => ?_
  refine cx_region' ?_
  refine sx_rd' (rd_assign' rfl) rfl rfl (wt_none' rfl) ?_
  refine sx_nil' ?_
  show TX E K1 _
  refine tx_k' hK1 ?_
  refine cx_seq' fun K2 hK2 => ?_
  refine cx_region' ?_
  refine sx_rd' (rd_assign' rfl) rfl rfl (wt_none' rfl) ?_
  refine sx_nil' ?_
  show TX E K2 _
  refine tx_k' hK2 ?_
  refine cx_seq' fun K3 hK3 => ?_
  refine cx_seq' fun K4 hK4 => ?_
  refine cx_region' ?_
  refine sx_rd' (rd_move' rfl) rfl rfl (wt_none' rfl) ?_
  refine sx_rd' (rd_lenv' rfl Try.underlying24) rfl rfl (wt_none' rfl) ?_
  refine sx_rd' (rd_move' rfl) rfl rfl (wt_none' rfl) ?_
  refine sx_nil' ?_
  show TX E K4 _
  refine tx_k' hK4 ?_
  refine cx_block' ?_
  obtain ⟨v2, hy1, hp⟩ := bind_some hp
  refine cx_loopg' (F := impl_intss_l1) (G := fun k R v => impl_intss_l1s k R ) (x := ()) (gh := ()) (fun (v1 : Unit) (w1 : Unit) => (⟨19, [], [(3, (Vl (.slice none 0 0))), (6, (Vl (.slice none 0 0))), (7, (Vl (.int .i64 ((0 : Nat) : Int)))), (8, (Vl (.int .i64 0)))], []⟩ : St)) (fun (v2 : Unit) => Zg E (Exit.exit 0) (fun (w2 : Unit) => (⟨19, [], [(3, (Vl (.slice none 0 0)))], []⟩ : St))) (fun _ => rfl) (fun _ _ => rfl) ?_ hy1 (tx_to' rfl [] (sub_cons rfl (sub_cons rfl (sub_cons rfl (sub_cons rfl sub_nil)))) (by decide) pick_nil) ?_
  · clear hp hy1
    clear v2
    intro k rec1 KY1 ih1
    rintro ⟨⟩ ⟨⟩ y1 hp
    replace hp : impl_intss_l1s k rec1  = some y1 := hp
    unfold impl_intss_l1s at hp
    refine cx_seq' fun K5 hK5 => ?_
    refine cx_region' ?_
    refine sx_rd' (rd_bin' rfl rfl eg_int ru_lss) rfl rfl (wt_none' rfl) ?_
    refine sx_nil' ?_
    show TX E K5 _
    refine tx_k' hK5 ?_
    refine cx_seq' fun K6 hK6 => ?_
    refine cx_cond_f' rfl rfl ?_
    refine cx_exit' ?_
    replace hp := Option.some.inj hp
    subst hp
    show TX E (Zg E (Exit.exit 0) _ (Exit.exit 0)) _
    exact tx_zend' () rfl [] (sub_cons rfl sub_nil) (by decide) pick_nil
  · refine zg_out fun w2 => ?_
    show TX E K3 _
    refine tx_k' hK3 ?_
    refine cx_seq' fun K7 hK7 => ?_
    refine cx_region' ?_
    refine sx_rd' (rd_move' rfl) rfl rfl (wt_none' rfl) ?_
    refine sx_rd' (rd_assign' rfl) rfl rfl (wt_none' rfl) ?_
    refine sx_nil' ?_
    show TX E K7 _
    refine tx_k' hK7 ?_
    refine cx_retc' ?_
    replace hp := Option.some.inj hp
    subst hp
    refine tx_pick' (L' := [(2, (Vl (.slice none 0 0)))]) (H' := []) [] (sub_cons rfl sub_nil) (by decide) pick_nil ?_
    exact tx_ret1' Try.results51 rfl () (rv_tmp' rfl) (List.Sublist.refl _)

def impl_plain (k : Nat) (a0_0 : Int) (a0_1 : Int) (a0_2 : List Nat) (a0_3 : Int) : Option (Int × Int × (List Nat) × Int × Int × Int × Int × (List Nat) × (List Int)) :=
  (gogeom_geom0_SRID k a0_0 a0_1 a0_2 a0_3) >>= fun r15 =>
  (gogeom_geom0_Layout k r15.1 r15.2.1 r15.2.2.1 r15.2.2.2) >>= fun r70 =>
  (gogeom_geom0_FlatCoords k r70.1 r70.2.1 r70.2.2.1 r70.2.2.2) >>= fun r72 =>
  (impl_floats k r72.2.2.1) >>= fun r73 =>
  (gogeom_geom0_Ends k r72.1 r72.2.1 r72.2.2.1 r72.2.2.2) >>= fun r75 =>
  (impl_ints k) >>= fun r76 =>
  (gogeom_geom0_Endss k r75.1 r75.2.1 r75.2.2.1 r75.2.2.2) >>= fun r78 =>
  (impl_intss k) >>= fun r79 =>
  some (r78.1, r78.2.1, r78.2.2.1, r78.2.2.2, 1, r70.1, r15.2.2.2, r73, r76)

theorem impl_plain_sim {k : Nat} {wa0 : Addr} (a0_0 : Int) (a0_1 : Int) (a0_2 : List Nat) (a0_3 : Int) {out : Int × Int × (List Nat) × Int × Int × Int × Int × (List Nat) × (List Int)} (hp : impl_plain k a0_0 a0_1 a0_2 a0_3 = some out) : Go.Sx.Fn Try.prog 44 [(If 60 (Vl (.pointer (some wa0))))] [⟨.pointer (some wa0), [(Vl (.int .i64 a0_0)), (Vl (.int .i64 a0_1)), (Sl Kf a0_2), (Vl (.int .i64 a0_3))], 114, none⟩] (fun w : Unit => (Ag [(Vl (.int .i64 out.2.2.2.2.1)), (Vl (.int .i64 out.2.2.2.2.2.1)), (Vl (.int .i64 out.2.2.2.2.2.2.1)), (Sl Kf out.2.2.2.2.2.2.2.1), (Sl (Ki .i64) out.2.2.2.2.2.2.2.2), (Vl (.slice none 0 0)), (Vl (.slice none 0 0))])) (fun w => [⟨.pointer (some wa0), [(Vl (.int .i64 out.1)), (Vl (.int .i64 out.2.1)), (Sl Kf out.2.2.1), (Vl (.int .i64 out.2.2.2.1))], 114, none⟩]) := by
  unfold impl_plain at hp
  refine fn_of Try.func44 rfl Try.ntmps44 rfl fun E hM => ?_
  refine cx_seq' fun K1 hK1 => ?_
  refine cx_region' ?_
  refine sx_ox' (ox_alloc' info27 rfl rfl rfl rfl (l := [(Vl (.int .i64 0)), (Vl (.int .i64 0)), (Vl (.int .i64 0)), (Vl (.slice none 0 0)), (Vl (.slice none 0 0)), (Vl (.slice none 0 0)), (Vl (.slice none 0 0))]) rfl) (wt_none' rfl) fun q2 => ?_
  refine sx_nil' ?_
  show TX E K1 _
  refine tx_k' hK1 ?_
  refine cx_seq' fun K2 hK2 => ?_
  refine cx_region' ?_
  refine sx_rd' (rd_move' rfl) rfl rfl (wt_none' rfl) ?_
  obtain ⟨r15, hr15, hp⟩ := bind_some hp
  refine sx_ox' (ox_callg' (ent_inv' rfl rfl (inv_ptr0 (inv60_SRID _))) (gogeom_geom0_SRID_sim _ _ _ _ hr15 : Go.Sx.Fn Try.prog 151 [(Vl (.pointer (some wa0)))] [⟨.pointer (some wa0), [(Vl (.int .i64 a0_0)), (Vl (.int .i64 a0_1)), (Sl Kf a0_2), (Vl (.int .i64 a0_3))], 114, none⟩] (fun x : Unit => (Vl (.int .i64 r15.2.2.2))) (fun x => [⟨.pointer (some wa0), [(Vl (.int .i64 r15.1)), (Vl (.int .i64 r15.2.1)), (Sl Kf r15.2.2.1), (Vl (.int .i64 r15.2.2.2))], 114, none⟩])) [1] [0] (by decide) (pick_cons rfl pick_nil) (pick_cons rfl pick_nil) (Hn := fun x : Unit => [⟨.pointer (some wa0), [(Vl (.int .i64 r15.1)), (Vl (.int .i64 r15.2.1)), (Sl Kf r15.2.2.1), (Vl (.int .i64 r15.2.2.2))], 114, none⟩, ⟨.pointer (some q2), [(Vl (.int .i64 0)), (Vl (.int .i64 0)), (Vl (.int .i64 0)), (Vl (.slice none 0 0)), (Vl (.slice none 0 0)), (Vl (.slice none 0 0)), (Vl (.slice none 0 0))], 27, none⟩]) (fun _ => rfl) rfl rfl) (wt_none' rfl) fun ⟨⟩ => ?_
  refine sx_rd' (rd_build' (pls := [(0, 1), (1, 1), (2, 1), (3, 1), (4, 1), (5, 1), (6, 1)]) (qs := [(2, [(Vl (.int .i64 r15.2.2.2))])]) (r := [(Vl (.int .i64 0)), (Vl (.int .i64 0)), (Vl (.int .i64 r15.2.2.2)), (Vl (.slice none 0 0)), (Vl (.slice none 0 0)), (Vl (.slice none 0 0)), (Vl (.slice none 0 0))]) ⟨rfl, ⟨_, rfl, (lv_vl rfl rfl)⟩, trivial⟩ Try.underlying27 has27 places27 info27 rfl rfl rfl) rfl rfl (wt_none' rfl) ?_
  refine sx_ox' (ox_alloc' info27 rfl rfl rfl rfl (l := [(Vl (.int .i64 0)), (Vl (.int .i64 0)), (Vl (.int .i64 0)), (Vl (.slice none 0 0)), (Vl (.slice none 0 0)), (Vl (.slice none 0 0)), (Vl (.slice none 0 0))]) rfl) (wt_none' rfl) fun q3 => ?_
  refine sx_ox' (ox_store' (i := 0) (o := 0) rfl rfl (lv_ag _) ⟨rfl, rfl, rfl, rfl⟩ rfl info27 rfl (H' := [⟨.pointer (some q3), [(Vl (.int .i64 0)), (Vl (.int .i64 0)), (Vl (.int .i64 r15.2.2.2)), (Vl (.slice none 0 0)), (Vl (.slice none 0 0)), (Vl (.slice none 0 0)), (Vl (.slice none 0 0))], 27, none⟩, ⟨.pointer (some wa0), [(Vl (.int .i64 r15.1)), (Vl (.int .i64 r15.2.1)), (Sl Kf r15.2.2.1), (Vl (.int .i64 r15.2.2.2))], 114, none⟩, ⟨.pointer (some q2), [(Vl (.int .i64 0)), (Vl (.int .i64 0)), (Vl (.int .i64 0)), (Vl (.slice none 0 0)), (Vl (.slice none 0 0)), (Vl (.slice none 0 0)), (Vl (.slice none 0 0))], 27, none⟩]) rfl) (wt_none' rfl) fun _ => ?_
  refine sx_nil' ?_
  show TX E K2 _
  refine tx_k' hK2 ?_
  refine cx_seq' fun K3 hK3 => ?_
  refine cx_seq' fun K4 hK4 => ?_
  refine cx_region' ?_
  refine sx_rd' (rd_move' rfl) rfl rfl (wt_none' rfl) ?_
  refine sx_nil' ?_
  show TX E K4 _
  refine tx_k' hK4 ?_
  refine cx_block' ?_
  refine cx_seq' fun K5 hK5 => ?_
  refine cx_region' ?_
  refine sx_rd' (rd_assert' rfl (F := fun v => .tuple #[v, .bool true]) as60_75_60k as_ok) rfl rfl (wt_none' rfl) ?_
  refine sx_rd' (rd_extract' rfl rfl) rfl rfl (wt_none' rfl) ?_
  refine sx_rd' (rd_extract' rfl rfl) rfl rfl (wt_none' rfl) ?_
  refine sx_nil' ?_
  show TX E K5 _
  refine tx_k' hK5 ?_
  refine cx_cond_t' rfl rfl ?_
  refine cx_seq' fun K6 hK6 => ?_
  refine cx_region' ?_
  refine sx_rd' (rd_assign' rfl) rfl rfl (wt_none' rfl) ?_
  refine sx_nil' ?_
  show TX E K6 _
  refine tx_k' hK6 ?_
  refine cx_region' ?_
  refine sx_rd' (rd_field0' rfl Try.underlying27 rfl info3 rfl) rfl rfl (wt_none' rfl) ?_
  refine sx_ox' (ox_store' (i := 0) (o := 0) rfl rfl (lv_vl rfl rfl) ⟨rfl, rfl, rfl, rfl⟩ rfl info3 rfl (H' := [⟨.pointer (some q3), [(Vl (.int .i64 1)), (Vl (.int .i64 0)), (Vl (.int .i64 r15.2.2.2)), (Vl (.slice none 0 0)), (Vl (.slice none 0 0)), (Vl (.slice none 0 0)), (Vl (.slice none 0 0))], 27, none⟩, ⟨.pointer (some wa0), [(Vl (.int .i64 r15.1)), (Vl (.int .i64 r15.2.1)), (Sl Kf r15.2.2.1), (Vl (.int .i64 r15.2.2.2))], 114, none⟩, ⟨.pointer (some q2), [(Vl (.int .i64 0)), (Vl (.int .i64 0)), (Vl (.int .i64 0)), (Vl (.slice none 0 0)), (Vl (.slice none 0 0)), (Vl (.slice none 0 0)), (Vl (.slice none 0 0))], 27, none⟩]) rfl) (wt_none' rfl) fun _ => ?_
  refine sx_nil' ?_
  show TX E K3 _
  refine tx_k' hK3 ?_
  refine cx_seq' fun K7 hK7 => ?_
  refine cx_region' ?_
  refine sx_rd' (rd_move' rfl) rfl rfl (wt_none' rfl) ?_
  obtain ⟨r70, hr70, hp⟩ := bind_some hp
  refine sx_ox' (ox_callg' (ent_inv' rfl rfl (inv_ptr0 (inv60_Layout _))) (gogeom_geom0_Layout_sim _ _ _ _ hr70 : Go.Sx.Fn Try.prog 148 [(Vl (.pointer (some wa0)))] [⟨.pointer (some wa0), [(Vl (.int .i64 r15.1)), (Vl (.int .i64 r15.2.1)), (Sl Kf r15.2.2.1), (Vl (.int .i64 r15.2.2.2))], 114, none⟩] (fun x : Unit => (Vl (.int .i64 r70.1))) (fun x => [⟨.pointer (some wa0), [(Vl (.int .i64 r70.1)), (Vl (.int .i64 r70.2.1)), (Sl Kf r70.2.2.1), (Vl (.int .i64 r70.2.2.2))], 114, none⟩])) [1] [0, 2] (by decide) (pick_cons rfl pick_nil) (pick_cons rfl (pick_cons rfl pick_nil)) (Hn := fun x : Unit => [⟨.pointer (some wa0), [(Vl (.int .i64 r70.1)), (Vl (.int .i64 r70.2.1)), (Sl Kf r70.2.2.1), (Vl (.int .i64 r70.2.2.2))], 114, none⟩, ⟨.pointer (some q3), [(Vl (.int .i64 1)), (Vl (.int .i64 0)), (Vl (.int .i64 r15.2.2.2)), (Vl (.slice none 0 0)), (Vl (.slice none 0 0)), (Vl (.slice none 0 0)), (Vl (.slice none 0 0))], 27, none⟩, ⟨.pointer (some q2), [(Vl (.int .i64 0)), (Vl (.int .i64 0)), (Vl (.int .i64 0)), (Vl (.slice none 0 0)), (Vl (.slice none 0 0)), (Vl (.slice none 0 0)), (Vl (.slice none 0 0))], 27, none⟩]) (fun _ => rfl) rfl rfl) (wt_none' rfl) fun ⟨⟩ => ?_
  refine sx_rd' (rd_move' rfl) rfl rfl (wt_none' rfl) ?_
  obtain ⟨r72, hr72, hp⟩ := bind_some hp
  refine sx_ox' (ox_callg' (ent_inv' rfl rfl (inv_ptr0 (inv60_FlatCoords _))) (gogeom_geom0_FlatCoords_sim _ _ _ _ hr72 : Go.Sx.Fn Try.prog 147 [(Vl (.pointer (some wa0)))] [⟨.pointer (some wa0), [(Vl (.int .i64 r70.1)), (Vl (.int .i64 r70.2.1)), (Sl Kf r70.2.2.1), (Vl (.int .i64 r70.2.2.2))], 114, none⟩] (fun x : Unit => (Sl Kf r72.2.2.1)) (fun x => [⟨.pointer (some wa0), [(Vl (.int .i64 r72.1)), (Vl (.int .i64 r72.2.1)), (Sl Kf r72.2.2.1), (Vl (.int .i64 r72.2.2.2))], 114, none⟩])) [0] [1, 2] (by decide) (pick_cons rfl pick_nil) (pick_cons rfl (pick_cons rfl pick_nil)) (Hn := fun x : Unit => [⟨.pointer (some wa0), [(Vl (.int .i64 r72.1)), (Vl (.int .i64 r72.2.1)), (Sl Kf r72.2.2.1), (Vl (.int .i64 r72.2.2.2))], 114, none⟩, ⟨.pointer (some q3), [(Vl (.int .i64 1)), (Vl (.int .i64 0)), (Vl (.int .i64 r15.2.2.2)), (Vl (.slice none 0 0)), (Vl (.slice none 0 0)), (Vl (.slice none 0 0)), (Vl (.slice none 0 0))], 27, none⟩, ⟨.pointer (some q2), [(Vl (.int .i64 0)), (Vl (.int .i64 0)), (Vl (.int .i64 0)), (Vl (.slice none 0 0)), (Vl (.slice none 0 0)), (Vl (.slice none 0 0)), (Vl (.slice none 0 0))], 27, none⟩]) (fun _ => rfl) rfl rfl) (wt_none' rfl) fun ⟨⟩ => ?_
  obtain ⟨r73, hr73, hp⟩ := bind_some hp
  refine sx_ox' (ox_calln' (ent_fn' Try.func43 isn43 rfl rfl) (impl_floats_sim _ hr73 : Go.Sx.Fn Try.prog 43 [(Sl Kf r72.2.2.1)] [] (fun x : Unit => (Sl Kf r73)) (fun x => [])) (Hn := fun x : Unit => [⟨.pointer (some wa0), [(Vl (.int .i64 r72.1)), (Vl (.int .i64 r72.2.1)), (Sl Kf r72.2.2.1), (Vl (.int .i64 r72.2.2.2))], 114, none⟩, ⟨.pointer (some q3), [(Vl (.int .i64 1)), (Vl (.int .i64 0)), (Vl (.int .i64 r15.2.2.2)), (Vl (.slice none 0 0)), (Vl (.slice none 0 0)), (Vl (.slice none 0 0)), (Vl (.slice none 0 0))], 27, none⟩, ⟨.pointer (some q2), [(Vl (.int .i64 0)), (Vl (.int .i64 0)), (Vl (.int .i64 0)), (Vl (.slice none 0 0)), (Vl (.slice none 0 0)), (Vl (.slice none 0 0)), (Vl (.slice none 0 0))], 27, none⟩]) (fun _ => rfl) rfl rfl) (wt_none' rfl) fun ⟨⟩ => ?_
  refine sx_rd' (rd_move' rfl) rfl rfl (wt_none' rfl) ?_
  obtain ⟨r75, hr75, hp⟩ := bind_some hp
  refine sx_ox' (ox_callg' (ent_inv' rfl rfl (inv_ptr0 (inv60_Ends _))) (gogeom_geom0_Ends_sim _ _ _ _ hr75 : Go.Sx.Fn Try.prog 145 [(Vl (.pointer (some wa0)))] [⟨.pointer (some wa0), [(Vl (.int .i64 r72.1)), (Vl (.int .i64 r72.2.1)), (Sl Kf r72.2.2.1), (Vl (.int .i64 r72.2.2.2))], 114, none⟩] (fun x : Unit => (Vl (.slice none 0 0))) (fun x => [⟨.pointer (some wa0), [(Vl (.int .i64 r75.1)), (Vl (.int .i64 r75.2.1)), (Sl Kf r75.2.2.1), (Vl (.int .i64 r75.2.2.2))], 114, none⟩])) [0] [1, 2] (by decide) (pick_cons rfl pick_nil) (pick_cons rfl (pick_cons rfl pick_nil)) (Hn := fun x : Unit => [⟨.pointer (some wa0), [(Vl (.int .i64 r75.1)), (Vl (.int .i64 r75.2.1)), (Sl Kf r75.2.2.1), (Vl (.int .i64 r75.2.2.2))], 114, none⟩, ⟨.pointer (some q3), [(Vl (.int .i64 1)), (Vl (.int .i64 0)), (Vl (.int .i64 r15.2.2.2)), (Vl (.slice none 0 0)), (Vl (.slice none 0 0)), (Vl (.slice none 0 0)), (Vl (.slice none 0 0))], 27, none⟩, ⟨.pointer (some q2), [(Vl (.int .i64 0)), (Vl (.int .i64 0)), (Vl (.int .i64 0)), (Vl (.slice none 0 0)), (Vl (.slice none 0 0)), (Vl (.slice none 0 0)), (Vl (.slice none 0 0))], 27, none⟩]) (fun _ => rfl) rfl rfl) (wt_none' rfl) fun ⟨⟩ => ?_
  obtain ⟨r76, hr76, hp⟩ := bind_some hp
  refine sx_ox' (ox_calln' (ent_fn' Try.func84 isn84 rfl rfl) (impl_ints_sim hr76 : Go.Sx.Fn Try.prog 84 [(Vl (.slice none 0 0))] [] (fun x : Unit => (Sl (Ki .i64) r76)) (fun x => [])) (Hn := fun x : Unit => [⟨.pointer (some wa0), [(Vl (.int .i64 r75.1)), (Vl (.int .i64 r75.2.1)), (Sl Kf r75.2.2.1), (Vl (.int .i64 r75.2.2.2))], 114, none⟩, ⟨.pointer (some q3), [(Vl (.int .i64 1)), (Vl (.int .i64 0)), (Vl (.int .i64 r15.2.2.2)), (Vl (.slice none 0 0)), (Vl (.slice none 0 0)), (Vl (.slice none 0 0)), (Vl (.slice none 0 0))], 27, none⟩, ⟨.pointer (some q2), [(Vl (.int .i64 0)), (Vl (.int .i64 0)), (Vl (.int .i64 0)), (Vl (.slice none 0 0)), (Vl (.slice none 0 0)), (Vl (.slice none 0 0)), (Vl (.slice none 0 0))], 27, none⟩]) (fun _ => rfl) rfl rfl) (wt_none' rfl) fun ⟨⟩ => ?_
  refine sx_rd' (rd_move' rfl) rfl rfl (wt_none' rfl) ?_
  obtain ⟨r78, hr78, hp⟩ := bind_some hp
  refine sx_ox' (ox_callg' (ent_inv' rfl rfl (inv_ptr0 (inv60_Endss _))) (gogeom_geom0_Endss_sim _ _ _ _ hr78 : Go.Sx.Fn Try.prog 146 [(Vl (.pointer (some wa0)))] [⟨.pointer (some wa0), [(Vl (.int .i64 r75.1)), (Vl (.int .i64 r75.2.1)), (Sl Kf r75.2.2.1), (Vl (.int .i64 r75.2.2.2))], 114, none⟩] (fun x : Unit => (Vl (.slice none 0 0))) (fun x => [⟨.pointer (some wa0), [(Vl (.int .i64 r78.1)), (Vl (.int .i64 r78.2.1)), (Sl Kf r78.2.2.1), (Vl (.int .i64 r78.2.2.2))], 114, none⟩])) [0] [1, 2] (by decide) (pick_cons rfl pick_nil) (pick_cons rfl (pick_cons rfl pick_nil)) (Hn := fun x : Unit => [⟨.pointer (some wa0), [(Vl (.int .i64 r78.1)), (Vl (.int .i64 r78.2.1)), (Sl Kf r78.2.2.1), (Vl (.int .i64 r78.2.2.2))], 114, none⟩, ⟨.pointer (some q3), [(Vl (.int .i64 1)), (Vl (.int .i64 0)), (Vl (.int .i64 r15.2.2.2)), (Vl (.slice none 0 0)), (Vl (.slice none 0 0)), (Vl (.slice none 0 0)), (Vl (.slice none 0 0))], 27, none⟩, ⟨.pointer (some q2), [(Vl (.int .i64 0)), (Vl (.int .i64 0)), (Vl (.int .i64 0)), (Vl (.slice none 0 0)), (Vl (.slice none 0 0)), (Vl (.slice none 0 0)), (Vl (.slice none 0 0))], 27, none⟩]) (fun _ => rfl) rfl rfl) (wt_none' rfl) fun ⟨⟩ => ?_
  obtain ⟨r79, hr79, hp⟩ := bind_some hp
  refine sx_ox' (ox_calln' (ent_fn' Try.func51 isn51 rfl rfl) (impl_intss_sim hr79 : Go.Sx.Fn Try.prog 51 [(Vl (.slice none 0 0))] [] (fun x : Unit => (Vl (.slice none 0 0))) (fun x => [])) (Hn := fun x : Unit => [⟨.pointer (some wa0), [(Vl (.int .i64 r78.1)), (Vl (.int .i64 r78.2.1)), (Sl Kf r78.2.2.1), (Vl (.int .i64 r78.2.2.2))], 114, none⟩, ⟨.pointer (some q3), [(Vl (.int .i64 1)), (Vl (.int .i64 0)), (Vl (.int .i64 r15.2.2.2)), (Vl (.slice none 0 0)), (Vl (.slice none 0 0)), (Vl (.slice none 0 0)), (Vl (.slice none 0 0))], 27, none⟩, ⟨.pointer (some q2), [(Vl (.int .i64 0)), (Vl (.int .i64 0)), (Vl (.int .i64 0)), (Vl (.slice none 0 0)), (Vl (.slice none 0 0)), (Vl (.slice none 0 0)), (Vl (.slice none 0 0))], 27, none⟩]) (fun _ => rfl) rfl rfl) (wt_none' rfl) fun ⟨⟩ => ?_
  refine sx_rd' (rd_field' (off := 1) rfl Try.underlying27 rfl info3 rfl) rfl rfl (wt_none' rfl) ?_
  refine sx_ox' (ox_store' (i := 1) (o := 1) rfl rfl (lv_vl rfl rfl) ⟨rfl, rfl, rfl, rfl⟩ rfl info3 rfl (H' := [⟨.pointer (some wa0), [(Vl (.int .i64 r78.1)), (Vl (.int .i64 r78.2.1)), (Sl Kf r78.2.2.1), (Vl (.int .i64 r78.2.2.2))], 114, none⟩, ⟨.pointer (some q3), [(Vl (.int .i64 1)), (Vl (.int .i64 r70.1)), (Vl (.int .i64 r15.2.2.2)), (Vl (.slice none 0 0)), (Vl (.slice none 0 0)), (Vl (.slice none 0 0)), (Vl (.slice none 0 0))], 27, none⟩, ⟨.pointer (some q2), [(Vl (.int .i64 0)), (Vl (.int .i64 0)), (Vl (.int .i64 0)), (Vl (.slice none 0 0)), (Vl (.slice none 0 0)), (Vl (.slice none 0 0)), (Vl (.slice none 0 0))], 27, none⟩]) rfl) (wt_none' rfl) fun _ => ?_
  refine sx_rd' (rd_field' (off := 3) rfl Try.underlying27 rfl info22 rfl) rfl rfl (wt_none' rfl) ?_
  refine sx_ox' (ox_store' (i := 1) (o := 3) rfl rfl (lv_sl _ _) ⟨rfl, rfl, rfl, rfl⟩ rfl info22 rfl (H' := [⟨.pointer (some wa0), [(Vl (.int .i64 r78.1)), (Vl (.int .i64 r78.2.1)), (Sl Kf r78.2.2.1), (Vl (.int .i64 r78.2.2.2))], 114, none⟩, ⟨.pointer (some q3), [(Vl (.int .i64 1)), (Vl (.int .i64 r70.1)), (Vl (.int .i64 r15.2.2.2)), (Sl Kf r73), (Vl (.slice none 0 0)), (Vl (.slice none 0 0)), (Vl (.slice none 0 0))], 27, none⟩, ⟨.pointer (some q2), [(Vl (.int .i64 0)), (Vl (.int .i64 0)), (Vl (.int .i64 0)), (Vl (.slice none 0 0)), (Vl (.slice none 0 0)), (Vl (.slice none 0 0)), (Vl (.slice none 0 0))], 27, none⟩]) rfl) (wt_none' rfl) fun _ => ?_
  refine sx_rd' (rd_field' (off := 4) rfl Try.underlying27 rfl info23 rfl) rfl rfl (wt_none' rfl) ?_
  refine sx_ox' (ox_store' (i := 1) (o := 4) rfl rfl (lv_sl _ _) ⟨rfl, rfl, rfl, rfl⟩ rfl info23 rfl (H' := [⟨.pointer (some wa0), [(Vl (.int .i64 r78.1)), (Vl (.int .i64 r78.2.1)), (Sl Kf r78.2.2.1), (Vl (.int .i64 r78.2.2.2))], 114, none⟩, ⟨.pointer (some q3), [(Vl (.int .i64 1)), (Vl (.int .i64 r70.1)), (Vl (.int .i64 r15.2.2.2)), (Sl Kf r73), (Sl (Ki .i64) r76), (Vl (.slice none 0 0)), (Vl (.slice none 0 0))], 27, none⟩, ⟨.pointer (some q2), [(Vl (.int .i64 0)), (Vl (.int .i64 0)), (Vl (.int .i64 0)), (Vl (.slice none 0 0)), (Vl (.slice none 0 0)), (Vl (.slice none 0 0)), (Vl (.slice none 0 0))], 27, none⟩]) rfl) (wt_none' rfl) fun _ => ?_
  refine sx_rd' (rd_field' (off := 5) rfl Try.underlying27 rfl info24 rfl) rfl rfl (wt_none' rfl) ?_
  refine sx_ox' (ox_store' (i := 1) (o := 5) rfl rfl (lv_vl rfl rfl) ⟨rfl, rfl, rfl, rfl⟩ rfl info24 rfl (H' := [⟨.pointer (some wa0), [(Vl (.int .i64 r78.1)), (Vl (.int .i64 r78.2.1)), (Sl Kf r78.2.2.1), (Vl (.int .i64 r78.2.2.2))], 114, none⟩, ⟨.pointer (some q3), [(Vl (.int .i64 1)), (Vl (.int .i64 r70.1)), (Vl (.int .i64 r15.2.2.2)), (Sl Kf r73), (Sl (Ki .i64) r76), (Vl (.slice none 0 0)), (Vl (.slice none 0 0))], 27, none⟩, ⟨.pointer (some q2), [(Vl (.int .i64 0)), (Vl (.int .i64 0)), (Vl (.int .i64 0)), (Vl (.slice none 0 0)), (Vl (.slice none 0 0)), (Vl (.slice none 0 0)), (Vl (.slice none 0 0))], 27, none⟩]) rfl) (wt_none' rfl) fun _ => ?_
  refine sx_nil' ?_
  show TX E K7 _
  refine tx_k' hK7 ?_
  refine cx_seq' fun K8 hK8 => ?_
  refine cx_region' ?_
  refine sx_rd' (rd_load_agg' (i := 1) (o := 0) (nn := 7) rfl ⟨rfl, rfl, rfl, rfl⟩ rfl agg27 (l' := [(Vl (.int .i64 1)), (Vl (.int .i64 r70.1)), (Vl (.int .i64 r15.2.2.2)), (Sl Kf r73), (Sl (Ki .i64) r76), (Vl (.slice none 0 0)), (Vl (.slice none 0 0))]) rfl) rfl rfl (wt_none' rfl) ?_
  refine sx_ox' (ox_store' (i := 2) (o := 0) rfl rfl (lv_ag _) ⟨rfl, rfl, rfl, rfl⟩ rfl info27 rfl (H' := [⟨.pointer (some wa0), [(Vl (.int .i64 r78.1)), (Vl (.int .i64 r78.2.1)), (Sl Kf r78.2.2.1), (Vl (.int .i64 r78.2.2.2))], 114, none⟩, ⟨.pointer (some q3), [(Vl (.int .i64 1)), (Vl (.int .i64 r70.1)), (Vl (.int .i64 r15.2.2.2)), (Sl Kf r73), (Sl (Ki .i64) r76), (Vl (.slice none 0 0)), (Vl (.slice none 0 0))], 27, none⟩, ⟨.pointer (some q2), [(Vl (.int .i64 1)), (Vl (.int .i64 r70.1)), (Vl (.int .i64 r15.2.2.2)), (Sl Kf r73), (Sl (Ki .i64) r76), (Vl (.slice none 0 0)), (Vl (.slice none 0 0))], 27, none⟩]) rfl) (wt_none' rfl) fun _ => ?_
  refine sx_nil' ?_
  show TX E K8 _
  refine tx_k' hK8 ?_
  refine cx_retc' ?_
  replace hp := Option.some.inj hp
  subst hp
  refine tx_pick' (L' := [(2, (Vl (.pointer (some q2))))]) (H' := [⟨.pointer (some wa0), [(Vl (.int .i64 r78.1)), (Vl (.int .i64 r78.2.1)), (Sl Kf r78.2.2.1), (Vl (.int .i64 r78.2.2.2))], 114, none⟩, ⟨.pointer (some q2), [(Vl (.int .i64 1)), (Vl (.int .i64 r70.1)), (Vl (.int .i64 r15.2.2.2)), (Sl Kf r73), (Sl (Ki .i64) r76), (Vl (.slice none 0 0)), (Vl (.slice none 0 0))], 27, none⟩]) [0, 2] (sub_cons rfl sub_nil) (by decide) (pick_cons rfl (pick_cons rfl pick_nil)) ?_
  exact tx_ret1' Try.results44 rfl () (rv_cell_agg' (i := 1) (o := 0) (nn := 7) rfl ⟨rfl, rfl, rfl, rfl⟩ rfl agg27 rfl) (List.Sublist.cons_cons _ (List.nil_sublist _))

def impl_SetPoint (k : Nat) (a0 : Int) (a1 : List Nat) : Option (Int × Int × Int × (List Nat) × (List Int) × Bool) :=
  (gogeom_NewPoint k a0) >>= fun r11 =>
  (impl_floats k a1) >>= fun r13 =>
  (gogeom_Point_SetCoords k r11.1 r11.2.1 r11.2.2.1 r11.2.2.2 r13) >>= fun r14 =>
  match r14 with
    | (.inl y2) =>
      (some (0, 0, 0, [], [], false))
    | (.inr y2) =>
      ((impl_plain k y2.1 y2.2.1 y2.2.2.1 y2.2.2.2) >>= fun r22 =>
      some (r22.2.2.2.2.1, r22.2.2.2.2.2.1, r22.2.2.2.2.2.2.1, r22.2.2.2.2.2.2.2.1, r22.2.2.2.2.2.2.2.2, true))

theorem impl_SetPoint_sim {k : Nat}  (a0 : Int) (a1 : List Nat) {out : Int × Int × Int × (List Nat) × (List Int) × Bool} (hp : impl_SetPoint k a0 a1 = some out) : Go.Sx.Fn Try.prog 11 [(Vl (.int .i64 a0)), (Sl Kf a1)] [] (fun w : Unit => (Tu [(Ag [(Vl (.int .i64 out.1)), (Vl (.int .i64 out.2.1)), (Vl (.int .i64 out.2.2.1)), (Sl Kf out.2.2.2.1), (Sl (Ki .i64) out.2.2.2.2.1), (Vl (.slice none 0 0)), (Vl (.slice none 0 0))]), (Vl (.bool out.2.2.2.2.2))])) (fun w => []) := by
  unfold impl_SetPoint at hp
  refine fnD_of Try.func11 rfl Try.ntmps11 rfl fun E hM => ?_
  refine cx_seq' fun K1 hK1 => ?_
  refine cx_region' ?_
  refine sx_ox' (ox_alloc' info27 rfl rfl rfl rfl (l := [(Vl (.int .i64 0)), (Vl (.int .i64 0)), (Vl (.int .i64 0)), (Vl (.slice none 0 0)), (Vl (.slice none 0 0)), (Vl (.slice none 0 0)), (Vl (.slice none 0 0))]) rfl) (wt_none' rfl) fun q4 => ?_
  refine sx_ox' (ox_alloc' info4 rfl rfl rfl rfl (l := [(Vl (.bool false))]) rfl) (wt_none' rfl) fun q5 => ?_
  refine sx_nil' ?_
  show TX E K1 _
  refine tx_k' hK1 ?_
  refine cx_seq' fun K2 hK2 => ?_
  refine cx_region' ?_
  refine sx_rd' (rd_mkfunc' (us := [.pointer (some q4), .pointer (some q5)]) rfl) rfl rfl (wt_none' rfl) ?_
  refine sx_ox' (ox_defer' rfl rfl) (wt_none' rfl) fun _ => ?_
  refine sx_nil' ?_
  show TX E K2 _
  refine tx_k' hK2 ?_
  refine cx_seq' fun K3 hK3 => ?_
  refine cx_region' ?_
  refine sx_rd' (rd_move' rfl) rfl rfl (wt_none' rfl) ?_
  obtain ⟨r11, hr11, hp⟩ := bind_some hp
  refine sx_ox' (ox_calln' (ent_fn' Try.func41 isn41 rfl rfl) (gogeom_NewPoint_sim _ hr11 : Go.Sx.Fn Try.prog 41 [(Vl (.int .i64 a0))] [] (fun x : Addr => (Vl (.pointer (some x)))) (fun x => [⟨.pointer (some x), [(Vl (.int .i64 r11.1)), (Vl (.int .i64 r11.2.1)), (Sl Kf r11.2.2.1), (Vl (.int .i64 r11.2.2.2))], 114, none⟩])) (Hn := fun x : Addr => [⟨.pointer (some x), [(Vl (.int .i64 r11.1)), (Vl (.int .i64 r11.2.1)), (Sl Kf r11.2.2.1), (Vl (.int .i64 r11.2.2.2))], 114, none⟩, ⟨.pointer (some q5), [(Vl (.bool false))], 4, none⟩, ⟨.pointer (some q4), [(Vl (.int .i64 0)), (Vl (.int .i64 0)), (Vl (.int .i64 0)), (Vl (.slice none 0 0)), (Vl (.slice none 0 0)), (Vl (.slice none 0 0)), (Vl (.slice none 0 0))], 27, none⟩]) (fun _ => rfl) rfl rfl) (wt_none' rfl) fun q11 => ?_
  refine sx_rd' (rd_move' rfl) rfl rfl (wt_none' rfl) ?_
  obtain ⟨r13, hr13, hp⟩ := bind_some hp
  refine sx_ox' (ox_calln' (ent_fn' Try.func43 isn43 rfl rfl) (impl_floats_sim _ hr13 : Go.Sx.Fn Try.prog 43 [(Sl Kf a1)] [] (fun x : Unit => (Sl Kf r13)) (fun x => [])) (Hn := fun x : Unit => [⟨.pointer (some q11), [(Vl (.int .i64 r11.1)), (Vl (.int .i64 r11.2.1)), (Sl Kf r11.2.2.1), (Vl (.int .i64 r11.2.2.2))], 114, none⟩, ⟨.pointer (some q5), [(Vl (.bool false))], 4, none⟩, ⟨.pointer (some q4), [(Vl (.int .i64 0)), (Vl (.int .i64 0)), (Vl (.int .i64 0)), (Vl (.slice none 0 0)), (Vl (.slice none 0 0)), (Vl (.slice none 0 0)), (Vl (.slice none 0 0))], 27, none⟩]) (fun _ => rfl) rfl rfl) (wt_none' rfl) fun ⟨⟩ => ?_
  obtain ⟨r14, hr14, hp⟩ := bind_some hp
  rcases r14 with y2 | y2
  · dsimp only at hp
    refine sx_ox' (ox_callg' (ent_fn' Try.func42 isn42 rfl rfl) (gogeom_Point_SetCoords_sim _ _ _ _ _ hr14 : Go.Sx.Fn Try.prog 42 [(Vl (.pointer (some q11))), (Sl Kf r13)] [⟨.pointer (some q11), [(Vl (.int .i64 r11.1)), (Vl (.int .i64 r11.2.1)), (Sl Kf r11.2.2.1), (Vl (.int .i64 r11.2.2.2))], 114, none⟩] (fun x : Unit => (Tu [(Vl (.pointer none)), (If 183 (Ag [(Vl (.int .i64 y2.2.2.2.1)), (Vl (.int .i64 y2.2.2.2.2))]))])) (fun x => [⟨.pointer (some q11), [(Vl (.int .i64 y2.1)), (Vl (.int .i64 y2.2.1)), (Vl (.slice none 0 0)), (Vl (.int .i64 y2.2.2.1))], 114, none⟩])) [0] [1, 2] (by decide) (pick_cons rfl pick_nil) (pick_cons rfl (pick_cons rfl pick_nil)) (Hn := fun x : Unit => [⟨.pointer (some q11), [(Vl (.int .i64 y2.1)), (Vl (.int .i64 y2.2.1)), (Vl (.slice none 0 0)), (Vl (.int .i64 y2.2.2.1))], 114, none⟩, ⟨.pointer (some q5), [(Vl (.bool false))], 4, none⟩, ⟨.pointer (some q4), [(Vl (.int .i64 0)), (Vl (.int .i64 0)), (Vl (.int .i64 0)), (Vl (.slice none 0 0)), (Vl (.slice none 0 0)), (Vl (.slice none 0 0)), (Vl (.slice none 0 0))], 27, none⟩]) (fun _ => rfl) rfl rfl) (wt_none' rfl) fun ⟨⟩ => ?_
    refine sx_rd' (rd_move' rfl) rfl rfl (wt_none' rfl) ?_
    refine sx_rd' (rd_extract' rfl rfl) rfl rfl (wt_none' rfl) ?_
    refine sx_rd' (rd_extract' rfl rfl) rfl rfl (wt_none' rfl) ?_
    refine sx_rd' (rd_assign' rfl) rfl rfl (wt_none' rfl) ?_
    refine sx_rd' (rd_assign' rfl) rfl rfl (wt_none' rfl) ?_
    refine sx_nil' ?_
    show TX E K3 _
    refine tx_k' hK3 ?_
    refine cx_seq' fun K4 hK4 => ?_
    refine cx_seq' fun K5 hK5 => ?_
    refine cx_region' ?_
    refine sx_rd' (rd_move' rfl) rfl rfl (wt_none' rfl) ?_
    refine sx_rd' (rd_binf' rfl rfl (bf_if (fun _ _ => by kernel_rfl) nil_neq62_if183)) rfl rfl (wt_none' rfl) ?_
    refine sx_nil' ?_
    show TX E K5 _
    refine tx_k' hK5 ?_
    refine cx_cond_t' rfl rfl ?_
    refine cx_seq' fun K6 hK6 => ?_
    refine cx_region' ?_
    refine sx_rd' (rd_build' (pls := [(0, 1), (1, 1), (2, 1), (3, 1), (4, 1), (5, 1), (6, 1)]) (qs := []) (r := [(Vl (.int .i64 0)), (Vl (.int .i64 0)), (Vl (.int .i64 0)), (Vl (.slice none 0 0)), (Vl (.slice none 0 0)), (Vl (.slice none 0 0)), (Vl (.slice none 0 0))]) trivial Try.underlying27 has27 places27 info27 rfl rfl rfl) rfl rfl (wt_none' rfl) ?_
    refine sx_ox' (ox_store' (i := 2) (o := 0) rfl rfl (lv_ag _) ⟨rfl, rfl, rfl, rfl⟩ rfl info27 rfl (H' := [⟨.pointer (some q11), [(Vl (.int .i64 y2.1)), (Vl (.int .i64 y2.2.1)), (Vl (.slice none 0 0)), (Vl (.int .i64 y2.2.2.1))], 114, none⟩, ⟨.pointer (some q5), [(Vl (.bool false))], 4, none⟩, ⟨.pointer (some q4), [(Vl (.int .i64 0)), (Vl (.int .i64 0)), (Vl (.int .i64 0)), (Vl (.slice none 0 0)), (Vl (.slice none 0 0)), (Vl (.slice none 0 0)), (Vl (.slice none 0 0))], 27, none⟩]) rfl) (wt_none' rfl) fun _ => ?_
    refine sx_ox' (ox_store' (i := 1) (o := 0) rfl rfl (lv_vl rfl rfl) ⟨rfl, rfl, rfl, rfl⟩ rfl info4 rfl (H' := [⟨.pointer (some q11), [(Vl (.int .i64 y2.1)), (Vl (.int .i64 y2.2.1)), (Vl (.slice none 0 0)), (Vl (.int .i64 y2.2.2.1))], 114, none⟩, ⟨.pointer (some q5), [(Vl (.bool false))], 4, none⟩, ⟨.pointer (some q4), [(Vl (.int .i64 0)), (Vl (.int .i64 0)), (Vl (.int .i64 0)), (Vl (.slice none 0 0)), (Vl (.slice none 0 0)), (Vl (.slice none 0 0)), (Vl (.slice none 0 0))], 27, none⟩]) rfl) (wt_none' rfl) fun _ => ?_
    refine sx_nil' ?_
    show TX E K6 _
    refine tx_k' hK6 ?_
    refine cx_retc' ?_
    replace hp := Option.some.inj hp
    subst hp
    refine tx_leave' (.inl rfl) rfl idle40 rfl Try.func40 isn40 rfl ?_
    refine tx_pick' (L' := [(4, (Vl (.pointer (some q4)))), (5, (Vl (.pointer (some q5))))]) (H' := [⟨.pointer (some q4), [(Vl (.int .i64 0)), (Vl (.int .i64 0)), (Vl (.int .i64 0)), (Vl (.slice none 0 0)), (Vl (.slice none 0 0)), (Vl (.slice none 0 0)), (Vl (.slice none 0 0))], 27, none⟩, ⟨.pointer (some q5), [(Vl (.bool false))], 4, none⟩]) [2, 1] (sub_cons rfl (sub_cons rfl sub_nil)) (by decide) (pick_cons rfl (pick_cons rfl pick_nil)) ?_
    exact tx_ret2' Try.results11 rfl () (rv_imp' (x := (Ag [(Vl (.int .i64 0)), (Vl (.int .i64 0)), (Vl (.int .i64 0)), (Vl (.slice none 0 0)), (Vl (.slice none 0 0)), (Vl (.slice none 0 0)), (Vl (.slice none 0 0))])) (y := (Ag [(Vl (.int .i64 0)), (Vl (.int .i64 0)), (Vl (.int .i64 0)), (Sl Kf []), (Sl (Ki .i64) []), (Vl (.slice none 0 0)), (Vl (.slice none 0 0))])) (rv_cell_agg' (i := 0) (o := 0) (nn := 7) rfl ⟨rfl, rfl, rfl, rfl⟩ rfl agg27 rfl) (imp_ag ⟨imp_refl, imp_refl, imp_refl, imp_nil, imp_nil, imp_refl, imp_refl, trivial⟩)) (rv_cell' (i := 1) (o := 0) rfl ⟨rfl, rfl, rfl, rfl⟩ rfl flat4) rfl (List.nil_sublist _)
  · dsimp only at hp
    refine sx_ox' (ox_callg' (ent_fn' Try.func42 isn42 rfl rfl) (gogeom_Point_SetCoords_sim _ _ _ _ _ hr14 : Go.Sx.Fn Try.prog 42 [(Vl (.pointer (some q11))), (Sl Kf r13)] [⟨.pointer (some q11), [(Vl (.int .i64 r11.1)), (Vl (.int .i64 r11.2.1)), (Sl Kf r11.2.2.1), (Vl (.int .i64 r11.2.2.2))], 114, none⟩] (fun x : Unit => (Tu [(Vl (.pointer (some q11))), (Vl .nilIface)])) (fun x => [⟨.pointer (some q11), [(Vl (.int .i64 y2.1)), (Vl (.int .i64 y2.2.1)), (Sl Kf y2.2.2.1), (Vl (.int .i64 y2.2.2.2))], 114, none⟩])) [0] [1, 2] (by decide) (pick_cons rfl pick_nil) (pick_cons rfl (pick_cons rfl pick_nil)) (Hn := fun x : Unit => [⟨.pointer (some q11), [(Vl (.int .i64 y2.1)), (Vl (.int .i64 y2.2.1)), (Sl Kf y2.2.2.1), (Vl (.int .i64 y2.2.2.2))], 114, none⟩, ⟨.pointer (some q5), [(Vl (.bool false))], 4, none⟩, ⟨.pointer (some q4), [(Vl (.int .i64 0)), (Vl (.int .i64 0)), (Vl (.int .i64 0)), (Vl (.slice none 0 0)), (Vl (.slice none 0 0)), (Vl (.slice none 0 0)), (Vl (.slice none 0 0))], 27, none⟩]) (fun _ => rfl) rfl rfl) (wt_none' rfl) fun ⟨⟩ => ?_
    refine sx_rd' (rd_move' rfl) rfl rfl (wt_none' rfl) ?_
    refine sx_rd' (rd_extract' rfl rfl) rfl rfl (wt_none' rfl) ?_
    refine sx_rd' (rd_extract' rfl rfl) rfl rfl (wt_none' rfl) ?_
    refine sx_rd' (rd_assign' rfl) rfl rfl (wt_none' rfl) ?_
    refine sx_rd' (rd_assign' rfl) rfl rfl (wt_none' rfl) ?_
    refine sx_nil' ?_
    show TX E K3 _
    refine tx_k' hK3 ?_
    refine cx_seq' fun K4 hK4 => ?_
    refine cx_seq' fun K5 hK5 => ?_
    refine cx_region' ?_
    refine sx_rd' (rd_move' rfl) rfl rfl (wt_none' rfl) ?_
    refine sx_rd' (rd_binf' rfl rfl (bf_vl (fun _ => by kernel_rfl) nil_neq62_nilif)) rfl rfl (wt_none' rfl) ?_
    refine sx_nil' ?_
    show TX E K5 _
    refine tx_k' hK5 ?_
    refine cx_cond_f' rfl rfl ?_
    refine cx_skip' ?_
    show TX E K4 _
    refine tx_k' hK4 ?_
    refine cx_seq' fun K7 hK7 => ?_
    refine cx_region' ?_
    refine sx_rd' (rd_move' rfl) rfl rfl (wt_none' rfl) ?_
    refine sx_rd' (rd_iface' rfl ⟨_, Try.underlying60, fun _ h => (nomatch h)⟩) rfl rfl (wt_none' rfl) ?_
    obtain ⟨r22, hr22, hp⟩ := bind_some hp
    refine sx_ox' (ox_callg' (ent_fn' Try.func44 isn44 rfl rfl) (impl_plain_sim _ _ _ _ hr22 : Go.Sx.Fn Try.prog 44 [(If 60 (Vl (.pointer (some q11))))] [⟨.pointer (some q11), [(Vl (.int .i64 y2.1)), (Vl (.int .i64 y2.2.1)), (Sl Kf y2.2.2.1), (Vl (.int .i64 y2.2.2.2))], 114, none⟩] (fun x : Unit => (Ag [(Vl (.int .i64 r22.2.2.2.2.1)), (Vl (.int .i64 r22.2.2.2.2.2.1)), (Vl (.int .i64 r22.2.2.2.2.2.2.1)), (Sl Kf r22.2.2.2.2.2.2.2.1), (Sl (Ki .i64) r22.2.2.2.2.2.2.2.2), (Vl (.slice none 0 0)), (Vl (.slice none 0 0))])) (fun x => [⟨.pointer (some q11), [(Vl (.int .i64 r22.1)), (Vl (.int .i64 r22.2.1)), (Sl Kf r22.2.2.1), (Vl (.int .i64 r22.2.2.2.1))], 114, none⟩])) [0] [1, 2] (by decide) (pick_cons rfl pick_nil) (pick_cons rfl (pick_cons rfl pick_nil)) (Hn := fun x : Unit => [⟨.pointer (some q11), [(Vl (.int .i64 r22.1)), (Vl (.int .i64 r22.2.1)), (Sl Kf r22.2.2.1), (Vl (.int .i64 r22.2.2.2.1))], 114, none⟩, ⟨.pointer (some q5), [(Vl (.bool false))], 4, none⟩, ⟨.pointer (some q4), [(Vl (.int .i64 0)), (Vl (.int .i64 0)), (Vl (.int .i64 0)), (Vl (.slice none 0 0)), (Vl (.slice none 0 0)), (Vl (.slice none 0 0)), (Vl (.slice none 0 0))], 27, none⟩]) (fun _ => rfl) rfl rfl) (wt_none' rfl) fun ⟨⟩ => ?_
    refine sx_ox' (ox_store' (i := 2) (o := 0) rfl rfl (lv_ag _) ⟨rfl, rfl, rfl, rfl⟩ rfl info27 rfl (H' := [⟨.pointer (some q11), [(Vl (.int .i64 r22.1)), (Vl (.int .i64 r22.2.1)), (Sl Kf r22.2.2.1), (Vl (.int .i64 r22.2.2.2.1))], 114, none⟩, ⟨.pointer (some q5), [(Vl (.bool false))], 4, none⟩, ⟨.pointer (some q4), [(Vl (.int .i64 r22.2.2.2.2.1)), (Vl (.int .i64 r22.2.2.2.2.2.1)), (Vl (.int .i64 r22.2.2.2.2.2.2.1)), (Sl Kf r22.2.2.2.2.2.2.2.1), (Sl (Ki .i64) r22.2.2.2.2.2.2.2.2), (Vl (.slice none 0 0)), (Vl (.slice none 0 0))], 27, none⟩]) rfl) (wt_none' rfl) fun _ => ?_
    refine sx_ox' (ox_store' (i := 1) (o := 0) rfl rfl (lv_vl rfl rfl) ⟨rfl, rfl, rfl, rfl⟩ rfl info4 rfl (H' := [⟨.pointer (some q11), [(Vl (.int .i64 r22.1)), (Vl (.int .i64 r22.2.1)), (Sl Kf r22.2.2.1), (Vl (.int .i64 r22.2.2.2.1))], 114, none⟩, ⟨.pointer (some q5), [(Vl (.bool true))], 4, none⟩, ⟨.pointer (some q4), [(Vl (.int .i64 r22.2.2.2.2.1)), (Vl (.int .i64 r22.2.2.2.2.2.1)), (Vl (.int .i64 r22.2.2.2.2.2.2.1)), (Sl Kf r22.2.2.2.2.2.2.2.1), (Sl (Ki .i64) r22.2.2.2.2.2.2.2.2), (Vl (.slice none 0 0)), (Vl (.slice none 0 0))], 27, none⟩]) rfl) (wt_none' rfl) fun _ => ?_
    refine sx_nil' ?_
    show TX E K7 _
    refine tx_k' hK7 ?_
    refine cx_retc' ?_
    replace hp := Option.some.inj hp
    subst hp
    refine tx_leave' (.inl rfl) rfl idle40 rfl Try.func40 isn40 rfl ?_
    refine tx_pick' (L' := [(4, (Vl (.pointer (some q4)))), (5, (Vl (.pointer (some q5))))]) (H' := [⟨.pointer (some q4), [(Vl (.int .i64 r22.2.2.2.2.1)), (Vl (.int .i64 r22.2.2.2.2.2.1)), (Vl (.int .i64 r22.2.2.2.2.2.2.1)), (Sl Kf r22.2.2.2.2.2.2.2.1), (Sl (Ki .i64) r22.2.2.2.2.2.2.2.2), (Vl (.slice none 0 0)), (Vl (.slice none 0 0))], 27, none⟩, ⟨.pointer (some q5), [(Vl (.bool true))], 4, none⟩]) [2, 1] (sub_cons rfl (sub_cons rfl sub_nil)) (by decide) (pick_cons rfl (pick_cons rfl pick_nil)) ?_
    exact tx_ret2' Try.results11 rfl () (rv_cell_agg' (i := 0) (o := 0) (nn := 7) rfl ⟨rfl, rfl, rfl, rfl⟩ rfl agg27 rfl) (rv_cell' (i := 1) (o := 0) rfl ⟨rfl, rfl, rfl, rfl⟩ rfl flat4) rfl (List.nil_sublist _)

def impl_SetPoint_v2 (k : Nat) (a0 : Int) (a1 : List Nat) : Option (Int × Int × Int × (List Nat) × (List Int) × Bool) :=
  (gogeom_NewPoint k a0) >>= fun r11 =>
  (impl_floats k a1) >>= fun r13 =>
  (gogeom_Point_SetCoords k r11.1 r11.2.1 r11.2.2.1 r11.2.2.2 r13) >>= fun r14 =>
  match r14 with
    | (.inl y2) =>
      (some (0, 0, 0, [], [], false))
    | (.inr y2) =>
      ((impl_plain k y2.1 y2.2.1 y2.2.2.1 y2.2.2.2) >>= fun r22 =>
      some (r22.2.2.2.2.1, r22.2.2.2.2.2.1, r22.2.2.2.2.2.2.1, r22.2.2.2.2.2.2.2.1, r22.2.2.2.2.2.2.2.2, true))

theorem impl_SetPoint_v2_sim {k : Nat} {wa1 : Gs} (a0 : Int) (a1 : List Nat) {out : Int × Int × Int × (List Nat) × (List Int) × Bool} (hp : impl_SetPoint_v2 k a0 a1 = some out) : Go.Sx.Fn Try.prog 11 [(Vl (.int .i64 a0)), (Vl (Vs wa1))] [(Rw Kf 30 (Vs wa1) a1)] (fun w : Unit => (Tu [(Ag [(Vl (.int .i64 out.1)), (Vl (.int .i64 out.2.1)), (Vl (.int .i64 out.2.2.1)), (Sl Kf out.2.2.2.1), (Sl (Ki .i64) out.2.2.2.2.1), (Vl (.slice none 0 0)), (Vl (.slice none 0 0))]), (Vl (.bool out.2.2.2.2.2))])) (fun w => []) := by
  unfold impl_SetPoint_v2 at hp
  refine fnD_of Try.func11 rfl Try.ntmps11 rfl fun E hM => ?_
  refine cx_seq' fun K1 hK1 => ?_
  refine cx_region' ?_
  refine sx_ox' (ox_alloc' info27 rfl rfl rfl rfl (l := [(Vl (.int .i64 0)), (Vl (.int .i64 0)), (Vl (.int .i64 0)), (Vl (.slice none 0 0)), (Vl (.slice none 0 0)), (Vl (.slice none 0 0)), (Vl (.slice none 0 0))]) rfl) (wt_none' rfl) fun q4 => ?_
  refine sx_ox' (ox_alloc' info4 rfl rfl rfl rfl (l := [(Vl (.bool false))]) rfl) (wt_none' rfl) fun q5 => ?_
  refine sx_nil' ?_
  show TX E K1 _
  refine tx_k' hK1 ?_
  refine cx_seq' fun K2 hK2 => ?_
  refine cx_region' ?_
  refine sx_rd' (rd_mkfunc' (us := [.pointer (some q4), .pointer (some q5)]) rfl) rfl rfl (wt_none' rfl) ?_
  refine sx_ox' (ox_defer' rfl rfl) (wt_none' rfl) fun _ => ?_
  refine sx_nil' ?_
  show TX E K2 _
  refine tx_k' hK2 ?_
  refine cx_seq' fun K3 hK3 => ?_
  refine cx_region' ?_
  refine sx_rd' (rd_move' rfl) rfl rfl (wt_none' rfl) ?_
  obtain ⟨r11, hr11, hp⟩ := bind_some hp
  refine sx_ox' (ox_calln' (ent_fn' Try.func41 isn41 rfl rfl) (gogeom_NewPoint_sim _ hr11 : Go.Sx.Fn Try.prog 41 [(Vl (.int .i64 a0))] [] (fun x : Addr => (Vl (.pointer (some x)))) (fun x => [⟨.pointer (some x), [(Vl (.int .i64 r11.1)), (Vl (.int .i64 r11.2.1)), (Sl Kf r11.2.2.1), (Vl (.int .i64 r11.2.2.2))], 114, none⟩])) (Hn := fun x : Addr => [⟨.pointer (some x), [(Vl (.int .i64 r11.1)), (Vl (.int .i64 r11.2.1)), (Sl Kf r11.2.2.1), (Vl (.int .i64 r11.2.2.2))], 114, none⟩, ⟨.pointer (some q5), [(Vl (.bool false))], 4, none⟩, ⟨.pointer (some q4), [(Vl (.int .i64 0)), (Vl (.int .i64 0)), (Vl (.int .i64 0)), (Vl (.slice none 0 0)), (Vl (.slice none 0 0)), (Vl (.slice none 0 0)), (Vl (.slice none 0 0))], 27, none⟩, (Rw Kf 30 (Vs wa1) a1)]) (fun _ => rfl) rfl rfl) (wt_none' rfl) fun q11 => ?_
  refine sx_rd' (rd_move' rfl) rfl rfl (wt_none' rfl) ?_
  refine tx_fz' (frz_row 3 [(1, (Vl (Vs wa1)), (Sl Kf a1)), (12, (Vl (Vs wa1)), (Sl Kf a1))] (K := Kf) (xs := a1) (by decide) rfl ⟨⟨rfl, frz_it⟩, ⟨rfl, frz_it⟩, trivial⟩ (H' := [⟨.pointer (some q11), [(Vl (.int .i64 r11.1)), (Vl (.int .i64 r11.2.1)), (Sl Kf r11.2.2.1), (Vl (.int .i64 r11.2.2.2))], 114, none⟩, ⟨.pointer (some q5), [(Vl (.bool false))], 4, none⟩, ⟨.pointer (some q4), [(Vl (.int .i64 0)), (Vl (.int .i64 0)), (Vl (.int .i64 0)), (Vl (.slice none 0 0)), (Vl (.slice none 0 0)), (Vl (.slice none 0 0)), (Vl (.slice none 0 0))], 27, none⟩]) frzH_refl) ?_
  obtain ⟨r13, hr13, hp⟩ := bind_some hp
  refine sx_ox' (ox_calln' (ent_fn' Try.func43 isn43 rfl rfl) (impl_floats_sim _ hr13 : Go.Sx.Fn Try.prog 43 [(Sl Kf a1)] [] (fun x : Unit => (Sl Kf r13)) (fun x => [])) (Hn := fun x : Unit => [⟨.pointer (some q11), [(Vl (.int .i64 r11.1)), (Vl (.int .i64 r11.2.1)), (Sl Kf r11.2.2.1), (Vl (.int .i64 r11.2.2.2))], 114, none⟩, ⟨.pointer (some q5), [(Vl (.bool false))], 4, none⟩, ⟨.pointer (some q4), [(Vl (.int .i64 0)), (Vl (.int .i64 0)), (Vl (.int .i64 0)), (Vl (.slice none 0 0)), (Vl (.slice none 0 0)), (Vl (.slice none 0 0)), (Vl (.slice none 0 0))], 27, none⟩]) (fun _ => rfl) rfl rfl) (wt_none' rfl) fun ⟨⟩ => ?_
  obtain ⟨r14, hr14, hp⟩ := bind_some hp
  rcases r14 with y2 | y2
  · dsimp only at hp
    refine sx_ox' (ox_callg' (ent_fn' Try.func42 isn42 rfl rfl) (gogeom_Point_SetCoords_sim _ _ _ _ _ hr14 : Go.Sx.Fn Try.prog 42 [(Vl (.pointer (some q11))), (Sl Kf r13)] [⟨.pointer (some q11), [(Vl (.int .i64 r11.1)), (Vl (.int .i64 r11.2.1)), (Sl Kf r11.2.2.1), (Vl (.int .i64 r11.2.2.2))], 114, none⟩] (fun x : Unit => (Tu [(Vl (.pointer none)), (If 183 (Ag [(Vl (.int .i64 y2.2.2.2.1)), (Vl (.int .i64 y2.2.2.2.2))]))])) (fun x => [⟨.pointer (some q11), [(Vl (.int .i64 y2.1)), (Vl (.int .i64 y2.2.1)), (Vl (.slice none 0 0)), (Vl (.int .i64 y2.2.2.1))], 114, none⟩])) [0] [1, 2] (by decide) (pick_cons rfl pick_nil) (pick_cons rfl (pick_cons rfl pick_nil)) (Hn := fun x : Unit => [⟨.pointer (some q11), [(Vl (.int .i64 y2.1)), (Vl (.int .i64 y2.2.1)), (Vl (.slice none 0 0)), (Vl (.int .i64 y2.2.2.1))], 114, none⟩, ⟨.pointer (some q5), [(Vl (.bool false))], 4, none⟩, ⟨.pointer (some q4), [(Vl (.int .i64 0)), (Vl (.int .i64 0)), (Vl (.int .i64 0)), (Vl (.slice none 0 0)), (Vl (.slice none 0 0)), (Vl (.slice none 0 0)), (Vl (.slice none 0 0))], 27, none⟩]) (fun _ => rfl) rfl rfl) (wt_none' rfl) fun ⟨⟩ => ?_
    refine sx_rd' (rd_move' rfl) rfl rfl (wt_none' rfl) ?_
    refine sx_rd' (rd_extract' rfl rfl) rfl rfl (wt_none' rfl) ?_
    refine sx_rd' (rd_extract' rfl rfl) rfl rfl (wt_none' rfl) ?_
    refine sx_rd' (rd_assign' rfl) rfl rfl (wt_none' rfl) ?_
    refine sx_rd' (rd_assign' rfl) rfl rfl (wt_none' rfl) ?_
    refine sx_nil' ?_
    show TX E K3 _
    refine tx_k' hK3 ?_
    refine cx_seq' fun K4 hK4 => ?_
    refine cx_seq' fun K5 hK5 => ?_
    refine cx_region' ?_
    refine sx_rd' (rd_move' rfl) rfl rfl (wt_none' rfl) ?_
    refine sx_rd' (rd_binf' rfl rfl (bf_if (fun _ _ => by kernel_rfl) nil_neq62_if183)) rfl rfl (wt_none' rfl) ?_
    refine sx_nil' ?_
    show TX E K5 _
    refine tx_k' hK5 ?_
    refine cx_cond_t' rfl rfl ?_
    refine cx_seq' fun K6 hK6 => ?_
    refine cx_region' ?_
    refine sx_rd' (rd_build' (pls := [(0, 1), (1, 1), (2, 1), (3, 1), (4, 1), (5, 1), (6, 1)]) (qs := []) (r := [(Vl (.int .i64 0)), (Vl (.int .i64 0)), (Vl (.int .i64 0)), (Vl (.slice none 0 0)), (Vl (.slice none 0 0)), (Vl (.slice none 0 0)), (Vl (.slice none 0 0))]) trivial Try.underlying27 has27 places27 info27 rfl rfl rfl) rfl rfl (wt_none' rfl) ?_
    refine sx_ox' (ox_store' (i := 2) (o := 0) rfl rfl (lv_ag _) ⟨rfl, rfl, rfl, rfl⟩ rfl info27 rfl (H' := [⟨.pointer (some q11), [(Vl (.int .i64 y2.1)), (Vl (.int .i64 y2.2.1)), (Vl (.slice none 0 0)), (Vl (.int .i64 y2.2.2.1))], 114, none⟩, ⟨.pointer (some q5), [(Vl (.bool false))], 4, none⟩, ⟨.pointer (some q4), [(Vl (.int .i64 0)), (Vl (.int .i64 0)), (Vl (.int .i64 0)), (Vl (.slice none 0 0)), (Vl (.slice none 0 0)), (Vl (.slice none 0 0)), (Vl (.slice none 0 0))], 27, none⟩]) rfl) (wt_none' rfl) fun _ => ?_
    refine sx_ox' (ox_store' (i := 1) (o := 0) rfl rfl (lv_vl rfl rfl) ⟨rfl, rfl, rfl, rfl⟩ rfl info4 rfl (H' := [⟨.pointer (some q11), [(Vl (.int .i64 y2.1)), (Vl (.int .i64 y2.2.1)), (Vl (.slice none 0 0)), (Vl (.int .i64 y2.2.2.1))], 114, none⟩, ⟨.pointer (some q5), [(Vl (.bool false))], 4, none⟩, ⟨.pointer (some q4), [(Vl (.int .i64 0)), (Vl (.int .i64 0)), (Vl (.int .i64 0)), (Vl (.slice none 0 0)), (Vl (.slice none 0 0)), (Vl (.slice none 0 0)), (Vl (.slice none 0 0))], 27, none⟩]) rfl) (wt_none' rfl) fun _ => ?_
    refine sx_nil' ?_
    show TX E K6 _
    refine tx_k' hK6 ?_
    refine cx_retc' ?_
    replace hp := Option.some.inj hp
    subst hp
    refine tx_leave' (.inl rfl) rfl idle40 rfl Try.func40 isn40 rfl ?_
    refine tx_pick' (L' := [(4, (Vl (.pointer (some q4)))), (5, (Vl (.pointer (some q5))))]) (H' := [⟨.pointer (some q4), [(Vl (.int .i64 0)), (Vl (.int .i64 0)), (Vl (.int .i64 0)), (Vl (.slice none 0 0)), (Vl (.slice none 0 0)), (Vl (.slice none 0 0)), (Vl (.slice none 0 0))], 27, none⟩, ⟨.pointer (some q5), [(Vl (.bool false))], 4, none⟩]) [2, 1] (sub_cons rfl (sub_cons rfl sub_nil)) (by decide) (pick_cons rfl (pick_cons rfl pick_nil)) ?_
    exact tx_ret2' Try.results11 rfl () (rv_imp' (x := (Ag [(Vl (.int .i64 0)), (Vl (.int .i64 0)), (Vl (.int .i64 0)), (Vl (.slice none 0 0)), (Vl (.slice none 0 0)), (Vl (.slice none 0 0)), (Vl (.slice none 0 0))])) (y := (Ag [(Vl (.int .i64 0)), (Vl (.int .i64 0)), (Vl (.int .i64 0)), (Sl Kf []), (Sl (Ki .i64) []), (Vl (.slice none 0 0)), (Vl (.slice none 0 0))])) (rv_cell_agg' (i := 0) (o := 0) (nn := 7) rfl ⟨rfl, rfl, rfl, rfl⟩ rfl agg27 rfl) (imp_ag ⟨imp_refl, imp_refl, imp_refl, imp_nil, imp_nil, imp_refl, imp_refl, trivial⟩)) (rv_cell' (i := 1) (o := 0) rfl ⟨rfl, rfl, rfl, rfl⟩ rfl flat4) rfl (List.nil_sublist _)
  · dsimp only at hp
    refine sx_ox' (ox_callg' (ent_fn' Try.func42 isn42 rfl rfl) (gogeom_Point_SetCoords_sim _ _ _ _ _ hr14 : Go.Sx.Fn Try.prog 42 [(Vl (.pointer (some q11))), (Sl Kf r13)] [⟨.pointer (some q11), [(Vl (.int .i64 r11.1)), (Vl (.int .i64 r11.2.1)), (Sl Kf r11.2.2.1), (Vl (.int .i64 r11.2.2.2))], 114, none⟩] (fun x : Unit => (Tu [(Vl (.pointer (some q11))), (Vl .nilIface)])) (fun x => [⟨.pointer (some q11), [(Vl (.int .i64 y2.1)), (Vl (.int .i64 y2.2.1)), (Sl Kf y2.2.2.1), (Vl (.int .i64 y2.2.2.2))], 114, none⟩])) [0] [1, 2] (by decide) (pick_cons rfl pick_nil) (pick_cons rfl (pick_cons rfl pick_nil)) (Hn := fun x : Unit => [⟨.pointer (some q11), [(Vl (.int .i64 y2.1)), (Vl (.int .i64 y2.2.1)), (Sl Kf y2.2.2.1), (Vl (.int .i64 y2.2.2.2))], 114, none⟩, ⟨.pointer (some q5), [(Vl (.bool false))], 4, none⟩, ⟨.pointer (some q4), [(Vl (.int .i64 0)), (Vl (.int .i64 0)), (Vl (.int .i64 0)), (Vl (.slice none 0 0)), (Vl (.slice none 0 0)), (Vl (.slice none 0 0)), (Vl (.slice none 0 0))], 27, none⟩]) (fun _ => rfl) rfl rfl) (wt_none' rfl) fun ⟨⟩ => ?_
    refine sx_rd' (rd_move' rfl) rfl rfl (wt_none' rfl) ?_
    refine sx_rd' (rd_extract' rfl rfl) rfl rfl (wt_none' rfl) ?_
    refine sx_rd' (rd_extract' rfl rfl) rfl rfl (wt_none' rfl) ?_
    refine sx_rd' (rd_assign' rfl) rfl rfl (wt_none' rfl) ?_
    refine sx_rd' (rd_assign' rfl) rfl rfl (wt_none' rfl) ?_
    refine sx_nil' ?_
    show TX E K3 _
    refine tx_k' hK3 ?_
    refine cx_seq' fun K4 hK4 => ?_
    refine cx_seq' fun K5 hK5 => ?_
    refine cx_region' ?_
    refine sx_rd' (rd_move' rfl) rfl rfl (wt_none' rfl) ?_
    refine sx_rd' (rd_binf' rfl rfl (bf_vl (fun _ => by kernel_rfl) nil_neq62_nilif)) rfl rfl (wt_none' rfl) ?_
    refine sx_nil' ?_
    show TX E K5 _
    refine tx_k' hK5 ?_
    refine cx_cond_f' rfl rfl ?_
    refine cx_skip' ?_
    show TX E K4 _
    refine tx_k' hK4 ?_
    refine cx_seq' fun K7 hK7 => ?_
    refine cx_region' ?_
    refine sx_rd' (rd_move' rfl) rfl rfl (wt_none' rfl) ?_
    refine sx_rd' (rd_iface' rfl ⟨_, Try.underlying60, fun _ h => (nomatch h)⟩) rfl rfl (wt_none' rfl) ?_
    obtain ⟨r22, hr22, hp⟩ := bind_some hp
    refine sx_ox' (ox_callg' (ent_fn' Try.func44 isn44 rfl rfl) (impl_plain_sim _ _ _ _ hr22 : Go.Sx.Fn Try.prog 44 [(If 60 (Vl (.pointer (some q11))))] [⟨.pointer (some q11), [(Vl (.int .i64 y2.1)), (Vl (.int .i64 y2.2.1)), (Sl Kf y2.2.2.1), (Vl (.int .i64 y2.2.2.2))], 114, none⟩] (fun x : Unit => (Ag [(Vl (.int .i64 r22.2.2.2.2.1)), (Vl (.int .i64 r22.2.2.2.2.2.1)), (Vl (.int .i64 r22.2.2.2.2.2.2.1)), (Sl Kf r22.2.2.2.2.2.2.2.1), (Sl (Ki .i64) r22.2.2.2.2.2.2.2.2), (Vl (.slice none 0 0)), (Vl (.slice none 0 0))])) (fun x => [⟨.pointer (some q11), [(Vl (.int .i64 r22.1)), (Vl (.int .i64 r22.2.1)), (Sl Kf r22.2.2.1), (Vl (.int .i64 r22.2.2.2.1))], 114, none⟩])) [0] [1, 2] (by decide) (pick_cons rfl pick_nil) (pick_cons rfl (pick_cons rfl pick_nil)) (Hn := fun x : Unit => [⟨.pointer (some q11), [(Vl (.int .i64 r22.1)), (Vl (.int .i64 r22.2.1)), (Sl Kf r22.2.2.1), (Vl (.int .i64 r22.2.2.2.1))], 114, none⟩, ⟨.pointer (some q5), [(Vl (.bool false))], 4, none⟩, ⟨.pointer (some q4), [(Vl (.int .i64 0)), (Vl (.int .i64 0)), (Vl (.int .i64 0)), (Vl (.slice none 0 0)), (Vl (.slice none 0 0)), (Vl (.slice none 0 0)), (Vl (.slice none 0 0))], 27, none⟩]) (fun _ => rfl) rfl rfl) (wt_none' rfl) fun ⟨⟩ => ?_
    refine sx_ox' (ox_store' (i := 2) (o := 0) rfl rfl (lv_ag _) ⟨rfl, rfl, rfl, rfl⟩ rfl info27 rfl (H' := [⟨.pointer (some q11), [(Vl (.int .i64 r22.1)), (Vl (.int .i64 r22.2.1)), (Sl Kf r22.2.2.1), (Vl (.int .i64 r22.2.2.2.1))], 114, none⟩, ⟨.pointer (some q5), [(Vl (.bool false))], 4, none⟩, ⟨.pointer (some q4), [(Vl (.int .i64 r22.2.2.2.2.1)), (Vl (.int .i64 r22.2.2.2.2.2.1)), (Vl (.int .i64 r22.2.2.2.2.2.2.1)), (Sl Kf r22.2.2.2.2.2.2.2.1), (Sl (Ki .i64) r22.2.2.2.2.2.2.2.2), (Vl (.slice none 0 0)), (Vl (.slice none 0 0))], 27, none⟩]) rfl) (wt_none' rfl) fun _ => ?_
    refine sx_ox' (ox_store' (i := 1) (o := 0) rfl rfl (lv_vl rfl rfl) ⟨rfl, rfl, rfl, rfl⟩ rfl info4 rfl (H' := [⟨.pointer (some q11), [(Vl (.int .i64 r22.1)), (Vl (.int .i64 r22.2.1)), (Sl Kf r22.2.2.1), (Vl (.int .i64 r22.2.2.2.1))], 114, none⟩, ⟨.pointer (some q5), [(Vl (.bool true))], 4, none⟩, ⟨.pointer (some q4), [(Vl (.int .i64 r22.2.2.2.2.1)), (Vl (.int .i64 r22.2.2.2.2.2.1)), (Vl (.int .i64 r22.2.2.2.2.2.2.1)), (Sl Kf r22.2.2.2.2.2.2.2.1), (Sl (Ki .i64) r22.2.2.2.2.2.2.2.2), (Vl (.slice none 0 0)), (Vl (.slice none 0 0))], 27, none⟩]) rfl) (wt_none' rfl) fun _ => ?_
    refine sx_nil' ?_
    show TX E K7 _
    refine tx_k' hK7 ?_
    refine cx_retc' ?_
    replace hp := Option.some.inj hp
    subst hp
    refine tx_leave' (.inl rfl) rfl idle40 rfl Try.func40 isn40 rfl ?_
    refine tx_pick' (L' := [(4, (Vl (.pointer (some q4)))), (5, (Vl (.pointer (some q5))))]) (H' := [⟨.pointer (some q4), [(Vl (.int .i64 r22.2.2.2.2.1)), (Vl (.int .i64 r22.2.2.2.2.2.1)), (Vl (.int .i64 r22.2.2.2.2.2.2.1)), (Sl Kf r22.2.2.2.2.2.2.2.1), (Sl (Ki .i64) r22.2.2.2.2.2.2.2.2), (Vl (.slice none 0 0)), (Vl (.slice none 0 0))], 27, none⟩, ⟨.pointer (some q5), [(Vl (.bool true))], 4, none⟩]) [2, 1] (sub_cons rfl (sub_cons rfl sub_nil)) (by decide) (pick_cons rfl (pick_cons rfl pick_nil)) ?_
    exact tx_ret2' Try.results11 rfl () (rv_cell_agg' (i := 0) (o := 0) (nn := 7) rfl ⟨rfl, rfl, rfl, rfl⟩ rfl agg27 rfl) (rv_cell' (i := 1) (o := 0) rfl ⟨rfl, rfl, rfl, rfl⟩ rfl flat4) rfl (List.nil_sublist _)

def spec_Stride_j1 (k : Nat) (a0 : Int) (x1 : Bool) : Option (Int) :=
  br x1
    (some 3)
    (some a0)
def spec_Stride (k : Nat) (a0 : Int) : Option (Int) :=
  br (decide (a0 < 1))
    (some 0)
    (br (decide (a0 = 1))
      (some 2)
      (br (decide (a0 = 2))
        (spec_Stride_j1 k a0 true)
        (spec_Stride_j1 k a0 (decide (a0 = 3)))))

theorem spec_Stride_sim {k : Nat}  (a0 : Int) {out : Int} (hp : spec_Stride k a0 = some out) : Go.Sx.Fn Try.prog 12 [(Vl (.int .i64 a0))] [] (fun w : Unit => (Vl (.int .i64 out))) (fun w => []) := by
  unfold spec_Stride at hp
  refine fn_of Try.func12 rfl Try.ntmps12 rfl fun E hM => ?_
  refine cx_seq' fun K1 hK1 => ?_
  refine cx_region' ?_
  refine sx_rd' (rd_assign' rfl) rfl rfl (wt_none' rfl) ?_
  refine sx_nil' ?_
  show TX E K1 _
  refine tx_k' hK1 ?_
  refine cx_seq' fun K2 hK2 => ?_
  refine cx_block' ?_
  refine cx_seq' fun K3 hK3 => ?_
  refine cx_region' ?_
  refine sx_rd' (rd_move' rfl) rfl rfl (wt_none' rfl) ?_
  refine sx_rd' (rd_bin' rfl rfl eg_int ru_lss) rfl rfl (wt_none' rfl) ?_
  refine sx_rd' (rd_assign' rfl) rfl rfl (wt_none' rfl) ?_
  refine sx_nil' ?_
  show TX E K3 _
  refine tx_k' hK3 ?_
  refine cx_cond' rfl (fun h1 => ?_) (fun h1 => ?_)
  · replace hp := (br_t h1).symm.trans hp
    refine cx_seq' fun K4 hK4 => ?_
    refine cx_region' ?_
    refine sx_rd' (rd_assign' rfl) rfl rfl (wt_none' rfl) ?_
    refine sx_nil' ?_
    show TX E K4 _
    refine tx_k' hK4 ?_
    refine cx_retc' ?_
    replace hp := Option.some.inj hp
    subst hp
    refine tx_pick' (L' := [(2, (Vl (.int .i64 0)))]) (H' := []) [] (sub_cons rfl sub_nil) (by decide) pick_nil ?_
    exact tx_ret1' Try.results12 rfl () (rv_tmp' rfl) (List.Sublist.refl _)
  · replace hp := (br_f h1).symm.trans hp
    refine cx_seq' fun K5 hK5 => ?_
    refine cx_region' ?_
    refine sx_rd' (rd_move' rfl) rfl rfl (wt_none' rfl) ?_
    refine sx_rd' (rd_bin' rfl rfl eg_int ru_eql) rfl rfl (wt_none' rfl) ?_
    refine sx_rd' (rd_assign' rfl) rfl rfl (wt_none' rfl) ?_
    refine sx_nil' ?_
    show TX E K5 _
    refine tx_k' hK5 ?_
    refine cx_cond' rfl (fun h2 => ?_) (fun h2 => ?_)
    · replace hp := (br_t h2).symm.trans hp
      refine cx_seq' fun K6 hK6 => ?_
      refine cx_region' ?_
      refine sx_rd' (rd_assign' rfl) rfl rfl (wt_none' rfl) ?_
      refine sx_nil' ?_
      show TX E K6 _
      refine tx_k' hK6 ?_
      refine cx_retc' ?_
      replace hp := Option.some.inj hp
      subst hp
      refine tx_pick' (L' := [(2, (Vl (.int .i64 2)))]) (H' := []) [] (sub_cons rfl sub_nil) (by decide) pick_nil ?_
      exact tx_ret1' Try.results12 rfl () (rv_tmp' rfl) (List.Sublist.refl _)
    · replace hp := (br_f h2).symm.trans hp
      refine cx_seq' fun K7 hK7 => ?_
      refine cx_region' ?_
      refine sx_rd' (rd_move' rfl) rfl rfl (wt_none' rfl) ?_
      refine sx_rd' (rd_bin' rfl rfl eg_int ru_eql) rfl rfl (wt_none' rfl) ?_
      refine sx_rd' (rd_move' rfl) rfl rfl (wt_none' rfl) ?_
      refine sx_cutn' 3 (fun (v1 : Bool) => (⟨17, [], [(0, (Vl (.int .i64 a0))), (15, (Vl (.bool v1)))], []⟩ : St)) (fun (v1 : Bool) => spec_Stride_j1 k a0 v1 = some out) ?_ ?_
      · rintro x1 hp
        replace hp : spec_Stride_j1 k a0 x1 = some out := hp
        unfold spec_Stride_j1 at hp
        refine sx_rd' (rd_assign' rfl) rfl rfl (wt_none' rfl) ?_
        refine sx_nil' ?_
        show TX E K7 _
        refine tx_k' hK7 ?_
        refine cx_cond' rfl (fun h4 => ?_) (fun h4 => ?_)
        · replace hp := (br_t h4).symm.trans hp
          refine cx_seq' fun K9 hK9 => ?_
          refine cx_region' ?_
          refine sx_rd' (rd_assign' rfl) rfl rfl (wt_none' rfl) ?_
          refine sx_nil' ?_
          show TX E K9 _
          refine tx_k' hK9 ?_
          refine cx_retc' ?_
          replace hp := Option.some.inj hp
          subst hp
          refine tx_pick' (L' := [(2, (Vl (.int .i64 3)))]) (H' := []) [] (sub_cons rfl sub_nil) (by decide) pick_nil ?_
          exact tx_ret1' Try.results12 rfl () (rv_tmp' rfl) (List.Sublist.refl _)
        · replace hp := (br_f h4).symm.trans hp
          refine cx_skip' ?_
          show TX E K2 _
          refine tx_k' hK2 ?_
          refine cx_seq' fun K10 hK10 => ?_
          refine cx_region' ?_
          refine sx_rd' (rd_move' rfl) rfl rfl (wt_none' rfl) ?_
          refine sx_rd' (rd_assign' rfl) rfl rfl (wt_none' rfl) ?_
          refine sx_nil' ?_
          show TX E K10 _
          refine tx_k' hK10 ?_
          refine cx_retc' ?_
          replace hp := Option.some.inj hp
          subst hp
          refine tx_pick' (L' := [(2, (Vl (.int .i64 a0)))]) (H' := []) [] (sub_cons rfl sub_nil) (by decide) pick_nil ?_
          exact tx_ret1' Try.results12 rfl () (rv_tmp' rfl) (List.Sublist.refl _)
      · intro K8 hK8
        rcases br_cases hp with ⟨h3, hp⟩ | ⟨h3, hp⟩
        · refine sx_skip' rfl rfl (wt_is' (wt_guard' rfl rfl rfl) (beq_tf h3)) ?_
          refine sx_skip' rfl rfl (wt_is' (wt_guard' rfl rfl rfl) (beq_tf h3)) ?_
          refine sx_rd' (rd_pick_true' rfl h3 rfl) rfl rfl (wt_none' rfl) ?_
          refine sx_nil' ?_
          show TX E K8 _
          exact tx_pick' [] (sub_cons rfl (sub_cons rfl sub_nil)) (by decide) pick_nil (hK8 true hp)
        · refine sx_rd' (rd_move' rfl) rfl rfl (wt_is' (wt_guard' rfl rfl rfl) (beq_ff h3)) ?_
          refine sx_rd' (rd_bin' rfl rfl eg_int ru_eql) rfl rfl (wt_is' (wt_guard' rfl rfl rfl) (beq_ff h3)) ?_
          refine sx_rd' (rd_pick_false' rfl h3 rfl) rfl rfl (wt_none' rfl) ?_
          refine sx_nil' ?_
          show TX E K8 _
          exact tx_pick' [] (sub_cons rfl (sub_cons rfl sub_nil)) (by decide) pick_nil (hK8 (decide (a0 = 3)) hp)

def spec_SameFloats_l1s (a0 : List Nat) (a1 : List Nat) (k : Nat) (rec1 : Int → Option (Unit ⊕ Unit)) (x1 : Int) : Option (Unit ⊕ Unit) :=
  br (decide (x1 < (a0.length : Int)))
    ((idx a0 x1) >>= fun r17 =>
    (idx a1 x1) >>= fun r23 =>
    br (!decide ((fbits r17) = (fbits r23)))
      (some (.inl ()))
      (rec1 (iadd .i64 x1 1)))
    (some (.inr ()))
def spec_SameFloats_l1 (a0 : List Nat) (a1 : List Nat) : Nat → Int → Option (Unit ⊕ Unit)
  | 0, _ => none
  | k + 1, v => spec_SameFloats_l1s a0 a1 k (spec_SameFloats_l1 a0 a1 k) v
def spec_SameFloats (k : Nat) (a0 : List Nat) (a1 : List Nat) : Option (Bool) :=
  br (!decide ((a0.length : Int) = (a1.length : Int)))
    (some false)
    ((spec_SameFloats_l1 a0 a1 k 0) >>= fun y1 => match y1 with
      | (.inl v2) =>
        (some false)
      | (.inr v3) =>
        (some true))

theorem spec_SameFloats_sim {k : Nat}  (a0 : List Nat) (a1 : List Nat) {out : Bool} (hp : spec_SameFloats k a0 a1 = some out) : Go.Sx.Fn Try.prog 45 [(Sl Kf a0), (Sl Kf a1)] [] (fun w : Unit => (Vl (.bool out))) (fun w => []) := by
  unfold spec_SameFloats at hp
  refine fn_of Try.func45 rfl Try.ntmps45 rfl fun E hM => ?_
  refine cx_seq' fun K1 hK1 => ?_
  refine cx_region' ?_
  refine sx_rd' (rd_assign' rfl) rfl rfl (wt_none' rfl) ?_
  refine sx_nil' ?_
  show TX E K1 _
  refine tx_k' hK1 ?_
  refine cx_seq' fun K2 hK2 => ?_
  refine cx_seq' fun K3 hK3 => ?_
  refine cx_region' ?_
  refine sx_rd' (rd_move' rfl) rfl rfl (wt_none' rfl) ?_
  refine sx_rd' (rd_len' rfl Try.underlying22) rfl rfl (wt_none' rfl) ?_
  refine sx_rd' (rd_move' rfl) rfl rfl (wt_none' rfl) ?_
  refine sx_rd' (rd_len' rfl Try.underlying22) rfl rfl (wt_none' rfl) ?_
  refine sx_rd' (rd_bin' rfl rfl eg_int ru_neq) rfl rfl (wt_none' rfl) ?_
  refine sx_nil' ?_
  show TX E K3 _
  refine tx_k' hK3 ?_
  refine cx_cond' rfl (fun h1 => ?_) (fun h1 => ?_)
  · replace hp := (br_t h1).symm.trans hp
    refine cx_seq' fun K4 hK4 => ?_
    refine cx_region' ?_
    refine sx_rd' (rd_assign' rfl) rfl rfl (wt_none' rfl) ?_
    refine sx_nil' ?_
    show TX E K4 _
    refine tx_k' hK4 ?_
    refine cx_retc' ?_
    replace hp := Option.some.inj hp
    subst hp
    refine tx_pick' (L' := [(4, (Vl (.bool false)))]) (H' := []) [] (sub_cons rfl sub_nil) (by decide) pick_nil ?_
    exact tx_ret1' Try.results45 rfl () (rv_tmp' rfl) (List.Sublist.refl _)
  · replace hp := (br_f h1).symm.trans hp
    refine cx_skip' ?_
    show TX E K2 _
    refine tx_k' hK2 ?_
    refine cx_seq' fun K5 hK5 => ?_
    refine cx_seq' fun K6 hK6 => ?_
    refine cx_region' ?_
    refine sx_rd' (rd_move' rfl) rfl rfl (wt_none' rfl) ?_
    refine sx_rd' (rd_len' rfl Try.underlying22) rfl rfl (wt_none' rfl) ?_
    refine sx_rd' (rd_move' rfl) rfl rfl (wt_none' rfl) ?_
    refine sx_nil' ?_
    show TX E K6 _
    refine tx_k' hK6 ?_
    refine cx_block' ?_
    obtain ⟨y1, hy1, hp⟩ := bind_some hp
    refine cx_loopg' (F := spec_SameFloats_l1 a0 a1) (G := fun k R v => spec_SameFloats_l1s a0 a1 k R v) (x := 0) (gh := ()) (fun (v1 : Int) (w1 : Unit) => (⟨28, [], [(1, (Sl Kf a1)), (12, (Sl Kf a0)), (13, (Vl (.int .i64 (a0.length : Int)))), (14, (Vl (.int .i64 v1)))], []⟩ : St)) (fun (y : Unit ⊕ Unit) => match y with | (.inl v2) => Zg E Exit.ret (fun (w2 : Unit) => (⟨28, [], [(4, (Vl (.bool false)))], []⟩ : St)) | (.inr v3) => Zg E (Exit.exit 0) (fun (w3 : Unit) => (⟨28, [], [], []⟩ : St))) (fun _ => rfl) (fun _ _ => rfl) ?_ hy1 (tx_to' rfl [] (sub_cons rfl (sub_cons rfl (sub_cons rfl (sub_cons rfl sub_nil)))) (by decide) pick_nil) ?_
    · clear hp hy1
      clear y1
      intro k rec1 KY1 ih1
      rintro x1 ⟨⟩ y1 hp
      replace hp : spec_SameFloats_l1s a0 a1 k rec1 x1 = some y1 := hp
      unfold spec_SameFloats_l1s at hp
      refine cx_seq' fun K7 hK7 => ?_
      refine cx_region' ?_
      refine sx_rd' (rd_bin' rfl rfl eg_int ru_lss) rfl rfl (wt_none' rfl) ?_
      refine sx_nil' ?_
      show TX E K7 _
      refine tx_k' hK7 ?_
      refine cx_seq' fun K8 hK8 => ?_
      refine cx_cond' rfl (fun h3 => ?_) (fun h3 => ?_)
      · replace hp := (br_t h3).symm.trans hp
        refine cx_skip' ?_
        show TX E K8 _
        refine tx_k' hK8 ?_
        refine cx_seq' fun K9 hK9 => ?_
        refine cx_block' ?_
        refine cx_seq' fun K10 hK10 => ?_
        refine cx_region' ?_
        refine sx_rd' (rd_move' rfl) rfl rfl (wt_none' rfl) ?_
        obtain ⟨r17, hr17, hp⟩ := bind_some hp
        refine sx_rd' (rd_at' (K := Kf) rfl rfl hr17 Try.underlying22 info30) rfl rfl (wt_none' rfl) ?_
        refine sx_rd' (rd_load_pt' rfl rfl flat30) rfl rfl (wt_none' rfl) ?_
        refine sx_rd' (rd_assign' rfl) rfl rfl (wt_none' rfl) ?_
        refine sx_rd' (rd_assign' rfl) rfl rfl (wt_none' rfl) ?_
        refine sx_nil' ?_
        show TX E K10 _
        refine tx_k' hK10 ?_
        refine cx_seq' fun K11 hK11 => ?_
        refine cx_draw' mixed (by kernel_rfl) ?_
        refine qx_rd' (rd_move' rfl) rfl rfl (wt_none' rfl) ?_
        refine qx_rd' (rd_ext' (us := [.float .f64 r17]) rfl (ext72 ex_bits)) rfl rfl (wt_none' rfl) ?_
        refine qx_rd' (rd_move' rfl) rfl rfl (wt_none' rfl) ?_
        refine qx_rd' (rd_move' rfl) rfl rfl (wt_none' rfl) ?_
        obtain ⟨r23, hr23, hp⟩ := bind_some hp
        refine qx_rd' (rd_at' (K := Kf) rfl rfl hr23 Try.underlying22 info30) rfl rfl (wt_none' rfl) ?_
        refine qx_rd' (rd_load_pt' rfl rfl flat30) rfl rfl (wt_none' rfl) ?_
        refine qx_rd' (rd_ext' (us := [.float .f64 r23]) rfl (ext72 ex_bits)) rfl rfl (wt_none' rfl) ?_
        refine qx_rd' (rd_bin' rfl rfl eg_int ru_neq) rfl rfl (wt_none' rfl) ?_
        refine qx_nil' ?_
        show TX E K11 _
        refine tx_k' hK11 ?_
        refine cx_cond' rfl (fun h4 => ?_) (fun h4 => ?_)
        · replace hp := (br_t h4).symm.trans hp
          refine cx_seq' fun K12 hK12 => ?_
          refine cx_region' ?_
          refine sx_rd' (rd_assign' rfl) rfl rfl (wt_none' rfl) ?_
          refine sx_nil' ?_
          show TX E K12 _
          refine tx_k' hK12 ?_
          refine cx_retc' ?_
          replace hp := Option.some.inj hp
          subst hp
          show TX E (Zg E Exit.ret _ Exit.ret) _
          exact tx_zend' () rfl [] (sub_cons rfl sub_nil) (by decide) pick_nil
        · replace hp := (br_f h4).symm.trans hp
          refine cx_skip' ?_
          show TX E K9 _
          refine tx_k' hK9 ?_
          refine cx_region' ?_
          refine sx_rd' (rd_bin' rfl rfl eg_int ru_add) rfl rfl (wt_none' rfl) ?_
          refine sx_rd' (rd_move' rfl) rfl rfl (wt_none' rfl) ?_
          refine sx_nil' ?_
          show TX E (KY1 _) _
          exact tx_pick' [] (sub_cons rfl (sub_cons rfl (sub_cons rfl (sub_cons rfl sub_nil)))) (by decide) pick_nil (ih1 (iadd .i64 x1 1) () _ hp)
      · replace hp := (br_f h3).symm.trans hp
        refine cx_exit' ?_
        replace hp := Option.some.inj hp
        subst hp
        show TX E (Zg E (Exit.exit 0) _ (Exit.exit 0)) _
        exact tx_zend' () rfl [] sub_nil (by decide) pick_nil
    · rcases y1 with v2 | v3
      · dsimp only at hp
        refine zg_out fun w2 => ?_
        replace hp := Option.some.inj hp
        subst hp
        refine tx_pick' (L' := [(4, (Vl (.bool false)))]) (H' := []) [] (sub_cons rfl sub_nil) (by decide) pick_nil ?_
        exact tx_ret1' Try.results45 rfl () (rv_tmp' rfl) (List.Sublist.refl _)
      · dsimp only at hp
        refine zg_out fun w3 => ?_
        show TX E K5 _
        refine tx_k' hK5 ?_
        refine cx_seq' fun K13 hK13 => ?_
        refine cx_region' ?_
        refine sx_rd' (rd_assign' rfl) rfl rfl (wt_none' rfl) ?_
        refine sx_nil' ?_
        show TX E K13 _
        refine tx_k' hK13 ?_
        refine cx_retc' ?_
        replace hp := Option.some.inj hp
        subst hp
        refine tx_pick' (L' := [(4, (Vl (.bool true)))]) (H' := []) [] (sub_cons rfl sub_nil) (by decide) pick_nil ?_
        exact tx_ret1' Try.results45 rfl () (rv_tmp' rfl) (List.Sublist.refl _)

def spec_sameInts_l1s (a0 : List Int) (k : Nat) (rec1 : Unit → Option (Unit))  : Option (Unit) :=
  br (decide (0 < (a0.length : Int)))
    ((idx a0 0) >>= fun r17 =>
    none)
    (some ())
def spec_sameInts_l1 (a0 : List Int) : Nat → Unit → Option (Unit)
  | 0, _ => none
  | k + 1, v => spec_sameInts_l1s a0 k (spec_sameInts_l1 a0 k) 
def spec_sameInts (k : Nat) (a0 : List Int) : Option (Bool) :=
  br (!decide ((a0.length : Int) = ((0 : Nat) : Int)))
    (some false)
    ((spec_sameInts_l1 a0 k ()) >>= fun v2 =>
    some true)

theorem spec_sameInts_sim {k : Nat}  (a0 : List Int) {out : Bool} (hp : spec_sameInts k a0 = some out) : Go.Sx.Fn Try.prog 46 [(Sl (Ki .i64) a0), (Vl (.slice none 0 0))] [] (fun w : Unit => (Vl (.bool out))) (fun w => []) := by
  unfold spec_sameInts at hp
  refine fn_of Try.func46 rfl Try.ntmps46 rfl fun E hM => ?_
  refine cx_seq' fun K1 hK1 => ?_
  refine cx_region' ?_
  refine sx_rd' (rd_assign' rfl) rfl rfl (wt_none' rfl) ?_
  refine sx_nil' ?_
  show TX E K1 _
  refine tx_k' hK1 ?_
  refine cx_seq' fun K2 hK2 => ?_
  refine cx_seq' fun K3 hK3 => ?_
  refine cx_region' ?_
  refine sx_rd' (rd_move' rfl) rfl rfl (wt_none' rfl) ?_
  refine sx_rd' (rd_len' rfl Try.underlying23) rfl rfl (wt_none' rfl) ?_
  refine sx_rd' (rd_move' rfl) rfl rfl (wt_none' rfl) ?_
  refine sx_rd' (rd_lenv' rfl Try.underlying23) rfl rfl (wt_none' rfl) ?_
  refine sx_rd' (rd_bin' rfl rfl eg_int ru_neq) rfl rfl (wt_none' rfl) ?_
  refine sx_nil' ?_
  show TX E K3 _
  refine tx_k' hK3 ?_
  refine cx_cond' rfl (fun h1 => ?_) (fun h1 => ?_)
  · replace hp := (br_t h1).symm.trans hp
    refine cx_seq' fun K4 hK4 => ?_
    refine cx_region' ?_
    refine sx_rd' (rd_assign' rfl) rfl rfl (wt_none' rfl) ?_
    refine sx_nil' ?_
    show TX E K4 _
    refine tx_k' hK4 ?_
    refine cx_retc' ?_
    replace hp := Option.some.inj hp
    subst hp
    refine tx_pick' (L' := [(4, (Vl (.bool false)))]) (H' := []) [] (sub_cons rfl sub_nil) (by decide) pick_nil ?_
    exact tx_ret1' Try.results46 rfl () (rv_tmp' rfl) (List.Sublist.refl _)
  · replace hp := (br_f h1).symm.trans hp
    refine cx_skip' ?_
    show TX E K2 _
    refine tx_k' hK2 ?_
    refine cx_seq' fun K5 hK5 => ?_
    refine cx_seq' fun K6 hK6 => ?_
    refine cx_region' ?_
    refine sx_rd' (rd_move' rfl) rfl rfl (wt_none' rfl) ?_
    refine sx_rd' (rd_len' rfl Try.underlying23) rfl rfl (wt_none' rfl) ?_
    refine sx_rd' (rd_move' rfl) rfl rfl (wt_none' rfl) ?_
    refine sx_nil' ?_
    show TX E K6 _
    refine tx_k' hK6 ?_
    refine cx_block' ?_
    obtain ⟨v2, hy1, hp⟩ := bind_some hp
    refine cx_loopg' (F := spec_sameInts_l1 a0) (G := fun k R v => spec_sameInts_l1s a0 k R ) (x := ()) (gh := ()) (fun (v1 : Unit) (w1 : Unit) => (⟨26, [], [(1, (Vl (.slice none 0 0))), (12, (Sl (Ki .i64) a0)), (13, (Vl (.int .i64 (a0.length : Int)))), (14, (Vl (.int .i64 0)))], []⟩ : St)) (fun (v2 : Unit) => Zg E (Exit.exit 0) (fun (w2 : Unit) => (⟨26, [], [], []⟩ : St))) (fun _ => rfl) (fun _ _ => rfl) ?_ hy1 (tx_to' rfl [] (sub_cons rfl (sub_cons rfl (sub_cons rfl (sub_cons rfl sub_nil)))) (by decide) pick_nil) ?_
    · clear hp hy1
      clear v2
      intro k rec1 KY1 ih1
      rintro ⟨⟩ ⟨⟩ y1 hp
      replace hp : spec_sameInts_l1s a0 k rec1  = some y1 := hp
      unfold spec_sameInts_l1s at hp
      refine cx_seq' fun K7 hK7 => ?_
      refine cx_region' ?_
      refine sx_rd' (rd_bin' rfl rfl eg_int ru_lss) rfl rfl (wt_none' rfl) ?_
      refine sx_nil' ?_
      show TX E K7 _
      refine tx_k' hK7 ?_
      refine cx_seq' fun K8 hK8 => ?_
      refine cx_cond' rfl (fun h3 => ?_) (fun h3 => ?_)
      · replace hp := (br_t h3).symm.trans hp
        refine cx_skip' ?_
        show TX E K8 _
        refine tx_k' hK8 ?_
        refine cx_seq' fun K9 hK9 => ?_
        refine cx_block' ?_
        refine cx_seq' fun K10 hK10 => ?_
        refine cx_region' ?_
        refine sx_rd' (rd_move' rfl) rfl rfl (wt_none' rfl) ?_
        obtain ⟨r17, hr17, hp⟩ := bind_some hp
        refine sx_rd' (rd_at' (K := (Ki .i64)) rfl rfl hr17 Try.underlying23 info3) rfl rfl (wt_none' rfl) ?_
        refine sx_rd' (rd_load_pt' rfl rfl flat3) rfl rfl (wt_none' rfl) ?_
        refine sx_rd' (rd_assign' rfl) rfl rfl (wt_none' rfl) ?_
        refine sx_rd' (rd_assign' rfl) rfl rfl (wt_none' rfl) ?_
        refine sx_nil' ?_
        show TX E K10 _
        refine tx_k' hK10 ?_
        refine cx_seq' fun K11 hK11 => ?_
        refine cx_region' ?_
        refine sx_rd' (rd_move' rfl) rfl rfl (wt_none' rfl) ?_
        refine sx_rd' (rd_move' rfl) rfl rfl (wt_none' rfl) ?_
        refine sx_rd' (rd_move' rfl) rfl rfl (wt_none' rfl) ?_
        cases hp
      · replace hp := (br_f h3).symm.trans hp
        refine cx_exit' ?_
        replace hp := Option.some.inj hp
        subst hp
        show TX E (Zg E (Exit.exit 0) _ (Exit.exit 0)) _
        exact tx_zend' () rfl [] sub_nil (by decide) pick_nil
    · refine zg_out fun w2 => ?_
      show TX E K5 _
      refine tx_k' hK5 ?_
      refine cx_seq' fun K12 hK12 => ?_
      refine cx_region' ?_
      refine sx_rd' (rd_assign' rfl) rfl rfl (wt_none' rfl) ?_
      refine sx_nil' ?_
      show TX E K12 _
      refine tx_k' hK12 ?_
      refine cx_retc' ?_
      replace hp := Option.some.inj hp
      subst hp
      refine tx_pick' (L' := [(4, (Vl (.bool true)))]) (H' := []) [] (sub_cons rfl sub_nil) (by decide) pick_nil ?_
      exact tx_ret1' Try.results46 rfl () (rv_tmp' rfl) (List.Sublist.refl _)

def spec_SameGeom_l1s  (k : Nat) (rec1 : Unit → Option (Unit))  : Option (Unit) :=
  some ()
def spec_SameGeom_l1  : Nat → Unit → Option (Unit)
  | 0, _ => none
  | k + 1, v => spec_SameGeom_l1s k (spec_SameGeom_l1 k) 
def spec_SameGeom_l2s  (k : Nat) (rec2 : Unit → Option (Unit))  : Option (Unit) :=
  some ()
def spec_SameGeom_l2  : Nat → Unit → Option (Unit)
  | 0, _ => none
  | k + 1, v => spec_SameGeom_l2s k (spec_SameGeom_l2 k) 
def spec_SameGeom_j6 (k : Nat) (x6 : Bool) : Option (Bool) :=
  br x6
    (some false)
    ((spec_SameGeom_l1 k ()) >>= fun v8 =>
    (spec_SameGeom_l2 k ()) >>= fun v10 =>
    some true)
def spec_SameGeom_j5 (k : Nat) (x5 : Bool) : Option (Bool) :=
  br x5
    (spec_SameGeom_j6 k true)
    (spec_SameGeom_j6 k (!decide (((0 : Nat) : Int) = ((0 : Nat) : Int))))
def spec_SameGeom_j4 (k : Nat) (x4 : Bool) : Option (Bool) :=
  br x4
    (spec_SameGeom_j5 k true)
    (spec_SameGeom_j5 k (!decide (((0 : Nat) : Int) = ((0 : Nat) : Int))))
def spec_SameGeom_j3 (k : Nat) (a0_4 : List Int) (x3 : Bool) : Option (Bool) :=
  br x3
    (spec_SameGeom_j4 k true)
    ((spec_sameInts k a0_4) >>= fun r41 =>
    spec_SameGeom_j4 k (!r41))
def spec_SameGeom_j2 (k : Nat) (a0_4 : List Int) (a0_3 : List Nat) (a1_3 : List Nat) (x2 : Bool) : Option (Bool) :=
  br x2
    (spec_SameGeom_j3 k a0_4 true)
    ((spec_SameFloats k a0_3 a1_3) >>= fun r33 =>
    spec_SameGeom_j3 k a0_4 (!r33))
def spec_SameGeom_j1 (k : Nat) (a0_4 : List Int) (a0_3 : List Nat) (a1_3 : List Nat) (a0_2 : Int) (a1_2 : Int) (x1 : Bool) : Option (Bool) :=
  br x1
    (spec_SameGeom_j2 k a0_4 a0_3 a1_3 true)
    (spec_SameGeom_j2 k a0_4 a0_3 a1_3 (!decide (a0_2 = a1_2)))
def spec_SameGeom (k : Nat) (a0_0 : Int) (a0_1 : Int) (a0_2 : Int) (a0_3 : List Nat) (a0_4 : List Int) (a1_0 : Int) (a1_1 : Int) (a1_2 : Int) (a1_3 : List Nat) : Option (Bool) :=
  br (!decide (a0_0 = a1_0))
    (spec_SameGeom_j1 k a0_4 a0_3 a1_3 a0_2 a1_2 true)
    (spec_SameGeom_j1 k a0_4 a0_3 a1_3 a0_2 a1_2 (!decide (a0_1 = a1_1)))

theorem spec_SameGeom_sim {k : Nat}  (a0_0 : Int) (a0_1 : Int) (a0_2 : Int) (a0_3 : List Nat) (a0_4 : List Int) (a1_0 : Int) (a1_1 : Int) (a1_2 : Int) (a1_3 : List Nat) {out : Bool} (hp : spec_SameGeom k a0_0 a0_1 a0_2 a0_3 a0_4 a1_0 a1_1 a1_2 a1_3 = some out) : Go.Sx.Fn Try.prog 13 [(Ag [(Vl (.int .i64 a0_0)), (Vl (.int .i64 a0_1)), (Vl (.int .i64 a0_2)), (Sl Kf a0_3), (Sl (Ki .i64) a0_4), (Vl (.slice none 0 0)), (Vl (.slice none 0 0))]), (Ag [(Vl (.int .i64 a1_0)), (Vl (.int .i64 a1_1)), (Vl (.int .i64 a1_2)), (Sl Kf a1_3), (Vl (.slice none 0 0)), (Vl (.slice none 0 0)), (Vl (.slice none 0 0))])] [] (fun w : Unit => (Vl (.bool out))) (fun w => []) := by
  unfold spec_SameGeom at hp
  refine fn_of Try.func13 rfl Try.ntmps13 rfl fun E hM => ?_
  refine cx_seq' fun K1 hK1 => ?_
  refine cx_region' ?_
  refine sx_ox' (ox_box' rfl (lv_ag _) rfl rfl) (wt_none' rfl) fun q2 => ?_
  refine sx_ox' (ox_box' rfl (lv_ag _) rfl rfl) (wt_none' rfl) fun q3 => ?_
  refine sx_rd' (rd_assign' rfl) rfl rfl (wt_none' rfl) ?_
  refine sx_nil' ?_
  show TX E K1 _
  refine tx_k' hK1 ?_
  refine cx_seq' fun K2 hK2 => ?_
  refine cx_seq' fun K3 hK3 => ?_
  refine cx_region' ?_
  refine sx_rd' (rd_field0' rfl Try.underlying27 rfl info3 rfl) rfl rfl (wt_none' rfl) ?_
  refine sx_rd' (rd_load' (i := 1) (o := 0) rfl ⟨rfl, rfl, rfl, rfl⟩ rfl flat3) rfl rfl (wt_none' rfl) ?_
  refine sx_rd' (rd_field0' rfl Try.underlying27 rfl info3 rfl) rfl rfl (wt_none' rfl) ?_
  refine sx_rd' (rd_load' (i := 0) (o := 0) rfl ⟨rfl, rfl, rfl, rfl⟩ rfl flat3) rfl rfl (wt_none' rfl) ?_
  refine sx_rd' (rd_bin' rfl rfl eg_int ru_neq) rfl rfl (wt_none' rfl) ?_
  refine sx_rd' (rd_move' rfl) rfl rfl (wt_none' rfl) ?_
  refine sx_cutn' 6 (fun (v1 : Bool) => (⟨96, [], [(2, (Vl (.pointer (some q2)))), (3, (Vl (.pointer (some q3)))), (20, (Vl (.bool v1)))], [⟨.pointer (some q2), [(Vl (.int .i64 a0_0)), (Vl (.int .i64 a0_1)), (Vl (.int .i64 a0_2)), (Sl Kf a0_3), (Sl (Ki .i64) a0_4), (Vl (.slice none 0 0)), (Vl (.slice none 0 0))], 27, none⟩, ⟨.pointer (some q3), [(Vl (.int .i64 a1_0)), (Vl (.int .i64 a1_1)), (Vl (.int .i64 a1_2)), (Sl Kf a1_3), (Vl (.slice none 0 0)), (Vl (.slice none 0 0)), (Vl (.slice none 0 0))], 27, none⟩]⟩ : St)) (fun (v1 : Bool) => spec_SameGeom_j1 k a0_4 a0_3 a1_3 a0_2 a1_2 v1 = some out) ?_ ?_
  · rintro x1 hp
    replace hp : spec_SameGeom_j1 k a0_4 a0_3 a1_3 a0_2 a1_2 x1 = some out := hp
    unfold spec_SameGeom_j1 at hp
    refine sx_rd' (rd_move' rfl) rfl rfl (wt_none' rfl) ?_
    refine sx_cutn' 6 (fun (v2 : Bool) => (⟨96, [], [(2, (Vl (.pointer (some q2)))), (3, (Vl (.pointer (some q3)))), (27, (Vl (.bool v2)))], [⟨.pointer (some q2), [(Vl (.int .i64 a0_0)), (Vl (.int .i64 a0_1)), (Vl (.int .i64 a0_2)), (Sl Kf a0_3), (Sl (Ki .i64) a0_4), (Vl (.slice none 0 0)), (Vl (.slice none 0 0))], 27, none⟩, ⟨.pointer (some q3), [(Vl (.int .i64 a1_0)), (Vl (.int .i64 a1_1)), (Vl (.int .i64 a1_2)), (Sl Kf a1_3), (Vl (.slice none 0 0)), (Vl (.slice none 0 0)), (Vl (.slice none 0 0))], 27, none⟩]⟩ : St)) (fun (v2 : Bool) => spec_SameGeom_j2 k a0_4 a0_3 a1_3 v2 = some out) ?_ ?_
    · rintro x2 hp
      replace hp : spec_SameGeom_j2 k a0_4 a0_3 a1_3 x2 = some out := hp
      unfold spec_SameGeom_j2 at hp
      refine sx_rd' (rd_move' rfl) rfl rfl (wt_none' rfl) ?_
      refine sx_cutn' 7 (fun (v3 : Bool) => (⟨96, [], [(2, (Vl (.pointer (some q2)))), (3, (Vl (.pointer (some q3)))), (35, (Vl (.bool v3)))], [⟨.pointer (some q2), [(Vl (.int .i64 a0_0)), (Vl (.int .i64 a0_1)), (Vl (.int .i64 a0_2)), (Sl Kf a0_3), (Sl (Ki .i64) a0_4), (Vl (.slice none 0 0)), (Vl (.slice none 0 0))], 27, none⟩, ⟨.pointer (some q3), [(Vl (.int .i64 a1_0)), (Vl (.int .i64 a1_1)), (Vl (.int .i64 a1_2)), (Sl Kf a1_3), (Vl (.slice none 0 0)), (Vl (.slice none 0 0)), (Vl (.slice none 0 0))], 27, none⟩]⟩ : St)) (fun (v3 : Bool) => spec_SameGeom_j3 k a0_4 v3 = some out) ?_ ?_
      · rintro x3 hp
        replace hp : spec_SameGeom_j3 k a0_4 x3 = some out := hp
        unfold spec_SameGeom_j3 at hp
        refine sx_rd' (rd_move' rfl) rfl rfl (wt_none' rfl) ?_
        refine sx_cutn' 7 (fun (v4 : Bool) => (⟨96, [], [(2, (Vl (.pointer (some q2)))), (3, (Vl (.pointer (some q3)))), (43, (Vl (.bool v4)))], [⟨.pointer (some q2), [(Vl (.int .i64 a0_0)), (Vl (.int .i64 a0_1)), (Vl (.int .i64 a0_2)), (Sl Kf a0_3), (Sl (Ki .i64) a0_4), (Vl (.slice none 0 0)), (Vl (.slice none 0 0))], 27, none⟩, ⟨.pointer (some q3), [(Vl (.int .i64 a1_0)), (Vl (.int .i64 a1_1)), (Vl (.int .i64 a1_2)), (Sl Kf a1_3), (Vl (.slice none 0 0)), (Vl (.slice none 0 0)), (Vl (.slice none 0 0))], 27, none⟩]⟩ : St)) (fun (v4 : Bool) => spec_SameGeom_j4 k v4 = some out) ?_ ?_
        · rintro x4 hp
          replace hp : spec_SameGeom_j4 k x4 = some out := hp
          unfold spec_SameGeom_j4 at hp
          refine sx_rd' (rd_move' rfl) rfl rfl (wt_none' rfl) ?_
          refine sx_cutn' 8 (fun (v5 : Bool) => (⟨96, [], [(2, (Vl (.pointer (some q2)))), (3, (Vl (.pointer (some q3)))), (52, (Vl (.bool v5)))], [⟨.pointer (some q2), [(Vl (.int .i64 a0_0)), (Vl (.int .i64 a0_1)), (Vl (.int .i64 a0_2)), (Sl Kf a0_3), (Sl (Ki .i64) a0_4), (Vl (.slice none 0 0)), (Vl (.slice none 0 0))], 27, none⟩, ⟨.pointer (some q3), [(Vl (.int .i64 a1_0)), (Vl (.int .i64 a1_1)), (Vl (.int .i64 a1_2)), (Sl Kf a1_3), (Vl (.slice none 0 0)), (Vl (.slice none 0 0)), (Vl (.slice none 0 0))], 27, none⟩]⟩ : St)) (fun (v5 : Bool) => spec_SameGeom_j5 k v5 = some out) ?_ ?_
          · rintro x5 hp
            replace hp : spec_SameGeom_j5 k x5 = some out := hp
            unfold spec_SameGeom_j5 at hp
            refine sx_rd' (rd_move' rfl) rfl rfl (wt_none' rfl) ?_
            refine sx_cutn' 8 (fun (v6 : Bool) => (⟨96, [], [(2, (Vl (.pointer (some q2)))), (3, (Vl (.pointer (some q3)))), (61, (Vl (.bool v6)))], [⟨.pointer (some q2), [(Vl (.int .i64 a0_0)), (Vl (.int .i64 a0_1)), (Vl (.int .i64 a0_2)), (Sl Kf a0_3), (Sl (Ki .i64) a0_4), (Vl (.slice none 0 0)), (Vl (.slice none 0 0))], 27, none⟩, ⟨.pointer (some q3), [(Vl (.int .i64 a1_0)), (Vl (.int .i64 a1_1)), (Vl (.int .i64 a1_2)), (Sl Kf a1_3), (Vl (.slice none 0 0)), (Vl (.slice none 0 0)), (Vl (.slice none 0 0))], 27, none⟩]⟩ : St)) (fun (v6 : Bool) => spec_SameGeom_j6 k v6 = some out) ?_ ?_
            · rintro x6 hp
              replace hp : spec_SameGeom_j6 k x6 = some out := hp
              unfold spec_SameGeom_j6 at hp
              refine sx_nil' ?_
              show TX E K3 _
              refine tx_k' hK3 ?_
              refine cx_cond' rfl (fun h7 => ?_) (fun h7 => ?_)
              · replace hp := (br_t h7).symm.trans hp
                refine cx_seq' fun K10 hK10 => ?_
                refine cx_region' ?_
                refine sx_rd' (rd_assign' rfl) rfl rfl (wt_none' rfl) ?_
                refine sx_nil' ?_
                show TX E K10 _
                refine tx_k' hK10 ?_
                refine cx_retc' ?_
                replace hp := Option.some.inj hp
                subst hp
                refine tx_pick' (L' := [(4, (Vl (.bool false)))]) (H' := []) [] (sub_cons rfl sub_nil) (by decide) pick_nil ?_
                exact tx_ret1' Try.results13 rfl () (rv_tmp' rfl) (List.Sublist.refl _)
              · replace hp := (br_f h7).symm.trans hp
                refine cx_skip' ?_
                show TX E K2 _
                refine tx_k' hK2 ?_
                refine cx_seq' fun K11 hK11 => ?_
                refine cx_seq' fun K12 hK12 => ?_
                refine cx_region' ?_
                refine sx_rd' (rd_field' (off := 5) rfl Try.underlying27 rfl info24 rfl) rfl rfl (wt_none' rfl) ?_
                refine sx_rd' (rd_load' (i := 0) (o := 5) rfl ⟨rfl, rfl, rfl, rfl⟩ rfl flat24) rfl rfl (wt_none' rfl) ?_
                refine sx_rd' (rd_lenv' rfl Try.underlying24) rfl rfl (wt_none' rfl) ?_
                refine sx_rd' (rd_move' rfl) rfl rfl (wt_none' rfl) ?_
                refine sx_nil' ?_
                show TX E K12 _
                refine tx_k' hK12 ?_
                refine cx_block' ?_
                obtain ⟨v8, hy1, hp⟩ := bind_some hp
                refine cx_loopg' (F := spec_SameGeom_l1) (G := fun k R v => spec_SameGeom_l1s k R ) (x := ()) (gh := ()) (fun (v7 : Unit) (w7 : Unit) => (⟨96, [], [(2, (Vl (.pointer (some q2)))), (3, (Vl (.pointer (some q3)))), (63, (Vl (.slice none 0 0))), (64, (Vl (.int .i64 ((0 : Nat) : Int)))), (65, (Vl (.int .i64 0)))], [⟨.pointer (some q2), [(Vl (.int .i64 a0_0)), (Vl (.int .i64 a0_1)), (Vl (.int .i64 a0_2)), (Sl Kf a0_3), (Sl (Ki .i64) a0_4), (Vl (.slice none 0 0)), (Vl (.slice none 0 0))], 27, none⟩, ⟨.pointer (some q3), [(Vl (.int .i64 a1_0)), (Vl (.int .i64 a1_1)), (Vl (.int .i64 a1_2)), (Sl Kf a1_3), (Vl (.slice none 0 0)), (Vl (.slice none 0 0)), (Vl (.slice none 0 0))], 27, none⟩]⟩ : St)) (fun (v8 : Unit) => Zg E (Exit.exit 0) (fun (w8 : Unit) => (⟨96, [], [(2, (Vl (.pointer (some q2)))), (3, (Vl (.pointer (some q3))))], [⟨.pointer (some q2), [(Vl (.int .i64 a0_0)), (Vl (.int .i64 a0_1)), (Vl (.int .i64 a0_2)), (Sl Kf a0_3), (Sl (Ki .i64) a0_4), (Vl (.slice none 0 0)), (Vl (.slice none 0 0))], 27, none⟩, ⟨.pointer (some q3), [(Vl (.int .i64 a1_0)), (Vl (.int .i64 a1_1)), (Vl (.int .i64 a1_2)), (Sl Kf a1_3), (Vl (.slice none 0 0)), (Vl (.slice none 0 0)), (Vl (.slice none 0 0))], 27, none⟩]⟩ : St))) (fun _ => rfl) (fun _ _ => rfl) ?_ hy1 (tx_to' rfl [0, 1] (sub_cons rfl (sub_cons rfl (sub_cons rfl (sub_cons rfl (sub_cons rfl sub_nil))))) (by decide) (pick_cons rfl (pick_cons rfl pick_nil))) ?_
                · clear hp hy1
                  clear v8
                  intro k rec1 KY1 ih1
                  rintro ⟨⟩ ⟨⟩ y1 hp
                  replace hp : spec_SameGeom_l1s k rec1  = some y1 := hp
                  unfold spec_SameGeom_l1s at hp
                  refine cx_seq' fun K13 hK13 => ?_
                  refine cx_region' ?_
                  refine sx_rd' (rd_bin' rfl rfl eg_int ru_lss) rfl rfl (wt_none' rfl) ?_
                  refine sx_nil' ?_
                  show TX E K13 _
                  refine tx_k' hK13 ?_
                  refine cx_seq' fun K14 hK14 => ?_
                  refine cx_cond_f' rfl rfl ?_
                  refine cx_exit' ?_
                  replace hp := Option.some.inj hp
                  subst hp
                  show TX E (Zg E (Exit.exit 0) _ (Exit.exit 0)) _
                  exact tx_zend' () rfl [0, 1] (sub_cons rfl (sub_cons rfl sub_nil)) (by decide) (pick_cons rfl (pick_cons rfl pick_nil))
                · refine zg_out fun w8 => ?_
                  show TX E K11 _
                  refine tx_k' hK11 ?_
                  refine cx_seq' fun K15 hK15 => ?_
                  refine cx_seq' fun K16 hK16 => ?_
                  refine cx_region' ?_
                  refine sx_rd' (rd_field' (off := 6) rfl Try.underlying27 rfl info25 rfl) rfl rfl (wt_none' rfl) ?_
                  refine sx_rd' (rd_load' (i := 0) (o := 6) rfl ⟨rfl, rfl, rfl, rfl⟩ rfl flat25) rfl rfl (wt_none' rfl) ?_
                  refine sx_rd' (rd_lenv' rfl Try.underlying25) rfl rfl (wt_none' rfl) ?_
                  refine sx_rd' (rd_move' rfl) rfl rfl (wt_none' rfl) ?_
                  refine sx_nil' ?_
                  show TX E K16 _
                  refine tx_k' hK16 ?_
                  refine cx_block' ?_
                  obtain ⟨v10, hy2, hp⟩ := bind_some hp
                  refine cx_loopg' (F := spec_SameGeom_l2) (G := fun k R v => spec_SameGeom_l2s k R ) (x := ()) (gh := ()) (fun (v9 : Unit) (w9 : Unit) => (⟨96, [], [(3, (Vl (.pointer (some q3)))), (80, (Vl (.slice none 0 0))), (81, (Vl (.int .i64 ((0 : Nat) : Int)))), (82, (Vl (.int .i64 0)))], [⟨.pointer (some q3), [(Vl (.int .i64 a1_0)), (Vl (.int .i64 a1_1)), (Vl (.int .i64 a1_2)), (Sl Kf a1_3), (Vl (.slice none 0 0)), (Vl (.slice none 0 0)), (Vl (.slice none 0 0))], 27, none⟩]⟩ : St)) (fun (v10 : Unit) => Zg E (Exit.exit 2) (fun (w10 : Unit) => (⟨96, [], [], []⟩ : St))) (fun _ => rfl) (fun _ _ => rfl) ?_ hy2 (tx_to' rfl [1] (sub_cons rfl (sub_cons rfl (sub_cons rfl (sub_cons rfl sub_nil)))) (by decide) (pick_cons rfl pick_nil)) ?_
                  · clear hp hy2
                    clear v10
                    intro k rec2 KY2 ih2
                    rintro ⟨⟩ ⟨⟩ y2 hp
                    replace hp : spec_SameGeom_l2s k rec2  = some y2 := hp
                    unfold spec_SameGeom_l2s at hp
                    refine cx_seq' fun K17 hK17 => ?_
                    refine cx_region' ?_
                    refine sx_rd' (rd_bin' rfl rfl eg_int ru_lss) rfl rfl (wt_none' rfl) ?_
                    refine sx_nil' ?_
                    show TX E K17 _
                    refine tx_k' hK17 ?_
                    refine cx_seq' fun K18 hK18 => ?_
                    refine cx_cond_f' rfl rfl ?_
                    refine cx_exit' ?_
                    replace hp := Option.some.inj hp
                    subst hp
                    show TX E (Zg E (Exit.exit 2) _ (Exit.exit 2)) _
                    exact tx_zend' () rfl [] sub_nil (by decide) pick_nil
                  · refine zg_out fun w10 => ?_
                    show TX E K15 _
                    refine tx_k' hK15 ?_
                    refine cx_seq' fun K19 hK19 => ?_
                    refine cx_region' ?_
                    refine sx_rd' (rd_assign' rfl) rfl rfl (wt_none' rfl) ?_
                    refine sx_nil' ?_
                    show TX E K19 _
                    refine tx_k' hK19 ?_
                    refine cx_retc' ?_
                    replace hp := Option.some.inj hp
                    subst hp
                    refine tx_pick' (L' := [(4, (Vl (.bool true)))]) (H' := []) [] (sub_cons rfl sub_nil) (by decide) pick_nil ?_
                    exact tx_ret1' Try.results13 rfl () (rv_tmp' rfl) (List.Sublist.refl _)
            · intro K9 hK9
              rcases br_cases hp with ⟨h6, hp⟩ | ⟨h6, hp⟩
              · refine sx_skip' rfl rfl (wt_is' (wt_guard' rfl rfl rfl) (beq_tf h6)) ?_
                refine sx_skip' rfl rfl (wt_is' (wt_guard' rfl rfl rfl) (beq_tf h6)) ?_
                refine sx_skip' rfl rfl (wt_is' (wt_guard' rfl rfl rfl) (beq_tf h6)) ?_
                refine sx_skip' rfl rfl (wt_is' (wt_guard' rfl rfl rfl) (beq_tf h6)) ?_
                refine sx_skip' rfl rfl (wt_is' (wt_guard' rfl rfl rfl) (beq_tf h6)) ?_
                refine sx_skip' rfl rfl (wt_is' (wt_guard' rfl rfl rfl) (beq_tf h6)) ?_
                refine sx_skip' rfl rfl (wt_is' (wt_guard' rfl rfl rfl) (beq_tf h6)) ?_
                refine sx_rd' (rd_pick_true' rfl h6 rfl) rfl rfl (wt_none' rfl) ?_
                refine sx_nil' ?_
                show TX E K9 _
                exact tx_pick' [0, 1] (sub_cons rfl (sub_cons rfl (sub_cons rfl sub_nil))) (by decide) (pick_cons rfl (pick_cons rfl pick_nil)) (hK9 true hp)
              · refine sx_rd' (rd_field' (off := 6) rfl Try.underlying27 rfl info25 rfl) rfl rfl (wt_is' (wt_guard' rfl rfl rfl) (beq_ff h6)) ?_
                refine sx_rd' (rd_load' (i := 0) (o := 6) rfl ⟨rfl, rfl, rfl, rfl⟩ rfl flat25) rfl rfl (wt_is' (wt_guard' rfl rfl rfl) (beq_ff h6)) ?_
                refine sx_rd' (rd_lenv' rfl Try.underlying25) rfl rfl (wt_is' (wt_guard' rfl rfl rfl) (beq_ff h6)) ?_
                refine sx_rd' (rd_field' (off := 6) rfl Try.underlying27 rfl info25 rfl) rfl rfl (wt_is' (wt_guard' rfl rfl rfl) (beq_ff h6)) ?_
                refine sx_rd' (rd_load' (i := 1) (o := 6) rfl ⟨rfl, rfl, rfl, rfl⟩ rfl flat25) rfl rfl (wt_is' (wt_guard' rfl rfl rfl) (beq_ff h6)) ?_
                refine sx_rd' (rd_lenv' rfl Try.underlying25) rfl rfl (wt_is' (wt_guard' rfl rfl rfl) (beq_ff h6)) ?_
                refine sx_rd' (rd_bin' rfl rfl eg_int ru_neq) rfl rfl (wt_is' (wt_guard' rfl rfl rfl) (beq_ff h6)) ?_
                refine sx_rd' (rd_pick_false' rfl h6 rfl) rfl rfl (wt_none' rfl) ?_
                refine sx_nil' ?_
                show TX E K9 _
                exact tx_pick' [0, 1] (sub_cons rfl (sub_cons rfl (sub_cons rfl sub_nil))) (by decide) (pick_cons rfl (pick_cons rfl pick_nil)) (hK9 (!decide (((0 : Nat) : Int) = ((0 : Nat) : Int))) hp)
          · intro K8 hK8
            rcases br_cases hp with ⟨h5, hp⟩ | ⟨h5, hp⟩
            · refine sx_skip' rfl rfl (wt_is' (wt_guard' rfl rfl rfl) (beq_tf h5)) ?_
              refine sx_skip' rfl rfl (wt_is' (wt_guard' rfl rfl rfl) (beq_tf h5)) ?_
              refine sx_skip' rfl rfl (wt_is' (wt_guard' rfl rfl rfl) (beq_tf h5)) ?_
              refine sx_skip' rfl rfl (wt_is' (wt_guard' rfl rfl rfl) (beq_tf h5)) ?_
              refine sx_skip' rfl rfl (wt_is' (wt_guard' rfl rfl rfl) (beq_tf h5)) ?_
              refine sx_skip' rfl rfl (wt_is' (wt_guard' rfl rfl rfl) (beq_tf h5)) ?_
              refine sx_skip' rfl rfl (wt_is' (wt_guard' rfl rfl rfl) (beq_tf h5)) ?_
              refine sx_rd' (rd_pick_true' rfl h5 rfl) rfl rfl (wt_none' rfl) ?_
              refine sx_nil' ?_
              show TX E K8 _
              exact tx_pick' [0, 1] (sub_cons rfl (sub_cons rfl (sub_cons rfl sub_nil))) (by decide) (pick_cons rfl (pick_cons rfl pick_nil)) (hK8 true hp)
            · refine sx_rd' (rd_field' (off := 5) rfl Try.underlying27 rfl info24 rfl) rfl rfl (wt_is' (wt_guard' rfl rfl rfl) (beq_ff h5)) ?_
              refine sx_rd' (rd_load' (i := 0) (o := 5) rfl ⟨rfl, rfl, rfl, rfl⟩ rfl flat24) rfl rfl (wt_is' (wt_guard' rfl rfl rfl) (beq_ff h5)) ?_
              refine sx_rd' (rd_lenv' rfl Try.underlying24) rfl rfl (wt_is' (wt_guard' rfl rfl rfl) (beq_ff h5)) ?_
              refine sx_rd' (rd_field' (off := 5) rfl Try.underlying27 rfl info24 rfl) rfl rfl (wt_is' (wt_guard' rfl rfl rfl) (beq_ff h5)) ?_
              refine sx_rd' (rd_load' (i := 1) (o := 5) rfl ⟨rfl, rfl, rfl, rfl⟩ rfl flat24) rfl rfl (wt_is' (wt_guard' rfl rfl rfl) (beq_ff h5)) ?_
              refine sx_rd' (rd_lenv' rfl Try.underlying24) rfl rfl (wt_is' (wt_guard' rfl rfl rfl) (beq_ff h5)) ?_
              refine sx_rd' (rd_bin' rfl rfl eg_int ru_neq) rfl rfl (wt_is' (wt_guard' rfl rfl rfl) (beq_ff h5)) ?_
              refine sx_rd' (rd_pick_false' rfl h5 rfl) rfl rfl (wt_none' rfl) ?_
              refine sx_nil' ?_
              show TX E K8 _
              exact tx_pick' [0, 1] (sub_cons rfl (sub_cons rfl (sub_cons rfl sub_nil))) (by decide) (pick_cons rfl (pick_cons rfl pick_nil)) (hK8 (!decide (((0 : Nat) : Int) = ((0 : Nat) : Int))) hp)
        · intro K7 hK7
          rcases br_cases hp with ⟨h4, hp⟩ | ⟨h4, hp⟩
          · refine sx_skip' rfl rfl (wt_is' (wt_guard' rfl rfl rfl) (beq_tf h4)) ?_
            refine sx_skip' rfl rfl (wt_is' (wt_guard' rfl rfl rfl) (beq_tf h4)) ?_
            refine sx_skip' rfl rfl (wt_is' (wt_guard' rfl rfl rfl) (beq_tf h4)) ?_
            refine sx_skip' rfl rfl (wt_is' (wt_guard' rfl rfl rfl) (beq_tf h4)) ?_
            refine sx_skip' rfl rfl (wt_is' (wt_guard' rfl rfl rfl) (beq_tf h4)) ?_
            refine sx_skip' rfl rfl (wt_is' (wt_guard' rfl rfl rfl) (beq_tf h4)) ?_
            refine sx_rd' (rd_pick_true' rfl h4 rfl) rfl rfl (wt_none' rfl) ?_
            refine sx_nil' ?_
            show TX E K7 _
            exact tx_pick' [0, 1] (sub_cons rfl (sub_cons rfl (sub_cons rfl sub_nil))) (by decide) (pick_cons rfl (pick_cons rfl pick_nil)) (hK7 true hp)
          · refine sx_rd' (rd_field' (off := 4) rfl Try.underlying27 rfl info23 rfl) rfl rfl (wt_is' (wt_guard' rfl rfl rfl) (beq_ff h4)) ?_
            refine sx_rd' (rd_load' (i := 0) (o := 4) rfl ⟨rfl, rfl, rfl, rfl⟩ rfl flat23) rfl rfl (wt_is' (wt_guard' rfl rfl rfl) (beq_ff h4)) ?_
            refine sx_rd' (rd_field' (off := 4) rfl Try.underlying27 rfl info23 rfl) rfl rfl (wt_is' (wt_guard' rfl rfl rfl) (beq_ff h4)) ?_
            refine sx_rd' (rd_load' (i := 1) (o := 4) rfl ⟨rfl, rfl, rfl, rfl⟩ rfl flat23) rfl rfl (wt_is' (wt_guard' rfl rfl rfl) (beq_ff h4)) ?_
            obtain ⟨r41, hr41, hp⟩ := bind_some hp
            refine sx_ox' (ox_calln' (ent_fn' Try.func46 isn46 rfl rfl) (spec_sameInts_sim _ hr41 : Go.Sx.Fn Try.prog 46 [(Sl (Ki .i64) a0_4), (Vl (.slice none 0 0))] [] (fun x : Unit => (Vl (.bool r41))) (fun x => [])) (Hn := fun x : Unit => [⟨.pointer (some q2), [(Vl (.int .i64 a0_0)), (Vl (.int .i64 a0_1)), (Vl (.int .i64 a0_2)), (Sl Kf a0_3), (Sl (Ki .i64) a0_4), (Vl (.slice none 0 0)), (Vl (.slice none 0 0))], 27, none⟩, ⟨.pointer (some q3), [(Vl (.int .i64 a1_0)), (Vl (.int .i64 a1_1)), (Vl (.int .i64 a1_2)), (Sl Kf a1_3), (Vl (.slice none 0 0)), (Vl (.slice none 0 0)), (Vl (.slice none 0 0))], 27, none⟩]) (fun _ => rfl) rfl rfl) (wt_is' (wt_guard' rfl rfl rfl) (beq_ff h4)) fun ⟨⟩ => ?_
            refine sx_rd' (rd_un' rfl ru_not) rfl rfl (wt_is' (wt_guard' rfl rfl rfl) (beq_ff h4)) ?_
            refine sx_rd' (rd_pick_false' rfl h4 rfl) rfl rfl (wt_none' rfl) ?_
            refine sx_nil' ?_
            show TX E K7 _
            exact tx_pick' [0, 1] (sub_cons rfl (sub_cons rfl (sub_cons rfl sub_nil))) (by decide) (pick_cons rfl (pick_cons rfl pick_nil)) (hK7 (!r41) hp)
      · intro K6 hK6
        rcases br_cases hp with ⟨h3, hp⟩ | ⟨h3, hp⟩
        · refine sx_skip' rfl rfl (wt_is' (wt_guard' rfl rfl rfl) (beq_tf h3)) ?_
          refine sx_skip' rfl rfl (wt_is' (wt_guard' rfl rfl rfl) (beq_tf h3)) ?_
          refine sx_skip' rfl rfl (wt_is' (wt_guard' rfl rfl rfl) (beq_tf h3)) ?_
          refine sx_skip' rfl rfl (wt_is' (wt_guard' rfl rfl rfl) (beq_tf h3)) ?_
          refine sx_skip' rfl rfl (wt_is' (wt_guard' rfl rfl rfl) (beq_tf h3)) ?_
          refine sx_skip' rfl rfl (wt_is' (wt_guard' rfl rfl rfl) (beq_tf h3)) ?_
          refine sx_rd' (rd_pick_true' rfl h3 rfl) rfl rfl (wt_none' rfl) ?_
          refine sx_nil' ?_
          show TX E K6 _
          exact tx_pick' [0, 1] (sub_cons rfl (sub_cons rfl (sub_cons rfl sub_nil))) (by decide) (pick_cons rfl (pick_cons rfl pick_nil)) (hK6 true hp)
        · refine sx_rd' (rd_field' (off := 3) rfl Try.underlying27 rfl info22 rfl) rfl rfl (wt_is' (wt_guard' rfl rfl rfl) (beq_ff h3)) ?_
          refine sx_rd' (rd_load' (i := 0) (o := 3) rfl ⟨rfl, rfl, rfl, rfl⟩ rfl flat22) rfl rfl (wt_is' (wt_guard' rfl rfl rfl) (beq_ff h3)) ?_
          refine sx_rd' (rd_field' (off := 3) rfl Try.underlying27 rfl info22 rfl) rfl rfl (wt_is' (wt_guard' rfl rfl rfl) (beq_ff h3)) ?_
          refine sx_rd' (rd_load' (i := 1) (o := 3) rfl ⟨rfl, rfl, rfl, rfl⟩ rfl flat22) rfl rfl (wt_is' (wt_guard' rfl rfl rfl) (beq_ff h3)) ?_
          obtain ⟨r33, hr33, hp⟩ := bind_some hp
          refine sx_ox' (ox_calln' (ent_fn' Try.func45 isn45 rfl rfl) (spec_SameFloats_sim _ _ hr33 : Go.Sx.Fn Try.prog 45 [(Sl Kf a0_3), (Sl Kf a1_3)] [] (fun x : Unit => (Vl (.bool r33))) (fun x => [])) (Hn := fun x : Unit => [⟨.pointer (some q2), [(Vl (.int .i64 a0_0)), (Vl (.int .i64 a0_1)), (Vl (.int .i64 a0_2)), (Sl Kf a0_3), (Sl (Ki .i64) a0_4), (Vl (.slice none 0 0)), (Vl (.slice none 0 0))], 27, none⟩, ⟨.pointer (some q3), [(Vl (.int .i64 a1_0)), (Vl (.int .i64 a1_1)), (Vl (.int .i64 a1_2)), (Sl Kf a1_3), (Vl (.slice none 0 0)), (Vl (.slice none 0 0)), (Vl (.slice none 0 0))], 27, none⟩]) (fun _ => rfl) rfl rfl) (wt_is' (wt_guard' rfl rfl rfl) (beq_ff h3)) fun ⟨⟩ => ?_
          refine sx_rd' (rd_un' rfl ru_not) rfl rfl (wt_is' (wt_guard' rfl rfl rfl) (beq_ff h3)) ?_
          refine sx_rd' (rd_pick_false' rfl h3 rfl) rfl rfl (wt_none' rfl) ?_
          refine sx_nil' ?_
          show TX E K6 _
          exact tx_pick' [0, 1] (sub_cons rfl (sub_cons rfl (sub_cons rfl sub_nil))) (by decide) (pick_cons rfl (pick_cons rfl pick_nil)) (hK6 (!r33) hp)
    · intro K5 hK5
      rcases br_cases hp with ⟨h2, hp⟩ | ⟨h2, hp⟩
      · refine sx_skip' rfl rfl (wt_is' (wt_guard' rfl rfl rfl) (beq_tf h2)) ?_
        refine sx_skip' rfl rfl (wt_is' (wt_guard' rfl rfl rfl) (beq_tf h2)) ?_
        refine sx_skip' rfl rfl (wt_is' (wt_guard' rfl rfl rfl) (beq_tf h2)) ?_
        refine sx_skip' rfl rfl (wt_is' (wt_guard' rfl rfl rfl) (beq_tf h2)) ?_
        refine sx_skip' rfl rfl (wt_is' (wt_guard' rfl rfl rfl) (beq_tf h2)) ?_
        refine sx_rd' (rd_pick_true' rfl h2 rfl) rfl rfl (wt_none' rfl) ?_
        refine sx_nil' ?_
        show TX E K5 _
        exact tx_pick' [0, 1] (sub_cons rfl (sub_cons rfl (sub_cons rfl sub_nil))) (by decide) (pick_cons rfl (pick_cons rfl pick_nil)) (hK5 true hp)
      · refine sx_rd' (rd_field' (off := 2) rfl Try.underlying27 rfl info3 rfl) rfl rfl (wt_is' (wt_guard' rfl rfl rfl) (beq_ff h2)) ?_
        refine sx_rd' (rd_load' (i := 0) (o := 2) rfl ⟨rfl, rfl, rfl, rfl⟩ rfl flat3) rfl rfl (wt_is' (wt_guard' rfl rfl rfl) (beq_ff h2)) ?_
        refine sx_rd' (rd_field' (off := 2) rfl Try.underlying27 rfl info3 rfl) rfl rfl (wt_is' (wt_guard' rfl rfl rfl) (beq_ff h2)) ?_
        refine sx_rd' (rd_load' (i := 1) (o := 2) rfl ⟨rfl, rfl, rfl, rfl⟩ rfl flat3) rfl rfl (wt_is' (wt_guard' rfl rfl rfl) (beq_ff h2)) ?_
        refine sx_rd' (rd_bin' rfl rfl eg_int ru_neq) rfl rfl (wt_is' (wt_guard' rfl rfl rfl) (beq_ff h2)) ?_
        refine sx_rd' (rd_pick_false' rfl h2 rfl) rfl rfl (wt_none' rfl) ?_
        refine sx_nil' ?_
        show TX E K5 _
        exact tx_pick' [0, 1] (sub_cons rfl (sub_cons rfl (sub_cons rfl sub_nil))) (by decide) (pick_cons rfl (pick_cons rfl pick_nil)) (hK5 (!decide (a0_2 = a1_2)) hp)
  · intro K4 hK4
    rcases br_cases hp with ⟨h1, hp⟩ | ⟨h1, hp⟩
    · refine sx_skip' rfl rfl (wt_is' (wt_guard' rfl rfl rfl) (beq_tf h1)) ?_
      refine sx_skip' rfl rfl (wt_is' (wt_guard' rfl rfl rfl) (beq_tf h1)) ?_
      refine sx_skip' rfl rfl (wt_is' (wt_guard' rfl rfl rfl) (beq_tf h1)) ?_
      refine sx_skip' rfl rfl (wt_is' (wt_guard' rfl rfl rfl) (beq_tf h1)) ?_
      refine sx_skip' rfl rfl (wt_is' (wt_guard' rfl rfl rfl) (beq_tf h1)) ?_
      refine sx_rd' (rd_pick_true' rfl h1 rfl) rfl rfl (wt_none' rfl) ?_
      refine sx_nil' ?_
      show TX E K4 _
      exact tx_pick' [1, 0] (sub_cons rfl (sub_cons rfl (sub_cons rfl sub_nil))) (by decide) (pick_cons rfl (pick_cons rfl pick_nil)) (hK4 true hp)
    · refine sx_rd' (rd_field' (off := 1) rfl Try.underlying27 rfl info3 rfl) rfl rfl (wt_is' (wt_guard' rfl rfl rfl) (beq_ff h1)) ?_
      refine sx_rd' (rd_load' (i := 1) (o := 1) rfl ⟨rfl, rfl, rfl, rfl⟩ rfl flat3) rfl rfl (wt_is' (wt_guard' rfl rfl rfl) (beq_ff h1)) ?_
      refine sx_rd' (rd_field' (off := 1) rfl Try.underlying27 rfl info3 rfl) rfl rfl (wt_is' (wt_guard' rfl rfl rfl) (beq_ff h1)) ?_
      refine sx_rd' (rd_load' (i := 0) (o := 1) rfl ⟨rfl, rfl, rfl, rfl⟩ rfl flat3) rfl rfl (wt_is' (wt_guard' rfl rfl rfl) (beq_ff h1)) ?_
      refine sx_rd' (rd_bin' rfl rfl eg_int ru_neq) rfl rfl (wt_is' (wt_guard' rfl rfl rfl) (beq_ff h1)) ?_
      refine sx_rd' (rd_pick_false' rfl h1 rfl) rfl rfl (wt_none' rfl) ?_
      refine sx_nil' ?_
      show TX E K4 _
      exact tx_pick' [1, 0] (sub_cons rfl (sub_cons rfl (sub_cons rfl sub_nil))) (by decide) (pick_cons rfl (pick_cons rfl pick_nil)) (hK4 (!decide (a0_1 = a1_1)) hp)

def laws_FnSetPoint_j5 (k : Nat) (x5 : Bool) : Option (Bool) :=
  some x5
def laws_FnSetPoint_j4 (k : Nat) (x4 : Bool) : Option (Bool) :=
  laws_FnSetPoint_j5 k x4
def laws_FnSetPoint_j3 (k : Nat) (r26 : Int × Int × Int × (List Nat) × (List Int) × Bool) (a0 : Int) (a1 : List Nat) (x3 : Bool) : Option (Bool) :=
  br x3
    (br (!r26.2.2.2.2.2)
      (laws_FnSetPoint_j4 k true)
      ((spec_SameGeom k r26.1 r26.2.1 r26.2.2.1 r26.2.2.2.1 r26.2.2.2.2.1 1 a0 0 a1) >>= fun r52 =>
      laws_FnSetPoint_j4 k r52))
    (laws_FnSetPoint_j5 k false)
def laws_FnSetPoint_j2 (k : Nat) (a0 : Int) (a1 : List Nat) (x2 : Bool) : Option (Bool) :=
  br x2
    (some true)
    ((impl_SetPoint k a0 a1) >>= fun r26 =>
    (impl_SetPoint_v2 k 1 ([4607182418800017408, 4611686018427387904])) >>= fun r31 =>
    br r31.2.2.2.2.2
      ((spec_Stride k a0) >>= fun r40 =>
      laws_FnSetPoint_j3 k r26 a0 a1 (r26.2.2.2.2.2 == (decide ((a1.length : Int) = r40))))
      (laws_FnSetPoint_j3 k r26 a0 a1 false))
def laws_FnSetPoint_j1 (k : Nat) (a0 : Int) (a1 : List Nat) (x1 : Bool) : Option (Bool) :=
  br x1
    (laws_FnSetPoint_j2 k a0 a1 true)
    (laws_FnSetPoint_j2 k a0 a1 (decide (20 < (a1.length : Int))))
def laws_FnSetPoint (k : Nat) (a0 : Int) (a1 : List Nat) : Option (Bool) :=
  br (decide (2147483647 < (a1.length : Int)))
    (some true)
    (br (decide (a0 < 1))
      (laws_FnSetPoint_j1 k a0 a1 true)
      (laws_FnSetPoint_j1 k a0 a1 (decide (9 < a0))))

theorem laws_FnSetPoint_sim {k : Nat}  (a0 : Int) (a1 : List Nat) {out : Bool} (hp : laws_FnSetPoint k a0 a1 = some out) : Go.Sx.Fn Try.prog 3 [(Vl (.int .i64 a0)), (Sl Kf a1)] [] (fun w : Unit => (Vl (.bool out))) (fun w => []) := by
  unfold laws_FnSetPoint at hp
  refine fn_of Try.func3 rfl Try.ntmps3 rfl fun E hM => ?_
  refine cx_seq' fun K1 hK1 => ?_
  refine cx_region' ?_
  refine sx_rd' (rd_assign' rfl) rfl rfl (wt_none' rfl) ?_
  refine sx_nil' ?_
  show TX E K1 _
  refine tx_k' hK1 ?_
  refine cx_seq' fun K2 hK2 => ?_
  refine cx_seq' fun K3 hK3 => ?_
  refine cx_region' ?_
  refine sx_rd' (rd_move' rfl) rfl rfl (wt_none' rfl) ?_
  refine sx_rd' (rd_len' rfl Try.underlying22) rfl rfl (wt_none' rfl) ?_
  refine sx_rd' (rd_bin' rfl rfl eg_int ru_gtr) rfl rfl (wt_none' rfl) ?_
  refine sx_nil' ?_
  show TX E K3 _
  refine tx_k' hK3 ?_
  refine cx_cond' rfl (fun h1 => ?_) (fun h1 => ?_)
  · replace hp := (br_t h1).symm.trans hp
    refine cx_seq' fun K4 hK4 => ?_
    refine cx_region' ?_
    refine sx_rd' (rd_assign' rfl) rfl rfl (wt_none' rfl) ?_
    refine sx_nil' ?_
    show TX E K4 _
    refine tx_k' hK4 ?_
    refine cx_retc' ?_
    replace hp := Option.some.inj hp
    subst hp
    refine tx_pick' (L' := [(4, (Vl (.bool true)))]) (H' := []) [] (sub_cons rfl sub_nil) (by decide) pick_nil ?_
    exact tx_ret1' Try.results3 rfl () (rv_tmp' rfl) (List.Sublist.refl _)
  · replace hp := (br_f h1).symm.trans hp
    refine cx_skip' ?_
    show TX E K2 _
    refine tx_k' hK2 ?_
    refine cx_seq' fun K5 hK5 => ?_
    refine cx_seq' fun K6 hK6 => ?_
    refine cx_region' ?_
    refine sx_rd' (rd_move' rfl) rfl rfl (wt_none' rfl) ?_
    refine sx_rd' (rd_bin' rfl rfl eg_int ru_lss) rfl rfl (wt_none' rfl) ?_
    refine sx_rd' (rd_move' rfl) rfl rfl (wt_none' rfl) ?_
    refine sx_cutn' 3 (fun (v1 : Bool) => (⟨55, [], [(0, (Vl (.int .i64 a0))), (1, (Sl Kf a1)), (17, (Vl (.bool v1)))], []⟩ : St)) (fun (v1 : Bool) => laws_FnSetPoint_j1 k a0 a1 v1 = some out) ?_ ?_
    · rintro x1 hp
      replace hp : laws_FnSetPoint_j1 k a0 a1 x1 = some out := hp
      unfold laws_FnSetPoint_j1 at hp
      refine sx_rd' (rd_move' rfl) rfl rfl (wt_none' rfl) ?_
      refine sx_cutn' 4 (fun (v2 : Bool) => (⟨55, [], [(0, (Vl (.int .i64 a0))), (1, (Sl Kf a1)), (22, (Vl (.bool v2)))], []⟩ : St)) (fun (v2 : Bool) => laws_FnSetPoint_j2 k a0 a1 v2 = some out) ?_ ?_
      · rintro x2 hp
        replace hp : laws_FnSetPoint_j2 k a0 a1 x2 = some out := hp
        unfold laws_FnSetPoint_j2 at hp
        refine sx_nil' ?_
        show TX E K6 _
        refine tx_k' hK6 ?_
        refine cx_cond' rfl (fun h4 => ?_) (fun h4 => ?_)
        · replace hp := (br_t h4).symm.trans hp
          refine cx_seq' fun K9 hK9 => ?_
          refine cx_region' ?_
          refine sx_rd' (rd_assign' rfl) rfl rfl (wt_none' rfl) ?_
          refine sx_nil' ?_
          show TX E K9 _
          refine tx_k' hK9 ?_
          refine cx_retc' ?_
          replace hp := Option.some.inj hp
          subst hp
          refine tx_pick' (L' := [(4, (Vl (.bool true)))]) (H' := []) [] (sub_cons rfl sub_nil) (by decide) pick_nil ?_
          exact tx_ret1' Try.results3 rfl () (rv_tmp' rfl) (List.Sublist.refl _)
        · replace hp := (br_f h4).symm.trans hp
          refine cx_skip' ?_
          show TX E K5 _
          refine tx_k' hK5 ?_
          refine cx_seq' fun K10 hK10 => ?_
          refine cx_region' ?_
          refine sx_rd' (rd_move' rfl) rfl rfl (wt_none' rfl) ?_
          refine sx_rd' (rd_move' rfl) rfl rfl (wt_none' rfl) ?_
          obtain ⟨r26, hr26, hp⟩ := bind_some hp
          refine sx_ox' (ox_calln' (ent_fn' Try.func11 isn11 rfl rfl) (impl_SetPoint_sim _ _ hr26 : Go.Sx.Fn Try.prog 11 [(Vl (.int .i64 a0)), (Sl Kf a1)] [] (fun x : Unit => (Tu [(Ag [(Vl (.int .i64 r26.1)), (Vl (.int .i64 r26.2.1)), (Vl (.int .i64 r26.2.2.1)), (Sl Kf r26.2.2.2.1), (Sl (Ki .i64) r26.2.2.2.2.1), (Vl (.slice none 0 0)), (Vl (.slice none 0 0))]), (Vl (.bool r26.2.2.2.2.2))])) (fun x => [])) (Hn := fun x : Unit => []) (fun _ => rfl) rfl rfl) (wt_none' rfl) fun ⟨⟩ => ?_
          refine sx_rd' (rd_move' rfl) rfl rfl (wt_none' rfl) ?_
          refine sx_rd' (rd_extract' rfl rfl) rfl rfl (wt_none' rfl) ?_
          refine sx_rd' (rd_extract' rfl rfl) rfl rfl (wt_none' rfl) ?_
          refine sx_ox' (ox_alloc' info27 rfl rfl rfl rfl (l := [(Vl (.int .i64 0)), (Vl (.int .i64 0)), (Vl (.int .i64 0)), (Vl (.slice none 0 0)), (Vl (.slice none 0 0)), (Vl (.slice none 0 0)), (Vl (.slice none 0 0))]) rfl) (wt_none' rfl) fun q5 => ?_
          refine sx_ox' (ox_store' (i := 0) (o := 0) rfl rfl (lv_ag _) ⟨rfl, rfl, rfl, rfl⟩ rfl info27 rfl (H' := [⟨.pointer (some q5), [(Vl (.int .i64 r26.1)), (Vl (.int .i64 r26.2.1)), (Vl (.int .i64 r26.2.2.1)), (Sl Kf r26.2.2.2.1), (Sl (Ki .i64) r26.2.2.2.2.1), (Vl (.slice none 0 0)), (Vl (.slice none 0 0))], 27, none⟩]) rfl) (wt_none' rfl) fun _ => ?_
          refine sx_rd' (rd_assign' rfl) rfl rfl (wt_none' rfl) ?_
          refine sx_nil' ?_
          show TX E K10 _
          refine tx_k' hK10 ?_
          refine cx_seq' fun K11 hK11 => ?_
          refine cx_region' ?_
          refine sx_ox' (ox_rowlit' (K := Kf) (xs := [4607182418800017408, 4611686018427387904]) (qs := [(0, [(Vl (.float .f64 4607182418800017408))]), (1, [(Vl (.float .f64 4611686018427387904))])]) ⟨rfl, ⟨_, rfl, (lv_vl rfl rfl)⟩, ⟨rfl, ⟨_, rfl, (lv_vl rfl rfl)⟩, trivial⟩⟩ Try.underlying22 info30 rfl rfl rfl rfl rfl (by kernel_rfl) rfl rfl rfl) (wt_none' rfl) fun g30 => ?_
          obtain ⟨r31, hr31, hp⟩ := bind_some hp
          refine sx_ox' (ox_callg' (ent_fn' Try.func11 isn11 rfl rfl) (impl_SetPoint_v2_sim _ _ hr31 : Go.Sx.Fn Try.prog 11 [(Vl (.int .i64 1)), (Vl (Vs g30))] [(Rw Kf 30 (Vs g30) ([4607182418800017408, 4611686018427387904]))] (fun x : Unit => (Tu [(Ag [(Vl (.int .i64 r31.1)), (Vl (.int .i64 r31.2.1)), (Vl (.int .i64 r31.2.2.1)), (Sl Kf r31.2.2.2.1), (Sl (Ki .i64) r31.2.2.2.2.1), (Vl (.slice none 0 0)), (Vl (.slice none 0 0))]), (Vl (.bool r31.2.2.2.2.2))])) (fun x => [])) [0] [1] (by decide) (pick_cons rfl pick_nil) (pick_cons rfl pick_nil) (Hn := fun x : Unit => [⟨.pointer (some q5), [(Vl (.int .i64 r26.1)), (Vl (.int .i64 r26.2.1)), (Vl (.int .i64 r26.2.2.1)), (Sl Kf r26.2.2.2.1), (Sl (Ki .i64) r26.2.2.2.2.1), (Vl (.slice none 0 0)), (Vl (.slice none 0 0))], 27, none⟩]) (fun _ => rfl) rfl rfl) (wt_none' rfl) fun ⟨⟩ => ?_
          refine sx_rd' (rd_move' rfl) rfl rfl (wt_none' rfl) ?_
          refine sx_rd' (rd_extract' rfl rfl) rfl rfl (wt_none' rfl) ?_
          refine sx_rd' (rd_extract' rfl rfl) rfl rfl (wt_none' rfl) ?_
          refine sx_ox' (ox_alloc' info27 rfl rfl rfl rfl (l := [(Vl (.int .i64 0)), (Vl (.int .i64 0)), (Vl (.int .i64 0)), (Vl (.slice none 0 0)), (Vl (.slice none 0 0)), (Vl (.slice none 0 0)), (Vl (.slice none 0 0))]) rfl) (wt_none' rfl) fun q7 => ?_
          refine sx_ox' (ox_store' (i := 0) (o := 0) rfl rfl (lv_ag _) ⟨rfl, rfl, rfl, rfl⟩ rfl info27 rfl (H' := [⟨.pointer (some q7), [(Vl (.int .i64 r31.1)), (Vl (.int .i64 r31.2.1)), (Vl (.int .i64 r31.2.2.1)), (Sl Kf r31.2.2.2.1), (Sl (Ki .i64) r31.2.2.2.2.1), (Vl (.slice none 0 0)), (Vl (.slice none 0 0))], 27, none⟩, ⟨.pointer (some q5), [(Vl (.int .i64 r26.1)), (Vl (.int .i64 r26.2.1)), (Vl (.int .i64 r26.2.2.1)), (Sl Kf r26.2.2.2.1), (Sl (Ki .i64) r26.2.2.2.2.1), (Vl (.slice none 0 0)), (Vl (.slice none 0 0))], 27, none⟩]) rfl) (wt_none' rfl) fun _ => ?_
          refine sx_rd' (rd_assign' rfl) rfl rfl (wt_none' rfl) ?_
          refine sx_nil' ?_
          show TX E K11 _
          refine tx_k' hK11 ?_
          refine cx_seq' fun K12 hK12 => ?_
          refine cx_region' ?_
          refine sx_rd' (rd_move' rfl) rfl rfl (wt_none' rfl) ?_
          refine sx_rd' (rd_move' rfl) rfl rfl (wt_none' rfl) ?_
          refine sx_cutn' 8 (fun (v3 : Bool) => (⟨55, [], [(0, (Vl (.int .i64 a0))), (1, (Sl Kf a1)), (5, (Vl (.pointer (some q5)))), (6, (Vl (.bool r26.2.2.2.2.2))), (43, (Vl (.bool v3)))], [⟨.pointer (some q5), [(Vl (.int .i64 r26.1)), (Vl (.int .i64 r26.2.1)), (Vl (.int .i64 r26.2.2.1)), (Sl Kf r26.2.2.2.1), (Sl (Ki .i64) r26.2.2.2.2.1), (Vl (.slice none 0 0)), (Vl (.slice none 0 0))], 27, none⟩]⟩ : St)) (fun (v3 : Bool) => laws_FnSetPoint_j3 k r26 a0 a1 v3 = some out) ?_ ?_
          · rintro x3 hp
            replace hp : laws_FnSetPoint_j3 k r26 a0 a1 x3 = some out := hp
            unfold laws_FnSetPoint_j3 at hp
            refine sx_rd' (rd_move' rfl) rfl rfl (wt_none' rfl) ?_
            refine sx_cutn' 10 (fun (v5 : Bool) => (⟨55, [], [(54, (Vl (.bool v5)))], []⟩ : St)) (fun (v5 : Bool) => laws_FnSetPoint_j5 k v5 = some out) ?_ ?_
            · rintro x5 hp
              replace hp : laws_FnSetPoint_j5 k x5 = some out := hp
              unfold laws_FnSetPoint_j5 at hp
              refine sx_rd' (rd_assign' rfl) rfl rfl (wt_none' rfl) ?_
              refine sx_nil' ?_
              show TX E K12 _
              refine tx_k' hK12 ?_
              refine cx_retc' ?_
              replace hp := Option.some.inj hp
              subst hp
              refine tx_pick' (L' := [(4, (Vl (.bool x5)))]) (H' := []) [] (sub_cons rfl sub_nil) (by decide) pick_nil ?_
              exact tx_ret1' Try.results3 rfl () (rv_tmp' rfl) (List.Sublist.refl _)
            · intro K15 hK15
              rcases br_cases hp with ⟨h6, hp⟩ | ⟨h6, hp⟩
              · refine sx_rd' (rd_move' rfl) rfl rfl (wt_is' (wt_guard' rfl rfl rfl) (beq_tt h6)) ?_
                refine sx_rd' (rd_un' rfl ru_not) rfl rfl (wt_is' (wt_guard' rfl rfl rfl) (beq_tt h6)) ?_
                refine sx_rd' (rd_move' rfl) rfl rfl (wt_is' (wt_guard' rfl rfl rfl) (beq_tt h6)) ?_
                refine sx_cutn' 7 (fun (v4 : Bool) => (⟨55, [], [(54, (Vl (.bool v4)))], []⟩ : St)) (fun (v4 : Bool) => laws_FnSetPoint_j4 k v4 = some out) ?_ ?_
                · rintro x4 hp
                  replace hp : laws_FnSetPoint_j4 k x4 = some out := hp
                  unfold laws_FnSetPoint_j4 at hp
                  refine sx_nil' ?_
                  show TX E K15 _
                  exact tx_pick' [] (sub_cons rfl sub_nil) (by decide) pick_nil (hK15 x4 hp)
                · intro K14 hK14
                  rcases br_cases hp with ⟨h7, hp⟩ | ⟨h7, hp⟩
                  · refine sx_skip' rfl rfl (wt_is' (wt_guard' rfl rfl rfl) (beq_tf h7)) ?_
                    refine sx_skip' rfl rfl (wt_is' (wt_guard' rfl rfl rfl) (beq_tf h7)) ?_
                    refine sx_skip' rfl rfl (wt_is' (wt_guard' rfl rfl rfl) (beq_tf h7)) ?_
                    refine sx_skip' rfl rfl (wt_is' (wt_guard' rfl rfl rfl) (beq_tf h7)) ?_
                    refine sx_skip' rfl rfl (wt_is' (wt_guard' rfl rfl rfl) (beq_tf h7)) ?_
                    refine sx_rd' (rd_pick_true' rfl h7 rfl) rfl rfl (wt_is' (wt_guard' rfl rfl rfl) (beq_tt h6)) ?_
                    refine sx_rd' (rd_pick_true' rfl h6 rfl) rfl rfl (wt_none' rfl) ?_
                    refine sx_nil' ?_
                    show TX E K14 _
                    exact tx_pick' [] (sub_cons rfl sub_nil) (by decide) pick_nil (hK14 true hp)
                  · refine sx_rd' (rd_load_agg' (i := 0) (o := 0) (nn := 7) rfl ⟨rfl, rfl, rfl, rfl⟩ rfl agg27 (l' := [(Vl (.int .i64 r26.1)), (Vl (.int .i64 r26.2.1)), (Vl (.int .i64 r26.2.2.1)), (Sl Kf r26.2.2.2.1), (Sl (Ki .i64) r26.2.2.2.2.1), (Vl (.slice none 0 0)), (Vl (.slice none 0 0))]) rfl) rfl rfl (wt_is' (wt_guard' rfl rfl rfl) (beq_ff h7)) ?_
                    refine sx_rd' (rd_move' rfl) rfl rfl (wt_is' (wt_guard' rfl rfl rfl) (beq_ff h7)) ?_
                    refine sx_rd' (rd_move' rfl) rfl rfl (wt_is' (wt_guard' rfl rfl rfl) (beq_ff h7)) ?_
                    refine sx_rd' (rd_build' (pls := [(0, 1), (1, 1), (2, 1), (3, 1), (4, 1), (5, 1), (6, 1)]) (qs := [(0, [(Vl (.int .i64 1))]), (1, [(Vl (.int .i64 a0))]), (3, [(Sl Kf a1)])]) (r := [(Vl (.int .i64 1)), (Vl (.int .i64 a0)), (Vl (.int .i64 0)), (Sl Kf a1), (Vl (.slice none 0 0)), (Vl (.slice none 0 0)), (Vl (.slice none 0 0))]) ⟨rfl, ⟨_, rfl, (lv_vl rfl rfl)⟩, ⟨rfl, ⟨_, rfl, (lv_vl rfl rfl)⟩, ⟨rfl, ⟨_, rfl, (lv_sl _ _)⟩, trivial⟩⟩⟩ Try.underlying27 has27 places27 info27 rfl rfl rfl) rfl rfl (wt_is' (wt_guard' rfl rfl rfl) (beq_ff h7)) ?_
                    obtain ⟨r52, hr52, hp⟩ := bind_some hp
                    refine sx_ox' (ox_calln' (ent_fn' Try.func13 isn13 rfl rfl) (spec_SameGeom_sim _ _ _ _ _ _ _ _ _ hr52 : Go.Sx.Fn Try.prog 13 [(Ag [(Vl (.int .i64 r26.1)), (Vl (.int .i64 r26.2.1)), (Vl (.int .i64 r26.2.2.1)), (Sl Kf r26.2.2.2.1), (Sl (Ki .i64) r26.2.2.2.2.1), (Vl (.slice none 0 0)), (Vl (.slice none 0 0))]), (Ag [(Vl (.int .i64 1)), (Vl (.int .i64 a0)), (Vl (.int .i64 0)), (Sl Kf a1), (Vl (.slice none 0 0)), (Vl (.slice none 0 0)), (Vl (.slice none 0 0))])] [] (fun x : Unit => (Vl (.bool r52))) (fun x => [])) (Hn := fun x : Unit => [⟨.pointer (some q5), [(Vl (.int .i64 r26.1)), (Vl (.int .i64 r26.2.1)), (Vl (.int .i64 r26.2.2.1)), (Sl Kf r26.2.2.2.1), (Sl (Ki .i64) r26.2.2.2.2.1), (Vl (.slice none 0 0)), (Vl (.slice none 0 0))], 27, none⟩]) (fun _ => rfl) rfl rfl) (wt_is' (wt_guard' rfl rfl rfl) (beq_ff h7)) fun ⟨⟩ => ?_
                    refine sx_rd' (rd_pick_false' rfl h7 rfl) rfl rfl (wt_is' (wt_guard' rfl rfl rfl) (beq_tt h6)) ?_
                    refine sx_rd' (rd_pick_true' rfl h6 rfl) rfl rfl (wt_none' rfl) ?_
                    refine sx_nil' ?_
                    show TX E K14 _
                    exact tx_pick' [] (sub_cons rfl sub_nil) (by decide) pick_nil (hK14 r52 hp)
              · refine sx_skip' rfl rfl (wt_is' (wt_guard' rfl rfl rfl) (beq_ft h6)) ?_
                refine sx_skip' rfl rfl (wt_is' (wt_guard' rfl rfl rfl) (beq_ft h6)) ?_
                refine sx_skip' rfl rfl (wt_is' (wt_guard' rfl rfl rfl) (beq_ft h6)) ?_
                refine sx_skip' rfl rfl (wt_undef' rfl rfl rfl) ?_
                refine sx_skip' rfl rfl (wt_undef' rfl rfl rfl) ?_
                refine sx_skip' rfl rfl (wt_undef' rfl rfl rfl) ?_
                refine sx_skip' rfl rfl (wt_undef' rfl rfl rfl) ?_
                refine sx_skip' rfl rfl (wt_undef' rfl rfl rfl) ?_
                refine sx_skip' rfl rfl (wt_is' (wt_guard' rfl rfl rfl) (beq_ft h6)) ?_
                refine sx_rd' (rd_pick_false' rfl h6 rfl) rfl rfl (wt_none' rfl) ?_
                refine sx_nil' ?_
                show TX E K15 _
                exact tx_pick' [] (sub_cons rfl sub_nil) (by decide) pick_nil (hK15 false hp)
          · intro K13 hK13
            rcases br_cases hp with ⟨h5, hp⟩ | ⟨h5, hp⟩
            · refine sx_rd' (rd_move' rfl) rfl rfl (wt_is' (wt_guard' rfl rfl rfl) (beq_tt h5)) ?_
              refine sx_rd' (rd_move' rfl) rfl rfl (wt_is' (wt_guard' rfl rfl rfl) (beq_tt h5)) ?_
              refine sx_rd' (rd_len' rfl Try.underlying22) rfl rfl (wt_is' (wt_guard' rfl rfl rfl) (beq_tt h5)) ?_
              refine sx_rd' (rd_move' rfl) rfl rfl (wt_is' (wt_guard' rfl rfl rfl) (beq_tt h5)) ?_
              obtain ⟨r40, hr40, hp⟩ := bind_some hp
              refine sx_ox' (ox_calln' (ent_fn' Try.func12 isn12 rfl rfl) (spec_Stride_sim _ hr40 : Go.Sx.Fn Try.prog 12 [(Vl (.int .i64 a0))] [] (fun x : Unit => (Vl (.int .i64 r40))) (fun x => [])) (Hn := fun x : Unit => [⟨.pointer (some q7), [(Vl (.int .i64 r31.1)), (Vl (.int .i64 r31.2.1)), (Vl (.int .i64 r31.2.2.1)), (Sl Kf r31.2.2.2.1), (Sl (Ki .i64) r31.2.2.2.2.1), (Vl (.slice none 0 0)), (Vl (.slice none 0 0))], 27, none⟩, ⟨.pointer (some q5), [(Vl (.int .i64 r26.1)), (Vl (.int .i64 r26.2.1)), (Vl (.int .i64 r26.2.2.1)), (Sl Kf r26.2.2.2.1), (Sl (Ki .i64) r26.2.2.2.2.1), (Vl (.slice none 0 0)), (Vl (.slice none 0 0))], 27, none⟩]) (fun _ => rfl) rfl rfl) (wt_is' (wt_guard' rfl rfl rfl) (beq_tt h5)) fun ⟨⟩ => ?_
              refine sx_rd' (rd_bin' rfl rfl eg_int ru_eql) rfl rfl (wt_is' (wt_guard' rfl rfl rfl) (beq_tt h5)) ?_
              refine sx_rd' (rd_bin' rfl rfl eg_bool (ru_beq Try.underlying4)) rfl rfl (wt_is' (wt_guard' rfl rfl rfl) (beq_tt h5)) ?_
              refine sx_rd' (rd_pick_true' rfl h5 rfl) rfl rfl (wt_none' rfl) ?_
              refine sx_nil' ?_
              show TX E K13 _
              exact tx_pick' [1] (sub_cons rfl (sub_cons rfl (sub_cons rfl (sub_cons rfl (sub_cons rfl sub_nil))))) (by decide) (pick_cons rfl pick_nil) (hK13 (r26.2.2.2.2.2 == (decide ((a1.length : Int) = r40))) hp)
            · refine sx_skip' rfl rfl (wt_is' (wt_guard' rfl rfl rfl) (beq_ft h5)) ?_
              refine sx_skip' rfl rfl (wt_is' (wt_guard' rfl rfl rfl) (beq_ft h5)) ?_
              refine sx_skip' rfl rfl (wt_is' (wt_guard' rfl rfl rfl) (beq_ft h5)) ?_
              refine sx_skip' rfl rfl (wt_is' (wt_guard' rfl rfl rfl) (beq_ft h5)) ?_
              refine sx_skip' rfl rfl (wt_is' (wt_guard' rfl rfl rfl) (beq_ft h5)) ?_
              refine sx_skip' rfl rfl (wt_is' (wt_guard' rfl rfl rfl) (beq_ft h5)) ?_
              refine sx_skip' rfl rfl (wt_is' (wt_guard' rfl rfl rfl) (beq_ft h5)) ?_
              refine sx_rd' (rd_pick_false' rfl h5 rfl) rfl rfl (wt_none' rfl) ?_
              refine sx_nil' ?_
              show TX E K13 _
              exact tx_pick' [1] (sub_cons rfl (sub_cons rfl (sub_cons rfl (sub_cons rfl (sub_cons rfl sub_nil))))) (by decide) (pick_cons rfl pick_nil) (hK13 false hp)
      · intro K8 hK8
        rcases br_cases hp with ⟨h3, hp⟩ | ⟨h3, hp⟩
        · refine sx_skip' rfl rfl (wt_is' (wt_guard' rfl rfl rfl) (beq_tf h3)) ?_
          refine sx_skip' rfl rfl (wt_is' (wt_guard' rfl rfl rfl) (beq_tf h3)) ?_
          refine sx_skip' rfl rfl (wt_is' (wt_guard' rfl rfl rfl) (beq_tf h3)) ?_
          refine sx_rd' (rd_pick_true' rfl h3 rfl) rfl rfl (wt_none' rfl) ?_
          refine sx_nil' ?_
          show TX E K8 _
          exact tx_pick' [] (sub_cons rfl (sub_cons rfl (sub_cons rfl sub_nil))) (by decide) pick_nil (hK8 true hp)
        · refine sx_rd' (rd_move' rfl) rfl rfl (wt_is' (wt_guard' rfl rfl rfl) (beq_ff h3)) ?_
          refine sx_rd' (rd_len' rfl Try.underlying22) rfl rfl (wt_is' (wt_guard' rfl rfl rfl) (beq_ff h3)) ?_
          refine sx_rd' (rd_bin' rfl rfl eg_int ru_gtr) rfl rfl (wt_is' (wt_guard' rfl rfl rfl) (beq_ff h3)) ?_
          refine sx_rd' (rd_pick_false' rfl h3 rfl) rfl rfl (wt_none' rfl) ?_
          refine sx_nil' ?_
          show TX E K8 _
          exact tx_pick' [] (sub_cons rfl (sub_cons rfl (sub_cons rfl sub_nil))) (by decide) pick_nil (hK8 (decide (20 < (a1.length : Int))) hp)
    · intro K7 hK7
      rcases br_cases hp with ⟨h2, hp⟩ | ⟨h2, hp⟩
      · refine sx_skip' rfl rfl (wt_is' (wt_guard' rfl rfl rfl) (beq_tf h2)) ?_
        refine sx_skip' rfl rfl (wt_is' (wt_guard' rfl rfl rfl) (beq_tf h2)) ?_
        refine sx_rd' (rd_pick_true' rfl h2 rfl) rfl rfl (wt_none' rfl) ?_
        refine sx_nil' ?_
        show TX E K7 _
        exact tx_pick' [] (sub_cons rfl (sub_cons rfl (sub_cons rfl sub_nil))) (by decide) pick_nil (hK7 true hp)
      · refine sx_rd' (rd_move' rfl) rfl rfl (wt_is' (wt_guard' rfl rfl rfl) (beq_ff h2)) ?_
        refine sx_rd' (rd_bin' rfl rfl eg_int ru_gtr) rfl rfl (wt_is' (wt_guard' rfl rfl rfl) (beq_ff h2)) ?_
        refine sx_rd' (rd_pick_false' rfl h2 rfl) rfl rfl (wt_none' rfl) ?_
        refine sx_nil' ?_
        show TX E K7 _
        exact tx_pick' [] (sub_cons rfl (sub_cons rfl (sub_cons rfl sub_nil))) (by decide) pick_nil (hK7 (decide (9 < a0)) hp)

end Go.Proofs.Ytohopkpjccpckaa
