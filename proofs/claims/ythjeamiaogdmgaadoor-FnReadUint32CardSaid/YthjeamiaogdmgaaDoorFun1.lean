/-
  Plain functions for the Go functions that this law reaches, and that each call does what its plain function says. Printed by a program of ours.
-/
import Derived.Test.YthjeamiaogdmgaaDoorProg
import Derived.Test.YthjeamiaogdmgaaDoorSxZ
namespace Go.Proofs.YthjeamiaogdmgaaDoor
open Go.Sx
set_option linter.unusedVariables false
set_option maxRecDepth 100000
set_option linter.unusedSectionVars false
class Ga where
  a : Nat → Addr
instance gaGv [Ga] : Gv := ⟨[(2, If 67 (Vl (.pointer (some (Ga.a 2))))), (3, If 67 (Vl (.pointer (some (Ga.a 3))))), (4, If 67 (Vl (.pointer (some (Ga.a 4)))))]⟩
variable [Ga]
theorem isn5 : (Tryd.f5.name == "runtime.NumGoroutine") = false := by kernel_rfl
theorem isn10 : (Tryd.f10.name == "runtime.NumGoroutine") = false := by kernel_rfl
theorem places50 : placesOf Tryd.prog [{ name := "buf", type := 22, offset := 0, embedded := false, tag := "", pkgPath := "bytes", byteOffset := 0 }, { name := "off", type := 3, offset := 1, embedded := false, tag := "", pkgPath := "bytes", byteOffset := 24 }, { name := "lastRead", type := 48, offset := 2, embedded := false, tag := "", pkgPath := "bytes", byteOffset := 32 }] = [(0, 1), (1, 1), (2, 1)] := by kernel_rfl
theorem has50 : ∀ f ∈ ([{ name := "buf", type := 22, offset := 0, embedded := false, tag := "", pkgPath := "bytes", byteOffset := 0 }, { name := "off", type := 3, offset := 1, embedded := false, tag := "", pkgPath := "bytes", byteOffset := 24 }, { name := "lastRead", type := 48, offset := 2, embedded := false, tag := "", pkgPath := "bytes", byteOffset := 32 }] : List Field), (Tryd.prog.info? f.type).isSome = true := fun f hf => all_of (p := fun f => (Tryd.prog.info? f.type).isSome) (by kernel_rfl) f hf
theorem info50 : (Tryd.prog.info? 50).map (fun i => (i.zero, i.size, i.bytes)) = some (some (.agg #[.slice none 0 0, .int .i64 0, .int .i8 0]), 3, 40) := by kernel_rfl
theorem isn12 : (Tryd.f12.name == "runtime.NumGoroutine") = false := by kernel_rfl
theorem info60 : (Tryd.prog.info? 60).map (fun i => (i.zero, i.size, i.bytes)) = some (some (.agg #[]), 0, 0) := by kernel_rfl
theorem agg60 : Agg Tryd.prog 60 0 := ⟨⟨_, Tryd.underlying60, .inl ⟨_, rfl⟩⟩, info_size info60⟩
theorem info61 : (Tryd.prog.info? 61).map (fun i => (i.zero, i.size, i.bytes)) = some (some (.agg #[]), 0, 0) := by kernel_rfl
theorem agg61 : Agg Tryd.prog 61 0 := ⟨⟨_, Tryd.underlying61, .inl ⟨_, rfl⟩⟩, info_size info61⟩
theorem isn11 : (Tryd.f11.name == "runtime.NumGoroutine") = false := by kernel_rfl
theorem info5 : (Tryd.prog.info? 5).map (fun i => (i.zero, i.size, i.bytes)) = some (some (.int .u8 0), 1, 1) := by kernel_rfl
theorem isn18 : (Tryd.f18.name == "runtime.NumGoroutine") = false := by kernel_rfl
theorem isn19 : (Tryd.f19.name == "runtime.NumGoroutine") = false := by kernel_rfl
theorem gm2 : ((2 : Nat), (If 67 (Vl (.pointer (some (Ga.a 2)))))) ∈ (Gv.l : List (Nat × SV)) := .head _
theorem flat35 : Flat Tryd.prog 35 := ⟨_, Tryd.underlying35, fun _ h => (nomatch h), fun _ _ h => (nomatch h)⟩
theorem mixed : Tryd.prog.follows .mixedOrders = true := by kernel_rfl
theorem nil_eql35_nilif : ∀ (w : World), (binOp .eql 35 .nilIface .nilIface).run Tryd.prog w = .ok (.bool true) w := fun _ => by kernel_rfl
theorem nla32_Read_ptr : ∀ (q : Addr) w, (nilAhead (Tryd.prog.types.size + Made.depth) 32 (.pointer (some q)) "Read").run Tryd.prog w = .ok (some false) w := fun _ _ => by kernel_rfl
theorem inv32_Read : ∀ (v : Value) (a : Value) w', (callMethod (.iface 32 v) "Read" #[a]).run Tryd.prog w' = .ok (.enter 35 #[v, a]) w' := fun _ _ _ => by kernel_rfl
theorem info48 : (Tryd.prog.info? 48).map (fun i => (i.zero, i.size, i.bytes)) = some (some (.int .i8 0), 1, 1) := by kernel_rfl
theorem isn39 : (Tryd.f39.name == "runtime.NumGoroutine") = false := by kernel_rfl
theorem info22 : (Tryd.prog.info? 22).map (fun i => (i.zero, i.size, i.bytes)) = some (some (.slice none 0 0), 1, 24) := by kernel_rfl
theorem flat22 : Flat Tryd.prog 22 := ⟨_, Tryd.underlying22, fun _ h => (nomatch h), fun _ _ h => (nomatch h)⟩
theorem info3 : (Tryd.prog.info? 3).map (fun i => (i.zero, i.size, i.bytes)) = some (some (.int .i64 0), 1, 8) := by kernel_rfl
theorem flat3 : Flat Tryd.prog 3 := ⟨_, Tryd.underlying3, fun _ h => (nomatch h), fun _ _ h => (nomatch h)⟩
theorem isn36 : (Tryd.f36.name == "runtime.NumGoroutine") = false := by kernel_rfl
theorem gm3 : ((3 : Nat), (If 67 (Vl (.pointer (some (Ga.a 3)))))) ∈ (Gv.l : List (Nat × SV)) := .tail _ (.head _)
theorem nil_eql35_if67 : ∀ (v : Value) (w : World), (binOp .eql 35 (.iface 67 v) .nilIface).run Tryd.prog w = .ok (.bool false) w := fun _ _ => by kernel_rfl
theorem cmp67 : (Tryd.prog.info? 67).map (·.comparable) = some true := by kernel_rfl
theorem is95 : (Tryd.prog.info? 95).isSome = true := by kernel_rfl
theorem gm4 : ((4 : Nat), (If 67 (Vl (.pointer (some (Ga.a 4)))))) ∈ (Gv.l : List (Nat × SV)) := .tail _ (.tail _ (.head _))
theorem nil_neq35_if67 : ∀ (v : Value) (w : World), (binOp .neq 35 (.iface 67 v) .nilIface).run Tryd.prog w = .ok (.bool true) w := fun _ _ => by kernel_rfl
theorem nil_neq35_nilif : ∀ (w : World), (binOp .neq 35 .nilIface .nilIface).run Tryd.prog w = .ok (.bool false) w := fun _ => by kernel_rfl
theorem nla60_Uint32_ag : ∀ (v : Value) w, (nilAhead (Tryd.prog.types.size + Made.depth) 60 v "Uint32").run Tryd.prog w = .ok (some false) w := fun _ _ => by kernel_rfl
theorem inv60_Uint32 : ∀ (v : Value) (a : Value) w', (callMethod (.iface 60 v) "Uint32" #[a]).run Tryd.prog w' = .ok (.enter 50 #[v, a]) w' := fun _ _ _ => by kernel_rfl
theorem flat5 : Flat Tryd.prog 5 := ⟨_, Tryd.underlying5, fun _ h => (nomatch h), fun _ _ h => (nomatch h)⟩
theorem info55 : (Tryd.prog.info? 55).map (fun i => (i.zero, i.size, i.bytes)) = some (some (.agg #[.int .u8 0, .int .u8 0, .int .u8 0, .int .u8 0]), 4, 4) := by kernel_rfl
theorem flat23 : Flat Tryd.prog 23 := ⟨_, Tryd.underlying23, fun _ h => (nomatch h), fun _ _ h => (nomatch h)⟩
theorem isn13 : (Tryd.f13.name == "runtime.NumGoroutine") = false := by kernel_rfl
theorem info4 : (Tryd.prog.info? 4).map (fun i => (i.zero, i.size, i.bytes)) = some (some (.bool false), 1, 1) := by kernel_rfl
theorem info23 : (Tryd.prog.info? 23).map (fun i => (i.zero, i.size, i.bytes)) = some (some (.int .u32 0), 1, 4) := by kernel_rfl
theorem idle9 : Idle Tryd.prog 9 3 := fun vs w hv => by
  obtain ⟨v0, v1, v2, rfl⟩ : ∃ v0 v1 v2, vs = [v0, v1, v2] := by
    obtain _ | ⟨v0, vs⟩ := vs
    · simp at hv
    obtain _ | ⟨v1, vs⟩ := vs
    · simp at hv
    obtain _ | ⟨v2, vs⟩ := vs
    · simp at hv
    obtain _ | ⟨u, vs⟩ := vs
    · exact ⟨v0, v1, v2, rfl⟩
    · simp at hv
  refine callsD_of_wpS Tryd.func9 rfl fun c₀ cs hu => ?_
  apply wpS_seq
  apply wpS_region
  simp [wpOpsS, go_sem, recoverD, hu, Tryd.ntmps9, Exit.thenS]
  refine wpS_cond (t := false) (by simp [Act.eval, Array.replicate]) ?_
  simp only [Bool.false_eq_true, if_false]
  refine wpS_of_wp (wp_skip ?_)
  cases c₀
  simp_all [bodyPostS, results, Tryd.results9]
theorem isn9 : (Tryd.f9.name == "runtime.NumGoroutine") = false := by kernel_rfl
theorem nla61_Uint32_ag : ∀ (v : Value) w, (nilAhead (Tryd.prog.types.size + Made.depth) 61 v "Uint32").run Tryd.prog w = .ok (some false) w := fun _ _ => by kernel_rfl
theorem inv61_Uint32 : ∀ (v : Value) (a : Value) w', (callMethod (.iface 61 v) "Uint32" #[a]).run Tryd.prog w' = .ok (.enter 58 #[v, a]) w' := fun _ _ _ => by kernel_rfl
theorem flat4 : Flat Tryd.prog 4 := ⟨_, Tryd.underlying4, fun _ h => (nomatch h), fun _ _ h => (nomatch h)⟩
theorem isn7 : (Tryd.f7.name == "runtime.NumGoroutine") = false := by kernel_rfl
theorem places44 : placesOf Tryd.prog [{ name := "b", type := 22, offset := 0, embedded := false, tag := "", pkgPath := "pub-orthodrome/spec", byteOffset := 0 }, { name := "big", type := 4, offset := 1, embedded := false, tag := "", pkgPath := "pub-orthodrome/spec", byteOffset := 24 }, { name := "extended", type := 4, offset := 2, embedded := false, tag := "", pkgPath := "pub-orthodrome/spec", byteOffset := 25 }, { name := "nan", type := 4, offset := 3, embedded := false, tag := "", pkgPath := "pub-orthodrome/spec", byteOffset := 26 }, { name := "bad", type := 4, offset := 4, embedded := false, tag := "", pkgPath := "pub-orthodrome/spec", byteOffset := 27 }] = [(0, 1), (1, 1), (2, 1), (3, 1), (4, 1)] := by kernel_rfl
theorem has44 : ∀ f ∈ ([{ name := "b", type := 22, offset := 0, embedded := false, tag := "", pkgPath := "pub-orthodrome/spec", byteOffset := 0 }, { name := "big", type := 4, offset := 1, embedded := false, tag := "", pkgPath := "pub-orthodrome/spec", byteOffset := 24 }, { name := "extended", type := 4, offset := 2, embedded := false, tag := "", pkgPath := "pub-orthodrome/spec", byteOffset := 25 }, { name := "nan", type := 4, offset := 3, embedded := false, tag := "", pkgPath := "pub-orthodrome/spec", byteOffset := 26 }, { name := "bad", type := 4, offset := 4, embedded := false, tag := "", pkgPath := "pub-orthodrome/spec", byteOffset := 27 }] : List Field), (Tryd.prog.info? f.type).isSome = true := fun f hf => all_of (p := fun f => (Tryd.prog.info? f.type).isSome) (by kernel_rfl) f hf
theorem info44 : (Tryd.prog.info? 44).map (fun i => (i.zero, i.size, i.bytes)) = some (some (.agg #[.slice none 0 0, .bool false, .bool false, .bool false, .bool false]), 5, 32) := by kernel_rfl
theorem isn14 : (Tryd.f14.name == "runtime.NumGoroutine") = false := by kernel_rfl
theorem isn6 : (Tryd.f6.name == "runtime.NumGoroutine") = false := by kernel_rfl


def bytes_NewBuffer (k : Nat) (a0 : List Int) : Option ((List Int) × Int × Int) :=
  some (a0, 0, 0)

theorem bytes_NewBuffer_sim {k : Nat}  (a0 : List Int) {out : (List Int) × Int × Int} (hp : bytes_NewBuffer k a0 = some out) : Go.Sx.Fn Tryd.prog 10 [(Sl (Ki .u8) a0)] [] (fun w : Addr => (Vl (.pointer (some w)))) (fun w => [⟨.pointer (some w), [(Sl (Ki .u8) out.1), (Vl (.int .i64 out.2.1)), (Vl (.int .i8 out.2.2))], 50, none⟩]) := by
  unfold bytes_NewBuffer at hp
  refine fn_of Tryd.func10 rfl Tryd.ntmps10 rfl fun E hM => ?_
  refine cx_seq' fun K1 hK1 => ?_
  refine cx_region' ?_
  refine sx_rd' (rd_assign' rfl) rfl rfl (wt_none' rfl) ?_
  refine sx_nil' ?_
  show TX E K1 _
  refine tx_k' hK1 ?_
  refine cx_seq' fun K2 hK2 => ?_
  refine cx_region' ?_
  refine sx_rd' (rd_move' rfl) rfl rfl (wt_none' rfl) ?_
  refine sx_rd' (rd_build' (pls := [(0, 1), (1, 1), (2, 1)]) (qs := [(0, [(Sl (Ki .u8) a0)])]) (r := [(Sl (Ki .u8) a0), (Vl (.int .i64 0)), (Vl (.int .i8 0))]) ⟨rfl, ⟨_, rfl, (lv_sl _ _)⟩, trivial⟩ Tryd.underlying50 has50 places50 info50 rfl rfl rfl) rfl rfl (wt_none' rfl) ?_
  refine sx_ox' (ox_box' rfl (lv_ag _) rfl rfl) (wt_none' rfl) fun q5 => ?_
  refine sx_rd' (rd_assign' rfl) rfl rfl (wt_none' rfl) ?_
  refine sx_nil' ?_
  show TX E K2 _
  refine tx_k' hK2 ?_
  refine cx_retc' ?_
  replace hp := Option.some.inj hp
  subst hp
  refine tx_pick' (L' := [(2, (Vl (.pointer (some q5))))]) (H' := [⟨.pointer (some q5), [(Sl (Ki .u8) a0), (Vl (.int .i64 0)), (Vl (.int .i8 0))], 50, none⟩]) [0] (sub_cons rfl sub_nil) (by decide) (pick_cons rfl pick_nil) ?_
  exact tx_ret1' Tryd.results10 rfl q5 (rv_tmp' rfl) (List.Sublist.refl _)

def wkbcommon_DoorOrder (k : Nat) (a0 : Bool) : Option (Unit ⊕ Unit) :=
  br a0
    (some (.inl ()))
    (some (.inr ()))
def wkbcommon_DoorOrder_r  (a0 : Bool) (out : Unit ⊕ Unit) (w : Unit) : SV := match out with
  | (.inl y) => (If 60 (Ag []))
  | (.inr y) => (If 61 (Ag []))
def wkbcommon_DoorOrder_h  (a0 : Bool) (out : Unit ⊕ Unit) (w : Unit) : List Res := match out with
  | (.inl y) => []
  | (.inr y) => []

theorem wkbcommon_DoorOrder_sim {k : Nat}  (a0 : Bool) {out : Unit ⊕ Unit} (hp : wkbcommon_DoorOrder k a0 = some out) : Go.Sx.Fn Tryd.prog 12 [(Vl (.bool a0))] [] (fun w => wkbcommon_DoorOrder_r a0 out w) (fun w => wkbcommon_DoorOrder_h a0 out w) := by
  unfold wkbcommon_DoorOrder at hp
  refine fn_of Tryd.func12 rfl Tryd.ntmps12 rfl fun E hM => ?_
  refine cx_seq' fun K1 hK1 => ?_
  refine cx_region' ?_
  refine sx_rd' (rd_assign' rfl) rfl rfl (wt_none' rfl) ?_
  refine sx_nil' ?_
  show TX E K1 _
  refine tx_k' hK1 ?_
  refine cx_seq' fun K2 hK2 => ?_
  refine cx_seq' fun K3 hK3 => ?_
  refine cx_region' ?_
  refine sx_rd' (rd_move' rfl) rfl rfl (wt_none' rfl) ?_
  refine sx_nil' ?_
  show TX E K3 _
  refine tx_k' hK3 ?_
  refine cx_cond' rfl (fun h1 => ?_) (fun h1 => ?_)
  · replace hp := (br_t h1).symm.trans hp
    refine cx_seq' fun K4 hK4 => ?_
    refine cx_region' ?_
    refine sx_rd' (rd_gload0' agg60) rfl rfl (wt_none' rfl) ?_
    refine sx_rd' (rd_iface' rfl ⟨_, Tryd.underlying60, fun _ h => (nomatch h)⟩) rfl rfl (wt_none' rfl) ?_
    refine sx_rd' (rd_assign' rfl) rfl rfl (wt_none' rfl) ?_
    refine sx_nil' ?_
    show TX E K4 _
    refine tx_k' hK4 ?_
    refine cx_retc' ?_
    replace hp := Option.some.inj hp
    subst hp
    refine tx_pick' (L' := [(2, (If 60 (Ag [])))]) (H' := []) [] (sub_cons rfl sub_nil) (by decide) pick_nil ?_
    exact tx_ret1' Tryd.results12 rfl () (rv_tmp' rfl) (List.Sublist.refl _)
  · replace hp := (br_f h1).symm.trans hp
    refine cx_skip' ?_
    show TX E K2 _
    refine tx_k' hK2 ?_
    refine cx_seq' fun K5 hK5 => ?_
    refine cx_region' ?_
    refine sx_rd' (rd_gload0' agg61) rfl rfl (wt_none' rfl) ?_
    refine sx_rd' (rd_iface' rfl ⟨_, Tryd.underlying61, fun _ h => (nomatch h)⟩) rfl rfl (wt_none' rfl) ?_
    refine sx_rd' (rd_assign' rfl) rfl rfl (wt_none' rfl) ?_
    refine sx_nil' ?_
    show TX E K5 _
    refine tx_k' hK5 ?_
    refine cx_retc' ?_
    replace hp := Option.some.inj hp
    subst hp
    refine tx_pick' (L' := [(2, (If 61 (Ag [])))]) (H' := []) [] (sub_cons rfl sub_nil) (by decide) pick_nil ?_
    exact tx_ret1' Tryd.results12 rfl () (rv_tmp' rfl) (List.Sublist.refl _)

def bytes_Buffer_empty (k : Nat) (a0_0 : List Int) (a0_1 : Int) (a0_2 : Int) : Option ((List Int) × Int × Int × Bool) :=
  some (a0_0, a0_1, a0_2, decide ((a0_0.length : Int) ≤ a0_1))

theorem bytes_Buffer_empty_sim {k : Nat} {wa0 : Addr} (a0_0 : List Int) (a0_1 : Int) (a0_2 : Int) {out : (List Int) × Int × Int × Bool} (hp : bytes_Buffer_empty k a0_0 a0_1 a0_2 = some out) : Go.Sx.Fn Tryd.prog 39 [(Vl (.pointer (some wa0)))] [⟨.pointer (some wa0), [(Sl (Ki .u8) a0_0), (Vl (.int .i64 a0_1)), (Vl (.int .i8 a0_2))], 50, none⟩] (fun w : Unit => (Vl (.bool out.2.2.2))) (fun w => [⟨.pointer (some wa0), [(Sl (Ki .u8) out.1), (Vl (.int .i64 out.2.1)), (Vl (.int .i8 out.2.2.1))], 50, none⟩]) := by
  unfold bytes_Buffer_empty at hp
  refine fn_of Tryd.func39 rfl Tryd.ntmps39 rfl fun E hM => ?_
  refine cx_seq' fun K1 hK1 => ?_
  refine cx_region' ?_
  refine sx_rd' (rd_assign' rfl) rfl rfl (wt_none' rfl) ?_
  refine sx_nil' ?_
  show TX E K1 _
  refine tx_k' hK1 ?_
  refine cx_seq' fun K2 hK2 => ?_
  refine cx_draw' mixed (by kernel_rfl) ?_
  refine qx_rd' (rd_move' rfl) rfl rfl (wt_none' rfl) ?_
  refine qx_rd' (rd_nilck' rfl) rfl rfl (wt_none' rfl) ?_
  refine qx_rd' (rd_field0' rfl Tryd.underlying50 rfl info22 rfl) rfl rfl (wt_none' rfl) ?_
  refine qx_rd' (rd_load' (i := 0) (o := 0) rfl ⟨rfl, rfl, rfl, rfl⟩ rfl flat22) rfl rfl (wt_none' rfl) ?_
  refine qx_rd' (rd_len' rfl Tryd.underlying22) rfl rfl (wt_none' rfl) ?_
  refine qx_rd' (rd_move' rfl) rfl rfl (wt_none' rfl) ?_
  refine qx_rd' (rd_nilck' rfl) rfl rfl (wt_none' rfl) ?_
  refine qx_rd' (rd_field' (off := 1) rfl Tryd.underlying50 rfl info3 rfl) rfl rfl (wt_none' rfl) ?_
  refine qx_rd' (rd_load' (i := 0) (o := 1) rfl ⟨rfl, rfl, rfl, rfl⟩ rfl flat3) rfl rfl (wt_none' rfl) ?_
  refine qx_rd' (rd_bin' rfl rfl eg_int ru_leq) rfl rfl (wt_none' rfl) ?_
  refine qx_rd' (rd_assign' rfl) rfl rfl (wt_none' rfl) ?_
  refine qx_nil' ?_
  show TX E K2 _
  refine tx_k' hK2 ?_
  refine cx_retc' ?_
  replace hp := Option.some.inj hp
  subst hp
  refine tx_pick' (L' := [(2, (Vl (.bool (decide ((a0_0.length : Int) ≤ a0_1)))))]) (H' := [⟨.pointer (some wa0), [(Sl (Ki .u8) a0_0), (Vl (.int .i64 a0_1)), (Vl (.int .i8 a0_2))], 50, none⟩]) [0] (sub_cons rfl sub_nil) (by decide) (pick_cons rfl pick_nil) ?_
  exact tx_ret1' Tryd.results39 rfl () (rv_tmp' rfl) (List.Sublist.refl _)

def bytes_Buffer_Reset (k : Nat) (a0_0 : List Int) (a0_1 : Int) (a0_2 : Int) : Option ((List Int) × Int × Int) :=
  (cut a0_0 0 0) >>= fun r7 =>
  some (r7, 0, 0)

theorem bytes_Buffer_Reset_sim {k : Nat} {wa0 : Addr} (a0_0 : List Int) (a0_1 : Int) (a0_2 : Int) {out : (List Int) × Int × Int} (hp : bytes_Buffer_Reset k a0_0 a0_1 a0_2 = some out) : Go.Sx.Fn Tryd.prog 36 [(Vl (.pointer (some wa0)))] [⟨.pointer (some wa0), [(Sl (Ki .u8) a0_0), (Vl (.int .i64 a0_1)), (Vl (.int .i8 a0_2))], 50, none⟩] (fun w : Unit => (Vl (.tuple #[]))) (fun w => [⟨.pointer (some wa0), [(Sl (Ki .u8) out.1), (Vl (.int .i64 out.2.1)), (Vl (.int .i8 out.2.2))], 50, none⟩]) := by
  unfold bytes_Buffer_Reset at hp
  refine fn_of Tryd.func36 rfl Tryd.ntmps36 rfl fun E hM => ?_
  refine cx_seq' fun K1 hK1 => ?_
  refine cx_region' ?_
  refine sx_rd' (rd_move' rfl) rfl rfl (wt_none' rfl) ?_
  refine sx_rd' (rd_move' rfl) rfl rfl (wt_none' rfl) ?_
  refine sx_rd' (rd_nilck' rfl) rfl rfl (wt_none' rfl) ?_
  refine sx_rd' (rd_field0' rfl Tryd.underlying50 rfl info22 rfl) rfl rfl (wt_none' rfl) ?_
  refine sx_rd' (rd_load' (i := 0) (o := 0) rfl ⟨rfl, rfl, rfl, rfl⟩ rfl flat22) rfl rfl (wt_none' rfl) ?_
  obtain ⟨r7, hr7, hp⟩ := bind_some hp
  refine sx_rd' (rd_cut_h' rfl rfl hr7 Tryd.underlying22 info5) rfl rfl (wt_none' rfl) ?_
  refine sx_rd' (rd_nilck' rfl) rfl rfl (wt_none' rfl) ?_
  refine sx_rd' (rd_field0' rfl Tryd.underlying50 rfl info22 rfl) rfl rfl (wt_none' rfl) ?_
  refine sx_ox' (ox_store' (i := 0) (o := 0) rfl rfl (lv_sl _ _) ⟨rfl, rfl, rfl, rfl⟩ rfl info22 rfl (H' := [⟨.pointer (some wa0), [(Sl (Ki .u8) r7), (Vl (.int .i64 a0_1)), (Vl (.int .i8 a0_2))], 50, none⟩]) rfl) (wt_none' rfl) fun _ => ?_
  refine sx_nil' ?_
  show TX E K1 _
  refine tx_k' hK1 ?_
  refine cx_seq' fun K2 hK2 => ?_
  refine cx_region' ?_
  refine sx_rd' (rd_move' rfl) rfl rfl (wt_none' rfl) ?_
  refine sx_rd' (rd_nilck' rfl) rfl rfl (wt_none' rfl) ?_
  refine sx_rd' (rd_field' (off := 1) rfl Tryd.underlying50 rfl info3 rfl) rfl rfl (wt_none' rfl) ?_
  refine sx_ox' (ox_store' (i := 0) (o := 1) rfl rfl (lv_vl rfl rfl) ⟨rfl, rfl, rfl, rfl⟩ rfl info3 rfl (H' := [⟨.pointer (some wa0), [(Sl (Ki .u8) r7), (Vl (.int .i64 0)), (Vl (.int .i8 a0_2))], 50, none⟩]) rfl) (wt_none' rfl) fun _ => ?_
  refine sx_nil' ?_
  show TX E K2 _
  refine tx_k' hK2 ?_
  refine cx_region' ?_
  refine sx_rd' (rd_move' rfl) rfl rfl (wt_none' rfl) ?_
  refine sx_rd' (rd_nilck' rfl) rfl rfl (wt_none' rfl) ?_
  refine sx_rd' (rd_field' (off := 2) rfl Tryd.underlying50 rfl info48 rfl) rfl rfl (wt_none' rfl) ?_
  refine sx_ox' (ox_store' (i := 0) (o := 2) rfl rfl (lv_vl rfl rfl) ⟨rfl, rfl, rfl, rfl⟩ rfl info48 rfl (H' := [⟨.pointer (some wa0), [(Sl (Ki .u8) r7), (Vl (.int .i64 0)), (Vl (.int .i8 0))], 50, none⟩]) rfl) (wt_none' rfl) fun _ => ?_
  refine sx_nil' ?_
  replace hp := Option.some.inj hp
  subst hp
  refine tx_pick' (L' := []) (H' := [⟨.pointer (some wa0), [(Sl (Ki .u8) r7), (Vl (.int .i64 0)), (Vl (.int .i8 0))], 50, none⟩]) [0] sub_nil (by decide) (pick_cons rfl pick_nil) ?_
  exact tx_end0' Tryd.results36 rfl () rfl (List.Sublist.refl _)

def bytes_Buffer_Read_j1 (k : Nat) (r10 : (List Int) × Int × Int × Bool) (r26 : List Int) (a1 : List Int) (x1 : Int) : Option (((List Int) × Int × Int × (List Int) × Int) ⊕ ((List Int) × Int × Int × (List Int) × Int)) :=
  some (.inl (r10.1, iadd .i64 r10.2.1 ((Nat.min r26.length a1.length : Nat) : Int), x1, cpy a1 r26, ((Nat.min r26.length a1.length : Nat) : Int)))
def bytes_Buffer_Read (k : Nat) (a0_0 : List Int) (a0_1 : Int) (a0_2 : Int) (a1 : List Int) : Option (((List Int) × Int × Int × (List Int) × Int) ⊕ ((List Int) × Int × Int × (List Int) × Int)) :=
  (bytes_Buffer_empty k a0_0 a0_1 0) >>= fun r10 =>
  br r10.2.2.2
    ((bytes_Buffer_Reset k r10.1 r10.2.1 r10.2.2.1) >>= fun r12 =>
    br (decide ((a1.length : Int) = 0))
      (some (.inl (r12.1, r12.2.1, r12.2.2, a1, 0)))
      (some (.inr (r12.1, r12.2.1, r12.2.2, a1, 0))))
    ((cut r10.1 r10.2.1 (r10.1.length : Int)) >>= fun r26 =>
    br (decide (0 < ((Nat.min r26.length a1.length : Nat) : Int)))
      (bytes_Buffer_Read_j1 k r10 r26 a1 (-1))
      (bytes_Buffer_Read_j1 k r10 r26 a1 r10.2.2.1))
def bytes_Buffer_Read_r (wa0 : Addr) (wa1 : Addr) (a0_0 : List Int) (a0_1 : Int) (a0_2 : Int) (a1 : List Int) (out : ((List Int) × Int × Int × (List Int) × Int) ⊕ ((List Int) × Int × Int × (List Int) × Int)) (w : Unit) : SV := match out with
  | (.inl y) => (Tu [(Vl (.int .i64 y.2.2.2.2)), (Vl .nilIface)])
  | (.inr y) => (Tu [(Vl (.int .i64 y.2.2.2.2)), (If 67 (Vl (.pointer (some (Ga.a 3)))))])
def bytes_Buffer_Read_h (wa0 : Addr) (wa1 : Addr) (a0_0 : List Int) (a0_1 : Int) (a0_2 : Int) (a1 : List Int) (out : ((List Int) × Int × Int × (List Int) × Int) ⊕ ((List Int) × Int × Int × (List Int) × Int)) (w : Unit) : List Res := match out with
  | (.inl y) => [⟨.pointer (some wa0), [(Sl (Ki .u8) y.1), (Vl (.int .i64 y.2.1)), (Vl (.int .i8 y.2.2.1))], 50, none⟩, (Rw (Ki .u8) 55 (Vs (some wa1, 4, 4)) y.2.2.2.1)]
  | (.inr y) => [⟨.pointer (some wa0), [(Sl (Ki .u8) y.1), (Vl (.int .i64 y.2.1)), (Vl (.int .i8 y.2.2.1))], 50, none⟩, (Rw (Ki .u8) 55 (Vs (some wa1, 4, 4)) y.2.2.2.1)]

theorem bytes_Buffer_Read_sim {k : Nat} {wa0 : Addr} {wa1 : Addr} (a0_0 : List Int) (a0_1 : Int) (a0_2 : Int) (a1 : List Int) {out : ((List Int) × Int × Int × (List Int) × Int) ⊕ ((List Int) × Int × Int × (List Int) × Int)} (hp : bytes_Buffer_Read k a0_0 a0_1 a0_2 a1 = some out) : Go.Sx.Fn Tryd.prog 35 [(Vl (.pointer (some wa0))), (Vl (Vs (some wa1, 4, 4)))] [⟨.pointer (some wa0), [(Sl (Ki .u8) a0_0), (Vl (.int .i64 a0_1)), (Vl (.int .i8 a0_2))], 50, none⟩, (Rw (Ki .u8) 55 (Vs (some wa1, 4, 4)) a1)] (fun w => bytes_Buffer_Read_r wa0 wa1 a0_0 a0_1 a0_2 a1 out w) (fun w => bytes_Buffer_Read_h wa0 wa1 a0_0 a0_1 a0_2 a1 out w) := by
  unfold bytes_Buffer_Read at hp
  refine fn_of Tryd.func35 rfl Tryd.ntmps35 rfl fun E hM => ?_
  refine cx_seq' fun K1 hK1 => ?_
  refine cx_region' ?_
  refine sx_rd' (rd_assign' rfl) rfl rfl (wt_none' rfl) ?_
  refine sx_rd' (rd_assign' rfl) rfl rfl (wt_none' rfl) ?_
  refine sx_nil' ?_
  show TX E K1 _
  refine tx_k' hK1 ?_
  refine cx_seq' fun K2 hK2 => ?_
  refine cx_region' ?_
  refine sx_rd' (rd_move' rfl) rfl rfl (wt_none' rfl) ?_
  refine sx_rd' (rd_nilck' rfl) rfl rfl (wt_none' rfl) ?_
  refine sx_rd' (rd_field' (off := 2) rfl Tryd.underlying50 rfl info48 rfl) rfl rfl (wt_none' rfl) ?_
  refine sx_ox' (ox_store' (i := 0) (o := 2) rfl rfl (lv_vl rfl rfl) ⟨rfl, rfl, rfl, rfl⟩ rfl info48 rfl (H' := [⟨.pointer (some wa0), [(Sl (Ki .u8) a0_0), (Vl (.int .i64 a0_1)), (Vl (.int .i8 0))], 50, none⟩, (Rw (Ki .u8) 55 (Vs (some wa1, 4, 4)) a1)]) rfl) (wt_none' rfl) fun _ => ?_
  refine sx_nil' ?_
  show TX E K2 _
  refine tx_k' hK2 ?_
  refine cx_seq' fun K3 hK3 => ?_
  refine cx_seq' fun K4 hK4 => ?_
  refine cx_region' ?_
  refine sx_rd' (rd_move' rfl) rfl rfl (wt_none' rfl) ?_
  obtain ⟨r10, hr10, hp⟩ := bind_some hp
  refine sx_ox' (ox_callg' (ent_fn' Tryd.func39 isn39 rfl rfl) (bytes_Buffer_empty_sim _ _ _ hr10 : Go.Sx.Fn Tryd.prog 39 [(Vl (.pointer (some wa0)))] [⟨.pointer (some wa0), [(Sl (Ki .u8) a0_0), (Vl (.int .i64 a0_1)), (Vl (.int .i8 0))], 50, none⟩] (fun x : Unit => (Vl (.bool r10.2.2.2))) (fun x => [⟨.pointer (some wa0), [(Sl (Ki .u8) r10.1), (Vl (.int .i64 r10.2.1)), (Vl (.int .i8 r10.2.2.1))], 50, none⟩])) [0] [1] (by decide) (pick_cons rfl pick_nil) (pick_cons rfl pick_nil) (Hn := fun x : Unit => [⟨.pointer (some wa0), [(Sl (Ki .u8) r10.1), (Vl (.int .i64 r10.2.1)), (Vl (.int .i8 r10.2.2.1))], 50, none⟩, (Rw (Ki .u8) 55 (Vs (some wa1, 4, 4)) a1)]) (fun _ => rfl) rfl rfl) (wt_none' rfl) fun ⟨⟩ => ?_
  refine sx_nil' ?_
  show TX E K4 _
  refine tx_k' hK4 ?_
  refine cx_cond' rfl (fun h1 => ?_) (fun h1 => ?_)
  · replace hp := (br_t h1).symm.trans hp
    refine cx_seq' fun K5 hK5 => ?_
    refine cx_region' ?_
    refine sx_rd' (rd_move' rfl) rfl rfl (wt_none' rfl) ?_
    obtain ⟨r12, hr12, hp⟩ := bind_some hp
    refine sx_ox' (ox_callg' (ent_fn' Tryd.func36 isn36 rfl rfl) (bytes_Buffer_Reset_sim _ _ _ hr12 : Go.Sx.Fn Tryd.prog 36 [(Vl (.pointer (some wa0)))] [⟨.pointer (some wa0), [(Sl (Ki .u8) r10.1), (Vl (.int .i64 r10.2.1)), (Vl (.int .i8 r10.2.2.1))], 50, none⟩] (fun x : Unit => (Vl (.tuple #[]))) (fun x => [⟨.pointer (some wa0), [(Sl (Ki .u8) r12.1), (Vl (.int .i64 r12.2.1)), (Vl (.int .i8 r12.2.2))], 50, none⟩])) [0] [1] (by decide) (pick_cons rfl pick_nil) (pick_cons rfl pick_nil) (Hn := fun x : Unit => [⟨.pointer (some wa0), [(Sl (Ki .u8) r12.1), (Vl (.int .i64 r12.2.1)), (Vl (.int .i8 r12.2.2))], 50, none⟩, (Rw (Ki .u8) 55 (Vs (some wa1, 4, 4)) a1)]) (fun _ => rfl) rfl rfl) (wt_none' rfl) fun ⟨⟩ => ?_
    refine sx_nil' ?_
    show TX E K5 _
    refine tx_k' hK5 ?_
    refine cx_seq' fun K6 hK6 => ?_
    refine cx_seq' fun K7 hK7 => ?_
    refine cx_region' ?_
    refine sx_rd' (rd_move' rfl) rfl rfl (wt_none' rfl) ?_
    refine sx_rd' (rd_lenr' (i := 1) rfl rfl rfl Tryd.underlying22) rfl rfl (wt_none' rfl) ?_
    refine sx_rd' (rd_bin' rfl rfl eg_int ru_eql) rfl rfl (wt_none' rfl) ?_
    refine sx_nil' ?_
    show TX E K7 _
    refine tx_k' hK7 ?_
    refine cx_cond' rfl (fun h2 => ?_) (fun h2 => ?_)
    · replace hp := (br_t h2).symm.trans hp
      refine cx_seq' fun K8 hK8 => ?_
      refine cx_region' ?_
      refine sx_rd' (rd_assign' rfl) rfl rfl (wt_none' rfl) ?_
      refine sx_rd' (rd_assign' rfl) rfl rfl (wt_none' rfl) ?_
      refine sx_nil' ?_
      show TX E K8 _
      refine tx_k' hK8 ?_
      refine cx_retc' ?_
      replace hp := Option.some.inj hp
      subst hp
      refine tx_pick' (L' := [(4, (Vl (.int .i64 0))), (5, (Vl .nilIface))]) (H' := [⟨.pointer (some wa0), [(Sl (Ki .u8) r12.1), (Vl (.int .i64 r12.2.1)), (Vl (.int .i8 r12.2.2))], 50, none⟩, (Rw (Ki .u8) 55 (Vs (some wa1, 4, 4)) a1)]) [0, 1] (sub_cons rfl (sub_cons rfl sub_nil)) (by decide) (pick_cons rfl (pick_cons rfl pick_nil)) ?_
      exact tx_ret2' Tryd.results35 rfl () (rv_tmp' rfl) (rv_tmp' rfl) rfl (List.Sublist.refl _)
    · replace hp := (br_f h2).symm.trans hp
      refine cx_skip' ?_
      show TX E K6 _
      refine tx_k' hK6 ?_
      refine cx_seq' fun K9 hK9 => ?_
      refine cx_draw' mixed (by kernel_rfl) ?_
      refine qx_rd' (rd_gload' gm3 flat35) rfl rfl (wt_none' rfl) ?_
      refine qx_rd' (rd_assign' rfl) rfl rfl (wt_none' rfl) ?_
      refine qx_rd' (rd_assign' rfl) rfl rfl (wt_none' rfl) ?_
      refine qx_nil' ?_
      show TX E K9 _
      refine tx_k' hK9 ?_
      refine cx_retc' ?_
      replace hp := Option.some.inj hp
      subst hp
      refine tx_pick' (L' := [(4, (Vl (.int .i64 0))), (5, (If 67 (Vl (.pointer (some (Ga.a 3))))))]) (H' := [⟨.pointer (some wa0), [(Sl (Ki .u8) r12.1), (Vl (.int .i64 r12.2.1)), (Vl (.int .i8 r12.2.2))], 50, none⟩, (Rw (Ki .u8) 55 (Vs (some wa1, 4, 4)) a1)]) [0, 1] (sub_cons rfl (sub_cons rfl sub_nil)) (by decide) (pick_cons rfl (pick_cons rfl pick_nil)) ?_
      exact tx_ret2' Tryd.results35 rfl () (rv_tmp' rfl) (rv_tmp' rfl) rfl (List.Sublist.refl _)
  · replace hp := (br_f h1).symm.trans hp
    refine cx_skip' ?_
    show TX E K3 _
    refine tx_k' hK3 ?_
    refine cx_seq' fun K10 hK10 => ?_
    refine cx_plan' [] [(10, 1)] [(0, 1), (1, 1), (2, 1), (3, 1), (4, 1), (5, 1), (6, 1), (7, 1), (8, 1), (9, 1), (10, 0), (11, 1)] mixed (by kernel_rfl) ?_
    refine px_rd' rfl (rd_move' rfl) rfl rfl (wt_none' rfl) ?_
    refine px_rd' rfl (rd_move' rfl) rfl rfl (wt_none' rfl) ?_
    refine px_rd' rfl (rd_nilck' rfl) rfl rfl (wt_none' rfl) ?_
    refine px_rd' rfl (rd_field0' rfl Tryd.underlying50 rfl info22 rfl) rfl rfl (wt_none' rfl) ?_
    refine px_rd' rfl (rd_load' (i := 0) (o := 0) rfl ⟨rfl, rfl, rfl, rfl⟩ rfl flat22) rfl rfl (wt_none' rfl) ?_
    refine px_rd' rfl (rd_move' rfl) rfl rfl (wt_none' rfl) ?_
    refine px_rd' rfl (rd_nilck' rfl) rfl rfl (wt_none' rfl) ?_
    refine px_rd' rfl (rd_field' (off := 1) rfl Tryd.underlying50 rfl info3 rfl) rfl rfl (wt_none' rfl) ?_
    refine px_rd' rfl (rd_load' (i := 0) (o := 1) rfl ⟨rfl, rfl, rfl, rfl⟩ rfl flat3) rfl rfl (wt_none' rfl) ?_
    obtain ⟨r26, hr26, hp⟩ := bind_some hp
    refine px_rd' rfl (rd_cut_l' rfl rfl hr26 Tryd.underlying22 info5) rfl rfl (wt_none' rfl) ?_
    refine px_ox' rfl (ox_copy' (i := 1) rfl rfl rfl rfl rfl Tryd.underlying22 info5 rfl rfl (H' := [⟨.pointer (some wa0), [(Sl (Ki .u8) r10.1), (Vl (.int .i64 r10.2.1)), (Vl (.int .i8 r10.2.2.1))], 50, none⟩, (Rw (Ki .u8) 55 (Vs (some wa1, 4, 4)) (cpy a1 r26))]) rfl) rfl bs_nil (wt_none' rfl) fun _ => ?_
    refine px_rd' rfl (rd_assign' rfl) rfl rfl (wt_none' rfl) ?_
    refine px_nil' ?_
    show TX E K10 _
    refine tx_k' hK10 ?_
    refine cx_seq' fun K11 hK11 => ?_
    refine cx_region' ?_
    refine sx_rd' (rd_move' rfl) rfl rfl (wt_none' rfl) ?_
    refine sx_rd' (rd_nilck' rfl) rfl rfl (wt_none' rfl) ?_
    refine sx_rd' (rd_field' (off := 1) rfl Tryd.underlying50 rfl info3 rfl) rfl rfl (wt_none' rfl) ?_
    refine sx_rd' (rd_load' (i := 0) (o := 1) rfl ⟨rfl, rfl, rfl, rfl⟩ rfl flat3) rfl rfl (wt_none' rfl) ?_
    refine sx_rd' (rd_move' rfl) rfl rfl (wt_none' rfl) ?_
    refine sx_rd' (rd_bin' rfl rfl eg_int ru_add) rfl rfl (wt_none' rfl) ?_
    refine sx_rd' (rd_nilck' rfl) rfl rfl (wt_none' rfl) ?_
    refine sx_rd' (rd_field' (off := 1) rfl Tryd.underlying50 rfl info3 rfl) rfl rfl (wt_none' rfl) ?_
    refine sx_ox' (ox_store' (i := 0) (o := 1) rfl rfl (lv_vl rfl rfl) ⟨rfl, rfl, rfl, rfl⟩ rfl info3 rfl (H' := [⟨.pointer (some wa0), [(Sl (Ki .u8) r10.1), (Vl (.int .i64 (iadd .i64 r10.2.1 ((Nat.min r26.length a1.length : Nat) : Int)))), (Vl (.int .i8 r10.2.2.1))], 50, none⟩, (Rw (Ki .u8) 55 (Vs (some wa1, 4, 4)) (cpy a1 r26))]) rfl) (wt_none' rfl) fun _ => ?_
    refine sx_nil' ?_
    show TX E K11 _
    refine tx_k' hK11 ?_
    refine cx_join' (fun (v1 : Int) => (⟨42, [], [(4, (Vl (.int .i64 ((Nat.min r26.length a1.length : Nat) : Int))))], [⟨.pointer (some wa0), [(Sl (Ki .u8) r10.1), (Vl (.int .i64 (iadd .i64 r10.2.1 ((Nat.min r26.length a1.length : Nat) : Int)))), (Vl (.int .i8 v1))], 50, none⟩, (Rw (Ki .u8) 55 (Vs (some wa1, 4, 4)) (cpy a1 r26))]⟩ : St)) (fun (v1 : Int) => bytes_Buffer_Read_j1 k r10 r26 a1 v1 = some out) ?_ ?_
    · rintro x1 hp
      replace hp : bytes_Buffer_Read_j1 k r10 r26 a1 x1 = some out := hp
      unfold bytes_Buffer_Read_j1 at hp
      refine cx_seq' fun K14 hK14 => ?_
      refine cx_region' ?_
      refine sx_rd' (rd_move' rfl) rfl rfl (wt_none' rfl) ?_
      refine sx_rd' (rd_assign' rfl) rfl rfl (wt_none' rfl) ?_
      refine sx_rd' (rd_assign' rfl) rfl rfl (wt_none' rfl) ?_
      refine sx_nil' ?_
      show TX E K14 _
      refine tx_k' hK14 ?_
      refine cx_retc' ?_
      replace hp := Option.some.inj hp
      subst hp
      refine tx_pick' (L' := [(4, (Vl (.int .i64 ((Nat.min r26.length a1.length : Nat) : Int)))), (5, (Vl .nilIface))]) (H' := [⟨.pointer (some wa0), [(Sl (Ki .u8) r10.1), (Vl (.int .i64 (iadd .i64 r10.2.1 ((Nat.min r26.length a1.length : Nat) : Int)))), (Vl (.int .i8 x1))], 50, none⟩, (Rw (Ki .u8) 55 (Vs (some wa1, 4, 4)) (cpy a1 r26))]) [0, 1] (sub_cons rfl (sub_cons rfl sub_nil)) (by decide) (pick_cons rfl (pick_cons rfl pick_nil)) ?_
      exact tx_ret2' Tryd.results35 rfl () (rv_tmp' rfl) (rv_tmp' rfl) rfl (List.Sublist.refl _)
    · intro K12 hK12
      refine cx_seq' fun K13 hK13 => ?_
      refine cx_region' ?_
      refine sx_rd' (rd_move' rfl) rfl rfl (wt_none' rfl) ?_
      refine sx_rd' (rd_bin' rfl rfl eg_int ru_gtr) rfl rfl (wt_none' rfl) ?_
      refine sx_nil' ?_
      show TX E K13 _
      refine tx_k' hK13 ?_
      refine cx_cond' rfl (fun h3 => ?_) (fun h3 => ?_)
      · replace hp := (br_t h3).symm.trans hp
        refine cx_region' ?_
        refine sx_rd' (rd_move' rfl) rfl rfl (wt_none' rfl) ?_
        refine sx_rd' (rd_nilck' rfl) rfl rfl (wt_none' rfl) ?_
        refine sx_rd' (rd_field' (off := 2) rfl Tryd.underlying50 rfl info48 rfl) rfl rfl (wt_none' rfl) ?_
        refine sx_ox' (ox_store' (i := 0) (o := 2) rfl rfl (lv_vl rfl rfl) ⟨rfl, rfl, rfl, rfl⟩ rfl info48 rfl (H' := [⟨.pointer (some wa0), [(Sl (Ki .u8) r10.1), (Vl (.int .i64 (iadd .i64 r10.2.1 ((Nat.min r26.length a1.length : Nat) : Int)))), (Vl (.int .i8 (-1)))], 50, none⟩, (Rw (Ki .u8) 55 (Vs (some wa1, 4, 4)) (cpy a1 r26))]) rfl) (wt_none' rfl) fun _ => ?_
        refine sx_nil' ?_
        show TX E K12 _
        exact tx_pick' [0, 1] (sub_cons rfl sub_nil) (by decide) (pick_cons rfl (pick_cons rfl pick_nil)) (hK12 (-1) hp)
      · replace hp := (br_f h3).symm.trans hp
        refine cx_skip' ?_
        show TX E K12 _
        exact tx_pick' [0, 1] (sub_cons rfl sub_nil) (by decide) (pick_cons rfl (pick_cons rfl pick_nil)) (hK12 r10.2.2.1 hp)

def bytes_Buffer_Read_v2 (k : Nat) (a0_0 : List Int) (a0_1 : Int) (a0_2 : Int) (a1 : Nat) : Option (((List Int) × Int × Int × Int) ⊕ ((List Int) × Int × Int × Int)) :=
  (bytes_Buffer_empty k a0_0 a0_1 0) >>= fun r10 =>
  br r10.2.2.2
    ((bytes_Buffer_Reset k r10.1 r10.2.1 r10.2.2.1) >>= fun r12 =>
    br (decide ((a1 : Int) = 0))
      (some (.inl (r12.1, r12.2.1, r12.2.2, 0)))
      (some (.inr (r12.1, r12.2.1, r12.2.2, 0))))
    (none)
def bytes_Buffer_Read_v2_r (wa0 : Addr) (a0_0 : List Int) (a0_1 : Int) (a0_2 : Int) (a1 : Nat) (out : ((List Int) × Int × Int × Int) ⊕ ((List Int) × Int × Int × Int)) (w : Unit) : SV := match out with
  | (.inl y) => (Tu [(Vl (.int .i64 y.2.2.2)), (Vl .nilIface)])
  | (.inr y) => (Tu [(Vl (.int .i64 y.2.2.2)), (If 67 (Vl (.pointer (some (Ga.a 3)))))])
def bytes_Buffer_Read_v2_h (wa0 : Addr) (a0_0 : List Int) (a0_1 : Int) (a0_2 : Int) (a1 : Nat) (out : ((List Int) × Int × Int × Int) ⊕ ((List Int) × Int × Int × Int)) (w : Unit) : List Res := match out with
  | (.inl y) => [⟨.pointer (some wa0), [(Sl (Ki .u8) y.1), (Vl (.int .i64 y.2.1)), (Vl (.int .i8 y.2.2.1))], 50, none⟩]
  | (.inr y) => [⟨.pointer (some wa0), [(Sl (Ki .u8) y.1), (Vl (.int .i64 y.2.1)), (Vl (.int .i8 y.2.2.1))], 50, none⟩]

theorem bytes_Buffer_Read_v2_sim {k : Nat} {wa0 : Addr} (a0_0 : List Int) (a0_1 : Int) (a0_2 : Int) (a1 : Nat) {out : ((List Int) × Int × Int × Int) ⊕ ((List Int) × Int × Int × Int)} (hp : bytes_Buffer_Read_v2 k a0_0 a0_1 a0_2 a1 = some out) : Go.Sx.Fn Tryd.prog 35 [(Vl (.pointer (some wa0))), (Ln a1)] [⟨.pointer (some wa0), [(Sl (Ki .u8) a0_0), (Vl (.int .i64 a0_1)), (Vl (.int .i8 a0_2))], 50, none⟩] (fun w => bytes_Buffer_Read_v2_r wa0 a0_0 a0_1 a0_2 a1 out w) (fun w => bytes_Buffer_Read_v2_h wa0 a0_0 a0_1 a0_2 a1 out w) := by
  unfold bytes_Buffer_Read_v2 at hp
  refine fn_of Tryd.func35 rfl Tryd.ntmps35 rfl fun E hM => ?_
  refine cx_seq' fun K1 hK1 => ?_
  refine cx_region' ?_
  refine sx_rd' (rd_assign' rfl) rfl rfl (wt_none' rfl) ?_
  refine sx_rd' (rd_assign' rfl) rfl rfl (wt_none' rfl) ?_
  refine sx_nil' ?_
  show TX E K1 _
  refine tx_k' hK1 ?_
  refine cx_seq' fun K2 hK2 => ?_
  refine cx_region' ?_
  refine sx_rd' (rd_move' rfl) rfl rfl (wt_none' rfl) ?_
  refine sx_rd' (rd_nilck' rfl) rfl rfl (wt_none' rfl) ?_
  refine sx_rd' (rd_field' (off := 2) rfl Tryd.underlying50 rfl info48 rfl) rfl rfl (wt_none' rfl) ?_
  refine sx_ox' (ox_store' (i := 0) (o := 2) rfl rfl (lv_vl rfl rfl) ⟨rfl, rfl, rfl, rfl⟩ rfl info48 rfl (H' := [⟨.pointer (some wa0), [(Sl (Ki .u8) a0_0), (Vl (.int .i64 a0_1)), (Vl (.int .i8 0))], 50, none⟩]) rfl) (wt_none' rfl) fun _ => ?_
  refine sx_nil' ?_
  show TX E K2 _
  refine tx_k' hK2 ?_
  refine cx_seq' fun K3 hK3 => ?_
  refine cx_seq' fun K4 hK4 => ?_
  refine cx_region' ?_
  refine sx_rd' (rd_move' rfl) rfl rfl (wt_none' rfl) ?_
  obtain ⟨r10, hr10, hp⟩ := bind_some hp
  refine sx_ox' (ox_callg' (ent_fn' Tryd.func39 isn39 rfl rfl) (bytes_Buffer_empty_sim _ _ _ hr10 : Go.Sx.Fn Tryd.prog 39 [(Vl (.pointer (some wa0)))] [⟨.pointer (some wa0), [(Sl (Ki .u8) a0_0), (Vl (.int .i64 a0_1)), (Vl (.int .i8 0))], 50, none⟩] (fun x : Unit => (Vl (.bool r10.2.2.2))) (fun x => [⟨.pointer (some wa0), [(Sl (Ki .u8) r10.1), (Vl (.int .i64 r10.2.1)), (Vl (.int .i8 r10.2.2.1))], 50, none⟩])) [0] [] (by decide) (pick_cons rfl pick_nil) pick_nil (Hn := fun x : Unit => [⟨.pointer (some wa0), [(Sl (Ki .u8) r10.1), (Vl (.int .i64 r10.2.1)), (Vl (.int .i8 r10.2.2.1))], 50, none⟩]) (fun _ => rfl) rfl rfl) (wt_none' rfl) fun ⟨⟩ => ?_
  refine sx_nil' ?_
  show TX E K4 _
  refine tx_k' hK4 ?_
  refine cx_cond' rfl (fun h1 => ?_) (fun h1 => ?_)
  · replace hp := (br_t h1).symm.trans hp
    refine cx_seq' fun K5 hK5 => ?_
    refine cx_region' ?_
    refine sx_rd' (rd_move' rfl) rfl rfl (wt_none' rfl) ?_
    obtain ⟨r12, hr12, hp⟩ := bind_some hp
    refine sx_ox' (ox_callg' (ent_fn' Tryd.func36 isn36 rfl rfl) (bytes_Buffer_Reset_sim _ _ _ hr12 : Go.Sx.Fn Tryd.prog 36 [(Vl (.pointer (some wa0)))] [⟨.pointer (some wa0), [(Sl (Ki .u8) r10.1), (Vl (.int .i64 r10.2.1)), (Vl (.int .i8 r10.2.2.1))], 50, none⟩] (fun x : Unit => (Vl (.tuple #[]))) (fun x => [⟨.pointer (some wa0), [(Sl (Ki .u8) r12.1), (Vl (.int .i64 r12.2.1)), (Vl (.int .i8 r12.2.2))], 50, none⟩])) [0] [] (by decide) (pick_cons rfl pick_nil) pick_nil (Hn := fun x : Unit => [⟨.pointer (some wa0), [(Sl (Ki .u8) r12.1), (Vl (.int .i64 r12.2.1)), (Vl (.int .i8 r12.2.2))], 50, none⟩]) (fun _ => rfl) rfl rfl) (wt_none' rfl) fun ⟨⟩ => ?_
    refine sx_nil' ?_
    show TX E K5 _
    refine tx_k' hK5 ?_
    refine cx_seq' fun K6 hK6 => ?_
    refine cx_seq' fun K7 hK7 => ?_
    refine cx_region' ?_
    refine sx_rd' (rd_move' rfl) rfl rfl (wt_none' rfl) ?_
    refine sx_rd' (rd_lenn' rfl Tryd.underlying22) rfl rfl (wt_none' rfl) ?_
    refine sx_rd' (rd_bin' rfl rfl eg_int ru_eql) rfl rfl (wt_none' rfl) ?_
    refine sx_nil' ?_
    show TX E K7 _
    refine tx_k' hK7 ?_
    refine cx_cond' rfl (fun h2 => ?_) (fun h2 => ?_)
    · replace hp := (br_t h2).symm.trans hp
      refine cx_seq' fun K8 hK8 => ?_
      refine cx_region' ?_
      refine sx_rd' (rd_assign' rfl) rfl rfl (wt_none' rfl) ?_
      refine sx_rd' (rd_assign' rfl) rfl rfl (wt_none' rfl) ?_
      refine sx_nil' ?_
      show TX E K8 _
      refine tx_k' hK8 ?_
      refine cx_retc' ?_
      replace hp := Option.some.inj hp
      subst hp
      refine tx_pick' (L' := [(4, (Vl (.int .i64 0))), (5, (Vl .nilIface))]) (H' := [⟨.pointer (some wa0), [(Sl (Ki .u8) r12.1), (Vl (.int .i64 r12.2.1)), (Vl (.int .i8 r12.2.2))], 50, none⟩]) [0] (sub_cons rfl (sub_cons rfl sub_nil)) (by decide) (pick_cons rfl pick_nil) ?_
      exact tx_ret2' Tryd.results35 rfl () (rv_tmp' rfl) (rv_tmp' rfl) rfl (List.Sublist.refl _)
    · replace hp := (br_f h2).symm.trans hp
      refine cx_skip' ?_
      show TX E K6 _
      refine tx_k' hK6 ?_
      refine cx_seq' fun K9 hK9 => ?_
      refine cx_draw' mixed (by kernel_rfl) ?_
      refine qx_rd' (rd_gload' gm3 flat35) rfl rfl (wt_none' rfl) ?_
      refine qx_rd' (rd_assign' rfl) rfl rfl (wt_none' rfl) ?_
      refine qx_rd' (rd_assign' rfl) rfl rfl (wt_none' rfl) ?_
      refine qx_nil' ?_
      show TX E K9 _
      refine tx_k' hK9 ?_
      refine cx_retc' ?_
      replace hp := Option.some.inj hp
      subst hp
      refine tx_pick' (L' := [(4, (Vl (.int .i64 0))), (5, (If 67 (Vl (.pointer (some (Ga.a 3))))))]) (H' := [⟨.pointer (some wa0), [(Sl (Ki .u8) r12.1), (Vl (.int .i64 r12.2.1)), (Vl (.int .i8 r12.2.2))], 50, none⟩]) [0] (sub_cons rfl (sub_cons rfl sub_nil)) (by decide) (pick_cons rfl pick_nil) ?_
      exact tx_ret2' Tryd.results35 rfl () (rv_tmp' rfl) (rv_tmp' rfl) rfl (List.Sublist.refl _)
  · replace hp := (br_f h1).symm.trans hp
    cases hp

def io_ReadAtLeast_j6 (k : Nat) (x6 : List Int) (x17 : Int) (x14 : List Int) (x15 : Int) (x16 : Int) (a2 : Int) (x22 : Bool) : Option (((List Int) × Int × Int × (List Int) × Int) ⊕ (((List Int) × Int × Int × (List Int) × Int) ⊕ (((List Int) × Int × Int × (List Int) × Int) ⊕ ((List Int) × Int × Int × (List Int) × Int)))) :=
  br x22
    ((cut x6 x17 (x6.length : Int)) >>= fun r904 =>
    (bytes_Buffer_Read_v2 k x14 x15 x16 r904.length) >>= fun r905 =>
    match r905 with
      | (.inl y3) =>
        (none)
      | (.inr y3) =>
        (none))
    (br (decide (a2 ≤ x17))
      (some (.inr (.inl (x14, x15, x16, x6, x17))))
      (none))
def io_ReadAtLeast_j5a (k : Nat) (a2 : Int) (x6 : List Int) (x14 : List Int) (x15 : Int) (x16 : Int) (x17 : Int) : Option (((List Int) × Int × Int × (List Int) × Int) ⊕ (((List Int) × Int × Int × (List Int) × Int) ⊕ (((List Int) × Int × Int × (List Int) × Int) ⊕ ((List Int) × Int × Int × (List Int) × Int)))) :=
  br (decide (x17 < a2))
    (io_ReadAtLeast_j6 k x6 x17 x14 x15 x16 a2 true)
    (io_ReadAtLeast_j6 k x6 x17 x14 x15 x16 a2 false)
def io_ReadAtLeast_j9a (k : Nat) (x18 : List Int) (x19 : Int) (x20 : Int) (x6 : List Int) (x21 : Int) : Option (((List Int) × Int × Int × (List Int) × Int) ⊕ (((List Int) × Int × Int × (List Int) × Int) ⊕ (((List Int) × Int × Int × (List Int) × Int) ⊕ ((List Int) × Int × Int × (List Int) × Int)))) :=
  some (.inr (.inl (x18, x19, x20, x6, x21)))
def io_ReadAtLeast_j9b (k : Nat) (x18 : List Int) (x19 : Int) (x20 : Int) (x6 : List Int) (x21 : Int) : Option (((List Int) × Int × Int × (List Int) × Int) ⊕ (((List Int) × Int × Int × (List Int) × Int) ⊕ (((List Int) × Int × Int × (List Int) × Int) ⊕ ((List Int) × Int × Int × (List Int) × Int)))) :=
  some (.inr (.inr (.inl (x18, x19, x20, x6, x21))))
def io_ReadAtLeast_j9c (k : Nat) (x18 : List Int) (x19 : Int) (x20 : Int) (x6 : List Int) (x21 : Int) : Option (((List Int) × Int × Int × (List Int) × Int) ⊕ (((List Int) × Int × Int × (List Int) × Int) ⊕ (((List Int) × Int × Int × (List Int) × Int) ⊕ ((List Int) × Int × Int × (List Int) × Int)))) :=
  some (.inr (.inr (.inr (x18, x19, x20, x6, x21))))
def io_ReadAtLeast_j8 (k : Nat) (x18 : List Int) (x19 : Int) (x20 : Int) (x6 : List Int) (x21 : Int) (x23 : Bool) : Option (((List Int) × Int × Int × (List Int) × Int) ⊕ (((List Int) × Int × Int × (List Int) × Int) ⊕ (((List Int) × Int × Int × (List Int) × Int) ⊕ ((List Int) × Int × Int × (List Int) × Int)))) :=
  br x23
    (io_ReadAtLeast_j9b k x18 x19 x20 x6 x21)
    (io_ReadAtLeast_j9c k x18 x19 x20 x6 x21)
def io_ReadAtLeast_j7 (k : Nat) (a2 : Int) (x21 : Int) (x18 : List Int) (x19 : Int) (x20 : Int) (x6 : List Int) : Option (((List Int) × Int × Int × (List Int) × Int) ⊕ (((List Int) × Int × Int × (List Int) × Int) ⊕ (((List Int) × Int × Int × (List Int) × Int) ⊕ ((List Int) × Int × Int × (List Int) × Int)))) :=
  br (decide (a2 ≤ x21))
    (io_ReadAtLeast_j9a k x18 x19 x20 x6 x21)
    (br (decide (0 < x21))
      (io_ReadAtLeast_j8 k x18 x19 x20 x6 x21 true)
      (io_ReadAtLeast_j8 k x18 x19 x20 x6 x21 false))
def io_ReadAtLeast_j5b (k : Nat) (a2 : Int) (x6 : List Int) (x18 : List Int) (x19 : Int) (x20 : Int) (x21 : Int) : Option (((List Int) × Int × Int × (List Int) × Int) ⊕ (((List Int) × Int × Int × (List Int) × Int) ⊕ (((List Int) × Int × Int × (List Int) × Int) ⊕ ((List Int) × Int × Int × (List Int) × Int)))) :=
  br (decide (x21 < a2))
    (io_ReadAtLeast_j7 k a2 x21 x18 x19 x20 x6)
    (io_ReadAtLeast_j7 k a2 x21 x18 x19 x20 x6)
def io_ReadAtLeast_j4 (k : Nat) (x6 : List Int) (x7 : Int) (x3 : List Int) (x4 : Int) (x5 : Int) (a2 : Int) (x13 : Bool) : Option (((List Int) × Int × Int × (List Int) × Int) ⊕ (((List Int) × Int × Int × (List Int) × Int) ⊕ (((List Int) × Int × Int × (List Int) × Int) ⊕ ((List Int) × Int × Int × (List Int) × Int)))) :=
  br x13
    ((cut x6 x7 (x6.length : Int)) >>= fun r902 =>
    (bytes_Buffer_Read_v2 k x3 x4 x5 r902.length) >>= fun r903 =>
    match r903 with
      | (.inl y2) =>
        (io_ReadAtLeast_j5a k a2 x6 y2.1 y2.2.1 y2.2.2.1 (iadd .i64 x7 y2.2.2.2))
      | (.inr y2) =>
        (io_ReadAtLeast_j5b k a2 x6 y2.1 y2.2.1 y2.2.2.1 (iadd .i64 x7 y2.2.2.2)))
    (br (decide (a2 ≤ x7))
      (some (.inr (.inl (x3, x4, x5, x6, x7))))
      (none))
def io_ReadAtLeast_j3a (k : Nat) (a2 : Int) (x3 : List Int) (x4 : Int) (x5 : Int) (x6 : List Int) (x7 : Int) : Option (((List Int) × Int × Int × (List Int) × Int) ⊕ (((List Int) × Int × Int × (List Int) × Int) ⊕ (((List Int) × Int × Int × (List Int) × Int) ⊕ ((List Int) × Int × Int × (List Int) × Int)))) :=
  br (decide (x7 < a2))
    (io_ReadAtLeast_j4 k x6 x7 x3 x4 x5 a2 true)
    (io_ReadAtLeast_j4 k x6 x7 x3 x4 x5 a2 false)
def io_ReadAtLeast_j12a (k : Nat) (x8 : List Int) (x9 : Int) (x10 : Int) (x11 : List Int) (x12 : Int) : Option (((List Int) × Int × Int × (List Int) × Int) ⊕ (((List Int) × Int × Int × (List Int) × Int) ⊕ (((List Int) × Int × Int × (List Int) × Int) ⊕ ((List Int) × Int × Int × (List Int) × Int)))) :=
  some (.inr (.inl (x8, x9, x10, x11, x12)))
def io_ReadAtLeast_j12b (k : Nat) (x8 : List Int) (x9 : Int) (x10 : Int) (x11 : List Int) (x12 : Int) : Option (((List Int) × Int × Int × (List Int) × Int) ⊕ (((List Int) × Int × Int × (List Int) × Int) ⊕ (((List Int) × Int × Int × (List Int) × Int) ⊕ ((List Int) × Int × Int × (List Int) × Int)))) :=
  some (.inr (.inr (.inl (x8, x9, x10, x11, x12))))
def io_ReadAtLeast_j12c (k : Nat) (x8 : List Int) (x9 : Int) (x10 : Int) (x11 : List Int) (x12 : Int) : Option (((List Int) × Int × Int × (List Int) × Int) ⊕ (((List Int) × Int × Int × (List Int) × Int) ⊕ (((List Int) × Int × Int × (List Int) × Int) ⊕ ((List Int) × Int × Int × (List Int) × Int)))) :=
  some (.inr (.inr (.inr (x8, x9, x10, x11, x12))))
def io_ReadAtLeast_j11 (k : Nat) (x8 : List Int) (x9 : Int) (x10 : Int) (x11 : List Int) (x12 : Int) (x24 : Bool) : Option (((List Int) × Int × Int × (List Int) × Int) ⊕ (((List Int) × Int × Int × (List Int) × Int) ⊕ (((List Int) × Int × Int × (List Int) × Int) ⊕ ((List Int) × Int × Int × (List Int) × Int)))) :=
  br x24
    (io_ReadAtLeast_j12b k x8 x9 x10 x11 x12)
    (io_ReadAtLeast_j12c k x8 x9 x10 x11 x12)
def io_ReadAtLeast_j10 (k : Nat) (a2 : Int) (x12 : Int) (x8 : List Int) (x9 : Int) (x10 : Int) (x11 : List Int) : Option (((List Int) × Int × Int × (List Int) × Int) ⊕ (((List Int) × Int × Int × (List Int) × Int) ⊕ (((List Int) × Int × Int × (List Int) × Int) ⊕ ((List Int) × Int × Int × (List Int) × Int)))) :=
  br (decide (a2 ≤ x12))
    (io_ReadAtLeast_j12a k x8 x9 x10 x11 x12)
    (br (decide (0 < x12))
      (io_ReadAtLeast_j11 k x8 x9 x10 x11 x12 true)
      (io_ReadAtLeast_j11 k x8 x9 x10 x11 x12 false))
def io_ReadAtLeast_j3b (k : Nat) (a2 : Int) (x8 : List Int) (x9 : Int) (x10 : Int) (x11 : List Int) (x12 : Int) : Option (((List Int) × Int × Int × (List Int) × Int) ⊕ (((List Int) × Int × Int × (List Int) × Int) ⊕ (((List Int) × Int × Int × (List Int) × Int) ⊕ ((List Int) × Int × Int × (List Int) × Int)))) :=
  br (decide (x12 < a2))
    (io_ReadAtLeast_j10 k a2 x12 x8 x9 x10 x11)
    (io_ReadAtLeast_j10 k a2 x12 x8 x9 x10 x11)
def io_ReadAtLeast_j13 (k : Nat) (a0_0 : List Int) (a0_1 : Int) (a0_2 : Int) (a1 : List Int) : Option (((List Int) × Int × Int × (List Int) × Int) ⊕ (((List Int) × Int × Int × (List Int) × Int) ⊕ (((List Int) × Int × Int × (List Int) × Int) ⊕ ((List Int) × Int × Int × (List Int) × Int)))) :=
  some (.inr (.inl (a0_0, a0_1, a0_2, a1, 0)))
def io_ReadAtLeast_j2 (k : Nat) (a0_0 : List Int) (a0_1 : Int) (a0_2 : Int) (a1 : List Int) (a2 : Int) (x2 : Bool) : Option (((List Int) × Int × Int × (List Int) × Int) ⊕ (((List Int) × Int × Int × (List Int) × Int) ⊕ (((List Int) × Int × Int × (List Int) × Int) ⊕ ((List Int) × Int × Int × (List Int) × Int)))) :=
  br x2
    ((bytes_Buffer_Read k a0_0 a0_1 a0_2 a1) >>= fun r901 =>
    match r901 with
      | (.inl y1) =>
        (io_ReadAtLeast_j3a k a2 y1.1 y1.2.1 y1.2.2.1 y1.2.2.2.1 (iadd .i64 0 y1.2.2.2.2))
      | (.inr y1) =>
        (io_ReadAtLeast_j3b k a2 y1.1 y1.2.1 y1.2.2.1 y1.2.2.2.1 (iadd .i64 0 y1.2.2.2.2)))
    (br (decide (a2 ≤ 0))
      (io_ReadAtLeast_j13 k a0_0 a0_1 a0_2 a1)
      (io_ReadAtLeast_j13 k a0_0 a0_1 a0_2 a1))
def io_ReadAtLeast (k : Nat) (a0_0 : List Int) (a0_1 : Int) (a0_2 : Int) (a1 : List Int) (a2 : Int) : Option (((List Int) × Int × Int × (List Int) × Int) ⊕ (((List Int) × Int × Int × (List Int) × Int) ⊕ (((List Int) × Int × Int × (List Int) × Int) ⊕ ((List Int) × Int × Int × (List Int) × Int)))) :=
  br (decide ((a1.length : Int) < a2))
    (some (.inl (a0_0, a0_1, a0_2, a1, 0)))
    (br (decide (0 < a2))
      (io_ReadAtLeast_j2 k a0_0 a0_1 a0_2 a1 a2 true)
      (io_ReadAtLeast_j2 k a0_0 a0_1 a0_2 a1 a2 false))
def io_ReadAtLeast_r (wa0 : Addr) (wa1 : Addr) (a0_0 : List Int) (a0_1 : Int) (a0_2 : Int) (a1 : List Int) (a2 : Int) (out : ((List Int) × Int × Int × (List Int) × Int) ⊕ (((List Int) × Int × Int × (List Int) × Int) ⊕ (((List Int) × Int × Int × (List Int) × Int) ⊕ ((List Int) × Int × Int × (List Int) × Int)))) (w : Unit) : SV := match out with
  | (.inl y) => (Tu [(Vl (.int .i64 y.2.2.2.2)), (If 67 (Vl (.pointer (some (Ga.a 2)))))])
  | (.inr (.inl y)) => (Tu [(Vl (.int .i64 y.2.2.2.2)), (Vl .nilIface)])
  | (.inr (.inr (.inl y))) => (Tu [(Vl (.int .i64 y.2.2.2.2)), (If 67 (Vl (.pointer (some (Ga.a 4)))))])
  | (.inr (.inr (.inr y))) => (Tu [(Vl (.int .i64 y.2.2.2.2)), (If 67 (Vl (.pointer (some (Ga.a 3)))))])
def io_ReadAtLeast_h (wa0 : Addr) (wa1 : Addr) (a0_0 : List Int) (a0_1 : Int) (a0_2 : Int) (a1 : List Int) (a2 : Int) (out : ((List Int) × Int × Int × (List Int) × Int) ⊕ (((List Int) × Int × Int × (List Int) × Int) ⊕ (((List Int) × Int × Int × (List Int) × Int) ⊕ ((List Int) × Int × Int × (List Int) × Int)))) (w : Unit) : List Res := match out with
  | (.inl y) => [⟨.pointer (some wa0), [(Sl (Ki .u8) y.1), (Vl (.int .i64 y.2.1)), (Vl (.int .i8 y.2.2.1))], 50, none⟩, (Rw (Ki .u8) 55 (Vs (some wa1, 4, 4)) y.2.2.2.1)]
  | (.inr (.inl y)) => [⟨.pointer (some wa0), [(Sl (Ki .u8) y.1), (Vl (.int .i64 y.2.1)), (Vl (.int .i8 y.2.2.1))], 50, none⟩, (Rw (Ki .u8) 55 (Vs (some wa1, 4, 4)) y.2.2.2.1)]
  | (.inr (.inr (.inl y))) => [⟨.pointer (some wa0), [(Sl (Ki .u8) y.1), (Vl (.int .i64 y.2.1)), (Vl (.int .i8 y.2.2.1))], 50, none⟩, (Rw (Ki .u8) 55 (Vs (some wa1, 4, 4)) y.2.2.2.1)]
  | (.inr (.inr (.inr y))) => [⟨.pointer (some wa0), [(Sl (Ki .u8) y.1), (Vl (.int .i64 y.2.1)), (Vl (.int .i8 y.2.2.1))], 50, none⟩, (Rw (Ki .u8) 55 (Vs (some wa1, 4, 4)) y.2.2.2.1)]

theorem io_ReadAtLeast_sim {k : Nat} {wa0 : Addr} {wa1 : Addr} (a0_0 : List Int) (a0_1 : Int) (a0_2 : Int) (a1 : List Int) (a2 : Int) {out : ((List Int) × Int × Int × (List Int) × Int) ⊕ (((List Int) × Int × Int × (List Int) × Int) ⊕ (((List Int) × Int × Int × (List Int) × Int) ⊕ ((List Int) × Int × Int × (List Int) × Int)))} (hp : io_ReadAtLeast k a0_0 a0_1 a0_2 a1 a2 = some out) : Go.Sx.Fn Tryd.prog 19 [(If 32 (Vl (.pointer (some wa0)))), (Vl (Vs (some wa1, 4, 4))), (Vl (.int .i64 a2))] [⟨.pointer (some wa0), [(Sl (Ki .u8) a0_0), (Vl (.int .i64 a0_1)), (Vl (.int .i8 a0_2))], 50, none⟩, (Rw (Ki .u8) 55 (Vs (some wa1, 4, 4)) a1)] (fun w => io_ReadAtLeast_r wa0 wa1 a0_0 a0_1 a0_2 a1 a2 out w) (fun w => io_ReadAtLeast_h wa0 wa1 a0_0 a0_1 a0_2 a1 a2 out w) := by
  unfold io_ReadAtLeast at hp
  refine fn_of Tryd.func19 rfl Tryd.ntmps19 rfl fun E hM => ?_
  refine cx_seq' fun K11 hK11 => ?_
  refine cx_region' ?_
  refine sx_rd' (rd_assign' rfl) rfl rfl (wt_none' rfl) ?_
  refine sx_rd' (rd_assign' rfl) rfl rfl (wt_none' rfl) ?_
  refine sx_nil' ?_
  show TX E K11 _
  refine tx_k' hK11 ?_
  refine cx_seq' fun K12 hK12 => ?_
  refine cx_seq' fun K13 hK13 => ?_
  refine cx_region' ?_
  refine sx_rd' (rd_move' rfl) rfl rfl (wt_none' rfl) ?_
  refine sx_rd' (rd_lenr' (i := 1) rfl rfl rfl Tryd.underlying22) rfl rfl (wt_none' rfl) ?_
  refine sx_rd' (rd_move' rfl) rfl rfl (wt_none' rfl) ?_
  refine sx_rd' (rd_bin' rfl rfl eg_int ru_lss) rfl rfl (wt_none' rfl) ?_
  refine sx_nil' ?_
  show TX E K13 _
  refine tx_k' hK13 ?_
  refine cx_cond' rfl (fun h4 => ?_) (fun h4 => ?_)
  · replace hp := (br_t h4).symm.trans hp
    refine cx_seq' fun K14 hK14 => ?_
    refine cx_draw' mixed (by kernel_rfl) ?_
    refine qx_rd' (rd_gload' gm2 flat35) rfl rfl (wt_none' rfl) ?_
    refine qx_rd' (rd_assign' rfl) rfl rfl (wt_none' rfl) ?_
    refine qx_rd' (rd_assign' rfl) rfl rfl (wt_none' rfl) ?_
    refine qx_nil' ?_
    show TX E K14 _
    refine tx_k' hK14 ?_
    refine cx_retc' ?_
    replace hp := Option.some.inj hp
    subst hp
    refine tx_pick' (L' := [(6, (Vl (.int .i64 0))), (7, (If 67 (Vl (.pointer (some (Ga.a 2))))))]) (H' := [⟨.pointer (some wa0), [(Sl (Ki .u8) a0_0), (Vl (.int .i64 a0_1)), (Vl (.int .i8 a0_2))], 50, none⟩, (Rw (Ki .u8) 55 (Vs (some wa1, 4, 4)) a1)]) [0, 1] (sub_cons rfl (sub_cons rfl sub_nil)) (by decide) (pick_cons rfl (pick_cons rfl pick_nil)) ?_
    exact tx_ret2' Tryd.results19 rfl () (rv_tmp' rfl) (rv_tmp' rfl) rfl (List.Sublist.refl _)
  · replace hp := (br_f h4).symm.trans hp
    refine cx_skip' ?_
    show TX E K12 _
    refine tx_k' hK12 ?_
    refine cx_seq' fun K15 hK15 => ?_
    refine cx_block' ?_
    refine tx_loop' ?_
    refine tx_roundj' (fun (v : ((List Int) × Int × Int × (List Int) × Int) ⊕ ((List Int) × Int × Int × (List Int) × Int)) => match v with | (.inl v3) => (⟨46, [], [(0, (If 32 (Vl (.pointer (some wa0))))), (1, (Vl (Vs (some wa1, 4, 4)))), (2, (Vl (.int .i64 a2))), (6, (Vl (.int .i64 v3.2.2.2.2))), (7, (Vl .nilIface))], [⟨.pointer (some wa0), [(Sl (Ki .u8) v3.1), (Vl (.int .i64 v3.2.1)), (Vl (.int .i8 v3.2.2.1))], 50, none⟩, (Rw (Ki .u8) 55 (Vs (some wa1, 4, 4)) v3.2.2.2.1)]⟩ : St) | (.inr v4) => (⟨46, [], [(0, (If 32 (Vl (.pointer (some wa0))))), (1, (Vl (Vs (some wa1, 4, 4)))), (2, (Vl (.int .i64 a2))), (6, (Vl (.int .i64 v4.2.2.2.2))), (7, (If 67 (Vl (.pointer (some (Ga.a 3))))))], [⟨.pointer (some wa0), [(Sl (Ki .u8) v4.1), (Vl (.int .i64 v4.2.1)), (Vl (.int .i8 v4.2.2.1))], 50, none⟩, (Rw (Ki .u8) 55 (Vs (some wa1, 4, 4)) v4.2.2.2.1)]⟩ : St)) (fun (v : ((List Int) × Int × Int × (List Int) × Int) ⊕ ((List Int) × Int × Int × (List Int) × Int)) => match v with | (.inl v3) => (io_ReadAtLeast_j3a k a2 v3.1 v3.2.1 v3.2.2.1 v3.2.2.2.1 v3.2.2.2.2 = some out) | (.inr v4) => (io_ReadAtLeast_j3b k a2 v4.1 v4.2.1 v4.2.2.1 v4.2.2.2.1 v4.2.2.2.2 = some out)) ?_ ?_
    · rintro (⟨x3, x4, x5, x6, x7⟩ | ⟨x8, x9, x10, x11, x12⟩) hp
      · replace hp : io_ReadAtLeast_j3a k a2 x3 x4 x5 x6 x7 = some out := hp
        unfold io_ReadAtLeast_j3a at hp
        refine tx_roundj' (fun (v : ((List Int) × Int × Int × Int) ⊕ ((List Int) × Int × Int × Int)) => match v with | (.inl v6) => (⟨46, [], [(0, (If 32 (Vl (.pointer (some wa0))))), (1, (Vl (Vs (some wa1, 4, 4)))), (2, (Vl (.int .i64 a2))), (6, (Vl (.int .i64 v6.2.2.2))), (7, (Vl .nilIface))], [⟨.pointer (some wa0), [(Sl (Ki .u8) v6.1), (Vl (.int .i64 v6.2.1)), (Vl (.int .i8 v6.2.2.1))], 50, none⟩, (Rw (Ki .u8) 55 (Vs (some wa1, 4, 4)) x6)]⟩ : St) | (.inr v7) => (⟨46, [], [(0, (If 32 (Vl (.pointer (some wa0))))), (1, (Vl (Vs (some wa1, 4, 4)))), (2, (Vl (.int .i64 a2))), (6, (Vl (.int .i64 v7.2.2.2))), (7, (If 67 (Vl (.pointer (some (Ga.a 3))))))], [⟨.pointer (some wa0), [(Sl (Ki .u8) v7.1), (Vl (.int .i64 v7.2.1)), (Vl (.int .i8 v7.2.2.1))], 50, none⟩, (Rw (Ki .u8) 55 (Vs (some wa1, 4, 4)) x6)]⟩ : St)) (fun (v : ((List Int) × Int × Int × Int) ⊕ ((List Int) × Int × Int × Int)) => match v with | (.inl v6) => (io_ReadAtLeast_j5a k a2 x6 v6.1 v6.2.1 v6.2.2.1 v6.2.2.2 = some out) | (.inr v7) => (io_ReadAtLeast_j5b k a2 x6 v7.1 v7.2.1 v7.2.2.1 v7.2.2.2 = some out)) ?_ ?_
        · rintro (⟨x14, x15, x16, x17⟩ | ⟨x18, x19, x20, x21⟩) hp
          · replace hp : io_ReadAtLeast_j5a k a2 x6 x14 x15 x16 x17 = some out := hp
            unfold io_ReadAtLeast_j5a at hp
            refine tx_round' ?_
            refine cx_seq' fun K28 hK28 => ?_
            refine cx_seq' fun K29 hK29 => ?_
            refine cx_region' ?_
            refine sx_rd' (rd_move' rfl) rfl rfl (wt_none' rfl) ?_
            refine sx_rd' (rd_move' rfl) rfl rfl (wt_none' rfl) ?_
            refine sx_rd' (rd_bin' rfl rfl eg_int ru_lss) rfl rfl (wt_none' rfl) ?_
            refine sx_rd' (rd_move' rfl) rfl rfl (wt_none' rfl) ?_
            refine sx_cutn' 3 (fun (v8 : Bool) => (⟨46, [], [(0, (If 32 (Vl (.pointer (some wa0))))), (1, (Vl (Vs (some wa1, 4, 4)))), (2, (Vl (.int .i64 a2))), (6, (Vl (.int .i64 x17))), (7, (Vl .nilIface)), (20, (Vl (.bool v8)))], [⟨.pointer (some wa0), [(Sl (Ki .u8) x14), (Vl (.int .i64 x15)), (Vl (.int .i8 x16))], 50, none⟩, (Rw (Ki .u8) 55 (Vs (some wa1, 4, 4)) x6)]⟩ : St)) (fun (v8 : Bool) => io_ReadAtLeast_j6 k x6 x17 x14 x15 x16 a2 v8 = some out) ?_ ?_
            · rintro x22 hp
              replace hp : io_ReadAtLeast_j6 k x6 x17 x14 x15 x16 a2 x22 = some out := hp
              unfold io_ReadAtLeast_j6 at hp
              refine sx_nil' ?_
              show TX E K29 _
              refine tx_k' hK29 ?_
              refine cx_cond' rfl (fun h10 => ?_) (fun h10 => ?_)
              · replace hp := (br_t h10).symm.trans hp
                refine cx_skip' ?_
                show TX E K28 _
                refine tx_k' hK28 ?_
                refine cx_block' ?_
                refine cx_seq' fun K31 hK31 => ?_
                refine cx_region' ?_
                refine sx_rd' (rd_assign' rfl) rfl rfl (wt_none' rfl) ?_
                refine sx_nil' ?_
                show TX E K31 _
                refine tx_k' hK31 ?_
                refine cx_seq' fun K32 hK32 => ?_
                refine cx_plan' [] [(7, 1)] [(0, 1), (1, 1), (2, 1), (3, 1), (4, 1), (5, 1), (6, 1), (7, 0), (8, 1), (9, 1), (10, 1), (11, 1), (12, 1)] mixed (by kernel_rfl) ?_
                refine px_rd' rfl (rd_move' rfl) rfl rfl (wt_none' rfl) ?_
                refine px_rd' rfl (rd_move' rfl) rfl rfl (wt_none' rfl) ?_
                refine px_rd' rfl (rd_move' rfl) rfl rfl (wt_none' rfl) ?_
                obtain ⟨r904, hr904, hp⟩ := bind_some hp
                refine px_rd' rfl (rd_cutn_l' (K := (Ki .u8)) (i := 1) rfl rfl rfl rfl hr904 Tryd.underlying22 info5) rfl rfl (wt_none' rfl) ?_
                refine px_rd' rfl (rd_mkmeth' rfl) rfl rfl (wt_none' rfl) ?_
                refine px_rd' rfl (rd_nilck_mf' rfl (fun _ _ v hv w => by rw [show v = _ from hv]; exact nla32_Read_ptr _ w)) rfl rfl (wt_none' rfl) ?_
                refine px_rd' rfl (rd_move' rfl) rfl rfl (wt_none' rfl) ?_
                obtain ⟨r905, hr905, hp⟩ := bind_some hp
                rcases r905 with y3 | y3
                · dsimp only at hp
                  refine px_oxb' (is := [0]) rfl (oxb_callg (ent_inv' rfl rfl (inv_any1 inv32_Read)) (bytes_Buffer_Read_v2_sim _ _ _ _ hr905 : Go.Sx.Fn Tryd.prog 35 [(Vl (.pointer (some wa0))), (Ln r904.length)] [⟨.pointer (some wa0), [(Sl (Ki .u8) x14), (Vl (.int .i64 x15)), (Vl (.int .i8 x16))], 50, none⟩] (fun x : Unit => (Tu [(Vl (.int .i64 y3.2.2.2)), (Vl .nilIface)])) (fun x => [⟨.pointer (some wa0), [(Sl (Ki .u8) y3.1), (Vl (.int .i64 y3.2.1)), (Vl (.int .i8 y3.2.2.1))], 50, none⟩])) [0] [1] (by decide) (pick_cons rfl pick_nil) (pick_cons rfl pick_nil) (Hn := fun x : Unit => [⟨.pointer (some wa0), [(Sl (Ki .u8) y3.1), (Vl (.int .i64 y3.2.1)), (Vl (.int .i8 y3.2.2.1))], 50, none⟩, (Rw (Ki .u8) 55 (Vs (some wa1, 4, 4)) x6)]) (fun _ => rfl) rfl rfl) (pick_cons rfl pick_nil) rfl bl_nil (wt_none' rfl) fun ⟨⟩ => ?_
                  refine px_rd' rfl (rd_move' rfl) rfl rfl (wt_none' rfl) ?_
                  refine px_rd' rfl (rd_extract' rfl rfl) rfl rfl (wt_none' rfl) ?_
                  refine px_rd' rfl (rd_extract' rfl rfl) rfl rfl (wt_none' rfl) ?_
                  refine px_rd' rfl (rd_assign' rfl) rfl rfl (wt_none' rfl) ?_
                  refine px_rd' rfl (rd_assign' rfl) rfl rfl (wt_none' rfl) ?_
                  refine px_nil' ?_
                  show TX E K32 _
                  refine tx_k' hK32 ?_
                  refine cx_region' ?_
                  refine sx_rd' (rd_move' rfl) rfl rfl (wt_none' rfl) ?_
                  refine sx_rd' (rd_move' rfl) rfl rfl (wt_none' rfl) ?_
                  refine sx_rd' (rd_bin' rfl rfl eg_int ru_add) rfl rfl (wt_none' rfl) ?_
                  refine sx_rd' (rd_assign' rfl) rfl rfl (wt_none' rfl) ?_
                  refine sx_nil' ?_
                  cases hp
                · dsimp only at hp
                  refine px_oxb' (is := [0]) rfl (oxb_callg (ent_inv' rfl rfl (inv_any1 inv32_Read)) (bytes_Buffer_Read_v2_sim _ _ _ _ hr905 : Go.Sx.Fn Tryd.prog 35 [(Vl (.pointer (some wa0))), (Ln r904.length)] [⟨.pointer (some wa0), [(Sl (Ki .u8) x14), (Vl (.int .i64 x15)), (Vl (.int .i8 x16))], 50, none⟩] (fun x : Unit => (Tu [(Vl (.int .i64 y3.2.2.2)), (If 67 (Vl (.pointer (some (Ga.a 3)))))])) (fun x => [⟨.pointer (some wa0), [(Sl (Ki .u8) y3.1), (Vl (.int .i64 y3.2.1)), (Vl (.int .i8 y3.2.2.1))], 50, none⟩])) [0] [1] (by decide) (pick_cons rfl pick_nil) (pick_cons rfl pick_nil) (Hn := fun x : Unit => [⟨.pointer (some wa0), [(Sl (Ki .u8) y3.1), (Vl (.int .i64 y3.2.1)), (Vl (.int .i8 y3.2.2.1))], 50, none⟩, (Rw (Ki .u8) 55 (Vs (some wa1, 4, 4)) x6)]) (fun _ => rfl) rfl rfl) (pick_cons rfl pick_nil) rfl bl_nil (wt_none' rfl) fun ⟨⟩ => ?_
                  refine px_rd' rfl (rd_move' rfl) rfl rfl (wt_none' rfl) ?_
                  refine px_rd' rfl (rd_extract' rfl rfl) rfl rfl (wt_none' rfl) ?_
                  refine px_rd' rfl (rd_extract' rfl rfl) rfl rfl (wt_none' rfl) ?_
                  refine px_rd' rfl (rd_assign' rfl) rfl rfl (wt_none' rfl) ?_
                  refine px_rd' rfl (rd_assign' rfl) rfl rfl (wt_none' rfl) ?_
                  refine px_nil' ?_
                  show TX E K32 _
                  refine tx_k' hK32 ?_
                  refine cx_region' ?_
                  refine sx_rd' (rd_move' rfl) rfl rfl (wt_none' rfl) ?_
                  refine sx_rd' (rd_move' rfl) rfl rfl (wt_none' rfl) ?_
                  refine sx_rd' (rd_bin' rfl rfl eg_int ru_add) rfl rfl (wt_none' rfl) ?_
                  refine sx_rd' (rd_assign' rfl) rfl rfl (wt_none' rfl) ?_
                  refine sx_nil' ?_
                  cases hp
              · replace hp := (br_f h10).symm.trans hp
                refine cx_exit' ?_
                show TX E K15 _
                refine tx_k' hK15 ?_
                refine cx_seq' fun K33 hK33 => ?_
                refine cx_seq' fun K34 hK34 => ?_
                refine cx_region' ?_
                refine sx_rd' (rd_move' rfl) rfl rfl (wt_none' rfl) ?_
                refine sx_rd' (rd_move' rfl) rfl rfl (wt_none' rfl) ?_
                refine sx_rd' (rd_bin' rfl rfl eg_int ru_geq) rfl rfl (wt_none' rfl) ?_
                refine sx_nil' ?_
                show TX E K34 _
                refine tx_k' hK34 ?_
                refine cx_cond' rfl (fun h11 => ?_) (fun h11 => ?_)
                · replace hp := (br_t h11).symm.trans hp
                  refine cx_region' ?_
                  refine sx_rd' (rd_assign' rfl) rfl rfl (wt_none' rfl) ?_
                  refine sx_nil' ?_
                  show TX E K33 _
                  refine tx_k' hK33 ?_
                  refine cx_retc' ?_
                  replace hp := Option.some.inj hp
                  subst hp
                  refine tx_pick' (L' := [(6, (Vl (.int .i64 x17))), (7, (Vl .nilIface))]) (H' := [⟨.pointer (some wa0), [(Sl (Ki .u8) x14), (Vl (.int .i64 x15)), (Vl (.int .i8 x16))], 50, none⟩, (Rw (Ki .u8) 55 (Vs (some wa1, 4, 4)) x6)]) [0, 1] (sub_cons rfl (sub_cons rfl sub_nil)) (by decide) (pick_cons rfl (pick_cons rfl pick_nil)) ?_
                  exact tx_ret2' Tryd.results19 rfl () (rv_tmp' rfl) (rv_tmp' rfl) rfl (List.Sublist.refl _)
                · replace hp := (br_f h11).symm.trans hp
                  cases hp
            · intro K30 hK30
              rcases br_cases hp with ⟨h9, hp⟩ | ⟨h9, hp⟩
              · refine sx_rd' (rd_move' rfl) rfl rfl (wt_is' (wt_guard' rfl rfl rfl) (beq_tt h9)) ?_
                refine sx_rd' (rd_binf' rfl rfl (bf_vl (fun _ => by kernel_rfl) nil_eql35_nilif)) rfl rfl (wt_is' (wt_guard' rfl rfl rfl) (beq_tt h9)) ?_
                refine sx_rd' (rd_pick_true' rfl h9 rfl) rfl rfl (wt_none' rfl) ?_
                refine sx_nil' ?_
                show TX E K30 _
                exact tx_pick' [0, 1] (sub_cons rfl (sub_cons rfl (sub_cons rfl (sub_cons rfl (sub_cons rfl (sub_cons rfl sub_nil)))))) (by decide) (pick_cons rfl (pick_cons rfl pick_nil)) (hK30 true hp)
              · refine sx_skip' rfl rfl (wt_is' (wt_guard' rfl rfl rfl) (beq_ft h9)) ?_
                refine sx_skip' rfl rfl (wt_is' (wt_guard' rfl rfl rfl) (beq_ft h9)) ?_
                refine sx_rd' (rd_pick_false' rfl h9 rfl) rfl rfl (wt_none' rfl) ?_
                refine sx_nil' ?_
                show TX E K30 _
                exact tx_pick' [0, 1] (sub_cons rfl (sub_cons rfl (sub_cons rfl (sub_cons rfl (sub_cons rfl (sub_cons rfl sub_nil)))))) (by decide) (pick_cons rfl (pick_cons rfl pick_nil)) (hK30 false hp)
          · replace hp : io_ReadAtLeast_j5b k a2 x6 x18 x19 x20 x21 = some out := hp
            unfold io_ReadAtLeast_j5b at hp
            refine tx_round' ?_
            refine cx_seq' fun K36 hK36 => ?_
            refine cx_seq' fun K37 hK37 => ?_
            refine cx_region' ?_
            refine sx_rd' (rd_move' rfl) rfl rfl (wt_none' rfl) ?_
            refine sx_rd' (rd_move' rfl) rfl rfl (wt_none' rfl) ?_
            refine sx_rd' (rd_bin' rfl rfl eg_int ru_lss) rfl rfl (wt_none' rfl) ?_
            refine sx_rd' (rd_move' rfl) rfl rfl (wt_none' rfl) ?_
            refine sx_cutn' 3 (fun (v9 : Unit) => (⟨46, [], [(0, (If 32 (Vl (.pointer (some wa0))))), (1, (Vl (Vs (some wa1, 4, 4)))), (2, (Vl (.int .i64 a2))), (6, (Vl (.int .i64 x21))), (7, (If 67 (Vl (.pointer (some (Ga.a 3)))))), (20, (Vl (.bool false)))], [⟨.pointer (some wa0), [(Sl (Ki .u8) x18), (Vl (.int .i64 x19)), (Vl (.int .i8 x20))], 50, none⟩, (Rw (Ki .u8) 55 (Vs (some wa1, 4, 4)) x6)]⟩ : St)) (fun (v9 : Unit) => io_ReadAtLeast_j7 k a2 x21 x18 x19 x20 x6 = some out) ?_ ?_
            · rintro ⟨⟩ hp
              replace hp : io_ReadAtLeast_j7 k a2 x21 x18 x19 x20 x6 = some out := hp
              unfold io_ReadAtLeast_j7 at hp
              refine sx_nil' ?_
              show TX E K37 _
              refine tx_k' hK37 ?_
              refine cx_cond_f' rfl rfl ?_
              refine cx_exit' ?_
              show TX E K15 _
              refine tx_k' hK15 ?_
              refine cx_join' (fun (v : Unit ⊕ (Unit ⊕ Unit)) => match v with | (.inl v11) => (⟨46, [], [(6, (Vl (.int .i64 x21))), (7, (Vl .nilIface))], [⟨.pointer (some wa0), [(Sl (Ki .u8) x18), (Vl (.int .i64 x19)), (Vl (.int .i8 x20))], 50, none⟩, (Rw (Ki .u8) 55 (Vs (some wa1, 4, 4)) x6)]⟩ : St) | (.inr (.inl v12)) => (⟨46, [], [(6, (Vl (.int .i64 x21))), (7, (If 67 (Vl (.pointer (some (Ga.a 4))))))], [⟨.pointer (some wa0), [(Sl (Ki .u8) x18), (Vl (.int .i64 x19)), (Vl (.int .i8 x20))], 50, none⟩, (Rw (Ki .u8) 55 (Vs (some wa1, 4, 4)) x6)]⟩ : St) | (.inr (.inr v13)) => (⟨46, [], [(6, (Vl (.int .i64 x21))), (7, (If 67 (Vl (.pointer (some (Ga.a 3))))))], [⟨.pointer (some wa0), [(Sl (Ki .u8) x18), (Vl (.int .i64 x19)), (Vl (.int .i8 x20))], 50, none⟩, (Rw (Ki .u8) 55 (Vs (some wa1, 4, 4)) x6)]⟩ : St)) (fun (v : Unit ⊕ (Unit ⊕ Unit)) => match v with | (.inl v11) => (io_ReadAtLeast_j9a k x18 x19 x20 x6 x21 = some out) | (.inr (.inl v12)) => (io_ReadAtLeast_j9b k x18 x19 x20 x6 x21 = some out) | (.inr (.inr v13)) => (io_ReadAtLeast_j9c k x18 x19 x20 x6 x21 = some out)) ?_ ?_
              · rintro (⟨⟩ | ⟨⟩ | ⟨⟩) hp
                · replace hp : io_ReadAtLeast_j9a k x18 x19 x20 x6 x21 = some out := hp
                  unfold io_ReadAtLeast_j9a at hp
                  refine cx_retc' ?_
                  replace hp := Option.some.inj hp
                  subst hp
                  refine tx_pick' (L' := [(6, (Vl (.int .i64 x21))), (7, (Vl .nilIface))]) (H' := [⟨.pointer (some wa0), [(Sl (Ki .u8) x18), (Vl (.int .i64 x19)), (Vl (.int .i8 x20))], 50, none⟩, (Rw (Ki .u8) 55 (Vs (some wa1, 4, 4)) x6)]) [0, 1] (sub_cons rfl (sub_cons rfl sub_nil)) (by decide) (pick_cons rfl (pick_cons rfl pick_nil)) ?_
                  exact tx_ret2' Tryd.results19 rfl () (rv_tmp' rfl) (rv_tmp' rfl) rfl (List.Sublist.refl _)
                · replace hp : io_ReadAtLeast_j9b k x18 x19 x20 x6 x21 = some out := hp
                  unfold io_ReadAtLeast_j9b at hp
                  refine cx_retc' ?_
                  replace hp := Option.some.inj hp
                  subst hp
                  refine tx_pick' (L' := [(6, (Vl (.int .i64 x21))), (7, (If 67 (Vl (.pointer (some (Ga.a 4))))))]) (H' := [⟨.pointer (some wa0), [(Sl (Ki .u8) x18), (Vl (.int .i64 x19)), (Vl (.int .i8 x20))], 50, none⟩, (Rw (Ki .u8) 55 (Vs (some wa1, 4, 4)) x6)]) [0, 1] (sub_cons rfl (sub_cons rfl sub_nil)) (by decide) (pick_cons rfl (pick_cons rfl pick_nil)) ?_
                  exact tx_ret2' Tryd.results19 rfl () (rv_tmp' rfl) (rv_tmp' rfl) rfl (List.Sublist.refl _)
                · replace hp : io_ReadAtLeast_j9c k x18 x19 x20 x6 x21 = some out := hp
                  unfold io_ReadAtLeast_j9c at hp
                  refine cx_retc' ?_
                  replace hp := Option.some.inj hp
                  subst hp
                  refine tx_pick' (L' := [(6, (Vl (.int .i64 x21))), (7, (If 67 (Vl (.pointer (some (Ga.a 3))))))]) (H' := [⟨.pointer (some wa0), [(Sl (Ki .u8) x18), (Vl (.int .i64 x19)), (Vl (.int .i8 x20))], 50, none⟩, (Rw (Ki .u8) 55 (Vs (some wa1, 4, 4)) x6)]) [0, 1] (sub_cons rfl (sub_cons rfl sub_nil)) (by decide) (pick_cons rfl (pick_cons rfl pick_nil)) ?_
                  exact tx_ret2' Tryd.results19 rfl () (rv_tmp' rfl) (rv_tmp' rfl) rfl (List.Sublist.refl _)
              · intro K39 hK39
                refine cx_seq' fun K40 hK40 => ?_
                refine cx_region' ?_
                refine sx_rd' (rd_move' rfl) rfl rfl (wt_none' rfl) ?_
                refine sx_rd' (rd_move' rfl) rfl rfl (wt_none' rfl) ?_
                refine sx_rd' (rd_bin' rfl rfl eg_int ru_geq) rfl rfl (wt_none' rfl) ?_
                refine sx_nil' ?_
                show TX E K40 _
                refine tx_k' hK40 ?_
                refine cx_cond' rfl (fun h14 => ?_) (fun h14 => ?_)
                · replace hp := (br_t h14).symm.trans hp
                  refine cx_region' ?_
                  refine sx_rd' (rd_assign' rfl) rfl rfl (wt_none' rfl) ?_
                  refine sx_nil' ?_
                  show TX E K39 _
                  exact tx_pick' [0, 1] (sub_cons rfl (sub_cons rfl sub_nil)) (by decide) (pick_cons rfl (pick_cons rfl pick_nil)) (hK39 (.inl ()) hp)
                · replace hp := (br_f h14).symm.trans hp
                  refine cx_seq' fun K41 hK41 => ?_
                  refine cx_region' ?_
                  refine sx_rd' (rd_move' rfl) rfl rfl (wt_none' rfl) ?_
                  refine sx_rd' (rd_bin' rfl rfl eg_int ru_gtr) rfl rfl (wt_none' rfl) ?_
                  refine sx_rd' (rd_move' rfl) rfl rfl (wt_none' rfl) ?_
                  refine sx_cutn' 4 (fun (v10 : Bool) => (⟨46, [], [(6, (Vl (.int .i64 x21))), (7, (If 67 (Vl (.pointer (some (Ga.a 3)))))), (44, (Vl (.bool v10)))], [⟨.pointer (some wa0), [(Sl (Ki .u8) x18), (Vl (.int .i64 x19)), (Vl (.int .i8 x20))], 50, none⟩, (Rw (Ki .u8) 55 (Vs (some wa1, 4, 4)) x6)]⟩ : St)) (fun (v10 : Bool) => io_ReadAtLeast_j8 k x18 x19 x20 x6 x21 v10 = some out) ?_ ?_
                  · rintro x23 hp
                    replace hp : io_ReadAtLeast_j8 k x18 x19 x20 x6 x21 x23 = some out := hp
                    unfold io_ReadAtLeast_j8 at hp
                    refine sx_nil' ?_
                    show TX E K41 _
                    refine tx_k' hK41 ?_
                    refine cx_cond' rfl (fun h16 => ?_) (fun h16 => ?_)
                    · replace hp := (br_t h16).symm.trans hp
                      refine cx_region' ?_
                      refine sx_rd' (rd_gload' gm4 flat35) rfl rfl (wt_none' rfl) ?_
                      refine sx_rd' (rd_assign' rfl) rfl rfl (wt_none' rfl) ?_
                      refine sx_nil' ?_
                      show TX E K39 _
                      exact tx_pick' [0, 1] (sub_cons rfl (sub_cons rfl sub_nil)) (by decide) (pick_cons rfl (pick_cons rfl pick_nil)) (hK39 (.inr (.inl ())) hp)
                    · replace hp := (br_f h16).symm.trans hp
                      refine cx_skip' ?_
                      show TX E K39 _
                      exact tx_pick' [0, 1] (sub_cons rfl (sub_cons rfl sub_nil)) (by decide) (pick_cons rfl (pick_cons rfl pick_nil)) (hK39 (.inr (.inr ())) hp)
                  · intro K42 hK42
                    rcases br_cases hp with ⟨h15, hp⟩ | ⟨h15, hp⟩
                    · refine sx_rd' (rd_move' rfl) rfl rfl (wt_is' (wt_guard' rfl rfl rfl) (beq_tt h15)) ?_
                      refine sx_rd' (rd_gload' gm3 flat35) rfl rfl (wt_is' (wt_guard' rfl rfl rfl) (beq_tt h15)) ?_
                      refine sx_rd' (rd_eqifp' rfl rfl Tryd.underlying35 Tryd.underlying67 cmp67 is95) rfl rfl (wt_is' (wt_guard' rfl rfl rfl) (beq_tt h15)) ?_
                      refine sx_rd' (rd_pick_true' rfl h15 rfl) rfl rfl (wt_none' rfl) ?_
                      refine sx_nil' ?_
                      show TX E K42 _
                      exact tx_pick' [0, 1] (sub_cons rfl (sub_cons rfl (sub_cons rfl sub_nil))) (by decide) (pick_cons rfl (pick_cons rfl pick_nil)) (hK42 true hp)
                    · refine sx_skip' rfl rfl (wt_is' (wt_guard' rfl rfl rfl) (beq_ft h15)) ?_
                      refine sx_skip' rfl rfl (wt_is' (wt_guard' rfl rfl rfl) (beq_ft h15)) ?_
                      refine sx_skip' rfl rfl (wt_is' (wt_guard' rfl rfl rfl) (beq_ft h15)) ?_
                      refine sx_rd' (rd_pick_false' rfl h15 rfl) rfl rfl (wt_none' rfl) ?_
                      refine sx_nil' ?_
                      show TX E K42 _
                      exact tx_pick' [0, 1] (sub_cons rfl (sub_cons rfl (sub_cons rfl sub_nil))) (by decide) (pick_cons rfl (pick_cons rfl pick_nil)) (hK42 false hp)
            · intro K38 hK38
              rcases br_cases hp with ⟨h13, hp⟩ | ⟨h13, hp⟩
              · refine sx_rd' (rd_move' rfl) rfl rfl (wt_is' (wt_guard' rfl rfl rfl) (beq_tt h13)) ?_
                refine sx_rd' (rd_binf' rfl rfl (bf_if (fun _ _ => by kernel_rfl) nil_eql35_if67)) rfl rfl (wt_is' (wt_guard' rfl rfl rfl) (beq_tt h13)) ?_
                refine sx_rd' (rd_pick_true' rfl h13 rfl) rfl rfl (wt_none' rfl) ?_
                refine sx_nil' ?_
                show TX E K38 _
                exact tx_pick' [0, 1] (sub_cons rfl (sub_cons rfl (sub_cons rfl (sub_cons rfl (sub_cons rfl (sub_cons rfl sub_nil)))))) (by decide) (pick_cons rfl (pick_cons rfl pick_nil)) (hK38 () hp)
              · refine sx_skip' rfl rfl (wt_is' (wt_guard' rfl rfl rfl) (beq_ft h13)) ?_
                refine sx_skip' rfl rfl (wt_is' (wt_guard' rfl rfl rfl) (beq_ft h13)) ?_
                refine sx_rd' (rd_pick_false' rfl h13 rfl) rfl rfl (wt_none' rfl) ?_
                refine sx_nil' ?_
                show TX E K38 _
                exact tx_pick' [0, 1] (sub_cons rfl (sub_cons rfl (sub_cons rfl (sub_cons rfl (sub_cons rfl (sub_cons rfl sub_nil)))))) (by decide) (pick_cons rfl (pick_cons rfl pick_nil)) (hK38 () hp)
        · intro K27 hK27
          refine cx_seq' fun K22 hK22 => ?_
          refine cx_seq' fun K23 hK23 => ?_
          refine cx_region' ?_
          refine sx_rd' (rd_move' rfl) rfl rfl (wt_none' rfl) ?_
          refine sx_rd' (rd_move' rfl) rfl rfl (wt_none' rfl) ?_
          refine sx_rd' (rd_bin' rfl rfl eg_int ru_lss) rfl rfl (wt_none' rfl) ?_
          refine sx_rd' (rd_move' rfl) rfl rfl (wt_none' rfl) ?_
          refine sx_cutn' 3 (fun (v5 : Bool) => (⟨46, [], [(0, (If 32 (Vl (.pointer (some wa0))))), (1, (Vl (Vs (some wa1, 4, 4)))), (2, (Vl (.int .i64 a2))), (6, (Vl (.int .i64 x7))), (7, (Vl .nilIface)), (20, (Vl (.bool v5)))], [⟨.pointer (some wa0), [(Sl (Ki .u8) x3), (Vl (.int .i64 x4)), (Vl (.int .i8 x5))], 50, none⟩, (Rw (Ki .u8) 55 (Vs (some wa1, 4, 4)) x6)]⟩ : St)) (fun (v5 : Bool) => io_ReadAtLeast_j4 k x6 x7 x3 x4 x5 a2 v5 = some out) ?_ ?_
          · rintro x13 hp
            replace hp : io_ReadAtLeast_j4 k x6 x7 x3 x4 x5 a2 x13 = some out := hp
            unfold io_ReadAtLeast_j4 at hp
            refine sx_nil' ?_
            show TX E K23 _
            refine tx_k' hK23 ?_
            refine cx_cond' rfl (fun h8 => ?_) (fun h8 => ?_)
            · replace hp := (br_t h8).symm.trans hp
              refine cx_skip' ?_
              show TX E K22 _
              refine tx_k' hK22 ?_
              refine cx_block' ?_
              refine cx_seq' fun K25 hK25 => ?_
              refine cx_region' ?_
              refine sx_rd' (rd_assign' rfl) rfl rfl (wt_none' rfl) ?_
              refine sx_nil' ?_
              show TX E K25 _
              refine tx_k' hK25 ?_
              refine cx_seq' fun K26 hK26 => ?_
              refine cx_plan' [] [(7, 1)] [(0, 1), (1, 1), (2, 1), (3, 1), (4, 1), (5, 1), (6, 1), (7, 0), (8, 1), (9, 1), (10, 1), (11, 1), (12, 1)] mixed (by kernel_rfl) ?_
              refine px_rd' rfl (rd_move' rfl) rfl rfl (wt_none' rfl) ?_
              refine px_rd' rfl (rd_move' rfl) rfl rfl (wt_none' rfl) ?_
              refine px_rd' rfl (rd_move' rfl) rfl rfl (wt_none' rfl) ?_
              obtain ⟨r902, hr902, hp⟩ := bind_some hp
              refine px_rd' rfl (rd_cutn_l' (K := (Ki .u8)) (i := 1) rfl rfl rfl rfl hr902 Tryd.underlying22 info5) rfl rfl (wt_none' rfl) ?_
              refine px_rd' rfl (rd_mkmeth' rfl) rfl rfl (wt_none' rfl) ?_
              refine px_rd' rfl (rd_nilck_mf' rfl (fun _ _ v hv w => by rw [show v = _ from hv]; exact nla32_Read_ptr _ w)) rfl rfl (wt_none' rfl) ?_
              refine px_rd' rfl (rd_move' rfl) rfl rfl (wt_none' rfl) ?_
              obtain ⟨r903, hr903, hp⟩ := bind_some hp
              rcases r903 with y2 | y2
              · dsimp only at hp
                refine px_oxb' (is := [0]) rfl (oxb_callg (ent_inv' rfl rfl (inv_any1 inv32_Read)) (bytes_Buffer_Read_v2_sim _ _ _ _ hr903 : Go.Sx.Fn Tryd.prog 35 [(Vl (.pointer (some wa0))), (Ln r902.length)] [⟨.pointer (some wa0), [(Sl (Ki .u8) x3), (Vl (.int .i64 x4)), (Vl (.int .i8 x5))], 50, none⟩] (fun x : Unit => (Tu [(Vl (.int .i64 y2.2.2.2)), (Vl .nilIface)])) (fun x => [⟨.pointer (some wa0), [(Sl (Ki .u8) y2.1), (Vl (.int .i64 y2.2.1)), (Vl (.int .i8 y2.2.2.1))], 50, none⟩])) [0] [1] (by decide) (pick_cons rfl pick_nil) (pick_cons rfl pick_nil) (Hn := fun x : Unit => [⟨.pointer (some wa0), [(Sl (Ki .u8) y2.1), (Vl (.int .i64 y2.2.1)), (Vl (.int .i8 y2.2.2.1))], 50, none⟩, (Rw (Ki .u8) 55 (Vs (some wa1, 4, 4)) x6)]) (fun _ => rfl) rfl rfl) (pick_cons rfl pick_nil) rfl bl_nil (wt_none' rfl) fun ⟨⟩ => ?_
                refine px_rd' rfl (rd_move' rfl) rfl rfl (wt_none' rfl) ?_
                refine px_rd' rfl (rd_extract' rfl rfl) rfl rfl (wt_none' rfl) ?_
                refine px_rd' rfl (rd_extract' rfl rfl) rfl rfl (wt_none' rfl) ?_
                refine px_rd' rfl (rd_assign' rfl) rfl rfl (wt_none' rfl) ?_
                refine px_rd' rfl (rd_assign' rfl) rfl rfl (wt_none' rfl) ?_
                refine px_nil' ?_
                show TX E K26 _
                refine tx_k' hK26 ?_
                refine cx_region' ?_
                refine sx_rd' (rd_move' rfl) rfl rfl (wt_none' rfl) ?_
                refine sx_rd' (rd_move' rfl) rfl rfl (wt_none' rfl) ?_
                refine sx_rd' (rd_bin' rfl rfl eg_int ru_add) rfl rfl (wt_none' rfl) ?_
                refine sx_rd' (rd_assign' rfl) rfl rfl (wt_none' rfl) ?_
                refine sx_nil' ?_
                show TX E K27 _
                exact tx_pick' [0, 1] (sub_cons rfl (sub_cons rfl (sub_cons rfl (sub_cons rfl (sub_cons rfl sub_nil))))) (by decide) (pick_cons rfl (pick_cons rfl pick_nil)) (hK27 (.inl (y2.1, y2.2.1, y2.2.2.1, (iadd .i64 x7 y2.2.2.2))) hp)
              · dsimp only at hp
                refine px_oxb' (is := [0]) rfl (oxb_callg (ent_inv' rfl rfl (inv_any1 inv32_Read)) (bytes_Buffer_Read_v2_sim _ _ _ _ hr903 : Go.Sx.Fn Tryd.prog 35 [(Vl (.pointer (some wa0))), (Ln r902.length)] [⟨.pointer (some wa0), [(Sl (Ki .u8) x3), (Vl (.int .i64 x4)), (Vl (.int .i8 x5))], 50, none⟩] (fun x : Unit => (Tu [(Vl (.int .i64 y2.2.2.2)), (If 67 (Vl (.pointer (some (Ga.a 3)))))])) (fun x => [⟨.pointer (some wa0), [(Sl (Ki .u8) y2.1), (Vl (.int .i64 y2.2.1)), (Vl (.int .i8 y2.2.2.1))], 50, none⟩])) [0] [1] (by decide) (pick_cons rfl pick_nil) (pick_cons rfl pick_nil) (Hn := fun x : Unit => [⟨.pointer (some wa0), [(Sl (Ki .u8) y2.1), (Vl (.int .i64 y2.2.1)), (Vl (.int .i8 y2.2.2.1))], 50, none⟩, (Rw (Ki .u8) 55 (Vs (some wa1, 4, 4)) x6)]) (fun _ => rfl) rfl rfl) (pick_cons rfl pick_nil) rfl bl_nil (wt_none' rfl) fun ⟨⟩ => ?_
                refine px_rd' rfl (rd_move' rfl) rfl rfl (wt_none' rfl) ?_
                refine px_rd' rfl (rd_extract' rfl rfl) rfl rfl (wt_none' rfl) ?_
                refine px_rd' rfl (rd_extract' rfl rfl) rfl rfl (wt_none' rfl) ?_
                refine px_rd' rfl (rd_assign' rfl) rfl rfl (wt_none' rfl) ?_
                refine px_rd' rfl (rd_assign' rfl) rfl rfl (wt_none' rfl) ?_
                refine px_nil' ?_
                show TX E K26 _
                refine tx_k' hK26 ?_
                refine cx_region' ?_
                refine sx_rd' (rd_move' rfl) rfl rfl (wt_none' rfl) ?_
                refine sx_rd' (rd_move' rfl) rfl rfl (wt_none' rfl) ?_
                refine sx_rd' (rd_bin' rfl rfl eg_int ru_add) rfl rfl (wt_none' rfl) ?_
                refine sx_rd' (rd_assign' rfl) rfl rfl (wt_none' rfl) ?_
                refine sx_nil' ?_
                show TX E K27 _
                exact tx_pick' [0, 1] (sub_cons rfl (sub_cons rfl (sub_cons rfl (sub_cons rfl (sub_cons rfl sub_nil))))) (by decide) (pick_cons rfl (pick_cons rfl pick_nil)) (hK27 (.inr (y2.1, y2.2.1, y2.2.2.1, (iadd .i64 x7 y2.2.2.2))) hp)
            · replace hp := (br_f h8).symm.trans hp
              refine cx_exit' ?_
              show TX E K15 _
              refine tx_k' hK15 ?_
              refine cx_seq' fun K43 hK43 => ?_
              refine cx_seq' fun K44 hK44 => ?_
              refine cx_region' ?_
              refine sx_rd' (rd_move' rfl) rfl rfl (wt_none' rfl) ?_
              refine sx_rd' (rd_move' rfl) rfl rfl (wt_none' rfl) ?_
              refine sx_rd' (rd_bin' rfl rfl eg_int ru_geq) rfl rfl (wt_none' rfl) ?_
              refine sx_nil' ?_
              show TX E K44 _
              refine tx_k' hK44 ?_
              refine cx_cond' rfl (fun h17 => ?_) (fun h17 => ?_)
              · replace hp := (br_t h17).symm.trans hp
                refine cx_region' ?_
                refine sx_rd' (rd_assign' rfl) rfl rfl (wt_none' rfl) ?_
                refine sx_nil' ?_
                show TX E K43 _
                refine tx_k' hK43 ?_
                refine cx_retc' ?_
                replace hp := Option.some.inj hp
                subst hp
                refine tx_pick' (L' := [(6, (Vl (.int .i64 x7))), (7, (Vl .nilIface))]) (H' := [⟨.pointer (some wa0), [(Sl (Ki .u8) x3), (Vl (.int .i64 x4)), (Vl (.int .i8 x5))], 50, none⟩, (Rw (Ki .u8) 55 (Vs (some wa1, 4, 4)) x6)]) [0, 1] (sub_cons rfl (sub_cons rfl sub_nil)) (by decide) (pick_cons rfl (pick_cons rfl pick_nil)) ?_
                exact tx_ret2' Tryd.results19 rfl () (rv_tmp' rfl) (rv_tmp' rfl) rfl (List.Sublist.refl _)
              · replace hp := (br_f h17).symm.trans hp
                cases hp
          · intro K24 hK24
            rcases br_cases hp with ⟨h7, hp⟩ | ⟨h7, hp⟩
            · refine sx_rd' (rd_move' rfl) rfl rfl (wt_is' (wt_guard' rfl rfl rfl) (beq_tt h7)) ?_
              refine sx_rd' (rd_binf' rfl rfl (bf_vl (fun _ => by kernel_rfl) nil_eql35_nilif)) rfl rfl (wt_is' (wt_guard' rfl rfl rfl) (beq_tt h7)) ?_
              refine sx_rd' (rd_pick_true' rfl h7 rfl) rfl rfl (wt_none' rfl) ?_
              refine sx_nil' ?_
              show TX E K24 _
              exact tx_pick' [0, 1] (sub_cons rfl (sub_cons rfl (sub_cons rfl (sub_cons rfl (sub_cons rfl (sub_cons rfl sub_nil)))))) (by decide) (pick_cons rfl (pick_cons rfl pick_nil)) (hK24 true hp)
            · refine sx_skip' rfl rfl (wt_is' (wt_guard' rfl rfl rfl) (beq_ft h7)) ?_
              refine sx_skip' rfl rfl (wt_is' (wt_guard' rfl rfl rfl) (beq_ft h7)) ?_
              refine sx_rd' (rd_pick_false' rfl h7 rfl) rfl rfl (wt_none' rfl) ?_
              refine sx_nil' ?_
              show TX E K24 _
              exact tx_pick' [0, 1] (sub_cons rfl (sub_cons rfl (sub_cons rfl (sub_cons rfl (sub_cons rfl (sub_cons rfl sub_nil)))))) (by decide) (pick_cons rfl (pick_cons rfl pick_nil)) (hK24 false hp)
      · replace hp : io_ReadAtLeast_j3b k a2 x8 x9 x10 x11 x12 = some out := hp
        unfold io_ReadAtLeast_j3b at hp
        refine tx_round' ?_
        refine cx_seq' fun K46 hK46 => ?_
        refine cx_seq' fun K47 hK47 => ?_
        refine cx_region' ?_
        refine sx_rd' (rd_move' rfl) rfl rfl (wt_none' rfl) ?_
        refine sx_rd' (rd_move' rfl) rfl rfl (wt_none' rfl) ?_
        refine sx_rd' (rd_bin' rfl rfl eg_int ru_lss) rfl rfl (wt_none' rfl) ?_
        refine sx_rd' (rd_move' rfl) rfl rfl (wt_none' rfl) ?_
        refine sx_cutn' 3 (fun (v14 : Unit) => (⟨46, [], [(0, (If 32 (Vl (.pointer (some wa0))))), (1, (Vl (Vs (some wa1, 4, 4)))), (2, (Vl (.int .i64 a2))), (6, (Vl (.int .i64 x12))), (7, (If 67 (Vl (.pointer (some (Ga.a 3)))))), (20, (Vl (.bool false)))], [⟨.pointer (some wa0), [(Sl (Ki .u8) x8), (Vl (.int .i64 x9)), (Vl (.int .i8 x10))], 50, none⟩, (Rw (Ki .u8) 55 (Vs (some wa1, 4, 4)) x11)]⟩ : St)) (fun (v14 : Unit) => io_ReadAtLeast_j10 k a2 x12 x8 x9 x10 x11 = some out) ?_ ?_
        · rintro ⟨⟩ hp
          replace hp : io_ReadAtLeast_j10 k a2 x12 x8 x9 x10 x11 = some out := hp
          unfold io_ReadAtLeast_j10 at hp
          refine sx_nil' ?_
          show TX E K47 _
          refine tx_k' hK47 ?_
          refine cx_cond_f' rfl rfl ?_
          refine cx_exit' ?_
          show TX E K15 _
          refine tx_k' hK15 ?_
          refine cx_join' (fun (v : Unit ⊕ (Unit ⊕ Unit)) => match v with | (.inl v16) => (⟨46, [], [(6, (Vl (.int .i64 x12))), (7, (Vl .nilIface))], [⟨.pointer (some wa0), [(Sl (Ki .u8) x8), (Vl (.int .i64 x9)), (Vl (.int .i8 x10))], 50, none⟩, (Rw (Ki .u8) 55 (Vs (some wa1, 4, 4)) x11)]⟩ : St) | (.inr (.inl v17)) => (⟨46, [], [(6, (Vl (.int .i64 x12))), (7, (If 67 (Vl (.pointer (some (Ga.a 4))))))], [⟨.pointer (some wa0), [(Sl (Ki .u8) x8), (Vl (.int .i64 x9)), (Vl (.int .i8 x10))], 50, none⟩, (Rw (Ki .u8) 55 (Vs (some wa1, 4, 4)) x11)]⟩ : St) | (.inr (.inr v18)) => (⟨46, [], [(6, (Vl (.int .i64 x12))), (7, (If 67 (Vl (.pointer (some (Ga.a 3))))))], [⟨.pointer (some wa0), [(Sl (Ki .u8) x8), (Vl (.int .i64 x9)), (Vl (.int .i8 x10))], 50, none⟩, (Rw (Ki .u8) 55 (Vs (some wa1, 4, 4)) x11)]⟩ : St)) (fun (v : Unit ⊕ (Unit ⊕ Unit)) => match v with | (.inl v16) => (io_ReadAtLeast_j12a k x8 x9 x10 x11 x12 = some out) | (.inr (.inl v17)) => (io_ReadAtLeast_j12b k x8 x9 x10 x11 x12 = some out) | (.inr (.inr v18)) => (io_ReadAtLeast_j12c k x8 x9 x10 x11 x12 = some out)) ?_ ?_
          · rintro (⟨⟩ | ⟨⟩ | ⟨⟩) hp
            · replace hp : io_ReadAtLeast_j12a k x8 x9 x10 x11 x12 = some out := hp
              unfold io_ReadAtLeast_j12a at hp
              refine cx_retc' ?_
              replace hp := Option.some.inj hp
              subst hp
              refine tx_pick' (L' := [(6, (Vl (.int .i64 x12))), (7, (Vl .nilIface))]) (H' := [⟨.pointer (some wa0), [(Sl (Ki .u8) x8), (Vl (.int .i64 x9)), (Vl (.int .i8 x10))], 50, none⟩, (Rw (Ki .u8) 55 (Vs (some wa1, 4, 4)) x11)]) [0, 1] (sub_cons rfl (sub_cons rfl sub_nil)) (by decide) (pick_cons rfl (pick_cons rfl pick_nil)) ?_
              exact tx_ret2' Tryd.results19 rfl () (rv_tmp' rfl) (rv_tmp' rfl) rfl (List.Sublist.refl _)
            · replace hp : io_ReadAtLeast_j12b k x8 x9 x10 x11 x12 = some out := hp
              unfold io_ReadAtLeast_j12b at hp
              refine cx_retc' ?_
              replace hp := Option.some.inj hp
              subst hp
              refine tx_pick' (L' := [(6, (Vl (.int .i64 x12))), (7, (If 67 (Vl (.pointer (some (Ga.a 4))))))]) (H' := [⟨.pointer (some wa0), [(Sl (Ki .u8) x8), (Vl (.int .i64 x9)), (Vl (.int .i8 x10))], 50, none⟩, (Rw (Ki .u8) 55 (Vs (some wa1, 4, 4)) x11)]) [0, 1] (sub_cons rfl (sub_cons rfl sub_nil)) (by decide) (pick_cons rfl (pick_cons rfl pick_nil)) ?_
              exact tx_ret2' Tryd.results19 rfl () (rv_tmp' rfl) (rv_tmp' rfl) rfl (List.Sublist.refl _)
            · replace hp : io_ReadAtLeast_j12c k x8 x9 x10 x11 x12 = some out := hp
              unfold io_ReadAtLeast_j12c at hp
              refine cx_retc' ?_
              replace hp := Option.some.inj hp
              subst hp
              refine tx_pick' (L' := [(6, (Vl (.int .i64 x12))), (7, (If 67 (Vl (.pointer (some (Ga.a 3))))))]) (H' := [⟨.pointer (some wa0), [(Sl (Ki .u8) x8), (Vl (.int .i64 x9)), (Vl (.int .i8 x10))], 50, none⟩, (Rw (Ki .u8) 55 (Vs (some wa1, 4, 4)) x11)]) [0, 1] (sub_cons rfl (sub_cons rfl sub_nil)) (by decide) (pick_cons rfl (pick_cons rfl pick_nil)) ?_
              exact tx_ret2' Tryd.results19 rfl () (rv_tmp' rfl) (rv_tmp' rfl) rfl (List.Sublist.refl _)
          · intro K49 hK49
            refine cx_seq' fun K50 hK50 => ?_
            refine cx_region' ?_
            refine sx_rd' (rd_move' rfl) rfl rfl (wt_none' rfl) ?_
            refine sx_rd' (rd_move' rfl) rfl rfl (wt_none' rfl) ?_
            refine sx_rd' (rd_bin' rfl rfl eg_int ru_geq) rfl rfl (wt_none' rfl) ?_
            refine sx_nil' ?_
            show TX E K50 _
            refine tx_k' hK50 ?_
            refine cx_cond' rfl (fun h20 => ?_) (fun h20 => ?_)
            · replace hp := (br_t h20).symm.trans hp
              refine cx_region' ?_
              refine sx_rd' (rd_assign' rfl) rfl rfl (wt_none' rfl) ?_
              refine sx_nil' ?_
              show TX E K49 _
              exact tx_pick' [0, 1] (sub_cons rfl (sub_cons rfl sub_nil)) (by decide) (pick_cons rfl (pick_cons rfl pick_nil)) (hK49 (.inl ()) hp)
            · replace hp := (br_f h20).symm.trans hp
              refine cx_seq' fun K51 hK51 => ?_
              refine cx_region' ?_
              refine sx_rd' (rd_move' rfl) rfl rfl (wt_none' rfl) ?_
              refine sx_rd' (rd_bin' rfl rfl eg_int ru_gtr) rfl rfl (wt_none' rfl) ?_
              refine sx_rd' (rd_move' rfl) rfl rfl (wt_none' rfl) ?_
              refine sx_cutn' 4 (fun (v15 : Bool) => (⟨46, [], [(6, (Vl (.int .i64 x12))), (7, (If 67 (Vl (.pointer (some (Ga.a 3)))))), (44, (Vl (.bool v15)))], [⟨.pointer (some wa0), [(Sl (Ki .u8) x8), (Vl (.int .i64 x9)), (Vl (.int .i8 x10))], 50, none⟩, (Rw (Ki .u8) 55 (Vs (some wa1, 4, 4)) x11)]⟩ : St)) (fun (v15 : Bool) => io_ReadAtLeast_j11 k x8 x9 x10 x11 x12 v15 = some out) ?_ ?_
              · rintro x24 hp
                replace hp : io_ReadAtLeast_j11 k x8 x9 x10 x11 x12 x24 = some out := hp
                unfold io_ReadAtLeast_j11 at hp
                refine sx_nil' ?_
                show TX E K51 _
                refine tx_k' hK51 ?_
                refine cx_cond' rfl (fun h22 => ?_) (fun h22 => ?_)
                · replace hp := (br_t h22).symm.trans hp
                  refine cx_region' ?_
                  refine sx_rd' (rd_gload' gm4 flat35) rfl rfl (wt_none' rfl) ?_
                  refine sx_rd' (rd_assign' rfl) rfl rfl (wt_none' rfl) ?_
                  refine sx_nil' ?_
                  show TX E K49 _
                  exact tx_pick' [0, 1] (sub_cons rfl (sub_cons rfl sub_nil)) (by decide) (pick_cons rfl (pick_cons rfl pick_nil)) (hK49 (.inr (.inl ())) hp)
                · replace hp := (br_f h22).symm.trans hp
                  refine cx_skip' ?_
                  show TX E K49 _
                  exact tx_pick' [0, 1] (sub_cons rfl (sub_cons rfl sub_nil)) (by decide) (pick_cons rfl (pick_cons rfl pick_nil)) (hK49 (.inr (.inr ())) hp)
              · intro K52 hK52
                rcases br_cases hp with ⟨h21, hp⟩ | ⟨h21, hp⟩
                · refine sx_rd' (rd_move' rfl) rfl rfl (wt_is' (wt_guard' rfl rfl rfl) (beq_tt h21)) ?_
                  refine sx_rd' (rd_gload' gm3 flat35) rfl rfl (wt_is' (wt_guard' rfl rfl rfl) (beq_tt h21)) ?_
                  refine sx_rd' (rd_eqifp' rfl rfl Tryd.underlying35 Tryd.underlying67 cmp67 is95) rfl rfl (wt_is' (wt_guard' rfl rfl rfl) (beq_tt h21)) ?_
                  refine sx_rd' (rd_pick_true' rfl h21 rfl) rfl rfl (wt_none' rfl) ?_
                  refine sx_nil' ?_
                  show TX E K52 _
                  exact tx_pick' [0, 1] (sub_cons rfl (sub_cons rfl (sub_cons rfl sub_nil))) (by decide) (pick_cons rfl (pick_cons rfl pick_nil)) (hK52 true hp)
                · refine sx_skip' rfl rfl (wt_is' (wt_guard' rfl rfl rfl) (beq_ft h21)) ?_
                  refine sx_skip' rfl rfl (wt_is' (wt_guard' rfl rfl rfl) (beq_ft h21)) ?_
                  refine sx_skip' rfl rfl (wt_is' (wt_guard' rfl rfl rfl) (beq_ft h21)) ?_
                  refine sx_rd' (rd_pick_false' rfl h21 rfl) rfl rfl (wt_none' rfl) ?_
                  refine sx_nil' ?_
                  show TX E K52 _
                  exact tx_pick' [0, 1] (sub_cons rfl (sub_cons rfl (sub_cons rfl sub_nil))) (by decide) (pick_cons rfl (pick_cons rfl pick_nil)) (hK52 false hp)
        · intro K48 hK48
          rcases br_cases hp with ⟨h19, hp⟩ | ⟨h19, hp⟩
          · refine sx_rd' (rd_move' rfl) rfl rfl (wt_is' (wt_guard' rfl rfl rfl) (beq_tt h19)) ?_
            refine sx_rd' (rd_binf' rfl rfl (bf_if (fun _ _ => by kernel_rfl) nil_eql35_if67)) rfl rfl (wt_is' (wt_guard' rfl rfl rfl) (beq_tt h19)) ?_
            refine sx_rd' (rd_pick_true' rfl h19 rfl) rfl rfl (wt_none' rfl) ?_
            refine sx_nil' ?_
            show TX E K48 _
            exact tx_pick' [0, 1] (sub_cons rfl (sub_cons rfl (sub_cons rfl (sub_cons rfl (sub_cons rfl (sub_cons rfl sub_nil)))))) (by decide) (pick_cons rfl (pick_cons rfl pick_nil)) (hK48 () hp)
          · refine sx_skip' rfl rfl (wt_is' (wt_guard' rfl rfl rfl) (beq_ft h19)) ?_
            refine sx_skip' rfl rfl (wt_is' (wt_guard' rfl rfl rfl) (beq_ft h19)) ?_
            refine sx_rd' (rd_pick_false' rfl h19 rfl) rfl rfl (wt_none' rfl) ?_
            refine sx_nil' ?_
            show TX E K48 _
            exact tx_pick' [0, 1] (sub_cons rfl (sub_cons rfl (sub_cons rfl (sub_cons rfl (sub_cons rfl (sub_cons rfl sub_nil)))))) (by decide) (pick_cons rfl (pick_cons rfl pick_nil)) (hK48 () hp)
    · intro K21 hK21
      refine cx_seq' fun K16 hK16 => ?_
      refine cx_seq' fun K17 hK17 => ?_
      refine cx_region' ?_
      refine sx_rd' (rd_move' rfl) rfl rfl (wt_none' rfl) ?_
      refine sx_rd' (rd_move' rfl) rfl rfl (wt_none' rfl) ?_
      refine sx_rd' (rd_bin' rfl rfl eg_int ru_lss) rfl rfl (wt_none' rfl) ?_
      refine sx_rd' (rd_move' rfl) rfl rfl (wt_none' rfl) ?_
      refine sx_cutn' 3 (fun (v2 : Bool) => (⟨46, [], [(0, (If 32 (Vl (.pointer (some wa0))))), (1, (Vl (Vs (some wa1, 4, 4)))), (2, (Vl (.int .i64 a2))), (6, (Vl (.int .i64 0))), (7, (Vl .nilIface)), (20, (Vl (.bool v2)))], [⟨.pointer (some wa0), [(Sl (Ki .u8) a0_0), (Vl (.int .i64 a0_1)), (Vl (.int .i8 a0_2))], 50, none⟩, (Rw (Ki .u8) 55 (Vs (some wa1, 4, 4)) a1)]⟩ : St)) (fun (v2 : Bool) => io_ReadAtLeast_j2 k a0_0 a0_1 a0_2 a1 a2 v2 = some out) ?_ ?_
      · rintro x2 hp
        replace hp : io_ReadAtLeast_j2 k a0_0 a0_1 a0_2 a1 a2 x2 = some out := hp
        unfold io_ReadAtLeast_j2 at hp
        refine sx_nil' ?_
        show TX E K17 _
        refine tx_k' hK17 ?_
        refine cx_cond' rfl (fun h6 => ?_) (fun h6 => ?_)
        · replace hp := (br_t h6).symm.trans hp
          refine cx_skip' ?_
          show TX E K16 _
          refine tx_k' hK16 ?_
          refine cx_block' ?_
          refine cx_seq' fun K19 hK19 => ?_
          refine cx_region' ?_
          refine sx_rd' (rd_assign' rfl) rfl rfl (wt_none' rfl) ?_
          refine sx_nil' ?_
          show TX E K19 _
          refine tx_k' hK19 ?_
          refine cx_seq' fun K20 hK20 => ?_
          refine cx_plan' [] [(7, 1)] [(0, 1), (1, 1), (2, 1), (3, 1), (4, 1), (5, 1), (6, 1), (7, 0), (8, 1), (9, 1), (10, 1), (11, 1), (12, 1)] mixed (by kernel_rfl) ?_
          refine px_rd' rfl (rd_move' rfl) rfl rfl (wt_none' rfl) ?_
          refine px_rd' rfl (rd_move' rfl) rfl rfl (wt_none' rfl) ?_
          refine px_rd' rfl (rd_move' rfl) rfl rfl (wt_none' rfl) ?_
          refine px_rd' rfl (rd_cut_allr0' (K := (Ki .u8)) (i := 1) rfl rfl rfl rfl Tryd.underlying22 info5) rfl rfl (wt_none' rfl) ?_
          refine px_rd' rfl (rd_mkmeth' rfl) rfl rfl (wt_none' rfl) ?_
          refine px_rd' rfl (rd_nilck_mf' rfl (fun _ _ v hv w => by rw [show v = _ from hv]; exact nla32_Read_ptr _ w)) rfl rfl (wt_none' rfl) ?_
          refine px_rd' rfl (rd_move' rfl) rfl rfl (wt_none' rfl) ?_
          obtain ⟨r901, hr901, hp⟩ := bind_some hp
          rcases r901 with y1 | y1
          · dsimp only at hp
            refine px_oxb' (is := [0, 1]) rfl (oxb_callg (ent_inv' rfl rfl (inv_any1 inv32_Read)) (bytes_Buffer_Read_sim _ _ _ _ hr901 : Go.Sx.Fn Tryd.prog 35 [(Vl (.pointer (some wa0))), (Vl (Vs (some wa1, 4, 4)))] [⟨.pointer (some wa0), [(Sl (Ki .u8) a0_0), (Vl (.int .i64 a0_1)), (Vl (.int .i8 a0_2))], 50, none⟩, (Rw (Ki .u8) 55 (Vs (some wa1, 4, 4)) a1)] (fun x : Unit => (Tu [(Vl (.int .i64 y1.2.2.2.2)), (Vl .nilIface)])) (fun x => [⟨.pointer (some wa0), [(Sl (Ki .u8) y1.1), (Vl (.int .i64 y1.2.1)), (Vl (.int .i8 y1.2.2.1))], 50, none⟩, (Rw (Ki .u8) 55 (Vs (some wa1, 4, 4)) y1.2.2.2.1)])) [0, 1] [] (by decide) (pick_cons rfl (pick_cons rfl pick_nil)) pick_nil (Hn := fun x : Unit => [⟨.pointer (some wa0), [(Sl (Ki .u8) y1.1), (Vl (.int .i64 y1.2.1)), (Vl (.int .i8 y1.2.2.1))], 50, none⟩, (Rw (Ki .u8) 55 (Vs (some wa1, 4, 4)) y1.2.2.2.1)]) (fun _ => rfl) rfl rfl) (pick_cons rfl (pick_cons rfl pick_nil)) rfl bl_nil (wt_none' rfl) fun ⟨⟩ => ?_
            refine px_rd' rfl (rd_move' rfl) rfl rfl (wt_none' rfl) ?_
            refine px_rd' rfl (rd_extract' rfl rfl) rfl rfl (wt_none' rfl) ?_
            refine px_rd' rfl (rd_extract' rfl rfl) rfl rfl (wt_none' rfl) ?_
            refine px_rd' rfl (rd_assign' rfl) rfl rfl (wt_none' rfl) ?_
            refine px_rd' rfl (rd_assign' rfl) rfl rfl (wt_none' rfl) ?_
            refine px_nil' ?_
            show TX E K20 _
            refine tx_k' hK20 ?_
            refine cx_region' ?_
            refine sx_rd' (rd_move' rfl) rfl rfl (wt_none' rfl) ?_
            refine sx_rd' (rd_move' rfl) rfl rfl (wt_none' rfl) ?_
            refine sx_rd' (rd_bin' rfl rfl eg_int ru_add) rfl rfl (wt_none' rfl) ?_
            refine sx_rd' (rd_assign' rfl) rfl rfl (wt_none' rfl) ?_
            refine sx_nil' ?_
            show TX E K21 _
            exact tx_pick' [0, 1] (sub_cons rfl (sub_cons rfl (sub_cons rfl (sub_cons rfl (sub_cons rfl sub_nil))))) (by decide) (pick_cons rfl (pick_cons rfl pick_nil)) (hK21 (.inl (y1.1, y1.2.1, y1.2.2.1, y1.2.2.2.1, (iadd .i64 0 y1.2.2.2.2))) hp)
          · dsimp only at hp
            refine px_oxb' (is := [0, 1]) rfl (oxb_callg (ent_inv' rfl rfl (inv_any1 inv32_Read)) (bytes_Buffer_Read_sim _ _ _ _ hr901 : Go.Sx.Fn Tryd.prog 35 [(Vl (.pointer (some wa0))), (Vl (Vs (some wa1, 4, 4)))] [⟨.pointer (some wa0), [(Sl (Ki .u8) a0_0), (Vl (.int .i64 a0_1)), (Vl (.int .i8 a0_2))], 50, none⟩, (Rw (Ki .u8) 55 (Vs (some wa1, 4, 4)) a1)] (fun x : Unit => (Tu [(Vl (.int .i64 y1.2.2.2.2)), (If 67 (Vl (.pointer (some (Ga.a 3)))))])) (fun x => [⟨.pointer (some wa0), [(Sl (Ki .u8) y1.1), (Vl (.int .i64 y1.2.1)), (Vl (.int .i8 y1.2.2.1))], 50, none⟩, (Rw (Ki .u8) 55 (Vs (some wa1, 4, 4)) y1.2.2.2.1)])) [0, 1] [] (by decide) (pick_cons rfl (pick_cons rfl pick_nil)) pick_nil (Hn := fun x : Unit => [⟨.pointer (some wa0), [(Sl (Ki .u8) y1.1), (Vl (.int .i64 y1.2.1)), (Vl (.int .i8 y1.2.2.1))], 50, none⟩, (Rw (Ki .u8) 55 (Vs (some wa1, 4, 4)) y1.2.2.2.1)]) (fun _ => rfl) rfl rfl) (pick_cons rfl (pick_cons rfl pick_nil)) rfl bl_nil (wt_none' rfl) fun ⟨⟩ => ?_
            refine px_rd' rfl (rd_move' rfl) rfl rfl (wt_none' rfl) ?_
            refine px_rd' rfl (rd_extract' rfl rfl) rfl rfl (wt_none' rfl) ?_
            refine px_rd' rfl (rd_extract' rfl rfl) rfl rfl (wt_none' rfl) ?_
            refine px_rd' rfl (rd_assign' rfl) rfl rfl (wt_none' rfl) ?_
            refine px_rd' rfl (rd_assign' rfl) rfl rfl (wt_none' rfl) ?_
            refine px_nil' ?_
            show TX E K20 _
            refine tx_k' hK20 ?_
            refine cx_region' ?_
            refine sx_rd' (rd_move' rfl) rfl rfl (wt_none' rfl) ?_
            refine sx_rd' (rd_move' rfl) rfl rfl (wt_none' rfl) ?_
            refine sx_rd' (rd_bin' rfl rfl eg_int ru_add) rfl rfl (wt_none' rfl) ?_
            refine sx_rd' (rd_assign' rfl) rfl rfl (wt_none' rfl) ?_
            refine sx_nil' ?_
            show TX E K21 _
            exact tx_pick' [0, 1] (sub_cons rfl (sub_cons rfl (sub_cons rfl (sub_cons rfl (sub_cons rfl sub_nil))))) (by decide) (pick_cons rfl (pick_cons rfl pick_nil)) (hK21 (.inr (y1.1, y1.2.1, y1.2.2.1, y1.2.2.2.1, (iadd .i64 0 y1.2.2.2.2))) hp)
        · replace hp := (br_f h6).symm.trans hp
          refine cx_exit' ?_
          show TX E K15 _
          refine tx_k' hK15 ?_
          refine cx_join' (fun (v19 : Unit) => (⟨46, [], [(6, (Vl (.int .i64 0))), (7, (Vl .nilIface))], [⟨.pointer (some wa0), [(Sl (Ki .u8) a0_0), (Vl (.int .i64 a0_1)), (Vl (.int .i8 a0_2))], 50, none⟩, (Rw (Ki .u8) 55 (Vs (some wa1, 4, 4)) a1)]⟩ : St)) (fun (v19 : Unit) => io_ReadAtLeast_j13 k a0_0 a0_1 a0_2 a1 = some out) ?_ ?_
          · rintro ⟨⟩ hp
            replace hp : io_ReadAtLeast_j13 k a0_0 a0_1 a0_2 a1 = some out := hp
            unfold io_ReadAtLeast_j13 at hp
            refine cx_retc' ?_
            replace hp := Option.some.inj hp
            subst hp
            refine tx_pick' (L' := [(6, (Vl (.int .i64 0))), (7, (Vl .nilIface))]) (H' := [⟨.pointer (some wa0), [(Sl (Ki .u8) a0_0), (Vl (.int .i64 a0_1)), (Vl (.int .i8 a0_2))], 50, none⟩, (Rw (Ki .u8) 55 (Vs (some wa1, 4, 4)) a1)]) [0, 1] (sub_cons rfl (sub_cons rfl sub_nil)) (by decide) (pick_cons rfl (pick_cons rfl pick_nil)) ?_
            exact tx_ret2' Tryd.results19 rfl () (rv_tmp' rfl) (rv_tmp' rfl) rfl (List.Sublist.refl _)
          · intro K53 hK53
            refine cx_seq' fun K54 hK54 => ?_
            refine cx_region' ?_
            refine sx_rd' (rd_move' rfl) rfl rfl (wt_none' rfl) ?_
            refine sx_rd' (rd_move' rfl) rfl rfl (wt_none' rfl) ?_
            refine sx_rd' (rd_bin' rfl rfl eg_int ru_geq) rfl rfl (wt_none' rfl) ?_
            refine sx_nil' ?_
            show TX E K54 _
            refine tx_k' hK54 ?_
            refine cx_cond' rfl (fun h23 => ?_) (fun h23 => ?_)
            · replace hp := (br_t h23).symm.trans hp
              refine cx_region' ?_
              refine sx_rd' (rd_assign' rfl) rfl rfl (wt_none' rfl) ?_
              refine sx_nil' ?_
              show TX E K53 _
              exact tx_pick' [0, 1] (sub_cons rfl (sub_cons rfl sub_nil)) (by decide) (pick_cons rfl (pick_cons rfl pick_nil)) (hK53 () hp)
            · replace hp := (br_f h23).symm.trans hp
              refine cx_seq' fun K55 hK55 => ?_
              refine cx_region' ?_
              refine sx_rd' (rd_move' rfl) rfl rfl (wt_none' rfl) ?_
              refine sx_rd' (rd_bin' rfl rfl eg_int ru_gtr) rfl rfl (wt_none' rfl) ?_
              refine sx_rd' (rd_move' rfl) rfl rfl (wt_none' rfl) ?_
              refine sx_skip' rfl rfl (wt_is' (wt_guard' rfl rfl rfl) (beq_ft rfl)) ?_
              refine sx_skip' rfl rfl (wt_is' (wt_guard' rfl rfl rfl) (beq_ft rfl)) ?_
              refine sx_skip' rfl rfl (wt_is' (wt_guard' rfl rfl rfl) (beq_ft rfl)) ?_
              refine sx_rd' (rd_pick_false' rfl rfl rfl) rfl rfl (wt_none' rfl) ?_
              refine sx_nil' ?_
              show TX E K55 _
              refine tx_k' hK55 ?_
              refine cx_cond_f' rfl rfl ?_
              refine cx_skip' ?_
              show TX E K53 _
              exact tx_pick' [0, 1] (sub_cons rfl (sub_cons rfl sub_nil)) (by decide) (pick_cons rfl (pick_cons rfl pick_nil)) (hK53 () hp)
      · intro K18 hK18
        rcases br_cases hp with ⟨h5, hp⟩ | ⟨h5, hp⟩
        · refine sx_rd' (rd_move' rfl) rfl rfl (wt_is' (wt_guard' rfl rfl rfl) (beq_tt h5)) ?_
          refine sx_rd' (rd_binf' rfl rfl (bf_vl (fun _ => by kernel_rfl) nil_eql35_nilif)) rfl rfl (wt_is' (wt_guard' rfl rfl rfl) (beq_tt h5)) ?_
          refine sx_rd' (rd_pick_true' rfl h5 rfl) rfl rfl (wt_none' rfl) ?_
          refine sx_nil' ?_
          show TX E K18 _
          exact tx_pick' [0, 1] (sub_cons rfl (sub_cons rfl (sub_cons rfl (sub_cons rfl (sub_cons rfl (sub_cons rfl sub_nil)))))) (by decide) (pick_cons rfl (pick_cons rfl pick_nil)) (hK18 true hp)
        · refine sx_skip' rfl rfl (wt_is' (wt_guard' rfl rfl rfl) (beq_ft h5)) ?_
          refine sx_skip' rfl rfl (wt_is' (wt_guard' rfl rfl rfl) (beq_ft h5)) ?_
          refine sx_rd' (rd_pick_false' rfl h5 rfl) rfl rfl (wt_none' rfl) ?_
          refine sx_nil' ?_
          show TX E K18 _
          exact tx_pick' [0, 1] (sub_cons rfl (sub_cons rfl (sub_cons rfl (sub_cons rfl (sub_cons rfl (sub_cons rfl sub_nil)))))) (by decide) (pick_cons rfl (pick_cons rfl pick_nil)) (hK18 false hp)

def io_ReadFull (k : Nat) (a0_0 : List Int) (a0_1 : Int) (a0_2 : Int) (a1 : List Int) : Option (((List Int) × Int × Int × (List Int) × Int) ⊕ (((List Int) × Int × Int × (List Int) × Int) ⊕ (((List Int) × Int × Int × (List Int) × Int) ⊕ ((List Int) × Int × Int × (List Int) × Int)))) :=
  (io_ReadAtLeast k a0_0 a0_1 a0_2 a1 (a1.length : Int)) >>= fun r10 =>
  match r10 with
    | (.inl y1) =>
      (some (.inl (y1.1, y1.2.1, y1.2.2.1, y1.2.2.2.1, y1.2.2.2.2)))
    | (.inr (.inl y1)) =>
      (some (.inr (.inl (y1.1, y1.2.1, y1.2.2.1, y1.2.2.2.1, y1.2.2.2.2))))
    | (.inr (.inr (.inl y1))) =>
      (some (.inr (.inr (.inl (y1.1, y1.2.1, y1.2.2.1, y1.2.2.2.1, y1.2.2.2.2)))))
    | (.inr (.inr (.inr y1))) =>
      (some (.inr (.inr (.inr (y1.1, y1.2.1, y1.2.2.1, y1.2.2.2.1, y1.2.2.2.2)))))
def io_ReadFull_r (wa0 : Addr) (wa1 : Addr) (a0_0 : List Int) (a0_1 : Int) (a0_2 : Int) (a1 : List Int) (out : ((List Int) × Int × Int × (List Int) × Int) ⊕ (((List Int) × Int × Int × (List Int) × Int) ⊕ (((List Int) × Int × Int × (List Int) × Int) ⊕ ((List Int) × Int × Int × (List Int) × Int)))) (w : Unit) : SV := match out with
  | (.inl y) => (Tu [(Vl (.int .i64 y.2.2.2.2)), (If 67 (Vl (.pointer (some (Ga.a 2)))))])
  | (.inr (.inl y)) => (Tu [(Vl (.int .i64 y.2.2.2.2)), (Vl .nilIface)])
  | (.inr (.inr (.inl y))) => (Tu [(Vl (.int .i64 y.2.2.2.2)), (If 67 (Vl (.pointer (some (Ga.a 4)))))])
  | (.inr (.inr (.inr y))) => (Tu [(Vl (.int .i64 y.2.2.2.2)), (If 67 (Vl (.pointer (some (Ga.a 3)))))])
def io_ReadFull_h (wa0 : Addr) (wa1 : Addr) (a0_0 : List Int) (a0_1 : Int) (a0_2 : Int) (a1 : List Int) (out : ((List Int) × Int × Int × (List Int) × Int) ⊕ (((List Int) × Int × Int × (List Int) × Int) ⊕ (((List Int) × Int × Int × (List Int) × Int) ⊕ ((List Int) × Int × Int × (List Int) × Int)))) (w : Unit) : List Res := match out with
  | (.inl y) => [⟨.pointer (some wa0), [(Sl (Ki .u8) y.1), (Vl (.int .i64 y.2.1)), (Vl (.int .i8 y.2.2.1))], 50, none⟩, (Rw (Ki .u8) 55 (Vs (some wa1, 4, 4)) y.2.2.2.1)]
  | (.inr (.inl y)) => [⟨.pointer (some wa0), [(Sl (Ki .u8) y.1), (Vl (.int .i64 y.2.1)), (Vl (.int .i8 y.2.2.1))], 50, none⟩, (Rw (Ki .u8) 55 (Vs (some wa1, 4, 4)) y.2.2.2.1)]
  | (.inr (.inr (.inl y))) => [⟨.pointer (some wa0), [(Sl (Ki .u8) y.1), (Vl (.int .i64 y.2.1)), (Vl (.int .i8 y.2.2.1))], 50, none⟩, (Rw (Ki .u8) 55 (Vs (some wa1, 4, 4)) y.2.2.2.1)]
  | (.inr (.inr (.inr y))) => [⟨.pointer (some wa0), [(Sl (Ki .u8) y.1), (Vl (.int .i64 y.2.1)), (Vl (.int .i8 y.2.2.1))], 50, none⟩, (Rw (Ki .u8) 55 (Vs (some wa1, 4, 4)) y.2.2.2.1)]

theorem io_ReadFull_sim {k : Nat} {wa0 : Addr} {wa1 : Addr} (a0_0 : List Int) (a0_1 : Int) (a0_2 : Int) (a1 : List Int) {out : ((List Int) × Int × Int × (List Int) × Int) ⊕ (((List Int) × Int × Int × (List Int) × Int) ⊕ (((List Int) × Int × Int × (List Int) × Int) ⊕ ((List Int) × Int × Int × (List Int) × Int)))} (hp : io_ReadFull k a0_0 a0_1 a0_2 a1 = some out) : Go.Sx.Fn Tryd.prog 18 [(If 32 (Vl (.pointer (some wa0)))), (Vl (Vs (some wa1, 4, 4)))] [⟨.pointer (some wa0), [(Sl (Ki .u8) a0_0), (Vl (.int .i64 a0_1)), (Vl (.int .i8 a0_2))], 50, none⟩, (Rw (Ki .u8) 55 (Vs (some wa1, 4, 4)) a1)] (fun w => io_ReadFull_r wa0 wa1 a0_0 a0_1 a0_2 a1 out w) (fun w => io_ReadFull_h wa0 wa1 a0_0 a0_1 a0_2 a1 out w) := by
  unfold io_ReadFull at hp
  refine fn_of Tryd.func18 rfl Tryd.ntmps18 rfl fun E hM => ?_
  refine cx_seq' fun K1 hK1 => ?_
  refine cx_region' ?_
  refine sx_rd' (rd_assign' rfl) rfl rfl (wt_none' rfl) ?_
  refine sx_rd' (rd_assign' rfl) rfl rfl (wt_none' rfl) ?_
  refine sx_nil' ?_
  show TX E K1 _
  refine tx_k' hK1 ?_
  refine cx_seq' fun K2 hK2 => ?_
  refine cx_region' ?_
  refine sx_rd' (rd_move' rfl) rfl rfl (wt_none' rfl) ?_
  refine sx_rd' (rd_move' rfl) rfl rfl (wt_none' rfl) ?_
  refine sx_rd' (rd_move' rfl) rfl rfl (wt_none' rfl) ?_
  refine sx_rd' (rd_lenr' (i := 1) rfl rfl rfl Tryd.underlying22) rfl rfl (wt_none' rfl) ?_
  obtain ⟨r10, hr10, hp⟩ := bind_some hp
  rcases r10 with y1 | y1 | y1 | y1
  · dsimp only at hp
    refine sx_ox' (ox_callg' (ent_fn' Tryd.func19 isn19 rfl rfl) (io_ReadAtLeast_sim _ _ _ _ _ hr10 : Go.Sx.Fn Tryd.prog 19 [(If 32 (Vl (.pointer (some wa0)))), (Vl (Vs (some wa1, 4, 4))), (Vl (.int .i64 (a1.length : Int)))] [⟨.pointer (some wa0), [(Sl (Ki .u8) a0_0), (Vl (.int .i64 a0_1)), (Vl (.int .i8 a0_2))], 50, none⟩, (Rw (Ki .u8) 55 (Vs (some wa1, 4, 4)) a1)] (fun x : Unit => (Tu [(Vl (.int .i64 y1.2.2.2.2)), (If 67 (Vl (.pointer (some (Ga.a 2)))))])) (fun x => [⟨.pointer (some wa0), [(Sl (Ki .u8) y1.1), (Vl (.int .i64 y1.2.1)), (Vl (.int .i8 y1.2.2.1))], 50, none⟩, (Rw (Ki .u8) 55 (Vs (some wa1, 4, 4)) y1.2.2.2.1)])) [0, 1] [] (by decide) (pick_cons rfl (pick_cons rfl pick_nil)) pick_nil (Hn := fun x : Unit => [⟨.pointer (some wa0), [(Sl (Ki .u8) y1.1), (Vl (.int .i64 y1.2.1)), (Vl (.int .i8 y1.2.2.1))], 50, none⟩, (Rw (Ki .u8) 55 (Vs (some wa1, 4, 4)) y1.2.2.2.1)]) (fun _ => rfl) rfl rfl) (wt_none' rfl) fun ⟨⟩ => ?_
    refine sx_rd' (rd_extract' rfl rfl) rfl rfl (wt_none' rfl) ?_
    refine sx_rd' (rd_extract' rfl rfl) rfl rfl (wt_none' rfl) ?_
    refine sx_rd' (rd_assign' rfl) rfl rfl (wt_none' rfl) ?_
    refine sx_rd' (rd_assign' rfl) rfl rfl (wt_none' rfl) ?_
    refine sx_nil' ?_
    show TX E K2 _
    refine tx_k' hK2 ?_
    refine cx_retc' ?_
    replace hp := Option.some.inj hp
    subst hp
    refine tx_pick' (L' := [(4, (Vl (.int .i64 y1.2.2.2.2))), (5, (If 67 (Vl (.pointer (some (Ga.a 2))))))]) (H' := [⟨.pointer (some wa0), [(Sl (Ki .u8) y1.1), (Vl (.int .i64 y1.2.1)), (Vl (.int .i8 y1.2.2.1))], 50, none⟩, (Rw (Ki .u8) 55 (Vs (some wa1, 4, 4)) y1.2.2.2.1)]) [0, 1] (sub_cons rfl (sub_cons rfl sub_nil)) (by decide) (pick_cons rfl (pick_cons rfl pick_nil)) ?_
    exact tx_ret2' Tryd.results18 rfl () (rv_tmp' rfl) (rv_tmp' rfl) rfl (List.Sublist.refl _)
  · dsimp only at hp
    refine sx_ox' (ox_callg' (ent_fn' Tryd.func19 isn19 rfl rfl) (io_ReadAtLeast_sim _ _ _ _ _ hr10 : Go.Sx.Fn Tryd.prog 19 [(If 32 (Vl (.pointer (some wa0)))), (Vl (Vs (some wa1, 4, 4))), (Vl (.int .i64 (a1.length : Int)))] [⟨.pointer (some wa0), [(Sl (Ki .u8) a0_0), (Vl (.int .i64 a0_1)), (Vl (.int .i8 a0_2))], 50, none⟩, (Rw (Ki .u8) 55 (Vs (some wa1, 4, 4)) a1)] (fun x : Unit => (Tu [(Vl (.int .i64 y1.2.2.2.2)), (Vl .nilIface)])) (fun x => [⟨.pointer (some wa0), [(Sl (Ki .u8) y1.1), (Vl (.int .i64 y1.2.1)), (Vl (.int .i8 y1.2.2.1))], 50, none⟩, (Rw (Ki .u8) 55 (Vs (some wa1, 4, 4)) y1.2.2.2.1)])) [0, 1] [] (by decide) (pick_cons rfl (pick_cons rfl pick_nil)) pick_nil (Hn := fun x : Unit => [⟨.pointer (some wa0), [(Sl (Ki .u8) y1.1), (Vl (.int .i64 y1.2.1)), (Vl (.int .i8 y1.2.2.1))], 50, none⟩, (Rw (Ki .u8) 55 (Vs (some wa1, 4, 4)) y1.2.2.2.1)]) (fun _ => rfl) rfl rfl) (wt_none' rfl) fun ⟨⟩ => ?_
    refine sx_rd' (rd_extract' rfl rfl) rfl rfl (wt_none' rfl) ?_
    refine sx_rd' (rd_extract' rfl rfl) rfl rfl (wt_none' rfl) ?_
    refine sx_rd' (rd_assign' rfl) rfl rfl (wt_none' rfl) ?_
    refine sx_rd' (rd_assign' rfl) rfl rfl (wt_none' rfl) ?_
    refine sx_nil' ?_
    show TX E K2 _
    refine tx_k' hK2 ?_
    refine cx_retc' ?_
    replace hp := Option.some.inj hp
    subst hp
    refine tx_pick' (L' := [(4, (Vl (.int .i64 y1.2.2.2.2))), (5, (Vl .nilIface))]) (H' := [⟨.pointer (some wa0), [(Sl (Ki .u8) y1.1), (Vl (.int .i64 y1.2.1)), (Vl (.int .i8 y1.2.2.1))], 50, none⟩, (Rw (Ki .u8) 55 (Vs (some wa1, 4, 4)) y1.2.2.2.1)]) [0, 1] (sub_cons rfl (sub_cons rfl sub_nil)) (by decide) (pick_cons rfl (pick_cons rfl pick_nil)) ?_
    exact tx_ret2' Tryd.results18 rfl () (rv_tmp' rfl) (rv_tmp' rfl) rfl (List.Sublist.refl _)
  · dsimp only at hp
    refine sx_ox' (ox_callg' (ent_fn' Tryd.func19 isn19 rfl rfl) (io_ReadAtLeast_sim _ _ _ _ _ hr10 : Go.Sx.Fn Tryd.prog 19 [(If 32 (Vl (.pointer (some wa0)))), (Vl (Vs (some wa1, 4, 4))), (Vl (.int .i64 (a1.length : Int)))] [⟨.pointer (some wa0), [(Sl (Ki .u8) a0_0), (Vl (.int .i64 a0_1)), (Vl (.int .i8 a0_2))], 50, none⟩, (Rw (Ki .u8) 55 (Vs (some wa1, 4, 4)) a1)] (fun x : Unit => (Tu [(Vl (.int .i64 y1.2.2.2.2)), (If 67 (Vl (.pointer (some (Ga.a 4)))))])) (fun x => [⟨.pointer (some wa0), [(Sl (Ki .u8) y1.1), (Vl (.int .i64 y1.2.1)), (Vl (.int .i8 y1.2.2.1))], 50, none⟩, (Rw (Ki .u8) 55 (Vs (some wa1, 4, 4)) y1.2.2.2.1)])) [0, 1] [] (by decide) (pick_cons rfl (pick_cons rfl pick_nil)) pick_nil (Hn := fun x : Unit => [⟨.pointer (some wa0), [(Sl (Ki .u8) y1.1), (Vl (.int .i64 y1.2.1)), (Vl (.int .i8 y1.2.2.1))], 50, none⟩, (Rw (Ki .u8) 55 (Vs (some wa1, 4, 4)) y1.2.2.2.1)]) (fun _ => rfl) rfl rfl) (wt_none' rfl) fun ⟨⟩ => ?_
    refine sx_rd' (rd_extract' rfl rfl) rfl rfl (wt_none' rfl) ?_
    refine sx_rd' (rd_extract' rfl rfl) rfl rfl (wt_none' rfl) ?_
    refine sx_rd' (rd_assign' rfl) rfl rfl (wt_none' rfl) ?_
    refine sx_rd' (rd_assign' rfl) rfl rfl (wt_none' rfl) ?_
    refine sx_nil' ?_
    show TX E K2 _
    refine tx_k' hK2 ?_
    refine cx_retc' ?_
    replace hp := Option.some.inj hp
    subst hp
    refine tx_pick' (L' := [(4, (Vl (.int .i64 y1.2.2.2.2))), (5, (If 67 (Vl (.pointer (some (Ga.a 4))))))]) (H' := [⟨.pointer (some wa0), [(Sl (Ki .u8) y1.1), (Vl (.int .i64 y1.2.1)), (Vl (.int .i8 y1.2.2.1))], 50, none⟩, (Rw (Ki .u8) 55 (Vs (some wa1, 4, 4)) y1.2.2.2.1)]) [0, 1] (sub_cons rfl (sub_cons rfl sub_nil)) (by decide) (pick_cons rfl (pick_cons rfl pick_nil)) ?_
    exact tx_ret2' Tryd.results18 rfl () (rv_tmp' rfl) (rv_tmp' rfl) rfl (List.Sublist.refl _)
  · dsimp only at hp
    refine sx_ox' (ox_callg' (ent_fn' Tryd.func19 isn19 rfl rfl) (io_ReadAtLeast_sim _ _ _ _ _ hr10 : Go.Sx.Fn Tryd.prog 19 [(If 32 (Vl (.pointer (some wa0)))), (Vl (Vs (some wa1, 4, 4))), (Vl (.int .i64 (a1.length : Int)))] [⟨.pointer (some wa0), [(Sl (Ki .u8) a0_0), (Vl (.int .i64 a0_1)), (Vl (.int .i8 a0_2))], 50, none⟩, (Rw (Ki .u8) 55 (Vs (some wa1, 4, 4)) a1)] (fun x : Unit => (Tu [(Vl (.int .i64 y1.2.2.2.2)), (If 67 (Vl (.pointer (some (Ga.a 3)))))])) (fun x => [⟨.pointer (some wa0), [(Sl (Ki .u8) y1.1), (Vl (.int .i64 y1.2.1)), (Vl (.int .i8 y1.2.2.1))], 50, none⟩, (Rw (Ki .u8) 55 (Vs (some wa1, 4, 4)) y1.2.2.2.1)])) [0, 1] [] (by decide) (pick_cons rfl (pick_cons rfl pick_nil)) pick_nil (Hn := fun x : Unit => [⟨.pointer (some wa0), [(Sl (Ki .u8) y1.1), (Vl (.int .i64 y1.2.1)), (Vl (.int .i8 y1.2.2.1))], 50, none⟩, (Rw (Ki .u8) 55 (Vs (some wa1, 4, 4)) y1.2.2.2.1)]) (fun _ => rfl) rfl rfl) (wt_none' rfl) fun ⟨⟩ => ?_
    refine sx_rd' (rd_extract' rfl rfl) rfl rfl (wt_none' rfl) ?_
    refine sx_rd' (rd_extract' rfl rfl) rfl rfl (wt_none' rfl) ?_
    refine sx_rd' (rd_assign' rfl) rfl rfl (wt_none' rfl) ?_
    refine sx_rd' (rd_assign' rfl) rfl rfl (wt_none' rfl) ?_
    refine sx_nil' ?_
    show TX E K2 _
    refine tx_k' hK2 ?_
    refine cx_retc' ?_
    replace hp := Option.some.inj hp
    subst hp
    refine tx_pick' (L' := [(4, (Vl (.int .i64 y1.2.2.2.2))), (5, (If 67 (Vl (.pointer (some (Ga.a 3))))))]) (H' := [⟨.pointer (some wa0), [(Sl (Ki .u8) y1.1), (Vl (.int .i64 y1.2.1)), (Vl (.int .i8 y1.2.2.1))], 50, none⟩, (Rw (Ki .u8) 55 (Vs (some wa1, 4, 4)) y1.2.2.2.1)]) [0, 1] (sub_cons rfl (sub_cons rfl sub_nil)) (by decide) (pick_cons rfl (pick_cons rfl pick_nil)) ?_
    exact tx_ret2' Tryd.results18 rfl () (rv_tmp' rfl) (rv_tmp' rfl) rfl (List.Sublist.refl _)

def binary_bigEndian_Uint32 (k : Nat) (a1 : List Int) : Option (Int) :=
  (idx a1 3) >>= fun r6 =>
  (idx a1 3) >>= fun r9 =>
  (idx a1 2) >>= fun r13 =>
  (ishl .u32 (icv .u32 r13) 8) >>= fun r16 =>
  (idx a1 1) >>= fun r19 =>
  (ishl .u32 (icv .u32 r19) 16) >>= fun r22 =>
  (idx a1 0) >>= fun r25 =>
  (ishl .u32 (icv .u32 r25) 24) >>= fun r28 =>
  some (ior .u32 (ior .u32 (ior .u32 (icv .u32 r9) r16) r22) r28)

theorem binary_bigEndian_Uint32_sim {k : Nat}  (a1 : List Int) {out : Int} (hp : binary_bigEndian_Uint32 k a1 = some out) : Go.Sx.Fn Tryd.prog 50 [(Ag []), (Sl (Ki .u8) a1)] [] (fun w : Unit => (Vl (.int .u32 out))) (fun w => []) := by
  unfold binary_bigEndian_Uint32 at hp
  refine fn_of Tryd.func50 rfl Tryd.ntmps50 rfl fun E hM => ?_
  refine cx_seq' fun K1 hK1 => ?_
  refine cx_region' ?_
  refine sx_ox' (ox_box' rfl (lv_ag _) rfl rfl) (wt_none' rfl) fun q2 => ?_
  refine sx_rd' (rd_assign' rfl) rfl rfl (wt_none' rfl) ?_
  refine sx_nil' ?_
  show TX E K1 _
  refine tx_k' hK1 ?_
  refine cx_seq' fun K2 hK2 => ?_
  refine cx_region' ?_
  refine sx_rd' (rd_move' rfl) rfl rfl (wt_none' rfl) ?_
  obtain ⟨r6, hr6, hp⟩ := bind_some hp
  refine sx_rd' (rd_at' (K := (Ki .u8)) rfl rfl hr6 Tryd.underlying22 info5) rfl rfl (wt_none' rfl) ?_
  refine sx_rd' (rd_load_pt' rfl rfl flat5) rfl rfl (wt_none' rfl) ?_
  refine sx_nil' ?_
  show TX E K2 _
  refine tx_k' hK2 ?_
  refine cx_seq' fun K3 hK3 => ?_
  refine cx_draw' mixed (by kernel_rfl) ?_
  refine qx_rd' (rd_move' rfl) rfl rfl (wt_none' rfl) ?_
  obtain ⟨r9, hr9, hp⟩ := bind_some hp
  refine qx_rd' (rd_at' (K := (Ki .u8)) rfl rfl hr9 Tryd.underlying22 info5) rfl rfl (wt_none' rfl) ?_
  refine qx_rd' (rd_load_pt' rfl rfl flat5) rfl rfl (wt_none' rfl) ?_
  refine qx_rd' (rd_conv' rfl (ru_i2i (by rw [Tryd.underlying5]; rfl) Tryd.underlying23)) rfl rfl (wt_none' rfl) ?_
  refine qx_rd' (rd_move' rfl) rfl rfl (wt_none' rfl) ?_
  obtain ⟨r13, hr13, hp⟩ := bind_some hp
  refine qx_rd' (rd_at' (K := (Ki .u8)) rfl rfl hr13 Tryd.underlying22 info5) rfl rfl (wt_none' rfl) ?_
  refine qx_rd' (rd_load_pt' rfl rfl flat5) rfl rfl (wt_none' rfl) ?_
  refine qx_rd' (rd_conv' rfl (ru_i2i (by rw [Tryd.underlying5]; rfl) Tryd.underlying23)) rfl rfl (wt_none' rfl) ?_
  obtain ⟨r16, hr16, hp⟩ := bind_some hp
  refine qx_rd' (rd_bin' rfl rfl eg_int (ru_shl hr16)) rfl rfl (wt_none' rfl) ?_
  refine qx_rd' (rd_bin' rfl rfl eg_int ru_or) rfl rfl (wt_none' rfl) ?_
  refine qx_rd' (rd_move' rfl) rfl rfl (wt_none' rfl) ?_
  obtain ⟨r19, hr19, hp⟩ := bind_some hp
  refine qx_rd' (rd_at' (K := (Ki .u8)) rfl rfl hr19 Tryd.underlying22 info5) rfl rfl (wt_none' rfl) ?_
  refine qx_rd' (rd_load_pt' rfl rfl flat5) rfl rfl (wt_none' rfl) ?_
  refine qx_rd' (rd_conv' rfl (ru_i2i (by rw [Tryd.underlying5]; rfl) Tryd.underlying23)) rfl rfl (wt_none' rfl) ?_
  obtain ⟨r22, hr22, hp⟩ := bind_some hp
  refine qx_rd' (rd_bin' rfl rfl eg_int (ru_shl hr22)) rfl rfl (wt_none' rfl) ?_
  refine qx_rd' (rd_bin' rfl rfl eg_int ru_or) rfl rfl (wt_none' rfl) ?_
  refine qx_rd' (rd_move' rfl) rfl rfl (wt_none' rfl) ?_
  obtain ⟨r25, hr25, hp⟩ := bind_some hp
  refine qx_rd' (rd_at' (K := (Ki .u8)) rfl rfl hr25 Tryd.underlying22 info5) rfl rfl (wt_none' rfl) ?_
  refine qx_rd' (rd_load_pt' rfl rfl flat5) rfl rfl (wt_none' rfl) ?_
  refine qx_rd' (rd_conv' rfl (ru_i2i (by rw [Tryd.underlying5]; rfl) Tryd.underlying23)) rfl rfl (wt_none' rfl) ?_
  obtain ⟨r28, hr28, hp⟩ := bind_some hp
  refine qx_rd' (rd_bin' rfl rfl eg_int (ru_shl hr28)) rfl rfl (wt_none' rfl) ?_
  refine qx_rd' (rd_bin' rfl rfl eg_int ru_or) rfl rfl (wt_none' rfl) ?_
  refine qx_rd' (rd_assign' rfl) rfl rfl (wt_none' rfl) ?_
  refine qx_nil' ?_
  show TX E K3 _
  refine tx_k' hK3 ?_
  refine cx_retc' ?_
  replace hp := Option.some.inj hp
  subst hp
  refine tx_pick' (L' := [(4, (Vl (.int .u32 (ior .u32 (ior .u32 (ior .u32 (icv .u32 r9) r16) r22) r28))))]) (H' := []) [] (sub_cons rfl sub_nil) (by decide) pick_nil ?_
  exact tx_ret1' Tryd.results50 rfl () (rv_tmp' rfl) (List.Sublist.refl _)

def wkbcommon_ReadUInt32 (k : Nat) (a0_0 : List Int) (a0_1 : Int) (a0_2 : Int) : Option (((List Int) × Int × Int × Int) ⊕ (((List Int) × Int × Int × Int) ⊕ (((List Int) × Int × Int × Int) ⊕ ((List Int) × Int × Int × Int)))) :=
  (io_ReadFull k a0_0 a0_1 a0_2 ([0, 0, 0, 0])) >>= fun r12 =>
  match r12 with
    | (.inl y1) =>
      (some (.inl (y1.1, y1.2.1, y1.2.2.1, 0)))
    | (.inr (.inl y1)) =>
      ((binary_bigEndian_Uint32 k y1.2.2.2.1) >>= fun r23 =>
      some (.inr (.inl (y1.1, y1.2.1, y1.2.2.1, r23))))
    | (.inr (.inr (.inl y1))) =>
      (some (.inr (.inr (.inl (y1.1, y1.2.1, y1.2.2.1, 0)))))
    | (.inr (.inr (.inr y1))) =>
      (some (.inr (.inr (.inr (y1.1, y1.2.1, y1.2.2.1, 0)))))
def wkbcommon_ReadUInt32_r (wa0 : Addr) (a0_0 : List Int) (a0_1 : Int) (a0_2 : Int) (out : ((List Int) × Int × Int × Int) ⊕ (((List Int) × Int × Int × Int) ⊕ (((List Int) × Int × Int × Int) ⊕ ((List Int) × Int × Int × Int)))) (w : Unit) : SV := match out with
  | (.inl y) => (Tu [(Vl (.int .u32 y.2.2.2)), (If 67 (Vl (.pointer (some (Ga.a 2)))))])
  | (.inr (.inl y)) => (Tu [(Vl (.int .u32 y.2.2.2)), (Vl .nilIface)])
  | (.inr (.inr (.inl y))) => (Tu [(Vl (.int .u32 y.2.2.2)), (If 67 (Vl (.pointer (some (Ga.a 4)))))])
  | (.inr (.inr (.inr y))) => (Tu [(Vl (.int .u32 y.2.2.2)), (If 67 (Vl (.pointer (some (Ga.a 3)))))])
def wkbcommon_ReadUInt32_h (wa0 : Addr) (a0_0 : List Int) (a0_1 : Int) (a0_2 : Int) (out : ((List Int) × Int × Int × Int) ⊕ (((List Int) × Int × Int × Int) ⊕ (((List Int) × Int × Int × Int) ⊕ ((List Int) × Int × Int × Int)))) (w : Unit) : List Res := match out with
  | (.inl y) => [⟨.pointer (some wa0), [(Sl (Ki .u8) y.1), (Vl (.int .i64 y.2.1)), (Vl (.int .i8 y.2.2.1))], 50, none⟩]
  | (.inr (.inl y)) => [⟨.pointer (some wa0), [(Sl (Ki .u8) y.1), (Vl (.int .i64 y.2.1)), (Vl (.int .i8 y.2.2.1))], 50, none⟩]
  | (.inr (.inr (.inl y))) => [⟨.pointer (some wa0), [(Sl (Ki .u8) y.1), (Vl (.int .i64 y.2.1)), (Vl (.int .i8 y.2.2.1))], 50, none⟩]
  | (.inr (.inr (.inr y))) => [⟨.pointer (some wa0), [(Sl (Ki .u8) y.1), (Vl (.int .i64 y.2.1)), (Vl (.int .i8 y.2.2.1))], 50, none⟩]

theorem wkbcommon_ReadUInt32_sim {k : Nat} {wa0 : Addr} (a0_0 : List Int) (a0_1 : Int) (a0_2 : Int) {out : ((List Int) × Int × Int × Int) ⊕ (((List Int) × Int × Int × Int) ⊕ (((List Int) × Int × Int × Int) ⊕ ((List Int) × Int × Int × Int)))} (hp : wkbcommon_ReadUInt32 k a0_0 a0_1 a0_2 = some out) : Go.Sx.Fn Tryd.prog 11 [(If 32 (Vl (.pointer (some wa0)))), (If 60 (Ag []))] [⟨.pointer (some wa0), [(Sl (Ki .u8) a0_0), (Vl (.int .i64 a0_1)), (Vl (.int .i8 a0_2))], 50, none⟩] (fun w => wkbcommon_ReadUInt32_r wa0 a0_0 a0_1 a0_2 out w) (fun w => wkbcommon_ReadUInt32_h wa0 a0_0 a0_1 a0_2 out w) := by
  unfold wkbcommon_ReadUInt32 at hp
  refine fn_of Tryd.func11 rfl Tryd.ntmps11 rfl fun E hM => ?_
  refine cx_seq' fun K1 hK1 => ?_
  refine cx_region' ?_
  refine sx_rd' (rd_assign' rfl) rfl rfl (wt_none' rfl) ?_
  refine sx_rd' (rd_assign' rfl) rfl rfl (wt_none' rfl) ?_
  refine sx_nil' ?_
  show TX E K1 _
  refine tx_k' hK1 ?_
  refine cx_seq' fun K2 hK2 => ?_
  refine cx_region' ?_
  refine sx_ox' (ox_alloc' info55 rfl rfl rfl rfl (l := [(Vl (.int .u8 0)), (Vl (.int .u8 0)), (Vl (.int .u8 0)), (Vl (.int .u8 0))]) rfl) (wt_none' rfl) fun q6 => ?_
  refine tx_arr' (K := (Ki .u8)) (xs := [0, 0, 0, 0]) (m := 4) (i := 0) rfl rfl rfl (H' := [(Rw (Ki .u8) 55 (Vs (some q6, 4, 4)) ([0, 0, 0, 0])), ⟨.pointer (some wa0), [(Sl (Ki .u8) a0_0), (Vl (.int .i64 a0_1)), (Vl (.int .i8 a0_2))], 50, none⟩]) rfl ?_
  refine sx_nil' ?_
  show TX E K2 _
  refine tx_k' hK2 ?_
  refine cx_seq' fun K3 hK3 => ?_
  refine cx_seq' fun K4 hK4 => ?_
  refine cx_region' ?_
  refine sx_rd' (rd_move' rfl) rfl rfl (wt_none' rfl) ?_
  refine sx_rd' (rd_cut_arr' (q := q6) rfl Tryd.underlying55 info5) rfl rfl (wt_none' rfl) ?_
  obtain ⟨r12, hr12, hp⟩ := bind_some hp
  rcases r12 with y1 | y1 | y1 | y1
  · dsimp only at hp
    refine sx_ox' (ox_callg' (ent_fn' Tryd.func18 isn18 rfl rfl) (io_ReadFull_sim _ _ _ _ hr12 : Go.Sx.Fn Tryd.prog 18 [(If 32 (Vl (.pointer (some wa0)))), (Vl (Vs (some q6, 4, 4)))] [⟨.pointer (some wa0), [(Sl (Ki .u8) a0_0), (Vl (.int .i64 a0_1)), (Vl (.int .i8 a0_2))], 50, none⟩, (Rw (Ki .u8) 55 (Vs (some q6, 4, 4)) ([0, 0, 0, 0]))] (fun x : Unit => (Tu [(Vl (.int .i64 y1.2.2.2.2)), (If 67 (Vl (.pointer (some (Ga.a 2)))))])) (fun x => [⟨.pointer (some wa0), [(Sl (Ki .u8) y1.1), (Vl (.int .i64 y1.2.1)), (Vl (.int .i8 y1.2.2.1))], 50, none⟩, (Rw (Ki .u8) 55 (Vs (some q6, 4, 4)) y1.2.2.2.1)])) [1, 0] [] (by decide) (pick_cons rfl (pick_cons rfl pick_nil)) pick_nil (Hn := fun x : Unit => [⟨.pointer (some wa0), [(Sl (Ki .u8) y1.1), (Vl (.int .i64 y1.2.1)), (Vl (.int .i8 y1.2.2.1))], 50, none⟩, (Rw (Ki .u8) 55 (Vs (some q6, 4, 4)) y1.2.2.2.1)]) (fun _ => rfl) rfl rfl) (wt_none' rfl) fun ⟨⟩ => ?_
    refine sx_rd' (rd_move' rfl) rfl rfl (wt_none' rfl) ?_
    refine sx_rd' (rd_extract' rfl rfl) rfl rfl (wt_none' rfl) ?_
    refine sx_rd' (rd_extract' rfl rfl) rfl rfl (wt_none' rfl) ?_
    refine sx_rd' (rd_assign' rfl) rfl rfl (wt_none' rfl) ?_
    refine sx_rd' (rd_assign' rfl) rfl rfl (wt_none' rfl) ?_
    refine sx_nil' ?_
    show TX E K4 _
    refine tx_k' hK4 ?_
    refine cx_seq' fun K5 hK5 => ?_
    refine cx_region' ?_
    refine sx_rd' (rd_move' rfl) rfl rfl (wt_none' rfl) ?_
    refine sx_rd' (rd_binf' rfl rfl (bf_if (fun _ _ => by kernel_rfl) nil_neq35_if67)) rfl rfl (wt_none' rfl) ?_
    refine sx_nil' ?_
    show TX E K5 _
    refine tx_k' hK5 ?_
    refine cx_cond_t' rfl rfl ?_
    refine cx_seq' fun K6 hK6 => ?_
    refine cx_region' ?_
    refine sx_rd' (rd_move' rfl) rfl rfl (wt_none' rfl) ?_
    refine sx_rd' (rd_assign' rfl) rfl rfl (wt_none' rfl) ?_
    refine sx_rd' (rd_assign' rfl) rfl rfl (wt_none' rfl) ?_
    refine sx_nil' ?_
    show TX E K6 _
    refine tx_k' hK6 ?_
    refine cx_retc' ?_
    replace hp := Option.some.inj hp
    subst hp
    refine tx_pick' (L' := [(4, (Vl (.int .u32 0))), (5, (If 67 (Vl (.pointer (some (Ga.a 2))))))]) (H' := [⟨.pointer (some wa0), [(Sl (Ki .u8) y1.1), (Vl (.int .i64 y1.2.1)), (Vl (.int .i8 y1.2.2.1))], 50, none⟩]) [0] (sub_cons rfl (sub_cons rfl sub_nil)) (by decide) (pick_cons rfl pick_nil) ?_
    exact tx_ret2' Tryd.results11 rfl () (rv_tmp' rfl) (rv_tmp' rfl) rfl (List.Sublist.refl _)
  · dsimp only at hp
    refine sx_ox' (ox_callg' (ent_fn' Tryd.func18 isn18 rfl rfl) (io_ReadFull_sim _ _ _ _ hr12 : Go.Sx.Fn Tryd.prog 18 [(If 32 (Vl (.pointer (some wa0)))), (Vl (Vs (some q6, 4, 4)))] [⟨.pointer (some wa0), [(Sl (Ki .u8) a0_0), (Vl (.int .i64 a0_1)), (Vl (.int .i8 a0_2))], 50, none⟩, (Rw (Ki .u8) 55 (Vs (some q6, 4, 4)) ([0, 0, 0, 0]))] (fun x : Unit => (Tu [(Vl (.int .i64 y1.2.2.2.2)), (Vl .nilIface)])) (fun x => [⟨.pointer (some wa0), [(Sl (Ki .u8) y1.1), (Vl (.int .i64 y1.2.1)), (Vl (.int .i8 y1.2.2.1))], 50, none⟩, (Rw (Ki .u8) 55 (Vs (some q6, 4, 4)) y1.2.2.2.1)])) [1, 0] [] (by decide) (pick_cons rfl (pick_cons rfl pick_nil)) pick_nil (Hn := fun x : Unit => [⟨.pointer (some wa0), [(Sl (Ki .u8) y1.1), (Vl (.int .i64 y1.2.1)), (Vl (.int .i8 y1.2.2.1))], 50, none⟩, (Rw (Ki .u8) 55 (Vs (some q6, 4, 4)) y1.2.2.2.1)]) (fun _ => rfl) rfl rfl) (wt_none' rfl) fun ⟨⟩ => ?_
    refine sx_rd' (rd_move' rfl) rfl rfl (wt_none' rfl) ?_
    refine sx_rd' (rd_extract' rfl rfl) rfl rfl (wt_none' rfl) ?_
    refine sx_rd' (rd_extract' rfl rfl) rfl rfl (wt_none' rfl) ?_
    refine sx_rd' (rd_assign' rfl) rfl rfl (wt_none' rfl) ?_
    refine sx_rd' (rd_assign' rfl) rfl rfl (wt_none' rfl) ?_
    refine sx_nil' ?_
    show TX E K4 _
    refine tx_k' hK4 ?_
    refine cx_seq' fun K5 hK5 => ?_
    refine cx_region' ?_
    refine sx_rd' (rd_move' rfl) rfl rfl (wt_none' rfl) ?_
    refine sx_rd' (rd_binf' rfl rfl (bf_vl (fun _ => by kernel_rfl) nil_neq35_nilif)) rfl rfl (wt_none' rfl) ?_
    refine sx_nil' ?_
    show TX E K5 _
    refine tx_k' hK5 ?_
    refine cx_cond_f' rfl rfl ?_
    refine cx_skip' ?_
    show TX E K3 _
    refine tx_k' hK3 ?_
    refine cx_seq' fun K7 hK7 => ?_
    refine cx_plan' [] [] [(0, 1), (1, 1), (2, 1), (3, 1), (4, 1), (5, 0), (6, 1), (7, 1)] mixed (by kernel_rfl) ?_
    refine px_rd' rfl (rd_move' rfl) rfl rfl (wt_none' rfl) ?_
    refine px_rd' rfl (rd_cut_arr' (q := q6) rfl Tryd.underlying55 info5) rfl rfl (wt_none' rfl) ?_
    refine px_rd' rfl (rd_mkmeth' rfl) rfl rfl (wt_none' rfl) ?_
    refine px_rd' rfl (rd_nilck_mf' rfl (fun _ _ v _ w => nla60_Uint32_ag v w)) rfl rfl (wt_none' rfl) ?_
    refine px_rd' rfl (rd_move' rfl) rfl rfl (wt_none' rfl) ?_
    obtain ⟨r23, hr23, hp⟩ := bind_some hp
    refine px_ox' rfl (ox_brw' (frz_row 1 [(11, (Vl (Vs (some q6, 4, 4))), (Sl (Ki .u8) y1.2.2.2.1)), (19, (Vl (Vs (some q6, 4, 4))), (Sl (Ki .u8) y1.2.2.2.1))] (K := (Ki .u8)) (xs := y1.2.2.2.1) (by decide) rfl ⟨⟨rfl, frz_it⟩, ⟨rfl, frz_it⟩, trivial⟩ (H' := [⟨.pointer (some wa0), [(Sl (Ki .u8) y1.1), (Vl (.int .i64 y1.2.1)), (Vl (.int .i8 y1.2.2.1))], 50, none⟩]) frzH_refl) (ent_inv' rfl rfl (inv_any1 inv60_Uint32)) (binary_bigEndian_Uint32_sim _ hr23 : Go.Sx.Fn Tryd.prog 50 [(Ag []), (Sl (Ki .u8) y1.2.2.2.1)] [] (fun x : Unit => (Vl (.int .u32 r23))) (fun x => [])) pu_vl rfl rfl) rfl bs_nil (wt_none' rfl) fun ⟨⟩ => ?_
    refine px_rd' rfl (rd_assign' rfl) rfl rfl (wt_none' rfl) ?_
    refine px_rd' rfl (rd_assign' rfl) rfl rfl (wt_none' rfl) ?_
    refine px_nil' ?_
    show TX E K7 _
    refine tx_k' hK7 ?_
    refine cx_retc' ?_
    replace hp := Option.some.inj hp
    subst hp
    refine tx_pick' (L' := [(4, (Vl (.int .u32 r23))), (5, (Vl .nilIface))]) (H' := [⟨.pointer (some wa0), [(Sl (Ki .u8) y1.1), (Vl (.int .i64 y1.2.1)), (Vl (.int .i8 y1.2.2.1))], 50, none⟩]) [0] (sub_cons rfl (sub_cons rfl sub_nil)) (by decide) (pick_cons rfl pick_nil) ?_
    exact tx_ret2' Tryd.results11 rfl () (rv_tmp' rfl) (rv_tmp' rfl) rfl (List.Sublist.refl _)
  · dsimp only at hp
    refine sx_ox' (ox_callg' (ent_fn' Tryd.func18 isn18 rfl rfl) (io_ReadFull_sim _ _ _ _ hr12 : Go.Sx.Fn Tryd.prog 18 [(If 32 (Vl (.pointer (some wa0)))), (Vl (Vs (some q6, 4, 4)))] [⟨.pointer (some wa0), [(Sl (Ki .u8) a0_0), (Vl (.int .i64 a0_1)), (Vl (.int .i8 a0_2))], 50, none⟩, (Rw (Ki .u8) 55 (Vs (some q6, 4, 4)) ([0, 0, 0, 0]))] (fun x : Unit => (Tu [(Vl (.int .i64 y1.2.2.2.2)), (If 67 (Vl (.pointer (some (Ga.a 4)))))])) (fun x => [⟨.pointer (some wa0), [(Sl (Ki .u8) y1.1), (Vl (.int .i64 y1.2.1)), (Vl (.int .i8 y1.2.2.1))], 50, none⟩, (Rw (Ki .u8) 55 (Vs (some q6, 4, 4)) y1.2.2.2.1)])) [1, 0] [] (by decide) (pick_cons rfl (pick_cons rfl pick_nil)) pick_nil (Hn := fun x : Unit => [⟨.pointer (some wa0), [(Sl (Ki .u8) y1.1), (Vl (.int .i64 y1.2.1)), (Vl (.int .i8 y1.2.2.1))], 50, none⟩, (Rw (Ki .u8) 55 (Vs (some q6, 4, 4)) y1.2.2.2.1)]) (fun _ => rfl) rfl rfl) (wt_none' rfl) fun ⟨⟩ => ?_
    refine sx_rd' (rd_move' rfl) rfl rfl (wt_none' rfl) ?_
    refine sx_rd' (rd_extract' rfl rfl) rfl rfl (wt_none' rfl) ?_
    refine sx_rd' (rd_extract' rfl rfl) rfl rfl (wt_none' rfl) ?_
    refine sx_rd' (rd_assign' rfl) rfl rfl (wt_none' rfl) ?_
    refine sx_rd' (rd_assign' rfl) rfl rfl (wt_none' rfl) ?_
    refine sx_nil' ?_
    show TX E K4 _
    refine tx_k' hK4 ?_
    refine cx_seq' fun K5 hK5 => ?_
    refine cx_region' ?_
    refine sx_rd' (rd_move' rfl) rfl rfl (wt_none' rfl) ?_
    refine sx_rd' (rd_binf' rfl rfl (bf_if (fun _ _ => by kernel_rfl) nil_neq35_if67)) rfl rfl (wt_none' rfl) ?_
    refine sx_nil' ?_
    show TX E K5 _
    refine tx_k' hK5 ?_
    refine cx_cond_t' rfl rfl ?_
    refine cx_seq' fun K6 hK6 => ?_
    refine cx_region' ?_
    refine sx_rd' (rd_move' rfl) rfl rfl (wt_none' rfl) ?_
    refine sx_rd' (rd_assign' rfl) rfl rfl (wt_none' rfl) ?_
    refine sx_rd' (rd_assign' rfl) rfl rfl (wt_none' rfl) ?_
    refine sx_nil' ?_
    show TX E K6 _
    refine tx_k' hK6 ?_
    refine cx_retc' ?_
    replace hp := Option.some.inj hp
    subst hp
    refine tx_pick' (L' := [(4, (Vl (.int .u32 0))), (5, (If 67 (Vl (.pointer (some (Ga.a 4))))))]) (H' := [⟨.pointer (some wa0), [(Sl (Ki .u8) y1.1), (Vl (.int .i64 y1.2.1)), (Vl (.int .i8 y1.2.2.1))], 50, none⟩]) [0] (sub_cons rfl (sub_cons rfl sub_nil)) (by decide) (pick_cons rfl pick_nil) ?_
    exact tx_ret2' Tryd.results11 rfl () (rv_tmp' rfl) (rv_tmp' rfl) rfl (List.Sublist.refl _)
  · dsimp only at hp
    refine sx_ox' (ox_callg' (ent_fn' Tryd.func18 isn18 rfl rfl) (io_ReadFull_sim _ _ _ _ hr12 : Go.Sx.Fn Tryd.prog 18 [(If 32 (Vl (.pointer (some wa0)))), (Vl (Vs (some q6, 4, 4)))] [⟨.pointer (some wa0), [(Sl (Ki .u8) a0_0), (Vl (.int .i64 a0_1)), (Vl (.int .i8 a0_2))], 50, none⟩, (Rw (Ki .u8) 55 (Vs (some q6, 4, 4)) ([0, 0, 0, 0]))] (fun x : Unit => (Tu [(Vl (.int .i64 y1.2.2.2.2)), (If 67 (Vl (.pointer (some (Ga.a 3)))))])) (fun x => [⟨.pointer (some wa0), [(Sl (Ki .u8) y1.1), (Vl (.int .i64 y1.2.1)), (Vl (.int .i8 y1.2.2.1))], 50, none⟩, (Rw (Ki .u8) 55 (Vs (some q6, 4, 4)) y1.2.2.2.1)])) [1, 0] [] (by decide) (pick_cons rfl (pick_cons rfl pick_nil)) pick_nil (Hn := fun x : Unit => [⟨.pointer (some wa0), [(Sl (Ki .u8) y1.1), (Vl (.int .i64 y1.2.1)), (Vl (.int .i8 y1.2.2.1))], 50, none⟩, (Rw (Ki .u8) 55 (Vs (some q6, 4, 4)) y1.2.2.2.1)]) (fun _ => rfl) rfl rfl) (wt_none' rfl) fun ⟨⟩ => ?_
    refine sx_rd' (rd_move' rfl) rfl rfl (wt_none' rfl) ?_
    refine sx_rd' (rd_extract' rfl rfl) rfl rfl (wt_none' rfl) ?_
    refine sx_rd' (rd_extract' rfl rfl) rfl rfl (wt_none' rfl) ?_
    refine sx_rd' (rd_assign' rfl) rfl rfl (wt_none' rfl) ?_
    refine sx_rd' (rd_assign' rfl) rfl rfl (wt_none' rfl) ?_
    refine sx_nil' ?_
    show TX E K4 _
    refine tx_k' hK4 ?_
    refine cx_seq' fun K5 hK5 => ?_
    refine cx_region' ?_
    refine sx_rd' (rd_move' rfl) rfl rfl (wt_none' rfl) ?_
    refine sx_rd' (rd_binf' rfl rfl (bf_if (fun _ _ => by kernel_rfl) nil_neq35_if67)) rfl rfl (wt_none' rfl) ?_
    refine sx_nil' ?_
    show TX E K5 _
    refine tx_k' hK5 ?_
    refine cx_cond_t' rfl rfl ?_
    refine cx_seq' fun K6 hK6 => ?_
    refine cx_region' ?_
    refine sx_rd' (rd_move' rfl) rfl rfl (wt_none' rfl) ?_
    refine sx_rd' (rd_assign' rfl) rfl rfl (wt_none' rfl) ?_
    refine sx_rd' (rd_assign' rfl) rfl rfl (wt_none' rfl) ?_
    refine sx_nil' ?_
    show TX E K6 _
    refine tx_k' hK6 ?_
    refine cx_retc' ?_
    replace hp := Option.some.inj hp
    subst hp
    refine tx_pick' (L' := [(4, (Vl (.int .u32 0))), (5, (If 67 (Vl (.pointer (some (Ga.a 3))))))]) (H' := [⟨.pointer (some wa0), [(Sl (Ki .u8) y1.1), (Vl (.int .i64 y1.2.1)), (Vl (.int .i8 y1.2.2.1))], 50, none⟩]) [0] (sub_cons rfl (sub_cons rfl sub_nil)) (by decide) (pick_cons rfl pick_nil) ?_
    exact tx_ret2' Tryd.results11 rfl () (rv_tmp' rfl) (rv_tmp' rfl) rfl (List.Sublist.refl _)

def bytes_Buffer_Len (k : Nat) (a0_0 : List Int) (a0_1 : Int) (a0_2 : Int) : Option ((List Int) × Int × Int × Int) :=
  some (a0_0, a0_1, a0_2, isub .i64 (a0_0.length : Int) a0_1)

theorem bytes_Buffer_Len_sim {k : Nat} {wa0 : Addr} (a0_0 : List Int) (a0_1 : Int) (a0_2 : Int) {out : (List Int) × Int × Int × Int} (hp : bytes_Buffer_Len k a0_0 a0_1 a0_2 = some out) : Go.Sx.Fn Tryd.prog 13 [(Vl (.pointer (some wa0)))] [⟨.pointer (some wa0), [(Sl (Ki .u8) a0_0), (Vl (.int .i64 a0_1)), (Vl (.int .i8 a0_2))], 50, none⟩] (fun w : Unit => (Vl (.int .i64 out.2.2.2))) (fun w => [⟨.pointer (some wa0), [(Sl (Ki .u8) out.1), (Vl (.int .i64 out.2.1)), (Vl (.int .i8 out.2.2.1))], 50, none⟩]) := by
  unfold bytes_Buffer_Len at hp
  refine fn_of Tryd.func13 rfl Tryd.ntmps13 rfl fun E hM => ?_
  refine cx_seq' fun K1 hK1 => ?_
  refine cx_region' ?_
  refine sx_rd' (rd_assign' rfl) rfl rfl (wt_none' rfl) ?_
  refine sx_nil' ?_
  show TX E K1 _
  refine tx_k' hK1 ?_
  refine cx_seq' fun K2 hK2 => ?_
  refine cx_draw' mixed (by kernel_rfl) ?_
  refine qx_rd' (rd_move' rfl) rfl rfl (wt_none' rfl) ?_
  refine qx_rd' (rd_nilck' rfl) rfl rfl (wt_none' rfl) ?_
  refine qx_rd' (rd_field0' rfl Tryd.underlying50 rfl info22 rfl) rfl rfl (wt_none' rfl) ?_
  refine qx_rd' (rd_load' (i := 0) (o := 0) rfl ⟨rfl, rfl, rfl, rfl⟩ rfl flat22) rfl rfl (wt_none' rfl) ?_
  refine qx_rd' (rd_len' rfl Tryd.underlying22) rfl rfl (wt_none' rfl) ?_
  refine qx_rd' (rd_move' rfl) rfl rfl (wt_none' rfl) ?_
  refine qx_rd' (rd_nilck' rfl) rfl rfl (wt_none' rfl) ?_
  refine qx_rd' (rd_field' (off := 1) rfl Tryd.underlying50 rfl info3 rfl) rfl rfl (wt_none' rfl) ?_
  refine qx_rd' (rd_load' (i := 0) (o := 1) rfl ⟨rfl, rfl, rfl, rfl⟩ rfl flat3) rfl rfl (wt_none' rfl) ?_
  refine qx_rd' (rd_bin' rfl rfl eg_int ru_sub) rfl rfl (wt_none' rfl) ?_
  refine qx_rd' (rd_assign' rfl) rfl rfl (wt_none' rfl) ?_
  refine qx_nil' ?_
  show TX E K2 _
  refine tx_k' hK2 ?_
  refine cx_retc' ?_
  replace hp := Option.some.inj hp
  subst hp
  refine tx_pick' (L' := [(2, (Vl (.int .i64 (isub .i64 (a0_0.length : Int) a0_1))))]) (H' := [⟨.pointer (some wa0), [(Sl (Ki .u8) a0_0), (Vl (.int .i64 a0_1)), (Vl (.int .i8 a0_2))], 50, none⟩]) [0] (sub_cons rfl sub_nil) (by decide) (pick_cons rfl pick_nil) ?_
  exact tx_ret1' Tryd.results13 rfl () (rv_tmp' rfl) (List.Sublist.refl _)

def binary_littleEndian_Uint32 (k : Nat) (a1 : List Int) : Option (Int) :=
  (idx a1 3) >>= fun r6 =>
  (idx a1 0) >>= fun r9 =>
  (idx a1 1) >>= fun r13 =>
  (ishl .u32 (icv .u32 r13) 8) >>= fun r16 =>
  (idx a1 2) >>= fun r19 =>
  (ishl .u32 (icv .u32 r19) 16) >>= fun r22 =>
  (idx a1 3) >>= fun r25 =>
  (ishl .u32 (icv .u32 r25) 24) >>= fun r28 =>
  some (ior .u32 (ior .u32 (ior .u32 (icv .u32 r9) r16) r22) r28)

theorem binary_littleEndian_Uint32_sim {k : Nat}  (a1 : List Int) {out : Int} (hp : binary_littleEndian_Uint32 k a1 = some out) : Go.Sx.Fn Tryd.prog 58 [(Ag []), (Sl (Ki .u8) a1)] [] (fun w : Unit => (Vl (.int .u32 out))) (fun w => []) := by
  unfold binary_littleEndian_Uint32 at hp
  refine fn_of Tryd.func58 rfl Tryd.ntmps58 rfl fun E hM => ?_
  refine cx_seq' fun K1 hK1 => ?_
  refine cx_region' ?_
  refine sx_ox' (ox_box' rfl (lv_ag _) rfl rfl) (wt_none' rfl) fun q2 => ?_
  refine sx_rd' (rd_assign' rfl) rfl rfl (wt_none' rfl) ?_
  refine sx_nil' ?_
  show TX E K1 _
  refine tx_k' hK1 ?_
  refine cx_seq' fun K2 hK2 => ?_
  refine cx_region' ?_
  refine sx_rd' (rd_move' rfl) rfl rfl (wt_none' rfl) ?_
  obtain ⟨r6, hr6, hp⟩ := bind_some hp
  refine sx_rd' (rd_at' (K := (Ki .u8)) rfl rfl hr6 Tryd.underlying22 info5) rfl rfl (wt_none' rfl) ?_
  refine sx_rd' (rd_load_pt' rfl rfl flat5) rfl rfl (wt_none' rfl) ?_
  refine sx_nil' ?_
  show TX E K2 _
  refine tx_k' hK2 ?_
  refine cx_seq' fun K3 hK3 => ?_
  refine cx_draw' mixed (by kernel_rfl) ?_
  refine qx_rd' (rd_move' rfl) rfl rfl (wt_none' rfl) ?_
  obtain ⟨r9, hr9, hp⟩ := bind_some hp
  refine qx_rd' (rd_at' (K := (Ki .u8)) rfl rfl hr9 Tryd.underlying22 info5) rfl rfl (wt_none' rfl) ?_
  refine qx_rd' (rd_load_pt' rfl rfl flat5) rfl rfl (wt_none' rfl) ?_
  refine qx_rd' (rd_conv' rfl (ru_i2i (by rw [Tryd.underlying5]; rfl) Tryd.underlying23)) rfl rfl (wt_none' rfl) ?_
  refine qx_rd' (rd_move' rfl) rfl rfl (wt_none' rfl) ?_
  obtain ⟨r13, hr13, hp⟩ := bind_some hp
  refine qx_rd' (rd_at' (K := (Ki .u8)) rfl rfl hr13 Tryd.underlying22 info5) rfl rfl (wt_none' rfl) ?_
  refine qx_rd' (rd_load_pt' rfl rfl flat5) rfl rfl (wt_none' rfl) ?_
  refine qx_rd' (rd_conv' rfl (ru_i2i (by rw [Tryd.underlying5]; rfl) Tryd.underlying23)) rfl rfl (wt_none' rfl) ?_
  obtain ⟨r16, hr16, hp⟩ := bind_some hp
  refine qx_rd' (rd_bin' rfl rfl eg_int (ru_shl hr16)) rfl rfl (wt_none' rfl) ?_
  refine qx_rd' (rd_bin' rfl rfl eg_int ru_or) rfl rfl (wt_none' rfl) ?_
  refine qx_rd' (rd_move' rfl) rfl rfl (wt_none' rfl) ?_
  obtain ⟨r19, hr19, hp⟩ := bind_some hp
  refine qx_rd' (rd_at' (K := (Ki .u8)) rfl rfl hr19 Tryd.underlying22 info5) rfl rfl (wt_none' rfl) ?_
  refine qx_rd' (rd_load_pt' rfl rfl flat5) rfl rfl (wt_none' rfl) ?_
  refine qx_rd' (rd_conv' rfl (ru_i2i (by rw [Tryd.underlying5]; rfl) Tryd.underlying23)) rfl rfl (wt_none' rfl) ?_
  obtain ⟨r22, hr22, hp⟩ := bind_some hp
  refine qx_rd' (rd_bin' rfl rfl eg_int (ru_shl hr22)) rfl rfl (wt_none' rfl) ?_
  refine qx_rd' (rd_bin' rfl rfl eg_int ru_or) rfl rfl (wt_none' rfl) ?_
  refine qx_rd' (rd_move' rfl) rfl rfl (wt_none' rfl) ?_
  obtain ⟨r25, hr25, hp⟩ := bind_some hp
  refine qx_rd' (rd_at' (K := (Ki .u8)) rfl rfl hr25 Tryd.underlying22 info5) rfl rfl (wt_none' rfl) ?_
  refine qx_rd' (rd_load_pt' rfl rfl flat5) rfl rfl (wt_none' rfl) ?_
  refine qx_rd' (rd_conv' rfl (ru_i2i (by rw [Tryd.underlying5]; rfl) Tryd.underlying23)) rfl rfl (wt_none' rfl) ?_
  obtain ⟨r28, hr28, hp⟩ := bind_some hp
  refine qx_rd' (rd_bin' rfl rfl eg_int (ru_shl hr28)) rfl rfl (wt_none' rfl) ?_
  refine qx_rd' (rd_bin' rfl rfl eg_int ru_or) rfl rfl (wt_none' rfl) ?_
  refine qx_rd' (rd_assign' rfl) rfl rfl (wt_none' rfl) ?_
  refine qx_nil' ?_
  show TX E K3 _
  refine tx_k' hK3 ?_
  refine cx_retc' ?_
  replace hp := Option.some.inj hp
  subst hp
  refine tx_pick' (L' := [(4, (Vl (.int .u32 (ior .u32 (ior .u32 (ior .u32 (icv .u32 r9) r16) r22) r28))))]) (H' := []) [] (sub_cons rfl sub_nil) (by decide) pick_nil ?_
  exact tx_ret1' Tryd.results58 rfl () (rv_tmp' rfl) (List.Sublist.refl _)

def wkbcommon_ReadUInt32_v2 (k : Nat) (a0_0 : List Int) (a0_1 : Int) (a0_2 : Int) : Option (((List Int) × Int × Int × Int) ⊕ (((List Int) × Int × Int × Int) ⊕ (((List Int) × Int × Int × Int) ⊕ ((List Int) × Int × Int × Int)))) :=
  (io_ReadFull k a0_0 a0_1 a0_2 ([0, 0, 0, 0])) >>= fun r12 =>
  match r12 with
    | (.inl y1) =>
      (some (.inl (y1.1, y1.2.1, y1.2.2.1, 0)))
    | (.inr (.inl y1)) =>
      ((binary_littleEndian_Uint32 k y1.2.2.2.1) >>= fun r23 =>
      some (.inr (.inl (y1.1, y1.2.1, y1.2.2.1, r23))))
    | (.inr (.inr (.inl y1))) =>
      (some (.inr (.inr (.inl (y1.1, y1.2.1, y1.2.2.1, 0)))))
    | (.inr (.inr (.inr y1))) =>
      (some (.inr (.inr (.inr (y1.1, y1.2.1, y1.2.2.1, 0)))))
def wkbcommon_ReadUInt32_v2_r (wa0 : Addr) (a0_0 : List Int) (a0_1 : Int) (a0_2 : Int) (out : ((List Int) × Int × Int × Int) ⊕ (((List Int) × Int × Int × Int) ⊕ (((List Int) × Int × Int × Int) ⊕ ((List Int) × Int × Int × Int)))) (w : Unit) : SV := match out with
  | (.inl y) => (Tu [(Vl (.int .u32 y.2.2.2)), (If 67 (Vl (.pointer (some (Ga.a 2)))))])
  | (.inr (.inl y)) => (Tu [(Vl (.int .u32 y.2.2.2)), (Vl .nilIface)])
  | (.inr (.inr (.inl y))) => (Tu [(Vl (.int .u32 y.2.2.2)), (If 67 (Vl (.pointer (some (Ga.a 4)))))])
  | (.inr (.inr (.inr y))) => (Tu [(Vl (.int .u32 y.2.2.2)), (If 67 (Vl (.pointer (some (Ga.a 3)))))])
def wkbcommon_ReadUInt32_v2_h (wa0 : Addr) (a0_0 : List Int) (a0_1 : Int) (a0_2 : Int) (out : ((List Int) × Int × Int × Int) ⊕ (((List Int) × Int × Int × Int) ⊕ (((List Int) × Int × Int × Int) ⊕ ((List Int) × Int × Int × Int)))) (w : Unit) : List Res := match out with
  | (.inl y) => [⟨.pointer (some wa0), [(Sl (Ki .u8) y.1), (Vl (.int .i64 y.2.1)), (Vl (.int .i8 y.2.2.1))], 50, none⟩]
  | (.inr (.inl y)) => [⟨.pointer (some wa0), [(Sl (Ki .u8) y.1), (Vl (.int .i64 y.2.1)), (Vl (.int .i8 y.2.2.1))], 50, none⟩]
  | (.inr (.inr (.inl y))) => [⟨.pointer (some wa0), [(Sl (Ki .u8) y.1), (Vl (.int .i64 y.2.1)), (Vl (.int .i8 y.2.2.1))], 50, none⟩]
  | (.inr (.inr (.inr y))) => [⟨.pointer (some wa0), [(Sl (Ki .u8) y.1), (Vl (.int .i64 y.2.1)), (Vl (.int .i8 y.2.2.1))], 50, none⟩]

theorem wkbcommon_ReadUInt32_v2_sim {k : Nat} {wa0 : Addr} (a0_0 : List Int) (a0_1 : Int) (a0_2 : Int) {out : ((List Int) × Int × Int × Int) ⊕ (((List Int) × Int × Int × Int) ⊕ (((List Int) × Int × Int × Int) ⊕ ((List Int) × Int × Int × Int)))} (hp : wkbcommon_ReadUInt32_v2 k a0_0 a0_1 a0_2 = some out) : Go.Sx.Fn Tryd.prog 11 [(If 32 (Vl (.pointer (some wa0)))), (If 61 (Ag []))] [⟨.pointer (some wa0), [(Sl (Ki .u8) a0_0), (Vl (.int .i64 a0_1)), (Vl (.int .i8 a0_2))], 50, none⟩] (fun w => wkbcommon_ReadUInt32_v2_r wa0 a0_0 a0_1 a0_2 out w) (fun w => wkbcommon_ReadUInt32_v2_h wa0 a0_0 a0_1 a0_2 out w) := by
  unfold wkbcommon_ReadUInt32_v2 at hp
  refine fn_of Tryd.func11 rfl Tryd.ntmps11 rfl fun E hM => ?_
  refine cx_seq' fun K1 hK1 => ?_
  refine cx_region' ?_
  refine sx_rd' (rd_assign' rfl) rfl rfl (wt_none' rfl) ?_
  refine sx_rd' (rd_assign' rfl) rfl rfl (wt_none' rfl) ?_
  refine sx_nil' ?_
  show TX E K1 _
  refine tx_k' hK1 ?_
  refine cx_seq' fun K2 hK2 => ?_
  refine cx_region' ?_
  refine sx_ox' (ox_alloc' info55 rfl rfl rfl rfl (l := [(Vl (.int .u8 0)), (Vl (.int .u8 0)), (Vl (.int .u8 0)), (Vl (.int .u8 0))]) rfl) (wt_none' rfl) fun q6 => ?_
  refine tx_arr' (K := (Ki .u8)) (xs := [0, 0, 0, 0]) (m := 4) (i := 0) rfl rfl rfl (H' := [(Rw (Ki .u8) 55 (Vs (some q6, 4, 4)) ([0, 0, 0, 0])), ⟨.pointer (some wa0), [(Sl (Ki .u8) a0_0), (Vl (.int .i64 a0_1)), (Vl (.int .i8 a0_2))], 50, none⟩]) rfl ?_
  refine sx_nil' ?_
  show TX E K2 _
  refine tx_k' hK2 ?_
  refine cx_seq' fun K3 hK3 => ?_
  refine cx_seq' fun K4 hK4 => ?_
  refine cx_region' ?_
  refine sx_rd' (rd_move' rfl) rfl rfl (wt_none' rfl) ?_
  refine sx_rd' (rd_cut_arr' (q := q6) rfl Tryd.underlying55 info5) rfl rfl (wt_none' rfl) ?_
  obtain ⟨r12, hr12, hp⟩ := bind_some hp
  rcases r12 with y1 | y1 | y1 | y1
  · dsimp only at hp
    refine sx_ox' (ox_callg' (ent_fn' Tryd.func18 isn18 rfl rfl) (io_ReadFull_sim _ _ _ _ hr12 : Go.Sx.Fn Tryd.prog 18 [(If 32 (Vl (.pointer (some wa0)))), (Vl (Vs (some q6, 4, 4)))] [⟨.pointer (some wa0), [(Sl (Ki .u8) a0_0), (Vl (.int .i64 a0_1)), (Vl (.int .i8 a0_2))], 50, none⟩, (Rw (Ki .u8) 55 (Vs (some q6, 4, 4)) ([0, 0, 0, 0]))] (fun x : Unit => (Tu [(Vl (.int .i64 y1.2.2.2.2)), (If 67 (Vl (.pointer (some (Ga.a 2)))))])) (fun x => [⟨.pointer (some wa0), [(Sl (Ki .u8) y1.1), (Vl (.int .i64 y1.2.1)), (Vl (.int .i8 y1.2.2.1))], 50, none⟩, (Rw (Ki .u8) 55 (Vs (some q6, 4, 4)) y1.2.2.2.1)])) [1, 0] [] (by decide) (pick_cons rfl (pick_cons rfl pick_nil)) pick_nil (Hn := fun x : Unit => [⟨.pointer (some wa0), [(Sl (Ki .u8) y1.1), (Vl (.int .i64 y1.2.1)), (Vl (.int .i8 y1.2.2.1))], 50, none⟩, (Rw (Ki .u8) 55 (Vs (some q6, 4, 4)) y1.2.2.2.1)]) (fun _ => rfl) rfl rfl) (wt_none' rfl) fun ⟨⟩ => ?_
    refine sx_rd' (rd_move' rfl) rfl rfl (wt_none' rfl) ?_
    refine sx_rd' (rd_extract' rfl rfl) rfl rfl (wt_none' rfl) ?_
    refine sx_rd' (rd_extract' rfl rfl) rfl rfl (wt_none' rfl) ?_
    refine sx_rd' (rd_assign' rfl) rfl rfl (wt_none' rfl) ?_
    refine sx_rd' (rd_assign' rfl) rfl rfl (wt_none' rfl) ?_
    refine sx_nil' ?_
    show TX E K4 _
    refine tx_k' hK4 ?_
    refine cx_seq' fun K5 hK5 => ?_
    refine cx_region' ?_
    refine sx_rd' (rd_move' rfl) rfl rfl (wt_none' rfl) ?_
    refine sx_rd' (rd_binf' rfl rfl (bf_if (fun _ _ => by kernel_rfl) nil_neq35_if67)) rfl rfl (wt_none' rfl) ?_
    refine sx_nil' ?_
    show TX E K5 _
    refine tx_k' hK5 ?_
    refine cx_cond_t' rfl rfl ?_
    refine cx_seq' fun K6 hK6 => ?_
    refine cx_region' ?_
    refine sx_rd' (rd_move' rfl) rfl rfl (wt_none' rfl) ?_
    refine sx_rd' (rd_assign' rfl) rfl rfl (wt_none' rfl) ?_
    refine sx_rd' (rd_assign' rfl) rfl rfl (wt_none' rfl) ?_
    refine sx_nil' ?_
    show TX E K6 _
    refine tx_k' hK6 ?_
    refine cx_retc' ?_
    replace hp := Option.some.inj hp
    subst hp
    refine tx_pick' (L' := [(4, (Vl (.int .u32 0))), (5, (If 67 (Vl (.pointer (some (Ga.a 2))))))]) (H' := [⟨.pointer (some wa0), [(Sl (Ki .u8) y1.1), (Vl (.int .i64 y1.2.1)), (Vl (.int .i8 y1.2.2.1))], 50, none⟩]) [0] (sub_cons rfl (sub_cons rfl sub_nil)) (by decide) (pick_cons rfl pick_nil) ?_
    exact tx_ret2' Tryd.results11 rfl () (rv_tmp' rfl) (rv_tmp' rfl) rfl (List.Sublist.refl _)
  · dsimp only at hp
    refine sx_ox' (ox_callg' (ent_fn' Tryd.func18 isn18 rfl rfl) (io_ReadFull_sim _ _ _ _ hr12 : Go.Sx.Fn Tryd.prog 18 [(If 32 (Vl (.pointer (some wa0)))), (Vl (Vs (some q6, 4, 4)))] [⟨.pointer (some wa0), [(Sl (Ki .u8) a0_0), (Vl (.int .i64 a0_1)), (Vl (.int .i8 a0_2))], 50, none⟩, (Rw (Ki .u8) 55 (Vs (some q6, 4, 4)) ([0, 0, 0, 0]))] (fun x : Unit => (Tu [(Vl (.int .i64 y1.2.2.2.2)), (Vl .nilIface)])) (fun x => [⟨.pointer (some wa0), [(Sl (Ki .u8) y1.1), (Vl (.int .i64 y1.2.1)), (Vl (.int .i8 y1.2.2.1))], 50, none⟩, (Rw (Ki .u8) 55 (Vs (some q6, 4, 4)) y1.2.2.2.1)])) [1, 0] [] (by decide) (pick_cons rfl (pick_cons rfl pick_nil)) pick_nil (Hn := fun x : Unit => [⟨.pointer (some wa0), [(Sl (Ki .u8) y1.1), (Vl (.int .i64 y1.2.1)), (Vl (.int .i8 y1.2.2.1))], 50, none⟩, (Rw (Ki .u8) 55 (Vs (some q6, 4, 4)) y1.2.2.2.1)]) (fun _ => rfl) rfl rfl) (wt_none' rfl) fun ⟨⟩ => ?_
    refine sx_rd' (rd_move' rfl) rfl rfl (wt_none' rfl) ?_
    refine sx_rd' (rd_extract' rfl rfl) rfl rfl (wt_none' rfl) ?_
    refine sx_rd' (rd_extract' rfl rfl) rfl rfl (wt_none' rfl) ?_
    refine sx_rd' (rd_assign' rfl) rfl rfl (wt_none' rfl) ?_
    refine sx_rd' (rd_assign' rfl) rfl rfl (wt_none' rfl) ?_
    refine sx_nil' ?_
    show TX E K4 _
    refine tx_k' hK4 ?_
    refine cx_seq' fun K5 hK5 => ?_
    refine cx_region' ?_
    refine sx_rd' (rd_move' rfl) rfl rfl (wt_none' rfl) ?_
    refine sx_rd' (rd_binf' rfl rfl (bf_vl (fun _ => by kernel_rfl) nil_neq35_nilif)) rfl rfl (wt_none' rfl) ?_
    refine sx_nil' ?_
    show TX E K5 _
    refine tx_k' hK5 ?_
    refine cx_cond_f' rfl rfl ?_
    refine cx_skip' ?_
    show TX E K3 _
    refine tx_k' hK3 ?_
    refine cx_seq' fun K7 hK7 => ?_
    refine cx_plan' [] [] [(0, 1), (1, 1), (2, 1), (3, 1), (4, 1), (5, 0), (6, 1), (7, 1)] mixed (by kernel_rfl) ?_
    refine px_rd' rfl (rd_move' rfl) rfl rfl (wt_none' rfl) ?_
    refine px_rd' rfl (rd_cut_arr' (q := q6) rfl Tryd.underlying55 info5) rfl rfl (wt_none' rfl) ?_
    refine px_rd' rfl (rd_mkmeth' rfl) rfl rfl (wt_none' rfl) ?_
    refine px_rd' rfl (rd_nilck_mf' rfl (fun _ _ v _ w => nla61_Uint32_ag v w)) rfl rfl (wt_none' rfl) ?_
    refine px_rd' rfl (rd_move' rfl) rfl rfl (wt_none' rfl) ?_
    obtain ⟨r23, hr23, hp⟩ := bind_some hp
    refine px_ox' rfl (ox_brw' (frz_row 1 [(11, (Vl (Vs (some q6, 4, 4))), (Sl (Ki .u8) y1.2.2.2.1)), (19, (Vl (Vs (some q6, 4, 4))), (Sl (Ki .u8) y1.2.2.2.1))] (K := (Ki .u8)) (xs := y1.2.2.2.1) (by decide) rfl ⟨⟨rfl, frz_it⟩, ⟨rfl, frz_it⟩, trivial⟩ (H' := [⟨.pointer (some wa0), [(Sl (Ki .u8) y1.1), (Vl (.int .i64 y1.2.1)), (Vl (.int .i8 y1.2.2.1))], 50, none⟩]) frzH_refl) (ent_inv' rfl rfl (inv_any1 inv61_Uint32)) (binary_littleEndian_Uint32_sim _ hr23 : Go.Sx.Fn Tryd.prog 58 [(Ag []), (Sl (Ki .u8) y1.2.2.2.1)] [] (fun x : Unit => (Vl (.int .u32 r23))) (fun x => [])) pu_vl rfl rfl) rfl bs_nil (wt_none' rfl) fun ⟨⟩ => ?_
    refine px_rd' rfl (rd_assign' rfl) rfl rfl (wt_none' rfl) ?_
    refine px_rd' rfl (rd_assign' rfl) rfl rfl (wt_none' rfl) ?_
    refine px_nil' ?_
    show TX E K7 _
    refine tx_k' hK7 ?_
    refine cx_retc' ?_
    replace hp := Option.some.inj hp
    subst hp
    refine tx_pick' (L' := [(4, (Vl (.int .u32 r23))), (5, (Vl .nilIface))]) (H' := [⟨.pointer (some wa0), [(Sl (Ki .u8) y1.1), (Vl (.int .i64 y1.2.1)), (Vl (.int .i8 y1.2.2.1))], 50, none⟩]) [0] (sub_cons rfl (sub_cons rfl sub_nil)) (by decide) (pick_cons rfl pick_nil) ?_
    exact tx_ret2' Tryd.results11 rfl () (rv_tmp' rfl) (rv_tmp' rfl) rfl (List.Sublist.refl _)
  · dsimp only at hp
    refine sx_ox' (ox_callg' (ent_fn' Tryd.func18 isn18 rfl rfl) (io_ReadFull_sim _ _ _ _ hr12 : Go.Sx.Fn Tryd.prog 18 [(If 32 (Vl (.pointer (some wa0)))), (Vl (Vs (some q6, 4, 4)))] [⟨.pointer (some wa0), [(Sl (Ki .u8) a0_0), (Vl (.int .i64 a0_1)), (Vl (.int .i8 a0_2))], 50, none⟩, (Rw (Ki .u8) 55 (Vs (some q6, 4, 4)) ([0, 0, 0, 0]))] (fun x : Unit => (Tu [(Vl (.int .i64 y1.2.2.2.2)), (If 67 (Vl (.pointer (some (Ga.a 4)))))])) (fun x => [⟨.pointer (some wa0), [(Sl (Ki .u8) y1.1), (Vl (.int .i64 y1.2.1)), (Vl (.int .i8 y1.2.2.1))], 50, none⟩, (Rw (Ki .u8) 55 (Vs (some q6, 4, 4)) y1.2.2.2.1)])) [1, 0] [] (by decide) (pick_cons rfl (pick_cons rfl pick_nil)) pick_nil (Hn := fun x : Unit => [⟨.pointer (some wa0), [(Sl (Ki .u8) y1.1), (Vl (.int .i64 y1.2.1)), (Vl (.int .i8 y1.2.2.1))], 50, none⟩, (Rw (Ki .u8) 55 (Vs (some q6, 4, 4)) y1.2.2.2.1)]) (fun _ => rfl) rfl rfl) (wt_none' rfl) fun ⟨⟩ => ?_
    refine sx_rd' (rd_move' rfl) rfl rfl (wt_none' rfl) ?_
    refine sx_rd' (rd_extract' rfl rfl) rfl rfl (wt_none' rfl) ?_
    refine sx_rd' (rd_extract' rfl rfl) rfl rfl (wt_none' rfl) ?_
    refine sx_rd' (rd_assign' rfl) rfl rfl (wt_none' rfl) ?_
    refine sx_rd' (rd_assign' rfl) rfl rfl (wt_none' rfl) ?_
    refine sx_nil' ?_
    show TX E K4 _
    refine tx_k' hK4 ?_
    refine cx_seq' fun K5 hK5 => ?_
    refine cx_region' ?_
    refine sx_rd' (rd_move' rfl) rfl rfl (wt_none' rfl) ?_
    refine sx_rd' (rd_binf' rfl rfl (bf_if (fun _ _ => by kernel_rfl) nil_neq35_if67)) rfl rfl (wt_none' rfl) ?_
    refine sx_nil' ?_
    show TX E K5 _
    refine tx_k' hK5 ?_
    refine cx_cond_t' rfl rfl ?_
    refine cx_seq' fun K6 hK6 => ?_
    refine cx_region' ?_
    refine sx_rd' (rd_move' rfl) rfl rfl (wt_none' rfl) ?_
    refine sx_rd' (rd_assign' rfl) rfl rfl (wt_none' rfl) ?_
    refine sx_rd' (rd_assign' rfl) rfl rfl (wt_none' rfl) ?_
    refine sx_nil' ?_
    show TX E K6 _
    refine tx_k' hK6 ?_
    refine cx_retc' ?_
    replace hp := Option.some.inj hp
    subst hp
    refine tx_pick' (L' := [(4, (Vl (.int .u32 0))), (5, (If 67 (Vl (.pointer (some (Ga.a 4))))))]) (H' := [⟨.pointer (some wa0), [(Sl (Ki .u8) y1.1), (Vl (.int .i64 y1.2.1)), (Vl (.int .i8 y1.2.2.1))], 50, none⟩]) [0] (sub_cons rfl (sub_cons rfl sub_nil)) (by decide) (pick_cons rfl pick_nil) ?_
    exact tx_ret2' Tryd.results11 rfl () (rv_tmp' rfl) (rv_tmp' rfl) rfl (List.Sublist.refl _)
  · dsimp only at hp
    refine sx_ox' (ox_callg' (ent_fn' Tryd.func18 isn18 rfl rfl) (io_ReadFull_sim _ _ _ _ hr12 : Go.Sx.Fn Tryd.prog 18 [(If 32 (Vl (.pointer (some wa0)))), (Vl (Vs (some q6, 4, 4)))] [⟨.pointer (some wa0), [(Sl (Ki .u8) a0_0), (Vl (.int .i64 a0_1)), (Vl (.int .i8 a0_2))], 50, none⟩, (Rw (Ki .u8) 55 (Vs (some q6, 4, 4)) ([0, 0, 0, 0]))] (fun x : Unit => (Tu [(Vl (.int .i64 y1.2.2.2.2)), (If 67 (Vl (.pointer (some (Ga.a 3)))))])) (fun x => [⟨.pointer (some wa0), [(Sl (Ki .u8) y1.1), (Vl (.int .i64 y1.2.1)), (Vl (.int .i8 y1.2.2.1))], 50, none⟩, (Rw (Ki .u8) 55 (Vs (some q6, 4, 4)) y1.2.2.2.1)])) [1, 0] [] (by decide) (pick_cons rfl (pick_cons rfl pick_nil)) pick_nil (Hn := fun x : Unit => [⟨.pointer (some wa0), [(Sl (Ki .u8) y1.1), (Vl (.int .i64 y1.2.1)), (Vl (.int .i8 y1.2.2.1))], 50, none⟩, (Rw (Ki .u8) 55 (Vs (some q6, 4, 4)) y1.2.2.2.1)]) (fun _ => rfl) rfl rfl) (wt_none' rfl) fun ⟨⟩ => ?_
    refine sx_rd' (rd_move' rfl) rfl rfl (wt_none' rfl) ?_
    refine sx_rd' (rd_extract' rfl rfl) rfl rfl (wt_none' rfl) ?_
    refine sx_rd' (rd_extract' rfl rfl) rfl rfl (wt_none' rfl) ?_
    refine sx_rd' (rd_assign' rfl) rfl rfl (wt_none' rfl) ?_
    refine sx_rd' (rd_assign' rfl) rfl rfl (wt_none' rfl) ?_
    refine sx_nil' ?_
    show TX E K4 _
    refine tx_k' hK4 ?_
    refine cx_seq' fun K5 hK5 => ?_
    refine cx_region' ?_
    refine sx_rd' (rd_move' rfl) rfl rfl (wt_none' rfl) ?_
    refine sx_rd' (rd_binf' rfl rfl (bf_if (fun _ _ => by kernel_rfl) nil_neq35_if67)) rfl rfl (wt_none' rfl) ?_
    refine sx_nil' ?_
    show TX E K5 _
    refine tx_k' hK5 ?_
    refine cx_cond_t' rfl rfl ?_
    refine cx_seq' fun K6 hK6 => ?_
    refine cx_region' ?_
    refine sx_rd' (rd_move' rfl) rfl rfl (wt_none' rfl) ?_
    refine sx_rd' (rd_assign' rfl) rfl rfl (wt_none' rfl) ?_
    refine sx_rd' (rd_assign' rfl) rfl rfl (wt_none' rfl) ?_
    refine sx_nil' ?_
    show TX E K6 _
    refine tx_k' hK6 ?_
    refine cx_retc' ?_
    replace hp := Option.some.inj hp
    subst hp
    refine tx_pick' (L' := [(4, (Vl (.int .u32 0))), (5, (If 67 (Vl (.pointer (some (Ga.a 3))))))]) (H' := [⟨.pointer (some wa0), [(Sl (Ki .u8) y1.1), (Vl (.int .i64 y1.2.1)), (Vl (.int .i8 y1.2.2.1))], 50, none⟩]) [0] (sub_cons rfl (sub_cons rfl sub_nil)) (by decide) (pick_cons rfl pick_nil) ?_
    exact tx_ret2' Tryd.results11 rfl () (rv_tmp' rfl) (rv_tmp' rfl) rfl (List.Sublist.refl _)

end Go.Proofs.YthjeamiaogdmgaaDoor
