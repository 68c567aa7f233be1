/-
  Plain functions for the Go functions that this law reaches, and that each call does what its plain function says. Printed by a program of ours.
-/
import Derived.Test.YthjeamiaogdmgaaDoorProg
import Derived.Test.YthjeamiaogdmgaaDoorSxZ
namespace Go.Proofs.YthjeamiaogdmgaaDoor
open Go.Sx
set_option linter.unusedVariables false
set_option maxRecDepth 100000

theorem isn8 : (Tryd.f8.name == "runtime.NumGoroutine") = false := by kernel_rfl
theorem isn12 : (Tryd.f12.name == "runtime.NumGoroutine") = false := by kernel_rfl
theorem info60 : (Tryd.prog.info? 60).map (fun i => (i.zero, i.size, i.bytes)) = some (some (.agg #[]), 0, 0) := by kernel_rfl
theorem agg60 : Agg Tryd.prog 60 0 := ⟨⟨_, Tryd.underlying60, .inl ⟨_, rfl⟩⟩, info_size info60⟩
theorem info61 : (Tryd.prog.info? 61).map (fun i => (i.zero, i.size, i.bytes)) = some (some (.agg #[]), 0, 0) := by kernel_rfl
theorem agg61 : Agg Tryd.prog 61 0 := ⟨⟨_, Tryd.underlying61, .inl ⟨_, rfl⟩⟩, info_size info61⟩
theorem isn16 : (Tryd.f16.name == "runtime.NumGoroutine") = false := by kernel_rfl
theorem info5 : (Tryd.prog.info? 5).map (fun i => (i.zero, i.size, i.bytes)) = some (some (.int .u8 0), 1, 1) := by kernel_rfl
theorem nla60_PutUint32_ag : ∀ (v : Value) w, (nilAhead (Tryd.prog.types.size + Made.depth) 60 v "PutUint32").run Tryd.prog w = .ok (some false) w := fun _ _ => by kernel_rfl
theorem inv60_PutUint32 : ∀ (v : Value) (a : Value) (b : Value) w', (callMethod (.iface 60 v) "PutUint32" #[a, b]).run Tryd.prog w' = .ok (.enter 46 #[v, a, b]) w' := fun _ _ _ _ => by kernel_rfl
theorem flat5 : Flat Tryd.prog 5 := ⟨_, Tryd.underlying5, fun _ h => (nomatch h), fun _ _ h => (nomatch h)⟩
theorem nla32_Write_ptr : ∀ (q : Addr) w, (nilAhead (Tryd.prog.types.size + Made.depth) 32 (.pointer (some q)) "Write").run Tryd.prog w = .ok (some false) w := fun _ _ => by kernel_rfl
theorem inv32_Write : ∀ (v : Value) (a : Value) w', (callMethod (.iface 32 v) "Write" #[a]).run Tryd.prog w' = .ok (.enter 38 #[v, a]) w' := fun _ _ _ => by kernel_rfl
theorem info48 : (Tryd.prog.info? 48).map (fun i => (i.zero, i.size, i.bytes)) = some (some (.int .i8 0), 1, 1) := by kernel_rfl
theorem isn40 : (Tryd.f40.name == "runtime.NumGoroutine") = false := by kernel_rfl
theorem info22 : (Tryd.prog.info? 22).map (fun i => (i.zero, i.size, i.bytes)) = some (some (.slice none 0 0), 1, 24) := by kernel_rfl
theorem flat22 : Flat Tryd.prog 22 := ⟨_, Tryd.underlying22, fun _ h => (nomatch h), fun _ _ h => (nomatch h)⟩
theorem isn41 : (Tryd.f41.name == "runtime.NumGoroutine") = false := by kernel_rfl
theorem isn13 : (Tryd.f13.name == "runtime.NumGoroutine") = false := by kernel_rfl
theorem info3 : (Tryd.prog.info? 3).map (fun i => (i.zero, i.size, i.bytes)) = some (some (.int .i64 0), 1, 8) := by kernel_rfl
theorem flat3 : Flat Tryd.prog 3 := ⟨_, Tryd.underlying3, fun _ h => (nomatch h), fun _ _ h => (nomatch h)⟩
theorem mixed : Tryd.prog.follows .mixedOrders = true := by kernel_rfl
theorem isn36 : (Tryd.f36.name == "runtime.NumGoroutine") = false := by kernel_rfl
theorem nil_eql22_nilsl : ∀ (w : World), (binOp .eql 22 (.slice none 0 0) (.slice none 0 0)).run Tryd.prog w = .ok (.bool true) w := fun _ => by kernel_rfl
theorem info55 : (Tryd.prog.info? 55).map (fun i => (i.zero, i.size, i.bytes)) = some (some (.agg #[.int .u8 0, .int .u8 0, .int .u8 0, .int .u8 0]), 4, 4) := by kernel_rfl
theorem isn17 : (Tryd.f17.name == "runtime.NumGoroutine") = false := by kernel_rfl
theorem nil_eql35_nilif : ∀ (w : World), (binOp .eql 35 .nilIface .nilIface).run Tryd.prog w = .ok (.bool true) w := fun _ => by kernel_rfl
theorem info4 : (Tryd.prog.info? 4).map (fun i => (i.zero, i.size, i.bytes)) = some (some (.bool false), 1, 1) := by kernel_rfl
theorem idle15 : Idle Tryd.prog 15 2 := fun vs w hv => by
  obtain ⟨v0, v1, rfl⟩ : ∃ v0 v1, vs = [v0, v1] := by
    obtain _ | ⟨v0, vs⟩ := vs
    · simp at hv
    obtain _ | ⟨v1, vs⟩ := vs
    · simp at hv
    obtain _ | ⟨u, vs⟩ := vs
    · exact ⟨v0, v1, rfl⟩
    · simp at hv
  refine callsD_of_wpS Tryd.func15 rfl fun c₀ cs hu => ?_
  apply wpS_seq
  apply wpS_region
  simp [wpOpsS, go_sem, recoverD, hu, Tryd.ntmps15, Exit.thenS]
  refine wpS_cond (t := false) (by simp [Act.eval, Array.replicate]) ?_
  simp only [Bool.false_eq_true, if_false]
  refine wpS_of_wp (wp_skip ?_)
  cases c₀
  simp_all [bodyPostS, results, Tryd.results15]
theorem isn15 : (Tryd.f15.name == "runtime.NumGoroutine") = false := by kernel_rfl
theorem nla61_PutUint32_ag : ∀ (v : Value) w, (nilAhead (Tryd.prog.types.size + Made.depth) 61 v "PutUint32").run Tryd.prog w = .ok (some false) w := fun _ _ => by kernel_rfl
theorem inv61_PutUint32 : ∀ (v : Value) (a : Value) (b : Value) w', (callMethod (.iface 61 v) "PutUint32" #[a, b]).run Tryd.prog w' = .ok (.enter 54 #[v, a, b]) w' := fun _ _ _ _ => by kernel_rfl
theorem info50 : (Tryd.prog.info? 50).map (fun i => (i.zero, i.size, i.bytes)) = some (some (.agg #[.slice none 0 0, .int .i64 0, .int .i8 0]), 3, 40) := by kernel_rfl
theorem flat4 : Flat Tryd.prog 4 := ⟨_, Tryd.underlying4, fun _ h => (nomatch h), fun _ _ h => (nomatch h)⟩
theorem isn5 : (Tryd.f5.name == "runtime.NumGoroutine") = false := by kernel_rfl
theorem isn10 : (Tryd.f10.name == "runtime.NumGoroutine") = false := by kernel_rfl
theorem places50 : placesOf Tryd.prog [{ name := "buf", type := 22, offset := 0, embedded := false, tag := "", pkgPath := "bytes", byteOffset := 0 }, { name := "off", type := 3, offset := 1, embedded := false, tag := "", pkgPath := "bytes", byteOffset := 24 }, { name := "lastRead", type := 48, offset := 2, embedded := false, tag := "", pkgPath := "bytes", byteOffset := 32 }] = [(0, 1), (1, 1), (2, 1)] := by kernel_rfl
theorem has50 : ∀ f ∈ ([{ name := "buf", type := 22, offset := 0, embedded := false, tag := "", pkgPath := "bytes", byteOffset := 0 }, { name := "off", type := 3, offset := 1, embedded := false, tag := "", pkgPath := "bytes", byteOffset := 24 }, { name := "lastRead", type := 48, offset := 2, embedded := false, tag := "", pkgPath := "bytes", byteOffset := 32 }] : List Field), (Tryd.prog.info? f.type).isSome = true := fun f hf => all_of (p := fun f => (Tryd.prog.info? f.type).isSome) (by kernel_rfl) f hf
theorem isn11 : (Tryd.f11.name == "runtime.NumGoroutine") = false := by kernel_rfl
theorem isn18 : (Tryd.f18.name == "runtime.NumGoroutine") = false := by kernel_rfl
theorem isn19 : (Tryd.f19.name == "runtime.NumGoroutine") = false := by kernel_rfl
theorem nla32_Read_ptr : ∀ (q : Addr) w, (nilAhead (Tryd.prog.types.size + Made.depth) 32 (.pointer (some q)) "Read").run Tryd.prog w = .ok (some false) w := fun _ _ => by kernel_rfl
theorem inv32_Read : ∀ (v : Value) (a : Value) w', (callMethod (.iface 32 v) "Read" #[a]).run Tryd.prog w' = .ok (.enter 35 #[v, a]) w' := fun _ _ _ => by kernel_rfl
theorem isn39 : (Tryd.f39.name == "runtime.NumGoroutine") = false := by kernel_rfl
theorem nil_neq35_nilif : ∀ (w : World), (binOp .neq 35 .nilIface .nilIface).run Tryd.prog w = .ok (.bool false) w := fun _ => by kernel_rfl
theorem nla60_Uint32_ag : ∀ (v : Value) w, (nilAhead (Tryd.prog.types.size + Made.depth) 60 v "Uint32").run Tryd.prog w = .ok (some false) w := fun _ _ => by kernel_rfl
theorem inv60_Uint32 : ∀ (v : Value) (a : Value) w', (callMethod (.iface 60 v) "Uint32" #[a]).run Tryd.prog w' = .ok (.enter 50 #[v, a]) w' := fun _ _ _ => by kernel_rfl
theorem flat23 : Flat Tryd.prog 23 := ⟨_, Tryd.underlying23, fun _ h => (nomatch h), fun _ _ h => (nomatch h)⟩
theorem info23 : (Tryd.prog.info? 23).map (fun i => (i.zero, i.size, i.bytes)) = some (some (.int .u32 0), 1, 4) := by kernel_rfl
theorem idle9 : Idle Tryd.prog 9 3 := fun vs w hv => by
  obtain ⟨v0, v1, v2, rfl⟩ : ∃ v0 v1 v2, vs = [v0, v1, v2] := by
    obtain _ | ⟨v0, vs⟩ := vs
    · simp at hv
    obtain _ | ⟨v1, vs⟩ := vs
    · simp at hv
    obtain _ | ⟨v2, vs⟩ := vs
    · simp at hv
    obtain _ | ⟨u, vs⟩ := vs
    · exact ⟨v0, v1, v2, rfl⟩
    · simp at hv
  refine callsD_of_wpS Tryd.func9 rfl fun c₀ cs hu => ?_
  apply wpS_seq
  apply wpS_region
  simp [wpOpsS, go_sem, recoverD, hu, Tryd.ntmps9, Exit.thenS]
  refine wpS_cond (t := false) (by simp [Act.eval, Array.replicate]) ?_
  simp only [Bool.false_eq_true, if_false]
  refine wpS_of_wp (wp_skip ?_)
  cases c₀
  simp_all [bodyPostS, results, Tryd.results9]
theorem isn9 : (Tryd.f9.name == "runtime.NumGoroutine") = false := by kernel_rfl
theorem nla61_Uint32_ag : ∀ (v : Value) w, (nilAhead (Tryd.prog.types.size + Made.depth) 61 v "Uint32").run Tryd.prog w = .ok (some false) w := fun _ _ => by kernel_rfl
theorem inv61_Uint32 : ∀ (v : Value) (a : Value) w', (callMethod (.iface 61 v) "Uint32" #[a]).run Tryd.prog w' = .ok (.enter 58 #[v, a]) w' := fun _ _ _ => by kernel_rfl
theorem isn7 : (Tryd.f7.name == "runtime.NumGoroutine") = false := by kernel_rfl
theorem places44 : placesOf Tryd.prog [{ name := "b", type := 22, offset := 0, embedded := false, tag := "", pkgPath := "pub-orthodrome/spec", byteOffset := 0 }, { name := "big", type := 4, offset := 1, embedded := false, tag := "", pkgPath := "pub-orthodrome/spec", byteOffset := 24 }, { name := "extended", type := 4, offset := 2, embedded := false, tag := "", pkgPath := "pub-orthodrome/spec", byteOffset := 25 }, { name := "nan", type := 4, offset := 3, embedded := false, tag := "", pkgPath := "pub-orthodrome/spec", byteOffset := 26 }, { name := "bad", type := 4, offset := 4, embedded := false, tag := "", pkgPath := "pub-orthodrome/spec", byteOffset := 27 }] = [(0, 1), (1, 1), (2, 1), (3, 1), (4, 1)] := by kernel_rfl
theorem has44 : ∀ f ∈ ([{ name := "b", type := 22, offset := 0, embedded := false, tag := "", pkgPath := "pub-orthodrome/spec", byteOffset := 0 }, { name := "big", type := 4, offset := 1, embedded := false, tag := "", pkgPath := "pub-orthodrome/spec", byteOffset := 24 }, { name := "extended", type := 4, offset := 2, embedded := false, tag := "", pkgPath := "pub-orthodrome/spec", byteOffset := 25 }, { name := "nan", type := 4, offset := 3, embedded := false, tag := "", pkgPath := "pub-orthodrome/spec", byteOffset := 26 }, { name := "bad", type := 4, offset := 4, embedded := false, tag := "", pkgPath := "pub-orthodrome/spec", byteOffset := 27 }] : List Field), (Tryd.prog.info? f.type).isSome = true := fun f hf => all_of (p := fun f => (Tryd.prog.info? f.type).isSome) (by kernel_rfl) f hf
theorem info44 : (Tryd.prog.info? 44).map (fun i => (i.zero, i.size, i.bytes)) = some (some (.agg #[.slice none 0 0, .bool false, .bool false, .bool false, .bool false]), 5, 32) := by kernel_rfl
theorem isn14 : (Tryd.f14.name == "runtime.NumGoroutine") = false := by kernel_rfl
theorem isn6 : (Tryd.f6.name == "runtime.NumGoroutine") = false := by kernel_rfl


def wkbcommon_DoorOrder (k : Nat) (a0 : Bool) : Option (Unit ⊕ Unit) :=
  br a0
    (some (.inl ()))
    (some (.inr ()))
def wkbcommon_DoorOrder_r  (a0 : Bool) (out : Unit ⊕ Unit) (w : Unit) : SV := match out with
  | (.inl y) => (If 60 (Ag []))
  | (.inr y) => (If 61 (Ag []))
def wkbcommon_DoorOrder_h  (a0 : Bool) (out : Unit ⊕ Unit) (w : Unit) : List Res := match out with
  | (.inl y) => []
  | (.inr y) => []

theorem wkbcommon_DoorOrder_sim {k : Nat}  (a0 : Bool) {out : Unit ⊕ Unit} (hp : wkbcommon_DoorOrder k a0 = some out) : Go.Sx.Fn Tryd.prog 12 [(Vl (.bool a0))] [] (fun w => wkbcommon_DoorOrder_r a0 out w) (fun w => wkbcommon_DoorOrder_h a0 out w) := by
  unfold wkbcommon_DoorOrder at hp
  refine fn_of Tryd.func12 rfl Tryd.ntmps12 rfl fun E hM => ?_
  refine cx_seq' fun K1 hK1 => ?_
  refine cx_region' ?_
  refine sx_rd' (rd_assign' rfl) rfl rfl (wt_none' rfl) ?_
  refine sx_nil' ?_
  show TX E K1 _
  refine tx_k' hK1 ?_
  refine cx_seq' fun K2 hK2 => ?_
  refine cx_seq' fun K3 hK3 => ?_
  refine cx_region' ?_
  refine sx_rd' (rd_move' rfl) rfl rfl (wt_none' rfl) ?_
  refine sx_nil' ?_
  show TX E K3 _
  refine tx_k' hK3 ?_
  refine cx_cond' rfl (fun h1 => ?_) (fun h1 => ?_)
  · replace hp := (br_t h1).symm.trans hp
    refine cx_seq' fun K4 hK4 => ?_
    refine cx_region' ?_
    refine sx_rd' (rd_gload0' agg60) rfl rfl (wt_none' rfl) ?_
    refine sx_rd' (rd_iface' rfl ⟨_, Tryd.underlying60, fun _ h => (nomatch h)⟩) rfl rfl (wt_none' rfl) ?_
    refine sx_rd' (rd_assign' rfl) rfl rfl (wt_none' rfl) ?_
    refine sx_nil' ?_
    show TX E K4 _
    refine tx_k' hK4 ?_
    refine cx_retc' ?_
    replace hp := Option.some.inj hp
    subst hp
    refine tx_pick' (L' := [(2, (If 60 (Ag [])))]) (H' := []) [] (sub_cons rfl sub_nil) (by decide) pick_nil ?_
    exact tx_ret1' Tryd.results12 rfl () (rv_tmp' rfl) (List.Sublist.refl _)
  · replace hp := (br_f h1).symm.trans hp
    refine cx_skip' ?_
    show TX E K2 _
    refine tx_k' hK2 ?_
    refine cx_seq' fun K5 hK5 => ?_
    refine cx_region' ?_
    refine sx_rd' (rd_gload0' agg61) rfl rfl (wt_none' rfl) ?_
    refine sx_rd' (rd_iface' rfl ⟨_, Tryd.underlying61, fun _ h => (nomatch h)⟩) rfl rfl (wt_none' rfl) ?_
    refine sx_rd' (rd_assign' rfl) rfl rfl (wt_none' rfl) ?_
    refine sx_nil' ?_
    show TX E K5 _
    refine tx_k' hK5 ?_
    refine cx_retc' ?_
    replace hp := Option.some.inj hp
    subst hp
    refine tx_pick' (L' := [(2, (If 61 (Ag [])))]) (H' := []) [] (sub_cons rfl sub_nil) (by decide) pick_nil ?_
    exact tx_ret1' Tryd.results12 rfl () (rv_tmp' rfl) (List.Sublist.refl _)

def binary_bigEndian_PutUint32 (k : Nat) (a1 : List Int) (a2 : Int) : Option ((List Int)) :=
  (idx a1 3) >>= fun r7 =>
  (ishr .u32 a2 24) >>= fun r11 =>
  (idx a1 0) >>= fun r13 =>
  (ishr .u32 a2 16) >>= fun r16 =>
  (idx (a1.set (0 : Int).toNat (icv .u8 r11)) 1) >>= fun r18 =>
  (ishr .u32 a2 8) >>= fun r21 =>
  (idx ((a1.set (0 : Int).toNat (icv .u8 r11)).set (1 : Int).toNat (icv .u8 r16)) 2) >>= fun r23 =>
  (idx (((a1.set (0 : Int).toNat (icv .u8 r11)).set (1 : Int).toNat (icv .u8 r16)).set (2 : Int).toNat (icv .u8 r21)) 3) >>= fun r27 =>
  some ((((a1.set (0 : Int).toNat (icv .u8 r11)).set (1 : Int).toNat (icv .u8 r16)).set (2 : Int).toNat (icv .u8 r21)).set (3 : Int).toNat (icv .u8 a2))

theorem binary_bigEndian_PutUint32_sim {k : Nat} {wa1 : Addr} (a1 : List Int) (a2 : Int) {out : (List Int)} (hp : binary_bigEndian_PutUint32 k a1 a2 = some out) : Go.Sx.Fn Tryd.prog 46 [(Ag []), (Vl (Vs (some wa1, 4, 4))), (Vl (.int .u32 a2))] [(Rw (Ki .u8) 55 (Vs (some wa1, 4, 4)) a1)] (fun w : Unit => (Vl (.tuple #[]))) (fun w => [(Rw (Ki .u8) 55 (Vs (some wa1, 4, 4)) out)]) := by
  unfold binary_bigEndian_PutUint32 at hp
  refine fn_of Tryd.func46 rfl Tryd.ntmps46 rfl fun E hM => ?_
  refine cx_seq' fun K1 hK1 => ?_
  refine cx_region' ?_
  refine sx_ox' (ox_box' rfl (lv_ag _) rfl rfl) (wt_none' rfl) fun q3 => ?_
  refine sx_nil' ?_
  show TX E K1 _
  refine tx_k' hK1 ?_
  refine cx_seq' fun K2 hK2 => ?_
  refine cx_region' ?_
  refine sx_rd' (rd_move' rfl) rfl rfl (wt_none' rfl) ?_
  obtain ⟨r7, hr7, hp⟩ := bind_some hp
  refine sx_rd' (rd_atr' (m := 1) rfl rfl rfl rfl hr7 Tryd.underlying22 info5) rfl rfl (wt_none' rfl) ?_
  refine sx_rd' (rd_loadr' rfl (m := 1) (i := 3) (j := 0) rfl rfl hr7 rfl rfl flat5) rfl rfl (wt_none' rfl) ?_
  refine sx_nil' ?_
  show TX E K2 _
  refine tx_k' hK2 ?_
  refine cx_seq' fun K3 hK3 => ?_
  refine cx_region' ?_
  refine sx_rd' (rd_move' rfl) rfl rfl (wt_none' rfl) ?_
  refine sx_rd' (rd_move' rfl) rfl rfl (wt_none' rfl) ?_
  obtain ⟨r11, hr11, hp⟩ := bind_some hp
  refine sx_rd' (rd_bin' rfl rfl eg_int (ru_shr hr11)) rfl rfl (wt_none' rfl) ?_
  refine sx_rd' (rd_conv' rfl (ru_i2i (by rw [Tryd.underlying23]; rfl) Tryd.underlying5)) rfl rfl (wt_none' rfl) ?_
  obtain ⟨r13, hr13, hp⟩ := bind_some hp
  refine sx_rd' (rd_atr' (m := 1) rfl rfl rfl rfl hr13 Tryd.underlying22 info5) rfl rfl (wt_none' rfl) ?_
  refine sx_ox' (ox_storer' (m := 1) (i := 0) (j := 0) (x' := (icv .u8 r11)) rfl rfl (lv_vl rfl rfl) rfl rfl hr13 rfl rfl rfl info5 rfl (H' := [⟨.pointer (some q3), [], 60, none⟩, (Rw (Ki .u8) 55 (Vs (some wa1, 4, 4)) (a1.set (0 : Int).toNat (icv .u8 r11)))]) rfl) (wt_none' rfl) fun _ => ?_
  refine sx_nil' ?_
  show TX E K3 _
  refine tx_k' hK3 ?_
  refine cx_seq' fun K4 hK4 => ?_
  refine cx_region' ?_
  refine sx_rd' (rd_move' rfl) rfl rfl (wt_none' rfl) ?_
  refine sx_rd' (rd_move' rfl) rfl rfl (wt_none' rfl) ?_
  obtain ⟨r16, hr16, hp⟩ := bind_some hp
  refine sx_rd' (rd_bin' rfl rfl eg_int (ru_shr hr16)) rfl rfl (wt_none' rfl) ?_
  refine sx_rd' (rd_conv' rfl (ru_i2i (by rw [Tryd.underlying23]; rfl) Tryd.underlying5)) rfl rfl (wt_none' rfl) ?_
  obtain ⟨r18, hr18, hp⟩ := bind_some hp
  refine sx_rd' (rd_atr' (m := 1) rfl rfl rfl rfl hr18 Tryd.underlying22 info5) rfl rfl (wt_none' rfl) ?_
  refine sx_ox' (ox_storer' (m := 1) (i := 1) (j := 0) (x' := (icv .u8 r16)) rfl rfl (lv_vl rfl rfl) rfl rfl hr18 rfl rfl rfl info5 rfl (H' := [⟨.pointer (some q3), [], 60, none⟩, (Rw (Ki .u8) 55 (Vs (some wa1, 4, 4)) ((a1.set (0 : Int).toNat (icv .u8 r11)).set (1 : Int).toNat (icv .u8 r16)))]) rfl) (wt_none' rfl) fun _ => ?_
  refine sx_nil' ?_
  show TX E K4 _
  refine tx_k' hK4 ?_
  refine cx_seq' fun K5 hK5 => ?_
  refine cx_region' ?_
  refine sx_rd' (rd_move' rfl) rfl rfl (wt_none' rfl) ?_
  refine sx_rd' (rd_move' rfl) rfl rfl (wt_none' rfl) ?_
  obtain ⟨r21, hr21, hp⟩ := bind_some hp
  refine sx_rd' (rd_bin' rfl rfl eg_int (ru_shr hr21)) rfl rfl (wt_none' rfl) ?_
  refine sx_rd' (rd_conv' rfl (ru_i2i (by rw [Tryd.underlying23]; rfl) Tryd.underlying5)) rfl rfl (wt_none' rfl) ?_
  obtain ⟨r23, hr23, hp⟩ := bind_some hp
  refine sx_rd' (rd_atr' (m := 1) rfl rfl rfl rfl hr23 Tryd.underlying22 info5) rfl rfl (wt_none' rfl) ?_
  refine sx_ox' (ox_storer' (m := 1) (i := 2) (j := 0) (x' := (icv .u8 r21)) rfl rfl (lv_vl rfl rfl) rfl rfl hr23 rfl rfl rfl info5 rfl (H' := [⟨.pointer (some q3), [], 60, none⟩, (Rw (Ki .u8) 55 (Vs (some wa1, 4, 4)) (((a1.set (0 : Int).toNat (icv .u8 r11)).set (1 : Int).toNat (icv .u8 r16)).set (2 : Int).toNat (icv .u8 r21)))]) rfl) (wt_none' rfl) fun _ => ?_
  refine sx_nil' ?_
  show TX E K5 _
  refine tx_k' hK5 ?_
  refine cx_region' ?_
  refine sx_rd' (rd_move' rfl) rfl rfl (wt_none' rfl) ?_
  refine sx_rd' (rd_move' rfl) rfl rfl (wt_none' rfl) ?_
  refine sx_rd' (rd_conv' rfl (ru_i2i (by rw [Tryd.underlying23]; rfl) Tryd.underlying5)) rfl rfl (wt_none' rfl) ?_
  obtain ⟨r27, hr27, hp⟩ := bind_some hp
  refine sx_rd' (rd_atr' (m := 1) rfl rfl rfl rfl hr27 Tryd.underlying22 info5) rfl rfl (wt_none' rfl) ?_
  refine sx_ox' (ox_storer' (m := 1) (i := 3) (j := 0) (x' := (icv .u8 a2)) rfl rfl (lv_vl rfl rfl) rfl rfl hr27 rfl rfl rfl info5 rfl (H' := [⟨.pointer (some q3), [], 60, none⟩, (Rw (Ki .u8) 55 (Vs (some wa1, 4, 4)) ((((a1.set (0 : Int).toNat (icv .u8 r11)).set (1 : Int).toNat (icv .u8 r16)).set (2 : Int).toNat (icv .u8 r21)).set (3 : Int).toNat (icv .u8 a2)))]) rfl) (wt_none' rfl) fun _ => ?_
  refine sx_nil' ?_
  replace hp := Option.some.inj hp
  subst hp
  refine tx_pick' (L' := []) (H' := [(Rw (Ki .u8) 55 (Vs (some wa1, 4, 4)) ((((a1.set (0 : Int).toNat (icv .u8 r11)).set (1 : Int).toNat (icv .u8 r16)).set (2 : Int).toNat (icv .u8 r21)).set (3 : Int).toNat (icv .u8 a2)))]) [1] sub_nil (by decide) (pick_cons rfl pick_nil) ?_
  exact tx_end0' Tryd.results46 rfl () rfl (List.Sublist.refl _)

def bytes_Buffer_tryGrowByReslice (k : Nat) (a0_1 : Int) (a0_2 : Int) (a1 : Int) : Option (Int × Int × Int) :=
  br (decide (a1 ≤ 0))
    (none)
    (some (a0_1, a0_2, 0))

theorem bytes_Buffer_tryGrowByReslice_sim {k : Nat} {wa0 : Addr} (a0_1 : Int) (a0_2 : Int) (a1 : Int) {out : Int × Int × Int} (hp : bytes_Buffer_tryGrowByReslice k a0_1 a0_2 a1 = some out) : Go.Sx.Fn Tryd.prog 40 [(Vl (.pointer (some wa0))), (Vl (.int .i64 a1))] [⟨.pointer (some wa0), [(Vl (.slice none 0 0)), (Vl (.int .i64 a0_1)), (Vl (.int .i8 a0_2))], 50, none⟩] (fun w : Unit => (Tu [(Vl (.int .i64 out.2.2)), (Vl (.bool false))])) (fun w => [⟨.pointer (some wa0), [(Vl (.slice none 0 0)), (Vl (.int .i64 out.1)), (Vl (.int .i8 out.2.1))], 50, none⟩]) := by
  unfold bytes_Buffer_tryGrowByReslice at hp
  refine fn_of Tryd.func40 rfl Tryd.ntmps40 rfl fun E hM => ?_
  refine cx_seq' fun K1 hK1 => ?_
  refine cx_region' ?_
  refine sx_rd' (rd_assign' rfl) rfl rfl (wt_none' rfl) ?_
  refine sx_rd' (rd_assign' rfl) rfl rfl (wt_none' rfl) ?_
  refine sx_nil' ?_
  show TX E K1 _
  refine tx_k' hK1 ?_
  refine cx_seq' fun K2 hK2 => ?_
  refine cx_seq' fun K3 hK3 => ?_
  refine cx_region' ?_
  refine sx_rd' (rd_move' rfl) rfl rfl (wt_none' rfl) ?_
  refine sx_rd' (rd_nilck' rfl) rfl rfl (wt_none' rfl) ?_
  refine sx_rd' (rd_field0' rfl Tryd.underlying50 rfl info22 rfl) rfl rfl (wt_none' rfl) ?_
  refine sx_rd' (rd_load' (i := 0) (o := 0) rfl ⟨rfl, rfl, rfl, rfl⟩ rfl flat22) rfl rfl (wt_none' rfl) ?_
  refine sx_rd' (rd_lenv' rfl Tryd.underlying22) rfl rfl (wt_none' rfl) ?_
  refine sx_rd' (rd_assign' rfl) rfl rfl (wt_none' rfl) ?_
  refine sx_nil' ?_
  show TX E K3 _
  refine tx_k' hK3 ?_
  refine cx_seq' fun K4 hK4 => ?_
  refine cx_region' ?_
  refine sx_rd' (rd_move' rfl) rfl rfl (wt_none' rfl) ?_
  refine sx_rd' (rd_move' rfl) rfl rfl (wt_none' rfl) ?_
  refine sx_rd' (rd_nilck' rfl) rfl rfl (wt_none' rfl) ?_
  refine sx_rd' (rd_field0' rfl Tryd.underlying50 rfl info22 rfl) rfl rfl (wt_none' rfl) ?_
  refine sx_rd' (rd_load' (i := 0) (o := 0) rfl ⟨rfl, rfl, rfl, rfl⟩ rfl flat22) rfl rfl (wt_none' rfl) ?_
  refine sx_rd' (rd_capv' rfl Tryd.underlying22) rfl rfl (wt_none' rfl) ?_
  refine sx_rd' (rd_move' rfl) rfl rfl (wt_none' rfl) ?_
  refine sx_rd' (rd_bin' rfl rfl eg_int (ru_subc (c := 0) (by decide))) rfl rfl (wt_none' rfl) ?_
  refine sx_rd' (rd_bin' rfl rfl eg_int ru_leq) rfl rfl (wt_none' rfl) ?_
  refine sx_nil' ?_
  show TX E K4 _
  refine tx_k' hK4 ?_
  refine cx_cond' rfl (fun h1 => ?_) (fun h1 => ?_)
  · replace hp := (br_t h1).symm.trans hp
    cases hp
  · replace hp := (br_f h1).symm.trans hp
    refine cx_skip' ?_
    show TX E K2 _
    refine tx_k' hK2 ?_
    refine cx_seq' fun K6 hK6 => ?_
    refine cx_region' ?_
    refine sx_rd' (rd_assign' rfl) rfl rfl (wt_none' rfl) ?_
    refine sx_rd' (rd_assign' rfl) rfl rfl (wt_none' rfl) ?_
    refine sx_nil' ?_
    show TX E K6 _
    refine tx_k' hK6 ?_
    refine cx_retc' ?_
    replace hp := Option.some.inj hp
    subst hp
    refine tx_pick' (L' := [(4, (Vl (.int .i64 0))), (5, (Vl (.bool false)))]) (H' := [⟨.pointer (some wa0), [(Vl (.slice none 0 0)), (Vl (.int .i64 a0_1)), (Vl (.int .i8 a0_2))], 50, none⟩]) [0] (sub_cons rfl (sub_cons rfl sub_nil)) (by decide) (pick_cons rfl pick_nil) ?_
    exact tx_ret2' Tryd.results40 rfl () (rv_tmp' rfl) (rv_tmp' rfl) rfl (List.Sublist.refl _)

def bytes_Buffer_Len (k : Nat) (a0_1 : Int) (a0_2 : Int) : Option (Int × Int × Int) :=
  some (a0_1, a0_2, isub .i64 ((0 : Nat) : Int) a0_1)

theorem bytes_Buffer_Len_sim {k : Nat} {wa0 : Addr} (a0_1 : Int) (a0_2 : Int) {out : Int × Int × Int} (hp : bytes_Buffer_Len k a0_1 a0_2 = some out) : Go.Sx.Fn Tryd.prog 13 [(Vl (.pointer (some wa0)))] [⟨.pointer (some wa0), [(Vl (.slice none 0 0)), (Vl (.int .i64 a0_1)), (Vl (.int .i8 a0_2))], 50, none⟩] (fun w : Unit => (Vl (.int .i64 out.2.2))) (fun w => [⟨.pointer (some wa0), [(Vl (.slice none 0 0)), (Vl (.int .i64 out.1)), (Vl (.int .i8 out.2.1))], 50, none⟩]) := by
  unfold bytes_Buffer_Len at hp
  refine fn_of Tryd.func13 rfl Tryd.ntmps13 rfl fun E hM => ?_
  refine cx_seq' fun K1 hK1 => ?_
  refine cx_region' ?_
  refine sx_rd' (rd_assign' rfl) rfl rfl (wt_none' rfl) ?_
  refine sx_nil' ?_
  show TX E K1 _
  refine tx_k' hK1 ?_
  refine cx_seq' fun K2 hK2 => ?_
  refine cx_draw' mixed (by kernel_rfl) ?_
  refine qx_rd' (rd_move' rfl) rfl rfl (wt_none' rfl) ?_
  refine qx_rd' (rd_nilck' rfl) rfl rfl (wt_none' rfl) ?_
  refine qx_rd' (rd_field0' rfl Tryd.underlying50 rfl info22 rfl) rfl rfl (wt_none' rfl) ?_
  refine qx_rd' (rd_load' (i := 0) (o := 0) rfl ⟨rfl, rfl, rfl, rfl⟩ rfl flat22) rfl rfl (wt_none' rfl) ?_
  refine qx_rd' (rd_lenv' rfl Tryd.underlying22) rfl rfl (wt_none' rfl) ?_
  refine qx_rd' (rd_move' rfl) rfl rfl (wt_none' rfl) ?_
  refine qx_rd' (rd_nilck' rfl) rfl rfl (wt_none' rfl) ?_
  refine qx_rd' (rd_field' (off := 1) rfl Tryd.underlying50 rfl info3 rfl) rfl rfl (wt_none' rfl) ?_
  refine qx_rd' (rd_load' (i := 0) (o := 1) rfl ⟨rfl, rfl, rfl, rfl⟩ rfl flat3) rfl rfl (wt_none' rfl) ?_
  refine qx_rd' (rd_bin' rfl rfl eg_int ru_sub) rfl rfl (wt_none' rfl) ?_
  refine qx_rd' (rd_assign' rfl) rfl rfl (wt_none' rfl) ?_
  refine qx_nil' ?_
  show TX E K2 _
  refine tx_k' hK2 ?_
  refine cx_retc' ?_
  replace hp := Option.some.inj hp
  subst hp
  refine tx_pick' (L' := [(2, (Vl (.int .i64 (isub .i64 ((0 : Nat) : Int) a0_1))))]) (H' := [⟨.pointer (some wa0), [(Vl (.slice none 0 0)), (Vl (.int .i64 a0_1)), (Vl (.int .i8 a0_2))], 50, none⟩]) [0] (sub_cons rfl sub_nil) (by decide) (pick_cons rfl pick_nil) ?_
  exact tx_ret1' Tryd.results13 rfl () (rv_tmp' rfl) (List.Sublist.refl _)

def bytes_Buffer_grow_j1 (k : Nat) (r10 : Int × Int × Int) (a1 : Int) (x1 : Bool) : Option ((List Int) × Int × Int × Int) :=
  br x1
    (none)
    ((bytes_Buffer_tryGrowByReslice k r10.1 r10.2.1 a1) >>= fun r25 =>
    br (decide (a1 ≤ 64))
      ((mk 1 0 a1 64) >>= fun r41 =>
      some (r41, r25.1, r25.2.1, 0))
      ((iquo .i64 ((0 : Nat) : Int) 2) >>= fun r51 =>
      br (decide (a1 ≤ (isub .i64 r51 r10.2.2)))
        (none)
        (br (decide ((isub .i64 (isub .i64 9223372036854775807 ((0 : Nat) : Int)) a1) < ((0 : Nat) : Int)))
          (none)
          (none))))
def bytes_Buffer_grow (k : Nat) (a0_1 : Int) (a0_2 : Int) (a1 : Int) : Option ((List Int) × Int × Int × Int) :=
  (bytes_Buffer_Len k a0_1 a0_2) >>= fun r10 =>
  br (decide (r10.2.2 = 0))
    (bytes_Buffer_grow_j1 k r10 a1 (!decide (r10.1 = 0)))
    (bytes_Buffer_grow_j1 k r10 a1 false)

theorem bytes_Buffer_grow_sim {k : Nat} {wa0 : Addr} (a0_1 : Int) (a0_2 : Int) (a1 : Int) {out : (List Int) × Int × Int × Int} (hp : bytes_Buffer_grow k a0_1 a0_2 a1 = some out) : Go.Sx.Fn Tryd.prog 41 [(Vl (.pointer (some wa0))), (Vl (.int .i64 a1))] [⟨.pointer (some wa0), [(Vl (.slice none 0 0)), (Vl (.int .i64 a0_1)), (Vl (.int .i8 a0_2))], 50, none⟩] (fun w : Gs => (Vl (.int .i64 out.2.2.2))) (fun w => [⟨.pointer (some wa0), [(Vl (Vs w)), (Vl (.int .i64 out.2.1)), (Vl (.int .i8 out.2.2.1))], 50, none⟩, (Rw (Ki .u8) 5 (Vs w) out.1)]) := by
  unfold bytes_Buffer_grow at hp
  refine fn_of Tryd.func41 rfl Tryd.ntmps41 rfl fun E hM => ?_
  refine cx_seq' fun K1 hK1 => ?_
  refine cx_region' ?_
  refine sx_rd' (rd_assign' rfl) rfl rfl (wt_none' rfl) ?_
  refine sx_nil' ?_
  show TX E K1 _
  refine tx_k' hK1 ?_
  refine cx_seq' fun K2 hK2 => ?_
  refine cx_region' ?_
  refine sx_rd' (rd_move' rfl) rfl rfl (wt_none' rfl) ?_
  obtain ⟨r10, hr10, hp⟩ := bind_some hp
  refine sx_ox' (ox_callg' (ent_fn' Tryd.func13 isn13 rfl rfl) (bytes_Buffer_Len_sim _ _ hr10 : Go.Sx.Fn Tryd.prog 13 [(Vl (.pointer (some wa0)))] [⟨.pointer (some wa0), [(Vl (.slice none 0 0)), (Vl (.int .i64 a0_1)), (Vl (.int .i8 a0_2))], 50, none⟩] (fun x : Unit => (Vl (.int .i64 r10.2.2))) (fun x => [⟨.pointer (some wa0), [(Vl (.slice none 0 0)), (Vl (.int .i64 r10.1)), (Vl (.int .i8 r10.2.1))], 50, none⟩])) [0] [] (by decide) (pick_cons rfl pick_nil) pick_nil (Hn := fun x : Unit => [⟨.pointer (some wa0), [(Vl (.slice none 0 0)), (Vl (.int .i64 r10.1)), (Vl (.int .i8 r10.2.1))], 50, none⟩]) (fun _ => rfl) rfl rfl) (wt_none' rfl) fun ⟨⟩ => ?_
  refine sx_rd' (rd_assign' rfl) rfl rfl (wt_none' rfl) ?_
  refine sx_nil' ?_
  show TX E K2 _
  refine tx_k' hK2 ?_
  refine cx_seq' fun K3 hK3 => ?_
  refine cx_seq' fun K4 hK4 => ?_
  refine cx_region' ?_
  refine sx_rd' (rd_move' rfl) rfl rfl (wt_none' rfl) ?_
  refine sx_rd' (rd_bin' rfl rfl eg_int ru_eql) rfl rfl (wt_none' rfl) ?_
  refine sx_rd' (rd_move' rfl) rfl rfl (wt_none' rfl) ?_
  refine sx_cutn' 6 (fun (v1 : Bool) => (⟨110, [], [(0, (Vl (.pointer (some wa0)))), (1, (Vl (.int .i64 a1))), (5, (Vl (.int .i64 r10.2.2))), (19, (Vl (.bool v1)))], [⟨.pointer (some wa0), [(Vl (.slice none 0 0)), (Vl (.int .i64 r10.1)), (Vl (.int .i8 r10.2.1))], 50, none⟩]⟩ : St)) (fun (v1 : Bool) => bytes_Buffer_grow_j1 k r10 a1 v1 = some out) ?_ ?_
  · rintro x1 hp
    replace hp : bytes_Buffer_grow_j1 k r10 a1 x1 = some out := hp
    unfold bytes_Buffer_grow_j1 at hp
    refine sx_nil' ?_
    show TX E K4 _
    refine tx_k' hK4 ?_
    refine cx_cond' rfl (fun h2 => ?_) (fun h2 => ?_)
    · replace hp := (br_t h2).symm.trans hp
      cases hp
    · replace hp := (br_f h2).symm.trans hp
      refine cx_skip' ?_
      show TX E K3 _
      refine tx_k' hK3 ?_
      refine cx_seq' fun K6 hK6 => ?_
      refine cx_seq' fun K7 hK7 => ?_
      refine cx_region' ?_
      refine sx_rd' (rd_move' rfl) rfl rfl (wt_none' rfl) ?_
      refine sx_rd' (rd_move' rfl) rfl rfl (wt_none' rfl) ?_
      obtain ⟨r25, hr25, hp⟩ := bind_some hp
      refine sx_ox' (ox_callg' (ent_fn' Tryd.func40 isn40 rfl rfl) (bytes_Buffer_tryGrowByReslice_sim _ _ _ hr25 : Go.Sx.Fn Tryd.prog 40 [(Vl (.pointer (some wa0))), (Vl (.int .i64 a1))] [⟨.pointer (some wa0), [(Vl (.slice none 0 0)), (Vl (.int .i64 r10.1)), (Vl (.int .i8 r10.2.1))], 50, none⟩] (fun x : Unit => (Tu [(Vl (.int .i64 r25.2.2)), (Vl (.bool false))])) (fun x => [⟨.pointer (some wa0), [(Vl (.slice none 0 0)), (Vl (.int .i64 r25.1)), (Vl (.int .i8 r25.2.1))], 50, none⟩])) [0] [] (by decide) (pick_cons rfl pick_nil) pick_nil (Hn := fun x : Unit => [⟨.pointer (some wa0), [(Vl (.slice none 0 0)), (Vl (.int .i64 r25.1)), (Vl (.int .i8 r25.2.1))], 50, none⟩]) (fun _ => rfl) rfl rfl) (wt_none' rfl) fun ⟨⟩ => ?_
      refine sx_rd' (rd_move' rfl) rfl rfl (wt_none' rfl) ?_
      refine sx_rd' (rd_extract' rfl rfl) rfl rfl (wt_none' rfl) ?_
      refine sx_rd' (rd_extract' rfl rfl) rfl rfl (wt_none' rfl) ?_
      refine sx_rd' (rd_assign' rfl) rfl rfl (wt_none' rfl) ?_
      refine sx_rd' (rd_assign' rfl) rfl rfl (wt_none' rfl) ?_
      refine sx_nil' ?_
      show TX E K7 _
      refine tx_k' hK7 ?_
      refine cx_seq' fun K8 hK8 => ?_
      refine cx_region' ?_
      refine sx_rd' (rd_move' rfl) rfl rfl (wt_none' rfl) ?_
      refine sx_nil' ?_
      show TX E K8 _
      refine tx_k' hK8 ?_
      refine cx_cond_f' rfl rfl ?_
      refine cx_skip' ?_
      show TX E K6 _
      refine tx_k' hK6 ?_
      refine cx_seq' fun K9 hK9 => ?_
      refine cx_seq' fun K10 hK10 => ?_
      refine cx_region' ?_
      refine sx_rd' (rd_move' rfl) rfl rfl (wt_none' rfl) ?_
      refine sx_rd' (rd_nilck' rfl) rfl rfl (wt_none' rfl) ?_
      refine sx_rd' (rd_field0' rfl Tryd.underlying50 rfl info22 rfl) rfl rfl (wt_none' rfl) ?_
      refine sx_rd' (rd_load' (i := 0) (o := 0) rfl ⟨rfl, rfl, rfl, rfl⟩ rfl flat22) rfl rfl (wt_none' rfl) ?_
      refine sx_rd' (rd_binf' rfl rfl (bf_vl (fun _ => by kernel_rfl) nil_eql22_nilsl)) rfl rfl (wt_none' rfl) ?_
      refine sx_rd' (rd_move' rfl) rfl rfl (wt_none' rfl) ?_
      refine sx_rd' (rd_move' rfl) rfl rfl (wt_is' (wt_guard' rfl rfl rfl) (beq_tt rfl)) ?_
      refine sx_rd' (rd_bin' rfl rfl eg_int ru_leq) rfl rfl (wt_is' (wt_guard' rfl rfl rfl) (beq_tt rfl)) ?_
      refine sx_rd' (rd_pick_true' rfl rfl rfl) rfl rfl (wt_none' rfl) ?_
      refine sx_nil' ?_
      show TX E K10 _
      refine tx_k' hK10 ?_
      refine cx_cond' rfl (fun h3 => ?_) (fun h3 => ?_)
      · replace hp := (br_t h3).symm.trans hp
        refine cx_seq' fun K11 hK11 => ?_
        refine cx_region' ?_
        refine sx_rd' (rd_move' rfl) rfl rfl (wt_none' rfl) ?_
        refine sx_rd' (rd_move' rfl) rfl rfl (wt_none' rfl) ?_
        obtain ⟨r41, hr41, hp⟩ := bind_some hp
        refine sx_ox' (ox_make' (K := (Ki .u8)) rfl rfl hr41 rfl Tryd.underlying22 info5 rfl rfl rfl rfl rfl) (wt_none' rfl) fun g41 => ?_
        refine sx_rd' (rd_nilck' rfl) rfl rfl (wt_none' rfl) ?_
        refine sx_rd' (rd_field0' rfl Tryd.underlying50 rfl info22 rfl) rfl rfl (wt_none' rfl) ?_
        refine sx_ox' (ox_store' (i := 1) (o := 0) rfl rfl (lv_vl rfl rfl) ⟨rfl, rfl, rfl, rfl⟩ rfl info22 rfl (H' := [(Rw (Ki .u8) 5 (Vs g41) r41), ⟨.pointer (some wa0), [(Vl (Vs g41)), (Vl (.int .i64 r25.1)), (Vl (.int .i8 r25.2.1))], 50, none⟩]) rfl) (wt_none' rfl) fun _ => ?_
        refine sx_nil' ?_
        show TX E K11 _
        refine tx_k' hK11 ?_
        refine cx_seq' fun K12 hK12 => ?_
        refine cx_region' ?_
        refine sx_rd' (rd_assign' rfl) rfl rfl (wt_none' rfl) ?_
        refine sx_nil' ?_
        show TX E K12 _
        refine tx_k' hK12 ?_
        refine cx_retc' ?_
        replace hp := Option.some.inj hp
        subst hp
        refine tx_pick' (L' := [(4, (Vl (.int .i64 0)))]) (H' := [⟨.pointer (some wa0), [(Vl (Vs g41)), (Vl (.int .i64 r25.1)), (Vl (.int .i8 r25.2.1))], 50, none⟩, (Rw (Ki .u8) 5 (Vs g41) r41)]) [1, 0] (sub_cons rfl sub_nil) (by decide) (pick_cons rfl (pick_cons rfl pick_nil)) ?_
        exact tx_ret1' Tryd.results41 rfl g41 (rv_tmp' rfl) (List.Sublist.refl _)
      · replace hp := (br_f h3).symm.trans hp
        refine cx_skip' ?_
        show TX E K9 _
        refine tx_k' hK9 ?_
        refine cx_seq' fun K13 hK13 => ?_
        refine cx_region' ?_
        refine sx_rd' (rd_move' rfl) rfl rfl (wt_none' rfl) ?_
        refine sx_rd' (rd_nilck' rfl) rfl rfl (wt_none' rfl) ?_
        refine sx_rd' (rd_field0' rfl Tryd.underlying50 rfl info22 rfl) rfl rfl (wt_none' rfl) ?_
        refine sx_rd' (rd_load' (i := 0) (o := 0) rfl ⟨rfl, rfl, rfl, rfl⟩ rfl flat22) rfl rfl (wt_none' rfl) ?_
        refine sx_rd' (rd_capv' rfl Tryd.underlying22) rfl rfl (wt_none' rfl) ?_
        refine sx_rd' (rd_assign' rfl) rfl rfl (wt_none' rfl) ?_
        refine sx_nil' ?_
        show TX E K13 _
        refine tx_k' hK13 ?_
        refine cx_seq' fun K14 hK14 => ?_
        refine cx_seq' fun K15 hK15 => ?_
        refine cx_region' ?_
        refine sx_rd' (rd_move' rfl) rfl rfl (wt_none' rfl) ?_
        refine sx_rd' (rd_move' rfl) rfl rfl (wt_none' rfl) ?_
        obtain ⟨r51, hr51, hp⟩ := bind_some hp
        refine sx_rd' (rd_bin' rfl rfl eg_int (ru_quo hr51)) rfl rfl (wt_none' rfl) ?_
        refine sx_rd' (rd_move' rfl) rfl rfl (wt_none' rfl) ?_
        refine sx_rd' (rd_bin' rfl rfl eg_int ru_sub) rfl rfl (wt_none' rfl) ?_
        refine sx_rd' (rd_bin' rfl rfl eg_int ru_leq) rfl rfl (wt_none' rfl) ?_
        refine sx_nil' ?_
        show TX E K15 _
        refine tx_k' hK15 ?_
        refine cx_cond' rfl (fun h4 => ?_) (fun h4 => ?_)
        · replace hp := (br_t h4).symm.trans hp
          cases hp
        · replace hp := (br_f h4).symm.trans hp
          refine cx_seq' fun K16 hK16 => ?_
          refine cx_region' ?_
          refine sx_rd' (rd_move' rfl) rfl rfl (wt_none' rfl) ?_
          refine sx_rd' (rd_move' rfl) rfl rfl (wt_none' rfl) ?_
          refine sx_rd' (rd_bin' rfl rfl eg_int ru_sub) rfl rfl (wt_none' rfl) ?_
          refine sx_rd' (rd_move' rfl) rfl rfl (wt_none' rfl) ?_
          refine sx_rd' (rd_bin' rfl rfl eg_int ru_sub) rfl rfl (wt_none' rfl) ?_
          refine sx_rd' (rd_bin' rfl rfl eg_int ru_gtr) rfl rfl (wt_none' rfl) ?_
          refine sx_nil' ?_
          show TX E K16 _
          refine tx_k' hK16 ?_
          refine cx_cond' rfl (fun h5 => ?_) (fun h5 => ?_)
          · replace hp := (br_t h5).symm.trans hp
            cases hp
          · replace hp := (br_f h5).symm.trans hp
            cases hp
  · intro K5 hK5
    rcases br_cases hp with ⟨h1, hp⟩ | ⟨h1, hp⟩
    · refine sx_rd' (rd_move' rfl) rfl rfl (wt_is' (wt_guard' rfl rfl rfl) (beq_tt h1)) ?_
      refine sx_rd' (rd_nilck' rfl) rfl rfl (wt_is' (wt_guard' rfl rfl rfl) (beq_tt h1)) ?_
      refine sx_rd' (rd_field' (off := 1) rfl Tryd.underlying50 rfl info3 rfl) rfl rfl (wt_is' (wt_guard' rfl rfl rfl) (beq_tt h1)) ?_
      refine sx_rd' (rd_load' (i := 0) (o := 1) rfl ⟨rfl, rfl, rfl, rfl⟩ rfl flat3) rfl rfl (wt_is' (wt_guard' rfl rfl rfl) (beq_tt h1)) ?_
      refine sx_rd' (rd_bin' rfl rfl eg_int ru_neq) rfl rfl (wt_is' (wt_guard' rfl rfl rfl) (beq_tt h1)) ?_
      refine sx_rd' (rd_pick_true' rfl h1 rfl) rfl rfl (wt_none' rfl) ?_
      refine sx_nil' ?_
      show TX E K5 _
      exact tx_pick' [0] (sub_cons rfl (sub_cons rfl (sub_cons rfl (sub_cons rfl sub_nil)))) (by decide) (pick_cons rfl pick_nil) (hK5 (!decide (r10.1 = 0)) hp)
    · refine sx_skip' rfl rfl (wt_is' (wt_guard' rfl rfl rfl) (beq_ft h1)) ?_
      refine sx_skip' rfl rfl (wt_is' (wt_guard' rfl rfl rfl) (beq_ft h1)) ?_
      refine sx_skip' rfl rfl (wt_is' (wt_guard' rfl rfl rfl) (beq_ft h1)) ?_
      refine sx_skip' rfl rfl (wt_is' (wt_guard' rfl rfl rfl) (beq_ft h1)) ?_
      refine sx_skip' rfl rfl (wt_is' (wt_guard' rfl rfl rfl) (beq_ft h1)) ?_
      refine sx_rd' (rd_pick_false' rfl h1 rfl) rfl rfl (wt_none' rfl) ?_
      refine sx_nil' ?_
      show TX E K5 _
      exact tx_pick' [0] (sub_cons rfl (sub_cons rfl (sub_cons rfl (sub_cons rfl sub_nil)))) (by decide) (pick_cons rfl pick_nil) (hK5 false hp)

def bytes_Buffer_Write (k : Nat) (a0_1 : Int) (a0_2 : Int) (a1 : List Int) : Option ((List Int) × Int × Int × Int) :=
  (bytes_Buffer_tryGrowByReslice k a0_1 0 (a1.length : Int)) >>= fun r15 =>
  (bytes_Buffer_grow k r15.1 r15.2.1 (a1.length : Int)) >>= fun r23 =>
  (cut r23.1 r23.2.2.2 (r23.1.length : Int)) >>= fun r29 =>
  some (cpat r23.1 r23.2.2.2.toNat r29.length a1, r23.2.1, r23.2.2.1, ((Nat.min a1.length r29.length : Nat) : Int))

theorem bytes_Buffer_Write_sim {k : Nat} {wa0 : Addr} (a0_1 : Int) (a0_2 : Int) (a1 : List Int) {out : (List Int) × Int × Int × Int} (hp : bytes_Buffer_Write k a0_1 a0_2 a1 = some out) : Go.Sx.Fn Tryd.prog 38 [(Vl (.pointer (some wa0))), (Sl (Ki .u8) a1)] [⟨.pointer (some wa0), [(Vl (.slice none 0 0)), (Vl (.int .i64 a0_1)), (Vl (.int .i8 a0_2))], 50, none⟩] (fun w : Gs => (Tu [(Vl (.int .i64 out.2.2.2)), (Vl .nilIface)])) (fun w => [⟨.pointer (some wa0), [(Vl (Vs w)), (Vl (.int .i64 out.2.1)), (Vl (.int .i8 out.2.2.1))], 50, none⟩, (Rw (Ki .u8) 5 (Vs w) out.1)]) := by
  unfold bytes_Buffer_Write at hp
  refine fn_of Tryd.func38 rfl Tryd.ntmps38 rfl fun E hM => ?_
  refine cx_seq' fun K1 hK1 => ?_
  refine cx_region' ?_
  refine sx_rd' (rd_assign' rfl) rfl rfl (wt_none' rfl) ?_
  refine sx_rd' (rd_assign' rfl) rfl rfl (wt_none' rfl) ?_
  refine sx_nil' ?_
  show TX E K1 _
  refine tx_k' hK1 ?_
  refine cx_seq' fun K2 hK2 => ?_
  refine cx_region' ?_
  refine sx_rd' (rd_move' rfl) rfl rfl (wt_none' rfl) ?_
  refine sx_rd' (rd_nilck' rfl) rfl rfl (wt_none' rfl) ?_
  refine sx_rd' (rd_field' (off := 2) rfl Tryd.underlying50 rfl info48 rfl) rfl rfl (wt_none' rfl) ?_
  refine sx_ox' (ox_store' (i := 0) (o := 2) rfl rfl (lv_vl rfl rfl) ⟨rfl, rfl, rfl, rfl⟩ rfl info48 rfl (H' := [⟨.pointer (some wa0), [(Vl (.slice none 0 0)), (Vl (.int .i64 a0_1)), (Vl (.int .i8 0))], 50, none⟩]) rfl) (wt_none' rfl) fun _ => ?_
  refine sx_nil' ?_
  show TX E K2 _
  refine tx_k' hK2 ?_
  refine cx_seq' fun K3 hK3 => ?_
  refine cx_region' ?_
  refine sx_rd' (rd_move' rfl) rfl rfl (wt_none' rfl) ?_
  refine sx_rd' (rd_move' rfl) rfl rfl (wt_none' rfl) ?_
  refine sx_rd' (rd_len' rfl Tryd.underlying22) rfl rfl (wt_none' rfl) ?_
  obtain ⟨r15, hr15, hp⟩ := bind_some hp
  refine sx_ox' (ox_callg' (ent_fn' Tryd.func40 isn40 rfl rfl) (bytes_Buffer_tryGrowByReslice_sim _ _ _ hr15 : Go.Sx.Fn Tryd.prog 40 [(Vl (.pointer (some wa0))), (Vl (.int .i64 (a1.length : Int)))] [⟨.pointer (some wa0), [(Vl (.slice none 0 0)), (Vl (.int .i64 a0_1)), (Vl (.int .i8 0))], 50, none⟩] (fun x : Unit => (Tu [(Vl (.int .i64 r15.2.2)), (Vl (.bool false))])) (fun x => [⟨.pointer (some wa0), [(Vl (.slice none 0 0)), (Vl (.int .i64 r15.1)), (Vl (.int .i8 r15.2.1))], 50, none⟩])) [0] [] (by decide) (pick_cons rfl pick_nil) pick_nil (Hn := fun x : Unit => [⟨.pointer (some wa0), [(Vl (.slice none 0 0)), (Vl (.int .i64 r15.1)), (Vl (.int .i8 r15.2.1))], 50, none⟩]) (fun _ => rfl) rfl rfl) (wt_none' rfl) fun ⟨⟩ => ?_
  refine sx_rd' (rd_move' rfl) rfl rfl (wt_none' rfl) ?_
  refine sx_rd' (rd_extract' rfl rfl) rfl rfl (wt_none' rfl) ?_
  refine sx_rd' (rd_extract' rfl rfl) rfl rfl (wt_none' rfl) ?_
  refine sx_rd' (rd_assign' rfl) rfl rfl (wt_none' rfl) ?_
  refine sx_rd' (rd_assign' rfl) rfl rfl (wt_none' rfl) ?_
  refine sx_nil' ?_
  show TX E K3 _
  refine tx_k' hK3 ?_
  refine cx_seq' fun K4 hK4 => ?_
  refine cx_seq' fun K5 hK5 => ?_
  refine cx_region' ?_
  refine sx_rd' (rd_move' rfl) rfl rfl (wt_none' rfl) ?_
  refine sx_rd' (rd_un' rfl ru_not) rfl rfl (wt_none' rfl) ?_
  refine sx_nil' ?_
  show TX E K5 _
  refine tx_k' hK5 ?_
  refine cx_cond_t' rfl rfl ?_
  refine cx_region' ?_
  refine sx_rd' (rd_move' rfl) rfl rfl (wt_none' rfl) ?_
  refine sx_rd' (rd_move' rfl) rfl rfl (wt_none' rfl) ?_
  refine sx_rd' (rd_len' rfl Tryd.underlying22) rfl rfl (wt_none' rfl) ?_
  obtain ⟨r23, hr23, hp⟩ := bind_some hp
  refine sx_ox' (ox_callg' (ent_fn' Tryd.func41 isn41 rfl rfl) (bytes_Buffer_grow_sim _ _ _ hr23 : Go.Sx.Fn Tryd.prog 41 [(Vl (.pointer (some wa0))), (Vl (.int .i64 (a1.length : Int)))] [⟨.pointer (some wa0), [(Vl (.slice none 0 0)), (Vl (.int .i64 r15.1)), (Vl (.int .i8 r15.2.1))], 50, none⟩] (fun x : Gs => (Vl (.int .i64 r23.2.2.2))) (fun x => [⟨.pointer (some wa0), [(Vl (Vs x)), (Vl (.int .i64 r23.2.1)), (Vl (.int .i8 r23.2.2.1))], 50, none⟩, (Rw (Ki .u8) 5 (Vs x) r23.1)])) [0] [] (by decide) (pick_cons rfl pick_nil) pick_nil (Hn := fun x : Gs => [⟨.pointer (some wa0), [(Vl (Vs x)), (Vl (.int .i64 r23.2.1)), (Vl (.int .i8 r23.2.2.1))], 50, none⟩, (Rw (Ki .u8) 5 (Vs x) r23.1)]) (fun _ => rfl) rfl rfl) (wt_none' rfl) fun g23 => ?_
  refine sx_rd' (rd_assign' rfl) rfl rfl (wt_none' rfl) ?_
  refine sx_nil' ?_
  show TX E K4 _
  refine tx_k' hK4 ?_
  refine cx_seq' fun K6 hK6 => ?_
  refine cx_region' ?_
  refine sx_rd' (rd_move' rfl) rfl rfl (wt_none' rfl) ?_
  refine sx_rd' (rd_nilck' rfl) rfl rfl (wt_none' rfl) ?_
  refine sx_rd' (rd_field0' rfl Tryd.underlying50 rfl info22 rfl) rfl rfl (wt_none' rfl) ?_
  refine sx_rd' (rd_load' (i := 0) (o := 0) rfl ⟨rfl, rfl, rfl, rfl⟩ rfl flat22) rfl rfl (wt_none' rfl) ?_
  refine sx_rd' (rd_move' rfl) rfl rfl (wt_none' rfl) ?_
  obtain ⟨r29, hr29, hp⟩ := bind_some hp
  refine sx_rd' (rd_cutr_l' (K := (Ki .u8)) (i := 1) rfl rfl rfl rfl hr29 Tryd.underlying22 info5) rfl rfl (wt_none' rfl) ?_
  refine sx_rd' (rd_move' rfl) rfl rfl (wt_none' rfl) ?_
  refine sx_ox' (ox_copyp' (K := (Ki .u8)) (i := 1) rfl rfl (cut_len hr29).2.2.2.2 rfl rfl rfl Tryd.underlying22 info5 rfl rfl (H' := [⟨.pointer (some wa0), [(Vl (Vs g23)), (Vl (.int .i64 r23.2.1)), (Vl (.int .i8 r23.2.2.1))], 50, none⟩, (Rw (Ki .u8) 5 (Vs g23) (cpat r23.1 r23.2.2.2.toNat r29.length a1))]) rfl) (wt_none' rfl) fun _ => ?_
  refine sx_rd' (rd_assign' rfl) rfl rfl (wt_none' rfl) ?_
  refine sx_rd' (rd_assign' rfl) rfl rfl (wt_none' rfl) ?_
  refine sx_nil' ?_
  show TX E K6 _
  refine tx_k' hK6 ?_
  refine cx_retc' ?_
  replace hp := Option.some.inj hp
  subst hp
  refine tx_pick' (L' := [(4, (Vl (.int .i64 ((Nat.min a1.length r29.length : Nat) : Int)))), (5, (Vl .nilIface))]) (H' := [⟨.pointer (some wa0), [(Vl (Vs g23)), (Vl (.int .i64 r23.2.1)), (Vl (.int .i8 r23.2.2.1))], 50, none⟩, (Rw (Ki .u8) 5 (Vs g23) (cpat r23.1 r23.2.2.2.toNat r29.length a1))]) [0, 1] (sub_cons rfl (sub_cons rfl sub_nil)) (by decide) (pick_cons rfl (pick_cons rfl pick_nil)) ?_
  exact tx_ret2' Tryd.results38 rfl g23 (rv_tmp' rfl) (rv_tmp' rfl) rfl (List.Sublist.refl _)

def wkbcommon_WriteUInt32 (k : Nat) (a0_1 : Int) (a0_2 : Int) (a2 : Int) : Option ((List Int) × Int × Int) :=
  (binary_bigEndian_PutUint32 k ([0, 0, 0, 0]) a2) >>= fun r16 =>
  (bytes_Buffer_Write k a0_1 a0_2 r16) >>= fun r23 =>
  some (r23.1, r23.2.1, r23.2.2.1)

theorem wkbcommon_WriteUInt32_sim {k : Nat} {wa0 : Addr} (a0_1 : Int) (a0_2 : Int) (a2 : Int) {out : (List Int) × Int × Int} (hp : wkbcommon_WriteUInt32 k a0_1 a0_2 a2 = some out) : Go.Sx.Fn Tryd.prog 16 [(If 32 (Vl (.pointer (some wa0)))), (If 60 (Ag [])), (Vl (.int .u32 a2))] [⟨.pointer (some wa0), [(Vl (.slice none 0 0)), (Vl (.int .i64 a0_1)), (Vl (.int .i8 a0_2))], 50, none⟩] (fun w : Gs => (Vl .nilIface)) (fun w => [⟨.pointer (some wa0), [(Vl (Vs w)), (Vl (.int .i64 out.2.1)), (Vl (.int .i8 out.2.2))], 50, none⟩, (Rw (Ki .u8) 5 (Vs w) out.1)]) := by
  unfold wkbcommon_WriteUInt32 at hp
  refine fn_of Tryd.func16 rfl Tryd.ntmps16 rfl fun E hM => ?_
  refine cx_seq' fun K1 hK1 => ?_
  refine cx_region' ?_
  refine sx_rd' (rd_assign' rfl) rfl rfl (wt_none' rfl) ?_
  refine sx_nil' ?_
  show TX E K1 _
  refine tx_k' hK1 ?_
  refine cx_seq' fun K2 hK2 => ?_
  refine cx_region' ?_
  refine sx_ox' (ox_alloc' info55 rfl rfl rfl rfl (l := [(Vl (.int .u8 0)), (Vl (.int .u8 0)), (Vl (.int .u8 0)), (Vl (.int .u8 0))]) rfl) (wt_none' rfl) fun q7 => ?_
  refine tx_arr' (K := (Ki .u8)) (xs := [0, 0, 0, 0]) (m := 4) (i := 0) rfl rfl rfl (H' := [(Rw (Ki .u8) 55 (Vs (some q7, 4, 4)) ([0, 0, 0, 0])), ⟨.pointer (some wa0), [(Vl (.slice none 0 0)), (Vl (.int .i64 a0_1)), (Vl (.int .i8 a0_2))], 50, none⟩]) rfl ?_
  refine sx_nil' ?_
  show TX E K2 _
  refine tx_k' hK2 ?_
  refine cx_seq' fun K3 hK3 => ?_
  refine cx_plan' [] [(6, 1)] [(0, 1), (1, 1), (2, 1), (3, 1), (4, 1), (5, 1), (6, 0)] mixed (by kernel_rfl) ?_
  refine px_rd' rfl (rd_move' rfl) rfl rfl (wt_none' rfl) ?_
  refine px_rd' rfl (rd_cut_arr' (q := q7) rfl Tryd.underlying55 info5) rfl rfl (wt_none' rfl) ?_
  refine px_rd' rfl (rd_move' rfl) rfl rfl (wt_none' rfl) ?_
  refine px_rd' rfl (rd_mkmeth' rfl) rfl rfl (wt_none' rfl) ?_
  refine px_rd' rfl (rd_nilck_mf' rfl (fun _ _ v _ w => nla60_PutUint32_ag v w)) rfl rfl (wt_none' rfl) ?_
  refine px_rd' rfl (rd_move' rfl) rfl rfl (wt_none' rfl) ?_
  obtain ⟨r16, hr16, hp⟩ := bind_some hp
  refine px_oxb' (is := [0]) rfl (oxb_callg (ent_inv' rfl rfl (inv_any2 inv60_PutUint32)) (binary_bigEndian_PutUint32_sim _ _ hr16 : Go.Sx.Fn Tryd.prog 46 [(Ag []), (Vl (Vs (some q7, 4, 4))), (Vl (.int .u32 a2))] [(Rw (Ki .u8) 55 (Vs (some q7, 4, 4)) ([0, 0, 0, 0]))] (fun x : Unit => (Vl (.tuple #[]))) (fun x => [(Rw (Ki .u8) 55 (Vs (some q7, 4, 4)) r16)])) [0] [1] (by decide) (pick_cons rfl pick_nil) (pick_cons rfl pick_nil) (Hn := fun x : Unit => [(Rw (Ki .u8) 55 (Vs (some q7, 4, 4)) r16), ⟨.pointer (some wa0), [(Vl (.slice none 0 0)), (Vl (.int .i64 a0_1)), (Vl (.int .i8 a0_2))], 50, none⟩]) (fun _ => rfl) rfl rfl) (pick_cons rfl pick_nil) rfl bl_nil (wt_none' rfl) fun ⟨⟩ => ?_
  refine px_nil' ?_
  show TX E K3 _
  refine tx_k' hK3 ?_
  refine cx_seq' fun K4 hK4 => ?_
  refine cx_plan' [] [(5, 2)] [(0, 1), (1, 1), (2, 1), (3, 1), (4, 1), (5, 0), (6, 1), (7, 1), (8, 1), (9, 1), (10, 1)] mixed (by kernel_rfl) ?_
  refine px_rd' rfl (rd_move' rfl) rfl rfl (wt_none' rfl) ?_
  refine px_rd' rfl (rd_cut_arr' (q := q7) rfl Tryd.underlying55 info5) rfl rfl (wt_none' rfl) ?_
  refine px_rd' rfl (rd_mkmeth' rfl) rfl rfl (wt_none' rfl) ?_
  refine px_rd' rfl (rd_nilck_mf' rfl (fun _ _ v hv w => by rw [show v = _ from hv]; exact nla32_Write_ptr _ w)) rfl rfl (wt_none' rfl) ?_
  refine px_rd' rfl (rd_move' rfl) rfl rfl (wt_none' rfl) ?_
  obtain ⟨r23, hr23, hp⟩ := bind_some hp
  refine px_ox' rfl (ox_brwg' (frz_row 0 [(11, (Vl (Vs (some q7, 4, 4))), (Sl (Ki .u8) r16)), (19, (Vl (Vs (some q7, 4, 4))), (Sl (Ki .u8) r16))] (K := (Ki .u8)) (xs := r16) (by decide) rfl ⟨⟨rfl, frz_it⟩, ⟨rfl, frz_it⟩, trivial⟩ (H' := [⟨.pointer (some wa0), [(Vl (.slice none 0 0)), (Vl (.int .i64 a0_1)), (Vl (.int .i8 a0_2))], 50, none⟩]) frzH_refl) (ent_inv' rfl rfl (inv_any1 inv32_Write)) (bytes_Buffer_Write_sim _ _ _ hr23 : Go.Sx.Fn Tryd.prog 38 [(Vl (.pointer (some wa0))), (Sl (Ki .u8) r16)] [⟨.pointer (some wa0), [(Vl (.slice none 0 0)), (Vl (.int .i64 a0_1)), (Vl (.int .i8 a0_2))], 50, none⟩] (fun x : Gs => (Tu [(Vl (.int .i64 r23.2.2.2)), (Vl .nilIface)])) (fun x => [⟨.pointer (some wa0), [(Vl (Vs x)), (Vl (.int .i64 r23.2.1)), (Vl (.int .i8 r23.2.2.1))], 50, none⟩, (Rw (Ki .u8) 5 (Vs x) r23.1)])) [1] [0] [0] (pick_cons rfl pick_nil) (by decide) (by decide) (pick_cons rfl pick_nil) (pick_cons rfl pick_nil) (Hn := fun x : Gs => [⟨.pointer (some wa0), [(Vl (Vs x)), (Vl (.int .i64 r23.2.1)), (Vl (.int .i8 r23.2.2.1))], 50, none⟩, (Rw (Ki .u8) 5 (Vs x) r23.1), (Rw (Ki .u8) 55 (Vs (some q7, 4, 4)) r16)]) (fun _ => rfl) (fun _ => (pu_tu ⟨pu_vl, pu_vl, trivial⟩)) (fun _ => ⟨⟨pu_vl, pu_vl, pu_vl, trivial⟩, puL_flat pu_ki _, trivial⟩) rfl rfl) rfl bs_nil (wt_none' rfl) fun g23 => ?_
  refine px_rd' rfl (rd_move' rfl) rfl rfl (wt_none' rfl) ?_
  refine px_rd' rfl (rd_extract' rfl rfl) rfl rfl (wt_none' rfl) ?_
  refine px_rd' rfl (rd_extract' rfl rfl) rfl rfl (wt_none' rfl) ?_
  refine px_rd' rfl (rd_assign' rfl) rfl rfl (wt_none' rfl) ?_
  refine px_rd' rfl (rd_assign' rfl) rfl rfl (wt_none' rfl) ?_
  refine px_nil' ?_
  show TX E K4 _
  refine tx_k' hK4 ?_
  refine cx_seq' fun K5 hK5 => ?_
  refine cx_region' ?_
  refine sx_rd' (rd_move' rfl) rfl rfl (wt_none' rfl) ?_
  refine sx_rd' (rd_assign' rfl) rfl rfl (wt_none' rfl) ?_
  refine sx_nil' ?_
  show TX E K5 _
  refine tx_k' hK5 ?_
  refine cx_retc' ?_
  replace hp := Option.some.inj hp
  subst hp
  refine tx_pick' (L' := [(6, (Vl .nilIface))]) (H' := [⟨.pointer (some wa0), [(Vl (Vs g23)), (Vl (.int .i64 r23.2.1)), (Vl (.int .i8 r23.2.2.1))], 50, none⟩, (Rw (Ki .u8) 5 (Vs g23) r23.1)]) [0, 1] (sub_cons rfl sub_nil) (by decide) (pick_cons rfl (pick_cons rfl pick_nil)) ?_
  exact tx_ret1' Tryd.results16 rfl g23 (rv_tmp' rfl) (List.Sublist.refl _)

def bytes_Buffer_Bytes (k : Nat) (a0_0 : List Int) (a0_1 : Int) (a0_2 : Int) : Option ((List Int) × Int × Int × (List Int)) :=
  (cut a0_0 a0_1 (a0_0.length : Int)) >>= fun r11 =>
  some (a0_0, a0_1, a0_2, r11)

theorem bytes_Buffer_Bytes_sim {k : Nat} {wa0 : Addr} {wa0_0 : Gs} (a0_0 : List Int) (a0_1 : Int) (a0_2 : Int) {out : (List Int) × Int × Int × (List Int)} (hp : bytes_Buffer_Bytes k a0_0 a0_1 a0_2 = some out) : Go.Sx.Fn Tryd.prog 17 [(Vl (.pointer (some wa0)))] [⟨.pointer (some wa0), [(Vl (Vs wa0_0)), (Vl (.int .i64 a0_1)), (Vl (.int .i8 a0_2))], 50, none⟩, (Rw (Ki .u8) 5 (Vs wa0_0) a0_0)] (fun w : Unit => (Sl (Ki .u8) out.2.2.2)) (fun w => [⟨.pointer (some wa0), [(Sl (Ki .u8) out.1), (Vl (.int .i64 out.2.1)), (Vl (.int .i8 out.2.2.1))], 50, none⟩]) := by
  unfold bytes_Buffer_Bytes at hp
  refine fn_of Tryd.func17 rfl Tryd.ntmps17 rfl fun E hM => ?_
  refine cx_seq' fun K1 hK1 => ?_
  refine cx_region' ?_
  refine sx_rd' (rd_assign' rfl) rfl rfl (wt_none' rfl) ?_
  refine sx_nil' ?_
  show TX E K1 _
  refine tx_k' hK1 ?_
  refine cx_seq' fun K2 hK2 => ?_
  refine cx_draw' mixed (by kernel_rfl) ?_
  refine qx_rd' (rd_move' rfl) rfl rfl (wt_none' rfl) ?_
  refine qx_rd' (rd_nilck' rfl) rfl rfl (wt_none' rfl) ?_
  refine qx_rd' (rd_field0' rfl Tryd.underlying50 rfl info22 rfl) rfl rfl (wt_none' rfl) ?_
  refine qx_rd' (rd_load' (i := 0) (o := 0) rfl ⟨rfl, rfl, rfl, rfl⟩ rfl flat22) rfl rfl (wt_none' rfl) ?_
  refine qx_rd' (rd_move' rfl) rfl rfl (wt_none' rfl) ?_
  refine qx_rd' (rd_nilck' rfl) rfl rfl (wt_none' rfl) ?_
  refine qx_rd' (rd_field' (off := 1) rfl Tryd.underlying50 rfl info3 rfl) rfl rfl (wt_none' rfl) ?_
  refine qx_rd' (rd_load' (i := 0) (o := 1) rfl ⟨rfl, rfl, rfl, rfl⟩ rfl flat3) rfl rfl (wt_none' rfl) ?_
  refine qx_fz' (frz_row 1 [(6, (Vl (Vs wa0_0)), (Sl (Ki .u8) a0_0))] (K := (Ki .u8)) (xs := a0_0) (by decide) rfl ⟨⟨rfl, frz_it⟩, trivial⟩ (H' := [⟨.pointer (some wa0), [(Sl (Ki .u8) a0_0), (Vl (.int .i64 a0_1)), (Vl (.int .i8 a0_2))], 50, none⟩]) (frzH_cons rfl rfl rfl (frzL_cons frz_it (frzL_cons frz_same (frzL_cons frz_same frzL_refl))) frzH_refl)) ?_
  obtain ⟨r11, hr11, hp⟩ := bind_some hp
  refine qx_rd' (rd_cut_l' rfl rfl hr11 Tryd.underlying22 info5) rfl rfl (wt_none' rfl) ?_
  refine qx_rd' (rd_assign' rfl) rfl rfl (wt_none' rfl) ?_
  refine qx_nil' ?_
  show TX E K2 _
  refine tx_k' hK2 ?_
  refine cx_retc' ?_
  replace hp := Option.some.inj hp
  subst hp
  refine tx_pick' (L' := [(2, (Sl (Ki .u8) r11))]) (H' := [⟨.pointer (some wa0), [(Sl (Ki .u8) a0_0), (Vl (.int .i64 a0_1)), (Vl (.int .i8 a0_2))], 50, none⟩]) [0] (sub_cons rfl sub_nil) (by decide) (pick_cons rfl pick_nil) ?_
  exact tx_ret1' Tryd.results17 rfl () (rv_tmp' rfl) (List.Sublist.refl _)

def binary_littleEndian_PutUint32 (k : Nat) (a1 : List Int) (a2 : Int) : Option ((List Int)) :=
  (idx a1 3) >>= fun r7 =>
  (idx a1 0) >>= fun r12 =>
  (ishr .u32 a2 8) >>= fun r15 =>
  (idx (a1.set (0 : Int).toNat (icv .u8 a2)) 1) >>= fun r17 =>
  (ishr .u32 a2 16) >>= fun r20 =>
  (idx ((a1.set (0 : Int).toNat (icv .u8 a2)).set (1 : Int).toNat (icv .u8 r15)) 2) >>= fun r22 =>
  (ishr .u32 a2 24) >>= fun r25 =>
  (idx (((a1.set (0 : Int).toNat (icv .u8 a2)).set (1 : Int).toNat (icv .u8 r15)).set (2 : Int).toNat (icv .u8 r20)) 3) >>= fun r27 =>
  some ((((a1.set (0 : Int).toNat (icv .u8 a2)).set (1 : Int).toNat (icv .u8 r15)).set (2 : Int).toNat (icv .u8 r20)).set (3 : Int).toNat (icv .u8 r25))

theorem binary_littleEndian_PutUint32_sim {k : Nat} {wa1 : Addr} (a1 : List Int) (a2 : Int) {out : (List Int)} (hp : binary_littleEndian_PutUint32 k a1 a2 = some out) : Go.Sx.Fn Tryd.prog 54 [(Ag []), (Vl (Vs (some wa1, 4, 4))), (Vl (.int .u32 a2))] [(Rw (Ki .u8) 55 (Vs (some wa1, 4, 4)) a1)] (fun w : Unit => (Vl (.tuple #[]))) (fun w => [(Rw (Ki .u8) 55 (Vs (some wa1, 4, 4)) out)]) := by
  unfold binary_littleEndian_PutUint32 at hp
  refine fn_of Tryd.func54 rfl Tryd.ntmps54 rfl fun E hM => ?_
  refine cx_seq' fun K1 hK1 => ?_
  refine cx_region' ?_
  refine sx_ox' (ox_box' rfl (lv_ag _) rfl rfl) (wt_none' rfl) fun q3 => ?_
  refine sx_nil' ?_
  show TX E K1 _
  refine tx_k' hK1 ?_
  refine cx_seq' fun K2 hK2 => ?_
  refine cx_region' ?_
  refine sx_rd' (rd_move' rfl) rfl rfl (wt_none' rfl) ?_
  obtain ⟨r7, hr7, hp⟩ := bind_some hp
  refine sx_rd' (rd_atr' (m := 1) rfl rfl rfl rfl hr7 Tryd.underlying22 info5) rfl rfl (wt_none' rfl) ?_
  refine sx_rd' (rd_loadr' rfl (m := 1) (i := 3) (j := 0) rfl rfl hr7 rfl rfl flat5) rfl rfl (wt_none' rfl) ?_
  refine sx_nil' ?_
  show TX E K2 _
  refine tx_k' hK2 ?_
  refine cx_seq' fun K3 hK3 => ?_
  refine cx_region' ?_
  refine sx_rd' (rd_move' rfl) rfl rfl (wt_none' rfl) ?_
  refine sx_rd' (rd_move' rfl) rfl rfl (wt_none' rfl) ?_
  refine sx_rd' (rd_conv' rfl (ru_i2i (by rw [Tryd.underlying23]; rfl) Tryd.underlying5)) rfl rfl (wt_none' rfl) ?_
  obtain ⟨r12, hr12, hp⟩ := bind_some hp
  refine sx_rd' (rd_atr' (m := 1) rfl rfl rfl rfl hr12 Tryd.underlying22 info5) rfl rfl (wt_none' rfl) ?_
  refine sx_ox' (ox_storer' (m := 1) (i := 0) (j := 0) (x' := (icv .u8 a2)) rfl rfl (lv_vl rfl rfl) rfl rfl hr12 rfl rfl rfl info5 rfl (H' := [⟨.pointer (some q3), [], 61, none⟩, (Rw (Ki .u8) 55 (Vs (some wa1, 4, 4)) (a1.set (0 : Int).toNat (icv .u8 a2)))]) rfl) (wt_none' rfl) fun _ => ?_
  refine sx_nil' ?_
  show TX E K3 _
  refine tx_k' hK3 ?_
  refine cx_seq' fun K4 hK4 => ?_
  refine cx_region' ?_
  refine sx_rd' (rd_move' rfl) rfl rfl (wt_none' rfl) ?_
  refine sx_rd' (rd_move' rfl) rfl rfl (wt_none' rfl) ?_
  obtain ⟨r15, hr15, hp⟩ := bind_some hp
  refine sx_rd' (rd_bin' rfl rfl eg_int (ru_shr hr15)) rfl rfl (wt_none' rfl) ?_
  refine sx_rd' (rd_conv' rfl (ru_i2i (by rw [Tryd.underlying23]; rfl) Tryd.underlying5)) rfl rfl (wt_none' rfl) ?_
  obtain ⟨r17, hr17, hp⟩ := bind_some hp
  refine sx_rd' (rd_atr' (m := 1) rfl rfl rfl rfl hr17 Tryd.underlying22 info5) rfl rfl (wt_none' rfl) ?_
  refine sx_ox' (ox_storer' (m := 1) (i := 1) (j := 0) (x' := (icv .u8 r15)) rfl rfl (lv_vl rfl rfl) rfl rfl hr17 rfl rfl rfl info5 rfl (H' := [⟨.pointer (some q3), [], 61, none⟩, (Rw (Ki .u8) 55 (Vs (some wa1, 4, 4)) ((a1.set (0 : Int).toNat (icv .u8 a2)).set (1 : Int).toNat (icv .u8 r15)))]) rfl) (wt_none' rfl) fun _ => ?_
  refine sx_nil' ?_
  show TX E K4 _
  refine tx_k' hK4 ?_
  refine cx_seq' fun K5 hK5 => ?_
  refine cx_region' ?_
  refine sx_rd' (rd_move' rfl) rfl rfl (wt_none' rfl) ?_
  refine sx_rd' (rd_move' rfl) rfl rfl (wt_none' rfl) ?_
  obtain ⟨r20, hr20, hp⟩ := bind_some hp
  refine sx_rd' (rd_bin' rfl rfl eg_int (ru_shr hr20)) rfl rfl (wt_none' rfl) ?_
  refine sx_rd' (rd_conv' rfl (ru_i2i (by rw [Tryd.underlying23]; rfl) Tryd.underlying5)) rfl rfl (wt_none' rfl) ?_
  obtain ⟨r22, hr22, hp⟩ := bind_some hp
  refine sx_rd' (rd_atr' (m := 1) rfl rfl rfl rfl hr22 Tryd.underlying22 info5) rfl rfl (wt_none' rfl) ?_
  refine sx_ox' (ox_storer' (m := 1) (i := 2) (j := 0) (x' := (icv .u8 r20)) rfl rfl (lv_vl rfl rfl) rfl rfl hr22 rfl rfl rfl info5 rfl (H' := [⟨.pointer (some q3), [], 61, none⟩, (Rw (Ki .u8) 55 (Vs (some wa1, 4, 4)) (((a1.set (0 : Int).toNat (icv .u8 a2)).set (1 : Int).toNat (icv .u8 r15)).set (2 : Int).toNat (icv .u8 r20)))]) rfl) (wt_none' rfl) fun _ => ?_
  refine sx_nil' ?_
  show TX E K5 _
  refine tx_k' hK5 ?_
  refine cx_region' ?_
  refine sx_rd' (rd_move' rfl) rfl rfl (wt_none' rfl) ?_
  refine sx_rd' (rd_move' rfl) rfl rfl (wt_none' rfl) ?_
  obtain ⟨r25, hr25, hp⟩ := bind_some hp
  refine sx_rd' (rd_bin' rfl rfl eg_int (ru_shr hr25)) rfl rfl (wt_none' rfl) ?_
  refine sx_rd' (rd_conv' rfl (ru_i2i (by rw [Tryd.underlying23]; rfl) Tryd.underlying5)) rfl rfl (wt_none' rfl) ?_
  obtain ⟨r27, hr27, hp⟩ := bind_some hp
  refine sx_rd' (rd_atr' (m := 1) rfl rfl rfl rfl hr27 Tryd.underlying22 info5) rfl rfl (wt_none' rfl) ?_
  refine sx_ox' (ox_storer' (m := 1) (i := 3) (j := 0) (x' := (icv .u8 r25)) rfl rfl (lv_vl rfl rfl) rfl rfl hr27 rfl rfl rfl info5 rfl (H' := [⟨.pointer (some q3), [], 61, none⟩, (Rw (Ki .u8) 55 (Vs (some wa1, 4, 4)) ((((a1.set (0 : Int).toNat (icv .u8 a2)).set (1 : Int).toNat (icv .u8 r15)).set (2 : Int).toNat (icv .u8 r20)).set (3 : Int).toNat (icv .u8 r25)))]) rfl) (wt_none' rfl) fun _ => ?_
  refine sx_nil' ?_
  replace hp := Option.some.inj hp
  subst hp
  refine tx_pick' (L' := []) (H' := [(Rw (Ki .u8) 55 (Vs (some wa1, 4, 4)) ((((a1.set (0 : Int).toNat (icv .u8 a2)).set (1 : Int).toNat (icv .u8 r15)).set (2 : Int).toNat (icv .u8 r20)).set (3 : Int).toNat (icv .u8 r25)))]) [1] sub_nil (by decide) (pick_cons rfl pick_nil) ?_
  exact tx_end0' Tryd.results54 rfl () rfl (List.Sublist.refl _)

def wkbcommon_WriteUInt32_v2 (k : Nat) (a0_1 : Int) (a0_2 : Int) (a2 : Int) : Option ((List Int) × Int × Int) :=
  (binary_littleEndian_PutUint32 k ([0, 0, 0, 0]) a2) >>= fun r16 =>
  (bytes_Buffer_Write k a0_1 a0_2 r16) >>= fun r23 =>
  some (r23.1, r23.2.1, r23.2.2.1)

theorem wkbcommon_WriteUInt32_v2_sim {k : Nat} {wa0 : Addr} (a0_1 : Int) (a0_2 : Int) (a2 : Int) {out : (List Int) × Int × Int} (hp : wkbcommon_WriteUInt32_v2 k a0_1 a0_2 a2 = some out) : Go.Sx.Fn Tryd.prog 16 [(If 32 (Vl (.pointer (some wa0)))), (If 61 (Ag [])), (Vl (.int .u32 a2))] [⟨.pointer (some wa0), [(Vl (.slice none 0 0)), (Vl (.int .i64 a0_1)), (Vl (.int .i8 a0_2))], 50, none⟩] (fun w : Gs => (Vl .nilIface)) (fun w => [⟨.pointer (some wa0), [(Vl (Vs w)), (Vl (.int .i64 out.2.1)), (Vl (.int .i8 out.2.2))], 50, none⟩, (Rw (Ki .u8) 5 (Vs w) out.1)]) := by
  unfold wkbcommon_WriteUInt32_v2 at hp
  refine fn_of Tryd.func16 rfl Tryd.ntmps16 rfl fun E hM => ?_
  refine cx_seq' fun K1 hK1 => ?_
  refine cx_region' ?_
  refine sx_rd' (rd_assign' rfl) rfl rfl (wt_none' rfl) ?_
  refine sx_nil' ?_
  show TX E K1 _
  refine tx_k' hK1 ?_
  refine cx_seq' fun K2 hK2 => ?_
  refine cx_region' ?_
  refine sx_ox' (ox_alloc' info55 rfl rfl rfl rfl (l := [(Vl (.int .u8 0)), (Vl (.int .u8 0)), (Vl (.int .u8 0)), (Vl (.int .u8 0))]) rfl) (wt_none' rfl) fun q7 => ?_
  refine tx_arr' (K := (Ki .u8)) (xs := [0, 0, 0, 0]) (m := 4) (i := 0) rfl rfl rfl (H' := [(Rw (Ki .u8) 55 (Vs (some q7, 4, 4)) ([0, 0, 0, 0])), ⟨.pointer (some wa0), [(Vl (.slice none 0 0)), (Vl (.int .i64 a0_1)), (Vl (.int .i8 a0_2))], 50, none⟩]) rfl ?_
  refine sx_nil' ?_
  show TX E K2 _
  refine tx_k' hK2 ?_
  refine cx_seq' fun K3 hK3 => ?_
  refine cx_plan' [] [(6, 1)] [(0, 1), (1, 1), (2, 1), (3, 1), (4, 1), (5, 1), (6, 0)] mixed (by kernel_rfl) ?_
  refine px_rd' rfl (rd_move' rfl) rfl rfl (wt_none' rfl) ?_
  refine px_rd' rfl (rd_cut_arr' (q := q7) rfl Tryd.underlying55 info5) rfl rfl (wt_none' rfl) ?_
  refine px_rd' rfl (rd_move' rfl) rfl rfl (wt_none' rfl) ?_
  refine px_rd' rfl (rd_mkmeth' rfl) rfl rfl (wt_none' rfl) ?_
  refine px_rd' rfl (rd_nilck_mf' rfl (fun _ _ v _ w => nla61_PutUint32_ag v w)) rfl rfl (wt_none' rfl) ?_
  refine px_rd' rfl (rd_move' rfl) rfl rfl (wt_none' rfl) ?_
  obtain ⟨r16, hr16, hp⟩ := bind_some hp
  refine px_oxb' (is := [0]) rfl (oxb_callg (ent_inv' rfl rfl (inv_any2 inv61_PutUint32)) (binary_littleEndian_PutUint32_sim _ _ hr16 : Go.Sx.Fn Tryd.prog 54 [(Ag []), (Vl (Vs (some q7, 4, 4))), (Vl (.int .u32 a2))] [(Rw (Ki .u8) 55 (Vs (some q7, 4, 4)) ([0, 0, 0, 0]))] (fun x : Unit => (Vl (.tuple #[]))) (fun x => [(Rw (Ki .u8) 55 (Vs (some q7, 4, 4)) r16)])) [0] [1] (by decide) (pick_cons rfl pick_nil) (pick_cons rfl pick_nil) (Hn := fun x : Unit => [(Rw (Ki .u8) 55 (Vs (some q7, 4, 4)) r16), ⟨.pointer (some wa0), [(Vl (.slice none 0 0)), (Vl (.int .i64 a0_1)), (Vl (.int .i8 a0_2))], 50, none⟩]) (fun _ => rfl) rfl rfl) (pick_cons rfl pick_nil) rfl bl_nil (wt_none' rfl) fun ⟨⟩ => ?_
  refine px_nil' ?_
  show TX E K3 _
  refine tx_k' hK3 ?_
  refine cx_seq' fun K4 hK4 => ?_
  refine cx_plan' [] [(5, 2)] [(0, 1), (1, 1), (2, 1), (3, 1), (4, 1), (5, 0), (6, 1), (7, 1), (8, 1), (9, 1), (10, 1)] mixed (by kernel_rfl) ?_
  refine px_rd' rfl (rd_move' rfl) rfl rfl (wt_none' rfl) ?_
  refine px_rd' rfl (rd_cut_arr' (q := q7) rfl Tryd.underlying55 info5) rfl rfl (wt_none' rfl) ?_
  refine px_rd' rfl (rd_mkmeth' rfl) rfl rfl (wt_none' rfl) ?_
  refine px_rd' rfl (rd_nilck_mf' rfl (fun _ _ v hv w => by rw [show v = _ from hv]; exact nla32_Write_ptr _ w)) rfl rfl (wt_none' rfl) ?_
  refine px_rd' rfl (rd_move' rfl) rfl rfl (wt_none' rfl) ?_
  obtain ⟨r23, hr23, hp⟩ := bind_some hp
  refine px_ox' rfl (ox_brwg' (frz_row 0 [(11, (Vl (Vs (some q7, 4, 4))), (Sl (Ki .u8) r16)), (19, (Vl (Vs (some q7, 4, 4))), (Sl (Ki .u8) r16))] (K := (Ki .u8)) (xs := r16) (by decide) rfl ⟨⟨rfl, frz_it⟩, ⟨rfl, frz_it⟩, trivial⟩ (H' := [⟨.pointer (some wa0), [(Vl (.slice none 0 0)), (Vl (.int .i64 a0_1)), (Vl (.int .i8 a0_2))], 50, none⟩]) frzH_refl) (ent_inv' rfl rfl (inv_any1 inv32_Write)) (bytes_Buffer_Write_sim _ _ _ hr23 : Go.Sx.Fn Tryd.prog 38 [(Vl (.pointer (some wa0))), (Sl (Ki .u8) r16)] [⟨.pointer (some wa0), [(Vl (.slice none 0 0)), (Vl (.int .i64 a0_1)), (Vl (.int .i8 a0_2))], 50, none⟩] (fun x : Gs => (Tu [(Vl (.int .i64 r23.2.2.2)), (Vl .nilIface)])) (fun x => [⟨.pointer (some wa0), [(Vl (Vs x)), (Vl (.int .i64 r23.2.1)), (Vl (.int .i8 r23.2.2.1))], 50, none⟩, (Rw (Ki .u8) 5 (Vs x) r23.1)])) [1] [0] [0] (pick_cons rfl pick_nil) (by decide) (by decide) (pick_cons rfl pick_nil) (pick_cons rfl pick_nil) (Hn := fun x : Gs => [⟨.pointer (some wa0), [(Vl (Vs x)), (Vl (.int .i64 r23.2.1)), (Vl (.int .i8 r23.2.2.1))], 50, none⟩, (Rw (Ki .u8) 5 (Vs x) r23.1), (Rw (Ki .u8) 55 (Vs (some q7, 4, 4)) r16)]) (fun _ => rfl) (fun _ => (pu_tu ⟨pu_vl, pu_vl, trivial⟩)) (fun _ => ⟨⟨pu_vl, pu_vl, pu_vl, trivial⟩, puL_flat pu_ki _, trivial⟩) rfl rfl) rfl bs_nil (wt_none' rfl) fun g23 => ?_
  refine px_rd' rfl (rd_move' rfl) rfl rfl (wt_none' rfl) ?_
  refine px_rd' rfl (rd_extract' rfl rfl) rfl rfl (wt_none' rfl) ?_
  refine px_rd' rfl (rd_extract' rfl rfl) rfl rfl (wt_none' rfl) ?_
  refine px_rd' rfl (rd_assign' rfl) rfl rfl (wt_none' rfl) ?_
  refine px_rd' rfl (rd_assign' rfl) rfl rfl (wt_none' rfl) ?_
  refine px_nil' ?_
  show TX E K4 _
  refine tx_k' hK4 ?_
  refine cx_seq' fun K5 hK5 => ?_
  refine cx_region' ?_
  refine sx_rd' (rd_move' rfl) rfl rfl (wt_none' rfl) ?_
  refine sx_rd' (rd_assign' rfl) rfl rfl (wt_none' rfl) ?_
  refine sx_nil' ?_
  show TX E K5 _
  refine tx_k' hK5 ?_
  refine cx_retc' ?_
  replace hp := Option.some.inj hp
  subst hp
  refine tx_pick' (L' := [(6, (Vl .nilIface))]) (H' := [⟨.pointer (some wa0), [(Vl (Vs g23)), (Vl (.int .i64 r23.2.1)), (Vl (.int .i8 r23.2.2.1))], 50, none⟩, (Rw (Ki .u8) 5 (Vs g23) r23.1)]) [0, 1] (sub_cons rfl sub_nil) (by decide) (pick_cons rfl (pick_cons rfl pick_nil)) ?_
  exact tx_ret1' Tryd.results16 rfl g23 (rv_tmp' rfl) (List.Sublist.refl _)

def impl_WriteUint32 (k : Nat) (a0 : Int) (a1 : Bool) : Option ((List Int) × Bool) :=
  (wkbcommon_DoorOrder k a1) >>= fun r11 =>
  match r11 with
    | (.inl y1) =>
      ((wkbcommon_WriteUInt32 k 0 0 a0) >>= fun r13 =>
      (bytes_Buffer_Bytes k r13.1 r13.2.1 r13.2.2) >>= fun r14 =>
      some (r14.2.2.2, true))
    | (.inr y1) =>
      ((wkbcommon_WriteUInt32_v2 k 0 0 a0) >>= fun r13 =>
      (bytes_Buffer_Bytes k r13.1 r13.2.1 r13.2.2) >>= fun r14 =>
      some (r14.2.2.2, true))

theorem impl_WriteUint32_sim {k : Nat}  (a0 : Int) (a1 : Bool) {out : (List Int) × Bool} (hp : impl_WriteUint32 k a0 a1 = some out) : Go.Sx.Fn Tryd.prog 8 [(Vl (.int .u32 a0)), (Vl (.bool a1))] [] (fun w : Unit => (Tu [(Sl (Ki .u8) out.1), (Vl (.bool out.2))])) (fun w => []) := by
  unfold impl_WriteUint32 at hp
  refine fnD_of Tryd.func8 rfl Tryd.ntmps8 rfl fun E hM => ?_
  refine cx_seq' fun K1 hK1 => ?_
  refine cx_region' ?_
  refine sx_ox' (ox_alloc' info22 rfl rfl rfl rfl (l := [(Vl (.slice none 0 0))]) rfl) (wt_none' rfl) fun q4 => ?_
  refine sx_ox' (ox_alloc' info4 rfl rfl rfl rfl (l := [(Vl (.bool false))]) rfl) (wt_none' rfl) fun q5 => ?_
  refine sx_nil' ?_
  show TX E K1 _
  refine tx_k' hK1 ?_
  refine cx_seq' fun K2 hK2 => ?_
  refine cx_region' ?_
  refine sx_rd' (rd_mkfunc' (us := [.pointer (some q4), .pointer (some q5)]) rfl) rfl rfl (wt_none' rfl) ?_
  refine sx_ox' (ox_defer' rfl rfl) (wt_none' rfl) fun _ => ?_
  refine sx_nil' ?_
  show TX E K2 _
  refine tx_k' hK2 ?_
  refine cx_seq' fun K3 hK3 => ?_
  refine cx_region' ?_
  refine sx_ox' (ox_alloc' info50 rfl rfl rfl rfl (l := [(Vl (.slice none 0 0)), (Vl (.int .i64 0)), (Vl (.int .i8 0))]) rfl) (wt_none' rfl) fun q6 => ?_
  refine sx_nil' ?_
  show TX E K3 _
  refine tx_k' hK3 ?_
  refine cx_seq' fun K4 hK4 => ?_
  refine cx_region' ?_
  refine sx_rd' (rd_iface' rfl ⟨_, Tryd.underlying32, fun _ h => (nomatch h)⟩) rfl rfl (wt_none' rfl) ?_
  refine sx_rd' (rd_move' rfl) rfl rfl (wt_none' rfl) ?_
  obtain ⟨r11, hr11, hp⟩ := bind_some hp
  rcases r11 with y1 | y1
  · dsimp only at hp
    refine sx_ox' (ox_calln' (ent_fn' Tryd.func12 isn12 rfl rfl) (wkbcommon_DoorOrder_sim _ hr11 : Go.Sx.Fn Tryd.prog 12 [(Vl (.bool a1))] [] (fun x : Unit => (If 60 (Ag []))) (fun x => [])) (Hn := fun x : Unit => [⟨.pointer (some q6), [(Vl (.slice none 0 0)), (Vl (.int .i64 0)), (Vl (.int .i8 0))], 50, none⟩, ⟨.pointer (some q5), [(Vl (.bool false))], 4, none⟩, ⟨.pointer (some q4), [(Vl (.slice none 0 0))], 22, none⟩]) (fun _ => rfl) rfl rfl) (wt_none' rfl) fun ⟨⟩ => ?_
    refine sx_rd' (rd_move' rfl) rfl rfl (wt_none' rfl) ?_
    obtain ⟨r13, hr13, hp⟩ := bind_some hp
    refine sx_ox' (ox_callg' (ent_fn' Tryd.func16 isn16 rfl rfl) (wkbcommon_WriteUInt32_sim _ _ _ hr13 : Go.Sx.Fn Tryd.prog 16 [(If 32 (Vl (.pointer (some q6)))), (If 60 (Ag [])), (Vl (.int .u32 a0))] [⟨.pointer (some q6), [(Vl (.slice none 0 0)), (Vl (.int .i64 0)), (Vl (.int .i8 0))], 50, none⟩] (fun x : Gs => (Vl .nilIface)) (fun x => [⟨.pointer (some q6), [(Vl (Vs x)), (Vl (.int .i64 r13.2.1)), (Vl (.int .i8 r13.2.2))], 50, none⟩, (Rw (Ki .u8) 5 (Vs x) r13.1)])) [0] [1, 2] (by decide) (pick_cons rfl pick_nil) (pick_cons rfl (pick_cons rfl pick_nil)) (Hn := fun x : Gs => [⟨.pointer (some q6), [(Vl (Vs x)), (Vl (.int .i64 r13.2.1)), (Vl (.int .i8 r13.2.2))], 50, none⟩, (Rw (Ki .u8) 5 (Vs x) r13.1), ⟨.pointer (some q5), [(Vl (.bool false))], 4, none⟩, ⟨.pointer (some q4), [(Vl (.slice none 0 0))], 22, none⟩]) (fun _ => rfl) rfl rfl) (wt_none' rfl) fun g13 => ?_
    refine sx_rd' (rd_assign' rfl) rfl rfl (wt_none' rfl) ?_
    refine sx_nil' ?_
    show TX E K4 _
    refine tx_k' hK4 ?_
    refine cx_seq' fun K5 hK5 => ?_
    refine cx_plana' [] [(0, 1), (3, 1), (4, 1)] [(1, 2)] 4 #[false, true, false, false, false] mixed (by kernel_rfl) ?_
    refine px_rb' rfl (rb_move' rfl) rfl rfl (wt_none' rfl) ?_
    refine px_nil' ?_
    show AX E _ _ _ _ _ _ _ _
    obtain ⟨r14, hr14, hp⟩ := bind_some hp
    refine ax_node (f' := 0) #[true, true, true, true, true] (fun (v6 : Unit) => (⟨17, [⟨.fn (.func 15) ⟨[.pointer (some q4), .pointer (some q5)]⟩, #[]⟩], [(4, (Vl (.pointer (some q4)))), (5, (Vl (.pointer (some q5))))], [⟨.pointer (some q4), [(Sl (Ki .u8) r14.2.2.2)], 22, none⟩, ⟨.pointer (some q5), [(Vl (.bool true))], 4, none⟩]⟩ : St)) ?_ ?_
    · rintro ⟨⟩
      refine ax_nil (by kernel_rfl) ?_
      show TX E K5 _
      refine tx_k' hK5 ?_
      refine cx_retc' ?_
      replace hp := Option.some.inj hp
      subst hp
      refine tx_leave' (.inl rfl) rfl idle15 rfl Tryd.func15 isn15 rfl ?_
      refine tx_pick' (L' := [(4, (Vl (.pointer (some q4)))), (5, (Vl (.pointer (some q5))))]) (H' := [⟨.pointer (some q4), [(Sl (Ki .u8) r14.2.2.2)], 22, none⟩, ⟨.pointer (some q5), [(Vl (.bool true))], 4, none⟩]) [0, 1] (sub_cons rfl (sub_cons rfl sub_nil)) (by decide) (pick_cons rfl (pick_cons rfl pick_nil)) ?_
      exact tx_ret2' Tryd.results8 rfl () (rv_cell' (i := 0) (o := 0) rfl ⟨rfl, rfl, rfl, rfl⟩ rfl flat22) (rv_cell' (i := 1) (o := 0) rfl ⟨rfl, rfl, rfl, rfl⟩ rfl flat4) rfl (List.nil_sublist _)
    intro hN7
    refine ax_node (f' := 1) #[true, true, true, true, false] (fun (v5 : Unit) => (⟨17, [⟨.fn (.func 15) ⟨[.pointer (some q4), .pointer (some q5)]⟩, #[]⟩], [(4, (Vl (.pointer (some q4)))), (5, (Vl (.pointer (some q5)))), (16, (Vl (.bool true)))], [⟨.pointer (some q4), [(Sl (Ki .u8) r14.2.2.2)], 22, none⟩, ⟨.pointer (some q5), [(Vl (.bool false))], 4, none⟩]⟩ : St)) ?_ ?_
    · rintro ⟨⟩
      refine ax_all (i := 4) (is := []) (by kernel_rfl) (all_cons ?_ all_nil)
      · refine nx_oxv (last := #[true, true, true, true, true]) rfl (oxv_store (i := 1) (o := 0) rfl rfl (lv_vl rfl rfl) ⟨rfl, rfl, rfl, rfl⟩ rfl info4 rfl (H' := [⟨.pointer (some q4), [(Sl (Ki .u8) r14.2.2.2)], 22, none⟩, ⟨.pointer (some q5), [(Vl (.bool true))], 4, none⟩]) rfl) rfl rfl bo_nil (wt_none' rfl) rfl fun _ => ?_
        exact tx_pick' [0, 1] (sub_cons rfl (sub_cons rfl sub_nil)) (by decide) (pick_cons rfl (pick_cons rfl pick_nil)) (hN7 ())
    intro hN6
    refine ax_node (f' := 2) #[true, true, true, false, false] (fun (v3 : Unit) => (⟨17, [⟨.fn (.func 15) ⟨[.pointer (some q4), .pointer (some q5)]⟩, #[]⟩], [(4, (Vl (.pointer (some q4)))), (5, (Vl (.pointer (some q5)))), (14, (Sl (Ki .u8) r14.2.2.2)), (16, (Vl (.bool true)))], [⟨.pointer (some q4), [(Vl (.slice none 0 0))], 22, none⟩, ⟨.pointer (some q5), [(Vl (.bool false))], 4, none⟩]⟩ : St)) ?_ ?_
    · rintro ⟨⟩
      refine ax_all (i := 3) (is := []) (by kernel_rfl) (all_cons ?_ all_nil)
      · refine nx_oxv (last := #[true, true, true, true, false]) rfl (oxv_store (i := 0) (o := 0) rfl rfl (lv_sl _ _) ⟨rfl, rfl, rfl, rfl⟩ rfl info22 rfl (H' := [⟨.pointer (some q4), [(Sl (Ki .u8) r14.2.2.2)], 22, none⟩, ⟨.pointer (some q5), [(Vl (.bool false))], 4, none⟩]) rfl) rfl rfl bo_nil (wt_none' rfl) rfl fun _ => ?_
        exact tx_pick' [0, 1] (sub_cons rfl (sub_cons rfl (sub_cons rfl sub_nil))) (by decide) (pick_cons rfl (pick_cons rfl pick_nil)) (hN6 ())
    intro hN4
    refine ax_node (f' := 2) #[true, true, false, true, false] (fun (v4 : Unit) => (⟨17, [⟨.fn (.func 15) ⟨[.pointer (some q4), .pointer (some q5)]⟩, #[]⟩], [(4, (Vl (.pointer (some q4)))), (5, (Vl (.pointer (some q5)))), (15, (Vl .nilIface))], [⟨.pointer (some q4), [(Sl (Ki .u8) r14.2.2.2)], 22, none⟩, ⟨.pointer (some q5), [(Vl (.bool false))], 4, none⟩]⟩ : St)) ?_ ?_
    · rintro ⟨⟩
      refine ax_rd (ix := 2) (last := #[true, true, true, true, false]) (by kernel_rfl) rfl (rd_binf' rfl rfl (bf_vl (fun _ => by kernel_rfl) nil_eql35_nilif)) rfl rfl (wt_none' rfl) rfl ?_
      exact tx_pick' [0, 1] (sub_cons rfl (sub_cons rfl (sub_cons rfl sub_nil))) (by decide) (pick_cons rfl (pick_cons rfl pick_nil)) (hN6 ())
    intro hN5
    refine ax_node (f' := 3) #[true, true, false, false, false] (fun (v1 : Unit) => (⟨17, [⟨.fn (.func 15) ⟨[.pointer (some q4), .pointer (some q5)]⟩, #[]⟩], [(4, (Vl (.pointer (some q4)))), (5, (Vl (.pointer (some q5)))), (14, (Sl (Ki .u8) r14.2.2.2)), (15, (Vl .nilIface))], [⟨.pointer (some q4), [(Vl (.slice none 0 0))], 22, none⟩, ⟨.pointer (some q5), [(Vl (.bool false))], 4, none⟩]⟩ : St)) ?_ ?_
    · rintro ⟨⟩
      refine ax_all (i := 2) (is := [3]) (by kernel_rfl) (all_cons ?_ (all_cons ?_ all_nil))
      · refine nx_rd (last := #[true, true, true, false, false]) rfl (rd_binf' rfl rfl (bf_vl (fun _ => by kernel_rfl) nil_eql35_nilif)) rfl rfl (wt_none' rfl) rfl ?_
        exact tx_pick' [0, 1] (sub_cons rfl (sub_cons rfl (sub_cons rfl (sub_cons rfl sub_nil)))) (by decide) (pick_cons rfl (pick_cons rfl pick_nil)) (hN4 ())
      · refine nx_oxv (last := #[true, true, false, true, false]) rfl (oxv_store (i := 0) (o := 0) rfl rfl (lv_sl _ _) ⟨rfl, rfl, rfl, rfl⟩ rfl info22 rfl (H' := [⟨.pointer (some q4), [(Sl (Ki .u8) r14.2.2.2)], 22, none⟩, ⟨.pointer (some q5), [(Vl (.bool false))], 4, none⟩]) rfl) rfl rfl bo_nil (wt_none' rfl) rfl fun _ => ?_
        exact tx_pick' [0, 1] (sub_cons rfl (sub_cons rfl (sub_cons rfl sub_nil))) (by decide) (pick_cons rfl (pick_cons rfl pick_nil)) (hN5 ())
    intro hN2
    refine ax_node (f' := 3) #[false, true, true, false, false] (fun (v2 : Unit) => (⟨17, [⟨.fn (.func 15) ⟨[.pointer (some q4), .pointer (some q5)]⟩, #[]⟩], [(4, (Vl (.pointer (some q4)))), (5, (Vl (.pointer (some q5)))), (6, (Vl (.pointer (some q6)))), (16, (Vl (.bool true)))], [⟨.pointer (some q4), [(Vl (.slice none 0 0))], 22, none⟩, ⟨.pointer (some q5), [(Vl (.bool false))], 4, none⟩, ⟨.pointer (some q6), [(Vl (Vs g13)), (Vl (.int .i64 r13.2.1)), (Vl (.int .i8 r13.2.2))], 50, none⟩, (Rw (Ki .u8) 5 (Vs g13) r13.1)]⟩ : St)) ?_ ?_
    · rintro ⟨⟩
      refine ax_all (i := 0) (is := []) (by kernel_rfl) (all_cons ?_ all_nil)
      · refine nx_oxb (is := [2, 3]) (last := #[true, true, true, false, false]) rfl (oxb_callg (ent_fn' Tryd.func17 isn17 rfl rfl) (bytes_Buffer_Bytes_sim _ _ _ hr14 : Go.Sx.Fn Tryd.prog 17 [(Vl (.pointer (some q6)))] [⟨.pointer (some q6), [(Vl (Vs g13)), (Vl (.int .i64 r13.2.1)), (Vl (.int .i8 r13.2.2))], 50, none⟩, (Rw (Ki .u8) 5 (Vs g13) r13.1)] (fun x : Unit => (Sl (Ki .u8) r14.2.2.2)) (fun x => [⟨.pointer (some q6), [(Sl (Ki .u8) r14.1), (Vl (.int .i64 r14.2.1)), (Vl (.int .i8 r14.2.2.1))], 50, none⟩])) [2, 3] [0, 1] (by decide) (pick_cons rfl (pick_cons rfl pick_nil)) (pick_cons rfl (pick_cons rfl pick_nil)) (Hn := fun x : Unit => [⟨.pointer (some q6), [(Sl (Ki .u8) r14.1), (Vl (.int .i64 r14.2.1)), (Vl (.int .i8 r14.2.2.1))], 50, none⟩, ⟨.pointer (some q4), [(Vl (.slice none 0 0))], 22, none⟩, ⟨.pointer (some q5), [(Vl (.bool false))], 4, none⟩]) (fun _ => rfl) rfl rfl) (pick_cons rfl (pick_cons rfl pick_nil)) rfl bl_nil (wt_none' rfl) rfl fun ⟨⟩ => ?_
        exact tx_pick' [1, 2] (sub_cons rfl (sub_cons rfl (sub_cons rfl (sub_cons rfl sub_nil)))) (by decide) (pick_cons rfl (pick_cons rfl pick_nil)) (hN4 ())
    intro hN3
    refine ax_all (i := 0) (is := [2]) (by kernel_rfl) (all_cons ?_ (all_cons ?_ all_nil))
    · refine nx_oxb (is := [0, 1]) (last := #[true, true, false, false, false]) rfl (oxb_callg (ent_fn' Tryd.func17 isn17 rfl rfl) (bytes_Buffer_Bytes_sim _ _ _ hr14 : Go.Sx.Fn Tryd.prog 17 [(Vl (.pointer (some q6)))] [⟨.pointer (some q6), [(Vl (Vs g13)), (Vl (.int .i64 r13.2.1)), (Vl (.int .i8 r13.2.2))], 50, none⟩, (Rw (Ki .u8) 5 (Vs g13) r13.1)] (fun x : Unit => (Sl (Ki .u8) r14.2.2.2)) (fun x => [⟨.pointer (some q6), [(Sl (Ki .u8) r14.1), (Vl (.int .i64 r14.2.1)), (Vl (.int .i8 r14.2.2.1))], 50, none⟩])) [0, 1] [2, 3] (by decide) (pick_cons rfl (pick_cons rfl pick_nil)) (pick_cons rfl (pick_cons rfl pick_nil)) (Hn := fun x : Unit => [⟨.pointer (some q6), [(Sl (Ki .u8) r14.1), (Vl (.int .i64 r14.2.1)), (Vl (.int .i8 r14.2.2.1))], 50, none⟩, ⟨.pointer (some q5), [(Vl (.bool false))], 4, none⟩, ⟨.pointer (some q4), [(Vl (.slice none 0 0))], 22, none⟩]) (fun _ => rfl) rfl rfl) (pick_cons rfl (pick_cons rfl pick_nil)) rfl bl_nil (wt_none' rfl) rfl fun ⟨⟩ => ?_
      exact tx_pick' [2, 1] (sub_cons rfl (sub_cons rfl (sub_cons rfl (sub_cons rfl sub_nil)))) (by decide) (pick_cons rfl (pick_cons rfl pick_nil)) (hN2 ())
    · refine nx_rd (last := #[false, true, true, false, false]) rfl (rd_binf' rfl rfl (bf_vl (fun _ => by kernel_rfl) nil_eql35_nilif)) rfl rfl (wt_none' rfl) rfl ?_
      exact tx_pick' [3, 2, 0, 1] (sub_cons rfl (sub_cons rfl (sub_cons rfl (sub_cons rfl sub_nil)))) (by decide) (pick_cons rfl (pick_cons rfl (pick_cons rfl (pick_cons rfl pick_nil)))) (hN3 ())
  · dsimp only at hp
    refine sx_ox' (ox_calln' (ent_fn' Tryd.func12 isn12 rfl rfl) (wkbcommon_DoorOrder_sim _ hr11 : Go.Sx.Fn Tryd.prog 12 [(Vl (.bool a1))] [] (fun x : Unit => (If 61 (Ag []))) (fun x => [])) (Hn := fun x : Unit => [⟨.pointer (some q6), [(Vl (.slice none 0 0)), (Vl (.int .i64 0)), (Vl (.int .i8 0))], 50, none⟩, ⟨.pointer (some q5), [(Vl (.bool false))], 4, none⟩, ⟨.pointer (some q4), [(Vl (.slice none 0 0))], 22, none⟩]) (fun _ => rfl) rfl rfl) (wt_none' rfl) fun ⟨⟩ => ?_
    refine sx_rd' (rd_move' rfl) rfl rfl (wt_none' rfl) ?_
    obtain ⟨r13, hr13, hp⟩ := bind_some hp
    refine sx_ox' (ox_callg' (ent_fn' Tryd.func16 isn16 rfl rfl) (wkbcommon_WriteUInt32_v2_sim _ _ _ hr13 : Go.Sx.Fn Tryd.prog 16 [(If 32 (Vl (.pointer (some q6)))), (If 61 (Ag [])), (Vl (.int .u32 a0))] [⟨.pointer (some q6), [(Vl (.slice none 0 0)), (Vl (.int .i64 0)), (Vl (.int .i8 0))], 50, none⟩] (fun x : Gs => (Vl .nilIface)) (fun x => [⟨.pointer (some q6), [(Vl (Vs x)), (Vl (.int .i64 r13.2.1)), (Vl (.int .i8 r13.2.2))], 50, none⟩, (Rw (Ki .u8) 5 (Vs x) r13.1)])) [0] [1, 2] (by decide) (pick_cons rfl pick_nil) (pick_cons rfl (pick_cons rfl pick_nil)) (Hn := fun x : Gs => [⟨.pointer (some q6), [(Vl (Vs x)), (Vl (.int .i64 r13.2.1)), (Vl (.int .i8 r13.2.2))], 50, none⟩, (Rw (Ki .u8) 5 (Vs x) r13.1), ⟨.pointer (some q5), [(Vl (.bool false))], 4, none⟩, ⟨.pointer (some q4), [(Vl (.slice none 0 0))], 22, none⟩]) (fun _ => rfl) rfl rfl) (wt_none' rfl) fun g13 => ?_
    refine sx_rd' (rd_assign' rfl) rfl rfl (wt_none' rfl) ?_
    refine sx_nil' ?_
    show TX E K4 _
    refine tx_k' hK4 ?_
    refine cx_seq' fun K5 hK5 => ?_
    refine cx_plana' [] [(0, 1), (3, 1), (4, 1)] [(1, 2)] 4 #[false, true, false, false, false] mixed (by kernel_rfl) ?_
    refine px_rb' rfl (rb_move' rfl) rfl rfl (wt_none' rfl) ?_
    refine px_nil' ?_
    show AX E _ _ _ _ _ _ _ _
    obtain ⟨r14, hr14, hp⟩ := bind_some hp
    refine ax_node (f' := 0) #[true, true, true, true, true] (fun (v6 : Unit) => (⟨17, [⟨.fn (.func 15) ⟨[.pointer (some q4), .pointer (some q5)]⟩, #[]⟩], [(4, (Vl (.pointer (some q4)))), (5, (Vl (.pointer (some q5))))], [⟨.pointer (some q4), [(Sl (Ki .u8) r14.2.2.2)], 22, none⟩, ⟨.pointer (some q5), [(Vl (.bool true))], 4, none⟩]⟩ : St)) ?_ ?_
    · rintro ⟨⟩
      refine ax_nil (by kernel_rfl) ?_
      show TX E K5 _
      refine tx_k' hK5 ?_
      refine cx_retc' ?_
      replace hp := Option.some.inj hp
      subst hp
      refine tx_leave' (.inl rfl) rfl idle15 rfl Tryd.func15 isn15 rfl ?_
      refine tx_pick' (L' := [(4, (Vl (.pointer (some q4)))), (5, (Vl (.pointer (some q5))))]) (H' := [⟨.pointer (some q4), [(Sl (Ki .u8) r14.2.2.2)], 22, none⟩, ⟨.pointer (some q5), [(Vl (.bool true))], 4, none⟩]) [0, 1] (sub_cons rfl (sub_cons rfl sub_nil)) (by decide) (pick_cons rfl (pick_cons rfl pick_nil)) ?_
      exact tx_ret2' Tryd.results8 rfl () (rv_cell' (i := 0) (o := 0) rfl ⟨rfl, rfl, rfl, rfl⟩ rfl flat22) (rv_cell' (i := 1) (o := 0) rfl ⟨rfl, rfl, rfl, rfl⟩ rfl flat4) rfl (List.nil_sublist _)
    intro hN7
    refine ax_node (f' := 1) #[true, true, true, true, false] (fun (v5 : Unit) => (⟨17, [⟨.fn (.func 15) ⟨[.pointer (some q4), .pointer (some q5)]⟩, #[]⟩], [(4, (Vl (.pointer (some q4)))), (5, (Vl (.pointer (some q5)))), (16, (Vl (.bool true)))], [⟨.pointer (some q4), [(Sl (Ki .u8) r14.2.2.2)], 22, none⟩, ⟨.pointer (some q5), [(Vl (.bool false))], 4, none⟩]⟩ : St)) ?_ ?_
    · rintro ⟨⟩
      refine ax_all (i := 4) (is := []) (by kernel_rfl) (all_cons ?_ all_nil)
      · refine nx_oxv (last := #[true, true, true, true, true]) rfl (oxv_store (i := 1) (o := 0) rfl rfl (lv_vl rfl rfl) ⟨rfl, rfl, rfl, rfl⟩ rfl info4 rfl (H' := [⟨.pointer (some q4), [(Sl (Ki .u8) r14.2.2.2)], 22, none⟩, ⟨.pointer (some q5), [(Vl (.bool true))], 4, none⟩]) rfl) rfl rfl bo_nil (wt_none' rfl) rfl fun _ => ?_
        exact tx_pick' [0, 1] (sub_cons rfl (sub_cons rfl sub_nil)) (by decide) (pick_cons rfl (pick_cons rfl pick_nil)) (hN7 ())
    intro hN6
    refine ax_node (f' := 2) #[true, true, true, false, false] (fun (v3 : Unit) => (⟨17, [⟨.fn (.func 15) ⟨[.pointer (some q4), .pointer (some q5)]⟩, #[]⟩], [(4, (Vl (.pointer (some q4)))), (5, (Vl (.pointer (some q5)))), (14, (Sl (Ki .u8) r14.2.2.2)), (16, (Vl (.bool true)))], [⟨.pointer (some q4), [(Vl (.slice none 0 0))], 22, none⟩, ⟨.pointer (some q5), [(Vl (.bool false))], 4, none⟩]⟩ : St)) ?_ ?_
    · rintro ⟨⟩
      refine ax_all (i := 3) (is := []) (by kernel_rfl) (all_cons ?_ all_nil)
      · refine nx_oxv (last := #[true, true, true, true, false]) rfl (oxv_store (i := 0) (o := 0) rfl rfl (lv_sl _ _) ⟨rfl, rfl, rfl, rfl⟩ rfl info22 rfl (H' := [⟨.pointer (some q4), [(Sl (Ki .u8) r14.2.2.2)], 22, none⟩, ⟨.pointer (some q5), [(Vl (.bool false))], 4, none⟩]) rfl) rfl rfl bo_nil (wt_none' rfl) rfl fun _ => ?_
        exact tx_pick' [0, 1] (sub_cons rfl (sub_cons rfl (sub_cons rfl sub_nil))) (by decide) (pick_cons rfl (pick_cons rfl pick_nil)) (hN6 ())
    intro hN4
    refine ax_node (f' := 2) #[true, true, false, true, false] (fun (v4 : Unit) => (⟨17, [⟨.fn (.func 15) ⟨[.pointer (some q4), .pointer (some q5)]⟩, #[]⟩], [(4, (Vl (.pointer (some q4)))), (5, (Vl (.pointer (some q5)))), (15, (Vl .nilIface))], [⟨.pointer (some q4), [(Sl (Ki .u8) r14.2.2.2)], 22, none⟩, ⟨.pointer (some q5), [(Vl (.bool false))], 4, none⟩]⟩ : St)) ?_ ?_
    · rintro ⟨⟩
      refine ax_rd (ix := 2) (last := #[true, true, true, true, false]) (by kernel_rfl) rfl (rd_binf' rfl rfl (bf_vl (fun _ => by kernel_rfl) nil_eql35_nilif)) rfl rfl (wt_none' rfl) rfl ?_
      exact tx_pick' [0, 1] (sub_cons rfl (sub_cons rfl (sub_cons rfl sub_nil))) (by decide) (pick_cons rfl (pick_cons rfl pick_nil)) (hN6 ())
    intro hN5
    refine ax_node (f' := 3) #[true, true, false, false, false] (fun (v1 : Unit) => (⟨17, [⟨.fn (.func 15) ⟨[.pointer (some q4), .pointer (some q5)]⟩, #[]⟩], [(4, (Vl (.pointer (some q4)))), (5, (Vl (.pointer (some q5)))), (14, (Sl (Ki .u8) r14.2.2.2)), (15, (Vl .nilIface))], [⟨.pointer (some q4), [(Vl (.slice none 0 0))], 22, none⟩, ⟨.pointer (some q5), [(Vl (.bool false))], 4, none⟩]⟩ : St)) ?_ ?_
    · rintro ⟨⟩
      refine ax_all (i := 2) (is := [3]) (by kernel_rfl) (all_cons ?_ (all_cons ?_ all_nil))
      · refine nx_rd (last := #[true, true, true, false, false]) rfl (rd_binf' rfl rfl (bf_vl (fun _ => by kernel_rfl) nil_eql35_nilif)) rfl rfl (wt_none' rfl) rfl ?_
        exact tx_pick' [0, 1] (sub_cons rfl (sub_cons rfl (sub_cons rfl (sub_cons rfl sub_nil)))) (by decide) (pick_cons rfl (pick_cons rfl pick_nil)) (hN4 ())
      · refine nx_oxv (last := #[true, true, false, true, false]) rfl (oxv_store (i := 0) (o := 0) rfl rfl (lv_sl _ _) ⟨rfl, rfl, rfl, rfl⟩ rfl info22 rfl (H' := [⟨.pointer (some q4), [(Sl (Ki .u8) r14.2.2.2)], 22, none⟩, ⟨.pointer (some q5), [(Vl (.bool false))], 4, none⟩]) rfl) rfl rfl bo_nil (wt_none' rfl) rfl fun _ => ?_
        exact tx_pick' [0, 1] (sub_cons rfl (sub_cons rfl (sub_cons rfl sub_nil))) (by decide) (pick_cons rfl (pick_cons rfl pick_nil)) (hN5 ())
    intro hN2
    refine ax_node (f' := 3) #[false, true, true, false, false] (fun (v2 : Unit) => (⟨17, [⟨.fn (.func 15) ⟨[.pointer (some q4), .pointer (some q5)]⟩, #[]⟩], [(4, (Vl (.pointer (some q4)))), (5, (Vl (.pointer (some q5)))), (6, (Vl (.pointer (some q6)))), (16, (Vl (.bool true)))], [⟨.pointer (some q4), [(Vl (.slice none 0 0))], 22, none⟩, ⟨.pointer (some q5), [(Vl (.bool false))], 4, none⟩, ⟨.pointer (some q6), [(Vl (Vs g13)), (Vl (.int .i64 r13.2.1)), (Vl (.int .i8 r13.2.2))], 50, none⟩, (Rw (Ki .u8) 5 (Vs g13) r13.1)]⟩ : St)) ?_ ?_
    · rintro ⟨⟩
      refine ax_all (i := 0) (is := []) (by kernel_rfl) (all_cons ?_ all_nil)
      · refine nx_oxb (is := [2, 3]) (last := #[true, true, true, false, false]) rfl (oxb_callg (ent_fn' Tryd.func17 isn17 rfl rfl) (bytes_Buffer_Bytes_sim _ _ _ hr14 : Go.Sx.Fn Tryd.prog 17 [(Vl (.pointer (some q6)))] [⟨.pointer (some q6), [(Vl (Vs g13)), (Vl (.int .i64 r13.2.1)), (Vl (.int .i8 r13.2.2))], 50, none⟩, (Rw (Ki .u8) 5 (Vs g13) r13.1)] (fun x : Unit => (Sl (Ki .u8) r14.2.2.2)) (fun x => [⟨.pointer (some q6), [(Sl (Ki .u8) r14.1), (Vl (.int .i64 r14.2.1)), (Vl (.int .i8 r14.2.2.1))], 50, none⟩])) [2, 3] [0, 1] (by decide) (pick_cons rfl (pick_cons rfl pick_nil)) (pick_cons rfl (pick_cons rfl pick_nil)) (Hn := fun x : Unit => [⟨.pointer (some q6), [(Sl (Ki .u8) r14.1), (Vl (.int .i64 r14.2.1)), (Vl (.int .i8 r14.2.2.1))], 50, none⟩, ⟨.pointer (some q4), [(Vl (.slice none 0 0))], 22, none⟩, ⟨.pointer (some q5), [(Vl (.bool false))], 4, none⟩]) (fun _ => rfl) rfl rfl) (pick_cons rfl (pick_cons rfl pick_nil)) rfl bl_nil (wt_none' rfl) rfl fun ⟨⟩ => ?_
        exact tx_pick' [1, 2] (sub_cons rfl (sub_cons rfl (sub_cons rfl (sub_cons rfl sub_nil)))) (by decide) (pick_cons rfl (pick_cons rfl pick_nil)) (hN4 ())
    intro hN3
    refine ax_all (i := 0) (is := [2]) (by kernel_rfl) (all_cons ?_ (all_cons ?_ all_nil))
    · refine nx_oxb (is := [0, 1]) (last := #[true, true, false, false, false]) rfl (oxb_callg (ent_fn' Tryd.func17 isn17 rfl rfl) (bytes_Buffer_Bytes_sim _ _ _ hr14 : Go.Sx.Fn Tryd.prog 17 [(Vl (.pointer (some q6)))] [⟨.pointer (some q6), [(Vl (Vs g13)), (Vl (.int .i64 r13.2.1)), (Vl (.int .i8 r13.2.2))], 50, none⟩, (Rw (Ki .u8) 5 (Vs g13) r13.1)] (fun x : Unit => (Sl (Ki .u8) r14.2.2.2)) (fun x => [⟨.pointer (some q6), [(Sl (Ki .u8) r14.1), (Vl (.int .i64 r14.2.1)), (Vl (.int .i8 r14.2.2.1))], 50, none⟩])) [0, 1] [2, 3] (by decide) (pick_cons rfl (pick_cons rfl pick_nil)) (pick_cons rfl (pick_cons rfl pick_nil)) (Hn := fun x : Unit => [⟨.pointer (some q6), [(Sl (Ki .u8) r14.1), (Vl (.int .i64 r14.2.1)), (Vl (.int .i8 r14.2.2.1))], 50, none⟩, ⟨.pointer (some q5), [(Vl (.bool false))], 4, none⟩, ⟨.pointer (some q4), [(Vl (.slice none 0 0))], 22, none⟩]) (fun _ => rfl) rfl rfl) (pick_cons rfl (pick_cons rfl pick_nil)) rfl bl_nil (wt_none' rfl) rfl fun ⟨⟩ => ?_
      exact tx_pick' [2, 1] (sub_cons rfl (sub_cons rfl (sub_cons rfl (sub_cons rfl sub_nil)))) (by decide) (pick_cons rfl (pick_cons rfl pick_nil)) (hN2 ())
    · refine nx_rd (last := #[false, true, true, false, false]) rfl (rd_binf' rfl rfl (bf_vl (fun _ => by kernel_rfl) nil_eql35_nilif)) rfl rfl (wt_none' rfl) rfl ?_
      exact tx_pick' [3, 2, 0, 1] (sub_cons rfl (sub_cons rfl (sub_cons rfl (sub_cons rfl sub_nil)))) (by decide) (pick_cons rfl (pick_cons rfl (pick_cons rfl (pick_cons rfl pick_nil)))) (hN3 ())

def bytes_NewBuffer (k : Nat) (a0 : List Int) : Option ((List Int) × Int × Int) :=
  some (a0, 0, 0)

theorem bytes_NewBuffer_sim {k : Nat}  (a0 : List Int) {out : (List Int) × Int × Int} (hp : bytes_NewBuffer k a0 = some out) : Go.Sx.Fn Tryd.prog 10 [(Sl (Ki .u8) a0)] [] (fun w : Addr => (Vl (.pointer (some w)))) (fun w => [⟨.pointer (some w), [(Sl (Ki .u8) out.1), (Vl (.int .i64 out.2.1)), (Vl (.int .i8 out.2.2))], 50, none⟩]) := by
  unfold bytes_NewBuffer at hp
  refine fn_of Tryd.func10 rfl Tryd.ntmps10 rfl fun E hM => ?_
  refine cx_seq' fun K1 hK1 => ?_
  refine cx_region' ?_
  refine sx_rd' (rd_assign' rfl) rfl rfl (wt_none' rfl) ?_
  refine sx_nil' ?_
  show TX E K1 _
  refine tx_k' hK1 ?_
  refine cx_seq' fun K2 hK2 => ?_
  refine cx_region' ?_
  refine sx_rd' (rd_move' rfl) rfl rfl (wt_none' rfl) ?_
  refine sx_rd' (rd_build' (pls := [(0, 1), (1, 1), (2, 1)]) (qs := [(0, [(Sl (Ki .u8) a0)])]) (r := [(Sl (Ki .u8) a0), (Vl (.int .i64 0)), (Vl (.int .i8 0))]) ⟨rfl, ⟨_, rfl, (lv_sl _ _)⟩, trivial⟩ Tryd.underlying50 has50 places50 info50 rfl rfl rfl) rfl rfl (wt_none' rfl) ?_
  refine sx_ox' (ox_box' rfl (lv_ag _) rfl rfl) (wt_none' rfl) fun q5 => ?_
  refine sx_rd' (rd_assign' rfl) rfl rfl (wt_none' rfl) ?_
  refine sx_nil' ?_
  show TX E K2 _
  refine tx_k' hK2 ?_
  refine cx_retc' ?_
  replace hp := Option.some.inj hp
  subst hp
  refine tx_pick' (L' := [(2, (Vl (.pointer (some q5))))]) (H' := [⟨.pointer (some q5), [(Sl (Ki .u8) a0), (Vl (.int .i64 0)), (Vl (.int .i8 0))], 50, none⟩]) [0] (sub_cons rfl sub_nil) (by decide) (pick_cons rfl pick_nil) ?_
  exact tx_ret1' Tryd.results10 rfl q5 (rv_tmp' rfl) (List.Sublist.refl _)

def bytes_Buffer_empty (k : Nat) (a0_0 : List Int) (a0_1 : Int) (a0_2 : Int) : Option ((List Int) × Int × Int × Bool) :=
  some (a0_0, a0_1, a0_2, decide ((a0_0.length : Int) ≤ a0_1))

theorem bytes_Buffer_empty_sim {k : Nat} {wa0 : Addr} (a0_0 : List Int) (a0_1 : Int) (a0_2 : Int) {out : (List Int) × Int × Int × Bool} (hp : bytes_Buffer_empty k a0_0 a0_1 a0_2 = some out) : Go.Sx.Fn Tryd.prog 39 [(Vl (.pointer (some wa0)))] [⟨.pointer (some wa0), [(Sl (Ki .u8) a0_0), (Vl (.int .i64 a0_1)), (Vl (.int .i8 a0_2))], 50, none⟩] (fun w : Unit => (Vl (.bool out.2.2.2))) (fun w => [⟨.pointer (some wa0), [(Sl (Ki .u8) out.1), (Vl (.int .i64 out.2.1)), (Vl (.int .i8 out.2.2.1))], 50, none⟩]) := by
  unfold bytes_Buffer_empty at hp
  refine fn_of Tryd.func39 rfl Tryd.ntmps39 rfl fun E hM => ?_
  refine cx_seq' fun K1 hK1 => ?_
  refine cx_region' ?_
  refine sx_rd' (rd_assign' rfl) rfl rfl (wt_none' rfl) ?_
  refine sx_nil' ?_
  show TX E K1 _
  refine tx_k' hK1 ?_
  refine cx_seq' fun K2 hK2 => ?_
  refine cx_draw' mixed (by kernel_rfl) ?_
  refine qx_rd' (rd_move' rfl) rfl rfl (wt_none' rfl) ?_
  refine qx_rd' (rd_nilck' rfl) rfl rfl (wt_none' rfl) ?_
  refine qx_rd' (rd_field0' rfl Tryd.underlying50 rfl info22 rfl) rfl rfl (wt_none' rfl) ?_
  refine qx_rd' (rd_load' (i := 0) (o := 0) rfl ⟨rfl, rfl, rfl, rfl⟩ rfl flat22) rfl rfl (wt_none' rfl) ?_
  refine qx_rd' (rd_len' rfl Tryd.underlying22) rfl rfl (wt_none' rfl) ?_
  refine qx_rd' (rd_move' rfl) rfl rfl (wt_none' rfl) ?_
  refine qx_rd' (rd_nilck' rfl) rfl rfl (wt_none' rfl) ?_
  refine qx_rd' (rd_field' (off := 1) rfl Tryd.underlying50 rfl info3 rfl) rfl rfl (wt_none' rfl) ?_
  refine qx_rd' (rd_load' (i := 0) (o := 1) rfl ⟨rfl, rfl, rfl, rfl⟩ rfl flat3) rfl rfl (wt_none' rfl) ?_
  refine qx_rd' (rd_bin' rfl rfl eg_int ru_leq) rfl rfl (wt_none' rfl) ?_
  refine qx_rd' (rd_assign' rfl) rfl rfl (wt_none' rfl) ?_
  refine qx_nil' ?_
  show TX E K2 _
  refine tx_k' hK2 ?_
  refine cx_retc' ?_
  replace hp := Option.some.inj hp
  subst hp
  refine tx_pick' (L' := [(2, (Vl (.bool (decide ((a0_0.length : Int) ≤ a0_1)))))]) (H' := [⟨.pointer (some wa0), [(Sl (Ki .u8) a0_0), (Vl (.int .i64 a0_1)), (Vl (.int .i8 a0_2))], 50, none⟩]) [0] (sub_cons rfl sub_nil) (by decide) (pick_cons rfl pick_nil) ?_
  exact tx_ret1' Tryd.results39 rfl () (rv_tmp' rfl) (List.Sublist.refl _)

def bytes_Buffer_Read_j1 (k : Nat) (r10 : (List Int) × Int × Int × Bool) (r26 : List Int) (a1 : List Int) (x1 : Int) : Option ((List Int) × Int × Int × (List Int) × Int) :=
  some (r10.1, iadd .i64 r10.2.1 ((Nat.min r26.length a1.length : Nat) : Int), x1, cpy a1 r26, ((Nat.min r26.length a1.length : Nat) : Int))
def bytes_Buffer_Read (k : Nat) (a0_0 : List Int) (a0_1 : Int) (a0_2 : Int) (a1 : List Int) : Option ((List Int) × Int × Int × (List Int) × Int) :=
  (bytes_Buffer_empty k a0_0 a0_1 0) >>= fun r10 =>
  br r10.2.2.2
    (none)
    ((cut r10.1 r10.2.1 (r10.1.length : Int)) >>= fun r26 =>
    br (decide (0 < ((Nat.min r26.length a1.length : Nat) : Int)))
      (bytes_Buffer_Read_j1 k r10 r26 a1 (-1))
      (bytes_Buffer_Read_j1 k r10 r26 a1 r10.2.2.1))

theorem bytes_Buffer_Read_sim {k : Nat} {wa0 : Addr} {wa1 : Addr} (a0_0 : List Int) (a0_1 : Int) (a0_2 : Int) (a1 : List Int) {out : (List Int) × Int × Int × (List Int) × Int} (hp : bytes_Buffer_Read k a0_0 a0_1 a0_2 a1 = some out) : Go.Sx.Fn Tryd.prog 35 [(Vl (.pointer (some wa0))), (Vl (Vs (some wa1, 4, 4)))] [⟨.pointer (some wa0), [(Sl (Ki .u8) a0_0), (Vl (.int .i64 a0_1)), (Vl (.int .i8 a0_2))], 50, none⟩, (Rw (Ki .u8) 55 (Vs (some wa1, 4, 4)) a1)] (fun w : Unit => (Tu [(Vl (.int .i64 out.2.2.2.2)), (Vl .nilIface)])) (fun w => [⟨.pointer (some wa0), [(Sl (Ki .u8) out.1), (Vl (.int .i64 out.2.1)), (Vl (.int .i8 out.2.2.1))], 50, none⟩, (Rw (Ki .u8) 55 (Vs (some wa1, 4, 4)) out.2.2.2.1)]) := by
  unfold bytes_Buffer_Read at hp
  refine fn_of Tryd.func35 rfl Tryd.ntmps35 rfl fun E hM => ?_
  refine cx_seq' fun K1 hK1 => ?_
  refine cx_region' ?_
  refine sx_rd' (rd_assign' rfl) rfl rfl (wt_none' rfl) ?_
  refine sx_rd' (rd_assign' rfl) rfl rfl (wt_none' rfl) ?_
  refine sx_nil' ?_
  show TX E K1 _
  refine tx_k' hK1 ?_
  refine cx_seq' fun K2 hK2 => ?_
  refine cx_region' ?_
  refine sx_rd' (rd_move' rfl) rfl rfl (wt_none' rfl) ?_
  refine sx_rd' (rd_nilck' rfl) rfl rfl (wt_none' rfl) ?_
  refine sx_rd' (rd_field' (off := 2) rfl Tryd.underlying50 rfl info48 rfl) rfl rfl (wt_none' rfl) ?_
  refine sx_ox' (ox_store' (i := 0) (o := 2) rfl rfl (lv_vl rfl rfl) ⟨rfl, rfl, rfl, rfl⟩ rfl info48 rfl (H' := [⟨.pointer (some wa0), [(Sl (Ki .u8) a0_0), (Vl (.int .i64 a0_1)), (Vl (.int .i8 0))], 50, none⟩, (Rw (Ki .u8) 55 (Vs (some wa1, 4, 4)) a1)]) rfl) (wt_none' rfl) fun _ => ?_
  refine sx_nil' ?_
  show TX E K2 _
  refine tx_k' hK2 ?_
  refine cx_seq' fun K3 hK3 => ?_
  refine cx_seq' fun K4 hK4 => ?_
  refine cx_region' ?_
  refine sx_rd' (rd_move' rfl) rfl rfl (wt_none' rfl) ?_
  obtain ⟨r10, hr10, hp⟩ := bind_some hp
  refine sx_ox' (ox_callg' (ent_fn' Tryd.func39 isn39 rfl rfl) (bytes_Buffer_empty_sim _ _ _ hr10 : Go.Sx.Fn Tryd.prog 39 [(Vl (.pointer (some wa0)))] [⟨.pointer (some wa0), [(Sl (Ki .u8) a0_0), (Vl (.int .i64 a0_1)), (Vl (.int .i8 0))], 50, none⟩] (fun x : Unit => (Vl (.bool r10.2.2.2))) (fun x => [⟨.pointer (some wa0), [(Sl (Ki .u8) r10.1), (Vl (.int .i64 r10.2.1)), (Vl (.int .i8 r10.2.2.1))], 50, none⟩])) [0] [1] (by decide) (pick_cons rfl pick_nil) (pick_cons rfl pick_nil) (Hn := fun x : Unit => [⟨.pointer (some wa0), [(Sl (Ki .u8) r10.1), (Vl (.int .i64 r10.2.1)), (Vl (.int .i8 r10.2.2.1))], 50, none⟩, (Rw (Ki .u8) 55 (Vs (some wa1, 4, 4)) a1)]) (fun _ => rfl) rfl rfl) (wt_none' rfl) fun ⟨⟩ => ?_
  refine sx_nil' ?_
  show TX E K4 _
  refine tx_k' hK4 ?_
  refine cx_cond' rfl (fun h1 => ?_) (fun h1 => ?_)
  · replace hp := (br_t h1).symm.trans hp
    cases hp
  · replace hp := (br_f h1).symm.trans hp
    refine cx_skip' ?_
    show TX E K3 _
    refine tx_k' hK3 ?_
    refine cx_seq' fun K6 hK6 => ?_
    refine cx_plan' [] [(10, 1)] [(0, 1), (1, 1), (2, 1), (3, 1), (4, 1), (5, 1), (6, 1), (7, 1), (8, 1), (9, 1), (10, 0), (11, 1)] mixed (by kernel_rfl) ?_
    refine px_rd' rfl (rd_move' rfl) rfl rfl (wt_none' rfl) ?_
    refine px_rd' rfl (rd_move' rfl) rfl rfl (wt_none' rfl) ?_
    refine px_rd' rfl (rd_nilck' rfl) rfl rfl (wt_none' rfl) ?_
    refine px_rd' rfl (rd_field0' rfl Tryd.underlying50 rfl info22 rfl) rfl rfl (wt_none' rfl) ?_
    refine px_rd' rfl (rd_load' (i := 0) (o := 0) rfl ⟨rfl, rfl, rfl, rfl⟩ rfl flat22) rfl rfl (wt_none' rfl) ?_
    refine px_rd' rfl (rd_move' rfl) rfl rfl (wt_none' rfl) ?_
    refine px_rd' rfl (rd_nilck' rfl) rfl rfl (wt_none' rfl) ?_
    refine px_rd' rfl (rd_field' (off := 1) rfl Tryd.underlying50 rfl info3 rfl) rfl rfl (wt_none' rfl) ?_
    refine px_rd' rfl (rd_load' (i := 0) (o := 1) rfl ⟨rfl, rfl, rfl, rfl⟩ rfl flat3) rfl rfl (wt_none' rfl) ?_
    obtain ⟨r26, hr26, hp⟩ := bind_some hp
    refine px_rd' rfl (rd_cut_l' rfl rfl hr26 Tryd.underlying22 info5) rfl rfl (wt_none' rfl) ?_
    refine px_ox' rfl (ox_copy' (i := 1) rfl rfl rfl rfl rfl Tryd.underlying22 info5 rfl rfl (H' := [⟨.pointer (some wa0), [(Sl (Ki .u8) r10.1), (Vl (.int .i64 r10.2.1)), (Vl (.int .i8 r10.2.2.1))], 50, none⟩, (Rw (Ki .u8) 55 (Vs (some wa1, 4, 4)) (cpy a1 r26))]) rfl) rfl bs_nil (wt_none' rfl) fun _ => ?_
    refine px_rd' rfl (rd_assign' rfl) rfl rfl (wt_none' rfl) ?_
    refine px_nil' ?_
    show TX E K6 _
    refine tx_k' hK6 ?_
    refine cx_seq' fun K7 hK7 => ?_
    refine cx_region' ?_
    refine sx_rd' (rd_move' rfl) rfl rfl (wt_none' rfl) ?_
    refine sx_rd' (rd_nilck' rfl) rfl rfl (wt_none' rfl) ?_
    refine sx_rd' (rd_field' (off := 1) rfl Tryd.underlying50 rfl info3 rfl) rfl rfl (wt_none' rfl) ?_
    refine sx_rd' (rd_load' (i := 0) (o := 1) rfl ⟨rfl, rfl, rfl, rfl⟩ rfl flat3) rfl rfl (wt_none' rfl) ?_
    refine sx_rd' (rd_move' rfl) rfl rfl (wt_none' rfl) ?_
    refine sx_rd' (rd_bin' rfl rfl eg_int ru_add) rfl rfl (wt_none' rfl) ?_
    refine sx_rd' (rd_nilck' rfl) rfl rfl (wt_none' rfl) ?_
    refine sx_rd' (rd_field' (off := 1) rfl Tryd.underlying50 rfl info3 rfl) rfl rfl (wt_none' rfl) ?_
    refine sx_ox' (ox_store' (i := 0) (o := 1) rfl rfl (lv_vl rfl rfl) ⟨rfl, rfl, rfl, rfl⟩ rfl info3 rfl (H' := [⟨.pointer (some wa0), [(Sl (Ki .u8) r10.1), (Vl (.int .i64 (iadd .i64 r10.2.1 ((Nat.min r26.length a1.length : Nat) : Int)))), (Vl (.int .i8 r10.2.2.1))], 50, none⟩, (Rw (Ki .u8) 55 (Vs (some wa1, 4, 4)) (cpy a1 r26))]) rfl) (wt_none' rfl) fun _ => ?_
    refine sx_nil' ?_
    show TX E K7 _
    refine tx_k' hK7 ?_
    refine cx_join' (fun (v1 : Int) => (⟨42, [], [(4, (Vl (.int .i64 ((Nat.min r26.length a1.length : Nat) : Int))))], [⟨.pointer (some wa0), [(Sl (Ki .u8) r10.1), (Vl (.int .i64 (iadd .i64 r10.2.1 ((Nat.min r26.length a1.length : Nat) : Int)))), (Vl (.int .i8 v1))], 50, none⟩, (Rw (Ki .u8) 55 (Vs (some wa1, 4, 4)) (cpy a1 r26))]⟩ : St)) (fun (v1 : Int) => bytes_Buffer_Read_j1 k r10 r26 a1 v1 = some out) ?_ ?_
    · rintro x1 hp
      replace hp : bytes_Buffer_Read_j1 k r10 r26 a1 x1 = some out := hp
      unfold bytes_Buffer_Read_j1 at hp
      refine cx_seq' fun K10 hK10 => ?_
      refine cx_region' ?_
      refine sx_rd' (rd_move' rfl) rfl rfl (wt_none' rfl) ?_
      refine sx_rd' (rd_assign' rfl) rfl rfl (wt_none' rfl) ?_
      refine sx_rd' (rd_assign' rfl) rfl rfl (wt_none' rfl) ?_
      refine sx_nil' ?_
      show TX E K10 _
      refine tx_k' hK10 ?_
      refine cx_retc' ?_
      replace hp := Option.some.inj hp
      subst hp
      refine tx_pick' (L' := [(4, (Vl (.int .i64 ((Nat.min r26.length a1.length : Nat) : Int)))), (5, (Vl .nilIface))]) (H' := [⟨.pointer (some wa0), [(Sl (Ki .u8) r10.1), (Vl (.int .i64 (iadd .i64 r10.2.1 ((Nat.min r26.length a1.length : Nat) : Int)))), (Vl (.int .i8 x1))], 50, none⟩, (Rw (Ki .u8) 55 (Vs (some wa1, 4, 4)) (cpy a1 r26))]) [0, 1] (sub_cons rfl (sub_cons rfl sub_nil)) (by decide) (pick_cons rfl (pick_cons rfl pick_nil)) ?_
      exact tx_ret2' Tryd.results35 rfl () (rv_tmp' rfl) (rv_tmp' rfl) rfl (List.Sublist.refl _)
    · intro K8 hK8
      refine cx_seq' fun K9 hK9 => ?_
      refine cx_region' ?_
      refine sx_rd' (rd_move' rfl) rfl rfl (wt_none' rfl) ?_
      refine sx_rd' (rd_bin' rfl rfl eg_int ru_gtr) rfl rfl (wt_none' rfl) ?_
      refine sx_nil' ?_
      show TX E K9 _
      refine tx_k' hK9 ?_
      refine cx_cond' rfl (fun h2 => ?_) (fun h2 => ?_)
      · replace hp := (br_t h2).symm.trans hp
        refine cx_region' ?_
        refine sx_rd' (rd_move' rfl) rfl rfl (wt_none' rfl) ?_
        refine sx_rd' (rd_nilck' rfl) rfl rfl (wt_none' rfl) ?_
        refine sx_rd' (rd_field' (off := 2) rfl Tryd.underlying50 rfl info48 rfl) rfl rfl (wt_none' rfl) ?_
        refine sx_ox' (ox_store' (i := 0) (o := 2) rfl rfl (lv_vl rfl rfl) ⟨rfl, rfl, rfl, rfl⟩ rfl info48 rfl (H' := [⟨.pointer (some wa0), [(Sl (Ki .u8) r10.1), (Vl (.int .i64 (iadd .i64 r10.2.1 ((Nat.min r26.length a1.length : Nat) : Int)))), (Vl (.int .i8 (-1)))], 50, none⟩, (Rw (Ki .u8) 55 (Vs (some wa1, 4, 4)) (cpy a1 r26))]) rfl) (wt_none' rfl) fun _ => ?_
        refine sx_nil' ?_
        show TX E K8 _
        exact tx_pick' [0, 1] (sub_cons rfl sub_nil) (by decide) (pick_cons rfl (pick_cons rfl pick_nil)) (hK8 (-1) hp)
      · replace hp := (br_f h2).symm.trans hp
        refine cx_skip' ?_
        show TX E K8 _
        exact tx_pick' [0, 1] (sub_cons rfl sub_nil) (by decide) (pick_cons rfl (pick_cons rfl pick_nil)) (hK8 r10.2.2.1 hp)

def io_ReadAtLeast_j3 (k : Nat) (a2 : Int) (r901 : (List Int) × Int × Int × (List Int) × Int) (x3 : Bool) : Option ((List Int) × Int × Int × (List Int) × Int) :=
  br x3
    (none)
    (br (decide (a2 ≤ (iadd .i64 0 r901.2.2.2.2)))
      (some (r901.1, r901.2.1, r901.2.2.1, r901.2.2.2.1, iadd .i64 0 r901.2.2.2.2))
      (none))
def io_ReadAtLeast_j4 (k : Nat) (a0_0 : List Int) (a0_1 : Int) (a0_2 : Int) (a1 : List Int) : Option ((List Int) × Int × Int × (List Int) × Int) :=
  some (a0_0, a0_1, a0_2, a1, 0)
def io_ReadAtLeast_j2 (k : Nat) (a0_0 : List Int) (a0_1 : Int) (a0_2 : Int) (a1 : List Int) (a2 : Int) (x2 : Bool) : Option ((List Int) × Int × Int × (List Int) × Int) :=
  br x2
    ((bytes_Buffer_Read k a0_0 a0_1 a0_2 a1) >>= fun r901 =>
    br (decide ((iadd .i64 0 r901.2.2.2.2) < a2))
      (io_ReadAtLeast_j3 k a2 r901 true)
      (io_ReadAtLeast_j3 k a2 r901 false))
    (br (decide (a2 ≤ 0))
      (io_ReadAtLeast_j4 k a0_0 a0_1 a0_2 a1)
      (io_ReadAtLeast_j4 k a0_0 a0_1 a0_2 a1))
def io_ReadAtLeast (k : Nat) (a0_0 : List Int) (a0_1 : Int) (a0_2 : Int) (a1 : List Int) (a2 : Int) : Option ((List Int) × Int × Int × (List Int) × Int) :=
  br (decide ((a1.length : Int) < a2))
    (none)
    (br (decide (0 < a2))
      (io_ReadAtLeast_j2 k a0_0 a0_1 a0_2 a1 a2 true)
      (io_ReadAtLeast_j2 k a0_0 a0_1 a0_2 a1 a2 false))

theorem io_ReadAtLeast_sim {k : Nat} {wa0 : Addr} {wa1 : Addr} (a0_0 : List Int) (a0_1 : Int) (a0_2 : Int) (a1 : List Int) (a2 : Int) {out : (List Int) × Int × Int × (List Int) × Int} (hp : io_ReadAtLeast k a0_0 a0_1 a0_2 a1 a2 = some out) : Go.Sx.Fn Tryd.prog 19 [(If 32 (Vl (.pointer (some wa0)))), (Vl (Vs (some wa1, 4, 4))), (Vl (.int .i64 a2))] [⟨.pointer (some wa0), [(Sl (Ki .u8) a0_0), (Vl (.int .i64 a0_1)), (Vl (.int .i8 a0_2))], 50, none⟩, (Rw (Ki .u8) 55 (Vs (some wa1, 4, 4)) a1)] (fun w : Unit => (Tu [(Vl (.int .i64 out.2.2.2.2)), (Vl .nilIface)])) (fun w => [⟨.pointer (some wa0), [(Sl (Ki .u8) out.1), (Vl (.int .i64 out.2.1)), (Vl (.int .i8 out.2.2.1))], 50, none⟩, (Rw (Ki .u8) 55 (Vs (some wa1, 4, 4)) out.2.2.2.1)]) := by
  unfold io_ReadAtLeast at hp
  refine fn_of Tryd.func19 rfl Tryd.ntmps19 rfl fun E hM => ?_
  refine cx_seq' fun K11 hK11 => ?_
  refine cx_region' ?_
  refine sx_rd' (rd_assign' rfl) rfl rfl (wt_none' rfl) ?_
  refine sx_rd' (rd_assign' rfl) rfl rfl (wt_none' rfl) ?_
  refine sx_nil' ?_
  show TX E K11 _
  refine tx_k' hK11 ?_
  refine cx_seq' fun K12 hK12 => ?_
  refine cx_seq' fun K13 hK13 => ?_
  refine cx_region' ?_
  refine sx_rd' (rd_move' rfl) rfl rfl (wt_none' rfl) ?_
  refine sx_rd' (rd_lenr' (i := 1) rfl rfl rfl Tryd.underlying22) rfl rfl (wt_none' rfl) ?_
  refine sx_rd' (rd_move' rfl) rfl rfl (wt_none' rfl) ?_
  refine sx_rd' (rd_bin' rfl rfl eg_int ru_lss) rfl rfl (wt_none' rfl) ?_
  refine sx_nil' ?_
  show TX E K13 _
  refine tx_k' hK13 ?_
  refine cx_cond' rfl (fun h4 => ?_) (fun h4 => ?_)
  · replace hp := (br_t h4).symm.trans hp
    cases hp
  · replace hp := (br_f h4).symm.trans hp
    refine cx_skip' ?_
    show TX E K12 _
    refine tx_k' hK12 ?_
    refine cx_seq' fun K15 hK15 => ?_
    refine cx_block' ?_
    refine tx_loop' ?_
    refine tx_round' ?_
    refine cx_seq' fun K16 hK16 => ?_
    refine cx_seq' fun K17 hK17 => ?_
    refine cx_region' ?_
    refine sx_rd' (rd_move' rfl) rfl rfl (wt_none' rfl) ?_
    refine sx_rd' (rd_move' rfl) rfl rfl (wt_none' rfl) ?_
    refine sx_rd' (rd_bin' rfl rfl eg_int ru_lss) rfl rfl (wt_none' rfl) ?_
    refine sx_rd' (rd_move' rfl) rfl rfl (wt_none' rfl) ?_
    refine sx_cutn' 3 (fun (v2 : Bool) => (⟨46, [], [(0, (If 32 (Vl (.pointer (some wa0))))), (1, (Vl (Vs (some wa1, 4, 4)))), (2, (Vl (.int .i64 a2))), (6, (Vl (.int .i64 0))), (7, (Vl .nilIface)), (20, (Vl (.bool v2)))], [⟨.pointer (some wa0), [(Sl (Ki .u8) a0_0), (Vl (.int .i64 a0_1)), (Vl (.int .i8 a0_2))], 50, none⟩, (Rw (Ki .u8) 55 (Vs (some wa1, 4, 4)) a1)]⟩ : St)) (fun (v2 : Bool) => io_ReadAtLeast_j2 k a0_0 a0_1 a0_2 a1 a2 v2 = some out) ?_ ?_
    · rintro x2 hp
      replace hp : io_ReadAtLeast_j2 k a0_0 a0_1 a0_2 a1 a2 x2 = some out := hp
      unfold io_ReadAtLeast_j2 at hp
      refine sx_nil' ?_
      show TX E K17 _
      refine tx_k' hK17 ?_
      refine cx_cond' rfl (fun h6 => ?_) (fun h6 => ?_)
      · replace hp := (br_t h6).symm.trans hp
        refine cx_skip' ?_
        show TX E K16 _
        refine tx_k' hK16 ?_
        refine cx_block' ?_
        refine cx_seq' fun K19 hK19 => ?_
        refine cx_region' ?_
        refine sx_rd' (rd_assign' rfl) rfl rfl (wt_none' rfl) ?_
        refine sx_nil' ?_
        show TX E K19 _
        refine tx_k' hK19 ?_
        refine cx_seq' fun K20 hK20 => ?_
        refine cx_plan' [] [(7, 1)] [(0, 1), (1, 1), (2, 1), (3, 1), (4, 1), (5, 1), (6, 1), (7, 0), (8, 1), (9, 1), (10, 1), (11, 1), (12, 1)] mixed (by kernel_rfl) ?_
        refine px_rd' rfl (rd_move' rfl) rfl rfl (wt_none' rfl) ?_
        refine px_rd' rfl (rd_move' rfl) rfl rfl (wt_none' rfl) ?_
        refine px_rd' rfl (rd_move' rfl) rfl rfl (wt_none' rfl) ?_
        refine px_rd' rfl (rd_cut_allr0' (K := (Ki .u8)) (i := 1) rfl rfl rfl rfl Tryd.underlying22 info5) rfl rfl (wt_none' rfl) ?_
        refine px_rd' rfl (rd_mkmeth' rfl) rfl rfl (wt_none' rfl) ?_
        refine px_rd' rfl (rd_nilck_mf' rfl (fun _ _ v hv w => by rw [show v = _ from hv]; exact nla32_Read_ptr _ w)) rfl rfl (wt_none' rfl) ?_
        refine px_rd' rfl (rd_move' rfl) rfl rfl (wt_none' rfl) ?_
        obtain ⟨r901, hr901, hp⟩ := bind_some hp
        refine px_oxb' (is := [0, 1]) rfl (oxb_callg (ent_inv' rfl rfl (inv_any1 inv32_Read)) (bytes_Buffer_Read_sim _ _ _ _ hr901 : Go.Sx.Fn Tryd.prog 35 [(Vl (.pointer (some wa0))), (Vl (Vs (some wa1, 4, 4)))] [⟨.pointer (some wa0), [(Sl (Ki .u8) a0_0), (Vl (.int .i64 a0_1)), (Vl (.int .i8 a0_2))], 50, none⟩, (Rw (Ki .u8) 55 (Vs (some wa1, 4, 4)) a1)] (fun x : Unit => (Tu [(Vl (.int .i64 r901.2.2.2.2)), (Vl .nilIface)])) (fun x => [⟨.pointer (some wa0), [(Sl (Ki .u8) r901.1), (Vl (.int .i64 r901.2.1)), (Vl (.int .i8 r901.2.2.1))], 50, none⟩, (Rw (Ki .u8) 55 (Vs (some wa1, 4, 4)) r901.2.2.2.1)])) [0, 1] [] (by decide) (pick_cons rfl (pick_cons rfl pick_nil)) pick_nil (Hn := fun x : Unit => [⟨.pointer (some wa0), [(Sl (Ki .u8) r901.1), (Vl (.int .i64 r901.2.1)), (Vl (.int .i8 r901.2.2.1))], 50, none⟩, (Rw (Ki .u8) 55 (Vs (some wa1, 4, 4)) r901.2.2.2.1)]) (fun _ => rfl) rfl rfl) (pick_cons rfl (pick_cons rfl pick_nil)) rfl bl_nil (wt_none' rfl) fun ⟨⟩ => ?_
        refine px_rd' rfl (rd_move' rfl) rfl rfl (wt_none' rfl) ?_
        refine px_rd' rfl (rd_extract' rfl rfl) rfl rfl (wt_none' rfl) ?_
        refine px_rd' rfl (rd_extract' rfl rfl) rfl rfl (wt_none' rfl) ?_
        refine px_rd' rfl (rd_assign' rfl) rfl rfl (wt_none' rfl) ?_
        refine px_rd' rfl (rd_assign' rfl) rfl rfl (wt_none' rfl) ?_
        refine px_nil' ?_
        show TX E K20 _
        refine tx_k' hK20 ?_
        refine cx_region' ?_
        refine sx_rd' (rd_move' rfl) rfl rfl (wt_none' rfl) ?_
        refine sx_rd' (rd_move' rfl) rfl rfl (wt_none' rfl) ?_
        refine sx_rd' (rd_bin' rfl rfl eg_int ru_add) rfl rfl (wt_none' rfl) ?_
        refine sx_rd' (rd_assign' rfl) rfl rfl (wt_none' rfl) ?_
        refine sx_nil' ?_
        show TX E (LoopIn _ _ _) _
        refine tx_round' ?_
        refine cx_seq' fun K21 hK21 => ?_
        refine cx_seq' fun K22 hK22 => ?_
        refine cx_region' ?_
        refine sx_rd' (rd_move' rfl) rfl rfl (wt_none' rfl) ?_
        refine sx_rd' (rd_move' rfl) rfl rfl (wt_none' rfl) ?_
        refine sx_rd' (rd_bin' rfl rfl eg_int ru_lss) rfl rfl (wt_none' rfl) ?_
        refine sx_rd' (rd_move' rfl) rfl rfl (wt_none' rfl) ?_
        refine sx_cutn' 3 (fun (v3 : Bool) => (⟨46, [], [(0, (If 32 (Vl (.pointer (some wa0))))), (1, (Vl (Vs (some wa1, 4, 4)))), (2, (Vl (.int .i64 a2))), (6, (Vl (.int .i64 (iadd .i64 0 r901.2.2.2.2)))), (7, (Vl .nilIface)), (20, (Vl (.bool v3)))], [⟨.pointer (some wa0), [(Sl (Ki .u8) r901.1), (Vl (.int .i64 r901.2.1)), (Vl (.int .i8 r901.2.2.1))], 50, none⟩, (Rw (Ki .u8) 55 (Vs (some wa1, 4, 4)) r901.2.2.2.1)]⟩ : St)) (fun (v3 : Bool) => io_ReadAtLeast_j3 k a2 r901 v3 = some out) ?_ ?_
        · rintro x3 hp
          replace hp : io_ReadAtLeast_j3 k a2 r901 x3 = some out := hp
          unfold io_ReadAtLeast_j3 at hp
          refine sx_nil' ?_
          show TX E K22 _
          refine tx_k' hK22 ?_
          refine cx_cond' rfl (fun h8 => ?_) (fun h8 => ?_)
          · replace hp := (br_t h8).symm.trans hp
            cases hp
          · replace hp := (br_f h8).symm.trans hp
            refine cx_exit' ?_
            show TX E K15 _
            refine tx_k' hK15 ?_
            refine cx_seq' fun K26 hK26 => ?_
            refine cx_seq' fun K27 hK27 => ?_
            refine cx_region' ?_
            refine sx_rd' (rd_move' rfl) rfl rfl (wt_none' rfl) ?_
            refine sx_rd' (rd_move' rfl) rfl rfl (wt_none' rfl) ?_
            refine sx_rd' (rd_bin' rfl rfl eg_int ru_geq) rfl rfl (wt_none' rfl) ?_
            refine sx_nil' ?_
            show TX E K27 _
            refine tx_k' hK27 ?_
            refine cx_cond' rfl (fun h9 => ?_) (fun h9 => ?_)
            · replace hp := (br_t h9).symm.trans hp
              refine cx_region' ?_
              refine sx_rd' (rd_assign' rfl) rfl rfl (wt_none' rfl) ?_
              refine sx_nil' ?_
              show TX E K26 _
              refine tx_k' hK26 ?_
              refine cx_retc' ?_
              replace hp := Option.some.inj hp
              subst hp
              refine tx_pick' (L' := [(6, (Vl (.int .i64 (iadd .i64 0 r901.2.2.2.2)))), (7, (Vl .nilIface))]) (H' := [⟨.pointer (some wa0), [(Sl (Ki .u8) r901.1), (Vl (.int .i64 r901.2.1)), (Vl (.int .i8 r901.2.2.1))], 50, none⟩, (Rw (Ki .u8) 55 (Vs (some wa1, 4, 4)) r901.2.2.2.1)]) [0, 1] (sub_cons rfl (sub_cons rfl sub_nil)) (by decide) (pick_cons rfl (pick_cons rfl pick_nil)) ?_
              exact tx_ret2' Tryd.results19 rfl () (rv_tmp' rfl) (rv_tmp' rfl) rfl (List.Sublist.refl _)
            · replace hp := (br_f h9).symm.trans hp
              cases hp
        · intro K23 hK23
          rcases br_cases hp with ⟨h7, hp⟩ | ⟨h7, hp⟩
          · refine sx_rd' (rd_move' rfl) rfl rfl (wt_is' (wt_guard' rfl rfl rfl) (beq_tt h7)) ?_
            refine sx_rd' (rd_binf' rfl rfl (bf_vl (fun _ => by kernel_rfl) nil_eql35_nilif)) rfl rfl (wt_is' (wt_guard' rfl rfl rfl) (beq_tt h7)) ?_
            refine sx_rd' (rd_pick_true' rfl h7 rfl) rfl rfl (wt_none' rfl) ?_
            refine sx_nil' ?_
            show TX E K23 _
            exact tx_pick' [0, 1] (sub_cons rfl (sub_cons rfl (sub_cons rfl (sub_cons rfl (sub_cons rfl (sub_cons rfl sub_nil)))))) (by decide) (pick_cons rfl (pick_cons rfl pick_nil)) (hK23 true hp)
          · refine sx_skip' rfl rfl (wt_is' (wt_guard' rfl rfl rfl) (beq_ft h7)) ?_
            refine sx_skip' rfl rfl (wt_is' (wt_guard' rfl rfl rfl) (beq_ft h7)) ?_
            refine sx_rd' (rd_pick_false' rfl h7 rfl) rfl rfl (wt_none' rfl) ?_
            refine sx_nil' ?_
            show TX E K23 _
            exact tx_pick' [0, 1] (sub_cons rfl (sub_cons rfl (sub_cons rfl (sub_cons rfl (sub_cons rfl (sub_cons rfl sub_nil)))))) (by decide) (pick_cons rfl (pick_cons rfl pick_nil)) (hK23 false hp)
      · replace hp := (br_f h6).symm.trans hp
        refine cx_exit' ?_
        show TX E K15 _
        refine tx_k' hK15 ?_
        refine cx_join' (fun (v4 : Unit) => (⟨46, [], [(6, (Vl (.int .i64 0))), (7, (Vl .nilIface))], [⟨.pointer (some wa0), [(Sl (Ki .u8) a0_0), (Vl (.int .i64 a0_1)), (Vl (.int .i8 a0_2))], 50, none⟩, (Rw (Ki .u8) 55 (Vs (some wa1, 4, 4)) a1)]⟩ : St)) (fun (v4 : Unit) => io_ReadAtLeast_j4 k a0_0 a0_1 a0_2 a1 = some out) ?_ ?_
        · rintro ⟨⟩ hp
          replace hp : io_ReadAtLeast_j4 k a0_0 a0_1 a0_2 a1 = some out := hp
          unfold io_ReadAtLeast_j4 at hp
          refine cx_retc' ?_
          replace hp := Option.some.inj hp
          subst hp
          refine tx_pick' (L' := [(6, (Vl (.int .i64 0))), (7, (Vl .nilIface))]) (H' := [⟨.pointer (some wa0), [(Sl (Ki .u8) a0_0), (Vl (.int .i64 a0_1)), (Vl (.int .i8 a0_2))], 50, none⟩, (Rw (Ki .u8) 55 (Vs (some wa1, 4, 4)) a1)]) [0, 1] (sub_cons rfl (sub_cons rfl sub_nil)) (by decide) (pick_cons rfl (pick_cons rfl pick_nil)) ?_
          exact tx_ret2' Tryd.results19 rfl () (rv_tmp' rfl) (rv_tmp' rfl) rfl (List.Sublist.refl _)
        · intro K26 hK26
          refine cx_seq' fun K27 hK27 => ?_
          refine cx_region' ?_
          refine sx_rd' (rd_move' rfl) rfl rfl (wt_none' rfl) ?_
          refine sx_rd' (rd_move' rfl) rfl rfl (wt_none' rfl) ?_
          refine sx_rd' (rd_bin' rfl rfl eg_int ru_geq) rfl rfl (wt_none' rfl) ?_
          refine sx_nil' ?_
          show TX E K27 _
          refine tx_k' hK27 ?_
          refine cx_cond' rfl (fun h9 => ?_) (fun h9 => ?_)
          · replace hp := (br_t h9).symm.trans hp
            refine cx_region' ?_
            refine sx_rd' (rd_assign' rfl) rfl rfl (wt_none' rfl) ?_
            refine sx_nil' ?_
            show TX E K26 _
            exact tx_pick' [0, 1] (sub_cons rfl (sub_cons rfl sub_nil)) (by decide) (pick_cons rfl (pick_cons rfl pick_nil)) (hK26 () hp)
          · replace hp := (br_f h9).symm.trans hp
            refine cx_seq' fun K28 hK28 => ?_
            refine cx_region' ?_
            refine sx_rd' (rd_move' rfl) rfl rfl (wt_none' rfl) ?_
            refine sx_rd' (rd_bin' rfl rfl eg_int ru_gtr) rfl rfl (wt_none' rfl) ?_
            refine sx_rd' (rd_move' rfl) rfl rfl (wt_none' rfl) ?_
            refine sx_skip' rfl rfl (wt_is' (wt_guard' rfl rfl rfl) (beq_ft rfl)) ?_
            refine sx_skip' rfl rfl (wt_is' (wt_guard' rfl rfl rfl) (beq_ft rfl)) ?_
            refine sx_skip' rfl rfl (wt_is' (wt_guard' rfl rfl rfl) (beq_ft rfl)) ?_
            refine sx_rd' (rd_pick_false' rfl rfl rfl) rfl rfl (wt_none' rfl) ?_
            refine sx_nil' ?_
            show TX E K28 _
            refine tx_k' hK28 ?_
            refine cx_cond_f' rfl rfl ?_
            refine cx_skip' ?_
            show TX E K26 _
            exact tx_pick' [0, 1] (sub_cons rfl (sub_cons rfl sub_nil)) (by decide) (pick_cons rfl (pick_cons rfl pick_nil)) (hK26 () hp)
    · intro K18 hK18
      rcases br_cases hp with ⟨h5, hp⟩ | ⟨h5, hp⟩
      · refine sx_rd' (rd_move' rfl) rfl rfl (wt_is' (wt_guard' rfl rfl rfl) (beq_tt h5)) ?_
        refine sx_rd' (rd_binf' rfl rfl (bf_vl (fun _ => by kernel_rfl) nil_eql35_nilif)) rfl rfl (wt_is' (wt_guard' rfl rfl rfl) (beq_tt h5)) ?_
        refine sx_rd' (rd_pick_true' rfl h5 rfl) rfl rfl (wt_none' rfl) ?_
        refine sx_nil' ?_
        show TX E K18 _
        exact tx_pick' [0, 1] (sub_cons rfl (sub_cons rfl (sub_cons rfl (sub_cons rfl (sub_cons rfl (sub_cons rfl sub_nil)))))) (by decide) (pick_cons rfl (pick_cons rfl pick_nil)) (hK18 true hp)
      · refine sx_skip' rfl rfl (wt_is' (wt_guard' rfl rfl rfl) (beq_ft h5)) ?_
        refine sx_skip' rfl rfl (wt_is' (wt_guard' rfl rfl rfl) (beq_ft h5)) ?_
        refine sx_rd' (rd_pick_false' rfl h5 rfl) rfl rfl (wt_none' rfl) ?_
        refine sx_nil' ?_
        show TX E K18 _
        exact tx_pick' [0, 1] (sub_cons rfl (sub_cons rfl (sub_cons rfl (sub_cons rfl (sub_cons rfl (sub_cons rfl sub_nil)))))) (by decide) (pick_cons rfl (pick_cons rfl pick_nil)) (hK18 false hp)

def io_ReadFull (k : Nat) (a0_0 : List Int) (a0_1 : Int) (a0_2 : Int) (a1 : List Int) : Option ((List Int) × Int × Int × (List Int) × Int) :=
  (io_ReadAtLeast k a0_0 a0_1 a0_2 a1 (a1.length : Int)) >>= fun r10 =>
  some (r10.1, r10.2.1, r10.2.2.1, r10.2.2.2.1, r10.2.2.2.2)

theorem io_ReadFull_sim {k : Nat} {wa0 : Addr} {wa1 : Addr} (a0_0 : List Int) (a0_1 : Int) (a0_2 : Int) (a1 : List Int) {out : (List Int) × Int × Int × (List Int) × Int} (hp : io_ReadFull k a0_0 a0_1 a0_2 a1 = some out) : Go.Sx.Fn Tryd.prog 18 [(If 32 (Vl (.pointer (some wa0)))), (Vl (Vs (some wa1, 4, 4)))] [⟨.pointer (some wa0), [(Sl (Ki .u8) a0_0), (Vl (.int .i64 a0_1)), (Vl (.int .i8 a0_2))], 50, none⟩, (Rw (Ki .u8) 55 (Vs (some wa1, 4, 4)) a1)] (fun w : Unit => (Tu [(Vl (.int .i64 out.2.2.2.2)), (Vl .nilIface)])) (fun w => [⟨.pointer (some wa0), [(Sl (Ki .u8) out.1), (Vl (.int .i64 out.2.1)), (Vl (.int .i8 out.2.2.1))], 50, none⟩, (Rw (Ki .u8) 55 (Vs (some wa1, 4, 4)) out.2.2.2.1)]) := by
  unfold io_ReadFull at hp
  refine fn_of Tryd.func18 rfl Tryd.ntmps18 rfl fun E hM => ?_
  refine cx_seq' fun K1 hK1 => ?_
  refine cx_region' ?_
  refine sx_rd' (rd_assign' rfl) rfl rfl (wt_none' rfl) ?_
  refine sx_rd' (rd_assign' rfl) rfl rfl (wt_none' rfl) ?_
  refine sx_nil' ?_
  show TX E K1 _
  refine tx_k' hK1 ?_
  refine cx_seq' fun K2 hK2 => ?_
  refine cx_region' ?_
  refine sx_rd' (rd_move' rfl) rfl rfl (wt_none' rfl) ?_
  refine sx_rd' (rd_move' rfl) rfl rfl (wt_none' rfl) ?_
  refine sx_rd' (rd_move' rfl) rfl rfl (wt_none' rfl) ?_
  refine sx_rd' (rd_lenr' (i := 1) rfl rfl rfl Tryd.underlying22) rfl rfl (wt_none' rfl) ?_
  obtain ⟨r10, hr10, hp⟩ := bind_some hp
  refine sx_ox' (ox_callg' (ent_fn' Tryd.func19 isn19 rfl rfl) (io_ReadAtLeast_sim _ _ _ _ _ hr10 : Go.Sx.Fn Tryd.prog 19 [(If 32 (Vl (.pointer (some wa0)))), (Vl (Vs (some wa1, 4, 4))), (Vl (.int .i64 (a1.length : Int)))] [⟨.pointer (some wa0), [(Sl (Ki .u8) a0_0), (Vl (.int .i64 a0_1)), (Vl (.int .i8 a0_2))], 50, none⟩, (Rw (Ki .u8) 55 (Vs (some wa1, 4, 4)) a1)] (fun x : Unit => (Tu [(Vl (.int .i64 r10.2.2.2.2)), (Vl .nilIface)])) (fun x => [⟨.pointer (some wa0), [(Sl (Ki .u8) r10.1), (Vl (.int .i64 r10.2.1)), (Vl (.int .i8 r10.2.2.1))], 50, none⟩, (Rw (Ki .u8) 55 (Vs (some wa1, 4, 4)) r10.2.2.2.1)])) [0, 1] [] (by decide) (pick_cons rfl (pick_cons rfl pick_nil)) pick_nil (Hn := fun x : Unit => [⟨.pointer (some wa0), [(Sl (Ki .u8) r10.1), (Vl (.int .i64 r10.2.1)), (Vl (.int .i8 r10.2.2.1))], 50, none⟩, (Rw (Ki .u8) 55 (Vs (some wa1, 4, 4)) r10.2.2.2.1)]) (fun _ => rfl) rfl rfl) (wt_none' rfl) fun ⟨⟩ => ?_
  refine sx_rd' (rd_extract' rfl rfl) rfl rfl (wt_none' rfl) ?_
  refine sx_rd' (rd_extract' rfl rfl) rfl rfl (wt_none' rfl) ?_
  refine sx_rd' (rd_assign' rfl) rfl rfl (wt_none' rfl) ?_
  refine sx_rd' (rd_assign' rfl) rfl rfl (wt_none' rfl) ?_
  refine sx_nil' ?_
  show TX E K2 _
  refine tx_k' hK2 ?_
  refine cx_retc' ?_
  replace hp := Option.some.inj hp
  subst hp
  refine tx_pick' (L' := [(4, (Vl (.int .i64 r10.2.2.2.2))), (5, (Vl .nilIface))]) (H' := [⟨.pointer (some wa0), [(Sl (Ki .u8) r10.1), (Vl (.int .i64 r10.2.1)), (Vl (.int .i8 r10.2.2.1))], 50, none⟩, (Rw (Ki .u8) 55 (Vs (some wa1, 4, 4)) r10.2.2.2.1)]) [0, 1] (sub_cons rfl (sub_cons rfl sub_nil)) (by decide) (pick_cons rfl (pick_cons rfl pick_nil)) ?_
  exact tx_ret2' Tryd.results18 rfl () (rv_tmp' rfl) (rv_tmp' rfl) rfl (List.Sublist.refl _)

def binary_bigEndian_Uint32 (k : Nat) (a1 : List Int) : Option (Int) :=
  (idx a1 3) >>= fun r6 =>
  (idx a1 3) >>= fun r9 =>
  (idx a1 2) >>= fun r13 =>
  (ishl .u32 (icv .u32 r13) 8) >>= fun r16 =>
  (idx a1 1) >>= fun r19 =>
  (ishl .u32 (icv .u32 r19) 16) >>= fun r22 =>
  (idx a1 0) >>= fun r25 =>
  (ishl .u32 (icv .u32 r25) 24) >>= fun r28 =>
  some (ior .u32 (ior .u32 (ior .u32 (icv .u32 r9) r16) r22) r28)

theorem binary_bigEndian_Uint32_sim {k : Nat}  (a1 : List Int) {out : Int} (hp : binary_bigEndian_Uint32 k a1 = some out) : Go.Sx.Fn Tryd.prog 50 [(Ag []), (Sl (Ki .u8) a1)] [] (fun w : Unit => (Vl (.int .u32 out))) (fun w => []) := by
  unfold binary_bigEndian_Uint32 at hp
  refine fn_of Tryd.func50 rfl Tryd.ntmps50 rfl fun E hM => ?_
  refine cx_seq' fun K1 hK1 => ?_
  refine cx_region' ?_
  refine sx_ox' (ox_box' rfl (lv_ag _) rfl rfl) (wt_none' rfl) fun q2 => ?_
  refine sx_rd' (rd_assign' rfl) rfl rfl (wt_none' rfl) ?_
  refine sx_nil' ?_
  show TX E K1 _
  refine tx_k' hK1 ?_
  refine cx_seq' fun K2 hK2 => ?_
  refine cx_region' ?_
  refine sx_rd' (rd_move' rfl) rfl rfl (wt_none' rfl) ?_
  obtain ⟨r6, hr6, hp⟩ := bind_some hp
  refine sx_rd' (rd_at' (K := (Ki .u8)) rfl rfl hr6 Tryd.underlying22 info5) rfl rfl (wt_none' rfl) ?_
  refine sx_rd' (rd_load_pt' rfl rfl flat5) rfl rfl (wt_none' rfl) ?_
  refine sx_nil' ?_
  show TX E K2 _
  refine tx_k' hK2 ?_
  refine cx_seq' fun K3 hK3 => ?_
  refine cx_draw' mixed (by kernel_rfl) ?_
  refine qx_rd' (rd_move' rfl) rfl rfl (wt_none' rfl) ?_
  obtain ⟨r9, hr9, hp⟩ := bind_some hp
  refine qx_rd' (rd_at' (K := (Ki .u8)) rfl rfl hr9 Tryd.underlying22 info5) rfl rfl (wt_none' rfl) ?_
  refine qx_rd' (rd_load_pt' rfl rfl flat5) rfl rfl (wt_none' rfl) ?_
  refine qx_rd' (rd_conv' rfl (ru_i2i (by rw [Tryd.underlying5]; rfl) Tryd.underlying23)) rfl rfl (wt_none' rfl) ?_
  refine qx_rd' (rd_move' rfl) rfl rfl (wt_none' rfl) ?_
  obtain ⟨r13, hr13, hp⟩ := bind_some hp
  refine qx_rd' (rd_at' (K := (Ki .u8)) rfl rfl hr13 Tryd.underlying22 info5) rfl rfl (wt_none' rfl) ?_
  refine qx_rd' (rd_load_pt' rfl rfl flat5) rfl rfl (wt_none' rfl) ?_
  refine qx_rd' (rd_conv' rfl (ru_i2i (by rw [Tryd.underlying5]; rfl) Tryd.underlying23)) rfl rfl (wt_none' rfl) ?_
  obtain ⟨r16, hr16, hp⟩ := bind_some hp
  refine qx_rd' (rd_bin' rfl rfl eg_int (ru_shl hr16)) rfl rfl (wt_none' rfl) ?_
  refine qx_rd' (rd_bin' rfl rfl eg_int ru_or) rfl rfl (wt_none' rfl) ?_
  refine qx_rd' (rd_move' rfl) rfl rfl (wt_none' rfl) ?_
  obtain ⟨r19, hr19, hp⟩ := bind_some hp
  refine qx_rd' (rd_at' (K := (Ki .u8)) rfl rfl hr19 Tryd.underlying22 info5) rfl rfl (wt_none' rfl) ?_
  refine qx_rd' (rd_load_pt' rfl rfl flat5) rfl rfl (wt_none' rfl) ?_
  refine qx_rd' (rd_conv' rfl (ru_i2i (by rw [Tryd.underlying5]; rfl) Tryd.underlying23)) rfl rfl (wt_none' rfl) ?_
  obtain ⟨r22, hr22, hp⟩ := bind_some hp
  refine qx_rd' (rd_bin' rfl rfl eg_int (ru_shl hr22)) rfl rfl (wt_none' rfl) ?_
  refine qx_rd' (rd_bin' rfl rfl eg_int ru_or) rfl rfl (wt_none' rfl) ?_
  refine qx_rd' (rd_move' rfl) rfl rfl (wt_none' rfl) ?_
  obtain ⟨r25, hr25, hp⟩ := bind_some hp
  refine qx_rd' (rd_at' (K := (Ki .u8)) rfl rfl hr25 Tryd.underlying22 info5) rfl rfl (wt_none' rfl) ?_
  refine qx_rd' (rd_load_pt' rfl rfl flat5) rfl rfl (wt_none' rfl) ?_
  refine qx_rd' (rd_conv' rfl (ru_i2i (by rw [Tryd.underlying5]; rfl) Tryd.underlying23)) rfl rfl (wt_none' rfl) ?_
  obtain ⟨r28, hr28, hp⟩ := bind_some hp
  refine qx_rd' (rd_bin' rfl rfl eg_int (ru_shl hr28)) rfl rfl (wt_none' rfl) ?_
  refine qx_rd' (rd_bin' rfl rfl eg_int ru_or) rfl rfl (wt_none' rfl) ?_
  refine qx_rd' (rd_assign' rfl) rfl rfl (wt_none' rfl) ?_
  refine qx_nil' ?_
  show TX E K3 _
  refine tx_k' hK3 ?_
  refine cx_retc' ?_
  replace hp := Option.some.inj hp
  subst hp
  refine tx_pick' (L' := [(4, (Vl (.int .u32 (ior .u32 (ior .u32 (ior .u32 (icv .u32 r9) r16) r22) r28))))]) (H' := []) [] (sub_cons rfl sub_nil) (by decide) pick_nil ?_
  exact tx_ret1' Tryd.results50 rfl () (rv_tmp' rfl) (List.Sublist.refl _)

def wkbcommon_ReadUInt32 (k : Nat) (a0_0 : List Int) (a0_1 : Int) (a0_2 : Int) : Option ((List Int) × Int × Int × Int) :=
  (io_ReadFull k a0_0 a0_1 a0_2 ([0, 0, 0, 0])) >>= fun r12 =>
  (binary_bigEndian_Uint32 k r12.2.2.2.1) >>= fun r23 =>
  some (r12.1, r12.2.1, r12.2.2.1, r23)

theorem wkbcommon_ReadUInt32_sim {k : Nat} {wa0 : Addr} (a0_0 : List Int) (a0_1 : Int) (a0_2 : Int) {out : (List Int) × Int × Int × Int} (hp : wkbcommon_ReadUInt32 k a0_0 a0_1 a0_2 = some out) : Go.Sx.Fn Tryd.prog 11 [(If 32 (Vl (.pointer (some wa0)))), (If 60 (Ag []))] [⟨.pointer (some wa0), [(Sl (Ki .u8) a0_0), (Vl (.int .i64 a0_1)), (Vl (.int .i8 a0_2))], 50, none⟩] (fun w : Unit => (Tu [(Vl (.int .u32 out.2.2.2)), (Vl .nilIface)])) (fun w => [⟨.pointer (some wa0), [(Sl (Ki .u8) out.1), (Vl (.int .i64 out.2.1)), (Vl (.int .i8 out.2.2.1))], 50, none⟩]) := by
  unfold wkbcommon_ReadUInt32 at hp
  refine fn_of Tryd.func11 rfl Tryd.ntmps11 rfl fun E hM => ?_
  refine cx_seq' fun K1 hK1 => ?_
  refine cx_region' ?_
  refine sx_rd' (rd_assign' rfl) rfl rfl (wt_none' rfl) ?_
  refine sx_rd' (rd_assign' rfl) rfl rfl (wt_none' rfl) ?_
  refine sx_nil' ?_
  show TX E K1 _
  refine tx_k' hK1 ?_
  refine cx_seq' fun K2 hK2 => ?_
  refine cx_region' ?_
  refine sx_ox' (ox_alloc' info55 rfl rfl rfl rfl (l := [(Vl (.int .u8 0)), (Vl (.int .u8 0)), (Vl (.int .u8 0)), (Vl (.int .u8 0))]) rfl) (wt_none' rfl) fun q6 => ?_
  refine tx_arr' (K := (Ki .u8)) (xs := [0, 0, 0, 0]) (m := 4) (i := 0) rfl rfl rfl (H' := [(Rw (Ki .u8) 55 (Vs (some q6, 4, 4)) ([0, 0, 0, 0])), ⟨.pointer (some wa0), [(Sl (Ki .u8) a0_0), (Vl (.int .i64 a0_1)), (Vl (.int .i8 a0_2))], 50, none⟩]) rfl ?_
  refine sx_nil' ?_
  show TX E K2 _
  refine tx_k' hK2 ?_
  refine cx_seq' fun K3 hK3 => ?_
  refine cx_seq' fun K4 hK4 => ?_
  refine cx_region' ?_
  refine sx_rd' (rd_move' rfl) rfl rfl (wt_none' rfl) ?_
  refine sx_rd' (rd_cut_arr' (q := q6) rfl Tryd.underlying55 info5) rfl rfl (wt_none' rfl) ?_
  obtain ⟨r12, hr12, hp⟩ := bind_some hp
  refine sx_ox' (ox_callg' (ent_fn' Tryd.func18 isn18 rfl rfl) (io_ReadFull_sim _ _ _ _ hr12 : Go.Sx.Fn Tryd.prog 18 [(If 32 (Vl (.pointer (some wa0)))), (Vl (Vs (some q6, 4, 4)))] [⟨.pointer (some wa0), [(Sl (Ki .u8) a0_0), (Vl (.int .i64 a0_1)), (Vl (.int .i8 a0_2))], 50, none⟩, (Rw (Ki .u8) 55 (Vs (some q6, 4, 4)) ([0, 0, 0, 0]))] (fun x : Unit => (Tu [(Vl (.int .i64 r12.2.2.2.2)), (Vl .nilIface)])) (fun x => [⟨.pointer (some wa0), [(Sl (Ki .u8) r12.1), (Vl (.int .i64 r12.2.1)), (Vl (.int .i8 r12.2.2.1))], 50, none⟩, (Rw (Ki .u8) 55 (Vs (some q6, 4, 4)) r12.2.2.2.1)])) [1, 0] [] (by decide) (pick_cons rfl (pick_cons rfl pick_nil)) pick_nil (Hn := fun x : Unit => [⟨.pointer (some wa0), [(Sl (Ki .u8) r12.1), (Vl (.int .i64 r12.2.1)), (Vl (.int .i8 r12.2.2.1))], 50, none⟩, (Rw (Ki .u8) 55 (Vs (some q6, 4, 4)) r12.2.2.2.1)]) (fun _ => rfl) rfl rfl) (wt_none' rfl) fun ⟨⟩ => ?_
  refine sx_rd' (rd_move' rfl) rfl rfl (wt_none' rfl) ?_
  refine sx_rd' (rd_extract' rfl rfl) rfl rfl (wt_none' rfl) ?_
  refine sx_rd' (rd_extract' rfl rfl) rfl rfl (wt_none' rfl) ?_
  refine sx_rd' (rd_assign' rfl) rfl rfl (wt_none' rfl) ?_
  refine sx_rd' (rd_assign' rfl) rfl rfl (wt_none' rfl) ?_
  refine sx_nil' ?_
  show TX E K4 _
  refine tx_k' hK4 ?_
  refine cx_seq' fun K5 hK5 => ?_
  refine cx_region' ?_
  refine sx_rd' (rd_move' rfl) rfl rfl (wt_none' rfl) ?_
  refine sx_rd' (rd_binf' rfl rfl (bf_vl (fun _ => by kernel_rfl) nil_neq35_nilif)) rfl rfl (wt_none' rfl) ?_
  refine sx_nil' ?_
  show TX E K5 _
  refine tx_k' hK5 ?_
  refine cx_cond_f' rfl rfl ?_
  refine cx_skip' ?_
  show TX E K3 _
  refine tx_k' hK3 ?_
  refine cx_seq' fun K6 hK6 => ?_
  refine cx_plan' [] [] [(0, 1), (1, 1), (2, 1), (3, 1), (4, 1), (5, 0), (6, 1), (7, 1)] mixed (by kernel_rfl) ?_
  refine px_rd' rfl (rd_move' rfl) rfl rfl (wt_none' rfl) ?_
  refine px_rd' rfl (rd_cut_arr' (q := q6) rfl Tryd.underlying55 info5) rfl rfl (wt_none' rfl) ?_
  refine px_rd' rfl (rd_mkmeth' rfl) rfl rfl (wt_none' rfl) ?_
  refine px_rd' rfl (rd_nilck_mf' rfl (fun _ _ v _ w => nla60_Uint32_ag v w)) rfl rfl (wt_none' rfl) ?_
  refine px_rd' rfl (rd_move' rfl) rfl rfl (wt_none' rfl) ?_
  obtain ⟨r23, hr23, hp⟩ := bind_some hp
  refine px_ox' rfl (ox_brw' (frz_row 1 [(11, (Vl (Vs (some q6, 4, 4))), (Sl (Ki .u8) r12.2.2.2.1)), (19, (Vl (Vs (some q6, 4, 4))), (Sl (Ki .u8) r12.2.2.2.1))] (K := (Ki .u8)) (xs := r12.2.2.2.1) (by decide) rfl ⟨⟨rfl, frz_it⟩, ⟨rfl, frz_it⟩, trivial⟩ (H' := [⟨.pointer (some wa0), [(Sl (Ki .u8) r12.1), (Vl (.int .i64 r12.2.1)), (Vl (.int .i8 r12.2.2.1))], 50, none⟩]) frzH_refl) (ent_inv' rfl rfl (inv_any1 inv60_Uint32)) (binary_bigEndian_Uint32_sim _ hr23 : Go.Sx.Fn Tryd.prog 50 [(Ag []), (Sl (Ki .u8) r12.2.2.2.1)] [] (fun x : Unit => (Vl (.int .u32 r23))) (fun x => [])) pu_vl rfl rfl) rfl bs_nil (wt_none' rfl) fun ⟨⟩ => ?_
  refine px_rd' rfl (rd_assign' rfl) rfl rfl (wt_none' rfl) ?_
  refine px_rd' rfl (rd_assign' rfl) rfl rfl (wt_none' rfl) ?_
  refine px_nil' ?_
  show TX E K6 _
  refine tx_k' hK6 ?_
  refine cx_retc' ?_
  replace hp := Option.some.inj hp
  subst hp
  refine tx_pick' (L' := [(4, (Vl (.int .u32 r23))), (5, (Vl .nilIface))]) (H' := [⟨.pointer (some wa0), [(Sl (Ki .u8) r12.1), (Vl (.int .i64 r12.2.1)), (Vl (.int .i8 r12.2.2.1))], 50, none⟩]) [0] (sub_cons rfl (sub_cons rfl sub_nil)) (by decide) (pick_cons rfl pick_nil) ?_
  exact tx_ret2' Tryd.results11 rfl () (rv_tmp' rfl) (rv_tmp' rfl) rfl (List.Sublist.refl _)

def bytes_Buffer_Len_v2 (k : Nat) (a0_0 : List Int) (a0_1 : Int) (a0_2 : Int) : Option ((List Int) × Int × Int × Int) :=
  some (a0_0, a0_1, a0_2, isub .i64 (a0_0.length : Int) a0_1)

theorem bytes_Buffer_Len_v2_sim {k : Nat} {wa0 : Addr} (a0_0 : List Int) (a0_1 : Int) (a0_2 : Int) {out : (List Int) × Int × Int × Int} (hp : bytes_Buffer_Len_v2 k a0_0 a0_1 a0_2 = some out) : Go.Sx.Fn Tryd.prog 13 [(Vl (.pointer (some wa0)))] [⟨.pointer (some wa0), [(Sl (Ki .u8) a0_0), (Vl (.int .i64 a0_1)), (Vl (.int .i8 a0_2))], 50, none⟩] (fun w : Unit => (Vl (.int .i64 out.2.2.2))) (fun w => [⟨.pointer (some wa0), [(Sl (Ki .u8) out.1), (Vl (.int .i64 out.2.1)), (Vl (.int .i8 out.2.2.1))], 50, none⟩]) := by
  unfold bytes_Buffer_Len_v2 at hp
  refine fn_of Tryd.func13 rfl Tryd.ntmps13 rfl fun E hM => ?_
  refine cx_seq' fun K1 hK1 => ?_
  refine cx_region' ?_
  refine sx_rd' (rd_assign' rfl) rfl rfl (wt_none' rfl) ?_
  refine sx_nil' ?_
  show TX E K1 _
  refine tx_k' hK1 ?_
  refine cx_seq' fun K2 hK2 => ?_
  refine cx_draw' mixed (by kernel_rfl) ?_
  refine qx_rd' (rd_move' rfl) rfl rfl (wt_none' rfl) ?_
  refine qx_rd' (rd_nilck' rfl) rfl rfl (wt_none' rfl) ?_
  refine qx_rd' (rd_field0' rfl Tryd.underlying50 rfl info22 rfl) rfl rfl (wt_none' rfl) ?_
  refine qx_rd' (rd_load' (i := 0) (o := 0) rfl ⟨rfl, rfl, rfl, rfl⟩ rfl flat22) rfl rfl (wt_none' rfl) ?_
  refine qx_rd' (rd_len' rfl Tryd.underlying22) rfl rfl (wt_none' rfl) ?_
  refine qx_rd' (rd_move' rfl) rfl rfl (wt_none' rfl) ?_
  refine qx_rd' (rd_nilck' rfl) rfl rfl (wt_none' rfl) ?_
  refine qx_rd' (rd_field' (off := 1) rfl Tryd.underlying50 rfl info3 rfl) rfl rfl (wt_none' rfl) ?_
  refine qx_rd' (rd_load' (i := 0) (o := 1) rfl ⟨rfl, rfl, rfl, rfl⟩ rfl flat3) rfl rfl (wt_none' rfl) ?_
  refine qx_rd' (rd_bin' rfl rfl eg_int ru_sub) rfl rfl (wt_none' rfl) ?_
  refine qx_rd' (rd_assign' rfl) rfl rfl (wt_none' rfl) ?_
  refine qx_nil' ?_
  show TX E K2 _
  refine tx_k' hK2 ?_
  refine cx_retc' ?_
  replace hp := Option.some.inj hp
  subst hp
  refine tx_pick' (L' := [(2, (Vl (.int .i64 (isub .i64 (a0_0.length : Int) a0_1))))]) (H' := [⟨.pointer (some wa0), [(Sl (Ki .u8) a0_0), (Vl (.int .i64 a0_1)), (Vl (.int .i8 a0_2))], 50, none⟩]) [0] (sub_cons rfl sub_nil) (by decide) (pick_cons rfl pick_nil) ?_
  exact tx_ret1' Tryd.results13 rfl () (rv_tmp' rfl) (List.Sublist.refl _)

def binary_littleEndian_Uint32 (k : Nat) (a1 : List Int) : Option (Int) :=
  (idx a1 3) >>= fun r6 =>
  (idx a1 0) >>= fun r9 =>
  (idx a1 1) >>= fun r13 =>
  (ishl .u32 (icv .u32 r13) 8) >>= fun r16 =>
  (idx a1 2) >>= fun r19 =>
  (ishl .u32 (icv .u32 r19) 16) >>= fun r22 =>
  (idx a1 3) >>= fun r25 =>
  (ishl .u32 (icv .u32 r25) 24) >>= fun r28 =>
  some (ior .u32 (ior .u32 (ior .u32 (icv .u32 r9) r16) r22) r28)

theorem binary_littleEndian_Uint32_sim {k : Nat}  (a1 : List Int) {out : Int} (hp : binary_littleEndian_Uint32 k a1 = some out) : Go.Sx.Fn Tryd.prog 58 [(Ag []), (Sl (Ki .u8) a1)] [] (fun w : Unit => (Vl (.int .u32 out))) (fun w => []) := by
  unfold binary_littleEndian_Uint32 at hp
  refine fn_of Tryd.func58 rfl Tryd.ntmps58 rfl fun E hM => ?_
  refine cx_seq' fun K1 hK1 => ?_
  refine cx_region' ?_
  refine sx_ox' (ox_box' rfl (lv_ag _) rfl rfl) (wt_none' rfl) fun q2 => ?_
  refine sx_rd' (rd_assign' rfl) rfl rfl (wt_none' rfl) ?_
  refine sx_nil' ?_
  show TX E K1 _
  refine tx_k' hK1 ?_
  refine cx_seq' fun K2 hK2 => ?_
  refine cx_region' ?_
  refine sx_rd' (rd_move' rfl) rfl rfl (wt_none' rfl) ?_
  obtain ⟨r6, hr6, hp⟩ := bind_some hp
  refine sx_rd' (rd_at' (K := (Ki .u8)) rfl rfl hr6 Tryd.underlying22 info5) rfl rfl (wt_none' rfl) ?_
  refine sx_rd' (rd_load_pt' rfl rfl flat5) rfl rfl (wt_none' rfl) ?_
  refine sx_nil' ?_
  show TX E K2 _
  refine tx_k' hK2 ?_
  refine cx_seq' fun K3 hK3 => ?_
  refine cx_draw' mixed (by kernel_rfl) ?_
  refine qx_rd' (rd_move' rfl) rfl rfl (wt_none' rfl) ?_
  obtain ⟨r9, hr9, hp⟩ := bind_some hp
  refine qx_rd' (rd_at' (K := (Ki .u8)) rfl rfl hr9 Tryd.underlying22 info5) rfl rfl (wt_none' rfl) ?_
  refine qx_rd' (rd_load_pt' rfl rfl flat5) rfl rfl (wt_none' rfl) ?_
  refine qx_rd' (rd_conv' rfl (ru_i2i (by rw [Tryd.underlying5]; rfl) Tryd.underlying23)) rfl rfl (wt_none' rfl) ?_
  refine qx_rd' (rd_move' rfl) rfl rfl (wt_none' rfl) ?_
  obtain ⟨r13, hr13, hp⟩ := bind_some hp
  refine qx_rd' (rd_at' (K := (Ki .u8)) rfl rfl hr13 Tryd.underlying22 info5) rfl rfl (wt_none' rfl) ?_
  refine qx_rd' (rd_load_pt' rfl rfl flat5) rfl rfl (wt_none' rfl) ?_
  refine qx_rd' (rd_conv' rfl (ru_i2i (by rw [Tryd.underlying5]; rfl) Tryd.underlying23)) rfl rfl (wt_none' rfl) ?_
  obtain ⟨r16, hr16, hp⟩ := bind_some hp
  refine qx_rd' (rd_bin' rfl rfl eg_int (ru_shl hr16)) rfl rfl (wt_none' rfl) ?_
  refine qx_rd' (rd_bin' rfl rfl eg_int ru_or) rfl rfl (wt_none' rfl) ?_
  refine qx_rd' (rd_move' rfl) rfl rfl (wt_none' rfl) ?_
  obtain ⟨r19, hr19, hp⟩ := bind_some hp
  refine qx_rd' (rd_at' (K := (Ki .u8)) rfl rfl hr19 Tryd.underlying22 info5) rfl rfl (wt_none' rfl) ?_
  refine qx_rd' (rd_load_pt' rfl rfl flat5) rfl rfl (wt_none' rfl) ?_
  refine qx_rd' (rd_conv' rfl (ru_i2i (by rw [Tryd.underlying5]; rfl) Tryd.underlying23)) rfl rfl (wt_none' rfl) ?_
  obtain ⟨r22, hr22, hp⟩ := bind_some hp
  refine qx_rd' (rd_bin' rfl rfl eg_int (ru_shl hr22)) rfl rfl (wt_none' rfl) ?_
  refine qx_rd' (rd_bin' rfl rfl eg_int ru_or) rfl rfl (wt_none' rfl) ?_
  refine qx_rd' (rd_move' rfl) rfl rfl (wt_none' rfl) ?_
  obtain ⟨r25, hr25, hp⟩ := bind_some hp
  refine qx_rd' (rd_at' (K := (Ki .u8)) rfl rfl hr25 Tryd.underlying22 info5) rfl rfl (wt_none' rfl) ?_
  refine qx_rd' (rd_load_pt' rfl rfl flat5) rfl rfl (wt_none' rfl) ?_
  refine qx_rd' (rd_conv' rfl (ru_i2i (by rw [Tryd.underlying5]; rfl) Tryd.underlying23)) rfl rfl (wt_none' rfl) ?_
  obtain ⟨r28, hr28, hp⟩ := bind_some hp
  refine qx_rd' (rd_bin' rfl rfl eg_int (ru_shl hr28)) rfl rfl (wt_none' rfl) ?_
  refine qx_rd' (rd_bin' rfl rfl eg_int ru_or) rfl rfl (wt_none' rfl) ?_
  refine qx_rd' (rd_assign' rfl) rfl rfl (wt_none' rfl) ?_
  refine qx_nil' ?_
  show TX E K3 _
  refine tx_k' hK3 ?_
  refine cx_retc' ?_
  replace hp := Option.some.inj hp
  subst hp
  refine tx_pick' (L' := [(4, (Vl (.int .u32 (ior .u32 (ior .u32 (ior .u32 (icv .u32 r9) r16) r22) r28))))]) (H' := []) [] (sub_cons rfl sub_nil) (by decide) pick_nil ?_
  exact tx_ret1' Tryd.results58 rfl () (rv_tmp' rfl) (List.Sublist.refl _)

def wkbcommon_ReadUInt32_v2 (k : Nat) (a0_0 : List Int) (a0_1 : Int) (a0_2 : Int) : Option ((List Int) × Int × Int × Int) :=
  (io_ReadFull k a0_0 a0_1 a0_2 ([0, 0, 0, 0])) >>= fun r12 =>
  (binary_littleEndian_Uint32 k r12.2.2.2.1) >>= fun r23 =>
  some (r12.1, r12.2.1, r12.2.2.1, r23)

theorem wkbcommon_ReadUInt32_v2_sim {k : Nat} {wa0 : Addr} (a0_0 : List Int) (a0_1 : Int) (a0_2 : Int) {out : (List Int) × Int × Int × Int} (hp : wkbcommon_ReadUInt32_v2 k a0_0 a0_1 a0_2 = some out) : Go.Sx.Fn Tryd.prog 11 [(If 32 (Vl (.pointer (some wa0)))), (If 61 (Ag []))] [⟨.pointer (some wa0), [(Sl (Ki .u8) a0_0), (Vl (.int .i64 a0_1)), (Vl (.int .i8 a0_2))], 50, none⟩] (fun w : Unit => (Tu [(Vl (.int .u32 out.2.2.2)), (Vl .nilIface)])) (fun w => [⟨.pointer (some wa0), [(Sl (Ki .u8) out.1), (Vl (.int .i64 out.2.1)), (Vl (.int .i8 out.2.2.1))], 50, none⟩]) := by
  unfold wkbcommon_ReadUInt32_v2 at hp
  refine fn_of Tryd.func11 rfl Tryd.ntmps11 rfl fun E hM => ?_
  refine cx_seq' fun K1 hK1 => ?_
  refine cx_region' ?_
  refine sx_rd' (rd_assign' rfl) rfl rfl (wt_none' rfl) ?_
  refine sx_rd' (rd_assign' rfl) rfl rfl (wt_none' rfl) ?_
  refine sx_nil' ?_
  show TX E K1 _
  refine tx_k' hK1 ?_
  refine cx_seq' fun K2 hK2 => ?_
  refine cx_region' ?_
  refine sx_ox' (ox_alloc' info55 rfl rfl rfl rfl (l := [(Vl (.int .u8 0)), (Vl (.int .u8 0)), (Vl (.int .u8 0)), (Vl (.int .u8 0))]) rfl) (wt_none' rfl) fun q6 => ?_
  refine tx_arr' (K := (Ki .u8)) (xs := [0, 0, 0, 0]) (m := 4) (i := 0) rfl rfl rfl (H' := [(Rw (Ki .u8) 55 (Vs (some q6, 4, 4)) ([0, 0, 0, 0])), ⟨.pointer (some wa0), [(Sl (Ki .u8) a0_0), (Vl (.int .i64 a0_1)), (Vl (.int .i8 a0_2))], 50, none⟩]) rfl ?_
  refine sx_nil' ?_
  show TX E K2 _
  refine tx_k' hK2 ?_
  refine cx_seq' fun K3 hK3 => ?_
  refine cx_seq' fun K4 hK4 => ?_
  refine cx_region' ?_
  refine sx_rd' (rd_move' rfl) rfl rfl (wt_none' rfl) ?_
  refine sx_rd' (rd_cut_arr' (q := q6) rfl Tryd.underlying55 info5) rfl rfl (wt_none' rfl) ?_
  obtain ⟨r12, hr12, hp⟩ := bind_some hp
  refine sx_ox' (ox_callg' (ent_fn' Tryd.func18 isn18 rfl rfl) (io_ReadFull_sim _ _ _ _ hr12 : Go.Sx.Fn Tryd.prog 18 [(If 32 (Vl (.pointer (some wa0)))), (Vl (Vs (some q6, 4, 4)))] [⟨.pointer (some wa0), [(Sl (Ki .u8) a0_0), (Vl (.int .i64 a0_1)), (Vl (.int .i8 a0_2))], 50, none⟩, (Rw (Ki .u8) 55 (Vs (some q6, 4, 4)) ([0, 0, 0, 0]))] (fun x : Unit => (Tu [(Vl (.int .i64 r12.2.2.2.2)), (Vl .nilIface)])) (fun x => [⟨.pointer (some wa0), [(Sl (Ki .u8) r12.1), (Vl (.int .i64 r12.2.1)), (Vl (.int .i8 r12.2.2.1))], 50, none⟩, (Rw (Ki .u8) 55 (Vs (some q6, 4, 4)) r12.2.2.2.1)])) [1, 0] [] (by decide) (pick_cons rfl (pick_cons rfl pick_nil)) pick_nil (Hn := fun x : Unit => [⟨.pointer (some wa0), [(Sl (Ki .u8) r12.1), (Vl (.int .i64 r12.2.1)), (Vl (.int .i8 r12.2.2.1))], 50, none⟩, (Rw (Ki .u8) 55 (Vs (some q6, 4, 4)) r12.2.2.2.1)]) (fun _ => rfl) rfl rfl) (wt_none' rfl) fun ⟨⟩ => ?_
  refine sx_rd' (rd_move' rfl) rfl rfl (wt_none' rfl) ?_
  refine sx_rd' (rd_extract' rfl rfl) rfl rfl (wt_none' rfl) ?_
  refine sx_rd' (rd_extract' rfl rfl) rfl rfl (wt_none' rfl) ?_
  refine sx_rd' (rd_assign' rfl) rfl rfl (wt_none' rfl) ?_
  refine sx_rd' (rd_assign' rfl) rfl rfl (wt_none' rfl) ?_
  refine sx_nil' ?_
  show TX E K4 _
  refine tx_k' hK4 ?_
  refine cx_seq' fun K5 hK5 => ?_
  refine cx_region' ?_
  refine sx_rd' (rd_move' rfl) rfl rfl (wt_none' rfl) ?_
  refine sx_rd' (rd_binf' rfl rfl (bf_vl (fun _ => by kernel_rfl) nil_neq35_nilif)) rfl rfl (wt_none' rfl) ?_
  refine sx_nil' ?_
  show TX E K5 _
  refine tx_k' hK5 ?_
  refine cx_cond_f' rfl rfl ?_
  refine cx_skip' ?_
  show TX E K3 _
  refine tx_k' hK3 ?_
  refine cx_seq' fun K6 hK6 => ?_
  refine cx_plan' [] [] [(0, 1), (1, 1), (2, 1), (3, 1), (4, 1), (5, 0), (6, 1), (7, 1)] mixed (by kernel_rfl) ?_
  refine px_rd' rfl (rd_move' rfl) rfl rfl (wt_none' rfl) ?_
  refine px_rd' rfl (rd_cut_arr' (q := q6) rfl Tryd.underlying55 info5) rfl rfl (wt_none' rfl) ?_
  refine px_rd' rfl (rd_mkmeth' rfl) rfl rfl (wt_none' rfl) ?_
  refine px_rd' rfl (rd_nilck_mf' rfl (fun _ _ v _ w => nla61_Uint32_ag v w)) rfl rfl (wt_none' rfl) ?_
  refine px_rd' rfl (rd_move' rfl) rfl rfl (wt_none' rfl) ?_
  obtain ⟨r23, hr23, hp⟩ := bind_some hp
  refine px_ox' rfl (ox_brw' (frz_row 1 [(11, (Vl (Vs (some q6, 4, 4))), (Sl (Ki .u8) r12.2.2.2.1)), (19, (Vl (Vs (some q6, 4, 4))), (Sl (Ki .u8) r12.2.2.2.1))] (K := (Ki .u8)) (xs := r12.2.2.2.1) (by decide) rfl ⟨⟨rfl, frz_it⟩, ⟨rfl, frz_it⟩, trivial⟩ (H' := [⟨.pointer (some wa0), [(Sl (Ki .u8) r12.1), (Vl (.int .i64 r12.2.1)), (Vl (.int .i8 r12.2.2.1))], 50, none⟩]) frzH_refl) (ent_inv' rfl rfl (inv_any1 inv61_Uint32)) (binary_littleEndian_Uint32_sim _ hr23 : Go.Sx.Fn Tryd.prog 58 [(Ag []), (Sl (Ki .u8) r12.2.2.2.1)] [] (fun x : Unit => (Vl (.int .u32 r23))) (fun x => [])) pu_vl rfl rfl) rfl bs_nil (wt_none' rfl) fun ⟨⟩ => ?_
  refine px_rd' rfl (rd_assign' rfl) rfl rfl (wt_none' rfl) ?_
  refine px_rd' rfl (rd_assign' rfl) rfl rfl (wt_none' rfl) ?_
  refine px_nil' ?_
  show TX E K6 _
  refine tx_k' hK6 ?_
  refine cx_retc' ?_
  replace hp := Option.some.inj hp
  subst hp
  refine tx_pick' (L' := [(4, (Vl (.int .u32 r23))), (5, (Vl .nilIface))]) (H' := [⟨.pointer (some wa0), [(Sl (Ki .u8) r12.1), (Vl (.int .i64 r12.2.1)), (Vl (.int .i8 r12.2.2.1))], 50, none⟩]) [0] (sub_cons rfl (sub_cons rfl sub_nil)) (by decide) (pick_cons rfl pick_nil) ?_
  exact tx_ret2' Tryd.results11 rfl () (rv_tmp' rfl) (rv_tmp' rfl) rfl (List.Sublist.refl _)

def impl_ReadUint32 (k : Nat) (a0 : List Int) (a1 : Bool) : Option (Int × Int × Bool) :=
  (bytes_NewBuffer k a0) >>= fun r11 =>
  (wkbcommon_DoorOrder k a1) >>= fun r16 =>
  match r16 with
    | (.inl y2) =>
      ((wkbcommon_ReadUInt32 k r11.1 r11.2.1 r11.2.2) >>= fun r17 =>
      (bytes_Buffer_Len_v2 k r17.1 r17.2.1 r17.2.2.1) >>= fun r22 =>
      some (r17.2.2.2, r22.2.2.2, true))
    | (.inr y2) =>
      ((wkbcommon_ReadUInt32_v2 k r11.1 r11.2.1 r11.2.2) >>= fun r17 =>
      (bytes_Buffer_Len_v2 k r17.1 r17.2.1 r17.2.2.1) >>= fun r22 =>
      some (r17.2.2.2, r22.2.2.2, true))

theorem impl_ReadUint32_sim {k : Nat}  (a0 : List Int) (a1 : Bool) {out : Int × Int × Bool} (hp : impl_ReadUint32 k a0 a1 = some out) : Go.Sx.Fn Tryd.prog 5 [(Sl (Ki .u8) a0), (Vl (.bool a1))] [] (fun w : Unit => (Tu [(Vl (.int .u32 out.1)), (Vl (.int .i64 out.2.1)), (Vl (.bool out.2.2))])) (fun w => []) := by
  unfold impl_ReadUint32 at hp
  refine fnD_of Tryd.func5 rfl Tryd.ntmps5 rfl fun E hM => ?_
  refine cx_seq' fun K1 hK1 => ?_
  refine cx_region' ?_
  refine sx_ox' (ox_alloc' info23 rfl rfl rfl rfl (l := [(Vl (.int .u32 0))]) rfl) (wt_none' rfl) fun q4 => ?_
  refine sx_ox' (ox_alloc' info3 rfl rfl rfl rfl (l := [(Vl (.int .i64 0))]) rfl) (wt_none' rfl) fun q5 => ?_
  refine sx_ox' (ox_alloc' info4 rfl rfl rfl rfl (l := [(Vl (.bool false))]) rfl) (wt_none' rfl) fun q6 => ?_
  refine sx_nil' ?_
  show TX E K1 _
  refine tx_k' hK1 ?_
  refine cx_seq' fun K2 hK2 => ?_
  refine cx_region' ?_
  refine sx_rd' (rd_mkfunc' (us := [.pointer (some q4), .pointer (some q5), .pointer (some q6)]) rfl) rfl rfl (wt_none' rfl) ?_
  refine sx_ox' (ox_defer' rfl rfl) (wt_none' rfl) fun _ => ?_
  refine sx_nil' ?_
  show TX E K2 _
  refine tx_k' hK2 ?_
  refine cx_seq' fun K3 hK3 => ?_
  refine cx_region' ?_
  refine sx_rd' (rd_move' rfl) rfl rfl (wt_none' rfl) ?_
  obtain ⟨r11, hr11, hp⟩ := bind_some hp
  refine sx_ox' (ox_calln' (ent_fn' Tryd.func10 isn10 rfl rfl) (bytes_NewBuffer_sim _ hr11 : Go.Sx.Fn Tryd.prog 10 [(Sl (Ki .u8) a0)] [] (fun x : Addr => (Vl (.pointer (some x)))) (fun x => [⟨.pointer (some x), [(Sl (Ki .u8) r11.1), (Vl (.int .i64 r11.2.1)), (Vl (.int .i8 r11.2.2))], 50, none⟩])) (Hn := fun x : Addr => [⟨.pointer (some x), [(Sl (Ki .u8) r11.1), (Vl (.int .i64 r11.2.1)), (Vl (.int .i8 r11.2.2))], 50, none⟩, ⟨.pointer (some q6), [(Vl (.bool false))], 4, none⟩, ⟨.pointer (some q5), [(Vl (.int .i64 0))], 3, none⟩, ⟨.pointer (some q4), [(Vl (.int .u32 0))], 23, none⟩]) (fun _ => rfl) rfl rfl) (wt_none' rfl) fun q11 => ?_
  refine sx_rd' (rd_assign' rfl) rfl rfl (wt_none' rfl) ?_
  refine sx_nil' ?_
  show TX E K3 _
  refine tx_k' hK3 ?_
  refine cx_seq' fun K4 hK4 => ?_
  refine cx_region' ?_
  refine sx_rd' (rd_move' rfl) rfl rfl (wt_none' rfl) ?_
  refine sx_rd' (rd_iface' rfl ⟨_, Tryd.underlying32, fun _ h => (nomatch h)⟩) rfl rfl (wt_none' rfl) ?_
  refine sx_rd' (rd_move' rfl) rfl rfl (wt_none' rfl) ?_
  obtain ⟨r16, hr16, hp⟩ := bind_some hp
  rcases r16 with y2 | y2
  · dsimp only at hp
    refine sx_ox' (ox_calln' (ent_fn' Tryd.func12 isn12 rfl rfl) (wkbcommon_DoorOrder_sim _ hr16 : Go.Sx.Fn Tryd.prog 12 [(Vl (.bool a1))] [] (fun x : Unit => (If 60 (Ag []))) (fun x => [])) (Hn := fun x : Unit => [⟨.pointer (some q11), [(Sl (Ki .u8) r11.1), (Vl (.int .i64 r11.2.1)), (Vl (.int .i8 r11.2.2))], 50, none⟩, ⟨.pointer (some q6), [(Vl (.bool false))], 4, none⟩, ⟨.pointer (some q5), [(Vl (.int .i64 0))], 3, none⟩, ⟨.pointer (some q4), [(Vl (.int .u32 0))], 23, none⟩]) (fun _ => rfl) rfl rfl) (wt_none' rfl) fun ⟨⟩ => ?_
    obtain ⟨r17, hr17, hp⟩ := bind_some hp
    refine sx_ox' (ox_callg' (ent_fn' Tryd.func11 isn11 rfl rfl) (wkbcommon_ReadUInt32_sim _ _ _ hr17 : Go.Sx.Fn Tryd.prog 11 [(If 32 (Vl (.pointer (some q11)))), (If 60 (Ag []))] [⟨.pointer (some q11), [(Sl (Ki .u8) r11.1), (Vl (.int .i64 r11.2.1)), (Vl (.int .i8 r11.2.2))], 50, none⟩] (fun x : Unit => (Tu [(Vl (.int .u32 r17.2.2.2)), (Vl .nilIface)])) (fun x => [⟨.pointer (some q11), [(Sl (Ki .u8) r17.1), (Vl (.int .i64 r17.2.1)), (Vl (.int .i8 r17.2.2.1))], 50, none⟩])) [0] [1, 2, 3] (by decide) (pick_cons rfl pick_nil) (pick_cons rfl (pick_cons rfl (pick_cons rfl pick_nil))) (Hn := fun x : Unit => [⟨.pointer (some q11), [(Sl (Ki .u8) r17.1), (Vl (.int .i64 r17.2.1)), (Vl (.int .i8 r17.2.2.1))], 50, none⟩, ⟨.pointer (some q6), [(Vl (.bool false))], 4, none⟩, ⟨.pointer (some q5), [(Vl (.int .i64 0))], 3, none⟩, ⟨.pointer (some q4), [(Vl (.int .u32 0))], 23, none⟩]) (fun _ => rfl) rfl rfl) (wt_none' rfl) fun ⟨⟩ => ?_
    refine sx_rd' (rd_move' rfl) rfl rfl (wt_none' rfl) ?_
    refine sx_rd' (rd_extract' rfl rfl) rfl rfl (wt_none' rfl) ?_
    refine sx_rd' (rd_extract' rfl rfl) rfl rfl (wt_none' rfl) ?_
    refine sx_ox' (ox_store' (i := 3) (o := 0) rfl rfl (lv_vl rfl rfl) ⟨rfl, rfl, rfl, rfl⟩ rfl info23 rfl (H' := [⟨.pointer (some q11), [(Sl (Ki .u8) r17.1), (Vl (.int .i64 r17.2.1)), (Vl (.int .i8 r17.2.2.1))], 50, none⟩, ⟨.pointer (some q6), [(Vl (.bool false))], 4, none⟩, ⟨.pointer (some q5), [(Vl (.int .i64 0))], 3, none⟩, ⟨.pointer (some q4), [(Vl (.int .u32 r17.2.2.2))], 23, none⟩]) rfl) (wt_none' rfl) fun _ => ?_
    refine sx_rd' (rd_assign' rfl) rfl rfl (wt_none' rfl) ?_
    refine sx_nil' ?_
    show TX E K4 _
    refine tx_k' hK4 ?_
    refine cx_seq' fun K5 hK5 => ?_
    refine cx_plana' [q4.block] [(2, 1), (5, 2), (6, 1), (7, 1)] [(0, 2), (1, 1)] 6 #[true, true, false, false, false, false, false, false] mixed (by kernel_rfl) ?_
    refine px_rb' rfl (rb_load' (i := 3) (o := 0) rfl ⟨rfl, rfl, rfl, rfl⟩ rfl flat23 (by simp)) rfl rfl (wt_none' rfl) ?_
    refine px_rd' rfl (rd_move' rfl) rfl rfl (wt_none' rfl) ?_
    refine px_nil' ?_
    show AX E _ _ _ _ _ _ _ _
    obtain ⟨r22, hr22, hp⟩ := bind_some hp
    refine ax_node (f' := 0) #[true, true, true, true, true, true, true, true] (fun (v11 : Unit) => (⟨25, [⟨.fn (.func 9) ⟨[.pointer (some q4), .pointer (some q5), .pointer (some q6)]⟩, #[]⟩], [(4, (Vl (.pointer (some q4)))), (5, (Vl (.pointer (some q5)))), (6, (Vl (.pointer (some q6))))], [⟨.pointer (some q4), [(Vl (.int .u32 r17.2.2.2))], 23, none⟩, ⟨.pointer (some q5), [(Vl (.int .i64 r22.2.2.2))], 3, none⟩, ⟨.pointer (some q6), [(Vl (.bool true))], 4, none⟩]⟩ : St)) ?_ ?_
    · rintro ⟨⟩
      refine ax_nil (by kernel_rfl) ?_
      show TX E K5 _
      refine tx_k' hK5 ?_
      refine cx_retc' ?_
      replace hp := Option.some.inj hp
      subst hp
      refine tx_leave' (.inl rfl) rfl idle9 rfl Tryd.func9 isn9 rfl ?_
      refine tx_pick' (L' := [(4, (Vl (.pointer (some q4)))), (5, (Vl (.pointer (some q5)))), (6, (Vl (.pointer (some q6))))]) (H' := [⟨.pointer (some q4), [(Vl (.int .u32 r17.2.2.2))], 23, none⟩, ⟨.pointer (some q5), [(Vl (.int .i64 r22.2.2.2))], 3, none⟩, ⟨.pointer (some q6), [(Vl (.bool true))], 4, none⟩]) [0, 1, 2] (sub_cons rfl (sub_cons rfl (sub_cons rfl sub_nil))) (by decide) (pick_cons rfl (pick_cons rfl (pick_cons rfl pick_nil))) ?_
      exact tx_ret3' Tryd.results5 rfl () (rv_cell' (i := 0) (o := 0) rfl ⟨rfl, rfl, rfl, rfl⟩ rfl flat23) (rv_cell' (i := 1) (o := 0) rfl ⟨rfl, rfl, rfl, rfl⟩ rfl flat3) (rv_cell' (i := 2) (o := 0) rfl ⟨rfl, rfl, rfl, rfl⟩ rfl flat4) rfl (List.nil_sublist _)
    intro hN12
    refine ax_node (f' := 1) #[true, true, true, true, true, true, true, false] (fun (v10 : Unit) => (⟨25, [⟨.fn (.func 9) ⟨[.pointer (some q4), .pointer (some q5), .pointer (some q6)]⟩, #[]⟩], [(4, (Vl (.pointer (some q4)))), (5, (Vl (.pointer (some q5)))), (6, (Vl (.pointer (some q6)))), (24, (Vl (.bool true)))], [⟨.pointer (some q4), [(Vl (.int .u32 r17.2.2.2))], 23, none⟩, ⟨.pointer (some q5), [(Vl (.int .i64 r22.2.2.2))], 3, none⟩, ⟨.pointer (some q6), [(Vl (.bool false))], 4, none⟩]⟩ : St)) ?_ ?_
    · rintro ⟨⟩
      refine ax_all (i := 7) (is := []) (by kernel_rfl) (all_cons ?_ all_nil)
      · refine nx_oxv (last := #[true, true, true, true, true, true, true, true]) rfl (oxv_store (i := 2) (o := 0) rfl rfl (lv_vl rfl rfl) ⟨rfl, rfl, rfl, rfl⟩ rfl info4 rfl (H' := [⟨.pointer (some q4), [(Vl (.int .u32 r17.2.2.2))], 23, none⟩, ⟨.pointer (some q5), [(Vl (.int .i64 r22.2.2.2))], 3, none⟩, ⟨.pointer (some q6), [(Vl (.bool true))], 4, none⟩]) rfl) rfl rfl (bo_cons (m := 0) (by decide) rfl rfl bo_nil) (wt_none' rfl) rfl fun _ => ?_
        exact tx_pick' [0, 1, 2] (sub_cons rfl (sub_cons rfl (sub_cons rfl sub_nil))) (by decide) (pick_cons rfl (pick_cons rfl (pick_cons rfl pick_nil))) (hN12 ())
    intro hN11
    refine ax_node (f' := 2) #[true, true, true, true, true, true, false, false] (fun (v8 : Unit) => (⟨25, [⟨.fn (.func 9) ⟨[.pointer (some q4), .pointer (some q5), .pointer (some q6)]⟩, #[]⟩], [(4, (Vl (.pointer (some q4)))), (5, (Vl (.pointer (some q5)))), (6, (Vl (.pointer (some q6)))), (22, (Vl (.int .i64 r22.2.2.2))), (24, (Vl (.bool true)))], [⟨.pointer (some q4), [(Vl (.int .u32 r17.2.2.2))], 23, none⟩, ⟨.pointer (some q5), [(Vl (.int .i64 0))], 3, none⟩, ⟨.pointer (some q6), [(Vl (.bool false))], 4, none⟩]⟩ : St)) ?_ ?_
    · rintro ⟨⟩
      refine ax_all (i := 6) (is := []) (by kernel_rfl) (all_cons ?_ all_nil)
      · refine nx_oxv (last := #[true, true, true, true, true, true, true, false]) rfl (oxv_store (i := 1) (o := 0) rfl rfl (lv_vl rfl rfl) ⟨rfl, rfl, rfl, rfl⟩ rfl info3 rfl (H' := [⟨.pointer (some q4), [(Vl (.int .u32 r17.2.2.2))], 23, none⟩, ⟨.pointer (some q5), [(Vl (.int .i64 r22.2.2.2))], 3, none⟩, ⟨.pointer (some q6), [(Vl (.bool false))], 4, none⟩]) rfl) rfl rfl (bo_cons (m := 0) (by decide) rfl rfl bo_nil) (wt_none' rfl) rfl fun _ => ?_
        exact tx_pick' [0, 1, 2] (sub_cons rfl (sub_cons rfl (sub_cons rfl (sub_cons rfl sub_nil)))) (by decide) (pick_cons rfl (pick_cons rfl (pick_cons rfl pick_nil))) (hN11 ())
    intro hN9
    refine ax_node (f' := 2) #[true, true, true, true, false, true, true, false] (fun (v9 : Unit) => (⟨25, [⟨.fn (.func 9) ⟨[.pointer (some q4), .pointer (some q5), .pointer (some q6)]⟩, #[]⟩], [(4, (Vl (.pointer (some q4)))), (5, (Vl (.pointer (some q5)))), (6, (Vl (.pointer (some q6)))), (23, (Vl .nilIface))], [⟨.pointer (some q4), [(Vl (.int .u32 r17.2.2.2))], 23, none⟩, ⟨.pointer (some q5), [(Vl (.int .i64 r22.2.2.2))], 3, none⟩, ⟨.pointer (some q6), [(Vl (.bool false))], 4, none⟩]⟩ : St)) ?_ ?_
    · rintro ⟨⟩
      refine ax_rd (ix := 4) (last := #[true, true, true, true, true, true, true, false]) (by kernel_rfl) rfl (rd_binf' rfl rfl (bf_vl (fun _ => by kernel_rfl) nil_eql35_nilif)) rfl rfl (wt_none' rfl) rfl ?_
      exact tx_pick' [0, 1, 2] (sub_cons rfl (sub_cons rfl (sub_cons rfl (sub_cons rfl sub_nil)))) (by decide) (pick_cons rfl (pick_cons rfl (pick_cons rfl pick_nil))) (hN11 ())
    intro hN10
    refine ax_node (f' := 3) #[true, true, true, true, true, false, false, false] (fun (v6 : Unit) => (⟨25, [⟨.fn (.func 9) ⟨[.pointer (some q4), .pointer (some q5), .pointer (some q6)]⟩, #[]⟩], [(4, (Vl (.pointer (some q4)))), (5, (Vl (.pointer (some q5)))), (6, (Vl (.pointer (some q6)))), (20, (Vl (.int .u32 r17.2.2.2))), (22, (Vl (.int .i64 r22.2.2.2))), (24, (Vl (.bool true)))], [⟨.pointer (some q4), [(Vl (.int .u32 r17.2.2.2))], 23, none⟩, ⟨.pointer (some q5), [(Vl (.int .i64 0))], 3, none⟩, ⟨.pointer (some q6), [(Vl (.bool false))], 4, none⟩]⟩ : St)) ?_ ?_
    · rintro ⟨⟩
      refine ax_all (i := 5) (is := []) (by kernel_rfl) (all_cons ?_ all_nil)
      · refine nx_ox (last := #[true, true, true, true, true, true, false, false]) rfl (ox_store' (i := 0) (o := 0) rfl rfl (lv_vl rfl rfl) ⟨rfl, rfl, rfl, rfl⟩ rfl info23 rfl (H' := [⟨.pointer (some q4), [(Vl (.int .u32 r17.2.2.2))], 23, none⟩, ⟨.pointer (some q5), [(Vl (.int .i64 0))], 3, none⟩, ⟨.pointer (some q6), [(Vl (.bool false))], 4, none⟩]) rfl) rfl (bs_cons (m := 0) rfl rfl rfl bs_nil) (wt_none' rfl) rfl fun _ => ?_
        exact tx_pick' [0, 1, 2] (sub_cons rfl (sub_cons rfl (sub_cons rfl (sub_cons rfl (sub_cons rfl sub_nil))))) (by decide) (pick_cons rfl (pick_cons rfl (pick_cons rfl pick_nil))) (hN9 ())
    intro hN7
    refine ax_node (f' := 3) #[true, true, true, true, false, true, false, false] (fun (v7 : Unit) => (⟨25, [⟨.fn (.func 9) ⟨[.pointer (some q4), .pointer (some q5), .pointer (some q6)]⟩, #[]⟩], [(4, (Vl (.pointer (some q4)))), (5, (Vl (.pointer (some q5)))), (6, (Vl (.pointer (some q6)))), (22, (Vl (.int .i64 r22.2.2.2))), (23, (Vl .nilIface))], [⟨.pointer (some q4), [(Vl (.int .u32 r17.2.2.2))], 23, none⟩, ⟨.pointer (some q5), [(Vl (.int .i64 0))], 3, none⟩, ⟨.pointer (some q6), [(Vl (.bool false))], 4, none⟩]⟩ : St)) ?_ ?_
    · rintro ⟨⟩
      refine ax_all (i := 4) (is := [6]) (by kernel_rfl) (all_cons ?_ (all_cons ?_ all_nil))
      · refine nx_rd (last := #[true, true, true, true, true, true, false, false]) rfl (rd_binf' rfl rfl (bf_vl (fun _ => by kernel_rfl) nil_eql35_nilif)) rfl rfl (wt_none' rfl) rfl ?_
        exact tx_pick' [0, 1, 2] (sub_cons rfl (sub_cons rfl (sub_cons rfl (sub_cons rfl (sub_cons rfl sub_nil))))) (by decide) (pick_cons rfl (pick_cons rfl (pick_cons rfl pick_nil))) (hN9 ())
      · refine nx_oxv (last := #[true, true, true, true, false, true, true, false]) rfl (oxv_store (i := 1) (o := 0) rfl rfl (lv_vl rfl rfl) ⟨rfl, rfl, rfl, rfl⟩ rfl info3 rfl (H' := [⟨.pointer (some q4), [(Vl (.int .u32 r17.2.2.2))], 23, none⟩, ⟨.pointer (some q5), [(Vl (.int .i64 r22.2.2.2))], 3, none⟩, ⟨.pointer (some q6), [(Vl (.bool false))], 4, none⟩]) rfl) rfl rfl (bo_cons (m := 0) (by decide) rfl rfl bo_nil) (wt_none' rfl) rfl fun _ => ?_
        exact tx_pick' [0, 1, 2] (sub_cons rfl (sub_cons rfl (sub_cons rfl (sub_cons rfl sub_nil)))) (by decide) (pick_cons rfl (pick_cons rfl (pick_cons rfl pick_nil))) (hN10 ())
    intro hN8
    refine ax_node (f' := 4) #[true, true, true, true, false, false, false, false] (fun (v3 : Unit) => (⟨25, [⟨.fn (.func 9) ⟨[.pointer (some q4), .pointer (some q5), .pointer (some q6)]⟩, #[]⟩], [(4, (Vl (.pointer (some q4)))), (5, (Vl (.pointer (some q5)))), (6, (Vl (.pointer (some q6)))), (20, (Vl (.int .u32 r17.2.2.2))), (22, (Vl (.int .i64 r22.2.2.2))), (23, (Vl .nilIface))], [⟨.pointer (some q4), [(Vl (.int .u32 r17.2.2.2))], 23, none⟩, ⟨.pointer (some q5), [(Vl (.int .i64 0))], 3, none⟩, ⟨.pointer (some q6), [(Vl (.bool false))], 4, none⟩]⟩ : St)) ?_ ?_
    · rintro ⟨⟩
      refine ax_all (i := 4) (is := [5]) (by kernel_rfl) (all_cons ?_ (all_cons ?_ all_nil))
      · refine nx_rd (last := #[true, true, true, true, true, false, false, false]) rfl (rd_binf' rfl rfl (bf_vl (fun _ => by kernel_rfl) nil_eql35_nilif)) rfl rfl (wt_none' rfl) rfl ?_
        exact tx_pick' [0, 1, 2] (sub_cons rfl (sub_cons rfl (sub_cons rfl (sub_cons rfl (sub_cons rfl (sub_cons rfl sub_nil)))))) (by decide) (pick_cons rfl (pick_cons rfl (pick_cons rfl pick_nil))) (hN7 ())
      · refine nx_ox (last := #[true, true, true, true, false, true, false, false]) rfl (ox_store' (i := 0) (o := 0) rfl rfl (lv_vl rfl rfl) ⟨rfl, rfl, rfl, rfl⟩ rfl info23 rfl (H' := [⟨.pointer (some q4), [(Vl (.int .u32 r17.2.2.2))], 23, none⟩, ⟨.pointer (some q5), [(Vl (.int .i64 0))], 3, none⟩, ⟨.pointer (some q6), [(Vl (.bool false))], 4, none⟩]) rfl) rfl (bs_cons (m := 0) rfl rfl rfl bs_nil) (wt_none' rfl) rfl fun _ => ?_
        exact tx_pick' [0, 1, 2] (sub_cons rfl (sub_cons rfl (sub_cons rfl (sub_cons rfl (sub_cons rfl sub_nil))))) (by decide) (pick_cons rfl (pick_cons rfl (pick_cons rfl pick_nil))) (hN8 ())
    intro hN4
    refine ax_node (f' := 4) #[true, true, true, false, false, true, false, false] (fun (v4 : Unit) => (⟨25, [⟨.fn (.func 9) ⟨[.pointer (some q4), .pointer (some q5), .pointer (some q6)]⟩, #[]⟩], [(4, (Vl (.pointer (some q4)))), (5, (Vl (.pointer (some q5)))), (6, (Vl (.pointer (some q6)))), (8, (Vl .nilIface)), (22, (Vl (.int .i64 r22.2.2.2)))], [⟨.pointer (some q4), [(Vl (.int .u32 r17.2.2.2))], 23, none⟩, ⟨.pointer (some q5), [(Vl (.int .i64 0))], 3, none⟩, ⟨.pointer (some q6), [(Vl (.bool false))], 4, none⟩]⟩ : St)) ?_ ?_
    · rintro ⟨⟩
      refine ax_rb (ix := 3) (last := #[true, true, true, true, false, true, false, false]) (by kernel_rfl) rfl (rb_move' rfl) rfl rfl (wt_none' rfl) rfl ?_
      exact tx_pick' [0, 1, 2] (sub_cons rfl (sub_cons rfl (sub_cons rfl (sub_cons rfl (sub_cons rfl sub_nil))))) (by decide) (pick_cons rfl (pick_cons rfl (pick_cons rfl pick_nil))) (hN8 ())
    intro hN5
    refine ax_node (f' := 4) #[true, true, false, true, true, false, false, false] (fun (v5 : Unit) => (⟨25, [⟨.fn (.func 9) ⟨[.pointer (some q4), .pointer (some q5), .pointer (some q6)]⟩, #[]⟩], [(4, (Vl (.pointer (some q4)))), (5, (Vl (.pointer (some q5)))), (6, (Vl (.pointer (some q6)))), (20, (Vl (.int .u32 r17.2.2.2))), (21, (Vl (.pointer (some q11)))), (24, (Vl (.bool true)))], [⟨.pointer (some q4), [(Vl (.int .u32 r17.2.2.2))], 23, none⟩, ⟨.pointer (some q5), [(Vl (.int .i64 0))], 3, none⟩, ⟨.pointer (some q6), [(Vl (.bool false))], 4, none⟩, ⟨.pointer (some q11), [(Sl (Ki .u8) r17.1), (Vl (.int .i64 r17.2.1)), (Vl (.int .i8 r17.2.2.1))], 50, none⟩]⟩ : St)) ?_ ?_
    · rintro ⟨⟩
      refine ax_all (i := 2) (is := []) (by kernel_rfl) (all_cons ?_ all_nil)
      · refine nx_oxb (is := [3]) (last := #[true, true, true, true, true, false, false, false]) rfl (oxb_callg (ent_fn' Tryd.func13 isn13 rfl rfl) (bytes_Buffer_Len_v2_sim _ _ _ hr22 : Go.Sx.Fn Tryd.prog 13 [(Vl (.pointer (some q11)))] [⟨.pointer (some q11), [(Sl (Ki .u8) r17.1), (Vl (.int .i64 r17.2.1)), (Vl (.int .i8 r17.2.2.1))], 50, none⟩] (fun x : Unit => (Vl (.int .i64 r22.2.2.2))) (fun x => [⟨.pointer (some q11), [(Sl (Ki .u8) r22.1), (Vl (.int .i64 r22.2.1)), (Vl (.int .i8 r22.2.2.1))], 50, none⟩])) [3] [0, 1, 2] (by decide) (pick_cons rfl pick_nil) (pick_cons rfl (pick_cons rfl (pick_cons rfl pick_nil))) (Hn := fun x : Unit => [⟨.pointer (some q11), [(Sl (Ki .u8) r22.1), (Vl (.int .i64 r22.2.1)), (Vl (.int .i8 r22.2.2.1))], 50, none⟩, ⟨.pointer (some q4), [(Vl (.int .u32 r17.2.2.2))], 23, none⟩, ⟨.pointer (some q5), [(Vl (.int .i64 0))], 3, none⟩, ⟨.pointer (some q6), [(Vl (.bool false))], 4, none⟩]) (fun _ => rfl) rfl rfl) (pick_cons rfl pick_nil) rfl (bl_cons (m := 0) (by decide) rfl rfl bl_nil) (wt_none' rfl) rfl fun ⟨⟩ => ?_
        exact tx_pick' [1, 2, 3] (sub_cons rfl (sub_cons rfl (sub_cons rfl (sub_cons rfl (sub_cons rfl (sub_cons rfl sub_nil)))))) (by decide) (pick_cons rfl (pick_cons rfl (pick_cons rfl pick_nil))) (hN7 ())
    intro hN6
    refine ax_node (f' := 5) #[true, true, true, false, false, false, false, false] (fun (v1 : Unit) => (⟨25, [⟨.fn (.func 9) ⟨[.pointer (some q4), .pointer (some q5), .pointer (some q6)]⟩, #[]⟩], [(4, (Vl (.pointer (some q4)))), (5, (Vl (.pointer (some q5)))), (6, (Vl (.pointer (some q6)))), (8, (Vl .nilIface)), (20, (Vl (.int .u32 r17.2.2.2))), (22, (Vl (.int .i64 r22.2.2.2)))], [⟨.pointer (some q4), [(Vl (.int .u32 r17.2.2.2))], 23, none⟩, ⟨.pointer (some q5), [(Vl (.int .i64 0))], 3, none⟩, ⟨.pointer (some q6), [(Vl (.bool false))], 4, none⟩]⟩ : St)) ?_ ?_
    · rintro ⟨⟩
      refine ax_all (i := 3) (is := [5]) (by kernel_rfl) (all_cons ?_ (all_cons ?_ all_nil))
      · refine nx_rd (last := #[true, true, true, true, false, false, false, false]) rfl (rd_move' rfl) rfl rfl (wt_none' rfl) rfl ?_
        exact tx_pick' [0, 1, 2] (sub_cons rfl (sub_cons rfl (sub_cons rfl (sub_cons rfl (sub_cons rfl (sub_cons rfl sub_nil)))))) (by decide) (pick_cons rfl (pick_cons rfl (pick_cons rfl pick_nil))) (hN4 ())
      · refine nx_ox (last := #[true, true, true, false, false, true, false, false]) rfl (ox_store' (i := 0) (o := 0) rfl rfl (lv_vl rfl rfl) ⟨rfl, rfl, rfl, rfl⟩ rfl info23 rfl (H' := [⟨.pointer (some q4), [(Vl (.int .u32 r17.2.2.2))], 23, none⟩, ⟨.pointer (some q5), [(Vl (.int .i64 0))], 3, none⟩, ⟨.pointer (some q6), [(Vl (.bool false))], 4, none⟩]) rfl) rfl (bs_cons (m := 0) rfl rfl rfl bs_nil) (wt_none' rfl) rfl fun _ => ?_
        exact tx_pick' [0, 1, 2] (sub_cons rfl (sub_cons rfl (sub_cons rfl (sub_cons rfl (sub_cons rfl sub_nil))))) (by decide) (pick_cons rfl (pick_cons rfl (pick_cons rfl pick_nil))) (hN5 ())
    intro hN2
    refine ax_node (f' := 5) #[true, true, false, true, false, false, false, false] (fun (v2 : Unit) => (⟨25, [⟨.fn (.func 9) ⟨[.pointer (some q4), .pointer (some q5), .pointer (some q6)]⟩, #[]⟩], [(4, (Vl (.pointer (some q4)))), (5, (Vl (.pointer (some q5)))), (6, (Vl (.pointer (some q6)))), (20, (Vl (.int .u32 r17.2.2.2))), (21, (Vl (.pointer (some q11)))), (23, (Vl .nilIface))], [⟨.pointer (some q4), [(Vl (.int .u32 r17.2.2.2))], 23, none⟩, ⟨.pointer (some q5), [(Vl (.int .i64 0))], 3, none⟩, ⟨.pointer (some q6), [(Vl (.bool false))], 4, none⟩, ⟨.pointer (some q11), [(Sl (Ki .u8) r17.1), (Vl (.int .i64 r17.2.1)), (Vl (.int .i8 r17.2.2.1))], 50, none⟩]⟩ : St)) ?_ ?_
    · rintro ⟨⟩
      refine ax_all (i := 2) (is := [4]) (by kernel_rfl) (all_cons ?_ (all_cons ?_ all_nil))
      · refine nx_oxb (is := [3]) (last := #[true, true, true, true, false, false, false, false]) rfl (oxb_callg (ent_fn' Tryd.func13 isn13 rfl rfl) (bytes_Buffer_Len_v2_sim _ _ _ hr22 : Go.Sx.Fn Tryd.prog 13 [(Vl (.pointer (some q11)))] [⟨.pointer (some q11), [(Sl (Ki .u8) r17.1), (Vl (.int .i64 r17.2.1)), (Vl (.int .i8 r17.2.2.1))], 50, none⟩] (fun x : Unit => (Vl (.int .i64 r22.2.2.2))) (fun x => [⟨.pointer (some q11), [(Sl (Ki .u8) r22.1), (Vl (.int .i64 r22.2.1)), (Vl (.int .i8 r22.2.2.1))], 50, none⟩])) [3] [0, 1, 2] (by decide) (pick_cons rfl pick_nil) (pick_cons rfl (pick_cons rfl (pick_cons rfl pick_nil))) (Hn := fun x : Unit => [⟨.pointer (some q11), [(Sl (Ki .u8) r22.1), (Vl (.int .i64 r22.2.1)), (Vl (.int .i8 r22.2.2.1))], 50, none⟩, ⟨.pointer (some q4), [(Vl (.int .u32 r17.2.2.2))], 23, none⟩, ⟨.pointer (some q5), [(Vl (.int .i64 0))], 3, none⟩, ⟨.pointer (some q6), [(Vl (.bool false))], 4, none⟩]) (fun _ => rfl) rfl rfl) (pick_cons rfl pick_nil) rfl (bl_cons (m := 0) (by decide) rfl rfl bl_nil) (wt_none' rfl) rfl fun ⟨⟩ => ?_
        exact tx_pick' [1, 2, 3] (sub_cons rfl (sub_cons rfl (sub_cons rfl (sub_cons rfl (sub_cons rfl (sub_cons rfl sub_nil)))))) (by decide) (pick_cons rfl (pick_cons rfl (pick_cons rfl pick_nil))) (hN4 ())
      · refine nx_rd (last := #[true, true, false, true, true, false, false, false]) rfl (rd_binf' rfl rfl (bf_vl (fun _ => by kernel_rfl) nil_eql35_nilif)) rfl rfl (wt_none' rfl) rfl ?_
        exact tx_pick' [0, 1, 2, 3] (sub_cons rfl (sub_cons rfl (sub_cons rfl (sub_cons rfl (sub_cons rfl (sub_cons rfl sub_nil)))))) (by decide) (pick_cons rfl (pick_cons rfl (pick_cons rfl (pick_cons rfl pick_nil)))) (hN6 ())
    intro hN3
    refine ax_all (i := 2) (is := [3]) (by kernel_rfl) (all_cons ?_ (all_cons ?_ all_nil))
    · refine nx_oxb (is := [0]) (last := #[true, true, true, false, false, false, false, false]) rfl (oxb_callg (ent_fn' Tryd.func13 isn13 rfl rfl) (bytes_Buffer_Len_v2_sim _ _ _ hr22 : Go.Sx.Fn Tryd.prog 13 [(Vl (.pointer (some q11)))] [⟨.pointer (some q11), [(Sl (Ki .u8) r17.1), (Vl (.int .i64 r17.2.1)), (Vl (.int .i8 r17.2.2.1))], 50, none⟩] (fun x : Unit => (Vl (.int .i64 r22.2.2.2))) (fun x => [⟨.pointer (some q11), [(Sl (Ki .u8) r22.1), (Vl (.int .i64 r22.2.1)), (Vl (.int .i8 r22.2.2.1))], 50, none⟩])) [0] [1, 2, 3] (by decide) (pick_cons rfl pick_nil) (pick_cons rfl (pick_cons rfl (pick_cons rfl pick_nil))) (Hn := fun x : Unit => [⟨.pointer (some q11), [(Sl (Ki .u8) r22.1), (Vl (.int .i64 r22.2.1)), (Vl (.int .i8 r22.2.2.1))], 50, none⟩, ⟨.pointer (some q6), [(Vl (.bool false))], 4, none⟩, ⟨.pointer (some q5), [(Vl (.int .i64 0))], 3, none⟩, ⟨.pointer (some q4), [(Vl (.int .u32 r17.2.2.2))], 23, none⟩]) (fun _ => rfl) rfl rfl) (pick_cons rfl pick_nil) rfl (bl_cons (m := 3) (by decide) rfl rfl bl_nil) (wt_none' rfl) rfl fun ⟨⟩ => ?_
      exact tx_pick' [3, 2, 1] (sub_cons rfl (sub_cons rfl (sub_cons rfl (sub_cons rfl (sub_cons rfl (sub_cons rfl sub_nil)))))) (by decide) (pick_cons rfl (pick_cons rfl (pick_cons rfl pick_nil))) (hN2 ())
    · refine nx_rd (last := #[true, true, false, true, false, false, false, false]) rfl (rd_move' rfl) rfl rfl (wt_none' rfl) rfl ?_
      exact tx_pick' [3, 2, 1, 0] (sub_cons rfl (sub_cons rfl (sub_cons rfl (sub_cons rfl (sub_cons rfl (sub_cons rfl sub_nil)))))) (by decide) (pick_cons rfl (pick_cons rfl (pick_cons rfl (pick_cons rfl pick_nil)))) (hN3 ())
  · dsimp only at hp
    refine sx_ox' (ox_calln' (ent_fn' Tryd.func12 isn12 rfl rfl) (wkbcommon_DoorOrder_sim _ hr16 : Go.Sx.Fn Tryd.prog 12 [(Vl (.bool a1))] [] (fun x : Unit => (If 61 (Ag []))) (fun x => [])) (Hn := fun x : Unit => [⟨.pointer (some q11), [(Sl (Ki .u8) r11.1), (Vl (.int .i64 r11.2.1)), (Vl (.int .i8 r11.2.2))], 50, none⟩, ⟨.pointer (some q6), [(Vl (.bool false))], 4, none⟩, ⟨.pointer (some q5), [(Vl (.int .i64 0))], 3, none⟩, ⟨.pointer (some q4), [(Vl (.int .u32 0))], 23, none⟩]) (fun _ => rfl) rfl rfl) (wt_none' rfl) fun ⟨⟩ => ?_
    obtain ⟨r17, hr17, hp⟩ := bind_some hp
    refine sx_ox' (ox_callg' (ent_fn' Tryd.func11 isn11 rfl rfl) (wkbcommon_ReadUInt32_v2_sim _ _ _ hr17 : Go.Sx.Fn Tryd.prog 11 [(If 32 (Vl (.pointer (some q11)))), (If 61 (Ag []))] [⟨.pointer (some q11), [(Sl (Ki .u8) r11.1), (Vl (.int .i64 r11.2.1)), (Vl (.int .i8 r11.2.2))], 50, none⟩] (fun x : Unit => (Tu [(Vl (.int .u32 r17.2.2.2)), (Vl .nilIface)])) (fun x => [⟨.pointer (some q11), [(Sl (Ki .u8) r17.1), (Vl (.int .i64 r17.2.1)), (Vl (.int .i8 r17.2.2.1))], 50, none⟩])) [0] [1, 2, 3] (by decide) (pick_cons rfl pick_nil) (pick_cons rfl (pick_cons rfl (pick_cons rfl pick_nil))) (Hn := fun x : Unit => [⟨.pointer (some q11), [(Sl (Ki .u8) r17.1), (Vl (.int .i64 r17.2.1)), (Vl (.int .i8 r17.2.2.1))], 50, none⟩, ⟨.pointer (some q6), [(Vl (.bool false))], 4, none⟩, ⟨.pointer (some q5), [(Vl (.int .i64 0))], 3, none⟩, ⟨.pointer (some q4), [(Vl (.int .u32 0))], 23, none⟩]) (fun _ => rfl) rfl rfl) (wt_none' rfl) fun ⟨⟩ => ?_
    refine sx_rd' (rd_move' rfl) rfl rfl (wt_none' rfl) ?_
    refine sx_rd' (rd_extract' rfl rfl) rfl rfl (wt_none' rfl) ?_
    refine sx_rd' (rd_extract' rfl rfl) rfl rfl (wt_none' rfl) ?_
    refine sx_ox' (ox_store' (i := 3) (o := 0) rfl rfl (lv_vl rfl rfl) ⟨rfl, rfl, rfl, rfl⟩ rfl info23 rfl (H' := [⟨.pointer (some q11), [(Sl (Ki .u8) r17.1), (Vl (.int .i64 r17.2.1)), (Vl (.int .i8 r17.2.2.1))], 50, none⟩, ⟨.pointer (some q6), [(Vl (.bool false))], 4, none⟩, ⟨.pointer (some q5), [(Vl (.int .i64 0))], 3, none⟩, ⟨.pointer (some q4), [(Vl (.int .u32 r17.2.2.2))], 23, none⟩]) rfl) (wt_none' rfl) fun _ => ?_
    refine sx_rd' (rd_assign' rfl) rfl rfl (wt_none' rfl) ?_
    refine sx_nil' ?_
    show TX E K4 _
    refine tx_k' hK4 ?_
    refine cx_seq' fun K5 hK5 => ?_
    refine cx_plana' [q4.block] [(2, 1), (5, 2), (6, 1), (7, 1)] [(0, 2), (1, 1)] 6 #[true, true, false, false, false, false, false, false] mixed (by kernel_rfl) ?_
    refine px_rb' rfl (rb_load' (i := 3) (o := 0) rfl ⟨rfl, rfl, rfl, rfl⟩ rfl flat23 (by simp)) rfl rfl (wt_none' rfl) ?_
    refine px_rd' rfl (rd_move' rfl) rfl rfl (wt_none' rfl) ?_
    refine px_nil' ?_
    show AX E _ _ _ _ _ _ _ _
    obtain ⟨r22, hr22, hp⟩ := bind_some hp
    refine ax_node (f' := 0) #[true, true, true, true, true, true, true, true] (fun (v11 : Unit) => (⟨25, [⟨.fn (.func 9) ⟨[.pointer (some q4), .pointer (some q5), .pointer (some q6)]⟩, #[]⟩], [(4, (Vl (.pointer (some q4)))), (5, (Vl (.pointer (some q5)))), (6, (Vl (.pointer (some q6))))], [⟨.pointer (some q4), [(Vl (.int .u32 r17.2.2.2))], 23, none⟩, ⟨.pointer (some q5), [(Vl (.int .i64 r22.2.2.2))], 3, none⟩, ⟨.pointer (some q6), [(Vl (.bool true))], 4, none⟩]⟩ : St)) ?_ ?_
    · rintro ⟨⟩
      refine ax_nil (by kernel_rfl) ?_
      show TX E K5 _
      refine tx_k' hK5 ?_
      refine cx_retc' ?_
      replace hp := Option.some.inj hp
      subst hp
      refine tx_leave' (.inl rfl) rfl idle9 rfl Tryd.func9 isn9 rfl ?_
      refine tx_pick' (L' := [(4, (Vl (.pointer (some q4)))), (5, (Vl (.pointer (some q5)))), (6, (Vl (.pointer (some q6))))]) (H' := [⟨.pointer (some q4), [(Vl (.int .u32 r17.2.2.2))], 23, none⟩, ⟨.pointer (some q5), [(Vl (.int .i64 r22.2.2.2))], 3, none⟩, ⟨.pointer (some q6), [(Vl (.bool true))], 4, none⟩]) [0, 1, 2] (sub_cons rfl (sub_cons rfl (sub_cons rfl sub_nil))) (by decide) (pick_cons rfl (pick_cons rfl (pick_cons rfl pick_nil))) ?_
      exact tx_ret3' Tryd.results5 rfl () (rv_cell' (i := 0) (o := 0) rfl ⟨rfl, rfl, rfl, rfl⟩ rfl flat23) (rv_cell' (i := 1) (o := 0) rfl ⟨rfl, rfl, rfl, rfl⟩ rfl flat3) (rv_cell' (i := 2) (o := 0) rfl ⟨rfl, rfl, rfl, rfl⟩ rfl flat4) rfl (List.nil_sublist _)
    intro hN12
    refine ax_node (f' := 1) #[true, true, true, true, true, true, true, false] (fun (v10 : Unit) => (⟨25, [⟨.fn (.func 9) ⟨[.pointer (some q4), .pointer (some q5), .pointer (some q6)]⟩, #[]⟩], [(4, (Vl (.pointer (some q4)))), (5, (Vl (.pointer (some q5)))), (6, (Vl (.pointer (some q6)))), (24, (Vl (.bool true)))], [⟨.pointer (some q4), [(Vl (.int .u32 r17.2.2.2))], 23, none⟩, ⟨.pointer (some q5), [(Vl (.int .i64 r22.2.2.2))], 3, none⟩, ⟨.pointer (some q6), [(Vl (.bool false))], 4, none⟩]⟩ : St)) ?_ ?_
    · rintro ⟨⟩
      refine ax_all (i := 7) (is := []) (by kernel_rfl) (all_cons ?_ all_nil)
      · refine nx_oxv (last := #[true, true, true, true, true, true, true, true]) rfl (oxv_store (i := 2) (o := 0) rfl rfl (lv_vl rfl rfl) ⟨rfl, rfl, rfl, rfl⟩ rfl info4 rfl (H' := [⟨.pointer (some q4), [(Vl (.int .u32 r17.2.2.2))], 23, none⟩, ⟨.pointer (some q5), [(Vl (.int .i64 r22.2.2.2))], 3, none⟩, ⟨.pointer (some q6), [(Vl (.bool true))], 4, none⟩]) rfl) rfl rfl (bo_cons (m := 0) (by decide) rfl rfl bo_nil) (wt_none' rfl) rfl fun _ => ?_
        exact tx_pick' [0, 1, 2] (sub_cons rfl (sub_cons rfl (sub_cons rfl sub_nil))) (by decide) (pick_cons rfl (pick_cons rfl (pick_cons rfl pick_nil))) (hN12 ())
    intro hN11
    refine ax_node (f' := 2) #[true, true, true, true, true, true, false, false] (fun (v8 : Unit) => (⟨25, [⟨.fn (.func 9) ⟨[.pointer (some q4), .pointer (some q5), .pointer (some q6)]⟩, #[]⟩], [(4, (Vl (.pointer (some q4)))), (5, (Vl (.pointer (some q5)))), (6, (Vl (.pointer (some q6)))), (22, (Vl (.int .i64 r22.2.2.2))), (24, (Vl (.bool true)))], [⟨.pointer (some q4), [(Vl (.int .u32 r17.2.2.2))], 23, none⟩, ⟨.pointer (some q5), [(Vl (.int .i64 0))], 3, none⟩, ⟨.pointer (some q6), [(Vl (.bool false))], 4, none⟩]⟩ : St)) ?_ ?_
    · rintro ⟨⟩
      refine ax_all (i := 6) (is := []) (by kernel_rfl) (all_cons ?_ all_nil)
      · refine nx_oxv (last := #[true, true, true, true, true, true, true, false]) rfl (oxv_store (i := 1) (o := 0) rfl rfl (lv_vl rfl rfl) ⟨rfl, rfl, rfl, rfl⟩ rfl info3 rfl (H' := [⟨.pointer (some q4), [(Vl (.int .u32 r17.2.2.2))], 23, none⟩, ⟨.pointer (some q5), [(Vl (.int .i64 r22.2.2.2))], 3, none⟩, ⟨.pointer (some q6), [(Vl (.bool false))], 4, none⟩]) rfl) rfl rfl (bo_cons (m := 0) (by decide) rfl rfl bo_nil) (wt_none' rfl) rfl fun _ => ?_
        exact tx_pick' [0, 1, 2] (sub_cons rfl (sub_cons rfl (sub_cons rfl (sub_cons rfl sub_nil)))) (by decide) (pick_cons rfl (pick_cons rfl (pick_cons rfl pick_nil))) (hN11 ())
    intro hN9
    refine ax_node (f' := 2) #[true, true, true, true, false, true, true, false] (fun (v9 : Unit) => (⟨25, [⟨.fn (.func 9) ⟨[.pointer (some q4), .pointer (some q5), .pointer (some q6)]⟩, #[]⟩], [(4, (Vl (.pointer (some q4)))), (5, (Vl (.pointer (some q5)))), (6, (Vl (.pointer (some q6)))), (23, (Vl .nilIface))], [⟨.pointer (some q4), [(Vl (.int .u32 r17.2.2.2))], 23, none⟩, ⟨.pointer (some q5), [(Vl (.int .i64 r22.2.2.2))], 3, none⟩, ⟨.pointer (some q6), [(Vl (.bool false))], 4, none⟩]⟩ : St)) ?_ ?_
    · rintro ⟨⟩
      refine ax_rd (ix := 4) (last := #[true, true, true, true, true, true, true, false]) (by kernel_rfl) rfl (rd_binf' rfl rfl (bf_vl (fun _ => by kernel_rfl) nil_eql35_nilif)) rfl rfl (wt_none' rfl) rfl ?_
      exact tx_pick' [0, 1, 2] (sub_cons rfl (sub_cons rfl (sub_cons rfl (sub_cons rfl sub_nil)))) (by decide) (pick_cons rfl (pick_cons rfl (pick_cons rfl pick_nil))) (hN11 ())
    intro hN10
    refine ax_node (f' := 3) #[true, true, true, true, true, false, false, false] (fun (v6 : Unit) => (⟨25, [⟨.fn (.func 9) ⟨[.pointer (some q4), .pointer (some q5), .pointer (some q6)]⟩, #[]⟩], [(4, (Vl (.pointer (some q4)))), (5, (Vl (.pointer (some q5)))), (6, (Vl (.pointer (some q6)))), (20, (Vl (.int .u32 r17.2.2.2))), (22, (Vl (.int .i64 r22.2.2.2))), (24, (Vl (.bool true)))], [⟨.pointer (some q4), [(Vl (.int .u32 r17.2.2.2))], 23, none⟩, ⟨.pointer (some q5), [(Vl (.int .i64 0))], 3, none⟩, ⟨.pointer (some q6), [(Vl (.bool false))], 4, none⟩]⟩ : St)) ?_ ?_
    · rintro ⟨⟩
      refine ax_all (i := 5) (is := []) (by kernel_rfl) (all_cons ?_ all_nil)
      · refine nx_ox (last := #[true, true, true, true, true, true, false, false]) rfl (ox_store' (i := 0) (o := 0) rfl rfl (lv_vl rfl rfl) ⟨rfl, rfl, rfl, rfl⟩ rfl info23 rfl (H' := [⟨.pointer (some q4), [(Vl (.int .u32 r17.2.2.2))], 23, none⟩, ⟨.pointer (some q5), [(Vl (.int .i64 0))], 3, none⟩, ⟨.pointer (some q6), [(Vl (.bool false))], 4, none⟩]) rfl) rfl (bs_cons (m := 0) rfl rfl rfl bs_nil) (wt_none' rfl) rfl fun _ => ?_
        exact tx_pick' [0, 1, 2] (sub_cons rfl (sub_cons rfl (sub_cons rfl (sub_cons rfl (sub_cons rfl sub_nil))))) (by decide) (pick_cons rfl (pick_cons rfl (pick_cons rfl pick_nil))) (hN9 ())
    intro hN7
    refine ax_node (f' := 3) #[true, true, true, true, false, true, false, false] (fun (v7 : Unit) => (⟨25, [⟨.fn (.func 9) ⟨[.pointer (some q4), .pointer (some q5), .pointer (some q6)]⟩, #[]⟩], [(4, (Vl (.pointer (some q4)))), (5, (Vl (.pointer (some q5)))), (6, (Vl (.pointer (some q6)))), (22, (Vl (.int .i64 r22.2.2.2))), (23, (Vl .nilIface))], [⟨.pointer (some q4), [(Vl (.int .u32 r17.2.2.2))], 23, none⟩, ⟨.pointer (some q5), [(Vl (.int .i64 0))], 3, none⟩, ⟨.pointer (some q6), [(Vl (.bool false))], 4, none⟩]⟩ : St)) ?_ ?_
    · rintro ⟨⟩
      refine ax_all (i := 4) (is := [6]) (by kernel_rfl) (all_cons ?_ (all_cons ?_ all_nil))
      · refine nx_rd (last := #[true, true, true, true, true, true, false, false]) rfl (rd_binf' rfl rfl (bf_vl (fun _ => by kernel_rfl) nil_eql35_nilif)) rfl rfl (wt_none' rfl) rfl ?_
        exact tx_pick' [0, 1, 2] (sub_cons rfl (sub_cons rfl (sub_cons rfl (sub_cons rfl (sub_cons rfl sub_nil))))) (by decide) (pick_cons rfl (pick_cons rfl (pick_cons rfl pick_nil))) (hN9 ())
      · refine nx_oxv (last := #[true, true, true, true, false, true, true, false]) rfl (oxv_store (i := 1) (o := 0) rfl rfl (lv_vl rfl rfl) ⟨rfl, rfl, rfl, rfl⟩ rfl info3 rfl (H' := [⟨.pointer (some q4), [(Vl (.int .u32 r17.2.2.2))], 23, none⟩, ⟨.pointer (some q5), [(Vl (.int .i64 r22.2.2.2))], 3, none⟩, ⟨.pointer (some q6), [(Vl (.bool false))], 4, none⟩]) rfl) rfl rfl (bo_cons (m := 0) (by decide) rfl rfl bo_nil) (wt_none' rfl) rfl fun _ => ?_
        exact tx_pick' [0, 1, 2] (sub_cons rfl (sub_cons rfl (sub_cons rfl (sub_cons rfl sub_nil)))) (by decide) (pick_cons rfl (pick_cons rfl (pick_cons rfl pick_nil))) (hN10 ())
    intro hN8
    refine ax_node (f' := 4) #[true, true, true, true, false, false, false, false] (fun (v3 : Unit) => (⟨25, [⟨.fn (.func 9) ⟨[.pointer (some q4), .pointer (some q5), .pointer (some q6)]⟩, #[]⟩], [(4, (Vl (.pointer (some q4)))), (5, (Vl (.pointer (some q5)))), (6, (Vl (.pointer (some q6)))), (20, (Vl (.int .u32 r17.2.2.2))), (22, (Vl (.int .i64 r22.2.2.2))), (23, (Vl .nilIface))], [⟨.pointer (some q4), [(Vl (.int .u32 r17.2.2.2))], 23, none⟩, ⟨.pointer (some q5), [(Vl (.int .i64 0))], 3, none⟩, ⟨.pointer (some q6), [(Vl (.bool false))], 4, none⟩]⟩ : St)) ?_ ?_
    · rintro ⟨⟩
      refine ax_all (i := 4) (is := [5]) (by kernel_rfl) (all_cons ?_ (all_cons ?_ all_nil))
      · refine nx_rd (last := #[true, true, true, true, true, false, false, false]) rfl (rd_binf' rfl rfl (bf_vl (fun _ => by kernel_rfl) nil_eql35_nilif)) rfl rfl (wt_none' rfl) rfl ?_
        exact tx_pick' [0, 1, 2] (sub_cons rfl (sub_cons rfl (sub_cons rfl (sub_cons rfl (sub_cons rfl (sub_cons rfl sub_nil)))))) (by decide) (pick_cons rfl (pick_cons rfl (pick_cons rfl pick_nil))) (hN7 ())
      · refine nx_ox (last := #[true, true, true, true, false, true, false, false]) rfl (ox_store' (i := 0) (o := 0) rfl rfl (lv_vl rfl rfl) ⟨rfl, rfl, rfl, rfl⟩ rfl info23 rfl (H' := [⟨.pointer (some q4), [(Vl (.int .u32 r17.2.2.2))], 23, none⟩, ⟨.pointer (some q5), [(Vl (.int .i64 0))], 3, none⟩, ⟨.pointer (some q6), [(Vl (.bool false))], 4, none⟩]) rfl) rfl (bs_cons (m := 0) rfl rfl rfl bs_nil) (wt_none' rfl) rfl fun _ => ?_
        exact tx_pick' [0, 1, 2] (sub_cons rfl (sub_cons rfl (sub_cons rfl (sub_cons rfl (sub_cons rfl sub_nil))))) (by decide) (pick_cons rfl (pick_cons rfl (pick_cons rfl pick_nil))) (hN8 ())
    intro hN4
    refine ax_node (f' := 4) #[true, true, true, false, false, true, false, false] (fun (v4 : Unit) => (⟨25, [⟨.fn (.func 9) ⟨[.pointer (some q4), .pointer (some q5), .pointer (some q6)]⟩, #[]⟩], [(4, (Vl (.pointer (some q4)))), (5, (Vl (.pointer (some q5)))), (6, (Vl (.pointer (some q6)))), (8, (Vl .nilIface)), (22, (Vl (.int .i64 r22.2.2.2)))], [⟨.pointer (some q4), [(Vl (.int .u32 r17.2.2.2))], 23, none⟩, ⟨.pointer (some q5), [(Vl (.int .i64 0))], 3, none⟩, ⟨.pointer (some q6), [(Vl (.bool false))], 4, none⟩]⟩ : St)) ?_ ?_
    · rintro ⟨⟩
      refine ax_rb (ix := 3) (last := #[true, true, true, true, false, true, false, false]) (by kernel_rfl) rfl (rb_move' rfl) rfl rfl (wt_none' rfl) rfl ?_
      exact tx_pick' [0, 1, 2] (sub_cons rfl (sub_cons rfl (sub_cons rfl (sub_cons rfl (sub_cons rfl sub_nil))))) (by decide) (pick_cons rfl (pick_cons rfl (pick_cons rfl pick_nil))) (hN8 ())
    intro hN5
    refine ax_node (f' := 4) #[true, true, false, true, true, false, false, false] (fun (v5 : Unit) => (⟨25, [⟨.fn (.func 9) ⟨[.pointer (some q4), .pointer (some q5), .pointer (some q6)]⟩, #[]⟩], [(4, (Vl (.pointer (some q4)))), (5, (Vl (.pointer (some q5)))), (6, (Vl (.pointer (some q6)))), (20, (Vl (.int .u32 r17.2.2.2))), (21, (Vl (.pointer (some q11)))), (24, (Vl (.bool true)))], [⟨.pointer (some q4), [(Vl (.int .u32 r17.2.2.2))], 23, none⟩, ⟨.pointer (some q5), [(Vl (.int .i64 0))], 3, none⟩, ⟨.pointer (some q6), [(Vl (.bool false))], 4, none⟩, ⟨.pointer (some q11), [(Sl (Ki .u8) r17.1), (Vl (.int .i64 r17.2.1)), (Vl (.int .i8 r17.2.2.1))], 50, none⟩]⟩ : St)) ?_ ?_
    · rintro ⟨⟩
      refine ax_all (i := 2) (is := []) (by kernel_rfl) (all_cons ?_ all_nil)
      · refine nx_oxb (is := [3]) (last := #[true, true, true, true, true, false, false, false]) rfl (oxb_callg (ent_fn' Tryd.func13 isn13 rfl rfl) (bytes_Buffer_Len_v2_sim _ _ _ hr22 : Go.Sx.Fn Tryd.prog 13 [(Vl (.pointer (some q11)))] [⟨.pointer (some q11), [(Sl (Ki .u8) r17.1), (Vl (.int .i64 r17.2.1)), (Vl (.int .i8 r17.2.2.1))], 50, none⟩] (fun x : Unit => (Vl (.int .i64 r22.2.2.2))) (fun x => [⟨.pointer (some q11), [(Sl (Ki .u8) r22.1), (Vl (.int .i64 r22.2.1)), (Vl (.int .i8 r22.2.2.1))], 50, none⟩])) [3] [0, 1, 2] (by decide) (pick_cons rfl pick_nil) (pick_cons rfl (pick_cons rfl (pick_cons rfl pick_nil))) (Hn := fun x : Unit => [⟨.pointer (some q11), [(Sl (Ki .u8) r22.1), (Vl (.int .i64 r22.2.1)), (Vl (.int .i8 r22.2.2.1))], 50, none⟩, ⟨.pointer (some q4), [(Vl (.int .u32 r17.2.2.2))], 23, none⟩, ⟨.pointer (some q5), [(Vl (.int .i64 0))], 3, none⟩, ⟨.pointer (some q6), [(Vl (.bool false))], 4, none⟩]) (fun _ => rfl) rfl rfl) (pick_cons rfl pick_nil) rfl (bl_cons (m := 0) (by decide) rfl rfl bl_nil) (wt_none' rfl) rfl fun ⟨⟩ => ?_
        exact tx_pick' [1, 2, 3] (sub_cons rfl (sub_cons rfl (sub_cons rfl (sub_cons rfl (sub_cons rfl (sub_cons rfl sub_nil)))))) (by decide) (pick_cons rfl (pick_cons rfl (pick_cons rfl pick_nil))) (hN7 ())
    intro hN6
    refine ax_node (f' := 5) #[true, true, true, false, false, false, false, false] (fun (v1 : Unit) => (⟨25, [⟨.fn (.func 9) ⟨[.pointer (some q4), .pointer (some q5), .pointer (some q6)]⟩, #[]⟩], [(4, (Vl (.pointer (some q4)))), (5, (Vl (.pointer (some q5)))), (6, (Vl (.pointer (some q6)))), (8, (Vl .nilIface)), (20, (Vl (.int .u32 r17.2.2.2))), (22, (Vl (.int .i64 r22.2.2.2)))], [⟨.pointer (some q4), [(Vl (.int .u32 r17.2.2.2))], 23, none⟩, ⟨.pointer (some q5), [(Vl (.int .i64 0))], 3, none⟩, ⟨.pointer (some q6), [(Vl (.bool false))], 4, none⟩]⟩ : St)) ?_ ?_
    · rintro ⟨⟩
      refine ax_all (i := 3) (is := [5]) (by kernel_rfl) (all_cons ?_ (all_cons ?_ all_nil))
      · refine nx_rd (last := #[true, true, true, true, false, false, false, false]) rfl (rd_move' rfl) rfl rfl (wt_none' rfl) rfl ?_
        exact tx_pick' [0, 1, 2] (sub_cons rfl (sub_cons rfl (sub_cons rfl (sub_cons rfl (sub_cons rfl (sub_cons rfl sub_nil)))))) (by decide) (pick_cons rfl (pick_cons rfl (pick_cons rfl pick_nil))) (hN4 ())
      · refine nx_ox (last := #[true, true, true, false, false, true, false, false]) rfl (ox_store' (i := 0) (o := 0) rfl rfl (lv_vl rfl rfl) ⟨rfl, rfl, rfl, rfl⟩ rfl info23 rfl (H' := [⟨.pointer (some q4), [(Vl (.int .u32 r17.2.2.2))], 23, none⟩, ⟨.pointer (some q5), [(Vl (.int .i64 0))], 3, none⟩, ⟨.pointer (some q6), [(Vl (.bool false))], 4, none⟩]) rfl) rfl (bs_cons (m := 0) rfl rfl rfl bs_nil) (wt_none' rfl) rfl fun _ => ?_
        exact tx_pick' [0, 1, 2] (sub_cons rfl (sub_cons rfl (sub_cons rfl (sub_cons rfl (sub_cons rfl sub_nil))))) (by decide) (pick_cons rfl (pick_cons rfl (pick_cons rfl pick_nil))) (hN5 ())
    intro hN2
    refine ax_node (f' := 5) #[true, true, false, true, false, false, false, false] (fun (v2 : Unit) => (⟨25, [⟨.fn (.func 9) ⟨[.pointer (some q4), .pointer (some q5), .pointer (some q6)]⟩, #[]⟩], [(4, (Vl (.pointer (some q4)))), (5, (Vl (.pointer (some q5)))), (6, (Vl (.pointer (some q6)))), (20, (Vl (.int .u32 r17.2.2.2))), (21, (Vl (.pointer (some q11)))), (23, (Vl .nilIface))], [⟨.pointer (some q4), [(Vl (.int .u32 r17.2.2.2))], 23, none⟩, ⟨.pointer (some q5), [(Vl (.int .i64 0))], 3, none⟩, ⟨.pointer (some q6), [(Vl (.bool false))], 4, none⟩, ⟨.pointer (some q11), [(Sl (Ki .u8) r17.1), (Vl (.int .i64 r17.2.1)), (Vl (.int .i8 r17.2.2.1))], 50, none⟩]⟩ : St)) ?_ ?_
    · rintro ⟨⟩
      refine ax_all (i := 2) (is := [4]) (by kernel_rfl) (all_cons ?_ (all_cons ?_ all_nil))
      · refine nx_oxb (is := [3]) (last := #[true, true, true, true, false, false, false, false]) rfl (oxb_callg (ent_fn' Tryd.func13 isn13 rfl rfl) (bytes_Buffer_Len_v2_sim _ _ _ hr22 : Go.Sx.Fn Tryd.prog 13 [(Vl (.pointer (some q11)))] [⟨.pointer (some q11), [(Sl (Ki .u8) r17.1), (Vl (.int .i64 r17.2.1)), (Vl (.int .i8 r17.2.2.1))], 50, none⟩] (fun x : Unit => (Vl (.int .i64 r22.2.2.2))) (fun x => [⟨.pointer (some q11), [(Sl (Ki .u8) r22.1), (Vl (.int .i64 r22.2.1)), (Vl (.int .i8 r22.2.2.1))], 50, none⟩])) [3] [0, 1, 2] (by decide) (pick_cons rfl pick_nil) (pick_cons rfl (pick_cons rfl (pick_cons rfl pick_nil))) (Hn := fun x : Unit => [⟨.pointer (some q11), [(Sl (Ki .u8) r22.1), (Vl (.int .i64 r22.2.1)), (Vl (.int .i8 r22.2.2.1))], 50, none⟩, ⟨.pointer (some q4), [(Vl (.int .u32 r17.2.2.2))], 23, none⟩, ⟨.pointer (some q5), [(Vl (.int .i64 0))], 3, none⟩, ⟨.pointer (some q6), [(Vl (.bool false))], 4, none⟩]) (fun _ => rfl) rfl rfl) (pick_cons rfl pick_nil) rfl (bl_cons (m := 0) (by decide) rfl rfl bl_nil) (wt_none' rfl) rfl fun ⟨⟩ => ?_
        exact tx_pick' [1, 2, 3] (sub_cons rfl (sub_cons rfl (sub_cons rfl (sub_cons rfl (sub_cons rfl (sub_cons rfl sub_nil)))))) (by decide) (pick_cons rfl (pick_cons rfl (pick_cons rfl pick_nil))) (hN4 ())
      · refine nx_rd (last := #[true, true, false, true, true, false, false, false]) rfl (rd_binf' rfl rfl (bf_vl (fun _ => by kernel_rfl) nil_eql35_nilif)) rfl rfl (wt_none' rfl) rfl ?_
        exact tx_pick' [0, 1, 2, 3] (sub_cons rfl (sub_cons rfl (sub_cons rfl (sub_cons rfl (sub_cons rfl (sub_cons rfl sub_nil)))))) (by decide) (pick_cons rfl (pick_cons rfl (pick_cons rfl (pick_cons rfl pick_nil)))) (hN6 ())
    intro hN3
    refine ax_all (i := 2) (is := [3]) (by kernel_rfl) (all_cons ?_ (all_cons ?_ all_nil))
    · refine nx_oxb (is := [0]) (last := #[true, true, true, false, false, false, false, false]) rfl (oxb_callg (ent_fn' Tryd.func13 isn13 rfl rfl) (bytes_Buffer_Len_v2_sim _ _ _ hr22 : Go.Sx.Fn Tryd.prog 13 [(Vl (.pointer (some q11)))] [⟨.pointer (some q11), [(Sl (Ki .u8) r17.1), (Vl (.int .i64 r17.2.1)), (Vl (.int .i8 r17.2.2.1))], 50, none⟩] (fun x : Unit => (Vl (.int .i64 r22.2.2.2))) (fun x => [⟨.pointer (some q11), [(Sl (Ki .u8) r22.1), (Vl (.int .i64 r22.2.1)), (Vl (.int .i8 r22.2.2.1))], 50, none⟩])) [0] [1, 2, 3] (by decide) (pick_cons rfl pick_nil) (pick_cons rfl (pick_cons rfl (pick_cons rfl pick_nil))) (Hn := fun x : Unit => [⟨.pointer (some q11), [(Sl (Ki .u8) r22.1), (Vl (.int .i64 r22.2.1)), (Vl (.int .i8 r22.2.2.1))], 50, none⟩, ⟨.pointer (some q6), [(Vl (.bool false))], 4, none⟩, ⟨.pointer (some q5), [(Vl (.int .i64 0))], 3, none⟩, ⟨.pointer (some q4), [(Vl (.int .u32 r17.2.2.2))], 23, none⟩]) (fun _ => rfl) rfl rfl) (pick_cons rfl pick_nil) rfl (bl_cons (m := 3) (by decide) rfl rfl bl_nil) (wt_none' rfl) rfl fun ⟨⟩ => ?_
      exact tx_pick' [3, 2, 1] (sub_cons rfl (sub_cons rfl (sub_cons rfl (sub_cons rfl (sub_cons rfl (sub_cons rfl sub_nil)))))) (by decide) (pick_cons rfl (pick_cons rfl (pick_cons rfl pick_nil))) (hN2 ())
    · refine nx_rd (last := #[true, true, false, true, false, false, false, false]) rfl (rd_move' rfl) rfl rfl (wt_none' rfl) rfl ?_
      exact tx_pick' [3, 2, 1, 0] (sub_cons rfl (sub_cons rfl (sub_cons rfl (sub_cons rfl (sub_cons rfl (sub_cons rfl sub_nil)))))) (by decide) (pick_cons rfl (pick_cons rfl (pick_cons rfl (pick_cons rfl pick_nil)))) (hN3 ())

def spec_wkbOut_uint_j2 (k : Nat) (a1 : Int) (x3 : List Int) (rec1 : ((List Int) × Int) → Option ((List Int))) (x4 : Int) (x2 : Int) : Option ((List Int)) :=
  (ishr .u64 a1 (imul .i64 8 x2)) >>= fun r29 =>
  (apd 1 x3 ([icv .u8 r29])) >>= fun r32 =>
  rec1 (r32, (iadd .i64 x4 1))
def spec_wkbOut_uint_l1s (a2 : Int) (a0_1 : Bool) (a1 : Int) (k : Nat) (rec1 : ((List Int) × Int) → Option ((List Int))) (x3 : List Int) (x4 : Int) : Option ((List Int)) :=
  br (decide (x4 < a2))
    (br a0_1
      (spec_wkbOut_uint_j2 k a1 x3 rec1 x4 (isub .i64 (isub .i64 a2 1) x4))
      (spec_wkbOut_uint_j2 k a1 x3 rec1 x4 x4))
    (some x3)
def spec_wkbOut_uint_l1 (a2 : Int) (a0_1 : Bool) (a1 : Int) : Nat → ((List Int) × Int) → Option ((List Int))
  | 0, _ => none
  | k + 1, v => spec_wkbOut_uint_l1s a2 a0_1 a1 k (spec_wkbOut_uint_l1 a2 a0_1 a1 k) v.1 v.2
def spec_wkbOut_uint (k : Nat) (a0_1 : Bool) (a0_2 : Bool) (a0_3 : Bool) (a0_4 : Bool) (a1 : Int) (a2 : Int) : Option ((List Int) × Bool × Bool × Bool × Bool) :=
  (spec_wkbOut_uint_l1 a2 a0_1 a1 k ([], 0)) >>= fun v4 =>
  some (v4, a0_1, a0_2, a0_3, a0_4)

theorem spec_wkbOut_uint_sim {k : Nat} {wa0 : Addr} (a0_1 : Bool) (a0_2 : Bool) (a0_3 : Bool) (a0_4 : Bool) (a1 : Int) (a2 : Int) {out : (List Int) × Bool × Bool × Bool × Bool} (hp : spec_wkbOut_uint k a0_1 a0_2 a0_3 a0_4 a1 a2 = some out) : Go.Sx.Fn Tryd.prog 14 [(Vl (.pointer (some wa0))), (Vl (.int .u64 a1)), (Vl (.int .i64 a2))] [⟨.pointer (some wa0), [(Vl (.slice none 0 0)), (Vl (.bool a0_1)), (Vl (.bool a0_2)), (Vl (.bool a0_3)), (Vl (.bool a0_4))], 44, none⟩] (fun w : Gs => (Vl (.tuple #[]))) (fun w => [⟨.pointer (some wa0), [(Vl (Vs w)), (Vl (.bool out.2.1)), (Vl (.bool out.2.2.1)), (Vl (.bool out.2.2.2.1)), (Vl (.bool out.2.2.2.2))], 44, none⟩, (Rw (Ki .u8) 5 (Vs w) out.1)]) := by
  unfold spec_wkbOut_uint at hp
  refine fn_of Tryd.func14 rfl Tryd.ntmps14 rfl fun E hM => ?_
  refine cx_seq' fun K1 hK1 => ?_
  refine cx_region' ?_
  refine sx_rd' (rd_move' rfl) rfl rfl (wt_none' rfl) ?_
  refine sx_rd' (rd_move' rfl) rfl rfl (wt_none' rfl) ?_
  refine sx_nil' ?_
  show TX E K1 _
  refine tx_k' hK1 ?_
  refine cx_block' ?_
  obtain ⟨v4, hy1, hp⟩ := bind_some hp
  refine tx_nilrow' (Ki .u8) 5 ?_
  refine cx_loopg' (F := spec_wkbOut_uint_l1 a2 a0_1 a1) (G := fun k R v => spec_wkbOut_uint_l1s a2 a0_1 a1 k R v.1 v.2) (x := ([], 0)) (gh := (none, 0, 0)) (fun (v2 : (List Int) × Int) (w2 : Gs) => (⟨36, [], [(0, (Vl (.pointer (some wa0)))), (1, (Vl (.int .u64 a1))), (2, (Vl (.int .i64 a2))), (8, (Vl (.int .i64 a2))), (9, (Vl (.int .i64 v2.2)))], [⟨.pointer (some wa0), [(Vl (Vs w2)), (Vl (.bool a0_1)), (Vl (.bool a0_2)), (Vl (.bool a0_3)), (Vl (.bool a0_4))], 44, none⟩, (Rw (Ki .u8) 5 (Vs w2) v2.1)]⟩ : St)) (fun (v4 : (List Int)) => Zg E (Exit.exit 0) (fun (w4 : Gs) => (⟨36, [], [], [⟨.pointer (some wa0), [(Vl (Vs w4)), (Vl (.bool a0_1)), (Vl (.bool a0_2)), (Vl (.bool a0_3)), (Vl (.bool a0_4))], 44, none⟩, (Rw (Ki .u8) 5 (Vs w4) v4)]⟩ : St))) (fun _ => rfl) (fun _ _ => rfl) ?_ hy1 (tx_to' rfl [1, 0] (sub_cons rfl (sub_cons rfl (sub_cons rfl (sub_cons rfl (sub_cons rfl sub_nil))))) (by decide) (pick_cons rfl (pick_cons rfl pick_nil))) ?_
  · clear hp hy1
    clear v4
    intro k rec1 KY1 ih1
    rintro ⟨x3, x4⟩ g901 y1 hp
    replace hp : spec_wkbOut_uint_l1s a2 a0_1 a1 k rec1 x3 x4 = some y1 := hp
    unfold spec_wkbOut_uint_l1s at hp
    refine cx_seq' fun K9 hK9 => ?_
    refine cx_region' ?_
    refine sx_rd' (rd_bin' rfl rfl eg_int ru_lss) rfl rfl (wt_none' rfl) ?_
    refine sx_nil' ?_
    show TX E K9 _
    refine tx_k' hK9 ?_
    refine cx_seq' fun K10 hK10 => ?_
    refine cx_cond' rfl (fun h4 => ?_) (fun h4 => ?_)
    · replace hp := (br_t h4).symm.trans hp
      refine cx_skip' ?_
      show TX E K10 _
      refine tx_k' hK10 ?_
      refine cx_seq' fun K11 hK11 => ?_
      refine cx_block' ?_
      refine cx_seq' fun K12 hK12 => ?_
      refine cx_region' ?_
      refine sx_rd' (rd_move' rfl) rfl rfl (wt_none' rfl) ?_
      refine sx_rd' (rd_assign' rfl) rfl rfl (wt_none' rfl) ?_
      refine sx_nil' ?_
      show TX E K12 _
      refine tx_k' hK12 ?_
      refine cx_seq' fun K13 hK13 => ?_
      refine cx_region' ?_
      refine sx_rd' (rd_move' rfl) rfl rfl (wt_none' rfl) ?_
      refine sx_rd' (rd_assign' rfl) rfl rfl (wt_none' rfl) ?_
      refine sx_nil' ?_
      show TX E K13 _
      refine tx_k' hK13 ?_
      refine cx_join' (fun (v3 : Int) => (⟨36, [], [(0, (Vl (.pointer (some wa0)))), (1, (Vl (.int .u64 a1))), (2, (Vl (.int .i64 a2))), (7, (Vl (.int .i64 v3))), (8, (Vl (.int .i64 a2))), (9, (Vl (.int .i64 x4)))], [⟨.pointer (some wa0), [(Vl (Vs g901)), (Vl (.bool a0_1)), (Vl (.bool a0_2)), (Vl (.bool a0_3)), (Vl (.bool a0_4))], 44, none⟩, (Rw (Ki .u8) 5 (Vs g901) x3)]⟩ : St)) (fun (v3 : Int) => spec_wkbOut_uint_j2 k a1 x3 rec1 x4 v3 = some y1) ?_ ?_
      · rintro x2 hp
        replace hp : spec_wkbOut_uint_j2 k a1 x3 rec1 x4 x2 = some y1 := hp
        unfold spec_wkbOut_uint_j2 at hp
        refine cx_plan' [] [(11, 1), (14, 1)] [(0, 2), (1, 1), (2, 1), (3, 1), (4, 1), (5, 1), (6, 1), (7, 1), (8, 1), (9, 1), (10, 0), (11, 0), (12, 1), (13, 1), (14, 0)] mixed (by kernel_rfl) ?_
        refine px_rb' rfl (rb_move' rfl) rfl rfl (wt_none' rfl) ?_
        refine px_rd' rfl (rd_move' rfl) rfl rfl (wt_none' rfl) ?_
        refine px_rd' rfl (rd_nilck' rfl) rfl rfl (wt_none' rfl) ?_
        refine px_rd' rfl (rd_field0' rfl Tryd.underlying44 rfl info22 rfl) rfl rfl (wt_none' rfl) ?_
        refine px_rd' rfl (rd_load' (i := 0) (o := 0) rfl ⟨rfl, rfl, rfl, rfl⟩ rfl flat22) rfl rfl (wt_none' rfl) ?_
        refine px_rd' rfl (rd_move' rfl) rfl rfl (wt_none' rfl) ?_
        refine px_rd' rfl (rd_move' rfl) rfl rfl (wt_none' rfl) ?_
        refine px_rd' rfl (rd_bin' rfl rfl eg_int ru_mul) rfl rfl (wt_none' rfl) ?_
        obtain ⟨r29, hr29, hp⟩ := bind_some hp
        refine px_rd' rfl (rd_bin' rfl rfl eg_int (ru_shr hr29)) rfl rfl (wt_none' rfl) ?_
        refine px_rd' rfl (rd_conv' rfl (ru_i2i (by rw [Tryd.underlying46]; rfl) Tryd.underlying5)) rfl rfl (wt_none' rfl) ?_
        refine px_ox' rfl (ox_rowlit' (K := (Ki .u8)) (xs := [icv .u8 r29]) (qs := [(0, [(Vl (.int .u8 (icv .u8 r29)))])]) ⟨rfl, ⟨_, rfl, (lv_vl rfl rfl)⟩, trivial⟩ Tryd.underlying22 info5 rfl rfl rfl rfl rfl (by kernel_rfl) rfl rfl rfl) rfl bs_nil (wt_none' rfl) fun g31 => ?_
        obtain ⟨r32, hr32, hp⟩ := bind_some hp
        refine px_ox' rfl (ox_append' (K := (Ki .u8)) (i := 2) (xs := x3) (ys := ([icv .u8 r29])) rfl rfl rfl (sr_row' (j := 0) rfl rfl rfl Tryd.underlying22) hr32 Tryd.underlying22 info5 rfl rfl rfl (H' := [(Rw (Ki .u8) 5 (Vs g31) ([icv .u8 r29])), ⟨.pointer (some wa0), [(Vl (Vs g901)), (Vl (.bool a0_1)), (Vl (.bool a0_2)), (Vl (.bool a0_3)), (Vl (.bool a0_4))], 44, none⟩]) rfl) rfl bs_nil (wt_none' rfl) fun g32 => ?_
        refine px_rd' rfl (rd_nilck' rfl) rfl rfl (wt_none' rfl) ?_
        refine px_rd' rfl (rd_field0' rfl Tryd.underlying44 rfl info22 rfl) rfl rfl (wt_none' rfl) ?_
        refine px_oxv' rfl (oxv_store (i := 2) (o := 0) rfl rfl (lv_vl rfl rfl) ⟨rfl, rfl, rfl, rfl⟩ rfl info22 rfl (H' := [(Rw (Ki .u8) 5 (Vs g32) r32), (Rw (Ki .u8) 5 (Vs g31) ([icv .u8 r29])), ⟨.pointer (some wa0), [(Vl (Vs g32)), (Vl (.bool a0_1)), (Vl (.bool a0_2)), (Vl (.bool a0_3)), (Vl (.bool a0_4))], 44, none⟩]) rfl) rfl rfl bo_nil (wt_none' rfl) fun _ => ?_
        refine px_nil' ?_
        show TX E K11 _
        refine tx_k' hK11 ?_
        refine cx_region' ?_
        refine sx_rd' (rd_bin' rfl rfl eg_int ru_add) rfl rfl (wt_none' rfl) ?_
        refine sx_rd' (rd_move' rfl) rfl rfl (wt_none' rfl) ?_
        refine sx_nil' ?_
        show TX E (KY1 _) _
        exact tx_pick' [2, 0] (sub_cons rfl (sub_cons rfl (sub_cons rfl (sub_cons rfl (sub_cons rfl sub_nil))))) (by decide) (pick_cons rfl (pick_cons rfl pick_nil)) (ih1 (r32, (iadd .i64 x4 1)) g32 _ hp)
      · intro K14 hK14
        refine cx_seq' fun K15 hK15 => ?_
        refine cx_region' ?_
        refine sx_rd' (rd_move' rfl) rfl rfl (wt_none' rfl) ?_
        refine sx_rd' (rd_nilck' rfl) rfl rfl (wt_none' rfl) ?_
        refine sx_rd' (rd_field' (off := 1) rfl Tryd.underlying44 rfl info4 rfl) rfl rfl (wt_none' rfl) ?_
        refine sx_rd' (rd_load' (i := 0) (o := 1) rfl ⟨rfl, rfl, rfl, rfl⟩ rfl flat4) rfl rfl (wt_none' rfl) ?_
        refine sx_nil' ?_
        show TX E K15 _
        refine tx_k' hK15 ?_
        refine cx_cond' rfl (fun h5 => ?_) (fun h5 => ?_)
        · replace hp := (br_t h5).symm.trans hp
          refine cx_region' ?_
          refine sx_rd' (rd_move' rfl) rfl rfl (wt_none' rfl) ?_
          refine sx_rd' (rd_bin' rfl rfl eg_int ru_sub) rfl rfl (wt_none' rfl) ?_
          refine sx_rd' (rd_move' rfl) rfl rfl (wt_none' rfl) ?_
          refine sx_rd' (rd_bin' rfl rfl eg_int ru_sub) rfl rfl (wt_none' rfl) ?_
          refine sx_rd' (rd_assign' rfl) rfl rfl (wt_none' rfl) ?_
          refine sx_nil' ?_
          show TX E K14 _
          exact tx_pick' [0, 1] (sub_cons rfl (sub_cons rfl (sub_cons rfl (sub_cons rfl (sub_cons rfl (sub_cons rfl sub_nil)))))) (by decide) (pick_cons rfl (pick_cons rfl pick_nil)) (hK14 (isub .i64 (isub .i64 a2 1) x4) hp)
        · replace hp := (br_f h5).symm.trans hp
          refine cx_skip' ?_
          show TX E K14 _
          exact tx_pick' [0, 1] (sub_cons rfl (sub_cons rfl (sub_cons rfl (sub_cons rfl (sub_cons rfl (sub_cons rfl sub_nil)))))) (by decide) (pick_cons rfl (pick_cons rfl pick_nil)) (hK14 x4 hp)
    · replace hp := (br_f h4).symm.trans hp
      refine cx_exit' ?_
      replace hp := Option.some.inj hp
      subst hp
      show TX E (Zg E (Exit.exit 0) _ (Exit.exit 0)) _
      exact tx_zend' g901 rfl [0, 1] sub_nil (by decide) (pick_cons rfl (pick_cons rfl pick_nil))
  · refine zg_out fun w4 => ?_
    replace hp := Option.some.inj hp
    subst hp
    refine tx_pick' (L' := []) (H' := [⟨.pointer (some wa0), [(Vl (Vs w4)), (Vl (.bool a0_1)), (Vl (.bool a0_2)), (Vl (.bool a0_3)), (Vl (.bool a0_4))], 44, none⟩, (Rw (Ki .u8) 5 (Vs w4) v4)]) [0, 1] sub_nil (by decide) (pick_cons rfl (pick_cons rfl pick_nil)) ?_
    exact tx_end0' Tryd.results14 rfl w4 rfl (List.Sublist.refl _)

def spec_CountBytes (k : Nat) (a0 : Int) (a1 : Bool) : Option ((List Int)) :=
  (spec_wkbOut_uint k a1 false false false (icv .u64 a0) 4) >>= fun r12 =>
  some r12.1

theorem spec_CountBytes_sim {k : Nat}  (a0 : Int) (a1 : Bool) {out : (List Int)} (hp : spec_CountBytes k a0 a1 = some out) : Go.Sx.Fn Tryd.prog 7 [(Vl (.int .u32 a0)), (Vl (.bool a1))] [] (fun w : Unit => (Sl (Ki .u8) out)) (fun w => []) := by
  unfold spec_CountBytes at hp
  refine fn_of Tryd.func7 rfl Tryd.ntmps7 rfl fun E hM => ?_
  refine cx_seq' fun K1 hK1 => ?_
  refine cx_region' ?_
  refine sx_rd' (rd_assign' rfl) rfl rfl (wt_none' rfl) ?_
  refine sx_nil' ?_
  show TX E K1 _
  refine tx_k' hK1 ?_
  refine cx_seq' fun K2 hK2 => ?_
  refine cx_region' ?_
  refine sx_rd' (rd_move' rfl) rfl rfl (wt_none' rfl) ?_
  refine sx_rd' (rd_build' (pls := [(0, 1), (1, 1), (2, 1), (3, 1), (4, 1)]) (qs := [(1, [(Vl (.bool a1))])]) (r := [(Vl (.slice none 0 0)), (Vl (.bool a1)), (Vl (.bool false)), (Vl (.bool false)), (Vl (.bool false))]) ⟨rfl, ⟨_, rfl, (lv_vl rfl rfl)⟩, trivial⟩ Tryd.underlying44 has44 places44 info44 rfl rfl rfl) rfl rfl (wt_none' rfl) ?_
  refine sx_ox' (ox_box' rfl (lv_ag _) rfl rfl) (wt_none' rfl) fun q8 => ?_
  refine sx_rd' (rd_assign' rfl) rfl rfl (wt_none' rfl) ?_
  refine sx_nil' ?_
  show TX E K2 _
  refine tx_k' hK2 ?_
  refine cx_seq' fun K3 hK3 => ?_
  refine cx_region' ?_
  refine sx_rd' (rd_move' rfl) rfl rfl (wt_none' rfl) ?_
  refine sx_rd' (rd_move' rfl) rfl rfl (wt_none' rfl) ?_
  refine sx_rd' (rd_conv' rfl (ru_i2i (by rw [Tryd.underlying23]; rfl) Tryd.underlying46)) rfl rfl (wt_none' rfl) ?_
  obtain ⟨r12, hr12, hp⟩ := bind_some hp
  refine sx_ox' (ox_callg' (ent_fn' Tryd.func14 isn14 rfl rfl) (spec_wkbOut_uint_sim _ _ _ _ _ _ hr12 : Go.Sx.Fn Tryd.prog 14 [(Vl (.pointer (some q8))), (Vl (.int .u64 (icv .u64 a0))), (Vl (.int .i64 4))] [⟨.pointer (some q8), [(Vl (.slice none 0 0)), (Vl (.bool a1)), (Vl (.bool false)), (Vl (.bool false)), (Vl (.bool false))], 44, none⟩] (fun x : Gs => (Vl (.tuple #[]))) (fun x => [⟨.pointer (some q8), [(Vl (Vs x)), (Vl (.bool r12.2.1)), (Vl (.bool r12.2.2.1)), (Vl (.bool r12.2.2.2.1)), (Vl (.bool r12.2.2.2.2))], 44, none⟩, (Rw (Ki .u8) 5 (Vs x) r12.1)])) [0] [] (by decide) (pick_cons rfl pick_nil) pick_nil (Hn := fun x : Gs => [⟨.pointer (some q8), [(Vl (Vs x)), (Vl (.bool r12.2.1)), (Vl (.bool r12.2.2.1)), (Vl (.bool r12.2.2.2.1)), (Vl (.bool r12.2.2.2.2))], 44, none⟩, (Rw (Ki .u8) 5 (Vs x) r12.1)]) (fun _ => rfl) rfl rfl) (wt_none' rfl) fun g12 => ?_
  refine sx_nil' ?_
  show TX E K3 _
  refine tx_k' hK3 ?_
  refine cx_seq' fun K4 hK4 => ?_
  refine cx_region' ?_
  refine sx_rd' (rd_move' rfl) rfl rfl (wt_none' rfl) ?_
  refine sx_rd' (rd_nilck' rfl) rfl rfl (wt_none' rfl) ?_
  refine sx_rd' (rd_field0' rfl Tryd.underlying44 rfl info22 rfl) rfl rfl (wt_none' rfl) ?_
  refine sx_rd' (rd_load' (i := 0) (o := 0) rfl ⟨rfl, rfl, rfl, rfl⟩ rfl flat22) rfl rfl (wt_none' rfl) ?_
  refine sx_rd' (rd_assign' rfl) rfl rfl (wt_none' rfl) ?_
  refine sx_nil' ?_
  show TX E K4 _
  refine tx_k' hK4 ?_
  refine cx_retc' ?_
  replace hp := Option.some.inj hp
  subst hp
  refine tx_fz' (frz_row 1 [(4, (Vl (Vs g12)), (Sl (Ki .u8) r12.1)), (16, (Vl (Vs g12)), (Sl (Ki .u8) r12.1))] (K := (Ki .u8)) (xs := r12.1) (by decide) rfl ⟨⟨rfl, frz_it⟩, ⟨rfl, frz_it⟩, trivial⟩ (H' := [⟨.pointer (some q8), [(Sl (Ki .u8) r12.1), (Vl (.bool r12.2.1)), (Vl (.bool r12.2.2.1)), (Vl (.bool r12.2.2.2.1)), (Vl (.bool r12.2.2.2.2))], 44, none⟩]) (frzH_cons rfl rfl rfl (frzL_cons frz_it (frzL_cons frz_same (frzL_cons frz_same (frzL_cons frz_same (frzL_cons frz_same frzL_refl))))) frzH_refl)) ?_
  refine tx_pick' (L' := [(4, (Sl (Ki .u8) r12.1))]) (H' := []) [] (sub_cons rfl sub_nil) (by decide) pick_nil ?_
  exact tx_ret1' Tryd.results7 rfl () (rv_tmp' rfl) (List.Sublist.refl _)

def laws_ySame (k : Nat) (a0 : List Int) (a1 : List Int) : Option (Bool) :=
  some ((bytesOf a0).toList == (bytesOf a1).toList)

theorem laws_ySame_sim {k : Nat}  (a0 : List Int) (a1 : List Int) {out : Bool} (hp : laws_ySame k a0 a1 = some out) : Go.Sx.Fn Tryd.prog 6 [(Sl (Ki .u8) a0), (Sl (Ki .u8) a1)] [] (fun w : Unit => (Vl (.bool out))) (fun w => []) := by
  unfold laws_ySame at hp
  refine fn_of Tryd.func6 rfl Tryd.ntmps6 rfl fun E hM => ?_
  refine cx_seq' fun K1 hK1 => ?_
  refine cx_region' ?_
  refine sx_rd' (rd_assign' rfl) rfl rfl (wt_none' rfl) ?_
  refine sx_nil' ?_
  show TX E K1 _
  refine tx_k' hK1 ?_
  refine cx_seq' fun K2 hK2 => ?_
  refine cx_region' ?_
  refine sx_rd' (rd_move' rfl) rfl rfl (wt_none' rfl) ?_
  refine sx_rd' (rd_bytes' rfl Tryd.underlying22 Tryd.underlying5 Tryd.underlying9) rfl rfl (wt_none' rfl) ?_
  refine sx_rd' (rd_move' rfl) rfl rfl (wt_none' rfl) ?_
  refine sx_rd' (rd_bytes' rfl Tryd.underlying22 Tryd.underlying5 Tryd.underlying9) rfl rfl (wt_none' rfl) ?_
  refine sx_rd' (rd_bin' rfl rfl eg_str ru_seq) rfl rfl (wt_none' rfl) ?_
  refine sx_rd' (rd_assign' rfl) rfl rfl (wt_none' rfl) ?_
  refine sx_nil' ?_
  show TX E K2 _
  refine tx_k' hK2 ?_
  refine cx_retc' ?_
  replace hp := Option.some.inj hp
  subst hp
  refine tx_pick' (L' := [(4, (Vl (.bool ((bytesOf a0).toList == (bytesOf a1).toList))))]) (H' := []) [] (sub_cons rfl sub_nil) (by decide) pick_nil ?_
  exact tx_ret1' Tryd.results6 rfl () (rv_tmp' rfl) (List.Sublist.refl _)

def laws_FnWriteUint32_j4 (k : Nat) (x4 : Bool) : Option (Bool) :=
  some x4
def laws_FnWriteUint32_j3 (k : Nat) (a0 : Int) (a1 : Bool) (r13 : (List Int) × Bool) (x3 : Bool) : Option (Bool) :=
  br x3
    ((spec_CountBytes k a0 a1) >>= fun r40 =>
    (laws_ySame k r13.1 r40) >>= fun r41 =>
    laws_FnWriteUint32_j4 k r41)
    (laws_FnWriteUint32_j4 k false)
def laws_FnWriteUint32_j2 (k : Nat) (a0 : Int) (a1 : Bool) (r13 : (List Int) × Bool) (r19 : Int × Int × Bool) (x2 : Bool) : Option (Bool) :=
  br x2
    (laws_FnWriteUint32_j3 k a0 a1 r13 (decide (r19.1 = a0)))
    (laws_FnWriteUint32_j3 k a0 a1 r13 false)
def laws_FnWriteUint32_j1 (k : Nat) (a0 : Int) (a1 : Bool) (r13 : (List Int) × Bool) (r19 : Int × Int × Bool) (x1 : Bool) : Option (Bool) :=
  br x1
    (laws_FnWriteUint32_j2 k a0 a1 r13 r19 (decide (r19.2.1 = 0)))
    (laws_FnWriteUint32_j2 k a0 a1 r13 r19 false)
def laws_FnWriteUint32 (k : Nat) (a0 : Int) (a1 : Bool) : Option (Bool) :=
  (impl_WriteUint32 k a0 a1) >>= fun r13 =>
  (impl_ReadUint32 k r13.1 a1) >>= fun r19 =>
  br r13.2
    (laws_FnWriteUint32_j1 k a0 a1 r13 r19 r19.2.2)
    (laws_FnWriteUint32_j1 k a0 a1 r13 r19 false)

theorem laws_FnWriteUint32_sim {k : Nat}  (a0 : Int) (a1 : Bool) {out : Bool} (hp : laws_FnWriteUint32 k a0 a1 = some out) : Go.Sx.Fn Tryd.prog 4 [(Vl (.int .u32 a0)), (Vl (.bool a1))] [] (fun w : Unit => (Vl (.bool out))) (fun w => []) := by
  unfold laws_FnWriteUint32 at hp
  refine fn_of Tryd.func4 rfl Tryd.ntmps4 rfl fun E hM => ?_
  refine cx_seq' fun K1 hK1 => ?_
  refine cx_region' ?_
  refine sx_rd' (rd_assign' rfl) rfl rfl (wt_none' rfl) ?_
  refine sx_nil' ?_
  show TX E K1 _
  refine tx_k' hK1 ?_
  refine cx_seq' fun K2 hK2 => ?_
  refine cx_region' ?_
  refine sx_rd' (rd_move' rfl) rfl rfl (wt_none' rfl) ?_
  refine sx_rd' (rd_move' rfl) rfl rfl (wt_none' rfl) ?_
  obtain ⟨r13, hr13, hp⟩ := bind_some hp
  refine sx_ox' (ox_calln' (ent_fn' Tryd.func8 isn8 rfl rfl) (impl_WriteUint32_sim _ _ hr13 : Go.Sx.Fn Tryd.prog 8 [(Vl (.int .u32 a0)), (Vl (.bool a1))] [] (fun x : Unit => (Tu [(Sl (Ki .u8) r13.1), (Vl (.bool r13.2))])) (fun x => [])) (Hn := fun x : Unit => []) (fun _ => rfl) rfl rfl) (wt_none' rfl) fun ⟨⟩ => ?_
  refine sx_rd' (rd_move' rfl) rfl rfl (wt_none' rfl) ?_
  refine sx_rd' (rd_extract' rfl rfl) rfl rfl (wt_none' rfl) ?_
  refine sx_rd' (rd_extract' rfl rfl) rfl rfl (wt_none' rfl) ?_
  refine sx_rd' (rd_assign' rfl) rfl rfl (wt_none' rfl) ?_
  refine sx_rd' (rd_assign' rfl) rfl rfl (wt_none' rfl) ?_
  refine sx_nil' ?_
  show TX E K2 _
  refine tx_k' hK2 ?_
  refine cx_seq' fun K3 hK3 => ?_
  refine cx_region' ?_
  refine sx_rd' (rd_move' rfl) rfl rfl (wt_none' rfl) ?_
  refine sx_rd' (rd_move' rfl) rfl rfl (wt_none' rfl) ?_
  obtain ⟨r19, hr19, hp⟩ := bind_some hp
  refine sx_ox' (ox_calln' (ent_fn' Tryd.func5 isn5 rfl rfl) (impl_ReadUint32_sim _ _ hr19 : Go.Sx.Fn Tryd.prog 5 [(Sl (Ki .u8) r13.1), (Vl (.bool a1))] [] (fun x : Unit => (Tu [(Vl (.int .u32 r19.1)), (Vl (.int .i64 r19.2.1)), (Vl (.bool r19.2.2))])) (fun x => [])) (Hn := fun x : Unit => []) (fun _ => rfl) rfl rfl) (wt_none' rfl) fun ⟨⟩ => ?_
  refine sx_rd' (rd_move' rfl) rfl rfl (wt_none' rfl) ?_
  refine sx_rd' (rd_extract' rfl rfl) rfl rfl (wt_none' rfl) ?_
  refine sx_rd' (rd_extract' rfl rfl) rfl rfl (wt_none' rfl) ?_
  refine sx_rd' (rd_extract' rfl rfl) rfl rfl (wt_none' rfl) ?_
  refine sx_rd' (rd_assign' rfl) rfl rfl (wt_none' rfl) ?_
  refine sx_rd' (rd_assign' rfl) rfl rfl (wt_none' rfl) ?_
  refine sx_rd' (rd_assign' rfl) rfl rfl (wt_none' rfl) ?_
  refine sx_nil' ?_
  show TX E K3 _
  refine tx_k' hK3 ?_
  refine cx_seq' fun K4 hK4 => ?_
  refine cx_region' ?_
  refine sx_rd' (rd_move' rfl) rfl rfl (wt_none' rfl) ?_
  refine sx_rd' (rd_move' rfl) rfl rfl (wt_none' rfl) ?_
  refine sx_cutn' 2 (fun (v1 : Bool) => (⟨43, [], [(0, (Vl (.int .u32 a0))), (1, (Vl (.bool a1))), (5, (Sl (Ki .u8) r13.1)), (7, (Vl (.int .u32 r19.1))), (8, (Vl (.int .i64 r19.2.1))), (26, (Vl (.bool v1)))], []⟩ : St)) (fun (v1 : Bool) => laws_FnWriteUint32_j1 k a0 a1 r13 r19 v1 = some out) ?_ ?_
  · rintro x1 hp
    replace hp : laws_FnWriteUint32_j1 k a0 a1 r13 r19 x1 = some out := hp
    unfold laws_FnWriteUint32_j1 at hp
    refine sx_rd' (rd_move' rfl) rfl rfl (wt_none' rfl) ?_
    refine sx_cutn' 3 (fun (v2 : Bool) => (⟨43, [], [(0, (Vl (.int .u32 a0))), (1, (Vl (.bool a1))), (5, (Sl (Ki .u8) r13.1)), (7, (Vl (.int .u32 r19.1))), (30, (Vl (.bool v2)))], []⟩ : St)) (fun (v2 : Bool) => laws_FnWriteUint32_j2 k a0 a1 r13 r19 v2 = some out) ?_ ?_
    · rintro x2 hp
      replace hp : laws_FnWriteUint32_j2 k a0 a1 r13 r19 x2 = some out := hp
      unfold laws_FnWriteUint32_j2 at hp
      refine sx_rd' (rd_move' rfl) rfl rfl (wt_none' rfl) ?_
      refine sx_cutn' 4 (fun (v3 : Bool) => (⟨43, [], [(0, (Vl (.int .u32 a0))), (1, (Vl (.bool a1))), (5, (Sl (Ki .u8) r13.1)), (35, (Vl (.bool v3)))], []⟩ : St)) (fun (v3 : Bool) => laws_FnWriteUint32_j3 k a0 a1 r13 v3 = some out) ?_ ?_
      · rintro x3 hp
        replace hp : laws_FnWriteUint32_j3 k a0 a1 r13 x3 = some out := hp
        unfold laws_FnWriteUint32_j3 at hp
        refine sx_rd' (rd_move' rfl) rfl rfl (wt_none' rfl) ?_
        refine sx_cutn' 6 (fun (v4 : Bool) => (⟨43, [], [(42, (Vl (.bool v4)))], []⟩ : St)) (fun (v4 : Bool) => laws_FnWriteUint32_j4 k v4 = some out) ?_ ?_
        · rintro x4 hp
          replace hp : laws_FnWriteUint32_j4 k x4 = some out := hp
          unfold laws_FnWriteUint32_j4 at hp
          refine sx_rd' (rd_assign' rfl) rfl rfl (wt_none' rfl) ?_
          refine sx_nil' ?_
          show TX E K4 _
          refine tx_k' hK4 ?_
          refine cx_retc' ?_
          replace hp := Option.some.inj hp
          subst hp
          refine tx_pick' (L' := [(4, (Vl (.bool x4)))]) (H' := []) [] (sub_cons rfl sub_nil) (by decide) pick_nil ?_
          exact tx_ret1' Tryd.results4 rfl () (rv_tmp' rfl) (List.Sublist.refl _)
        · intro K8 hK8
          rcases br_cases hp with ⟨h4, hp⟩ | ⟨h4, hp⟩
          · refine sx_rd' (rd_move' rfl) rfl rfl (wt_is' (wt_guard' rfl rfl rfl) (beq_tt h4)) ?_
            refine sx_rd' (rd_move' rfl) rfl rfl (wt_is' (wt_guard' rfl rfl rfl) (beq_tt h4)) ?_
            refine sx_rd' (rd_move' rfl) rfl rfl (wt_is' (wt_guard' rfl rfl rfl) (beq_tt h4)) ?_
            obtain ⟨r40, hr40, hp⟩ := bind_some hp
            refine sx_ox' (ox_calln' (ent_fn' Tryd.func7 isn7 rfl rfl) (spec_CountBytes_sim _ _ hr40 : Go.Sx.Fn Tryd.prog 7 [(Vl (.int .u32 a0)), (Vl (.bool a1))] [] (fun x : Unit => (Sl (Ki .u8) r40)) (fun x => [])) (Hn := fun x : Unit => []) (fun _ => rfl) rfl rfl) (wt_is' (wt_guard' rfl rfl rfl) (beq_tt h4)) fun ⟨⟩ => ?_
            obtain ⟨r41, hr41, hp⟩ := bind_some hp
            refine sx_ox' (ox_calln' (ent_fn' Tryd.func6 isn6 rfl rfl) (laws_ySame_sim _ _ hr41 : Go.Sx.Fn Tryd.prog 6 [(Sl (Ki .u8) r13.1), (Sl (Ki .u8) r40)] [] (fun x : Unit => (Vl (.bool r41))) (fun x => [])) (Hn := fun x : Unit => []) (fun _ => rfl) rfl rfl) (wt_is' (wt_guard' rfl rfl rfl) (beq_tt h4)) fun ⟨⟩ => ?_
            refine sx_rd' (rd_pick_true' rfl h4 rfl) rfl rfl (wt_none' rfl) ?_
            refine sx_nil' ?_
            show TX E K8 _
            exact tx_pick' [] (sub_cons rfl sub_nil) (by decide) pick_nil (hK8 r41 hp)
          · refine sx_skip' rfl rfl (wt_is' (wt_guard' rfl rfl rfl) (beq_ft h4)) ?_
            refine sx_skip' rfl rfl (wt_is' (wt_guard' rfl rfl rfl) (beq_ft h4)) ?_
            refine sx_skip' rfl rfl (wt_is' (wt_guard' rfl rfl rfl) (beq_ft h4)) ?_
            refine sx_skip' rfl rfl (wt_is' (wt_guard' rfl rfl rfl) (beq_ft h4)) ?_
            refine sx_skip' rfl rfl (wt_is' (wt_guard' rfl rfl rfl) (beq_ft h4)) ?_
            refine sx_rd' (rd_pick_false' rfl h4 rfl) rfl rfl (wt_none' rfl) ?_
            refine sx_nil' ?_
            show TX E K8 _
            exact tx_pick' [] (sub_cons rfl sub_nil) (by decide) pick_nil (hK8 false hp)
      · intro K7 hK7
        rcases br_cases hp with ⟨h3, hp⟩ | ⟨h3, hp⟩
        · refine sx_rd' (rd_move' rfl) rfl rfl (wt_is' (wt_guard' rfl rfl rfl) (beq_tt h3)) ?_
          refine sx_rd' (rd_move' rfl) rfl rfl (wt_is' (wt_guard' rfl rfl rfl) (beq_tt h3)) ?_
          refine sx_rd' (rd_bin' rfl rfl eg_int ru_eql) rfl rfl (wt_is' (wt_guard' rfl rfl rfl) (beq_tt h3)) ?_
          refine sx_rd' (rd_pick_true' rfl h3 rfl) rfl rfl (wt_none' rfl) ?_
          refine sx_nil' ?_
          show TX E K7 _
          exact tx_pick' [] (sub_cons rfl (sub_cons rfl (sub_cons rfl (sub_cons rfl sub_nil)))) (by decide) pick_nil (hK7 (decide (r19.1 = a0)) hp)
        · refine sx_skip' rfl rfl (wt_is' (wt_guard' rfl rfl rfl) (beq_ft h3)) ?_
          refine sx_skip' rfl rfl (wt_is' (wt_guard' rfl rfl rfl) (beq_ft h3)) ?_
          refine sx_skip' rfl rfl (wt_is' (wt_guard' rfl rfl rfl) (beq_ft h3)) ?_
          refine sx_rd' (rd_pick_false' rfl h3 rfl) rfl rfl (wt_none' rfl) ?_
          refine sx_nil' ?_
          show TX E K7 _
          exact tx_pick' [] (sub_cons rfl (sub_cons rfl (sub_cons rfl (sub_cons rfl sub_nil)))) (by decide) pick_nil (hK7 false hp)
    · intro K6 hK6
      rcases br_cases hp with ⟨h2, hp⟩ | ⟨h2, hp⟩
      · refine sx_rd' (rd_move' rfl) rfl rfl (wt_is' (wt_guard' rfl rfl rfl) (beq_tt h2)) ?_
        refine sx_rd' (rd_bin' rfl rfl eg_int ru_eql) rfl rfl (wt_is' (wt_guard' rfl rfl rfl) (beq_tt h2)) ?_
        refine sx_rd' (rd_pick_true' rfl h2 rfl) rfl rfl (wt_none' rfl) ?_
        refine sx_nil' ?_
        show TX E K6 _
        exact tx_pick' [] (sub_cons rfl (sub_cons rfl (sub_cons rfl (sub_cons rfl (sub_cons rfl sub_nil))))) (by decide) pick_nil (hK6 (decide (r19.2.1 = 0)) hp)
      · refine sx_skip' rfl rfl (wt_is' (wt_guard' rfl rfl rfl) (beq_ft h2)) ?_
        refine sx_skip' rfl rfl (wt_is' (wt_guard' rfl rfl rfl) (beq_ft h2)) ?_
        refine sx_rd' (rd_pick_false' rfl h2 rfl) rfl rfl (wt_none' rfl) ?_
        refine sx_nil' ?_
        show TX E K6 _
        exact tx_pick' [] (sub_cons rfl (sub_cons rfl (sub_cons rfl (sub_cons rfl (sub_cons rfl sub_nil))))) (by decide) pick_nil (hK6 false hp)
  · intro K5 hK5
    rcases br_cases hp with ⟨h1, hp⟩ | ⟨h1, hp⟩
    · refine sx_rd' (rd_move' rfl) rfl rfl (wt_is' (wt_guard' rfl rfl rfl) (beq_tt h1)) ?_
      refine sx_rd' (rd_pick_true' rfl h1 rfl) rfl rfl (wt_none' rfl) ?_
      refine sx_nil' ?_
      show TX E K5 _
      exact tx_pick' [] (sub_cons rfl (sub_cons rfl (sub_cons rfl (sub_cons rfl (sub_cons rfl (sub_cons rfl sub_nil)))))) (by decide) pick_nil (hK5 r19.2.2 hp)
    · refine sx_skip' rfl rfl (wt_is' (wt_guard' rfl rfl rfl) (beq_ft h1)) ?_
      refine sx_rd' (rd_pick_false' rfl h1 rfl) rfl rfl (wt_none' rfl) ?_
      refine sx_nil' ?_
      show TX E K5 _
      exact tx_pick' [] (sub_cons rfl (sub_cons rfl (sub_cons rfl (sub_cons rfl (sub_cons rfl (sub_cons rfl sub_nil)))))) (by decide) pick_nil (hK5 false hp)

end Go.Proofs.YthjeamiaogdmgaaDoor
