/-
  Plain functions for the Go functions that this law reaches, and that each call does what its plain function says. Printed by a program of ours.
-/
import Derived.Test.YtmagcmeknclljaaProg
import Derived.Test.YtmagcmeknclljaaSxX
import Derived.Test.YtmagcmeknclljaaFun1
namespace Go.Proofs.Ytmagcmeknclljaa
open Go.Sx
set_option linter.unusedVariables false
set_option linter.unusedSimpArgs false
set_option maxRecDepth 100000

def gogeom_MultiPoint_SetSRID (k : Nat) (a0_0 a0_1 : Int) (a0_2 : List Nat) (a0_3 : Int) (a0_4 : List Int) (a1 : Int) : Option (Int × Int × (List Nat) × Int × (List Int)) :=
 some (a0_0, a0_1, a0_2, a1, a0_4)

theorem gogeom_MultiPoint_SetSRID_sim {k : Nat} {wa0 : Addr} {wa0_2 wa0_4 : Gs} (a0_0 a0_1 : Int) (a0_2 : List Nat) (a0_3 : Int) (a0_4 : List Int) (a1 : Int) {out : Int × Int × (List Nat) × Int × (List Int)} (hp : gogeom_MultiPoint_SetSRID k a0_0 a0_1 a0_2 a0_3 a0_4 a1 = some out) : Sx.Fn Try.prog 70 [(Vp wa0), (Vi a1)] [(Ur wa0 136 (C2 a0_0 a0_1 wa0_2 a0_3 wa0_4)), (Rg Kf 32 wa0_2 a0_2), (Rg (Ki .i64) 3 wa0_4 a0_4)] (fun w : Unit => (Vp wa0)) (fun w => [(Ur wa0 136 (C2 out.1 out.2.1 wa0_2 out.2.2.2.1 wa0_4)), (Rg Kf 32 wa0_2 out.2.2.1), (Rg (Ki .i64) 3 wa0_4 out.2.2.2.2)]) := by
 unfold gogeom_MultiPoint_SetSRID at hp
 refine fn_of Try.func70 rfl Try.ntmps70 rfl fun E hM => ?_
 refine cr fun K1 hK1 => ?_
 refine sa rfl ?_
 refine nk hK1 ?_
 refine cr fun K2 hK2 => ?_
 iterate 2 refine sm rfl ?_
 refine sn rfl ?_
 refine sf rfl Try.underlying136 rfl info130 rfl ?_
 refine sf rfl Try.underlying130 rfl info126 rfl ?_
 refine sf rfl Try.underlying126 rfl info124 rfl ?_
 refine sg (off := 3) rfl Try.underlying124 rfl info3 rfl ?_
 refine so (ox_store' (i := 0) (o := 3) rfl rfl (lv_vl rfl rfl) (ar rfl rfl rfl rfl) rfl info3 rfl (H' := [(Ur wa0 136 (C2 a0_0 a0_1 wa0_2 a1 wa0_4)), (Rg Kf 32 wa0_2 a0_2), (Rg (Ki .i64) 3 wa0_4 a0_4)]) rfl) fun _ => ?_
 refine nk hK2 ?_
 refine cr fun K3 hK3 => ?_
 refine sm rfl ?_
 refine sa rfl ?_
 refine nk hK3 ?_
 refine cx_retc' ?_
 replace hp := sj hp
 subst hp
 refine tk (L' := [(4, (Vp wa0))]) (H' := [(Ur wa0 136 (C2 a0_0 a0_1 wa0_2 a1 wa0_4)), (Rg Kf 32 wa0_2 a0_2), (Rg (Ki .i64) 3 wa0_4 a0_4)]) [0, 1, 2] (uc rfl un) (p3 rfl rfl rfl) ?_
 exact tx_ret1' Try.results70 rfl () (rv_tmp' rfl) lr

def gogeom_NewMultiPointFlatOptionWithEnds_v2 (k : Nat) (a0 : List Int) : Option ((List Int)) :=
 some a0

theorem gogeom_NewMultiPointFlatOptionWithEnds_v2_sim {k : Nat} {wa0 : Gs} (a0 : List Int) {out : (List Int)} (hp : gogeom_NewMultiPointFlatOptionWithEnds_v2 k a0 = some out) : Sx.Fn Try.prog 69 [(Vw wa0)] [(Rg (Ki .i64) 3 wa0 a0)] (fun w : Addr => (Vl (.func (.func 90) #[] ⟨[.pointer (some w)]⟩))) (fun w => [(Rg (Ki .i64) 3 wa0 out), (Ur w 23 [(Vw wa0)])]) := by
 unfold gogeom_NewMultiPointFlatOptionWithEnds_v2 at hp
 refine fn_of Try.func69 rfl Try.ntmps69 rfl fun E hM => ?_
 refine cr fun K1 hK1 => ?_
 refine so (ox_box' rfl (lv_vl rfl rfl) rfl rfl) fun q1 => ?_
 refine sa rfl ?_
 refine nk hK1 ?_
 refine cr fun K2 hK2 => ?_
 refine s0 (rd_mkfunc' (us := [.pointer (some q1)]) rfl) ?_
 refine sa rfl ?_
 refine nk hK2 ?_
 refine cx_retc' ?_
 replace hp := sj hp
 subst hp
 refine tk (L' := [(2, (Vl (.func (.func 90) #[] ⟨[.pointer (some q1)]⟩)))]) (H' := [(Rg (Ki .i64) 3 wa0 a0), (Ur q1 23 [(Vw wa0)])]) [1, 0] (uc rfl un) (p2 rfl rfl) ?_
 exact tx_ret1' Try.results69 rfl q1 (rv_tmp' rfl) lr

def gogeom_NewMultiPointFlatOptionWithEnds_1_v2 (k : Nat) (a0_0 a0_1 : Int) (a0_2 : List Nat) (a0_3 : Int) (a1_0 : List Int) : Option (Int × Int × (List Nat) × Int × (List Int)) :=
 some (a0_0, a0_1, a0_2, a0_3, a1_0)

theorem gogeom_NewMultiPointFlatOptionWithEnds_1_v2_sim {k : Nat} {wa0 : Addr} {wa0_2 : Gs} {wa1 : Addr} {wa1_0 : Gs} (a0_0 a0_1 : Int) (a0_2 : List Nat) (a0_3 : Int) (a1_0 : List Int) {out : Int × Int × (List Nat) × Int × (List Int)} (hp : gogeom_NewMultiPointFlatOptionWithEnds_1_v2 k a0_0 a0_1 a0_2 a0_3 a1_0 = some out) : Sx.Fn Try.prog 90 [(Vp wa0), (Vp wa1)] [(Ur wa0 136 (C12 a0_0 a0_1 wa0_2 a0_3)), (Rg Kf 32 wa0_2 a0_2), (Ur wa1 23 [(Vw wa1_0)]), (Rg (Ki .i64) 3 wa1_0 a1_0)] (fun w : Unit => (Vl (.tuple #[]))) (fun w => [(Ur wa0 136 (C2 out.1 out.2.1 wa0_2 out.2.2.2.1 wa1_0)), (Rg Kf 32 wa0_2 out.2.2.1), (Rg (Ki .i64) 3 wa1_0 out.2.2.2.2), (Ur wa1 23 [(Vw wa1_0)])]) := by
 unfold gogeom_NewMultiPointFlatOptionWithEnds_1_v2 at hp
 refine fn_of Try.func90 rfl Try.ntmps90 rfl fun E hM => ?_
 refine cx_region' ?_
 refine sm rfl ?_
 refine sl (i := 2) (o := 0) rfl (ar rfl rfl rfl rfl) rfl flat23 ?_
 refine sn rfl ?_
 refine sf rfl Try.underlying136 rfl info130 rfl ?_
 refine sg (off := 4) rfl Try.underlying130 rfl info23 rfl ?_
 refine so (ox_store' (i := 0) (o := 4) rfl rfl (lv_vl rfl rfl) (ar rfl rfl rfl rfl) rfl info23 rfl (H' := [(Ur wa0 136 (C2 a0_0 a0_1 wa0_2 a0_3 wa1_0)), (Rg Kf 32 wa0_2 a0_2), (Ur wa1 23 [(Vw wa1_0)]), (Rg (Ki .i64) 3 wa1_0 a1_0)]) rfl) fun _ => ?_
 refine sx_nil' ?_
 replace hp := sj hp
 subst hp
 refine tk (L' := []) (H' := [(Ur wa0 136 (C2 a0_0 a0_1 wa0_2 a0_3 wa1_0)), (Rg Kf 32 wa0_2 a0_2), (Rg (Ki .i64) 3 wa1_0 a1_0), (Ur wa1 23 [(Vw wa1_0)])]) [0, 1, 3, 2] un (p4 rfl rfl rfl rfl) ?_
 exact tx_end0' Try.results90 rfl () rfl lr

def gogeom_NewMultiPointFlat_v2 (k : Nat) (a0 : Int) (a1 : List Nat) (a2_0_0_0 : List Int) : Option ((List Nat) × (List Int) × Int × Int × Int) :=
 (gogeom_Layout_Stride k a0) >>= fun r22 =>
 (gogeom_NewMultiPointFlatOptionWithEnds_1_v2 k a0 r22 a1 0 a2_0_0_0) >>= fun r901 =>
 (some1 r901.2.2.2.2) >>= fun z1 =>
 some (r901.2.2.1, r901.2.2.2.2, r901.1, r901.2.1, r901.2.2.2.1)

theorem gogeom_NewMultiPointFlat_v2_sim {k : Nat} {wa1 : Gs} {wa2 wa2_0_0 : Addr} {wa2_0_0_0 : Gs} (a0 : Int) (a1 : List Nat) (a2_0_0_0 : List Int) {out : (List Nat) × (List Int) × Int × Int × Int} (hp : gogeom_NewMultiPointFlat_v2 k a0 a1 a2_0_0_0 = some out) : Sx.Fn Try.prog 68 [(Vi a0), (Vw wa1), (Vl (.slice (some wa2) 1 1))] [(Rg Kf 32 wa1 a1), ⟨.slice (some wa2) 1 1, [(Vl (.func (.func 90) #[] ⟨[.pointer (some wa2_0_0)]⟩))], 101, some 1⟩, (Ur wa2_0_0 23 [(Vw wa2_0_0_0)]), (Rg (Ki .i64) 3 wa2_0_0_0 a2_0_0_0)] (fun w : Addr => (Vp w)) (fun w => [(Rg Kf 32 wa1 out.1), (Ur wa2_0_0 23 [(Vw wa2_0_0_0)]), (Rg (Ki .i64) 3 wa2_0_0_0 out.2.1), (Ur w 136 (C2 out.2.2.1 out.2.2.2.1 wa1 out.2.2.2.2 wa2_0_0_0))]) := by
 unfold gogeom_NewMultiPointFlat_v2 at hp
 refine fn_of Try.func68 rfl Try.ntmps68 rfl fun E hM => ?_
 refine cr fun K1 hK1 => ?_
 refine sa rfl ?_
 refine nk hK1 ?_
 refine cr fun K2 hK2 => ?_
 refine so (ox_alloc' info136 rfl rfl rfl rfl (l := (C23 0 0 0)) rfl) fun q12 => ?_
 refine sa rfl ?_
 refine nk hK2 ?_
 refine cr fun K3 hK3 => ?_
 iterate 2 refine sm rfl ?_
 refine sn rfl ?_
 refine sf rfl Try.underlying136 rfl info130 rfl ?_
 refine sf rfl Try.underlying130 rfl info126 rfl ?_
 refine sf rfl Try.underlying126 rfl info124 rfl ?_
 refine sf rfl Try.underlying124 rfl info61 rfl ?_
 refine so (ox_store' (i := 0) (o := 0) rfl rfl (lv_vl rfl rfl) (ar rfl rfl rfl rfl) rfl info61 rfl (H' := [(Ur q12 136 (C23 a0 0 0)), (Rg Kf 32 wa1 a1), ⟨.slice (some wa2) 1 1, [(Vl (.func (.func 90) #[] ⟨[.pointer (some wa2_0_0)]⟩))], 101, some 1⟩, (Ur wa2_0_0 23 [(Vw wa2_0_0_0)]), (Rg (Ki .i64) 3 wa2_0_0_0 a2_0_0_0)]) rfl) fun _ => ?_
 refine nk hK3 ?_
 refine cr fun K4 hK4 => ?_
 iterate 2 refine sm rfl ?_
 obtain ⟨r22, hr22, hp⟩ := bind_some hp
 refine so (oz (ent_fn' Try.func89 isn89 rfl rfl) (gogeom_Layout_Stride_sim _ hr22)) fun ⟨⟩ => ?_
 refine sn rfl ?_
 refine sf rfl Try.underlying136 rfl info130 rfl ?_
 refine sf rfl Try.underlying130 rfl info126 rfl ?_
 refine sf rfl Try.underlying126 rfl info124 rfl ?_
 refine sg (off := 1) rfl Try.underlying124 rfl info3 rfl ?_
 refine so (ox_store' (i := 0) (o := 1) rfl rfl (lv_vl rfl rfl) (ar rfl rfl rfl rfl) rfl info3 rfl (H' := [(Ur q12 136 (C23 a0 r22 0)), (Rg Kf 32 wa1 a1), ⟨.slice (some wa2) 1 1, [(Vl (.func (.func 90) #[] ⟨[.pointer (some wa2_0_0)]⟩))], 101, some 1⟩, (Ur wa2_0_0 23 [(Vw wa2_0_0_0)]), (Rg (Ki .i64) 3 wa2_0_0_0 a2_0_0_0)]) rfl) fun _ => ?_
 refine nk hK4 ?_
 refine cr fun K5 hK5 => ?_
 iterate 2 refine sm rfl ?_
 refine sn rfl ?_
 refine sf rfl Try.underlying136 rfl info130 rfl ?_
 refine sf rfl Try.underlying130 rfl info126 rfl ?_
 refine sf rfl Try.underlying126 rfl info124 rfl ?_
 refine sg (off := 2) rfl Try.underlying124 rfl info22 rfl ?_
 refine so (ox_store' (i := 0) (o := 2) rfl rfl (lv_vl rfl rfl) (ar rfl rfl rfl rfl) rfl info22 rfl (H' := [(Ur q12 136 (C12 a0 r22 wa1 0)), (Rg Kf 32 wa1 a1), ⟨.slice (some wa2) 1 1, [(Vl (.func (.func 90) #[] ⟨[.pointer (some wa2_0_0)]⟩))], 101, some 1⟩, (Ur wa2_0_0 23 [(Vw wa2_0_0_0)]), (Rg (Ki .i64) 3 wa2_0_0_0 a2_0_0_0)]) rfl) fun _ => ?_
 refine nk hK5 ?_
 refine cx_seq' fun K6 hK6 => ?_
 refine cr fun K7 hK7 => ?_
 refine sm rfl ?_
 refine s0 (rd_lenv' rfl Try.underlying153) ?_
 refine sm rfl ?_
 refine nk hK7 ?_
 refine cx_block' ?_
 refine tx_loop' ?_
 refine tx_round' ?_
 refine cr fun K8 hK8 => ?_
 refine sb rfl rfl eg_int ru_lss ?_
 refine nk hK8 ?_
 refine cx_seq' fun K9 hK9 => ?_
 refine cx_cond_t' rfl rfl ?_
 refine cx_skip' ?_
 show TX E K9 _
 refine tx_k' hK9 ?_
 refine cx_seq' fun K10 hK10 => ?_
 refine cx_block' ?_
 refine cr fun K11 hK11 => ?_
 refine s0 (rd_atv' rfl rfl (by decide) (by decide) Try.underlying153 info101) ?_
 refine s0 (rd_load_row' (i := 2) (o := 0) rfl ⟨rfl, rfl, rfl⟩ rfl flat101) ?_
 refine sa rfl ?_
 refine nk hK11 ?_
 refine cx_region' ?_
 iterate 2 refine sm rfl ?_
 obtain ⟨r901, hr901, hp⟩ := bind_some hp
 refine so (ox_callg' (ent_clo' (us := [.pointer (some wa2_0_0)]) rfl Try.func90 isn90 rfl rfl) (gogeom_NewMultiPointFlatOptionWithEnds_1_v2_sim _ _ _ _ _ hr901 : Sx.Fn Try.prog 90 [(Vp q12), (Vp wa2_0_0)] [(Ur q12 136 (C12 a0 r22 wa1 0)), (Rg Kf 32 wa1 a1), (Ur wa2_0_0 23 [(Vw wa2_0_0_0)]), (Rg (Ki .i64) 3 wa2_0_0_0 a2_0_0_0)] (fun x : Unit => (Vl (.tuple #[]))) (fun x => [(Ur q12 136 (C2 r901.1 r901.2.1 wa1 r901.2.2.2.1 wa2_0_0_0)), (Rg Kf 32 wa1 r901.2.2.1), (Rg (Ki .i64) 3 wa2_0_0_0 r901.2.2.2.2), (Ur wa2_0_0 23 [(Vw wa2_0_0_0)])])) [0, 1, 3, 4] [2] (by decide) (p4 rfl rfl rfl rfl) (pc rfl pn) (Hn := fun x : Unit => [(Ur q12 136 (C2 r901.1 r901.2.1 wa1 r901.2.2.2.1 wa2_0_0_0)), (Rg Kf 32 wa1 r901.2.2.1), (Rg (Ki .i64) 3 wa2_0_0_0 r901.2.2.2.2), (Ur wa2_0_0 23 [(Vw wa2_0_0_0)]), ⟨.slice (some wa2) 1 1, [(Vl (.func (.func 90) #[] ⟨[.pointer (some wa2_0_0)]⟩))], 101, some 1⟩]) (fun _ => rfl) rfl rfl) fun ⟨⟩ => ?_
 refine nk hK10 ?_
 refine cx_region' ?_
 refine sb rfl rfl eg_int (ru_addc (c := 1) (by decide)) ?_
 refine sm rfl ?_
 refine sx_nil' ?_
 show TX E (LoopIn _ _ _) _
 refine tx_round' ?_
 refine cr fun K12 hK12 => ?_
 refine sb rfl rfl eg_int ru_lss ?_
 refine nk hK12 ?_
 refine cx_seq' fun K13 hK13 => ?_
 refine cx_cond_f' rfl rfl ?_
 refine cx_exit' ?_
 show TX E K6 _
 refine tx_k' hK6 ?_
 refine cx_seq' fun K14 hK14 => ?_
 refine cr fun K15 hK15 => ?_
 refine sm rfl ?_
 refine sn rfl ?_
 refine sf rfl Try.underlying136 rfl info130 rfl ?_
 refine sg (off := 4) rfl Try.underlying130 rfl info23 rfl ?_
 refine sl (i := 0) (o := 4) rfl (ar rfl rfl rfl rfl) rfl flat23 ?_
 obtain ⟨z1, hz1, hp⟩ := bind_some hp
 refine s0 (rd_rw_nil' (m := 2) rfl rfl rfl rfl hz1 (fun _ _ _ _ => by kernel_rfl) nil_eql23_row) ?_
 refine sm rfl ?_
 iterate 9 refine sx_skip' rfl rfl (wt_is' (wt_guard' rfl rfl rfl) (beq_ft rfl)) ?_
 refine s0 (rd_pick_false' rfl rfl rfl) ?_
 refine nk hK15 ?_
 refine cx_cond_f' rfl rfl ?_
 refine cx_skip' ?_
 show TX E K14 _
 refine tx_k' hK14 ?_
 refine cr fun K16 hK16 => ?_
 refine sm rfl ?_
 refine sa rfl ?_
 refine nk hK16 ?_
 refine cx_retc' ?_
 replace hp := sj hp
 subst hp
 refine tk (L' := [(6, (Vp q12))]) (H' := [(Rg Kf 32 wa1 r901.2.2.1), (Ur wa2_0_0 23 [(Vw wa2_0_0_0)]), (Rg (Ki .i64) 3 wa2_0_0_0 r901.2.2.2.2), (Ur q12 136 (C2 r901.1 r901.2.1 wa1 r901.2.2.2.1 wa2_0_0_0))]) [1, 3, 2, 0] (uc rfl un) (p4 rfl rfl rfl rfl) ?_
 exact tx_ret1' Try.results68 rfl q12 (rv_tmp' rfl) lr

def gogeom_NewMultiLineStringFlat (k : Nat) (a0 : Int) (a1 : List Nat) : Option ((List Nat) × Int × Int × Int) :=
 (gogeom_Layout_Stride k a0) >>= fun r18 =>
 some (a1, a0, r18, 0)

theorem gogeom_NewMultiLineStringFlat_sim {k : Nat} {wa1 : Gs} (a0 : Int) (a1 : List Nat) {out : (List Nat) × Int × Int × Int} (hp : gogeom_NewMultiLineStringFlat k a0 a1 = some out) : Sx.Fn Try.prog 71 [(Vi a0), (Vw wa1), Vn] [(Rg Kf 32 wa1 a1)] (fun w : Addr => (Vp w)) (fun w => [(Rg Kf 32 wa1 out.1), (Ur w 139 (C12 out.2.1 out.2.2.1 wa1 out.2.2.2))]) := by
 unfold gogeom_NewMultiLineStringFlat at hp
 refine fn_of Try.func71 rfl Try.ntmps71 rfl fun E hM => ?_
 refine cr fun K1 hK1 => ?_
 refine sa rfl ?_
 refine nk hK1 ?_
 refine cr fun K2 hK2 => ?_
 refine so (ox_alloc' info139 rfl rfl rfl rfl (l := (C23 0 0 0)) rfl) fun q8 => ?_
 refine sa rfl ?_
 refine nk hK2 ?_
 refine cr fun K3 hK3 => ?_
 iterate 2 refine sm rfl ?_
 refine sn rfl ?_
 refine sf rfl Try.underlying139 rfl info130 rfl ?_
 refine sf rfl Try.underlying130 rfl info126 rfl ?_
 refine sf rfl Try.underlying126 rfl info124 rfl ?_
 refine sf rfl Try.underlying124 rfl info61 rfl ?_
 refine so (ox_store' (i := 0) (o := 0) rfl rfl (lv_vl rfl rfl) (ar rfl rfl rfl rfl) rfl info61 rfl (H' := [(Ur q8 139 (C23 a0 0 0)), (Rg Kf 32 wa1 a1)]) rfl) fun _ => ?_
 refine nk hK3 ?_
 refine cr fun K4 hK4 => ?_
 iterate 2 refine sm rfl ?_
 obtain ⟨r18, hr18, hp⟩ := bind_some hp
 refine so (oz (ent_fn' Try.func89 isn89 rfl rfl) (gogeom_Layout_Stride_sim _ hr18)) fun ⟨⟩ => ?_
 refine sn rfl ?_
 refine sf rfl Try.underlying139 rfl info130 rfl ?_
 refine sf rfl Try.underlying130 rfl info126 rfl ?_
 refine sf rfl Try.underlying126 rfl info124 rfl ?_
 refine sg (off := 1) rfl Try.underlying124 rfl info3 rfl ?_
 refine so (ox_store' (i := 0) (o := 1) rfl rfl (lv_vl rfl rfl) (ar rfl rfl rfl rfl) rfl info3 rfl (H' := [(Ur q8 139 (C23 a0 r18 0)), (Rg Kf 32 wa1 a1)]) rfl) fun _ => ?_
 refine nk hK4 ?_
 refine cr fun K5 hK5 => ?_
 iterate 2 refine sm rfl ?_
 refine sn rfl ?_
 refine sf rfl Try.underlying139 rfl info130 rfl ?_
 refine sf rfl Try.underlying130 rfl info126 rfl ?_
 refine sf rfl Try.underlying126 rfl info124 rfl ?_
 refine sg (off := 2) rfl Try.underlying124 rfl info22 rfl ?_
 refine so (ox_store' (i := 0) (o := 2) rfl rfl (lv_vl rfl rfl) (ar rfl rfl rfl rfl) rfl info22 rfl (H' := [(Ur q8 139 (C12 a0 r18 wa1 0)), (Rg Kf 32 wa1 a1)]) rfl) fun _ => ?_
 refine nk hK5 ?_
 refine cr fun K6 hK6 => ?_
 iterate 2 refine sm rfl ?_
 refine sn rfl ?_
 refine sf rfl Try.underlying139 rfl info130 rfl ?_
 refine sg (off := 4) rfl Try.underlying130 rfl info23 rfl ?_
 refine so (ox_store' (i := 0) (o := 4) rfl rfl (lv_vl rfl rfl) (ar rfl rfl rfl rfl) rfl info23 rfl (H' := [(Ur q8 139 (C12 a0 r18 wa1 0)), (Rg Kf 32 wa1 a1)]) rfl) fun _ => ?_
 refine nk hK6 ?_
 refine cr fun K7 hK7 => ?_
 refine sm rfl ?_
 refine sa rfl ?_
 refine nk hK7 ?_
 refine cx_retc' ?_
 replace hp := sj hp
 subst hp
 refine tk (L' := [(6, (Vp q8))]) (H' := [(Rg Kf 32 wa1 a1), (Ur q8 139 (C12 a0 r18 wa1 0))]) [1, 0] (uc rfl un) (p2 rfl rfl) ?_
 exact tx_ret1' Try.results71 rfl q8 (rv_tmp' rfl) lr

def gogeom_MultiLineString_SetSRID (k : Nat) (a0_0 a0_1 : Int) (a0_2 : List Nat) (a0_3 a1 : Int) : Option (Int × Int × (List Nat) × Int) :=
 some (a0_0, a0_1, a0_2, a1)

theorem gogeom_MultiLineString_SetSRID_sim {k : Nat} {wa0 : Addr} {wa0_2 : Gs} (a0_0 a0_1 : Int) (a0_2 : List Nat) (a0_3 a1 : Int) {out : Int × Int × (List Nat) × Int} (hp : gogeom_MultiLineString_SetSRID k a0_0 a0_1 a0_2 a0_3 a1 = some out) : Sx.Fn Try.prog 72 [(Vp wa0), (Vi a1)] [(Ur wa0 139 (C12 a0_0 a0_1 wa0_2 a0_3)), (Rg Kf 32 wa0_2 a0_2)] (fun w : Unit => (Vp wa0)) (fun w => [(Ur wa0 139 (C12 out.1 out.2.1 wa0_2 out.2.2.2)), (Rg Kf 32 wa0_2 out.2.2.1)]) := by
 unfold gogeom_MultiLineString_SetSRID at hp
 refine fn_of Try.func72 rfl Try.ntmps72 rfl fun E hM => ?_
 refine cr fun K1 hK1 => ?_
 refine sa rfl ?_
 refine nk hK1 ?_
 refine cr fun K2 hK2 => ?_
 iterate 2 refine sm rfl ?_
 refine sn rfl ?_
 refine sf rfl Try.underlying139 rfl info130 rfl ?_
 refine sf rfl Try.underlying130 rfl info126 rfl ?_
 refine sf rfl Try.underlying126 rfl info124 rfl ?_
 refine sg (off := 3) rfl Try.underlying124 rfl info3 rfl ?_
 refine so (ox_store' (i := 0) (o := 3) rfl rfl (lv_vl rfl rfl) (ar rfl rfl rfl rfl) rfl info3 rfl (H' := [(Ur wa0 139 (C12 a0_0 a0_1 wa0_2 a1)), (Rg Kf 32 wa0_2 a0_2)]) rfl) fun _ => ?_
 refine nk hK2 ?_
 refine cr fun K3 hK3 => ?_
 refine sm rfl ?_
 refine sa rfl ?_
 refine nk hK3 ?_
 refine cx_retc' ?_
 replace hp := sj hp
 subst hp
 refine tk (L' := [(4, (Vp wa0))]) (H' := [(Ur wa0 139 (C12 a0_0 a0_1 wa0_2 a1)), (Rg Kf 32 wa0_2 a0_2)]) [0, 1] (uc rfl un) (p2 rfl rfl) ?_
 exact tx_ret1' Try.results72 rfl () (rv_tmp' rfl) lr

def gogeom_NewMultiLineStringFlat_v2 (k : Nat) (a0 : Int) (a1 : List Nat) (a2 : List Int) : Option ((List Nat) × (List Int) × Int × Int × Int) :=
 (gogeom_Layout_Stride k a0) >>= fun r18 =>
 some (a1, a2, a0, r18, 0)

theorem gogeom_NewMultiLineStringFlat_v2_sim {k : Nat} {wa1 wa2 : Gs} (a0 : Int) (a1 : List Nat) (a2 : List Int) {out : (List Nat) × (List Int) × Int × Int × Int} (hp : gogeom_NewMultiLineStringFlat_v2 k a0 a1 a2 = some out) : Sx.Fn Try.prog 71 [(Vi a0), (Vw wa1), (Vw wa2)] [(Rg Kf 32 wa1 a1), (Rg (Ki .i64) 3 wa2 a2)] (fun w : Addr => (Vp w)) (fun w => [(Rg Kf 32 wa1 out.1), (Rg (Ki .i64) 3 wa2 out.2.1), (Ur w 139 (C2 out.2.2.1 out.2.2.2.1 wa1 out.2.2.2.2 wa2))]) := by
 unfold gogeom_NewMultiLineStringFlat_v2 at hp
 refine fn_of Try.func71 rfl Try.ntmps71 rfl fun E hM => ?_
 refine cr fun K1 hK1 => ?_
 refine sa rfl ?_
 refine nk hK1 ?_
 refine cr fun K2 hK2 => ?_
 refine so (ox_alloc' info139 rfl rfl rfl rfl (l := (C23 0 0 0)) rfl) fun q8 => ?_
 refine sa rfl ?_
 refine nk hK2 ?_
 refine cr fun K3 hK3 => ?_
 iterate 2 refine sm rfl ?_
 refine sn rfl ?_
 refine sf rfl Try.underlying139 rfl info130 rfl ?_
 refine sf rfl Try.underlying130 rfl info126 rfl ?_
 refine sf rfl Try.underlying126 rfl info124 rfl ?_
 refine sf rfl Try.underlying124 rfl info61 rfl ?_
 refine so (ox_store' (i := 0) (o := 0) rfl rfl (lv_vl rfl rfl) (ar rfl rfl rfl rfl) rfl info61 rfl (H' := [(Ur q8 139 (C23 a0 0 0)), (Rg Kf 32 wa1 a1), (Rg (Ki .i64) 3 wa2 a2)]) rfl) fun _ => ?_
 refine nk hK3 ?_
 refine cr fun K4 hK4 => ?_
 iterate 2 refine sm rfl ?_
 obtain ⟨r18, hr18, hp⟩ := bind_some hp
 refine so (oz (ent_fn' Try.func89 isn89 rfl rfl) (gogeom_Layout_Stride_sim _ hr18)) fun ⟨⟩ => ?_
 refine sn rfl ?_
 refine sf rfl Try.underlying139 rfl info130 rfl ?_
 refine sf rfl Try.underlying130 rfl info126 rfl ?_
 refine sf rfl Try.underlying126 rfl info124 rfl ?_
 refine sg (off := 1) rfl Try.underlying124 rfl info3 rfl ?_
 refine so (ox_store' (i := 0) (o := 1) rfl rfl (lv_vl rfl rfl) (ar rfl rfl rfl rfl) rfl info3 rfl (H' := [(Ur q8 139 (C23 a0 r18 0)), (Rg Kf 32 wa1 a1), (Rg (Ki .i64) 3 wa2 a2)]) rfl) fun _ => ?_
 refine nk hK4 ?_
 refine cr fun K5 hK5 => ?_
 iterate 2 refine sm rfl ?_
 refine sn rfl ?_
 refine sf rfl Try.underlying139 rfl info130 rfl ?_
 refine sf rfl Try.underlying130 rfl info126 rfl ?_
 refine sf rfl Try.underlying126 rfl info124 rfl ?_
 refine sg (off := 2) rfl Try.underlying124 rfl info22 rfl ?_
 refine so (ox_store' (i := 0) (o := 2) rfl rfl (lv_vl rfl rfl) (ar rfl rfl rfl rfl) rfl info22 rfl (H' := [(Ur q8 139 (C12 a0 r18 wa1 0)), (Rg Kf 32 wa1 a1), (Rg (Ki .i64) 3 wa2 a2)]) rfl) fun _ => ?_
 refine nk hK5 ?_
 refine cr fun K6 hK6 => ?_
 iterate 2 refine sm rfl ?_
 refine sn rfl ?_
 refine sf rfl Try.underlying139 rfl info130 rfl ?_
 refine sg (off := 4) rfl Try.underlying130 rfl info23 rfl ?_
 refine so (ox_store' (i := 0) (o := 4) rfl rfl (lv_vl rfl rfl) (ar rfl rfl rfl rfl) rfl info23 rfl (H' := [(Ur q8 139 (C2 a0 r18 wa1 0 wa2)), (Rg Kf 32 wa1 a1), (Rg (Ki .i64) 3 wa2 a2)]) rfl) fun _ => ?_
 refine nk hK6 ?_
 refine cr fun K7 hK7 => ?_
 refine sm rfl ?_
 refine sa rfl ?_
 refine nk hK7 ?_
 refine cx_retc' ?_
 replace hp := sj hp
 subst hp
 refine tk (L' := [(6, (Vp q8))]) (H' := [(Rg Kf 32 wa1 a1), (Rg (Ki .i64) 3 wa2 a2), (Ur q8 139 (C2 a0 r18 wa1 0 wa2))]) [1, 2, 0] (uc rfl un) (p3 rfl rfl rfl) ?_
 exact tx_ret1' Try.results71 rfl q8 (rv_tmp' rfl) lr

def gogeom_MultiLineString_SetSRID_v2 (k : Nat) (a0_0 a0_1 : Int) (a0_2 : List Nat) (a0_3 : Int) (a0_4 : List Int) (a1 : Int) : Option (Int × Int × (List Nat) × Int × (List Int)) :=
 some (a0_0, a0_1, a0_2, a1, a0_4)

theorem gogeom_MultiLineString_SetSRID_v2_sim {k : Nat} {wa0 : Addr} {wa0_2 wa0_4 : Gs} (a0_0 a0_1 : Int) (a0_2 : List Nat) (a0_3 : Int) (a0_4 : List Int) (a1 : Int) {out : Int × Int × (List Nat) × Int × (List Int)} (hp : gogeom_MultiLineString_SetSRID_v2 k a0_0 a0_1 a0_2 a0_3 a0_4 a1 = some out) : Sx.Fn Try.prog 72 [(Vp wa0), (Vi a1)] [(Ur wa0 139 (C2 a0_0 a0_1 wa0_2 a0_3 wa0_4)), (Rg Kf 32 wa0_2 a0_2), (Rg (Ki .i64) 3 wa0_4 a0_4)] (fun w : Unit => (Vp wa0)) (fun w => [(Ur wa0 139 (C2 out.1 out.2.1 wa0_2 out.2.2.2.1 wa0_4)), (Rg Kf 32 wa0_2 out.2.2.1), (Rg (Ki .i64) 3 wa0_4 out.2.2.2.2)]) := by
 unfold gogeom_MultiLineString_SetSRID_v2 at hp
 refine fn_of Try.func72 rfl Try.ntmps72 rfl fun E hM => ?_
 refine cr fun K1 hK1 => ?_
 refine sa rfl ?_
 refine nk hK1 ?_
 refine cr fun K2 hK2 => ?_
 iterate 2 refine sm rfl ?_
 refine sn rfl ?_
 refine sf rfl Try.underlying139 rfl info130 rfl ?_
 refine sf rfl Try.underlying130 rfl info126 rfl ?_
 refine sf rfl Try.underlying126 rfl info124 rfl ?_
 refine sg (off := 3) rfl Try.underlying124 rfl info3 rfl ?_
 refine so (ox_store' (i := 0) (o := 3) rfl rfl (lv_vl rfl rfl) (ar rfl rfl rfl rfl) rfl info3 rfl (H' := [(Ur wa0 139 (C2 a0_0 a0_1 wa0_2 a1 wa0_4)), (Rg Kf 32 wa0_2 a0_2), (Rg (Ki .i64) 3 wa0_4 a0_4)]) rfl) fun _ => ?_
 refine nk hK2 ?_
 refine cr fun K3 hK3 => ?_
 refine sm rfl ?_
 refine sa rfl ?_
 refine nk hK3 ?_
 refine cx_retc' ?_
 replace hp := sj hp
 subst hp
 refine tk (L' := [(4, (Vp wa0))]) (H' := [(Ur wa0 139 (C2 a0_0 a0_1 wa0_2 a1 wa0_4)), (Rg Kf 32 wa0_2 a0_2), (Rg (Ki .i64) 3 wa0_4 a0_4)]) [0, 1, 2] (uc rfl un) (p3 rfl rfl rfl) ?_
 exact tx_ret1' Try.results72 rfl () (rv_tmp' rfl) lr

def impl_intss_l1s (a0 : List (List Int)) (k : Nat) (rec1 : ((List (List Int)) × Int) → Option ((List (List Int)))) (x1 : List (List Int)) (x2 : Int) : Option ((List (List Int))) :=
 br (decide (x2 < (a0.length : Int)))
  ((idx a0 x2) >>= fun r10 =>
  (impl_ints k r10) >>= fun r14 =>
  match r14 with
   | (.inl y3) =>
    ((apd 24 x1 ([[]])) >>= fun r16 =>
    rec1 (r16, (iadd .i64 x2 1)))
   | (.inr y3) =>
    ((apd 24 x1 ([y3])) >>= fun r16 =>
    rec1 (r16, (iadd .i64 x2 1))))
  (some x1)
def impl_intss_l1 (a0 : List (List Int)) : Nat → ((List (List Int)) × Int) → Option ((List (List Int)))
 | 0, _ => none
 | k + 1, v => impl_intss_l1s a0 k (impl_intss_l1 a0 k) v.1 v.2
def impl_intss (k : Nat) (a0 : List (List Int)) : Option ((List (List Int))) :=
 (impl_intss_l1 a0 k ([], 0)) >>= fun v2 =>
 some v2

theorem impl_intss_sim {k : Nat}  (a0 : List (List Int)) {out : (List (List Int))} (hp : impl_intss k a0 = some out) : Sx.Fn Try.prog 29 [(Sl (Kl (Ki .i64)) a0)] [] (fun w : Gs => (Vw w)) (fun w => [(Rg (Kl (Ki .i64)) 23 w out)]) := by
 unfold impl_intss at hp
 refine fn_of Try.func29 rfl Try.ntmps29 rfl fun E hM => ?_
 refine cr fun K1 hK1 => ?_
 refine sa rfl ?_
 refine nk hK1 ?_
 refine cr fun K2 hK2 => ?_
 refine sa rfl ?_
 refine nk hK2 ?_
 refine cx_seq' fun K3 hK3 => ?_
 refine cr fun K4 hK4 => ?_
 refine sm rfl ?_
 refine sk rfl Try.underlying24 ?_
 refine sm rfl ?_
 refine nk hK4 ?_
 refine cx_block' ?_
 obtain ⟨v2, hy1, hp⟩ := bind_some hp
 refine tx_nilrow' (Kl (Ki .i64)) 23 ?_
 refine cx_loopg' (F := impl_intss_l1 a0) (G := fun k R v => impl_intss_l1s a0 k R v.1 v.2) (x := ([], 0)) (gh := (none, 0, 0)) (fun (v1 : (List (List Int)) × Int) (w1 : Gs) => (⟨19, [], [(3, (Vw w1)), (6, (Sl (Kl (Ki .i64)) a0)), (7, (Vi (a0.length : Int))), (8, (Vi v1.2))], [(Rg (Kl (Ki .i64)) 23 w1 v1.1)]⟩ : St)) (fun (v2 : (List (List Int))) => Zg E (Exit.exit 0) (fun (w2 : Gs) => (⟨19, [], [(3, (Vw w2))], [(Rg (Kl (Ki .i64)) 23 w2 v2)]⟩ : St))) (fun _ => rfl) (fun _ _ => rfl) ?_ hy1 (tx_to' rfl [0] (u4 rfl rfl rfl rfl) (by decide) (pc rfl pn)) ?_
 ·clear hp hy1
  clear v2
  intro k rec1 KY1 ih1
  rintro ⟨x1, x2⟩ g901 y5 hp
  replace hp : impl_intss_l1s a0 k rec1 x1 x2 = some y5 := hp
  unfold impl_intss_l1s at hp
  refine cr fun K9 hK9 => ?_
  refine sb rfl rfl eg_int ru_lss ?_
  refine nk hK9 ?_
  refine cx_seq' fun K10 hK10 => ?_
  refine cx_cond' rfl (fun h3 => ?_) (fun h3 => ?_)
  ·replace hp := (br_t h3).symm.trans hp
   refine cx_skip' ?_
   show TX E K10 _
   refine tx_k' hK10 ?_
   refine cx_seq' fun K11 hK11 => ?_
   refine cx_block' ?_
   refine cr fun K12 hK12 => ?_
   obtain ⟨r10, hr10, hp⟩ := bind_some hp
   refine s0 (rd_at' (K := (Kl (Ki .i64))) rfl rfl hr10 Try.underlying24 info23) ?_
   refine s0 (rd_load_pt' rfl rfl flat23) ?_
   refine sa rfl ?_
   refine nk hK12 ?_
   refine cx_region' ?_
   iterate 2 refine sm rfl ?_
   obtain ⟨r14, hr14, hp⟩ := bind_some hp
   rcases r14 with y3 | y3
   ·dsimp only at hp
    refine so (ox_calln' (ent_fn' Try.func58 isn58 rfl rfl) (impl_ints_sim _ hr14 : Sx.Fn Try.prog 58 [(Sl (Ki .i64) r10)] [] (fun x : Gs => Vn) (fun x => [])) (Hn := fun x : Gs => [(Rg (Kl (Ki .i64)) 23 g901 x1)]) (fun _ => rfl) rfl rfl) fun g14 => ?_
    refine tx_nilsl' 14 (Ki .i64) rfl rfl ?_
    refine so (ox_rowlit' (K := (Kl (Ki .i64))) (xs := [[]]) (qs := [(0, [(Sl (Ki .i64) [])])]) ⟨rfl, ⟨_, rfl, (lv_sl _ _)⟩, trivial⟩ Try.underlying24 info23 rfl rfl rfl rfl rfl (by kernel_rfl) rfl rfl rfl) fun g15 => ?_
    obtain ⟨r16, hr16, hp⟩ := bind_some hp
    refine so (ox_append' (K := (Kl (Ki .i64))) (i := 1) (xs := x1) (ys := ([[]])) rfl rfl rfl (sr_row' (j := 0) rfl rfl rfl Try.underlying24) hr16 Try.underlying24 info23 rfl rfl rfl (H' := [(Rg (Kl (Ki .i64)) 23 g15 ([[]]))]) rfl) fun g16 => ?_
    refine sa rfl ?_
    refine nk hK11 ?_
    refine cx_region' ?_
    refine sb rfl rfl eg_int ru_add ?_
    refine sm rfl ?_
    refine sx_nil' ?_
    show TX E (KY1 _) _
    exact tk [0] (u4 rfl rfl rfl rfl) (pc rfl pn) (ih1 (r16, (iadd .i64 x2 1)) g16 _ hp)
   dsimp only at hp
   refine so (ox_calln' (ent_fn' Try.func58 isn58 rfl rfl) (impl_ints_sim _ hr14 : Sx.Fn Try.prog 58 [(Sl (Ki .i64) r10)] [] (fun x : Gs => (Vw x)) (fun x => [(Rg (Ki .i64) 3 x y3)])) (Hn := fun x : Gs => [(Rg (Ki .i64) 3 x y3), (Rg (Kl (Ki .i64)) 23 g901 x1)]) (fun _ => rfl) rfl rfl) fun g14 => ?_
   refine tx_fz' (frz_row 0 [(14, (Vw g14), (Sl (Ki .i64) y3))] (K := (Ki .i64)) (xs := y3) (by decide) rfl ⟨⟨rfl, frz_it⟩, trivial⟩ (H' := [(Rg (Kl (Ki .i64)) 23 g901 x1)]) frzH_refl) ?_
   refine so (ox_rowlit' (K := (Kl (Ki .i64))) (xs := [y3]) (qs := [(0, [(Sl (Ki .i64) y3)])]) ⟨rfl, ⟨_, rfl, (lv_sl _ _)⟩, trivial⟩ Try.underlying24 info23 rfl rfl rfl rfl rfl (by kernel_rfl) rfl rfl rfl) fun g15 => ?_
   obtain ⟨r16, hr16, hp⟩ := bind_some hp
   refine so (ox_append' (K := (Kl (Ki .i64))) (i := 1) (xs := x1) (ys := ([y3])) rfl rfl rfl (sr_row' (j := 0) rfl rfl rfl Try.underlying24) hr16 Try.underlying24 info23 rfl rfl rfl (H' := [(Rg (Kl (Ki .i64)) 23 g15 ([y3]))]) rfl) fun g16 => ?_
   refine sa rfl ?_
   refine nk hK11 ?_
   refine cx_region' ?_
   refine sb rfl rfl eg_int ru_add ?_
   refine sm rfl ?_
   refine sx_nil' ?_
   show TX E (KY1 _) _
   exact tk [0] (u4 rfl rfl rfl rfl) (pc rfl pn) (ih1 (r16, (iadd .i64 x2 1)) g16 _ hp)
  replace hp := (br_f h3).symm.trans hp
  refine cx_exit' ?_
  replace hp := sj hp
  subst hp
  show TX E (Zg E (Exit.exit 0) _ (Exit.exit 0)) _
  exact tx_zend' g901 rfl [0] (uc rfl un) (by decide) (pc rfl pn)
 refine zg_out fun w2 => ?_
 show TX E K3 _
 refine tx_k' hK3 ?_
 refine cr fun K13 hK13 => ?_
 refine sm rfl ?_
 refine sa rfl ?_
 refine nk hK13 ?_
 refine cx_retc' ?_
 replace hp := sj hp
 subst hp
 refine tk (L' := [(2, (Vw w2))]) (H' := [(Rg (Kl (Ki .i64)) 23 w2 v2)]) [0] (uc rfl un) (pc rfl pn) ?_
 exact tx_ret1' Try.results29 rfl w2 (rv_tmp' rfl) lr

def gogeom_NewMultiPolygonFlat (k : Nat) (a0 : Int) (a1 : List Nat) (a2 : List (List Int)) : Option ((List Nat) × (List (List Int)) × Int × Int × Int) :=
 (gogeom_Layout_Stride k a0) >>= fun r18 =>
 some (a1, a2, a0, r18, 0)

theorem gogeom_NewMultiPolygonFlat_sim {k : Nat} {wa1 wa2 : Gs} (a0 : Int) (a1 : List Nat) (a2 : List (List Int)) {out : (List Nat) × (List (List Int)) × Int × Int × Int} (hp : gogeom_NewMultiPolygonFlat k a0 a1 a2 = some out) : Sx.Fn Try.prog 73 [(Vi a0), (Vw wa1), (Vw wa2)] [(Rg Kf 32 wa1 a1), (Rg (Kl (Ki .i64)) 23 wa2 a2)] (fun w : Addr => (Vp w)) (fun w => [(Rg Kf 32 wa1 out.1), (Rg (Kl (Ki .i64)) 23 wa2 out.2.1), (Ur w 143 (C2 out.2.2.1 out.2.2.2.1 wa1 out.2.2.2.2 wa2))]) := by
 unfold gogeom_NewMultiPolygonFlat at hp
 refine fn_of Try.func73 rfl Try.ntmps73 rfl fun E hM => ?_
 refine cr fun K1 hK1 => ?_
 refine sa rfl ?_
 refine nk hK1 ?_
 refine cr fun K2 hK2 => ?_
 refine so (ox_alloc' info143 rfl rfl rfl rfl (l := (C23 0 0 0)) rfl) fun q8 => ?_
 refine sa rfl ?_
 refine nk hK2 ?_
 refine cr fun K3 hK3 => ?_
 iterate 2 refine sm rfl ?_
 refine sn rfl ?_
 refine sf rfl Try.underlying143 rfl info141 rfl ?_
 refine sf rfl Try.underlying141 rfl info126 rfl ?_
 refine sf rfl Try.underlying126 rfl info124 rfl ?_
 refine sf rfl Try.underlying124 rfl info61 rfl ?_
 refine so (ox_store' (i := 0) (o := 0) rfl rfl (lv_vl rfl rfl) (ar rfl rfl rfl rfl) rfl info61 rfl (H' := [(Ur q8 143 (C23 a0 0 0)), (Rg Kf 32 wa1 a1), (Rg (Kl (Ki .i64)) 23 wa2 a2)]) rfl) fun _ => ?_
 refine nk hK3 ?_
 refine cr fun K4 hK4 => ?_
 iterate 2 refine sm rfl ?_
 obtain ⟨r18, hr18, hp⟩ := bind_some hp
 refine so (oz (ent_fn' Try.func89 isn89 rfl rfl) (gogeom_Layout_Stride_sim _ hr18)) fun ⟨⟩ => ?_
 refine sn rfl ?_
 refine sf rfl Try.underlying143 rfl info141 rfl ?_
 refine sf rfl Try.underlying141 rfl info126 rfl ?_
 refine sf rfl Try.underlying126 rfl info124 rfl ?_
 refine sg (off := 1) rfl Try.underlying124 rfl info3 rfl ?_
 refine so (ox_store' (i := 0) (o := 1) rfl rfl (lv_vl rfl rfl) (ar rfl rfl rfl rfl) rfl info3 rfl (H' := [(Ur q8 143 (C23 a0 r18 0)), (Rg Kf 32 wa1 a1), (Rg (Kl (Ki .i64)) 23 wa2 a2)]) rfl) fun _ => ?_
 refine nk hK4 ?_
 refine cr fun K5 hK5 => ?_
 iterate 2 refine sm rfl ?_
 refine sn rfl ?_
 refine sf rfl Try.underlying143 rfl info141 rfl ?_
 refine sf rfl Try.underlying141 rfl info126 rfl ?_
 refine sf rfl Try.underlying126 rfl info124 rfl ?_
 refine sg (off := 2) rfl Try.underlying124 rfl info22 rfl ?_
 refine so (ox_store' (i := 0) (o := 2) rfl rfl (lv_vl rfl rfl) (ar rfl rfl rfl rfl) rfl info22 rfl (H' := [(Ur q8 143 (C12 a0 r18 wa1 0)), (Rg Kf 32 wa1 a1), (Rg (Kl (Ki .i64)) 23 wa2 a2)]) rfl) fun _ => ?_
 refine nk hK5 ?_
 refine cr fun K6 hK6 => ?_
 iterate 2 refine sm rfl ?_
 refine sn rfl ?_
 refine sf rfl Try.underlying143 rfl info141 rfl ?_
 refine sg (off := 4) rfl Try.underlying141 rfl info24 rfl ?_
 refine so (ox_store' (i := 0) (o := 4) rfl rfl (lv_vl rfl rfl) (ar rfl rfl rfl rfl) rfl info24 rfl (H' := [(Ur q8 143 (C2 a0 r18 wa1 0 wa2)), (Rg Kf 32 wa1 a1), (Rg (Kl (Ki .i64)) 23 wa2 a2)]) rfl) fun _ => ?_
 refine nk hK6 ?_
 refine cr fun K7 hK7 => ?_
 refine sm rfl ?_
 refine sa rfl ?_
 refine nk hK7 ?_
 refine cx_retc' ?_
 replace hp := sj hp
 subst hp
 refine tk (L' := [(6, (Vp q8))]) (H' := [(Rg Kf 32 wa1 a1), (Rg (Kl (Ki .i64)) 23 wa2 a2), (Ur q8 143 (C2 a0 r18 wa1 0 wa2))]) [1, 2, 0] (uc rfl un) (p3 rfl rfl rfl) ?_
 exact tx_ret1' Try.results73 rfl q8 (rv_tmp' rfl) lr

def gogeom_MultiPolygon_SetSRID (k : Nat) (a0_0 a0_1 : Int) (a0_2 : List Nat) (a0_3 : Int) (a0_4 : List (List Int)) (a1 : Int) : Option (Int × Int × (List Nat) × Int × (List (List Int))) :=
 some (a0_0, a0_1, a0_2, a1, a0_4)

theorem gogeom_MultiPolygon_SetSRID_sim {k : Nat} {wa0 : Addr} {wa0_2 wa0_4 : Gs} (a0_0 a0_1 : Int) (a0_2 : List Nat) (a0_3 : Int) (a0_4 : List (List Int)) (a1 : Int) {out : Int × Int × (List Nat) × Int × (List (List Int))} (hp : gogeom_MultiPolygon_SetSRID k a0_0 a0_1 a0_2 a0_3 a0_4 a1 = some out) : Sx.Fn Try.prog 74 [(Vp wa0), (Vi a1)] [(Ur wa0 143 (C2 a0_0 a0_1 wa0_2 a0_3 wa0_4)), (Rg Kf 32 wa0_2 a0_2), (Rg (Kl (Ki .i64)) 23 wa0_4 a0_4)] (fun w : Unit => (Vp wa0)) (fun w => [(Ur wa0 143 (C2 out.1 out.2.1 wa0_2 out.2.2.2.1 wa0_4)), (Rg Kf 32 wa0_2 out.2.2.1), (Rg (Kl (Ki .i64)) 23 wa0_4 out.2.2.2.2)]) := by
 unfold gogeom_MultiPolygon_SetSRID at hp
 refine fn_of Try.func74 rfl Try.ntmps74 rfl fun E hM => ?_
 refine cr fun K1 hK1 => ?_
 refine sa rfl ?_
 refine nk hK1 ?_
 refine cr fun K2 hK2 => ?_
 iterate 2 refine sm rfl ?_
 refine sn rfl ?_
 refine sf rfl Try.underlying143 rfl info141 rfl ?_
 refine sf rfl Try.underlying141 rfl info126 rfl ?_
 refine sf rfl Try.underlying126 rfl info124 rfl ?_
 refine sg (off := 3) rfl Try.underlying124 rfl info3 rfl ?_
 refine so (ox_store' (i := 0) (o := 3) rfl rfl (lv_vl rfl rfl) (ar rfl rfl rfl rfl) rfl info3 rfl (H' := [(Ur wa0 143 (C2 a0_0 a0_1 wa0_2 a1 wa0_4)), (Rg Kf 32 wa0_2 a0_2), (Rg (Kl (Ki .i64)) 23 wa0_4 a0_4)]) rfl) fun _ => ?_
 refine nk hK2 ?_
 refine cr fun K3 hK3 => ?_
 refine sm rfl ?_
 refine sa rfl ?_
 refine nk hK3 ?_
 refine cx_retc' ?_
 replace hp := sj hp
 subst hp
 refine tk (L' := [(4, (Vp wa0))]) (H' := [(Ur wa0 143 (C2 a0_0 a0_1 wa0_2 a1 wa0_4)), (Rg Kf 32 wa0_2 a0_2), (Rg (Kl (Ki .i64)) 23 wa0_4 a0_4)]) [0, 1, 2] (uc rfl un) (p3 rfl rfl rfl) ?_
 exact tx_ret1' Try.results74 rfl () (rv_tmp' rfl) lr

def gogeom_NewGeometryCollection (k : Nat)  : Option (Int) :=
 some 0

theorem gogeom_NewGeometryCollection_sim {k : Nat}   {out : Int} (hp : gogeom_NewGeometryCollection k = some out) : Sx.Fn Try.prog 75 [] [] (fun w : Addr => (Vp w)) (fun w => [(Ur w 114 (C22 out out))]) := by
 unfold gogeom_NewGeometryCollection at hp
 refine fn_of Try.func75 rfl Try.ntmps75 rfl fun E hM => ?_
 refine cr fun K1 hK1 => ?_
 refine sa rfl ?_
 refine nk hK1 ?_
 refine cr fun K2 hK2 => ?_
 refine sv (pls := [(0, 1), (1, 1), (2, 1)]) (qs := []) (r := (C22 0 0)) trivial Try.underlying114 has114 places114 info114 rfl rfl rfl ?_
 refine so (ox_box' rfl (lv_ag _) rfl rfl) fun q2 => ?_
 refine sa rfl ?_
 refine nk hK2 ?_
 refine cx_retc' ?_
 replace hp := sj hp
 subst hp
 refine tk (L' := [(0, (Vp q2))]) (H' := [(Ur q2 114 (C22 0 0))]) [0] (uc rfl un) (pc rfl pn) ?_
 exact tx_ret1' Try.results75 rfl q2 (rv_tmp' rfl) lr

def gogeom_GeometryCollection_SetSRID (k : Nat) (a0_0 a0_2 a1 : Int) : Option (Int × Int) :=
 some (a0_0, a1)

theorem gogeom_GeometryCollection_SetSRID_sim {k : Nat} {wa0 : Addr} (a0_0 a0_2 a1 : Int) {out : Int × Int} (hp : gogeom_GeometryCollection_SetSRID k a0_0 a0_2 a1 = some out) : Sx.Fn Try.prog 76 [(Vp wa0), (Vi a1)] [(Ur wa0 114 (C22 a0_0 a0_2))] (fun w : Unit => (Vp wa0)) (fun w => [(Ur wa0 114 (C22 out.1 out.2))]) := by
 unfold gogeom_GeometryCollection_SetSRID at hp
 refine fn_of Try.func76 rfl Try.ntmps76 rfl fun E hM => ?_
 refine cr fun K1 hK1 => ?_
 refine sa rfl ?_
 refine nk hK1 ?_
 refine cr fun K2 hK2 => ?_
 iterate 2 refine sm rfl ?_
 refine sn rfl ?_
 refine sg (off := 2) rfl Try.underlying114 rfl info3 rfl ?_
 refine so (ox_store' (i := 0) (o := 2) rfl rfl (lv_vl rfl rfl) (ar rfl rfl rfl rfl) rfl info3 rfl (H' := [(Ur wa0 114 (C22 a0_0 a1))]) rfl) fun _ => ?_
 refine nk hK2 ?_
 refine cr fun K3 hK3 => ?_
 refine sm rfl ?_
 refine sa rfl ?_
 refine nk hK3 ?_
 refine cx_retc' ?_
 replace hp := sj hp
 subst hp
 refine tk (L' := [(4, (Vp wa0))]) (H' := [(Ur wa0 114 (C22 a0_0 a1))]) [0] (uc rfl un) (pc rfl pn) ?_
 exact tx_ret1' Try.results76 rfl () (rv_tmp' rfl) lr

def gogeom_GeometryCollection_CheckLayout_j1 (k : Nat) (a0_0 a0_2 : Int) : Option (Int × Int) :=
 some (a0_0, a0_2)
def gogeom_GeometryCollection_CheckLayout (k : Nat) (a0_0 a0_2 a1 : Int) : Option (Int × Int) :=
 br (!decide (a1 = 0))
  (gogeom_GeometryCollection_CheckLayout_j1 k a0_0 a0_2)
  (gogeom_GeometryCollection_CheckLayout_j1 k a0_0 a0_2)

def gogeom_GeometryCollection_SetLayout (k : Nat) (a0_0 a0_2 a1 : Int) : Option (Int × Int) :=
 (gogeom_GeometryCollection_CheckLayout k a0_0 a0_2 a1) >>= fun r8 =>
 some (a1, r8.2)

def gogeom_GeometryCollection_MustSetLayout (k : Nat) (a0_0 a0_2 a1 : Int) : Option (Int × Int) :=
 (gogeom_GeometryCollection_SetLayout k a0_0 a0_2 a1) >>= fun r8 =>
 some (r8.1, r8.2)

def gogeom_geom0_Layout (k : Nat) (a0_0 a0_1 : Int) (a0_2 : List Nat) (a0_3 : Int) : Option (Int) :=
 some a0_0

theorem gogeom_geom0_Layout_sim {k : Nat}  (a0_0 a0_1 : Int) (a0_2 : List Nat) (a0_3 : Int) {out : Int} (hp : gogeom_geom0_Layout k a0_0 a0_1 a0_2 a0_3 = some out) : Sx.Fn Try.prog 134 [(Pt (C3 a0_0 a0_1 a0_2 a0_3))] [] (fun w : Unit => (Vi out)) (fun w => []) := by
 unfold gogeom_geom0_Layout at hp
 refine fn_of Try.func134 rfl Try.ntmps134 rfl fun E hM => ?_
 refine cr fun K1 hK1 => ?_
 refine sa rfl ?_
 refine nk hK1 ?_
 refine cr fun K2 hK2 => ?_
 refine sm rfl ?_
 refine s0 (rd_nilck_pt' rfl) ?_
 refine s0 (rd_field_pt' (off := 0) rfl Try.underlying124 rfl info61 rfl (l' := (C3 a0_0 a0_1 a0_2 a0_3)) rfl) ?_
 refine s0 (rd_load_pt' rfl rfl flat61) ?_
 refine sa rfl ?_
 refine nk hK2 ?_
 refine cx_retc' ?_
 replace hp := sj hp
 subst hp
 refine tk (L' := [(2, (Vi a0_0))]) (H' := []) [] (uc rfl un) pn ?_
 exact tx_ret1' Try.results134 rfl () (rv_tmp' rfl) lr

def gogeom_geom0_Layout_v2 (k : Nat) (a0_0 a0_1 : Int) (a0_2 : List Nat) (a0_3 : Int) (a0_4 : List Int) : Option (Int) :=
 some a0_0

theorem gogeom_geom0_Layout_v2_sim {k : Nat}  (a0_0 a0_1 : Int) (a0_2 : List Nat) (a0_3 : Int) (a0_4 : List Int) {out : Int} (hp : gogeom_geom0_Layout_v2 k a0_0 a0_1 a0_2 a0_3 a0_4 = some out) : Sx.Fn Try.prog 134 [(Pt (C6 a0_0 a0_1 a0_2 a0_3 a0_4))] [] (fun w : Unit => (Vi out)) (fun w => []) := by
 unfold gogeom_geom0_Layout_v2 at hp
 refine fn_of Try.func134 rfl Try.ntmps134 rfl fun E hM => ?_
 refine cr fun K1 hK1 => ?_
 refine sa rfl ?_
 refine nk hK1 ?_
 refine cr fun K2 hK2 => ?_
 refine sm rfl ?_
 refine s0 (rd_nilck_pt' rfl) ?_
 refine s0 (rd_field_pt' (off := 0) rfl Try.underlying124 rfl info61 rfl (l' := (C6 a0_0 a0_1 a0_2 a0_3 a0_4)) rfl) ?_
 refine s0 (rd_load_pt' rfl rfl flat61) ?_
 refine sa rfl ?_
 refine nk hK2 ?_
 refine cx_retc' ?_
 replace hp := sj hp
 subst hp
 refine tk (L' := [(2, (Vi a0_0))]) (H' := []) [] (uc rfl un) pn ?_
 exact tx_ret1' Try.results134 rfl () (rv_tmp' rfl) lr

def gogeom_geom0_Layout_v3 (k : Nat) (a0_0 a0_1 : Int) (a0_2 : List Nat) (a0_3 : Int) (a0_4 : List (List Int)) : Option (Int) :=
 some a0_0

theorem gogeom_geom0_Layout_v3_sim {k : Nat}  (a0_0 a0_1 : Int) (a0_2 : List Nat) (a0_3 : Int) (a0_4 : List (List Int)) {out : Int} (hp : gogeom_geom0_Layout_v3 k a0_0 a0_1 a0_2 a0_3 a0_4 = some out) : Sx.Fn Try.prog 134 [(Pt (C11 a0_0 a0_1 a0_2 a0_3 a0_4))] [] (fun w : Unit => (Vi out)) (fun w => []) := by
 unfold gogeom_geom0_Layout_v3 at hp
 refine fn_of Try.func134 rfl Try.ntmps134 rfl fun E hM => ?_
 refine cr fun K1 hK1 => ?_
 refine sa rfl ?_
 refine nk hK1 ?_
 refine cr fun K2 hK2 => ?_
 refine sm rfl ?_
 refine s0 (rd_nilck_pt' rfl) ?_
 refine s0 (rd_field_pt' (off := 0) rfl Try.underlying124 rfl info61 rfl (l' := (C11 a0_0 a0_1 a0_2 a0_3 a0_4)) rfl) ?_
 refine s0 (rd_load_pt' rfl rfl flat61) ?_
 refine sa rfl ?_
 refine nk hK2 ?_
 refine cx_retc' ?_
 replace hp := sj hp
 subst hp
 refine tk (L' := [(2, (Vi a0_0))]) (H' := []) [] (uc rfl un) pn ?_
 exact tx_ret1' Try.results134 rfl () (rv_tmp' rfl) lr

def gogeom_GeometryCollection_Layout_j2 (k : Nat) (rec1 : (Int × Int) → Option (Int)) (x4 x2 : Int) : Option (Int) :=
 rec1 (x2, (iadd .i64 x4 1))
def gogeom_GeometryCollection_Layout_l1s (a0_1 : List G53) (recf : Int → (List G53) → Int → Option (Int)) (k : Nat) (rec1 : (Int × Int) → Option (Int)) (x3 x4 : Int) : Option (Int) :=
 br (decide (x4 < (a0_1.length : Int)))
  ((idx a0_1 x4) >>= fun r23 =>
  match r23 with
   | .c0 r23_0a r23_0b r23_0c r23_0d =>
    ((gogeom_geom0_Layout k r23_0a r23_0b r23_0c r23_0d) >>= fun r26 =>
    br (decide (r26 = 2))
     (br (decide (x3 = 3))
      (gogeom_GeometryCollection_Layout_j2 k rec1 x4 4)
      (br (decide (x3 < r26))
       (gogeom_GeometryCollection_Layout_j2 k rec1 x4 r26)
       (gogeom_GeometryCollection_Layout_j2 k rec1 x4 x3)))
     (br (decide (r26 = 3))
      (br (decide (x3 = 2))
       (gogeom_GeometryCollection_Layout_j2 k rec1 x4 4)
       (br (decide (x3 < r26))
        (gogeom_GeometryCollection_Layout_j2 k rec1 x4 r26)
        (gogeom_GeometryCollection_Layout_j2 k rec1 x4 x3)))
      (br (decide (x3 < r26))
       (gogeom_GeometryCollection_Layout_j2 k rec1 x4 r26)
       (gogeom_GeometryCollection_Layout_j2 k rec1 x4 x3))))
   | .c1 r23_1a r23_1b r23_1c r23_1d =>
    ((gogeom_geom0_Layout k r23_1a r23_1b r23_1c r23_1d) >>= fun r26 =>
    br (decide (r26 = 2))
     (br (decide (x3 = 3))
      (gogeom_GeometryCollection_Layout_j2 k rec1 x4 4)
      (br (decide (x3 < r26))
       (gogeom_GeometryCollection_Layout_j2 k rec1 x4 r26)
       (gogeom_GeometryCollection_Layout_j2 k rec1 x4 x3)))
     (br (decide (r26 = 3))
      (br (decide (x3 = 2))
       (gogeom_GeometryCollection_Layout_j2 k rec1 x4 4)
       (br (decide (x3 < r26))
        (gogeom_GeometryCollection_Layout_j2 k rec1 x4 r26)
        (gogeom_GeometryCollection_Layout_j2 k rec1 x4 x3)))
      (br (decide (x3 < r26))
       (gogeom_GeometryCollection_Layout_j2 k rec1 x4 r26)
       (gogeom_GeometryCollection_Layout_j2 k rec1 x4 x3))))
   | .c2 r23_2a r23_2b r23_2c r23_2d =>
    ((gogeom_geom0_Layout k r23_2a r23_2b r23_2c r23_2d) >>= fun r26 =>
    br (decide (r26 = 2))
     (br (decide (x3 = 3))
      (gogeom_GeometryCollection_Layout_j2 k rec1 x4 4)
      (br (decide (x3 < r26))
       (gogeom_GeometryCollection_Layout_j2 k rec1 x4 r26)
       (gogeom_GeometryCollection_Layout_j2 k rec1 x4 x3)))
     (br (decide (r26 = 3))
      (br (decide (x3 = 2))
       (gogeom_GeometryCollection_Layout_j2 k rec1 x4 4)
       (br (decide (x3 < r26))
        (gogeom_GeometryCollection_Layout_j2 k rec1 x4 r26)
        (gogeom_GeometryCollection_Layout_j2 k rec1 x4 x3)))
      (br (decide (x3 < r26))
       (gogeom_GeometryCollection_Layout_j2 k rec1 x4 r26)
       (gogeom_GeometryCollection_Layout_j2 k rec1 x4 x3))))
   | .c3 r23_3a r23_3b r23_3c r23_3d r23_3e =>
    ((gogeom_geom0_Layout_v2 k r23_3a r23_3b r23_3c r23_3d r23_3e) >>= fun r26 =>
    br (decide (r26 = 2))
     (br (decide (x3 = 3))
      (gogeom_GeometryCollection_Layout_j2 k rec1 x4 4)
      (br (decide (x3 < r26))
       (gogeom_GeometryCollection_Layout_j2 k rec1 x4 r26)
       (gogeom_GeometryCollection_Layout_j2 k rec1 x4 x3)))
     (br (decide (r26 = 3))
      (br (decide (x3 = 2))
       (gogeom_GeometryCollection_Layout_j2 k rec1 x4 4)
       (br (decide (x3 < r26))
        (gogeom_GeometryCollection_Layout_j2 k rec1 x4 r26)
        (gogeom_GeometryCollection_Layout_j2 k rec1 x4 x3)))
      (br (decide (x3 < r26))
       (gogeom_GeometryCollection_Layout_j2 k rec1 x4 r26)
       (gogeom_GeometryCollection_Layout_j2 k rec1 x4 x3))))
   | .c4 r23_4a r23_4b r23_4c r23_4d r23_4e =>
    ((gogeom_geom0_Layout_v2 k r23_4a r23_4b r23_4c r23_4d r23_4e) >>= fun r26 =>
    br (decide (r26 = 2))
     (br (decide (x3 = 3))
      (gogeom_GeometryCollection_Layout_j2 k rec1 x4 4)
      (br (decide (x3 < r26))
       (gogeom_GeometryCollection_Layout_j2 k rec1 x4 r26)
       (gogeom_GeometryCollection_Layout_j2 k rec1 x4 x3)))
     (br (decide (r26 = 3))
      (br (decide (x3 = 2))
       (gogeom_GeometryCollection_Layout_j2 k rec1 x4 4)
       (br (decide (x3 < r26))
        (gogeom_GeometryCollection_Layout_j2 k rec1 x4 r26)
        (gogeom_GeometryCollection_Layout_j2 k rec1 x4 x3)))
      (br (decide (x3 < r26))
       (gogeom_GeometryCollection_Layout_j2 k rec1 x4 r26)
       (gogeom_GeometryCollection_Layout_j2 k rec1 x4 x3))))
   | .c5 r23_5a r23_5b r23_5c r23_5d r23_5e =>
    ((gogeom_geom0_Layout_v2 k r23_5a r23_5b r23_5c r23_5d r23_5e) >>= fun r26 =>
    br (decide (r26 = 2))
     (br (decide (x3 = 3))
      (gogeom_GeometryCollection_Layout_j2 k rec1 x4 4)
      (br (decide (x3 < r26))
       (gogeom_GeometryCollection_Layout_j2 k rec1 x4 r26)
       (gogeom_GeometryCollection_Layout_j2 k rec1 x4 x3)))
     (br (decide (r26 = 3))
      (br (decide (x3 = 2))
       (gogeom_GeometryCollection_Layout_j2 k rec1 x4 4)
       (br (decide (x3 < r26))
        (gogeom_GeometryCollection_Layout_j2 k rec1 x4 r26)
        (gogeom_GeometryCollection_Layout_j2 k rec1 x4 x3)))
      (br (decide (x3 < r26))
       (gogeom_GeometryCollection_Layout_j2 k rec1 x4 r26)
       (gogeom_GeometryCollection_Layout_j2 k rec1 x4 x3))))
   | .c6 r23_6a r23_6b r23_6c r23_6d r23_6e =>
    ((gogeom_geom0_Layout_v3 k r23_6a r23_6b r23_6c r23_6d r23_6e) >>= fun r26 =>
    br (decide (r26 = 2))
     (br (decide (x3 = 3))
      (gogeom_GeometryCollection_Layout_j2 k rec1 x4 4)
      (br (decide (x3 < r26))
       (gogeom_GeometryCollection_Layout_j2 k rec1 x4 r26)
       (gogeom_GeometryCollection_Layout_j2 k rec1 x4 x3)))
     (br (decide (r26 = 3))
      (br (decide (x3 = 2))
       (gogeom_GeometryCollection_Layout_j2 k rec1 x4 4)
       (br (decide (x3 < r26))
        (gogeom_GeometryCollection_Layout_j2 k rec1 x4 r26)
        (gogeom_GeometryCollection_Layout_j2 k rec1 x4 x3)))
      (br (decide (x3 < r26))
       (gogeom_GeometryCollection_Layout_j2 k rec1 x4 r26)
       (gogeom_GeometryCollection_Layout_j2 k rec1 x4 x3))))
   | .c7 r23_7a r23_7b r23_7c =>
    ((recf r23_7a r23_7b r23_7c) >>= fun r26 =>
    br (decide (r26 = 2))
     (br (decide (x3 = 3))
      (gogeom_GeometryCollection_Layout_j2 k rec1 x4 4)
      (br (decide (x3 < r26))
       (gogeom_GeometryCollection_Layout_j2 k rec1 x4 r26)
       (gogeom_GeometryCollection_Layout_j2 k rec1 x4 x3)))
     (br (decide (r26 = 3))
      (br (decide (x3 = 2))
       (gogeom_GeometryCollection_Layout_j2 k rec1 x4 4)
       (br (decide (x3 < r26))
        (gogeom_GeometryCollection_Layout_j2 k rec1 x4 r26)
        (gogeom_GeometryCollection_Layout_j2 k rec1 x4 x3)))
      (br (decide (x3 < r26))
       (gogeom_GeometryCollection_Layout_j2 k rec1 x4 r26)
       (gogeom_GeometryCollection_Layout_j2 k rec1 x4 x3)))))
  (some x3)
def gogeom_GeometryCollection_Layout_l1 (a0_1 : List G53) (recf : Int → (List G53) → Int → Option (Int)) : Nat → (Int × Int) → Option (Int)
 | 0, _ => none
 | k + 1, v => gogeom_GeometryCollection_Layout_l1s a0_1 recf k (gogeom_GeometryCollection_Layout_l1 a0_1 recf k) v.1 v.2
def gogeom_GeometryCollection_Layout_b (recf : Int → (List G53) → Int → Option (Int)) (k : Nat) (a0_0 : Int) (a0_1 : List G53) (a0_2 : Int) : Option (Int) :=
 br (!decide (a0_0 = 0))
  (some a0_0)
  ((gogeom_GeometryCollection_Layout_l1 a0_1 recf k (0, 0)) >>= fun v4 =>
  some v4)
def gogeom_GeometryCollection_Layout : Nat → Int → (List G53) → Int → Option (Int)
 | 0 => fun _ _ _ => none
 | k + 1 => fun a0_0 a0_1 a0_2 => gogeom_GeometryCollection_Layout_b (gogeom_GeometryCollection_Layout k) k a0_0 a0_1 a0_2

theorem gogeom_GeometryCollection_Layout_b_sim {recf : Int → (List G53) → Int → Option (Int)} (hrec : ∀  (a0_0 : Int) (a0_1 : List G53) (a0_2 out : Int), recf a0_0 a0_1 a0_2 = some out → Sx.Fn Try.prog 125 [(Pt (C14 a0_0 a0_1 a0_2))] [] (fun w : Unit => (Vi out)) (fun w => [])) {k : Nat}  (a0_0 : Int) (a0_1 : List G53) (a0_2 : Int) {out : Int} (hp : gogeom_GeometryCollection_Layout_b recf k a0_0 a0_1 a0_2 = some out) : Sx.Fn Try.prog 125 [(Pt (C14 a0_0 a0_1 a0_2))] [] (fun w : Unit => (Vi out)) (fun w => []) := by
 unfold gogeom_GeometryCollection_Layout_b at hp
 refine fn_of Try.func125 rfl Try.ntmps125 rfl fun E hM => ?_
 refine cr fun K1 hK1 => ?_
 refine sa rfl ?_
 refine nk hK1 ?_
 refine cx_seq' fun K2 hK2 => ?_
 refine cr fun K3 hK3 => ?_
 refine sm rfl ?_
 refine s0 (rd_nilck_pt' rfl) ?_
 refine s0 (rd_field_pt' (off := 0) rfl Try.underlying114 rfl info61 rfl (l' := (C14 a0_0 a0_1 a0_2)) rfl) ?_
 refine s0 (rd_load_pt' rfl rfl flat61) ?_
 refine sb rfl rfl eg_int ru_neq ?_
 refine nk hK3 ?_
 refine cx_cond' rfl (fun h1 => ?_) (fun h1 => ?_)
 ·replace hp := (br_t h1).symm.trans hp
  refine cr fun K4 hK4 => ?_
  refine sm rfl ?_
  refine s0 (rd_nilck_pt' rfl) ?_
  refine s0 (rd_field_pt' (off := 0) rfl Try.underlying114 rfl info61 rfl (l' := (C14 a0_0 a0_1 a0_2)) rfl) ?_
  refine s0 (rd_load_pt' rfl rfl flat61) ?_
  refine sa rfl ?_
  refine nk hK4 ?_
  refine cx_retc' ?_
  replace hp := sj hp
  subst hp
  refine tk (L' := [(2, (Vi a0_0))]) (H' := []) [] (uc rfl un) pn ?_
  exact tx_ret1' Try.results125 rfl () (rv_tmp' rfl) lr
 replace hp := (br_f h1).symm.trans hp
 refine cx_skip' ?_
 show TX E K2 _
 refine tx_k' hK2 ?_
 refine cr fun K5 hK5 => ?_
 refine sa rfl ?_
 refine nk hK5 ?_
 refine cx_seq' fun K6 hK6 => ?_
 refine cr fun K7 hK7 => ?_
 refine sm rfl ?_
 refine s0 (rd_nilck_pt' rfl) ?_
 refine s0 (rd_field_pt' (off := 1) rfl Try.underlying114 rfl info112 rfl (l' := [(Sl KG53 a0_1), (Vi a0_2)]) rfl) ?_
 refine s0 (rd_load_pt' rfl rfl flat112) ?_
 refine sk rfl Try.underlying112 ?_
 refine sm rfl ?_
 refine nk hK7 ?_
 refine cx_block' ?_
 obtain ⟨v4, hy1, hp⟩ := bind_some hp
 refine cx_loopg' (F := gogeom_GeometryCollection_Layout_l1 a0_1 recf) (G := fun k R v => gogeom_GeometryCollection_Layout_l1s a0_1 recf k R v.1 v.2) (x := (0, 0)) (gh := ()) (fun (v2 : Int × Int) (w2 : Unit) => (⟨50, [], [(3, (Vi v2.1)), (19, (Sl KG53 a0_1)), (20, (Vi (a0_1.length : Int))), (21, (Vi v2.2))], []⟩ : St)) (fun (v4 : Int) => Zg E (Exit.exit 0) (fun (w4 : Unit) => (⟨50, [], [(3, (Vi v4))], []⟩ : St))) (fun _ => rfl) (fun _ _ => rfl) ?_ hy1 (tx_to' rfl [] (u4 rfl rfl rfl rfl) (by decide) pn) ?_
 ·clear hp hy1
  clear v4
  intro k rec1 KY1 ih1
  rintro ⟨x3, x4⟩ ⟨⟩ y1 hp
  replace hp : gogeom_GeometryCollection_Layout_l1s a0_1 recf k rec1 x3 x4 = some y1 := hp
  unfold gogeom_GeometryCollection_Layout_l1s at hp
  refine cr fun K21 hK21 => ?_
  refine sb rfl rfl eg_int ru_lss ?_
  refine nk hK21 ?_
  refine cx_seq' fun K22 hK22 => ?_
  refine cx_cond' rfl (fun h9 => ?_) (fun h9 => ?_)
  ·replace hp := (br_t h9).symm.trans hp
   refine cx_skip' ?_
   show TX E K22 _
   refine tx_k' hK22 ?_
   refine cx_join' (fun (v3 : Int) => (⟨50, [], [(3, (Vi v3)), (19, (Sl KG53 a0_1)), (20, (Vi (a0_1.length : Int))), (21, (Vi x4))], []⟩ : St)) (fun (v3 : Int) => gogeom_GeometryCollection_Layout_j2 k rec1 x4 v3 = some y1) ?_ ?_
   ·rintro x2 hp
    replace hp : gogeom_GeometryCollection_Layout_j2 k rec1 x4 x2 = some y1 := hp
    unfold gogeom_GeometryCollection_Layout_j2 at hp
    refine cx_region' ?_
    refine sb rfl rfl eg_int ru_add ?_
    refine sm rfl ?_
    refine sx_nil' ?_
    show TX E (KY1 _) _
    exact tk [] (u4 rfl rfl rfl rfl) pn (ih1 (x2, (iadd .i64 x4 1)) () _ hp)
   intro K23 hK23
   refine cx_block' ?_
   refine cr fun K24 hK24 => ?_
   obtain ⟨r23, hr23, hp⟩ := bind_some hp
   refine s0 (rd_at' (K := KG53) rfl rfl hr23 Try.underlying112 info53) ?_
   refine s0 (rd_load_pt' rfl rfl flat53) ?_
   refine sa rfl ?_
   refine nk hK24 ?_
   refine cr fun K25 hK25 => ?_
   refine sm rfl ?_
   rcases r23 with ⟨r23_0a, r23_0b, r23_0c, r23_0d⟩ | ⟨r23_1a, r23_1b, r23_1c, r23_1d⟩ | ⟨r23_2a, r23_2b, r23_2c, r23_2d⟩ | ⟨r23_3a, r23_3b, r23_3c, r23_3d, r23_3e⟩ | ⟨r23_4a, r23_4b, r23_4c, r23_4d, r23_4e⟩ | ⟨r23_5a, r23_5b, r23_5c, r23_5d, r23_5e⟩ | ⟨r23_6a, r23_6b, r23_6c, r23_6d, r23_6e⟩ | ⟨r23_7a, r23_7b, r23_7c⟩
   ·dsimp only at hp
    refine tx_slot' 24 (y := (If 72 (Pt (C3 r23_0a r23_0b r23_0c r23_0d)))) rfl (imp_eq (SG53_c0 r23_0a r23_0b r23_0c r23_0d)) ?_
    refine tx_slot' 5 (y := (If 72 (Pt (C3 r23_0a r23_0b r23_0c r23_0d)))) rfl (imp_eq (SG53_c0 r23_0a r23_0b r23_0c r23_0d)) ?_
    refine tx_slot' 25 (y := (If 72 (Pt (C3 r23_0a r23_0b r23_0c r23_0d)))) rfl (imp_eq (SG53_c0 r23_0a r23_0b r23_0c r23_0d)) ?_
    obtain ⟨r26, hr26, hp⟩ := bind_some hp
    refine so (oz (ent_inv' rfl rfl (inv_pt0 inv72_Layout)) (gogeom_geom0_Layout_sim _ _ _ _ hr26)) fun ⟨⟩ => ?_
    refine sa rfl ?_
    refine nk hK25 ?_
    refine cr fun K26 hK26 => ?_
    refine sm rfl ?_
    refine nk hK26 ?_
    refine cx_block' ?_
    refine cr fun K27 hK27 => ?_
    refine sb rfl rfl eg_int ru_eql ?_
    refine sa rfl ?_
    refine nk hK27 ?_
    refine cx_cond' rfl (fun h10 => ?_) (fun h10 => ?_)
    ·replace hp := (br_t h10).symm.trans hp
     refine cr fun K28 hK28 => ?_
     refine sm rfl ?_
     refine sb rfl rfl eg_int ru_eql ?_
     refine nk hK28 ?_
     refine cx_cond' rfl (fun h15 => ?_) (fun h15 => ?_)
     ·replace hp := (br_t h15).symm.trans hp
      refine cx_region' ?_
      refine sa rfl ?_
      refine sx_nil' ?_
      show TX E K23 _
      exact tk [] (u4 rfl rfl rfl rfl) pn (hK23 4 hp)
     replace hp := (br_f h15).symm.trans hp
     refine cr fun K29 hK29 => ?_
     iterate 2 refine sm rfl ?_
     refine sb rfl rfl eg_int ru_gtr ?_
     refine nk hK29 ?_
     refine cx_cond' rfl (fun h11 => ?_) (fun h11 => ?_)
     ·replace hp := (br_t h11).symm.trans hp
      refine cx_region' ?_
      refine sm rfl ?_
      refine sa rfl ?_
      refine sx_nil' ?_
      show TX E K23 _
      exact tk [] (u4 rfl rfl rfl rfl) pn (hK23 r26 hp)
     replace hp := (br_f h11).symm.trans hp
     refine cx_skip' ?_
     show TX E K23 _
     exact tk [] (u4 rfl rfl rfl rfl) pn (hK23 x3 hp)
    replace hp := (br_f h10).symm.trans hp
    refine cr fun K30 hK30 => ?_
    refine sb rfl rfl eg_int ru_eql ?_
    refine sa rfl ?_
    refine nk hK30 ?_
    refine cx_cond' rfl (fun h12 => ?_) (fun h12 => ?_)
    ·replace hp := (br_t h12).symm.trans hp
     refine cr fun K31 hK31 => ?_
     refine sm rfl ?_
     refine sb rfl rfl eg_int ru_eql ?_
     refine nk hK31 ?_
     refine cx_cond' rfl (fun h16 => ?_) (fun h16 => ?_)
     ·replace hp := (br_t h16).symm.trans hp
      refine cx_region' ?_
      refine sa rfl ?_
      refine sx_nil' ?_
      show TX E K23 _
      exact tk [] (u4 rfl rfl rfl rfl) pn (hK23 4 hp)
     replace hp := (br_f h16).symm.trans hp
     refine cr fun K32 hK32 => ?_
     iterate 2 refine sm rfl ?_
     refine sb rfl rfl eg_int ru_gtr ?_
     refine nk hK32 ?_
     refine cx_cond' rfl (fun h13 => ?_) (fun h13 => ?_)
     ·replace hp := (br_t h13).symm.trans hp
      refine cx_region' ?_
      refine sm rfl ?_
      refine sa rfl ?_
      refine sx_nil' ?_
      show TX E K23 _
      exact tk [] (u4 rfl rfl rfl rfl) pn (hK23 r26 hp)
     replace hp := (br_f h13).symm.trans hp
     refine cx_skip' ?_
     show TX E K23 _
     exact tk [] (u4 rfl rfl rfl rfl) pn (hK23 x3 hp)
    replace hp := (br_f h12).symm.trans hp
    refine cr fun K33 hK33 => ?_
    iterate 2 refine sm rfl ?_
    refine sb rfl rfl eg_int ru_gtr ?_
    refine nk hK33 ?_
    refine cx_cond' rfl (fun h14 => ?_) (fun h14 => ?_)
    ·replace hp := (br_t h14).symm.trans hp
     refine cx_region' ?_
     refine sm rfl ?_
     refine sa rfl ?_
     refine sx_nil' ?_
     show TX E K23 _
     exact tk [] (u4 rfl rfl rfl rfl) pn (hK23 r26 hp)
    replace hp := (br_f h14).symm.trans hp
    refine cx_skip' ?_
    show TX E K23 _
    exact tk [] (u4 rfl rfl rfl rfl) pn (hK23 x3 hp)
   ·dsimp only at hp
    refine tx_slot' 24 (y := (If 75 (Pt (C3 r23_1a r23_1b r23_1c r23_1d)))) rfl (imp_eq (SG53_c1 r23_1a r23_1b r23_1c r23_1d)) ?_
    refine tx_slot' 5 (y := (If 75 (Pt (C3 r23_1a r23_1b r23_1c r23_1d)))) rfl (imp_eq (SG53_c1 r23_1a r23_1b r23_1c r23_1d)) ?_
    refine tx_slot' 25 (y := (If 75 (Pt (C3 r23_1a r23_1b r23_1c r23_1d)))) rfl (imp_eq (SG53_c1 r23_1a r23_1b r23_1c r23_1d)) ?_
    obtain ⟨r26, hr26, hp⟩ := bind_some hp
    refine so (oz (ent_inv' rfl rfl (inv_pt0 inv75_Layout)) (gogeom_geom0_Layout_sim _ _ _ _ hr26)) fun ⟨⟩ => ?_
    refine sa rfl ?_
    refine nk hK25 ?_
    refine cr fun K26 hK26 => ?_
    refine sm rfl ?_
    refine nk hK26 ?_
    refine cx_block' ?_
    refine cr fun K27 hK27 => ?_
    refine sb rfl rfl eg_int ru_eql ?_
    refine sa rfl ?_
    refine nk hK27 ?_
    refine cx_cond' rfl (fun h10 => ?_) (fun h10 => ?_)
    ·replace hp := (br_t h10).symm.trans hp
     refine cr fun K28 hK28 => ?_
     refine sm rfl ?_
     refine sb rfl rfl eg_int ru_eql ?_
     refine nk hK28 ?_
     refine cx_cond' rfl (fun h15 => ?_) (fun h15 => ?_)
     ·replace hp := (br_t h15).symm.trans hp
      refine cx_region' ?_
      refine sa rfl ?_
      refine sx_nil' ?_
      show TX E K23 _
      exact tk [] (u4 rfl rfl rfl rfl) pn (hK23 4 hp)
     replace hp := (br_f h15).symm.trans hp
     refine cr fun K29 hK29 => ?_
     iterate 2 refine sm rfl ?_
     refine sb rfl rfl eg_int ru_gtr ?_
     refine nk hK29 ?_
     refine cx_cond' rfl (fun h11 => ?_) (fun h11 => ?_)
     ·replace hp := (br_t h11).symm.trans hp
      refine cx_region' ?_
      refine sm rfl ?_
      refine sa rfl ?_
      refine sx_nil' ?_
      show TX E K23 _
      exact tk [] (u4 rfl rfl rfl rfl) pn (hK23 r26 hp)
     replace hp := (br_f h11).symm.trans hp
     refine cx_skip' ?_
     show TX E K23 _
     exact tk [] (u4 rfl rfl rfl rfl) pn (hK23 x3 hp)
    replace hp := (br_f h10).symm.trans hp
    refine cr fun K30 hK30 => ?_
    refine sb rfl rfl eg_int ru_eql ?_
    refine sa rfl ?_
    refine nk hK30 ?_
    refine cx_cond' rfl (fun h12 => ?_) (fun h12 => ?_)
    ·replace hp := (br_t h12).symm.trans hp
     refine cr fun K31 hK31 => ?_
     refine sm rfl ?_
     refine sb rfl rfl eg_int ru_eql ?_
     refine nk hK31 ?_
     refine cx_cond' rfl (fun h16 => ?_) (fun h16 => ?_)
     ·replace hp := (br_t h16).symm.trans hp
      refine cx_region' ?_
      refine sa rfl ?_
      refine sx_nil' ?_
      show TX E K23 _
      exact tk [] (u4 rfl rfl rfl rfl) pn (hK23 4 hp)
     replace hp := (br_f h16).symm.trans hp
     refine cr fun K32 hK32 => ?_
     iterate 2 refine sm rfl ?_
     refine sb rfl rfl eg_int ru_gtr ?_
     refine nk hK32 ?_
     refine cx_cond' rfl (fun h13 => ?_) (fun h13 => ?_)
     ·replace hp := (br_t h13).symm.trans hp
      refine cx_region' ?_
      refine sm rfl ?_
      refine sa rfl ?_
      refine sx_nil' ?_
      show TX E K23 _
      exact tk [] (u4 rfl rfl rfl rfl) pn (hK23 r26 hp)
     replace hp := (br_f h13).symm.trans hp
     refine cx_skip' ?_
     show TX E K23 _
     exact tk [] (u4 rfl rfl rfl rfl) pn (hK23 x3 hp)
    replace hp := (br_f h12).symm.trans hp
    refine cr fun K33 hK33 => ?_
    iterate 2 refine sm rfl ?_
    refine sb rfl rfl eg_int ru_gtr ?_
    refine nk hK33 ?_
    refine cx_cond' rfl (fun h14 => ?_) (fun h14 => ?_)
    ·replace hp := (br_t h14).symm.trans hp
     refine cx_region' ?_
     refine sm rfl ?_
     refine sa rfl ?_
     refine sx_nil' ?_
     show TX E K23 _
     exact tk [] (u4 rfl rfl rfl rfl) pn (hK23 r26 hp)
    replace hp := (br_f h14).symm.trans hp
    refine cx_skip' ?_
    show TX E K23 _
    exact tk [] (u4 rfl rfl rfl rfl) pn (hK23 x3 hp)
   ·dsimp only at hp
    refine tx_slot' 24 (y := (If 69 (Pt (C3 r23_2a r23_2b r23_2c r23_2d)))) rfl (imp_eq (SG53_c2 r23_2a r23_2b r23_2c r23_2d)) ?_
    refine tx_slot' 5 (y := (If 69 (Pt (C3 r23_2a r23_2b r23_2c r23_2d)))) rfl (imp_eq (SG53_c2 r23_2a r23_2b r23_2c r23_2d)) ?_
    refine tx_slot' 25 (y := (If 69 (Pt (C3 r23_2a r23_2b r23_2c r23_2d)))) rfl (imp_eq (SG53_c2 r23_2a r23_2b r23_2c r23_2d)) ?_
    obtain ⟨r26, hr26, hp⟩ := bind_some hp
    refine so (oz (ent_inv' rfl rfl (inv_pt0 inv69_Layout)) (gogeom_geom0_Layout_sim _ _ _ _ hr26)) fun ⟨⟩ => ?_
    refine sa rfl ?_
    refine nk hK25 ?_
    refine cr fun K26 hK26 => ?_
    refine sm rfl ?_
    refine nk hK26 ?_
    refine cx_block' ?_
    refine cr fun K27 hK27 => ?_
    refine sb rfl rfl eg_int ru_eql ?_
    refine sa rfl ?_
    refine nk hK27 ?_
    refine cx_cond' rfl (fun h10 => ?_) (fun h10 => ?_)
    ·replace hp := (br_t h10).symm.trans hp
     refine cr fun K28 hK28 => ?_
     refine sm rfl ?_
     refine sb rfl rfl eg_int ru_eql ?_
     refine nk hK28 ?_
     refine cx_cond' rfl (fun h15 => ?_) (fun h15 => ?_)
     ·replace hp := (br_t h15).symm.trans hp
      refine cx_region' ?_
      refine sa rfl ?_
      refine sx_nil' ?_
      show TX E K23 _
      exact tk [] (u4 rfl rfl rfl rfl) pn (hK23 4 hp)
     replace hp := (br_f h15).symm.trans hp
     refine cr fun K29 hK29 => ?_
     iterate 2 refine sm rfl ?_
     refine sb rfl rfl eg_int ru_gtr ?_
     refine nk hK29 ?_
     refine cx_cond' rfl (fun h11 => ?_) (fun h11 => ?_)
     ·replace hp := (br_t h11).symm.trans hp
      refine cx_region' ?_
      refine sm rfl ?_
      refine sa rfl ?_
      refine sx_nil' ?_
      show TX E K23 _
      exact tk [] (u4 rfl rfl rfl rfl) pn (hK23 r26 hp)
     replace hp := (br_f h11).symm.trans hp
     refine cx_skip' ?_
     show TX E K23 _
     exact tk [] (u4 rfl rfl rfl rfl) pn (hK23 x3 hp)
    replace hp := (br_f h10).symm.trans hp
    refine cr fun K30 hK30 => ?_
    refine sb rfl rfl eg_int ru_eql ?_
    refine sa rfl ?_
    refine nk hK30 ?_
    refine cx_cond' rfl (fun h12 => ?_) (fun h12 => ?_)
    ·replace hp := (br_t h12).symm.trans hp
     refine cr fun K31 hK31 => ?_
     refine sm rfl ?_
     refine sb rfl rfl eg_int ru_eql ?_
     refine nk hK31 ?_
     refine cx_cond' rfl (fun h16 => ?_) (fun h16 => ?_)
     ·replace hp := (br_t h16).symm.trans hp
      refine cx_region' ?_
      refine sa rfl ?_
      refine sx_nil' ?_
      show TX E K23 _
      exact tk [] (u4 rfl rfl rfl rfl) pn (hK23 4 hp)
     replace hp := (br_f h16).symm.trans hp
     refine cr fun K32 hK32 => ?_
     iterate 2 refine sm rfl ?_
     refine sb rfl rfl eg_int ru_gtr ?_
     refine nk hK32 ?_
     refine cx_cond' rfl (fun h13 => ?_) (fun h13 => ?_)
     ·replace hp := (br_t h13).symm.trans hp
      refine cx_region' ?_
      refine sm rfl ?_
      refine sa rfl ?_
      refine sx_nil' ?_
      show TX E K23 _
      exact tk [] (u4 rfl rfl rfl rfl) pn (hK23 r26 hp)
     replace hp := (br_f h13).symm.trans hp
     refine cx_skip' ?_
     show TX E K23 _
     exact tk [] (u4 rfl rfl rfl rfl) pn (hK23 x3 hp)
    replace hp := (br_f h12).symm.trans hp
    refine cr fun K33 hK33 => ?_
    iterate 2 refine sm rfl ?_
    refine sb rfl rfl eg_int ru_gtr ?_
    refine nk hK33 ?_
    refine cx_cond' rfl (fun h14 => ?_) (fun h14 => ?_)
    ·replace hp := (br_t h14).symm.trans hp
     refine cx_region' ?_
     refine sm rfl ?_
     refine sa rfl ?_
     refine sx_nil' ?_
     show TX E K23 _
     exact tk [] (u4 rfl rfl rfl rfl) pn (hK23 r26 hp)
    replace hp := (br_f h14).symm.trans hp
    refine cx_skip' ?_
    show TX E K23 _
    exact tk [] (u4 rfl rfl rfl rfl) pn (hK23 x3 hp)
   ·dsimp only at hp
    refine tx_slot' 24 (y := (If 67 (Pt (C6 r23_3a r23_3b r23_3c r23_3d r23_3e)))) rfl (imp_eq (SG53_c3 r23_3a r23_3b r23_3c r23_3d r23_3e)) ?_
    refine tx_slot' 5 (y := (If 67 (Pt (C6 r23_3a r23_3b r23_3c r23_3d r23_3e)))) rfl (imp_eq (SG53_c3 r23_3a r23_3b r23_3c r23_3d r23_3e)) ?_
    refine tx_slot' 25 (y := (If 67 (Pt (C6 r23_3a r23_3b r23_3c r23_3d r23_3e)))) rfl (imp_eq (SG53_c3 r23_3a r23_3b r23_3c r23_3d r23_3e)) ?_
    obtain ⟨r26, hr26, hp⟩ := bind_some hp
    refine so (oz (ent_inv' rfl rfl (inv_pt0 inv67_Layout)) (gogeom_geom0_Layout_v2_sim _ _ _ _ _ hr26)) fun ⟨⟩ => ?_
    refine sa rfl ?_
    refine nk hK25 ?_
    refine cr fun K26 hK26 => ?_
    refine sm rfl ?_
    refine nk hK26 ?_
    refine cx_block' ?_
    refine cr fun K27 hK27 => ?_
    refine sb rfl rfl eg_int ru_eql ?_
    refine sa rfl ?_
    refine nk hK27 ?_
    refine cx_cond' rfl (fun h10 => ?_) (fun h10 => ?_)
    ·replace hp := (br_t h10).symm.trans hp
     refine cr fun K28 hK28 => ?_
     refine sm rfl ?_
     refine sb rfl rfl eg_int ru_eql ?_
     refine nk hK28 ?_
     refine cx_cond' rfl (fun h15 => ?_) (fun h15 => ?_)
     ·replace hp := (br_t h15).symm.trans hp
      refine cx_region' ?_
      refine sa rfl ?_
      refine sx_nil' ?_
      show TX E K23 _
      exact tk [] (u4 rfl rfl rfl rfl) pn (hK23 4 hp)
     replace hp := (br_f h15).symm.trans hp
     refine cr fun K29 hK29 => ?_
     iterate 2 refine sm rfl ?_
     refine sb rfl rfl eg_int ru_gtr ?_
     refine nk hK29 ?_
     refine cx_cond' rfl (fun h11 => ?_) (fun h11 => ?_)
     ·replace hp := (br_t h11).symm.trans hp
      refine cx_region' ?_
      refine sm rfl ?_
      refine sa rfl ?_
      refine sx_nil' ?_
      show TX E K23 _
      exact tk [] (u4 rfl rfl rfl rfl) pn (hK23 r26 hp)
     replace hp := (br_f h11).symm.trans hp
     refine cx_skip' ?_
     show TX E K23 _
     exact tk [] (u4 rfl rfl rfl rfl) pn (hK23 x3 hp)
    replace hp := (br_f h10).symm.trans hp
    refine cr fun K30 hK30 => ?_
    refine sb rfl rfl eg_int ru_eql ?_
    refine sa rfl ?_
    refine nk hK30 ?_
    refine cx_cond' rfl (fun h12 => ?_) (fun h12 => ?_)
    ·replace hp := (br_t h12).symm.trans hp
     refine cr fun K31 hK31 => ?_
     refine sm rfl ?_
     refine sb rfl rfl eg_int ru_eql ?_
     refine nk hK31 ?_
     refine cx_cond' rfl (fun h16 => ?_) (fun h16 => ?_)
     ·replace hp := (br_t h16).symm.trans hp
      refine cx_region' ?_
      refine sa rfl ?_
      refine sx_nil' ?_
      show TX E K23 _
      exact tk [] (u4 rfl rfl rfl rfl) pn (hK23 4 hp)
     replace hp := (br_f h16).symm.trans hp
     refine cr fun K32 hK32 => ?_
     iterate 2 refine sm rfl ?_
     refine sb rfl rfl eg_int ru_gtr ?_
     refine nk hK32 ?_
     refine cx_cond' rfl (fun h13 => ?_) (fun h13 => ?_)
     ·replace hp := (br_t h13).symm.trans hp
      refine cx_region' ?_
      refine sm rfl ?_
      refine sa rfl ?_
      refine sx_nil' ?_
      show TX E K23 _
      exact tk [] (u4 rfl rfl rfl rfl) pn (hK23 r26 hp)
     replace hp := (br_f h13).symm.trans hp
     refine cx_skip' ?_
     show TX E K23 _
     exact tk [] (u4 rfl rfl rfl rfl) pn (hK23 x3 hp)
    replace hp := (br_f h12).symm.trans hp
    refine cr fun K33 hK33 => ?_
    iterate 2 refine sm rfl ?_
    refine sb rfl rfl eg_int ru_gtr ?_
    refine nk hK33 ?_
    refine cx_cond' rfl (fun h14 => ?_) (fun h14 => ?_)
    ·replace hp := (br_t h14).symm.trans hp
     refine cx_region' ?_
     refine sm rfl ?_
     refine sa rfl ?_
     refine sx_nil' ?_
     show TX E K23 _
     exact tk [] (u4 rfl rfl rfl rfl) pn (hK23 r26 hp)
    replace hp := (br_f h14).symm.trans hp
    refine cx_skip' ?_
    show TX E K23 _
    exact tk [] (u4 rfl rfl rfl rfl) pn (hK23 x3 hp)
   ·dsimp only at hp
    refine tx_slot' 24 (y := (If 70 (Pt (C6 r23_4a r23_4b r23_4c r23_4d r23_4e)))) rfl (imp_eq (SG53_c4 r23_4a r23_4b r23_4c r23_4d r23_4e)) ?_
    refine tx_slot' 5 (y := (If 70 (Pt (C6 r23_4a r23_4b r23_4c r23_4d r23_4e)))) rfl (imp_eq (SG53_c4 r23_4a r23_4b r23_4c r23_4d r23_4e)) ?_
    refine tx_slot' 25 (y := (If 70 (Pt (C6 r23_4a r23_4b r23_4c r23_4d r23_4e)))) rfl (imp_eq (SG53_c4 r23_4a r23_4b r23_4c r23_4d r23_4e)) ?_
    obtain ⟨r26, hr26, hp⟩ := bind_some hp
    refine so (oz (ent_inv' rfl rfl (inv_pt0 inv70_Layout)) (gogeom_geom0_Layout_v2_sim _ _ _ _ _ hr26)) fun ⟨⟩ => ?_
    refine sa rfl ?_
    refine nk hK25 ?_
    refine cr fun K26 hK26 => ?_
    refine sm rfl ?_
    refine nk hK26 ?_
    refine cx_block' ?_
    refine cr fun K27 hK27 => ?_
    refine sb rfl rfl eg_int ru_eql ?_
    refine sa rfl ?_
    refine nk hK27 ?_
    refine cx_cond' rfl (fun h10 => ?_) (fun h10 => ?_)
    ·replace hp := (br_t h10).symm.trans hp
     refine cr fun K28 hK28 => ?_
     refine sm rfl ?_
     refine sb rfl rfl eg_int ru_eql ?_
     refine nk hK28 ?_
     refine cx_cond' rfl (fun h15 => ?_) (fun h15 => ?_)
     ·replace hp := (br_t h15).symm.trans hp
      refine cx_region' ?_
      refine sa rfl ?_
      refine sx_nil' ?_
      show TX E K23 _
      exact tk [] (u4 rfl rfl rfl rfl) pn (hK23 4 hp)
     replace hp := (br_f h15).symm.trans hp
     refine cr fun K29 hK29 => ?_
     iterate 2 refine sm rfl ?_
     refine sb rfl rfl eg_int ru_gtr ?_
     refine nk hK29 ?_
     refine cx_cond' rfl (fun h11 => ?_) (fun h11 => ?_)
     ·replace hp := (br_t h11).symm.trans hp
      refine cx_region' ?_
      refine sm rfl ?_
      refine sa rfl ?_
      refine sx_nil' ?_
      show TX E K23 _
      exact tk [] (u4 rfl rfl rfl rfl) pn (hK23 r26 hp)
     replace hp := (br_f h11).symm.trans hp
     refine cx_skip' ?_
     show TX E K23 _
     exact tk [] (u4 rfl rfl rfl rfl) pn (hK23 x3 hp)
    replace hp := (br_f h10).symm.trans hp
    refine cr fun K30 hK30 => ?_
    refine sb rfl rfl eg_int ru_eql ?_
    refine sa rfl ?_
    refine nk hK30 ?_
    refine cx_cond' rfl (fun h12 => ?_) (fun h12 => ?_)
    ·replace hp := (br_t h12).symm.trans hp
     refine cr fun K31 hK31 => ?_
     refine sm rfl ?_
     refine sb rfl rfl eg_int ru_eql ?_
     refine nk hK31 ?_
     refine cx_cond' rfl (fun h16 => ?_) (fun h16 => ?_)
     ·replace hp := (br_t h16).symm.trans hp
      refine cx_region' ?_
      refine sa rfl ?_
      refine sx_nil' ?_
      show TX E K23 _
      exact tk [] (u4 rfl rfl rfl rfl) pn (hK23 4 hp)
     replace hp := (br_f h16).symm.trans hp
     refine cr fun K32 hK32 => ?_
     iterate 2 refine sm rfl ?_
     refine sb rfl rfl eg_int ru_gtr ?_
     refine nk hK32 ?_
     refine cx_cond' rfl (fun h13 => ?_) (fun h13 => ?_)
     ·replace hp := (br_t h13).symm.trans hp
      refine cx_region' ?_
      refine sm rfl ?_
      refine sa rfl ?_
      refine sx_nil' ?_
      show TX E K23 _
      exact tk [] (u4 rfl rfl rfl rfl) pn (hK23 r26 hp)
     replace hp := (br_f h13).symm.trans hp
     refine cx_skip' ?_
     show TX E K23 _
     exact tk [] (u4 rfl rfl rfl rfl) pn (hK23 x3 hp)
    replace hp := (br_f h12).symm.trans hp
    refine cr fun K33 hK33 => ?_
    iterate 2 refine sm rfl ?_
    refine sb rfl rfl eg_int ru_gtr ?_
    refine nk hK33 ?_
    refine cx_cond' rfl (fun h14 => ?_) (fun h14 => ?_)
    ·replace hp := (br_t h14).symm.trans hp
     refine cx_region' ?_
     refine sm rfl ?_
     refine sa rfl ?_
     refine sx_nil' ?_
     show TX E K23 _
     exact tk [] (u4 rfl rfl rfl rfl) pn (hK23 r26 hp)
    replace hp := (br_f h14).symm.trans hp
    refine cx_skip' ?_
    show TX E K23 _
    exact tk [] (u4 rfl rfl rfl rfl) pn (hK23 x3 hp)
   ·dsimp only at hp
    refine tx_slot' 24 (y := (If 73 (Pt (C6 r23_5a r23_5b r23_5c r23_5d r23_5e)))) rfl (imp_eq (SG53_c5 r23_5a r23_5b r23_5c r23_5d r23_5e)) ?_
    refine tx_slot' 5 (y := (If 73 (Pt (C6 r23_5a r23_5b r23_5c r23_5d r23_5e)))) rfl (imp_eq (SG53_c5 r23_5a r23_5b r23_5c r23_5d r23_5e)) ?_
    refine tx_slot' 25 (y := (If 73 (Pt (C6 r23_5a r23_5b r23_5c r23_5d r23_5e)))) rfl (imp_eq (SG53_c5 r23_5a r23_5b r23_5c r23_5d r23_5e)) ?_
    obtain ⟨r26, hr26, hp⟩ := bind_some hp
    refine so (oz (ent_inv' rfl rfl (inv_pt0 inv73_Layout)) (gogeom_geom0_Layout_v2_sim _ _ _ _ _ hr26)) fun ⟨⟩ => ?_
    refine sa rfl ?_
    refine nk hK25 ?_
    refine cr fun K26 hK26 => ?_
    refine sm rfl ?_
    refine nk hK26 ?_
    refine cx_block' ?_
    refine cr fun K27 hK27 => ?_
    refine sb rfl rfl eg_int ru_eql ?_
    refine sa rfl ?_
    refine nk hK27 ?_
    refine cx_cond' rfl (fun h10 => ?_) (fun h10 => ?_)
    ·replace hp := (br_t h10).symm.trans hp
     refine cr fun K28 hK28 => ?_
     refine sm rfl ?_
     refine sb rfl rfl eg_int ru_eql ?_
     refine nk hK28 ?_
     refine cx_cond' rfl (fun h15 => ?_) (fun h15 => ?_)
     ·replace hp := (br_t h15).symm.trans hp
      refine cx_region' ?_
      refine sa rfl ?_
      refine sx_nil' ?_
      show TX E K23 _
      exact tk [] (u4 rfl rfl rfl rfl) pn (hK23 4 hp)
     replace hp := (br_f h15).symm.trans hp
     refine cr fun K29 hK29 => ?_
     iterate 2 refine sm rfl ?_
     refine sb rfl rfl eg_int ru_gtr ?_
     refine nk hK29 ?_
     refine cx_cond' rfl (fun h11 => ?_) (fun h11 => ?_)
     ·replace hp := (br_t h11).symm.trans hp
      refine cx_region' ?_
      refine sm rfl ?_
      refine sa rfl ?_
      refine sx_nil' ?_
      show TX E K23 _
      exact tk [] (u4 rfl rfl rfl rfl) pn (hK23 r26 hp)
     replace hp := (br_f h11).symm.trans hp
     refine cx_skip' ?_
     show TX E K23 _
     exact tk [] (u4 rfl rfl rfl rfl) pn (hK23 x3 hp)
    replace hp := (br_f h10).symm.trans hp
    refine cr fun K30 hK30 => ?_
    refine sb rfl rfl eg_int ru_eql ?_
    refine sa rfl ?_
    refine nk hK30 ?_
    refine cx_cond' rfl (fun h12 => ?_) (fun h12 => ?_)
    ·replace hp := (br_t h12).symm.trans hp
     refine cr fun K31 hK31 => ?_
     refine sm rfl ?_
     refine sb rfl rfl eg_int ru_eql ?_
     refine nk hK31 ?_
     refine cx_cond' rfl (fun h16 => ?_) (fun h16 => ?_)
     ·replace hp := (br_t h16).symm.trans hp
      refine cx_region' ?_
      refine sa rfl ?_
      refine sx_nil' ?_
      show TX E K23 _
      exact tk [] (u4 rfl rfl rfl rfl) pn (hK23 4 hp)
     replace hp := (br_f h16).symm.trans hp
     refine cr fun K32 hK32 => ?_
     iterate 2 refine sm rfl ?_
     refine sb rfl rfl eg_int ru_gtr ?_
     refine nk hK32 ?_
     refine cx_cond' rfl (fun h13 => ?_) (fun h13 => ?_)
     ·replace hp := (br_t h13).symm.trans hp
      refine cx_region' ?_
      refine sm rfl ?_
      refine sa rfl ?_
      refine sx_nil' ?_
      show TX E K23 _
      exact tk [] (u4 rfl rfl rfl rfl) pn (hK23 r26 hp)
     replace hp := (br_f h13).symm.trans hp
     refine cx_skip' ?_
     show TX E K23 _
     exact tk [] (u4 rfl rfl rfl rfl) pn (hK23 x3 hp)
    replace hp := (br_f h12).symm.trans hp
    refine cr fun K33 hK33 => ?_
    iterate 2 refine sm rfl ?_
    refine sb rfl rfl eg_int ru_gtr ?_
    refine nk hK33 ?_
    refine cx_cond' rfl (fun h14 => ?_) (fun h14 => ?_)
    ·replace hp := (br_t h14).symm.trans hp
     refine cx_region' ?_
     refine sm rfl ?_
     refine sa rfl ?_
     refine sx_nil' ?_
     show TX E K23 _
     exact tk [] (u4 rfl rfl rfl rfl) pn (hK23 r26 hp)
    replace hp := (br_f h14).symm.trans hp
    refine cx_skip' ?_
    show TX E K23 _
    exact tk [] (u4 rfl rfl rfl rfl) pn (hK23 x3 hp)
   ·dsimp only at hp
    refine tx_slot' 24 (y := (If 76 (Pt (C11 r23_6a r23_6b r23_6c r23_6d r23_6e)))) rfl (imp_eq (SG53_c6 r23_6a r23_6b r23_6c r23_6d r23_6e)) ?_
    refine tx_slot' 5 (y := (If 76 (Pt (C11 r23_6a r23_6b r23_6c r23_6d r23_6e)))) rfl (imp_eq (SG53_c6 r23_6a r23_6b r23_6c r23_6d r23_6e)) ?_
    refine tx_slot' 25 (y := (If 76 (Pt (C11 r23_6a r23_6b r23_6c r23_6d r23_6e)))) rfl (imp_eq (SG53_c6 r23_6a r23_6b r23_6c r23_6d r23_6e)) ?_
    obtain ⟨r26, hr26, hp⟩ := bind_some hp
    refine so (oz (ent_inv' rfl rfl (inv_pt0 inv76_Layout)) (gogeom_geom0_Layout_v3_sim _ _ _ _ _ hr26)) fun ⟨⟩ => ?_
    refine sa rfl ?_
    refine nk hK25 ?_
    refine cr fun K26 hK26 => ?_
    refine sm rfl ?_
    refine nk hK26 ?_
    refine cx_block' ?_
    refine cr fun K27 hK27 => ?_
    refine sb rfl rfl eg_int ru_eql ?_
    refine sa rfl ?_
    refine nk hK27 ?_
    refine cx_cond' rfl (fun h10 => ?_) (fun h10 => ?_)
    ·replace hp := (br_t h10).symm.trans hp
     refine cr fun K28 hK28 => ?_
     refine sm rfl ?_
     refine sb rfl rfl eg_int ru_eql ?_
     refine nk hK28 ?_
     refine cx_cond' rfl (fun h15 => ?_) (fun h15 => ?_)
     ·replace hp := (br_t h15).symm.trans hp
      refine cx_region' ?_
      refine sa rfl ?_
      refine sx_nil' ?_
      show TX E K23 _
      exact tk [] (u4 rfl rfl rfl rfl) pn (hK23 4 hp)
     replace hp := (br_f h15).symm.trans hp
     refine cr fun K29 hK29 => ?_
     iterate 2 refine sm rfl ?_
     refine sb rfl rfl eg_int ru_gtr ?_
     refine nk hK29 ?_
     refine cx_cond' rfl (fun h11 => ?_) (fun h11 => ?_)
     ·replace hp := (br_t h11).symm.trans hp
      refine cx_region' ?_
      refine sm rfl ?_
      refine sa rfl ?_
      refine sx_nil' ?_
      show TX E K23 _
      exact tk [] (u4 rfl rfl rfl rfl) pn (hK23 r26 hp)
     replace hp := (br_f h11).symm.trans hp
     refine cx_skip' ?_
     show TX E K23 _
     exact tk [] (u4 rfl rfl rfl rfl) pn (hK23 x3 hp)
    replace hp := (br_f h10).symm.trans hp
    refine cr fun K30 hK30 => ?_
    refine sb rfl rfl eg_int ru_eql ?_
    refine sa rfl ?_
    refine nk hK30 ?_
    refine cx_cond' rfl (fun h12 => ?_) (fun h12 => ?_)
    ·replace hp := (br_t h12).symm.trans hp
     refine cr fun K31 hK31 => ?_
     refine sm rfl ?_
     refine sb rfl rfl eg_int ru_eql ?_
     refine nk hK31 ?_
     refine cx_cond' rfl (fun h16 => ?_) (fun h16 => ?_)
     ·replace hp := (br_t h16).symm.trans hp
      refine cx_region' ?_
      refine sa rfl ?_
      refine sx_nil' ?_
      show TX E K23 _
      exact tk [] (u4 rfl rfl rfl rfl) pn (hK23 4 hp)
     replace hp := (br_f h16).symm.trans hp
     refine cr fun K32 hK32 => ?_
     iterate 2 refine sm rfl ?_
     refine sb rfl rfl eg_int ru_gtr ?_
     refine nk hK32 ?_
     refine cx_cond' rfl (fun h13 => ?_) (fun h13 => ?_)
     ·replace hp := (br_t h13).symm.trans hp
      refine cx_region' ?_
      refine sm rfl ?_
      refine sa rfl ?_
      refine sx_nil' ?_
      show TX E K23 _
      exact tk [] (u4 rfl rfl rfl rfl) pn (hK23 r26 hp)
     replace hp := (br_f h13).symm.trans hp
     refine cx_skip' ?_
     show TX E K23 _
     exact tk [] (u4 rfl rfl rfl rfl) pn (hK23 x3 hp)
    replace hp := (br_f h12).symm.trans hp
    refine cr fun K33 hK33 => ?_
    iterate 2 refine sm rfl ?_
    refine sb rfl rfl eg_int ru_gtr ?_
    refine nk hK33 ?_
    refine cx_cond' rfl (fun h14 => ?_) (fun h14 => ?_)
    ·replace hp := (br_t h14).symm.trans hp
     refine cx_region' ?_
     refine sm rfl ?_
     refine sa rfl ?_
     refine sx_nil' ?_
     show TX E K23 _
     exact tk [] (u4 rfl rfl rfl rfl) pn (hK23 r26 hp)
    replace hp := (br_f h14).symm.trans hp
    refine cx_skip' ?_
    show TX E K23 _
    exact tk [] (u4 rfl rfl rfl rfl) pn (hK23 x3 hp)
   dsimp only at hp
   refine tx_slot' 24 (y := (If 57 (Pt (C14 r23_7a r23_7b r23_7c)))) rfl (imp_eq (SG53_c7 r23_7a r23_7b r23_7c)) ?_
   refine tx_slot' 5 (y := (If 57 (Pt (C14 r23_7a r23_7b r23_7c)))) rfl (imp_eq (SG53_c7 r23_7a r23_7b r23_7c)) ?_
   refine tx_slot' 25 (y := (If 57 (Pt (C14 r23_7a r23_7b r23_7c)))) rfl (imp_eq (SG53_c7 r23_7a r23_7b r23_7c)) ?_
   obtain ⟨r26, hr26, hp⟩ := bind_some hp
   refine so (oz (ent_inv' rfl rfl (inv_any0 inv57_Layout)) (hrec _ _ _ _ hr26)) fun ⟨⟩ => ?_
   refine sa rfl ?_
   refine nk hK25 ?_
   refine cr fun K26 hK26 => ?_
   refine sm rfl ?_
   refine nk hK26 ?_
   refine cx_block' ?_
   refine cr fun K27 hK27 => ?_
   refine sb rfl rfl eg_int ru_eql ?_
   refine sa rfl ?_
   refine nk hK27 ?_
   refine cx_cond' rfl (fun h10 => ?_) (fun h10 => ?_)
   ·replace hp := (br_t h10).symm.trans hp
    refine cr fun K28 hK28 => ?_
    refine sm rfl ?_
    refine sb rfl rfl eg_int ru_eql ?_
    refine nk hK28 ?_
    refine cx_cond' rfl (fun h15 => ?_) (fun h15 => ?_)
    ·replace hp := (br_t h15).symm.trans hp
     refine cx_region' ?_
     refine sa rfl ?_
     refine sx_nil' ?_
     show TX E K23 _
     exact tk [] (u4 rfl rfl rfl rfl) pn (hK23 4 hp)
    replace hp := (br_f h15).symm.trans hp
    refine cr fun K29 hK29 => ?_
    iterate 2 refine sm rfl ?_
    refine sb rfl rfl eg_int ru_gtr ?_
    refine nk hK29 ?_
    refine cx_cond' rfl (fun h11 => ?_) (fun h11 => ?_)
    ·replace hp := (br_t h11).symm.trans hp
     refine cx_region' ?_
     refine sm rfl ?_
     refine sa rfl ?_
     refine sx_nil' ?_
     show TX E K23 _
     exact tk [] (u4 rfl rfl rfl rfl) pn (hK23 r26 hp)
    replace hp := (br_f h11).symm.trans hp
    refine cx_skip' ?_
    show TX E K23 _
    exact tk [] (u4 rfl rfl rfl rfl) pn (hK23 x3 hp)
   replace hp := (br_f h10).symm.trans hp
   refine cr fun K30 hK30 => ?_
   refine sb rfl rfl eg_int ru_eql ?_
   refine sa rfl ?_
   refine nk hK30 ?_
   refine cx_cond' rfl (fun h12 => ?_) (fun h12 => ?_)
   ·replace hp := (br_t h12).symm.trans hp
    refine cr fun K31 hK31 => ?_
    refine sm rfl ?_
    refine sb rfl rfl eg_int ru_eql ?_
    refine nk hK31 ?_
    refine cx_cond' rfl (fun h16 => ?_) (fun h16 => ?_)
    ·replace hp := (br_t h16).symm.trans hp
     refine cx_region' ?_
     refine sa rfl ?_
     refine sx_nil' ?_
     show TX E K23 _
     exact tk [] (u4 rfl rfl rfl rfl) pn (hK23 4 hp)
    replace hp := (br_f h16).symm.trans hp
    refine cr fun K32 hK32 => ?_
    iterate 2 refine sm rfl ?_
    refine sb rfl rfl eg_int ru_gtr ?_
    refine nk hK32 ?_
    refine cx_cond' rfl (fun h13 => ?_) (fun h13 => ?_)
    ·replace hp := (br_t h13).symm.trans hp
     refine cx_region' ?_
     refine sm rfl ?_
     refine sa rfl ?_
     refine sx_nil' ?_
     show TX E K23 _
     exact tk [] (u4 rfl rfl rfl rfl) pn (hK23 r26 hp)
    replace hp := (br_f h13).symm.trans hp
    refine cx_skip' ?_
    show TX E K23 _
    exact tk [] (u4 rfl rfl rfl rfl) pn (hK23 x3 hp)
   replace hp := (br_f h12).symm.trans hp
   refine cr fun K33 hK33 => ?_
   iterate 2 refine sm rfl ?_
   refine sb rfl rfl eg_int ru_gtr ?_
   refine nk hK33 ?_
   refine cx_cond' rfl (fun h14 => ?_) (fun h14 => ?_)
   ·replace hp := (br_t h14).symm.trans hp
    refine cx_region' ?_
    refine sm rfl ?_
    refine sa rfl ?_
    refine sx_nil' ?_
    show TX E K23 _
    exact tk [] (u4 rfl rfl rfl rfl) pn (hK23 r26 hp)
   replace hp := (br_f h14).symm.trans hp
   refine cx_skip' ?_
   show TX E K23 _
   exact tk [] (u4 rfl rfl rfl rfl) pn (hK23 x3 hp)
  replace hp := (br_f h9).symm.trans hp
  refine cx_exit' ?_
  replace hp := sj hp
  subst hp
  show TX E (Zg E (Exit.exit 0) _ (Exit.exit 0)) _
  exact tx_zend' () rfl [] (uc rfl un) (by decide) pn
 refine zg_out fun w4 => ?_
 show TX E K6 _
 refine tx_k' hK6 ?_
 refine cr fun K34 hK34 => ?_
 refine sm rfl ?_
 refine sa rfl ?_
 refine nk hK34 ?_
 refine cx_retc' ?_
 replace hp := sj hp
 subst hp
 refine tk (L' := [(2, (Vi v4))]) (H' := []) [] (uc rfl un) pn ?_
 exact tx_ret1' Try.results125 rfl () (rv_tmp' rfl) lr
theorem gogeom_GeometryCollection_Layout_simA : ∀ (k : Nat)  (a0_0 : Int) (a0_1 : List G53) (a0_2 out : Int), gogeom_GeometryCollection_Layout k a0_0 a0_1 a0_2 = some out → Sx.Fn Try.prog 125 [(Pt (C14 a0_0 a0_1 a0_2))] [] (fun w : Unit => (Vi out)) (fun w => []) := by
 intro k
 induction k with
 | zero => intro a0_0 a0_1 a0_2 out hp; cases hp
 | succ k ih => intro a0_0 a0_1 a0_2 out hp; exact gogeom_GeometryCollection_Layout_b_sim ih a0_0 a0_1 a0_2 hp
theorem gogeom_GeometryCollection_Layout_sim {k : Nat}  (a0_0 : Int) (a0_1 : List G53) (a0_2 : Int) {out : Int} (hp : gogeom_GeometryCollection_Layout k a0_0 a0_1 a0_2 = some out) : Sx.Fn Try.prog 125 [(Pt (C14 a0_0 a0_1 a0_2))] [] (fun w : Unit => (Vi out)) (fun w => []) := gogeom_GeometryCollection_Layout_simA k a0_0 a0_1 a0_2 out hp

def gogeom_GeometryCollection_Push_j1 (k : Nat) (a1 : List G53) (a0_0 a0_2 : Int) : Option ((Int × (List G53) × Int) ⊕ (Int × Int × Int)) :=
 (apd 16 [] a1) >>= fun r41 =>
 some (.inl (a0_0, r41, a0_2))
def gogeom_GeometryCollection_Push_l1s (a1 : List G53) (a0_0 : Int) (k : Nat) (rec1 : Int → Option (Int ⊕ Unit)) (x1 : Int) : Option (Int ⊕ Unit) :=
 br (decide (x1 < (a1.length : Int)))
  ((idx a1 x1) >>= fun r17 =>
  match r17 with
   | .c0 r17_0a r17_0b r17_0c r17_0d =>
    ((gogeom_geom0_Layout k r17_0a r17_0b r17_0c r17_0d) >>= fun r20 =>
    br (!decide (r20 = a0_0))
     (some (.inl r20))
     (rec1 (iadd .i64 x1 1)))
   | .c1 r17_1a r17_1b r17_1c r17_1d =>
    ((gogeom_geom0_Layout k r17_1a r17_1b r17_1c r17_1d) >>= fun r20 =>
    br (!decide (r20 = a0_0))
     (some (.inl r20))
     (rec1 (iadd .i64 x1 1)))
   | .c2 r17_2a r17_2b r17_2c r17_2d =>
    ((gogeom_geom0_Layout k r17_2a r17_2b r17_2c r17_2d) >>= fun r20 =>
    br (!decide (r20 = a0_0))
     (some (.inl r20))
     (rec1 (iadd .i64 x1 1)))
   | .c3 r17_3a r17_3b r17_3c r17_3d r17_3e =>
    ((gogeom_geom0_Layout_v2 k r17_3a r17_3b r17_3c r17_3d r17_3e) >>= fun r20 =>
    br (!decide (r20 = a0_0))
     (some (.inl r20))
     (rec1 (iadd .i64 x1 1)))
   | .c4 r17_4a r17_4b r17_4c r17_4d r17_4e =>
    ((gogeom_geom0_Layout_v2 k r17_4a r17_4b r17_4c r17_4d r17_4e) >>= fun r20 =>
    br (!decide (r20 = a0_0))
     (some (.inl r20))
     (rec1 (iadd .i64 x1 1)))
   | .c5 r17_5a r17_5b r17_5c r17_5d r17_5e =>
    ((gogeom_geom0_Layout_v2 k r17_5a r17_5b r17_5c r17_5d r17_5e) >>= fun r20 =>
    br (!decide (r20 = a0_0))
     (some (.inl r20))
     (rec1 (iadd .i64 x1 1)))
   | .c6 r17_6a r17_6b r17_6c r17_6d r17_6e =>
    ((gogeom_geom0_Layout_v3 k r17_6a r17_6b r17_6c r17_6d r17_6e) >>= fun r20 =>
    br (!decide (r20 = a0_0))
     (some (.inl r20))
     (rec1 (iadd .i64 x1 1)))
   | .c7 r17_7a r17_7b r17_7c =>
    ((gogeom_GeometryCollection_Layout k r17_7a r17_7b r17_7c) >>= fun r20 =>
    br (!decide (r20 = a0_0))
     (some (.inl r20))
     (rec1 (iadd .i64 x1 1))))
  (some (.inr ()))
def gogeom_GeometryCollection_Push_l1 (a1 : List G53) (a0_0 : Int) : Nat → Int → Option (Int ⊕ Unit)
 | 0, _ => none
 | k + 1, v => gogeom_GeometryCollection_Push_l1s a1 a0_0 k (gogeom_GeometryCollection_Push_l1 a1 a0_0 k) v
def gogeom_GeometryCollection_Push (k : Nat) (a0_0 a0_2 : Int) (a1 : List G53) : Option ((Int × (List G53) × Int) ⊕ (Int × Int × Int)) :=
 br (!decide (a0_0 = 0))
  ((gogeom_GeometryCollection_Push_l1 a1 a0_0 k 0) >>= fun y1 => match y1 with
   | (.inl v2) =>
    (some (.inr (a0_0, a0_2, v2)))
   | (.inr v3) =>
    (gogeom_GeometryCollection_Push_j1 k a1 a0_0 a0_2))
  (gogeom_GeometryCollection_Push_j1 k a1 a0_0 a0_2)
def gogeom_GeometryCollection_Push_r (wa0 : Addr) (a0_0 a0_2 : Int) (a1 : List G53) (out : (Int × (List G53) × Int) ⊕ (Int × Int × Int)) (w : Gs) : SV := match out with
 | (.inl y) => Ve
 | (.inr y) => (If 134 (Ag (C19 y.2.2 y.1)))
def gogeom_GeometryCollection_Push_h (wa0 : Addr) (a0_0 a0_2 : Int) (a1 : List G53) (out : (Int × (List G53) × Int) ⊕ (Int × Int × Int)) (w : Gs) : List Res := match out with
 | (.inl y) => [(Ur wa0 114 (C4 y.1 w y.2.2)), (Rg KG53 53 w y.2.1)]
 | (.inr y) => [(Ur wa0 114 (C22 y.1 y.2.1))]

def gogeom_GeometryCollection_MustPush (k : Nat) (a0_0 a0_2 : Int) (a1 : List G53) : Option (Int × (List G53) × Int) :=
 (gogeom_GeometryCollection_Push k a0_0 a0_2 a1) >>= fun r8 =>
 match r8 with
  | (.inl y1) =>
   (some (y1.1, y1.2.1, y1.2.2))
  | (.inr y1) =>
   (none)

def gogeom_GeometryCollection_Push_v2_j1 (k : Nat) (a0_1 a1 : List G53) (a0_0 a0_2 : Int) : Option ((Int × (List G53) × Int) ⊕ (Int × (List G53) × Int × Int)) :=
 (apd 16 a0_1 a1) >>= fun r41 =>
 some (.inl (a0_0, r41, a0_2))
def gogeom_GeometryCollection_Push_v2_l1s (a1 : List G53) (a0_0 : Int) (k : Nat) (rec1 : Int → Option (Int ⊕ Unit)) (x1 : Int) : Option (Int ⊕ Unit) :=
 br (decide (x1 < (a1.length : Int)))
  ((idx a1 x1) >>= fun r17 =>
  match r17 with
   | .c0 r17_0a r17_0b r17_0c r17_0d =>
    ((gogeom_geom0_Layout k r17_0a r17_0b r17_0c r17_0d) >>= fun r20 =>
    br (!decide (r20 = a0_0))
     (some (.inl r20))
     (rec1 (iadd .i64 x1 1)))
   | .c1 r17_1a r17_1b r17_1c r17_1d =>
    ((gogeom_geom0_Layout k r17_1a r17_1b r17_1c r17_1d) >>= fun r20 =>
    br (!decide (r20 = a0_0))
     (some (.inl r20))
     (rec1 (iadd .i64 x1 1)))
   | .c2 r17_2a r17_2b r17_2c r17_2d =>
    ((gogeom_geom0_Layout k r17_2a r17_2b r17_2c r17_2d) >>= fun r20 =>
    br (!decide (r20 = a0_0))
     (some (.inl r20))
     (rec1 (iadd .i64 x1 1)))
   | .c3 r17_3a r17_3b r17_3c r17_3d r17_3e =>
    ((gogeom_geom0_Layout_v2 k r17_3a r17_3b r17_3c r17_3d r17_3e) >>= fun r20 =>
    br (!decide (r20 = a0_0))
     (some (.inl r20))
     (rec1 (iadd .i64 x1 1)))
   | .c4 r17_4a r17_4b r17_4c r17_4d r17_4e =>
    ((gogeom_geom0_Layout_v2 k r17_4a r17_4b r17_4c r17_4d r17_4e) >>= fun r20 =>
    br (!decide (r20 = a0_0))
     (some (.inl r20))
     (rec1 (iadd .i64 x1 1)))
   | .c5 r17_5a r17_5b r17_5c r17_5d r17_5e =>
    ((gogeom_geom0_Layout_v2 k r17_5a r17_5b r17_5c r17_5d r17_5e) >>= fun r20 =>
    br (!decide (r20 = a0_0))
     (some (.inl r20))
     (rec1 (iadd .i64 x1 1)))
   | .c6 r17_6a r17_6b r17_6c r17_6d r17_6e =>
    ((gogeom_geom0_Layout_v3 k r17_6a r17_6b r17_6c r17_6d r17_6e) >>= fun r20 =>
    br (!decide (r20 = a0_0))
     (some (.inl r20))
     (rec1 (iadd .i64 x1 1)))
   | .c7 r17_7a r17_7b r17_7c =>
    ((gogeom_GeometryCollection_Layout k r17_7a r17_7b r17_7c) >>= fun r20 =>
    br (!decide (r20 = a0_0))
     (some (.inl r20))
     (rec1 (iadd .i64 x1 1))))
  (some (.inr ()))
def gogeom_GeometryCollection_Push_v2_l1 (a1 : List G53) (a0_0 : Int) : Nat → Int → Option (Int ⊕ Unit)
 | 0, _ => none
 | k + 1, v => gogeom_GeometryCollection_Push_v2_l1s a1 a0_0 k (gogeom_GeometryCollection_Push_v2_l1 a1 a0_0 k) v
def gogeom_GeometryCollection_Push_v2 (k : Nat) (a0_0 : Int) (a0_1 : List G53) (a0_2 : Int) (a1 : List G53) : Option ((Int × (List G53) × Int) ⊕ (Int × (List G53) × Int × Int)) :=
 br (!decide (a0_0 = 0))
  ((gogeom_GeometryCollection_Push_v2_l1 a1 a0_0 k 0) >>= fun y1 => match y1 with
   | (.inl v2) =>
    (some (.inr (a0_0, a0_1, a0_2, v2)))
   | (.inr v3) =>
    (gogeom_GeometryCollection_Push_v2_j1 k a0_1 a1 a0_0 a0_2))
  (gogeom_GeometryCollection_Push_v2_j1 k a0_1 a1 a0_0 a0_2)
def gogeom_GeometryCollection_Push_v2_r (wa0 : Addr) (wa0_1 : Gs) (a0_0 : Int) (a0_1 : List G53) (a0_2 : Int) (a1 : List G53) (out : (Int × (List G53) × Int) ⊕ (Int × (List G53) × Int × Int)) (w : Gs) : SV := match out with
 | (.inl y) => Ve
 | (.inr y) => (If 134 (Ag (C19 y.2.2.2 y.1)))
def gogeom_GeometryCollection_Push_v2_h (wa0 : Addr) (wa0_1 : Gs) (a0_0 : Int) (a0_1 : List G53) (a0_2 : Int) (a1 : List G53) (out : (Int × (List G53) × Int) ⊕ (Int × (List G53) × Int × Int)) (w : Gs) : List Res := match out with
 | (.inl y) => [(Ur wa0 114 (C4 y.1 w y.2.2)), (Rg KG53 53 w y.2.1)]
 | (.inr y) => [(Ur wa0 114 (C4 y.1 wa0_1 y.2.2.1)), (Rg KG53 53 wa0_1 y.2.1)]

theorem gogeom_GeometryCollection_Push_v2_sim {k : Nat} {wa0 : Addr} {wa0_1 : Gs} (a0_0 : Int) (a0_1 : List G53) (a0_2 : Int) (a1 : List G53) {out : (Int × (List G53) × Int) ⊕ (Int × (List G53) × Int × Int)} (hp : gogeom_GeometryCollection_Push_v2 k a0_0 a0_1 a0_2 a1 = some out) : Sx.Fn Try.prog 46 [(Vp wa0), (Sl KG53 a1)] [(Ur wa0 114 (C4 a0_0 wa0_1 a0_2)), (Rg KG53 53 wa0_1 a0_1)] (fun w => gogeom_GeometryCollection_Push_v2_r wa0 wa0_1 a0_0 a0_1 a0_2 a1 out w) (fun w => gogeom_GeometryCollection_Push_v2_h wa0 wa0_1 a0_0 a0_1 a0_2 a1 out w) := by
 unfold gogeom_GeometryCollection_Push_v2 at hp
 refine fn_of Try.func46 rfl Try.ntmps46 rfl fun E hM => ?_
 refine cr fun K1 hK1 => ?_
 refine sa rfl ?_
 refine nk hK1 ?_
 refine cx_join' (fun (v4 : Unit) => (⟨44, [], [(0, (Vp wa0)), (1, (Sl KG53 a1))], [(Ur wa0 114 (C4 a0_0 wa0_1 a0_2)), (Rg KG53 53 wa0_1 a0_1)]⟩ : St)) (fun (v4 : Unit) => gogeom_GeometryCollection_Push_v2_j1 k a0_1 a1 a0_0 a0_2 = some out) ?_ ?_
 ·rintro ⟨⟩ hp
  replace hp : gogeom_GeometryCollection_Push_v2_j1 k a0_1 a1 a0_0 a0_2 = some out := hp
  unfold gogeom_GeometryCollection_Push_v2_j1 at hp
  refine cr fun K19 hK19 => ?_
  iterate 2 refine sm rfl ?_
  refine sn rfl ?_
  refine sg (off := 1) rfl Try.underlying114 rfl info112 rfl ?_
  refine sl (i := 0) (o := 1) rfl (ar rfl rfl rfl rfl) rfl flat112 ?_
  refine sm rfl ?_
  obtain ⟨r41, hr41, hp⟩ := bind_some hp
  refine so (ox_append' (K := KG53) (i := 1) (xs := a0_1) (ys := a1) rfl rfl rfl (sr_sl' rfl Try.underlying112) hr41 Try.underlying112 info53 rfl rfl rfl (H' := [(Ur wa0 114 (C4 a0_0 wa0_1 a0_2))]) rfl) fun g41 => ?_
  refine sn rfl ?_
  refine sg (off := 1) rfl Try.underlying114 rfl info112 rfl ?_
  refine so (ox_store' (i := 1) (o := 1) rfl rfl (lv_vl rfl rfl) (ar rfl rfl rfl rfl) rfl info112 rfl (H' := [(Rg KG53 53 g41 r41), (Ur wa0 114 (C4 a0_0 g41 a0_2))]) rfl) fun _ => ?_
  refine nk hK19 ?_
  refine cr fun K20 hK20 => ?_
  refine sa rfl ?_
  refine nk hK20 ?_
  refine cx_retc' ?_
  replace hp := sj hp
  subst hp
  refine tk (L' := [(4, Ve)]) (H' := [(Ur wa0 114 (C4 a0_0 g41 a0_2)), (Rg KG53 53 g41 r41)]) [1, 0] (uc rfl un) (p2 rfl rfl) ?_
  exact tx_ret1' Try.results46 rfl g41 (rv_tmp' rfl) lr
 intro K2 hK2
 refine cr fun K3 hK3 => ?_
 refine sm rfl ?_
 refine sn rfl ?_
 refine sf rfl Try.underlying114 rfl info61 rfl ?_
 refine sl (i := 0) (o := 0) rfl (ar rfl rfl rfl rfl) rfl flat61 ?_
 refine sb rfl rfl eg_int ru_neq ?_
 refine nk hK3 ?_
 refine cx_cond' rfl (fun h1 => ?_) (fun h1 => ?_)
 ·replace hp := (br_t h1).symm.trans hp
  refine cr fun K4 hK4 => ?_
  refine sm rfl ?_
  refine sk rfl Try.underlying112 ?_
  refine sm rfl ?_
  refine nk hK4 ?_
  refine cx_block' ?_
  obtain ⟨y1, hy1, hp⟩ := bind_some hp
  refine cx_loopg' (F := gogeom_GeometryCollection_Push_v2_l1 a1 a0_0) (G := fun k R v => gogeom_GeometryCollection_Push_v2_l1s a1 a0_0 k R v) (x := 0) (gh := ()) (fun (v1 : Int) (w1 : Unit) => (⟨44, [], [(0, (Vp wa0)), (1, (Sl KG53 a1)), (13, (Sl KG53 a1)), (14, (Vi (a1.length : Int))), (15, (Vi v1))], [(Ur wa0 114 (C4 a0_0 wa0_1 a0_2)), (Rg KG53 53 wa0_1 a0_1)]⟩ : St)) (fun (y : Int ⊕ Unit) => match y with | (.inl v2) => Zg E Exit.ret (fun (w2 : Unit) => (⟨44, [], [(4, (If 134 (Ag (C19 v2 a0_0))))], [(Ur wa0 114 (C4 a0_0 wa0_1 a0_2)), (Rg KG53 53 wa0_1 a0_1)]⟩ : St)) | (.inr v3) => Zg E (Exit.exit 0) (fun (w3 : Unit) => (⟨44, [], [(0, (Vp wa0)), (1, (Sl KG53 a1))], [(Ur wa0 114 (C4 a0_0 wa0_1 a0_2)), (Rg KG53 53 wa0_1 a0_1)]⟩ : St))) (fun _ => rfl) (fun _ _ => rfl) ?_ hy1 (tx_to' rfl [0, 1] (u5 rfl rfl rfl rfl rfl) (by decide) (p2 rfl rfl)) ?_
  ·clear hp hy1
   clear y1
   intro k rec1 KY1 ih1
   rintro x1 ⟨⟩ y1 hp
   replace hp : gogeom_GeometryCollection_Push_v2_l1s a1 a0_0 k rec1 x1 = some y1 := hp
   unfold gogeom_GeometryCollection_Push_v2_l1s at hp
   refine cr fun K12 hK12 => ?_
   refine sb rfl rfl eg_int ru_lss ?_
   refine nk hK12 ?_
   refine cx_seq' fun K13 hK13 => ?_
   refine cx_cond' rfl (fun h5 => ?_) (fun h5 => ?_)
   ·replace hp := (br_t h5).symm.trans hp
    refine cx_skip' ?_
    show TX E K13 _
    refine tx_k' hK13 ?_
    refine cx_seq' fun K14 hK14 => ?_
    refine cx_block' ?_
    refine cr fun K15 hK15 => ?_
    obtain ⟨r17, hr17, hp⟩ := bind_some hp
    refine s0 (rd_at' (K := KG53) rfl rfl hr17 Try.underlying112 info53) ?_
    refine s0 (rd_load_pt' rfl rfl flat53) ?_
    refine sa rfl ?_
    refine nk hK15 ?_
    refine cr fun K16 hK16 => ?_
    refine sm rfl ?_
    rcases r17 with ⟨r17_0a, r17_0b, r17_0c, r17_0d⟩ | ⟨r17_1a, r17_1b, r17_1c, r17_1d⟩ | ⟨r17_2a, r17_2b, r17_2c, r17_2d⟩ | ⟨r17_3a, r17_3b, r17_3c, r17_3d, r17_3e⟩ | ⟨r17_4a, r17_4b, r17_4c, r17_4d, r17_4e⟩ | ⟨r17_5a, r17_5b, r17_5c, r17_5d, r17_5e⟩ | ⟨r17_6a, r17_6b, r17_6c, r17_6d, r17_6e⟩ | ⟨r17_7a, r17_7b, r17_7c⟩
    ·dsimp only at hp
     refine tx_slot' 18 (y := (If 72 (Pt (C3 r17_0a r17_0b r17_0c r17_0d)))) rfl (imp_eq (SG53_c0 r17_0a r17_0b r17_0c r17_0d)) ?_
     refine tx_slot' 6 (y := (If 72 (Pt (C3 r17_0a r17_0b r17_0c r17_0d)))) rfl (imp_eq (SG53_c0 r17_0a r17_0b r17_0c r17_0d)) ?_
     refine tx_slot' 19 (y := (If 72 (Pt (C3 r17_0a r17_0b r17_0c r17_0d)))) rfl (imp_eq (SG53_c0 r17_0a r17_0b r17_0c r17_0d)) ?_
     obtain ⟨r20, hr20, hp⟩ := bind_some hp
     refine so (oz (ent_inv' rfl rfl (inv_pt0 inv72_Layout)) (gogeom_geom0_Layout_sim _ _ _ _ hr20)) fun ⟨⟩ => ?_
     refine sa rfl ?_
     refine nk hK16 ?_
     refine cr fun K17 hK17 => ?_
     iterate 2 refine sm rfl ?_
     refine sn rfl ?_
     refine sf rfl Try.underlying114 rfl info61 rfl ?_
     refine sl (i := 0) (o := 0) rfl (ar rfl rfl rfl rfl) rfl flat61 ?_
     refine sb rfl rfl eg_int ru_neq ?_
     refine nk hK17 ?_
     refine cx_cond' rfl (fun h6 => ?_) (fun h6 => ?_)
     ·replace hp := (br_t h6).symm.trans hp
      refine cr fun K18 hK18 => ?_
      iterate 2 refine sm rfl ?_
      refine sn rfl ?_
      refine sf rfl Try.underlying114 rfl info61 rfl ?_
      refine sl (i := 0) (o := 0) rfl (ar rfl rfl rfl rfl) rfl flat61 ?_
      refine sv (pls := [(0, 1), (1, 1)]) (qs := [(0, [(Vi r20)]), (1, [(Vi a0_0)])]) (r := (C19 r20 a0_0)) ⟨rfl, ⟨_, rfl, (lv_vl rfl rfl)⟩, ⟨rfl, ⟨_, rfl, (lv_vl rfl rfl)⟩, trivial⟩⟩ Try.underlying134 has134 places134 info134 rfl rfl rfl ?_
      refine s0 (rd_iface' rfl ⟨_, Try.underlying134, fun _ h => (nomatch h)⟩) ?_
      refine sa rfl ?_
      refine nk hK18 ?_
      refine cx_retc' ?_
      replace hp := sj hp
      subst hp
      show TX E (Zg E Exit.ret _ Exit.ret) _
      exact tx_zend' () rfl [0, 1] (uc rfl un) (by decide) (p2 rfl rfl)
     replace hp := (br_f h6).symm.trans hp
     refine cx_skip' ?_
     show TX E K14 _
     refine tx_k' hK14 ?_
     refine cx_region' ?_
     refine sb rfl rfl eg_int ru_add ?_
     refine sm rfl ?_
     refine sx_nil' ?_
     show TX E (KY1 _) _
     exact tk [0, 1] (u5 rfl rfl rfl rfl rfl) (p2 rfl rfl) (ih1 (iadd .i64 x1 1) () _ hp)
    ·dsimp only at hp
     refine tx_slot' 18 (y := (If 75 (Pt (C3 r17_1a r17_1b r17_1c r17_1d)))) rfl (imp_eq (SG53_c1 r17_1a r17_1b r17_1c r17_1d)) ?_
     refine tx_slot' 6 (y := (If 75 (Pt (C3 r17_1a r17_1b r17_1c r17_1d)))) rfl (imp_eq (SG53_c1 r17_1a r17_1b r17_1c r17_1d)) ?_
     refine tx_slot' 19 (y := (If 75 (Pt (C3 r17_1a r17_1b r17_1c r17_1d)))) rfl (imp_eq (SG53_c1 r17_1a r17_1b r17_1c r17_1d)) ?_
     obtain ⟨r20, hr20, hp⟩ := bind_some hp
     refine so (oz (ent_inv' rfl rfl (inv_pt0 inv75_Layout)) (gogeom_geom0_Layout_sim _ _ _ _ hr20)) fun ⟨⟩ => ?_
     refine sa rfl ?_
     refine nk hK16 ?_
     refine cr fun K17 hK17 => ?_
     iterate 2 refine sm rfl ?_
     refine sn rfl ?_
     refine sf rfl Try.underlying114 rfl info61 rfl ?_
     refine sl (i := 0) (o := 0) rfl (ar rfl rfl rfl rfl) rfl flat61 ?_
     refine sb rfl rfl eg_int ru_neq ?_
     refine nk hK17 ?_
     refine cx_cond' rfl (fun h6 => ?_) (fun h6 => ?_)
     ·replace hp := (br_t h6).symm.trans hp
      refine cr fun K18 hK18 => ?_
      iterate 2 refine sm rfl ?_
      refine sn rfl ?_
      refine sf rfl Try.underlying114 rfl info61 rfl ?_
      refine sl (i := 0) (o := 0) rfl (ar rfl rfl rfl rfl) rfl flat61 ?_
      refine sv (pls := [(0, 1), (1, 1)]) (qs := [(0, [(Vi r20)]), (1, [(Vi a0_0)])]) (r := (C19 r20 a0_0)) ⟨rfl, ⟨_, rfl, (lv_vl rfl rfl)⟩, ⟨rfl, ⟨_, rfl, (lv_vl rfl rfl)⟩, trivial⟩⟩ Try.underlying134 has134 places134 info134 rfl rfl rfl ?_
      refine s0 (rd_iface' rfl ⟨_, Try.underlying134, fun _ h => (nomatch h)⟩) ?_
      refine sa rfl ?_
      refine nk hK18 ?_
      refine cx_retc' ?_
      replace hp := sj hp
      subst hp
      show TX E (Zg E Exit.ret _ Exit.ret) _
      exact tx_zend' () rfl [0, 1] (uc rfl un) (by decide) (p2 rfl rfl)
     replace hp := (br_f h6).symm.trans hp
     refine cx_skip' ?_
     show TX E K14 _
     refine tx_k' hK14 ?_
     refine cx_region' ?_
     refine sb rfl rfl eg_int ru_add ?_
     refine sm rfl ?_
     refine sx_nil' ?_
     show TX E (KY1 _) _
     exact tk [0, 1] (u5 rfl rfl rfl rfl rfl) (p2 rfl rfl) (ih1 (iadd .i64 x1 1) () _ hp)
    ·dsimp only at hp
     refine tx_slot' 18 (y := (If 69 (Pt (C3 r17_2a r17_2b r17_2c r17_2d)))) rfl (imp_eq (SG53_c2 r17_2a r17_2b r17_2c r17_2d)) ?_
     refine tx_slot' 6 (y := (If 69 (Pt (C3 r17_2a r17_2b r17_2c r17_2d)))) rfl (imp_eq (SG53_c2 r17_2a r17_2b r17_2c r17_2d)) ?_
     refine tx_slot' 19 (y := (If 69 (Pt (C3 r17_2a r17_2b r17_2c r17_2d)))) rfl (imp_eq (SG53_c2 r17_2a r17_2b r17_2c r17_2d)) ?_
     obtain ⟨r20, hr20, hp⟩ := bind_some hp
     refine so (oz (ent_inv' rfl rfl (inv_pt0 inv69_Layout)) (gogeom_geom0_Layout_sim _ _ _ _ hr20)) fun ⟨⟩ => ?_
     refine sa rfl ?_
     refine nk hK16 ?_
     refine cr fun K17 hK17 => ?_
     iterate 2 refine sm rfl ?_
     refine sn rfl ?_
     refine sf rfl Try.underlying114 rfl info61 rfl ?_
     refine sl (i := 0) (o := 0) rfl (ar rfl rfl rfl rfl) rfl flat61 ?_
     refine sb rfl rfl eg_int ru_neq ?_
     refine nk hK17 ?_
     refine cx_cond' rfl (fun h6 => ?_) (fun h6 => ?_)
     ·replace hp := (br_t h6).symm.trans hp
      refine cr fun K18 hK18 => ?_
      iterate 2 refine sm rfl ?_
      refine sn rfl ?_
      refine sf rfl Try.underlying114 rfl info61 rfl ?_
      refine sl (i := 0) (o := 0) rfl (ar rfl rfl rfl rfl) rfl flat61 ?_
      refine sv (pls := [(0, 1), (1, 1)]) (qs := [(0, [(Vi r20)]), (1, [(Vi a0_0)])]) (r := (C19 r20 a0_0)) ⟨rfl, ⟨_, rfl, (lv_vl rfl rfl)⟩, ⟨rfl, ⟨_, rfl, (lv_vl rfl rfl)⟩, trivial⟩⟩ Try.underlying134 has134 places134 info134 rfl rfl rfl ?_
      refine s0 (rd_iface' rfl ⟨_, Try.underlying134, fun _ h => (nomatch h)⟩) ?_
      refine sa rfl ?_
      refine nk hK18 ?_
      refine cx_retc' ?_
      replace hp := sj hp
      subst hp
      show TX E (Zg E Exit.ret _ Exit.ret) _
      exact tx_zend' () rfl [0, 1] (uc rfl un) (by decide) (p2 rfl rfl)
     replace hp := (br_f h6).symm.trans hp
     refine cx_skip' ?_
     show TX E K14 _
     refine tx_k' hK14 ?_
     refine cx_region' ?_
     refine sb rfl rfl eg_int ru_add ?_
     refine sm rfl ?_
     refine sx_nil' ?_
     show TX E (KY1 _) _
     exact tk [0, 1] (u5 rfl rfl rfl rfl rfl) (p2 rfl rfl) (ih1 (iadd .i64 x1 1) () _ hp)
    ·dsimp only at hp
     refine tx_slot' 18 (y := (If 67 (Pt (C6 r17_3a r17_3b r17_3c r17_3d r17_3e)))) rfl (imp_eq (SG53_c3 r17_3a r17_3b r17_3c r17_3d r17_3e)) ?_
     refine tx_slot' 6 (y := (If 67 (Pt (C6 r17_3a r17_3b r17_3c r17_3d r17_3e)))) rfl (imp_eq (SG53_c3 r17_3a r17_3b r17_3c r17_3d r17_3e)) ?_
     refine tx_slot' 19 (y := (If 67 (Pt (C6 r17_3a r17_3b r17_3c r17_3d r17_3e)))) rfl (imp_eq (SG53_c3 r17_3a r17_3b r17_3c r17_3d r17_3e)) ?_
     obtain ⟨r20, hr20, hp⟩ := bind_some hp
     refine so (oz (ent_inv' rfl rfl (inv_pt0 inv67_Layout)) (gogeom_geom0_Layout_v2_sim _ _ _ _ _ hr20)) fun ⟨⟩ => ?_
     refine sa rfl ?_
     refine nk hK16 ?_
     refine cr fun K17 hK17 => ?_
     iterate 2 refine sm rfl ?_
     refine sn rfl ?_
     refine sf rfl Try.underlying114 rfl info61 rfl ?_
     refine sl (i := 0) (o := 0) rfl (ar rfl rfl rfl rfl) rfl flat61 ?_
     refine sb rfl rfl eg_int ru_neq ?_
     refine nk hK17 ?_
     refine cx_cond' rfl (fun h6 => ?_) (fun h6 => ?_)
     ·replace hp := (br_t h6).symm.trans hp
      refine cr fun K18 hK18 => ?_
      iterate 2 refine sm rfl ?_
      refine sn rfl ?_
      refine sf rfl Try.underlying114 rfl info61 rfl ?_
      refine sl (i := 0) (o := 0) rfl (ar rfl rfl rfl rfl) rfl flat61 ?_
      refine sv (pls := [(0, 1), (1, 1)]) (qs := [(0, [(Vi r20)]), (1, [(Vi a0_0)])]) (r := (C19 r20 a0_0)) ⟨rfl, ⟨_, rfl, (lv_vl rfl rfl)⟩, ⟨rfl, ⟨_, rfl, (lv_vl rfl rfl)⟩, trivial⟩⟩ Try.underlying134 has134 places134 info134 rfl rfl rfl ?_
      refine s0 (rd_iface' rfl ⟨_, Try.underlying134, fun _ h => (nomatch h)⟩) ?_
      refine sa rfl ?_
      refine nk hK18 ?_
      refine cx_retc' ?_
      replace hp := sj hp
      subst hp
      show TX E (Zg E Exit.ret _ Exit.ret) _
      exact tx_zend' () rfl [0, 1] (uc rfl un) (by decide) (p2 rfl rfl)
     replace hp := (br_f h6).symm.trans hp
     refine cx_skip' ?_
     show TX E K14 _
     refine tx_k' hK14 ?_
     refine cx_region' ?_
     refine sb rfl rfl eg_int ru_add ?_
     refine sm rfl ?_
     refine sx_nil' ?_
     show TX E (KY1 _) _
     exact tk [0, 1] (u5 rfl rfl rfl rfl rfl) (p2 rfl rfl) (ih1 (iadd .i64 x1 1) () _ hp)
    ·dsimp only at hp
     refine tx_slot' 18 (y := (If 70 (Pt (C6 r17_4a r17_4b r17_4c r17_4d r17_4e)))) rfl (imp_eq (SG53_c4 r17_4a r17_4b r17_4c r17_4d r17_4e)) ?_
     refine tx_slot' 6 (y := (If 70 (Pt (C6 r17_4a r17_4b r17_4c r17_4d r17_4e)))) rfl (imp_eq (SG53_c4 r17_4a r17_4b r17_4c r17_4d r17_4e)) ?_
     refine tx_slot' 19 (y := (If 70 (Pt (C6 r17_4a r17_4b r17_4c r17_4d r17_4e)))) rfl (imp_eq (SG53_c4 r17_4a r17_4b r17_4c r17_4d r17_4e)) ?_
     obtain ⟨r20, hr20, hp⟩ := bind_some hp
     refine so (oz (ent_inv' rfl rfl (inv_pt0 inv70_Layout)) (gogeom_geom0_Layout_v2_sim _ _ _ _ _ hr20)) fun ⟨⟩ => ?_
     refine sa rfl ?_
     refine nk hK16 ?_
     refine cr fun K17 hK17 => ?_
     iterate 2 refine sm rfl ?_
     refine sn rfl ?_
     refine sf rfl Try.underlying114 rfl info61 rfl ?_
     refine sl (i := 0) (o := 0) rfl (ar rfl rfl rfl rfl) rfl flat61 ?_
     refine sb rfl rfl eg_int ru_neq ?_
     refine nk hK17 ?_
     refine cx_cond' rfl (fun h6 => ?_) (fun h6 => ?_)
     ·replace hp := (br_t h6).symm.trans hp
      refine cr fun K18 hK18 => ?_
      iterate 2 refine sm rfl ?_
      refine sn rfl ?_
      refine sf rfl Try.underlying114 rfl info61 rfl ?_
      refine sl (i := 0) (o := 0) rfl (ar rfl rfl rfl rfl) rfl flat61 ?_
      refine sv (pls := [(0, 1), (1, 1)]) (qs := [(0, [(Vi r20)]), (1, [(Vi a0_0)])]) (r := (C19 r20 a0_0)) ⟨rfl, ⟨_, rfl, (lv_vl rfl rfl)⟩, ⟨rfl, ⟨_, rfl, (lv_vl rfl rfl)⟩, trivial⟩⟩ Try.underlying134 has134 places134 info134 rfl rfl rfl ?_
      refine s0 (rd_iface' rfl ⟨_, Try.underlying134, fun _ h => (nomatch h)⟩) ?_
      refine sa rfl ?_
      refine nk hK18 ?_
      refine cx_retc' ?_
      replace hp := sj hp
      subst hp
      show TX E (Zg E Exit.ret _ Exit.ret) _
      exact tx_zend' () rfl [0, 1] (uc rfl un) (by decide) (p2 rfl rfl)
     replace hp := (br_f h6).symm.trans hp
     refine cx_skip' ?_
     show TX E K14 _
     refine tx_k' hK14 ?_
     refine cx_region' ?_
     refine sb rfl rfl eg_int ru_add ?_
     refine sm rfl ?_
     refine sx_nil' ?_
     show TX E (KY1 _) _
     exact tk [0, 1] (u5 rfl rfl rfl rfl rfl) (p2 rfl rfl) (ih1 (iadd .i64 x1 1) () _ hp)
    ·dsimp only at hp
     refine tx_slot' 18 (y := (If 73 (Pt (C6 r17_5a r17_5b r17_5c r17_5d r17_5e)))) rfl (imp_eq (SG53_c5 r17_5a r17_5b r17_5c r17_5d r17_5e)) ?_
     refine tx_slot' 6 (y := (If 73 (Pt (C6 r17_5a r17_5b r17_5c r17_5d r17_5e)))) rfl (imp_eq (SG53_c5 r17_5a r17_5b r17_5c r17_5d r17_5e)) ?_
     refine tx_slot' 19 (y := (If 73 (Pt (C6 r17_5a r17_5b r17_5c r17_5d r17_5e)))) rfl (imp_eq (SG53_c5 r17_5a r17_5b r17_5c r17_5d r17_5e)) ?_
     obtain ⟨r20, hr20, hp⟩ := bind_some hp
     refine so (oz (ent_inv' rfl rfl (inv_pt0 inv73_Layout)) (gogeom_geom0_Layout_v2_sim _ _ _ _ _ hr20)) fun ⟨⟩ => ?_
     refine sa rfl ?_
     refine nk hK16 ?_
     refine cr fun K17 hK17 => ?_
     iterate 2 refine sm rfl ?_
     refine sn rfl ?_
     refine sf rfl Try.underlying114 rfl info61 rfl ?_
     refine sl (i := 0) (o := 0) rfl (ar rfl rfl rfl rfl) rfl flat61 ?_
     refine sb rfl rfl eg_int ru_neq ?_
     refine nk hK17 ?_
     refine cx_cond' rfl (fun h6 => ?_) (fun h6 => ?_)
     ·replace hp := (br_t h6).symm.trans hp
      refine cr fun K18 hK18 => ?_
      iterate 2 refine sm rfl ?_
      refine sn rfl ?_
      refine sf rfl Try.underlying114 rfl info61 rfl ?_
      refine sl (i := 0) (o := 0) rfl (ar rfl rfl rfl rfl) rfl flat61 ?_
      refine sv (pls := [(0, 1), (1, 1)]) (qs := [(0, [(Vi r20)]), (1, [(Vi a0_0)])]) (r := (C19 r20 a0_0)) ⟨rfl, ⟨_, rfl, (lv_vl rfl rfl)⟩, ⟨rfl, ⟨_, rfl, (lv_vl rfl rfl)⟩, trivial⟩⟩ Try.underlying134 has134 places134 info134 rfl rfl rfl ?_
      refine s0 (rd_iface' rfl ⟨_, Try.underlying134, fun _ h => (nomatch h)⟩) ?_
      refine sa rfl ?_
      refine nk hK18 ?_
      refine cx_retc' ?_
      replace hp := sj hp
      subst hp
      show TX E (Zg E Exit.ret _ Exit.ret) _
      exact tx_zend' () rfl [0, 1] (uc rfl un) (by decide) (p2 rfl rfl)
     replace hp := (br_f h6).symm.trans hp
     refine cx_skip' ?_
     show TX E K14 _
     refine tx_k' hK14 ?_
     refine cx_region' ?_
     refine sb rfl rfl eg_int ru_add ?_
     refine sm rfl ?_
     refine sx_nil' ?_
     show TX E (KY1 _) _
     exact tk [0, 1] (u5 rfl rfl rfl rfl rfl) (p2 rfl rfl) (ih1 (iadd .i64 x1 1) () _ hp)
    ·dsimp only at hp
     refine tx_slot' 18 (y := (If 76 (Pt (C11 r17_6a r17_6b r17_6c r17_6d r17_6e)))) rfl (imp_eq (SG53_c6 r17_6a r17_6b r17_6c r17_6d r17_6e)) ?_
     refine tx_slot' 6 (y := (If 76 (Pt (C11 r17_6a r17_6b r17_6c r17_6d r17_6e)))) rfl (imp_eq (SG53_c6 r17_6a r17_6b r17_6c r17_6d r17_6e)) ?_
     refine tx_slot' 19 (y := (If 76 (Pt (C11 r17_6a r17_6b r17_6c r17_6d r17_6e)))) rfl (imp_eq (SG53_c6 r17_6a r17_6b r17_6c r17_6d r17_6e)) ?_
     obtain ⟨r20, hr20, hp⟩ := bind_some hp
     refine so (oz (ent_inv' rfl rfl (inv_pt0 inv76_Layout)) (gogeom_geom0_Layout_v3_sim _ _ _ _ _ hr20)) fun ⟨⟩ => ?_
     refine sa rfl ?_
     refine nk hK16 ?_
     refine cr fun K17 hK17 => ?_
     iterate 2 refine sm rfl ?_
     refine sn rfl ?_
     refine sf rfl Try.underlying114 rfl info61 rfl ?_
     refine sl (i := 0) (o := 0) rfl (ar rfl rfl rfl rfl) rfl flat61 ?_
     refine sb rfl rfl eg_int ru_neq ?_
     refine nk hK17 ?_
     refine cx_cond' rfl (fun h6 => ?_) (fun h6 => ?_)
     ·replace hp := (br_t h6).symm.trans hp
      refine cr fun K18 hK18 => ?_
      iterate 2 refine sm rfl ?_
      refine sn rfl ?_
      refine sf rfl Try.underlying114 rfl info61 rfl ?_
      refine sl (i := 0) (o := 0) rfl (ar rfl rfl rfl rfl) rfl flat61 ?_
      refine sv (pls := [(0, 1), (1, 1)]) (qs := [(0, [(Vi r20)]), (1, [(Vi a0_0)])]) (r := (C19 r20 a0_0)) ⟨rfl, ⟨_, rfl, (lv_vl rfl rfl)⟩, ⟨rfl, ⟨_, rfl, (lv_vl rfl rfl)⟩, trivial⟩⟩ Try.underlying134 has134 places134 info134 rfl rfl rfl ?_
      refine s0 (rd_iface' rfl ⟨_, Try.underlying134, fun _ h => (nomatch h)⟩) ?_
      refine sa rfl ?_
      refine nk hK18 ?_
      refine cx_retc' ?_
      replace hp := sj hp
      subst hp
      show TX E (Zg E Exit.ret _ Exit.ret) _
      exact tx_zend' () rfl [0, 1] (uc rfl un) (by decide) (p2 rfl rfl)
     replace hp := (br_f h6).symm.trans hp
     refine cx_skip' ?_
     show TX E K14 _
     refine tx_k' hK14 ?_
     refine cx_region' ?_
     refine sb rfl rfl eg_int ru_add ?_
     refine sm rfl ?_
     refine sx_nil' ?_
     show TX E (KY1 _) _
     exact tk [0, 1] (u5 rfl rfl rfl rfl rfl) (p2 rfl rfl) (ih1 (iadd .i64 x1 1) () _ hp)
    dsimp only at hp
    refine tx_slot' 18 (y := (If 57 (Pt (C14 r17_7a r17_7b r17_7c)))) rfl (imp_eq (SG53_c7 r17_7a r17_7b r17_7c)) ?_
    refine tx_slot' 6 (y := (If 57 (Pt (C14 r17_7a r17_7b r17_7c)))) rfl (imp_eq (SG53_c7 r17_7a r17_7b r17_7c)) ?_
    refine tx_slot' 19 (y := (If 57 (Pt (C14 r17_7a r17_7b r17_7c)))) rfl (imp_eq (SG53_c7 r17_7a r17_7b r17_7c)) ?_
    obtain ⟨r20, hr20, hp⟩ := bind_some hp
    refine so (oz (ent_inv' rfl rfl (inv_any0 inv57_Layout)) (gogeom_GeometryCollection_Layout_sim _ _ _ hr20)) fun ⟨⟩ => ?_
    refine sa rfl ?_
    refine nk hK16 ?_
    refine cr fun K17 hK17 => ?_
    iterate 2 refine sm rfl ?_
    refine sn rfl ?_
    refine sf rfl Try.underlying114 rfl info61 rfl ?_
    refine sl (i := 0) (o := 0) rfl (ar rfl rfl rfl rfl) rfl flat61 ?_
    refine sb rfl rfl eg_int ru_neq ?_
    refine nk hK17 ?_
    refine cx_cond' rfl (fun h6 => ?_) (fun h6 => ?_)
    ·replace hp := (br_t h6).symm.trans hp
     refine cr fun K18 hK18 => ?_
     iterate 2 refine sm rfl ?_
     refine sn rfl ?_
     refine sf rfl Try.underlying114 rfl info61 rfl ?_
     refine sl (i := 0) (o := 0) rfl (ar rfl rfl rfl rfl) rfl flat61 ?_
     refine sv (pls := [(0, 1), (1, 1)]) (qs := [(0, [(Vi r20)]), (1, [(Vi a0_0)])]) (r := (C19 r20 a0_0)) ⟨rfl, ⟨_, rfl, (lv_vl rfl rfl)⟩, ⟨rfl, ⟨_, rfl, (lv_vl rfl rfl)⟩, trivial⟩⟩ Try.underlying134 has134 places134 info134 rfl rfl rfl ?_
     refine s0 (rd_iface' rfl ⟨_, Try.underlying134, fun _ h => (nomatch h)⟩) ?_
     refine sa rfl ?_
     refine nk hK18 ?_
     refine cx_retc' ?_
     replace hp := sj hp
     subst hp
     show TX E (Zg E Exit.ret _ Exit.ret) _
     exact tx_zend' () rfl [0, 1] (uc rfl un) (by decide) (p2 rfl rfl)
    replace hp := (br_f h6).symm.trans hp
    refine cx_skip' ?_
    show TX E K14 _
    refine tx_k' hK14 ?_
    refine cx_region' ?_
    refine sb rfl rfl eg_int ru_add ?_
    refine sm rfl ?_
    refine sx_nil' ?_
    show TX E (KY1 _) _
    exact tk [0, 1] (u5 rfl rfl rfl rfl rfl) (p2 rfl rfl) (ih1 (iadd .i64 x1 1) () _ hp)
   replace hp := (br_f h5).symm.trans hp
   refine cx_exit' ?_
   replace hp := sj hp
   subst hp
   show TX E (Zg E (Exit.exit 0) _ (Exit.exit 0)) _
   exact tx_zend' () rfl [0, 1] (u2 rfl rfl) (by decide) (p2 rfl rfl)
  rcases y1 with v2 | v3
  ·dsimp only at hp
   refine zg_out fun w2 => ?_
   replace hp := sj hp
   subst hp
   refine tk (L' := [(4, (If 134 (Ag (C19 v2 a0_0))))]) (H' := [(Ur wa0 114 (C4 a0_0 wa0_1 a0_2)), (Rg KG53 53 wa0_1 a0_1)]) [0, 1] (uc rfl un) (p2 rfl rfl) ?_
   exact tx_ret1' Try.results46 rfl (none, 0, 0) (rv_tmp' rfl) lr
  dsimp only at hp
  refine zg_out fun w3 => ?_
  show TX E K2 _
  exact tk [0, 1] (u2 rfl rfl) (p2 rfl rfl) (hK2 () hp)
 replace hp := (br_f h1).symm.trans hp
 refine cx_skip' ?_
 show TX E K2 _
 exact tk [0, 1] (u2 rfl rfl) (p2 rfl rfl) (hK2 () hp)

def gogeom_GeometryCollection_MustPush_v2 (k : Nat) (a0_0 : Int) (a0_1 : List G53) (a0_2 : Int) (a1 : List G53) : Option (Int × (List G53) × Int) :=
 (gogeom_GeometryCollection_Push_v2 k a0_0 a0_1 a0_2 a1) >>= fun r8 =>
 match r8 with
  | (.inl y1) =>
   (some (y1.1, y1.2.1, y1.2.2))
  | (.inr y1) =>
   (none)

theorem gogeom_GeometryCollection_MustPush_v2_sim {k : Nat} {wa0 : Addr} {wa0_1 : Gs} (a0_0 : Int) (a0_1 : List G53) (a0_2 : Int) (a1 : List G53) {out : Int × (List G53) × Int} (hp : gogeom_GeometryCollection_MustPush_v2 k a0_0 a0_1 a0_2 a1 = some out) : Sx.Fn Try.prog 77 [(Vp wa0), (Sl KG53 a1)] [(Ur wa0 114 (C4 a0_0 wa0_1 a0_2)), (Rg KG53 53 wa0_1 a0_1)] (fun w : Gs => (Vp wa0)) (fun w => [(Ur wa0 114 (C4 out.1 w out.2.2)), (Rg KG53 53 w out.2.1)]) := by
 unfold gogeom_GeometryCollection_MustPush_v2 at hp
 refine fn_of Try.func77 rfl Try.ntmps77 rfl fun E hM => ?_
 refine cr fun K1 hK1 => ?_
 refine sa rfl ?_
 refine nk hK1 ?_
 refine cx_seq' fun K2 hK2 => ?_
 refine cr fun K3 hK3 => ?_
 iterate 2 refine sm rfl ?_
 obtain ⟨r8, hr8, hp⟩ := bind_some hp
 rcases r8 with y1 | y1
 ·dsimp only at hp
  refine so (ox_callg' (ent_fn' Try.func46 isn46 rfl rfl) (gogeom_GeometryCollection_Push_v2_sim _ _ _ _ hr8 : Sx.Fn Try.prog 46 [(Vp wa0), (Sl KG53 a1)] [(Ur wa0 114 (C4 a0_0 wa0_1 a0_2)), (Rg KG53 53 wa0_1 a0_1)] (fun x : Gs => Ve) (fun x => [(Ur wa0 114 (C4 y1.1 x y1.2.2)), (Rg KG53 53 x y1.2.1)])) [0, 1] [] (by decide) (p2 rfl rfl) pn (Hn := fun x : Gs => [(Ur wa0 114 (C4 y1.1 x y1.2.2)), (Rg KG53 53 x y1.2.1)]) (fun _ => rfl) rfl rfl) fun g8 => ?_
  refine sa rfl ?_
  refine nk hK3 ?_
  refine cr fun K4 hK4 => ?_
  refine sm rfl ?_
  refine s0 (rd_binf' rfl rfl (bf_vl (fun _ => by kernel_rfl) nil_neq59_nilif)) ?_
  refine nk hK4 ?_
  refine cx_cond_f' rfl rfl ?_
  refine cx_skip' ?_
  show TX E K2 _
  refine tx_k' hK2 ?_
  refine cr fun K5 hK5 => ?_
  refine sm rfl ?_
  refine sa rfl ?_
  refine nk hK5 ?_
  refine cx_retc' ?_
  replace hp := sj hp
  subst hp
  refine tk (L' := [(4, (Vp wa0))]) (H' := [(Ur wa0 114 (C4 y1.1 g8 y1.2.2)), (Rg KG53 53 g8 y1.2.1)]) [0, 1] (uc rfl un) (p2 rfl rfl) ?_
  exact tx_ret1' Try.results77 rfl g8 (rv_tmp' rfl) lr
 dsimp only at hp
 cases hp

def gogeom_GeometryCollection_CheckLayout_v2_j1 (k : Nat) (a0_0 : Int) (a0_1 : List G53) (a0_2 : Int) : Option ((Int × (List G53) × Int) ⊕ (Int × (List G53) × Int × Int × Int)) :=
 some (.inl (a0_0, a0_1, a0_2))
def gogeom_GeometryCollection_CheckLayout_v2_l1s (a0_1 : List G53) (a1 : Int) (k : Nat) (rec1 : Int → Option (Int ⊕ Unit)) (x1 : Int) : Option (Int ⊕ Unit) :=
 br (decide (x1 < (a0_1.length : Int)))
  ((idx a0_1 x1) >>= fun r17 =>
  match r17 with
   | .c0 r17_0a r17_0b r17_0c r17_0d =>
    ((gogeom_geom0_Layout k r17_0a r17_0b r17_0c r17_0d) >>= fun r20 =>
    br (!decide (r20 = a1))
     (some (.inl r20))
     (rec1 (iadd .i64 x1 1)))
   | .c1 r17_1a r17_1b r17_1c r17_1d =>
    ((gogeom_geom0_Layout k r17_1a r17_1b r17_1c r17_1d) >>= fun r20 =>
    br (!decide (r20 = a1))
     (some (.inl r20))
     (rec1 (iadd .i64 x1 1)))
   | .c2 r17_2a r17_2b r17_2c r17_2d =>
    ((gogeom_geom0_Layout k r17_2a r17_2b r17_2c r17_2d) >>= fun r20 =>
    br (!decide (r20 = a1))
     (some (.inl r20))
     (rec1 (iadd .i64 x1 1)))
   | .c3 r17_3a r17_3b r17_3c r17_3d r17_3e =>
    ((gogeom_geom0_Layout_v2 k r17_3a r17_3b r17_3c r17_3d r17_3e) >>= fun r20 =>
    br (!decide (r20 = a1))
     (some (.inl r20))
     (rec1 (iadd .i64 x1 1)))
   | .c4 r17_4a r17_4b r17_4c r17_4d r17_4e =>
    ((gogeom_geom0_Layout_v2 k r17_4a r17_4b r17_4c r17_4d r17_4e) >>= fun r20 =>
    br (!decide (r20 = a1))
     (some (.inl r20))
     (rec1 (iadd .i64 x1 1)))
   | .c5 r17_5a r17_5b r17_5c r17_5d r17_5e =>
    ((gogeom_geom0_Layout_v2 k r17_5a r17_5b r17_5c r17_5d r17_5e) >>= fun r20 =>
    br (!decide (r20 = a1))
     (some (.inl r20))
     (rec1 (iadd .i64 x1 1)))
   | .c6 r17_6a r17_6b r17_6c r17_6d r17_6e =>
    ((gogeom_geom0_Layout_v3 k r17_6a r17_6b r17_6c r17_6d r17_6e) >>= fun r20 =>
    br (!decide (r20 = a1))
     (some (.inl r20))
     (rec1 (iadd .i64 x1 1)))
   | .c7 r17_7a r17_7b r17_7c =>
    ((gogeom_GeometryCollection_Layout k r17_7a r17_7b r17_7c) >>= fun r20 =>
    br (!decide (r20 = a1))
     (some (.inl r20))
     (rec1 (iadd .i64 x1 1))))
  (some (.inr ()))
def gogeom_GeometryCollection_CheckLayout_v2_l1 (a0_1 : List G53) (a1 : Int) : Nat → Int → Option (Int ⊕ Unit)
 | 0, _ => none
 | k + 1, v => gogeom_GeometryCollection_CheckLayout_v2_l1s a0_1 a1 k (gogeom_GeometryCollection_CheckLayout_v2_l1 a0_1 a1 k) v
def gogeom_GeometryCollection_CheckLayout_v2 (k : Nat) (a0_0 : Int) (a0_1 : List G53) (a0_2 a1 : Int) : Option ((Int × (List G53) × Int) ⊕ (Int × (List G53) × Int × Int × Int)) :=
 br (!decide (a1 = 0))
  ((gogeom_GeometryCollection_CheckLayout_v2_l1 a0_1 a1 k 0) >>= fun y1 => match y1 with
   | (.inl v2) =>
    (some (.inr (a0_0, a0_1, a0_2, a1, v2)))
   | (.inr v3) =>
    (gogeom_GeometryCollection_CheckLayout_v2_j1 k a0_0 a0_1 a0_2))
  (gogeom_GeometryCollection_CheckLayout_v2_j1 k a0_0 a0_1 a0_2)
def gogeom_GeometryCollection_CheckLayout_v2_r (wa0 : Addr) (wa0_1 : Gs) (a0_0 : Int) (a0_1 : List G53) (a0_2 a1 : Int) (out : (Int × (List G53) × Int) ⊕ (Int × (List G53) × Int × Int × Int)) (w : Unit) : SV := match out with
 | (.inl y) => Ve
 | (.inr y) => (If 134 (Ag (C19 y.2.2.2.1 y.2.2.2.2)))
def gogeom_GeometryCollection_CheckLayout_v2_h (wa0 : Addr) (wa0_1 : Gs) (a0_0 : Int) (a0_1 : List G53) (a0_2 a1 : Int) (out : (Int × (List G53) × Int) ⊕ (Int × (List G53) × Int × Int × Int)) (w : Unit) : List Res := match out with
 | (.inl y) => [(Ur wa0 114 (C4 y.1 wa0_1 y.2.2)), (Rg KG53 53 wa0_1 y.2.1)]
 | (.inr y) => [(Ur wa0 114 (C4 y.1 wa0_1 y.2.2.1)), (Rg KG53 53 wa0_1 y.2.1)]

theorem gogeom_GeometryCollection_CheckLayout_v2_sim {k : Nat} {wa0 : Addr} {wa0_1 : Gs} (a0_0 : Int) (a0_1 : List G53) (a0_2 a1 : Int) {out : (Int × (List G53) × Int) ⊕ (Int × (List G53) × Int × Int × Int)} (hp : gogeom_GeometryCollection_CheckLayout_v2 k a0_0 a0_1 a0_2 a1 = some out) : Sx.Fn Try.prog 79 [(Vp wa0), (Vi a1)] [(Ur wa0 114 (C4 a0_0 wa0_1 a0_2)), (Rg KG53 53 wa0_1 a0_1)] (fun w => gogeom_GeometryCollection_CheckLayout_v2_r wa0 wa0_1 a0_0 a0_1 a0_2 a1 out w) (fun w => gogeom_GeometryCollection_CheckLayout_v2_h wa0 wa0_1 a0_0 a0_1 a0_2 a1 out w) := by
 unfold gogeom_GeometryCollection_CheckLayout_v2 at hp
 refine fn_of Try.func79 rfl Try.ntmps79 rfl fun E hM => ?_
 refine cr fun K1 hK1 => ?_
 refine sa rfl ?_
 refine nk hK1 ?_
 refine cx_join' (fun (v4 : Unit) => (⟨29, [], [], [(Ur wa0 114 (C4 a0_0 wa0_1 a0_2)), (Rg KG53 53 wa0_1 a0_1)]⟩ : St)) (fun (v4 : Unit) => gogeom_GeometryCollection_CheckLayout_v2_j1 k a0_0 a0_1 a0_2 = some out) ?_ ?_
 ·rintro ⟨⟩ hp
  replace hp : gogeom_GeometryCollection_CheckLayout_v2_j1 k a0_0 a0_1 a0_2 = some out := hp
  unfold gogeom_GeometryCollection_CheckLayout_v2_j1 at hp
  refine cr fun K19 hK19 => ?_
  refine sa rfl ?_
  refine nk hK19 ?_
  refine cx_retc' ?_
  replace hp := sj hp
  subst hp
  refine tk (L' := [(4, Ve)]) (H' := [(Ur wa0 114 (C4 a0_0 wa0_1 a0_2)), (Rg KG53 53 wa0_1 a0_1)]) [0, 1] (uc rfl un) (p2 rfl rfl) ?_
  exact tx_ret1' Try.results79 rfl () (rv_tmp' rfl) lr
 intro K2 hK2
 refine cr fun K3 hK3 => ?_
 refine sm rfl ?_
 refine sb rfl rfl eg_int ru_neq ?_
 refine nk hK3 ?_
 refine cx_cond' rfl (fun h1 => ?_) (fun h1 => ?_)
 ·replace hp := (br_t h1).symm.trans hp
  refine cr fun K4 hK4 => ?_
  refine sm rfl ?_
  refine sn rfl ?_
  refine sg (off := 1) rfl Try.underlying114 rfl info112 rfl ?_
  refine sl (i := 0) (o := 1) rfl (ar rfl rfl rfl rfl) rfl flat112 ?_
  refine s0 (rd_lenr' (i := 1) rfl rfl rfl Try.underlying112) ?_
  refine sm rfl ?_
  refine nk hK4 ?_
  refine cx_block' ?_
  obtain ⟨y1, hy1, hp⟩ := bind_some hp
  refine cx_loopg' (F := gogeom_GeometryCollection_CheckLayout_v2_l1 a0_1 a1) (G := fun k R v => gogeom_GeometryCollection_CheckLayout_v2_l1s a0_1 a1 k R v) (x := 0) (gh := ()) (fun (v1 : Int) (w1 : Unit) => (⟨29, [], [(1, (Vi a1)), (13, (Vw wa0_1)), (14, (Vi (a0_1.length : Int))), (15, (Vi v1))], [(Rg KG53 53 wa0_1 a0_1), (Ur wa0 114 (C4 a0_0 wa0_1 a0_2))]⟩ : St)) (fun (y : Int ⊕ Unit) => match y with | (.inl v2) => Zg E Exit.ret (fun (w2 : Unit) => (⟨29, [], [(4, (If 134 (Ag (C19 a1 v2))))], [(Ur wa0 114 (C4 a0_0 wa0_1 a0_2)), (Rg KG53 53 wa0_1 a0_1)]⟩ : St)) | (.inr v3) => Zg E (Exit.exit 0) (fun (w3 : Unit) => (⟨29, [], [], [(Ur wa0 114 (C4 a0_0 wa0_1 a0_2)), (Rg KG53 53 wa0_1 a0_1)]⟩ : St))) (fun _ => rfl) (fun _ _ => rfl) ?_ hy1 (tx_to' rfl [1, 0] (u4 rfl rfl rfl rfl) (by decide) (p2 rfl rfl)) ?_
  ·clear hp hy1
   clear y1
   intro k rec1 KY1 ih1
   rintro x1 ⟨⟩ y1 hp
   replace hp : gogeom_GeometryCollection_CheckLayout_v2_l1s a0_1 a1 k rec1 x1 = some y1 := hp
   unfold gogeom_GeometryCollection_CheckLayout_v2_l1s at hp
   refine cr fun K12 hK12 => ?_
   refine sb rfl rfl eg_int ru_lss ?_
   refine nk hK12 ?_
   refine cx_seq' fun K13 hK13 => ?_
   refine cx_cond' rfl (fun h5 => ?_) (fun h5 => ?_)
   ·replace hp := (br_t h5).symm.trans hp
    refine cx_skip' ?_
    show TX E K13 _
    refine tx_k' hK13 ?_
    refine cx_seq' fun K14 hK14 => ?_
    refine cx_block' ?_
    refine cr fun K15 hK15 => ?_
    obtain ⟨r17, hr17, hp⟩ := bind_some hp
    refine s0 (rd_atr' (m := 0) rfl rfl rfl rfl hr17 Try.underlying112 info53) ?_
    refine s0 (rd_loadr' rfl (m := 0) (i := x1) (j := 0) rfl rfl hr17 rfl rfl flat53) ?_
    refine sa rfl ?_
    refine nk hK15 ?_
    refine cr fun K16 hK16 => ?_
    refine sm rfl ?_
    rcases r17 with ⟨r17_0a, r17_0b, r17_0c, r17_0d⟩ | ⟨r17_1a, r17_1b, r17_1c, r17_1d⟩ | ⟨r17_2a, r17_2b, r17_2c, r17_2d⟩ | ⟨r17_3a, r17_3b, r17_3c, r17_3d, r17_3e⟩ | ⟨r17_4a, r17_4b, r17_4c, r17_4d, r17_4e⟩ | ⟨r17_5a, r17_5b, r17_5c, r17_5d, r17_5e⟩ | ⟨r17_6a, r17_6b, r17_6c, r17_6d, r17_6e⟩ | ⟨r17_7a, r17_7b, r17_7c⟩
    ·dsimp only at hp
     refine tx_slot' 18 (y := (If 72 (Pt (C3 r17_0a r17_0b r17_0c r17_0d)))) rfl (imp_eq (SG53_c0 r17_0a r17_0b r17_0c r17_0d)) ?_
     refine tx_slot' 6 (y := (If 72 (Pt (C3 r17_0a r17_0b r17_0c r17_0d)))) rfl (imp_eq (SG53_c0 r17_0a r17_0b r17_0c r17_0d)) ?_
     refine tx_slot' 19 (y := (If 72 (Pt (C3 r17_0a r17_0b r17_0c r17_0d)))) rfl (imp_eq (SG53_c0 r17_0a r17_0b r17_0c r17_0d)) ?_
     obtain ⟨r20, hr20, hp⟩ := bind_some hp
     refine so (oz (ent_inv' rfl rfl (inv_pt0 inv72_Layout)) (gogeom_geom0_Layout_sim _ _ _ _ hr20)) fun ⟨⟩ => ?_
     refine sa rfl ?_
     refine nk hK16 ?_
     refine cr fun K17 hK17 => ?_
     iterate 2 refine sm rfl ?_
     refine sb rfl rfl eg_int ru_neq ?_
     refine nk hK17 ?_
     refine cx_cond' rfl (fun h6 => ?_) (fun h6 => ?_)
     ·replace hp := (br_t h6).symm.trans hp
      refine cr fun K18 hK18 => ?_
      iterate 2 refine sm rfl ?_
      refine sv (pls := [(0, 1), (1, 1)]) (qs := [(0, [(Vi a1)]), (1, [(Vi r20)])]) (r := (C19 a1 r20)) ⟨rfl, ⟨_, rfl, (lv_vl rfl rfl)⟩, ⟨rfl, ⟨_, rfl, (lv_vl rfl rfl)⟩, trivial⟩⟩ Try.underlying134 has134 places134 info134 rfl rfl rfl ?_
      refine s0 (rd_iface' rfl ⟨_, Try.underlying134, fun _ h => (nomatch h)⟩) ?_
      refine sa rfl ?_
      refine nk hK18 ?_
      refine cx_retc' ?_
      replace hp := sj hp
      subst hp
      show TX E (Zg E Exit.ret _ Exit.ret) _
      exact tx_zend' () rfl [1, 0] (uc rfl un) (by decide) (p2 rfl rfl)
     replace hp := (br_f h6).symm.trans hp
     refine cx_skip' ?_
     show TX E K14 _
     refine tx_k' hK14 ?_
     refine cx_region' ?_
     refine sb rfl rfl eg_int ru_add ?_
     refine sm rfl ?_
     refine sx_nil' ?_
     show TX E (KY1 _) _
     exact tk [0, 1] (u4 rfl rfl rfl rfl) (p2 rfl rfl) (ih1 (iadd .i64 x1 1) () _ hp)
    ·dsimp only at hp
     refine tx_slot' 18 (y := (If 75 (Pt (C3 r17_1a r17_1b r17_1c r17_1d)))) rfl (imp_eq (SG53_c1 r17_1a r17_1b r17_1c r17_1d)) ?_
     refine tx_slot' 6 (y := (If 75 (Pt (C3 r17_1a r17_1b r17_1c r17_1d)))) rfl (imp_eq (SG53_c1 r17_1a r17_1b r17_1c r17_1d)) ?_
     refine tx_slot' 19 (y := (If 75 (Pt (C3 r17_1a r17_1b r17_1c r17_1d)))) rfl (imp_eq (SG53_c1 r17_1a r17_1b r17_1c r17_1d)) ?_
     obtain ⟨r20, hr20, hp⟩ := bind_some hp
     refine so (oz (ent_inv' rfl rfl (inv_pt0 inv75_Layout)) (gogeom_geom0_Layout_sim _ _ _ _ hr20)) fun ⟨⟩ => ?_
     refine sa rfl ?_
     refine nk hK16 ?_
     refine cr fun K17 hK17 => ?_
     iterate 2 refine sm rfl ?_
     refine sb rfl rfl eg_int ru_neq ?_
     refine nk hK17 ?_
     refine cx_cond' rfl (fun h6 => ?_) (fun h6 => ?_)
     ·replace hp := (br_t h6).symm.trans hp
      refine cr fun K18 hK18 => ?_
      iterate 2 refine sm rfl ?_
      refine sv (pls := [(0, 1), (1, 1)]) (qs := [(0, [(Vi a1)]), (1, [(Vi r20)])]) (r := (C19 a1 r20)) ⟨rfl, ⟨_, rfl, (lv_vl rfl rfl)⟩, ⟨rfl, ⟨_, rfl, (lv_vl rfl rfl)⟩, trivial⟩⟩ Try.underlying134 has134 places134 info134 rfl rfl rfl ?_
      refine s0 (rd_iface' rfl ⟨_, Try.underlying134, fun _ h => (nomatch h)⟩) ?_
      refine sa rfl ?_
      refine nk hK18 ?_
      refine cx_retc' ?_
      replace hp := sj hp
      subst hp
      show TX E (Zg E Exit.ret _ Exit.ret) _
      exact tx_zend' () rfl [1, 0] (uc rfl un) (by decide) (p2 rfl rfl)
     replace hp := (br_f h6).symm.trans hp
     refine cx_skip' ?_
     show TX E K14 _
     refine tx_k' hK14 ?_
     refine cx_region' ?_
     refine sb rfl rfl eg_int ru_add ?_
     refine sm rfl ?_
     refine sx_nil' ?_
     show TX E (KY1 _) _
     exact tk [0, 1] (u4 rfl rfl rfl rfl) (p2 rfl rfl) (ih1 (iadd .i64 x1 1) () _ hp)
    ·dsimp only at hp
     refine tx_slot' 18 (y := (If 69 (Pt (C3 r17_2a r17_2b r17_2c r17_2d)))) rfl (imp_eq (SG53_c2 r17_2a r17_2b r17_2c r17_2d)) ?_
     refine tx_slot' 6 (y := (If 69 (Pt (C3 r17_2a r17_2b r17_2c r17_2d)))) rfl (imp_eq (SG53_c2 r17_2a r17_2b r17_2c r17_2d)) ?_
     refine tx_slot' 19 (y := (If 69 (Pt (C3 r17_2a r17_2b r17_2c r17_2d)))) rfl (imp_eq (SG53_c2 r17_2a r17_2b r17_2c r17_2d)) ?_
     obtain ⟨r20, hr20, hp⟩ := bind_some hp
     refine so (oz (ent_inv' rfl rfl (inv_pt0 inv69_Layout)) (gogeom_geom0_Layout_sim _ _ _ _ hr20)) fun ⟨⟩ => ?_
     refine sa rfl ?_
     refine nk hK16 ?_
     refine cr fun K17 hK17 => ?_
     iterate 2 refine sm rfl ?_
     refine sb rfl rfl eg_int ru_neq ?_
     refine nk hK17 ?_
     refine cx_cond' rfl (fun h6 => ?_) (fun h6 => ?_)
     ·replace hp := (br_t h6).symm.trans hp
      refine cr fun K18 hK18 => ?_
      iterate 2 refine sm rfl ?_
      refine sv (pls := [(0, 1), (1, 1)]) (qs := [(0, [(Vi a1)]), (1, [(Vi r20)])]) (r := (C19 a1 r20)) ⟨rfl, ⟨_, rfl, (lv_vl rfl rfl)⟩, ⟨rfl, ⟨_, rfl, (lv_vl rfl rfl)⟩, trivial⟩⟩ Try.underlying134 has134 places134 info134 rfl rfl rfl ?_
      refine s0 (rd_iface' rfl ⟨_, Try.underlying134, fun _ h => (nomatch h)⟩) ?_
      refine sa rfl ?_
      refine nk hK18 ?_
      refine cx_retc' ?_
      replace hp := sj hp
      subst hp
      show TX E (Zg E Exit.ret _ Exit.ret) _
      exact tx_zend' () rfl [1, 0] (uc rfl un) (by decide) (p2 rfl rfl)
     replace hp := (br_f h6).symm.trans hp
     refine cx_skip' ?_
     show TX E K14 _
     refine tx_k' hK14 ?_
     refine cx_region' ?_
     refine sb rfl rfl eg_int ru_add ?_
     refine sm rfl ?_
     refine sx_nil' ?_
     show TX E (KY1 _) _
     exact tk [0, 1] (u4 rfl rfl rfl rfl) (p2 rfl rfl) (ih1 (iadd .i64 x1 1) () _ hp)
    ·dsimp only at hp
     refine tx_slot' 18 (y := (If 67 (Pt (C6 r17_3a r17_3b r17_3c r17_3d r17_3e)))) rfl (imp_eq (SG53_c3 r17_3a r17_3b r17_3c r17_3d r17_3e)) ?_
     refine tx_slot' 6 (y := (If 67 (Pt (C6 r17_3a r17_3b r17_3c r17_3d r17_3e)))) rfl (imp_eq (SG53_c3 r17_3a r17_3b r17_3c r17_3d r17_3e)) ?_
     refine tx_slot' 19 (y := (If 67 (Pt (C6 r17_3a r17_3b r17_3c r17_3d r17_3e)))) rfl (imp_eq (SG53_c3 r17_3a r17_3b r17_3c r17_3d r17_3e)) ?_
     obtain ⟨r20, hr20, hp⟩ := bind_some hp
     refine so (oz (ent_inv' rfl rfl (inv_pt0 inv67_Layout)) (gogeom_geom0_Layout_v2_sim _ _ _ _ _ hr20)) fun ⟨⟩ => ?_
     refine sa rfl ?_
     refine nk hK16 ?_
     refine cr fun K17 hK17 => ?_
     iterate 2 refine sm rfl ?_
     refine sb rfl rfl eg_int ru_neq ?_
     refine nk hK17 ?_
     refine cx_cond' rfl (fun h6 => ?_) (fun h6 => ?_)
     ·replace hp := (br_t h6).symm.trans hp
      refine cr fun K18 hK18 => ?_
      iterate 2 refine sm rfl ?_
      refine sv (pls := [(0, 1), (1, 1)]) (qs := [(0, [(Vi a1)]), (1, [(Vi r20)])]) (r := (C19 a1 r20)) ⟨rfl, ⟨_, rfl, (lv_vl rfl rfl)⟩, ⟨rfl, ⟨_, rfl, (lv_vl rfl rfl)⟩, trivial⟩⟩ Try.underlying134 has134 places134 info134 rfl rfl rfl ?_
      refine s0 (rd_iface' rfl ⟨_, Try.underlying134, fun _ h => (nomatch h)⟩) ?_
      refine sa rfl ?_
      refine nk hK18 ?_
      refine cx_retc' ?_
      replace hp := sj hp
      subst hp
      show TX E (Zg E Exit.ret _ Exit.ret) _
      exact tx_zend' () rfl [1, 0] (uc rfl un) (by decide) (p2 rfl rfl)
     replace hp := (br_f h6).symm.trans hp
     refine cx_skip' ?_
     show TX E K14 _
     refine tx_k' hK14 ?_
     refine cx_region' ?_
     refine sb rfl rfl eg_int ru_add ?_
     refine sm rfl ?_
     refine sx_nil' ?_
     show TX E (KY1 _) _
     exact tk [0, 1] (u4 rfl rfl rfl rfl) (p2 rfl rfl) (ih1 (iadd .i64 x1 1) () _ hp)
    ·dsimp only at hp
     refine tx_slot' 18 (y := (If 70 (Pt (C6 r17_4a r17_4b r17_4c r17_4d r17_4e)))) rfl (imp_eq (SG53_c4 r17_4a r17_4b r17_4c r17_4d r17_4e)) ?_
     refine tx_slot' 6 (y := (If 70 (Pt (C6 r17_4a r17_4b r17_4c r17_4d r17_4e)))) rfl (imp_eq (SG53_c4 r17_4a r17_4b r17_4c r17_4d r17_4e)) ?_
     refine tx_slot' 19 (y := (If 70 (Pt (C6 r17_4a r17_4b r17_4c r17_4d r17_4e)))) rfl (imp_eq (SG53_c4 r17_4a r17_4b r17_4c r17_4d r17_4e)) ?_
     obtain ⟨r20, hr20, hp⟩ := bind_some hp
     refine so (oz (ent_inv' rfl rfl (inv_pt0 inv70_Layout)) (gogeom_geom0_Layout_v2_sim _ _ _ _ _ hr20)) fun ⟨⟩ => ?_
     refine sa rfl ?_
     refine nk hK16 ?_
     refine cr fun K17 hK17 => ?_
     iterate 2 refine sm rfl ?_
     refine sb rfl rfl eg_int ru_neq ?_
     refine nk hK17 ?_
     refine cx_cond' rfl (fun h6 => ?_) (fun h6 => ?_)
     ·replace hp := (br_t h6).symm.trans hp
      refine cr fun K18 hK18 => ?_
      iterate 2 refine sm rfl ?_
      refine sv (pls := [(0, 1), (1, 1)]) (qs := [(0, [(Vi a1)]), (1, [(Vi r20)])]) (r := (C19 a1 r20)) ⟨rfl, ⟨_, rfl, (lv_vl rfl rfl)⟩, ⟨rfl, ⟨_, rfl, (lv_vl rfl rfl)⟩, trivial⟩⟩ Try.underlying134 has134 places134 info134 rfl rfl rfl ?_
      refine s0 (rd_iface' rfl ⟨_, Try.underlying134, fun _ h => (nomatch h)⟩) ?_
      refine sa rfl ?_
      refine nk hK18 ?_
      refine cx_retc' ?_
      replace hp := sj hp
      subst hp
      show TX E (Zg E Exit.ret _ Exit.ret) _
      exact tx_zend' () rfl [1, 0] (uc rfl un) (by decide) (p2 rfl rfl)
     replace hp := (br_f h6).symm.trans hp
     refine cx_skip' ?_
     show TX E K14 _
     refine tx_k' hK14 ?_
     refine cx_region' ?_
     refine sb rfl rfl eg_int ru_add ?_
     refine sm rfl ?_
     refine sx_nil' ?_
     show TX E (KY1 _) _
     exact tk [0, 1] (u4 rfl rfl rfl rfl) (p2 rfl rfl) (ih1 (iadd .i64 x1 1) () _ hp)
    ·dsimp only at hp
     refine tx_slot' 18 (y := (If 73 (Pt (C6 r17_5a r17_5b r17_5c r17_5d r17_5e)))) rfl (imp_eq (SG53_c5 r17_5a r17_5b r17_5c r17_5d r17_5e)) ?_
     refine tx_slot' 6 (y := (If 73 (Pt (C6 r17_5a r17_5b r17_5c r17_5d r17_5e)))) rfl (imp_eq (SG53_c5 r17_5a r17_5b r17_5c r17_5d r17_5e)) ?_
     refine tx_slot' 19 (y := (If 73 (Pt (C6 r17_5a r17_5b r17_5c r17_5d r17_5e)))) rfl (imp_eq (SG53_c5 r17_5a r17_5b r17_5c r17_5d r17_5e)) ?_
     obtain ⟨r20, hr20, hp⟩ := bind_some hp
     refine so (oz (ent_inv' rfl rfl (inv_pt0 inv73_Layout)) (gogeom_geom0_Layout_v2_sim _ _ _ _ _ hr20)) fun ⟨⟩ => ?_
     refine sa rfl ?_
     refine nk hK16 ?_
     refine cr fun K17 hK17 => ?_
     iterate 2 refine sm rfl ?_
     refine sb rfl rfl eg_int ru_neq ?_
     refine nk hK17 ?_
     refine cx_cond' rfl (fun h6 => ?_) (fun h6 => ?_)
     ·replace hp := (br_t h6).symm.trans hp
      refine cr fun K18 hK18 => ?_
      iterate 2 refine sm rfl ?_
      refine sv (pls := [(0, 1), (1, 1)]) (qs := [(0, [(Vi a1)]), (1, [(Vi r20)])]) (r := (C19 a1 r20)) ⟨rfl, ⟨_, rfl, (lv_vl rfl rfl)⟩, ⟨rfl, ⟨_, rfl, (lv_vl rfl rfl)⟩, trivial⟩⟩ Try.underlying134 has134 places134 info134 rfl rfl rfl ?_
      refine s0 (rd_iface' rfl ⟨_, Try.underlying134, fun _ h => (nomatch h)⟩) ?_
      refine sa rfl ?_
      refine nk hK18 ?_
      refine cx_retc' ?_
      replace hp := sj hp
      subst hp
      show TX E (Zg E Exit.ret _ Exit.ret) _
      exact tx_zend' () rfl [1, 0] (uc rfl un) (by decide) (p2 rfl rfl)
     replace hp := (br_f h6).symm.trans hp
     refine cx_skip' ?_
     show TX E K14 _
     refine tx_k' hK14 ?_
     refine cx_region' ?_
     refine sb rfl rfl eg_int ru_add ?_
     refine sm rfl ?_
     refine sx_nil' ?_
     show TX E (KY1 _) _
     exact tk [0, 1] (u4 rfl rfl rfl rfl) (p2 rfl rfl) (ih1 (iadd .i64 x1 1) () _ hp)
    ·dsimp only at hp
     refine tx_slot' 18 (y := (If 76 (Pt (C11 r17_6a r17_6b r17_6c r17_6d r17_6e)))) rfl (imp_eq (SG53_c6 r17_6a r17_6b r17_6c r17_6d r17_6e)) ?_
     refine tx_slot' 6 (y := (If 76 (Pt (C11 r17_6a r17_6b r17_6c r17_6d r17_6e)))) rfl (imp_eq (SG53_c6 r17_6a r17_6b r17_6c r17_6d r17_6e)) ?_
     refine tx_slot' 19 (y := (If 76 (Pt (C11 r17_6a r17_6b r17_6c r17_6d r17_6e)))) rfl (imp_eq (SG53_c6 r17_6a r17_6b r17_6c r17_6d r17_6e)) ?_
     obtain ⟨r20, hr20, hp⟩ := bind_some hp
     refine so (oz (ent_inv' rfl rfl (inv_pt0 inv76_Layout)) (gogeom_geom0_Layout_v3_sim _ _ _ _ _ hr20)) fun ⟨⟩ => ?_
     refine sa rfl ?_
     refine nk hK16 ?_
     refine cr fun K17 hK17 => ?_
     iterate 2 refine sm rfl ?_
     refine sb rfl rfl eg_int ru_neq ?_
     refine nk hK17 ?_
     refine cx_cond' rfl (fun h6 => ?_) (fun h6 => ?_)
     ·replace hp := (br_t h6).symm.trans hp
      refine cr fun K18 hK18 => ?_
      iterate 2 refine sm rfl ?_
      refine sv (pls := [(0, 1), (1, 1)]) (qs := [(0, [(Vi a1)]), (1, [(Vi r20)])]) (r := (C19 a1 r20)) ⟨rfl, ⟨_, rfl, (lv_vl rfl rfl)⟩, ⟨rfl, ⟨_, rfl, (lv_vl rfl rfl)⟩, trivial⟩⟩ Try.underlying134 has134 places134 info134 rfl rfl rfl ?_
      refine s0 (rd_iface' rfl ⟨_, Try.underlying134, fun _ h => (nomatch h)⟩) ?_
      refine sa rfl ?_
      refine nk hK18 ?_
      refine cx_retc' ?_
      replace hp := sj hp
      subst hp
      show TX E (Zg E Exit.ret _ Exit.ret) _
      exact tx_zend' () rfl [1, 0] (uc rfl un) (by decide) (p2 rfl rfl)
     replace hp := (br_f h6).symm.trans hp
     refine cx_skip' ?_
     show TX E K14 _
     refine tx_k' hK14 ?_
     refine cx_region' ?_
     refine sb rfl rfl eg_int ru_add ?_
     refine sm rfl ?_
     refine sx_nil' ?_
     show TX E (KY1 _) _
     exact tk [0, 1] (u4 rfl rfl rfl rfl) (p2 rfl rfl) (ih1 (iadd .i64 x1 1) () _ hp)
    dsimp only at hp
    refine tx_slot' 18 (y := (If 57 (Pt (C14 r17_7a r17_7b r17_7c)))) rfl (imp_eq (SG53_c7 r17_7a r17_7b r17_7c)) ?_
    refine tx_slot' 6 (y := (If 57 (Pt (C14 r17_7a r17_7b r17_7c)))) rfl (imp_eq (SG53_c7 r17_7a r17_7b r17_7c)) ?_
    refine tx_slot' 19 (y := (If 57 (Pt (C14 r17_7a r17_7b r17_7c)))) rfl (imp_eq (SG53_c7 r17_7a r17_7b r17_7c)) ?_
    obtain ⟨r20, hr20, hp⟩ := bind_some hp
    refine so (oz (ent_inv' rfl rfl (inv_any0 inv57_Layout)) (gogeom_GeometryCollection_Layout_sim _ _ _ hr20)) fun ⟨⟩ => ?_
    refine sa rfl ?_
    refine nk hK16 ?_
    refine cr fun K17 hK17 => ?_
    iterate 2 refine sm rfl ?_
    refine sb rfl rfl eg_int ru_neq ?_
    refine nk hK17 ?_
    refine cx_cond' rfl (fun h6 => ?_) (fun h6 => ?_)
    ·replace hp := (br_t h6).symm.trans hp
     refine cr fun K18 hK18 => ?_
     iterate 2 refine sm rfl ?_
     refine sv (pls := [(0, 1), (1, 1)]) (qs := [(0, [(Vi a1)]), (1, [(Vi r20)])]) (r := (C19 a1 r20)) ⟨rfl, ⟨_, rfl, (lv_vl rfl rfl)⟩, ⟨rfl, ⟨_, rfl, (lv_vl rfl rfl)⟩, trivial⟩⟩ Try.underlying134 has134 places134 info134 rfl rfl rfl ?_
     refine s0 (rd_iface' rfl ⟨_, Try.underlying134, fun _ h => (nomatch h)⟩) ?_
     refine sa rfl ?_
     refine nk hK18 ?_
     refine cx_retc' ?_
     replace hp := sj hp
     subst hp
     show TX E (Zg E Exit.ret _ Exit.ret) _
     exact tx_zend' () rfl [1, 0] (uc rfl un) (by decide) (p2 rfl rfl)
    replace hp := (br_f h6).symm.trans hp
    refine cx_skip' ?_
    show TX E K14 _
    refine tx_k' hK14 ?_
    refine cx_region' ?_
    refine sb rfl rfl eg_int ru_add ?_
    refine sm rfl ?_
    refine sx_nil' ?_
    show TX E (KY1 _) _
    exact tk [0, 1] (u4 rfl rfl rfl rfl) (p2 rfl rfl) (ih1 (iadd .i64 x1 1) () _ hp)
   replace hp := (br_f h5).symm.trans hp
   refine cx_exit' ?_
   replace hp := sj hp
   subst hp
   show TX E (Zg E (Exit.exit 0) _ (Exit.exit 0)) _
   exact tx_zend' () rfl [1, 0] un (by decide) (p2 rfl rfl)
  rcases y1 with v2 | v3
  ·dsimp only at hp
   refine zg_out fun w2 => ?_
   replace hp := sj hp
   subst hp
   refine tk (L' := [(4, (If 134 (Ag (C19 a1 v2))))]) (H' := [(Ur wa0 114 (C4 a0_0 wa0_1 a0_2)), (Rg KG53 53 wa0_1 a0_1)]) [0, 1] (uc rfl un) (p2 rfl rfl) ?_
   exact tx_ret1' Try.results79 rfl () (rv_tmp' rfl) lr
  dsimp only at hp
  refine zg_out fun w3 => ?_
  show TX E K2 _
  exact tk [0, 1] un (p2 rfl rfl) (hK2 () hp)
 replace hp := (br_f h1).symm.trans hp
 refine cx_skip' ?_
 show TX E K2 _
 exact tk [0, 1] un (p2 rfl rfl) (hK2 () hp)

def gogeom_GeometryCollection_SetLayout_v2 (k : Nat) (a0_0 : Int) (a0_1 : List G53) (a0_2 a1 : Int) : Option ((Int × (List G53) × Int) ⊕ (Int × (List G53) × Int × Int × Int)) :=
 (gogeom_GeometryCollection_CheckLayout_v2 k a0_0 a0_1 a0_2 a1) >>= fun r8 =>
 match r8 with
  | (.inl y1) =>
   (some (.inl (a1, y1.2.1, y1.2.2)))
  | (.inr y1) =>
   (some (.inr (y1.1, y1.2.1, y1.2.2.1, y1.2.2.2.1, y1.2.2.2.2)))
def gogeom_GeometryCollection_SetLayout_v2_r (wa0 : Addr) (wa0_1 : Gs) (a0_0 : Int) (a0_1 : List G53) (a0_2 a1 : Int) (out : (Int × (List G53) × Int) ⊕ (Int × (List G53) × Int × Int × Int)) (w : Unit) : SV := match out with
 | (.inl y) => Ve
 | (.inr y) => (If 134 (Ag (C19 y.2.2.2.1 y.2.2.2.2)))
def gogeom_GeometryCollection_SetLayout_v2_h (wa0 : Addr) (wa0_1 : Gs) (a0_0 : Int) (a0_1 : List G53) (a0_2 a1 : Int) (out : (Int × (List G53) × Int) ⊕ (Int × (List G53) × Int × Int × Int)) (w : Unit) : List Res := match out with
 | (.inl y) => [(Ur wa0 114 (C4 y.1 wa0_1 y.2.2)), (Rg KG53 53 wa0_1 y.2.1)]
 | (.inr y) => [(Ur wa0 114 (C4 y.1 wa0_1 y.2.2.1)), (Rg KG53 53 wa0_1 y.2.1)]

theorem gogeom_GeometryCollection_SetLayout_v2_sim {k : Nat} {wa0 : Addr} {wa0_1 : Gs} (a0_0 : Int) (a0_1 : List G53) (a0_2 a1 : Int) {out : (Int × (List G53) × Int) ⊕ (Int × (List G53) × Int × Int × Int)} (hp : gogeom_GeometryCollection_SetLayout_v2 k a0_0 a0_1 a0_2 a1 = some out) : Sx.Fn Try.prog 33 [(Vp wa0), (Vi a1)] [(Ur wa0 114 (C4 a0_0 wa0_1 a0_2)), (Rg KG53 53 wa0_1 a0_1)] (fun w => gogeom_GeometryCollection_SetLayout_v2_r wa0 wa0_1 a0_0 a0_1 a0_2 a1 out w) (fun w => gogeom_GeometryCollection_SetLayout_v2_h wa0 wa0_1 a0_0 a0_1 a0_2 a1 out w) := by
 unfold gogeom_GeometryCollection_SetLayout_v2 at hp
 refine fn_of Try.func33 rfl Try.ntmps33 rfl fun E hM => ?_
 refine cr fun K1 hK1 => ?_
 refine sa rfl ?_
 refine nk hK1 ?_
 refine cx_seq' fun K2 hK2 => ?_
 refine cr fun K3 hK3 => ?_
 iterate 2 refine sm rfl ?_
 obtain ⟨r8, hr8, hp⟩ := bind_some hp
 rcases r8 with y1 | y1
 ·dsimp only at hp
  refine so (ox_callg' (ent_fn' Try.func79 isn79 rfl rfl) (gogeom_GeometryCollection_CheckLayout_v2_sim _ _ _ _ hr8 : Sx.Fn Try.prog 79 [(Vp wa0), (Vi a1)] [(Ur wa0 114 (C4 a0_0 wa0_1 a0_2)), (Rg KG53 53 wa0_1 a0_1)] (fun x : Unit => Ve) (fun x => [(Ur wa0 114 (C4 y1.1 wa0_1 y1.2.2)), (Rg KG53 53 wa0_1 y1.2.1)])) [0, 1] [] (by decide) (p2 rfl rfl) pn (Hn := fun x : Unit => [(Ur wa0 114 (C4 y1.1 wa0_1 y1.2.2)), (Rg KG53 53 wa0_1 y1.2.1)]) (fun _ => rfl) rfl rfl) fun ⟨⟩ => ?_
  refine sa rfl ?_
  refine nk hK3 ?_
  refine cr fun K4 hK4 => ?_
  refine sm rfl ?_
  refine s0 (rd_binf' rfl rfl (bf_vl (fun _ => by kernel_rfl) nil_neq59_nilif)) ?_
  refine nk hK4 ?_
  refine cx_cond_f' rfl rfl ?_
  refine cx_skip' ?_
  show TX E K2 _
  refine tx_k' hK2 ?_
  refine cr fun K5 hK5 => ?_
  iterate 2 refine sm rfl ?_
  refine sn rfl ?_
  refine sf rfl Try.underlying114 rfl info61 rfl ?_
  refine so (ox_store' (i := 0) (o := 0) rfl rfl (lv_vl rfl rfl) (ar rfl rfl rfl rfl) rfl info61 rfl (H' := [(Ur wa0 114 (C4 a1 wa0_1 y1.2.2)), (Rg KG53 53 wa0_1 y1.2.1)]) rfl) fun _ => ?_
  refine nk hK5 ?_
  refine cr fun K6 hK6 => ?_
  refine sa rfl ?_
  refine nk hK6 ?_
  refine cx_retc' ?_
  replace hp := sj hp
  subst hp
  refine tk (L' := [(4, Ve)]) (H' := [(Ur wa0 114 (C4 a1 wa0_1 y1.2.2)), (Rg KG53 53 wa0_1 y1.2.1)]) [0, 1] (uc rfl un) (p2 rfl rfl) ?_
  exact tx_ret1' Try.results33 rfl () (rv_tmp' rfl) lr
 dsimp only at hp
 refine so (ox_callg' (ent_fn' Try.func79 isn79 rfl rfl) (gogeom_GeometryCollection_CheckLayout_v2_sim _ _ _ _ hr8 : Sx.Fn Try.prog 79 [(Vp wa0), (Vi a1)] [(Ur wa0 114 (C4 a0_0 wa0_1 a0_2)), (Rg KG53 53 wa0_1 a0_1)] (fun x : Unit => (If 134 (Ag (C19 y1.2.2.2.1 y1.2.2.2.2)))) (fun x => [(Ur wa0 114 (C4 y1.1 wa0_1 y1.2.2.1)), (Rg KG53 53 wa0_1 y1.2.1)])) [0, 1] [] (by decide) (p2 rfl rfl) pn (Hn := fun x : Unit => [(Ur wa0 114 (C4 y1.1 wa0_1 y1.2.2.1)), (Rg KG53 53 wa0_1 y1.2.1)]) (fun _ => rfl) rfl rfl) fun ⟨⟩ => ?_
 refine sa rfl ?_
 refine nk hK3 ?_
 refine cr fun K4 hK4 => ?_
 refine sm rfl ?_
 refine s0 (rd_binf' rfl rfl (bf_if (fun _ _ => by kernel_rfl) nil_neq59_if134)) ?_
 refine nk hK4 ?_
 refine cx_cond_t' rfl rfl ?_
 refine cr fun K7 hK7 => ?_
 refine sm rfl ?_
 refine sa rfl ?_
 refine nk hK7 ?_
 refine cx_retc' ?_
 replace hp := sj hp
 subst hp
 refine tk (L' := [(4, (If 134 (Ag (C19 y1.2.2.2.1 y1.2.2.2.2))))]) (H' := [(Ur wa0 114 (C4 y1.1 wa0_1 y1.2.2.1)), (Rg KG53 53 wa0_1 y1.2.1)]) [0, 1] (uc rfl un) (p2 rfl rfl) ?_
 exact tx_ret1' Try.results33 rfl () (rv_tmp' rfl) lr

def gogeom_GeometryCollection_MustSetLayout_v2 (k : Nat) (a0_0 : Int) (a0_1 : List G53) (a0_2 a1 : Int) : Option (Int × (List G53) × Int) :=
 (gogeom_GeometryCollection_SetLayout_v2 k a0_0 a0_1 a0_2 a1) >>= fun r8 =>
 match r8 with
  | (.inl y1) =>
   (some (y1.1, y1.2.1, y1.2.2))
  | (.inr y1) =>
   (none)

theorem gogeom_GeometryCollection_MustSetLayout_v2_sim {k : Nat} {wa0 : Addr} {wa0_1 : Gs} (a0_0 : Int) (a0_1 : List G53) (a0_2 a1 : Int) {out : Int × (List G53) × Int} (hp : gogeom_GeometryCollection_MustSetLayout_v2 k a0_0 a0_1 a0_2 a1 = some out) : Sx.Fn Try.prog 78 [(Vp wa0), (Vi a1)] [(Ur wa0 114 (C4 a0_0 wa0_1 a0_2)), (Rg KG53 53 wa0_1 a0_1)] (fun w : Unit => (Vp wa0)) (fun w => [(Ur wa0 114 (C4 out.1 wa0_1 out.2.2)), (Rg KG53 53 wa0_1 out.2.1)]) := by
 unfold gogeom_GeometryCollection_MustSetLayout_v2 at hp
 refine fn_of Try.func78 rfl Try.ntmps78 rfl fun E hM => ?_
 refine cr fun K1 hK1 => ?_
 refine sa rfl ?_
 refine nk hK1 ?_
 refine cx_seq' fun K2 hK2 => ?_
 refine cr fun K3 hK3 => ?_
 iterate 2 refine sm rfl ?_
 obtain ⟨r8, hr8, hp⟩ := bind_some hp
 rcases r8 with y1 | y1
 ·dsimp only at hp
  refine so (ox_callg' (ent_fn' Try.func33 isn33 rfl rfl) (gogeom_GeometryCollection_SetLayout_v2_sim _ _ _ _ hr8 : Sx.Fn Try.prog 33 [(Vp wa0), (Vi a1)] [(Ur wa0 114 (C4 a0_0 wa0_1 a0_2)), (Rg KG53 53 wa0_1 a0_1)] (fun x : Unit => Ve) (fun x => [(Ur wa0 114 (C4 y1.1 wa0_1 y1.2.2)), (Rg KG53 53 wa0_1 y1.2.1)])) [0, 1] [] (by decide) (p2 rfl rfl) pn (Hn := fun x : Unit => [(Ur wa0 114 (C4 y1.1 wa0_1 y1.2.2)), (Rg KG53 53 wa0_1 y1.2.1)]) (fun _ => rfl) rfl rfl) fun ⟨⟩ => ?_
  refine sa rfl ?_
  refine nk hK3 ?_
  refine cr fun K4 hK4 => ?_
  refine sm rfl ?_
  refine s0 (rd_binf' rfl rfl (bf_vl (fun _ => by kernel_rfl) nil_neq59_nilif)) ?_
  refine nk hK4 ?_
  refine cx_cond_f' rfl rfl ?_
  refine cx_skip' ?_
  show TX E K2 _
  refine tx_k' hK2 ?_
  refine cr fun K5 hK5 => ?_
  refine sm rfl ?_
  refine sa rfl ?_
  refine nk hK5 ?_
  refine cx_retc' ?_
  replace hp := sj hp
  subst hp
  refine tk (L' := [(4, (Vp wa0))]) (H' := [(Ur wa0 114 (C4 y1.1 wa0_1 y1.2.2)), (Rg KG53 53 wa0_1 y1.2.1)]) [0, 1] (uc rfl un) (p2 rfl rfl) ?_
  exact tx_ret1' Try.results78 rfl () (rv_tmp' rfl) lr
 dsimp only at hp
 cases hp

def impl_geometry_l1s (a0_6 : List T27) (recf : Int → Int → Int → (List Nat) → (List Int) → (List (List Int)) → (List T27) → Option ((Int × Int × (List Nat) × Int) ⊕ ((Int × Int × (List Nat) × Int) ⊕ ((Int × Int × (List Nat) × Int) ⊕ ((Int × Int × (List Nat) × Int × (List Int)) ⊕ ((Int × Int × (List Nat) × Int × (List Int)) ⊕ ((Int × Int × (List Nat) × Int × (List Int)) ⊕ ((Int × Int × (List Nat) × Int × (List (List Int))) ⊕ (Int × (List G53) × Int))))))))) (k : Nat) (rec1 : (Int × (List G53) × Int × Int) → Option (Int × (List G53) × Int)) (x35 : Int) (x36 : List G53) (x37 x38 : Int) : Option (Int × (List G53) × Int) :=
 br (decide (x38 < (a0_6.length : Int)))
  ((idx a0_6 x38) >>= fun r103 =>
  (recf r103.f0 r103.f1 r103.f2 r103.f3 r103.f4 r103.f5 r103.f6) >>= fun r107 =>
  match r107 with
   | (.inl y37) =>
    ((gogeom_GeometryCollection_MustPush_v2 k x35 x36 x37 ([(G53.c0 y37.1 y37.2.1 y37.2.2.1 y37.2.2.2)])) >>= fun r109 =>
    rec1 (r109.1, r109.2.1, r109.2.2, (iadd .i64 x38 1)))
   | (.inr (.inl y37)) =>
    ((gogeom_GeometryCollection_MustPush_v2 k x35 x36 x37 ([(G53.c1 y37.1 y37.2.1 y37.2.2.1 y37.2.2.2)])) >>= fun r109 =>
    rec1 (r109.1, r109.2.1, r109.2.2, (iadd .i64 x38 1)))
   | (.inr (.inr (.inl y37))) =>
    ((gogeom_GeometryCollection_MustPush_v2 k x35 x36 x37 ([(G53.c2 y37.1 y37.2.1 y37.2.2.1 y37.2.2.2)])) >>= fun r109 =>
    rec1 (r109.1, r109.2.1, r109.2.2, (iadd .i64 x38 1)))
   | (.inr (.inr (.inr (.inl y37)))) =>
    ((gogeom_GeometryCollection_MustPush_v2 k x35 x36 x37 ([(G53.c3 y37.1 y37.2.1 y37.2.2.1 y37.2.2.2.1 y37.2.2.2.2)])) >>= fun r109 =>
    rec1 (r109.1, r109.2.1, r109.2.2, (iadd .i64 x38 1)))
   | (.inr (.inr (.inr (.inr (.inl y37))))) =>
    ((gogeom_GeometryCollection_MustPush_v2 k x35 x36 x37 ([(G53.c4 y37.1 y37.2.1 y37.2.2.1 y37.2.2.2.1 y37.2.2.2.2)])) >>= fun r109 =>
    rec1 (r109.1, r109.2.1, r109.2.2, (iadd .i64 x38 1)))
   | (.inr (.inr (.inr (.inr (.inr (.inl y37)))))) =>
    ((gogeom_GeometryCollection_MustPush_v2 k x35 x36 x37 ([(G53.c5 y37.1 y37.2.1 y37.2.2.1 y37.2.2.2.1 y37.2.2.2.2)])) >>= fun r109 =>
    rec1 (r109.1, r109.2.1, r109.2.2, (iadd .i64 x38 1)))
   | (.inr (.inr (.inr (.inr (.inr (.inr (.inl y37))))))) =>
    ((gogeom_GeometryCollection_MustPush_v2 k x35 x36 x37 ([(G53.c6 y37.1 y37.2.1 y37.2.2.1 y37.2.2.2.1 y37.2.2.2.2)])) >>= fun r109 =>
    rec1 (r109.1, r109.2.1, r109.2.2, (iadd .i64 x38 1)))
   | (.inr (.inr (.inr (.inr (.inr (.inr (.inr y37))))))) =>
    ((gogeom_GeometryCollection_MustPush_v2 k x35 x36 x37 ([(G53.c7 y37.1 y37.2.1 y37.2.2)])) >>= fun r109 =>
    rec1 (r109.1, r109.2.1, r109.2.2, (iadd .i64 x38 1))))
  (some (x35, x36, x37))
def impl_geometry_l1 (a0_6 : List T27) (recf : Int → Int → Int → (List Nat) → (List Int) → (List (List Int)) → (List T27) → Option ((Int × Int × (List Nat) × Int) ⊕ ((Int × Int × (List Nat) × Int) ⊕ ((Int × Int × (List Nat) × Int) ⊕ ((Int × Int × (List Nat) × Int × (List Int)) ⊕ ((Int × Int × (List Nat) × Int × (List Int)) ⊕ ((Int × Int × (List Nat) × Int × (List Int)) ⊕ ((Int × Int × (List Nat) × Int × (List (List Int))) ⊕ (Int × (List G53) × Int))))))))) : Nat → (Int × (List G53) × Int × Int) → Option (Int × (List G53) × Int)
 | 0, _ => none
 | k + 1, v => impl_geometry_l1s a0_6 recf k (impl_geometry_l1 a0_6 recf k) v.1 v.2.1 v.2.2.1 v.2.2.2
def impl_geometry_b (recf : Int → Int → Int → (List Nat) → (List Int) → (List (List Int)) → (List T27) → Option ((Int × Int × (List Nat) × Int) ⊕ ((Int × Int × (List Nat) × Int) ⊕ ((Int × Int × (List Nat) × Int) ⊕ ((Int × Int × (List Nat) × Int × (List Int)) ⊕ ((Int × Int × (List Nat) × Int × (List Int)) ⊕ ((Int × Int × (List Nat) × Int × (List Int)) ⊕ ((Int × Int × (List Nat) × Int × (List (List Int))) ⊕ (Int × (List G53) × Int))))))))) (k : Nat) (a0_0 a0_1 a0_2 : Int) (a0_3 : List Nat) (a0_4 : List Int) (a0_5 : List (List Int)) (a0_6 : List T27) : Option ((Int × Int × (List Nat) × Int) ⊕ ((Int × Int × (List Nat) × Int) ⊕ ((Int × Int × (List Nat) × Int) ⊕ ((Int × Int × (List Nat) × Int × (List Int)) ⊕ ((Int × Int × (List Nat) × Int × (List Int)) ⊕ ((Int × Int × (List Nat) × Int × (List Int)) ⊕ ((Int × Int × (List Nat) × Int × (List (List Int))) ⊕ (Int × (List G53) × Int)))))))) :=
 (impl_floats k a0_3) >>= fun r12 =>
 br (decide (a0_0 = 1))
  ((gogeom_NewPointFlat k a0_1 r12) >>= fun r19 =>
  (gogeom_Point_SetSRID k r19.1 r19.2.1 r19.2.2.1 r19.2.2.2 a0_2) >>= fun r22 =>
  some (.inl (r22.1, r22.2.1, r22.2.2.1, r22.2.2.2)))
  (br (decide (a0_0 = 2))
   ((gogeom_NewLineStringFlat k a0_1 r12) >>= fun r28 =>
   (gogeom_LineString_SetSRID k r28.1 r28.2.1 r28.2.2.1 r28.2.2.2 a0_2) >>= fun r31 =>
   some (.inr (.inl (r31.1, r31.2.1, r31.2.2.1, r31.2.2.2))))
   (br (decide (a0_0 = 8))
    ((gogeom_NewLinearRingFlat k a0_1 r12) >>= fun r37 =>
    (gogeom_LinearRing_SetSRID k r37.1 r37.2.1 r37.2.2.1 r37.2.2.2 a0_2) >>= fun r40 =>
    some (.inr (.inr (.inl (r40.1, r40.2.1, r40.2.2.1, r40.2.2.2)))))
    (br (decide (a0_0 = 3))
     ((impl_ints k a0_4) >>= fun r48 =>
     match r48 with
      | (.inl y5) =>
       ((gogeom_NewPolygonFlat k a0_1 r12) >>= fun r49 =>
       (gogeom_Polygon_SetSRID k r49.2.1 r49.2.2.1 r49.1 r49.2.2.2 a0_2) >>= fun r52 =>
       some (.inr (.inr (.inr (.inl (r52.1, r52.2.1, r52.2.2.1, r52.2.2.2, []))))))
      | (.inr y5) =>
       ((gogeom_NewPolygonFlat_v2 k a0_1 r12 y5) >>= fun r49 =>
       (gogeom_Polygon_SetSRID_v2 k r49.2.2.1 r49.2.2.2.1 r49.1 r49.2.2.2.2 r49.2.1 a0_2) >>= fun r52 =>
       some (.inr (.inr (.inr (.inl (r52.1, r52.2.1, r52.2.2.1, r52.2.2.2.1, r52.2.2.2.2)))))))
     (br (decide (a0_0 = 4))
      ((impl_ints k a0_4) >>= fun r60 =>
      match r60 with
       | (.inl y8) =>
        ((gogeom_NewMultiPointFlatOptionWithEnds k) >>= fun r61 =>
        (gogeom_NewMultiPointFlat k a0_1 r12) >>= fun r63 =>
        (gogeom_MultiPoint_SetSRID k r63.2.1 r63.2.2.1 r63.1 r63.2.2.2.1 r63.2.2.2.2 a0_2) >>= fun r66 =>
        some (.inr (.inr (.inr (.inr (.inl (r66.1, r66.2.1, r66.2.2.1, r66.2.2.2.1, r66.2.2.2.2)))))))
       | (.inr y8) =>
        ((gogeom_NewMultiPointFlatOptionWithEnds_v2 k y8) >>= fun r61 =>
        (gogeom_NewMultiPointFlat_v2 k a0_1 r12 r61) >>= fun r63 =>
        (gogeom_MultiPoint_SetSRID k r63.2.2.1 r63.2.2.2.1 r63.1 r63.2.2.2.2 r63.2.1 a0_2) >>= fun r66 =>
        some (.inr (.inr (.inr (.inr (.inl (r66.1, r66.2.1, r66.2.2.1, r66.2.2.2.1, r66.2.2.2.2))))))))
      (br (decide (a0_0 = 5))
       ((impl_ints k a0_4) >>= fun r74 =>
       match r74 with
        | (.inl y13) =>
         ((gogeom_NewMultiLineStringFlat k a0_1 r12) >>= fun r75 =>
         (gogeom_MultiLineString_SetSRID k r75.2.1 r75.2.2.1 r75.1 r75.2.2.2 a0_2) >>= fun r78 =>
         some (.inr (.inr (.inr (.inr (.inr (.inl (r78.1, r78.2.1, r78.2.2.1, r78.2.2.2, []))))))))
        | (.inr y13) =>
         ((gogeom_NewMultiLineStringFlat_v2 k a0_1 r12 y13) >>= fun r75 =>
         (gogeom_MultiLineString_SetSRID_v2 k r75.2.2.1 r75.2.2.2.1 r75.1 r75.2.2.2.2 r75.2.1 a0_2) >>= fun r78 =>
         some (.inr (.inr (.inr (.inr (.inr (.inl (r78.1, r78.2.1, r78.2.2.1, r78.2.2.2.1, r78.2.2.2.2)))))))))
       (br (decide (a0_0 = 6))
        ((impl_intss k a0_5) >>= fun r86 =>
        (gogeom_NewMultiPolygonFlat k a0_1 r12 r86) >>= fun r87 =>
        (gogeom_MultiPolygon_SetSRID k r87.2.2.1 r87.2.2.2.1 r87.1 r87.2.2.2.2 r87.2.1 a0_2) >>= fun r90 =>
        some (.inr (.inr (.inr (.inr (.inr (.inr (.inl (r90.1, r90.2.1, r90.2.2.1, r90.2.2.2.1, r90.2.2.2.2)))))))))
        (br (decide (a0_0 = 7))
         ((gogeom_NewGeometryCollection k) >>= fun r94 =>
         (gogeom_GeometryCollection_SetSRID k r94 r94 a0_2) >>= fun r97 =>
         (impl_geometry_l1 a0_6 recf k (r97.1, [], r97.2, 0)) >>= fun v10 =>
         (gogeom_GeometryCollection_MustSetLayout_v2 k v10.1 v10.2.1 v10.2.2 a0_1) >>= fun r113 =>
         some (.inr (.inr (.inr (.inr (.inr (.inr (.inr (r113.1, r113.2.1, r113.2.2)))))))))
         (none))))))))
def impl_geometry : Nat → Int → Int → Int → (List Nat) → (List Int) → (List (List Int)) → (List T27) → Option ((Int × Int × (List Nat) × Int) ⊕ ((Int × Int × (List Nat) × Int) ⊕ ((Int × Int × (List Nat) × Int) ⊕ ((Int × Int × (List Nat) × Int × (List Int)) ⊕ ((Int × Int × (List Nat) × Int × (List Int)) ⊕ ((Int × Int × (List Nat) × Int × (List Int)) ⊕ ((Int × Int × (List Nat) × Int × (List (List Int))) ⊕ (Int × (List G53) × Int))))))))
 | 0 => fun _ _ _ _ _ _ _ => none
 | k + 1 => fun a0_0 a0_1 a0_2 a0_3 a0_4 a0_5 a0_6 => impl_geometry_b (impl_geometry k) k a0_0 a0_1 a0_2 a0_3 a0_4 a0_5 a0_6
def impl_geometry_r  (a0_0 a0_1 a0_2 : Int) (a0_3 : List Nat) (a0_4 : List Int) (a0_5 : List (List Int)) (a0_6 : List T27) (out : (Int × Int × (List Nat) × Int) ⊕ ((Int × Int × (List Nat) × Int) ⊕ ((Int × Int × (List Nat) × Int) ⊕ ((Int × Int × (List Nat) × Int × (List Int)) ⊕ ((Int × Int × (List Nat) × Int × (List Int)) ⊕ ((Int × Int × (List Nat) × Int × (List Int)) ⊕ ((Int × Int × (List Nat) × Int × (List (List Int))) ⊕ (Int × (List G53) × Int)))))))) (w : Addr × Gs × Gs) : SV := match out with
 | (.inl y) => (If 72 (Vp w.1))
 | (.inr (.inl y)) => (If 75 (Vp w.1))
 | (.inr (.inr (.inl y))) => (If 69 (Vp w.1))
 | (.inr (.inr (.inr (.inl y)))) => (If 67 (Vp w.1))
 | (.inr (.inr (.inr (.inr (.inl y))))) => (If 70 (Vp w.1))
 | (.inr (.inr (.inr (.inr (.inr (.inl y)))))) => (If 73 (Vp w.1))
 | (.inr (.inr (.inr (.inr (.inr (.inr (.inl y))))))) => (If 76 (Vp w.1))
 | (.inr (.inr (.inr (.inr (.inr (.inr (.inr y))))))) => (If 57 (Vp w.1))
def impl_geometry_h  (a0_0 a0_1 a0_2 : Int) (a0_3 : List Nat) (a0_4 : List Int) (a0_5 : List (List Int)) (a0_6 : List T27) (out : (Int × Int × (List Nat) × Int) ⊕ ((Int × Int × (List Nat) × Int) ⊕ ((Int × Int × (List Nat) × Int) ⊕ ((Int × Int × (List Nat) × Int × (List Int)) ⊕ ((Int × Int × (List Nat) × Int × (List Int)) ⊕ ((Int × Int × (List Nat) × Int × (List Int)) ⊕ ((Int × Int × (List Nat) × Int × (List (List Int))) ⊕ (Int × (List G53) × Int)))))))) (w : Addr × Gs × Gs) : List Res := match out with
 | (.inl y) => [(Ur w.1 135 (C3 y.1 y.2.1 y.2.2.1 y.2.2.2))]
 | (.inr (.inl y)) => [(Ur w.1 138 (C3 y.1 y.2.1 y.2.2.1 y.2.2.2))]
 | (.inr (.inr (.inl y))) => [(Ur w.1 128 (C3 y.1 y.2.1 y.2.2.1 y.2.2.2))]
 | (.inr (.inr (.inr (.inl y)))) => [(Ur w.1 132 (C2 y.1 y.2.1 w.2.1 y.2.2.2.1 w.2.2)), (Rg Kf 32 w.2.1 y.2.2.1), (Rg (Ki .i64) 3 w.2.2 y.2.2.2.2)]
 | (.inr (.inr (.inr (.inr (.inl y))))) => [(Ur w.1 136 (C2 y.1 y.2.1 w.2.1 y.2.2.2.1 w.2.2)), (Rg Kf 32 w.2.1 y.2.2.1), (Rg (Ki .i64) 3 w.2.2 y.2.2.2.2)]
 | (.inr (.inr (.inr (.inr (.inr (.inl y)))))) => [(Ur w.1 139 (C2 y.1 y.2.1 w.2.1 y.2.2.2.1 w.2.2)), (Rg Kf 32 w.2.1 y.2.2.1), (Rg (Ki .i64) 3 w.2.2 y.2.2.2.2)]
 | (.inr (.inr (.inr (.inr (.inr (.inr (.inl y))))))) => [(Ur w.1 143 (C2 y.1 y.2.1 w.2.1 y.2.2.2.1 w.2.2)), (Rg Kf 32 w.2.1 y.2.2.1), (Rg (Kl (Ki .i64)) 23 w.2.2 y.2.2.2.2)]
 | (.inr (.inr (.inr (.inr (.inr (.inr (.inr y))))))) => [(Ur w.1 114 (C4 y.1 w.2.1 y.2.2)), (Rg KG53 53 w.2.1 y.2.1)]

theorem impl_geometry_b_sim {recf : Int → Int → Int → (List Nat) → (List Int) → (List (List Int)) → (List T27) → Option ((Int × Int × (List Nat) × Int) ⊕ ((Int × Int × (List Nat) × Int) ⊕ ((Int × Int × (List Nat) × Int) ⊕ ((Int × Int × (List Nat) × Int × (List Int)) ⊕ ((Int × Int × (List Nat) × Int × (List Int)) ⊕ ((Int × Int × (List Nat) × Int × (List Int)) ⊕ ((Int × Int × (List Nat) × Int × (List (List Int))) ⊕ (Int × (List G53) × Int))))))))} (hrec : ∀  (a0_0 a0_1 a0_2 : Int) (a0_3 : List Nat) (a0_4 : List Int) (a0_5 : List (List Int)) (a0_6 : List T27) (out : (Int × Int × (List Nat) × Int) ⊕ ((Int × Int × (List Nat) × Int) ⊕ ((Int × Int × (List Nat) × Int) ⊕ ((Int × Int × (List Nat) × Int × (List Int)) ⊕ ((Int × Int × (List Nat) × Int × (List Int)) ⊕ ((Int × Int × (List Nat) × Int × (List Int)) ⊕ ((Int × Int × (List Nat) × Int × (List (List Int))) ⊕ (Int × (List G53) × Int)))))))), recf a0_0 a0_1 a0_2 a0_3 a0_4 a0_5 a0_6 = some out → Sx.Fn Try.prog 30 [(Ag (C0 a0_0 a0_1 a0_2 a0_3 a0_4 a0_5 a0_6))] [] (fun w => impl_geometry_r a0_0 a0_1 a0_2 a0_3 a0_4 a0_5 a0_6 out w) (fun w => impl_geometry_h a0_0 a0_1 a0_2 a0_3 a0_4 a0_5 a0_6 out w)) {k : Nat}  (a0_0 a0_1 a0_2 : Int) (a0_3 : List Nat) (a0_4 : List Int) (a0_5 : List (List Int)) (a0_6 : List T27) {out : (Int × Int × (List Nat) × Int) ⊕ ((Int × Int × (List Nat) × Int) ⊕ ((Int × Int × (List Nat) × Int) ⊕ ((Int × Int × (List Nat) × Int × (List Int)) ⊕ ((Int × Int × (List Nat) × Int × (List Int)) ⊕ ((Int × Int × (List Nat) × Int × (List Int)) ⊕ ((Int × Int × (List Nat) × Int × (List (List Int))) ⊕ (Int × (List G53) × Int)))))))} (hp : impl_geometry_b recf k a0_0 a0_1 a0_2 a0_3 a0_4 a0_5 a0_6 = some out) : Sx.Fn Try.prog 30 [(Ag (C0 a0_0 a0_1 a0_2 a0_3 a0_4 a0_5 a0_6))] [] (fun w => impl_geometry_r a0_0 a0_1 a0_2 a0_3 a0_4 a0_5 a0_6 out w) (fun w => impl_geometry_h a0_0 a0_1 a0_2 a0_3 a0_4 a0_5 a0_6 out w) := by
 unfold impl_geometry_b at hp
 refine fn_of Try.func30 rfl Try.ntmps30 rfl fun E hM => ?_
 refine cr fun K1 hK1 => ?_
 refine so (ox_box' rfl (lv_ag _) rfl rfl) fun q1 => ?_
 refine sa rfl ?_
 refine nk hK1 ?_
 refine cx_seq' fun K2 hK2 => ?_
 refine cx_plan' [] [] [(0, 1), (1, 1), (2, 1), (3, 1), (4, 0), (5, 1), (6, 1)] mixed (by kernel_rfl) ?_
 refine pd rfl (rd_field' (off := 1) rfl Try.underlying27 rfl info3 rfl) ?_
 refine pd rfl (rd_load' (i := 0) (o := 1) rfl (ar rfl rfl rfl rfl) rfl flat3) ?_
 refine pd rfl (rd_field' (off := 3) rfl Try.underlying27 rfl info22 rfl) ?_
 refine pd rfl (rd_load' (i := 0) (o := 3) rfl (ar rfl rfl rfl rfl) rfl flat22) ?_
 obtain ⟨r12, hr12, hp⟩ := bind_some hp
 refine px_ox' rfl (ox_calln' (ent_fn' Try.func59 isn59 rfl rfl) (impl_floats_sim _ hr12 : Sx.Fn Try.prog 59 [(Sl Kf a0_3)] [] (fun x : Gs => (Vw x)) (fun x => [(Rg Kf 32 x r12)])) (Hn := fun x : Gs => [(Rg Kf 32 x r12), (Ur q1 27 (C0 a0_0 a0_1 a0_2 a0_3 a0_4 a0_5 a0_6))]) (fun _ => rfl) rfl rfl) rfl bs_nil (wt_none' rfl) fun g12 => ?_
 iterate 2 refine pd rfl (rd_assign' rfl) ?_
 refine px_nil' ?_
 show TX E K2 _
 refine tx_k' hK2 ?_
 refine cx_seq' fun K3 hK3 => ?_
 refine cr fun K4 hK4 => ?_
 refine sf rfl Try.underlying27 rfl info3 rfl ?_
 refine sl (i := 1) (o := 0) rfl (ar rfl rfl rfl rfl) rfl flat3 ?_
 refine nk hK4 ?_
 refine cx_block' ?_
 refine cr fun K5 hK5 => ?_
 refine sb rfl rfl eg_int ru_eql ?_
 refine sa rfl ?_
 refine nk hK5 ?_
 refine cx_cond' rfl (fun h1 => ?_) (fun h1 => ?_)
 ·replace hp := (br_t h1).symm.trans hp
  refine cx_seq' fun K6 hK6 => ?_
  refine cx_plan' [] [(5, 1)] [(0, 1), (1, 1), (3, 1), (4, 1), (2, 0), (5, 0), (6, 1), (7, 1)] mixed (by kernel_rfl) ?_
  iterate 2 refine pd rfl (rd_move' rfl) ?_
  refine pd rfl (rd_field' (off := 2) rfl Try.underlying27 rfl info3 rfl) ?_
  refine pd rfl (rd_load' (i := 1) (o := 2) rfl (ar rfl rfl rfl rfl) rfl flat3) ?_
  refine tx_fz' (frz_row 0 [(12, (Vw g12), (Sl Kf r12)), (4, (Vw g12), (Sl Kf r12)), (18, (Vw g12), (Sl Kf r12))] (K := Kf) (xs := r12) (by decide) rfl ⟨⟨rfl, frz_it⟩, ⟨rfl, frz_it⟩, ⟨rfl, frz_it⟩, trivial⟩ (H' := [(Ur q1 27 (C0 a0_0 a0_1 a0_2 a0_3 a0_4 a0_5 a0_6))]) frzH_refl) ?_
  obtain ⟨r19, hr19, hp⟩ := bind_some hp
  refine px_ox' rfl (ox_calln' (ent_fn' Try.func60 isn60 rfl rfl) (gogeom_NewPointFlat_sim _ _ hr19 : Sx.Fn Try.prog 60 [(Vi a0_1), (Sl Kf r12)] [] (fun x : Addr => (Vp x)) (fun x => [(Ur x 135 (C3 r19.1 r19.2.1 r19.2.2.1 r19.2.2.2))])) (Hn := fun x : Addr => [(Ur x 135 (C3 r19.1 r19.2.1 r19.2.2.1 r19.2.2.2)), (Ur q1 27 (C0 a0_0 a0_1 a0_2 a0_3 a0_4 a0_5 a0_6))]) (fun _ => rfl) rfl rfl) rfl bs_nil (wt_none' rfl) fun q19 => ?_
  obtain ⟨r22, hr22, hp⟩ := bind_some hp
  refine px_oxb' (is := [0]) rfl (oxb_callg (ent_fn' Try.func61 isn61 rfl rfl) (gogeom_Point_SetSRID_sim _ _ _ _ _ hr22 : Sx.Fn Try.prog 61 [(Vp q19), (Vi a0_2)] [(Ur q19 135 (C3 r19.1 r19.2.1 r19.2.2.1 r19.2.2.2))] (fun x : Unit => (Vp q19)) (fun x => [(Ur q19 135 (C3 r22.1 r22.2.1 r22.2.2.1 r22.2.2.2))])) [0] [1] (by decide) (pc rfl pn) (pc rfl pn) (Hn := fun x : Unit => [(Ur q19 135 (C3 r22.1 r22.2.1 r22.2.2.1 r22.2.2.2)), (Ur q1 27 (C0 a0_0 a0_1 a0_2 a0_3 a0_4 a0_5 a0_6))]) (fun _ => rfl) rfl rfl) (pc rfl pn) rfl bl_nil (wt_none' rfl) fun ⟨⟩ => ?_
  refine pd rfl (rd_iface' rfl ⟨_, Try.underlying72, fun _ h => (nomatch h)⟩) ?_
  refine pd rfl (rd_assign' rfl) ?_
  refine px_nil' ?_
  show TX E K6 _
  refine tx_k' hK6 ?_
  refine cx_retc' ?_
  replace hp := sj hp
  subst hp
  refine tk (L' := [(2, (If 72 (Vp q19)))]) (H' := [(Ur q19 135 (C3 r22.1 r22.2.1 r22.2.2.1 r22.2.2.2))]) [0] (uc rfl un) (pc rfl pn) ?_
  exact tx_ret1' Try.results30 rfl (q19, (none, 0, 0), (none, 0, 0)) (rv_tmp' rfl) lr
 replace hp := (br_f h1).symm.trans hp
 refine cr fun K7 hK7 => ?_
 refine sb rfl rfl eg_int ru_eql ?_
 refine sa rfl ?_
 refine nk hK7 ?_
 refine cx_cond' rfl (fun h2 => ?_) (fun h2 => ?_)
 ·replace hp := (br_t h2).symm.trans hp
  refine cx_seq' fun K8 hK8 => ?_
  refine cx_plan' [] [(5, 1)] [(0, 1), (1, 1), (3, 1), (4, 1), (2, 0), (5, 0), (6, 1), (7, 1)] mixed (by kernel_rfl) ?_
  iterate 2 refine pd rfl (rd_move' rfl) ?_
  refine pd rfl (rd_field' (off := 2) rfl Try.underlying27 rfl info3 rfl) ?_
  refine pd rfl (rd_load' (i := 1) (o := 2) rfl (ar rfl rfl rfl rfl) rfl flat3) ?_
  refine tx_fz' (frz_row 0 [(12, (Vw g12), (Sl Kf r12)), (4, (Vw g12), (Sl Kf r12)), (27, (Vw g12), (Sl Kf r12))] (K := Kf) (xs := r12) (by decide) rfl ⟨⟨rfl, frz_it⟩, ⟨rfl, frz_it⟩, ⟨rfl, frz_it⟩, trivial⟩ (H' := [(Ur q1 27 (C0 a0_0 a0_1 a0_2 a0_3 a0_4 a0_5 a0_6))]) frzH_refl) ?_
  obtain ⟨r28, hr28, hp⟩ := bind_some hp
  refine px_ox' rfl (ox_calln' (ent_fn' Try.func62 isn62 rfl rfl) (gogeom_NewLineStringFlat_sim _ _ hr28 : Sx.Fn Try.prog 62 [(Vi a0_1), (Sl Kf r12)] [] (fun x : Addr => (Vp x)) (fun x => [(Ur x 138 (C3 r28.1 r28.2.1 r28.2.2.1 r28.2.2.2))])) (Hn := fun x : Addr => [(Ur x 138 (C3 r28.1 r28.2.1 r28.2.2.1 r28.2.2.2)), (Ur q1 27 (C0 a0_0 a0_1 a0_2 a0_3 a0_4 a0_5 a0_6))]) (fun _ => rfl) rfl rfl) rfl bs_nil (wt_none' rfl) fun q28 => ?_
  obtain ⟨r31, hr31, hp⟩ := bind_some hp
  refine px_oxb' (is := [0]) rfl (oxb_callg (ent_fn' Try.func63 isn63 rfl rfl) (gogeom_LineString_SetSRID_sim _ _ _ _ _ hr31 : Sx.Fn Try.prog 63 [(Vp q28), (Vi a0_2)] [(Ur q28 138 (C3 r28.1 r28.2.1 r28.2.2.1 r28.2.2.2))] (fun x : Unit => (Vp q28)) (fun x => [(Ur q28 138 (C3 r31.1 r31.2.1 r31.2.2.1 r31.2.2.2))])) [0] [1] (by decide) (pc rfl pn) (pc rfl pn) (Hn := fun x : Unit => [(Ur q28 138 (C3 r31.1 r31.2.1 r31.2.2.1 r31.2.2.2)), (Ur q1 27 (C0 a0_0 a0_1 a0_2 a0_3 a0_4 a0_5 a0_6))]) (fun _ => rfl) rfl rfl) (pc rfl pn) rfl bl_nil (wt_none' rfl) fun ⟨⟩ => ?_
  refine pd rfl (rd_iface' rfl ⟨_, Try.underlying75, fun _ h => (nomatch h)⟩) ?_
  refine pd rfl (rd_assign' rfl) ?_
  refine px_nil' ?_
  show TX E K8 _
  refine tx_k' hK8 ?_
  refine cx_retc' ?_
  replace hp := sj hp
  subst hp
  refine tk (L' := [(2, (If 75 (Vp q28)))]) (H' := [(Ur q28 138 (C3 r31.1 r31.2.1 r31.2.2.1 r31.2.2.2))]) [0] (uc rfl un) (pc rfl pn) ?_
  exact tx_ret1' Try.results30 rfl (q28, (none, 0, 0), (none, 0, 0)) (rv_tmp' rfl) lr
 replace hp := (br_f h2).symm.trans hp
 refine cr fun K9 hK9 => ?_
 refine sb rfl rfl eg_int ru_eql ?_
 refine sa rfl ?_
 refine nk hK9 ?_
 refine cx_cond' rfl (fun h3 => ?_) (fun h3 => ?_)
 ·replace hp := (br_t h3).symm.trans hp
  refine cx_seq' fun K10 hK10 => ?_
  refine cx_plan' [] [(5, 1)] [(0, 1), (1, 1), (3, 1), (4, 1), (2, 0), (5, 0), (6, 1), (7, 1)] mixed (by kernel_rfl) ?_
  iterate 2 refine pd rfl (rd_move' rfl) ?_
  refine pd rfl (rd_field' (off := 2) rfl Try.underlying27 rfl info3 rfl) ?_
  refine pd rfl (rd_load' (i := 1) (o := 2) rfl (ar rfl rfl rfl rfl) rfl flat3) ?_
  refine tx_fz' (frz_row 0 [(12, (Vw g12), (Sl Kf r12)), (4, (Vw g12), (Sl Kf r12)), (36, (Vw g12), (Sl Kf r12))] (K := Kf) (xs := r12) (by decide) rfl ⟨⟨rfl, frz_it⟩, ⟨rfl, frz_it⟩, ⟨rfl, frz_it⟩, trivial⟩ (H' := [(Ur q1 27 (C0 a0_0 a0_1 a0_2 a0_3 a0_4 a0_5 a0_6))]) frzH_refl) ?_
  obtain ⟨r37, hr37, hp⟩ := bind_some hp
  refine px_ox' rfl (ox_calln' (ent_fn' Try.func64 isn64 rfl rfl) (gogeom_NewLinearRingFlat_sim _ _ hr37 : Sx.Fn Try.prog 64 [(Vi a0_1), (Sl Kf r12)] [] (fun x : Addr => (Vp x)) (fun x => [(Ur x 128 (C3 r37.1 r37.2.1 r37.2.2.1 r37.2.2.2))])) (Hn := fun x : Addr => [(Ur x 128 (C3 r37.1 r37.2.1 r37.2.2.1 r37.2.2.2)), (Ur q1 27 (C0 a0_0 a0_1 a0_2 a0_3 a0_4 a0_5 a0_6))]) (fun _ => rfl) rfl rfl) rfl bs_nil (wt_none' rfl) fun q37 => ?_
  obtain ⟨r40, hr40, hp⟩ := bind_some hp
  refine px_oxb' (is := [0]) rfl (oxb_callg (ent_fn' Try.func65 isn65 rfl rfl) (gogeom_LinearRing_SetSRID_sim _ _ _ _ _ hr40 : Sx.Fn Try.prog 65 [(Vp q37), (Vi a0_2)] [(Ur q37 128 (C3 r37.1 r37.2.1 r37.2.2.1 r37.2.2.2))] (fun x : Unit => (Vp q37)) (fun x => [(Ur q37 128 (C3 r40.1 r40.2.1 r40.2.2.1 r40.2.2.2))])) [0] [1] (by decide) (pc rfl pn) (pc rfl pn) (Hn := fun x : Unit => [(Ur q37 128 (C3 r40.1 r40.2.1 r40.2.2.1 r40.2.2.2)), (Ur q1 27 (C0 a0_0 a0_1 a0_2 a0_3 a0_4 a0_5 a0_6))]) (fun _ => rfl) rfl rfl) (pc rfl pn) rfl bl_nil (wt_none' rfl) fun ⟨⟩ => ?_
  refine pd rfl (rd_iface' rfl ⟨_, Try.underlying69, fun _ h => (nomatch h)⟩) ?_
  refine pd rfl (rd_assign' rfl) ?_
  refine px_nil' ?_
  show TX E K10 _
  refine tx_k' hK10 ?_
  refine cx_retc' ?_
  replace hp := sj hp
  subst hp
  refine tk (L' := [(2, (If 69 (Vp q37)))]) (H' := [(Ur q37 128 (C3 r40.1 r40.2.1 r40.2.2.1 r40.2.2.2))]) [0] (uc rfl un) (pc rfl pn) ?_
  exact tx_ret1' Try.results30 rfl (q37, (none, 0, 0), (none, 0, 0)) (rv_tmp' rfl) lr
 replace hp := (br_f h3).symm.trans hp
 refine cr fun K11 hK11 => ?_
 refine sb rfl rfl eg_int ru_eql ?_
 refine sa rfl ?_
 refine nk hK11 ?_
 refine cx_cond' rfl (fun h4 => ?_) (fun h4 => ?_)
 ·replace hp := (br_t h4).symm.trans hp
  refine cx_seq' fun K12 hK12 => ?_
  refine cx_plan' [q1.block] [(5, 1), (8, 1)] [(0, 1), (1, 1), (2, 1), (3, 1), (6, 2), (7, 2), (4, 0), (5, 0), (8, 0), (9, 1), (10, 1)] mixed (by kernel_rfl) ?_
  iterate 2 refine pd rfl (rd_move' rfl) ?_
  refine pd rfl (rd_field' (off := 4) rfl Try.underlying27 rfl info23 rfl) ?_
  refine pd rfl (rd_load' (i := 1) (o := 4) rfl (ar rfl rfl rfl rfl) rfl flat23) ?_
  refine px_rb' rfl (rb_field' (off := 2) rfl Try.underlying27 rfl info3 rfl) rfl rfl (wt_none' rfl) ?_
  refine px_rb' rfl (rb_load' (i := 1) (o := 2) rfl (ar rfl rfl rfl rfl) rfl flat3 (by simp)) rfl rfl (wt_none' rfl) ?_
  obtain ⟨r48, hr48, hp⟩ := bind_some hp
  rcases r48 with y5 | y5
  ·dsimp only at hp
   refine px_ox' rfl (ox_calln' (ent_fn' Try.func58 isn58 rfl rfl) (impl_ints_sim _ hr48 : Sx.Fn Try.prog 58 [(Sl (Ki .i64) a0_4)] [] (fun x : Gs => Vn) (fun x => [])) (Hn := fun x : Gs => [(Rg Kf 32 g12 r12), (Ur q1 27 (C0 a0_0 a0_1 a0_2 a0_3 a0_4 a0_5 a0_6))]) (fun _ => rfl) rfl rfl) rfl (bs_cons (m := 1) rfl rfl rfl bs_nil) (wt_none' rfl) fun g48 => ?_
   obtain ⟨r49, hr49, hp⟩ := bind_some hp
   refine px_oxb' (is := [0]) rfl (oxb_callg (ent_fn' Try.func66 isn66 rfl rfl) (gogeom_NewPolygonFlat_sim _ _ hr49 : Sx.Fn Try.prog 66 [(Vi a0_1), (Vw g12), Vn] [(Rg Kf 32 g12 r12)] (fun x : Addr => (Vp x)) (fun x => [(Rg Kf 32 g12 r49.1), (Ur x 132 (C12 r49.2.1 r49.2.2.1 g12 r49.2.2.2))])) [0] [1] (by decide) (pc rfl pn) (pc rfl pn) (Hn := fun x : Addr => [(Rg Kf 32 g12 r49.1), (Ur x 132 (C12 r49.2.1 r49.2.2.1 g12 r49.2.2.2)), (Ur q1 27 (C0 a0_0 a0_1 a0_2 a0_3 a0_4 a0_5 a0_6))]) (fun _ => rfl) rfl rfl) (pc rfl pn) rfl (bl_cons (m := 1) (by decide) rfl rfl bl_nil) (wt_none' rfl) fun q49 => ?_
   obtain ⟨r52, hr52, hp⟩ := bind_some hp
   refine px_oxb' (is := [1, 0]) rfl (oxb_callg (ent_fn' Try.func67 isn67 rfl rfl) (gogeom_Polygon_SetSRID_sim _ _ _ _ _ hr52 : Sx.Fn Try.prog 67 [(Vp q49), (Vi a0_2)] [(Ur q49 132 (C12 r49.2.1 r49.2.2.1 g12 r49.2.2.2)), (Rg Kf 32 g12 r49.1)] (fun x : Unit => (Vp q49)) (fun x => [(Ur q49 132 (C12 r52.1 r52.2.1 g12 r52.2.2.2)), (Rg Kf 32 g12 r52.2.2.1)])) [1, 0] [2] (by decide) (p2 rfl rfl) (pc rfl pn) (Hn := fun x : Unit => [(Ur q49 132 (C12 r52.1 r52.2.1 g12 r52.2.2.2)), (Rg Kf 32 g12 r52.2.2.1), (Ur q1 27 (C0 a0_0 a0_1 a0_2 a0_3 a0_4 a0_5 a0_6))]) (fun _ => rfl) rfl rfl) (p2 rfl rfl) rfl (bl_cons (m := 2) (by decide) rfl rfl bl_nil) (wt_none' rfl) fun ⟨⟩ => ?_
   refine pd rfl (rd_iface' rfl ⟨_, Try.underlying67, fun _ h => (nomatch h)⟩) ?_
   refine pd rfl (rd_assign' rfl) ?_
   refine px_nil' ?_
   show TX E K12 _
   refine tx_k' hK12 ?_
   refine cx_retc' ?_
   replace hp := sj hp
   subst hp
   refine tx_nilrow' (Ki .i64) 3 ?_
   refine tk (L' := [(2, (If 67 (Vp q49)))]) (H' := [(Ur q49 132 (C12 r52.1 r52.2.1 g12 r52.2.2.2)), (Rg Kf 32 g12 r52.2.2.1), (Rw (Ki .i64) 3 (Vs (none, 0, 0)) [])]) [1, 2, 0] (uc rfl un) (p3 rfl rfl rfl) ?_
   exact tx_ret1' Try.results30 rfl (q49, g12, (none, 0, 0)) (rv_tmp' rfl) lr
  dsimp only at hp
  refine px_ox' rfl (ox_calln' (ent_fn' Try.func58 isn58 rfl rfl) (impl_ints_sim _ hr48 : Sx.Fn Try.prog 58 [(Sl (Ki .i64) a0_4)] [] (fun x : Gs => (Vw x)) (fun x => [(Rg (Ki .i64) 3 x y5)])) (Hn := fun x : Gs => [(Rg (Ki .i64) 3 x y5), (Rg Kf 32 g12 r12), (Ur q1 27 (C0 a0_0 a0_1 a0_2 a0_3 a0_4 a0_5 a0_6))]) (fun _ => rfl) rfl rfl) rfl (bs_cons (m := 1) rfl rfl rfl bs_nil) (wt_none' rfl) fun g48 => ?_
  obtain ⟨r49, hr49, hp⟩ := bind_some hp
  refine px_oxb' (is := [1, 0]) rfl (oxb_callg (ent_fn' Try.func66 isn66 rfl rfl) (gogeom_NewPolygonFlat_v2_sim _ _ _ hr49 : Sx.Fn Try.prog 66 [(Vi a0_1), (Vw g12), (Vw g48)] [(Rg Kf 32 g12 r12), (Rg (Ki .i64) 3 g48 y5)] (fun x : Addr => (Vp x)) (fun x => [(Rg Kf 32 g12 r49.1), (Rg (Ki .i64) 3 g48 r49.2.1), (Ur x 132 (C2 r49.2.2.1 r49.2.2.2.1 g12 r49.2.2.2.2 g48))])) [1, 0] [2] (by decide) (p2 rfl rfl) (pc rfl pn) (Hn := fun x : Addr => [(Rg Kf 32 g12 r49.1), (Rg (Ki .i64) 3 g48 r49.2.1), (Ur x 132 (C2 r49.2.2.1 r49.2.2.2.1 g12 r49.2.2.2.2 g48)), (Ur q1 27 (C0 a0_0 a0_1 a0_2 a0_3 a0_4 a0_5 a0_6))]) (fun _ => rfl) rfl rfl) (p2 rfl rfl) rfl (bl_cons (m := 2) (by decide) rfl rfl bl_nil) (wt_none' rfl) fun q49 => ?_
  obtain ⟨r52, hr52, hp⟩ := bind_some hp
  refine px_oxb' (is := [2, 0, 1]) rfl (oxb_callg (ent_fn' Try.func67 isn67 rfl rfl) (gogeom_Polygon_SetSRID_v2_sim _ _ _ _ _ _ hr52 : Sx.Fn Try.prog 67 [(Vp q49), (Vi a0_2)] [(Ur q49 132 (C2 r49.2.2.1 r49.2.2.2.1 g12 r49.2.2.2.2 g48)), (Rg Kf 32 g12 r49.1), (Rg (Ki .i64) 3 g48 r49.2.1)] (fun x : Unit => (Vp q49)) (fun x => [(Ur q49 132 (C2 r52.1 r52.2.1 g12 r52.2.2.2.1 g48)), (Rg Kf 32 g12 r52.2.2.1), (Rg (Ki .i64) 3 g48 r52.2.2.2.2)])) [2, 0, 1] [3] (by decide) (p3 rfl rfl rfl) (pc rfl pn) (Hn := fun x : Unit => [(Ur q49 132 (C2 r52.1 r52.2.1 g12 r52.2.2.2.1 g48)), (Rg Kf 32 g12 r52.2.2.1), (Rg (Ki .i64) 3 g48 r52.2.2.2.2), (Ur q1 27 (C0 a0_0 a0_1 a0_2 a0_3 a0_4 a0_5 a0_6))]) (fun _ => rfl) rfl rfl) (p3 rfl rfl rfl) rfl (bl_cons (m := 3) (by decide) rfl rfl bl_nil) (wt_none' rfl) fun ⟨⟩ => ?_
  refine pd rfl (rd_iface' rfl ⟨_, Try.underlying67, fun _ h => (nomatch h)⟩) ?_
  refine pd rfl (rd_assign' rfl) ?_
  refine px_nil' ?_
  show TX E K12 _
  refine tx_k' hK12 ?_
  refine cx_retc' ?_
  replace hp := sj hp
  subst hp
  refine tk (L' := [(2, (If 67 (Vp q49)))]) (H' := [(Ur q49 132 (C2 r52.1 r52.2.1 g12 r52.2.2.2.1 g48)), (Rg Kf 32 g12 r52.2.2.1), (Rg (Ki .i64) 3 g48 r52.2.2.2.2)]) [0, 1, 2] (uc rfl un) (p3 rfl rfl rfl) ?_
  exact tx_ret1' Try.results30 rfl (q49, g12, g48) (rv_tmp' rfl) lr
 replace hp := (br_f h4).symm.trans hp
 refine cr fun K13 hK13 => ?_
 refine sb rfl rfl eg_int ru_eql ?_
 refine sa rfl ?_
 refine nk hK13 ?_
 refine cx_cond' rfl (fun h5 => ?_) (fun h5 => ?_)
 ·replace hp := (br_t h5).symm.trans hp
  refine cx_seq' fun K14 hK14 => ?_
  refine cx_plan' [q1.block] [(5, 1), (7, 1), (10, 1)] [(0, 2), (1, 2), (2, 1), (3, 1), (8, 2), (9, 2), (4, 0), (5, 0), (6, 0), (7, 0), (10, 0), (11, 1), (12, 1)] mixed (by kernel_rfl) ?_
  iterate 2 refine px_rb' rfl (rb_move' rfl) rfl rfl (wt_none' rfl) ?_
  refine pd rfl (rd_field' (off := 4) rfl Try.underlying27 rfl info23 rfl) ?_
  refine pd rfl (rd_load' (i := 1) (o := 4) rfl (ar rfl rfl rfl rfl) rfl flat23) ?_
  refine px_rb' rfl (rb_field' (off := 2) rfl Try.underlying27 rfl info3 rfl) rfl rfl (wt_none' rfl) ?_
  refine px_rb' rfl (rb_load' (i := 1) (o := 2) rfl (ar rfl rfl rfl rfl) rfl flat3 (by simp)) rfl rfl (wt_none' rfl) ?_
  obtain ⟨r60, hr60, hp⟩ := bind_some hp
  rcases r60 with y8 | y8
  ·dsimp only at hp
   refine px_ox' rfl (ox_calln' (ent_fn' Try.func58 isn58 rfl rfl) (impl_ints_sim _ hr60 : Sx.Fn Try.prog 58 [(Sl (Ki .i64) a0_4)] [] (fun x : Gs => Vn) (fun x => [])) (Hn := fun x : Gs => [(Rg Kf 32 g12 r12), (Ur q1 27 (C0 a0_0 a0_1 a0_2 a0_3 a0_4 a0_5 a0_6))]) (fun _ => rfl) rfl rfl) rfl (bs_cons (m := 1) rfl rfl rfl bs_nil) (wt_none' rfl) fun g60 => ?_
   obtain ⟨r61, hr61, hp⟩ := bind_some hp
   refine px_ox' rfl (ox_calln' (ent_fn' Try.func69 isn69 rfl rfl) (gogeom_NewMultiPointFlatOptionWithEnds_sim hr61 : Sx.Fn Try.prog 69 [Vn] [] (fun x : Addr => (Vl (.func (.func 90) #[] ⟨[.pointer (some x)]⟩))) (fun x => [(Ur x 23 [Vn])])) (Hn := fun x : Addr => [(Ur x 23 [Vn]), (Rg Kf 32 g12 r12), (Ur q1 27 (C0 a0_0 a0_1 a0_2 a0_3 a0_4 a0_5 a0_6))]) (fun _ => rfl) rfl rfl) rfl (bs_cons (m := 1) rfl rfl rfl bs_nil) (wt_none' rfl) fun q61 => ?_
   refine px_ox' rfl (ox_srow' (es := 1) (r := [(Vl (.func (.func 90) #[] ⟨[.pointer (some q61)]⟩))]) (qs := [(0, [(Vl (.func (.func 90) #[] ⟨[.pointer (some q61)]⟩))])]) ⟨rfl, ⟨_, rfl, (lv_vl rfl rfl)⟩, trivial⟩ Try.underlying153 info101 rfl rfl rfl rfl rfl rfl rfl rfl rfl) rfl (bs_cons (m := 2) rfl rfl rfl bs_nil) (wt_none' rfl) fun q62 => ?_
   obtain ⟨r63, hr63, hp⟩ := bind_some hp
   refine px_oxb' (is := [2, 0, 1]) rfl (oxb_callg (ent_fn' Try.func68 isn68 rfl rfl) (gogeom_NewMultiPointFlat_sim _ _ hr63 : Sx.Fn Try.prog 68 [(Vi a0_1), (Vw g12), (Vl (.slice (some q62) 1 1))] [(Rg Kf 32 g12 r12), ⟨.slice (some q62) 1 1, [(Vl (.func (.func 90) #[] ⟨[.pointer (some q61)]⟩))], 101, some 1⟩, (Ur q61 23 [Vn])] (fun x : Addr × Gs => (Vp x.1)) (fun x => [(Rg Kf 32 g12 r63.1), (Ur q61 23 [Vn]), (Ur x.1 136 (C2 r63.2.1 r63.2.2.1 g12 r63.2.2.2.1 x.2)), (Rg (Ki .i64) 3 x.2 r63.2.2.2.2)])) [2, 0, 1] [3] (by decide) (p3 rfl rfl rfl) (pc rfl pn) (Hn := fun x : Addr × Gs => [(Rg Kf 32 g12 r63.1), (Ur q61 23 [Vn]), (Ur x.1 136 (C2 r63.2.1 r63.2.2.1 g12 r63.2.2.2.1 x.2)), (Rg (Ki .i64) 3 x.2 r63.2.2.2.2), (Ur q1 27 (C0 a0_0 a0_1 a0_2 a0_3 a0_4 a0_5 a0_6))]) (fun _ => rfl) rfl rfl) (p3 rfl rfl rfl) rfl (bl_cons (m := 3) (by decide) rfl rfl bl_nil) (wt_none' rfl) fun ⟨q63, g63⟩ => ?_
   obtain ⟨r66, hr66, hp⟩ := bind_some hp
   refine px_oxb' (is := [2, 0, 3]) rfl (oxb_callg (ent_fn' Try.func70 isn70 rfl rfl) (gogeom_MultiPoint_SetSRID_sim _ _ _ _ _ _ hr66 : Sx.Fn Try.prog 70 [(Vp q63), (Vi a0_2)] [(Ur q63 136 (C2 r63.2.1 r63.2.2.1 g12 r63.2.2.2.1 g63)), (Rg Kf 32 g12 r63.1), (Rg (Ki .i64) 3 g63 r63.2.2.2.2)] (fun x : Unit => (Vp q63)) (fun x => [(Ur q63 136 (C2 r66.1 r66.2.1 g12 r66.2.2.2.1 g63)), (Rg Kf 32 g12 r66.2.2.1), (Rg (Ki .i64) 3 g63 r66.2.2.2.2)])) [2, 0, 3] [1, 4] (by decide) (p3 rfl rfl rfl) (p2 rfl rfl) (Hn := fun x : Unit => [(Ur q63 136 (C2 r66.1 r66.2.1 g12 r66.2.2.2.1 g63)), (Rg Kf 32 g12 r66.2.2.1), (Rg (Ki .i64) 3 g63 r66.2.2.2.2), (Ur q61 23 [Vn]), (Ur q1 27 (C0 a0_0 a0_1 a0_2 a0_3 a0_4 a0_5 a0_6))]) (fun _ => rfl) rfl rfl) (p3 rfl rfl rfl) rfl (bl_cons (m := 4) (by decide) rfl rfl bl_nil) (wt_none' rfl) fun ⟨⟩ => ?_
   refine pd rfl (rd_iface' rfl ⟨_, Try.underlying70, fun _ h => (nomatch h)⟩) ?_
   refine pd rfl (rd_assign' rfl) ?_
   refine px_nil' ?_
   show TX E K14 _
   refine tx_k' hK14 ?_
   refine cx_retc' ?_
   replace hp := sj hp
   subst hp
   refine tk (L' := [(2, (If 70 (Vp q63)))]) (H' := [(Ur q63 136 (C2 r66.1 r66.2.1 g12 r66.2.2.2.1 g63)), (Rg Kf 32 g12 r66.2.2.1), (Rg (Ki .i64) 3 g63 r66.2.2.2.2)]) [0, 1, 2] (uc rfl un) (p3 rfl rfl rfl) ?_
   exact tx_ret1' Try.results30 rfl (q63, g12, g63) (rv_tmp' rfl) lr
  dsimp only at hp
  refine px_ox' rfl (ox_calln' (ent_fn' Try.func58 isn58 rfl rfl) (impl_ints_sim _ hr60 : Sx.Fn Try.prog 58 [(Sl (Ki .i64) a0_4)] [] (fun x : Gs => (Vw x)) (fun x => [(Rg (Ki .i64) 3 x y8)])) (Hn := fun x : Gs => [(Rg (Ki .i64) 3 x y8), (Rg Kf 32 g12 r12), (Ur q1 27 (C0 a0_0 a0_1 a0_2 a0_3 a0_4 a0_5 a0_6))]) (fun _ => rfl) rfl rfl) rfl (bs_cons (m := 1) rfl rfl rfl bs_nil) (wt_none' rfl) fun g60 => ?_
  obtain ⟨r61, hr61, hp⟩ := bind_some hp
  refine px_oxb' (is := [0]) rfl (oxb_callg (ent_fn' Try.func69 isn69 rfl rfl) (gogeom_NewMultiPointFlatOptionWithEnds_v2_sim _ hr61 : Sx.Fn Try.prog 69 [(Vw g60)] [(Rg (Ki .i64) 3 g60 y8)] (fun x : Addr => (Vl (.func (.func 90) #[] ⟨[.pointer (some x)]⟩))) (fun x => [(Rg (Ki .i64) 3 g60 r61), (Ur x 23 [(Vw g60)])])) [0] [1, 2] (by decide) (pc rfl pn) (p2 rfl rfl) (Hn := fun x : Addr => [(Rg (Ki .i64) 3 g60 r61), (Ur x 23 [(Vw g60)]), (Rg Kf 32 g12 r12), (Ur q1 27 (C0 a0_0 a0_1 a0_2 a0_3 a0_4 a0_5 a0_6))]) (fun _ => rfl) rfl rfl) (pc rfl pn) rfl (bl_cons (m := 2) (by decide) rfl rfl bl_nil) (wt_none' rfl) fun q61 => ?_
  refine px_ox' rfl (ox_srow' (es := 1) (r := [(Vl (.func (.func 90) #[] ⟨[.pointer (some q61)]⟩))]) (qs := [(0, [(Vl (.func (.func 90) #[] ⟨[.pointer (some q61)]⟩))])]) ⟨rfl, ⟨_, rfl, (lv_vl rfl rfl)⟩, trivial⟩ Try.underlying153 info101 rfl rfl rfl rfl rfl rfl rfl rfl rfl) rfl (bs_cons (m := 3) rfl rfl rfl bs_nil) (wt_none' rfl) fun q62 => ?_
  obtain ⟨r63, hr63, hp⟩ := bind_some hp
  refine px_oxb' (is := [3, 0, 2, 1]) rfl (oxb_callg (ent_fn' Try.func68 isn68 rfl rfl) (gogeom_NewMultiPointFlat_v2_sim _ _ _ hr63 : Sx.Fn Try.prog 68 [(Vi a0_1), (Vw g12), (Vl (.slice (some q62) 1 1))] [(Rg Kf 32 g12 r12), ⟨.slice (some q62) 1 1, [(Vl (.func (.func 90) #[] ⟨[.pointer (some q61)]⟩))], 101, some 1⟩, (Ur q61 23 [(Vw g60)]), (Rg (Ki .i64) 3 g60 r61)] (fun x : Addr => (Vp x)) (fun x => [(Rg Kf 32 g12 r63.1), (Ur q61 23 [(Vw g60)]), (Rg (Ki .i64) 3 g60 r63.2.1), (Ur x 136 (C2 r63.2.2.1 r63.2.2.2.1 g12 r63.2.2.2.2 g60))])) [3, 0, 2, 1] [4] (by decide) (p4 rfl rfl rfl rfl) (pc rfl pn) (Hn := fun x : Addr => [(Rg Kf 32 g12 r63.1), (Ur q61 23 [(Vw g60)]), (Rg (Ki .i64) 3 g60 r63.2.1), (Ur x 136 (C2 r63.2.2.1 r63.2.2.2.1 g12 r63.2.2.2.2 g60)), (Ur q1 27 (C0 a0_0 a0_1 a0_2 a0_3 a0_4 a0_5 a0_6))]) (fun _ => rfl) rfl rfl) (p4 rfl rfl rfl rfl) rfl (bl_cons (m := 4) (by decide) rfl rfl bl_nil) (wt_none' rfl) fun q63 => ?_
  obtain ⟨r66, hr66, hp⟩ := bind_some hp
  refine px_oxb' (is := [3, 0, 2]) rfl (oxb_callg (ent_fn' Try.func70 isn70 rfl rfl) (gogeom_MultiPoint_SetSRID_sim _ _ _ _ _ _ hr66 : Sx.Fn Try.prog 70 [(Vp q63), (Vi a0_2)] [(Ur q63 136 (C2 r63.2.2.1 r63.2.2.2.1 g12 r63.2.2.2.2 g60)), (Rg Kf 32 g12 r63.1), (Rg (Ki .i64) 3 g60 r63.2.1)] (fun x : Unit => (Vp q63)) (fun x => [(Ur q63 136 (C2 r66.1 r66.2.1 g12 r66.2.2.2.1 g60)), (Rg Kf 32 g12 r66.2.2.1), (Rg (Ki .i64) 3 g60 r66.2.2.2.2)])) [3, 0, 2] [1, 4] (by decide) (p3 rfl rfl rfl) (p2 rfl rfl) (Hn := fun x : Unit => [(Ur q63 136 (C2 r66.1 r66.2.1 g12 r66.2.2.2.1 g60)), (Rg Kf 32 g12 r66.2.2.1), (Rg (Ki .i64) 3 g60 r66.2.2.2.2), (Ur q61 23 [(Vw g60)]), (Ur q1 27 (C0 a0_0 a0_1 a0_2 a0_3 a0_4 a0_5 a0_6))]) (fun _ => rfl) rfl rfl) (p3 rfl rfl rfl) rfl (bl_cons (m := 4) (by decide) rfl rfl bl_nil) (wt_none' rfl) fun ⟨⟩ => ?_
  refine pd rfl (rd_iface' rfl ⟨_, Try.underlying70, fun _ h => (nomatch h)⟩) ?_
  refine pd rfl (rd_assign' rfl) ?_
  refine px_nil' ?_
  show TX E K14 _
  refine tx_k' hK14 ?_
  refine cx_retc' ?_
  replace hp := sj hp
  subst hp
  refine tk (L' := [(2, (If 70 (Vp q63)))]) (H' := [(Ur q63 136 (C2 r66.1 r66.2.1 g12 r66.2.2.2.1 g60)), (Rg Kf 32 g12 r66.2.2.1), (Rg (Ki .i64) 3 g60 r66.2.2.2.2)]) [0, 1, 2] (uc rfl un) (p3 rfl rfl rfl) ?_
  exact tx_ret1' Try.results30 rfl (q63, g12, g60) (rv_tmp' rfl) lr
 replace hp := (br_f h5).symm.trans hp
 refine cr fun K15 hK15 => ?_
 refine sb rfl rfl eg_int ru_eql ?_
 refine sa rfl ?_
 refine nk hK15 ?_
 refine cx_cond' rfl (fun h6 => ?_) (fun h6 => ?_)
 ·replace hp := (br_t h6).symm.trans hp
  refine cx_seq' fun K16 hK16 => ?_
  refine cx_plan' [q1.block] [(5, 1), (8, 1)] [(0, 1), (1, 1), (2, 1), (3, 1), (6, 2), (7, 2), (4, 0), (5, 0), (8, 0), (9, 1), (10, 1)] mixed (by kernel_rfl) ?_
  iterate 2 refine pd rfl (rd_move' rfl) ?_
  refine pd rfl (rd_field' (off := 4) rfl Try.underlying27 rfl info23 rfl) ?_
  refine pd rfl (rd_load' (i := 1) (o := 4) rfl (ar rfl rfl rfl rfl) rfl flat23) ?_
  refine px_rb' rfl (rb_field' (off := 2) rfl Try.underlying27 rfl info3 rfl) rfl rfl (wt_none' rfl) ?_
  refine px_rb' rfl (rb_load' (i := 1) (o := 2) rfl (ar rfl rfl rfl rfl) rfl flat3 (by simp)) rfl rfl (wt_none' rfl) ?_
  obtain ⟨r74, hr74, hp⟩ := bind_some hp
  rcases r74 with y13 | y13
  ·dsimp only at hp
   refine px_ox' rfl (ox_calln' (ent_fn' Try.func58 isn58 rfl rfl) (impl_ints_sim _ hr74 : Sx.Fn Try.prog 58 [(Sl (Ki .i64) a0_4)] [] (fun x : Gs => Vn) (fun x => [])) (Hn := fun x : Gs => [(Rg Kf 32 g12 r12), (Ur q1 27 (C0 a0_0 a0_1 a0_2 a0_3 a0_4 a0_5 a0_6))]) (fun _ => rfl) rfl rfl) rfl (bs_cons (m := 1) rfl rfl rfl bs_nil) (wt_none' rfl) fun g74 => ?_
   obtain ⟨r75, hr75, hp⟩ := bind_some hp
   refine px_oxb' (is := [0]) rfl (oxb_callg (ent_fn' Try.func71 isn71 rfl rfl) (gogeom_NewMultiLineStringFlat_sim _ _ hr75 : Sx.Fn Try.prog 71 [(Vi a0_1), (Vw g12), Vn] [(Rg Kf 32 g12 r12)] (fun x : Addr => (Vp x)) (fun x => [(Rg Kf 32 g12 r75.1), (Ur x 139 (C12 r75.2.1 r75.2.2.1 g12 r75.2.2.2))])) [0] [1] (by decide) (pc rfl pn) (pc rfl pn) (Hn := fun x : Addr => [(Rg Kf 32 g12 r75.1), (Ur x 139 (C12 r75.2.1 r75.2.2.1 g12 r75.2.2.2)), (Ur q1 27 (C0 a0_0 a0_1 a0_2 a0_3 a0_4 a0_5 a0_6))]) (fun _ => rfl) rfl rfl) (pc rfl pn) rfl (bl_cons (m := 1) (by decide) rfl rfl bl_nil) (wt_none' rfl) fun q75 => ?_
   obtain ⟨r78, hr78, hp⟩ := bind_some hp
   refine px_oxb' (is := [1, 0]) rfl (oxb_callg (ent_fn' Try.func72 isn72 rfl rfl) (gogeom_MultiLineString_SetSRID_sim _ _ _ _ _ hr78 : Sx.Fn Try.prog 72 [(Vp q75), (Vi a0_2)] [(Ur q75 139 (C12 r75.2.1 r75.2.2.1 g12 r75.2.2.2)), (Rg Kf 32 g12 r75.1)] (fun x : Unit => (Vp q75)) (fun x => [(Ur q75 139 (C12 r78.1 r78.2.1 g12 r78.2.2.2)), (Rg Kf 32 g12 r78.2.2.1)])) [1, 0] [2] (by decide) (p2 rfl rfl) (pc rfl pn) (Hn := fun x : Unit => [(Ur q75 139 (C12 r78.1 r78.2.1 g12 r78.2.2.2)), (Rg Kf 32 g12 r78.2.2.1), (Ur q1 27 (C0 a0_0 a0_1 a0_2 a0_3 a0_4 a0_5 a0_6))]) (fun _ => rfl) rfl rfl) (p2 rfl rfl) rfl (bl_cons (m := 2) (by decide) rfl rfl bl_nil) (wt_none' rfl) fun ⟨⟩ => ?_
   refine pd rfl (rd_iface' rfl ⟨_, Try.underlying73, fun _ h => (nomatch h)⟩) ?_
   refine pd rfl (rd_assign' rfl) ?_
   refine px_nil' ?_
   show TX E K16 _
   refine tx_k' hK16 ?_
   refine cx_retc' ?_
   replace hp := sj hp
   subst hp
   refine tx_nilrow' (Ki .i64) 3 ?_
   refine tk (L' := [(2, (If 73 (Vp q75)))]) (H' := [(Ur q75 139 (C12 r78.1 r78.2.1 g12 r78.2.2.2)), (Rg Kf 32 g12 r78.2.2.1), (Rw (Ki .i64) 3 (Vs (none, 0, 0)) [])]) [1, 2, 0] (uc rfl un) (p3 rfl rfl rfl) ?_
   exact tx_ret1' Try.results30 rfl (q75, g12, (none, 0, 0)) (rv_tmp' rfl) lr
  dsimp only at hp
  refine px_ox' rfl (ox_calln' (ent_fn' Try.func58 isn58 rfl rfl) (impl_ints_sim _ hr74 : Sx.Fn Try.prog 58 [(Sl (Ki .i64) a0_4)] [] (fun x : Gs => (Vw x)) (fun x => [(Rg (Ki .i64) 3 x y13)])) (Hn := fun x : Gs => [(Rg (Ki .i64) 3 x y13), (Rg Kf 32 g12 r12), (Ur q1 27 (C0 a0_0 a0_1 a0_2 a0_3 a0_4 a0_5 a0_6))]) (fun _ => rfl) rfl rfl) rfl (bs_cons (m := 1) rfl rfl rfl bs_nil) (wt_none' rfl) fun g74 => ?_
  obtain ⟨r75, hr75, hp⟩ := bind_some hp
  refine px_oxb' (is := [1, 0]) rfl (oxb_callg (ent_fn' Try.func71 isn71 rfl rfl) (gogeom_NewMultiLineStringFlat_v2_sim _ _ _ hr75 : Sx.Fn Try.prog 71 [(Vi a0_1), (Vw g12), (Vw g74)] [(Rg Kf 32 g12 r12), (Rg (Ki .i64) 3 g74 y13)] (fun x : Addr => (Vp x)) (fun x => [(Rg Kf 32 g12 r75.1), (Rg (Ki .i64) 3 g74 r75.2.1), (Ur x 139 (C2 r75.2.2.1 r75.2.2.2.1 g12 r75.2.2.2.2 g74))])) [1, 0] [2] (by decide) (p2 rfl rfl) (pc rfl pn) (Hn := fun x : Addr => [(Rg Kf 32 g12 r75.1), (Rg (Ki .i64) 3 g74 r75.2.1), (Ur x 139 (C2 r75.2.2.1 r75.2.2.2.1 g12 r75.2.2.2.2 g74)), (Ur q1 27 (C0 a0_0 a0_1 a0_2 a0_3 a0_4 a0_5 a0_6))]) (fun _ => rfl) rfl rfl) (p2 rfl rfl) rfl (bl_cons (m := 2) (by decide) rfl rfl bl_nil) (wt_none' rfl) fun q75 => ?_
  obtain ⟨r78, hr78, hp⟩ := bind_some hp
  refine px_oxb' (is := [2, 0, 1]) rfl (oxb_callg (ent_fn' Try.func72 isn72 rfl rfl) (gogeom_MultiLineString_SetSRID_v2_sim _ _ _ _ _ _ hr78 : Sx.Fn Try.prog 72 [(Vp q75), (Vi a0_2)] [(Ur q75 139 (C2 r75.2.2.1 r75.2.2.2.1 g12 r75.2.2.2.2 g74)), (Rg Kf 32 g12 r75.1), (Rg (Ki .i64) 3 g74 r75.2.1)] (fun x : Unit => (Vp q75)) (fun x => [(Ur q75 139 (C2 r78.1 r78.2.1 g12 r78.2.2.2.1 g74)), (Rg Kf 32 g12 r78.2.2.1), (Rg (Ki .i64) 3 g74 r78.2.2.2.2)])) [2, 0, 1] [3] (by decide) (p3 rfl rfl rfl) (pc rfl pn) (Hn := fun x : Unit => [(Ur q75 139 (C2 r78.1 r78.2.1 g12 r78.2.2.2.1 g74)), (Rg Kf 32 g12 r78.2.2.1), (Rg (Ki .i64) 3 g74 r78.2.2.2.2), (Ur q1 27 (C0 a0_0 a0_1 a0_2 a0_3 a0_4 a0_5 a0_6))]) (fun _ => rfl) rfl rfl) (p3 rfl rfl rfl) rfl (bl_cons (m := 3) (by decide) rfl rfl bl_nil) (wt_none' rfl) fun ⟨⟩ => ?_
  refine pd rfl (rd_iface' rfl ⟨_, Try.underlying73, fun _ h => (nomatch h)⟩) ?_
  refine pd rfl (rd_assign' rfl) ?_
  refine px_nil' ?_
  show TX E K16 _
  refine tx_k' hK16 ?_
  refine cx_retc' ?_
  replace hp := sj hp
  subst hp
  refine tk (L' := [(2, (If 73 (Vp q75)))]) (H' := [(Ur q75 139 (C2 r78.1 r78.2.1 g12 r78.2.2.2.1 g74)), (Rg Kf 32 g12 r78.2.2.1), (Rg (Ki .i64) 3 g74 r78.2.2.2.2)]) [0, 1, 2] (uc rfl un) (p3 rfl rfl rfl) ?_
  exact tx_ret1' Try.results30 rfl (q75, g12, g74) (rv_tmp' rfl) lr
 replace hp := (br_f h6).symm.trans hp
 refine cr fun K17 hK17 => ?_
 refine sb rfl rfl eg_int ru_eql ?_
 refine sa rfl ?_
 refine nk hK17 ?_
 refine cx_cond' rfl (fun h7 => ?_) (fun h7 => ?_)
 ·replace hp := (br_t h7).symm.trans hp
  refine cx_seq' fun K18 hK18 => ?_
  refine cx_plan' [q1.block] [(5, 1), (8, 1)] [(0, 1), (1, 1), (2, 1), (3, 1), (6, 2), (7, 2), (4, 0), (5, 0), (8, 0), (9, 1), (10, 1)] mixed (by kernel_rfl) ?_
  iterate 2 refine pd rfl (rd_move' rfl) ?_
  refine pd rfl (rd_field' (off := 5) rfl Try.underlying27 rfl info24 rfl) ?_
  refine pd rfl (rd_load' (i := 1) (o := 5) rfl (ar rfl rfl rfl rfl) rfl flat24) ?_
  refine px_rb' rfl (rb_field' (off := 2) rfl Try.underlying27 rfl info3 rfl) rfl rfl (wt_none' rfl) ?_
  refine px_rb' rfl (rb_load' (i := 1) (o := 2) rfl (ar rfl rfl rfl rfl) rfl flat3 (by simp)) rfl rfl (wt_none' rfl) ?_
  obtain ⟨r86, hr86, hp⟩ := bind_some hp
  refine px_ox' rfl (ox_calln' (ent_fn' Try.func29 isn29 rfl rfl) (impl_intss_sim _ hr86 : Sx.Fn Try.prog 29 [(Sl (Kl (Ki .i64)) a0_5)] [] (fun x : Gs => (Vw x)) (fun x => [(Rg (Kl (Ki .i64)) 23 x r86)])) (Hn := fun x : Gs => [(Rg (Kl (Ki .i64)) 23 x r86), (Rg Kf 32 g12 r12), (Ur q1 27 (C0 a0_0 a0_1 a0_2 a0_3 a0_4 a0_5 a0_6))]) (fun _ => rfl) rfl rfl) rfl (bs_cons (m := 1) rfl rfl rfl bs_nil) (wt_none' rfl) fun g86 => ?_
  obtain ⟨r87, hr87, hp⟩ := bind_some hp
  refine px_oxb' (is := [1, 0]) rfl (oxb_callg (ent_fn' Try.func73 isn73 rfl rfl) (gogeom_NewMultiPolygonFlat_sim _ _ _ hr87 : Sx.Fn Try.prog 73 [(Vi a0_1), (Vw g12), (Vw g86)] [(Rg Kf 32 g12 r12), (Rg (Kl (Ki .i64)) 23 g86 r86)] (fun x : Addr => (Vp x)) (fun x => [(Rg Kf 32 g12 r87.1), (Rg (Kl (Ki .i64)) 23 g86 r87.2.1), (Ur x 143 (C2 r87.2.2.1 r87.2.2.2.1 g12 r87.2.2.2.2 g86))])) [1, 0] [2] (by decide) (p2 rfl rfl) (pc rfl pn) (Hn := fun x : Addr => [(Rg Kf 32 g12 r87.1), (Rg (Kl (Ki .i64)) 23 g86 r87.2.1), (Ur x 143 (C2 r87.2.2.1 r87.2.2.2.1 g12 r87.2.2.2.2 g86)), (Ur q1 27 (C0 a0_0 a0_1 a0_2 a0_3 a0_4 a0_5 a0_6))]) (fun _ => rfl) rfl rfl) (p2 rfl rfl) rfl (bl_cons (m := 2) (by decide) rfl rfl bl_nil) (wt_none' rfl) fun q87 => ?_
  obtain ⟨r90, hr90, hp⟩ := bind_some hp
  refine px_oxb' (is := [2, 0, 1]) rfl (oxb_callg (ent_fn' Try.func74 isn74 rfl rfl) (gogeom_MultiPolygon_SetSRID_sim _ _ _ _ _ _ hr90 : Sx.Fn Try.prog 74 [(Vp q87), (Vi a0_2)] [(Ur q87 143 (C2 r87.2.2.1 r87.2.2.2.1 g12 r87.2.2.2.2 g86)), (Rg Kf 32 g12 r87.1), (Rg (Kl (Ki .i64)) 23 g86 r87.2.1)] (fun x : Unit => (Vp q87)) (fun x => [(Ur q87 143 (C2 r90.1 r90.2.1 g12 r90.2.2.2.1 g86)), (Rg Kf 32 g12 r90.2.2.1), (Rg (Kl (Ki .i64)) 23 g86 r90.2.2.2.2)])) [2, 0, 1] [3] (by decide) (p3 rfl rfl rfl) (pc rfl pn) (Hn := fun x : Unit => [(Ur q87 143 (C2 r90.1 r90.2.1 g12 r90.2.2.2.1 g86)), (Rg Kf 32 g12 r90.2.2.1), (Rg (Kl (Ki .i64)) 23 g86 r90.2.2.2.2), (Ur q1 27 (C0 a0_0 a0_1 a0_2 a0_3 a0_4 a0_5 a0_6))]) (fun _ => rfl) rfl rfl) (p3 rfl rfl rfl) rfl (bl_cons (m := 3) (by decide) rfl rfl bl_nil) (wt_none' rfl) fun ⟨⟩ => ?_
  refine pd rfl (rd_iface' rfl ⟨_, Try.underlying76, fun _ h => (nomatch h)⟩) ?_
  refine pd rfl (rd_assign' rfl) ?_
  refine px_nil' ?_
  show TX E K18 _
  refine tx_k' hK18 ?_
  refine cx_retc' ?_
  replace hp := sj hp
  subst hp
  refine tk (L' := [(2, (If 76 (Vp q87)))]) (H' := [(Ur q87 143 (C2 r90.1 r90.2.1 g12 r90.2.2.2.1 g86)), (Rg Kf 32 g12 r90.2.2.1), (Rg (Kl (Ki .i64)) 23 g86 r90.2.2.2.2)]) [0, 1, 2] (uc rfl un) (p3 rfl rfl rfl) ?_
  exact tx_ret1' Try.results30 rfl (q87, g12, g86) (rv_tmp' rfl) lr
 replace hp := (br_f h7).symm.trans hp
 refine cr fun K19 hK19 => ?_
 refine sb rfl rfl eg_int ru_eql ?_
 refine sa rfl ?_
 refine nk hK19 ?_
 refine cx_cond' rfl (fun h8 => ?_) (fun h8 => ?_)
 ·replace hp := (br_t h8).symm.trans hp
  refine cx_seq' fun K20 hK20 => ?_
  refine cx_plan' [] [(3, 1)] [(1, 1), (2, 1), (0, 0), (3, 0), (4, 1)] mixed (by kernel_rfl) ?_
  refine pd rfl (rd_field' (off := 2) rfl Try.underlying27 rfl info3 rfl) ?_
  refine pd rfl (rd_load' (i := 1) (o := 2) rfl (ar rfl rfl rfl rfl) rfl flat3) ?_
  obtain ⟨r94, hr94, hp⟩ := bind_some hp
  refine px_ox' rfl (ox_calln' (ent_fn' Try.func75 isn75 rfl rfl) (gogeom_NewGeometryCollection_sim hr94 : Sx.Fn Try.prog 75 [] [] (fun x : Addr => (Vp x)) (fun x => [(Ur x 114 (C22 r94 r94))])) (Hn := fun x : Addr => [(Ur x 114 (C22 r94 r94)), (Rg Kf 32 g12 r12), (Ur q1 27 (C0 a0_0 a0_1 a0_2 a0_3 a0_4 a0_5 a0_6))]) (fun _ => rfl) rfl rfl) rfl bs_nil (wt_none' rfl) fun q94 => ?_
  obtain ⟨r97, hr97, hp⟩ := bind_some hp
  refine px_oxb' (is := [0]) rfl (oxb_callg (ent_fn' Try.func76 isn76 rfl rfl) (gogeom_GeometryCollection_SetSRID_sim _ _ _ hr97 : Sx.Fn Try.prog 76 [(Vp q94), (Vi a0_2)] [(Ur q94 114 (C22 r94 r94))] (fun x : Unit => (Vp q94)) (fun x => [(Ur q94 114 (C22 r97.1 r97.2))])) [0] [1, 2] (by decide) (pc rfl pn) (p2 rfl rfl) (Hn := fun x : Unit => [(Ur q94 114 (C22 r97.1 r97.2)), (Rg Kf 32 g12 r12), (Ur q1 27 (C0 a0_0 a0_1 a0_2 a0_3 a0_4 a0_5 a0_6))]) (fun _ => rfl) rfl rfl) (pc rfl pn) rfl bl_nil (wt_none' rfl) fun ⟨⟩ => ?_
  refine pd rfl (rd_assign' rfl) ?_
  refine px_nil' ?_
  show TX E K20 _
  refine tx_k' hK20 ?_
  refine cx_seq' fun K21 hK21 => ?_
  refine cr fun K22 hK22 => ?_
  refine sg (off := 6) rfl Try.underlying27 rfl info25 rfl ?_
  refine sl (i := 2) (o := 6) rfl (ar rfl rfl rfl rfl) rfl flat25 ?_
  refine sk rfl Try.underlying25 ?_
  refine sm rfl ?_
  refine nk hK22 ?_
  refine cx_block' ?_
  obtain ⟨v10, hy1, hp⟩ := bind_some hp
  refine tx_nilrow' KG53 53 ?_
  refine cx_loopg' (F := impl_geometry_l1 a0_6 recf) (G := fun k R v => impl_geometry_l1s a0_6 recf k R v.1 v.2.1 v.2.2.1 v.2.2.2) (x := (r97.1, [], r97.2, 0)) (gh := (none, 0, 0)) (fun (v9 : Int × (List G53) × Int × Int) (w9 : Gs) => (⟨116, [], [(3, (Vi a0_1)), (5, (Vp q94)), (99, (Sl KT27 a0_6)), (100, (Vi (a0_6.length : Int))), (101, (Vi v9.2.2.2))], [(Ur q94 114 (C4 v9.1 w9 v9.2.2.1)), (Rg KG53 53 w9 v9.2.1)]⟩ : St)) (fun (v10 : Int × (List G53) × Int) => Zg E (Exit.exit 1) (fun (w10 : Gs) => (⟨116, [], [(3, (Vi a0_1)), (5, (Vp q94))], [(Ur q94 114 (C4 v10.1 w10 v10.2.2)), (Rg KG53 53 w10 v10.2.1)]⟩ : St))) (fun _ => rfl) (fun _ _ => rfl) ?_ hy1 (tx_to' rfl [1, 0] (u5 rfl rfl rfl rfl rfl) (by decide) (p2 rfl rfl)) ?_
  ·clear hp hy1
   clear v10
   intro k rec1 KY1 ih1
   rintro ⟨x35, x36, x37, x38⟩ g909 y55 hp
   replace hp : impl_geometry_l1s a0_6 recf k rec1 x35 x36 x37 x38 = some y55 := hp
   unfold impl_geometry_l1s at hp
   refine cr fun K28 hK28 => ?_
   refine sb rfl rfl eg_int ru_lss ?_
   refine nk hK28 ?_
   refine cx_seq' fun K29 hK29 => ?_
   refine cx_cond' rfl (fun h11 => ?_) (fun h11 => ?_)
   ·replace hp := (br_t h11).symm.trans hp
    refine cx_skip' ?_
    show TX E K29 _
    refine tx_k' hK29 ?_
    refine cx_seq' fun K30 hK30 => ?_
    refine cx_block' ?_
    refine cr fun K31 hK31 => ?_
    obtain ⟨r103, hr103, hp⟩ := bind_some hp
    refine s0 (rd_eq' (congrArg Pt (KT27_enc r103)) (rd_at' (K := KT27) rfl rfl hr103 Try.underlying25 info27)) ?_
    refine s0 (rd_load_pt_agg' (nn := 7) rfl rfl agg27 (l' := (C0 r103.f0 r103.f1 r103.f2 r103.f3 r103.f4 r103.f5 r103.f6)) rfl) ?_
    refine so (ox_alloc' info27 rfl rfl rfl rfl (l := (C1 0 0 0)) rfl) fun q7 => ?_
    refine so (ox_store' (i := 0) (o := 0) rfl rfl (lv_ag _) (ar rfl rfl rfl rfl) rfl info27 rfl (H' := [(Ur q7 27 (C0 r103.f0 r103.f1 r103.f2 r103.f3 r103.f4 r103.f5 r103.f6)), (Ur q94 114 (C4 x35 g909 x37)), (Rg KG53 53 g909 x36)]) rfl) fun _ => ?_
    refine nk hK31 ?_
    refine cx_region' ?_
    refine sm rfl ?_
    refine s0 (rd_load_agg' (i := 0) (o := 0) (nn := 7) rfl (ar rfl rfl rfl rfl) rfl agg27 (l' := (C0 r103.f0 r103.f1 r103.f2 r103.f3 r103.f4 r103.f5 r103.f6)) rfl) ?_
    obtain ⟨r107, hr107, hp⟩ := bind_some hp
    rcases r107 with y37 | y37 | y37 | y37 | y37 | y37 | y37 | y37
    ·dsimp only at hp
     refine so (ox_calln' (ent_fn' Try.func30 isn30 rfl rfl) (hrec _ _ _ _ _ _ _ _ hr107 : Sx.Fn Try.prog 30 [(Ag (C0 r103.f0 r103.f1 r103.f2 r103.f3 r103.f4 r103.f5 r103.f6))] [] (fun x : Addr × Gs × Gs => (If 72 (Vp x.1))) (fun x => [(Ur x.1 135 (C3 y37.1 y37.2.1 y37.2.2.1 y37.2.2.2))])) (Hn := fun x : Addr × Gs × Gs => [(Ur x.1 135 (C3 y37.1 y37.2.1 y37.2.2.1 y37.2.2.2)), (Ur q7 27 (C0 r103.f0 r103.f1 r103.f2 r103.f3 r103.f4 r103.f5 r103.f6)), (Ur q94 114 (C4 x35 g909 x37)), (Rg KG53 53 g909 x36)]) (fun _ => rfl) rfl rfl) fun ⟨q107, g107, gz2⟩ => ?_
     refine tx_fz' (frz_var 0 [(107, (If 72 (Vp q107)), (If 72 (Pt (C3 y37.1 y37.2.1 y37.2.2.1 y37.2.2.2))))] rfl ⟨⟨rfl, frz_if⟩, trivial⟩ (H' := [(Ur q7 27 (C0 r103.f0 r103.f1 r103.f2 r103.f3 r103.f4 r103.f5 r103.f6)), (Ur q94 114 (C4 x35 g909 x37)), (Rg KG53 53 g909 x36)]) frzH_refl) ?_
     refine tx_slot' 107 (y := (SG53 (G53.c0 y37.1 y37.2.1 y37.2.2.1 y37.2.2.2))) rfl (imp_eq (SG53_c0 y37.1 y37.2.1 y37.2.2.1 y37.2.2.2).symm) ?_
     refine so (ox_rowlit' (K := KG53) (xs := [(G53.c0 y37.1 y37.2.1 y37.2.2.1 y37.2.2.2)]) (qs := [(0, [(SG53 (G53.c0 y37.1 y37.2.1 y37.2.2.1 y37.2.2.2))])]) ⟨rfl, ⟨_, rfl, (SG53_lv (G53.c0 y37.1 y37.2.1 y37.2.2.1 y37.2.2.2))⟩, trivial⟩ Try.underlying112 info53 rfl rfl rfl rfl rfl (by kernel_rfl) rfl rfl rfl) fun g108 => ?_
     refine tx_fz' (frz_row 0 [(108, (Vw g108), (Sl KG53 ([(G53.c0 y37.1 y37.2.1 y37.2.2.1 y37.2.2.2)])))] (K := KG53) (xs := [(G53.c0 y37.1 y37.2.1 y37.2.2.1 y37.2.2.2)]) (by decide) rfl ⟨⟨rfl, frz_it⟩, trivial⟩ (H' := [(Ur q7 27 (C0 r103.f0 r103.f1 r103.f2 r103.f3 r103.f4 r103.f5 r103.f6)), (Ur q94 114 (C4 x35 g909 x37)), (Rg KG53 53 g909 x36)]) frzH_refl) ?_
     obtain ⟨r109, hr109, hp⟩ := bind_some hp
     refine so (ox_callg' (ent_fn' Try.func77 isn77 rfl rfl) (gogeom_GeometryCollection_MustPush_v2_sim _ _ _ _ hr109 : Sx.Fn Try.prog 77 [(Vp q94), (Sl KG53 ([(G53.c0 y37.1 y37.2.1 y37.2.2.1 y37.2.2.2)]))] [(Ur q94 114 (C4 x35 g909 x37)), (Rg KG53 53 g909 x36)] (fun x : Gs => (Vp q94)) (fun x => [(Ur q94 114 (C4 r109.1 x r109.2.2)), (Rg KG53 53 x r109.2.1)])) [1, 2] [0] (by decide) (p2 rfl rfl) (pc rfl pn) (Hn := fun x : Gs => [(Ur q94 114 (C4 r109.1 x r109.2.2)), (Rg KG53 53 x r109.2.1), (Ur q7 27 (C0 r103.f0 r103.f1 r103.f2 r103.f3 r103.f4 r103.f5 r103.f6))]) (fun _ => rfl) rfl rfl) fun g109 => ?_
     refine nk hK30 ?_
     refine cx_region' ?_
     refine sb rfl rfl eg_int ru_add ?_
     refine sm rfl ?_
     refine sx_nil' ?_
     show TX E (KY1 _) _
     exact tk [0, 1] (u5 rfl rfl rfl rfl rfl) (p2 rfl rfl) (ih1 (r109.1, r109.2.1, r109.2.2, (iadd .i64 x38 1)) g109 _ hp)
    ·dsimp only at hp
     refine so (ox_calln' (ent_fn' Try.func30 isn30 rfl rfl) (hrec _ _ _ _ _ _ _ _ hr107 : Sx.Fn Try.prog 30 [(Ag (C0 r103.f0 r103.f1 r103.f2 r103.f3 r103.f4 r103.f5 r103.f6))] [] (fun x : Addr × Gs × Gs => (If 75 (Vp x.1))) (fun x => [(Ur x.1 138 (C3 y37.1 y37.2.1 y37.2.2.1 y37.2.2.2))])) (Hn := fun x : Addr × Gs × Gs => [(Ur x.1 138 (C3 y37.1 y37.2.1 y37.2.2.1 y37.2.2.2)), (Ur q7 27 (C0 r103.f0 r103.f1 r103.f2 r103.f3 r103.f4 r103.f5 r103.f6)), (Ur q94 114 (C4 x35 g909 x37)), (Rg KG53 53 g909 x36)]) (fun _ => rfl) rfl rfl) fun ⟨q107, g107, gz2⟩ => ?_
     refine tx_fz' (frz_var 0 [(107, (If 75 (Vp q107)), (If 75 (Pt (C3 y37.1 y37.2.1 y37.2.2.1 y37.2.2.2))))] rfl ⟨⟨rfl, frz_if⟩, trivial⟩ (H' := [(Ur q7 27 (C0 r103.f0 r103.f1 r103.f2 r103.f3 r103.f4 r103.f5 r103.f6)), (Ur q94 114 (C4 x35 g909 x37)), (Rg KG53 53 g909 x36)]) frzH_refl) ?_
     refine tx_slot' 107 (y := (SG53 (G53.c1 y37.1 y37.2.1 y37.2.2.1 y37.2.2.2))) rfl (imp_eq (SG53_c1 y37.1 y37.2.1 y37.2.2.1 y37.2.2.2).symm) ?_
     refine so (ox_rowlit' (K := KG53) (xs := [(G53.c1 y37.1 y37.2.1 y37.2.2.1 y37.2.2.2)]) (qs := [(0, [(SG53 (G53.c1 y37.1 y37.2.1 y37.2.2.1 y37.2.2.2))])]) ⟨rfl, ⟨_, rfl, (SG53_lv (G53.c1 y37.1 y37.2.1 y37.2.2.1 y37.2.2.2))⟩, trivial⟩ Try.underlying112 info53 rfl rfl rfl rfl rfl (by kernel_rfl) rfl rfl rfl) fun g108 => ?_
     refine tx_fz' (frz_row 0 [(108, (Vw g108), (Sl KG53 ([(G53.c1 y37.1 y37.2.1 y37.2.2.1 y37.2.2.2)])))] (K := KG53) (xs := [(G53.c1 y37.1 y37.2.1 y37.2.2.1 y37.2.2.2)]) (by decide) rfl ⟨⟨rfl, frz_it⟩, trivial⟩ (H' := [(Ur q7 27 (C0 r103.f0 r103.f1 r103.f2 r103.f3 r103.f4 r103.f5 r103.f6)), (Ur q94 114 (C4 x35 g909 x37)), (Rg KG53 53 g909 x36)]) frzH_refl) ?_
     obtain ⟨r109, hr109, hp⟩ := bind_some hp
     refine so (ox_callg' (ent_fn' Try.func77 isn77 rfl rfl) (gogeom_GeometryCollection_MustPush_v2_sim _ _ _ _ hr109 : Sx.Fn Try.prog 77 [(Vp q94), (Sl KG53 ([(G53.c1 y37.1 y37.2.1 y37.2.2.1 y37.2.2.2)]))] [(Ur q94 114 (C4 x35 g909 x37)), (Rg KG53 53 g909 x36)] (fun x : Gs => (Vp q94)) (fun x => [(Ur q94 114 (C4 r109.1 x r109.2.2)), (Rg KG53 53 x r109.2.1)])) [1, 2] [0] (by decide) (p2 rfl rfl) (pc rfl pn) (Hn := fun x : Gs => [(Ur q94 114 (C4 r109.1 x r109.2.2)), (Rg KG53 53 x r109.2.1), (Ur q7 27 (C0 r103.f0 r103.f1 r103.f2 r103.f3 r103.f4 r103.f5 r103.f6))]) (fun _ => rfl) rfl rfl) fun g109 => ?_
     refine nk hK30 ?_
     refine cx_region' ?_
     refine sb rfl rfl eg_int ru_add ?_
     refine sm rfl ?_
     refine sx_nil' ?_
     show TX E (KY1 _) _
     exact tk [0, 1] (u5 rfl rfl rfl rfl rfl) (p2 rfl rfl) (ih1 (r109.1, r109.2.1, r109.2.2, (iadd .i64 x38 1)) g109 _ hp)
    ·dsimp only at hp
     refine so (ox_calln' (ent_fn' Try.func30 isn30 rfl rfl) (hrec _ _ _ _ _ _ _ _ hr107 : Sx.Fn Try.prog 30 [(Ag (C0 r103.f0 r103.f1 r103.f2 r103.f3 r103.f4 r103.f5 r103.f6))] [] (fun x : Addr × Gs × Gs => (If 69 (Vp x.1))) (fun x => [(Ur x.1 128 (C3 y37.1 y37.2.1 y37.2.2.1 y37.2.2.2))])) (Hn := fun x : Addr × Gs × Gs => [(Ur x.1 128 (C3 y37.1 y37.2.1 y37.2.2.1 y37.2.2.2)), (Ur q7 27 (C0 r103.f0 r103.f1 r103.f2 r103.f3 r103.f4 r103.f5 r103.f6)), (Ur q94 114 (C4 x35 g909 x37)), (Rg KG53 53 g909 x36)]) (fun _ => rfl) rfl rfl) fun ⟨q107, g107, gz2⟩ => ?_
     refine tx_fz' (frz_var 0 [(107, (If 69 (Vp q107)), (If 69 (Pt (C3 y37.1 y37.2.1 y37.2.2.1 y37.2.2.2))))] rfl ⟨⟨rfl, frz_if⟩, trivial⟩ (H' := [(Ur q7 27 (C0 r103.f0 r103.f1 r103.f2 r103.f3 r103.f4 r103.f5 r103.f6)), (Ur q94 114 (C4 x35 g909 x37)), (Rg KG53 53 g909 x36)]) frzH_refl) ?_
     refine tx_slot' 107 (y := (SG53 (G53.c2 y37.1 y37.2.1 y37.2.2.1 y37.2.2.2))) rfl (imp_eq (SG53_c2 y37.1 y37.2.1 y37.2.2.1 y37.2.2.2).symm) ?_
     refine so (ox_rowlit' (K := KG53) (xs := [(G53.c2 y37.1 y37.2.1 y37.2.2.1 y37.2.2.2)]) (qs := [(0, [(SG53 (G53.c2 y37.1 y37.2.1 y37.2.2.1 y37.2.2.2))])]) ⟨rfl, ⟨_, rfl, (SG53_lv (G53.c2 y37.1 y37.2.1 y37.2.2.1 y37.2.2.2))⟩, trivial⟩ Try.underlying112 info53 rfl rfl rfl rfl rfl (by kernel_rfl) rfl rfl rfl) fun g108 => ?_
     refine tx_fz' (frz_row 0 [(108, (Vw g108), (Sl KG53 ([(G53.c2 y37.1 y37.2.1 y37.2.2.1 y37.2.2.2)])))] (K := KG53) (xs := [(G53.c2 y37.1 y37.2.1 y37.2.2.1 y37.2.2.2)]) (by decide) rfl ⟨⟨rfl, frz_it⟩, trivial⟩ (H' := [(Ur q7 27 (C0 r103.f0 r103.f1 r103.f2 r103.f3 r103.f4 r103.f5 r103.f6)), (Ur q94 114 (C4 x35 g909 x37)), (Rg KG53 53 g909 x36)]) frzH_refl) ?_
     obtain ⟨r109, hr109, hp⟩ := bind_some hp
     refine so (ox_callg' (ent_fn' Try.func77 isn77 rfl rfl) (gogeom_GeometryCollection_MustPush_v2_sim _ _ _ _ hr109 : Sx.Fn Try.prog 77 [(Vp q94), (Sl KG53 ([(G53.c2 y37.1 y37.2.1 y37.2.2.1 y37.2.2.2)]))] [(Ur q94 114 (C4 x35 g909 x37)), (Rg KG53 53 g909 x36)] (fun x : Gs => (Vp q94)) (fun x => [(Ur q94 114 (C4 r109.1 x r109.2.2)), (Rg KG53 53 x r109.2.1)])) [1, 2] [0] (by decide) (p2 rfl rfl) (pc rfl pn) (Hn := fun x : Gs => [(Ur q94 114 (C4 r109.1 x r109.2.2)), (Rg KG53 53 x r109.2.1), (Ur q7 27 (C0 r103.f0 r103.f1 r103.f2 r103.f3 r103.f4 r103.f5 r103.f6))]) (fun _ => rfl) rfl rfl) fun g109 => ?_
     refine nk hK30 ?_
     refine cx_region' ?_
     refine sb rfl rfl eg_int ru_add ?_
     refine sm rfl ?_
     refine sx_nil' ?_
     show TX E (KY1 _) _
     exact tk [0, 1] (u5 rfl rfl rfl rfl rfl) (p2 rfl rfl) (ih1 (r109.1, r109.2.1, r109.2.2, (iadd .i64 x38 1)) g109 _ hp)
    ·dsimp only at hp
     refine so (ox_calln' (ent_fn' Try.func30 isn30 rfl rfl) (hrec _ _ _ _ _ _ _ _ hr107 : Sx.Fn Try.prog 30 [(Ag (C0 r103.f0 r103.f1 r103.f2 r103.f3 r103.f4 r103.f5 r103.f6))] [] (fun x : Addr × Gs × Gs => (If 67 (Vp x.1))) (fun x => [(Ur x.1 132 (C2 y37.1 y37.2.1 x.2.1 y37.2.2.2.1 x.2.2)), (Rg Kf 32 x.2.1 y37.2.2.1), (Rg (Ki .i64) 3 x.2.2 y37.2.2.2.2)])) (Hn := fun x : Addr × Gs × Gs => [(Ur x.1 132 (C2 y37.1 y37.2.1 x.2.1 y37.2.2.2.1 x.2.2)), (Rg Kf 32 x.2.1 y37.2.2.1), (Rg (Ki .i64) 3 x.2.2 y37.2.2.2.2), (Ur q7 27 (C0 r103.f0 r103.f1 r103.f2 r103.f3 r103.f4 r103.f5 r103.f6)), (Ur q94 114 (C4 x35 g909 x37)), (Rg KG53 53 g909 x36)]) (fun _ => rfl) rfl rfl) fun ⟨q107, g107, gz2⟩ => ?_
     refine tx_fz' (frz_row 1 [] (K := Kf) (xs := y37.2.2.1) (by decide) rfl trivial (H' := [(Ur q107 132 [(Vi y37.1), (Vi y37.2.1), (Sl Kf y37.2.2.1), (Vi y37.2.2.2.1), (Vw gz2)]), (Rg (Ki .i64) 3 gz2 y37.2.2.2.2), (Ur q7 27 (C0 r103.f0 r103.f1 r103.f2 r103.f3 r103.f4 r103.f5 r103.f6)), (Ur q94 114 (C4 x35 g909 x37)), (Rg KG53 53 g909 x36)]) (fh rfl rfl rfl (fl fs (fl fs (fl frz_it (fl fs (fl fs frzL_refl))))) (fk (fk (fk (fk frzH_refl)))))) ?_
     refine tx_fz' (frz_row 1 [] (K := (Ki .i64)) (xs := y37.2.2.2.2) (by decide) rfl trivial (H' := [(Ur q107 132 (C6 y37.1 y37.2.1 y37.2.2.1 y37.2.2.2.1 y37.2.2.2.2)), (Ur q7 27 (C0 r103.f0 r103.f1 r103.f2 r103.f3 r103.f4 r103.f5 r103.f6)), (Ur q94 114 (C4 x35 g909 x37)), (Rg KG53 53 g909 x36)]) (fh rfl rfl rfl (fl fs (fl fs (fl fs (fl fs (fl frz_it frzL_refl))))) (fk (fk (fk frzH_refl))))) ?_
     refine tx_fz' (frz_var 0 [(107, (If 67 (Vp q107)), (If 67 (Pt (C6 y37.1 y37.2.1 y37.2.2.1 y37.2.2.2.1 y37.2.2.2.2))))] rfl ⟨⟨rfl, frz_if⟩, trivial⟩ (H' := [(Ur q7 27 (C0 r103.f0 r103.f1 r103.f2 r103.f3 r103.f4 r103.f5 r103.f6)), (Ur q94 114 (C4 x35 g909 x37)), (Rg KG53 53 g909 x36)]) frzH_refl) ?_
     refine tx_slot' 107 (y := (SG53 (G53.c3 y37.1 y37.2.1 y37.2.2.1 y37.2.2.2.1 y37.2.2.2.2))) rfl (imp_eq (SG53_c3 y37.1 y37.2.1 y37.2.2.1 y37.2.2.2.1 y37.2.2.2.2).symm) ?_
     refine so (ox_rowlit' (K := KG53) (xs := [(G53.c3 y37.1 y37.2.1 y37.2.2.1 y37.2.2.2.1 y37.2.2.2.2)]) (qs := [(0, [(SG53 (G53.c3 y37.1 y37.2.1 y37.2.2.1 y37.2.2.2.1 y37.2.2.2.2))])]) ⟨rfl, ⟨_, rfl, (SG53_lv (G53.c3 y37.1 y37.2.1 y37.2.2.1 y37.2.2.2.1 y37.2.2.2.2))⟩, trivial⟩ Try.underlying112 info53 rfl rfl rfl rfl rfl (by kernel_rfl) rfl rfl rfl) fun g108 => ?_
     refine tx_fz' (frz_row 0 [(108, (Vw g108), (Sl KG53 ([(G53.c3 y37.1 y37.2.1 y37.2.2.1 y37.2.2.2.1 y37.2.2.2.2)])))] (K := KG53) (xs := [(G53.c3 y37.1 y37.2.1 y37.2.2.1 y37.2.2.2.1 y37.2.2.2.2)]) (by decide) rfl ⟨⟨rfl, frz_it⟩, trivial⟩ (H' := [(Ur q7 27 (C0 r103.f0 r103.f1 r103.f2 r103.f3 r103.f4 r103.f5 r103.f6)), (Ur q94 114 (C4 x35 g909 x37)), (Rg KG53 53 g909 x36)]) frzH_refl) ?_
     obtain ⟨r109, hr109, hp⟩ := bind_some hp
     refine so (ox_callg' (ent_fn' Try.func77 isn77 rfl rfl) (gogeom_GeometryCollection_MustPush_v2_sim _ _ _ _ hr109 : Sx.Fn Try.prog 77 [(Vp q94), (Sl KG53 ([(G53.c3 y37.1 y37.2.1 y37.2.2.1 y37.2.2.2.1 y37.2.2.2.2)]))] [(Ur q94 114 (C4 x35 g909 x37)), (Rg KG53 53 g909 x36)] (fun x : Gs => (Vp q94)) (fun x => [(Ur q94 114 (C4 r109.1 x r109.2.2)), (Rg KG53 53 x r109.2.1)])) [1, 2] [0] (by decide) (p2 rfl rfl) (pc rfl pn) (Hn := fun x : Gs => [(Ur q94 114 (C4 r109.1 x r109.2.2)), (Rg KG53 53 x r109.2.1), (Ur q7 27 (C0 r103.f0 r103.f1 r103.f2 r103.f3 r103.f4 r103.f5 r103.f6))]) (fun _ => rfl) rfl rfl) fun g109 => ?_
     refine nk hK30 ?_
     refine cx_region' ?_
     refine sb rfl rfl eg_int ru_add ?_
     refine sm rfl ?_
     refine sx_nil' ?_
     show TX E (KY1 _) _
     exact tk [0, 1] (u5 rfl rfl rfl rfl rfl) (p2 rfl rfl) (ih1 (r109.1, r109.2.1, r109.2.2, (iadd .i64 x38 1)) g109 _ hp)
    ·dsimp only at hp
     refine so (ox_calln' (ent_fn' Try.func30 isn30 rfl rfl) (hrec _ _ _ _ _ _ _ _ hr107 : Sx.Fn Try.prog 30 [(Ag (C0 r103.f0 r103.f1 r103.f2 r103.f3 r103.f4 r103.f5 r103.f6))] [] (fun x : Addr × Gs × Gs => (If 70 (Vp x.1))) (fun x => [(Ur x.1 136 (C2 y37.1 y37.2.1 x.2.1 y37.2.2.2.1 x.2.2)), (Rg Kf 32 x.2.1 y37.2.2.1), (Rg (Ki .i64) 3 x.2.2 y37.2.2.2.2)])) (Hn := fun x : Addr × Gs × Gs => [(Ur x.1 136 (C2 y37.1 y37.2.1 x.2.1 y37.2.2.2.1 x.2.2)), (Rg Kf 32 x.2.1 y37.2.2.1), (Rg (Ki .i64) 3 x.2.2 y37.2.2.2.2), (Ur q7 27 (C0 r103.f0 r103.f1 r103.f2 r103.f3 r103.f4 r103.f5 r103.f6)), (Ur q94 114 (C4 x35 g909 x37)), (Rg KG53 53 g909 x36)]) (fun _ => rfl) rfl rfl) fun ⟨q107, g107, gz2⟩ => ?_
     refine tx_fz' (frz_row 1 [] (K := Kf) (xs := y37.2.2.1) (by decide) rfl trivial (H' := [(Ur q107 136 [(Vi y37.1), (Vi y37.2.1), (Sl Kf y37.2.2.1), (Vi y37.2.2.2.1), (Vw gz2)]), (Rg (Ki .i64) 3 gz2 y37.2.2.2.2), (Ur q7 27 (C0 r103.f0 r103.f1 r103.f2 r103.f3 r103.f4 r103.f5 r103.f6)), (Ur q94 114 (C4 x35 g909 x37)), (Rg KG53 53 g909 x36)]) (fh rfl rfl rfl (fl fs (fl fs (fl frz_it (fl fs (fl fs frzL_refl))))) (fk (fk (fk (fk frzH_refl)))))) ?_
     refine tx_fz' (frz_row 1 [] (K := (Ki .i64)) (xs := y37.2.2.2.2) (by decide) rfl trivial (H' := [(Ur q107 136 (C6 y37.1 y37.2.1 y37.2.2.1 y37.2.2.2.1 y37.2.2.2.2)), (Ur q7 27 (C0 r103.f0 r103.f1 r103.f2 r103.f3 r103.f4 r103.f5 r103.f6)), (Ur q94 114 (C4 x35 g909 x37)), (Rg KG53 53 g909 x36)]) (fh rfl rfl rfl (fl fs (fl fs (fl fs (fl fs (fl frz_it frzL_refl))))) (fk (fk (fk frzH_refl))))) ?_
     refine tx_fz' (frz_var 0 [(107, (If 70 (Vp q107)), (If 70 (Pt (C6 y37.1 y37.2.1 y37.2.2.1 y37.2.2.2.1 y37.2.2.2.2))))] rfl ⟨⟨rfl, frz_if⟩, trivial⟩ (H' := [(Ur q7 27 (C0 r103.f0 r103.f1 r103.f2 r103.f3 r103.f4 r103.f5 r103.f6)), (Ur q94 114 (C4 x35 g909 x37)), (Rg KG53 53 g909 x36)]) frzH_refl) ?_
     refine tx_slot' 107 (y := (SG53 (G53.c4 y37.1 y37.2.1 y37.2.2.1 y37.2.2.2.1 y37.2.2.2.2))) rfl (imp_eq (SG53_c4 y37.1 y37.2.1 y37.2.2.1 y37.2.2.2.1 y37.2.2.2.2).symm) ?_
     refine so (ox_rowlit' (K := KG53) (xs := [(G53.c4 y37.1 y37.2.1 y37.2.2.1 y37.2.2.2.1 y37.2.2.2.2)]) (qs := [(0, [(SG53 (G53.c4 y37.1 y37.2.1 y37.2.2.1 y37.2.2.2.1 y37.2.2.2.2))])]) ⟨rfl, ⟨_, rfl, (SG53_lv (G53.c4 y37.1 y37.2.1 y37.2.2.1 y37.2.2.2.1 y37.2.2.2.2))⟩, trivial⟩ Try.underlying112 info53 rfl rfl rfl rfl rfl (by kernel_rfl) rfl rfl rfl) fun g108 => ?_
     refine tx_fz' (frz_row 0 [(108, (Vw g108), (Sl KG53 ([(G53.c4 y37.1 y37.2.1 y37.2.2.1 y37.2.2.2.1 y37.2.2.2.2)])))] (K := KG53) (xs := [(G53.c4 y37.1 y37.2.1 y37.2.2.1 y37.2.2.2.1 y37.2.2.2.2)]) (by decide) rfl ⟨⟨rfl, frz_it⟩, trivial⟩ (H' := [(Ur q7 27 (C0 r103.f0 r103.f1 r103.f2 r103.f3 r103.f4 r103.f5 r103.f6)), (Ur q94 114 (C4 x35 g909 x37)), (Rg KG53 53 g909 x36)]) frzH_refl) ?_
     obtain ⟨r109, hr109, hp⟩ := bind_some hp
     refine so (ox_callg' (ent_fn' Try.func77 isn77 rfl rfl) (gogeom_GeometryCollection_MustPush_v2_sim _ _ _ _ hr109 : Sx.Fn Try.prog 77 [(Vp q94), (Sl KG53 ([(G53.c4 y37.1 y37.2.1 y37.2.2.1 y37.2.2.2.1 y37.2.2.2.2)]))] [(Ur q94 114 (C4 x35 g909 x37)), (Rg KG53 53 g909 x36)] (fun x : Gs => (Vp q94)) (fun x => [(Ur q94 114 (C4 r109.1 x r109.2.2)), (Rg KG53 53 x r109.2.1)])) [1, 2] [0] (by decide) (p2 rfl rfl) (pc rfl pn) (Hn := fun x : Gs => [(Ur q94 114 (C4 r109.1 x r109.2.2)), (Rg KG53 53 x r109.2.1), (Ur q7 27 (C0 r103.f0 r103.f1 r103.f2 r103.f3 r103.f4 r103.f5 r103.f6))]) (fun _ => rfl) rfl rfl) fun g109 => ?_
     refine nk hK30 ?_
     refine cx_region' ?_
     refine sb rfl rfl eg_int ru_add ?_
     refine sm rfl ?_
     refine sx_nil' ?_
     show TX E (KY1 _) _
     exact tk [0, 1] (u5 rfl rfl rfl rfl rfl) (p2 rfl rfl) (ih1 (r109.1, r109.2.1, r109.2.2, (iadd .i64 x38 1)) g109 _ hp)
    ·dsimp only at hp
     refine so (ox_calln' (ent_fn' Try.func30 isn30 rfl rfl) (hrec _ _ _ _ _ _ _ _ hr107 : Sx.Fn Try.prog 30 [(Ag (C0 r103.f0 r103.f1 r103.f2 r103.f3 r103.f4 r103.f5 r103.f6))] [] (fun x : Addr × Gs × Gs => (If 73 (Vp x.1))) (fun x => [(Ur x.1 139 (C2 y37.1 y37.2.1 x.2.1 y37.2.2.2.1 x.2.2)), (Rg Kf 32 x.2.1 y37.2.2.1), (Rg (Ki .i64) 3 x.2.2 y37.2.2.2.2)])) (Hn := fun x : Addr × Gs × Gs => [(Ur x.1 139 (C2 y37.1 y37.2.1 x.2.1 y37.2.2.2.1 x.2.2)), (Rg Kf 32 x.2.1 y37.2.2.1), (Rg (Ki .i64) 3 x.2.2 y37.2.2.2.2), (Ur q7 27 (C0 r103.f0 r103.f1 r103.f2 r103.f3 r103.f4 r103.f5 r103.f6)), (Ur q94 114 (C4 x35 g909 x37)), (Rg KG53 53 g909 x36)]) (fun _ => rfl) rfl rfl) fun ⟨q107, g107, gz2⟩ => ?_
     refine tx_fz' (frz_row 1 [] (K := Kf) (xs := y37.2.2.1) (by decide) rfl trivial (H' := [(Ur q107 139 [(Vi y37.1), (Vi y37.2.1), (Sl Kf y37.2.2.1), (Vi y37.2.2.2.1), (Vw gz2)]), (Rg (Ki .i64) 3 gz2 y37.2.2.2.2), (Ur q7 27 (C0 r103.f0 r103.f1 r103.f2 r103.f3 r103.f4 r103.f5 r103.f6)), (Ur q94 114 (C4 x35 g909 x37)), (Rg KG53 53 g909 x36)]) (fh rfl rfl rfl (fl fs (fl fs (fl frz_it (fl fs (fl fs frzL_refl))))) (fk (fk (fk (fk frzH_refl)))))) ?_
     refine tx_fz' (frz_row 1 [] (K := (Ki .i64)) (xs := y37.2.2.2.2) (by decide) rfl trivial (H' := [(Ur q107 139 (C6 y37.1 y37.2.1 y37.2.2.1 y37.2.2.2.1 y37.2.2.2.2)), (Ur q7 27 (C0 r103.f0 r103.f1 r103.f2 r103.f3 r103.f4 r103.f5 r103.f6)), (Ur q94 114 (C4 x35 g909 x37)), (Rg KG53 53 g909 x36)]) (fh rfl rfl rfl (fl fs (fl fs (fl fs (fl fs (fl frz_it frzL_refl))))) (fk (fk (fk frzH_refl))))) ?_
     refine tx_fz' (frz_var 0 [(107, (If 73 (Vp q107)), (If 73 (Pt (C6 y37.1 y37.2.1 y37.2.2.1 y37.2.2.2.1 y37.2.2.2.2))))] rfl ⟨⟨rfl, frz_if⟩, trivial⟩ (H' := [(Ur q7 27 (C0 r103.f0 r103.f1 r103.f2 r103.f3 r103.f4 r103.f5 r103.f6)), (Ur q94 114 (C4 x35 g909 x37)), (Rg KG53 53 g909 x36)]) frzH_refl) ?_
     refine tx_slot' 107 (y := (SG53 (G53.c5 y37.1 y37.2.1 y37.2.2.1 y37.2.2.2.1 y37.2.2.2.2))) rfl (imp_eq (SG53_c5 y37.1 y37.2.1 y37.2.2.1 y37.2.2.2.1 y37.2.2.2.2).symm) ?_
     refine so (ox_rowlit' (K := KG53) (xs := [(G53.c5 y37.1 y37.2.1 y37.2.2.1 y37.2.2.2.1 y37.2.2.2.2)]) (qs := [(0, [(SG53 (G53.c5 y37.1 y37.2.1 y37.2.2.1 y37.2.2.2.1 y37.2.2.2.2))])]) ⟨rfl, ⟨_, rfl, (SG53_lv (G53.c5 y37.1 y37.2.1 y37.2.2.1 y37.2.2.2.1 y37.2.2.2.2))⟩, trivial⟩ Try.underlying112 info53 rfl rfl rfl rfl rfl (by kernel_rfl) rfl rfl rfl) fun g108 => ?_
     refine tx_fz' (frz_row 0 [(108, (Vw g108), (Sl KG53 ([(G53.c5 y37.1 y37.2.1 y37.2.2.1 y37.2.2.2.1 y37.2.2.2.2)])))] (K := KG53) (xs := [(G53.c5 y37.1 y37.2.1 y37.2.2.1 y37.2.2.2.1 y37.2.2.2.2)]) (by decide) rfl ⟨⟨rfl, frz_it⟩, trivial⟩ (H' := [(Ur q7 27 (C0 r103.f0 r103.f1 r103.f2 r103.f3 r103.f4 r103.f5 r103.f6)), (Ur q94 114 (C4 x35 g909 x37)), (Rg KG53 53 g909 x36)]) frzH_refl) ?_
     obtain ⟨r109, hr109, hp⟩ := bind_some hp
     refine so (ox_callg' (ent_fn' Try.func77 isn77 rfl rfl) (gogeom_GeometryCollection_MustPush_v2_sim _ _ _ _ hr109 : Sx.Fn Try.prog 77 [(Vp q94), (Sl KG53 ([(G53.c5 y37.1 y37.2.1 y37.2.2.1 y37.2.2.2.1 y37.2.2.2.2)]))] [(Ur q94 114 (C4 x35 g909 x37)), (Rg KG53 53 g909 x36)] (fun x : Gs => (Vp q94)) (fun x => [(Ur q94 114 (C4 r109.1 x r109.2.2)), (Rg KG53 53 x r109.2.1)])) [1, 2] [0] (by decide) (p2 rfl rfl) (pc rfl pn) (Hn := fun x : Gs => [(Ur q94 114 (C4 r109.1 x r109.2.2)), (Rg KG53 53 x r109.2.1), (Ur q7 27 (C0 r103.f0 r103.f1 r103.f2 r103.f3 r103.f4 r103.f5 r103.f6))]) (fun _ => rfl) rfl rfl) fun g109 => ?_
     refine nk hK30 ?_
     refine cx_region' ?_
     refine sb rfl rfl eg_int ru_add ?_
     refine sm rfl ?_
     refine sx_nil' ?_
     show TX E (KY1 _) _
     exact tk [0, 1] (u5 rfl rfl rfl rfl rfl) (p2 rfl rfl) (ih1 (r109.1, r109.2.1, r109.2.2, (iadd .i64 x38 1)) g109 _ hp)
    ·dsimp only at hp
     refine so (ox_calln' (ent_fn' Try.func30 isn30 rfl rfl) (hrec _ _ _ _ _ _ _ _ hr107 : Sx.Fn Try.prog 30 [(Ag (C0 r103.f0 r103.f1 r103.f2 r103.f3 r103.f4 r103.f5 r103.f6))] [] (fun x : Addr × Gs × Gs => (If 76 (Vp x.1))) (fun x => [(Ur x.1 143 (C2 y37.1 y37.2.1 x.2.1 y37.2.2.2.1 x.2.2)), (Rg Kf 32 x.2.1 y37.2.2.1), (Rg (Kl (Ki .i64)) 23 x.2.2 y37.2.2.2.2)])) (Hn := fun x : Addr × Gs × Gs => [(Ur x.1 143 (C2 y37.1 y37.2.1 x.2.1 y37.2.2.2.1 x.2.2)), (Rg Kf 32 x.2.1 y37.2.2.1), (Rg (Kl (Ki .i64)) 23 x.2.2 y37.2.2.2.2), (Ur q7 27 (C0 r103.f0 r103.f1 r103.f2 r103.f3 r103.f4 r103.f5 r103.f6)), (Ur q94 114 (C4 x35 g909 x37)), (Rg KG53 53 g909 x36)]) (fun _ => rfl) rfl rfl) fun ⟨q107, g107, gz2⟩ => ?_
     refine tx_fz' (frz_row 1 [] (K := Kf) (xs := y37.2.2.1) (by decide) rfl trivial (H' := [(Ur q107 143 [(Vi y37.1), (Vi y37.2.1), (Sl Kf y37.2.2.1), (Vi y37.2.2.2.1), (Vw gz2)]), (Rg (Kl (Ki .i64)) 23 gz2 y37.2.2.2.2), (Ur q7 27 (C0 r103.f0 r103.f1 r103.f2 r103.f3 r103.f4 r103.f5 r103.f6)), (Ur q94 114 (C4 x35 g909 x37)), (Rg KG53 53 g909 x36)]) (fh rfl rfl rfl (fl fs (fl fs (fl frz_it (fl fs (fl fs frzL_refl))))) (fk (fk (fk (fk frzH_refl)))))) ?_
     refine tx_fz' (frz_row 1 [] (K := (Kl (Ki .i64))) (xs := y37.2.2.2.2) (by decide) rfl trivial (H' := [(Ur q107 143 (C11 y37.1 y37.2.1 y37.2.2.1 y37.2.2.2.1 y37.2.2.2.2)), (Ur q7 27 (C0 r103.f0 r103.f1 r103.f2 r103.f3 r103.f4 r103.f5 r103.f6)), (Ur q94 114 (C4 x35 g909 x37)), (Rg KG53 53 g909 x36)]) (fh rfl rfl rfl (fl fs (fl fs (fl fs (fl fs (fl frz_it frzL_refl))))) (fk (fk (fk frzH_refl))))) ?_
     refine tx_fz' (frz_var 0 [(107, (If 76 (Vp q107)), (If 76 (Pt (C11 y37.1 y37.2.1 y37.2.2.1 y37.2.2.2.1 y37.2.2.2.2))))] rfl ⟨⟨rfl, frz_if⟩, trivial⟩ (H' := [(Ur q7 27 (C0 r103.f0 r103.f1 r103.f2 r103.f3 r103.f4 r103.f5 r103.f6)), (Ur q94 114 (C4 x35 g909 x37)), (Rg KG53 53 g909 x36)]) frzH_refl) ?_
     refine tx_slot' 107 (y := (SG53 (G53.c6 y37.1 y37.2.1 y37.2.2.1 y37.2.2.2.1 y37.2.2.2.2))) rfl (imp_eq (SG53_c6 y37.1 y37.2.1 y37.2.2.1 y37.2.2.2.1 y37.2.2.2.2).symm) ?_
     refine so (ox_rowlit' (K := KG53) (xs := [(G53.c6 y37.1 y37.2.1 y37.2.2.1 y37.2.2.2.1 y37.2.2.2.2)]) (qs := [(0, [(SG53 (G53.c6 y37.1 y37.2.1 y37.2.2.1 y37.2.2.2.1 y37.2.2.2.2))])]) ⟨rfl, ⟨_, rfl, (SG53_lv (G53.c6 y37.1 y37.2.1 y37.2.2.1 y37.2.2.2.1 y37.2.2.2.2))⟩, trivial⟩ Try.underlying112 info53 rfl rfl rfl rfl rfl (by kernel_rfl) rfl rfl rfl) fun g108 => ?_
     refine tx_fz' (frz_row 0 [(108, (Vw g108), (Sl KG53 ([(G53.c6 y37.1 y37.2.1 y37.2.2.1 y37.2.2.2.1 y37.2.2.2.2)])))] (K := KG53) (xs := [(G53.c6 y37.1 y37.2.1 y37.2.2.1 y37.2.2.2.1 y37.2.2.2.2)]) (by decide) rfl ⟨⟨rfl, frz_it⟩, trivial⟩ (H' := [(Ur q7 27 (C0 r103.f0 r103.f1 r103.f2 r103.f3 r103.f4 r103.f5 r103.f6)), (Ur q94 114 (C4 x35 g909 x37)), (Rg KG53 53 g909 x36)]) frzH_refl) ?_
     obtain ⟨r109, hr109, hp⟩ := bind_some hp
     refine so (ox_callg' (ent_fn' Try.func77 isn77 rfl rfl) (gogeom_GeometryCollection_MustPush_v2_sim _ _ _ _ hr109 : Sx.Fn Try.prog 77 [(Vp q94), (Sl KG53 ([(G53.c6 y37.1 y37.2.1 y37.2.2.1 y37.2.2.2.1 y37.2.2.2.2)]))] [(Ur q94 114 (C4 x35 g909 x37)), (Rg KG53 53 g909 x36)] (fun x : Gs => (Vp q94)) (fun x => [(Ur q94 114 (C4 r109.1 x r109.2.2)), (Rg KG53 53 x r109.2.1)])) [1, 2] [0] (by decide) (p2 rfl rfl) (pc rfl pn) (Hn := fun x : Gs => [(Ur q94 114 (C4 r109.1 x r109.2.2)), (Rg KG53 53 x r109.2.1), (Ur q7 27 (C0 r103.f0 r103.f1 r103.f2 r103.f3 r103.f4 r103.f5 r103.f6))]) (fun _ => rfl) rfl rfl) fun g109 => ?_
     refine nk hK30 ?_
     refine cx_region' ?_
     refine sb rfl rfl eg_int ru_add ?_
     refine sm rfl ?_
     refine sx_nil' ?_
     show TX E (KY1 _) _
     exact tk [0, 1] (u5 rfl rfl rfl rfl rfl) (p2 rfl rfl) (ih1 (r109.1, r109.2.1, r109.2.2, (iadd .i64 x38 1)) g109 _ hp)
    dsimp only at hp
    refine so (ox_calln' (ent_fn' Try.func30 isn30 rfl rfl) (hrec _ _ _ _ _ _ _ _ hr107 : Sx.Fn Try.prog 30 [(Ag (C0 r103.f0 r103.f1 r103.f2 r103.f3 r103.f4 r103.f5 r103.f6))] [] (fun x : Addr × Gs × Gs => (If 57 (Vp x.1))) (fun x => [(Ur x.1 114 (C4 y37.1 x.2.1 y37.2.2)), (Rg KG53 53 x.2.1 y37.2.1)])) (Hn := fun x : Addr × Gs × Gs => [(Ur x.1 114 (C4 y37.1 x.2.1 y37.2.2)), (Rg KG53 53 x.2.1 y37.2.1), (Ur q7 27 (C0 r103.f0 r103.f1 r103.f2 r103.f3 r103.f4 r103.f5 r103.f6)), (Ur q94 114 (C4 x35 g909 x37)), (Rg KG53 53 g909 x36)]) (fun _ => rfl) rfl rfl) fun ⟨q107, g107, gz2⟩ => ?_
    refine tx_fz' (frz_row 1 [] (K := KG53) (xs := y37.2.1) (by decide) rfl trivial (H' := [(Ur q107 114 (C14 y37.1 y37.2.1 y37.2.2)), (Ur q7 27 (C0 r103.f0 r103.f1 r103.f2 r103.f3 r103.f4 r103.f5 r103.f6)), (Ur q94 114 (C4 x35 g909 x37)), (Rg KG53 53 g909 x36)]) (fh rfl rfl rfl (fl fs (fl frz_it (fl fs frzL_refl))) (fk (fk (fk frzH_refl))))) ?_
    refine tx_fz' (frz_var 0 [(107, (If 57 (Vp q107)), (If 57 (Pt (C14 y37.1 y37.2.1 y37.2.2))))] rfl ⟨⟨rfl, frz_if⟩, trivial⟩ (H' := [(Ur q7 27 (C0 r103.f0 r103.f1 r103.f2 r103.f3 r103.f4 r103.f5 r103.f6)), (Ur q94 114 (C4 x35 g909 x37)), (Rg KG53 53 g909 x36)]) frzH_refl) ?_
    refine tx_slot' 107 (y := (SG53 (G53.c7 y37.1 y37.2.1 y37.2.2))) rfl (imp_eq (SG53_c7 y37.1 y37.2.1 y37.2.2).symm) ?_
    refine so (ox_rowlit' (K := KG53) (xs := [(G53.c7 y37.1 y37.2.1 y37.2.2)]) (qs := [(0, [(SG53 (G53.c7 y37.1 y37.2.1 y37.2.2))])]) ⟨rfl, ⟨_, rfl, (SG53_lv (G53.c7 y37.1 y37.2.1 y37.2.2))⟩, trivial⟩ Try.underlying112 info53 rfl rfl rfl rfl rfl (by kernel_rfl) rfl rfl rfl) fun g108 => ?_
    refine tx_fz' (frz_row 0 [(108, (Vw g108), (Sl KG53 ([(G53.c7 y37.1 y37.2.1 y37.2.2)])))] (K := KG53) (xs := [(G53.c7 y37.1 y37.2.1 y37.2.2)]) (by decide) rfl ⟨⟨rfl, frz_it⟩, trivial⟩ (H' := [(Ur q7 27 (C0 r103.f0 r103.f1 r103.f2 r103.f3 r103.f4 r103.f5 r103.f6)), (Ur q94 114 (C4 x35 g909 x37)), (Rg KG53 53 g909 x36)]) frzH_refl) ?_
    obtain ⟨r109, hr109, hp⟩ := bind_some hp
    refine so (ox_callg' (ent_fn' Try.func77 isn77 rfl rfl) (gogeom_GeometryCollection_MustPush_v2_sim _ _ _ _ hr109 : Sx.Fn Try.prog 77 [(Vp q94), (Sl KG53 ([(G53.c7 y37.1 y37.2.1 y37.2.2)]))] [(Ur q94 114 (C4 x35 g909 x37)), (Rg KG53 53 g909 x36)] (fun x : Gs => (Vp q94)) (fun x => [(Ur q94 114 (C4 r109.1 x r109.2.2)), (Rg KG53 53 x r109.2.1)])) [1, 2] [0] (by decide) (p2 rfl rfl) (pc rfl pn) (Hn := fun x : Gs => [(Ur q94 114 (C4 r109.1 x r109.2.2)), (Rg KG53 53 x r109.2.1), (Ur q7 27 (C0 r103.f0 r103.f1 r103.f2 r103.f3 r103.f4 r103.f5 r103.f6))]) (fun _ => rfl) rfl rfl) fun g109 => ?_
    refine nk hK30 ?_
    refine cx_region' ?_
    refine sb rfl rfl eg_int ru_add ?_
    refine sm rfl ?_
    refine sx_nil' ?_
    show TX E (KY1 _) _
    exact tk [0, 1] (u5 rfl rfl rfl rfl rfl) (p2 rfl rfl) (ih1 (r109.1, r109.2.1, r109.2.2, (iadd .i64 x38 1)) g109 _ hp)
   replace hp := (br_f h11).symm.trans hp
   refine cx_exit' ?_
   replace hp := sj hp
   subst hp
   show TX E (Zg E (Exit.exit 1) _ (Exit.exit 1)) _
   exact tx_zend' g909 rfl [0, 1] (u2 rfl rfl) (by decide) (p2 rfl rfl)
  refine zg_out fun w10 => ?_
  show TX E K21 _
  refine tx_k' hK21 ?_
  refine cr fun K27 hK27 => ?_
  iterate 2 refine sm rfl ?_
  obtain ⟨r113, hr113, hp⟩ := bind_some hp
  refine so (ox_callg' (ent_fn' Try.func78 isn78 rfl rfl) (gogeom_GeometryCollection_MustSetLayout_v2_sim _ _ _ _ hr113 : Sx.Fn Try.prog 78 [(Vp q94), (Vi a0_1)] [(Ur q94 114 (C4 v10.1 w10 v10.2.2)), (Rg KG53 53 w10 v10.2.1)] (fun x : Unit => (Vp q94)) (fun x => [(Ur q94 114 (C4 r113.1 w10 r113.2.2)), (Rg KG53 53 w10 r113.2.1)])) [0, 1] [] (by decide) (p2 rfl rfl) pn (Hn := fun x : Unit => [(Ur q94 114 (C4 r113.1 w10 r113.2.2)), (Rg KG53 53 w10 r113.2.1)]) (fun _ => rfl) rfl rfl) fun ⟨⟩ => ?_
  refine s0 (rd_iface' rfl ⟨_, Try.underlying57, fun _ h => (nomatch h)⟩) ?_
  refine sa rfl ?_
  refine nk hK27 ?_
  refine cx_retc' ?_
  replace hp := sj hp
  subst hp
  refine tk (L' := [(2, (If 57 (Vp q94)))]) (H' := [(Ur q94 114 (C4 r113.1 w10 r113.2.2)), (Rg KG53 53 w10 r113.2.1)]) [0, 1] (uc rfl un) (p2 rfl rfl) ?_
  exact tx_ret1' Try.results30 rfl (q94, w10, (none, 0, 0)) (rv_tmp' rfl) lr
 replace hp := (br_f h8).symm.trans hp
 refine cx_skip' ?_
 show TX E K3 _
 refine tx_k' hK3 ?_
 refine cx_region' ?_
 refine s0 (rd_iface' rfl ⟨_, Try.underlying9, fun _ h => (nomatch h)⟩) ?_
 cases hp
theorem impl_geometry_simA : ∀ (k : Nat)  (a0_0 a0_1 a0_2 : Int) (a0_3 : List Nat) (a0_4 : List Int) (a0_5 : List (List Int)) (a0_6 : List T27) (out : (Int × Int × (List Nat) × Int) ⊕ ((Int × Int × (List Nat) × Int) ⊕ ((Int × Int × (List Nat) × Int) ⊕ ((Int × Int × (List Nat) × Int × (List Int)) ⊕ ((Int × Int × (List Nat) × Int × (List Int)) ⊕ ((Int × Int × (List Nat) × Int × (List Int)) ⊕ ((Int × Int × (List Nat) × Int × (List (List Int))) ⊕ (Int × (List G53) × Int)))))))), impl_geometry k a0_0 a0_1 a0_2 a0_3 a0_4 a0_5 a0_6 = some out → Sx.Fn Try.prog 30 [(Ag (C0 a0_0 a0_1 a0_2 a0_3 a0_4 a0_5 a0_6))] [] (fun w => impl_geometry_r a0_0 a0_1 a0_2 a0_3 a0_4 a0_5 a0_6 out w) (fun w => impl_geometry_h a0_0 a0_1 a0_2 a0_3 a0_4 a0_5 a0_6 out w) := by
 intro k
 induction k with
 | zero => intro a0_0 a0_1 a0_2 a0_3 a0_4 a0_5 a0_6 out hp; cases hp
 | succ k ih => intro a0_0 a0_1 a0_2 a0_3 a0_4 a0_5 a0_6 out hp; exact impl_geometry_b_sim ih a0_0 a0_1 a0_2 a0_3 a0_4 a0_5 a0_6 hp
theorem impl_geometry_sim {k : Nat}  (a0_0 a0_1 a0_2 : Int) (a0_3 : List Nat) (a0_4 : List Int) (a0_5 : List (List Int)) (a0_6 : List T27) {out : (Int × Int × (List Nat) × Int) ⊕ ((Int × Int × (List Nat) × Int) ⊕ ((Int × Int × (List Nat) × Int) ⊕ ((Int × Int × (List Nat) × Int × (List Int)) ⊕ ((Int × Int × (List Nat) × Int × (List Int)) ⊕ ((Int × Int × (List Nat) × Int × (List Int)) ⊕ ((Int × Int × (List Nat) × Int × (List (List Int))) ⊕ (Int × (List G53) × Int)))))))} (hp : impl_geometry k a0_0 a0_1 a0_2 a0_3 a0_4 a0_5 a0_6 = some out) : Sx.Fn Try.prog 30 [(Ag (C0 a0_0 a0_1 a0_2 a0_3 a0_4 a0_5 a0_6))] [] (fun w => impl_geometry_r a0_0 a0_1 a0_2 a0_3 a0_4 a0_5 a0_6 out w) (fun w => impl_geometry_h a0_0 a0_1 a0_2 a0_3 a0_4 a0_5 a0_6 out w) := impl_geometry_simA k a0_0 a0_1 a0_2 a0_3 a0_4 a0_5 a0_6 out hp

def gogeom_Polygon_Push (k : Nat) (a0_0 a0_1 : Int) (a0_2 : List Nat) (a0_3 : Int) (a0_4 : List Int) (a1_0 a1_1 : Int) (a1_2 : List Nat) (a1_3 : Int) : Option ((Int × Int × (List Nat) × Int × (List Int) × Int × Int × (List Nat) × Int) ⊕ (Int × Int × (List Nat) × Int × (List Int) × Int × Int × (List Nat) × Int)) :=
 br (!decide (a1_0 = a0_0))
  (some (.inl (a0_0, a0_1, a0_2, a0_3, a0_4, a1_0, a1_1, a1_2, a1_3)))
  ((apd 8 a0_2 a1_2) >>= fun r48 =>
  (apd 8 a0_4 ([(r48.length : Int)])) >>= fun r69 =>
  some (.inr (a0_0, a0_1, r48, a0_3, r69, a1_0, a1_1, a1_2, a1_3)))
def gogeom_Polygon_Push_r (wa0 : Addr) (wa0_2 wa0_4 : Gs) (wa1 : Addr) (a0_0 a0_1 : Int) (a0_2 : List Nat) (a0_3 : Int) (a0_4 : List Int) (a1_0 a1_1 : Int) (a1_2 : List Nat) (a1_3 : Int) (out : (Int × Int × (List Nat) × Int × (List Int) × Int × Int × (List Nat) × Int) ⊕ (Int × Int × (List Nat) × Int × (List Int) × Int × Int × (List Nat) × Int)) (w : Gs × Gs) : SV := match out with
 | (.inl y) => (If 134 (Ag (C19 y.2.2.2.2.2.1 y.1)))
 | (.inr y) => Ve
def gogeom_Polygon_Push_h (wa0 : Addr) (wa0_2 wa0_4 : Gs) (wa1 : Addr) (a0_0 a0_1 : Int) (a0_2 : List Nat) (a0_3 : Int) (a0_4 : List Int) (a1_0 a1_1 : Int) (a1_2 : List Nat) (a1_3 : Int) (out : (Int × Int × (List Nat) × Int × (List Int) × Int × Int × (List Nat) × Int) ⊕ (Int × Int × (List Nat) × Int × (List Int) × Int × Int × (List Nat) × Int)) (w : Gs × Gs) : List Res := match out with
 | (.inl y) => [(Ur wa0 132 (C2 y.1 y.2.1 wa0_2 y.2.2.2.1 wa0_4)), (Rg Kf 32 wa0_2 y.2.2.1), (Rg (Ki .i64) 3 wa0_4 y.2.2.2.2.1), (Ur wa1 128 (C3 y.2.2.2.2.2.1 y.2.2.2.2.2.2.1 y.2.2.2.2.2.2.2.1 y.2.2.2.2.2.2.2.2))]
 | (.inr y) => [(Ur wa0 132 (C2 y.1 y.2.1 w.1 y.2.2.2.1 w.2)), (Rg Kf 32 w.1 y.2.2.1), (Rg (Ki .i64) 3 w.2 y.2.2.2.2.1), (Ur wa1 128 (C3 y.2.2.2.2.2.1 y.2.2.2.2.2.2.1 y.2.2.2.2.2.2.2.1 y.2.2.2.2.2.2.2.2))]

theorem gogeom_Polygon_Push_sim {k : Nat} {wa0 : Addr} {wa0_2 wa0_4 : Gs} {wa1 : Addr} (a0_0 a0_1 : Int) (a0_2 : List Nat) (a0_3 : Int) (a0_4 : List Int) (a1_0 a1_1 : Int) (a1_2 : List Nat) (a1_3 : Int) {out : (Int × Int × (List Nat) × Int × (List Int) × Int × Int × (List Nat) × Int) ⊕ (Int × Int × (List Nat) × Int × (List Int) × Int × Int × (List Nat) × Int)} (hp : gogeom_Polygon_Push k a0_0 a0_1 a0_2 a0_3 a0_4 a1_0 a1_1 a1_2 a1_3 = some out) : Sx.Fn Try.prog 42 [(Vp wa0), (Vp wa1)] [(Ur wa0 132 (C2 a0_0 a0_1 wa0_2 a0_3 wa0_4)), (Rg Kf 32 wa0_2 a0_2), (Rg (Ki .i64) 3 wa0_4 a0_4), (Ur wa1 128 (C3 a1_0 a1_1 a1_2 a1_3))] (fun w => gogeom_Polygon_Push_r wa0 wa0_2 wa0_4 wa1 a0_0 a0_1 a0_2 a0_3 a0_4 a1_0 a1_1 a1_2 a1_3 out w) (fun w => gogeom_Polygon_Push_h wa0 wa0_2 wa0_4 wa1 a0_0 a0_1 a0_2 a0_3 a0_4 a1_0 a1_1 a1_2 a1_3 out w) := by
 unfold gogeom_Polygon_Push at hp
 refine fn_of Try.func42 rfl Try.ntmps42 rfl fun E hM => ?_
 refine cr fun K1 hK1 => ?_
 refine sa rfl ?_
 refine nk hK1 ?_
 refine cx_seq' fun K2 hK2 => ?_
 refine cx_seq' fun K3 hK3 => ?_
 refine cx_draw' mixed (by kernel_rfl) ?_
 refine qd (rd_move' rfl) ?_
 refine qd (rd_nilck' rfl) ?_
 refine qd (rd_field0' rfl Try.underlying128 rfl info126 rfl) ?_
 refine qd (rd_field0' rfl Try.underlying126 rfl info124 rfl) ?_
 refine qd (rd_field0' rfl Try.underlying124 rfl info61 rfl) ?_
 refine qd (rd_load' (i := 3) (o := 0) rfl (ar rfl rfl rfl rfl) rfl flat61) ?_
 refine qd (rd_move' rfl) ?_
 refine qd (rd_nilck' rfl) ?_
 refine qd (rd_field0' rfl Try.underlying132 rfl info130 rfl) ?_
 refine qd (rd_field0' rfl Try.underlying130 rfl info126 rfl) ?_
 refine qd (rd_field0' rfl Try.underlying126 rfl info124 rfl) ?_
 refine qd (rd_field0' rfl Try.underlying124 rfl info61 rfl) ?_
 refine qd (rd_load' (i := 0) (o := 0) rfl (ar rfl rfl rfl rfl) rfl flat61) ?_
 refine qd (rd_bin' rfl rfl eg_int ru_neq) ?_
 refine qx_nil' ?_
 show TX E K3 _
 refine tx_k' hK3 ?_
 refine cx_cond' rfl (fun h1 => ?_) (fun h1 => ?_)
 ·replace hp := (br_t h1).symm.trans hp
  refine cx_seq' fun K4 hK4 => ?_
  refine cx_draw' mixed (by kernel_rfl) ?_
  refine qd (rd_move' rfl) ?_
  refine qd (rd_nilck' rfl) ?_
  refine qd (rd_field0' rfl Try.underlying128 rfl info126 rfl) ?_
  refine qd (rd_field0' rfl Try.underlying126 rfl info124 rfl) ?_
  refine qd (rd_field0' rfl Try.underlying124 rfl info61 rfl) ?_
  refine qd (rd_load' (i := 3) (o := 0) rfl (ar rfl rfl rfl rfl) rfl flat61) ?_
  refine qd (rd_move' rfl) ?_
  refine qd (rd_nilck' rfl) ?_
  refine qd (rd_field0' rfl Try.underlying132 rfl info130 rfl) ?_
  refine qd (rd_field0' rfl Try.underlying130 rfl info126 rfl) ?_
  refine qd (rd_field0' rfl Try.underlying126 rfl info124 rfl) ?_
  refine qd (rd_field0' rfl Try.underlying124 rfl info61 rfl) ?_
  refine qd (rd_load' (i := 0) (o := 0) rfl (ar rfl rfl rfl rfl) rfl flat61) ?_
  refine qd (rd_build' (pls := [(0, 1), (1, 1)]) (qs := [(0, [(Vi a1_0)]), (1, [(Vi a0_0)])]) (r := (C19 a1_0 a0_0)) ⟨rfl, ⟨_, rfl, (lv_vl rfl rfl)⟩, ⟨rfl, ⟨_, rfl, (lv_vl rfl rfl)⟩, trivial⟩⟩ Try.underlying134 has134 places134 info134 rfl rfl rfl) ?_
  refine qd (rd_iface' rfl ⟨_, Try.underlying134, fun _ h => (nomatch h)⟩) ?_
  refine qd (rd_assign' rfl) ?_
  refine qx_nil' ?_
  show TX E K4 _
  refine tx_k' hK4 ?_
  refine cx_retc' ?_
  replace hp := sj hp
  subst hp
  refine tk (L' := [(4, (If 134 (Ag (C19 a1_0 a0_0))))]) (H' := [(Ur wa0 132 (C2 a0_0 a0_1 wa0_2 a0_3 wa0_4)), (Rg Kf 32 wa0_2 a0_2), (Rg (Ki .i64) 3 wa0_4 a0_4), (Ur wa1 128 (C3 a1_0 a1_1 a1_2 a1_3))]) [0, 1, 2, 3] (uc rfl un) (p4 rfl rfl rfl rfl) ?_
  exact tx_ret1' Try.results42 rfl ((none, 0, 0), (none, 0, 0)) (rv_tmp' rfl) lr
 replace hp := (br_f h1).symm.trans hp
 refine cx_skip' ?_
 show TX E K2 _
 refine tx_k' hK2 ?_
 refine cx_seq' fun K5 hK5 => ?_
 refine cx_plan' [] [(14, 1), (20, 1)] [(0, 2), (1, 1), (2, 1), (3, 1), (4, 1), (5, 1), (6, 1), (7, 1), (8, 1), (9, 1), (10, 1), (11, 1), (12, 1), (13, 1), (14, 0), (15, 1), (16, 1), (17, 1), (18, 1), (19, 1), (20, 0)] mixed (by kernel_rfl) ?_
 refine px_rb' rfl (rb_move' rfl) rfl rfl (wt_none' rfl) ?_
 refine pd rfl (rd_move' rfl) ?_
 refine pd rfl (rd_nilck' rfl) ?_
 refine pd rfl (rd_field0' rfl Try.underlying132 rfl info130 rfl) ?_
 refine pd rfl (rd_field0' rfl Try.underlying130 rfl info126 rfl) ?_
 refine pd rfl (rd_field0' rfl Try.underlying126 rfl info124 rfl) ?_
 refine pd rfl (rd_field' (off := 2) rfl Try.underlying124 rfl info22 rfl) ?_
 refine pd rfl (rd_load' (i := 0) (o := 2) rfl (ar rfl rfl rfl rfl) rfl flat22) ?_
 refine pd rfl (rd_move' rfl) ?_
 refine pd rfl (rd_nilck' rfl) ?_
 refine pd rfl (rd_field0' rfl Try.underlying128 rfl info126 rfl) ?_
 refine pd rfl (rd_field0' rfl Try.underlying126 rfl info124 rfl) ?_
 refine pd rfl (rd_field' (off := 2) rfl Try.underlying124 rfl info22 rfl) ?_
 refine pd rfl (rd_load' (i := 3) (o := 2) rfl (ar rfl rfl rfl rfl) rfl flat22) ?_
 obtain ⟨r48, hr48, hp⟩ := bind_some hp
 refine px_ox' rfl (ox_append' (K := Kf) (i := 1) (xs := a0_2) (ys := a1_2) rfl rfl rfl (sr_sl' rfl Try.underlying22) hr48 Try.underlying22 info32 rfl rfl rfl (H' := [(Ur wa0 132 (C2 a0_0 a0_1 wa0_2 a0_3 wa0_4)), (Rg (Ki .i64) 3 wa0_4 a0_4), (Ur wa1 128 (C3 a1_0 a1_1 a1_2 a1_3))]) rfl) rfl bs_nil (wt_none' rfl) fun g48 => ?_
 refine pd rfl (rd_nilck' rfl) ?_
 refine pd rfl (rd_field0' rfl Try.underlying132 rfl info130 rfl) ?_
 refine pd rfl (rd_field0' rfl Try.underlying130 rfl info126 rfl) ?_
 refine pd rfl (rd_field0' rfl Try.underlying126 rfl info124 rfl) ?_
 refine pd rfl (rd_field' (off := 2) rfl Try.underlying124 rfl info22 rfl) ?_
 refine px_oxv' rfl (oxv_store (i := 1) (o := 2) rfl rfl (lv_vl rfl rfl) (ar rfl rfl rfl rfl) rfl info22 rfl (H' := [(Rg Kf 32 g48 r48), (Ur wa0 132 (C2 a0_0 a0_1 g48 a0_3 wa0_4)), (Rg (Ki .i64) 3 wa0_4 a0_4), (Ur wa1 128 (C3 a1_0 a1_1 a1_2 a1_3))]) rfl) rfl rfl bo_nil (wt_none' rfl) fun _ => ?_
 refine px_nil' ?_
 show TX E K5 _
 refine tx_k' hK5 ?_
 refine cx_seq' fun K6 hK6 => ?_
 refine cx_plan' [] [(15, 1), (19, 1)] [(0, 2), (1, 1), (2, 1), (3, 1), (4, 1), (5, 1), (6, 1), (7, 1), (8, 1), (9, 1), (10, 1), (11, 1), (12, 1), (13, 1), (14, 0), (15, 0), (16, 1), (17, 1), (18, 1), (19, 0)] mixed (by kernel_rfl) ?_
 refine px_rb' rfl (rb_move' rfl) rfl rfl (wt_none' rfl) ?_
 refine pd rfl (rd_move' rfl) ?_
 refine pd rfl (rd_nilck' rfl) ?_
 refine pd rfl (rd_field0' rfl Try.underlying132 rfl info130 rfl) ?_
 refine pd rfl (rd_field' (off := 4) rfl Try.underlying130 rfl info23 rfl) ?_
 refine pd rfl (rd_load' (i := 1) (o := 4) rfl (ar rfl rfl rfl rfl) rfl flat23) ?_
 refine pd rfl (rd_move' rfl) ?_
 refine pd rfl (rd_nilck' rfl) ?_
 refine pd rfl (rd_field0' rfl Try.underlying132 rfl info130 rfl) ?_
 refine pd rfl (rd_field0' rfl Try.underlying130 rfl info126 rfl) ?_
 refine pd rfl (rd_field0' rfl Try.underlying126 rfl info124 rfl) ?_
 refine pd rfl (rd_field' (off := 2) rfl Try.underlying124 rfl info22 rfl) ?_
 refine pd rfl (rd_load' (i := 1) (o := 2) rfl (ar rfl rfl rfl rfl) rfl flat22) ?_
 refine pd rfl (rd_lenr' (i := 0) rfl rfl rfl Try.underlying22) ?_
 refine px_ox' rfl (ox_rowlit' (K := (Ki .i64)) (xs := [(r48.length : Int)]) (qs := [(0, [(Vi (r48.length : Int))])]) ⟨rfl, ⟨_, rfl, (lv_vl rfl rfl)⟩, trivial⟩ Try.underlying23 info3 rfl rfl rfl rfl rfl (by kernel_rfl) rfl rfl rfl) rfl bs_nil (wt_none' rfl) fun g68 => ?_
 obtain ⟨r69, hr69, hp⟩ := bind_some hp
 refine px_ox' rfl (ox_append' (K := (Ki .i64)) (i := 3) (xs := a0_4) (ys := ([(r48.length : Int)])) rfl rfl rfl (sr_row' (j := 0) rfl rfl rfl Try.underlying23) hr69 Try.underlying23 info3 rfl rfl rfl (H' := [(Rg (Ki .i64) 3 g68 ([(r48.length : Int)])), (Rg Kf 32 g48 r48), (Ur wa0 132 (C2 a0_0 a0_1 g48 a0_3 wa0_4)), (Ur wa1 128 (C3 a1_0 a1_1 a1_2 a1_3))]) rfl) rfl bs_nil (wt_none' rfl) fun g69 => ?_
 refine pd rfl (rd_nilck' rfl) ?_
 refine pd rfl (rd_field0' rfl Try.underlying132 rfl info130 rfl) ?_
 refine pd rfl (rd_field' (off := 4) rfl Try.underlying130 rfl info23 rfl) ?_
 refine px_oxv' rfl (oxv_store (i := 3) (o := 4) rfl rfl (lv_vl rfl rfl) (ar rfl rfl rfl rfl) rfl info23 rfl (H' := [(Rg (Ki .i64) 3 g69 r69), (Rg (Ki .i64) 3 g68 ([(r48.length : Int)])), (Rg Kf 32 g48 r48), (Ur wa0 132 (C2 a0_0 a0_1 g48 a0_3 g69)), (Ur wa1 128 (C3 a1_0 a1_1 a1_2 a1_3))]) rfl) rfl rfl bo_nil (wt_none' rfl) fun _ => ?_
 refine px_nil' ?_
 show TX E K6 _
 refine tx_k' hK6 ?_
 refine cr fun K7 hK7 => ?_
 refine sa rfl ?_
 refine nk hK7 ?_
 refine cx_retc' ?_
 replace hp := sj hp
 subst hp
 refine tk (L' := [(4, Ve)]) (H' := [(Ur wa0 132 (C2 a0_0 a0_1 g48 a0_3 g69)), (Rg Kf 32 g48 r48), (Rg (Ki .i64) 3 g69 r69), (Ur wa1 128 (C3 a1_0 a1_1 a1_2 a1_3))]) [3, 2, 0, 4] (uc rfl un) (p4 rfl rfl rfl rfl) ?_
 exact tx_ret1' Try.results42 rfl (g48, g69) (rv_tmp' rfl) lr

def gogeom_geom0_SRID (k : Nat) (a0_0 a0_1 : Int) (a0_2 : List Nat) (a0_3 : Int) (a0_4 : List Int) : Option (Int × Int × (List Nat) × Int × (List Int)) :=
 some (a0_0, a0_1, a0_2, a0_3, a0_4)

theorem gogeom_geom0_SRID_sim {k : Nat} {wa0 : Addr} {wa0_2 wa0_4 : Gs} (a0_0 a0_1 : Int) (a0_2 : List Nat) (a0_3 : Int) (a0_4 : List Int) {out : Int × Int × (List Nat) × Int × (List Int)} (hp : gogeom_geom0_SRID k a0_0 a0_1 a0_2 a0_3 a0_4 = some out) : Sx.Fn Try.prog 136 [(Vp wa0)] [(Ur wa0 132 (C2 a0_0 a0_1 wa0_2 a0_3 wa0_4)), (Rg Kf 32 wa0_2 a0_2), (Rg (Ki .i64) 3 wa0_4 a0_4)] (fun w : Unit => (Vi out.2.2.2.1)) (fun w => [(Ur wa0 132 (C2 out.1 out.2.1 wa0_2 out.2.2.2.1 wa0_4)), (Rg Kf 32 wa0_2 out.2.2.1), (Rg (Ki .i64) 3 wa0_4 out.2.2.2.2)]) := by
 unfold gogeom_geom0_SRID at hp
 refine fn_of Try.func136 rfl Try.ntmps136 rfl fun E hM => ?_
 refine cr fun K1 hK1 => ?_
 refine sa rfl ?_
 refine nk hK1 ?_
 refine cr fun K2 hK2 => ?_
 refine sm rfl ?_
 refine sn rfl ?_
 refine sg (off := 3) rfl Try.underlying124 rfl info3 rfl ?_
 refine sl (i := 0) (o := 3) rfl (ar rfl rfl rfl rfl) rfl flat3 ?_
 refine sa rfl ?_
 refine nk hK2 ?_
 refine cx_retc' ?_
 replace hp := sj hp
 subst hp
 refine tk (L' := [(2, (Vi a0_3))]) (H' := [(Ur wa0 132 (C2 a0_0 a0_1 wa0_2 a0_3 wa0_4)), (Rg Kf 32 wa0_2 a0_2), (Rg (Ki .i64) 3 wa0_4 a0_4)]) [0, 1, 2] (uc rfl un) (p3 rfl rfl rfl) ?_
 exact tx_ret1' Try.results136 rfl () (rv_tmp' rfl) lr

def gogeom_geom0_Layout_v4 (k : Nat) (a0_0 a0_1 : Int) (a0_2 : List Nat) (a0_3 : Int) (a0_4 : List Int) : Option (Int × Int × (List Nat) × Int × (List Int)) :=
 some (a0_0, a0_1, a0_2, a0_3, a0_4)

theorem gogeom_geom0_Layout_v4_sim {k : Nat} {wa0 : Addr} {wa0_2 wa0_4 : Gs} (a0_0 a0_1 : Int) (a0_2 : List Nat) (a0_3 : Int) (a0_4 : List Int) {out : Int × Int × (List Nat) × Int × (List Int)} (hp : gogeom_geom0_Layout_v4 k a0_0 a0_1 a0_2 a0_3 a0_4 = some out) : Sx.Fn Try.prog 134 [(Vp wa0)] [(Ur wa0 132 (C2 a0_0 a0_1 wa0_2 a0_3 wa0_4)), (Rg Kf 32 wa0_2 a0_2), (Rg (Ki .i64) 3 wa0_4 a0_4)] (fun w : Unit => (Vi out.1)) (fun w => [(Ur wa0 132 (C2 out.1 out.2.1 wa0_2 out.2.2.2.1 wa0_4)), (Rg Kf 32 wa0_2 out.2.2.1), (Rg (Ki .i64) 3 wa0_4 out.2.2.2.2)]) := by
 unfold gogeom_geom0_Layout_v4 at hp
 refine fn_of Try.func134 rfl Try.ntmps134 rfl fun E hM => ?_
 refine cr fun K1 hK1 => ?_
 refine sa rfl ?_
 refine nk hK1 ?_
 refine cr fun K2 hK2 => ?_
 refine sm rfl ?_
 refine sn rfl ?_
 refine sf rfl Try.underlying124 rfl info61 rfl ?_
 refine sl (i := 0) (o := 0) rfl (ar rfl rfl rfl rfl) rfl flat61 ?_
 refine sa rfl ?_
 refine nk hK2 ?_
 refine cx_retc' ?_
 replace hp := sj hp
 subst hp
 refine tk (L' := [(2, (Vi a0_0))]) (H' := [(Ur wa0 132 (C2 a0_0 a0_1 wa0_2 a0_3 wa0_4)), (Rg Kf 32 wa0_2 a0_2), (Rg (Ki .i64) 3 wa0_4 a0_4)]) [0, 1, 2] (uc rfl un) (p3 rfl rfl rfl) ?_
 exact tx_ret1' Try.results134 rfl () (rv_tmp' rfl) lr

def gogeom_geom0_FlatCoords (k : Nat) (a0_0 a0_1 : Int) (a0_2 : List Nat) (a0_3 : Int) (a0_4 : List Int) : Option (Int × Int × (List Nat) × Int × (List Int)) :=
 some (a0_0, a0_1, a0_2, a0_3, a0_4)

theorem gogeom_geom0_FlatCoords_sim {k : Nat} {wa0 : Addr} {wa0_2 wa0_4 : Gs} (a0_0 a0_1 : Int) (a0_2 : List Nat) (a0_3 : Int) (a0_4 : List Int) {out : Int × Int × (List Nat) × Int × (List Int)} (hp : gogeom_geom0_FlatCoords k a0_0 a0_1 a0_2 a0_3 a0_4 = some out) : Sx.Fn Try.prog 133 [(Vp wa0)] [(Ur wa0 132 (C2 a0_0 a0_1 wa0_2 a0_3 wa0_4)), (Rg Kf 32 wa0_2 a0_2), (Rg (Ki .i64) 3 wa0_4 a0_4)] (fun w : Unit => (Vw wa0_2)) (fun w => [(Ur wa0 132 (C2 out.1 out.2.1 wa0_2 out.2.2.2.1 wa0_4)), (Rg Kf 32 wa0_2 out.2.2.1), (Rg (Ki .i64) 3 wa0_4 out.2.2.2.2)]) := by
 unfold gogeom_geom0_FlatCoords at hp
 refine fn_of Try.func133 rfl Try.ntmps133 rfl fun E hM => ?_
 refine cr fun K1 hK1 => ?_
 refine sa rfl ?_
 refine nk hK1 ?_
 refine cr fun K2 hK2 => ?_
 refine sm rfl ?_
 refine sn rfl ?_
 refine sg (off := 2) rfl Try.underlying124 rfl info22 rfl ?_
 refine sl (i := 0) (o := 2) rfl (ar rfl rfl rfl rfl) rfl flat22 ?_
 refine sa rfl ?_
 refine nk hK2 ?_
 refine cx_retc' ?_
 replace hp := sj hp
 subst hp
 refine tk (L' := [(2, (Vw wa0_2))]) (H' := [(Ur wa0 132 (C2 a0_0 a0_1 wa0_2 a0_3 wa0_4)), (Rg Kf 32 wa0_2 a0_2), (Rg (Ki .i64) 3 wa0_4 a0_4)]) [0, 1, 2] (uc rfl un) (p3 rfl rfl rfl) ?_
 exact tx_ret1' Try.results133 rfl () (rv_tmp' rfl) lr

def impl_floats_v2 (k : Nat) (a0 : List Nat) : Option ((List Nat) × (List Nat)) :=
 (apd 8 [] a0) >>= fun r4 =>
 some (a0, r4)

theorem impl_floats_v2_sim {k : Nat} {wa0 : Gs} (a0 : List Nat) {out : (List Nat) × (List Nat)} (hp : impl_floats_v2 k a0 = some out) : Sx.Fn Try.prog 59 [(Vw wa0)] [(Rg Kf 32 wa0 a0)] (fun w : Gs => (Vw w)) (fun w => [(Rg Kf 32 wa0 out.1), (Rg Kf 32 w out.2)]) := by
 unfold impl_floats_v2 at hp
 refine fn_of Try.func59 rfl Try.ntmps59 rfl fun E hM => ?_
 refine cr fun K1 hK1 => ?_
 refine sa rfl ?_
 refine nk hK1 ?_
 refine cr fun K2 hK2 => ?_
 refine sm rfl ?_
 refine tx_nilrow' Kf 32 ?_
 obtain ⟨r4, hr4, hp⟩ := bind_some hp
 refine so (ox_append' (K := Kf) (i := 0) (xs := []) (ys := a0) rfl rfl rfl (sr_row' (j := 1) rfl rfl rfl Try.underlying22) hr4 Try.underlying22 info32 rfl rfl rfl (H' := [(Rg Kf 32 wa0 a0)]) rfl) fun g4 => ?_
 refine sa rfl ?_
 refine nk hK2 ?_
 refine cx_retc' ?_
 replace hp := sj hp
 subst hp
 refine tk (L' := [(2, (Vw g4))]) (H' := [(Rg Kf 32 wa0 a0), (Rg Kf 32 g4 r4)]) [1, 0] (uc rfl un) (p2 rfl rfl) ?_
 exact tx_ret1' Try.results59 rfl g4 (rv_tmp' rfl) lr

def gogeom_geom2_Ends (k : Nat) (a0_0 a0_1 : Int) (a0_2 : List Nat) (a0_3 : Int) (a0_4 : List Int) : Option (Int × Int × (List Nat) × Int × (List Int)) :=
 some (a0_0, a0_1, a0_2, a0_3, a0_4)

theorem gogeom_geom2_Ends_sim {k : Nat} {wa0 : Addr} {wa0_2 wa0_4 : Gs} (a0_0 a0_1 : Int) (a0_2 : List Nat) (a0_3 : Int) (a0_4 : List Int) {out : Int × Int × (List Nat) × Int × (List Int)} (hp : gogeom_geom2_Ends k a0_0 a0_1 a0_2 a0_3 a0_4 = some out) : Sx.Fn Try.prog 131 [(Vp wa0)] [(Ur wa0 132 (C2 a0_0 a0_1 wa0_2 a0_3 wa0_4)), (Rg Kf 32 wa0_2 a0_2), (Rg (Ki .i64) 3 wa0_4 a0_4)] (fun w : Unit => (Vw wa0_4)) (fun w => [(Ur wa0 132 (C2 out.1 out.2.1 wa0_2 out.2.2.2.1 wa0_4)), (Rg Kf 32 wa0_2 out.2.2.1), (Rg (Ki .i64) 3 wa0_4 out.2.2.2.2)]) := by
 unfold gogeom_geom2_Ends at hp
 refine fn_of Try.func131 rfl Try.ntmps131 rfl fun E hM => ?_
 refine cr fun K1 hK1 => ?_
 refine sa rfl ?_
 refine nk hK1 ?_
 refine cr fun K2 hK2 => ?_
 refine sm rfl ?_
 refine sn rfl ?_
 refine sg (off := 4) rfl Try.underlying130 rfl info23 rfl ?_
 refine sl (i := 0) (o := 4) rfl (ar rfl rfl rfl rfl) rfl flat23 ?_
 refine sa rfl ?_
 refine nk hK2 ?_
 refine cx_retc' ?_
 replace hp := sj hp
 subst hp
 refine tk (L' := [(2, (Vw wa0_4))]) (H' := [(Ur wa0 132 (C2 a0_0 a0_1 wa0_2 a0_3 wa0_4)), (Rg Kf 32 wa0_2 a0_2), (Rg (Ki .i64) 3 wa0_4 a0_4)]) [0, 1, 2] (uc rfl un) (p3 rfl rfl rfl) ?_
 exact tx_ret1' Try.results131 rfl () (rv_tmp' rfl) lr

def impl_ints_v2 (k : Nat) (a0 : List Int) : Option ((List Int) × (List Int)) :=
 (apd 8 [] a0) >>= fun r4 =>
 some (a0, r4)

theorem impl_ints_v2_sim {k : Nat} {wa0 : Gs} (a0 : List Int) {out : (List Int) × (List Int)} (hp : impl_ints_v2 k a0 = some out) : Sx.Fn Try.prog 58 [(Vw wa0)] [(Rg (Ki .i64) 3 wa0 a0)] (fun w : Gs => (Vw w)) (fun w => [(Rg (Ki .i64) 3 wa0 out.1), (Rg (Ki .i64) 3 w out.2)]) := by
 unfold impl_ints_v2 at hp
 refine fn_of Try.func58 rfl Try.ntmps58 rfl fun E hM => ?_
 refine cr fun K1 hK1 => ?_
 refine sa rfl ?_
 refine nk hK1 ?_
 refine cr fun K2 hK2 => ?_
 refine sm rfl ?_
 refine tx_nilrow' (Ki .i64) 3 ?_
 obtain ⟨r4, hr4, hp⟩ := bind_some hp
 refine so (ox_append' (K := (Ki .i64)) (i := 0) (xs := []) (ys := a0) rfl rfl rfl (sr_row' (j := 1) rfl rfl rfl Try.underlying23) hr4 Try.underlying23 info3 rfl rfl rfl (H' := [(Rg (Ki .i64) 3 wa0 a0)]) rfl) fun g4 => ?_
 refine sa rfl ?_
 refine nk hK2 ?_
 refine cx_retc' ?_
 replace hp := sj hp
 subst hp
 refine tk (L' := [(2, (Vw g4))]) (H' := [(Rg (Ki .i64) 3 wa0 a0), (Rg (Ki .i64) 3 g4 r4)]) [1, 0] (uc rfl un) (p2 rfl rfl) ?_
 exact tx_ret1' Try.results58 rfl g4 (rv_tmp' rfl) lr

end Go.Proofs.Ytmagcmeknclljaa
