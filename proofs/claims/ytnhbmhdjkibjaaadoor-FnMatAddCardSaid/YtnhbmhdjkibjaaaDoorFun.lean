/-
  Plain functions for the Go functions that this law reaches, and that each call does what its plain function says. Printed by a program of ours.
-/
import Derived.Test.YtnhbmhdjkibjaaaDoorProg
import Derived.Test.YtnhbmhdjkibjaaaDoorSxZ
import Derived.Test.YtnhbmhdjkibjaaaDoorFun2
namespace Go.Proofs.YtnhbmhdjkibjaaaDoor
open Go.Sx
set_option linter.unusedVariables false
set_option maxRecDepth 100000
set_option maxHeartbeats 2000000

theorem laws_FnMatAdd_sim {k : Nat}  (a0_0 : Nat) (a0_1 : Nat) (a0_2 : Nat) (a0_3 : Nat) (a0_4 : Nat) (a0_5 : Nat) (a0_6 : Nat) (a0_7 : Nat) (a0_8 : Nat) (a1_0 : Nat) (a1_1 : Nat) (a1_2 : Nat) (a1_3 : Nat) (a1_4 : Nat) (a1_5 : Nat) (a1_6 : Nat) (a1_7 : Nat) (a1_8 : Nat) (a2 : Int) {out : Bool} (hp : laws_FnMatAdd k a0_0 a0_1 a0_2 a0_3 a0_4 a0_5 a0_6 a0_7 a0_8 a1_0 a1_1 a1_2 a1_3 a1_4 a1_5 a1_6 a1_7 a1_8 a2 = some out) : Go.Sx.Fn Tryd.prog 4 [(Ag [(Vg a0_0), (Vg a0_1), (Vg a0_2), (Vg a0_3), (Vg a0_4), (Vg a0_5), (Vg a0_6), (Vg a0_7), (Vg a0_8)]), (Ag [(Vg a1_0), (Vg a1_1), (Vg a1_2), (Vg a1_3), (Vg a1_4), (Vg a1_5), (Vg a1_6), (Vg a1_7), (Vg a1_8)]), (Vl (.int .i64 a2))] [] (fun w : Unit => (Vl (.bool out))) (fun w => []) := by
 unfold laws_FnMatAdd at hp
 refine fn_of Tryd.func4 rfl Tryd.ntmps4 rfl fun E hM => ?_
 refine cx_seq' fun K1 hK1 => ?_
 refine cx_region' ?_
 refine sx_ox' (ox_box' rfl (lv_ag _) rfl rfl) (wt_none' rfl) fun q3 => ?_
 refine tx_arr' (K := Kf) (xs := [a0_0, a0_1, a0_2, a0_3, a0_4, a0_5, a0_6, a0_7, a0_8]) (m := 9) (i := 0) rfl rfl rfl (H' := [(Rw Kf 24 (Vs (some q3, 9, 9)) ([a0_0, a0_1, a0_2, a0_3, a0_4, a0_5, a0_6, a0_7, a0_8]))]) rfl ?_
 refine sx_ox' (ox_box' rfl (lv_ag _) rfl rfl) (wt_none' rfl) fun q4 => ?_
 refine tx_arr' (K := Kf) (xs := [a1_0, a1_1, a1_2, a1_3, a1_4, a1_5, a1_6, a1_7, a1_8]) (m := 9) (i := 0) rfl rfl rfl (H' := [(Rw Kf 24 (Vs (some q4, 9, 9)) ([a1_0, a1_1, a1_2, a1_3, a1_4, a1_5, a1_6, a1_7, a1_8])), (Rw Kf 24 (Vs (some q3, 9, 9)) ([a0_0, a0_1, a0_2, a0_3, a0_4, a0_5, a0_6, a0_7, a0_8]))]) rfl ?_
 refine sx_rd' (rd_assign' rfl) rfl rfl (wt_none' rfl) ?_
 refine sx_nil' ?_
 show TX E K1 _
 refine tx_k' hK1 ?_
 refine cx_seq' fun K2 hK2 => ?_
 refine cx_seq' fun K3 hK3 => ?_
 refine cx_region' ?_
 obtain ⟨r11, hr11, hp⟩ := bind_some hp
 refine sx_rd' (rd_loadarr' (m := 1) rfl rfl rfl agg24 (l' := [(Vg r11.1), (Vg r11.2.1), (Vg r11.2.2.1), (Vg r11.2.2.2.1), (Vg r11.2.2.2.2.1), (Vg r11.2.2.2.2.2.1), (Vg r11.2.2.2.2.2.2.1), (Vg r11.2.2.2.2.2.2.2.1), (Vg r11.2.2.2.2.2.2.2.2)]) (by rw [vec9_some hr11]; rfl) rfl rfl) rfl rfl (wt_none' rfl) ?_
 obtain ⟨r12, hr12, hp⟩ := bind_some hp
 refine sx_rd' (rd_loadarr' (m := 0) rfl rfl rfl agg24 (l' := [(Vg r12.1), (Vg r12.2.1), (Vg r12.2.2.1), (Vg r12.2.2.2.1), (Vg r12.2.2.2.2.1), (Vg r12.2.2.2.2.2.1), (Vg r12.2.2.2.2.2.2.1), (Vg r12.2.2.2.2.2.2.2.1), (Vg r12.2.2.2.2.2.2.2.2)]) (by rw [vec9_some hr12]; rfl) rfl rfl) rfl rfl (wt_none' rfl) ?_
 refine sx_ox' (ox_rowlit' (K := KT24) (xs := [(r11.1, r11.2.1, r11.2.2.1, r11.2.2.2.1, r11.2.2.2.2.1, r11.2.2.2.2.2.1, r11.2.2.2.2.2.2.1, r11.2.2.2.2.2.2.2.1, r11.2.2.2.2.2.2.2.2), (r12.1, r12.2.1, r12.2.2.1, r12.2.2.2.1, r12.2.2.2.2.1, r12.2.2.2.2.2.1, r12.2.2.2.2.2.2.1, r12.2.2.2.2.2.2.2.1, r12.2.2.2.2.2.2.2.2)]) (qs := [(0, [(Vg r11.1), (Vg r11.2.1), (Vg r11.2.2.1), (Vg r11.2.2.2.1), (Vg r11.2.2.2.2.1), (Vg r11.2.2.2.2.2.1), (Vg r11.2.2.2.2.2.2.1), (Vg r11.2.2.2.2.2.2.2.1), (Vg r11.2.2.2.2.2.2.2.2)]), (1, [(Vg r12.1), (Vg r12.2.1), (Vg r12.2.2.1), (Vg r12.2.2.2.1), (Vg r12.2.2.2.2.1), (Vg r12.2.2.2.2.2.1), (Vg r12.2.2.2.2.2.2.1), (Vg r12.2.2.2.2.2.2.2.1), (Vg r12.2.2.2.2.2.2.2.2)])]) ⟨rfl, ⟨_, rfl, (lv_ag _)⟩, ⟨rfl, ⟨_, rfl, (lv_ag _)⟩, trivial⟩⟩ Tryd.underlying38 info24 rfl rfl rfl rfl rfl (by kernel_rfl) rfl rfl rfl) (wt_none' rfl) fun g13 => ?_
 obtain ⟨r14, hr14, hp⟩ := bind_some hp
 refine sx_ox' (ox_brw' (frz_row 0 [(13, (Vl (Vs g13)), (Sl KT24 ([(r11.1, r11.2.1, r11.2.2.1, r11.2.2.2.1, r11.2.2.2.2.1, r11.2.2.2.2.2.1, r11.2.2.2.2.2.2.1, r11.2.2.2.2.2.2.2.1, r11.2.2.2.2.2.2.2.2), (r12.1, r12.2.1, r12.2.2.1, r12.2.2.2.1, r12.2.2.2.2.1, r12.2.2.2.2.2.1, r12.2.2.2.2.2.2.1, r12.2.2.2.2.2.2.2.1, r12.2.2.2.2.2.2.2.2)])))] (K := KT24) (xs := [(r11.1, r11.2.1, r11.2.2.1, r11.2.2.2.1, r11.2.2.2.2.1, r11.2.2.2.2.2.1, r11.2.2.2.2.2.2.1, r11.2.2.2.2.2.2.2.1, r11.2.2.2.2.2.2.2.2), (r12.1, r12.2.1, r12.2.2.1, r12.2.2.2.1, r12.2.2.2.2.1, r12.2.2.2.2.2.1, r12.2.2.2.2.2.2.1, r12.2.2.2.2.2.2.2.1, r12.2.2.2.2.2.2.2.2)]) (by decide) rfl ⟨⟨rfl, frz_it⟩, trivial⟩ (H' := [(Rw Kf 24 (Vs (some q4, 9, 9)) ([a1_0, a1_1, a1_2, a1_3, a1_4, a1_5, a1_6, a1_7, a1_8])), (Rw Kf 24 (Vs (some q3, 9, 9)) ([a0_0, a0_1, a0_2, a0_3, a0_4, a0_5, a0_6, a0_7, a0_8]))]) frzH_refl) (ent_fn' Tryd.func6 isn6 rfl rfl) (laws_entries_sim _ hr14 : Go.Sx.Fn Tryd.prog 6 [(Sl KT24 ([(r11.1, r11.2.1, r11.2.2.1, r11.2.2.2.1, r11.2.2.2.2.1, r11.2.2.2.2.2.1, r11.2.2.2.2.2.2.1, r11.2.2.2.2.2.2.2.1, r11.2.2.2.2.2.2.2.2), (r12.1, r12.2.1, r12.2.2.1, r12.2.2.2.1, r12.2.2.2.2.1, r12.2.2.2.2.2.1, r12.2.2.2.2.2.2.1, r12.2.2.2.2.2.2.2.1, r12.2.2.2.2.2.2.2.2)]))] [] (fun x : Unit => (Vl (.bool r14))) (fun x => [])) pu_vl rfl rfl) (wt_none' rfl) fun ⟨⟩ => ?_
 refine sx_rd' (rd_un' rfl ru_not) rfl rfl (wt_none' rfl) ?_
 refine sx_rd' (rd_move' rfl) rfl rfl (wt_none' rfl) ?_
 refine sx_cutn' 3 (fun (v1 : Bool) => (⟨74, [], [(2, (Vl (.int .i64 a2))), (3, (Vl (.pointer ((some q3, 9, 9)).1))), (4, (Vl (.pointer ((some q4, 9, 9)).1))), (19, (Vl (.bool v1)))], [(Rw Kf 24 (Vs (some q3, 9, 9)) ([a0_0, a0_1, a0_2, a0_3, a0_4, a0_5, a0_6, a0_7, a0_8])), (Rw Kf 24 (Vs (some q4, 9, 9)) ([a1_0, a1_1, a1_2, a1_3, a1_4, a1_5, a1_6, a1_7, a1_8]))]⟩ : St)) (fun (v1 : Bool) => laws_FnMatAdd_j1 k a0_0 a0_1 a0_2 a0_3 a0_4 a0_5 a0_6 a0_7 a0_8 a1_0 a1_1 a1_2 a1_3 a1_4 a1_5 a1_6 a1_7 a1_8 a2 v1 = some out) ?_ ?_
 ·rintro x1 hp
  replace hp : laws_FnMatAdd_j1 k a0_0 a0_1 a0_2 a0_3 a0_4 a0_5 a0_6 a0_7 a0_8 a1_0 a1_1 a1_2 a1_3 a1_4 a1_5 a1_6 a1_7 a1_8 a2 x1 = some out := hp
  unfold laws_FnMatAdd_j1 at hp
  refine sx_rd' (rd_move' rfl) rfl rfl (wt_none' rfl) ?_
  refine sx_cutn' 3 (fun (v2 : Bool) => (⟨74, [], [(2, (Vl (.int .i64 a2))), (3, (Vl (.pointer ((some q3, 9, 9)).1))), (4, (Vl (.pointer ((some q4, 9, 9)).1))), (23, (Vl (.bool v2)))], [(Rw Kf 24 (Vs (some q3, 9, 9)) ([a0_0, a0_1, a0_2, a0_3, a0_4, a0_5, a0_6, a0_7, a0_8])), (Rw Kf 24 (Vs (some q4, 9, 9)) ([a1_0, a1_1, a1_2, a1_3, a1_4, a1_5, a1_6, a1_7, a1_8]))]⟩ : St)) (fun (v2 : Bool) => laws_FnMatAdd_j2 k a0_0 a0_1 a0_2 a0_3 a0_4 a0_5 a0_6 a0_7 a0_8 a1_0 a1_1 a1_2 a1_3 a1_4 a1_5 a1_6 a1_7 a1_8 a2 v2 = some out) ?_ ?_
  ·rintro x2 hp
   replace hp : laws_FnMatAdd_j2 k a0_0 a0_1 a0_2 a0_3 a0_4 a0_5 a0_6 a0_7 a0_8 a1_0 a1_1 a1_2 a1_3 a1_4 a1_5 a1_6 a1_7 a1_8 a2 x2 = some out := hp
   unfold laws_FnMatAdd_j2 at hp
   refine sx_nil' ?_
   show TX E K3 _
   refine tx_k' hK3 ?_
   refine cx_cond' rfl (fun h3 => ?_) (fun h3 => ?_)
   ·replace hp := (br_t h3).symm.trans hp
    refine cx_seq' fun K6 hK6 => ?_
    refine cx_region' ?_
    refine sx_rd' (rd_assign' rfl) rfl rfl (wt_none' rfl) ?_
    refine sx_nil' ?_
    show TX E K6 _
    refine tx_k' hK6 ?_
    refine cx_retc' ?_
    replace hp := Option.some.inj hp
    subst hp
    refine tx_pick' (L' := [(6, (Vl (.bool true)))]) (H' := []) [] (sub_cons rfl sub_nil) (by decide) pick_nil ?_
    exact tx_ret1' Tryd.results4 rfl () (rv_tmp' rfl) (List.Sublist.refl _)
   ·replace hp := (br_f h3).symm.trans hp
    refine cx_skip' ?_
    show TX E K2 _
    refine tx_k' hK2 ?_
    refine cx_seq' fun K7 hK7 => ?_
    refine cx_plana' [] [(13, 1), (14, 1), (15, 1)] [(0, 1), (1, 1), (3, 1), (4, 1), (6, 1), (7, 1), (8, 1)] 9 #[true, true, false, true, true, false, true, true, true, false, false, false, false, false, false, false] mixed (by kernel_rfl) ?_
    obtain ⟨r24, hr24, hp⟩ := bind_some hp
    refine px_rd' rfl (rd_loadarr' (m := 0) rfl rfl rfl agg24 (l' := [(Vg r24.1), (Vg r24.2.1), (Vg r24.2.2.1), (Vg r24.2.2.2.1), (Vg r24.2.2.2.2.1), (Vg r24.2.2.2.2.2.1), (Vg r24.2.2.2.2.2.2.1), (Vg r24.2.2.2.2.2.2.2.1), (Vg r24.2.2.2.2.2.2.2.2)]) (by rw [vec9_some hr24]; rfl) rfl rfl) rfl rfl (wt_none' rfl) ?_
    obtain ⟨r25, hr25, hp⟩ := bind_some hp
    refine px_rd' rfl (rd_loadarr' (m := 1) rfl rfl rfl agg24 (l' := [(Vg r25.1), (Vg r25.2.1), (Vg r25.2.2.1), (Vg r25.2.2.2.1), (Vg r25.2.2.2.2.1), (Vg r25.2.2.2.2.2.1), (Vg r25.2.2.2.2.2.2.1), (Vg r25.2.2.2.2.2.2.2.1), (Vg r25.2.2.2.2.2.2.2.2)]) (by rw [vec9_some hr25]; rfl) rfl rfl) rfl rfl (wt_none' rfl) ?_
    obtain ⟨r27, hr27, hp⟩ := bind_some hp
    refine px_rd' rfl (rd_loadarr' (m := 0) rfl rfl rfl agg24 (l' := [(Vg r27.1), (Vg r27.2.1), (Vg r27.2.2.1), (Vg r27.2.2.2.1), (Vg r27.2.2.2.2.1), (Vg r27.2.2.2.2.2.1), (Vg r27.2.2.2.2.2.2.1), (Vg r27.2.2.2.2.2.2.2.1), (Vg r27.2.2.2.2.2.2.2.2)]) (by rw [vec9_some hr27]; rfl) rfl rfl) rfl rfl (wt_none' rfl) ?_
    obtain ⟨r28, hr28, hp⟩ := bind_some hp
    refine px_rd' rfl (rd_loadarr' (m := 1) rfl rfl rfl agg24 (l' := [(Vg r28.1), (Vg r28.2.1), (Vg r28.2.2.1), (Vg r28.2.2.2.1), (Vg r28.2.2.2.2.1), (Vg r28.2.2.2.2.2.1), (Vg r28.2.2.2.2.2.2.1), (Vg r28.2.2.2.2.2.2.2.1), (Vg r28.2.2.2.2.2.2.2.2)]) (by rw [vec9_some hr28]; rfl) rfl rfl) rfl rfl (wt_none' rfl) ?_
    refine px_rd' rfl (rd_move' rfl) rfl rfl (wt_none' rfl) ?_
    refine px_rd' rfl (rd_conv' rfl (ru_i2f (by rw [Tryd.underlying3]; rfl) Tryd.underlying22)) rfl rfl (wt_none' rfl) ?_
    obtain ⟨r32, hr32, hp⟩ := bind_some hp
    refine px_rd' rfl (rd_loadarr' (m := 0) rfl rfl rfl agg24 (l' := [(Vg r32.1), (Vg r32.2.1), (Vg r32.2.2.1), (Vg r32.2.2.2.1), (Vg r32.2.2.2.2.1), (Vg r32.2.2.2.2.2.1), (Vg r32.2.2.2.2.2.2.1), (Vg r32.2.2.2.2.2.2.2.1), (Vg r32.2.2.2.2.2.2.2.2)]) (by rw [vec9_some hr32]; rfl) rfl rfl) rfl rfl (wt_none' rfl) ?_
    refine px_nil' ?_
    show AX E _ _ _ _ _ _ _ _
    obtain ⟨r26, hr26, hp⟩ := bind_some hp
    obtain ⟨r29, hr29, hp⟩ := bind_some hp
    obtain ⟨r33, hr33, hp⟩ := bind_some hp
    refine ax_node (f' := 0) #[true, true, true, true, true, true, true, true, true, true, true, true, true, true, true, true] (fun (v36 : Addr × Addr × Addr × Addr × Addr) => (⟨74, [], [(2, (Vl (.int .i64 a2))), (3, (Vl (.pointer ((some v36.1, 9, 9)).1))), (4, (Vl (.pointer ((some v36.2.1, 9, 9)).1))), (7, (Vl (.pointer ((some v36.2.2.1, 9, 9)).1))), (8, (Vl (.pointer ((some v36.2.2.2.1, 9, 9)).1))), (9, (Vl (.pointer ((some v36.2.2.2.2, 9, 9)).1)))], [(Rw Kf 24 (Vs (some v36.1, 9, 9)) ([a0_0, a0_1, a0_2, a0_3, a0_4, a0_5, a0_6, a0_7, a0_8])), (Rw Kf 24 (Vs (some v36.2.1, 9, 9)) ([a1_0, a1_1, a1_2, a1_3, a1_4, a1_5, a1_6, a1_7, a1_8])), (Rw Kf 24 (Vs (some v36.2.2.1, 9, 9)) ([r26.1, r26.2.1, r26.2.2.1, r26.2.2.2.1, r26.2.2.2.2.1, r26.2.2.2.2.2.1, r26.2.2.2.2.2.2.1, r26.2.2.2.2.2.2.2.1, r26.2.2.2.2.2.2.2.2])), (Rw Kf 24 (Vs (some v36.2.2.2.1, 9, 9)) ([r29.1, r29.2.1, r29.2.2.1, r29.2.2.2.1, r29.2.2.2.2.1, r29.2.2.2.2.2.1, r29.2.2.2.2.2.2.1, r29.2.2.2.2.2.2.2.1, r29.2.2.2.2.2.2.2.2])), (Rw Kf 24 (Vs (some v36.2.2.2.2, 9, 9)) ([r33.1, r33.2.1, r33.2.2.1, r33.2.2.2.1, r33.2.2.2.2.1, r33.2.2.2.2.2.1, r33.2.2.2.2.2.2.1, r33.2.2.2.2.2.2.2.1, r33.2.2.2.2.2.2.2.2]))]⟩ : St)) ?_ ?_
    ·rintro ⟨q90121, q90122, q90123, q90124, q90125⟩
     refine ax_nil (by kernel_rfl) ?_
     show TX E K7 _
     refine tx_k' hK7 ?_
     refine cx_seq' fun K8 hK8 => ?_
     refine cx_seq' fun K9 hK9 => ?_
     refine cx_region' ?_
     refine sx_rd' (rd_move' rfl) rfl rfl (wt_none' rfl) ?_
     refine sx_nil' ?_
     show TX E K9 _
     refine tx_k' hK9 ?_
     refine cx_block' ?_
     refine tx_loop' ?_
     refine tx_round' ?_
     refine cx_seq' fun K10 hK10 => ?_
     refine cx_region' ?_
     refine sx_rd' (rd_bin' rfl rfl eg_int ru_lss) rfl rfl (wt_none' rfl) ?_
     refine sx_nil' ?_
     show TX E K10 _
     refine tx_k' hK10 ?_
     refine cx_seq' fun K11 hK11 => ?_
     refine cx_cond_t' rfl rfl ?_
     refine cx_skip' ?_
     show TX E K11 _
     refine tx_k' hK11 ?_
     refine cx_seq' fun K12 hK12 => ?_
     refine cx_block' ?_
     refine cx_seq' fun K13 hK13 => ?_
     refine cx_region' ?_
     refine sx_rd' (rd_move' rfl) rfl rfl (wt_none' rfl) ?_
     refine sx_rd' (rd_assign' rfl) rfl rfl (wt_none' rfl) ?_
     refine sx_nil' ?_
     show TX E K13 _
     refine tx_k' hK13 ?_
     refine cx_seq' fun K14 hK14 => ?_
     refine cx_draw' mixed (by kernel_rfl) ?_
     refine qx_rd' (rd_move' rfl) rfl rfl (wt_none' rfl) ?_
     obtain ⟨r901, hr901, hp⟩ := bind_some hp
     refine qx_rd' (rd_atarr' (m := 2) rfl rfl rfl rfl hr901 Tryd.underlying24 info22) rfl rfl (wt_none' rfl) ?_
     refine qx_rd' (rd_loadr' rfl (m := 2) (i := 0) (j := 0) rfl rfl (idxn_some hr901).2 rfl rfl flat22) rfl rfl (wt_none' rfl) ?_
     refine qx_rd' (rd_move' rfl) rfl rfl (wt_none' rfl) ?_
     obtain ⟨r902, hr902, hp⟩ := bind_some hp
     refine qx_rd' (rd_atarr' (m := 0) rfl rfl rfl rfl hr902 Tryd.underlying24 info22) rfl rfl (wt_none' rfl) ?_
     refine qx_rd' (rd_loadr' rfl (m := 0) (i := 0) (j := 0) rfl rfl (idxn_some hr902).2 rfl rfl flat22) rfl rfl (wt_none' rfl) ?_
     refine qx_rd' (rd_move' rfl) rfl rfl (wt_none' rfl) ?_
     obtain ⟨r903, hr903, hp⟩ := bind_some hp
     refine qx_rd' (rd_atarr' (m := 1) rfl rfl rfl rfl hr903 Tryd.underlying24 info22) rfl rfl (wt_none' rfl) ?_
     refine qx_rd' (rd_loadr' rfl (m := 1) (i := 0) (j := 0) rfl rfl (idxn_some hr903).2 rfl rfl flat22) rfl rfl (wt_none' rfl) ?_
     obtain ⟨r904, hr904, hp⟩ := bind_some hp
     refine qx_rd' (rd_bin' rfl rfl eg_flt (ru_fadd hr904)) rfl rfl (wt_none' rfl) ?_
     refine qx_rd' (rd_bin' rfl rfl eg_flt ru_fne) rfl rfl (wt_none' rfl) ?_
     refine qx_rd' (rd_move' rfl) rfl rfl (wt_none' rfl) ?_
     refine qx_cutn' 12 (fun (v37 : Bool) => (⟨74, [], [(2, (Vl (.int .i64 a2))), (3, (Vl (.pointer ((some q90121, 9, 9)).1))), (4, (Vl (.pointer ((some q90122, 9, 9)).1))), (7, (Vl (.pointer ((some q90123, 9, 9)).1))), (8, (Vl (.pointer ((some q90124, 9, 9)).1))), (9, (Vl (.pointer ((some q90125, 9, 9)).1))), (10, (Vl (.int .i64 0))), (34, (Vl (.int .i64 0))), (60, (Vl (.bool v37)))], [(Rw Kf 24 (Vs (some q90121, 9, 9)) ([a0_0, a0_1, a0_2, a0_3, a0_4, a0_5, a0_6, a0_7, a0_8])), (Rw Kf 24 (Vs (some q90122, 9, 9)) ([a1_0, a1_1, a1_2, a1_3, a1_4, a1_5, a1_6, a1_7, a1_8])), (Rw Kf 24 (Vs (some q90123, 9, 9)) ([r26.1, r26.2.1, r26.2.2.1, r26.2.2.2.1, r26.2.2.2.2.1, r26.2.2.2.2.2.1, r26.2.2.2.2.2.2.1, r26.2.2.2.2.2.2.2.1, r26.2.2.2.2.2.2.2.2])), (Rw Kf 24 (Vs (some q90124, 9, 9)) ([r29.1, r29.2.1, r29.2.2.1, r29.2.2.2.1, r29.2.2.2.2.1, r29.2.2.2.2.2.1, r29.2.2.2.2.2.2.1, r29.2.2.2.2.2.2.2.1, r29.2.2.2.2.2.2.2.2])), (Rw Kf 24 (Vs (some q90125, 9, 9)) ([r33.1, r33.2.1, r33.2.2.1, r33.2.2.2.1, r33.2.2.2.2.1, r33.2.2.2.2.2.1, r33.2.2.2.2.2.2.1, r33.2.2.2.2.2.2.2.1, r33.2.2.2.2.2.2.2.2]))]⟩ : St)) (fun (v37 : Bool) => laws_FnMatAdd_j3 k r26 a0_0 a0_1 a0_2 a0_3 a0_4 a0_5 a0_6 a0_7 a0_8 a1_0 a1_1 a1_2 a1_3 a1_4 a1_5 a1_6 a1_7 a1_8 r33 a2 r29 v37 = some out) ?_ ?_
     ·rintro x3 hp
      replace hp : laws_FnMatAdd_j3 k r26 a0_0 a0_1 a0_2 a0_3 a0_4 a0_5 a0_6 a0_7 a0_8 a1_0 a1_1 a1_2 a1_3 a1_4 a1_5 a1_6 a1_7 a1_8 r33 a2 r29 x3 = some out := hp
      unfold laws_FnMatAdd_j3 at hp
      refine qx_rd' (rd_move' rfl) rfl rfl (wt_none' rfl) ?_
      refine qx_cutn' 11 (fun (v38 : Bool) => (⟨74, [], [(2, (Vl (.int .i64 a2))), (3, (Vl (.pointer ((some q90121, 9, 9)).1))), (4, (Vl (.pointer ((some q90122, 9, 9)).1))), (7, (Vl (.pointer ((some q90123, 9, 9)).1))), (8, (Vl (.pointer ((some q90124, 9, 9)).1))), (9, (Vl (.pointer ((some q90125, 9, 9)).1))), (34, (Vl (.int .i64 0))), (72, (Vl (.bool v38)))], [(Rw Kf 24 (Vs (some q90121, 9, 9)) ([a0_0, a0_1, a0_2, a0_3, a0_4, a0_5, a0_6, a0_7, a0_8])), (Rw Kf 24 (Vs (some q90122, 9, 9)) ([a1_0, a1_1, a1_2, a1_3, a1_4, a1_5, a1_6, a1_7, a1_8])), (Rw Kf 24 (Vs (some q90123, 9, 9)) ([r26.1, r26.2.1, r26.2.2.1, r26.2.2.2.1, r26.2.2.2.2.1, r26.2.2.2.2.2.1, r26.2.2.2.2.2.2.1, r26.2.2.2.2.2.2.2.1, r26.2.2.2.2.2.2.2.2])), (Rw Kf 24 (Vs (some q90124, 9, 9)) ([r29.1, r29.2.1, r29.2.2.1, r29.2.2.2.1, r29.2.2.2.2.1, r29.2.2.2.2.2.1, r29.2.2.2.2.2.2.1, r29.2.2.2.2.2.2.2.1, r29.2.2.2.2.2.2.2.2])), (Rw Kf 24 (Vs (some q90125, 9, 9)) ([r33.1, r33.2.1, r33.2.2.1, r33.2.2.2.1, r33.2.2.2.2.1, r33.2.2.2.2.2.1, r33.2.2.2.2.2.2.1, r33.2.2.2.2.2.2.2.1, r33.2.2.2.2.2.2.2.2]))]⟩ : St)) (fun (v38 : Bool) => laws_FnMatAdd_j4 k r26 a0_0 a0_1 a0_2 a0_3 a0_4 a0_5 a0_6 a0_7 a0_8 a1_0 a1_1 a1_2 a1_3 a1_4 a1_5 a1_6 a1_7 a1_8 r33 a2 r29 v38 = some out) ?_ ?_
      ·rintro x4 hp
       replace hp : laws_FnMatAdd_j4 k r26 a0_0 a0_1 a0_2 a0_3 a0_4 a0_5 a0_6 a0_7 a0_8 a1_0 a1_1 a1_2 a1_3 a1_4 a1_5 a1_6 a1_7 a1_8 r33 a2 r29 x4 = some out := hp
       unfold laws_FnMatAdd_j4 at hp
       refine qx_nil' ?_
       show TX E K14 _
       refine tx_k' hK14 ?_
       refine cx_cond' rfl (fun h6 => ?_) (fun h6 => ?_)
       ·replace hp := (br_t h6).symm.trans hp
        refine cx_seq' fun K17 hK17 => ?_
        refine cx_region' ?_
        refine sx_rd' (rd_assign' rfl) rfl rfl (wt_none' rfl) ?_
        refine sx_nil' ?_
        show TX E K17 _
        refine tx_k' hK17 ?_
        refine cx_retc' ?_
        replace hp := Option.some.inj hp
        subst hp
        refine tx_pick' (L' := [(6, (Vl (.bool false)))]) (H' := []) [] (sub_cons rfl sub_nil) (by decide) pick_nil ?_
        exact tx_ret1' Tryd.results4 rfl () (rv_tmp' rfl) (List.Sublist.refl _)
       ·replace hp := (br_f h6).symm.trans hp
        refine cx_skip' ?_
        show TX E K12 _
        refine tx_k' hK12 ?_
        refine cx_region' ?_
        refine sx_rd' (rd_bin' rfl rfl eg_int (ru_addc (c := 1) (by decide))) rfl rfl (wt_none' rfl) ?_
        refine sx_rd' (rd_move' rfl) rfl rfl (wt_none' rfl) ?_
        refine sx_nil' ?_
        show TX E (LoopIn _ _ _) _
        refine tx_round' ?_
        refine cx_seq' fun K18 hK18 => ?_
        refine cx_region' ?_
        refine sx_rd' (rd_bin' rfl rfl eg_int ru_lss) rfl rfl (wt_none' rfl) ?_
        refine sx_nil' ?_
        show TX E K18 _
        refine tx_k' hK18 ?_
        refine cx_seq' fun K19 hK19 => ?_
        refine cx_cond_t' rfl rfl ?_
        refine cx_skip' ?_
        show TX E K19 _
        refine tx_k' hK19 ?_
        refine cx_seq' fun K20 hK20 => ?_
        refine cx_block' ?_
        refine cx_seq' fun K21 hK21 => ?_
        refine cx_region' ?_
        refine sx_rd' (rd_move' rfl) rfl rfl (wt_none' rfl) ?_
        refine sx_rd' (rd_assign' rfl) rfl rfl (wt_none' rfl) ?_
        refine sx_nil' ?_
        show TX E K21 _
        refine tx_k' hK21 ?_
        refine cx_seq' fun K22 hK22 => ?_
        refine cx_draw' mixed (by kernel_rfl) ?_
        refine qx_rd' (rd_move' rfl) rfl rfl (wt_none' rfl) ?_
        obtain ⟨r9012, hr9012, hp⟩ := bind_some hp
        refine qx_rd' (rd_atarr' (m := 2) rfl rfl rfl rfl hr9012 Tryd.underlying24 info22) rfl rfl (wt_none' rfl) ?_
        refine qx_rd' (rd_loadr' rfl (m := 2) (i := 1) (j := 0) rfl rfl (idxn_some hr9012).2 rfl rfl flat22) rfl rfl (wt_none' rfl) ?_
        refine qx_rd' (rd_move' rfl) rfl rfl (wt_none' rfl) ?_
        obtain ⟨r9013, hr9013, hp⟩ := bind_some hp
        refine qx_rd' (rd_atarr' (m := 0) rfl rfl rfl rfl hr9013 Tryd.underlying24 info22) rfl rfl (wt_none' rfl) ?_
        refine qx_rd' (rd_loadr' rfl (m := 0) (i := 1) (j := 0) rfl rfl (idxn_some hr9013).2 rfl rfl flat22) rfl rfl (wt_none' rfl) ?_
        refine qx_rd' (rd_move' rfl) rfl rfl (wt_none' rfl) ?_
        obtain ⟨r9014, hr9014, hp⟩ := bind_some hp
        refine qx_rd' (rd_atarr' (m := 1) rfl rfl rfl rfl hr9014 Tryd.underlying24 info22) rfl rfl (wt_none' rfl) ?_
        refine qx_rd' (rd_loadr' rfl (m := 1) (i := 1) (j := 0) rfl rfl (idxn_some hr9014).2 rfl rfl flat22) rfl rfl (wt_none' rfl) ?_
        obtain ⟨r9015, hr9015, hp⟩ := bind_some hp
        refine qx_rd' (rd_bin' rfl rfl eg_flt (ru_fadd hr9015)) rfl rfl (wt_none' rfl) ?_
        refine qx_rd' (rd_bin' rfl rfl eg_flt ru_fne) rfl rfl (wt_none' rfl) ?_
        refine qx_rd' (rd_move' rfl) rfl rfl (wt_none' rfl) ?_
        refine qx_cutn' 12 (fun (v39 : Bool) => (⟨74, [], [(2, (Vl (.int .i64 a2))), (3, (Vl (.pointer ((some q90121, 9, 9)).1))), (4, (Vl (.pointer ((some q90122, 9, 9)).1))), (7, (Vl (.pointer ((some q90123, 9, 9)).1))), (8, (Vl (.pointer ((some q90124, 9, 9)).1))), (9, (Vl (.pointer ((some q90125, 9, 9)).1))), (10, (Vl (.int .i64 1))), (34, (Vl (.int .i64 1))), (60, (Vl (.bool v39)))], [(Rw Kf 24 (Vs (some q90121, 9, 9)) ([a0_0, a0_1, a0_2, a0_3, a0_4, a0_5, a0_6, a0_7, a0_8])), (Rw Kf 24 (Vs (some q90122, 9, 9)) ([a1_0, a1_1, a1_2, a1_3, a1_4, a1_5, a1_6, a1_7, a1_8])), (Rw Kf 24 (Vs (some q90123, 9, 9)) ([r26.1, r26.2.1, r26.2.2.1, r26.2.2.2.1, r26.2.2.2.2.1, r26.2.2.2.2.2.1, r26.2.2.2.2.2.2.1, r26.2.2.2.2.2.2.2.1, r26.2.2.2.2.2.2.2.2])), (Rw Kf 24 (Vs (some q90124, 9, 9)) ([r29.1, r29.2.1, r29.2.2.1, r29.2.2.2.1, r29.2.2.2.2.1, r29.2.2.2.2.2.1, r29.2.2.2.2.2.2.1, r29.2.2.2.2.2.2.2.1, r29.2.2.2.2.2.2.2.2])), (Rw Kf 24 (Vs (some q90125, 9, 9)) ([r33.1, r33.2.1, r33.2.2.1, r33.2.2.2.1, r33.2.2.2.2.1, r33.2.2.2.2.2.1, r33.2.2.2.2.2.2.1, r33.2.2.2.2.2.2.2.1, r33.2.2.2.2.2.2.2.2]))]⟩ : St)) (fun (v39 : Bool) => laws_FnMatAdd_j5 k r26 a0_0 a0_1 a0_2 a0_3 a0_4 a0_5 a0_6 a0_7 a0_8 a1_0 a1_1 a1_2 a1_3 a1_4 a1_5 a1_6 a1_7 a1_8 r33 a2 r29 v39 = some out) ?_ ?_
        ·rintro x5 hp
         replace hp : laws_FnMatAdd_j5 k r26 a0_0 a0_1 a0_2 a0_3 a0_4 a0_5 a0_6 a0_7 a0_8 a1_0 a1_1 a1_2 a1_3 a1_4 a1_5 a1_6 a1_7 a1_8 r33 a2 r29 x5 = some out := hp
         unfold laws_FnMatAdd_j5 at hp
         refine qx_rd' (rd_move' rfl) rfl rfl (wt_none' rfl) ?_
         refine qx_cutn' 11 (fun (v40 : Bool) => (⟨74, [], [(2, (Vl (.int .i64 a2))), (3, (Vl (.pointer ((some q90121, 9, 9)).1))), (4, (Vl (.pointer ((some q90122, 9, 9)).1))), (7, (Vl (.pointer ((some q90123, 9, 9)).1))), (8, (Vl (.pointer ((some q90124, 9, 9)).1))), (9, (Vl (.pointer ((some q90125, 9, 9)).1))), (34, (Vl (.int .i64 1))), (72, (Vl (.bool v40)))], [(Rw Kf 24 (Vs (some q90121, 9, 9)) ([a0_0, a0_1, a0_2, a0_3, a0_4, a0_5, a0_6, a0_7, a0_8])), (Rw Kf 24 (Vs (some q90122, 9, 9)) ([a1_0, a1_1, a1_2, a1_3, a1_4, a1_5, a1_6, a1_7, a1_8])), (Rw Kf 24 (Vs (some q90123, 9, 9)) ([r26.1, r26.2.1, r26.2.2.1, r26.2.2.2.1, r26.2.2.2.2.1, r26.2.2.2.2.2.1, r26.2.2.2.2.2.2.1, r26.2.2.2.2.2.2.2.1, r26.2.2.2.2.2.2.2.2])), (Rw Kf 24 (Vs (some q90124, 9, 9)) ([r29.1, r29.2.1, r29.2.2.1, r29.2.2.2.1, r29.2.2.2.2.1, r29.2.2.2.2.2.1, r29.2.2.2.2.2.2.1, r29.2.2.2.2.2.2.2.1, r29.2.2.2.2.2.2.2.2])), (Rw Kf 24 (Vs (some q90125, 9, 9)) ([r33.1, r33.2.1, r33.2.2.1, r33.2.2.2.1, r33.2.2.2.2.1, r33.2.2.2.2.2.1, r33.2.2.2.2.2.2.1, r33.2.2.2.2.2.2.2.1, r33.2.2.2.2.2.2.2.2]))]⟩ : St)) (fun (v40 : Bool) => laws_FnMatAdd_j6 k r26 a0_0 a0_1 a0_2 a0_3 a0_4 a0_5 a0_6 a0_7 a0_8 a1_0 a1_1 a1_2 a1_3 a1_4 a1_5 a1_6 a1_7 a1_8 r33 a2 r29 v40 = some out) ?_ ?_
         ·rintro x6 hp
          replace hp : laws_FnMatAdd_j6 k r26 a0_0 a0_1 a0_2 a0_3 a0_4 a0_5 a0_6 a0_7 a0_8 a1_0 a1_1 a1_2 a1_3 a1_4 a1_5 a1_6 a1_7 a1_8 r33 a2 r29 x6 = some out := hp
          unfold laws_FnMatAdd_j6 at hp
          refine qx_nil' ?_
          show TX E K22 _
          refine tx_k' hK22 ?_
          refine cx_cond' rfl (fun h9 => ?_) (fun h9 => ?_)
          ·replace hp := (br_t h9).symm.trans hp
           refine cx_seq' fun K25 hK25 => ?_
           refine cx_region' ?_
           refine sx_rd' (rd_assign' rfl) rfl rfl (wt_none' rfl) ?_
           refine sx_nil' ?_
           show TX E K25 _
           refine tx_k' hK25 ?_
           refine cx_retc' ?_
           replace hp := Option.some.inj hp
           subst hp
           refine tx_pick' (L' := [(6, (Vl (.bool false)))]) (H' := []) [] (sub_cons rfl sub_nil) (by decide) pick_nil ?_
           exact tx_ret1' Tryd.results4 rfl () (rv_tmp' rfl) (List.Sublist.refl _)
          ·replace hp := (br_f h9).symm.trans hp
           refine cx_skip' ?_
           show TX E K20 _
           refine tx_k' hK20 ?_
           refine cx_region' ?_
           refine sx_rd' (rd_bin' rfl rfl eg_int (ru_addc (c := 2) (by decide))) rfl rfl (wt_none' rfl) ?_
           refine sx_rd' (rd_move' rfl) rfl rfl (wt_none' rfl) ?_
           refine sx_nil' ?_
           show TX E (LoopIn _ _ _) _
           refine tx_round' ?_
           refine cx_seq' fun K26 hK26 => ?_
           refine cx_region' ?_
           refine sx_rd' (rd_bin' rfl rfl eg_int ru_lss) rfl rfl (wt_none' rfl) ?_
           refine sx_nil' ?_
           show TX E K26 _
           refine tx_k' hK26 ?_
           refine cx_seq' fun K27 hK27 => ?_
           refine cx_cond_t' rfl rfl ?_
           refine cx_skip' ?_
           show TX E K27 _
           refine tx_k' hK27 ?_
           refine cx_seq' fun K28 hK28 => ?_
           refine cx_block' ?_
           refine cx_seq' fun K29 hK29 => ?_
           refine cx_region' ?_
           refine sx_rd' (rd_move' rfl) rfl rfl (wt_none' rfl) ?_
           refine sx_rd' (rd_assign' rfl) rfl rfl (wt_none' rfl) ?_
           refine sx_nil' ?_
           show TX E K29 _
           refine tx_k' hK29 ?_
           refine cx_seq' fun K30 hK30 => ?_
           refine cx_draw' mixed (by kernel_rfl) ?_
           refine qx_rd' (rd_move' rfl) rfl rfl (wt_none' rfl) ?_
           obtain ⟨r9023, hr9023, hp⟩ := bind_some hp
           refine qx_rd' (rd_atarr' (m := 2) rfl rfl rfl rfl hr9023 Tryd.underlying24 info22) rfl rfl (wt_none' rfl) ?_
           refine qx_rd' (rd_loadr' rfl (m := 2) (i := 2) (j := 0) rfl rfl (idxn_some hr9023).2 rfl rfl flat22) rfl rfl (wt_none' rfl) ?_
           refine qx_rd' (rd_move' rfl) rfl rfl (wt_none' rfl) ?_
           obtain ⟨r9024, hr9024, hp⟩ := bind_some hp
           refine qx_rd' (rd_atarr' (m := 0) rfl rfl rfl rfl hr9024 Tryd.underlying24 info22) rfl rfl (wt_none' rfl) ?_
           refine qx_rd' (rd_loadr' rfl (m := 0) (i := 2) (j := 0) rfl rfl (idxn_some hr9024).2 rfl rfl flat22) rfl rfl (wt_none' rfl) ?_
           refine qx_rd' (rd_move' rfl) rfl rfl (wt_none' rfl) ?_
           obtain ⟨r9025, hr9025, hp⟩ := bind_some hp
           refine qx_rd' (rd_atarr' (m := 1) rfl rfl rfl rfl hr9025 Tryd.underlying24 info22) rfl rfl (wt_none' rfl) ?_
           refine qx_rd' (rd_loadr' rfl (m := 1) (i := 2) (j := 0) rfl rfl (idxn_some hr9025).2 rfl rfl flat22) rfl rfl (wt_none' rfl) ?_
           obtain ⟨r9026, hr9026, hp⟩ := bind_some hp
           refine qx_rd' (rd_bin' rfl rfl eg_flt (ru_fadd hr9026)) rfl rfl (wt_none' rfl) ?_
           refine qx_rd' (rd_bin' rfl rfl eg_flt ru_fne) rfl rfl (wt_none' rfl) ?_
           refine qx_rd' (rd_move' rfl) rfl rfl (wt_none' rfl) ?_
           refine qx_cutn' 12 (fun (v41 : Bool) => (⟨74, [], [(2, (Vl (.int .i64 a2))), (3, (Vl (.pointer ((some q90121, 9, 9)).1))), (4, (Vl (.pointer ((some q90122, 9, 9)).1))), (7, (Vl (.pointer ((some q90123, 9, 9)).1))), (8, (Vl (.pointer ((some q90124, 9, 9)).1))), (9, (Vl (.pointer ((some q90125, 9, 9)).1))), (10, (Vl (.int .i64 2))), (34, (Vl (.int .i64 2))), (60, (Vl (.bool v41)))], [(Rw Kf 24 (Vs (some q90121, 9, 9)) ([a0_0, a0_1, a0_2, a0_3, a0_4, a0_5, a0_6, a0_7, a0_8])), (Rw Kf 24 (Vs (some q90122, 9, 9)) ([a1_0, a1_1, a1_2, a1_3, a1_4, a1_5, a1_6, a1_7, a1_8])), (Rw Kf 24 (Vs (some q90123, 9, 9)) ([r26.1, r26.2.1, r26.2.2.1, r26.2.2.2.1, r26.2.2.2.2.1, r26.2.2.2.2.2.1, r26.2.2.2.2.2.2.1, r26.2.2.2.2.2.2.2.1, r26.2.2.2.2.2.2.2.2])), (Rw Kf 24 (Vs (some q90124, 9, 9)) ([r29.1, r29.2.1, r29.2.2.1, r29.2.2.2.1, r29.2.2.2.2.1, r29.2.2.2.2.2.1, r29.2.2.2.2.2.2.1, r29.2.2.2.2.2.2.2.1, r29.2.2.2.2.2.2.2.2])), (Rw Kf 24 (Vs (some q90125, 9, 9)) ([r33.1, r33.2.1, r33.2.2.1, r33.2.2.2.1, r33.2.2.2.2.1, r33.2.2.2.2.2.1, r33.2.2.2.2.2.2.1, r33.2.2.2.2.2.2.2.1, r33.2.2.2.2.2.2.2.2]))]⟩ : St)) (fun (v41 : Bool) => laws_FnMatAdd_j7 k r26 a0_0 a0_1 a0_2 a0_3 a0_4 a0_5 a0_6 a0_7 a0_8 a1_0 a1_1 a1_2 a1_3 a1_4 a1_5 a1_6 a1_7 a1_8 r33 a2 r29 v41 = some out) ?_ ?_
           ·rintro x7 hp
            replace hp : laws_FnMatAdd_j7 k r26 a0_0 a0_1 a0_2 a0_3 a0_4 a0_5 a0_6 a0_7 a0_8 a1_0 a1_1 a1_2 a1_3 a1_4 a1_5 a1_6 a1_7 a1_8 r33 a2 r29 x7 = some out := hp
            unfold laws_FnMatAdd_j7 at hp
            refine qx_rd' (rd_move' rfl) rfl rfl (wt_none' rfl) ?_
            refine qx_cutn' 11 (fun (v42 : Bool) => (⟨74, [], [(2, (Vl (.int .i64 a2))), (3, (Vl (.pointer ((some q90121, 9, 9)).1))), (4, (Vl (.pointer ((some q90122, 9, 9)).1))), (7, (Vl (.pointer ((some q90123, 9, 9)).1))), (8, (Vl (.pointer ((some q90124, 9, 9)).1))), (9, (Vl (.pointer ((some q90125, 9, 9)).1))), (34, (Vl (.int .i64 2))), (72, (Vl (.bool v42)))], [(Rw Kf 24 (Vs (some q90121, 9, 9)) ([a0_0, a0_1, a0_2, a0_3, a0_4, a0_5, a0_6, a0_7, a0_8])), (Rw Kf 24 (Vs (some q90122, 9, 9)) ([a1_0, a1_1, a1_2, a1_3, a1_4, a1_5, a1_6, a1_7, a1_8])), (Rw Kf 24 (Vs (some q90123, 9, 9)) ([r26.1, r26.2.1, r26.2.2.1, r26.2.2.2.1, r26.2.2.2.2.1, r26.2.2.2.2.2.1, r26.2.2.2.2.2.2.1, r26.2.2.2.2.2.2.2.1, r26.2.2.2.2.2.2.2.2])), (Rw Kf 24 (Vs (some q90124, 9, 9)) ([r29.1, r29.2.1, r29.2.2.1, r29.2.2.2.1, r29.2.2.2.2.1, r29.2.2.2.2.2.1, r29.2.2.2.2.2.2.1, r29.2.2.2.2.2.2.2.1, r29.2.2.2.2.2.2.2.2])), (Rw Kf 24 (Vs (some q90125, 9, 9)) ([r33.1, r33.2.1, r33.2.2.1, r33.2.2.2.1, r33.2.2.2.2.1, r33.2.2.2.2.2.1, r33.2.2.2.2.2.2.1, r33.2.2.2.2.2.2.2.1, r33.2.2.2.2.2.2.2.2]))]⟩ : St)) (fun (v42 : Bool) => laws_FnMatAdd_j8 k r26 a0_0 a0_1 a0_2 a0_3 a0_4 a0_5 a0_6 a0_7 a0_8 a1_0 a1_1 a1_2 a1_3 a1_4 a1_5 a1_6 a1_7 a1_8 r33 a2 r29 v42 = some out) ?_ ?_
            ·rintro x8 hp
             replace hp : laws_FnMatAdd_j8 k r26 a0_0 a0_1 a0_2 a0_3 a0_4 a0_5 a0_6 a0_7 a0_8 a1_0 a1_1 a1_2 a1_3 a1_4 a1_5 a1_6 a1_7 a1_8 r33 a2 r29 x8 = some out := hp
             unfold laws_FnMatAdd_j8 at hp
             refine qx_nil' ?_
             show TX E K30 _
             refine tx_k' hK30 ?_
             refine cx_cond' rfl (fun h12 => ?_) (fun h12 => ?_)
             ·replace hp := (br_t h12).symm.trans hp
              refine cx_seq' fun K33 hK33 => ?_
              refine cx_region' ?_
              refine sx_rd' (rd_assign' rfl) rfl rfl (wt_none' rfl) ?_
              refine sx_nil' ?_
              show TX E K33 _
              refine tx_k' hK33 ?_
              refine cx_retc' ?_
              replace hp := Option.some.inj hp
              subst hp
              refine tx_pick' (L' := [(6, (Vl (.bool false)))]) (H' := []) [] (sub_cons rfl sub_nil) (by decide) pick_nil ?_
              exact tx_ret1' Tryd.results4 rfl () (rv_tmp' rfl) (List.Sublist.refl _)
             ·replace hp := (br_f h12).symm.trans hp
              refine cx_skip' ?_
              show TX E K28 _
              refine tx_k' hK28 ?_
              refine cx_region' ?_
              refine sx_rd' (rd_bin' rfl rfl eg_int (ru_addc (c := 3) (by decide))) rfl rfl (wt_none' rfl) ?_
              refine sx_rd' (rd_move' rfl) rfl rfl (wt_none' rfl) ?_
              refine sx_nil' ?_
              show TX E (LoopIn _ _ _) _
              refine tx_round' ?_
              refine cx_seq' fun K34 hK34 => ?_
              refine cx_region' ?_
              refine sx_rd' (rd_bin' rfl rfl eg_int ru_lss) rfl rfl (wt_none' rfl) ?_
              refine sx_nil' ?_
              show TX E K34 _
              refine tx_k' hK34 ?_
              refine cx_seq' fun K35 hK35 => ?_
              refine cx_cond_t' rfl rfl ?_
              refine cx_skip' ?_
              show TX E K35 _
              refine tx_k' hK35 ?_
              refine cx_seq' fun K36 hK36 => ?_
              refine cx_block' ?_
              refine cx_seq' fun K37 hK37 => ?_
              refine cx_region' ?_
              refine sx_rd' (rd_move' rfl) rfl rfl (wt_none' rfl) ?_
              refine sx_rd' (rd_assign' rfl) rfl rfl (wt_none' rfl) ?_
              refine sx_nil' ?_
              show TX E K37 _
              refine tx_k' hK37 ?_
              refine cx_seq' fun K38 hK38 => ?_
              refine cx_draw' mixed (by kernel_rfl) ?_
              refine qx_rd' (rd_move' rfl) rfl rfl (wt_none' rfl) ?_
              obtain ⟨r9034, hr9034, hp⟩ := bind_some hp
              refine qx_rd' (rd_atarr' (m := 2) rfl rfl rfl rfl hr9034 Tryd.underlying24 info22) rfl rfl (wt_none' rfl) ?_
              refine qx_rd' (rd_loadr' rfl (m := 2) (i := 3) (j := 0) rfl rfl (idxn_some hr9034).2 rfl rfl flat22) rfl rfl (wt_none' rfl) ?_
              refine qx_rd' (rd_move' rfl) rfl rfl (wt_none' rfl) ?_
              obtain ⟨r9035, hr9035, hp⟩ := bind_some hp
              refine qx_rd' (rd_atarr' (m := 0) rfl rfl rfl rfl hr9035 Tryd.underlying24 info22) rfl rfl (wt_none' rfl) ?_
              refine qx_rd' (rd_loadr' rfl (m := 0) (i := 3) (j := 0) rfl rfl (idxn_some hr9035).2 rfl rfl flat22) rfl rfl (wt_none' rfl) ?_
              refine qx_rd' (rd_move' rfl) rfl rfl (wt_none' rfl) ?_
              obtain ⟨r9036, hr9036, hp⟩ := bind_some hp
              refine qx_rd' (rd_atarr' (m := 1) rfl rfl rfl rfl hr9036 Tryd.underlying24 info22) rfl rfl (wt_none' rfl) ?_
              refine qx_rd' (rd_loadr' rfl (m := 1) (i := 3) (j := 0) rfl rfl (idxn_some hr9036).2 rfl rfl flat22) rfl rfl (wt_none' rfl) ?_
              obtain ⟨r9037, hr9037, hp⟩ := bind_some hp
              refine qx_rd' (rd_bin' rfl rfl eg_flt (ru_fadd hr9037)) rfl rfl (wt_none' rfl) ?_
              refine qx_rd' (rd_bin' rfl rfl eg_flt ru_fne) rfl rfl (wt_none' rfl) ?_
              refine qx_rd' (rd_move' rfl) rfl rfl (wt_none' rfl) ?_
              refine qx_cutn' 12 (fun (v43 : Bool) => (⟨74, [], [(2, (Vl (.int .i64 a2))), (3, (Vl (.pointer ((some q90121, 9, 9)).1))), (4, (Vl (.pointer ((some q90122, 9, 9)).1))), (7, (Vl (.pointer ((some q90123, 9, 9)).1))), (8, (Vl (.pointer ((some q90124, 9, 9)).1))), (9, (Vl (.pointer ((some q90125, 9, 9)).1))), (10, (Vl (.int .i64 3))), (34, (Vl (.int .i64 3))), (60, (Vl (.bool v43)))], [(Rw Kf 24 (Vs (some q90121, 9, 9)) ([a0_0, a0_1, a0_2, a0_3, a0_4, a0_5, a0_6, a0_7, a0_8])), (Rw Kf 24 (Vs (some q90122, 9, 9)) ([a1_0, a1_1, a1_2, a1_3, a1_4, a1_5, a1_6, a1_7, a1_8])), (Rw Kf 24 (Vs (some q90123, 9, 9)) ([r26.1, r26.2.1, r26.2.2.1, r26.2.2.2.1, r26.2.2.2.2.1, r26.2.2.2.2.2.1, r26.2.2.2.2.2.2.1, r26.2.2.2.2.2.2.2.1, r26.2.2.2.2.2.2.2.2])), (Rw Kf 24 (Vs (some q90124, 9, 9)) ([r29.1, r29.2.1, r29.2.2.1, r29.2.2.2.1, r29.2.2.2.2.1, r29.2.2.2.2.2.1, r29.2.2.2.2.2.2.1, r29.2.2.2.2.2.2.2.1, r29.2.2.2.2.2.2.2.2])), (Rw Kf 24 (Vs (some q90125, 9, 9)) ([r33.1, r33.2.1, r33.2.2.1, r33.2.2.2.1, r33.2.2.2.2.1, r33.2.2.2.2.2.1, r33.2.2.2.2.2.2.1, r33.2.2.2.2.2.2.2.1, r33.2.2.2.2.2.2.2.2]))]⟩ : St)) (fun (v43 : Bool) => laws_FnMatAdd_j9 k r26 a0_0 a0_1 a0_2 a0_3 a0_4 a0_5 a0_6 a0_7 a0_8 a1_0 a1_1 a1_2 a1_3 a1_4 a1_5 a1_6 a1_7 a1_8 r33 a2 r29 v43 = some out) ?_ ?_
              ·rintro x9 hp
               replace hp : laws_FnMatAdd_j9 k r26 a0_0 a0_1 a0_2 a0_3 a0_4 a0_5 a0_6 a0_7 a0_8 a1_0 a1_1 a1_2 a1_3 a1_4 a1_5 a1_6 a1_7 a1_8 r33 a2 r29 x9 = some out := hp
               unfold laws_FnMatAdd_j9 at hp
               refine qx_rd' (rd_move' rfl) rfl rfl (wt_none' rfl) ?_
               refine qx_cutn' 11 (fun (v44 : Bool) => (⟨74, [], [(2, (Vl (.int .i64 a2))), (3, (Vl (.pointer ((some q90121, 9, 9)).1))), (4, (Vl (.pointer ((some q90122, 9, 9)).1))), (7, (Vl (.pointer ((some q90123, 9, 9)).1))), (8, (Vl (.pointer ((some q90124, 9, 9)).1))), (9, (Vl (.pointer ((some q90125, 9, 9)).1))), (34, (Vl (.int .i64 3))), (72, (Vl (.bool v44)))], [(Rw Kf 24 (Vs (some q90121, 9, 9)) ([a0_0, a0_1, a0_2, a0_3, a0_4, a0_5, a0_6, a0_7, a0_8])), (Rw Kf 24 (Vs (some q90122, 9, 9)) ([a1_0, a1_1, a1_2, a1_3, a1_4, a1_5, a1_6, a1_7, a1_8])), (Rw Kf 24 (Vs (some q90123, 9, 9)) ([r26.1, r26.2.1, r26.2.2.1, r26.2.2.2.1, r26.2.2.2.2.1, r26.2.2.2.2.2.1, r26.2.2.2.2.2.2.1, r26.2.2.2.2.2.2.2.1, r26.2.2.2.2.2.2.2.2])), (Rw Kf 24 (Vs (some q90124, 9, 9)) ([r29.1, r29.2.1, r29.2.2.1, r29.2.2.2.1, r29.2.2.2.2.1, r29.2.2.2.2.2.1, r29.2.2.2.2.2.2.1, r29.2.2.2.2.2.2.2.1, r29.2.2.2.2.2.2.2.2])), (Rw Kf 24 (Vs (some q90125, 9, 9)) ([r33.1, r33.2.1, r33.2.2.1, r33.2.2.2.1, r33.2.2.2.2.1, r33.2.2.2.2.2.1, r33.2.2.2.2.2.2.1, r33.2.2.2.2.2.2.2.1, r33.2.2.2.2.2.2.2.2]))]⟩ : St)) (fun (v44 : Bool) => laws_FnMatAdd_j10 k r26 a0_0 a0_1 a0_2 a0_3 a0_4 a0_5 a0_6 a0_7 a0_8 a1_0 a1_1 a1_2 a1_3 a1_4 a1_5 a1_6 a1_7 a1_8 r33 a2 r29 v44 = some out) ?_ ?_
               ·rintro x10 hp
                replace hp : laws_FnMatAdd_j10 k r26 a0_0 a0_1 a0_2 a0_3 a0_4 a0_5 a0_6 a0_7 a0_8 a1_0 a1_1 a1_2 a1_3 a1_4 a1_5 a1_6 a1_7 a1_8 r33 a2 r29 x10 = some out := hp
                unfold laws_FnMatAdd_j10 at hp
                refine qx_nil' ?_
                show TX E K38 _
                refine tx_k' hK38 ?_
                refine cx_cond' rfl (fun h15 => ?_) (fun h15 => ?_)
                ·replace hp := (br_t h15).symm.trans hp
                 refine cx_seq' fun K41 hK41 => ?_
                 refine cx_region' ?_
                 refine sx_rd' (rd_assign' rfl) rfl rfl (wt_none' rfl) ?_
                 refine sx_nil' ?_
                 show TX E K41 _
                 refine tx_k' hK41 ?_
                 refine cx_retc' ?_
                 replace hp := Option.some.inj hp
                 subst hp
                 refine tx_pick' (L' := [(6, (Vl (.bool false)))]) (H' := []) [] (sub_cons rfl sub_nil) (by decide) pick_nil ?_
                 exact tx_ret1' Tryd.results4 rfl () (rv_tmp' rfl) (List.Sublist.refl _)
                ·replace hp := (br_f h15).symm.trans hp
                 refine cx_skip' ?_
                 show TX E K36 _
                 refine tx_k' hK36 ?_
                 refine cx_region' ?_
                 refine sx_rd' (rd_bin' rfl rfl eg_int (ru_addc (c := 4) (by decide))) rfl rfl (wt_none' rfl) ?_
                 refine sx_rd' (rd_move' rfl) rfl rfl (wt_none' rfl) ?_
                 refine sx_nil' ?_
                 show TX E (LoopIn _ _ _) _
                 refine tx_round' ?_
                 refine cx_seq' fun K42 hK42 => ?_
                 refine cx_region' ?_
                 refine sx_rd' (rd_bin' rfl rfl eg_int ru_lss) rfl rfl (wt_none' rfl) ?_
                 refine sx_nil' ?_
                 show TX E K42 _
                 refine tx_k' hK42 ?_
                 refine cx_seq' fun K43 hK43 => ?_
                 refine cx_cond_t' rfl rfl ?_
                 refine cx_skip' ?_
                 show TX E K43 _
                 refine tx_k' hK43 ?_
                 refine cx_seq' fun K44 hK44 => ?_
                 refine cx_block' ?_
                 refine cx_seq' fun K45 hK45 => ?_
                 refine cx_region' ?_
                 refine sx_rd' (rd_move' rfl) rfl rfl (wt_none' rfl) ?_
                 refine sx_rd' (rd_assign' rfl) rfl rfl (wt_none' rfl) ?_
                 refine sx_nil' ?_
                 show TX E K45 _
                 refine tx_k' hK45 ?_
                 refine cx_seq' fun K46 hK46 => ?_
                 refine cx_draw' mixed (by kernel_rfl) ?_
                 refine qx_rd' (rd_move' rfl) rfl rfl (wt_none' rfl) ?_
                 obtain ⟨r9045, hr9045, hp⟩ := bind_some hp
                 refine qx_rd' (rd_atarr' (m := 2) rfl rfl rfl rfl hr9045 Tryd.underlying24 info22) rfl rfl (wt_none' rfl) ?_
                 refine qx_rd' (rd_loadr' rfl (m := 2) (i := 4) (j := 0) rfl rfl (idxn_some hr9045).2 rfl rfl flat22) rfl rfl (wt_none' rfl) ?_
                 refine qx_rd' (rd_move' rfl) rfl rfl (wt_none' rfl) ?_
                 obtain ⟨r9046, hr9046, hp⟩ := bind_some hp
                 refine qx_rd' (rd_atarr' (m := 0) rfl rfl rfl rfl hr9046 Tryd.underlying24 info22) rfl rfl (wt_none' rfl) ?_
                 refine qx_rd' (rd_loadr' rfl (m := 0) (i := 4) (j := 0) rfl rfl (idxn_some hr9046).2 rfl rfl flat22) rfl rfl (wt_none' rfl) ?_
                 refine qx_rd' (rd_move' rfl) rfl rfl (wt_none' rfl) ?_
                 obtain ⟨r9047, hr9047, hp⟩ := bind_some hp
                 refine qx_rd' (rd_atarr' (m := 1) rfl rfl rfl rfl hr9047 Tryd.underlying24 info22) rfl rfl (wt_none' rfl) ?_
                 refine qx_rd' (rd_loadr' rfl (m := 1) (i := 4) (j := 0) rfl rfl (idxn_some hr9047).2 rfl rfl flat22) rfl rfl (wt_none' rfl) ?_
                 obtain ⟨r9048, hr9048, hp⟩ := bind_some hp
                 refine qx_rd' (rd_bin' rfl rfl eg_flt (ru_fadd hr9048)) rfl rfl (wt_none' rfl) ?_
                 refine qx_rd' (rd_bin' rfl rfl eg_flt ru_fne) rfl rfl (wt_none' rfl) ?_
                 refine qx_rd' (rd_move' rfl) rfl rfl (wt_none' rfl) ?_
                 refine qx_cutn' 12 (fun (v45 : Bool) => (⟨74, [], [(2, (Vl (.int .i64 a2))), (3, (Vl (.pointer ((some q90121, 9, 9)).1))), (4, (Vl (.pointer ((some q90122, 9, 9)).1))), (7, (Vl (.pointer ((some q90123, 9, 9)).1))), (8, (Vl (.pointer ((some q90124, 9, 9)).1))), (9, (Vl (.pointer ((some q90125, 9, 9)).1))), (10, (Vl (.int .i64 4))), (34, (Vl (.int .i64 4))), (60, (Vl (.bool v45)))], [(Rw Kf 24 (Vs (some q90121, 9, 9)) ([a0_0, a0_1, a0_2, a0_3, a0_4, a0_5, a0_6, a0_7, a0_8])), (Rw Kf 24 (Vs (some q90122, 9, 9)) ([a1_0, a1_1, a1_2, a1_3, a1_4, a1_5, a1_6, a1_7, a1_8])), (Rw Kf 24 (Vs (some q90123, 9, 9)) ([r26.1, r26.2.1, r26.2.2.1, r26.2.2.2.1, r26.2.2.2.2.1, r26.2.2.2.2.2.1, r26.2.2.2.2.2.2.1, r26.2.2.2.2.2.2.2.1, r26.2.2.2.2.2.2.2.2])), (Rw Kf 24 (Vs (some q90124, 9, 9)) ([r29.1, r29.2.1, r29.2.2.1, r29.2.2.2.1, r29.2.2.2.2.1, r29.2.2.2.2.2.1, r29.2.2.2.2.2.2.1, r29.2.2.2.2.2.2.2.1, r29.2.2.2.2.2.2.2.2])), (Rw Kf 24 (Vs (some q90125, 9, 9)) ([r33.1, r33.2.1, r33.2.2.1, r33.2.2.2.1, r33.2.2.2.2.1, r33.2.2.2.2.2.1, r33.2.2.2.2.2.2.1, r33.2.2.2.2.2.2.2.1, r33.2.2.2.2.2.2.2.2]))]⟩ : St)) (fun (v45 : Bool) => laws_FnMatAdd_j11 k r26 a0_0 a0_1 a0_2 a0_3 a0_4 a0_5 a0_6 a0_7 a0_8 a1_0 a1_1 a1_2 a1_3 a1_4 a1_5 a1_6 a1_7 a1_8 r33 a2 r29 v45 = some out) ?_ ?_
                 ·rintro x11 hp
                  replace hp : laws_FnMatAdd_j11 k r26 a0_0 a0_1 a0_2 a0_3 a0_4 a0_5 a0_6 a0_7 a0_8 a1_0 a1_1 a1_2 a1_3 a1_4 a1_5 a1_6 a1_7 a1_8 r33 a2 r29 x11 = some out := hp
                  unfold laws_FnMatAdd_j11 at hp
                  refine qx_rd' (rd_move' rfl) rfl rfl (wt_none' rfl) ?_
                  refine qx_cutn' 11 (fun (v46 : Bool) => (⟨74, [], [(2, (Vl (.int .i64 a2))), (3, (Vl (.pointer ((some q90121, 9, 9)).1))), (4, (Vl (.pointer ((some q90122, 9, 9)).1))), (7, (Vl (.pointer ((some q90123, 9, 9)).1))), (8, (Vl (.pointer ((some q90124, 9, 9)).1))), (9, (Vl (.pointer ((some q90125, 9, 9)).1))), (34, (Vl (.int .i64 4))), (72, (Vl (.bool v46)))], [(Rw Kf 24 (Vs (some q90121, 9, 9)) ([a0_0, a0_1, a0_2, a0_3, a0_4, a0_5, a0_6, a0_7, a0_8])), (Rw Kf 24 (Vs (some q90122, 9, 9)) ([a1_0, a1_1, a1_2, a1_3, a1_4, a1_5, a1_6, a1_7, a1_8])), (Rw Kf 24 (Vs (some q90123, 9, 9)) ([r26.1, r26.2.1, r26.2.2.1, r26.2.2.2.1, r26.2.2.2.2.1, r26.2.2.2.2.2.1, r26.2.2.2.2.2.2.1, r26.2.2.2.2.2.2.2.1, r26.2.2.2.2.2.2.2.2])), (Rw Kf 24 (Vs (some q90124, 9, 9)) ([r29.1, r29.2.1, r29.2.2.1, r29.2.2.2.1, r29.2.2.2.2.1, r29.2.2.2.2.2.1, r29.2.2.2.2.2.2.1, r29.2.2.2.2.2.2.2.1, r29.2.2.2.2.2.2.2.2])), (Rw Kf 24 (Vs (some q90125, 9, 9)) ([r33.1, r33.2.1, r33.2.2.1, r33.2.2.2.1, r33.2.2.2.2.1, r33.2.2.2.2.2.1, r33.2.2.2.2.2.2.1, r33.2.2.2.2.2.2.2.1, r33.2.2.2.2.2.2.2.2]))]⟩ : St)) (fun (v46 : Bool) => laws_FnMatAdd_j12 k r26 a0_0 a0_1 a0_2 a0_3 a0_4 a0_5 a0_6 a0_7 a0_8 a1_0 a1_1 a1_2 a1_3 a1_4 a1_5 a1_6 a1_7 a1_8 r33 a2 r29 v46 = some out) ?_ ?_
                  ·rintro x12 hp
                   replace hp : laws_FnMatAdd_j12 k r26 a0_0 a0_1 a0_2 a0_3 a0_4 a0_5 a0_6 a0_7 a0_8 a1_0 a1_1 a1_2 a1_3 a1_4 a1_5 a1_6 a1_7 a1_8 r33 a2 r29 x12 = some out := hp
                   unfold laws_FnMatAdd_j12 at hp
                   refine qx_nil' ?_
                   show TX E K46 _
                   refine tx_k' hK46 ?_
                   refine cx_cond' rfl (fun h18 => ?_) (fun h18 => ?_)
                   ·replace hp := (br_t h18).symm.trans hp
                    refine cx_seq' fun K49 hK49 => ?_
                    refine cx_region' ?_
                    refine sx_rd' (rd_assign' rfl) rfl rfl (wt_none' rfl) ?_
                    refine sx_nil' ?_
                    show TX E K49 _
                    refine tx_k' hK49 ?_
                    refine cx_retc' ?_
                    replace hp := Option.some.inj hp
                    subst hp
                    refine tx_pick' (L' := [(6, (Vl (.bool false)))]) (H' := []) [] (sub_cons rfl sub_nil) (by decide) pick_nil ?_
                    exact tx_ret1' Tryd.results4 rfl () (rv_tmp' rfl) (List.Sublist.refl _)
                   ·replace hp := (br_f h18).symm.trans hp
                    refine cx_skip' ?_
                    show TX E K44 _
                    refine tx_k' hK44 ?_
                    refine cx_region' ?_
                    refine sx_rd' (rd_bin' rfl rfl eg_int (ru_addc (c := 5) (by decide))) rfl rfl (wt_none' rfl) ?_
                    refine sx_rd' (rd_move' rfl) rfl rfl (wt_none' rfl) ?_
                    refine sx_nil' ?_
                    show TX E (LoopIn _ _ _) _
                    refine tx_round' ?_
                    refine cx_seq' fun K50 hK50 => ?_
                    refine cx_region' ?_
                    refine sx_rd' (rd_bin' rfl rfl eg_int ru_lss) rfl rfl (wt_none' rfl) ?_
                    refine sx_nil' ?_
                    show TX E K50 _
                    refine tx_k' hK50 ?_
                    refine cx_seq' fun K51 hK51 => ?_
                    refine cx_cond_t' rfl rfl ?_
                    refine cx_skip' ?_
                    show TX E K51 _
                    refine tx_k' hK51 ?_
                    refine cx_seq' fun K52 hK52 => ?_
                    refine cx_block' ?_
                    refine cx_seq' fun K53 hK53 => ?_
                    refine cx_region' ?_
                    refine sx_rd' (rd_move' rfl) rfl rfl (wt_none' rfl) ?_
                    refine sx_rd' (rd_assign' rfl) rfl rfl (wt_none' rfl) ?_
                    refine sx_nil' ?_
                    show TX E K53 _
                    refine tx_k' hK53 ?_
                    refine cx_seq' fun K54 hK54 => ?_
                    refine cx_draw' mixed (by kernel_rfl) ?_
                    refine qx_rd' (rd_move' rfl) rfl rfl (wt_none' rfl) ?_
                    obtain ⟨r9056, hr9056, hp⟩ := bind_some hp
                    refine qx_rd' (rd_atarr' (m := 2) rfl rfl rfl rfl hr9056 Tryd.underlying24 info22) rfl rfl (wt_none' rfl) ?_
                    refine qx_rd' (rd_loadr' rfl (m := 2) (i := 5) (j := 0) rfl rfl (idxn_some hr9056).2 rfl rfl flat22) rfl rfl (wt_none' rfl) ?_
                    refine qx_rd' (rd_move' rfl) rfl rfl (wt_none' rfl) ?_
                    obtain ⟨r9057, hr9057, hp⟩ := bind_some hp
                    refine qx_rd' (rd_atarr' (m := 0) rfl rfl rfl rfl hr9057 Tryd.underlying24 info22) rfl rfl (wt_none' rfl) ?_
                    refine qx_rd' (rd_loadr' rfl (m := 0) (i := 5) (j := 0) rfl rfl (idxn_some hr9057).2 rfl rfl flat22) rfl rfl (wt_none' rfl) ?_
                    refine qx_rd' (rd_move' rfl) rfl rfl (wt_none' rfl) ?_
                    obtain ⟨r9058, hr9058, hp⟩ := bind_some hp
                    refine qx_rd' (rd_atarr' (m := 1) rfl rfl rfl rfl hr9058 Tryd.underlying24 info22) rfl rfl (wt_none' rfl) ?_
                    refine qx_rd' (rd_loadr' rfl (m := 1) (i := 5) (j := 0) rfl rfl (idxn_some hr9058).2 rfl rfl flat22) rfl rfl (wt_none' rfl) ?_
                    obtain ⟨r9059, hr9059, hp⟩ := bind_some hp
                    refine qx_rd' (rd_bin' rfl rfl eg_flt (ru_fadd hr9059)) rfl rfl (wt_none' rfl) ?_
                    refine qx_rd' (rd_bin' rfl rfl eg_flt ru_fne) rfl rfl (wt_none' rfl) ?_
                    refine qx_rd' (rd_move' rfl) rfl rfl (wt_none' rfl) ?_
                    refine qx_cutn' 12 (fun (v47 : Bool) => (⟨74, [], [(2, (Vl (.int .i64 a2))), (3, (Vl (.pointer ((some q90121, 9, 9)).1))), (4, (Vl (.pointer ((some q90122, 9, 9)).1))), (7, (Vl (.pointer ((some q90123, 9, 9)).1))), (8, (Vl (.pointer ((some q90124, 9, 9)).1))), (9, (Vl (.pointer ((some q90125, 9, 9)).1))), (10, (Vl (.int .i64 5))), (34, (Vl (.int .i64 5))), (60, (Vl (.bool v47)))], [(Rw Kf 24 (Vs (some q90121, 9, 9)) ([a0_0, a0_1, a0_2, a0_3, a0_4, a0_5, a0_6, a0_7, a0_8])), (Rw Kf 24 (Vs (some q90122, 9, 9)) ([a1_0, a1_1, a1_2, a1_3, a1_4, a1_5, a1_6, a1_7, a1_8])), (Rw Kf 24 (Vs (some q90123, 9, 9)) ([r26.1, r26.2.1, r26.2.2.1, r26.2.2.2.1, r26.2.2.2.2.1, r26.2.2.2.2.2.1, r26.2.2.2.2.2.2.1, r26.2.2.2.2.2.2.2.1, r26.2.2.2.2.2.2.2.2])), (Rw Kf 24 (Vs (some q90124, 9, 9)) ([r29.1, r29.2.1, r29.2.2.1, r29.2.2.2.1, r29.2.2.2.2.1, r29.2.2.2.2.2.1, r29.2.2.2.2.2.2.1, r29.2.2.2.2.2.2.2.1, r29.2.2.2.2.2.2.2.2])), (Rw Kf 24 (Vs (some q90125, 9, 9)) ([r33.1, r33.2.1, r33.2.2.1, r33.2.2.2.1, r33.2.2.2.2.1, r33.2.2.2.2.2.1, r33.2.2.2.2.2.2.1, r33.2.2.2.2.2.2.2.1, r33.2.2.2.2.2.2.2.2]))]⟩ : St)) (fun (v47 : Bool) => laws_FnMatAdd_j13 k r26 a0_0 a0_1 a0_2 a0_3 a0_4 a0_5 a0_6 a0_7 a0_8 a1_0 a1_1 a1_2 a1_3 a1_4 a1_5 a1_6 a1_7 a1_8 r33 a2 r29 v47 = some out) ?_ ?_
                    ·rintro x13 hp
                     replace hp : laws_FnMatAdd_j13 k r26 a0_0 a0_1 a0_2 a0_3 a0_4 a0_5 a0_6 a0_7 a0_8 a1_0 a1_1 a1_2 a1_3 a1_4 a1_5 a1_6 a1_7 a1_8 r33 a2 r29 x13 = some out := hp
                     unfold laws_FnMatAdd_j13 at hp
                     refine qx_rd' (rd_move' rfl) rfl rfl (wt_none' rfl) ?_
                     refine qx_cutn' 11 (fun (v48 : Bool) => (⟨74, [], [(2, (Vl (.int .i64 a2))), (3, (Vl (.pointer ((some q90121, 9, 9)).1))), (4, (Vl (.pointer ((some q90122, 9, 9)).1))), (7, (Vl (.pointer ((some q90123, 9, 9)).1))), (8, (Vl (.pointer ((some q90124, 9, 9)).1))), (9, (Vl (.pointer ((some q90125, 9, 9)).1))), (34, (Vl (.int .i64 5))), (72, (Vl (.bool v48)))], [(Rw Kf 24 (Vs (some q90121, 9, 9)) ([a0_0, a0_1, a0_2, a0_3, a0_4, a0_5, a0_6, a0_7, a0_8])), (Rw Kf 24 (Vs (some q90122, 9, 9)) ([a1_0, a1_1, a1_2, a1_3, a1_4, a1_5, a1_6, a1_7, a1_8])), (Rw Kf 24 (Vs (some q90123, 9, 9)) ([r26.1, r26.2.1, r26.2.2.1, r26.2.2.2.1, r26.2.2.2.2.1, r26.2.2.2.2.2.1, r26.2.2.2.2.2.2.1, r26.2.2.2.2.2.2.2.1, r26.2.2.2.2.2.2.2.2])), (Rw Kf 24 (Vs (some q90124, 9, 9)) ([r29.1, r29.2.1, r29.2.2.1, r29.2.2.2.1, r29.2.2.2.2.1, r29.2.2.2.2.2.1, r29.2.2.2.2.2.2.1, r29.2.2.2.2.2.2.2.1, r29.2.2.2.2.2.2.2.2])), (Rw Kf 24 (Vs (some q90125, 9, 9)) ([r33.1, r33.2.1, r33.2.2.1, r33.2.2.2.1, r33.2.2.2.2.1, r33.2.2.2.2.2.1, r33.2.2.2.2.2.2.1, r33.2.2.2.2.2.2.2.1, r33.2.2.2.2.2.2.2.2]))]⟩ : St)) (fun (v48 : Bool) => laws_FnMatAdd_j14 k r26 a0_0 a0_1 a0_2 a0_3 a0_4 a0_5 a0_6 a0_7 a0_8 a1_0 a1_1 a1_2 a1_3 a1_4 a1_5 a1_6 a1_7 a1_8 r33 a2 r29 v48 = some out) ?_ ?_
                     ·rintro x14 hp
                      replace hp : laws_FnMatAdd_j14 k r26 a0_0 a0_1 a0_2 a0_3 a0_4 a0_5 a0_6 a0_7 a0_8 a1_0 a1_1 a1_2 a1_3 a1_4 a1_5 a1_6 a1_7 a1_8 r33 a2 r29 x14 = some out := hp
                      unfold laws_FnMatAdd_j14 at hp
                      refine qx_nil' ?_
                      show TX E K54 _
                      refine tx_k' hK54 ?_
                      refine cx_cond' rfl (fun h21 => ?_) (fun h21 => ?_)
                      ·replace hp := (br_t h21).symm.trans hp
                       refine cx_seq' fun K57 hK57 => ?_
                       refine cx_region' ?_
                       refine sx_rd' (rd_assign' rfl) rfl rfl (wt_none' rfl) ?_
                       refine sx_nil' ?_
                       show TX E K57 _
                       refine tx_k' hK57 ?_
                       refine cx_retc' ?_
                       replace hp := Option.some.inj hp
                       subst hp
                       refine tx_pick' (L' := [(6, (Vl (.bool false)))]) (H' := []) [] (sub_cons rfl sub_nil) (by decide) pick_nil ?_
                       exact tx_ret1' Tryd.results4 rfl () (rv_tmp' rfl) (List.Sublist.refl _)
                      ·replace hp := (br_f h21).symm.trans hp
                       refine cx_skip' ?_
                       show TX E K52 _
                       refine tx_k' hK52 ?_
                       refine cx_region' ?_
                       refine sx_rd' (rd_bin' rfl rfl eg_int (ru_addc (c := 6) (by decide))) rfl rfl (wt_none' rfl) ?_
                       refine sx_rd' (rd_move' rfl) rfl rfl (wt_none' rfl) ?_
                       refine sx_nil' ?_
                       show TX E (LoopIn _ _ _) _
                       refine tx_round' ?_
                       refine cx_seq' fun K58 hK58 => ?_
                       refine cx_region' ?_
                       refine sx_rd' (rd_bin' rfl rfl eg_int ru_lss) rfl rfl (wt_none' rfl) ?_
                       refine sx_nil' ?_
                       show TX E K58 _
                       refine tx_k' hK58 ?_
                       refine cx_seq' fun K59 hK59 => ?_
                       refine cx_cond_t' rfl rfl ?_
                       refine cx_skip' ?_
                       show TX E K59 _
                       refine tx_k' hK59 ?_
                       refine cx_seq' fun K60 hK60 => ?_
                       refine cx_block' ?_
                       refine cx_seq' fun K61 hK61 => ?_
                       refine cx_region' ?_
                       refine sx_rd' (rd_move' rfl) rfl rfl (wt_none' rfl) ?_
                       refine sx_rd' (rd_assign' rfl) rfl rfl (wt_none' rfl) ?_
                       refine sx_nil' ?_
                       show TX E K61 _
                       refine tx_k' hK61 ?_
                       refine cx_seq' fun K62 hK62 => ?_
                       refine cx_draw' mixed (by kernel_rfl) ?_
                       refine qx_rd' (rd_move' rfl) rfl rfl (wt_none' rfl) ?_
                       obtain ⟨r9067, hr9067, hp⟩ := bind_some hp
                       refine qx_rd' (rd_atarr' (m := 2) rfl rfl rfl rfl hr9067 Tryd.underlying24 info22) rfl rfl (wt_none' rfl) ?_
                       refine qx_rd' (rd_loadr' rfl (m := 2) (i := 6) (j := 0) rfl rfl (idxn_some hr9067).2 rfl rfl flat22) rfl rfl (wt_none' rfl) ?_
                       refine qx_rd' (rd_move' rfl) rfl rfl (wt_none' rfl) ?_
                       obtain ⟨r9068, hr9068, hp⟩ := bind_some hp
                       refine qx_rd' (rd_atarr' (m := 0) rfl rfl rfl rfl hr9068 Tryd.underlying24 info22) rfl rfl (wt_none' rfl) ?_
                       refine qx_rd' (rd_loadr' rfl (m := 0) (i := 6) (j := 0) rfl rfl (idxn_some hr9068).2 rfl rfl flat22) rfl rfl (wt_none' rfl) ?_
                       refine qx_rd' (rd_move' rfl) rfl rfl (wt_none' rfl) ?_
                       obtain ⟨r9069, hr9069, hp⟩ := bind_some hp
                       refine qx_rd' (rd_atarr' (m := 1) rfl rfl rfl rfl hr9069 Tryd.underlying24 info22) rfl rfl (wt_none' rfl) ?_
                       refine qx_rd' (rd_loadr' rfl (m := 1) (i := 6) (j := 0) rfl rfl (idxn_some hr9069).2 rfl rfl flat22) rfl rfl (wt_none' rfl) ?_
                       obtain ⟨r9070, hr9070, hp⟩ := bind_some hp
                       refine qx_rd' (rd_bin' rfl rfl eg_flt (ru_fadd hr9070)) rfl rfl (wt_none' rfl) ?_
                       refine qx_rd' (rd_bin' rfl rfl eg_flt ru_fne) rfl rfl (wt_none' rfl) ?_
                       refine qx_rd' (rd_move' rfl) rfl rfl (wt_none' rfl) ?_
                       refine qx_cutn' 12 (fun (v49 : Bool) => (⟨74, [], [(2, (Vl (.int .i64 a2))), (3, (Vl (.pointer ((some q90121, 9, 9)).1))), (4, (Vl (.pointer ((some q90122, 9, 9)).1))), (7, (Vl (.pointer ((some q90123, 9, 9)).1))), (8, (Vl (.pointer ((some q90124, 9, 9)).1))), (9, (Vl (.pointer ((some q90125, 9, 9)).1))), (10, (Vl (.int .i64 6))), (34, (Vl (.int .i64 6))), (60, (Vl (.bool v49)))], [(Rw Kf 24 (Vs (some q90121, 9, 9)) ([a0_0, a0_1, a0_2, a0_3, a0_4, a0_5, a0_6, a0_7, a0_8])), (Rw Kf 24 (Vs (some q90122, 9, 9)) ([a1_0, a1_1, a1_2, a1_3, a1_4, a1_5, a1_6, a1_7, a1_8])), (Rw Kf 24 (Vs (some q90123, 9, 9)) ([r26.1, r26.2.1, r26.2.2.1, r26.2.2.2.1, r26.2.2.2.2.1, r26.2.2.2.2.2.1, r26.2.2.2.2.2.2.1, r26.2.2.2.2.2.2.2.1, r26.2.2.2.2.2.2.2.2])), (Rw Kf 24 (Vs (some q90124, 9, 9)) ([r29.1, r29.2.1, r29.2.2.1, r29.2.2.2.1, r29.2.2.2.2.1, r29.2.2.2.2.2.1, r29.2.2.2.2.2.2.1, r29.2.2.2.2.2.2.2.1, r29.2.2.2.2.2.2.2.2])), (Rw Kf 24 (Vs (some q90125, 9, 9)) ([r33.1, r33.2.1, r33.2.2.1, r33.2.2.2.1, r33.2.2.2.2.1, r33.2.2.2.2.2.1, r33.2.2.2.2.2.2.1, r33.2.2.2.2.2.2.2.1, r33.2.2.2.2.2.2.2.2]))]⟩ : St)) (fun (v49 : Bool) => laws_FnMatAdd_j15 k r26 a0_0 a0_1 a0_2 a0_3 a0_4 a0_5 a0_6 a0_7 a0_8 a1_0 a1_1 a1_2 a1_3 a1_4 a1_5 a1_6 a1_7 a1_8 r33 a2 r29 v49 = some out) ?_ ?_
                       ·rintro x15 hp
                        replace hp : laws_FnMatAdd_j15 k r26 a0_0 a0_1 a0_2 a0_3 a0_4 a0_5 a0_6 a0_7 a0_8 a1_0 a1_1 a1_2 a1_3 a1_4 a1_5 a1_6 a1_7 a1_8 r33 a2 r29 x15 = some out := hp
                        unfold laws_FnMatAdd_j15 at hp
                        refine qx_rd' (rd_move' rfl) rfl rfl (wt_none' rfl) ?_
                        refine qx_cutn' 11 (fun (v50 : Bool) => (⟨74, [], [(2, (Vl (.int .i64 a2))), (3, (Vl (.pointer ((some q90121, 9, 9)).1))), (4, (Vl (.pointer ((some q90122, 9, 9)).1))), (7, (Vl (.pointer ((some q90123, 9, 9)).1))), (8, (Vl (.pointer ((some q90124, 9, 9)).1))), (9, (Vl (.pointer ((some q90125, 9, 9)).1))), (34, (Vl (.int .i64 6))), (72, (Vl (.bool v50)))], [(Rw Kf 24 (Vs (some q90121, 9, 9)) ([a0_0, a0_1, a0_2, a0_3, a0_4, a0_5, a0_6, a0_7, a0_8])), (Rw Kf 24 (Vs (some q90122, 9, 9)) ([a1_0, a1_1, a1_2, a1_3, a1_4, a1_5, a1_6, a1_7, a1_8])), (Rw Kf 24 (Vs (some q90123, 9, 9)) ([r26.1, r26.2.1, r26.2.2.1, r26.2.2.2.1, r26.2.2.2.2.1, r26.2.2.2.2.2.1, r26.2.2.2.2.2.2.1, r26.2.2.2.2.2.2.2.1, r26.2.2.2.2.2.2.2.2])), (Rw Kf 24 (Vs (some q90124, 9, 9)) ([r29.1, r29.2.1, r29.2.2.1, r29.2.2.2.1, r29.2.2.2.2.1, r29.2.2.2.2.2.1, r29.2.2.2.2.2.2.1, r29.2.2.2.2.2.2.2.1, r29.2.2.2.2.2.2.2.2])), (Rw Kf 24 (Vs (some q90125, 9, 9)) ([r33.1, r33.2.1, r33.2.2.1, r33.2.2.2.1, r33.2.2.2.2.1, r33.2.2.2.2.2.1, r33.2.2.2.2.2.2.1, r33.2.2.2.2.2.2.2.1, r33.2.2.2.2.2.2.2.2]))]⟩ : St)) (fun (v50 : Bool) => laws_FnMatAdd_j16 k r26 a0_0 a0_1 a0_2 a0_3 a0_4 a0_5 a0_6 a0_7 a0_8 a1_0 a1_1 a1_2 a1_3 a1_4 a1_5 a1_6 a1_7 a1_8 r33 a2 r29 v50 = some out) ?_ ?_
                        ·rintro x16 hp
                         replace hp : laws_FnMatAdd_j16 k r26 a0_0 a0_1 a0_2 a0_3 a0_4 a0_5 a0_6 a0_7 a0_8 a1_0 a1_1 a1_2 a1_3 a1_4 a1_5 a1_6 a1_7 a1_8 r33 a2 r29 x16 = some out := hp
                         unfold laws_FnMatAdd_j16 at hp
                         refine qx_nil' ?_
                         show TX E K62 _
                         refine tx_k' hK62 ?_
                         refine cx_cond' rfl (fun h24 => ?_) (fun h24 => ?_)
                         ·replace hp := (br_t h24).symm.trans hp
                          refine cx_seq' fun K65 hK65 => ?_
                          refine cx_region' ?_
                          refine sx_rd' (rd_assign' rfl) rfl rfl (wt_none' rfl) ?_
                          refine sx_nil' ?_
                          show TX E K65 _
                          refine tx_k' hK65 ?_
                          refine cx_retc' ?_
                          replace hp := Option.some.inj hp
                          subst hp
                          refine tx_pick' (L' := [(6, (Vl (.bool false)))]) (H' := []) [] (sub_cons rfl sub_nil) (by decide) pick_nil ?_
                          exact tx_ret1' Tryd.results4 rfl () (rv_tmp' rfl) (List.Sublist.refl _)
                         ·replace hp := (br_f h24).symm.trans hp
                          refine cx_skip' ?_
                          show TX E K60 _
                          refine tx_k' hK60 ?_
                          refine cx_region' ?_
                          refine sx_rd' (rd_bin' rfl rfl eg_int (ru_addc (c := 7) (by decide))) rfl rfl (wt_none' rfl) ?_
                          refine sx_rd' (rd_move' rfl) rfl rfl (wt_none' rfl) ?_
                          refine sx_nil' ?_
                          show TX E (LoopIn _ _ _) _
                          refine tx_round' ?_
                          refine cx_seq' fun K66 hK66 => ?_
                          refine cx_region' ?_
                          refine sx_rd' (rd_bin' rfl rfl eg_int ru_lss) rfl rfl (wt_none' rfl) ?_
                          refine sx_nil' ?_
                          show TX E K66 _
                          refine tx_k' hK66 ?_
                          refine cx_seq' fun K67 hK67 => ?_
                          refine cx_cond_t' rfl rfl ?_
                          refine cx_skip' ?_
                          show TX E K67 _
                          refine tx_k' hK67 ?_
                          refine cx_seq' fun K68 hK68 => ?_
                          refine cx_block' ?_
                          refine cx_seq' fun K69 hK69 => ?_
                          refine cx_region' ?_
                          refine sx_rd' (rd_move' rfl) rfl rfl (wt_none' rfl) ?_
                          refine sx_rd' (rd_assign' rfl) rfl rfl (wt_none' rfl) ?_
                          refine sx_nil' ?_
                          show TX E K69 _
                          refine tx_k' hK69 ?_
                          refine cx_seq' fun K70 hK70 => ?_
                          refine cx_draw' mixed (by kernel_rfl) ?_
                          refine qx_rd' (rd_move' rfl) rfl rfl (wt_none' rfl) ?_
                          obtain ⟨r9078, hr9078, hp⟩ := bind_some hp
                          refine qx_rd' (rd_atarr' (m := 2) rfl rfl rfl rfl hr9078 Tryd.underlying24 info22) rfl rfl (wt_none' rfl) ?_
                          refine qx_rd' (rd_loadr' rfl (m := 2) (i := 7) (j := 0) rfl rfl (idxn_some hr9078).2 rfl rfl flat22) rfl rfl (wt_none' rfl) ?_
                          refine qx_rd' (rd_move' rfl) rfl rfl (wt_none' rfl) ?_
                          obtain ⟨r9079, hr9079, hp⟩ := bind_some hp
                          refine qx_rd' (rd_atarr' (m := 0) rfl rfl rfl rfl hr9079 Tryd.underlying24 info22) rfl rfl (wt_none' rfl) ?_
                          refine qx_rd' (rd_loadr' rfl (m := 0) (i := 7) (j := 0) rfl rfl (idxn_some hr9079).2 rfl rfl flat22) rfl rfl (wt_none' rfl) ?_
                          refine qx_rd' (rd_move' rfl) rfl rfl (wt_none' rfl) ?_
                          obtain ⟨r9080, hr9080, hp⟩ := bind_some hp
                          refine qx_rd' (rd_atarr' (m := 1) rfl rfl rfl rfl hr9080 Tryd.underlying24 info22) rfl rfl (wt_none' rfl) ?_
                          refine qx_rd' (rd_loadr' rfl (m := 1) (i := 7) (j := 0) rfl rfl (idxn_some hr9080).2 rfl rfl flat22) rfl rfl (wt_none' rfl) ?_
                          obtain ⟨r9081, hr9081, hp⟩ := bind_some hp
                          refine qx_rd' (rd_bin' rfl rfl eg_flt (ru_fadd hr9081)) rfl rfl (wt_none' rfl) ?_
                          refine qx_rd' (rd_bin' rfl rfl eg_flt ru_fne) rfl rfl (wt_none' rfl) ?_
                          refine qx_rd' (rd_move' rfl) rfl rfl (wt_none' rfl) ?_
                          refine qx_cutn' 12 (fun (v51 : Bool) => (⟨74, [], [(2, (Vl (.int .i64 a2))), (3, (Vl (.pointer ((some q90121, 9, 9)).1))), (4, (Vl (.pointer ((some q90122, 9, 9)).1))), (7, (Vl (.pointer ((some q90123, 9, 9)).1))), (8, (Vl (.pointer ((some q90124, 9, 9)).1))), (9, (Vl (.pointer ((some q90125, 9, 9)).1))), (10, (Vl (.int .i64 7))), (34, (Vl (.int .i64 7))), (60, (Vl (.bool v51)))], [(Rw Kf 24 (Vs (some q90121, 9, 9)) ([a0_0, a0_1, a0_2, a0_3, a0_4, a0_5, a0_6, a0_7, a0_8])), (Rw Kf 24 (Vs (some q90122, 9, 9)) ([a1_0, a1_1, a1_2, a1_3, a1_4, a1_5, a1_6, a1_7, a1_8])), (Rw Kf 24 (Vs (some q90123, 9, 9)) ([r26.1, r26.2.1, r26.2.2.1, r26.2.2.2.1, r26.2.2.2.2.1, r26.2.2.2.2.2.1, r26.2.2.2.2.2.2.1, r26.2.2.2.2.2.2.2.1, r26.2.2.2.2.2.2.2.2])), (Rw Kf 24 (Vs (some q90124, 9, 9)) ([r29.1, r29.2.1, r29.2.2.1, r29.2.2.2.1, r29.2.2.2.2.1, r29.2.2.2.2.2.1, r29.2.2.2.2.2.2.1, r29.2.2.2.2.2.2.2.1, r29.2.2.2.2.2.2.2.2])), (Rw Kf 24 (Vs (some q90125, 9, 9)) ([r33.1, r33.2.1, r33.2.2.1, r33.2.2.2.1, r33.2.2.2.2.1, r33.2.2.2.2.2.1, r33.2.2.2.2.2.2.1, r33.2.2.2.2.2.2.2.1, r33.2.2.2.2.2.2.2.2]))]⟩ : St)) (fun (v51 : Bool) => laws_FnMatAdd_j17 k r26 a0_0 a0_1 a0_2 a0_3 a0_4 a0_5 a0_6 a0_7 a0_8 a1_0 a1_1 a1_2 a1_3 a1_4 a1_5 a1_6 a1_7 a1_8 r33 a2 r29 v51 = some out) ?_ ?_
                          ·rintro x17 hp
                           replace hp : laws_FnMatAdd_j17 k r26 a0_0 a0_1 a0_2 a0_3 a0_4 a0_5 a0_6 a0_7 a0_8 a1_0 a1_1 a1_2 a1_3 a1_4 a1_5 a1_6 a1_7 a1_8 r33 a2 r29 x17 = some out := hp
                           unfold laws_FnMatAdd_j17 at hp
                           refine qx_rd' (rd_move' rfl) rfl rfl (wt_none' rfl) ?_
                           refine qx_cutn' 11 (fun (v52 : Bool) => (⟨74, [], [(2, (Vl (.int .i64 a2))), (3, (Vl (.pointer ((some q90121, 9, 9)).1))), (4, (Vl (.pointer ((some q90122, 9, 9)).1))), (7, (Vl (.pointer ((some q90123, 9, 9)).1))), (8, (Vl (.pointer ((some q90124, 9, 9)).1))), (9, (Vl (.pointer ((some q90125, 9, 9)).1))), (34, (Vl (.int .i64 7))), (72, (Vl (.bool v52)))], [(Rw Kf 24 (Vs (some q90121, 9, 9)) ([a0_0, a0_1, a0_2, a0_3, a0_4, a0_5, a0_6, a0_7, a0_8])), (Rw Kf 24 (Vs (some q90122, 9, 9)) ([a1_0, a1_1, a1_2, a1_3, a1_4, a1_5, a1_6, a1_7, a1_8])), (Rw Kf 24 (Vs (some q90123, 9, 9)) ([r26.1, r26.2.1, r26.2.2.1, r26.2.2.2.1, r26.2.2.2.2.1, r26.2.2.2.2.2.1, r26.2.2.2.2.2.2.1, r26.2.2.2.2.2.2.2.1, r26.2.2.2.2.2.2.2.2])), (Rw Kf 24 (Vs (some q90124, 9, 9)) ([r29.1, r29.2.1, r29.2.2.1, r29.2.2.2.1, r29.2.2.2.2.1, r29.2.2.2.2.2.1, r29.2.2.2.2.2.2.1, r29.2.2.2.2.2.2.2.1, r29.2.2.2.2.2.2.2.2])), (Rw Kf 24 (Vs (some q90125, 9, 9)) ([r33.1, r33.2.1, r33.2.2.1, r33.2.2.2.1, r33.2.2.2.2.1, r33.2.2.2.2.2.1, r33.2.2.2.2.2.2.1, r33.2.2.2.2.2.2.2.1, r33.2.2.2.2.2.2.2.2]))]⟩ : St)) (fun (v52 : Bool) => laws_FnMatAdd_j18 k r26 a0_0 a0_1 a0_2 a0_3 a0_4 a0_5 a0_6 a0_7 a0_8 a1_0 a1_1 a1_2 a1_3 a1_4 a1_5 a1_6 a1_7 a1_8 r33 a2 r29 v52 = some out) ?_ ?_
                           ·rintro x18 hp
                            replace hp : laws_FnMatAdd_j18 k r26 a0_0 a0_1 a0_2 a0_3 a0_4 a0_5 a0_6 a0_7 a0_8 a1_0 a1_1 a1_2 a1_3 a1_4 a1_5 a1_6 a1_7 a1_8 r33 a2 r29 x18 = some out := hp
                            unfold laws_FnMatAdd_j18 at hp
                            refine qx_nil' ?_
                            show TX E K70 _
                            refine tx_k' hK70 ?_
                            refine cx_cond' rfl (fun h27 => ?_) (fun h27 => ?_)
                            ·replace hp := (br_t h27).symm.trans hp
                             refine cx_seq' fun K73 hK73 => ?_
                             refine cx_region' ?_
                             refine sx_rd' (rd_assign' rfl) rfl rfl (wt_none' rfl) ?_
                             refine sx_nil' ?_
                             show TX E K73 _
                             refine tx_k' hK73 ?_
                             refine cx_retc' ?_
                             replace hp := Option.some.inj hp
                             subst hp
                             refine tx_pick' (L' := [(6, (Vl (.bool false)))]) (H' := []) [] (sub_cons rfl sub_nil) (by decide) pick_nil ?_
                             exact tx_ret1' Tryd.results4 rfl () (rv_tmp' rfl) (List.Sublist.refl _)
                            ·replace hp := (br_f h27).symm.trans hp
                             refine cx_skip' ?_
                             show TX E K68 _
                             refine tx_k' hK68 ?_
                             refine cx_region' ?_
                             refine sx_rd' (rd_bin' rfl rfl eg_int (ru_addc (c := 8) (by decide))) rfl rfl (wt_none' rfl) ?_
                             refine sx_rd' (rd_move' rfl) rfl rfl (wt_none' rfl) ?_
                             refine sx_nil' ?_
                             show TX E (LoopIn _ _ _) _
                             refine tx_round' ?_
                             refine cx_seq' fun K74 hK74 => ?_
                             refine cx_region' ?_
                             refine sx_rd' (rd_bin' rfl rfl eg_int ru_lss) rfl rfl (wt_none' rfl) ?_
                             refine sx_nil' ?_
                             show TX E K74 _
                             refine tx_k' hK74 ?_
                             refine cx_seq' fun K75 hK75 => ?_
                             refine cx_cond_t' rfl rfl ?_
                             refine cx_skip' ?_
                             show TX E K75 _
                             refine tx_k' hK75 ?_
                             refine cx_seq' fun K76 hK76 => ?_
                             refine cx_block' ?_
                             refine cx_seq' fun K77 hK77 => ?_
                             refine cx_region' ?_
                             refine sx_rd' (rd_move' rfl) rfl rfl (wt_none' rfl) ?_
                             refine sx_rd' (rd_assign' rfl) rfl rfl (wt_none' rfl) ?_
                             refine sx_nil' ?_
                             show TX E K77 _
                             refine tx_k' hK77 ?_
                             refine cx_seq' fun K78 hK78 => ?_
                             refine cx_draw' mixed (by kernel_rfl) ?_
                             refine qx_rd' (rd_move' rfl) rfl rfl (wt_none' rfl) ?_
                             obtain ⟨r9089, hr9089, hp⟩ := bind_some hp
                             refine qx_rd' (rd_atarr' (m := 2) rfl rfl rfl rfl hr9089 Tryd.underlying24 info22) rfl rfl (wt_none' rfl) ?_
                             refine qx_rd' (rd_loadr' rfl (m := 2) (i := 8) (j := 0) rfl rfl (idxn_some hr9089).2 rfl rfl flat22) rfl rfl (wt_none' rfl) ?_
                             refine qx_rd' (rd_move' rfl) rfl rfl (wt_none' rfl) ?_
                             obtain ⟨r9090, hr9090, hp⟩ := bind_some hp
                             refine qx_rd' (rd_atarr' (m := 0) rfl rfl rfl rfl hr9090 Tryd.underlying24 info22) rfl rfl (wt_none' rfl) ?_
                             refine qx_rd' (rd_loadr' rfl (m := 0) (i := 8) (j := 0) rfl rfl (idxn_some hr9090).2 rfl rfl flat22) rfl rfl (wt_none' rfl) ?_
                             refine qx_rd' (rd_move' rfl) rfl rfl (wt_none' rfl) ?_
                             obtain ⟨r9091, hr9091, hp⟩ := bind_some hp
                             refine qx_rd' (rd_atarr' (m := 1) rfl rfl rfl rfl hr9091 Tryd.underlying24 info22) rfl rfl (wt_none' rfl) ?_
                             refine qx_rd' (rd_loadr' rfl (m := 1) (i := 8) (j := 0) rfl rfl (idxn_some hr9091).2 rfl rfl flat22) rfl rfl (wt_none' rfl) ?_
                             obtain ⟨r9092, hr9092, hp⟩ := bind_some hp
                             refine qx_rd' (rd_bin' rfl rfl eg_flt (ru_fadd hr9092)) rfl rfl (wt_none' rfl) ?_
                             refine qx_rd' (rd_bin' rfl rfl eg_flt ru_fne) rfl rfl (wt_none' rfl) ?_
                             refine qx_rd' (rd_move' rfl) rfl rfl (wt_none' rfl) ?_
                             refine qx_cutn' 12 (fun (v53 : Bool) => (⟨74, [], [(2, (Vl (.int .i64 a2))), (3, (Vl (.pointer ((some q90121, 9, 9)).1))), (4, (Vl (.pointer ((some q90122, 9, 9)).1))), (7, (Vl (.pointer ((some q90123, 9, 9)).1))), (8, (Vl (.pointer ((some q90124, 9, 9)).1))), (9, (Vl (.pointer ((some q90125, 9, 9)).1))), (10, (Vl (.int .i64 8))), (34, (Vl (.int .i64 8))), (60, (Vl (.bool v53)))], [(Rw Kf 24 (Vs (some q90121, 9, 9)) ([a0_0, a0_1, a0_2, a0_3, a0_4, a0_5, a0_6, a0_7, a0_8])), (Rw Kf 24 (Vs (some q90122, 9, 9)) ([a1_0, a1_1, a1_2, a1_3, a1_4, a1_5, a1_6, a1_7, a1_8])), (Rw Kf 24 (Vs (some q90123, 9, 9)) ([r26.1, r26.2.1, r26.2.2.1, r26.2.2.2.1, r26.2.2.2.2.1, r26.2.2.2.2.2.1, r26.2.2.2.2.2.2.1, r26.2.2.2.2.2.2.2.1, r26.2.2.2.2.2.2.2.2])), (Rw Kf 24 (Vs (some q90124, 9, 9)) ([r29.1, r29.2.1, r29.2.2.1, r29.2.2.2.1, r29.2.2.2.2.1, r29.2.2.2.2.2.1, r29.2.2.2.2.2.2.1, r29.2.2.2.2.2.2.2.1, r29.2.2.2.2.2.2.2.2])), (Rw Kf 24 (Vs (some q90125, 9, 9)) ([r33.1, r33.2.1, r33.2.2.1, r33.2.2.2.1, r33.2.2.2.2.1, r33.2.2.2.2.2.1, r33.2.2.2.2.2.2.1, r33.2.2.2.2.2.2.2.1, r33.2.2.2.2.2.2.2.2]))]⟩ : St)) (fun (v53 : Bool) => laws_FnMatAdd_j19 k r33 a0_0 a0_1 a0_2 a0_3 a0_4 a0_5 a0_6 a0_7 a0_8 a2 v53 = some out) ?_ ?_
                             ·rintro x19 hp
                              replace hp : laws_FnMatAdd_j19 k r33 a0_0 a0_1 a0_2 a0_3 a0_4 a0_5 a0_6 a0_7 a0_8 a2 x19 = some out := hp
                              unfold laws_FnMatAdd_j19 at hp
                              refine qx_rd' (rd_move' rfl) rfl rfl (wt_none' rfl) ?_
                              refine qx_cutn' 11 (fun (v54 : Bool) => (⟨74, [], [(2, (Vl (.int .i64 a2))), (3, (Vl (.pointer ((some q90121, 9, 9)).1))), (4, (Vl (.pointer ((some q90122, 9, 9)).1))), (7, (Vl (.pointer ((some q90123, 9, 9)).1))), (8, (Vl (.pointer ((some q90124, 9, 9)).1))), (9, (Vl (.pointer ((some q90125, 9, 9)).1))), (34, (Vl (.int .i64 8))), (72, (Vl (.bool v54)))], [(Rw Kf 24 (Vs (some q90121, 9, 9)) ([a0_0, a0_1, a0_2, a0_3, a0_4, a0_5, a0_6, a0_7, a0_8])), (Rw Kf 24 (Vs (some q90122, 9, 9)) ([a1_0, a1_1, a1_2, a1_3, a1_4, a1_5, a1_6, a1_7, a1_8])), (Rw Kf 24 (Vs (some q90123, 9, 9)) ([r26.1, r26.2.1, r26.2.2.1, r26.2.2.2.1, r26.2.2.2.2.1, r26.2.2.2.2.2.1, r26.2.2.2.2.2.2.1, r26.2.2.2.2.2.2.2.1, r26.2.2.2.2.2.2.2.2])), (Rw Kf 24 (Vs (some q90124, 9, 9)) ([r29.1, r29.2.1, r29.2.2.1, r29.2.2.2.1, r29.2.2.2.2.1, r29.2.2.2.2.2.1, r29.2.2.2.2.2.2.1, r29.2.2.2.2.2.2.2.1, r29.2.2.2.2.2.2.2.2])), (Rw Kf 24 (Vs (some q90125, 9, 9)) ([r33.1, r33.2.1, r33.2.2.1, r33.2.2.2.1, r33.2.2.2.2.1, r33.2.2.2.2.2.1, r33.2.2.2.2.2.2.1, r33.2.2.2.2.2.2.2.1, r33.2.2.2.2.2.2.2.2]))]⟩ : St)) (fun (v54 : Bool) => laws_FnMatAdd_j20 k v54 = some out) ?_ ?_
                              ·rintro x20 hp
                               replace hp : laws_FnMatAdd_j20 k x20 = some out := hp
                               unfold laws_FnMatAdd_j20 at hp
                               refine qx_nil' ?_
                               show TX E K78 _
                               refine tx_k' hK78 ?_
                               refine cx_cond' rfl (fun h30 => ?_) (fun h30 => ?_)
                               ·replace hp := (br_t h30).symm.trans hp
                                refine cx_seq' fun K81 hK81 => ?_
                                refine cx_region' ?_
                                refine sx_rd' (rd_assign' rfl) rfl rfl (wt_none' rfl) ?_
                                refine sx_nil' ?_
                                show TX E K81 _
                                refine tx_k' hK81 ?_
                                refine cx_retc' ?_
                                replace hp := Option.some.inj hp
                                subst hp
                                refine tx_pick' (L' := [(6, (Vl (.bool false)))]) (H' := []) [] (sub_cons rfl sub_nil) (by decide) pick_nil ?_
                                exact tx_ret1' Tryd.results4 rfl () (rv_tmp' rfl) (List.Sublist.refl _)
                               ·replace hp := (br_f h30).symm.trans hp
                                refine cx_skip' ?_
                                show TX E K76 _
                                refine tx_k' hK76 ?_
                                refine cx_region' ?_
                                refine sx_rd' (rd_bin' rfl rfl eg_int (ru_addc (c := 9) (by decide))) rfl rfl (wt_none' rfl) ?_
                                refine sx_rd' (rd_move' rfl) rfl rfl (wt_none' rfl) ?_
                                refine sx_nil' ?_
                                show TX E (LoopIn _ _ _) _
                                refine tx_round' ?_
                                refine cx_seq' fun K82 hK82 => ?_
                                refine cx_region' ?_
                                refine sx_rd' (rd_bin' rfl rfl eg_int ru_lss) rfl rfl (wt_none' rfl) ?_
                                refine sx_nil' ?_
                                show TX E K82 _
                                refine tx_k' hK82 ?_
                                refine cx_seq' fun K83 hK83 => ?_
                                refine cx_cond_f' rfl rfl ?_
                                refine cx_exit' ?_
                                show TX E K8 _
                                refine tx_k' hK8 ?_
                                refine cx_seq' fun K84 hK84 => ?_
                                refine cx_region' ?_
                                refine sx_rd' (rd_assign' rfl) rfl rfl (wt_none' rfl) ?_
                                refine sx_nil' ?_
                                show TX E K84 _
                                refine tx_k' hK84 ?_
                                refine cx_retc' ?_
                                replace hp := Option.some.inj hp
                                subst hp
                                refine tx_pick' (L' := [(6, (Vl (.bool true)))]) (H' := []) [] (sub_cons rfl sub_nil) (by decide) pick_nil ?_
                                exact tx_ret1' Tryd.results4 rfl () (rv_tmp' rfl) (List.Sublist.refl _)
                              ·intro K80 hK80
                               rcases br_cases hp with ⟨h29, hp⟩ | ⟨h29, hp⟩
                               ·refine qx_skip' rfl rfl (wt_is' (wt_guard' rfl rfl rfl) (beq_tf h29)) ?_
                                refine qx_skip' rfl rfl (wt_is' (wt_guard' rfl rfl rfl) (beq_tf h29)) ?_
                                refine qx_skip' rfl rfl (wt_is' (wt_guard' rfl rfl rfl) (beq_tf h29)) ?_
                                refine qx_skip' rfl rfl (wt_is' (wt_guard' rfl rfl rfl) (beq_tf h29)) ?_
                                refine qx_skip' rfl rfl (wt_is' (wt_guard' rfl rfl rfl) (beq_tf h29)) ?_
                                refine qx_skip' rfl rfl (wt_is' (wt_guard' rfl rfl rfl) (beq_tf h29)) ?_
                                refine qx_skip' rfl rfl (wt_is' (wt_guard' rfl rfl rfl) (beq_tf h29)) ?_
                                refine qx_skip' rfl rfl (wt_is' (wt_guard' rfl rfl rfl) (beq_tf h29)) ?_
                                refine qx_skip' rfl rfl (wt_is' (wt_guard' rfl rfl rfl) (beq_tf h29)) ?_
                                refine qx_skip' rfl rfl (wt_is' (wt_guard' rfl rfl rfl) (beq_tf h29)) ?_
                                refine qx_rd' (rd_pick_true' rfl h29 rfl) rfl rfl (wt_none' rfl) ?_
                                refine qx_end' ?_
                                exact tq_pick' [0, 1, 2, 3, 4] (sub_cons rfl (sub_cons rfl (sub_cons rfl (sub_cons rfl (sub_cons rfl (sub_cons rfl (sub_cons rfl (sub_cons rfl sub_nil)))))))) (by decide) (pick_cons rfl (pick_cons rfl (pick_cons rfl (pick_cons rfl (pick_cons rfl pick_nil))))) (hK80 true hp)
                               ·refine qx_rd' (rd_move' rfl) rfl rfl (wt_is' (wt_guard' rfl rfl rfl) (beq_ff h29)) ?_
                                obtain ⟨r9097, hr9097, hp⟩ := bind_some hp
                                refine qx_rd' (rd_atarr' (m := 4) rfl rfl rfl rfl hr9097 Tryd.underlying24 info22) rfl rfl (wt_is' (wt_guard' rfl rfl rfl) (beq_ff h29)) ?_
                                refine qx_rd' (rd_loadr' rfl (m := 4) (i := 8) (j := 0) rfl rfl (idxn_some hr9097).2 rfl rfl flat22) rfl rfl (wt_is' (wt_guard' rfl rfl rfl) (beq_ff h29)) ?_
                                refine qx_rd' (rd_move' rfl) rfl rfl (wt_is' (wt_guard' rfl rfl rfl) (beq_ff h29)) ?_
                                refine qx_rd' (rd_conv' rfl (ru_i2f (by rw [Tryd.underlying3]; rfl) Tryd.underlying22)) rfl rfl (wt_is' (wt_guard' rfl rfl rfl) (beq_ff h29)) ?_
                                refine qx_rd' (rd_move' rfl) rfl rfl (wt_is' (wt_guard' rfl rfl rfl) (beq_ff h29)) ?_
                                obtain ⟨r9098, hr9098, hp⟩ := bind_some hp
                                refine qx_rd' (rd_atarr' (m := 0) rfl rfl rfl rfl hr9098 Tryd.underlying24 info22) rfl rfl (wt_is' (wt_guard' rfl rfl rfl) (beq_ff h29)) ?_
                                refine qx_rd' (rd_loadr' rfl (m := 0) (i := 8) (j := 0) rfl rfl (idxn_some hr9098).2 rfl rfl flat22) rfl rfl (wt_is' (wt_guard' rfl rfl rfl) (beq_ff h29)) ?_
                                obtain ⟨r9099, hr9099, hp⟩ := bind_some hp
                                refine qx_rd' (rd_bin' rfl rfl eg_flt (ru_fmul hr9099)) rfl rfl (wt_is' (wt_guard' rfl rfl rfl) (beq_ff h29)) ?_
                                refine qx_rd' (rd_bin' rfl rfl eg_flt ru_fne) rfl rfl (wt_is' (wt_guard' rfl rfl rfl) (beq_ff h29)) ?_
                                refine qx_rd' (rd_pick_false' rfl h29 rfl) rfl rfl (wt_none' rfl) ?_
                                refine qx_end' ?_
                                exact tq_pick' [0, 1, 2, 3, 4] (sub_cons rfl (sub_cons rfl (sub_cons rfl (sub_cons rfl (sub_cons rfl (sub_cons rfl (sub_cons rfl (sub_cons rfl sub_nil)))))))) (by decide) (pick_cons rfl (pick_cons rfl (pick_cons rfl (pick_cons rfl (pick_cons rfl pick_nil))))) (hK80 (fne r9097 r9099) hp)
                             ·intro K79 hK79
                              rcases br_cases hp with ⟨h28, hp⟩ | ⟨h28, hp⟩
                              ·refine qx_skip' rfl rfl (wt_is' (wt_guard' rfl rfl rfl) (beq_tf h28)) ?_
                               refine qx_skip' rfl rfl (wt_is' (wt_guard' rfl rfl rfl) (beq_tf h28)) ?_
                               refine qx_skip' rfl rfl (wt_is' (wt_guard' rfl rfl rfl) (beq_tf h28)) ?_
                               refine qx_skip' rfl rfl (wt_is' (wt_guard' rfl rfl rfl) (beq_tf h28)) ?_
                               refine qx_skip' rfl rfl (wt_is' (wt_guard' rfl rfl rfl) (beq_tf h28)) ?_
                               refine qx_skip' rfl rfl (wt_is' (wt_guard' rfl rfl rfl) (beq_tf h28)) ?_
                               refine qx_skip' rfl rfl (wt_is' (wt_guard' rfl rfl rfl) (beq_tf h28)) ?_
                               refine qx_skip' rfl rfl (wt_is' (wt_guard' rfl rfl rfl) (beq_tf h28)) ?_
                               refine qx_skip' rfl rfl (wt_is' (wt_guard' rfl rfl rfl) (beq_tf h28)) ?_
                               refine qx_skip' rfl rfl (wt_is' (wt_guard' rfl rfl rfl) (beq_tf h28)) ?_
                               refine qx_skip' rfl rfl (wt_is' (wt_guard' rfl rfl rfl) (beq_tf h28)) ?_
                               refine qx_rd' (rd_pick_true' rfl h28 rfl) rfl rfl (wt_none' rfl) ?_
                               refine qx_end' ?_
                               exact tq_pick' [0, 1, 2, 3, 4] (sub_cons rfl (sub_cons rfl (sub_cons rfl (sub_cons rfl (sub_cons rfl (sub_cons rfl (sub_cons rfl (sub_cons rfl (sub_cons rfl sub_nil))))))))) (by decide) (pick_cons rfl (pick_cons rfl (pick_cons rfl (pick_cons rfl (pick_cons rfl pick_nil))))) (hK79 true hp)
                              ·refine qx_rd' (rd_move' rfl) rfl rfl (wt_is' (wt_guard' rfl rfl rfl) (beq_ff h28)) ?_
                               obtain ⟨r9093, hr9093, hp⟩ := bind_some hp
                               refine qx_rd' (rd_atarr' (m := 3) rfl rfl rfl rfl hr9093 Tryd.underlying24 info22) rfl rfl (wt_is' (wt_guard' rfl rfl rfl) (beq_ff h28)) ?_
                               refine qx_rd' (rd_loadr' rfl (m := 3) (i := 8) (j := 0) rfl rfl (idxn_some hr9093).2 rfl rfl flat22) rfl rfl (wt_is' (wt_guard' rfl rfl rfl) (beq_ff h28)) ?_
                               refine qx_rd' (rd_move' rfl) rfl rfl (wt_is' (wt_guard' rfl rfl rfl) (beq_ff h28)) ?_
                               obtain ⟨r9094, hr9094, hp⟩ := bind_some hp
                               refine qx_rd' (rd_atarr' (m := 0) rfl rfl rfl rfl hr9094 Tryd.underlying24 info22) rfl rfl (wt_is' (wt_guard' rfl rfl rfl) (beq_ff h28)) ?_
                               refine qx_rd' (rd_loadr' rfl (m := 0) (i := 8) (j := 0) rfl rfl (idxn_some hr9094).2 rfl rfl flat22) rfl rfl (wt_is' (wt_guard' rfl rfl rfl) (beq_ff h28)) ?_
                               refine qx_rd' (rd_move' rfl) rfl rfl (wt_is' (wt_guard' rfl rfl rfl) (beq_ff h28)) ?_
                               obtain ⟨r9095, hr9095, hp⟩ := bind_some hp
                               refine qx_rd' (rd_atarr' (m := 1) rfl rfl rfl rfl hr9095 Tryd.underlying24 info22) rfl rfl (wt_is' (wt_guard' rfl rfl rfl) (beq_ff h28)) ?_
                               refine qx_rd' (rd_loadr' rfl (m := 1) (i := 8) (j := 0) rfl rfl (idxn_some hr9095).2 rfl rfl flat22) rfl rfl (wt_is' (wt_guard' rfl rfl rfl) (beq_ff h28)) ?_
                               obtain ⟨r9096, hr9096, hp⟩ := bind_some hp
                               refine qx_rd' (rd_bin' rfl rfl eg_flt (ru_fsub hr9096)) rfl rfl (wt_is' (wt_guard' rfl rfl rfl) (beq_ff h28)) ?_
                               refine qx_rd' (rd_bin' rfl rfl eg_flt ru_fne) rfl rfl (wt_is' (wt_guard' rfl rfl rfl) (beq_ff h28)) ?_
                               refine qx_rd' (rd_pick_false' rfl h28 rfl) rfl rfl (wt_none' rfl) ?_
                               refine qx_end' ?_
                               exact tq_pick' [0, 1, 2, 3, 4] (sub_cons rfl (sub_cons rfl (sub_cons rfl (sub_cons rfl (sub_cons rfl (sub_cons rfl (sub_cons rfl (sub_cons rfl (sub_cons rfl sub_nil))))))))) (by decide) (pick_cons rfl (pick_cons rfl (pick_cons rfl (pick_cons rfl (pick_cons rfl pick_nil))))) (hK79 (fne r9093 r9096) hp)
                           ·intro K72 hK72
                            rcases br_cases hp with ⟨h26, hp⟩ | ⟨h26, hp⟩
                            ·refine qx_skip' rfl rfl (wt_is' (wt_guard' rfl rfl rfl) (beq_tf h26)) ?_
                             refine qx_skip' rfl rfl (wt_is' (wt_guard' rfl rfl rfl) (beq_tf h26)) ?_
                             refine qx_skip' rfl rfl (wt_is' (wt_guard' rfl rfl rfl) (beq_tf h26)) ?_
                             refine qx_skip' rfl rfl (wt_is' (wt_guard' rfl rfl rfl) (beq_tf h26)) ?_
                             refine qx_skip' rfl rfl (wt_is' (wt_guard' rfl rfl rfl) (beq_tf h26)) ?_
                             refine qx_skip' rfl rfl (wt_is' (wt_guard' rfl rfl rfl) (beq_tf h26)) ?_
                             refine qx_skip' rfl rfl (wt_is' (wt_guard' rfl rfl rfl) (beq_tf h26)) ?_
                             refine qx_skip' rfl rfl (wt_is' (wt_guard' rfl rfl rfl) (beq_tf h26)) ?_
                             refine qx_skip' rfl rfl (wt_is' (wt_guard' rfl rfl rfl) (beq_tf h26)) ?_
                             refine qx_skip' rfl rfl (wt_is' (wt_guard' rfl rfl rfl) (beq_tf h26)) ?_
                             refine qx_rd' (rd_pick_true' rfl h26 rfl) rfl rfl (wt_none' rfl) ?_
                             refine qx_end' ?_
                             exact tq_pick' [0, 1, 2, 3, 4] (sub_cons rfl (sub_cons rfl (sub_cons rfl (sub_cons rfl (sub_cons rfl (sub_cons rfl (sub_cons rfl (sub_cons rfl sub_nil)))))))) (by decide) (pick_cons rfl (pick_cons rfl (pick_cons rfl (pick_cons rfl (pick_cons rfl pick_nil))))) (hK72 true hp)
                            ·refine qx_rd' (rd_move' rfl) rfl rfl (wt_is' (wt_guard' rfl rfl rfl) (beq_ff h26)) ?_
                             obtain ⟨r9086, hr9086, hp⟩ := bind_some hp
                             refine qx_rd' (rd_atarr' (m := 4) rfl rfl rfl rfl hr9086 Tryd.underlying24 info22) rfl rfl (wt_is' (wt_guard' rfl rfl rfl) (beq_ff h26)) ?_
                             refine qx_rd' (rd_loadr' rfl (m := 4) (i := 7) (j := 0) rfl rfl (idxn_some hr9086).2 rfl rfl flat22) rfl rfl (wt_is' (wt_guard' rfl rfl rfl) (beq_ff h26)) ?_
                             refine qx_rd' (rd_move' rfl) rfl rfl (wt_is' (wt_guard' rfl rfl rfl) (beq_ff h26)) ?_
                             refine qx_rd' (rd_conv' rfl (ru_i2f (by rw [Tryd.underlying3]; rfl) Tryd.underlying22)) rfl rfl (wt_is' (wt_guard' rfl rfl rfl) (beq_ff h26)) ?_
                             refine qx_rd' (rd_move' rfl) rfl rfl (wt_is' (wt_guard' rfl rfl rfl) (beq_ff h26)) ?_
                             obtain ⟨r9087, hr9087, hp⟩ := bind_some hp
                             refine qx_rd' (rd_atarr' (m := 0) rfl rfl rfl rfl hr9087 Tryd.underlying24 info22) rfl rfl (wt_is' (wt_guard' rfl rfl rfl) (beq_ff h26)) ?_
                             refine qx_rd' (rd_loadr' rfl (m := 0) (i := 7) (j := 0) rfl rfl (idxn_some hr9087).2 rfl rfl flat22) rfl rfl (wt_is' (wt_guard' rfl rfl rfl) (beq_ff h26)) ?_
                             obtain ⟨r9088, hr9088, hp⟩ := bind_some hp
                             refine qx_rd' (rd_bin' rfl rfl eg_flt (ru_fmul hr9088)) rfl rfl (wt_is' (wt_guard' rfl rfl rfl) (beq_ff h26)) ?_
                             refine qx_rd' (rd_bin' rfl rfl eg_flt ru_fne) rfl rfl (wt_is' (wt_guard' rfl rfl rfl) (beq_ff h26)) ?_
                             refine qx_rd' (rd_pick_false' rfl h26 rfl) rfl rfl (wt_none' rfl) ?_
                             refine qx_end' ?_
                             exact tq_pick' [0, 1, 2, 3, 4] (sub_cons rfl (sub_cons rfl (sub_cons rfl (sub_cons rfl (sub_cons rfl (sub_cons rfl (sub_cons rfl (sub_cons rfl sub_nil)))))))) (by decide) (pick_cons rfl (pick_cons rfl (pick_cons rfl (pick_cons rfl (pick_cons rfl pick_nil))))) (hK72 (fne r9086 r9088) hp)
                          ·intro K71 hK71
                           rcases br_cases hp with ⟨h25, hp⟩ | ⟨h25, hp⟩
                           ·refine qx_skip' rfl rfl (wt_is' (wt_guard' rfl rfl rfl) (beq_tf h25)) ?_
                            refine qx_skip' rfl rfl (wt_is' (wt_guard' rfl rfl rfl) (beq_tf h25)) ?_
                            refine qx_skip' rfl rfl (wt_is' (wt_guard' rfl rfl rfl) (beq_tf h25)) ?_
                            refine qx_skip' rfl rfl (wt_is' (wt_guard' rfl rfl rfl) (beq_tf h25)) ?_
                            refine qx_skip' rfl rfl (wt_is' (wt_guard' rfl rfl rfl) (beq_tf h25)) ?_
                            refine qx_skip' rfl rfl (wt_is' (wt_guard' rfl rfl rfl) (beq_tf h25)) ?_
                            refine qx_skip' rfl rfl (wt_is' (wt_guard' rfl rfl rfl) (beq_tf h25)) ?_
                            refine qx_skip' rfl rfl (wt_is' (wt_guard' rfl rfl rfl) (beq_tf h25)) ?_
                            refine qx_skip' rfl rfl (wt_is' (wt_guard' rfl rfl rfl) (beq_tf h25)) ?_
                            refine qx_skip' rfl rfl (wt_is' (wt_guard' rfl rfl rfl) (beq_tf h25)) ?_
                            refine qx_skip' rfl rfl (wt_is' (wt_guard' rfl rfl rfl) (beq_tf h25)) ?_
                            refine qx_rd' (rd_pick_true' rfl h25 rfl) rfl rfl (wt_none' rfl) ?_
                            refine qx_end' ?_
                            exact tq_pick' [0, 1, 2, 3, 4] (sub_cons rfl (sub_cons rfl (sub_cons rfl (sub_cons rfl (sub_cons rfl (sub_cons rfl (sub_cons rfl (sub_cons rfl (sub_cons rfl sub_nil))))))))) (by decide) (pick_cons rfl (pick_cons rfl (pick_cons rfl (pick_cons rfl (pick_cons rfl pick_nil))))) (hK71 true hp)
                           ·refine qx_rd' (rd_move' rfl) rfl rfl (wt_is' (wt_guard' rfl rfl rfl) (beq_ff h25)) ?_
                            obtain ⟨r9082, hr9082, hp⟩ := bind_some hp
                            refine qx_rd' (rd_atarr' (m := 3) rfl rfl rfl rfl hr9082 Tryd.underlying24 info22) rfl rfl (wt_is' (wt_guard' rfl rfl rfl) (beq_ff h25)) ?_
                            refine qx_rd' (rd_loadr' rfl (m := 3) (i := 7) (j := 0) rfl rfl (idxn_some hr9082).2 rfl rfl flat22) rfl rfl (wt_is' (wt_guard' rfl rfl rfl) (beq_ff h25)) ?_
                            refine qx_rd' (rd_move' rfl) rfl rfl (wt_is' (wt_guard' rfl rfl rfl) (beq_ff h25)) ?_
                            obtain ⟨r9083, hr9083, hp⟩ := bind_some hp
                            refine qx_rd' (rd_atarr' (m := 0) rfl rfl rfl rfl hr9083 Tryd.underlying24 info22) rfl rfl (wt_is' (wt_guard' rfl rfl rfl) (beq_ff h25)) ?_
                            refine qx_rd' (rd_loadr' rfl (m := 0) (i := 7) (j := 0) rfl rfl (idxn_some hr9083).2 rfl rfl flat22) rfl rfl (wt_is' (wt_guard' rfl rfl rfl) (beq_ff h25)) ?_
                            refine qx_rd' (rd_move' rfl) rfl rfl (wt_is' (wt_guard' rfl rfl rfl) (beq_ff h25)) ?_
                            obtain ⟨r9084, hr9084, hp⟩ := bind_some hp
                            refine qx_rd' (rd_atarr' (m := 1) rfl rfl rfl rfl hr9084 Tryd.underlying24 info22) rfl rfl (wt_is' (wt_guard' rfl rfl rfl) (beq_ff h25)) ?_
                            refine qx_rd' (rd_loadr' rfl (m := 1) (i := 7) (j := 0) rfl rfl (idxn_some hr9084).2 rfl rfl flat22) rfl rfl (wt_is' (wt_guard' rfl rfl rfl) (beq_ff h25)) ?_
                            obtain ⟨r9085, hr9085, hp⟩ := bind_some hp
                            refine qx_rd' (rd_bin' rfl rfl eg_flt (ru_fsub hr9085)) rfl rfl (wt_is' (wt_guard' rfl rfl rfl) (beq_ff h25)) ?_
                            refine qx_rd' (rd_bin' rfl rfl eg_flt ru_fne) rfl rfl (wt_is' (wt_guard' rfl rfl rfl) (beq_ff h25)) ?_
                            refine qx_rd' (rd_pick_false' rfl h25 rfl) rfl rfl (wt_none' rfl) ?_
                            refine qx_end' ?_
                            exact tq_pick' [0, 1, 2, 3, 4] (sub_cons rfl (sub_cons rfl (sub_cons rfl (sub_cons rfl (sub_cons rfl (sub_cons rfl (sub_cons rfl (sub_cons rfl (sub_cons rfl sub_nil))))))))) (by decide) (pick_cons rfl (pick_cons rfl (pick_cons rfl (pick_cons rfl (pick_cons rfl pick_nil))))) (hK71 (fne r9082 r9085) hp)
                        ·intro K64 hK64
                         rcases br_cases hp with ⟨h23, hp⟩ | ⟨h23, hp⟩
                         ·refine qx_skip' rfl rfl (wt_is' (wt_guard' rfl rfl rfl) (beq_tf h23)) ?_
                          refine qx_skip' rfl rfl (wt_is' (wt_guard' rfl rfl rfl) (beq_tf h23)) ?_
                          refine qx_skip' rfl rfl (wt_is' (wt_guard' rfl rfl rfl) (beq_tf h23)) ?_
                          refine qx_skip' rfl rfl (wt_is' (wt_guard' rfl rfl rfl) (beq_tf h23)) ?_
                          refine qx_skip' rfl rfl (wt_is' (wt_guard' rfl rfl rfl) (beq_tf h23)) ?_
                          refine qx_skip' rfl rfl (wt_is' (wt_guard' rfl rfl rfl) (beq_tf h23)) ?_
                          refine qx_skip' rfl rfl (wt_is' (wt_guard' rfl rfl rfl) (beq_tf h23)) ?_
                          refine qx_skip' rfl rfl (wt_is' (wt_guard' rfl rfl rfl) (beq_tf h23)) ?_
                          refine qx_skip' rfl rfl (wt_is' (wt_guard' rfl rfl rfl) (beq_tf h23)) ?_
                          refine qx_skip' rfl rfl (wt_is' (wt_guard' rfl rfl rfl) (beq_tf h23)) ?_
                          refine qx_rd' (rd_pick_true' rfl h23 rfl) rfl rfl (wt_none' rfl) ?_
                          refine qx_end' ?_
                          exact tq_pick' [0, 1, 2, 3, 4] (sub_cons rfl (sub_cons rfl (sub_cons rfl (sub_cons rfl (sub_cons rfl (sub_cons rfl (sub_cons rfl (sub_cons rfl sub_nil)))))))) (by decide) (pick_cons rfl (pick_cons rfl (pick_cons rfl (pick_cons rfl (pick_cons rfl pick_nil))))) (hK64 true hp)
                         ·refine qx_rd' (rd_move' rfl) rfl rfl (wt_is' (wt_guard' rfl rfl rfl) (beq_ff h23)) ?_
                          obtain ⟨r9075, hr9075, hp⟩ := bind_some hp
                          refine qx_rd' (rd_atarr' (m := 4) rfl rfl rfl rfl hr9075 Tryd.underlying24 info22) rfl rfl (wt_is' (wt_guard' rfl rfl rfl) (beq_ff h23)) ?_
                          refine qx_rd' (rd_loadr' rfl (m := 4) (i := 6) (j := 0) rfl rfl (idxn_some hr9075).2 rfl rfl flat22) rfl rfl (wt_is' (wt_guard' rfl rfl rfl) (beq_ff h23)) ?_
                          refine qx_rd' (rd_move' rfl) rfl rfl (wt_is' (wt_guard' rfl rfl rfl) (beq_ff h23)) ?_
                          refine qx_rd' (rd_conv' rfl (ru_i2f (by rw [Tryd.underlying3]; rfl) Tryd.underlying22)) rfl rfl (wt_is' (wt_guard' rfl rfl rfl) (beq_ff h23)) ?_
                          refine qx_rd' (rd_move' rfl) rfl rfl (wt_is' (wt_guard' rfl rfl rfl) (beq_ff h23)) ?_
                          obtain ⟨r9076, hr9076, hp⟩ := bind_some hp
                          refine qx_rd' (rd_atarr' (m := 0) rfl rfl rfl rfl hr9076 Tryd.underlying24 info22) rfl rfl (wt_is' (wt_guard' rfl rfl rfl) (beq_ff h23)) ?_
                          refine qx_rd' (rd_loadr' rfl (m := 0) (i := 6) (j := 0) rfl rfl (idxn_some hr9076).2 rfl rfl flat22) rfl rfl (wt_is' (wt_guard' rfl rfl rfl) (beq_ff h23)) ?_
                          obtain ⟨r9077, hr9077, hp⟩ := bind_some hp
                          refine qx_rd' (rd_bin' rfl rfl eg_flt (ru_fmul hr9077)) rfl rfl (wt_is' (wt_guard' rfl rfl rfl) (beq_ff h23)) ?_
                          refine qx_rd' (rd_bin' rfl rfl eg_flt ru_fne) rfl rfl (wt_is' (wt_guard' rfl rfl rfl) (beq_ff h23)) ?_
                          refine qx_rd' (rd_pick_false' rfl h23 rfl) rfl rfl (wt_none' rfl) ?_
                          refine qx_end' ?_
                          exact tq_pick' [0, 1, 2, 3, 4] (sub_cons rfl (sub_cons rfl (sub_cons rfl (sub_cons rfl (sub_cons rfl (sub_cons rfl (sub_cons rfl (sub_cons rfl sub_nil)))))))) (by decide) (pick_cons rfl (pick_cons rfl (pick_cons rfl (pick_cons rfl (pick_cons rfl pick_nil))))) (hK64 (fne r9075 r9077) hp)
                       ·intro K63 hK63
                        rcases br_cases hp with ⟨h22, hp⟩ | ⟨h22, hp⟩
                        ·refine qx_skip' rfl rfl (wt_is' (wt_guard' rfl rfl rfl) (beq_tf h22)) ?_
                         refine qx_skip' rfl rfl (wt_is' (wt_guard' rfl rfl rfl) (beq_tf h22)) ?_
                         refine qx_skip' rfl rfl (wt_is' (wt_guard' rfl rfl rfl) (beq_tf h22)) ?_
                         refine qx_skip' rfl rfl (wt_is' (wt_guard' rfl rfl rfl) (beq_tf h22)) ?_
                         refine qx_skip' rfl rfl (wt_is' (wt_guard' rfl rfl rfl) (beq_tf h22)) ?_
                         refine qx_skip' rfl rfl (wt_is' (wt_guard' rfl rfl rfl) (beq_tf h22)) ?_
                         refine qx_skip' rfl rfl (wt_is' (wt_guard' rfl rfl rfl) (beq_tf h22)) ?_
                         refine qx_skip' rfl rfl (wt_is' (wt_guard' rfl rfl rfl) (beq_tf h22)) ?_
                         refine qx_skip' rfl rfl (wt_is' (wt_guard' rfl rfl rfl) (beq_tf h22)) ?_
                         refine qx_skip' rfl rfl (wt_is' (wt_guard' rfl rfl rfl) (beq_tf h22)) ?_
                         refine qx_skip' rfl rfl (wt_is' (wt_guard' rfl rfl rfl) (beq_tf h22)) ?_
                         refine qx_rd' (rd_pick_true' rfl h22 rfl) rfl rfl (wt_none' rfl) ?_
                         refine qx_end' ?_
                         exact tq_pick' [0, 1, 2, 3, 4] (sub_cons rfl (sub_cons rfl (sub_cons rfl (sub_cons rfl (sub_cons rfl (sub_cons rfl (sub_cons rfl (sub_cons rfl (sub_cons rfl sub_nil))))))))) (by decide) (pick_cons rfl (pick_cons rfl (pick_cons rfl (pick_cons rfl (pick_cons rfl pick_nil))))) (hK63 true hp)
                        ·refine qx_rd' (rd_move' rfl) rfl rfl (wt_is' (wt_guard' rfl rfl rfl) (beq_ff h22)) ?_
                         obtain ⟨r9071, hr9071, hp⟩ := bind_some hp
                         refine qx_rd' (rd_atarr' (m := 3) rfl rfl rfl rfl hr9071 Tryd.underlying24 info22) rfl rfl (wt_is' (wt_guard' rfl rfl rfl) (beq_ff h22)) ?_
                         refine qx_rd' (rd_loadr' rfl (m := 3) (i := 6) (j := 0) rfl rfl (idxn_some hr9071).2 rfl rfl flat22) rfl rfl (wt_is' (wt_guard' rfl rfl rfl) (beq_ff h22)) ?_
                         refine qx_rd' (rd_move' rfl) rfl rfl (wt_is' (wt_guard' rfl rfl rfl) (beq_ff h22)) ?_
                         obtain ⟨r9072, hr9072, hp⟩ := bind_some hp
                         refine qx_rd' (rd_atarr' (m := 0) rfl rfl rfl rfl hr9072 Tryd.underlying24 info22) rfl rfl (wt_is' (wt_guard' rfl rfl rfl) (beq_ff h22)) ?_
                         refine qx_rd' (rd_loadr' rfl (m := 0) (i := 6) (j := 0) rfl rfl (idxn_some hr9072).2 rfl rfl flat22) rfl rfl (wt_is' (wt_guard' rfl rfl rfl) (beq_ff h22)) ?_
                         refine qx_rd' (rd_move' rfl) rfl rfl (wt_is' (wt_guard' rfl rfl rfl) (beq_ff h22)) ?_
                         obtain ⟨r9073, hr9073, hp⟩ := bind_some hp
                         refine qx_rd' (rd_atarr' (m := 1) rfl rfl rfl rfl hr9073 Tryd.underlying24 info22) rfl rfl (wt_is' (wt_guard' rfl rfl rfl) (beq_ff h22)) ?_
                         refine qx_rd' (rd_loadr' rfl (m := 1) (i := 6) (j := 0) rfl rfl (idxn_some hr9073).2 rfl rfl flat22) rfl rfl (wt_is' (wt_guard' rfl rfl rfl) (beq_ff h22)) ?_
                         obtain ⟨r9074, hr9074, hp⟩ := bind_some hp
                         refine qx_rd' (rd_bin' rfl rfl eg_flt (ru_fsub hr9074)) rfl rfl (wt_is' (wt_guard' rfl rfl rfl) (beq_ff h22)) ?_
                         refine qx_rd' (rd_bin' rfl rfl eg_flt ru_fne) rfl rfl (wt_is' (wt_guard' rfl rfl rfl) (beq_ff h22)) ?_
                         refine qx_rd' (rd_pick_false' rfl h22 rfl) rfl rfl (wt_none' rfl) ?_
                         refine qx_end' ?_
                         exact tq_pick' [0, 1, 2, 3, 4] (sub_cons rfl (sub_cons rfl (sub_cons rfl (sub_cons rfl (sub_cons rfl (sub_cons rfl (sub_cons rfl (sub_cons rfl (sub_cons rfl sub_nil))))))))) (by decide) (pick_cons rfl (pick_cons rfl (pick_cons rfl (pick_cons rfl (pick_cons rfl pick_nil))))) (hK63 (fne r9071 r9074) hp)
                     ·intro K56 hK56
                      rcases br_cases hp with ⟨h20, hp⟩ | ⟨h20, hp⟩
                      ·refine qx_skip' rfl rfl (wt_is' (wt_guard' rfl rfl rfl) (beq_tf h20)) ?_
                       refine qx_skip' rfl rfl (wt_is' (wt_guard' rfl rfl rfl) (beq_tf h20)) ?_
                       refine qx_skip' rfl rfl (wt_is' (wt_guard' rfl rfl rfl) (beq_tf h20)) ?_
                       refine qx_skip' rfl rfl (wt_is' (wt_guard' rfl rfl rfl) (beq_tf h20)) ?_
                       refine qx_skip' rfl rfl (wt_is' (wt_guard' rfl rfl rfl) (beq_tf h20)) ?_
                       refine qx_skip' rfl rfl (wt_is' (wt_guard' rfl rfl rfl) (beq_tf h20)) ?_
                       refine qx_skip' rfl rfl (wt_is' (wt_guard' rfl rfl rfl) (beq_tf h20)) ?_
                       refine qx_skip' rfl rfl (wt_is' (wt_guard' rfl rfl rfl) (beq_tf h20)) ?_
                       refine qx_skip' rfl rfl (wt_is' (wt_guard' rfl rfl rfl) (beq_tf h20)) ?_
                       refine qx_skip' rfl rfl (wt_is' (wt_guard' rfl rfl rfl) (beq_tf h20)) ?_
                       refine qx_rd' (rd_pick_true' rfl h20 rfl) rfl rfl (wt_none' rfl) ?_
                       refine qx_end' ?_
                       exact tq_pick' [0, 1, 2, 3, 4] (sub_cons rfl (sub_cons rfl (sub_cons rfl (sub_cons rfl (sub_cons rfl (sub_cons rfl (sub_cons rfl (sub_cons rfl sub_nil)))))))) (by decide) (pick_cons rfl (pick_cons rfl (pick_cons rfl (pick_cons rfl (pick_cons rfl pick_nil))))) (hK56 true hp)
                      ·refine qx_rd' (rd_move' rfl) rfl rfl (wt_is' (wt_guard' rfl rfl rfl) (beq_ff h20)) ?_
                       obtain ⟨r9064, hr9064, hp⟩ := bind_some hp
                       refine qx_rd' (rd_atarr' (m := 4) rfl rfl rfl rfl hr9064 Tryd.underlying24 info22) rfl rfl (wt_is' (wt_guard' rfl rfl rfl) (beq_ff h20)) ?_
                       refine qx_rd' (rd_loadr' rfl (m := 4) (i := 5) (j := 0) rfl rfl (idxn_some hr9064).2 rfl rfl flat22) rfl rfl (wt_is' (wt_guard' rfl rfl rfl) (beq_ff h20)) ?_
                       refine qx_rd' (rd_move' rfl) rfl rfl (wt_is' (wt_guard' rfl rfl rfl) (beq_ff h20)) ?_
                       refine qx_rd' (rd_conv' rfl (ru_i2f (by rw [Tryd.underlying3]; rfl) Tryd.underlying22)) rfl rfl (wt_is' (wt_guard' rfl rfl rfl) (beq_ff h20)) ?_
                       refine qx_rd' (rd_move' rfl) rfl rfl (wt_is' (wt_guard' rfl rfl rfl) (beq_ff h20)) ?_
                       obtain ⟨r9065, hr9065, hp⟩ := bind_some hp
                       refine qx_rd' (rd_atarr' (m := 0) rfl rfl rfl rfl hr9065 Tryd.underlying24 info22) rfl rfl (wt_is' (wt_guard' rfl rfl rfl) (beq_ff h20)) ?_
                       refine qx_rd' (rd_loadr' rfl (m := 0) (i := 5) (j := 0) rfl rfl (idxn_some hr9065).2 rfl rfl flat22) rfl rfl (wt_is' (wt_guard' rfl rfl rfl) (beq_ff h20)) ?_
                       obtain ⟨r9066, hr9066, hp⟩ := bind_some hp
                       refine qx_rd' (rd_bin' rfl rfl eg_flt (ru_fmul hr9066)) rfl rfl (wt_is' (wt_guard' rfl rfl rfl) (beq_ff h20)) ?_
                       refine qx_rd' (rd_bin' rfl rfl eg_flt ru_fne) rfl rfl (wt_is' (wt_guard' rfl rfl rfl) (beq_ff h20)) ?_
                       refine qx_rd' (rd_pick_false' rfl h20 rfl) rfl rfl (wt_none' rfl) ?_
                       refine qx_end' ?_
                       exact tq_pick' [0, 1, 2, 3, 4] (sub_cons rfl (sub_cons rfl (sub_cons rfl (sub_cons rfl (sub_cons rfl (sub_cons rfl (sub_cons rfl (sub_cons rfl sub_nil)))))))) (by decide) (pick_cons rfl (pick_cons rfl (pick_cons rfl (pick_cons rfl (pick_cons rfl pick_nil))))) (hK56 (fne r9064 r9066) hp)
                    ·intro K55 hK55
                     rcases br_cases hp with ⟨h19, hp⟩ | ⟨h19, hp⟩
                     ·refine qx_skip' rfl rfl (wt_is' (wt_guard' rfl rfl rfl) (beq_tf h19)) ?_
                      refine qx_skip' rfl rfl (wt_is' (wt_guard' rfl rfl rfl) (beq_tf h19)) ?_
                      refine qx_skip' rfl rfl (wt_is' (wt_guard' rfl rfl rfl) (beq_tf h19)) ?_
                      refine qx_skip' rfl rfl (wt_is' (wt_guard' rfl rfl rfl) (beq_tf h19)) ?_
                      refine qx_skip' rfl rfl (wt_is' (wt_guard' rfl rfl rfl) (beq_tf h19)) ?_
                      refine qx_skip' rfl rfl (wt_is' (wt_guard' rfl rfl rfl) (beq_tf h19)) ?_
                      refine qx_skip' rfl rfl (wt_is' (wt_guard' rfl rfl rfl) (beq_tf h19)) ?_
                      refine qx_skip' rfl rfl (wt_is' (wt_guard' rfl rfl rfl) (beq_tf h19)) ?_
                      refine qx_skip' rfl rfl (wt_is' (wt_guard' rfl rfl rfl) (beq_tf h19)) ?_
                      refine qx_skip' rfl rfl (wt_is' (wt_guard' rfl rfl rfl) (beq_tf h19)) ?_
                      refine qx_skip' rfl rfl (wt_is' (wt_guard' rfl rfl rfl) (beq_tf h19)) ?_
                      refine qx_rd' (rd_pick_true' rfl h19 rfl) rfl rfl (wt_none' rfl) ?_
                      refine qx_end' ?_
                      exact tq_pick' [0, 1, 2, 3, 4] (sub_cons rfl (sub_cons rfl (sub_cons rfl (sub_cons rfl (sub_cons rfl (sub_cons rfl (sub_cons rfl (sub_cons rfl (sub_cons rfl sub_nil))))))))) (by decide) (pick_cons rfl (pick_cons rfl (pick_cons rfl (pick_cons rfl (pick_cons rfl pick_nil))))) (hK55 true hp)
                     ·refine qx_rd' (rd_move' rfl) rfl rfl (wt_is' (wt_guard' rfl rfl rfl) (beq_ff h19)) ?_
                      obtain ⟨r9060, hr9060, hp⟩ := bind_some hp
                      refine qx_rd' (rd_atarr' (m := 3) rfl rfl rfl rfl hr9060 Tryd.underlying24 info22) rfl rfl (wt_is' (wt_guard' rfl rfl rfl) (beq_ff h19)) ?_
                      refine qx_rd' (rd_loadr' rfl (m := 3) (i := 5) (j := 0) rfl rfl (idxn_some hr9060).2 rfl rfl flat22) rfl rfl (wt_is' (wt_guard' rfl rfl rfl) (beq_ff h19)) ?_
                      refine qx_rd' (rd_move' rfl) rfl rfl (wt_is' (wt_guard' rfl rfl rfl) (beq_ff h19)) ?_
                      obtain ⟨r9061, hr9061, hp⟩ := bind_some hp
                      refine qx_rd' (rd_atarr' (m := 0) rfl rfl rfl rfl hr9061 Tryd.underlying24 info22) rfl rfl (wt_is' (wt_guard' rfl rfl rfl) (beq_ff h19)) ?_
                      refine qx_rd' (rd_loadr' rfl (m := 0) (i := 5) (j := 0) rfl rfl (idxn_some hr9061).2 rfl rfl flat22) rfl rfl (wt_is' (wt_guard' rfl rfl rfl) (beq_ff h19)) ?_
                      refine qx_rd' (rd_move' rfl) rfl rfl (wt_is' (wt_guard' rfl rfl rfl) (beq_ff h19)) ?_
                      obtain ⟨r9062, hr9062, hp⟩ := bind_some hp
                      refine qx_rd' (rd_atarr' (m := 1) rfl rfl rfl rfl hr9062 Tryd.underlying24 info22) rfl rfl (wt_is' (wt_guard' rfl rfl rfl) (beq_ff h19)) ?_
                      refine qx_rd' (rd_loadr' rfl (m := 1) (i := 5) (j := 0) rfl rfl (idxn_some hr9062).2 rfl rfl flat22) rfl rfl (wt_is' (wt_guard' rfl rfl rfl) (beq_ff h19)) ?_
                      obtain ⟨r9063, hr9063, hp⟩ := bind_some hp
                      refine qx_rd' (rd_bin' rfl rfl eg_flt (ru_fsub hr9063)) rfl rfl (wt_is' (wt_guard' rfl rfl rfl) (beq_ff h19)) ?_
                      refine qx_rd' (rd_bin' rfl rfl eg_flt ru_fne) rfl rfl (wt_is' (wt_guard' rfl rfl rfl) (beq_ff h19)) ?_
                      refine qx_rd' (rd_pick_false' rfl h19 rfl) rfl rfl (wt_none' rfl) ?_
                      refine qx_end' ?_
                      exact tq_pick' [0, 1, 2, 3, 4] (sub_cons rfl (sub_cons rfl (sub_cons rfl (sub_cons rfl (sub_cons rfl (sub_cons rfl (sub_cons rfl (sub_cons rfl (sub_cons rfl sub_nil))))))))) (by decide) (pick_cons rfl (pick_cons rfl (pick_cons rfl (pick_cons rfl (pick_cons rfl pick_nil))))) (hK55 (fne r9060 r9063) hp)
                  ·intro K48 hK48
                   rcases br_cases hp with ⟨h17, hp⟩ | ⟨h17, hp⟩
                   ·refine qx_skip' rfl rfl (wt_is' (wt_guard' rfl rfl rfl) (beq_tf h17)) ?_
                    refine qx_skip' rfl rfl (wt_is' (wt_guard' rfl rfl rfl) (beq_tf h17)) ?_
                    refine qx_skip' rfl rfl (wt_is' (wt_guard' rfl rfl rfl) (beq_tf h17)) ?_
                    refine qx_skip' rfl rfl (wt_is' (wt_guard' rfl rfl rfl) (beq_tf h17)) ?_
                    refine qx_skip' rfl rfl (wt_is' (wt_guard' rfl rfl rfl) (beq_tf h17)) ?_
                    refine qx_skip' rfl rfl (wt_is' (wt_guard' rfl rfl rfl) (beq_tf h17)) ?_
                    refine qx_skip' rfl rfl (wt_is' (wt_guard' rfl rfl rfl) (beq_tf h17)) ?_
                    refine qx_skip' rfl rfl (wt_is' (wt_guard' rfl rfl rfl) (beq_tf h17)) ?_
                    refine qx_skip' rfl rfl (wt_is' (wt_guard' rfl rfl rfl) (beq_tf h17)) ?_
                    refine qx_skip' rfl rfl (wt_is' (wt_guard' rfl rfl rfl) (beq_tf h17)) ?_
                    refine qx_rd' (rd_pick_true' rfl h17 rfl) rfl rfl (wt_none' rfl) ?_
                    refine qx_end' ?_
                    exact tq_pick' [0, 1, 2, 3, 4] (sub_cons rfl (sub_cons rfl (sub_cons rfl (sub_cons rfl (sub_cons rfl (sub_cons rfl (sub_cons rfl (sub_cons rfl sub_nil)))))))) (by decide) (pick_cons rfl (pick_cons rfl (pick_cons rfl (pick_cons rfl (pick_cons rfl pick_nil))))) (hK48 true hp)
                   ·refine qx_rd' (rd_move' rfl) rfl rfl (wt_is' (wt_guard' rfl rfl rfl) (beq_ff h17)) ?_
                    obtain ⟨r9053, hr9053, hp⟩ := bind_some hp
                    refine qx_rd' (rd_atarr' (m := 4) rfl rfl rfl rfl hr9053 Tryd.underlying24 info22) rfl rfl (wt_is' (wt_guard' rfl rfl rfl) (beq_ff h17)) ?_
                    refine qx_rd' (rd_loadr' rfl (m := 4) (i := 4) (j := 0) rfl rfl (idxn_some hr9053).2 rfl rfl flat22) rfl rfl (wt_is' (wt_guard' rfl rfl rfl) (beq_ff h17)) ?_
                    refine qx_rd' (rd_move' rfl) rfl rfl (wt_is' (wt_guard' rfl rfl rfl) (beq_ff h17)) ?_
                    refine qx_rd' (rd_conv' rfl (ru_i2f (by rw [Tryd.underlying3]; rfl) Tryd.underlying22)) rfl rfl (wt_is' (wt_guard' rfl rfl rfl) (beq_ff h17)) ?_
                    refine qx_rd' (rd_move' rfl) rfl rfl (wt_is' (wt_guard' rfl rfl rfl) (beq_ff h17)) ?_
                    obtain ⟨r9054, hr9054, hp⟩ := bind_some hp
                    refine qx_rd' (rd_atarr' (m := 0) rfl rfl rfl rfl hr9054 Tryd.underlying24 info22) rfl rfl (wt_is' (wt_guard' rfl rfl rfl) (beq_ff h17)) ?_
                    refine qx_rd' (rd_loadr' rfl (m := 0) (i := 4) (j := 0) rfl rfl (idxn_some hr9054).2 rfl rfl flat22) rfl rfl (wt_is' (wt_guard' rfl rfl rfl) (beq_ff h17)) ?_
                    obtain ⟨r9055, hr9055, hp⟩ := bind_some hp
                    refine qx_rd' (rd_bin' rfl rfl eg_flt (ru_fmul hr9055)) rfl rfl (wt_is' (wt_guard' rfl rfl rfl) (beq_ff h17)) ?_
                    refine qx_rd' (rd_bin' rfl rfl eg_flt ru_fne) rfl rfl (wt_is' (wt_guard' rfl rfl rfl) (beq_ff h17)) ?_
                    refine qx_rd' (rd_pick_false' rfl h17 rfl) rfl rfl (wt_none' rfl) ?_
                    refine qx_end' ?_
                    exact tq_pick' [0, 1, 2, 3, 4] (sub_cons rfl (sub_cons rfl (sub_cons rfl (sub_cons rfl (sub_cons rfl (sub_cons rfl (sub_cons rfl (sub_cons rfl sub_nil)))))))) (by decide) (pick_cons rfl (pick_cons rfl (pick_cons rfl (pick_cons rfl (pick_cons rfl pick_nil))))) (hK48 (fne r9053 r9055) hp)
                 ·intro K47 hK47
                  rcases br_cases hp with ⟨h16, hp⟩ | ⟨h16, hp⟩
                  ·refine qx_skip' rfl rfl (wt_is' (wt_guard' rfl rfl rfl) (beq_tf h16)) ?_
                   refine qx_skip' rfl rfl (wt_is' (wt_guard' rfl rfl rfl) (beq_tf h16)) ?_
                   refine qx_skip' rfl rfl (wt_is' (wt_guard' rfl rfl rfl) (beq_tf h16)) ?_
                   refine qx_skip' rfl rfl (wt_is' (wt_guard' rfl rfl rfl) (beq_tf h16)) ?_
                   refine qx_skip' rfl rfl (wt_is' (wt_guard' rfl rfl rfl) (beq_tf h16)) ?_
                   refine qx_skip' rfl rfl (wt_is' (wt_guard' rfl rfl rfl) (beq_tf h16)) ?_
                   refine qx_skip' rfl rfl (wt_is' (wt_guard' rfl rfl rfl) (beq_tf h16)) ?_
                   refine qx_skip' rfl rfl (wt_is' (wt_guard' rfl rfl rfl) (beq_tf h16)) ?_
                   refine qx_skip' rfl rfl (wt_is' (wt_guard' rfl rfl rfl) (beq_tf h16)) ?_
                   refine qx_skip' rfl rfl (wt_is' (wt_guard' rfl rfl rfl) (beq_tf h16)) ?_
                   refine qx_skip' rfl rfl (wt_is' (wt_guard' rfl rfl rfl) (beq_tf h16)) ?_
                   refine qx_rd' (rd_pick_true' rfl h16 rfl) rfl rfl (wt_none' rfl) ?_
                   refine qx_end' ?_
                   exact tq_pick' [0, 1, 2, 3, 4] (sub_cons rfl (sub_cons rfl (sub_cons rfl (sub_cons rfl (sub_cons rfl (sub_cons rfl (sub_cons rfl (sub_cons rfl (sub_cons rfl sub_nil))))))))) (by decide) (pick_cons rfl (pick_cons rfl (pick_cons rfl (pick_cons rfl (pick_cons rfl pick_nil))))) (hK47 true hp)
                  ·refine qx_rd' (rd_move' rfl) rfl rfl (wt_is' (wt_guard' rfl rfl rfl) (beq_ff h16)) ?_
                   obtain ⟨r9049, hr9049, hp⟩ := bind_some hp
                   refine qx_rd' (rd_atarr' (m := 3) rfl rfl rfl rfl hr9049 Tryd.underlying24 info22) rfl rfl (wt_is' (wt_guard' rfl rfl rfl) (beq_ff h16)) ?_
                   refine qx_rd' (rd_loadr' rfl (m := 3) (i := 4) (j := 0) rfl rfl (idxn_some hr9049).2 rfl rfl flat22) rfl rfl (wt_is' (wt_guard' rfl rfl rfl) (beq_ff h16)) ?_
                   refine qx_rd' (rd_move' rfl) rfl rfl (wt_is' (wt_guard' rfl rfl rfl) (beq_ff h16)) ?_
                   obtain ⟨r9050, hr9050, hp⟩ := bind_some hp
                   refine qx_rd' (rd_atarr' (m := 0) rfl rfl rfl rfl hr9050 Tryd.underlying24 info22) rfl rfl (wt_is' (wt_guard' rfl rfl rfl) (beq_ff h16)) ?_
                   refine qx_rd' (rd_loadr' rfl (m := 0) (i := 4) (j := 0) rfl rfl (idxn_some hr9050).2 rfl rfl flat22) rfl rfl (wt_is' (wt_guard' rfl rfl rfl) (beq_ff h16)) ?_
                   refine qx_rd' (rd_move' rfl) rfl rfl (wt_is' (wt_guard' rfl rfl rfl) (beq_ff h16)) ?_
                   obtain ⟨r9051, hr9051, hp⟩ := bind_some hp
                   refine qx_rd' (rd_atarr' (m := 1) rfl rfl rfl rfl hr9051 Tryd.underlying24 info22) rfl rfl (wt_is' (wt_guard' rfl rfl rfl) (beq_ff h16)) ?_
                   refine qx_rd' (rd_loadr' rfl (m := 1) (i := 4) (j := 0) rfl rfl (idxn_some hr9051).2 rfl rfl flat22) rfl rfl (wt_is' (wt_guard' rfl rfl rfl) (beq_ff h16)) ?_
                   obtain ⟨r9052, hr9052, hp⟩ := bind_some hp
                   refine qx_rd' (rd_bin' rfl rfl eg_flt (ru_fsub hr9052)) rfl rfl (wt_is' (wt_guard' rfl rfl rfl) (beq_ff h16)) ?_
                   refine qx_rd' (rd_bin' rfl rfl eg_flt ru_fne) rfl rfl (wt_is' (wt_guard' rfl rfl rfl) (beq_ff h16)) ?_
                   refine qx_rd' (rd_pick_false' rfl h16 rfl) rfl rfl (wt_none' rfl) ?_
                   refine qx_end' ?_
                   exact tq_pick' [0, 1, 2, 3, 4] (sub_cons rfl (sub_cons rfl (sub_cons rfl (sub_cons rfl (sub_cons rfl (sub_cons rfl (sub_cons rfl (sub_cons rfl (sub_cons rfl sub_nil))))))))) (by decide) (pick_cons rfl (pick_cons rfl (pick_cons rfl (pick_cons rfl (pick_cons rfl pick_nil))))) (hK47 (fne r9049 r9052) hp)
               ·intro K40 hK40
                rcases br_cases hp with ⟨h14, hp⟩ | ⟨h14, hp⟩
                ·refine qx_skip' rfl rfl (wt_is' (wt_guard' rfl rfl rfl) (beq_tf h14)) ?_
                 refine qx_skip' rfl rfl (wt_is' (wt_guard' rfl rfl rfl) (beq_tf h14)) ?_
                 refine qx_skip' rfl rfl (wt_is' (wt_guard' rfl rfl rfl) (beq_tf h14)) ?_
                 refine qx_skip' rfl rfl (wt_is' (wt_guard' rfl rfl rfl) (beq_tf h14)) ?_
                 refine qx_skip' rfl rfl (wt_is' (wt_guard' rfl rfl rfl) (beq_tf h14)) ?_
                 refine qx_skip' rfl rfl (wt_is' (wt_guard' rfl rfl rfl) (beq_tf h14)) ?_
                 refine qx_skip' rfl rfl (wt_is' (wt_guard' rfl rfl rfl) (beq_tf h14)) ?_
                 refine qx_skip' rfl rfl (wt_is' (wt_guard' rfl rfl rfl) (beq_tf h14)) ?_
                 refine qx_skip' rfl rfl (wt_is' (wt_guard' rfl rfl rfl) (beq_tf h14)) ?_
                 refine qx_skip' rfl rfl (wt_is' (wt_guard' rfl rfl rfl) (beq_tf h14)) ?_
                 refine qx_rd' (rd_pick_true' rfl h14 rfl) rfl rfl (wt_none' rfl) ?_
                 refine qx_end' ?_
                 exact tq_pick' [0, 1, 2, 3, 4] (sub_cons rfl (sub_cons rfl (sub_cons rfl (sub_cons rfl (sub_cons rfl (sub_cons rfl (sub_cons rfl (sub_cons rfl sub_nil)))))))) (by decide) (pick_cons rfl (pick_cons rfl (pick_cons rfl (pick_cons rfl (pick_cons rfl pick_nil))))) (hK40 true hp)
                ·refine qx_rd' (rd_move' rfl) rfl rfl (wt_is' (wt_guard' rfl rfl rfl) (beq_ff h14)) ?_
                 obtain ⟨r9042, hr9042, hp⟩ := bind_some hp
                 refine qx_rd' (rd_atarr' (m := 4) rfl rfl rfl rfl hr9042 Tryd.underlying24 info22) rfl rfl (wt_is' (wt_guard' rfl rfl rfl) (beq_ff h14)) ?_
                 refine qx_rd' (rd_loadr' rfl (m := 4) (i := 3) (j := 0) rfl rfl (idxn_some hr9042).2 rfl rfl flat22) rfl rfl (wt_is' (wt_guard' rfl rfl rfl) (beq_ff h14)) ?_
                 refine qx_rd' (rd_move' rfl) rfl rfl (wt_is' (wt_guard' rfl rfl rfl) (beq_ff h14)) ?_
                 refine qx_rd' (rd_conv' rfl (ru_i2f (by rw [Tryd.underlying3]; rfl) Tryd.underlying22)) rfl rfl (wt_is' (wt_guard' rfl rfl rfl) (beq_ff h14)) ?_
                 refine qx_rd' (rd_move' rfl) rfl rfl (wt_is' (wt_guard' rfl rfl rfl) (beq_ff h14)) ?_
                 obtain ⟨r9043, hr9043, hp⟩ := bind_some hp
                 refine qx_rd' (rd_atarr' (m := 0) rfl rfl rfl rfl hr9043 Tryd.underlying24 info22) rfl rfl (wt_is' (wt_guard' rfl rfl rfl) (beq_ff h14)) ?_
                 refine qx_rd' (rd_loadr' rfl (m := 0) (i := 3) (j := 0) rfl rfl (idxn_some hr9043).2 rfl rfl flat22) rfl rfl (wt_is' (wt_guard' rfl rfl rfl) (beq_ff h14)) ?_
                 obtain ⟨r9044, hr9044, hp⟩ := bind_some hp
                 refine qx_rd' (rd_bin' rfl rfl eg_flt (ru_fmul hr9044)) rfl rfl (wt_is' (wt_guard' rfl rfl rfl) (beq_ff h14)) ?_
                 refine qx_rd' (rd_bin' rfl rfl eg_flt ru_fne) rfl rfl (wt_is' (wt_guard' rfl rfl rfl) (beq_ff h14)) ?_
                 refine qx_rd' (rd_pick_false' rfl h14 rfl) rfl rfl (wt_none' rfl) ?_
                 refine qx_end' ?_
                 exact tq_pick' [0, 1, 2, 3, 4] (sub_cons rfl (sub_cons rfl (sub_cons rfl (sub_cons rfl (sub_cons rfl (sub_cons rfl (sub_cons rfl (sub_cons rfl sub_nil)))))))) (by decide) (pick_cons rfl (pick_cons rfl (pick_cons rfl (pick_cons rfl (pick_cons rfl pick_nil))))) (hK40 (fne r9042 r9044) hp)
              ·intro K39 hK39
               rcases br_cases hp with ⟨h13, hp⟩ | ⟨h13, hp⟩
               ·refine qx_skip' rfl rfl (wt_is' (wt_guard' rfl rfl rfl) (beq_tf h13)) ?_
                refine qx_skip' rfl rfl (wt_is' (wt_guard' rfl rfl rfl) (beq_tf h13)) ?_
                refine qx_skip' rfl rfl (wt_is' (wt_guard' rfl rfl rfl) (beq_tf h13)) ?_
                refine qx_skip' rfl rfl (wt_is' (wt_guard' rfl rfl rfl) (beq_tf h13)) ?_
                refine qx_skip' rfl rfl (wt_is' (wt_guard' rfl rfl rfl) (beq_tf h13)) ?_
                refine qx_skip' rfl rfl (wt_is' (wt_guard' rfl rfl rfl) (beq_tf h13)) ?_
                refine qx_skip' rfl rfl (wt_is' (wt_guard' rfl rfl rfl) (beq_tf h13)) ?_
                refine qx_skip' rfl rfl (wt_is' (wt_guard' rfl rfl rfl) (beq_tf h13)) ?_
                refine qx_skip' rfl rfl (wt_is' (wt_guard' rfl rfl rfl) (beq_tf h13)) ?_
                refine qx_skip' rfl rfl (wt_is' (wt_guard' rfl rfl rfl) (beq_tf h13)) ?_
                refine qx_skip' rfl rfl (wt_is' (wt_guard' rfl rfl rfl) (beq_tf h13)) ?_
                refine qx_rd' (rd_pick_true' rfl h13 rfl) rfl rfl (wt_none' rfl) ?_
                refine qx_end' ?_
                exact tq_pick' [0, 1, 2, 3, 4] (sub_cons rfl (sub_cons rfl (sub_cons rfl (sub_cons rfl (sub_cons rfl (sub_cons rfl (sub_cons rfl (sub_cons rfl (sub_cons rfl sub_nil))))))))) (by decide) (pick_cons rfl (pick_cons rfl (pick_cons rfl (pick_cons rfl (pick_cons rfl pick_nil))))) (hK39 true hp)
               ·refine qx_rd' (rd_move' rfl) rfl rfl (wt_is' (wt_guard' rfl rfl rfl) (beq_ff h13)) ?_
                obtain ⟨r9038, hr9038, hp⟩ := bind_some hp
                refine qx_rd' (rd_atarr' (m := 3) rfl rfl rfl rfl hr9038 Tryd.underlying24 info22) rfl rfl (wt_is' (wt_guard' rfl rfl rfl) (beq_ff h13)) ?_
                refine qx_rd' (rd_loadr' rfl (m := 3) (i := 3) (j := 0) rfl rfl (idxn_some hr9038).2 rfl rfl flat22) rfl rfl (wt_is' (wt_guard' rfl rfl rfl) (beq_ff h13)) ?_
                refine qx_rd' (rd_move' rfl) rfl rfl (wt_is' (wt_guard' rfl rfl rfl) (beq_ff h13)) ?_
                obtain ⟨r9039, hr9039, hp⟩ := bind_some hp
                refine qx_rd' (rd_atarr' (m := 0) rfl rfl rfl rfl hr9039 Tryd.underlying24 info22) rfl rfl (wt_is' (wt_guard' rfl rfl rfl) (beq_ff h13)) ?_
                refine qx_rd' (rd_loadr' rfl (m := 0) (i := 3) (j := 0) rfl rfl (idxn_some hr9039).2 rfl rfl flat22) rfl rfl (wt_is' (wt_guard' rfl rfl rfl) (beq_ff h13)) ?_
                refine qx_rd' (rd_move' rfl) rfl rfl (wt_is' (wt_guard' rfl rfl rfl) (beq_ff h13)) ?_
                obtain ⟨r9040, hr9040, hp⟩ := bind_some hp
                refine qx_rd' (rd_atarr' (m := 1) rfl rfl rfl rfl hr9040 Tryd.underlying24 info22) rfl rfl (wt_is' (wt_guard' rfl rfl rfl) (beq_ff h13)) ?_
                refine qx_rd' (rd_loadr' rfl (m := 1) (i := 3) (j := 0) rfl rfl (idxn_some hr9040).2 rfl rfl flat22) rfl rfl (wt_is' (wt_guard' rfl rfl rfl) (beq_ff h13)) ?_
                obtain ⟨r9041, hr9041, hp⟩ := bind_some hp
                refine qx_rd' (rd_bin' rfl rfl eg_flt (ru_fsub hr9041)) rfl rfl (wt_is' (wt_guard' rfl rfl rfl) (beq_ff h13)) ?_
                refine qx_rd' (rd_bin' rfl rfl eg_flt ru_fne) rfl rfl (wt_is' (wt_guard' rfl rfl rfl) (beq_ff h13)) ?_
                refine qx_rd' (rd_pick_false' rfl h13 rfl) rfl rfl (wt_none' rfl) ?_
                refine qx_end' ?_
                exact tq_pick' [0, 1, 2, 3, 4] (sub_cons rfl (sub_cons rfl (sub_cons rfl (sub_cons rfl (sub_cons rfl (sub_cons rfl (sub_cons rfl (sub_cons rfl (sub_cons rfl sub_nil))))))))) (by decide) (pick_cons rfl (pick_cons rfl (pick_cons rfl (pick_cons rfl (pick_cons rfl pick_nil))))) (hK39 (fne r9038 r9041) hp)
            ·intro K32 hK32
             rcases br_cases hp with ⟨h11, hp⟩ | ⟨h11, hp⟩
             ·refine qx_skip' rfl rfl (wt_is' (wt_guard' rfl rfl rfl) (beq_tf h11)) ?_
              refine qx_skip' rfl rfl (wt_is' (wt_guard' rfl rfl rfl) (beq_tf h11)) ?_
              refine qx_skip' rfl rfl (wt_is' (wt_guard' rfl rfl rfl) (beq_tf h11)) ?_
              refine qx_skip' rfl rfl (wt_is' (wt_guard' rfl rfl rfl) (beq_tf h11)) ?_
              refine qx_skip' rfl rfl (wt_is' (wt_guard' rfl rfl rfl) (beq_tf h11)) ?_
              refine qx_skip' rfl rfl (wt_is' (wt_guard' rfl rfl rfl) (beq_tf h11)) ?_
              refine qx_skip' rfl rfl (wt_is' (wt_guard' rfl rfl rfl) (beq_tf h11)) ?_
              refine qx_skip' rfl rfl (wt_is' (wt_guard' rfl rfl rfl) (beq_tf h11)) ?_
              refine qx_skip' rfl rfl (wt_is' (wt_guard' rfl rfl rfl) (beq_tf h11)) ?_
              refine qx_skip' rfl rfl (wt_is' (wt_guard' rfl rfl rfl) (beq_tf h11)) ?_
              refine qx_rd' (rd_pick_true' rfl h11 rfl) rfl rfl (wt_none' rfl) ?_
              refine qx_end' ?_
              exact tq_pick' [0, 1, 2, 3, 4] (sub_cons rfl (sub_cons rfl (sub_cons rfl (sub_cons rfl (sub_cons rfl (sub_cons rfl (sub_cons rfl (sub_cons rfl sub_nil)))))))) (by decide) (pick_cons rfl (pick_cons rfl (pick_cons rfl (pick_cons rfl (pick_cons rfl pick_nil))))) (hK32 true hp)
             ·refine qx_rd' (rd_move' rfl) rfl rfl (wt_is' (wt_guard' rfl rfl rfl) (beq_ff h11)) ?_
              obtain ⟨r9031, hr9031, hp⟩ := bind_some hp
              refine qx_rd' (rd_atarr' (m := 4) rfl rfl rfl rfl hr9031 Tryd.underlying24 info22) rfl rfl (wt_is' (wt_guard' rfl rfl rfl) (beq_ff h11)) ?_
              refine qx_rd' (rd_loadr' rfl (m := 4) (i := 2) (j := 0) rfl rfl (idxn_some hr9031).2 rfl rfl flat22) rfl rfl (wt_is' (wt_guard' rfl rfl rfl) (beq_ff h11)) ?_
              refine qx_rd' (rd_move' rfl) rfl rfl (wt_is' (wt_guard' rfl rfl rfl) (beq_ff h11)) ?_
              refine qx_rd' (rd_conv' rfl (ru_i2f (by rw [Tryd.underlying3]; rfl) Tryd.underlying22)) rfl rfl (wt_is' (wt_guard' rfl rfl rfl) (beq_ff h11)) ?_
              refine qx_rd' (rd_move' rfl) rfl rfl (wt_is' (wt_guard' rfl rfl rfl) (beq_ff h11)) ?_
              obtain ⟨r9032, hr9032, hp⟩ := bind_some hp
              refine qx_rd' (rd_atarr' (m := 0) rfl rfl rfl rfl hr9032 Tryd.underlying24 info22) rfl rfl (wt_is' (wt_guard' rfl rfl rfl) (beq_ff h11)) ?_
              refine qx_rd' (rd_loadr' rfl (m := 0) (i := 2) (j := 0) rfl rfl (idxn_some hr9032).2 rfl rfl flat22) rfl rfl (wt_is' (wt_guard' rfl rfl rfl) (beq_ff h11)) ?_
              obtain ⟨r9033, hr9033, hp⟩ := bind_some hp
              refine qx_rd' (rd_bin' rfl rfl eg_flt (ru_fmul hr9033)) rfl rfl (wt_is' (wt_guard' rfl rfl rfl) (beq_ff h11)) ?_
              refine qx_rd' (rd_bin' rfl rfl eg_flt ru_fne) rfl rfl (wt_is' (wt_guard' rfl rfl rfl) (beq_ff h11)) ?_
              refine qx_rd' (rd_pick_false' rfl h11 rfl) rfl rfl (wt_none' rfl) ?_
              refine qx_end' ?_
              exact tq_pick' [0, 1, 2, 3, 4] (sub_cons rfl (sub_cons rfl (sub_cons rfl (sub_cons rfl (sub_cons rfl (sub_cons rfl (sub_cons rfl (sub_cons rfl sub_nil)))))))) (by decide) (pick_cons rfl (pick_cons rfl (pick_cons rfl (pick_cons rfl (pick_cons rfl pick_nil))))) (hK32 (fne r9031 r9033) hp)
           ·intro K31 hK31
            rcases br_cases hp with ⟨h10, hp⟩ | ⟨h10, hp⟩
            ·refine qx_skip' rfl rfl (wt_is' (wt_guard' rfl rfl rfl) (beq_tf h10)) ?_
             refine qx_skip' rfl rfl (wt_is' (wt_guard' rfl rfl rfl) (beq_tf h10)) ?_
             refine qx_skip' rfl rfl (wt_is' (wt_guard' rfl rfl rfl) (beq_tf h10)) ?_
             refine qx_skip' rfl rfl (wt_is' (wt_guard' rfl rfl rfl) (beq_tf h10)) ?_
             refine qx_skip' rfl rfl (wt_is' (wt_guard' rfl rfl rfl) (beq_tf h10)) ?_
             refine qx_skip' rfl rfl (wt_is' (wt_guard' rfl rfl rfl) (beq_tf h10)) ?_
             refine qx_skip' rfl rfl (wt_is' (wt_guard' rfl rfl rfl) (beq_tf h10)) ?_
             refine qx_skip' rfl rfl (wt_is' (wt_guard' rfl rfl rfl) (beq_tf h10)) ?_
             refine qx_skip' rfl rfl (wt_is' (wt_guard' rfl rfl rfl) (beq_tf h10)) ?_
             refine qx_skip' rfl rfl (wt_is' (wt_guard' rfl rfl rfl) (beq_tf h10)) ?_
             refine qx_skip' rfl rfl (wt_is' (wt_guard' rfl rfl rfl) (beq_tf h10)) ?_
             refine qx_rd' (rd_pick_true' rfl h10 rfl) rfl rfl (wt_none' rfl) ?_
             refine qx_end' ?_
             exact tq_pick' [0, 1, 2, 3, 4] (sub_cons rfl (sub_cons rfl (sub_cons rfl (sub_cons rfl (sub_cons rfl (sub_cons rfl (sub_cons rfl (sub_cons rfl (sub_cons rfl sub_nil))))))))) (by decide) (pick_cons rfl (pick_cons rfl (pick_cons rfl (pick_cons rfl (pick_cons rfl pick_nil))))) (hK31 true hp)
            ·refine qx_rd' (rd_move' rfl) rfl rfl (wt_is' (wt_guard' rfl rfl rfl) (beq_ff h10)) ?_
             obtain ⟨r9027, hr9027, hp⟩ := bind_some hp
             refine qx_rd' (rd_atarr' (m := 3) rfl rfl rfl rfl hr9027 Tryd.underlying24 info22) rfl rfl (wt_is' (wt_guard' rfl rfl rfl) (beq_ff h10)) ?_
             refine qx_rd' (rd_loadr' rfl (m := 3) (i := 2) (j := 0) rfl rfl (idxn_some hr9027).2 rfl rfl flat22) rfl rfl (wt_is' (wt_guard' rfl rfl rfl) (beq_ff h10)) ?_
             refine qx_rd' (rd_move' rfl) rfl rfl (wt_is' (wt_guard' rfl rfl rfl) (beq_ff h10)) ?_
             obtain ⟨r9028, hr9028, hp⟩ := bind_some hp
             refine qx_rd' (rd_atarr' (m := 0) rfl rfl rfl rfl hr9028 Tryd.underlying24 info22) rfl rfl (wt_is' (wt_guard' rfl rfl rfl) (beq_ff h10)) ?_
             refine qx_rd' (rd_loadr' rfl (m := 0) (i := 2) (j := 0) rfl rfl (idxn_some hr9028).2 rfl rfl flat22) rfl rfl (wt_is' (wt_guard' rfl rfl rfl) (beq_ff h10)) ?_
             refine qx_rd' (rd_move' rfl) rfl rfl (wt_is' (wt_guard' rfl rfl rfl) (beq_ff h10)) ?_
             obtain ⟨r9029, hr9029, hp⟩ := bind_some hp
             refine qx_rd' (rd_atarr' (m := 1) rfl rfl rfl rfl hr9029 Tryd.underlying24 info22) rfl rfl (wt_is' (wt_guard' rfl rfl rfl) (beq_ff h10)) ?_
             refine qx_rd' (rd_loadr' rfl (m := 1) (i := 2) (j := 0) rfl rfl (idxn_some hr9029).2 rfl rfl flat22) rfl rfl (wt_is' (wt_guard' rfl rfl rfl) (beq_ff h10)) ?_
             obtain ⟨r9030, hr9030, hp⟩ := bind_some hp
             refine qx_rd' (rd_bin' rfl rfl eg_flt (ru_fsub hr9030)) rfl rfl (wt_is' (wt_guard' rfl rfl rfl) (beq_ff h10)) ?_
             refine qx_rd' (rd_bin' rfl rfl eg_flt ru_fne) rfl rfl (wt_is' (wt_guard' rfl rfl rfl) (beq_ff h10)) ?_
             refine qx_rd' (rd_pick_false' rfl h10 rfl) rfl rfl (wt_none' rfl) ?_
             refine qx_end' ?_
             exact tq_pick' [0, 1, 2, 3, 4] (sub_cons rfl (sub_cons rfl (sub_cons rfl (sub_cons rfl (sub_cons rfl (sub_cons rfl (sub_cons rfl (sub_cons rfl (sub_cons rfl sub_nil))))))))) (by decide) (pick_cons rfl (pick_cons rfl (pick_cons rfl (pick_cons rfl (pick_cons rfl pick_nil))))) (hK31 (fne r9027 r9030) hp)
         ·intro K24 hK24
          rcases br_cases hp with ⟨h8, hp⟩ | ⟨h8, hp⟩
          ·refine qx_skip' rfl rfl (wt_is' (wt_guard' rfl rfl rfl) (beq_tf h8)) ?_
           refine qx_skip' rfl rfl (wt_is' (wt_guard' rfl rfl rfl) (beq_tf h8)) ?_
           refine qx_skip' rfl rfl (wt_is' (wt_guard' rfl rfl rfl) (beq_tf h8)) ?_
           refine qx_skip' rfl rfl (wt_is' (wt_guard' rfl rfl rfl) (beq_tf h8)) ?_
           refine qx_skip' rfl rfl (wt_is' (wt_guard' rfl rfl rfl) (beq_tf h8)) ?_
           refine qx_skip' rfl rfl (wt_is' (wt_guard' rfl rfl rfl) (beq_tf h8)) ?_
           refine qx_skip' rfl rfl (wt_is' (wt_guard' rfl rfl rfl) (beq_tf h8)) ?_
           refine qx_skip' rfl rfl (wt_is' (wt_guard' rfl rfl rfl) (beq_tf h8)) ?_
           refine qx_skip' rfl rfl (wt_is' (wt_guard' rfl rfl rfl) (beq_tf h8)) ?_
           refine qx_skip' rfl rfl (wt_is' (wt_guard' rfl rfl rfl) (beq_tf h8)) ?_
           refine qx_rd' (rd_pick_true' rfl h8 rfl) rfl rfl (wt_none' rfl) ?_
           refine qx_end' ?_
           exact tq_pick' [0, 1, 2, 3, 4] (sub_cons rfl (sub_cons rfl (sub_cons rfl (sub_cons rfl (sub_cons rfl (sub_cons rfl (sub_cons rfl (sub_cons rfl sub_nil)))))))) (by decide) (pick_cons rfl (pick_cons rfl (pick_cons rfl (pick_cons rfl (pick_cons rfl pick_nil))))) (hK24 true hp)
          ·refine qx_rd' (rd_move' rfl) rfl rfl (wt_is' (wt_guard' rfl rfl rfl) (beq_ff h8)) ?_
           obtain ⟨r9020, hr9020, hp⟩ := bind_some hp
           refine qx_rd' (rd_atarr' (m := 4) rfl rfl rfl rfl hr9020 Tryd.underlying24 info22) rfl rfl (wt_is' (wt_guard' rfl rfl rfl) (beq_ff h8)) ?_
           refine qx_rd' (rd_loadr' rfl (m := 4) (i := 1) (j := 0) rfl rfl (idxn_some hr9020).2 rfl rfl flat22) rfl rfl (wt_is' (wt_guard' rfl rfl rfl) (beq_ff h8)) ?_
           refine qx_rd' (rd_move' rfl) rfl rfl (wt_is' (wt_guard' rfl rfl rfl) (beq_ff h8)) ?_
           refine qx_rd' (rd_conv' rfl (ru_i2f (by rw [Tryd.underlying3]; rfl) Tryd.underlying22)) rfl rfl (wt_is' (wt_guard' rfl rfl rfl) (beq_ff h8)) ?_
           refine qx_rd' (rd_move' rfl) rfl rfl (wt_is' (wt_guard' rfl rfl rfl) (beq_ff h8)) ?_
           obtain ⟨r9021, hr9021, hp⟩ := bind_some hp
           refine qx_rd' (rd_atarr' (m := 0) rfl rfl rfl rfl hr9021 Tryd.underlying24 info22) rfl rfl (wt_is' (wt_guard' rfl rfl rfl) (beq_ff h8)) ?_
           refine qx_rd' (rd_loadr' rfl (m := 0) (i := 1) (j := 0) rfl rfl (idxn_some hr9021).2 rfl rfl flat22) rfl rfl (wt_is' (wt_guard' rfl rfl rfl) (beq_ff h8)) ?_
           obtain ⟨r9022, hr9022, hp⟩ := bind_some hp
           refine qx_rd' (rd_bin' rfl rfl eg_flt (ru_fmul hr9022)) rfl rfl (wt_is' (wt_guard' rfl rfl rfl) (beq_ff h8)) ?_
           refine qx_rd' (rd_bin' rfl rfl eg_flt ru_fne) rfl rfl (wt_is' (wt_guard' rfl rfl rfl) (beq_ff h8)) ?_
           refine qx_rd' (rd_pick_false' rfl h8 rfl) rfl rfl (wt_none' rfl) ?_
           refine qx_end' ?_
           exact tq_pick' [0, 1, 2, 3, 4] (sub_cons rfl (sub_cons rfl (sub_cons rfl (sub_cons rfl (sub_cons rfl (sub_cons rfl (sub_cons rfl (sub_cons rfl sub_nil)))))))) (by decide) (pick_cons rfl (pick_cons rfl (pick_cons rfl (pick_cons rfl (pick_cons rfl pick_nil))))) (hK24 (fne r9020 r9022) hp)
        ·intro K23 hK23
         rcases br_cases hp with ⟨h7, hp⟩ | ⟨h7, hp⟩
         ·refine qx_skip' rfl rfl (wt_is' (wt_guard' rfl rfl rfl) (beq_tf h7)) ?_
          refine qx_skip' rfl rfl (wt_is' (wt_guard' rfl rfl rfl) (beq_tf h7)) ?_
          refine qx_skip' rfl rfl (wt_is' (wt_guard' rfl rfl rfl) (beq_tf h7)) ?_
          refine qx_skip' rfl rfl (wt_is' (wt_guard' rfl rfl rfl) (beq_tf h7)) ?_
          refine qx_skip' rfl rfl (wt_is' (wt_guard' rfl rfl rfl) (beq_tf h7)) ?_
          refine qx_skip' rfl rfl (wt_is' (wt_guard' rfl rfl rfl) (beq_tf h7)) ?_
          refine qx_skip' rfl rfl (wt_is' (wt_guard' rfl rfl rfl) (beq_tf h7)) ?_
          refine qx_skip' rfl rfl (wt_is' (wt_guard' rfl rfl rfl) (beq_tf h7)) ?_
          refine qx_skip' rfl rfl (wt_is' (wt_guard' rfl rfl rfl) (beq_tf h7)) ?_
          refine qx_skip' rfl rfl (wt_is' (wt_guard' rfl rfl rfl) (beq_tf h7)) ?_
          refine qx_skip' rfl rfl (wt_is' (wt_guard' rfl rfl rfl) (beq_tf h7)) ?_
          refine qx_rd' (rd_pick_true' rfl h7 rfl) rfl rfl (wt_none' rfl) ?_
          refine qx_end' ?_
          exact tq_pick' [0, 1, 2, 3, 4] (sub_cons rfl (sub_cons rfl (sub_cons rfl (sub_cons rfl (sub_cons rfl (sub_cons rfl (sub_cons rfl (sub_cons rfl (sub_cons rfl sub_nil))))))))) (by decide) (pick_cons rfl (pick_cons rfl (pick_cons rfl (pick_cons rfl (pick_cons rfl pick_nil))))) (hK23 true hp)
         ·refine qx_rd' (rd_move' rfl) rfl rfl (wt_is' (wt_guard' rfl rfl rfl) (beq_ff h7)) ?_
          obtain ⟨r9016, hr9016, hp⟩ := bind_some hp
          refine qx_rd' (rd_atarr' (m := 3) rfl rfl rfl rfl hr9016 Tryd.underlying24 info22) rfl rfl (wt_is' (wt_guard' rfl rfl rfl) (beq_ff h7)) ?_
          refine qx_rd' (rd_loadr' rfl (m := 3) (i := 1) (j := 0) rfl rfl (idxn_some hr9016).2 rfl rfl flat22) rfl rfl (wt_is' (wt_guard' rfl rfl rfl) (beq_ff h7)) ?_
          refine qx_rd' (rd_move' rfl) rfl rfl (wt_is' (wt_guard' rfl rfl rfl) (beq_ff h7)) ?_
          obtain ⟨r9017, hr9017, hp⟩ := bind_some hp
          refine qx_rd' (rd_atarr' (m := 0) rfl rfl rfl rfl hr9017 Tryd.underlying24 info22) rfl rfl (wt_is' (wt_guard' rfl rfl rfl) (beq_ff h7)) ?_
          refine qx_rd' (rd_loadr' rfl (m := 0) (i := 1) (j := 0) rfl rfl (idxn_some hr9017).2 rfl rfl flat22) rfl rfl (wt_is' (wt_guard' rfl rfl rfl) (beq_ff h7)) ?_
          refine qx_rd' (rd_move' rfl) rfl rfl (wt_is' (wt_guard' rfl rfl rfl) (beq_ff h7)) ?_
          obtain ⟨r9018, hr9018, hp⟩ := bind_some hp
          refine qx_rd' (rd_atarr' (m := 1) rfl rfl rfl rfl hr9018 Tryd.underlying24 info22) rfl rfl (wt_is' (wt_guard' rfl rfl rfl) (beq_ff h7)) ?_
          refine qx_rd' (rd_loadr' rfl (m := 1) (i := 1) (j := 0) rfl rfl (idxn_some hr9018).2 rfl rfl flat22) rfl rfl (wt_is' (wt_guard' rfl rfl rfl) (beq_ff h7)) ?_
          obtain ⟨r9019, hr9019, hp⟩ := bind_some hp
          refine qx_rd' (rd_bin' rfl rfl eg_flt (ru_fsub hr9019)) rfl rfl (wt_is' (wt_guard' rfl rfl rfl) (beq_ff h7)) ?_
          refine qx_rd' (rd_bin' rfl rfl eg_flt ru_fne) rfl rfl (wt_is' (wt_guard' rfl rfl rfl) (beq_ff h7)) ?_
          refine qx_rd' (rd_pick_false' rfl h7 rfl) rfl rfl (wt_none' rfl) ?_
          refine qx_end' ?_
          exact tq_pick' [0, 1, 2, 3, 4] (sub_cons rfl (sub_cons rfl (sub_cons rfl (sub_cons rfl (sub_cons rfl (sub_cons rfl (sub_cons rfl (sub_cons rfl (sub_cons rfl sub_nil))))))))) (by decide) (pick_cons rfl (pick_cons rfl (pick_cons rfl (pick_cons rfl (pick_cons rfl pick_nil))))) (hK23 (fne r9016 r9019) hp)
      ·intro K16 hK16
       rcases br_cases hp with ⟨h5, hp⟩ | ⟨h5, hp⟩
       ·refine qx_skip' rfl rfl (wt_is' (wt_guard' rfl rfl rfl) (beq_tf h5)) ?_
        refine qx_skip' rfl rfl (wt_is' (wt_guard' rfl rfl rfl) (beq_tf h5)) ?_
        refine qx_skip' rfl rfl (wt_is' (wt_guard' rfl rfl rfl) (beq_tf h5)) ?_
        refine qx_skip' rfl rfl (wt_is' (wt_guard' rfl rfl rfl) (beq_tf h5)) ?_
        refine qx_skip' rfl rfl (wt_is' (wt_guard' rfl rfl rfl) (beq_tf h5)) ?_
        refine qx_skip' rfl rfl (wt_is' (wt_guard' rfl rfl rfl) (beq_tf h5)) ?_
        refine qx_skip' rfl rfl (wt_is' (wt_guard' rfl rfl rfl) (beq_tf h5)) ?_
        refine qx_skip' rfl rfl (wt_is' (wt_guard' rfl rfl rfl) (beq_tf h5)) ?_
        refine qx_skip' rfl rfl (wt_is' (wt_guard' rfl rfl rfl) (beq_tf h5)) ?_
        refine qx_skip' rfl rfl (wt_is' (wt_guard' rfl rfl rfl) (beq_tf h5)) ?_
        refine qx_rd' (rd_pick_true' rfl h5 rfl) rfl rfl (wt_none' rfl) ?_
        refine qx_end' ?_
        exact tq_pick' [0, 1, 2, 3, 4] (sub_cons rfl (sub_cons rfl (sub_cons rfl (sub_cons rfl (sub_cons rfl (sub_cons rfl (sub_cons rfl (sub_cons rfl sub_nil)))))))) (by decide) (pick_cons rfl (pick_cons rfl (pick_cons rfl (pick_cons rfl (pick_cons rfl pick_nil))))) (hK16 true hp)
       ·refine qx_rd' (rd_move' rfl) rfl rfl (wt_is' (wt_guard' rfl rfl rfl) (beq_ff h5)) ?_
        obtain ⟨r909, hr909, hp⟩ := bind_some hp
        refine qx_rd' (rd_atarr' (m := 4) rfl rfl rfl rfl hr909 Tryd.underlying24 info22) rfl rfl (wt_is' (wt_guard' rfl rfl rfl) (beq_ff h5)) ?_
        refine qx_rd' (rd_loadr' rfl (m := 4) (i := 0) (j := 0) rfl rfl (idxn_some hr909).2 rfl rfl flat22) rfl rfl (wt_is' (wt_guard' rfl rfl rfl) (beq_ff h5)) ?_
        refine qx_rd' (rd_move' rfl) rfl rfl (wt_is' (wt_guard' rfl rfl rfl) (beq_ff h5)) ?_
        refine qx_rd' (rd_conv' rfl (ru_i2f (by rw [Tryd.underlying3]; rfl) Tryd.underlying22)) rfl rfl (wt_is' (wt_guard' rfl rfl rfl) (beq_ff h5)) ?_
        refine qx_rd' (rd_move' rfl) rfl rfl (wt_is' (wt_guard' rfl rfl rfl) (beq_ff h5)) ?_
        obtain ⟨r9010, hr9010, hp⟩ := bind_some hp
        refine qx_rd' (rd_atarr' (m := 0) rfl rfl rfl rfl hr9010 Tryd.underlying24 info22) rfl rfl (wt_is' (wt_guard' rfl rfl rfl) (beq_ff h5)) ?_
        refine qx_rd' (rd_loadr' rfl (m := 0) (i := 0) (j := 0) rfl rfl (idxn_some hr9010).2 rfl rfl flat22) rfl rfl (wt_is' (wt_guard' rfl rfl rfl) (beq_ff h5)) ?_
        obtain ⟨r9011, hr9011, hp⟩ := bind_some hp
        refine qx_rd' (rd_bin' rfl rfl eg_flt (ru_fmul hr9011)) rfl rfl (wt_is' (wt_guard' rfl rfl rfl) (beq_ff h5)) ?_
        refine qx_rd' (rd_bin' rfl rfl eg_flt ru_fne) rfl rfl (wt_is' (wt_guard' rfl rfl rfl) (beq_ff h5)) ?_
        refine qx_rd' (rd_pick_false' rfl h5 rfl) rfl rfl (wt_none' rfl) ?_
        refine qx_end' ?_
        exact tq_pick' [0, 1, 2, 3, 4] (sub_cons rfl (sub_cons rfl (sub_cons rfl (sub_cons rfl (sub_cons rfl (sub_cons rfl (sub_cons rfl (sub_cons rfl sub_nil)))))))) (by decide) (pick_cons rfl (pick_cons rfl (pick_cons rfl (pick_cons rfl (pick_cons rfl pick_nil))))) (hK16 (fne r909 r9011) hp)
     ·intro K15 hK15
      rcases br_cases hp with ⟨h4, hp⟩ | ⟨h4, hp⟩
      ·refine qx_skip' rfl rfl (wt_is' (wt_guard' rfl rfl rfl) (beq_tf h4)) ?_
       refine qx_skip' rfl rfl (wt_is' (wt_guard' rfl rfl rfl) (beq_tf h4)) ?_
       refine qx_skip' rfl rfl (wt_is' (wt_guard' rfl rfl rfl) (beq_tf h4)) ?_
       refine qx_skip' rfl rfl (wt_is' (wt_guard' rfl rfl rfl) (beq_tf h4)) ?_
       refine qx_skip' rfl rfl (wt_is' (wt_guard' rfl rfl rfl) (beq_tf h4)) ?_
       refine qx_skip' rfl rfl (wt_is' (wt_guard' rfl rfl rfl) (beq_tf h4)) ?_
       refine qx_skip' rfl rfl (wt_is' (wt_guard' rfl rfl rfl) (beq_tf h4)) ?_
       refine qx_skip' rfl rfl (wt_is' (wt_guard' rfl rfl rfl) (beq_tf h4)) ?_
       refine qx_skip' rfl rfl (wt_is' (wt_guard' rfl rfl rfl) (beq_tf h4)) ?_
       refine qx_skip' rfl rfl (wt_is' (wt_guard' rfl rfl rfl) (beq_tf h4)) ?_
       refine qx_skip' rfl rfl (wt_is' (wt_guard' rfl rfl rfl) (beq_tf h4)) ?_
       refine qx_rd' (rd_pick_true' rfl h4 rfl) rfl rfl (wt_none' rfl) ?_
       refine qx_end' ?_
       exact tq_pick' [0, 1, 2, 3, 4] (sub_cons rfl (sub_cons rfl (sub_cons rfl (sub_cons rfl (sub_cons rfl (sub_cons rfl (sub_cons rfl (sub_cons rfl (sub_cons rfl sub_nil))))))))) (by decide) (pick_cons rfl (pick_cons rfl (pick_cons rfl (pick_cons rfl (pick_cons rfl pick_nil))))) (hK15 true hp)
      ·refine qx_rd' (rd_move' rfl) rfl rfl (wt_is' (wt_guard' rfl rfl rfl) (beq_ff h4)) ?_
       obtain ⟨r905, hr905, hp⟩ := bind_some hp
       refine qx_rd' (rd_atarr' (m := 3) rfl rfl rfl rfl hr905 Tryd.underlying24 info22) rfl rfl (wt_is' (wt_guard' rfl rfl rfl) (beq_ff h4)) ?_
       refine qx_rd' (rd_loadr' rfl (m := 3) (i := 0) (j := 0) rfl rfl (idxn_some hr905).2 rfl rfl flat22) rfl rfl (wt_is' (wt_guard' rfl rfl rfl) (beq_ff h4)) ?_
       refine qx_rd' (rd_move' rfl) rfl rfl (wt_is' (wt_guard' rfl rfl rfl) (beq_ff h4)) ?_
       obtain ⟨r906, hr906, hp⟩ := bind_some hp
       refine qx_rd' (rd_atarr' (m := 0) rfl rfl rfl rfl hr906 Tryd.underlying24 info22) rfl rfl (wt_is' (wt_guard' rfl rfl rfl) (beq_ff h4)) ?_
       refine qx_rd' (rd_loadr' rfl (m := 0) (i := 0) (j := 0) rfl rfl (idxn_some hr906).2 rfl rfl flat22) rfl rfl (wt_is' (wt_guard' rfl rfl rfl) (beq_ff h4)) ?_
       refine qx_rd' (rd_move' rfl) rfl rfl (wt_is' (wt_guard' rfl rfl rfl) (beq_ff h4)) ?_
       obtain ⟨r907, hr907, hp⟩ := bind_some hp
       refine qx_rd' (rd_atarr' (m := 1) rfl rfl rfl rfl hr907 Tryd.underlying24 info22) rfl rfl (wt_is' (wt_guard' rfl rfl rfl) (beq_ff h4)) ?_
       refine qx_rd' (rd_loadr' rfl (m := 1) (i := 0) (j := 0) rfl rfl (idxn_some hr907).2 rfl rfl flat22) rfl rfl (wt_is' (wt_guard' rfl rfl rfl) (beq_ff h4)) ?_
       obtain ⟨r908, hr908, hp⟩ := bind_some hp
       refine qx_rd' (rd_bin' rfl rfl eg_flt (ru_fsub hr908)) rfl rfl (wt_is' (wt_guard' rfl rfl rfl) (beq_ff h4)) ?_
       refine qx_rd' (rd_bin' rfl rfl eg_flt ru_fne) rfl rfl (wt_is' (wt_guard' rfl rfl rfl) (beq_ff h4)) ?_
       refine qx_rd' (rd_pick_false' rfl h4 rfl) rfl rfl (wt_none' rfl) ?_
       refine qx_end' ?_
       exact tq_pick' [0, 1, 2, 3, 4] (sub_cons rfl (sub_cons rfl (sub_cons rfl (sub_cons rfl (sub_cons rfl (sub_cons rfl (sub_cons rfl (sub_cons rfl (sub_cons rfl sub_nil))))))))) (by decide) (pick_cons rfl (pick_cons rfl (pick_cons rfl (pick_cons rfl (pick_cons rfl pick_nil))))) (hK15 (fne r905 r908) hp)
    intro hN35
    refine ax_node (f' := 1) #[true, true, true, true, true, true, true, true, true, true, true, true, true, true, true, false] (fun (v35 : Addr × Addr × Addr × Addr × Addr) => (⟨74, [], [(2, (Vl (.int .i64 a2))), (3, (Vl (.pointer ((some v35.1, 9, 9)).1))), (4, (Vl (.pointer ((some v35.2.1, 9, 9)).1))), (7, (Vl (.pointer ((some v35.2.2.1, 9, 9)).1))), (8, (Vl (.pointer ((some v35.2.2.2.1, 9, 9)).1))), (9, (Vl (.pointer ((some v35.2.2.2.2, 9, 9)).1))), (33, (Ag [(Vg r33.1), (Vg r33.2.1), (Vg r33.2.2.1), (Vg r33.2.2.2.1), (Vg r33.2.2.2.2.1), (Vg r33.2.2.2.2.2.1), (Vg r33.2.2.2.2.2.2.1), (Vg r33.2.2.2.2.2.2.2.1), (Vg r33.2.2.2.2.2.2.2.2)]))], [(Rw Kf 24 (Vs (some v35.1, 9, 9)) ([a0_0, a0_1, a0_2, a0_3, a0_4, a0_5, a0_6, a0_7, a0_8])), (Rw Kf 24 (Vs (some v35.2.1, 9, 9)) ([a1_0, a1_1, a1_2, a1_3, a1_4, a1_5, a1_6, a1_7, a1_8])), (Rw Kf 24 (Vs (some v35.2.2.1, 9, 9)) ([r26.1, r26.2.1, r26.2.2.1, r26.2.2.2.1, r26.2.2.2.2.1, r26.2.2.2.2.2.1, r26.2.2.2.2.2.2.1, r26.2.2.2.2.2.2.2.1, r26.2.2.2.2.2.2.2.2])), (Rw Kf 24 (Vs (some v35.2.2.2.1, 9, 9)) ([r29.1, r29.2.1, r29.2.2.1, r29.2.2.2.1, r29.2.2.2.2.1, r29.2.2.2.2.2.1, r29.2.2.2.2.2.2.1, r29.2.2.2.2.2.2.2.1, r29.2.2.2.2.2.2.2.2])), (Rw Kf 24 (Vs (some v35.2.2.2.2, 9, 9)) ([0, 0, 0, 0, 0, 0, 0, 0, 0]))]⟩ : St)) ?_ ?_
    ·rintro ⟨q90116, q90117, q90118, q90119, q90120⟩
     refine ax_all (i := 15) (is := []) (by kernel_rfl) (all_cons ?_ all_nil)
     ·refine nx_ox (last := #[true, true, true, true, true, true, true, true, true, true, true, true, true, true, true, true]) rfl (ox_storearr' (K := Kf) (m := 4) (xs' := [r33.1, r33.2.1, r33.2.2.1, r33.2.2.2.1, r33.2.2.2.2.1, r33.2.2.2.2.2.1, r33.2.2.2.2.2.2.1, r33.2.2.2.2.2.2.2.1, r33.2.2.2.2.2.2.2.2]) rfl rfl (lv_ag _) rfl rfl rfl rfl rfl info24 rfl (H' := [(Rw Kf 24 (Vs (some q90116, 9, 9)) ([a0_0, a0_1, a0_2, a0_3, a0_4, a0_5, a0_6, a0_7, a0_8])), (Rw Kf 24 (Vs (some q90117, 9, 9)) ([a1_0, a1_1, a1_2, a1_3, a1_4, a1_5, a1_6, a1_7, a1_8])), (Rw Kf 24 (Vs (some q90118, 9, 9)) ([r26.1, r26.2.1, r26.2.2.1, r26.2.2.2.1, r26.2.2.2.2.1, r26.2.2.2.2.2.1, r26.2.2.2.2.2.2.1, r26.2.2.2.2.2.2.2.1, r26.2.2.2.2.2.2.2.2])), (Rw Kf 24 (Vs (some q90119, 9, 9)) ([r29.1, r29.2.1, r29.2.2.1, r29.2.2.2.1, r29.2.2.2.2.1, r29.2.2.2.2.2.1, r29.2.2.2.2.2.2.1, r29.2.2.2.2.2.2.2.1, r29.2.2.2.2.2.2.2.2])), (Rw Kf 24 (Vs (some q90120, 9, 9)) ([r33.1, r33.2.1, r33.2.2.1, r33.2.2.2.1, r33.2.2.2.2.1, r33.2.2.2.2.2.1, r33.2.2.2.2.2.2.1, r33.2.2.2.2.2.2.2.1, r33.2.2.2.2.2.2.2.2]))]) rfl) rfl bs_nil (wt_none' rfl) rfl fun _ => ?_
      exact tx_pick' [0, 1, 2, 3, 4] (sub_cons rfl (sub_cons rfl (sub_cons rfl (sub_cons rfl (sub_cons rfl (sub_cons rfl sub_nil)))))) (by decide) (pick_cons rfl (pick_cons rfl (pick_cons rfl (pick_cons rfl (pick_cons rfl pick_nil))))) (hN35 (q90116, q90117, q90118, q90119, q90120))
    intro hN34
    refine ax_node (f' := 2) #[true, true, true, true, true, true, true, true, true, true, true, true, true, true, false, false] (fun (v34 : Addr × Addr × Addr × Addr × Addr) => (⟨74, [], [(2, (Vl (.int .i64 a2))), (3, (Vl (.pointer ((some v34.1, 9, 9)).1))), (4, (Vl (.pointer ((some v34.2.1, 9, 9)).1))), (7, (Vl (.pointer ((some v34.2.2.1, 9, 9)).1))), (8, (Vl (.pointer ((some v34.2.2.2.1, 9, 9)).1))), (9, (Vl (.pointer ((some v34.2.2.2.2, 9, 9)).1))), (29, (Ag [(Vg r29.1), (Vg r29.2.1), (Vg r29.2.2.1), (Vg r29.2.2.2.1), (Vg r29.2.2.2.2.1), (Vg r29.2.2.2.2.2.1), (Vg r29.2.2.2.2.2.2.1), (Vg r29.2.2.2.2.2.2.2.1), (Vg r29.2.2.2.2.2.2.2.2)])), (33, (Ag [(Vg r33.1), (Vg r33.2.1), (Vg r33.2.2.1), (Vg r33.2.2.2.1), (Vg r33.2.2.2.2.1), (Vg r33.2.2.2.2.2.1), (Vg r33.2.2.2.2.2.2.1), (Vg r33.2.2.2.2.2.2.2.1), (Vg r33.2.2.2.2.2.2.2.2)]))], [(Rw Kf 24 (Vs (some v34.1, 9, 9)) ([a0_0, a0_1, a0_2, a0_3, a0_4, a0_5, a0_6, a0_7, a0_8])), (Rw Kf 24 (Vs (some v34.2.1, 9, 9)) ([a1_0, a1_1, a1_2, a1_3, a1_4, a1_5, a1_6, a1_7, a1_8])), (Rw Kf 24 (Vs (some v34.2.2.1, 9, 9)) ([r26.1, r26.2.1, r26.2.2.1, r26.2.2.2.1, r26.2.2.2.2.1, r26.2.2.2.2.2.1, r26.2.2.2.2.2.2.1, r26.2.2.2.2.2.2.2.1, r26.2.2.2.2.2.2.2.2])), (Rw Kf 24 (Vs (some v34.2.2.2.1, 9, 9)) ([0, 0, 0, 0, 0, 0, 0, 0, 0])), (Rw Kf 24 (Vs (some v34.2.2.2.2, 9, 9)) ([0, 0, 0, 0, 0, 0, 0, 0, 0]))]⟩ : St)) ?_ ?_
    ·rintro ⟨q90111, q90112, q90113, q90114, q90115⟩
     refine ax_all (i := 14) (is := []) (by kernel_rfl) (all_cons ?_ all_nil)
     ·refine nx_ox (last := #[true, true, true, true, true, true, true, true, true, true, true, true, true, true, true, false]) rfl (ox_storearr' (K := Kf) (m := 3) (xs' := [r29.1, r29.2.1, r29.2.2.1, r29.2.2.2.1, r29.2.2.2.2.1, r29.2.2.2.2.2.1, r29.2.2.2.2.2.2.1, r29.2.2.2.2.2.2.2.1, r29.2.2.2.2.2.2.2.2]) rfl rfl (lv_ag _) rfl rfl rfl rfl rfl info24 rfl (H' := [(Rw Kf 24 (Vs (some q90111, 9, 9)) ([a0_0, a0_1, a0_2, a0_3, a0_4, a0_5, a0_6, a0_7, a0_8])), (Rw Kf 24 (Vs (some q90112, 9, 9)) ([a1_0, a1_1, a1_2, a1_3, a1_4, a1_5, a1_6, a1_7, a1_8])), (Rw Kf 24 (Vs (some q90113, 9, 9)) ([r26.1, r26.2.1, r26.2.2.1, r26.2.2.2.1, r26.2.2.2.2.1, r26.2.2.2.2.2.1, r26.2.2.2.2.2.2.1, r26.2.2.2.2.2.2.2.1, r26.2.2.2.2.2.2.2.2])), (Rw Kf 24 (Vs (some q90114, 9, 9)) ([r29.1, r29.2.1, r29.2.2.1, r29.2.2.2.1, r29.2.2.2.2.1, r29.2.2.2.2.2.1, r29.2.2.2.2.2.2.1, r29.2.2.2.2.2.2.2.1, r29.2.2.2.2.2.2.2.2])), (Rw Kf 24 (Vs (some q90115, 9, 9)) ([0, 0, 0, 0, 0, 0, 0, 0, 0]))]) rfl) rfl bs_nil (wt_none' rfl) rfl fun _ => ?_
      exact tx_pick' [0, 1, 2, 3, 4] (sub_cons rfl (sub_cons rfl (sub_cons rfl (sub_cons rfl (sub_cons rfl (sub_cons rfl (sub_cons rfl sub_nil))))))) (by decide) (pick_cons rfl (pick_cons rfl (pick_cons rfl (pick_cons rfl (pick_cons rfl pick_nil))))) (hN34 (q90111, q90112, q90113, q90114, q90115))
    intro hN33
    refine ax_node (f' := 3) #[true, true, true, true, true, true, true, true, true, true, true, true, true, false, false, false] (fun (v33 : Addr × Addr × Addr × Addr × Addr) => (⟨74, [], [(2, (Vl (.int .i64 a2))), (3, (Vl (.pointer ((some v33.1, 9, 9)).1))), (4, (Vl (.pointer ((some v33.2.1, 9, 9)).1))), (7, (Vl (.pointer ((some v33.2.2.1, 9, 9)).1))), (8, (Vl (.pointer ((some v33.2.2.2.1, 9, 9)).1))), (9, (Vl (.pointer ((some v33.2.2.2.2, 9, 9)).1))), (26, (Ag [(Vg r26.1), (Vg r26.2.1), (Vg r26.2.2.1), (Vg r26.2.2.2.1), (Vg r26.2.2.2.2.1), (Vg r26.2.2.2.2.2.1), (Vg r26.2.2.2.2.2.2.1), (Vg r26.2.2.2.2.2.2.2.1), (Vg r26.2.2.2.2.2.2.2.2)])), (29, (Ag [(Vg r29.1), (Vg r29.2.1), (Vg r29.2.2.1), (Vg r29.2.2.2.1), (Vg r29.2.2.2.2.1), (Vg r29.2.2.2.2.2.1), (Vg r29.2.2.2.2.2.2.1), (Vg r29.2.2.2.2.2.2.2.1), (Vg r29.2.2.2.2.2.2.2.2)])), (33, (Ag [(Vg r33.1), (Vg r33.2.1), (Vg r33.2.2.1), (Vg r33.2.2.2.1), (Vg r33.2.2.2.2.1), (Vg r33.2.2.2.2.2.1), (Vg r33.2.2.2.2.2.2.1), (Vg r33.2.2.2.2.2.2.2.1), (Vg r33.2.2.2.2.2.2.2.2)]))], [(Rw Kf 24 (Vs (some v33.1, 9, 9)) ([a0_0, a0_1, a0_2, a0_3, a0_4, a0_5, a0_6, a0_7, a0_8])), (Rw Kf 24 (Vs (some v33.2.1, 9, 9)) ([a1_0, a1_1, a1_2, a1_3, a1_4, a1_5, a1_6, a1_7, a1_8])), (Rw Kf 24 (Vs (some v33.2.2.1, 9, 9)) ([0, 0, 0, 0, 0, 0, 0, 0, 0])), (Rw Kf 24 (Vs (some v33.2.2.2.1, 9, 9)) ([0, 0, 0, 0, 0, 0, 0, 0, 0])), (Rw Kf 24 (Vs (some v33.2.2.2.2, 9, 9)) ([0, 0, 0, 0, 0, 0, 0, 0, 0]))]⟩ : St)) ?_ ?_
    ·rintro ⟨q90106, q90107, q90108, q90109, q90110⟩
     refine ax_all (i := 13) (is := []) (by kernel_rfl) (all_cons ?_ all_nil)
     ·refine nx_ox (last := #[true, true, true, true, true, true, true, true, true, true, true, true, true, true, false, false]) rfl (ox_storearr' (K := Kf) (m := 2) (xs' := [r26.1, r26.2.1, r26.2.2.1, r26.2.2.2.1, r26.2.2.2.2.1, r26.2.2.2.2.2.1, r26.2.2.2.2.2.2.1, r26.2.2.2.2.2.2.2.1, r26.2.2.2.2.2.2.2.2]) rfl rfl (lv_ag _) rfl rfl rfl rfl rfl info24 rfl (H' := [(Rw Kf 24 (Vs (some q90106, 9, 9)) ([a0_0, a0_1, a0_2, a0_3, a0_4, a0_5, a0_6, a0_7, a0_8])), (Rw Kf 24 (Vs (some q90107, 9, 9)) ([a1_0, a1_1, a1_2, a1_3, a1_4, a1_5, a1_6, a1_7, a1_8])), (Rw Kf 24 (Vs (some q90108, 9, 9)) ([r26.1, r26.2.1, r26.2.2.1, r26.2.2.2.1, r26.2.2.2.2.1, r26.2.2.2.2.2.1, r26.2.2.2.2.2.2.1, r26.2.2.2.2.2.2.2.1, r26.2.2.2.2.2.2.2.2])), (Rw Kf 24 (Vs (some q90109, 9, 9)) ([0, 0, 0, 0, 0, 0, 0, 0, 0])), (Rw Kf 24 (Vs (some q90110, 9, 9)) ([0, 0, 0, 0, 0, 0, 0, 0, 0]))]) rfl) rfl bs_nil (wt_none' rfl) rfl fun _ => ?_
      exact tx_pick' [0, 1, 2, 3, 4] (sub_cons rfl (sub_cons rfl (sub_cons rfl (sub_cons rfl (sub_cons rfl (sub_cons rfl (sub_cons rfl (sub_cons rfl sub_nil)))))))) (by decide) (pick_cons rfl (pick_cons rfl (pick_cons rfl (pick_cons rfl (pick_cons rfl pick_nil))))) (hN33 (q90106, q90107, q90108, q90109, q90110))
    intro hN32
    refine ax_node (f' := 4) #[true, true, true, true, true, true, true, true, true, true, true, true, false, false, false, false] (fun (v29 : Addr × Addr × Addr × Addr) => (⟨74, [], [(2, (Vl (.int .i64 a2))), (3, (Vl (.pointer ((some v29.1, 9, 9)).1))), (4, (Vl (.pointer ((some v29.2.1, 9, 9)).1))), (7, (Vl (.pointer ((some v29.2.2.1, 9, 9)).1))), (8, (Vl (.pointer ((some v29.2.2.2, 9, 9)).1))), (26, (Ag [(Vg r26.1), (Vg r26.2.1), (Vg r26.2.2.1), (Vg r26.2.2.2.1), (Vg r26.2.2.2.2.1), (Vg r26.2.2.2.2.2.1), (Vg r26.2.2.2.2.2.2.1), (Vg r26.2.2.2.2.2.2.2.1), (Vg r26.2.2.2.2.2.2.2.2)])), (29, (Ag [(Vg r29.1), (Vg r29.2.1), (Vg r29.2.2.1), (Vg r29.2.2.2.1), (Vg r29.2.2.2.2.1), (Vg r29.2.2.2.2.2.1), (Vg r29.2.2.2.2.2.2.1), (Vg r29.2.2.2.2.2.2.2.1), (Vg r29.2.2.2.2.2.2.2.2)])), (33, (Ag [(Vg r33.1), (Vg r33.2.1), (Vg r33.2.2.1), (Vg r33.2.2.2.1), (Vg r33.2.2.2.2.1), (Vg r33.2.2.2.2.2.1), (Vg r33.2.2.2.2.2.2.1), (Vg r33.2.2.2.2.2.2.2.1), (Vg r33.2.2.2.2.2.2.2.2)]))], [(Rw Kf 24 (Vs (some v29.1, 9, 9)) ([a0_0, a0_1, a0_2, a0_3, a0_4, a0_5, a0_6, a0_7, a0_8])), (Rw Kf 24 (Vs (some v29.2.1, 9, 9)) ([a1_0, a1_1, a1_2, a1_3, a1_4, a1_5, a1_6, a1_7, a1_8])), (Rw Kf 24 (Vs (some v29.2.2.1, 9, 9)) ([0, 0, 0, 0, 0, 0, 0, 0, 0])), (Rw Kf 24 (Vs (some v29.2.2.2, 9, 9)) ([0, 0, 0, 0, 0, 0, 0, 0, 0]))]⟩ : St)) ?_ ?_
    ·rintro ⟨q9089, q9090, q9091, q9092⟩
     refine ax_all (i := 12) (is := []) (by kernel_rfl) (all_cons ?_ all_nil)
     ·refine nx_ox (last := #[true, true, true, true, true, true, true, true, true, true, true, true, true, false, false, false]) rfl (ox_alloc' info24 rfl rfl rfl rfl (l := [(Vg 0), (Vg 0), (Vg 0), (Vg 0), (Vg 0), (Vg 0), (Vg 0), (Vg 0), (Vg 0)]) rfl) rfl bs_nil (wt_none' rfl) rfl fun q9 => ?_
      refine tx_arr' (K := Kf) (xs := [0, 0, 0, 0, 0, 0, 0, 0, 0]) (m := 9) (i := 0) rfl rfl rfl (H' := [(Rw Kf 24 (Vs (some q9, 9, 9)) ([0, 0, 0, 0, 0, 0, 0, 0, 0])), (Rw Kf 24 (Vs (some q9089, 9, 9)) ([a0_0, a0_1, a0_2, a0_3, a0_4, a0_5, a0_6, a0_7, a0_8])), (Rw Kf 24 (Vs (some q9090, 9, 9)) ([a1_0, a1_1, a1_2, a1_3, a1_4, a1_5, a1_6, a1_7, a1_8])), (Rw Kf 24 (Vs (some q9091, 9, 9)) ([0, 0, 0, 0, 0, 0, 0, 0, 0])), (Rw Kf 24 (Vs (some q9092, 9, 9)) ([0, 0, 0, 0, 0, 0, 0, 0, 0]))]) rfl ?_
      exact tx_pick' [1, 2, 3, 4, 0] (sub_cons rfl (sub_cons rfl (sub_cons rfl (sub_cons rfl (sub_cons rfl (sub_cons rfl (sub_cons rfl (sub_cons rfl (sub_cons rfl sub_nil))))))))) (by decide) (pick_cons rfl (pick_cons rfl (pick_cons rfl (pick_cons rfl (pick_cons rfl pick_nil))))) (hN32 (q9089, q9090, q9091, q9092, q9))
    intro hN28
    refine ax_node (f' := 4) #[true, true, true, true, true, true, true, true, true, true, true, false, true, false, false, false] (fun (v30 : Addr × Addr × Addr × Addr) => (⟨74, [], [(2, (Vl (.int .i64 a2))), (3, (Vl (.pointer ((some v30.1, 9, 9)).1))), (4, (Vl (.pointer ((some v30.2.1, 9, 9)).1))), (7, (Vl (.pointer ((some v30.2.2.1, 9, 9)).1))), (9, (Vl (.pointer ((some v30.2.2.2, 9, 9)).1))), (26, (Ag [(Vg r26.1), (Vg r26.2.1), (Vg r26.2.2.1), (Vg r26.2.2.2.1), (Vg r26.2.2.2.2.1), (Vg r26.2.2.2.2.2.1), (Vg r26.2.2.2.2.2.2.1), (Vg r26.2.2.2.2.2.2.2.1), (Vg r26.2.2.2.2.2.2.2.2)])), (29, (Ag [(Vg r29.1), (Vg r29.2.1), (Vg r29.2.2.1), (Vg r29.2.2.2.1), (Vg r29.2.2.2.2.1), (Vg r29.2.2.2.2.2.1), (Vg r29.2.2.2.2.2.2.1), (Vg r29.2.2.2.2.2.2.2.1), (Vg r29.2.2.2.2.2.2.2.2)])), (33, (Ag [(Vg r33.1), (Vg r33.2.1), (Vg r33.2.2.1), (Vg r33.2.2.2.1), (Vg r33.2.2.2.2.1), (Vg r33.2.2.2.2.2.1), (Vg r33.2.2.2.2.2.2.1), (Vg r33.2.2.2.2.2.2.2.1), (Vg r33.2.2.2.2.2.2.2.2)]))], [(Rw Kf 24 (Vs (some v30.1, 9, 9)) ([a0_0, a0_1, a0_2, a0_3, a0_4, a0_5, a0_6, a0_7, a0_8])), (Rw Kf 24 (Vs (some v30.2.1, 9, 9)) ([a1_0, a1_1, a1_2, a1_3, a1_4, a1_5, a1_6, a1_7, a1_8])), (Rw Kf 24 (Vs (some v30.2.2.1, 9, 9)) ([0, 0, 0, 0, 0, 0, 0, 0, 0])), (Rw Kf 24 (Vs (some v30.2.2.2, 9, 9)) ([0, 0, 0, 0, 0, 0, 0, 0, 0]))]⟩ : St)) ?_ ?_
    ·rintro ⟨q9093, q9094, q9095, q9096⟩
     refine ax_all (i := 11) (is := []) (by kernel_rfl) (all_cons ?_ all_nil)
     ·refine nx_ox (last := #[true, true, true, true, true, true, true, true, true, true, true, true, true, false, false, false]) rfl (ox_alloc' info24 rfl rfl rfl rfl (l := [(Vg 0), (Vg 0), (Vg 0), (Vg 0), (Vg 0), (Vg 0), (Vg 0), (Vg 0), (Vg 0)]) rfl) rfl bs_nil (wt_none' rfl) rfl fun q8 => ?_
      refine tx_arr' (K := Kf) (xs := [0, 0, 0, 0, 0, 0, 0, 0, 0]) (m := 9) (i := 0) rfl rfl rfl (H' := [(Rw Kf 24 (Vs (some q8, 9, 9)) ([0, 0, 0, 0, 0, 0, 0, 0, 0])), (Rw Kf 24 (Vs (some q9093, 9, 9)) ([a0_0, a0_1, a0_2, a0_3, a0_4, a0_5, a0_6, a0_7, a0_8])), (Rw Kf 24 (Vs (some q9094, 9, 9)) ([a1_0, a1_1, a1_2, a1_3, a1_4, a1_5, a1_6, a1_7, a1_8])), (Rw Kf 24 (Vs (some q9095, 9, 9)) ([0, 0, 0, 0, 0, 0, 0, 0, 0])), (Rw Kf 24 (Vs (some q9096, 9, 9)) ([0, 0, 0, 0, 0, 0, 0, 0, 0]))]) rfl ?_
      exact tx_pick' [1, 2, 3, 0, 4] (sub_cons rfl (sub_cons rfl (sub_cons rfl (sub_cons rfl (sub_cons rfl (sub_cons rfl (sub_cons rfl (sub_cons rfl (sub_cons rfl sub_nil))))))))) (by decide) (pick_cons rfl (pick_cons rfl (pick_cons rfl (pick_cons rfl (pick_cons rfl pick_nil))))) (hN32 (q9093, q9094, q9095, q8, q9096))
    intro hN29
    refine ax_node (f' := 4) #[true, true, true, true, true, true, true, true, true, true, false, true, true, false, false, false] (fun (v31 : Addr × Addr × Addr × Addr) => (⟨74, [], [(2, (Vl (.int .i64 a2))), (3, (Vl (.pointer ((some v31.1, 9, 9)).1))), (4, (Vl (.pointer ((some v31.2.1, 9, 9)).1))), (8, (Vl (.pointer ((some v31.2.2.1, 9, 9)).1))), (9, (Vl (.pointer ((some v31.2.2.2, 9, 9)).1))), (26, (Ag [(Vg r26.1), (Vg r26.2.1), (Vg r26.2.2.1), (Vg r26.2.2.2.1), (Vg r26.2.2.2.2.1), (Vg r26.2.2.2.2.2.1), (Vg r26.2.2.2.2.2.2.1), (Vg r26.2.2.2.2.2.2.2.1), (Vg r26.2.2.2.2.2.2.2.2)])), (29, (Ag [(Vg r29.1), (Vg r29.2.1), (Vg r29.2.2.1), (Vg r29.2.2.2.1), (Vg r29.2.2.2.2.1), (Vg r29.2.2.2.2.2.1), (Vg r29.2.2.2.2.2.2.1), (Vg r29.2.2.2.2.2.2.2.1), (Vg r29.2.2.2.2.2.2.2.2)])), (33, (Ag [(Vg r33.1), (Vg r33.2.1), (Vg r33.2.2.1), (Vg r33.2.2.2.1), (Vg r33.2.2.2.2.1), (Vg r33.2.2.2.2.2.1), (Vg r33.2.2.2.2.2.2.1), (Vg r33.2.2.2.2.2.2.2.1), (Vg r33.2.2.2.2.2.2.2.2)]))], [(Rw Kf 24 (Vs (some v31.1, 9, 9)) ([a0_0, a0_1, a0_2, a0_3, a0_4, a0_5, a0_6, a0_7, a0_8])), (Rw Kf 24 (Vs (some v31.2.1, 9, 9)) ([a1_0, a1_1, a1_2, a1_3, a1_4, a1_5, a1_6, a1_7, a1_8])), (Rw Kf 24 (Vs (some v31.2.2.1, 9, 9)) ([0, 0, 0, 0, 0, 0, 0, 0, 0])), (Rw Kf 24 (Vs (some v31.2.2.2, 9, 9)) ([0, 0, 0, 0, 0, 0, 0, 0, 0]))]⟩ : St)) ?_ ?_
    ·rintro ⟨q9097, q9098, q9099, q90100⟩
     refine ax_all (i := 10) (is := []) (by kernel_rfl) (all_cons ?_ all_nil)
     ·refine nx_ox (last := #[true, true, true, true, true, true, true, true, true, true, true, true, true, false, false, false]) rfl (ox_alloc' info24 rfl rfl rfl rfl (l := [(Vg 0), (Vg 0), (Vg 0), (Vg 0), (Vg 0), (Vg 0), (Vg 0), (Vg 0), (Vg 0)]) rfl) rfl bs_nil (wt_none' rfl) rfl fun q7 => ?_
      refine tx_arr' (K := Kf) (xs := [0, 0, 0, 0, 0, 0, 0, 0, 0]) (m := 9) (i := 0) rfl rfl rfl (H' := [(Rw Kf 24 (Vs (some q7, 9, 9)) ([0, 0, 0, 0, 0, 0, 0, 0, 0])), (Rw Kf 24 (Vs (some q9097, 9, 9)) ([a0_0, a0_1, a0_2, a0_3, a0_4, a0_5, a0_6, a0_7, a0_8])), (Rw Kf 24 (Vs (some q9098, 9, 9)) ([a1_0, a1_1, a1_2, a1_3, a1_4, a1_5, a1_6, a1_7, a1_8])), (Rw Kf 24 (Vs (some q9099, 9, 9)) ([0, 0, 0, 0, 0, 0, 0, 0, 0])), (Rw Kf 24 (Vs (some q90100, 9, 9)) ([0, 0, 0, 0, 0, 0, 0, 0, 0]))]) rfl ?_
      exact tx_pick' [1, 2, 0, 3, 4] (sub_cons rfl (sub_cons rfl (sub_cons rfl (sub_cons rfl (sub_cons rfl (sub_cons rfl (sub_cons rfl (sub_cons rfl (sub_cons rfl sub_nil))))))))) (by decide) (pick_cons rfl (pick_cons rfl (pick_cons rfl (pick_cons rfl (pick_cons rfl pick_nil))))) (hN32 (q9097, q9098, q7, q9099, q90100))
    intro hN30
    refine ax_node (f' := 4) #[true, true, true, true, true, true, true, true, true, false, true, true, true, false, false, false] (fun (v32 : Addr × Addr × Addr × Addr × Addr) => (⟨74, [], [(2, (Vl (.int .i64 a2))), (3, (Vl (.pointer ((some v32.1, 9, 9)).1))), (4, (Vl (.pointer ((some v32.2.1, 9, 9)).1))), (7, (Vl (.pointer ((some v32.2.2.1, 9, 9)).1))), (8, (Vl (.pointer ((some v32.2.2.2.1, 9, 9)).1))), (9, (Vl (.pointer ((some v32.2.2.2.2, 9, 9)).1))), (26, (Ag [(Vg r26.1), (Vg r26.2.1), (Vg r26.2.2.1), (Vg r26.2.2.2.1), (Vg r26.2.2.2.2.1), (Vg r26.2.2.2.2.2.1), (Vg r26.2.2.2.2.2.2.1), (Vg r26.2.2.2.2.2.2.2.1), (Vg r26.2.2.2.2.2.2.2.2)])), (29, (Ag [(Vg r29.1), (Vg r29.2.1), (Vg r29.2.2.1), (Vg r29.2.2.2.1), (Vg r29.2.2.2.2.1), (Vg r29.2.2.2.2.2.1), (Vg r29.2.2.2.2.2.2.1), (Vg r29.2.2.2.2.2.2.2.1), (Vg r29.2.2.2.2.2.2.2.2)])), (31, (Vl (.float .f64 (i2f a2)))), (32, (Ag [(Vg r32.1), (Vg r32.2.1), (Vg r32.2.2.1), (Vg r32.2.2.2.1), (Vg r32.2.2.2.2.1), (Vg r32.2.2.2.2.2.1), (Vg r32.2.2.2.2.2.2.1), (Vg r32.2.2.2.2.2.2.2.1), (Vg r32.2.2.2.2.2.2.2.2)]))], [(Rw Kf 24 (Vs (some v32.1, 9, 9)) ([a0_0, a0_1, a0_2, a0_3, a0_4, a0_5, a0_6, a0_7, a0_8])), (Rw Kf 24 (Vs (some v32.2.1, 9, 9)) ([a1_0, a1_1, a1_2, a1_3, a1_4, a1_5, a1_6, a1_7, a1_8])), (Rw Kf 24 (Vs (some v32.2.2.1, 9, 9)) ([0, 0, 0, 0, 0, 0, 0, 0, 0])), (Rw Kf 24 (Vs (some v32.2.2.2.1, 9, 9)) ([0, 0, 0, 0, 0, 0, 0, 0, 0])), (Rw Kf 24 (Vs (some v32.2.2.2.2, 9, 9)) ([0, 0, 0, 0, 0, 0, 0, 0, 0]))]⟩ : St)) ?_ ?_
    ·rintro ⟨q90101, q90102, q90103, q90104, q90105⟩
     refine ax_all (i := 9) (is := []) (by kernel_rfl) (all_cons ?_ all_nil)
     ·refine nx_ox (last := #[true, true, true, true, true, true, true, true, true, true, true, true, true, false, false, false]) rfl (ox_calln' (ent_fn' Tryd.func12 isn12 rfl rfl) (impl_MatScale_sim _ _ _ _ _ _ _ _ _ _ hr33 : Go.Sx.Fn Tryd.prog 12 [(Vl (.float .f64 (i2f a2))), (Ag [(Vg r32.1), (Vg r32.2.1), (Vg r32.2.2.1), (Vg r32.2.2.2.1), (Vg r32.2.2.2.2.1), (Vg r32.2.2.2.2.2.1), (Vg r32.2.2.2.2.2.2.1), (Vg r32.2.2.2.2.2.2.2.1), (Vg r32.2.2.2.2.2.2.2.2)])] [] (fun x : Unit => (Ag [(Vg r33.1), (Vg r33.2.1), (Vg r33.2.2.1), (Vg r33.2.2.2.1), (Vg r33.2.2.2.2.1), (Vg r33.2.2.2.2.2.1), (Vg r33.2.2.2.2.2.2.1), (Vg r33.2.2.2.2.2.2.2.1), (Vg r33.2.2.2.2.2.2.2.2)])) (fun x => [])) (Hn := fun x : Unit => [(Rw Kf 24 (Vs (some q90101, 9, 9)) ([a0_0, a0_1, a0_2, a0_3, a0_4, a0_5, a0_6, a0_7, a0_8])), (Rw Kf 24 (Vs (some q90102, 9, 9)) ([a1_0, a1_1, a1_2, a1_3, a1_4, a1_5, a1_6, a1_7, a1_8])), (Rw Kf 24 (Vs (some q90103, 9, 9)) ([0, 0, 0, 0, 0, 0, 0, 0, 0])), (Rw Kf 24 (Vs (some q90104, 9, 9)) ([0, 0, 0, 0, 0, 0, 0, 0, 0])), (Rw Kf 24 (Vs (some q90105, 9, 9)) ([0, 0, 0, 0, 0, 0, 0, 0, 0]))]) (fun _ => rfl) rfl rfl) rfl bs_nil (wt_none' rfl) rfl fun ⟨⟩ => ?_
      exact tx_pick' [0, 1, 2, 3, 4] (sub_cons rfl (sub_cons rfl (sub_cons rfl (sub_cons rfl (sub_cons rfl (sub_cons rfl (sub_cons rfl (sub_cons rfl (sub_cons rfl sub_nil))))))))) (by decide) (pick_cons rfl (pick_cons rfl (pick_cons rfl (pick_cons rfl (pick_cons rfl pick_nil))))) (hN32 (q90101, q90102, q90103, q90104, q90105))
    intro hN31
    refine ax_node (f' := 5) #[true, true, true, true, true, true, true, true, true, true, true, false, false, false, false, false] (fun (v22 : Addr × Addr × Addr) => (⟨74, [], [(2, (Vl (.int .i64 a2))), (3, (Vl (.pointer ((some v22.1, 9, 9)).1))), (4, (Vl (.pointer ((some v22.2.1, 9, 9)).1))), (7, (Vl (.pointer ((some v22.2.2, 9, 9)).1))), (26, (Ag [(Vg r26.1), (Vg r26.2.1), (Vg r26.2.2.1), (Vg r26.2.2.2.1), (Vg r26.2.2.2.2.1), (Vg r26.2.2.2.2.2.1), (Vg r26.2.2.2.2.2.2.1), (Vg r26.2.2.2.2.2.2.2.1), (Vg r26.2.2.2.2.2.2.2.2)])), (29, (Ag [(Vg r29.1), (Vg r29.2.1), (Vg r29.2.2.1), (Vg r29.2.2.2.1), (Vg r29.2.2.2.2.1), (Vg r29.2.2.2.2.2.1), (Vg r29.2.2.2.2.2.2.1), (Vg r29.2.2.2.2.2.2.2.1), (Vg r29.2.2.2.2.2.2.2.2)])), (33, (Ag [(Vg r33.1), (Vg r33.2.1), (Vg r33.2.2.1), (Vg r33.2.2.2.1), (Vg r33.2.2.2.2.1), (Vg r33.2.2.2.2.2.1), (Vg r33.2.2.2.2.2.2.1), (Vg r33.2.2.2.2.2.2.2.1), (Vg r33.2.2.2.2.2.2.2.2)]))], [(Rw Kf 24 (Vs (some v22.1, 9, 9)) ([a0_0, a0_1, a0_2, a0_3, a0_4, a0_5, a0_6, a0_7, a0_8])), (Rw Kf 24 (Vs (some v22.2.1, 9, 9)) ([a1_0, a1_1, a1_2, a1_3, a1_4, a1_5, a1_6, a1_7, a1_8])), (Rw Kf 24 (Vs (some v22.2.2, 9, 9)) ([0, 0, 0, 0, 0, 0, 0, 0, 0]))]⟩ : St)) ?_ ?_
    ·rintro ⟨q9063, q9064, q9065⟩
     refine ax_all (i := 11) (is := [12]) (by kernel_rfl) (all_cons ?_ (all_cons ?_ all_nil))
     ·refine nx_ox (last := #[true, true, true, true, true, true, true, true, true, true, true, true, false, false, false, false]) rfl (ox_alloc' info24 rfl rfl rfl rfl (l := [(Vg 0), (Vg 0), (Vg 0), (Vg 0), (Vg 0), (Vg 0), (Vg 0), (Vg 0), (Vg 0)]) rfl) rfl bs_nil (wt_none' rfl) rfl fun q8 => ?_
      refine tx_arr' (K := Kf) (xs := [0, 0, 0, 0, 0, 0, 0, 0, 0]) (m := 9) (i := 0) rfl rfl rfl (H' := [(Rw Kf 24 (Vs (some q8, 9, 9)) ([0, 0, 0, 0, 0, 0, 0, 0, 0])), (Rw Kf 24 (Vs (some q9063, 9, 9)) ([a0_0, a0_1, a0_2, a0_3, a0_4, a0_5, a0_6, a0_7, a0_8])), (Rw Kf 24 (Vs (some q9064, 9, 9)) ([a1_0, a1_1, a1_2, a1_3, a1_4, a1_5, a1_6, a1_7, a1_8])), (Rw Kf 24 (Vs (some q9065, 9, 9)) ([0, 0, 0, 0, 0, 0, 0, 0, 0]))]) rfl ?_
      exact tx_pick' [1, 2, 3, 0] (sub_cons rfl (sub_cons rfl (sub_cons rfl (sub_cons rfl (sub_cons rfl (sub_cons rfl (sub_cons rfl (sub_cons rfl sub_nil)))))))) (by decide) (pick_cons rfl (pick_cons rfl (pick_cons rfl (pick_cons rfl pick_nil)))) (hN28 (q9063, q9064, q9065, q8))
     ·refine nx_ox (last := #[true, true, true, true, true, true, true, true, true, true, true, false, true, false, false, false]) rfl (ox_alloc' info24 rfl rfl rfl rfl (l := [(Vg 0), (Vg 0), (Vg 0), (Vg 0), (Vg 0), (Vg 0), (Vg 0), (Vg 0), (Vg 0)]) rfl) rfl bs_nil (wt_none' rfl) rfl fun q9 => ?_
      refine tx_arr' (K := Kf) (xs := [0, 0, 0, 0, 0, 0, 0, 0, 0]) (m := 9) (i := 0) rfl rfl rfl (H' := [(Rw Kf 24 (Vs (some q9, 9, 9)) ([0, 0, 0, 0, 0, 0, 0, 0, 0])), (Rw Kf 24 (Vs (some q9063, 9, 9)) ([a0_0, a0_1, a0_2, a0_3, a0_4, a0_5, a0_6, a0_7, a0_8])), (Rw Kf 24 (Vs (some q9064, 9, 9)) ([a1_0, a1_1, a1_2, a1_3, a1_4, a1_5, a1_6, a1_7, a1_8])), (Rw Kf 24 (Vs (some q9065, 9, 9)) ([0, 0, 0, 0, 0, 0, 0, 0, 0]))]) rfl ?_
      exact tx_pick' [1, 2, 3, 0] (sub_cons rfl (sub_cons rfl (sub_cons rfl (sub_cons rfl (sub_cons rfl (sub_cons rfl (sub_cons rfl (sub_cons rfl sub_nil)))))))) (by decide) (pick_cons rfl (pick_cons rfl (pick_cons rfl (pick_cons rfl pick_nil)))) (hN29 (q9063, q9064, q9065, q9))
    intro hN21
    refine ax_node (f' := 5) #[true, true, true, true, true, true, true, true, true, true, false, true, false, false, false, false] (fun (v23 : Addr × Addr × Addr) => (⟨74, [], [(2, (Vl (.int .i64 a2))), (3, (Vl (.pointer ((some v23.1, 9, 9)).1))), (4, (Vl (.pointer ((some v23.2.1, 9, 9)).1))), (8, (Vl (.pointer ((some v23.2.2, 9, 9)).1))), (26, (Ag [(Vg r26.1), (Vg r26.2.1), (Vg r26.2.2.1), (Vg r26.2.2.2.1), (Vg r26.2.2.2.2.1), (Vg r26.2.2.2.2.2.1), (Vg r26.2.2.2.2.2.2.1), (Vg r26.2.2.2.2.2.2.2.1), (Vg r26.2.2.2.2.2.2.2.2)])), (29, (Ag [(Vg r29.1), (Vg r29.2.1), (Vg r29.2.2.1), (Vg r29.2.2.2.1), (Vg r29.2.2.2.2.1), (Vg r29.2.2.2.2.2.1), (Vg r29.2.2.2.2.2.2.1), (Vg r29.2.2.2.2.2.2.2.1), (Vg r29.2.2.2.2.2.2.2.2)])), (33, (Ag [(Vg r33.1), (Vg r33.2.1), (Vg r33.2.2.1), (Vg r33.2.2.2.1), (Vg r33.2.2.2.2.1), (Vg r33.2.2.2.2.2.1), (Vg r33.2.2.2.2.2.2.1), (Vg r33.2.2.2.2.2.2.2.1), (Vg r33.2.2.2.2.2.2.2.2)]))], [(Rw Kf 24 (Vs (some v23.1, 9, 9)) ([a0_0, a0_1, a0_2, a0_3, a0_4, a0_5, a0_6, a0_7, a0_8])), (Rw Kf 24 (Vs (some v23.2.1, 9, 9)) ([a1_0, a1_1, a1_2, a1_3, a1_4, a1_5, a1_6, a1_7, a1_8])), (Rw Kf 24 (Vs (some v23.2.2, 9, 9)) ([0, 0, 0, 0, 0, 0, 0, 0, 0]))]⟩ : St)) ?_ ?_
    ·rintro ⟨q9066, q9067, q9068⟩
     refine ax_all (i := 10) (is := [12]) (by kernel_rfl) (all_cons ?_ (all_cons ?_ all_nil))
     ·refine nx_ox (last := #[true, true, true, true, true, true, true, true, true, true, true, true, false, false, false, false]) rfl (ox_alloc' info24 rfl rfl rfl rfl (l := [(Vg 0), (Vg 0), (Vg 0), (Vg 0), (Vg 0), (Vg 0), (Vg 0), (Vg 0), (Vg 0)]) rfl) rfl bs_nil (wt_none' rfl) rfl fun q7 => ?_
      refine tx_arr' (K := Kf) (xs := [0, 0, 0, 0, 0, 0, 0, 0, 0]) (m := 9) (i := 0) rfl rfl rfl (H' := [(Rw Kf 24 (Vs (some q7, 9, 9)) ([0, 0, 0, 0, 0, 0, 0, 0, 0])), (Rw Kf 24 (Vs (some q9066, 9, 9)) ([a0_0, a0_1, a0_2, a0_3, a0_4, a0_5, a0_6, a0_7, a0_8])), (Rw Kf 24 (Vs (some q9067, 9, 9)) ([a1_0, a1_1, a1_2, a1_3, a1_4, a1_5, a1_6, a1_7, a1_8])), (Rw Kf 24 (Vs (some q9068, 9, 9)) ([0, 0, 0, 0, 0, 0, 0, 0, 0]))]) rfl ?_
      exact tx_pick' [1, 2, 0, 3] (sub_cons rfl (sub_cons rfl (sub_cons rfl (sub_cons rfl (sub_cons rfl (sub_cons rfl (sub_cons rfl (sub_cons rfl sub_nil)))))))) (by decide) (pick_cons rfl (pick_cons rfl (pick_cons rfl (pick_cons rfl pick_nil)))) (hN28 (q9066, q9067, q7, q9068))
     ·refine nx_ox (last := #[true, true, true, true, true, true, true, true, true, true, false, true, true, false, false, false]) rfl (ox_alloc' info24 rfl rfl rfl rfl (l := [(Vg 0), (Vg 0), (Vg 0), (Vg 0), (Vg 0), (Vg 0), (Vg 0), (Vg 0), (Vg 0)]) rfl) rfl bs_nil (wt_none' rfl) rfl fun q9 => ?_
      refine tx_arr' (K := Kf) (xs := [0, 0, 0, 0, 0, 0, 0, 0, 0]) (m := 9) (i := 0) rfl rfl rfl (H' := [(Rw Kf 24 (Vs (some q9, 9, 9)) ([0, 0, 0, 0, 0, 0, 0, 0, 0])), (Rw Kf 24 (Vs (some q9066, 9, 9)) ([a0_0, a0_1, a0_2, a0_3, a0_4, a0_5, a0_6, a0_7, a0_8])), (Rw Kf 24 (Vs (some q9067, 9, 9)) ([a1_0, a1_1, a1_2, a1_3, a1_4, a1_5, a1_6, a1_7, a1_8])), (Rw Kf 24 (Vs (some q9068, 9, 9)) ([0, 0, 0, 0, 0, 0, 0, 0, 0]))]) rfl ?_
      exact tx_pick' [1, 2, 3, 0] (sub_cons rfl (sub_cons rfl (sub_cons rfl (sub_cons rfl (sub_cons rfl (sub_cons rfl (sub_cons rfl (sub_cons rfl sub_nil)))))))) (by decide) (pick_cons rfl (pick_cons rfl (pick_cons rfl (pick_cons rfl pick_nil)))) (hN30 (q9066, q9067, q9068, q9))
    intro hN22
    refine ax_node (f' := 5) #[true, true, true, true, true, true, true, true, true, true, false, false, true, false, false, false] (fun (v24 : Addr × Addr × Addr) => (⟨74, [], [(2, (Vl (.int .i64 a2))), (3, (Vl (.pointer ((some v24.1, 9, 9)).1))), (4, (Vl (.pointer ((some v24.2.1, 9, 9)).1))), (9, (Vl (.pointer ((some v24.2.2, 9, 9)).1))), (26, (Ag [(Vg r26.1), (Vg r26.2.1), (Vg r26.2.2.1), (Vg r26.2.2.2.1), (Vg r26.2.2.2.2.1), (Vg r26.2.2.2.2.2.1), (Vg r26.2.2.2.2.2.2.1), (Vg r26.2.2.2.2.2.2.2.1), (Vg r26.2.2.2.2.2.2.2.2)])), (29, (Ag [(Vg r29.1), (Vg r29.2.1), (Vg r29.2.2.1), (Vg r29.2.2.2.1), (Vg r29.2.2.2.2.1), (Vg r29.2.2.2.2.2.1), (Vg r29.2.2.2.2.2.2.1), (Vg r29.2.2.2.2.2.2.2.1), (Vg r29.2.2.2.2.2.2.2.2)])), (33, (Ag [(Vg r33.1), (Vg r33.2.1), (Vg r33.2.2.1), (Vg r33.2.2.2.1), (Vg r33.2.2.2.2.1), (Vg r33.2.2.2.2.2.1), (Vg r33.2.2.2.2.2.2.1), (Vg r33.2.2.2.2.2.2.2.1), (Vg r33.2.2.2.2.2.2.2.2)]))], [(Rw Kf 24 (Vs (some v24.1, 9, 9)) ([a0_0, a0_1, a0_2, a0_3, a0_4, a0_5, a0_6, a0_7, a0_8])), (Rw Kf 24 (Vs (some v24.2.1, 9, 9)) ([a1_0, a1_1, a1_2, a1_3, a1_4, a1_5, a1_6, a1_7, a1_8])), (Rw Kf 24 (Vs (some v24.2.2, 9, 9)) ([0, 0, 0, 0, 0, 0, 0, 0, 0]))]⟩ : St)) ?_ ?_
    ·rintro ⟨q9069, q9070, q9071⟩
     refine ax_all (i := 10) (is := [11]) (by kernel_rfl) (all_cons ?_ (all_cons ?_ all_nil))
     ·refine nx_ox (last := #[true, true, true, true, true, true, true, true, true, true, true, false, true, false, false, false]) rfl (ox_alloc' info24 rfl rfl rfl rfl (l := [(Vg 0), (Vg 0), (Vg 0), (Vg 0), (Vg 0), (Vg 0), (Vg 0), (Vg 0), (Vg 0)]) rfl) rfl bs_nil (wt_none' rfl) rfl fun q7 => ?_
      refine tx_arr' (K := Kf) (xs := [0, 0, 0, 0, 0, 0, 0, 0, 0]) (m := 9) (i := 0) rfl rfl rfl (H' := [(Rw Kf 24 (Vs (some q7, 9, 9)) ([0, 0, 0, 0, 0, 0, 0, 0, 0])), (Rw Kf 24 (Vs (some q9069, 9, 9)) ([a0_0, a0_1, a0_2, a0_3, a0_4, a0_5, a0_6, a0_7, a0_8])), (Rw Kf 24 (Vs (some q9070, 9, 9)) ([a1_0, a1_1, a1_2, a1_3, a1_4, a1_5, a1_6, a1_7, a1_8])), (Rw Kf 24 (Vs (some q9071, 9, 9)) ([0, 0, 0, 0, 0, 0, 0, 0, 0]))]) rfl ?_
      exact tx_pick' [1, 2, 0, 3] (sub_cons rfl (sub_cons rfl (sub_cons rfl (sub_cons rfl (sub_cons rfl (sub_cons rfl (sub_cons rfl (sub_cons rfl sub_nil)))))))) (by decide) (pick_cons rfl (pick_cons rfl (pick_cons rfl (pick_cons rfl pick_nil)))) (hN29 (q9069, q9070, q7, q9071))
     ·refine nx_ox (last := #[true, true, true, true, true, true, true, true, true, true, false, true, true, false, false, false]) rfl (ox_alloc' info24 rfl rfl rfl rfl (l := [(Vg 0), (Vg 0), (Vg 0), (Vg 0), (Vg 0), (Vg 0), (Vg 0), (Vg 0), (Vg 0)]) rfl) rfl bs_nil (wt_none' rfl) rfl fun q8 => ?_
      refine tx_arr' (K := Kf) (xs := [0, 0, 0, 0, 0, 0, 0, 0, 0]) (m := 9) (i := 0) rfl rfl rfl (H' := [(Rw Kf 24 (Vs (some q8, 9, 9)) ([0, 0, 0, 0, 0, 0, 0, 0, 0])), (Rw Kf 24 (Vs (some q9069, 9, 9)) ([a0_0, a0_1, a0_2, a0_3, a0_4, a0_5, a0_6, a0_7, a0_8])), (Rw Kf 24 (Vs (some q9070, 9, 9)) ([a1_0, a1_1, a1_2, a1_3, a1_4, a1_5, a1_6, a1_7, a1_8])), (Rw Kf 24 (Vs (some q9071, 9, 9)) ([0, 0, 0, 0, 0, 0, 0, 0, 0]))]) rfl ?_
      exact tx_pick' [1, 2, 0, 3] (sub_cons rfl (sub_cons rfl (sub_cons rfl (sub_cons rfl (sub_cons rfl (sub_cons rfl (sub_cons rfl (sub_cons rfl sub_nil)))))))) (by decide) (pick_cons rfl (pick_cons rfl (pick_cons rfl (pick_cons rfl pick_nil)))) (hN30 (q9069, q9070, q8, q9071))
    intro hN23
    refine ax_node (f' := 5) #[true, true, true, true, true, true, true, true, true, false, true, true, false, false, false, false] (fun (v25 : Addr × Addr × Addr × Addr) => (⟨74, [], [(2, (Vl (.int .i64 a2))), (3, (Vl (.pointer ((some v25.1, 9, 9)).1))), (4, (Vl (.pointer ((some v25.2.1, 9, 9)).1))), (7, (Vl (.pointer ((some v25.2.2.1, 9, 9)).1))), (8, (Vl (.pointer ((some v25.2.2.2, 9, 9)).1))), (26, (Ag [(Vg r26.1), (Vg r26.2.1), (Vg r26.2.2.1), (Vg r26.2.2.2.1), (Vg r26.2.2.2.2.1), (Vg r26.2.2.2.2.2.1), (Vg r26.2.2.2.2.2.2.1), (Vg r26.2.2.2.2.2.2.2.1), (Vg r26.2.2.2.2.2.2.2.2)])), (29, (Ag [(Vg r29.1), (Vg r29.2.1), (Vg r29.2.2.1), (Vg r29.2.2.2.1), (Vg r29.2.2.2.2.1), (Vg r29.2.2.2.2.2.1), (Vg r29.2.2.2.2.2.2.1), (Vg r29.2.2.2.2.2.2.2.1), (Vg r29.2.2.2.2.2.2.2.2)])), (31, (Vl (.float .f64 (i2f a2)))), (32, (Ag [(Vg r32.1), (Vg r32.2.1), (Vg r32.2.2.1), (Vg r32.2.2.2.1), (Vg r32.2.2.2.2.1), (Vg r32.2.2.2.2.2.1), (Vg r32.2.2.2.2.2.2.1), (Vg r32.2.2.2.2.2.2.2.1), (Vg r32.2.2.2.2.2.2.2.2)]))], [(Rw Kf 24 (Vs (some v25.1, 9, 9)) ([a0_0, a0_1, a0_2, a0_3, a0_4, a0_5, a0_6, a0_7, a0_8])), (Rw Kf 24 (Vs (some v25.2.1, 9, 9)) ([a1_0, a1_1, a1_2, a1_3, a1_4, a1_5, a1_6, a1_7, a1_8])), (Rw Kf 24 (Vs (some v25.2.2.1, 9, 9)) ([0, 0, 0, 0, 0, 0, 0, 0, 0])), (Rw Kf 24 (Vs (some v25.2.2.2, 9, 9)) ([0, 0, 0, 0, 0, 0, 0, 0, 0]))]⟩ : St)) ?_ ?_
    ·rintro ⟨q9072, q9073, q9074, q9075⟩
     refine ax_all (i := 9) (is := [12]) (by kernel_rfl) (all_cons ?_ (all_cons ?_ all_nil))
     ·refine nx_ox (last := #[true, true, true, true, true, true, true, true, true, true, true, true, false, false, false, false]) rfl (ox_calln' (ent_fn' Tryd.func12 isn12 rfl rfl) (impl_MatScale_sim _ _ _ _ _ _ _ _ _ _ hr33 : Go.Sx.Fn Tryd.prog 12 [(Vl (.float .f64 (i2f a2))), (Ag [(Vg r32.1), (Vg r32.2.1), (Vg r32.2.2.1), (Vg r32.2.2.2.1), (Vg r32.2.2.2.2.1), (Vg r32.2.2.2.2.2.1), (Vg r32.2.2.2.2.2.2.1), (Vg r32.2.2.2.2.2.2.2.1), (Vg r32.2.2.2.2.2.2.2.2)])] [] (fun x : Unit => (Ag [(Vg r33.1), (Vg r33.2.1), (Vg r33.2.2.1), (Vg r33.2.2.2.1), (Vg r33.2.2.2.2.1), (Vg r33.2.2.2.2.2.1), (Vg r33.2.2.2.2.2.2.1), (Vg r33.2.2.2.2.2.2.2.1), (Vg r33.2.2.2.2.2.2.2.2)])) (fun x => [])) (Hn := fun x : Unit => [(Rw Kf 24 (Vs (some q9072, 9, 9)) ([a0_0, a0_1, a0_2, a0_3, a0_4, a0_5, a0_6, a0_7, a0_8])), (Rw Kf 24 (Vs (some q9073, 9, 9)) ([a1_0, a1_1, a1_2, a1_3, a1_4, a1_5, a1_6, a1_7, a1_8])), (Rw Kf 24 (Vs (some q9074, 9, 9)) ([0, 0, 0, 0, 0, 0, 0, 0, 0])), (Rw Kf 24 (Vs (some q9075, 9, 9)) ([0, 0, 0, 0, 0, 0, 0, 0, 0]))]) (fun _ => rfl) rfl rfl) rfl bs_nil (wt_none' rfl) rfl fun ⟨⟩ => ?_
      exact tx_pick' [0, 1, 2, 3] (sub_cons rfl (sub_cons rfl (sub_cons rfl (sub_cons rfl (sub_cons rfl (sub_cons rfl (sub_cons rfl (sub_cons rfl sub_nil)))))))) (by decide) (pick_cons rfl (pick_cons rfl (pick_cons rfl (pick_cons rfl pick_nil)))) (hN28 (q9072, q9073, q9074, q9075))
     ·refine nx_ox (last := #[true, true, true, true, true, true, true, true, true, false, true, true, true, false, false, false]) rfl (ox_alloc' info24 rfl rfl rfl rfl (l := [(Vg 0), (Vg 0), (Vg 0), (Vg 0), (Vg 0), (Vg 0), (Vg 0), (Vg 0), (Vg 0)]) rfl) rfl bs_nil (wt_none' rfl) rfl fun q9 => ?_
      refine tx_arr' (K := Kf) (xs := [0, 0, 0, 0, 0, 0, 0, 0, 0]) (m := 9) (i := 0) rfl rfl rfl (H' := [(Rw Kf 24 (Vs (some q9, 9, 9)) ([0, 0, 0, 0, 0, 0, 0, 0, 0])), (Rw Kf 24 (Vs (some q9072, 9, 9)) ([a0_0, a0_1, a0_2, a0_3, a0_4, a0_5, a0_6, a0_7, a0_8])), (Rw Kf 24 (Vs (some q9073, 9, 9)) ([a1_0, a1_1, a1_2, a1_3, a1_4, a1_5, a1_6, a1_7, a1_8])), (Rw Kf 24 (Vs (some q9074, 9, 9)) ([0, 0, 0, 0, 0, 0, 0, 0, 0])), (Rw Kf 24 (Vs (some q9075, 9, 9)) ([0, 0, 0, 0, 0, 0, 0, 0, 0]))]) rfl ?_
      exact tx_pick' [1, 2, 3, 4, 0] (sub_cons rfl (sub_cons rfl (sub_cons rfl (sub_cons rfl (sub_cons rfl (sub_cons rfl (sub_cons rfl (sub_cons rfl (sub_cons rfl (sub_cons rfl sub_nil)))))))))) (by decide) (pick_cons rfl (pick_cons rfl (pick_cons rfl (pick_cons rfl (pick_cons rfl pick_nil))))) (hN31 (q9072, q9073, q9074, q9075, q9))
    intro hN24
    refine ax_node (f' := 5) #[true, true, true, true, true, true, true, true, true, false, true, false, true, false, false, false] (fun (v26 : Addr × Addr × Addr × Addr) => (⟨74, [], [(2, (Vl (.int .i64 a2))), (3, (Vl (.pointer ((some v26.1, 9, 9)).1))), (4, (Vl (.pointer ((some v26.2.1, 9, 9)).1))), (7, (Vl (.pointer ((some v26.2.2.1, 9, 9)).1))), (9, (Vl (.pointer ((some v26.2.2.2, 9, 9)).1))), (26, (Ag [(Vg r26.1), (Vg r26.2.1), (Vg r26.2.2.1), (Vg r26.2.2.2.1), (Vg r26.2.2.2.2.1), (Vg r26.2.2.2.2.2.1), (Vg r26.2.2.2.2.2.2.1), (Vg r26.2.2.2.2.2.2.2.1), (Vg r26.2.2.2.2.2.2.2.2)])), (29, (Ag [(Vg r29.1), (Vg r29.2.1), (Vg r29.2.2.1), (Vg r29.2.2.2.1), (Vg r29.2.2.2.2.1), (Vg r29.2.2.2.2.2.1), (Vg r29.2.2.2.2.2.2.1), (Vg r29.2.2.2.2.2.2.2.1), (Vg r29.2.2.2.2.2.2.2.2)])), (31, (Vl (.float .f64 (i2f a2)))), (32, (Ag [(Vg r32.1), (Vg r32.2.1), (Vg r32.2.2.1), (Vg r32.2.2.2.1), (Vg r32.2.2.2.2.1), (Vg r32.2.2.2.2.2.1), (Vg r32.2.2.2.2.2.2.1), (Vg r32.2.2.2.2.2.2.2.1), (Vg r32.2.2.2.2.2.2.2.2)]))], [(Rw Kf 24 (Vs (some v26.1, 9, 9)) ([a0_0, a0_1, a0_2, a0_3, a0_4, a0_5, a0_6, a0_7, a0_8])), (Rw Kf 24 (Vs (some v26.2.1, 9, 9)) ([a1_0, a1_1, a1_2, a1_3, a1_4, a1_5, a1_6, a1_7, a1_8])), (Rw Kf 24 (Vs (some v26.2.2.1, 9, 9)) ([0, 0, 0, 0, 0, 0, 0, 0, 0])), (Rw Kf 24 (Vs (some v26.2.2.2, 9, 9)) ([0, 0, 0, 0, 0, 0, 0, 0, 0]))]⟩ : St)) ?_ ?_
    ·rintro ⟨q9076, q9077, q9078, q9079⟩
     refine ax_all (i := 9) (is := [11]) (by kernel_rfl) (all_cons ?_ (all_cons ?_ all_nil))
     ·refine nx_ox (last := #[true, true, true, true, true, true, true, true, true, true, true, false, true, false, false, false]) rfl (ox_calln' (ent_fn' Tryd.func12 isn12 rfl rfl) (impl_MatScale_sim _ _ _ _ _ _ _ _ _ _ hr33 : Go.Sx.Fn Tryd.prog 12 [(Vl (.float .f64 (i2f a2))), (Ag [(Vg r32.1), (Vg r32.2.1), (Vg r32.2.2.1), (Vg r32.2.2.2.1), (Vg r32.2.2.2.2.1), (Vg r32.2.2.2.2.2.1), (Vg r32.2.2.2.2.2.2.1), (Vg r32.2.2.2.2.2.2.2.1), (Vg r32.2.2.2.2.2.2.2.2)])] [] (fun x : Unit => (Ag [(Vg r33.1), (Vg r33.2.1), (Vg r33.2.2.1), (Vg r33.2.2.2.1), (Vg r33.2.2.2.2.1), (Vg r33.2.2.2.2.2.1), (Vg r33.2.2.2.2.2.2.1), (Vg r33.2.2.2.2.2.2.2.1), (Vg r33.2.2.2.2.2.2.2.2)])) (fun x => [])) (Hn := fun x : Unit => [(Rw Kf 24 (Vs (some q9076, 9, 9)) ([a0_0, a0_1, a0_2, a0_3, a0_4, a0_5, a0_6, a0_7, a0_8])), (Rw Kf 24 (Vs (some q9077, 9, 9)) ([a1_0, a1_1, a1_2, a1_3, a1_4, a1_5, a1_6, a1_7, a1_8])), (Rw Kf 24 (Vs (some q9078, 9, 9)) ([0, 0, 0, 0, 0, 0, 0, 0, 0])), (Rw Kf 24 (Vs (some q9079, 9, 9)) ([0, 0, 0, 0, 0, 0, 0, 0, 0]))]) (fun _ => rfl) rfl rfl) rfl bs_nil (wt_none' rfl) rfl fun ⟨⟩ => ?_
      exact tx_pick' [0, 1, 2, 3] (sub_cons rfl (sub_cons rfl (sub_cons rfl (sub_cons rfl (sub_cons rfl (sub_cons rfl (sub_cons rfl (sub_cons rfl sub_nil)))))))) (by decide) (pick_cons rfl (pick_cons rfl (pick_cons rfl (pick_cons rfl pick_nil)))) (hN29 (q9076, q9077, q9078, q9079))
     ·refine nx_ox (last := #[true, true, true, true, true, true, true, true, true, false, true, true, true, false, false, false]) rfl (ox_alloc' info24 rfl rfl rfl rfl (l := [(Vg 0), (Vg 0), (Vg 0), (Vg 0), (Vg 0), (Vg 0), (Vg 0), (Vg 0), (Vg 0)]) rfl) rfl bs_nil (wt_none' rfl) rfl fun q8 => ?_
      refine tx_arr' (K := Kf) (xs := [0, 0, 0, 0, 0, 0, 0, 0, 0]) (m := 9) (i := 0) rfl rfl rfl (H' := [(Rw Kf 24 (Vs (some q8, 9, 9)) ([0, 0, 0, 0, 0, 0, 0, 0, 0])), (Rw Kf 24 (Vs (some q9076, 9, 9)) ([a0_0, a0_1, a0_2, a0_3, a0_4, a0_5, a0_6, a0_7, a0_8])), (Rw Kf 24 (Vs (some q9077, 9, 9)) ([a1_0, a1_1, a1_2, a1_3, a1_4, a1_5, a1_6, a1_7, a1_8])), (Rw Kf 24 (Vs (some q9078, 9, 9)) ([0, 0, 0, 0, 0, 0, 0, 0, 0])), (Rw Kf 24 (Vs (some q9079, 9, 9)) ([0, 0, 0, 0, 0, 0, 0, 0, 0]))]) rfl ?_
      exact tx_pick' [1, 2, 3, 0, 4] (sub_cons rfl (sub_cons rfl (sub_cons rfl (sub_cons rfl (sub_cons rfl (sub_cons rfl (sub_cons rfl (sub_cons rfl (sub_cons rfl (sub_cons rfl sub_nil)))))))))) (by decide) (pick_cons rfl (pick_cons rfl (pick_cons rfl (pick_cons rfl (pick_cons rfl pick_nil))))) (hN31 (q9076, q9077, q9078, q8, q9079))
    intro hN25
    refine ax_node (f' := 5) #[true, true, true, true, true, true, true, true, true, false, false, true, true, false, false, false] (fun (v27 : Addr × Addr × Addr × Addr) => (⟨74, [], [(2, (Vl (.int .i64 a2))), (3, (Vl (.pointer ((some v27.1, 9, 9)).1))), (4, (Vl (.pointer ((some v27.2.1, 9, 9)).1))), (8, (Vl (.pointer ((some v27.2.2.1, 9, 9)).1))), (9, (Vl (.pointer ((some v27.2.2.2, 9, 9)).1))), (26, (Ag [(Vg r26.1), (Vg r26.2.1), (Vg r26.2.2.1), (Vg r26.2.2.2.1), (Vg r26.2.2.2.2.1), (Vg r26.2.2.2.2.2.1), (Vg r26.2.2.2.2.2.2.1), (Vg r26.2.2.2.2.2.2.2.1), (Vg r26.2.2.2.2.2.2.2.2)])), (29, (Ag [(Vg r29.1), (Vg r29.2.1), (Vg r29.2.2.1), (Vg r29.2.2.2.1), (Vg r29.2.2.2.2.1), (Vg r29.2.2.2.2.2.1), (Vg r29.2.2.2.2.2.2.1), (Vg r29.2.2.2.2.2.2.2.1), (Vg r29.2.2.2.2.2.2.2.2)])), (31, (Vl (.float .f64 (i2f a2)))), (32, (Ag [(Vg r32.1), (Vg r32.2.1), (Vg r32.2.2.1), (Vg r32.2.2.2.1), (Vg r32.2.2.2.2.1), (Vg r32.2.2.2.2.2.1), (Vg r32.2.2.2.2.2.2.1), (Vg r32.2.2.2.2.2.2.2.1), (Vg r32.2.2.2.2.2.2.2.2)]))], [(Rw Kf 24 (Vs (some v27.1, 9, 9)) ([a0_0, a0_1, a0_2, a0_3, a0_4, a0_5, a0_6, a0_7, a0_8])), (Rw Kf 24 (Vs (some v27.2.1, 9, 9)) ([a1_0, a1_1, a1_2, a1_3, a1_4, a1_5, a1_6, a1_7, a1_8])), (Rw Kf 24 (Vs (some v27.2.2.1, 9, 9)) ([0, 0, 0, 0, 0, 0, 0, 0, 0])), (Rw Kf 24 (Vs (some v27.2.2.2, 9, 9)) ([0, 0, 0, 0, 0, 0, 0, 0, 0]))]⟩ : St)) ?_ ?_
    ·rintro ⟨q9080, q9081, q9082, q9083⟩
     refine ax_all (i := 9) (is := [10]) (by kernel_rfl) (all_cons ?_ (all_cons ?_ all_nil))
     ·refine nx_ox (last := #[true, true, true, true, true, true, true, true, true, true, false, true, true, false, false, false]) rfl (ox_calln' (ent_fn' Tryd.func12 isn12 rfl rfl) (impl_MatScale_sim _ _ _ _ _ _ _ _ _ _ hr33 : Go.Sx.Fn Tryd.prog 12 [(Vl (.float .f64 (i2f a2))), (Ag [(Vg r32.1), (Vg r32.2.1), (Vg r32.2.2.1), (Vg r32.2.2.2.1), (Vg r32.2.2.2.2.1), (Vg r32.2.2.2.2.2.1), (Vg r32.2.2.2.2.2.2.1), (Vg r32.2.2.2.2.2.2.2.1), (Vg r32.2.2.2.2.2.2.2.2)])] [] (fun x : Unit => (Ag [(Vg r33.1), (Vg r33.2.1), (Vg r33.2.2.1), (Vg r33.2.2.2.1), (Vg r33.2.2.2.2.1), (Vg r33.2.2.2.2.2.1), (Vg r33.2.2.2.2.2.2.1), (Vg r33.2.2.2.2.2.2.2.1), (Vg r33.2.2.2.2.2.2.2.2)])) (fun x => [])) (Hn := fun x : Unit => [(Rw Kf 24 (Vs (some q9080, 9, 9)) ([a0_0, a0_1, a0_2, a0_3, a0_4, a0_5, a0_6, a0_7, a0_8])), (Rw Kf 24 (Vs (some q9081, 9, 9)) ([a1_0, a1_1, a1_2, a1_3, a1_4, a1_5, a1_6, a1_7, a1_8])), (Rw Kf 24 (Vs (some q9082, 9, 9)) ([0, 0, 0, 0, 0, 0, 0, 0, 0])), (Rw Kf 24 (Vs (some q9083, 9, 9)) ([0, 0, 0, 0, 0, 0, 0, 0, 0]))]) (fun _ => rfl) rfl rfl) rfl bs_nil (wt_none' rfl) rfl fun ⟨⟩ => ?_
      exact tx_pick' [0, 1, 2, 3] (sub_cons rfl (sub_cons rfl (sub_cons rfl (sub_cons rfl (sub_cons rfl (sub_cons rfl (sub_cons rfl (sub_cons rfl sub_nil)))))))) (by decide) (pick_cons rfl (pick_cons rfl (pick_cons rfl (pick_cons rfl pick_nil)))) (hN30 (q9080, q9081, q9082, q9083))
     ·refine nx_ox (last := #[true, true, true, true, true, true, true, true, true, false, true, true, true, false, false, false]) rfl (ox_alloc' info24 rfl rfl rfl rfl (l := [(Vg 0), (Vg 0), (Vg 0), (Vg 0), (Vg 0), (Vg 0), (Vg 0), (Vg 0), (Vg 0)]) rfl) rfl bs_nil (wt_none' rfl) rfl fun q7 => ?_
      refine tx_arr' (K := Kf) (xs := [0, 0, 0, 0, 0, 0, 0, 0, 0]) (m := 9) (i := 0) rfl rfl rfl (H' := [(Rw Kf 24 (Vs (some q7, 9, 9)) ([0, 0, 0, 0, 0, 0, 0, 0, 0])), (Rw Kf 24 (Vs (some q9080, 9, 9)) ([a0_0, a0_1, a0_2, a0_3, a0_4, a0_5, a0_6, a0_7, a0_8])), (Rw Kf 24 (Vs (some q9081, 9, 9)) ([a1_0, a1_1, a1_2, a1_3, a1_4, a1_5, a1_6, a1_7, a1_8])), (Rw Kf 24 (Vs (some q9082, 9, 9)) ([0, 0, 0, 0, 0, 0, 0, 0, 0])), (Rw Kf 24 (Vs (some q9083, 9, 9)) ([0, 0, 0, 0, 0, 0, 0, 0, 0]))]) rfl ?_
      exact tx_pick' [1, 2, 0, 3, 4] (sub_cons rfl (sub_cons rfl (sub_cons rfl (sub_cons rfl (sub_cons rfl (sub_cons rfl (sub_cons rfl (sub_cons rfl (sub_cons rfl (sub_cons rfl sub_nil)))))))))) (by decide) (pick_cons rfl (pick_cons rfl (pick_cons rfl (pick_cons rfl (pick_cons rfl pick_nil))))) (hN31 (q9080, q9081, q7, q9082, q9083))
    intro hN26
    refine ax_node (f' := 5) #[true, true, true, true, true, false, true, true, true, false, true, true, true, false, false, false] (fun (v28 : Addr × Addr × Addr × Addr × Addr) => (⟨74, [], [(2, (Vl (.int .i64 a2))), (3, (Vl (.pointer ((some v28.1, 9, 9)).1))), (4, (Vl (.pointer ((some v28.2.1, 9, 9)).1))), (7, (Vl (.pointer ((some v28.2.2.1, 9, 9)).1))), (8, (Vl (.pointer ((some v28.2.2.2.1, 9, 9)).1))), (9, (Vl (.pointer ((some v28.2.2.2.2, 9, 9)).1))), (26, (Ag [(Vg r26.1), (Vg r26.2.1), (Vg r26.2.2.1), (Vg r26.2.2.2.1), (Vg r26.2.2.2.2.1), (Vg r26.2.2.2.2.2.1), (Vg r26.2.2.2.2.2.2.1), (Vg r26.2.2.2.2.2.2.2.1), (Vg r26.2.2.2.2.2.2.2.2)])), (27, (Ag [(Vg r27.1), (Vg r27.2.1), (Vg r27.2.2.1), (Vg r27.2.2.2.1), (Vg r27.2.2.2.2.1), (Vg r27.2.2.2.2.2.1), (Vg r27.2.2.2.2.2.2.1), (Vg r27.2.2.2.2.2.2.2.1), (Vg r27.2.2.2.2.2.2.2.2)])), (28, (Ag [(Vg r28.1), (Vg r28.2.1), (Vg r28.2.2.1), (Vg r28.2.2.2.1), (Vg r28.2.2.2.2.1), (Vg r28.2.2.2.2.2.1), (Vg r28.2.2.2.2.2.2.1), (Vg r28.2.2.2.2.2.2.2.1), (Vg r28.2.2.2.2.2.2.2.2)])), (31, (Vl (.float .f64 (i2f a2)))), (32, (Ag [(Vg r32.1), (Vg r32.2.1), (Vg r32.2.2.1), (Vg r32.2.2.2.1), (Vg r32.2.2.2.2.1), (Vg r32.2.2.2.2.2.1), (Vg r32.2.2.2.2.2.2.1), (Vg r32.2.2.2.2.2.2.2.1), (Vg r32.2.2.2.2.2.2.2.2)]))], [(Rw Kf 24 (Vs (some v28.1, 9, 9)) ([a0_0, a0_1, a0_2, a0_3, a0_4, a0_5, a0_6, a0_7, a0_8])), (Rw Kf 24 (Vs (some v28.2.1, 9, 9)) ([a1_0, a1_1, a1_2, a1_3, a1_4, a1_5, a1_6, a1_7, a1_8])), (Rw Kf 24 (Vs (some v28.2.2.1, 9, 9)) ([0, 0, 0, 0, 0, 0, 0, 0, 0])), (Rw Kf 24 (Vs (some v28.2.2.2.1, 9, 9)) ([0, 0, 0, 0, 0, 0, 0, 0, 0])), (Rw Kf 24 (Vs (some v28.2.2.2.2, 9, 9)) ([0, 0, 0, 0, 0, 0, 0, 0, 0]))]⟩ : St)) ?_ ?_
    ·rintro ⟨q9084, q9085, q9086, q9087, q9088⟩
     refine ax_all (i := 5) (is := []) (by kernel_rfl) (all_cons ?_ all_nil)
     ·refine nx_ox (last := #[true, true, true, true, true, true, true, true, true, false, true, true, true, false, false, false]) rfl (ox_calln' (ent_fn' Tryd.func11 isn11 rfl rfl) (impl_MatSub_sim _ _ _ _ _ _ _ _ _ _ _ _ _ _ _ _ _ _ hr29 : Go.Sx.Fn Tryd.prog 11 [(Ag [(Vg r27.1), (Vg r27.2.1), (Vg r27.2.2.1), (Vg r27.2.2.2.1), (Vg r27.2.2.2.2.1), (Vg r27.2.2.2.2.2.1), (Vg r27.2.2.2.2.2.2.1), (Vg r27.2.2.2.2.2.2.2.1), (Vg r27.2.2.2.2.2.2.2.2)]), (Ag [(Vg r28.1), (Vg r28.2.1), (Vg r28.2.2.1), (Vg r28.2.2.2.1), (Vg r28.2.2.2.2.1), (Vg r28.2.2.2.2.2.1), (Vg r28.2.2.2.2.2.2.1), (Vg r28.2.2.2.2.2.2.2.1), (Vg r28.2.2.2.2.2.2.2.2)])] [] (fun x : Unit => (Ag [(Vg r29.1), (Vg r29.2.1), (Vg r29.2.2.1), (Vg r29.2.2.2.1), (Vg r29.2.2.2.2.1), (Vg r29.2.2.2.2.2.1), (Vg r29.2.2.2.2.2.2.1), (Vg r29.2.2.2.2.2.2.2.1), (Vg r29.2.2.2.2.2.2.2.2)])) (fun x => [])) (Hn := fun x : Unit => [(Rw Kf 24 (Vs (some q9084, 9, 9)) ([a0_0, a0_1, a0_2, a0_3, a0_4, a0_5, a0_6, a0_7, a0_8])), (Rw Kf 24 (Vs (some q9085, 9, 9)) ([a1_0, a1_1, a1_2, a1_3, a1_4, a1_5, a1_6, a1_7, a1_8])), (Rw Kf 24 (Vs (some q9086, 9, 9)) ([0, 0, 0, 0, 0, 0, 0, 0, 0])), (Rw Kf 24 (Vs (some q9087, 9, 9)) ([0, 0, 0, 0, 0, 0, 0, 0, 0])), (Rw Kf 24 (Vs (some q9088, 9, 9)) ([0, 0, 0, 0, 0, 0, 0, 0, 0]))]) (fun _ => rfl) rfl rfl) rfl bs_nil (wt_none' rfl) rfl fun ⟨⟩ => ?_
      exact tx_pick' [0, 1, 2, 3, 4] (sub_cons rfl (sub_cons rfl (sub_cons rfl (sub_cons rfl (sub_cons rfl (sub_cons rfl (sub_cons rfl (sub_cons rfl (sub_cons rfl (sub_cons rfl sub_nil)))))))))) (by decide) (pick_cons rfl (pick_cons rfl (pick_cons rfl (pick_cons rfl (pick_cons rfl pick_nil))))) (hN31 (q9084, q9085, q9086, q9087, q9088))
    intro hN27
    refine ax_node (f' := 6) #[true, true, true, true, true, true, true, true, true, true, false, false, false, false, false, false] (fun (v14 : Addr × Addr) => (⟨74, [], [(2, (Vl (.int .i64 a2))), (3, (Vl (.pointer ((some v14.1, 9, 9)).1))), (4, (Vl (.pointer ((some v14.2, 9, 9)).1))), (26, (Ag [(Vg r26.1), (Vg r26.2.1), (Vg r26.2.2.1), (Vg r26.2.2.2.1), (Vg r26.2.2.2.2.1), (Vg r26.2.2.2.2.2.1), (Vg r26.2.2.2.2.2.2.1), (Vg r26.2.2.2.2.2.2.2.1), (Vg r26.2.2.2.2.2.2.2.2)])), (29, (Ag [(Vg r29.1), (Vg r29.2.1), (Vg r29.2.2.1), (Vg r29.2.2.2.1), (Vg r29.2.2.2.2.1), (Vg r29.2.2.2.2.2.1), (Vg r29.2.2.2.2.2.2.1), (Vg r29.2.2.2.2.2.2.2.1), (Vg r29.2.2.2.2.2.2.2.2)])), (33, (Ag [(Vg r33.1), (Vg r33.2.1), (Vg r33.2.2.1), (Vg r33.2.2.2.1), (Vg r33.2.2.2.2.1), (Vg r33.2.2.2.2.2.1), (Vg r33.2.2.2.2.2.2.1), (Vg r33.2.2.2.2.2.2.2.1), (Vg r33.2.2.2.2.2.2.2.2)]))], [(Rw Kf 24 (Vs (some v14.1, 9, 9)) ([a0_0, a0_1, a0_2, a0_3, a0_4, a0_5, a0_6, a0_7, a0_8])), (Rw Kf 24 (Vs (some v14.2, 9, 9)) ([a1_0, a1_1, a1_2, a1_3, a1_4, a1_5, a1_6, a1_7, a1_8]))]⟩ : St)) ?_ ?_
    ·rintro ⟨q9035, q9036⟩
     refine ax_all (i := 10) (is := [11, 12]) (by kernel_rfl) (all_cons ?_ (all_cons ?_ (all_cons ?_ all_nil)))
     ·refine nx_ox (last := #[true, true, true, true, true, true, true, true, true, true, true, false, false, false, false, false]) rfl (ox_alloc' info24 rfl rfl rfl rfl (l := [(Vg 0), (Vg 0), (Vg 0), (Vg 0), (Vg 0), (Vg 0), (Vg 0), (Vg 0), (Vg 0)]) rfl) rfl bs_nil (wt_none' rfl) rfl fun q7 => ?_
      refine tx_arr' (K := Kf) (xs := [0, 0, 0, 0, 0, 0, 0, 0, 0]) (m := 9) (i := 0) rfl rfl rfl (H' := [(Rw Kf 24 (Vs (some q7, 9, 9)) ([0, 0, 0, 0, 0, 0, 0, 0, 0])), (Rw Kf 24 (Vs (some q9035, 9, 9)) ([a0_0, a0_1, a0_2, a0_3, a0_4, a0_5, a0_6, a0_7, a0_8])), (Rw Kf 24 (Vs (some q9036, 9, 9)) ([a1_0, a1_1, a1_2, a1_3, a1_4, a1_5, a1_6, a1_7, a1_8]))]) rfl ?_
      exact tx_pick' [1, 2, 0] (sub_cons rfl (sub_cons rfl (sub_cons rfl (sub_cons rfl (sub_cons rfl (sub_cons rfl (sub_cons rfl sub_nil))))))) (by decide) (pick_cons rfl (pick_cons rfl (pick_cons rfl pick_nil))) (hN21 (q9035, q9036, q7))
     ·refine nx_ox (last := #[true, true, true, true, true, true, true, true, true, true, false, true, false, false, false, false]) rfl (ox_alloc' info24 rfl rfl rfl rfl (l := [(Vg 0), (Vg 0), (Vg 0), (Vg 0), (Vg 0), (Vg 0), (Vg 0), (Vg 0), (Vg 0)]) rfl) rfl bs_nil (wt_none' rfl) rfl fun q8 => ?_
      refine tx_arr' (K := Kf) (xs := [0, 0, 0, 0, 0, 0, 0, 0, 0]) (m := 9) (i := 0) rfl rfl rfl (H' := [(Rw Kf 24 (Vs (some q8, 9, 9)) ([0, 0, 0, 0, 0, 0, 0, 0, 0])), (Rw Kf 24 (Vs (some q9035, 9, 9)) ([a0_0, a0_1, a0_2, a0_3, a0_4, a0_5, a0_6, a0_7, a0_8])), (Rw Kf 24 (Vs (some q9036, 9, 9)) ([a1_0, a1_1, a1_2, a1_3, a1_4, a1_5, a1_6, a1_7, a1_8]))]) rfl ?_
      exact tx_pick' [1, 2, 0] (sub_cons rfl (sub_cons rfl (sub_cons rfl (sub_cons rfl (sub_cons rfl (sub_cons rfl (sub_cons rfl sub_nil))))))) (by decide) (pick_cons rfl (pick_cons rfl (pick_cons rfl pick_nil))) (hN22 (q9035, q9036, q8))
     ·refine nx_ox (last := #[true, true, true, true, true, true, true, true, true, true, false, false, true, false, false, false]) rfl (ox_alloc' info24 rfl rfl rfl rfl (l := [(Vg 0), (Vg 0), (Vg 0), (Vg 0), (Vg 0), (Vg 0), (Vg 0), (Vg 0), (Vg 0)]) rfl) rfl bs_nil (wt_none' rfl) rfl fun q9 => ?_
      refine tx_arr' (K := Kf) (xs := [0, 0, 0, 0, 0, 0, 0, 0, 0]) (m := 9) (i := 0) rfl rfl rfl (H' := [(Rw Kf 24 (Vs (some q9, 9, 9)) ([0, 0, 0, 0, 0, 0, 0, 0, 0])), (Rw Kf 24 (Vs (some q9035, 9, 9)) ([a0_0, a0_1, a0_2, a0_3, a0_4, a0_5, a0_6, a0_7, a0_8])), (Rw Kf 24 (Vs (some q9036, 9, 9)) ([a1_0, a1_1, a1_2, a1_3, a1_4, a1_5, a1_6, a1_7, a1_8]))]) rfl ?_
      exact tx_pick' [1, 2, 0] (sub_cons rfl (sub_cons rfl (sub_cons rfl (sub_cons rfl (sub_cons rfl (sub_cons rfl (sub_cons rfl sub_nil))))))) (by decide) (pick_cons rfl (pick_cons rfl (pick_cons rfl pick_nil))) (hN23 (q9035, q9036, q9))
    intro hN13
    refine ax_node (f' := 6) #[true, true, true, true, true, true, true, true, true, false, true, false, false, false, false, false] (fun (v15 : Addr × Addr × Addr) => (⟨74, [], [(2, (Vl (.int .i64 a2))), (3, (Vl (.pointer ((some v15.1, 9, 9)).1))), (4, (Vl (.pointer ((some v15.2.1, 9, 9)).1))), (7, (Vl (.pointer ((some v15.2.2, 9, 9)).1))), (26, (Ag [(Vg r26.1), (Vg r26.2.1), (Vg r26.2.2.1), (Vg r26.2.2.2.1), (Vg r26.2.2.2.2.1), (Vg r26.2.2.2.2.2.1), (Vg r26.2.2.2.2.2.2.1), (Vg r26.2.2.2.2.2.2.2.1), (Vg r26.2.2.2.2.2.2.2.2)])), (29, (Ag [(Vg r29.1), (Vg r29.2.1), (Vg r29.2.2.1), (Vg r29.2.2.2.1), (Vg r29.2.2.2.2.1), (Vg r29.2.2.2.2.2.1), (Vg r29.2.2.2.2.2.2.1), (Vg r29.2.2.2.2.2.2.2.1), (Vg r29.2.2.2.2.2.2.2.2)])), (31, (Vl (.float .f64 (i2f a2)))), (32, (Ag [(Vg r32.1), (Vg r32.2.1), (Vg r32.2.2.1), (Vg r32.2.2.2.1), (Vg r32.2.2.2.2.1), (Vg r32.2.2.2.2.2.1), (Vg r32.2.2.2.2.2.2.1), (Vg r32.2.2.2.2.2.2.2.1), (Vg r32.2.2.2.2.2.2.2.2)]))], [(Rw Kf 24 (Vs (some v15.1, 9, 9)) ([a0_0, a0_1, a0_2, a0_3, a0_4, a0_5, a0_6, a0_7, a0_8])), (Rw Kf 24 (Vs (some v15.2.1, 9, 9)) ([a1_0, a1_1, a1_2, a1_3, a1_4, a1_5, a1_6, a1_7, a1_8])), (Rw Kf 24 (Vs (some v15.2.2, 9, 9)) ([0, 0, 0, 0, 0, 0, 0, 0, 0]))]⟩ : St)) ?_ ?_
    ·rintro ⟨q9037, q9038, q9039⟩
     refine ax_all (i := 9) (is := [11, 12]) (by kernel_rfl) (all_cons ?_ (all_cons ?_ (all_cons ?_ all_nil)))
     ·refine nx_ox (last := #[true, true, true, true, true, true, true, true, true, true, true, false, false, false, false, false]) rfl (ox_calln' (ent_fn' Tryd.func12 isn12 rfl rfl) (impl_MatScale_sim _ _ _ _ _ _ _ _ _ _ hr33 : Go.Sx.Fn Tryd.prog 12 [(Vl (.float .f64 (i2f a2))), (Ag [(Vg r32.1), (Vg r32.2.1), (Vg r32.2.2.1), (Vg r32.2.2.2.1), (Vg r32.2.2.2.2.1), (Vg r32.2.2.2.2.2.1), (Vg r32.2.2.2.2.2.2.1), (Vg r32.2.2.2.2.2.2.2.1), (Vg r32.2.2.2.2.2.2.2.2)])] [] (fun x : Unit => (Ag [(Vg r33.1), (Vg r33.2.1), (Vg r33.2.2.1), (Vg r33.2.2.2.1), (Vg r33.2.2.2.2.1), (Vg r33.2.2.2.2.2.1), (Vg r33.2.2.2.2.2.2.1), (Vg r33.2.2.2.2.2.2.2.1), (Vg r33.2.2.2.2.2.2.2.2)])) (fun x => [])) (Hn := fun x : Unit => [(Rw Kf 24 (Vs (some q9037, 9, 9)) ([a0_0, a0_1, a0_2, a0_3, a0_4, a0_5, a0_6, a0_7, a0_8])), (Rw Kf 24 (Vs (some q9038, 9, 9)) ([a1_0, a1_1, a1_2, a1_3, a1_4, a1_5, a1_6, a1_7, a1_8])), (Rw Kf 24 (Vs (some q9039, 9, 9)) ([0, 0, 0, 0, 0, 0, 0, 0, 0]))]) (fun _ => rfl) rfl rfl) rfl bs_nil (wt_none' rfl) rfl fun ⟨⟩ => ?_
      exact tx_pick' [0, 1, 2] (sub_cons rfl (sub_cons rfl (sub_cons rfl (sub_cons rfl (sub_cons rfl (sub_cons rfl (sub_cons rfl sub_nil))))))) (by decide) (pick_cons rfl (pick_cons rfl (pick_cons rfl pick_nil))) (hN21 (q9037, q9038, q9039))
     ·refine nx_ox (last := #[true, true, true, true, true, true, true, true, true, false, true, true, false, false, false, false]) rfl (ox_alloc' info24 rfl rfl rfl rfl (l := [(Vg 0), (Vg 0), (Vg 0), (Vg 0), (Vg 0), (Vg 0), (Vg 0), (Vg 0), (Vg 0)]) rfl) rfl bs_nil (wt_none' rfl) rfl fun q8 => ?_
      refine tx_arr' (K := Kf) (xs := [0, 0, 0, 0, 0, 0, 0, 0, 0]) (m := 9) (i := 0) rfl rfl rfl (H' := [(Rw Kf 24 (Vs (some q8, 9, 9)) ([0, 0, 0, 0, 0, 0, 0, 0, 0])), (Rw Kf 24 (Vs (some q9037, 9, 9)) ([a0_0, a0_1, a0_2, a0_3, a0_4, a0_5, a0_6, a0_7, a0_8])), (Rw Kf 24 (Vs (some q9038, 9, 9)) ([a1_0, a1_1, a1_2, a1_3, a1_4, a1_5, a1_6, a1_7, a1_8])), (Rw Kf 24 (Vs (some q9039, 9, 9)) ([0, 0, 0, 0, 0, 0, 0, 0, 0]))]) rfl ?_
      exact tx_pick' [1, 2, 3, 0] (sub_cons rfl (sub_cons rfl (sub_cons rfl (sub_cons rfl (sub_cons rfl (sub_cons rfl (sub_cons rfl (sub_cons rfl (sub_cons rfl sub_nil))))))))) (by decide) (pick_cons rfl (pick_cons rfl (pick_cons rfl (pick_cons rfl pick_nil)))) (hN24 (q9037, q9038, q9039, q8))
     ·refine nx_ox (last := #[true, true, true, true, true, true, true, true, true, false, true, false, true, false, false, false]) rfl (ox_alloc' info24 rfl rfl rfl rfl (l := [(Vg 0), (Vg 0), (Vg 0), (Vg 0), (Vg 0), (Vg 0), (Vg 0), (Vg 0), (Vg 0)]) rfl) rfl bs_nil (wt_none' rfl) rfl fun q9 => ?_
      refine tx_arr' (K := Kf) (xs := [0, 0, 0, 0, 0, 0, 0, 0, 0]) (m := 9) (i := 0) rfl rfl rfl (H' := [(Rw Kf 24 (Vs (some q9, 9, 9)) ([0, 0, 0, 0, 0, 0, 0, 0, 0])), (Rw Kf 24 (Vs (some q9037, 9, 9)) ([a0_0, a0_1, a0_2, a0_3, a0_4, a0_5, a0_6, a0_7, a0_8])), (Rw Kf 24 (Vs (some q9038, 9, 9)) ([a1_0, a1_1, a1_2, a1_3, a1_4, a1_5, a1_6, a1_7, a1_8])), (Rw Kf 24 (Vs (some q9039, 9, 9)) ([0, 0, 0, 0, 0, 0, 0, 0, 0]))]) rfl ?_
      exact tx_pick' [1, 2, 3, 0] (sub_cons rfl (sub_cons rfl (sub_cons rfl (sub_cons rfl (sub_cons rfl (sub_cons rfl (sub_cons rfl (sub_cons rfl (sub_cons rfl sub_nil))))))))) (by decide) (pick_cons rfl (pick_cons rfl (pick_cons rfl (pick_cons rfl pick_nil)))) (hN25 (q9037, q9038, q9039, q9))
    intro hN14
    refine ax_node (f' := 6) #[true, true, true, true, true, true, true, true, true, false, false, true, false, false, false, false] (fun (v16 : Addr × Addr × Addr) => (⟨74, [], [(2, (Vl (.int .i64 a2))), (3, (Vl (.pointer ((some v16.1, 9, 9)).1))), (4, (Vl (.pointer ((some v16.2.1, 9, 9)).1))), (8, (Vl (.pointer ((some v16.2.2, 9, 9)).1))), (26, (Ag [(Vg r26.1), (Vg r26.2.1), (Vg r26.2.2.1), (Vg r26.2.2.2.1), (Vg r26.2.2.2.2.1), (Vg r26.2.2.2.2.2.1), (Vg r26.2.2.2.2.2.2.1), (Vg r26.2.2.2.2.2.2.2.1), (Vg r26.2.2.2.2.2.2.2.2)])), (29, (Ag [(Vg r29.1), (Vg r29.2.1), (Vg r29.2.2.1), (Vg r29.2.2.2.1), (Vg r29.2.2.2.2.1), (Vg r29.2.2.2.2.2.1), (Vg r29.2.2.2.2.2.2.1), (Vg r29.2.2.2.2.2.2.2.1), (Vg r29.2.2.2.2.2.2.2.2)])), (31, (Vl (.float .f64 (i2f a2)))), (32, (Ag [(Vg r32.1), (Vg r32.2.1), (Vg r32.2.2.1), (Vg r32.2.2.2.1), (Vg r32.2.2.2.2.1), (Vg r32.2.2.2.2.2.1), (Vg r32.2.2.2.2.2.2.1), (Vg r32.2.2.2.2.2.2.2.1), (Vg r32.2.2.2.2.2.2.2.2)]))], [(Rw Kf 24 (Vs (some v16.1, 9, 9)) ([a0_0, a0_1, a0_2, a0_3, a0_4, a0_5, a0_6, a0_7, a0_8])), (Rw Kf 24 (Vs (some v16.2.1, 9, 9)) ([a1_0, a1_1, a1_2, a1_3, a1_4, a1_5, a1_6, a1_7, a1_8])), (Rw Kf 24 (Vs (some v16.2.2, 9, 9)) ([0, 0, 0, 0, 0, 0, 0, 0, 0]))]⟩ : St)) ?_ ?_
    ·rintro ⟨q9040, q9041, q9042⟩
     refine ax_all (i := 9) (is := [10, 12]) (by kernel_rfl) (all_cons ?_ (all_cons ?_ (all_cons ?_ all_nil)))
     ·refine nx_ox (last := #[true, true, true, true, true, true, true, true, true, true, false, true, false, false, false, false]) rfl (ox_calln' (ent_fn' Tryd.func12 isn12 rfl rfl) (impl_MatScale_sim _ _ _ _ _ _ _ _ _ _ hr33 : Go.Sx.Fn Tryd.prog 12 [(Vl (.float .f64 (i2f a2))), (Ag [(Vg r32.1), (Vg r32.2.1), (Vg r32.2.2.1), (Vg r32.2.2.2.1), (Vg r32.2.2.2.2.1), (Vg r32.2.2.2.2.2.1), (Vg r32.2.2.2.2.2.2.1), (Vg r32.2.2.2.2.2.2.2.1), (Vg r32.2.2.2.2.2.2.2.2)])] [] (fun x : Unit => (Ag [(Vg r33.1), (Vg r33.2.1), (Vg r33.2.2.1), (Vg r33.2.2.2.1), (Vg r33.2.2.2.2.1), (Vg r33.2.2.2.2.2.1), (Vg r33.2.2.2.2.2.2.1), (Vg r33.2.2.2.2.2.2.2.1), (Vg r33.2.2.2.2.2.2.2.2)])) (fun x => [])) (Hn := fun x : Unit => [(Rw Kf 24 (Vs (some q9040, 9, 9)) ([a0_0, a0_1, a0_2, a0_3, a0_4, a0_5, a0_6, a0_7, a0_8])), (Rw Kf 24 (Vs (some q9041, 9, 9)) ([a1_0, a1_1, a1_2, a1_3, a1_4, a1_5, a1_6, a1_7, a1_8])), (Rw Kf 24 (Vs (some q9042, 9, 9)) ([0, 0, 0, 0, 0, 0, 0, 0, 0]))]) (fun _ => rfl) rfl rfl) rfl bs_nil (wt_none' rfl) rfl fun ⟨⟩ => ?_
      exact tx_pick' [0, 1, 2] (sub_cons rfl (sub_cons rfl (sub_cons rfl (sub_cons rfl (sub_cons rfl (sub_cons rfl (sub_cons rfl sub_nil))))))) (by decide) (pick_cons rfl (pick_cons rfl (pick_cons rfl pick_nil))) (hN22 (q9040, q9041, q9042))
     ·refine nx_ox (last := #[true, true, true, true, true, true, true, true, true, false, true, true, false, false, false, false]) rfl (ox_alloc' info24 rfl rfl rfl rfl (l := [(Vg 0), (Vg 0), (Vg 0), (Vg 0), (Vg 0), (Vg 0), (Vg 0), (Vg 0), (Vg 0)]) rfl) rfl bs_nil (wt_none' rfl) rfl fun q7 => ?_
      refine tx_arr' (K := Kf) (xs := [0, 0, 0, 0, 0, 0, 0, 0, 0]) (m := 9) (i := 0) rfl rfl rfl (H' := [(Rw Kf 24 (Vs (some q7, 9, 9)) ([0, 0, 0, 0, 0, 0, 0, 0, 0])), (Rw Kf 24 (Vs (some q9040, 9, 9)) ([a0_0, a0_1, a0_2, a0_3, a0_4, a0_5, a0_6, a0_7, a0_8])), (Rw Kf 24 (Vs (some q9041, 9, 9)) ([a1_0, a1_1, a1_2, a1_3, a1_4, a1_5, a1_6, a1_7, a1_8])), (Rw Kf 24 (Vs (some q9042, 9, 9)) ([0, 0, 0, 0, 0, 0, 0, 0, 0]))]) rfl ?_
      exact tx_pick' [1, 2, 0, 3] (sub_cons rfl (sub_cons rfl (sub_cons rfl (sub_cons rfl (sub_cons rfl (sub_cons rfl (sub_cons rfl (sub_cons rfl (sub_cons rfl sub_nil))))))))) (by decide) (pick_cons rfl (pick_cons rfl (pick_cons rfl (pick_cons rfl pick_nil)))) (hN24 (q9040, q9041, q7, q9042))
     ·refine nx_ox (last := #[true, true, true, true, true, true, true, true, true, false, false, true, true, false, false, false]) rfl (ox_alloc' info24 rfl rfl rfl rfl (l := [(Vg 0), (Vg 0), (Vg 0), (Vg 0), (Vg 0), (Vg 0), (Vg 0), (Vg 0), (Vg 0)]) rfl) rfl bs_nil (wt_none' rfl) rfl fun q9 => ?_
      refine tx_arr' (K := Kf) (xs := [0, 0, 0, 0, 0, 0, 0, 0, 0]) (m := 9) (i := 0) rfl rfl rfl (H' := [(Rw Kf 24 (Vs (some q9, 9, 9)) ([0, 0, 0, 0, 0, 0, 0, 0, 0])), (Rw Kf 24 (Vs (some q9040, 9, 9)) ([a0_0, a0_1, a0_2, a0_3, a0_4, a0_5, a0_6, a0_7, a0_8])), (Rw Kf 24 (Vs (some q9041, 9, 9)) ([a1_0, a1_1, a1_2, a1_3, a1_4, a1_5, a1_6, a1_7, a1_8])), (Rw Kf 24 (Vs (some q9042, 9, 9)) ([0, 0, 0, 0, 0, 0, 0, 0, 0]))]) rfl ?_
      exact tx_pick' [1, 2, 3, 0] (sub_cons rfl (sub_cons rfl (sub_cons rfl (sub_cons rfl (sub_cons rfl (sub_cons rfl (sub_cons rfl (sub_cons rfl (sub_cons rfl sub_nil))))))))) (by decide) (pick_cons rfl (pick_cons rfl (pick_cons rfl (pick_cons rfl pick_nil)))) (hN26 (q9040, q9041, q9042, q9))
    intro hN15
    refine ax_node (f' := 6) #[true, true, true, true, true, true, true, true, true, false, false, false, true, false, false, false] (fun (v17 : Addr × Addr × Addr) => (⟨74, [], [(2, (Vl (.int .i64 a2))), (3, (Vl (.pointer ((some v17.1, 9, 9)).1))), (4, (Vl (.pointer ((some v17.2.1, 9, 9)).1))), (9, (Vl (.pointer ((some v17.2.2, 9, 9)).1))), (26, (Ag [(Vg r26.1), (Vg r26.2.1), (Vg r26.2.2.1), (Vg r26.2.2.2.1), (Vg r26.2.2.2.2.1), (Vg r26.2.2.2.2.2.1), (Vg r26.2.2.2.2.2.2.1), (Vg r26.2.2.2.2.2.2.2.1), (Vg r26.2.2.2.2.2.2.2.2)])), (29, (Ag [(Vg r29.1), (Vg r29.2.1), (Vg r29.2.2.1), (Vg r29.2.2.2.1), (Vg r29.2.2.2.2.1), (Vg r29.2.2.2.2.2.1), (Vg r29.2.2.2.2.2.2.1), (Vg r29.2.2.2.2.2.2.2.1), (Vg r29.2.2.2.2.2.2.2.2)])), (31, (Vl (.float .f64 (i2f a2)))), (32, (Ag [(Vg r32.1), (Vg r32.2.1), (Vg r32.2.2.1), (Vg r32.2.2.2.1), (Vg r32.2.2.2.2.1), (Vg r32.2.2.2.2.2.1), (Vg r32.2.2.2.2.2.2.1), (Vg r32.2.2.2.2.2.2.2.1), (Vg r32.2.2.2.2.2.2.2.2)]))], [(Rw Kf 24 (Vs (some v17.1, 9, 9)) ([a0_0, a0_1, a0_2, a0_3, a0_4, a0_5, a0_6, a0_7, a0_8])), (Rw Kf 24 (Vs (some v17.2.1, 9, 9)) ([a1_0, a1_1, a1_2, a1_3, a1_4, a1_5, a1_6, a1_7, a1_8])), (Rw Kf 24 (Vs (some v17.2.2, 9, 9)) ([0, 0, 0, 0, 0, 0, 0, 0, 0]))]⟩ : St)) ?_ ?_
    ·rintro ⟨q9043, q9044, q9045⟩
     refine ax_all (i := 9) (is := [10, 11]) (by kernel_rfl) (all_cons ?_ (all_cons ?_ (all_cons ?_ all_nil)))
     ·refine nx_ox (last := #[true, true, true, true, true, true, true, true, true, true, false, false, true, false, false, false]) rfl (ox_calln' (ent_fn' Tryd.func12 isn12 rfl rfl) (impl_MatScale_sim _ _ _ _ _ _ _ _ _ _ hr33 : Go.Sx.Fn Tryd.prog 12 [(Vl (.float .f64 (i2f a2))), (Ag [(Vg r32.1), (Vg r32.2.1), (Vg r32.2.2.1), (Vg r32.2.2.2.1), (Vg r32.2.2.2.2.1), (Vg r32.2.2.2.2.2.1), (Vg r32.2.2.2.2.2.2.1), (Vg r32.2.2.2.2.2.2.2.1), (Vg r32.2.2.2.2.2.2.2.2)])] [] (fun x : Unit => (Ag [(Vg r33.1), (Vg r33.2.1), (Vg r33.2.2.1), (Vg r33.2.2.2.1), (Vg r33.2.2.2.2.1), (Vg r33.2.2.2.2.2.1), (Vg r33.2.2.2.2.2.2.1), (Vg r33.2.2.2.2.2.2.2.1), (Vg r33.2.2.2.2.2.2.2.2)])) (fun x => [])) (Hn := fun x : Unit => [(Rw Kf 24 (Vs (some q9043, 9, 9)) ([a0_0, a0_1, a0_2, a0_3, a0_4, a0_5, a0_6, a0_7, a0_8])), (Rw Kf 24 (Vs (some q9044, 9, 9)) ([a1_0, a1_1, a1_2, a1_3, a1_4, a1_5, a1_6, a1_7, a1_8])), (Rw Kf 24 (Vs (some q9045, 9, 9)) ([0, 0, 0, 0, 0, 0, 0, 0, 0]))]) (fun _ => rfl) rfl rfl) rfl bs_nil (wt_none' rfl) rfl fun ⟨⟩ => ?_
      exact tx_pick' [0, 1, 2] (sub_cons rfl (sub_cons rfl (sub_cons rfl (sub_cons rfl (sub_cons rfl (sub_cons rfl (sub_cons rfl sub_nil))))))) (by decide) (pick_cons rfl (pick_cons rfl (pick_cons rfl pick_nil))) (hN23 (q9043, q9044, q9045))
     ·refine nx_ox (last := #[true, true, true, true, true, true, true, true, true, false, true, false, true, false, false, false]) rfl (ox_alloc' info24 rfl rfl rfl rfl (l := [(Vg 0), (Vg 0), (Vg 0), (Vg 0), (Vg 0), (Vg 0), (Vg 0), (Vg 0), (Vg 0)]) rfl) rfl bs_nil (wt_none' rfl) rfl fun q7 => ?_
      refine tx_arr' (K := Kf) (xs := [0, 0, 0, 0, 0, 0, 0, 0, 0]) (m := 9) (i := 0) rfl rfl rfl (H' := [(Rw Kf 24 (Vs (some q7, 9, 9)) ([0, 0, 0, 0, 0, 0, 0, 0, 0])), (Rw Kf 24 (Vs (some q9043, 9, 9)) ([a0_0, a0_1, a0_2, a0_3, a0_4, a0_5, a0_6, a0_7, a0_8])), (Rw Kf 24 (Vs (some q9044, 9, 9)) ([a1_0, a1_1, a1_2, a1_3, a1_4, a1_5, a1_6, a1_7, a1_8])), (Rw Kf 24 (Vs (some q9045, 9, 9)) ([0, 0, 0, 0, 0, 0, 0, 0, 0]))]) rfl ?_
      exact tx_pick' [1, 2, 0, 3] (sub_cons rfl (sub_cons rfl (sub_cons rfl (sub_cons rfl (sub_cons rfl (sub_cons rfl (sub_cons rfl (sub_cons rfl (sub_cons rfl sub_nil))))))))) (by decide) (pick_cons rfl (pick_cons rfl (pick_cons rfl (pick_cons rfl pick_nil)))) (hN25 (q9043, q9044, q7, q9045))
     ·refine nx_ox (last := #[true, true, true, true, true, true, true, true, true, false, false, true, true, false, false, false]) rfl (ox_alloc' info24 rfl rfl rfl rfl (l := [(Vg 0), (Vg 0), (Vg 0), (Vg 0), (Vg 0), (Vg 0), (Vg 0), (Vg 0), (Vg 0)]) rfl) rfl bs_nil (wt_none' rfl) rfl fun q8 => ?_
      refine tx_arr' (K := Kf) (xs := [0, 0, 0, 0, 0, 0, 0, 0, 0]) (m := 9) (i := 0) rfl rfl rfl (H' := [(Rw Kf 24 (Vs (some q8, 9, 9)) ([0, 0, 0, 0, 0, 0, 0, 0, 0])), (Rw Kf 24 (Vs (some q9043, 9, 9)) ([a0_0, a0_1, a0_2, a0_3, a0_4, a0_5, a0_6, a0_7, a0_8])), (Rw Kf 24 (Vs (some q9044, 9, 9)) ([a1_0, a1_1, a1_2, a1_3, a1_4, a1_5, a1_6, a1_7, a1_8])), (Rw Kf 24 (Vs (some q9045, 9, 9)) ([0, 0, 0, 0, 0, 0, 0, 0, 0]))]) rfl ?_
      exact tx_pick' [1, 2, 0, 3] (sub_cons rfl (sub_cons rfl (sub_cons rfl (sub_cons rfl (sub_cons rfl (sub_cons rfl (sub_cons rfl (sub_cons rfl (sub_cons rfl sub_nil))))))))) (by decide) (pick_cons rfl (pick_cons rfl (pick_cons rfl (pick_cons rfl pick_nil)))) (hN26 (q9043, q9044, q8, q9045))
    intro hN16
    refine ax_node (f' := 6) #[true, true, true, true, true, false, true, true, true, false, true, true, false, false, false, false] (fun (v18 : Addr × Addr × Addr × Addr) => (⟨74, [], [(2, (Vl (.int .i64 a2))), (3, (Vl (.pointer ((some v18.1, 9, 9)).1))), (4, (Vl (.pointer ((some v18.2.1, 9, 9)).1))), (7, (Vl (.pointer ((some v18.2.2.1, 9, 9)).1))), (8, (Vl (.pointer ((some v18.2.2.2, 9, 9)).1))), (26, (Ag [(Vg r26.1), (Vg r26.2.1), (Vg r26.2.2.1), (Vg r26.2.2.2.1), (Vg r26.2.2.2.2.1), (Vg r26.2.2.2.2.2.1), (Vg r26.2.2.2.2.2.2.1), (Vg r26.2.2.2.2.2.2.2.1), (Vg r26.2.2.2.2.2.2.2.2)])), (27, (Ag [(Vg r27.1), (Vg r27.2.1), (Vg r27.2.2.1), (Vg r27.2.2.2.1), (Vg r27.2.2.2.2.1), (Vg r27.2.2.2.2.2.1), (Vg r27.2.2.2.2.2.2.1), (Vg r27.2.2.2.2.2.2.2.1), (Vg r27.2.2.2.2.2.2.2.2)])), (28, (Ag [(Vg r28.1), (Vg r28.2.1), (Vg r28.2.2.1), (Vg r28.2.2.2.1), (Vg r28.2.2.2.2.1), (Vg r28.2.2.2.2.2.1), (Vg r28.2.2.2.2.2.2.1), (Vg r28.2.2.2.2.2.2.2.1), (Vg r28.2.2.2.2.2.2.2.2)])), (31, (Vl (.float .f64 (i2f a2)))), (32, (Ag [(Vg r32.1), (Vg r32.2.1), (Vg r32.2.2.1), (Vg r32.2.2.2.1), (Vg r32.2.2.2.2.1), (Vg r32.2.2.2.2.2.1), (Vg r32.2.2.2.2.2.2.1), (Vg r32.2.2.2.2.2.2.2.1), (Vg r32.2.2.2.2.2.2.2.2)]))], [(Rw Kf 24 (Vs (some v18.1, 9, 9)) ([a0_0, a0_1, a0_2, a0_3, a0_4, a0_5, a0_6, a0_7, a0_8])), (Rw Kf 24 (Vs (some v18.2.1, 9, 9)) ([a1_0, a1_1, a1_2, a1_3, a1_4, a1_5, a1_6, a1_7, a1_8])), (Rw Kf 24 (Vs (some v18.2.2.1, 9, 9)) ([0, 0, 0, 0, 0, 0, 0, 0, 0])), (Rw Kf 24 (Vs (some v18.2.2.2, 9, 9)) ([0, 0, 0, 0, 0, 0, 0, 0, 0]))]⟩ : St)) ?_ ?_
    ·rintro ⟨q9046, q9047, q9048, q9049⟩
     refine ax_all (i := 5) (is := [12]) (by kernel_rfl) (all_cons ?_ (all_cons ?_ all_nil))
     ·refine nx_ox (last := #[true, true, true, true, true, true, true, true, true, false, true, true, false, false, false, false]) rfl (ox_calln' (ent_fn' Tryd.func11 isn11 rfl rfl) (impl_MatSub_sim _ _ _ _ _ _ _ _ _ _ _ _ _ _ _ _ _ _ hr29 : Go.Sx.Fn Tryd.prog 11 [(Ag [(Vg r27.1), (Vg r27.2.1), (Vg r27.2.2.1), (Vg r27.2.2.2.1), (Vg r27.2.2.2.2.1), (Vg r27.2.2.2.2.2.1), (Vg r27.2.2.2.2.2.2.1), (Vg r27.2.2.2.2.2.2.2.1), (Vg r27.2.2.2.2.2.2.2.2)]), (Ag [(Vg r28.1), (Vg r28.2.1), (Vg r28.2.2.1), (Vg r28.2.2.2.1), (Vg r28.2.2.2.2.1), (Vg r28.2.2.2.2.2.1), (Vg r28.2.2.2.2.2.2.1), (Vg r28.2.2.2.2.2.2.2.1), (Vg r28.2.2.2.2.2.2.2.2)])] [] (fun x : Unit => (Ag [(Vg r29.1), (Vg r29.2.1), (Vg r29.2.2.1), (Vg r29.2.2.2.1), (Vg r29.2.2.2.2.1), (Vg r29.2.2.2.2.2.1), (Vg r29.2.2.2.2.2.2.1), (Vg r29.2.2.2.2.2.2.2.1), (Vg r29.2.2.2.2.2.2.2.2)])) (fun x => [])) (Hn := fun x : Unit => [(Rw Kf 24 (Vs (some q9046, 9, 9)) ([a0_0, a0_1, a0_2, a0_3, a0_4, a0_5, a0_6, a0_7, a0_8])), (Rw Kf 24 (Vs (some q9047, 9, 9)) ([a1_0, a1_1, a1_2, a1_3, a1_4, a1_5, a1_6, a1_7, a1_8])), (Rw Kf 24 (Vs (some q9048, 9, 9)) ([0, 0, 0, 0, 0, 0, 0, 0, 0])), (Rw Kf 24 (Vs (some q9049, 9, 9)) ([0, 0, 0, 0, 0, 0, 0, 0, 0]))]) (fun _ => rfl) rfl rfl) rfl bs_nil (wt_none' rfl) rfl fun ⟨⟩ => ?_
      exact tx_pick' [0, 1, 2, 3] (sub_cons rfl (sub_cons rfl (sub_cons rfl (sub_cons rfl (sub_cons rfl (sub_cons rfl (sub_cons rfl (sub_cons rfl (sub_cons rfl sub_nil))))))))) (by decide) (pick_cons rfl (pick_cons rfl (pick_cons rfl (pick_cons rfl pick_nil)))) (hN24 (q9046, q9047, q9048, q9049))
     ·refine nx_ox (last := #[true, true, true, true, true, false, true, true, true, false, true, true, true, false, false, false]) rfl (ox_alloc' info24 rfl rfl rfl rfl (l := [(Vg 0), (Vg 0), (Vg 0), (Vg 0), (Vg 0), (Vg 0), (Vg 0), (Vg 0), (Vg 0)]) rfl) rfl bs_nil (wt_none' rfl) rfl fun q9 => ?_
      refine tx_arr' (K := Kf) (xs := [0, 0, 0, 0, 0, 0, 0, 0, 0]) (m := 9) (i := 0) rfl rfl rfl (H' := [(Rw Kf 24 (Vs (some q9, 9, 9)) ([0, 0, 0, 0, 0, 0, 0, 0, 0])), (Rw Kf 24 (Vs (some q9046, 9, 9)) ([a0_0, a0_1, a0_2, a0_3, a0_4, a0_5, a0_6, a0_7, a0_8])), (Rw Kf 24 (Vs (some q9047, 9, 9)) ([a1_0, a1_1, a1_2, a1_3, a1_4, a1_5, a1_6, a1_7, a1_8])), (Rw Kf 24 (Vs (some q9048, 9, 9)) ([0, 0, 0, 0, 0, 0, 0, 0, 0])), (Rw Kf 24 (Vs (some q9049, 9, 9)) ([0, 0, 0, 0, 0, 0, 0, 0, 0]))]) rfl ?_
      exact tx_pick' [1, 2, 3, 4, 0] (sub_cons rfl (sub_cons rfl (sub_cons rfl (sub_cons rfl (sub_cons rfl (sub_cons rfl (sub_cons rfl (sub_cons rfl (sub_cons rfl (sub_cons rfl (sub_cons rfl sub_nil))))))))))) (by decide) (pick_cons rfl (pick_cons rfl (pick_cons rfl (pick_cons rfl (pick_cons rfl pick_nil))))) (hN27 (q9046, q9047, q9048, q9049, q9))
    intro hN17
    refine ax_node (f' := 6) #[true, true, true, true, true, false, true, true, true, false, true, false, true, false, false, false] (fun (v19 : Addr × Addr × Addr × Addr) => (⟨74, [], [(2, (Vl (.int .i64 a2))), (3, (Vl (.pointer ((some v19.1, 9, 9)).1))), (4, (Vl (.pointer ((some v19.2.1, 9, 9)).1))), (7, (Vl (.pointer ((some v19.2.2.1, 9, 9)).1))), (9, (Vl (.pointer ((some v19.2.2.2, 9, 9)).1))), (26, (Ag [(Vg r26.1), (Vg r26.2.1), (Vg r26.2.2.1), (Vg r26.2.2.2.1), (Vg r26.2.2.2.2.1), (Vg r26.2.2.2.2.2.1), (Vg r26.2.2.2.2.2.2.1), (Vg r26.2.2.2.2.2.2.2.1), (Vg r26.2.2.2.2.2.2.2.2)])), (27, (Ag [(Vg r27.1), (Vg r27.2.1), (Vg r27.2.2.1), (Vg r27.2.2.2.1), (Vg r27.2.2.2.2.1), (Vg r27.2.2.2.2.2.1), (Vg r27.2.2.2.2.2.2.1), (Vg r27.2.2.2.2.2.2.2.1), (Vg r27.2.2.2.2.2.2.2.2)])), (28, (Ag [(Vg r28.1), (Vg r28.2.1), (Vg r28.2.2.1), (Vg r28.2.2.2.1), (Vg r28.2.2.2.2.1), (Vg r28.2.2.2.2.2.1), (Vg r28.2.2.2.2.2.2.1), (Vg r28.2.2.2.2.2.2.2.1), (Vg r28.2.2.2.2.2.2.2.2)])), (31, (Vl (.float .f64 (i2f a2)))), (32, (Ag [(Vg r32.1), (Vg r32.2.1), (Vg r32.2.2.1), (Vg r32.2.2.2.1), (Vg r32.2.2.2.2.1), (Vg r32.2.2.2.2.2.1), (Vg r32.2.2.2.2.2.2.1), (Vg r32.2.2.2.2.2.2.2.1), (Vg r32.2.2.2.2.2.2.2.2)]))], [(Rw Kf 24 (Vs (some v19.1, 9, 9)) ([a0_0, a0_1, a0_2, a0_3, a0_4, a0_5, a0_6, a0_7, a0_8])), (Rw Kf 24 (Vs (some v19.2.1, 9, 9)) ([a1_0, a1_1, a1_2, a1_3, a1_4, a1_5, a1_6, a1_7, a1_8])), (Rw Kf 24 (Vs (some v19.2.2.1, 9, 9)) ([0, 0, 0, 0, 0, 0, 0, 0, 0])), (Rw Kf 24 (Vs (some v19.2.2.2, 9, 9)) ([0, 0, 0, 0, 0, 0, 0, 0, 0]))]⟩ : St)) ?_ ?_
    ·rintro ⟨q9050, q9051, q9052, q9053⟩
     refine ax_all (i := 5) (is := [11]) (by kernel_rfl) (all_cons ?_ (all_cons ?_ all_nil))
     ·refine nx_ox (last := #[true, true, true, true, true, true, true, true, true, false, true, false, true, false, false, false]) rfl (ox_calln' (ent_fn' Tryd.func11 isn11 rfl rfl) (impl_MatSub_sim _ _ _ _ _ _ _ _ _ _ _ _ _ _ _ _ _ _ hr29 : Go.Sx.Fn Tryd.prog 11 [(Ag [(Vg r27.1), (Vg r27.2.1), (Vg r27.2.2.1), (Vg r27.2.2.2.1), (Vg r27.2.2.2.2.1), (Vg r27.2.2.2.2.2.1), (Vg r27.2.2.2.2.2.2.1), (Vg r27.2.2.2.2.2.2.2.1), (Vg r27.2.2.2.2.2.2.2.2)]), (Ag [(Vg r28.1), (Vg r28.2.1), (Vg r28.2.2.1), (Vg r28.2.2.2.1), (Vg r28.2.2.2.2.1), (Vg r28.2.2.2.2.2.1), (Vg r28.2.2.2.2.2.2.1), (Vg r28.2.2.2.2.2.2.2.1), (Vg r28.2.2.2.2.2.2.2.2)])] [] (fun x : Unit => (Ag [(Vg r29.1), (Vg r29.2.1), (Vg r29.2.2.1), (Vg r29.2.2.2.1), (Vg r29.2.2.2.2.1), (Vg r29.2.2.2.2.2.1), (Vg r29.2.2.2.2.2.2.1), (Vg r29.2.2.2.2.2.2.2.1), (Vg r29.2.2.2.2.2.2.2.2)])) (fun x => [])) (Hn := fun x : Unit => [(Rw Kf 24 (Vs (some q9050, 9, 9)) ([a0_0, a0_1, a0_2, a0_3, a0_4, a0_5, a0_6, a0_7, a0_8])), (Rw Kf 24 (Vs (some q9051, 9, 9)) ([a1_0, a1_1, a1_2, a1_3, a1_4, a1_5, a1_6, a1_7, a1_8])), (Rw Kf 24 (Vs (some q9052, 9, 9)) ([0, 0, 0, 0, 0, 0, 0, 0, 0])), (Rw Kf 24 (Vs (some q9053, 9, 9)) ([0, 0, 0, 0, 0, 0, 0, 0, 0]))]) (fun _ => rfl) rfl rfl) rfl bs_nil (wt_none' rfl) rfl fun ⟨⟩ => ?_
      exact tx_pick' [0, 1, 2, 3] (sub_cons rfl (sub_cons rfl (sub_cons rfl (sub_cons rfl (sub_cons rfl (sub_cons rfl (sub_cons rfl (sub_cons rfl (sub_cons rfl sub_nil))))))))) (by decide) (pick_cons rfl (pick_cons rfl (pick_cons rfl (pick_cons rfl pick_nil)))) (hN25 (q9050, q9051, q9052, q9053))
     ·refine nx_ox (last := #[true, true, true, true, true, false, true, true, true, false, true, true, true, false, false, false]) rfl (ox_alloc' info24 rfl rfl rfl rfl (l := [(Vg 0), (Vg 0), (Vg 0), (Vg 0), (Vg 0), (Vg 0), (Vg 0), (Vg 0), (Vg 0)]) rfl) rfl bs_nil (wt_none' rfl) rfl fun q8 => ?_
      refine tx_arr' (K := Kf) (xs := [0, 0, 0, 0, 0, 0, 0, 0, 0]) (m := 9) (i := 0) rfl rfl rfl (H' := [(Rw Kf 24 (Vs (some q8, 9, 9)) ([0, 0, 0, 0, 0, 0, 0, 0, 0])), (Rw Kf 24 (Vs (some q9050, 9, 9)) ([a0_0, a0_1, a0_2, a0_3, a0_4, a0_5, a0_6, a0_7, a0_8])), (Rw Kf 24 (Vs (some q9051, 9, 9)) ([a1_0, a1_1, a1_2, a1_3, a1_4, a1_5, a1_6, a1_7, a1_8])), (Rw Kf 24 (Vs (some q9052, 9, 9)) ([0, 0, 0, 0, 0, 0, 0, 0, 0])), (Rw Kf 24 (Vs (some q9053, 9, 9)) ([0, 0, 0, 0, 0, 0, 0, 0, 0]))]) rfl ?_
      exact tx_pick' [1, 2, 3, 0, 4] (sub_cons rfl (sub_cons rfl (sub_cons rfl (sub_cons rfl (sub_cons rfl (sub_cons rfl (sub_cons rfl (sub_cons rfl (sub_cons rfl (sub_cons rfl (sub_cons rfl sub_nil))))))))))) (by decide) (pick_cons rfl (pick_cons rfl (pick_cons rfl (pick_cons rfl (pick_cons rfl pick_nil))))) (hN27 (q9050, q9051, q9052, q8, q9053))
    intro hN18
    refine ax_node (f' := 6) #[true, true, true, true, true, false, true, true, true, false, false, true, true, false, false, false] (fun (v20 : Addr × Addr × Addr × Addr) => (⟨74, [], [(2, (Vl (.int .i64 a2))), (3, (Vl (.pointer ((some v20.1, 9, 9)).1))), (4, (Vl (.pointer ((some v20.2.1, 9, 9)).1))), (8, (Vl (.pointer ((some v20.2.2.1, 9, 9)).1))), (9, (Vl (.pointer ((some v20.2.2.2, 9, 9)).1))), (26, (Ag [(Vg r26.1), (Vg r26.2.1), (Vg r26.2.2.1), (Vg r26.2.2.2.1), (Vg r26.2.2.2.2.1), (Vg r26.2.2.2.2.2.1), (Vg r26.2.2.2.2.2.2.1), (Vg r26.2.2.2.2.2.2.2.1), (Vg r26.2.2.2.2.2.2.2.2)])), (27, (Ag [(Vg r27.1), (Vg r27.2.1), (Vg r27.2.2.1), (Vg r27.2.2.2.1), (Vg r27.2.2.2.2.1), (Vg r27.2.2.2.2.2.1), (Vg r27.2.2.2.2.2.2.1), (Vg r27.2.2.2.2.2.2.2.1), (Vg r27.2.2.2.2.2.2.2.2)])), (28, (Ag [(Vg r28.1), (Vg r28.2.1), (Vg r28.2.2.1), (Vg r28.2.2.2.1), (Vg r28.2.2.2.2.1), (Vg r28.2.2.2.2.2.1), (Vg r28.2.2.2.2.2.2.1), (Vg r28.2.2.2.2.2.2.2.1), (Vg r28.2.2.2.2.2.2.2.2)])), (31, (Vl (.float .f64 (i2f a2)))), (32, (Ag [(Vg r32.1), (Vg r32.2.1), (Vg r32.2.2.1), (Vg r32.2.2.2.1), (Vg r32.2.2.2.2.1), (Vg r32.2.2.2.2.2.1), (Vg r32.2.2.2.2.2.2.1), (Vg r32.2.2.2.2.2.2.2.1), (Vg r32.2.2.2.2.2.2.2.2)]))], [(Rw Kf 24 (Vs (some v20.1, 9, 9)) ([a0_0, a0_1, a0_2, a0_3, a0_4, a0_5, a0_6, a0_7, a0_8])), (Rw Kf 24 (Vs (some v20.2.1, 9, 9)) ([a1_0, a1_1, a1_2, a1_3, a1_4, a1_5, a1_6, a1_7, a1_8])), (Rw Kf 24 (Vs (some v20.2.2.1, 9, 9)) ([0, 0, 0, 0, 0, 0, 0, 0, 0])), (Rw Kf 24 (Vs (some v20.2.2.2, 9, 9)) ([0, 0, 0, 0, 0, 0, 0, 0, 0]))]⟩ : St)) ?_ ?_
    ·rintro ⟨q9054, q9055, q9056, q9057⟩
     refine ax_all (i := 5) (is := [10]) (by kernel_rfl) (all_cons ?_ (all_cons ?_ all_nil))
     ·refine nx_ox (last := #[true, true, true, true, true, true, true, true, true, false, false, true, true, false, false, false]) rfl (ox_calln' (ent_fn' Tryd.func11 isn11 rfl rfl) (impl_MatSub_sim _ _ _ _ _ _ _ _ _ _ _ _ _ _ _ _ _ _ hr29 : Go.Sx.Fn Tryd.prog 11 [(Ag [(Vg r27.1), (Vg r27.2.1), (Vg r27.2.2.1), (Vg r27.2.2.2.1), (Vg r27.2.2.2.2.1), (Vg r27.2.2.2.2.2.1), (Vg r27.2.2.2.2.2.2.1), (Vg r27.2.2.2.2.2.2.2.1), (Vg r27.2.2.2.2.2.2.2.2)]), (Ag [(Vg r28.1), (Vg r28.2.1), (Vg r28.2.2.1), (Vg r28.2.2.2.1), (Vg r28.2.2.2.2.1), (Vg r28.2.2.2.2.2.1), (Vg r28.2.2.2.2.2.2.1), (Vg r28.2.2.2.2.2.2.2.1), (Vg r28.2.2.2.2.2.2.2.2)])] [] (fun x : Unit => (Ag [(Vg r29.1), (Vg r29.2.1), (Vg r29.2.2.1), (Vg r29.2.2.2.1), (Vg r29.2.2.2.2.1), (Vg r29.2.2.2.2.2.1), (Vg r29.2.2.2.2.2.2.1), (Vg r29.2.2.2.2.2.2.2.1), (Vg r29.2.2.2.2.2.2.2.2)])) (fun x => [])) (Hn := fun x : Unit => [(Rw Kf 24 (Vs (some q9054, 9, 9)) ([a0_0, a0_1, a0_2, a0_3, a0_4, a0_5, a0_6, a0_7, a0_8])), (Rw Kf 24 (Vs (some q9055, 9, 9)) ([a1_0, a1_1, a1_2, a1_3, a1_4, a1_5, a1_6, a1_7, a1_8])), (Rw Kf 24 (Vs (some q9056, 9, 9)) ([0, 0, 0, 0, 0, 0, 0, 0, 0])), (Rw Kf 24 (Vs (some q9057, 9, 9)) ([0, 0, 0, 0, 0, 0, 0, 0, 0]))]) (fun _ => rfl) rfl rfl) rfl bs_nil (wt_none' rfl) rfl fun ⟨⟩ => ?_
      exact tx_pick' [0, 1, 2, 3] (sub_cons rfl (sub_cons rfl (sub_cons rfl (sub_cons rfl (sub_cons rfl (sub_cons rfl (sub_cons rfl (sub_cons rfl (sub_cons rfl sub_nil))))))))) (by decide) (pick_cons rfl (pick_cons rfl (pick_cons rfl (pick_cons rfl pick_nil)))) (hN26 (q9054, q9055, q9056, q9057))
     ·refine nx_ox (last := #[true, true, true, true, true, false, true, true, true, false, true, true, true, false, false, false]) rfl (ox_alloc' info24 rfl rfl rfl rfl (l := [(Vg 0), (Vg 0), (Vg 0), (Vg 0), (Vg 0), (Vg 0), (Vg 0), (Vg 0), (Vg 0)]) rfl) rfl bs_nil (wt_none' rfl) rfl fun q7 => ?_
      refine tx_arr' (K := Kf) (xs := [0, 0, 0, 0, 0, 0, 0, 0, 0]) (m := 9) (i := 0) rfl rfl rfl (H' := [(Rw Kf 24 (Vs (some q7, 9, 9)) ([0, 0, 0, 0, 0, 0, 0, 0, 0])), (Rw Kf 24 (Vs (some q9054, 9, 9)) ([a0_0, a0_1, a0_2, a0_3, a0_4, a0_5, a0_6, a0_7, a0_8])), (Rw Kf 24 (Vs (some q9055, 9, 9)) ([a1_0, a1_1, a1_2, a1_3, a1_4, a1_5, a1_6, a1_7, a1_8])), (Rw Kf 24 (Vs (some q9056, 9, 9)) ([0, 0, 0, 0, 0, 0, 0, 0, 0])), (Rw Kf 24 (Vs (some q9057, 9, 9)) ([0, 0, 0, 0, 0, 0, 0, 0, 0]))]) rfl ?_
      exact tx_pick' [1, 2, 0, 3, 4] (sub_cons rfl (sub_cons rfl (sub_cons rfl (sub_cons rfl (sub_cons rfl (sub_cons rfl (sub_cons rfl (sub_cons rfl (sub_cons rfl (sub_cons rfl (sub_cons rfl sub_nil))))))))))) (by decide) (pick_cons rfl (pick_cons rfl (pick_cons rfl (pick_cons rfl (pick_cons rfl pick_nil))))) (hN27 (q9054, q9055, q7, q9056, q9057))
    intro hN19
    refine ax_node (f' := 6) #[true, true, false, true, true, false, true, true, true, false, true, true, true, false, false, false] (fun (v21 : Addr × Addr × Addr × Addr × Addr) => (⟨74, [], [(2, (Vl (.int .i64 a2))), (3, (Vl (.pointer ((some v21.1, 9, 9)).1))), (4, (Vl (.pointer ((some v21.2.1, 9, 9)).1))), (7, (Vl (.pointer ((some v21.2.2.1, 9, 9)).1))), (8, (Vl (.pointer ((some v21.2.2.2.1, 9, 9)).1))), (9, (Vl (.pointer ((some v21.2.2.2.2, 9, 9)).1))), (24, (Ag [(Vg r24.1), (Vg r24.2.1), (Vg r24.2.2.1), (Vg r24.2.2.2.1), (Vg r24.2.2.2.2.1), (Vg r24.2.2.2.2.2.1), (Vg r24.2.2.2.2.2.2.1), (Vg r24.2.2.2.2.2.2.2.1), (Vg r24.2.2.2.2.2.2.2.2)])), (25, (Ag [(Vg r25.1), (Vg r25.2.1), (Vg r25.2.2.1), (Vg r25.2.2.2.1), (Vg r25.2.2.2.2.1), (Vg r25.2.2.2.2.2.1), (Vg r25.2.2.2.2.2.2.1), (Vg r25.2.2.2.2.2.2.2.1), (Vg r25.2.2.2.2.2.2.2.2)])), (27, (Ag [(Vg r27.1), (Vg r27.2.1), (Vg r27.2.2.1), (Vg r27.2.2.2.1), (Vg r27.2.2.2.2.1), (Vg r27.2.2.2.2.2.1), (Vg r27.2.2.2.2.2.2.1), (Vg r27.2.2.2.2.2.2.2.1), (Vg r27.2.2.2.2.2.2.2.2)])), (28, (Ag [(Vg r28.1), (Vg r28.2.1), (Vg r28.2.2.1), (Vg r28.2.2.2.1), (Vg r28.2.2.2.2.1), (Vg r28.2.2.2.2.2.1), (Vg r28.2.2.2.2.2.2.1), (Vg r28.2.2.2.2.2.2.2.1), (Vg r28.2.2.2.2.2.2.2.2)])), (31, (Vl (.float .f64 (i2f a2)))), (32, (Ag [(Vg r32.1), (Vg r32.2.1), (Vg r32.2.2.1), (Vg r32.2.2.2.1), (Vg r32.2.2.2.2.1), (Vg r32.2.2.2.2.2.1), (Vg r32.2.2.2.2.2.2.1), (Vg r32.2.2.2.2.2.2.2.1), (Vg r32.2.2.2.2.2.2.2.2)]))], [(Rw Kf 24 (Vs (some v21.1, 9, 9)) ([a0_0, a0_1, a0_2, a0_3, a0_4, a0_5, a0_6, a0_7, a0_8])), (Rw Kf 24 (Vs (some v21.2.1, 9, 9)) ([a1_0, a1_1, a1_2, a1_3, a1_4, a1_5, a1_6, a1_7, a1_8])), (Rw Kf 24 (Vs (some v21.2.2.1, 9, 9)) ([0, 0, 0, 0, 0, 0, 0, 0, 0])), (Rw Kf 24 (Vs (some v21.2.2.2.1, 9, 9)) ([0, 0, 0, 0, 0, 0, 0, 0, 0])), (Rw Kf 24 (Vs (some v21.2.2.2.2, 9, 9)) ([0, 0, 0, 0, 0, 0, 0, 0, 0]))]⟩ : St)) ?_ ?_
    ·rintro ⟨q9058, q9059, q9060, q9061, q9062⟩
     refine ax_all (i := 2) (is := []) (by kernel_rfl) (all_cons ?_ all_nil)
     ·refine nx_ox (last := #[true, true, true, true, true, false, true, true, true, false, true, true, true, false, false, false]) rfl (ox_calln' (ent_fn' Tryd.func10 isn10 rfl rfl) (impl_MatAdd_sim _ _ _ _ _ _ _ _ _ _ _ _ _ _ _ _ _ _ hr26 : Go.Sx.Fn Tryd.prog 10 [(Ag [(Vg r24.1), (Vg r24.2.1), (Vg r24.2.2.1), (Vg r24.2.2.2.1), (Vg r24.2.2.2.2.1), (Vg r24.2.2.2.2.2.1), (Vg r24.2.2.2.2.2.2.1), (Vg r24.2.2.2.2.2.2.2.1), (Vg r24.2.2.2.2.2.2.2.2)]), (Ag [(Vg r25.1), (Vg r25.2.1), (Vg r25.2.2.1), (Vg r25.2.2.2.1), (Vg r25.2.2.2.2.1), (Vg r25.2.2.2.2.2.1), (Vg r25.2.2.2.2.2.2.1), (Vg r25.2.2.2.2.2.2.2.1), (Vg r25.2.2.2.2.2.2.2.2)])] [] (fun x : Unit => (Ag [(Vg r26.1), (Vg r26.2.1), (Vg r26.2.2.1), (Vg r26.2.2.2.1), (Vg r26.2.2.2.2.1), (Vg r26.2.2.2.2.2.1), (Vg r26.2.2.2.2.2.2.1), (Vg r26.2.2.2.2.2.2.2.1), (Vg r26.2.2.2.2.2.2.2.2)])) (fun x => [])) (Hn := fun x : Unit => [(Rw Kf 24 (Vs (some q9058, 9, 9)) ([a0_0, a0_1, a0_2, a0_3, a0_4, a0_5, a0_6, a0_7, a0_8])), (Rw Kf 24 (Vs (some q9059, 9, 9)) ([a1_0, a1_1, a1_2, a1_3, a1_4, a1_5, a1_6, a1_7, a1_8])), (Rw Kf 24 (Vs (some q9060, 9, 9)) ([0, 0, 0, 0, 0, 0, 0, 0, 0])), (Rw Kf 24 (Vs (some q9061, 9, 9)) ([0, 0, 0, 0, 0, 0, 0, 0, 0])), (Rw Kf 24 (Vs (some q9062, 9, 9)) ([0, 0, 0, 0, 0, 0, 0, 0, 0]))]) (fun _ => rfl) rfl rfl) rfl bs_nil (wt_none' rfl) rfl fun ⟨⟩ => ?_
      exact tx_pick' [0, 1, 2, 3, 4] (sub_cons rfl (sub_cons rfl (sub_cons rfl (sub_cons rfl (sub_cons rfl (sub_cons rfl (sub_cons rfl (sub_cons rfl (sub_cons rfl (sub_cons rfl (sub_cons rfl sub_nil))))))))))) (by decide) (pick_cons rfl (pick_cons rfl (pick_cons rfl (pick_cons rfl (pick_cons rfl pick_nil))))) (hN27 (q9058, q9059, q9060, q9061, q9062))
    intro hN20
    refine ax_node (f' := 7) #[true, true, true, true, true, true, true, true, true, false, false, false, false, false, false, false] (fun (v7 : Addr × Addr) => (⟨74, [], [(2, (Vl (.int .i64 a2))), (3, (Vl (.pointer ((some v7.1, 9, 9)).1))), (4, (Vl (.pointer ((some v7.2, 9, 9)).1))), (26, (Ag [(Vg r26.1), (Vg r26.2.1), (Vg r26.2.2.1), (Vg r26.2.2.2.1), (Vg r26.2.2.2.2.1), (Vg r26.2.2.2.2.2.1), (Vg r26.2.2.2.2.2.2.1), (Vg r26.2.2.2.2.2.2.2.1), (Vg r26.2.2.2.2.2.2.2.2)])), (29, (Ag [(Vg r29.1), (Vg r29.2.1), (Vg r29.2.2.1), (Vg r29.2.2.2.1), (Vg r29.2.2.2.2.1), (Vg r29.2.2.2.2.2.1), (Vg r29.2.2.2.2.2.2.1), (Vg r29.2.2.2.2.2.2.2.1), (Vg r29.2.2.2.2.2.2.2.2)])), (31, (Vl (.float .f64 (i2f a2)))), (32, (Ag [(Vg r32.1), (Vg r32.2.1), (Vg r32.2.2.1), (Vg r32.2.2.2.1), (Vg r32.2.2.2.2.1), (Vg r32.2.2.2.2.2.1), (Vg r32.2.2.2.2.2.2.1), (Vg r32.2.2.2.2.2.2.2.1), (Vg r32.2.2.2.2.2.2.2.2)]))], [(Rw Kf 24 (Vs (some v7.1, 9, 9)) ([a0_0, a0_1, a0_2, a0_3, a0_4, a0_5, a0_6, a0_7, a0_8])), (Rw Kf 24 (Vs (some v7.2, 9, 9)) ([a1_0, a1_1, a1_2, a1_3, a1_4, a1_5, a1_6, a1_7, a1_8]))]⟩ : St)) ?_ ?_
    ·rintro ⟨q9012, q9013⟩
     refine ax_all (i := 9) (is := [10, 11, 12]) (by kernel_rfl) (all_cons ?_ (all_cons ?_ (all_cons ?_ (all_cons ?_ all_nil))))
     ·refine nx_ox (last := #[true, true, true, true, true, true, true, true, true, true, false, false, false, false, false, false]) rfl (ox_calln' (ent_fn' Tryd.func12 isn12 rfl rfl) (impl_MatScale_sim _ _ _ _ _ _ _ _ _ _ hr33 : Go.Sx.Fn Tryd.prog 12 [(Vl (.float .f64 (i2f a2))), (Ag [(Vg r32.1), (Vg r32.2.1), (Vg r32.2.2.1), (Vg r32.2.2.2.1), (Vg r32.2.2.2.2.1), (Vg r32.2.2.2.2.2.1), (Vg r32.2.2.2.2.2.2.1), (Vg r32.2.2.2.2.2.2.2.1), (Vg r32.2.2.2.2.2.2.2.2)])] [] (fun x : Unit => (Ag [(Vg r33.1), (Vg r33.2.1), (Vg r33.2.2.1), (Vg r33.2.2.2.1), (Vg r33.2.2.2.2.1), (Vg r33.2.2.2.2.2.1), (Vg r33.2.2.2.2.2.2.1), (Vg r33.2.2.2.2.2.2.2.1), (Vg r33.2.2.2.2.2.2.2.2)])) (fun x => [])) (Hn := fun x : Unit => [(Rw Kf 24 (Vs (some q9012, 9, 9)) ([a0_0, a0_1, a0_2, a0_3, a0_4, a0_5, a0_6, a0_7, a0_8])), (Rw Kf 24 (Vs (some q9013, 9, 9)) ([a1_0, a1_1, a1_2, a1_3, a1_4, a1_5, a1_6, a1_7, a1_8]))]) (fun _ => rfl) rfl rfl) rfl bs_nil (wt_none' rfl) rfl fun ⟨⟩ => ?_
      exact tx_pick' [0, 1] (sub_cons rfl (sub_cons rfl (sub_cons rfl (sub_cons rfl (sub_cons rfl (sub_cons rfl sub_nil)))))) (by decide) (pick_cons rfl (pick_cons rfl pick_nil)) (hN13 (q9012, q9013))
     ·refine nx_ox (last := #[true, true, true, true, true, true, true, true, true, false, true, false, false, false, false, false]) rfl (ox_alloc' info24 rfl rfl rfl rfl (l := [(Vg 0), (Vg 0), (Vg 0), (Vg 0), (Vg 0), (Vg 0), (Vg 0), (Vg 0), (Vg 0)]) rfl) rfl bs_nil (wt_none' rfl) rfl fun q7 => ?_
      refine tx_arr' (K := Kf) (xs := [0, 0, 0, 0, 0, 0, 0, 0, 0]) (m := 9) (i := 0) rfl rfl rfl (H' := [(Rw Kf 24 (Vs (some q7, 9, 9)) ([0, 0, 0, 0, 0, 0, 0, 0, 0])), (Rw Kf 24 (Vs (some q9012, 9, 9)) ([a0_0, a0_1, a0_2, a0_3, a0_4, a0_5, a0_6, a0_7, a0_8])), (Rw Kf 24 (Vs (some q9013, 9, 9)) ([a1_0, a1_1, a1_2, a1_3, a1_4, a1_5, a1_6, a1_7, a1_8]))]) rfl ?_
      exact tx_pick' [1, 2, 0] (sub_cons rfl (sub_cons rfl (sub_cons rfl (sub_cons rfl (sub_cons rfl (sub_cons rfl (sub_cons rfl (sub_cons rfl sub_nil)))))))) (by decide) (pick_cons rfl (pick_cons rfl (pick_cons rfl pick_nil))) (hN14 (q9012, q9013, q7))
     ·refine nx_ox (last := #[true, true, true, true, true, true, true, true, true, false, false, true, false, false, false, false]) rfl (ox_alloc' info24 rfl rfl rfl rfl (l := [(Vg 0), (Vg 0), (Vg 0), (Vg 0), (Vg 0), (Vg 0), (Vg 0), (Vg 0), (Vg 0)]) rfl) rfl bs_nil (wt_none' rfl) rfl fun q8 => ?_
      refine tx_arr' (K := Kf) (xs := [0, 0, 0, 0, 0, 0, 0, 0, 0]) (m := 9) (i := 0) rfl rfl rfl (H' := [(Rw Kf 24 (Vs (some q8, 9, 9)) ([0, 0, 0, 0, 0, 0, 0, 0, 0])), (Rw Kf 24 (Vs (some q9012, 9, 9)) ([a0_0, a0_1, a0_2, a0_3, a0_4, a0_5, a0_6, a0_7, a0_8])), (Rw Kf 24 (Vs (some q9013, 9, 9)) ([a1_0, a1_1, a1_2, a1_3, a1_4, a1_5, a1_6, a1_7, a1_8]))]) rfl ?_
      exact tx_pick' [1, 2, 0] (sub_cons rfl (sub_cons rfl (sub_cons rfl (sub_cons rfl (sub_cons rfl (sub_cons rfl (sub_cons rfl (sub_cons rfl sub_nil)))))))) (by decide) (pick_cons rfl (pick_cons rfl (pick_cons rfl pick_nil))) (hN15 (q9012, q9013, q8))
     ·refine nx_ox (last := #[true, true, true, true, true, true, true, true, true, false, false, false, true, false, false, false]) rfl (ox_alloc' info24 rfl rfl rfl rfl (l := [(Vg 0), (Vg 0), (Vg 0), (Vg 0), (Vg 0), (Vg 0), (Vg 0), (Vg 0), (Vg 0)]) rfl) rfl bs_nil (wt_none' rfl) rfl fun q9 => ?_
      refine tx_arr' (K := Kf) (xs := [0, 0, 0, 0, 0, 0, 0, 0, 0]) (m := 9) (i := 0) rfl rfl rfl (H' := [(Rw Kf 24 (Vs (some q9, 9, 9)) ([0, 0, 0, 0, 0, 0, 0, 0, 0])), (Rw Kf 24 (Vs (some q9012, 9, 9)) ([a0_0, a0_1, a0_2, a0_3, a0_4, a0_5, a0_6, a0_7, a0_8])), (Rw Kf 24 (Vs (some q9013, 9, 9)) ([a1_0, a1_1, a1_2, a1_3, a1_4, a1_5, a1_6, a1_7, a1_8]))]) rfl ?_
      exact tx_pick' [1, 2, 0] (sub_cons rfl (sub_cons rfl (sub_cons rfl (sub_cons rfl (sub_cons rfl (sub_cons rfl (sub_cons rfl (sub_cons rfl sub_nil)))))))) (by decide) (pick_cons rfl (pick_cons rfl (pick_cons rfl pick_nil))) (hN16 (q9012, q9013, q9))
    intro hN6
    refine ax_node (f' := 7) #[true, true, true, true, true, false, true, true, true, false, true, false, false, false, false, false] (fun (v8 : Addr × Addr × Addr) => (⟨74, [], [(2, (Vl (.int .i64 a2))), (3, (Vl (.pointer ((some v8.1, 9, 9)).1))), (4, (Vl (.pointer ((some v8.2.1, 9, 9)).1))), (7, (Vl (.pointer ((some v8.2.2, 9, 9)).1))), (26, (Ag [(Vg r26.1), (Vg r26.2.1), (Vg r26.2.2.1), (Vg r26.2.2.2.1), (Vg r26.2.2.2.2.1), (Vg r26.2.2.2.2.2.1), (Vg r26.2.2.2.2.2.2.1), (Vg r26.2.2.2.2.2.2.2.1), (Vg r26.2.2.2.2.2.2.2.2)])), (27, (Ag [(Vg r27.1), (Vg r27.2.1), (Vg r27.2.2.1), (Vg r27.2.2.2.1), (Vg r27.2.2.2.2.1), (Vg r27.2.2.2.2.2.1), (Vg r27.2.2.2.2.2.2.1), (Vg r27.2.2.2.2.2.2.2.1), (Vg r27.2.2.2.2.2.2.2.2)])), (28, (Ag [(Vg r28.1), (Vg r28.2.1), (Vg r28.2.2.1), (Vg r28.2.2.2.1), (Vg r28.2.2.2.2.1), (Vg r28.2.2.2.2.2.1), (Vg r28.2.2.2.2.2.2.1), (Vg r28.2.2.2.2.2.2.2.1), (Vg r28.2.2.2.2.2.2.2.2)])), (31, (Vl (.float .f64 (i2f a2)))), (32, (Ag [(Vg r32.1), (Vg r32.2.1), (Vg r32.2.2.1), (Vg r32.2.2.2.1), (Vg r32.2.2.2.2.1), (Vg r32.2.2.2.2.2.1), (Vg r32.2.2.2.2.2.2.1), (Vg r32.2.2.2.2.2.2.2.1), (Vg r32.2.2.2.2.2.2.2.2)]))], [(Rw Kf 24 (Vs (some v8.1, 9, 9)) ([a0_0, a0_1, a0_2, a0_3, a0_4, a0_5, a0_6, a0_7, a0_8])), (Rw Kf 24 (Vs (some v8.2.1, 9, 9)) ([a1_0, a1_1, a1_2, a1_3, a1_4, a1_5, a1_6, a1_7, a1_8])), (Rw Kf 24 (Vs (some v8.2.2, 9, 9)) ([0, 0, 0, 0, 0, 0, 0, 0, 0]))]⟩ : St)) ?_ ?_
    ·rintro ⟨q9014, q9015, q9016⟩
     refine ax_all (i := 5) (is := [11, 12]) (by kernel_rfl) (all_cons ?_ (all_cons ?_ (all_cons ?_ all_nil)))
     ·refine nx_ox (last := #[true, true, true, true, true, true, true, true, true, false, true, false, false, false, false, false]) rfl (ox_calln' (ent_fn' Tryd.func11 isn11 rfl rfl) (impl_MatSub_sim _ _ _ _ _ _ _ _ _ _ _ _ _ _ _ _ _ _ hr29 : Go.Sx.Fn Tryd.prog 11 [(Ag [(Vg r27.1), (Vg r27.2.1), (Vg r27.2.2.1), (Vg r27.2.2.2.1), (Vg r27.2.2.2.2.1), (Vg r27.2.2.2.2.2.1), (Vg r27.2.2.2.2.2.2.1), (Vg r27.2.2.2.2.2.2.2.1), (Vg r27.2.2.2.2.2.2.2.2)]), (Ag [(Vg r28.1), (Vg r28.2.1), (Vg r28.2.2.1), (Vg r28.2.2.2.1), (Vg r28.2.2.2.2.1), (Vg r28.2.2.2.2.2.1), (Vg r28.2.2.2.2.2.2.1), (Vg r28.2.2.2.2.2.2.2.1), (Vg r28.2.2.2.2.2.2.2.2)])] [] (fun x : Unit => (Ag [(Vg r29.1), (Vg r29.2.1), (Vg r29.2.2.1), (Vg r29.2.2.2.1), (Vg r29.2.2.2.2.1), (Vg r29.2.2.2.2.2.1), (Vg r29.2.2.2.2.2.2.1), (Vg r29.2.2.2.2.2.2.2.1), (Vg r29.2.2.2.2.2.2.2.2)])) (fun x => [])) (Hn := fun x : Unit => [(Rw Kf 24 (Vs (some q9014, 9, 9)) ([a0_0, a0_1, a0_2, a0_3, a0_4, a0_5, a0_6, a0_7, a0_8])), (Rw Kf 24 (Vs (some q9015, 9, 9)) ([a1_0, a1_1, a1_2, a1_3, a1_4, a1_5, a1_6, a1_7, a1_8])), (Rw Kf 24 (Vs (some q9016, 9, 9)) ([0, 0, 0, 0, 0, 0, 0, 0, 0]))]) (fun _ => rfl) rfl rfl) rfl bs_nil (wt_none' rfl) rfl fun ⟨⟩ => ?_
      exact tx_pick' [0, 1, 2] (sub_cons rfl (sub_cons rfl (sub_cons rfl (sub_cons rfl (sub_cons rfl (sub_cons rfl (sub_cons rfl (sub_cons rfl sub_nil)))))))) (by decide) (pick_cons rfl (pick_cons rfl (pick_cons rfl pick_nil))) (hN14 (q9014, q9015, q9016))
     ·refine nx_ox (last := #[true, true, true, true, true, false, true, true, true, false, true, true, false, false, false, false]) rfl (ox_alloc' info24 rfl rfl rfl rfl (l := [(Vg 0), (Vg 0), (Vg 0), (Vg 0), (Vg 0), (Vg 0), (Vg 0), (Vg 0), (Vg 0)]) rfl) rfl bs_nil (wt_none' rfl) rfl fun q8 => ?_
      refine tx_arr' (K := Kf) (xs := [0, 0, 0, 0, 0, 0, 0, 0, 0]) (m := 9) (i := 0) rfl rfl rfl (H' := [(Rw Kf 24 (Vs (some q8, 9, 9)) ([0, 0, 0, 0, 0, 0, 0, 0, 0])), (Rw Kf 24 (Vs (some q9014, 9, 9)) ([a0_0, a0_1, a0_2, a0_3, a0_4, a0_5, a0_6, a0_7, a0_8])), (Rw Kf 24 (Vs (some q9015, 9, 9)) ([a1_0, a1_1, a1_2, a1_3, a1_4, a1_5, a1_6, a1_7, a1_8])), (Rw Kf 24 (Vs (some q9016, 9, 9)) ([0, 0, 0, 0, 0, 0, 0, 0, 0]))]) rfl ?_
      exact tx_pick' [1, 2, 3, 0] (sub_cons rfl (sub_cons rfl (sub_cons rfl (sub_cons rfl (sub_cons rfl (sub_cons rfl (sub_cons rfl (sub_cons rfl (sub_cons rfl (sub_cons rfl sub_nil)))))))))) (by decide) (pick_cons rfl (pick_cons rfl (pick_cons rfl (pick_cons rfl pick_nil)))) (hN17 (q9014, q9015, q9016, q8))
     ·refine nx_ox (last := #[true, true, true, true, true, false, true, true, true, false, true, false, true, false, false, false]) rfl (ox_alloc' info24 rfl rfl rfl rfl (l := [(Vg 0), (Vg 0), (Vg 0), (Vg 0), (Vg 0), (Vg 0), (Vg 0), (Vg 0), (Vg 0)]) rfl) rfl bs_nil (wt_none' rfl) rfl fun q9 => ?_
      refine tx_arr' (K := Kf) (xs := [0, 0, 0, 0, 0, 0, 0, 0, 0]) (m := 9) (i := 0) rfl rfl rfl (H' := [(Rw Kf 24 (Vs (some q9, 9, 9)) ([0, 0, 0, 0, 0, 0, 0, 0, 0])), (Rw Kf 24 (Vs (some q9014, 9, 9)) ([a0_0, a0_1, a0_2, a0_3, a0_4, a0_5, a0_6, a0_7, a0_8])), (Rw Kf 24 (Vs (some q9015, 9, 9)) ([a1_0, a1_1, a1_2, a1_3, a1_4, a1_5, a1_6, a1_7, a1_8])), (Rw Kf 24 (Vs (some q9016, 9, 9)) ([0, 0, 0, 0, 0, 0, 0, 0, 0]))]) rfl ?_
      exact tx_pick' [1, 2, 3, 0] (sub_cons rfl (sub_cons rfl (sub_cons rfl (sub_cons rfl (sub_cons rfl (sub_cons rfl (sub_cons rfl (sub_cons rfl (sub_cons rfl (sub_cons rfl sub_nil)))))))))) (by decide) (pick_cons rfl (pick_cons rfl (pick_cons rfl (pick_cons rfl pick_nil)))) (hN18 (q9014, q9015, q9016, q9))
    intro hN7
    refine ax_node (f' := 7) #[true, true, true, true, true, false, true, true, true, false, false, true, false, false, false, false] (fun (v9 : Addr × Addr × Addr) => (⟨74, [], [(2, (Vl (.int .i64 a2))), (3, (Vl (.pointer ((some v9.1, 9, 9)).1))), (4, (Vl (.pointer ((some v9.2.1, 9, 9)).1))), (8, (Vl (.pointer ((some v9.2.2, 9, 9)).1))), (26, (Ag [(Vg r26.1), (Vg r26.2.1), (Vg r26.2.2.1), (Vg r26.2.2.2.1), (Vg r26.2.2.2.2.1), (Vg r26.2.2.2.2.2.1), (Vg r26.2.2.2.2.2.2.1), (Vg r26.2.2.2.2.2.2.2.1), (Vg r26.2.2.2.2.2.2.2.2)])), (27, (Ag [(Vg r27.1), (Vg r27.2.1), (Vg r27.2.2.1), (Vg r27.2.2.2.1), (Vg r27.2.2.2.2.1), (Vg r27.2.2.2.2.2.1), (Vg r27.2.2.2.2.2.2.1), (Vg r27.2.2.2.2.2.2.2.1), (Vg r27.2.2.2.2.2.2.2.2)])), (28, (Ag [(Vg r28.1), (Vg r28.2.1), (Vg r28.2.2.1), (Vg r28.2.2.2.1), (Vg r28.2.2.2.2.1), (Vg r28.2.2.2.2.2.1), (Vg r28.2.2.2.2.2.2.1), (Vg r28.2.2.2.2.2.2.2.1), (Vg r28.2.2.2.2.2.2.2.2)])), (31, (Vl (.float .f64 (i2f a2)))), (32, (Ag [(Vg r32.1), (Vg r32.2.1), (Vg r32.2.2.1), (Vg r32.2.2.2.1), (Vg r32.2.2.2.2.1), (Vg r32.2.2.2.2.2.1), (Vg r32.2.2.2.2.2.2.1), (Vg r32.2.2.2.2.2.2.2.1), (Vg r32.2.2.2.2.2.2.2.2)]))], [(Rw Kf 24 (Vs (some v9.1, 9, 9)) ([a0_0, a0_1, a0_2, a0_3, a0_4, a0_5, a0_6, a0_7, a0_8])), (Rw Kf 24 (Vs (some v9.2.1, 9, 9)) ([a1_0, a1_1, a1_2, a1_3, a1_4, a1_5, a1_6, a1_7, a1_8])), (Rw Kf 24 (Vs (some v9.2.2, 9, 9)) ([0, 0, 0, 0, 0, 0, 0, 0, 0]))]⟩ : St)) ?_ ?_
    ·rintro ⟨q9017, q9018, q9019⟩
     refine ax_all (i := 5) (is := [10, 12]) (by kernel_rfl) (all_cons ?_ (all_cons ?_ (all_cons ?_ all_nil)))
     ·refine nx_ox (last := #[true, true, true, true, true, true, true, true, true, false, false, true, false, false, false, false]) rfl (ox_calln' (ent_fn' Tryd.func11 isn11 rfl rfl) (impl_MatSub_sim _ _ _ _ _ _ _ _ _ _ _ _ _ _ _ _ _ _ hr29 : Go.Sx.Fn Tryd.prog 11 [(Ag [(Vg r27.1), (Vg r27.2.1), (Vg r27.2.2.1), (Vg r27.2.2.2.1), (Vg r27.2.2.2.2.1), (Vg r27.2.2.2.2.2.1), (Vg r27.2.2.2.2.2.2.1), (Vg r27.2.2.2.2.2.2.2.1), (Vg r27.2.2.2.2.2.2.2.2)]), (Ag [(Vg r28.1), (Vg r28.2.1), (Vg r28.2.2.1), (Vg r28.2.2.2.1), (Vg r28.2.2.2.2.1), (Vg r28.2.2.2.2.2.1), (Vg r28.2.2.2.2.2.2.1), (Vg r28.2.2.2.2.2.2.2.1), (Vg r28.2.2.2.2.2.2.2.2)])] [] (fun x : Unit => (Ag [(Vg r29.1), (Vg r29.2.1), (Vg r29.2.2.1), (Vg r29.2.2.2.1), (Vg r29.2.2.2.2.1), (Vg r29.2.2.2.2.2.1), (Vg r29.2.2.2.2.2.2.1), (Vg r29.2.2.2.2.2.2.2.1), (Vg r29.2.2.2.2.2.2.2.2)])) (fun x => [])) (Hn := fun x : Unit => [(Rw Kf 24 (Vs (some q9017, 9, 9)) ([a0_0, a0_1, a0_2, a0_3, a0_4, a0_5, a0_6, a0_7, a0_8])), (Rw Kf 24 (Vs (some q9018, 9, 9)) ([a1_0, a1_1, a1_2, a1_3, a1_4, a1_5, a1_6, a1_7, a1_8])), (Rw Kf 24 (Vs (some q9019, 9, 9)) ([0, 0, 0, 0, 0, 0, 0, 0, 0]))]) (fun _ => rfl) rfl rfl) rfl bs_nil (wt_none' rfl) rfl fun ⟨⟩ => ?_
      exact tx_pick' [0, 1, 2] (sub_cons rfl (sub_cons rfl (sub_cons rfl (sub_cons rfl (sub_cons rfl (sub_cons rfl (sub_cons rfl (sub_cons rfl sub_nil)))))))) (by decide) (pick_cons rfl (pick_cons rfl (pick_cons rfl pick_nil))) (hN15 (q9017, q9018, q9019))
     ·refine nx_ox (last := #[true, true, true, true, true, false, true, true, true, false, true, true, false, false, false, false]) rfl (ox_alloc' info24 rfl rfl rfl rfl (l := [(Vg 0), (Vg 0), (Vg 0), (Vg 0), (Vg 0), (Vg 0), (Vg 0), (Vg 0), (Vg 0)]) rfl) rfl bs_nil (wt_none' rfl) rfl fun q7 => ?_
      refine tx_arr' (K := Kf) (xs := [0, 0, 0, 0, 0, 0, 0, 0, 0]) (m := 9) (i := 0) rfl rfl rfl (H' := [(Rw Kf 24 (Vs (some q7, 9, 9)) ([0, 0, 0, 0, 0, 0, 0, 0, 0])), (Rw Kf 24 (Vs (some q9017, 9, 9)) ([a0_0, a0_1, a0_2, a0_3, a0_4, a0_5, a0_6, a0_7, a0_8])), (Rw Kf 24 (Vs (some q9018, 9, 9)) ([a1_0, a1_1, a1_2, a1_3, a1_4, a1_5, a1_6, a1_7, a1_8])), (Rw Kf 24 (Vs (some q9019, 9, 9)) ([0, 0, 0, 0, 0, 0, 0, 0, 0]))]) rfl ?_
      exact tx_pick' [1, 2, 0, 3] (sub_cons rfl (sub_cons rfl (sub_cons rfl (sub_cons rfl (sub_cons rfl (sub_cons rfl (sub_cons rfl (sub_cons rfl (sub_cons rfl (sub_cons rfl sub_nil)))))))))) (by decide) (pick_cons rfl (pick_cons rfl (pick_cons rfl (pick_cons rfl pick_nil)))) (hN17 (q9017, q9018, q7, q9019))
     ·refine nx_ox (last := #[true, true, true, true, true, false, true, true, true, false, false, true, true, false, false, false]) rfl (ox_alloc' info24 rfl rfl rfl rfl (l := [(Vg 0), (Vg 0), (Vg 0), (Vg 0), (Vg 0), (Vg 0), (Vg 0), (Vg 0), (Vg 0)]) rfl) rfl bs_nil (wt_none' rfl) rfl fun q9 => ?_
      refine tx_arr' (K := Kf) (xs := [0, 0, 0, 0, 0, 0, 0, 0, 0]) (m := 9) (i := 0) rfl rfl rfl (H' := [(Rw Kf 24 (Vs (some q9, 9, 9)) ([0, 0, 0, 0, 0, 0, 0, 0, 0])), (Rw Kf 24 (Vs (some q9017, 9, 9)) ([a0_0, a0_1, a0_2, a0_3, a0_4, a0_5, a0_6, a0_7, a0_8])), (Rw Kf 24 (Vs (some q9018, 9, 9)) ([a1_0, a1_1, a1_2, a1_3, a1_4, a1_5, a1_6, a1_7, a1_8])), (Rw Kf 24 (Vs (some q9019, 9, 9)) ([0, 0, 0, 0, 0, 0, 0, 0, 0]))]) rfl ?_
      exact tx_pick' [1, 2, 3, 0] (sub_cons rfl (sub_cons rfl (sub_cons rfl (sub_cons rfl (sub_cons rfl (sub_cons rfl (sub_cons rfl (sub_cons rfl (sub_cons rfl (sub_cons rfl sub_nil)))))))))) (by decide) (pick_cons rfl (pick_cons rfl (pick_cons rfl (pick_cons rfl pick_nil)))) (hN19 (q9017, q9018, q9019, q9))
    intro hN8
    refine ax_node (f' := 7) #[true, true, true, true, true, false, true, true, true, false, false, false, true, false, false, false] (fun (v10 : Addr × Addr × Addr) => (⟨74, [], [(2, (Vl (.int .i64 a2))), (3, (Vl (.pointer ((some v10.1, 9, 9)).1))), (4, (Vl (.pointer ((some v10.2.1, 9, 9)).1))), (9, (Vl (.pointer ((some v10.2.2, 9, 9)).1))), (26, (Ag [(Vg r26.1), (Vg r26.2.1), (Vg r26.2.2.1), (Vg r26.2.2.2.1), (Vg r26.2.2.2.2.1), (Vg r26.2.2.2.2.2.1), (Vg r26.2.2.2.2.2.2.1), (Vg r26.2.2.2.2.2.2.2.1), (Vg r26.2.2.2.2.2.2.2.2)])), (27, (Ag [(Vg r27.1), (Vg r27.2.1), (Vg r27.2.2.1), (Vg r27.2.2.2.1), (Vg r27.2.2.2.2.1), (Vg r27.2.2.2.2.2.1), (Vg r27.2.2.2.2.2.2.1), (Vg r27.2.2.2.2.2.2.2.1), (Vg r27.2.2.2.2.2.2.2.2)])), (28, (Ag [(Vg r28.1), (Vg r28.2.1), (Vg r28.2.2.1), (Vg r28.2.2.2.1), (Vg r28.2.2.2.2.1), (Vg r28.2.2.2.2.2.1), (Vg r28.2.2.2.2.2.2.1), (Vg r28.2.2.2.2.2.2.2.1), (Vg r28.2.2.2.2.2.2.2.2)])), (31, (Vl (.float .f64 (i2f a2)))), (32, (Ag [(Vg r32.1), (Vg r32.2.1), (Vg r32.2.2.1), (Vg r32.2.2.2.1), (Vg r32.2.2.2.2.1), (Vg r32.2.2.2.2.2.1), (Vg r32.2.2.2.2.2.2.1), (Vg r32.2.2.2.2.2.2.2.1), (Vg r32.2.2.2.2.2.2.2.2)]))], [(Rw Kf 24 (Vs (some v10.1, 9, 9)) ([a0_0, a0_1, a0_2, a0_3, a0_4, a0_5, a0_6, a0_7, a0_8])), (Rw Kf 24 (Vs (some v10.2.1, 9, 9)) ([a1_0, a1_1, a1_2, a1_3, a1_4, a1_5, a1_6, a1_7, a1_8])), (Rw Kf 24 (Vs (some v10.2.2, 9, 9)) ([0, 0, 0, 0, 0, 0, 0, 0, 0]))]⟩ : St)) ?_ ?_
    ·rintro ⟨q9020, q9021, q9022⟩
     refine ax_all (i := 5) (is := [10, 11]) (by kernel_rfl) (all_cons ?_ (all_cons ?_ (all_cons ?_ all_nil)))
     ·refine nx_ox (last := #[true, true, true, true, true, true, true, true, true, false, false, false, true, false, false, false]) rfl (ox_calln' (ent_fn' Tryd.func11 isn11 rfl rfl) (impl_MatSub_sim _ _ _ _ _ _ _ _ _ _ _ _ _ _ _ _ _ _ hr29 : Go.Sx.Fn Tryd.prog 11 [(Ag [(Vg r27.1), (Vg r27.2.1), (Vg r27.2.2.1), (Vg r27.2.2.2.1), (Vg r27.2.2.2.2.1), (Vg r27.2.2.2.2.2.1), (Vg r27.2.2.2.2.2.2.1), (Vg r27.2.2.2.2.2.2.2.1), (Vg r27.2.2.2.2.2.2.2.2)]), (Ag [(Vg r28.1), (Vg r28.2.1), (Vg r28.2.2.1), (Vg r28.2.2.2.1), (Vg r28.2.2.2.2.1), (Vg r28.2.2.2.2.2.1), (Vg r28.2.2.2.2.2.2.1), (Vg r28.2.2.2.2.2.2.2.1), (Vg r28.2.2.2.2.2.2.2.2)])] [] (fun x : Unit => (Ag [(Vg r29.1), (Vg r29.2.1), (Vg r29.2.2.1), (Vg r29.2.2.2.1), (Vg r29.2.2.2.2.1), (Vg r29.2.2.2.2.2.1), (Vg r29.2.2.2.2.2.2.1), (Vg r29.2.2.2.2.2.2.2.1), (Vg r29.2.2.2.2.2.2.2.2)])) (fun x => [])) (Hn := fun x : Unit => [(Rw Kf 24 (Vs (some q9020, 9, 9)) ([a0_0, a0_1, a0_2, a0_3, a0_4, a0_5, a0_6, a0_7, a0_8])), (Rw Kf 24 (Vs (some q9021, 9, 9)) ([a1_0, a1_1, a1_2, a1_3, a1_4, a1_5, a1_6, a1_7, a1_8])), (Rw Kf 24 (Vs (some q9022, 9, 9)) ([0, 0, 0, 0, 0, 0, 0, 0, 0]))]) (fun _ => rfl) rfl rfl) rfl bs_nil (wt_none' rfl) rfl fun ⟨⟩ => ?_
      exact tx_pick' [0, 1, 2] (sub_cons rfl (sub_cons rfl (sub_cons rfl (sub_cons rfl (sub_cons rfl (sub_cons rfl (sub_cons rfl (sub_cons rfl sub_nil)))))))) (by decide) (pick_cons rfl (pick_cons rfl (pick_cons rfl pick_nil))) (hN16 (q9020, q9021, q9022))
     ·refine nx_ox (last := #[true, true, true, true, true, false, true, true, true, false, true, false, true, false, false, false]) rfl (ox_alloc' info24 rfl rfl rfl rfl (l := [(Vg 0), (Vg 0), (Vg 0), (Vg 0), (Vg 0), (Vg 0), (Vg 0), (Vg 0), (Vg 0)]) rfl) rfl bs_nil (wt_none' rfl) rfl fun q7 => ?_
      refine tx_arr' (K := Kf) (xs := [0, 0, 0, 0, 0, 0, 0, 0, 0]) (m := 9) (i := 0) rfl rfl rfl (H' := [(Rw Kf 24 (Vs (some q7, 9, 9)) ([0, 0, 0, 0, 0, 0, 0, 0, 0])), (Rw Kf 24 (Vs (some q9020, 9, 9)) ([a0_0, a0_1, a0_2, a0_3, a0_4, a0_5, a0_6, a0_7, a0_8])), (Rw Kf 24 (Vs (some q9021, 9, 9)) ([a1_0, a1_1, a1_2, a1_3, a1_4, a1_5, a1_6, a1_7, a1_8])), (Rw Kf 24 (Vs (some q9022, 9, 9)) ([0, 0, 0, 0, 0, 0, 0, 0, 0]))]) rfl ?_
      exact tx_pick' [1, 2, 0, 3] (sub_cons rfl (sub_cons rfl (sub_cons rfl (sub_cons rfl (sub_cons rfl (sub_cons rfl (sub_cons rfl (sub_cons rfl (sub_cons rfl (sub_cons rfl sub_nil)))))))))) (by decide) (pick_cons rfl (pick_cons rfl (pick_cons rfl (pick_cons rfl pick_nil)))) (hN18 (q9020, q9021, q7, q9022))
     ·refine nx_ox (last := #[true, true, true, true, true, false, true, true, true, false, false, true, true, false, false, false]) rfl (ox_alloc' info24 rfl rfl rfl rfl (l := [(Vg 0), (Vg 0), (Vg 0), (Vg 0), (Vg 0), (Vg 0), (Vg 0), (Vg 0), (Vg 0)]) rfl) rfl bs_nil (wt_none' rfl) rfl fun q8 => ?_
      refine tx_arr' (K := Kf) (xs := [0, 0, 0, 0, 0, 0, 0, 0, 0]) (m := 9) (i := 0) rfl rfl rfl (H' := [(Rw Kf 24 (Vs (some q8, 9, 9)) ([0, 0, 0, 0, 0, 0, 0, 0, 0])), (Rw Kf 24 (Vs (some q9020, 9, 9)) ([a0_0, a0_1, a0_2, a0_3, a0_4, a0_5, a0_6, a0_7, a0_8])), (Rw Kf 24 (Vs (some q9021, 9, 9)) ([a1_0, a1_1, a1_2, a1_3, a1_4, a1_5, a1_6, a1_7, a1_8])), (Rw Kf 24 (Vs (some q9022, 9, 9)) ([0, 0, 0, 0, 0, 0, 0, 0, 0]))]) rfl ?_
      exact tx_pick' [1, 2, 0, 3] (sub_cons rfl (sub_cons rfl (sub_cons rfl (sub_cons rfl (sub_cons rfl (sub_cons rfl (sub_cons rfl (sub_cons rfl (sub_cons rfl (sub_cons rfl sub_nil)))))))))) (by decide) (pick_cons rfl (pick_cons rfl (pick_cons rfl (pick_cons rfl pick_nil)))) (hN19 (q9020, q9021, q8, q9022))
    intro hN9
    refine ax_node (f' := 7) #[true, true, false, true, true, false, true, true, true, false, true, true, false, false, false, false] (fun (v11 : Addr × Addr × Addr × Addr) => (⟨74, [], [(2, (Vl (.int .i64 a2))), (3, (Vl (.pointer ((some v11.1, 9, 9)).1))), (4, (Vl (.pointer ((some v11.2.1, 9, 9)).1))), (7, (Vl (.pointer ((some v11.2.2.1, 9, 9)).1))), (8, (Vl (.pointer ((some v11.2.2.2, 9, 9)).1))), (24, (Ag [(Vg r24.1), (Vg r24.2.1), (Vg r24.2.2.1), (Vg r24.2.2.2.1), (Vg r24.2.2.2.2.1), (Vg r24.2.2.2.2.2.1), (Vg r24.2.2.2.2.2.2.1), (Vg r24.2.2.2.2.2.2.2.1), (Vg r24.2.2.2.2.2.2.2.2)])), (25, (Ag [(Vg r25.1), (Vg r25.2.1), (Vg r25.2.2.1), (Vg r25.2.2.2.1), (Vg r25.2.2.2.2.1), (Vg r25.2.2.2.2.2.1), (Vg r25.2.2.2.2.2.2.1), (Vg r25.2.2.2.2.2.2.2.1), (Vg r25.2.2.2.2.2.2.2.2)])), (27, (Ag [(Vg r27.1), (Vg r27.2.1), (Vg r27.2.2.1), (Vg r27.2.2.2.1), (Vg r27.2.2.2.2.1), (Vg r27.2.2.2.2.2.1), (Vg r27.2.2.2.2.2.2.1), (Vg r27.2.2.2.2.2.2.2.1), (Vg r27.2.2.2.2.2.2.2.2)])), (28, (Ag [(Vg r28.1), (Vg r28.2.1), (Vg r28.2.2.1), (Vg r28.2.2.2.1), (Vg r28.2.2.2.2.1), (Vg r28.2.2.2.2.2.1), (Vg r28.2.2.2.2.2.2.1), (Vg r28.2.2.2.2.2.2.2.1), (Vg r28.2.2.2.2.2.2.2.2)])), (31, (Vl (.float .f64 (i2f a2)))), (32, (Ag [(Vg r32.1), (Vg r32.2.1), (Vg r32.2.2.1), (Vg r32.2.2.2.1), (Vg r32.2.2.2.2.1), (Vg r32.2.2.2.2.2.1), (Vg r32.2.2.2.2.2.2.1), (Vg r32.2.2.2.2.2.2.2.1), (Vg r32.2.2.2.2.2.2.2.2)]))], [(Rw Kf 24 (Vs (some v11.1, 9, 9)) ([a0_0, a0_1, a0_2, a0_3, a0_4, a0_5, a0_6, a0_7, a0_8])), (Rw Kf 24 (Vs (some v11.2.1, 9, 9)) ([a1_0, a1_1, a1_2, a1_3, a1_4, a1_5, a1_6, a1_7, a1_8])), (Rw Kf 24 (Vs (some v11.2.2.1, 9, 9)) ([0, 0, 0, 0, 0, 0, 0, 0, 0])), (Rw Kf 24 (Vs (some v11.2.2.2, 9, 9)) ([0, 0, 0, 0, 0, 0, 0, 0, 0]))]⟩ : St)) ?_ ?_
    ·rintro ⟨q9023, q9024, q9025, q9026⟩
     refine ax_all (i := 2) (is := [12]) (by kernel_rfl) (all_cons ?_ (all_cons ?_ all_nil))
     ·refine nx_ox (last := #[true, true, true, true, true, false, true, true, true, false, true, true, false, false, false, false]) rfl (ox_calln' (ent_fn' Tryd.func10 isn10 rfl rfl) (impl_MatAdd_sim _ _ _ _ _ _ _ _ _ _ _ _ _ _ _ _ _ _ hr26 : Go.Sx.Fn Tryd.prog 10 [(Ag [(Vg r24.1), (Vg r24.2.1), (Vg r24.2.2.1), (Vg r24.2.2.2.1), (Vg r24.2.2.2.2.1), (Vg r24.2.2.2.2.2.1), (Vg r24.2.2.2.2.2.2.1), (Vg r24.2.2.2.2.2.2.2.1), (Vg r24.2.2.2.2.2.2.2.2)]), (Ag [(Vg r25.1), (Vg r25.2.1), (Vg r25.2.2.1), (Vg r25.2.2.2.1), (Vg r25.2.2.2.2.1), (Vg r25.2.2.2.2.2.1), (Vg r25.2.2.2.2.2.2.1), (Vg r25.2.2.2.2.2.2.2.1), (Vg r25.2.2.2.2.2.2.2.2)])] [] (fun x : Unit => (Ag [(Vg r26.1), (Vg r26.2.1), (Vg r26.2.2.1), (Vg r26.2.2.2.1), (Vg r26.2.2.2.2.1), (Vg r26.2.2.2.2.2.1), (Vg r26.2.2.2.2.2.2.1), (Vg r26.2.2.2.2.2.2.2.1), (Vg r26.2.2.2.2.2.2.2.2)])) (fun x => [])) (Hn := fun x : Unit => [(Rw Kf 24 (Vs (some q9023, 9, 9)) ([a0_0, a0_1, a0_2, a0_3, a0_4, a0_5, a0_6, a0_7, a0_8])), (Rw Kf 24 (Vs (some q9024, 9, 9)) ([a1_0, a1_1, a1_2, a1_3, a1_4, a1_5, a1_6, a1_7, a1_8])), (Rw Kf 24 (Vs (some q9025, 9, 9)) ([0, 0, 0, 0, 0, 0, 0, 0, 0])), (Rw Kf 24 (Vs (some q9026, 9, 9)) ([0, 0, 0, 0, 0, 0, 0, 0, 0]))]) (fun _ => rfl) rfl rfl) rfl bs_nil (wt_none' rfl) rfl fun ⟨⟩ => ?_
      exact tx_pick' [0, 1, 2, 3] (sub_cons rfl (sub_cons rfl (sub_cons rfl (sub_cons rfl (sub_cons rfl (sub_cons rfl (sub_cons rfl (sub_cons rfl (sub_cons rfl (sub_cons rfl sub_nil)))))))))) (by decide) (pick_cons rfl (pick_cons rfl (pick_cons rfl (pick_cons rfl pick_nil)))) (hN17 (q9023, q9024, q9025, q9026))
     ·refine nx_ox (last := #[true, true, false, true, true, false, true, true, true, false, true, true, true, false, false, false]) rfl (ox_alloc' info24 rfl rfl rfl rfl (l := [(Vg 0), (Vg 0), (Vg 0), (Vg 0), (Vg 0), (Vg 0), (Vg 0), (Vg 0), (Vg 0)]) rfl) rfl bs_nil (wt_none' rfl) rfl fun q9 => ?_
      refine tx_arr' (K := Kf) (xs := [0, 0, 0, 0, 0, 0, 0, 0, 0]) (m := 9) (i := 0) rfl rfl rfl (H' := [(Rw Kf 24 (Vs (some q9, 9, 9)) ([0, 0, 0, 0, 0, 0, 0, 0, 0])), (Rw Kf 24 (Vs (some q9023, 9, 9)) ([a0_0, a0_1, a0_2, a0_3, a0_4, a0_5, a0_6, a0_7, a0_8])), (Rw Kf 24 (Vs (some q9024, 9, 9)) ([a1_0, a1_1, a1_2, a1_3, a1_4, a1_5, a1_6, a1_7, a1_8])), (Rw Kf 24 (Vs (some q9025, 9, 9)) ([0, 0, 0, 0, 0, 0, 0, 0, 0])), (Rw Kf 24 (Vs (some q9026, 9, 9)) ([0, 0, 0, 0, 0, 0, 0, 0, 0]))]) rfl ?_
      exact tx_pick' [1, 2, 3, 4, 0] (sub_cons rfl (sub_cons rfl (sub_cons rfl (sub_cons rfl (sub_cons rfl (sub_cons rfl (sub_cons rfl (sub_cons rfl (sub_cons rfl (sub_cons rfl (sub_cons rfl (sub_cons rfl sub_nil)))))))))))) (by decide) (pick_cons rfl (pick_cons rfl (pick_cons rfl (pick_cons rfl (pick_cons rfl pick_nil))))) (hN20 (q9023, q9024, q9025, q9026, q9))
    intro hN10
    refine ax_node (f' := 7) #[true, true, false, true, true, false, true, true, true, false, true, false, true, false, false, false] (fun (v12 : Addr × Addr × Addr × Addr) => (⟨74, [], [(2, (Vl (.int .i64 a2))), (3, (Vl (.pointer ((some v12.1, 9, 9)).1))), (4, (Vl (.pointer ((some v12.2.1, 9, 9)).1))), (7, (Vl (.pointer ((some v12.2.2.1, 9, 9)).1))), (9, (Vl (.pointer ((some v12.2.2.2, 9, 9)).1))), (24, (Ag [(Vg r24.1), (Vg r24.2.1), (Vg r24.2.2.1), (Vg r24.2.2.2.1), (Vg r24.2.2.2.2.1), (Vg r24.2.2.2.2.2.1), (Vg r24.2.2.2.2.2.2.1), (Vg r24.2.2.2.2.2.2.2.1), (Vg r24.2.2.2.2.2.2.2.2)])), (25, (Ag [(Vg r25.1), (Vg r25.2.1), (Vg r25.2.2.1), (Vg r25.2.2.2.1), (Vg r25.2.2.2.2.1), (Vg r25.2.2.2.2.2.1), (Vg r25.2.2.2.2.2.2.1), (Vg r25.2.2.2.2.2.2.2.1), (Vg r25.2.2.2.2.2.2.2.2)])), (27, (Ag [(Vg r27.1), (Vg r27.2.1), (Vg r27.2.2.1), (Vg r27.2.2.2.1), (Vg r27.2.2.2.2.1), (Vg r27.2.2.2.2.2.1), (Vg r27.2.2.2.2.2.2.1), (Vg r27.2.2.2.2.2.2.2.1), (Vg r27.2.2.2.2.2.2.2.2)])), (28, (Ag [(Vg r28.1), (Vg r28.2.1), (Vg r28.2.2.1), (Vg r28.2.2.2.1), (Vg r28.2.2.2.2.1), (Vg r28.2.2.2.2.2.1), (Vg r28.2.2.2.2.2.2.1), (Vg r28.2.2.2.2.2.2.2.1), (Vg r28.2.2.2.2.2.2.2.2)])), (31, (Vl (.float .f64 (i2f a2)))), (32, (Ag [(Vg r32.1), (Vg r32.2.1), (Vg r32.2.2.1), (Vg r32.2.2.2.1), (Vg r32.2.2.2.2.1), (Vg r32.2.2.2.2.2.1), (Vg r32.2.2.2.2.2.2.1), (Vg r32.2.2.2.2.2.2.2.1), (Vg r32.2.2.2.2.2.2.2.2)]))], [(Rw Kf 24 (Vs (some v12.1, 9, 9)) ([a0_0, a0_1, a0_2, a0_3, a0_4, a0_5, a0_6, a0_7, a0_8])), (Rw Kf 24 (Vs (some v12.2.1, 9, 9)) ([a1_0, a1_1, a1_2, a1_3, a1_4, a1_5, a1_6, a1_7, a1_8])), (Rw Kf 24 (Vs (some v12.2.2.1, 9, 9)) ([0, 0, 0, 0, 0, 0, 0, 0, 0])), (Rw Kf 24 (Vs (some v12.2.2.2, 9, 9)) ([0, 0, 0, 0, 0, 0, 0, 0, 0]))]⟩ : St)) ?_ ?_
    ·rintro ⟨q9027, q9028, q9029, q9030⟩
     refine ax_all (i := 2) (is := [11]) (by kernel_rfl) (all_cons ?_ (all_cons ?_ all_nil))
     ·refine nx_ox (last := #[true, true, true, true, true, false, true, true, true, false, true, false, true, false, false, false]) rfl (ox_calln' (ent_fn' Tryd.func10 isn10 rfl rfl) (impl_MatAdd_sim _ _ _ _ _ _ _ _ _ _ _ _ _ _ _ _ _ _ hr26 : Go.Sx.Fn Tryd.prog 10 [(Ag [(Vg r24.1), (Vg r24.2.1), (Vg r24.2.2.1), (Vg r24.2.2.2.1), (Vg r24.2.2.2.2.1), (Vg r24.2.2.2.2.2.1), (Vg r24.2.2.2.2.2.2.1), (Vg r24.2.2.2.2.2.2.2.1), (Vg r24.2.2.2.2.2.2.2.2)]), (Ag [(Vg r25.1), (Vg r25.2.1), (Vg r25.2.2.1), (Vg r25.2.2.2.1), (Vg r25.2.2.2.2.1), (Vg r25.2.2.2.2.2.1), (Vg r25.2.2.2.2.2.2.1), (Vg r25.2.2.2.2.2.2.2.1), (Vg r25.2.2.2.2.2.2.2.2)])] [] (fun x : Unit => (Ag [(Vg r26.1), (Vg r26.2.1), (Vg r26.2.2.1), (Vg r26.2.2.2.1), (Vg r26.2.2.2.2.1), (Vg r26.2.2.2.2.2.1), (Vg r26.2.2.2.2.2.2.1), (Vg r26.2.2.2.2.2.2.2.1), (Vg r26.2.2.2.2.2.2.2.2)])) (fun x => [])) (Hn := fun x : Unit => [(Rw Kf 24 (Vs (some q9027, 9, 9)) ([a0_0, a0_1, a0_2, a0_3, a0_4, a0_5, a0_6, a0_7, a0_8])), (Rw Kf 24 (Vs (some q9028, 9, 9)) ([a1_0, a1_1, a1_2, a1_3, a1_4, a1_5, a1_6, a1_7, a1_8])), (Rw Kf 24 (Vs (some q9029, 9, 9)) ([0, 0, 0, 0, 0, 0, 0, 0, 0])), (Rw Kf 24 (Vs (some q9030, 9, 9)) ([0, 0, 0, 0, 0, 0, 0, 0, 0]))]) (fun _ => rfl) rfl rfl) rfl bs_nil (wt_none' rfl) rfl fun ⟨⟩ => ?_
      exact tx_pick' [0, 1, 2, 3] (sub_cons rfl (sub_cons rfl (sub_cons rfl (sub_cons rfl (sub_cons rfl (sub_cons rfl (sub_cons rfl (sub_cons rfl (sub_cons rfl (sub_cons rfl sub_nil)))))))))) (by decide) (pick_cons rfl (pick_cons rfl (pick_cons rfl (pick_cons rfl pick_nil)))) (hN18 (q9027, q9028, q9029, q9030))
     ·refine nx_ox (last := #[true, true, false, true, true, false, true, true, true, false, true, true, true, false, false, false]) rfl (ox_alloc' info24 rfl rfl rfl rfl (l := [(Vg 0), (Vg 0), (Vg 0), (Vg 0), (Vg 0), (Vg 0), (Vg 0), (Vg 0), (Vg 0)]) rfl) rfl bs_nil (wt_none' rfl) rfl fun q8 => ?_
      refine tx_arr' (K := Kf) (xs := [0, 0, 0, 0, 0, 0, 0, 0, 0]) (m := 9) (i := 0) rfl rfl rfl (H' := [(Rw Kf 24 (Vs (some q8, 9, 9)) ([0, 0, 0, 0, 0, 0, 0, 0, 0])), (Rw Kf 24 (Vs (some q9027, 9, 9)) ([a0_0, a0_1, a0_2, a0_3, a0_4, a0_5, a0_6, a0_7, a0_8])), (Rw Kf 24 (Vs (some q9028, 9, 9)) ([a1_0, a1_1, a1_2, a1_3, a1_4, a1_5, a1_6, a1_7, a1_8])), (Rw Kf 24 (Vs (some q9029, 9, 9)) ([0, 0, 0, 0, 0, 0, 0, 0, 0])), (Rw Kf 24 (Vs (some q9030, 9, 9)) ([0, 0, 0, 0, 0, 0, 0, 0, 0]))]) rfl ?_
      exact tx_pick' [1, 2, 3, 0, 4] (sub_cons rfl (sub_cons rfl (sub_cons rfl (sub_cons rfl (sub_cons rfl (sub_cons rfl (sub_cons rfl (sub_cons rfl (sub_cons rfl (sub_cons rfl (sub_cons rfl (sub_cons rfl sub_nil)))))))))))) (by decide) (pick_cons rfl (pick_cons rfl (pick_cons rfl (pick_cons rfl (pick_cons rfl pick_nil))))) (hN20 (q9027, q9028, q9029, q8, q9030))
    intro hN11
    refine ax_node (f' := 7) #[true, true, false, true, true, false, true, true, true, false, false, true, true, false, false, false] (fun (v13 : Addr × Addr × Addr × Addr) => (⟨74, [], [(2, (Vl (.int .i64 a2))), (3, (Vl (.pointer ((some v13.1, 9, 9)).1))), (4, (Vl (.pointer ((some v13.2.1, 9, 9)).1))), (8, (Vl (.pointer ((some v13.2.2.1, 9, 9)).1))), (9, (Vl (.pointer ((some v13.2.2.2, 9, 9)).1))), (24, (Ag [(Vg r24.1), (Vg r24.2.1), (Vg r24.2.2.1), (Vg r24.2.2.2.1), (Vg r24.2.2.2.2.1), (Vg r24.2.2.2.2.2.1), (Vg r24.2.2.2.2.2.2.1), (Vg r24.2.2.2.2.2.2.2.1), (Vg r24.2.2.2.2.2.2.2.2)])), (25, (Ag [(Vg r25.1), (Vg r25.2.1), (Vg r25.2.2.1), (Vg r25.2.2.2.1), (Vg r25.2.2.2.2.1), (Vg r25.2.2.2.2.2.1), (Vg r25.2.2.2.2.2.2.1), (Vg r25.2.2.2.2.2.2.2.1), (Vg r25.2.2.2.2.2.2.2.2)])), (27, (Ag [(Vg r27.1), (Vg r27.2.1), (Vg r27.2.2.1), (Vg r27.2.2.2.1), (Vg r27.2.2.2.2.1), (Vg r27.2.2.2.2.2.1), (Vg r27.2.2.2.2.2.2.1), (Vg r27.2.2.2.2.2.2.2.1), (Vg r27.2.2.2.2.2.2.2.2)])), (28, (Ag [(Vg r28.1), (Vg r28.2.1), (Vg r28.2.2.1), (Vg r28.2.2.2.1), (Vg r28.2.2.2.2.1), (Vg r28.2.2.2.2.2.1), (Vg r28.2.2.2.2.2.2.1), (Vg r28.2.2.2.2.2.2.2.1), (Vg r28.2.2.2.2.2.2.2.2)])), (31, (Vl (.float .f64 (i2f a2)))), (32, (Ag [(Vg r32.1), (Vg r32.2.1), (Vg r32.2.2.1), (Vg r32.2.2.2.1), (Vg r32.2.2.2.2.1), (Vg r32.2.2.2.2.2.1), (Vg r32.2.2.2.2.2.2.1), (Vg r32.2.2.2.2.2.2.2.1), (Vg r32.2.2.2.2.2.2.2.2)]))], [(Rw Kf 24 (Vs (some v13.1, 9, 9)) ([a0_0, a0_1, a0_2, a0_3, a0_4, a0_5, a0_6, a0_7, a0_8])), (Rw Kf 24 (Vs (some v13.2.1, 9, 9)) ([a1_0, a1_1, a1_2, a1_3, a1_4, a1_5, a1_6, a1_7, a1_8])), (Rw Kf 24 (Vs (some v13.2.2.1, 9, 9)) ([0, 0, 0, 0, 0, 0, 0, 0, 0])), (Rw Kf 24 (Vs (some v13.2.2.2, 9, 9)) ([0, 0, 0, 0, 0, 0, 0, 0, 0]))]⟩ : St)) ?_ ?_
    ·rintro ⟨q9031, q9032, q9033, q9034⟩
     refine ax_all (i := 2) (is := [10]) (by kernel_rfl) (all_cons ?_ (all_cons ?_ all_nil))
     ·refine nx_ox (last := #[true, true, true, true, true, false, true, true, true, false, false, true, true, false, false, false]) rfl (ox_calln' (ent_fn' Tryd.func10 isn10 rfl rfl) (impl_MatAdd_sim _ _ _ _ _ _ _ _ _ _ _ _ _ _ _ _ _ _ hr26 : Go.Sx.Fn Tryd.prog 10 [(Ag [(Vg r24.1), (Vg r24.2.1), (Vg r24.2.2.1), (Vg r24.2.2.2.1), (Vg r24.2.2.2.2.1), (Vg r24.2.2.2.2.2.1), (Vg r24.2.2.2.2.2.2.1), (Vg r24.2.2.2.2.2.2.2.1), (Vg r24.2.2.2.2.2.2.2.2)]), (Ag [(Vg r25.1), (Vg r25.2.1), (Vg r25.2.2.1), (Vg r25.2.2.2.1), (Vg r25.2.2.2.2.1), (Vg r25.2.2.2.2.2.1), (Vg r25.2.2.2.2.2.2.1), (Vg r25.2.2.2.2.2.2.2.1), (Vg r25.2.2.2.2.2.2.2.2)])] [] (fun x : Unit => (Ag [(Vg r26.1), (Vg r26.2.1), (Vg r26.2.2.1), (Vg r26.2.2.2.1), (Vg r26.2.2.2.2.1), (Vg r26.2.2.2.2.2.1), (Vg r26.2.2.2.2.2.2.1), (Vg r26.2.2.2.2.2.2.2.1), (Vg r26.2.2.2.2.2.2.2.2)])) (fun x => [])) (Hn := fun x : Unit => [(Rw Kf 24 (Vs (some q9031, 9, 9)) ([a0_0, a0_1, a0_2, a0_3, a0_4, a0_5, a0_6, a0_7, a0_8])), (Rw Kf 24 (Vs (some q9032, 9, 9)) ([a1_0, a1_1, a1_2, a1_3, a1_4, a1_5, a1_6, a1_7, a1_8])), (Rw Kf 24 (Vs (some q9033, 9, 9)) ([0, 0, 0, 0, 0, 0, 0, 0, 0])), (Rw Kf 24 (Vs (some q9034, 9, 9)) ([0, 0, 0, 0, 0, 0, 0, 0, 0]))]) (fun _ => rfl) rfl rfl) rfl bs_nil (wt_none' rfl) rfl fun ⟨⟩ => ?_
      exact tx_pick' [0, 1, 2, 3] (sub_cons rfl (sub_cons rfl (sub_cons rfl (sub_cons rfl (sub_cons rfl (sub_cons rfl (sub_cons rfl (sub_cons rfl (sub_cons rfl (sub_cons rfl sub_nil)))))))))) (by decide) (pick_cons rfl (pick_cons rfl (pick_cons rfl (pick_cons rfl pick_nil)))) (hN19 (q9031, q9032, q9033, q9034))
     ·refine nx_ox (last := #[true, true, false, true, true, false, true, true, true, false, true, true, true, false, false, false]) rfl (ox_alloc' info24 rfl rfl rfl rfl (l := [(Vg 0), (Vg 0), (Vg 0), (Vg 0), (Vg 0), (Vg 0), (Vg 0), (Vg 0), (Vg 0)]) rfl) rfl bs_nil (wt_none' rfl) rfl fun q7 => ?_
      refine tx_arr' (K := Kf) (xs := [0, 0, 0, 0, 0, 0, 0, 0, 0]) (m := 9) (i := 0) rfl rfl rfl (H' := [(Rw Kf 24 (Vs (some q7, 9, 9)) ([0, 0, 0, 0, 0, 0, 0, 0, 0])), (Rw Kf 24 (Vs (some q9031, 9, 9)) ([a0_0, a0_1, a0_2, a0_3, a0_4, a0_5, a0_6, a0_7, a0_8])), (Rw Kf 24 (Vs (some q9032, 9, 9)) ([a1_0, a1_1, a1_2, a1_3, a1_4, a1_5, a1_6, a1_7, a1_8])), (Rw Kf 24 (Vs (some q9033, 9, 9)) ([0, 0, 0, 0, 0, 0, 0, 0, 0])), (Rw Kf 24 (Vs (some q9034, 9, 9)) ([0, 0, 0, 0, 0, 0, 0, 0, 0]))]) rfl ?_
      exact tx_pick' [1, 2, 0, 3, 4] (sub_cons rfl (sub_cons rfl (sub_cons rfl (sub_cons rfl (sub_cons rfl (sub_cons rfl (sub_cons rfl (sub_cons rfl (sub_cons rfl (sub_cons rfl (sub_cons rfl (sub_cons rfl sub_nil)))))))))))) (by decide) (pick_cons rfl (pick_cons rfl (pick_cons rfl (pick_cons rfl (pick_cons rfl pick_nil))))) (hN20 (q9031, q9032, q7, q9033, q9034))
    intro hN12
    refine ax_node (f' := 8) #[true, true, true, true, true, false, true, true, true, false, false, false, false, false, false, false] (fun (v3 : Addr × Addr) => (⟨74, [], [(2, (Vl (.int .i64 a2))), (3, (Vl (.pointer ((some v3.1, 9, 9)).1))), (4, (Vl (.pointer ((some v3.2, 9, 9)).1))), (26, (Ag [(Vg r26.1), (Vg r26.2.1), (Vg r26.2.2.1), (Vg r26.2.2.2.1), (Vg r26.2.2.2.2.1), (Vg r26.2.2.2.2.2.1), (Vg r26.2.2.2.2.2.2.1), (Vg r26.2.2.2.2.2.2.2.1), (Vg r26.2.2.2.2.2.2.2.2)])), (27, (Ag [(Vg r27.1), (Vg r27.2.1), (Vg r27.2.2.1), (Vg r27.2.2.2.1), (Vg r27.2.2.2.2.1), (Vg r27.2.2.2.2.2.1), (Vg r27.2.2.2.2.2.2.1), (Vg r27.2.2.2.2.2.2.2.1), (Vg r27.2.2.2.2.2.2.2.2)])), (28, (Ag [(Vg r28.1), (Vg r28.2.1), (Vg r28.2.2.1), (Vg r28.2.2.2.1), (Vg r28.2.2.2.2.1), (Vg r28.2.2.2.2.2.1), (Vg r28.2.2.2.2.2.2.1), (Vg r28.2.2.2.2.2.2.2.1), (Vg r28.2.2.2.2.2.2.2.2)])), (31, (Vl (.float .f64 (i2f a2)))), (32, (Ag [(Vg r32.1), (Vg r32.2.1), (Vg r32.2.2.1), (Vg r32.2.2.2.1), (Vg r32.2.2.2.2.1), (Vg r32.2.2.2.2.2.1), (Vg r32.2.2.2.2.2.2.1), (Vg r32.2.2.2.2.2.2.2.1), (Vg r32.2.2.2.2.2.2.2.2)]))], [(Rw Kf 24 (Vs (some v3.1, 9, 9)) ([a0_0, a0_1, a0_2, a0_3, a0_4, a0_5, a0_6, a0_7, a0_8])), (Rw Kf 24 (Vs (some v3.2, 9, 9)) ([a1_0, a1_1, a1_2, a1_3, a1_4, a1_5, a1_6, a1_7, a1_8]))]⟩ : St)) ?_ ?_
    ·rintro ⟨q901, q902⟩
     refine ax_all (i := 5) (is := [10, 11, 12]) (by kernel_rfl) (all_cons ?_ (all_cons ?_ (all_cons ?_ (all_cons ?_ all_nil))))
     ·refine nx_ox (last := #[true, true, true, true, true, true, true, true, true, false, false, false, false, false, false, false]) rfl (ox_calln' (ent_fn' Tryd.func11 isn11 rfl rfl) (impl_MatSub_sim _ _ _ _ _ _ _ _ _ _ _ _ _ _ _ _ _ _ hr29 : Go.Sx.Fn Tryd.prog 11 [(Ag [(Vg r27.1), (Vg r27.2.1), (Vg r27.2.2.1), (Vg r27.2.2.2.1), (Vg r27.2.2.2.2.1), (Vg r27.2.2.2.2.2.1), (Vg r27.2.2.2.2.2.2.1), (Vg r27.2.2.2.2.2.2.2.1), (Vg r27.2.2.2.2.2.2.2.2)]), (Ag [(Vg r28.1), (Vg r28.2.1), (Vg r28.2.2.1), (Vg r28.2.2.2.1), (Vg r28.2.2.2.2.1), (Vg r28.2.2.2.2.2.1), (Vg r28.2.2.2.2.2.2.1), (Vg r28.2.2.2.2.2.2.2.1), (Vg r28.2.2.2.2.2.2.2.2)])] [] (fun x : Unit => (Ag [(Vg r29.1), (Vg r29.2.1), (Vg r29.2.2.1), (Vg r29.2.2.2.1), (Vg r29.2.2.2.2.1), (Vg r29.2.2.2.2.2.1), (Vg r29.2.2.2.2.2.2.1), (Vg r29.2.2.2.2.2.2.2.1), (Vg r29.2.2.2.2.2.2.2.2)])) (fun x => [])) (Hn := fun x : Unit => [(Rw Kf 24 (Vs (some q901, 9, 9)) ([a0_0, a0_1, a0_2, a0_3, a0_4, a0_5, a0_6, a0_7, a0_8])), (Rw Kf 24 (Vs (some q902, 9, 9)) ([a1_0, a1_1, a1_2, a1_3, a1_4, a1_5, a1_6, a1_7, a1_8]))]) (fun _ => rfl) rfl rfl) rfl bs_nil (wt_none' rfl) rfl fun ⟨⟩ => ?_
      exact tx_pick' [0, 1] (sub_cons rfl (sub_cons rfl (sub_cons rfl (sub_cons rfl (sub_cons rfl (sub_cons rfl (sub_cons rfl sub_nil))))))) (by decide) (pick_cons rfl (pick_cons rfl pick_nil)) (hN6 (q901, q902))
     ·refine nx_ox (last := #[true, true, true, true, true, false, true, true, true, false, true, false, false, false, false, false]) rfl (ox_alloc' info24 rfl rfl rfl rfl (l := [(Vg 0), (Vg 0), (Vg 0), (Vg 0), (Vg 0), (Vg 0), (Vg 0), (Vg 0), (Vg 0)]) rfl) rfl bs_nil (wt_none' rfl) rfl fun q7 => ?_
      refine tx_arr' (K := Kf) (xs := [0, 0, 0, 0, 0, 0, 0, 0, 0]) (m := 9) (i := 0) rfl rfl rfl (H' := [(Rw Kf 24 (Vs (some q7, 9, 9)) ([0, 0, 0, 0, 0, 0, 0, 0, 0])), (Rw Kf 24 (Vs (some q901, 9, 9)) ([a0_0, a0_1, a0_2, a0_3, a0_4, a0_5, a0_6, a0_7, a0_8])), (Rw Kf 24 (Vs (some q902, 9, 9)) ([a1_0, a1_1, a1_2, a1_3, a1_4, a1_5, a1_6, a1_7, a1_8]))]) rfl ?_
      exact tx_pick' [1, 2, 0] (sub_cons rfl (sub_cons rfl (sub_cons rfl (sub_cons rfl (sub_cons rfl (sub_cons rfl (sub_cons rfl (sub_cons rfl (sub_cons rfl sub_nil))))))))) (by decide) (pick_cons rfl (pick_cons rfl (pick_cons rfl pick_nil))) (hN7 (q901, q902, q7))
     ·refine nx_ox (last := #[true, true, true, true, true, false, true, true, true, false, false, true, false, false, false, false]) rfl (ox_alloc' info24 rfl rfl rfl rfl (l := [(Vg 0), (Vg 0), (Vg 0), (Vg 0), (Vg 0), (Vg 0), (Vg 0), (Vg 0), (Vg 0)]) rfl) rfl bs_nil (wt_none' rfl) rfl fun q8 => ?_
      refine tx_arr' (K := Kf) (xs := [0, 0, 0, 0, 0, 0, 0, 0, 0]) (m := 9) (i := 0) rfl rfl rfl (H' := [(Rw Kf 24 (Vs (some q8, 9, 9)) ([0, 0, 0, 0, 0, 0, 0, 0, 0])), (Rw Kf 24 (Vs (some q901, 9, 9)) ([a0_0, a0_1, a0_2, a0_3, a0_4, a0_5, a0_6, a0_7, a0_8])), (Rw Kf 24 (Vs (some q902, 9, 9)) ([a1_0, a1_1, a1_2, a1_3, a1_4, a1_5, a1_6, a1_7, a1_8]))]) rfl ?_
      exact tx_pick' [1, 2, 0] (sub_cons rfl (sub_cons rfl (sub_cons rfl (sub_cons rfl (sub_cons rfl (sub_cons rfl (sub_cons rfl (sub_cons rfl (sub_cons rfl sub_nil))))))))) (by decide) (pick_cons rfl (pick_cons rfl (pick_cons rfl pick_nil))) (hN8 (q901, q902, q8))
     ·refine nx_ox (last := #[true, true, true, true, true, false, true, true, true, false, false, false, true, false, false, false]) rfl (ox_alloc' info24 rfl rfl rfl rfl (l := [(Vg 0), (Vg 0), (Vg 0), (Vg 0), (Vg 0), (Vg 0), (Vg 0), (Vg 0), (Vg 0)]) rfl) rfl bs_nil (wt_none' rfl) rfl fun q9 => ?_
      refine tx_arr' (K := Kf) (xs := [0, 0, 0, 0, 0, 0, 0, 0, 0]) (m := 9) (i := 0) rfl rfl rfl (H' := [(Rw Kf 24 (Vs (some q9, 9, 9)) ([0, 0, 0, 0, 0, 0, 0, 0, 0])), (Rw Kf 24 (Vs (some q901, 9, 9)) ([a0_0, a0_1, a0_2, a0_3, a0_4, a0_5, a0_6, a0_7, a0_8])), (Rw Kf 24 (Vs (some q902, 9, 9)) ([a1_0, a1_1, a1_2, a1_3, a1_4, a1_5, a1_6, a1_7, a1_8]))]) rfl ?_
      exact tx_pick' [1, 2, 0] (sub_cons rfl (sub_cons rfl (sub_cons rfl (sub_cons rfl (sub_cons rfl (sub_cons rfl (sub_cons rfl (sub_cons rfl (sub_cons rfl sub_nil))))))))) (by decide) (pick_cons rfl (pick_cons rfl (pick_cons rfl pick_nil))) (hN9 (q901, q902, q9))
    intro hN2
    refine ax_node (f' := 8) #[true, true, false, true, true, false, true, true, true, false, true, false, false, false, false, false] (fun (v4 : Addr × Addr × Addr) => (⟨74, [], [(2, (Vl (.int .i64 a2))), (3, (Vl (.pointer ((some v4.1, 9, 9)).1))), (4, (Vl (.pointer ((some v4.2.1, 9, 9)).1))), (7, (Vl (.pointer ((some v4.2.2, 9, 9)).1))), (24, (Ag [(Vg r24.1), (Vg r24.2.1), (Vg r24.2.2.1), (Vg r24.2.2.2.1), (Vg r24.2.2.2.2.1), (Vg r24.2.2.2.2.2.1), (Vg r24.2.2.2.2.2.2.1), (Vg r24.2.2.2.2.2.2.2.1), (Vg r24.2.2.2.2.2.2.2.2)])), (25, (Ag [(Vg r25.1), (Vg r25.2.1), (Vg r25.2.2.1), (Vg r25.2.2.2.1), (Vg r25.2.2.2.2.1), (Vg r25.2.2.2.2.2.1), (Vg r25.2.2.2.2.2.2.1), (Vg r25.2.2.2.2.2.2.2.1), (Vg r25.2.2.2.2.2.2.2.2)])), (27, (Ag [(Vg r27.1), (Vg r27.2.1), (Vg r27.2.2.1), (Vg r27.2.2.2.1), (Vg r27.2.2.2.2.1), (Vg r27.2.2.2.2.2.1), (Vg r27.2.2.2.2.2.2.1), (Vg r27.2.2.2.2.2.2.2.1), (Vg r27.2.2.2.2.2.2.2.2)])), (28, (Ag [(Vg r28.1), (Vg r28.2.1), (Vg r28.2.2.1), (Vg r28.2.2.2.1), (Vg r28.2.2.2.2.1), (Vg r28.2.2.2.2.2.1), (Vg r28.2.2.2.2.2.2.1), (Vg r28.2.2.2.2.2.2.2.1), (Vg r28.2.2.2.2.2.2.2.2)])), (31, (Vl (.float .f64 (i2f a2)))), (32, (Ag [(Vg r32.1), (Vg r32.2.1), (Vg r32.2.2.1), (Vg r32.2.2.2.1), (Vg r32.2.2.2.2.1), (Vg r32.2.2.2.2.2.1), (Vg r32.2.2.2.2.2.2.1), (Vg r32.2.2.2.2.2.2.2.1), (Vg r32.2.2.2.2.2.2.2.2)]))], [(Rw Kf 24 (Vs (some v4.1, 9, 9)) ([a0_0, a0_1, a0_2, a0_3, a0_4, a0_5, a0_6, a0_7, a0_8])), (Rw Kf 24 (Vs (some v4.2.1, 9, 9)) ([a1_0, a1_1, a1_2, a1_3, a1_4, a1_5, a1_6, a1_7, a1_8])), (Rw Kf 24 (Vs (some v4.2.2, 9, 9)) ([0, 0, 0, 0, 0, 0, 0, 0, 0]))]⟩ : St)) ?_ ?_
    ·rintro ⟨q903, q904, q905⟩
     refine ax_all (i := 2) (is := [11, 12]) (by kernel_rfl) (all_cons ?_ (all_cons ?_ (all_cons ?_ all_nil)))
     ·refine nx_ox (last := #[true, true, true, true, true, false, true, true, true, false, true, false, false, false, false, false]) rfl (ox_calln' (ent_fn' Tryd.func10 isn10 rfl rfl) (impl_MatAdd_sim _ _ _ _ _ _ _ _ _ _ _ _ _ _ _ _ _ _ hr26 : Go.Sx.Fn Tryd.prog 10 [(Ag [(Vg r24.1), (Vg r24.2.1), (Vg r24.2.2.1), (Vg r24.2.2.2.1), (Vg r24.2.2.2.2.1), (Vg r24.2.2.2.2.2.1), (Vg r24.2.2.2.2.2.2.1), (Vg r24.2.2.2.2.2.2.2.1), (Vg r24.2.2.2.2.2.2.2.2)]), (Ag [(Vg r25.1), (Vg r25.2.1), (Vg r25.2.2.1), (Vg r25.2.2.2.1), (Vg r25.2.2.2.2.1), (Vg r25.2.2.2.2.2.1), (Vg r25.2.2.2.2.2.2.1), (Vg r25.2.2.2.2.2.2.2.1), (Vg r25.2.2.2.2.2.2.2.2)])] [] (fun x : Unit => (Ag [(Vg r26.1), (Vg r26.2.1), (Vg r26.2.2.1), (Vg r26.2.2.2.1), (Vg r26.2.2.2.2.1), (Vg r26.2.2.2.2.2.1), (Vg r26.2.2.2.2.2.2.1), (Vg r26.2.2.2.2.2.2.2.1), (Vg r26.2.2.2.2.2.2.2.2)])) (fun x => [])) (Hn := fun x : Unit => [(Rw Kf 24 (Vs (some q903, 9, 9)) ([a0_0, a0_1, a0_2, a0_3, a0_4, a0_5, a0_6, a0_7, a0_8])), (Rw Kf 24 (Vs (some q904, 9, 9)) ([a1_0, a1_1, a1_2, a1_3, a1_4, a1_5, a1_6, a1_7, a1_8])), (Rw Kf 24 (Vs (some q905, 9, 9)) ([0, 0, 0, 0, 0, 0, 0, 0, 0]))]) (fun _ => rfl) rfl rfl) rfl bs_nil (wt_none' rfl) rfl fun ⟨⟩ => ?_
      exact tx_pick' [0, 1, 2] (sub_cons rfl (sub_cons rfl (sub_cons rfl (sub_cons rfl (sub_cons rfl (sub_cons rfl (sub_cons rfl (sub_cons rfl (sub_cons rfl sub_nil))))))))) (by decide) (pick_cons rfl (pick_cons rfl (pick_cons rfl pick_nil))) (hN7 (q903, q904, q905))
     ·refine nx_ox (last := #[true, true, false, true, true, false, true, true, true, false, true, true, false, false, false, false]) rfl (ox_alloc' info24 rfl rfl rfl rfl (l := [(Vg 0), (Vg 0), (Vg 0), (Vg 0), (Vg 0), (Vg 0), (Vg 0), (Vg 0), (Vg 0)]) rfl) rfl bs_nil (wt_none' rfl) rfl fun q8 => ?_
      refine tx_arr' (K := Kf) (xs := [0, 0, 0, 0, 0, 0, 0, 0, 0]) (m := 9) (i := 0) rfl rfl rfl (H' := [(Rw Kf 24 (Vs (some q8, 9, 9)) ([0, 0, 0, 0, 0, 0, 0, 0, 0])), (Rw Kf 24 (Vs (some q903, 9, 9)) ([a0_0, a0_1, a0_2, a0_3, a0_4, a0_5, a0_6, a0_7, a0_8])), (Rw Kf 24 (Vs (some q904, 9, 9)) ([a1_0, a1_1, a1_2, a1_3, a1_4, a1_5, a1_6, a1_7, a1_8])), (Rw Kf 24 (Vs (some q905, 9, 9)) ([0, 0, 0, 0, 0, 0, 0, 0, 0]))]) rfl ?_
      exact tx_pick' [1, 2, 3, 0] (sub_cons rfl (sub_cons rfl (sub_cons rfl (sub_cons rfl (sub_cons rfl (sub_cons rfl (sub_cons rfl (sub_cons rfl (sub_cons rfl (sub_cons rfl (sub_cons rfl sub_nil))))))))))) (by decide) (pick_cons rfl (pick_cons rfl (pick_cons rfl (pick_cons rfl pick_nil)))) (hN10 (q903, q904, q905, q8))
     ·refine nx_ox (last := #[true, true, false, true, true, false, true, true, true, false, true, false, true, false, false, false]) rfl (ox_alloc' info24 rfl rfl rfl rfl (l := [(Vg 0), (Vg 0), (Vg 0), (Vg 0), (Vg 0), (Vg 0), (Vg 0), (Vg 0), (Vg 0)]) rfl) rfl bs_nil (wt_none' rfl) rfl fun q9 => ?_
      refine tx_arr' (K := Kf) (xs := [0, 0, 0, 0, 0, 0, 0, 0, 0]) (m := 9) (i := 0) rfl rfl rfl (H' := [(Rw Kf 24 (Vs (some q9, 9, 9)) ([0, 0, 0, 0, 0, 0, 0, 0, 0])), (Rw Kf 24 (Vs (some q903, 9, 9)) ([a0_0, a0_1, a0_2, a0_3, a0_4, a0_5, a0_6, a0_7, a0_8])), (Rw Kf 24 (Vs (some q904, 9, 9)) ([a1_0, a1_1, a1_2, a1_3, a1_4, a1_5, a1_6, a1_7, a1_8])), (Rw Kf 24 (Vs (some q905, 9, 9)) ([0, 0, 0, 0, 0, 0, 0, 0, 0]))]) rfl ?_
      exact tx_pick' [1, 2, 3, 0] (sub_cons rfl (sub_cons rfl (sub_cons rfl (sub_cons rfl (sub_cons rfl (sub_cons rfl (sub_cons rfl (sub_cons rfl (sub_cons rfl (sub_cons rfl (sub_cons rfl sub_nil))))))))))) (by decide) (pick_cons rfl (pick_cons rfl (pick_cons rfl (pick_cons rfl pick_nil)))) (hN11 (q903, q904, q905, q9))
    intro hN3
    refine ax_node (f' := 8) #[true, true, false, true, true, false, true, true, true, false, false, true, false, false, false, false] (fun (v5 : Addr × Addr × Addr) => (⟨74, [], [(2, (Vl (.int .i64 a2))), (3, (Vl (.pointer ((some v5.1, 9, 9)).1))), (4, (Vl (.pointer ((some v5.2.1, 9, 9)).1))), (8, (Vl (.pointer ((some v5.2.2, 9, 9)).1))), (24, (Ag [(Vg r24.1), (Vg r24.2.1), (Vg r24.2.2.1), (Vg r24.2.2.2.1), (Vg r24.2.2.2.2.1), (Vg r24.2.2.2.2.2.1), (Vg r24.2.2.2.2.2.2.1), (Vg r24.2.2.2.2.2.2.2.1), (Vg r24.2.2.2.2.2.2.2.2)])), (25, (Ag [(Vg r25.1), (Vg r25.2.1), (Vg r25.2.2.1), (Vg r25.2.2.2.1), (Vg r25.2.2.2.2.1), (Vg r25.2.2.2.2.2.1), (Vg r25.2.2.2.2.2.2.1), (Vg r25.2.2.2.2.2.2.2.1), (Vg r25.2.2.2.2.2.2.2.2)])), (27, (Ag [(Vg r27.1), (Vg r27.2.1), (Vg r27.2.2.1), (Vg r27.2.2.2.1), (Vg r27.2.2.2.2.1), (Vg r27.2.2.2.2.2.1), (Vg r27.2.2.2.2.2.2.1), (Vg r27.2.2.2.2.2.2.2.1), (Vg r27.2.2.2.2.2.2.2.2)])), (28, (Ag [(Vg r28.1), (Vg r28.2.1), (Vg r28.2.2.1), (Vg r28.2.2.2.1), (Vg r28.2.2.2.2.1), (Vg r28.2.2.2.2.2.1), (Vg r28.2.2.2.2.2.2.1), (Vg r28.2.2.2.2.2.2.2.1), (Vg r28.2.2.2.2.2.2.2.2)])), (31, (Vl (.float .f64 (i2f a2)))), (32, (Ag [(Vg r32.1), (Vg r32.2.1), (Vg r32.2.2.1), (Vg r32.2.2.2.1), (Vg r32.2.2.2.2.1), (Vg r32.2.2.2.2.2.1), (Vg r32.2.2.2.2.2.2.1), (Vg r32.2.2.2.2.2.2.2.1), (Vg r32.2.2.2.2.2.2.2.2)]))], [(Rw Kf 24 (Vs (some v5.1, 9, 9)) ([a0_0, a0_1, a0_2, a0_3, a0_4, a0_5, a0_6, a0_7, a0_8])), (Rw Kf 24 (Vs (some v5.2.1, 9, 9)) ([a1_0, a1_1, a1_2, a1_3, a1_4, a1_5, a1_6, a1_7, a1_8])), (Rw Kf 24 (Vs (some v5.2.2, 9, 9)) ([0, 0, 0, 0, 0, 0, 0, 0, 0]))]⟩ : St)) ?_ ?_
    ·rintro ⟨q906, q907, q908⟩
     refine ax_all (i := 2) (is := [10, 12]) (by kernel_rfl) (all_cons ?_ (all_cons ?_ (all_cons ?_ all_nil)))
     ·refine nx_ox (last := #[true, true, true, true, true, false, true, true, true, false, false, true, false, false, false, false]) rfl (ox_calln' (ent_fn' Tryd.func10 isn10 rfl rfl) (impl_MatAdd_sim _ _ _ _ _ _ _ _ _ _ _ _ _ _ _ _ _ _ hr26 : Go.Sx.Fn Tryd.prog 10 [(Ag [(Vg r24.1), (Vg r24.2.1), (Vg r24.2.2.1), (Vg r24.2.2.2.1), (Vg r24.2.2.2.2.1), (Vg r24.2.2.2.2.2.1), (Vg r24.2.2.2.2.2.2.1), (Vg r24.2.2.2.2.2.2.2.1), (Vg r24.2.2.2.2.2.2.2.2)]), (Ag [(Vg r25.1), (Vg r25.2.1), (Vg r25.2.2.1), (Vg r25.2.2.2.1), (Vg r25.2.2.2.2.1), (Vg r25.2.2.2.2.2.1), (Vg r25.2.2.2.2.2.2.1), (Vg r25.2.2.2.2.2.2.2.1), (Vg r25.2.2.2.2.2.2.2.2)])] [] (fun x : Unit => (Ag [(Vg r26.1), (Vg r26.2.1), (Vg r26.2.2.1), (Vg r26.2.2.2.1), (Vg r26.2.2.2.2.1), (Vg r26.2.2.2.2.2.1), (Vg r26.2.2.2.2.2.2.1), (Vg r26.2.2.2.2.2.2.2.1), (Vg r26.2.2.2.2.2.2.2.2)])) (fun x => [])) (Hn := fun x : Unit => [(Rw Kf 24 (Vs (some q906, 9, 9)) ([a0_0, a0_1, a0_2, a0_3, a0_4, a0_5, a0_6, a0_7, a0_8])), (Rw Kf 24 (Vs (some q907, 9, 9)) ([a1_0, a1_1, a1_2, a1_3, a1_4, a1_5, a1_6, a1_7, a1_8])), (Rw Kf 24 (Vs (some q908, 9, 9)) ([0, 0, 0, 0, 0, 0, 0, 0, 0]))]) (fun _ => rfl) rfl rfl) rfl bs_nil (wt_none' rfl) rfl fun ⟨⟩ => ?_
      exact tx_pick' [0, 1, 2] (sub_cons rfl (sub_cons rfl (sub_cons rfl (sub_cons rfl (sub_cons rfl (sub_cons rfl (sub_cons rfl (sub_cons rfl (sub_cons rfl sub_nil))))))))) (by decide) (pick_cons rfl (pick_cons rfl (pick_cons rfl pick_nil))) (hN8 (q906, q907, q908))
     ·refine nx_ox (last := #[true, true, false, true, true, false, true, true, true, false, true, true, false, false, false, false]) rfl (ox_alloc' info24 rfl rfl rfl rfl (l := [(Vg 0), (Vg 0), (Vg 0), (Vg 0), (Vg 0), (Vg 0), (Vg 0), (Vg 0), (Vg 0)]) rfl) rfl bs_nil (wt_none' rfl) rfl fun q7 => ?_
      refine tx_arr' (K := Kf) (xs := [0, 0, 0, 0, 0, 0, 0, 0, 0]) (m := 9) (i := 0) rfl rfl rfl (H' := [(Rw Kf 24 (Vs (some q7, 9, 9)) ([0, 0, 0, 0, 0, 0, 0, 0, 0])), (Rw Kf 24 (Vs (some q906, 9, 9)) ([a0_0, a0_1, a0_2, a0_3, a0_4, a0_5, a0_6, a0_7, a0_8])), (Rw Kf 24 (Vs (some q907, 9, 9)) ([a1_0, a1_1, a1_2, a1_3, a1_4, a1_5, a1_6, a1_7, a1_8])), (Rw Kf 24 (Vs (some q908, 9, 9)) ([0, 0, 0, 0, 0, 0, 0, 0, 0]))]) rfl ?_
      exact tx_pick' [1, 2, 0, 3] (sub_cons rfl (sub_cons rfl (sub_cons rfl (sub_cons rfl (sub_cons rfl (sub_cons rfl (sub_cons rfl (sub_cons rfl (sub_cons rfl (sub_cons rfl (sub_cons rfl sub_nil))))))))))) (by decide) (pick_cons rfl (pick_cons rfl (pick_cons rfl (pick_cons rfl pick_nil)))) (hN10 (q906, q907, q7, q908))
     ·refine nx_ox (last := #[true, true, false, true, true, false, true, true, true, false, false, true, true, false, false, false]) rfl (ox_alloc' info24 rfl rfl rfl rfl (l := [(Vg 0), (Vg 0), (Vg 0), (Vg 0), (Vg 0), (Vg 0), (Vg 0), (Vg 0), (Vg 0)]) rfl) rfl bs_nil (wt_none' rfl) rfl fun q9 => ?_
      refine tx_arr' (K := Kf) (xs := [0, 0, 0, 0, 0, 0, 0, 0, 0]) (m := 9) (i := 0) rfl rfl rfl (H' := [(Rw Kf 24 (Vs (some q9, 9, 9)) ([0, 0, 0, 0, 0, 0, 0, 0, 0])), (Rw Kf 24 (Vs (some q906, 9, 9)) ([a0_0, a0_1, a0_2, a0_3, a0_4, a0_5, a0_6, a0_7, a0_8])), (Rw Kf 24 (Vs (some q907, 9, 9)) ([a1_0, a1_1, a1_2, a1_3, a1_4, a1_5, a1_6, a1_7, a1_8])), (Rw Kf 24 (Vs (some q908, 9, 9)) ([0, 0, 0, 0, 0, 0, 0, 0, 0]))]) rfl ?_
      exact tx_pick' [1, 2, 3, 0] (sub_cons rfl (sub_cons rfl (sub_cons rfl (sub_cons rfl (sub_cons rfl (sub_cons rfl (sub_cons rfl (sub_cons rfl (sub_cons rfl (sub_cons rfl (sub_cons rfl sub_nil))))))))))) (by decide) (pick_cons rfl (pick_cons rfl (pick_cons rfl (pick_cons rfl pick_nil)))) (hN12 (q906, q907, q908, q9))
    intro hN4
    refine ax_node (f' := 8) #[true, true, false, true, true, false, true, true, true, false, false, false, true, false, false, false] (fun (v6 : Addr × Addr × Addr) => (⟨74, [], [(2, (Vl (.int .i64 a2))), (3, (Vl (.pointer ((some v6.1, 9, 9)).1))), (4, (Vl (.pointer ((some v6.2.1, 9, 9)).1))), (9, (Vl (.pointer ((some v6.2.2, 9, 9)).1))), (24, (Ag [(Vg r24.1), (Vg r24.2.1), (Vg r24.2.2.1), (Vg r24.2.2.2.1), (Vg r24.2.2.2.2.1), (Vg r24.2.2.2.2.2.1), (Vg r24.2.2.2.2.2.2.1), (Vg r24.2.2.2.2.2.2.2.1), (Vg r24.2.2.2.2.2.2.2.2)])), (25, (Ag [(Vg r25.1), (Vg r25.2.1), (Vg r25.2.2.1), (Vg r25.2.2.2.1), (Vg r25.2.2.2.2.1), (Vg r25.2.2.2.2.2.1), (Vg r25.2.2.2.2.2.2.1), (Vg r25.2.2.2.2.2.2.2.1), (Vg r25.2.2.2.2.2.2.2.2)])), (27, (Ag [(Vg r27.1), (Vg r27.2.1), (Vg r27.2.2.1), (Vg r27.2.2.2.1), (Vg r27.2.2.2.2.1), (Vg r27.2.2.2.2.2.1), (Vg r27.2.2.2.2.2.2.1), (Vg r27.2.2.2.2.2.2.2.1), (Vg r27.2.2.2.2.2.2.2.2)])), (28, (Ag [(Vg r28.1), (Vg r28.2.1), (Vg r28.2.2.1), (Vg r28.2.2.2.1), (Vg r28.2.2.2.2.1), (Vg r28.2.2.2.2.2.1), (Vg r28.2.2.2.2.2.2.1), (Vg r28.2.2.2.2.2.2.2.1), (Vg r28.2.2.2.2.2.2.2.2)])), (31, (Vl (.float .f64 (i2f a2)))), (32, (Ag [(Vg r32.1), (Vg r32.2.1), (Vg r32.2.2.1), (Vg r32.2.2.2.1), (Vg r32.2.2.2.2.1), (Vg r32.2.2.2.2.2.1), (Vg r32.2.2.2.2.2.2.1), (Vg r32.2.2.2.2.2.2.2.1), (Vg r32.2.2.2.2.2.2.2.2)]))], [(Rw Kf 24 (Vs (some v6.1, 9, 9)) ([a0_0, a0_1, a0_2, a0_3, a0_4, a0_5, a0_6, a0_7, a0_8])), (Rw Kf 24 (Vs (some v6.2.1, 9, 9)) ([a1_0, a1_1, a1_2, a1_3, a1_4, a1_5, a1_6, a1_7, a1_8])), (Rw Kf 24 (Vs (some v6.2.2, 9, 9)) ([0, 0, 0, 0, 0, 0, 0, 0, 0]))]⟩ : St)) ?_ ?_
    ·rintro ⟨q909, q9010, q9011⟩
     refine ax_all (i := 2) (is := [10, 11]) (by kernel_rfl) (all_cons ?_ (all_cons ?_ (all_cons ?_ all_nil)))
     ·refine nx_ox (last := #[true, true, true, true, true, false, true, true, true, false, false, false, true, false, false, false]) rfl (ox_calln' (ent_fn' Tryd.func10 isn10 rfl rfl) (impl_MatAdd_sim _ _ _ _ _ _ _ _ _ _ _ _ _ _ _ _ _ _ hr26 : Go.Sx.Fn Tryd.prog 10 [(Ag [(Vg r24.1), (Vg r24.2.1), (Vg r24.2.2.1), (Vg r24.2.2.2.1), (Vg r24.2.2.2.2.1), (Vg r24.2.2.2.2.2.1), (Vg r24.2.2.2.2.2.2.1), (Vg r24.2.2.2.2.2.2.2.1), (Vg r24.2.2.2.2.2.2.2.2)]), (Ag [(Vg r25.1), (Vg r25.2.1), (Vg r25.2.2.1), (Vg r25.2.2.2.1), (Vg r25.2.2.2.2.1), (Vg r25.2.2.2.2.2.1), (Vg r25.2.2.2.2.2.2.1), (Vg r25.2.2.2.2.2.2.2.1), (Vg r25.2.2.2.2.2.2.2.2)])] [] (fun x : Unit => (Ag [(Vg r26.1), (Vg r26.2.1), (Vg r26.2.2.1), (Vg r26.2.2.2.1), (Vg r26.2.2.2.2.1), (Vg r26.2.2.2.2.2.1), (Vg r26.2.2.2.2.2.2.1), (Vg r26.2.2.2.2.2.2.2.1), (Vg r26.2.2.2.2.2.2.2.2)])) (fun x => [])) (Hn := fun x : Unit => [(Rw Kf 24 (Vs (some q909, 9, 9)) ([a0_0, a0_1, a0_2, a0_3, a0_4, a0_5, a0_6, a0_7, a0_8])), (Rw Kf 24 (Vs (some q9010, 9, 9)) ([a1_0, a1_1, a1_2, a1_3, a1_4, a1_5, a1_6, a1_7, a1_8])), (Rw Kf 24 (Vs (some q9011, 9, 9)) ([0, 0, 0, 0, 0, 0, 0, 0, 0]))]) (fun _ => rfl) rfl rfl) rfl bs_nil (wt_none' rfl) rfl fun ⟨⟩ => ?_
      exact tx_pick' [0, 1, 2] (sub_cons rfl (sub_cons rfl (sub_cons rfl (sub_cons rfl (sub_cons rfl (sub_cons rfl (sub_cons rfl (sub_cons rfl (sub_cons rfl sub_nil))))))))) (by decide) (pick_cons rfl (pick_cons rfl (pick_cons rfl pick_nil))) (hN9 (q909, q9010, q9011))
     ·refine nx_ox (last := #[true, true, false, true, true, false, true, true, true, false, true, false, true, false, false, false]) rfl (ox_alloc' info24 rfl rfl rfl rfl (l := [(Vg 0), (Vg 0), (Vg 0), (Vg 0), (Vg 0), (Vg 0), (Vg 0), (Vg 0), (Vg 0)]) rfl) rfl bs_nil (wt_none' rfl) rfl fun q7 => ?_
      refine tx_arr' (K := Kf) (xs := [0, 0, 0, 0, 0, 0, 0, 0, 0]) (m := 9) (i := 0) rfl rfl rfl (H' := [(Rw Kf 24 (Vs (some q7, 9, 9)) ([0, 0, 0, 0, 0, 0, 0, 0, 0])), (Rw Kf 24 (Vs (some q909, 9, 9)) ([a0_0, a0_1, a0_2, a0_3, a0_4, a0_5, a0_6, a0_7, a0_8])), (Rw Kf 24 (Vs (some q9010, 9, 9)) ([a1_0, a1_1, a1_2, a1_3, a1_4, a1_5, a1_6, a1_7, a1_8])), (Rw Kf 24 (Vs (some q9011, 9, 9)) ([0, 0, 0, 0, 0, 0, 0, 0, 0]))]) rfl ?_
      exact tx_pick' [1, 2, 0, 3] (sub_cons rfl (sub_cons rfl (sub_cons rfl (sub_cons rfl (sub_cons rfl (sub_cons rfl (sub_cons rfl (sub_cons rfl (sub_cons rfl (sub_cons rfl (sub_cons rfl sub_nil))))))))))) (by decide) (pick_cons rfl (pick_cons rfl (pick_cons rfl (pick_cons rfl pick_nil)))) (hN11 (q909, q9010, q7, q9011))
     ·refine nx_ox (last := #[true, true, false, true, true, false, true, true, true, false, false, true, true, false, false, false]) rfl (ox_alloc' info24 rfl rfl rfl rfl (l := [(Vg 0), (Vg 0), (Vg 0), (Vg 0), (Vg 0), (Vg 0), (Vg 0), (Vg 0), (Vg 0)]) rfl) rfl bs_nil (wt_none' rfl) rfl fun q8 => ?_
      refine tx_arr' (K := Kf) (xs := [0, 0, 0, 0, 0, 0, 0, 0, 0]) (m := 9) (i := 0) rfl rfl rfl (H' := [(Rw Kf 24 (Vs (some q8, 9, 9)) ([0, 0, 0, 0, 0, 0, 0, 0, 0])), (Rw Kf 24 (Vs (some q909, 9, 9)) ([a0_0, a0_1, a0_2, a0_3, a0_4, a0_5, a0_6, a0_7, a0_8])), (Rw Kf 24 (Vs (some q9010, 9, 9)) ([a1_0, a1_1, a1_2, a1_3, a1_4, a1_5, a1_6, a1_7, a1_8])), (Rw Kf 24 (Vs (some q9011, 9, 9)) ([0, 0, 0, 0, 0, 0, 0, 0, 0]))]) rfl ?_
      exact tx_pick' [1, 2, 0, 3] (sub_cons rfl (sub_cons rfl (sub_cons rfl (sub_cons rfl (sub_cons rfl (sub_cons rfl (sub_cons rfl (sub_cons rfl (sub_cons rfl (sub_cons rfl (sub_cons rfl sub_nil))))))))))) (by decide) (pick_cons rfl (pick_cons rfl (pick_cons rfl (pick_cons rfl pick_nil)))) (hN12 (q909, q9010, q8, q9011))
    intro hN5
    refine ax_all (i := 2) (is := [10, 11, 12]) (by kernel_rfl) (all_cons ?_ (all_cons ?_ (all_cons ?_ (all_cons ?_ all_nil))))
    ·refine nx_ox (last := #[true, true, true, true, true, false, true, true, true, false, false, false, false, false, false, false]) rfl (ox_calln' (ent_fn' Tryd.func10 isn10 rfl rfl) (impl_MatAdd_sim _ _ _ _ _ _ _ _ _ _ _ _ _ _ _ _ _ _ hr26 : Go.Sx.Fn Tryd.prog 10 [(Ag [(Vg r24.1), (Vg r24.2.1), (Vg r24.2.2.1), (Vg r24.2.2.2.1), (Vg r24.2.2.2.2.1), (Vg r24.2.2.2.2.2.1), (Vg r24.2.2.2.2.2.2.1), (Vg r24.2.2.2.2.2.2.2.1), (Vg r24.2.2.2.2.2.2.2.2)]), (Ag [(Vg r25.1), (Vg r25.2.1), (Vg r25.2.2.1), (Vg r25.2.2.2.1), (Vg r25.2.2.2.2.1), (Vg r25.2.2.2.2.2.1), (Vg r25.2.2.2.2.2.2.1), (Vg r25.2.2.2.2.2.2.2.1), (Vg r25.2.2.2.2.2.2.2.2)])] [] (fun x : Unit => (Ag [(Vg r26.1), (Vg r26.2.1), (Vg r26.2.2.1), (Vg r26.2.2.2.1), (Vg r26.2.2.2.2.1), (Vg r26.2.2.2.2.2.1), (Vg r26.2.2.2.2.2.2.1), (Vg r26.2.2.2.2.2.2.2.1), (Vg r26.2.2.2.2.2.2.2.2)])) (fun x => [])) (Hn := fun x : Unit => [(Rw Kf 24 (Vs (some q3, 9, 9)) ([a0_0, a0_1, a0_2, a0_3, a0_4, a0_5, a0_6, a0_7, a0_8])), (Rw Kf 24 (Vs (some q4, 9, 9)) ([a1_0, a1_1, a1_2, a1_3, a1_4, a1_5, a1_6, a1_7, a1_8]))]) (fun _ => rfl) rfl rfl) rfl bs_nil (wt_none' rfl) rfl fun ⟨⟩ => ?_
     exact tx_pick' [0, 1] (sub_cons rfl (sub_cons rfl (sub_cons rfl (sub_cons rfl (sub_cons rfl (sub_cons rfl (sub_cons rfl (sub_cons rfl sub_nil)))))))) (by decide) (pick_cons rfl (pick_cons rfl pick_nil)) (hN2 (q3, q4))
    ·refine nx_ox (last := #[true, true, false, true, true, false, true, true, true, false, true, false, false, false, false, false]) rfl (ox_alloc' info24 rfl rfl rfl rfl (l := [(Vg 0), (Vg 0), (Vg 0), (Vg 0), (Vg 0), (Vg 0), (Vg 0), (Vg 0), (Vg 0)]) rfl) rfl bs_nil (wt_none' rfl) rfl fun q7 => ?_
     refine tx_arr' (K := Kf) (xs := [0, 0, 0, 0, 0, 0, 0, 0, 0]) (m := 9) (i := 0) rfl rfl rfl (H' := [(Rw Kf 24 (Vs (some q7, 9, 9)) ([0, 0, 0, 0, 0, 0, 0, 0, 0])), (Rw Kf 24 (Vs (some q3, 9, 9)) ([a0_0, a0_1, a0_2, a0_3, a0_4, a0_5, a0_6, a0_7, a0_8])), (Rw Kf 24 (Vs (some q4, 9, 9)) ([a1_0, a1_1, a1_2, a1_3, a1_4, a1_5, a1_6, a1_7, a1_8]))]) rfl ?_
     exact tx_pick' [1, 2, 0] (sub_cons rfl (sub_cons rfl (sub_cons rfl (sub_cons rfl (sub_cons rfl (sub_cons rfl (sub_cons rfl (sub_cons rfl (sub_cons rfl (sub_cons rfl sub_nil)))))))))) (by decide) (pick_cons rfl (pick_cons rfl (pick_cons rfl pick_nil))) (hN3 (q3, q4, q7))
    ·refine nx_ox (last := #[true, true, false, true, true, false, true, true, true, false, false, true, false, false, false, false]) rfl (ox_alloc' info24 rfl rfl rfl rfl (l := [(Vg 0), (Vg 0), (Vg 0), (Vg 0), (Vg 0), (Vg 0), (Vg 0), (Vg 0), (Vg 0)]) rfl) rfl bs_nil (wt_none' rfl) rfl fun q8 => ?_
     refine tx_arr' (K := Kf) (xs := [0, 0, 0, 0, 0, 0, 0, 0, 0]) (m := 9) (i := 0) rfl rfl rfl (H' := [(Rw Kf 24 (Vs (some q8, 9, 9)) ([0, 0, 0, 0, 0, 0, 0, 0, 0])), (Rw Kf 24 (Vs (some q3, 9, 9)) ([a0_0, a0_1, a0_2, a0_3, a0_4, a0_5, a0_6, a0_7, a0_8])), (Rw Kf 24 (Vs (some q4, 9, 9)) ([a1_0, a1_1, a1_2, a1_3, a1_4, a1_5, a1_6, a1_7, a1_8]))]) rfl ?_
     exact tx_pick' [1, 2, 0] (sub_cons rfl (sub_cons rfl (sub_cons rfl (sub_cons rfl (sub_cons rfl (sub_cons rfl (sub_cons rfl (sub_cons rfl (sub_cons rfl (sub_cons rfl sub_nil)))))))))) (by decide) (pick_cons rfl (pick_cons rfl (pick_cons rfl pick_nil))) (hN4 (q3, q4, q8))
    ·refine nx_ox (last := #[true, true, false, true, true, false, true, true, true, false, false, false, true, false, false, false]) rfl (ox_alloc' info24 rfl rfl rfl rfl (l := [(Vg 0), (Vg 0), (Vg 0), (Vg 0), (Vg 0), (Vg 0), (Vg 0), (Vg 0), (Vg 0)]) rfl) rfl bs_nil (wt_none' rfl) rfl fun q9 => ?_
     refine tx_arr' (K := Kf) (xs := [0, 0, 0, 0, 0, 0, 0, 0, 0]) (m := 9) (i := 0) rfl rfl rfl (H' := [(Rw Kf 24 (Vs (some q9, 9, 9)) ([0, 0, 0, 0, 0, 0, 0, 0, 0])), (Rw Kf 24 (Vs (some q3, 9, 9)) ([a0_0, a0_1, a0_2, a0_3, a0_4, a0_5, a0_6, a0_7, a0_8])), (Rw Kf 24 (Vs (some q4, 9, 9)) ([a1_0, a1_1, a1_2, a1_3, a1_4, a1_5, a1_6, a1_7, a1_8]))]) rfl ?_
     exact tx_pick' [1, 2, 0] (sub_cons rfl (sub_cons rfl (sub_cons rfl (sub_cons rfl (sub_cons rfl (sub_cons rfl (sub_cons rfl (sub_cons rfl (sub_cons rfl (sub_cons rfl sub_nil)))))))))) (by decide) (pick_cons rfl (pick_cons rfl (pick_cons rfl pick_nil))) (hN5 (q3, q4, q9))
  ·intro K5 hK5
   rcases br_cases hp with ⟨h2, hp⟩ | ⟨h2, hp⟩
   ·refine sx_skip' rfl rfl (wt_is' (wt_guard' rfl rfl rfl) (beq_tf h2)) ?_
    refine sx_skip' rfl rfl (wt_is' (wt_guard' rfl rfl rfl) (beq_tf h2)) ?_
    refine sx_rd' (rd_pick_true' rfl h2 rfl) rfl rfl (wt_none' rfl) ?_
    refine sx_nil' ?_
    show TX E K5 _
    exact tx_pick' [0, 1] (sub_cons rfl (sub_cons rfl (sub_cons rfl (sub_cons rfl sub_nil)))) (by decide) (pick_cons rfl (pick_cons rfl pick_nil)) (hK5 true hp)
   ·refine sx_rd' (rd_move' rfl) rfl rfl (wt_is' (wt_guard' rfl rfl rfl) (beq_ff h2)) ?_
    refine sx_rd' (rd_bin' rfl rfl eg_int ru_gtr) rfl rfl (wt_is' (wt_guard' rfl rfl rfl) (beq_ff h2)) ?_
    refine sx_rd' (rd_pick_false' rfl h2 rfl) rfl rfl (wt_none' rfl) ?_
    refine sx_nil' ?_
    show TX E K5 _
    exact tx_pick' [0, 1] (sub_cons rfl (sub_cons rfl (sub_cons rfl (sub_cons rfl sub_nil)))) (by decide) (pick_cons rfl (pick_cons rfl pick_nil)) (hK5 (decide (1024 < a2)) hp)
 ·intro K4 hK4
  rcases br_cases hp with ⟨h1, hp⟩ | ⟨h1, hp⟩
  ·refine sx_skip' rfl rfl (wt_is' (wt_guard' rfl rfl rfl) (beq_tf h1)) ?_
   refine sx_skip' rfl rfl (wt_is' (wt_guard' rfl rfl rfl) (beq_tf h1)) ?_
   refine sx_rd' (rd_pick_true' rfl h1 rfl) rfl rfl (wt_none' rfl) ?_
   refine sx_nil' ?_
   show TX E K4 _
   exact tx_pick' [2, 1] (sub_cons rfl (sub_cons rfl (sub_cons rfl (sub_cons rfl sub_nil)))) (by decide) (pick_cons rfl (pick_cons rfl pick_nil)) (hK4 true hp)
  ·refine sx_rd' (rd_move' rfl) rfl rfl (wt_is' (wt_guard' rfl rfl rfl) (beq_ff h1)) ?_
   refine sx_rd' (rd_bin' rfl rfl eg_int ru_lss) rfl rfl (wt_is' (wt_guard' rfl rfl rfl) (beq_ff h1)) ?_
   refine sx_rd' (rd_pick_false' rfl h1 rfl) rfl rfl (wt_none' rfl) ?_
   refine sx_nil' ?_
   show TX E K4 _
   exact tx_pick' [2, 1] (sub_cons rfl (sub_cons rfl (sub_cons rfl (sub_cons rfl sub_nil)))) (by decide) (pick_cons rfl (pick_cons rfl pick_nil)) (hK4 (decide (a2 < (-1024))) hp)

end Go.Proofs.YtnhbmhdjkibjaaaDoor
