/-
  Plain functions for the Go functions that this law reaches, and that each call does what its plain function says. Printed by a program of ours.
-/
import Derived.Test.YtnhbmhdjkibjaaaDoorProg
import Derived.Test.YtnhbmhdjkibjaaaDoorSxZ
import Derived.Test.YtnhbmhdjkibjaaaDoorFun1
namespace Go.Proofs.YtnhbmhdjkibjaaaDoor
open Go.Sx
set_option linter.unusedVariables false
set_option maxRecDepth 100000
set_option maxHeartbeats 2000000

def impl_MatScale (k : Nat) (a0 : Nat) (a1_0 : Nat) (a1_1 : Nat) (a1_2 : Nat) (a1_3 : Nat) (a1_4 : Nat) (a1_5 : Nat) (a1_6 : Nat) (a1_7 : Nat) (a1_8 : Nat) : Option (Nat × Nat × Nat × Nat × Nat × Nat × Nat × Nat × Nat) :=
  (impl_mat k a1_0 a1_1 a1_2 a1_3 a1_4 a1_5 a1_6 a1_7 a1_8) >>= fun r8 =>
  (r3_Mat_Scale k a0 r8) >>= fun r10 =>
  (impl_plainMat k r10.1) >>= fun r11 =>
  some (r11.2.1, r11.2.2.1, r11.2.2.2.1, r11.2.2.2.2.1, r11.2.2.2.2.2.1, r11.2.2.2.2.2.2.1, r11.2.2.2.2.2.2.2.1, r11.2.2.2.2.2.2.2.2.1, r11.2.2.2.2.2.2.2.2.2)

theorem impl_MatScale_sim {k : Nat}  (a0 : Nat) (a1_0 : Nat) (a1_1 : Nat) (a1_2 : Nat) (a1_3 : Nat) (a1_4 : Nat) (a1_5 : Nat) (a1_6 : Nat) (a1_7 : Nat) (a1_8 : Nat) {out : Nat × Nat × Nat × Nat × Nat × Nat × Nat × Nat × Nat} (hp : impl_MatScale k a0 a1_0 a1_1 a1_2 a1_3 a1_4 a1_5 a1_6 a1_7 a1_8 = some out) : Go.Sx.Fn Tryd.prog 12 [(Vl (.float .f64 a0)), (Ag [(Vl (.float .f64 a1_0)), (Vl (.float .f64 a1_1)), (Vl (.float .f64 a1_2)), (Vl (.float .f64 a1_3)), (Vl (.float .f64 a1_4)), (Vl (.float .f64 a1_5)), (Vl (.float .f64 a1_6)), (Vl (.float .f64 a1_7)), (Vl (.float .f64 a1_8))])] [] (fun w : Unit => (Ag [(Vl (.float .f64 out.1)), (Vl (.float .f64 out.2.1)), (Vl (.float .f64 out.2.2.1)), (Vl (.float .f64 out.2.2.2.1)), (Vl (.float .f64 out.2.2.2.2.1)), (Vl (.float .f64 out.2.2.2.2.2.1)), (Vl (.float .f64 out.2.2.2.2.2.2.1)), (Vl (.float .f64 out.2.2.2.2.2.2.2.1)), (Vl (.float .f64 out.2.2.2.2.2.2.2.2))])) (fun w => []) := by
  unfold impl_MatScale at hp
  refine fn_of Tryd.func12 rfl Tryd.ntmps12 rfl fun E hM => ?_
  refine cx_seq' fun K1 hK1 => ?_
  refine cx_region' ?_
  refine sx_ox' (ox_box' rfl (lv_ag _) rfl rfl) (wt_none' rfl) fun q3 => ?_
  refine sx_ox' (ox_alloc' info24 rfl rfl rfl rfl (l := [(Vl (.float .f64 0)), (Vl (.float .f64 0)), (Vl (.float .f64 0)), (Vl (.float .f64 0)), (Vl (.float .f64 0)), (Vl (.float .f64 0)), (Vl (.float .f64 0)), (Vl (.float .f64 0)), (Vl (.float .f64 0))]) rfl) (wt_none' rfl) fun q4 => ?_
  refine sx_nil' ?_
  show TX E K1 _
  refine tx_k' hK1 ?_
  refine cx_seq' fun K2 hK2 => ?_
  refine cx_region' ?_
  refine sx_ox' (ox_alloc' info48 rfl rfl rfl rfl (l := [(Vl (.pointer none))]) rfl) (wt_none' rfl) fun q5 => ?_
  refine sx_nil' ?_
  show TX E K2 _
  refine tx_k' hK2 ?_
  refine cx_seq' fun K3 hK3 => ?_
  refine cx_region' ?_
  refine sx_rd' (rd_move' rfl) rfl rfl (wt_none' rfl) ?_
  refine sx_rd' (rd_load_agg' (i := 2) (o := 0) (nn := 9) rfl ⟨rfl, rfl, rfl, rfl⟩ rfl agg24 (l' := [(Vl (.float .f64 a1_0)), (Vl (.float .f64 a1_1)), (Vl (.float .f64 a1_2)), (Vl (.float .f64 a1_3)), (Vl (.float .f64 a1_4)), (Vl (.float .f64 a1_5)), (Vl (.float .f64 a1_6)), (Vl (.float .f64 a1_7)), (Vl (.float .f64 a1_8))]) rfl) rfl rfl (wt_none' rfl) ?_
  obtain ⟨r8, hr8, hp⟩ := bind_some hp
  refine sx_ox' (ox_calln' (ent_fn' Tryd.func17 isn17 rfl rfl) (impl_mat_sim _ _ _ _ _ _ _ _ _ hr8 : Go.Sx.Fn Tryd.prog 17 [(Ag [(Vl (.float .f64 a1_0)), (Vl (.float .f64 a1_1)), (Vl (.float .f64 a1_2)), (Vl (.float .f64 a1_3)), (Vl (.float .f64 a1_4)), (Vl (.float .f64 a1_5)), (Vl (.float .f64 a1_6)), (Vl (.float .f64 a1_7)), (Vl (.float .f64 a1_8))])] [] (fun x : Addr × Gs => (Vl (.pointer (some x.1)))) (fun x => [⟨.pointer (some x.1), [(Vl (.pointer (x.2).1))], 48, none⟩, (Rw Kf 22 (Vs x.2) r8)])) (Hn := fun x : Addr × Gs => [⟨.pointer (some x.1), [(Vl (.pointer (x.2).1))], 48, none⟩, (Rw Kf 22 (Vs x.2) r8), ⟨.pointer (some q5), [(Vl (.pointer none))], 48, none⟩, ⟨.pointer (some q4), [(Vl (.float .f64 0)), (Vl (.float .f64 0)), (Vl (.float .f64 0)), (Vl (.float .f64 0)), (Vl (.float .f64 0)), (Vl (.float .f64 0)), (Vl (.float .f64 0)), (Vl (.float .f64 0)), (Vl (.float .f64 0))], 24, none⟩, ⟨.pointer (some q3), [(Vl (.float .f64 a1_0)), (Vl (.float .f64 a1_1)), (Vl (.float .f64 a1_2)), (Vl (.float .f64 a1_3)), (Vl (.float .f64 a1_4)), (Vl (.float .f64 a1_5)), (Vl (.float .f64 a1_6)), (Vl (.float .f64 a1_7)), (Vl (.float .f64 a1_8))], 24, none⟩]) (fun _ => rfl) rfl rfl) (wt_none' rfl) fun ⟨q8, g8⟩ => ?_
  refine sx_rd' (rd_iface' rfl ⟨_, Tryd.underlying43, fun _ h => (nomatch h)⟩) rfl rfl (wt_none' rfl) ?_
  obtain ⟨r10, hr10, hp⟩ := bind_some hp
  refine sx_ox' (ox_callg' (ent_fn' Tryd.func24 isn24 rfl rfl) (r3_Mat_Scale_sim _ _ hr10 : Go.Sx.Fn Tryd.prog 24 [(Vl (.pointer (some q5))), (Vl (.float .f64 a0)), (If 43 (Vl (.pointer (some q8))))] [⟨.pointer (some q5), [(Vl (.pointer none))], 48, none⟩, ⟨.pointer (some q8), [(Vl (.pointer (g8).1))], 48, none⟩, (Rw Kf 22 (Vs g8) r8)] (fun x : Addr => (Vl (.tuple #[]))) (fun x => [⟨.pointer (some q5), [(Vl (.pointer ((some x, 9, 9)).1))], 48, none⟩, (Rw Kf 77 (Vs (some x, 9, 9)) r10.1), ⟨.pointer (some q8), [(Vl (.pointer (g8).1))], 48, none⟩, (Rw Kf 22 (Vs g8) r10.2)])) [2, 0, 1] [3, 4] (by decide) (pick_cons rfl (pick_cons rfl (pick_cons rfl pick_nil))) (pick_cons rfl (pick_cons rfl pick_nil)) (Hn := fun x : Addr => [⟨.pointer (some q5), [(Vl (.pointer ((some x, 9, 9)).1))], 48, none⟩, (Rw Kf 77 (Vs (some x, 9, 9)) r10.1), ⟨.pointer (some q8), [(Vl (.pointer (g8).1))], 48, none⟩, (Rw Kf 22 (Vs g8) r10.2), ⟨.pointer (some q4), [(Vl (.float .f64 0)), (Vl (.float .f64 0)), (Vl (.float .f64 0)), (Vl (.float .f64 0)), (Vl (.float .f64 0)), (Vl (.float .f64 0)), (Vl (.float .f64 0)), (Vl (.float .f64 0)), (Vl (.float .f64 0))], 24, none⟩, ⟨.pointer (some q3), [(Vl (.float .f64 a1_0)), (Vl (.float .f64 a1_1)), (Vl (.float .f64 a1_2)), (Vl (.float .f64 a1_3)), (Vl (.float .f64 a1_4)), (Vl (.float .f64 a1_5)), (Vl (.float .f64 a1_6)), (Vl (.float .f64 a1_7)), (Vl (.float .f64 a1_8))], 24, none⟩]) (fun _ => rfl) rfl rfl) (wt_none' rfl) fun q10 => ?_
  refine sx_nil' ?_
  show TX E K3 _
  refine tx_k' hK3 ?_
  refine cx_seq' fun K4 hK4 => ?_
  refine cx_region' ?_
  obtain ⟨r11, hr11, hp⟩ := bind_some hp
  refine sx_ox' (ox_callg' (ent_fn' Tryd.func21 isn21 rfl rfl) (impl_plainMat_sim _ hr11 : Go.Sx.Fn Tryd.prog 21 [(Vl (.pointer (some q5)))] [⟨.pointer (some q5), [(Vl (.pointer ((some q10, 9, 9)).1))], 48, none⟩, (Rw Kf 77 (Vs (some q10, 9, 9)) r10.1)] (fun x : Unit => (Ag [(Vl (.float .f64 r11.2.1)), (Vl (.float .f64 r11.2.2.1)), (Vl (.float .f64 r11.2.2.2.1)), (Vl (.float .f64 r11.2.2.2.2.1)), (Vl (.float .f64 r11.2.2.2.2.2.1)), (Vl (.float .f64 r11.2.2.2.2.2.2.1)), (Vl (.float .f64 r11.2.2.2.2.2.2.2.1)), (Vl (.float .f64 r11.2.2.2.2.2.2.2.2.1)), (Vl (.float .f64 r11.2.2.2.2.2.2.2.2.2))])) (fun x => [⟨.pointer (some q5), [(Vl (.pointer ((some q10, 9, 9)).1))], 48, none⟩, (Rw Kf 77 (Vs (some q10, 9, 9)) r11.1)])) [0, 1] [2, 3, 4, 5] (by decide) (pick_cons rfl (pick_cons rfl pick_nil)) (pick_cons rfl (pick_cons rfl (pick_cons rfl (pick_cons rfl pick_nil)))) (Hn := fun x : Unit => [⟨.pointer (some q5), [(Vl (.pointer ((some q10, 9, 9)).1))], 48, none⟩, (Rw Kf 77 (Vs (some q10, 9, 9)) r11.1), ⟨.pointer (some q8), [(Vl (.pointer (g8).1))], 48, none⟩, (Rw Kf 22 (Vs g8) r10.2), ⟨.pointer (some q4), [(Vl (.float .f64 0)), (Vl (.float .f64 0)), (Vl (.float .f64 0)), (Vl (.float .f64 0)), (Vl (.float .f64 0)), (Vl (.float .f64 0)), (Vl (.float .f64 0)), (Vl (.float .f64 0)), (Vl (.float .f64 0))], 24, none⟩, ⟨.pointer (some q3), [(Vl (.float .f64 a1_0)), (Vl (.float .f64 a1_1)), (Vl (.float .f64 a1_2)), (Vl (.float .f64 a1_3)), (Vl (.float .f64 a1_4)), (Vl (.float .f64 a1_5)), (Vl (.float .f64 a1_6)), (Vl (.float .f64 a1_7)), (Vl (.float .f64 a1_8))], 24, none⟩]) (fun _ => rfl) rfl rfl) (wt_none' rfl) fun ⟨⟩ => ?_
  refine sx_ox' (ox_store' (i := 4) (o := 0) rfl rfl (lv_ag _) ⟨rfl, rfl, rfl, rfl⟩ rfl info24 rfl (H' := [⟨.pointer (some q5), [(Vl (.pointer ((some q10, 9, 9)).1))], 48, none⟩, (Rw Kf 77 (Vs (some q10, 9, 9)) r11.1), ⟨.pointer (some q8), [(Vl (.pointer (g8).1))], 48, none⟩, (Rw Kf 22 (Vs g8) r10.2), ⟨.pointer (some q4), [(Vl (.float .f64 r11.2.1)), (Vl (.float .f64 r11.2.2.1)), (Vl (.float .f64 r11.2.2.2.1)), (Vl (.float .f64 r11.2.2.2.2.1)), (Vl (.float .f64 r11.2.2.2.2.2.1)), (Vl (.float .f64 r11.2.2.2.2.2.2.1)), (Vl (.float .f64 r11.2.2.2.2.2.2.2.1)), (Vl (.float .f64 r11.2.2.2.2.2.2.2.2.1)), (Vl (.float .f64 r11.2.2.2.2.2.2.2.2.2))], 24, none⟩, ⟨.pointer (some q3), [(Vl (.float .f64 a1_0)), (Vl (.float .f64 a1_1)), (Vl (.float .f64 a1_2)), (Vl (.float .f64 a1_3)), (Vl (.float .f64 a1_4)), (Vl (.float .f64 a1_5)), (Vl (.float .f64 a1_6)), (Vl (.float .f64 a1_7)), (Vl (.float .f64 a1_8))], 24, none⟩]) rfl) (wt_none' rfl) fun _ => ?_
  refine sx_nil' ?_
  show TX E K4 _
  refine tx_k' hK4 ?_
  refine cx_retc' ?_
  replace hp := Option.some.inj hp
  subst hp
  refine tx_pick' (L' := [(4, (Vl (.pointer (some q4))))]) (H' := [⟨.pointer (some q4), [(Vl (.float .f64 r11.2.1)), (Vl (.float .f64 r11.2.2.1)), (Vl (.float .f64 r11.2.2.2.1)), (Vl (.float .f64 r11.2.2.2.2.1)), (Vl (.float .f64 r11.2.2.2.2.2.1)), (Vl (.float .f64 r11.2.2.2.2.2.2.1)), (Vl (.float .f64 r11.2.2.2.2.2.2.2.1)), (Vl (.float .f64 r11.2.2.2.2.2.2.2.2.1)), (Vl (.float .f64 r11.2.2.2.2.2.2.2.2.2))], 24, none⟩]) [4] (sub_cons rfl sub_nil) (by decide) (pick_cons rfl pick_nil) ?_
  exact tx_ret1' Tryd.results12 rfl () (rv_cell_agg' (i := 0) (o := 0) (nn := 9) rfl ⟨rfl, rfl, rfl, rfl⟩ rfl agg24 rfl) (List.nil_sublist _)

def laws_FnMatAdd_j20 (k : Nat) (x20 : Bool) : Option (Bool) :=
 br x20
  (some false)
  (some true)
def laws_FnMatAdd_j19 (k : Nat) (r33 : Nat × Nat × Nat × Nat × Nat × Nat × Nat × Nat × Nat) (a0_0 : Nat) (a0_1 : Nat) (a0_2 : Nat) (a0_3 : Nat) (a0_4 : Nat) (a0_5 : Nat) (a0_6 : Nat) (a0_7 : Nat) (a0_8 : Nat) (a2 : Int) (x19 : Bool) : Option (Bool) :=
 br x19
  (laws_FnMatAdd_j20 k true)
  ((idxn 9 ([r33.1, r33.2.1, r33.2.2.1, r33.2.2.2.1, r33.2.2.2.2.1, r33.2.2.2.2.2.1, r33.2.2.2.2.2.2.1, r33.2.2.2.2.2.2.2.1, r33.2.2.2.2.2.2.2.2]) 8) >>= fun r9097 =>
  (idxn 9 ([a0_0, a0_1, a0_2, a0_3, a0_4, a0_5, a0_6, a0_7, a0_8]) 8) >>= fun r9098 =>
  (fmul (i2f a2) r9098) >>= fun r9099 =>
  laws_FnMatAdd_j20 k (fne r9097 r9099))
def laws_FnMatAdd_j18 (k : Nat) (r26 : Nat × Nat × Nat × Nat × Nat × Nat × Nat × Nat × Nat) (a0_0 : Nat) (a0_1 : Nat) (a0_2 : Nat) (a0_3 : Nat) (a0_4 : Nat) (a0_5 : Nat) (a0_6 : Nat) (a0_7 : Nat) (a0_8 : Nat) (a1_0 : Nat) (a1_1 : Nat) (a1_2 : Nat) (a1_3 : Nat) (a1_4 : Nat) (a1_5 : Nat) (a1_6 : Nat) (a1_7 : Nat) (a1_8 : Nat) (r33 : Nat × Nat × Nat × Nat × Nat × Nat × Nat × Nat × Nat) (a2 : Int) (r29 : Nat × Nat × Nat × Nat × Nat × Nat × Nat × Nat × Nat) (x18 : Bool) : Option (Bool) :=
 br x18
  (some false)
  ((idxn 9 ([r26.1, r26.2.1, r26.2.2.1, r26.2.2.2.1, r26.2.2.2.2.1, r26.2.2.2.2.2.1, r26.2.2.2.2.2.2.1, r26.2.2.2.2.2.2.2.1, r26.2.2.2.2.2.2.2.2]) 8) >>= fun r9089 =>
  (idxn 9 ([a0_0, a0_1, a0_2, a0_3, a0_4, a0_5, a0_6, a0_7, a0_8]) 8) >>= fun r9090 =>
  (idxn 9 ([a1_0, a1_1, a1_2, a1_3, a1_4, a1_5, a1_6, a1_7, a1_8]) 8) >>= fun r9091 =>
  (fadd r9090 r9091) >>= fun r9092 =>
  br (fne r9089 r9092)
   (laws_FnMatAdd_j19 k r33 a0_0 a0_1 a0_2 a0_3 a0_4 a0_5 a0_6 a0_7 a0_8 a2 true)
   ((idxn 9 ([r29.1, r29.2.1, r29.2.2.1, r29.2.2.2.1, r29.2.2.2.2.1, r29.2.2.2.2.2.1, r29.2.2.2.2.2.2.1, r29.2.2.2.2.2.2.2.1, r29.2.2.2.2.2.2.2.2]) 8) >>= fun r9093 =>
   (idxn 9 ([a0_0, a0_1, a0_2, a0_3, a0_4, a0_5, a0_6, a0_7, a0_8]) 8) >>= fun r9094 =>
   (idxn 9 ([a1_0, a1_1, a1_2, a1_3, a1_4, a1_5, a1_6, a1_7, a1_8]) 8) >>= fun r9095 =>
   (fsub r9094 r9095) >>= fun r9096 =>
   laws_FnMatAdd_j19 k r33 a0_0 a0_1 a0_2 a0_3 a0_4 a0_5 a0_6 a0_7 a0_8 a2 (fne r9093 r9096)))
def laws_FnMatAdd_j17 (k : Nat) (r26 : Nat × Nat × Nat × Nat × Nat × Nat × Nat × Nat × Nat) (a0_0 : Nat) (a0_1 : Nat) (a0_2 : Nat) (a0_3 : Nat) (a0_4 : Nat) (a0_5 : Nat) (a0_6 : Nat) (a0_7 : Nat) (a0_8 : Nat) (a1_0 : Nat) (a1_1 : Nat) (a1_2 : Nat) (a1_3 : Nat) (a1_4 : Nat) (a1_5 : Nat) (a1_6 : Nat) (a1_7 : Nat) (a1_8 : Nat) (r33 : Nat × Nat × Nat × Nat × Nat × Nat × Nat × Nat × Nat) (a2 : Int) (r29 : Nat × Nat × Nat × Nat × Nat × Nat × Nat × Nat × Nat) (x17 : Bool) : Option (Bool) :=
 br x17
  (laws_FnMatAdd_j18 k r26 a0_0 a0_1 a0_2 a0_3 a0_4 a0_5 a0_6 a0_7 a0_8 a1_0 a1_1 a1_2 a1_3 a1_4 a1_5 a1_6 a1_7 a1_8 r33 a2 r29 true)
  ((idxn 9 ([r33.1, r33.2.1, r33.2.2.1, r33.2.2.2.1, r33.2.2.2.2.1, r33.2.2.2.2.2.1, r33.2.2.2.2.2.2.1, r33.2.2.2.2.2.2.2.1, r33.2.2.2.2.2.2.2.2]) 7) >>= fun r9086 =>
  (idxn 9 ([a0_0, a0_1, a0_2, a0_3, a0_4, a0_5, a0_6, a0_7, a0_8]) 7) >>= fun r9087 =>
  (fmul (i2f a2) r9087) >>= fun r9088 =>
  laws_FnMatAdd_j18 k r26 a0_0 a0_1 a0_2 a0_3 a0_4 a0_5 a0_6 a0_7 a0_8 a1_0 a1_1 a1_2 a1_3 a1_4 a1_5 a1_6 a1_7 a1_8 r33 a2 r29 (fne r9086 r9088))
def laws_FnMatAdd_j16 (k : Nat) (r26 : Nat × Nat × Nat × Nat × Nat × Nat × Nat × Nat × Nat) (a0_0 : Nat) (a0_1 : Nat) (a0_2 : Nat) (a0_3 : Nat) (a0_4 : Nat) (a0_5 : Nat) (a0_6 : Nat) (a0_7 : Nat) (a0_8 : Nat) (a1_0 : Nat) (a1_1 : Nat) (a1_2 : Nat) (a1_3 : Nat) (a1_4 : Nat) (a1_5 : Nat) (a1_6 : Nat) (a1_7 : Nat) (a1_8 : Nat) (r33 : Nat × Nat × Nat × Nat × Nat × Nat × Nat × Nat × Nat) (a2 : Int) (r29 : Nat × Nat × Nat × Nat × Nat × Nat × Nat × Nat × Nat) (x16 : Bool) : Option (Bool) :=
 br x16
  (some false)
  ((idxn 9 ([r26.1, r26.2.1, r26.2.2.1, r26.2.2.2.1, r26.2.2.2.2.1, r26.2.2.2.2.2.1, r26.2.2.2.2.2.2.1, r26.2.2.2.2.2.2.2.1, r26.2.2.2.2.2.2.2.2]) 7) >>= fun r9078 =>
  (idxn 9 ([a0_0, a0_1, a0_2, a0_3, a0_4, a0_5, a0_6, a0_7, a0_8]) 7) >>= fun r9079 =>
  (idxn 9 ([a1_0, a1_1, a1_2, a1_3, a1_4, a1_5, a1_6, a1_7, a1_8]) 7) >>= fun r9080 =>
  (fadd r9079 r9080) >>= fun r9081 =>
  br (fne r9078 r9081)
   (laws_FnMatAdd_j17 k r26 a0_0 a0_1 a0_2 a0_3 a0_4 a0_5 a0_6 a0_7 a0_8 a1_0 a1_1 a1_2 a1_3 a1_4 a1_5 a1_6 a1_7 a1_8 r33 a2 r29 true)
   ((idxn 9 ([r29.1, r29.2.1, r29.2.2.1, r29.2.2.2.1, r29.2.2.2.2.1, r29.2.2.2.2.2.1, r29.2.2.2.2.2.2.1, r29.2.2.2.2.2.2.2.1, r29.2.2.2.2.2.2.2.2]) 7) >>= fun r9082 =>
   (idxn 9 ([a0_0, a0_1, a0_2, a0_3, a0_4, a0_5, a0_6, a0_7, a0_8]) 7) >>= fun r9083 =>
   (idxn 9 ([a1_0, a1_1, a1_2, a1_3, a1_4, a1_5, a1_6, a1_7, a1_8]) 7) >>= fun r9084 =>
   (fsub r9083 r9084) >>= fun r9085 =>
   laws_FnMatAdd_j17 k r26 a0_0 a0_1 a0_2 a0_3 a0_4 a0_5 a0_6 a0_7 a0_8 a1_0 a1_1 a1_2 a1_3 a1_4 a1_5 a1_6 a1_7 a1_8 r33 a2 r29 (fne r9082 r9085)))
def laws_FnMatAdd_j15 (k : Nat) (r26 : Nat × Nat × Nat × Nat × Nat × Nat × Nat × Nat × Nat) (a0_0 : Nat) (a0_1 : Nat) (a0_2 : Nat) (a0_3 : Nat) (a0_4 : Nat) (a0_5 : Nat) (a0_6 : Nat) (a0_7 : Nat) (a0_8 : Nat) (a1_0 : Nat) (a1_1 : Nat) (a1_2 : Nat) (a1_3 : Nat) (a1_4 : Nat) (a1_5 : Nat) (a1_6 : Nat) (a1_7 : Nat) (a1_8 : Nat) (r33 : Nat × Nat × Nat × Nat × Nat × Nat × Nat × Nat × Nat) (a2 : Int) (r29 : Nat × Nat × Nat × Nat × Nat × Nat × Nat × Nat × Nat) (x15 : Bool) : Option (Bool) :=
 br x15
  (laws_FnMatAdd_j16 k r26 a0_0 a0_1 a0_2 a0_3 a0_4 a0_5 a0_6 a0_7 a0_8 a1_0 a1_1 a1_2 a1_3 a1_4 a1_5 a1_6 a1_7 a1_8 r33 a2 r29 true)
  ((idxn 9 ([r33.1, r33.2.1, r33.2.2.1, r33.2.2.2.1, r33.2.2.2.2.1, r33.2.2.2.2.2.1, r33.2.2.2.2.2.2.1, r33.2.2.2.2.2.2.2.1, r33.2.2.2.2.2.2.2.2]) 6) >>= fun r9075 =>
  (idxn 9 ([a0_0, a0_1, a0_2, a0_3, a0_4, a0_5, a0_6, a0_7, a0_8]) 6) >>= fun r9076 =>
  (fmul (i2f a2) r9076) >>= fun r9077 =>
  laws_FnMatAdd_j16 k r26 a0_0 a0_1 a0_2 a0_3 a0_4 a0_5 a0_6 a0_7 a0_8 a1_0 a1_1 a1_2 a1_3 a1_4 a1_5 a1_6 a1_7 a1_8 r33 a2 r29 (fne r9075 r9077))
def laws_FnMatAdd_j14 (k : Nat) (r26 : Nat × Nat × Nat × Nat × Nat × Nat × Nat × Nat × Nat) (a0_0 : Nat) (a0_1 : Nat) (a0_2 : Nat) (a0_3 : Nat) (a0_4 : Nat) (a0_5 : Nat) (a0_6 : Nat) (a0_7 : Nat) (a0_8 : Nat) (a1_0 : Nat) (a1_1 : Nat) (a1_2 : Nat) (a1_3 : Nat) (a1_4 : Nat) (a1_5 : Nat) (a1_6 : Nat) (a1_7 : Nat) (a1_8 : Nat) (r33 : Nat × Nat × Nat × Nat × Nat × Nat × Nat × Nat × Nat) (a2 : Int) (r29 : Nat × Nat × Nat × Nat × Nat × Nat × Nat × Nat × Nat) (x14 : Bool) : Option (Bool) :=
 br x14
  (some false)
  ((idxn 9 ([r26.1, r26.2.1, r26.2.2.1, r26.2.2.2.1, r26.2.2.2.2.1, r26.2.2.2.2.2.1, r26.2.2.2.2.2.2.1, r26.2.2.2.2.2.2.2.1, r26.2.2.2.2.2.2.2.2]) 6) >>= fun r9067 =>
  (idxn 9 ([a0_0, a0_1, a0_2, a0_3, a0_4, a0_5, a0_6, a0_7, a0_8]) 6) >>= fun r9068 =>
  (idxn 9 ([a1_0, a1_1, a1_2, a1_3, a1_4, a1_5, a1_6, a1_7, a1_8]) 6) >>= fun r9069 =>
  (fadd r9068 r9069) >>= fun r9070 =>
  br (fne r9067 r9070)
   (laws_FnMatAdd_j15 k r26 a0_0 a0_1 a0_2 a0_3 a0_4 a0_5 a0_6 a0_7 a0_8 a1_0 a1_1 a1_2 a1_3 a1_4 a1_5 a1_6 a1_7 a1_8 r33 a2 r29 true)
   ((idxn 9 ([r29.1, r29.2.1, r29.2.2.1, r29.2.2.2.1, r29.2.2.2.2.1, r29.2.2.2.2.2.1, r29.2.2.2.2.2.2.1, r29.2.2.2.2.2.2.2.1, r29.2.2.2.2.2.2.2.2]) 6) >>= fun r9071 =>
   (idxn 9 ([a0_0, a0_1, a0_2, a0_3, a0_4, a0_5, a0_6, a0_7, a0_8]) 6) >>= fun r9072 =>
   (idxn 9 ([a1_0, a1_1, a1_2, a1_3, a1_4, a1_5, a1_6, a1_7, a1_8]) 6) >>= fun r9073 =>
   (fsub r9072 r9073) >>= fun r9074 =>
   laws_FnMatAdd_j15 k r26 a0_0 a0_1 a0_2 a0_3 a0_4 a0_5 a0_6 a0_7 a0_8 a1_0 a1_1 a1_2 a1_3 a1_4 a1_5 a1_6 a1_7 a1_8 r33 a2 r29 (fne r9071 r9074)))
def laws_FnMatAdd_j13 (k : Nat) (r26 : Nat × Nat × Nat × Nat × Nat × Nat × Nat × Nat × Nat) (a0_0 : Nat) (a0_1 : Nat) (a0_2 : Nat) (a0_3 : Nat) (a0_4 : Nat) (a0_5 : Nat) (a0_6 : Nat) (a0_7 : Nat) (a0_8 : Nat) (a1_0 : Nat) (a1_1 : Nat) (a1_2 : Nat) (a1_3 : Nat) (a1_4 : Nat) (a1_5 : Nat) (a1_6 : Nat) (a1_7 : Nat) (a1_8 : Nat) (r33 : Nat × Nat × Nat × Nat × Nat × Nat × Nat × Nat × Nat) (a2 : Int) (r29 : Nat × Nat × Nat × Nat × Nat × Nat × Nat × Nat × Nat) (x13 : Bool) : Option (Bool) :=
 br x13
  (laws_FnMatAdd_j14 k r26 a0_0 a0_1 a0_2 a0_3 a0_4 a0_5 a0_6 a0_7 a0_8 a1_0 a1_1 a1_2 a1_3 a1_4 a1_5 a1_6 a1_7 a1_8 r33 a2 r29 true)
  ((idxn 9 ([r33.1, r33.2.1, r33.2.2.1, r33.2.2.2.1, r33.2.2.2.2.1, r33.2.2.2.2.2.1, r33.2.2.2.2.2.2.1, r33.2.2.2.2.2.2.2.1, r33.2.2.2.2.2.2.2.2]) 5) >>= fun r9064 =>
  (idxn 9 ([a0_0, a0_1, a0_2, a0_3, a0_4, a0_5, a0_6, a0_7, a0_8]) 5) >>= fun r9065 =>
  (fmul (i2f a2) r9065) >>= fun r9066 =>
  laws_FnMatAdd_j14 k r26 a0_0 a0_1 a0_2 a0_3 a0_4 a0_5 a0_6 a0_7 a0_8 a1_0 a1_1 a1_2 a1_3 a1_4 a1_5 a1_6 a1_7 a1_8 r33 a2 r29 (fne r9064 r9066))
def laws_FnMatAdd_j12 (k : Nat) (r26 : Nat × Nat × Nat × Nat × Nat × Nat × Nat × Nat × Nat) (a0_0 : Nat) (a0_1 : Nat) (a0_2 : Nat) (a0_3 : Nat) (a0_4 : Nat) (a0_5 : Nat) (a0_6 : Nat) (a0_7 : Nat) (a0_8 : Nat) (a1_0 : Nat) (a1_1 : Nat) (a1_2 : Nat) (a1_3 : Nat) (a1_4 : Nat) (a1_5 : Nat) (a1_6 : Nat) (a1_7 : Nat) (a1_8 : Nat) (r33 : Nat × Nat × Nat × Nat × Nat × Nat × Nat × Nat × Nat) (a2 : Int) (r29 : Nat × Nat × Nat × Nat × Nat × Nat × Nat × Nat × Nat) (x12 : Bool) : Option (Bool) :=
 br x12
  (some false)
  ((idxn 9 ([r26.1, r26.2.1, r26.2.2.1, r26.2.2.2.1, r26.2.2.2.2.1, r26.2.2.2.2.2.1, r26.2.2.2.2.2.2.1, r26.2.2.2.2.2.2.2.1, r26.2.2.2.2.2.2.2.2]) 5) >>= fun r9056 =>
  (idxn 9 ([a0_0, a0_1, a0_2, a0_3, a0_4, a0_5, a0_6, a0_7, a0_8]) 5) >>= fun r9057 =>
  (idxn 9 ([a1_0, a1_1, a1_2, a1_3, a1_4, a1_5, a1_6, a1_7, a1_8]) 5) >>= fun r9058 =>
  (fadd r9057 r9058) >>= fun r9059 =>
  br (fne r9056 r9059)
   (laws_FnMatAdd_j13 k r26 a0_0 a0_1 a0_2 a0_3 a0_4 a0_5 a0_6 a0_7 a0_8 a1_0 a1_1 a1_2 a1_3 a1_4 a1_5 a1_6 a1_7 a1_8 r33 a2 r29 true)
   ((idxn 9 ([r29.1, r29.2.1, r29.2.2.1, r29.2.2.2.1, r29.2.2.2.2.1, r29.2.2.2.2.2.1, r29.2.2.2.2.2.2.1, r29.2.2.2.2.2.2.2.1, r29.2.2.2.2.2.2.2.2]) 5) >>= fun r9060 =>
   (idxn 9 ([a0_0, a0_1, a0_2, a0_3, a0_4, a0_5, a0_6, a0_7, a0_8]) 5) >>= fun r9061 =>
   (idxn 9 ([a1_0, a1_1, a1_2, a1_3, a1_4, a1_5, a1_6, a1_7, a1_8]) 5) >>= fun r9062 =>
   (fsub r9061 r9062) >>= fun r9063 =>
   laws_FnMatAdd_j13 k r26 a0_0 a0_1 a0_2 a0_3 a0_4 a0_5 a0_6 a0_7 a0_8 a1_0 a1_1 a1_2 a1_3 a1_4 a1_5 a1_6 a1_7 a1_8 r33 a2 r29 (fne r9060 r9063)))
def laws_FnMatAdd_j11 (k : Nat) (r26 : Nat × Nat × Nat × Nat × Nat × Nat × Nat × Nat × Nat) (a0_0 : Nat) (a0_1 : Nat) (a0_2 : Nat) (a0_3 : Nat) (a0_4 : Nat) (a0_5 : Nat) (a0_6 : Nat) (a0_7 : Nat) (a0_8 : Nat) (a1_0 : Nat) (a1_1 : Nat) (a1_2 : Nat) (a1_3 : Nat) (a1_4 : Nat) (a1_5 : Nat) (a1_6 : Nat) (a1_7 : Nat) (a1_8 : Nat) (r33 : Nat × Nat × Nat × Nat × Nat × Nat × Nat × Nat × Nat) (a2 : Int) (r29 : Nat × Nat × Nat × Nat × Nat × Nat × Nat × Nat × Nat) (x11 : Bool) : Option (Bool) :=
 br x11
  (laws_FnMatAdd_j12 k r26 a0_0 a0_1 a0_2 a0_3 a0_4 a0_5 a0_6 a0_7 a0_8 a1_0 a1_1 a1_2 a1_3 a1_4 a1_5 a1_6 a1_7 a1_8 r33 a2 r29 true)
  ((idxn 9 ([r33.1, r33.2.1, r33.2.2.1, r33.2.2.2.1, r33.2.2.2.2.1, r33.2.2.2.2.2.1, r33.2.2.2.2.2.2.1, r33.2.2.2.2.2.2.2.1, r33.2.2.2.2.2.2.2.2]) 4) >>= fun r9053 =>
  (idxn 9 ([a0_0, a0_1, a0_2, a0_3, a0_4, a0_5, a0_6, a0_7, a0_8]) 4) >>= fun r9054 =>
  (fmul (i2f a2) r9054) >>= fun r9055 =>
  laws_FnMatAdd_j12 k r26 a0_0 a0_1 a0_2 a0_3 a0_4 a0_5 a0_6 a0_7 a0_8 a1_0 a1_1 a1_2 a1_3 a1_4 a1_5 a1_6 a1_7 a1_8 r33 a2 r29 (fne r9053 r9055))
def laws_FnMatAdd_j10 (k : Nat) (r26 : Nat × Nat × Nat × Nat × Nat × Nat × Nat × Nat × Nat) (a0_0 : Nat) (a0_1 : Nat) (a0_2 : Nat) (a0_3 : Nat) (a0_4 : Nat) (a0_5 : Nat) (a0_6 : Nat) (a0_7 : Nat) (a0_8 : Nat) (a1_0 : Nat) (a1_1 : Nat) (a1_2 : Nat) (a1_3 : Nat) (a1_4 : Nat) (a1_5 : Nat) (a1_6 : Nat) (a1_7 : Nat) (a1_8 : Nat) (r33 : Nat × Nat × Nat × Nat × Nat × Nat × Nat × Nat × Nat) (a2 : Int) (r29 : Nat × Nat × Nat × Nat × Nat × Nat × Nat × Nat × Nat) (x10 : Bool) : Option (Bool) :=
 br x10
  (some false)
  ((idxn 9 ([r26.1, r26.2.1, r26.2.2.1, r26.2.2.2.1, r26.2.2.2.2.1, r26.2.2.2.2.2.1, r26.2.2.2.2.2.2.1, r26.2.2.2.2.2.2.2.1, r26.2.2.2.2.2.2.2.2]) 4) >>= fun r9045 =>
  (idxn 9 ([a0_0, a0_1, a0_2, a0_3, a0_4, a0_5, a0_6, a0_7, a0_8]) 4) >>= fun r9046 =>
  (idxn 9 ([a1_0, a1_1, a1_2, a1_3, a1_4, a1_5, a1_6, a1_7, a1_8]) 4) >>= fun r9047 =>
  (fadd r9046 r9047) >>= fun r9048 =>
  br (fne r9045 r9048)
   (laws_FnMatAdd_j11 k r26 a0_0 a0_1 a0_2 a0_3 a0_4 a0_5 a0_6 a0_7 a0_8 a1_0 a1_1 a1_2 a1_3 a1_4 a1_5 a1_6 a1_7 a1_8 r33 a2 r29 true)
   ((idxn 9 ([r29.1, r29.2.1, r29.2.2.1, r29.2.2.2.1, r29.2.2.2.2.1, r29.2.2.2.2.2.1, r29.2.2.2.2.2.2.1, r29.2.2.2.2.2.2.2.1, r29.2.2.2.2.2.2.2.2]) 4) >>= fun r9049 =>
   (idxn 9 ([a0_0, a0_1, a0_2, a0_3, a0_4, a0_5, a0_6, a0_7, a0_8]) 4) >>= fun r9050 =>
   (idxn 9 ([a1_0, a1_1, a1_2, a1_3, a1_4, a1_5, a1_6, a1_7, a1_8]) 4) >>= fun r9051 =>
   (fsub r9050 r9051) >>= fun r9052 =>
   laws_FnMatAdd_j11 k r26 a0_0 a0_1 a0_2 a0_3 a0_4 a0_5 a0_6 a0_7 a0_8 a1_0 a1_1 a1_2 a1_3 a1_4 a1_5 a1_6 a1_7 a1_8 r33 a2 r29 (fne r9049 r9052)))
def laws_FnMatAdd_j9 (k : Nat) (r26 : Nat × Nat × Nat × Nat × Nat × Nat × Nat × Nat × Nat) (a0_0 : Nat) (a0_1 : Nat) (a0_2 : Nat) (a0_3 : Nat) (a0_4 : Nat) (a0_5 : Nat) (a0_6 : Nat) (a0_7 : Nat) (a0_8 : Nat) (a1_0 : Nat) (a1_1 : Nat) (a1_2 : Nat) (a1_3 : Nat) (a1_4 : Nat) (a1_5 : Nat) (a1_6 : Nat) (a1_7 : Nat) (a1_8 : Nat) (r33 : Nat × Nat × Nat × Nat × Nat × Nat × Nat × Nat × Nat) (a2 : Int) (r29 : Nat × Nat × Nat × Nat × Nat × Nat × Nat × Nat × Nat) (x9 : Bool) : Option (Bool) :=
 br x9
  (laws_FnMatAdd_j10 k r26 a0_0 a0_1 a0_2 a0_3 a0_4 a0_5 a0_6 a0_7 a0_8 a1_0 a1_1 a1_2 a1_3 a1_4 a1_5 a1_6 a1_7 a1_8 r33 a2 r29 true)
  ((idxn 9 ([r33.1, r33.2.1, r33.2.2.1, r33.2.2.2.1, r33.2.2.2.2.1, r33.2.2.2.2.2.1, r33.2.2.2.2.2.2.1, r33.2.2.2.2.2.2.2.1, r33.2.2.2.2.2.2.2.2]) 3) >>= fun r9042 =>
  (idxn 9 ([a0_0, a0_1, a0_2, a0_3, a0_4, a0_5, a0_6, a0_7, a0_8]) 3) >>= fun r9043 =>
  (fmul (i2f a2) r9043) >>= fun r9044 =>
  laws_FnMatAdd_j10 k r26 a0_0 a0_1 a0_2 a0_3 a0_4 a0_5 a0_6 a0_7 a0_8 a1_0 a1_1 a1_2 a1_3 a1_4 a1_5 a1_6 a1_7 a1_8 r33 a2 r29 (fne r9042 r9044))
def laws_FnMatAdd_j8 (k : Nat) (r26 : Nat × Nat × Nat × Nat × Nat × Nat × Nat × Nat × Nat) (a0_0 : Nat) (a0_1 : Nat) (a0_2 : Nat) (a0_3 : Nat) (a0_4 : Nat) (a0_5 : Nat) (a0_6 : Nat) (a0_7 : Nat) (a0_8 : Nat) (a1_0 : Nat) (a1_1 : Nat) (a1_2 : Nat) (a1_3 : Nat) (a1_4 : Nat) (a1_5 : Nat) (a1_6 : Nat) (a1_7 : Nat) (a1_8 : Nat) (r33 : Nat × Nat × Nat × Nat × Nat × Nat × Nat × Nat × Nat) (a2 : Int) (r29 : Nat × Nat × Nat × Nat × Nat × Nat × Nat × Nat × Nat) (x8 : Bool) : Option (Bool) :=
 br x8
  (some false)
  ((idxn 9 ([r26.1, r26.2.1, r26.2.2.1, r26.2.2.2.1, r26.2.2.2.2.1, r26.2.2.2.2.2.1, r26.2.2.2.2.2.2.1, r26.2.2.2.2.2.2.2.1, r26.2.2.2.2.2.2.2.2]) 3) >>= fun r9034 =>
  (idxn 9 ([a0_0, a0_1, a0_2, a0_3, a0_4, a0_5, a0_6, a0_7, a0_8]) 3) >>= fun r9035 =>
  (idxn 9 ([a1_0, a1_1, a1_2, a1_3, a1_4, a1_5, a1_6, a1_7, a1_8]) 3) >>= fun r9036 =>
  (fadd r9035 r9036) >>= fun r9037 =>
  br (fne r9034 r9037)
   (laws_FnMatAdd_j9 k r26 a0_0 a0_1 a0_2 a0_3 a0_4 a0_5 a0_6 a0_7 a0_8 a1_0 a1_1 a1_2 a1_3 a1_4 a1_5 a1_6 a1_7 a1_8 r33 a2 r29 true)
   ((idxn 9 ([r29.1, r29.2.1, r29.2.2.1, r29.2.2.2.1, r29.2.2.2.2.1, r29.2.2.2.2.2.1, r29.2.2.2.2.2.2.1, r29.2.2.2.2.2.2.2.1, r29.2.2.2.2.2.2.2.2]) 3) >>= fun r9038 =>
   (idxn 9 ([a0_0, a0_1, a0_2, a0_3, a0_4, a0_5, a0_6, a0_7, a0_8]) 3) >>= fun r9039 =>
   (idxn 9 ([a1_0, a1_1, a1_2, a1_3, a1_4, a1_5, a1_6, a1_7, a1_8]) 3) >>= fun r9040 =>
   (fsub r9039 r9040) >>= fun r9041 =>
   laws_FnMatAdd_j9 k r26 a0_0 a0_1 a0_2 a0_3 a0_4 a0_5 a0_6 a0_7 a0_8 a1_0 a1_1 a1_2 a1_3 a1_4 a1_5 a1_6 a1_7 a1_8 r33 a2 r29 (fne r9038 r9041)))
def laws_FnMatAdd_j7 (k : Nat) (r26 : Nat × Nat × Nat × Nat × Nat × Nat × Nat × Nat × Nat) (a0_0 : Nat) (a0_1 : Nat) (a0_2 : Nat) (a0_3 : Nat) (a0_4 : Nat) (a0_5 : Nat) (a0_6 : Nat) (a0_7 : Nat) (a0_8 : Nat) (a1_0 : Nat) (a1_1 : Nat) (a1_2 : Nat) (a1_3 : Nat) (a1_4 : Nat) (a1_5 : Nat) (a1_6 : Nat) (a1_7 : Nat) (a1_8 : Nat) (r33 : Nat × Nat × Nat × Nat × Nat × Nat × Nat × Nat × Nat) (a2 : Int) (r29 : Nat × Nat × Nat × Nat × Nat × Nat × Nat × Nat × Nat) (x7 : Bool) : Option (Bool) :=
 br x7
  (laws_FnMatAdd_j8 k r26 a0_0 a0_1 a0_2 a0_3 a0_4 a0_5 a0_6 a0_7 a0_8 a1_0 a1_1 a1_2 a1_3 a1_4 a1_5 a1_6 a1_7 a1_8 r33 a2 r29 true)
  ((idxn 9 ([r33.1, r33.2.1, r33.2.2.1, r33.2.2.2.1, r33.2.2.2.2.1, r33.2.2.2.2.2.1, r33.2.2.2.2.2.2.1, r33.2.2.2.2.2.2.2.1, r33.2.2.2.2.2.2.2.2]) 2) >>= fun r9031 =>
  (idxn 9 ([a0_0, a0_1, a0_2, a0_3, a0_4, a0_5, a0_6, a0_7, a0_8]) 2) >>= fun r9032 =>
  (fmul (i2f a2) r9032) >>= fun r9033 =>
  laws_FnMatAdd_j8 k r26 a0_0 a0_1 a0_2 a0_3 a0_4 a0_5 a0_6 a0_7 a0_8 a1_0 a1_1 a1_2 a1_3 a1_4 a1_5 a1_6 a1_7 a1_8 r33 a2 r29 (fne r9031 r9033))
def laws_FnMatAdd_j6 (k : Nat) (r26 : Nat × Nat × Nat × Nat × Nat × Nat × Nat × Nat × Nat) (a0_0 : Nat) (a0_1 : Nat) (a0_2 : Nat) (a0_3 : Nat) (a0_4 : Nat) (a0_5 : Nat) (a0_6 : Nat) (a0_7 : Nat) (a0_8 : Nat) (a1_0 : Nat) (a1_1 : Nat) (a1_2 : Nat) (a1_3 : Nat) (a1_4 : Nat) (a1_5 : Nat) (a1_6 : Nat) (a1_7 : Nat) (a1_8 : Nat) (r33 : Nat × Nat × Nat × Nat × Nat × Nat × Nat × Nat × Nat) (a2 : Int) (r29 : Nat × Nat × Nat × Nat × Nat × Nat × Nat × Nat × Nat) (x6 : Bool) : Option (Bool) :=
 br x6
  (some false)
  ((idxn 9 ([r26.1, r26.2.1, r26.2.2.1, r26.2.2.2.1, r26.2.2.2.2.1, r26.2.2.2.2.2.1, r26.2.2.2.2.2.2.1, r26.2.2.2.2.2.2.2.1, r26.2.2.2.2.2.2.2.2]) 2) >>= fun r9023 =>
  (idxn 9 ([a0_0, a0_1, a0_2, a0_3, a0_4, a0_5, a0_6, a0_7, a0_8]) 2) >>= fun r9024 =>
  (idxn 9 ([a1_0, a1_1, a1_2, a1_3, a1_4, a1_5, a1_6, a1_7, a1_8]) 2) >>= fun r9025 =>
  (fadd r9024 r9025) >>= fun r9026 =>
  br (fne r9023 r9026)
   (laws_FnMatAdd_j7 k r26 a0_0 a0_1 a0_2 a0_3 a0_4 a0_5 a0_6 a0_7 a0_8 a1_0 a1_1 a1_2 a1_3 a1_4 a1_5 a1_6 a1_7 a1_8 r33 a2 r29 true)
   ((idxn 9 ([r29.1, r29.2.1, r29.2.2.1, r29.2.2.2.1, r29.2.2.2.2.1, r29.2.2.2.2.2.1, r29.2.2.2.2.2.2.1, r29.2.2.2.2.2.2.2.1, r29.2.2.2.2.2.2.2.2]) 2) >>= fun r9027 =>
   (idxn 9 ([a0_0, a0_1, a0_2, a0_3, a0_4, a0_5, a0_6, a0_7, a0_8]) 2) >>= fun r9028 =>
   (idxn 9 ([a1_0, a1_1, a1_2, a1_3, a1_4, a1_5, a1_6, a1_7, a1_8]) 2) >>= fun r9029 =>
   (fsub r9028 r9029) >>= fun r9030 =>
   laws_FnMatAdd_j7 k r26 a0_0 a0_1 a0_2 a0_3 a0_4 a0_5 a0_6 a0_7 a0_8 a1_0 a1_1 a1_2 a1_3 a1_4 a1_5 a1_6 a1_7 a1_8 r33 a2 r29 (fne r9027 r9030)))
def laws_FnMatAdd_j5 (k : Nat) (r26 : Nat × Nat × Nat × Nat × Nat × Nat × Nat × Nat × Nat) (a0_0 : Nat) (a0_1 : Nat) (a0_2 : Nat) (a0_3 : Nat) (a0_4 : Nat) (a0_5 : Nat) (a0_6 : Nat) (a0_7 : Nat) (a0_8 : Nat) (a1_0 : Nat) (a1_1 : Nat) (a1_2 : Nat) (a1_3 : Nat) (a1_4 : Nat) (a1_5 : Nat) (a1_6 : Nat) (a1_7 : Nat) (a1_8 : Nat) (r33 : Nat × Nat × Nat × Nat × Nat × Nat × Nat × Nat × Nat) (a2 : Int) (r29 : Nat × Nat × Nat × Nat × Nat × Nat × Nat × Nat × Nat) (x5 : Bool) : Option (Bool) :=
 br x5
  (laws_FnMatAdd_j6 k r26 a0_0 a0_1 a0_2 a0_3 a0_4 a0_5 a0_6 a0_7 a0_8 a1_0 a1_1 a1_2 a1_3 a1_4 a1_5 a1_6 a1_7 a1_8 r33 a2 r29 true)
  ((idxn 9 ([r33.1, r33.2.1, r33.2.2.1, r33.2.2.2.1, r33.2.2.2.2.1, r33.2.2.2.2.2.1, r33.2.2.2.2.2.2.1, r33.2.2.2.2.2.2.2.1, r33.2.2.2.2.2.2.2.2]) 1) >>= fun r9020 =>
  (idxn 9 ([a0_0, a0_1, a0_2, a0_3, a0_4, a0_5, a0_6, a0_7, a0_8]) 1) >>= fun r9021 =>
  (fmul (i2f a2) r9021) >>= fun r9022 =>
  laws_FnMatAdd_j6 k r26 a0_0 a0_1 a0_2 a0_3 a0_4 a0_5 a0_6 a0_7 a0_8 a1_0 a1_1 a1_2 a1_3 a1_4 a1_5 a1_6 a1_7 a1_8 r33 a2 r29 (fne r9020 r9022))
def laws_FnMatAdd_j4 (k : Nat) (r26 : Nat × Nat × Nat × Nat × Nat × Nat × Nat × Nat × Nat) (a0_0 : Nat) (a0_1 : Nat) (a0_2 : Nat) (a0_3 : Nat) (a0_4 : Nat) (a0_5 : Nat) (a0_6 : Nat) (a0_7 : Nat) (a0_8 : Nat) (a1_0 : Nat) (a1_1 : Nat) (a1_2 : Nat) (a1_3 : Nat) (a1_4 : Nat) (a1_5 : Nat) (a1_6 : Nat) (a1_7 : Nat) (a1_8 : Nat) (r33 : Nat × Nat × Nat × Nat × Nat × Nat × Nat × Nat × Nat) (a2 : Int) (r29 : Nat × Nat × Nat × Nat × Nat × Nat × Nat × Nat × Nat) (x4 : Bool) : Option (Bool) :=
 br x4
  (some false)
  ((idxn 9 ([r26.1, r26.2.1, r26.2.2.1, r26.2.2.2.1, r26.2.2.2.2.1, r26.2.2.2.2.2.1, r26.2.2.2.2.2.2.1, r26.2.2.2.2.2.2.2.1, r26.2.2.2.2.2.2.2.2]) 1) >>= fun r9012 =>
  (idxn 9 ([a0_0, a0_1, a0_2, a0_3, a0_4, a0_5, a0_6, a0_7, a0_8]) 1) >>= fun r9013 =>
  (idxn 9 ([a1_0, a1_1, a1_2, a1_3, a1_4, a1_5, a1_6, a1_7, a1_8]) 1) >>= fun r9014 =>
  (fadd r9013 r9014) >>= fun r9015 =>
  br (fne r9012 r9015)
   (laws_FnMatAdd_j5 k r26 a0_0 a0_1 a0_2 a0_3 a0_4 a0_5 a0_6 a0_7 a0_8 a1_0 a1_1 a1_2 a1_3 a1_4 a1_5 a1_6 a1_7 a1_8 r33 a2 r29 true)
   ((idxn 9 ([r29.1, r29.2.1, r29.2.2.1, r29.2.2.2.1, r29.2.2.2.2.1, r29.2.2.2.2.2.1, r29.2.2.2.2.2.2.1, r29.2.2.2.2.2.2.2.1, r29.2.2.2.2.2.2.2.2]) 1) >>= fun r9016 =>
   (idxn 9 ([a0_0, a0_1, a0_2, a0_3, a0_4, a0_5, a0_6, a0_7, a0_8]) 1) >>= fun r9017 =>
   (idxn 9 ([a1_0, a1_1, a1_2, a1_3, a1_4, a1_5, a1_6, a1_7, a1_8]) 1) >>= fun r9018 =>
   (fsub r9017 r9018) >>= fun r9019 =>
   laws_FnMatAdd_j5 k r26 a0_0 a0_1 a0_2 a0_3 a0_4 a0_5 a0_6 a0_7 a0_8 a1_0 a1_1 a1_2 a1_3 a1_4 a1_5 a1_6 a1_7 a1_8 r33 a2 r29 (fne r9016 r9019)))
def laws_FnMatAdd_j3 (k : Nat) (r26 : Nat × Nat × Nat × Nat × Nat × Nat × Nat × Nat × Nat) (a0_0 : Nat) (a0_1 : Nat) (a0_2 : Nat) (a0_3 : Nat) (a0_4 : Nat) (a0_5 : Nat) (a0_6 : Nat) (a0_7 : Nat) (a0_8 : Nat) (a1_0 : Nat) (a1_1 : Nat) (a1_2 : Nat) (a1_3 : Nat) (a1_4 : Nat) (a1_5 : Nat) (a1_6 : Nat) (a1_7 : Nat) (a1_8 : Nat) (r33 : Nat × Nat × Nat × Nat × Nat × Nat × Nat × Nat × Nat) (a2 : Int) (r29 : Nat × Nat × Nat × Nat × Nat × Nat × Nat × Nat × Nat) (x3 : Bool) : Option (Bool) :=
 br x3
  (laws_FnMatAdd_j4 k r26 a0_0 a0_1 a0_2 a0_3 a0_4 a0_5 a0_6 a0_7 a0_8 a1_0 a1_1 a1_2 a1_3 a1_4 a1_5 a1_6 a1_7 a1_8 r33 a2 r29 true)
  ((idxn 9 ([r33.1, r33.2.1, r33.2.2.1, r33.2.2.2.1, r33.2.2.2.2.1, r33.2.2.2.2.2.1, r33.2.2.2.2.2.2.1, r33.2.2.2.2.2.2.2.1, r33.2.2.2.2.2.2.2.2]) 0) >>= fun r909 =>
  (idxn 9 ([a0_0, a0_1, a0_2, a0_3, a0_4, a0_5, a0_6, a0_7, a0_8]) 0) >>= fun r9010 =>
  (fmul (i2f a2) r9010) >>= fun r9011 =>
  laws_FnMatAdd_j4 k r26 a0_0 a0_1 a0_2 a0_3 a0_4 a0_5 a0_6 a0_7 a0_8 a1_0 a1_1 a1_2 a1_3 a1_4 a1_5 a1_6 a1_7 a1_8 r33 a2 r29 (fne r909 r9011))
def laws_FnMatAdd_j2 (k : Nat) (a0_0 : Nat) (a0_1 : Nat) (a0_2 : Nat) (a0_3 : Nat) (a0_4 : Nat) (a0_5 : Nat) (a0_6 : Nat) (a0_7 : Nat) (a0_8 : Nat) (a1_0 : Nat) (a1_1 : Nat) (a1_2 : Nat) (a1_3 : Nat) (a1_4 : Nat) (a1_5 : Nat) (a1_6 : Nat) (a1_7 : Nat) (a1_8 : Nat) (a2 : Int) (x2 : Bool) : Option (Bool) :=
 br x2
  (some true)
  ((vec9 ([a0_0, a0_1, a0_2, a0_3, a0_4, a0_5, a0_6, a0_7, a0_8])) >>= fun r24 =>
  (vec9 ([a1_0, a1_1, a1_2, a1_3, a1_4, a1_5, a1_6, a1_7, a1_8])) >>= fun r25 =>
  (vec9 ([a0_0, a0_1, a0_2, a0_3, a0_4, a0_5, a0_6, a0_7, a0_8])) >>= fun r27 =>
  (vec9 ([a1_0, a1_1, a1_2, a1_3, a1_4, a1_5, a1_6, a1_7, a1_8])) >>= fun r28 =>
  (vec9 ([a0_0, a0_1, a0_2, a0_3, a0_4, a0_5, a0_6, a0_7, a0_8])) >>= fun r32 =>
  (impl_MatAdd k r24.1 r24.2.1 r24.2.2.1 r24.2.2.2.1 r24.2.2.2.2.1 r24.2.2.2.2.2.1 r24.2.2.2.2.2.2.1 r24.2.2.2.2.2.2.2.1 r24.2.2.2.2.2.2.2.2 r25.1 r25.2.1 r25.2.2.1 r25.2.2.2.1 r25.2.2.2.2.1 r25.2.2.2.2.2.1 r25.2.2.2.2.2.2.1 r25.2.2.2.2.2.2.2.1 r25.2.2.2.2.2.2.2.2) >>= fun r26 =>
  (impl_MatSub k r27.1 r27.2.1 r27.2.2.1 r27.2.2.2.1 r27.2.2.2.2.1 r27.2.2.2.2.2.1 r27.2.2.2.2.2.2.1 r27.2.2.2.2.2.2.2.1 r27.2.2.2.2.2.2.2.2 r28.1 r28.2.1 r28.2.2.1 r28.2.2.2.1 r28.2.2.2.2.1 r28.2.2.2.2.2.1 r28.2.2.2.2.2.2.1 r28.2.2.2.2.2.2.2.1 r28.2.2.2.2.2.2.2.2) >>= fun r29 =>
  (impl_MatScale k (i2f a2) r32.1 r32.2.1 r32.2.2.1 r32.2.2.2.1 r32.2.2.2.2.1 r32.2.2.2.2.2.1 r32.2.2.2.2.2.2.1 r32.2.2.2.2.2.2.2.1 r32.2.2.2.2.2.2.2.2) >>= fun r33 =>
  (idxn 9 ([r26.1, r26.2.1, r26.2.2.1, r26.2.2.2.1, r26.2.2.2.2.1, r26.2.2.2.2.2.1, r26.2.2.2.2.2.2.1, r26.2.2.2.2.2.2.2.1, r26.2.2.2.2.2.2.2.2]) 0) >>= fun r901 =>
  (idxn 9 ([a0_0, a0_1, a0_2, a0_3, a0_4, a0_5, a0_6, a0_7, a0_8]) 0) >>= fun r902 =>
  (idxn 9 ([a1_0, a1_1, a1_2, a1_3, a1_4, a1_5, a1_6, a1_7, a1_8]) 0) >>= fun r903 =>
  (fadd r902 r903) >>= fun r904 =>
  br (fne r901 r904)
   (laws_FnMatAdd_j3 k r26 a0_0 a0_1 a0_2 a0_3 a0_4 a0_5 a0_6 a0_7 a0_8 a1_0 a1_1 a1_2 a1_3 a1_4 a1_5 a1_6 a1_7 a1_8 r33 a2 r29 true)
   ((idxn 9 ([r29.1, r29.2.1, r29.2.2.1, r29.2.2.2.1, r29.2.2.2.2.1, r29.2.2.2.2.2.1, r29.2.2.2.2.2.2.1, r29.2.2.2.2.2.2.2.1, r29.2.2.2.2.2.2.2.2]) 0) >>= fun r905 =>
   (idxn 9 ([a0_0, a0_1, a0_2, a0_3, a0_4, a0_5, a0_6, a0_7, a0_8]) 0) >>= fun r906 =>
   (idxn 9 ([a1_0, a1_1, a1_2, a1_3, a1_4, a1_5, a1_6, a1_7, a1_8]) 0) >>= fun r907 =>
   (fsub r906 r907) >>= fun r908 =>
   laws_FnMatAdd_j3 k r26 a0_0 a0_1 a0_2 a0_3 a0_4 a0_5 a0_6 a0_7 a0_8 a1_0 a1_1 a1_2 a1_3 a1_4 a1_5 a1_6 a1_7 a1_8 r33 a2 r29 (fne r905 r908)))
def laws_FnMatAdd_j1 (k : Nat) (a0_0 : Nat) (a0_1 : Nat) (a0_2 : Nat) (a0_3 : Nat) (a0_4 : Nat) (a0_5 : Nat) (a0_6 : Nat) (a0_7 : Nat) (a0_8 : Nat) (a1_0 : Nat) (a1_1 : Nat) (a1_2 : Nat) (a1_3 : Nat) (a1_4 : Nat) (a1_5 : Nat) (a1_6 : Nat) (a1_7 : Nat) (a1_8 : Nat) (a2 : Int) (x1 : Bool) : Option (Bool) :=
 br x1
  (laws_FnMatAdd_j2 k a0_0 a0_1 a0_2 a0_3 a0_4 a0_5 a0_6 a0_7 a0_8 a1_0 a1_1 a1_2 a1_3 a1_4 a1_5 a1_6 a1_7 a1_8 a2 true)
  (laws_FnMatAdd_j2 k a0_0 a0_1 a0_2 a0_3 a0_4 a0_5 a0_6 a0_7 a0_8 a1_0 a1_1 a1_2 a1_3 a1_4 a1_5 a1_6 a1_7 a1_8 a2 (decide (1024 < a2)))
def laws_FnMatAdd (k : Nat) (a0_0 : Nat) (a0_1 : Nat) (a0_2 : Nat) (a0_3 : Nat) (a0_4 : Nat) (a0_5 : Nat) (a0_6 : Nat) (a0_7 : Nat) (a0_8 : Nat) (a1_0 : Nat) (a1_1 : Nat) (a1_2 : Nat) (a1_3 : Nat) (a1_4 : Nat) (a1_5 : Nat) (a1_6 : Nat) (a1_7 : Nat) (a1_8 : Nat) (a2 : Int) : Option (Bool) :=
 (vec9 ([a0_0, a0_1, a0_2, a0_3, a0_4, a0_5, a0_6, a0_7, a0_8])) >>= fun r11 =>
 (vec9 ([a1_0, a1_1, a1_2, a1_3, a1_4, a1_5, a1_6, a1_7, a1_8])) >>= fun r12 =>
 (laws_entries k ([(r11.1, r11.2.1, r11.2.2.1, r11.2.2.2.1, r11.2.2.2.2.1, r11.2.2.2.2.2.1, r11.2.2.2.2.2.2.1, r11.2.2.2.2.2.2.2.1, r11.2.2.2.2.2.2.2.2), (r12.1, r12.2.1, r12.2.2.1, r12.2.2.2.1, r12.2.2.2.2.1, r12.2.2.2.2.2.1, r12.2.2.2.2.2.2.1, r12.2.2.2.2.2.2.2.1, r12.2.2.2.2.2.2.2.2)])) >>= fun r14 =>
 br (!r14)
  (laws_FnMatAdd_j1 k a0_0 a0_1 a0_2 a0_3 a0_4 a0_5 a0_6 a0_7 a0_8 a1_0 a1_1 a1_2 a1_3 a1_4 a1_5 a1_6 a1_7 a1_8 a2 true)
  (laws_FnMatAdd_j1 k a0_0 a0_1 a0_2 a0_3 a0_4 a0_5 a0_6 a0_7 a0_8 a1_0 a1_1 a1_2 a1_3 a1_4 a1_5 a1_6 a1_7 a1_8 a2 (decide (a2 < (-1024))))


end Go.Proofs.YtnhbmhdjkibjaaaDoor
