/-
  Plain functions for the Go functions that this law reaches, and that each call does what its plain function says. Printed by a program of ours.
-/
import Derived.Test.YthjeamiaogdmgaaDoorProg
import Derived.Test.YthjeamiaogdmgaaDoorSxZ
import Derived.Test.YthjeamiaogdmgaaDoorFun1
namespace Go.Proofs.YthjeamiaogdmgaaDoor
open Go.Sx
set_option linter.unusedVariables false
set_option maxRecDepth 100000
set_option linter.unusedSectionVars false
variable [Ga]
def impl_ReadUint32 (k : Nat) (a0 : List Int) (a1 : Bool) : Option (Int × Int × Bool) :=
  (bytes_NewBuffer k a0) >>= fun r11 =>
  (wkbcommon_DoorOrder k a1) >>= fun r16 =>
  match r16 with
    | (.inl y2) =>
      ((wkbcommon_ReadUInt32 k r11.1 r11.2.1 r11.2.2) >>= fun r17 =>
      match r17 with
        | (.inl y3) =>
          ((bytes_Buffer_Len k y3.1 y3.2.1 y3.2.2.1) >>= fun r22 =>
          some (y3.2.2.2, r22.2.2.2, false))
        | (.inr (.inl y3)) =>
          ((bytes_Buffer_Len k y3.1 y3.2.1 y3.2.2.1) >>= fun r22 =>
          some (y3.2.2.2, r22.2.2.2, true))
        | (.inr (.inr (.inl y3))) =>
          ((bytes_Buffer_Len k y3.1 y3.2.1 y3.2.2.1) >>= fun r22 =>
          some (y3.2.2.2, r22.2.2.2, false))
        | (.inr (.inr (.inr y3))) =>
          ((bytes_Buffer_Len k y3.1 y3.2.1 y3.2.2.1) >>= fun r22 =>
          some (y3.2.2.2, r22.2.2.2, false)))
    | (.inr y2) =>
      ((wkbcommon_ReadUInt32_v2 k r11.1 r11.2.1 r11.2.2) >>= fun r17 =>
      match r17 with
        | (.inl y3) =>
          ((bytes_Buffer_Len k y3.1 y3.2.1 y3.2.2.1) >>= fun r22 =>
          some (y3.2.2.2, r22.2.2.2, false))
        | (.inr (.inl y3)) =>
          ((bytes_Buffer_Len k y3.1 y3.2.1 y3.2.2.1) >>= fun r22 =>
          some (y3.2.2.2, r22.2.2.2, true))
        | (.inr (.inr (.inl y3))) =>
          ((bytes_Buffer_Len k y3.1 y3.2.1 y3.2.2.1) >>= fun r22 =>
          some (y3.2.2.2, r22.2.2.2, false))
        | (.inr (.inr (.inr y3))) =>
          ((bytes_Buffer_Len k y3.1 y3.2.1 y3.2.2.1) >>= fun r22 =>
          some (y3.2.2.2, r22.2.2.2, false)))

theorem impl_ReadUint32_sim {k : Nat}  (a0 : List Int) (a1 : Bool) {out : Int × Int × Bool} (hp : impl_ReadUint32 k a0 a1 = some out) : Go.Sx.Fn Tryd.prog 5 [(Sl (Ki .u8) a0), (Vl (.bool a1))] [] (fun w : Unit => (Tu [(Vl (.int .u32 out.1)), (Vl (.int .i64 out.2.1)), (Vl (.bool out.2.2))])) (fun w => []) := by
  unfold impl_ReadUint32 at hp
  refine fnD_of Tryd.func5 rfl Tryd.ntmps5 rfl fun E hM => ?_
  refine cx_seq' fun K1 hK1 => ?_
  refine cx_region' ?_
  refine sx_ox' (ox_alloc' info23 rfl rfl rfl rfl (l := [(Vl (.int .u32 0))]) rfl) (wt_none' rfl) fun q4 => ?_
  refine sx_ox' (ox_alloc' info3 rfl rfl rfl rfl (l := [(Vl (.int .i64 0))]) rfl) (wt_none' rfl) fun q5 => ?_
  refine sx_ox' (ox_alloc' info4 rfl rfl rfl rfl (l := [(Vl (.bool false))]) rfl) (wt_none' rfl) fun q6 => ?_
  refine sx_nil' ?_
  show TX E K1 _
  refine tx_k' hK1 ?_
  refine cx_seq' fun K2 hK2 => ?_
  refine cx_region' ?_
  refine sx_rd' (rd_mkfunc' (us := [.pointer (some q4), .pointer (some q5), .pointer (some q6)]) rfl) rfl rfl (wt_none' rfl) ?_
  refine sx_ox' (ox_defer' rfl rfl) (wt_none' rfl) fun _ => ?_
  refine sx_nil' ?_
  show TX E K2 _
  refine tx_k' hK2 ?_
  refine cx_seq' fun K3 hK3 => ?_
  refine cx_region' ?_
  refine sx_rd' (rd_move' rfl) rfl rfl (wt_none' rfl) ?_
  obtain ⟨r11, hr11, hp⟩ := bind_some hp
  refine sx_ox' (ox_calln' (ent_fn' Tryd.func10 isn10 rfl rfl) (bytes_NewBuffer_sim _ hr11 : Go.Sx.Fn Tryd.prog 10 [(Sl (Ki .u8) a0)] [] (fun x : Addr => (Vl (.pointer (some x)))) (fun x => [⟨.pointer (some x), [(Sl (Ki .u8) r11.1), (Vl (.int .i64 r11.2.1)), (Vl (.int .i8 r11.2.2))], 50, none⟩])) (Hn := fun x : Addr => [⟨.pointer (some x), [(Sl (Ki .u8) r11.1), (Vl (.int .i64 r11.2.1)), (Vl (.int .i8 r11.2.2))], 50, none⟩, ⟨.pointer (some q6), [(Vl (.bool false))], 4, none⟩, ⟨.pointer (some q5), [(Vl (.int .i64 0))], 3, none⟩, ⟨.pointer (some q4), [(Vl (.int .u32 0))], 23, none⟩]) (fun _ => rfl) rfl rfl) (wt_none' rfl) fun q11 => ?_
  refine sx_rd' (rd_assign' rfl) rfl rfl (wt_none' rfl) ?_
  refine sx_nil' ?_
  show TX E K3 _
  refine tx_k' hK3 ?_
  refine cx_seq' fun K4 hK4 => ?_
  refine cx_region' ?_
  refine sx_rd' (rd_move' rfl) rfl rfl (wt_none' rfl) ?_
  refine sx_rd' (rd_iface' rfl ⟨_, Tryd.underlying32, fun _ h => (nomatch h)⟩) rfl rfl (wt_none' rfl) ?_
  refine sx_rd' (rd_move' rfl) rfl rfl (wt_none' rfl) ?_
  obtain ⟨r16, hr16, hp⟩ := bind_some hp
  rcases r16 with y2 | y2
  · dsimp only at hp
    refine sx_ox' (ox_calln' (ent_fn' Tryd.func12 isn12 rfl rfl) (wkbcommon_DoorOrder_sim _ hr16 : Go.Sx.Fn Tryd.prog 12 [(Vl (.bool a1))] [] (fun x : Unit => (If 60 (Ag []))) (fun x => [])) (Hn := fun x : Unit => [⟨.pointer (some q11), [(Sl (Ki .u8) r11.1), (Vl (.int .i64 r11.2.1)), (Vl (.int .i8 r11.2.2))], 50, none⟩, ⟨.pointer (some q6), [(Vl (.bool false))], 4, none⟩, ⟨.pointer (some q5), [(Vl (.int .i64 0))], 3, none⟩, ⟨.pointer (some q4), [(Vl (.int .u32 0))], 23, none⟩]) (fun _ => rfl) rfl rfl) (wt_none' rfl) fun ⟨⟩ => ?_
    obtain ⟨r17, hr17, hp⟩ := bind_some hp
    rcases r17 with y3 | y3 | y3 | y3
    · dsimp only at hp
      refine sx_ox' (ox_callg' (ent_fn' Tryd.func11 isn11 rfl rfl) (wkbcommon_ReadUInt32_sim _ _ _ hr17 : Go.Sx.Fn Tryd.prog 11 [(If 32 (Vl (.pointer (some q11)))), (If 60 (Ag []))] [⟨.pointer (some q11), [(Sl (Ki .u8) r11.1), (Vl (.int .i64 r11.2.1)), (Vl (.int .i8 r11.2.2))], 50, none⟩] (fun x : Unit => (Tu [(Vl (.int .u32 y3.2.2.2)), (If 67 (Vl (.pointer (some (Ga.a 2)))))])) (fun x => [⟨.pointer (some q11), [(Sl (Ki .u8) y3.1), (Vl (.int .i64 y3.2.1)), (Vl (.int .i8 y3.2.2.1))], 50, none⟩])) [0] [1, 2, 3] (by decide) (pick_cons rfl pick_nil) (pick_cons rfl (pick_cons rfl (pick_cons rfl pick_nil))) (Hn := fun x : Unit => [⟨.pointer (some q11), [(Sl (Ki .u8) y3.1), (Vl (.int .i64 y3.2.1)), (Vl (.int .i8 y3.2.2.1))], 50, none⟩, ⟨.pointer (some q6), [(Vl (.bool false))], 4, none⟩, ⟨.pointer (some q5), [(Vl (.int .i64 0))], 3, none⟩, ⟨.pointer (some q4), [(Vl (.int .u32 0))], 23, none⟩]) (fun _ => rfl) rfl rfl) (wt_none' rfl) fun ⟨⟩ => ?_
      refine sx_rd' (rd_move' rfl) rfl rfl (wt_none' rfl) ?_
      refine sx_rd' (rd_extract' rfl rfl) rfl rfl (wt_none' rfl) ?_
      refine sx_rd' (rd_extract' rfl rfl) rfl rfl (wt_none' rfl) ?_
      refine sx_ox' (ox_store' (i := 3) (o := 0) rfl rfl (lv_vl rfl rfl) ⟨rfl, rfl, rfl, rfl⟩ rfl info23 rfl (H' := [⟨.pointer (some q11), [(Sl (Ki .u8) y3.1), (Vl (.int .i64 y3.2.1)), (Vl (.int .i8 y3.2.2.1))], 50, none⟩, ⟨.pointer (some q6), [(Vl (.bool false))], 4, none⟩, ⟨.pointer (some q5), [(Vl (.int .i64 0))], 3, none⟩, ⟨.pointer (some q4), [(Vl (.int .u32 y3.2.2.2))], 23, none⟩]) rfl) (wt_none' rfl) fun _ => ?_
      refine sx_rd' (rd_assign' rfl) rfl rfl (wt_none' rfl) ?_
      refine sx_nil' ?_
      show TX E K4 _
      refine tx_k' hK4 ?_
      refine cx_seq' fun K5 hK5 => ?_
      refine cx_plana' [q4.block] [(2, 1), (5, 2), (6, 1), (7, 1)] [(0, 2), (1, 1)] 6 #[true, true, false, false, false, false, false, false] mixed (by kernel_rfl) ?_
      refine px_rb' rfl (rb_load' (i := 3) (o := 0) rfl ⟨rfl, rfl, rfl, rfl⟩ rfl flat23 (by simp)) rfl rfl (wt_none' rfl) ?_
      refine px_rd' rfl (rd_move' rfl) rfl rfl (wt_none' rfl) ?_
      refine px_nil' ?_
      show AX E _ _ _ _ _ _ _ _
      obtain ⟨r22, hr22, hp⟩ := bind_some hp
      refine ax_node (f' := 0) #[true, true, true, true, true, true, true, true] (fun (v11 : Unit) => (⟨25, [⟨.fn (.func 9) ⟨[.pointer (some q4), .pointer (some q5), .pointer (some q6)]⟩, #[]⟩], [(4, (Vl (.pointer (some q4)))), (5, (Vl (.pointer (some q5)))), (6, (Vl (.pointer (some q6))))], [⟨.pointer (some q4), [(Vl (.int .u32 y3.2.2.2))], 23, none⟩, ⟨.pointer (some q5), [(Vl (.int .i64 r22.2.2.2))], 3, none⟩, ⟨.pointer (some q6), [(Vl (.bool false))], 4, none⟩]⟩ : St)) ?_ ?_
      · rintro ⟨⟩
        refine ax_nil (by kernel_rfl) ?_
        show TX E K5 _
        refine tx_k' hK5 ?_
        refine cx_retc' ?_
        replace hp := Option.some.inj hp
        subst hp
        refine tx_leave' (.inl rfl) rfl idle9 rfl Tryd.func9 isn9 rfl ?_
        refine tx_pick' (L' := [(4, (Vl (.pointer (some q4)))), (5, (Vl (.pointer (some q5)))), (6, (Vl (.pointer (some q6))))]) (H' := [⟨.pointer (some q4), [(Vl (.int .u32 y3.2.2.2))], 23, none⟩, ⟨.pointer (some q5), [(Vl (.int .i64 r22.2.2.2))], 3, none⟩, ⟨.pointer (some q6), [(Vl (.bool false))], 4, none⟩]) [0, 1, 2] (sub_cons rfl (sub_cons rfl (sub_cons rfl sub_nil))) (by decide) (pick_cons rfl (pick_cons rfl (pick_cons rfl pick_nil))) ?_
        exact tx_ret3' Tryd.results5 rfl () (rv_cell' (i := 0) (o := 0) rfl ⟨rfl, rfl, rfl, rfl⟩ rfl flat23) (rv_cell' (i := 1) (o := 0) rfl ⟨rfl, rfl, rfl, rfl⟩ rfl flat3) (rv_cell' (i := 2) (o := 0) rfl ⟨rfl, rfl, rfl, rfl⟩ rfl flat4) rfl (List.nil_sublist _)
      intro hN12
      refine ax_node (f' := 1) #[true, true, true, true, true, true, true, false] (fun (v10 : Unit) => (⟨25, [⟨.fn (.func 9) ⟨[.pointer (some q4), .pointer (some q5), .pointer (some q6)]⟩, #[]⟩], [(4, (Vl (.pointer (some q4)))), (5, (Vl (.pointer (some q5)))), (6, (Vl (.pointer (some q6)))), (24, (Vl (.bool false)))], [⟨.pointer (some q4), [(Vl (.int .u32 y3.2.2.2))], 23, none⟩, ⟨.pointer (some q5), [(Vl (.int .i64 r22.2.2.2))], 3, none⟩, ⟨.pointer (some q6), [(Vl (.bool false))], 4, none⟩]⟩ : St)) ?_ ?_
      · rintro ⟨⟩
        refine ax_all (i := 7) (is := []) (by kernel_rfl) (all_cons ?_ all_nil)
        · refine nx_oxv (last := #[true, true, true, true, true, true, true, true]) rfl (oxv_store (i := 2) (o := 0) rfl rfl (lv_vl rfl rfl) ⟨rfl, rfl, rfl, rfl⟩ rfl info4 rfl (H' := [⟨.pointer (some q4), [(Vl (.int .u32 y3.2.2.2))], 23, none⟩, ⟨.pointer (some q5), [(Vl (.int .i64 r22.2.2.2))], 3, none⟩, ⟨.pointer (some q6), [(Vl (.bool false))], 4, none⟩]) rfl) rfl rfl (bo_cons (m := 0) (by decide) rfl rfl bo_nil) (wt_none' rfl) rfl fun _ => ?_
          exact tx_pick' [0, 1, 2] (sub_cons rfl (sub_cons rfl (sub_cons rfl sub_nil))) (by decide) (pick_cons rfl (pick_cons rfl (pick_cons rfl pick_nil))) (hN12 ())
      intro hN11
      refine ax_node (f' := 2) #[true, true, true, true, true, true, false, false] (fun (v8 : Unit) => (⟨25, [⟨.fn (.func 9) ⟨[.pointer (some q4), .pointer (some q5), .pointer (some q6)]⟩, #[]⟩], [(4, (Vl (.pointer (some q4)))), (5, (Vl (.pointer (some q5)))), (6, (Vl (.pointer (some q6)))), (22, (Vl (.int .i64 r22.2.2.2))), (24, (Vl (.bool false)))], [⟨.pointer (some q4), [(Vl (.int .u32 y3.2.2.2))], 23, none⟩, ⟨.pointer (some q5), [(Vl (.int .i64 0))], 3, none⟩, ⟨.pointer (some q6), [(Vl (.bool false))], 4, none⟩]⟩ : St)) ?_ ?_
      · rintro ⟨⟩
        refine ax_all (i := 6) (is := []) (by kernel_rfl) (all_cons ?_ all_nil)
        · refine nx_oxv (last := #[true, true, true, true, true, true, true, false]) rfl (oxv_store (i := 1) (o := 0) rfl rfl (lv_vl rfl rfl) ⟨rfl, rfl, rfl, rfl⟩ rfl info3 rfl (H' := [⟨.pointer (some q4), [(Vl (.int .u32 y3.2.2.2))], 23, none⟩, ⟨.pointer (some q5), [(Vl (.int .i64 r22.2.2.2))], 3, none⟩, ⟨.pointer (some q6), [(Vl (.bool false))], 4, none⟩]) rfl) rfl rfl (bo_cons (m := 0) (by decide) rfl rfl bo_nil) (wt_none' rfl) rfl fun _ => ?_
          exact tx_pick' [0, 1, 2] (sub_cons rfl (sub_cons rfl (sub_cons rfl (sub_cons rfl sub_nil)))) (by decide) (pick_cons rfl (pick_cons rfl (pick_cons rfl pick_nil))) (hN11 ())
      intro hN9
      refine ax_node (f' := 2) #[true, true, true, true, false, true, true, false] (fun (v9 : Unit) => (⟨25, [⟨.fn (.func 9) ⟨[.pointer (some q4), .pointer (some q5), .pointer (some q6)]⟩, #[]⟩], [(4, (Vl (.pointer (some q4)))), (5, (Vl (.pointer (some q5)))), (6, (Vl (.pointer (some q6)))), (23, (If 67 (Vl (.pointer (some (Ga.a 2))))))], [⟨.pointer (some q4), [(Vl (.int .u32 y3.2.2.2))], 23, none⟩, ⟨.pointer (some q5), [(Vl (.int .i64 r22.2.2.2))], 3, none⟩, ⟨.pointer (some q6), [(Vl (.bool false))], 4, none⟩]⟩ : St)) ?_ ?_
      · rintro ⟨⟩
        refine ax_rd (ix := 4) (last := #[true, true, true, true, true, true, true, false]) (by kernel_rfl) rfl (rd_binf' rfl rfl (bf_if (fun _ _ => by kernel_rfl) nil_eql35_if67)) rfl rfl (wt_none' rfl) rfl ?_
        exact tx_pick' [0, 1, 2] (sub_cons rfl (sub_cons rfl (sub_cons rfl (sub_cons rfl sub_nil)))) (by decide) (pick_cons rfl (pick_cons rfl (pick_cons rfl pick_nil))) (hN11 ())
      intro hN10
      refine ax_node (f' := 3) #[true, true, true, true, true, false, false, false] (fun (v6 : Unit) => (⟨25, [⟨.fn (.func 9) ⟨[.pointer (some q4), .pointer (some q5), .pointer (some q6)]⟩, #[]⟩], [(4, (Vl (.pointer (some q4)))), (5, (Vl (.pointer (some q5)))), (6, (Vl (.pointer (some q6)))), (20, (Vl (.int .u32 y3.2.2.2))), (22, (Vl (.int .i64 r22.2.2.2))), (24, (Vl (.bool false)))], [⟨.pointer (some q4), [(Vl (.int .u32 y3.2.2.2))], 23, none⟩, ⟨.pointer (some q5), [(Vl (.int .i64 0))], 3, none⟩, ⟨.pointer (some q6), [(Vl (.bool false))], 4, none⟩]⟩ : St)) ?_ ?_
      · rintro ⟨⟩
        refine ax_all (i := 5) (is := []) (by kernel_rfl) (all_cons ?_ all_nil)
        · refine nx_ox (last := #[true, true, true, true, true, true, false, false]) rfl (ox_store' (i := 0) (o := 0) rfl rfl (lv_vl rfl rfl) ⟨rfl, rfl, rfl, rfl⟩ rfl info23 rfl (H' := [⟨.pointer (some q4), [(Vl (.int .u32 y3.2.2.2))], 23, none⟩, ⟨.pointer (some q5), [(Vl (.int .i64 0))], 3, none⟩, ⟨.pointer (some q6), [(Vl (.bool false))], 4, none⟩]) rfl) rfl (bs_cons (m := 0) rfl rfl rfl bs_nil) (wt_none' rfl) rfl fun _ => ?_
          exact tx_pick' [0, 1, 2] (sub_cons rfl (sub_cons rfl (sub_cons rfl (sub_cons rfl (sub_cons rfl sub_nil))))) (by decide) (pick_cons rfl (pick_cons rfl (pick_cons rfl pick_nil))) (hN9 ())
      intro hN7
      refine ax_node (f' := 3) #[true, true, true, true, false, true, false, false] (fun (v7 : Unit) => (⟨25, [⟨.fn (.func 9) ⟨[.pointer (some q4), .pointer (some q5), .pointer (some q6)]⟩, #[]⟩], [(4, (Vl (.pointer (some q4)))), (5, (Vl (.pointer (some q5)))), (6, (Vl (.pointer (some q6)))), (22, (Vl (.int .i64 r22.2.2.2))), (23, (If 67 (Vl (.pointer (some (Ga.a 2))))))], [⟨.pointer (some q4), [(Vl (.int .u32 y3.2.2.2))], 23, none⟩, ⟨.pointer (some q5), [(Vl (.int .i64 0))], 3, none⟩, ⟨.pointer (some q6), [(Vl (.bool false))], 4, none⟩]⟩ : St)) ?_ ?_
      · rintro ⟨⟩
        refine ax_all (i := 4) (is := [6]) (by kernel_rfl) (all_cons ?_ (all_cons ?_ all_nil))
        · refine nx_rd (last := #[true, true, true, true, true, true, false, false]) rfl (rd_binf' rfl rfl (bf_if (fun _ _ => by kernel_rfl) nil_eql35_if67)) rfl rfl (wt_none' rfl) rfl ?_
          exact tx_pick' [0, 1, 2] (sub_cons rfl (sub_cons rfl (sub_cons rfl (sub_cons rfl (sub_cons rfl sub_nil))))) (by decide) (pick_cons rfl (pick_cons rfl (pick_cons rfl pick_nil))) (hN9 ())
        · refine nx_oxv (last := #[true, true, true, true, false, true, true, false]) rfl (oxv_store (i := 1) (o := 0) rfl rfl (lv_vl rfl rfl) ⟨rfl, rfl, rfl, rfl⟩ rfl info3 rfl (H' := [⟨.pointer (some q4), [(Vl (.int .u32 y3.2.2.2))], 23, none⟩, ⟨.pointer (some q5), [(Vl (.int .i64 r22.2.2.2))], 3, none⟩, ⟨.pointer (some q6), [(Vl (.bool false))], 4, none⟩]) rfl) rfl rfl (bo_cons (m := 0) (by decide) rfl rfl bo_nil) (wt_none' rfl) rfl fun _ => ?_
          exact tx_pick' [0, 1, 2] (sub_cons rfl (sub_cons rfl (sub_cons rfl (sub_cons rfl sub_nil)))) (by decide) (pick_cons rfl (pick_cons rfl (pick_cons rfl pick_nil))) (hN10 ())
      intro hN8
      refine ax_node (f' := 4) #[true, true, true, true, false, false, false, false] (fun (v3 : Unit) => (⟨25, [⟨.fn (.func 9) ⟨[.pointer (some q4), .pointer (some q5), .pointer (some q6)]⟩, #[]⟩], [(4, (Vl (.pointer (some q4)))), (5, (Vl (.pointer (some q5)))), (6, (Vl (.pointer (some q6)))), (20, (Vl (.int .u32 y3.2.2.2))), (22, (Vl (.int .i64 r22.2.2.2))), (23, (If 67 (Vl (.pointer (some (Ga.a 2))))))], [⟨.pointer (some q4), [(Vl (.int .u32 y3.2.2.2))], 23, none⟩, ⟨.pointer (some q5), [(Vl (.int .i64 0))], 3, none⟩, ⟨.pointer (some q6), [(Vl (.bool false))], 4, none⟩]⟩ : St)) ?_ ?_
      · rintro ⟨⟩
        refine ax_all (i := 4) (is := [5]) (by kernel_rfl) (all_cons ?_ (all_cons ?_ all_nil))
        · refine nx_rd (last := #[true, true, true, true, true, false, false, false]) rfl (rd_binf' rfl rfl (bf_if (fun _ _ => by kernel_rfl) nil_eql35_if67)) rfl rfl (wt_none' rfl) rfl ?_
          exact tx_pick' [0, 1, 2] (sub_cons rfl (sub_cons rfl (sub_cons rfl (sub_cons rfl (sub_cons rfl (sub_cons rfl sub_nil)))))) (by decide) (pick_cons rfl (pick_cons rfl (pick_cons rfl pick_nil))) (hN7 ())
        · refine nx_ox (last := #[true, true, true, true, false, true, false, false]) rfl (ox_store' (i := 0) (o := 0) rfl rfl (lv_vl rfl rfl) ⟨rfl, rfl, rfl, rfl⟩ rfl info23 rfl (H' := [⟨.pointer (some q4), [(Vl (.int .u32 y3.2.2.2))], 23, none⟩, ⟨.pointer (some q5), [(Vl (.int .i64 0))], 3, none⟩, ⟨.pointer (some q6), [(Vl (.bool false))], 4, none⟩]) rfl) rfl (bs_cons (m := 0) rfl rfl rfl bs_nil) (wt_none' rfl) rfl fun _ => ?_
          exact tx_pick' [0, 1, 2] (sub_cons rfl (sub_cons rfl (sub_cons rfl (sub_cons rfl (sub_cons rfl sub_nil))))) (by decide) (pick_cons rfl (pick_cons rfl (pick_cons rfl pick_nil))) (hN8 ())
      intro hN4
      refine ax_node (f' := 4) #[true, true, true, false, false, true, false, false] (fun (v4 : Unit) => (⟨25, [⟨.fn (.func 9) ⟨[.pointer (some q4), .pointer (some q5), .pointer (some q6)]⟩, #[]⟩], [(4, (Vl (.pointer (some q4)))), (5, (Vl (.pointer (some q5)))), (6, (Vl (.pointer (some q6)))), (8, (If 67 (Vl (.pointer (some (Ga.a 2)))))), (22, (Vl (.int .i64 r22.2.2.2)))], [⟨.pointer (some q4), [(Vl (.int .u32 y3.2.2.2))], 23, none⟩, ⟨.pointer (some q5), [(Vl (.int .i64 0))], 3, none⟩, ⟨.pointer (some q6), [(Vl (.bool false))], 4, none⟩]⟩ : St)) ?_ ?_
      · rintro ⟨⟩
        refine ax_rb (ix := 3) (last := #[true, true, true, true, false, true, false, false]) (by kernel_rfl) rfl (rb_move' rfl) rfl rfl (wt_none' rfl) rfl ?_
        exact tx_pick' [0, 1, 2] (sub_cons rfl (sub_cons rfl (sub_cons rfl (sub_cons rfl (sub_cons rfl sub_nil))))) (by decide) (pick_cons rfl (pick_cons rfl (pick_cons rfl pick_nil))) (hN8 ())
      intro hN5
      refine ax_node (f' := 4) #[true, true, false, true, true, false, false, false] (fun (v5 : Unit) => (⟨25, [⟨.fn (.func 9) ⟨[.pointer (some q4), .pointer (some q5), .pointer (some q6)]⟩, #[]⟩], [(4, (Vl (.pointer (some q4)))), (5, (Vl (.pointer (some q5)))), (6, (Vl (.pointer (some q6)))), (20, (Vl (.int .u32 y3.2.2.2))), (21, (Vl (.pointer (some q11)))), (24, (Vl (.bool false)))], [⟨.pointer (some q4), [(Vl (.int .u32 y3.2.2.2))], 23, none⟩, ⟨.pointer (some q5), [(Vl (.int .i64 0))], 3, none⟩, ⟨.pointer (some q6), [(Vl (.bool false))], 4, none⟩, ⟨.pointer (some q11), [(Sl (Ki .u8) y3.1), (Vl (.int .i64 y3.2.1)), (Vl (.int .i8 y3.2.2.1))], 50, none⟩]⟩ : St)) ?_ ?_
      · rintro ⟨⟩
        refine ax_all (i := 2) (is := []) (by kernel_rfl) (all_cons ?_ all_nil)
        · refine nx_oxb (is := [3]) (last := #[true, true, true, true, true, false, false, false]) rfl (oxb_callg (ent_fn' Tryd.func13 isn13 rfl rfl) (bytes_Buffer_Len_sim _ _ _ hr22 : Go.Sx.Fn Tryd.prog 13 [(Vl (.pointer (some q11)))] [⟨.pointer (some q11), [(Sl (Ki .u8) y3.1), (Vl (.int .i64 y3.2.1)), (Vl (.int .i8 y3.2.2.1))], 50, none⟩] (fun x : Unit => (Vl (.int .i64 r22.2.2.2))) (fun x => [⟨.pointer (some q11), [(Sl (Ki .u8) r22.1), (Vl (.int .i64 r22.2.1)), (Vl (.int .i8 r22.2.2.1))], 50, none⟩])) [3] [0, 1, 2] (by decide) (pick_cons rfl pick_nil) (pick_cons rfl (pick_cons rfl (pick_cons rfl pick_nil))) (Hn := fun x : Unit => [⟨.pointer (some q11), [(Sl (Ki .u8) r22.1), (Vl (.int .i64 r22.2.1)), (Vl (.int .i8 r22.2.2.1))], 50, none⟩, ⟨.pointer (some q4), [(Vl (.int .u32 y3.2.2.2))], 23, none⟩, ⟨.pointer (some q5), [(Vl (.int .i64 0))], 3, none⟩, ⟨.pointer (some q6), [(Vl (.bool false))], 4, none⟩]) (fun _ => rfl) rfl rfl) (pick_cons rfl pick_nil) rfl (bl_cons (m := 0) (by decide) rfl rfl bl_nil) (wt_none' rfl) rfl fun ⟨⟩ => ?_
          exact tx_pick' [1, 2, 3] (sub_cons rfl (sub_cons rfl (sub_cons rfl (sub_cons rfl (sub_cons rfl (sub_cons rfl sub_nil)))))) (by decide) (pick_cons rfl (pick_cons rfl (pick_cons rfl pick_nil))) (hN7 ())
      intro hN6
      refine ax_node (f' := 5) #[true, true, true, false, false, false, false, false] (fun (v1 : Unit) => (⟨25, [⟨.fn (.func 9) ⟨[.pointer (some q4), .pointer (some q5), .pointer (some q6)]⟩, #[]⟩], [(4, (Vl (.pointer (some q4)))), (5, (Vl (.pointer (some q5)))), (6, (Vl (.pointer (some q6)))), (8, (If 67 (Vl (.pointer (some (Ga.a 2)))))), (20, (Vl (.int .u32 y3.2.2.2))), (22, (Vl (.int .i64 r22.2.2.2)))], [⟨.pointer (some q4), [(Vl (.int .u32 y3.2.2.2))], 23, none⟩, ⟨.pointer (some q5), [(Vl (.int .i64 0))], 3, none⟩, ⟨.pointer (some q6), [(Vl (.bool false))], 4, none⟩]⟩ : St)) ?_ ?_
      · rintro ⟨⟩
        refine ax_all (i := 3) (is := [5]) (by kernel_rfl) (all_cons ?_ (all_cons ?_ all_nil))
        · refine nx_rd (last := #[true, true, true, true, false, false, false, false]) rfl (rd_move' rfl) rfl rfl (wt_none' rfl) rfl ?_
          exact tx_pick' [0, 1, 2] (sub_cons rfl (sub_cons rfl (sub_cons rfl (sub_cons rfl (sub_cons rfl (sub_cons rfl sub_nil)))))) (by decide) (pick_cons rfl (pick_cons rfl (pick_cons rfl pick_nil))) (hN4 ())
        · refine nx_ox (last := #[true, true, true, false, false, true, false, false]) rfl (ox_store' (i := 0) (o := 0) rfl rfl (lv_vl rfl rfl) ⟨rfl, rfl, rfl, rfl⟩ rfl info23 rfl (H' := [⟨.pointer (some q4), [(Vl (.int .u32 y3.2.2.2))], 23, none⟩, ⟨.pointer (some q5), [(Vl (.int .i64 0))], 3, none⟩, ⟨.pointer (some q6), [(Vl (.bool false))], 4, none⟩]) rfl) rfl (bs_cons (m := 0) rfl rfl rfl bs_nil) (wt_none' rfl) rfl fun _ => ?_
          exact tx_pick' [0, 1, 2] (sub_cons rfl (sub_cons rfl (sub_cons rfl (sub_cons rfl (sub_cons rfl sub_nil))))) (by decide) (pick_cons rfl (pick_cons rfl (pick_cons rfl pick_nil))) (hN5 ())
      intro hN2
      refine ax_node (f' := 5) #[true, true, false, true, false, false, false, false] (fun (v2 : Unit) => (⟨25, [⟨.fn (.func 9) ⟨[.pointer (some q4), .pointer (some q5), .pointer (some q6)]⟩, #[]⟩], [(4, (Vl (.pointer (some q4)))), (5, (Vl (.pointer (some q5)))), (6, (Vl (.pointer (some q6)))), (20, (Vl (.int .u32 y3.2.2.2))), (21, (Vl (.pointer (some q11)))), (23, (If 67 (Vl (.pointer (some (Ga.a 2))))))], [⟨.pointer (some q4), [(Vl (.int .u32 y3.2.2.2))], 23, none⟩, ⟨.pointer (some q5), [(Vl (.int .i64 0))], 3, none⟩, ⟨.pointer (some q6), [(Vl (.bool false))], 4, none⟩, ⟨.pointer (some q11), [(Sl (Ki .u8) y3.1), (Vl (.int .i64 y3.2.1)), (Vl (.int .i8 y3.2.2.1))], 50, none⟩]⟩ : St)) ?_ ?_
      · rintro ⟨⟩
        refine ax_all (i := 2) (is := [4]) (by kernel_rfl) (all_cons ?_ (all_cons ?_ all_nil))
        · refine nx_oxb (is := [3]) (last := #[true, true, true, true, false, false, false, false]) rfl (oxb_callg (ent_fn' Tryd.func13 isn13 rfl rfl) (bytes_Buffer_Len_sim _ _ _ hr22 : Go.Sx.Fn Tryd.prog 13 [(Vl (.pointer (some q11)))] [⟨.pointer (some q11), [(Sl (Ki .u8) y3.1), (Vl (.int .i64 y3.2.1)), (Vl (.int .i8 y3.2.2.1))], 50, none⟩] (fun x : Unit => (Vl (.int .i64 r22.2.2.2))) (fun x => [⟨.pointer (some q11), [(Sl (Ki .u8) r22.1), (Vl (.int .i64 r22.2.1)), (Vl (.int .i8 r22.2.2.1))], 50, none⟩])) [3] [0, 1, 2] (by decide) (pick_cons rfl pick_nil) (pick_cons rfl (pick_cons rfl (pick_cons rfl pick_nil))) (Hn := fun x : Unit => [⟨.pointer (some q11), [(Sl (Ki .u8) r22.1), (Vl (.int .i64 r22.2.1)), (Vl (.int .i8 r22.2.2.1))], 50, none⟩, ⟨.pointer (some q4), [(Vl (.int .u32 y3.2.2.2))], 23, none⟩, ⟨.pointer (some q5), [(Vl (.int .i64 0))], 3, none⟩, ⟨.pointer (some q6), [(Vl (.bool false))], 4, none⟩]) (fun _ => rfl) rfl rfl) (pick_cons rfl pick_nil) rfl (bl_cons (m := 0) (by decide) rfl rfl bl_nil) (wt_none' rfl) rfl fun ⟨⟩ => ?_
          exact tx_pick' [1, 2, 3] (sub_cons rfl (sub_cons rfl (sub_cons rfl (sub_cons rfl (sub_cons rfl (sub_cons rfl sub_nil)))))) (by decide) (pick_cons rfl (pick_cons rfl (pick_cons rfl pick_nil))) (hN4 ())
        · refine nx_rd (last := #[true, true, false, true, true, false, false, false]) rfl (rd_binf' rfl rfl (bf_if (fun _ _ => by kernel_rfl) nil_eql35_if67)) rfl rfl (wt_none' rfl) rfl ?_
          exact tx_pick' [0, 1, 2, 3] (sub_cons rfl (sub_cons rfl (sub_cons rfl (sub_cons rfl (sub_cons rfl (sub_cons rfl sub_nil)))))) (by decide) (pick_cons rfl (pick_cons rfl (pick_cons rfl (pick_cons rfl pick_nil)))) (hN6 ())
      intro hN3
      refine ax_all (i := 2) (is := [3]) (by kernel_rfl) (all_cons ?_ (all_cons ?_ all_nil))
      · refine nx_oxb (is := [0]) (last := #[true, true, true, false, false, false, false, false]) rfl (oxb_callg (ent_fn' Tryd.func13 isn13 rfl rfl) (bytes_Buffer_Len_sim _ _ _ hr22 : Go.Sx.Fn Tryd.prog 13 [(Vl (.pointer (some q11)))] [⟨.pointer (some q11), [(Sl (Ki .u8) y3.1), (Vl (.int .i64 y3.2.1)), (Vl (.int .i8 y3.2.2.1))], 50, none⟩] (fun x : Unit => (Vl (.int .i64 r22.2.2.2))) (fun x => [⟨.pointer (some q11), [(Sl (Ki .u8) r22.1), (Vl (.int .i64 r22.2.1)), (Vl (.int .i8 r22.2.2.1))], 50, none⟩])) [0] [1, 2, 3] (by decide) (pick_cons rfl pick_nil) (pick_cons rfl (pick_cons rfl (pick_cons rfl pick_nil))) (Hn := fun x : Unit => [⟨.pointer (some q11), [(Sl (Ki .u8) r22.1), (Vl (.int .i64 r22.2.1)), (Vl (.int .i8 r22.2.2.1))], 50, none⟩, ⟨.pointer (some q6), [(Vl (.bool false))], 4, none⟩, ⟨.pointer (some q5), [(Vl (.int .i64 0))], 3, none⟩, ⟨.pointer (some q4), [(Vl (.int .u32 y3.2.2.2))], 23, none⟩]) (fun _ => rfl) rfl rfl) (pick_cons rfl pick_nil) rfl (bl_cons (m := 3) (by decide) rfl rfl bl_nil) (wt_none' rfl) rfl fun ⟨⟩ => ?_
        exact tx_pick' [3, 2, 1] (sub_cons rfl (sub_cons rfl (sub_cons rfl (sub_cons rfl (sub_cons rfl (sub_cons rfl sub_nil)))))) (by decide) (pick_cons rfl (pick_cons rfl (pick_cons rfl pick_nil))) (hN2 ())
      · refine nx_rd (last := #[true, true, false, true, false, false, false, false]) rfl (rd_move' rfl) rfl rfl (wt_none' rfl) rfl ?_
        exact tx_pick' [3, 2, 1, 0] (sub_cons rfl (sub_cons rfl (sub_cons rfl (sub_cons rfl (sub_cons rfl (sub_cons rfl sub_nil)))))) (by decide) (pick_cons rfl (pick_cons rfl (pick_cons rfl (pick_cons rfl pick_nil)))) (hN3 ())
    · dsimp only at hp
      refine sx_ox' (ox_callg' (ent_fn' Tryd.func11 isn11 rfl rfl) (wkbcommon_ReadUInt32_sim _ _ _ hr17 : Go.Sx.Fn Tryd.prog 11 [(If 32 (Vl (.pointer (some q11)))), (If 60 (Ag []))] [⟨.pointer (some q11), [(Sl (Ki .u8) r11.1), (Vl (.int .i64 r11.2.1)), (Vl (.int .i8 r11.2.2))], 50, none⟩] (fun x : Unit => (Tu [(Vl (.int .u32 y3.2.2.2)), (Vl .nilIface)])) (fun x => [⟨.pointer (some q11), [(Sl (Ki .u8) y3.1), (Vl (.int .i64 y3.2.1)), (Vl (.int .i8 y3.2.2.1))], 50, none⟩])) [0] [1, 2, 3] (by decide) (pick_cons rfl pick_nil) (pick_cons rfl (pick_cons rfl (pick_cons rfl pick_nil))) (Hn := fun x : Unit => [⟨.pointer (some q11), [(Sl (Ki .u8) y3.1), (Vl (.int .i64 y3.2.1)), (Vl (.int .i8 y3.2.2.1))], 50, none⟩, ⟨.pointer (some q6), [(Vl (.bool false))], 4, none⟩, ⟨.pointer (some q5), [(Vl (.int .i64 0))], 3, none⟩, ⟨.pointer (some q4), [(Vl (.int .u32 0))], 23, none⟩]) (fun _ => rfl) rfl rfl) (wt_none' rfl) fun ⟨⟩ => ?_
      refine sx_rd' (rd_move' rfl) rfl rfl (wt_none' rfl) ?_
      refine sx_rd' (rd_extract' rfl rfl) rfl rfl (wt_none' rfl) ?_
      refine sx_rd' (rd_extract' rfl rfl) rfl rfl (wt_none' rfl) ?_
      refine sx_ox' (ox_store' (i := 3) (o := 0) rfl rfl (lv_vl rfl rfl) ⟨rfl, rfl, rfl, rfl⟩ rfl info23 rfl (H' := [⟨.pointer (some q11), [(Sl (Ki .u8) y3.1), (Vl (.int .i64 y3.2.1)), (Vl (.int .i8 y3.2.2.1))], 50, none⟩, ⟨.pointer (some q6), [(Vl (.bool false))], 4, none⟩, ⟨.pointer (some q5), [(Vl (.int .i64 0))], 3, none⟩, ⟨.pointer (some q4), [(Vl (.int .u32 y3.2.2.2))], 23, none⟩]) rfl) (wt_none' rfl) fun _ => ?_
      refine sx_rd' (rd_assign' rfl) rfl rfl (wt_none' rfl) ?_
      refine sx_nil' ?_
      show TX E K4 _
      refine tx_k' hK4 ?_
      refine cx_seq' fun K5 hK5 => ?_
      refine cx_plana' [q4.block] [(2, 1), (5, 2), (6, 1), (7, 1)] [(0, 2), (1, 1)] 6 #[true, true, false, false, false, false, false, false] mixed (by kernel_rfl) ?_
      refine px_rb' rfl (rb_load' (i := 3) (o := 0) rfl ⟨rfl, rfl, rfl, rfl⟩ rfl flat23 (by simp)) rfl rfl (wt_none' rfl) ?_
      refine px_rd' rfl (rd_move' rfl) rfl rfl (wt_none' rfl) ?_
      refine px_nil' ?_
      show AX E _ _ _ _ _ _ _ _
      obtain ⟨r22, hr22, hp⟩ := bind_some hp
      refine ax_node (f' := 0) #[true, true, true, true, true, true, true, true] (fun (v11 : Unit) => (⟨25, [⟨.fn (.func 9) ⟨[.pointer (some q4), .pointer (some q5), .pointer (some q6)]⟩, #[]⟩], [(4, (Vl (.pointer (some q4)))), (5, (Vl (.pointer (some q5)))), (6, (Vl (.pointer (some q6))))], [⟨.pointer (some q4), [(Vl (.int .u32 y3.2.2.2))], 23, none⟩, ⟨.pointer (some q5), [(Vl (.int .i64 r22.2.2.2))], 3, none⟩, ⟨.pointer (some q6), [(Vl (.bool true))], 4, none⟩]⟩ : St)) ?_ ?_
      · rintro ⟨⟩
        refine ax_nil (by kernel_rfl) ?_
        show TX E K5 _
        refine tx_k' hK5 ?_
        refine cx_retc' ?_
        replace hp := Option.some.inj hp
        subst hp
        refine tx_leave' (.inl rfl) rfl idle9 rfl Tryd.func9 isn9 rfl ?_
        refine tx_pick' (L' := [(4, (Vl (.pointer (some q4)))), (5, (Vl (.pointer (some q5)))), (6, (Vl (.pointer (some q6))))]) (H' := [⟨.pointer (some q4), [(Vl (.int .u32 y3.2.2.2))], 23, none⟩, ⟨.pointer (some q5), [(Vl (.int .i64 r22.2.2.2))], 3, none⟩, ⟨.pointer (some q6), [(Vl (.bool true))], 4, none⟩]) [0, 1, 2] (sub_cons rfl (sub_cons rfl (sub_cons rfl sub_nil))) (by decide) (pick_cons rfl (pick_cons rfl (pick_cons rfl pick_nil))) ?_
        exact tx_ret3' Tryd.results5 rfl () (rv_cell' (i := 0) (o := 0) rfl ⟨rfl, rfl, rfl, rfl⟩ rfl flat23) (rv_cell' (i := 1) (o := 0) rfl ⟨rfl, rfl, rfl, rfl⟩ rfl flat3) (rv_cell' (i := 2) (o := 0) rfl ⟨rfl, rfl, rfl, rfl⟩ rfl flat4) rfl (List.nil_sublist _)
      intro hN12
      refine ax_node (f' := 1) #[true, true, true, true, true, true, true, false] (fun (v10 : Unit) => (⟨25, [⟨.fn (.func 9) ⟨[.pointer (some q4), .pointer (some q5), .pointer (some q6)]⟩, #[]⟩], [(4, (Vl (.pointer (some q4)))), (5, (Vl (.pointer (some q5)))), (6, (Vl (.pointer (some q6)))), (24, (Vl (.bool true)))], [⟨.pointer (some q4), [(Vl (.int .u32 y3.2.2.2))], 23, none⟩, ⟨.pointer (some q5), [(Vl (.int .i64 r22.2.2.2))], 3, none⟩, ⟨.pointer (some q6), [(Vl (.bool false))], 4, none⟩]⟩ : St)) ?_ ?_
      · rintro ⟨⟩
        refine ax_all (i := 7) (is := []) (by kernel_rfl) (all_cons ?_ all_nil)
        · refine nx_oxv (last := #[true, true, true, true, true, true, true, true]) rfl (oxv_store (i := 2) (o := 0) rfl rfl (lv_vl rfl rfl) ⟨rfl, rfl, rfl, rfl⟩ rfl info4 rfl (H' := [⟨.pointer (some q4), [(Vl (.int .u32 y3.2.2.2))], 23, none⟩, ⟨.pointer (some q5), [(Vl (.int .i64 r22.2.2.2))], 3, none⟩, ⟨.pointer (some q6), [(Vl (.bool true))], 4, none⟩]) rfl) rfl rfl (bo_cons (m := 0) (by decide) rfl rfl bo_nil) (wt_none' rfl) rfl fun _ => ?_
          exact tx_pick' [0, 1, 2] (sub_cons rfl (sub_cons rfl (sub_cons rfl sub_nil))) (by decide) (pick_cons rfl (pick_cons rfl (pick_cons rfl pick_nil))) (hN12 ())
      intro hN11
      refine ax_node (f' := 2) #[true, true, true, true, true, true, false, false] (fun (v8 : Unit) => (⟨25, [⟨.fn (.func 9) ⟨[.pointer (some q4), .pointer (some q5), .pointer (some q6)]⟩, #[]⟩], [(4, (Vl (.pointer (some q4)))), (5, (Vl (.pointer (some q5)))), (6, (Vl (.pointer (some q6)))), (22, (Vl (.int .i64 r22.2.2.2))), (24, (Vl (.bool true)))], [⟨.pointer (some q4), [(Vl (.int .u32 y3.2.2.2))], 23, none⟩, ⟨.pointer (some q5), [(Vl (.int .i64 0))], 3, none⟩, ⟨.pointer (some q6), [(Vl (.bool false))], 4, none⟩]⟩ : St)) ?_ ?_
      · rintro ⟨⟩
        refine ax_all (i := 6) (is := []) (by kernel_rfl) (all_cons ?_ all_nil)
        · refine nx_oxv (last := #[true, true, true, true, true, true, true, false]) rfl (oxv_store (i := 1) (o := 0) rfl rfl (lv_vl rfl rfl) ⟨rfl, rfl, rfl, rfl⟩ rfl info3 rfl (H' := [⟨.pointer (some q4), [(Vl (.int .u32 y3.2.2.2))], 23, none⟩, ⟨.pointer (some q5), [(Vl (.int .i64 r22.2.2.2))], 3, none⟩, ⟨.pointer (some q6), [(Vl (.bool false))], 4, none⟩]) rfl) rfl rfl (bo_cons (m := 0) (by decide) rfl rfl bo_nil) (wt_none' rfl) rfl fun _ => ?_
          exact tx_pick' [0, 1, 2] (sub_cons rfl (sub_cons rfl (sub_cons rfl (sub_cons rfl sub_nil)))) (by decide) (pick_cons rfl (pick_cons rfl (pick_cons rfl pick_nil))) (hN11 ())
      intro hN9
      refine ax_node (f' := 2) #[true, true, true, true, false, true, true, false] (fun (v9 : Unit) => (⟨25, [⟨.fn (.func 9) ⟨[.pointer (some q4), .pointer (some q5), .pointer (some q6)]⟩, #[]⟩], [(4, (Vl (.pointer (some q4)))), (5, (Vl (.pointer (some q5)))), (6, (Vl (.pointer (some q6)))), (23, (Vl .nilIface))], [⟨.pointer (some q4), [(Vl (.int .u32 y3.2.2.2))], 23, none⟩, ⟨.pointer (some q5), [(Vl (.int .i64 r22.2.2.2))], 3, none⟩, ⟨.pointer (some q6), [(Vl (.bool false))], 4, none⟩]⟩ : St)) ?_ ?_
      · rintro ⟨⟩
        refine ax_rd (ix := 4) (last := #[true, true, true, true, true, true, true, false]) (by kernel_rfl) rfl (rd_binf' rfl rfl (bf_vl (fun _ => by kernel_rfl) nil_eql35_nilif)) rfl rfl (wt_none' rfl) rfl ?_
        exact tx_pick' [0, 1, 2] (sub_cons rfl (sub_cons rfl (sub_cons rfl (sub_cons rfl sub_nil)))) (by decide) (pick_cons rfl (pick_cons rfl (pick_cons rfl pick_nil))) (hN11 ())
      intro hN10
      refine ax_node (f' := 3) #[true, true, true, true, true, false, false, false] (fun (v6 : Unit) => (⟨25, [⟨.fn (.func 9) ⟨[.pointer (some q4), .pointer (some q5), .pointer (some q6)]⟩, #[]⟩], [(4, (Vl (.pointer (some q4)))), (5, (Vl (.pointer (some q5)))), (6, (Vl (.pointer (some q6)))), (20, (Vl (.int .u32 y3.2.2.2))), (22, (Vl (.int .i64 r22.2.2.2))), (24, (Vl (.bool true)))], [⟨.pointer (some q4), [(Vl (.int .u32 y3.2.2.2))], 23, none⟩, ⟨.pointer (some q5), [(Vl (.int .i64 0))], 3, none⟩, ⟨.pointer (some q6), [(Vl (.bool false))], 4, none⟩]⟩ : St)) ?_ ?_
      · rintro ⟨⟩
        refine ax_all (i := 5) (is := []) (by kernel_rfl) (all_cons ?_ all_nil)
        · refine nx_ox (last := #[true, true, true, true, true, true, false, false]) rfl (ox_store' (i := 0) (o := 0) rfl rfl (lv_vl rfl rfl) ⟨rfl, rfl, rfl, rfl⟩ rfl info23 rfl (H' := [⟨.pointer (some q4), [(Vl (.int .u32 y3.2.2.2))], 23, none⟩, ⟨.pointer (some q5), [(Vl (.int .i64 0))], 3, none⟩, ⟨.pointer (some q6), [(Vl (.bool false))], 4, none⟩]) rfl) rfl (bs_cons (m := 0) rfl rfl rfl bs_nil) (wt_none' rfl) rfl fun _ => ?_
          exact tx_pick' [0, 1, 2] (sub_cons rfl (sub_cons rfl (sub_cons rfl (sub_cons rfl (sub_cons rfl sub_nil))))) (by decide) (pick_cons rfl (pick_cons rfl (pick_cons rfl pick_nil))) (hN9 ())
      intro hN7
      refine ax_node (f' := 3) #[true, true, true, true, false, true, false, false] (fun (v7 : Unit) => (⟨25, [⟨.fn (.func 9) ⟨[.pointer (some q4), .pointer (some q5), .pointer (some q6)]⟩, #[]⟩], [(4, (Vl (.pointer (some q4)))), (5, (Vl (.pointer (some q5)))), (6, (Vl (.pointer (some q6)))), (22, (Vl (.int .i64 r22.2.2.2))), (23, (Vl .nilIface))], [⟨.pointer (some q4), [(Vl (.int .u32 y3.2.2.2))], 23, none⟩, ⟨.pointer (some q5), [(Vl (.int .i64 0))], 3, none⟩, ⟨.pointer (some q6), [(Vl (.bool false))], 4, none⟩]⟩ : St)) ?_ ?_
      · rintro ⟨⟩
        refine ax_all (i := 4) (is := [6]) (by kernel_rfl) (all_cons ?_ (all_cons ?_ all_nil))
        · refine nx_rd (last := #[true, true, true, true, true, true, false, false]) rfl (rd_binf' rfl rfl (bf_vl (fun _ => by kernel_rfl) nil_eql35_nilif)) rfl rfl (wt_none' rfl) rfl ?_
          exact tx_pick' [0, 1, 2] (sub_cons rfl (sub_cons rfl (sub_cons rfl (sub_cons rfl (sub_cons rfl sub_nil))))) (by decide) (pick_cons rfl (pick_cons rfl (pick_cons rfl pick_nil))) (hN9 ())
        · refine nx_oxv (last := #[true, true, true, true, false, true, true, false]) rfl (oxv_store (i := 1) (o := 0) rfl rfl (lv_vl rfl rfl) ⟨rfl, rfl, rfl, rfl⟩ rfl info3 rfl (H' := [⟨.pointer (some q4), [(Vl (.int .u32 y3.2.2.2))], 23, none⟩, ⟨.pointer (some q5), [(Vl (.int .i64 r22.2.2.2))], 3, none⟩, ⟨.pointer (some q6), [(Vl (.bool false))], 4, none⟩]) rfl) rfl rfl (bo_cons (m := 0) (by decide) rfl rfl bo_nil) (wt_none' rfl) rfl fun _ => ?_
          exact tx_pick' [0, 1, 2] (sub_cons rfl (sub_cons rfl (sub_cons rfl (sub_cons rfl sub_nil)))) (by decide) (pick_cons rfl (pick_cons rfl (pick_cons rfl pick_nil))) (hN10 ())
      intro hN8
      refine ax_node (f' := 4) #[true, true, true, true, false, false, false, false] (fun (v3 : Unit) => (⟨25, [⟨.fn (.func 9) ⟨[.pointer (some q4), .pointer (some q5), .pointer (some q6)]⟩, #[]⟩], [(4, (Vl (.pointer (some q4)))), (5, (Vl (.pointer (some q5)))), (6, (Vl (.pointer (some q6)))), (20, (Vl (.int .u32 y3.2.2.2))), (22, (Vl (.int .i64 r22.2.2.2))), (23, (Vl .nilIface))], [⟨.pointer (some q4), [(Vl (.int .u32 y3.2.2.2))], 23, none⟩, ⟨.pointer (some q5), [(Vl (.int .i64 0))], 3, none⟩, ⟨.pointer (some q6), [(Vl (.bool false))], 4, none⟩]⟩ : St)) ?_ ?_
      · rintro ⟨⟩
        refine ax_all (i := 4) (is := [5]) (by kernel_rfl) (all_cons ?_ (all_cons ?_ all_nil))
        · refine nx_rd (last := #[true, true, true, true, true, false, false, false]) rfl (rd_binf' rfl rfl (bf_vl (fun _ => by kernel_rfl) nil_eql35_nilif)) rfl rfl (wt_none' rfl) rfl ?_
          exact tx_pick' [0, 1, 2] (sub_cons rfl (sub_cons rfl (sub_cons rfl (sub_cons rfl (sub_cons rfl (sub_cons rfl sub_nil)))))) (by decide) (pick_cons rfl (pick_cons rfl (pick_cons rfl pick_nil))) (hN7 ())
        · refine nx_ox (last := #[true, true, true, true, false, true, false, false]) rfl (ox_store' (i := 0) (o := 0) rfl rfl (lv_vl rfl rfl) ⟨rfl, rfl, rfl, rfl⟩ rfl info23 rfl (H' := [⟨.pointer (some q4), [(Vl (.int .u32 y3.2.2.2))], 23, none⟩, ⟨.pointer (some q5), [(Vl (.int .i64 0))], 3, none⟩, ⟨.pointer (some q6), [(Vl (.bool false))], 4, none⟩]) rfl) rfl (bs_cons (m := 0) rfl rfl rfl bs_nil) (wt_none' rfl) rfl fun _ => ?_
          exact tx_pick' [0, 1, 2] (sub_cons rfl (sub_cons rfl (sub_cons rfl (sub_cons rfl (sub_cons rfl sub_nil))))) (by decide) (pick_cons rfl (pick_cons rfl (pick_cons rfl pick_nil))) (hN8 ())
      intro hN4
      refine ax_node (f' := 4) #[true, true, true, false, false, true, false, false] (fun (v4 : Unit) => (⟨25, [⟨.fn (.func 9) ⟨[.pointer (some q4), .pointer (some q5), .pointer (some q6)]⟩, #[]⟩], [(4, (Vl (.pointer (some q4)))), (5, (Vl (.pointer (some q5)))), (6, (Vl (.pointer (some q6)))), (8, (Vl .nilIface)), (22, (Vl (.int .i64 r22.2.2.2)))], [⟨.pointer (some q4), [(Vl (.int .u32 y3.2.2.2))], 23, none⟩, ⟨.pointer (some q5), [(Vl (.int .i64 0))], 3, none⟩, ⟨.pointer (some q6), [(Vl (.bool false))], 4, none⟩]⟩ : St)) ?_ ?_
      · rintro ⟨⟩
        refine ax_rb (ix := 3) (last := #[true, true, true, true, false, true, false, false]) (by kernel_rfl) rfl (rb_move' rfl) rfl rfl (wt_none' rfl) rfl ?_
        exact tx_pick' [0, 1, 2] (sub_cons rfl (sub_cons rfl (sub_cons rfl (sub_cons rfl (sub_cons rfl sub_nil))))) (by decide) (pick_cons rfl (pick_cons rfl (pick_cons rfl pick_nil))) (hN8 ())
      intro hN5
      refine ax_node (f' := 4) #[true, true, false, true, true, false, false, false] (fun (v5 : Unit) => (⟨25, [⟨.fn (.func 9) ⟨[.pointer (some q4), .pointer (some q5), .pointer (some q6)]⟩, #[]⟩], [(4, (Vl (.pointer (some q4)))), (5, (Vl (.pointer (some q5)))), (6, (Vl (.pointer (some q6)))), (20, (Vl (.int .u32 y3.2.2.2))), (21, (Vl (.pointer (some q11)))), (24, (Vl (.bool true)))], [⟨.pointer (some q4), [(Vl (.int .u32 y3.2.2.2))], 23, none⟩, ⟨.pointer (some q5), [(Vl (.int .i64 0))], 3, none⟩, ⟨.pointer (some q6), [(Vl (.bool false))], 4, none⟩, ⟨.pointer (some q11), [(Sl (Ki .u8) y3.1), (Vl (.int .i64 y3.2.1)), (Vl (.int .i8 y3.2.2.1))], 50, none⟩]⟩ : St)) ?_ ?_
      · rintro ⟨⟩
        refine ax_all (i := 2) (is := []) (by kernel_rfl) (all_cons ?_ all_nil)
        · refine nx_oxb (is := [3]) (last := #[true, true, true, true, true, false, false, false]) rfl (oxb_callg (ent_fn' Tryd.func13 isn13 rfl rfl) (bytes_Buffer_Len_sim _ _ _ hr22 : Go.Sx.Fn Tryd.prog 13 [(Vl (.pointer (some q11)))] [⟨.pointer (some q11), [(Sl (Ki .u8) y3.1), (Vl (.int .i64 y3.2.1)), (Vl (.int .i8 y3.2.2.1))], 50, none⟩] (fun x : Unit => (Vl (.int .i64 r22.2.2.2))) (fun x => [⟨.pointer (some q11), [(Sl (Ki .u8) r22.1), (Vl (.int .i64 r22.2.1)), (Vl (.int .i8 r22.2.2.1))], 50, none⟩])) [3] [0, 1, 2] (by decide) (pick_cons rfl pick_nil) (pick_cons rfl (pick_cons rfl (pick_cons rfl pick_nil))) (Hn := fun x : Unit => [⟨.pointer (some q11), [(Sl (Ki .u8) r22.1), (Vl (.int .i64 r22.2.1)), (Vl (.int .i8 r22.2.2.1))], 50, none⟩, ⟨.pointer (some q4), [(Vl (.int .u32 y3.2.2.2))], 23, none⟩, ⟨.pointer (some q5), [(Vl (.int .i64 0))], 3, none⟩, ⟨.pointer (some q6), [(Vl (.bool false))], 4, none⟩]) (fun _ => rfl) rfl rfl) (pick_cons rfl pick_nil) rfl (bl_cons (m := 0) (by decide) rfl rfl bl_nil) (wt_none' rfl) rfl fun ⟨⟩ => ?_
          exact tx_pick' [1, 2, 3] (sub_cons rfl (sub_cons rfl (sub_cons rfl (sub_cons rfl (sub_cons rfl (sub_cons rfl sub_nil)))))) (by decide) (pick_cons rfl (pick_cons rfl (pick_cons rfl pick_nil))) (hN7 ())
      intro hN6
      refine ax_node (f' := 5) #[true, true, true, false, false, false, false, false] (fun (v1 : Unit) => (⟨25, [⟨.fn (.func 9) ⟨[.pointer (some q4), .pointer (some q5), .pointer (some q6)]⟩, #[]⟩], [(4, (Vl (.pointer (some q4)))), (5, (Vl (.pointer (some q5)))), (6, (Vl (.pointer (some q6)))), (8, (Vl .nilIface)), (20, (Vl (.int .u32 y3.2.2.2))), (22, (Vl (.int .i64 r22.2.2.2)))], [⟨.pointer (some q4), [(Vl (.int .u32 y3.2.2.2))], 23, none⟩, ⟨.pointer (some q5), [(Vl (.int .i64 0))], 3, none⟩, ⟨.pointer (some q6), [(Vl (.bool false))], 4, none⟩]⟩ : St)) ?_ ?_
      · rintro ⟨⟩
        refine ax_all (i := 3) (is := [5]) (by kernel_rfl) (all_cons ?_ (all_cons ?_ all_nil))
        · refine nx_rd (last := #[true, true, true, true, false, false, false, false]) rfl (rd_move' rfl) rfl rfl (wt_none' rfl) rfl ?_
          exact tx_pick' [0, 1, 2] (sub_cons rfl (sub_cons rfl (sub_cons rfl (sub_cons rfl (sub_cons rfl (sub_cons rfl sub_nil)))))) (by decide) (pick_cons rfl (pick_cons rfl (pick_cons rfl pick_nil))) (hN4 ())
        · refine nx_ox (last := #[true, true, true, false, false, true, false, false]) rfl (ox_store' (i := 0) (o := 0) rfl rfl (lv_vl rfl rfl) ⟨rfl, rfl, rfl, rfl⟩ rfl info23 rfl (H' := [⟨.pointer (some q4), [(Vl (.int .u32 y3.2.2.2))], 23, none⟩, ⟨.pointer (some q5), [(Vl (.int .i64 0))], 3, none⟩, ⟨.pointer (some q6), [(Vl (.bool false))], 4, none⟩]) rfl) rfl (bs_cons (m := 0) rfl rfl rfl bs_nil) (wt_none' rfl) rfl fun _ => ?_
          exact tx_pick' [0, 1, 2] (sub_cons rfl (sub_cons rfl (sub_cons rfl (sub_cons rfl (sub_cons rfl sub_nil))))) (by decide) (pick_cons rfl (pick_cons rfl (pick_cons rfl pick_nil))) (hN5 ())
      intro hN2
      refine ax_node (f' := 5) #[true, true, false, true, false, false, false, false] (fun (v2 : Unit) => (⟨25, [⟨.fn (.func 9) ⟨[.pointer (some q4), .pointer (some q5), .pointer (some q6)]⟩, #[]⟩], [(4, (Vl (.pointer (some q4)))), (5, (Vl (.pointer (some q5)))), (6, (Vl (.pointer (some q6)))), (20, (Vl (.int .u32 y3.2.2.2))), (21, (Vl (.pointer (some q11)))), (23, (Vl .nilIface))], [⟨.pointer (some q4), [(Vl (.int .u32 y3.2.2.2))], 23, none⟩, ⟨.pointer (some q5), [(Vl (.int .i64 0))], 3, none⟩, ⟨.pointer (some q6), [(Vl (.bool false))], 4, none⟩, ⟨.pointer (some q11), [(Sl (Ki .u8) y3.1), (Vl (.int .i64 y3.2.1)), (Vl (.int .i8 y3.2.2.1))], 50, none⟩]⟩ : St)) ?_ ?_
      · rintro ⟨⟩
        refine ax_all (i := 2) (is := [4]) (by kernel_rfl) (all_cons ?_ (all_cons ?_ all_nil))
        · refine nx_oxb (is := [3]) (last := #[true, true, true, true, false, false, false, false]) rfl (oxb_callg (ent_fn' Tryd.func13 isn13 rfl rfl) (bytes_Buffer_Len_sim _ _ _ hr22 : Go.Sx.Fn Tryd.prog 13 [(Vl (.pointer (some q11)))] [⟨.pointer (some q11), [(Sl (Ki .u8) y3.1), (Vl (.int .i64 y3.2.1)), (Vl (.int .i8 y3.2.2.1))], 50, none⟩] (fun x : Unit => (Vl (.int .i64 r22.2.2.2))) (fun x => [⟨.pointer (some q11), [(Sl (Ki .u8) r22.1), (Vl (.int .i64 r22.2.1)), (Vl (.int .i8 r22.2.2.1))], 50, none⟩])) [3] [0, 1, 2] (by decide) (pick_cons rfl pick_nil) (pick_cons rfl (pick_cons rfl (pick_cons rfl pick_nil))) (Hn := fun x : Unit => [⟨.pointer (some q11), [(Sl (Ki .u8) r22.1), (Vl (.int .i64 r22.2.1)), (Vl (.int .i8 r22.2.2.1))], 50, none⟩, ⟨.pointer (some q4), [(Vl (.int .u32 y3.2.2.2))], 23, none⟩, ⟨.pointer (some q5), [(Vl (.int .i64 0))], 3, none⟩, ⟨.pointer (some q6), [(Vl (.bool false))], 4, none⟩]) (fun _ => rfl) rfl rfl) (pick_cons rfl pick_nil) rfl (bl_cons (m := 0) (by decide) rfl rfl bl_nil) (wt_none' rfl) rfl fun ⟨⟩ => ?_
          exact tx_pick' [1, 2, 3] (sub_cons rfl (sub_cons rfl (sub_cons rfl (sub_cons rfl (sub_cons rfl (sub_cons rfl sub_nil)))))) (by decide) (pick_cons rfl (pick_cons rfl (pick_cons rfl pick_nil))) (hN4 ())
        · refine nx_rd (last := #[true, true, false, true, true, false, false, false]) rfl (rd_binf' rfl rfl (bf_vl (fun _ => by kernel_rfl) nil_eql35_nilif)) rfl rfl (wt_none' rfl) rfl ?_
          exact tx_pick' [0, 1, 2, 3] (sub_cons rfl (sub_cons rfl (sub_cons rfl (sub_cons rfl (sub_cons rfl (sub_cons rfl sub_nil)))))) (by decide) (pick_cons rfl (pick_cons rfl (pick_cons rfl (pick_cons rfl pick_nil)))) (hN6 ())
      intro hN3
      refine ax_all (i := 2) (is := [3]) (by kernel_rfl) (all_cons ?_ (all_cons ?_ all_nil))
      · refine nx_oxb (is := [0]) (last := #[true, true, true, false, false, false, false, false]) rfl (oxb_callg (ent_fn' Tryd.func13 isn13 rfl rfl) (bytes_Buffer_Len_sim _ _ _ hr22 : Go.Sx.Fn Tryd.prog 13 [(Vl (.pointer (some q11)))] [⟨.pointer (some q11), [(Sl (Ki .u8) y3.1), (Vl (.int .i64 y3.2.1)), (Vl (.int .i8 y3.2.2.1))], 50, none⟩] (fun x : Unit => (Vl (.int .i64 r22.2.2.2))) (fun x => [⟨.pointer (some q11), [(Sl (Ki .u8) r22.1), (Vl (.int .i64 r22.2.1)), (Vl (.int .i8 r22.2.2.1))], 50, none⟩])) [0] [1, 2, 3] (by decide) (pick_cons rfl pick_nil) (pick_cons rfl (pick_cons rfl (pick_cons rfl pick_nil))) (Hn := fun x : Unit => [⟨.pointer (some q11), [(Sl (Ki .u8) r22.1), (Vl (.int .i64 r22.2.1)), (Vl (.int .i8 r22.2.2.1))], 50, none⟩, ⟨.pointer (some q6), [(Vl (.bool false))], 4, none⟩, ⟨.pointer (some q5), [(Vl (.int .i64 0))], 3, none⟩, ⟨.pointer (some q4), [(Vl (.int .u32 y3.2.2.2))], 23, none⟩]) (fun _ => rfl) rfl rfl) (pick_cons rfl pick_nil) rfl (bl_cons (m := 3) (by decide) rfl rfl bl_nil) (wt_none' rfl) rfl fun ⟨⟩ => ?_
        exact tx_pick' [3, 2, 1] (sub_cons rfl (sub_cons rfl (sub_cons rfl (sub_cons rfl (sub_cons rfl (sub_cons rfl sub_nil)))))) (by decide) (pick_cons rfl (pick_cons rfl (pick_cons rfl pick_nil))) (hN2 ())
      · refine nx_rd (last := #[true, true, false, true, false, false, false, false]) rfl (rd_move' rfl) rfl rfl (wt_none' rfl) rfl ?_
        exact tx_pick' [3, 2, 1, 0] (sub_cons rfl (sub_cons rfl (sub_cons rfl (sub_cons rfl (sub_cons rfl (sub_cons rfl sub_nil)))))) (by decide) (pick_cons rfl (pick_cons rfl (pick_cons rfl (pick_cons rfl pick_nil)))) (hN3 ())
    · dsimp only at hp
      refine sx_ox' (ox_callg' (ent_fn' Tryd.func11 isn11 rfl rfl) (wkbcommon_ReadUInt32_sim _ _ _ hr17 : Go.Sx.Fn Tryd.prog 11 [(If 32 (Vl (.pointer (some q11)))), (If 60 (Ag []))] [⟨.pointer (some q11), [(Sl (Ki .u8) r11.1), (Vl (.int .i64 r11.2.1)), (Vl (.int .i8 r11.2.2))], 50, none⟩] (fun x : Unit => (Tu [(Vl (.int .u32 y3.2.2.2)), (If 67 (Vl (.pointer (some (Ga.a 4)))))])) (fun x => [⟨.pointer (some q11), [(Sl (Ki .u8) y3.1), (Vl (.int .i64 y3.2.1)), (Vl (.int .i8 y3.2.2.1))], 50, none⟩])) [0] [1, 2, 3] (by decide) (pick_cons rfl pick_nil) (pick_cons rfl (pick_cons rfl (pick_cons rfl pick_nil))) (Hn := fun x : Unit => [⟨.pointer (some q11), [(Sl (Ki .u8) y3.1), (Vl (.int .i64 y3.2.1)), (Vl (.int .i8 y3.2.2.1))], 50, none⟩, ⟨.pointer (some q6), [(Vl (.bool false))], 4, none⟩, ⟨.pointer (some q5), [(Vl (.int .i64 0))], 3, none⟩, ⟨.pointer (some q4), [(Vl (.int .u32 0))], 23, none⟩]) (fun _ => rfl) rfl rfl) (wt_none' rfl) fun ⟨⟩ => ?_
      refine sx_rd' (rd_move' rfl) rfl rfl (wt_none' rfl) ?_
      refine sx_rd' (rd_extract' rfl rfl) rfl rfl (wt_none' rfl) ?_
      refine sx_rd' (rd_extract' rfl rfl) rfl rfl (wt_none' rfl) ?_
      refine sx_ox' (ox_store' (i := 3) (o := 0) rfl rfl (lv_vl rfl rfl) ⟨rfl, rfl, rfl, rfl⟩ rfl info23 rfl (H' := [⟨.pointer (some q11), [(Sl (Ki .u8) y3.1), (Vl (.int .i64 y3.2.1)), (Vl (.int .i8 y3.2.2.1))], 50, none⟩, ⟨.pointer (some q6), [(Vl (.bool false))], 4, none⟩, ⟨.pointer (some q5), [(Vl (.int .i64 0))], 3, none⟩, ⟨.pointer (some q4), [(Vl (.int .u32 y3.2.2.2))], 23, none⟩]) rfl) (wt_none' rfl) fun _ => ?_
      refine sx_rd' (rd_assign' rfl) rfl rfl (wt_none' rfl) ?_
      refine sx_nil' ?_
      show TX E K4 _
      refine tx_k' hK4 ?_
      refine cx_seq' fun K5 hK5 => ?_
      refine cx_plana' [q4.block] [(2, 1), (5, 2), (6, 1), (7, 1)] [(0, 2), (1, 1)] 6 #[true, true, false, false, false, false, false, false] mixed (by kernel_rfl) ?_
      refine px_rb' rfl (rb_load' (i := 3) (o := 0) rfl ⟨rfl, rfl, rfl, rfl⟩ rfl flat23 (by simp)) rfl rfl (wt_none' rfl) ?_
      refine px_rd' rfl (rd_move' rfl) rfl rfl (wt_none' rfl) ?_
      refine px_nil' ?_
      show AX E _ _ _ _ _ _ _ _
      obtain ⟨r22, hr22, hp⟩ := bind_some hp
      refine ax_node (f' := 0) #[true, true, true, true, true, true, true, true] (fun (v11 : Unit) => (⟨25, [⟨.fn (.func 9) ⟨[.pointer (some q4), .pointer (some q5), .pointer (some q6)]⟩, #[]⟩], [(4, (Vl (.pointer (some q4)))), (5, (Vl (.pointer (some q5)))), (6, (Vl (.pointer (some q6))))], [⟨.pointer (some q4), [(Vl (.int .u32 y3.2.2.2))], 23, none⟩, ⟨.pointer (some q5), [(Vl (.int .i64 r22.2.2.2))], 3, none⟩, ⟨.pointer (some q6), [(Vl (.bool false))], 4, none⟩]⟩ : St)) ?_ ?_
      · rintro ⟨⟩
        refine ax_nil (by kernel_rfl) ?_
        show TX E K5 _
        refine tx_k' hK5 ?_
        refine cx_retc' ?_
        replace hp := Option.some.inj hp
        subst hp
        refine tx_leave' (.inl rfl) rfl idle9 rfl Tryd.func9 isn9 rfl ?_
        refine tx_pick' (L' := [(4, (Vl (.pointer (some q4)))), (5, (Vl (.pointer (some q5)))), (6, (Vl (.pointer (some q6))))]) (H' := [⟨.pointer (some q4), [(Vl (.int .u32 y3.2.2.2))], 23, none⟩, ⟨.pointer (some q5), [(Vl (.int .i64 r22.2.2.2))], 3, none⟩, ⟨.pointer (some q6), [(Vl (.bool false))], 4, none⟩]) [0, 1, 2] (sub_cons rfl (sub_cons rfl (sub_cons rfl sub_nil))) (by decide) (pick_cons rfl (pick_cons rfl (pick_cons rfl pick_nil))) ?_
        exact tx_ret3' Tryd.results5 rfl () (rv_cell' (i := 0) (o := 0) rfl ⟨rfl, rfl, rfl, rfl⟩ rfl flat23) (rv_cell' (i := 1) (o := 0) rfl ⟨rfl, rfl, rfl, rfl⟩ rfl flat3) (rv_cell' (i := 2) (o := 0) rfl ⟨rfl, rfl, rfl, rfl⟩ rfl flat4) rfl (List.nil_sublist _)
      intro hN12
      refine ax_node (f' := 1) #[true, true, true, true, true, true, true, false] (fun (v10 : Unit) => (⟨25, [⟨.fn (.func 9) ⟨[.pointer (some q4), .pointer (some q5), .pointer (some q6)]⟩, #[]⟩], [(4, (Vl (.pointer (some q4)))), (5, (Vl (.pointer (some q5)))), (6, (Vl (.pointer (some q6)))), (24, (Vl (.bool false)))], [⟨.pointer (some q4), [(Vl (.int .u32 y3.2.2.2))], 23, none⟩, ⟨.pointer (some q5), [(Vl (.int .i64 r22.2.2.2))], 3, none⟩, ⟨.pointer (some q6), [(Vl (.bool false))], 4, none⟩]⟩ : St)) ?_ ?_
      · rintro ⟨⟩
        refine ax_all (i := 7) (is := []) (by kernel_rfl) (all_cons ?_ all_nil)
        · refine nx_oxv (last := #[true, true, true, true, true, true, true, true]) rfl (oxv_store (i := 2) (o := 0) rfl rfl (lv_vl rfl rfl) ⟨rfl, rfl, rfl, rfl⟩ rfl info4 rfl (H' := [⟨.pointer (some q4), [(Vl (.int .u32 y3.2.2.2))], 23, none⟩, ⟨.pointer (some q5), [(Vl (.int .i64 r22.2.2.2))], 3, none⟩, ⟨.pointer (some q6), [(Vl (.bool false))], 4, none⟩]) rfl) rfl rfl (bo_cons (m := 0) (by decide) rfl rfl bo_nil) (wt_none' rfl) rfl fun _ => ?_
          exact tx_pick' [0, 1, 2] (sub_cons rfl (sub_cons rfl (sub_cons rfl sub_nil))) (by decide) (pick_cons rfl (pick_cons rfl (pick_cons rfl pick_nil))) (hN12 ())
      intro hN11
      refine ax_node (f' := 2) #[true, true, true, true, true, true, false, false] (fun (v8 : Unit) => (⟨25, [⟨.fn (.func 9) ⟨[.pointer (some q4), .pointer (some q5), .pointer (some q6)]⟩, #[]⟩], [(4, (Vl (.pointer (some q4)))), (5, (Vl (.pointer (some q5)))), (6, (Vl (.pointer (some q6)))), (22, (Vl (.int .i64 r22.2.2.2))), (24, (Vl (.bool false)))], [⟨.pointer (some q4), [(Vl (.int .u32 y3.2.2.2))], 23, none⟩, ⟨.pointer (some q5), [(Vl (.int .i64 0))], 3, none⟩, ⟨.pointer (some q6), [(Vl (.bool false))], 4, none⟩]⟩ : St)) ?_ ?_
      · rintro ⟨⟩
        refine ax_all (i := 6) (is := []) (by kernel_rfl) (all_cons ?_ all_nil)
        · refine nx_oxv (last := #[true, true, true, true, true, true, true, false]) rfl (oxv_store (i := 1) (o := 0) rfl rfl (lv_vl rfl rfl) ⟨rfl, rfl, rfl, rfl⟩ rfl info3 rfl (H' := [⟨.pointer (some q4), [(Vl (.int .u32 y3.2.2.2))], 23, none⟩, ⟨.pointer (some q5), [(Vl (.int .i64 r22.2.2.2))], 3, none⟩, ⟨.pointer (some q6), [(Vl (.bool false))], 4, none⟩]) rfl) rfl rfl (bo_cons (m := 0) (by decide) rfl rfl bo_nil) (wt_none' rfl) rfl fun _ => ?_
          exact tx_pick' [0, 1, 2] (sub_cons rfl (sub_cons rfl (sub_cons rfl (sub_cons rfl sub_nil)))) (by decide) (pick_cons rfl (pick_cons rfl (pick_cons rfl pick_nil))) (hN11 ())
      intro hN9
      refine ax_node (f' := 2) #[true, true, true, true, false, true, true, false] (fun (v9 : Unit) => (⟨25, [⟨.fn (.func 9) ⟨[.pointer (some q4), .pointer (some q5), .pointer (some q6)]⟩, #[]⟩], [(4, (Vl (.pointer (some q4)))), (5, (Vl (.pointer (some q5)))), (6, (Vl (.pointer (some q6)))), (23, (If 67 (Vl (.pointer (some (Ga.a 4))))))], [⟨.pointer (some q4), [(Vl (.int .u32 y3.2.2.2))], 23, none⟩, ⟨.pointer (some q5), [(Vl (.int .i64 r22.2.2.2))], 3, none⟩, ⟨.pointer (some q6), [(Vl (.bool false))], 4, none⟩]⟩ : St)) ?_ ?_
      · rintro ⟨⟩
        refine ax_rd (ix := 4) (last := #[true, true, true, true, true, true, true, false]) (by kernel_rfl) rfl (rd_binf' rfl rfl (bf_if (fun _ _ => by kernel_rfl) nil_eql35_if67)) rfl rfl (wt_none' rfl) rfl ?_
        exact tx_pick' [0, 1, 2] (sub_cons rfl (sub_cons rfl (sub_cons rfl (sub_cons rfl sub_nil)))) (by decide) (pick_cons rfl (pick_cons rfl (pick_cons rfl pick_nil))) (hN11 ())
      intro hN10
      refine ax_node (f' := 3) #[true, true, true, true, true, false, false, false] (fun (v6 : Unit) => (⟨25, [⟨.fn (.func 9) ⟨[.pointer (some q4), .pointer (some q5), .pointer (some q6)]⟩, #[]⟩], [(4, (Vl (.pointer (some q4)))), (5, (Vl (.pointer (some q5)))), (6, (Vl (.pointer (some q6)))), (20, (Vl (.int .u32 y3.2.2.2))), (22, (Vl (.int .i64 r22.2.2.2))), (24, (Vl (.bool false)))], [⟨.pointer (some q4), [(Vl (.int .u32 y3.2.2.2))], 23, none⟩, ⟨.pointer (some q5), [(Vl (.int .i64 0))], 3, none⟩, ⟨.pointer (some q6), [(Vl (.bool false))], 4, none⟩]⟩ : St)) ?_ ?_
      · rintro ⟨⟩
        refine ax_all (i := 5) (is := []) (by kernel_rfl) (all_cons ?_ all_nil)
        · refine nx_ox (last := #[true, true, true, true, true, true, false, false]) rfl (ox_store' (i := 0) (o := 0) rfl rfl (lv_vl rfl rfl) ⟨rfl, rfl, rfl, rfl⟩ rfl info23 rfl (H' := [⟨.pointer (some q4), [(Vl (.int .u32 y3.2.2.2))], 23, none⟩, ⟨.pointer (some q5), [(Vl (.int .i64 0))], 3, none⟩, ⟨.pointer (some q6), [(Vl (.bool false))], 4, none⟩]) rfl) rfl (bs_cons (m := 0) rfl rfl rfl bs_nil) (wt_none' rfl) rfl fun _ => ?_
          exact tx_pick' [0, 1, 2] (sub_cons rfl (sub_cons rfl (sub_cons rfl (sub_cons rfl (sub_cons rfl sub_nil))))) (by decide) (pick_cons rfl (pick_cons rfl (pick_cons rfl pick_nil))) (hN9 ())
      intro hN7
      refine ax_node (f' := 3) #[true, true, true, true, false, true, false, false] (fun (v7 : Unit) => (⟨25, [⟨.fn (.func 9) ⟨[.pointer (some q4), .pointer (some q5), .pointer (some q6)]⟩, #[]⟩], [(4, (Vl (.pointer (some q4)))), (5, (Vl (.pointer (some q5)))), (6, (Vl (.pointer (some q6)))), (22, (Vl (.int .i64 r22.2.2.2))), (23, (If 67 (Vl (.pointer (some (Ga.a 4))))))], [⟨.pointer (some q4), [(Vl (.int .u32 y3.2.2.2))], 23, none⟩, ⟨.pointer (some q5), [(Vl (.int .i64 0))], 3, none⟩, ⟨.pointer (some q6), [(Vl (.bool false))], 4, none⟩]⟩ : St)) ?_ ?_
      · rintro ⟨⟩
        refine ax_all (i := 4) (is := [6]) (by kernel_rfl) (all_cons ?_ (all_cons ?_ all_nil))
        · refine nx_rd (last := #[true, true, true, true, true, true, false, false]) rfl (rd_binf' rfl rfl (bf_if (fun _ _ => by kernel_rfl) nil_eql35_if67)) rfl rfl (wt_none' rfl) rfl ?_
          exact tx_pick' [0, 1, 2] (sub_cons rfl (sub_cons rfl (sub_cons rfl (sub_cons rfl (sub_cons rfl sub_nil))))) (by decide) (pick_cons rfl (pick_cons rfl (pick_cons rfl pick_nil))) (hN9 ())
        · refine nx_oxv (last := #[true, true, true, true, false, true, true, false]) rfl (oxv_store (i := 1) (o := 0) rfl rfl (lv_vl rfl rfl) ⟨rfl, rfl, rfl, rfl⟩ rfl info3 rfl (H' := [⟨.pointer (some q4), [(Vl (.int .u32 y3.2.2.2))], 23, none⟩, ⟨.pointer (some q5), [(Vl (.int .i64 r22.2.2.2))], 3, none⟩, ⟨.pointer (some q6), [(Vl (.bool false))], 4, none⟩]) rfl) rfl rfl (bo_cons (m := 0) (by decide) rfl rfl bo_nil) (wt_none' rfl) rfl fun _ => ?_
          exact tx_pick' [0, 1, 2] (sub_cons rfl (sub_cons rfl (sub_cons rfl (sub_cons rfl sub_nil)))) (by decide) (pick_cons rfl (pick_cons rfl (pick_cons rfl pick_nil))) (hN10 ())
      intro hN8
      refine ax_node (f' := 4) #[true, true, true, true, false, false, false, false] (fun (v3 : Unit) => (⟨25, [⟨.fn (.func 9) ⟨[.pointer (some q4), .pointer (some q5), .pointer (some q6)]⟩, #[]⟩], [(4, (Vl (.pointer (some q4)))), (5, (Vl (.pointer (some q5)))), (6, (Vl (.pointer (some q6)))), (20, (Vl (.int .u32 y3.2.2.2))), (22, (Vl (.int .i64 r22.2.2.2))), (23, (If 67 (Vl (.pointer (some (Ga.a 4))))))], [⟨.pointer (some q4), [(Vl (.int .u32 y3.2.2.2))], 23, none⟩, ⟨.pointer (some q5), [(Vl (.int .i64 0))], 3, none⟩, ⟨.pointer (some q6), [(Vl (.bool false))], 4, none⟩]⟩ : St)) ?_ ?_
      · rintro ⟨⟩
        refine ax_all (i := 4) (is := [5]) (by kernel_rfl) (all_cons ?_ (all_cons ?_ all_nil))
        · refine nx_rd (last := #[true, true, true, true, true, false, false, false]) rfl (rd_binf' rfl rfl (bf_if (fun _ _ => by kernel_rfl) nil_eql35_if67)) rfl rfl (wt_none' rfl) rfl ?_
          exact tx_pick' [0, 1, 2] (sub_cons rfl (sub_cons rfl (sub_cons rfl (sub_cons rfl (sub_cons rfl (sub_cons rfl sub_nil)))))) (by decide) (pick_cons rfl (pick_cons rfl (pick_cons rfl pick_nil))) (hN7 ())
        · refine nx_ox (last := #[true, true, true, true, false, true, false, false]) rfl (ox_store' (i := 0) (o := 0) rfl rfl (lv_vl rfl rfl) ⟨rfl, rfl, rfl, rfl⟩ rfl info23 rfl (H' := [⟨.pointer (some q4), [(Vl (.int .u32 y3.2.2.2))], 23, none⟩, ⟨.pointer (some q5), [(Vl (.int .i64 0))], 3, none⟩, ⟨.pointer (some q6), [(Vl (.bool false))], 4, none⟩]) rfl) rfl (bs_cons (m := 0) rfl rfl rfl bs_nil) (wt_none' rfl) rfl fun _ => ?_
          exact tx_pick' [0, 1, 2] (sub_cons rfl (sub_cons rfl (sub_cons rfl (sub_cons rfl (sub_cons rfl sub_nil))))) (by decide) (pick_cons rfl (pick_cons rfl (pick_cons rfl pick_nil))) (hN8 ())
      intro hN4
      refine ax_node (f' := 4) #[true, true, true, false, false, true, false, false] (fun (v4 : Unit) => (⟨25, [⟨.fn (.func 9) ⟨[.pointer (some q4), .pointer (some q5), .pointer (some q6)]⟩, #[]⟩], [(4, (Vl (.pointer (some q4)))), (5, (Vl (.pointer (some q5)))), (6, (Vl (.pointer (some q6)))), (8, (If 67 (Vl (.pointer (some (Ga.a 4)))))), (22, (Vl (.int .i64 r22.2.2.2)))], [⟨.pointer (some q4), [(Vl (.int .u32 y3.2.2.2))], 23, none⟩, ⟨.pointer (some q5), [(Vl (.int .i64 0))], 3, none⟩, ⟨.pointer (some q6), [(Vl (.bool false))], 4, none⟩]⟩ : St)) ?_ ?_
      · rintro ⟨⟩
        refine ax_rb (ix := 3) (last := #[true, true, true, true, false, true, false, false]) (by kernel_rfl) rfl (rb_move' rfl) rfl rfl (wt_none' rfl) rfl ?_
        exact tx_pick' [0, 1, 2] (sub_cons rfl (sub_cons rfl (sub_cons rfl (sub_cons rfl (sub_cons rfl sub_nil))))) (by decide) (pick_cons rfl (pick_cons rfl (pick_cons rfl pick_nil))) (hN8 ())
      intro hN5
      refine ax_node (f' := 4) #[true, true, false, true, true, false, false, false] (fun (v5 : Unit) => (⟨25, [⟨.fn (.func 9) ⟨[.pointer (some q4), .pointer (some q5), .pointer (some q6)]⟩, #[]⟩], [(4, (Vl (.pointer (some q4)))), (5, (Vl (.pointer (some q5)))), (6, (Vl (.pointer (some q6)))), (20, (Vl (.int .u32 y3.2.2.2))), (21, (Vl (.pointer (some q11)))), (24, (Vl (.bool false)))], [⟨.pointer (some q4), [(Vl (.int .u32 y3.2.2.2))], 23, none⟩, ⟨.pointer (some q5), [(Vl (.int .i64 0))], 3, none⟩, ⟨.pointer (some q6), [(Vl (.bool false))], 4, none⟩, ⟨.pointer (some q11), [(Sl (Ki .u8) y3.1), (Vl (.int .i64 y3.2.1)), (Vl (.int .i8 y3.2.2.1))], 50, none⟩]⟩ : St)) ?_ ?_
      · rintro ⟨⟩
        refine ax_all (i := 2) (is := []) (by kernel_rfl) (all_cons ?_ all_nil)
        · refine nx_oxb (is := [3]) (last := #[true, true, true, true, true, false, false, false]) rfl (oxb_callg (ent_fn' Tryd.func13 isn13 rfl rfl) (bytes_Buffer_Len_sim _ _ _ hr22 : Go.Sx.Fn Tryd.prog 13 [(Vl (.pointer (some q11)))] [⟨.pointer (some q11), [(Sl (Ki .u8) y3.1), (Vl (.int .i64 y3.2.1)), (Vl (.int .i8 y3.2.2.1))], 50, none⟩] (fun x : Unit => (Vl (.int .i64 r22.2.2.2))) (fun x => [⟨.pointer (some q11), [(Sl (Ki .u8) r22.1), (Vl (.int .i64 r22.2.1)), (Vl (.int .i8 r22.2.2.1))], 50, none⟩])) [3] [0, 1, 2] (by decide) (pick_cons rfl pick_nil) (pick_cons rfl (pick_cons rfl (pick_cons rfl pick_nil))) (Hn := fun x : Unit => [⟨.pointer (some q11), [(Sl (Ki .u8) r22.1), (Vl (.int .i64 r22.2.1)), (Vl (.int .i8 r22.2.2.1))], 50, none⟩, ⟨.pointer (some q4), [(Vl (.int .u32 y3.2.2.2))], 23, none⟩, ⟨.pointer (some q5), [(Vl (.int .i64 0))], 3, none⟩, ⟨.pointer (some q6), [(Vl (.bool false))], 4, none⟩]) (fun _ => rfl) rfl rfl) (pick_cons rfl pick_nil) rfl (bl_cons (m := 0) (by decide) rfl rfl bl_nil) (wt_none' rfl) rfl fun ⟨⟩ => ?_
          exact tx_pick' [1, 2, 3] (sub_cons rfl (sub_cons rfl (sub_cons rfl (sub_cons rfl (sub_cons rfl (sub_cons rfl sub_nil)))))) (by decide) (pick_cons rfl (pick_cons rfl (pick_cons rfl pick_nil))) (hN7 ())
      intro hN6
      refine ax_node (f' := 5) #[true, true, true, false, false, false, false, false] (fun (v1 : Unit) => (⟨25, [⟨.fn (.func 9) ⟨[.pointer (some q4), .pointer (some q5), .pointer (some q6)]⟩, #[]⟩], [(4, (Vl (.pointer (some q4)))), (5, (Vl (.pointer (some q5)))), (6, (Vl (.pointer (some q6)))), (8, (If 67 (Vl (.pointer (some (Ga.a 4)))))), (20, (Vl (.int .u32 y3.2.2.2))), (22, (Vl (.int .i64 r22.2.2.2)))], [⟨.pointer (some q4), [(Vl (.int .u32 y3.2.2.2))], 23, none⟩, ⟨.pointer (some q5), [(Vl (.int .i64 0))], 3, none⟩, ⟨.pointer (some q6), [(Vl (.bool false))], 4, none⟩]⟩ : St)) ?_ ?_
      · rintro ⟨⟩
        refine ax_all (i := 3) (is := [5]) (by kernel_rfl) (all_cons ?_ (all_cons ?_ all_nil))
        · refine nx_rd (last := #[true, true, true, true, false, false, false, false]) rfl (rd_move' rfl) rfl rfl (wt_none' rfl) rfl ?_
          exact tx_pick' [0, 1, 2] (sub_cons rfl (sub_cons rfl (sub_cons rfl (sub_cons rfl (sub_cons rfl (sub_cons rfl sub_nil)))))) (by decide) (pick_cons rfl (pick_cons rfl (pick_cons rfl pick_nil))) (hN4 ())
        · refine nx_ox (last := #[true, true, true, false, false, true, false, false]) rfl (ox_store' (i := 0) (o := 0) rfl rfl (lv_vl rfl rfl) ⟨rfl, rfl, rfl, rfl⟩ rfl info23 rfl (H' := [⟨.pointer (some q4), [(Vl (.int .u32 y3.2.2.2))], 23, none⟩, ⟨.pointer (some q5), [(Vl (.int .i64 0))], 3, none⟩, ⟨.pointer (some q6), [(Vl (.bool false))], 4, none⟩]) rfl) rfl (bs_cons (m := 0) rfl rfl rfl bs_nil) (wt_none' rfl) rfl fun _ => ?_
          exact tx_pick' [0, 1, 2] (sub_cons rfl (sub_cons rfl (sub_cons rfl (sub_cons rfl (sub_cons rfl sub_nil))))) (by decide) (pick_cons rfl (pick_cons rfl (pick_cons rfl pick_nil))) (hN5 ())
      intro hN2
      refine ax_node (f' := 5) #[true, true, false, true, false, false, false, false] (fun (v2 : Unit) => (⟨25, [⟨.fn (.func 9) ⟨[.pointer (some q4), .pointer (some q5), .pointer (some q6)]⟩, #[]⟩], [(4, (Vl (.pointer (some q4)))), (5, (Vl (.pointer (some q5)))), (6, (Vl (.pointer (some q6)))), (20, (Vl (.int .u32 y3.2.2.2))), (21, (Vl (.pointer (some q11)))), (23, (If 67 (Vl (.pointer (some (Ga.a 4))))))], [⟨.pointer (some q4), [(Vl (.int .u32 y3.2.2.2))], 23, none⟩, ⟨.pointer (some q5), [(Vl (.int .i64 0))], 3, none⟩, ⟨.pointer (some q6), [(Vl (.bool false))], 4, none⟩, ⟨.pointer (some q11), [(Sl (Ki .u8) y3.1), (Vl (.int .i64 y3.2.1)), (Vl (.int .i8 y3.2.2.1))], 50, none⟩]⟩ : St)) ?_ ?_
      · rintro ⟨⟩
        refine ax_all (i := 2) (is := [4]) (by kernel_rfl) (all_cons ?_ (all_cons ?_ all_nil))
        · refine nx_oxb (is := [3]) (last := #[true, true, true, true, false, false, false, false]) rfl (oxb_callg (ent_fn' Tryd.func13 isn13 rfl rfl) (bytes_Buffer_Len_sim _ _ _ hr22 : Go.Sx.Fn Tryd.prog 13 [(Vl (.pointer (some q11)))] [⟨.pointer (some q11), [(Sl (Ki .u8) y3.1), (Vl (.int .i64 y3.2.1)), (Vl (.int .i8 y3.2.2.1))], 50, none⟩] (fun x : Unit => (Vl (.int .i64 r22.2.2.2))) (fun x => [⟨.pointer (some q11), [(Sl (Ki .u8) r22.1), (Vl (.int .i64 r22.2.1)), (Vl (.int .i8 r22.2.2.1))], 50, none⟩])) [3] [0, 1, 2] (by decide) (pick_cons rfl pick_nil) (pick_cons rfl (pick_cons rfl (pick_cons rfl pick_nil))) (Hn := fun x : Unit => [⟨.pointer (some q11), [(Sl (Ki .u8) r22.1), (Vl (.int .i64 r22.2.1)), (Vl (.int .i8 r22.2.2.1))], 50, none⟩, ⟨.pointer (some q4), [(Vl (.int .u32 y3.2.2.2))], 23, none⟩, ⟨.pointer (some q5), [(Vl (.int .i64 0))], 3, none⟩, ⟨.pointer (some q6), [(Vl (.bool false))], 4, none⟩]) (fun _ => rfl) rfl rfl) (pick_cons rfl pick_nil) rfl (bl_cons (m := 0) (by decide) rfl rfl bl_nil) (wt_none' rfl) rfl fun ⟨⟩ => ?_
          exact tx_pick' [1, 2, 3] (sub_cons rfl (sub_cons rfl (sub_cons rfl (sub_cons rfl (sub_cons rfl (sub_cons rfl sub_nil)))))) (by decide) (pick_cons rfl (pick_cons rfl (pick_cons rfl pick_nil))) (hN4 ())
        · refine nx_rd (last := #[true, true, false, true, true, false, false, false]) rfl (rd_binf' rfl rfl (bf_if (fun _ _ => by kernel_rfl) nil_eql35_if67)) rfl rfl (wt_none' rfl) rfl ?_
          exact tx_pick' [0, 1, 2, 3] (sub_cons rfl (sub_cons rfl (sub_cons rfl (sub_cons rfl (sub_cons rfl (sub_cons rfl sub_nil)))))) (by decide) (pick_cons rfl (pick_cons rfl (pick_cons rfl (pick_cons rfl pick_nil)))) (hN6 ())
      intro hN3
      refine ax_all (i := 2) (is := [3]) (by kernel_rfl) (all_cons ?_ (all_cons ?_ all_nil))
      · refine nx_oxb (is := [0]) (last := #[true, true, true, false, false, false, false, false]) rfl (oxb_callg (ent_fn' Tryd.func13 isn13 rfl rfl) (bytes_Buffer_Len_sim _ _ _ hr22 : Go.Sx.Fn Tryd.prog 13 [(Vl (.pointer (some q11)))] [⟨.pointer (some q11), [(Sl (Ki .u8) y3.1), (Vl (.int .i64 y3.2.1)), (Vl (.int .i8 y3.2.2.1))], 50, none⟩] (fun x : Unit => (Vl (.int .i64 r22.2.2.2))) (fun x => [⟨.pointer (some q11), [(Sl (Ki .u8) r22.1), (Vl (.int .i64 r22.2.1)), (Vl (.int .i8 r22.2.2.1))], 50, none⟩])) [0] [1, 2, 3] (by decide) (pick_cons rfl pick_nil) (pick_cons rfl (pick_cons rfl (pick_cons rfl pick_nil))) (Hn := fun x : Unit => [⟨.pointer (some q11), [(Sl (Ki .u8) r22.1), (Vl (.int .i64 r22.2.1)), (Vl (.int .i8 r22.2.2.1))], 50, none⟩, ⟨.pointer (some q6), [(Vl (.bool false))], 4, none⟩, ⟨.pointer (some q5), [(Vl (.int .i64 0))], 3, none⟩, ⟨.pointer (some q4), [(Vl (.int .u32 y3.2.2.2))], 23, none⟩]) (fun _ => rfl) rfl rfl) (pick_cons rfl pick_nil) rfl (bl_cons (m := 3) (by decide) rfl rfl bl_nil) (wt_none' rfl) rfl fun ⟨⟩ => ?_
        exact tx_pick' [3, 2, 1] (sub_cons rfl (sub_cons rfl (sub_cons rfl (sub_cons rfl (sub_cons rfl (sub_cons rfl sub_nil)))))) (by decide) (pick_cons rfl (pick_cons rfl (pick_cons rfl pick_nil))) (hN2 ())
      · refine nx_rd (last := #[true, true, false, true, false, false, false, false]) rfl (rd_move' rfl) rfl rfl (wt_none' rfl) rfl ?_
        exact tx_pick' [3, 2, 1, 0] (sub_cons rfl (sub_cons rfl (sub_cons rfl (sub_cons rfl (sub_cons rfl (sub_cons rfl sub_nil)))))) (by decide) (pick_cons rfl (pick_cons rfl (pick_cons rfl (pick_cons rfl pick_nil)))) (hN3 ())
    · dsimp only at hp
      refine sx_ox' (ox_callg' (ent_fn' Tryd.func11 isn11 rfl rfl) (wkbcommon_ReadUInt32_sim _ _ _ hr17 : Go.Sx.Fn Tryd.prog 11 [(If 32 (Vl (.pointer (some q11)))), (If 60 (Ag []))] [⟨.pointer (some q11), [(Sl (Ki .u8) r11.1), (Vl (.int .i64 r11.2.1)), (Vl (.int .i8 r11.2.2))], 50, none⟩] (fun x : Unit => (Tu [(Vl (.int .u32 y3.2.2.2)), (If 67 (Vl (.pointer (some (Ga.a 3)))))])) (fun x => [⟨.pointer (some q11), [(Sl (Ki .u8) y3.1), (Vl (.int .i64 y3.2.1)), (Vl (.int .i8 y3.2.2.1))], 50, none⟩])) [0] [1, 2, 3] (by decide) (pick_cons rfl pick_nil) (pick_cons rfl (pick_cons rfl (pick_cons rfl pick_nil))) (Hn := fun x : Unit => [⟨.pointer (some q11), [(Sl (Ki .u8) y3.1), (Vl (.int .i64 y3.2.1)), (Vl (.int .i8 y3.2.2.1))], 50, none⟩, ⟨.pointer (some q6), [(Vl (.bool false))], 4, none⟩, ⟨.pointer (some q5), [(Vl (.int .i64 0))], 3, none⟩, ⟨.pointer (some q4), [(Vl (.int .u32 0))], 23, none⟩]) (fun _ => rfl) rfl rfl) (wt_none' rfl) fun ⟨⟩ => ?_
      refine sx_rd' (rd_move' rfl) rfl rfl (wt_none' rfl) ?_
      refine sx_rd' (rd_extract' rfl rfl) rfl rfl (wt_none' rfl) ?_
      refine sx_rd' (rd_extract' rfl rfl) rfl rfl (wt_none' rfl) ?_
      refine sx_ox' (ox_store' (i := 3) (o := 0) rfl rfl (lv_vl rfl rfl) ⟨rfl, rfl, rfl, rfl⟩ rfl info23 rfl (H' := [⟨.pointer (some q11), [(Sl (Ki .u8) y3.1), (Vl (.int .i64 y3.2.1)), (Vl (.int .i8 y3.2.2.1))], 50, none⟩, ⟨.pointer (some q6), [(Vl (.bool false))], 4, none⟩, ⟨.pointer (some q5), [(Vl (.int .i64 0))], 3, none⟩, ⟨.pointer (some q4), [(Vl (.int .u32 y3.2.2.2))], 23, none⟩]) rfl) (wt_none' rfl) fun _ => ?_
      refine sx_rd' (rd_assign' rfl) rfl rfl (wt_none' rfl) ?_
      refine sx_nil' ?_
      show TX E K4 _
      refine tx_k' hK4 ?_
      refine cx_seq' fun K5 hK5 => ?_
      refine cx_plana' [q4.block] [(2, 1), (5, 2), (6, 1), (7, 1)] [(0, 2), (1, 1)] 6 #[true, true, false, false, false, false, false, false] mixed (by kernel_rfl) ?_
      refine px_rb' rfl (rb_load' (i := 3) (o := 0) rfl ⟨rfl, rfl, rfl, rfl⟩ rfl flat23 (by simp)) rfl rfl (wt_none' rfl) ?_
      refine px_rd' rfl (rd_move' rfl) rfl rfl (wt_none' rfl) ?_
      refine px_nil' ?_
      show AX E _ _ _ _ _ _ _ _
      obtain ⟨r22, hr22, hp⟩ := bind_some hp
      refine ax_node (f' := 0) #[true, true, true, true, true, true, true, true] (fun (v11 : Unit) => (⟨25, [⟨.fn (.func 9) ⟨[.pointer (some q4), .pointer (some q5), .pointer (some q6)]⟩, #[]⟩], [(4, (Vl (.pointer (some q4)))), (5, (Vl (.pointer (some q5)))), (6, (Vl (.pointer (some q6))))], [⟨.pointer (some q4), [(Vl (.int .u32 y3.2.2.2))], 23, none⟩, ⟨.pointer (some q5), [(Vl (.int .i64 r22.2.2.2))], 3, none⟩, ⟨.pointer (some q6), [(Vl (.bool false))], 4, none⟩]⟩ : St)) ?_ ?_
      · rintro ⟨⟩
        refine ax_nil (by kernel_rfl) ?_
        show TX E K5 _
        refine tx_k' hK5 ?_
        refine cx_retc' ?_
        replace hp := Option.some.inj hp
        subst hp
        refine tx_leave' (.inl rfl) rfl idle9 rfl Tryd.func9 isn9 rfl ?_
        refine tx_pick' (L' := [(4, (Vl (.pointer (some q4)))), (5, (Vl (.pointer (some q5)))), (6, (Vl (.pointer (some q6))))]) (H' := [⟨.pointer (some q4), [(Vl (.int .u32 y3.2.2.2))], 23, none⟩, ⟨.pointer (some q5), [(Vl (.int .i64 r22.2.2.2))], 3, none⟩, ⟨.pointer (some q6), [(Vl (.bool false))], 4, none⟩]) [0, 1, 2] (sub_cons rfl (sub_cons rfl (sub_cons rfl sub_nil))) (by decide) (pick_cons rfl (pick_cons rfl (pick_cons rfl pick_nil))) ?_
        exact tx_ret3' Tryd.results5 rfl () (rv_cell' (i := 0) (o := 0) rfl ⟨rfl, rfl, rfl, rfl⟩ rfl flat23) (rv_cell' (i := 1) (o := 0) rfl ⟨rfl, rfl, rfl, rfl⟩ rfl flat3) (rv_cell' (i := 2) (o := 0) rfl ⟨rfl, rfl, rfl, rfl⟩ rfl flat4) rfl (List.nil_sublist _)
      intro hN12
      refine ax_node (f' := 1) #[true, true, true, true, true, true, true, false] (fun (v10 : Unit) => (⟨25, [⟨.fn (.func 9) ⟨[.pointer (some q4), .pointer (some q5), .pointer (some q6)]⟩, #[]⟩], [(4, (Vl (.pointer (some q4)))), (5, (Vl (.pointer (some q5)))), (6, (Vl (.pointer (some q6)))), (24, (Vl (.bool false)))], [⟨.pointer (some q4), [(Vl (.int .u32 y3.2.2.2))], 23, none⟩, ⟨.pointer (some q5), [(Vl (.int .i64 r22.2.2.2))], 3, none⟩, ⟨.pointer (some q6), [(Vl (.bool false))], 4, none⟩]⟩ : St)) ?_ ?_
      · rintro ⟨⟩
        refine ax_all (i := 7) (is := []) (by kernel_rfl) (all_cons ?_ all_nil)
        · refine nx_oxv (last := #[true, true, true, true, true, true, true, true]) rfl (oxv_store (i := 2) (o := 0) rfl rfl (lv_vl rfl rfl) ⟨rfl, rfl, rfl, rfl⟩ rfl info4 rfl (H' := [⟨.pointer (some q4), [(Vl (.int .u32 y3.2.2.2))], 23, none⟩, ⟨.pointer (some q5), [(Vl (.int .i64 r22.2.2.2))], 3, none⟩, ⟨.pointer (some q6), [(Vl (.bool false))], 4, none⟩]) rfl) rfl rfl (bo_cons (m := 0) (by decide) rfl rfl bo_nil) (wt_none' rfl) rfl fun _ => ?_
          exact tx_pick' [0, 1, 2] (sub_cons rfl (sub_cons rfl (sub_cons rfl sub_nil))) (by decide) (pick_cons rfl (pick_cons rfl (pick_cons rfl pick_nil))) (hN12 ())
      intro hN11
      refine ax_node (f' := 2) #[true, true, true, true, true, true, false, false] (fun (v8 : Unit) => (⟨25, [⟨.fn (.func 9) ⟨[.pointer (some q4), .pointer (some q5), .pointer (some q6)]⟩, #[]⟩], [(4, (Vl (.pointer (some q4)))), (5, (Vl (.pointer (some q5)))), (6, (Vl (.pointer (some q6)))), (22, (Vl (.int .i64 r22.2.2.2))), (24, (Vl (.bool false)))], [⟨.pointer (some q4), [(Vl (.int .u32 y3.2.2.2))], 23, none⟩, ⟨.pointer (some q5), [(Vl (.int .i64 0))], 3, none⟩, ⟨.pointer (some q6), [(Vl (.bool false))], 4, none⟩]⟩ : St)) ?_ ?_
      · rintro ⟨⟩
        refine ax_all (i := 6) (is := []) (by kernel_rfl) (all_cons ?_ all_nil)
        · refine nx_oxv (last := #[true, true, true, true, true, true, true, false]) rfl (oxv_store (i := 1) (o := 0) rfl rfl (lv_vl rfl rfl) ⟨rfl, rfl, rfl, rfl⟩ rfl info3 rfl (H' := [⟨.pointer (some q4), [(Vl (.int .u32 y3.2.2.2))], 23, none⟩, ⟨.pointer (some q5), [(Vl (.int .i64 r22.2.2.2))], 3, none⟩, ⟨.pointer (some q6), [(Vl (.bool false))], 4, none⟩]) rfl) rfl rfl (bo_cons (m := 0) (by decide) rfl rfl bo_nil) (wt_none' rfl) rfl fun _ => ?_
          exact tx_pick' [0, 1, 2] (sub_cons rfl (sub_cons rfl (sub_cons rfl (sub_cons rfl sub_nil)))) (by decide) (pick_cons rfl (pick_cons rfl (pick_cons rfl pick_nil))) (hN11 ())
      intro hN9
      refine ax_node (f' := 2) #[true, true, true, true, false, true, true, false] (fun (v9 : Unit) => (⟨25, [⟨.fn (.func 9) ⟨[.pointer (some q4), .pointer (some q5), .pointer (some q6)]⟩, #[]⟩], [(4, (Vl (.pointer (some q4)))), (5, (Vl (.pointer (some q5)))), (6, (Vl (.pointer (some q6)))), (23, (If 67 (Vl (.pointer (some (Ga.a 3))))))], [⟨.pointer (some q4), [(Vl (.int .u32 y3.2.2.2))], 23, none⟩, ⟨.pointer (some q5), [(Vl (.int .i64 r22.2.2.2))], 3, none⟩, ⟨.pointer (some q6), [(Vl (.bool false))], 4, none⟩]⟩ : St)) ?_ ?_
      · rintro ⟨⟩
        refine ax_rd (ix := 4) (last := #[true, true, true, true, true, true, true, false]) (by kernel_rfl) rfl (rd_binf' rfl rfl (bf_if (fun _ _ => by kernel_rfl) nil_eql35_if67)) rfl rfl (wt_none' rfl) rfl ?_
        exact tx_pick' [0, 1, 2] (sub_cons rfl (sub_cons rfl (sub_cons rfl (sub_cons rfl sub_nil)))) (by decide) (pick_cons rfl (pick_cons rfl (pick_cons rfl pick_nil))) (hN11 ())
      intro hN10
      refine ax_node (f' := 3) #[true, true, true, true, true, false, false, false] (fun (v6 : Unit) => (⟨25, [⟨.fn (.func 9) ⟨[.pointer (some q4), .pointer (some q5), .pointer (some q6)]⟩, #[]⟩], [(4, (Vl (.pointer (some q4)))), (5, (Vl (.pointer (some q5)))), (6, (Vl (.pointer (some q6)))), (20, (Vl (.int .u32 y3.2.2.2))), (22, (Vl (.int .i64 r22.2.2.2))), (24, (Vl (.bool false)))], [⟨.pointer (some q4), [(Vl (.int .u32 y3.2.2.2))], 23, none⟩, ⟨.pointer (some q5), [(Vl (.int .i64 0))], 3, none⟩, ⟨.pointer (some q6), [(Vl (.bool false))], 4, none⟩]⟩ : St)) ?_ ?_
      · rintro ⟨⟩
        refine ax_all (i := 5) (is := []) (by kernel_rfl) (all_cons ?_ all_nil)
        · refine nx_ox (last := #[true, true, true, true, true, true, false, false]) rfl (ox_store' (i := 0) (o := 0) rfl rfl (lv_vl rfl rfl) ⟨rfl, rfl, rfl, rfl⟩ rfl info23 rfl (H' := [⟨.pointer (some q4), [(Vl (.int .u32 y3.2.2.2))], 23, none⟩, ⟨.pointer (some q5), [(Vl (.int .i64 0))], 3, none⟩, ⟨.pointer (some q6), [(Vl (.bool false))], 4, none⟩]) rfl) rfl (bs_cons (m := 0) rfl rfl rfl bs_nil) (wt_none' rfl) rfl fun _ => ?_
          exact tx_pick' [0, 1, 2] (sub_cons rfl (sub_cons rfl (sub_cons rfl (sub_cons rfl (sub_cons rfl sub_nil))))) (by decide) (pick_cons rfl (pick_cons rfl (pick_cons rfl pick_nil))) (hN9 ())
      intro hN7
      refine ax_node (f' := 3) #[true, true, true, true, false, true, false, false] (fun (v7 : Unit) => (⟨25, [⟨.fn (.func 9) ⟨[.pointer (some q4), .pointer (some q5), .pointer (some q6)]⟩, #[]⟩], [(4, (Vl (.pointer (some q4)))), (5, (Vl (.pointer (some q5)))), (6, (Vl (.pointer (some q6)))), (22, (Vl (.int .i64 r22.2.2.2))), (23, (If 67 (Vl (.pointer (some (Ga.a 3))))))], [⟨.pointer (some q4), [(Vl (.int .u32 y3.2.2.2))], 23, none⟩, ⟨.pointer (some q5), [(Vl (.int .i64 0))], 3, none⟩, ⟨.pointer (some q6), [(Vl (.bool false))], 4, none⟩]⟩ : St)) ?_ ?_
      · rintro ⟨⟩
        refine ax_all (i := 4) (is := [6]) (by kernel_rfl) (all_cons ?_ (all_cons ?_ all_nil))
        · refine nx_rd (last := #[true, true, true, true, true, true, false, false]) rfl (rd_binf' rfl rfl (bf_if (fun _ _ => by kernel_rfl) nil_eql35_if67)) rfl rfl (wt_none' rfl) rfl ?_
          exact tx_pick' [0, 1, 2] (sub_cons rfl (sub_cons rfl (sub_cons rfl (sub_cons rfl (sub_cons rfl sub_nil))))) (by decide) (pick_cons rfl (pick_cons rfl (pick_cons rfl pick_nil))) (hN9 ())
        · refine nx_oxv (last := #[true, true, true, true, false, true, true, false]) rfl (oxv_store (i := 1) (o := 0) rfl rfl (lv_vl rfl rfl) ⟨rfl, rfl, rfl, rfl⟩ rfl info3 rfl (H' := [⟨.pointer (some q4), [(Vl (.int .u32 y3.2.2.2))], 23, none⟩, ⟨.pointer (some q5), [(Vl (.int .i64 r22.2.2.2))], 3, none⟩, ⟨.pointer (some q6), [(Vl (.bool false))], 4, none⟩]) rfl) rfl rfl (bo_cons (m := 0) (by decide) rfl rfl bo_nil) (wt_none' rfl) rfl fun _ => ?_
          exact tx_pick' [0, 1, 2] (sub_cons rfl (sub_cons rfl (sub_cons rfl (sub_cons rfl sub_nil)))) (by decide) (pick_cons rfl (pick_cons rfl (pick_cons rfl pick_nil))) (hN10 ())
      intro hN8
      refine ax_node (f' := 4) #[true, true, true, true, false, false, false, false] (fun (v3 : Unit) => (⟨25, [⟨.fn (.func 9) ⟨[.pointer (some q4), .pointer (some q5), .pointer (some q6)]⟩, #[]⟩], [(4, (Vl (.pointer (some q4)))), (5, (Vl (.pointer (some q5)))), (6, (Vl (.pointer (some q6)))), (20, (Vl (.int .u32 y3.2.2.2))), (22, (Vl (.int .i64 r22.2.2.2))), (23, (If 67 (Vl (.pointer (some (Ga.a 3))))))], [⟨.pointer (some q4), [(Vl (.int .u32 y3.2.2.2))], 23, none⟩, ⟨.pointer (some q5), [(Vl (.int .i64 0))], 3, none⟩, ⟨.pointer (some q6), [(Vl (.bool false))], 4, none⟩]⟩ : St)) ?_ ?_
      · rintro ⟨⟩
        refine ax_all (i := 4) (is := [5]) (by kernel_rfl) (all_cons ?_ (all_cons ?_ all_nil))
        · refine nx_rd (last := #[true, true, true, true, true, false, false, false]) rfl (rd_binf' rfl rfl (bf_if (fun _ _ => by kernel_rfl) nil_eql35_if67)) rfl rfl (wt_none' rfl) rfl ?_
          exact tx_pick' [0, 1, 2] (sub_cons rfl (sub_cons rfl (sub_cons rfl (sub_cons rfl (sub_cons rfl (sub_cons rfl sub_nil)))))) (by decide) (pick_cons rfl (pick_cons rfl (pick_cons rfl pick_nil))) (hN7 ())
        · refine nx_ox (last := #[true, true, true, true, false, true, false, false]) rfl (ox_store' (i := 0) (o := 0) rfl rfl (lv_vl rfl rfl) ⟨rfl, rfl, rfl, rfl⟩ rfl info23 rfl (H' := [⟨.pointer (some q4), [(Vl (.int .u32 y3.2.2.2))], 23, none⟩, ⟨.pointer (some q5), [(Vl (.int .i64 0))], 3, none⟩, ⟨.pointer (some q6), [(Vl (.bool false))], 4, none⟩]) rfl) rfl (bs_cons (m := 0) rfl rfl rfl bs_nil) (wt_none' rfl) rfl fun _ => ?_
          exact tx_pick' [0, 1, 2] (sub_cons rfl (sub_cons rfl (sub_cons rfl (sub_cons rfl (sub_cons rfl sub_nil))))) (by decide) (pick_cons rfl (pick_cons rfl (pick_cons rfl pick_nil))) (hN8 ())
      intro hN4
      refine ax_node (f' := 4) #[true, true, true, false, false, true, false, false] (fun (v4 : Unit) => (⟨25, [⟨.fn (.func 9) ⟨[.pointer (some q4), .pointer (some q5), .pointer (some q6)]⟩, #[]⟩], [(4, (Vl (.pointer (some q4)))), (5, (Vl (.pointer (some q5)))), (6, (Vl (.pointer (some q6)))), (8, (If 67 (Vl (.pointer (some (Ga.a 3)))))), (22, (Vl (.int .i64 r22.2.2.2)))], [⟨.pointer (some q4), [(Vl (.int .u32 y3.2.2.2))], 23, none⟩, ⟨.pointer (some q5), [(Vl (.int .i64 0))], 3, none⟩, ⟨.pointer (some q6), [(Vl (.bool false))], 4, none⟩]⟩ : St)) ?_ ?_
      · rintro ⟨⟩
        refine ax_rb (ix := 3) (last := #[true, true, true, true, false, true, false, false]) (by kernel_rfl) rfl (rb_move' rfl) rfl rfl (wt_none' rfl) rfl ?_
        exact tx_pick' [0, 1, 2] (sub_cons rfl (sub_cons rfl (sub_cons rfl (sub_cons rfl (sub_cons rfl sub_nil))))) (by decide) (pick_cons rfl (pick_cons rfl (pick_cons rfl pick_nil))) (hN8 ())
      intro hN5
      refine ax_node (f' := 4) #[true, true, false, true, true, false, false, false] (fun (v5 : Unit) => (⟨25, [⟨.fn (.func 9) ⟨[.pointer (some q4), .pointer (some q5), .pointer (some q6)]⟩, #[]⟩], [(4, (Vl (.pointer (some q4)))), (5, (Vl (.pointer (some q5)))), (6, (Vl (.pointer (some q6)))), (20, (Vl (.int .u32 y3.2.2.2))), (21, (Vl (.pointer (some q11)))), (24, (Vl (.bool false)))], [⟨.pointer (some q4), [(Vl (.int .u32 y3.2.2.2))], 23, none⟩, ⟨.pointer (some q5), [(Vl (.int .i64 0))], 3, none⟩, ⟨.pointer (some q6), [(Vl (.bool false))], 4, none⟩, ⟨.pointer (some q11), [(Sl (Ki .u8) y3.1), (Vl (.int .i64 y3.2.1)), (Vl (.int .i8 y3.2.2.1))], 50, none⟩]⟩ : St)) ?_ ?_
      · rintro ⟨⟩
        refine ax_all (i := 2) (is := []) (by kernel_rfl) (all_cons ?_ all_nil)
        · refine nx_oxb (is := [3]) (last := #[true, true, true, true, true, false, false, false]) rfl (oxb_callg (ent_fn' Tryd.func13 isn13 rfl rfl) (bytes_Buffer_Len_sim _ _ _ hr22 : Go.Sx.Fn Tryd.prog 13 [(Vl (.pointer (some q11)))] [⟨.pointer (some q11), [(Sl (Ki .u8) y3.1), (Vl (.int .i64 y3.2.1)), (Vl (.int .i8 y3.2.2.1))], 50, none⟩] (fun x : Unit => (Vl (.int .i64 r22.2.2.2))) (fun x => [⟨.pointer (some q11), [(Sl (Ki .u8) r22.1), (Vl (.int .i64 r22.2.1)), (Vl (.int .i8 r22.2.2.1))], 50, none⟩])) [3] [0, 1, 2] (by decide) (pick_cons rfl pick_nil) (pick_cons rfl (pick_cons rfl (pick_cons rfl pick_nil))) (Hn := fun x : Unit => [⟨.pointer (some q11), [(Sl (Ki .u8) r22.1), (Vl (.int .i64 r22.2.1)), (Vl (.int .i8 r22.2.2.1))], 50, none⟩, ⟨.pointer (some q4), [(Vl (.int .u32 y3.2.2.2))], 23, none⟩, ⟨.pointer (some q5), [(Vl (.int .i64 0))], 3, none⟩, ⟨.pointer (some q6), [(Vl (.bool false))], 4, none⟩]) (fun _ => rfl) rfl rfl) (pick_cons rfl pick_nil) rfl (bl_cons (m := 0) (by decide) rfl rfl bl_nil) (wt_none' rfl) rfl fun ⟨⟩ => ?_
          exact tx_pick' [1, 2, 3] (sub_cons rfl (sub_cons rfl (sub_cons rfl (sub_cons rfl (sub_cons rfl (sub_cons rfl sub_nil)))))) (by decide) (pick_cons rfl (pick_cons rfl (pick_cons rfl pick_nil))) (hN7 ())
      intro hN6
      refine ax_node (f' := 5) #[true, true, true, false, false, false, false, false] (fun (v1 : Unit) => (⟨25, [⟨.fn (.func 9) ⟨[.pointer (some q4), .pointer (some q5), .pointer (some q6)]⟩, #[]⟩], [(4, (Vl (.pointer (some q4)))), (5, (Vl (.pointer (some q5)))), (6, (Vl (.pointer (some q6)))), (8, (If 67 (Vl (.pointer (some (Ga.a 3)))))), (20, (Vl (.int .u32 y3.2.2.2))), (22, (Vl (.int .i64 r22.2.2.2)))], [⟨.pointer (some q4), [(Vl (.int .u32 y3.2.2.2))], 23, none⟩, ⟨.pointer (some q5), [(Vl (.int .i64 0))], 3, none⟩, ⟨.pointer (some q6), [(Vl (.bool false))], 4, none⟩]⟩ : St)) ?_ ?_
      · rintro ⟨⟩
        refine ax_all (i := 3) (is := [5]) (by kernel_rfl) (all_cons ?_ (all_cons ?_ all_nil))
        · refine nx_rd (last := #[true, true, true, true, false, false, false, false]) rfl (rd_move' rfl) rfl rfl (wt_none' rfl) rfl ?_
          exact tx_pick' [0, 1, 2] (sub_cons rfl (sub_cons rfl (sub_cons rfl (sub_cons rfl (sub_cons rfl (sub_cons rfl sub_nil)))))) (by decide) (pick_cons rfl (pick_cons rfl (pick_cons rfl pick_nil))) (hN4 ())
        · refine nx_ox (last := #[true, true, true, false, false, true, false, false]) rfl (ox_store' (i := 0) (o := 0) rfl rfl (lv_vl rfl rfl) ⟨rfl, rfl, rfl, rfl⟩ rfl info23 rfl (H' := [⟨.pointer (some q4), [(Vl (.int .u32 y3.2.2.2))], 23, none⟩, ⟨.pointer (some q5), [(Vl (.int .i64 0))], 3, none⟩, ⟨.pointer (some q6), [(Vl (.bool false))], 4, none⟩]) rfl) rfl (bs_cons (m := 0) rfl rfl rfl bs_nil) (wt_none' rfl) rfl fun _ => ?_
          exact tx_pick' [0, 1, 2] (sub_cons rfl (sub_cons rfl (sub_cons rfl (sub_cons rfl (sub_cons rfl sub_nil))))) (by decide) (pick_cons rfl (pick_cons rfl (pick_cons rfl pick_nil))) (hN5 ())
      intro hN2
      refine ax_node (f' := 5) #[true, true, false, true, false, false, false, false] (fun (v2 : Unit) => (⟨25, [⟨.fn (.func 9) ⟨[.pointer (some q4), .pointer (some q5), .pointer (some q6)]⟩, #[]⟩], [(4, (Vl (.pointer (some q4)))), (5, (Vl (.pointer (some q5)))), (6, (Vl (.pointer (some q6)))), (20, (Vl (.int .u32 y3.2.2.2))), (21, (Vl (.pointer (some q11)))), (23, (If 67 (Vl (.pointer (some (Ga.a 3))))))], [⟨.pointer (some q4), [(Vl (.int .u32 y3.2.2.2))], 23, none⟩, ⟨.pointer (some q5), [(Vl (.int .i64 0))], 3, none⟩, ⟨.pointer (some q6), [(Vl (.bool false))], 4, none⟩, ⟨.pointer (some q11), [(Sl (Ki .u8) y3.1), (Vl (.int .i64 y3.2.1)), (Vl (.int .i8 y3.2.2.1))], 50, none⟩]⟩ : St)) ?_ ?_
      · rintro ⟨⟩
        refine ax_all (i := 2) (is := [4]) (by kernel_rfl) (all_cons ?_ (all_cons ?_ all_nil))
        · refine nx_oxb (is := [3]) (last := #[true, true, true, true, false, false, false, false]) rfl (oxb_callg (ent_fn' Tryd.func13 isn13 rfl rfl) (bytes_Buffer_Len_sim _ _ _ hr22 : Go.Sx.Fn Tryd.prog 13 [(Vl (.pointer (some q11)))] [⟨.pointer (some q11), [(Sl (Ki .u8) y3.1), (Vl (.int .i64 y3.2.1)), (Vl (.int .i8 y3.2.2.1))], 50, none⟩] (fun x : Unit => (Vl (.int .i64 r22.2.2.2))) (fun x => [⟨.pointer (some q11), [(Sl (Ki .u8) r22.1), (Vl (.int .i64 r22.2.1)), (Vl (.int .i8 r22.2.2.1))], 50, none⟩])) [3] [0, 1, 2] (by decide) (pick_cons rfl pick_nil) (pick_cons rfl (pick_cons rfl (pick_cons rfl pick_nil))) (Hn := fun x : Unit => [⟨.pointer (some q11), [(Sl (Ki .u8) r22.1), (Vl (.int .i64 r22.2.1)), (Vl (.int .i8 r22.2.2.1))], 50, none⟩, ⟨.pointer (some q4), [(Vl (.int .u32 y3.2.2.2))], 23, none⟩, ⟨.pointer (some q5), [(Vl (.int .i64 0))], 3, none⟩, ⟨.pointer (some q6), [(Vl (.bool false))], 4, none⟩]) (fun _ => rfl) rfl rfl) (pick_cons rfl pick_nil) rfl (bl_cons (m := 0) (by decide) rfl rfl bl_nil) (wt_none' rfl) rfl fun ⟨⟩ => ?_
          exact tx_pick' [1, 2, 3] (sub_cons rfl (sub_cons rfl (sub_cons rfl (sub_cons rfl (sub_cons rfl (sub_cons rfl sub_nil)))))) (by decide) (pick_cons rfl (pick_cons rfl (pick_cons rfl pick_nil))) (hN4 ())
        · refine nx_rd (last := #[true, true, false, true, true, false, false, false]) rfl (rd_binf' rfl rfl (bf_if (fun _ _ => by kernel_rfl) nil_eql35_if67)) rfl rfl (wt_none' rfl) rfl ?_
          exact tx_pick' [0, 1, 2, 3] (sub_cons rfl (sub_cons rfl (sub_cons rfl (sub_cons rfl (sub_cons rfl (sub_cons rfl sub_nil)))))) (by decide) (pick_cons rfl (pick_cons rfl (pick_cons rfl (pick_cons rfl pick_nil)))) (hN6 ())
      intro hN3
      refine ax_all (i := 2) (is := [3]) (by kernel_rfl) (all_cons ?_ (all_cons ?_ all_nil))
      · refine nx_oxb (is := [0]) (last := #[true, true, true, false, false, false, false, false]) rfl (oxb_callg (ent_fn' Tryd.func13 isn13 rfl rfl) (bytes_Buffer_Len_sim _ _ _ hr22 : Go.Sx.Fn Tryd.prog 13 [(Vl (.pointer (some q11)))] [⟨.pointer (some q11), [(Sl (Ki .u8) y3.1), (Vl (.int .i64 y3.2.1)), (Vl (.int .i8 y3.2.2.1))], 50, none⟩] (fun x : Unit => (Vl (.int .i64 r22.2.2.2))) (fun x => [⟨.pointer (some q11), [(Sl (Ki .u8) r22.1), (Vl (.int .i64 r22.2.1)), (Vl (.int .i8 r22.2.2.1))], 50, none⟩])) [0] [1, 2, 3] (by decide) (pick_cons rfl pick_nil) (pick_cons rfl (pick_cons rfl (pick_cons rfl pick_nil))) (Hn := fun x : Unit => [⟨.pointer (some q11), [(Sl (Ki .u8) r22.1), (Vl (.int .i64 r22.2.1)), (Vl (.int .i8 r22.2.2.1))], 50, none⟩, ⟨.pointer (some q6), [(Vl (.bool false))], 4, none⟩, ⟨.pointer (some q5), [(Vl (.int .i64 0))], 3, none⟩, ⟨.pointer (some q4), [(Vl (.int .u32 y3.2.2.2))], 23, none⟩]) (fun _ => rfl) rfl rfl) (pick_cons rfl pick_nil) rfl (bl_cons (m := 3) (by decide) rfl rfl bl_nil) (wt_none' rfl) rfl fun ⟨⟩ => ?_
        exact tx_pick' [3, 2, 1] (sub_cons rfl (sub_cons rfl (sub_cons rfl (sub_cons rfl (sub_cons rfl (sub_cons rfl sub_nil)))))) (by decide) (pick_cons rfl (pick_cons rfl (pick_cons rfl pick_nil))) (hN2 ())
      · refine nx_rd (last := #[true, true, false, true, false, false, false, false]) rfl (rd_move' rfl) rfl rfl (wt_none' rfl) rfl ?_
        exact tx_pick' [3, 2, 1, 0] (sub_cons rfl (sub_cons rfl (sub_cons rfl (sub_cons rfl (sub_cons rfl (sub_cons rfl sub_nil)))))) (by decide) (pick_cons rfl (pick_cons rfl (pick_cons rfl (pick_cons rfl pick_nil)))) (hN3 ())
  · dsimp only at hp
    refine sx_ox' (ox_calln' (ent_fn' Tryd.func12 isn12 rfl rfl) (wkbcommon_DoorOrder_sim _ hr16 : Go.Sx.Fn Tryd.prog 12 [(Vl (.bool a1))] [] (fun x : Unit => (If 61 (Ag []))) (fun x => [])) (Hn := fun x : Unit => [⟨.pointer (some q11), [(Sl (Ki .u8) r11.1), (Vl (.int .i64 r11.2.1)), (Vl (.int .i8 r11.2.2))], 50, none⟩, ⟨.pointer (some q6), [(Vl (.bool false))], 4, none⟩, ⟨.pointer (some q5), [(Vl (.int .i64 0))], 3, none⟩, ⟨.pointer (some q4), [(Vl (.int .u32 0))], 23, none⟩]) (fun _ => rfl) rfl rfl) (wt_none' rfl) fun ⟨⟩ => ?_
    obtain ⟨r17, hr17, hp⟩ := bind_some hp
    rcases r17 with y3 | y3 | y3 | y3
    · dsimp only at hp
      refine sx_ox' (ox_callg' (ent_fn' Tryd.func11 isn11 rfl rfl) (wkbcommon_ReadUInt32_v2_sim _ _ _ hr17 : Go.Sx.Fn Tryd.prog 11 [(If 32 (Vl (.pointer (some q11)))), (If 61 (Ag []))] [⟨.pointer (some q11), [(Sl (Ki .u8) r11.1), (Vl (.int .i64 r11.2.1)), (Vl (.int .i8 r11.2.2))], 50, none⟩] (fun x : Unit => (Tu [(Vl (.int .u32 y3.2.2.2)), (If 67 (Vl (.pointer (some (Ga.a 2)))))])) (fun x => [⟨.pointer (some q11), [(Sl (Ki .u8) y3.1), (Vl (.int .i64 y3.2.1)), (Vl (.int .i8 y3.2.2.1))], 50, none⟩])) [0] [1, 2, 3] (by decide) (pick_cons rfl pick_nil) (pick_cons rfl (pick_cons rfl (pick_cons rfl pick_nil))) (Hn := fun x : Unit => [⟨.pointer (some q11), [(Sl (Ki .u8) y3.1), (Vl (.int .i64 y3.2.1)), (Vl (.int .i8 y3.2.2.1))], 50, none⟩, ⟨.pointer (some q6), [(Vl (.bool false))], 4, none⟩, ⟨.pointer (some q5), [(Vl (.int .i64 0))], 3, none⟩, ⟨.pointer (some q4), [(Vl (.int .u32 0))], 23, none⟩]) (fun _ => rfl) rfl rfl) (wt_none' rfl) fun ⟨⟩ => ?_
      refine sx_rd' (rd_move' rfl) rfl rfl (wt_none' rfl) ?_
      refine sx_rd' (rd_extract' rfl rfl) rfl rfl (wt_none' rfl) ?_
      refine sx_rd' (rd_extract' rfl rfl) rfl rfl (wt_none' rfl) ?_
      refine sx_ox' (ox_store' (i := 3) (o := 0) rfl rfl (lv_vl rfl rfl) ⟨rfl, rfl, rfl, rfl⟩ rfl info23 rfl (H' := [⟨.pointer (some q11), [(Sl (Ki .u8) y3.1), (Vl (.int .i64 y3.2.1)), (Vl (.int .i8 y3.2.2.1))], 50, none⟩, ⟨.pointer (some q6), [(Vl (.bool false))], 4, none⟩, ⟨.pointer (some q5), [(Vl (.int .i64 0))], 3, none⟩, ⟨.pointer (some q4), [(Vl (.int .u32 y3.2.2.2))], 23, none⟩]) rfl) (wt_none' rfl) fun _ => ?_
      refine sx_rd' (rd_assign' rfl) rfl rfl (wt_none' rfl) ?_
      refine sx_nil' ?_
      show TX E K4 _
      refine tx_k' hK4 ?_
      refine cx_seq' fun K5 hK5 => ?_
      refine cx_plana' [q4.block] [(2, 1), (5, 2), (6, 1), (7, 1)] [(0, 2), (1, 1)] 6 #[true, true, false, false, false, false, false, false] mixed (by kernel_rfl) ?_
      refine px_rb' rfl (rb_load' (i := 3) (o := 0) rfl ⟨rfl, rfl, rfl, rfl⟩ rfl flat23 (by simp)) rfl rfl (wt_none' rfl) ?_
      refine px_rd' rfl (rd_move' rfl) rfl rfl (wt_none' rfl) ?_
      refine px_nil' ?_
      show AX E _ _ _ _ _ _ _ _
      obtain ⟨r22, hr22, hp⟩ := bind_some hp
      refine ax_node (f' := 0) #[true, true, true, true, true, true, true, true] (fun (v11 : Unit) => (⟨25, [⟨.fn (.func 9) ⟨[.pointer (some q4), .pointer (some q5), .pointer (some q6)]⟩, #[]⟩], [(4, (Vl (.pointer (some q4)))), (5, (Vl (.pointer (some q5)))), (6, (Vl (.pointer (some q6))))], [⟨.pointer (some q4), [(Vl (.int .u32 y3.2.2.2))], 23, none⟩, ⟨.pointer (some q5), [(Vl (.int .i64 r22.2.2.2))], 3, none⟩, ⟨.pointer (some q6), [(Vl (.bool false))], 4, none⟩]⟩ : St)) ?_ ?_
      · rintro ⟨⟩
        refine ax_nil (by kernel_rfl) ?_
        show TX E K5 _
        refine tx_k' hK5 ?_
        refine cx_retc' ?_
        replace hp := Option.some.inj hp
        subst hp
        refine tx_leave' (.inl rfl) rfl idle9 rfl Tryd.func9 isn9 rfl ?_
        refine tx_pick' (L' := [(4, (Vl (.pointer (some q4)))), (5, (Vl (.pointer (some q5)))), (6, (Vl (.pointer (some q6))))]) (H' := [⟨.pointer (some q4), [(Vl (.int .u32 y3.2.2.2))], 23, none⟩, ⟨.pointer (some q5), [(Vl (.int .i64 r22.2.2.2))], 3, none⟩, ⟨.pointer (some q6), [(Vl (.bool false))], 4, none⟩]) [0, 1, 2] (sub_cons rfl (sub_cons rfl (sub_cons rfl sub_nil))) (by decide) (pick_cons rfl (pick_cons rfl (pick_cons rfl pick_nil))) ?_
        exact tx_ret3' Tryd.results5 rfl () (rv_cell' (i := 0) (o := 0) rfl ⟨rfl, rfl, rfl, rfl⟩ rfl flat23) (rv_cell' (i := 1) (o := 0) rfl ⟨rfl, rfl, rfl, rfl⟩ rfl flat3) (rv_cell' (i := 2) (o := 0) rfl ⟨rfl, rfl, rfl, rfl⟩ rfl flat4) rfl (List.nil_sublist _)
      intro hN12
      refine ax_node (f' := 1) #[true, true, true, true, true, true, true, false] (fun (v10 : Unit) => (⟨25, [⟨.fn (.func 9) ⟨[.pointer (some q4), .pointer (some q5), .pointer (some q6)]⟩, #[]⟩], [(4, (Vl (.pointer (some q4)))), (5, (Vl (.pointer (some q5)))), (6, (Vl (.pointer (some q6)))), (24, (Vl (.bool false)))], [⟨.pointer (some q4), [(Vl (.int .u32 y3.2.2.2))], 23, none⟩, ⟨.pointer (some q5), [(Vl (.int .i64 r22.2.2.2))], 3, none⟩, ⟨.pointer (some q6), [(Vl (.bool false))], 4, none⟩]⟩ : St)) ?_ ?_
      · rintro ⟨⟩
        refine ax_all (i := 7) (is := []) (by kernel_rfl) (all_cons ?_ all_nil)
        · refine nx_oxv (last := #[true, true, true, true, true, true, true, true]) rfl (oxv_store (i := 2) (o := 0) rfl rfl (lv_vl rfl rfl) ⟨rfl, rfl, rfl, rfl⟩ rfl info4 rfl (H' := [⟨.pointer (some q4), [(Vl (.int .u32 y3.2.2.2))], 23, none⟩, ⟨.pointer (some q5), [(Vl (.int .i64 r22.2.2.2))], 3, none⟩, ⟨.pointer (some q6), [(Vl (.bool false))], 4, none⟩]) rfl) rfl rfl (bo_cons (m := 0) (by decide) rfl rfl bo_nil) (wt_none' rfl) rfl fun _ => ?_
          exact tx_pick' [0, 1, 2] (sub_cons rfl (sub_cons rfl (sub_cons rfl sub_nil))) (by decide) (pick_cons rfl (pick_cons rfl (pick_cons rfl pick_nil))) (hN12 ())
      intro hN11
      refine ax_node (f' := 2) #[true, true, true, true, true, true, false, false] (fun (v8 : Unit) => (⟨25, [⟨.fn (.func 9) ⟨[.pointer (some q4), .pointer (some q5), .pointer (some q6)]⟩, #[]⟩], [(4, (Vl (.pointer (some q4)))), (5, (Vl (.pointer (some q5)))), (6, (Vl (.pointer (some q6)))), (22, (Vl (.int .i64 r22.2.2.2))), (24, (Vl (.bool false)))], [⟨.pointer (some q4), [(Vl (.int .u32 y3.2.2.2))], 23, none⟩, ⟨.pointer (some q5), [(Vl (.int .i64 0))], 3, none⟩, ⟨.pointer (some q6), [(Vl (.bool false))], 4, none⟩]⟩ : St)) ?_ ?_
      · rintro ⟨⟩
        refine ax_all (i := 6) (is := []) (by kernel_rfl) (all_cons ?_ all_nil)
        · refine nx_oxv (last := #[true, true, true, true, true, true, true, false]) rfl (oxv_store (i := 1) (o := 0) rfl rfl (lv_vl rfl rfl) ⟨rfl, rfl, rfl, rfl⟩ rfl info3 rfl (H' := [⟨.pointer (some q4), [(Vl (.int .u32 y3.2.2.2))], 23, none⟩, ⟨.pointer (some q5), [(Vl (.int .i64 r22.2.2.2))], 3, none⟩, ⟨.pointer (some q6), [(Vl (.bool false))], 4, none⟩]) rfl) rfl rfl (bo_cons (m := 0) (by decide) rfl rfl bo_nil) (wt_none' rfl) rfl fun _ => ?_
          exact tx_pick' [0, 1, 2] (sub_cons rfl (sub_cons rfl (sub_cons rfl (sub_cons rfl sub_nil)))) (by decide) (pick_cons rfl (pick_cons rfl (pick_cons rfl pick_nil))) (hN11 ())
      intro hN9
      refine ax_node (f' := 2) #[true, true, true, true, false, true, true, false] (fun (v9 : Unit) => (⟨25, [⟨.fn (.func 9) ⟨[.pointer (some q4), .pointer (some q5), .pointer (some q6)]⟩, #[]⟩], [(4, (Vl (.pointer (some q4)))), (5, (Vl (.pointer (some q5)))), (6, (Vl (.pointer (some q6)))), (23, (If 67 (Vl (.pointer (some (Ga.a 2))))))], [⟨.pointer (some q4), [(Vl (.int .u32 y3.2.2.2))], 23, none⟩, ⟨.pointer (some q5), [(Vl (.int .i64 r22.2.2.2))], 3, none⟩, ⟨.pointer (some q6), [(Vl (.bool false))], 4, none⟩]⟩ : St)) ?_ ?_
      · rintro ⟨⟩
        refine ax_rd (ix := 4) (last := #[true, true, true, true, true, true, true, false]) (by kernel_rfl) rfl (rd_binf' rfl rfl (bf_if (fun _ _ => by kernel_rfl) nil_eql35_if67)) rfl rfl (wt_none' rfl) rfl ?_
        exact tx_pick' [0, 1, 2] (sub_cons rfl (sub_cons rfl (sub_cons rfl (sub_cons rfl sub_nil)))) (by decide) (pick_cons rfl (pick_cons rfl (pick_cons rfl pick_nil))) (hN11 ())
      intro hN10
      refine ax_node (f' := 3) #[true, true, true, true, true, false, false, false] (fun (v6 : Unit) => (⟨25, [⟨.fn (.func 9) ⟨[.pointer (some q4), .pointer (some q5), .pointer (some q6)]⟩, #[]⟩], [(4, (Vl (.pointer (some q4)))), (5, (Vl (.pointer (some q5)))), (6, (Vl (.pointer (some q6)))), (20, (Vl (.int .u32 y3.2.2.2))), (22, (Vl (.int .i64 r22.2.2.2))), (24, (Vl (.bool false)))], [⟨.pointer (some q4), [(Vl (.int .u32 y3.2.2.2))], 23, none⟩, ⟨.pointer (some q5), [(Vl (.int .i64 0))], 3, none⟩, ⟨.pointer (some q6), [(Vl (.bool false))], 4, none⟩]⟩ : St)) ?_ ?_
      · rintro ⟨⟩
        refine ax_all (i := 5) (is := []) (by kernel_rfl) (all_cons ?_ all_nil)
        · refine nx_ox (last := #[true, true, true, true, true, true, false, false]) rfl (ox_store' (i := 0) (o := 0) rfl rfl (lv_vl rfl rfl) ⟨rfl, rfl, rfl, rfl⟩ rfl info23 rfl (H' := [⟨.pointer (some q4), [(Vl (.int .u32 y3.2.2.2))], 23, none⟩, ⟨.pointer (some q5), [(Vl (.int .i64 0))], 3, none⟩, ⟨.pointer (some q6), [(Vl (.bool false))], 4, none⟩]) rfl) rfl (bs_cons (m := 0) rfl rfl rfl bs_nil) (wt_none' rfl) rfl fun _ => ?_
          exact tx_pick' [0, 1, 2] (sub_cons rfl (sub_cons rfl (sub_cons rfl (sub_cons rfl (sub_cons rfl sub_nil))))) (by decide) (pick_cons rfl (pick_cons rfl (pick_cons rfl pick_nil))) (hN9 ())
      intro hN7
      refine ax_node (f' := 3) #[true, true, true, true, false, true, false, false] (fun (v7 : Unit) => (⟨25, [⟨.fn (.func 9) ⟨[.pointer (some q4), .pointer (some q5), .pointer (some q6)]⟩, #[]⟩], [(4, (Vl (.pointer (some q4)))), (5, (Vl (.pointer (some q5)))), (6, (Vl (.pointer (some q6)))), (22, (Vl (.int .i64 r22.2.2.2))), (23, (If 67 (Vl (.pointer (some (Ga.a 2))))))], [⟨.pointer (some q4), [(Vl (.int .u32 y3.2.2.2))], 23, none⟩, ⟨.pointer (some q5), [(Vl (.int .i64 0))], 3, none⟩, ⟨.pointer (some q6), [(Vl (.bool false))], 4, none⟩]⟩ : St)) ?_ ?_
      · rintro ⟨⟩
        refine ax_all (i := 4) (is := [6]) (by kernel_rfl) (all_cons ?_ (all_cons ?_ all_nil))
        · refine nx_rd (last := #[true, true, true, true, true, true, false, false]) rfl (rd_binf' rfl rfl (bf_if (fun _ _ => by kernel_rfl) nil_eql35_if67)) rfl rfl (wt_none' rfl) rfl ?_
          exact tx_pick' [0, 1, 2] (sub_cons rfl (sub_cons rfl (sub_cons rfl (sub_cons rfl (sub_cons rfl sub_nil))))) (by decide) (pick_cons rfl (pick_cons rfl (pick_cons rfl pick_nil))) (hN9 ())
        · refine nx_oxv (last := #[true, true, true, true, false, true, true, false]) rfl (oxv_store (i := 1) (o := 0) rfl rfl (lv_vl rfl rfl) ⟨rfl, rfl, rfl, rfl⟩ rfl info3 rfl (H' := [⟨.pointer (some q4), [(Vl (.int .u32 y3.2.2.2))], 23, none⟩, ⟨.pointer (some q5), [(Vl (.int .i64 r22.2.2.2))], 3, none⟩, ⟨.pointer (some q6), [(Vl (.bool false))], 4, none⟩]) rfl) rfl rfl (bo_cons (m := 0) (by decide) rfl rfl bo_nil) (wt_none' rfl) rfl fun _ => ?_
          exact tx_pick' [0, 1, 2] (sub_cons rfl (sub_cons rfl (sub_cons rfl (sub_cons rfl sub_nil)))) (by decide) (pick_cons rfl (pick_cons rfl (pick_cons rfl pick_nil))) (hN10 ())
      intro hN8
      refine ax_node (f' := 4) #[true, true, true, true, false, false, false, false] (fun (v3 : Unit) => (⟨25, [⟨.fn (.func 9) ⟨[.pointer (some q4), .pointer (some q5), .pointer (some q6)]⟩, #[]⟩], [(4, (Vl (.pointer (some q4)))), (5, (Vl (.pointer (some q5)))), (6, (Vl (.pointer (some q6)))), (20, (Vl (.int .u32 y3.2.2.2))), (22, (Vl (.int .i64 r22.2.2.2))), (23, (If 67 (Vl (.pointer (some (Ga.a 2))))))], [⟨.pointer (some q4), [(Vl (.int .u32 y3.2.2.2))], 23, none⟩, ⟨.pointer (some q5), [(Vl (.int .i64 0))], 3, none⟩, ⟨.pointer (some q6), [(Vl (.bool false))], 4, none⟩]⟩ : St)) ?_ ?_
      · rintro ⟨⟩
        refine ax_all (i := 4) (is := [5]) (by kernel_rfl) (all_cons ?_ (all_cons ?_ all_nil))
        · refine nx_rd (last := #[true, true, true, true, true, false, false, false]) rfl (rd_binf' rfl rfl (bf_if (fun _ _ => by kernel_rfl) nil_eql35_if67)) rfl rfl (wt_none' rfl) rfl ?_
          exact tx_pick' [0, 1, 2] (sub_cons rfl (sub_cons rfl (sub_cons rfl (sub_cons rfl (sub_cons rfl (sub_cons rfl sub_nil)))))) (by decide) (pick_cons rfl (pick_cons rfl (pick_cons rfl pick_nil))) (hN7 ())
        · refine nx_ox (last := #[true, true, true, true, false, true, false, false]) rfl (ox_store' (i := 0) (o := 0) rfl rfl (lv_vl rfl rfl) ⟨rfl, rfl, rfl, rfl⟩ rfl info23 rfl (H' := [⟨.pointer (some q4), [(Vl (.int .u32 y3.2.2.2))], 23, none⟩, ⟨.pointer (some q5), [(Vl (.int .i64 0))], 3, none⟩, ⟨.pointer (some q6), [(Vl (.bool false))], 4, none⟩]) rfl) rfl (bs_cons (m := 0) rfl rfl rfl bs_nil) (wt_none' rfl) rfl fun _ => ?_
          exact tx_pick' [0, 1, 2] (sub_cons rfl (sub_cons rfl (sub_cons rfl (sub_cons rfl (sub_cons rfl sub_nil))))) (by decide) (pick_cons rfl (pick_cons rfl (pick_cons rfl pick_nil))) (hN8 ())
      intro hN4
      refine ax_node (f' := 4) #[true, true, true, false, false, true, false, false] (fun (v4 : Unit) => (⟨25, [⟨.fn (.func 9) ⟨[.pointer (some q4), .pointer (some q5), .pointer (some q6)]⟩, #[]⟩], [(4, (Vl (.pointer (some q4)))), (5, (Vl (.pointer (some q5)))), (6, (Vl (.pointer (some q6)))), (8, (If 67 (Vl (.pointer (some (Ga.a 2)))))), (22, (Vl (.int .i64 r22.2.2.2)))], [⟨.pointer (some q4), [(Vl (.int .u32 y3.2.2.2))], 23, none⟩, ⟨.pointer (some q5), [(Vl (.int .i64 0))], 3, none⟩, ⟨.pointer (some q6), [(Vl (.bool false))], 4, none⟩]⟩ : St)) ?_ ?_
      · rintro ⟨⟩
        refine ax_rb (ix := 3) (last := #[true, true, true, true, false, true, false, false]) (by kernel_rfl) rfl (rb_move' rfl) rfl rfl (wt_none' rfl) rfl ?_
        exact tx_pick' [0, 1, 2] (sub_cons rfl (sub_cons rfl (sub_cons rfl (sub_cons rfl (sub_cons rfl sub_nil))))) (by decide) (pick_cons rfl (pick_cons rfl (pick_cons rfl pick_nil))) (hN8 ())
      intro hN5
      refine ax_node (f' := 4) #[true, true, false, true, true, false, false, false] (fun (v5 : Unit) => (⟨25, [⟨.fn (.func 9) ⟨[.pointer (some q4), .pointer (some q5), .pointer (some q6)]⟩, #[]⟩], [(4, (Vl (.pointer (some q4)))), (5, (Vl (.pointer (some q5)))), (6, (Vl (.pointer (some q6)))), (20, (Vl (.int .u32 y3.2.2.2))), (21, (Vl (.pointer (some q11)))), (24, (Vl (.bool false)))], [⟨.pointer (some q4), [(Vl (.int .u32 y3.2.2.2))], 23, none⟩, ⟨.pointer (some q5), [(Vl (.int .i64 0))], 3, none⟩, ⟨.pointer (some q6), [(Vl (.bool false))], 4, none⟩, ⟨.pointer (some q11), [(Sl (Ki .u8) y3.1), (Vl (.int .i64 y3.2.1)), (Vl (.int .i8 y3.2.2.1))], 50, none⟩]⟩ : St)) ?_ ?_
      · rintro ⟨⟩
        refine ax_all (i := 2) (is := []) (by kernel_rfl) (all_cons ?_ all_nil)
        · refine nx_oxb (is := [3]) (last := #[true, true, true, true, true, false, false, false]) rfl (oxb_callg (ent_fn' Tryd.func13 isn13 rfl rfl) (bytes_Buffer_Len_sim _ _ _ hr22 : Go.Sx.Fn Tryd.prog 13 [(Vl (.pointer (some q11)))] [⟨.pointer (some q11), [(Sl (Ki .u8) y3.1), (Vl (.int .i64 y3.2.1)), (Vl (.int .i8 y3.2.2.1))], 50, none⟩] (fun x : Unit => (Vl (.int .i64 r22.2.2.2))) (fun x => [⟨.pointer (some q11), [(Sl (Ki .u8) r22.1), (Vl (.int .i64 r22.2.1)), (Vl (.int .i8 r22.2.2.1))], 50, none⟩])) [3] [0, 1, 2] (by decide) (pick_cons rfl pick_nil) (pick_cons rfl (pick_cons rfl (pick_cons rfl pick_nil))) (Hn := fun x : Unit => [⟨.pointer (some q11), [(Sl (Ki .u8) r22.1), (Vl (.int .i64 r22.2.1)), (Vl (.int .i8 r22.2.2.1))], 50, none⟩, ⟨.pointer (some q4), [(Vl (.int .u32 y3.2.2.2))], 23, none⟩, ⟨.pointer (some q5), [(Vl (.int .i64 0))], 3, none⟩, ⟨.pointer (some q6), [(Vl (.bool false))], 4, none⟩]) (fun _ => rfl) rfl rfl) (pick_cons rfl pick_nil) rfl (bl_cons (m := 0) (by decide) rfl rfl bl_nil) (wt_none' rfl) rfl fun ⟨⟩ => ?_
          exact tx_pick' [1, 2, 3] (sub_cons rfl (sub_cons rfl (sub_cons rfl (sub_cons rfl (sub_cons rfl (sub_cons rfl sub_nil)))))) (by decide) (pick_cons rfl (pick_cons rfl (pick_cons rfl pick_nil))) (hN7 ())
      intro hN6
      refine ax_node (f' := 5) #[true, true, true, false, false, false, false, false] (fun (v1 : Unit) => (⟨25, [⟨.fn (.func 9) ⟨[.pointer (some q4), .pointer (some q5), .pointer (some q6)]⟩, #[]⟩], [(4, (Vl (.pointer (some q4)))), (5, (Vl (.pointer (some q5)))), (6, (Vl (.pointer (some q6)))), (8, (If 67 (Vl (.pointer (some (Ga.a 2)))))), (20, (Vl (.int .u32 y3.2.2.2))), (22, (Vl (.int .i64 r22.2.2.2)))], [⟨.pointer (some q4), [(Vl (.int .u32 y3.2.2.2))], 23, none⟩, ⟨.pointer (some q5), [(Vl (.int .i64 0))], 3, none⟩, ⟨.pointer (some q6), [(Vl (.bool false))], 4, none⟩]⟩ : St)) ?_ ?_
      · rintro ⟨⟩
        refine ax_all (i := 3) (is := [5]) (by kernel_rfl) (all_cons ?_ (all_cons ?_ all_nil))
        · refine nx_rd (last := #[true, true, true, true, false, false, false, false]) rfl (rd_move' rfl) rfl rfl (wt_none' rfl) rfl ?_
          exact tx_pick' [0, 1, 2] (sub_cons rfl (sub_cons rfl (sub_cons rfl (sub_cons rfl (sub_cons rfl (sub_cons rfl sub_nil)))))) (by decide) (pick_cons rfl (pick_cons rfl (pick_cons rfl pick_nil))) (hN4 ())
        · refine nx_ox (last := #[true, true, true, false, false, true, false, false]) rfl (ox_store' (i := 0) (o := 0) rfl rfl (lv_vl rfl rfl) ⟨rfl, rfl, rfl, rfl⟩ rfl info23 rfl (H' := [⟨.pointer (some q4), [(Vl (.int .u32 y3.2.2.2))], 23, none⟩, ⟨.pointer (some q5), [(Vl (.int .i64 0))], 3, none⟩, ⟨.pointer (some q6), [(Vl (.bool false))], 4, none⟩]) rfl) rfl (bs_cons (m := 0) rfl rfl rfl bs_nil) (wt_none' rfl) rfl fun _ => ?_
          exact tx_pick' [0, 1, 2] (sub_cons rfl (sub_cons rfl (sub_cons rfl (sub_cons rfl (sub_cons rfl sub_nil))))) (by decide) (pick_cons rfl (pick_cons rfl (pick_cons rfl pick_nil))) (hN5 ())
      intro hN2
      refine ax_node (f' := 5) #[true, true, false, true, false, false, false, false] (fun (v2 : Unit) => (⟨25, [⟨.fn (.func 9) ⟨[.pointer (some q4), .pointer (some q5), .pointer (some q6)]⟩, #[]⟩], [(4, (Vl (.pointer (some q4)))), (5, (Vl (.pointer (some q5)))), (6, (Vl (.pointer (some q6)))), (20, (Vl (.int .u32 y3.2.2.2))), (21, (Vl (.pointer (some q11)))), (23, (If 67 (Vl (.pointer (some (Ga.a 2))))))], [⟨.pointer (some q4), [(Vl (.int .u32 y3.2.2.2))], 23, none⟩, ⟨.pointer (some q5), [(Vl (.int .i64 0))], 3, none⟩, ⟨.pointer (some q6), [(Vl (.bool false))], 4, none⟩, ⟨.pointer (some q11), [(Sl (Ki .u8) y3.1), (Vl (.int .i64 y3.2.1)), (Vl (.int .i8 y3.2.2.1))], 50, none⟩]⟩ : St)) ?_ ?_
      · rintro ⟨⟩
        refine ax_all (i := 2) (is := [4]) (by kernel_rfl) (all_cons ?_ (all_cons ?_ all_nil))
        · refine nx_oxb (is := [3]) (last := #[true, true, true, true, false, false, false, false]) rfl (oxb_callg (ent_fn' Tryd.func13 isn13 rfl rfl) (bytes_Buffer_Len_sim _ _ _ hr22 : Go.Sx.Fn Tryd.prog 13 [(Vl (.pointer (some q11)))] [⟨.pointer (some q11), [(Sl (Ki .u8) y3.1), (Vl (.int .i64 y3.2.1)), (Vl (.int .i8 y3.2.2.1))], 50, none⟩] (fun x : Unit => (Vl (.int .i64 r22.2.2.2))) (fun x => [⟨.pointer (some q11), [(Sl (Ki .u8) r22.1), (Vl (.int .i64 r22.2.1)), (Vl (.int .i8 r22.2.2.1))], 50, none⟩])) [3] [0, 1, 2] (by decide) (pick_cons rfl pick_nil) (pick_cons rfl (pick_cons rfl (pick_cons rfl pick_nil))) (Hn := fun x : Unit => [⟨.pointer (some q11), [(Sl (Ki .u8) r22.1), (Vl (.int .i64 r22.2.1)), (Vl (.int .i8 r22.2.2.1))], 50, none⟩, ⟨.pointer (some q4), [(Vl (.int .u32 y3.2.2.2))], 23, none⟩, ⟨.pointer (some q5), [(Vl (.int .i64 0))], 3, none⟩, ⟨.pointer (some q6), [(Vl (.bool false))], 4, none⟩]) (fun _ => rfl) rfl rfl) (pick_cons rfl pick_nil) rfl (bl_cons (m := 0) (by decide) rfl rfl bl_nil) (wt_none' rfl) rfl fun ⟨⟩ => ?_
          exact tx_pick' [1, 2, 3] (sub_cons rfl (sub_cons rfl (sub_cons rfl (sub_cons rfl (sub_cons rfl (sub_cons rfl sub_nil)))))) (by decide) (pick_cons rfl (pick_cons rfl (pick_cons rfl pick_nil))) (hN4 ())
        · refine nx_rd (last := #[true, true, false, true, true, false, false, false]) rfl (rd_binf' rfl rfl (bf_if (fun _ _ => by kernel_rfl) nil_eql35_if67)) rfl rfl (wt_none' rfl) rfl ?_
          exact tx_pick' [0, 1, 2, 3] (sub_cons rfl (sub_cons rfl (sub_cons rfl (sub_cons rfl (sub_cons rfl (sub_cons rfl sub_nil)))))) (by decide) (pick_cons rfl (pick_cons rfl (pick_cons rfl (pick_cons rfl pick_nil)))) (hN6 ())
      intro hN3
      refine ax_all (i := 2) (is := [3]) (by kernel_rfl) (all_cons ?_ (all_cons ?_ all_nil))
      · refine nx_oxb (is := [0]) (last := #[true, true, true, false, false, false, false, false]) rfl (oxb_callg (ent_fn' Tryd.func13 isn13 rfl rfl) (bytes_Buffer_Len_sim _ _ _ hr22 : Go.Sx.Fn Tryd.prog 13 [(Vl (.pointer (some q11)))] [⟨.pointer (some q11), [(Sl (Ki .u8) y3.1), (Vl (.int .i64 y3.2.1)), (Vl (.int .i8 y3.2.2.1))], 50, none⟩] (fun x : Unit => (Vl (.int .i64 r22.2.2.2))) (fun x => [⟨.pointer (some q11), [(Sl (Ki .u8) r22.1), (Vl (.int .i64 r22.2.1)), (Vl (.int .i8 r22.2.2.1))], 50, none⟩])) [0] [1, 2, 3] (by decide) (pick_cons rfl pick_nil) (pick_cons rfl (pick_cons rfl (pick_cons rfl pick_nil))) (Hn := fun x : Unit => [⟨.pointer (some q11), [(Sl (Ki .u8) r22.1), (Vl (.int .i64 r22.2.1)), (Vl (.int .i8 r22.2.2.1))], 50, none⟩, ⟨.pointer (some q6), [(Vl (.bool false))], 4, none⟩, ⟨.pointer (some q5), [(Vl (.int .i64 0))], 3, none⟩, ⟨.pointer (some q4), [(Vl (.int .u32 y3.2.2.2))], 23, none⟩]) (fun _ => rfl) rfl rfl) (pick_cons rfl pick_nil) rfl (bl_cons (m := 3) (by decide) rfl rfl bl_nil) (wt_none' rfl) rfl fun ⟨⟩ => ?_
        exact tx_pick' [3, 2, 1] (sub_cons rfl (sub_cons rfl (sub_cons rfl (sub_cons rfl (sub_cons rfl (sub_cons rfl sub_nil)))))) (by decide) (pick_cons rfl (pick_cons rfl (pick_cons rfl pick_nil))) (hN2 ())
      · refine nx_rd (last := #[true, true, false, true, false, false, false, false]) rfl (rd_move' rfl) rfl rfl (wt_none' rfl) rfl ?_
        exact tx_pick' [3, 2, 1, 0] (sub_cons rfl (sub_cons rfl (sub_cons rfl (sub_cons rfl (sub_cons rfl (sub_cons rfl sub_nil)))))) (by decide) (pick_cons rfl (pick_cons rfl (pick_cons rfl (pick_cons rfl pick_nil)))) (hN3 ())
    · dsimp only at hp
      refine sx_ox' (ox_callg' (ent_fn' Tryd.func11 isn11 rfl rfl) (wkbcommon_ReadUInt32_v2_sim _ _ _ hr17 : Go.Sx.Fn Tryd.prog 11 [(If 32 (Vl (.pointer (some q11)))), (If 61 (Ag []))] [⟨.pointer (some q11), [(Sl (Ki .u8) r11.1), (Vl (.int .i64 r11.2.1)), (Vl (.int .i8 r11.2.2))], 50, none⟩] (fun x : Unit => (Tu [(Vl (.int .u32 y3.2.2.2)), (Vl .nilIface)])) (fun x => [⟨.pointer (some q11), [(Sl (Ki .u8) y3.1), (Vl (.int .i64 y3.2.1)), (Vl (.int .i8 y3.2.2.1))], 50, none⟩])) [0] [1, 2, 3] (by decide) (pick_cons rfl pick_nil) (pick_cons rfl (pick_cons rfl (pick_cons rfl pick_nil))) (Hn := fun x : Unit => [⟨.pointer (some q11), [(Sl (Ki .u8) y3.1), (Vl (.int .i64 y3.2.1)), (Vl (.int .i8 y3.2.2.1))], 50, none⟩, ⟨.pointer (some q6), [(Vl (.bool false))], 4, none⟩, ⟨.pointer (some q5), [(Vl (.int .i64 0))], 3, none⟩, ⟨.pointer (some q4), [(Vl (.int .u32 0))], 23, none⟩]) (fun _ => rfl) rfl rfl) (wt_none' rfl) fun ⟨⟩ => ?_
      refine sx_rd' (rd_move' rfl) rfl rfl (wt_none' rfl) ?_
      refine sx_rd' (rd_extract' rfl rfl) rfl rfl (wt_none' rfl) ?_
      refine sx_rd' (rd_extract' rfl rfl) rfl rfl (wt_none' rfl) ?_
      refine sx_ox' (ox_store' (i := 3) (o := 0) rfl rfl (lv_vl rfl rfl) ⟨rfl, rfl, rfl, rfl⟩ rfl info23 rfl (H' := [⟨.pointer (some q11), [(Sl (Ki .u8) y3.1), (Vl (.int .i64 y3.2.1)), (Vl (.int .i8 y3.2.2.1))], 50, none⟩, ⟨.pointer (some q6), [(Vl (.bool false))], 4, none⟩, ⟨.pointer (some q5), [(Vl (.int .i64 0))], 3, none⟩, ⟨.pointer (some q4), [(Vl (.int .u32 y3.2.2.2))], 23, none⟩]) rfl) (wt_none' rfl) fun _ => ?_
      refine sx_rd' (rd_assign' rfl) rfl rfl (wt_none' rfl) ?_
      refine sx_nil' ?_
      show TX E K4 _
      refine tx_k' hK4 ?_
      refine cx_seq' fun K5 hK5 => ?_
      refine cx_plana' [q4.block] [(2, 1), (5, 2), (6, 1), (7, 1)] [(0, 2), (1, 1)] 6 #[true, true, false, false, false, false, false, false] mixed (by kernel_rfl) ?_
      refine px_rb' rfl (rb_load' (i := 3) (o := 0) rfl ⟨rfl, rfl, rfl, rfl⟩ rfl flat23 (by simp)) rfl rfl (wt_none' rfl) ?_
      refine px_rd' rfl (rd_move' rfl) rfl rfl (wt_none' rfl) ?_
      refine px_nil' ?_
      show AX E _ _ _ _ _ _ _ _
      obtain ⟨r22, hr22, hp⟩ := bind_some hp
      refine ax_node (f' := 0) #[true, true, true, true, true, true, true, true] (fun (v11 : Unit) => (⟨25, [⟨.fn (.func 9) ⟨[.pointer (some q4), .pointer (some q5), .pointer (some q6)]⟩, #[]⟩], [(4, (Vl (.pointer (some q4)))), (5, (Vl (.pointer (some q5)))), (6, (Vl (.pointer (some q6))))], [⟨.pointer (some q4), [(Vl (.int .u32 y3.2.2.2))], 23, none⟩, ⟨.pointer (some q5), [(Vl (.int .i64 r22.2.2.2))], 3, none⟩, ⟨.pointer (some q6), [(Vl (.bool true))], 4, none⟩]⟩ : St)) ?_ ?_
      · rintro ⟨⟩
        refine ax_nil (by kernel_rfl) ?_
        show TX E K5 _
        refine tx_k' hK5 ?_
        refine cx_retc' ?_
        replace hp := Option.some.inj hp
        subst hp
        refine tx_leave' (.inl rfl) rfl idle9 rfl Tryd.func9 isn9 rfl ?_
        refine tx_pick' (L' := [(4, (Vl (.pointer (some q4)))), (5, (Vl (.pointer (some q5)))), (6, (Vl (.pointer (some q6))))]) (H' := [⟨.pointer (some q4), [(Vl (.int .u32 y3.2.2.2))], 23, none⟩, ⟨.pointer (some q5), [(Vl (.int .i64 r22.2.2.2))], 3, none⟩, ⟨.pointer (some q6), [(Vl (.bool true))], 4, none⟩]) [0, 1, 2] (sub_cons rfl (sub_cons rfl (sub_cons rfl sub_nil))) (by decide) (pick_cons rfl (pick_cons rfl (pick_cons rfl pick_nil))) ?_
        exact tx_ret3' Tryd.results5 rfl () (rv_cell' (i := 0) (o := 0) rfl ⟨rfl, rfl, rfl, rfl⟩ rfl flat23) (rv_cell' (i := 1) (o := 0) rfl ⟨rfl, rfl, rfl, rfl⟩ rfl flat3) (rv_cell' (i := 2) (o := 0) rfl ⟨rfl, rfl, rfl, rfl⟩ rfl flat4) rfl (List.nil_sublist _)
      intro hN12
      refine ax_node (f' := 1) #[true, true, true, true, true, true, true, false] (fun (v10 : Unit) => (⟨25, [⟨.fn (.func 9) ⟨[.pointer (some q4), .pointer (some q5), .pointer (some q6)]⟩, #[]⟩], [(4, (Vl (.pointer (some q4)))), (5, (Vl (.pointer (some q5)))), (6, (Vl (.pointer (some q6)))), (24, (Vl (.bool true)))], [⟨.pointer (some q4), [(Vl (.int .u32 y3.2.2.2))], 23, none⟩, ⟨.pointer (some q5), [(Vl (.int .i64 r22.2.2.2))], 3, none⟩, ⟨.pointer (some q6), [(Vl (.bool false))], 4, none⟩]⟩ : St)) ?_ ?_
      · rintro ⟨⟩
        refine ax_all (i := 7) (is := []) (by kernel_rfl) (all_cons ?_ all_nil)
        · refine nx_oxv (last := #[true, true, true, true, true, true, true, true]) rfl (oxv_store (i := 2) (o := 0) rfl rfl (lv_vl rfl rfl) ⟨rfl, rfl, rfl, rfl⟩ rfl info4 rfl (H' := [⟨.pointer (some q4), [(Vl (.int .u32 y3.2.2.2))], 23, none⟩, ⟨.pointer (some q5), [(Vl (.int .i64 r22.2.2.2))], 3, none⟩, ⟨.pointer (some q6), [(Vl (.bool true))], 4, none⟩]) rfl) rfl rfl (bo_cons (m := 0) (by decide) rfl rfl bo_nil) (wt_none' rfl) rfl fun _ => ?_
          exact tx_pick' [0, 1, 2] (sub_cons rfl (sub_cons rfl (sub_cons rfl sub_nil))) (by decide) (pick_cons rfl (pick_cons rfl (pick_cons rfl pick_nil))) (hN12 ())
      intro hN11
      refine ax_node (f' := 2) #[true, true, true, true, true, true, false, false] (fun (v8 : Unit) => (⟨25, [⟨.fn (.func 9) ⟨[.pointer (some q4), .pointer (some q5), .pointer (some q6)]⟩, #[]⟩], [(4, (Vl (.pointer (some q4)))), (5, (Vl (.pointer (some q5)))), (6, (Vl (.pointer (some q6)))), (22, (Vl (.int .i64 r22.2.2.2))), (24, (Vl (.bool true)))], [⟨.pointer (some q4), [(Vl (.int .u32 y3.2.2.2))], 23, none⟩, ⟨.pointer (some q5), [(Vl (.int .i64 0))], 3, none⟩, ⟨.pointer (some q6), [(Vl (.bool false))], 4, none⟩]⟩ : St)) ?_ ?_
      · rintro ⟨⟩
        refine ax_all (i := 6) (is := []) (by kernel_rfl) (all_cons ?_ all_nil)
        · refine nx_oxv (last := #[true, true, true, true, true, true, true, false]) rfl (oxv_store (i := 1) (o := 0) rfl rfl (lv_vl rfl rfl) ⟨rfl, rfl, rfl, rfl⟩ rfl info3 rfl (H' := [⟨.pointer (some q4), [(Vl (.int .u32 y3.2.2.2))], 23, none⟩, ⟨.pointer (some q5), [(Vl (.int .i64 r22.2.2.2))], 3, none⟩, ⟨.pointer (some q6), [(Vl (.bool false))], 4, none⟩]) rfl) rfl rfl (bo_cons (m := 0) (by decide) rfl rfl bo_nil) (wt_none' rfl) rfl fun _ => ?_
          exact tx_pick' [0, 1, 2] (sub_cons rfl (sub_cons rfl (sub_cons rfl (sub_cons rfl sub_nil)))) (by decide) (pick_cons rfl (pick_cons rfl (pick_cons rfl pick_nil))) (hN11 ())
      intro hN9
      refine ax_node (f' := 2) #[true, true, true, true, false, true, true, false] (fun (v9 : Unit) => (⟨25, [⟨.fn (.func 9) ⟨[.pointer (some q4), .pointer (some q5), .pointer (some q6)]⟩, #[]⟩], [(4, (Vl (.pointer (some q4)))), (5, (Vl (.pointer (some q5)))), (6, (Vl (.pointer (some q6)))), (23, (Vl .nilIface))], [⟨.pointer (some q4), [(Vl (.int .u32 y3.2.2.2))], 23, none⟩, ⟨.pointer (some q5), [(Vl (.int .i64 r22.2.2.2))], 3, none⟩, ⟨.pointer (some q6), [(Vl (.bool false))], 4, none⟩]⟩ : St)) ?_ ?_
      · rintro ⟨⟩
        refine ax_rd (ix := 4) (last := #[true, true, true, true, true, true, true, false]) (by kernel_rfl) rfl (rd_binf' rfl rfl (bf_vl (fun _ => by kernel_rfl) nil_eql35_nilif)) rfl rfl (wt_none' rfl) rfl ?_
        exact tx_pick' [0, 1, 2] (sub_cons rfl (sub_cons rfl (sub_cons rfl (sub_cons rfl sub_nil)))) (by decide) (pick_cons rfl (pick_cons rfl (pick_cons rfl pick_nil))) (hN11 ())
      intro hN10
      refine ax_node (f' := 3) #[true, true, true, true, true, false, false, false] (fun (v6 : Unit) => (⟨25, [⟨.fn (.func 9) ⟨[.pointer (some q4), .pointer (some q5), .pointer (some q6)]⟩, #[]⟩], [(4, (Vl (.pointer (some q4)))), (5, (Vl (.pointer (some q5)))), (6, (Vl (.pointer (some q6)))), (20, (Vl (.int .u32 y3.2.2.2))), (22, (Vl (.int .i64 r22.2.2.2))), (24, (Vl (.bool true)))], [⟨.pointer (some q4), [(Vl (.int .u32 y3.2.2.2))], 23, none⟩, ⟨.pointer (some q5), [(Vl (.int .i64 0))], 3, none⟩, ⟨.pointer (some q6), [(Vl (.bool false))], 4, none⟩]⟩ : St)) ?_ ?_
      · rintro ⟨⟩
        refine ax_all (i := 5) (is := []) (by kernel_rfl) (all_cons ?_ all_nil)
        · refine nx_ox (last := #[true, true, true, true, true, true, false, false]) rfl (ox_store' (i := 0) (o := 0) rfl rfl (lv_vl rfl rfl) ⟨rfl, rfl, rfl, rfl⟩ rfl info23 rfl (H' := [⟨.pointer (some q4), [(Vl (.int .u32 y3.2.2.2))], 23, none⟩, ⟨.pointer (some q5), [(Vl (.int .i64 0))], 3, none⟩, ⟨.pointer (some q6), [(Vl (.bool false))], 4, none⟩]) rfl) rfl (bs_cons (m := 0) rfl rfl rfl bs_nil) (wt_none' rfl) rfl fun _ => ?_
          exact tx_pick' [0, 1, 2] (sub_cons rfl (sub_cons rfl (sub_cons rfl (sub_cons rfl (sub_cons rfl sub_nil))))) (by decide) (pick_cons rfl (pick_cons rfl (pick_cons rfl pick_nil))) (hN9 ())
      intro hN7
      refine ax_node (f' := 3) #[true, true, true, true, false, true, false, false] (fun (v7 : Unit) => (⟨25, [⟨.fn (.func 9) ⟨[.pointer (some q4), .pointer (some q5), .pointer (some q6)]⟩, #[]⟩], [(4, (Vl (.pointer (some q4)))), (5, (Vl (.pointer (some q5)))), (6, (Vl (.pointer (some q6)))), (22, (Vl (.int .i64 r22.2.2.2))), (23, (Vl .nilIface))], [⟨.pointer (some q4), [(Vl (.int .u32 y3.2.2.2))], 23, none⟩, ⟨.pointer (some q5), [(Vl (.int .i64 0))], 3, none⟩, ⟨.pointer (some q6), [(Vl (.bool false))], 4, none⟩]⟩ : St)) ?_ ?_
      · rintro ⟨⟩
        refine ax_all (i := 4) (is := [6]) (by kernel_rfl) (all_cons ?_ (all_cons ?_ all_nil))
        · refine nx_rd (last := #[true, true, true, true, true, true, false, false]) rfl (rd_binf' rfl rfl (bf_vl (fun _ => by kernel_rfl) nil_eql35_nilif)) rfl rfl (wt_none' rfl) rfl ?_
          exact tx_pick' [0, 1, 2] (sub_cons rfl (sub_cons rfl (sub_cons rfl (sub_cons rfl (sub_cons rfl sub_nil))))) (by decide) (pick_cons rfl (pick_cons rfl (pick_cons rfl pick_nil))) (hN9 ())
        · refine nx_oxv (last := #[true, true, true, true, false, true, true, false]) rfl (oxv_store (i := 1) (o := 0) rfl rfl (lv_vl rfl rfl) ⟨rfl, rfl, rfl, rfl⟩ rfl info3 rfl (H' := [⟨.pointer (some q4), [(Vl (.int .u32 y3.2.2.2))], 23, none⟩, ⟨.pointer (some q5), [(Vl (.int .i64 r22.2.2.2))], 3, none⟩, ⟨.pointer (some q6), [(Vl (.bool false))], 4, none⟩]) rfl) rfl rfl (bo_cons (m := 0) (by decide) rfl rfl bo_nil) (wt_none' rfl) rfl fun _ => ?_
          exact tx_pick' [0, 1, 2] (sub_cons rfl (sub_cons rfl (sub_cons rfl (sub_cons rfl sub_nil)))) (by decide) (pick_cons rfl (pick_cons rfl (pick_cons rfl pick_nil))) (hN10 ())
      intro hN8
      refine ax_node (f' := 4) #[true, true, true, true, false, false, false, false] (fun (v3 : Unit) => (⟨25, [⟨.fn (.func 9) ⟨[.pointer (some q4), .pointer (some q5), .pointer (some q6)]⟩, #[]⟩], [(4, (Vl (.pointer (some q4)))), (5, (Vl (.pointer (some q5)))), (6, (Vl (.pointer (some q6)))), (20, (Vl (.int .u32 y3.2.2.2))), (22, (Vl (.int .i64 r22.2.2.2))), (23, (Vl .nilIface))], [⟨.pointer (some q4), [(Vl (.int .u32 y3.2.2.2))], 23, none⟩, ⟨.pointer (some q5), [(Vl (.int .i64 0))], 3, none⟩, ⟨.pointer (some q6), [(Vl (.bool false))], 4, none⟩]⟩ : St)) ?_ ?_
      · rintro ⟨⟩
        refine ax_all (i := 4) (is := [5]) (by kernel_rfl) (all_cons ?_ (all_cons ?_ all_nil))
        · refine nx_rd (last := #[true, true, true, true, true, false, false, false]) rfl (rd_binf' rfl rfl (bf_vl (fun _ => by kernel_rfl) nil_eql35_nilif)) rfl rfl (wt_none' rfl) rfl ?_
          exact tx_pick' [0, 1, 2] (sub_cons rfl (sub_cons rfl (sub_cons rfl (sub_cons rfl (sub_cons rfl (sub_cons rfl sub_nil)))))) (by decide) (pick_cons rfl (pick_cons rfl (pick_cons rfl pick_nil))) (hN7 ())
        · refine nx_ox (last := #[true, true, true, true, false, true, false, false]) rfl (ox_store' (i := 0) (o := 0) rfl rfl (lv_vl rfl rfl) ⟨rfl, rfl, rfl, rfl⟩ rfl info23 rfl (H' := [⟨.pointer (some q4), [(Vl (.int .u32 y3.2.2.2))], 23, none⟩, ⟨.pointer (some q5), [(Vl (.int .i64 0))], 3, none⟩, ⟨.pointer (some q6), [(Vl (.bool false))], 4, none⟩]) rfl) rfl (bs_cons (m := 0) rfl rfl rfl bs_nil) (wt_none' rfl) rfl fun _ => ?_
          exact tx_pick' [0, 1, 2] (sub_cons rfl (sub_cons rfl (sub_cons rfl (sub_cons rfl (sub_cons rfl sub_nil))))) (by decide) (pick_cons rfl (pick_cons rfl (pick_cons rfl pick_nil))) (hN8 ())
      intro hN4
      refine ax_node (f' := 4) #[true, true, true, false, false, true, false, false] (fun (v4 : Unit) => (⟨25, [⟨.fn (.func 9) ⟨[.pointer (some q4), .pointer (some q5), .pointer (some q6)]⟩, #[]⟩], [(4, (Vl (.pointer (some q4)))), (5, (Vl (.pointer (some q5)))), (6, (Vl (.pointer (some q6)))), (8, (Vl .nilIface)), (22, (Vl (.int .i64 r22.2.2.2)))], [⟨.pointer (some q4), [(Vl (.int .u32 y3.2.2.2))], 23, none⟩, ⟨.pointer (some q5), [(Vl (.int .i64 0))], 3, none⟩, ⟨.pointer (some q6), [(Vl (.bool false))], 4, none⟩]⟩ : St)) ?_ ?_
      · rintro ⟨⟩
        refine ax_rb (ix := 3) (last := #[true, true, true, true, false, true, false, false]) (by kernel_rfl) rfl (rb_move' rfl) rfl rfl (wt_none' rfl) rfl ?_
        exact tx_pick' [0, 1, 2] (sub_cons rfl (sub_cons rfl (sub_cons rfl (sub_cons rfl (sub_cons rfl sub_nil))))) (by decide) (pick_cons rfl (pick_cons rfl (pick_cons rfl pick_nil))) (hN8 ())
      intro hN5
      refine ax_node (f' := 4) #[true, true, false, true, true, false, false, false] (fun (v5 : Unit) => (⟨25, [⟨.fn (.func 9) ⟨[.pointer (some q4), .pointer (some q5), .pointer (some q6)]⟩, #[]⟩], [(4, (Vl (.pointer (some q4)))), (5, (Vl (.pointer (some q5)))), (6, (Vl (.pointer (some q6)))), (20, (Vl (.int .u32 y3.2.2.2))), (21, (Vl (.pointer (some q11)))), (24, (Vl (.bool true)))], [⟨.pointer (some q4), [(Vl (.int .u32 y3.2.2.2))], 23, none⟩, ⟨.pointer (some q5), [(Vl (.int .i64 0))], 3, none⟩, ⟨.pointer (some q6), [(Vl (.bool false))], 4, none⟩, ⟨.pointer (some q11), [(Sl (Ki .u8) y3.1), (Vl (.int .i64 y3.2.1)), (Vl (.int .i8 y3.2.2.1))], 50, none⟩]⟩ : St)) ?_ ?_
      · rintro ⟨⟩
        refine ax_all (i := 2) (is := []) (by kernel_rfl) (all_cons ?_ all_nil)
        · refine nx_oxb (is := [3]) (last := #[true, true, true, true, true, false, false, false]) rfl (oxb_callg (ent_fn' Tryd.func13 isn13 rfl rfl) (bytes_Buffer_Len_sim _ _ _ hr22 : Go.Sx.Fn Tryd.prog 13 [(Vl (.pointer (some q11)))] [⟨.pointer (some q11), [(Sl (Ki .u8) y3.1), (Vl (.int .i64 y3.2.1)), (Vl (.int .i8 y3.2.2.1))], 50, none⟩] (fun x : Unit => (Vl (.int .i64 r22.2.2.2))) (fun x => [⟨.pointer (some q11), [(Sl (Ki .u8) r22.1), (Vl (.int .i64 r22.2.1)), (Vl (.int .i8 r22.2.2.1))], 50, none⟩])) [3] [0, 1, 2] (by decide) (pick_cons rfl pick_nil) (pick_cons rfl (pick_cons rfl (pick_cons rfl pick_nil))) (Hn := fun x : Unit => [⟨.pointer (some q11), [(Sl (Ki .u8) r22.1), (Vl (.int .i64 r22.2.1)), (Vl (.int .i8 r22.2.2.1))], 50, none⟩, ⟨.pointer (some q4), [(Vl (.int .u32 y3.2.2.2))], 23, none⟩, ⟨.pointer (some q5), [(Vl (.int .i64 0))], 3, none⟩, ⟨.pointer (some q6), [(Vl (.bool false))], 4, none⟩]) (fun _ => rfl) rfl rfl) (pick_cons rfl pick_nil) rfl (bl_cons (m := 0) (by decide) rfl rfl bl_nil) (wt_none' rfl) rfl fun ⟨⟩ => ?_
          exact tx_pick' [1, 2, 3] (sub_cons rfl (sub_cons rfl (sub_cons rfl (sub_cons rfl (sub_cons rfl (sub_cons rfl sub_nil)))))) (by decide) (pick_cons rfl (pick_cons rfl (pick_cons rfl pick_nil))) (hN7 ())
      intro hN6
      refine ax_node (f' := 5) #[true, true, true, false, false, false, false, false] (fun (v1 : Unit) => (⟨25, [⟨.fn (.func 9) ⟨[.pointer (some q4), .pointer (some q5), .pointer (some q6)]⟩, #[]⟩], [(4, (Vl (.pointer (some q4)))), (5, (Vl (.pointer (some q5)))), (6, (Vl (.pointer (some q6)))), (8, (Vl .nilIface)), (20, (Vl (.int .u32 y3.2.2.2))), (22, (Vl (.int .i64 r22.2.2.2)))], [⟨.pointer (some q4), [(Vl (.int .u32 y3.2.2.2))], 23, none⟩, ⟨.pointer (some q5), [(Vl (.int .i64 0))], 3, none⟩, ⟨.pointer (some q6), [(Vl (.bool false))], 4, none⟩]⟩ : St)) ?_ ?_
      · rintro ⟨⟩
        refine ax_all (i := 3) (is := [5]) (by kernel_rfl) (all_cons ?_ (all_cons ?_ all_nil))
        · refine nx_rd (last := #[true, true, true, true, false, false, false, false]) rfl (rd_move' rfl) rfl rfl (wt_none' rfl) rfl ?_
          exact tx_pick' [0, 1, 2] (sub_cons rfl (sub_cons rfl (sub_cons rfl (sub_cons rfl (sub_cons rfl (sub_cons rfl sub_nil)))))) (by decide) (pick_cons rfl (pick_cons rfl (pick_cons rfl pick_nil))) (hN4 ())
        · refine nx_ox (last := #[true, true, true, false, false, true, false, false]) rfl (ox_store' (i := 0) (o := 0) rfl rfl (lv_vl rfl rfl) ⟨rfl, rfl, rfl, rfl⟩ rfl info23 rfl (H' := [⟨.pointer (some q4), [(Vl (.int .u32 y3.2.2.2))], 23, none⟩, ⟨.pointer (some q5), [(Vl (.int .i64 0))], 3, none⟩, ⟨.pointer (some q6), [(Vl (.bool false))], 4, none⟩]) rfl) rfl (bs_cons (m := 0) rfl rfl rfl bs_nil) (wt_none' rfl) rfl fun _ => ?_
          exact tx_pick' [0, 1, 2] (sub_cons rfl (sub_cons rfl (sub_cons rfl (sub_cons rfl (sub_cons rfl sub_nil))))) (by decide) (pick_cons rfl (pick_cons rfl (pick_cons rfl pick_nil))) (hN5 ())
      intro hN2
      refine ax_node (f' := 5) #[true, true, false, true, false, false, false, false] (fun (v2 : Unit) => (⟨25, [⟨.fn (.func 9) ⟨[.pointer (some q4), .pointer (some q5), .pointer (some q6)]⟩, #[]⟩], [(4, (Vl (.pointer (some q4)))), (5, (Vl (.pointer (some q5)))), (6, (Vl (.pointer (some q6)))), (20, (Vl (.int .u32 y3.2.2.2))), (21, (Vl (.pointer (some q11)))), (23, (Vl .nilIface))], [⟨.pointer (some q4), [(Vl (.int .u32 y3.2.2.2))], 23, none⟩, ⟨.pointer (some q5), [(Vl (.int .i64 0))], 3, none⟩, ⟨.pointer (some q6), [(Vl (.bool false))], 4, none⟩, ⟨.pointer (some q11), [(Sl (Ki .u8) y3.1), (Vl (.int .i64 y3.2.1)), (Vl (.int .i8 y3.2.2.1))], 50, none⟩]⟩ : St)) ?_ ?_
      · rintro ⟨⟩
        refine ax_all (i := 2) (is := [4]) (by kernel_rfl) (all_cons ?_ (all_cons ?_ all_nil))
        · refine nx_oxb (is := [3]) (last := #[true, true, true, true, false, false, false, false]) rfl (oxb_callg (ent_fn' Tryd.func13 isn13 rfl rfl) (bytes_Buffer_Len_sim _ _ _ hr22 : Go.Sx.Fn Tryd.prog 13 [(Vl (.pointer (some q11)))] [⟨.pointer (some q11), [(Sl (Ki .u8) y3.1), (Vl (.int .i64 y3.2.1)), (Vl (.int .i8 y3.2.2.1))], 50, none⟩] (fun x : Unit => (Vl (.int .i64 r22.2.2.2))) (fun x => [⟨.pointer (some q11), [(Sl (Ki .u8) r22.1), (Vl (.int .i64 r22.2.1)), (Vl (.int .i8 r22.2.2.1))], 50, none⟩])) [3] [0, 1, 2] (by decide) (pick_cons rfl pick_nil) (pick_cons rfl (pick_cons rfl (pick_cons rfl pick_nil))) (Hn := fun x : Unit => [⟨.pointer (some q11), [(Sl (Ki .u8) r22.1), (Vl (.int .i64 r22.2.1)), (Vl (.int .i8 r22.2.2.1))], 50, none⟩, ⟨.pointer (some q4), [(Vl (.int .u32 y3.2.2.2))], 23, none⟩, ⟨.pointer (some q5), [(Vl (.int .i64 0))], 3, none⟩, ⟨.pointer (some q6), [(Vl (.bool false))], 4, none⟩]) (fun _ => rfl) rfl rfl) (pick_cons rfl pick_nil) rfl (bl_cons (m := 0) (by decide) rfl rfl bl_nil) (wt_none' rfl) rfl fun ⟨⟩ => ?_
          exact tx_pick' [1, 2, 3] (sub_cons rfl (sub_cons rfl (sub_cons rfl (sub_cons rfl (sub_cons rfl (sub_cons rfl sub_nil)))))) (by decide) (pick_cons rfl (pick_cons rfl (pick_cons rfl pick_nil))) (hN4 ())
        · refine nx_rd (last := #[true, true, false, true, true, false, false, false]) rfl (rd_binf' rfl rfl (bf_vl (fun _ => by kernel_rfl) nil_eql35_nilif)) rfl rfl (wt_none' rfl) rfl ?_
          exact tx_pick' [0, 1, 2, 3] (sub_cons rfl (sub_cons rfl (sub_cons rfl (sub_cons rfl (sub_cons rfl (sub_cons rfl sub_nil)))))) (by decide) (pick_cons rfl (pick_cons rfl (pick_cons rfl (pick_cons rfl pick_nil)))) (hN6 ())
      intro hN3
      refine ax_all (i := 2) (is := [3]) (by kernel_rfl) (all_cons ?_ (all_cons ?_ all_nil))
      · refine nx_oxb (is := [0]) (last := #[true, true, true, false, false, false, false, false]) rfl (oxb_callg (ent_fn' Tryd.func13 isn13 rfl rfl) (bytes_Buffer_Len_sim _ _ _ hr22 : Go.Sx.Fn Tryd.prog 13 [(Vl (.pointer (some q11)))] [⟨.pointer (some q11), [(Sl (Ki .u8) y3.1), (Vl (.int .i64 y3.2.1)), (Vl (.int .i8 y3.2.2.1))], 50, none⟩] (fun x : Unit => (Vl (.int .i64 r22.2.2.2))) (fun x => [⟨.pointer (some q11), [(Sl (Ki .u8) r22.1), (Vl (.int .i64 r22.2.1)), (Vl (.int .i8 r22.2.2.1))], 50, none⟩])) [0] [1, 2, 3] (by decide) (pick_cons rfl pick_nil) (pick_cons rfl (pick_cons rfl (pick_cons rfl pick_nil))) (Hn := fun x : Unit => [⟨.pointer (some q11), [(Sl (Ki .u8) r22.1), (Vl (.int .i64 r22.2.1)), (Vl (.int .i8 r22.2.2.1))], 50, none⟩, ⟨.pointer (some q6), [(Vl (.bool false))], 4, none⟩, ⟨.pointer (some q5), [(Vl (.int .i64 0))], 3, none⟩, ⟨.pointer (some q4), [(Vl (.int .u32 y3.2.2.2))], 23, none⟩]) (fun _ => rfl) rfl rfl) (pick_cons rfl pick_nil) rfl (bl_cons (m := 3) (by decide) rfl rfl bl_nil) (wt_none' rfl) rfl fun ⟨⟩ => ?_
        exact tx_pick' [3, 2, 1] (sub_cons rfl (sub_cons rfl (sub_cons rfl (sub_cons rfl (sub_cons rfl (sub_cons rfl sub_nil)))))) (by decide) (pick_cons rfl (pick_cons rfl (pick_cons rfl pick_nil))) (hN2 ())
      · refine nx_rd (last := #[true, true, false, true, false, false, false, false]) rfl (rd_move' rfl) rfl rfl (wt_none' rfl) rfl ?_
        exact tx_pick' [3, 2, 1, 0] (sub_cons rfl (sub_cons rfl (sub_cons rfl (sub_cons rfl (sub_cons rfl (sub_cons rfl sub_nil)))))) (by decide) (pick_cons rfl (pick_cons rfl (pick_cons rfl (pick_cons rfl pick_nil)))) (hN3 ())
    · dsimp only at hp
      refine sx_ox' (ox_callg' (ent_fn' Tryd.func11 isn11 rfl rfl) (wkbcommon_ReadUInt32_v2_sim _ _ _ hr17 : Go.Sx.Fn Tryd.prog 11 [(If 32 (Vl (.pointer (some q11)))), (If 61 (Ag []))] [⟨.pointer (some q11), [(Sl (Ki .u8) r11.1), (Vl (.int .i64 r11.2.1)), (Vl (.int .i8 r11.2.2))], 50, none⟩] (fun x : Unit => (Tu [(Vl (.int .u32 y3.2.2.2)), (If 67 (Vl (.pointer (some (Ga.a 4)))))])) (fun x => [⟨.pointer (some q11), [(Sl (Ki .u8) y3.1), (Vl (.int .i64 y3.2.1)), (Vl (.int .i8 y3.2.2.1))], 50, none⟩])) [0] [1, 2, 3] (by decide) (pick_cons rfl pick_nil) (pick_cons rfl (pick_cons rfl (pick_cons rfl pick_nil))) (Hn := fun x : Unit => [⟨.pointer (some q11), [(Sl (Ki .u8) y3.1), (Vl (.int .i64 y3.2.1)), (Vl (.int .i8 y3.2.2.1))], 50, none⟩, ⟨.pointer (some q6), [(Vl (.bool false))], 4, none⟩, ⟨.pointer (some q5), [(Vl (.int .i64 0))], 3, none⟩, ⟨.pointer (some q4), [(Vl (.int .u32 0))], 23, none⟩]) (fun _ => rfl) rfl rfl) (wt_none' rfl) fun ⟨⟩ => ?_
      refine sx_rd' (rd_move' rfl) rfl rfl (wt_none' rfl) ?_
      refine sx_rd' (rd_extract' rfl rfl) rfl rfl (wt_none' rfl) ?_
      refine sx_rd' (rd_extract' rfl rfl) rfl rfl (wt_none' rfl) ?_
      refine sx_ox' (ox_store' (i := 3) (o := 0) rfl rfl (lv_vl rfl rfl) ⟨rfl, rfl, rfl, rfl⟩ rfl info23 rfl (H' := [⟨.pointer (some q11), [(Sl (Ki .u8) y3.1), (Vl (.int .i64 y3.2.1)), (Vl (.int .i8 y3.2.2.1))], 50, none⟩, ⟨.pointer (some q6), [(Vl (.bool false))], 4, none⟩, ⟨.pointer (some q5), [(Vl (.int .i64 0))], 3, none⟩, ⟨.pointer (some q4), [(Vl (.int .u32 y3.2.2.2))], 23, none⟩]) rfl) (wt_none' rfl) fun _ => ?_
      refine sx_rd' (rd_assign' rfl) rfl rfl (wt_none' rfl) ?_
      refine sx_nil' ?_
      show TX E K4 _
      refine tx_k' hK4 ?_
      refine cx_seq' fun K5 hK5 => ?_
      refine cx_plana' [q4.block] [(2, 1), (5, 2), (6, 1), (7, 1)] [(0, 2), (1, 1)] 6 #[true, true, false, false, false, false, false, false] mixed (by kernel_rfl) ?_
      refine px_rb' rfl (rb_load' (i := 3) (o := 0) rfl ⟨rfl, rfl, rfl, rfl⟩ rfl flat23 (by simp)) rfl rfl (wt_none' rfl) ?_
      refine px_rd' rfl (rd_move' rfl) rfl rfl (wt_none' rfl) ?_
      refine px_nil' ?_
      show AX E _ _ _ _ _ _ _ _
      obtain ⟨r22, hr22, hp⟩ := bind_some hp
      refine ax_node (f' := 0) #[true, true, true, true, true, true, true, true] (fun (v11 : Unit) => (⟨25, [⟨.fn (.func 9) ⟨[.pointer (some q4), .pointer (some q5), .pointer (some q6)]⟩, #[]⟩], [(4, (Vl (.pointer (some q4)))), (5, (Vl (.pointer (some q5)))), (6, (Vl (.pointer (some q6))))], [⟨.pointer (some q4), [(Vl (.int .u32 y3.2.2.2))], 23, none⟩, ⟨.pointer (some q5), [(Vl (.int .i64 r22.2.2.2))], 3, none⟩, ⟨.pointer (some q6), [(Vl (.bool false))], 4, none⟩]⟩ : St)) ?_ ?_
      · rintro ⟨⟩
        refine ax_nil (by kernel_rfl) ?_
        show TX E K5 _
        refine tx_k' hK5 ?_
        refine cx_retc' ?_
        replace hp := Option.some.inj hp
        subst hp
        refine tx_leave' (.inl rfl) rfl idle9 rfl Tryd.func9 isn9 rfl ?_
        refine tx_pick' (L' := [(4, (Vl (.pointer (some q4)))), (5, (Vl (.pointer (some q5)))), (6, (Vl (.pointer (some q6))))]) (H' := [⟨.pointer (some q4), [(Vl (.int .u32 y3.2.2.2))], 23, none⟩, ⟨.pointer (some q5), [(Vl (.int .i64 r22.2.2.2))], 3, none⟩, ⟨.pointer (some q6), [(Vl (.bool false))], 4, none⟩]) [0, 1, 2] (sub_cons rfl (sub_cons rfl (sub_cons rfl sub_nil))) (by decide) (pick_cons rfl (pick_cons rfl (pick_cons rfl pick_nil))) ?_
        exact tx_ret3' Tryd.results5 rfl () (rv_cell' (i := 0) (o := 0) rfl ⟨rfl, rfl, rfl, rfl⟩ rfl flat23) (rv_cell' (i := 1) (o := 0) rfl ⟨rfl, rfl, rfl, rfl⟩ rfl flat3) (rv_cell' (i := 2) (o := 0) rfl ⟨rfl, rfl, rfl, rfl⟩ rfl flat4) rfl (List.nil_sublist _)
      intro hN12
      refine ax_node (f' := 1) #[true, true, true, true, true, true, true, false] (fun (v10 : Unit) => (⟨25, [⟨.fn (.func 9) ⟨[.pointer (some q4), .pointer (some q5), .pointer (some q6)]⟩, #[]⟩], [(4, (Vl (.pointer (some q4)))), (5, (Vl (.pointer (some q5)))), (6, (Vl (.pointer (some q6)))), (24, (Vl (.bool false)))], [⟨.pointer (some q4), [(Vl (.int .u32 y3.2.2.2))], 23, none⟩, ⟨.pointer (some q5), [(Vl (.int .i64 r22.2.2.2))], 3, none⟩, ⟨.pointer (some q6), [(Vl (.bool false))], 4, none⟩]⟩ : St)) ?_ ?_
      · rintro ⟨⟩
        refine ax_all (i := 7) (is := []) (by kernel_rfl) (all_cons ?_ all_nil)
        · refine nx_oxv (last := #[true, true, true, true, true, true, true, true]) rfl (oxv_store (i := 2) (o := 0) rfl rfl (lv_vl rfl rfl) ⟨rfl, rfl, rfl, rfl⟩ rfl info4 rfl (H' := [⟨.pointer (some q4), [(Vl (.int .u32 y3.2.2.2))], 23, none⟩, ⟨.pointer (some q5), [(Vl (.int .i64 r22.2.2.2))], 3, none⟩, ⟨.pointer (some q6), [(Vl (.bool false))], 4, none⟩]) rfl) rfl rfl (bo_cons (m := 0) (by decide) rfl rfl bo_nil) (wt_none' rfl) rfl fun _ => ?_
          exact tx_pick' [0, 1, 2] (sub_cons rfl (sub_cons rfl (sub_cons rfl sub_nil))) (by decide) (pick_cons rfl (pick_cons rfl (pick_cons rfl pick_nil))) (hN12 ())
      intro hN11
      refine ax_node (f' := 2) #[true, true, true, true, true, true, false, false] (fun (v8 : Unit) => (⟨25, [⟨.fn (.func 9) ⟨[.pointer (some q4), .pointer (some q5), .pointer (some q6)]⟩, #[]⟩], [(4, (Vl (.pointer (some q4)))), (5, (Vl (.pointer (some q5)))), (6, (Vl (.pointer (some q6)))), (22, (Vl (.int .i64 r22.2.2.2))), (24, (Vl (.bool false)))], [⟨.pointer (some q4), [(Vl (.int .u32 y3.2.2.2))], 23, none⟩, ⟨.pointer (some q5), [(Vl (.int .i64 0))], 3, none⟩, ⟨.pointer (some q6), [(Vl (.bool false))], 4, none⟩]⟩ : St)) ?_ ?_
      · rintro ⟨⟩
        refine ax_all (i := 6) (is := []) (by kernel_rfl) (all_cons ?_ all_nil)
        · refine nx_oxv (last := #[true, true, true, true, true, true, true, false]) rfl (oxv_store (i := 1) (o := 0) rfl rfl (lv_vl rfl rfl) ⟨rfl, rfl, rfl, rfl⟩ rfl info3 rfl (H' := [⟨.pointer (some q4), [(Vl (.int .u32 y3.2.2.2))], 23, none⟩, ⟨.pointer (some q5), [(Vl (.int .i64 r22.2.2.2))], 3, none⟩, ⟨.pointer (some q6), [(Vl (.bool false))], 4, none⟩]) rfl) rfl rfl (bo_cons (m := 0) (by decide) rfl rfl bo_nil) (wt_none' rfl) rfl fun _ => ?_
          exact tx_pick' [0, 1, 2] (sub_cons rfl (sub_cons rfl (sub_cons rfl (sub_cons rfl sub_nil)))) (by decide) (pick_cons rfl (pick_cons rfl (pick_cons rfl pick_nil))) (hN11 ())
      intro hN9
      refine ax_node (f' := 2) #[true, true, true, true, false, true, true, false] (fun (v9 : Unit) => (⟨25, [⟨.fn (.func 9) ⟨[.pointer (some q4), .pointer (some q5), .pointer (some q6)]⟩, #[]⟩], [(4, (Vl (.pointer (some q4)))), (5, (Vl (.pointer (some q5)))), (6, (Vl (.pointer (some q6)))), (23, (If 67 (Vl (.pointer (some (Ga.a 4))))))], [⟨.pointer (some q4), [(Vl (.int .u32 y3.2.2.2))], 23, none⟩, ⟨.pointer (some q5), [(Vl (.int .i64 r22.2.2.2))], 3, none⟩, ⟨.pointer (some q6), [(Vl (.bool false))], 4, none⟩]⟩ : St)) ?_ ?_
      · rintro ⟨⟩
        refine ax_rd (ix := 4) (last := #[true, true, true, true, true, true, true, false]) (by kernel_rfl) rfl (rd_binf' rfl rfl (bf_if (fun _ _ => by kernel_rfl) nil_eql35_if67)) rfl rfl (wt_none' rfl) rfl ?_
        exact tx_pick' [0, 1, 2] (sub_cons rfl (sub_cons rfl (sub_cons rfl (sub_cons rfl sub_nil)))) (by decide) (pick_cons rfl (pick_cons rfl (pick_cons rfl pick_nil))) (hN11 ())
      intro hN10
      refine ax_node (f' := 3) #[true, true, true, true, true, false, false, false] (fun (v6 : Unit) => (⟨25, [⟨.fn (.func 9) ⟨[.pointer (some q4), .pointer (some q5), .pointer (some q6)]⟩, #[]⟩], [(4, (Vl (.pointer (some q4)))), (5, (Vl (.pointer (some q5)))), (6, (Vl (.pointer (some q6)))), (20, (Vl (.int .u32 y3.2.2.2))), (22, (Vl (.int .i64 r22.2.2.2))), (24, (Vl (.bool false)))], [⟨.pointer (some q4), [(Vl (.int .u32 y3.2.2.2))], 23, none⟩, ⟨.pointer (some q5), [(Vl (.int .i64 0))], 3, none⟩, ⟨.pointer (some q6), [(Vl (.bool false))], 4, none⟩]⟩ : St)) ?_ ?_
      · rintro ⟨⟩
        refine ax_all (i := 5) (is := []) (by kernel_rfl) (all_cons ?_ all_nil)
        · refine nx_ox (last := #[true, true, true, true, true, true, false, false]) rfl (ox_store' (i := 0) (o := 0) rfl rfl (lv_vl rfl rfl) ⟨rfl, rfl, rfl, rfl⟩ rfl info23 rfl (H' := [⟨.pointer (some q4), [(Vl (.int .u32 y3.2.2.2))], 23, none⟩, ⟨.pointer (some q5), [(Vl (.int .i64 0))], 3, none⟩, ⟨.pointer (some q6), [(Vl (.bool false))], 4, none⟩]) rfl) rfl (bs_cons (m := 0) rfl rfl rfl bs_nil) (wt_none' rfl) rfl fun _ => ?_
          exact tx_pick' [0, 1, 2] (sub_cons rfl (sub_cons rfl (sub_cons rfl (sub_cons rfl (sub_cons rfl sub_nil))))) (by decide) (pick_cons rfl (pick_cons rfl (pick_cons rfl pick_nil))) (hN9 ())
      intro hN7
      refine ax_node (f' := 3) #[true, true, true, true, false, true, false, false] (fun (v7 : Unit) => (⟨25, [⟨.fn (.func 9) ⟨[.pointer (some q4), .pointer (some q5), .pointer (some q6)]⟩, #[]⟩], [(4, (Vl (.pointer (some q4)))), (5, (Vl (.pointer (some q5)))), (6, (Vl (.pointer (some q6)))), (22, (Vl (.int .i64 r22.2.2.2))), (23, (If 67 (Vl (.pointer (some (Ga.a 4))))))], [⟨.pointer (some q4), [(Vl (.int .u32 y3.2.2.2))], 23, none⟩, ⟨.pointer (some q5), [(Vl (.int .i64 0))], 3, none⟩, ⟨.pointer (some q6), [(Vl (.bool false))], 4, none⟩]⟩ : St)) ?_ ?_
      · rintro ⟨⟩
        refine ax_all (i := 4) (is := [6]) (by kernel_rfl) (all_cons ?_ (all_cons ?_ all_nil))
        · refine nx_rd (last := #[true, true, true, true, true, true, false, false]) rfl (rd_binf' rfl rfl (bf_if (fun _ _ => by kernel_rfl) nil_eql35_if67)) rfl rfl (wt_none' rfl) rfl ?_
          exact tx_pick' [0, 1, 2] (sub_cons rfl (sub_cons rfl (sub_cons rfl (sub_cons rfl (sub_cons rfl sub_nil))))) (by decide) (pick_cons rfl (pick_cons rfl (pick_cons rfl pick_nil))) (hN9 ())
        · refine nx_oxv (last := #[true, true, true, true, false, true, true, false]) rfl (oxv_store (i := 1) (o := 0) rfl rfl (lv_vl rfl rfl) ⟨rfl, rfl, rfl, rfl⟩ rfl info3 rfl (H' := [⟨.pointer (some q4), [(Vl (.int .u32 y3.2.2.2))], 23, none⟩, ⟨.pointer (some q5), [(Vl (.int .i64 r22.2.2.2))], 3, none⟩, ⟨.pointer (some q6), [(Vl (.bool false))], 4, none⟩]) rfl) rfl rfl (bo_cons (m := 0) (by decide) rfl rfl bo_nil) (wt_none' rfl) rfl fun _ => ?_
          exact tx_pick' [0, 1, 2] (sub_cons rfl (sub_cons rfl (sub_cons rfl (sub_cons rfl sub_nil)))) (by decide) (pick_cons rfl (pick_cons rfl (pick_cons rfl pick_nil))) (hN10 ())
      intro hN8
      refine ax_node (f' := 4) #[true, true, true, true, false, false, false, false] (fun (v3 : Unit) => (⟨25, [⟨.fn (.func 9) ⟨[.pointer (some q4), .pointer (some q5), .pointer (some q6)]⟩, #[]⟩], [(4, (Vl (.pointer (some q4)))), (5, (Vl (.pointer (some q5)))), (6, (Vl (.pointer (some q6)))), (20, (Vl (.int .u32 y3.2.2.2))), (22, (Vl (.int .i64 r22.2.2.2))), (23, (If 67 (Vl (.pointer (some (Ga.a 4))))))], [⟨.pointer (some q4), [(Vl (.int .u32 y3.2.2.2))], 23, none⟩, ⟨.pointer (some q5), [(Vl (.int .i64 0))], 3, none⟩, ⟨.pointer (some q6), [(Vl (.bool false))], 4, none⟩]⟩ : St)) ?_ ?_
      · rintro ⟨⟩
        refine ax_all (i := 4) (is := [5]) (by kernel_rfl) (all_cons ?_ (all_cons ?_ all_nil))
        · refine nx_rd (last := #[true, true, true, true, true, false, false, false]) rfl (rd_binf' rfl rfl (bf_if (fun _ _ => by kernel_rfl) nil_eql35_if67)) rfl rfl (wt_none' rfl) rfl ?_
          exact tx_pick' [0, 1, 2] (sub_cons rfl (sub_cons rfl (sub_cons rfl (sub_cons rfl (sub_cons rfl (sub_cons rfl sub_nil)))))) (by decide) (pick_cons rfl (pick_cons rfl (pick_cons rfl pick_nil))) (hN7 ())
        · refine nx_ox (last := #[true, true, true, true, false, true, false, false]) rfl (ox_store' (i := 0) (o := 0) rfl rfl (lv_vl rfl rfl) ⟨rfl, rfl, rfl, rfl⟩ rfl info23 rfl (H' := [⟨.pointer (some q4), [(Vl (.int .u32 y3.2.2.2))], 23, none⟩, ⟨.pointer (some q5), [(Vl (.int .i64 0))], 3, none⟩, ⟨.pointer (some q6), [(Vl (.bool false))], 4, none⟩]) rfl) rfl (bs_cons (m := 0) rfl rfl rfl bs_nil) (wt_none' rfl) rfl fun _ => ?_
          exact tx_pick' [0, 1, 2] (sub_cons rfl (sub_cons rfl (sub_cons rfl (sub_cons rfl (sub_cons rfl sub_nil))))) (by decide) (pick_cons rfl (pick_cons rfl (pick_cons rfl pick_nil))) (hN8 ())
      intro hN4
      refine ax_node (f' := 4) #[true, true, true, false, false, true, false, false] (fun (v4 : Unit) => (⟨25, [⟨.fn (.func 9) ⟨[.pointer (some q4), .pointer (some q5), .pointer (some q6)]⟩, #[]⟩], [(4, (Vl (.pointer (some q4)))), (5, (Vl (.pointer (some q5)))), (6, (Vl (.pointer (some q6)))), (8, (If 67 (Vl (.pointer (some (Ga.a 4)))))), (22, (Vl (.int .i64 r22.2.2.2)))], [⟨.pointer (some q4), [(Vl (.int .u32 y3.2.2.2))], 23, none⟩, ⟨.pointer (some q5), [(Vl (.int .i64 0))], 3, none⟩, ⟨.pointer (some q6), [(Vl (.bool false))], 4, none⟩]⟩ : St)) ?_ ?_
      · rintro ⟨⟩
        refine ax_rb (ix := 3) (last := #[true, true, true, true, false, true, false, false]) (by kernel_rfl) rfl (rb_move' rfl) rfl rfl (wt_none' rfl) rfl ?_
        exact tx_pick' [0, 1, 2] (sub_cons rfl (sub_cons rfl (sub_cons rfl (sub_cons rfl (sub_cons rfl sub_nil))))) (by decide) (pick_cons rfl (pick_cons rfl (pick_cons rfl pick_nil))) (hN8 ())
      intro hN5
      refine ax_node (f' := 4) #[true, true, false, true, true, false, false, false] (fun (v5 : Unit) => (⟨25, [⟨.fn (.func 9) ⟨[.pointer (some q4), .pointer (some q5), .pointer (some q6)]⟩, #[]⟩], [(4, (Vl (.pointer (some q4)))), (5, (Vl (.pointer (some q5)))), (6, (Vl (.pointer (some q6)))), (20, (Vl (.int .u32 y3.2.2.2))), (21, (Vl (.pointer (some q11)))), (24, (Vl (.bool false)))], [⟨.pointer (some q4), [(Vl (.int .u32 y3.2.2.2))], 23, none⟩, ⟨.pointer (some q5), [(Vl (.int .i64 0))], 3, none⟩, ⟨.pointer (some q6), [(Vl (.bool false))], 4, none⟩, ⟨.pointer (some q11), [(Sl (Ki .u8) y3.1), (Vl (.int .i64 y3.2.1)), (Vl (.int .i8 y3.2.2.1))], 50, none⟩]⟩ : St)) ?_ ?_
      · rintro ⟨⟩
        refine ax_all (i := 2) (is := []) (by kernel_rfl) (all_cons ?_ all_nil)
        · refine nx_oxb (is := [3]) (last := #[true, true, true, true, true, false, false, false]) rfl (oxb_callg (ent_fn' Tryd.func13 isn13 rfl rfl) (bytes_Buffer_Len_sim _ _ _ hr22 : Go.Sx.Fn Tryd.prog 13 [(Vl (.pointer (some q11)))] [⟨.pointer (some q11), [(Sl (Ki .u8) y3.1), (Vl (.int .i64 y3.2.1)), (Vl (.int .i8 y3.2.2.1))], 50, none⟩] (fun x : Unit => (Vl (.int .i64 r22.2.2.2))) (fun x => [⟨.pointer (some q11), [(Sl (Ki .u8) r22.1), (Vl (.int .i64 r22.2.1)), (Vl (.int .i8 r22.2.2.1))], 50, none⟩])) [3] [0, 1, 2] (by decide) (pick_cons rfl pick_nil) (pick_cons rfl (pick_cons rfl (pick_cons rfl pick_nil))) (Hn := fun x : Unit => [⟨.pointer (some q11), [(Sl (Ki .u8) r22.1), (Vl (.int .i64 r22.2.1)), (Vl (.int .i8 r22.2.2.1))], 50, none⟩, ⟨.pointer (some q4), [(Vl (.int .u32 y3.2.2.2))], 23, none⟩, ⟨.pointer (some q5), [(Vl (.int .i64 0))], 3, none⟩, ⟨.pointer (some q6), [(Vl (.bool false))], 4, none⟩]) (fun _ => rfl) rfl rfl) (pick_cons rfl pick_nil) rfl (bl_cons (m := 0) (by decide) rfl rfl bl_nil) (wt_none' rfl) rfl fun ⟨⟩ => ?_
          exact tx_pick' [1, 2, 3] (sub_cons rfl (sub_cons rfl (sub_cons rfl (sub_cons rfl (sub_cons rfl (sub_cons rfl sub_nil)))))) (by decide) (pick_cons rfl (pick_cons rfl (pick_cons rfl pick_nil))) (hN7 ())
      intro hN6
      refine ax_node (f' := 5) #[true, true, true, false, false, false, false, false] (fun (v1 : Unit) => (⟨25, [⟨.fn (.func 9) ⟨[.pointer (some q4), .pointer (some q5), .pointer (some q6)]⟩, #[]⟩], [(4, (Vl (.pointer (some q4)))), (5, (Vl (.pointer (some q5)))), (6, (Vl (.pointer (some q6)))), (8, (If 67 (Vl (.pointer (some (Ga.a 4)))))), (20, (Vl (.int .u32 y3.2.2.2))), (22, (Vl (.int .i64 r22.2.2.2)))], [⟨.pointer (some q4), [(Vl (.int .u32 y3.2.2.2))], 23, none⟩, ⟨.pointer (some q5), [(Vl (.int .i64 0))], 3, none⟩, ⟨.pointer (some q6), [(Vl (.bool false))], 4, none⟩]⟩ : St)) ?_ ?_
      · rintro ⟨⟩
        refine ax_all (i := 3) (is := [5]) (by kernel_rfl) (all_cons ?_ (all_cons ?_ all_nil))
        · refine nx_rd (last := #[true, true, true, true, false, false, false, false]) rfl (rd_move' rfl) rfl rfl (wt_none' rfl) rfl ?_
          exact tx_pick' [0, 1, 2] (sub_cons rfl (sub_cons rfl (sub_cons rfl (sub_cons rfl (sub_cons rfl (sub_cons rfl sub_nil)))))) (by decide) (pick_cons rfl (pick_cons rfl (pick_cons rfl pick_nil))) (hN4 ())
        · refine nx_ox (last := #[true, true, true, false, false, true, false, false]) rfl (ox_store' (i := 0) (o := 0) rfl rfl (lv_vl rfl rfl) ⟨rfl, rfl, rfl, rfl⟩ rfl info23 rfl (H' := [⟨.pointer (some q4), [(Vl (.int .u32 y3.2.2.2))], 23, none⟩, ⟨.pointer (some q5), [(Vl (.int .i64 0))], 3, none⟩, ⟨.pointer (some q6), [(Vl (.bool false))], 4, none⟩]) rfl) rfl (bs_cons (m := 0) rfl rfl rfl bs_nil) (wt_none' rfl) rfl fun _ => ?_
          exact tx_pick' [0, 1, 2] (sub_cons rfl (sub_cons rfl (sub_cons rfl (sub_cons rfl (sub_cons rfl sub_nil))))) (by decide) (pick_cons rfl (pick_cons rfl (pick_cons rfl pick_nil))) (hN5 ())
      intro hN2
      refine ax_node (f' := 5) #[true, true, false, true, false, false, false, false] (fun (v2 : Unit) => (⟨25, [⟨.fn (.func 9) ⟨[.pointer (some q4), .pointer (some q5), .pointer (some q6)]⟩, #[]⟩], [(4, (Vl (.pointer (some q4)))), (5, (Vl (.pointer (some q5)))), (6, (Vl (.pointer (some q6)))), (20, (Vl (.int .u32 y3.2.2.2))), (21, (Vl (.pointer (some q11)))), (23, (If 67 (Vl (.pointer (some (Ga.a 4))))))], [⟨.pointer (some q4), [(Vl (.int .u32 y3.2.2.2))], 23, none⟩, ⟨.pointer (some q5), [(Vl (.int .i64 0))], 3, none⟩, ⟨.pointer (some q6), [(Vl (.bool false))], 4, none⟩, ⟨.pointer (some q11), [(Sl (Ki .u8) y3.1), (Vl (.int .i64 y3.2.1)), (Vl (.int .i8 y3.2.2.1))], 50, none⟩]⟩ : St)) ?_ ?_
      · rintro ⟨⟩
        refine ax_all (i := 2) (is := [4]) (by kernel_rfl) (all_cons ?_ (all_cons ?_ all_nil))
        · refine nx_oxb (is := [3]) (last := #[true, true, true, true, false, false, false, false]) rfl (oxb_callg (ent_fn' Tryd.func13 isn13 rfl rfl) (bytes_Buffer_Len_sim _ _ _ hr22 : Go.Sx.Fn Tryd.prog 13 [(Vl (.pointer (some q11)))] [⟨.pointer (some q11), [(Sl (Ki .u8) y3.1), (Vl (.int .i64 y3.2.1)), (Vl (.int .i8 y3.2.2.1))], 50, none⟩] (fun x : Unit => (Vl (.int .i64 r22.2.2.2))) (fun x => [⟨.pointer (some q11), [(Sl (Ki .u8) r22.1), (Vl (.int .i64 r22.2.1)), (Vl (.int .i8 r22.2.2.1))], 50, none⟩])) [3] [0, 1, 2] (by decide) (pick_cons rfl pick_nil) (pick_cons rfl (pick_cons rfl (pick_cons rfl pick_nil))) (Hn := fun x : Unit => [⟨.pointer (some q11), [(Sl (Ki .u8) r22.1), (Vl (.int .i64 r22.2.1)), (Vl (.int .i8 r22.2.2.1))], 50, none⟩, ⟨.pointer (some q4), [(Vl (.int .u32 y3.2.2.2))], 23, none⟩, ⟨.pointer (some q5), [(Vl (.int .i64 0))], 3, none⟩, ⟨.pointer (some q6), [(Vl (.bool false))], 4, none⟩]) (fun _ => rfl) rfl rfl) (pick_cons rfl pick_nil) rfl (bl_cons (m := 0) (by decide) rfl rfl bl_nil) (wt_none' rfl) rfl fun ⟨⟩ => ?_
          exact tx_pick' [1, 2, 3] (sub_cons rfl (sub_cons rfl (sub_cons rfl (sub_cons rfl (sub_cons rfl (sub_cons rfl sub_nil)))))) (by decide) (pick_cons rfl (pick_cons rfl (pick_cons rfl pick_nil))) (hN4 ())
        · refine nx_rd (last := #[true, true, false, true, true, false, false, false]) rfl (rd_binf' rfl rfl (bf_if (fun _ _ => by kernel_rfl) nil_eql35_if67)) rfl rfl (wt_none' rfl) rfl ?_
          exact tx_pick' [0, 1, 2, 3] (sub_cons rfl (sub_cons rfl (sub_cons rfl (sub_cons rfl (sub_cons rfl (sub_cons rfl sub_nil)))))) (by decide) (pick_cons rfl (pick_cons rfl (pick_cons rfl (pick_cons rfl pick_nil)))) (hN6 ())
      intro hN3
      refine ax_all (i := 2) (is := [3]) (by kernel_rfl) (all_cons ?_ (all_cons ?_ all_nil))
      · refine nx_oxb (is := [0]) (last := #[true, true, true, false, false, false, false, false]) rfl (oxb_callg (ent_fn' Tryd.func13 isn13 rfl rfl) (bytes_Buffer_Len_sim _ _ _ hr22 : Go.Sx.Fn Tryd.prog 13 [(Vl (.pointer (some q11)))] [⟨.pointer (some q11), [(Sl (Ki .u8) y3.1), (Vl (.int .i64 y3.2.1)), (Vl (.int .i8 y3.2.2.1))], 50, none⟩] (fun x : Unit => (Vl (.int .i64 r22.2.2.2))) (fun x => [⟨.pointer (some q11), [(Sl (Ki .u8) r22.1), (Vl (.int .i64 r22.2.1)), (Vl (.int .i8 r22.2.2.1))], 50, none⟩])) [0] [1, 2, 3] (by decide) (pick_cons rfl pick_nil) (pick_cons rfl (pick_cons rfl (pick_cons rfl pick_nil))) (Hn := fun x : Unit => [⟨.pointer (some q11), [(Sl (Ki .u8) r22.1), (Vl (.int .i64 r22.2.1)), (Vl (.int .i8 r22.2.2.1))], 50, none⟩, ⟨.pointer (some q6), [(Vl (.bool false))], 4, none⟩, ⟨.pointer (some q5), [(Vl (.int .i64 0))], 3, none⟩, ⟨.pointer (some q4), [(Vl (.int .u32 y3.2.2.2))], 23, none⟩]) (fun _ => rfl) rfl rfl) (pick_cons rfl pick_nil) rfl (bl_cons (m := 3) (by decide) rfl rfl bl_nil) (wt_none' rfl) rfl fun ⟨⟩ => ?_
        exact tx_pick' [3, 2, 1] (sub_cons rfl (sub_cons rfl (sub_cons rfl (sub_cons rfl (sub_cons rfl (sub_cons rfl sub_nil)))))) (by decide) (pick_cons rfl (pick_cons rfl (pick_cons rfl pick_nil))) (hN2 ())
      · refine nx_rd (last := #[true, true, false, true, false, false, false, false]) rfl (rd_move' rfl) rfl rfl (wt_none' rfl) rfl ?_
        exact tx_pick' [3, 2, 1, 0] (sub_cons rfl (sub_cons rfl (sub_cons rfl (sub_cons rfl (sub_cons rfl (sub_cons rfl sub_nil)))))) (by decide) (pick_cons rfl (pick_cons rfl (pick_cons rfl (pick_cons rfl pick_nil)))) (hN3 ())
    · dsimp only at hp
      refine sx_ox' (ox_callg' (ent_fn' Tryd.func11 isn11 rfl rfl) (wkbcommon_ReadUInt32_v2_sim _ _ _ hr17 : Go.Sx.Fn Tryd.prog 11 [(If 32 (Vl (.pointer (some q11)))), (If 61 (Ag []))] [⟨.pointer (some q11), [(Sl (Ki .u8) r11.1), (Vl (.int .i64 r11.2.1)), (Vl (.int .i8 r11.2.2))], 50, none⟩] (fun x : Unit => (Tu [(Vl (.int .u32 y3.2.2.2)), (If 67 (Vl (.pointer (some (Ga.a 3)))))])) (fun x => [⟨.pointer (some q11), [(Sl (Ki .u8) y3.1), (Vl (.int .i64 y3.2.1)), (Vl (.int .i8 y3.2.2.1))], 50, none⟩])) [0] [1, 2, 3] (by decide) (pick_cons rfl pick_nil) (pick_cons rfl (pick_cons rfl (pick_cons rfl pick_nil))) (Hn := fun x : Unit => [⟨.pointer (some q11), [(Sl (Ki .u8) y3.1), (Vl (.int .i64 y3.2.1)), (Vl (.int .i8 y3.2.2.1))], 50, none⟩, ⟨.pointer (some q6), [(Vl (.bool false))], 4, none⟩, ⟨.pointer (some q5), [(Vl (.int .i64 0))], 3, none⟩, ⟨.pointer (some q4), [(Vl (.int .u32 0))], 23, none⟩]) (fun _ => rfl) rfl rfl) (wt_none' rfl) fun ⟨⟩ => ?_
      refine sx_rd' (rd_move' rfl) rfl rfl (wt_none' rfl) ?_
      refine sx_rd' (rd_extract' rfl rfl) rfl rfl (wt_none' rfl) ?_
      refine sx_rd' (rd_extract' rfl rfl) rfl rfl (wt_none' rfl) ?_
      refine sx_ox' (ox_store' (i := 3) (o := 0) rfl rfl (lv_vl rfl rfl) ⟨rfl, rfl, rfl, rfl⟩ rfl info23 rfl (H' := [⟨.pointer (some q11), [(Sl (Ki .u8) y3.1), (Vl (.int .i64 y3.2.1)), (Vl (.int .i8 y3.2.2.1))], 50, none⟩, ⟨.pointer (some q6), [(Vl (.bool false))], 4, none⟩, ⟨.pointer (some q5), [(Vl (.int .i64 0))], 3, none⟩, ⟨.pointer (some q4), [(Vl (.int .u32 y3.2.2.2))], 23, none⟩]) rfl) (wt_none' rfl) fun _ => ?_
      refine sx_rd' (rd_assign' rfl) rfl rfl (wt_none' rfl) ?_
      refine sx_nil' ?_
      show TX E K4 _
      refine tx_k' hK4 ?_
      refine cx_seq' fun K5 hK5 => ?_
      refine cx_plana' [q4.block] [(2, 1), (5, 2), (6, 1), (7, 1)] [(0, 2), (1, 1)] 6 #[true, true, false, false, false, false, false, false] mixed (by kernel_rfl) ?_
      refine px_rb' rfl (rb_load' (i := 3) (o := 0) rfl ⟨rfl, rfl, rfl, rfl⟩ rfl flat23 (by simp)) rfl rfl (wt_none' rfl) ?_
      refine px_rd' rfl (rd_move' rfl) rfl rfl (wt_none' rfl) ?_
      refine px_nil' ?_
      show AX E _ _ _ _ _ _ _ _
      obtain ⟨r22, hr22, hp⟩ := bind_some hp
      refine ax_node (f' := 0) #[true, true, true, true, true, true, true, true] (fun (v11 : Unit) => (⟨25, [⟨.fn (.func 9) ⟨[.pointer (some q4), .pointer (some q5), .pointer (some q6)]⟩, #[]⟩], [(4, (Vl (.pointer (some q4)))), (5, (Vl (.pointer (some q5)))), (6, (Vl (.pointer (some q6))))], [⟨.pointer (some q4), [(Vl (.int .u32 y3.2.2.2))], 23, none⟩, ⟨.pointer (some q5), [(Vl (.int .i64 r22.2.2.2))], 3, none⟩, ⟨.pointer (some q6), [(Vl (.bool false))], 4, none⟩]⟩ : St)) ?_ ?_
      · rintro ⟨⟩
        refine ax_nil (by kernel_rfl) ?_
        show TX E K5 _
        refine tx_k' hK5 ?_
        refine cx_retc' ?_
        replace hp := Option.some.inj hp
        subst hp
        refine tx_leave' (.inl rfl) rfl idle9 rfl Tryd.func9 isn9 rfl ?_
        refine tx_pick' (L' := [(4, (Vl (.pointer (some q4)))), (5, (Vl (.pointer (some q5)))), (6, (Vl (.pointer (some q6))))]) (H' := [⟨.pointer (some q4), [(Vl (.int .u32 y3.2.2.2))], 23, none⟩, ⟨.pointer (some q5), [(Vl (.int .i64 r22.2.2.2))], 3, none⟩, ⟨.pointer (some q6), [(Vl (.bool false))], 4, none⟩]) [0, 1, 2] (sub_cons rfl (sub_cons rfl (sub_cons rfl sub_nil))) (by decide) (pick_cons rfl (pick_cons rfl (pick_cons rfl pick_nil))) ?_
        exact tx_ret3' Tryd.results5 rfl () (rv_cell' (i := 0) (o := 0) rfl ⟨rfl, rfl, rfl, rfl⟩ rfl flat23) (rv_cell' (i := 1) (o := 0) rfl ⟨rfl, rfl, rfl, rfl⟩ rfl flat3) (rv_cell' (i := 2) (o := 0) rfl ⟨rfl, rfl, rfl, rfl⟩ rfl flat4) rfl (List.nil_sublist _)
      intro hN12
      refine ax_node (f' := 1) #[true, true, true, true, true, true, true, false] (fun (v10 : Unit) => (⟨25, [⟨.fn (.func 9) ⟨[.pointer (some q4), .pointer (some q5), .pointer (some q6)]⟩, #[]⟩], [(4, (Vl (.pointer (some q4)))), (5, (Vl (.pointer (some q5)))), (6, (Vl (.pointer (some q6)))), (24, (Vl (.bool false)))], [⟨.pointer (some q4), [(Vl (.int .u32 y3.2.2.2))], 23, none⟩, ⟨.pointer (some q5), [(Vl (.int .i64 r22.2.2.2))], 3, none⟩, ⟨.pointer (some q6), [(Vl (.bool false))], 4, none⟩]⟩ : St)) ?_ ?_
      · rintro ⟨⟩
        refine ax_all (i := 7) (is := []) (by kernel_rfl) (all_cons ?_ all_nil)
        · refine nx_oxv (last := #[true, true, true, true, true, true, true, true]) rfl (oxv_store (i := 2) (o := 0) rfl rfl (lv_vl rfl rfl) ⟨rfl, rfl, rfl, rfl⟩ rfl info4 rfl (H' := [⟨.pointer (some q4), [(Vl (.int .u32 y3.2.2.2))], 23, none⟩, ⟨.pointer (some q5), [(Vl (.int .i64 r22.2.2.2))], 3, none⟩, ⟨.pointer (some q6), [(Vl (.bool false))], 4, none⟩]) rfl) rfl rfl (bo_cons (m := 0) (by decide) rfl rfl bo_nil) (wt_none' rfl) rfl fun _ => ?_
          exact tx_pick' [0, 1, 2] (sub_cons rfl (sub_cons rfl (sub_cons rfl sub_nil))) (by decide) (pick_cons rfl (pick_cons rfl (pick_cons rfl pick_nil))) (hN12 ())
      intro hN11
      refine ax_node (f' := 2) #[true, true, true, true, true, true, false, false] (fun (v8 : Unit) => (⟨25, [⟨.fn (.func 9) ⟨[.pointer (some q4), .pointer (some q5), .pointer (some q6)]⟩, #[]⟩], [(4, (Vl (.pointer (some q4)))), (5, (Vl (.pointer (some q5)))), (6, (Vl (.pointer (some q6)))), (22, (Vl (.int .i64 r22.2.2.2))), (24, (Vl (.bool false)))], [⟨.pointer (some q4), [(Vl (.int .u32 y3.2.2.2))], 23, none⟩, ⟨.pointer (some q5), [(Vl (.int .i64 0))], 3, none⟩, ⟨.pointer (some q6), [(Vl (.bool false))], 4, none⟩]⟩ : St)) ?_ ?_
      · rintro ⟨⟩
        refine ax_all (i := 6) (is := []) (by kernel_rfl) (all_cons ?_ all_nil)
        · refine nx_oxv (last := #[true, true, true, true, true, true, true, false]) rfl (oxv_store (i := 1) (o := 0) rfl rfl (lv_vl rfl rfl) ⟨rfl, rfl, rfl, rfl⟩ rfl info3 rfl (H' := [⟨.pointer (some q4), [(Vl (.int .u32 y3.2.2.2))], 23, none⟩, ⟨.pointer (some q5), [(Vl (.int .i64 r22.2.2.2))], 3, none⟩, ⟨.pointer (some q6), [(Vl (.bool false))], 4, none⟩]) rfl) rfl rfl (bo_cons (m := 0) (by decide) rfl rfl bo_nil) (wt_none' rfl) rfl fun _ => ?_
          exact tx_pick' [0, 1, 2] (sub_cons rfl (sub_cons rfl (sub_cons rfl (sub_cons rfl sub_nil)))) (by decide) (pick_cons rfl (pick_cons rfl (pick_cons rfl pick_nil))) (hN11 ())
      intro hN9
      refine ax_node (f' := 2) #[true, true, true, true, false, true, true, false] (fun (v9 : Unit) => (⟨25, [⟨.fn (.func 9) ⟨[.pointer (some q4), .pointer (some q5), .pointer (some q6)]⟩, #[]⟩], [(4, (Vl (.pointer (some q4)))), (5, (Vl (.pointer (some q5)))), (6, (Vl (.pointer (some q6)))), (23, (If 67 (Vl (.pointer (some (Ga.a 3))))))], [⟨.pointer (some q4), [(Vl (.int .u32 y3.2.2.2))], 23, none⟩, ⟨.pointer (some q5), [(Vl (.int .i64 r22.2.2.2))], 3, none⟩, ⟨.pointer (some q6), [(Vl (.bool false))], 4, none⟩]⟩ : St)) ?_ ?_
      · rintro ⟨⟩
        refine ax_rd (ix := 4) (last := #[true, true, true, true, true, true, true, false]) (by kernel_rfl) rfl (rd_binf' rfl rfl (bf_if (fun _ _ => by kernel_rfl) nil_eql35_if67)) rfl rfl (wt_none' rfl) rfl ?_
        exact tx_pick' [0, 1, 2] (sub_cons rfl (sub_cons rfl (sub_cons rfl (sub_cons rfl sub_nil)))) (by decide) (pick_cons rfl (pick_cons rfl (pick_cons rfl pick_nil))) (hN11 ())
      intro hN10
      refine ax_node (f' := 3) #[true, true, true, true, true, false, false, false] (fun (v6 : Unit) => (⟨25, [⟨.fn (.func 9) ⟨[.pointer (some q4), .pointer (some q5), .pointer (some q6)]⟩, #[]⟩], [(4, (Vl (.pointer (some q4)))), (5, (Vl (.pointer (some q5)))), (6, (Vl (.pointer (some q6)))), (20, (Vl (.int .u32 y3.2.2.2))), (22, (Vl (.int .i64 r22.2.2.2))), (24, (Vl (.bool false)))], [⟨.pointer (some q4), [(Vl (.int .u32 y3.2.2.2))], 23, none⟩, ⟨.pointer (some q5), [(Vl (.int .i64 0))], 3, none⟩, ⟨.pointer (some q6), [(Vl (.bool false))], 4, none⟩]⟩ : St)) ?_ ?_
      · rintro ⟨⟩
        refine ax_all (i := 5) (is := []) (by kernel_rfl) (all_cons ?_ all_nil)
        · refine nx_ox (last := #[true, true, true, true, true, true, false, false]) rfl (ox_store' (i := 0) (o := 0) rfl rfl (lv_vl rfl rfl) ⟨rfl, rfl, rfl, rfl⟩ rfl info23 rfl (H' := [⟨.pointer (some q4), [(Vl (.int .u32 y3.2.2.2))], 23, none⟩, ⟨.pointer (some q5), [(Vl (.int .i64 0))], 3, none⟩, ⟨.pointer (some q6), [(Vl (.bool false))], 4, none⟩]) rfl) rfl (bs_cons (m := 0) rfl rfl rfl bs_nil) (wt_none' rfl) rfl fun _ => ?_
          exact tx_pick' [0, 1, 2] (sub_cons rfl (sub_cons rfl (sub_cons rfl (sub_cons rfl (sub_cons rfl sub_nil))))) (by decide) (pick_cons rfl (pick_cons rfl (pick_cons rfl pick_nil))) (hN9 ())
      intro hN7
      refine ax_node (f' := 3) #[true, true, true, true, false, true, false, false] (fun (v7 : Unit) => (⟨25, [⟨.fn (.func 9) ⟨[.pointer (some q4), .pointer (some q5), .pointer (some q6)]⟩, #[]⟩], [(4, (Vl (.pointer (some q4)))), (5, (Vl (.pointer (some q5)))), (6, (Vl (.pointer (some q6)))), (22, (Vl (.int .i64 r22.2.2.2))), (23, (If 67 (Vl (.pointer (some (Ga.a 3))))))], [⟨.pointer (some q4), [(Vl (.int .u32 y3.2.2.2))], 23, none⟩, ⟨.pointer (some q5), [(Vl (.int .i64 0))], 3, none⟩, ⟨.pointer (some q6), [(Vl (.bool false))], 4, none⟩]⟩ : St)) ?_ ?_
      · rintro ⟨⟩
        refine ax_all (i := 4) (is := [6]) (by kernel_rfl) (all_cons ?_ (all_cons ?_ all_nil))
        · refine nx_rd (last := #[true, true, true, true, true, true, false, false]) rfl (rd_binf' rfl rfl (bf_if (fun _ _ => by kernel_rfl) nil_eql35_if67)) rfl rfl (wt_none' rfl) rfl ?_
          exact tx_pick' [0, 1, 2] (sub_cons rfl (sub_cons rfl (sub_cons rfl (sub_cons rfl (sub_cons rfl sub_nil))))) (by decide) (pick_cons rfl (pick_cons rfl (pick_cons rfl pick_nil))) (hN9 ())
        · refine nx_oxv (last := #[true, true, true, true, false, true, true, false]) rfl (oxv_store (i := 1) (o := 0) rfl rfl (lv_vl rfl rfl) ⟨rfl, rfl, rfl, rfl⟩ rfl info3 rfl (H' := [⟨.pointer (some q4), [(Vl (.int .u32 y3.2.2.2))], 23, none⟩, ⟨.pointer (some q5), [(Vl (.int .i64 r22.2.2.2))], 3, none⟩, ⟨.pointer (some q6), [(Vl (.bool false))], 4, none⟩]) rfl) rfl rfl (bo_cons (m := 0) (by decide) rfl rfl bo_nil) (wt_none' rfl) rfl fun _ => ?_
          exact tx_pick' [0, 1, 2] (sub_cons rfl (sub_cons rfl (sub_cons rfl (sub_cons rfl sub_nil)))) (by decide) (pick_cons rfl (pick_cons rfl (pick_cons rfl pick_nil))) (hN10 ())
      intro hN8
      refine ax_node (f' := 4) #[true, true, true, true, false, false, false, false] (fun (v3 : Unit) => (⟨25, [⟨.fn (.func 9) ⟨[.pointer (some q4), .pointer (some q5), .pointer (some q6)]⟩, #[]⟩], [(4, (Vl (.pointer (some q4)))), (5, (Vl (.pointer (some q5)))), (6, (Vl (.pointer (some q6)))), (20, (Vl (.int .u32 y3.2.2.2))), (22, (Vl (.int .i64 r22.2.2.2))), (23, (If 67 (Vl (.pointer (some (Ga.a 3))))))], [⟨.pointer (some q4), [(Vl (.int .u32 y3.2.2.2))], 23, none⟩, ⟨.pointer (some q5), [(Vl (.int .i64 0))], 3, none⟩, ⟨.pointer (some q6), [(Vl (.bool false))], 4, none⟩]⟩ : St)) ?_ ?_
      · rintro ⟨⟩
        refine ax_all (i := 4) (is := [5]) (by kernel_rfl) (all_cons ?_ (all_cons ?_ all_nil))
        · refine nx_rd (last := #[true, true, true, true, true, false, false, false]) rfl (rd_binf' rfl rfl (bf_if (fun _ _ => by kernel_rfl) nil_eql35_if67)) rfl rfl (wt_none' rfl) rfl ?_
          exact tx_pick' [0, 1, 2] (sub_cons rfl (sub_cons rfl (sub_cons rfl (sub_cons rfl (sub_cons rfl (sub_cons rfl sub_nil)))))) (by decide) (pick_cons rfl (pick_cons rfl (pick_cons rfl pick_nil))) (hN7 ())
        · refine nx_ox (last := #[true, true, true, true, false, true, false, false]) rfl (ox_store' (i := 0) (o := 0) rfl rfl (lv_vl rfl rfl) ⟨rfl, rfl, rfl, rfl⟩ rfl info23 rfl (H' := [⟨.pointer (some q4), [(Vl (.int .u32 y3.2.2.2))], 23, none⟩, ⟨.pointer (some q5), [(Vl (.int .i64 0))], 3, none⟩, ⟨.pointer (some q6), [(Vl (.bool false))], 4, none⟩]) rfl) rfl (bs_cons (m := 0) rfl rfl rfl bs_nil) (wt_none' rfl) rfl fun _ => ?_
          exact tx_pick' [0, 1, 2] (sub_cons rfl (sub_cons rfl (sub_cons rfl (sub_cons rfl (sub_cons rfl sub_nil))))) (by decide) (pick_cons rfl (pick_cons rfl (pick_cons rfl pick_nil))) (hN8 ())
      intro hN4
      refine ax_node (f' := 4) #[true, true, true, false, false, true, false, false] (fun (v4 : Unit) => (⟨25, [⟨.fn (.func 9) ⟨[.pointer (some q4), .pointer (some q5), .pointer (some q6)]⟩, #[]⟩], [(4, (Vl (.pointer (some q4)))), (5, (Vl (.pointer (some q5)))), (6, (Vl (.pointer (some q6)))), (8, (If 67 (Vl (.pointer (some (Ga.a 3)))))), (22, (Vl (.int .i64 r22.2.2.2)))], [⟨.pointer (some q4), [(Vl (.int .u32 y3.2.2.2))], 23, none⟩, ⟨.pointer (some q5), [(Vl (.int .i64 0))], 3, none⟩, ⟨.pointer (some q6), [(Vl (.bool false))], 4, none⟩]⟩ : St)) ?_ ?_
      · rintro ⟨⟩
        refine ax_rb (ix := 3) (last := #[true, true, true, true, false, true, false, false]) (by kernel_rfl) rfl (rb_move' rfl) rfl rfl (wt_none' rfl) rfl ?_
        exact tx_pick' [0, 1, 2] (sub_cons rfl (sub_cons rfl (sub_cons rfl (sub_cons rfl (sub_cons rfl sub_nil))))) (by decide) (pick_cons rfl (pick_cons rfl (pick_cons rfl pick_nil))) (hN8 ())
      intro hN5
      refine ax_node (f' := 4) #[true, true, false, true, true, false, false, false] (fun (v5 : Unit) => (⟨25, [⟨.fn (.func 9) ⟨[.pointer (some q4), .pointer (some q5), .pointer (some q6)]⟩, #[]⟩], [(4, (Vl (.pointer (some q4)))), (5, (Vl (.pointer (some q5)))), (6, (Vl (.pointer (some q6)))), (20, (Vl (.int .u32 y3.2.2.2))), (21, (Vl (.pointer (some q11)))), (24, (Vl (.bool false)))], [⟨.pointer (some q4), [(Vl (.int .u32 y3.2.2.2))], 23, none⟩, ⟨.pointer (some q5), [(Vl (.int .i64 0))], 3, none⟩, ⟨.pointer (some q6), [(Vl (.bool false))], 4, none⟩, ⟨.pointer (some q11), [(Sl (Ki .u8) y3.1), (Vl (.int .i64 y3.2.1)), (Vl (.int .i8 y3.2.2.1))], 50, none⟩]⟩ : St)) ?_ ?_
      · rintro ⟨⟩
        refine ax_all (i := 2) (is := []) (by kernel_rfl) (all_cons ?_ all_nil)
        · refine nx_oxb (is := [3]) (last := #[true, true, true, true, true, false, false, false]) rfl (oxb_callg (ent_fn' Tryd.func13 isn13 rfl rfl) (bytes_Buffer_Len_sim _ _ _ hr22 : Go.Sx.Fn Tryd.prog 13 [(Vl (.pointer (some q11)))] [⟨.pointer (some q11), [(Sl (Ki .u8) y3.1), (Vl (.int .i64 y3.2.1)), (Vl (.int .i8 y3.2.2.1))], 50, none⟩] (fun x : Unit => (Vl (.int .i64 r22.2.2.2))) (fun x => [⟨.pointer (some q11), [(Sl (Ki .u8) r22.1), (Vl (.int .i64 r22.2.1)), (Vl (.int .i8 r22.2.2.1))], 50, none⟩])) [3] [0, 1, 2] (by decide) (pick_cons rfl pick_nil) (pick_cons rfl (pick_cons rfl (pick_cons rfl pick_nil))) (Hn := fun x : Unit => [⟨.pointer (some q11), [(Sl (Ki .u8) r22.1), (Vl (.int .i64 r22.2.1)), (Vl (.int .i8 r22.2.2.1))], 50, none⟩, ⟨.pointer (some q4), [(Vl (.int .u32 y3.2.2.2))], 23, none⟩, ⟨.pointer (some q5), [(Vl (.int .i64 0))], 3, none⟩, ⟨.pointer (some q6), [(Vl (.bool false))], 4, none⟩]) (fun _ => rfl) rfl rfl) (pick_cons rfl pick_nil) rfl (bl_cons (m := 0) (by decide) rfl rfl bl_nil) (wt_none' rfl) rfl fun ⟨⟩ => ?_
          exact tx_pick' [1, 2, 3] (sub_cons rfl (sub_cons rfl (sub_cons rfl (sub_cons rfl (sub_cons rfl (sub_cons rfl sub_nil)))))) (by decide) (pick_cons rfl (pick_cons rfl (pick_cons rfl pick_nil))) (hN7 ())
      intro hN6
      refine ax_node (f' := 5) #[true, true, true, false, false, false, false, false] (fun (v1 : Unit) => (⟨25, [⟨.fn (.func 9) ⟨[.pointer (some q4), .pointer (some q5), .pointer (some q6)]⟩, #[]⟩], [(4, (Vl (.pointer (some q4)))), (5, (Vl (.pointer (some q5)))), (6, (Vl (.pointer (some q6)))), (8, (If 67 (Vl (.pointer (some (Ga.a 3)))))), (20, (Vl (.int .u32 y3.2.2.2))), (22, (Vl (.int .i64 r22.2.2.2)))], [⟨.pointer (some q4), [(Vl (.int .u32 y3.2.2.2))], 23, none⟩, ⟨.pointer (some q5), [(Vl (.int .i64 0))], 3, none⟩, ⟨.pointer (some q6), [(Vl (.bool false))], 4, none⟩]⟩ : St)) ?_ ?_
      · rintro ⟨⟩
        refine ax_all (i := 3) (is := [5]) (by kernel_rfl) (all_cons ?_ (all_cons ?_ all_nil))
        · refine nx_rd (last := #[true, true, true, true, false, false, false, false]) rfl (rd_move' rfl) rfl rfl (wt_none' rfl) rfl ?_
          exact tx_pick' [0, 1, 2] (sub_cons rfl (sub_cons rfl (sub_cons rfl (sub_cons rfl (sub_cons rfl (sub_cons rfl sub_nil)))))) (by decide) (pick_cons rfl (pick_cons rfl (pick_cons rfl pick_nil))) (hN4 ())
        · refine nx_ox (last := #[true, true, true, false, false, true, false, false]) rfl (ox_store' (i := 0) (o := 0) rfl rfl (lv_vl rfl rfl) ⟨rfl, rfl, rfl, rfl⟩ rfl info23 rfl (H' := [⟨.pointer (some q4), [(Vl (.int .u32 y3.2.2.2))], 23, none⟩, ⟨.pointer (some q5), [(Vl (.int .i64 0))], 3, none⟩, ⟨.pointer (some q6), [(Vl (.bool false))], 4, none⟩]) rfl) rfl (bs_cons (m := 0) rfl rfl rfl bs_nil) (wt_none' rfl) rfl fun _ => ?_
          exact tx_pick' [0, 1, 2] (sub_cons rfl (sub_cons rfl (sub_cons rfl (sub_cons rfl (sub_cons rfl sub_nil))))) (by decide) (pick_cons rfl (pick_cons rfl (pick_cons rfl pick_nil))) (hN5 ())
      intro hN2
      refine ax_node (f' := 5) #[true, true, false, true, false, false, false, false] (fun (v2 : Unit) => (⟨25, [⟨.fn (.func 9) ⟨[.pointer (some q4), .pointer (some q5), .pointer (some q6)]⟩, #[]⟩], [(4, (Vl (.pointer (some q4)))), (5, (Vl (.pointer (some q5)))), (6, (Vl (.pointer (some q6)))), (20, (Vl (.int .u32 y3.2.2.2))), (21, (Vl (.pointer (some q11)))), (23, (If 67 (Vl (.pointer (some (Ga.a 3))))))], [⟨.pointer (some q4), [(Vl (.int .u32 y3.2.2.2))], 23, none⟩, ⟨.pointer (some q5), [(Vl (.int .i64 0))], 3, none⟩, ⟨.pointer (some q6), [(Vl (.bool false))], 4, none⟩, ⟨.pointer (some q11), [(Sl (Ki .u8) y3.1), (Vl (.int .i64 y3.2.1)), (Vl (.int .i8 y3.2.2.1))], 50, none⟩]⟩ : St)) ?_ ?_
      · rintro ⟨⟩
        refine ax_all (i := 2) (is := [4]) (by kernel_rfl) (all_cons ?_ (all_cons ?_ all_nil))
        · refine nx_oxb (is := [3]) (last := #[true, true, true, true, false, false, false, false]) rfl (oxb_callg (ent_fn' Tryd.func13 isn13 rfl rfl) (bytes_Buffer_Len_sim _ _ _ hr22 : Go.Sx.Fn Tryd.prog 13 [(Vl (.pointer (some q11)))] [⟨.pointer (some q11), [(Sl (Ki .u8) y3.1), (Vl (.int .i64 y3.2.1)), (Vl (.int .i8 y3.2.2.1))], 50, none⟩] (fun x : Unit => (Vl (.int .i64 r22.2.2.2))) (fun x => [⟨.pointer (some q11), [(Sl (Ki .u8) r22.1), (Vl (.int .i64 r22.2.1)), (Vl (.int .i8 r22.2.2.1))], 50, none⟩])) [3] [0, 1, 2] (by decide) (pick_cons rfl pick_nil) (pick_cons rfl (pick_cons rfl (pick_cons rfl pick_nil))) (Hn := fun x : Unit => [⟨.pointer (some q11), [(Sl (Ki .u8) r22.1), (Vl (.int .i64 r22.2.1)), (Vl (.int .i8 r22.2.2.1))], 50, none⟩, ⟨.pointer (some q4), [(Vl (.int .u32 y3.2.2.2))], 23, none⟩, ⟨.pointer (some q5), [(Vl (.int .i64 0))], 3, none⟩, ⟨.pointer (some q6), [(Vl (.bool false))], 4, none⟩]) (fun _ => rfl) rfl rfl) (pick_cons rfl pick_nil) rfl (bl_cons (m := 0) (by decide) rfl rfl bl_nil) (wt_none' rfl) rfl fun ⟨⟩ => ?_
          exact tx_pick' [1, 2, 3] (sub_cons rfl (sub_cons rfl (sub_cons rfl (sub_cons rfl (sub_cons rfl (sub_cons rfl sub_nil)))))) (by decide) (pick_cons rfl (pick_cons rfl (pick_cons rfl pick_nil))) (hN4 ())
        · refine nx_rd (last := #[true, true, false, true, true, false, false, false]) rfl (rd_binf' rfl rfl (bf_if (fun _ _ => by kernel_rfl) nil_eql35_if67)) rfl rfl (wt_none' rfl) rfl ?_
          exact tx_pick' [0, 1, 2, 3] (sub_cons rfl (sub_cons rfl (sub_cons rfl (sub_cons rfl (sub_cons rfl (sub_cons rfl sub_nil)))))) (by decide) (pick_cons rfl (pick_cons rfl (pick_cons rfl (pick_cons rfl pick_nil)))) (hN6 ())
      intro hN3
      refine ax_all (i := 2) (is := [3]) (by kernel_rfl) (all_cons ?_ (all_cons ?_ all_nil))
      · refine nx_oxb (is := [0]) (last := #[true, true, true, false, false, false, false, false]) rfl (oxb_callg (ent_fn' Tryd.func13 isn13 rfl rfl) (bytes_Buffer_Len_sim _ _ _ hr22 : Go.Sx.Fn Tryd.prog 13 [(Vl (.pointer (some q11)))] [⟨.pointer (some q11), [(Sl (Ki .u8) y3.1), (Vl (.int .i64 y3.2.1)), (Vl (.int .i8 y3.2.2.1))], 50, none⟩] (fun x : Unit => (Vl (.int .i64 r22.2.2.2))) (fun x => [⟨.pointer (some q11), [(Sl (Ki .u8) r22.1), (Vl (.int .i64 r22.2.1)), (Vl (.int .i8 r22.2.2.1))], 50, none⟩])) [0] [1, 2, 3] (by decide) (pick_cons rfl pick_nil) (pick_cons rfl (pick_cons rfl (pick_cons rfl pick_nil))) (Hn := fun x : Unit => [⟨.pointer (some q11), [(Sl (Ki .u8) r22.1), (Vl (.int .i64 r22.2.1)), (Vl (.int .i8 r22.2.2.1))], 50, none⟩, ⟨.pointer (some q6), [(Vl (.bool false))], 4, none⟩, ⟨.pointer (some q5), [(Vl (.int .i64 0))], 3, none⟩, ⟨.pointer (some q4), [(Vl (.int .u32 y3.2.2.2))], 23, none⟩]) (fun _ => rfl) rfl rfl) (pick_cons rfl pick_nil) rfl (bl_cons (m := 3) (by decide) rfl rfl bl_nil) (wt_none' rfl) rfl fun ⟨⟩ => ?_
        exact tx_pick' [3, 2, 1] (sub_cons rfl (sub_cons rfl (sub_cons rfl (sub_cons rfl (sub_cons rfl (sub_cons rfl sub_nil)))))) (by decide) (pick_cons rfl (pick_cons rfl (pick_cons rfl pick_nil))) (hN2 ())
      · refine nx_rd (last := #[true, true, false, true, false, false, false, false]) rfl (rd_move' rfl) rfl rfl (wt_none' rfl) rfl ?_
        exact tx_pick' [3, 2, 1, 0] (sub_cons rfl (sub_cons rfl (sub_cons rfl (sub_cons rfl (sub_cons rfl (sub_cons rfl sub_nil)))))) (by decide) (pick_cons rfl (pick_cons rfl (pick_cons rfl (pick_cons rfl pick_nil)))) (hN3 ())

end Go.Proofs.YthjeamiaogdmgaaDoor
