/-
  Plain functions for the Go functions that this law reaches, and that each call does what its plain function says. Printed by a program of ours.
-/
import Derived.Test.YthjeamiaogdmgaaDoorProg
import Derived.Test.YthjeamiaogdmgaaDoorSxZ
import Derived.Test.YthjeamiaogdmgaaDoorFun2
namespace Go.Proofs.YthjeamiaogdmgaaDoor
open Go.Sx
set_option linter.unusedVariables false
set_option maxRecDepth 100000
set_option linter.unusedSectionVars false
variable [Ga]
def impl_ReadUint32_v2 (k : Nat) (a0 : List Int) (a1 : Bool) : Option (Int × Int × Bool) :=
  (bytes_NewBuffer k a0) >>= fun r11 =>
  (wkbcommon_DoorOrder k a1) >>= fun r16 =>
  match r16 with
    | (.inl y2) =>
      ((wkbcommon_ReadUInt32 k r11.1 r11.2.1 r11.2.2) >>= fun r17 =>
      match r17 with
        | (.inl y3) =>
          ((bytes_Buffer_Len k y3.1 y3.2.1 y3.2.2.1) >>= fun r22 =>
          some (y3.2.2.2, r22.2.2.2, false))
        | (.inr (.inl y3)) =>
          ((bytes_Buffer_Len k y3.1 y3.2.1 y3.2.2.1) >>= fun r22 =>
          some (y3.2.2.2, r22.2.2.2, true))
        | (.inr (.inr (.inl y3))) =>
          ((bytes_Buffer_Len k y3.1 y3.2.1 y3.2.2.1) >>= fun r22 =>
          some (y3.2.2.2, r22.2.2.2, false))
        | (.inr (.inr (.inr y3))) =>
          ((bytes_Buffer_Len k y3.1 y3.2.1 y3.2.2.1) >>= fun r22 =>
          some (y3.2.2.2, r22.2.2.2, false)))
    | (.inr y2) =>
      ((wkbcommon_ReadUInt32_v2 k r11.1 r11.2.1 r11.2.2) >>= fun r17 =>
      match r17 with
        | (.inl y3) =>
          ((bytes_Buffer_Len k y3.1 y3.2.1 y3.2.2.1) >>= fun r22 =>
          some (y3.2.2.2, r22.2.2.2, false))
        | (.inr (.inl y3)) =>
          ((bytes_Buffer_Len k y3.1 y3.2.1 y3.2.2.1) >>= fun r22 =>
          some (y3.2.2.2, r22.2.2.2, true))
        | (.inr (.inr (.inl y3))) =>
          ((bytes_Buffer_Len k y3.1 y3.2.1 y3.2.2.1) >>= fun r22 =>
          some (y3.2.2.2, r22.2.2.2, false))
        | (.inr (.inr (.inr y3))) =>
          ((bytes_Buffer_Len k y3.1 y3.2.1 y3.2.2.1) >>= fun r22 =>
          some (y3.2.2.2, r22.2.2.2, false)))

theorem impl_ReadUint32_v2_sim {k : Nat} {wa0 : Gs} (a0 : List Int) (a1 : Bool) {out : Int × Int × Bool} (hp : impl_ReadUint32_v2 k a0 a1 = some out) : Go.Sx.Fn Tryd.prog 5 [(Vl (Vs wa0)), (Vl (.bool a1))] [(Rw (Ki .u8) 5 (Vs wa0) a0)] (fun w : Unit => (Tu [(Vl (.int .u32 out.1)), (Vl (.int .i64 out.2.1)), (Vl (.bool out.2.2))])) (fun w => []) := by
  unfold impl_ReadUint32_v2 at hp
  refine fnD_of Tryd.func5 rfl Tryd.ntmps5 rfl fun E hM => ?_
  refine cx_seq' fun K1 hK1 => ?_
  refine cx_region' ?_
  refine sx_ox' (ox_alloc' info23 rfl rfl rfl rfl (l := [(Vl (.int .u32 0))]) rfl) (wt_none' rfl) fun q4 => ?_
  refine sx_ox' (ox_alloc' info3 rfl rfl rfl rfl (l := [(Vl (.int .i64 0))]) rfl) (wt_none' rfl) fun q5 => ?_
  refine sx_ox' (ox_alloc' info4 rfl rfl rfl rfl (l := [(Vl (.bool false))]) rfl) (wt_none' rfl) fun q6 => ?_
  refine sx_nil' ?_
  show TX E K1 _
  refine tx_k' hK1 ?_
  refine cx_seq' fun K2 hK2 => ?_
  refine cx_region' ?_
  refine sx_rd' (rd_mkfunc' (us := [.pointer (some q4), .pointer (some q5), .pointer (some q6)]) rfl) rfl rfl (wt_none' rfl) ?_
  refine sx_ox' (ox_defer' rfl rfl) (wt_none' rfl) fun _ => ?_
  refine sx_nil' ?_
  show TX E K2 _
  refine tx_k' hK2 ?_
  refine cx_seq' fun K3 hK3 => ?_
  refine cx_region' ?_
  refine sx_rd' (rd_move' rfl) rfl rfl (wt_none' rfl) ?_
  refine tx_fz' (frz_row 3 [(0, (Vl (Vs wa0)), (Sl (Ki .u8) a0)), (10, (Vl (Vs wa0)), (Sl (Ki .u8) a0))] (K := (Ki .u8)) (xs := a0) (by decide) rfl ⟨⟨rfl, frz_it⟩, ⟨rfl, frz_it⟩, trivial⟩ (H' := [⟨.pointer (some q6), [(Vl (.bool false))], 4, none⟩, ⟨.pointer (some q5), [(Vl (.int .i64 0))], 3, none⟩, ⟨.pointer (some q4), [(Vl (.int .u32 0))], 23, none⟩]) frzH_refl) ?_
  obtain ⟨r11, hr11, hp⟩ := bind_some hp
  refine sx_ox' (ox_calln' (ent_fn' Tryd.func10 isn10 rfl rfl) (bytes_NewBuffer_sim _ hr11 : Go.Sx.Fn Tryd.prog 10 [(Sl (Ki .u8) a0)] [] (fun x : Addr => (Vl (.pointer (some x)))) (fun x => [⟨.pointer (some x), [(Sl (Ki .u8) r11.1), (Vl (.int .i64 r11.2.1)), (Vl (.int .i8 r11.2.2))], 50, none⟩])) (Hn := fun x : Addr => [⟨.pointer (some x), [(Sl (Ki .u8) r11.1), (Vl (.int .i64 r11.2.1)), (Vl (.int .i8 r11.2.2))], 50, none⟩, ⟨.pointer (some q6), [(Vl (.bool false))], 4, none⟩, ⟨.pointer (some q5), [(Vl (.int .i64 0))], 3, none⟩, ⟨.pointer (some q4), [(Vl (.int .u32 0))], 23, none⟩]) (fun _ => rfl) rfl rfl) (wt_none' rfl) fun q11 => ?_
  refine sx_rd' (rd_assign' rfl) rfl rfl (wt_none' rfl) ?_
  refine sx_nil' ?_
  show TX E K3 _
  refine tx_k' hK3 ?_
  refine cx_seq' fun K4 hK4 => ?_
  refine cx_region' ?_
  refine sx_rd' (rd_move' rfl) rfl rfl (wt_none' rfl) ?_
  refine sx_rd' (rd_iface' rfl ⟨_, Tryd.underlying32, fun _ h => (nomatch h)⟩) rfl rfl (wt_none' rfl) ?_
  refine sx_rd' (rd_move' rfl) rfl rfl (wt_none' rfl) ?_
  obtain ⟨r16, hr16, hp⟩ := bind_some hp
  rcases r16 with y2 | y2
  · dsimp only at hp
    refine sx_ox' (ox_calln' (ent_fn' Tryd.func12 isn12 rfl rfl) (wkbcommon_DoorOrder_sim _ hr16 : Go.Sx.Fn Tryd.prog 12 [(Vl (.bool a1))] [] (fun x : Unit => (If 60 (Ag []))) (fun x => [])) (Hn := fun x : Unit => [⟨.pointer (some q11), [(Sl (Ki .u8) r11.1), (Vl (.int .i64 r11.2.1)), (Vl (.int .i8 r11.2.2))], 50, none⟩, ⟨.pointer (some q6), [(Vl (.bool false))], 4, none⟩, ⟨.pointer (some q5), [(Vl (.int .i64 0))], 3, none⟩, ⟨.pointer (some q4), [(Vl (.int .u32 0))], 23, none⟩]) (fun _ => rfl) rfl rfl) (wt_none' rfl) fun ⟨⟩ => ?_
    obtain ⟨r17, hr17, hp⟩ := bind_some hp
    rcases r17 with y3 | y3 | y3 | y3
    · dsimp only at hp
      refine sx_ox' (ox_callg' (ent_fn' Tryd.func11 isn11 rfl rfl) (wkbcommon_ReadUInt32_sim _ _ _ hr17 : Go.Sx.Fn Tryd.prog 11 [(If 32 (Vl (.pointer (some q11)))), (If 60 (Ag []))] [⟨.pointer (some q11), [(Sl (Ki .u8) r11.1), (Vl (.int .i64 r11.2.1)), (Vl (.int .i8 r11.2.2))], 50, none⟩] (fun x : Unit => (Tu [(Vl (.int .u32 y3.2.2.2)), (If 67 (Vl (.pointer (some (Ga.a 2)))))])) (fun x => [⟨.pointer (some q11), [(Sl (Ki .u8) y3.1), (Vl (.int .i64 y3.2.1)), (Vl (.int .i8 y3.2.2.1))], 50, none⟩])) [0] [1, 2, 3] (by decide) (pick_cons rfl pick_nil) (pick_cons rfl (pick_cons rfl (pick_cons rfl pick_nil))) (Hn := fun x : Unit => [⟨.pointer (some q11), [(Sl (Ki .u8) y3.1), (Vl (.int .i64 y3.2.1)), (Vl (.int .i8 y3.2.2.1))], 50, none⟩, ⟨.pointer (some q6), [(Vl (.bool false))], 4, none⟩, ⟨.pointer (some q5), [(Vl (.int .i64 0))], 3, none⟩, ⟨.pointer (some q4), [(Vl (.int .u32 0))], 23, none⟩]) (fun _ => rfl) rfl rfl) (wt_none' rfl) fun ⟨⟩ => ?_
      refine sx_rd' (rd_move' rfl) rfl rfl (wt_none' rfl) ?_
      refine sx_rd' (rd_extract' rfl rfl) rfl rfl (wt_none' rfl) ?_
      refine sx_rd' (rd_extract' rfl rfl) rfl rfl (wt_none' rfl) ?_
      refine sx_ox' (ox_store' (i := 3) (o := 0) rfl rfl (lv_vl rfl rfl) ⟨rfl, rfl, rfl, rfl⟩ rfl info23 rfl (H' := [⟨.pointer (some q11), [(Sl (Ki .u8) y3.1), (Vl (.int .i64 y3.2.1)), (Vl (.int .i8 y3.2.2.1))], 50, none⟩, ⟨.pointer (some q6), [(Vl (.bool false))], 4, none⟩, ⟨.pointer (some q5), [(Vl (.int .i64 0))], 3, none⟩, ⟨.pointer (some q4), [(Vl (.int .u32 y3.2.2.2))], 23, none⟩]) rfl) (wt_none' rfl) fun _ => ?_
      refine sx_rd' (rd_assign' rfl) rfl rfl (wt_none' rfl) ?_
      refine sx_nil' ?_
      show TX E K4 _
      refine tx_k' hK4 ?_
      refine cx_seq' fun K5 hK5 => ?_
      refine cx_plana' [q4.block] [(2, 1), (5, 2), (6, 1), (7, 1)] [(0, 2), (1, 1)] 6 #[true, true, false, false, false, false, false, false] mixed (by kernel_rfl) ?_
      refine px_rb' rfl (rb_load' (i := 3) (o := 0) rfl ⟨rfl, rfl, rfl, rfl⟩ rfl flat23 (by simp)) rfl rfl (wt_none' rfl) ?_
      refine px_rd' rfl (rd_move' rfl) rfl rfl (wt_none' rfl) ?_
      refine px_nil' ?_
      show AX E _ _ _ _ _ _ _ _
      obtain ⟨r22, hr22, hp⟩ := bind_some hp
      refine ax_node (f' := 0) #[true, true, true, true, true, true, true, true] (fun (v11 : Unit) => (⟨25, [⟨.fn (.func 9) ⟨[.pointer (some q4), .pointer (some q5), .pointer (some q6)]⟩, #[]⟩], [(4, (Vl (.pointer (some q4)))), (5, (Vl (.pointer (some q5)))), (6, (Vl (.pointer (some q6))))], [⟨.pointer (some q4), [(Vl (.int .u32 y3.2.2.2))], 23, none⟩, ⟨.pointer (some q5), [(Vl (.int .i64 r22.2.2.2))], 3, none⟩, ⟨.pointer (some q6), [(Vl (.bool false))], 4, none⟩]⟩ : St)) ?_ ?_
      · rintro ⟨⟩
        refine ax_nil (by kernel_rfl) ?_
        show TX E K5 _
        refine tx_k' hK5 ?_
        refine cx_retc' ?_
        replace hp := Option.some.inj hp
        subst hp
        refine tx_leave' (.inl rfl) rfl idle9 rfl Tryd.func9 isn9 rfl ?_
        refine tx_pick' (L' := [(4, (Vl (.pointer (some q4)))), (5, (Vl (.pointer (some q5)))), (6, (Vl (.pointer (some q6))))]) (H' := [⟨.pointer (some q4), [(Vl (.int .u32 y3.2.2.2))], 23, none⟩, ⟨.pointer (some q5), [(Vl (.int .i64 r22.2.2.2))], 3, none⟩, ⟨.pointer (some q6), [(Vl (.bool false))], 4, none⟩]) [0, 1, 2] (sub_cons rfl (sub_cons rfl (sub_cons rfl sub_nil))) (by decide) (pick_cons rfl (pick_cons rfl (pick_cons rfl pick_nil))) ?_
        exact tx_ret3' Tryd.results5 rfl () (rv_cell' (i := 0) (o := 0) rfl ⟨rfl, rfl, rfl, rfl⟩ rfl flat23) (rv_cell' (i := 1) (o := 0) rfl ⟨rfl, rfl, rfl, rfl⟩ rfl flat3) (rv_cell' (i := 2) (o := 0) rfl ⟨rfl, rfl, rfl, rfl⟩ rfl flat4) rfl (List.nil_sublist _)
      intro hN12
      refine ax_node (f' := 1) #[true, true, true, true, true, true, true, false] (fun (v10 : Unit) => (⟨25, [⟨.fn (.func 9) ⟨[.pointer (some q4), .pointer (some q5), .pointer (some q6)]⟩, #[]⟩], [(4, (Vl (.pointer (some q4)))), (5, (Vl (.pointer (some q5)))), (6, (Vl (.pointer (some q6)))), (24, (Vl (.bool false)))], [⟨.pointer (some q4), [(Vl (.int .u32 y3.2.2.2))], 23, none⟩, ⟨.pointer (some q5), [(Vl (.int .i64 r22.2.2.2))], 3, none⟩, ⟨.pointer (some q6), [(Vl (.bool false))], 4, none⟩]⟩ : St)) ?_ ?_
      · rintro ⟨⟩
        refine ax_all (i := 7) (is := []) (by kernel_rfl) (all_cons ?_ all_nil)
        · refine nx_oxv (last := #[true, true, true, true, true, true, true, true]) rfl (oxv_store (i := 2) (o := 0) rfl rfl (lv_vl rfl rfl) ⟨rfl, rfl, rfl, rfl⟩ rfl info4 rfl (H' := [⟨.pointer (some q4), [(Vl (.int .u32 y3.2.2.2))], 23, none⟩, ⟨.pointer (some q5), [(Vl (.int .i64 r22.2.2.2))], 3, none⟩, ⟨.pointer (some q6), [(Vl (.bool false))], 4, none⟩]) rfl) rfl rfl (bo_cons (m := 0) (by decide) rfl rfl bo_nil) (wt_none' rfl) rfl fun _ => ?_
          exact tx_pick' [0, 1, 2] (sub_cons rfl (sub_cons rfl (sub_cons rfl sub_nil))) (by decide) (pick_cons rfl (pick_cons rfl (pick_cons rfl pick_nil))) (hN12 ())
      intro hN11
      refine ax_node (f' := 2) #[true, true, true, true, true, true, false, false] (fun (v8 : Unit) => (⟨25, [⟨.fn (.func 9) ⟨[.pointer (some q4), .pointer (some q5), .pointer (some q6)]⟩, #[]⟩], [(4, (Vl (.pointer (some q4)))), (5, (Vl (.pointer (some q5)))), (6, (Vl (.pointer (some q6)))), (22, (Vl (.int .i64 r22.2.2.2))), (24, (Vl (.bool false)))], [⟨.pointer (some q4), [(Vl (.int .u32 y3.2.2.2))], 23, none⟩, ⟨.pointer (some q5), [(Vl (.int .i64 0))], 3, none⟩, ⟨.pointer (some q6), [(Vl (.bool false))], 4, none⟩]⟩ : St)) ?_ ?_
      · rintro ⟨⟩
        refine ax_all (i := 6) (is := []) (by kernel_rfl) (all_cons ?_ all_nil)
        · refine nx_oxv (last := #[true, true, true, true, true, true, true, false]) rfl (oxv_store (i := 1) (o := 0) rfl rfl (lv_vl rfl rfl) ⟨rfl, rfl, rfl, rfl⟩ rfl info3 rfl (H' := [⟨.pointer (some q4), [(Vl (.int .u32 y3.2.2.2))], 23, none⟩, ⟨.pointer (some q5), [(Vl (.int .i64 r22.2.2.2))], 3, none⟩, ⟨.pointer (some q6), [(Vl (.bool false))], 4, none⟩]) rfl) rfl rfl (bo_cons (m := 0) (by decide) rfl rfl bo_nil) (wt_none' rfl) rfl fun _ => ?_
          exact tx_pick' [0, 1, 2] (sub_cons rfl (sub_cons rfl (sub_cons rfl (sub_cons rfl sub_nil)))) (by decide) (pick_cons rfl (pick_cons rfl (pick_cons rfl pick_nil))) (hN11 ())
      intro hN9
      refine ax_node (f' := 2) #[true, true, true, true, false, true, true, false] (fun (v9 : Unit) => (⟨25, [⟨.fn (.func 9) ⟨[.pointer (some q4), .pointer (some q5), .pointer (some q6)]⟩, #[]⟩], [(4, (Vl (.pointer (some q4)))), (5, (Vl (.pointer (some q5)))), (6, (Vl (.pointer (some q6)))), (23, (If 67 (Vl (.pointer (some (Ga.a 2))))))], [⟨.pointer (some q4), [(Vl (.int .u32 y3.2.2.2))], 23, none⟩, ⟨.pointer (some q5), [(Vl (.int .i64 r22.2.2.2))], 3, none⟩, ⟨.pointer (some q6), [(Vl (.bool false))], 4, none⟩]⟩ : St)) ?_ ?_
      · rintro ⟨⟩
        refine ax_rd (ix := 4) (last := #[true, true, true, true, true, true, true, false]) (by kernel_rfl) rfl (rd_binf' rfl rfl (bf_if (fun _ _ => by kernel_rfl) nil_eql35_if67)) rfl rfl (wt_none' rfl) rfl ?_
        exact tx_pick' [0, 1, 2] (sub_cons rfl (sub_cons rfl (sub_cons rfl (sub_cons rfl sub_nil)))) (by decide) (pick_cons rfl (pick_cons rfl (pick_cons rfl pick_nil))) (hN11 ())
      intro hN10
      refine ax_node (f' := 3) #[true, true, true, true, true, false, false, false] (fun (v6 : Unit) => (⟨25, [⟨.fn (.func 9) ⟨[.pointer (some q4), .pointer (some q5), .pointer (some q6)]⟩, #[]⟩], [(4, (Vl (.pointer (some q4)))), (5, (Vl (.pointer (some q5)))), (6, (Vl (.pointer (some q6)))), (20, (Vl (.int .u32 y3.2.2.2))), (22, (Vl (.int .i64 r22.2.2.2))), (24, (Vl (.bool false)))], [⟨.pointer (some q4), [(Vl (.int .u32 y3.2.2.2))], 23, none⟩, ⟨.pointer (some q5), [(Vl (.int .i64 0))], 3, none⟩, ⟨.pointer (some q6), [(Vl (.bool false))], 4, none⟩]⟩ : St)) ?_ ?_
      · rintro ⟨⟩
        refine ax_all (i := 5) (is := []) (by kernel_rfl) (all_cons ?_ all_nil)
        · refine nx_ox (last := #[true, true, true, true, true, true, false, false]) rfl (ox_store' (i := 0) (o := 0) rfl rfl (lv_vl rfl rfl) ⟨rfl, rfl, rfl, rfl⟩ rfl info23 rfl (H' := [⟨.pointer (some q4), [(Vl (.int .u32 y3.2.2.2))], 23, none⟩, ⟨.pointer (some q5), [(Vl (.int .i64 0))], 3, none⟩, ⟨.pointer (some q6), [(Vl (.bool false))], 4, none⟩]) rfl) rfl (bs_cons (m := 0) rfl rfl rfl bs_nil) (wt_none' rfl) rfl fun _ => ?_
          exact tx_pick' [0, 1, 2] (sub_cons rfl (sub_cons rfl (sub_cons rfl (sub_cons rfl (sub_cons rfl sub_nil))))) (by decide) (pick_cons rfl (pick_cons rfl (pick_cons rfl pick_nil))) (hN9 ())
      intro hN7
      refine ax_node (f' := 3) #[true, true, true, true, false, true, false, false] (fun (v7 : Unit) => (⟨25, [⟨.fn (.func 9) ⟨[.pointer (some q4), .pointer (some q5), .pointer (some q6)]⟩, #[]⟩], [(4, (Vl (.pointer (some q4)))), (5, (Vl (.pointer (some q5)))), (6, (Vl (.pointer (some q6)))), (22, (Vl (.int .i64 r22.2.2.2))), (23, (If 67 (Vl (.pointer (some (Ga.a 2))))))], [⟨.pointer (some q4), [(Vl (.int .u32 y3.2.2.2))], 23, none⟩, ⟨.pointer (some q5), [(Vl (.int .i64 0))], 3, none⟩, ⟨.pointer (some q6), [(Vl (.bool false))], 4, none⟩]⟩ : St)) ?_ ?_
      · rintro ⟨⟩
        refine ax_all (i := 4) (is := [6]) (by kernel_rfl) (all_cons ?_ (all_cons ?_ all_nil))
        · refine nx_rd (last := #[true, true, true, true, true, true, false, false]) rfl (rd_binf' rfl rfl (bf_if (fun _ _ => by kernel_rfl) nil_eql35_if67)) rfl rfl (wt_none' rfl) rfl ?_
          exact tx_pick' [0, 1, 2] (sub_cons rfl (sub_cons rfl (sub_cons rfl (sub_cons rfl (sub_cons rfl sub_nil))))) (by decide) (pick_cons rfl (pick_cons rfl (pick_cons rfl pick_nil))) (hN9 ())
        · refine nx_oxv (last := #[true, true, true, true, false, true, true, false]) rfl (oxv_store (i := 1) (o := 0) rfl rfl (lv_vl rfl rfl) ⟨rfl, rfl, rfl, rfl⟩ rfl info3 rfl (H' := [⟨.pointer (some q4), [(Vl (.int .u32 y3.2.2.2))], 23, none⟩, ⟨.pointer (some q5), [(Vl (.int .i64 r22.2.2.2))], 3, none⟩, ⟨.pointer (some q6), [(Vl (.bool false))], 4, none⟩]) rfl) rfl rfl (bo_cons (m := 0) (by decide) rfl rfl bo_nil) (wt_none' rfl) rfl fun _ => ?_
          exact tx_pick' [0, 1, 2] (sub_cons rfl (sub_cons rfl (sub_cons rfl (sub_cons rfl sub_nil)))) (by decide) (pick_cons rfl (pick_cons rfl (pick_cons rfl pick_nil))) (hN10 ())
      intro hN8
      refine ax_node (f' := 4) #[true, true, true, true, false, false, false, false] (fun (v3 : Unit) => (⟨25, [⟨.fn (.func 9) ⟨[.pointer (some q4), .pointer (some q5), .pointer (some q6)]⟩, #[]⟩], [(4, (Vl (.pointer (some q4)))), (5, (Vl (.pointer (some q5)))), (6, (Vl (.pointer (some q6)))), (20, (Vl (.int .u32 y3.2.2.2))), (22, (Vl (.int .i64 r22.2.2.2))), (23, (If 67 (Vl (.pointer (some (Ga.a 2))))))], [⟨.pointer (some q4), [(Vl (.int .u32 y3.2.2.2))], 23, none⟩, ⟨.pointer (some q5), [(Vl (.int .i64 0))], 3, none⟩, ⟨.pointer (some q6), [(Vl (.bool false))], 4, none⟩]⟩ : St)) ?_ ?_
      · rintro ⟨⟩
        refine ax_all (i := 4) (is := [5]) (by kernel_rfl) (all_cons ?_ (all_cons ?_ all_nil))
        · refine nx_rd (last := #[true, true, true, true, true, false, false, false]) rfl (rd_binf' rfl rfl (bf_if (fun _ _ => by kernel_rfl) nil_eql35_if67)) rfl rfl (wt_none' rfl) rfl ?_
          exact tx_pick' [0, 1, 2] (sub_cons rfl (sub_cons rfl (sub_cons rfl (sub_cons rfl (sub_cons rfl (sub_cons rfl sub_nil)))))) (by decide) (pick_cons rfl (pick_cons rfl (pick_cons rfl pick_nil))) (hN7 ())
        · refine nx_ox (last := #[true, true, true, true, false, true, false, false]) rfl (ox_store' (i := 0) (o := 0) rfl rfl (lv_vl rfl rfl) ⟨rfl, rfl, rfl, rfl⟩ rfl info23 rfl (H' := [⟨.pointer (some q4), [(Vl (.int .u32 y3.2.2.2))], 23, none⟩, ⟨.pointer (some q5), [(Vl (.int .i64 0))], 3, none⟩, ⟨.pointer (some q6), [(Vl (.bool false))], 4, none⟩]) rfl) rfl (bs_cons (m := 0) rfl rfl rfl bs_nil) (wt_none' rfl) rfl fun _ => ?_
          exact tx_pick' [0, 1, 2] (sub_cons rfl (sub_cons rfl (sub_cons rfl (sub_cons rfl (sub_cons rfl sub_nil))))) (by decide) (pick_cons rfl (pick_cons rfl (pick_cons rfl pick_nil))) (hN8 ())
      intro hN4
      refine ax_node (f' := 4) #[true, true, true, false, false, true, false, false] (fun (v4 : Unit) => (⟨25, [⟨.fn (.func 9) ⟨[.pointer (some q4), .pointer (some q5), .pointer (some q6)]⟩, #[]⟩], [(4, (Vl (.pointer (some q4)))), (5, (Vl (.pointer (some q5)))), (6, (Vl (.pointer (some q6)))), (8, (If 67 (Vl (.pointer (some (Ga.a 2)))))), (22, (Vl (.int .i64 r22.2.2.2)))], [⟨.pointer (some q4), [(Vl (.int .u32 y3.2.2.2))], 23, none⟩, ⟨.pointer (some q5), [(Vl (.int .i64 0))], 3, none⟩, ⟨.pointer (some q6), [(Vl (.bool false))], 4, none⟩]⟩ : St)) ?_ ?_
      · rintro ⟨⟩
        refine ax_rb (ix := 3) (last := #[true, true, true, true, false, true, false, false]) (by kernel_rfl) rfl (rb_move' rfl) rfl rfl (wt_none' rfl) rfl ?_
        exact tx_pick' [0, 1, 2] (sub_cons rfl (sub_cons rfl (sub_cons rfl (sub_cons rfl (sub_cons rfl sub_nil))))) (by decide) (pick_cons rfl (pick_cons rfl (pick_cons rfl pick_nil))) (hN8 ())
      intro hN5
      refine ax_node (f' := 4) #[true, true, false, true, true, false, false, false] (fun (v5 : Unit) => (⟨25, [⟨.fn (.func 9) ⟨[.pointer (some q4), .pointer (some q5), .pointer (some q6)]⟩, #[]⟩], [(4, (Vl (.pointer (some q4)))), (5, (Vl (.pointer (some q5)))), (6, (Vl (.pointer (some q6)))), (20, (Vl (.int .u32 y3.2.2.2))), (21, (Vl (.pointer (some q11)))), (24, (Vl (.bool false)))], [⟨.pointer (some q4), [(Vl (.int .u32 y3.2.2.2))], 23, none⟩, ⟨.pointer (some q5), [(Vl (.int .i64 0))], 3, none⟩, ⟨.pointer (some q6), [(Vl (.bool false))], 4, none⟩, ⟨.pointer (some q11), [(Sl (Ki .u8) y3.1), (Vl (.int .i64 y3.2.1)), (Vl (.int .i8 y3.2.2.1))], 50, none⟩]⟩ : St)) ?_ ?_
      · rintro ⟨⟩
        refine ax_all (i := 2) (is := []) (by kernel_rfl) (all_cons ?_ all_nil)
        · refine nx_oxb (is := [3]) (last := #[true, true, true, true, true, false, false, false]) rfl (oxb_callg (ent_fn' Tryd.func13 isn13 rfl rfl) (bytes_Buffer_Len_sim _ _ _ hr22 : Go.Sx.Fn Tryd.prog 13 [(Vl (.pointer (some q11)))] [⟨.pointer (some q11), [(Sl (Ki .u8) y3.1), (Vl (.int .i64 y3.2.1)), (Vl (.int .i8 y3.2.2.1))], 50, none⟩] (fun x : Unit => (Vl (.int .i64 r22.2.2.2))) (fun x => [⟨.pointer (some q11), [(Sl (Ki .u8) r22.1), (Vl (.int .i64 r22.2.1)), (Vl (.int .i8 r22.2.2.1))], 50, none⟩])) [3] [0, 1, 2] (by decide) (pick_cons rfl pick_nil) (pick_cons rfl (pick_cons rfl (pick_cons rfl pick_nil))) (Hn := fun x : Unit => [⟨.pointer (some q11), [(Sl (Ki .u8) r22.1), (Vl (.int .i64 r22.2.1)), (Vl (.int .i8 r22.2.2.1))], 50, none⟩, ⟨.pointer (some q4), [(Vl (.int .u32 y3.2.2.2))], 23, none⟩, ⟨.pointer (some q5), [(Vl (.int .i64 0))], 3, none⟩, ⟨.pointer (some q6), [(Vl (.bool false))], 4, none⟩]) (fun _ => rfl) rfl rfl) (pick_cons rfl pick_nil) rfl (bl_cons (m := 0) (by decide) rfl rfl bl_nil) (wt_none' rfl) rfl fun ⟨⟩ => ?_
          exact tx_pick' [1, 2, 3] (sub_cons rfl (sub_cons rfl (sub_cons rfl (sub_cons rfl (sub_cons rfl (sub_cons rfl sub_nil)))))) (by decide) (pick_cons rfl (pick_cons rfl (pick_cons rfl pick_nil))) (hN7 ())
      intro hN6
      refine ax_node (f' := 5) #[true, true, true, false, false, false, false, false] (fun (v1 : Unit) => (⟨25, [⟨.fn (.func 9) ⟨[.pointer (some q4), .pointer (some q5), .pointer (some q6)]⟩, #[]⟩], [(4, (Vl (.pointer (some q4)))), (5, (Vl (.pointer (some q5)))), (6, (Vl (.pointer (some q6)))), (8, (If 67 (Vl (.pointer (some (Ga.a 2)))))), (20, (Vl (.int .u32 y3.2.2.2))), (22, (Vl (.int .i64 r22.2.2.2)))], [⟨.pointer (some q4), [(Vl (.int .u32 y3.2.2.2))], 23, none⟩, ⟨.pointer (some q5), [(Vl (.int .i64 0))], 3, none⟩, ⟨.pointer (some q6), [(Vl (.bool false))], 4, none⟩]⟩ : St)) ?_ ?_
      · rintro ⟨⟩
        refine ax_all (i := 3) (is := [5]) (by kernel_rfl) (all_cons ?_ (all_cons ?_ all_nil))
        · refine nx_rd (last := #[true, true, true, true, false, false, false, false]) rfl (rd_move' rfl) rfl rfl (wt_none' rfl) rfl ?_
          exact tx_pick' [0, 1, 2] (sub_cons rfl (sub_cons rfl (sub_cons rfl (sub_cons rfl (sub_cons rfl (sub_cons rfl sub_nil)))))) (by decide) (pick_cons rfl (pick_cons rfl (pick_cons rfl pick_nil))) (hN4 ())
        · refine nx_ox (last := #[true, true, true, false, false, true, false, false]) rfl (ox_store' (i := 0) (o := 0) rfl rfl (lv_vl rfl rfl) ⟨rfl, rfl, rfl, rfl⟩ rfl info23 rfl (H' := [⟨.pointer (some q4), [(Vl (.int .u32 y3.2.2.2))], 23, none⟩, ⟨.pointer (some q5), [(Vl (.int .i64 0))], 3, none⟩, ⟨.pointer (some q6), [(Vl (.bool false))], 4, none⟩]) rfl) rfl (bs_cons (m := 0) rfl rfl rfl bs_nil) (wt_none' rfl) rfl fun _ => ?_
          exact tx_pick' [0, 1, 2] (sub_cons rfl (sub_cons rfl (sub_cons rfl (sub_cons rfl (sub_cons rfl sub_nil))))) (by decide) (pick_cons rfl (pick_cons rfl (pick_cons rfl pick_nil))) (hN5 ())
      intro hN2
      refine ax_node (f' := 5) #[true, true, false, true, false, false, false, false] (fun (v2 : Unit) => (⟨25, [⟨.fn (.func 9) ⟨[.pointer (some q4), .pointer (some q5), .pointer (some q6)]⟩, #[]⟩], [(4, (Vl (.pointer (some q4)))), (5, (Vl (.pointer (some q5)))), (6, (Vl (.pointer (some q6)))), (20, (Vl (.int .u32 y3.2.2.2))), (21, (Vl (.pointer (some q11)))), (23, (If 67 (Vl (.pointer (some (Ga.a 2))))))], [⟨.pointer (some q4), [(Vl (.int .u32 y3.2.2.2))], 23, none⟩, ⟨.pointer (some q5), [(Vl (.int .i64 0))], 3, none⟩, ⟨.pointer (some q6), [(Vl (.bool false))], 4, none⟩, ⟨.pointer (some q11), [(Sl (Ki .u8) y3.1), (Vl (.int .i64 y3.2.1)), (Vl (.int .i8 y3.2.2.1))], 50, none⟩]⟩ : St)) ?_ ?_
      · rintro ⟨⟩
        refine ax_all (i := 2) (is := [4]) (by kernel_rfl) (all_cons ?_ (all_cons ?_ all_nil))
        · refine nx_oxb (is := [3]) (last := #[true, true, true, true, false, false, false, false]) rfl (oxb_callg (ent_fn' Tryd.func13 isn13 rfl rfl) (bytes_Buffer_Len_sim _ _ _ hr22 : Go.Sx.Fn Tryd.prog 13 [(Vl (.pointer (some q11)))] [⟨.pointer (some q11), [(Sl (Ki .u8) y3.1), (Vl (.int .i64 y3.2.1)), (Vl (.int .i8 y3.2.2.1))], 50, none⟩] (fun x : Unit => (Vl (.int .i64 r22.2.2.2))) (fun x => [⟨.pointer (some q11), [(Sl (Ki .u8) r22.1), (Vl (.int .i64 r22.2.1)), (Vl (.int .i8 r22.2.2.1))], 50, none⟩])) [3] [0, 1, 2] (by decide) (pick_cons rfl pick_nil) (pick_cons rfl (pick_cons rfl (pick_cons rfl pick_nil))) (Hn := fun x : Unit => [⟨.pointer (some q11), [(Sl (Ki .u8) r22.1), (Vl (.int .i64 r22.2.1)), (Vl (.int .i8 r22.2.2.1))], 50, none⟩, ⟨.pointer (some q4), [(Vl (.int .u32 y3.2.2.2))], 23, none⟩, ⟨.pointer (some q5), [(Vl (.int .i64 0))], 3, none⟩, ⟨.pointer (some q6), [(Vl (.bool false))], 4, none⟩]) (fun _ => rfl) rfl rfl) (pick_cons rfl pick_nil) rfl (bl_cons (m := 0) (by decide) rfl rfl bl_nil) (wt_none' rfl) rfl fun ⟨⟩ => ?_
          exact tx_pick' [1, 2, 3] (sub_cons rfl (sub_cons rfl (sub_cons rfl (sub_cons rfl (sub_cons rfl (sub_cons rfl sub_nil)))))) (by decide) (pick_cons rfl (pick_cons rfl (pick_cons rfl pick_nil))) (hN4 ())
        · refine nx_rd (last := #[true, true, false, true, true, false, false, false]) rfl (rd_binf' rfl rfl (bf_if (fun _ _ => by kernel_rfl) nil_eql35_if67)) rfl rfl (wt_none' rfl) rfl ?_
          exact tx_pick' [0, 1, 2, 3] (sub_cons rfl (sub_cons rfl (sub_cons rfl (sub_cons rfl (sub_cons rfl (sub_cons rfl sub_nil)))))) (by decide) (pick_cons rfl (pick_cons rfl (pick_cons rfl (pick_cons rfl pick_nil)))) (hN6 ())
      intro hN3
      refine ax_all (i := 2) (is := [3]) (by kernel_rfl) (all_cons ?_ (all_cons ?_ all_nil))
      · refine nx_oxb (is := [0]) (last := #[true, true, true, false, false, false, false, false]) rfl (oxb_callg (ent_fn' Tryd.func13 isn13 rfl rfl) (bytes_Buffer_Len_sim _ _ _ hr22 : Go.Sx.Fn Tryd.prog 13 [(Vl (.pointer (some q11)))] [⟨.pointer (some q11), [(Sl (Ki .u8) y3.1), (Vl (.int .i64 y3.2.1)), (Vl (.int .i8 y3.2.2.1))], 50, none⟩] (fun x : Unit => (Vl (.int .i64 r22.2.2.2))) (fun x => [⟨.pointer (some q11), [(Sl (Ki .u8) r22.1), (Vl (.int .i64 r22.2.1)), (Vl (.int .i8 r22.2.2.1))], 50, none⟩])) [0] [1, 2, 3] (by decide) (pick_cons rfl pick_nil) (pick_cons rfl (pick_cons rfl (pick_cons rfl pick_nil))) (Hn := fun x : Unit => [⟨.pointer (some q11), [(Sl (Ki .u8) r22.1), (Vl (.int .i64 r22.2.1)), (Vl (.int .i8 r22.2.2.1))], 50, none⟩, ⟨.pointer (some q6), [(Vl (.bool false))], 4, none⟩, ⟨.pointer (some q5), [(Vl (.int .i64 0))], 3, none⟩, ⟨.pointer (some q4), [(Vl (.int .u32 y3.2.2.2))], 23, none⟩]) (fun _ => rfl) rfl rfl) (pick_cons rfl pick_nil) rfl (bl_cons (m := 3) (by decide) rfl rfl bl_nil) (wt_none' rfl) rfl fun ⟨⟩ => ?_
        exact tx_pick' [3, 2, 1] (sub_cons rfl (sub_cons rfl (sub_cons rfl (sub_cons rfl (sub_cons rfl (sub_cons rfl sub_nil)))))) (by decide) (pick_cons rfl (pick_cons rfl (pick_cons rfl pick_nil))) (hN2 ())
      · refine nx_rd (last := #[true, true, false, true, false, false, false, false]) rfl (rd_move' rfl) rfl rfl (wt_none' rfl) rfl ?_
        exact tx_pick' [3, 2, 1, 0] (sub_cons rfl (sub_cons rfl (sub_cons rfl (sub_cons rfl (sub_cons rfl (sub_cons rfl sub_nil)))))) (by decide) (pick_cons rfl (pick_cons rfl (pick_cons rfl (pick_cons rfl pick_nil)))) (hN3 ())
    · dsimp only at hp
      refine sx_ox' (ox_callg' (ent_fn' Tryd.func11 isn11 rfl rfl) (wkbcommon_ReadUInt32_sim _ _ _ hr17 : Go.Sx.Fn Tryd.prog 11 [(If 32 (Vl (.pointer (some q11)))), (If 60 (Ag []))] [⟨.pointer (some q11), [(Sl (Ki .u8) r11.1), (Vl (.int .i64 r11.2.1)), (Vl (.int .i8 r11.2.2))], 50, none⟩] (fun x : Unit => (Tu [(Vl (.int .u32 y3.2.2.2)), (Vl .nilIface)])) (fun x => [⟨.pointer (some q11), [(Sl (Ki .u8) y3.1), (Vl (.int .i64 y3.2.1)), (Vl (.int .i8 y3.2.2.1))], 50, none⟩])) [0] [1, 2, 3] (by decide) (pick_cons rfl pick_nil) (pick_cons rfl (pick_cons rfl (pick_cons rfl pick_nil))) (Hn := fun x : Unit => [⟨.pointer (some q11), [(Sl (Ki .u8) y3.1), (Vl (.int .i64 y3.2.1)), (Vl (.int .i8 y3.2.2.1))], 50, none⟩, ⟨.pointer (some q6), [(Vl (.bool false))], 4, none⟩, ⟨.pointer (some q5), [(Vl (.int .i64 0))], 3, none⟩, ⟨.pointer (some q4), [(Vl (.int .u32 0))], 23, none⟩]) (fun _ => rfl) rfl rfl) (wt_none' rfl) fun ⟨⟩ => ?_
      refine sx_rd' (rd_move' rfl) rfl rfl (wt_none' rfl) ?_
      refine sx_rd' (rd_extract' rfl rfl) rfl rfl (wt_none' rfl) ?_
      refine sx_rd' (rd_extract' rfl rfl) rfl rfl (wt_none' rfl) ?_
      refine sx_ox' (ox_store' (i := 3) (o := 0) rfl rfl (lv_vl rfl rfl) ⟨rfl, rfl, rfl, rfl⟩ rfl info23 rfl (H' := [⟨.pointer (some q11), [(Sl (Ki .u8) y3.1), (Vl (.int .i64 y3.2.1)), (Vl (.int .i8 y3.2.2.1))], 50, none⟩, ⟨.pointer (some q6), [(Vl (.bool false))], 4, none⟩, ⟨.pointer (some q5), [(Vl (.int .i64 0))], 3, none⟩, ⟨.pointer (some q4), [(Vl (.int .u32 y3.2.2.2))], 23, none⟩]) rfl) (wt_none' rfl) fun _ => ?_
      refine sx_rd' (rd_assign' rfl) rfl rfl (wt_none' rfl) ?_
      refine sx_nil' ?_
      show TX E K4 _
      refine tx_k' hK4 ?_
      refine cx_seq' fun K5 hK5 => ?_
      refine cx_plana' [q4.block] [(2, 1), (5, 2), (6, 1), (7, 1)] [(0, 2), (1, 1)] 6 #[true, true, false, false, false, false, false, false] mixed (by kernel_rfl) ?_
      refine px_rb' rfl (rb_load' (i := 3) (o := 0) rfl ⟨rfl, rfl, rfl, rfl⟩ rfl flat23 (by simp)) rfl rfl (wt_none' rfl) ?_
      refine px_rd' rfl (rd_move' rfl) rfl rfl (wt_none' rfl) ?_
      refine px_nil' ?_
      show AX E _ _ _ _ _ _ _ _
      obtain ⟨r22, hr22, hp⟩ := bind_some hp
      refine ax_node (f' := 0) #[true, true, true, true, true, true, true, true] (fun (v11 : Unit) => (⟨25, [⟨.fn (.func 9) ⟨[.pointer (some q4), .pointer (some q5), .pointer (some q6)]⟩, #[]⟩], [(4, (Vl (.pointer (some q4)))), (5, (Vl (.pointer (some q5)))), (6, (Vl (.pointer (some q6))))], [⟨.pointer (some q4), [(Vl (.int .u32 y3.2.2.2))], 23, none⟩, ⟨.pointer (some q5), [(Vl (.int .i64 r22.2.2.2))], 3, none⟩, ⟨.pointer (some q6), [(Vl (.bool true))], 4, none⟩]⟩ : St)) ?_ ?_
      · rintro ⟨⟩
        refine ax_nil (by kernel_rfl) ?_
        show TX E K5 _
        refine tx_k' hK5 ?_
        refine cx_retc' ?_
        replace hp := Option.some.inj hp
        subst hp
        refine tx_leave' (.inl rfl) rfl idle9 rfl Tryd.func9 isn9 rfl ?_
        refine tx_pick' (L' := [(4, (Vl (.pointer (some q4)))), (5, (Vl (.pointer (some q5)))), (6, (Vl (.pointer (some q6))))]) (H' := [⟨.pointer (some q4), [(Vl (.int .u32 y3.2.2.2))], 23, none⟩, ⟨.pointer (some q5), [(Vl (.int .i64 r22.2.2.2))], 3, none⟩, ⟨.pointer (some q6), [(Vl (.bool true))], 4, none⟩]) [0, 1, 2] (sub_cons rfl (sub_cons rfl (sub_cons rfl sub_nil))) (by decide) (pick_cons rfl (pick_cons rfl (pick_cons rfl pick_nil))) ?_
        exact tx_ret3' Tryd.results5 rfl () (rv_cell' (i := 0) (o := 0) rfl ⟨rfl, rfl, rfl, rfl⟩ rfl flat23) (rv_cell' (i := 1) (o := 0) rfl ⟨rfl, rfl, rfl, rfl⟩ rfl flat3) (rv_cell' (i := 2) (o := 0) rfl ⟨rfl, rfl, rfl, rfl⟩ rfl flat4) rfl (List.nil_sublist _)
      intro hN12
      refine ax_node (f' := 1) #[true, true, true, true, true, true, true, false] (fun (v10 : Unit) => (⟨25, [⟨.fn (.func 9) ⟨[.pointer (some q4), .pointer (some q5), .pointer (some q6)]⟩, #[]⟩], [(4, (Vl (.pointer (some q4)))), (5, (Vl (.pointer (some q5)))), (6, (Vl (.pointer (some q6)))), (24, (Vl (.bool true)))], [⟨.pointer (some q4), [(Vl (.int .u32 y3.2.2.2))], 23, none⟩, ⟨.pointer (some q5), [(Vl (.int .i64 r22.2.2.2))], 3, none⟩, ⟨.pointer (some q6), [(Vl (.bool false))], 4, none⟩]⟩ : St)) ?_ ?_
      · rintro ⟨⟩
        refine ax_all (i := 7) (is := []) (by kernel_rfl) (all_cons ?_ all_nil)
        · refine nx_oxv (last := #[true, true, true, true, true, true, true, true]) rfl (oxv_store (i := 2) (o := 0) rfl rfl (lv_vl rfl rfl) ⟨rfl, rfl, rfl, rfl⟩ rfl info4 rfl (H' := [⟨.pointer (some q4), [(Vl (.int .u32 y3.2.2.2))], 23, none⟩, ⟨.pointer (some q5), [(Vl (.int .i64 r22.2.2.2))], 3, none⟩, ⟨.pointer (some q6), [(Vl (.bool true))], 4, none⟩]) rfl) rfl rfl (bo_cons (m := 0) (by decide) rfl rfl bo_nil) (wt_none' rfl) rfl fun _ => ?_
          exact tx_pick' [0, 1, 2] (sub_cons rfl (sub_cons rfl (sub_cons rfl sub_nil))) (by decide) (pick_cons rfl (pick_cons rfl (pick_cons rfl pick_nil))) (hN12 ())
      intro hN11
      refine ax_node (f' := 2) #[true, true, true, true, true, true, false, false] (fun (v8 : Unit) => (⟨25, [⟨.fn (.func 9) ⟨[.pointer (some q4), .pointer (some q5), .pointer (some q6)]⟩, #[]⟩], [(4, (Vl (.pointer (some q4)))), (5, (Vl (.pointer (some q5)))), (6, (Vl (.pointer (some q6)))), (22, (Vl (.int .i64 r22.2.2.2))), (24, (Vl (.bool true)))], [⟨.pointer (some q4), [(Vl (.int .u32 y3.2.2.2))], 23, none⟩, ⟨.pointer (some q5), [(Vl (.int .i64 0))], 3, none⟩, ⟨.pointer (some q6), [(Vl (.bool false))], 4, none⟩]⟩ : St)) ?_ ?_
      · rintro ⟨⟩
        refine ax_all (i := 6) (is := []) (by kernel_rfl) (all_cons ?_ all_nil)
        · refine nx_oxv (last := #[true, true, true, true, true, true, true, false]) rfl (oxv_store (i := 1) (o := 0) rfl rfl (lv_vl rfl rfl) ⟨rfl, rfl, rfl, rfl⟩ rfl info3 rfl (H' := [⟨.pointer (some q4), [(Vl (.int .u32 y3.2.2.2))], 23, none⟩, ⟨.pointer (some q5), [(Vl (.int .i64 r22.2.2.2))], 3, none⟩, ⟨.pointer (some q6), [(Vl (.bool false))], 4, none⟩]) rfl) rfl rfl (bo_cons (m := 0) (by decide) rfl rfl bo_nil) (wt_none' rfl) rfl fun _ => ?_
          exact tx_pick' [0, 1, 2] (sub_cons rfl (sub_cons rfl (sub_cons rfl (sub_cons rfl sub_nil)))) (by decide) (pick_cons rfl (pick_cons rfl (pick_cons rfl pick_nil))) (hN11 ())
      intro hN9
      refine ax_node (f' := 2) #[true, true, true, true, false, true, true, false] (fun (v9 : Unit) => (⟨25, [⟨.fn (.func 9) ⟨[.pointer (some q4), .pointer (some q5), .pointer (some q6)]⟩, #[]⟩], [(4, (Vl (.pointer (some q4)))), (5, (Vl (.pointer (some q5)))), (6, (Vl (.pointer (some q6)))), (23, (Vl .nilIface))], [⟨.pointer (some q4), [(Vl (.int .u32 y3.2.2.2))], 23, none⟩, ⟨.pointer (some q5), [(Vl (.int .i64 r22.2.2.2))], 3, none⟩, ⟨.pointer (some q6), [(Vl (.bool false))], 4, none⟩]⟩ : St)) ?_ ?_
      · rintro ⟨⟩
        refine ax_rd (ix := 4) (last := #[true, true, true, true, true, true, true, false]) (by kernel_rfl) rfl (rd_binf' rfl rfl (bf_vl (fun _ => by kernel_rfl) nil_eql35_nilif)) rfl rfl (wt_none' rfl) rfl ?_
        exact tx_pick' [0, 1, 2] (sub_cons rfl (sub_cons rfl (sub_cons rfl (sub_cons rfl sub_nil)))) (by decide) (pick_cons rfl (pick_cons rfl (pick_cons rfl pick_nil))) (hN11 ())
      intro hN10
      refine ax_node (f' := 3) #[true, true, true, true, true, false, false, false] (fun (v6 : Unit) => (⟨25, [⟨.fn (.func 9) ⟨[.pointer (some q4), .pointer (some q5), .pointer (some q6)]⟩, #[]⟩], [(4, (Vl (.pointer (some q4)))), (5, (Vl (.pointer (some q5)))), (6, (Vl (.pointer (some q6)))), (20, (Vl (.int .u32 y3.2.2.2))), (22, (Vl (.int .i64 r22.2.2.2))), (24, (Vl (.bool true)))], [⟨.pointer (some q4), [(Vl (.int .u32 y3.2.2.2))], 23, none⟩, ⟨.pointer (some q5), [(Vl (.int .i64 0))], 3, none⟩, ⟨.pointer (some q6), [(Vl (.bool false))], 4, none⟩]⟩ : St)) ?_ ?_
      · rintro ⟨⟩
        refine ax_all (i := 5) (is := []) (by kernel_rfl) (all_cons ?_ all_nil)
        · refine nx_ox (last := #[true, true, true, true, true, true, false, false]) rfl (ox_store' (i := 0) (o := 0) rfl rfl (lv_vl rfl rfl) ⟨rfl, rfl, rfl, rfl⟩ rfl info23 rfl (H' := [⟨.pointer (some q4), [(Vl (.int .u32 y3.2.2.2))], 23, none⟩, ⟨.pointer (some q5), [(Vl (.int .i64 0))], 3, none⟩, ⟨.pointer (some q6), [(Vl (.bool false))], 4, none⟩]) rfl) rfl (bs_cons (m := 0) rfl rfl rfl bs_nil) (wt_none' rfl) rfl fun _ => ?_
          exact tx_pick' [0, 1, 2] (sub_cons rfl (sub_cons rfl (sub_cons rfl (sub_cons rfl (sub_cons rfl sub_nil))))) (by decide) (pick_cons rfl (pick_cons rfl (pick_cons rfl pick_nil))) (hN9 ())
      intro hN7
      refine ax_node (f' := 3) #[true, true, true, true, false, true, false, false] (fun (v7 : Unit) => (⟨25, [⟨.fn (.func 9) ⟨[.pointer (some q4), .pointer (some q5), .pointer (some q6)]⟩, #[]⟩], [(4, (Vl (.pointer (some q4)))), (5, (Vl (.pointer (some q5)))), (6, (Vl (.pointer (some q6)))), (22, (Vl (.int .i64 r22.2.2.2))), (23, (Vl .nilIface))], [⟨.pointer (some q4), [(Vl (.int .u32 y3.2.2.2))], 23, none⟩, ⟨.pointer (some q5), [(Vl (.int .i64 0))], 3, none⟩, ⟨.pointer (some q6), [(Vl (.bool false))], 4, none⟩]⟩ : St)) ?_ ?_
      · rintro ⟨⟩
        refine ax_all (i := 4) (is := [6]) (by kernel_rfl) (all_cons ?_ (all_cons ?_ all_nil))
        · refine nx_rd (last := #[true, true, true, true, true, true, false, false]) rfl (rd_binf' rfl rfl (bf_vl (fun _ => by kernel_rfl) nil_eql35_nilif)) rfl rfl (wt_none' rfl) rfl ?_
          exact tx_pick' [0, 1, 2] (sub_cons rfl (sub_cons rfl (sub_cons rfl (sub_cons rfl (sub_cons rfl sub_nil))))) (by decide) (pick_cons rfl (pick_cons rfl (pick_cons rfl pick_nil))) (hN9 ())
        · refine nx_oxv (last := #[true, true, true, true, false, true, true, false]) rfl (oxv_store (i := 1) (o := 0) rfl rfl (lv_vl rfl rfl) ⟨rfl, rfl, rfl, rfl⟩ rfl info3 rfl (H' := [⟨.pointer (some q4), [(Vl (.int .u32 y3.2.2.2))], 23, none⟩, ⟨.pointer (some q5), [(Vl (.int .i64 r22.2.2.2))], 3, none⟩, ⟨.pointer (some q6), [(Vl (.bool false))], 4, none⟩]) rfl) rfl rfl (bo_cons (m := 0) (by decide) rfl rfl bo_nil) (wt_none' rfl) rfl fun _ => ?_
          exact tx_pick' [0, 1, 2] (sub_cons rfl (sub_cons rfl (sub_cons rfl (sub_cons rfl sub_nil)))) (by decide) (pick_cons rfl (pick_cons rfl (pick_cons rfl pick_nil))) (hN10 ())
      intro hN8
      refine ax_node (f' := 4) #[true, true, true, true, false, false, false, false] (fun (v3 : Unit) => (⟨25, [⟨.fn (.func 9) ⟨[.pointer (some q4), .pointer (some q5), .pointer (some q6)]⟩, #[]⟩], [(4, (Vl (.pointer (some q4)))), (5, (Vl (.pointer (some q5)))), (6, (Vl (.pointer (some q6)))), (20, (Vl (.int .u32 y3.2.2.2))), (22, (Vl (.int .i64 r22.2.2.2))), (23, (Vl .nilIface))], [⟨.pointer (some q4), [(Vl (.int .u32 y3.2.2.2))], 23, none⟩, ⟨.pointer (some q5), [(Vl (.int .i64 0))], 3, none⟩, ⟨.pointer (some q6), [(Vl (.bool false))], 4, none⟩]⟩ : St)) ?_ ?_
      · rintro ⟨⟩
        refine ax_all (i := 4) (is := [5]) (by kernel_rfl) (all_cons ?_ (all_cons ?_ all_nil))
        · refine nx_rd (last := #[true, true, true, true, true, false, false, false]) rfl (rd_binf' rfl rfl (bf_vl (fun _ => by kernel_rfl) nil_eql35_nilif)) rfl rfl (wt_none' rfl) rfl ?_
          exact tx_pick' [0, 1, 2] (sub_cons rfl (sub_cons rfl (sub_cons rfl (sub_cons rfl (sub_cons rfl (sub_cons rfl sub_nil)))))) (by decide) (pick_cons rfl (pick_cons rfl (pick_cons rfl pick_nil))) (hN7 ())
        · refine nx_ox (last := #[true, true, true, true, false, true, false, false]) rfl (ox_store' (i := 0) (o := 0) rfl rfl (lv_vl rfl rfl) ⟨rfl, rfl, rfl, rfl⟩ rfl info23 rfl (H' := [⟨.pointer (some q4), [(Vl (.int .u32 y3.2.2.2))], 23, none⟩, ⟨.pointer (some q5), [(Vl (.int .i64 0))], 3, none⟩, ⟨.pointer (some q6), [(Vl (.bool false))], 4, none⟩]) rfl) rfl (bs_cons (m := 0) rfl rfl rfl bs_nil) (wt_none' rfl) rfl fun _ => ?_
          exact tx_pick' [0, 1, 2] (sub_cons rfl (sub_cons rfl (sub_cons rfl (sub_cons rfl (sub_cons rfl sub_nil))))) (by decide) (pick_cons rfl (pick_cons rfl (pick_cons rfl pick_nil))) (hN8 ())
      intro hN4
      refine ax_node (f' := 4) #[true, true, true, false, false, true, false, false] (fun (v4 : Unit) => (⟨25, [⟨.fn (.func 9) ⟨[.pointer (some q4), .pointer (some q5), .pointer (some q6)]⟩, #[]⟩], [(4, (Vl (.pointer (some q4)))), (5, (Vl (.pointer (some q5)))), (6, (Vl (.pointer (some q6)))), (8, (Vl .nilIface)), (22, (Vl (.int .i64 r22.2.2.2)))], [⟨.pointer (some q4), [(Vl (.int .u32 y3.2.2.2))], 23, none⟩, ⟨.pointer (some q5), [(Vl (.int .i64 0))], 3, none⟩, ⟨.pointer (some q6), [(Vl (.bool false))], 4, none⟩]⟩ : St)) ?_ ?_
      · rintro ⟨⟩
        refine ax_rb (ix := 3) (last := #[true, true, true, true, false, true, false, false]) (by kernel_rfl) rfl (rb_move' rfl) rfl rfl (wt_none' rfl) rfl ?_
        exact tx_pick' [0, 1, 2] (sub_cons rfl (sub_cons rfl (sub_cons rfl (sub_cons rfl (sub_cons rfl sub_nil))))) (by decide) (pick_cons rfl (pick_cons rfl (pick_cons rfl pick_nil))) (hN8 ())
      intro hN5
      refine ax_node (f' := 4) #[true, true, false, true, true, false, false, false] (fun (v5 : Unit) => (⟨25, [⟨.fn (.func 9) ⟨[.pointer (some q4), .pointer (some q5), .pointer (some q6)]⟩, #[]⟩], [(4, (Vl (.pointer (some q4)))), (5, (Vl (.pointer (some q5)))), (6, (Vl (.pointer (some q6)))), (20, (Vl (.int .u32 y3.2.2.2))), (21, (Vl (.pointer (some q11)))), (24, (Vl (.bool true)))], [⟨.pointer (some q4), [(Vl (.int .u32 y3.2.2.2))], 23, none⟩, ⟨.pointer (some q5), [(Vl (.int .i64 0))], 3, none⟩, ⟨.pointer (some q6), [(Vl (.bool false))], 4, none⟩, ⟨.pointer (some q11), [(Sl (Ki .u8) y3.1), (Vl (.int .i64 y3.2.1)), (Vl (.int .i8 y3.2.2.1))], 50, none⟩]⟩ : St)) ?_ ?_
      · rintro ⟨⟩
        refine ax_all (i := 2) (is := []) (by kernel_rfl) (all_cons ?_ all_nil)
        · refine nx_oxb (is := [3]) (last := #[true, true, true, true, true, false, false, false]) rfl (oxb_callg (ent_fn' Tryd.func13 isn13 rfl rfl) (bytes_Buffer_Len_sim _ _ _ hr22 : Go.Sx.Fn Tryd.prog 13 [(Vl (.pointer (some q11)))] [⟨.pointer (some q11), [(Sl (Ki .u8) y3.1), (Vl (.int .i64 y3.2.1)), (Vl (.int .i8 y3.2.2.1))], 50, none⟩] (fun x : Unit => (Vl (.int .i64 r22.2.2.2))) (fun x => [⟨.pointer (some q11), [(Sl (Ki .u8) r22.1), (Vl (.int .i64 r22.2.1)), (Vl (.int .i8 r22.2.2.1))], 50, none⟩])) [3] [0, 1, 2] (by decide) (pick_cons rfl pick_nil) (pick_cons rfl (pick_cons rfl (pick_cons rfl pick_nil))) (Hn := fun x : Unit => [⟨.pointer (some q11), [(Sl (Ki .u8) r22.1), (Vl (.int .i64 r22.2.1)), (Vl (.int .i8 r22.2.2.1))], 50, none⟩, ⟨.pointer (some q4), [(Vl (.int .u32 y3.2.2.2))], 23, none⟩, ⟨.pointer (some q5), [(Vl (.int .i64 0))], 3, none⟩, ⟨.pointer (some q6), [(Vl (.bool false))], 4, none⟩]) (fun _ => rfl) rfl rfl) (pick_cons rfl pick_nil) rfl (bl_cons (m := 0) (by decide) rfl rfl bl_nil) (wt_none' rfl) rfl fun ⟨⟩ => ?_
          exact tx_pick' [1, 2, 3] (sub_cons rfl (sub_cons rfl (sub_cons rfl (sub_cons rfl (sub_cons rfl (sub_cons rfl sub_nil)))))) (by decide) (pick_cons rfl (pick_cons rfl (pick_cons rfl pick_nil))) (hN7 ())
      intro hN6
      refine ax_node (f' := 5) #[true, true, true, false, false, false, false, false] (fun (v1 : Unit) => (⟨25, [⟨.fn (.func 9) ⟨[.pointer (some q4), .pointer (some q5), .pointer (some q6)]⟩, #[]⟩], [(4, (Vl (.pointer (some q4)))), (5, (Vl (.pointer (some q5)))), (6, (Vl (.pointer (some q6)))), (8, (Vl .nilIface)), (20, (Vl (.int .u32 y3.2.2.2))), (22, (Vl (.int .i64 r22.2.2.2)))], [⟨.pointer (some q4), [(Vl (.int .u32 y3.2.2.2))], 23, none⟩, ⟨.pointer (some q5), [(Vl (.int .i64 0))], 3, none⟩, ⟨.pointer (some q6), [(Vl (.bool false))], 4, none⟩]⟩ : St)) ?_ ?_
      · rintro ⟨⟩
        refine ax_all (i := 3) (is := [5]) (by kernel_rfl) (all_cons ?_ (all_cons ?_ all_nil))
        · refine nx_rd (last := #[true, true, true, true, false, false, false, false]) rfl (rd_move' rfl) rfl rfl (wt_none' rfl) rfl ?_
          exact tx_pick' [0, 1, 2] (sub_cons rfl (sub_cons rfl (sub_cons rfl (sub_cons rfl (sub_cons rfl (sub_cons rfl sub_nil)))))) (by decide) (pick_cons rfl (pick_cons rfl (pick_cons rfl pick_nil))) (hN4 ())
        · refine nx_ox (last := #[true, true, true, false, false, true, false, false]) rfl (ox_store' (i := 0) (o := 0) rfl rfl (lv_vl rfl rfl) ⟨rfl, rfl, rfl, rfl⟩ rfl info23 rfl (H' := [⟨.pointer (some q4), [(Vl (.int .u32 y3.2.2.2))], 23, none⟩, ⟨.pointer (some q5), [(Vl (.int .i64 0))], 3, none⟩, ⟨.pointer (some q6), [(Vl (.bool false))], 4, none⟩]) rfl) rfl (bs_cons (m := 0) rfl rfl rfl bs_nil) (wt_none' rfl) rfl fun _ => ?_
          exact tx_pick' [0, 1, 2] (sub_cons rfl (sub_cons rfl (sub_cons rfl (sub_cons rfl (sub_cons rfl sub_nil))))) (by decide) (pick_cons rfl (pick_cons rfl (pick_cons rfl pick_nil))) (hN5 ())
      intro hN2
      refine ax_node (f' := 5) #[true, true, false, true, false, false, false, false] (fun (v2 : Unit) => (⟨25, [⟨.fn (.func 9) ⟨[.pointer (some q4), .pointer (some q5), .pointer (some q6)]⟩, #[]⟩], [(4, (Vl (.pointer (some q4)))), (5, (Vl (.pointer (some q5)))), (6, (Vl (.pointer (some q6)))), (20, (Vl (.int .u32 y3.2.2.2))), (21, (Vl (.pointer (some q11)))), (23, (Vl .nilIface))], [⟨.pointer (some q4), [(Vl (.int .u32 y3.2.2.2))], 23, none⟩, ⟨.pointer (some q5), [(Vl (.int .i64 0))], 3, none⟩, ⟨.pointer (some q6), [(Vl (.bool false))], 4, none⟩, ⟨.pointer (some q11), [(Sl (Ki .u8) y3.1), (Vl (.int .i64 y3.2.1)), (Vl (.int .i8 y3.2.2.1))], 50, none⟩]⟩ : St)) ?_ ?_
      · rintro ⟨⟩
        refine ax_all (i := 2) (is := [4]) (by kernel_rfl) (all_cons ?_ (all_cons ?_ all_nil))
        · refine nx_oxb (is := [3]) (last := #[true, true, true, true, false, false, false, false]) rfl (oxb_callg (ent_fn' Tryd.func13 isn13 rfl rfl) (bytes_Buffer_Len_sim _ _ _ hr22 : Go.Sx.Fn Tryd.prog 13 [(Vl (.pointer (some q11)))] [⟨.pointer (some q11), [(Sl (Ki .u8) y3.1), (Vl (.int .i64 y3.2.1)), (Vl (.int .i8 y3.2.2.1))], 50, none⟩] (fun x : Unit => (Vl (.int .i64 r22.2.2.2))) (fun x => [⟨.pointer (some q11), [(Sl (Ki .u8) r22.1), (Vl (.int .i64 r22.2.1)), (Vl (.int .i8 r22.2.2.1))], 50, none⟩])) [3] [0, 1, 2] (by decide) (pick_cons rfl pick_nil) (pick_cons rfl (pick_cons rfl (pick_cons rfl pick_nil))) (Hn := fun x : Unit => [⟨.pointer (some q11), [(Sl (Ki .u8) r22.1), (Vl (.int .i64 r22.2.1)), (Vl (.int .i8 r22.2.2.1))], 50, none⟩, ⟨.pointer (some q4), [(Vl (.int .u32 y3.2.2.2))], 23, none⟩, ⟨.pointer (some q5), [(Vl (.int .i64 0))], 3, none⟩, ⟨.pointer (some q6), [(Vl (.bool false))], 4, none⟩]) (fun _ => rfl) rfl rfl) (pick_cons rfl pick_nil) rfl (bl_cons (m := 0) (by decide) rfl rfl bl_nil) (wt_none' rfl) rfl fun ⟨⟩ => ?_
          exact tx_pick' [1, 2, 3] (sub_cons rfl (sub_cons rfl (sub_cons rfl (sub_cons rfl (sub_cons rfl (sub_cons rfl sub_nil)))))) (by decide) (pick_cons rfl (pick_cons rfl (pick_cons rfl pick_nil))) (hN4 ())
        · refine nx_rd (last := #[true, true, false, true, true, false, false, false]) rfl (rd_binf' rfl rfl (bf_vl (fun _ => by kernel_rfl) nil_eql35_nilif)) rfl rfl (wt_none' rfl) rfl ?_
          exact tx_pick' [0, 1, 2, 3] (sub_cons rfl (sub_cons rfl (sub_cons rfl (sub_cons rfl (sub_cons rfl (sub_cons rfl sub_nil)))))) (by decide) (pick_cons rfl (pick_cons rfl (pick_cons rfl (pick_cons rfl pick_nil)))) (hN6 ())
      intro hN3
      refine ax_all (i := 2) (is := [3]) (by kernel_rfl) (all_cons ?_ (all_cons ?_ all_nil))
      · refine nx_oxb (is := [0]) (last := #[true, true, true, false, false, false, false, false]) rfl (oxb_callg (ent_fn' Tryd.func13 isn13 rfl rfl) (bytes_Buffer_Len_sim _ _ _ hr22 : Go.Sx.Fn Tryd.prog 13 [(Vl (.pointer (some q11)))] [⟨.pointer (some q11), [(Sl (Ki .u8) y3.1), (Vl (.int .i64 y3.2.1)), (Vl (.int .i8 y3.2.2.1))], 50, none⟩] (fun x : Unit => (Vl (.int .i64 r22.2.2.2))) (fun x => [⟨.pointer (some q11), [(Sl (Ki .u8) r22.1), (Vl (.int .i64 r22.2.1)), (Vl (.int .i8 r22.2.2.1))], 50, none⟩])) [0] [1, 2, 3] (by decide) (pick_cons rfl pick_nil) (pick_cons rfl (pick_cons rfl (pick_cons rfl pick_nil))) (Hn := fun x : Unit => [⟨.pointer (some q11), [(Sl (Ki .u8) r22.1), (Vl (.int .i64 r22.2.1)), (Vl (.int .i8 r22.2.2.1))], 50, none⟩, ⟨.pointer (some q6), [(Vl (.bool false))], 4, none⟩, ⟨.pointer (some q5), [(Vl (.int .i64 0))], 3, none⟩, ⟨.pointer (some q4), [(Vl (.int .u32 y3.2.2.2))], 23, none⟩]) (fun _ => rfl) rfl rfl) (pick_cons rfl pick_nil) rfl (bl_cons (m := 3) (by decide) rfl rfl bl_nil) (wt_none' rfl) rfl fun ⟨⟩ => ?_
        exact tx_pick' [3, 2, 1] (sub_cons rfl (sub_cons rfl (sub_cons rfl (sub_cons rfl (sub_cons rfl (sub_cons rfl sub_nil)))))) (by decide) (pick_cons rfl (pick_cons rfl (pick_cons rfl pick_nil))) (hN2 ())
      · refine nx_rd (last := #[true, true, false, true, false, false, false, false]) rfl (rd_move' rfl) rfl rfl (wt_none' rfl) rfl ?_
        exact tx_pick' [3, 2, 1, 0] (sub_cons rfl (sub_cons rfl (sub_cons rfl (sub_cons rfl (sub_cons rfl (sub_cons rfl sub_nil)))))) (by decide) (pick_cons rfl (pick_cons rfl (pick_cons rfl (pick_cons rfl pick_nil)))) (hN3 ())
    · dsimp only at hp
      refine sx_ox' (ox_callg' (ent_fn' Tryd.func11 isn11 rfl rfl) (wkbcommon_ReadUInt32_sim _ _ _ hr17 : Go.Sx.Fn Tryd.prog 11 [(If 32 (Vl (.pointer (some q11)))), (If 60 (Ag []))] [⟨.pointer (some q11), [(Sl (Ki .u8) r11.1), (Vl (.int .i64 r11.2.1)), (Vl (.int .i8 r11.2.2))], 50, none⟩] (fun x : Unit => (Tu [(Vl (.int .u32 y3.2.2.2)), (If 67 (Vl (.pointer (some (Ga.a 4)))))])) (fun x => [⟨.pointer (some q11), [(Sl (Ki .u8) y3.1), (Vl (.int .i64 y3.2.1)), (Vl (.int .i8 y3.2.2.1))], 50, none⟩])) [0] [1, 2, 3] (by decide) (pick_cons rfl pick_nil) (pick_cons rfl (pick_cons rfl (pick_cons rfl pick_nil))) (Hn := fun x : Unit => [⟨.pointer (some q11), [(Sl (Ki .u8) y3.1), (Vl (.int .i64 y3.2.1)), (Vl (.int .i8 y3.2.2.1))], 50, none⟩, ⟨.pointer (some q6), [(Vl (.bool false))], 4, none⟩, ⟨.pointer (some q5), [(Vl (.int .i64 0))], 3, none⟩, ⟨.pointer (some q4), [(Vl (.int .u32 0))], 23, none⟩]) (fun _ => rfl) rfl rfl) (wt_none' rfl) fun ⟨⟩ => ?_
      refine sx_rd' (rd_move' rfl) rfl rfl (wt_none' rfl) ?_
      refine sx_rd' (rd_extract' rfl rfl) rfl rfl (wt_none' rfl) ?_
      refine sx_rd' (rd_extract' rfl rfl) rfl rfl (wt_none' rfl) ?_
      refine sx_ox' (ox_store' (i := 3) (o := 0) rfl rfl (lv_vl rfl rfl) ⟨rfl, rfl, rfl, rfl⟩ rfl info23 rfl (H' := [⟨.pointer (some q11), [(Sl (Ki .u8) y3.1), (Vl (.int .i64 y3.2.1)), (Vl (.int .i8 y3.2.2.1))], 50, none⟩, ⟨.pointer (some q6), [(Vl (.bool false))], 4, none⟩, ⟨.pointer (some q5), [(Vl (.int .i64 0))], 3, none⟩, ⟨.pointer (some q4), [(Vl (.int .u32 y3.2.2.2))], 23, none⟩]) rfl) (wt_none' rfl) fun _ => ?_
      refine sx_rd' (rd_assign' rfl) rfl rfl (wt_none' rfl) ?_
      refine sx_nil' ?_
      show TX E K4 _
      refine tx_k' hK4 ?_
      refine cx_seq' fun K5 hK5 => ?_
      refine cx_plana' [q4.block] [(2, 1), (5, 2), (6, 1), (7, 1)] [(0, 2), (1, 1)] 6 #[true, true, false, false, false, false, false, false] mixed (by kernel_rfl) ?_
      refine px_rb' rfl (rb_load' (i := 3) (o := 0) rfl ⟨rfl, rfl, rfl, rfl⟩ rfl flat23 (by simp)) rfl rfl (wt_none' rfl) ?_
      refine px_rd' rfl (rd_move' rfl) rfl rfl (wt_none' rfl) ?_
      refine px_nil' ?_
      show AX E _ _ _ _ _ _ _ _
      obtain ⟨r22, hr22, hp⟩ := bind_some hp
      refine ax_node (f' := 0) #[true, true, true, true, true, true, true, true] (fun (v11 : Unit) => (⟨25, [⟨.fn (.func 9) ⟨[.pointer (some q4), .pointer (some q5), .pointer (some q6)]⟩, #[]⟩], [(4, (Vl (.pointer (some q4)))), (5, (Vl (.pointer (some q5)))), (6, (Vl (.pointer (some q6))))], [⟨.pointer (some q4), [(Vl (.int .u32 y3.2.2.2))], 23, none⟩, ⟨.pointer (some q5), [(Vl (.int .i64 r22.2.2.2))], 3, none⟩, ⟨.pointer (some q6), [(Vl (.bool false))], 4, none⟩]⟩ : St)) ?_ ?_
      · rintro ⟨⟩
        refine ax_nil (by kernel_rfl) ?_
        show TX E K5 _
        refine tx_k' hK5 ?_
        refine cx_retc' ?_
        replace hp := Option.some.inj hp
        subst hp
        refine tx_leave' (.inl rfl) rfl idle9 rfl Tryd.func9 isn9 rfl ?_
        refine tx_pick' (L' := [(4, (Vl (.pointer (some q4)))), (5, (Vl (.pointer (some q5)))), (6, (Vl (.pointer (some q6))))]) (H' := [⟨.pointer (some q4), [(Vl (.int .u32 y3.2.2.2))], 23, none⟩, ⟨.pointer (some q5), [(Vl (.int .i64 r22.2.2.2))], 3, none⟩, ⟨.pointer (some q6), [(Vl (.bool false))], 4, none⟩]) [0, 1, 2] (sub_cons rfl (sub_cons rfl (sub_cons rfl sub_nil))) (by decide) (pick_cons rfl (pick_cons rfl (pick_cons rfl pick_nil))) ?_
        exact tx_ret3' Tryd.results5 rfl () (rv_cell' (i := 0) (o := 0) rfl ⟨rfl, rfl, rfl, rfl⟩ rfl flat23) (rv_cell' (i := 1) (o := 0) rfl ⟨rfl, rfl, rfl, rfl⟩ rfl flat3) (rv_cell' (i := 2) (o := 0) rfl ⟨rfl, rfl, rfl, rfl⟩ rfl flat4) rfl (List.nil_sublist _)
      intro hN12
      refine ax_node (f' := 1) #[true, true, true, true, true, true, true, false] (fun (v10 : Unit) => (⟨25, [⟨.fn (.func 9) ⟨[.pointer (some q4), .pointer (some q5), .pointer (some q6)]⟩, #[]⟩], [(4, (Vl (.pointer (some q4)))), (5, (Vl (.pointer (some q5)))), (6, (Vl (.pointer (some q6)))), (24, (Vl (.bool false)))], [⟨.pointer (some q4), [(Vl (.int .u32 y3.2.2.2))], 23, none⟩, ⟨.pointer (some q5), [(Vl (.int .i64 r22.2.2.2))], 3, none⟩, ⟨.pointer (some q6), [(Vl (.bool false))], 4, none⟩]⟩ : St)) ?_ ?_
      · rintro ⟨⟩
        refine ax_all (i := 7) (is := []) (by kernel_rfl) (all_cons ?_ all_nil)
        · refine nx_oxv (last := #[true, true, true, true, true, true, true, true]) rfl (oxv_store (i := 2) (o := 0) rfl rfl (lv_vl rfl rfl) ⟨rfl, rfl, rfl, rfl⟩ rfl info4 rfl (H' := [⟨.pointer (some q4), [(Vl (.int .u32 y3.2.2.2))], 23, none⟩, ⟨.pointer (some q5), [(Vl (.int .i64 r22.2.2.2))], 3, none⟩, ⟨.pointer (some q6), [(Vl (.bool false))], 4, none⟩]) rfl) rfl rfl (bo_cons (m := 0) (by decide) rfl rfl bo_nil) (wt_none' rfl) rfl fun _ => ?_
          exact tx_pick' [0, 1, 2] (sub_cons rfl (sub_cons rfl (sub_cons rfl sub_nil))) (by decide) (pick_cons rfl (pick_cons rfl (pick_cons rfl pick_nil))) (hN12 ())
      intro hN11
      refine ax_node (f' := 2) #[true, true, true, true, true, true, false, false] (fun (v8 : Unit) => (⟨25, [⟨.fn (.func 9) ⟨[.pointer (some q4), .pointer (some q5), .pointer (some q6)]⟩, #[]⟩], [(4, (Vl (.pointer (some q4)))), (5, (Vl (.pointer (some q5)))), (6, (Vl (.pointer (some q6)))), (22, (Vl (.int .i64 r22.2.2.2))), (24, (Vl (.bool false)))], [⟨.pointer (some q4), [(Vl (.int .u32 y3.2.2.2))], 23, none⟩, ⟨.pointer (some q5), [(Vl (.int .i64 0))], 3, none⟩, ⟨.pointer (some q6), [(Vl (.bool false))], 4, none⟩]⟩ : St)) ?_ ?_
      · rintro ⟨⟩
        refine ax_all (i := 6) (is := []) (by kernel_rfl) (all_cons ?_ all_nil)
        · refine nx_oxv (last := #[true, true, true, true, true, true, true, false]) rfl (oxv_store (i := 1) (o := 0) rfl rfl (lv_vl rfl rfl) ⟨rfl, rfl, rfl, rfl⟩ rfl info3 rfl (H' := [⟨.pointer (some q4), [(Vl (.int .u32 y3.2.2.2))], 23, none⟩, ⟨.pointer (some q5), [(Vl (.int .i64 r22.2.2.2))], 3, none⟩, ⟨.pointer (some q6), [(Vl (.bool false))], 4, none⟩]) rfl) rfl rfl (bo_cons (m := 0) (by decide) rfl rfl bo_nil) (wt_none' rfl) rfl fun _ => ?_
          exact tx_pick' [0, 1, 2] (sub_cons rfl (sub_cons rfl (sub_cons rfl (sub_cons rfl sub_nil)))) (by decide) (pick_cons rfl (pick_cons rfl (pick_cons rfl pick_nil))) (hN11 ())
      intro hN9
      refine ax_node (f' := 2) #[true, true, true, true, false, true, true, false] (fun (v9 : Unit) => (⟨25, [⟨.fn (.func 9) ⟨[.pointer (some q4), .pointer (some q5), .pointer (some q6)]⟩, #[]⟩], [(4, (Vl (.pointer (some q4)))), (5, (Vl (.pointer (some q5)))), (6, (Vl (.pointer (some q6)))), (23, (If 67 (Vl (.pointer (some (Ga.a 4))))))], [⟨.pointer (some q4), [(Vl (.int .u32 y3.2.2.2))], 23, none⟩, ⟨.pointer (some q5), [(Vl (.int .i64 r22.2.2.2))], 3, none⟩, ⟨.pointer (some q6), [(Vl (.bool false))], 4, none⟩]⟩ : St)) ?_ ?_
      · rintro ⟨⟩
        refine ax_rd (ix := 4) (last := #[true, true, true, true, true, true, true, false]) (by kernel_rfl) rfl (rd_binf' rfl rfl (bf_if (fun _ _ => by kernel_rfl) nil_eql35_if67)) rfl rfl (wt_none' rfl) rfl ?_
        exact tx_pick' [0, 1, 2] (sub_cons rfl (sub_cons rfl (sub_cons rfl (sub_cons rfl sub_nil)))) (by decide) (pick_cons rfl (pick_cons rfl (pick_cons rfl pick_nil))) (hN11 ())
      intro hN10
      refine ax_node (f' := 3) #[true, true, true, true, true, false, false, false] (fun (v6 : Unit) => (⟨25, [⟨.fn (.func 9) ⟨[.pointer (some q4), .pointer (some q5), .pointer (some q6)]⟩, #[]⟩], [(4, (Vl (.pointer (some q4)))), (5, (Vl (.pointer (some q5)))), (6, (Vl (.pointer (some q6)))), (20, (Vl (.int .u32 y3.2.2.2))), (22, (Vl (.int .i64 r22.2.2.2))), (24, (Vl (.bool false)))], [⟨.pointer (some q4), [(Vl (.int .u32 y3.2.2.2))], 23, none⟩, ⟨.pointer (some q5), [(Vl (.int .i64 0))], 3, none⟩, ⟨.pointer (some q6), [(Vl (.bool false))], 4, none⟩]⟩ : St)) ?_ ?_
      · rintro ⟨⟩
        refine ax_all (i := 5) (is := []) (by kernel_rfl) (all_cons ?_ all_nil)
        · refine nx_ox (last := #[true, true, true, true, true, true, false, false]) rfl (ox_store' (i := 0) (o := 0) rfl rfl (lv_vl rfl rfl) ⟨rfl, rfl, rfl, rfl⟩ rfl info23 rfl (H' := [⟨.pointer (some q4), [(Vl (.int .u32 y3.2.2.2))], 23, none⟩, ⟨.pointer (some q5), [(Vl (.int .i64 0))], 3, none⟩, ⟨.pointer (some q6), [(Vl (.bool false))], 4, none⟩]) rfl) rfl (bs_cons (m := 0) rfl rfl rfl bs_nil) (wt_none' rfl) rfl fun _ => ?_
          exact tx_pick' [0, 1, 2] (sub_cons rfl (sub_cons rfl (sub_cons rfl (sub_cons rfl (sub_cons rfl sub_nil))))) (by decide) (pick_cons rfl (pick_cons rfl (pick_cons rfl pick_nil))) (hN9 ())
      intro hN7
      refine ax_node (f' := 3) #[true, true, true, true, false, true, false, false] (fun (v7 : Unit) => (⟨25, [⟨.fn (.func 9) ⟨[.pointer (some q4), .pointer (some q5), .pointer (some q6)]⟩, #[]⟩], [(4, (Vl (.pointer (some q4)))), (5, (Vl (.pointer (some q5)))), (6, (Vl (.pointer (some q6)))), (22, (Vl (.int .i64 r22.2.2.2))), (23, (If 67 (Vl (.pointer (some (Ga.a 4))))))], [⟨.pointer (some q4), [(Vl (.int .u32 y3.2.2.2))], 23, none⟩, ⟨.pointer (some q5), [(Vl (.int .i64 0))], 3, none⟩, ⟨.pointer (some q6), [(Vl (.bool false))], 4, none⟩]⟩ : St)) ?_ ?_
      · rintro ⟨⟩
        refine ax_all (i := 4) (is := [6]) (by kernel_rfl) (all_cons ?_ (all_cons ?_ all_nil))
        · refine nx_rd (last := #[true, true, true, true, true, true, false, false]) rfl (rd_binf' rfl rfl (bf_if (fun _ _ => by kernel_rfl) nil_eql35_if67)) rfl rfl (wt_none' rfl) rfl ?_
          exact tx_pick' [0, 1, 2] (sub_cons rfl (sub_cons rfl (sub_cons rfl (sub_cons rfl (sub_cons rfl sub_nil))))) (by decide) (pick_cons rfl (pick_cons rfl (pick_cons rfl pick_nil))) (hN9 ())
        · refine nx_oxv (last := #[true, true, true, true, false, true, true, false]) rfl (oxv_store (i := 1) (o := 0) rfl rfl (lv_vl rfl rfl) ⟨rfl, rfl, rfl, rfl⟩ rfl info3 rfl (H' := [⟨.pointer (some q4), [(Vl (.int .u32 y3.2.2.2))], 23, none⟩, ⟨.pointer (some q5), [(Vl (.int .i64 r22.2.2.2))], 3, none⟩, ⟨.pointer (some q6), [(Vl (.bool false))], 4, none⟩]) rfl) rfl rfl (bo_cons (m := 0) (by decide) rfl rfl bo_nil) (wt_none' rfl) rfl fun _ => ?_
          exact tx_pick' [0, 1, 2] (sub_cons rfl (sub_cons rfl (sub_cons rfl (sub_cons rfl sub_nil)))) (by decide) (pick_cons rfl (pick_cons rfl (pick_cons rfl pick_nil))) (hN10 ())
      intro hN8
      refine ax_node (f' := 4) #[true, true, true, true, false, false, false, false] (fun (v3 : Unit) => (⟨25, [⟨.fn (.func 9) ⟨[.pointer (some q4), .pointer (some q5), .pointer (some q6)]⟩, #[]⟩], [(4, (Vl (.pointer (some q4)))), (5, (Vl (.pointer (some q5)))), (6, (Vl (.pointer (some q6)))), (20, (Vl (.int .u32 y3.2.2.2))), (22, (Vl (.int .i64 r22.2.2.2))), (23, (If 67 (Vl (.pointer (some (Ga.a 4))))))], [⟨.pointer (some q4), [(Vl (.int .u32 y3.2.2.2))], 23, none⟩, ⟨.pointer (some q5), [(Vl (.int .i64 0))], 3, none⟩, ⟨.pointer (some q6), [(Vl (.bool false))], 4, none⟩]⟩ : St)) ?_ ?_
      · rintro ⟨⟩
        refine ax_all (i := 4) (is := [5]) (by kernel_rfl) (all_cons ?_ (all_cons ?_ all_nil))
        · refine nx_rd (last := #[true, true, true, true, true, false, false, false]) rfl (rd_binf' rfl rfl (bf_if (fun _ _ => by kernel_rfl) nil_eql35_if67)) rfl rfl (wt_none' rfl) rfl ?_
          exact tx_pick' [0, 1, 2] (sub_cons rfl (sub_cons rfl (sub_cons rfl (sub_cons rfl (sub_cons rfl (sub_cons rfl sub_nil)))))) (by decide) (pick_cons rfl (pick_cons rfl (pick_cons rfl pick_nil))) (hN7 ())
        · refine nx_ox (last := #[true, true, true, true, false, true, false, false]) rfl (ox_store' (i := 0) (o := 0) rfl rfl (lv_vl rfl rfl) ⟨rfl, rfl, rfl, rfl⟩ rfl info23 rfl (H' := [⟨.pointer (some q4), [(Vl (.int .u32 y3.2.2.2))], 23, none⟩, ⟨.pointer (some q5), [(Vl (.int .i64 0))], 3, none⟩, ⟨.pointer (some q6), [(Vl (.bool false))], 4, none⟩]) rfl) rfl (bs_cons (m := 0) rfl rfl rfl bs_nil) (wt_none' rfl) rfl fun _ => ?_
          exact tx_pick' [0, 1, 2] (sub_cons rfl (sub_cons rfl (sub_cons rfl (sub_cons rfl (sub_cons rfl sub_nil))))) (by decide) (pick_cons rfl (pick_cons rfl (pick_cons rfl pick_nil))) (hN8 ())
      intro hN4
      refine ax_node (f' := 4) #[true, true, true, false, false, true, false, false] (fun (v4 : Unit) => (⟨25, [⟨.fn (.func 9) ⟨[.pointer (some q4), .pointer (some q5), .pointer (some q6)]⟩, #[]⟩], [(4, (Vl (.pointer (some q4)))), (5, (Vl (.pointer (some q5)))), (6, (Vl (.pointer (some q6)))), (8, (If 67 (Vl (.pointer (some (Ga.a 4)))))), (22, (Vl (.int .i64 r22.2.2.2)))], [⟨.pointer (some q4), [(Vl (.int .u32 y3.2.2.2))], 23, none⟩, ⟨.pointer (some q5), [(Vl (.int .i64 0))], 3, none⟩, ⟨.pointer (some q6), [(Vl (.bool false))], 4, none⟩]⟩ : St)) ?_ ?_
      · rintro ⟨⟩
        refine ax_rb (ix := 3) (last := #[true, true, true, true, false, true, false, false]) (by kernel_rfl) rfl (rb_move' rfl) rfl rfl (wt_none' rfl) rfl ?_
        exact tx_pick' [0, 1, 2] (sub_cons rfl (sub_cons rfl (sub_cons rfl (sub_cons rfl (sub_cons rfl sub_nil))))) (by decide) (pick_cons rfl (pick_cons rfl (pick_cons rfl pick_nil))) (hN8 ())
      intro hN5
      refine ax_node (f' := 4) #[true, true, false, true, true, false, false, false] (fun (v5 : Unit) => (⟨25, [⟨.fn (.func 9) ⟨[.pointer (some q4), .pointer (some q5), .pointer (some q6)]⟩, #[]⟩], [(4, (Vl (.pointer (some q4)))), (5, (Vl (.pointer (some q5)))), (6, (Vl (.pointer (some q6)))), (20, (Vl (.int .u32 y3.2.2.2))), (21, (Vl (.pointer (some q11)))), (24, (Vl (.bool false)))], [⟨.pointer (some q4), [(Vl (.int .u32 y3.2.2.2))], 23, none⟩, ⟨.pointer (some q5), [(Vl (.int .i64 0))], 3, none⟩, ⟨.pointer (some q6), [(Vl (.bool false))], 4, none⟩, ⟨.pointer (some q11), [(Sl (Ki .u8) y3.1), (Vl (.int .i64 y3.2.1)), (Vl (.int .i8 y3.2.2.1))], 50, none⟩]⟩ : St)) ?_ ?_
      · rintro ⟨⟩
        refine ax_all (i := 2) (is := []) (by kernel_rfl) (all_cons ?_ all_nil)
        · refine nx_oxb (is := [3]) (last := #[true, true, true, true, true, false, false, false]) rfl (oxb_callg (ent_fn' Tryd.func13 isn13 rfl rfl) (bytes_Buffer_Len_sim _ _ _ hr22 : Go.Sx.Fn Tryd.prog 13 [(Vl (.pointer (some q11)))] [⟨.pointer (some q11), [(Sl (Ki .u8) y3.1), (Vl (.int .i64 y3.2.1)), (Vl (.int .i8 y3.2.2.1))], 50, none⟩] (fun x : Unit => (Vl (.int .i64 r22.2.2.2))) (fun x => [⟨.pointer (some q11), [(Sl (Ki .u8) r22.1), (Vl (.int .i64 r22.2.1)), (Vl (.int .i8 r22.2.2.1))], 50, none⟩])) [3] [0, 1, 2] (by decide) (pick_cons rfl pick_nil) (pick_cons rfl (pick_cons rfl (pick_cons rfl pick_nil))) (Hn := fun x : Unit => [⟨.pointer (some q11), [(Sl (Ki .u8) r22.1), (Vl (.int .i64 r22.2.1)), (Vl (.int .i8 r22.2.2.1))], 50, none⟩, ⟨.pointer (some q4), [(Vl (.int .u32 y3.2.2.2))], 23, none⟩, ⟨.pointer (some q5), [(Vl (.int .i64 0))], 3, none⟩, ⟨.pointer (some q6), [(Vl (.bool false))], 4, none⟩]) (fun _ => rfl) rfl rfl) (pick_cons rfl pick_nil) rfl (bl_cons (m := 0) (by decide) rfl rfl bl_nil) (wt_none' rfl) rfl fun ⟨⟩ => ?_
          exact tx_pick' [1, 2, 3] (sub_cons rfl (sub_cons rfl (sub_cons rfl (sub_cons rfl (sub_cons rfl (sub_cons rfl sub_nil)))))) (by decide) (pick_cons rfl (pick_cons rfl (pick_cons rfl pick_nil))) (hN7 ())
      intro hN6
      refine ax_node (f' := 5) #[true, true, true, false, false, false, false, false] (fun (v1 : Unit) => (⟨25, [⟨.fn (.func 9) ⟨[.pointer (some q4), .pointer (some q5), .pointer (some q6)]⟩, #[]⟩], [(4, (Vl (.pointer (some q4)))), (5, (Vl (.pointer (some q5)))), (6, (Vl (.pointer (some q6)))), (8, (If 67 (Vl (.pointer (some (Ga.a 4)))))), (20, (Vl (.int .u32 y3.2.2.2))), (22, (Vl (.int .i64 r22.2.2.2)))], [⟨.pointer (some q4), [(Vl (.int .u32 y3.2.2.2))], 23, none⟩, ⟨.pointer (some q5), [(Vl (.int .i64 0))], 3, none⟩, ⟨.pointer (some q6), [(Vl (.bool false))], 4, none⟩]⟩ : St)) ?_ ?_
      · rintro ⟨⟩
        refine ax_all (i := 3) (is := [5]) (by kernel_rfl) (all_cons ?_ (all_cons ?_ all_nil))
        · refine nx_rd (last := #[true, true, true, true, false, false, false, false]) rfl (rd_move' rfl) rfl rfl (wt_none' rfl) rfl ?_
          exact tx_pick' [0, 1, 2] (sub_cons rfl (sub_cons rfl (sub_cons rfl (sub_cons rfl (sub_cons rfl (sub_cons rfl sub_nil)))))) (by decide) (pick_cons rfl (pick_cons rfl (pick_cons rfl pick_nil))) (hN4 ())
        · refine nx_ox (last := #[true, true, true, false, false, true, false, false]) rfl (ox_store' (i := 0) (o := 0) rfl rfl (lv_vl rfl rfl) ⟨rfl, rfl, rfl, rfl⟩ rfl info23 rfl (H' := [⟨.pointer (some q4), [(Vl (.int .u32 y3.2.2.2))], 23, none⟩, ⟨.pointer (some q5), [(Vl (.int .i64 0))], 3, none⟩, ⟨.pointer (some q6), [(Vl (.bool false))], 4, none⟩]) rfl) rfl (bs_cons (m := 0) rfl rfl rfl bs_nil) (wt_none' rfl) rfl fun _ => ?_
          exact tx_pick' [0, 1, 2] (sub_cons rfl (sub_cons rfl (sub_cons rfl (sub_cons rfl (sub_cons rfl sub_nil))))) (by decide) (pick_cons rfl (pick_cons rfl (pick_cons rfl pick_nil))) (hN5 ())
      intro hN2
      refine ax_node (f' := 5) #[true, true, false, true, false, false, false, false] (fun (v2 : Unit) => (⟨25, [⟨.fn (.func 9) ⟨[.pointer (some q4), .pointer (some q5), .pointer (some q6)]⟩, #[]⟩], [(4, (Vl (.pointer (some q4)))), (5, (Vl (.pointer (some q5)))), (6, (Vl (.pointer (some q6)))), (20, (Vl (.int .u32 y3.2.2.2))), (21, (Vl (.pointer (some q11)))), (23, (If 67 (Vl (.pointer (some (Ga.a 4))))))], [⟨.pointer (some q4), [(Vl (.int .u32 y3.2.2.2))], 23, none⟩, ⟨.pointer (some q5), [(Vl (.int .i64 0))], 3, none⟩, ⟨.pointer (some q6), [(Vl (.bool false))], 4, none⟩, ⟨.pointer (some q11), [(Sl (Ki .u8) y3.1), (Vl (.int .i64 y3.2.1)), (Vl (.int .i8 y3.2.2.1))], 50, none⟩]⟩ : St)) ?_ ?_
      · rintro ⟨⟩
        refine ax_all (i := 2) (is := [4]) (by kernel_rfl) (all_cons ?_ (all_cons ?_ all_nil))
        · refine nx_oxb (is := [3]) (last := #[true, true, true, true, false, false, false, false]) rfl (oxb_callg (ent_fn' Tryd.func13 isn13 rfl rfl) (bytes_Buffer_Len_sim _ _ _ hr22 : Go.Sx.Fn Tryd.prog 13 [(Vl (.pointer (some q11)))] [⟨.pointer (some q11), [(Sl (Ki .u8) y3.1), (Vl (.int .i64 y3.2.1)), (Vl (.int .i8 y3.2.2.1))], 50, none⟩] (fun x : Unit => (Vl (.int .i64 r22.2.2.2))) (fun x => [⟨.pointer (some q11), [(Sl (Ki .u8) r22.1), (Vl (.int .i64 r22.2.1)), (Vl (.int .i8 r22.2.2.1))], 50, none⟩])) [3] [0, 1, 2] (by decide) (pick_cons rfl pick_nil) (pick_cons rfl (pick_cons rfl (pick_cons rfl pick_nil))) (Hn := fun x : Unit => [⟨.pointer (some q11), [(Sl (Ki .u8) r22.1), (Vl (.int .i64 r22.2.1)), (Vl (.int .i8 r22.2.2.1))], 50, none⟩, ⟨.pointer (some q4), [(Vl (.int .u32 y3.2.2.2))], 23, none⟩, ⟨.pointer (some q5), [(Vl (.int .i64 0))], 3, none⟩, ⟨.pointer (some q6), [(Vl (.bool false))], 4, none⟩]) (fun _ => rfl) rfl rfl) (pick_cons rfl pick_nil) rfl (bl_cons (m := 0) (by decide) rfl rfl bl_nil) (wt_none' rfl) rfl fun ⟨⟩ => ?_
          exact tx_pick' [1, 2, 3] (sub_cons rfl (sub_cons rfl (sub_cons rfl (sub_cons rfl (sub_cons rfl (sub_cons rfl sub_nil)))))) (by decide) (pick_cons rfl (pick_cons rfl (pick_cons rfl pick_nil))) (hN4 ())
        · refine nx_rd (last := #[true, true, false, true, true, false, false, false]) rfl (rd_binf' rfl rfl (bf_if (fun _ _ => by kernel_rfl) nil_eql35_if67)) rfl rfl (wt_none' rfl) rfl ?_
          exact tx_pick' [0, 1, 2, 3] (sub_cons rfl (sub_cons rfl (sub_cons rfl (sub_cons rfl (sub_cons rfl (sub_cons rfl sub_nil)))))) (by decide) (pick_cons rfl (pick_cons rfl (pick_cons rfl (pick_cons rfl pick_nil)))) (hN6 ())
      intro hN3
      refine ax_all (i := 2) (is := [3]) (by kernel_rfl) (all_cons ?_ (all_cons ?_ all_nil))
      · refine nx_oxb (is := [0]) (last := #[true, true, true, false, false, false, false, false]) rfl (oxb_callg (ent_fn' Tryd.func13 isn13 rfl rfl) (bytes_Buffer_Len_sim _ _ _ hr22 : Go.Sx.Fn Tryd.prog 13 [(Vl (.pointer (some q11)))] [⟨.pointer (some q11), [(Sl (Ki .u8) y3.1), (Vl (.int .i64 y3.2.1)), (Vl (.int .i8 y3.2.2.1))], 50, none⟩] (fun x : Unit => (Vl (.int .i64 r22.2.2.2))) (fun x => [⟨.pointer (some q11), [(Sl (Ki .u8) r22.1), (Vl (.int .i64 r22.2.1)), (Vl (.int .i8 r22.2.2.1))], 50, none⟩])) [0] [1, 2, 3] (by decide) (pick_cons rfl pick_nil) (pick_cons rfl (pick_cons rfl (pick_cons rfl pick_nil))) (Hn := fun x : Unit => [⟨.pointer (some q11), [(Sl (Ki .u8) r22.1), (Vl (.int .i64 r22.2.1)), (Vl (.int .i8 r22.2.2.1))], 50, none⟩, ⟨.pointer (some q6), [(Vl (.bool false))], 4, none⟩, ⟨.pointer (some q5), [(Vl (.int .i64 0))], 3, none⟩, ⟨.pointer (some q4), [(Vl (.int .u32 y3.2.2.2))], 23, none⟩]) (fun _ => rfl) rfl rfl) (pick_cons rfl pick_nil) rfl (bl_cons (m := 3) (by decide) rfl rfl bl_nil) (wt_none' rfl) rfl fun ⟨⟩ => ?_
        exact tx_pick' [3, 2, 1] (sub_cons rfl (sub_cons rfl (sub_cons rfl (sub_cons rfl (sub_cons rfl (sub_cons rfl sub_nil)))))) (by decide) (pick_cons rfl (pick_cons rfl (pick_cons rfl pick_nil))) (hN2 ())
      · refine nx_rd (last := #[true, true, false, true, false, false, false, false]) rfl (rd_move' rfl) rfl rfl (wt_none' rfl) rfl ?_
        exact tx_pick' [3, 2, 1, 0] (sub_cons rfl (sub_cons rfl (sub_cons rfl (sub_cons rfl (sub_cons rfl (sub_cons rfl sub_nil)))))) (by decide) (pick_cons rfl (pick_cons rfl (pick_cons rfl (pick_cons rfl pick_nil)))) (hN3 ())
    · dsimp only at hp
      refine sx_ox' (ox_callg' (ent_fn' Tryd.func11 isn11 rfl rfl) (wkbcommon_ReadUInt32_sim _ _ _ hr17 : Go.Sx.Fn Tryd.prog 11 [(If 32 (Vl (.pointer (some q11)))), (If 60 (Ag []))] [⟨.pointer (some q11), [(Sl (Ki .u8) r11.1), (Vl (.int .i64 r11.2.1)), (Vl (.int .i8 r11.2.2))], 50, none⟩] (fun x : Unit => (Tu [(Vl (.int .u32 y3.2.2.2)), (If 67 (Vl (.pointer (some (Ga.a 3)))))])) (fun x => [⟨.pointer (some q11), [(Sl (Ki .u8) y3.1), (Vl (.int .i64 y3.2.1)), (Vl (.int .i8 y3.2.2.1))], 50, none⟩])) [0] [1, 2, 3] (by decide) (pick_cons rfl pick_nil) (pick_cons rfl (pick_cons rfl (pick_cons rfl pick_nil))) (Hn := fun x : Unit => [⟨.pointer (some q11), [(Sl (Ki .u8) y3.1), (Vl (.int .i64 y3.2.1)), (Vl (.int .i8 y3.2.2.1))], 50, none⟩, ⟨.pointer (some q6), [(Vl (.bool false))], 4, none⟩, ⟨.pointer (some q5), [(Vl (.int .i64 0))], 3, none⟩, ⟨.pointer (some q4), [(Vl (.int .u32 0))], 23, none⟩]) (fun _ => rfl) rfl rfl) (wt_none' rfl) fun ⟨⟩ => ?_
      refine sx_rd' (rd_move' rfl) rfl rfl (wt_none' rfl) ?_
      refine sx_rd' (rd_extract' rfl rfl) rfl rfl (wt_none' rfl) ?_
      refine sx_rd' (rd_extract' rfl rfl) rfl rfl (wt_none' rfl) ?_
      refine sx_ox' (ox_store' (i := 3) (o := 0) rfl rfl (lv_vl rfl rfl) ⟨rfl, rfl, rfl, rfl⟩ rfl info23 rfl (H' := [⟨.pointer (some q11), [(Sl (Ki .u8) y3.1), (Vl (.int .i64 y3.2.1)), (Vl (.int .i8 y3.2.2.1))], 50, none⟩, ⟨.pointer (some q6), [(Vl (.bool false))], 4, none⟩, ⟨.pointer (some q5), [(Vl (.int .i64 0))], 3, none⟩, ⟨.pointer (some q4), [(Vl (.int .u32 y3.2.2.2))], 23, none⟩]) rfl) (wt_none' rfl) fun _ => ?_
      refine sx_rd' (rd_assign' rfl) rfl rfl (wt_none' rfl) ?_
      refine sx_nil' ?_
      show TX E K4 _
      refine tx_k' hK4 ?_
      refine cx_seq' fun K5 hK5 => ?_
      refine cx_plana' [q4.block] [(2, 1), (5, 2), (6, 1), (7, 1)] [(0, 2), (1, 1)] 6 #[true, true, false, false, false, false, false, false] mixed (by kernel_rfl) ?_
      refine px_rb' rfl (rb_load' (i := 3) (o := 0) rfl ⟨rfl, rfl, rfl, rfl⟩ rfl flat23 (by simp)) rfl rfl (wt_none' rfl) ?_
      refine px_rd' rfl (rd_move' rfl) rfl rfl (wt_none' rfl) ?_
      refine px_nil' ?_
      show AX E _ _ _ _ _ _ _ _
      obtain ⟨r22, hr22, hp⟩ := bind_some hp
      refine ax_node (f' := 0) #[true, true, true, true, true, true, true, true] (fun (v11 : Unit) => (⟨25, [⟨.fn (.func 9) ⟨[.pointer (some q4), .pointer (some q5), .pointer (some q6)]⟩, #[]⟩], [(4, (Vl (.pointer (some q4)))), (5, (Vl (.pointer (some q5)))), (6, (Vl (.pointer (some q6))))], [⟨.pointer (some q4), [(Vl (.int .u32 y3.2.2.2))], 23, none⟩, ⟨.pointer (some q5), [(Vl (.int .i64 r22.2.2.2))], 3, none⟩, ⟨.pointer (some q6), [(Vl (.bool false))], 4, none⟩]⟩ : St)) ?_ ?_
      · rintro ⟨⟩
        refine ax_nil (by kernel_rfl) ?_
        show TX E K5 _
        refine tx_k' hK5 ?_
        refine cx_retc' ?_
        replace hp := Option.some.inj hp
        subst hp
        refine tx_leave' (.inl rfl) rfl idle9 rfl Tryd.func9 isn9 rfl ?_
        refine tx_pick' (L' := [(4, (Vl (.pointer (some q4)))), (5, (Vl (.pointer (some q5)))), (6, (Vl (.pointer (some q6))))]) (H' := [⟨.pointer (some q4), [(Vl (.int .u32 y3.2.2.2))], 23, none⟩, ⟨.pointer (some q5), [(Vl (.int .i64 r22.2.2.2))], 3, none⟩, ⟨.pointer (some q6), [(Vl (.bool false))], 4, none⟩]) [0, 1, 2] (sub_cons rfl (sub_cons rfl (sub_cons rfl sub_nil))) (by decide) (pick_cons rfl (pick_cons rfl (pick_cons rfl pick_nil))) ?_
        exact tx_ret3' Tryd.results5 rfl () (rv_cell' (i := 0) (o := 0) rfl ⟨rfl, rfl, rfl, rfl⟩ rfl flat23) (rv_cell' (i := 1) (o := 0) rfl ⟨rfl, rfl, rfl, rfl⟩ rfl flat3) (rv_cell' (i := 2) (o := 0) rfl ⟨rfl, rfl, rfl, rfl⟩ rfl flat4) rfl (List.nil_sublist _)
      intro hN12
      refine ax_node (f' := 1) #[true, true, true, true, true, true, true, false] (fun (v10 : Unit) => (⟨25, [⟨.fn (.func 9) ⟨[.pointer (some q4), .pointer (some q5), .pointer (some q6)]⟩, #[]⟩], [(4, (Vl (.pointer (some q4)))), (5, (Vl (.pointer (some q5)))), (6, (Vl (.pointer (some q6)))), (24, (Vl (.bool false)))], [⟨.pointer (some q4), [(Vl (.int .u32 y3.2.2.2))], 23, none⟩, ⟨.pointer (some q5), [(Vl (.int .i64 r22.2.2.2))], 3, none⟩, ⟨.pointer (some q6), [(Vl (.bool false))], 4, none⟩]⟩ : St)) ?_ ?_
      · rintro ⟨⟩
        refine ax_all (i := 7) (is := []) (by kernel_rfl) (all_cons ?_ all_nil)
        · refine nx_oxv (last := #[true, true, true, true, true, true, true, true]) rfl (oxv_store (i := 2) (o := 0) rfl rfl (lv_vl rfl rfl) ⟨rfl, rfl, rfl, rfl⟩ rfl info4 rfl (H' := [⟨.pointer (some q4), [(Vl (.int .u32 y3.2.2.2))], 23, none⟩, ⟨.pointer (some q5), [(Vl (.int .i64 r22.2.2.2))], 3, none⟩, ⟨.pointer (some q6), [(Vl (.bool false))], 4, none⟩]) rfl) rfl rfl (bo_cons (m := 0) (by decide) rfl rfl bo_nil) (wt_none' rfl) rfl fun _ => ?_
          exact tx_pick' [0, 1, 2] (sub_cons rfl (sub_cons rfl (sub_cons rfl sub_nil))) (by decide) (pick_cons rfl (pick_cons rfl (pick_cons rfl pick_nil))) (hN12 ())
      intro hN11
      refine ax_node (f' := 2) #[true, true, true, true, true, true, false, false] (fun (v8 : Unit) => (⟨25, [⟨.fn (.func 9) ⟨[.pointer (some q4), .pointer (some q5), .pointer (some q6)]⟩, #[]⟩], [(4, (Vl (.pointer (some q4)))), (5, (Vl (.pointer (some q5)))), (6, (Vl (.pointer (some q6)))), (22, (Vl (.int .i64 r22.2.2.2))), (24, (Vl (.bool false)))], [⟨.pointer (some q4), [(Vl (.int .u32 y3.2.2.2))], 23, none⟩, ⟨.pointer (some q5), [(Vl (.int .i64 0))], 3, none⟩, ⟨.pointer (some q6), [(Vl (.bool false))], 4, none⟩]⟩ : St)) ?_ ?_
      · rintro ⟨⟩
        refine ax_all (i := 6) (is := []) (by kernel_rfl) (all_cons ?_ all_nil)
        · refine nx_oxv (last := #[true, true, true, true, true, true, true, false]) rfl (oxv_store (i := 1) (o := 0) rfl rfl (lv_vl rfl rfl) ⟨rfl, rfl, rfl, rfl⟩ rfl info3 rfl (H' := [⟨.pointer (some q4), [(Vl (.int .u32 y3.2.2.2))], 23, none⟩, ⟨.pointer (some q5), [(Vl (.int .i64 r22.2.2.2))], 3, none⟩, ⟨.pointer (some q6), [(Vl (.bool false))], 4, none⟩]) rfl) rfl rfl (bo_cons (m := 0) (by decide) rfl rfl bo_nil) (wt_none' rfl) rfl fun _ => ?_
          exact tx_pick' [0, 1, 2] (sub_cons rfl (sub_cons rfl (sub_cons rfl (sub_cons rfl sub_nil)))) (by decide) (pick_cons rfl (pick_cons rfl (pick_cons rfl pick_nil))) (hN11 ())
      intro hN9
      refine ax_node (f' := 2) #[true, true, true, true, false, true, true, false] (fun (v9 : Unit) => (⟨25, [⟨.fn (.func 9) ⟨[.pointer (some q4), .pointer (some q5), .pointer (some q6)]⟩, #[]⟩], [(4, (Vl (.pointer (some q4)))), (5, (Vl (.pointer (some q5)))), (6, (Vl (.pointer (some q6)))), (23, (If 67 (Vl (.pointer (some (Ga.a 3))))))], [⟨.pointer (some q4), [(Vl (.int .u32 y3.2.2.2))], 23, none⟩, ⟨.pointer (some q5), [(Vl (.int .i64 r22.2.2.2))], 3, none⟩, ⟨.pointer (some q6), [(Vl (.bool false))], 4, none⟩]⟩ : St)) ?_ ?_
      · rintro ⟨⟩
        refine ax_rd (ix := 4) (last := #[true, true, true, true, true, true, true, false]) (by kernel_rfl) rfl (rd_binf' rfl rfl (bf_if (fun _ _ => by kernel_rfl) nil_eql35_if67)) rfl rfl (wt_none' rfl) rfl ?_
        exact tx_pick' [0, 1, 2] (sub_cons rfl (sub_cons rfl (sub_cons rfl (sub_cons rfl sub_nil)))) (by decide) (pick_cons rfl (pick_cons rfl (pick_cons rfl pick_nil))) (hN11 ())
      intro hN10
      refine ax_node (f' := 3) #[true, true, true, true, true, false, false, false] (fun (v6 : Unit) => (⟨25, [⟨.fn (.func 9) ⟨[.pointer (some q4), .pointer (some q5), .pointer (some q6)]⟩, #[]⟩], [(4, (Vl (.pointer (some q4)))), (5, (Vl (.pointer (some q5)))), (6, (Vl (.pointer (some q6)))), (20, (Vl (.int .u32 y3.2.2.2))), (22, (Vl (.int .i64 r22.2.2.2))), (24, (Vl (.bool false)))], [⟨.pointer (some q4), [(Vl (.int .u32 y3.2.2.2))], 23, none⟩, ⟨.pointer (some q5), [(Vl (.int .i64 0))], 3, none⟩, ⟨.pointer (some q6), [(Vl (.bool false))], 4, none⟩]⟩ : St)) ?_ ?_
      · rintro ⟨⟩
        refine ax_all (i := 5) (is := []) (by kernel_rfl) (all_cons ?_ all_nil)
        · refine nx_ox (last := #[true, true, true, true, true, true, false, false]) rfl (ox_store' (i := 0) (o := 0) rfl rfl (lv_vl rfl rfl) ⟨rfl, rfl, rfl, rfl⟩ rfl info23 rfl (H' := [⟨.pointer (some q4), [(Vl (.int .u32 y3.2.2.2))], 23, none⟩, ⟨.pointer (some q5), [(Vl (.int .i64 0))], 3, none⟩, ⟨.pointer (some q6), [(Vl (.bool false))], 4, none⟩]) rfl) rfl (bs_cons (m := 0) rfl rfl rfl bs_nil) (wt_none' rfl) rfl fun _ => ?_
          exact tx_pick' [0, 1, 2] (sub_cons rfl (sub_cons rfl (sub_cons rfl (sub_cons rfl (sub_cons rfl sub_nil))))) (by decide) (pick_cons rfl (pick_cons rfl (pick_cons rfl pick_nil))) (hN9 ())
      intro hN7
      refine ax_node (f' := 3) #[true, true, true, true, false, true, false, false] (fun (v7 : Unit) => (⟨25, [⟨.fn (.func 9) ⟨[.pointer (some q4), .pointer (some q5), .pointer (some q6)]⟩, #[]⟩], [(4, (Vl (.pointer (some q4)))), (5, (Vl (.pointer (some q5)))), (6, (Vl (.pointer (some q6)))), (22, (Vl (.int .i64 r22.2.2.2))), (23, (If 67 (Vl (.pointer (some (Ga.a 3))))))], [⟨.pointer (some q4), [(Vl (.int .u32 y3.2.2.2))], 23, none⟩, ⟨.pointer (some q5), [(Vl (.int .i64 0))], 3, none⟩, ⟨.pointer (some q6), [(Vl (.bool false))], 4, none⟩]⟩ : St)) ?_ ?_
      · rintro ⟨⟩
        refine ax_all (i := 4) (is := [6]) (by kernel_rfl) (all_cons ?_ (all_cons ?_ all_nil))
        · refine nx_rd (last := #[true, true, true, true, true, true, false, false]) rfl (rd_binf' rfl rfl (bf_if (fun _ _ => by kernel_rfl) nil_eql35_if67)) rfl rfl (wt_none' rfl) rfl ?_
          exact tx_pick' [0, 1, 2] (sub_cons rfl (sub_cons rfl (sub_cons rfl (sub_cons rfl (sub_cons rfl sub_nil))))) (by decide) (pick_cons rfl (pick_cons rfl (pick_cons rfl pick_nil))) (hN9 ())
        · refine nx_oxv (last := #[true, true, true, true, false, true, true, false]) rfl (oxv_store (i := 1) (o := 0) rfl rfl (lv_vl rfl rfl) ⟨rfl, rfl, rfl, rfl⟩ rfl info3 rfl (H' := [⟨.pointer (some q4), [(Vl (.int .u32 y3.2.2.2))], 23, none⟩, ⟨.pointer (some q5), [(Vl (.int .i64 r22.2.2.2))], 3, none⟩, ⟨.pointer (some q6), [(Vl (.bool false))], 4, none⟩]) rfl) rfl rfl (bo_cons (m := 0) (by decide) rfl rfl bo_nil) (wt_none' rfl) rfl fun _ => ?_
          exact tx_pick' [0, 1, 2] (sub_cons rfl (sub_cons rfl (sub_cons rfl (sub_cons rfl sub_nil)))) (by decide) (pick_cons rfl (pick_cons rfl (pick_cons rfl pick_nil))) (hN10 ())
      intro hN8
      refine ax_node (f' := 4) #[true, true, true, true, false, false, false, false] (fun (v3 : Unit) => (⟨25, [⟨.fn (.func 9) ⟨[.pointer (some q4), .pointer (some q5), .pointer (some q6)]⟩, #[]⟩], [(4, (Vl (.pointer (some q4)))), (5, (Vl (.pointer (some q5)))), (6, (Vl (.pointer (some q6)))), (20, (Vl (.int .u32 y3.2.2.2))), (22, (Vl (.int .i64 r22.2.2.2))), (23, (If 67 (Vl (.pointer (some (Ga.a 3))))))], [⟨.pointer (some q4), [(Vl (.int .u32 y3.2.2.2))], 23, none⟩, ⟨.pointer (some q5), [(Vl (.int .i64 0))], 3, none⟩, ⟨.pointer (some q6), [(Vl (.bool false))], 4, none⟩]⟩ : St)) ?_ ?_
      · rintro ⟨⟩
        refine ax_all (i := 4) (is := [5]) (by kernel_rfl) (all_cons ?_ (all_cons ?_ all_nil))
        · refine nx_rd (last := #[true, true, true, true, true, false, false, false]) rfl (rd_binf' rfl rfl (bf_if (fun _ _ => by kernel_rfl) nil_eql35_if67)) rfl rfl (wt_none' rfl) rfl ?_
          exact tx_pick' [0, 1, 2] (sub_cons rfl (sub_cons rfl (sub_cons rfl (sub_cons rfl (sub_cons rfl (sub_cons rfl sub_nil)))))) (by decide) (pick_cons rfl (pick_cons rfl (pick_cons rfl pick_nil))) (hN7 ())
        · refine nx_ox (last := #[true, true, true, true, false, true, false, false]) rfl (ox_store' (i := 0) (o := 0) rfl rfl (lv_vl rfl rfl) ⟨rfl, rfl, rfl, rfl⟩ rfl info23 rfl (H' := [⟨.pointer (some q4), [(Vl (.int .u32 y3.2.2.2))], 23, none⟩, ⟨.pointer (some q5), [(Vl (.int .i64 0))], 3, none⟩, ⟨.pointer (some q6), [(Vl (.bool false))], 4, none⟩]) rfl) rfl (bs_cons (m := 0) rfl rfl rfl bs_nil) (wt_none' rfl) rfl fun _ => ?_
          exact tx_pick' [0, 1, 2] (sub_cons rfl (sub_cons rfl (sub_cons rfl (sub_cons rfl (sub_cons rfl sub_nil))))) (by decide) (pick_cons rfl (pick_cons rfl (pick_cons rfl pick_nil))) (hN8 ())
      intro hN4
      refine ax_node (f' := 4) #[true, true, true, false, false, true, false, false] (fun (v4 : Unit) => (⟨25, [⟨.fn (.func 9) ⟨[.pointer (some q4), .pointer (some q5), .pointer (some q6)]⟩, #[]⟩], [(4, (Vl (.pointer (some q4)))), (5, (Vl (.pointer (some q5)))), (6, (Vl (.pointer (some q6)))), (8, (If 67 (Vl (.pointer (some (Ga.a 3)))))), (22, (Vl (.int .i64 r22.2.2.2)))], [⟨.pointer (some q4), [(Vl (.int .u32 y3.2.2.2))], 23, none⟩, ⟨.pointer (some q5), [(Vl (.int .i64 0))], 3, none⟩, ⟨.pointer (some q6), [(Vl (.bool false))], 4, none⟩]⟩ : St)) ?_ ?_
      · rintro ⟨⟩
        refine ax_rb (ix := 3) (last := #[true, true, true, true, false, true, false, false]) (by kernel_rfl) rfl (rb_move' rfl) rfl rfl (wt_none' rfl) rfl ?_
        exact tx_pick' [0, 1, 2] (sub_cons rfl (sub_cons rfl (sub_cons rfl (sub_cons rfl (sub_cons rfl sub_nil))))) (by decide) (pick_cons rfl (pick_cons rfl (pick_cons rfl pick_nil))) (hN8 ())
      intro hN5
      refine ax_node (f' := 4) #[true, true, false, true, true, false, false, false] (fun (v5 : Unit) => (⟨25, [⟨.fn (.func 9) ⟨[.pointer (some q4), .pointer (some q5), .pointer (some q6)]⟩, #[]⟩], [(4, (Vl (.pointer (some q4)))), (5, (Vl (.pointer (some q5)))), (6, (Vl (.pointer (some q6)))), (20, (Vl (.int .u32 y3.2.2.2))), (21, (Vl (.pointer (some q11)))), (24, (Vl (.bool false)))], [⟨.pointer (some q4), [(Vl (.int .u32 y3.2.2.2))], 23, none⟩, ⟨.pointer (some q5), [(Vl (.int .i64 0))], 3, none⟩, ⟨.pointer (some q6), [(Vl (.bool false))], 4, none⟩, ⟨.pointer (some q11), [(Sl (Ki .u8) y3.1), (Vl (.int .i64 y3.2.1)), (Vl (.int .i8 y3.2.2.1))], 50, none⟩]⟩ : St)) ?_ ?_
      · rintro ⟨⟩
        refine ax_all (i := 2) (is := []) (by kernel_rfl) (all_cons ?_ all_nil)
        · refine nx_oxb (is := [3]) (last := #[true, true, true, true, true, false, false, false]) rfl (oxb_callg (ent_fn' Tryd.func13 isn13 rfl rfl) (bytes_Buffer_Len_sim _ _ _ hr22 : Go.Sx.Fn Tryd.prog 13 [(Vl (.pointer (some q11)))] [⟨.pointer (some q11), [(Sl (Ki .u8) y3.1), (Vl (.int .i64 y3.2.1)), (Vl (.int .i8 y3.2.2.1))], 50, none⟩] (fun x : Unit => (Vl (.int .i64 r22.2.2.2))) (fun x => [⟨.pointer (some q11), [(Sl (Ki .u8) r22.1), (Vl (.int .i64 r22.2.1)), (Vl (.int .i8 r22.2.2.1))], 50, none⟩])) [3] [0, 1, 2] (by decide) (pick_cons rfl pick_nil) (pick_cons rfl (pick_cons rfl (pick_cons rfl pick_nil))) (Hn := fun x : Unit => [⟨.pointer (some q11), [(Sl (Ki .u8) r22.1), (Vl (.int .i64 r22.2.1)), (Vl (.int .i8 r22.2.2.1))], 50, none⟩, ⟨.pointer (some q4), [(Vl (.int .u32 y3.2.2.2))], 23, none⟩, ⟨.pointer (some q5), [(Vl (.int .i64 0))], 3, none⟩, ⟨.pointer (some q6), [(Vl (.bool false))], 4, none⟩]) (fun _ => rfl) rfl rfl) (pick_cons rfl pick_nil) rfl (bl_cons (m := 0) (by decide) rfl rfl bl_nil) (wt_none' rfl) rfl fun ⟨⟩ => ?_
          exact tx_pick' [1, 2, 3] (sub_cons rfl (sub_cons rfl (sub_cons rfl (sub_cons rfl (sub_cons rfl (sub_cons rfl sub_nil)))))) (by decide) (pick_cons rfl (pick_cons rfl (pick_cons rfl pick_nil))) (hN7 ())
      intro hN6
      refine ax_node (f' := 5) #[true, true, true, false, false, false, false, false] (fun (v1 : Unit) => (⟨25, [⟨.fn (.func 9) ⟨[.pointer (some q4), .pointer (some q5), .pointer (some q6)]⟩, #[]⟩], [(4, (Vl (.pointer (some q4)))), (5, (Vl (.pointer (some q5)))), (6, (Vl (.pointer (some q6)))), (8, (If 67 (Vl (.pointer (some (Ga.a 3)))))), (20, (Vl (.int .u32 y3.2.2.2))), (22, (Vl (.int .i64 r22.2.2.2)))], [⟨.pointer (some q4), [(Vl (.int .u32 y3.2.2.2))], 23, none⟩, ⟨.pointer (some q5), [(Vl (.int .i64 0))], 3, none⟩, ⟨.pointer (some q6), [(Vl (.bool false))], 4, none⟩]⟩ : St)) ?_ ?_
      · rintro ⟨⟩
        refine ax_all (i := 3) (is := [5]) (by kernel_rfl) (all_cons ?_ (all_cons ?_ all_nil))
        · refine nx_rd (last := #[true, true, true, true, false, false, false, false]) rfl (rd_move' rfl) rfl rfl (wt_none' rfl) rfl ?_
          exact tx_pick' [0, 1, 2] (sub_cons rfl (sub_cons rfl (sub_cons rfl (sub_cons rfl (sub_cons rfl (sub_cons rfl sub_nil)))))) (by decide) (pick_cons rfl (pick_cons rfl (pick_cons rfl pick_nil))) (hN4 ())
        · refine nx_ox (last := #[true, true, true, false, false, true, false, false]) rfl (ox_store' (i := 0) (o := 0) rfl rfl (lv_vl rfl rfl) ⟨rfl, rfl, rfl, rfl⟩ rfl info23 rfl (H' := [⟨.pointer (some q4), [(Vl (.int .u32 y3.2.2.2))], 23, none⟩, ⟨.pointer (some q5), [(Vl (.int .i64 0))], 3, none⟩, ⟨.pointer (some q6), [(Vl (.bool false))], 4, none⟩]) rfl) rfl (bs_cons (m := 0) rfl rfl rfl bs_nil) (wt_none' rfl) rfl fun _ => ?_
          exact tx_pick' [0, 1, 2] (sub_cons rfl (sub_cons rfl (sub_cons rfl (sub_cons rfl (sub_cons rfl sub_nil))))) (by decide) (pick_cons rfl (pick_cons rfl (pick_cons rfl pick_nil))) (hN5 ())
      intro hN2
      refine ax_node (f' := 5) #[true, true, false, true, false, false, false, false] (fun (v2 : Unit) => (⟨25, [⟨.fn (.func 9) ⟨[.pointer (some q4), .pointer (some q5), .pointer (some q6)]⟩, #[]⟩], [(4, (Vl (.pointer (some q4)))), (5, (Vl (.pointer (some q5)))), (6, (Vl (.pointer (some q6)))), (20, (Vl (.int .u32 y3.2.2.2))), (21, (Vl (.pointer (some q11)))), (23, (If 67 (Vl (.pointer (some (Ga.a 3))))))], [⟨.pointer (some q4), [(Vl (.int .u32 y3.2.2.2))], 23, none⟩, ⟨.pointer (some q5), [(Vl (.int .i64 0))], 3, none⟩, ⟨.pointer (some q6), [(Vl (.bool false))], 4, none⟩, ⟨.pointer (some q11), [(Sl (Ki .u8) y3.1), (Vl (.int .i64 y3.2.1)), (Vl (.int .i8 y3.2.2.1))], 50, none⟩]⟩ : St)) ?_ ?_
      · rintro ⟨⟩
        refine ax_all (i := 2) (is := [4]) (by kernel_rfl) (all_cons ?_ (all_cons ?_ all_nil))
        · refine nx_oxb (is := [3]) (last := #[true, true, true, true, false, false, false, false]) rfl (oxb_callg (ent_fn' Tryd.func13 isn13 rfl rfl) (bytes_Buffer_Len_sim _ _ _ hr22 : Go.Sx.Fn Tryd.prog 13 [(Vl (.pointer (some q11)))] [⟨.pointer (some q11), [(Sl (Ki .u8) y3.1), (Vl (.int .i64 y3.2.1)), (Vl (.int .i8 y3.2.2.1))], 50, none⟩] (fun x : Unit => (Vl (.int .i64 r22.2.2.2))) (fun x => [⟨.pointer (some q11), [(Sl (Ki .u8) r22.1), (Vl (.int .i64 r22.2.1)), (Vl (.int .i8 r22.2.2.1))], 50, none⟩])) [3] [0, 1, 2] (by decide) (pick_cons rfl pick_nil) (pick_cons rfl (pick_cons rfl (pick_cons rfl pick_nil))) (Hn := fun x : Unit => [⟨.pointer (some q11), [(Sl (Ki .u8) r22.1), (Vl (.int .i64 r22.2.1)), (Vl (.int .i8 r22.2.2.1))], 50, none⟩, ⟨.pointer (some q4), [(Vl (.int .u32 y3.2.2.2))], 23, none⟩, ⟨.pointer (some q5), [(Vl (.int .i64 0))], 3, none⟩, ⟨.pointer (some q6), [(Vl (.bool false))], 4, none⟩]) (fun _ => rfl) rfl rfl) (pick_cons rfl pick_nil) rfl (bl_cons (m := 0) (by decide) rfl rfl bl_nil) (wt_none' rfl) rfl fun ⟨⟩ => ?_
          exact tx_pick' [1, 2, 3] (sub_cons rfl (sub_cons rfl (sub_cons rfl (sub_cons rfl (sub_cons rfl (sub_cons rfl sub_nil)))))) (by decide) (pick_cons rfl (pick_cons rfl (pick_cons rfl pick_nil))) (hN4 ())
        · refine nx_rd (last := #[true, true, false, true, true, false, false, false]) rfl (rd_binf' rfl rfl (bf_if (fun _ _ => by kernel_rfl) nil_eql35_if67)) rfl rfl (wt_none' rfl) rfl ?_
          exact tx_pick' [0, 1, 2, 3] (sub_cons rfl (sub_cons rfl (sub_cons rfl (sub_cons rfl (sub_cons rfl (sub_cons rfl sub_nil)))))) (by decide) (pick_cons rfl (pick_cons rfl (pick_cons rfl (pick_cons rfl pick_nil)))) (hN6 ())
      intro hN3
      refine ax_all (i := 2) (is := [3]) (by kernel_rfl) (all_cons ?_ (all_cons ?_ all_nil))
      · refine nx_oxb (is := [0]) (last := #[true, true, true, false, false, false, false, false]) rfl (oxb_callg (ent_fn' Tryd.func13 isn13 rfl rfl) (bytes_Buffer_Len_sim _ _ _ hr22 : Go.Sx.Fn Tryd.prog 13 [(Vl (.pointer (some q11)))] [⟨.pointer (some q11), [(Sl (Ki .u8) y3.1), (Vl (.int .i64 y3.2.1)), (Vl (.int .i8 y3.2.2.1))], 50, none⟩] (fun x : Unit => (Vl (.int .i64 r22.2.2.2))) (fun x => [⟨.pointer (some q11), [(Sl (Ki .u8) r22.1), (Vl (.int .i64 r22.2.1)), (Vl (.int .i8 r22.2.2.1))], 50, none⟩])) [0] [1, 2, 3] (by decide) (pick_cons rfl pick_nil) (pick_cons rfl (pick_cons rfl (pick_cons rfl pick_nil))) (Hn := fun x : Unit => [⟨.pointer (some q11), [(Sl (Ki .u8) r22.1), (Vl (.int .i64 r22.2.1)), (Vl (.int .i8 r22.2.2.1))], 50, none⟩, ⟨.pointer (some q6), [(Vl (.bool false))], 4, none⟩, ⟨.pointer (some q5), [(Vl (.int .i64 0))], 3, none⟩, ⟨.pointer (some q4), [(Vl (.int .u32 y3.2.2.2))], 23, none⟩]) (fun _ => rfl) rfl rfl) (pick_cons rfl pick_nil) rfl (bl_cons (m := 3) (by decide) rfl rfl bl_nil) (wt_none' rfl) rfl fun ⟨⟩ => ?_
        exact tx_pick' [3, 2, 1] (sub_cons rfl (sub_cons rfl (sub_cons rfl (sub_cons rfl (sub_cons rfl (sub_cons rfl sub_nil)))))) (by decide) (pick_cons rfl (pick_cons rfl (pick_cons rfl pick_nil))) (hN2 ())
      · refine nx_rd (last := #[true, true, false, true, false, false, false, false]) rfl (rd_move' rfl) rfl rfl (wt_none' rfl) rfl ?_
        exact tx_pick' [3, 2, 1, 0] (sub_cons rfl (sub_cons rfl (sub_cons rfl (sub_cons rfl (sub_cons rfl (sub_cons rfl sub_nil)))))) (by decide) (pick_cons rfl (pick_cons rfl (pick_cons rfl (pick_cons rfl pick_nil)))) (hN3 ())
  · dsimp only at hp
    refine sx_ox' (ox_calln' (ent_fn' Tryd.func12 isn12 rfl rfl) (wkbcommon_DoorOrder_sim _ hr16 : Go.Sx.Fn Tryd.prog 12 [(Vl (.bool a1))] [] (fun x : Unit => (If 61 (Ag []))) (fun x => [])) (Hn := fun x : Unit => [⟨.pointer (some q11), [(Sl (Ki .u8) r11.1), (Vl (.int .i64 r11.2.1)), (Vl (.int .i8 r11.2.2))], 50, none⟩, ⟨.pointer (some q6), [(Vl (.bool false))], 4, none⟩, ⟨.pointer (some q5), [(Vl (.int .i64 0))], 3, none⟩, ⟨.pointer (some q4), [(Vl (.int .u32 0))], 23, none⟩]) (fun _ => rfl) rfl rfl) (wt_none' rfl) fun ⟨⟩ => ?_
    obtain ⟨r17, hr17, hp⟩ := bind_some hp
    rcases r17 with y3 | y3 | y3 | y3
    · dsimp only at hp
      refine sx_ox' (ox_callg' (ent_fn' Tryd.func11 isn11 rfl rfl) (wkbcommon_ReadUInt32_v2_sim _ _ _ hr17 : Go.Sx.Fn Tryd.prog 11 [(If 32 (Vl (.pointer (some q11)))), (If 61 (Ag []))] [⟨.pointer (some q11), [(Sl (Ki .u8) r11.1), (Vl (.int .i64 r11.2.1)), (Vl (.int .i8 r11.2.2))], 50, none⟩] (fun x : Unit => (Tu [(Vl (.int .u32 y3.2.2.2)), (If 67 (Vl (.pointer (some (Ga.a 2)))))])) (fun x => [⟨.pointer (some q11), [(Sl (Ki .u8) y3.1), (Vl (.int .i64 y3.2.1)), (Vl (.int .i8 y3.2.2.1))], 50, none⟩])) [0] [1, 2, 3] (by decide) (pick_cons rfl pick_nil) (pick_cons rfl (pick_cons rfl (pick_cons rfl pick_nil))) (Hn := fun x : Unit => [⟨.pointer (some q11), [(Sl (Ki .u8) y3.1), (Vl (.int .i64 y3.2.1)), (Vl (.int .i8 y3.2.2.1))], 50, none⟩, ⟨.pointer (some q6), [(Vl (.bool false))], 4, none⟩, ⟨.pointer (some q5), [(Vl (.int .i64 0))], 3, none⟩, ⟨.pointer (some q4), [(Vl (.int .u32 0))], 23, none⟩]) (fun _ => rfl) rfl rfl) (wt_none' rfl) fun ⟨⟩ => ?_
      refine sx_rd' (rd_move' rfl) rfl rfl (wt_none' rfl) ?_
      refine sx_rd' (rd_extract' rfl rfl) rfl rfl (wt_none' rfl) ?_
      refine sx_rd' (rd_extract' rfl rfl) rfl rfl (wt_none' rfl) ?_
      refine sx_ox' (ox_store' (i := 3) (o := 0) rfl rfl (lv_vl rfl rfl) ⟨rfl, rfl, rfl, rfl⟩ rfl info23 rfl (H' := [⟨.pointer (some q11), [(Sl (Ki .u8) y3.1), (Vl (.int .i64 y3.2.1)), (Vl (.int .i8 y3.2.2.1))], 50, none⟩, ⟨.pointer (some q6), [(Vl (.bool false))], 4, none⟩, ⟨.pointer (some q5), [(Vl (.int .i64 0))], 3, none⟩, ⟨.pointer (some q4), [(Vl (.int .u32 y3.2.2.2))], 23, none⟩]) rfl) (wt_none' rfl) fun _ => ?_
      refine sx_rd' (rd_assign' rfl) rfl rfl (wt_none' rfl) ?_
      refine sx_nil' ?_
      show TX E K4 _
      refine tx_k' hK4 ?_
      refine cx_seq' fun K5 hK5 => ?_
      refine cx_plana' [q4.block] [(2, 1), (5, 2), (6, 1), (7, 1)] [(0, 2), (1, 1)] 6 #[true, true, false, false, false, false, false, false] mixed (by kernel_rfl) ?_
      refine px_rb' rfl (rb_load' (i := 3) (o := 0) rfl ⟨rfl, rfl, rfl, rfl⟩ rfl flat23 (by simp)) rfl rfl (wt_none' rfl) ?_
      refine px_rd' rfl (rd_move' rfl) rfl rfl (wt_none' rfl) ?_
      refine px_nil' ?_
      show AX E _ _ _ _ _ _ _ _
      obtain ⟨r22, hr22, hp⟩ := bind_some hp
      refine ax_node (f' := 0) #[true, true, true, true, true, true, true, true] (fun (v11 : Unit) => (⟨25, [⟨.fn (.func 9) ⟨[.pointer (some q4), .pointer (some q5), .pointer (some q6)]⟩, #[]⟩], [(4, (Vl (.pointer (some q4)))), (5, (Vl (.pointer (some q5)))), (6, (Vl (.pointer (some q6))))], [⟨.pointer (some q4), [(Vl (.int .u32 y3.2.2.2))], 23, none⟩, ⟨.pointer (some q5), [(Vl (.int .i64 r22.2.2.2))], 3, none⟩, ⟨.pointer (some q6), [(Vl (.bool false))], 4, none⟩]⟩ : St)) ?_ ?_
      · rintro ⟨⟩
        refine ax_nil (by kernel_rfl) ?_
        show TX E K5 _
        refine tx_k' hK5 ?_
        refine cx_retc' ?_
        replace hp := Option.some.inj hp
        subst hp
        refine tx_leave' (.inl rfl) rfl idle9 rfl Tryd.func9 isn9 rfl ?_
        refine tx_pick' (L' := [(4, (Vl (.pointer (some q4)))), (5, (Vl (.pointer (some q5)))), (6, (Vl (.pointer (some q6))))]) (H' := [⟨.pointer (some q4), [(Vl (.int .u32 y3.2.2.2))], 23, none⟩, ⟨.pointer (some q5), [(Vl (.int .i64 r22.2.2.2))], 3, none⟩, ⟨.pointer (some q6), [(Vl (.bool false))], 4, none⟩]) [0, 1, 2] (sub_cons rfl (sub_cons rfl (sub_cons rfl sub_nil))) (by decide) (pick_cons rfl (pick_cons rfl (pick_cons rfl pick_nil))) ?_
        exact tx_ret3' Tryd.results5 rfl () (rv_cell' (i := 0) (o := 0) rfl ⟨rfl, rfl, rfl, rfl⟩ rfl flat23) (rv_cell' (i := 1) (o := 0) rfl ⟨rfl, rfl, rfl, rfl⟩ rfl flat3) (rv_cell' (i := 2) (o := 0) rfl ⟨rfl, rfl, rfl, rfl⟩ rfl flat4) rfl (List.nil_sublist _)
      intro hN12
      refine ax_node (f' := 1) #[true, true, true, true, true, true, true, false] (fun (v10 : Unit) => (⟨25, [⟨.fn (.func 9) ⟨[.pointer (some q4), .pointer (some q5), .pointer (some q6)]⟩, #[]⟩], [(4, (Vl (.pointer (some q4)))), (5, (Vl (.pointer (some q5)))), (6, (Vl (.pointer (some q6)))), (24, (Vl (.bool false)))], [⟨.pointer (some q4), [(Vl (.int .u32 y3.2.2.2))], 23, none⟩, ⟨.pointer (some q5), [(Vl (.int .i64 r22.2.2.2))], 3, none⟩, ⟨.pointer (some q6), [(Vl (.bool false))], 4, none⟩]⟩ : St)) ?_ ?_
      · rintro ⟨⟩
        refine ax_all (i := 7) (is := []) (by kernel_rfl) (all_cons ?_ all_nil)
        · refine nx_oxv (last := #[true, true, true, true, true, true, true, true]) rfl (oxv_store (i := 2) (o := 0) rfl rfl (lv_vl rfl rfl) ⟨rfl, rfl, rfl, rfl⟩ rfl info4 rfl (H' := [⟨.pointer (some q4), [(Vl (.int .u32 y3.2.2.2))], 23, none⟩, ⟨.pointer (some q5), [(Vl (.int .i64 r22.2.2.2))], 3, none⟩, ⟨.pointer (some q6), [(Vl (.bool false))], 4, none⟩]) rfl) rfl rfl (bo_cons (m := 0) (by decide) rfl rfl bo_nil) (wt_none' rfl) rfl fun _ => ?_
          exact tx_pick' [0, 1, 2] (sub_cons rfl (sub_cons rfl (sub_cons rfl sub_nil))) (by decide) (pick_cons rfl (pick_cons rfl (pick_cons rfl pick_nil))) (hN12 ())
      intro hN11
      refine ax_node (f' := 2) #[true, true, true, true, true, true, false, false] (fun (v8 : Unit) => (⟨25, [⟨.fn (.func 9) ⟨[.pointer (some q4), .pointer (some q5), .pointer (some q6)]⟩, #[]⟩], [(4, (Vl (.pointer (some q4)))), (5, (Vl (.pointer (some q5)))), (6, (Vl (.pointer (some q6)))), (22, (Vl (.int .i64 r22.2.2.2))), (24, (Vl (.bool false)))], [⟨.pointer (some q4), [(Vl (.int .u32 y3.2.2.2))], 23, none⟩, ⟨.pointer (some q5), [(Vl (.int .i64 0))], 3, none⟩, ⟨.pointer (some q6), [(Vl (.bool false))], 4, none⟩]⟩ : St)) ?_ ?_
      · rintro ⟨⟩
        refine ax_all (i := 6) (is := []) (by kernel_rfl) (all_cons ?_ all_nil)
        · refine nx_oxv (last := #[true, true, true, true, true, true, true, false]) rfl (oxv_store (i := 1) (o := 0) rfl rfl (lv_vl rfl rfl) ⟨rfl, rfl, rfl, rfl⟩ rfl info3 rfl (H' := [⟨.pointer (some q4), [(Vl (.int .u32 y3.2.2.2))], 23, none⟩, ⟨.pointer (some q5), [(Vl (.int .i64 r22.2.2.2))], 3, none⟩, ⟨.pointer (some q6), [(Vl (.bool false))], 4, none⟩]) rfl) rfl rfl (bo_cons (m := 0) (by decide) rfl rfl bo_nil) (wt_none' rfl) rfl fun _ => ?_
          exact tx_pick' [0, 1, 2] (sub_cons rfl (sub_cons rfl (sub_cons rfl (sub_cons rfl sub_nil)))) (by decide) (pick_cons rfl (pick_cons rfl (pick_cons rfl pick_nil))) (hN11 ())
      intro hN9
      refine ax_node (f' := 2) #[true, true, true, true, false, true, true, false] (fun (v9 : Unit) => (⟨25, [⟨.fn (.func 9) ⟨[.pointer (some q4), .pointer (some q5), .pointer (some q6)]⟩, #[]⟩], [(4, (Vl (.pointer (some q4)))), (5, (Vl (.pointer (some q5)))), (6, (Vl (.pointer (some q6)))), (23, (If 67 (Vl (.pointer (some (Ga.a 2))))))], [⟨.pointer (some q4), [(Vl (.int .u32 y3.2.2.2))], 23, none⟩, ⟨.pointer (some q5), [(Vl (.int .i64 r22.2.2.2))], 3, none⟩, ⟨.pointer (some q6), [(Vl (.bool false))], 4, none⟩]⟩ : St)) ?_ ?_
      · rintro ⟨⟩
        refine ax_rd (ix := 4) (last := #[true, true, true, true, true, true, true, false]) (by kernel_rfl) rfl (rd_binf' rfl rfl (bf_if (fun _ _ => by kernel_rfl) nil_eql35_if67)) rfl rfl (wt_none' rfl) rfl ?_
        exact tx_pick' [0, 1, 2] (sub_cons rfl (sub_cons rfl (sub_cons rfl (sub_cons rfl sub_nil)))) (by decide) (pick_cons rfl (pick_cons rfl (pick_cons rfl pick_nil))) (hN11 ())
      intro hN10
      refine ax_node (f' := 3) #[true, true, true, true, true, false, false, false] (fun (v6 : Unit) => (⟨25, [⟨.fn (.func 9) ⟨[.pointer (some q4), .pointer (some q5), .pointer (some q6)]⟩, #[]⟩], [(4, (Vl (.pointer (some q4)))), (5, (Vl (.pointer (some q5)))), (6, (Vl (.pointer (some q6)))), (20, (Vl (.int .u32 y3.2.2.2))), (22, (Vl (.int .i64 r22.2.2.2))), (24, (Vl (.bool false)))], [⟨.pointer (some q4), [(Vl (.int .u32 y3.2.2.2))], 23, none⟩, ⟨.pointer (some q5), [(Vl (.int .i64 0))], 3, none⟩, ⟨.pointer (some q6), [(Vl (.bool false))], 4, none⟩]⟩ : St)) ?_ ?_
      · rintro ⟨⟩
        refine ax_all (i := 5) (is := []) (by kernel_rfl) (all_cons ?_ all_nil)
        · refine nx_ox (last := #[true, true, true, true, true, true, false, false]) rfl (ox_store' (i := 0) (o := 0) rfl rfl (lv_vl rfl rfl) ⟨rfl, rfl, rfl, rfl⟩ rfl info23 rfl (H' := [⟨.pointer (some q4), [(Vl (.int .u32 y3.2.2.2))], 23, none⟩, ⟨.pointer (some q5), [(Vl (.int .i64 0))], 3, none⟩, ⟨.pointer (some q6), [(Vl (.bool false))], 4, none⟩]) rfl) rfl (bs_cons (m := 0) rfl rfl rfl bs_nil) (wt_none' rfl) rfl fun _ => ?_
          exact tx_pick' [0, 1, 2] (sub_cons rfl (sub_cons rfl (sub_cons rfl (sub_cons rfl (sub_cons rfl sub_nil))))) (by decide) (pick_cons rfl (pick_cons rfl (pick_cons rfl pick_nil))) (hN9 ())
      intro hN7
      refine ax_node (f' := 3) #[true, true, true, true, false, true, false, false] (fun (v7 : Unit) => (⟨25, [⟨.fn (.func 9) ⟨[.pointer (some q4), .pointer (some q5), .pointer (some q6)]⟩, #[]⟩], [(4, (Vl (.pointer (some q4)))), (5, (Vl (.pointer (some q5)))), (6, (Vl (.pointer (some q6)))), (22, (Vl (.int .i64 r22.2.2.2))), (23, (If 67 (Vl (.pointer (some (Ga.a 2))))))], [⟨.pointer (some q4), [(Vl (.int .u32 y3.2.2.2))], 23, none⟩, ⟨.pointer (some q5), [(Vl (.int .i64 0))], 3, none⟩, ⟨.pointer (some q6), [(Vl (.bool false))], 4, none⟩]⟩ : St)) ?_ ?_
      · rintro ⟨⟩
        refine ax_all (i := 4) (is := [6]) (by kernel_rfl) (all_cons ?_ (all_cons ?_ all_nil))
        · refine nx_rd (last := #[true, true, true, true, true, true, false, false]) rfl (rd_binf' rfl rfl (bf_if (fun _ _ => by kernel_rfl) nil_eql35_if67)) rfl rfl (wt_none' rfl) rfl ?_
          exact tx_pick' [0, 1, 2] (sub_cons rfl (sub_cons rfl (sub_cons rfl (sub_cons rfl (sub_cons rfl sub_nil))))) (by decide) (pick_cons rfl (pick_cons rfl (pick_cons rfl pick_nil))) (hN9 ())
        · refine nx_oxv (last := #[true, true, true, true, false, true, true, false]) rfl (oxv_store (i := 1) (o := 0) rfl rfl (lv_vl rfl rfl) ⟨rfl, rfl, rfl, rfl⟩ rfl info3 rfl (H' := [⟨.pointer (some q4), [(Vl (.int .u32 y3.2.2.2))], 23, none⟩, ⟨.pointer (some q5), [(Vl (.int .i64 r22.2.2.2))], 3, none⟩, ⟨.pointer (some q6), [(Vl (.bool false))], 4, none⟩]) rfl) rfl rfl (bo_cons (m := 0) (by decide) rfl rfl bo_nil) (wt_none' rfl) rfl fun _ => ?_
          exact tx_pick' [0, 1, 2] (sub_cons rfl (sub_cons rfl (sub_cons rfl (sub_cons rfl sub_nil)))) (by decide) (pick_cons rfl (pick_cons rfl (pick_cons rfl pick_nil))) (hN10 ())
      intro hN8
      refine ax_node (f' := 4) #[true, true, true, true, false, false, false, false] (fun (v3 : Unit) => (⟨25, [⟨.fn (.func 9) ⟨[.pointer (some q4), .pointer (some q5), .pointer (some q6)]⟩, #[]⟩], [(4, (Vl (.pointer (some q4)))), (5, (Vl (.pointer (some q5)))), (6, (Vl (.pointer (some q6)))), (20, (Vl (.int .u32 y3.2.2.2))), (22, (Vl (.int .i64 r22.2.2.2))), (23, (If 67 (Vl (.pointer (some (Ga.a 2))))))], [⟨.pointer (some q4), [(Vl (.int .u32 y3.2.2.2))], 23, none⟩, ⟨.pointer (some q5), [(Vl (.int .i64 0))], 3, none⟩, ⟨.pointer (some q6), [(Vl (.bool false))], 4, none⟩]⟩ : St)) ?_ ?_
      · rintro ⟨⟩
        refine ax_all (i := 4) (is := [5]) (by kernel_rfl) (all_cons ?_ (all_cons ?_ all_nil))
        · refine nx_rd (last := #[true, true, true, true, true, false, false, false]) rfl (rd_binf' rfl rfl (bf_if (fun _ _ => by kernel_rfl) nil_eql35_if67)) rfl rfl (wt_none' rfl) rfl ?_
          exact tx_pick' [0, 1, 2] (sub_cons rfl (sub_cons rfl (sub_cons rfl (sub_cons rfl (sub_cons rfl (sub_cons rfl sub_nil)))))) (by decide) (pick_cons rfl (pick_cons rfl (pick_cons rfl pick_nil))) (hN7 ())
        · refine nx_ox (last := #[true, true, true, true, false, true, false, false]) rfl (ox_store' (i := 0) (o := 0) rfl rfl (lv_vl rfl rfl) ⟨rfl, rfl, rfl, rfl⟩ rfl info23 rfl (H' := [⟨.pointer (some q4), [(Vl (.int .u32 y3.2.2.2))], 23, none⟩, ⟨.pointer (some q5), [(Vl (.int .i64 0))], 3, none⟩, ⟨.pointer (some q6), [(Vl (.bool false))], 4, none⟩]) rfl) rfl (bs_cons (m := 0) rfl rfl rfl bs_nil) (wt_none' rfl) rfl fun _ => ?_
          exact tx_pick' [0, 1, 2] (sub_cons rfl (sub_cons rfl (sub_cons rfl (sub_cons rfl (sub_cons rfl sub_nil))))) (by decide) (pick_cons rfl (pick_cons rfl (pick_cons rfl pick_nil))) (hN8 ())
      intro hN4
      refine ax_node (f' := 4) #[true, true, true, false, false, true, false, false] (fun (v4 : Unit) => (⟨25, [⟨.fn (.func 9) ⟨[.pointer (some q4), .pointer (some q5), .pointer (some q6)]⟩, #[]⟩], [(4, (Vl (.pointer (some q4)))), (5, (Vl (.pointer (some q5)))), (6, (Vl (.pointer (some q6)))), (8, (If 67 (Vl (.pointer (some (Ga.a 2)))))), (22, (Vl (.int .i64 r22.2.2.2)))], [⟨.pointer (some q4), [(Vl (.int .u32 y3.2.2.2))], 23, none⟩, ⟨.pointer (some q5), [(Vl (.int .i64 0))], 3, none⟩, ⟨.pointer (some q6), [(Vl (.bool false))], 4, none⟩]⟩ : St)) ?_ ?_
      · rintro ⟨⟩
        refine ax_rb (ix := 3) (last := #[true, true, true, true, false, true, false, false]) (by kernel_rfl) rfl (rb_move' rfl) rfl rfl (wt_none' rfl) rfl ?_
        exact tx_pick' [0, 1, 2] (sub_cons rfl (sub_cons rfl (sub_cons rfl (sub_cons rfl (sub_cons rfl sub_nil))))) (by decide) (pick_cons rfl (pick_cons rfl (pick_cons rfl pick_nil))) (hN8 ())
      intro hN5
      refine ax_node (f' := 4) #[true, true, false, true, true, false, false, false] (fun (v5 : Unit) => (⟨25, [⟨.fn (.func 9) ⟨[.pointer (some q4), .pointer (some q5), .pointer (some q6)]⟩, #[]⟩], [(4, (Vl (.pointer (some q4)))), (5, (Vl (.pointer (some q5)))), (6, (Vl (.pointer (some q6)))), (20, (Vl (.int .u32 y3.2.2.2))), (21, (Vl (.pointer (some q11)))), (24, (Vl (.bool false)))], [⟨.pointer (some q4), [(Vl (.int .u32 y3.2.2.2))], 23, none⟩, ⟨.pointer (some q5), [(Vl (.int .i64 0))], 3, none⟩, ⟨.pointer (some q6), [(Vl (.bool false))], 4, none⟩, ⟨.pointer (some q11), [(Sl (Ki .u8) y3.1), (Vl (.int .i64 y3.2.1)), (Vl (.int .i8 y3.2.2.1))], 50, none⟩]⟩ : St)) ?_ ?_
      · rintro ⟨⟩
        refine ax_all (i := 2) (is := []) (by kernel_rfl) (all_cons ?_ all_nil)
        · refine nx_oxb (is := [3]) (last := #[true, true, true, true, true, false, false, false]) rfl (oxb_callg (ent_fn' Tryd.func13 isn13 rfl rfl) (bytes_Buffer_Len_sim _ _ _ hr22 : Go.Sx.Fn Tryd.prog 13 [(Vl (.pointer (some q11)))] [⟨.pointer (some q11), [(Sl (Ki .u8) y3.1), (Vl (.int .i64 y3.2.1)), (Vl (.int .i8 y3.2.2.1))], 50, none⟩] (fun x : Unit => (Vl (.int .i64 r22.2.2.2))) (fun x => [⟨.pointer (some q11), [(Sl (Ki .u8) r22.1), (Vl (.int .i64 r22.2.1)), (Vl (.int .i8 r22.2.2.1))], 50, none⟩])) [3] [0, 1, 2] (by decide) (pick_cons rfl pick_nil) (pick_cons rfl (pick_cons rfl (pick_cons rfl pick_nil))) (Hn := fun x : Unit => [⟨.pointer (some q11), [(Sl (Ki .u8) r22.1), (Vl (.int .i64 r22.2.1)), (Vl (.int .i8 r22.2.2.1))], 50, none⟩, ⟨.pointer (some q4), [(Vl (.int .u32 y3.2.2.2))], 23, none⟩, ⟨.pointer (some q5), [(Vl (.int .i64 0))], 3, none⟩, ⟨.pointer (some q6), [(Vl (.bool false))], 4, none⟩]) (fun _ => rfl) rfl rfl) (pick_cons rfl pick_nil) rfl (bl_cons (m := 0) (by decide) rfl rfl bl_nil) (wt_none' rfl) rfl fun ⟨⟩ => ?_
          exact tx_pick' [1, 2, 3] (sub_cons rfl (sub_cons rfl (sub_cons rfl (sub_cons rfl (sub_cons rfl (sub_cons rfl sub_nil)))))) (by decide) (pick_cons rfl (pick_cons rfl (pick_cons rfl pick_nil))) (hN7 ())
      intro hN6
      refine ax_node (f' := 5) #[true, true, true, false, false, false, false, false] (fun (v1 : Unit) => (⟨25, [⟨.fn (.func 9) ⟨[.pointer (some q4), .pointer (some q5), .pointer (some q6)]⟩, #[]⟩], [(4, (Vl (.pointer (some q4)))), (5, (Vl (.pointer (some q5)))), (6, (Vl (.pointer (some q6)))), (8, (If 67 (Vl (.pointer (some (Ga.a 2)))))), (20, (Vl (.int .u32 y3.2.2.2))), (22, (Vl (.int .i64 r22.2.2.2)))], [⟨.pointer (some q4), [(Vl (.int .u32 y3.2.2.2))], 23, none⟩, ⟨.pointer (some q5), [(Vl (.int .i64 0))], 3, none⟩, ⟨.pointer (some q6), [(Vl (.bool false))], 4, none⟩]⟩ : St)) ?_ ?_
      · rintro ⟨⟩
        refine ax_all (i := 3) (is := [5]) (by kernel_rfl) (all_cons ?_ (all_cons ?_ all_nil))
        · refine nx_rd (last := #[true, true, true, true, false, false, false, false]) rfl (rd_move' rfl) rfl rfl (wt_none' rfl) rfl ?_
          exact tx_pick' [0, 1, 2] (sub_cons rfl (sub_cons rfl (sub_cons rfl (sub_cons rfl (sub_cons rfl (sub_cons rfl sub_nil)))))) (by decide) (pick_cons rfl (pick_cons rfl (pick_cons rfl pick_nil))) (hN4 ())
        · refine nx_ox (last := #[true, true, true, false, false, true, false, false]) rfl (ox_store' (i := 0) (o := 0) rfl rfl (lv_vl rfl rfl) ⟨rfl, rfl, rfl, rfl⟩ rfl info23 rfl (H' := [⟨.pointer (some q4), [(Vl (.int .u32 y3.2.2.2))], 23, none⟩, ⟨.pointer (some q5), [(Vl (.int .i64 0))], 3, none⟩, ⟨.pointer (some q6), [(Vl (.bool false))], 4, none⟩]) rfl) rfl (bs_cons (m := 0) rfl rfl rfl bs_nil) (wt_none' rfl) rfl fun _ => ?_
          exact tx_pick' [0, 1, 2] (sub_cons rfl (sub_cons rfl (sub_cons rfl (sub_cons rfl (sub_cons rfl sub_nil))))) (by decide) (pick_cons rfl (pick_cons rfl (pick_cons rfl pick_nil))) (hN5 ())
      intro hN2
      refine ax_node (f' := 5) #[true, true, false, true, false, false, false, false] (fun (v2 : Unit) => (⟨25, [⟨.fn (.func 9) ⟨[.pointer (some q4), .pointer (some q5), .pointer (some q6)]⟩, #[]⟩], [(4, (Vl (.pointer (some q4)))), (5, (Vl (.pointer (some q5)))), (6, (Vl (.pointer (some q6)))), (20, (Vl (.int .u32 y3.2.2.2))), (21, (Vl (.pointer (some q11)))), (23, (If 67 (Vl (.pointer (some (Ga.a 2))))))], [⟨.pointer (some q4), [(Vl (.int .u32 y3.2.2.2))], 23, none⟩, ⟨.pointer (some q5), [(Vl (.int .i64 0))], 3, none⟩, ⟨.pointer (some q6), [(Vl (.bool false))], 4, none⟩, ⟨.pointer (some q11), [(Sl (Ki .u8) y3.1), (Vl (.int .i64 y3.2.1)), (Vl (.int .i8 y3.2.2.1))], 50, none⟩]⟩ : St)) ?_ ?_
      · rintro ⟨⟩
        refine ax_all (i := 2) (is := [4]) (by kernel_rfl) (all_cons ?_ (all_cons ?_ all_nil))
        · refine nx_oxb (is := [3]) (last := #[true, true, true, true, false, false, false, false]) rfl (oxb_callg (ent_fn' Tryd.func13 isn13 rfl rfl) (bytes_Buffer_Len_sim _ _ _ hr22 : Go.Sx.Fn Tryd.prog 13 [(Vl (.pointer (some q11)))] [⟨.pointer (some q11), [(Sl (Ki .u8) y3.1), (Vl (.int .i64 y3.2.1)), (Vl (.int .i8 y3.2.2.1))], 50, none⟩] (fun x : Unit => (Vl (.int .i64 r22.2.2.2))) (fun x => [⟨.pointer (some q11), [(Sl (Ki .u8) r22.1), (Vl (.int .i64 r22.2.1)), (Vl (.int .i8 r22.2.2.1))], 50, none⟩])) [3] [0, 1, 2] (by decide) (pick_cons rfl pick_nil) (pick_cons rfl (pick_cons rfl (pick_cons rfl pick_nil))) (Hn := fun x : Unit => [⟨.pointer (some q11), [(Sl (Ki .u8) r22.1), (Vl (.int .i64 r22.2.1)), (Vl (.int .i8 r22.2.2.1))], 50, none⟩, ⟨.pointer (some q4), [(Vl (.int .u32 y3.2.2.2))], 23, none⟩, ⟨.pointer (some q5), [(Vl (.int .i64 0))], 3, none⟩, ⟨.pointer (some q6), [(Vl (.bool false))], 4, none⟩]) (fun _ => rfl) rfl rfl) (pick_cons rfl pick_nil) rfl (bl_cons (m := 0) (by decide) rfl rfl bl_nil) (wt_none' rfl) rfl fun ⟨⟩ => ?_
          exact tx_pick' [1, 2, 3] (sub_cons rfl (sub_cons rfl (sub_cons rfl (sub_cons rfl (sub_cons rfl (sub_cons rfl sub_nil)))))) (by decide) (pick_cons rfl (pick_cons rfl (pick_cons rfl pick_nil))) (hN4 ())
        · refine nx_rd (last := #[true, true, false, true, true, false, false, false]) rfl (rd_binf' rfl rfl (bf_if (fun _ _ => by kernel_rfl) nil_eql35_if67)) rfl rfl (wt_none' rfl) rfl ?_
          exact tx_pick' [0, 1, 2, 3] (sub_cons rfl (sub_cons rfl (sub_cons rfl (sub_cons rfl (sub_cons rfl (sub_cons rfl sub_nil)))))) (by decide) (pick_cons rfl (pick_cons rfl (pick_cons rfl (pick_cons rfl pick_nil)))) (hN6 ())
      intro hN3
      refine ax_all (i := 2) (is := [3]) (by kernel_rfl) (all_cons ?_ (all_cons ?_ all_nil))
      · refine nx_oxb (is := [0]) (last := #[true, true, true, false, false, false, false, false]) rfl (oxb_callg (ent_fn' Tryd.func13 isn13 rfl rfl) (bytes_Buffer_Len_sim _ _ _ hr22 : Go.Sx.Fn Tryd.prog 13 [(Vl (.pointer (some q11)))] [⟨.pointer (some q11), [(Sl (Ki .u8) y3.1), (Vl (.int .i64 y3.2.1)), (Vl (.int .i8 y3.2.2.1))], 50, none⟩] (fun x : Unit => (Vl (.int .i64 r22.2.2.2))) (fun x => [⟨.pointer (some q11), [(Sl (Ki .u8) r22.1), (Vl (.int .i64 r22.2.1)), (Vl (.int .i8 r22.2.2.1))], 50, none⟩])) [0] [1, 2, 3] (by decide) (pick_cons rfl pick_nil) (pick_cons rfl (pick_cons rfl (pick_cons rfl pick_nil))) (Hn := fun x : Unit => [⟨.pointer (some q11), [(Sl (Ki .u8) r22.1), (Vl (.int .i64 r22.2.1)), (Vl (.int .i8 r22.2.2.1))], 50, none⟩, ⟨.pointer (some q6), [(Vl (.bool false))], 4, none⟩, ⟨.pointer (some q5), [(Vl (.int .i64 0))], 3, none⟩, ⟨.pointer (some q4), [(Vl (.int .u32 y3.2.2.2))], 23, none⟩]) (fun _ => rfl) rfl rfl) (pick_cons rfl pick_nil) rfl (bl_cons (m := 3) (by decide) rfl rfl bl_nil) (wt_none' rfl) rfl fun ⟨⟩ => ?_
        exact tx_pick' [3, 2, 1] (sub_cons rfl (sub_cons rfl (sub_cons rfl (sub_cons rfl (sub_cons rfl (sub_cons rfl sub_nil)))))) (by decide) (pick_cons rfl (pick_cons rfl (pick_cons rfl pick_nil))) (hN2 ())
      · refine nx_rd (last := #[true, true, false, true, false, false, false, false]) rfl (rd_move' rfl) rfl rfl (wt_none' rfl) rfl ?_
        exact tx_pick' [3, 2, 1, 0] (sub_cons rfl (sub_cons rfl (sub_cons rfl (sub_cons rfl (sub_cons rfl (sub_cons rfl sub_nil)))))) (by decide) (pick_cons rfl (pick_cons rfl (pick_cons rfl (pick_cons rfl pick_nil)))) (hN3 ())
    · dsimp only at hp
      refine sx_ox' (ox_callg' (ent_fn' Tryd.func11 isn11 rfl rfl) (wkbcommon_ReadUInt32_v2_sim _ _ _ hr17 : Go.Sx.Fn Tryd.prog 11 [(If 32 (Vl (.pointer (some q11)))), (If 61 (Ag []))] [⟨.pointer (some q11), [(Sl (Ki .u8) r11.1), (Vl (.int .i64 r11.2.1)), (Vl (.int .i8 r11.2.2))], 50, none⟩] (fun x : Unit => (Tu [(Vl (.int .u32 y3.2.2.2)), (Vl .nilIface)])) (fun x => [⟨.pointer (some q11), [(Sl (Ki .u8) y3.1), (Vl (.int .i64 y3.2.1)), (Vl (.int .i8 y3.2.2.1))], 50, none⟩])) [0] [1, 2, 3] (by decide) (pick_cons rfl pick_nil) (pick_cons rfl (pick_cons rfl (pick_cons rfl pick_nil))) (Hn := fun x : Unit => [⟨.pointer (some q11), [(Sl (Ki .u8) y3.1), (Vl (.int .i64 y3.2.1)), (Vl (.int .i8 y3.2.2.1))], 50, none⟩, ⟨.pointer (some q6), [(Vl (.bool false))], 4, none⟩, ⟨.pointer (some q5), [(Vl (.int .i64 0))], 3, none⟩, ⟨.pointer (some q4), [(Vl (.int .u32 0))], 23, none⟩]) (fun _ => rfl) rfl rfl) (wt_none' rfl) fun ⟨⟩ => ?_
      refine sx_rd' (rd_move' rfl) rfl rfl (wt_none' rfl) ?_
      refine sx_rd' (rd_extract' rfl rfl) rfl rfl (wt_none' rfl) ?_
      refine sx_rd' (rd_extract' rfl rfl) rfl rfl (wt_none' rfl) ?_
      refine sx_ox' (ox_store' (i := 3) (o := 0) rfl rfl (lv_vl rfl rfl) ⟨rfl, rfl, rfl, rfl⟩ rfl info23 rfl (H' := [⟨.pointer (some q11), [(Sl (Ki .u8) y3.1), (Vl (.int .i64 y3.2.1)), (Vl (.int .i8 y3.2.2.1))], 50, none⟩, ⟨.pointer (some q6), [(Vl (.bool false))], 4, none⟩, ⟨.pointer (some q5), [(Vl (.int .i64 0))], 3, none⟩, ⟨.pointer (some q4), [(Vl (.int .u32 y3.2.2.2))], 23, none⟩]) rfl) (wt_none' rfl) fun _ => ?_
      refine sx_rd' (rd_assign' rfl) rfl rfl (wt_none' rfl) ?_
      refine sx_nil' ?_
      show TX E K4 _
      refine tx_k' hK4 ?_
      refine cx_seq' fun K5 hK5 => ?_
      refine cx_plana' [q4.block] [(2, 1), (5, 2), (6, 1), (7, 1)] [(0, 2), (1, 1)] 6 #[true, true, false, false, false, false, false, false] mixed (by kernel_rfl) ?_
      refine px_rb' rfl (rb_load' (i := 3) (o := 0) rfl ⟨rfl, rfl, rfl, rfl⟩ rfl flat23 (by simp)) rfl rfl (wt_none' rfl) ?_
      refine px_rd' rfl (rd_move' rfl) rfl rfl (wt_none' rfl) ?_
      refine px_nil' ?_
      show AX E _ _ _ _ _ _ _ _
      obtain ⟨r22, hr22, hp⟩ := bind_some hp
      refine ax_node (f' := 0) #[true, true, true, true, true, true, true, true] (fun (v11 : Unit) => (⟨25, [⟨.fn (.func 9) ⟨[.pointer (some q4), .pointer (some q5), .pointer (some q6)]⟩, #[]⟩], [(4, (Vl (.pointer (some q4)))), (5, (Vl (.pointer (some q5)))), (6, (Vl (.pointer (some q6))))], [⟨.pointer (some q4), [(Vl (.int .u32 y3.2.2.2))], 23, none⟩, ⟨.pointer (some q5), [(Vl (.int .i64 r22.2.2.2))], 3, none⟩, ⟨.pointer (some q6), [(Vl (.bool true))], 4, none⟩]⟩ : St)) ?_ ?_
      · rintro ⟨⟩
        refine ax_nil (by kernel_rfl) ?_
        show TX E K5 _
        refine tx_k' hK5 ?_
        refine cx_retc' ?_
        replace hp := Option.some.inj hp
        subst hp
        refine tx_leave' (.inl rfl) rfl idle9 rfl Tryd.func9 isn9 rfl ?_
        refine tx_pick' (L' := [(4, (Vl (.pointer (some q4)))), (5, (Vl (.pointer (some q5)))), (6, (Vl (.pointer (some q6))))]) (H' := [⟨.pointer (some q4), [(Vl (.int .u32 y3.2.2.2))], 23, none⟩, ⟨.pointer (some q5), [(Vl (.int .i64 r22.2.2.2))], 3, none⟩, ⟨.pointer (some q6), [(Vl (.bool true))], 4, none⟩]) [0, 1, 2] (sub_cons rfl (sub_cons rfl (sub_cons rfl sub_nil))) (by decide) (pick_cons rfl (pick_cons rfl (pick_cons rfl pick_nil))) ?_
        exact tx_ret3' Tryd.results5 rfl () (rv_cell' (i := 0) (o := 0) rfl ⟨rfl, rfl, rfl, rfl⟩ rfl flat23) (rv_cell' (i := 1) (o := 0) rfl ⟨rfl, rfl, rfl, rfl⟩ rfl flat3) (rv_cell' (i := 2) (o := 0) rfl ⟨rfl, rfl, rfl, rfl⟩ rfl flat4) rfl (List.nil_sublist _)
      intro hN12
      refine ax_node (f' := 1) #[true, true, true, true, true, true, true, false] (fun (v10 : Unit) => (⟨25, [⟨.fn (.func 9) ⟨[.pointer (some q4), .pointer (some q5), .pointer (some q6)]⟩, #[]⟩], [(4, (Vl (.pointer (some q4)))), (5, (Vl (.pointer (some q5)))), (6, (Vl (.pointer (some q6)))), (24, (Vl (.bool true)))], [⟨.pointer (some q4), [(Vl (.int .u32 y3.2.2.2))], 23, none⟩, ⟨.pointer (some q5), [(Vl (.int .i64 r22.2.2.2))], 3, none⟩, ⟨.pointer (some q6), [(Vl (.bool false))], 4, none⟩]⟩ : St)) ?_ ?_
      · rintro ⟨⟩
        refine ax_all (i := 7) (is := []) (by kernel_rfl) (all_cons ?_ all_nil)
        · refine nx_oxv (last := #[true, true, true, true, true, true, true, true]) rfl (oxv_store (i := 2) (o := 0) rfl rfl (lv_vl rfl rfl) ⟨rfl, rfl, rfl, rfl⟩ rfl info4 rfl (H' := [⟨.pointer (some q4), [(Vl (.int .u32 y3.2.2.2))], 23, none⟩, ⟨.pointer (some q5), [(Vl (.int .i64 r22.2.2.2))], 3, none⟩, ⟨.pointer (some q6), [(Vl (.bool true))], 4, none⟩]) rfl) rfl rfl (bo_cons (m := 0) (by decide) rfl rfl bo_nil) (wt_none' rfl) rfl fun _ => ?_
          exact tx_pick' [0, 1, 2] (sub_cons rfl (sub_cons rfl (sub_cons rfl sub_nil))) (by decide) (pick_cons rfl (pick_cons rfl (pick_cons rfl pick_nil))) (hN12 ())
      intro hN11
      refine ax_node (f' := 2) #[true, true, true, true, true, true, false, false] (fun (v8 : Unit) => (⟨25, [⟨.fn (.func 9) ⟨[.pointer (some q4), .pointer (some q5), .pointer (some q6)]⟩, #[]⟩], [(4, (Vl (.pointer (some q4)))), (5, (Vl (.pointer (some q5)))), (6, (Vl (.pointer (some q6)))), (22, (Vl (.int .i64 r22.2.2.2))), (24, (Vl (.bool true)))], [⟨.pointer (some q4), [(Vl (.int .u32 y3.2.2.2))], 23, none⟩, ⟨.pointer (some q5), [(Vl (.int .i64 0))], 3, none⟩, ⟨.pointer (some q6), [(Vl (.bool false))], 4, none⟩]⟩ : St)) ?_ ?_
      · rintro ⟨⟩
        refine ax_all (i := 6) (is := []) (by kernel_rfl) (all_cons ?_ all_nil)
        · refine nx_oxv (last := #[true, true, true, true, true, true, true, false]) rfl (oxv_store (i := 1) (o := 0) rfl rfl (lv_vl rfl rfl) ⟨rfl, rfl, rfl, rfl⟩ rfl info3 rfl (H' := [⟨.pointer (some q4), [(Vl (.int .u32 y3.2.2.2))], 23, none⟩, ⟨.pointer (some q5), [(Vl (.int .i64 r22.2.2.2))], 3, none⟩, ⟨.pointer (some q6), [(Vl (.bool false))], 4, none⟩]) rfl) rfl rfl (bo_cons (m := 0) (by decide) rfl rfl bo_nil) (wt_none' rfl) rfl fun _ => ?_
          exact tx_pick' [0, 1, 2] (sub_cons rfl (sub_cons rfl (sub_cons rfl (sub_cons rfl sub_nil)))) (by decide) (pick_cons rfl (pick_cons rfl (pick_cons rfl pick_nil))) (hN11 ())
      intro hN9
      refine ax_node (f' := 2) #[true, true, true, true, false, true, true, false] (fun (v9 : Unit) => (⟨25, [⟨.fn (.func 9) ⟨[.pointer (some q4), .pointer (some q5), .pointer (some q6)]⟩, #[]⟩], [(4, (Vl (.pointer (some q4)))), (5, (Vl (.pointer (some q5)))), (6, (Vl (.pointer (some q6)))), (23, (Vl .nilIface))], [⟨.pointer (some q4), [(Vl (.int .u32 y3.2.2.2))], 23, none⟩, ⟨.pointer (some q5), [(Vl (.int .i64 r22.2.2.2))], 3, none⟩, ⟨.pointer (some q6), [(Vl (.bool false))], 4, none⟩]⟩ : St)) ?_ ?_
      · rintro ⟨⟩
        refine ax_rd (ix := 4) (last := #[true, true, true, true, true, true, true, false]) (by kernel_rfl) rfl (rd_binf' rfl rfl (bf_vl (fun _ => by kernel_rfl) nil_eql35_nilif)) rfl rfl (wt_none' rfl) rfl ?_
        exact tx_pick' [0, 1, 2] (sub_cons rfl (sub_cons rfl (sub_cons rfl (sub_cons rfl sub_nil)))) (by decide) (pick_cons rfl (pick_cons rfl (pick_cons rfl pick_nil))) (hN11 ())
      intro hN10
      refine ax_node (f' := 3) #[true, true, true, true, true, false, false, false] (fun (v6 : Unit) => (⟨25, [⟨.fn (.func 9) ⟨[.pointer (some q4), .pointer (some q5), .pointer (some q6)]⟩, #[]⟩], [(4, (Vl (.pointer (some q4)))), (5, (Vl (.pointer (some q5)))), (6, (Vl (.pointer (some q6)))), (20, (Vl (.int .u32 y3.2.2.2))), (22, (Vl (.int .i64 r22.2.2.2))), (24, (Vl (.bool true)))], [⟨.pointer (some q4), [(Vl (.int .u32 y3.2.2.2))], 23, none⟩, ⟨.pointer (some q5), [(Vl (.int .i64 0))], 3, none⟩, ⟨.pointer (some q6), [(Vl (.bool false))], 4, none⟩]⟩ : St)) ?_ ?_
      · rintro ⟨⟩
        refine ax_all (i := 5) (is := []) (by kernel_rfl) (all_cons ?_ all_nil)
        · refine nx_ox (last := #[true, true, true, true, true, true, false, false]) rfl (ox_store' (i := 0) (o := 0) rfl rfl (lv_vl rfl rfl) ⟨rfl, rfl, rfl, rfl⟩ rfl info23 rfl (H' := [⟨.pointer (some q4), [(Vl (.int .u32 y3.2.2.2))], 23, none⟩, ⟨.pointer (some q5), [(Vl (.int .i64 0))], 3, none⟩, ⟨.pointer (some q6), [(Vl (.bool false))], 4, none⟩]) rfl) rfl (bs_cons (m := 0) rfl rfl rfl bs_nil) (wt_none' rfl) rfl fun _ => ?_
          exact tx_pick' [0, 1, 2] (sub_cons rfl (sub_cons rfl (sub_cons rfl (sub_cons rfl (sub_cons rfl sub_nil))))) (by decide) (pick_cons rfl (pick_cons rfl (pick_cons rfl pick_nil))) (hN9 ())
      intro hN7
      refine ax_node (f' := 3) #[true, true, true, true, false, true, false, false] (fun (v7 : Unit) => (⟨25, [⟨.fn (.func 9) ⟨[.pointer (some q4), .pointer (some q5), .pointer (some q6)]⟩, #[]⟩], [(4, (Vl (.pointer (some q4)))), (5, (Vl (.pointer (some q5)))), (6, (Vl (.pointer (some q6)))), (22, (Vl (.int .i64 r22.2.2.2))), (23, (Vl .nilIface))], [⟨.pointer (some q4), [(Vl (.int .u32 y3.2.2.2))], 23, none⟩, ⟨.pointer (some q5), [(Vl (.int .i64 0))], 3, none⟩, ⟨.pointer (some q6), [(Vl (.bool false))], 4, none⟩]⟩ : St)) ?_ ?_
      · rintro ⟨⟩
        refine ax_all (i := 4) (is := [6]) (by kernel_rfl) (all_cons ?_ (all_cons ?_ all_nil))
        · refine nx_rd (last := #[true, true, true, true, true, true, false, false]) rfl (rd_binf' rfl rfl (bf_vl (fun _ => by kernel_rfl) nil_eql35_nilif)) rfl rfl (wt_none' rfl) rfl ?_
          exact tx_pick' [0, 1, 2] (sub_cons rfl (sub_cons rfl (sub_cons rfl (sub_cons rfl (sub_cons rfl sub_nil))))) (by decide) (pick_cons rfl (pick_cons rfl (pick_cons rfl pick_nil))) (hN9 ())
        · refine nx_oxv (last := #[true, true, true, true, false, true, true, false]) rfl (oxv_store (i := 1) (o := 0) rfl rfl (lv_vl rfl rfl) ⟨rfl, rfl, rfl, rfl⟩ rfl info3 rfl (H' := [⟨.pointer (some q4), [(Vl (.int .u32 y3.2.2.2))], 23, none⟩, ⟨.pointer (some q5), [(Vl (.int .i64 r22.2.2.2))], 3, none⟩, ⟨.pointer (some q6), [(Vl (.bool false))], 4, none⟩]) rfl) rfl rfl (bo_cons (m := 0) (by decide) rfl rfl bo_nil) (wt_none' rfl) rfl fun _ => ?_
          exact tx_pick' [0, 1, 2] (sub_cons rfl (sub_cons rfl (sub_cons rfl (sub_cons rfl sub_nil)))) (by decide) (pick_cons rfl (pick_cons rfl (pick_cons rfl pick_nil))) (hN10 ())
      intro hN8
      refine ax_node (f' := 4) #[true, true, true, true, false, false, false, false] (fun (v3 : Unit) => (⟨25, [⟨.fn (.func 9) ⟨[.pointer (some q4), .pointer (some q5), .pointer (some q6)]⟩, #[]⟩], [(4, (Vl (.pointer (some q4)))), (5, (Vl (.pointer (some q5)))), (6, (Vl (.pointer (some q6)))), (20, (Vl (.int .u32 y3.2.2.2))), (22, (Vl (.int .i64 r22.2.2.2))), (23, (Vl .nilIface))], [⟨.pointer (some q4), [(Vl (.int .u32 y3.2.2.2))], 23, none⟩, ⟨.pointer (some q5), [(Vl (.int .i64 0))], 3, none⟩, ⟨.pointer (some q6), [(Vl (.bool false))], 4, none⟩]⟩ : St)) ?_ ?_
      · rintro ⟨⟩
        refine ax_all (i := 4) (is := [5]) (by kernel_rfl) (all_cons ?_ (all_cons ?_ all_nil))
        · refine nx_rd (last := #[true, true, true, true, true, false, false, false]) rfl (rd_binf' rfl rfl (bf_vl (fun _ => by kernel_rfl) nil_eql35_nilif)) rfl rfl (wt_none' rfl) rfl ?_
          exact tx_pick' [0, 1, 2] (sub_cons rfl (sub_cons rfl (sub_cons rfl (sub_cons rfl (sub_cons rfl (sub_cons rfl sub_nil)))))) (by decide) (pick_cons rfl (pick_cons rfl (pick_cons rfl pick_nil))) (hN7 ())
        · refine nx_ox (last := #[true, true, true, true, false, true, false, false]) rfl (ox_store' (i := 0) (o := 0) rfl rfl (lv_vl rfl rfl) ⟨rfl, rfl, rfl, rfl⟩ rfl info23 rfl (H' := [⟨.pointer (some q4), [(Vl (.int .u32 y3.2.2.2))], 23, none⟩, ⟨.pointer (some q5), [(Vl (.int .i64 0))], 3, none⟩, ⟨.pointer (some q6), [(Vl (.bool false))], 4, none⟩]) rfl) rfl (bs_cons (m := 0) rfl rfl rfl bs_nil) (wt_none' rfl) rfl fun _ => ?_
          exact tx_pick' [0, 1, 2] (sub_cons rfl (sub_cons rfl (sub_cons rfl (sub_cons rfl (sub_cons rfl sub_nil))))) (by decide) (pick_cons rfl (pick_cons rfl (pick_cons rfl pick_nil))) (hN8 ())
      intro hN4
      refine ax_node (f' := 4) #[true, true, true, false, false, true, false, false] (fun (v4 : Unit) => (⟨25, [⟨.fn (.func 9) ⟨[.pointer (some q4), .pointer (some q5), .pointer (some q6)]⟩, #[]⟩], [(4, (Vl (.pointer (some q4)))), (5, (Vl (.pointer (some q5)))), (6, (Vl (.pointer (some q6)))), (8, (Vl .nilIface)), (22, (Vl (.int .i64 r22.2.2.2)))], [⟨.pointer (some q4), [(Vl (.int .u32 y3.2.2.2))], 23, none⟩, ⟨.pointer (some q5), [(Vl (.int .i64 0))], 3, none⟩, ⟨.pointer (some q6), [(Vl (.bool false))], 4, none⟩]⟩ : St)) ?_ ?_
      · rintro ⟨⟩
        refine ax_rb (ix := 3) (last := #[true, true, true, true, false, true, false, false]) (by kernel_rfl) rfl (rb_move' rfl) rfl rfl (wt_none' rfl) rfl ?_
        exact tx_pick' [0, 1, 2] (sub_cons rfl (sub_cons rfl (sub_cons rfl (sub_cons rfl (sub_cons rfl sub_nil))))) (by decide) (pick_cons rfl (pick_cons rfl (pick_cons rfl pick_nil))) (hN8 ())
      intro hN5
      refine ax_node (f' := 4) #[true, true, false, true, true, false, false, false] (fun (v5 : Unit) => (⟨25, [⟨.fn (.func 9) ⟨[.pointer (some q4), .pointer (some q5), .pointer (some q6)]⟩, #[]⟩], [(4, (Vl (.pointer (some q4)))), (5, (Vl (.pointer (some q5)))), (6, (Vl (.pointer (some q6)))), (20, (Vl (.int .u32 y3.2.2.2))), (21, (Vl (.pointer (some q11)))), (24, (Vl (.bool true)))], [⟨.pointer (some q4), [(Vl (.int .u32 y3.2.2.2))], 23, none⟩, ⟨.pointer (some q5), [(Vl (.int .i64 0))], 3, none⟩, ⟨.pointer (some q6), [(Vl (.bool false))], 4, none⟩, ⟨.pointer (some q11), [(Sl (Ki .u8) y3.1), (Vl (.int .i64 y3.2.1)), (Vl (.int .i8 y3.2.2.1))], 50, none⟩]⟩ : St)) ?_ ?_
      · rintro ⟨⟩
        refine ax_all (i := 2) (is := []) (by kernel_rfl) (all_cons ?_ all_nil)
        · refine nx_oxb (is := [3]) (last := #[true, true, true, true, true, false, false, false]) rfl (oxb_callg (ent_fn' Tryd.func13 isn13 rfl rfl) (bytes_Buffer_Len_sim _ _ _ hr22 : Go.Sx.Fn Tryd.prog 13 [(Vl (.pointer (some q11)))] [⟨.pointer (some q11), [(Sl (Ki .u8) y3.1), (Vl (.int .i64 y3.2.1)), (Vl (.int .i8 y3.2.2.1))], 50, none⟩] (fun x : Unit => (Vl (.int .i64 r22.2.2.2))) (fun x => [⟨.pointer (some q11), [(Sl (Ki .u8) r22.1), (Vl (.int .i64 r22.2.1)), (Vl (.int .i8 r22.2.2.1))], 50, none⟩])) [3] [0, 1, 2] (by decide) (pick_cons rfl pick_nil) (pick_cons rfl (pick_cons rfl (pick_cons rfl pick_nil))) (Hn := fun x : Unit => [⟨.pointer (some q11), [(Sl (Ki .u8) r22.1), (Vl (.int .i64 r22.2.1)), (Vl (.int .i8 r22.2.2.1))], 50, none⟩, ⟨.pointer (some q4), [(Vl (.int .u32 y3.2.2.2))], 23, none⟩, ⟨.pointer (some q5), [(Vl (.int .i64 0))], 3, none⟩, ⟨.pointer (some q6), [(Vl (.bool false))], 4, none⟩]) (fun _ => rfl) rfl rfl) (pick_cons rfl pick_nil) rfl (bl_cons (m := 0) (by decide) rfl rfl bl_nil) (wt_none' rfl) rfl fun ⟨⟩ => ?_
          exact tx_pick' [1, 2, 3] (sub_cons rfl (sub_cons rfl (sub_cons rfl (sub_cons rfl (sub_cons rfl (sub_cons rfl sub_nil)))))) (by decide) (pick_cons rfl (pick_cons rfl (pick_cons rfl pick_nil))) (hN7 ())
      intro hN6
      refine ax_node (f' := 5) #[true, true, true, false, false, false, false, false] (fun (v1 : Unit) => (⟨25, [⟨.fn (.func 9) ⟨[.pointer (some q4), .pointer (some q5), .pointer (some q6)]⟩, #[]⟩], [(4, (Vl (.pointer (some q4)))), (5, (Vl (.pointer (some q5)))), (6, (Vl (.pointer (some q6)))), (8, (Vl .nilIface)), (20, (Vl (.int .u32 y3.2.2.2))), (22, (Vl (.int .i64 r22.2.2.2)))], [⟨.pointer (some q4), [(Vl (.int .u32 y3.2.2.2))], 23, none⟩, ⟨.pointer (some q5), [(Vl (.int .i64 0))], 3, none⟩, ⟨.pointer (some q6), [(Vl (.bool false))], 4, none⟩]⟩ : St)) ?_ ?_
      · rintro ⟨⟩
        refine ax_all (i := 3) (is := [5]) (by kernel_rfl) (all_cons ?_ (all_cons ?_ all_nil))
        · refine nx_rd (last := #[true, true, true, true, false, false, false, false]) rfl (rd_move' rfl) rfl rfl (wt_none' rfl) rfl ?_
          exact tx_pick' [0, 1, 2] (sub_cons rfl (sub_cons rfl (sub_cons rfl (sub_cons rfl (sub_cons rfl (sub_cons rfl sub_nil)))))) (by decide) (pick_cons rfl (pick_cons rfl (pick_cons rfl pick_nil))) (hN4 ())
        · refine nx_ox (last := #[true, true, true, false, false, true, false, false]) rfl (ox_store' (i := 0) (o := 0) rfl rfl (lv_vl rfl rfl) ⟨rfl, rfl, rfl, rfl⟩ rfl info23 rfl (H' := [⟨.pointer (some q4), [(Vl (.int .u32 y3.2.2.2))], 23, none⟩, ⟨.pointer (some q5), [(Vl (.int .i64 0))], 3, none⟩, ⟨.pointer (some q6), [(Vl (.bool false))], 4, none⟩]) rfl) rfl (bs_cons (m := 0) rfl rfl rfl bs_nil) (wt_none' rfl) rfl fun _ => ?_
          exact tx_pick' [0, 1, 2] (sub_cons rfl (sub_cons rfl (sub_cons rfl (sub_cons rfl (sub_cons rfl sub_nil))))) (by decide) (pick_cons rfl (pick_cons rfl (pick_cons rfl pick_nil))) (hN5 ())
      intro hN2
      refine ax_node (f' := 5) #[true, true, false, true, false, false, false, false] (fun (v2 : Unit) => (⟨25, [⟨.fn (.func 9) ⟨[.pointer (some q4), .pointer (some q5), .pointer (some q6)]⟩, #[]⟩], [(4, (Vl (.pointer (some q4)))), (5, (Vl (.pointer (some q5)))), (6, (Vl (.pointer (some q6)))), (20, (Vl (.int .u32 y3.2.2.2))), (21, (Vl (.pointer (some q11)))), (23, (Vl .nilIface))], [⟨.pointer (some q4), [(Vl (.int .u32 y3.2.2.2))], 23, none⟩, ⟨.pointer (some q5), [(Vl (.int .i64 0))], 3, none⟩, ⟨.pointer (some q6), [(Vl (.bool false))], 4, none⟩, ⟨.pointer (some q11), [(Sl (Ki .u8) y3.1), (Vl (.int .i64 y3.2.1)), (Vl (.int .i8 y3.2.2.1))], 50, none⟩]⟩ : St)) ?_ ?_
      · rintro ⟨⟩
        refine ax_all (i := 2) (is := [4]) (by kernel_rfl) (all_cons ?_ (all_cons ?_ all_nil))
        · refine nx_oxb (is := [3]) (last := #[true, true, true, true, false, false, false, false]) rfl (oxb_callg (ent_fn' Tryd.func13 isn13 rfl rfl) (bytes_Buffer_Len_sim _ _ _ hr22 : Go.Sx.Fn Tryd.prog 13 [(Vl (.pointer (some q11)))] [⟨.pointer (some q11), [(Sl (Ki .u8) y3.1), (Vl (.int .i64 y3.2.1)), (Vl (.int .i8 y3.2.2.1))], 50, none⟩] (fun x : Unit => (Vl (.int .i64 r22.2.2.2))) (fun x => [⟨.pointer (some q11), [(Sl (Ki .u8) r22.1), (Vl (.int .i64 r22.2.1)), (Vl (.int .i8 r22.2.2.1))], 50, none⟩])) [3] [0, 1, 2] (by decide) (pick_cons rfl pick_nil) (pick_cons rfl (pick_cons rfl (pick_cons rfl pick_nil))) (Hn := fun x : Unit => [⟨.pointer (some q11), [(Sl (Ki .u8) r22.1), (Vl (.int .i64 r22.2.1)), (Vl (.int .i8 r22.2.2.1))], 50, none⟩, ⟨.pointer (some q4), [(Vl (.int .u32 y3.2.2.2))], 23, none⟩, ⟨.pointer (some q5), [(Vl (.int .i64 0))], 3, none⟩, ⟨.pointer (some q6), [(Vl (.bool false))], 4, none⟩]) (fun _ => rfl) rfl rfl) (pick_cons rfl pick_nil) rfl (bl_cons (m := 0) (by decide) rfl rfl bl_nil) (wt_none' rfl) rfl fun ⟨⟩ => ?_
          exact tx_pick' [1, 2, 3] (sub_cons rfl (sub_cons rfl (sub_cons rfl (sub_cons rfl (sub_cons rfl (sub_cons rfl sub_nil)))))) (by decide) (pick_cons rfl (pick_cons rfl (pick_cons rfl pick_nil))) (hN4 ())
        · refine nx_rd (last := #[true, true, false, true, true, false, false, false]) rfl (rd_binf' rfl rfl (bf_vl (fun _ => by kernel_rfl) nil_eql35_nilif)) rfl rfl (wt_none' rfl) rfl ?_
          exact tx_pick' [0, 1, 2, 3] (sub_cons rfl (sub_cons rfl (sub_cons rfl (sub_cons rfl (sub_cons rfl (sub_cons rfl sub_nil)))))) (by decide) (pick_cons rfl (pick_cons rfl (pick_cons rfl (pick_cons rfl pick_nil)))) (hN6 ())
      intro hN3
      refine ax_all (i := 2) (is := [3]) (by kernel_rfl) (all_cons ?_ (all_cons ?_ all_nil))
      · refine nx_oxb (is := [0]) (last := #[true, true, true, false, false, false, false, false]) rfl (oxb_callg (ent_fn' Tryd.func13 isn13 rfl rfl) (bytes_Buffer_Len_sim _ _ _ hr22 : Go.Sx.Fn Tryd.prog 13 [(Vl (.pointer (some q11)))] [⟨.pointer (some q11), [(Sl (Ki .u8) y3.1), (Vl (.int .i64 y3.2.1)), (Vl (.int .i8 y3.2.2.1))], 50, none⟩] (fun x : Unit => (Vl (.int .i64 r22.2.2.2))) (fun x => [⟨.pointer (some q11), [(Sl (Ki .u8) r22.1), (Vl (.int .i64 r22.2.1)), (Vl (.int .i8 r22.2.2.1))], 50, none⟩])) [0] [1, 2, 3] (by decide) (pick_cons rfl pick_nil) (pick_cons rfl (pick_cons rfl (pick_cons rfl pick_nil))) (Hn := fun x : Unit => [⟨.pointer (some q11), [(Sl (Ki .u8) r22.1), (Vl (.int .i64 r22.2.1)), (Vl (.int .i8 r22.2.2.1))], 50, none⟩, ⟨.pointer (some q6), [(Vl (.bool false))], 4, none⟩, ⟨.pointer (some q5), [(Vl (.int .i64 0))], 3, none⟩, ⟨.pointer (some q4), [(Vl (.int .u32 y3.2.2.2))], 23, none⟩]) (fun _ => rfl) rfl rfl) (pick_cons rfl pick_nil) rfl (bl_cons (m := 3) (by decide) rfl rfl bl_nil) (wt_none' rfl) rfl fun ⟨⟩ => ?_
        exact tx_pick' [3, 2, 1] (sub_cons rfl (sub_cons rfl (sub_cons rfl (sub_cons rfl (sub_cons rfl (sub_cons rfl sub_nil)))))) (by decide) (pick_cons rfl (pick_cons rfl (pick_cons rfl pick_nil))) (hN2 ())
      · refine nx_rd (last := #[true, true, false, true, false, false, false, false]) rfl (rd_move' rfl) rfl rfl (wt_none' rfl) rfl ?_
        exact tx_pick' [3, 2, 1, 0] (sub_cons rfl (sub_cons rfl (sub_cons rfl (sub_cons rfl (sub_cons rfl (sub_cons rfl sub_nil)))))) (by decide) (pick_cons rfl (pick_cons rfl (pick_cons rfl (pick_cons rfl pick_nil)))) (hN3 ())
    · dsimp only at hp
      refine sx_ox' (ox_callg' (ent_fn' Tryd.func11 isn11 rfl rfl) (wkbcommon_ReadUInt32_v2_sim _ _ _ hr17 : Go.Sx.Fn Tryd.prog 11 [(If 32 (Vl (.pointer (some q11)))), (If 61 (Ag []))] [⟨.pointer (some q11), [(Sl (Ki .u8) r11.1), (Vl (.int .i64 r11.2.1)), (Vl (.int .i8 r11.2.2))], 50, none⟩] (fun x : Unit => (Tu [(Vl (.int .u32 y3.2.2.2)), (If 67 (Vl (.pointer (some (Ga.a 4)))))])) (fun x => [⟨.pointer (some q11), [(Sl (Ki .u8) y3.1), (Vl (.int .i64 y3.2.1)), (Vl (.int .i8 y3.2.2.1))], 50, none⟩])) [0] [1, 2, 3] (by decide) (pick_cons rfl pick_nil) (pick_cons rfl (pick_cons rfl (pick_cons rfl pick_nil))) (Hn := fun x : Unit => [⟨.pointer (some q11), [(Sl (Ki .u8) y3.1), (Vl (.int .i64 y3.2.1)), (Vl (.int .i8 y3.2.2.1))], 50, none⟩, ⟨.pointer (some q6), [(Vl (.bool false))], 4, none⟩, ⟨.pointer (some q5), [(Vl (.int .i64 0))], 3, none⟩, ⟨.pointer (some q4), [(Vl (.int .u32 0))], 23, none⟩]) (fun _ => rfl) rfl rfl) (wt_none' rfl) fun ⟨⟩ => ?_
      refine sx_rd' (rd_move' rfl) rfl rfl (wt_none' rfl) ?_
      refine sx_rd' (rd_extract' rfl rfl) rfl rfl (wt_none' rfl) ?_
      refine sx_rd' (rd_extract' rfl rfl) rfl rfl (wt_none' rfl) ?_
      refine sx_ox' (ox_store' (i := 3) (o := 0) rfl rfl (lv_vl rfl rfl) ⟨rfl, rfl, rfl, rfl⟩ rfl info23 rfl (H' := [⟨.pointer (some q11), [(Sl (Ki .u8) y3.1), (Vl (.int .i64 y3.2.1)), (Vl (.int .i8 y3.2.2.1))], 50, none⟩, ⟨.pointer (some q6), [(Vl (.bool false))], 4, none⟩, ⟨.pointer (some q5), [(Vl (.int .i64 0))], 3, none⟩, ⟨.pointer (some q4), [(Vl (.int .u32 y3.2.2.2))], 23, none⟩]) rfl) (wt_none' rfl) fun _ => ?_
      refine sx_rd' (rd_assign' rfl) rfl rfl (wt_none' rfl) ?_
      refine sx_nil' ?_
      show TX E K4 _
      refine tx_k' hK4 ?_
      refine cx_seq' fun K5 hK5 => ?_
      refine cx_plana' [q4.block] [(2, 1), (5, 2), (6, 1), (7, 1)] [(0, 2), (1, 1)] 6 #[true, true, false, false, false, false, false, false] mixed (by kernel_rfl) ?_
      refine px_rb' rfl (rb_load' (i := 3) (o := 0) rfl ⟨rfl, rfl, rfl, rfl⟩ rfl flat23 (by simp)) rfl rfl (wt_none' rfl) ?_
      refine px_rd' rfl (rd_move' rfl) rfl rfl (wt_none' rfl) ?_
      refine px_nil' ?_
      show AX E _ _ _ _ _ _ _ _
      obtain ⟨r22, hr22, hp⟩ := bind_some hp
      refine ax_node (f' := 0) #[true, true, true, true, true, true, true, true] (fun (v11 : Unit) => (⟨25, [⟨.fn (.func 9) ⟨[.pointer (some q4), .pointer (some q5), .pointer (some q6)]⟩, #[]⟩], [(4, (Vl (.pointer (some q4)))), (5, (Vl (.pointer (some q5)))), (6, (Vl (.pointer (some q6))))], [⟨.pointer (some q4), [(Vl (.int .u32 y3.2.2.2))], 23, none⟩, ⟨.pointer (some q5), [(Vl (.int .i64 r22.2.2.2))], 3, none⟩, ⟨.pointer (some q6), [(Vl (.bool false))], 4, none⟩]⟩ : St)) ?_ ?_
      · rintro ⟨⟩
        refine ax_nil (by kernel_rfl) ?_
        show TX E K5 _
        refine tx_k' hK5 ?_
        refine cx_retc' ?_
        replace hp := Option.some.inj hp
        subst hp
        refine tx_leave' (.inl rfl) rfl idle9 rfl Tryd.func9 isn9 rfl ?_
        refine tx_pick' (L' := [(4, (Vl (.pointer (some q4)))), (5, (Vl (.pointer (some q5)))), (6, (Vl (.pointer (some q6))))]) (H' := [⟨.pointer (some q4), [(Vl (.int .u32 y3.2.2.2))], 23, none⟩, ⟨.pointer (some q5), [(Vl (.int .i64 r22.2.2.2))], 3, none⟩, ⟨.pointer (some q6), [(Vl (.bool false))], 4, none⟩]) [0, 1, 2] (sub_cons rfl (sub_cons rfl (sub_cons rfl sub_nil))) (by decide) (pick_cons rfl (pick_cons rfl (pick_cons rfl pick_nil))) ?_
        exact tx_ret3' Tryd.results5 rfl () (rv_cell' (i := 0) (o := 0) rfl ⟨rfl, rfl, rfl, rfl⟩ rfl flat23) (rv_cell' (i := 1) (o := 0) rfl ⟨rfl, rfl, rfl, rfl⟩ rfl flat3) (rv_cell' (i := 2) (o := 0) rfl ⟨rfl, rfl, rfl, rfl⟩ rfl flat4) rfl (List.nil_sublist _)
      intro hN12
      refine ax_node (f' := 1) #[true, true, true, true, true, true, true, false] (fun (v10 : Unit) => (⟨25, [⟨.fn (.func 9) ⟨[.pointer (some q4), .pointer (some q5), .pointer (some q6)]⟩, #[]⟩], [(4, (Vl (.pointer (some q4)))), (5, (Vl (.pointer (some q5)))), (6, (Vl (.pointer (some q6)))), (24, (Vl (.bool false)))], [⟨.pointer (some q4), [(Vl (.int .u32 y3.2.2.2))], 23, none⟩, ⟨.pointer (some q5), [(Vl (.int .i64 r22.2.2.2))], 3, none⟩, ⟨.pointer (some q6), [(Vl (.bool false))], 4, none⟩]⟩ : St)) ?_ ?_
      · rintro ⟨⟩
        refine ax_all (i := 7) (is := []) (by kernel_rfl) (all_cons ?_ all_nil)
        · refine nx_oxv (last := #[true, true, true, true, true, true, true, true]) rfl (oxv_store (i := 2) (o := 0) rfl rfl (lv_vl rfl rfl) ⟨rfl, rfl, rfl, rfl⟩ rfl info4 rfl (H' := [⟨.pointer (some q4), [(Vl (.int .u32 y3.2.2.2))], 23, none⟩, ⟨.pointer (some q5), [(Vl (.int .i64 r22.2.2.2))], 3, none⟩, ⟨.pointer (some q6), [(Vl (.bool false))], 4, none⟩]) rfl) rfl rfl (bo_cons (m := 0) (by decide) rfl rfl bo_nil) (wt_none' rfl) rfl fun _ => ?_
          exact tx_pick' [0, 1, 2] (sub_cons rfl (sub_cons rfl (sub_cons rfl sub_nil))) (by decide) (pick_cons rfl (pick_cons rfl (pick_cons rfl pick_nil))) (hN12 ())
      intro hN11
      refine ax_node (f' := 2) #[true, true, true, true, true, true, false, false] (fun (v8 : Unit) => (⟨25, [⟨.fn (.func 9) ⟨[.pointer (some q4), .pointer (some q5), .pointer (some q6)]⟩, #[]⟩], [(4, (Vl (.pointer (some q4)))), (5, (Vl (.pointer (some q5)))), (6, (Vl (.pointer (some q6)))), (22, (Vl (.int .i64 r22.2.2.2))), (24, (Vl (.bool false)))], [⟨.pointer (some q4), [(Vl (.int .u32 y3.2.2.2))], 23, none⟩, ⟨.pointer (some q5), [(Vl (.int .i64 0))], 3, none⟩, ⟨.pointer (some q6), [(Vl (.bool false))], 4, none⟩]⟩ : St)) ?_ ?_
      · rintro ⟨⟩
        refine ax_all (i := 6) (is := []) (by kernel_rfl) (all_cons ?_ all_nil)
        · refine nx_oxv (last := #[true, true, true, true, true, true, true, false]) rfl (oxv_store (i := 1) (o := 0) rfl rfl (lv_vl rfl rfl) ⟨rfl, rfl, rfl, rfl⟩ rfl info3 rfl (H' := [⟨.pointer (some q4), [(Vl (.int .u32 y3.2.2.2))], 23, none⟩, ⟨.pointer (some q5), [(Vl (.int .i64 r22.2.2.2))], 3, none⟩, ⟨.pointer (some q6), [(Vl (.bool false))], 4, none⟩]) rfl) rfl rfl (bo_cons (m := 0) (by decide) rfl rfl bo_nil) (wt_none' rfl) rfl fun _ => ?_
          exact tx_pick' [0, 1, 2] (sub_cons rfl (sub_cons rfl (sub_cons rfl (sub_cons rfl sub_nil)))) (by decide) (pick_cons rfl (pick_cons rfl (pick_cons rfl pick_nil))) (hN11 ())
      intro hN9
      refine ax_node (f' := 2) #[true, true, true, true, false, true, true, false] (fun (v9 : Unit) => (⟨25, [⟨.fn (.func 9) ⟨[.pointer (some q4), .pointer (some q5), .pointer (some q6)]⟩, #[]⟩], [(4, (Vl (.pointer (some q4)))), (5, (Vl (.pointer (some q5)))), (6, (Vl (.pointer (some q6)))), (23, (If 67 (Vl (.pointer (some (Ga.a 4))))))], [⟨.pointer (some q4), [(Vl (.int .u32 y3.2.2.2))], 23, none⟩, ⟨.pointer (some q5), [(Vl (.int .i64 r22.2.2.2))], 3, none⟩, ⟨.pointer (some q6), [(Vl (.bool false))], 4, none⟩]⟩ : St)) ?_ ?_
      · rintro ⟨⟩
        refine ax_rd (ix := 4) (last := #[true, true, true, true, true, true, true, false]) (by kernel_rfl) rfl (rd_binf' rfl rfl (bf_if (fun _ _ => by kernel_rfl) nil_eql35_if67)) rfl rfl (wt_none' rfl) rfl ?_
        exact tx_pick' [0, 1, 2] (sub_cons rfl (sub_cons rfl (sub_cons rfl (sub_cons rfl sub_nil)))) (by decide) (pick_cons rfl (pick_cons rfl (pick_cons rfl pick_nil))) (hN11 ())
      intro hN10
      refine ax_node (f' := 3) #[true, true, true, true, true, false, false, false] (fun (v6 : Unit) => (⟨25, [⟨.fn (.func 9) ⟨[.pointer (some q4), .pointer (some q5), .pointer (some q6)]⟩, #[]⟩], [(4, (Vl (.pointer (some q4)))), (5, (Vl (.pointer (some q5)))), (6, (Vl (.pointer (some q6)))), (20, (Vl (.int .u32 y3.2.2.2))), (22, (Vl (.int .i64 r22.2.2.2))), (24, (Vl (.bool false)))], [⟨.pointer (some q4), [(Vl (.int .u32 y3.2.2.2))], 23, none⟩, ⟨.pointer (some q5), [(Vl (.int .i64 0))], 3, none⟩, ⟨.pointer (some q6), [(Vl (.bool false))], 4, none⟩]⟩ : St)) ?_ ?_
      · rintro ⟨⟩
        refine ax_all (i := 5) (is := []) (by kernel_rfl) (all_cons ?_ all_nil)
        · refine nx_ox (last := #[true, true, true, true, true, true, false, false]) rfl (ox_store' (i := 0) (o := 0) rfl rfl (lv_vl rfl rfl) ⟨rfl, rfl, rfl, rfl⟩ rfl info23 rfl (H' := [⟨.pointer (some q4), [(Vl (.int .u32 y3.2.2.2))], 23, none⟩, ⟨.pointer (some q5), [(Vl (.int .i64 0))], 3, none⟩, ⟨.pointer (some q6), [(Vl (.bool false))], 4, none⟩]) rfl) rfl (bs_cons (m := 0) rfl rfl rfl bs_nil) (wt_none' rfl) rfl fun _ => ?_
          exact tx_pick' [0, 1, 2] (sub_cons rfl (sub_cons rfl (sub_cons rfl (sub_cons rfl (sub_cons rfl sub_nil))))) (by decide) (pick_cons rfl (pick_cons rfl (pick_cons rfl pick_nil))) (hN9 ())
      intro hN7
      refine ax_node (f' := 3) #[true, true, true, true, false, true, false, false] (fun (v7 : Unit) => (⟨25, [⟨.fn (.func 9) ⟨[.pointer (some q4), .pointer (some q5), .pointer (some q6)]⟩, #[]⟩], [(4, (Vl (.pointer (some q4)))), (5, (Vl (.pointer (some q5)))), (6, (Vl (.pointer (some q6)))), (22, (Vl (.int .i64 r22.2.2.2))), (23, (If 67 (Vl (.pointer (some (Ga.a 4))))))], [⟨.pointer (some q4), [(Vl (.int .u32 y3.2.2.2))], 23, none⟩, ⟨.pointer (some q5), [(Vl (.int .i64 0))], 3, none⟩, ⟨.pointer (some q6), [(Vl (.bool false))], 4, none⟩]⟩ : St)) ?_ ?_
      · rintro ⟨⟩
        refine ax_all (i := 4) (is := [6]) (by kernel_rfl) (all_cons ?_ (all_cons ?_ all_nil))
        · refine nx_rd (last := #[true, true, true, true, true, true, false, false]) rfl (rd_binf' rfl rfl (bf_if (fun _ _ => by kernel_rfl) nil_eql35_if67)) rfl rfl (wt_none' rfl) rfl ?_
          exact tx_pick' [0, 1, 2] (sub_cons rfl (sub_cons rfl (sub_cons rfl (sub_cons rfl (sub_cons rfl sub_nil))))) (by decide) (pick_cons rfl (pick_cons rfl (pick_cons rfl pick_nil))) (hN9 ())
        · refine nx_oxv (last := #[true, true, true, true, false, true, true, false]) rfl (oxv_store (i := 1) (o := 0) rfl rfl (lv_vl rfl rfl) ⟨rfl, rfl, rfl, rfl⟩ rfl info3 rfl (H' := [⟨.pointer (some q4), [(Vl (.int .u32 y3.2.2.2))], 23, none⟩, ⟨.pointer (some q5), [(Vl (.int .i64 r22.2.2.2))], 3, none⟩, ⟨.pointer (some q6), [(Vl (.bool false))], 4, none⟩]) rfl) rfl rfl (bo_cons (m := 0) (by decide) rfl rfl bo_nil) (wt_none' rfl) rfl fun _ => ?_
          exact tx_pick' [0, 1, 2] (sub_cons rfl (sub_cons rfl (sub_cons rfl (sub_cons rfl sub_nil)))) (by decide) (pick_cons rfl (pick_cons rfl (pick_cons rfl pick_nil))) (hN10 ())
      intro hN8
      refine ax_node (f' := 4) #[true, true, true, true, false, false, false, false] (fun (v3 : Unit) => (⟨25, [⟨.fn (.func 9) ⟨[.pointer (some q4), .pointer (some q5), .pointer (some q6)]⟩, #[]⟩], [(4, (Vl (.pointer (some q4)))), (5, (Vl (.pointer (some q5)))), (6, (Vl (.pointer (some q6)))), (20, (Vl (.int .u32 y3.2.2.2))), (22, (Vl (.int .i64 r22.2.2.2))), (23, (If 67 (Vl (.pointer (some (Ga.a 4))))))], [⟨.pointer (some q4), [(Vl (.int .u32 y3.2.2.2))], 23, none⟩, ⟨.pointer (some q5), [(Vl (.int .i64 0))], 3, none⟩, ⟨.pointer (some q6), [(Vl (.bool false))], 4, none⟩]⟩ : St)) ?_ ?_
      · rintro ⟨⟩
        refine ax_all (i := 4) (is := [5]) (by kernel_rfl) (all_cons ?_ (all_cons ?_ all_nil))
        · refine nx_rd (last := #[true, true, true, true, true, false, false, false]) rfl (rd_binf' rfl rfl (bf_if (fun _ _ => by kernel_rfl) nil_eql35_if67)) rfl rfl (wt_none' rfl) rfl ?_
          exact tx_pick' [0, 1, 2] (sub_cons rfl (sub_cons rfl (sub_cons rfl (sub_cons rfl (sub_cons rfl (sub_cons rfl sub_nil)))))) (by decide) (pick_cons rfl (pick_cons rfl (pick_cons rfl pick_nil))) (hN7 ())
        · refine nx_ox (last := #[true, true, true, true, false, true, false, false]) rfl (ox_store' (i := 0) (o := 0) rfl rfl (lv_vl rfl rfl) ⟨rfl, rfl, rfl, rfl⟩ rfl info23 rfl (H' := [⟨.pointer (some q4), [(Vl (.int .u32 y3.2.2.2))], 23, none⟩, ⟨.pointer (some q5), [(Vl (.int .i64 0))], 3, none⟩, ⟨.pointer (some q6), [(Vl (.bool false))], 4, none⟩]) rfl) rfl (bs_cons (m := 0) rfl rfl rfl bs_nil) (wt_none' rfl) rfl fun _ => ?_
          exact tx_pick' [0, 1, 2] (sub_cons rfl (sub_cons rfl (sub_cons rfl (sub_cons rfl (sub_cons rfl sub_nil))))) (by decide) (pick_cons rfl (pick_cons rfl (pick_cons rfl pick_nil))) (hN8 ())
      intro hN4
      refine ax_node (f' := 4) #[true, true, true, false, false, true, false, false] (fun (v4 : Unit) => (⟨25, [⟨.fn (.func 9) ⟨[.pointer (some q4), .pointer (some q5), .pointer (some q6)]⟩, #[]⟩], [(4, (Vl (.pointer (some q4)))), (5, (Vl (.pointer (some q5)))), (6, (Vl (.pointer (some q6)))), (8, (If 67 (Vl (.pointer (some (Ga.a 4)))))), (22, (Vl (.int .i64 r22.2.2.2)))], [⟨.pointer (some q4), [(Vl (.int .u32 y3.2.2.2))], 23, none⟩, ⟨.pointer (some q5), [(Vl (.int .i64 0))], 3, none⟩, ⟨.pointer (some q6), [(Vl (.bool false))], 4, none⟩]⟩ : St)) ?_ ?_
      · rintro ⟨⟩
        refine ax_rb (ix := 3) (last := #[true, true, true, true, false, true, false, false]) (by kernel_rfl) rfl (rb_move' rfl) rfl rfl (wt_none' rfl) rfl ?_
        exact tx_pick' [0, 1, 2] (sub_cons rfl (sub_cons rfl (sub_cons rfl (sub_cons rfl (sub_cons rfl sub_nil))))) (by decide) (pick_cons rfl (pick_cons rfl (pick_cons rfl pick_nil))) (hN8 ())
      intro hN5
      refine ax_node (f' := 4) #[true, true, false, true, true, false, false, false] (fun (v5 : Unit) => (⟨25, [⟨.fn (.func 9) ⟨[.pointer (some q4), .pointer (some q5), .pointer (some q6)]⟩, #[]⟩], [(4, (Vl (.pointer (some q4)))), (5, (Vl (.pointer (some q5)))), (6, (Vl (.pointer (some q6)))), (20, (Vl (.int .u32 y3.2.2.2))), (21, (Vl (.pointer (some q11)))), (24, (Vl (.bool false)))], [⟨.pointer (some q4), [(Vl (.int .u32 y3.2.2.2))], 23, none⟩, ⟨.pointer (some q5), [(Vl (.int .i64 0))], 3, none⟩, ⟨.pointer (some q6), [(Vl (.bool false))], 4, none⟩, ⟨.pointer (some q11), [(Sl (Ki .u8) y3.1), (Vl (.int .i64 y3.2.1)), (Vl (.int .i8 y3.2.2.1))], 50, none⟩]⟩ : St)) ?_ ?_
      · rintro ⟨⟩
        refine ax_all (i := 2) (is := []) (by kernel_rfl) (all_cons ?_ all_nil)
        · refine nx_oxb (is := [3]) (last := #[true, true, true, true, true, false, false, false]) rfl (oxb_callg (ent_fn' Tryd.func13 isn13 rfl rfl) (bytes_Buffer_Len_sim _ _ _ hr22 : Go.Sx.Fn Tryd.prog 13 [(Vl (.pointer (some q11)))] [⟨.pointer (some q11), [(Sl (Ki .u8) y3.1), (Vl (.int .i64 y3.2.1)), (Vl (.int .i8 y3.2.2.1))], 50, none⟩] (fun x : Unit => (Vl (.int .i64 r22.2.2.2))) (fun x => [⟨.pointer (some q11), [(Sl (Ki .u8) r22.1), (Vl (.int .i64 r22.2.1)), (Vl (.int .i8 r22.2.2.1))], 50, none⟩])) [3] [0, 1, 2] (by decide) (pick_cons rfl pick_nil) (pick_cons rfl (pick_cons rfl (pick_cons rfl pick_nil))) (Hn := fun x : Unit => [⟨.pointer (some q11), [(Sl (Ki .u8) r22.1), (Vl (.int .i64 r22.2.1)), (Vl (.int .i8 r22.2.2.1))], 50, none⟩, ⟨.pointer (some q4), [(Vl (.int .u32 y3.2.2.2))], 23, none⟩, ⟨.pointer (some q5), [(Vl (.int .i64 0))], 3, none⟩, ⟨.pointer (some q6), [(Vl (.bool false))], 4, none⟩]) (fun _ => rfl) rfl rfl) (pick_cons rfl pick_nil) rfl (bl_cons (m := 0) (by decide) rfl rfl bl_nil) (wt_none' rfl) rfl fun ⟨⟩ => ?_
          exact tx_pick' [1, 2, 3] (sub_cons rfl (sub_cons rfl (sub_cons rfl (sub_cons rfl (sub_cons rfl (sub_cons rfl sub_nil)))))) (by decide) (pick_cons rfl (pick_cons rfl (pick_cons rfl pick_nil))) (hN7 ())
      intro hN6
      refine ax_node (f' := 5) #[true, true, true, false, false, false, false, false] (fun (v1 : Unit) => (⟨25, [⟨.fn (.func 9) ⟨[.pointer (some q4), .pointer (some q5), .pointer (some q6)]⟩, #[]⟩], [(4, (Vl (.pointer (some q4)))), (5, (Vl (.pointer (some q5)))), (6, (Vl (.pointer (some q6)))), (8, (If 67 (Vl (.pointer (some (Ga.a 4)))))), (20, (Vl (.int .u32 y3.2.2.2))), (22, (Vl (.int .i64 r22.2.2.2)))], [⟨.pointer (some q4), [(Vl (.int .u32 y3.2.2.2))], 23, none⟩, ⟨.pointer (some q5), [(Vl (.int .i64 0))], 3, none⟩, ⟨.pointer (some q6), [(Vl (.bool false))], 4, none⟩]⟩ : St)) ?_ ?_
      · rintro ⟨⟩
        refine ax_all (i := 3) (is := [5]) (by kernel_rfl) (all_cons ?_ (all_cons ?_ all_nil))
        · refine nx_rd (last := #[true, true, true, true, false, false, false, false]) rfl (rd_move' rfl) rfl rfl (wt_none' rfl) rfl ?_
          exact tx_pick' [0, 1, 2] (sub_cons rfl (sub_cons rfl (sub_cons rfl (sub_cons rfl (sub_cons rfl (sub_cons rfl sub_nil)))))) (by decide) (pick_cons rfl (pick_cons rfl (pick_cons rfl pick_nil))) (hN4 ())
        · refine nx_ox (last := #[true, true, true, false, false, true, false, false]) rfl (ox_store' (i := 0) (o := 0) rfl rfl (lv_vl rfl rfl) ⟨rfl, rfl, rfl, rfl⟩ rfl info23 rfl (H' := [⟨.pointer (some q4), [(Vl (.int .u32 y3.2.2.2))], 23, none⟩, ⟨.pointer (some q5), [(Vl (.int .i64 0))], 3, none⟩, ⟨.pointer (some q6), [(Vl (.bool false))], 4, none⟩]) rfl) rfl (bs_cons (m := 0) rfl rfl rfl bs_nil) (wt_none' rfl) rfl fun _ => ?_
          exact tx_pick' [0, 1, 2] (sub_cons rfl (sub_cons rfl (sub_cons rfl (sub_cons rfl (sub_cons rfl sub_nil))))) (by decide) (pick_cons rfl (pick_cons rfl (pick_cons rfl pick_nil))) (hN5 ())
      intro hN2
      refine ax_node (f' := 5) #[true, true, false, true, false, false, false, false] (fun (v2 : Unit) => (⟨25, [⟨.fn (.func 9) ⟨[.pointer (some q4), .pointer (some q5), .pointer (some q6)]⟩, #[]⟩], [(4, (Vl (.pointer (some q4)))), (5, (Vl (.pointer (some q5)))), (6, (Vl (.pointer (some q6)))), (20, (Vl (.int .u32 y3.2.2.2))), (21, (Vl (.pointer (some q11)))), (23, (If 67 (Vl (.pointer (some (Ga.a 4))))))], [⟨.pointer (some q4), [(Vl (.int .u32 y3.2.2.2))], 23, none⟩, ⟨.pointer (some q5), [(Vl (.int .i64 0))], 3, none⟩, ⟨.pointer (some q6), [(Vl (.bool false))], 4, none⟩, ⟨.pointer (some q11), [(Sl (Ki .u8) y3.1), (Vl (.int .i64 y3.2.1)), (Vl (.int .i8 y3.2.2.1))], 50, none⟩]⟩ : St)) ?_ ?_
      · rintro ⟨⟩
        refine ax_all (i := 2) (is := [4]) (by kernel_rfl) (all_cons ?_ (all_cons ?_ all_nil))
        · refine nx_oxb (is := [3]) (last := #[true, true, true, true, false, false, false, false]) rfl (oxb_callg (ent_fn' Tryd.func13 isn13 rfl rfl) (bytes_Buffer_Len_sim _ _ _ hr22 : Go.Sx.Fn Tryd.prog 13 [(Vl (.pointer (some q11)))] [⟨.pointer (some q11), [(Sl (Ki .u8) y3.1), (Vl (.int .i64 y3.2.1)), (Vl (.int .i8 y3.2.2.1))], 50, none⟩] (fun x : Unit => (Vl (.int .i64 r22.2.2.2))) (fun x => [⟨.pointer (some q11), [(Sl (Ki .u8) r22.1), (Vl (.int .i64 r22.2.1)), (Vl (.int .i8 r22.2.2.1))], 50, none⟩])) [3] [0, 1, 2] (by decide) (pick_cons rfl pick_nil) (pick_cons rfl (pick_cons rfl (pick_cons rfl pick_nil))) (Hn := fun x : Unit => [⟨.pointer (some q11), [(Sl (Ki .u8) r22.1), (Vl (.int .i64 r22.2.1)), (Vl (.int .i8 r22.2.2.1))], 50, none⟩, ⟨.pointer (some q4), [(Vl (.int .u32 y3.2.2.2))], 23, none⟩, ⟨.pointer (some q5), [(Vl (.int .i64 0))], 3, none⟩, ⟨.pointer (some q6), [(Vl (.bool false))], 4, none⟩]) (fun _ => rfl) rfl rfl) (pick_cons rfl pick_nil) rfl (bl_cons (m := 0) (by decide) rfl rfl bl_nil) (wt_none' rfl) rfl fun ⟨⟩ => ?_
          exact tx_pick' [1, 2, 3] (sub_cons rfl (sub_cons rfl (sub_cons rfl (sub_cons rfl (sub_cons rfl (sub_cons rfl sub_nil)))))) (by decide) (pick_cons rfl (pick_cons rfl (pick_cons rfl pick_nil))) (hN4 ())
        · refine nx_rd (last := #[true, true, false, true, true, false, false, false]) rfl (rd_binf' rfl rfl (bf_if (fun _ _ => by kernel_rfl) nil_eql35_if67)) rfl rfl (wt_none' rfl) rfl ?_
          exact tx_pick' [0, 1, 2, 3] (sub_cons rfl (sub_cons rfl (sub_cons rfl (sub_cons rfl (sub_cons rfl (sub_cons rfl sub_nil)))))) (by decide) (pick_cons rfl (pick_cons rfl (pick_cons rfl (pick_cons rfl pick_nil)))) (hN6 ())
      intro hN3
      refine ax_all (i := 2) (is := [3]) (by kernel_rfl) (all_cons ?_ (all_cons ?_ all_nil))
      · refine nx_oxb (is := [0]) (last := #[true, true, true, false, false, false, false, false]) rfl (oxb_callg (ent_fn' Tryd.func13 isn13 rfl rfl) (bytes_Buffer_Len_sim _ _ _ hr22 : Go.Sx.Fn Tryd.prog 13 [(Vl (.pointer (some q11)))] [⟨.pointer (some q11), [(Sl (Ki .u8) y3.1), (Vl (.int .i64 y3.2.1)), (Vl (.int .i8 y3.2.2.1))], 50, none⟩] (fun x : Unit => (Vl (.int .i64 r22.2.2.2))) (fun x => [⟨.pointer (some q11), [(Sl (Ki .u8) r22.1), (Vl (.int .i64 r22.2.1)), (Vl (.int .i8 r22.2.2.1))], 50, none⟩])) [0] [1, 2, 3] (by decide) (pick_cons rfl pick_nil) (pick_cons rfl (pick_cons rfl (pick_cons rfl pick_nil))) (Hn := fun x : Unit => [⟨.pointer (some q11), [(Sl (Ki .u8) r22.1), (Vl (.int .i64 r22.2.1)), (Vl (.int .i8 r22.2.2.1))], 50, none⟩, ⟨.pointer (some q6), [(Vl (.bool false))], 4, none⟩, ⟨.pointer (some q5), [(Vl (.int .i64 0))], 3, none⟩, ⟨.pointer (some q4), [(Vl (.int .u32 y3.2.2.2))], 23, none⟩]) (fun _ => rfl) rfl rfl) (pick_cons rfl pick_nil) rfl (bl_cons (m := 3) (by decide) rfl rfl bl_nil) (wt_none' rfl) rfl fun ⟨⟩ => ?_
        exact tx_pick' [3, 2, 1] (sub_cons rfl (sub_cons rfl (sub_cons rfl (sub_cons rfl (sub_cons rfl (sub_cons rfl sub_nil)))))) (by decide) (pick_cons rfl (pick_cons rfl (pick_cons rfl pick_nil))) (hN2 ())
      · refine nx_rd (last := #[true, true, false, true, false, false, false, false]) rfl (rd_move' rfl) rfl rfl (wt_none' rfl) rfl ?_
        exact tx_pick' [3, 2, 1, 0] (sub_cons rfl (sub_cons rfl (sub_cons rfl (sub_cons rfl (sub_cons rfl (sub_cons rfl sub_nil)))))) (by decide) (pick_cons rfl (pick_cons rfl (pick_cons rfl (pick_cons rfl pick_nil)))) (hN3 ())
    · dsimp only at hp
      refine sx_ox' (ox_callg' (ent_fn' Tryd.func11 isn11 rfl rfl) (wkbcommon_ReadUInt32_v2_sim _ _ _ hr17 : Go.Sx.Fn Tryd.prog 11 [(If 32 (Vl (.pointer (some q11)))), (If 61 (Ag []))] [⟨.pointer (some q11), [(Sl (Ki .u8) r11.1), (Vl (.int .i64 r11.2.1)), (Vl (.int .i8 r11.2.2))], 50, none⟩] (fun x : Unit => (Tu [(Vl (.int .u32 y3.2.2.2)), (If 67 (Vl (.pointer (some (Ga.a 3)))))])) (fun x => [⟨.pointer (some q11), [(Sl (Ki .u8) y3.1), (Vl (.int .i64 y3.2.1)), (Vl (.int .i8 y3.2.2.1))], 50, none⟩])) [0] [1, 2, 3] (by decide) (pick_cons rfl pick_nil) (pick_cons rfl (pick_cons rfl (pick_cons rfl pick_nil))) (Hn := fun x : Unit => [⟨.pointer (some q11), [(Sl (Ki .u8) y3.1), (Vl (.int .i64 y3.2.1)), (Vl (.int .i8 y3.2.2.1))], 50, none⟩, ⟨.pointer (some q6), [(Vl (.bool false))], 4, none⟩, ⟨.pointer (some q5), [(Vl (.int .i64 0))], 3, none⟩, ⟨.pointer (some q4), [(Vl (.int .u32 0))], 23, none⟩]) (fun _ => rfl) rfl rfl) (wt_none' rfl) fun ⟨⟩ => ?_
      refine sx_rd' (rd_move' rfl) rfl rfl (wt_none' rfl) ?_
      refine sx_rd' (rd_extract' rfl rfl) rfl rfl (wt_none' rfl) ?_
      refine sx_rd' (rd_extract' rfl rfl) rfl rfl (wt_none' rfl) ?_
      refine sx_ox' (ox_store' (i := 3) (o := 0) rfl rfl (lv_vl rfl rfl) ⟨rfl, rfl, rfl, rfl⟩ rfl info23 rfl (H' := [⟨.pointer (some q11), [(Sl (Ki .u8) y3.1), (Vl (.int .i64 y3.2.1)), (Vl (.int .i8 y3.2.2.1))], 50, none⟩, ⟨.pointer (some q6), [(Vl (.bool false))], 4, none⟩, ⟨.pointer (some q5), [(Vl (.int .i64 0))], 3, none⟩, ⟨.pointer (some q4), [(Vl (.int .u32 y3.2.2.2))], 23, none⟩]) rfl) (wt_none' rfl) fun _ => ?_
      refine sx_rd' (rd_assign' rfl) rfl rfl (wt_none' rfl) ?_
      refine sx_nil' ?_
      show TX E K4 _
      refine tx_k' hK4 ?_
      refine cx_seq' fun K5 hK5 => ?_
      refine cx_plana' [q4.block] [(2, 1), (5, 2), (6, 1), (7, 1)] [(0, 2), (1, 1)] 6 #[true, true, false, false, false, false, false, false] mixed (by kernel_rfl) ?_
      refine px_rb' rfl (rb_load' (i := 3) (o := 0) rfl ⟨rfl, rfl, rfl, rfl⟩ rfl flat23 (by simp)) rfl rfl (wt_none' rfl) ?_
      refine px_rd' rfl (rd_move' rfl) rfl rfl (wt_none' rfl) ?_
      refine px_nil' ?_
      show AX E _ _ _ _ _ _ _ _
      obtain ⟨r22, hr22, hp⟩ := bind_some hp
      refine ax_node (f' := 0) #[true, true, true, true, true, true, true, true] (fun (v11 : Unit) => (⟨25, [⟨.fn (.func 9) ⟨[.pointer (some q4), .pointer (some q5), .pointer (some q6)]⟩, #[]⟩], [(4, (Vl (.pointer (some q4)))), (5, (Vl (.pointer (some q5)))), (6, (Vl (.pointer (some q6))))], [⟨.pointer (some q4), [(Vl (.int .u32 y3.2.2.2))], 23, none⟩, ⟨.pointer (some q5), [(Vl (.int .i64 r22.2.2.2))], 3, none⟩, ⟨.pointer (some q6), [(Vl (.bool false))], 4, none⟩]⟩ : St)) ?_ ?_
      · rintro ⟨⟩
        refine ax_nil (by kernel_rfl) ?_
        show TX E K5 _
        refine tx_k' hK5 ?_
        refine cx_retc' ?_
        replace hp := Option.some.inj hp
        subst hp
        refine tx_leave' (.inl rfl) rfl idle9 rfl Tryd.func9 isn9 rfl ?_
        refine tx_pick' (L' := [(4, (Vl (.pointer (some q4)))), (5, (Vl (.pointer (some q5)))), (6, (Vl (.pointer (some q6))))]) (H' := [⟨.pointer (some q4), [(Vl (.int .u32 y3.2.2.2))], 23, none⟩, ⟨.pointer (some q5), [(Vl (.int .i64 r22.2.2.2))], 3, none⟩, ⟨.pointer (some q6), [(Vl (.bool false))], 4, none⟩]) [0, 1, 2] (sub_cons rfl (sub_cons rfl (sub_cons rfl sub_nil))) (by decide) (pick_cons rfl (pick_cons rfl (pick_cons rfl pick_nil))) ?_
        exact tx_ret3' Tryd.results5 rfl () (rv_cell' (i := 0) (o := 0) rfl ⟨rfl, rfl, rfl, rfl⟩ rfl flat23) (rv_cell' (i := 1) (o := 0) rfl ⟨rfl, rfl, rfl, rfl⟩ rfl flat3) (rv_cell' (i := 2) (o := 0) rfl ⟨rfl, rfl, rfl, rfl⟩ rfl flat4) rfl (List.nil_sublist _)
      intro hN12
      refine ax_node (f' := 1) #[true, true, true, true, true, true, true, false] (fun (v10 : Unit) => (⟨25, [⟨.fn (.func 9) ⟨[.pointer (some q4), .pointer (some q5), .pointer (some q6)]⟩, #[]⟩], [(4, (Vl (.pointer (some q4)))), (5, (Vl (.pointer (some q5)))), (6, (Vl (.pointer (some q6)))), (24, (Vl (.bool false)))], [⟨.pointer (some q4), [(Vl (.int .u32 y3.2.2.2))], 23, none⟩, ⟨.pointer (some q5), [(Vl (.int .i64 r22.2.2.2))], 3, none⟩, ⟨.pointer (some q6), [(Vl (.bool false))], 4, none⟩]⟩ : St)) ?_ ?_
      · rintro ⟨⟩
        refine ax_all (i := 7) (is := []) (by kernel_rfl) (all_cons ?_ all_nil)
        · refine nx_oxv (last := #[true, true, true, true, true, true, true, true]) rfl (oxv_store (i := 2) (o := 0) rfl rfl (lv_vl rfl rfl) ⟨rfl, rfl, rfl, rfl⟩ rfl info4 rfl (H' := [⟨.pointer (some q4), [(Vl (.int .u32 y3.2.2.2))], 23, none⟩, ⟨.pointer (some q5), [(Vl (.int .i64 r22.2.2.2))], 3, none⟩, ⟨.pointer (some q6), [(Vl (.bool false))], 4, none⟩]) rfl) rfl rfl (bo_cons (m := 0) (by decide) rfl rfl bo_nil) (wt_none' rfl) rfl fun _ => ?_
          exact tx_pick' [0, 1, 2] (sub_cons rfl (sub_cons rfl (sub_cons rfl sub_nil))) (by decide) (pick_cons rfl (pick_cons rfl (pick_cons rfl pick_nil))) (hN12 ())
      intro hN11
      refine ax_node (f' := 2) #[true, true, true, true, true, true, false, false] (fun (v8 : Unit) => (⟨25, [⟨.fn (.func 9) ⟨[.pointer (some q4), .pointer (some q5), .pointer (some q6)]⟩, #[]⟩], [(4, (Vl (.pointer (some q4)))), (5, (Vl (.pointer (some q5)))), (6, (Vl (.pointer (some q6)))), (22, (Vl (.int .i64 r22.2.2.2))), (24, (Vl (.bool false)))], [⟨.pointer (some q4), [(Vl (.int .u32 y3.2.2.2))], 23, none⟩, ⟨.pointer (some q5), [(Vl (.int .i64 0))], 3, none⟩, ⟨.pointer (some q6), [(Vl (.bool false))], 4, none⟩]⟩ : St)) ?_ ?_
      · rintro ⟨⟩
        refine ax_all (i := 6) (is := []) (by kernel_rfl) (all_cons ?_ all_nil)
        · refine nx_oxv (last := #[true, true, true, true, true, true, true, false]) rfl (oxv_store (i := 1) (o := 0) rfl rfl (lv_vl rfl rfl) ⟨rfl, rfl, rfl, rfl⟩ rfl info3 rfl (H' := [⟨.pointer (some q4), [(Vl (.int .u32 y3.2.2.2))], 23, none⟩, ⟨.pointer (some q5), [(Vl (.int .i64 r22.2.2.2))], 3, none⟩, ⟨.pointer (some q6), [(Vl (.bool false))], 4, none⟩]) rfl) rfl rfl (bo_cons (m := 0) (by decide) rfl rfl bo_nil) (wt_none' rfl) rfl fun _ => ?_
          exact tx_pick' [0, 1, 2] (sub_cons rfl (sub_cons rfl (sub_cons rfl (sub_cons rfl sub_nil)))) (by decide) (pick_cons rfl (pick_cons rfl (pick_cons rfl pick_nil))) (hN11 ())
      intro hN9
      refine ax_node (f' := 2) #[true, true, true, true, false, true, true, false] (fun (v9 : Unit) => (⟨25, [⟨.fn (.func 9) ⟨[.pointer (some q4), .pointer (some q5), .pointer (some q6)]⟩, #[]⟩], [(4, (Vl (.pointer (some q4)))), (5, (Vl (.pointer (some q5)))), (6, (Vl (.pointer (some q6)))), (23, (If 67 (Vl (.pointer (some (Ga.a 3))))))], [⟨.pointer (some q4), [(Vl (.int .u32 y3.2.2.2))], 23, none⟩, ⟨.pointer (some q5), [(Vl (.int .i64 r22.2.2.2))], 3, none⟩, ⟨.pointer (some q6), [(Vl (.bool false))], 4, none⟩]⟩ : St)) ?_ ?_
      · rintro ⟨⟩
        refine ax_rd (ix := 4) (last := #[true, true, true, true, true, true, true, false]) (by kernel_rfl) rfl (rd_binf' rfl rfl (bf_if (fun _ _ => by kernel_rfl) nil_eql35_if67)) rfl rfl (wt_none' rfl) rfl ?_
        exact tx_pick' [0, 1, 2] (sub_cons rfl (sub_cons rfl (sub_cons rfl (sub_cons rfl sub_nil)))) (by decide) (pick_cons rfl (pick_cons rfl (pick_cons rfl pick_nil))) (hN11 ())
      intro hN10
      refine ax_node (f' := 3) #[true, true, true, true, true, false, false, false] (fun (v6 : Unit) => (⟨25, [⟨.fn (.func 9) ⟨[.pointer (some q4), .pointer (some q5), .pointer (some q6)]⟩, #[]⟩], [(4, (Vl (.pointer (some q4)))), (5, (Vl (.pointer (some q5)))), (6, (Vl (.pointer (some q6)))), (20, (Vl (.int .u32 y3.2.2.2))), (22, (Vl (.int .i64 r22.2.2.2))), (24, (Vl (.bool false)))], [⟨.pointer (some q4), [(Vl (.int .u32 y3.2.2.2))], 23, none⟩, ⟨.pointer (some q5), [(Vl (.int .i64 0))], 3, none⟩, ⟨.pointer (some q6), [(Vl (.bool false))], 4, none⟩]⟩ : St)) ?_ ?_
      · rintro ⟨⟩
        refine ax_all (i := 5) (is := []) (by kernel_rfl) (all_cons ?_ all_nil)
        · refine nx_ox (last := #[true, true, true, true, true, true, false, false]) rfl (ox_store' (i := 0) (o := 0) rfl rfl (lv_vl rfl rfl) ⟨rfl, rfl, rfl, rfl⟩ rfl info23 rfl (H' := [⟨.pointer (some q4), [(Vl (.int .u32 y3.2.2.2))], 23, none⟩, ⟨.pointer (some q5), [(Vl (.int .i64 0))], 3, none⟩, ⟨.pointer (some q6), [(Vl (.bool false))], 4, none⟩]) rfl) rfl (bs_cons (m := 0) rfl rfl rfl bs_nil) (wt_none' rfl) rfl fun _ => ?_
          exact tx_pick' [0, 1, 2] (sub_cons rfl (sub_cons rfl (sub_cons rfl (sub_cons rfl (sub_cons rfl sub_nil))))) (by decide) (pick_cons rfl (pick_cons rfl (pick_cons rfl pick_nil))) (hN9 ())
      intro hN7
      refine ax_node (f' := 3) #[true, true, true, true, false, true, false, false] (fun (v7 : Unit) => (⟨25, [⟨.fn (.func 9) ⟨[.pointer (some q4), .pointer (some q5), .pointer (some q6)]⟩, #[]⟩], [(4, (Vl (.pointer (some q4)))), (5, (Vl (.pointer (some q5)))), (6, (Vl (.pointer (some q6)))), (22, (Vl (.int .i64 r22.2.2.2))), (23, (If 67 (Vl (.pointer (some (Ga.a 3))))))], [⟨.pointer (some q4), [(Vl (.int .u32 y3.2.2.2))], 23, none⟩, ⟨.pointer (some q5), [(Vl (.int .i64 0))], 3, none⟩, ⟨.pointer (some q6), [(Vl (.bool false))], 4, none⟩]⟩ : St)) ?_ ?_
      · rintro ⟨⟩
        refine ax_all (i := 4) (is := [6]) (by kernel_rfl) (all_cons ?_ (all_cons ?_ all_nil))
        · refine nx_rd (last := #[true, true, true, true, true, true, false, false]) rfl (rd_binf' rfl rfl (bf_if (fun _ _ => by kernel_rfl) nil_eql35_if67)) rfl rfl (wt_none' rfl) rfl ?_
          exact tx_pick' [0, 1, 2] (sub_cons rfl (sub_cons rfl (sub_cons rfl (sub_cons rfl (sub_cons rfl sub_nil))))) (by decide) (pick_cons rfl (pick_cons rfl (pick_cons rfl pick_nil))) (hN9 ())
        · refine nx_oxv (last := #[true, true, true, true, false, true, true, false]) rfl (oxv_store (i := 1) (o := 0) rfl rfl (lv_vl rfl rfl) ⟨rfl, rfl, rfl, rfl⟩ rfl info3 rfl (H' := [⟨.pointer (some q4), [(Vl (.int .u32 y3.2.2.2))], 23, none⟩, ⟨.pointer (some q5), [(Vl (.int .i64 r22.2.2.2))], 3, none⟩, ⟨.pointer (some q6), [(Vl (.bool false))], 4, none⟩]) rfl) rfl rfl (bo_cons (m := 0) (by decide) rfl rfl bo_nil) (wt_none' rfl) rfl fun _ => ?_
          exact tx_pick' [0, 1, 2] (sub_cons rfl (sub_cons rfl (sub_cons rfl (sub_cons rfl sub_nil)))) (by decide) (pick_cons rfl (pick_cons rfl (pick_cons rfl pick_nil))) (hN10 ())
      intro hN8
      refine ax_node (f' := 4) #[true, true, true, true, false, false, false, false] (fun (v3 : Unit) => (⟨25, [⟨.fn (.func 9) ⟨[.pointer (some q4), .pointer (some q5), .pointer (some q6)]⟩, #[]⟩], [(4, (Vl (.pointer (some q4)))), (5, (Vl (.pointer (some q5)))), (6, (Vl (.pointer (some q6)))), (20, (Vl (.int .u32 y3.2.2.2))), (22, (Vl (.int .i64 r22.2.2.2))), (23, (If 67 (Vl (.pointer (some (Ga.a 3))))))], [⟨.pointer (some q4), [(Vl (.int .u32 y3.2.2.2))], 23, none⟩, ⟨.pointer (some q5), [(Vl (.int .i64 0))], 3, none⟩, ⟨.pointer (some q6), [(Vl (.bool false))], 4, none⟩]⟩ : St)) ?_ ?_
      · rintro ⟨⟩
        refine ax_all (i := 4) (is := [5]) (by kernel_rfl) (all_cons ?_ (all_cons ?_ all_nil))
        · refine nx_rd (last := #[true, true, true, true, true, false, false, false]) rfl (rd_binf' rfl rfl (bf_if (fun _ _ => by kernel_rfl) nil_eql35_if67)) rfl rfl (wt_none' rfl) rfl ?_
          exact tx_pick' [0, 1, 2] (sub_cons rfl (sub_cons rfl (sub_cons rfl (sub_cons rfl (sub_cons rfl (sub_cons rfl sub_nil)))))) (by decide) (pick_cons rfl (pick_cons rfl (pick_cons rfl pick_nil))) (hN7 ())
        · refine nx_ox (last := #[true, true, true, true, false, true, false, false]) rfl (ox_store' (i := 0) (o := 0) rfl rfl (lv_vl rfl rfl) ⟨rfl, rfl, rfl, rfl⟩ rfl info23 rfl (H' := [⟨.pointer (some q4), [(Vl (.int .u32 y3.2.2.2))], 23, none⟩, ⟨.pointer (some q5), [(Vl (.int .i64 0))], 3, none⟩, ⟨.pointer (some q6), [(Vl (.bool false))], 4, none⟩]) rfl) rfl (bs_cons (m := 0) rfl rfl rfl bs_nil) (wt_none' rfl) rfl fun _ => ?_
          exact tx_pick' [0, 1, 2] (sub_cons rfl (sub_cons rfl (sub_cons rfl (sub_cons rfl (sub_cons rfl sub_nil))))) (by decide) (pick_cons rfl (pick_cons rfl (pick_cons rfl pick_nil))) (hN8 ())
      intro hN4
      refine ax_node (f' := 4) #[true, true, true, false, false, true, false, false] (fun (v4 : Unit) => (⟨25, [⟨.fn (.func 9) ⟨[.pointer (some q4), .pointer (some q5), .pointer (some q6)]⟩, #[]⟩], [(4, (Vl (.pointer (some q4)))), (5, (Vl (.pointer (some q5)))), (6, (Vl (.pointer (some q6)))), (8, (If 67 (Vl (.pointer (some (Ga.a 3)))))), (22, (Vl (.int .i64 r22.2.2.2)))], [⟨.pointer (some q4), [(Vl (.int .u32 y3.2.2.2))], 23, none⟩, ⟨.pointer (some q5), [(Vl (.int .i64 0))], 3, none⟩, ⟨.pointer (some q6), [(Vl (.bool false))], 4, none⟩]⟩ : St)) ?_ ?_
      · rintro ⟨⟩
        refine ax_rb (ix := 3) (last := #[true, true, true, true, false, true, false, false]) (by kernel_rfl) rfl (rb_move' rfl) rfl rfl (wt_none' rfl) rfl ?_
        exact tx_pick' [0, 1, 2] (sub_cons rfl (sub_cons rfl (sub_cons rfl (sub_cons rfl (sub_cons rfl sub_nil))))) (by decide) (pick_cons rfl (pick_cons rfl (pick_cons rfl pick_nil))) (hN8 ())
      intro hN5
      refine ax_node (f' := 4) #[true, true, false, true, true, false, false, false] (fun (v5 : Unit) => (⟨25, [⟨.fn (.func 9) ⟨[.pointer (some q4), .pointer (some q5), .pointer (some q6)]⟩, #[]⟩], [(4, (Vl (.pointer (some q4)))), (5, (Vl (.pointer (some q5)))), (6, (Vl (.pointer (some q6)))), (20, (Vl (.int .u32 y3.2.2.2))), (21, (Vl (.pointer (some q11)))), (24, (Vl (.bool false)))], [⟨.pointer (some q4), [(Vl (.int .u32 y3.2.2.2))], 23, none⟩, ⟨.pointer (some q5), [(Vl (.int .i64 0))], 3, none⟩, ⟨.pointer (some q6), [(Vl (.bool false))], 4, none⟩, ⟨.pointer (some q11), [(Sl (Ki .u8) y3.1), (Vl (.int .i64 y3.2.1)), (Vl (.int .i8 y3.2.2.1))], 50, none⟩]⟩ : St)) ?_ ?_
      · rintro ⟨⟩
        refine ax_all (i := 2) (is := []) (by kernel_rfl) (all_cons ?_ all_nil)
        · refine nx_oxb (is := [3]) (last := #[true, true, true, true, true, false, false, false]) rfl (oxb_callg (ent_fn' Tryd.func13 isn13 rfl rfl) (bytes_Buffer_Len_sim _ _ _ hr22 : Go.Sx.Fn Tryd.prog 13 [(Vl (.pointer (some q11)))] [⟨.pointer (some q11), [(Sl (Ki .u8) y3.1), (Vl (.int .i64 y3.2.1)), (Vl (.int .i8 y3.2.2.1))], 50, none⟩] (fun x : Unit => (Vl (.int .i64 r22.2.2.2))) (fun x => [⟨.pointer (some q11), [(Sl (Ki .u8) r22.1), (Vl (.int .i64 r22.2.1)), (Vl (.int .i8 r22.2.2.1))], 50, none⟩])) [3] [0, 1, 2] (by decide) (pick_cons rfl pick_nil) (pick_cons rfl (pick_cons rfl (pick_cons rfl pick_nil))) (Hn := fun x : Unit => [⟨.pointer (some q11), [(Sl (Ki .u8) r22.1), (Vl (.int .i64 r22.2.1)), (Vl (.int .i8 r22.2.2.1))], 50, none⟩, ⟨.pointer (some q4), [(Vl (.int .u32 y3.2.2.2))], 23, none⟩, ⟨.pointer (some q5), [(Vl (.int .i64 0))], 3, none⟩, ⟨.pointer (some q6), [(Vl (.bool false))], 4, none⟩]) (fun _ => rfl) rfl rfl) (pick_cons rfl pick_nil) rfl (bl_cons (m := 0) (by decide) rfl rfl bl_nil) (wt_none' rfl) rfl fun ⟨⟩ => ?_
          exact tx_pick' [1, 2, 3] (sub_cons rfl (sub_cons rfl (sub_cons rfl (sub_cons rfl (sub_cons rfl (sub_cons rfl sub_nil)))))) (by decide) (pick_cons rfl (pick_cons rfl (pick_cons rfl pick_nil))) (hN7 ())
      intro hN6
      refine ax_node (f' := 5) #[true, true, true, false, false, false, false, false] (fun (v1 : Unit) => (⟨25, [⟨.fn (.func 9) ⟨[.pointer (some q4), .pointer (some q5), .pointer (some q6)]⟩, #[]⟩], [(4, (Vl (.pointer (some q4)))), (5, (Vl (.pointer (some q5)))), (6, (Vl (.pointer (some q6)))), (8, (If 67 (Vl (.pointer (some (Ga.a 3)))))), (20, (Vl (.int .u32 y3.2.2.2))), (22, (Vl (.int .i64 r22.2.2.2)))], [⟨.pointer (some q4), [(Vl (.int .u32 y3.2.2.2))], 23, none⟩, ⟨.pointer (some q5), [(Vl (.int .i64 0))], 3, none⟩, ⟨.pointer (some q6), [(Vl (.bool false))], 4, none⟩]⟩ : St)) ?_ ?_
      · rintro ⟨⟩
        refine ax_all (i := 3) (is := [5]) (by kernel_rfl) (all_cons ?_ (all_cons ?_ all_nil))
        · refine nx_rd (last := #[true, true, true, true, false, false, false, false]) rfl (rd_move' rfl) rfl rfl (wt_none' rfl) rfl ?_
          exact tx_pick' [0, 1, 2] (sub_cons rfl (sub_cons rfl (sub_cons rfl (sub_cons rfl (sub_cons rfl (sub_cons rfl sub_nil)))))) (by decide) (pick_cons rfl (pick_cons rfl (pick_cons rfl pick_nil))) (hN4 ())
        · refine nx_ox (last := #[true, true, true, false, false, true, false, false]) rfl (ox_store' (i := 0) (o := 0) rfl rfl (lv_vl rfl rfl) ⟨rfl, rfl, rfl, rfl⟩ rfl info23 rfl (H' := [⟨.pointer (some q4), [(Vl (.int .u32 y3.2.2.2))], 23, none⟩, ⟨.pointer (some q5), [(Vl (.int .i64 0))], 3, none⟩, ⟨.pointer (some q6), [(Vl (.bool false))], 4, none⟩]) rfl) rfl (bs_cons (m := 0) rfl rfl rfl bs_nil) (wt_none' rfl) rfl fun _ => ?_
          exact tx_pick' [0, 1, 2] (sub_cons rfl (sub_cons rfl (sub_cons rfl (sub_cons rfl (sub_cons rfl sub_nil))))) (by decide) (pick_cons rfl (pick_cons rfl (pick_cons rfl pick_nil))) (hN5 ())
      intro hN2
      refine ax_node (f' := 5) #[true, true, false, true, false, false, false, false] (fun (v2 : Unit) => (⟨25, [⟨.fn (.func 9) ⟨[.pointer (some q4), .pointer (some q5), .pointer (some q6)]⟩, #[]⟩], [(4, (Vl (.pointer (some q4)))), (5, (Vl (.pointer (some q5)))), (6, (Vl (.pointer (some q6)))), (20, (Vl (.int .u32 y3.2.2.2))), (21, (Vl (.pointer (some q11)))), (23, (If 67 (Vl (.pointer (some (Ga.a 3))))))], [⟨.pointer (some q4), [(Vl (.int .u32 y3.2.2.2))], 23, none⟩, ⟨.pointer (some q5), [(Vl (.int .i64 0))], 3, none⟩, ⟨.pointer (some q6), [(Vl (.bool false))], 4, none⟩, ⟨.pointer (some q11), [(Sl (Ki .u8) y3.1), (Vl (.int .i64 y3.2.1)), (Vl (.int .i8 y3.2.2.1))], 50, none⟩]⟩ : St)) ?_ ?_
      · rintro ⟨⟩
        refine ax_all (i := 2) (is := [4]) (by kernel_rfl) (all_cons ?_ (all_cons ?_ all_nil))
        · refine nx_oxb (is := [3]) (last := #[true, true, true, true, false, false, false, false]) rfl (oxb_callg (ent_fn' Tryd.func13 isn13 rfl rfl) (bytes_Buffer_Len_sim _ _ _ hr22 : Go.Sx.Fn Tryd.prog 13 [(Vl (.pointer (some q11)))] [⟨.pointer (some q11), [(Sl (Ki .u8) y3.1), (Vl (.int .i64 y3.2.1)), (Vl (.int .i8 y3.2.2.1))], 50, none⟩] (fun x : Unit => (Vl (.int .i64 r22.2.2.2))) (fun x => [⟨.pointer (some q11), [(Sl (Ki .u8) r22.1), (Vl (.int .i64 r22.2.1)), (Vl (.int .i8 r22.2.2.1))], 50, none⟩])) [3] [0, 1, 2] (by decide) (pick_cons rfl pick_nil) (pick_cons rfl (pick_cons rfl (pick_cons rfl pick_nil))) (Hn := fun x : Unit => [⟨.pointer (some q11), [(Sl (Ki .u8) r22.1), (Vl (.int .i64 r22.2.1)), (Vl (.int .i8 r22.2.2.1))], 50, none⟩, ⟨.pointer (some q4), [(Vl (.int .u32 y3.2.2.2))], 23, none⟩, ⟨.pointer (some q5), [(Vl (.int .i64 0))], 3, none⟩, ⟨.pointer (some q6), [(Vl (.bool false))], 4, none⟩]) (fun _ => rfl) rfl rfl) (pick_cons rfl pick_nil) rfl (bl_cons (m := 0) (by decide) rfl rfl bl_nil) (wt_none' rfl) rfl fun ⟨⟩ => ?_
          exact tx_pick' [1, 2, 3] (sub_cons rfl (sub_cons rfl (sub_cons rfl (sub_cons rfl (sub_cons rfl (sub_cons rfl sub_nil)))))) (by decide) (pick_cons rfl (pick_cons rfl (pick_cons rfl pick_nil))) (hN4 ())
        · refine nx_rd (last := #[true, true, false, true, true, false, false, false]) rfl (rd_binf' rfl rfl (bf_if (fun _ _ => by kernel_rfl) nil_eql35_if67)) rfl rfl (wt_none' rfl) rfl ?_
          exact tx_pick' [0, 1, 2, 3] (sub_cons rfl (sub_cons rfl (sub_cons rfl (sub_cons rfl (sub_cons rfl (sub_cons rfl sub_nil)))))) (by decide) (pick_cons rfl (pick_cons rfl (pick_cons rfl (pick_cons rfl pick_nil)))) (hN6 ())
      intro hN3
      refine ax_all (i := 2) (is := [3]) (by kernel_rfl) (all_cons ?_ (all_cons ?_ all_nil))
      · refine nx_oxb (is := [0]) (last := #[true, true, true, false, false, false, false, false]) rfl (oxb_callg (ent_fn' Tryd.func13 isn13 rfl rfl) (bytes_Buffer_Len_sim _ _ _ hr22 : Go.Sx.Fn Tryd.prog 13 [(Vl (.pointer (some q11)))] [⟨.pointer (some q11), [(Sl (Ki .u8) y3.1), (Vl (.int .i64 y3.2.1)), (Vl (.int .i8 y3.2.2.1))], 50, none⟩] (fun x : Unit => (Vl (.int .i64 r22.2.2.2))) (fun x => [⟨.pointer (some q11), [(Sl (Ki .u8) r22.1), (Vl (.int .i64 r22.2.1)), (Vl (.int .i8 r22.2.2.1))], 50, none⟩])) [0] [1, 2, 3] (by decide) (pick_cons rfl pick_nil) (pick_cons rfl (pick_cons rfl (pick_cons rfl pick_nil))) (Hn := fun x : Unit => [⟨.pointer (some q11), [(Sl (Ki .u8) r22.1), (Vl (.int .i64 r22.2.1)), (Vl (.int .i8 r22.2.2.1))], 50, none⟩, ⟨.pointer (some q6), [(Vl (.bool false))], 4, none⟩, ⟨.pointer (some q5), [(Vl (.int .i64 0))], 3, none⟩, ⟨.pointer (some q4), [(Vl (.int .u32 y3.2.2.2))], 23, none⟩]) (fun _ => rfl) rfl rfl) (pick_cons rfl pick_nil) rfl (bl_cons (m := 3) (by decide) rfl rfl bl_nil) (wt_none' rfl) rfl fun ⟨⟩ => ?_
        exact tx_pick' [3, 2, 1] (sub_cons rfl (sub_cons rfl (sub_cons rfl (sub_cons rfl (sub_cons rfl (sub_cons rfl sub_nil)))))) (by decide) (pick_cons rfl (pick_cons rfl (pick_cons rfl pick_nil))) (hN2 ())
      · refine nx_rd (last := #[true, true, false, true, false, false, false, false]) rfl (rd_move' rfl) rfl rfl (wt_none' rfl) rfl ?_
        exact tx_pick' [3, 2, 1, 0] (sub_cons rfl (sub_cons rfl (sub_cons rfl (sub_cons rfl (sub_cons rfl (sub_cons rfl sub_nil)))))) (by decide) (pick_cons rfl (pick_cons rfl (pick_cons rfl (pick_cons rfl pick_nil)))) (hN3 ())

def spec_wkbOut_uint_j2 (k : Nat) (a1 : Int) (x3 : List Int) (rec1 : ((List Int) × Int) → Option ((List Int))) (x4 : Int) (x2 : Int) : Option ((List Int)) :=
  (ishr .u64 a1 (imul .i64 8 x2)) >>= fun r29 =>
  (apd 1 x3 ([icv .u8 r29])) >>= fun r32 =>
  rec1 (r32, (iadd .i64 x4 1))
def spec_wkbOut_uint_l1s (a2 : Int) (a0_1 : Bool) (a1 : Int) (k : Nat) (rec1 : ((List Int) × Int) → Option ((List Int))) (x3 : List Int) (x4 : Int) : Option ((List Int)) :=
  br (decide (x4 < a2))
    (br a0_1
      (spec_wkbOut_uint_j2 k a1 x3 rec1 x4 (isub .i64 (isub .i64 a2 1) x4))
      (spec_wkbOut_uint_j2 k a1 x3 rec1 x4 x4))
    (some x3)
def spec_wkbOut_uint_l1 (a2 : Int) (a0_1 : Bool) (a1 : Int) : Nat → ((List Int) × Int) → Option ((List Int))
  | 0, _ => none
  | k + 1, v => spec_wkbOut_uint_l1s a2 a0_1 a1 k (spec_wkbOut_uint_l1 a2 a0_1 a1 k) v.1 v.2
def spec_wkbOut_uint (k : Nat) (a0_1 : Bool) (a0_2 : Bool) (a0_3 : Bool) (a0_4 : Bool) (a1 : Int) (a2 : Int) : Option ((List Int) × Bool × Bool × Bool × Bool) :=
  (spec_wkbOut_uint_l1 a2 a0_1 a1 k ([], 0)) >>= fun v4 =>
  some (v4, a0_1, a0_2, a0_3, a0_4)

theorem spec_wkbOut_uint_sim {k : Nat} {wa0 : Addr} (a0_1 : Bool) (a0_2 : Bool) (a0_3 : Bool) (a0_4 : Bool) (a1 : Int) (a2 : Int) {out : (List Int) × Bool × Bool × Bool × Bool} (hp : spec_wkbOut_uint k a0_1 a0_2 a0_3 a0_4 a1 a2 = some out) : Go.Sx.Fn Tryd.prog 14 [(Vl (.pointer (some wa0))), (Vl (.int .u64 a1)), (Vl (.int .i64 a2))] [⟨.pointer (some wa0), [(Vl (.slice none 0 0)), (Vl (.bool a0_1)), (Vl (.bool a0_2)), (Vl (.bool a0_3)), (Vl (.bool a0_4))], 44, none⟩] (fun w : Gs => (Vl (.tuple #[]))) (fun w => [⟨.pointer (some wa0), [(Vl (Vs w)), (Vl (.bool out.2.1)), (Vl (.bool out.2.2.1)), (Vl (.bool out.2.2.2.1)), (Vl (.bool out.2.2.2.2))], 44, none⟩, (Rw (Ki .u8) 5 (Vs w) out.1)]) := by
  unfold spec_wkbOut_uint at hp
  refine fn_of Tryd.func14 rfl Tryd.ntmps14 rfl fun E hM => ?_
  refine cx_seq' fun K1 hK1 => ?_
  refine cx_region' ?_
  refine sx_rd' (rd_move' rfl) rfl rfl (wt_none' rfl) ?_
  refine sx_rd' (rd_move' rfl) rfl rfl (wt_none' rfl) ?_
  refine sx_nil' ?_
  show TX E K1 _
  refine tx_k' hK1 ?_
  refine cx_block' ?_
  obtain ⟨v4, hy1, hp⟩ := bind_some hp
  refine tx_nilrow' (Ki .u8) 5 ?_
  refine cx_loopg' (F := spec_wkbOut_uint_l1 a2 a0_1 a1) (G := fun k R v => spec_wkbOut_uint_l1s a2 a0_1 a1 k R v.1 v.2) (x := ([], 0)) (gh := (none, 0, 0)) (fun (v2 : (List Int) × Int) (w2 : Gs) => (⟨36, [], [(0, (Vl (.pointer (some wa0)))), (1, (Vl (.int .u64 a1))), (2, (Vl (.int .i64 a2))), (8, (Vl (.int .i64 a2))), (9, (Vl (.int .i64 v2.2)))], [⟨.pointer (some wa0), [(Vl (Vs w2)), (Vl (.bool a0_1)), (Vl (.bool a0_2)), (Vl (.bool a0_3)), (Vl (.bool a0_4))], 44, none⟩, (Rw (Ki .u8) 5 (Vs w2) v2.1)]⟩ : St)) (fun (v4 : (List Int)) => Zg E (Exit.exit 0) (fun (w4 : Gs) => (⟨36, [], [], [⟨.pointer (some wa0), [(Vl (Vs w4)), (Vl (.bool a0_1)), (Vl (.bool a0_2)), (Vl (.bool a0_3)), (Vl (.bool a0_4))], 44, none⟩, (Rw (Ki .u8) 5 (Vs w4) v4)]⟩ : St))) (fun _ => rfl) (fun _ _ => rfl) ?_ hy1 (tx_to' rfl [1, 0] (sub_cons rfl (sub_cons rfl (sub_cons rfl (sub_cons rfl (sub_cons rfl sub_nil))))) (by decide) (pick_cons rfl (pick_cons rfl pick_nil))) ?_
  · clear hp hy1
    clear v4
    intro k rec1 KY1 ih1
    rintro ⟨x3, x4⟩ g901 y1 hp
    replace hp : spec_wkbOut_uint_l1s a2 a0_1 a1 k rec1 x3 x4 = some y1 := hp
    unfold spec_wkbOut_uint_l1s at hp
    refine cx_seq' fun K9 hK9 => ?_
    refine cx_region' ?_
    refine sx_rd' (rd_bin' rfl rfl eg_int ru_lss) rfl rfl (wt_none' rfl) ?_
    refine sx_nil' ?_
    show TX E K9 _
    refine tx_k' hK9 ?_
    refine cx_seq' fun K10 hK10 => ?_
    refine cx_cond' rfl (fun h4 => ?_) (fun h4 => ?_)
    · replace hp := (br_t h4).symm.trans hp
      refine cx_skip' ?_
      show TX E K10 _
      refine tx_k' hK10 ?_
      refine cx_seq' fun K11 hK11 => ?_
      refine cx_block' ?_
      refine cx_seq' fun K12 hK12 => ?_
      refine cx_region' ?_
      refine sx_rd' (rd_move' rfl) rfl rfl (wt_none' rfl) ?_
      refine sx_rd' (rd_assign' rfl) rfl rfl (wt_none' rfl) ?_
      refine sx_nil' ?_
      show TX E K12 _
      refine tx_k' hK12 ?_
      refine cx_seq' fun K13 hK13 => ?_
      refine cx_region' ?_
      refine sx_rd' (rd_move' rfl) rfl rfl (wt_none' rfl) ?_
      refine sx_rd' (rd_assign' rfl) rfl rfl (wt_none' rfl) ?_
      refine sx_nil' ?_
      show TX E K13 _
      refine tx_k' hK13 ?_
      refine cx_join' (fun (v3 : Int) => (⟨36, [], [(0, (Vl (.pointer (some wa0)))), (1, (Vl (.int .u64 a1))), (2, (Vl (.int .i64 a2))), (7, (Vl (.int .i64 v3))), (8, (Vl (.int .i64 a2))), (9, (Vl (.int .i64 x4)))], [⟨.pointer (some wa0), [(Vl (Vs g901)), (Vl (.bool a0_1)), (Vl (.bool a0_2)), (Vl (.bool a0_3)), (Vl (.bool a0_4))], 44, none⟩, (Rw (Ki .u8) 5 (Vs g901) x3)]⟩ : St)) (fun (v3 : Int) => spec_wkbOut_uint_j2 k a1 x3 rec1 x4 v3 = some y1) ?_ ?_
      · rintro x2 hp
        replace hp : spec_wkbOut_uint_j2 k a1 x3 rec1 x4 x2 = some y1 := hp
        unfold spec_wkbOut_uint_j2 at hp
        refine cx_plan' [] [(11, 1), (14, 1)] [(0, 2), (1, 1), (2, 1), (3, 1), (4, 1), (5, 1), (6, 1), (7, 1), (8, 1), (9, 1), (10, 0), (11, 0), (12, 1), (13, 1), (14, 0)] mixed (by kernel_rfl) ?_
        refine px_rb' rfl (rb_move' rfl) rfl rfl (wt_none' rfl) ?_
        refine px_rd' rfl (rd_move' rfl) rfl rfl (wt_none' rfl) ?_
        refine px_rd' rfl (rd_nilck' rfl) rfl rfl (wt_none' rfl) ?_
        refine px_rd' rfl (rd_field0' rfl Tryd.underlying44 rfl info22 rfl) rfl rfl (wt_none' rfl) ?_
        refine px_rd' rfl (rd_load' (i := 0) (o := 0) rfl ⟨rfl, rfl, rfl, rfl⟩ rfl flat22) rfl rfl (wt_none' rfl) ?_
        refine px_rd' rfl (rd_move' rfl) rfl rfl (wt_none' rfl) ?_
        refine px_rd' rfl (rd_move' rfl) rfl rfl (wt_none' rfl) ?_
        refine px_rd' rfl (rd_bin' rfl rfl eg_int ru_mul) rfl rfl (wt_none' rfl) ?_
        obtain ⟨r29, hr29, hp⟩ := bind_some hp
        refine px_rd' rfl (rd_bin' rfl rfl eg_int (ru_shr hr29)) rfl rfl (wt_none' rfl) ?_
        refine px_rd' rfl (rd_conv' rfl (ru_i2i (by rw [Tryd.underlying46]; rfl) Tryd.underlying5)) rfl rfl (wt_none' rfl) ?_
        refine px_ox' rfl (ox_rowlit' (K := (Ki .u8)) (xs := [icv .u8 r29]) (qs := [(0, [(Vl (.int .u8 (icv .u8 r29)))])]) ⟨rfl, ⟨_, rfl, (lv_vl rfl rfl)⟩, trivial⟩ Tryd.underlying22 info5 rfl rfl rfl rfl rfl (by kernel_rfl) rfl rfl rfl) rfl bs_nil (wt_none' rfl) fun g31 => ?_
        obtain ⟨r32, hr32, hp⟩ := bind_some hp
        refine px_ox' rfl (ox_append' (K := (Ki .u8)) (i := 2) (xs := x3) (ys := ([icv .u8 r29])) rfl rfl rfl (sr_row' (j := 0) rfl rfl rfl Tryd.underlying22) hr32 Tryd.underlying22 info5 rfl rfl rfl (H' := [(Rw (Ki .u8) 5 (Vs g31) ([icv .u8 r29])), ⟨.pointer (some wa0), [(Vl (Vs g901)), (Vl (.bool a0_1)), (Vl (.bool a0_2)), (Vl (.bool a0_3)), (Vl (.bool a0_4))], 44, none⟩]) rfl) rfl bs_nil (wt_none' rfl) fun g32 => ?_
        refine px_rd' rfl (rd_nilck' rfl) rfl rfl (wt_none' rfl) ?_
        refine px_rd' rfl (rd_field0' rfl Tryd.underlying44 rfl info22 rfl) rfl rfl (wt_none' rfl) ?_
        refine px_oxv' rfl (oxv_store (i := 2) (o := 0) rfl rfl (lv_vl rfl rfl) ⟨rfl, rfl, rfl, rfl⟩ rfl info22 rfl (H' := [(Rw (Ki .u8) 5 (Vs g32) r32), (Rw (Ki .u8) 5 (Vs g31) ([icv .u8 r29])), ⟨.pointer (some wa0), [(Vl (Vs g32)), (Vl (.bool a0_1)), (Vl (.bool a0_2)), (Vl (.bool a0_3)), (Vl (.bool a0_4))], 44, none⟩]) rfl) rfl rfl bo_nil (wt_none' rfl) fun _ => ?_
        refine px_nil' ?_
        show TX E K11 _
        refine tx_k' hK11 ?_
        refine cx_region' ?_
        refine sx_rd' (rd_bin' rfl rfl eg_int ru_add) rfl rfl (wt_none' rfl) ?_
        refine sx_rd' (rd_move' rfl) rfl rfl (wt_none' rfl) ?_
        refine sx_nil' ?_
        show TX E (KY1 _) _
        exact tx_pick' [2, 0] (sub_cons rfl (sub_cons rfl (sub_cons rfl (sub_cons rfl (sub_cons rfl sub_nil))))) (by decide) (pick_cons rfl (pick_cons rfl pick_nil)) (ih1 (r32, (iadd .i64 x4 1)) g32 _ hp)
      · intro K14 hK14
        refine cx_seq' fun K15 hK15 => ?_
        refine cx_region' ?_
        refine sx_rd' (rd_move' rfl) rfl rfl (wt_none' rfl) ?_
        refine sx_rd' (rd_nilck' rfl) rfl rfl (wt_none' rfl) ?_
        refine sx_rd' (rd_field' (off := 1) rfl Tryd.underlying44 rfl info4 rfl) rfl rfl (wt_none' rfl) ?_
        refine sx_rd' (rd_load' (i := 0) (o := 1) rfl ⟨rfl, rfl, rfl, rfl⟩ rfl flat4) rfl rfl (wt_none' rfl) ?_
        refine sx_nil' ?_
        show TX E K15 _
        refine tx_k' hK15 ?_
        refine cx_cond' rfl (fun h5 => ?_) (fun h5 => ?_)
        · replace hp := (br_t h5).symm.trans hp
          refine cx_region' ?_
          refine sx_rd' (rd_move' rfl) rfl rfl (wt_none' rfl) ?_
          refine sx_rd' (rd_bin' rfl rfl eg_int ru_sub) rfl rfl (wt_none' rfl) ?_
          refine sx_rd' (rd_move' rfl) rfl rfl (wt_none' rfl) ?_
          refine sx_rd' (rd_bin' rfl rfl eg_int ru_sub) rfl rfl (wt_none' rfl) ?_
          refine sx_rd' (rd_assign' rfl) rfl rfl (wt_none' rfl) ?_
          refine sx_nil' ?_
          show TX E K14 _
          exact tx_pick' [0, 1] (sub_cons rfl (sub_cons rfl (sub_cons rfl (sub_cons rfl (sub_cons rfl (sub_cons rfl sub_nil)))))) (by decide) (pick_cons rfl (pick_cons rfl pick_nil)) (hK14 (isub .i64 (isub .i64 a2 1) x4) hp)
        · replace hp := (br_f h5).symm.trans hp
          refine cx_skip' ?_
          show TX E K14 _
          exact tx_pick' [0, 1] (sub_cons rfl (sub_cons rfl (sub_cons rfl (sub_cons rfl (sub_cons rfl (sub_cons rfl sub_nil)))))) (by decide) (pick_cons rfl (pick_cons rfl pick_nil)) (hK14 x4 hp)
    · replace hp := (br_f h4).symm.trans hp
      refine cx_exit' ?_
      replace hp := Option.some.inj hp
      subst hp
      show TX E (Zg E (Exit.exit 0) _ (Exit.exit 0)) _
      exact tx_zend' g901 rfl [0, 1] sub_nil (by decide) (pick_cons rfl (pick_cons rfl pick_nil))
  · refine zg_out fun w4 => ?_
    replace hp := Option.some.inj hp
    subst hp
    refine tx_pick' (L' := []) (H' := [⟨.pointer (some wa0), [(Vl (Vs w4)), (Vl (.bool a0_1)), (Vl (.bool a0_2)), (Vl (.bool a0_3)), (Vl (.bool a0_4))], 44, none⟩, (Rw (Ki .u8) 5 (Vs w4) v4)]) [0, 1] sub_nil (by decide) (pick_cons rfl (pick_cons rfl pick_nil)) ?_
    exact tx_end0' Tryd.results14 rfl w4 rfl (List.Sublist.refl _)

def spec_CountBytes (k : Nat) (a0 : Int) (a1 : Bool) : Option ((List Int)) :=
  (spec_wkbOut_uint k a1 false false false (icv .u64 a0) 4) >>= fun r12 =>
  some r12.1

theorem spec_CountBytes_sim {k : Nat}  (a0 : Int) (a1 : Bool) {out : (List Int)} (hp : spec_CountBytes k a0 a1 = some out) : Go.Sx.Fn Tryd.prog 7 [(Vl (.int .u32 a0)), (Vl (.bool a1))] [] (fun w : Unit => (Sl (Ki .u8) out)) (fun w => []) := by
  unfold spec_CountBytes at hp
  refine fn_of Tryd.func7 rfl Tryd.ntmps7 rfl fun E hM => ?_
  refine cx_seq' fun K1 hK1 => ?_
  refine cx_region' ?_
  refine sx_rd' (rd_assign' rfl) rfl rfl (wt_none' rfl) ?_
  refine sx_nil' ?_
  show TX E K1 _
  refine tx_k' hK1 ?_
  refine cx_seq' fun K2 hK2 => ?_
  refine cx_region' ?_
  refine sx_rd' (rd_move' rfl) rfl rfl (wt_none' rfl) ?_
  refine sx_rd' (rd_build' (pls := [(0, 1), (1, 1), (2, 1), (3, 1), (4, 1)]) (qs := [(1, [(Vl (.bool a1))])]) (r := [(Vl (.slice none 0 0)), (Vl (.bool a1)), (Vl (.bool false)), (Vl (.bool false)), (Vl (.bool false))]) ⟨rfl, ⟨_, rfl, (lv_vl rfl rfl)⟩, trivial⟩ Tryd.underlying44 has44 places44 info44 rfl rfl rfl) rfl rfl (wt_none' rfl) ?_
  refine sx_ox' (ox_box' rfl (lv_ag _) rfl rfl) (wt_none' rfl) fun q8 => ?_
  refine sx_rd' (rd_assign' rfl) rfl rfl (wt_none' rfl) ?_
  refine sx_nil' ?_
  show TX E K2 _
  refine tx_k' hK2 ?_
  refine cx_seq' fun K3 hK3 => ?_
  refine cx_region' ?_
  refine sx_rd' (rd_move' rfl) rfl rfl (wt_none' rfl) ?_
  refine sx_rd' (rd_move' rfl) rfl rfl (wt_none' rfl) ?_
  refine sx_rd' (rd_conv' rfl (ru_i2i (by rw [Tryd.underlying23]; rfl) Tryd.underlying46)) rfl rfl (wt_none' rfl) ?_
  obtain ⟨r12, hr12, hp⟩ := bind_some hp
  refine sx_ox' (ox_callg' (ent_fn' Tryd.func14 isn14 rfl rfl) (spec_wkbOut_uint_sim _ _ _ _ _ _ hr12 : Go.Sx.Fn Tryd.prog 14 [(Vl (.pointer (some q8))), (Vl (.int .u64 (icv .u64 a0))), (Vl (.int .i64 4))] [⟨.pointer (some q8), [(Vl (.slice none 0 0)), (Vl (.bool a1)), (Vl (.bool false)), (Vl (.bool false)), (Vl (.bool false))], 44, none⟩] (fun x : Gs => (Vl (.tuple #[]))) (fun x => [⟨.pointer (some q8), [(Vl (Vs x)), (Vl (.bool r12.2.1)), (Vl (.bool r12.2.2.1)), (Vl (.bool r12.2.2.2.1)), (Vl (.bool r12.2.2.2.2))], 44, none⟩, (Rw (Ki .u8) 5 (Vs x) r12.1)])) [0] [] (by decide) (pick_cons rfl pick_nil) pick_nil (Hn := fun x : Gs => [⟨.pointer (some q8), [(Vl (Vs x)), (Vl (.bool r12.2.1)), (Vl (.bool r12.2.2.1)), (Vl (.bool r12.2.2.2.1)), (Vl (.bool r12.2.2.2.2))], 44, none⟩, (Rw (Ki .u8) 5 (Vs x) r12.1)]) (fun _ => rfl) rfl rfl) (wt_none' rfl) fun g12 => ?_
  refine sx_nil' ?_
  show TX E K3 _
  refine tx_k' hK3 ?_
  refine cx_seq' fun K4 hK4 => ?_
  refine cx_region' ?_
  refine sx_rd' (rd_move' rfl) rfl rfl (wt_none' rfl) ?_
  refine sx_rd' (rd_nilck' rfl) rfl rfl (wt_none' rfl) ?_
  refine sx_rd' (rd_field0' rfl Tryd.underlying44 rfl info22 rfl) rfl rfl (wt_none' rfl) ?_
  refine sx_rd' (rd_load' (i := 0) (o := 0) rfl ⟨rfl, rfl, rfl, rfl⟩ rfl flat22) rfl rfl (wt_none' rfl) ?_
  refine sx_rd' (rd_assign' rfl) rfl rfl (wt_none' rfl) ?_
  refine sx_nil' ?_
  show TX E K4 _
  refine tx_k' hK4 ?_
  refine cx_retc' ?_
  replace hp := Option.some.inj hp
  subst hp
  refine tx_fz' (frz_row 1 [(4, (Vl (Vs g12)), (Sl (Ki .u8) r12.1)), (16, (Vl (Vs g12)), (Sl (Ki .u8) r12.1))] (K := (Ki .u8)) (xs := r12.1) (by decide) rfl ⟨⟨rfl, frz_it⟩, ⟨rfl, frz_it⟩, trivial⟩ (H' := [⟨.pointer (some q8), [(Sl (Ki .u8) r12.1), (Vl (.bool r12.2.1)), (Vl (.bool r12.2.2.1)), (Vl (.bool r12.2.2.2.1)), (Vl (.bool r12.2.2.2.2))], 44, none⟩]) (frzH_cons rfl rfl rfl (frzL_cons frz_it (frzL_cons frz_same (frzL_cons frz_same (frzL_cons frz_same (frzL_cons frz_same frzL_refl))))) frzH_refl)) ?_
  refine tx_pick' (L' := [(4, (Sl (Ki .u8) r12.1))]) (H' := []) [] (sub_cons rfl sub_nil) (by decide) pick_nil ?_
  exact tx_ret1' Tryd.results7 rfl () (rv_tmp' rfl) (List.Sublist.refl _)

def laws_ySame (k : Nat) (a0 : List Int) (a1 : List Int) : Option (Bool) :=
  some ((bytesOf a0).toList == (bytesOf a1).toList)

theorem laws_ySame_sim {k : Nat}  (a0 : List Int) (a1 : List Int) {out : Bool} (hp : laws_ySame k a0 a1 = some out) : Go.Sx.Fn Tryd.prog 6 [(Sl (Ki .u8) a0), (Sl (Ki .u8) a1)] [] (fun w : Unit => (Vl (.bool out))) (fun w => []) := by
  unfold laws_ySame at hp
  refine fn_of Tryd.func6 rfl Tryd.ntmps6 rfl fun E hM => ?_
  refine cx_seq' fun K1 hK1 => ?_
  refine cx_region' ?_
  refine sx_rd' (rd_assign' rfl) rfl rfl (wt_none' rfl) ?_
  refine sx_nil' ?_
  show TX E K1 _
  refine tx_k' hK1 ?_
  refine cx_seq' fun K2 hK2 => ?_
  refine cx_region' ?_
  refine sx_rd' (rd_move' rfl) rfl rfl (wt_none' rfl) ?_
  refine sx_rd' (rd_bytes' rfl Tryd.underlying22 Tryd.underlying5 Tryd.underlying9) rfl rfl (wt_none' rfl) ?_
  refine sx_rd' (rd_move' rfl) rfl rfl (wt_none' rfl) ?_
  refine sx_rd' (rd_bytes' rfl Tryd.underlying22 Tryd.underlying5 Tryd.underlying9) rfl rfl (wt_none' rfl) ?_
  refine sx_rd' (rd_bin' rfl rfl eg_str ru_seq) rfl rfl (wt_none' rfl) ?_
  refine sx_rd' (rd_assign' rfl) rfl rfl (wt_none' rfl) ?_
  refine sx_nil' ?_
  show TX E K2 _
  refine tx_k' hK2 ?_
  refine cx_retc' ?_
  replace hp := Option.some.inj hp
  subst hp
  refine tx_pick' (L' := [(4, (Vl (.bool ((bytesOf a0).toList == (bytesOf a1).toList))))]) (H' := []) [] (sub_cons rfl sub_nil) (by decide) pick_nil ?_
  exact tx_ret1' Tryd.results6 rfl () (rv_tmp' rfl) (List.Sublist.refl _)

def laws_FnReadUint32_j4 (k : Nat) (x4 : Bool) : Option (Bool) :=
  some x4
def laws_FnReadUint32_j3 (k : Nat) (x3 : Bool) : Option (Bool) :=
  laws_FnReadUint32_j4 k x3
def laws_FnReadUint32_j2 (k : Nat) (x2 : Bool) : Option (Bool) :=
  laws_FnReadUint32_j3 k x2
def laws_FnReadUint32_j1 (k : Nat) (r20 : Int × Int × Bool) (a0 : List Int) (a1 : Bool) (x1 : Bool) : Option (Bool) :=
  br x1
    (br (!r20.2.2)
      (laws_FnReadUint32_j3 k true)
      ((cut a0 0 4) >>= fun r47 =>
      (spec_CountBytes k r20.1 a1) >>= fun r45 =>
      (laws_ySame k r45 r47) >>= fun r48 =>
      br r48
        (laws_FnReadUint32_j2 k (decide (r20.2.1 = (isub .i64 (a0.length : Int) 4))))
        (laws_FnReadUint32_j2 k false)))
    (laws_FnReadUint32_j4 k false)
def laws_FnReadUint32 (k : Nat) (a0 : List Int) (a1 : Bool) : Option (Bool) :=
  br (decide (2147483647 < (a0.length : Int)))
    (some true)
    (br (decide (2000 < (a0.length : Int)))
      (some true)
      ((impl_ReadUint32 k a0 a1) >>= fun r20 =>
      (impl_ReadUint32_v2 k ([1, 2, 3, 4]) a1) >>= fun r27 =>
      br r27.2.2
        (laws_FnReadUint32_j1 k r20 a0 a1 (r20.2.2 == (decide (4 ≤ (a0.length : Int)))))
        (laws_FnReadUint32_j1 k r20 a0 a1 false)))

theorem laws_FnReadUint32_sim {k : Nat}  (a0 : List Int) (a1 : Bool) {out : Bool} (hp : laws_FnReadUint32 k a0 a1 = some out) : Go.Sx.Fn Tryd.prog 3 [(Sl (Ki .u8) a0), (Vl (.bool a1))] [] (fun w : Unit => (Vl (.bool out))) (fun w => []) := by
  unfold laws_FnReadUint32 at hp
  refine fn_of Tryd.func3 rfl Tryd.ntmps3 rfl fun E hM => ?_
  refine cx_seq' fun K1 hK1 => ?_
  refine cx_region' ?_
  refine sx_rd' (rd_assign' rfl) rfl rfl (wt_none' rfl) ?_
  refine sx_nil' ?_
  show TX E K1 _
  refine tx_k' hK1 ?_
  refine cx_seq' fun K2 hK2 => ?_
  refine cx_seq' fun K3 hK3 => ?_
  refine cx_region' ?_
  refine sx_rd' (rd_move' rfl) rfl rfl (wt_none' rfl) ?_
  refine sx_rd' (rd_len' rfl Tryd.underlying22) rfl rfl (wt_none' rfl) ?_
  refine sx_rd' (rd_bin' rfl rfl eg_int ru_gtr) rfl rfl (wt_none' rfl) ?_
  refine sx_nil' ?_
  show TX E K3 _
  refine tx_k' hK3 ?_
  refine cx_cond' rfl (fun h1 => ?_) (fun h1 => ?_)
  · replace hp := (br_t h1).symm.trans hp
    refine cx_seq' fun K4 hK4 => ?_
    refine cx_region' ?_
    refine sx_rd' (rd_assign' rfl) rfl rfl (wt_none' rfl) ?_
    refine sx_nil' ?_
    show TX E K4 _
    refine tx_k' hK4 ?_
    refine cx_retc' ?_
    replace hp := Option.some.inj hp
    subst hp
    refine tx_pick' (L' := [(4, (Vl (.bool true)))]) (H' := []) [] (sub_cons rfl sub_nil) (by decide) pick_nil ?_
    exact tx_ret1' Tryd.results3 rfl () (rv_tmp' rfl) (List.Sublist.refl _)
  · replace hp := (br_f h1).symm.trans hp
    refine cx_skip' ?_
    show TX E K2 _
    refine tx_k' hK2 ?_
    refine cx_seq' fun K5 hK5 => ?_
    refine cx_seq' fun K6 hK6 => ?_
    refine cx_region' ?_
    refine sx_rd' (rd_move' rfl) rfl rfl (wt_none' rfl) ?_
    refine sx_rd' (rd_len' rfl Tryd.underlying22) rfl rfl (wt_none' rfl) ?_
    refine sx_rd' (rd_bin' rfl rfl eg_int ru_gtr) rfl rfl (wt_none' rfl) ?_
    refine sx_nil' ?_
    show TX E K6 _
    refine tx_k' hK6 ?_
    refine cx_cond' rfl (fun h2 => ?_) (fun h2 => ?_)
    · replace hp := (br_t h2).symm.trans hp
      refine cx_seq' fun K7 hK7 => ?_
      refine cx_region' ?_
      refine sx_rd' (rd_assign' rfl) rfl rfl (wt_none' rfl) ?_
      refine sx_nil' ?_
      show TX E K7 _
      refine tx_k' hK7 ?_
      refine cx_retc' ?_
      replace hp := Option.some.inj hp
      subst hp
      refine tx_pick' (L' := [(4, (Vl (.bool true)))]) (H' := []) [] (sub_cons rfl sub_nil) (by decide) pick_nil ?_
      exact tx_ret1' Tryd.results3 rfl () (rv_tmp' rfl) (List.Sublist.refl _)
    · replace hp := (br_f h2).symm.trans hp
      refine cx_skip' ?_
      show TX E K5 _
      refine tx_k' hK5 ?_
      refine cx_seq' fun K8 hK8 => ?_
      refine cx_region' ?_
      refine sx_rd' (rd_move' rfl) rfl rfl (wt_none' rfl) ?_
      refine sx_rd' (rd_move' rfl) rfl rfl (wt_none' rfl) ?_
      obtain ⟨r20, hr20, hp⟩ := bind_some hp
      refine sx_ox' (ox_calln' (ent_fn' Tryd.func5 isn5 rfl rfl) (impl_ReadUint32_sim _ _ hr20 : Go.Sx.Fn Tryd.prog 5 [(Sl (Ki .u8) a0), (Vl (.bool a1))] [] (fun x : Unit => (Tu [(Vl (.int .u32 r20.1)), (Vl (.int .i64 r20.2.1)), (Vl (.bool r20.2.2))])) (fun x => [])) (Hn := fun x : Unit => []) (fun _ => rfl) rfl rfl) (wt_none' rfl) fun ⟨⟩ => ?_
      refine sx_rd' (rd_move' rfl) rfl rfl (wt_none' rfl) ?_
      refine sx_rd' (rd_extract' rfl rfl) rfl rfl (wt_none' rfl) ?_
      refine sx_rd' (rd_extract' rfl rfl) rfl rfl (wt_none' rfl) ?_
      refine sx_rd' (rd_extract' rfl rfl) rfl rfl (wt_none' rfl) ?_
      refine sx_rd' (rd_assign' rfl) rfl rfl (wt_none' rfl) ?_
      refine sx_rd' (rd_assign' rfl) rfl rfl (wt_none' rfl) ?_
      refine sx_rd' (rd_assign' rfl) rfl rfl (wt_none' rfl) ?_
      refine sx_nil' ?_
      show TX E K8 _
      refine tx_k' hK8 ?_
      refine cx_seq' fun K9 hK9 => ?_
      refine cx_region' ?_
      refine sx_ox' (ox_rowlit' (K := (Ki .u8)) (xs := [1, 2, 3, 4]) (qs := [(0, [(Vl (.int .u8 1))]), (1, [(Vl (.int .u8 2))]), (2, [(Vl (.int .u8 3))]), (3, [(Vl (.int .u8 4))])]) ⟨rfl, ⟨_, rfl, (lv_vl rfl rfl)⟩, ⟨rfl, ⟨_, rfl, (lv_vl rfl rfl)⟩, ⟨rfl, ⟨_, rfl, (lv_vl rfl rfl)⟩, ⟨rfl, ⟨_, rfl, (lv_vl rfl rfl)⟩, trivial⟩⟩⟩⟩ Tryd.underlying22 info5 rfl rfl rfl rfl rfl (by kernel_rfl) rfl rfl rfl) (wt_none' rfl) fun g25 => ?_
      refine sx_rd' (rd_move' rfl) rfl rfl (wt_none' rfl) ?_
      obtain ⟨r27, hr27, hp⟩ := bind_some hp
      refine sx_ox' (ox_callg' (ent_fn' Tryd.func5 isn5 rfl rfl) (impl_ReadUint32_v2_sim _ _ hr27 : Go.Sx.Fn Tryd.prog 5 [(Vl (Vs g25)), (Vl (.bool a1))] [(Rw (Ki .u8) 5 (Vs g25) ([1, 2, 3, 4]))] (fun x : Unit => (Tu [(Vl (.int .u32 r27.1)), (Vl (.int .i64 r27.2.1)), (Vl (.bool r27.2.2))])) (fun x => [])) [0] [] (by decide) (pick_cons rfl pick_nil) pick_nil (Hn := fun x : Unit => []) (fun _ => rfl) rfl rfl) (wt_none' rfl) fun ⟨⟩ => ?_
      refine sx_rd' (rd_move' rfl) rfl rfl (wt_none' rfl) ?_
      refine sx_rd' (rd_extract' rfl rfl) rfl rfl (wt_none' rfl) ?_
      refine sx_rd' (rd_extract' rfl rfl) rfl rfl (wt_none' rfl) ?_
      refine sx_rd' (rd_extract' rfl rfl) rfl rfl (wt_none' rfl) ?_
      refine sx_rd' (rd_assign' rfl) rfl rfl (wt_none' rfl) ?_
      refine sx_rd' (rd_assign' rfl) rfl rfl (wt_none' rfl) ?_
      refine sx_rd' (rd_assign' rfl) rfl rfl (wt_none' rfl) ?_
      refine sx_nil' ?_
      show TX E K9 _
      refine tx_k' hK9 ?_
      refine cx_seq' fun K10 hK10 => ?_
      refine cx_plan' [] [] [(0, 1), (1, 1), (2, 1), (3, 1), (4, 1), (5, 1), (6, 1), (7, 1), (8, 1), (9, 1), (10, 1), (11, 1), (12, 1), (13, 1), (15, 1), (16, 1), (14, 0), (17, 0), (18, 1), (19, 1), (20, 1), (21, 1), (22, 1), (23, 1), (24, 1), (25, 1), (26, 1), (27, 1)] mixed (by kernel_rfl) ?_
      refine px_rd' rfl (rd_move' rfl) rfl rfl (wt_none' rfl) ?_
      refine px_rd' rfl (rd_move' rfl) rfl rfl (wt_none' rfl) ?_
      refine px_cutn' 6 (fun (v1 : Bool) => (⟨58, [], [(0, (Sl (Ki .u8) a0)), (1, (Vl (.bool a1))), (5, (Vl (.int .u32 r20.1))), (6, (Vl (.int .i64 r20.2.1))), (7, (Vl (.bool r20.2.2))), (38, (Vl (.bool v1)))], []⟩ : St)) (fun (v1 : Bool) => laws_FnReadUint32_j1 k r20 a0 a1 v1 = some out) ?_ ?_
      · rintro x1 hp
        replace hp : laws_FnReadUint32_j1 k r20 a0 a1 x1 = some out := hp
        unfold laws_FnReadUint32_j1 at hp
        refine px_rd' rfl (rd_move' rfl) rfl rfl (wt_none' rfl) ?_
        refine px_cutn' 18 (fun (v4 : Bool) => (⟨58, [], [(57, (Vl (.bool v4)))], []⟩ : St)) (fun (v4 : Bool) => laws_FnReadUint32_j4 k v4 = some out) ?_ ?_
        · rintro x4 hp
          replace hp : laws_FnReadUint32_j4 k x4 = some out := hp
          unfold laws_FnReadUint32_j4 at hp
          refine px_rd' rfl (rd_assign' rfl) rfl rfl (wt_none' rfl) ?_
          refine px_nil' ?_
          show TX E K10 _
          refine tx_k' hK10 ?_
          refine cx_retc' ?_
          replace hp := Option.some.inj hp
          subst hp
          refine tx_pick' (L' := [(4, (Vl (.bool x4)))]) (H' := []) [] (sub_cons rfl sub_nil) (by decide) pick_nil ?_
          exact tx_ret1' Tryd.results3 rfl () (rv_tmp' rfl) (List.Sublist.refl _)
        · intro K14 hK14
          rcases br_cases hp with ⟨h4, hp⟩ | ⟨h4, hp⟩
          · refine px_rd' rfl (rd_move' rfl) rfl rfl (wt_is' (wt_guard' rfl rfl rfl) (beq_tt h4)) ?_
            refine px_rd' rfl (rd_un' rfl ru_not) rfl rfl (wt_is' (wt_guard' rfl rfl rfl) (beq_tt h4)) ?_
            refine px_rd' rfl (rd_move' rfl) rfl rfl (wt_is' (wt_guard' rfl rfl rfl) (beq_tt h4)) ?_
            refine px_cutn' 15 (fun (v3 : Bool) => (⟨58, [], [(57, (Vl (.bool v3)))], []⟩ : St)) (fun (v3 : Bool) => laws_FnReadUint32_j3 k v3 = some out) ?_ ?_
            · rintro x3 hp
              replace hp : laws_FnReadUint32_j3 k x3 = some out := hp
              unfold laws_FnReadUint32_j3 at hp
              refine px_nil' ?_
              show TX E K14 _
              exact tx_pick' [] (sub_cons rfl sub_nil) (by decide) pick_nil (hK14 x3 hp)
            · intro K13 hK13
              rcases br_cases hp with ⟨h5, hp⟩ | ⟨h5, hp⟩
              · refine px_skip' rfl rfl rfl (wt_is' (wt_guard' rfl rfl rfl) (beq_tf h5)) ?_
                refine px_skip' rfl rfl rfl (wt_is' (wt_guard' rfl rfl rfl) (beq_tf h5)) ?_
                refine px_skip' rfl rfl rfl (wt_is' (wt_guard' rfl rfl rfl) (beq_tf h5)) ?_
                refine px_skip' rfl rfl rfl (wt_is' (wt_guard' rfl rfl rfl) (beq_tf h5)) ?_
                refine px_oskip' rfl rfl rfl (wt_is' (wt_guard' rfl rfl rfl) (beq_tf h5)) ?_
                refine px_oskip' rfl rfl rfl (wt_is' (wt_guard' rfl rfl rfl) (beq_tf h5)) ?_
                refine px_skip' rfl rfl rfl (wt_is' (wt_guard' rfl rfl rfl) (beq_tf h5)) ?_
                refine px_skip' rfl rfl rfl (wt_undef' rfl rfl rfl) ?_
                refine px_skip' rfl rfl rfl (wt_undef' rfl rfl rfl) ?_
                refine px_skip' rfl rfl rfl (wt_undef' rfl rfl rfl) ?_
                refine px_skip' rfl rfl rfl (wt_undef' rfl rfl rfl) ?_
                refine px_skip' rfl rfl rfl (wt_undef' rfl rfl rfl) ?_
                refine px_skip' rfl rfl rfl (wt_is' (wt_guard' rfl rfl rfl) (beq_tf h5)) ?_
                refine px_rd' rfl (rd_pick_true' rfl h5 rfl) rfl rfl (wt_is' (wt_guard' rfl rfl rfl) (beq_tt h4)) ?_
                refine px_rd' rfl (rd_pick_true' rfl h4 rfl) rfl rfl (wt_none' rfl) ?_
                refine px_nil' ?_
                show TX E K13 _
                exact tx_pick' [] (sub_cons rfl sub_nil) (by decide) pick_nil (hK13 true hp)
              · refine px_rd' rfl (rd_move' rfl) rfl rfl (wt_is' (wt_guard' rfl rfl rfl) (beq_ff h5)) ?_
                refine px_rd' rfl (rd_move' rfl) rfl rfl (wt_is' (wt_guard' rfl rfl rfl) (beq_ff h5)) ?_
                refine px_rd' rfl (rd_move' rfl) rfl rfl (wt_is' (wt_guard' rfl rfl rfl) (beq_ff h5)) ?_
                obtain ⟨r47, hr47, hp⟩ := bind_some hp
                refine px_rd' rfl (rd_cut_h' rfl rfl hr47 Tryd.underlying22 info5) rfl rfl (wt_is' (wt_guard' rfl rfl rfl) (beq_ff h5)) ?_
                obtain ⟨r45, hr45, hp⟩ := bind_some hp
                refine px_ox' rfl (ox_calln' (ent_fn' Tryd.func7 isn7 rfl rfl) (spec_CountBytes_sim _ _ hr45 : Go.Sx.Fn Tryd.prog 7 [(Vl (.int .u32 r20.1)), (Vl (.bool a1))] [] (fun x : Unit => (Sl (Ki .u8) r45)) (fun x => [])) (Hn := fun x : Unit => []) (fun _ => rfl) rfl rfl) rfl bs_nil (wt_is' (wt_guard' rfl rfl rfl) (beq_ff h5)) fun ⟨⟩ => ?_
                obtain ⟨r48, hr48, hp⟩ := bind_some hp
                refine px_ox' rfl (ox_calln' (ent_fn' Tryd.func6 isn6 rfl rfl) (laws_ySame_sim _ _ hr48 : Go.Sx.Fn Tryd.prog 6 [(Sl (Ki .u8) r45), (Sl (Ki .u8) r47)] [] (fun x : Unit => (Vl (.bool r48))) (fun x => [])) (Hn := fun x : Unit => []) (fun _ => rfl) rfl rfl) rfl bs_nil (wt_is' (wt_guard' rfl rfl rfl) (beq_ff h5)) fun ⟨⟩ => ?_
                refine px_rd' rfl (rd_move' rfl) rfl rfl (wt_is' (wt_guard' rfl rfl rfl) (beq_ff h5)) ?_
                refine px_cutn' 8 (fun (v2 : Bool) => (⟨58, [], [(57, (Vl (.bool v2)))], []⟩ : St)) (fun (v2 : Bool) => laws_FnReadUint32_j2 k v2 = some out) ?_ ?_
                · rintro x2 hp
                  replace hp : laws_FnReadUint32_j2 k x2 = some out := hp
                  unfold laws_FnReadUint32_j2 at hp
                  refine px_nil' ?_
                  show TX E K13 _
                  exact tx_pick' [] (sub_cons rfl sub_nil) (by decide) pick_nil (hK13 x2 hp)
                · intro K12 hK12
                  rcases br_cases hp with ⟨h6, hp⟩ | ⟨h6, hp⟩
                  · refine px_rd' rfl (rd_move' rfl) rfl rfl (wt_is' (wt_guard' rfl rfl rfl) (beq_tt h6)) ?_
                    refine px_rd' rfl (rd_move' rfl) rfl rfl (wt_is' (wt_guard' rfl rfl rfl) (beq_tt h6)) ?_
                    refine px_rd' rfl (rd_len' rfl Tryd.underlying22) rfl rfl (wt_is' (wt_guard' rfl rfl rfl) (beq_tt h6)) ?_
                    refine px_rd' rfl (rd_bin' rfl rfl eg_int ru_sub) rfl rfl (wt_is' (wt_guard' rfl rfl rfl) (beq_tt h6)) ?_
                    refine px_rd' rfl (rd_bin' rfl rfl eg_int ru_eql) rfl rfl (wt_is' (wt_guard' rfl rfl rfl) (beq_tt h6)) ?_
                    refine px_rd' rfl (rd_pick_true' rfl h6 rfl) rfl rfl (wt_is' (wt_guard' rfl rfl rfl) (beq_ff h5)) ?_
                    refine px_rd' rfl (rd_pick_false' rfl h5 rfl) rfl rfl (wt_is' (wt_guard' rfl rfl rfl) (beq_tt h4)) ?_
                    refine px_rd' rfl (rd_pick_true' rfl h4 rfl) rfl rfl (wt_none' rfl) ?_
                    refine px_nil' ?_
                    show TX E K12 _
                    exact tx_pick' [] (sub_cons rfl sub_nil) (by decide) pick_nil (hK12 (decide (r20.2.1 = (isub .i64 (a0.length : Int) 4))) hp)
                  · refine px_skip' rfl rfl rfl (wt_is' (wt_guard' rfl rfl rfl) (beq_ft h6)) ?_
                    refine px_skip' rfl rfl rfl (wt_is' (wt_guard' rfl rfl rfl) (beq_ft h6)) ?_
                    refine px_skip' rfl rfl rfl (wt_is' (wt_guard' rfl rfl rfl) (beq_ft h6)) ?_
                    refine px_skip' rfl rfl rfl (wt_is' (wt_guard' rfl rfl rfl) (beq_ft h6)) ?_
                    refine px_skip' rfl rfl rfl (wt_is' (wt_guard' rfl rfl rfl) (beq_ft h6)) ?_
                    refine px_rd' rfl (rd_pick_false' rfl h6 rfl) rfl rfl (wt_is' (wt_guard' rfl rfl rfl) (beq_ff h5)) ?_
                    refine px_rd' rfl (rd_pick_false' rfl h5 rfl) rfl rfl (wt_is' (wt_guard' rfl rfl rfl) (beq_tt h4)) ?_
                    refine px_rd' rfl (rd_pick_true' rfl h4 rfl) rfl rfl (wt_none' rfl) ?_
                    refine px_nil' ?_
                    show TX E K12 _
                    exact tx_pick' [] (sub_cons rfl sub_nil) (by decide) pick_nil (hK12 false hp)
          · refine px_skip' rfl rfl rfl (wt_is' (wt_guard' rfl rfl rfl) (beq_ft h4)) ?_
            refine px_skip' rfl rfl rfl (wt_is' (wt_guard' rfl rfl rfl) (beq_ft h4)) ?_
            refine px_skip' rfl rfl rfl (wt_is' (wt_guard' rfl rfl rfl) (beq_ft h4)) ?_
            refine px_skip' rfl rfl rfl (wt_undef' rfl rfl rfl) ?_
            refine px_skip' rfl rfl rfl (wt_undef' rfl rfl rfl) ?_
            refine px_skip' rfl rfl rfl (wt_undef' rfl rfl rfl) ?_
            refine px_skip' rfl rfl rfl (wt_undef' rfl rfl rfl) ?_
            refine px_oskip' rfl rfl rfl (wt_undef' rfl rfl rfl) ?_
            refine px_oskip' rfl rfl rfl (wt_undef' rfl rfl rfl) ?_
            refine px_skip' rfl rfl rfl (wt_undef' rfl rfl rfl) ?_
            refine px_skip' rfl rfl rfl (wt_undef' rfl rfl rfl) ?_
            refine px_skip' rfl rfl rfl (wt_undef' rfl rfl rfl) ?_
            refine px_skip' rfl rfl rfl (wt_undef' rfl rfl rfl) ?_
            refine px_skip' rfl rfl rfl (wt_undef' rfl rfl rfl) ?_
            refine px_skip' rfl rfl rfl (wt_undef' rfl rfl rfl) ?_
            refine px_skip' rfl rfl rfl (wt_undef' rfl rfl rfl) ?_
            refine px_skip' rfl rfl rfl (wt_is' (wt_guard' rfl rfl rfl) (beq_ft h4)) ?_
            refine px_rd' rfl (rd_pick_false' rfl h4 rfl) rfl rfl (wt_none' rfl) ?_
            refine px_nil' ?_
            show TX E K14 _
            exact tx_pick' [] (sub_cons rfl sub_nil) (by decide) pick_nil (hK14 false hp)
      · intro K11 hK11
        rcases br_cases hp with ⟨h3, hp⟩ | ⟨h3, hp⟩
        · refine px_rd' rfl (rd_move' rfl) rfl rfl (wt_is' (wt_guard' rfl rfl rfl) (beq_tt h3)) ?_
          refine px_rd' rfl (rd_move' rfl) rfl rfl (wt_is' (wt_guard' rfl rfl rfl) (beq_tt h3)) ?_
          refine px_rd' rfl (rd_len' rfl Tryd.underlying22) rfl rfl (wt_is' (wt_guard' rfl rfl rfl) (beq_tt h3)) ?_
          refine px_rd' rfl (rd_bin' rfl rfl eg_int ru_geq) rfl rfl (wt_is' (wt_guard' rfl rfl rfl) (beq_tt h3)) ?_
          refine px_rd' rfl (rd_bin' rfl rfl eg_bool (ru_beq Tryd.underlying4)) rfl rfl (wt_is' (wt_guard' rfl rfl rfl) (beq_tt h3)) ?_
          refine px_rd' rfl (rd_pick_true' rfl h3 rfl) rfl rfl (wt_none' rfl) ?_
          refine px_nil' ?_
          show TX E K11 _
          exact tx_pick' [] (sub_cons rfl (sub_cons rfl (sub_cons rfl (sub_cons rfl (sub_cons rfl (sub_cons rfl sub_nil)))))) (by decide) pick_nil (hK11 (r20.2.2 == (decide (4 ≤ (a0.length : Int)))) hp)
        · refine px_skip' rfl rfl rfl (wt_is' (wt_guard' rfl rfl rfl) (beq_ft h3)) ?_
          refine px_skip' rfl rfl rfl (wt_is' (wt_guard' rfl rfl rfl) (beq_ft h3)) ?_
          refine px_skip' rfl rfl rfl (wt_is' (wt_guard' rfl rfl rfl) (beq_ft h3)) ?_
          refine px_skip' rfl rfl rfl (wt_is' (wt_guard' rfl rfl rfl) (beq_ft h3)) ?_
          refine px_skip' rfl rfl rfl (wt_is' (wt_guard' rfl rfl rfl) (beq_ft h3)) ?_
          refine px_rd' rfl (rd_pick_false' rfl h3 rfl) rfl rfl (wt_none' rfl) ?_
          refine px_nil' ?_
          show TX E K11 _
          exact tx_pick' [] (sub_cons rfl (sub_cons rfl (sub_cons rfl (sub_cons rfl (sub_cons rfl (sub_cons rfl sub_nil)))))) (by decide) pick_nil (hK11 false hp)

end Go.Proofs.YthjeamiaogdmgaaDoor
