/-
  Plain functions for the Go functions that this law reaches, and that each call does what its plain function says. Printed by a program of ours.
-/
import Derived.Test.YtmagcmeknclljaaProg
import Derived.Test.YtmagcmeknclljaaSxZ
import Derived.Test.YtmagcmeknclljaaFun3
namespace Go.Proofs.Ytmagcmeknclljaa
open Go.Sx
set_option linter.unusedVariables false
set_option maxRecDepth 100000

def impl_EndssOf (k : Nat) (a0_0 : Int) (a0_1 : Int) (a0_2 : Int) (a0_3 : List Nat) (a0_4 : List Int) (a0_5 : List (List Int)) (a0_6 : List T27) : Option ((List (List Int)) × Bool) :=
  (impl_geometry k a0_0 a0_1 a0_2 a0_3 a0_4 a0_5 a0_6) >>= fun r6 =>
  match r6 with
    | (.inl y1) =>
      ((gogeom_geom0_Endss k y1.1 y1.2.1 y1.2.2.1 y1.2.2.2) >>= fun r7 =>
      (impl_intss_v2 k) >>= fun r8 =>
      some ([], true))
    | (.inr (.inl y1)) =>
      ((gogeom_geom0_Endss_v2 k y1.1 y1.2.1 y1.2.2.1 y1.2.2.2) >>= fun r7 =>
      (impl_intss_v2 k) >>= fun r8 =>
      some ([], true))
    | (.inr (.inr (.inl y1))) =>
      ((gogeom_geom0_Endss_v3 k y1.1 y1.2.1 y1.2.2.1 y1.2.2.2) >>= fun r7 =>
      (impl_intss_v2 k) >>= fun r8 =>
      some ([], true))
    | (.inr (.inr (.inr (.inl y1)))) =>
      ((gogeom_geom0_Endss_v4 k y1.1 y1.2.1 y1.2.2.1 y1.2.2.2.1 y1.2.2.2.2) >>= fun r7 =>
      (impl_intss_v2 k) >>= fun r8 =>
      some ([], true))
    | (.inr (.inr (.inr (.inr (.inl y1))))) =>
      ((gogeom_geom0_Endss_v5 k y1.1 y1.2.1 y1.2.2.1 y1.2.2.2.1 y1.2.2.2.2) >>= fun r7 =>
      (impl_intss_v2 k) >>= fun r8 =>
      some ([], true))
    | (.inr (.inr (.inr (.inr (.inr (.inl y1)))))) =>
      ((gogeom_geom0_Endss_v6 k y1.1 y1.2.1 y1.2.2.1 y1.2.2.2.1 y1.2.2.2.2) >>= fun r7 =>
      (impl_intss_v2 k) >>= fun r8 =>
      some ([], true))
    | (.inr (.inr (.inr (.inr (.inr (.inr (.inl y1))))))) =>
      ((gogeom_geom3_Endss k y1.1 y1.2.1 y1.2.2.1 y1.2.2.2.1 y1.2.2.2.2) >>= fun r7 =>
      (impl_intss k r7.2.2.2.2) >>= fun r8 =>
      some (r8, true))
    | (.inr (.inr (.inr (.inr (.inr (.inr (.inr y1))))))) =>
      ((gogeom_GeometryCollection_Endss k y1.1 y1.2.1 y1.2.2) >>= fun r7 =>
      (impl_EndssOf_1 k false) >>= fun r951 =>
      some ([], r951))

theorem impl_EndssOf_sim {k : Nat}  (a0_0 : Int) (a0_1 : Int) (a0_2 : Int) (a0_3 : List Nat) (a0_4 : List Int) (a0_5 : List (List Int)) (a0_6 : List T27) {out : (List (List Int)) × Bool} (hp : impl_EndssOf k a0_0 a0_1 a0_2 a0_3 a0_4 a0_5 a0_6 = some out) : Go.Sx.Fn Try.prog 9 [(Ag [(Vl (.int .i64 a0_0)), (Vl (.int .i64 a0_1)), (Vl (.int .i64 a0_2)), (Sl Kf a0_3), (Sl (Ki .i64) a0_4), (Sl (Kl (Ki .i64)) a0_5), (Sl KT27 a0_6)])] [] (fun w : Unit => (Tu [(Sl (Kl (Ki .i64)) out.1), (Vl (.bool out.2))])) (fun w => []) := by
  unfold impl_EndssOf at hp
  refine fnD_of Try.func9 rfl Try.ntmps9 rfl fun E hM => ?_
  refine cx_seq' fun K1 hK1 => ?_
  refine cx_region' ?_
  refine sx_ox' (ox_box' rfl (lv_ag _) rfl rfl) (wt_none' rfl) fun q1 => ?_
  refine sx_ox' (ox_alloc' info24 rfl rfl rfl rfl (l := [(Vl (.slice none 0 0))]) rfl) (wt_none' rfl) fun q2 => ?_
  refine sx_ox' (ox_alloc' info4 rfl rfl rfl rfl (l := [(Vl (.bool false))]) rfl) (wt_none' rfl) fun q3 => ?_
  refine sx_nil' ?_
  show TX E K1 _
  refine tx_k' hK1 ?_
  refine cx_seq' fun K2 hK2 => ?_
  refine cx_region' ?_
  refine sx_rd' (rd_mkfunc' (us := [.pointer (some q2), .pointer (some q3)]) rfl) rfl rfl (wt_none' rfl) ?_
  refine sx_ox' (ox_defer' rfl rfl) (wt_none' rfl) fun _ => ?_
  refine sx_nil' ?_
  show TX E K2 _
  refine tx_k' hK2 ?_
  refine cx_seq' fun K3 hK3 => ?_
  refine cx_region' ?_
  refine sx_rd' (rd_load_agg' (i := 2) (o := 0) (nn := 7) rfl ⟨rfl, rfl, rfl, rfl⟩ rfl agg27 (l' := [(Vl (.int .i64 a0_0)), (Vl (.int .i64 a0_1)), (Vl (.int .i64 a0_2)), (Sl Kf a0_3), (Sl (Ki .i64) a0_4), (Sl (Kl (Ki .i64)) a0_5), (Sl KT27 a0_6)]) rfl) rfl rfl (wt_none' rfl) ?_
  obtain ⟨r6, hr6, hp⟩ := bind_some hp
  rcases r6 with y1 | y1 | y1 | y1 | y1 | y1 | y1 | y1
  · dsimp only at hp
    refine sx_ox' (ox_calln' (ent_fn' Try.func30 isn30 rfl rfl) (impl_geometry_sim _ _ _ _ _ _ _ hr6 : Go.Sx.Fn Try.prog 30 [(Ag [(Vl (.int .i64 a0_0)), (Vl (.int .i64 a0_1)), (Vl (.int .i64 a0_2)), (Sl Kf a0_3), (Sl (Ki .i64) a0_4), (Sl (Kl (Ki .i64)) a0_5), (Sl KT27 a0_6)])] [] (fun x : Addr × Gs => (If 72 (Vl (.pointer (some x.1))))) (fun x => [⟨.pointer (some x.1), [(Vl (.int .i64 y1.1)), (Vl (.int .i64 y1.2.1)), (Sl Kf y1.2.2.1), (Vl (.int .i64 y1.2.2.2))], 135, none⟩])) (Hn := fun x : Addr × Gs => [⟨.pointer (some x.1), [(Vl (.int .i64 y1.1)), (Vl (.int .i64 y1.2.1)), (Sl Kf y1.2.2.1), (Vl (.int .i64 y1.2.2.2))], 135, none⟩, ⟨.pointer (some q3), [(Vl (.bool false))], 4, none⟩, ⟨.pointer (some q2), [(Vl (.slice none 0 0))], 24, none⟩, ⟨.pointer (some q1), [(Vl (.int .i64 a0_0)), (Vl (.int .i64 a0_1)), (Vl (.int .i64 a0_2)), (Sl Kf a0_3), (Sl (Ki .i64) a0_4), (Sl (Kl (Ki .i64)) a0_5), (Sl KT27 a0_6)], 27, none⟩]) (fun _ => rfl) rfl rfl) (wt_none' rfl) fun ⟨q6, g6⟩ => ?_
    obtain ⟨r7, hr7, hp⟩ := bind_some hp
    refine sx_ox' (ox_callg' (ent_inv' rfl rfl (inv_ptr0 (inv72_Endss _))) (gogeom_geom0_Endss_sim _ _ _ _ hr7 : Go.Sx.Fn Try.prog 132 [(Vl (.pointer (some q6)))] [⟨.pointer (some q6), [(Vl (.int .i64 y1.1)), (Vl (.int .i64 y1.2.1)), (Sl Kf y1.2.2.1), (Vl (.int .i64 y1.2.2.2))], 135, none⟩] (fun x : Unit => (Vl (.slice none 0 0))) (fun x => [⟨.pointer (some q6), [(Vl (.int .i64 r7.1)), (Vl (.int .i64 r7.2.1)), (Sl Kf r7.2.2.1), (Vl (.int .i64 r7.2.2.2))], 135, none⟩])) [0] [1, 2, 3] (by decide) (pick_cons rfl pick_nil) (pick_cons rfl (pick_cons rfl (pick_cons rfl pick_nil))) (Hn := fun x : Unit => [⟨.pointer (some q6), [(Vl (.int .i64 r7.1)), (Vl (.int .i64 r7.2.1)), (Sl Kf r7.2.2.1), (Vl (.int .i64 r7.2.2.2))], 135, none⟩, ⟨.pointer (some q3), [(Vl (.bool false))], 4, none⟩, ⟨.pointer (some q2), [(Vl (.slice none 0 0))], 24, none⟩, ⟨.pointer (some q1), [(Vl (.int .i64 a0_0)), (Vl (.int .i64 a0_1)), (Vl (.int .i64 a0_2)), (Sl Kf a0_3), (Sl (Ki .i64) a0_4), (Sl (Kl (Ki .i64)) a0_5), (Sl KT27 a0_6)], 27, none⟩]) (fun _ => rfl) rfl rfl) (wt_none' rfl) fun ⟨⟩ => ?_
    obtain ⟨r8, hr8, hp⟩ := bind_some hp
    refine sx_ox' (ox_calln' (ent_fn' Try.func29 isn29 rfl rfl) (impl_intss_v2_sim hr8 : Go.Sx.Fn Try.prog 29 [(Vl (.slice none 0 0))] [] (fun x : Unit => (Vl (.slice none 0 0))) (fun x => [])) (Hn := fun x : Unit => [⟨.pointer (some q6), [(Vl (.int .i64 r7.1)), (Vl (.int .i64 r7.2.1)), (Sl Kf r7.2.2.1), (Vl (.int .i64 r7.2.2.2))], 135, none⟩, ⟨.pointer (some q3), [(Vl (.bool false))], 4, none⟩, ⟨.pointer (some q2), [(Vl (.slice none 0 0))], 24, none⟩, ⟨.pointer (some q1), [(Vl (.int .i64 a0_0)), (Vl (.int .i64 a0_1)), (Vl (.int .i64 a0_2)), (Sl Kf a0_3), (Sl (Ki .i64) a0_4), (Sl (Kl (Ki .i64)) a0_5), (Sl KT27 a0_6)], 27, none⟩]) (fun _ => rfl) rfl rfl) (wt_none' rfl) fun ⟨⟩ => ?_
    refine sx_ox' (ox_store' (i := 2) (o := 0) rfl rfl (lv_vl rfl rfl) ⟨rfl, rfl, rfl, rfl⟩ rfl info24 rfl (H' := [⟨.pointer (some q6), [(Vl (.int .i64 r7.1)), (Vl (.int .i64 r7.2.1)), (Sl Kf r7.2.2.1), (Vl (.int .i64 r7.2.2.2))], 135, none⟩, ⟨.pointer (some q3), [(Vl (.bool false))], 4, none⟩, ⟨.pointer (some q2), [(Vl (.slice none 0 0))], 24, none⟩, ⟨.pointer (some q1), [(Vl (.int .i64 a0_0)), (Vl (.int .i64 a0_1)), (Vl (.int .i64 a0_2)), (Sl Kf a0_3), (Sl (Ki .i64) a0_4), (Sl (Kl (Ki .i64)) a0_5), (Sl KT27 a0_6)], 27, none⟩]) rfl) (wt_none' rfl) fun _ => ?_
    refine sx_ox' (ox_store' (i := 1) (o := 0) rfl rfl (lv_vl rfl rfl) ⟨rfl, rfl, rfl, rfl⟩ rfl info4 rfl (H' := [⟨.pointer (some q6), [(Vl (.int .i64 r7.1)), (Vl (.int .i64 r7.2.1)), (Sl Kf r7.2.2.1), (Vl (.int .i64 r7.2.2.2))], 135, none⟩, ⟨.pointer (some q3), [(Vl (.bool true))], 4, none⟩, ⟨.pointer (some q2), [(Vl (.slice none 0 0))], 24, none⟩, ⟨.pointer (some q1), [(Vl (.int .i64 a0_0)), (Vl (.int .i64 a0_1)), (Vl (.int .i64 a0_2)), (Sl Kf a0_3), (Sl (Ki .i64) a0_4), (Sl (Kl (Ki .i64)) a0_5), (Sl KT27 a0_6)], 27, none⟩]) rfl) (wt_none' rfl) fun _ => ?_
    refine sx_nil' ?_
    show TX E K3 _
    refine tx_k' hK3 ?_
    refine cx_retc' ?_
    replace hp := Option.some.inj hp
    subst hp
    refine tx_leave' (.inl rfl) rfl idle28 rfl Try.func28 isn28 rfl ?_
    refine tx_pick' (L' := [(2, (Vl (.pointer (some q2)))), (3, (Vl (.pointer (some q3))))]) (H' := [⟨.pointer (some q2), [(Vl (.slice none 0 0))], 24, none⟩, ⟨.pointer (some q3), [(Vl (.bool true))], 4, none⟩]) [2, 1] (sub_cons rfl (sub_cons rfl sub_nil)) (by decide) (pick_cons rfl (pick_cons rfl pick_nil)) ?_
    exact tx_ret2' Try.results9 rfl () (rv_imp' (x := (Vl (.slice none 0 0))) (y := (Sl (Kl (Ki .i64)) [])) (rv_cell' (i := 0) (o := 0) rfl ⟨rfl, rfl, rfl, rfl⟩ rfl flat24) imp_nil) (rv_cell' (i := 1) (o := 0) rfl ⟨rfl, rfl, rfl, rfl⟩ rfl flat4) rfl (List.nil_sublist _)
  · dsimp only at hp
    refine sx_ox' (ox_calln' (ent_fn' Try.func30 isn30 rfl rfl) (impl_geometry_sim _ _ _ _ _ _ _ hr6 : Go.Sx.Fn Try.prog 30 [(Ag [(Vl (.int .i64 a0_0)), (Vl (.int .i64 a0_1)), (Vl (.int .i64 a0_2)), (Sl Kf a0_3), (Sl (Ki .i64) a0_4), (Sl (Kl (Ki .i64)) a0_5), (Sl KT27 a0_6)])] [] (fun x : Addr × Gs => (If 75 (Vl (.pointer (some x.1))))) (fun x => [⟨.pointer (some x.1), [(Vl (.int .i64 y1.1)), (Vl (.int .i64 y1.2.1)), (Sl Kf y1.2.2.1), (Vl (.int .i64 y1.2.2.2))], 138, none⟩])) (Hn := fun x : Addr × Gs => [⟨.pointer (some x.1), [(Vl (.int .i64 y1.1)), (Vl (.int .i64 y1.2.1)), (Sl Kf y1.2.2.1), (Vl (.int .i64 y1.2.2.2))], 138, none⟩, ⟨.pointer (some q3), [(Vl (.bool false))], 4, none⟩, ⟨.pointer (some q2), [(Vl (.slice none 0 0))], 24, none⟩, ⟨.pointer (some q1), [(Vl (.int .i64 a0_0)), (Vl (.int .i64 a0_1)), (Vl (.int .i64 a0_2)), (Sl Kf a0_3), (Sl (Ki .i64) a0_4), (Sl (Kl (Ki .i64)) a0_5), (Sl KT27 a0_6)], 27, none⟩]) (fun _ => rfl) rfl rfl) (wt_none' rfl) fun ⟨q6, g6⟩ => ?_
    obtain ⟨r7, hr7, hp⟩ := bind_some hp
    refine sx_ox' (ox_callg' (ent_inv' rfl rfl (inv_ptr0 (inv75_Endss _))) (gogeom_geom0_Endss_v2_sim _ _ _ _ hr7 : Go.Sx.Fn Try.prog 132 [(Vl (.pointer (some q6)))] [⟨.pointer (some q6), [(Vl (.int .i64 y1.1)), (Vl (.int .i64 y1.2.1)), (Sl Kf y1.2.2.1), (Vl (.int .i64 y1.2.2.2))], 138, none⟩] (fun x : Unit => (Vl (.slice none 0 0))) (fun x => [⟨.pointer (some q6), [(Vl (.int .i64 r7.1)), (Vl (.int .i64 r7.2.1)), (Sl Kf r7.2.2.1), (Vl (.int .i64 r7.2.2.2))], 138, none⟩])) [0] [1, 2, 3] (by decide) (pick_cons rfl pick_nil) (pick_cons rfl (pick_cons rfl (pick_cons rfl pick_nil))) (Hn := fun x : Unit => [⟨.pointer (some q6), [(Vl (.int .i64 r7.1)), (Vl (.int .i64 r7.2.1)), (Sl Kf r7.2.2.1), (Vl (.int .i64 r7.2.2.2))], 138, none⟩, ⟨.pointer (some q3), [(Vl (.bool false))], 4, none⟩, ⟨.pointer (some q2), [(Vl (.slice none 0 0))], 24, none⟩, ⟨.pointer (some q1), [(Vl (.int .i64 a0_0)), (Vl (.int .i64 a0_1)), (Vl (.int .i64 a0_2)), (Sl Kf a0_3), (Sl (Ki .i64) a0_4), (Sl (Kl (Ki .i64)) a0_5), (Sl KT27 a0_6)], 27, none⟩]) (fun _ => rfl) rfl rfl) (wt_none' rfl) fun ⟨⟩ => ?_
    obtain ⟨r8, hr8, hp⟩ := bind_some hp
    refine sx_ox' (ox_calln' (ent_fn' Try.func29 isn29 rfl rfl) (impl_intss_v2_sim hr8 : Go.Sx.Fn Try.prog 29 [(Vl (.slice none 0 0))] [] (fun x : Unit => (Vl (.slice none 0 0))) (fun x => [])) (Hn := fun x : Unit => [⟨.pointer (some q6), [(Vl (.int .i64 r7.1)), (Vl (.int .i64 r7.2.1)), (Sl Kf r7.2.2.1), (Vl (.int .i64 r7.2.2.2))], 138, none⟩, ⟨.pointer (some q3), [(Vl (.bool false))], 4, none⟩, ⟨.pointer (some q2), [(Vl (.slice none 0 0))], 24, none⟩, ⟨.pointer (some q1), [(Vl (.int .i64 a0_0)), (Vl (.int .i64 a0_1)), (Vl (.int .i64 a0_2)), (Sl Kf a0_3), (Sl (Ki .i64) a0_4), (Sl (Kl (Ki .i64)) a0_5), (Sl KT27 a0_6)], 27, none⟩]) (fun _ => rfl) rfl rfl) (wt_none' rfl) fun ⟨⟩ => ?_
    refine sx_ox' (ox_store' (i := 2) (o := 0) rfl rfl (lv_vl rfl rfl) ⟨rfl, rfl, rfl, rfl⟩ rfl info24 rfl (H' := [⟨.pointer (some q6), [(Vl (.int .i64 r7.1)), (Vl (.int .i64 r7.2.1)), (Sl Kf r7.2.2.1), (Vl (.int .i64 r7.2.2.2))], 138, none⟩, ⟨.pointer (some q3), [(Vl (.bool false))], 4, none⟩, ⟨.pointer (some q2), [(Vl (.slice none 0 0))], 24, none⟩, ⟨.pointer (some q1), [(Vl (.int .i64 a0_0)), (Vl (.int .i64 a0_1)), (Vl (.int .i64 a0_2)), (Sl Kf a0_3), (Sl (Ki .i64) a0_4), (Sl (Kl (Ki .i64)) a0_5), (Sl KT27 a0_6)], 27, none⟩]) rfl) (wt_none' rfl) fun _ => ?_
    refine sx_ox' (ox_store' (i := 1) (o := 0) rfl rfl (lv_vl rfl rfl) ⟨rfl, rfl, rfl, rfl⟩ rfl info4 rfl (H' := [⟨.pointer (some q6), [(Vl (.int .i64 r7.1)), (Vl (.int .i64 r7.2.1)), (Sl Kf r7.2.2.1), (Vl (.int .i64 r7.2.2.2))], 138, none⟩, ⟨.pointer (some q3), [(Vl (.bool true))], 4, none⟩, ⟨.pointer (some q2), [(Vl (.slice none 0 0))], 24, none⟩, ⟨.pointer (some q1), [(Vl (.int .i64 a0_0)), (Vl (.int .i64 a0_1)), (Vl (.int .i64 a0_2)), (Sl Kf a0_3), (Sl (Ki .i64) a0_4), (Sl (Kl (Ki .i64)) a0_5), (Sl KT27 a0_6)], 27, none⟩]) rfl) (wt_none' rfl) fun _ => ?_
    refine sx_nil' ?_
    show TX E K3 _
    refine tx_k' hK3 ?_
    refine cx_retc' ?_
    replace hp := Option.some.inj hp
    subst hp
    refine tx_leave' (.inl rfl) rfl idle28 rfl Try.func28 isn28 rfl ?_
    refine tx_pick' (L' := [(2, (Vl (.pointer (some q2)))), (3, (Vl (.pointer (some q3))))]) (H' := [⟨.pointer (some q2), [(Vl (.slice none 0 0))], 24, none⟩, ⟨.pointer (some q3), [(Vl (.bool true))], 4, none⟩]) [2, 1] (sub_cons rfl (sub_cons rfl sub_nil)) (by decide) (pick_cons rfl (pick_cons rfl pick_nil)) ?_
    exact tx_ret2' Try.results9 rfl () (rv_imp' (x := (Vl (.slice none 0 0))) (y := (Sl (Kl (Ki .i64)) [])) (rv_cell' (i := 0) (o := 0) rfl ⟨rfl, rfl, rfl, rfl⟩ rfl flat24) imp_nil) (rv_cell' (i := 1) (o := 0) rfl ⟨rfl, rfl, rfl, rfl⟩ rfl flat4) rfl (List.nil_sublist _)
  · dsimp only at hp
    refine sx_ox' (ox_calln' (ent_fn' Try.func30 isn30 rfl rfl) (impl_geometry_sim _ _ _ _ _ _ _ hr6 : Go.Sx.Fn Try.prog 30 [(Ag [(Vl (.int .i64 a0_0)), (Vl (.int .i64 a0_1)), (Vl (.int .i64 a0_2)), (Sl Kf a0_3), (Sl (Ki .i64) a0_4), (Sl (Kl (Ki .i64)) a0_5), (Sl KT27 a0_6)])] [] (fun x : Addr × Gs => (If 69 (Vl (.pointer (some x.1))))) (fun x => [⟨.pointer (some x.1), [(Vl (.int .i64 y1.1)), (Vl (.int .i64 y1.2.1)), (Sl Kf y1.2.2.1), (Vl (.int .i64 y1.2.2.2))], 128, none⟩])) (Hn := fun x : Addr × Gs => [⟨.pointer (some x.1), [(Vl (.int .i64 y1.1)), (Vl (.int .i64 y1.2.1)), (Sl Kf y1.2.2.1), (Vl (.int .i64 y1.2.2.2))], 128, none⟩, ⟨.pointer (some q3), [(Vl (.bool false))], 4, none⟩, ⟨.pointer (some q2), [(Vl (.slice none 0 0))], 24, none⟩, ⟨.pointer (some q1), [(Vl (.int .i64 a0_0)), (Vl (.int .i64 a0_1)), (Vl (.int .i64 a0_2)), (Sl Kf a0_3), (Sl (Ki .i64) a0_4), (Sl (Kl (Ki .i64)) a0_5), (Sl KT27 a0_6)], 27, none⟩]) (fun _ => rfl) rfl rfl) (wt_none' rfl) fun ⟨q6, g6⟩ => ?_
    obtain ⟨r7, hr7, hp⟩ := bind_some hp
    refine sx_ox' (ox_callg' (ent_inv' rfl rfl (inv_ptr0 (inv69_Endss _))) (gogeom_geom0_Endss_v3_sim _ _ _ _ hr7 : Go.Sx.Fn Try.prog 132 [(Vl (.pointer (some q6)))] [⟨.pointer (some q6), [(Vl (.int .i64 y1.1)), (Vl (.int .i64 y1.2.1)), (Sl Kf y1.2.2.1), (Vl (.int .i64 y1.2.2.2))], 128, none⟩] (fun x : Unit => (Vl (.slice none 0 0))) (fun x => [⟨.pointer (some q6), [(Vl (.int .i64 r7.1)), (Vl (.int .i64 r7.2.1)), (Sl Kf r7.2.2.1), (Vl (.int .i64 r7.2.2.2))], 128, none⟩])) [0] [1, 2, 3] (by decide) (pick_cons rfl pick_nil) (pick_cons rfl (pick_cons rfl (pick_cons rfl pick_nil))) (Hn := fun x : Unit => [⟨.pointer (some q6), [(Vl (.int .i64 r7.1)), (Vl (.int .i64 r7.2.1)), (Sl Kf r7.2.2.1), (Vl (.int .i64 r7.2.2.2))], 128, none⟩, ⟨.pointer (some q3), [(Vl (.bool false))], 4, none⟩, ⟨.pointer (some q2), [(Vl (.slice none 0 0))], 24, none⟩, ⟨.pointer (some q1), [(Vl (.int .i64 a0_0)), (Vl (.int .i64 a0_1)), (Vl (.int .i64 a0_2)), (Sl Kf a0_3), (Sl (Ki .i64) a0_4), (Sl (Kl (Ki .i64)) a0_5), (Sl KT27 a0_6)], 27, none⟩]) (fun _ => rfl) rfl rfl) (wt_none' rfl) fun ⟨⟩ => ?_
    obtain ⟨r8, hr8, hp⟩ := bind_some hp
    refine sx_ox' (ox_calln' (ent_fn' Try.func29 isn29 rfl rfl) (impl_intss_v2_sim hr8 : Go.Sx.Fn Try.prog 29 [(Vl (.slice none 0 0))] [] (fun x : Unit => (Vl (.slice none 0 0))) (fun x => [])) (Hn := fun x : Unit => [⟨.pointer (some q6), [(Vl (.int .i64 r7.1)), (Vl (.int .i64 r7.2.1)), (Sl Kf r7.2.2.1), (Vl (.int .i64 r7.2.2.2))], 128, none⟩, ⟨.pointer (some q3), [(Vl (.bool false))], 4, none⟩, ⟨.pointer (some q2), [(Vl (.slice none 0 0))], 24, none⟩, ⟨.pointer (some q1), [(Vl (.int .i64 a0_0)), (Vl (.int .i64 a0_1)), (Vl (.int .i64 a0_2)), (Sl Kf a0_3), (Sl (Ki .i64) a0_4), (Sl (Kl (Ki .i64)) a0_5), (Sl KT27 a0_6)], 27, none⟩]) (fun _ => rfl) rfl rfl) (wt_none' rfl) fun ⟨⟩ => ?_
    refine sx_ox' (ox_store' (i := 2) (o := 0) rfl rfl (lv_vl rfl rfl) ⟨rfl, rfl, rfl, rfl⟩ rfl info24 rfl (H' := [⟨.pointer (some q6), [(Vl (.int .i64 r7.1)), (Vl (.int .i64 r7.2.1)), (Sl Kf r7.2.2.1), (Vl (.int .i64 r7.2.2.2))], 128, none⟩, ⟨.pointer (some q3), [(Vl (.bool false))], 4, none⟩, ⟨.pointer (some q2), [(Vl (.slice none 0 0))], 24, none⟩, ⟨.pointer (some q1), [(Vl (.int .i64 a0_0)), (Vl (.int .i64 a0_1)), (Vl (.int .i64 a0_2)), (Sl Kf a0_3), (Sl (Ki .i64) a0_4), (Sl (Kl (Ki .i64)) a0_5), (Sl KT27 a0_6)], 27, none⟩]) rfl) (wt_none' rfl) fun _ => ?_
    refine sx_ox' (ox_store' (i := 1) (o := 0) rfl rfl (lv_vl rfl rfl) ⟨rfl, rfl, rfl, rfl⟩ rfl info4 rfl (H' := [⟨.pointer (some q6), [(Vl (.int .i64 r7.1)), (Vl (.int .i64 r7.2.1)), (Sl Kf r7.2.2.1), (Vl (.int .i64 r7.2.2.2))], 128, none⟩, ⟨.pointer (some q3), [(Vl (.bool true))], 4, none⟩, ⟨.pointer (some q2), [(Vl (.slice none 0 0))], 24, none⟩, ⟨.pointer (some q1), [(Vl (.int .i64 a0_0)), (Vl (.int .i64 a0_1)), (Vl (.int .i64 a0_2)), (Sl Kf a0_3), (Sl (Ki .i64) a0_4), (Sl (Kl (Ki .i64)) a0_5), (Sl KT27 a0_6)], 27, none⟩]) rfl) (wt_none' rfl) fun _ => ?_
    refine sx_nil' ?_
    show TX E K3 _
    refine tx_k' hK3 ?_
    refine cx_retc' ?_
    replace hp := Option.some.inj hp
    subst hp
    refine tx_leave' (.inl rfl) rfl idle28 rfl Try.func28 isn28 rfl ?_
    refine tx_pick' (L' := [(2, (Vl (.pointer (some q2)))), (3, (Vl (.pointer (some q3))))]) (H' := [⟨.pointer (some q2), [(Vl (.slice none 0 0))], 24, none⟩, ⟨.pointer (some q3), [(Vl (.bool true))], 4, none⟩]) [2, 1] (sub_cons rfl (sub_cons rfl sub_nil)) (by decide) (pick_cons rfl (pick_cons rfl pick_nil)) ?_
    exact tx_ret2' Try.results9 rfl () (rv_imp' (x := (Vl (.slice none 0 0))) (y := (Sl (Kl (Ki .i64)) [])) (rv_cell' (i := 0) (o := 0) rfl ⟨rfl, rfl, rfl, rfl⟩ rfl flat24) imp_nil) (rv_cell' (i := 1) (o := 0) rfl ⟨rfl, rfl, rfl, rfl⟩ rfl flat4) rfl (List.nil_sublist _)
  · dsimp only at hp
    refine sx_ox' (ox_calln' (ent_fn' Try.func30 isn30 rfl rfl) (impl_geometry_sim _ _ _ _ _ _ _ hr6 : Go.Sx.Fn Try.prog 30 [(Ag [(Vl (.int .i64 a0_0)), (Vl (.int .i64 a0_1)), (Vl (.int .i64 a0_2)), (Sl Kf a0_3), (Sl (Ki .i64) a0_4), (Sl (Kl (Ki .i64)) a0_5), (Sl KT27 a0_6)])] [] (fun x : Addr × Gs => (If 67 (Vl (.pointer (some x.1))))) (fun x => [⟨.pointer (some x.1), [(Vl (.int .i64 y1.1)), (Vl (.int .i64 y1.2.1)), (Sl Kf y1.2.2.1), (Vl (.int .i64 y1.2.2.2.1)), (Sl (Ki .i64) y1.2.2.2.2)], 132, none⟩])) (Hn := fun x : Addr × Gs => [⟨.pointer (some x.1), [(Vl (.int .i64 y1.1)), (Vl (.int .i64 y1.2.1)), (Sl Kf y1.2.2.1), (Vl (.int .i64 y1.2.2.2.1)), (Sl (Ki .i64) y1.2.2.2.2)], 132, none⟩, ⟨.pointer (some q3), [(Vl (.bool false))], 4, none⟩, ⟨.pointer (some q2), [(Vl (.slice none 0 0))], 24, none⟩, ⟨.pointer (some q1), [(Vl (.int .i64 a0_0)), (Vl (.int .i64 a0_1)), (Vl (.int .i64 a0_2)), (Sl Kf a0_3), (Sl (Ki .i64) a0_4), (Sl (Kl (Ki .i64)) a0_5), (Sl KT27 a0_6)], 27, none⟩]) (fun _ => rfl) rfl rfl) (wt_none' rfl) fun ⟨q6, g6⟩ => ?_
    obtain ⟨r7, hr7, hp⟩ := bind_some hp
    refine sx_ox' (ox_callg' (ent_inv' rfl rfl (inv_ptr0 (inv67_Endss _))) (gogeom_geom0_Endss_v4_sim _ _ _ _ _ hr7 : Go.Sx.Fn Try.prog 132 [(Vl (.pointer (some q6)))] [⟨.pointer (some q6), [(Vl (.int .i64 y1.1)), (Vl (.int .i64 y1.2.1)), (Sl Kf y1.2.2.1), (Vl (.int .i64 y1.2.2.2.1)), (Sl (Ki .i64) y1.2.2.2.2)], 132, none⟩] (fun x : Unit => (Vl (.slice none 0 0))) (fun x => [⟨.pointer (some q6), [(Vl (.int .i64 r7.1)), (Vl (.int .i64 r7.2.1)), (Sl Kf r7.2.2.1), (Vl (.int .i64 r7.2.2.2.1)), (Sl (Ki .i64) r7.2.2.2.2)], 132, none⟩])) [0] [1, 2, 3] (by decide) (pick_cons rfl pick_nil) (pick_cons rfl (pick_cons rfl (pick_cons rfl pick_nil))) (Hn := fun x : Unit => [⟨.pointer (some q6), [(Vl (.int .i64 r7.1)), (Vl (.int .i64 r7.2.1)), (Sl Kf r7.2.2.1), (Vl (.int .i64 r7.2.2.2.1)), (Sl (Ki .i64) r7.2.2.2.2)], 132, none⟩, ⟨.pointer (some q3), [(Vl (.bool false))], 4, none⟩, ⟨.pointer (some q2), [(Vl (.slice none 0 0))], 24, none⟩, ⟨.pointer (some q1), [(Vl (.int .i64 a0_0)), (Vl (.int .i64 a0_1)), (Vl (.int .i64 a0_2)), (Sl Kf a0_3), (Sl (Ki .i64) a0_4), (Sl (Kl (Ki .i64)) a0_5), (Sl KT27 a0_6)], 27, none⟩]) (fun _ => rfl) rfl rfl) (wt_none' rfl) fun ⟨⟩ => ?_
    obtain ⟨r8, hr8, hp⟩ := bind_some hp
    refine sx_ox' (ox_calln' (ent_fn' Try.func29 isn29 rfl rfl) (impl_intss_v2_sim hr8 : Go.Sx.Fn Try.prog 29 [(Vl (.slice none 0 0))] [] (fun x : Unit => (Vl (.slice none 0 0))) (fun x => [])) (Hn := fun x : Unit => [⟨.pointer (some q6), [(Vl (.int .i64 r7.1)), (Vl (.int .i64 r7.2.1)), (Sl Kf r7.2.2.1), (Vl (.int .i64 r7.2.2.2.1)), (Sl (Ki .i64) r7.2.2.2.2)], 132, none⟩, ⟨.pointer (some q3), [(Vl (.bool false))], 4, none⟩, ⟨.pointer (some q2), [(Vl (.slice none 0 0))], 24, none⟩, ⟨.pointer (some q1), [(Vl (.int .i64 a0_0)), (Vl (.int .i64 a0_1)), (Vl (.int .i64 a0_2)), (Sl Kf a0_3), (Sl (Ki .i64) a0_4), (Sl (Kl (Ki .i64)) a0_5), (Sl KT27 a0_6)], 27, none⟩]) (fun _ => rfl) rfl rfl) (wt_none' rfl) fun ⟨⟩ => ?_
    refine sx_ox' (ox_store' (i := 2) (o := 0) rfl rfl (lv_vl rfl rfl) ⟨rfl, rfl, rfl, rfl⟩ rfl info24 rfl (H' := [⟨.pointer (some q6), [(Vl (.int .i64 r7.1)), (Vl (.int .i64 r7.2.1)), (Sl Kf r7.2.2.1), (Vl (.int .i64 r7.2.2.2.1)), (Sl (Ki .i64) r7.2.2.2.2)], 132, none⟩, ⟨.pointer (some q3), [(Vl (.bool false))], 4, none⟩, ⟨.pointer (some q2), [(Vl (.slice none 0 0))], 24, none⟩, ⟨.pointer (some q1), [(Vl (.int .i64 a0_0)), (Vl (.int .i64 a0_1)), (Vl (.int .i64 a0_2)), (Sl Kf a0_3), (Sl (Ki .i64) a0_4), (Sl (Kl (Ki .i64)) a0_5), (Sl KT27 a0_6)], 27, none⟩]) rfl) (wt_none' rfl) fun _ => ?_
    refine sx_ox' (ox_store' (i := 1) (o := 0) rfl rfl (lv_vl rfl rfl) ⟨rfl, rfl, rfl, rfl⟩ rfl info4 rfl (H' := [⟨.pointer (some q6), [(Vl (.int .i64 r7.1)), (Vl (.int .i64 r7.2.1)), (Sl Kf r7.2.2.1), (Vl (.int .i64 r7.2.2.2.1)), (Sl (Ki .i64) r7.2.2.2.2)], 132, none⟩, ⟨.pointer (some q3), [(Vl (.bool true))], 4, none⟩, ⟨.pointer (some q2), [(Vl (.slice none 0 0))], 24, none⟩, ⟨.pointer (some q1), [(Vl (.int .i64 a0_0)), (Vl (.int .i64 a0_1)), (Vl (.int .i64 a0_2)), (Sl Kf a0_3), (Sl (Ki .i64) a0_4), (Sl (Kl (Ki .i64)) a0_5), (Sl KT27 a0_6)], 27, none⟩]) rfl) (wt_none' rfl) fun _ => ?_
    refine sx_nil' ?_
    show TX E K3 _
    refine tx_k' hK3 ?_
    refine cx_retc' ?_
    replace hp := Option.some.inj hp
    subst hp
    refine tx_leave' (.inl rfl) rfl idle28 rfl Try.func28 isn28 rfl ?_
    refine tx_pick' (L' := [(2, (Vl (.pointer (some q2)))), (3, (Vl (.pointer (some q3))))]) (H' := [⟨.pointer (some q2), [(Vl (.slice none 0 0))], 24, none⟩, ⟨.pointer (some q3), [(Vl (.bool true))], 4, none⟩]) [2, 1] (sub_cons rfl (sub_cons rfl sub_nil)) (by decide) (pick_cons rfl (pick_cons rfl pick_nil)) ?_
    exact tx_ret2' Try.results9 rfl () (rv_imp' (x := (Vl (.slice none 0 0))) (y := (Sl (Kl (Ki .i64)) [])) (rv_cell' (i := 0) (o := 0) rfl ⟨rfl, rfl, rfl, rfl⟩ rfl flat24) imp_nil) (rv_cell' (i := 1) (o := 0) rfl ⟨rfl, rfl, rfl, rfl⟩ rfl flat4) rfl (List.nil_sublist _)
  · dsimp only at hp
    refine sx_ox' (ox_calln' (ent_fn' Try.func30 isn30 rfl rfl) (impl_geometry_sim _ _ _ _ _ _ _ hr6 : Go.Sx.Fn Try.prog 30 [(Ag [(Vl (.int .i64 a0_0)), (Vl (.int .i64 a0_1)), (Vl (.int .i64 a0_2)), (Sl Kf a0_3), (Sl (Ki .i64) a0_4), (Sl (Kl (Ki .i64)) a0_5), (Sl KT27 a0_6)])] [] (fun x : Addr × Gs => (If 70 (Vl (.pointer (some x.1))))) (fun x => [⟨.pointer (some x.1), [(Vl (.int .i64 y1.1)), (Vl (.int .i64 y1.2.1)), (Sl Kf y1.2.2.1), (Vl (.int .i64 y1.2.2.2.1)), (Sl (Ki .i64) y1.2.2.2.2)], 136, none⟩])) (Hn := fun x : Addr × Gs => [⟨.pointer (some x.1), [(Vl (.int .i64 y1.1)), (Vl (.int .i64 y1.2.1)), (Sl Kf y1.2.2.1), (Vl (.int .i64 y1.2.2.2.1)), (Sl (Ki .i64) y1.2.2.2.2)], 136, none⟩, ⟨.pointer (some q3), [(Vl (.bool false))], 4, none⟩, ⟨.pointer (some q2), [(Vl (.slice none 0 0))], 24, none⟩, ⟨.pointer (some q1), [(Vl (.int .i64 a0_0)), (Vl (.int .i64 a0_1)), (Vl (.int .i64 a0_2)), (Sl Kf a0_3), (Sl (Ki .i64) a0_4), (Sl (Kl (Ki .i64)) a0_5), (Sl KT27 a0_6)], 27, none⟩]) (fun _ => rfl) rfl rfl) (wt_none' rfl) fun ⟨q6, g6⟩ => ?_
    obtain ⟨r7, hr7, hp⟩ := bind_some hp
    refine sx_ox' (ox_callg' (ent_inv' rfl rfl (inv_ptr0 (inv70_Endss _))) (gogeom_geom0_Endss_v5_sim _ _ _ _ _ hr7 : Go.Sx.Fn Try.prog 132 [(Vl (.pointer (some q6)))] [⟨.pointer (some q6), [(Vl (.int .i64 y1.1)), (Vl (.int .i64 y1.2.1)), (Sl Kf y1.2.2.1), (Vl (.int .i64 y1.2.2.2.1)), (Sl (Ki .i64) y1.2.2.2.2)], 136, none⟩] (fun x : Unit => (Vl (.slice none 0 0))) (fun x => [⟨.pointer (some q6), [(Vl (.int .i64 r7.1)), (Vl (.int .i64 r7.2.1)), (Sl Kf r7.2.2.1), (Vl (.int .i64 r7.2.2.2.1)), (Sl (Ki .i64) r7.2.2.2.2)], 136, none⟩])) [0] [1, 2, 3] (by decide) (pick_cons rfl pick_nil) (pick_cons rfl (pick_cons rfl (pick_cons rfl pick_nil))) (Hn := fun x : Unit => [⟨.pointer (some q6), [(Vl (.int .i64 r7.1)), (Vl (.int .i64 r7.2.1)), (Sl Kf r7.2.2.1), (Vl (.int .i64 r7.2.2.2.1)), (Sl (Ki .i64) r7.2.2.2.2)], 136, none⟩, ⟨.pointer (some q3), [(Vl (.bool false))], 4, none⟩, ⟨.pointer (some q2), [(Vl (.slice none 0 0))], 24, none⟩, ⟨.pointer (some q1), [(Vl (.int .i64 a0_0)), (Vl (.int .i64 a0_1)), (Vl (.int .i64 a0_2)), (Sl Kf a0_3), (Sl (Ki .i64) a0_4), (Sl (Kl (Ki .i64)) a0_5), (Sl KT27 a0_6)], 27, none⟩]) (fun _ => rfl) rfl rfl) (wt_none' rfl) fun ⟨⟩ => ?_
    obtain ⟨r8, hr8, hp⟩ := bind_some hp
    refine sx_ox' (ox_calln' (ent_fn' Try.func29 isn29 rfl rfl) (impl_intss_v2_sim hr8 : Go.Sx.Fn Try.prog 29 [(Vl (.slice none 0 0))] [] (fun x : Unit => (Vl (.slice none 0 0))) (fun x => [])) (Hn := fun x : Unit => [⟨.pointer (some q6), [(Vl (.int .i64 r7.1)), (Vl (.int .i64 r7.2.1)), (Sl Kf r7.2.2.1), (Vl (.int .i64 r7.2.2.2.1)), (Sl (Ki .i64) r7.2.2.2.2)], 136, none⟩, ⟨.pointer (some q3), [(Vl (.bool false))], 4, none⟩, ⟨.pointer (some q2), [(Vl (.slice none 0 0))], 24, none⟩, ⟨.pointer (some q1), [(Vl (.int .i64 a0_0)), (Vl (.int .i64 a0_1)), (Vl (.int .i64 a0_2)), (Sl Kf a0_3), (Sl (Ki .i64) a0_4), (Sl (Kl (Ki .i64)) a0_5), (Sl KT27 a0_6)], 27, none⟩]) (fun _ => rfl) rfl rfl) (wt_none' rfl) fun ⟨⟩ => ?_
    refine sx_ox' (ox_store' (i := 2) (o := 0) rfl rfl (lv_vl rfl rfl) ⟨rfl, rfl, rfl, rfl⟩ rfl info24 rfl (H' := [⟨.pointer (some q6), [(Vl (.int .i64 r7.1)), (Vl (.int .i64 r7.2.1)), (Sl Kf r7.2.2.1), (Vl (.int .i64 r7.2.2.2.1)), (Sl (Ki .i64) r7.2.2.2.2)], 136, none⟩, ⟨.pointer (some q3), [(Vl (.bool false))], 4, none⟩, ⟨.pointer (some q2), [(Vl (.slice none 0 0))], 24, none⟩, ⟨.pointer (some q1), [(Vl (.int .i64 a0_0)), (Vl (.int .i64 a0_1)), (Vl (.int .i64 a0_2)), (Sl Kf a0_3), (Sl (Ki .i64) a0_4), (Sl (Kl (Ki .i64)) a0_5), (Sl KT27 a0_6)], 27, none⟩]) rfl) (wt_none' rfl) fun _ => ?_
    refine sx_ox' (ox_store' (i := 1) (o := 0) rfl rfl (lv_vl rfl rfl) ⟨rfl, rfl, rfl, rfl⟩ rfl info4 rfl (H' := [⟨.pointer (some q6), [(Vl (.int .i64 r7.1)), (Vl (.int .i64 r7.2.1)), (Sl Kf r7.2.2.1), (Vl (.int .i64 r7.2.2.2.1)), (Sl (Ki .i64) r7.2.2.2.2)], 136, none⟩, ⟨.pointer (some q3), [(Vl (.bool true))], 4, none⟩, ⟨.pointer (some q2), [(Vl (.slice none 0 0))], 24, none⟩, ⟨.pointer (some q1), [(Vl (.int .i64 a0_0)), (Vl (.int .i64 a0_1)), (Vl (.int .i64 a0_2)), (Sl Kf a0_3), (Sl (Ki .i64) a0_4), (Sl (Kl (Ki .i64)) a0_5), (Sl KT27 a0_6)], 27, none⟩]) rfl) (wt_none' rfl) fun _ => ?_
    refine sx_nil' ?_
    show TX E K3 _
    refine tx_k' hK3 ?_
    refine cx_retc' ?_
    replace hp := Option.some.inj hp
    subst hp
    refine tx_leave' (.inl rfl) rfl idle28 rfl Try.func28 isn28 rfl ?_
    refine tx_pick' (L' := [(2, (Vl (.pointer (some q2)))), (3, (Vl (.pointer (some q3))))]) (H' := [⟨.pointer (some q2), [(Vl (.slice none 0 0))], 24, none⟩, ⟨.pointer (some q3), [(Vl (.bool true))], 4, none⟩]) [2, 1] (sub_cons rfl (sub_cons rfl sub_nil)) (by decide) (pick_cons rfl (pick_cons rfl pick_nil)) ?_
    exact tx_ret2' Try.results9 rfl () (rv_imp' (x := (Vl (.slice none 0 0))) (y := (Sl (Kl (Ki .i64)) [])) (rv_cell' (i := 0) (o := 0) rfl ⟨rfl, rfl, rfl, rfl⟩ rfl flat24) imp_nil) (rv_cell' (i := 1) (o := 0) rfl ⟨rfl, rfl, rfl, rfl⟩ rfl flat4) rfl (List.nil_sublist _)
  · dsimp only at hp
    refine sx_ox' (ox_calln' (ent_fn' Try.func30 isn30 rfl rfl) (impl_geometry_sim _ _ _ _ _ _ _ hr6 : Go.Sx.Fn Try.prog 30 [(Ag [(Vl (.int .i64 a0_0)), (Vl (.int .i64 a0_1)), (Vl (.int .i64 a0_2)), (Sl Kf a0_3), (Sl (Ki .i64) a0_4), (Sl (Kl (Ki .i64)) a0_5), (Sl KT27 a0_6)])] [] (fun x : Addr × Gs => (If 73 (Vl (.pointer (some x.1))))) (fun x => [⟨.pointer (some x.1), [(Vl (.int .i64 y1.1)), (Vl (.int .i64 y1.2.1)), (Sl Kf y1.2.2.1), (Vl (.int .i64 y1.2.2.2.1)), (Sl (Ki .i64) y1.2.2.2.2)], 139, none⟩])) (Hn := fun x : Addr × Gs => [⟨.pointer (some x.1), [(Vl (.int .i64 y1.1)), (Vl (.int .i64 y1.2.1)), (Sl Kf y1.2.2.1), (Vl (.int .i64 y1.2.2.2.1)), (Sl (Ki .i64) y1.2.2.2.2)], 139, none⟩, ⟨.pointer (some q3), [(Vl (.bool false))], 4, none⟩, ⟨.pointer (some q2), [(Vl (.slice none 0 0))], 24, none⟩, ⟨.pointer (some q1), [(Vl (.int .i64 a0_0)), (Vl (.int .i64 a0_1)), (Vl (.int .i64 a0_2)), (Sl Kf a0_3), (Sl (Ki .i64) a0_4), (Sl (Kl (Ki .i64)) a0_5), (Sl KT27 a0_6)], 27, none⟩]) (fun _ => rfl) rfl rfl) (wt_none' rfl) fun ⟨q6, g6⟩ => ?_
    obtain ⟨r7, hr7, hp⟩ := bind_some hp
    refine sx_ox' (ox_callg' (ent_inv' rfl rfl (inv_ptr0 (inv73_Endss _))) (gogeom_geom0_Endss_v6_sim _ _ _ _ _ hr7 : Go.Sx.Fn Try.prog 132 [(Vl (.pointer (some q6)))] [⟨.pointer (some q6), [(Vl (.int .i64 y1.1)), (Vl (.int .i64 y1.2.1)), (Sl Kf y1.2.2.1), (Vl (.int .i64 y1.2.2.2.1)), (Sl (Ki .i64) y1.2.2.2.2)], 139, none⟩] (fun x : Unit => (Vl (.slice none 0 0))) (fun x => [⟨.pointer (some q6), [(Vl (.int .i64 r7.1)), (Vl (.int .i64 r7.2.1)), (Sl Kf r7.2.2.1), (Vl (.int .i64 r7.2.2.2.1)), (Sl (Ki .i64) r7.2.2.2.2)], 139, none⟩])) [0] [1, 2, 3] (by decide) (pick_cons rfl pick_nil) (pick_cons rfl (pick_cons rfl (pick_cons rfl pick_nil))) (Hn := fun x : Unit => [⟨.pointer (some q6), [(Vl (.int .i64 r7.1)), (Vl (.int .i64 r7.2.1)), (Sl Kf r7.2.2.1), (Vl (.int .i64 r7.2.2.2.1)), (Sl (Ki .i64) r7.2.2.2.2)], 139, none⟩, ⟨.pointer (some q3), [(Vl (.bool false))], 4, none⟩, ⟨.pointer (some q2), [(Vl (.slice none 0 0))], 24, none⟩, ⟨.pointer (some q1), [(Vl (.int .i64 a0_0)), (Vl (.int .i64 a0_1)), (Vl (.int .i64 a0_2)), (Sl Kf a0_3), (Sl (Ki .i64) a0_4), (Sl (Kl (Ki .i64)) a0_5), (Sl KT27 a0_6)], 27, none⟩]) (fun _ => rfl) rfl rfl) (wt_none' rfl) fun ⟨⟩ => ?_
    obtain ⟨r8, hr8, hp⟩ := bind_some hp
    refine sx_ox' (ox_calln' (ent_fn' Try.func29 isn29 rfl rfl) (impl_intss_v2_sim hr8 : Go.Sx.Fn Try.prog 29 [(Vl (.slice none 0 0))] [] (fun x : Unit => (Vl (.slice none 0 0))) (fun x => [])) (Hn := fun x : Unit => [⟨.pointer (some q6), [(Vl (.int .i64 r7.1)), (Vl (.int .i64 r7.2.1)), (Sl Kf r7.2.2.1), (Vl (.int .i64 r7.2.2.2.1)), (Sl (Ki .i64) r7.2.2.2.2)], 139, none⟩, ⟨.pointer (some q3), [(Vl (.bool false))], 4, none⟩, ⟨.pointer (some q2), [(Vl (.slice none 0 0))], 24, none⟩, ⟨.pointer (some q1), [(Vl (.int .i64 a0_0)), (Vl (.int .i64 a0_1)), (Vl (.int .i64 a0_2)), (Sl Kf a0_3), (Sl (Ki .i64) a0_4), (Sl (Kl (Ki .i64)) a0_5), (Sl KT27 a0_6)], 27, none⟩]) (fun _ => rfl) rfl rfl) (wt_none' rfl) fun ⟨⟩ => ?_
    refine sx_ox' (ox_store' (i := 2) (o := 0) rfl rfl (lv_vl rfl rfl) ⟨rfl, rfl, rfl, rfl⟩ rfl info24 rfl (H' := [⟨.pointer (some q6), [(Vl (.int .i64 r7.1)), (Vl (.int .i64 r7.2.1)), (Sl Kf r7.2.2.1), (Vl (.int .i64 r7.2.2.2.1)), (Sl (Ki .i64) r7.2.2.2.2)], 139, none⟩, ⟨.pointer (some q3), [(Vl (.bool false))], 4, none⟩, ⟨.pointer (some q2), [(Vl (.slice none 0 0))], 24, none⟩, ⟨.pointer (some q1), [(Vl (.int .i64 a0_0)), (Vl (.int .i64 a0_1)), (Vl (.int .i64 a0_2)), (Sl Kf a0_3), (Sl (Ki .i64) a0_4), (Sl (Kl (Ki .i64)) a0_5), (Sl KT27 a0_6)], 27, none⟩]) rfl) (wt_none' rfl) fun _ => ?_
    refine sx_ox' (ox_store' (i := 1) (o := 0) rfl rfl (lv_vl rfl rfl) ⟨rfl, rfl, rfl, rfl⟩ rfl info4 rfl (H' := [⟨.pointer (some q6), [(Vl (.int .i64 r7.1)), (Vl (.int .i64 r7.2.1)), (Sl Kf r7.2.2.1), (Vl (.int .i64 r7.2.2.2.1)), (Sl (Ki .i64) r7.2.2.2.2)], 139, none⟩, ⟨.pointer (some q3), [(Vl (.bool true))], 4, none⟩, ⟨.pointer (some q2), [(Vl (.slice none 0 0))], 24, none⟩, ⟨.pointer (some q1), [(Vl (.int .i64 a0_0)), (Vl (.int .i64 a0_1)), (Vl (.int .i64 a0_2)), (Sl Kf a0_3), (Sl (Ki .i64) a0_4), (Sl (Kl (Ki .i64)) a0_5), (Sl KT27 a0_6)], 27, none⟩]) rfl) (wt_none' rfl) fun _ => ?_
    refine sx_nil' ?_
    show TX E K3 _
    refine tx_k' hK3 ?_
    refine cx_retc' ?_
    replace hp := Option.some.inj hp
    subst hp
    refine tx_leave' (.inl rfl) rfl idle28 rfl Try.func28 isn28 rfl ?_
    refine tx_pick' (L' := [(2, (Vl (.pointer (some q2)))), (3, (Vl (.pointer (some q3))))]) (H' := [⟨.pointer (some q2), [(Vl (.slice none 0 0))], 24, none⟩, ⟨.pointer (some q3), [(Vl (.bool true))], 4, none⟩]) [2, 1] (sub_cons rfl (sub_cons rfl sub_nil)) (by decide) (pick_cons rfl (pick_cons rfl pick_nil)) ?_
    exact tx_ret2' Try.results9 rfl () (rv_imp' (x := (Vl (.slice none 0 0))) (y := (Sl (Kl (Ki .i64)) [])) (rv_cell' (i := 0) (o := 0) rfl ⟨rfl, rfl, rfl, rfl⟩ rfl flat24) imp_nil) (rv_cell' (i := 1) (o := 0) rfl ⟨rfl, rfl, rfl, rfl⟩ rfl flat4) rfl (List.nil_sublist _)
  · dsimp only at hp
    refine sx_ox' (ox_calln' (ent_fn' Try.func30 isn30 rfl rfl) (impl_geometry_sim _ _ _ _ _ _ _ hr6 : Go.Sx.Fn Try.prog 30 [(Ag [(Vl (.int .i64 a0_0)), (Vl (.int .i64 a0_1)), (Vl (.int .i64 a0_2)), (Sl Kf a0_3), (Sl (Ki .i64) a0_4), (Sl (Kl (Ki .i64)) a0_5), (Sl KT27 a0_6)])] [] (fun x : Addr × Gs => (If 76 (Vl (.pointer (some x.1))))) (fun x => [⟨.pointer (some x.1), [(Vl (.int .i64 y1.1)), (Vl (.int .i64 y1.2.1)), (Sl Kf y1.2.2.1), (Vl (.int .i64 y1.2.2.2.1)), (Sl (Kl (Ki .i64)) y1.2.2.2.2)], 143, none⟩])) (Hn := fun x : Addr × Gs => [⟨.pointer (some x.1), [(Vl (.int .i64 y1.1)), (Vl (.int .i64 y1.2.1)), (Sl Kf y1.2.2.1), (Vl (.int .i64 y1.2.2.2.1)), (Sl (Kl (Ki .i64)) y1.2.2.2.2)], 143, none⟩, ⟨.pointer (some q3), [(Vl (.bool false))], 4, none⟩, ⟨.pointer (some q2), [(Vl (.slice none 0 0))], 24, none⟩, ⟨.pointer (some q1), [(Vl (.int .i64 a0_0)), (Vl (.int .i64 a0_1)), (Vl (.int .i64 a0_2)), (Sl Kf a0_3), (Sl (Ki .i64) a0_4), (Sl (Kl (Ki .i64)) a0_5), (Sl KT27 a0_6)], 27, none⟩]) (fun _ => rfl) rfl rfl) (wt_none' rfl) fun ⟨q6, g6⟩ => ?_
    obtain ⟨r7, hr7, hp⟩ := bind_some hp
    refine sx_ox' (ox_callg' (ent_inv' rfl rfl (inv_ptr0 (inv76_Endss _))) (gogeom_geom3_Endss_sim _ _ _ _ _ hr7 : Go.Sx.Fn Try.prog 141 [(Vl (.pointer (some q6)))] [⟨.pointer (some q6), [(Vl (.int .i64 y1.1)), (Vl (.int .i64 y1.2.1)), (Sl Kf y1.2.2.1), (Vl (.int .i64 y1.2.2.2.1)), (Sl (Kl (Ki .i64)) y1.2.2.2.2)], 143, none⟩] (fun x : Unit => (Sl (Kl (Ki .i64)) r7.2.2.2.2)) (fun x => [⟨.pointer (some q6), [(Vl (.int .i64 r7.1)), (Vl (.int .i64 r7.2.1)), (Sl Kf r7.2.2.1), (Vl (.int .i64 r7.2.2.2.1)), (Sl (Kl (Ki .i64)) r7.2.2.2.2)], 143, none⟩])) [0] [1, 2, 3] (by decide) (pick_cons rfl pick_nil) (pick_cons rfl (pick_cons rfl (pick_cons rfl pick_nil))) (Hn := fun x : Unit => [⟨.pointer (some q6), [(Vl (.int .i64 r7.1)), (Vl (.int .i64 r7.2.1)), (Sl Kf r7.2.2.1), (Vl (.int .i64 r7.2.2.2.1)), (Sl (Kl (Ki .i64)) r7.2.2.2.2)], 143, none⟩, ⟨.pointer (some q3), [(Vl (.bool false))], 4, none⟩, ⟨.pointer (some q2), [(Vl (.slice none 0 0))], 24, none⟩, ⟨.pointer (some q1), [(Vl (.int .i64 a0_0)), (Vl (.int .i64 a0_1)), (Vl (.int .i64 a0_2)), (Sl Kf a0_3), (Sl (Ki .i64) a0_4), (Sl (Kl (Ki .i64)) a0_5), (Sl KT27 a0_6)], 27, none⟩]) (fun _ => rfl) rfl rfl) (wt_none' rfl) fun ⟨⟩ => ?_
    obtain ⟨r8, hr8, hp⟩ := bind_some hp
    refine sx_ox' (ox_calln' (ent_fn' Try.func29 isn29 rfl rfl) (impl_intss_sim _ hr8 : Go.Sx.Fn Try.prog 29 [(Sl (Kl (Ki .i64)) r7.2.2.2.2)] [] (fun x : Unit => (Sl (Kl (Ki .i64)) r8)) (fun x => [])) (Hn := fun x : Unit => [⟨.pointer (some q6), [(Vl (.int .i64 r7.1)), (Vl (.int .i64 r7.2.1)), (Sl Kf r7.2.2.1), (Vl (.int .i64 r7.2.2.2.1)), (Sl (Kl (Ki .i64)) r7.2.2.2.2)], 143, none⟩, ⟨.pointer (some q3), [(Vl (.bool false))], 4, none⟩, ⟨.pointer (some q2), [(Vl (.slice none 0 0))], 24, none⟩, ⟨.pointer (some q1), [(Vl (.int .i64 a0_0)), (Vl (.int .i64 a0_1)), (Vl (.int .i64 a0_2)), (Sl Kf a0_3), (Sl (Ki .i64) a0_4), (Sl (Kl (Ki .i64)) a0_5), (Sl KT27 a0_6)], 27, none⟩]) (fun _ => rfl) rfl rfl) (wt_none' rfl) fun ⟨⟩ => ?_
    refine sx_ox' (ox_store' (i := 2) (o := 0) rfl rfl (lv_sl _ _) ⟨rfl, rfl, rfl, rfl⟩ rfl info24 rfl (H' := [⟨.pointer (some q6), [(Vl (.int .i64 r7.1)), (Vl (.int .i64 r7.2.1)), (Sl Kf r7.2.2.1), (Vl (.int .i64 r7.2.2.2.1)), (Sl (Kl (Ki .i64)) r7.2.2.2.2)], 143, none⟩, ⟨.pointer (some q3), [(Vl (.bool false))], 4, none⟩, ⟨.pointer (some q2), [(Sl (Kl (Ki .i64)) r8)], 24, none⟩, ⟨.pointer (some q1), [(Vl (.int .i64 a0_0)), (Vl (.int .i64 a0_1)), (Vl (.int .i64 a0_2)), (Sl Kf a0_3), (Sl (Ki .i64) a0_4), (Sl (Kl (Ki .i64)) a0_5), (Sl KT27 a0_6)], 27, none⟩]) rfl) (wt_none' rfl) fun _ => ?_
    refine sx_ox' (ox_store' (i := 1) (o := 0) rfl rfl (lv_vl rfl rfl) ⟨rfl, rfl, rfl, rfl⟩ rfl info4 rfl (H' := [⟨.pointer (some q6), [(Vl (.int .i64 r7.1)), (Vl (.int .i64 r7.2.1)), (Sl Kf r7.2.2.1), (Vl (.int .i64 r7.2.2.2.1)), (Sl (Kl (Ki .i64)) r7.2.2.2.2)], 143, none⟩, ⟨.pointer (some q3), [(Vl (.bool true))], 4, none⟩, ⟨.pointer (some q2), [(Sl (Kl (Ki .i64)) r8)], 24, none⟩, ⟨.pointer (some q1), [(Vl (.int .i64 a0_0)), (Vl (.int .i64 a0_1)), (Vl (.int .i64 a0_2)), (Sl Kf a0_3), (Sl (Ki .i64) a0_4), (Sl (Kl (Ki .i64)) a0_5), (Sl KT27 a0_6)], 27, none⟩]) rfl) (wt_none' rfl) fun _ => ?_
    refine sx_nil' ?_
    show TX E K3 _
    refine tx_k' hK3 ?_
    refine cx_retc' ?_
    replace hp := Option.some.inj hp
    subst hp
    refine tx_leave' (.inl rfl) rfl idle28 rfl Try.func28 isn28 rfl ?_
    refine tx_pick' (L' := [(2, (Vl (.pointer (some q2)))), (3, (Vl (.pointer (some q3))))]) (H' := [⟨.pointer (some q2), [(Sl (Kl (Ki .i64)) r8)], 24, none⟩, ⟨.pointer (some q3), [(Vl (.bool true))], 4, none⟩]) [2, 1] (sub_cons rfl (sub_cons rfl sub_nil)) (by decide) (pick_cons rfl (pick_cons rfl pick_nil)) ?_
    exact tx_ret2' Try.results9 rfl () (rv_cell' (i := 0) (o := 0) rfl ⟨rfl, rfl, rfl, rfl⟩ rfl flat24) (rv_cell' (i := 1) (o := 0) rfl ⟨rfl, rfl, rfl, rfl⟩ rfl flat4) rfl (List.nil_sublist _)
  · dsimp only at hp
    refine sx_ox' (ox_calln' (ent_fn' Try.func30 isn30 rfl rfl) (impl_geometry_sim _ _ _ _ _ _ _ hr6 : Go.Sx.Fn Try.prog 30 [(Ag [(Vl (.int .i64 a0_0)), (Vl (.int .i64 a0_1)), (Vl (.int .i64 a0_2)), (Sl Kf a0_3), (Sl (Ki .i64) a0_4), (Sl (Kl (Ki .i64)) a0_5), (Sl KT27 a0_6)])] [] (fun x : Addr × Gs => (If 57 (Vl (.pointer (some x.1))))) (fun x => [⟨.pointer (some x.1), [(Vl (.int .i64 y1.1)), (Vl (Vs x.2)), (Vl (.int .i64 y1.2.2))], 114, none⟩, (Rw KG53 53 (Vs x.2) y1.2.1)])) (Hn := fun x : Addr × Gs => [⟨.pointer (some x.1), [(Vl (.int .i64 y1.1)), (Vl (Vs x.2)), (Vl (.int .i64 y1.2.2))], 114, none⟩, (Rw KG53 53 (Vs x.2) y1.2.1), ⟨.pointer (some q3), [(Vl (.bool false))], 4, none⟩, ⟨.pointer (some q2), [(Vl (.slice none 0 0))], 24, none⟩, ⟨.pointer (some q1), [(Vl (.int .i64 a0_0)), (Vl (.int .i64 a0_1)), (Vl (.int .i64 a0_2)), (Sl Kf a0_3), (Sl (Ki .i64) a0_4), (Sl (Kl (Ki .i64)) a0_5), (Sl KT27 a0_6)], 27, none⟩]) (fun _ => rfl) rfl rfl) (wt_none' rfl) fun ⟨q6, g6⟩ => ?_
    obtain ⟨r7, hr7, hp⟩ := bind_some hp
    obtain ⟨r951, hr951, hp⟩ := bind_some hp
    refine sx_callp' (ent_inv' rfl rfl (inv_any0 inv57_Endss)) (gogeom_GeometryCollection_Endss_sim _ _ _ hr7 : Go.Sx.Fx Try.prog 123 [(Vl (.pointer (some q6)))] [⟨.pointer (some q6), [(Vl (.int .i64 y1.1)), (Vl (Vs g6)), (Vl (.int .i64 y1.2.2))], 114, none⟩, (Rw KG53 53 (Vs g6) y1.2.1)] true (fun x : Unit => (Vl undef)) (fun x => [])) [0, 1] [2, 3, 4] (by decide) (pick_cons rfl (pick_cons rfl pick_nil)) (pick_cons rfl (pick_cons rfl (pick_cons rfl pick_nil))) (wt_none' rfl) ?_
    show PanQ E (bodyPostD _ _ (PostE E _ _)) _
    refine tx_caught' rfl (impl_EndssOf_1_sim _ hr951 : Go.Sx.Catch Try.prog 28 ([.pointer (some q2), .pointer (some q3)].map Vl) [⟨.pointer (some q2), [(Vl (.slice none 0 0))], 24, none⟩, ⟨.pointer (some q3), [(Vl (.bool false))], 4, none⟩] [⟨.pointer (some q2), [(Vl (.slice none 0 0))], 24, none⟩, ⟨.pointer (some q3), [(Vl (.bool r951))], 4, none⟩]) Try.func28 isn28 rfl [1, 0] [2] (by decide) (pick_cons rfl (pick_cons rfl pick_nil)) (pick_cons rfl pick_nil) ?_
    replace hp := Option.some.inj hp
    subst hp
    refine tx_pick' (L' := [(2, (Vl (.pointer (some q2)))), (3, (Vl (.pointer (some q3))))]) (H' := [⟨.pointer (some q2), [(Vl (.slice none 0 0))], 24, none⟩, ⟨.pointer (some q3), [(Vl (.bool r951))], 4, none⟩]) [0, 1] (sub_cons rfl (sub_cons rfl sub_nil)) (by decide) (pick_cons rfl (pick_cons rfl pick_nil)) ?_
    exact tx_ret2' Try.results9 rfl () (rv_imp' (x := (Vl (.slice none 0 0))) (y := (Sl (Kl (Ki .i64)) [])) (rv_cell' (i := 0) (o := 0) rfl ⟨rfl, rfl, rfl, rfl⟩ rfl flat24) imp_nil) (rv_cell' (i := 1) (o := 0) rfl ⟨rfl, rfl, rfl, rfl⟩ rfl flat4) rfl (List.nil_sublist _)

def impl_ints_v2 (k : Nat)  : Option ((List Int)) :=
  (apd 8 [] []) >>= fun r4 =>
  some r4

theorem impl_ints_v2_sim {k : Nat}   {out : (List Int)} (hp : impl_ints_v2 k = some out) : Go.Sx.Fn Try.prog 58 [(Vl (.slice none 0 0))] [] (fun w : Unit => (Sl (Ki .i64) out)) (fun w => []) := by
  unfold impl_ints_v2 at hp
  refine fn_of Try.func58 rfl Try.ntmps58 rfl fun E hM => ?_
  refine cx_seq' fun K1 hK1 => ?_
  refine cx_region' ?_
  refine sx_rd' (rd_assign' rfl) rfl rfl (wt_none' rfl) ?_
  refine sx_nil' ?_
  show TX E K1 _
  refine tx_k' hK1 ?_
  refine cx_seq' fun K2 hK2 => ?_
  refine cx_region' ?_
  refine sx_rd' (rd_move' rfl) rfl rfl (wt_none' rfl) ?_
  refine tx_nilrow' (Ki .i64) 3 ?_
  obtain ⟨r4, hr4, hp⟩ := bind_some hp
  refine sx_ox' (ox_append' (K := (Ki .i64)) (i := 0) (xs := []) (ys := []) rfl rfl rfl (sr_nil' rfl Try.underlying23) hr4 Try.underlying23 info3 rfl rfl rfl (H' := []) rfl) (wt_none' rfl) fun g4 => ?_
  refine sx_rd' (rd_assign' rfl) rfl rfl (wt_none' rfl) ?_
  refine sx_nil' ?_
  show TX E K2 _
  refine tx_k' hK2 ?_
  refine cx_retc' ?_
  replace hp := Option.some.inj hp
  subst hp
  refine tx_fz' (frz_row 0 [(2, (Vl (Vs g4)), (Sl (Ki .i64) r4)), (4, (Vl (Vs g4)), (Sl (Ki .i64) r4))] (K := (Ki .i64)) (xs := r4) (by decide) rfl ⟨⟨rfl, frz_it⟩, ⟨rfl, frz_it⟩, trivial⟩ (H' := []) frzH_refl) ?_
  refine tx_pick' (L' := [(2, (Sl (Ki .i64) r4))]) (H' := []) [] (sub_cons rfl sub_nil) (by decide) pick_nil ?_
  exact tx_ret1' Try.results58 rfl () (rv_tmp' rfl) (List.Sublist.refl _)

def gogeom_NewMultiPolygonFlat_v2 (k : Nat) (a0 : Int) (a1 : List Nat) : Option (Int × Int × (List Nat) × Int) :=
  (gogeom_Layout_Stride k a0) >>= fun r18 =>
  some (a0, r18, a1, 0)

theorem gogeom_NewMultiPolygonFlat_v2_sim {k : Nat}  (a0 : Int) (a1 : List Nat) {out : Int × Int × (List Nat) × Int} (hp : gogeom_NewMultiPolygonFlat_v2 k a0 a1 = some out) : Go.Sx.Fn Try.prog 73 [(Vl (.int .i64 a0)), (Sl Kf a1), (Vl (.slice none 0 0))] [] (fun w : Addr => (Vl (.pointer (some w)))) (fun w => [⟨.pointer (some w), [(Vl (.int .i64 out.1)), (Vl (.int .i64 out.2.1)), (Sl Kf out.2.2.1), (Vl (.int .i64 out.2.2.2)), (Vl (.slice none 0 0))], 143, none⟩]) := by
  unfold gogeom_NewMultiPolygonFlat_v2 at hp
  refine fn_of Try.func73 rfl Try.ntmps73 rfl fun E hM => ?_
  refine cx_seq' fun K1 hK1 => ?_
  refine cx_region' ?_
  refine sx_rd' (rd_assign' rfl) rfl rfl (wt_none' rfl) ?_
  refine sx_nil' ?_
  show TX E K1 _
  refine tx_k' hK1 ?_
  refine cx_seq' fun K2 hK2 => ?_
  refine cx_region' ?_
  refine sx_ox' (ox_alloc' info143 rfl rfl rfl rfl (l := [(Vl (.int .i64 0)), (Vl (.int .i64 0)), (Vl (.slice none 0 0)), (Vl (.int .i64 0)), (Vl (.slice none 0 0))]) rfl) (wt_none' rfl) fun q8 => ?_
  refine sx_rd' (rd_assign' rfl) rfl rfl (wt_none' rfl) ?_
  refine sx_nil' ?_
  show TX E K2 _
  refine tx_k' hK2 ?_
  refine cx_seq' fun K3 hK3 => ?_
  refine cx_region' ?_
  refine sx_rd' (rd_move' rfl) rfl rfl (wt_none' rfl) ?_
  refine sx_rd' (rd_move' rfl) rfl rfl (wt_none' rfl) ?_
  refine sx_rd' (rd_nilck' rfl) rfl rfl (wt_none' rfl) ?_
  refine sx_rd' (rd_field0' rfl Try.underlying143 rfl info141 rfl) rfl rfl (wt_none' rfl) ?_
  refine sx_rd' (rd_field0' rfl Try.underlying141 rfl info126 rfl) rfl rfl (wt_none' rfl) ?_
  refine sx_rd' (rd_field0' rfl Try.underlying126 rfl info124 rfl) rfl rfl (wt_none' rfl) ?_
  refine sx_rd' (rd_field0' rfl Try.underlying124 rfl info61 rfl) rfl rfl (wt_none' rfl) ?_
  refine sx_ox' (ox_store' (i := 0) (o := 0) rfl rfl (lv_vl rfl rfl) ⟨rfl, rfl, rfl, rfl⟩ rfl info61 rfl (H' := [⟨.pointer (some q8), [(Vl (.int .i64 a0)), (Vl (.int .i64 0)), (Vl (.slice none 0 0)), (Vl (.int .i64 0)), (Vl (.slice none 0 0))], 143, none⟩]) rfl) (wt_none' rfl) fun _ => ?_
  refine sx_nil' ?_
  show TX E K3 _
  refine tx_k' hK3 ?_
  refine cx_seq' fun K4 hK4 => ?_
  refine cx_region' ?_
  refine sx_rd' (rd_move' rfl) rfl rfl (wt_none' rfl) ?_
  refine sx_rd' (rd_move' rfl) rfl rfl (wt_none' rfl) ?_
  obtain ⟨r18, hr18, hp⟩ := bind_some hp
  refine sx_ox' (ox_calln' (ent_fn' Try.func89 isn89 rfl rfl) (gogeom_Layout_Stride_sim _ hr18 : Go.Sx.Fn Try.prog 89 [(Vl (.int .i64 a0))] [] (fun x : Unit => (Vl (.int .i64 r18))) (fun x => [])) (Hn := fun x : Unit => [⟨.pointer (some q8), [(Vl (.int .i64 a0)), (Vl (.int .i64 0)), (Vl (.slice none 0 0)), (Vl (.int .i64 0)), (Vl (.slice none 0 0))], 143, none⟩]) (fun _ => rfl) rfl rfl) (wt_none' rfl) fun ⟨⟩ => ?_
  refine sx_rd' (rd_nilck' rfl) rfl rfl (wt_none' rfl) ?_
  refine sx_rd' (rd_field0' rfl Try.underlying143 rfl info141 rfl) rfl rfl (wt_none' rfl) ?_
  refine sx_rd' (rd_field0' rfl Try.underlying141 rfl info126 rfl) rfl rfl (wt_none' rfl) ?_
  refine sx_rd' (rd_field0' rfl Try.underlying126 rfl info124 rfl) rfl rfl (wt_none' rfl) ?_
  refine sx_rd' (rd_field' (off := 1) rfl Try.underlying124 rfl info3 rfl) rfl rfl (wt_none' rfl) ?_
  refine sx_ox' (ox_store' (i := 0) (o := 1) rfl rfl (lv_vl rfl rfl) ⟨rfl, rfl, rfl, rfl⟩ rfl info3 rfl (H' := [⟨.pointer (some q8), [(Vl (.int .i64 a0)), (Vl (.int .i64 r18)), (Vl (.slice none 0 0)), (Vl (.int .i64 0)), (Vl (.slice none 0 0))], 143, none⟩]) rfl) (wt_none' rfl) fun _ => ?_
  refine sx_nil' ?_
  show TX E K4 _
  refine tx_k' hK4 ?_
  refine cx_seq' fun K5 hK5 => ?_
  refine cx_region' ?_
  refine sx_rd' (rd_move' rfl) rfl rfl (wt_none' rfl) ?_
  refine sx_rd' (rd_move' rfl) rfl rfl (wt_none' rfl) ?_
  refine sx_rd' (rd_nilck' rfl) rfl rfl (wt_none' rfl) ?_
  refine sx_rd' (rd_field0' rfl Try.underlying143 rfl info141 rfl) rfl rfl (wt_none' rfl) ?_
  refine sx_rd' (rd_field0' rfl Try.underlying141 rfl info126 rfl) rfl rfl (wt_none' rfl) ?_
  refine sx_rd' (rd_field0' rfl Try.underlying126 rfl info124 rfl) rfl rfl (wt_none' rfl) ?_
  refine sx_rd' (rd_field' (off := 2) rfl Try.underlying124 rfl info22 rfl) rfl rfl (wt_none' rfl) ?_
  refine sx_ox' (ox_store' (i := 0) (o := 2) rfl rfl (lv_sl _ _) ⟨rfl, rfl, rfl, rfl⟩ rfl info22 rfl (H' := [⟨.pointer (some q8), [(Vl (.int .i64 a0)), (Vl (.int .i64 r18)), (Sl Kf a1), (Vl (.int .i64 0)), (Vl (.slice none 0 0))], 143, none⟩]) rfl) (wt_none' rfl) fun _ => ?_
  refine sx_nil' ?_
  show TX E K5 _
  refine tx_k' hK5 ?_
  refine cx_seq' fun K6 hK6 => ?_
  refine cx_region' ?_
  refine sx_rd' (rd_move' rfl) rfl rfl (wt_none' rfl) ?_
  refine sx_rd' (rd_move' rfl) rfl rfl (wt_none' rfl) ?_
  refine sx_rd' (rd_nilck' rfl) rfl rfl (wt_none' rfl) ?_
  refine sx_rd' (rd_field0' rfl Try.underlying143 rfl info141 rfl) rfl rfl (wt_none' rfl) ?_
  refine sx_rd' (rd_field' (off := 4) rfl Try.underlying141 rfl info24 rfl) rfl rfl (wt_none' rfl) ?_
  refine sx_ox' (ox_store' (i := 0) (o := 4) rfl rfl (lv_vl rfl rfl) ⟨rfl, rfl, rfl, rfl⟩ rfl info24 rfl (H' := [⟨.pointer (some q8), [(Vl (.int .i64 a0)), (Vl (.int .i64 r18)), (Sl Kf a1), (Vl (.int .i64 0)), (Vl (.slice none 0 0))], 143, none⟩]) rfl) (wt_none' rfl) fun _ => ?_
  refine sx_nil' ?_
  show TX E K6 _
  refine tx_k' hK6 ?_
  refine cx_seq' fun K7 hK7 => ?_
  refine cx_region' ?_
  refine sx_rd' (rd_move' rfl) rfl rfl (wt_none' rfl) ?_
  refine sx_rd' (rd_assign' rfl) rfl rfl (wt_none' rfl) ?_
  refine sx_nil' ?_
  show TX E K7 _
  refine tx_k' hK7 ?_
  refine cx_retc' ?_
  replace hp := Option.some.inj hp
  subst hp
  refine tx_pick' (L' := [(6, (Vl (.pointer (some q8))))]) (H' := [⟨.pointer (some q8), [(Vl (.int .i64 a0)), (Vl (.int .i64 r18)), (Sl Kf a1), (Vl (.int .i64 0)), (Vl (.slice none 0 0))], 143, none⟩]) [0] (sub_cons rfl sub_nil) (by decide) (pick_cons rfl pick_nil) ?_
  exact tx_ret1' Try.results73 rfl q8 (rv_tmp' rfl) (List.Sublist.refl _)

def gogeom_MultiPolygon_SetSRID_v2 (k : Nat) (a0_0 : Int) (a0_1 : Int) (a0_2 : List Nat) (a0_3 : Int) (a1 : Int) : Option (Int × Int × (List Nat) × Int) :=
  some (a0_0, a0_1, a0_2, a1)

theorem gogeom_MultiPolygon_SetSRID_v2_sim {k : Nat} {wa0 : Addr} (a0_0 : Int) (a0_1 : Int) (a0_2 : List Nat) (a0_3 : Int) (a1 : Int) {out : Int × Int × (List Nat) × Int} (hp : gogeom_MultiPolygon_SetSRID_v2 k a0_0 a0_1 a0_2 a0_3 a1 = some out) : Go.Sx.Fn Try.prog 74 [(Vl (.pointer (some wa0))), (Vl (.int .i64 a1))] [⟨.pointer (some wa0), [(Vl (.int .i64 a0_0)), (Vl (.int .i64 a0_1)), (Sl Kf a0_2), (Vl (.int .i64 a0_3)), (Vl (.slice none 0 0))], 143, none⟩] (fun w : Unit => (Vl (.pointer (some wa0)))) (fun w => [⟨.pointer (some wa0), [(Vl (.int .i64 out.1)), (Vl (.int .i64 out.2.1)), (Sl Kf out.2.2.1), (Vl (.int .i64 out.2.2.2)), (Vl (.slice none 0 0))], 143, none⟩]) := by
  unfold gogeom_MultiPolygon_SetSRID_v2 at hp
  refine fn_of Try.func74 rfl Try.ntmps74 rfl fun E hM => ?_
  refine cx_seq' fun K1 hK1 => ?_
  refine cx_region' ?_
  refine sx_rd' (rd_assign' rfl) rfl rfl (wt_none' rfl) ?_
  refine sx_nil' ?_
  show TX E K1 _
  refine tx_k' hK1 ?_
  refine cx_seq' fun K2 hK2 => ?_
  refine cx_region' ?_
  refine sx_rd' (rd_move' rfl) rfl rfl (wt_none' rfl) ?_
  refine sx_rd' (rd_move' rfl) rfl rfl (wt_none' rfl) ?_
  refine sx_rd' (rd_nilck' rfl) rfl rfl (wt_none' rfl) ?_
  refine sx_rd' (rd_field0' rfl Try.underlying143 rfl info141 rfl) rfl rfl (wt_none' rfl) ?_
  refine sx_rd' (rd_field0' rfl Try.underlying141 rfl info126 rfl) rfl rfl (wt_none' rfl) ?_
  refine sx_rd' (rd_field0' rfl Try.underlying126 rfl info124 rfl) rfl rfl (wt_none' rfl) ?_
  refine sx_rd' (rd_field' (off := 3) rfl Try.underlying124 rfl info3 rfl) rfl rfl (wt_none' rfl) ?_
  refine sx_ox' (ox_store' (i := 0) (o := 3) rfl rfl (lv_vl rfl rfl) ⟨rfl, rfl, rfl, rfl⟩ rfl info3 rfl (H' := [⟨.pointer (some wa0), [(Vl (.int .i64 a0_0)), (Vl (.int .i64 a0_1)), (Sl Kf a0_2), (Vl (.int .i64 a1)), (Vl (.slice none 0 0))], 143, none⟩]) rfl) (wt_none' rfl) fun _ => ?_
  refine sx_nil' ?_
  show TX E K2 _
  refine tx_k' hK2 ?_
  refine cx_seq' fun K3 hK3 => ?_
  refine cx_region' ?_
  refine sx_rd' (rd_move' rfl) rfl rfl (wt_none' rfl) ?_
  refine sx_rd' (rd_assign' rfl) rfl rfl (wt_none' rfl) ?_
  refine sx_nil' ?_
  show TX E K3 _
  refine tx_k' hK3 ?_
  refine cx_retc' ?_
  replace hp := Option.some.inj hp
  subst hp
  refine tx_pick' (L' := [(4, (Vl (.pointer (some wa0))))]) (H' := [⟨.pointer (some wa0), [(Vl (.int .i64 a0_0)), (Vl (.int .i64 a0_1)), (Sl Kf a0_2), (Vl (.int .i64 a1)), (Vl (.slice none 0 0))], 143, none⟩]) [0] (sub_cons rfl sub_nil) (by decide) (pick_cons rfl pick_nil) ?_
  exact tx_ret1' Try.results74 rfl () (rv_tmp' rfl) (List.Sublist.refl _)

def impl_geometry_v2 (k : Nat) (a0_0 : Int) (a0_1 : Int) (a0_2 : Int) (a0_3 : List Nat) : Option ((Int × Int × (List Nat) × Int) ⊕ ((Int × Int × (List Nat) × Int) ⊕ ((Int × Int × (List Nat) × Int) ⊕ ((Int × Int × (List Nat) × Int × (List Int)) ⊕ ((Int × Int × (List Nat) × Int × (List Int)) ⊕ ((Int × Int × (List Nat) × Int × (List Int)) ⊕ ((Int × Int × (List Nat) × Int) ⊕ (Int × Int)))))))) :=
  (impl_floats k a0_3) >>= fun r12 =>
  br (decide (a0_0 = 1))
    ((gogeom_NewPointFlat k a0_1 r12) >>= fun r19 =>
    (gogeom_Point_SetSRID k r19.1 r19.2.1 r19.2.2.1 r19.2.2.2 a0_2) >>= fun r22 =>
    some (.inl (r22.1, r22.2.1, r22.2.2.1, r22.2.2.2)))
    (br (decide (a0_0 = 2))
      ((gogeom_NewLineStringFlat k a0_1 r12) >>= fun r28 =>
      (gogeom_LineString_SetSRID k r28.1 r28.2.1 r28.2.2.1 r28.2.2.2 a0_2) >>= fun r31 =>
      some (.inr (.inl (r31.1, r31.2.1, r31.2.2.1, r31.2.2.2))))
      (br (decide (a0_0 = 8))
        ((gogeom_NewLinearRingFlat k a0_1 r12) >>= fun r37 =>
        (gogeom_LinearRing_SetSRID k r37.1 r37.2.1 r37.2.2.1 r37.2.2.2 a0_2) >>= fun r40 =>
        some (.inr (.inr (.inl (r40.1, r40.2.1, r40.2.2.1, r40.2.2.2)))))
        (br (decide (a0_0 = 3))
          ((impl_ints_v2 k) >>= fun r48 =>
          (gogeom_NewPolygonFlat_v2 k a0_1 r12 r48) >>= fun r49 =>
          (gogeom_Polygon_SetSRID_v2 k r49.1 r49.2.1 r49.2.2.1 r49.2.2.2.1 r49.2.2.2.2 a0_2) >>= fun r52 =>
          some (.inr (.inr (.inr (.inl (r52.1, r52.2.1, r52.2.2.1, r52.2.2.2.1, r52.2.2.2.2))))))
          (br (decide (a0_0 = 4))
            ((impl_ints_v2 k) >>= fun r60 =>
            (gogeom_NewMultiPointFlatOptionWithEnds_v2 k r60) >>= fun r61 =>
            (gogeom_NewMultiPointFlat_v2 k a0_1 r12 r61) >>= fun r63 =>
            (gogeom_MultiPoint_SetSRID_v2 k r63.2.1 r63.2.2.1 r63.2.2.2.1 r63.2.2.2.2 r63.1 a0_2) >>= fun r66 =>
            some (.inr (.inr (.inr (.inr (.inl (r66.1, r66.2.1, r66.2.2.1, r66.2.2.2.1, r66.2.2.2.2)))))))
            (br (decide (a0_0 = 5))
              ((impl_ints_v2 k) >>= fun r74 =>
              (gogeom_NewMultiLineStringFlat_v2 k a0_1 r12 r74) >>= fun r75 =>
              (gogeom_MultiLineString_SetSRID_v2 k r75.1 r75.2.1 r75.2.2.1 r75.2.2.2.1 r75.2.2.2.2 a0_2) >>= fun r78 =>
              some (.inr (.inr (.inr (.inr (.inr (.inl (r78.1, r78.2.1, r78.2.2.1, r78.2.2.2.1, r78.2.2.2.2))))))))
              (br (decide (a0_0 = 6))
                ((impl_intss_v2 k) >>= fun r86 =>
                (gogeom_NewMultiPolygonFlat_v2 k a0_1 r12) >>= fun r87 =>
                (gogeom_MultiPolygon_SetSRID_v2 k r87.1 r87.2.1 r87.2.2.1 r87.2.2.2 a0_2) >>= fun r90 =>
                some (.inr (.inr (.inr (.inr (.inr (.inr (.inl (r90.1, r90.2.1, r90.2.2.1, r90.2.2.2)))))))))
                (br (decide (a0_0 = 7))
                  ((gogeom_NewGeometryCollection k) >>= fun r94 =>
                  (gogeom_GeometryCollection_SetSRID k r94 r94 a0_2) >>= fun r97 =>
                  (gogeom_GeometryCollection_MustSetLayout k r97.1 r97.2 a0_1) >>= fun r113 =>
                  some (.inr (.inr (.inr (.inr (.inr (.inr (.inr (r113.1, r113.2)))))))))
                  (none))))))))
def impl_geometry_v2_r (wa0_3 : Gs) (a0_0 : Int) (a0_1 : Int) (a0_2 : Int) (a0_3 : List Nat) (out : (Int × Int × (List Nat) × Int) ⊕ ((Int × Int × (List Nat) × Int) ⊕ ((Int × Int × (List Nat) × Int) ⊕ ((Int × Int × (List Nat) × Int × (List Int)) ⊕ ((Int × Int × (List Nat) × Int × (List Int)) ⊕ ((Int × Int × (List Nat) × Int × (List Int)) ⊕ ((Int × Int × (List Nat) × Int) ⊕ (Int × Int)))))))) (w : Addr) : SV := match out with
  | (.inl y) => (If 72 (Vl (.pointer (some w))))
  | (.inr (.inl y)) => (If 75 (Vl (.pointer (some w))))
  | (.inr (.inr (.inl y))) => (If 69 (Vl (.pointer (some w))))
  | (.inr (.inr (.inr (.inl y)))) => (If 67 (Vl (.pointer (some w))))
  | (.inr (.inr (.inr (.inr (.inl y))))) => (If 70 (Vl (.pointer (some w))))
  | (.inr (.inr (.inr (.inr (.inr (.inl y)))))) => (If 73 (Vl (.pointer (some w))))
  | (.inr (.inr (.inr (.inr (.inr (.inr (.inl y))))))) => (If 76 (Vl (.pointer (some w))))
  | (.inr (.inr (.inr (.inr (.inr (.inr (.inr y))))))) => (If 57 (Vl (.pointer (some w))))
def impl_geometry_v2_h (wa0_3 : Gs) (a0_0 : Int) (a0_1 : Int) (a0_2 : Int) (a0_3 : List Nat) (out : (Int × Int × (List Nat) × Int) ⊕ ((Int × Int × (List Nat) × Int) ⊕ ((Int × Int × (List Nat) × Int) ⊕ ((Int × Int × (List Nat) × Int × (List Int)) ⊕ ((Int × Int × (List Nat) × Int × (List Int)) ⊕ ((Int × Int × (List Nat) × Int × (List Int)) ⊕ ((Int × Int × (List Nat) × Int) ⊕ (Int × Int)))))))) (w : Addr) : List Res := match out with
  | (.inl y) => [⟨.pointer (some w), [(Vl (.int .i64 y.1)), (Vl (.int .i64 y.2.1)), (Sl Kf y.2.2.1), (Vl (.int .i64 y.2.2.2))], 135, none⟩]
  | (.inr (.inl y)) => [⟨.pointer (some w), [(Vl (.int .i64 y.1)), (Vl (.int .i64 y.2.1)), (Sl Kf y.2.2.1), (Vl (.int .i64 y.2.2.2))], 138, none⟩]
  | (.inr (.inr (.inl y))) => [⟨.pointer (some w), [(Vl (.int .i64 y.1)), (Vl (.int .i64 y.2.1)), (Sl Kf y.2.2.1), (Vl (.int .i64 y.2.2.2))], 128, none⟩]
  | (.inr (.inr (.inr (.inl y)))) => [⟨.pointer (some w), [(Vl (.int .i64 y.1)), (Vl (.int .i64 y.2.1)), (Sl Kf y.2.2.1), (Vl (.int .i64 y.2.2.2.1)), (Sl (Ki .i64) y.2.2.2.2)], 132, none⟩]
  | (.inr (.inr (.inr (.inr (.inl y))))) => [⟨.pointer (some w), [(Vl (.int .i64 y.1)), (Vl (.int .i64 y.2.1)), (Sl Kf y.2.2.1), (Vl (.int .i64 y.2.2.2.1)), (Sl (Ki .i64) y.2.2.2.2)], 136, none⟩]
  | (.inr (.inr (.inr (.inr (.inr (.inl y)))))) => [⟨.pointer (some w), [(Vl (.int .i64 y.1)), (Vl (.int .i64 y.2.1)), (Sl Kf y.2.2.1), (Vl (.int .i64 y.2.2.2.1)), (Sl (Ki .i64) y.2.2.2.2)], 139, none⟩]
  | (.inr (.inr (.inr (.inr (.inr (.inr (.inl y))))))) => [⟨.pointer (some w), [(Vl (.int .i64 y.1)), (Vl (.int .i64 y.2.1)), (Sl Kf y.2.2.1), (Vl (.int .i64 y.2.2.2)), (Vl (.slice none 0 0))], 143, none⟩]
  | (.inr (.inr (.inr (.inr (.inr (.inr (.inr y))))))) => [⟨.pointer (some w), [(Vl (.int .i64 y.1)), (Vl (.slice none 0 0)), (Vl (.int .i64 y.2))], 114, none⟩]

theorem impl_geometry_v2_sim {k : Nat} {wa0_3 : Gs} (a0_0 : Int) (a0_1 : Int) (a0_2 : Int) (a0_3 : List Nat) {out : (Int × Int × (List Nat) × Int) ⊕ ((Int × Int × (List Nat) × Int) ⊕ ((Int × Int × (List Nat) × Int) ⊕ ((Int × Int × (List Nat) × Int × (List Int)) ⊕ ((Int × Int × (List Nat) × Int × (List Int)) ⊕ ((Int × Int × (List Nat) × Int × (List Int)) ⊕ ((Int × Int × (List Nat) × Int) ⊕ (Int × Int)))))))} (hp : impl_geometry_v2 k a0_0 a0_1 a0_2 a0_3 = some out) : Go.Sx.Fn Try.prog 30 [(Ag [(Vl (.int .i64 a0_0)), (Vl (.int .i64 a0_1)), (Vl (.int .i64 a0_2)), (Vl (Vs wa0_3)), (Vl (.slice none 0 0)), (Vl (.slice none 0 0)), (Vl (.slice none 0 0))])] [(Rw Kf 32 (Vs wa0_3) a0_3)] (fun w => impl_geometry_v2_r wa0_3 a0_0 a0_1 a0_2 a0_3 out w) (fun w => impl_geometry_v2_h wa0_3 a0_0 a0_1 a0_2 a0_3 out w) := by
  unfold impl_geometry_v2 at hp
  refine fn_of Try.func30 rfl Try.ntmps30 rfl fun E hM => ?_
  refine cx_seq' fun K1 hK1 => ?_
  refine cx_region' ?_
  refine sx_ox' (ox_box' rfl (lv_ag _) rfl rfl) (wt_none' rfl) fun q1 => ?_
  refine sx_rd' (rd_assign' rfl) rfl rfl (wt_none' rfl) ?_
  refine sx_nil' ?_
  show TX E K1 _
  refine tx_k' hK1 ?_
  refine cx_seq' fun K2 hK2 => ?_
  refine cx_plan' [] [] [(0, 1), (1, 1), (2, 1), (3, 1), (4, 0), (5, 1), (6, 1)] mixed (by kernel_rfl) ?_
  refine px_rd' rfl (rd_field' (off := 1) rfl Try.underlying27 rfl info3 rfl) rfl rfl (wt_none' rfl) ?_
  refine px_rd' rfl (rd_load' (i := 0) (o := 1) rfl ⟨rfl, rfl, rfl, rfl⟩ rfl flat3) rfl rfl (wt_none' rfl) ?_
  refine px_rd' rfl (rd_field' (off := 3) rfl Try.underlying27 rfl info22 rfl) rfl rfl (wt_none' rfl) ?_
  refine px_rd' rfl (rd_load' (i := 0) (o := 3) rfl ⟨rfl, rfl, rfl, rfl⟩ rfl flat22) rfl rfl (wt_none' rfl) ?_
  refine tx_fz' (frz_row 1 [(0, (Ag [(Vl (.int .i64 a0_0)), (Vl (.int .i64 a0_1)), (Vl (.int .i64 a0_2)), (Vl (Vs wa0_3)), (Vl (.slice none 0 0)), (Vl (.slice none 0 0)), (Vl (.slice none 0 0))]), (Ag [(Vl (.int .i64 a0_0)), (Vl (.int .i64 a0_1)), (Vl (.int .i64 a0_2)), (Sl Kf a0_3), (Vl (.slice none 0 0)), (Vl (.slice none 0 0)), (Vl (.slice none 0 0))])), (11, (Vl (Vs wa0_3)), (Sl Kf a0_3))] (K := Kf) (xs := a0_3) (by decide) rfl ⟨⟨rfl, fz_ag (fz0_cons fz0_same (fz0_cons fz0_same (fz0_cons fz0_same (fz0_cons fz0_it (fz0_cons fz0_same (fz0_cons fz0_same (fz0_cons fz0_same fz0_nil)))))))⟩, ⟨rfl, frz_it⟩, trivial⟩ (H' := [⟨.pointer (some q1), [(Vl (.int .i64 a0_0)), (Vl (.int .i64 a0_1)), (Vl (.int .i64 a0_2)), (Sl Kf a0_3), (Vl (.slice none 0 0)), (Vl (.slice none 0 0)), (Vl (.slice none 0 0))], 27, none⟩]) (frzH_cons rfl rfl rfl (frzL_cons frz_same (frzL_cons frz_same (frzL_cons frz_same (frzL_cons frz_it (frzL_cons frz_same (frzL_cons frz_same (frzL_cons frz_same frzL_refl))))))) frzH_refl)) ?_
  obtain ⟨r12, hr12, hp⟩ := bind_some hp
  refine px_ox' rfl (ox_calln' (ent_fn' Try.func59 isn59 rfl rfl) (impl_floats_sim _ hr12 : Go.Sx.Fn Try.prog 59 [(Sl Kf a0_3)] [] (fun x : Unit => (Sl Kf r12)) (fun x => [])) (Hn := fun x : Unit => [⟨.pointer (some q1), [(Vl (.int .i64 a0_0)), (Vl (.int .i64 a0_1)), (Vl (.int .i64 a0_2)), (Sl Kf a0_3), (Vl (.slice none 0 0)), (Vl (.slice none 0 0)), (Vl (.slice none 0 0))], 27, none⟩]) (fun _ => rfl) rfl rfl) rfl bs_nil (wt_none' rfl) fun ⟨⟩ => ?_
  refine px_rd' rfl (rd_assign' rfl) rfl rfl (wt_none' rfl) ?_
  refine px_rd' rfl (rd_assign' rfl) rfl rfl (wt_none' rfl) ?_
  refine px_nil' ?_
  show TX E K2 _
  refine tx_k' hK2 ?_
  refine cx_seq' fun K3 hK3 => ?_
  refine cx_seq' fun K4 hK4 => ?_
  refine cx_region' ?_
  refine sx_rd' (rd_field0' rfl Try.underlying27 rfl info3 rfl) rfl rfl (wt_none' rfl) ?_
  refine sx_rd' (rd_load' (i := 0) (o := 0) rfl ⟨rfl, rfl, rfl, rfl⟩ rfl flat3) rfl rfl (wt_none' rfl) ?_
  refine sx_nil' ?_
  show TX E K4 _
  refine tx_k' hK4 ?_
  refine cx_block' ?_
  refine cx_seq' fun K5 hK5 => ?_
  refine cx_region' ?_
  refine sx_rd' (rd_bin' rfl rfl eg_int ru_eql) rfl rfl (wt_none' rfl) ?_
  refine sx_rd' (rd_assign' rfl) rfl rfl (wt_none' rfl) ?_
  refine sx_nil' ?_
  show TX E K5 _
  refine tx_k' hK5 ?_
  refine cx_cond' rfl (fun h1 => ?_) (fun h1 => ?_)
  · replace hp := (br_t h1).symm.trans hp
    refine cx_seq' fun K6 hK6 => ?_
    refine cx_plan' [] [(5, 1)] [(0, 1), (1, 1), (3, 1), (4, 1), (2, 0), (5, 0), (6, 1), (7, 1)] mixed (by kernel_rfl) ?_
    refine px_rd' rfl (rd_move' rfl) rfl rfl (wt_none' rfl) ?_
    refine px_rd' rfl (rd_move' rfl) rfl rfl (wt_none' rfl) ?_
    refine px_rd' rfl (rd_field' (off := 2) rfl Try.underlying27 rfl info3 rfl) rfl rfl (wt_none' rfl) ?_
    refine px_rd' rfl (rd_load' (i := 0) (o := 2) rfl ⟨rfl, rfl, rfl, rfl⟩ rfl flat3) rfl rfl (wt_none' rfl) ?_
    obtain ⟨r19, hr19, hp⟩ := bind_some hp
    refine px_ox' rfl (ox_calln' (ent_fn' Try.func60 isn60 rfl rfl) (gogeom_NewPointFlat_sim _ _ hr19 : Go.Sx.Fn Try.prog 60 [(Vl (.int .i64 a0_1)), (Sl Kf r12)] [] (fun x : Addr => (Vl (.pointer (some x)))) (fun x => [⟨.pointer (some x), [(Vl (.int .i64 r19.1)), (Vl (.int .i64 r19.2.1)), (Sl Kf r19.2.2.1), (Vl (.int .i64 r19.2.2.2))], 135, none⟩])) (Hn := fun x : Addr => [⟨.pointer (some x), [(Vl (.int .i64 r19.1)), (Vl (.int .i64 r19.2.1)), (Sl Kf r19.2.2.1), (Vl (.int .i64 r19.2.2.2))], 135, none⟩, ⟨.pointer (some q1), [(Vl (.int .i64 a0_0)), (Vl (.int .i64 a0_1)), (Vl (.int .i64 a0_2)), (Sl Kf a0_3), (Vl (.slice none 0 0)), (Vl (.slice none 0 0)), (Vl (.slice none 0 0))], 27, none⟩]) (fun _ => rfl) rfl rfl) rfl bs_nil (wt_none' rfl) fun q19 => ?_
    obtain ⟨r22, hr22, hp⟩ := bind_some hp
    refine px_oxb' (is := [0]) rfl (oxb_callg (ent_fn' Try.func61 isn61 rfl rfl) (gogeom_Point_SetSRID_sim _ _ _ _ _ hr22 : Go.Sx.Fn Try.prog 61 [(Vl (.pointer (some q19))), (Vl (.int .i64 a0_2))] [⟨.pointer (some q19), [(Vl (.int .i64 r19.1)), (Vl (.int .i64 r19.2.1)), (Sl Kf r19.2.2.1), (Vl (.int .i64 r19.2.2.2))], 135, none⟩] (fun x : Unit => (Vl (.pointer (some q19)))) (fun x => [⟨.pointer (some q19), [(Vl (.int .i64 r22.1)), (Vl (.int .i64 r22.2.1)), (Sl Kf r22.2.2.1), (Vl (.int .i64 r22.2.2.2))], 135, none⟩])) [0] [1] (by decide) (pick_cons rfl pick_nil) (pick_cons rfl pick_nil) (Hn := fun x : Unit => [⟨.pointer (some q19), [(Vl (.int .i64 r22.1)), (Vl (.int .i64 r22.2.1)), (Sl Kf r22.2.2.1), (Vl (.int .i64 r22.2.2.2))], 135, none⟩, ⟨.pointer (some q1), [(Vl (.int .i64 a0_0)), (Vl (.int .i64 a0_1)), (Vl (.int .i64 a0_2)), (Sl Kf a0_3), (Vl (.slice none 0 0)), (Vl (.slice none 0 0)), (Vl (.slice none 0 0))], 27, none⟩]) (fun _ => rfl) rfl rfl) (pick_cons rfl pick_nil) rfl bl_nil (wt_none' rfl) fun ⟨⟩ => ?_
    refine px_rd' rfl (rd_iface' rfl ⟨_, Try.underlying72, fun _ h => (nomatch h)⟩) rfl rfl (wt_none' rfl) ?_
    refine px_rd' rfl (rd_assign' rfl) rfl rfl (wt_none' rfl) ?_
    refine px_nil' ?_
    show TX E K6 _
    refine tx_k' hK6 ?_
    refine cx_retc' ?_
    replace hp := Option.some.inj hp
    subst hp
    refine tx_pick' (L' := [(2, (If 72 (Vl (.pointer (some q19)))))]) (H' := [⟨.pointer (some q19), [(Vl (.int .i64 r22.1)), (Vl (.int .i64 r22.2.1)), (Sl Kf r22.2.2.1), (Vl (.int .i64 r22.2.2.2))], 135, none⟩]) [0] (sub_cons rfl sub_nil) (by decide) (pick_cons rfl pick_nil) ?_
    exact tx_ret1' Try.results30 rfl q19 (rv_tmp' rfl) (List.Sublist.refl _)
  · replace hp := (br_f h1).symm.trans hp
    refine cx_seq' fun K7 hK7 => ?_
    refine cx_region' ?_
    refine sx_rd' (rd_bin' rfl rfl eg_int ru_eql) rfl rfl (wt_none' rfl) ?_
    refine sx_rd' (rd_assign' rfl) rfl rfl (wt_none' rfl) ?_
    refine sx_nil' ?_
    show TX E K7 _
    refine tx_k' hK7 ?_
    refine cx_cond' rfl (fun h2 => ?_) (fun h2 => ?_)
    · replace hp := (br_t h2).symm.trans hp
      refine cx_seq' fun K8 hK8 => ?_
      refine cx_plan' [] [(5, 1)] [(0, 1), (1, 1), (3, 1), (4, 1), (2, 0), (5, 0), (6, 1), (7, 1)] mixed (by kernel_rfl) ?_
      refine px_rd' rfl (rd_move' rfl) rfl rfl (wt_none' rfl) ?_
      refine px_rd' rfl (rd_move' rfl) rfl rfl (wt_none' rfl) ?_
      refine px_rd' rfl (rd_field' (off := 2) rfl Try.underlying27 rfl info3 rfl) rfl rfl (wt_none' rfl) ?_
      refine px_rd' rfl (rd_load' (i := 0) (o := 2) rfl ⟨rfl, rfl, rfl, rfl⟩ rfl flat3) rfl rfl (wt_none' rfl) ?_
      obtain ⟨r28, hr28, hp⟩ := bind_some hp
      refine px_ox' rfl (ox_calln' (ent_fn' Try.func62 isn62 rfl rfl) (gogeom_NewLineStringFlat_sim _ _ hr28 : Go.Sx.Fn Try.prog 62 [(Vl (.int .i64 a0_1)), (Sl Kf r12)] [] (fun x : Addr => (Vl (.pointer (some x)))) (fun x => [⟨.pointer (some x), [(Vl (.int .i64 r28.1)), (Vl (.int .i64 r28.2.1)), (Sl Kf r28.2.2.1), (Vl (.int .i64 r28.2.2.2))], 138, none⟩])) (Hn := fun x : Addr => [⟨.pointer (some x), [(Vl (.int .i64 r28.1)), (Vl (.int .i64 r28.2.1)), (Sl Kf r28.2.2.1), (Vl (.int .i64 r28.2.2.2))], 138, none⟩, ⟨.pointer (some q1), [(Vl (.int .i64 a0_0)), (Vl (.int .i64 a0_1)), (Vl (.int .i64 a0_2)), (Sl Kf a0_3), (Vl (.slice none 0 0)), (Vl (.slice none 0 0)), (Vl (.slice none 0 0))], 27, none⟩]) (fun _ => rfl) rfl rfl) rfl bs_nil (wt_none' rfl) fun q28 => ?_
      obtain ⟨r31, hr31, hp⟩ := bind_some hp
      refine px_oxb' (is := [0]) rfl (oxb_callg (ent_fn' Try.func63 isn63 rfl rfl) (gogeom_LineString_SetSRID_sim _ _ _ _ _ hr31 : Go.Sx.Fn Try.prog 63 [(Vl (.pointer (some q28))), (Vl (.int .i64 a0_2))] [⟨.pointer (some q28), [(Vl (.int .i64 r28.1)), (Vl (.int .i64 r28.2.1)), (Sl Kf r28.2.2.1), (Vl (.int .i64 r28.2.2.2))], 138, none⟩] (fun x : Unit => (Vl (.pointer (some q28)))) (fun x => [⟨.pointer (some q28), [(Vl (.int .i64 r31.1)), (Vl (.int .i64 r31.2.1)), (Sl Kf r31.2.2.1), (Vl (.int .i64 r31.2.2.2))], 138, none⟩])) [0] [1] (by decide) (pick_cons rfl pick_nil) (pick_cons rfl pick_nil) (Hn := fun x : Unit => [⟨.pointer (some q28), [(Vl (.int .i64 r31.1)), (Vl (.int .i64 r31.2.1)), (Sl Kf r31.2.2.1), (Vl (.int .i64 r31.2.2.2))], 138, none⟩, ⟨.pointer (some q1), [(Vl (.int .i64 a0_0)), (Vl (.int .i64 a0_1)), (Vl (.int .i64 a0_2)), (Sl Kf a0_3), (Vl (.slice none 0 0)), (Vl (.slice none 0 0)), (Vl (.slice none 0 0))], 27, none⟩]) (fun _ => rfl) rfl rfl) (pick_cons rfl pick_nil) rfl bl_nil (wt_none' rfl) fun ⟨⟩ => ?_
      refine px_rd' rfl (rd_iface' rfl ⟨_, Try.underlying75, fun _ h => (nomatch h)⟩) rfl rfl (wt_none' rfl) ?_
      refine px_rd' rfl (rd_assign' rfl) rfl rfl (wt_none' rfl) ?_
      refine px_nil' ?_
      show TX E K8 _
      refine tx_k' hK8 ?_
      refine cx_retc' ?_
      replace hp := Option.some.inj hp
      subst hp
      refine tx_pick' (L' := [(2, (If 75 (Vl (.pointer (some q28)))))]) (H' := [⟨.pointer (some q28), [(Vl (.int .i64 r31.1)), (Vl (.int .i64 r31.2.1)), (Sl Kf r31.2.2.1), (Vl (.int .i64 r31.2.2.2))], 138, none⟩]) [0] (sub_cons rfl sub_nil) (by decide) (pick_cons rfl pick_nil) ?_
      exact tx_ret1' Try.results30 rfl q28 (rv_tmp' rfl) (List.Sublist.refl _)
    · replace hp := (br_f h2).symm.trans hp
      refine cx_seq' fun K9 hK9 => ?_
      refine cx_region' ?_
      refine sx_rd' (rd_bin' rfl rfl eg_int ru_eql) rfl rfl (wt_none' rfl) ?_
      refine sx_rd' (rd_assign' rfl) rfl rfl (wt_none' rfl) ?_
      refine sx_nil' ?_
      show TX E K9 _
      refine tx_k' hK9 ?_
      refine cx_cond' rfl (fun h3 => ?_) (fun h3 => ?_)
      · replace hp := (br_t h3).symm.trans hp
        refine cx_seq' fun K10 hK10 => ?_
        refine cx_plan' [] [(5, 1)] [(0, 1), (1, 1), (3, 1), (4, 1), (2, 0), (5, 0), (6, 1), (7, 1)] mixed (by kernel_rfl) ?_
        refine px_rd' rfl (rd_move' rfl) rfl rfl (wt_none' rfl) ?_
        refine px_rd' rfl (rd_move' rfl) rfl rfl (wt_none' rfl) ?_
        refine px_rd' rfl (rd_field' (off := 2) rfl Try.underlying27 rfl info3 rfl) rfl rfl (wt_none' rfl) ?_
        refine px_rd' rfl (rd_load' (i := 0) (o := 2) rfl ⟨rfl, rfl, rfl, rfl⟩ rfl flat3) rfl rfl (wt_none' rfl) ?_
        obtain ⟨r37, hr37, hp⟩ := bind_some hp
        refine px_ox' rfl (ox_calln' (ent_fn' Try.func64 isn64 rfl rfl) (gogeom_NewLinearRingFlat_sim _ _ hr37 : Go.Sx.Fn Try.prog 64 [(Vl (.int .i64 a0_1)), (Sl Kf r12)] [] (fun x : Addr => (Vl (.pointer (some x)))) (fun x => [⟨.pointer (some x), [(Vl (.int .i64 r37.1)), (Vl (.int .i64 r37.2.1)), (Sl Kf r37.2.2.1), (Vl (.int .i64 r37.2.2.2))], 128, none⟩])) (Hn := fun x : Addr => [⟨.pointer (some x), [(Vl (.int .i64 r37.1)), (Vl (.int .i64 r37.2.1)), (Sl Kf r37.2.2.1), (Vl (.int .i64 r37.2.2.2))], 128, none⟩, ⟨.pointer (some q1), [(Vl (.int .i64 a0_0)), (Vl (.int .i64 a0_1)), (Vl (.int .i64 a0_2)), (Sl Kf a0_3), (Vl (.slice none 0 0)), (Vl (.slice none 0 0)), (Vl (.slice none 0 0))], 27, none⟩]) (fun _ => rfl) rfl rfl) rfl bs_nil (wt_none' rfl) fun q37 => ?_
        obtain ⟨r40, hr40, hp⟩ := bind_some hp
        refine px_oxb' (is := [0]) rfl (oxb_callg (ent_fn' Try.func65 isn65 rfl rfl) (gogeom_LinearRing_SetSRID_sim _ _ _ _ _ hr40 : Go.Sx.Fn Try.prog 65 [(Vl (.pointer (some q37))), (Vl (.int .i64 a0_2))] [⟨.pointer (some q37), [(Vl (.int .i64 r37.1)), (Vl (.int .i64 r37.2.1)), (Sl Kf r37.2.2.1), (Vl (.int .i64 r37.2.2.2))], 128, none⟩] (fun x : Unit => (Vl (.pointer (some q37)))) (fun x => [⟨.pointer (some q37), [(Vl (.int .i64 r40.1)), (Vl (.int .i64 r40.2.1)), (Sl Kf r40.2.2.1), (Vl (.int .i64 r40.2.2.2))], 128, none⟩])) [0] [1] (by decide) (pick_cons rfl pick_nil) (pick_cons rfl pick_nil) (Hn := fun x : Unit => [⟨.pointer (some q37), [(Vl (.int .i64 r40.1)), (Vl (.int .i64 r40.2.1)), (Sl Kf r40.2.2.1), (Vl (.int .i64 r40.2.2.2))], 128, none⟩, ⟨.pointer (some q1), [(Vl (.int .i64 a0_0)), (Vl (.int .i64 a0_1)), (Vl (.int .i64 a0_2)), (Sl Kf a0_3), (Vl (.slice none 0 0)), (Vl (.slice none 0 0)), (Vl (.slice none 0 0))], 27, none⟩]) (fun _ => rfl) rfl rfl) (pick_cons rfl pick_nil) rfl bl_nil (wt_none' rfl) fun ⟨⟩ => ?_
        refine px_rd' rfl (rd_iface' rfl ⟨_, Try.underlying69, fun _ h => (nomatch h)⟩) rfl rfl (wt_none' rfl) ?_
        refine px_rd' rfl (rd_assign' rfl) rfl rfl (wt_none' rfl) ?_
        refine px_nil' ?_
        show TX E K10 _
        refine tx_k' hK10 ?_
        refine cx_retc' ?_
        replace hp := Option.some.inj hp
        subst hp
        refine tx_pick' (L' := [(2, (If 69 (Vl (.pointer (some q37)))))]) (H' := [⟨.pointer (some q37), [(Vl (.int .i64 r40.1)), (Vl (.int .i64 r40.2.1)), (Sl Kf r40.2.2.1), (Vl (.int .i64 r40.2.2.2))], 128, none⟩]) [0] (sub_cons rfl sub_nil) (by decide) (pick_cons rfl pick_nil) ?_
        exact tx_ret1' Try.results30 rfl q37 (rv_tmp' rfl) (List.Sublist.refl _)
      · replace hp := (br_f h3).symm.trans hp
        refine cx_seq' fun K11 hK11 => ?_
        refine cx_region' ?_
        refine sx_rd' (rd_bin' rfl rfl eg_int ru_eql) rfl rfl (wt_none' rfl) ?_
        refine sx_rd' (rd_assign' rfl) rfl rfl (wt_none' rfl) ?_
        refine sx_nil' ?_
        show TX E K11 _
        refine tx_k' hK11 ?_
        refine cx_cond' rfl (fun h4 => ?_) (fun h4 => ?_)
        · replace hp := (br_t h4).symm.trans hp
          refine cx_seq' fun K12 hK12 => ?_
          refine cx_plan' [] [(8, 1)] [(0, 1), (1, 1), (2, 1), (3, 1), (6, 1), (7, 1), (4, 0), (5, 0), (8, 0), (9, 1), (10, 1)] mixed (by kernel_rfl) ?_
          refine px_rd' rfl (rd_move' rfl) rfl rfl (wt_none' rfl) ?_
          refine px_rd' rfl (rd_move' rfl) rfl rfl (wt_none' rfl) ?_
          refine px_rd' rfl (rd_field' (off := 4) rfl Try.underlying27 rfl info23 rfl) rfl rfl (wt_none' rfl) ?_
          refine px_rd' rfl (rd_load' (i := 0) (o := 4) rfl ⟨rfl, rfl, rfl, rfl⟩ rfl flat23) rfl rfl (wt_none' rfl) ?_
          refine px_rd' rfl (rd_field' (off := 2) rfl Try.underlying27 rfl info3 rfl) rfl rfl (wt_none' rfl) ?_
          refine px_rd' rfl (rd_load' (i := 0) (o := 2) rfl ⟨rfl, rfl, rfl, rfl⟩ rfl flat3) rfl rfl (wt_none' rfl) ?_
          obtain ⟨r48, hr48, hp⟩ := bind_some hp
          refine px_ox' rfl (ox_calln' (ent_fn' Try.func58 isn58 rfl rfl) (impl_ints_v2_sim hr48 : Go.Sx.Fn Try.prog 58 [(Vl (.slice none 0 0))] [] (fun x : Unit => (Sl (Ki .i64) r48)) (fun x => [])) (Hn := fun x : Unit => [⟨.pointer (some q1), [(Vl (.int .i64 a0_0)), (Vl (.int .i64 a0_1)), (Vl (.int .i64 a0_2)), (Sl Kf a0_3), (Vl (.slice none 0 0)), (Vl (.slice none 0 0)), (Vl (.slice none 0 0))], 27, none⟩]) (fun _ => rfl) rfl rfl) rfl bs_nil (wt_none' rfl) fun ⟨⟩ => ?_
          obtain ⟨r49, hr49, hp⟩ := bind_some hp
          refine px_ox' rfl (ox_calln' (ent_fn' Try.func66 isn66 rfl rfl) (gogeom_NewPolygonFlat_v2_sim _ _ _ hr49 : Go.Sx.Fn Try.prog 66 [(Vl (.int .i64 a0_1)), (Sl Kf r12), (Sl (Ki .i64) r48)] [] (fun x : Addr => (Vl (.pointer (some x)))) (fun x => [⟨.pointer (some x), [(Vl (.int .i64 r49.1)), (Vl (.int .i64 r49.2.1)), (Sl Kf r49.2.2.1), (Vl (.int .i64 r49.2.2.2.1)), (Sl (Ki .i64) r49.2.2.2.2)], 132, none⟩])) (Hn := fun x : Addr => [⟨.pointer (some x), [(Vl (.int .i64 r49.1)), (Vl (.int .i64 r49.2.1)), (Sl Kf r49.2.2.1), (Vl (.int .i64 r49.2.2.2.1)), (Sl (Ki .i64) r49.2.2.2.2)], 132, none⟩, ⟨.pointer (some q1), [(Vl (.int .i64 a0_0)), (Vl (.int .i64 a0_1)), (Vl (.int .i64 a0_2)), (Sl Kf a0_3), (Vl (.slice none 0 0)), (Vl (.slice none 0 0)), (Vl (.slice none 0 0))], 27, none⟩]) (fun _ => rfl) rfl rfl) rfl bs_nil (wt_none' rfl) fun q49 => ?_
          obtain ⟨r52, hr52, hp⟩ := bind_some hp
          refine px_oxb' (is := [0]) rfl (oxb_callg (ent_fn' Try.func67 isn67 rfl rfl) (gogeom_Polygon_SetSRID_v2_sim _ _ _ _ _ _ hr52 : Go.Sx.Fn Try.prog 67 [(Vl (.pointer (some q49))), (Vl (.int .i64 a0_2))] [⟨.pointer (some q49), [(Vl (.int .i64 r49.1)), (Vl (.int .i64 r49.2.1)), (Sl Kf r49.2.2.1), (Vl (.int .i64 r49.2.2.2.1)), (Sl (Ki .i64) r49.2.2.2.2)], 132, none⟩] (fun x : Unit => (Vl (.pointer (some q49)))) (fun x => [⟨.pointer (some q49), [(Vl (.int .i64 r52.1)), (Vl (.int .i64 r52.2.1)), (Sl Kf r52.2.2.1), (Vl (.int .i64 r52.2.2.2.1)), (Sl (Ki .i64) r52.2.2.2.2)], 132, none⟩])) [0] [1] (by decide) (pick_cons rfl pick_nil) (pick_cons rfl pick_nil) (Hn := fun x : Unit => [⟨.pointer (some q49), [(Vl (.int .i64 r52.1)), (Vl (.int .i64 r52.2.1)), (Sl Kf r52.2.2.1), (Vl (.int .i64 r52.2.2.2.1)), (Sl (Ki .i64) r52.2.2.2.2)], 132, none⟩, ⟨.pointer (some q1), [(Vl (.int .i64 a0_0)), (Vl (.int .i64 a0_1)), (Vl (.int .i64 a0_2)), (Sl Kf a0_3), (Vl (.slice none 0 0)), (Vl (.slice none 0 0)), (Vl (.slice none 0 0))], 27, none⟩]) (fun _ => rfl) rfl rfl) (pick_cons rfl pick_nil) rfl bl_nil (wt_none' rfl) fun ⟨⟩ => ?_
          refine px_rd' rfl (rd_iface' rfl ⟨_, Try.underlying67, fun _ h => (nomatch h)⟩) rfl rfl (wt_none' rfl) ?_
          refine px_rd' rfl (rd_assign' rfl) rfl rfl (wt_none' rfl) ?_
          refine px_nil' ?_
          show TX E K12 _
          refine tx_k' hK12 ?_
          refine cx_retc' ?_
          replace hp := Option.some.inj hp
          subst hp
          refine tx_pick' (L' := [(2, (If 67 (Vl (.pointer (some q49)))))]) (H' := [⟨.pointer (some q49), [(Vl (.int .i64 r52.1)), (Vl (.int .i64 r52.2.1)), (Sl Kf r52.2.2.1), (Vl (.int .i64 r52.2.2.2.1)), (Sl (Ki .i64) r52.2.2.2.2)], 132, none⟩]) [0] (sub_cons rfl sub_nil) (by decide) (pick_cons rfl pick_nil) ?_
          exact tx_ret1' Try.results30 rfl q49 (rv_tmp' rfl) (List.Sublist.refl _)
        · replace hp := (br_f h4).symm.trans hp
          refine cx_seq' fun K13 hK13 => ?_
          refine cx_region' ?_
          refine sx_rd' (rd_bin' rfl rfl eg_int ru_eql) rfl rfl (wt_none' rfl) ?_
          refine sx_rd' (rd_assign' rfl) rfl rfl (wt_none' rfl) ?_
          refine sx_nil' ?_
          show TX E K13 _
          refine tx_k' hK13 ?_
          refine cx_cond' rfl (fun h5 => ?_) (fun h5 => ?_)
          · replace hp := (br_t h5).symm.trans hp
            refine cx_seq' fun K14 hK14 => ?_
            refine cx_plan' [q1.block] [(7, 1), (10, 1)] [(0, 1), (1, 1), (2, 1), (3, 1), (8, 2), (9, 2), (4, 0), (5, 0), (6, 0), (7, 0), (10, 0), (11, 1), (12, 1)] mixed (by kernel_rfl) ?_
            refine px_rd' rfl (rd_move' rfl) rfl rfl (wt_none' rfl) ?_
            refine px_rd' rfl (rd_move' rfl) rfl rfl (wt_none' rfl) ?_
            refine px_rd' rfl (rd_field' (off := 4) rfl Try.underlying27 rfl info23 rfl) rfl rfl (wt_none' rfl) ?_
            refine px_rd' rfl (rd_load' (i := 0) (o := 4) rfl ⟨rfl, rfl, rfl, rfl⟩ rfl flat23) rfl rfl (wt_none' rfl) ?_
            refine px_rb' rfl (rb_field' (off := 2) rfl Try.underlying27 rfl info3 rfl) rfl rfl (wt_none' rfl) ?_
            refine px_rb' rfl (rb_load' (i := 0) (o := 2) rfl ⟨rfl, rfl, rfl, rfl⟩ rfl flat3 (by simp)) rfl rfl (wt_none' rfl) ?_
            obtain ⟨r60, hr60, hp⟩ := bind_some hp
            refine px_ox' rfl (ox_calln' (ent_fn' Try.func58 isn58 rfl rfl) (impl_ints_v2_sim hr60 : Go.Sx.Fn Try.prog 58 [(Vl (.slice none 0 0))] [] (fun x : Unit => (Sl (Ki .i64) r60)) (fun x => [])) (Hn := fun x : Unit => [⟨.pointer (some q1), [(Vl (.int .i64 a0_0)), (Vl (.int .i64 a0_1)), (Vl (.int .i64 a0_2)), (Sl Kf a0_3), (Vl (.slice none 0 0)), (Vl (.slice none 0 0)), (Vl (.slice none 0 0))], 27, none⟩]) (fun _ => rfl) rfl rfl) rfl (bs_cons (m := 0) rfl rfl rfl bs_nil) (wt_none' rfl) fun ⟨⟩ => ?_
            obtain ⟨r61, hr61, hp⟩ := bind_some hp
            refine px_ox' rfl (ox_calln' (ent_fn' Try.func69 isn69 rfl rfl) (gogeom_NewMultiPointFlatOptionWithEnds_v2_sim _ hr61 : Go.Sx.Fn Try.prog 69 [(Sl (Ki .i64) r60)] [] (fun x : Addr => (Vl (.func (.func 90) #[] ⟨[.pointer (some x)]⟩))) (fun x => [⟨.pointer (some x), [(Sl (Ki .i64) r61)], 23, none⟩])) (Hn := fun x : Addr => [⟨.pointer (some x), [(Sl (Ki .i64) r61)], 23, none⟩, ⟨.pointer (some q1), [(Vl (.int .i64 a0_0)), (Vl (.int .i64 a0_1)), (Vl (.int .i64 a0_2)), (Sl Kf a0_3), (Vl (.slice none 0 0)), (Vl (.slice none 0 0)), (Vl (.slice none 0 0))], 27, none⟩]) (fun _ => rfl) rfl rfl) rfl (bs_cons (m := 0) rfl rfl rfl bs_nil) (wt_none' rfl) fun q61 => ?_
            refine px_ox' rfl (ox_srow' (es := 1) (r := [(Vl (.func (.func 90) #[] ⟨[.pointer (some q61)]⟩))]) (qs := [(0, [(Vl (.func (.func 90) #[] ⟨[.pointer (some q61)]⟩))])]) ⟨rfl, ⟨_, rfl, (lv_vl rfl rfl)⟩, trivial⟩ Try.underlying153 info101 rfl rfl rfl rfl rfl rfl rfl rfl rfl) rfl (bs_cons (m := 1) rfl rfl rfl bs_nil) (wt_none' rfl) fun q62 => ?_
            obtain ⟨r63, hr63, hp⟩ := bind_some hp
            refine px_oxb' (is := [0, 1]) rfl (oxb_callg (ent_fn' Try.func68 isn68 rfl rfl) (gogeom_NewMultiPointFlat_v2_sim _ _ _ hr63 : Go.Sx.Fn Try.prog 68 [(Vl (.int .i64 a0_1)), (Sl Kf r12), (Vl (.slice (some q62) 1 1))] [⟨.slice (some q62) 1 1, [(Vl (.func (.func 90) #[] ⟨[.pointer (some q61)]⟩))], 101, some 1⟩, ⟨.pointer (some q61), [(Sl (Ki .i64) r61)], 23, none⟩] (fun x : Addr => (Vl (.pointer (some x)))) (fun x => [⟨.pointer (some q61), [(Sl (Ki .i64) r63.1)], 23, none⟩, ⟨.pointer (some x), [(Vl (.int .i64 r63.2.1)), (Vl (.int .i64 r63.2.2.1)), (Sl Kf r63.2.2.2.1), (Vl (.int .i64 r63.2.2.2.2)), (Sl (Ki .i64) r63.1)], 136, none⟩])) [0, 1] [2] (by decide) (pick_cons rfl (pick_cons rfl pick_nil)) (pick_cons rfl pick_nil) (Hn := fun x : Addr => [⟨.pointer (some q61), [(Sl (Ki .i64) r63.1)], 23, none⟩, ⟨.pointer (some x), [(Vl (.int .i64 r63.2.1)), (Vl (.int .i64 r63.2.2.1)), (Sl Kf r63.2.2.2.1), (Vl (.int .i64 r63.2.2.2.2)), (Sl (Ki .i64) r63.1)], 136, none⟩, ⟨.pointer (some q1), [(Vl (.int .i64 a0_0)), (Vl (.int .i64 a0_1)), (Vl (.int .i64 a0_2)), (Sl Kf a0_3), (Vl (.slice none 0 0)), (Vl (.slice none 0 0)), (Vl (.slice none 0 0))], 27, none⟩]) (fun _ => rfl) rfl rfl) (pick_cons rfl (pick_cons rfl pick_nil)) rfl (bl_cons (m := 2) (by decide) rfl rfl bl_nil) (wt_none' rfl) fun q63 => ?_
            obtain ⟨r66, hr66, hp⟩ := bind_some hp
            refine px_oxb' (is := [1]) rfl (oxb_callg (ent_fn' Try.func70 isn70 rfl rfl) (gogeom_MultiPoint_SetSRID_v2_sim _ _ _ _ _ _ hr66 : Go.Sx.Fn Try.prog 70 [(Vl (.pointer (some q63))), (Vl (.int .i64 a0_2))] [⟨.pointer (some q63), [(Vl (.int .i64 r63.2.1)), (Vl (.int .i64 r63.2.2.1)), (Sl Kf r63.2.2.2.1), (Vl (.int .i64 r63.2.2.2.2)), (Sl (Ki .i64) r63.1)], 136, none⟩] (fun x : Unit => (Vl (.pointer (some q63)))) (fun x => [⟨.pointer (some q63), [(Vl (.int .i64 r66.1)), (Vl (.int .i64 r66.2.1)), (Sl Kf r66.2.2.1), (Vl (.int .i64 r66.2.2.2.1)), (Sl (Ki .i64) r66.2.2.2.2)], 136, none⟩])) [1] [0, 2] (by decide) (pick_cons rfl pick_nil) (pick_cons rfl (pick_cons rfl pick_nil)) (Hn := fun x : Unit => [⟨.pointer (some q63), [(Vl (.int .i64 r66.1)), (Vl (.int .i64 r66.2.1)), (Sl Kf r66.2.2.1), (Vl (.int .i64 r66.2.2.2.1)), (Sl (Ki .i64) r66.2.2.2.2)], 136, none⟩, ⟨.pointer (some q61), [(Sl (Ki .i64) r63.1)], 23, none⟩, ⟨.pointer (some q1), [(Vl (.int .i64 a0_0)), (Vl (.int .i64 a0_1)), (Vl (.int .i64 a0_2)), (Sl Kf a0_3), (Vl (.slice none 0 0)), (Vl (.slice none 0 0)), (Vl (.slice none 0 0))], 27, none⟩]) (fun _ => rfl) rfl rfl) (pick_cons rfl pick_nil) rfl (bl_cons (m := 2) (by decide) rfl rfl bl_nil) (wt_none' rfl) fun ⟨⟩ => ?_
            refine px_rd' rfl (rd_iface' rfl ⟨_, Try.underlying70, fun _ h => (nomatch h)⟩) rfl rfl (wt_none' rfl) ?_
            refine px_rd' rfl (rd_assign' rfl) rfl rfl (wt_none' rfl) ?_
            refine px_nil' ?_
            show TX E K14 _
            refine tx_k' hK14 ?_
            refine cx_retc' ?_
            replace hp := Option.some.inj hp
            subst hp
            refine tx_pick' (L' := [(2, (If 70 (Vl (.pointer (some q63)))))]) (H' := [⟨.pointer (some q63), [(Vl (.int .i64 r66.1)), (Vl (.int .i64 r66.2.1)), (Sl Kf r66.2.2.1), (Vl (.int .i64 r66.2.2.2.1)), (Sl (Ki .i64) r66.2.2.2.2)], 136, none⟩]) [0] (sub_cons rfl sub_nil) (by decide) (pick_cons rfl pick_nil) ?_
            exact tx_ret1' Try.results30 rfl q63 (rv_tmp' rfl) (List.Sublist.refl _)
          · replace hp := (br_f h5).symm.trans hp
            refine cx_seq' fun K15 hK15 => ?_
            refine cx_region' ?_
            refine sx_rd' (rd_bin' rfl rfl eg_int ru_eql) rfl rfl (wt_none' rfl) ?_
            refine sx_rd' (rd_assign' rfl) rfl rfl (wt_none' rfl) ?_
            refine sx_nil' ?_
            show TX E K15 _
            refine tx_k' hK15 ?_
            refine cx_cond' rfl (fun h6 => ?_) (fun h6 => ?_)
            · replace hp := (br_t h6).symm.trans hp
              refine cx_seq' fun K16 hK16 => ?_
              refine cx_plan' [] [(8, 1)] [(0, 1), (1, 1), (2, 1), (3, 1), (6, 1), (7, 1), (4, 0), (5, 0), (8, 0), (9, 1), (10, 1)] mixed (by kernel_rfl) ?_
              refine px_rd' rfl (rd_move' rfl) rfl rfl (wt_none' rfl) ?_
              refine px_rd' rfl (rd_move' rfl) rfl rfl (wt_none' rfl) ?_
              refine px_rd' rfl (rd_field' (off := 4) rfl Try.underlying27 rfl info23 rfl) rfl rfl (wt_none' rfl) ?_
              refine px_rd' rfl (rd_load' (i := 0) (o := 4) rfl ⟨rfl, rfl, rfl, rfl⟩ rfl flat23) rfl rfl (wt_none' rfl) ?_
              refine px_rd' rfl (rd_field' (off := 2) rfl Try.underlying27 rfl info3 rfl) rfl rfl (wt_none' rfl) ?_
              refine px_rd' rfl (rd_load' (i := 0) (o := 2) rfl ⟨rfl, rfl, rfl, rfl⟩ rfl flat3) rfl rfl (wt_none' rfl) ?_
              obtain ⟨r74, hr74, hp⟩ := bind_some hp
              refine px_ox' rfl (ox_calln' (ent_fn' Try.func58 isn58 rfl rfl) (impl_ints_v2_sim hr74 : Go.Sx.Fn Try.prog 58 [(Vl (.slice none 0 0))] [] (fun x : Unit => (Sl (Ki .i64) r74)) (fun x => [])) (Hn := fun x : Unit => [⟨.pointer (some q1), [(Vl (.int .i64 a0_0)), (Vl (.int .i64 a0_1)), (Vl (.int .i64 a0_2)), (Sl Kf a0_3), (Vl (.slice none 0 0)), (Vl (.slice none 0 0)), (Vl (.slice none 0 0))], 27, none⟩]) (fun _ => rfl) rfl rfl) rfl bs_nil (wt_none' rfl) fun ⟨⟩ => ?_
              obtain ⟨r75, hr75, hp⟩ := bind_some hp
              refine px_ox' rfl (ox_calln' (ent_fn' Try.func71 isn71 rfl rfl) (gogeom_NewMultiLineStringFlat_v2_sim _ _ _ hr75 : Go.Sx.Fn Try.prog 71 [(Vl (.int .i64 a0_1)), (Sl Kf r12), (Sl (Ki .i64) r74)] [] (fun x : Addr => (Vl (.pointer (some x)))) (fun x => [⟨.pointer (some x), [(Vl (.int .i64 r75.1)), (Vl (.int .i64 r75.2.1)), (Sl Kf r75.2.2.1), (Vl (.int .i64 r75.2.2.2.1)), (Sl (Ki .i64) r75.2.2.2.2)], 139, none⟩])) (Hn := fun x : Addr => [⟨.pointer (some x), [(Vl (.int .i64 r75.1)), (Vl (.int .i64 r75.2.1)), (Sl Kf r75.2.2.1), (Vl (.int .i64 r75.2.2.2.1)), (Sl (Ki .i64) r75.2.2.2.2)], 139, none⟩, ⟨.pointer (some q1), [(Vl (.int .i64 a0_0)), (Vl (.int .i64 a0_1)), (Vl (.int .i64 a0_2)), (Sl Kf a0_3), (Vl (.slice none 0 0)), (Vl (.slice none 0 0)), (Vl (.slice none 0 0))], 27, none⟩]) (fun _ => rfl) rfl rfl) rfl bs_nil (wt_none' rfl) fun q75 => ?_
              obtain ⟨r78, hr78, hp⟩ := bind_some hp
              refine px_oxb' (is := [0]) rfl (oxb_callg (ent_fn' Try.func72 isn72 rfl rfl) (gogeom_MultiLineString_SetSRID_v2_sim _ _ _ _ _ _ hr78 : Go.Sx.Fn Try.prog 72 [(Vl (.pointer (some q75))), (Vl (.int .i64 a0_2))] [⟨.pointer (some q75), [(Vl (.int .i64 r75.1)), (Vl (.int .i64 r75.2.1)), (Sl Kf r75.2.2.1), (Vl (.int .i64 r75.2.2.2.1)), (Sl (Ki .i64) r75.2.2.2.2)], 139, none⟩] (fun x : Unit => (Vl (.pointer (some q75)))) (fun x => [⟨.pointer (some q75), [(Vl (.int .i64 r78.1)), (Vl (.int .i64 r78.2.1)), (Sl Kf r78.2.2.1), (Vl (.int .i64 r78.2.2.2.1)), (Sl (Ki .i64) r78.2.2.2.2)], 139, none⟩])) [0] [1] (by decide) (pick_cons rfl pick_nil) (pick_cons rfl pick_nil) (Hn := fun x : Unit => [⟨.pointer (some q75), [(Vl (.int .i64 r78.1)), (Vl (.int .i64 r78.2.1)), (Sl Kf r78.2.2.1), (Vl (.int .i64 r78.2.2.2.1)), (Sl (Ki .i64) r78.2.2.2.2)], 139, none⟩, ⟨.pointer (some q1), [(Vl (.int .i64 a0_0)), (Vl (.int .i64 a0_1)), (Vl (.int .i64 a0_2)), (Sl Kf a0_3), (Vl (.slice none 0 0)), (Vl (.slice none 0 0)), (Vl (.slice none 0 0))], 27, none⟩]) (fun _ => rfl) rfl rfl) (pick_cons rfl pick_nil) rfl bl_nil (wt_none' rfl) fun ⟨⟩ => ?_
              refine px_rd' rfl (rd_iface' rfl ⟨_, Try.underlying73, fun _ h => (nomatch h)⟩) rfl rfl (wt_none' rfl) ?_
              refine px_rd' rfl (rd_assign' rfl) rfl rfl (wt_none' rfl) ?_
              refine px_nil' ?_
              show TX E K16 _
              refine tx_k' hK16 ?_
              refine cx_retc' ?_
              replace hp := Option.some.inj hp
              subst hp
              refine tx_pick' (L' := [(2, (If 73 (Vl (.pointer (some q75)))))]) (H' := [⟨.pointer (some q75), [(Vl (.int .i64 r78.1)), (Vl (.int .i64 r78.2.1)), (Sl Kf r78.2.2.1), (Vl (.int .i64 r78.2.2.2.1)), (Sl (Ki .i64) r78.2.2.2.2)], 139, none⟩]) [0] (sub_cons rfl sub_nil) (by decide) (pick_cons rfl pick_nil) ?_
              exact tx_ret1' Try.results30 rfl q75 (rv_tmp' rfl) (List.Sublist.refl _)
            · replace hp := (br_f h6).symm.trans hp
              refine cx_seq' fun K17 hK17 => ?_
              refine cx_region' ?_
              refine sx_rd' (rd_bin' rfl rfl eg_int ru_eql) rfl rfl (wt_none' rfl) ?_
              refine sx_rd' (rd_assign' rfl) rfl rfl (wt_none' rfl) ?_
              refine sx_nil' ?_
              show TX E K17 _
              refine tx_k' hK17 ?_
              refine cx_cond' rfl (fun h7 => ?_) (fun h7 => ?_)
              · replace hp := (br_t h7).symm.trans hp
                refine cx_seq' fun K18 hK18 => ?_
                refine cx_plan' [] [(8, 1)] [(0, 1), (1, 1), (2, 1), (3, 1), (6, 1), (7, 1), (4, 0), (5, 0), (8, 0), (9, 1), (10, 1)] mixed (by kernel_rfl) ?_
                refine px_rd' rfl (rd_move' rfl) rfl rfl (wt_none' rfl) ?_
                refine px_rd' rfl (rd_move' rfl) rfl rfl (wt_none' rfl) ?_
                refine px_rd' rfl (rd_field' (off := 5) rfl Try.underlying27 rfl info24 rfl) rfl rfl (wt_none' rfl) ?_
                refine px_rd' rfl (rd_load' (i := 0) (o := 5) rfl ⟨rfl, rfl, rfl, rfl⟩ rfl flat24) rfl rfl (wt_none' rfl) ?_
                refine px_rd' rfl (rd_field' (off := 2) rfl Try.underlying27 rfl info3 rfl) rfl rfl (wt_none' rfl) ?_
                refine px_rd' rfl (rd_load' (i := 0) (o := 2) rfl ⟨rfl, rfl, rfl, rfl⟩ rfl flat3) rfl rfl (wt_none' rfl) ?_
                obtain ⟨r86, hr86, hp⟩ := bind_some hp
                refine px_ox' rfl (ox_calln' (ent_fn' Try.func29 isn29 rfl rfl) (impl_intss_v2_sim hr86 : Go.Sx.Fn Try.prog 29 [(Vl (.slice none 0 0))] [] (fun x : Unit => (Vl (.slice none 0 0))) (fun x => [])) (Hn := fun x : Unit => [⟨.pointer (some q1), [(Vl (.int .i64 a0_0)), (Vl (.int .i64 a0_1)), (Vl (.int .i64 a0_2)), (Sl Kf a0_3), (Vl (.slice none 0 0)), (Vl (.slice none 0 0)), (Vl (.slice none 0 0))], 27, none⟩]) (fun _ => rfl) rfl rfl) rfl bs_nil (wt_none' rfl) fun ⟨⟩ => ?_
                obtain ⟨r87, hr87, hp⟩ := bind_some hp
                refine px_ox' rfl (ox_calln' (ent_fn' Try.func73 isn73 rfl rfl) (gogeom_NewMultiPolygonFlat_v2_sim _ _ hr87 : Go.Sx.Fn Try.prog 73 [(Vl (.int .i64 a0_1)), (Sl Kf r12), (Vl (.slice none 0 0))] [] (fun x : Addr => (Vl (.pointer (some x)))) (fun x => [⟨.pointer (some x), [(Vl (.int .i64 r87.1)), (Vl (.int .i64 r87.2.1)), (Sl Kf r87.2.2.1), (Vl (.int .i64 r87.2.2.2)), (Vl (.slice none 0 0))], 143, none⟩])) (Hn := fun x : Addr => [⟨.pointer (some x), [(Vl (.int .i64 r87.1)), (Vl (.int .i64 r87.2.1)), (Sl Kf r87.2.2.1), (Vl (.int .i64 r87.2.2.2)), (Vl (.slice none 0 0))], 143, none⟩, ⟨.pointer (some q1), [(Vl (.int .i64 a0_0)), (Vl (.int .i64 a0_1)), (Vl (.int .i64 a0_2)), (Sl Kf a0_3), (Vl (.slice none 0 0)), (Vl (.slice none 0 0)), (Vl (.slice none 0 0))], 27, none⟩]) (fun _ => rfl) rfl rfl) rfl bs_nil (wt_none' rfl) fun q87 => ?_
                obtain ⟨r90, hr90, hp⟩ := bind_some hp
                refine px_oxb' (is := [0]) rfl (oxb_callg (ent_fn' Try.func74 isn74 rfl rfl) (gogeom_MultiPolygon_SetSRID_v2_sim _ _ _ _ _ hr90 : Go.Sx.Fn Try.prog 74 [(Vl (.pointer (some q87))), (Vl (.int .i64 a0_2))] [⟨.pointer (some q87), [(Vl (.int .i64 r87.1)), (Vl (.int .i64 r87.2.1)), (Sl Kf r87.2.2.1), (Vl (.int .i64 r87.2.2.2)), (Vl (.slice none 0 0))], 143, none⟩] (fun x : Unit => (Vl (.pointer (some q87)))) (fun x => [⟨.pointer (some q87), [(Vl (.int .i64 r90.1)), (Vl (.int .i64 r90.2.1)), (Sl Kf r90.2.2.1), (Vl (.int .i64 r90.2.2.2)), (Vl (.slice none 0 0))], 143, none⟩])) [0] [1] (by decide) (pick_cons rfl pick_nil) (pick_cons rfl pick_nil) (Hn := fun x : Unit => [⟨.pointer (some q87), [(Vl (.int .i64 r90.1)), (Vl (.int .i64 r90.2.1)), (Sl Kf r90.2.2.1), (Vl (.int .i64 r90.2.2.2)), (Vl (.slice none 0 0))], 143, none⟩, ⟨.pointer (some q1), [(Vl (.int .i64 a0_0)), (Vl (.int .i64 a0_1)), (Vl (.int .i64 a0_2)), (Sl Kf a0_3), (Vl (.slice none 0 0)), (Vl (.slice none 0 0)), (Vl (.slice none 0 0))], 27, none⟩]) (fun _ => rfl) rfl rfl) (pick_cons rfl pick_nil) rfl bl_nil (wt_none' rfl) fun ⟨⟩ => ?_
                refine px_rd' rfl (rd_iface' rfl ⟨_, Try.underlying76, fun _ h => (nomatch h)⟩) rfl rfl (wt_none' rfl) ?_
                refine px_rd' rfl (rd_assign' rfl) rfl rfl (wt_none' rfl) ?_
                refine px_nil' ?_
                show TX E K18 _
                refine tx_k' hK18 ?_
                refine cx_retc' ?_
                replace hp := Option.some.inj hp
                subst hp
                refine tx_pick' (L' := [(2, (If 76 (Vl (.pointer (some q87)))))]) (H' := [⟨.pointer (some q87), [(Vl (.int .i64 r90.1)), (Vl (.int .i64 r90.2.1)), (Sl Kf r90.2.2.1), (Vl (.int .i64 r90.2.2.2)), (Vl (.slice none 0 0))], 143, none⟩]) [0] (sub_cons rfl sub_nil) (by decide) (pick_cons rfl pick_nil) ?_
                exact tx_ret1' Try.results30 rfl q87 (rv_tmp' rfl) (List.Sublist.refl _)
              · replace hp := (br_f h7).symm.trans hp
                refine cx_seq' fun K19 hK19 => ?_
                refine cx_region' ?_
                refine sx_rd' (rd_bin' rfl rfl eg_int ru_eql) rfl rfl (wt_none' rfl) ?_
                refine sx_rd' (rd_assign' rfl) rfl rfl (wt_none' rfl) ?_
                refine sx_nil' ?_
                show TX E K19 _
                refine tx_k' hK19 ?_
                refine cx_cond' rfl (fun h8 => ?_) (fun h8 => ?_)
                · replace hp := (br_t h8).symm.trans hp
                  refine cx_seq' fun K20 hK20 => ?_
                  refine cx_plan' [] [(3, 1)] [(1, 1), (2, 1), (0, 0), (3, 0), (4, 1)] mixed (by kernel_rfl) ?_
                  refine px_rd' rfl (rd_field' (off := 2) rfl Try.underlying27 rfl info3 rfl) rfl rfl (wt_none' rfl) ?_
                  refine px_rd' rfl (rd_load' (i := 0) (o := 2) rfl ⟨rfl, rfl, rfl, rfl⟩ rfl flat3) rfl rfl (wt_none' rfl) ?_
                  obtain ⟨r94, hr94, hp⟩ := bind_some hp
                  refine px_ox' rfl (ox_calln' (ent_fn' Try.func75 isn75 rfl rfl) (gogeom_NewGeometryCollection_sim hr94 : Go.Sx.Fn Try.prog 75 [] [] (fun x : Addr => (Vl (.pointer (some x)))) (fun x => [⟨.pointer (some x), [(Vl (.int .i64 r94)), (Vl (.slice none 0 0)), (Vl (.int .i64 r94))], 114, none⟩])) (Hn := fun x : Addr => [⟨.pointer (some x), [(Vl (.int .i64 r94)), (Vl (.slice none 0 0)), (Vl (.int .i64 r94))], 114, none⟩, ⟨.pointer (some q1), [(Vl (.int .i64 a0_0)), (Vl (.int .i64 a0_1)), (Vl (.int .i64 a0_2)), (Sl Kf a0_3), (Vl (.slice none 0 0)), (Vl (.slice none 0 0)), (Vl (.slice none 0 0))], 27, none⟩]) (fun _ => rfl) rfl rfl) rfl bs_nil (wt_none' rfl) fun q94 => ?_
                  obtain ⟨r97, hr97, hp⟩ := bind_some hp
                  refine px_oxb' (is := [0]) rfl (oxb_callg (ent_fn' Try.func76 isn76 rfl rfl) (gogeom_GeometryCollection_SetSRID_sim _ _ _ hr97 : Go.Sx.Fn Try.prog 76 [(Vl (.pointer (some q94))), (Vl (.int .i64 a0_2))] [⟨.pointer (some q94), [(Vl (.int .i64 r94)), (Vl (.slice none 0 0)), (Vl (.int .i64 r94))], 114, none⟩] (fun x : Unit => (Vl (.pointer (some q94)))) (fun x => [⟨.pointer (some q94), [(Vl (.int .i64 r97.1)), (Vl (.slice none 0 0)), (Vl (.int .i64 r97.2))], 114, none⟩])) [0] [1] (by decide) (pick_cons rfl pick_nil) (pick_cons rfl pick_nil) (Hn := fun x : Unit => [⟨.pointer (some q94), [(Vl (.int .i64 r97.1)), (Vl (.slice none 0 0)), (Vl (.int .i64 r97.2))], 114, none⟩, ⟨.pointer (some q1), [(Vl (.int .i64 a0_0)), (Vl (.int .i64 a0_1)), (Vl (.int .i64 a0_2)), (Sl Kf a0_3), (Vl (.slice none 0 0)), (Vl (.slice none 0 0)), (Vl (.slice none 0 0))], 27, none⟩]) (fun _ => rfl) rfl rfl) (pick_cons rfl pick_nil) rfl bl_nil (wt_none' rfl) fun ⟨⟩ => ?_
                  refine px_rd' rfl (rd_assign' rfl) rfl rfl (wt_none' rfl) ?_
                  refine px_nil' ?_
                  show TX E K20 _
                  refine tx_k' hK20 ?_
                  refine cx_seq' fun K21 hK21 => ?_
                  refine cx_seq' fun K22 hK22 => ?_
                  refine cx_region' ?_
                  refine sx_rd' (rd_field' (off := 6) rfl Try.underlying27 rfl info25 rfl) rfl rfl (wt_none' rfl) ?_
                  refine sx_rd' (rd_load' (i := 1) (o := 6) rfl ⟨rfl, rfl, rfl, rfl⟩ rfl flat25) rfl rfl (wt_none' rfl) ?_
                  refine sx_rd' (rd_lenv' rfl Try.underlying25) rfl rfl (wt_none' rfl) ?_
                  refine sx_rd' (rd_move' rfl) rfl rfl (wt_none' rfl) ?_
                  refine sx_nil' ?_
                  show TX E K22 _
                  refine tx_k' hK22 ?_
                  refine cx_block' ?_
                  refine tx_loop' ?_
                  refine tx_round' ?_
                  refine cx_seq' fun K23 hK23 => ?_
                  refine cx_region' ?_
                  refine sx_rd' (rd_bin' rfl rfl eg_int ru_lss) rfl rfl (wt_none' rfl) ?_
                  refine sx_nil' ?_
                  show TX E K23 _
                  refine tx_k' hK23 ?_
                  refine cx_seq' fun K24 hK24 => ?_
                  refine cx_cond_f' rfl rfl ?_
                  refine cx_exit' ?_
                  show TX E K21 _
                  refine tx_k' hK21 ?_
                  refine cx_seq' fun K25 hK25 => ?_
                  refine cx_region' ?_
                  refine sx_rd' (rd_move' rfl) rfl rfl (wt_none' rfl) ?_
                  refine sx_rd' (rd_move' rfl) rfl rfl (wt_none' rfl) ?_
                  obtain ⟨r113, hr113, hp⟩ := bind_some hp
                  refine sx_ox' (ox_callg' (ent_fn' Try.func78 isn78 rfl rfl) (gogeom_GeometryCollection_MustSetLayout_sim _ _ _ hr113 : Go.Sx.Fn Try.prog 78 [(Vl (.pointer (some q94))), (Vl (.int .i64 a0_1))] [⟨.pointer (some q94), [(Vl (.int .i64 r97.1)), (Vl (.slice none 0 0)), (Vl (.int .i64 r97.2))], 114, none⟩] (fun x : Unit => (Vl (.pointer (some q94)))) (fun x => [⟨.pointer (some q94), [(Vl (.int .i64 r113.1)), (Vl (.slice none 0 0)), (Vl (.int .i64 r113.2))], 114, none⟩])) [0] [1] (by decide) (pick_cons rfl pick_nil) (pick_cons rfl pick_nil) (Hn := fun x : Unit => [⟨.pointer (some q94), [(Vl (.int .i64 r113.1)), (Vl (.slice none 0 0)), (Vl (.int .i64 r113.2))], 114, none⟩, ⟨.pointer (some q1), [(Vl (.int .i64 a0_0)), (Vl (.int .i64 a0_1)), (Vl (.int .i64 a0_2)), (Sl Kf a0_3), (Vl (.slice none 0 0)), (Vl (.slice none 0 0)), (Vl (.slice none 0 0))], 27, none⟩]) (fun _ => rfl) rfl rfl) (wt_none' rfl) fun ⟨⟩ => ?_
                  refine sx_rd' (rd_iface' rfl ⟨_, Try.underlying57, fun _ h => (nomatch h)⟩) rfl rfl (wt_none' rfl) ?_
                  refine sx_rd' (rd_assign' rfl) rfl rfl (wt_none' rfl) ?_
                  refine sx_nil' ?_
                  show TX E K25 _
                  refine tx_k' hK25 ?_
                  refine cx_retc' ?_
                  replace hp := Option.some.inj hp
                  subst hp
                  refine tx_pick' (L' := [(2, (If 57 (Vl (.pointer (some q94)))))]) (H' := [⟨.pointer (some q94), [(Vl (.int .i64 r113.1)), (Vl (.slice none 0 0)), (Vl (.int .i64 r113.2))], 114, none⟩]) [0] (sub_cons rfl sub_nil) (by decide) (pick_cons rfl pick_nil) ?_
                  exact tx_ret1' Try.results30 rfl q94 (rv_tmp' rfl) (List.Sublist.refl _)
                · replace hp := (br_f h8).symm.trans hp
                  refine cx_skip' ?_
                  show TX E K3 _
                  refine tx_k' hK3 ?_
                  refine cx_region' ?_
                  refine sx_rd' (rd_iface' rfl ⟨_, Try.underlying9, fun _ h => (nomatch h)⟩) rfl rfl (wt_none' rfl) ?_
                  cases hp

def gogeom_geom3_Endss_v2 (k : Nat) (a0_0 : Int) (a0_1 : Int) (a0_2 : List Nat) (a0_3 : Int) : Option (Int × Int × (List Nat) × Int) :=
  some (a0_0, a0_1, a0_2, a0_3)

theorem gogeom_geom3_Endss_v2_sim {k : Nat} {wa0 : Addr} (a0_0 : Int) (a0_1 : Int) (a0_2 : List Nat) (a0_3 : Int) {out : Int × Int × (List Nat) × Int} (hp : gogeom_geom3_Endss_v2 k a0_0 a0_1 a0_2 a0_3 = some out) : Go.Sx.Fn Try.prog 141 [(Vl (.pointer (some wa0)))] [⟨.pointer (some wa0), [(Vl (.int .i64 a0_0)), (Vl (.int .i64 a0_1)), (Sl Kf a0_2), (Vl (.int .i64 a0_3)), (Vl (.slice none 0 0))], 143, none⟩] (fun w : Unit => (Vl (.slice none 0 0))) (fun w => [⟨.pointer (some wa0), [(Vl (.int .i64 out.1)), (Vl (.int .i64 out.2.1)), (Sl Kf out.2.2.1), (Vl (.int .i64 out.2.2.2)), (Vl (.slice none 0 0))], 143, none⟩]) := by
  unfold gogeom_geom3_Endss_v2 at hp
  refine fn_of Try.func141 rfl Try.ntmps141 rfl fun E hM => ?_
  refine cx_seq' fun K1 hK1 => ?_
  refine cx_region' ?_
  refine sx_rd' (rd_assign' rfl) rfl rfl (wt_none' rfl) ?_
  refine sx_nil' ?_
  show TX E K1 _
  refine tx_k' hK1 ?_
  refine cx_seq' fun K2 hK2 => ?_
  refine cx_region' ?_
  refine sx_rd' (rd_move' rfl) rfl rfl (wt_none' rfl) ?_
  refine sx_rd' (rd_nilck' rfl) rfl rfl (wt_none' rfl) ?_
  refine sx_rd' (rd_field' (off := 4) rfl Try.underlying141 rfl info24 rfl) rfl rfl (wt_none' rfl) ?_
  refine sx_rd' (rd_load' (i := 0) (o := 4) rfl ⟨rfl, rfl, rfl, rfl⟩ rfl flat24) rfl rfl (wt_none' rfl) ?_
  refine sx_rd' (rd_assign' rfl) rfl rfl (wt_none' rfl) ?_
  refine sx_nil' ?_
  show TX E K2 _
  refine tx_k' hK2 ?_
  refine cx_retc' ?_
  replace hp := Option.some.inj hp
  subst hp
  refine tx_pick' (L' := [(2, (Vl (.slice none 0 0)))]) (H' := [⟨.pointer (some wa0), [(Vl (.int .i64 a0_0)), (Vl (.int .i64 a0_1)), (Sl Kf a0_2), (Vl (.int .i64 a0_3)), (Vl (.slice none 0 0))], 143, none⟩]) [0] (sub_cons rfl sub_nil) (by decide) (pick_cons rfl pick_nil) ?_
  exact tx_ret1' Try.results141 rfl () (rv_tmp' rfl) (List.Sublist.refl _)

def gogeom_GeometryCollection_Endss_v2 (k : Nat) (a0_0 : Int) (a0_2 : Int) : Option (Unit) :=
  some ()

theorem gogeom_GeometryCollection_Endss_v2_sim {k : Nat} {wa0 : Addr} (a0_0 : Int) (a0_2 : Int) {out : Unit} (hp : gogeom_GeometryCollection_Endss_v2 k a0_0 a0_2 = some out) : Go.Sx.Fx Try.prog 123 [(Vl (.pointer (some wa0)))] [⟨.pointer (some wa0), [(Vl (.int .i64 a0_0)), (Vl (.slice none 0 0)), (Vl (.int .i64 a0_2))], 114, none⟩] true (fun w : Unit => (Vl undef)) (fun w => []) := by
  unfold gogeom_GeometryCollection_Endss_v2 at hp
  refine fx_of Try.func123 rfl Try.ntmps123 rfl fun E hM => ?_
  refine cx_seq' fun K1 hK1 => ?_
  refine cx_region' ?_
  refine sx_rd' (rd_assign' rfl) rfl rfl (wt_none' rfl) ?_
  refine sx_nil' ?_
  show TX E K1 _
  refine tx_k' hK1 ?_
  refine cx_region' ?_
  refine sx_rd' (rd_iface' rfl ⟨_, Try.underlying9, fun _ h => (nomatch h)⟩) rfl rfl (wt_none' rfl) ?_
  refine sx_panic' (pan_op' rfl) (wt_none' rfl) ?_
  replace hp := Option.some.inj hp
  subst hp
  show PanQ E (bodyPost Try.prog Try.f123 (PanE E)) _
  exact tx_panout' rfl

def impl_EndssOf_v2 (k : Nat) (a0_0 : Int) (a0_1 : Int) (a0_2 : Int) (a0_3 : List Nat) : Option (Bool) :=
  (impl_geometry_v2 k a0_0 a0_1 a0_2 a0_3) >>= fun r6 =>
  match r6 with
    | (.inl y1) =>
      ((gogeom_geom0_Endss k y1.1 y1.2.1 y1.2.2.1 y1.2.2.2) >>= fun r7 =>
      (impl_intss_v2 k) >>= fun r8 =>
      some true)
    | (.inr (.inl y1)) =>
      ((gogeom_geom0_Endss_v2 k y1.1 y1.2.1 y1.2.2.1 y1.2.2.2) >>= fun r7 =>
      (impl_intss_v2 k) >>= fun r8 =>
      some true)
    | (.inr (.inr (.inl y1))) =>
      ((gogeom_geom0_Endss_v3 k y1.1 y1.2.1 y1.2.2.1 y1.2.2.2) >>= fun r7 =>
      (impl_intss_v2 k) >>= fun r8 =>
      some true)
    | (.inr (.inr (.inr (.inl y1)))) =>
      ((gogeom_geom0_Endss_v4 k y1.1 y1.2.1 y1.2.2.1 y1.2.2.2.1 y1.2.2.2.2) >>= fun r7 =>
      (impl_intss_v2 k) >>= fun r8 =>
      some true)
    | (.inr (.inr (.inr (.inr (.inl y1))))) =>
      ((gogeom_geom0_Endss_v5 k y1.1 y1.2.1 y1.2.2.1 y1.2.2.2.1 y1.2.2.2.2) >>= fun r7 =>
      (impl_intss_v2 k) >>= fun r8 =>
      some true)
    | (.inr (.inr (.inr (.inr (.inr (.inl y1)))))) =>
      ((gogeom_geom0_Endss_v6 k y1.1 y1.2.1 y1.2.2.1 y1.2.2.2.1 y1.2.2.2.2) >>= fun r7 =>
      (impl_intss_v2 k) >>= fun r8 =>
      some true)
    | (.inr (.inr (.inr (.inr (.inr (.inr (.inl y1))))))) =>
      ((gogeom_geom3_Endss_v2 k y1.1 y1.2.1 y1.2.2.1 y1.2.2.2) >>= fun r7 =>
      (impl_intss_v2 k) >>= fun r8 =>
      some true)
    | (.inr (.inr (.inr (.inr (.inr (.inr (.inr y1))))))) =>
      ((gogeom_GeometryCollection_Endss_v2 k y1.1 y1.2) >>= fun r7 =>
      (impl_EndssOf_1 k false) >>= fun r951 =>
      some r951)

theorem impl_EndssOf_v2_sim {k : Nat} {wa0_3 : Gs} (a0_0 : Int) (a0_1 : Int) (a0_2 : Int) (a0_3 : List Nat) {out : Bool} (hp : impl_EndssOf_v2 k a0_0 a0_1 a0_2 a0_3 = some out) : Go.Sx.Fn Try.prog 9 [(Ag [(Vl (.int .i64 a0_0)), (Vl (.int .i64 a0_1)), (Vl (.int .i64 a0_2)), (Vl (Vs wa0_3)), (Vl (.slice none 0 0)), (Vl (.slice none 0 0)), (Vl (.slice none 0 0))])] [(Rw Kf 32 (Vs wa0_3) a0_3)] (fun w : Unit => (Tu [(Vl (.slice none 0 0)), (Vl (.bool out))])) (fun w => []) := by
  unfold impl_EndssOf_v2 at hp
  refine fnD_of Try.func9 rfl Try.ntmps9 rfl fun E hM => ?_
  refine cx_seq' fun K1 hK1 => ?_
  refine cx_region' ?_
  refine sx_ox' (ox_box' rfl (lv_ag _) rfl rfl) (wt_none' rfl) fun q1 => ?_
  refine sx_ox' (ox_alloc' info24 rfl rfl rfl rfl (l := [(Vl (.slice none 0 0))]) rfl) (wt_none' rfl) fun q2 => ?_
  refine sx_ox' (ox_alloc' info4 rfl rfl rfl rfl (l := [(Vl (.bool false))]) rfl) (wt_none' rfl) fun q3 => ?_
  refine sx_nil' ?_
  show TX E K1 _
  refine tx_k' hK1 ?_
  refine cx_seq' fun K2 hK2 => ?_
  refine cx_region' ?_
  refine sx_rd' (rd_mkfunc' (us := [.pointer (some q2), .pointer (some q3)]) rfl) rfl rfl (wt_none' rfl) ?_
  refine sx_ox' (ox_defer' rfl rfl) (wt_none' rfl) fun _ => ?_
  refine sx_nil' ?_
  show TX E K2 _
  refine tx_k' hK2 ?_
  refine cx_seq' fun K3 hK3 => ?_
  refine cx_region' ?_
  refine sx_rd' (rd_load_agg' (i := 2) (o := 0) (nn := 7) rfl ⟨rfl, rfl, rfl, rfl⟩ rfl agg27 (l' := [(Vl (.int .i64 a0_0)), (Vl (.int .i64 a0_1)), (Vl (.int .i64 a0_2)), (Vl (Vs wa0_3)), (Vl (.slice none 0 0)), (Vl (.slice none 0 0)), (Vl (.slice none 0 0))]) rfl) rfl rfl (wt_none' rfl) ?_
  obtain ⟨r6, hr6, hp⟩ := bind_some hp
  rcases r6 with y1 | y1 | y1 | y1 | y1 | y1 | y1 | y1
  · dsimp only at hp
    refine sx_ox' (ox_callg' (ent_fn' Try.func30 isn30 rfl rfl) (impl_geometry_v2_sim _ _ _ _ hr6 : Go.Sx.Fn Try.prog 30 [(Ag [(Vl (.int .i64 a0_0)), (Vl (.int .i64 a0_1)), (Vl (.int .i64 a0_2)), (Vl (Vs wa0_3)), (Vl (.slice none 0 0)), (Vl (.slice none 0 0)), (Vl (.slice none 0 0))])] [(Rw Kf 32 (Vs wa0_3) a0_3)] (fun x : Addr => (If 72 (Vl (.pointer (some x))))) (fun x => [⟨.pointer (some x), [(Vl (.int .i64 y1.1)), (Vl (.int .i64 y1.2.1)), (Sl Kf y1.2.2.1), (Vl (.int .i64 y1.2.2.2))], 135, none⟩])) [3] [0, 1, 2] (by decide) (pick_cons rfl pick_nil) (pick_cons rfl (pick_cons rfl (pick_cons rfl pick_nil))) (Hn := fun x : Addr => [⟨.pointer (some x), [(Vl (.int .i64 y1.1)), (Vl (.int .i64 y1.2.1)), (Sl Kf y1.2.2.1), (Vl (.int .i64 y1.2.2.2))], 135, none⟩, ⟨.pointer (some q3), [(Vl (.bool false))], 4, none⟩, ⟨.pointer (some q2), [(Vl (.slice none 0 0))], 24, none⟩, ⟨.pointer (some q1), [(Vl (.int .i64 a0_0)), (Vl (.int .i64 a0_1)), (Vl (.int .i64 a0_2)), (Vl (Vs wa0_3)), (Vl (.slice none 0 0)), (Vl (.slice none 0 0)), (Vl (.slice none 0 0))], 27, none⟩]) (fun _ => rfl) rfl rfl) (wt_none' rfl) fun q6 => ?_
    obtain ⟨r7, hr7, hp⟩ := bind_some hp
    refine sx_ox' (ox_callg' (ent_inv' rfl rfl (inv_ptr0 (inv72_Endss _))) (gogeom_geom0_Endss_sim _ _ _ _ hr7 : Go.Sx.Fn Try.prog 132 [(Vl (.pointer (some q6)))] [⟨.pointer (some q6), [(Vl (.int .i64 y1.1)), (Vl (.int .i64 y1.2.1)), (Sl Kf y1.2.2.1), (Vl (.int .i64 y1.2.2.2))], 135, none⟩] (fun x : Unit => (Vl (.slice none 0 0))) (fun x => [⟨.pointer (some q6), [(Vl (.int .i64 r7.1)), (Vl (.int .i64 r7.2.1)), (Sl Kf r7.2.2.1), (Vl (.int .i64 r7.2.2.2))], 135, none⟩])) [0] [1, 2, 3] (by decide) (pick_cons rfl pick_nil) (pick_cons rfl (pick_cons rfl (pick_cons rfl pick_nil))) (Hn := fun x : Unit => [⟨.pointer (some q6), [(Vl (.int .i64 r7.1)), (Vl (.int .i64 r7.2.1)), (Sl Kf r7.2.2.1), (Vl (.int .i64 r7.2.2.2))], 135, none⟩, ⟨.pointer (some q3), [(Vl (.bool false))], 4, none⟩, ⟨.pointer (some q2), [(Vl (.slice none 0 0))], 24, none⟩, ⟨.pointer (some q1), [(Vl (.int .i64 a0_0)), (Vl (.int .i64 a0_1)), (Vl (.int .i64 a0_2)), (Vl (Vs wa0_3)), (Vl (.slice none 0 0)), (Vl (.slice none 0 0)), (Vl (.slice none 0 0))], 27, none⟩]) (fun _ => rfl) rfl rfl) (wt_none' rfl) fun ⟨⟩ => ?_
    obtain ⟨r8, hr8, hp⟩ := bind_some hp
    refine sx_ox' (ox_calln' (ent_fn' Try.func29 isn29 rfl rfl) (impl_intss_v2_sim hr8 : Go.Sx.Fn Try.prog 29 [(Vl (.slice none 0 0))] [] (fun x : Unit => (Vl (.slice none 0 0))) (fun x => [])) (Hn := fun x : Unit => [⟨.pointer (some q6), [(Vl (.int .i64 r7.1)), (Vl (.int .i64 r7.2.1)), (Sl Kf r7.2.2.1), (Vl (.int .i64 r7.2.2.2))], 135, none⟩, ⟨.pointer (some q3), [(Vl (.bool false))], 4, none⟩, ⟨.pointer (some q2), [(Vl (.slice none 0 0))], 24, none⟩, ⟨.pointer (some q1), [(Vl (.int .i64 a0_0)), (Vl (.int .i64 a0_1)), (Vl (.int .i64 a0_2)), (Vl (Vs wa0_3)), (Vl (.slice none 0 0)), (Vl (.slice none 0 0)), (Vl (.slice none 0 0))], 27, none⟩]) (fun _ => rfl) rfl rfl) (wt_none' rfl) fun ⟨⟩ => ?_
    refine sx_ox' (ox_store' (i := 2) (o := 0) rfl rfl (lv_vl rfl rfl) ⟨rfl, rfl, rfl, rfl⟩ rfl info24 rfl (H' := [⟨.pointer (some q6), [(Vl (.int .i64 r7.1)), (Vl (.int .i64 r7.2.1)), (Sl Kf r7.2.2.1), (Vl (.int .i64 r7.2.2.2))], 135, none⟩, ⟨.pointer (some q3), [(Vl (.bool false))], 4, none⟩, ⟨.pointer (some q2), [(Vl (.slice none 0 0))], 24, none⟩, ⟨.pointer (some q1), [(Vl (.int .i64 a0_0)), (Vl (.int .i64 a0_1)), (Vl (.int .i64 a0_2)), (Vl (Vs wa0_3)), (Vl (.slice none 0 0)), (Vl (.slice none 0 0)), (Vl (.slice none 0 0))], 27, none⟩]) rfl) (wt_none' rfl) fun _ => ?_
    refine sx_ox' (ox_store' (i := 1) (o := 0) rfl rfl (lv_vl rfl rfl) ⟨rfl, rfl, rfl, rfl⟩ rfl info4 rfl (H' := [⟨.pointer (some q6), [(Vl (.int .i64 r7.1)), (Vl (.int .i64 r7.2.1)), (Sl Kf r7.2.2.1), (Vl (.int .i64 r7.2.2.2))], 135, none⟩, ⟨.pointer (some q3), [(Vl (.bool true))], 4, none⟩, ⟨.pointer (some q2), [(Vl (.slice none 0 0))], 24, none⟩, ⟨.pointer (some q1), [(Vl (.int .i64 a0_0)), (Vl (.int .i64 a0_1)), (Vl (.int .i64 a0_2)), (Vl (Vs wa0_3)), (Vl (.slice none 0 0)), (Vl (.slice none 0 0)), (Vl (.slice none 0 0))], 27, none⟩]) rfl) (wt_none' rfl) fun _ => ?_
    refine sx_nil' ?_
    show TX E K3 _
    refine tx_k' hK3 ?_
    refine cx_retc' ?_
    replace hp := Option.some.inj hp
    subst hp
    refine tx_leave' (.inl rfl) rfl idle28 rfl Try.func28 isn28 rfl ?_
    refine tx_pick' (L' := [(2, (Vl (.pointer (some q2)))), (3, (Vl (.pointer (some q3))))]) (H' := [⟨.pointer (some q2), [(Vl (.slice none 0 0))], 24, none⟩, ⟨.pointer (some q3), [(Vl (.bool true))], 4, none⟩]) [2, 1] (sub_cons rfl (sub_cons rfl sub_nil)) (by decide) (pick_cons rfl (pick_cons rfl pick_nil)) ?_
    exact tx_ret2' Try.results9 rfl () (rv_cell' (i := 0) (o := 0) rfl ⟨rfl, rfl, rfl, rfl⟩ rfl flat24) (rv_cell' (i := 1) (o := 0) rfl ⟨rfl, rfl, rfl, rfl⟩ rfl flat4) rfl (List.nil_sublist _)
  · dsimp only at hp
    refine sx_ox' (ox_callg' (ent_fn' Try.func30 isn30 rfl rfl) (impl_geometry_v2_sim _ _ _ _ hr6 : Go.Sx.Fn Try.prog 30 [(Ag [(Vl (.int .i64 a0_0)), (Vl (.int .i64 a0_1)), (Vl (.int .i64 a0_2)), (Vl (Vs wa0_3)), (Vl (.slice none 0 0)), (Vl (.slice none 0 0)), (Vl (.slice none 0 0))])] [(Rw Kf 32 (Vs wa0_3) a0_3)] (fun x : Addr => (If 75 (Vl (.pointer (some x))))) (fun x => [⟨.pointer (some x), [(Vl (.int .i64 y1.1)), (Vl (.int .i64 y1.2.1)), (Sl Kf y1.2.2.1), (Vl (.int .i64 y1.2.2.2))], 138, none⟩])) [3] [0, 1, 2] (by decide) (pick_cons rfl pick_nil) (pick_cons rfl (pick_cons rfl (pick_cons rfl pick_nil))) (Hn := fun x : Addr => [⟨.pointer (some x), [(Vl (.int .i64 y1.1)), (Vl (.int .i64 y1.2.1)), (Sl Kf y1.2.2.1), (Vl (.int .i64 y1.2.2.2))], 138, none⟩, ⟨.pointer (some q3), [(Vl (.bool false))], 4, none⟩, ⟨.pointer (some q2), [(Vl (.slice none 0 0))], 24, none⟩, ⟨.pointer (some q1), [(Vl (.int .i64 a0_0)), (Vl (.int .i64 a0_1)), (Vl (.int .i64 a0_2)), (Vl (Vs wa0_3)), (Vl (.slice none 0 0)), (Vl (.slice none 0 0)), (Vl (.slice none 0 0))], 27, none⟩]) (fun _ => rfl) rfl rfl) (wt_none' rfl) fun q6 => ?_
    obtain ⟨r7, hr7, hp⟩ := bind_some hp
    refine sx_ox' (ox_callg' (ent_inv' rfl rfl (inv_ptr0 (inv75_Endss _))) (gogeom_geom0_Endss_v2_sim _ _ _ _ hr7 : Go.Sx.Fn Try.prog 132 [(Vl (.pointer (some q6)))] [⟨.pointer (some q6), [(Vl (.int .i64 y1.1)), (Vl (.int .i64 y1.2.1)), (Sl Kf y1.2.2.1), (Vl (.int .i64 y1.2.2.2))], 138, none⟩] (fun x : Unit => (Vl (.slice none 0 0))) (fun x => [⟨.pointer (some q6), [(Vl (.int .i64 r7.1)), (Vl (.int .i64 r7.2.1)), (Sl Kf r7.2.2.1), (Vl (.int .i64 r7.2.2.2))], 138, none⟩])) [0] [1, 2, 3] (by decide) (pick_cons rfl pick_nil) (pick_cons rfl (pick_cons rfl (pick_cons rfl pick_nil))) (Hn := fun x : Unit => [⟨.pointer (some q6), [(Vl (.int .i64 r7.1)), (Vl (.int .i64 r7.2.1)), (Sl Kf r7.2.2.1), (Vl (.int .i64 r7.2.2.2))], 138, none⟩, ⟨.pointer (some q3), [(Vl (.bool false))], 4, none⟩, ⟨.pointer (some q2), [(Vl (.slice none 0 0))], 24, none⟩, ⟨.pointer (some q1), [(Vl (.int .i64 a0_0)), (Vl (.int .i64 a0_1)), (Vl (.int .i64 a0_2)), (Vl (Vs wa0_3)), (Vl (.slice none 0 0)), (Vl (.slice none 0 0)), (Vl (.slice none 0 0))], 27, none⟩]) (fun _ => rfl) rfl rfl) (wt_none' rfl) fun ⟨⟩ => ?_
    obtain ⟨r8, hr8, hp⟩ := bind_some hp
    refine sx_ox' (ox_calln' (ent_fn' Try.func29 isn29 rfl rfl) (impl_intss_v2_sim hr8 : Go.Sx.Fn Try.prog 29 [(Vl (.slice none 0 0))] [] (fun x : Unit => (Vl (.slice none 0 0))) (fun x => [])) (Hn := fun x : Unit => [⟨.pointer (some q6), [(Vl (.int .i64 r7.1)), (Vl (.int .i64 r7.2.1)), (Sl Kf r7.2.2.1), (Vl (.int .i64 r7.2.2.2))], 138, none⟩, ⟨.pointer (some q3), [(Vl (.bool false))], 4, none⟩, ⟨.pointer (some q2), [(Vl (.slice none 0 0))], 24, none⟩, ⟨.pointer (some q1), [(Vl (.int .i64 a0_0)), (Vl (.int .i64 a0_1)), (Vl (.int .i64 a0_2)), (Vl (Vs wa0_3)), (Vl (.slice none 0 0)), (Vl (.slice none 0 0)), (Vl (.slice none 0 0))], 27, none⟩]) (fun _ => rfl) rfl rfl) (wt_none' rfl) fun ⟨⟩ => ?_
    refine sx_ox' (ox_store' (i := 2) (o := 0) rfl rfl (lv_vl rfl rfl) ⟨rfl, rfl, rfl, rfl⟩ rfl info24 rfl (H' := [⟨.pointer (some q6), [(Vl (.int .i64 r7.1)), (Vl (.int .i64 r7.2.1)), (Sl Kf r7.2.2.1), (Vl (.int .i64 r7.2.2.2))], 138, none⟩, ⟨.pointer (some q3), [(Vl (.bool false))], 4, none⟩, ⟨.pointer (some q2), [(Vl (.slice none 0 0))], 24, none⟩, ⟨.pointer (some q1), [(Vl (.int .i64 a0_0)), (Vl (.int .i64 a0_1)), (Vl (.int .i64 a0_2)), (Vl (Vs wa0_3)), (Vl (.slice none 0 0)), (Vl (.slice none 0 0)), (Vl (.slice none 0 0))], 27, none⟩]) rfl) (wt_none' rfl) fun _ => ?_
    refine sx_ox' (ox_store' (i := 1) (o := 0) rfl rfl (lv_vl rfl rfl) ⟨rfl, rfl, rfl, rfl⟩ rfl info4 rfl (H' := [⟨.pointer (some q6), [(Vl (.int .i64 r7.1)), (Vl (.int .i64 r7.2.1)), (Sl Kf r7.2.2.1), (Vl (.int .i64 r7.2.2.2))], 138, none⟩, ⟨.pointer (some q3), [(Vl (.bool true))], 4, none⟩, ⟨.pointer (some q2), [(Vl (.slice none 0 0))], 24, none⟩, ⟨.pointer (some q1), [(Vl (.int .i64 a0_0)), (Vl (.int .i64 a0_1)), (Vl (.int .i64 a0_2)), (Vl (Vs wa0_3)), (Vl (.slice none 0 0)), (Vl (.slice none 0 0)), (Vl (.slice none 0 0))], 27, none⟩]) rfl) (wt_none' rfl) fun _ => ?_
    refine sx_nil' ?_
    show TX E K3 _
    refine tx_k' hK3 ?_
    refine cx_retc' ?_
    replace hp := Option.some.inj hp
    subst hp
    refine tx_leave' (.inl rfl) rfl idle28 rfl Try.func28 isn28 rfl ?_
    refine tx_pick' (L' := [(2, (Vl (.pointer (some q2)))), (3, (Vl (.pointer (some q3))))]) (H' := [⟨.pointer (some q2), [(Vl (.slice none 0 0))], 24, none⟩, ⟨.pointer (some q3), [(Vl (.bool true))], 4, none⟩]) [2, 1] (sub_cons rfl (sub_cons rfl sub_nil)) (by decide) (pick_cons rfl (pick_cons rfl pick_nil)) ?_
    exact tx_ret2' Try.results9 rfl () (rv_cell' (i := 0) (o := 0) rfl ⟨rfl, rfl, rfl, rfl⟩ rfl flat24) (rv_cell' (i := 1) (o := 0) rfl ⟨rfl, rfl, rfl, rfl⟩ rfl flat4) rfl (List.nil_sublist _)
  · dsimp only at hp
    refine sx_ox' (ox_callg' (ent_fn' Try.func30 isn30 rfl rfl) (impl_geometry_v2_sim _ _ _ _ hr6 : Go.Sx.Fn Try.prog 30 [(Ag [(Vl (.int .i64 a0_0)), (Vl (.int .i64 a0_1)), (Vl (.int .i64 a0_2)), (Vl (Vs wa0_3)), (Vl (.slice none 0 0)), (Vl (.slice none 0 0)), (Vl (.slice none 0 0))])] [(Rw Kf 32 (Vs wa0_3) a0_3)] (fun x : Addr => (If 69 (Vl (.pointer (some x))))) (fun x => [⟨.pointer (some x), [(Vl (.int .i64 y1.1)), (Vl (.int .i64 y1.2.1)), (Sl Kf y1.2.2.1), (Vl (.int .i64 y1.2.2.2))], 128, none⟩])) [3] [0, 1, 2] (by decide) (pick_cons rfl pick_nil) (pick_cons rfl (pick_cons rfl (pick_cons rfl pick_nil))) (Hn := fun x : Addr => [⟨.pointer (some x), [(Vl (.int .i64 y1.1)), (Vl (.int .i64 y1.2.1)), (Sl Kf y1.2.2.1), (Vl (.int .i64 y1.2.2.2))], 128, none⟩, ⟨.pointer (some q3), [(Vl (.bool false))], 4, none⟩, ⟨.pointer (some q2), [(Vl (.slice none 0 0))], 24, none⟩, ⟨.pointer (some q1), [(Vl (.int .i64 a0_0)), (Vl (.int .i64 a0_1)), (Vl (.int .i64 a0_2)), (Vl (Vs wa0_3)), (Vl (.slice none 0 0)), (Vl (.slice none 0 0)), (Vl (.slice none 0 0))], 27, none⟩]) (fun _ => rfl) rfl rfl) (wt_none' rfl) fun q6 => ?_
    obtain ⟨r7, hr7, hp⟩ := bind_some hp
    refine sx_ox' (ox_callg' (ent_inv' rfl rfl (inv_ptr0 (inv69_Endss _))) (gogeom_geom0_Endss_v3_sim _ _ _ _ hr7 : Go.Sx.Fn Try.prog 132 [(Vl (.pointer (some q6)))] [⟨.pointer (some q6), [(Vl (.int .i64 y1.1)), (Vl (.int .i64 y1.2.1)), (Sl Kf y1.2.2.1), (Vl (.int .i64 y1.2.2.2))], 128, none⟩] (fun x : Unit => (Vl (.slice none 0 0))) (fun x => [⟨.pointer (some q6), [(Vl (.int .i64 r7.1)), (Vl (.int .i64 r7.2.1)), (Sl Kf r7.2.2.1), (Vl (.int .i64 r7.2.2.2))], 128, none⟩])) [0] [1, 2, 3] (by decide) (pick_cons rfl pick_nil) (pick_cons rfl (pick_cons rfl (pick_cons rfl pick_nil))) (Hn := fun x : Unit => [⟨.pointer (some q6), [(Vl (.int .i64 r7.1)), (Vl (.int .i64 r7.2.1)), (Sl Kf r7.2.2.1), (Vl (.int .i64 r7.2.2.2))], 128, none⟩, ⟨.pointer (some q3), [(Vl (.bool false))], 4, none⟩, ⟨.pointer (some q2), [(Vl (.slice none 0 0))], 24, none⟩, ⟨.pointer (some q1), [(Vl (.int .i64 a0_0)), (Vl (.int .i64 a0_1)), (Vl (.int .i64 a0_2)), (Vl (Vs wa0_3)), (Vl (.slice none 0 0)), (Vl (.slice none 0 0)), (Vl (.slice none 0 0))], 27, none⟩]) (fun _ => rfl) rfl rfl) (wt_none' rfl) fun ⟨⟩ => ?_
    obtain ⟨r8, hr8, hp⟩ := bind_some hp
    refine sx_ox' (ox_calln' (ent_fn' Try.func29 isn29 rfl rfl) (impl_intss_v2_sim hr8 : Go.Sx.Fn Try.prog 29 [(Vl (.slice none 0 0))] [] (fun x : Unit => (Vl (.slice none 0 0))) (fun x => [])) (Hn := fun x : Unit => [⟨.pointer (some q6), [(Vl (.int .i64 r7.1)), (Vl (.int .i64 r7.2.1)), (Sl Kf r7.2.2.1), (Vl (.int .i64 r7.2.2.2))], 128, none⟩, ⟨.pointer (some q3), [(Vl (.bool false))], 4, none⟩, ⟨.pointer (some q2), [(Vl (.slice none 0 0))], 24, none⟩, ⟨.pointer (some q1), [(Vl (.int .i64 a0_0)), (Vl (.int .i64 a0_1)), (Vl (.int .i64 a0_2)), (Vl (Vs wa0_3)), (Vl (.slice none 0 0)), (Vl (.slice none 0 0)), (Vl (.slice none 0 0))], 27, none⟩]) (fun _ => rfl) rfl rfl) (wt_none' rfl) fun ⟨⟩ => ?_
    refine sx_ox' (ox_store' (i := 2) (o := 0) rfl rfl (lv_vl rfl rfl) ⟨rfl, rfl, rfl, rfl⟩ rfl info24 rfl (H' := [⟨.pointer (some q6), [(Vl (.int .i64 r7.1)), (Vl (.int .i64 r7.2.1)), (Sl Kf r7.2.2.1), (Vl (.int .i64 r7.2.2.2))], 128, none⟩, ⟨.pointer (some q3), [(Vl (.bool false))], 4, none⟩, ⟨.pointer (some q2), [(Vl (.slice none 0 0))], 24, none⟩, ⟨.pointer (some q1), [(Vl (.int .i64 a0_0)), (Vl (.int .i64 a0_1)), (Vl (.int .i64 a0_2)), (Vl (Vs wa0_3)), (Vl (.slice none 0 0)), (Vl (.slice none 0 0)), (Vl (.slice none 0 0))], 27, none⟩]) rfl) (wt_none' rfl) fun _ => ?_
    refine sx_ox' (ox_store' (i := 1) (o := 0) rfl rfl (lv_vl rfl rfl) ⟨rfl, rfl, rfl, rfl⟩ rfl info4 rfl (H' := [⟨.pointer (some q6), [(Vl (.int .i64 r7.1)), (Vl (.int .i64 r7.2.1)), (Sl Kf r7.2.2.1), (Vl (.int .i64 r7.2.2.2))], 128, none⟩, ⟨.pointer (some q3), [(Vl (.bool true))], 4, none⟩, ⟨.pointer (some q2), [(Vl (.slice none 0 0))], 24, none⟩, ⟨.pointer (some q1), [(Vl (.int .i64 a0_0)), (Vl (.int .i64 a0_1)), (Vl (.int .i64 a0_2)), (Vl (Vs wa0_3)), (Vl (.slice none 0 0)), (Vl (.slice none 0 0)), (Vl (.slice none 0 0))], 27, none⟩]) rfl) (wt_none' rfl) fun _ => ?_
    refine sx_nil' ?_
    show TX E K3 _
    refine tx_k' hK3 ?_
    refine cx_retc' ?_
    replace hp := Option.some.inj hp
    subst hp
    refine tx_leave' (.inl rfl) rfl idle28 rfl Try.func28 isn28 rfl ?_
    refine tx_pick' (L' := [(2, (Vl (.pointer (some q2)))), (3, (Vl (.pointer (some q3))))]) (H' := [⟨.pointer (some q2), [(Vl (.slice none 0 0))], 24, none⟩, ⟨.pointer (some q3), [(Vl (.bool true))], 4, none⟩]) [2, 1] (sub_cons rfl (sub_cons rfl sub_nil)) (by decide) (pick_cons rfl (pick_cons rfl pick_nil)) ?_
    exact tx_ret2' Try.results9 rfl () (rv_cell' (i := 0) (o := 0) rfl ⟨rfl, rfl, rfl, rfl⟩ rfl flat24) (rv_cell' (i := 1) (o := 0) rfl ⟨rfl, rfl, rfl, rfl⟩ rfl flat4) rfl (List.nil_sublist _)
  · dsimp only at hp
    refine sx_ox' (ox_callg' (ent_fn' Try.func30 isn30 rfl rfl) (impl_geometry_v2_sim _ _ _ _ hr6 : Go.Sx.Fn Try.prog 30 [(Ag [(Vl (.int .i64 a0_0)), (Vl (.int .i64 a0_1)), (Vl (.int .i64 a0_2)), (Vl (Vs wa0_3)), (Vl (.slice none 0 0)), (Vl (.slice none 0 0)), (Vl (.slice none 0 0))])] [(Rw Kf 32 (Vs wa0_3) a0_3)] (fun x : Addr => (If 67 (Vl (.pointer (some x))))) (fun x => [⟨.pointer (some x), [(Vl (.int .i64 y1.1)), (Vl (.int .i64 y1.2.1)), (Sl Kf y1.2.2.1), (Vl (.int .i64 y1.2.2.2.1)), (Sl (Ki .i64) y1.2.2.2.2)], 132, none⟩])) [3] [0, 1, 2] (by decide) (pick_cons rfl pick_nil) (pick_cons rfl (pick_cons rfl (pick_cons rfl pick_nil))) (Hn := fun x : Addr => [⟨.pointer (some x), [(Vl (.int .i64 y1.1)), (Vl (.int .i64 y1.2.1)), (Sl Kf y1.2.2.1), (Vl (.int .i64 y1.2.2.2.1)), (Sl (Ki .i64) y1.2.2.2.2)], 132, none⟩, ⟨.pointer (some q3), [(Vl (.bool false))], 4, none⟩, ⟨.pointer (some q2), [(Vl (.slice none 0 0))], 24, none⟩, ⟨.pointer (some q1), [(Vl (.int .i64 a0_0)), (Vl (.int .i64 a0_1)), (Vl (.int .i64 a0_2)), (Vl (Vs wa0_3)), (Vl (.slice none 0 0)), (Vl (.slice none 0 0)), (Vl (.slice none 0 0))], 27, none⟩]) (fun _ => rfl) rfl rfl) (wt_none' rfl) fun q6 => ?_
    obtain ⟨r7, hr7, hp⟩ := bind_some hp
    refine sx_ox' (ox_callg' (ent_inv' rfl rfl (inv_ptr0 (inv67_Endss _))) (gogeom_geom0_Endss_v4_sim _ _ _ _ _ hr7 : Go.Sx.Fn Try.prog 132 [(Vl (.pointer (some q6)))] [⟨.pointer (some q6), [(Vl (.int .i64 y1.1)), (Vl (.int .i64 y1.2.1)), (Sl Kf y1.2.2.1), (Vl (.int .i64 y1.2.2.2.1)), (Sl (Ki .i64) y1.2.2.2.2)], 132, none⟩] (fun x : Unit => (Vl (.slice none 0 0))) (fun x => [⟨.pointer (some q6), [(Vl (.int .i64 r7.1)), (Vl (.int .i64 r7.2.1)), (Sl Kf r7.2.2.1), (Vl (.int .i64 r7.2.2.2.1)), (Sl (Ki .i64) r7.2.2.2.2)], 132, none⟩])) [0] [1, 2, 3] (by decide) (pick_cons rfl pick_nil) (pick_cons rfl (pick_cons rfl (pick_cons rfl pick_nil))) (Hn := fun x : Unit => [⟨.pointer (some q6), [(Vl (.int .i64 r7.1)), (Vl (.int .i64 r7.2.1)), (Sl Kf r7.2.2.1), (Vl (.int .i64 r7.2.2.2.1)), (Sl (Ki .i64) r7.2.2.2.2)], 132, none⟩, ⟨.pointer (some q3), [(Vl (.bool false))], 4, none⟩, ⟨.pointer (some q2), [(Vl (.slice none 0 0))], 24, none⟩, ⟨.pointer (some q1), [(Vl (.int .i64 a0_0)), (Vl (.int .i64 a0_1)), (Vl (.int .i64 a0_2)), (Vl (Vs wa0_3)), (Vl (.slice none 0 0)), (Vl (.slice none 0 0)), (Vl (.slice none 0 0))], 27, none⟩]) (fun _ => rfl) rfl rfl) (wt_none' rfl) fun ⟨⟩ => ?_
    obtain ⟨r8, hr8, hp⟩ := bind_some hp
    refine sx_ox' (ox_calln' (ent_fn' Try.func29 isn29 rfl rfl) (impl_intss_v2_sim hr8 : Go.Sx.Fn Try.prog 29 [(Vl (.slice none 0 0))] [] (fun x : Unit => (Vl (.slice none 0 0))) (fun x => [])) (Hn := fun x : Unit => [⟨.pointer (some q6), [(Vl (.int .i64 r7.1)), (Vl (.int .i64 r7.2.1)), (Sl Kf r7.2.2.1), (Vl (.int .i64 r7.2.2.2.1)), (Sl (Ki .i64) r7.2.2.2.2)], 132, none⟩, ⟨.pointer (some q3), [(Vl (.bool false))], 4, none⟩, ⟨.pointer (some q2), [(Vl (.slice none 0 0))], 24, none⟩, ⟨.pointer (some q1), [(Vl (.int .i64 a0_0)), (Vl (.int .i64 a0_1)), (Vl (.int .i64 a0_2)), (Vl (Vs wa0_3)), (Vl (.slice none 0 0)), (Vl (.slice none 0 0)), (Vl (.slice none 0 0))], 27, none⟩]) (fun _ => rfl) rfl rfl) (wt_none' rfl) fun ⟨⟩ => ?_
    refine sx_ox' (ox_store' (i := 2) (o := 0) rfl rfl (lv_vl rfl rfl) ⟨rfl, rfl, rfl, rfl⟩ rfl info24 rfl (H' := [⟨.pointer (some q6), [(Vl (.int .i64 r7.1)), (Vl (.int .i64 r7.2.1)), (Sl Kf r7.2.2.1), (Vl (.int .i64 r7.2.2.2.1)), (Sl (Ki .i64) r7.2.2.2.2)], 132, none⟩, ⟨.pointer (some q3), [(Vl (.bool false))], 4, none⟩, ⟨.pointer (some q2), [(Vl (.slice none 0 0))], 24, none⟩, ⟨.pointer (some q1), [(Vl (.int .i64 a0_0)), (Vl (.int .i64 a0_1)), (Vl (.int .i64 a0_2)), (Vl (Vs wa0_3)), (Vl (.slice none 0 0)), (Vl (.slice none 0 0)), (Vl (.slice none 0 0))], 27, none⟩]) rfl) (wt_none' rfl) fun _ => ?_
    refine sx_ox' (ox_store' (i := 1) (o := 0) rfl rfl (lv_vl rfl rfl) ⟨rfl, rfl, rfl, rfl⟩ rfl info4 rfl (H' := [⟨.pointer (some q6), [(Vl (.int .i64 r7.1)), (Vl (.int .i64 r7.2.1)), (Sl Kf r7.2.2.1), (Vl (.int .i64 r7.2.2.2.1)), (Sl (Ki .i64) r7.2.2.2.2)], 132, none⟩, ⟨.pointer (some q3), [(Vl (.bool true))], 4, none⟩, ⟨.pointer (some q2), [(Vl (.slice none 0 0))], 24, none⟩, ⟨.pointer (some q1), [(Vl (.int .i64 a0_0)), (Vl (.int .i64 a0_1)), (Vl (.int .i64 a0_2)), (Vl (Vs wa0_3)), (Vl (.slice none 0 0)), (Vl (.slice none 0 0)), (Vl (.slice none 0 0))], 27, none⟩]) rfl) (wt_none' rfl) fun _ => ?_
    refine sx_nil' ?_
    show TX E K3 _
    refine tx_k' hK3 ?_
    refine cx_retc' ?_
    replace hp := Option.some.inj hp
    subst hp
    refine tx_leave' (.inl rfl) rfl idle28 rfl Try.func28 isn28 rfl ?_
    refine tx_pick' (L' := [(2, (Vl (.pointer (some q2)))), (3, (Vl (.pointer (some q3))))]) (H' := [⟨.pointer (some q2), [(Vl (.slice none 0 0))], 24, none⟩, ⟨.pointer (some q3), [(Vl (.bool true))], 4, none⟩]) [2, 1] (sub_cons rfl (sub_cons rfl sub_nil)) (by decide) (pick_cons rfl (pick_cons rfl pick_nil)) ?_
    exact tx_ret2' Try.results9 rfl () (rv_cell' (i := 0) (o := 0) rfl ⟨rfl, rfl, rfl, rfl⟩ rfl flat24) (rv_cell' (i := 1) (o := 0) rfl ⟨rfl, rfl, rfl, rfl⟩ rfl flat4) rfl (List.nil_sublist _)
  · dsimp only at hp
    refine sx_ox' (ox_callg' (ent_fn' Try.func30 isn30 rfl rfl) (impl_geometry_v2_sim _ _ _ _ hr6 : Go.Sx.Fn Try.prog 30 [(Ag [(Vl (.int .i64 a0_0)), (Vl (.int .i64 a0_1)), (Vl (.int .i64 a0_2)), (Vl (Vs wa0_3)), (Vl (.slice none 0 0)), (Vl (.slice none 0 0)), (Vl (.slice none 0 0))])] [(Rw Kf 32 (Vs wa0_3) a0_3)] (fun x : Addr => (If 70 (Vl (.pointer (some x))))) (fun x => [⟨.pointer (some x), [(Vl (.int .i64 y1.1)), (Vl (.int .i64 y1.2.1)), (Sl Kf y1.2.2.1), (Vl (.int .i64 y1.2.2.2.1)), (Sl (Ki .i64) y1.2.2.2.2)], 136, none⟩])) [3] [0, 1, 2] (by decide) (pick_cons rfl pick_nil) (pick_cons rfl (pick_cons rfl (pick_cons rfl pick_nil))) (Hn := fun x : Addr => [⟨.pointer (some x), [(Vl (.int .i64 y1.1)), (Vl (.int .i64 y1.2.1)), (Sl Kf y1.2.2.1), (Vl (.int .i64 y1.2.2.2.1)), (Sl (Ki .i64) y1.2.2.2.2)], 136, none⟩, ⟨.pointer (some q3), [(Vl (.bool false))], 4, none⟩, ⟨.pointer (some q2), [(Vl (.slice none 0 0))], 24, none⟩, ⟨.pointer (some q1), [(Vl (.int .i64 a0_0)), (Vl (.int .i64 a0_1)), (Vl (.int .i64 a0_2)), (Vl (Vs wa0_3)), (Vl (.slice none 0 0)), (Vl (.slice none 0 0)), (Vl (.slice none 0 0))], 27, none⟩]) (fun _ => rfl) rfl rfl) (wt_none' rfl) fun q6 => ?_
    obtain ⟨r7, hr7, hp⟩ := bind_some hp
    refine sx_ox' (ox_callg' (ent_inv' rfl rfl (inv_ptr0 (inv70_Endss _))) (gogeom_geom0_Endss_v5_sim _ _ _ _ _ hr7 : Go.Sx.Fn Try.prog 132 [(Vl (.pointer (some q6)))] [⟨.pointer (some q6), [(Vl (.int .i64 y1.1)), (Vl (.int .i64 y1.2.1)), (Sl Kf y1.2.2.1), (Vl (.int .i64 y1.2.2.2.1)), (Sl (Ki .i64) y1.2.2.2.2)], 136, none⟩] (fun x : Unit => (Vl (.slice none 0 0))) (fun x => [⟨.pointer (some q6), [(Vl (.int .i64 r7.1)), (Vl (.int .i64 r7.2.1)), (Sl Kf r7.2.2.1), (Vl (.int .i64 r7.2.2.2.1)), (Sl (Ki .i64) r7.2.2.2.2)], 136, none⟩])) [0] [1, 2, 3] (by decide) (pick_cons rfl pick_nil) (pick_cons rfl (pick_cons rfl (pick_cons rfl pick_nil))) (Hn := fun x : Unit => [⟨.pointer (some q6), [(Vl (.int .i64 r7.1)), (Vl (.int .i64 r7.2.1)), (Sl Kf r7.2.2.1), (Vl (.int .i64 r7.2.2.2.1)), (Sl (Ki .i64) r7.2.2.2.2)], 136, none⟩, ⟨.pointer (some q3), [(Vl (.bool false))], 4, none⟩, ⟨.pointer (some q2), [(Vl (.slice none 0 0))], 24, none⟩, ⟨.pointer (some q1), [(Vl (.int .i64 a0_0)), (Vl (.int .i64 a0_1)), (Vl (.int .i64 a0_2)), (Vl (Vs wa0_3)), (Vl (.slice none 0 0)), (Vl (.slice none 0 0)), (Vl (.slice none 0 0))], 27, none⟩]) (fun _ => rfl) rfl rfl) (wt_none' rfl) fun ⟨⟩ => ?_
    obtain ⟨r8, hr8, hp⟩ := bind_some hp
    refine sx_ox' (ox_calln' (ent_fn' Try.func29 isn29 rfl rfl) (impl_intss_v2_sim hr8 : Go.Sx.Fn Try.prog 29 [(Vl (.slice none 0 0))] [] (fun x : Unit => (Vl (.slice none 0 0))) (fun x => [])) (Hn := fun x : Unit => [⟨.pointer (some q6), [(Vl (.int .i64 r7.1)), (Vl (.int .i64 r7.2.1)), (Sl Kf r7.2.2.1), (Vl (.int .i64 r7.2.2.2.1)), (Sl (Ki .i64) r7.2.2.2.2)], 136, none⟩, ⟨.pointer (some q3), [(Vl (.bool false))], 4, none⟩, ⟨.pointer (some q2), [(Vl (.slice none 0 0))], 24, none⟩, ⟨.pointer (some q1), [(Vl (.int .i64 a0_0)), (Vl (.int .i64 a0_1)), (Vl (.int .i64 a0_2)), (Vl (Vs wa0_3)), (Vl (.slice none 0 0)), (Vl (.slice none 0 0)), (Vl (.slice none 0 0))], 27, none⟩]) (fun _ => rfl) rfl rfl) (wt_none' rfl) fun ⟨⟩ => ?_
    refine sx_ox' (ox_store' (i := 2) (o := 0) rfl rfl (lv_vl rfl rfl) ⟨rfl, rfl, rfl, rfl⟩ rfl info24 rfl (H' := [⟨.pointer (some q6), [(Vl (.int .i64 r7.1)), (Vl (.int .i64 r7.2.1)), (Sl Kf r7.2.2.1), (Vl (.int .i64 r7.2.2.2.1)), (Sl (Ki .i64) r7.2.2.2.2)], 136, none⟩, ⟨.pointer (some q3), [(Vl (.bool false))], 4, none⟩, ⟨.pointer (some q2), [(Vl (.slice none 0 0))], 24, none⟩, ⟨.pointer (some q1), [(Vl (.int .i64 a0_0)), (Vl (.int .i64 a0_1)), (Vl (.int .i64 a0_2)), (Vl (Vs wa0_3)), (Vl (.slice none 0 0)), (Vl (.slice none 0 0)), (Vl (.slice none 0 0))], 27, none⟩]) rfl) (wt_none' rfl) fun _ => ?_
    refine sx_ox' (ox_store' (i := 1) (o := 0) rfl rfl (lv_vl rfl rfl) ⟨rfl, rfl, rfl, rfl⟩ rfl info4 rfl (H' := [⟨.pointer (some q6), [(Vl (.int .i64 r7.1)), (Vl (.int .i64 r7.2.1)), (Sl Kf r7.2.2.1), (Vl (.int .i64 r7.2.2.2.1)), (Sl (Ki .i64) r7.2.2.2.2)], 136, none⟩, ⟨.pointer (some q3), [(Vl (.bool true))], 4, none⟩, ⟨.pointer (some q2), [(Vl (.slice none 0 0))], 24, none⟩, ⟨.pointer (some q1), [(Vl (.int .i64 a0_0)), (Vl (.int .i64 a0_1)), (Vl (.int .i64 a0_2)), (Vl (Vs wa0_3)), (Vl (.slice none 0 0)), (Vl (.slice none 0 0)), (Vl (.slice none 0 0))], 27, none⟩]) rfl) (wt_none' rfl) fun _ => ?_
    refine sx_nil' ?_
    show TX E K3 _
    refine tx_k' hK3 ?_
    refine cx_retc' ?_
    replace hp := Option.some.inj hp
    subst hp
    refine tx_leave' (.inl rfl) rfl idle28 rfl Try.func28 isn28 rfl ?_
    refine tx_pick' (L' := [(2, (Vl (.pointer (some q2)))), (3, (Vl (.pointer (some q3))))]) (H' := [⟨.pointer (some q2), [(Vl (.slice none 0 0))], 24, none⟩, ⟨.pointer (some q3), [(Vl (.bool true))], 4, none⟩]) [2, 1] (sub_cons rfl (sub_cons rfl sub_nil)) (by decide) (pick_cons rfl (pick_cons rfl pick_nil)) ?_
    exact tx_ret2' Try.results9 rfl () (rv_cell' (i := 0) (o := 0) rfl ⟨rfl, rfl, rfl, rfl⟩ rfl flat24) (rv_cell' (i := 1) (o := 0) rfl ⟨rfl, rfl, rfl, rfl⟩ rfl flat4) rfl (List.nil_sublist _)
  · dsimp only at hp
    refine sx_ox' (ox_callg' (ent_fn' Try.func30 isn30 rfl rfl) (impl_geometry_v2_sim _ _ _ _ hr6 : Go.Sx.Fn Try.prog 30 [(Ag [(Vl (.int .i64 a0_0)), (Vl (.int .i64 a0_1)), (Vl (.int .i64 a0_2)), (Vl (Vs wa0_3)), (Vl (.slice none 0 0)), (Vl (.slice none 0 0)), (Vl (.slice none 0 0))])] [(Rw Kf 32 (Vs wa0_3) a0_3)] (fun x : Addr => (If 73 (Vl (.pointer (some x))))) (fun x => [⟨.pointer (some x), [(Vl (.int .i64 y1.1)), (Vl (.int .i64 y1.2.1)), (Sl Kf y1.2.2.1), (Vl (.int .i64 y1.2.2.2.1)), (Sl (Ki .i64) y1.2.2.2.2)], 139, none⟩])) [3] [0, 1, 2] (by decide) (pick_cons rfl pick_nil) (pick_cons rfl (pick_cons rfl (pick_cons rfl pick_nil))) (Hn := fun x : Addr => [⟨.pointer (some x), [(Vl (.int .i64 y1.1)), (Vl (.int .i64 y1.2.1)), (Sl Kf y1.2.2.1), (Vl (.int .i64 y1.2.2.2.1)), (Sl (Ki .i64) y1.2.2.2.2)], 139, none⟩, ⟨.pointer (some q3), [(Vl (.bool false))], 4, none⟩, ⟨.pointer (some q2), [(Vl (.slice none 0 0))], 24, none⟩, ⟨.pointer (some q1), [(Vl (.int .i64 a0_0)), (Vl (.int .i64 a0_1)), (Vl (.int .i64 a0_2)), (Vl (Vs wa0_3)), (Vl (.slice none 0 0)), (Vl (.slice none 0 0)), (Vl (.slice none 0 0))], 27, none⟩]) (fun _ => rfl) rfl rfl) (wt_none' rfl) fun q6 => ?_
    obtain ⟨r7, hr7, hp⟩ := bind_some hp
    refine sx_ox' (ox_callg' (ent_inv' rfl rfl (inv_ptr0 (inv73_Endss _))) (gogeom_geom0_Endss_v6_sim _ _ _ _ _ hr7 : Go.Sx.Fn Try.prog 132 [(Vl (.pointer (some q6)))] [⟨.pointer (some q6), [(Vl (.int .i64 y1.1)), (Vl (.int .i64 y1.2.1)), (Sl Kf y1.2.2.1), (Vl (.int .i64 y1.2.2.2.1)), (Sl (Ki .i64) y1.2.2.2.2)], 139, none⟩] (fun x : Unit => (Vl (.slice none 0 0))) (fun x => [⟨.pointer (some q6), [(Vl (.int .i64 r7.1)), (Vl (.int .i64 r7.2.1)), (Sl Kf r7.2.2.1), (Vl (.int .i64 r7.2.2.2.1)), (Sl (Ki .i64) r7.2.2.2.2)], 139, none⟩])) [0] [1, 2, 3] (by decide) (pick_cons rfl pick_nil) (pick_cons rfl (pick_cons rfl (pick_cons rfl pick_nil))) (Hn := fun x : Unit => [⟨.pointer (some q6), [(Vl (.int .i64 r7.1)), (Vl (.int .i64 r7.2.1)), (Sl Kf r7.2.2.1), (Vl (.int .i64 r7.2.2.2.1)), (Sl (Ki .i64) r7.2.2.2.2)], 139, none⟩, ⟨.pointer (some q3), [(Vl (.bool false))], 4, none⟩, ⟨.pointer (some q2), [(Vl (.slice none 0 0))], 24, none⟩, ⟨.pointer (some q1), [(Vl (.int .i64 a0_0)), (Vl (.int .i64 a0_1)), (Vl (.int .i64 a0_2)), (Vl (Vs wa0_3)), (Vl (.slice none 0 0)), (Vl (.slice none 0 0)), (Vl (.slice none 0 0))], 27, none⟩]) (fun _ => rfl) rfl rfl) (wt_none' rfl) fun ⟨⟩ => ?_
    obtain ⟨r8, hr8, hp⟩ := bind_some hp
    refine sx_ox' (ox_calln' (ent_fn' Try.func29 isn29 rfl rfl) (impl_intss_v2_sim hr8 : Go.Sx.Fn Try.prog 29 [(Vl (.slice none 0 0))] [] (fun x : Unit => (Vl (.slice none 0 0))) (fun x => [])) (Hn := fun x : Unit => [⟨.pointer (some q6), [(Vl (.int .i64 r7.1)), (Vl (.int .i64 r7.2.1)), (Sl Kf r7.2.2.1), (Vl (.int .i64 r7.2.2.2.1)), (Sl (Ki .i64) r7.2.2.2.2)], 139, none⟩, ⟨.pointer (some q3), [(Vl (.bool false))], 4, none⟩, ⟨.pointer (some q2), [(Vl (.slice none 0 0))], 24, none⟩, ⟨.pointer (some q1), [(Vl (.int .i64 a0_0)), (Vl (.int .i64 a0_1)), (Vl (.int .i64 a0_2)), (Vl (Vs wa0_3)), (Vl (.slice none 0 0)), (Vl (.slice none 0 0)), (Vl (.slice none 0 0))], 27, none⟩]) (fun _ => rfl) rfl rfl) (wt_none' rfl) fun ⟨⟩ => ?_
    refine sx_ox' (ox_store' (i := 2) (o := 0) rfl rfl (lv_vl rfl rfl) ⟨rfl, rfl, rfl, rfl⟩ rfl info24 rfl (H' := [⟨.pointer (some q6), [(Vl (.int .i64 r7.1)), (Vl (.int .i64 r7.2.1)), (Sl Kf r7.2.2.1), (Vl (.int .i64 r7.2.2.2.1)), (Sl (Ki .i64) r7.2.2.2.2)], 139, none⟩, ⟨.pointer (some q3), [(Vl (.bool false))], 4, none⟩, ⟨.pointer (some q2), [(Vl (.slice none 0 0))], 24, none⟩, ⟨.pointer (some q1), [(Vl (.int .i64 a0_0)), (Vl (.int .i64 a0_1)), (Vl (.int .i64 a0_2)), (Vl (Vs wa0_3)), (Vl (.slice none 0 0)), (Vl (.slice none 0 0)), (Vl (.slice none 0 0))], 27, none⟩]) rfl) (wt_none' rfl) fun _ => ?_
    refine sx_ox' (ox_store' (i := 1) (o := 0) rfl rfl (lv_vl rfl rfl) ⟨rfl, rfl, rfl, rfl⟩ rfl info4 rfl (H' := [⟨.pointer (some q6), [(Vl (.int .i64 r7.1)), (Vl (.int .i64 r7.2.1)), (Sl Kf r7.2.2.1), (Vl (.int .i64 r7.2.2.2.1)), (Sl (Ki .i64) r7.2.2.2.2)], 139, none⟩, ⟨.pointer (some q3), [(Vl (.bool true))], 4, none⟩, ⟨.pointer (some q2), [(Vl (.slice none 0 0))], 24, none⟩, ⟨.pointer (some q1), [(Vl (.int .i64 a0_0)), (Vl (.int .i64 a0_1)), (Vl (.int .i64 a0_2)), (Vl (Vs wa0_3)), (Vl (.slice none 0 0)), (Vl (.slice none 0 0)), (Vl (.slice none 0 0))], 27, none⟩]) rfl) (wt_none' rfl) fun _ => ?_
    refine sx_nil' ?_
    show TX E K3 _
    refine tx_k' hK3 ?_
    refine cx_retc' ?_
    replace hp := Option.some.inj hp
    subst hp
    refine tx_leave' (.inl rfl) rfl idle28 rfl Try.func28 isn28 rfl ?_
    refine tx_pick' (L' := [(2, (Vl (.pointer (some q2)))), (3, (Vl (.pointer (some q3))))]) (H' := [⟨.pointer (some q2), [(Vl (.slice none 0 0))], 24, none⟩, ⟨.pointer (some q3), [(Vl (.bool true))], 4, none⟩]) [2, 1] (sub_cons rfl (sub_cons rfl sub_nil)) (by decide) (pick_cons rfl (pick_cons rfl pick_nil)) ?_
    exact tx_ret2' Try.results9 rfl () (rv_cell' (i := 0) (o := 0) rfl ⟨rfl, rfl, rfl, rfl⟩ rfl flat24) (rv_cell' (i := 1) (o := 0) rfl ⟨rfl, rfl, rfl, rfl⟩ rfl flat4) rfl (List.nil_sublist _)
  · dsimp only at hp
    refine sx_ox' (ox_callg' (ent_fn' Try.func30 isn30 rfl rfl) (impl_geometry_v2_sim _ _ _ _ hr6 : Go.Sx.Fn Try.prog 30 [(Ag [(Vl (.int .i64 a0_0)), (Vl (.int .i64 a0_1)), (Vl (.int .i64 a0_2)), (Vl (Vs wa0_3)), (Vl (.slice none 0 0)), (Vl (.slice none 0 0)), (Vl (.slice none 0 0))])] [(Rw Kf 32 (Vs wa0_3) a0_3)] (fun x : Addr => (If 76 (Vl (.pointer (some x))))) (fun x => [⟨.pointer (some x), [(Vl (.int .i64 y1.1)), (Vl (.int .i64 y1.2.1)), (Sl Kf y1.2.2.1), (Vl (.int .i64 y1.2.2.2)), (Vl (.slice none 0 0))], 143, none⟩])) [3] [0, 1, 2] (by decide) (pick_cons rfl pick_nil) (pick_cons rfl (pick_cons rfl (pick_cons rfl pick_nil))) (Hn := fun x : Addr => [⟨.pointer (some x), [(Vl (.int .i64 y1.1)), (Vl (.int .i64 y1.2.1)), (Sl Kf y1.2.2.1), (Vl (.int .i64 y1.2.2.2)), (Vl (.slice none 0 0))], 143, none⟩, ⟨.pointer (some q3), [(Vl (.bool false))], 4, none⟩, ⟨.pointer (some q2), [(Vl (.slice none 0 0))], 24, none⟩, ⟨.pointer (some q1), [(Vl (.int .i64 a0_0)), (Vl (.int .i64 a0_1)), (Vl (.int .i64 a0_2)), (Vl (Vs wa0_3)), (Vl (.slice none 0 0)), (Vl (.slice none 0 0)), (Vl (.slice none 0 0))], 27, none⟩]) (fun _ => rfl) rfl rfl) (wt_none' rfl) fun q6 => ?_
    obtain ⟨r7, hr7, hp⟩ := bind_some hp
    refine sx_ox' (ox_callg' (ent_inv' rfl rfl (inv_ptr0 (inv76_Endss _))) (gogeom_geom3_Endss_v2_sim _ _ _ _ hr7 : Go.Sx.Fn Try.prog 141 [(Vl (.pointer (some q6)))] [⟨.pointer (some q6), [(Vl (.int .i64 y1.1)), (Vl (.int .i64 y1.2.1)), (Sl Kf y1.2.2.1), (Vl (.int .i64 y1.2.2.2)), (Vl (.slice none 0 0))], 143, none⟩] (fun x : Unit => (Vl (.slice none 0 0))) (fun x => [⟨.pointer (some q6), [(Vl (.int .i64 r7.1)), (Vl (.int .i64 r7.2.1)), (Sl Kf r7.2.2.1), (Vl (.int .i64 r7.2.2.2)), (Vl (.slice none 0 0))], 143, none⟩])) [0] [1, 2, 3] (by decide) (pick_cons rfl pick_nil) (pick_cons rfl (pick_cons rfl (pick_cons rfl pick_nil))) (Hn := fun x : Unit => [⟨.pointer (some q6), [(Vl (.int .i64 r7.1)), (Vl (.int .i64 r7.2.1)), (Sl Kf r7.2.2.1), (Vl (.int .i64 r7.2.2.2)), (Vl (.slice none 0 0))], 143, none⟩, ⟨.pointer (some q3), [(Vl (.bool false))], 4, none⟩, ⟨.pointer (some q2), [(Vl (.slice none 0 0))], 24, none⟩, ⟨.pointer (some q1), [(Vl (.int .i64 a0_0)), (Vl (.int .i64 a0_1)), (Vl (.int .i64 a0_2)), (Vl (Vs wa0_3)), (Vl (.slice none 0 0)), (Vl (.slice none 0 0)), (Vl (.slice none 0 0))], 27, none⟩]) (fun _ => rfl) rfl rfl) (wt_none' rfl) fun ⟨⟩ => ?_
    obtain ⟨r8, hr8, hp⟩ := bind_some hp
    refine sx_ox' (ox_calln' (ent_fn' Try.func29 isn29 rfl rfl) (impl_intss_v2_sim hr8 : Go.Sx.Fn Try.prog 29 [(Vl (.slice none 0 0))] [] (fun x : Unit => (Vl (.slice none 0 0))) (fun x => [])) (Hn := fun x : Unit => [⟨.pointer (some q6), [(Vl (.int .i64 r7.1)), (Vl (.int .i64 r7.2.1)), (Sl Kf r7.2.2.1), (Vl (.int .i64 r7.2.2.2)), (Vl (.slice none 0 0))], 143, none⟩, ⟨.pointer (some q3), [(Vl (.bool false))], 4, none⟩, ⟨.pointer (some q2), [(Vl (.slice none 0 0))], 24, none⟩, ⟨.pointer (some q1), [(Vl (.int .i64 a0_0)), (Vl (.int .i64 a0_1)), (Vl (.int .i64 a0_2)), (Vl (Vs wa0_3)), (Vl (.slice none 0 0)), (Vl (.slice none 0 0)), (Vl (.slice none 0 0))], 27, none⟩]) (fun _ => rfl) rfl rfl) (wt_none' rfl) fun ⟨⟩ => ?_
    refine sx_ox' (ox_store' (i := 2) (o := 0) rfl rfl (lv_vl rfl rfl) ⟨rfl, rfl, rfl, rfl⟩ rfl info24 rfl (H' := [⟨.pointer (some q6), [(Vl (.int .i64 r7.1)), (Vl (.int .i64 r7.2.1)), (Sl Kf r7.2.2.1), (Vl (.int .i64 r7.2.2.2)), (Vl (.slice none 0 0))], 143, none⟩, ⟨.pointer (some q3), [(Vl (.bool false))], 4, none⟩, ⟨.pointer (some q2), [(Vl (.slice none 0 0))], 24, none⟩, ⟨.pointer (some q1), [(Vl (.int .i64 a0_0)), (Vl (.int .i64 a0_1)), (Vl (.int .i64 a0_2)), (Vl (Vs wa0_3)), (Vl (.slice none 0 0)), (Vl (.slice none 0 0)), (Vl (.slice none 0 0))], 27, none⟩]) rfl) (wt_none' rfl) fun _ => ?_
    refine sx_ox' (ox_store' (i := 1) (o := 0) rfl rfl (lv_vl rfl rfl) ⟨rfl, rfl, rfl, rfl⟩ rfl info4 rfl (H' := [⟨.pointer (some q6), [(Vl (.int .i64 r7.1)), (Vl (.int .i64 r7.2.1)), (Sl Kf r7.2.2.1), (Vl (.int .i64 r7.2.2.2)), (Vl (.slice none 0 0))], 143, none⟩, ⟨.pointer (some q3), [(Vl (.bool true))], 4, none⟩, ⟨.pointer (some q2), [(Vl (.slice none 0 0))], 24, none⟩, ⟨.pointer (some q1), [(Vl (.int .i64 a0_0)), (Vl (.int .i64 a0_1)), (Vl (.int .i64 a0_2)), (Vl (Vs wa0_3)), (Vl (.slice none 0 0)), (Vl (.slice none 0 0)), (Vl (.slice none 0 0))], 27, none⟩]) rfl) (wt_none' rfl) fun _ => ?_
    refine sx_nil' ?_
    show TX E K3 _
    refine tx_k' hK3 ?_
    refine cx_retc' ?_
    replace hp := Option.some.inj hp
    subst hp
    refine tx_leave' (.inl rfl) rfl idle28 rfl Try.func28 isn28 rfl ?_
    refine tx_pick' (L' := [(2, (Vl (.pointer (some q2)))), (3, (Vl (.pointer (some q3))))]) (H' := [⟨.pointer (some q2), [(Vl (.slice none 0 0))], 24, none⟩, ⟨.pointer (some q3), [(Vl (.bool true))], 4, none⟩]) [2, 1] (sub_cons rfl (sub_cons rfl sub_nil)) (by decide) (pick_cons rfl (pick_cons rfl pick_nil)) ?_
    exact tx_ret2' Try.results9 rfl () (rv_cell' (i := 0) (o := 0) rfl ⟨rfl, rfl, rfl, rfl⟩ rfl flat24) (rv_cell' (i := 1) (o := 0) rfl ⟨rfl, rfl, rfl, rfl⟩ rfl flat4) rfl (List.nil_sublist _)
  · dsimp only at hp
    refine sx_ox' (ox_callg' (ent_fn' Try.func30 isn30 rfl rfl) (impl_geometry_v2_sim _ _ _ _ hr6 : Go.Sx.Fn Try.prog 30 [(Ag [(Vl (.int .i64 a0_0)), (Vl (.int .i64 a0_1)), (Vl (.int .i64 a0_2)), (Vl (Vs wa0_3)), (Vl (.slice none 0 0)), (Vl (.slice none 0 0)), (Vl (.slice none 0 0))])] [(Rw Kf 32 (Vs wa0_3) a0_3)] (fun x : Addr => (If 57 (Vl (.pointer (some x))))) (fun x => [⟨.pointer (some x), [(Vl (.int .i64 y1.1)), (Vl (.slice none 0 0)), (Vl (.int .i64 y1.2))], 114, none⟩])) [3] [0, 1, 2] (by decide) (pick_cons rfl pick_nil) (pick_cons rfl (pick_cons rfl (pick_cons rfl pick_nil))) (Hn := fun x : Addr => [⟨.pointer (some x), [(Vl (.int .i64 y1.1)), (Vl (.slice none 0 0)), (Vl (.int .i64 y1.2))], 114, none⟩, ⟨.pointer (some q3), [(Vl (.bool false))], 4, none⟩, ⟨.pointer (some q2), [(Vl (.slice none 0 0))], 24, none⟩, ⟨.pointer (some q1), [(Vl (.int .i64 a0_0)), (Vl (.int .i64 a0_1)), (Vl (.int .i64 a0_2)), (Vl (Vs wa0_3)), (Vl (.slice none 0 0)), (Vl (.slice none 0 0)), (Vl (.slice none 0 0))], 27, none⟩]) (fun _ => rfl) rfl rfl) (wt_none' rfl) fun q6 => ?_
    obtain ⟨r7, hr7, hp⟩ := bind_some hp
    obtain ⟨r951, hr951, hp⟩ := bind_some hp
    refine sx_callp' (ent_inv' rfl rfl (inv_any0 inv57_Endss)) (gogeom_GeometryCollection_Endss_v2_sim _ _ hr7 : Go.Sx.Fx Try.prog 123 [(Vl (.pointer (some q6)))] [⟨.pointer (some q6), [(Vl (.int .i64 y1.1)), (Vl (.slice none 0 0)), (Vl (.int .i64 y1.2))], 114, none⟩] true (fun x : Unit => (Vl undef)) (fun x => [])) [0] [1, 2, 3] (by decide) (pick_cons rfl pick_nil) (pick_cons rfl (pick_cons rfl (pick_cons rfl pick_nil))) (wt_none' rfl) ?_
    show PanQ E (bodyPostD _ _ (PostE E _ _)) _
    refine tx_caught' rfl (impl_EndssOf_1_sim _ hr951 : Go.Sx.Catch Try.prog 28 ([.pointer (some q2), .pointer (some q3)].map Vl) [⟨.pointer (some q2), [(Vl (.slice none 0 0))], 24, none⟩, ⟨.pointer (some q3), [(Vl (.bool false))], 4, none⟩] [⟨.pointer (some q2), [(Vl (.slice none 0 0))], 24, none⟩, ⟨.pointer (some q3), [(Vl (.bool r951))], 4, none⟩]) Try.func28 isn28 rfl [1, 0] [2] (by decide) (pick_cons rfl (pick_cons rfl pick_nil)) (pick_cons rfl pick_nil) ?_
    replace hp := Option.some.inj hp
    subst hp
    refine tx_pick' (L' := [(2, (Vl (.pointer (some q2)))), (3, (Vl (.pointer (some q3))))]) (H' := [⟨.pointer (some q2), [(Vl (.slice none 0 0))], 24, none⟩, ⟨.pointer (some q3), [(Vl (.bool r951))], 4, none⟩]) [0, 1] (sub_cons rfl (sub_cons rfl sub_nil)) (by decide) (pick_cons rfl (pick_cons rfl pick_nil)) ?_
    exact tx_ret2' Try.results9 rfl () (rv_cell' (i := 0) (o := 0) rfl ⟨rfl, rfl, rfl, rfl⟩ rfl flat24) (rv_cell' (i := 1) (o := 0) rfl ⟨rfl, rfl, rfl, rfl⟩ rfl flat4) rfl (List.nil_sublist _)

def laws_gInts_l1s (a0 : List Int) (a1 : List Int) (k : Nat) (rec1 : Int → Option (Unit ⊕ Unit)) (x1 : Int) : Option (Unit ⊕ Unit) :=
  br (decide (x1 < (a0.length : Int)))
    ((idx a0 x1) >>= fun r17 =>
    (idx a1 x1) >>= fun r22 =>
    br (!decide (r17 = r22))
      (some (.inl ()))
      (rec1 (iadd .i64 x1 1)))
    (some (.inr ()))
def laws_gInts_l1 (a0 : List Int) (a1 : List Int) : Nat → Int → Option (Unit ⊕ Unit)
  | 0, _ => none
  | k + 1, v => laws_gInts_l1s a0 a1 k (laws_gInts_l1 a0 a1 k) v
def laws_gInts (k : Nat) (a0 : List Int) (a1 : List Int) : Option (Bool) :=
  br (!decide ((a0.length : Int) = (a1.length : Int)))
    (some false)
    ((laws_gInts_l1 a0 a1 k 0) >>= fun y1 => match y1 with
      | (.inl v2) =>
        (some false)
      | (.inr v3) =>
        (some true))

theorem laws_gInts_sim {k : Nat}  (a0 : List Int) (a1 : List Int) {out : Bool} (hp : laws_gInts k a0 a1 = some out) : Go.Sx.Fn Try.prog 31 [(Sl (Ki .i64) a0), (Sl (Ki .i64) a1)] [] (fun w : Unit => (Vl (.bool out))) (fun w => []) := by
  unfold laws_gInts at hp
  refine fn_of Try.func31 rfl Try.ntmps31 rfl fun E hM => ?_
  refine cx_seq' fun K1 hK1 => ?_
  refine cx_region' ?_
  refine sx_rd' (rd_assign' rfl) rfl rfl (wt_none' rfl) ?_
  refine sx_nil' ?_
  show TX E K1 _
  refine tx_k' hK1 ?_
  refine cx_seq' fun K2 hK2 => ?_
  refine cx_seq' fun K3 hK3 => ?_
  refine cx_region' ?_
  refine sx_rd' (rd_move' rfl) rfl rfl (wt_none' rfl) ?_
  refine sx_rd' (rd_len' rfl Try.underlying23) rfl rfl (wt_none' rfl) ?_
  refine sx_rd' (rd_move' rfl) rfl rfl (wt_none' rfl) ?_
  refine sx_rd' (rd_len' rfl Try.underlying23) rfl rfl (wt_none' rfl) ?_
  refine sx_rd' (rd_bin' rfl rfl eg_int ru_neq) rfl rfl (wt_none' rfl) ?_
  refine sx_nil' ?_
  show TX E K3 _
  refine tx_k' hK3 ?_
  refine cx_cond' rfl (fun h1 => ?_) (fun h1 => ?_)
  · replace hp := (br_t h1).symm.trans hp
    refine cx_seq' fun K4 hK4 => ?_
    refine cx_region' ?_
    refine sx_rd' (rd_assign' rfl) rfl rfl (wt_none' rfl) ?_
    refine sx_nil' ?_
    show TX E K4 _
    refine tx_k' hK4 ?_
    refine cx_retc' ?_
    replace hp := Option.some.inj hp
    subst hp
    refine tx_pick' (L' := [(4, (Vl (.bool false)))]) (H' := []) [] (sub_cons rfl sub_nil) (by decide) pick_nil ?_
    exact tx_ret1' Try.results31 rfl () (rv_tmp' rfl) (List.Sublist.refl _)
  · replace hp := (br_f h1).symm.trans hp
    refine cx_skip' ?_
    show TX E K2 _
    refine tx_k' hK2 ?_
    refine cx_seq' fun K5 hK5 => ?_
    refine cx_seq' fun K6 hK6 => ?_
    refine cx_region' ?_
    refine sx_rd' (rd_move' rfl) rfl rfl (wt_none' rfl) ?_
    refine sx_rd' (rd_len' rfl Try.underlying23) rfl rfl (wt_none' rfl) ?_
    refine sx_rd' (rd_move' rfl) rfl rfl (wt_none' rfl) ?_
    refine sx_nil' ?_
    show TX E K6 _
    refine tx_k' hK6 ?_
    refine cx_block' ?_
    obtain ⟨y1, hy1, hp⟩ := bind_some hp
    refine cx_loopg' (F := laws_gInts_l1 a0 a1) (G := fun k R v => laws_gInts_l1s a0 a1 k R v) (x := 0) (gh := ()) (fun (v1 : Int) (w1 : Unit) => (⟨26, [], [(1, (Sl (Ki .i64) a1)), (12, (Sl (Ki .i64) a0)), (13, (Vl (.int .i64 (a0.length : Int)))), (14, (Vl (.int .i64 v1)))], []⟩ : St)) (fun (y : Unit ⊕ Unit) => match y with | (.inl v2) => Zg E Exit.ret (fun (w2 : Unit) => (⟨26, [], [(4, (Vl (.bool false)))], []⟩ : St)) | (.inr v3) => Zg E (Exit.exit 0) (fun (w3 : Unit) => (⟨26, [], [], []⟩ : St))) (fun _ => rfl) (fun _ _ => rfl) ?_ hy1 (tx_to' rfl [] (sub_cons rfl (sub_cons rfl (sub_cons rfl (sub_cons rfl sub_nil)))) (by decide) pick_nil) ?_
    · clear hp hy1
      clear y1
      intro k rec1 KY1 ih1
      rintro x1 ⟨⟩ y1 hp
      replace hp : laws_gInts_l1s a0 a1 k rec1 x1 = some y1 := hp
      unfold laws_gInts_l1s at hp
      refine cx_seq' fun K13 hK13 => ?_
      refine cx_region' ?_
      refine sx_rd' (rd_bin' rfl rfl eg_int ru_lss) rfl rfl (wt_none' rfl) ?_
      refine sx_nil' ?_
      show TX E K13 _
      refine tx_k' hK13 ?_
      refine cx_seq' fun K14 hK14 => ?_
      refine cx_cond' rfl (fun h5 => ?_) (fun h5 => ?_)
      · replace hp := (br_t h5).symm.trans hp
        refine cx_skip' ?_
        show TX E K14 _
        refine tx_k' hK14 ?_
        refine cx_seq' fun K15 hK15 => ?_
        refine cx_block' ?_
        refine cx_seq' fun K16 hK16 => ?_
        refine cx_region' ?_
        refine sx_rd' (rd_move' rfl) rfl rfl (wt_none' rfl) ?_
        obtain ⟨r17, hr17, hp⟩ := bind_some hp
        refine sx_rd' (rd_at' (K := (Ki .i64)) rfl rfl hr17 Try.underlying23 info3) rfl rfl (wt_none' rfl) ?_
        refine sx_rd' (rd_load_pt' rfl rfl flat3) rfl rfl (wt_none' rfl) ?_
        refine sx_rd' (rd_assign' rfl) rfl rfl (wt_none' rfl) ?_
        refine sx_rd' (rd_assign' rfl) rfl rfl (wt_none' rfl) ?_
        refine sx_nil' ?_
        show TX E K16 _
        refine tx_k' hK16 ?_
        refine cx_seq' fun K17 hK17 => ?_
        refine cx_region' ?_
        refine sx_rd' (rd_move' rfl) rfl rfl (wt_none' rfl) ?_
        refine sx_rd' (rd_move' rfl) rfl rfl (wt_none' rfl) ?_
        refine sx_rd' (rd_move' rfl) rfl rfl (wt_none' rfl) ?_
        obtain ⟨r22, hr22, hp⟩ := bind_some hp
        refine sx_rd' (rd_at' (K := (Ki .i64)) rfl rfl hr22 Try.underlying23 info3) rfl rfl (wt_none' rfl) ?_
        refine sx_rd' (rd_load_pt' rfl rfl flat3) rfl rfl (wt_none' rfl) ?_
        refine sx_rd' (rd_bin' rfl rfl eg_int ru_neq) rfl rfl (wt_none' rfl) ?_
        refine sx_nil' ?_
        show TX E K17 _
        refine tx_k' hK17 ?_
        refine cx_cond' rfl (fun h6 => ?_) (fun h6 => ?_)
        · replace hp := (br_t h6).symm.trans hp
          refine cx_seq' fun K18 hK18 => ?_
          refine cx_region' ?_
          refine sx_rd' (rd_assign' rfl) rfl rfl (wt_none' rfl) ?_
          refine sx_nil' ?_
          show TX E K18 _
          refine tx_k' hK18 ?_
          refine cx_retc' ?_
          replace hp := Option.some.inj hp
          subst hp
          show TX E (Zg E Exit.ret _ Exit.ret) _
          exact tx_zend' () rfl [] (sub_cons rfl sub_nil) (by decide) pick_nil
        · replace hp := (br_f h6).symm.trans hp
          refine cx_skip' ?_
          show TX E K15 _
          refine tx_k' hK15 ?_
          refine cx_region' ?_
          refine sx_rd' (rd_bin' rfl rfl eg_int ru_add) rfl rfl (wt_none' rfl) ?_
          refine sx_rd' (rd_move' rfl) rfl rfl (wt_none' rfl) ?_
          refine sx_nil' ?_
          show TX E (KY1 _) _
          exact tx_pick' [] (sub_cons rfl (sub_cons rfl (sub_cons rfl (sub_cons rfl sub_nil)))) (by decide) pick_nil (ih1 (iadd .i64 x1 1) () _ hp)
      · replace hp := (br_f h5).symm.trans hp
        refine cx_exit' ?_
        replace hp := Option.some.inj hp
        subst hp
        show TX E (Zg E (Exit.exit 0) _ (Exit.exit 0)) _
        exact tx_zend' () rfl [] sub_nil (by decide) pick_nil
    · rcases y1 with v2 | v3
      · dsimp only at hp
        refine zg_out fun w2 => ?_
        replace hp := Option.some.inj hp
        subst hp
        refine tx_pick' (L' := [(4, (Vl (.bool false)))]) (H' := []) [] (sub_cons rfl sub_nil) (by decide) pick_nil ?_
        exact tx_ret1' Try.results31 rfl () (rv_tmp' rfl) (List.Sublist.refl _)
      · dsimp only at hp
        refine zg_out fun w3 => ?_
        show TX E K5 _
        refine tx_k' hK5 ?_
        refine cx_seq' fun K19 hK19 => ?_
        refine cx_region' ?_
        refine sx_rd' (rd_assign' rfl) rfl rfl (wt_none' rfl) ?_
        refine sx_nil' ?_
        show TX E K19 _
        refine tx_k' hK19 ?_
        refine cx_retc' ?_
        replace hp := Option.some.inj hp
        subst hp
        refine tx_pick' (L' := [(4, (Vl (.bool true)))]) (H' := []) [] (sub_cons rfl sub_nil) (by decide) pick_nil ?_
        exact tx_ret1' Try.results31 rfl () (rv_tmp' rfl) (List.Sublist.refl _)

def laws_gIntss_l1s (a0 : List (List Int)) (a1 : List (List Int)) (k : Nat) (rec1 : Int → Option (Unit ⊕ Unit)) (x1 : Int) : Option (Unit ⊕ Unit) :=
  br (decide (x1 < (a0.length : Int)))
    ((idx a0 x1) >>= fun r17 =>
    (idx a1 x1) >>= fun r22 =>
    (laws_gInts k r17 r22) >>= fun r24 =>
    br (!r24)
      (some (.inl ()))
      (rec1 (iadd .i64 x1 1)))
    (some (.inr ()))
def laws_gIntss_l1 (a0 : List (List Int)) (a1 : List (List Int)) : Nat → Int → Option (Unit ⊕ Unit)
  | 0, _ => none
  | k + 1, v => laws_gIntss_l1s a0 a1 k (laws_gIntss_l1 a0 a1 k) v
def laws_gIntss (k : Nat) (a0 : List (List Int)) (a1 : List (List Int)) : Option (Bool) :=
  br (!decide ((a0.length : Int) = (a1.length : Int)))
    (some false)
    ((laws_gIntss_l1 a0 a1 k 0) >>= fun y1 => match y1 with
      | (.inl v2) =>
        (some false)
      | (.inr v3) =>
        (some true))

theorem laws_gIntss_sim {k : Nat}  (a0 : List (List Int)) (a1 : List (List Int)) {out : Bool} (hp : laws_gIntss k a0 a1 = some out) : Go.Sx.Fn Try.prog 10 [(Sl (Kl (Ki .i64)) a0), (Sl (Kl (Ki .i64)) a1)] [] (fun w : Unit => (Vl (.bool out))) (fun w => []) := by
  unfold laws_gIntss at hp
  refine fn_of Try.func10 rfl Try.ntmps10 rfl fun E hM => ?_
  refine cx_seq' fun K1 hK1 => ?_
  refine cx_region' ?_
  refine sx_rd' (rd_assign' rfl) rfl rfl (wt_none' rfl) ?_
  refine sx_nil' ?_
  show TX E K1 _
  refine tx_k' hK1 ?_
  refine cx_seq' fun K2 hK2 => ?_
  refine cx_seq' fun K3 hK3 => ?_
  refine cx_region' ?_
  refine sx_rd' (rd_move' rfl) rfl rfl (wt_none' rfl) ?_
  refine sx_rd' (rd_len' rfl Try.underlying24) rfl rfl (wt_none' rfl) ?_
  refine sx_rd' (rd_move' rfl) rfl rfl (wt_none' rfl) ?_
  refine sx_rd' (rd_len' rfl Try.underlying24) rfl rfl (wt_none' rfl) ?_
  refine sx_rd' (rd_bin' rfl rfl eg_int ru_neq) rfl rfl (wt_none' rfl) ?_
  refine sx_nil' ?_
  show TX E K3 _
  refine tx_k' hK3 ?_
  refine cx_cond' rfl (fun h1 => ?_) (fun h1 => ?_)
  · replace hp := (br_t h1).symm.trans hp
    refine cx_seq' fun K4 hK4 => ?_
    refine cx_region' ?_
    refine sx_rd' (rd_assign' rfl) rfl rfl (wt_none' rfl) ?_
    refine sx_nil' ?_
    show TX E K4 _
    refine tx_k' hK4 ?_
    refine cx_retc' ?_
    replace hp := Option.some.inj hp
    subst hp
    refine tx_pick' (L' := [(4, (Vl (.bool false)))]) (H' := []) [] (sub_cons rfl sub_nil) (by decide) pick_nil ?_
    exact tx_ret1' Try.results10 rfl () (rv_tmp' rfl) (List.Sublist.refl _)
  · replace hp := (br_f h1).symm.trans hp
    refine cx_skip' ?_
    show TX E K2 _
    refine tx_k' hK2 ?_
    refine cx_seq' fun K5 hK5 => ?_
    refine cx_seq' fun K6 hK6 => ?_
    refine cx_region' ?_
    refine sx_rd' (rd_move' rfl) rfl rfl (wt_none' rfl) ?_
    refine sx_rd' (rd_len' rfl Try.underlying24) rfl rfl (wt_none' rfl) ?_
    refine sx_rd' (rd_move' rfl) rfl rfl (wt_none' rfl) ?_
    refine sx_nil' ?_
    show TX E K6 _
    refine tx_k' hK6 ?_
    refine cx_block' ?_
    obtain ⟨y1, hy1, hp⟩ := bind_some hp
    refine cx_loopg' (F := laws_gIntss_l1 a0 a1) (G := fun k R v => laws_gIntss_l1s a0 a1 k R v) (x := 0) (gh := ()) (fun (v1 : Int) (w1 : Unit) => (⟨27, [], [(1, (Sl (Kl (Ki .i64)) a1)), (12, (Sl (Kl (Ki .i64)) a0)), (13, (Vl (.int .i64 (a0.length : Int)))), (14, (Vl (.int .i64 v1)))], []⟩ : St)) (fun (y : Unit ⊕ Unit) => match y with | (.inl v2) => Zg E Exit.ret (fun (w2 : Unit) => (⟨27, [], [(4, (Vl (.bool false)))], []⟩ : St)) | (.inr v3) => Zg E (Exit.exit 0) (fun (w3 : Unit) => (⟨27, [], [], []⟩ : St))) (fun _ => rfl) (fun _ _ => rfl) ?_ hy1 (tx_to' rfl [] (sub_cons rfl (sub_cons rfl (sub_cons rfl (sub_cons rfl sub_nil)))) (by decide) pick_nil) ?_
    · clear hp hy1
      clear y1
      intro k rec1 KY1 ih1
      rintro x1 ⟨⟩ y1 hp
      replace hp : laws_gIntss_l1s a0 a1 k rec1 x1 = some y1 := hp
      unfold laws_gIntss_l1s at hp
      refine cx_seq' fun K13 hK13 => ?_
      refine cx_region' ?_
      refine sx_rd' (rd_bin' rfl rfl eg_int ru_lss) rfl rfl (wt_none' rfl) ?_
      refine sx_nil' ?_
      show TX E K13 _
      refine tx_k' hK13 ?_
      refine cx_seq' fun K14 hK14 => ?_
      refine cx_cond' rfl (fun h5 => ?_) (fun h5 => ?_)
      · replace hp := (br_t h5).symm.trans hp
        refine cx_skip' ?_
        show TX E K14 _
        refine tx_k' hK14 ?_
        refine cx_seq' fun K15 hK15 => ?_
        refine cx_block' ?_
        refine cx_seq' fun K16 hK16 => ?_
        refine cx_region' ?_
        refine sx_rd' (rd_move' rfl) rfl rfl (wt_none' rfl) ?_
        obtain ⟨r17, hr17, hp⟩ := bind_some hp
        refine sx_rd' (rd_at' (K := (Kl (Ki .i64))) rfl rfl hr17 Try.underlying24 info23) rfl rfl (wt_none' rfl) ?_
        refine sx_rd' (rd_load_pt' rfl rfl flat23) rfl rfl (wt_none' rfl) ?_
        refine sx_rd' (rd_assign' rfl) rfl rfl (wt_none' rfl) ?_
        refine sx_rd' (rd_assign' rfl) rfl rfl (wt_none' rfl) ?_
        refine sx_nil' ?_
        show TX E K16 _
        refine tx_k' hK16 ?_
        refine cx_seq' fun K17 hK17 => ?_
        refine cx_region' ?_
        refine sx_rd' (rd_move' rfl) rfl rfl (wt_none' rfl) ?_
        refine sx_rd' (rd_move' rfl) rfl rfl (wt_none' rfl) ?_
        refine sx_rd' (rd_move' rfl) rfl rfl (wt_none' rfl) ?_
        obtain ⟨r22, hr22, hp⟩ := bind_some hp
        refine sx_rd' (rd_at' (K := (Kl (Ki .i64))) rfl rfl hr22 Try.underlying24 info23) rfl rfl (wt_none' rfl) ?_
        refine sx_rd' (rd_load_pt' rfl rfl flat23) rfl rfl (wt_none' rfl) ?_
        obtain ⟨r24, hr24, hp⟩ := bind_some hp
        refine sx_ox' (ox_calln' (ent_fn' Try.func31 isn31 rfl rfl) (laws_gInts_sim _ _ hr24 : Go.Sx.Fn Try.prog 31 [(Sl (Ki .i64) r17), (Sl (Ki .i64) r22)] [] (fun x : Unit => (Vl (.bool r24))) (fun x => [])) (Hn := fun x : Unit => []) (fun _ => rfl) rfl rfl) (wt_none' rfl) fun ⟨⟩ => ?_
        refine sx_rd' (rd_un' rfl ru_not) rfl rfl (wt_none' rfl) ?_
        refine sx_nil' ?_
        show TX E K17 _
        refine tx_k' hK17 ?_
        refine cx_cond' rfl (fun h6 => ?_) (fun h6 => ?_)
        · replace hp := (br_t h6).symm.trans hp
          refine cx_seq' fun K18 hK18 => ?_
          refine cx_region' ?_
          refine sx_rd' (rd_assign' rfl) rfl rfl (wt_none' rfl) ?_
          refine sx_nil' ?_
          show TX E K18 _
          refine tx_k' hK18 ?_
          refine cx_retc' ?_
          replace hp := Option.some.inj hp
          subst hp
          show TX E (Zg E Exit.ret _ Exit.ret) _
          exact tx_zend' () rfl [] (sub_cons rfl sub_nil) (by decide) pick_nil
        · replace hp := (br_f h6).symm.trans hp
          refine cx_skip' ?_
          show TX E K15 _
          refine tx_k' hK15 ?_
          refine cx_region' ?_
          refine sx_rd' (rd_bin' rfl rfl eg_int ru_add) rfl rfl (wt_none' rfl) ?_
          refine sx_rd' (rd_move' rfl) rfl rfl (wt_none' rfl) ?_
          refine sx_nil' ?_
          show TX E (KY1 _) _
          exact tx_pick' [] (sub_cons rfl (sub_cons rfl (sub_cons rfl (sub_cons rfl sub_nil)))) (by decide) pick_nil (ih1 (iadd .i64 x1 1) () _ hp)
      · replace hp := (br_f h5).symm.trans hp
        refine cx_exit' ?_
        replace hp := Option.some.inj hp
        subst hp
        show TX E (Zg E (Exit.exit 0) _ (Exit.exit 0)) _
        exact tx_zend' () rfl [] sub_nil (by decide) pick_nil
    · rcases y1 with v2 | v3
      · dsimp only at hp
        refine zg_out fun w2 => ?_
        replace hp := Option.some.inj hp
        subst hp
        refine tx_pick' (L' := [(4, (Vl (.bool false)))]) (H' := []) [] (sub_cons rfl sub_nil) (by decide) pick_nil ?_
        exact tx_ret1' Try.results10 rfl () (rv_tmp' rfl) (List.Sublist.refl _)
      · dsimp only at hp
        refine zg_out fun w3 => ?_
        show TX E K5 _
        refine tx_k' hK5 ?_
        refine cx_seq' fun K19 hK19 => ?_
        refine cx_region' ?_
        refine sx_rd' (rd_assign' rfl) rfl rfl (wt_none' rfl) ?_
        refine sx_nil' ?_
        show TX E K19 _
        refine tx_k' hK19 ?_
        refine cx_retc' ?_
        replace hp := Option.some.inj hp
        subst hp
        refine tx_pick' (L' := [(4, (Vl (.bool true)))]) (H' := []) [] (sub_cons rfl sub_nil) (by decide) pick_nil ?_
        exact tx_ret1' Try.results10 rfl () (rv_tmp' rfl) (List.Sublist.refl _)

def laws_FnEndssOf_j3 (k : Nat) (x3 : Bool) : Option (Bool) :=
  some x3
def laws_FnEndssOf_j2 (k : Nat) (x2 : Bool) : Option (Bool) :=
  laws_FnEndssOf_j3 k x2
def laws_FnEndssOf_j1 (k : Nat) (r16 : (List (List Int)) × Bool) (a0_5 : List (List Int)) (x1 : Bool) : Option (Bool) :=
  br x1
    (br (!r16.2)
      (laws_FnEndssOf_j2 k true)
      ((laws_gIntss k r16.1 a0_5) >>= fun r40 =>
      laws_FnEndssOf_j2 k r40))
    (laws_FnEndssOf_j3 k false)
def laws_FnEndssOf (k : Nat) (a0_0 : Int) (a0_1 : Int) (a0_2 : Int) (a0_3 : List Nat) (a0_4 : List Int) (a0_5 : List (List Int)) (a0_6 : List T27) : Option (Bool) :=
  (laws_zzFits2 k a0_0 a0_1 a0_2 a0_3 a0_4 a0_5 a0_6) >>= fun r8 =>
  br (!r8)
    (some true)
    ((laws_gGood k ([(T27.mk a0_0 a0_1 a0_2 a0_3 a0_4 a0_5 a0_6)])) >>= fun r12 =>
    br (!r12)
      (some true)
      ((impl_EndssOf k a0_0 a0_1 a0_2 a0_3 a0_4 a0_5 a0_6) >>= fun r16 =>
      (impl_EndssOf_v2 k 1 1 0 ([4607182418800017408, 4611686018427387904])) >>= fun r22 =>
      br r22
        (laws_FnEndssOf_j1 k r16 a0_5 (r16.2 == (!decide (a0_0 = 7))))
        (laws_FnEndssOf_j1 k r16 a0_5 false)))

theorem laws_FnEndssOf_sim {k : Nat}  (a0_0 : Int) (a0_1 : Int) (a0_2 : Int) (a0_3 : List Nat) (a0_4 : List Int) (a0_5 : List (List Int)) (a0_6 : List T27) {out : Bool} (hp : laws_FnEndssOf k a0_0 a0_1 a0_2 a0_3 a0_4 a0_5 a0_6 = some out) : Go.Sx.Fn Try.prog 3 [(Ag [(Vl (.int .i64 a0_0)), (Vl (.int .i64 a0_1)), (Vl (.int .i64 a0_2)), (Sl Kf a0_3), (Sl (Ki .i64) a0_4), (Sl (Kl (Ki .i64)) a0_5), (Sl KT27 a0_6)])] [] (fun w : Unit => (Vl (.bool out))) (fun w => []) := by
  unfold laws_FnEndssOf at hp
  refine fn_of Try.func3 rfl Try.ntmps3 rfl fun E hM => ?_
  refine cx_seq' fun K1 hK1 => ?_
  refine cx_region' ?_
  refine sx_ox' (ox_box' rfl (lv_ag _) rfl rfl) (wt_none' rfl) fun q1 => ?_
  refine sx_rd' (rd_assign' rfl) rfl rfl (wt_none' rfl) ?_
  refine sx_nil' ?_
  show TX E K1 _
  refine tx_k' hK1 ?_
  refine cx_seq' fun K2 hK2 => ?_
  refine cx_seq' fun K3 hK3 => ?_
  refine cx_region' ?_
  refine sx_rd' (rd_load_agg' (i := 0) (o := 0) (nn := 7) rfl ⟨rfl, rfl, rfl, rfl⟩ rfl agg27 (l' := [(Vl (.int .i64 a0_0)), (Vl (.int .i64 a0_1)), (Vl (.int .i64 a0_2)), (Sl Kf a0_3), (Sl (Ki .i64) a0_4), (Sl (Kl (Ki .i64)) a0_5), (Sl KT27 a0_6)]) rfl) rfl rfl (wt_none' rfl) ?_
  obtain ⟨r8, hr8, hp⟩ := bind_some hp
  refine sx_ox' (ox_calln' (ent_fn' Try.func7 isn7 rfl rfl) (laws_zzFits2_sim _ _ _ _ _ _ _ hr8 : Go.Sx.Fn Try.prog 7 [(Ag [(Vl (.int .i64 a0_0)), (Vl (.int .i64 a0_1)), (Vl (.int .i64 a0_2)), (Sl Kf a0_3), (Sl (Ki .i64) a0_4), (Sl (Kl (Ki .i64)) a0_5), (Sl KT27 a0_6)])] [] (fun x : Unit => (Vl (.bool r8))) (fun x => [])) (Hn := fun x : Unit => [⟨.pointer (some q1), [(Vl (.int .i64 a0_0)), (Vl (.int .i64 a0_1)), (Vl (.int .i64 a0_2)), (Sl Kf a0_3), (Sl (Ki .i64) a0_4), (Sl (Kl (Ki .i64)) a0_5), (Sl KT27 a0_6)], 27, none⟩]) (fun _ => rfl) rfl rfl) (wt_none' rfl) fun ⟨⟩ => ?_
  refine sx_rd' (rd_un' rfl ru_not) rfl rfl (wt_none' rfl) ?_
  refine sx_nil' ?_
  show TX E K3 _
  refine tx_k' hK3 ?_
  refine cx_cond' rfl (fun h1 => ?_) (fun h1 => ?_)
  · replace hp := (br_t h1).symm.trans hp
    refine cx_seq' fun K4 hK4 => ?_
    refine cx_region' ?_
    refine sx_rd' (rd_assign' rfl) rfl rfl (wt_none' rfl) ?_
    refine sx_nil' ?_
    show TX E K4 _
    refine tx_k' hK4 ?_
    refine cx_retc' ?_
    replace hp := Option.some.inj hp
    subst hp
    refine tx_pick' (L' := [(2, (Vl (.bool true)))]) (H' := []) [] (sub_cons rfl sub_nil) (by decide) pick_nil ?_
    exact tx_ret1' Try.results3 rfl () (rv_tmp' rfl) (List.Sublist.refl _)
  · replace hp := (br_f h1).symm.trans hp
    refine cx_skip' ?_
    show TX E K2 _
    refine tx_k' hK2 ?_
    refine cx_seq' fun K5 hK5 => ?_
    refine cx_seq' fun K6 hK6 => ?_
    refine cx_region' ?_
    refine sx_rd' (rd_load_agg' (i := 0) (o := 0) (nn := 7) rfl ⟨rfl, rfl, rfl, rfl⟩ rfl agg27 (l' := [(Vl (.int .i64 a0_0)), (Vl (.int .i64 a0_1)), (Vl (.int .i64 a0_2)), (Sl Kf a0_3), (Sl (Ki .i64) a0_4), (Sl (Kl (Ki .i64)) a0_5), (Sl KT27 a0_6)]) rfl) rfl rfl (wt_none' rfl) ?_
    refine sx_ox' (ox_rowlit' (K := KT27) (xs := [(T27.mk a0_0 a0_1 a0_2 a0_3 a0_4 a0_5 a0_6)]) (qs := [(0, [(Vl (.int .i64 a0_0)), (Vl (.int .i64 a0_1)), (Vl (.int .i64 a0_2)), (Sl Kf a0_3), (Sl (Ki .i64) a0_4), (Sl (Kl (Ki .i64)) a0_5), (Sl KT27 a0_6)])]) ⟨rfl, ⟨_, rfl, (lv_ag _)⟩, trivial⟩ Try.underlying25 info27 rfl rfl rfl rfl rfl (by simp only [List.flatMap_cons, List.flatMap_nil, KT27_enc, List.append_nil]; kernel_rfl) rfl rfl rfl) (wt_none' rfl) fun g11 => ?_
    obtain ⟨r12, hr12, hp⟩ := bind_some hp
    refine sx_ox' (ox_brw' (frz_row 0 [(11, (Vl (Vs g11)), (Sl KT27 ([(T27.mk a0_0 a0_1 a0_2 a0_3 a0_4 a0_5 a0_6)])))] (K := KT27) (xs := [(T27.mk a0_0 a0_1 a0_2 a0_3 a0_4 a0_5 a0_6)]) (by decide) rfl ⟨⟨rfl, frz_it⟩, trivial⟩ (H' := [⟨.pointer (some q1), [(Vl (.int .i64 a0_0)), (Vl (.int .i64 a0_1)), (Vl (.int .i64 a0_2)), (Sl Kf a0_3), (Sl (Ki .i64) a0_4), (Sl (Kl (Ki .i64)) a0_5), (Sl KT27 a0_6)], 27, none⟩]) frzH_refl) (ent_fn' Try.func8 isn8 rfl rfl) (laws_gGood_sim _ hr12 : Go.Sx.Fn Try.prog 8 [(Sl KT27 ([(T27.mk a0_0 a0_1 a0_2 a0_3 a0_4 a0_5 a0_6)]))] [] (fun x : Unit => (Vl (.bool r12))) (fun x => [])) pu_vl rfl rfl) (wt_none' rfl) fun ⟨⟩ => ?_
    refine sx_rd' (rd_un' rfl ru_not) rfl rfl (wt_none' rfl) ?_
    refine sx_nil' ?_
    show TX E K6 _
    refine tx_k' hK6 ?_
    refine cx_cond' rfl (fun h2 => ?_) (fun h2 => ?_)
    · replace hp := (br_t h2).symm.trans hp
      refine cx_seq' fun K7 hK7 => ?_
      refine cx_region' ?_
      refine sx_rd' (rd_assign' rfl) rfl rfl (wt_none' rfl) ?_
      refine sx_nil' ?_
      show TX E K7 _
      refine tx_k' hK7 ?_
      refine cx_retc' ?_
      replace hp := Option.some.inj hp
      subst hp
      refine tx_pick' (L' := [(2, (Vl (.bool true)))]) (H' := []) [] (sub_cons rfl sub_nil) (by decide) pick_nil ?_
      exact tx_ret1' Try.results3 rfl () (rv_tmp' rfl) (List.Sublist.refl _)
    · replace hp := (br_f h2).symm.trans hp
      refine cx_skip' ?_
      show TX E K5 _
      refine tx_k' hK5 ?_
      refine cx_seq' fun K8 hK8 => ?_
      refine cx_region' ?_
      refine sx_rd' (rd_load_agg' (i := 1) (o := 0) (nn := 7) rfl ⟨rfl, rfl, rfl, rfl⟩ rfl agg27 (l' := [(Vl (.int .i64 a0_0)), (Vl (.int .i64 a0_1)), (Vl (.int .i64 a0_2)), (Sl Kf a0_3), (Sl (Ki .i64) a0_4), (Sl (Kl (Ki .i64)) a0_5), (Sl KT27 a0_6)]) rfl) rfl rfl (wt_none' rfl) ?_
      obtain ⟨r16, hr16, hp⟩ := bind_some hp
      refine sx_ox' (ox_calln' (ent_fn' Try.func9 isn9 rfl rfl) (impl_EndssOf_sim _ _ _ _ _ _ _ hr16 : Go.Sx.Fn Try.prog 9 [(Ag [(Vl (.int .i64 a0_0)), (Vl (.int .i64 a0_1)), (Vl (.int .i64 a0_2)), (Sl Kf a0_3), (Sl (Ki .i64) a0_4), (Sl (Kl (Ki .i64)) a0_5), (Sl KT27 a0_6)])] [] (fun x : Unit => (Tu [(Sl (Kl (Ki .i64)) r16.1), (Vl (.bool r16.2))])) (fun x => [])) (Hn := fun x : Unit => [(Rw KT27 27 (Vs g11) ([(T27.mk a0_0 a0_1 a0_2 a0_3 a0_4 a0_5 a0_6)])), ⟨.pointer (some q1), [(Vl (.int .i64 a0_0)), (Vl (.int .i64 a0_1)), (Vl (.int .i64 a0_2)), (Sl Kf a0_3), (Sl (Ki .i64) a0_4), (Sl (Kl (Ki .i64)) a0_5), (Sl KT27 a0_6)], 27, none⟩]) (fun _ => rfl) rfl rfl) (wt_none' rfl) fun ⟨⟩ => ?_
      refine sx_rd' (rd_move' rfl) rfl rfl (wt_none' rfl) ?_
      refine sx_rd' (rd_extract' rfl rfl) rfl rfl (wt_none' rfl) ?_
      refine sx_rd' (rd_extract' rfl rfl) rfl rfl (wt_none' rfl) ?_
      refine sx_rd' (rd_assign' rfl) rfl rfl (wt_none' rfl) ?_
      refine sx_rd' (rd_assign' rfl) rfl rfl (wt_none' rfl) ?_
      refine sx_nil' ?_
      show TX E K8 _
      refine tx_k' hK8 ?_
      refine cx_seq' fun K9 hK9 => ?_
      refine cx_region' ?_
      refine sx_ox' (ox_rowlit' (K := Kf) (xs := [4607182418800017408, 4611686018427387904]) (qs := [(0, [(Vl (.float .f64 4607182418800017408))]), (1, [(Vl (.float .f64 4611686018427387904))])]) ⟨rfl, ⟨_, rfl, (lv_vl rfl rfl)⟩, ⟨rfl, ⟨_, rfl, (lv_vl rfl rfl)⟩, trivial⟩⟩ Try.underlying22 info32 rfl rfl rfl rfl rfl (by kernel_rfl) rfl rfl rfl) (wt_none' rfl) fun g20 => ?_
      refine sx_rd' (rd_build' (pls := [(0, 1), (1, 1), (2, 1), (3, 1), (4, 1), (5, 1), (6, 1)]) (qs := [(0, [(Vl (.int .i64 1))]), (1, [(Vl (.int .i64 1))]), (3, [(Vl (Vs g20))])]) (r := [(Vl (.int .i64 1)), (Vl (.int .i64 1)), (Vl (.int .i64 0)), (Vl (Vs g20)), (Vl (.slice none 0 0)), (Vl (.slice none 0 0)), (Vl (.slice none 0 0))]) ⟨rfl, ⟨_, rfl, (lv_vl rfl rfl)⟩, ⟨rfl, ⟨_, rfl, (lv_vl rfl rfl)⟩, ⟨rfl, ⟨_, rfl, (lv_vl rfl rfl)⟩, trivial⟩⟩⟩ Try.underlying27 has27 places27 info27 rfl rfl rfl) rfl rfl (wt_none' rfl) ?_
      obtain ⟨r22, hr22, hp⟩ := bind_some hp
      refine sx_ox' (ox_callg' (ent_fn' Try.func9 isn9 rfl rfl) (impl_EndssOf_v2_sim _ _ _ _ hr22 : Go.Sx.Fn Try.prog 9 [(Ag [(Vl (.int .i64 1)), (Vl (.int .i64 1)), (Vl (.int .i64 0)), (Vl (Vs g20)), (Vl (.slice none 0 0)), (Vl (.slice none 0 0)), (Vl (.slice none 0 0))])] [(Rw Kf 32 (Vs g20) ([4607182418800017408, 4611686018427387904]))] (fun x : Unit => (Tu [(Vl (.slice none 0 0)), (Vl (.bool r22))])) (fun x => [])) [0] [1, 2] (by decide) (pick_cons rfl pick_nil) (pick_cons rfl (pick_cons rfl pick_nil)) (Hn := fun x : Unit => [(Rw KT27 27 (Vs g11) ([(T27.mk a0_0 a0_1 a0_2 a0_3 a0_4 a0_5 a0_6)])), ⟨.pointer (some q1), [(Vl (.int .i64 a0_0)), (Vl (.int .i64 a0_1)), (Vl (.int .i64 a0_2)), (Sl Kf a0_3), (Sl (Ki .i64) a0_4), (Sl (Kl (Ki .i64)) a0_5), (Sl KT27 a0_6)], 27, none⟩]) (fun _ => rfl) rfl rfl) (wt_none' rfl) fun ⟨⟩ => ?_
      refine sx_rd' (rd_move' rfl) rfl rfl (wt_none' rfl) ?_
      refine sx_rd' (rd_extract' rfl rfl) rfl rfl (wt_none' rfl) ?_
      refine sx_rd' (rd_extract' rfl rfl) rfl rfl (wt_none' rfl) ?_
      refine sx_rd' (rd_assign' rfl) rfl rfl (wt_none' rfl) ?_
      refine sx_rd' (rd_assign' rfl) rfl rfl (wt_none' rfl) ?_
      refine sx_nil' ?_
      show TX E K9 _
      refine tx_k' hK9 ?_
      refine cx_seq' fun K10 hK10 => ?_
      refine cx_region' ?_
      refine sx_rd' (rd_move' rfl) rfl rfl (wt_none' rfl) ?_
      refine sx_rd' (rd_move' rfl) rfl rfl (wt_none' rfl) ?_
      refine sx_cutn' 6 (fun (v1 : Bool) => (⟨43, [], [(1, (Vl (.pointer (some q1)))), (3, (Sl (Kl (Ki .i64)) r16.1)), (4, (Vl (.bool r16.2))), (32, (Vl (.bool v1)))], [⟨.pointer (some q1), [(Vl (.int .i64 a0_0)), (Vl (.int .i64 a0_1)), (Vl (.int .i64 a0_2)), (Sl Kf a0_3), (Sl (Ki .i64) a0_4), (Sl (Kl (Ki .i64)) a0_5), (Sl KT27 a0_6)], 27, none⟩]⟩ : St)) (fun (v1 : Bool) => laws_FnEndssOf_j1 k r16 a0_5 v1 = some out) ?_ ?_
      · rintro x1 hp
        replace hp : laws_FnEndssOf_j1 k r16 a0_5 x1 = some out := hp
        unfold laws_FnEndssOf_j1 at hp
        refine sx_rd' (rd_move' rfl) rfl rfl (wt_none' rfl) ?_
        refine sx_cutn' 9 (fun (v3 : Bool) => (⟨43, [], [(42, (Vl (.bool v3)))], []⟩ : St)) (fun (v3 : Bool) => laws_FnEndssOf_j3 k v3 = some out) ?_ ?_
        · rintro x3 hp
          replace hp : laws_FnEndssOf_j3 k x3 = some out := hp
          unfold laws_FnEndssOf_j3 at hp
          refine sx_rd' (rd_assign' rfl) rfl rfl (wt_none' rfl) ?_
          refine sx_nil' ?_
          show TX E K10 _
          refine tx_k' hK10 ?_
          refine cx_retc' ?_
          replace hp := Option.some.inj hp
          subst hp
          refine tx_pick' (L' := [(2, (Vl (.bool x3)))]) (H' := []) [] (sub_cons rfl sub_nil) (by decide) pick_nil ?_
          exact tx_ret1' Try.results3 rfl () (rv_tmp' rfl) (List.Sublist.refl _)
        · intro K13 hK13
          rcases br_cases hp with ⟨h4, hp⟩ | ⟨h4, hp⟩
          · refine sx_rd' (rd_move' rfl) rfl rfl (wt_is' (wt_guard' rfl rfl rfl) (beq_tt h4)) ?_
            refine sx_rd' (rd_un' rfl ru_not) rfl rfl (wt_is' (wt_guard' rfl rfl rfl) (beq_tt h4)) ?_
            refine sx_rd' (rd_move' rfl) rfl rfl (wt_is' (wt_guard' rfl rfl rfl) (beq_tt h4)) ?_
            refine sx_cutn' 6 (fun (v2 : Bool) => (⟨43, [], [(42, (Vl (.bool v2)))], []⟩ : St)) (fun (v2 : Bool) => laws_FnEndssOf_j2 k v2 = some out) ?_ ?_
            · rintro x2 hp
              replace hp : laws_FnEndssOf_j2 k x2 = some out := hp
              unfold laws_FnEndssOf_j2 at hp
              refine sx_nil' ?_
              show TX E K13 _
              exact tx_pick' [] (sub_cons rfl sub_nil) (by decide) pick_nil (hK13 x2 hp)
            · intro K12 hK12
              rcases br_cases hp with ⟨h5, hp⟩ | ⟨h5, hp⟩
              · refine sx_skip' rfl rfl (wt_is' (wt_guard' rfl rfl rfl) (beq_tf h5)) ?_
                refine sx_skip' rfl rfl (wt_is' (wt_guard' rfl rfl rfl) (beq_tf h5)) ?_
                refine sx_skip' rfl rfl (wt_is' (wt_guard' rfl rfl rfl) (beq_tf h5)) ?_
                refine sx_skip' rfl rfl (wt_is' (wt_guard' rfl rfl rfl) (beq_tf h5)) ?_
                refine sx_rd' (rd_pick_true' rfl h5 rfl) rfl rfl (wt_is' (wt_guard' rfl rfl rfl) (beq_tt h4)) ?_
                refine sx_rd' (rd_pick_true' rfl h4 rfl) rfl rfl (wt_none' rfl) ?_
                refine sx_nil' ?_
                show TX E K12 _
                exact tx_pick' [] (sub_cons rfl sub_nil) (by decide) pick_nil (hK12 true hp)
              · refine sx_rd' (rd_move' rfl) rfl rfl (wt_is' (wt_guard' rfl rfl rfl) (beq_ff h5)) ?_
                refine sx_rd' (rd_field' (off := 5) rfl Try.underlying27 rfl info24 rfl) rfl rfl (wt_is' (wt_guard' rfl rfl rfl) (beq_ff h5)) ?_
                refine sx_rd' (rd_load' (i := 0) (o := 5) rfl ⟨rfl, rfl, rfl, rfl⟩ rfl flat24) rfl rfl (wt_is' (wt_guard' rfl rfl rfl) (beq_ff h5)) ?_
                obtain ⟨r40, hr40, hp⟩ := bind_some hp
                refine sx_ox' (ox_calln' (ent_fn' Try.func10 isn10 rfl rfl) (laws_gIntss_sim _ _ hr40 : Go.Sx.Fn Try.prog 10 [(Sl (Kl (Ki .i64)) r16.1), (Sl (Kl (Ki .i64)) a0_5)] [] (fun x : Unit => (Vl (.bool r40))) (fun x => [])) (Hn := fun x : Unit => [⟨.pointer (some q1), [(Vl (.int .i64 a0_0)), (Vl (.int .i64 a0_1)), (Vl (.int .i64 a0_2)), (Sl Kf a0_3), (Sl (Ki .i64) a0_4), (Sl (Kl (Ki .i64)) a0_5), (Sl KT27 a0_6)], 27, none⟩]) (fun _ => rfl) rfl rfl) (wt_is' (wt_guard' rfl rfl rfl) (beq_ff h5)) fun ⟨⟩ => ?_
                refine sx_rd' (rd_pick_false' rfl h5 rfl) rfl rfl (wt_is' (wt_guard' rfl rfl rfl) (beq_tt h4)) ?_
                refine sx_rd' (rd_pick_true' rfl h4 rfl) rfl rfl (wt_none' rfl) ?_
                refine sx_nil' ?_
                show TX E K12 _
                exact tx_pick' [] (sub_cons rfl sub_nil) (by decide) pick_nil (hK12 r40 hp)
          · refine sx_skip' rfl rfl (wt_is' (wt_guard' rfl rfl rfl) (beq_ft h4)) ?_
            refine sx_skip' rfl rfl (wt_is' (wt_guard' rfl rfl rfl) (beq_ft h4)) ?_
            refine sx_skip' rfl rfl (wt_is' (wt_guard' rfl rfl rfl) (beq_ft h4)) ?_
            refine sx_skip' rfl rfl (wt_undef' rfl rfl rfl) ?_
            refine sx_skip' rfl rfl (wt_undef' rfl rfl rfl) ?_
            refine sx_skip' rfl rfl (wt_undef' rfl rfl rfl) ?_
            refine sx_skip' rfl rfl (wt_undef' rfl rfl rfl) ?_
            refine sx_skip' rfl rfl (wt_is' (wt_guard' rfl rfl rfl) (beq_ft h4)) ?_
            refine sx_rd' (rd_pick_false' rfl h4 rfl) rfl rfl (wt_none' rfl) ?_
            refine sx_nil' ?_
            show TX E K13 _
            exact tx_pick' [] (sub_cons rfl sub_nil) (by decide) pick_nil (hK13 false hp)
      · intro K11 hK11
        rcases br_cases hp with ⟨h3, hp⟩ | ⟨h3, hp⟩
        · refine sx_rd' (rd_move' rfl) rfl rfl (wt_is' (wt_guard' rfl rfl rfl) (beq_tt h3)) ?_
          refine sx_rd' (rd_field0' rfl Try.underlying27 rfl info3 rfl) rfl rfl (wt_is' (wt_guard' rfl rfl rfl) (beq_tt h3)) ?_
          refine sx_rd' (rd_load' (i := 1) (o := 0) rfl ⟨rfl, rfl, rfl, rfl⟩ rfl flat3) rfl rfl (wt_is' (wt_guard' rfl rfl rfl) (beq_tt h3)) ?_
          refine sx_rd' (rd_bin' rfl rfl eg_int ru_neq) rfl rfl (wt_is' (wt_guard' rfl rfl rfl) (beq_tt h3)) ?_
          refine sx_rd' (rd_bin' rfl rfl eg_bool (ru_beq Try.underlying4)) rfl rfl (wt_is' (wt_guard' rfl rfl rfl) (beq_tt h3)) ?_
          refine sx_rd' (rd_pick_true' rfl h3 rfl) rfl rfl (wt_none' rfl) ?_
          refine sx_nil' ?_
          show TX E K11 _
          exact tx_pick' [1] (sub_cons rfl (sub_cons rfl (sub_cons rfl (sub_cons rfl sub_nil)))) (by decide) (pick_cons rfl pick_nil) (hK11 (r16.2 == (!decide (a0_0 = 7))) hp)
        · refine sx_skip' rfl rfl (wt_is' (wt_guard' rfl rfl rfl) (beq_ft h3)) ?_
          refine sx_skip' rfl rfl (wt_is' (wt_guard' rfl rfl rfl) (beq_ft h3)) ?_
          refine sx_skip' rfl rfl (wt_is' (wt_guard' rfl rfl rfl) (beq_ft h3)) ?_
          refine sx_skip' rfl rfl (wt_is' (wt_guard' rfl rfl rfl) (beq_ft h3)) ?_
          refine sx_skip' rfl rfl (wt_is' (wt_guard' rfl rfl rfl) (beq_ft h3)) ?_
          refine sx_rd' (rd_pick_false' rfl h3 rfl) rfl rfl (wt_none' rfl) ?_
          refine sx_nil' ?_
          show TX E K11 _
          exact tx_pick' [1] (sub_cons rfl (sub_cons rfl (sub_cons rfl (sub_cons rfl sub_nil)))) (by decide) (pick_cons rfl pick_nil) (hK11 false hp)

end Go.Proofs.Ytmagcmeknclljaa
