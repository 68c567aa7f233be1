/-
  Plain functions for the Go functions that this law reaches, and that each call does what its plain function says. Printed by a program of ours.
-/
import Derived.Test.YtohopkpjccpckaaProg
import Derived.Test.YtohopkpjccpckaaSxZ
import Derived.Test.YtohopkpjccpckaaFun2
namespace Go.Proofs.Ytohopkpjccpckaa
open Go.Sx
set_option linter.unusedVariables false
set_option maxRecDepth 100000

def impl_Length (k : Nat) (a0_0 : Int) (a0_1 : Int) (a0_2 : Int) (a0_3 : List Nat) (a0_4 : List Int) (a0_5 : List (List Int)) (a0_6 : List T27) : Option (Nat × Bool) :=
  (impl_geometry k a0_0 a0_1 a0_2 a0_3 a0_4 a0_5 a0_6) >>= fun r9 =>
  match r9 with
    | (.inl y1) =>
      ((gogeom_Point_Length k y1.1 y1.2.1 y1.2.2.1 y1.2.2.2) >>= fun r16 =>
      some (r16.2.2.2.2, true))
    | (.inr (.inl y1)) =>
      ((gogeom_LineString_Length k y1.1 y1.2.1 y1.2.2.1 y1.2.2.2) >>= fun r16 =>
      some (r16.2.2.2.2, true))
    | (.inr (.inr (.inl y1))) =>
      ((gogeom_LinearRing_Length k y1.1 y1.2.1 y1.2.2.1 y1.2.2.2) >>= fun r16 =>
      some (r16.2.2.2.2, true))
    | (.inr (.inr (.inr (.inl y1)))) =>
      ((gogeom_Polygon_Length k y1.1 y1.2.1 y1.2.2.1 y1.2.2.2.1 y1.2.2.2.2) >>= fun r16 =>
      some (r16.2.2.2.2.2, true))
    | (.inr (.inr (.inr (.inr (.inl y1))))) =>
      ((gogeom_MultiPoint_Length k y1.1 y1.2.1 y1.2.2.1 y1.2.2.2.1 y1.2.2.2.2) >>= fun r16 =>
      some (r16.2.2.2.2.2, true))
    | (.inr (.inr (.inr (.inr (.inr (.inl y1)))))) =>
      ((gogeom_MultiLineString_Length k y1.1 y1.2.1 y1.2.2.1 y1.2.2.2.1 y1.2.2.2.2) >>= fun r16 =>
      some (r16.2.2.2.2.2, true))
    | (.inr (.inr (.inr (.inr (.inr (.inr (.inl y1))))))) =>
      ((gogeom_MultiPolygon_Length k y1.1 y1.2.1 y1.2.2.1 y1.2.2.2.1 y1.2.2.2.2) >>= fun r16 =>
      some (r16.2.2.2.2.2, true))
    | (.inr (.inr (.inr (.inr (.inr (.inr (.inr y1))))))) =>
      (some (0, false))

theorem impl_Length_sim {k : Nat}  (a0_0 : Int) (a0_1 : Int) (a0_2 : Int) (a0_3 : List Nat) (a0_4 : List Int) (a0_5 : List (List Int)) (a0_6 : List T27) {out : Nat × Bool} (hp : impl_Length k a0_0 a0_1 a0_2 a0_3 a0_4 a0_5 a0_6 = some out) : Go.Sx.Fn Try.prog 33 [(Ag [(Vl (.int .i64 a0_0)), (Vl (.int .i64 a0_1)), (Vl (.int .i64 a0_2)), (Sl Kf a0_3), (Sl (Ki .i64) a0_4), (Sl (Kl (Ki .i64)) a0_5), (Sl KT27 a0_6)])] [] (fun w : Unit => (Tu [(Fl out.1), (Vl (.bool out.2))])) (fun w => []) := by
  unfold impl_Length at hp
  refine fnD_of Try.func33 rfl Try.ntmps33 rfl fun E hM => ?_
  refine cx_seq' fun K1 hK1 => ?_
  refine cx_region' ?_
  refine sx_ox' (ox_box' rfl (lv_ag _) rfl rfl) (wt_none' rfl) fun q1 => ?_
  refine sx_ox' (ox_alloc' info30 rfl rfl rfl rfl (l := [(Vl (.float .f64 0))]) rfl) (wt_none' rfl) fun q2 => ?_
  refine sx_ox' (ox_alloc' info4 rfl rfl rfl rfl (l := [(Vl (.bool false))]) rfl) (wt_none' rfl) fun q3 => ?_
  refine sx_nil' ?_
  show TX E K1 _
  refine tx_k' hK1 ?_
  refine cx_seq' fun K2 hK2 => ?_
  refine cx_region' ?_
  refine sx_rd' (rd_mkfunc' (us := [.pointer (some q2), .pointer (some q3)]) rfl) rfl rfl (wt_none' rfl) ?_
  refine sx_ox' (ox_defer' rfl rfl) (wt_none' rfl) fun _ => ?_
  refine sx_nil' ?_
  show TX E K2 _
  refine tx_k' hK2 ?_
  refine cx_seq' fun K3 hK3 => ?_
  refine cx_region' ?_
  refine sx_rd' (rd_load_agg' (i := 2) (o := 0) (nn := 7) rfl ⟨rfl, rfl, rfl, rfl⟩ rfl agg27 (l' := [(Vl (.int .i64 a0_0)), (Vl (.int .i64 a0_1)), (Vl (.int .i64 a0_2)), (Sl Kf a0_3), (Sl (Ki .i64) a0_4), (Sl (Kl (Ki .i64)) a0_5), (Sl KT27 a0_6)]) rfl) rfl rfl (wt_none' rfl) ?_
  obtain ⟨r9, hr9, hp⟩ := bind_some hp
  rcases r9 with y1 | y1 | y1 | y1 | y1 | y1 | y1 | y1
  · dsimp only at hp
    refine sx_ox' (ox_calln' (ent_fn' Try.func52 isn52 rfl rfl) (impl_geometry_sim _ _ _ _ _ _ _ hr9 : Go.Sx.Fn Try.prog 52 [(Ag [(Vl (.int .i64 a0_0)), (Vl (.int .i64 a0_1)), (Vl (.int .i64 a0_2)), (Sl Kf a0_3), (Sl (Ki .i64) a0_4), (Sl (Kl (Ki .i64)) a0_5), (Sl KT27 a0_6)])] [] (fun x : Addr => (If 60 (Vl (.pointer (some x))))) (fun x => [⟨.pointer (some x), [(Vl (.int .i64 y1.1)), (Vl (.int .i64 y1.2.1)), (Sl Kf y1.2.2.1), (Vl (.int .i64 y1.2.2.2))], 114, none⟩])) (Hn := fun x : Addr => [⟨.pointer (some x), [(Vl (.int .i64 y1.1)), (Vl (.int .i64 y1.2.1)), (Sl Kf y1.2.2.1), (Vl (.int .i64 y1.2.2.2))], 114, none⟩, ⟨.pointer (some q3), [(Vl (.bool false))], 4, none⟩, ⟨.pointer (some q2), [(Vl (.float .f64 0))], 30, none⟩, ⟨.pointer (some q1), [(Vl (.int .i64 a0_0)), (Vl (.int .i64 a0_1)), (Vl (.int .i64 a0_2)), (Sl Kf a0_3), (Sl (Ki .i64) a0_4), (Sl (Kl (Ki .i64)) a0_5), (Sl KT27 a0_6)], 27, none⟩]) (fun _ => rfl) rfl rfl) (wt_none' rfl) fun q9 => ?_
    refine sx_rd' (rd_assert' rfl (F := fun v => .tuple #[.iface 60 v, .bool true]) as60_75_98k as_ifok) rfl rfl (wt_none' rfl) ?_
    refine sx_rd' (rd_move' rfl) rfl rfl (wt_none' rfl) ?_
    refine sx_rd' (rd_extract' rfl rfl) rfl rfl (wt_none' rfl) ?_
    refine sx_rd' (rd_extract' rfl rfl) rfl rfl (wt_none' rfl) ?_
    refine sx_rd' (rd_assign' rfl) rfl rfl (wt_none' rfl) ?_
    refine sx_rd' (rd_assign' rfl) rfl rfl (wt_none' rfl) ?_
    refine sx_nil' ?_
    show TX E K3 _
    refine tx_k' hK3 ?_
    refine cx_seq' fun K4 hK4 => ?_
    refine cx_seq' fun K5 hK5 => ?_
    refine cx_region' ?_
    refine sx_rd' (rd_move' rfl) rfl rfl (wt_none' rfl) ?_
    refine sx_rd' (rd_un' rfl ru_not) rfl rfl (wt_none' rfl) ?_
    refine sx_nil' ?_
    show TX E K5 _
    refine tx_k' hK5 ?_
    refine cx_cond_f' rfl rfl ?_
    refine cx_skip' ?_
    show TX E K4 _
    refine tx_k' hK4 ?_
    refine cx_seq' fun K6 hK6 => ?_
    refine cx_region' ?_
    refine sx_rd' (rd_move' rfl) rfl rfl (wt_none' rfl) ?_
    obtain ⟨r16, hr16, hp⟩ := bind_some hp
    refine sx_ox' (ox_callg' (ent_inv' rfl rfl (inv_any0 inv60_Length)) (gogeom_Point_Length_sim _ _ _ _ hr16 : Go.Sx.Fn Try.prog 149 [(Vl (.pointer (some q9)))] [⟨.pointer (some q9), [(Vl (.int .i64 y1.1)), (Vl (.int .i64 y1.2.1)), (Sl Kf y1.2.2.1), (Vl (.int .i64 y1.2.2.2))], 114, none⟩] (fun x : Unit => (Vl (.float .f64 r16.2.2.2.2))) (fun x => [⟨.pointer (some q9), [(Vl (.int .i64 r16.1)), (Vl (.int .i64 r16.2.1)), (Sl Kf r16.2.2.1), (Vl (.int .i64 r16.2.2.2.1))], 114, none⟩])) [0] [1, 2, 3] (by decide) (pick_cons rfl pick_nil) (pick_cons rfl (pick_cons rfl (pick_cons rfl pick_nil))) (Hn := fun x : Unit => [⟨.pointer (some q9), [(Vl (.int .i64 r16.1)), (Vl (.int .i64 r16.2.1)), (Sl Kf r16.2.2.1), (Vl (.int .i64 r16.2.2.2.1))], 114, none⟩, ⟨.pointer (some q3), [(Vl (.bool false))], 4, none⟩, ⟨.pointer (some q2), [(Vl (.float .f64 0))], 30, none⟩, ⟨.pointer (some q1), [(Vl (.int .i64 a0_0)), (Vl (.int .i64 a0_1)), (Vl (.int .i64 a0_2)), (Sl Kf a0_3), (Sl (Ki .i64) a0_4), (Sl (Kl (Ki .i64)) a0_5), (Sl KT27 a0_6)], 27, none⟩]) (fun _ => rfl) rfl rfl) (wt_none' rfl) fun ⟨⟩ => ?_
    refine sx_ox' (ox_store' (i := 2) (o := 0) rfl rfl (lv_vl rfl rfl) ⟨rfl, rfl, rfl, rfl⟩ rfl info30 rfl (H' := [⟨.pointer (some q9), [(Vl (.int .i64 r16.1)), (Vl (.int .i64 r16.2.1)), (Sl Kf r16.2.2.1), (Vl (.int .i64 r16.2.2.2.1))], 114, none⟩, ⟨.pointer (some q3), [(Vl (.bool false))], 4, none⟩, ⟨.pointer (some q2), [(Vl (.float .f64 r16.2.2.2.2))], 30, none⟩, ⟨.pointer (some q1), [(Vl (.int .i64 a0_0)), (Vl (.int .i64 a0_1)), (Vl (.int .i64 a0_2)), (Sl Kf a0_3), (Sl (Ki .i64) a0_4), (Sl (Kl (Ki .i64)) a0_5), (Sl KT27 a0_6)], 27, none⟩]) rfl) (wt_none' rfl) fun _ => ?_
    refine sx_ox' (ox_store' (i := 1) (o := 0) rfl rfl (lv_vl rfl rfl) ⟨rfl, rfl, rfl, rfl⟩ rfl info4 rfl (H' := [⟨.pointer (some q9), [(Vl (.int .i64 r16.1)), (Vl (.int .i64 r16.2.1)), (Sl Kf r16.2.2.1), (Vl (.int .i64 r16.2.2.2.1))], 114, none⟩, ⟨.pointer (some q3), [(Vl (.bool true))], 4, none⟩, ⟨.pointer (some q2), [(Vl (.float .f64 r16.2.2.2.2))], 30, none⟩, ⟨.pointer (some q1), [(Vl (.int .i64 a0_0)), (Vl (.int .i64 a0_1)), (Vl (.int .i64 a0_2)), (Sl Kf a0_3), (Sl (Ki .i64) a0_4), (Sl (Kl (Ki .i64)) a0_5), (Sl KT27 a0_6)], 27, none⟩]) rfl) (wt_none' rfl) fun _ => ?_
    refine sx_nil' ?_
    show TX E K6 _
    refine tx_k' hK6 ?_
    refine cx_retc' ?_
    replace hp := Option.some.inj hp
    subst hp
    refine tx_leave' (.inl rfl) rfl idle70 rfl Try.func70 isn70 rfl ?_
    refine tx_pick' (L' := [(2, (Vl (.pointer (some q2)))), (3, (Vl (.pointer (some q3))))]) (H' := [⟨.pointer (some q2), [(Vl (.float .f64 r16.2.2.2.2))], 30, none⟩, ⟨.pointer (some q3), [(Vl (.bool true))], 4, none⟩]) [2, 1] (sub_cons rfl (sub_cons rfl sub_nil)) (by decide) (pick_cons rfl (pick_cons rfl pick_nil)) ?_
    exact tx_ret2' Try.results33 rfl () (rv_imp' (x := (Vl (.float .f64 r16.2.2.2.2))) (y := (Fl r16.2.2.2.2)) (rv_cell' (i := 0) (o := 0) rfl ⟨rfl, rfl, rfl, rfl⟩ rfl flat30) imp_vf) (rv_cell' (i := 1) (o := 0) rfl ⟨rfl, rfl, rfl, rfl⟩ rfl flat4) rfl (List.nil_sublist _)
  · dsimp only at hp
    refine sx_ox' (ox_calln' (ent_fn' Try.func52 isn52 rfl rfl) (impl_geometry_sim _ _ _ _ _ _ _ hr9 : Go.Sx.Fn Try.prog 52 [(Ag [(Vl (.int .i64 a0_0)), (Vl (.int .i64 a0_1)), (Vl (.int .i64 a0_2)), (Sl Kf a0_3), (Sl (Ki .i64) a0_4), (Sl (Kl (Ki .i64)) a0_5), (Sl KT27 a0_6)])] [] (fun x : Addr => (If 94 (Vl (.pointer (some x))))) (fun x => [⟨.pointer (some x), [(Vl (.int .i64 y1.1)), (Vl (.int .i64 y1.2.1)), (Sl Kf y1.2.2.1), (Vl (.int .i64 y1.2.2.2))], 160, none⟩])) (Hn := fun x : Addr => [⟨.pointer (some x), [(Vl (.int .i64 y1.1)), (Vl (.int .i64 y1.2.1)), (Sl Kf y1.2.2.1), (Vl (.int .i64 y1.2.2.2))], 160, none⟩, ⟨.pointer (some q3), [(Vl (.bool false))], 4, none⟩, ⟨.pointer (some q2), [(Vl (.float .f64 0))], 30, none⟩, ⟨.pointer (some q1), [(Vl (.int .i64 a0_0)), (Vl (.int .i64 a0_1)), (Vl (.int .i64 a0_2)), (Sl Kf a0_3), (Sl (Ki .i64) a0_4), (Sl (Kl (Ki .i64)) a0_5), (Sl KT27 a0_6)], 27, none⟩]) (fun _ => rfl) rfl rfl) (wt_none' rfl) fun q9 => ?_
    refine sx_rd' (rd_assert' rfl (F := fun v => .tuple #[.iface 94 v, .bool true]) as94_75_98k as_ifok) rfl rfl (wt_none' rfl) ?_
    refine sx_rd' (rd_move' rfl) rfl rfl (wt_none' rfl) ?_
    refine sx_rd' (rd_extract' rfl rfl) rfl rfl (wt_none' rfl) ?_
    refine sx_rd' (rd_extract' rfl rfl) rfl rfl (wt_none' rfl) ?_
    refine sx_rd' (rd_assign' rfl) rfl rfl (wt_none' rfl) ?_
    refine sx_rd' (rd_assign' rfl) rfl rfl (wt_none' rfl) ?_
    refine sx_nil' ?_
    show TX E K3 _
    refine tx_k' hK3 ?_
    refine cx_seq' fun K4 hK4 => ?_
    refine cx_seq' fun K5 hK5 => ?_
    refine cx_region' ?_
    refine sx_rd' (rd_move' rfl) rfl rfl (wt_none' rfl) ?_
    refine sx_rd' (rd_un' rfl ru_not) rfl rfl (wt_none' rfl) ?_
    refine sx_nil' ?_
    show TX E K5 _
    refine tx_k' hK5 ?_
    refine cx_cond_f' rfl rfl ?_
    refine cx_skip' ?_
    show TX E K4 _
    refine tx_k' hK4 ?_
    refine cx_seq' fun K6 hK6 => ?_
    refine cx_region' ?_
    refine sx_rd' (rd_move' rfl) rfl rfl (wt_none' rfl) ?_
    obtain ⟨r16, hr16, hp⟩ := bind_some hp
    refine sx_ox' (ox_callg' (ent_inv' rfl rfl (inv_any0 inv94_Length)) (gogeom_LineString_Length_sim _ _ _ _ hr16 : Go.Sx.Fn Try.prog 178 [(Vl (.pointer (some q9)))] [⟨.pointer (some q9), [(Vl (.int .i64 y1.1)), (Vl (.int .i64 y1.2.1)), (Sl Kf y1.2.2.1), (Vl (.int .i64 y1.2.2.2))], 160, none⟩] (fun x : Unit => (Fl r16.2.2.2.2)) (fun x => [⟨.pointer (some q9), [(Vl (.int .i64 r16.1)), (Vl (.int .i64 r16.2.1)), (Sl Kf r16.2.2.1), (Vl (.int .i64 r16.2.2.2.1))], 160, none⟩])) [0] [1, 2, 3] (by decide) (pick_cons rfl pick_nil) (pick_cons rfl (pick_cons rfl (pick_cons rfl pick_nil))) (Hn := fun x : Unit => [⟨.pointer (some q9), [(Vl (.int .i64 r16.1)), (Vl (.int .i64 r16.2.1)), (Sl Kf r16.2.2.1), (Vl (.int .i64 r16.2.2.2.1))], 160, none⟩, ⟨.pointer (some q3), [(Vl (.bool false))], 4, none⟩, ⟨.pointer (some q2), [(Vl (.float .f64 0))], 30, none⟩, ⟨.pointer (some q1), [(Vl (.int .i64 a0_0)), (Vl (.int .i64 a0_1)), (Vl (.int .i64 a0_2)), (Sl Kf a0_3), (Sl (Ki .i64) a0_4), (Sl (Kl (Ki .i64)) a0_5), (Sl KT27 a0_6)], 27, none⟩]) (fun _ => rfl) rfl rfl) (wt_none' rfl) fun ⟨⟩ => ?_
    refine sx_ox' (ox_store' (i := 2) (o := 0) rfl rfl (lv_fl _) ⟨rfl, rfl, rfl, rfl⟩ rfl info30 rfl (H' := [⟨.pointer (some q9), [(Vl (.int .i64 r16.1)), (Vl (.int .i64 r16.2.1)), (Sl Kf r16.2.2.1), (Vl (.int .i64 r16.2.2.2.1))], 160, none⟩, ⟨.pointer (some q3), [(Vl (.bool false))], 4, none⟩, ⟨.pointer (some q2), [(Fl r16.2.2.2.2)], 30, none⟩, ⟨.pointer (some q1), [(Vl (.int .i64 a0_0)), (Vl (.int .i64 a0_1)), (Vl (.int .i64 a0_2)), (Sl Kf a0_3), (Sl (Ki .i64) a0_4), (Sl (Kl (Ki .i64)) a0_5), (Sl KT27 a0_6)], 27, none⟩]) rfl) (wt_none' rfl) fun _ => ?_
    refine sx_ox' (ox_store' (i := 1) (o := 0) rfl rfl (lv_vl rfl rfl) ⟨rfl, rfl, rfl, rfl⟩ rfl info4 rfl (H' := [⟨.pointer (some q9), [(Vl (.int .i64 r16.1)), (Vl (.int .i64 r16.2.1)), (Sl Kf r16.2.2.1), (Vl (.int .i64 r16.2.2.2.1))], 160, none⟩, ⟨.pointer (some q3), [(Vl (.bool true))], 4, none⟩, ⟨.pointer (some q2), [(Fl r16.2.2.2.2)], 30, none⟩, ⟨.pointer (some q1), [(Vl (.int .i64 a0_0)), (Vl (.int .i64 a0_1)), (Vl (.int .i64 a0_2)), (Sl Kf a0_3), (Sl (Ki .i64) a0_4), (Sl (Kl (Ki .i64)) a0_5), (Sl KT27 a0_6)], 27, none⟩]) rfl) (wt_none' rfl) fun _ => ?_
    refine sx_nil' ?_
    show TX E K6 _
    refine tx_k' hK6 ?_
    refine cx_retc' ?_
    replace hp := Option.some.inj hp
    subst hp
    refine tx_leave' (.inl rfl) rfl idle70 rfl Try.func70 isn70 rfl ?_
    refine tx_pick' (L' := [(2, (Vl (.pointer (some q2)))), (3, (Vl (.pointer (some q3))))]) (H' := [⟨.pointer (some q2), [(Fl r16.2.2.2.2)], 30, none⟩, ⟨.pointer (some q3), [(Vl (.bool true))], 4, none⟩]) [2, 1] (sub_cons rfl (sub_cons rfl sub_nil)) (by decide) (pick_cons rfl (pick_cons rfl pick_nil)) ?_
    exact tx_ret2' Try.results33 rfl () (rv_cell' (i := 0) (o := 0) rfl ⟨rfl, rfl, rfl, rfl⟩ rfl flat30) (rv_cell' (i := 1) (o := 0) rfl ⟨rfl, rfl, rfl, rfl⟩ rfl flat4) rfl (List.nil_sublist _)
  · dsimp only at hp
    refine sx_ox' (ox_calln' (ent_fn' Try.func52 isn52 rfl rfl) (impl_geometry_sim _ _ _ _ _ _ _ hr9 : Go.Sx.Fn Try.prog 52 [(Ag [(Vl (.int .i64 a0_0)), (Vl (.int .i64 a0_1)), (Vl (.int .i64 a0_2)), (Sl Kf a0_3), (Sl (Ki .i64) a0_4), (Sl (Kl (Ki .i64)) a0_5), (Sl KT27 a0_6)])] [] (fun x : Addr => (If 89 (Vl (.pointer (some x))))) (fun x => [⟨.pointer (some x), [(Vl (.int .i64 y1.1)), (Vl (.int .i64 y1.2.1)), (Sl Kf y1.2.2.1), (Vl (.int .i64 y1.2.2.2))], 151, none⟩])) (Hn := fun x : Addr => [⟨.pointer (some x), [(Vl (.int .i64 y1.1)), (Vl (.int .i64 y1.2.1)), (Sl Kf y1.2.2.1), (Vl (.int .i64 y1.2.2.2))], 151, none⟩, ⟨.pointer (some q3), [(Vl (.bool false))], 4, none⟩, ⟨.pointer (some q2), [(Vl (.float .f64 0))], 30, none⟩, ⟨.pointer (some q1), [(Vl (.int .i64 a0_0)), (Vl (.int .i64 a0_1)), (Vl (.int .i64 a0_2)), (Sl Kf a0_3), (Sl (Ki .i64) a0_4), (Sl (Kl (Ki .i64)) a0_5), (Sl KT27 a0_6)], 27, none⟩]) (fun _ => rfl) rfl rfl) (wt_none' rfl) fun q9 => ?_
    refine sx_rd' (rd_assert' rfl (F := fun v => .tuple #[.iface 89 v, .bool true]) as89_75_98k as_ifok) rfl rfl (wt_none' rfl) ?_
    refine sx_rd' (rd_move' rfl) rfl rfl (wt_none' rfl) ?_
    refine sx_rd' (rd_extract' rfl rfl) rfl rfl (wt_none' rfl) ?_
    refine sx_rd' (rd_extract' rfl rfl) rfl rfl (wt_none' rfl) ?_
    refine sx_rd' (rd_assign' rfl) rfl rfl (wt_none' rfl) ?_
    refine sx_rd' (rd_assign' rfl) rfl rfl (wt_none' rfl) ?_
    refine sx_nil' ?_
    show TX E K3 _
    refine tx_k' hK3 ?_
    refine cx_seq' fun K4 hK4 => ?_
    refine cx_seq' fun K5 hK5 => ?_
    refine cx_region' ?_
    refine sx_rd' (rd_move' rfl) rfl rfl (wt_none' rfl) ?_
    refine sx_rd' (rd_un' rfl ru_not) rfl rfl (wt_none' rfl) ?_
    refine sx_nil' ?_
    show TX E K5 _
    refine tx_k' hK5 ?_
    refine cx_cond_f' rfl rfl ?_
    refine cx_skip' ?_
    show TX E K4 _
    refine tx_k' hK4 ?_
    refine cx_seq' fun K6 hK6 => ?_
    refine cx_region' ?_
    refine sx_rd' (rd_move' rfl) rfl rfl (wt_none' rfl) ?_
    obtain ⟨r16, hr16, hp⟩ := bind_some hp
    refine sx_ox' (ox_callg' (ent_inv' rfl rfl (inv_any0 inv89_Length)) (gogeom_LinearRing_Length_sim _ _ _ _ hr16 : Go.Sx.Fn Try.prog 173 [(Vl (.pointer (some q9)))] [⟨.pointer (some q9), [(Vl (.int .i64 y1.1)), (Vl (.int .i64 y1.2.1)), (Sl Kf y1.2.2.1), (Vl (.int .i64 y1.2.2.2))], 151, none⟩] (fun x : Unit => (Fl r16.2.2.2.2)) (fun x => [⟨.pointer (some q9), [(Vl (.int .i64 r16.1)), (Vl (.int .i64 r16.2.1)), (Sl Kf r16.2.2.1), (Vl (.int .i64 r16.2.2.2.1))], 151, none⟩])) [0] [1, 2, 3] (by decide) (pick_cons rfl pick_nil) (pick_cons rfl (pick_cons rfl (pick_cons rfl pick_nil))) (Hn := fun x : Unit => [⟨.pointer (some q9), [(Vl (.int .i64 r16.1)), (Vl (.int .i64 r16.2.1)), (Sl Kf r16.2.2.1), (Vl (.int .i64 r16.2.2.2.1))], 151, none⟩, ⟨.pointer (some q3), [(Vl (.bool false))], 4, none⟩, ⟨.pointer (some q2), [(Vl (.float .f64 0))], 30, none⟩, ⟨.pointer (some q1), [(Vl (.int .i64 a0_0)), (Vl (.int .i64 a0_1)), (Vl (.int .i64 a0_2)), (Sl Kf a0_3), (Sl (Ki .i64) a0_4), (Sl (Kl (Ki .i64)) a0_5), (Sl KT27 a0_6)], 27, none⟩]) (fun _ => rfl) rfl rfl) (wt_none' rfl) fun ⟨⟩ => ?_
    refine sx_ox' (ox_store' (i := 2) (o := 0) rfl rfl (lv_fl _) ⟨rfl, rfl, rfl, rfl⟩ rfl info30 rfl (H' := [⟨.pointer (some q9), [(Vl (.int .i64 r16.1)), (Vl (.int .i64 r16.2.1)), (Sl Kf r16.2.2.1), (Vl (.int .i64 r16.2.2.2.1))], 151, none⟩, ⟨.pointer (some q3), [(Vl (.bool false))], 4, none⟩, ⟨.pointer (some q2), [(Fl r16.2.2.2.2)], 30, none⟩, ⟨.pointer (some q1), [(Vl (.int .i64 a0_0)), (Vl (.int .i64 a0_1)), (Vl (.int .i64 a0_2)), (Sl Kf a0_3), (Sl (Ki .i64) a0_4), (Sl (Kl (Ki .i64)) a0_5), (Sl KT27 a0_6)], 27, none⟩]) rfl) (wt_none' rfl) fun _ => ?_
    refine sx_ox' (ox_store' (i := 1) (o := 0) rfl rfl (lv_vl rfl rfl) ⟨rfl, rfl, rfl, rfl⟩ rfl info4 rfl (H' := [⟨.pointer (some q9), [(Vl (.int .i64 r16.1)), (Vl (.int .i64 r16.2.1)), (Sl Kf r16.2.2.1), (Vl (.int .i64 r16.2.2.2.1))], 151, none⟩, ⟨.pointer (some q3), [(Vl (.bool true))], 4, none⟩, ⟨.pointer (some q2), [(Fl r16.2.2.2.2)], 30, none⟩, ⟨.pointer (some q1), [(Vl (.int .i64 a0_0)), (Vl (.int .i64 a0_1)), (Vl (.int .i64 a0_2)), (Sl Kf a0_3), (Sl (Ki .i64) a0_4), (Sl (Kl (Ki .i64)) a0_5), (Sl KT27 a0_6)], 27, none⟩]) rfl) (wt_none' rfl) fun _ => ?_
    refine sx_nil' ?_
    show TX E K6 _
    refine tx_k' hK6 ?_
    refine cx_retc' ?_
    replace hp := Option.some.inj hp
    subst hp
    refine tx_leave' (.inl rfl) rfl idle70 rfl Try.func70 isn70 rfl ?_
    refine tx_pick' (L' := [(2, (Vl (.pointer (some q2)))), (3, (Vl (.pointer (some q3))))]) (H' := [⟨.pointer (some q2), [(Fl r16.2.2.2.2)], 30, none⟩, ⟨.pointer (some q3), [(Vl (.bool true))], 4, none⟩]) [2, 1] (sub_cons rfl (sub_cons rfl sub_nil)) (by decide) (pick_cons rfl (pick_cons rfl pick_nil)) ?_
    exact tx_ret2' Try.results33 rfl () (rv_cell' (i := 0) (o := 0) rfl ⟨rfl, rfl, rfl, rfl⟩ rfl flat30) (rv_cell' (i := 1) (o := 0) rfl ⟨rfl, rfl, rfl, rfl⟩ rfl flat4) rfl (List.nil_sublist _)
  · dsimp only at hp
    refine sx_ox' (ox_calln' (ent_fn' Try.func52 isn52 rfl rfl) (impl_geometry_sim _ _ _ _ _ _ _ hr9 : Go.Sx.Fn Try.prog 52 [(Ag [(Vl (.int .i64 a0_0)), (Vl (.int .i64 a0_1)), (Vl (.int .i64 a0_2)), (Sl Kf a0_3), (Sl (Ki .i64) a0_4), (Sl (Kl (Ki .i64)) a0_5), (Sl KT27 a0_6)])] [] (fun x : Addr => (If 87 (Vl (.pointer (some x))))) (fun x => [⟨.pointer (some x), [(Vl (.int .i64 y1.1)), (Vl (.int .i64 y1.2.1)), (Sl Kf y1.2.2.1), (Vl (.int .i64 y1.2.2.2.1)), (Sl (Ki .i64) y1.2.2.2.2)], 155, none⟩])) (Hn := fun x : Addr => [⟨.pointer (some x), [(Vl (.int .i64 y1.1)), (Vl (.int .i64 y1.2.1)), (Sl Kf y1.2.2.1), (Vl (.int .i64 y1.2.2.2.1)), (Sl (Ki .i64) y1.2.2.2.2)], 155, none⟩, ⟨.pointer (some q3), [(Vl (.bool false))], 4, none⟩, ⟨.pointer (some q2), [(Vl (.float .f64 0))], 30, none⟩, ⟨.pointer (some q1), [(Vl (.int .i64 a0_0)), (Vl (.int .i64 a0_1)), (Vl (.int .i64 a0_2)), (Sl Kf a0_3), (Sl (Ki .i64) a0_4), (Sl (Kl (Ki .i64)) a0_5), (Sl KT27 a0_6)], 27, none⟩]) (fun _ => rfl) rfl rfl) (wt_none' rfl) fun q9 => ?_
    refine sx_rd' (rd_assert' rfl (F := fun v => .tuple #[.iface 87 v, .bool true]) as87_75_98k as_ifok) rfl rfl (wt_none' rfl) ?_
    refine sx_rd' (rd_move' rfl) rfl rfl (wt_none' rfl) ?_
    refine sx_rd' (rd_extract' rfl rfl) rfl rfl (wt_none' rfl) ?_
    refine sx_rd' (rd_extract' rfl rfl) rfl rfl (wt_none' rfl) ?_
    refine sx_rd' (rd_assign' rfl) rfl rfl (wt_none' rfl) ?_
    refine sx_rd' (rd_assign' rfl) rfl rfl (wt_none' rfl) ?_
    refine sx_nil' ?_
    show TX E K3 _
    refine tx_k' hK3 ?_
    refine cx_seq' fun K4 hK4 => ?_
    refine cx_seq' fun K5 hK5 => ?_
    refine cx_region' ?_
    refine sx_rd' (rd_move' rfl) rfl rfl (wt_none' rfl) ?_
    refine sx_rd' (rd_un' rfl ru_not) rfl rfl (wt_none' rfl) ?_
    refine sx_nil' ?_
    show TX E K5 _
    refine tx_k' hK5 ?_
    refine cx_cond_f' rfl rfl ?_
    refine cx_skip' ?_
    show TX E K4 _
    refine tx_k' hK4 ?_
    refine cx_seq' fun K6 hK6 => ?_
    refine cx_region' ?_
    refine sx_rd' (rd_move' rfl) rfl rfl (wt_none' rfl) ?_
    obtain ⟨r16, hr16, hp⟩ := bind_some hp
    refine sx_ox' (ox_callg' (ent_inv' rfl rfl (inv_any0 inv87_Length)) (gogeom_Polygon_Length_sim _ _ _ _ _ hr16 : Go.Sx.Fn Try.prog 166 [(Vl (.pointer (some q9)))] [⟨.pointer (some q9), [(Vl (.int .i64 y1.1)), (Vl (.int .i64 y1.2.1)), (Sl Kf y1.2.2.1), (Vl (.int .i64 y1.2.2.2.1)), (Sl (Ki .i64) y1.2.2.2.2)], 155, none⟩] (fun x : Unit => (Fl r16.2.2.2.2.2)) (fun x => [⟨.pointer (some q9), [(Vl (.int .i64 r16.1)), (Vl (.int .i64 r16.2.1)), (Sl Kf r16.2.2.1), (Vl (.int .i64 r16.2.2.2.1)), (Sl (Ki .i64) r16.2.2.2.2.1)], 155, none⟩])) [0] [1, 2, 3] (by decide) (pick_cons rfl pick_nil) (pick_cons rfl (pick_cons rfl (pick_cons rfl pick_nil))) (Hn := fun x : Unit => [⟨.pointer (some q9), [(Vl (.int .i64 r16.1)), (Vl (.int .i64 r16.2.1)), (Sl Kf r16.2.2.1), (Vl (.int .i64 r16.2.2.2.1)), (Sl (Ki .i64) r16.2.2.2.2.1)], 155, none⟩, ⟨.pointer (some q3), [(Vl (.bool false))], 4, none⟩, ⟨.pointer (some q2), [(Vl (.float .f64 0))], 30, none⟩, ⟨.pointer (some q1), [(Vl (.int .i64 a0_0)), (Vl (.int .i64 a0_1)), (Vl (.int .i64 a0_2)), (Sl Kf a0_3), (Sl (Ki .i64) a0_4), (Sl (Kl (Ki .i64)) a0_5), (Sl KT27 a0_6)], 27, none⟩]) (fun _ => rfl) rfl rfl) (wt_none' rfl) fun ⟨⟩ => ?_
    refine sx_ox' (ox_store' (i := 2) (o := 0) rfl rfl (lv_fl _) ⟨rfl, rfl, rfl, rfl⟩ rfl info30 rfl (H' := [⟨.pointer (some q9), [(Vl (.int .i64 r16.1)), (Vl (.int .i64 r16.2.1)), (Sl Kf r16.2.2.1), (Vl (.int .i64 r16.2.2.2.1)), (Sl (Ki .i64) r16.2.2.2.2.1)], 155, none⟩, ⟨.pointer (some q3), [(Vl (.bool false))], 4, none⟩, ⟨.pointer (some q2), [(Fl r16.2.2.2.2.2)], 30, none⟩, ⟨.pointer (some q1), [(Vl (.int .i64 a0_0)), (Vl (.int .i64 a0_1)), (Vl (.int .i64 a0_2)), (Sl Kf a0_3), (Sl (Ki .i64) a0_4), (Sl (Kl (Ki .i64)) a0_5), (Sl KT27 a0_6)], 27, none⟩]) rfl) (wt_none' rfl) fun _ => ?_
    refine sx_ox' (ox_store' (i := 1) (o := 0) rfl rfl (lv_vl rfl rfl) ⟨rfl, rfl, rfl, rfl⟩ rfl info4 rfl (H' := [⟨.pointer (some q9), [(Vl (.int .i64 r16.1)), (Vl (.int .i64 r16.2.1)), (Sl Kf r16.2.2.1), (Vl (.int .i64 r16.2.2.2.1)), (Sl (Ki .i64) r16.2.2.2.2.1)], 155, none⟩, ⟨.pointer (some q3), [(Vl (.bool true))], 4, none⟩, ⟨.pointer (some q2), [(Fl r16.2.2.2.2.2)], 30, none⟩, ⟨.pointer (some q1), [(Vl (.int .i64 a0_0)), (Vl (.int .i64 a0_1)), (Vl (.int .i64 a0_2)), (Sl Kf a0_3), (Sl (Ki .i64) a0_4), (Sl (Kl (Ki .i64)) a0_5), (Sl KT27 a0_6)], 27, none⟩]) rfl) (wt_none' rfl) fun _ => ?_
    refine sx_nil' ?_
    show TX E K6 _
    refine tx_k' hK6 ?_
    refine cx_retc' ?_
    replace hp := Option.some.inj hp
    subst hp
    refine tx_leave' (.inl rfl) rfl idle70 rfl Try.func70 isn70 rfl ?_
    refine tx_pick' (L' := [(2, (Vl (.pointer (some q2)))), (3, (Vl (.pointer (some q3))))]) (H' := [⟨.pointer (some q2), [(Fl r16.2.2.2.2.2)], 30, none⟩, ⟨.pointer (some q3), [(Vl (.bool true))], 4, none⟩]) [2, 1] (sub_cons rfl (sub_cons rfl sub_nil)) (by decide) (pick_cons rfl (pick_cons rfl pick_nil)) ?_
    exact tx_ret2' Try.results33 rfl () (rv_cell' (i := 0) (o := 0) rfl ⟨rfl, rfl, rfl, rfl⟩ rfl flat30) (rv_cell' (i := 1) (o := 0) rfl ⟨rfl, rfl, rfl, rfl⟩ rfl flat4) rfl (List.nil_sublist _)
  · dsimp only at hp
    refine sx_ox' (ox_calln' (ent_fn' Try.func52 isn52 rfl rfl) (impl_geometry_sim _ _ _ _ _ _ _ hr9 : Go.Sx.Fn Try.prog 52 [(Ag [(Vl (.int .i64 a0_0)), (Vl (.int .i64 a0_1)), (Vl (.int .i64 a0_2)), (Sl Kf a0_3), (Sl (Ki .i64) a0_4), (Sl (Kl (Ki .i64)) a0_5), (Sl KT27 a0_6)])] [] (fun x : Addr => (If 90 (Vl (.pointer (some x))))) (fun x => [⟨.pointer (some x), [(Vl (.int .i64 y1.1)), (Vl (.int .i64 y1.2.1)), (Sl Kf y1.2.2.1), (Vl (.int .i64 y1.2.2.2.1)), (Sl (Ki .i64) y1.2.2.2.2)], 158, none⟩])) (Hn := fun x : Addr => [⟨.pointer (some x), [(Vl (.int .i64 y1.1)), (Vl (.int .i64 y1.2.1)), (Sl Kf y1.2.2.1), (Vl (.int .i64 y1.2.2.2.1)), (Sl (Ki .i64) y1.2.2.2.2)], 158, none⟩, ⟨.pointer (some q3), [(Vl (.bool false))], 4, none⟩, ⟨.pointer (some q2), [(Vl (.float .f64 0))], 30, none⟩, ⟨.pointer (some q1), [(Vl (.int .i64 a0_0)), (Vl (.int .i64 a0_1)), (Vl (.int .i64 a0_2)), (Sl Kf a0_3), (Sl (Ki .i64) a0_4), (Sl (Kl (Ki .i64)) a0_5), (Sl KT27 a0_6)], 27, none⟩]) (fun _ => rfl) rfl rfl) (wt_none' rfl) fun q9 => ?_
    refine sx_rd' (rd_assert' rfl (F := fun v => .tuple #[.iface 90 v, .bool true]) as90_75_98k as_ifok) rfl rfl (wt_none' rfl) ?_
    refine sx_rd' (rd_move' rfl) rfl rfl (wt_none' rfl) ?_
    refine sx_rd' (rd_extract' rfl rfl) rfl rfl (wt_none' rfl) ?_
    refine sx_rd' (rd_extract' rfl rfl) rfl rfl (wt_none' rfl) ?_
    refine sx_rd' (rd_assign' rfl) rfl rfl (wt_none' rfl) ?_
    refine sx_rd' (rd_assign' rfl) rfl rfl (wt_none' rfl) ?_
    refine sx_nil' ?_
    show TX E K3 _
    refine tx_k' hK3 ?_
    refine cx_seq' fun K4 hK4 => ?_
    refine cx_seq' fun K5 hK5 => ?_
    refine cx_region' ?_
    refine sx_rd' (rd_move' rfl) rfl rfl (wt_none' rfl) ?_
    refine sx_rd' (rd_un' rfl ru_not) rfl rfl (wt_none' rfl) ?_
    refine sx_nil' ?_
    show TX E K5 _
    refine tx_k' hK5 ?_
    refine cx_cond_f' rfl rfl ?_
    refine cx_skip' ?_
    show TX E K4 _
    refine tx_k' hK4 ?_
    refine cx_seq' fun K6 hK6 => ?_
    refine cx_region' ?_
    refine sx_rd' (rd_move' rfl) rfl rfl (wt_none' rfl) ?_
    obtain ⟨r16, hr16, hp⟩ := bind_some hp
    refine sx_ox' (ox_callg' (ent_inv' rfl rfl (inv_any0 inv90_Length)) (gogeom_MultiPoint_Length_sim _ _ _ _ _ hr16 : Go.Sx.Fn Try.prog 175 [(Vl (.pointer (some q9)))] [⟨.pointer (some q9), [(Vl (.int .i64 y1.1)), (Vl (.int .i64 y1.2.1)), (Sl Kf y1.2.2.1), (Vl (.int .i64 y1.2.2.2.1)), (Sl (Ki .i64) y1.2.2.2.2)], 158, none⟩] (fun x : Unit => (Vl (.float .f64 r16.2.2.2.2.2))) (fun x => [⟨.pointer (some q9), [(Vl (.int .i64 r16.1)), (Vl (.int .i64 r16.2.1)), (Sl Kf r16.2.2.1), (Vl (.int .i64 r16.2.2.2.1)), (Sl (Ki .i64) r16.2.2.2.2.1)], 158, none⟩])) [0] [1, 2, 3] (by decide) (pick_cons rfl pick_nil) (pick_cons rfl (pick_cons rfl (pick_cons rfl pick_nil))) (Hn := fun x : Unit => [⟨.pointer (some q9), [(Vl (.int .i64 r16.1)), (Vl (.int .i64 r16.2.1)), (Sl Kf r16.2.2.1), (Vl (.int .i64 r16.2.2.2.1)), (Sl (Ki .i64) r16.2.2.2.2.1)], 158, none⟩, ⟨.pointer (some q3), [(Vl (.bool false))], 4, none⟩, ⟨.pointer (some q2), [(Vl (.float .f64 0))], 30, none⟩, ⟨.pointer (some q1), [(Vl (.int .i64 a0_0)), (Vl (.int .i64 a0_1)), (Vl (.int .i64 a0_2)), (Sl Kf a0_3), (Sl (Ki .i64) a0_4), (Sl (Kl (Ki .i64)) a0_5), (Sl KT27 a0_6)], 27, none⟩]) (fun _ => rfl) rfl rfl) (wt_none' rfl) fun ⟨⟩ => ?_
    refine sx_ox' (ox_store' (i := 2) (o := 0) rfl rfl (lv_vl rfl rfl) ⟨rfl, rfl, rfl, rfl⟩ rfl info30 rfl (H' := [⟨.pointer (some q9), [(Vl (.int .i64 r16.1)), (Vl (.int .i64 r16.2.1)), (Sl Kf r16.2.2.1), (Vl (.int .i64 r16.2.2.2.1)), (Sl (Ki .i64) r16.2.2.2.2.1)], 158, none⟩, ⟨.pointer (some q3), [(Vl (.bool false))], 4, none⟩, ⟨.pointer (some q2), [(Vl (.float .f64 r16.2.2.2.2.2))], 30, none⟩, ⟨.pointer (some q1), [(Vl (.int .i64 a0_0)), (Vl (.int .i64 a0_1)), (Vl (.int .i64 a0_2)), (Sl Kf a0_3), (Sl (Ki .i64) a0_4), (Sl (Kl (Ki .i64)) a0_5), (Sl KT27 a0_6)], 27, none⟩]) rfl) (wt_none' rfl) fun _ => ?_
    refine sx_ox' (ox_store' (i := 1) (o := 0) rfl rfl (lv_vl rfl rfl) ⟨rfl, rfl, rfl, rfl⟩ rfl info4 rfl (H' := [⟨.pointer (some q9), [(Vl (.int .i64 r16.1)), (Vl (.int .i64 r16.2.1)), (Sl Kf r16.2.2.1), (Vl (.int .i64 r16.2.2.2.1)), (Sl (Ki .i64) r16.2.2.2.2.1)], 158, none⟩, ⟨.pointer (some q3), [(Vl (.bool true))], 4, none⟩, ⟨.pointer (some q2), [(Vl (.float .f64 r16.2.2.2.2.2))], 30, none⟩, ⟨.pointer (some q1), [(Vl (.int .i64 a0_0)), (Vl (.int .i64 a0_1)), (Vl (.int .i64 a0_2)), (Sl Kf a0_3), (Sl (Ki .i64) a0_4), (Sl (Kl (Ki .i64)) a0_5), (Sl KT27 a0_6)], 27, none⟩]) rfl) (wt_none' rfl) fun _ => ?_
    refine sx_nil' ?_
    show TX E K6 _
    refine tx_k' hK6 ?_
    refine cx_retc' ?_
    replace hp := Option.some.inj hp
    subst hp
    refine tx_leave' (.inl rfl) rfl idle70 rfl Try.func70 isn70 rfl ?_
    refine tx_pick' (L' := [(2, (Vl (.pointer (some q2)))), (3, (Vl (.pointer (some q3))))]) (H' := [⟨.pointer (some q2), [(Vl (.float .f64 r16.2.2.2.2.2))], 30, none⟩, ⟨.pointer (some q3), [(Vl (.bool true))], 4, none⟩]) [2, 1] (sub_cons rfl (sub_cons rfl sub_nil)) (by decide) (pick_cons rfl (pick_cons rfl pick_nil)) ?_
    exact tx_ret2' Try.results33 rfl () (rv_imp' (x := (Vl (.float .f64 r16.2.2.2.2.2))) (y := (Fl r16.2.2.2.2.2)) (rv_cell' (i := 0) (o := 0) rfl ⟨rfl, rfl, rfl, rfl⟩ rfl flat30) imp_vf) (rv_cell' (i := 1) (o := 0) rfl ⟨rfl, rfl, rfl, rfl⟩ rfl flat4) rfl (List.nil_sublist _)
  · dsimp only at hp
    refine sx_ox' (ox_calln' (ent_fn' Try.func52 isn52 rfl rfl) (impl_geometry_sim _ _ _ _ _ _ _ hr9 : Go.Sx.Fn Try.prog 52 [(Ag [(Vl (.int .i64 a0_0)), (Vl (.int .i64 a0_1)), (Vl (.int .i64 a0_2)), (Sl Kf a0_3), (Sl (Ki .i64) a0_4), (Sl (Kl (Ki .i64)) a0_5), (Sl KT27 a0_6)])] [] (fun x : Addr => (If 92 (Vl (.pointer (some x))))) (fun x => [⟨.pointer (some x), [(Vl (.int .i64 y1.1)), (Vl (.int .i64 y1.2.1)), (Sl Kf y1.2.2.1), (Vl (.int .i64 y1.2.2.2.1)), (Sl (Ki .i64) y1.2.2.2.2)], 161, none⟩])) (Hn := fun x : Addr => [⟨.pointer (some x), [(Vl (.int .i64 y1.1)), (Vl (.int .i64 y1.2.1)), (Sl Kf y1.2.2.1), (Vl (.int .i64 y1.2.2.2.1)), (Sl (Ki .i64) y1.2.2.2.2)], 161, none⟩, ⟨.pointer (some q3), [(Vl (.bool false))], 4, none⟩, ⟨.pointer (some q2), [(Vl (.float .f64 0))], 30, none⟩, ⟨.pointer (some q1), [(Vl (.int .i64 a0_0)), (Vl (.int .i64 a0_1)), (Vl (.int .i64 a0_2)), (Sl Kf a0_3), (Sl (Ki .i64) a0_4), (Sl (Kl (Ki .i64)) a0_5), (Sl KT27 a0_6)], 27, none⟩]) (fun _ => rfl) rfl rfl) (wt_none' rfl) fun q9 => ?_
    refine sx_rd' (rd_assert' rfl (F := fun v => .tuple #[.iface 92 v, .bool true]) as92_75_98k as_ifok) rfl rfl (wt_none' rfl) ?_
    refine sx_rd' (rd_move' rfl) rfl rfl (wt_none' rfl) ?_
    refine sx_rd' (rd_extract' rfl rfl) rfl rfl (wt_none' rfl) ?_
    refine sx_rd' (rd_extract' rfl rfl) rfl rfl (wt_none' rfl) ?_
    refine sx_rd' (rd_assign' rfl) rfl rfl (wt_none' rfl) ?_
    refine sx_rd' (rd_assign' rfl) rfl rfl (wt_none' rfl) ?_
    refine sx_nil' ?_
    show TX E K3 _
    refine tx_k' hK3 ?_
    refine cx_seq' fun K4 hK4 => ?_
    refine cx_seq' fun K5 hK5 => ?_
    refine cx_region' ?_
    refine sx_rd' (rd_move' rfl) rfl rfl (wt_none' rfl) ?_
    refine sx_rd' (rd_un' rfl ru_not) rfl rfl (wt_none' rfl) ?_
    refine sx_nil' ?_
    show TX E K5 _
    refine tx_k' hK5 ?_
    refine cx_cond_f' rfl rfl ?_
    refine cx_skip' ?_
    show TX E K4 _
    refine tx_k' hK4 ?_
    refine cx_seq' fun K6 hK6 => ?_
    refine cx_region' ?_
    refine sx_rd' (rd_move' rfl) rfl rfl (wt_none' rfl) ?_
    obtain ⟨r16, hr16, hp⟩ := bind_some hp
    refine sx_ox' (ox_callg' (ent_inv' rfl rfl (inv_any0 inv92_Length)) (gogeom_MultiLineString_Length_sim _ _ _ _ _ hr16 : Go.Sx.Fn Try.prog 177 [(Vl (.pointer (some q9)))] [⟨.pointer (some q9), [(Vl (.int .i64 y1.1)), (Vl (.int .i64 y1.2.1)), (Sl Kf y1.2.2.1), (Vl (.int .i64 y1.2.2.2.1)), (Sl (Ki .i64) y1.2.2.2.2)], 161, none⟩] (fun x : Unit => (Fl r16.2.2.2.2.2)) (fun x => [⟨.pointer (some q9), [(Vl (.int .i64 r16.1)), (Vl (.int .i64 r16.2.1)), (Sl Kf r16.2.2.1), (Vl (.int .i64 r16.2.2.2.1)), (Sl (Ki .i64) r16.2.2.2.2.1)], 161, none⟩])) [0] [1, 2, 3] (by decide) (pick_cons rfl pick_nil) (pick_cons rfl (pick_cons rfl (pick_cons rfl pick_nil))) (Hn := fun x : Unit => [⟨.pointer (some q9), [(Vl (.int .i64 r16.1)), (Vl (.int .i64 r16.2.1)), (Sl Kf r16.2.2.1), (Vl (.int .i64 r16.2.2.2.1)), (Sl (Ki .i64) r16.2.2.2.2.1)], 161, none⟩, ⟨.pointer (some q3), [(Vl (.bool false))], 4, none⟩, ⟨.pointer (some q2), [(Vl (.float .f64 0))], 30, none⟩, ⟨.pointer (some q1), [(Vl (.int .i64 a0_0)), (Vl (.int .i64 a0_1)), (Vl (.int .i64 a0_2)), (Sl Kf a0_3), (Sl (Ki .i64) a0_4), (Sl (Kl (Ki .i64)) a0_5), (Sl KT27 a0_6)], 27, none⟩]) (fun _ => rfl) rfl rfl) (wt_none' rfl) fun ⟨⟩ => ?_
    refine sx_ox' (ox_store' (i := 2) (o := 0) rfl rfl (lv_fl _) ⟨rfl, rfl, rfl, rfl⟩ rfl info30 rfl (H' := [⟨.pointer (some q9), [(Vl (.int .i64 r16.1)), (Vl (.int .i64 r16.2.1)), (Sl Kf r16.2.2.1), (Vl (.int .i64 r16.2.2.2.1)), (Sl (Ki .i64) r16.2.2.2.2.1)], 161, none⟩, ⟨.pointer (some q3), [(Vl (.bool false))], 4, none⟩, ⟨.pointer (some q2), [(Fl r16.2.2.2.2.2)], 30, none⟩, ⟨.pointer (some q1), [(Vl (.int .i64 a0_0)), (Vl (.int .i64 a0_1)), (Vl (.int .i64 a0_2)), (Sl Kf a0_3), (Sl (Ki .i64) a0_4), (Sl (Kl (Ki .i64)) a0_5), (Sl KT27 a0_6)], 27, none⟩]) rfl) (wt_none' rfl) fun _ => ?_
    refine sx_ox' (ox_store' (i := 1) (o := 0) rfl rfl (lv_vl rfl rfl) ⟨rfl, rfl, rfl, rfl⟩ rfl info4 rfl (H' := [⟨.pointer (some q9), [(Vl (.int .i64 r16.1)), (Vl (.int .i64 r16.2.1)), (Sl Kf r16.2.2.1), (Vl (.int .i64 r16.2.2.2.1)), (Sl (Ki .i64) r16.2.2.2.2.1)], 161, none⟩, ⟨.pointer (some q3), [(Vl (.bool true))], 4, none⟩, ⟨.pointer (some q2), [(Fl r16.2.2.2.2.2)], 30, none⟩, ⟨.pointer (some q1), [(Vl (.int .i64 a0_0)), (Vl (.int .i64 a0_1)), (Vl (.int .i64 a0_2)), (Sl Kf a0_3), (Sl (Ki .i64) a0_4), (Sl (Kl (Ki .i64)) a0_5), (Sl KT27 a0_6)], 27, none⟩]) rfl) (wt_none' rfl) fun _ => ?_
    refine sx_nil' ?_
    show TX E K6 _
    refine tx_k' hK6 ?_
    refine cx_retc' ?_
    replace hp := Option.some.inj hp
    subst hp
    refine tx_leave' (.inl rfl) rfl idle70 rfl Try.func70 isn70 rfl ?_
    refine tx_pick' (L' := [(2, (Vl (.pointer (some q2)))), (3, (Vl (.pointer (some q3))))]) (H' := [⟨.pointer (some q2), [(Fl r16.2.2.2.2.2)], 30, none⟩, ⟨.pointer (some q3), [(Vl (.bool true))], 4, none⟩]) [2, 1] (sub_cons rfl (sub_cons rfl sub_nil)) (by decide) (pick_cons rfl (pick_cons rfl pick_nil)) ?_
    exact tx_ret2' Try.results33 rfl () (rv_cell' (i := 0) (o := 0) rfl ⟨rfl, rfl, rfl, rfl⟩ rfl flat30) (rv_cell' (i := 1) (o := 0) rfl ⟨rfl, rfl, rfl, rfl⟩ rfl flat4) rfl (List.nil_sublist _)
  · dsimp only at hp
    refine sx_ox' (ox_calln' (ent_fn' Try.func52 isn52 rfl rfl) (impl_geometry_sim _ _ _ _ _ _ _ hr9 : Go.Sx.Fn Try.prog 52 [(Ag [(Vl (.int .i64 a0_0)), (Vl (.int .i64 a0_1)), (Vl (.int .i64 a0_2)), (Sl Kf a0_3), (Sl (Ki .i64) a0_4), (Sl (Kl (Ki .i64)) a0_5), (Sl KT27 a0_6)])] [] (fun x : Addr => (If 95 (Vl (.pointer (some x))))) (fun x => [⟨.pointer (some x), [(Vl (.int .i64 y1.1)), (Vl (.int .i64 y1.2.1)), (Sl Kf y1.2.2.1), (Vl (.int .i64 y1.2.2.2.1)), (Sl (Kl (Ki .i64)) y1.2.2.2.2)], 165, none⟩])) (Hn := fun x : Addr => [⟨.pointer (some x), [(Vl (.int .i64 y1.1)), (Vl (.int .i64 y1.2.1)), (Sl Kf y1.2.2.1), (Vl (.int .i64 y1.2.2.2.1)), (Sl (Kl (Ki .i64)) y1.2.2.2.2)], 165, none⟩, ⟨.pointer (some q3), [(Vl (.bool false))], 4, none⟩, ⟨.pointer (some q2), [(Vl (.float .f64 0))], 30, none⟩, ⟨.pointer (some q1), [(Vl (.int .i64 a0_0)), (Vl (.int .i64 a0_1)), (Vl (.int .i64 a0_2)), (Sl Kf a0_3), (Sl (Ki .i64) a0_4), (Sl (Kl (Ki .i64)) a0_5), (Sl KT27 a0_6)], 27, none⟩]) (fun _ => rfl) rfl rfl) (wt_none' rfl) fun q9 => ?_
    refine sx_rd' (rd_assert' rfl (F := fun v => .tuple #[.iface 95 v, .bool true]) as95_75_98k as_ifok) rfl rfl (wt_none' rfl) ?_
    refine sx_rd' (rd_move' rfl) rfl rfl (wt_none' rfl) ?_
    refine sx_rd' (rd_extract' rfl rfl) rfl rfl (wt_none' rfl) ?_
    refine sx_rd' (rd_extract' rfl rfl) rfl rfl (wt_none' rfl) ?_
    refine sx_rd' (rd_assign' rfl) rfl rfl (wt_none' rfl) ?_
    refine sx_rd' (rd_assign' rfl) rfl rfl (wt_none' rfl) ?_
    refine sx_nil' ?_
    show TX E K3 _
    refine tx_k' hK3 ?_
    refine cx_seq' fun K4 hK4 => ?_
    refine cx_seq' fun K5 hK5 => ?_
    refine cx_region' ?_
    refine sx_rd' (rd_move' rfl) rfl rfl (wt_none' rfl) ?_
    refine sx_rd' (rd_un' rfl ru_not) rfl rfl (wt_none' rfl) ?_
    refine sx_nil' ?_
    show TX E K5 _
    refine tx_k' hK5 ?_
    refine cx_cond_f' rfl rfl ?_
    refine cx_skip' ?_
    show TX E K4 _
    refine tx_k' hK4 ?_
    refine cx_seq' fun K6 hK6 => ?_
    refine cx_region' ?_
    refine sx_rd' (rd_move' rfl) rfl rfl (wt_none' rfl) ?_
    obtain ⟨r16, hr16, hp⟩ := bind_some hp
    refine sx_ox' (ox_callg' (ent_inv' rfl rfl (inv_any0 inv95_Length)) (gogeom_MultiPolygon_Length_sim _ _ _ _ _ hr16 : Go.Sx.Fn Try.prog 180 [(Vl (.pointer (some q9)))] [⟨.pointer (some q9), [(Vl (.int .i64 y1.1)), (Vl (.int .i64 y1.2.1)), (Sl Kf y1.2.2.1), (Vl (.int .i64 y1.2.2.2.1)), (Sl (Kl (Ki .i64)) y1.2.2.2.2)], 165, none⟩] (fun x : Unit => (Fl r16.2.2.2.2.2)) (fun x => [⟨.pointer (some q9), [(Vl (.int .i64 r16.1)), (Vl (.int .i64 r16.2.1)), (Sl Kf r16.2.2.1), (Vl (.int .i64 r16.2.2.2.1)), (Sl (Kl (Ki .i64)) r16.2.2.2.2.1)], 165, none⟩])) [0] [1, 2, 3] (by decide) (pick_cons rfl pick_nil) (pick_cons rfl (pick_cons rfl (pick_cons rfl pick_nil))) (Hn := fun x : Unit => [⟨.pointer (some q9), [(Vl (.int .i64 r16.1)), (Vl (.int .i64 r16.2.1)), (Sl Kf r16.2.2.1), (Vl (.int .i64 r16.2.2.2.1)), (Sl (Kl (Ki .i64)) r16.2.2.2.2.1)], 165, none⟩, ⟨.pointer (some q3), [(Vl (.bool false))], 4, none⟩, ⟨.pointer (some q2), [(Vl (.float .f64 0))], 30, none⟩, ⟨.pointer (some q1), [(Vl (.int .i64 a0_0)), (Vl (.int .i64 a0_1)), (Vl (.int .i64 a0_2)), (Sl Kf a0_3), (Sl (Ki .i64) a0_4), (Sl (Kl (Ki .i64)) a0_5), (Sl KT27 a0_6)], 27, none⟩]) (fun _ => rfl) rfl rfl) (wt_none' rfl) fun ⟨⟩ => ?_
    refine sx_ox' (ox_store' (i := 2) (o := 0) rfl rfl (lv_fl _) ⟨rfl, rfl, rfl, rfl⟩ rfl info30 rfl (H' := [⟨.pointer (some q9), [(Vl (.int .i64 r16.1)), (Vl (.int .i64 r16.2.1)), (Sl Kf r16.2.2.1), (Vl (.int .i64 r16.2.2.2.1)), (Sl (Kl (Ki .i64)) r16.2.2.2.2.1)], 165, none⟩, ⟨.pointer (some q3), [(Vl (.bool false))], 4, none⟩, ⟨.pointer (some q2), [(Fl r16.2.2.2.2.2)], 30, none⟩, ⟨.pointer (some q1), [(Vl (.int .i64 a0_0)), (Vl (.int .i64 a0_1)), (Vl (.int .i64 a0_2)), (Sl Kf a0_3), (Sl (Ki .i64) a0_4), (Sl (Kl (Ki .i64)) a0_5), (Sl KT27 a0_6)], 27, none⟩]) rfl) (wt_none' rfl) fun _ => ?_
    refine sx_ox' (ox_store' (i := 1) (o := 0) rfl rfl (lv_vl rfl rfl) ⟨rfl, rfl, rfl, rfl⟩ rfl info4 rfl (H' := [⟨.pointer (some q9), [(Vl (.int .i64 r16.1)), (Vl (.int .i64 r16.2.1)), (Sl Kf r16.2.2.1), (Vl (.int .i64 r16.2.2.2.1)), (Sl (Kl (Ki .i64)) r16.2.2.2.2.1)], 165, none⟩, ⟨.pointer (some q3), [(Vl (.bool true))], 4, none⟩, ⟨.pointer (some q2), [(Fl r16.2.2.2.2.2)], 30, none⟩, ⟨.pointer (some q1), [(Vl (.int .i64 a0_0)), (Vl (.int .i64 a0_1)), (Vl (.int .i64 a0_2)), (Sl Kf a0_3), (Sl (Ki .i64) a0_4), (Sl (Kl (Ki .i64)) a0_5), (Sl KT27 a0_6)], 27, none⟩]) rfl) (wt_none' rfl) fun _ => ?_
    refine sx_nil' ?_
    show TX E K6 _
    refine tx_k' hK6 ?_
    refine cx_retc' ?_
    replace hp := Option.some.inj hp
    subst hp
    refine tx_leave' (.inl rfl) rfl idle70 rfl Try.func70 isn70 rfl ?_
    refine tx_pick' (L' := [(2, (Vl (.pointer (some q2)))), (3, (Vl (.pointer (some q3))))]) (H' := [⟨.pointer (some q2), [(Fl r16.2.2.2.2.2)], 30, none⟩, ⟨.pointer (some q3), [(Vl (.bool true))], 4, none⟩]) [2, 1] (sub_cons rfl (sub_cons rfl sub_nil)) (by decide) (pick_cons rfl (pick_cons rfl pick_nil)) ?_
    exact tx_ret2' Try.results33 rfl () (rv_cell' (i := 0) (o := 0) rfl ⟨rfl, rfl, rfl, rfl⟩ rfl flat30) (rv_cell' (i := 1) (o := 0) rfl ⟨rfl, rfl, rfl, rfl⟩ rfl flat4) rfl (List.nil_sublist _)
  · dsimp only at hp
    refine sx_ox' (ox_calln' (ent_fn' Try.func52 isn52 rfl rfl) (impl_geometry_sim _ _ _ _ _ _ _ hr9 : Go.Sx.Fn Try.prog 52 [(Ag [(Vl (.int .i64 a0_0)), (Vl (.int .i64 a0_1)), (Vl (.int .i64 a0_2)), (Sl Kf a0_3), (Sl (Ki .i64) a0_4), (Sl (Kl (Ki .i64)) a0_5), (Sl KT27 a0_6)])] [] (fun x : Addr => (If 81 (Vl (.pointer (some x))))) (fun x => [⟨.pointer (some x), [(Vl (.int .i64 y1.1)), (Vl (.slice none 0 0)), (Vl (.int .i64 y1.2))], 145, none⟩])) (Hn := fun x : Addr => [⟨.pointer (some x), [(Vl (.int .i64 y1.1)), (Vl (.slice none 0 0)), (Vl (.int .i64 y1.2))], 145, none⟩, ⟨.pointer (some q3), [(Vl (.bool false))], 4, none⟩, ⟨.pointer (some q2), [(Vl (.float .f64 0))], 30, none⟩, ⟨.pointer (some q1), [(Vl (.int .i64 a0_0)), (Vl (.int .i64 a0_1)), (Vl (.int .i64 a0_2)), (Sl Kf a0_3), (Sl (Ki .i64) a0_4), (Sl (Kl (Ki .i64)) a0_5), (Sl KT27 a0_6)], 27, none⟩]) (fun _ => rfl) rfl rfl) (wt_none' rfl) fun q9 => ?_
    refine sx_rd' (rd_assert' rfl (F := fun _ => .tuple #[.nilIface, .bool false]) as81_75_98 as_no) rfl rfl (wt_none' rfl) ?_
    refine sx_rd' (rd_move' rfl) rfl rfl (wt_none' rfl) ?_
    refine sx_rd' (rd_extract' rfl rfl) rfl rfl (wt_none' rfl) ?_
    refine sx_rd' (rd_extract' rfl rfl) rfl rfl (wt_none' rfl) ?_
    refine sx_rd' (rd_assign' rfl) rfl rfl (wt_none' rfl) ?_
    refine sx_rd' (rd_assign' rfl) rfl rfl (wt_none' rfl) ?_
    refine sx_nil' ?_
    show TX E K3 _
    refine tx_k' hK3 ?_
    refine cx_seq' fun K4 hK4 => ?_
    refine cx_seq' fun K5 hK5 => ?_
    refine cx_region' ?_
    refine sx_rd' (rd_move' rfl) rfl rfl (wt_none' rfl) ?_
    refine sx_rd' (rd_un' rfl ru_not) rfl rfl (wt_none' rfl) ?_
    refine sx_nil' ?_
    show TX E K5 _
    refine tx_k' hK5 ?_
    refine cx_cond_t' rfl rfl ?_
    refine cx_seq' fun K7 hK7 => ?_
    refine cx_region' ?_
    refine sx_ox' (ox_store' (i := 2) (o := 0) rfl rfl (lv_vl rfl rfl) ⟨rfl, rfl, rfl, rfl⟩ rfl info30 rfl (H' := [⟨.pointer (some q9), [(Vl (.int .i64 y1.1)), (Vl (.slice none 0 0)), (Vl (.int .i64 y1.2))], 145, none⟩, ⟨.pointer (some q3), [(Vl (.bool false))], 4, none⟩, ⟨.pointer (some q2), [(Vl (.float .f64 0))], 30, none⟩, ⟨.pointer (some q1), [(Vl (.int .i64 a0_0)), (Vl (.int .i64 a0_1)), (Vl (.int .i64 a0_2)), (Sl Kf a0_3), (Sl (Ki .i64) a0_4), (Sl (Kl (Ki .i64)) a0_5), (Sl KT27 a0_6)], 27, none⟩]) rfl) (wt_none' rfl) fun _ => ?_
    refine sx_ox' (ox_store' (i := 1) (o := 0) rfl rfl (lv_vl rfl rfl) ⟨rfl, rfl, rfl, rfl⟩ rfl info4 rfl (H' := [⟨.pointer (some q9), [(Vl (.int .i64 y1.1)), (Vl (.slice none 0 0)), (Vl (.int .i64 y1.2))], 145, none⟩, ⟨.pointer (some q3), [(Vl (.bool false))], 4, none⟩, ⟨.pointer (some q2), [(Vl (.float .f64 0))], 30, none⟩, ⟨.pointer (some q1), [(Vl (.int .i64 a0_0)), (Vl (.int .i64 a0_1)), (Vl (.int .i64 a0_2)), (Sl Kf a0_3), (Sl (Ki .i64) a0_4), (Sl (Kl (Ki .i64)) a0_5), (Sl KT27 a0_6)], 27, none⟩]) rfl) (wt_none' rfl) fun _ => ?_
    refine sx_nil' ?_
    show TX E K7 _
    refine tx_k' hK7 ?_
    refine cx_retc' ?_
    replace hp := Option.some.inj hp
    subst hp
    refine tx_leave' (.inl rfl) rfl idle70 rfl Try.func70 isn70 rfl ?_
    refine tx_pick' (L' := [(2, (Vl (.pointer (some q2)))), (3, (Vl (.pointer (some q3))))]) (H' := [⟨.pointer (some q2), [(Vl (.float .f64 0))], 30, none⟩, ⟨.pointer (some q3), [(Vl (.bool false))], 4, none⟩]) [2, 1] (sub_cons rfl (sub_cons rfl sub_nil)) (by decide) (pick_cons rfl (pick_cons rfl pick_nil)) ?_
    exact tx_ret2' Try.results33 rfl () (rv_imp' (x := (Vl (.float .f64 0))) (y := (Fl 0)) (rv_cell' (i := 0) (o := 0) rfl ⟨rfl, rfl, rfl, rfl⟩ rfl flat30) imp_vf) (rv_cell' (i := 1) (o := 0) rfl ⟨rfl, rfl, rfl, rfl⟩ rfl flat4) rfl (List.nil_sublist _)

def spec_NumParts_j1 (k : Nat) (a0_4 : List Int) (a0_0 : Int) (a0_5 : List (List Int)) (a0_6 : List T27) (x1 : Bool) : Option (Int) :=
  br x1
    (some (a0_4.length : Int))
    (br (decide (a0_0 = 6))
      (some (a0_5.length : Int))
      (some (a0_6.length : Int)))
def spec_NumParts (k : Nat) (a0_0 : Int) (a0_1 : Int) (a0_2 : Int) (a0_3 : List Nat) (a0_4 : List Int) (a0_5 : List (List Int)) (a0_6 : List T27) : Option (Int) :=
  br (decide (a0_0 = 3))
    (spec_NumParts_j1 k a0_4 a0_0 a0_5 a0_6 (decide (a0_0 = 3)))
    (br (decide (a0_0 = 4))
      (spec_NumParts_j1 k a0_4 a0_0 a0_5 a0_6 (decide (a0_0 = 4)))
      (spec_NumParts_j1 k a0_4 a0_0 a0_5 a0_6 (decide (a0_0 = 5))))

theorem spec_NumParts_sim {k : Nat}  (a0_0 : Int) (a0_1 : Int) (a0_2 : Int) (a0_3 : List Nat) (a0_4 : List Int) (a0_5 : List (List Int)) (a0_6 : List T27) {out : Int} (hp : spec_NumParts k a0_0 a0_1 a0_2 a0_3 a0_4 a0_5 a0_6 = some out) : Go.Sx.Fn Try.prog 61 [(Ag [(Vl (.int .i64 a0_0)), (Vl (.int .i64 a0_1)), (Vl (.int .i64 a0_2)), (Sl Kf a0_3), (Sl (Ki .i64) a0_4), (Sl (Kl (Ki .i64)) a0_5), (Sl KT27 a0_6)])] [] (fun w : Unit => (Vl (.int .i64 out))) (fun w => []) := by
  unfold spec_NumParts at hp
  refine fn_of Try.func61 rfl Try.ntmps61 rfl fun E hM => ?_
  refine cx_seq' fun K1 hK1 => ?_
  refine cx_region' ?_
  refine sx_ox' (ox_box' rfl (lv_ag _) rfl rfl) (wt_none' rfl) fun q1 => ?_
  refine sx_rd' (rd_assign' rfl) rfl rfl (wt_none' rfl) ?_
  refine sx_nil' ?_
  show TX E K1 _
  refine tx_k' hK1 ?_
  refine cx_seq' fun K2 hK2 => ?_
  refine cx_seq' fun K3 hK3 => ?_
  refine cx_region' ?_
  refine sx_rd' (rd_field0' rfl Try.underlying27 rfl info3 rfl) rfl rfl (wt_none' rfl) ?_
  refine sx_rd' (rd_load' (i := 0) (o := 0) rfl ⟨rfl, rfl, rfl, rfl⟩ rfl flat3) rfl rfl (wt_none' rfl) ?_
  refine sx_nil' ?_
  show TX E K3 _
  refine tx_k' hK3 ?_
  refine cx_block' ?_
  refine cx_join' (fun (v1 : Bool) => (⟨20, [], [(1, (Vl (.pointer (some q1)))), (4, (Vl (.int .i64 a0_0))), (5, (Vl (.bool v1)))], [⟨.pointer (some q1), [(Vl (.int .i64 a0_0)), (Vl (.int .i64 a0_1)), (Vl (.int .i64 a0_2)), (Sl Kf a0_3), (Sl (Ki .i64) a0_4), (Sl (Kl (Ki .i64)) a0_5), (Sl KT27 a0_6)], 27, none⟩]⟩ : St)) (fun (v1 : Bool) => spec_NumParts_j1 k a0_4 a0_0 a0_5 a0_6 v1 = some out) ?_ ?_
  · rintro x1 hp
    replace hp : spec_NumParts_j1 k a0_4 a0_0 a0_5 a0_6 x1 = some out := hp
    unfold spec_NumParts_j1 at hp
    refine cx_cond' rfl (fun h3 => ?_) (fun h3 => ?_)
    · replace hp := (br_t h3).symm.trans hp
      refine cx_seq' fun K7 hK7 => ?_
      refine cx_region' ?_
      refine sx_rd' (rd_field' (off := 4) rfl Try.underlying27 rfl info23 rfl) rfl rfl (wt_none' rfl) ?_
      refine sx_rd' (rd_load' (i := 0) (o := 4) rfl ⟨rfl, rfl, rfl, rfl⟩ rfl flat23) rfl rfl (wt_none' rfl) ?_
      refine sx_rd' (rd_len' rfl Try.underlying23) rfl rfl (wt_none' rfl) ?_
      refine sx_rd' (rd_assign' rfl) rfl rfl (wt_none' rfl) ?_
      refine sx_nil' ?_
      show TX E K7 _
      refine tx_k' hK7 ?_
      refine cx_retc' ?_
      replace hp := Option.some.inj hp
      subst hp
      refine tx_pick' (L' := [(2, (Vl (.int .i64 (a0_4.length : Int))))]) (H' := []) [] (sub_cons rfl sub_nil) (by decide) pick_nil ?_
      exact tx_ret1' Try.results61 rfl () (rv_tmp' rfl) (List.Sublist.refl _)
    · replace hp := (br_f h3).symm.trans hp
      refine cx_seq' fun K8 hK8 => ?_
      refine cx_region' ?_
      refine sx_rd' (rd_bin' rfl rfl eg_int ru_eql) rfl rfl (wt_none' rfl) ?_
      refine sx_rd' (rd_assign' rfl) rfl rfl (wt_none' rfl) ?_
      refine sx_nil' ?_
      show TX E K8 _
      refine tx_k' hK8 ?_
      refine cx_cond' rfl (fun h4 => ?_) (fun h4 => ?_)
      · replace hp := (br_t h4).symm.trans hp
        refine cx_seq' fun K9 hK9 => ?_
        refine cx_region' ?_
        refine sx_rd' (rd_field' (off := 5) rfl Try.underlying27 rfl info24 rfl) rfl rfl (wt_none' rfl) ?_
        refine sx_rd' (rd_load' (i := 0) (o := 5) rfl ⟨rfl, rfl, rfl, rfl⟩ rfl flat24) rfl rfl (wt_none' rfl) ?_
        refine sx_rd' (rd_len' rfl Try.underlying24) rfl rfl (wt_none' rfl) ?_
        refine sx_rd' (rd_assign' rfl) rfl rfl (wt_none' rfl) ?_
        refine sx_nil' ?_
        show TX E K9 _
        refine tx_k' hK9 ?_
        refine cx_retc' ?_
        replace hp := Option.some.inj hp
        subst hp
        refine tx_pick' (L' := [(2, (Vl (.int .i64 (a0_5.length : Int))))]) (H' := []) [] (sub_cons rfl sub_nil) (by decide) pick_nil ?_
        exact tx_ret1' Try.results61 rfl () (rv_tmp' rfl) (List.Sublist.refl _)
      · replace hp := (br_f h4).symm.trans hp
        refine cx_skip' ?_
        show TX E K2 _
        refine tx_k' hK2 ?_
        refine cx_seq' fun K10 hK10 => ?_
        refine cx_region' ?_
        refine sx_rd' (rd_field' (off := 6) rfl Try.underlying27 rfl info25 rfl) rfl rfl (wt_none' rfl) ?_
        refine sx_rd' (rd_load' (i := 0) (o := 6) rfl ⟨rfl, rfl, rfl, rfl⟩ rfl flat25) rfl rfl (wt_none' rfl) ?_
        refine sx_rd' (rd_len' rfl Try.underlying25) rfl rfl (wt_none' rfl) ?_
        refine sx_rd' (rd_assign' rfl) rfl rfl (wt_none' rfl) ?_
        refine sx_nil' ?_
        show TX E K10 _
        refine tx_k' hK10 ?_
        refine cx_retc' ?_
        replace hp := Option.some.inj hp
        subst hp
        refine tx_pick' (L' := [(2, (Vl (.int .i64 (a0_6.length : Int))))]) (H' := []) [] (sub_cons rfl sub_nil) (by decide) pick_nil ?_
        exact tx_ret1' Try.results61 rfl () (rv_tmp' rfl) (List.Sublist.refl _)
  · intro K4 hK4
    refine cx_seq' fun K5 hK5 => ?_
    refine cx_region' ?_
    refine sx_rd' (rd_bin' rfl rfl eg_int ru_eql) rfl rfl (wt_none' rfl) ?_
    refine sx_rd' (rd_assign' rfl) rfl rfl (wt_none' rfl) ?_
    refine sx_nil' ?_
    show TX E K5 _
    refine tx_k' hK5 ?_
    refine cx_cond' rfl (fun h1 => ?_) (fun h1 => ?_)
    · replace hp := (br_t h1).symm.trans hp
      refine cx_skip' ?_
      show TX E K4 _
      exact tx_pick' [0] (sub_cons rfl (sub_cons rfl (sub_cons rfl sub_nil))) (by decide) (pick_cons rfl pick_nil) (hK4 (decide (a0_0 = 3)) hp)
    · replace hp := (br_f h1).symm.trans hp
      refine cx_seq' fun K6 hK6 => ?_
      refine cx_region' ?_
      refine sx_rd' (rd_bin' rfl rfl eg_int ru_eql) rfl rfl (wt_none' rfl) ?_
      refine sx_rd' (rd_assign' rfl) rfl rfl (wt_none' rfl) ?_
      refine sx_nil' ?_
      show TX E K6 _
      refine tx_k' hK6 ?_
      refine cx_cond' rfl (fun h2 => ?_) (fun h2 => ?_)
      · replace hp := (br_t h2).symm.trans hp
        refine cx_skip' ?_
        show TX E K4 _
        exact tx_pick' [0] (sub_cons rfl (sub_cons rfl (sub_cons rfl sub_nil))) (by decide) (pick_cons rfl pick_nil) (hK4 (decide (a0_0 = 4)) hp)
      · replace hp := (br_f h2).symm.trans hp
        refine cx_region' ?_
        refine sx_rd' (rd_bin' rfl rfl eg_int ru_eql) rfl rfl (wt_none' rfl) ?_
        refine sx_rd' (rd_assign' rfl) rfl rfl (wt_none' rfl) ?_
        refine sx_nil' ?_
        show TX E K4 _
        exact tx_pick' [0] (sub_cons rfl (sub_cons rfl (sub_cons rfl sub_nil))) (by decide) (pick_cons rfl pick_nil) (hK4 (decide (a0_0 = 5)) hp)

def spec_KidOf_j1 (k : Nat) (a0 : Int) (x1 : Bool) : Option (Int) :=
  br x1
    (some (isub .i64 a0 3))
    (some 0)
def spec_KidOf (k : Nat) (a0 : Int) : Option (Int) :=
  br (decide (4 ≤ a0))
    (spec_KidOf_j1 k a0 (decide (a0 ≤ 6)))
    (spec_KidOf_j1 k a0 false)

theorem spec_KidOf_sim {k : Nat}  (a0 : Int) {out : Int} (hp : spec_KidOf k a0 = some out) : Go.Sx.Fn Try.prog 59 [(Vl (.int .i64 a0))] [] (fun w : Unit => (Vl (.int .i64 out))) (fun w => []) := by
  unfold spec_KidOf at hp
  refine fn_of Try.func59 rfl Try.ntmps59 rfl fun E hM => ?_
  refine cx_seq' fun K1 hK1 => ?_
  refine cx_region' ?_
  refine sx_rd' (rd_assign' rfl) rfl rfl (wt_none' rfl) ?_
  refine sx_nil' ?_
  show TX E K1 _
  refine tx_k' hK1 ?_
  refine cx_seq' fun K2 hK2 => ?_
  refine cx_seq' fun K3 hK3 => ?_
  refine cx_region' ?_
  refine sx_rd' (rd_move' rfl) rfl rfl (wt_none' rfl) ?_
  refine sx_rd' (rd_bin' rfl rfl eg_int ru_geq) rfl rfl (wt_none' rfl) ?_
  refine sx_rd' (rd_move' rfl) rfl rfl (wt_none' rfl) ?_
  refine sx_cutn' 3 (fun (v1 : Bool) => (⟨11, [], [(0, (Vl (.int .i64 a0))), (8, (Vl (.bool v1)))], []⟩ : St)) (fun (v1 : Bool) => spec_KidOf_j1 k a0 v1 = some out) ?_ ?_
  · rintro x1 hp
    replace hp : spec_KidOf_j1 k a0 x1 = some out := hp
    unfold spec_KidOf_j1 at hp
    refine sx_nil' ?_
    show TX E K3 _
    refine tx_k' hK3 ?_
    refine cx_cond' rfl (fun h2 => ?_) (fun h2 => ?_)
    · replace hp := (br_t h2).symm.trans hp
      refine cx_seq' fun K5 hK5 => ?_
      refine cx_region' ?_
      refine sx_rd' (rd_move' rfl) rfl rfl (wt_none' rfl) ?_
      refine sx_rd' (rd_bin' rfl rfl eg_int ru_sub) rfl rfl (wt_none' rfl) ?_
      refine sx_rd' (rd_assign' rfl) rfl rfl (wt_none' rfl) ?_
      refine sx_nil' ?_
      show TX E K5 _
      refine tx_k' hK5 ?_
      refine cx_retc' ?_
      replace hp := Option.some.inj hp
      subst hp
      refine tx_pick' (L' := [(2, (Vl (.int .i64 (isub .i64 a0 3))))]) (H' := []) [] (sub_cons rfl sub_nil) (by decide) pick_nil ?_
      exact tx_ret1' Try.results59 rfl () (rv_tmp' rfl) (List.Sublist.refl _)
    · replace hp := (br_f h2).symm.trans hp
      refine cx_skip' ?_
      show TX E K2 _
      refine tx_k' hK2 ?_
      refine cx_seq' fun K6 hK6 => ?_
      refine cx_region' ?_
      refine sx_rd' (rd_assign' rfl) rfl rfl (wt_none' rfl) ?_
      refine sx_nil' ?_
      show TX E K6 _
      refine tx_k' hK6 ?_
      refine cx_retc' ?_
      replace hp := Option.some.inj hp
      subst hp
      refine tx_pick' (L' := [(2, (Vl (.int .i64 0)))]) (H' := []) [] (sub_cons rfl sub_nil) (by decide) pick_nil ?_
      exact tx_ret1' Try.results59 rfl () (rv_tmp' rfl) (List.Sublist.refl _)
  · intro K4 hK4
    rcases br_cases hp with ⟨h1, hp⟩ | ⟨h1, hp⟩
    · refine sx_rd' (rd_move' rfl) rfl rfl (wt_is' (wt_guard' rfl rfl rfl) (beq_tt h1)) ?_
      refine sx_rd' (rd_bin' rfl rfl eg_int ru_leq) rfl rfl (wt_is' (wt_guard' rfl rfl rfl) (beq_tt h1)) ?_
      refine sx_rd' (rd_pick_true' rfl h1 rfl) rfl rfl (wt_none' rfl) ?_
      refine sx_nil' ?_
      show TX E K4 _
      exact tx_pick' [] (sub_cons rfl (sub_cons rfl sub_nil)) (by decide) pick_nil (hK4 (decide (a0 ≤ 6)) hp)
    · refine sx_skip' rfl rfl (wt_is' (wt_guard' rfl rfl rfl) (beq_ft h1)) ?_
      refine sx_skip' rfl rfl (wt_is' (wt_guard' rfl rfl rfl) (beq_ft h1)) ?_
      refine sx_rd' (rd_pick_false' rfl h1 rfl) rfl rfl (wt_none' rfl) ?_
      refine sx_nil' ?_
      show TX E K4 _
      exact tx_pick' [] (sub_cons rfl (sub_cons rfl sub_nil)) (by decide) pick_nil (hK4 false hp)

def spec_Part_j2 (k : Nat) (rec1 : (Int × Int) → Option (Int)) (x4 : Int) (x2 : Int) : Option (Int) :=
  rec1 (x2, (iadd .i64 x4 1))
def spec_Part_l1s (r28 : List (List Int)) (k : Nat) (rec1 : (Int × Int) → Option (Int)) (x3 : Int) (x4 : Int) : Option (Int) :=
  br (decide (x4 < (r28.length : Int)))
    ((idx r28 x4) >>= fun r32 =>
    br (decide (0 < (r32.length : Int)))
      ((idx r32 (isub .i64 (r32.length : Int) 1)) >>= fun r41 =>
      spec_Part_j2 k rec1 x4 r41)
      (spec_Part_j2 k rec1 x4 x3))
    (some x3)
def spec_Part_l1 (r28 : List (List Int)) : Nat → (Int × Int) → Option (Int)
  | 0, _ => none
  | k + 1, v => spec_Part_l1s r28 k (spec_Part_l1 r28 k) v.1 v.2
def spec_Part_l2s (r51 : List Int) (v4 : Int) (k : Nat) (rec2 : ((List Int) × Int × Int) → Option ((List Int) × Int)) (x6 : List Int) (x7 : Int) (x8 : Int) : Option ((List Int) × Int) :=
  br (decide (x8 < (r51.length : Int)))
    ((idx r51 x8) >>= fun r56 =>
    (apd 8 x6 ([isub .i64 r56 v4])) >>= fun r64 =>
    rec2 (r64, r56, (iadd .i64 x8 1)))
    (some (x6, x7))
def spec_Part_l2 (r51 : List Int) (v4 : Int) : Nat → ((List Int) × Int × Int) → Option ((List Int) × Int)
  | 0, _ => none
  | k + 1, v => spec_Part_l2s r51 v4 k (spec_Part_l2 r51 v4 k) v.1 v.2.1 v.2.2
def spec_Part_j4 (k : Nat) (a0_4 : List Int) (a1 : Int) (a0_3 : List Nat) (x11 : Int) (a0_1 : Int) (x12 : Int) : Option (Int × Int × Int × (List Nat) × (List Int) × (List (List Int)) × (List T27)) :=
  (idx a0_4 a1) >>= fun r101 =>
  (cut a0_3 x11 r101) >>= fun r103 =>
  (apd 8 [] r103) >>= fun r104 =>
  some (x12, a0_1, 0, r104, [], [], [])
def spec_Part_j3 (k : Nat) (a0_0 : Int) (a0_4 : List Int) (a1 : Int) (a0_3 : List Nat) (a0_1 : Int) (x11 : Int) : Option (Int × Int × Int × (List Nat) × (List Int) × (List (List Int)) × (List T27)) :=
  br (!decide (a0_0 = 3))
    ((spec_KidOf k a0_0) >>= fun r90 =>
    spec_Part_j4 k a0_4 a1 a0_3 x11 a0_1 r90)
    (spec_Part_j4 k a0_4 a1 a0_3 x11 a0_1 8)
def spec_Part (k : Nat) (a0_0 : Int) (a0_1 : Int) (a0_2 : Int) (a0_3 : List Nat) (a0_4 : List Int) (a0_5 : List (List Int)) (a0_6 : List T27) (a1 : Int) : Option (Int × Int × Int × (List Nat) × (List Int) × (List (List Int)) × (List T27)) :=
  br (decide (a0_0 = 7))
    ((idx a0_6 a1) >>= fun r20 =>
    some (r20.f0, r20.f1, r20.f2, r20.f3, r20.f4, r20.f5, r20.f6))
    (br (decide (a0_0 = 6))
      ((cut a0_5 0 a1) >>= fun r28 =>
      (spec_Part_l1 r28 k (0, 0)) >>= fun v4 =>
      (idx a0_5 a1) >>= fun r51 =>
      (spec_Part_l2 r51 v4 k ([], v4, 0)) >>= fun v6 =>
      (cut a0_3 v4 v6.2) >>= fun r73 =>
      (apd 8 [] r73) >>= fun r74 =>
      some (3, a0_1, 0, r74, v6.1, [], []))
      (br (decide (0 < a1))
        ((idx a0_4 (isub .i64 a1 1)) >>= fun r83 =>
        spec_Part_j3 k a0_0 a0_4 a1 a0_3 a0_1 r83)
        (spec_Part_j3 k a0_0 a0_4 a1 a0_3 a0_1 0)))

theorem spec_Part_sim {k : Nat}  (a0_0 : Int) (a0_1 : Int) (a0_2 : Int) (a0_3 : List Nat) (a0_4 : List Int) (a0_5 : List (List Int)) (a0_6 : List T27) (a1 : Int) {out : Int × Int × Int × (List Nat) × (List Int) × (List (List Int)) × (List T27)} (hp : spec_Part k a0_0 a0_1 a0_2 a0_3 a0_4 a0_5 a0_6 a1 = some out) : Go.Sx.Fn Try.prog 62 [(Ag [(Vl (.int .i64 a0_0)), (Vl (.int .i64 a0_1)), (Vl (.int .i64 a0_2)), (Sl Kf a0_3), (Sl (Ki .i64) a0_4), (Sl (Kl (Ki .i64)) a0_5), (Sl KT27 a0_6)]), (Vl (.int .i64 a1))] [] (fun w : Unit => (Ag [(Vl (.int .i64 out.1)), (Vl (.int .i64 out.2.1)), (Vl (.int .i64 out.2.2.1)), (Sl Kf out.2.2.2.1), (Sl (Ki .i64) out.2.2.2.2.1), (Sl (Kl (Ki .i64)) out.2.2.2.2.2.1), (Sl KT27 out.2.2.2.2.2.2)])) (fun w => []) := by
  unfold spec_Part at hp
  refine fn_of Try.func62 rfl Try.ntmps62 rfl fun E hM => ?_
  refine cx_seq' fun K1 hK1 => ?_
  refine cx_region' ?_
  refine sx_ox' (ox_box' rfl (lv_ag _) rfl rfl) (wt_none' rfl) fun q2 => ?_
  refine sx_ox' (ox_alloc' info27 rfl rfl rfl rfl (l := [(Vl (.int .i64 0)), (Vl (.int .i64 0)), (Vl (.int .i64 0)), (Vl (.slice none 0 0)), (Vl (.slice none 0 0)), (Vl (.slice none 0 0)), (Vl (.slice none 0 0))]) rfl) (wt_none' rfl) fun q4 => ?_
  refine sx_nil' ?_
  show TX E K1 _
  refine tx_k' hK1 ?_
  refine cx_seq' fun K2 hK2 => ?_
  refine cx_seq' fun K3 hK3 => ?_
  refine cx_region' ?_
  refine sx_rd' (rd_field0' rfl Try.underlying27 rfl info3 rfl) rfl rfl (wt_none' rfl) ?_
  refine sx_rd' (rd_load' (i := 1) (o := 0) rfl ⟨rfl, rfl, rfl, rfl⟩ rfl flat3) rfl rfl (wt_none' rfl) ?_
  refine sx_rd' (rd_bin' rfl rfl eg_int ru_eql) rfl rfl (wt_none' rfl) ?_
  refine sx_nil' ?_
  show TX E K3 _
  refine tx_k' hK3 ?_
  refine cx_cond' rfl (fun h1 => ?_) (fun h1 => ?_)
  · replace hp := (br_t h1).symm.trans hp
    refine cx_seq' fun K4 hK4 => ?_
    refine cx_region' ?_
    refine sx_rd' (rd_field' (off := 6) rfl Try.underlying27 rfl info25 rfl) rfl rfl (wt_none' rfl) ?_
    refine sx_rd' (rd_load' (i := 1) (o := 6) rfl ⟨rfl, rfl, rfl, rfl⟩ rfl flat25) rfl rfl (wt_none' rfl) ?_
    refine sx_rd' (rd_move' rfl) rfl rfl (wt_none' rfl) ?_
    obtain ⟨r20, hr20, hp⟩ := bind_some hp
    refine sx_rd' (rd_eq' (congrArg Pt (KT27_enc r20)) (rd_at' (K := KT27) rfl rfl hr20 Try.underlying25 info27)) rfl rfl (wt_none' rfl) ?_
    refine sx_rd' (rd_load_pt_agg' (nn := 7) rfl rfl agg27 (l' := [(Vl (.int .i64 r20.f0)), (Vl (.int .i64 r20.f1)), (Vl (.int .i64 r20.f2)), (Sl Kf r20.f3), (Sl (Ki .i64) r20.f4), (Sl (Kl (Ki .i64)) r20.f5), (Sl KT27 r20.f6)]) rfl) rfl rfl (wt_none' rfl) ?_
    refine sx_ox' (ox_store' (i := 0) (o := 0) rfl rfl (lv_ag _) ⟨rfl, rfl, rfl, rfl⟩ rfl info27 rfl (H' := [⟨.pointer (some q4), [(Vl (.int .i64 r20.f0)), (Vl (.int .i64 r20.f1)), (Vl (.int .i64 r20.f2)), (Sl Kf r20.f3), (Sl (Ki .i64) r20.f4), (Sl (Kl (Ki .i64)) r20.f5), (Sl KT27 r20.f6)], 27, none⟩, ⟨.pointer (some q2), [(Vl (.int .i64 a0_0)), (Vl (.int .i64 a0_1)), (Vl (.int .i64 a0_2)), (Sl Kf a0_3), (Sl (Ki .i64) a0_4), (Sl (Kl (Ki .i64)) a0_5), (Sl KT27 a0_6)], 27, none⟩]) rfl) (wt_none' rfl) fun _ => ?_
    refine sx_nil' ?_
    show TX E K4 _
    refine tx_k' hK4 ?_
    refine cx_retc' ?_
    replace hp := Option.some.inj hp
    subst hp
    refine tx_pick' (L' := [(4, (Vl (.pointer (some q4))))]) (H' := [⟨.pointer (some q4), [(Vl (.int .i64 r20.f0)), (Vl (.int .i64 r20.f1)), (Vl (.int .i64 r20.f2)), (Sl Kf r20.f3), (Sl (Ki .i64) r20.f4), (Sl (Kl (Ki .i64)) r20.f5), (Sl KT27 r20.f6)], 27, none⟩]) [0] (sub_cons rfl sub_nil) (by decide) (pick_cons rfl pick_nil) ?_
    exact tx_ret1' Try.results62 rfl () (rv_cell_agg' (i := 0) (o := 0) (nn := 7) rfl ⟨rfl, rfl, rfl, rfl⟩ rfl agg27 rfl) (List.nil_sublist _)
  · replace hp := (br_f h1).symm.trans hp
    refine cx_skip' ?_
    show TX E K2 _
    refine tx_k' hK2 ?_
    refine cx_seq' fun K5 hK5 => ?_
    refine cx_seq' fun K6 hK6 => ?_
    refine cx_region' ?_
    refine sx_rd' (rd_field0' rfl Try.underlying27 rfl info3 rfl) rfl rfl (wt_none' rfl) ?_
    refine sx_rd' (rd_load' (i := 1) (o := 0) rfl ⟨rfl, rfl, rfl, rfl⟩ rfl flat3) rfl rfl (wt_none' rfl) ?_
    refine sx_rd' (rd_bin' rfl rfl eg_int ru_eql) rfl rfl (wt_none' rfl) ?_
    refine sx_nil' ?_
    show TX E K6 _
    refine tx_k' hK6 ?_
    refine cx_cond' rfl (fun h2 => ?_) (fun h2 => ?_)
    · replace hp := (br_t h2).symm.trans hp
      refine cx_seq' fun K7 hK7 => ?_
      refine cx_region' ?_
      refine sx_rd' (rd_assign' rfl) rfl rfl (wt_none' rfl) ?_
      refine sx_nil' ?_
      show TX E K7 _
      refine tx_k' hK7 ?_
      refine cx_seq' fun K8 hK8 => ?_
      refine cx_seq' fun K9 hK9 => ?_
      refine cx_region' ?_
      refine sx_rd' (rd_field' (off := 5) rfl Try.underlying27 rfl info24 rfl) rfl rfl (wt_none' rfl) ?_
      refine sx_rd' (rd_load' (i := 1) (o := 5) rfl ⟨rfl, rfl, rfl, rfl⟩ rfl flat24) rfl rfl (wt_none' rfl) ?_
      refine sx_rd' (rd_move' rfl) rfl rfl (wt_none' rfl) ?_
      obtain ⟨r28, hr28, hp⟩ := bind_some hp
      refine sx_rd' (rd_cut_h' rfl rfl hr28 Try.underlying24 info23) rfl rfl (wt_none' rfl) ?_
      refine sx_rd' (rd_len' rfl Try.underlying24) rfl rfl (wt_none' rfl) ?_
      refine sx_rd' (rd_move' rfl) rfl rfl (wt_none' rfl) ?_
      refine sx_nil' ?_
      show TX E K9 _
      refine tx_k' hK9 ?_
      refine cx_block' ?_
      obtain ⟨v4, hy1, hp⟩ := bind_some hp
      refine cx_loopg' (F := spec_Part_l1 r28) (G := fun k R v => spec_Part_l1s r28 k R v.1 v.2) (x := (0, 0)) (gh := ()) (fun (v2 : Int × Int) (w2 : Unit) => (⟨106, [], [(1, (Vl (.int .i64 a1))), (2, (Vl (.pointer (some q2)))), (4, (Vl (.pointer (some q4)))), (5, (Vl (.int .i64 v2.1))), (28, (Sl (Kl (Ki .i64)) r28)), (29, (Vl (.int .i64 (r28.length : Int)))), (30, (Vl (.int .i64 v2.2)))], [⟨.pointer (some q2), [(Vl (.int .i64 a0_0)), (Vl (.int .i64 a0_1)), (Vl (.int .i64 a0_2)), (Sl Kf a0_3), (Sl (Ki .i64) a0_4), (Sl (Kl (Ki .i64)) a0_5), (Sl KT27 a0_6)], 27, none⟩, ⟨.pointer (some q4), [(Vl (.int .i64 0)), (Vl (.int .i64 0)), (Vl (.int .i64 0)), (Vl (.slice none 0 0)), (Vl (.slice none 0 0)), (Vl (.slice none 0 0)), (Vl (.slice none 0 0))], 27, none⟩]⟩ : St)) (fun (v4 : Int) => Zg E (Exit.exit 0) (fun (w4 : Unit) => (⟨106, [], [(1, (Vl (.int .i64 a1))), (2, (Vl (.pointer (some q2)))), (4, (Vl (.pointer (some q4)))), (5, (Vl (.int .i64 v4)))], [⟨.pointer (some q2), [(Vl (.int .i64 a0_0)), (Vl (.int .i64 a0_1)), (Vl (.int .i64 a0_2)), (Sl Kf a0_3), (Sl (Ki .i64) a0_4), (Sl (Kl (Ki .i64)) a0_5), (Sl KT27 a0_6)], 27, none⟩, ⟨.pointer (some q4), [(Vl (.int .i64 0)), (Vl (.int .i64 0)), (Vl (.int .i64 0)), (Vl (.slice none 0 0)), (Vl (.slice none 0 0)), (Vl (.slice none 0 0)), (Vl (.slice none 0 0))], 27, none⟩]⟩ : St))) (fun _ => rfl) (fun _ _ => rfl) ?_ hy1 (tx_to' rfl [1, 0] (sub_cons rfl (sub_cons rfl (sub_cons rfl (sub_cons rfl (sub_cons rfl (sub_cons rfl (sub_cons rfl sub_nil))))))) (by decide) (pick_cons rfl (pick_cons rfl pick_nil))) ?_
      · clear hp hy1
        clear v4
        intro k rec1 KY1 ih1
        rintro ⟨x3, x4⟩ ⟨⟩ y1 hp
        replace hp : spec_Part_l1s r28 k rec1 x3 x4 = some y1 := hp
        unfold spec_Part_l1s at hp
        refine cx_seq' fun K15 hK15 => ?_
        refine cx_region' ?_
        refine sx_rd' (rd_bin' rfl rfl eg_int ru_lss) rfl rfl (wt_none' rfl) ?_
        refine sx_nil' ?_
        show TX E K15 _
        refine tx_k' hK15 ?_
        refine cx_seq' fun K16 hK16 => ?_
        refine cx_cond' rfl (fun h6 => ?_) (fun h6 => ?_)
        · replace hp := (br_t h6).symm.trans hp
          refine cx_skip' ?_
          show TX E K16 _
          refine tx_k' hK16 ?_
          refine cx_join' (fun (v3 : Int) => (⟨106, [], [(1, (Vl (.int .i64 a1))), (2, (Vl (.pointer (some q2)))), (4, (Vl (.pointer (some q4)))), (5, (Vl (.int .i64 v3))), (28, (Sl (Kl (Ki .i64)) r28)), (29, (Vl (.int .i64 (r28.length : Int)))), (30, (Vl (.int .i64 x4)))], [⟨.pointer (some q2), [(Vl (.int .i64 a0_0)), (Vl (.int .i64 a0_1)), (Vl (.int .i64 a0_2)), (Sl Kf a0_3), (Sl (Ki .i64) a0_4), (Sl (Kl (Ki .i64)) a0_5), (Sl KT27 a0_6)], 27, none⟩, ⟨.pointer (some q4), [(Vl (.int .i64 0)), (Vl (.int .i64 0)), (Vl (.int .i64 0)), (Vl (.slice none 0 0)), (Vl (.slice none 0 0)), (Vl (.slice none 0 0)), (Vl (.slice none 0 0))], 27, none⟩]⟩ : St)) (fun (v3 : Int) => spec_Part_j2 k rec1 x4 v3 = some y1) ?_ ?_
          · rintro x2 hp
            replace hp : spec_Part_j2 k rec1 x4 x2 = some y1 := hp
            unfold spec_Part_j2 at hp
            refine cx_region' ?_
            refine sx_rd' (rd_bin' rfl rfl eg_int ru_add) rfl rfl (wt_none' rfl) ?_
            refine sx_rd' (rd_move' rfl) rfl rfl (wt_none' rfl) ?_
            refine sx_nil' ?_
            show TX E (KY1 _) _
            exact tx_pick' [0, 1] (sub_cons rfl (sub_cons rfl (sub_cons rfl (sub_cons rfl (sub_cons rfl (sub_cons rfl (sub_cons rfl sub_nil))))))) (by decide) (pick_cons rfl (pick_cons rfl pick_nil)) (ih1 (x2, (iadd .i64 x4 1)) () _ hp)
          · intro K17 hK17
            refine cx_block' ?_
            refine cx_seq' fun K18 hK18 => ?_
            refine cx_region' ?_
            obtain ⟨r32, hr32, hp⟩ := bind_some hp
            refine sx_rd' (rd_at' (K := (Kl (Ki .i64))) rfl rfl hr32 Try.underlying24 info23) rfl rfl (wt_none' rfl) ?_
            refine sx_rd' (rd_load_pt' rfl rfl flat23) rfl rfl (wt_none' rfl) ?_
            refine sx_rd' (rd_assign' rfl) rfl rfl (wt_none' rfl) ?_
            refine sx_nil' ?_
            show TX E K18 _
            refine tx_k' hK18 ?_
            refine cx_seq' fun K19 hK19 => ?_
            refine cx_region' ?_
            refine sx_rd' (rd_move' rfl) rfl rfl (wt_none' rfl) ?_
            refine sx_rd' (rd_len' rfl Try.underlying23) rfl rfl (wt_none' rfl) ?_
            refine sx_rd' (rd_bin' rfl rfl eg_int ru_gtr) rfl rfl (wt_none' rfl) ?_
            refine sx_nil' ?_
            show TX E K19 _
            refine tx_k' hK19 ?_
            refine cx_cond' rfl (fun h7 => ?_) (fun h7 => ?_)
            · replace hp := (br_t h7).symm.trans hp
              refine cx_region' ?_
              refine sx_rd' (rd_move' rfl) rfl rfl (wt_none' rfl) ?_
              refine sx_rd' (rd_move' rfl) rfl rfl (wt_none' rfl) ?_
              refine sx_rd' (rd_len' rfl Try.underlying23) rfl rfl (wt_none' rfl) ?_
              refine sx_rd' (rd_bin' rfl rfl eg_int ru_sub) rfl rfl (wt_none' rfl) ?_
              obtain ⟨r41, hr41, hp⟩ := bind_some hp
              refine sx_rd' (rd_at' (K := (Ki .i64)) rfl rfl hr41 Try.underlying23 info3) rfl rfl (wt_none' rfl) ?_
              refine sx_rd' (rd_load_pt' rfl rfl flat3) rfl rfl (wt_none' rfl) ?_
              refine sx_rd' (rd_assign' rfl) rfl rfl (wt_none' rfl) ?_
              refine sx_nil' ?_
              show TX E K17 _
              exact tx_pick' [0, 1] (sub_cons rfl (sub_cons rfl (sub_cons rfl (sub_cons rfl (sub_cons rfl (sub_cons rfl (sub_cons rfl sub_nil))))))) (by decide) (pick_cons rfl (pick_cons rfl pick_nil)) (hK17 r41 hp)
            · replace hp := (br_f h7).symm.trans hp
              refine cx_skip' ?_
              show TX E K17 _
              exact tx_pick' [0, 1] (sub_cons rfl (sub_cons rfl (sub_cons rfl (sub_cons rfl (sub_cons rfl (sub_cons rfl (sub_cons rfl sub_nil))))))) (by decide) (pick_cons rfl (pick_cons rfl pick_nil)) (hK17 x3 hp)
        · replace hp := (br_f h6).symm.trans hp
          refine cx_exit' ?_
          replace hp := Option.some.inj hp
          subst hp
          show TX E (Zg E (Exit.exit 0) _ (Exit.exit 0)) _
          exact tx_zend' () rfl [0, 1] (sub_cons rfl (sub_cons rfl (sub_cons rfl (sub_cons rfl sub_nil)))) (by decide) (pick_cons rfl (pick_cons rfl pick_nil))
      · refine zg_out fun w4 => ?_
        show TX E K8 _
        refine tx_k' hK8 ?_
        refine cx_seq' fun K20 hK20 => ?_
        refine cx_region' ?_
        refine sx_rd' (rd_field' (off := 1) rfl Try.underlying27 rfl info3 rfl) rfl rfl (wt_none' rfl) ?_
        refine sx_rd' (rd_load' (i := 0) (o := 1) rfl ⟨rfl, rfl, rfl, rfl⟩ rfl flat3) rfl rfl (wt_none' rfl) ?_
        refine sx_rd' (rd_build' (pls := [(0, 1), (1, 1), (2, 1), (3, 1), (4, 1), (5, 1), (6, 1)]) (qs := [(0, [(Vl (.int .i64 3))]), (1, [(Vl (.int .i64 a0_1))])]) (r := [(Vl (.int .i64 3)), (Vl (.int .i64 a0_1)), (Vl (.int .i64 0)), (Vl (.slice none 0 0)), (Vl (.slice none 0 0)), (Vl (.slice none 0 0)), (Vl (.slice none 0 0))]) ⟨rfl, ⟨_, rfl, (lv_vl rfl rfl)⟩, ⟨rfl, ⟨_, rfl, (lv_vl rfl rfl)⟩, trivial⟩⟩ Try.underlying27 has27 places27 info27 rfl rfl rfl) rfl rfl (wt_none' rfl) ?_
        refine sx_ox' (ox_alloc' info27 rfl rfl rfl rfl (l := [(Vl (.int .i64 0)), (Vl (.int .i64 0)), (Vl (.int .i64 0)), (Vl (.slice none 0 0)), (Vl (.slice none 0 0)), (Vl (.slice none 0 0)), (Vl (.slice none 0 0))]) rfl) (wt_none' rfl) fun q8 => ?_
        refine sx_ox' (ox_store' (i := 0) (o := 0) rfl rfl (lv_ag _) ⟨rfl, rfl, rfl, rfl⟩ rfl info27 rfl (H' := [⟨.pointer (some q8), [(Vl (.int .i64 3)), (Vl (.int .i64 a0_1)), (Vl (.int .i64 0)), (Vl (.slice none 0 0)), (Vl (.slice none 0 0)), (Vl (.slice none 0 0)), (Vl (.slice none 0 0))], 27, none⟩, ⟨.pointer (some q2), [(Vl (.int .i64 a0_0)), (Vl (.int .i64 a0_1)), (Vl (.int .i64 a0_2)), (Sl Kf a0_3), (Sl (Ki .i64) a0_4), (Sl (Kl (Ki .i64)) a0_5), (Sl KT27 a0_6)], 27, none⟩, ⟨.pointer (some q4), [(Vl (.int .i64 0)), (Vl (.int .i64 0)), (Vl (.int .i64 0)), (Vl (.slice none 0 0)), (Vl (.slice none 0 0)), (Vl (.slice none 0 0)), (Vl (.slice none 0 0))], 27, none⟩]) rfl) (wt_none' rfl) fun _ => ?_
        refine sx_nil' ?_
        show TX E K20 _
        refine tx_k' hK20 ?_
        refine cx_seq' fun K21 hK21 => ?_
        refine cx_region' ?_
        refine sx_rd' (rd_move' rfl) rfl rfl (wt_none' rfl) ?_
        refine sx_rd' (rd_assign' rfl) rfl rfl (wt_none' rfl) ?_
        refine sx_nil' ?_
        show TX E K21 _
        refine tx_k' hK21 ?_
        refine cx_seq' fun K22 hK22 => ?_
        refine cx_seq' fun K23 hK23 => ?_
        refine cx_region' ?_
        refine sx_rd' (rd_field' (off := 5) rfl Try.underlying27 rfl info24 rfl) rfl rfl (wt_none' rfl) ?_
        refine sx_rd' (rd_load' (i := 1) (o := 5) rfl ⟨rfl, rfl, rfl, rfl⟩ rfl flat24) rfl rfl (wt_none' rfl) ?_
        refine sx_rd' (rd_move' rfl) rfl rfl (wt_none' rfl) ?_
        obtain ⟨r51, hr51, hp⟩ := bind_some hp
        refine sx_rd' (rd_at' (K := (Kl (Ki .i64))) rfl rfl hr51 Try.underlying24 info23) rfl rfl (wt_none' rfl) ?_
        refine sx_rd' (rd_load_pt' rfl rfl flat23) rfl rfl (wt_none' rfl) ?_
        refine sx_rd' (rd_len' rfl Try.underlying23) rfl rfl (wt_none' rfl) ?_
        refine sx_rd' (rd_move' rfl) rfl rfl (wt_none' rfl) ?_
        refine sx_nil' ?_
        show TX E K23 _
        refine tx_k' hK23 ?_
        refine cx_block' ?_
        obtain ⟨v6, hy2, hp⟩ := bind_some hp
        refine tx_nilrow' (Ki .i64) 3 ?_
        refine cx_loopg' (F := spec_Part_l2 r51 v4) (G := fun k R v => spec_Part_l2s r51 v4 k R v.1 v.2.1 v.2.2) (x := ([], v4, 0)) (gh := (none, 0, 0)) (fun (v5 : (List Int) × Int × Int) (w5 : Gs) => (⟨106, [], [(2, (Vl (.pointer (some q2)))), (4, (Vl (.pointer (some q4)))), (5, (Vl (.int .i64 v4))), (8, (Vl (.pointer (some q8)))), (9, (Vl (.int .i64 v5.2.1))), (52, (Sl (Ki .i64) r51)), (53, (Vl (.int .i64 (r51.length : Int)))), (54, (Vl (.int .i64 v5.2.2)))], [⟨.pointer (some q2), [(Vl (.int .i64 a0_0)), (Vl (.int .i64 a0_1)), (Vl (.int .i64 a0_2)), (Sl Kf a0_3), (Sl (Ki .i64) a0_4), (Sl (Kl (Ki .i64)) a0_5), (Sl KT27 a0_6)], 27, none⟩, ⟨.pointer (some q4), [(Vl (.int .i64 0)), (Vl (.int .i64 0)), (Vl (.int .i64 0)), (Vl (.slice none 0 0)), (Vl (.slice none 0 0)), (Vl (.slice none 0 0)), (Vl (.slice none 0 0))], 27, none⟩, ⟨.pointer (some q8), [(Vl (.int .i64 3)), (Vl (.int .i64 a0_1)), (Vl (.int .i64 0)), (Vl (.slice none 0 0)), (Vl (Vs w5)), (Vl (.slice none 0 0)), (Vl (.slice none 0 0))], 27, none⟩, (Rw (Ki .i64) 3 (Vs w5) v5.1)]⟩ : St)) (fun (v6 : (List Int) × Int) => Zg E (Exit.exit 2) (fun (w6 : Gs) => (⟨106, [], [(2, (Vl (.pointer (some q2)))), (4, (Vl (.pointer (some q4)))), (5, (Vl (.int .i64 v4))), (8, (Vl (.pointer (some q8)))), (9, (Vl (.int .i64 v6.2)))], [⟨.pointer (some q2), [(Vl (.int .i64 a0_0)), (Vl (.int .i64 a0_1)), (Vl (.int .i64 a0_2)), (Sl Kf a0_3), (Sl (Ki .i64) a0_4), (Sl (Kl (Ki .i64)) a0_5), (Sl KT27 a0_6)], 27, none⟩, ⟨.pointer (some q4), [(Vl (.int .i64 0)), (Vl (.int .i64 0)), (Vl (.int .i64 0)), (Vl (.slice none 0 0)), (Vl (.slice none 0 0)), (Vl (.slice none 0 0)), (Vl (.slice none 0 0))], 27, none⟩, ⟨.pointer (some q8), [(Vl (.int .i64 3)), (Vl (.int .i64 a0_1)), (Vl (.int .i64 0)), (Vl (.slice none 0 0)), (Vl (Vs w6)), (Vl (.slice none 0 0)), (Vl (.slice none 0 0))], 27, none⟩, (Rw (Ki .i64) 3 (Vs w6) v6.1)]⟩ : St))) (fun _ => rfl) (fun _ _ => rfl) ?_ hy2 (tx_to' rfl [2, 3, 1, 0] (sub_cons rfl (sub_cons rfl (sub_cons rfl (sub_cons rfl (sub_cons rfl (sub_cons rfl (sub_cons rfl (sub_cons rfl sub_nil)))))))) (by decide) (pick_cons rfl (pick_cons rfl (pick_cons rfl (pick_cons rfl pick_nil))))) ?_
        · clear hp hy2
          clear v6
          intro k rec2 KY2 ih2
          rintro ⟨x6, x7, x8⟩ g901 y2 hp
          replace hp : spec_Part_l2s r51 v4 k rec2 x6 x7 x8 = some y2 := hp
          unfold spec_Part_l2s at hp
          refine cx_seq' fun K29 hK29 => ?_
          refine cx_region' ?_
          refine sx_rd' (rd_bin' rfl rfl eg_int ru_lss) rfl rfl (wt_none' rfl) ?_
          refine sx_nil' ?_
          show TX E K29 _
          refine tx_k' hK29 ?_
          refine cx_seq' fun K30 hK30 => ?_
          refine cx_cond' rfl (fun h10 => ?_) (fun h10 => ?_)
          · replace hp := (br_t h10).symm.trans hp
            refine cx_skip' ?_
            show TX E K30 _
            refine tx_k' hK30 ?_
            refine cx_seq' fun K31 hK31 => ?_
            refine cx_block' ?_
            refine cx_seq' fun K32 hK32 => ?_
            refine cx_region' ?_
            obtain ⟨r56, hr56, hp⟩ := bind_some hp
            refine sx_rd' (rd_at' (K := (Ki .i64)) rfl rfl hr56 Try.underlying23 info3) rfl rfl (wt_none' rfl) ?_
            refine sx_rd' (rd_load_pt' rfl rfl flat3) rfl rfl (wt_none' rfl) ?_
            refine sx_rd' (rd_assign' rfl) rfl rfl (wt_none' rfl) ?_
            refine sx_nil' ?_
            show TX E K32 _
            refine tx_k' hK32 ?_
            refine cx_seq' fun K33 hK33 => ?_
            refine cx_region' ?_
            refine sx_rd' (rd_field' (off := 4) rfl Try.underlying27 rfl info23 rfl) rfl rfl (wt_none' rfl) ?_
            refine sx_rd' (rd_load' (i := 2) (o := 4) rfl ⟨rfl, rfl, rfl, rfl⟩ rfl flat23) rfl rfl (wt_none' rfl) ?_
            refine sx_rd' (rd_move' rfl) rfl rfl (wt_none' rfl) ?_
            refine sx_rd' (rd_move' rfl) rfl rfl (wt_none' rfl) ?_
            refine sx_rd' (rd_bin' rfl rfl eg_int ru_sub) rfl rfl (wt_none' rfl) ?_
            refine sx_ox' (ox_rowlit' (K := (Ki .i64)) (xs := [isub .i64 r56 v4]) (qs := [(0, [(Vl (.int .i64 (isub .i64 r56 v4)))])]) ⟨rfl, ⟨_, rfl, (lv_vl rfl rfl)⟩, trivial⟩ Try.underlying23 info3 rfl rfl rfl rfl rfl (by kernel_rfl) rfl rfl rfl) (wt_none' rfl) fun g63 => ?_
            obtain ⟨r64, hr64, hp⟩ := bind_some hp
            refine sx_ox' (ox_append' (K := (Ki .i64)) (i := 4) (xs := x6) (ys := ([isub .i64 r56 v4])) rfl rfl rfl (sr_row' (j := 0) rfl rfl rfl Try.underlying23) hr64 Try.underlying23 info3 rfl rfl rfl (H' := [(Rw (Ki .i64) 3 (Vs g63) ([isub .i64 r56 v4])), ⟨.pointer (some q2), [(Vl (.int .i64 a0_0)), (Vl (.int .i64 a0_1)), (Vl (.int .i64 a0_2)), (Sl Kf a0_3), (Sl (Ki .i64) a0_4), (Sl (Kl (Ki .i64)) a0_5), (Sl KT27 a0_6)], 27, none⟩, ⟨.pointer (some q4), [(Vl (.int .i64 0)), (Vl (.int .i64 0)), (Vl (.int .i64 0)), (Vl (.slice none 0 0)), (Vl (.slice none 0 0)), (Vl (.slice none 0 0)), (Vl (.slice none 0 0))], 27, none⟩, ⟨.pointer (some q8), [(Vl (.int .i64 3)), (Vl (.int .i64 a0_1)), (Vl (.int .i64 0)), (Vl (.slice none 0 0)), (Vl (Vs g901)), (Vl (.slice none 0 0)), (Vl (.slice none 0 0))], 27, none⟩]) rfl) (wt_none' rfl) fun g64 => ?_
            refine sx_rd' (rd_field' (off := 4) rfl Try.underlying27 rfl info23 rfl) rfl rfl (wt_none' rfl) ?_
            refine sx_ox' (ox_store' (i := 4) (o := 4) rfl rfl (lv_vl rfl rfl) ⟨rfl, rfl, rfl, rfl⟩ rfl info23 rfl (H' := [(Rw (Ki .i64) 3 (Vs g64) r64), (Rw (Ki .i64) 3 (Vs g63) ([isub .i64 r56 v4])), ⟨.pointer (some q2), [(Vl (.int .i64 a0_0)), (Vl (.int .i64 a0_1)), (Vl (.int .i64 a0_2)), (Sl Kf a0_3), (Sl (Ki .i64) a0_4), (Sl (Kl (Ki .i64)) a0_5), (Sl KT27 a0_6)], 27, none⟩, ⟨.pointer (some q4), [(Vl (.int .i64 0)), (Vl (.int .i64 0)), (Vl (.int .i64 0)), (Vl (.slice none 0 0)), (Vl (.slice none 0 0)), (Vl (.slice none 0 0)), (Vl (.slice none 0 0))], 27, none⟩, ⟨.pointer (some q8), [(Vl (.int .i64 3)), (Vl (.int .i64 a0_1)), (Vl (.int .i64 0)), (Vl (.slice none 0 0)), (Vl (Vs g64)), (Vl (.slice none 0 0)), (Vl (.slice none 0 0))], 27, none⟩]) rfl) (wt_none' rfl) fun _ => ?_
            refine sx_nil' ?_
            show TX E K33 _
            refine tx_k' hK33 ?_
            refine cx_region' ?_
            refine sx_rd' (rd_move' rfl) rfl rfl (wt_none' rfl) ?_
            refine sx_rd' (rd_assign' rfl) rfl rfl (wt_none' rfl) ?_
            refine sx_nil' ?_
            show TX E K31 _
            refine tx_k' hK31 ?_
            refine cx_region' ?_
            refine sx_rd' (rd_bin' rfl rfl eg_int ru_add) rfl rfl (wt_none' rfl) ?_
            refine sx_rd' (rd_move' rfl) rfl rfl (wt_none' rfl) ?_
            refine sx_nil' ?_
            show TX E (KY2 _) _
            exact tx_pick' [2, 3, 4, 0] (sub_cons rfl (sub_cons rfl (sub_cons rfl (sub_cons rfl (sub_cons rfl (sub_cons rfl (sub_cons rfl (sub_cons rfl sub_nil)))))))) (by decide) (pick_cons rfl (pick_cons rfl (pick_cons rfl (pick_cons rfl pick_nil)))) (ih2 (r64, r56, (iadd .i64 x8 1)) g64 _ hp)
          · replace hp := (br_f h10).symm.trans hp
            refine cx_exit' ?_
            replace hp := Option.some.inj hp
            subst hp
            show TX E (Zg E (Exit.exit 2) _ (Exit.exit 2)) _
            exact tx_zend' g901 rfl [0, 1, 2, 3] (sub_cons rfl (sub_cons rfl (sub_cons rfl (sub_cons rfl (sub_cons rfl sub_nil))))) (by decide) (pick_cons rfl (pick_cons rfl (pick_cons rfl (pick_cons rfl pick_nil))))
        · refine zg_out fun w6 => ?_
          show TX E K22 _
          refine tx_k' hK22 ?_
          refine cx_seq' fun K34 hK34 => ?_
          refine cx_region' ?_
          refine sx_ox' (ox_rowlit' (K := Kf) (xs := []) (qs := []) trivial Try.underlying22 info30 rfl rfl rfl rfl rfl (by kernel_rfl) rfl rfl rfl) (wt_none' rfl) fun g68 => ?_
          refine sx_rd' (rd_field' (off := 3) rfl Try.underlying27 rfl info22 rfl) rfl rfl (wt_none' rfl) ?_
          refine sx_rd' (rd_load' (i := 1) (o := 3) rfl ⟨rfl, rfl, rfl, rfl⟩ rfl flat22) rfl rfl (wt_none' rfl) ?_
          refine sx_rd' (rd_move' rfl) rfl rfl (wt_none' rfl) ?_
          refine sx_rd' (rd_move' rfl) rfl rfl (wt_none' rfl) ?_
          obtain ⟨r73, hr73, hp⟩ := bind_some hp
          refine sx_rd' (rd_cut_lh' rfl rfl rfl hr73 Try.underlying22 info30) rfl rfl (wt_none' rfl) ?_
          obtain ⟨r74, hr74, hp⟩ := bind_some hp
          refine sx_ox' (ox_append' (K := Kf) (i := 0) (xs := []) (ys := r73) rfl rfl rfl (sr_sl' rfl Try.underlying22) hr74 Try.underlying22 info30 rfl rfl rfl (H' := [⟨.pointer (some q2), [(Vl (.int .i64 a0_0)), (Vl (.int .i64 a0_1)), (Vl (.int .i64 a0_2)), (Sl Kf a0_3), (Sl (Ki .i64) a0_4), (Sl (Kl (Ki .i64)) a0_5), (Sl KT27 a0_6)], 27, none⟩, ⟨.pointer (some q4), [(Vl (.int .i64 0)), (Vl (.int .i64 0)), (Vl (.int .i64 0)), (Vl (.slice none 0 0)), (Vl (.slice none 0 0)), (Vl (.slice none 0 0)), (Vl (.slice none 0 0))], 27, none⟩, ⟨.pointer (some q8), [(Vl (.int .i64 3)), (Vl (.int .i64 a0_1)), (Vl (.int .i64 0)), (Vl (.slice none 0 0)), (Vl (Vs w6)), (Vl (.slice none 0 0)), (Vl (.slice none 0 0))], 27, none⟩, (Rw (Ki .i64) 3 (Vs w6) v6.1)]) rfl) (wt_none' rfl) fun g74 => ?_
          refine sx_rd' (rd_field' (off := 3) rfl Try.underlying27 rfl info22 rfl) rfl rfl (wt_none' rfl) ?_
          refine sx_ox' (ox_store' (i := 3) (o := 3) rfl rfl (lv_vl rfl rfl) ⟨rfl, rfl, rfl, rfl⟩ rfl info22 rfl (H' := [(Rw Kf 30 (Vs g74) r74), ⟨.pointer (some q2), [(Vl (.int .i64 a0_0)), (Vl (.int .i64 a0_1)), (Vl (.int .i64 a0_2)), (Sl Kf a0_3), (Sl (Ki .i64) a0_4), (Sl (Kl (Ki .i64)) a0_5), (Sl KT27 a0_6)], 27, none⟩, ⟨.pointer (some q4), [(Vl (.int .i64 0)), (Vl (.int .i64 0)), (Vl (.int .i64 0)), (Vl (.slice none 0 0)), (Vl (.slice none 0 0)), (Vl (.slice none 0 0)), (Vl (.slice none 0 0))], 27, none⟩, ⟨.pointer (some q8), [(Vl (.int .i64 3)), (Vl (.int .i64 a0_1)), (Vl (.int .i64 0)), (Vl (Vs g74)), (Vl (Vs w6)), (Vl (.slice none 0 0)), (Vl (.slice none 0 0))], 27, none⟩, (Rw (Ki .i64) 3 (Vs w6) v6.1)]) rfl) (wt_none' rfl) fun _ => ?_
          refine sx_nil' ?_
          show TX E K34 _
          refine tx_k' hK34 ?_
          refine cx_seq' fun K35 hK35 => ?_
          refine cx_region' ?_
          refine sx_rd' (rd_load_agg' (i := 3) (o := 0) (nn := 7) rfl ⟨rfl, rfl, rfl, rfl⟩ rfl agg27 (l' := [(Vl (.int .i64 3)), (Vl (.int .i64 a0_1)), (Vl (.int .i64 0)), (Vl (Vs g74)), (Vl (Vs w6)), (Vl (.slice none 0 0)), (Vl (.slice none 0 0))]) rfl) rfl rfl (wt_none' rfl) ?_
          refine sx_ox' (ox_store' (i := 2) (o := 0) rfl rfl (lv_ag _) ⟨rfl, rfl, rfl, rfl⟩ rfl info27 rfl (H' := [(Rw Kf 30 (Vs g74) r74), ⟨.pointer (some q2), [(Vl (.int .i64 a0_0)), (Vl (.int .i64 a0_1)), (Vl (.int .i64 a0_2)), (Sl Kf a0_3), (Sl (Ki .i64) a0_4), (Sl (Kl (Ki .i64)) a0_5), (Sl KT27 a0_6)], 27, none⟩, ⟨.pointer (some q4), [(Vl (.int .i64 3)), (Vl (.int .i64 a0_1)), (Vl (.int .i64 0)), (Vl (Vs g74)), (Vl (Vs w6)), (Vl (.slice none 0 0)), (Vl (.slice none 0 0))], 27, none⟩, ⟨.pointer (some q8), [(Vl (.int .i64 3)), (Vl (.int .i64 a0_1)), (Vl (.int .i64 0)), (Vl (Vs g74)), (Vl (Vs w6)), (Vl (.slice none 0 0)), (Vl (.slice none 0 0))], 27, none⟩, (Rw (Ki .i64) 3 (Vs w6) v6.1)]) rfl) (wt_none' rfl) fun _ => ?_
          refine sx_nil' ?_
          show TX E K35 _
          refine tx_k' hK35 ?_
          refine cx_retc' ?_
          replace hp := Option.some.inj hp
          subst hp
          refine tx_fz' (frz_row 0 [(74, (Vl (Vs g74)), (Sl Kf r74)), (76, (Ag [(Vl (.int .i64 3)), (Vl (.int .i64 a0_1)), (Vl (.int .i64 0)), (Vl (Vs g74)), (Vl (Vs w6)), (Vl (.slice none 0 0)), (Vl (.slice none 0 0))]), (Ag [(Vl (.int .i64 3)), (Vl (.int .i64 a0_1)), (Vl (.int .i64 0)), (Sl Kf r74), (Vl (Vs w6)), (Vl (.slice none 0 0)), (Vl (.slice none 0 0))]))] (K := Kf) (xs := r74) (by decide) rfl ⟨⟨rfl, frz_it⟩, ⟨rfl, fz_ag (fz0_cons fz0_same (fz0_cons fz0_same (fz0_cons fz0_same (fz0_cons fz0_it (fz0_cons fz0_same (fz0_cons fz0_same (fz0_cons fz0_same fz0_nil)))))))⟩, trivial⟩ (H' := [⟨.pointer (some q2), [(Vl (.int .i64 a0_0)), (Vl (.int .i64 a0_1)), (Vl (.int .i64 a0_2)), (Sl Kf a0_3), (Sl (Ki .i64) a0_4), (Sl (Kl (Ki .i64)) a0_5), (Sl KT27 a0_6)], 27, none⟩, ⟨.pointer (some q4), [(Vl (.int .i64 3)), (Vl (.int .i64 a0_1)), (Vl (.int .i64 0)), (Sl Kf r74), (Vl (Vs w6)), (Vl (.slice none 0 0)), (Vl (.slice none 0 0))], 27, none⟩, ⟨.pointer (some q8), [(Vl (.int .i64 3)), (Vl (.int .i64 a0_1)), (Vl (.int .i64 0)), (Sl Kf r74), (Vl (Vs w6)), (Vl (.slice none 0 0)), (Vl (.slice none 0 0))], 27, none⟩, (Rw (Ki .i64) 3 (Vs w6) v6.1)]) (frzH_cons rfl rfl rfl frzL_refl (frzH_cons rfl rfl rfl (frzL_cons frz_same (frzL_cons frz_same (frzL_cons frz_same (frzL_cons frz_it (frzL_cons frz_same (frzL_cons frz_same (frzL_cons frz_same frzL_refl))))))) (frzH_cons rfl rfl rfl (frzL_cons frz_same (frzL_cons frz_same (frzL_cons frz_same (frzL_cons frz_it (frzL_cons frz_same (frzL_cons frz_same (frzL_cons frz_same frzL_refl))))))) (frzH_cons rfl rfl rfl frzL_refl frzH_refl))))) ?_
          refine tx_fz' (frz_row 3 [(76, (Ag [(Vl (.int .i64 3)), (Vl (.int .i64 a0_1)), (Vl (.int .i64 0)), (Sl Kf r74), (Vl (Vs w6)), (Vl (.slice none 0 0)), (Vl (.slice none 0 0))]), (Ag [(Vl (.int .i64 3)), (Vl (.int .i64 a0_1)), (Vl (.int .i64 0)), (Sl Kf r74), (Sl (Ki .i64) v6.1), (Vl (.slice none 0 0)), (Vl (.slice none 0 0))]))] (K := (Ki .i64)) (xs := v6.1) (by decide) rfl ⟨⟨rfl, fz_ag (fz0_cons fz0_same (fz0_cons fz0_same (fz0_cons fz0_same (fz0_cons fz0_same (fz0_cons fz0_it (fz0_cons fz0_same (fz0_cons fz0_same fz0_nil)))))))⟩, trivial⟩ (H' := [⟨.pointer (some q2), [(Vl (.int .i64 a0_0)), (Vl (.int .i64 a0_1)), (Vl (.int .i64 a0_2)), (Sl Kf a0_3), (Sl (Ki .i64) a0_4), (Sl (Kl (Ki .i64)) a0_5), (Sl KT27 a0_6)], 27, none⟩, ⟨.pointer (some q4), [(Vl (.int .i64 3)), (Vl (.int .i64 a0_1)), (Vl (.int .i64 0)), (Sl Kf r74), (Sl (Ki .i64) v6.1), (Vl (.slice none 0 0)), (Vl (.slice none 0 0))], 27, none⟩, ⟨.pointer (some q8), [(Vl (.int .i64 3)), (Vl (.int .i64 a0_1)), (Vl (.int .i64 0)), (Sl Kf r74), (Sl (Ki .i64) v6.1), (Vl (.slice none 0 0)), (Vl (.slice none 0 0))], 27, none⟩]) (frzH_cons rfl rfl rfl frzL_refl (frzH_cons rfl rfl rfl (frzL_cons frz_same (frzL_cons frz_same (frzL_cons frz_same (frzL_cons frz_same (frzL_cons frz_it (frzL_cons frz_same (frzL_cons frz_same frzL_refl))))))) (frzH_cons rfl rfl rfl (frzL_cons frz_same (frzL_cons frz_same (frzL_cons frz_same (frzL_cons frz_same (frzL_cons frz_it (frzL_cons frz_same (frzL_cons frz_same frzL_refl))))))) frzH_refl)))) ?_
          refine tx_pick' (L' := [(4, (Vl (.pointer (some q4))))]) (H' := [⟨.pointer (some q4), [(Vl (.int .i64 3)), (Vl (.int .i64 a0_1)), (Vl (.int .i64 0)), (Sl Kf r74), (Sl (Ki .i64) v6.1), (Vl (.slice none 0 0)), (Vl (.slice none 0 0))], 27, none⟩]) [1] (sub_cons rfl sub_nil) (by decide) (pick_cons rfl pick_nil) ?_
          exact tx_ret1' Try.results62 rfl () (rv_imp' (x := (Ag [(Vl (.int .i64 3)), (Vl (.int .i64 a0_1)), (Vl (.int .i64 0)), (Sl Kf r74), (Sl (Ki .i64) v6.1), (Vl (.slice none 0 0)), (Vl (.slice none 0 0))])) (y := (Ag [(Vl (.int .i64 3)), (Vl (.int .i64 a0_1)), (Vl (.int .i64 0)), (Sl Kf r74), (Sl (Ki .i64) v6.1), (Sl (Kl (Ki .i64)) []), (Sl KT27 [])])) (rv_cell_agg' (i := 0) (o := 0) (nn := 7) rfl ⟨rfl, rfl, rfl, rfl⟩ rfl agg27 rfl) (imp_ag ⟨imp_refl, imp_refl, imp_refl, imp_refl, imp_refl, imp_nil, imp_nil, trivial⟩)) (List.nil_sublist _)
    · replace hp := (br_f h2).symm.trans hp
      refine cx_skip' ?_
      show TX E K5 _
      refine tx_k' hK5 ?_
      refine cx_seq' fun K36 hK36 => ?_
      refine cx_region' ?_
      refine sx_rd' (rd_assign' rfl) rfl rfl (wt_none' rfl) ?_
      refine sx_nil' ?_
      show TX E K36 _
      refine tx_k' hK36 ?_
      refine cx_join' (fun (v7 : Int) => (⟨106, [], [(1, (Vl (.int .i64 a1))), (2, (Vl (.pointer (some q2)))), (4, (Vl (.pointer (some q4)))), (12, (Vl (.int .i64 v7)))], [⟨.pointer (some q2), [(Vl (.int .i64 a0_0)), (Vl (.int .i64 a0_1)), (Vl (.int .i64 a0_2)), (Sl Kf a0_3), (Sl (Ki .i64) a0_4), (Sl (Kl (Ki .i64)) a0_5), (Sl KT27 a0_6)], 27, none⟩, ⟨.pointer (some q4), [(Vl (.int .i64 0)), (Vl (.int .i64 0)), (Vl (.int .i64 0)), (Vl (.slice none 0 0)), (Vl (.slice none 0 0)), (Vl (.slice none 0 0)), (Vl (.slice none 0 0))], 27, none⟩]⟩ : St)) (fun (v7 : Int) => spec_Part_j3 k a0_0 a0_4 a1 a0_3 a0_1 v7 = some out) ?_ ?_
      · rintro x11 hp
        replace hp : spec_Part_j3 k a0_0 a0_4 a1 a0_3 a0_1 x11 = some out := hp
        unfold spec_Part_j3 at hp
        refine cx_seq' fun K39 hK39 => ?_
        refine cx_region' ?_
        refine sx_rd' (rd_assign' rfl) rfl rfl (wt_none' rfl) ?_
        refine sx_nil' ?_
        show TX E K39 _
        refine tx_k' hK39 ?_
        refine cx_join' (fun (v8 : Int) => (⟨106, [], [(1, (Vl (.int .i64 a1))), (2, (Vl (.pointer (some q2)))), (4, (Vl (.pointer (some q4)))), (12, (Vl (.int .i64 x11))), (13, (Vl (.int .i64 v8)))], [⟨.pointer (some q2), [(Vl (.int .i64 a0_0)), (Vl (.int .i64 a0_1)), (Vl (.int .i64 a0_2)), (Sl Kf a0_3), (Sl (Ki .i64) a0_4), (Sl (Kl (Ki .i64)) a0_5), (Sl KT27 a0_6)], 27, none⟩, ⟨.pointer (some q4), [(Vl (.int .i64 0)), (Vl (.int .i64 0)), (Vl (.int .i64 0)), (Vl (.slice none 0 0)), (Vl (.slice none 0 0)), (Vl (.slice none 0 0)), (Vl (.slice none 0 0))], 27, none⟩]⟩ : St)) (fun (v8 : Int) => spec_Part_j4 k a0_4 a1 a0_3 x11 a0_1 v8 = some out) ?_ ?_
        · rintro x12 hp
          replace hp : spec_Part_j4 k a0_4 a1 a0_3 x11 a0_1 x12 = some out := hp
          unfold spec_Part_j4 at hp
          refine cx_seq' fun K42 hK42 => ?_
          refine cx_plan' [q2.block] [(13, 1), (15, 1)] [(0, 2), (1, 2), (2, 2), (4, 1), (5, 1), (6, 1), (7, 1), (8, 1), (9, 1), (10, 1), (11, 1), (12, 1), (3, 0), (13, 0), (14, 1), (15, 0)] mixed (by kernel_rfl) ?_
          refine px_rb' rfl (rb_move' rfl) rfl rfl (wt_none' rfl) ?_
          refine px_rb' rfl (rb_field' (off := 1) rfl Try.underlying27 rfl info3 rfl) rfl rfl (wt_none' rfl) ?_
          refine px_rb' rfl (rb_load' (i := 0) (o := 1) rfl ⟨rfl, rfl, rfl, rfl⟩ rfl flat3 (by simp)) rfl rfl (wt_none' rfl) ?_
          refine px_rd' rfl (rd_field' (off := 3) rfl Try.underlying27 rfl info22 rfl) rfl rfl (wt_none' rfl) ?_
          refine px_rd' rfl (rd_load' (i := 0) (o := 3) rfl ⟨rfl, rfl, rfl, rfl⟩ rfl flat22) rfl rfl (wt_none' rfl) ?_
          refine px_rd' rfl (rd_move' rfl) rfl rfl (wt_none' rfl) ?_
          refine px_rd' rfl (rd_field' (off := 4) rfl Try.underlying27 rfl info23 rfl) rfl rfl (wt_none' rfl) ?_
          refine px_rd' rfl (rd_load' (i := 0) (o := 4) rfl ⟨rfl, rfl, rfl, rfl⟩ rfl flat23) rfl rfl (wt_none' rfl) ?_
          refine px_rd' rfl (rd_move' rfl) rfl rfl (wt_none' rfl) ?_
          obtain ⟨r101, hr101, hp⟩ := bind_some hp
          refine px_rd' rfl (rd_at' (K := (Ki .i64)) rfl rfl hr101 Try.underlying23 info3) rfl rfl (wt_none' rfl) ?_
          refine px_rd' rfl (rd_load_pt' rfl rfl flat3) rfl rfl (wt_none' rfl) ?_
          obtain ⟨r103, hr103, hp⟩ := bind_some hp
          refine px_rd' rfl (rd_cut_lh' rfl rfl rfl hr103 Try.underlying22 info30) rfl rfl (wt_none' rfl) ?_
          refine px_ox' rfl (ox_rowlit' (K := Kf) (xs := []) (qs := []) trivial Try.underlying22 info30 rfl rfl rfl rfl rfl (by kernel_rfl) rfl rfl rfl) rfl (bs_cons (m := 0) rfl rfl rfl bs_nil) (wt_none' rfl) fun g94 => ?_
          obtain ⟨r104, hr104, hp⟩ := bind_some hp
          refine px_ox' rfl (ox_append' (K := Kf) (i := 0) (xs := []) (ys := r103) rfl rfl rfl (sr_sl' rfl Try.underlying22) hr104 Try.underlying22 info30 rfl rfl rfl (H' := [⟨.pointer (some q2), [(Vl (.int .i64 a0_0)), (Vl (.int .i64 a0_1)), (Vl (.int .i64 a0_2)), (Sl Kf a0_3), (Sl (Ki .i64) a0_4), (Sl (Kl (Ki .i64)) a0_5), (Sl KT27 a0_6)], 27, none⟩, ⟨.pointer (some q4), [(Vl (.int .i64 0)), (Vl (.int .i64 0)), (Vl (.int .i64 0)), (Vl (.slice none 0 0)), (Vl (.slice none 0 0)), (Vl (.slice none 0 0)), (Vl (.slice none 0 0))], 27, none⟩]) rfl) rfl (bs_cons (m := 1) rfl rfl rfl bs_nil) (wt_none' rfl) fun g104 => ?_
          refine px_rd' rfl (rd_build' (pls := [(0, 1), (1, 1), (2, 1), (3, 1), (4, 1), (5, 1), (6, 1)]) (qs := [(0, [(Vl (.int .i64 x12))]), (1, [(Vl (.int .i64 a0_1))]), (3, [(Vl (Vs g104))])]) (r := [(Vl (.int .i64 x12)), (Vl (.int .i64 a0_1)), (Vl (.int .i64 0)), (Vl (Vs g104)), (Vl (.slice none 0 0)), (Vl (.slice none 0 0)), (Vl (.slice none 0 0))]) ⟨rfl, ⟨_, rfl, (lv_vl rfl rfl)⟩, ⟨rfl, ⟨_, rfl, (lv_vl rfl rfl)⟩, ⟨rfl, ⟨_, rfl, (lv_vl rfl rfl)⟩, trivial⟩⟩⟩ Try.underlying27 has27 places27 info27 rfl rfl rfl) rfl rfl (wt_none' rfl) ?_
          refine px_oxv' rfl (oxv_store (i := 2) (o := 0) rfl rfl (lv_ag _) ⟨rfl, rfl, rfl, rfl⟩ rfl info27 rfl (H' := [(Rw Kf 30 (Vs g104) r104), ⟨.pointer (some q2), [(Vl (.int .i64 a0_0)), (Vl (.int .i64 a0_1)), (Vl (.int .i64 a0_2)), (Sl Kf a0_3), (Sl (Ki .i64) a0_4), (Sl (Kl (Ki .i64)) a0_5), (Sl KT27 a0_6)], 27, none⟩, ⟨.pointer (some q4), [(Vl (.int .i64 x12)), (Vl (.int .i64 a0_1)), (Vl (.int .i64 0)), (Vl (Vs g104)), (Vl (.slice none 0 0)), (Vl (.slice none 0 0)), (Vl (.slice none 0 0))], 27, none⟩]) rfl) rfl rfl (bo_cons (m := 1) (by decide) rfl rfl bo_nil) (wt_none' rfl) fun _ => ?_
          refine px_nil' ?_
          show TX E K42 _
          refine tx_k' hK42 ?_
          refine cx_retc' ?_
          replace hp := Option.some.inj hp
          subst hp
          refine tx_fz' (frz_row 0 [(104, (Vl (Vs g104)), (Sl Kf r104)), (105, (Ag [(Vl (.int .i64 x12)), (Vl (.int .i64 a0_1)), (Vl (.int .i64 0)), (Vl (Vs g104)), (Vl (.slice none 0 0)), (Vl (.slice none 0 0)), (Vl (.slice none 0 0))]), (Ag [(Vl (.int .i64 x12)), (Vl (.int .i64 a0_1)), (Vl (.int .i64 0)), (Sl Kf r104), (Vl (.slice none 0 0)), (Vl (.slice none 0 0)), (Vl (.slice none 0 0))]))] (K := Kf) (xs := r104) (by decide) rfl ⟨⟨rfl, frz_it⟩, ⟨rfl, fz_ag (fz0_cons fz0_same (fz0_cons fz0_same (fz0_cons fz0_same (fz0_cons fz0_it (fz0_cons fz0_same (fz0_cons fz0_same (fz0_cons fz0_same fz0_nil)))))))⟩, trivial⟩ (H' := [⟨.pointer (some q2), [(Vl (.int .i64 a0_0)), (Vl (.int .i64 a0_1)), (Vl (.int .i64 a0_2)), (Sl Kf a0_3), (Sl (Ki .i64) a0_4), (Sl (Kl (Ki .i64)) a0_5), (Sl KT27 a0_6)], 27, none⟩, ⟨.pointer (some q4), [(Vl (.int .i64 x12)), (Vl (.int .i64 a0_1)), (Vl (.int .i64 0)), (Sl Kf r104), (Vl (.slice none 0 0)), (Vl (.slice none 0 0)), (Vl (.slice none 0 0))], 27, none⟩]) (frzH_cons rfl rfl rfl frzL_refl (frzH_cons rfl rfl rfl (frzL_cons frz_same (frzL_cons frz_same (frzL_cons frz_same (frzL_cons frz_it (frzL_cons frz_same (frzL_cons frz_same (frzL_cons frz_same frzL_refl))))))) frzH_refl))) ?_
          refine tx_pick' (L' := [(4, (Vl (.pointer (some q4))))]) (H' := [⟨.pointer (some q4), [(Vl (.int .i64 x12)), (Vl (.int .i64 a0_1)), (Vl (.int .i64 0)), (Sl Kf r104), (Vl (.slice none 0 0)), (Vl (.slice none 0 0)), (Vl (.slice none 0 0))], 27, none⟩]) [1] (sub_cons rfl sub_nil) (by decide) (pick_cons rfl pick_nil) ?_
          exact tx_ret1' Try.results62 rfl () (rv_imp' (x := (Ag [(Vl (.int .i64 x12)), (Vl (.int .i64 a0_1)), (Vl (.int .i64 0)), (Sl Kf r104), (Vl (.slice none 0 0)), (Vl (.slice none 0 0)), (Vl (.slice none 0 0))])) (y := (Ag [(Vl (.int .i64 x12)), (Vl (.int .i64 a0_1)), (Vl (.int .i64 0)), (Sl Kf r104), (Sl (Ki .i64) []), (Sl (Kl (Ki .i64)) []), (Sl KT27 [])])) (rv_cell_agg' (i := 0) (o := 0) (nn := 7) rfl ⟨rfl, rfl, rfl, rfl⟩ rfl agg27 rfl) (imp_ag ⟨imp_refl, imp_refl, imp_refl, imp_refl, imp_nil, imp_nil, imp_nil, trivial⟩)) (List.nil_sublist _)
        · intro K40 hK40
          refine cx_seq' fun K41 hK41 => ?_
          refine cx_region' ?_
          refine sx_rd' (rd_field0' rfl Try.underlying27 rfl info3 rfl) rfl rfl (wt_none' rfl) ?_
          refine sx_rd' (rd_load' (i := 0) (o := 0) rfl ⟨rfl, rfl, rfl, rfl⟩ rfl flat3) rfl rfl (wt_none' rfl) ?_
          refine sx_rd' (rd_bin' rfl rfl eg_int ru_neq) rfl rfl (wt_none' rfl) ?_
          refine sx_nil' ?_
          show TX E K41 _
          refine tx_k' hK41 ?_
          refine cx_cond' rfl (fun h12 => ?_) (fun h12 => ?_)
          · replace hp := (br_t h12).symm.trans hp
            refine cx_region' ?_
            refine sx_rd' (rd_field0' rfl Try.underlying27 rfl info3 rfl) rfl rfl (wt_none' rfl) ?_
            refine sx_rd' (rd_load' (i := 0) (o := 0) rfl ⟨rfl, rfl, rfl, rfl⟩ rfl flat3) rfl rfl (wt_none' rfl) ?_
            obtain ⟨r90, hr90, hp⟩ := bind_some hp
            refine sx_ox' (ox_calln' (ent_fn' Try.func59 isn59 rfl rfl) (spec_KidOf_sim _ hr90 : Go.Sx.Fn Try.prog 59 [(Vl (.int .i64 a0_0))] [] (fun x : Unit => (Vl (.int .i64 r90))) (fun x => [])) (Hn := fun x : Unit => [⟨.pointer (some q2), [(Vl (.int .i64 a0_0)), (Vl (.int .i64 a0_1)), (Vl (.int .i64 a0_2)), (Sl Kf a0_3), (Sl (Ki .i64) a0_4), (Sl (Kl (Ki .i64)) a0_5), (Sl KT27 a0_6)], 27, none⟩, ⟨.pointer (some q4), [(Vl (.int .i64 0)), (Vl (.int .i64 0)), (Vl (.int .i64 0)), (Vl (.slice none 0 0)), (Vl (.slice none 0 0)), (Vl (.slice none 0 0)), (Vl (.slice none 0 0))], 27, none⟩]) (fun _ => rfl) rfl rfl) (wt_none' rfl) fun ⟨⟩ => ?_
            refine sx_rd' (rd_assign' rfl) rfl rfl (wt_none' rfl) ?_
            refine sx_nil' ?_
            show TX E K40 _
            exact tx_pick' [0, 1] (sub_cons rfl (sub_cons rfl (sub_cons rfl (sub_cons rfl (sub_cons rfl sub_nil))))) (by decide) (pick_cons rfl (pick_cons rfl pick_nil)) (hK40 r90 hp)
          · replace hp := (br_f h12).symm.trans hp
            refine cx_skip' ?_
            show TX E K40 _
            exact tx_pick' [0, 1] (sub_cons rfl (sub_cons rfl (sub_cons rfl (sub_cons rfl (sub_cons rfl sub_nil))))) (by decide) (pick_cons rfl (pick_cons rfl pick_nil)) (hK40 8 hp)
      · intro K37 hK37
        refine cx_seq' fun K38 hK38 => ?_
        refine cx_region' ?_
        refine sx_rd' (rd_move' rfl) rfl rfl (wt_none' rfl) ?_
        refine sx_rd' (rd_bin' rfl rfl eg_int ru_gtr) rfl rfl (wt_none' rfl) ?_
        refine sx_nil' ?_
        show TX E K38 _
        refine tx_k' hK38 ?_
        refine cx_cond' rfl (fun h11 => ?_) (fun h11 => ?_)
        · replace hp := (br_t h11).symm.trans hp
          refine cx_region' ?_
          refine sx_rd' (rd_field' (off := 4) rfl Try.underlying27 rfl info23 rfl) rfl rfl (wt_none' rfl) ?_
          refine sx_rd' (rd_load' (i := 1) (o := 4) rfl ⟨rfl, rfl, rfl, rfl⟩ rfl flat23) rfl rfl (wt_none' rfl) ?_
          refine sx_rd' (rd_move' rfl) rfl rfl (wt_none' rfl) ?_
          refine sx_rd' (rd_bin' rfl rfl eg_int ru_sub) rfl rfl (wt_none' rfl) ?_
          obtain ⟨r83, hr83, hp⟩ := bind_some hp
          refine sx_rd' (rd_at' (K := (Ki .i64)) rfl rfl hr83 Try.underlying23 info3) rfl rfl (wt_none' rfl) ?_
          refine sx_rd' (rd_load_pt' rfl rfl flat3) rfl rfl (wt_none' rfl) ?_
          refine sx_rd' (rd_assign' rfl) rfl rfl (wt_none' rfl) ?_
          refine sx_nil' ?_
          show TX E K37 _
          exact tx_pick' [1, 0] (sub_cons rfl (sub_cons rfl (sub_cons rfl (sub_cons rfl sub_nil)))) (by decide) (pick_cons rfl (pick_cons rfl pick_nil)) (hK37 r83 hp)
        · replace hp := (br_f h11).symm.trans hp
          refine cx_skip' ?_
          show TX E K37 _
          exact tx_pick' [1, 0] (sub_cons rfl (sub_cons rfl (sub_cons rfl (sub_cons rfl sub_nil)))) (by decide) (pick_cons rfl (pick_cons rfl pick_nil)) (hK37 0 hp)

def spec_Parts_l1s (r6 : Int) (a0_0 : Int) (a0_1 : Int) (a0_2 : Int) (a0_3 : List Nat) (a0_4 : List Int) (a0_5 : List (List Int)) (a0_6 : List T27) (k : Nat) (rec1 : ((List T27) × Int) → Option ((List T27))) (x1 : List T27) (x2 : Int) : Option ((List T27)) :=
  br (decide (x2 < r6))
    ((spec_Part k a0_0 a0_1 a0_2 a0_3 a0_4 a0_5 a0_6 x2) >>= fun r13 =>
    (apd 120 x1 ([(T27.mk r13.1 r13.2.1 r13.2.2.1 r13.2.2.2.1 r13.2.2.2.2.1 r13.2.2.2.2.2.1 r13.2.2.2.2.2.2)])) >>= fun r15 =>
    rec1 (r15, (iadd .i64 x2 1)))
    (some x1)
def spec_Parts_l1 (r6 : Int) (a0_0 : Int) (a0_1 : Int) (a0_2 : Int) (a0_3 : List Nat) (a0_4 : List Int) (a0_5 : List (List Int)) (a0_6 : List T27) : Nat → ((List T27) × Int) → Option ((List T27))
  | 0, _ => none
  | k + 1, v => spec_Parts_l1s r6 a0_0 a0_1 a0_2 a0_3 a0_4 a0_5 a0_6 k (spec_Parts_l1 r6 a0_0 a0_1 a0_2 a0_3 a0_4 a0_5 a0_6 k) v.1 v.2
def spec_Parts (k : Nat) (a0_0 : Int) (a0_1 : Int) (a0_2 : Int) (a0_3 : List Nat) (a0_4 : List Int) (a0_5 : List (List Int)) (a0_6 : List T27) : Option ((List T27)) :=
  (spec_NumParts k a0_0 a0_1 a0_2 a0_3 a0_4 a0_5 a0_6) >>= fun r6 =>
  (spec_Parts_l1 r6 a0_0 a0_1 a0_2 a0_3 a0_4 a0_5 a0_6 k ([], 0)) >>= fun v2 =>
  some v2

theorem spec_Parts_sim {k : Nat}  (a0_0 : Int) (a0_1 : Int) (a0_2 : Int) (a0_3 : List Nat) (a0_4 : List Int) (a0_5 : List (List Int)) (a0_6 : List T27) {out : (List T27)} (hp : spec_Parts k a0_0 a0_1 a0_2 a0_3 a0_4 a0_5 a0_6 = some out) : Go.Sx.Fn Try.prog 27 [(Ag [(Vl (.int .i64 a0_0)), (Vl (.int .i64 a0_1)), (Vl (.int .i64 a0_2)), (Sl Kf a0_3), (Sl (Ki .i64) a0_4), (Sl (Kl (Ki .i64)) a0_5), (Sl KT27 a0_6)])] [] (fun w : Unit => (Sl KT27 out)) (fun w => []) := by
  unfold spec_Parts at hp
  refine fn_of Try.func27 rfl Try.ntmps27 rfl fun E hM => ?_
  refine cx_seq' fun K1 hK1 => ?_
  refine cx_region' ?_
  refine sx_ox' (ox_box' rfl (lv_ag _) rfl rfl) (wt_none' rfl) fun q1 => ?_
  refine sx_rd' (rd_assign' rfl) rfl rfl (wt_none' rfl) ?_
  refine sx_nil' ?_
  show TX E K1 _
  refine tx_k' hK1 ?_
  refine cx_seq' fun K2 hK2 => ?_
  refine cx_region' ?_
  refine sx_rd' (rd_assign' rfl) rfl rfl (wt_none' rfl) ?_
  refine sx_nil' ?_
  show TX E K2 _
  refine tx_k' hK2 ?_
  refine cx_seq' fun K3 hK3 => ?_
  refine cx_seq' fun K4 hK4 => ?_
  refine cx_region' ?_
  refine sx_rd' (rd_load_agg' (i := 0) (o := 0) (nn := 7) rfl ⟨rfl, rfl, rfl, rfl⟩ rfl agg27 (l' := [(Vl (.int .i64 a0_0)), (Vl (.int .i64 a0_1)), (Vl (.int .i64 a0_2)), (Sl Kf a0_3), (Sl (Ki .i64) a0_4), (Sl (Kl (Ki .i64)) a0_5), (Sl KT27 a0_6)]) rfl) rfl rfl (wt_none' rfl) ?_
  obtain ⟨r6, hr6, hp⟩ := bind_some hp
  refine sx_ox' (ox_calln' (ent_fn' Try.func61 isn61 rfl rfl) (spec_NumParts_sim _ _ _ _ _ _ _ hr6 : Go.Sx.Fn Try.prog 61 [(Ag [(Vl (.int .i64 a0_0)), (Vl (.int .i64 a0_1)), (Vl (.int .i64 a0_2)), (Sl Kf a0_3), (Sl (Ki .i64) a0_4), (Sl (Kl (Ki .i64)) a0_5), (Sl KT27 a0_6)])] [] (fun x : Unit => (Vl (.int .i64 r6))) (fun x => [])) (Hn := fun x : Unit => [⟨.pointer (some q1), [(Vl (.int .i64 a0_0)), (Vl (.int .i64 a0_1)), (Vl (.int .i64 a0_2)), (Sl Kf a0_3), (Sl (Ki .i64) a0_4), (Sl (Kl (Ki .i64)) a0_5), (Sl KT27 a0_6)], 27, none⟩]) (fun _ => rfl) rfl rfl) (wt_none' rfl) fun ⟨⟩ => ?_
  refine sx_rd' (rd_move' rfl) rfl rfl (wt_none' rfl) ?_
  refine sx_nil' ?_
  show TX E K4 _
  refine tx_k' hK4 ?_
  refine cx_block' ?_
  obtain ⟨v2, hy1, hp⟩ := bind_some hp
  refine tx_nilrow' KT27 27 ?_
  refine cx_loopg' (F := spec_Parts_l1 r6 a0_0 a0_1 a0_2 a0_3 a0_4 a0_5 a0_6) (G := fun k R v => spec_Parts_l1s r6 a0_0 a0_1 a0_2 a0_3 a0_4 a0_5 a0_6 k R v.1 v.2) (x := ([], 0)) (gh := (none, 0, 0)) (fun (v1 : (List T27) × Int) (w1 : Gs) => (⟨18, [], [(1, (Vl (.pointer (some q1)))), (3, (Vl (Vs w1))), (6, (Vl (.int .i64 r6))), (7, (Vl (.int .i64 v1.2)))], [⟨.pointer (some q1), [(Vl (.int .i64 a0_0)), (Vl (.int .i64 a0_1)), (Vl (.int .i64 a0_2)), (Sl Kf a0_3), (Sl (Ki .i64) a0_4), (Sl (Kl (Ki .i64)) a0_5), (Sl KT27 a0_6)], 27, none⟩, (Rw KT27 27 (Vs w1) v1.1)]⟩ : St)) (fun (v2 : (List T27)) => Zg E (Exit.exit 0) (fun (w2 : Gs) => (⟨18, [], [(3, (Vl (Vs w2)))], [(Rw KT27 27 (Vs w2) v2)]⟩ : St))) (fun _ => rfl) (fun _ _ => rfl) ?_ hy1 (tx_to' rfl [1, 0] (sub_cons rfl (sub_cons rfl (sub_cons rfl (sub_cons rfl sub_nil)))) (by decide) (pick_cons rfl (pick_cons rfl pick_nil))) ?_
  · clear hp hy1
    clear v2
    intro k rec1 KY1 ih1
    rintro ⟨x1, x2⟩ g901 y1 hp
    replace hp : spec_Parts_l1s r6 a0_0 a0_1 a0_2 a0_3 a0_4 a0_5 a0_6 k rec1 x1 x2 = some y1 := hp
    unfold spec_Parts_l1s at hp
    refine cx_seq' fun K9 hK9 => ?_
    refine cx_region' ?_
    refine sx_rd' (rd_bin' rfl rfl eg_int ru_lss) rfl rfl (wt_none' rfl) ?_
    refine sx_nil' ?_
    show TX E K9 _
    refine tx_k' hK9 ?_
    refine cx_seq' fun K10 hK10 => ?_
    refine cx_cond' rfl (fun h3 => ?_) (fun h3 => ?_)
    · replace hp := (br_t h3).symm.trans hp
      refine cx_skip' ?_
      show TX E K10 _
      refine tx_k' hK10 ?_
      refine cx_seq' fun K11 hK11 => ?_
      refine cx_block' ?_
      refine cx_seq' fun K12 hK12 => ?_
      refine cx_region' ?_
      refine sx_rd' (rd_move' rfl) rfl rfl (wt_none' rfl) ?_
      refine sx_rd' (rd_assign' rfl) rfl rfl (wt_none' rfl) ?_
      refine sx_nil' ?_
      show TX E K12 _
      refine tx_k' hK12 ?_
      refine cx_region' ?_
      refine sx_rd' (rd_move' rfl) rfl rfl (wt_none' rfl) ?_
      refine sx_rd' (rd_load_agg' (i := 0) (o := 0) (nn := 7) rfl ⟨rfl, rfl, rfl, rfl⟩ rfl agg27 (l' := [(Vl (.int .i64 a0_0)), (Vl (.int .i64 a0_1)), (Vl (.int .i64 a0_2)), (Sl Kf a0_3), (Sl (Ki .i64) a0_4), (Sl (Kl (Ki .i64)) a0_5), (Sl KT27 a0_6)]) rfl) rfl rfl (wt_none' rfl) ?_
      refine sx_rd' (rd_move' rfl) rfl rfl (wt_none' rfl) ?_
      obtain ⟨r13, hr13, hp⟩ := bind_some hp
      refine sx_ox' (ox_calln' (ent_fn' Try.func62 isn62 rfl rfl) (spec_Part_sim _ _ _ _ _ _ _ _ hr13 : Go.Sx.Fn Try.prog 62 [(Ag [(Vl (.int .i64 a0_0)), (Vl (.int .i64 a0_1)), (Vl (.int .i64 a0_2)), (Sl Kf a0_3), (Sl (Ki .i64) a0_4), (Sl (Kl (Ki .i64)) a0_5), (Sl KT27 a0_6)]), (Vl (.int .i64 x2))] [] (fun x : Unit => (Ag [(Vl (.int .i64 r13.1)), (Vl (.int .i64 r13.2.1)), (Vl (.int .i64 r13.2.2.1)), (Sl Kf r13.2.2.2.1), (Sl (Ki .i64) r13.2.2.2.2.1), (Sl (Kl (Ki .i64)) r13.2.2.2.2.2.1), (Sl KT27 r13.2.2.2.2.2.2)])) (fun x => [])) (Hn := fun x : Unit => [⟨.pointer (some q1), [(Vl (.int .i64 a0_0)), (Vl (.int .i64 a0_1)), (Vl (.int .i64 a0_2)), (Sl Kf a0_3), (Sl (Ki .i64) a0_4), (Sl (Kl (Ki .i64)) a0_5), (Sl KT27 a0_6)], 27, none⟩, (Rw KT27 27 (Vs g901) x1)]) (fun _ => rfl) rfl rfl) (wt_none' rfl) fun ⟨⟩ => ?_
      refine sx_ox' (ox_rowlit' (K := KT27) (xs := [(T27.mk r13.1 r13.2.1 r13.2.2.1 r13.2.2.2.1 r13.2.2.2.2.1 r13.2.2.2.2.2.1 r13.2.2.2.2.2.2)]) (qs := [(0, [(Vl (.int .i64 r13.1)), (Vl (.int .i64 r13.2.1)), (Vl (.int .i64 r13.2.2.1)), (Sl Kf r13.2.2.2.1), (Sl (Ki .i64) r13.2.2.2.2.1), (Sl (Kl (Ki .i64)) r13.2.2.2.2.2.1), (Sl KT27 r13.2.2.2.2.2.2)])]) ⟨rfl, ⟨_, rfl, (lv_ag _)⟩, trivial⟩ Try.underlying25 info27 rfl rfl rfl rfl rfl (by simp only [List.flatMap_cons, List.flatMap_nil, KT27_enc, List.append_nil]; kernel_rfl) rfl rfl rfl) (wt_none' rfl) fun g14 => ?_
      obtain ⟨r15, hr15, hp⟩ := bind_some hp
      refine sx_ox' (ox_append' (K := KT27) (i := 2) (xs := x1) (ys := ([(T27.mk r13.1 r13.2.1 r13.2.2.1 r13.2.2.2.1 r13.2.2.2.2.1 r13.2.2.2.2.2.1 r13.2.2.2.2.2.2)])) rfl rfl rfl (sr_row' (j := 0) rfl rfl rfl Try.underlying25) hr15 Try.underlying25 info27 rfl rfl rfl (H' := [(Rw KT27 27 (Vs g14) ([(T27.mk r13.1 r13.2.1 r13.2.2.1 r13.2.2.2.1 r13.2.2.2.2.1 r13.2.2.2.2.2.1 r13.2.2.2.2.2.2)])), ⟨.pointer (some q1), [(Vl (.int .i64 a0_0)), (Vl (.int .i64 a0_1)), (Vl (.int .i64 a0_2)), (Sl Kf a0_3), (Sl (Ki .i64) a0_4), (Sl (Kl (Ki .i64)) a0_5), (Sl KT27 a0_6)], 27, none⟩]) rfl) (wt_none' rfl) fun g15 => ?_
      refine sx_rd' (rd_assign' rfl) rfl rfl (wt_none' rfl) ?_
      refine sx_nil' ?_
      show TX E K11 _
      refine tx_k' hK11 ?_
      refine cx_region' ?_
      refine sx_rd' (rd_bin' rfl rfl eg_int ru_add) rfl rfl (wt_none' rfl) ?_
      refine sx_rd' (rd_move' rfl) rfl rfl (wt_none' rfl) ?_
      refine sx_nil' ?_
      show TX E (KY1 _) _
      exact tx_pick' [2, 0] (sub_cons rfl (sub_cons rfl (sub_cons rfl (sub_cons rfl sub_nil)))) (by decide) (pick_cons rfl (pick_cons rfl pick_nil)) (ih1 (r15, (iadd .i64 x2 1)) g15 _ hp)
    · replace hp := (br_f h3).symm.trans hp
      refine cx_exit' ?_
      replace hp := Option.some.inj hp
      subst hp
      show TX E (Zg E (Exit.exit 0) _ (Exit.exit 0)) _
      exact tx_zend' g901 rfl [1] (sub_cons rfl sub_nil) (by decide) (pick_cons rfl pick_nil)
  · refine zg_out fun w2 => ?_
    show TX E K3 _
    refine tx_k' hK3 ?_
    refine cx_seq' fun K13 hK13 => ?_
    refine cx_region' ?_
    refine sx_rd' (rd_move' rfl) rfl rfl (wt_none' rfl) ?_
    refine sx_rd' (rd_assign' rfl) rfl rfl (wt_none' rfl) ?_
    refine sx_nil' ?_
    show TX E K13 _
    refine tx_k' hK13 ?_
    refine cx_retc' ?_
    replace hp := Option.some.inj hp
    subst hp
    refine tx_fz' (frz_row 0 [(3, (Vl (Vs w2)), (Sl KT27 v2)), (17, (Vl (Vs w2)), (Sl KT27 v2)), (2, (Vl (Vs w2)), (Sl KT27 v2))] (K := KT27) (xs := v2) (by decide) rfl ⟨⟨rfl, frz_it⟩, ⟨rfl, frz_it⟩, ⟨rfl, frz_it⟩, trivial⟩ (H' := []) frzH_refl) ?_
    refine tx_pick' (L' := [(2, (Sl KT27 v2))]) (H' := []) [] (sub_cons rfl sub_nil) (by decide) pick_nil ?_
    exact tx_ret1' Try.results27 rfl () (rv_tmp' rfl) (List.Sublist.refl _)

def math_Abs (k : Nat) (a0 : Nat) : Option (Nat) :=
  some (ffrom (iandn .u64 (fbits a0) 9223372036854775808))

theorem math_Abs_sim {k : Nat}  (a0 : Nat) {out : Nat} (hp : math_Abs k a0 = some out) : Go.Sx.Fn Try.prog 34 [(Vl (.float .f64 a0))] [] (fun w : Unit => (Vl (.float .f64 out))) (fun w => []) := by
  unfold math_Abs at hp
  refine fn_of Try.func34 rfl Try.ntmps34 rfl fun E hM => ?_
  refine cx_seq' fun K1 hK1 => ?_
  refine cx_region' ?_
  refine sx_rd' (rd_assign' rfl) rfl rfl (wt_none' rfl) ?_
  refine sx_nil' ?_
  show TX E K1 _
  refine tx_k' hK1 ?_
  refine cx_seq' fun K2 hK2 => ?_
  refine cx_region' ?_
  refine sx_rd' (rd_move' rfl) rfl rfl (wt_none' rfl) ?_
  refine sx_rd' (rd_ext' (us := [.float .f64 a0]) rfl (ext72 ex_bits)) rfl rfl (wt_none' rfl) ?_
  refine sx_rd' (rd_bin' rfl rfl eg_int ru_andn) rfl rfl (wt_none' rfl) ?_
  refine sx_rd' (rd_ext' (us := [.int .u64 (iandn .u64 (fbits a0) 9223372036854775808)]) rfl (ext71 ex_from)) rfl rfl (wt_none' rfl) ?_
  refine sx_rd' (rd_assign' rfl) rfl rfl (wt_none' rfl) ?_
  refine sx_nil' ?_
  show TX E K2 _
  refine tx_k' hK2 ?_
  refine cx_retc' ?_
  replace hp := Option.some.inj hp
  subst hp
  refine tx_pick' (L' := [(2, (Vl (.float .f64 (ffrom (iandn .u64 (fbits a0) 9223372036854775808)))))]) (H' := []) [] (sub_cons rfl sub_nil) (by decide) pick_nil ?_
  exact tx_ret1' Try.results34 rfl () (rv_tmp' rfl) (List.Sublist.refl _)

def laws_FnLengthParts_j6 (k : Nat) (rec1 : (Bool × Nat × Int) → Option (Bool × Nat)) (r57 : Nat) (x9 : Int) (x6 : Bool) : Option (Bool × Nat) :=
  rec1 (x6, r57, (iadd .i64 x9 1))
def laws_FnLengthParts_l1s (r44 : (List T27)) (k : Nat) (rec1 : (Bool × Nat × Int) → Option (Bool × Nat)) (x7 : Bool) (x8 : Nat) (x9 : Int) : Option (Bool × Nat) :=
  br (decide (x9 < (r44.length : Int)))
    ((idx r44 x9) >>= fun r48 =>
    (impl_Length k r48.f0 r48.f1 r48.f2 r48.f3 r48.f4 r48.f5 r48.f6) >>= fun r52 =>
    (some (gadd x8 r52.1)) >>= fun r57 =>
    br x7
      (laws_FnLengthParts_j6 k rec1 r57 x9 r52.2)
      (laws_FnLengthParts_j6 k rec1 r57 x9 false))
    (some (x7, x8))
def laws_FnLengthParts_l1 (r44 : (List T27)) : Nat → (Bool × Nat × Int) → Option (Bool × Nat)
  | 0, _ => none
  | k + 1, v => laws_FnLengthParts_l1s r44 k (laws_FnLengthParts_l1 r44 k) v.1 v.2.1 v.2.2
def laws_FnLengthParts_j7 (k : Nat) (x12 : Bool) : Option (Bool) :=
  some x12
def laws_FnLengthParts_j4 (k : Nat) (a0_0 : Int) (a0_1 : Int) (a0_2 : Int) (a0_3 : List Nat) (a0_4 : List Int) (a0_5 : List (List Int)) (a0_6 : List T27) (x4 : Bool) : Option (Bool) :=
  br x4
    (some true)
    ((impl_Length k a0_0 a0_1 a0_2 a0_3 a0_4 a0_5 a0_6) >>= fun r40 =>
    (spec_Parts k a0_0 a0_1 a0_2 a0_3 a0_4 a0_5 a0_6) >>= fun r44 =>
    (laws_FnLengthParts_l1 r44 k (r40.2, 0, 0)) >>= fun v8 =>
    br v8.1
      ((some (gsub r40.1 v8.2)) >>= fun r67 =>
      (num r67) >>= fun u1 =>
      (math_Abs k r67) >>= fun r68 =>
      laws_FnLengthParts_j7 k (flt r68 4517110426252607488))
      (laws_FnLengthParts_j7 k false))
def laws_FnLengthParts_j3 (k : Nat) (a0_0 : Int) (a0_1 : Int) (a0_2 : Int) (a0_3 : List Nat) (a0_4 : List Int) (a0_5 : List (List Int)) (a0_6 : List T27) (x3 : Bool) : Option (Bool) :=
  br x3
    (laws_FnLengthParts_j4 k a0_0 a0_1 a0_2 a0_3 a0_4 a0_5 a0_6 (!decide (a0_0 = 6)))
    (laws_FnLengthParts_j4 k a0_0 a0_1 a0_2 a0_3 a0_4 a0_5 a0_6 false)
def laws_FnLengthParts_j2 (k : Nat) (a0_0 : Int) (a0_1 : Int) (a0_2 : Int) (a0_3 : List Nat) (a0_4 : List Int) (a0_5 : List (List Int)) (a0_6 : List T27) (x2 : Bool) : Option (Bool) :=
  br x2
    (some true)
    (br (!decide (a0_0 = 3))
      (laws_FnLengthParts_j3 k a0_0 a0_1 a0_2 a0_3 a0_4 a0_5 a0_6 (!decide (a0_0 = 5)))
      (laws_FnLengthParts_j3 k a0_0 a0_1 a0_2 a0_3 a0_4 a0_5 a0_6 false))
def laws_FnLengthParts_j1 (k : Nat) (a0_0 : Int) (a0_1 : Int) (a0_2 : Int) (a0_3 : List Nat) (a0_4 : List Int) (a0_5 : List (List Int)) (a0_6 : List T27) (x1 : Bool) : Option (Bool) :=
  br x1
    (laws_FnLengthParts_j2 k a0_0 a0_1 a0_2 a0_3 a0_4 a0_5 a0_6 true)
    ((laws_gEach k a0_0 a0_1 a0_2 a0_3 a0_4 a0_5 a0_6) >>= fun r22 =>
    laws_FnLengthParts_j2 k a0_0 a0_1 a0_2 a0_3 a0_4 a0_5 a0_6 (!r22))
def laws_FnLengthParts (k : Nat) (a0_0 : Int) (a0_1 : Int) (a0_2 : Int) (a0_3 : List Nat) (a0_4 : List Int) (a0_5 : List (List Int)) (a0_6 : List T27) : Option (Bool) :=
  (laws_zzFits2 k a0_0 a0_1 a0_2 a0_3 a0_4 a0_5 a0_6) >>= fun r11 =>
  br (!r11)
    (some true)
    ((laws_gPlain k a0_0 a0_1 a0_2 a0_3 a0_4 a0_5 a0_6) >>= fun r14 =>
    br (!r14)
      (laws_FnLengthParts_j1 k a0_0 a0_1 a0_2 a0_3 a0_4 a0_5 a0_6 true)
      ((laws_gHollow k a0_0 a0_1 a0_2 a0_3 a0_4 a0_5 a0_6) >>= fun r18 =>
      laws_FnLengthParts_j1 k a0_0 a0_1 a0_2 a0_3 a0_4 a0_5 a0_6 r18))

theorem laws_FnLengthParts_sim {k : Nat}  (a0_0 : Int) (a0_1 : Int) (a0_2 : Int) (a0_3 : List Nat) (a0_4 : List Int) (a0_5 : List (List Int)) (a0_6 : List T27) {out : Bool} (hp : laws_FnLengthParts k a0_0 a0_1 a0_2 a0_3 a0_4 a0_5 a0_6 = some out) : Go.Sx.Fn Try.prog 9 [(Ag [(Vl (.int .i64 a0_0)), (Vl (.int .i64 a0_1)), (Vl (.int .i64 a0_2)), (Sl Kf a0_3), (Sl (Ki .i64) a0_4), (Sl (Kl (Ki .i64)) a0_5), (Sl KT27 a0_6)])] [] (fun w : Unit => (Vl (.bool out))) (fun w => []) := by
  unfold laws_FnLengthParts at hp
  refine fn_of Try.func9 rfl Try.ntmps9 rfl fun E hM => ?_
  refine cx_seq' fun K1 hK1 => ?_
  refine cx_region' ?_
  refine sx_ox' (ox_box' rfl (lv_ag _) rfl rfl) (wt_none' rfl) fun q1 => ?_
  refine sx_rd' (rd_assign' rfl) rfl rfl (wt_none' rfl) ?_
  refine sx_nil' ?_
  show TX E K1 _
  refine tx_k' hK1 ?_
  refine cx_seq' fun K2 hK2 => ?_
  refine cx_seq' fun K3 hK3 => ?_
  refine cx_region' ?_
  refine sx_rd' (rd_load_agg' (i := 0) (o := 0) (nn := 7) rfl ⟨rfl, rfl, rfl, rfl⟩ rfl agg27 (l' := [(Vl (.int .i64 a0_0)), (Vl (.int .i64 a0_1)), (Vl (.int .i64 a0_2)), (Sl Kf a0_3), (Sl (Ki .i64) a0_4), (Sl (Kl (Ki .i64)) a0_5), (Sl KT27 a0_6)]) rfl) rfl rfl (wt_none' rfl) ?_
  obtain ⟨r11, hr11, hp⟩ := bind_some hp
  refine sx_ox' (ox_calln' (ent_fn' Try.func14 isn14 rfl rfl) (laws_zzFits2_sim _ _ _ _ _ _ _ hr11 : Go.Sx.Fn Try.prog 14 [(Ag [(Vl (.int .i64 a0_0)), (Vl (.int .i64 a0_1)), (Vl (.int .i64 a0_2)), (Sl Kf a0_3), (Sl (Ki .i64) a0_4), (Sl (Kl (Ki .i64)) a0_5), (Sl KT27 a0_6)])] [] (fun x : Unit => (Vl (.bool r11))) (fun x => [])) (Hn := fun x : Unit => [⟨.pointer (some q1), [(Vl (.int .i64 a0_0)), (Vl (.int .i64 a0_1)), (Vl (.int .i64 a0_2)), (Sl Kf a0_3), (Sl (Ki .i64) a0_4), (Sl (Kl (Ki .i64)) a0_5), (Sl KT27 a0_6)], 27, none⟩]) (fun _ => rfl) rfl rfl) (wt_none' rfl) fun ⟨⟩ => ?_
  refine sx_rd' (rd_un' rfl ru_not) rfl rfl (wt_none' rfl) ?_
  refine sx_nil' ?_
  show TX E K3 _
  refine tx_k' hK3 ?_
  refine cx_cond' rfl (fun h1 => ?_) (fun h1 => ?_)
  · replace hp := (br_t h1).symm.trans hp
    refine cx_seq' fun K4 hK4 => ?_
    refine cx_region' ?_
    refine sx_rd' (rd_assign' rfl) rfl rfl (wt_none' rfl) ?_
    refine sx_nil' ?_
    show TX E K4 _
    refine tx_k' hK4 ?_
    refine cx_retc' ?_
    replace hp := Option.some.inj hp
    subst hp
    refine tx_pick' (L' := [(2, (Vl (.bool true)))]) (H' := []) [] (sub_cons rfl sub_nil) (by decide) pick_nil ?_
    exact tx_ret1' Try.results9 rfl () (rv_tmp' rfl) (List.Sublist.refl _)
  · replace hp := (br_f h1).symm.trans hp
    refine cx_skip' ?_
    show TX E K2 _
    refine tx_k' hK2 ?_
    refine cx_seq' fun K5 hK5 => ?_
    refine cx_seq' fun K6 hK6 => ?_
    refine cx_region' ?_
    refine sx_rd' (rd_load_agg' (i := 0) (o := 0) (nn := 7) rfl ⟨rfl, rfl, rfl, rfl⟩ rfl agg27 (l' := [(Vl (.int .i64 a0_0)), (Vl (.int .i64 a0_1)), (Vl (.int .i64 a0_2)), (Sl Kf a0_3), (Sl (Ki .i64) a0_4), (Sl (Kl (Ki .i64)) a0_5), (Sl KT27 a0_6)]) rfl) rfl rfl (wt_none' rfl) ?_
    obtain ⟨r14, hr14, hp⟩ := bind_some hp
    refine sx_ox' (ox_calln' (ent_fn' Try.func18 isn18 rfl rfl) (laws_gPlain_sim _ _ _ _ _ _ _ hr14 : Go.Sx.Fn Try.prog 18 [(Ag [(Vl (.int .i64 a0_0)), (Vl (.int .i64 a0_1)), (Vl (.int .i64 a0_2)), (Sl Kf a0_3), (Sl (Ki .i64) a0_4), (Sl (Kl (Ki .i64)) a0_5), (Sl KT27 a0_6)])] [] (fun x : Unit => (Vl (.bool r14))) (fun x => [])) (Hn := fun x : Unit => [⟨.pointer (some q1), [(Vl (.int .i64 a0_0)), (Vl (.int .i64 a0_1)), (Vl (.int .i64 a0_2)), (Sl Kf a0_3), (Sl (Ki .i64) a0_4), (Sl (Kl (Ki .i64)) a0_5), (Sl KT27 a0_6)], 27, none⟩]) (fun _ => rfl) rfl rfl) (wt_none' rfl) fun ⟨⟩ => ?_
    refine sx_rd' (rd_un' rfl ru_not) rfl rfl (wt_none' rfl) ?_
    refine sx_rd' (rd_move' rfl) rfl rfl (wt_none' rfl) ?_
    refine sx_cutn' 3 (fun (v1 : Bool) => (⟨71, [], [(1, (Vl (.pointer (some q1)))), (19, (Vl (.bool v1)))], [⟨.pointer (some q1), [(Vl (.int .i64 a0_0)), (Vl (.int .i64 a0_1)), (Vl (.int .i64 a0_2)), (Sl Kf a0_3), (Sl (Ki .i64) a0_4), (Sl (Kl (Ki .i64)) a0_5), (Sl KT27 a0_6)], 27, none⟩]⟩ : St)) (fun (v1 : Bool) => laws_FnLengthParts_j1 k a0_0 a0_1 a0_2 a0_3 a0_4 a0_5 a0_6 v1 = some out) ?_ ?_
    · rintro x1 hp
      replace hp : laws_FnLengthParts_j1 k a0_0 a0_1 a0_2 a0_3 a0_4 a0_5 a0_6 x1 = some out := hp
      unfold laws_FnLengthParts_j1 at hp
      refine sx_rd' (rd_move' rfl) rfl rfl (wt_none' rfl) ?_
      refine sx_cutn' 4 (fun (v2 : Bool) => (⟨71, [], [(1, (Vl (.pointer (some q1)))), (24, (Vl (.bool v2)))], [⟨.pointer (some q1), [(Vl (.int .i64 a0_0)), (Vl (.int .i64 a0_1)), (Vl (.int .i64 a0_2)), (Sl Kf a0_3), (Sl (Ki .i64) a0_4), (Sl (Kl (Ki .i64)) a0_5), (Sl KT27 a0_6)], 27, none⟩]⟩ : St)) (fun (v2 : Bool) => laws_FnLengthParts_j2 k a0_0 a0_1 a0_2 a0_3 a0_4 a0_5 a0_6 v2 = some out) ?_ ?_
      · rintro x2 hp
        replace hp : laws_FnLengthParts_j2 k a0_0 a0_1 a0_2 a0_3 a0_4 a0_5 a0_6 x2 = some out := hp
        unfold laws_FnLengthParts_j2 at hp
        refine sx_nil' ?_
        show TX E K6 _
        refine tx_k' hK6 ?_
        refine cx_cond' rfl (fun h4 => ?_) (fun h4 => ?_)
        · replace hp := (br_t h4).symm.trans hp
          refine cx_seq' fun K9 hK9 => ?_
          refine cx_region' ?_
          refine sx_rd' (rd_assign' rfl) rfl rfl (wt_none' rfl) ?_
          refine sx_nil' ?_
          show TX E K9 _
          refine tx_k' hK9 ?_
          refine cx_retc' ?_
          replace hp := Option.some.inj hp
          subst hp
          refine tx_pick' (L' := [(2, (Vl (.bool true)))]) (H' := []) [] (sub_cons rfl sub_nil) (by decide) pick_nil ?_
          exact tx_ret1' Try.results9 rfl () (rv_tmp' rfl) (List.Sublist.refl _)
        · replace hp := (br_f h4).symm.trans hp
          refine cx_skip' ?_
          show TX E K5 _
          refine tx_k' hK5 ?_
          refine cx_seq' fun K10 hK10 => ?_
          refine cx_seq' fun K11 hK11 => ?_
          refine cx_region' ?_
          refine sx_rd' (rd_field0' rfl Try.underlying27 rfl info3 rfl) rfl rfl (wt_none' rfl) ?_
          refine sx_rd' (rd_load' (i := 0) (o := 0) rfl ⟨rfl, rfl, rfl, rfl⟩ rfl flat3) rfl rfl (wt_none' rfl) ?_
          refine sx_rd' (rd_bin' rfl rfl eg_int ru_neq) rfl rfl (wt_none' rfl) ?_
          refine sx_rd' (rd_move' rfl) rfl rfl (wt_none' rfl) ?_
          refine sx_cutn' 4 (fun (v3 : Bool) => (⟨71, [], [(1, (Vl (.pointer (some q1)))), (32, (Vl (.bool v3)))], [⟨.pointer (some q1), [(Vl (.int .i64 a0_0)), (Vl (.int .i64 a0_1)), (Vl (.int .i64 a0_2)), (Sl Kf a0_3), (Sl (Ki .i64) a0_4), (Sl (Kl (Ki .i64)) a0_5), (Sl KT27 a0_6)], 27, none⟩]⟩ : St)) (fun (v3 : Bool) => laws_FnLengthParts_j3 k a0_0 a0_1 a0_2 a0_3 a0_4 a0_5 a0_6 v3 = some out) ?_ ?_
          · rintro x3 hp
            replace hp : laws_FnLengthParts_j3 k a0_0 a0_1 a0_2 a0_3 a0_4 a0_5 a0_6 x3 = some out := hp
            unfold laws_FnLengthParts_j3 at hp
            refine sx_rd' (rd_move' rfl) rfl rfl (wt_none' rfl) ?_
            refine sx_cutn' 4 (fun (v4 : Bool) => (⟨71, [], [(1, (Vl (.pointer (some q1)))), (37, (Vl (.bool v4)))], [⟨.pointer (some q1), [(Vl (.int .i64 a0_0)), (Vl (.int .i64 a0_1)), (Vl (.int .i64 a0_2)), (Sl Kf a0_3), (Sl (Ki .i64) a0_4), (Sl (Kl (Ki .i64)) a0_5), (Sl KT27 a0_6)], 27, none⟩]⟩ : St)) (fun (v4 : Bool) => laws_FnLengthParts_j4 k a0_0 a0_1 a0_2 a0_3 a0_4 a0_5 a0_6 v4 = some out) ?_ ?_
            · rintro x4 hp
              replace hp : laws_FnLengthParts_j4 k a0_0 a0_1 a0_2 a0_3 a0_4 a0_5 a0_6 x4 = some out := hp
              unfold laws_FnLengthParts_j4 at hp
              refine sx_nil' ?_
              show TX E K11 _
              refine tx_k' hK11 ?_
              refine cx_cond' rfl (fun h7 => ?_) (fun h7 => ?_)
              · replace hp := (br_t h7).symm.trans hp
                refine cx_seq' fun K14 hK14 => ?_
                refine cx_region' ?_
                refine sx_rd' (rd_assign' rfl) rfl rfl (wt_none' rfl) ?_
                refine sx_nil' ?_
                show TX E K14 _
                refine tx_k' hK14 ?_
                refine cx_retc' ?_
                replace hp := Option.some.inj hp
                subst hp
                refine tx_pick' (L' := [(2, (Vl (.bool true)))]) (H' := []) [] (sub_cons rfl sub_nil) (by decide) pick_nil ?_
                exact tx_ret1' Try.results9 rfl () (rv_tmp' rfl) (List.Sublist.refl _)
              · replace hp := (br_f h7).symm.trans hp
                refine cx_skip' ?_
                show TX E K10 _
                refine tx_k' hK10 ?_
                refine cx_seq' fun K15 hK15 => ?_
                refine cx_region' ?_
                refine sx_rd' (rd_load_agg' (i := 0) (o := 0) (nn := 7) rfl ⟨rfl, rfl, rfl, rfl⟩ rfl agg27 (l' := [(Vl (.int .i64 a0_0)), (Vl (.int .i64 a0_1)), (Vl (.int .i64 a0_2)), (Sl Kf a0_3), (Sl (Ki .i64) a0_4), (Sl (Kl (Ki .i64)) a0_5), (Sl KT27 a0_6)]) rfl) rfl rfl (wt_none' rfl) ?_
                obtain ⟨r40, hr40, hp⟩ := bind_some hp
                refine sx_ox' (ox_calln' (ent_fn' Try.func33 isn33 rfl rfl) (impl_Length_sim _ _ _ _ _ _ _ hr40 : Go.Sx.Fn Try.prog 33 [(Ag [(Vl (.int .i64 a0_0)), (Vl (.int .i64 a0_1)), (Vl (.int .i64 a0_2)), (Sl Kf a0_3), (Sl (Ki .i64) a0_4), (Sl (Kl (Ki .i64)) a0_5), (Sl KT27 a0_6)])] [] (fun x : Unit => (Tu [(Fl r40.1), (Vl (.bool r40.2))])) (fun x => [])) (Hn := fun x : Unit => [⟨.pointer (some q1), [(Vl (.int .i64 a0_0)), (Vl (.int .i64 a0_1)), (Vl (.int .i64 a0_2)), (Sl Kf a0_3), (Sl (Ki .i64) a0_4), (Sl (Kl (Ki .i64)) a0_5), (Sl KT27 a0_6)], 27, none⟩]) (fun _ => rfl) rfl rfl) (wt_none' rfl) fun ⟨⟩ => ?_
                refine sx_rd' (rd_move' rfl) rfl rfl (wt_none' rfl) ?_
                refine sx_rd' (rd_extract' rfl rfl) rfl rfl (wt_none' rfl) ?_
                refine sx_rd' (rd_extract' rfl rfl) rfl rfl (wt_none' rfl) ?_
                refine sx_rd' (rd_assign' rfl) rfl rfl (wt_none' rfl) ?_
                refine sx_rd' (rd_assign' rfl) rfl rfl (wt_none' rfl) ?_
                refine sx_nil' ?_
                show TX E K15 _
                refine tx_k' hK15 ?_
                refine cx_seq' fun K16 hK16 => ?_
                refine cx_region' ?_
                refine sx_rd' (rd_assign' rfl) rfl rfl (wt_none' rfl) ?_
                refine sx_nil' ?_
                show TX E K16 _
                refine tx_k' hK16 ?_
                refine cx_seq' fun K17 hK17 => ?_
                refine cx_seq' fun K18 hK18 => ?_
                refine cx_region' ?_
                refine sx_rd' (rd_load_agg' (i := 0) (o := 0) (nn := 7) rfl ⟨rfl, rfl, rfl, rfl⟩ rfl agg27 (l' := [(Vl (.int .i64 a0_0)), (Vl (.int .i64 a0_1)), (Vl (.int .i64 a0_2)), (Sl Kf a0_3), (Sl (Ki .i64) a0_4), (Sl (Kl (Ki .i64)) a0_5), (Sl KT27 a0_6)]) rfl) rfl rfl (wt_none' rfl) ?_
                obtain ⟨r44, hr44, hp⟩ := bind_some hp
                refine sx_ox' (ox_calln' (ent_fn' Try.func27 isn27 rfl rfl) (spec_Parts_sim _ _ _ _ _ _ _ hr44 : Go.Sx.Fn Try.prog 27 [(Ag [(Vl (.int .i64 a0_0)), (Vl (.int .i64 a0_1)), (Vl (.int .i64 a0_2)), (Sl Kf a0_3), (Sl (Ki .i64) a0_4), (Sl (Kl (Ki .i64)) a0_5), (Sl KT27 a0_6)])] [] (fun x : Unit => (Sl KT27 r44)) (fun x => [])) (Hn := fun x : Unit => [⟨.pointer (some q1), [(Vl (.int .i64 a0_0)), (Vl (.int .i64 a0_1)), (Vl (.int .i64 a0_2)), (Sl Kf a0_3), (Sl (Ki .i64) a0_4), (Sl (Kl (Ki .i64)) a0_5), (Sl KT27 a0_6)], 27, none⟩]) (fun _ => rfl) rfl rfl) (wt_none' rfl) fun ⟨⟩ => ?_
                refine sx_rd' (rd_len' rfl Try.underlying25) rfl rfl (wt_none' rfl) ?_
                refine sx_rd' (rd_move' rfl) rfl rfl (wt_none' rfl) ?_
                refine sx_nil' ?_
                show TX E K18 _
                refine tx_k' hK18 ?_
                refine cx_block' ?_
                obtain ⟨v8, hy1, hp⟩ := bind_some hp
                refine tx_slot' 5 (y := (Fl 0)) rfl imp_vf ?_
                refine cx_loopg' (F := laws_FnLengthParts_l1 r44) (G := fun k R v => laws_FnLengthParts_l1s r44 k R v.1 v.2.1 v.2.2) (x := (r40.2, 0, 0)) (gh := ()) (fun (v6 : Bool × Nat × Int) (w6 : Unit) => (⟨71, [], [(3, (Fl r40.1)), (4, (Vl (.bool v6.1))), (5, (Fl v6.2.1)), (44, (Sl KT27 r44)), (45, (Vl (.int .i64 (r44.length : Int)))), (46, (Vl (.int .i64 v6.2.2)))], []⟩ : St)) (fun (v8 : Bool × Nat) => Zg E (Exit.exit 0) (fun (w8 : Unit) => (⟨71, [], [(3, (Fl r40.1)), (4, (Vl (.bool v8.1))), (5, (Fl v8.2))], []⟩ : St))) (fun _ => rfl) (fun _ _ => rfl) ?_ hy1 (tx_to' rfl [] (sub_cons rfl (sub_cons rfl (sub_cons rfl (sub_cons rfl (sub_cons rfl (sub_cons rfl sub_nil)))))) (by decide) pick_nil) ?_
                · clear hp hy1
                  clear v8
                  intro k rec1 KY1 ih1
                  rintro ⟨x7, x8, x9⟩ ⟨⟩ y1 hp
                  replace hp : laws_FnLengthParts_l1s r44 k rec1 x7 x8 x9 = some y1 := hp
                  unfold laws_FnLengthParts_l1s at hp
                  refine cx_seq' fun K25 hK25 => ?_
                  refine cx_region' ?_
                  refine sx_rd' (rd_bin' rfl rfl eg_int ru_lss) rfl rfl (wt_none' rfl) ?_
                  refine sx_nil' ?_
                  show TX E K25 _
                  refine tx_k' hK25 ?_
                  refine cx_seq' fun K26 hK26 => ?_
                  refine cx_cond' rfl (fun h11 => ?_) (fun h11 => ?_)
                  · replace hp := (br_t h11).symm.trans hp
                    refine cx_skip' ?_
                    show TX E K26 _
                    refine tx_k' hK26 ?_
                    refine cx_seq' fun K27 hK27 => ?_
                    refine cx_block' ?_
                    refine cx_seq' fun K28 hK28 => ?_
                    refine cx_region' ?_
                    obtain ⟨r48, hr48, hp⟩ := bind_some hp
                    refine sx_rd' (rd_eq' (congrArg Pt (KT27_enc r48)) (rd_at' (K := KT27) rfl rfl hr48 Try.underlying25 info27)) rfl rfl (wt_none' rfl) ?_
                    refine sx_rd' (rd_load_pt_agg' (nn := 7) rfl rfl agg27 (l' := [(Vl (.int .i64 r48.f0)), (Vl (.int .i64 r48.f1)), (Vl (.int .i64 r48.f2)), (Sl Kf r48.f3), (Sl (Ki .i64) r48.f4), (Sl (Kl (Ki .i64)) r48.f5), (Sl KT27 r48.f6)]) rfl) rfl rfl (wt_none' rfl) ?_
                    refine sx_ox' (ox_alloc' info27 rfl rfl rfl rfl (l := [(Vl (.int .i64 0)), (Vl (.int .i64 0)), (Vl (.int .i64 0)), (Vl (.slice none 0 0)), (Vl (.slice none 0 0)), (Vl (.slice none 0 0)), (Vl (.slice none 0 0))]) rfl) (wt_none' rfl) fun q7 => ?_
                    refine sx_ox' (ox_store' (i := 0) (o := 0) rfl rfl (lv_ag _) ⟨rfl, rfl, rfl, rfl⟩ rfl info27 rfl (H' := [⟨.pointer (some q7), [(Vl (.int .i64 r48.f0)), (Vl (.int .i64 r48.f1)), (Vl (.int .i64 r48.f2)), (Sl Kf r48.f3), (Sl (Ki .i64) r48.f4), (Sl (Kl (Ki .i64)) r48.f5), (Sl KT27 r48.f6)], 27, none⟩]) rfl) (wt_none' rfl) fun _ => ?_
                    refine sx_nil' ?_
                    show TX E K28 _
                    refine tx_k' hK28 ?_
                    refine cx_seq' fun K29 hK29 => ?_
                    refine cx_region' ?_
                    refine sx_rd' (rd_load_agg' (i := 0) (o := 0) (nn := 7) rfl ⟨rfl, rfl, rfl, rfl⟩ rfl agg27 (l' := [(Vl (.int .i64 r48.f0)), (Vl (.int .i64 r48.f1)), (Vl (.int .i64 r48.f2)), (Sl Kf r48.f3), (Sl (Ki .i64) r48.f4), (Sl (Kl (Ki .i64)) r48.f5), (Sl KT27 r48.f6)]) rfl) rfl rfl (wt_none' rfl) ?_
                    obtain ⟨r52, hr52, hp⟩ := bind_some hp
                    refine sx_ox' (ox_calln' (ent_fn' Try.func33 isn33 rfl rfl) (impl_Length_sim _ _ _ _ _ _ _ hr52 : Go.Sx.Fn Try.prog 33 [(Ag [(Vl (.int .i64 r48.f0)), (Vl (.int .i64 r48.f1)), (Vl (.int .i64 r48.f2)), (Sl Kf r48.f3), (Sl (Ki .i64) r48.f4), (Sl (Kl (Ki .i64)) r48.f5), (Sl KT27 r48.f6)])] [] (fun x : Unit => (Tu [(Fl r52.1), (Vl (.bool r52.2))])) (fun x => [])) (Hn := fun x : Unit => [⟨.pointer (some q7), [(Vl (.int .i64 r48.f0)), (Vl (.int .i64 r48.f1)), (Vl (.int .i64 r48.f2)), (Sl Kf r48.f3), (Sl (Ki .i64) r48.f4), (Sl (Kl (Ki .i64)) r48.f5), (Sl KT27 r48.f6)], 27, none⟩]) (fun _ => rfl) rfl rfl) (wt_none' rfl) fun ⟨⟩ => ?_
                    refine sx_rd' (rd_move' rfl) rfl rfl (wt_none' rfl) ?_
                    refine sx_rd' (rd_extract' rfl rfl) rfl rfl (wt_none' rfl) ?_
                    refine sx_rd' (rd_extract' rfl rfl) rfl rfl (wt_none' rfl) ?_
                    refine sx_rd' (rd_assign' rfl) rfl rfl (wt_none' rfl) ?_
                    refine sx_rd' (rd_assign' rfl) rfl rfl (wt_none' rfl) ?_
                    refine sx_nil' ?_
                    show TX E K29 _
                    refine tx_k' hK29 ?_
                    refine cx_region' ?_
                    refine sx_rd' (rd_move' rfl) rfl rfl (wt_none' rfl) ?_
                    refine sx_rd' (rd_move' rfl) rfl rfl (wt_none' rfl) ?_
                    obtain ⟨r57, hr57, hp⟩ := bind_some hp
                    refine sx_ox' (ox_fop' (.inl rfl) (fl_f rfl) (fl_f rfl) (Option.some.inj hr57) rfl rfl) (wt_none' rfl) fun _ => ?_
                    refine sx_rd' (rd_move' rfl) rfl rfl (wt_none' rfl) ?_
                    refine sx_rd' (rd_move' rfl) rfl rfl (wt_none' rfl) ?_
                    refine sx_cutn' 2 (fun (v7 : Bool) => (⟨71, [], [(3, (Fl r40.1)), (44, (Sl KT27 r44)), (45, (Vl (.int .i64 (r44.length : Int)))), (46, (Vl (.int .i64 x9))), (57, (Fl r57)), (61, (Vl (.bool v7)))], []⟩ : St)) (fun (v7 : Bool) => laws_FnLengthParts_j6 k rec1 r57 x9 v7 = some y1) ?_ ?_
                    · rintro x6 hp
                      replace hp : laws_FnLengthParts_j6 k rec1 r57 x9 x6 = some y1 := hp
                      unfold laws_FnLengthParts_j6 at hp
                      refine sx_rd' (rd_assign' rfl) rfl rfl (wt_none' rfl) ?_
                      refine sx_rd' (rd_assign' rfl) rfl rfl (wt_none' rfl) ?_
                      refine sx_nil' ?_
                      show TX E K27 _
                      refine tx_k' hK27 ?_
                      refine cx_region' ?_
                      refine sx_rd' (rd_bin' rfl rfl eg_int ru_add) rfl rfl (wt_none' rfl) ?_
                      refine sx_rd' (rd_move' rfl) rfl rfl (wt_none' rfl) ?_
                      refine sx_nil' ?_
                      show TX E (KY1 _) _
                      exact tx_pick' [] (sub_cons rfl (sub_cons rfl (sub_cons rfl (sub_cons rfl (sub_cons rfl (sub_cons rfl sub_nil)))))) (by decide) pick_nil (ih1 (x6, r57, (iadd .i64 x9 1)) () _ hp)
                    · intro K30 hK30
                      rcases br_cases hp with ⟨h12, hp⟩ | ⟨h12, hp⟩
                      · refine sx_rd' (rd_move' rfl) rfl rfl (wt_is' (wt_guard' rfl rfl rfl) (beq_tt h12)) ?_
                        refine sx_rd' (rd_pick_true' rfl h12 rfl) rfl rfl (wt_none' rfl) ?_
                        refine sx_nil' ?_
                        show TX E K30 _
                        exact tx_pick' [] (sub_cons rfl (sub_cons rfl (sub_cons rfl (sub_cons rfl (sub_cons rfl (sub_cons rfl sub_nil)))))) (by decide) pick_nil (hK30 r52.2 hp)
                      · refine sx_skip' rfl rfl (wt_is' (wt_guard' rfl rfl rfl) (beq_ft h12)) ?_
                        refine sx_rd' (rd_pick_false' rfl h12 rfl) rfl rfl (wt_none' rfl) ?_
                        refine sx_nil' ?_
                        show TX E K30 _
                        exact tx_pick' [] (sub_cons rfl (sub_cons rfl (sub_cons rfl (sub_cons rfl (sub_cons rfl (sub_cons rfl sub_nil)))))) (by decide) pick_nil (hK30 false hp)
                  · replace hp := (br_f h11).symm.trans hp
                    refine cx_exit' ?_
                    replace hp := Option.some.inj hp
                    subst hp
                    show TX E (Zg E (Exit.exit 0) _ (Exit.exit 0)) _
                    exact tx_zend' () rfl [] (sub_cons rfl (sub_cons rfl (sub_cons rfl sub_nil))) (by decide) pick_nil
                · refine zg_out fun w8 => ?_
                  show TX E K17 _
                  refine tx_k' hK17 ?_
                  refine cx_seq' fun K31 hK31 => ?_
                  refine cx_region' ?_
                  refine sx_rd' (rd_move' rfl) rfl rfl (wt_none' rfl) ?_
                  refine sx_rd' (rd_move' rfl) rfl rfl (wt_none' rfl) ?_
                  refine sx_cutn' 6 (fun (v9 : Bool) => (⟨71, [], [(70, (Vl (.bool v9)))], []⟩ : St)) (fun (v9 : Bool) => laws_FnLengthParts_j7 k v9 = some out) ?_ ?_
                  · rintro x12 hp
                    replace hp : laws_FnLengthParts_j7 k x12 = some out := hp
                    unfold laws_FnLengthParts_j7 at hp
                    refine sx_rd' (rd_assign' rfl) rfl rfl (wt_none' rfl) ?_
                    refine sx_nil' ?_
                    show TX E K31 _
                    refine tx_k' hK31 ?_
                    refine cx_retc' ?_
                    replace hp := Option.some.inj hp
                    subst hp
                    refine tx_pick' (L' := [(2, (Vl (.bool x12)))]) (H' := []) [] (sub_cons rfl sub_nil) (by decide) pick_nil ?_
                    exact tx_ret1' Try.results9 rfl () (rv_tmp' rfl) (List.Sublist.refl _)
                  · intro K32 hK32
                    rcases br_cases hp with ⟨h13, hp⟩ | ⟨h13, hp⟩
                    · refine sx_rd' (rd_move' rfl) rfl rfl (wt_is' (wt_guard' rfl rfl rfl) (beq_tt h13)) ?_
                      refine sx_rd' (rd_move' rfl) rfl rfl (wt_is' (wt_guard' rfl rfl rfl) (beq_tt h13)) ?_
                      obtain ⟨r67, hr67, hp⟩ := bind_some hp
                      refine sx_ox' (ox_fop' (.inr (.inl rfl)) (fl_f rfl) (fl_f rfl) (Option.some.inj hr67) rfl rfl) (wt_is' (wt_guard' rfl rfl rfl) (beq_tt h13)) fun _ => ?_
                      obtain ⟨u1, hu1, hp⟩ := bind_some hp
                      refine tx_slot' 67 (y := (Vl (.float .f64 r67))) rfl (imp_num (num_some hu1).2) ?_
                      obtain ⟨r68, hr68, hp⟩ := bind_some hp
                      refine sx_ox' (ox_calln' (ent_fn' Try.func34 isn34 rfl rfl) (math_Abs_sim _ hr68 : Go.Sx.Fn Try.prog 34 [(Vl (.float .f64 r67))] [] (fun x : Unit => (Vl (.float .f64 r68))) (fun x => [])) (Hn := fun x : Unit => []) (fun _ => rfl) rfl rfl) (wt_is' (wt_guard' rfl rfl rfl) (beq_tt h13)) fun ⟨⟩ => ?_
                      refine sx_rd' (rd_bin' rfl rfl eg_flt ru_flt) rfl rfl (wt_is' (wt_guard' rfl rfl rfl) (beq_tt h13)) ?_
                      refine sx_rd' (rd_pick_true' rfl h13 rfl) rfl rfl (wt_none' rfl) ?_
                      refine sx_nil' ?_
                      show TX E K32 _
                      exact tx_pick' [] (sub_cons rfl sub_nil) (by decide) pick_nil (hK32 (flt r68 4517110426252607488) hp)
                    · refine sx_skip' rfl rfl (wt_is' (wt_guard' rfl rfl rfl) (beq_ft h13)) ?_
                      refine sx_skip' rfl rfl (wt_is' (wt_guard' rfl rfl rfl) (beq_ft h13)) ?_
                      refine sx_skip' rfl rfl (wt_is' (wt_guard' rfl rfl rfl) (beq_ft h13)) ?_
                      refine sx_skip' rfl rfl (wt_is' (wt_guard' rfl rfl rfl) (beq_ft h13)) ?_
                      refine sx_skip' rfl rfl (wt_is' (wt_guard' rfl rfl rfl) (beq_ft h13)) ?_
                      refine sx_rd' (rd_pick_false' rfl h13 rfl) rfl rfl (wt_none' rfl) ?_
                      refine sx_nil' ?_
                      show TX E K32 _
                      exact tx_pick' [] (sub_cons rfl sub_nil) (by decide) pick_nil (hK32 false hp)
            · intro K13 hK13
              rcases br_cases hp with ⟨h6, hp⟩ | ⟨h6, hp⟩
              · refine sx_rd' (rd_field0' rfl Try.underlying27 rfl info3 rfl) rfl rfl (wt_is' (wt_guard' rfl rfl rfl) (beq_tt h6)) ?_
                refine sx_rd' (rd_load' (i := 0) (o := 0) rfl ⟨rfl, rfl, rfl, rfl⟩ rfl flat3) rfl rfl (wt_is' (wt_guard' rfl rfl rfl) (beq_tt h6)) ?_
                refine sx_rd' (rd_bin' rfl rfl eg_int ru_neq) rfl rfl (wt_is' (wt_guard' rfl rfl rfl) (beq_tt h6)) ?_
                refine sx_rd' (rd_pick_true' rfl h6 rfl) rfl rfl (wt_none' rfl) ?_
                refine sx_nil' ?_
                show TX E K13 _
                exact tx_pick' [0] (sub_cons rfl (sub_cons rfl sub_nil)) (by decide) (pick_cons rfl pick_nil) (hK13 (!decide (a0_0 = 6)) hp)
              · refine sx_skip' rfl rfl (wt_is' (wt_guard' rfl rfl rfl) (beq_ft h6)) ?_
                refine sx_skip' rfl rfl (wt_is' (wt_guard' rfl rfl rfl) (beq_ft h6)) ?_
                refine sx_skip' rfl rfl (wt_is' (wt_guard' rfl rfl rfl) (beq_ft h6)) ?_
                refine sx_rd' (rd_pick_false' rfl h6 rfl) rfl rfl (wt_none' rfl) ?_
                refine sx_nil' ?_
                show TX E K13 _
                exact tx_pick' [0] (sub_cons rfl (sub_cons rfl sub_nil)) (by decide) (pick_cons rfl pick_nil) (hK13 false hp)
          · intro K12 hK12
            rcases br_cases hp with ⟨h5, hp⟩ | ⟨h5, hp⟩
            · refine sx_rd' (rd_field0' rfl Try.underlying27 rfl info3 rfl) rfl rfl (wt_is' (wt_guard' rfl rfl rfl) (beq_tt h5)) ?_
              refine sx_rd' (rd_load' (i := 0) (o := 0) rfl ⟨rfl, rfl, rfl, rfl⟩ rfl flat3) rfl rfl (wt_is' (wt_guard' rfl rfl rfl) (beq_tt h5)) ?_
              refine sx_rd' (rd_bin' rfl rfl eg_int ru_neq) rfl rfl (wt_is' (wt_guard' rfl rfl rfl) (beq_tt h5)) ?_
              refine sx_rd' (rd_pick_true' rfl h5 rfl) rfl rfl (wt_none' rfl) ?_
              refine sx_nil' ?_
              show TX E K12 _
              exact tx_pick' [0] (sub_cons rfl (sub_cons rfl sub_nil)) (by decide) (pick_cons rfl pick_nil) (hK12 (!decide (a0_0 = 5)) hp)
            · refine sx_skip' rfl rfl (wt_is' (wt_guard' rfl rfl rfl) (beq_ft h5)) ?_
              refine sx_skip' rfl rfl (wt_is' (wt_guard' rfl rfl rfl) (beq_ft h5)) ?_
              refine sx_skip' rfl rfl (wt_is' (wt_guard' rfl rfl rfl) (beq_ft h5)) ?_
              refine sx_rd' (rd_pick_false' rfl h5 rfl) rfl rfl (wt_none' rfl) ?_
              refine sx_nil' ?_
              show TX E K12 _
              exact tx_pick' [0] (sub_cons rfl (sub_cons rfl sub_nil)) (by decide) (pick_cons rfl pick_nil) (hK12 false hp)
      · intro K8 hK8
        rcases br_cases hp with ⟨h3, hp⟩ | ⟨h3, hp⟩
        · refine sx_skip' rfl rfl (wt_is' (wt_guard' rfl rfl rfl) (beq_tf h3)) ?_
          refine sx_skip' rfl rfl (wt_is' (wt_guard' rfl rfl rfl) (beq_tf h3)) ?_
          refine sx_skip' rfl rfl (wt_is' (wt_guard' rfl rfl rfl) (beq_tf h3)) ?_
          refine sx_rd' (rd_pick_true' rfl h3 rfl) rfl rfl (wt_none' rfl) ?_
          refine sx_nil' ?_
          show TX E K8 _
          exact tx_pick' [0] (sub_cons rfl (sub_cons rfl sub_nil)) (by decide) (pick_cons rfl pick_nil) (hK8 true hp)
        · refine sx_rd' (rd_load_agg' (i := 0) (o := 0) (nn := 7) rfl ⟨rfl, rfl, rfl, rfl⟩ rfl agg27 (l' := [(Vl (.int .i64 a0_0)), (Vl (.int .i64 a0_1)), (Vl (.int .i64 a0_2)), (Sl Kf a0_3), (Sl (Ki .i64) a0_4), (Sl (Kl (Ki .i64)) a0_5), (Sl KT27 a0_6)]) rfl) rfl rfl (wt_is' (wt_guard' rfl rfl rfl) (beq_ff h3)) ?_
          obtain ⟨r22, hr22, hp⟩ := bind_some hp
          refine sx_ox' (ox_calln' (ent_fn' Try.func30 isn30 rfl rfl) (laws_gEach_sim _ _ _ _ _ _ _ hr22 : Go.Sx.Fn Try.prog 30 [(Ag [(Vl (.int .i64 a0_0)), (Vl (.int .i64 a0_1)), (Vl (.int .i64 a0_2)), (Sl Kf a0_3), (Sl (Ki .i64) a0_4), (Sl (Kl (Ki .i64)) a0_5), (Sl KT27 a0_6)]), (Vl (.func (.func 31) #[] #[]))] [] (fun x : Unit => (Vl (.bool r22))) (fun x => [])) (Hn := fun x : Unit => [⟨.pointer (some q1), [(Vl (.int .i64 a0_0)), (Vl (.int .i64 a0_1)), (Vl (.int .i64 a0_2)), (Sl Kf a0_3), (Sl (Ki .i64) a0_4), (Sl (Kl (Ki .i64)) a0_5), (Sl KT27 a0_6)], 27, none⟩]) (fun _ => rfl) rfl rfl) (wt_is' (wt_guard' rfl rfl rfl) (beq_ff h3)) fun ⟨⟩ => ?_
          refine sx_rd' (rd_un' rfl ru_not) rfl rfl (wt_is' (wt_guard' rfl rfl rfl) (beq_ff h3)) ?_
          refine sx_rd' (rd_pick_false' rfl h3 rfl) rfl rfl (wt_none' rfl) ?_
          refine sx_nil' ?_
          show TX E K8 _
          exact tx_pick' [0] (sub_cons rfl (sub_cons rfl sub_nil)) (by decide) (pick_cons rfl pick_nil) (hK8 (!r22) hp)
    · intro K7 hK7
      rcases br_cases hp with ⟨h2, hp⟩ | ⟨h2, hp⟩
      · refine sx_skip' rfl rfl (wt_is' (wt_guard' rfl rfl rfl) (beq_tf h2)) ?_
        refine sx_skip' rfl rfl (wt_is' (wt_guard' rfl rfl rfl) (beq_tf h2)) ?_
        refine sx_rd' (rd_pick_true' rfl h2 rfl) rfl rfl (wt_none' rfl) ?_
        refine sx_nil' ?_
        show TX E K7 _
        exact tx_pick' [0] (sub_cons rfl (sub_cons rfl sub_nil)) (by decide) (pick_cons rfl pick_nil) (hK7 true hp)
      · refine sx_rd' (rd_load_agg' (i := 0) (o := 0) (nn := 7) rfl ⟨rfl, rfl, rfl, rfl⟩ rfl agg27 (l' := [(Vl (.int .i64 a0_0)), (Vl (.int .i64 a0_1)), (Vl (.int .i64 a0_2)), (Sl Kf a0_3), (Sl (Ki .i64) a0_4), (Sl (Kl (Ki .i64)) a0_5), (Sl KT27 a0_6)]) rfl) rfl rfl (wt_is' (wt_guard' rfl rfl rfl) (beq_ff h2)) ?_
        obtain ⟨r18, hr18, hp⟩ := bind_some hp
        refine sx_ox' (ox_calln' (ent_fn' Try.func29 isn29 rfl rfl) (laws_gHollow_sim _ _ _ _ _ _ _ hr18 : Go.Sx.Fn Try.prog 29 [(Ag [(Vl (.int .i64 a0_0)), (Vl (.int .i64 a0_1)), (Vl (.int .i64 a0_2)), (Sl Kf a0_3), (Sl (Ki .i64) a0_4), (Sl (Kl (Ki .i64)) a0_5), (Sl KT27 a0_6)])] [] (fun x : Unit => (Vl (.bool r18))) (fun x => [])) (Hn := fun x : Unit => [⟨.pointer (some q1), [(Vl (.int .i64 a0_0)), (Vl (.int .i64 a0_1)), (Vl (.int .i64 a0_2)), (Sl Kf a0_3), (Sl (Ki .i64) a0_4), (Sl (Kl (Ki .i64)) a0_5), (Sl KT27 a0_6)], 27, none⟩]) (fun _ => rfl) rfl rfl) (wt_is' (wt_guard' rfl rfl rfl) (beq_ff h2)) fun ⟨⟩ => ?_
        refine sx_rd' (rd_pick_false' rfl h2 rfl) rfl rfl (wt_none' rfl) ?_
        refine sx_nil' ?_
        show TX E K7 _
        exact tx_pick' [0] (sub_cons rfl (sub_cons rfl sub_nil)) (by decide) (pick_cons rfl pick_nil) (hK7 r18 hp)

end Go.Proofs.Ytohopkpjccpckaa
