/-
  Plain functions for the Go functions that this law reaches, and that each call does what its plain function says. Printed by a program of ours.
-/
import Derived.Test.YtohopkpjccpckaaProg
import Derived.Test.YtohopkpjccpckaaSxZ
import Derived.Test.YtohopkpjccpckaaFun2
namespace Go.Proofs.Ytohopkpjccpckaa
open Go.Sx
set_option linter.unusedVariables false
set_option maxRecDepth 100000

def gogeom_geom0_FlatCoords_v4 (k : Nat) (a0_0 : Int) (a0_1 : Int) (a0_2 : List Nat) (a0_3 : Int) (a0_4 : List Int) : Option (Int × Int × (List Nat) × Int × (List Int)) :=
  some (a0_0, a0_1, a0_2, a0_3, a0_4)

theorem gogeom_geom0_FlatCoords_v4_sim {k : Nat} {wa0 : Addr} (a0_0 : Int) (a0_1 : Int) (a0_2 : List Nat) (a0_3 : Int) (a0_4 : List Int) {out : Int × Int × (List Nat) × Int × (List Int)} (hp : gogeom_geom0_FlatCoords_v4 k a0_0 a0_1 a0_2 a0_3 a0_4 = some out) : Go.Sx.Fn Try.prog 147 [(Vl (.pointer (some wa0)))] [⟨.pointer (some wa0), [(Vl (.int .i64 a0_0)), (Vl (.int .i64 a0_1)), (Sl Kf a0_2), (Vl (.int .i64 a0_3)), (Sl (Ki .i64) a0_4)], 155, none⟩] (fun w : Unit => (Sl Kf out.2.2.1)) (fun w => [⟨.pointer (some wa0), [(Vl (.int .i64 out.1)), (Vl (.int .i64 out.2.1)), (Sl Kf out.2.2.1), (Vl (.int .i64 out.2.2.2.1)), (Sl (Ki .i64) out.2.2.2.2)], 155, none⟩]) := by
  unfold gogeom_geom0_FlatCoords_v4 at hp
  refine fn_of Try.func147 rfl Try.ntmps147 rfl fun E hM => ?_
  refine cx_seq' fun K1 hK1 => ?_
  refine cx_region' ?_
  refine sx_rd' (rd_assign' rfl) rfl rfl (wt_none' rfl) ?_
  refine sx_nil' ?_
  show TX E K1 _
  refine tx_k' hK1 ?_
  refine cx_seq' fun K2 hK2 => ?_
  refine cx_region' ?_
  refine sx_rd' (rd_move' rfl) rfl rfl (wt_none' rfl) ?_
  refine sx_rd' (rd_nilck' rfl) rfl rfl (wt_none' rfl) ?_
  refine sx_rd' (rd_field' (off := 2) rfl Try.underlying112 rfl info22 rfl) rfl rfl (wt_none' rfl) ?_
  refine sx_rd' (rd_load' (i := 0) (o := 2) rfl ⟨rfl, rfl, rfl, rfl⟩ rfl flat22) rfl rfl (wt_none' rfl) ?_
  refine sx_rd' (rd_assign' rfl) rfl rfl (wt_none' rfl) ?_
  refine sx_nil' ?_
  show TX E K2 _
  refine tx_k' hK2 ?_
  refine cx_retc' ?_
  replace hp := Option.some.inj hp
  subst hp
  refine tx_pick' (L' := [(2, (Sl Kf a0_2))]) (H' := [⟨.pointer (some wa0), [(Vl (.int .i64 a0_0)), (Vl (.int .i64 a0_1)), (Sl Kf a0_2), (Vl (.int .i64 a0_3)), (Sl (Ki .i64) a0_4)], 155, none⟩]) [0] (sub_cons rfl sub_nil) (by decide) (pick_cons rfl pick_nil) ?_
  exact tx_ret1' Try.results147 rfl () (rv_tmp' rfl) (List.Sublist.refl _)

def gogeom_geom2_Ends (k : Nat) (a0_0 : Int) (a0_1 : Int) (a0_2 : List Nat) (a0_3 : Int) (a0_4 : List Int) : Option (Int × Int × (List Nat) × Int × (List Int)) :=
  some (a0_0, a0_1, a0_2, a0_3, a0_4)

theorem gogeom_geom2_Ends_sim {k : Nat} {wa0 : Addr} (a0_0 : Int) (a0_1 : Int) (a0_2 : List Nat) (a0_3 : Int) (a0_4 : List Int) {out : Int × Int × (List Nat) × Int × (List Int)} (hp : gogeom_geom2_Ends k a0_0 a0_1 a0_2 a0_3 a0_4 = some out) : Go.Sx.Fn Try.prog 165 [(Vl (.pointer (some wa0)))] [⟨.pointer (some wa0), [(Vl (.int .i64 a0_0)), (Vl (.int .i64 a0_1)), (Sl Kf a0_2), (Vl (.int .i64 a0_3)), (Sl (Ki .i64) a0_4)], 155, none⟩] (fun w : Unit => (Sl (Ki .i64) out.2.2.2.2)) (fun w => [⟨.pointer (some wa0), [(Vl (.int .i64 out.1)), (Vl (.int .i64 out.2.1)), (Sl Kf out.2.2.1), (Vl (.int .i64 out.2.2.2.1)), (Sl (Ki .i64) out.2.2.2.2)], 155, none⟩]) := by
  unfold gogeom_geom2_Ends at hp
  refine fn_of Try.func165 rfl Try.ntmps165 rfl fun E hM => ?_
  refine cx_seq' fun K1 hK1 => ?_
  refine cx_region' ?_
  refine sx_rd' (rd_assign' rfl) rfl rfl (wt_none' rfl) ?_
  refine sx_nil' ?_
  show TX E K1 _
  refine tx_k' hK1 ?_
  refine cx_seq' fun K2 hK2 => ?_
  refine cx_region' ?_
  refine sx_rd' (rd_move' rfl) rfl rfl (wt_none' rfl) ?_
  refine sx_rd' (rd_nilck' rfl) rfl rfl (wt_none' rfl) ?_
  refine sx_rd' (rd_field' (off := 4) rfl Try.underlying153 rfl info23 rfl) rfl rfl (wt_none' rfl) ?_
  refine sx_rd' (rd_load' (i := 0) (o := 4) rfl ⟨rfl, rfl, rfl, rfl⟩ rfl flat23) rfl rfl (wt_none' rfl) ?_
  refine sx_rd' (rd_assign' rfl) rfl rfl (wt_none' rfl) ?_
  refine sx_nil' ?_
  show TX E K2 _
  refine tx_k' hK2 ?_
  refine cx_retc' ?_
  replace hp := Option.some.inj hp
  subst hp
  refine tx_pick' (L' := [(2, (Sl (Ki .i64) a0_4))]) (H' := [⟨.pointer (some wa0), [(Vl (.int .i64 a0_0)), (Vl (.int .i64 a0_1)), (Sl Kf a0_2), (Vl (.int .i64 a0_3)), (Sl (Ki .i64) a0_4)], 155, none⟩]) [0] (sub_cons rfl sub_nil) (by decide) (pick_cons rfl pick_nil) ?_
  exact tx_ret1' Try.results165 rfl () (rv_tmp' rfl) (List.Sublist.refl _)

def gogeom_geom0_Endss_v4 (k : Nat) (a0_0 : Int) (a0_1 : Int) (a0_2 : List Nat) (a0_3 : Int) (a0_4 : List Int) : Option (Int × Int × (List Nat) × Int × (List Int)) :=
  some (a0_0, a0_1, a0_2, a0_3, a0_4)

theorem gogeom_geom0_Endss_v4_sim {k : Nat} {wa0 : Addr} (a0_0 : Int) (a0_1 : Int) (a0_2 : List Nat) (a0_3 : Int) (a0_4 : List Int) {out : Int × Int × (List Nat) × Int × (List Int)} (hp : gogeom_geom0_Endss_v4 k a0_0 a0_1 a0_2 a0_3 a0_4 = some out) : Go.Sx.Fn Try.prog 146 [(Vl (.pointer (some wa0)))] [⟨.pointer (some wa0), [(Vl (.int .i64 a0_0)), (Vl (.int .i64 a0_1)), (Sl Kf a0_2), (Vl (.int .i64 a0_3)), (Sl (Ki .i64) a0_4)], 155, none⟩] (fun w : Unit => (Vl (.slice none 0 0))) (fun w => [⟨.pointer (some wa0), [(Vl (.int .i64 out.1)), (Vl (.int .i64 out.2.1)), (Sl Kf out.2.2.1), (Vl (.int .i64 out.2.2.2.1)), (Sl (Ki .i64) out.2.2.2.2)], 155, none⟩]) := by
  unfold gogeom_geom0_Endss_v4 at hp
  refine fn_of Try.func146 rfl Try.ntmps146 rfl fun E hM => ?_
  refine cx_seq' fun K1 hK1 => ?_
  refine cx_region' ?_
  refine sx_rd' (rd_assign' rfl) rfl rfl (wt_none' rfl) ?_
  refine sx_nil' ?_
  show TX E K1 _
  refine tx_k' hK1 ?_
  refine cx_seq' fun K2 hK2 => ?_
  refine cx_region' ?_
  refine sx_rd' (rd_assign' rfl) rfl rfl (wt_none' rfl) ?_
  refine sx_nil' ?_
  show TX E K2 _
  refine tx_k' hK2 ?_
  refine cx_retc' ?_
  replace hp := Option.some.inj hp
  subst hp
  refine tx_pick' (L' := [(2, (Vl (.slice none 0 0)))]) (H' := [⟨.pointer (some wa0), [(Vl (.int .i64 a0_0)), (Vl (.int .i64 a0_1)), (Sl Kf a0_2), (Vl (.int .i64 a0_3)), (Sl (Ki .i64) a0_4)], 155, none⟩]) [0] (sub_cons rfl sub_nil) (by decide) (pick_cons rfl pick_nil) ?_
  exact tx_ret1' Try.results146 rfl () (rv_tmp' rfl) (List.Sublist.refl _)

def impl_plain_v4 (k : Nat) (a0_0 : Int) (a0_1 : Int) (a0_2 : List Nat) (a0_3 : Int) (a0_4 : List Int) : Option (Int × Int × (List Nat) × Int × (List Int) × Int × Int × Int × (List Nat) × (List Int)) :=
  (gogeom_geom0_SRID_v4 k a0_0 a0_1 a0_2 a0_3 a0_4) >>= fun r15 =>
  (gogeom_geom0_Layout_v4 k r15.1 r15.2.1 r15.2.2.1 r15.2.2.2.1 r15.2.2.2.2) >>= fun r70 =>
  (gogeom_geom0_FlatCoords_v4 k r70.1 r70.2.1 r70.2.2.1 r70.2.2.2.1 r70.2.2.2.2) >>= fun r72 =>
  (impl_floats k r72.2.2.1) >>= fun r73 =>
  (gogeom_geom2_Ends k r72.1 r72.2.1 r72.2.2.1 r72.2.2.2.1 r72.2.2.2.2) >>= fun r75 =>
  (impl_ints k r75.2.2.2.2) >>= fun r76 =>
  match r76 with
    | (.inl y1) =>
      ((gogeom_geom0_Endss_v4 k r75.1 r75.2.1 r75.2.2.1 r75.2.2.2.1 r75.2.2.2.2) >>= fun r78 =>
      (impl_intss_v2 k) >>= fun r79 =>
      some (r78.1, r78.2.1, r78.2.2.1, r78.2.2.2.1, r78.2.2.2.2, 3, r70.1, r15.2.2.2.1, r73, []))
    | (.inr y1) =>
      ((gogeom_geom0_Endss_v4 k r75.1 r75.2.1 r75.2.2.1 r75.2.2.2.1 r75.2.2.2.2) >>= fun r78 =>
      (impl_intss_v2 k) >>= fun r79 =>
      some (r78.1, r78.2.1, r78.2.2.1, r78.2.2.2.1, r78.2.2.2.2, 3, r70.1, r15.2.2.2.1, r73, y1))

theorem impl_plain_v4_sim {k : Nat} {wa0 : Addr} (a0_0 : Int) (a0_1 : Int) (a0_2 : List Nat) (a0_3 : Int) (a0_4 : List Int) {out : Int × Int × (List Nat) × Int × (List Int) × Int × Int × Int × (List Nat) × (List Int)} (hp : impl_plain_v4 k a0_0 a0_1 a0_2 a0_3 a0_4 = some out) : Go.Sx.Fn Try.prog 44 [(If 87 (Vl (.pointer (some wa0))))] [⟨.pointer (some wa0), [(Vl (.int .i64 a0_0)), (Vl (.int .i64 a0_1)), (Sl Kf a0_2), (Vl (.int .i64 a0_3)), (Sl (Ki .i64) a0_4)], 155, none⟩] (fun w : Unit => (Ag [(Vl (.int .i64 out.2.2.2.2.2.1)), (Vl (.int .i64 out.2.2.2.2.2.2.1)), (Vl (.int .i64 out.2.2.2.2.2.2.2.1)), (Sl Kf out.2.2.2.2.2.2.2.2.1), (Sl (Ki .i64) out.2.2.2.2.2.2.2.2.2), (Vl (.slice none 0 0)), (Vl (.slice none 0 0))])) (fun w => [⟨.pointer (some wa0), [(Vl (.int .i64 out.1)), (Vl (.int .i64 out.2.1)), (Sl Kf out.2.2.1), (Vl (.int .i64 out.2.2.2.1)), (Sl (Ki .i64) out.2.2.2.2.1)], 155, none⟩]) := by
  unfold impl_plain_v4 at hp
  refine fn_of Try.func44 rfl Try.ntmps44 rfl fun E hM => ?_
  refine cx_seq' fun K1 hK1 => ?_
  refine cx_region' ?_
  refine sx_ox' (ox_alloc' info27 rfl rfl rfl rfl (l := [(Vl (.int .i64 0)), (Vl (.int .i64 0)), (Vl (.int .i64 0)), (Vl (.slice none 0 0)), (Vl (.slice none 0 0)), (Vl (.slice none 0 0)), (Vl (.slice none 0 0))]) rfl) (wt_none' rfl) fun q2 => ?_
  refine sx_nil' ?_
  show TX E K1 _
  refine tx_k' hK1 ?_
  refine cx_seq' fun K2 hK2 => ?_
  refine cx_region' ?_
  refine sx_rd' (rd_move' rfl) rfl rfl (wt_none' rfl) ?_
  obtain ⟨r15, hr15, hp⟩ := bind_some hp
  refine sx_ox' (ox_callg' (ent_inv' rfl rfl (inv_ptr0 (inv87_SRID _))) (gogeom_geom0_SRID_v4_sim _ _ _ _ _ hr15 : Go.Sx.Fn Try.prog 151 [(Vl (.pointer (some wa0)))] [⟨.pointer (some wa0), [(Vl (.int .i64 a0_0)), (Vl (.int .i64 a0_1)), (Sl Kf a0_2), (Vl (.int .i64 a0_3)), (Sl (Ki .i64) a0_4)], 155, none⟩] (fun x : Unit => (Vl (.int .i64 r15.2.2.2.1))) (fun x => [⟨.pointer (some wa0), [(Vl (.int .i64 r15.1)), (Vl (.int .i64 r15.2.1)), (Sl Kf r15.2.2.1), (Vl (.int .i64 r15.2.2.2.1)), (Sl (Ki .i64) r15.2.2.2.2)], 155, none⟩])) [1] [0] (by decide) (pick_cons rfl pick_nil) (pick_cons rfl pick_nil) (Hn := fun x : Unit => [⟨.pointer (some wa0), [(Vl (.int .i64 r15.1)), (Vl (.int .i64 r15.2.1)), (Sl Kf r15.2.2.1), (Vl (.int .i64 r15.2.2.2.1)), (Sl (Ki .i64) r15.2.2.2.2)], 155, none⟩, ⟨.pointer (some q2), [(Vl (.int .i64 0)), (Vl (.int .i64 0)), (Vl (.int .i64 0)), (Vl (.slice none 0 0)), (Vl (.slice none 0 0)), (Vl (.slice none 0 0)), (Vl (.slice none 0 0))], 27, none⟩]) (fun _ => rfl) rfl rfl) (wt_none' rfl) fun ⟨⟩ => ?_
  refine sx_rd' (rd_build' (pls := [(0, 1), (1, 1), (2, 1), (3, 1), (4, 1), (5, 1), (6, 1)]) (qs := [(2, [(Vl (.int .i64 r15.2.2.2.1))])]) (r := [(Vl (.int .i64 0)), (Vl (.int .i64 0)), (Vl (.int .i64 r15.2.2.2.1)), (Vl (.slice none 0 0)), (Vl (.slice none 0 0)), (Vl (.slice none 0 0)), (Vl (.slice none 0 0))]) ⟨rfl, ⟨_, rfl, (lv_vl rfl rfl)⟩, trivial⟩ Try.underlying27 has27 places27 info27 rfl rfl rfl) rfl rfl (wt_none' rfl) ?_
  refine sx_ox' (ox_alloc' info27 rfl rfl rfl rfl (l := [(Vl (.int .i64 0)), (Vl (.int .i64 0)), (Vl (.int .i64 0)), (Vl (.slice none 0 0)), (Vl (.slice none 0 0)), (Vl (.slice none 0 0)), (Vl (.slice none 0 0))]) rfl) (wt_none' rfl) fun q3 => ?_
  refine sx_ox' (ox_store' (i := 0) (o := 0) rfl rfl (lv_ag _) ⟨rfl, rfl, rfl, rfl⟩ rfl info27 rfl (H' := [⟨.pointer (some q3), [(Vl (.int .i64 0)), (Vl (.int .i64 0)), (Vl (.int .i64 r15.2.2.2.1)), (Vl (.slice none 0 0)), (Vl (.slice none 0 0)), (Vl (.slice none 0 0)), (Vl (.slice none 0 0))], 27, none⟩, ⟨.pointer (some wa0), [(Vl (.int .i64 r15.1)), (Vl (.int .i64 r15.2.1)), (Sl Kf r15.2.2.1), (Vl (.int .i64 r15.2.2.2.1)), (Sl (Ki .i64) r15.2.2.2.2)], 155, none⟩, ⟨.pointer (some q2), [(Vl (.int .i64 0)), (Vl (.int .i64 0)), (Vl (.int .i64 0)), (Vl (.slice none 0 0)), (Vl (.slice none 0 0)), (Vl (.slice none 0 0)), (Vl (.slice none 0 0))], 27, none⟩]) rfl) (wt_none' rfl) fun _ => ?_
  refine sx_nil' ?_
  show TX E K2 _
  refine tx_k' hK2 ?_
  refine cx_seq' fun K3 hK3 => ?_
  refine cx_seq' fun K4 hK4 => ?_
  refine cx_region' ?_
  refine sx_rd' (rd_move' rfl) rfl rfl (wt_none' rfl) ?_
  refine sx_nil' ?_
  show TX E K4 _
  refine tx_k' hK4 ?_
  refine cx_block' ?_
  refine cx_seq' fun K5 hK5 => ?_
  refine cx_region' ?_
  refine sx_rd' (rd_assert' rfl (F := fun _ => .tuple #[.pointer none, .bool false]) as87_75_60 as_no) rfl rfl (wt_none' rfl) ?_
  refine sx_rd' (rd_extract' rfl rfl) rfl rfl (wt_none' rfl) ?_
  refine sx_rd' (rd_extract' rfl rfl) rfl rfl (wt_none' rfl) ?_
  refine sx_nil' ?_
  show TX E K5 _
  refine tx_k' hK5 ?_
  refine cx_cond_f' rfl rfl ?_
  refine cx_seq' fun K6 hK6 => ?_
  refine cx_region' ?_
  refine sx_rd' (rd_assert' rfl (F := fun _ => .tuple #[.pointer none, .bool false]) as87_75_94 as_no) rfl rfl (wt_none' rfl) ?_
  refine sx_rd' (rd_extract' rfl rfl) rfl rfl (wt_none' rfl) ?_
  refine sx_rd' (rd_extract' rfl rfl) rfl rfl (wt_none' rfl) ?_
  refine sx_nil' ?_
  show TX E K6 _
  refine tx_k' hK6 ?_
  refine cx_cond_f' rfl rfl ?_
  refine cx_seq' fun K7 hK7 => ?_
  refine cx_region' ?_
  refine sx_rd' (rd_assert' rfl (F := fun _ => .tuple #[.pointer none, .bool false]) as87_75_89 as_no) rfl rfl (wt_none' rfl) ?_
  refine sx_rd' (rd_extract' rfl rfl) rfl rfl (wt_none' rfl) ?_
  refine sx_rd' (rd_extract' rfl rfl) rfl rfl (wt_none' rfl) ?_
  refine sx_nil' ?_
  show TX E K7 _
  refine tx_k' hK7 ?_
  refine cx_cond_f' rfl rfl ?_
  refine cx_seq' fun K8 hK8 => ?_
  refine cx_region' ?_
  refine sx_rd' (rd_assert' rfl (F := fun v => .tuple #[v, .bool true]) as87_75_87k as_ok) rfl rfl (wt_none' rfl) ?_
  refine sx_rd' (rd_extract' rfl rfl) rfl rfl (wt_none' rfl) ?_
  refine sx_rd' (rd_extract' rfl rfl) rfl rfl (wt_none' rfl) ?_
  refine sx_nil' ?_
  show TX E K8 _
  refine tx_k' hK8 ?_
  refine cx_cond_t' rfl rfl ?_
  refine cx_seq' fun K9 hK9 => ?_
  refine cx_region' ?_
  refine sx_rd' (rd_assign' rfl) rfl rfl (wt_none' rfl) ?_
  refine sx_nil' ?_
  show TX E K9 _
  refine tx_k' hK9 ?_
  refine cx_region' ?_
  refine sx_rd' (rd_field0' rfl Try.underlying27 rfl info3 rfl) rfl rfl (wt_none' rfl) ?_
  refine sx_ox' (ox_store' (i := 0) (o := 0) rfl rfl (lv_vl rfl rfl) ⟨rfl, rfl, rfl, rfl⟩ rfl info3 rfl (H' := [⟨.pointer (some q3), [(Vl (.int .i64 3)), (Vl (.int .i64 0)), (Vl (.int .i64 r15.2.2.2.1)), (Vl (.slice none 0 0)), (Vl (.slice none 0 0)), (Vl (.slice none 0 0)), (Vl (.slice none 0 0))], 27, none⟩, ⟨.pointer (some wa0), [(Vl (.int .i64 r15.1)), (Vl (.int .i64 r15.2.1)), (Sl Kf r15.2.2.1), (Vl (.int .i64 r15.2.2.2.1)), (Sl (Ki .i64) r15.2.2.2.2)], 155, none⟩, ⟨.pointer (some q2), [(Vl (.int .i64 0)), (Vl (.int .i64 0)), (Vl (.int .i64 0)), (Vl (.slice none 0 0)), (Vl (.slice none 0 0)), (Vl (.slice none 0 0)), (Vl (.slice none 0 0))], 27, none⟩]) rfl) (wt_none' rfl) fun _ => ?_
  refine sx_nil' ?_
  show TX E K3 _
  refine tx_k' hK3 ?_
  refine cx_seq' fun K10 hK10 => ?_
  refine cx_region' ?_
  refine sx_rd' (rd_move' rfl) rfl rfl (wt_none' rfl) ?_
  obtain ⟨r70, hr70, hp⟩ := bind_some hp
  refine sx_ox' (ox_callg' (ent_inv' rfl rfl (inv_ptr0 (inv87_Layout _))) (gogeom_geom0_Layout_v4_sim _ _ _ _ _ hr70 : Go.Sx.Fn Try.prog 148 [(Vl (.pointer (some wa0)))] [⟨.pointer (some wa0), [(Vl (.int .i64 r15.1)), (Vl (.int .i64 r15.2.1)), (Sl Kf r15.2.2.1), (Vl (.int .i64 r15.2.2.2.1)), (Sl (Ki .i64) r15.2.2.2.2)], 155, none⟩] (fun x : Unit => (Vl (.int .i64 r70.1))) (fun x => [⟨.pointer (some wa0), [(Vl (.int .i64 r70.1)), (Vl (.int .i64 r70.2.1)), (Sl Kf r70.2.2.1), (Vl (.int .i64 r70.2.2.2.1)), (Sl (Ki .i64) r70.2.2.2.2)], 155, none⟩])) [1] [0, 2] (by decide) (pick_cons rfl pick_nil) (pick_cons rfl (pick_cons rfl pick_nil)) (Hn := fun x : Unit => [⟨.pointer (some wa0), [(Vl (.int .i64 r70.1)), (Vl (.int .i64 r70.2.1)), (Sl Kf r70.2.2.1), (Vl (.int .i64 r70.2.2.2.1)), (Sl (Ki .i64) r70.2.2.2.2)], 155, none⟩, ⟨.pointer (some q3), [(Vl (.int .i64 3)), (Vl (.int .i64 0)), (Vl (.int .i64 r15.2.2.2.1)), (Vl (.slice none 0 0)), (Vl (.slice none 0 0)), (Vl (.slice none 0 0)), (Vl (.slice none 0 0))], 27, none⟩, ⟨.pointer (some q2), [(Vl (.int .i64 0)), (Vl (.int .i64 0)), (Vl (.int .i64 0)), (Vl (.slice none 0 0)), (Vl (.slice none 0 0)), (Vl (.slice none 0 0)), (Vl (.slice none 0 0))], 27, none⟩]) (fun _ => rfl) rfl rfl) (wt_none' rfl) fun ⟨⟩ => ?_
  refine sx_rd' (rd_move' rfl) rfl rfl (wt_none' rfl) ?_
  obtain ⟨r72, hr72, hp⟩ := bind_some hp
  refine sx_ox' (ox_callg' (ent_inv' rfl rfl (inv_ptr0 (inv87_FlatCoords _))) (gogeom_geom0_FlatCoords_v4_sim _ _ _ _ _ hr72 : Go.Sx.Fn Try.prog 147 [(Vl (.pointer (some wa0)))] [⟨.pointer (some wa0), [(Vl (.int .i64 r70.1)), (Vl (.int .i64 r70.2.1)), (Sl Kf r70.2.2.1), (Vl (.int .i64 r70.2.2.2.1)), (Sl (Ki .i64) r70.2.2.2.2)], 155, none⟩] (fun x : Unit => (Sl Kf r72.2.2.1)) (fun x => [⟨.pointer (some wa0), [(Vl (.int .i64 r72.1)), (Vl (.int .i64 r72.2.1)), (Sl Kf r72.2.2.1), (Vl (.int .i64 r72.2.2.2.1)), (Sl (Ki .i64) r72.2.2.2.2)], 155, none⟩])) [0] [1, 2] (by decide) (pick_cons rfl pick_nil) (pick_cons rfl (pick_cons rfl pick_nil)) (Hn := fun x : Unit => [⟨.pointer (some wa0), [(Vl (.int .i64 r72.1)), (Vl (.int .i64 r72.2.1)), (Sl Kf r72.2.2.1), (Vl (.int .i64 r72.2.2.2.1)), (Sl (Ki .i64) r72.2.2.2.2)], 155, none⟩, ⟨.pointer (some q3), [(Vl (.int .i64 3)), (Vl (.int .i64 0)), (Vl (.int .i64 r15.2.2.2.1)), (Vl (.slice none 0 0)), (Vl (.slice none 0 0)), (Vl (.slice none 0 0)), (Vl (.slice none 0 0))], 27, none⟩, ⟨.pointer (some q2), [(Vl (.int .i64 0)), (Vl (.int .i64 0)), (Vl (.int .i64 0)), (Vl (.slice none 0 0)), (Vl (.slice none 0 0)), (Vl (.slice none 0 0)), (Vl (.slice none 0 0))], 27, none⟩]) (fun _ => rfl) rfl rfl) (wt_none' rfl) fun ⟨⟩ => ?_
  obtain ⟨r73, hr73, hp⟩ := bind_some hp
  refine sx_ox' (ox_calln' (ent_fn' Try.func43 isn43 rfl rfl) (impl_floats_sim _ hr73 : Go.Sx.Fn Try.prog 43 [(Sl Kf r72.2.2.1)] [] (fun x : Unit => (Sl Kf r73)) (fun x => [])) (Hn := fun x : Unit => [⟨.pointer (some wa0), [(Vl (.int .i64 r72.1)), (Vl (.int .i64 r72.2.1)), (Sl Kf r72.2.2.1), (Vl (.int .i64 r72.2.2.2.1)), (Sl (Ki .i64) r72.2.2.2.2)], 155, none⟩, ⟨.pointer (some q3), [(Vl (.int .i64 3)), (Vl (.int .i64 0)), (Vl (.int .i64 r15.2.2.2.1)), (Vl (.slice none 0 0)), (Vl (.slice none 0 0)), (Vl (.slice none 0 0)), (Vl (.slice none 0 0))], 27, none⟩, ⟨.pointer (some q2), [(Vl (.int .i64 0)), (Vl (.int .i64 0)), (Vl (.int .i64 0)), (Vl (.slice none 0 0)), (Vl (.slice none 0 0)), (Vl (.slice none 0 0)), (Vl (.slice none 0 0))], 27, none⟩]) (fun _ => rfl) rfl rfl) (wt_none' rfl) fun ⟨⟩ => ?_
  refine sx_rd' (rd_move' rfl) rfl rfl (wt_none' rfl) ?_
  obtain ⟨r75, hr75, hp⟩ := bind_some hp
  refine sx_ox' (ox_callg' (ent_inv' rfl rfl (inv_ptr0 (inv87_Ends _))) (gogeom_geom2_Ends_sim _ _ _ _ _ hr75 : Go.Sx.Fn Try.prog 165 [(Vl (.pointer (some wa0)))] [⟨.pointer (some wa0), [(Vl (.int .i64 r72.1)), (Vl (.int .i64 r72.2.1)), (Sl Kf r72.2.2.1), (Vl (.int .i64 r72.2.2.2.1)), (Sl (Ki .i64) r72.2.2.2.2)], 155, none⟩] (fun x : Unit => (Sl (Ki .i64) r75.2.2.2.2)) (fun x => [⟨.pointer (some wa0), [(Vl (.int .i64 r75.1)), (Vl (.int .i64 r75.2.1)), (Sl Kf r75.2.2.1), (Vl (.int .i64 r75.2.2.2.1)), (Sl (Ki .i64) r75.2.2.2.2)], 155, none⟩])) [0] [1, 2] (by decide) (pick_cons rfl pick_nil) (pick_cons rfl (pick_cons rfl pick_nil)) (Hn := fun x : Unit => [⟨.pointer (some wa0), [(Vl (.int .i64 r75.1)), (Vl (.int .i64 r75.2.1)), (Sl Kf r75.2.2.1), (Vl (.int .i64 r75.2.2.2.1)), (Sl (Ki .i64) r75.2.2.2.2)], 155, none⟩, ⟨.pointer (some q3), [(Vl (.int .i64 3)), (Vl (.int .i64 0)), (Vl (.int .i64 r15.2.2.2.1)), (Vl (.slice none 0 0)), (Vl (.slice none 0 0)), (Vl (.slice none 0 0)), (Vl (.slice none 0 0))], 27, none⟩, ⟨.pointer (some q2), [(Vl (.int .i64 0)), (Vl (.int .i64 0)), (Vl (.int .i64 0)), (Vl (.slice none 0 0)), (Vl (.slice none 0 0)), (Vl (.slice none 0 0)), (Vl (.slice none 0 0))], 27, none⟩]) (fun _ => rfl) rfl rfl) (wt_none' rfl) fun ⟨⟩ => ?_
  obtain ⟨r76, hr76, hp⟩ := bind_some hp
  rcases r76 with y1 | y1
  · dsimp only at hp
    refine sx_ox' (ox_calln' (ent_fn' Try.func84 isn84 rfl rfl) (impl_ints_sim _ hr76 : Go.Sx.Fn Try.prog 84 [(Sl (Ki .i64) r75.2.2.2.2)] [] (fun x : Unit => (Vl (.slice none 0 0))) (fun x => [])) (Hn := fun x : Unit => [⟨.pointer (some wa0), [(Vl (.int .i64 r75.1)), (Vl (.int .i64 r75.2.1)), (Sl Kf r75.2.2.1), (Vl (.int .i64 r75.2.2.2.1)), (Sl (Ki .i64) r75.2.2.2.2)], 155, none⟩, ⟨.pointer (some q3), [(Vl (.int .i64 3)), (Vl (.int .i64 0)), (Vl (.int .i64 r15.2.2.2.1)), (Vl (.slice none 0 0)), (Vl (.slice none 0 0)), (Vl (.slice none 0 0)), (Vl (.slice none 0 0))], 27, none⟩, ⟨.pointer (some q2), [(Vl (.int .i64 0)), (Vl (.int .i64 0)), (Vl (.int .i64 0)), (Vl (.slice none 0 0)), (Vl (.slice none 0 0)), (Vl (.slice none 0 0)), (Vl (.slice none 0 0))], 27, none⟩]) (fun _ => rfl) rfl rfl) (wt_none' rfl) fun ⟨⟩ => ?_
    refine sx_rd' (rd_move' rfl) rfl rfl (wt_none' rfl) ?_
    obtain ⟨r78, hr78, hp⟩ := bind_some hp
    refine sx_ox' (ox_callg' (ent_inv' rfl rfl (inv_ptr0 (inv87_Endss _))) (gogeom_geom0_Endss_v4_sim _ _ _ _ _ hr78 : Go.Sx.Fn Try.prog 146 [(Vl (.pointer (some wa0)))] [⟨.pointer (some wa0), [(Vl (.int .i64 r75.1)), (Vl (.int .i64 r75.2.1)), (Sl Kf r75.2.2.1), (Vl (.int .i64 r75.2.2.2.1)), (Sl (Ki .i64) r75.2.2.2.2)], 155, none⟩] (fun x : Unit => (Vl (.slice none 0 0))) (fun x => [⟨.pointer (some wa0), [(Vl (.int .i64 r78.1)), (Vl (.int .i64 r78.2.1)), (Sl Kf r78.2.2.1), (Vl (.int .i64 r78.2.2.2.1)), (Sl (Ki .i64) r78.2.2.2.2)], 155, none⟩])) [0] [1, 2] (by decide) (pick_cons rfl pick_nil) (pick_cons rfl (pick_cons rfl pick_nil)) (Hn := fun x : Unit => [⟨.pointer (some wa0), [(Vl (.int .i64 r78.1)), (Vl (.int .i64 r78.2.1)), (Sl Kf r78.2.2.1), (Vl (.int .i64 r78.2.2.2.1)), (Sl (Ki .i64) r78.2.2.2.2)], 155, none⟩, ⟨.pointer (some q3), [(Vl (.int .i64 3)), (Vl (.int .i64 0)), (Vl (.int .i64 r15.2.2.2.1)), (Vl (.slice none 0 0)), (Vl (.slice none 0 0)), (Vl (.slice none 0 0)), (Vl (.slice none 0 0))], 27, none⟩, ⟨.pointer (some q2), [(Vl (.int .i64 0)), (Vl (.int .i64 0)), (Vl (.int .i64 0)), (Vl (.slice none 0 0)), (Vl (.slice none 0 0)), (Vl (.slice none 0 0)), (Vl (.slice none 0 0))], 27, none⟩]) (fun _ => rfl) rfl rfl) (wt_none' rfl) fun ⟨⟩ => ?_
    obtain ⟨r79, hr79, hp⟩ := bind_some hp
    refine sx_ox' (ox_calln' (ent_fn' Try.func51 isn51 rfl rfl) (impl_intss_v2_sim hr79 : Go.Sx.Fn Try.prog 51 [(Vl (.slice none 0 0))] [] (fun x : Unit => (Vl (.slice none 0 0))) (fun x => [])) (Hn := fun x : Unit => [⟨.pointer (some wa0), [(Vl (.int .i64 r78.1)), (Vl (.int .i64 r78.2.1)), (Sl Kf r78.2.2.1), (Vl (.int .i64 r78.2.2.2.1)), (Sl (Ki .i64) r78.2.2.2.2)], 155, none⟩, ⟨.pointer (some q3), [(Vl (.int .i64 3)), (Vl (.int .i64 0)), (Vl (.int .i64 r15.2.2.2.1)), (Vl (.slice none 0 0)), (Vl (.slice none 0 0)), (Vl (.slice none 0 0)), (Vl (.slice none 0 0))], 27, none⟩, ⟨.pointer (some q2), [(Vl (.int .i64 0)), (Vl (.int .i64 0)), (Vl (.int .i64 0)), (Vl (.slice none 0 0)), (Vl (.slice none 0 0)), (Vl (.slice none 0 0)), (Vl (.slice none 0 0))], 27, none⟩]) (fun _ => rfl) rfl rfl) (wt_none' rfl) fun ⟨⟩ => ?_
    refine sx_rd' (rd_field' (off := 1) rfl Try.underlying27 rfl info3 rfl) rfl rfl (wt_none' rfl) ?_
    refine sx_ox' (ox_store' (i := 1) (o := 1) rfl rfl (lv_vl rfl rfl) ⟨rfl, rfl, rfl, rfl⟩ rfl info3 rfl (H' := [⟨.pointer (some wa0), [(Vl (.int .i64 r78.1)), (Vl (.int .i64 r78.2.1)), (Sl Kf r78.2.2.1), (Vl (.int .i64 r78.2.2.2.1)), (Sl (Ki .i64) r78.2.2.2.2)], 155, none⟩, ⟨.pointer (some q3), [(Vl (.int .i64 3)), (Vl (.int .i64 r70.1)), (Vl (.int .i64 r15.2.2.2.1)), (Vl (.slice none 0 0)), (Vl (.slice none 0 0)), (Vl (.slice none 0 0)), (Vl (.slice none 0 0))], 27, none⟩, ⟨.pointer (some q2), [(Vl (.int .i64 0)), (Vl (.int .i64 0)), (Vl (.int .i64 0)), (Vl (.slice none 0 0)), (Vl (.slice none 0 0)), (Vl (.slice none 0 0)), (Vl (.slice none 0 0))], 27, none⟩]) rfl) (wt_none' rfl) fun _ => ?_
    refine sx_rd' (rd_field' (off := 3) rfl Try.underlying27 rfl info22 rfl) rfl rfl (wt_none' rfl) ?_
    refine sx_ox' (ox_store' (i := 1) (o := 3) rfl rfl (lv_sl _ _) ⟨rfl, rfl, rfl, rfl⟩ rfl info22 rfl (H' := [⟨.pointer (some wa0), [(Vl (.int .i64 r78.1)), (Vl (.int .i64 r78.2.1)), (Sl Kf r78.2.2.1), (Vl (.int .i64 r78.2.2.2.1)), (Sl (Ki .i64) r78.2.2.2.2)], 155, none⟩, ⟨.pointer (some q3), [(Vl (.int .i64 3)), (Vl (.int .i64 r70.1)), (Vl (.int .i64 r15.2.2.2.1)), (Sl Kf r73), (Vl (.slice none 0 0)), (Vl (.slice none 0 0)), (Vl (.slice none 0 0))], 27, none⟩, ⟨.pointer (some q2), [(Vl (.int .i64 0)), (Vl (.int .i64 0)), (Vl (.int .i64 0)), (Vl (.slice none 0 0)), (Vl (.slice none 0 0)), (Vl (.slice none 0 0)), (Vl (.slice none 0 0))], 27, none⟩]) rfl) (wt_none' rfl) fun _ => ?_
    refine sx_rd' (rd_field' (off := 4) rfl Try.underlying27 rfl info23 rfl) rfl rfl (wt_none' rfl) ?_
    refine sx_ox' (ox_store' (i := 1) (o := 4) rfl rfl (lv_vl rfl rfl) ⟨rfl, rfl, rfl, rfl⟩ rfl info23 rfl (H' := [⟨.pointer (some wa0), [(Vl (.int .i64 r78.1)), (Vl (.int .i64 r78.2.1)), (Sl Kf r78.2.2.1), (Vl (.int .i64 r78.2.2.2.1)), (Sl (Ki .i64) r78.2.2.2.2)], 155, none⟩, ⟨.pointer (some q3), [(Vl (.int .i64 3)), (Vl (.int .i64 r70.1)), (Vl (.int .i64 r15.2.2.2.1)), (Sl Kf r73), (Vl (.slice none 0 0)), (Vl (.slice none 0 0)), (Vl (.slice none 0 0))], 27, none⟩, ⟨.pointer (some q2), [(Vl (.int .i64 0)), (Vl (.int .i64 0)), (Vl (.int .i64 0)), (Vl (.slice none 0 0)), (Vl (.slice none 0 0)), (Vl (.slice none 0 0)), (Vl (.slice none 0 0))], 27, none⟩]) rfl) (wt_none' rfl) fun _ => ?_
    refine sx_rd' (rd_field' (off := 5) rfl Try.underlying27 rfl info24 rfl) rfl rfl (wt_none' rfl) ?_
    refine sx_ox' (ox_store' (i := 1) (o := 5) rfl rfl (lv_vl rfl rfl) ⟨rfl, rfl, rfl, rfl⟩ rfl info24 rfl (H' := [⟨.pointer (some wa0), [(Vl (.int .i64 r78.1)), (Vl (.int .i64 r78.2.1)), (Sl Kf r78.2.2.1), (Vl (.int .i64 r78.2.2.2.1)), (Sl (Ki .i64) r78.2.2.2.2)], 155, none⟩, ⟨.pointer (some q3), [(Vl (.int .i64 3)), (Vl (.int .i64 r70.1)), (Vl (.int .i64 r15.2.2.2.1)), (Sl Kf r73), (Vl (.slice none 0 0)), (Vl (.slice none 0 0)), (Vl (.slice none 0 0))], 27, none⟩, ⟨.pointer (some q2), [(Vl (.int .i64 0)), (Vl (.int .i64 0)), (Vl (.int .i64 0)), (Vl (.slice none 0 0)), (Vl (.slice none 0 0)), (Vl (.slice none 0 0)), (Vl (.slice none 0 0))], 27, none⟩]) rfl) (wt_none' rfl) fun _ => ?_
    refine sx_nil' ?_
    show TX E K10 _
    refine tx_k' hK10 ?_
    refine cx_seq' fun K11 hK11 => ?_
    refine cx_region' ?_
    refine sx_rd' (rd_load_agg' (i := 1) (o := 0) (nn := 7) rfl ⟨rfl, rfl, rfl, rfl⟩ rfl agg27 (l' := [(Vl (.int .i64 3)), (Vl (.int .i64 r70.1)), (Vl (.int .i64 r15.2.2.2.1)), (Sl Kf r73), (Vl (.slice none 0 0)), (Vl (.slice none 0 0)), (Vl (.slice none 0 0))]) rfl) rfl rfl (wt_none' rfl) ?_
    refine sx_ox' (ox_store' (i := 2) (o := 0) rfl rfl (lv_ag _) ⟨rfl, rfl, rfl, rfl⟩ rfl info27 rfl (H' := [⟨.pointer (some wa0), [(Vl (.int .i64 r78.1)), (Vl (.int .i64 r78.2.1)), (Sl Kf r78.2.2.1), (Vl (.int .i64 r78.2.2.2.1)), (Sl (Ki .i64) r78.2.2.2.2)], 155, none⟩, ⟨.pointer (some q3), [(Vl (.int .i64 3)), (Vl (.int .i64 r70.1)), (Vl (.int .i64 r15.2.2.2.1)), (Sl Kf r73), (Vl (.slice none 0 0)), (Vl (.slice none 0 0)), (Vl (.slice none 0 0))], 27, none⟩, ⟨.pointer (some q2), [(Vl (.int .i64 3)), (Vl (.int .i64 r70.1)), (Vl (.int .i64 r15.2.2.2.1)), (Sl Kf r73), (Vl (.slice none 0 0)), (Vl (.slice none 0 0)), (Vl (.slice none 0 0))], 27, none⟩]) rfl) (wt_none' rfl) fun _ => ?_
    refine sx_nil' ?_
    show TX E K11 _
    refine tx_k' hK11 ?_
    refine cx_retc' ?_
    replace hp := Option.some.inj hp
    subst hp
    refine tx_pick' (L' := [(2, (Vl (.pointer (some q2))))]) (H' := [⟨.pointer (some wa0), [(Vl (.int .i64 r78.1)), (Vl (.int .i64 r78.2.1)), (Sl Kf r78.2.2.1), (Vl (.int .i64 r78.2.2.2.1)), (Sl (Ki .i64) r78.2.2.2.2)], 155, none⟩, ⟨.pointer (some q2), [(Vl (.int .i64 3)), (Vl (.int .i64 r70.1)), (Vl (.int .i64 r15.2.2.2.1)), (Sl Kf r73), (Vl (.slice none 0 0)), (Vl (.slice none 0 0)), (Vl (.slice none 0 0))], 27, none⟩]) [0, 2] (sub_cons rfl sub_nil) (by decide) (pick_cons rfl (pick_cons rfl pick_nil)) ?_
    exact tx_ret1' Try.results44 rfl () (rv_imp' (x := (Ag [(Vl (.int .i64 3)), (Vl (.int .i64 r70.1)), (Vl (.int .i64 r15.2.2.2.1)), (Sl Kf r73), (Vl (.slice none 0 0)), (Vl (.slice none 0 0)), (Vl (.slice none 0 0))])) (y := (Ag [(Vl (.int .i64 3)), (Vl (.int .i64 r70.1)), (Vl (.int .i64 r15.2.2.2.1)), (Sl Kf r73), (Sl (Ki .i64) []), (Vl (.slice none 0 0)), (Vl (.slice none 0 0))])) (rv_cell_agg' (i := 1) (o := 0) (nn := 7) rfl ⟨rfl, rfl, rfl, rfl⟩ rfl agg27 rfl) (imp_ag ⟨imp_refl, imp_refl, imp_refl, imp_refl, imp_nil, imp_refl, imp_refl, trivial⟩)) (List.Sublist.cons_cons _ (List.nil_sublist _))
  · dsimp only at hp
    refine sx_ox' (ox_calln' (ent_fn' Try.func84 isn84 rfl rfl) (impl_ints_sim _ hr76 : Go.Sx.Fn Try.prog 84 [(Sl (Ki .i64) r75.2.2.2.2)] [] (fun x : Unit => (Sl (Ki .i64) y1)) (fun x => [])) (Hn := fun x : Unit => [⟨.pointer (some wa0), [(Vl (.int .i64 r75.1)), (Vl (.int .i64 r75.2.1)), (Sl Kf r75.2.2.1), (Vl (.int .i64 r75.2.2.2.1)), (Sl (Ki .i64) r75.2.2.2.2)], 155, none⟩, ⟨.pointer (some q3), [(Vl (.int .i64 3)), (Vl (.int .i64 0)), (Vl (.int .i64 r15.2.2.2.1)), (Vl (.slice none 0 0)), (Vl (.slice none 0 0)), (Vl (.slice none 0 0)), (Vl (.slice none 0 0))], 27, none⟩, ⟨.pointer (some q2), [(Vl (.int .i64 0)), (Vl (.int .i64 0)), (Vl (.int .i64 0)), (Vl (.slice none 0 0)), (Vl (.slice none 0 0)), (Vl (.slice none 0 0)), (Vl (.slice none 0 0))], 27, none⟩]) (fun _ => rfl) rfl rfl) (wt_none' rfl) fun ⟨⟩ => ?_
    refine sx_rd' (rd_move' rfl) rfl rfl (wt_none' rfl) ?_
    obtain ⟨r78, hr78, hp⟩ := bind_some hp
    refine sx_ox' (ox_callg' (ent_inv' rfl rfl (inv_ptr0 (inv87_Endss _))) (gogeom_geom0_Endss_v4_sim _ _ _ _ _ hr78 : Go.Sx.Fn Try.prog 146 [(Vl (.pointer (some wa0)))] [⟨.pointer (some wa0), [(Vl (.int .i64 r75.1)), (Vl (.int .i64 r75.2.1)), (Sl Kf r75.2.2.1), (Vl (.int .i64 r75.2.2.2.1)), (Sl (Ki .i64) r75.2.2.2.2)], 155, none⟩] (fun x : Unit => (Vl (.slice none 0 0))) (fun x => [⟨.pointer (some wa0), [(Vl (.int .i64 r78.1)), (Vl (.int .i64 r78.2.1)), (Sl Kf r78.2.2.1), (Vl (.int .i64 r78.2.2.2.1)), (Sl (Ki .i64) r78.2.2.2.2)], 155, none⟩])) [0] [1, 2] (by decide) (pick_cons rfl pick_nil) (pick_cons rfl (pick_cons rfl pick_nil)) (Hn := fun x : Unit => [⟨.pointer (some wa0), [(Vl (.int .i64 r78.1)), (Vl (.int .i64 r78.2.1)), (Sl Kf r78.2.2.1), (Vl (.int .i64 r78.2.2.2.1)), (Sl (Ki .i64) r78.2.2.2.2)], 155, none⟩, ⟨.pointer (some q3), [(Vl (.int .i64 3)), (Vl (.int .i64 0)), (Vl (.int .i64 r15.2.2.2.1)), (Vl (.slice none 0 0)), (Vl (.slice none 0 0)), (Vl (.slice none 0 0)), (Vl (.slice none 0 0))], 27, none⟩, ⟨.pointer (some q2), [(Vl (.int .i64 0)), (Vl (.int .i64 0)), (Vl (.int .i64 0)), (Vl (.slice none 0 0)), (Vl (.slice none 0 0)), (Vl (.slice none 0 0)), (Vl (.slice none 0 0))], 27, none⟩]) (fun _ => rfl) rfl rfl) (wt_none' rfl) fun ⟨⟩ => ?_
    obtain ⟨r79, hr79, hp⟩ := bind_some hp
    refine sx_ox' (ox_calln' (ent_fn' Try.func51 isn51 rfl rfl) (impl_intss_v2_sim hr79 : Go.Sx.Fn Try.prog 51 [(Vl (.slice none 0 0))] [] (fun x : Unit => (Vl (.slice none 0 0))) (fun x => [])) (Hn := fun x : Unit => [⟨.pointer (some wa0), [(Vl (.int .i64 r78.1)), (Vl (.int .i64 r78.2.1)), (Sl Kf r78.2.2.1), (Vl (.int .i64 r78.2.2.2.1)), (Sl (Ki .i64) r78.2.2.2.2)], 155, none⟩, ⟨.pointer (some q3), [(Vl (.int .i64 3)), (Vl (.int .i64 0)), (Vl (.int .i64 r15.2.2.2.1)), (Vl (.slice none 0 0)), (Vl (.slice none 0 0)), (Vl (.slice none 0 0)), (Vl (.slice none 0 0))], 27, none⟩, ⟨.pointer (some q2), [(Vl (.int .i64 0)), (Vl (.int .i64 0)), (Vl (.int .i64 0)), (Vl (.slice none 0 0)), (Vl (.slice none 0 0)), (Vl (.slice none 0 0)), (Vl (.slice none 0 0))], 27, none⟩]) (fun _ => rfl) rfl rfl) (wt_none' rfl) fun ⟨⟩ => ?_
    refine sx_rd' (rd_field' (off := 1) rfl Try.underlying27 rfl info3 rfl) rfl rfl (wt_none' rfl) ?_
    refine sx_ox' (ox_store' (i := 1) (o := 1) rfl rfl (lv_vl rfl rfl) ⟨rfl, rfl, rfl, rfl⟩ rfl info3 rfl (H' := [⟨.pointer (some wa0), [(Vl (.int .i64 r78.1)), (Vl (.int .i64 r78.2.1)), (Sl Kf r78.2.2.1), (Vl (.int .i64 r78.2.2.2.1)), (Sl (Ki .i64) r78.2.2.2.2)], 155, none⟩, ⟨.pointer (some q3), [(Vl (.int .i64 3)), (Vl (.int .i64 r70.1)), (Vl (.int .i64 r15.2.2.2.1)), (Vl (.slice none 0 0)), (Vl (.slice none 0 0)), (Vl (.slice none 0 0)), (Vl (.slice none 0 0))], 27, none⟩, ⟨.pointer (some q2), [(Vl (.int .i64 0)), (Vl (.int .i64 0)), (Vl (.int .i64 0)), (Vl (.slice none 0 0)), (Vl (.slice none 0 0)), (Vl (.slice none 0 0)), (Vl (.slice none 0 0))], 27, none⟩]) rfl) (wt_none' rfl) fun _ => ?_
    refine sx_rd' (rd_field' (off := 3) rfl Try.underlying27 rfl info22 rfl) rfl rfl (wt_none' rfl) ?_
    refine sx_ox' (ox_store' (i := 1) (o := 3) rfl rfl (lv_sl _ _) ⟨rfl, rfl, rfl, rfl⟩ rfl info22 rfl (H' := [⟨.pointer (some wa0), [(Vl (.int .i64 r78.1)), (Vl (.int .i64 r78.2.1)), (Sl Kf r78.2.2.1), (Vl (.int .i64 r78.2.2.2.1)), (Sl (Ki .i64) r78.2.2.2.2)], 155, none⟩, ⟨.pointer (some q3), [(Vl (.int .i64 3)), (Vl (.int .i64 r70.1)), (Vl (.int .i64 r15.2.2.2.1)), (Sl Kf r73), (Vl (.slice none 0 0)), (Vl (.slice none 0 0)), (Vl (.slice none 0 0))], 27, none⟩, ⟨.pointer (some q2), [(Vl (.int .i64 0)), (Vl (.int .i64 0)), (Vl (.int .i64 0)), (Vl (.slice none 0 0)), (Vl (.slice none 0 0)), (Vl (.slice none 0 0)), (Vl (.slice none 0 0))], 27, none⟩]) rfl) (wt_none' rfl) fun _ => ?_
    refine sx_rd' (rd_field' (off := 4) rfl Try.underlying27 rfl info23 rfl) rfl rfl (wt_none' rfl) ?_
    refine sx_ox' (ox_store' (i := 1) (o := 4) rfl rfl (lv_sl _ _) ⟨rfl, rfl, rfl, rfl⟩ rfl info23 rfl (H' := [⟨.pointer (some wa0), [(Vl (.int .i64 r78.1)), (Vl (.int .i64 r78.2.1)), (Sl Kf r78.2.2.1), (Vl (.int .i64 r78.2.2.2.1)), (Sl (Ki .i64) r78.2.2.2.2)], 155, none⟩, ⟨.pointer (some q3), [(Vl (.int .i64 3)), (Vl (.int .i64 r70.1)), (Vl (.int .i64 r15.2.2.2.1)), (Sl Kf r73), (Sl (Ki .i64) y1), (Vl (.slice none 0 0)), (Vl (.slice none 0 0))], 27, none⟩, ⟨.pointer (some q2), [(Vl (.int .i64 0)), (Vl (.int .i64 0)), (Vl (.int .i64 0)), (Vl (.slice none 0 0)), (Vl (.slice none 0 0)), (Vl (.slice none 0 0)), (Vl (.slice none 0 0))], 27, none⟩]) rfl) (wt_none' rfl) fun _ => ?_
    refine sx_rd' (rd_field' (off := 5) rfl Try.underlying27 rfl info24 rfl) rfl rfl (wt_none' rfl) ?_
    refine sx_ox' (ox_store' (i := 1) (o := 5) rfl rfl (lv_vl rfl rfl) ⟨rfl, rfl, rfl, rfl⟩ rfl info24 rfl (H' := [⟨.pointer (some wa0), [(Vl (.int .i64 r78.1)), (Vl (.int .i64 r78.2.1)), (Sl Kf r78.2.2.1), (Vl (.int .i64 r78.2.2.2.1)), (Sl (Ki .i64) r78.2.2.2.2)], 155, none⟩, ⟨.pointer (some q3), [(Vl (.int .i64 3)), (Vl (.int .i64 r70.1)), (Vl (.int .i64 r15.2.2.2.1)), (Sl Kf r73), (Sl (Ki .i64) y1), (Vl (.slice none 0 0)), (Vl (.slice none 0 0))], 27, none⟩, ⟨.pointer (some q2), [(Vl (.int .i64 0)), (Vl (.int .i64 0)), (Vl (.int .i64 0)), (Vl (.slice none 0 0)), (Vl (.slice none 0 0)), (Vl (.slice none 0 0)), (Vl (.slice none 0 0))], 27, none⟩]) rfl) (wt_none' rfl) fun _ => ?_
    refine sx_nil' ?_
    show TX E K10 _
    refine tx_k' hK10 ?_
    refine cx_seq' fun K11 hK11 => ?_
    refine cx_region' ?_
    refine sx_rd' (rd_load_agg' (i := 1) (o := 0) (nn := 7) rfl ⟨rfl, rfl, rfl, rfl⟩ rfl agg27 (l' := [(Vl (.int .i64 3)), (Vl (.int .i64 r70.1)), (Vl (.int .i64 r15.2.2.2.1)), (Sl Kf r73), (Sl (Ki .i64) y1), (Vl (.slice none 0 0)), (Vl (.slice none 0 0))]) rfl) rfl rfl (wt_none' rfl) ?_
    refine sx_ox' (ox_store' (i := 2) (o := 0) rfl rfl (lv_ag _) ⟨rfl, rfl, rfl, rfl⟩ rfl info27 rfl (H' := [⟨.pointer (some wa0), [(Vl (.int .i64 r78.1)), (Vl (.int .i64 r78.2.1)), (Sl Kf r78.2.2.1), (Vl (.int .i64 r78.2.2.2.1)), (Sl (Ki .i64) r78.2.2.2.2)], 155, none⟩, ⟨.pointer (some q3), [(Vl (.int .i64 3)), (Vl (.int .i64 r70.1)), (Vl (.int .i64 r15.2.2.2.1)), (Sl Kf r73), (Sl (Ki .i64) y1), (Vl (.slice none 0 0)), (Vl (.slice none 0 0))], 27, none⟩, ⟨.pointer (some q2), [(Vl (.int .i64 3)), (Vl (.int .i64 r70.1)), (Vl (.int .i64 r15.2.2.2.1)), (Sl Kf r73), (Sl (Ki .i64) y1), (Vl (.slice none 0 0)), (Vl (.slice none 0 0))], 27, none⟩]) rfl) (wt_none' rfl) fun _ => ?_
    refine sx_nil' ?_
    show TX E K11 _
    refine tx_k' hK11 ?_
    refine cx_retc' ?_
    replace hp := Option.some.inj hp
    subst hp
    refine tx_pick' (L' := [(2, (Vl (.pointer (some q2))))]) (H' := [⟨.pointer (some wa0), [(Vl (.int .i64 r78.1)), (Vl (.int .i64 r78.2.1)), (Sl Kf r78.2.2.1), (Vl (.int .i64 r78.2.2.2.1)), (Sl (Ki .i64) r78.2.2.2.2)], 155, none⟩, ⟨.pointer (some q2), [(Vl (.int .i64 3)), (Vl (.int .i64 r70.1)), (Vl (.int .i64 r15.2.2.2.1)), (Sl Kf r73), (Sl (Ki .i64) y1), (Vl (.slice none 0 0)), (Vl (.slice none 0 0))], 27, none⟩]) [0, 2] (sub_cons rfl sub_nil) (by decide) (pick_cons rfl (pick_cons rfl pick_nil)) ?_
    exact tx_ret1' Try.results44 rfl () (rv_cell_agg' (i := 1) (o := 0) (nn := 7) rfl ⟨rfl, rfl, rfl, rfl⟩ rfl agg27 rfl) (List.Sublist.cons_cons _ (List.nil_sublist _))

def gogeom_SetSRID_v5 (k : Nat) (a0_0 : Int) (a0_1 : Int) (a0_2 : List Nat) (a0_3 : Int) (a0_4 : List Int) (a1 : Int) : Option (Int × Int × (List Nat) × Int × (List Int)) :=
  (gogeom_MultiPoint_SetSRID_v2 k a0_0 a0_1 a0_2 a0_3 a0_4 a1) >>= fun r54 =>
  some (r54.1, r54.2.1, r54.2.2.1, r54.2.2.2.1, r54.2.2.2.2)

theorem gogeom_SetSRID_v5_sim {k : Nat} {wa0 : Addr} (a0_0 : Int) (a0_1 : Int) (a0_2 : List Nat) (a0_3 : Int) (a0_4 : List Int) (a1 : Int) {out : Int × Int × (List Nat) × Int × (List Int)} (hp : gogeom_SetSRID_v5 k a0_0 a0_1 a0_2 a0_3 a0_4 a1 = some out) : Go.Sx.Fn Try.prog 58 [(If 90 (Vl (.pointer (some wa0)))), (Vl (.int .i64 a1))] [⟨.pointer (some wa0), [(Vl (.int .i64 a0_0)), (Vl (.int .i64 a0_1)), (Sl Kf a0_2), (Vl (.int .i64 a0_3)), (Sl (Ki .i64) a0_4)], 158, none⟩] (fun w : Unit => (Tu [(If 90 (Vl (.pointer (some wa0)))), (Vl .nilIface)])) (fun w => [⟨.pointer (some wa0), [(Vl (.int .i64 out.1)), (Vl (.int .i64 out.2.1)), (Sl Kf out.2.2.1), (Vl (.int .i64 out.2.2.2.1)), (Sl (Ki .i64) out.2.2.2.2)], 158, none⟩]) := by
  unfold gogeom_SetSRID_v5 at hp
  refine fn_of Try.func58 rfl Try.ntmps58 rfl fun E hM => ?_
  refine cx_seq' fun K1 hK1 => ?_
  refine cx_region' ?_
  refine sx_rd' (rd_assign' rfl) rfl rfl (wt_none' rfl) ?_
  refine sx_rd' (rd_assign' rfl) rfl rfl (wt_none' rfl) ?_
  refine sx_nil' ?_
  show TX E K1 _
  refine tx_k' hK1 ?_
  refine cx_seq' fun K2 hK2 => ?_
  refine cx_region' ?_
  refine sx_rd' (rd_move' rfl) rfl rfl (wt_none' rfl) ?_
  refine sx_nil' ?_
  show TX E K2 _
  refine tx_k' hK2 ?_
  refine cx_block' ?_
  refine cx_seq' fun K3 hK3 => ?_
  refine cx_region' ?_
  refine sx_rd' (rd_assert' rfl (F := fun _ => .tuple #[.pointer none, .bool false]) as90_75_60 as_no) rfl rfl (wt_none' rfl) ?_
  refine sx_rd' (rd_extract' rfl rfl) rfl rfl (wt_none' rfl) ?_
  refine sx_rd' (rd_extract' rfl rfl) rfl rfl (wt_none' rfl) ?_
  refine sx_nil' ?_
  show TX E K3 _
  refine tx_k' hK3 ?_
  refine cx_cond_f' rfl rfl ?_
  refine cx_seq' fun K4 hK4 => ?_
  refine cx_region' ?_
  refine sx_rd' (rd_assert' rfl (F := fun _ => .tuple #[.pointer none, .bool false]) as90_75_94 as_no) rfl rfl (wt_none' rfl) ?_
  refine sx_rd' (rd_extract' rfl rfl) rfl rfl (wt_none' rfl) ?_
  refine sx_rd' (rd_extract' rfl rfl) rfl rfl (wt_none' rfl) ?_
  refine sx_nil' ?_
  show TX E K4 _
  refine tx_k' hK4 ?_
  refine cx_cond_f' rfl rfl ?_
  refine cx_seq' fun K5 hK5 => ?_
  refine cx_region' ?_
  refine sx_rd' (rd_assert' rfl (F := fun _ => .tuple #[.pointer none, .bool false]) as90_75_89 as_no) rfl rfl (wt_none' rfl) ?_
  refine sx_rd' (rd_extract' rfl rfl) rfl rfl (wt_none' rfl) ?_
  refine sx_rd' (rd_extract' rfl rfl) rfl rfl (wt_none' rfl) ?_
  refine sx_nil' ?_
  show TX E K5 _
  refine tx_k' hK5 ?_
  refine cx_cond_f' rfl rfl ?_
  refine cx_seq' fun K6 hK6 => ?_
  refine cx_region' ?_
  refine sx_rd' (rd_assert' rfl (F := fun _ => .tuple #[.pointer none, .bool false]) as90_75_87 as_no) rfl rfl (wt_none' rfl) ?_
  refine sx_rd' (rd_extract' rfl rfl) rfl rfl (wt_none' rfl) ?_
  refine sx_rd' (rd_extract' rfl rfl) rfl rfl (wt_none' rfl) ?_
  refine sx_nil' ?_
  show TX E K6 _
  refine tx_k' hK6 ?_
  refine cx_cond_f' rfl rfl ?_
  refine cx_seq' fun K7 hK7 => ?_
  refine cx_region' ?_
  refine sx_rd' (rd_assert' rfl (F := fun v => .tuple #[v, .bool true]) as90_75_90k as_ok) rfl rfl (wt_none' rfl) ?_
  refine sx_rd' (rd_extract' rfl rfl) rfl rfl (wt_none' rfl) ?_
  refine sx_rd' (rd_extract' rfl rfl) rfl rfl (wt_none' rfl) ?_
  refine sx_nil' ?_
  show TX E K7 _
  refine tx_k' hK7 ?_
  refine cx_cond_t' rfl rfl ?_
  refine cx_seq' fun K8 hK8 => ?_
  refine cx_region' ?_
  refine sx_rd' (rd_assign' rfl) rfl rfl (wt_none' rfl) ?_
  refine sx_nil' ?_
  show TX E K8 _
  refine tx_k' hK8 ?_
  refine cx_seq' fun K9 hK9 => ?_
  refine cx_region' ?_
  refine sx_rd' (rd_move' rfl) rfl rfl (wt_none' rfl) ?_
  refine sx_rd' (rd_move' rfl) rfl rfl (wt_none' rfl) ?_
  obtain ⟨r54, hr54, hp⟩ := bind_some hp
  refine sx_ox' (ox_callg' (ent_fn' Try.func96 isn96 rfl rfl) (gogeom_MultiPoint_SetSRID_v2_sim _ _ _ _ _ _ hr54 : Go.Sx.Fn Try.prog 96 [(Vl (.pointer (some wa0))), (Vl (.int .i64 a1))] [⟨.pointer (some wa0), [(Vl (.int .i64 a0_0)), (Vl (.int .i64 a0_1)), (Sl Kf a0_2), (Vl (.int .i64 a0_3)), (Sl (Ki .i64) a0_4)], 158, none⟩] (fun x : Unit => (Vl (.pointer (some wa0)))) (fun x => [⟨.pointer (some wa0), [(Vl (.int .i64 r54.1)), (Vl (.int .i64 r54.2.1)), (Sl Kf r54.2.2.1), (Vl (.int .i64 r54.2.2.2.1)), (Sl (Ki .i64) r54.2.2.2.2)], 158, none⟩])) [0] [] (by decide) (pick_cons rfl pick_nil) pick_nil (Hn := fun x : Unit => [⟨.pointer (some wa0), [(Vl (.int .i64 r54.1)), (Vl (.int .i64 r54.2.1)), (Sl Kf r54.2.2.1), (Vl (.int .i64 r54.2.2.2.1)), (Sl (Ki .i64) r54.2.2.2.2)], 158, none⟩]) (fun _ => rfl) rfl rfl) (wt_none' rfl) fun ⟨⟩ => ?_
  refine sx_rd' (rd_iface' rfl ⟨_, Try.underlying90, fun _ h => (nomatch h)⟩) rfl rfl (wt_none' rfl) ?_
  refine sx_rd' (rd_assign' rfl) rfl rfl (wt_none' rfl) ?_
  refine sx_rd' (rd_assign' rfl) rfl rfl (wt_none' rfl) ?_
  refine sx_nil' ?_
  show TX E K9 _
  refine tx_k' hK9 ?_
  refine cx_retc' ?_
  replace hp := Option.some.inj hp
  subst hp
  refine tx_pick' (L' := [(4, (If 90 (Vl (.pointer (some wa0))))), (5, (Vl .nilIface))]) (H' := [⟨.pointer (some wa0), [(Vl (.int .i64 r54.1)), (Vl (.int .i64 r54.2.1)), (Sl Kf r54.2.2.1), (Vl (.int .i64 r54.2.2.2.1)), (Sl (Ki .i64) r54.2.2.2.2)], 158, none⟩]) [0] (sub_cons rfl (sub_cons rfl sub_nil)) (by decide) (pick_cons rfl pick_nil) ?_
  exact tx_ret2' Try.results58 rfl () (rv_tmp' rfl) (rv_tmp' rfl) rfl (List.Sublist.refl _)

def gogeom_geom0_SRID_v5 (k : Nat) (a0_0 : Int) (a0_1 : Int) (a0_2 : List Nat) (a0_3 : Int) (a0_4 : List Int) : Option (Int × Int × (List Nat) × Int × (List Int)) :=
  some (a0_0, a0_1, a0_2, a0_3, a0_4)

theorem gogeom_geom0_SRID_v5_sim {k : Nat} {wa0 : Addr} (a0_0 : Int) (a0_1 : Int) (a0_2 : List Nat) (a0_3 : Int) (a0_4 : List Int) {out : Int × Int × (List Nat) × Int × (List Int)} (hp : gogeom_geom0_SRID_v5 k a0_0 a0_1 a0_2 a0_3 a0_4 = some out) : Go.Sx.Fn Try.prog 151 [(Vl (.pointer (some wa0)))] [⟨.pointer (some wa0), [(Vl (.int .i64 a0_0)), (Vl (.int .i64 a0_1)), (Sl Kf a0_2), (Vl (.int .i64 a0_3)), (Sl (Ki .i64) a0_4)], 158, none⟩] (fun w : Unit => (Vl (.int .i64 out.2.2.2.1))) (fun w => [⟨.pointer (some wa0), [(Vl (.int .i64 out.1)), (Vl (.int .i64 out.2.1)), (Sl Kf out.2.2.1), (Vl (.int .i64 out.2.2.2.1)), (Sl (Ki .i64) out.2.2.2.2)], 158, none⟩]) := by
  unfold gogeom_geom0_SRID_v5 at hp
  refine fn_of Try.func151 rfl Try.ntmps151 rfl fun E hM => ?_
  refine cx_seq' fun K1 hK1 => ?_
  refine cx_region' ?_
  refine sx_rd' (rd_assign' rfl) rfl rfl (wt_none' rfl) ?_
  refine sx_nil' ?_
  show TX E K1 _
  refine tx_k' hK1 ?_
  refine cx_seq' fun K2 hK2 => ?_
  refine cx_region' ?_
  refine sx_rd' (rd_move' rfl) rfl rfl (wt_none' rfl) ?_
  refine sx_rd' (rd_nilck' rfl) rfl rfl (wt_none' rfl) ?_
  refine sx_rd' (rd_field' (off := 3) rfl Try.underlying112 rfl info3 rfl) rfl rfl (wt_none' rfl) ?_
  refine sx_rd' (rd_load' (i := 0) (o := 3) rfl ⟨rfl, rfl, rfl, rfl⟩ rfl flat3) rfl rfl (wt_none' rfl) ?_
  refine sx_rd' (rd_assign' rfl) rfl rfl (wt_none' rfl) ?_
  refine sx_nil' ?_
  show TX E K2 _
  refine tx_k' hK2 ?_
  refine cx_retc' ?_
  replace hp := Option.some.inj hp
  subst hp
  refine tx_pick' (L' := [(2, (Vl (.int .i64 a0_3)))]) (H' := [⟨.pointer (some wa0), [(Vl (.int .i64 a0_0)), (Vl (.int .i64 a0_1)), (Sl Kf a0_2), (Vl (.int .i64 a0_3)), (Sl (Ki .i64) a0_4)], 158, none⟩]) [0] (sub_cons rfl sub_nil) (by decide) (pick_cons rfl pick_nil) ?_
  exact tx_ret1' Try.results151 rfl () (rv_tmp' rfl) (List.Sublist.refl _)

def gogeom_geom0_Layout_v5 (k : Nat) (a0_0 : Int) (a0_1 : Int) (a0_2 : List Nat) (a0_3 : Int) (a0_4 : List Int) : Option (Int × Int × (List Nat) × Int × (List Int)) :=
  some (a0_0, a0_1, a0_2, a0_3, a0_4)

theorem gogeom_geom0_Layout_v5_sim {k : Nat} {wa0 : Addr} (a0_0 : Int) (a0_1 : Int) (a0_2 : List Nat) (a0_3 : Int) (a0_4 : List Int) {out : Int × Int × (List Nat) × Int × (List Int)} (hp : gogeom_geom0_Layout_v5 k a0_0 a0_1 a0_2 a0_3 a0_4 = some out) : Go.Sx.Fn Try.prog 148 [(Vl (.pointer (some wa0)))] [⟨.pointer (some wa0), [(Vl (.int .i64 a0_0)), (Vl (.int .i64 a0_1)), (Sl Kf a0_2), (Vl (.int .i64 a0_3)), (Sl (Ki .i64) a0_4)], 158, none⟩] (fun w : Unit => (Vl (.int .i64 out.1))) (fun w => [⟨.pointer (some wa0), [(Vl (.int .i64 out.1)), (Vl (.int .i64 out.2.1)), (Sl Kf out.2.2.1), (Vl (.int .i64 out.2.2.2.1)), (Sl (Ki .i64) out.2.2.2.2)], 158, none⟩]) := by
  unfold gogeom_geom0_Layout_v5 at hp
  refine fn_of Try.func148 rfl Try.ntmps148 rfl fun E hM => ?_
  refine cx_seq' fun K1 hK1 => ?_
  refine cx_region' ?_
  refine sx_rd' (rd_assign' rfl) rfl rfl (wt_none' rfl) ?_
  refine sx_nil' ?_
  show TX E K1 _
  refine tx_k' hK1 ?_
  refine cx_seq' fun K2 hK2 => ?_
  refine cx_region' ?_
  refine sx_rd' (rd_move' rfl) rfl rfl (wt_none' rfl) ?_
  refine sx_rd' (rd_nilck' rfl) rfl rfl (wt_none' rfl) ?_
  refine sx_rd' (rd_field0' rfl Try.underlying112 rfl info65 rfl) rfl rfl (wt_none' rfl) ?_
  refine sx_rd' (rd_load' (i := 0) (o := 0) rfl ⟨rfl, rfl, rfl, rfl⟩ rfl flat65) rfl rfl (wt_none' rfl) ?_
  refine sx_rd' (rd_assign' rfl) rfl rfl (wt_none' rfl) ?_
  refine sx_nil' ?_
  show TX E K2 _
  refine tx_k' hK2 ?_
  refine cx_retc' ?_
  replace hp := Option.some.inj hp
  subst hp
  refine tx_pick' (L' := [(2, (Vl (.int .i64 a0_0)))]) (H' := [⟨.pointer (some wa0), [(Vl (.int .i64 a0_0)), (Vl (.int .i64 a0_1)), (Sl Kf a0_2), (Vl (.int .i64 a0_3)), (Sl (Ki .i64) a0_4)], 158, none⟩]) [0] (sub_cons rfl sub_nil) (by decide) (pick_cons rfl pick_nil) ?_
  exact tx_ret1' Try.results148 rfl () (rv_tmp' rfl) (List.Sublist.refl _)

def gogeom_geom0_FlatCoords_v5 (k : Nat) (a0_0 : Int) (a0_1 : Int) (a0_2 : List Nat) (a0_3 : Int) (a0_4 : List Int) : Option (Int × Int × (List Nat) × Int × (List Int)) :=
  some (a0_0, a0_1, a0_2, a0_3, a0_4)

theorem gogeom_geom0_FlatCoords_v5_sim {k : Nat} {wa0 : Addr} (a0_0 : Int) (a0_1 : Int) (a0_2 : List Nat) (a0_3 : Int) (a0_4 : List Int) {out : Int × Int × (List Nat) × Int × (List Int)} (hp : gogeom_geom0_FlatCoords_v5 k a0_0 a0_1 a0_2 a0_3 a0_4 = some out) : Go.Sx.Fn Try.prog 147 [(Vl (.pointer (some wa0)))] [⟨.pointer (some wa0), [(Vl (.int .i64 a0_0)), (Vl (.int .i64 a0_1)), (Sl Kf a0_2), (Vl (.int .i64 a0_3)), (Sl (Ki .i64) a0_4)], 158, none⟩] (fun w : Unit => (Sl Kf out.2.2.1)) (fun w => [⟨.pointer (some wa0), [(Vl (.int .i64 out.1)), (Vl (.int .i64 out.2.1)), (Sl Kf out.2.2.1), (Vl (.int .i64 out.2.2.2.1)), (Sl (Ki .i64) out.2.2.2.2)], 158, none⟩]) := by
  unfold gogeom_geom0_FlatCoords_v5 at hp
  refine fn_of Try.func147 rfl Try.ntmps147 rfl fun E hM => ?_
  refine cx_seq' fun K1 hK1 => ?_
  refine cx_region' ?_
  refine sx_rd' (rd_assign' rfl) rfl rfl (wt_none' rfl) ?_
  refine sx_nil' ?_
  show TX E K1 _
  refine tx_k' hK1 ?_
  refine cx_seq' fun K2 hK2 => ?_
  refine cx_region' ?_
  refine sx_rd' (rd_move' rfl) rfl rfl (wt_none' rfl) ?_
  refine sx_rd' (rd_nilck' rfl) rfl rfl (wt_none' rfl) ?_
  refine sx_rd' (rd_field' (off := 2) rfl Try.underlying112 rfl info22 rfl) rfl rfl (wt_none' rfl) ?_
  refine sx_rd' (rd_load' (i := 0) (o := 2) rfl ⟨rfl, rfl, rfl, rfl⟩ rfl flat22) rfl rfl (wt_none' rfl) ?_
  refine sx_rd' (rd_assign' rfl) rfl rfl (wt_none' rfl) ?_
  refine sx_nil' ?_
  show TX E K2 _
  refine tx_k' hK2 ?_
  refine cx_retc' ?_
  replace hp := Option.some.inj hp
  subst hp
  refine tx_pick' (L' := [(2, (Sl Kf a0_2))]) (H' := [⟨.pointer (some wa0), [(Vl (.int .i64 a0_0)), (Vl (.int .i64 a0_1)), (Sl Kf a0_2), (Vl (.int .i64 a0_3)), (Sl (Ki .i64) a0_4)], 158, none⟩]) [0] (sub_cons rfl sub_nil) (by decide) (pick_cons rfl pick_nil) ?_
  exact tx_ret1' Try.results147 rfl () (rv_tmp' rfl) (List.Sublist.refl _)

def gogeom_geom2_Ends_v2 (k : Nat) (a0_0 : Int) (a0_1 : Int) (a0_2 : List Nat) (a0_3 : Int) (a0_4 : List Int) : Option (Int × Int × (List Nat) × Int × (List Int)) :=
  some (a0_0, a0_1, a0_2, a0_3, a0_4)

theorem gogeom_geom2_Ends_v2_sim {k : Nat} {wa0 : Addr} (a0_0 : Int) (a0_1 : Int) (a0_2 : List Nat) (a0_3 : Int) (a0_4 : List Int) {out : Int × Int × (List Nat) × Int × (List Int)} (hp : gogeom_geom2_Ends_v2 k a0_0 a0_1 a0_2 a0_3 a0_4 = some out) : Go.Sx.Fn Try.prog 165 [(Vl (.pointer (some wa0)))] [⟨.pointer (some wa0), [(Vl (.int .i64 a0_0)), (Vl (.int .i64 a0_1)), (Sl Kf a0_2), (Vl (.int .i64 a0_3)), (Sl (Ki .i64) a0_4)], 158, none⟩] (fun w : Unit => (Sl (Ki .i64) out.2.2.2.2)) (fun w => [⟨.pointer (some wa0), [(Vl (.int .i64 out.1)), (Vl (.int .i64 out.2.1)), (Sl Kf out.2.2.1), (Vl (.int .i64 out.2.2.2.1)), (Sl (Ki .i64) out.2.2.2.2)], 158, none⟩]) := by
  unfold gogeom_geom2_Ends_v2 at hp
  refine fn_of Try.func165 rfl Try.ntmps165 rfl fun E hM => ?_
  refine cx_seq' fun K1 hK1 => ?_
  refine cx_region' ?_
  refine sx_rd' (rd_assign' rfl) rfl rfl (wt_none' rfl) ?_
  refine sx_nil' ?_
  show TX E K1 _
  refine tx_k' hK1 ?_
  refine cx_seq' fun K2 hK2 => ?_
  refine cx_region' ?_
  refine sx_rd' (rd_move' rfl) rfl rfl (wt_none' rfl) ?_
  refine sx_rd' (rd_nilck' rfl) rfl rfl (wt_none' rfl) ?_
  refine sx_rd' (rd_field' (off := 4) rfl Try.underlying153 rfl info23 rfl) rfl rfl (wt_none' rfl) ?_
  refine sx_rd' (rd_load' (i := 0) (o := 4) rfl ⟨rfl, rfl, rfl, rfl⟩ rfl flat23) rfl rfl (wt_none' rfl) ?_
  refine sx_rd' (rd_assign' rfl) rfl rfl (wt_none' rfl) ?_
  refine sx_nil' ?_
  show TX E K2 _
  refine tx_k' hK2 ?_
  refine cx_retc' ?_
  replace hp := Option.some.inj hp
  subst hp
  refine tx_pick' (L' := [(2, (Sl (Ki .i64) a0_4))]) (H' := [⟨.pointer (some wa0), [(Vl (.int .i64 a0_0)), (Vl (.int .i64 a0_1)), (Sl Kf a0_2), (Vl (.int .i64 a0_3)), (Sl (Ki .i64) a0_4)], 158, none⟩]) [0] (sub_cons rfl sub_nil) (by decide) (pick_cons rfl pick_nil) ?_
  exact tx_ret1' Try.results165 rfl () (rv_tmp' rfl) (List.Sublist.refl _)

def gogeom_geom0_Endss_v5 (k : Nat) (a0_0 : Int) (a0_1 : Int) (a0_2 : List Nat) (a0_3 : Int) (a0_4 : List Int) : Option (Int × Int × (List Nat) × Int × (List Int)) :=
  some (a0_0, a0_1, a0_2, a0_3, a0_4)

theorem gogeom_geom0_Endss_v5_sim {k : Nat} {wa0 : Addr} (a0_0 : Int) (a0_1 : Int) (a0_2 : List Nat) (a0_3 : Int) (a0_4 : List Int) {out : Int × Int × (List Nat) × Int × (List Int)} (hp : gogeom_geom0_Endss_v5 k a0_0 a0_1 a0_2 a0_3 a0_4 = some out) : Go.Sx.Fn Try.prog 146 [(Vl (.pointer (some wa0)))] [⟨.pointer (some wa0), [(Vl (.int .i64 a0_0)), (Vl (.int .i64 a0_1)), (Sl Kf a0_2), (Vl (.int .i64 a0_3)), (Sl (Ki .i64) a0_4)], 158, none⟩] (fun w : Unit => (Vl (.slice none 0 0))) (fun w => [⟨.pointer (some wa0), [(Vl (.int .i64 out.1)), (Vl (.int .i64 out.2.1)), (Sl Kf out.2.2.1), (Vl (.int .i64 out.2.2.2.1)), (Sl (Ki .i64) out.2.2.2.2)], 158, none⟩]) := by
  unfold gogeom_geom0_Endss_v5 at hp
  refine fn_of Try.func146 rfl Try.ntmps146 rfl fun E hM => ?_
  refine cx_seq' fun K1 hK1 => ?_
  refine cx_region' ?_
  refine sx_rd' (rd_assign' rfl) rfl rfl (wt_none' rfl) ?_
  refine sx_nil' ?_
  show TX E K1 _
  refine tx_k' hK1 ?_
  refine cx_seq' fun K2 hK2 => ?_
  refine cx_region' ?_
  refine sx_rd' (rd_assign' rfl) rfl rfl (wt_none' rfl) ?_
  refine sx_nil' ?_
  show TX E K2 _
  refine tx_k' hK2 ?_
  refine cx_retc' ?_
  replace hp := Option.some.inj hp
  subst hp
  refine tx_pick' (L' := [(2, (Vl (.slice none 0 0)))]) (H' := [⟨.pointer (some wa0), [(Vl (.int .i64 a0_0)), (Vl (.int .i64 a0_1)), (Sl Kf a0_2), (Vl (.int .i64 a0_3)), (Sl (Ki .i64) a0_4)], 158, none⟩]) [0] (sub_cons rfl sub_nil) (by decide) (pick_cons rfl pick_nil) ?_
  exact tx_ret1' Try.results146 rfl () (rv_tmp' rfl) (List.Sublist.refl _)

def impl_plain_v5 (k : Nat) (a0_0 : Int) (a0_1 : Int) (a0_2 : List Nat) (a0_3 : Int) (a0_4 : List Int) : Option (Int × Int × (List Nat) × Int × (List Int) × Int × Int × Int × (List Nat) × (List Int)) :=
  (gogeom_geom0_SRID_v5 k a0_0 a0_1 a0_2 a0_3 a0_4) >>= fun r15 =>
  (gogeom_geom0_Layout_v5 k r15.1 r15.2.1 r15.2.2.1 r15.2.2.2.1 r15.2.2.2.2) >>= fun r70 =>
  (gogeom_geom0_FlatCoords_v5 k r70.1 r70.2.1 r70.2.2.1 r70.2.2.2.1 r70.2.2.2.2) >>= fun r72 =>
  (impl_floats k r72.2.2.1) >>= fun r73 =>
  (gogeom_geom2_Ends_v2 k r72.1 r72.2.1 r72.2.2.1 r72.2.2.2.1 r72.2.2.2.2) >>= fun r75 =>
  (impl_ints k r75.2.2.2.2) >>= fun r76 =>
  match r76 with
    | (.inl y1) =>
      ((gogeom_geom0_Endss_v5 k r75.1 r75.2.1 r75.2.2.1 r75.2.2.2.1 r75.2.2.2.2) >>= fun r78 =>
      (impl_intss_v2 k) >>= fun r79 =>
      some (r78.1, r78.2.1, r78.2.2.1, r78.2.2.2.1, r78.2.2.2.2, 4, r70.1, r15.2.2.2.1, r73, []))
    | (.inr y1) =>
      ((gogeom_geom0_Endss_v5 k r75.1 r75.2.1 r75.2.2.1 r75.2.2.2.1 r75.2.2.2.2) >>= fun r78 =>
      (impl_intss_v2 k) >>= fun r79 =>
      some (r78.1, r78.2.1, r78.2.2.1, r78.2.2.2.1, r78.2.2.2.2, 4, r70.1, r15.2.2.2.1, r73, y1))

theorem impl_plain_v5_sim {k : Nat} {wa0 : Addr} (a0_0 : Int) (a0_1 : Int) (a0_2 : List Nat) (a0_3 : Int) (a0_4 : List Int) {out : Int × Int × (List Nat) × Int × (List Int) × Int × Int × Int × (List Nat) × (List Int)} (hp : impl_plain_v5 k a0_0 a0_1 a0_2 a0_3 a0_4 = some out) : Go.Sx.Fn Try.prog 44 [(If 90 (Vl (.pointer (some wa0))))] [⟨.pointer (some wa0), [(Vl (.int .i64 a0_0)), (Vl (.int .i64 a0_1)), (Sl Kf a0_2), (Vl (.int .i64 a0_3)), (Sl (Ki .i64) a0_4)], 158, none⟩] (fun w : Unit => (Ag [(Vl (.int .i64 out.2.2.2.2.2.1)), (Vl (.int .i64 out.2.2.2.2.2.2.1)), (Vl (.int .i64 out.2.2.2.2.2.2.2.1)), (Sl Kf out.2.2.2.2.2.2.2.2.1), (Sl (Ki .i64) out.2.2.2.2.2.2.2.2.2), (Vl (.slice none 0 0)), (Vl (.slice none 0 0))])) (fun w => [⟨.pointer (some wa0), [(Vl (.int .i64 out.1)), (Vl (.int .i64 out.2.1)), (Sl Kf out.2.2.1), (Vl (.int .i64 out.2.2.2.1)), (Sl (Ki .i64) out.2.2.2.2.1)], 158, none⟩]) := by
  unfold impl_plain_v5 at hp
  refine fn_of Try.func44 rfl Try.ntmps44 rfl fun E hM => ?_
  refine cx_seq' fun K1 hK1 => ?_
  refine cx_region' ?_
  refine sx_ox' (ox_alloc' info27 rfl rfl rfl rfl (l := [(Vl (.int .i64 0)), (Vl (.int .i64 0)), (Vl (.int .i64 0)), (Vl (.slice none 0 0)), (Vl (.slice none 0 0)), (Vl (.slice none 0 0)), (Vl (.slice none 0 0))]) rfl) (wt_none' rfl) fun q2 => ?_
  refine sx_nil' ?_
  show TX E K1 _
  refine tx_k' hK1 ?_
  refine cx_seq' fun K2 hK2 => ?_
  refine cx_region' ?_
  refine sx_rd' (rd_move' rfl) rfl rfl (wt_none' rfl) ?_
  obtain ⟨r15, hr15, hp⟩ := bind_some hp
  refine sx_ox' (ox_callg' (ent_inv' rfl rfl (inv_ptr0 (inv90_SRID _))) (gogeom_geom0_SRID_v5_sim _ _ _ _ _ hr15 : Go.Sx.Fn Try.prog 151 [(Vl (.pointer (some wa0)))] [⟨.pointer (some wa0), [(Vl (.int .i64 a0_0)), (Vl (.int .i64 a0_1)), (Sl Kf a0_2), (Vl (.int .i64 a0_3)), (Sl (Ki .i64) a0_4)], 158, none⟩] (fun x : Unit => (Vl (.int .i64 r15.2.2.2.1))) (fun x => [⟨.pointer (some wa0), [(Vl (.int .i64 r15.1)), (Vl (.int .i64 r15.2.1)), (Sl Kf r15.2.2.1), (Vl (.int .i64 r15.2.2.2.1)), (Sl (Ki .i64) r15.2.2.2.2)], 158, none⟩])) [1] [0] (by decide) (pick_cons rfl pick_nil) (pick_cons rfl pick_nil) (Hn := fun x : Unit => [⟨.pointer (some wa0), [(Vl (.int .i64 r15.1)), (Vl (.int .i64 r15.2.1)), (Sl Kf r15.2.2.1), (Vl (.int .i64 r15.2.2.2.1)), (Sl (Ki .i64) r15.2.2.2.2)], 158, none⟩, ⟨.pointer (some q2), [(Vl (.int .i64 0)), (Vl (.int .i64 0)), (Vl (.int .i64 0)), (Vl (.slice none 0 0)), (Vl (.slice none 0 0)), (Vl (.slice none 0 0)), (Vl (.slice none 0 0))], 27, none⟩]) (fun _ => rfl) rfl rfl) (wt_none' rfl) fun ⟨⟩ => ?_
  refine sx_rd' (rd_build' (pls := [(0, 1), (1, 1), (2, 1), (3, 1), (4, 1), (5, 1), (6, 1)]) (qs := [(2, [(Vl (.int .i64 r15.2.2.2.1))])]) (r := [(Vl (.int .i64 0)), (Vl (.int .i64 0)), (Vl (.int .i64 r15.2.2.2.1)), (Vl (.slice none 0 0)), (Vl (.slice none 0 0)), (Vl (.slice none 0 0)), (Vl (.slice none 0 0))]) ⟨rfl, ⟨_, rfl, (lv_vl rfl rfl)⟩, trivial⟩ Try.underlying27 has27 places27 info27 rfl rfl rfl) rfl rfl (wt_none' rfl) ?_
  refine sx_ox' (ox_alloc' info27 rfl rfl rfl rfl (l := [(Vl (.int .i64 0)), (Vl (.int .i64 0)), (Vl (.int .i64 0)), (Vl (.slice none 0 0)), (Vl (.slice none 0 0)), (Vl (.slice none 0 0)), (Vl (.slice none 0 0))]) rfl) (wt_none' rfl) fun q3 => ?_
  refine sx_ox' (ox_store' (i := 0) (o := 0) rfl rfl (lv_ag _) ⟨rfl, rfl, rfl, rfl⟩ rfl info27 rfl (H' := [⟨.pointer (some q3), [(Vl (.int .i64 0)), (Vl (.int .i64 0)), (Vl (.int .i64 r15.2.2.2.1)), (Vl (.slice none 0 0)), (Vl (.slice none 0 0)), (Vl (.slice none 0 0)), (Vl (.slice none 0 0))], 27, none⟩, ⟨.pointer (some wa0), [(Vl (.int .i64 r15.1)), (Vl (.int .i64 r15.2.1)), (Sl Kf r15.2.2.1), (Vl (.int .i64 r15.2.2.2.1)), (Sl (Ki .i64) r15.2.2.2.2)], 158, none⟩, ⟨.pointer (some q2), [(Vl (.int .i64 0)), (Vl (.int .i64 0)), (Vl (.int .i64 0)), (Vl (.slice none 0 0)), (Vl (.slice none 0 0)), (Vl (.slice none 0 0)), (Vl (.slice none 0 0))], 27, none⟩]) rfl) (wt_none' rfl) fun _ => ?_
  refine sx_nil' ?_
  show TX E K2 _
  refine tx_k' hK2 ?_
  refine cx_seq' fun K3 hK3 => ?_
  refine cx_seq' fun K4 hK4 => ?_
  refine cx_region' ?_
  refine sx_rd' (rd_move' rfl) rfl rfl (wt_none' rfl) ?_
  refine sx_nil' ?_
  show TX E K4 _
  refine tx_k' hK4 ?_
  refine cx_block' ?_
  refine cx_seq' fun K5 hK5 => ?_
  refine cx_region' ?_
  refine sx_rd' (rd_assert' rfl (F := fun _ => .tuple #[.pointer none, .bool false]) as90_75_60 as_no) rfl rfl (wt_none' rfl) ?_
  refine sx_rd' (rd_extract' rfl rfl) rfl rfl (wt_none' rfl) ?_
  refine sx_rd' (rd_extract' rfl rfl) rfl rfl (wt_none' rfl) ?_
  refine sx_nil' ?_
  show TX E K5 _
  refine tx_k' hK5 ?_
  refine cx_cond_f' rfl rfl ?_
  refine cx_seq' fun K6 hK6 => ?_
  refine cx_region' ?_
  refine sx_rd' (rd_assert' rfl (F := fun _ => .tuple #[.pointer none, .bool false]) as90_75_94 as_no) rfl rfl (wt_none' rfl) ?_
  refine sx_rd' (rd_extract' rfl rfl) rfl rfl (wt_none' rfl) ?_
  refine sx_rd' (rd_extract' rfl rfl) rfl rfl (wt_none' rfl) ?_
  refine sx_nil' ?_
  show TX E K6 _
  refine tx_k' hK6 ?_
  refine cx_cond_f' rfl rfl ?_
  refine cx_seq' fun K7 hK7 => ?_
  refine cx_region' ?_
  refine sx_rd' (rd_assert' rfl (F := fun _ => .tuple #[.pointer none, .bool false]) as90_75_89 as_no) rfl rfl (wt_none' rfl) ?_
  refine sx_rd' (rd_extract' rfl rfl) rfl rfl (wt_none' rfl) ?_
  refine sx_rd' (rd_extract' rfl rfl) rfl rfl (wt_none' rfl) ?_
  refine sx_nil' ?_
  show TX E K7 _
  refine tx_k' hK7 ?_
  refine cx_cond_f' rfl rfl ?_
  refine cx_seq' fun K8 hK8 => ?_
  refine cx_region' ?_
  refine sx_rd' (rd_assert' rfl (F := fun _ => .tuple #[.pointer none, .bool false]) as90_75_87 as_no) rfl rfl (wt_none' rfl) ?_
  refine sx_rd' (rd_extract' rfl rfl) rfl rfl (wt_none' rfl) ?_
  refine sx_rd' (rd_extract' rfl rfl) rfl rfl (wt_none' rfl) ?_
  refine sx_nil' ?_
  show TX E K8 _
  refine tx_k' hK8 ?_
  refine cx_cond_f' rfl rfl ?_
  refine cx_seq' fun K9 hK9 => ?_
  refine cx_region' ?_
  refine sx_rd' (rd_assert' rfl (F := fun v => .tuple #[v, .bool true]) as90_75_90k as_ok) rfl rfl (wt_none' rfl) ?_
  refine sx_rd' (rd_extract' rfl rfl) rfl rfl (wt_none' rfl) ?_
  refine sx_rd' (rd_extract' rfl rfl) rfl rfl (wt_none' rfl) ?_
  refine sx_nil' ?_
  show TX E K9 _
  refine tx_k' hK9 ?_
  refine cx_cond_t' rfl rfl ?_
  refine cx_seq' fun K10 hK10 => ?_
  refine cx_region' ?_
  refine sx_rd' (rd_assign' rfl) rfl rfl (wt_none' rfl) ?_
  refine sx_nil' ?_
  show TX E K10 _
  refine tx_k' hK10 ?_
  refine cx_region' ?_
  refine sx_rd' (rd_field0' rfl Try.underlying27 rfl info3 rfl) rfl rfl (wt_none' rfl) ?_
  refine sx_ox' (ox_store' (i := 0) (o := 0) rfl rfl (lv_vl rfl rfl) ⟨rfl, rfl, rfl, rfl⟩ rfl info3 rfl (H' := [⟨.pointer (some q3), [(Vl (.int .i64 4)), (Vl (.int .i64 0)), (Vl (.int .i64 r15.2.2.2.1)), (Vl (.slice none 0 0)), (Vl (.slice none 0 0)), (Vl (.slice none 0 0)), (Vl (.slice none 0 0))], 27, none⟩, ⟨.pointer (some wa0), [(Vl (.int .i64 r15.1)), (Vl (.int .i64 r15.2.1)), (Sl Kf r15.2.2.1), (Vl (.int .i64 r15.2.2.2.1)), (Sl (Ki .i64) r15.2.2.2.2)], 158, none⟩, ⟨.pointer (some q2), [(Vl (.int .i64 0)), (Vl (.int .i64 0)), (Vl (.int .i64 0)), (Vl (.slice none 0 0)), (Vl (.slice none 0 0)), (Vl (.slice none 0 0)), (Vl (.slice none 0 0))], 27, none⟩]) rfl) (wt_none' rfl) fun _ => ?_
  refine sx_nil' ?_
  show TX E K3 _
  refine tx_k' hK3 ?_
  refine cx_seq' fun K11 hK11 => ?_
  refine cx_region' ?_
  refine sx_rd' (rd_move' rfl) rfl rfl (wt_none' rfl) ?_
  obtain ⟨r70, hr70, hp⟩ := bind_some hp
  refine sx_ox' (ox_callg' (ent_inv' rfl rfl (inv_ptr0 (inv90_Layout _))) (gogeom_geom0_Layout_v5_sim _ _ _ _ _ hr70 : Go.Sx.Fn Try.prog 148 [(Vl (.pointer (some wa0)))] [⟨.pointer (some wa0), [(Vl (.int .i64 r15.1)), (Vl (.int .i64 r15.2.1)), (Sl Kf r15.2.2.1), (Vl (.int .i64 r15.2.2.2.1)), (Sl (Ki .i64) r15.2.2.2.2)], 158, none⟩] (fun x : Unit => (Vl (.int .i64 r70.1))) (fun x => [⟨.pointer (some wa0), [(Vl (.int .i64 r70.1)), (Vl (.int .i64 r70.2.1)), (Sl Kf r70.2.2.1), (Vl (.int .i64 r70.2.2.2.1)), (Sl (Ki .i64) r70.2.2.2.2)], 158, none⟩])) [1] [0, 2] (by decide) (pick_cons rfl pick_nil) (pick_cons rfl (pick_cons rfl pick_nil)) (Hn := fun x : Unit => [⟨.pointer (some wa0), [(Vl (.int .i64 r70.1)), (Vl (.int .i64 r70.2.1)), (Sl Kf r70.2.2.1), (Vl (.int .i64 r70.2.2.2.1)), (Sl (Ki .i64) r70.2.2.2.2)], 158, none⟩, ⟨.pointer (some q3), [(Vl (.int .i64 4)), (Vl (.int .i64 0)), (Vl (.int .i64 r15.2.2.2.1)), (Vl (.slice none 0 0)), (Vl (.slice none 0 0)), (Vl (.slice none 0 0)), (Vl (.slice none 0 0))], 27, none⟩, ⟨.pointer (some q2), [(Vl (.int .i64 0)), (Vl (.int .i64 0)), (Vl (.int .i64 0)), (Vl (.slice none 0 0)), (Vl (.slice none 0 0)), (Vl (.slice none 0 0)), (Vl (.slice none 0 0))], 27, none⟩]) (fun _ => rfl) rfl rfl) (wt_none' rfl) fun ⟨⟩ => ?_
  refine sx_rd' (rd_move' rfl) rfl rfl (wt_none' rfl) ?_
  obtain ⟨r72, hr72, hp⟩ := bind_some hp
  refine sx_ox' (ox_callg' (ent_inv' rfl rfl (inv_ptr0 (inv90_FlatCoords _))) (gogeom_geom0_FlatCoords_v5_sim _ _ _ _ _ hr72 : Go.Sx.Fn Try.prog 147 [(Vl (.pointer (some wa0)))] [⟨.pointer (some wa0), [(Vl (.int .i64 r70.1)), (Vl (.int .i64 r70.2.1)), (Sl Kf r70.2.2.1), (Vl (.int .i64 r70.2.2.2.1)), (Sl (Ki .i64) r70.2.2.2.2)], 158, none⟩] (fun x : Unit => (Sl Kf r72.2.2.1)) (fun x => [⟨.pointer (some wa0), [(Vl (.int .i64 r72.1)), (Vl (.int .i64 r72.2.1)), (Sl Kf r72.2.2.1), (Vl (.int .i64 r72.2.2.2.1)), (Sl (Ki .i64) r72.2.2.2.2)], 158, none⟩])) [0] [1, 2] (by decide) (pick_cons rfl pick_nil) (pick_cons rfl (pick_cons rfl pick_nil)) (Hn := fun x : Unit => [⟨.pointer (some wa0), [(Vl (.int .i64 r72.1)), (Vl (.int .i64 r72.2.1)), (Sl Kf r72.2.2.1), (Vl (.int .i64 r72.2.2.2.1)), (Sl (Ki .i64) r72.2.2.2.2)], 158, none⟩, ⟨.pointer (some q3), [(Vl (.int .i64 4)), (Vl (.int .i64 0)), (Vl (.int .i64 r15.2.2.2.1)), (Vl (.slice none 0 0)), (Vl (.slice none 0 0)), (Vl (.slice none 0 0)), (Vl (.slice none 0 0))], 27, none⟩, ⟨.pointer (some q2), [(Vl (.int .i64 0)), (Vl (.int .i64 0)), (Vl (.int .i64 0)), (Vl (.slice none 0 0)), (Vl (.slice none 0 0)), (Vl (.slice none 0 0)), (Vl (.slice none 0 0))], 27, none⟩]) (fun _ => rfl) rfl rfl) (wt_none' rfl) fun ⟨⟩ => ?_
  obtain ⟨r73, hr73, hp⟩ := bind_some hp
  refine sx_ox' (ox_calln' (ent_fn' Try.func43 isn43 rfl rfl) (impl_floats_sim _ hr73 : Go.Sx.Fn Try.prog 43 [(Sl Kf r72.2.2.1)] [] (fun x : Unit => (Sl Kf r73)) (fun x => [])) (Hn := fun x : Unit => [⟨.pointer (some wa0), [(Vl (.int .i64 r72.1)), (Vl (.int .i64 r72.2.1)), (Sl Kf r72.2.2.1), (Vl (.int .i64 r72.2.2.2.1)), (Sl (Ki .i64) r72.2.2.2.2)], 158, none⟩, ⟨.pointer (some q3), [(Vl (.int .i64 4)), (Vl (.int .i64 0)), (Vl (.int .i64 r15.2.2.2.1)), (Vl (.slice none 0 0)), (Vl (.slice none 0 0)), (Vl (.slice none 0 0)), (Vl (.slice none 0 0))], 27, none⟩, ⟨.pointer (some q2), [(Vl (.int .i64 0)), (Vl (.int .i64 0)), (Vl (.int .i64 0)), (Vl (.slice none 0 0)), (Vl (.slice none 0 0)), (Vl (.slice none 0 0)), (Vl (.slice none 0 0))], 27, none⟩]) (fun _ => rfl) rfl rfl) (wt_none' rfl) fun ⟨⟩ => ?_
  refine sx_rd' (rd_move' rfl) rfl rfl (wt_none' rfl) ?_
  obtain ⟨r75, hr75, hp⟩ := bind_some hp
  refine sx_ox' (ox_callg' (ent_inv' rfl rfl (inv_ptr0 (inv90_Ends _))) (gogeom_geom2_Ends_v2_sim _ _ _ _ _ hr75 : Go.Sx.Fn Try.prog 165 [(Vl (.pointer (some wa0)))] [⟨.pointer (some wa0), [(Vl (.int .i64 r72.1)), (Vl (.int .i64 r72.2.1)), (Sl Kf r72.2.2.1), (Vl (.int .i64 r72.2.2.2.1)), (Sl (Ki .i64) r72.2.2.2.2)], 158, none⟩] (fun x : Unit => (Sl (Ki .i64) r75.2.2.2.2)) (fun x => [⟨.pointer (some wa0), [(Vl (.int .i64 r75.1)), (Vl (.int .i64 r75.2.1)), (Sl Kf r75.2.2.1), (Vl (.int .i64 r75.2.2.2.1)), (Sl (Ki .i64) r75.2.2.2.2)], 158, none⟩])) [0] [1, 2] (by decide) (pick_cons rfl pick_nil) (pick_cons rfl (pick_cons rfl pick_nil)) (Hn := fun x : Unit => [⟨.pointer (some wa0), [(Vl (.int .i64 r75.1)), (Vl (.int .i64 r75.2.1)), (Sl Kf r75.2.2.1), (Vl (.int .i64 r75.2.2.2.1)), (Sl (Ki .i64) r75.2.2.2.2)], 158, none⟩, ⟨.pointer (some q3), [(Vl (.int .i64 4)), (Vl (.int .i64 0)), (Vl (.int .i64 r15.2.2.2.1)), (Vl (.slice none 0 0)), (Vl (.slice none 0 0)), (Vl (.slice none 0 0)), (Vl (.slice none 0 0))], 27, none⟩, ⟨.pointer (some q2), [(Vl (.int .i64 0)), (Vl (.int .i64 0)), (Vl (.int .i64 0)), (Vl (.slice none 0 0)), (Vl (.slice none 0 0)), (Vl (.slice none 0 0)), (Vl (.slice none 0 0))], 27, none⟩]) (fun _ => rfl) rfl rfl) (wt_none' rfl) fun ⟨⟩ => ?_
  obtain ⟨r76, hr76, hp⟩ := bind_some hp
  rcases r76 with y1 | y1
  · dsimp only at hp
    refine sx_ox' (ox_calln' (ent_fn' Try.func84 isn84 rfl rfl) (impl_ints_sim _ hr76 : Go.Sx.Fn Try.prog 84 [(Sl (Ki .i64) r75.2.2.2.2)] [] (fun x : Unit => (Vl (.slice none 0 0))) (fun x => [])) (Hn := fun x : Unit => [⟨.pointer (some wa0), [(Vl (.int .i64 r75.1)), (Vl (.int .i64 r75.2.1)), (Sl Kf r75.2.2.1), (Vl (.int .i64 r75.2.2.2.1)), (Sl (Ki .i64) r75.2.2.2.2)], 158, none⟩, ⟨.pointer (some q3), [(Vl (.int .i64 4)), (Vl (.int .i64 0)), (Vl (.int .i64 r15.2.2.2.1)), (Vl (.slice none 0 0)), (Vl (.slice none 0 0)), (Vl (.slice none 0 0)), (Vl (.slice none 0 0))], 27, none⟩, ⟨.pointer (some q2), [(Vl (.int .i64 0)), (Vl (.int .i64 0)), (Vl (.int .i64 0)), (Vl (.slice none 0 0)), (Vl (.slice none 0 0)), (Vl (.slice none 0 0)), (Vl (.slice none 0 0))], 27, none⟩]) (fun _ => rfl) rfl rfl) (wt_none' rfl) fun ⟨⟩ => ?_
    refine sx_rd' (rd_move' rfl) rfl rfl (wt_none' rfl) ?_
    obtain ⟨r78, hr78, hp⟩ := bind_some hp
    refine sx_ox' (ox_callg' (ent_inv' rfl rfl (inv_ptr0 (inv90_Endss _))) (gogeom_geom0_Endss_v5_sim _ _ _ _ _ hr78 : Go.Sx.Fn Try.prog 146 [(Vl (.pointer (some wa0)))] [⟨.pointer (some wa0), [(Vl (.int .i64 r75.1)), (Vl (.int .i64 r75.2.1)), (Sl Kf r75.2.2.1), (Vl (.int .i64 r75.2.2.2.1)), (Sl (Ki .i64) r75.2.2.2.2)], 158, none⟩] (fun x : Unit => (Vl (.slice none 0 0))) (fun x => [⟨.pointer (some wa0), [(Vl (.int .i64 r78.1)), (Vl (.int .i64 r78.2.1)), (Sl Kf r78.2.2.1), (Vl (.int .i64 r78.2.2.2.1)), (Sl (Ki .i64) r78.2.2.2.2)], 158, none⟩])) [0] [1, 2] (by decide) (pick_cons rfl pick_nil) (pick_cons rfl (pick_cons rfl pick_nil)) (Hn := fun x : Unit => [⟨.pointer (some wa0), [(Vl (.int .i64 r78.1)), (Vl (.int .i64 r78.2.1)), (Sl Kf r78.2.2.1), (Vl (.int .i64 r78.2.2.2.1)), (Sl (Ki .i64) r78.2.2.2.2)], 158, none⟩, ⟨.pointer (some q3), [(Vl (.int .i64 4)), (Vl (.int .i64 0)), (Vl (.int .i64 r15.2.2.2.1)), (Vl (.slice none 0 0)), (Vl (.slice none 0 0)), (Vl (.slice none 0 0)), (Vl (.slice none 0 0))], 27, none⟩, ⟨.pointer (some q2), [(Vl (.int .i64 0)), (Vl (.int .i64 0)), (Vl (.int .i64 0)), (Vl (.slice none 0 0)), (Vl (.slice none 0 0)), (Vl (.slice none 0 0)), (Vl (.slice none 0 0))], 27, none⟩]) (fun _ => rfl) rfl rfl) (wt_none' rfl) fun ⟨⟩ => ?_
    obtain ⟨r79, hr79, hp⟩ := bind_some hp
    refine sx_ox' (ox_calln' (ent_fn' Try.func51 isn51 rfl rfl) (impl_intss_v2_sim hr79 : Go.Sx.Fn Try.prog 51 [(Vl (.slice none 0 0))] [] (fun x : Unit => (Vl (.slice none 0 0))) (fun x => [])) (Hn := fun x : Unit => [⟨.pointer (some wa0), [(Vl (.int .i64 r78.1)), (Vl (.int .i64 r78.2.1)), (Sl Kf r78.2.2.1), (Vl (.int .i64 r78.2.2.2.1)), (Sl (Ki .i64) r78.2.2.2.2)], 158, none⟩, ⟨.pointer (some q3), [(Vl (.int .i64 4)), (Vl (.int .i64 0)), (Vl (.int .i64 r15.2.2.2.1)), (Vl (.slice none 0 0)), (Vl (.slice none 0 0)), (Vl (.slice none 0 0)), (Vl (.slice none 0 0))], 27, none⟩, ⟨.pointer (some q2), [(Vl (.int .i64 0)), (Vl (.int .i64 0)), (Vl (.int .i64 0)), (Vl (.slice none 0 0)), (Vl (.slice none 0 0)), (Vl (.slice none 0 0)), (Vl (.slice none 0 0))], 27, none⟩]) (fun _ => rfl) rfl rfl) (wt_none' rfl) fun ⟨⟩ => ?_
    refine sx_rd' (rd_field' (off := 1) rfl Try.underlying27 rfl info3 rfl) rfl rfl (wt_none' rfl) ?_
    refine sx_ox' (ox_store' (i := 1) (o := 1) rfl rfl (lv_vl rfl rfl) ⟨rfl, rfl, rfl, rfl⟩ rfl info3 rfl (H' := [⟨.pointer (some wa0), [(Vl (.int .i64 r78.1)), (Vl (.int .i64 r78.2.1)), (Sl Kf r78.2.2.1), (Vl (.int .i64 r78.2.2.2.1)), (Sl (Ki .i64) r78.2.2.2.2)], 158, none⟩, ⟨.pointer (some q3), [(Vl (.int .i64 4)), (Vl (.int .i64 r70.1)), (Vl (.int .i64 r15.2.2.2.1)), (Vl (.slice none 0 0)), (Vl (.slice none 0 0)), (Vl (.slice none 0 0)), (Vl (.slice none 0 0))], 27, none⟩, ⟨.pointer (some q2), [(Vl (.int .i64 0)), (Vl (.int .i64 0)), (Vl (.int .i64 0)), (Vl (.slice none 0 0)), (Vl (.slice none 0 0)), (Vl (.slice none 0 0)), (Vl (.slice none 0 0))], 27, none⟩]) rfl) (wt_none' rfl) fun _ => ?_
    refine sx_rd' (rd_field' (off := 3) rfl Try.underlying27 rfl info22 rfl) rfl rfl (wt_none' rfl) ?_
    refine sx_ox' (ox_store' (i := 1) (o := 3) rfl rfl (lv_sl _ _) ⟨rfl, rfl, rfl, rfl⟩ rfl info22 rfl (H' := [⟨.pointer (some wa0), [(Vl (.int .i64 r78.1)), (Vl (.int .i64 r78.2.1)), (Sl Kf r78.2.2.1), (Vl (.int .i64 r78.2.2.2.1)), (Sl (Ki .i64) r78.2.2.2.2)], 158, none⟩, ⟨.pointer (some q3), [(Vl (.int .i64 4)), (Vl (.int .i64 r70.1)), (Vl (.int .i64 r15.2.2.2.1)), (Sl Kf r73), (Vl (.slice none 0 0)), (Vl (.slice none 0 0)), (Vl (.slice none 0 0))], 27, none⟩, ⟨.pointer (some q2), [(Vl (.int .i64 0)), (Vl (.int .i64 0)), (Vl (.int .i64 0)), (Vl (.slice none 0 0)), (Vl (.slice none 0 0)), (Vl (.slice none 0 0)), (Vl (.slice none 0 0))], 27, none⟩]) rfl) (wt_none' rfl) fun _ => ?_
    refine sx_rd' (rd_field' (off := 4) rfl Try.underlying27 rfl info23 rfl) rfl rfl (wt_none' rfl) ?_
    refine sx_ox' (ox_store' (i := 1) (o := 4) rfl rfl (lv_vl rfl rfl) ⟨rfl, rfl, rfl, rfl⟩ rfl info23 rfl (H' := [⟨.pointer (some wa0), [(Vl (.int .i64 r78.1)), (Vl (.int .i64 r78.2.1)), (Sl Kf r78.2.2.1), (Vl (.int .i64 r78.2.2.2.1)), (Sl (Ki .i64) r78.2.2.2.2)], 158, none⟩, ⟨.pointer (some q3), [(Vl (.int .i64 4)), (Vl (.int .i64 r70.1)), (Vl (.int .i64 r15.2.2.2.1)), (Sl Kf r73), (Vl (.slice none 0 0)), (Vl (.slice none 0 0)), (Vl (.slice none 0 0))], 27, none⟩, ⟨.pointer (some q2), [(Vl (.int .i64 0)), (Vl (.int .i64 0)), (Vl (.int .i64 0)), (Vl (.slice none 0 0)), (Vl (.slice none 0 0)), (Vl (.slice none 0 0)), (Vl (.slice none 0 0))], 27, none⟩]) rfl) (wt_none' rfl) fun _ => ?_
    refine sx_rd' (rd_field' (off := 5) rfl Try.underlying27 rfl info24 rfl) rfl rfl (wt_none' rfl) ?_
    refine sx_ox' (ox_store' (i := 1) (o := 5) rfl rfl (lv_vl rfl rfl) ⟨rfl, rfl, rfl, rfl⟩ rfl info24 rfl (H' := [⟨.pointer (some wa0), [(Vl (.int .i64 r78.1)), (Vl (.int .i64 r78.2.1)), (Sl Kf r78.2.2.1), (Vl (.int .i64 r78.2.2.2.1)), (Sl (Ki .i64) r78.2.2.2.2)], 158, none⟩, ⟨.pointer (some q3), [(Vl (.int .i64 4)), (Vl (.int .i64 r70.1)), (Vl (.int .i64 r15.2.2.2.1)), (Sl Kf r73), (Vl (.slice none 0 0)), (Vl (.slice none 0 0)), (Vl (.slice none 0 0))], 27, none⟩, ⟨.pointer (some q2), [(Vl (.int .i64 0)), (Vl (.int .i64 0)), (Vl (.int .i64 0)), (Vl (.slice none 0 0)), (Vl (.slice none 0 0)), (Vl (.slice none 0 0)), (Vl (.slice none 0 0))], 27, none⟩]) rfl) (wt_none' rfl) fun _ => ?_
    refine sx_nil' ?_
    show TX E K11 _
    refine tx_k' hK11 ?_
    refine cx_seq' fun K12 hK12 => ?_
    refine cx_region' ?_
    refine sx_rd' (rd_load_agg' (i := 1) (o := 0) (nn := 7) rfl ⟨rfl, rfl, rfl, rfl⟩ rfl agg27 (l' := [(Vl (.int .i64 4)), (Vl (.int .i64 r70.1)), (Vl (.int .i64 r15.2.2.2.1)), (Sl Kf r73), (Vl (.slice none 0 0)), (Vl (.slice none 0 0)), (Vl (.slice none 0 0))]) rfl) rfl rfl (wt_none' rfl) ?_
    refine sx_ox' (ox_store' (i := 2) (o := 0) rfl rfl (lv_ag _) ⟨rfl, rfl, rfl, rfl⟩ rfl info27 rfl (H' := [⟨.pointer (some wa0), [(Vl (.int .i64 r78.1)), (Vl (.int .i64 r78.2.1)), (Sl Kf r78.2.2.1), (Vl (.int .i64 r78.2.2.2.1)), (Sl (Ki .i64) r78.2.2.2.2)], 158, none⟩, ⟨.pointer (some q3), [(Vl (.int .i64 4)), (Vl (.int .i64 r70.1)), (Vl (.int .i64 r15.2.2.2.1)), (Sl Kf r73), (Vl (.slice none 0 0)), (Vl (.slice none 0 0)), (Vl (.slice none 0 0))], 27, none⟩, ⟨.pointer (some q2), [(Vl (.int .i64 4)), (Vl (.int .i64 r70.1)), (Vl (.int .i64 r15.2.2.2.1)), (Sl Kf r73), (Vl (.slice none 0 0)), (Vl (.slice none 0 0)), (Vl (.slice none 0 0))], 27, none⟩]) rfl) (wt_none' rfl) fun _ => ?_
    refine sx_nil' ?_
    show TX E K12 _
    refine tx_k' hK12 ?_
    refine cx_retc' ?_
    replace hp := Option.some.inj hp
    subst hp
    refine tx_pick' (L' := [(2, (Vl (.pointer (some q2))))]) (H' := [⟨.pointer (some wa0), [(Vl (.int .i64 r78.1)), (Vl (.int .i64 r78.2.1)), (Sl Kf r78.2.2.1), (Vl (.int .i64 r78.2.2.2.1)), (Sl (Ki .i64) r78.2.2.2.2)], 158, none⟩, ⟨.pointer (some q2), [(Vl (.int .i64 4)), (Vl (.int .i64 r70.1)), (Vl (.int .i64 r15.2.2.2.1)), (Sl Kf r73), (Vl (.slice none 0 0)), (Vl (.slice none 0 0)), (Vl (.slice none 0 0))], 27, none⟩]) [0, 2] (sub_cons rfl sub_nil) (by decide) (pick_cons rfl (pick_cons rfl pick_nil)) ?_
    exact tx_ret1' Try.results44 rfl () (rv_imp' (x := (Ag [(Vl (.int .i64 4)), (Vl (.int .i64 r70.1)), (Vl (.int .i64 r15.2.2.2.1)), (Sl Kf r73), (Vl (.slice none 0 0)), (Vl (.slice none 0 0)), (Vl (.slice none 0 0))])) (y := (Ag [(Vl (.int .i64 4)), (Vl (.int .i64 r70.1)), (Vl (.int .i64 r15.2.2.2.1)), (Sl Kf r73), (Sl (Ki .i64) []), (Vl (.slice none 0 0)), (Vl (.slice none 0 0))])) (rv_cell_agg' (i := 1) (o := 0) (nn := 7) rfl ⟨rfl, rfl, rfl, rfl⟩ rfl agg27 rfl) (imp_ag ⟨imp_refl, imp_refl, imp_refl, imp_refl, imp_nil, imp_refl, imp_refl, trivial⟩)) (List.Sublist.cons_cons _ (List.nil_sublist _))
  · dsimp only at hp
    refine sx_ox' (ox_calln' (ent_fn' Try.func84 isn84 rfl rfl) (impl_ints_sim _ hr76 : Go.Sx.Fn Try.prog 84 [(Sl (Ki .i64) r75.2.2.2.2)] [] (fun x : Unit => (Sl (Ki .i64) y1)) (fun x => [])) (Hn := fun x : Unit => [⟨.pointer (some wa0), [(Vl (.int .i64 r75.1)), (Vl (.int .i64 r75.2.1)), (Sl Kf r75.2.2.1), (Vl (.int .i64 r75.2.2.2.1)), (Sl (Ki .i64) r75.2.2.2.2)], 158, none⟩, ⟨.pointer (some q3), [(Vl (.int .i64 4)), (Vl (.int .i64 0)), (Vl (.int .i64 r15.2.2.2.1)), (Vl (.slice none 0 0)), (Vl (.slice none 0 0)), (Vl (.slice none 0 0)), (Vl (.slice none 0 0))], 27, none⟩, ⟨.pointer (some q2), [(Vl (.int .i64 0)), (Vl (.int .i64 0)), (Vl (.int .i64 0)), (Vl (.slice none 0 0)), (Vl (.slice none 0 0)), (Vl (.slice none 0 0)), (Vl (.slice none 0 0))], 27, none⟩]) (fun _ => rfl) rfl rfl) (wt_none' rfl) fun ⟨⟩ => ?_
    refine sx_rd' (rd_move' rfl) rfl rfl (wt_none' rfl) ?_
    obtain ⟨r78, hr78, hp⟩ := bind_some hp
    refine sx_ox' (ox_callg' (ent_inv' rfl rfl (inv_ptr0 (inv90_Endss _))) (gogeom_geom0_Endss_v5_sim _ _ _ _ _ hr78 : Go.Sx.Fn Try.prog 146 [(Vl (.pointer (some wa0)))] [⟨.pointer (some wa0), [(Vl (.int .i64 r75.1)), (Vl (.int .i64 r75.2.1)), (Sl Kf r75.2.2.1), (Vl (.int .i64 r75.2.2.2.1)), (Sl (Ki .i64) r75.2.2.2.2)], 158, none⟩] (fun x : Unit => (Vl (.slice none 0 0))) (fun x => [⟨.pointer (some wa0), [(Vl (.int .i64 r78.1)), (Vl (.int .i64 r78.2.1)), (Sl Kf r78.2.2.1), (Vl (.int .i64 r78.2.2.2.1)), (Sl (Ki .i64) r78.2.2.2.2)], 158, none⟩])) [0] [1, 2] (by decide) (pick_cons rfl pick_nil) (pick_cons rfl (pick_cons rfl pick_nil)) (Hn := fun x : Unit => [⟨.pointer (some wa0), [(Vl (.int .i64 r78.1)), (Vl (.int .i64 r78.2.1)), (Sl Kf r78.2.2.1), (Vl (.int .i64 r78.2.2.2.1)), (Sl (Ki .i64) r78.2.2.2.2)], 158, none⟩, ⟨.pointer (some q3), [(Vl (.int .i64 4)), (Vl (.int .i64 0)), (Vl (.int .i64 r15.2.2.2.1)), (Vl (.slice none 0 0)), (Vl (.slice none 0 0)), (Vl (.slice none 0 0)), (Vl (.slice none 0 0))], 27, none⟩, ⟨.pointer (some q2), [(Vl (.int .i64 0)), (Vl (.int .i64 0)), (Vl (.int .i64 0)), (Vl (.slice none 0 0)), (Vl (.slice none 0 0)), (Vl (.slice none 0 0)), (Vl (.slice none 0 0))], 27, none⟩]) (fun _ => rfl) rfl rfl) (wt_none' rfl) fun ⟨⟩ => ?_
    obtain ⟨r79, hr79, hp⟩ := bind_some hp
    refine sx_ox' (ox_calln' (ent_fn' Try.func51 isn51 rfl rfl) (impl_intss_v2_sim hr79 : Go.Sx.Fn Try.prog 51 [(Vl (.slice none 0 0))] [] (fun x : Unit => (Vl (.slice none 0 0))) (fun x => [])) (Hn := fun x : Unit => [⟨.pointer (some wa0), [(Vl (.int .i64 r78.1)), (Vl (.int .i64 r78.2.1)), (Sl Kf r78.2.2.1), (Vl (.int .i64 r78.2.2.2.1)), (Sl (Ki .i64) r78.2.2.2.2)], 158, none⟩, ⟨.pointer (some q3), [(Vl (.int .i64 4)), (Vl (.int .i64 0)), (Vl (.int .i64 r15.2.2.2.1)), (Vl (.slice none 0 0)), (Vl (.slice none 0 0)), (Vl (.slice none 0 0)), (Vl (.slice none 0 0))], 27, none⟩, ⟨.pointer (some q2), [(Vl (.int .i64 0)), (Vl (.int .i64 0)), (Vl (.int .i64 0)), (Vl (.slice none 0 0)), (Vl (.slice none 0 0)), (Vl (.slice none 0 0)), (Vl (.slice none 0 0))], 27, none⟩]) (fun _ => rfl) rfl rfl) (wt_none' rfl) fun ⟨⟩ => ?_
    refine sx_rd' (rd_field' (off := 1) rfl Try.underlying27 rfl info3 rfl) rfl rfl (wt_none' rfl) ?_
    refine sx_ox' (ox_store' (i := 1) (o := 1) rfl rfl (lv_vl rfl rfl) ⟨rfl, rfl, rfl, rfl⟩ rfl info3 rfl (H' := [⟨.pointer (some wa0), [(Vl (.int .i64 r78.1)), (Vl (.int .i64 r78.2.1)), (Sl Kf r78.2.2.1), (Vl (.int .i64 r78.2.2.2.1)), (Sl (Ki .i64) r78.2.2.2.2)], 158, none⟩, ⟨.pointer (some q3), [(Vl (.int .i64 4)), (Vl (.int .i64 r70.1)), (Vl (.int .i64 r15.2.2.2.1)), (Vl (.slice none 0 0)), (Vl (.slice none 0 0)), (Vl (.slice none 0 0)), (Vl (.slice none 0 0))], 27, none⟩, ⟨.pointer (some q2), [(Vl (.int .i64 0)), (Vl (.int .i64 0)), (Vl (.int .i64 0)), (Vl (.slice none 0 0)), (Vl (.slice none 0 0)), (Vl (.slice none 0 0)), (Vl (.slice none 0 0))], 27, none⟩]) rfl) (wt_none' rfl) fun _ => ?_
    refine sx_rd' (rd_field' (off := 3) rfl Try.underlying27 rfl info22 rfl) rfl rfl (wt_none' rfl) ?_
    refine sx_ox' (ox_store' (i := 1) (o := 3) rfl rfl (lv_sl _ _) ⟨rfl, rfl, rfl, rfl⟩ rfl info22 rfl (H' := [⟨.pointer (some wa0), [(Vl (.int .i64 r78.1)), (Vl (.int .i64 r78.2.1)), (Sl Kf r78.2.2.1), (Vl (.int .i64 r78.2.2.2.1)), (Sl (Ki .i64) r78.2.2.2.2)], 158, none⟩, ⟨.pointer (some q3), [(Vl (.int .i64 4)), (Vl (.int .i64 r70.1)), (Vl (.int .i64 r15.2.2.2.1)), (Sl Kf r73), (Vl (.slice none 0 0)), (Vl (.slice none 0 0)), (Vl (.slice none 0 0))], 27, none⟩, ⟨.pointer (some q2), [(Vl (.int .i64 0)), (Vl (.int .i64 0)), (Vl (.int .i64 0)), (Vl (.slice none 0 0)), (Vl (.slice none 0 0)), (Vl (.slice none 0 0)), (Vl (.slice none 0 0))], 27, none⟩]) rfl) (wt_none' rfl) fun _ => ?_
    refine sx_rd' (rd_field' (off := 4) rfl Try.underlying27 rfl info23 rfl) rfl rfl (wt_none' rfl) ?_
    refine sx_ox' (ox_store' (i := 1) (o := 4) rfl rfl (lv_sl _ _) ⟨rfl, rfl, rfl, rfl⟩ rfl info23 rfl (H' := [⟨.pointer (some wa0), [(Vl (.int .i64 r78.1)), (Vl (.int .i64 r78.2.1)), (Sl Kf r78.2.2.1), (Vl (.int .i64 r78.2.2.2.1)), (Sl (Ki .i64) r78.2.2.2.2)], 158, none⟩, ⟨.pointer (some q3), [(Vl (.int .i64 4)), (Vl (.int .i64 r70.1)), (Vl (.int .i64 r15.2.2.2.1)), (Sl Kf r73), (Sl (Ki .i64) y1), (Vl (.slice none 0 0)), (Vl (.slice none 0 0))], 27, none⟩, ⟨.pointer (some q2), [(Vl (.int .i64 0)), (Vl (.int .i64 0)), (Vl (.int .i64 0)), (Vl (.slice none 0 0)), (Vl (.slice none 0 0)), (Vl (.slice none 0 0)), (Vl (.slice none 0 0))], 27, none⟩]) rfl) (wt_none' rfl) fun _ => ?_
    refine sx_rd' (rd_field' (off := 5) rfl Try.underlying27 rfl info24 rfl) rfl rfl (wt_none' rfl) ?_
    refine sx_ox' (ox_store' (i := 1) (o := 5) rfl rfl (lv_vl rfl rfl) ⟨rfl, rfl, rfl, rfl⟩ rfl info24 rfl (H' := [⟨.pointer (some wa0), [(Vl (.int .i64 r78.1)), (Vl (.int .i64 r78.2.1)), (Sl Kf r78.2.2.1), (Vl (.int .i64 r78.2.2.2.1)), (Sl (Ki .i64) r78.2.2.2.2)], 158, none⟩, ⟨.pointer (some q3), [(Vl (.int .i64 4)), (Vl (.int .i64 r70.1)), (Vl (.int .i64 r15.2.2.2.1)), (Sl Kf r73), (Sl (Ki .i64) y1), (Vl (.slice none 0 0)), (Vl (.slice none 0 0))], 27, none⟩, ⟨.pointer (some q2), [(Vl (.int .i64 0)), (Vl (.int .i64 0)), (Vl (.int .i64 0)), (Vl (.slice none 0 0)), (Vl (.slice none 0 0)), (Vl (.slice none 0 0)), (Vl (.slice none 0 0))], 27, none⟩]) rfl) (wt_none' rfl) fun _ => ?_
    refine sx_nil' ?_
    show TX E K11 _
    refine tx_k' hK11 ?_
    refine cx_seq' fun K12 hK12 => ?_
    refine cx_region' ?_
    refine sx_rd' (rd_load_agg' (i := 1) (o := 0) (nn := 7) rfl ⟨rfl, rfl, rfl, rfl⟩ rfl agg27 (l' := [(Vl (.int .i64 4)), (Vl (.int .i64 r70.1)), (Vl (.int .i64 r15.2.2.2.1)), (Sl Kf r73), (Sl (Ki .i64) y1), (Vl (.slice none 0 0)), (Vl (.slice none 0 0))]) rfl) rfl rfl (wt_none' rfl) ?_
    refine sx_ox' (ox_store' (i := 2) (o := 0) rfl rfl (lv_ag _) ⟨rfl, rfl, rfl, rfl⟩ rfl info27 rfl (H' := [⟨.pointer (some wa0), [(Vl (.int .i64 r78.1)), (Vl (.int .i64 r78.2.1)), (Sl Kf r78.2.2.1), (Vl (.int .i64 r78.2.2.2.1)), (Sl (Ki .i64) r78.2.2.2.2)], 158, none⟩, ⟨.pointer (some q3), [(Vl (.int .i64 4)), (Vl (.int .i64 r70.1)), (Vl (.int .i64 r15.2.2.2.1)), (Sl Kf r73), (Sl (Ki .i64) y1), (Vl (.slice none 0 0)), (Vl (.slice none 0 0))], 27, none⟩, ⟨.pointer (some q2), [(Vl (.int .i64 4)), (Vl (.int .i64 r70.1)), (Vl (.int .i64 r15.2.2.2.1)), (Sl Kf r73), (Sl (Ki .i64) y1), (Vl (.slice none 0 0)), (Vl (.slice none 0 0))], 27, none⟩]) rfl) (wt_none' rfl) fun _ => ?_
    refine sx_nil' ?_
    show TX E K12 _
    refine tx_k' hK12 ?_
    refine cx_retc' ?_
    replace hp := Option.some.inj hp
    subst hp
    refine tx_pick' (L' := [(2, (Vl (.pointer (some q2))))]) (H' := [⟨.pointer (some wa0), [(Vl (.int .i64 r78.1)), (Vl (.int .i64 r78.2.1)), (Sl Kf r78.2.2.1), (Vl (.int .i64 r78.2.2.2.1)), (Sl (Ki .i64) r78.2.2.2.2)], 158, none⟩, ⟨.pointer (some q2), [(Vl (.int .i64 4)), (Vl (.int .i64 r70.1)), (Vl (.int .i64 r15.2.2.2.1)), (Sl Kf r73), (Sl (Ki .i64) y1), (Vl (.slice none 0 0)), (Vl (.slice none 0 0))], 27, none⟩]) [0, 2] (sub_cons rfl sub_nil) (by decide) (pick_cons rfl (pick_cons rfl pick_nil)) ?_
    exact tx_ret1' Try.results44 rfl () (rv_cell_agg' (i := 1) (o := 0) (nn := 7) rfl ⟨rfl, rfl, rfl, rfl⟩ rfl agg27 rfl) (List.Sublist.cons_cons _ (List.nil_sublist _))

def gogeom_SetSRID_v6 (k : Nat) (a0_0 : Int) (a0_1 : Int) (a0_2 : List Nat) (a0_3 : Int) (a0_4 : List Int) (a1 : Int) : Option (Int × Int × (List Nat) × Int × (List Int)) :=
  (gogeom_MultiLineString_SetSRID_v2 k a0_0 a0_1 a0_2 a0_3 a0_4 a1) >>= fun r61 =>
  some (r61.1, r61.2.1, r61.2.2.1, r61.2.2.2.1, r61.2.2.2.2)

theorem gogeom_SetSRID_v6_sim {k : Nat} {wa0 : Addr} (a0_0 : Int) (a0_1 : Int) (a0_2 : List Nat) (a0_3 : Int) (a0_4 : List Int) (a1 : Int) {out : Int × Int × (List Nat) × Int × (List Int)} (hp : gogeom_SetSRID_v6 k a0_0 a0_1 a0_2 a0_3 a0_4 a1 = some out) : Go.Sx.Fn Try.prog 58 [(If 92 (Vl (.pointer (some wa0)))), (Vl (.int .i64 a1))] [⟨.pointer (some wa0), [(Vl (.int .i64 a0_0)), (Vl (.int .i64 a0_1)), (Sl Kf a0_2), (Vl (.int .i64 a0_3)), (Sl (Ki .i64) a0_4)], 161, none⟩] (fun w : Unit => (Tu [(If 92 (Vl (.pointer (some wa0)))), (Vl .nilIface)])) (fun w => [⟨.pointer (some wa0), [(Vl (.int .i64 out.1)), (Vl (.int .i64 out.2.1)), (Sl Kf out.2.2.1), (Vl (.int .i64 out.2.2.2.1)), (Sl (Ki .i64) out.2.2.2.2)], 161, none⟩]) := by
  unfold gogeom_SetSRID_v6 at hp
  refine fn_of Try.func58 rfl Try.ntmps58 rfl fun E hM => ?_
  refine cx_seq' fun K1 hK1 => ?_
  refine cx_region' ?_
  refine sx_rd' (rd_assign' rfl) rfl rfl (wt_none' rfl) ?_
  refine sx_rd' (rd_assign' rfl) rfl rfl (wt_none' rfl) ?_
  refine sx_nil' ?_
  show TX E K1 _
  refine tx_k' hK1 ?_
  refine cx_seq' fun K2 hK2 => ?_
  refine cx_region' ?_
  refine sx_rd' (rd_move' rfl) rfl rfl (wt_none' rfl) ?_
  refine sx_nil' ?_
  show TX E K2 _
  refine tx_k' hK2 ?_
  refine cx_block' ?_
  refine cx_seq' fun K3 hK3 => ?_
  refine cx_region' ?_
  refine sx_rd' (rd_assert' rfl (F := fun _ => .tuple #[.pointer none, .bool false]) as92_75_60 as_no) rfl rfl (wt_none' rfl) ?_
  refine sx_rd' (rd_extract' rfl rfl) rfl rfl (wt_none' rfl) ?_
  refine sx_rd' (rd_extract' rfl rfl) rfl rfl (wt_none' rfl) ?_
  refine sx_nil' ?_
  show TX E K3 _
  refine tx_k' hK3 ?_
  refine cx_cond_f' rfl rfl ?_
  refine cx_seq' fun K4 hK4 => ?_
  refine cx_region' ?_
  refine sx_rd' (rd_assert' rfl (F := fun _ => .tuple #[.pointer none, .bool false]) as92_75_94 as_no) rfl rfl (wt_none' rfl) ?_
  refine sx_rd' (rd_extract' rfl rfl) rfl rfl (wt_none' rfl) ?_
  refine sx_rd' (rd_extract' rfl rfl) rfl rfl (wt_none' rfl) ?_
  refine sx_nil' ?_
  show TX E K4 _
  refine tx_k' hK4 ?_
  refine cx_cond_f' rfl rfl ?_
  refine cx_seq' fun K5 hK5 => ?_
  refine cx_region' ?_
  refine sx_rd' (rd_assert' rfl (F := fun _ => .tuple #[.pointer none, .bool false]) as92_75_89 as_no) rfl rfl (wt_none' rfl) ?_
  refine sx_rd' (rd_extract' rfl rfl) rfl rfl (wt_none' rfl) ?_
  refine sx_rd' (rd_extract' rfl rfl) rfl rfl (wt_none' rfl) ?_
  refine sx_nil' ?_
  show TX E K5 _
  refine tx_k' hK5 ?_
  refine cx_cond_f' rfl rfl ?_
  refine cx_seq' fun K6 hK6 => ?_
  refine cx_region' ?_
  refine sx_rd' (rd_assert' rfl (F := fun _ => .tuple #[.pointer none, .bool false]) as92_75_87 as_no) rfl rfl (wt_none' rfl) ?_
  refine sx_rd' (rd_extract' rfl rfl) rfl rfl (wt_none' rfl) ?_
  refine sx_rd' (rd_extract' rfl rfl) rfl rfl (wt_none' rfl) ?_
  refine sx_nil' ?_
  show TX E K6 _
  refine tx_k' hK6 ?_
  refine cx_cond_f' rfl rfl ?_
  refine cx_seq' fun K7 hK7 => ?_
  refine cx_region' ?_
  refine sx_rd' (rd_assert' rfl (F := fun _ => .tuple #[.pointer none, .bool false]) as92_75_90 as_no) rfl rfl (wt_none' rfl) ?_
  refine sx_rd' (rd_extract' rfl rfl) rfl rfl (wt_none' rfl) ?_
  refine sx_rd' (rd_extract' rfl rfl) rfl rfl (wt_none' rfl) ?_
  refine sx_nil' ?_
  show TX E K7 _
  refine tx_k' hK7 ?_
  refine cx_cond_f' rfl rfl ?_
  refine cx_seq' fun K8 hK8 => ?_
  refine cx_region' ?_
  refine sx_rd' (rd_assert' rfl (F := fun v => .tuple #[v, .bool true]) as92_75_92k as_ok) rfl rfl (wt_none' rfl) ?_
  refine sx_rd' (rd_extract' rfl rfl) rfl rfl (wt_none' rfl) ?_
  refine sx_rd' (rd_extract' rfl rfl) rfl rfl (wt_none' rfl) ?_
  refine sx_nil' ?_
  show TX E K8 _
  refine tx_k' hK8 ?_
  refine cx_cond_t' rfl rfl ?_
  refine cx_seq' fun K9 hK9 => ?_
  refine cx_region' ?_
  refine sx_rd' (rd_assign' rfl) rfl rfl (wt_none' rfl) ?_
  refine sx_nil' ?_
  show TX E K9 _
  refine tx_k' hK9 ?_
  refine cx_seq' fun K10 hK10 => ?_
  refine cx_region' ?_
  refine sx_rd' (rd_move' rfl) rfl rfl (wt_none' rfl) ?_
  refine sx_rd' (rd_move' rfl) rfl rfl (wt_none' rfl) ?_
  obtain ⟨r61, hr61, hp⟩ := bind_some hp
  refine sx_ox' (ox_callg' (ent_fn' Try.func98 isn98 rfl rfl) (gogeom_MultiLineString_SetSRID_v2_sim _ _ _ _ _ _ hr61 : Go.Sx.Fn Try.prog 98 [(Vl (.pointer (some wa0))), (Vl (.int .i64 a1))] [⟨.pointer (some wa0), [(Vl (.int .i64 a0_0)), (Vl (.int .i64 a0_1)), (Sl Kf a0_2), (Vl (.int .i64 a0_3)), (Sl (Ki .i64) a0_4)], 161, none⟩] (fun x : Unit => (Vl (.pointer (some wa0)))) (fun x => [⟨.pointer (some wa0), [(Vl (.int .i64 r61.1)), (Vl (.int .i64 r61.2.1)), (Sl Kf r61.2.2.1), (Vl (.int .i64 r61.2.2.2.1)), (Sl (Ki .i64) r61.2.2.2.2)], 161, none⟩])) [0] [] (by decide) (pick_cons rfl pick_nil) pick_nil (Hn := fun x : Unit => [⟨.pointer (some wa0), [(Vl (.int .i64 r61.1)), (Vl (.int .i64 r61.2.1)), (Sl Kf r61.2.2.1), (Vl (.int .i64 r61.2.2.2.1)), (Sl (Ki .i64) r61.2.2.2.2)], 161, none⟩]) (fun _ => rfl) rfl rfl) (wt_none' rfl) fun ⟨⟩ => ?_
  refine sx_rd' (rd_iface' rfl ⟨_, Try.underlying92, fun _ h => (nomatch h)⟩) rfl rfl (wt_none' rfl) ?_
  refine sx_rd' (rd_assign' rfl) rfl rfl (wt_none' rfl) ?_
  refine sx_rd' (rd_assign' rfl) rfl rfl (wt_none' rfl) ?_
  refine sx_nil' ?_
  show TX E K10 _
  refine tx_k' hK10 ?_
  refine cx_retc' ?_
  replace hp := Option.some.inj hp
  subst hp
  refine tx_pick' (L' := [(4, (If 92 (Vl (.pointer (some wa0))))), (5, (Vl .nilIface))]) (H' := [⟨.pointer (some wa0), [(Vl (.int .i64 r61.1)), (Vl (.int .i64 r61.2.1)), (Sl Kf r61.2.2.1), (Vl (.int .i64 r61.2.2.2.1)), (Sl (Ki .i64) r61.2.2.2.2)], 161, none⟩]) [0] (sub_cons rfl (sub_cons rfl sub_nil)) (by decide) (pick_cons rfl pick_nil) ?_
  exact tx_ret2' Try.results58 rfl () (rv_tmp' rfl) (rv_tmp' rfl) rfl (List.Sublist.refl _)

def gogeom_geom0_SRID_v6 (k : Nat) (a0_0 : Int) (a0_1 : Int) (a0_2 : List Nat) (a0_3 : Int) (a0_4 : List Int) : Option (Int × Int × (List Nat) × Int × (List Int)) :=
  some (a0_0, a0_1, a0_2, a0_3, a0_4)

theorem gogeom_geom0_SRID_v6_sim {k : Nat} {wa0 : Addr} (a0_0 : Int) (a0_1 : Int) (a0_2 : List Nat) (a0_3 : Int) (a0_4 : List Int) {out : Int × Int × (List Nat) × Int × (List Int)} (hp : gogeom_geom0_SRID_v6 k a0_0 a0_1 a0_2 a0_3 a0_4 = some out) : Go.Sx.Fn Try.prog 151 [(Vl (.pointer (some wa0)))] [⟨.pointer (some wa0), [(Vl (.int .i64 a0_0)), (Vl (.int .i64 a0_1)), (Sl Kf a0_2), (Vl (.int .i64 a0_3)), (Sl (Ki .i64) a0_4)], 161, none⟩] (fun w : Unit => (Vl (.int .i64 out.2.2.2.1))) (fun w => [⟨.pointer (some wa0), [(Vl (.int .i64 out.1)), (Vl (.int .i64 out.2.1)), (Sl Kf out.2.2.1), (Vl (.int .i64 out.2.2.2.1)), (Sl (Ki .i64) out.2.2.2.2)], 161, none⟩]) := by
  unfold gogeom_geom0_SRID_v6 at hp
  refine fn_of Try.func151 rfl Try.ntmps151 rfl fun E hM => ?_
  refine cx_seq' fun K1 hK1 => ?_
  refine cx_region' ?_
  refine sx_rd' (rd_assign' rfl) rfl rfl (wt_none' rfl) ?_
  refine sx_nil' ?_
  show TX E K1 _
  refine tx_k' hK1 ?_
  refine cx_seq' fun K2 hK2 => ?_
  refine cx_region' ?_
  refine sx_rd' (rd_move' rfl) rfl rfl (wt_none' rfl) ?_
  refine sx_rd' (rd_nilck' rfl) rfl rfl (wt_none' rfl) ?_
  refine sx_rd' (rd_field' (off := 3) rfl Try.underlying112 rfl info3 rfl) rfl rfl (wt_none' rfl) ?_
  refine sx_rd' (rd_load' (i := 0) (o := 3) rfl ⟨rfl, rfl, rfl, rfl⟩ rfl flat3) rfl rfl (wt_none' rfl) ?_
  refine sx_rd' (rd_assign' rfl) rfl rfl (wt_none' rfl) ?_
  refine sx_nil' ?_
  show TX E K2 _
  refine tx_k' hK2 ?_
  refine cx_retc' ?_
  replace hp := Option.some.inj hp
  subst hp
  refine tx_pick' (L' := [(2, (Vl (.int .i64 a0_3)))]) (H' := [⟨.pointer (some wa0), [(Vl (.int .i64 a0_0)), (Vl (.int .i64 a0_1)), (Sl Kf a0_2), (Vl (.int .i64 a0_3)), (Sl (Ki .i64) a0_4)], 161, none⟩]) [0] (sub_cons rfl sub_nil) (by decide) (pick_cons rfl pick_nil) ?_
  exact tx_ret1' Try.results151 rfl () (rv_tmp' rfl) (List.Sublist.refl _)

def gogeom_geom0_Layout_v6 (k : Nat) (a0_0 : Int) (a0_1 : Int) (a0_2 : List Nat) (a0_3 : Int) (a0_4 : List Int) : Option (Int × Int × (List Nat) × Int × (List Int)) :=
  some (a0_0, a0_1, a0_2, a0_3, a0_4)

theorem gogeom_geom0_Layout_v6_sim {k : Nat} {wa0 : Addr} (a0_0 : Int) (a0_1 : Int) (a0_2 : List Nat) (a0_3 : Int) (a0_4 : List Int) {out : Int × Int × (List Nat) × Int × (List Int)} (hp : gogeom_geom0_Layout_v6 k a0_0 a0_1 a0_2 a0_3 a0_4 = some out) : Go.Sx.Fn Try.prog 148 [(Vl (.pointer (some wa0)))] [⟨.pointer (some wa0), [(Vl (.int .i64 a0_0)), (Vl (.int .i64 a0_1)), (Sl Kf a0_2), (Vl (.int .i64 a0_3)), (Sl (Ki .i64) a0_4)], 161, none⟩] (fun w : Unit => (Vl (.int .i64 out.1))) (fun w => [⟨.pointer (some wa0), [(Vl (.int .i64 out.1)), (Vl (.int .i64 out.2.1)), (Sl Kf out.2.2.1), (Vl (.int .i64 out.2.2.2.1)), (Sl (Ki .i64) out.2.2.2.2)], 161, none⟩]) := by
  unfold gogeom_geom0_Layout_v6 at hp
  refine fn_of Try.func148 rfl Try.ntmps148 rfl fun E hM => ?_
  refine cx_seq' fun K1 hK1 => ?_
  refine cx_region' ?_
  refine sx_rd' (rd_assign' rfl) rfl rfl (wt_none' rfl) ?_
  refine sx_nil' ?_
  show TX E K1 _
  refine tx_k' hK1 ?_
  refine cx_seq' fun K2 hK2 => ?_
  refine cx_region' ?_
  refine sx_rd' (rd_move' rfl) rfl rfl (wt_none' rfl) ?_
  refine sx_rd' (rd_nilck' rfl) rfl rfl (wt_none' rfl) ?_
  refine sx_rd' (rd_field0' rfl Try.underlying112 rfl info65 rfl) rfl rfl (wt_none' rfl) ?_
  refine sx_rd' (rd_load' (i := 0) (o := 0) rfl ⟨rfl, rfl, rfl, rfl⟩ rfl flat65) rfl rfl (wt_none' rfl) ?_
  refine sx_rd' (rd_assign' rfl) rfl rfl (wt_none' rfl) ?_
  refine sx_nil' ?_
  show TX E K2 _
  refine tx_k' hK2 ?_
  refine cx_retc' ?_
  replace hp := Option.some.inj hp
  subst hp
  refine tx_pick' (L' := [(2, (Vl (.int .i64 a0_0)))]) (H' := [⟨.pointer (some wa0), [(Vl (.int .i64 a0_0)), (Vl (.int .i64 a0_1)), (Sl Kf a0_2), (Vl (.int .i64 a0_3)), (Sl (Ki .i64) a0_4)], 161, none⟩]) [0] (sub_cons rfl sub_nil) (by decide) (pick_cons rfl pick_nil) ?_
  exact tx_ret1' Try.results148 rfl () (rv_tmp' rfl) (List.Sublist.refl _)

def gogeom_geom0_FlatCoords_v6 (k : Nat) (a0_0 : Int) (a0_1 : Int) (a0_2 : List Nat) (a0_3 : Int) (a0_4 : List Int) : Option (Int × Int × (List Nat) × Int × (List Int)) :=
  some (a0_0, a0_1, a0_2, a0_3, a0_4)

theorem gogeom_geom0_FlatCoords_v6_sim {k : Nat} {wa0 : Addr} (a0_0 : Int) (a0_1 : Int) (a0_2 : List Nat) (a0_3 : Int) (a0_4 : List Int) {out : Int × Int × (List Nat) × Int × (List Int)} (hp : gogeom_geom0_FlatCoords_v6 k a0_0 a0_1 a0_2 a0_3 a0_4 = some out) : Go.Sx.Fn Try.prog 147 [(Vl (.pointer (some wa0)))] [⟨.pointer (some wa0), [(Vl (.int .i64 a0_0)), (Vl (.int .i64 a0_1)), (Sl Kf a0_2), (Vl (.int .i64 a0_3)), (Sl (Ki .i64) a0_4)], 161, none⟩] (fun w : Unit => (Sl Kf out.2.2.1)) (fun w => [⟨.pointer (some wa0), [(Vl (.int .i64 out.1)), (Vl (.int .i64 out.2.1)), (Sl Kf out.2.2.1), (Vl (.int .i64 out.2.2.2.1)), (Sl (Ki .i64) out.2.2.2.2)], 161, none⟩]) := by
  unfold gogeom_geom0_FlatCoords_v6 at hp
  refine fn_of Try.func147 rfl Try.ntmps147 rfl fun E hM => ?_
  refine cx_seq' fun K1 hK1 => ?_
  refine cx_region' ?_
  refine sx_rd' (rd_assign' rfl) rfl rfl (wt_none' rfl) ?_
  refine sx_nil' ?_
  show TX E K1 _
  refine tx_k' hK1 ?_
  refine cx_seq' fun K2 hK2 => ?_
  refine cx_region' ?_
  refine sx_rd' (rd_move' rfl) rfl rfl (wt_none' rfl) ?_
  refine sx_rd' (rd_nilck' rfl) rfl rfl (wt_none' rfl) ?_
  refine sx_rd' (rd_field' (off := 2) rfl Try.underlying112 rfl info22 rfl) rfl rfl (wt_none' rfl) ?_
  refine sx_rd' (rd_load' (i := 0) (o := 2) rfl ⟨rfl, rfl, rfl, rfl⟩ rfl flat22) rfl rfl (wt_none' rfl) ?_
  refine sx_rd' (rd_assign' rfl) rfl rfl (wt_none' rfl) ?_
  refine sx_nil' ?_
  show TX E K2 _
  refine tx_k' hK2 ?_
  refine cx_retc' ?_
  replace hp := Option.some.inj hp
  subst hp
  refine tx_pick' (L' := [(2, (Sl Kf a0_2))]) (H' := [⟨.pointer (some wa0), [(Vl (.int .i64 a0_0)), (Vl (.int .i64 a0_1)), (Sl Kf a0_2), (Vl (.int .i64 a0_3)), (Sl (Ki .i64) a0_4)], 161, none⟩]) [0] (sub_cons rfl sub_nil) (by decide) (pick_cons rfl pick_nil) ?_
  exact tx_ret1' Try.results147 rfl () (rv_tmp' rfl) (List.Sublist.refl _)

def gogeom_geom2_Ends_v3 (k : Nat) (a0_0 : Int) (a0_1 : Int) (a0_2 : List Nat) (a0_3 : Int) (a0_4 : List Int) : Option (Int × Int × (List Nat) × Int × (List Int)) :=
  some (a0_0, a0_1, a0_2, a0_3, a0_4)

theorem gogeom_geom2_Ends_v3_sim {k : Nat} {wa0 : Addr} (a0_0 : Int) (a0_1 : Int) (a0_2 : List Nat) (a0_3 : Int) (a0_4 : List Int) {out : Int × Int × (List Nat) × Int × (List Int)} (hp : gogeom_geom2_Ends_v3 k a0_0 a0_1 a0_2 a0_3 a0_4 = some out) : Go.Sx.Fn Try.prog 165 [(Vl (.pointer (some wa0)))] [⟨.pointer (some wa0), [(Vl (.int .i64 a0_0)), (Vl (.int .i64 a0_1)), (Sl Kf a0_2), (Vl (.int .i64 a0_3)), (Sl (Ki .i64) a0_4)], 161, none⟩] (fun w : Unit => (Sl (Ki .i64) out.2.2.2.2)) (fun w => [⟨.pointer (some wa0), [(Vl (.int .i64 out.1)), (Vl (.int .i64 out.2.1)), (Sl Kf out.2.2.1), (Vl (.int .i64 out.2.2.2.1)), (Sl (Ki .i64) out.2.2.2.2)], 161, none⟩]) := by
  unfold gogeom_geom2_Ends_v3 at hp
  refine fn_of Try.func165 rfl Try.ntmps165 rfl fun E hM => ?_
  refine cx_seq' fun K1 hK1 => ?_
  refine cx_region' ?_
  refine sx_rd' (rd_assign' rfl) rfl rfl (wt_none' rfl) ?_
  refine sx_nil' ?_
  show TX E K1 _
  refine tx_k' hK1 ?_
  refine cx_seq' fun K2 hK2 => ?_
  refine cx_region' ?_
  refine sx_rd' (rd_move' rfl) rfl rfl (wt_none' rfl) ?_
  refine sx_rd' (rd_nilck' rfl) rfl rfl (wt_none' rfl) ?_
  refine sx_rd' (rd_field' (off := 4) rfl Try.underlying153 rfl info23 rfl) rfl rfl (wt_none' rfl) ?_
  refine sx_rd' (rd_load' (i := 0) (o := 4) rfl ⟨rfl, rfl, rfl, rfl⟩ rfl flat23) rfl rfl (wt_none' rfl) ?_
  refine sx_rd' (rd_assign' rfl) rfl rfl (wt_none' rfl) ?_
  refine sx_nil' ?_
  show TX E K2 _
  refine tx_k' hK2 ?_
  refine cx_retc' ?_
  replace hp := Option.some.inj hp
  subst hp
  refine tx_pick' (L' := [(2, (Sl (Ki .i64) a0_4))]) (H' := [⟨.pointer (some wa0), [(Vl (.int .i64 a0_0)), (Vl (.int .i64 a0_1)), (Sl Kf a0_2), (Vl (.int .i64 a0_3)), (Sl (Ki .i64) a0_4)], 161, none⟩]) [0] (sub_cons rfl sub_nil) (by decide) (pick_cons rfl pick_nil) ?_
  exact tx_ret1' Try.results165 rfl () (rv_tmp' rfl) (List.Sublist.refl _)

def gogeom_geom0_Endss_v6 (k : Nat) (a0_0 : Int) (a0_1 : Int) (a0_2 : List Nat) (a0_3 : Int) (a0_4 : List Int) : Option (Int × Int × (List Nat) × Int × (List Int)) :=
  some (a0_0, a0_1, a0_2, a0_3, a0_4)

theorem gogeom_geom0_Endss_v6_sim {k : Nat} {wa0 : Addr} (a0_0 : Int) (a0_1 : Int) (a0_2 : List Nat) (a0_3 : Int) (a0_4 : List Int) {out : Int × Int × (List Nat) × Int × (List Int)} (hp : gogeom_geom0_Endss_v6 k a0_0 a0_1 a0_2 a0_3 a0_4 = some out) : Go.Sx.Fn Try.prog 146 [(Vl (.pointer (some wa0)))] [⟨.pointer (some wa0), [(Vl (.int .i64 a0_0)), (Vl (.int .i64 a0_1)), (Sl Kf a0_2), (Vl (.int .i64 a0_3)), (Sl (Ki .i64) a0_4)], 161, none⟩] (fun w : Unit => (Vl (.slice none 0 0))) (fun w => [⟨.pointer (some wa0), [(Vl (.int .i64 out.1)), (Vl (.int .i64 out.2.1)), (Sl Kf out.2.2.1), (Vl (.int .i64 out.2.2.2.1)), (Sl (Ki .i64) out.2.2.2.2)], 161, none⟩]) := by
  unfold gogeom_geom0_Endss_v6 at hp
  refine fn_of Try.func146 rfl Try.ntmps146 rfl fun E hM => ?_
  refine cx_seq' fun K1 hK1 => ?_
  refine cx_region' ?_
  refine sx_rd' (rd_assign' rfl) rfl rfl (wt_none' rfl) ?_
  refine sx_nil' ?_
  show TX E K1 _
  refine tx_k' hK1 ?_
  refine cx_seq' fun K2 hK2 => ?_
  refine cx_region' ?_
  refine sx_rd' (rd_assign' rfl) rfl rfl (wt_none' rfl) ?_
  refine sx_nil' ?_
  show TX E K2 _
  refine tx_k' hK2 ?_
  refine cx_retc' ?_
  replace hp := Option.some.inj hp
  subst hp
  refine tx_pick' (L' := [(2, (Vl (.slice none 0 0)))]) (H' := [⟨.pointer (some wa0), [(Vl (.int .i64 a0_0)), (Vl (.int .i64 a0_1)), (Sl Kf a0_2), (Vl (.int .i64 a0_3)), (Sl (Ki .i64) a0_4)], 161, none⟩]) [0] (sub_cons rfl sub_nil) (by decide) (pick_cons rfl pick_nil) ?_
  exact tx_ret1' Try.results146 rfl () (rv_tmp' rfl) (List.Sublist.refl _)

def impl_plain_v6 (k : Nat) (a0_0 : Int) (a0_1 : Int) (a0_2 : List Nat) (a0_3 : Int) (a0_4 : List Int) : Option (Int × Int × (List Nat) × Int × (List Int) × Int × Int × Int × (List Nat) × (List Int)) :=
  (gogeom_geom0_SRID_v6 k a0_0 a0_1 a0_2 a0_3 a0_4) >>= fun r15 =>
  (gogeom_geom0_Layout_v6 k r15.1 r15.2.1 r15.2.2.1 r15.2.2.2.1 r15.2.2.2.2) >>= fun r70 =>
  (gogeom_geom0_FlatCoords_v6 k r70.1 r70.2.1 r70.2.2.1 r70.2.2.2.1 r70.2.2.2.2) >>= fun r72 =>
  (impl_floats k r72.2.2.1) >>= fun r73 =>
  (gogeom_geom2_Ends_v3 k r72.1 r72.2.1 r72.2.2.1 r72.2.2.2.1 r72.2.2.2.2) >>= fun r75 =>
  (impl_ints k r75.2.2.2.2) >>= fun r76 =>
  match r76 with
    | (.inl y1) =>
      ((gogeom_geom0_Endss_v6 k r75.1 r75.2.1 r75.2.2.1 r75.2.2.2.1 r75.2.2.2.2) >>= fun r78 =>
      (impl_intss_v2 k) >>= fun r79 =>
      some (r78.1, r78.2.1, r78.2.2.1, r78.2.2.2.1, r78.2.2.2.2, 5, r70.1, r15.2.2.2.1, r73, []))
    | (.inr y1) =>
      ((gogeom_geom0_Endss_v6 k r75.1 r75.2.1 r75.2.2.1 r75.2.2.2.1 r75.2.2.2.2) >>= fun r78 =>
      (impl_intss_v2 k) >>= fun r79 =>
      some (r78.1, r78.2.1, r78.2.2.1, r78.2.2.2.1, r78.2.2.2.2, 5, r70.1, r15.2.2.2.1, r73, y1))

theorem impl_plain_v6_sim {k : Nat} {wa0 : Addr} (a0_0 : Int) (a0_1 : Int) (a0_2 : List Nat) (a0_3 : Int) (a0_4 : List Int) {out : Int × Int × (List Nat) × Int × (List Int) × Int × Int × Int × (List Nat) × (List Int)} (hp : impl_plain_v6 k a0_0 a0_1 a0_2 a0_3 a0_4 = some out) : Go.Sx.Fn Try.prog 44 [(If 92 (Vl (.pointer (some wa0))))] [⟨.pointer (some wa0), [(Vl (.int .i64 a0_0)), (Vl (.int .i64 a0_1)), (Sl Kf a0_2), (Vl (.int .i64 a0_3)), (Sl (Ki .i64) a0_4)], 161, none⟩] (fun w : Unit => (Ag [(Vl (.int .i64 out.2.2.2.2.2.1)), (Vl (.int .i64 out.2.2.2.2.2.2.1)), (Vl (.int .i64 out.2.2.2.2.2.2.2.1)), (Sl Kf out.2.2.2.2.2.2.2.2.1), (Sl (Ki .i64) out.2.2.2.2.2.2.2.2.2), (Vl (.slice none 0 0)), (Vl (.slice none 0 0))])) (fun w => [⟨.pointer (some wa0), [(Vl (.int .i64 out.1)), (Vl (.int .i64 out.2.1)), (Sl Kf out.2.2.1), (Vl (.int .i64 out.2.2.2.1)), (Sl (Ki .i64) out.2.2.2.2.1)], 161, none⟩]) := by
  unfold impl_plain_v6 at hp
  refine fn_of Try.func44 rfl Try.ntmps44 rfl fun E hM => ?_
  refine cx_seq' fun K1 hK1 => ?_
  refine cx_region' ?_
  refine sx_ox' (ox_alloc' info27 rfl rfl rfl rfl (l := [(Vl (.int .i64 0)), (Vl (.int .i64 0)), (Vl (.int .i64 0)), (Vl (.slice none 0 0)), (Vl (.slice none 0 0)), (Vl (.slice none 0 0)), (Vl (.slice none 0 0))]) rfl) (wt_none' rfl) fun q2 => ?_
  refine sx_nil' ?_
  show TX E K1 _
  refine tx_k' hK1 ?_
  refine cx_seq' fun K2 hK2 => ?_
  refine cx_region' ?_
  refine sx_rd' (rd_move' rfl) rfl rfl (wt_none' rfl) ?_
  obtain ⟨r15, hr15, hp⟩ := bind_some hp
  refine sx_ox' (ox_callg' (ent_inv' rfl rfl (inv_ptr0 (inv92_SRID _))) (gogeom_geom0_SRID_v6_sim _ _ _ _ _ hr15 : Go.Sx.Fn Try.prog 151 [(Vl (.pointer (some wa0)))] [⟨.pointer (some wa0), [(Vl (.int .i64 a0_0)), (Vl (.int .i64 a0_1)), (Sl Kf a0_2), (Vl (.int .i64 a0_3)), (Sl (Ki .i64) a0_4)], 161, none⟩] (fun x : Unit => (Vl (.int .i64 r15.2.2.2.1))) (fun x => [⟨.pointer (some wa0), [(Vl (.int .i64 r15.1)), (Vl (.int .i64 r15.2.1)), (Sl Kf r15.2.2.1), (Vl (.int .i64 r15.2.2.2.1)), (Sl (Ki .i64) r15.2.2.2.2)], 161, none⟩])) [1] [0] (by decide) (pick_cons rfl pick_nil) (pick_cons rfl pick_nil) (Hn := fun x : Unit => [⟨.pointer (some wa0), [(Vl (.int .i64 r15.1)), (Vl (.int .i64 r15.2.1)), (Sl Kf r15.2.2.1), (Vl (.int .i64 r15.2.2.2.1)), (Sl (Ki .i64) r15.2.2.2.2)], 161, none⟩, ⟨.pointer (some q2), [(Vl (.int .i64 0)), (Vl (.int .i64 0)), (Vl (.int .i64 0)), (Vl (.slice none 0 0)), (Vl (.slice none 0 0)), (Vl (.slice none 0 0)), (Vl (.slice none 0 0))], 27, none⟩]) (fun _ => rfl) rfl rfl) (wt_none' rfl) fun ⟨⟩ => ?_
  refine sx_rd' (rd_build' (pls := [(0, 1), (1, 1), (2, 1), (3, 1), (4, 1), (5, 1), (6, 1)]) (qs := [(2, [(Vl (.int .i64 r15.2.2.2.1))])]) (r := [(Vl (.int .i64 0)), (Vl (.int .i64 0)), (Vl (.int .i64 r15.2.2.2.1)), (Vl (.slice none 0 0)), (Vl (.slice none 0 0)), (Vl (.slice none 0 0)), (Vl (.slice none 0 0))]) ⟨rfl, ⟨_, rfl, (lv_vl rfl rfl)⟩, trivial⟩ Try.underlying27 has27 places27 info27 rfl rfl rfl) rfl rfl (wt_none' rfl) ?_
  refine sx_ox' (ox_alloc' info27 rfl rfl rfl rfl (l := [(Vl (.int .i64 0)), (Vl (.int .i64 0)), (Vl (.int .i64 0)), (Vl (.slice none 0 0)), (Vl (.slice none 0 0)), (Vl (.slice none 0 0)), (Vl (.slice none 0 0))]) rfl) (wt_none' rfl) fun q3 => ?_
  refine sx_ox' (ox_store' (i := 0) (o := 0) rfl rfl (lv_ag _) ⟨rfl, rfl, rfl, rfl⟩ rfl info27 rfl (H' := [⟨.pointer (some q3), [(Vl (.int .i64 0)), (Vl (.int .i64 0)), (Vl (.int .i64 r15.2.2.2.1)), (Vl (.slice none 0 0)), (Vl (.slice none 0 0)), (Vl (.slice none 0 0)), (Vl (.slice none 0 0))], 27, none⟩, ⟨.pointer (some wa0), [(Vl (.int .i64 r15.1)), (Vl (.int .i64 r15.2.1)), (Sl Kf r15.2.2.1), (Vl (.int .i64 r15.2.2.2.1)), (Sl (Ki .i64) r15.2.2.2.2)], 161, none⟩, ⟨.pointer (some q2), [(Vl (.int .i64 0)), (Vl (.int .i64 0)), (Vl (.int .i64 0)), (Vl (.slice none 0 0)), (Vl (.slice none 0 0)), (Vl (.slice none 0 0)), (Vl (.slice none 0 0))], 27, none⟩]) rfl) (wt_none' rfl) fun _ => ?_
  refine sx_nil' ?_
  show TX E K2 _
  refine tx_k' hK2 ?_
  refine cx_seq' fun K3 hK3 => ?_
  refine cx_seq' fun K4 hK4 => ?_
  refine cx_region' ?_
  refine sx_rd' (rd_move' rfl) rfl rfl (wt_none' rfl) ?_
  refine sx_nil' ?_
  show TX E K4 _
  refine tx_k' hK4 ?_
  refine cx_block' ?_
  refine cx_seq' fun K5 hK5 => ?_
  refine cx_region' ?_
  refine sx_rd' (rd_assert' rfl (F := fun _ => .tuple #[.pointer none, .bool false]) as92_75_60 as_no) rfl rfl (wt_none' rfl) ?_
  refine sx_rd' (rd_extract' rfl rfl) rfl rfl (wt_none' rfl) ?_
  refine sx_rd' (rd_extract' rfl rfl) rfl rfl (wt_none' rfl) ?_
  refine sx_nil' ?_
  show TX E K5 _
  refine tx_k' hK5 ?_
  refine cx_cond_f' rfl rfl ?_
  refine cx_seq' fun K6 hK6 => ?_
  refine cx_region' ?_
  refine sx_rd' (rd_assert' rfl (F := fun _ => .tuple #[.pointer none, .bool false]) as92_75_94 as_no) rfl rfl (wt_none' rfl) ?_
  refine sx_rd' (rd_extract' rfl rfl) rfl rfl (wt_none' rfl) ?_
  refine sx_rd' (rd_extract' rfl rfl) rfl rfl (wt_none' rfl) ?_
  refine sx_nil' ?_
  show TX E K6 _
  refine tx_k' hK6 ?_
  refine cx_cond_f' rfl rfl ?_
  refine cx_seq' fun K7 hK7 => ?_
  refine cx_region' ?_
  refine sx_rd' (rd_assert' rfl (F := fun _ => .tuple #[.pointer none, .bool false]) as92_75_89 as_no) rfl rfl (wt_none' rfl) ?_
  refine sx_rd' (rd_extract' rfl rfl) rfl rfl (wt_none' rfl) ?_
  refine sx_rd' (rd_extract' rfl rfl) rfl rfl (wt_none' rfl) ?_
  refine sx_nil' ?_
  show TX E K7 _
  refine tx_k' hK7 ?_
  refine cx_cond_f' rfl rfl ?_
  refine cx_seq' fun K8 hK8 => ?_
  refine cx_region' ?_
  refine sx_rd' (rd_assert' rfl (F := fun _ => .tuple #[.pointer none, .bool false]) as92_75_87 as_no) rfl rfl (wt_none' rfl) ?_
  refine sx_rd' (rd_extract' rfl rfl) rfl rfl (wt_none' rfl) ?_
  refine sx_rd' (rd_extract' rfl rfl) rfl rfl (wt_none' rfl) ?_
  refine sx_nil' ?_
  show TX E K8 _
  refine tx_k' hK8 ?_
  refine cx_cond_f' rfl rfl ?_
  refine cx_seq' fun K9 hK9 => ?_
  refine cx_region' ?_
  refine sx_rd' (rd_assert' rfl (F := fun _ => .tuple #[.pointer none, .bool false]) as92_75_90 as_no) rfl rfl (wt_none' rfl) ?_
  refine sx_rd' (rd_extract' rfl rfl) rfl rfl (wt_none' rfl) ?_
  refine sx_rd' (rd_extract' rfl rfl) rfl rfl (wt_none' rfl) ?_
  refine sx_nil' ?_
  show TX E K9 _
  refine tx_k' hK9 ?_
  refine cx_cond_f' rfl rfl ?_
  refine cx_seq' fun K10 hK10 => ?_
  refine cx_region' ?_
  refine sx_rd' (rd_assert' rfl (F := fun v => .tuple #[v, .bool true]) as92_75_92k as_ok) rfl rfl (wt_none' rfl) ?_
  refine sx_rd' (rd_extract' rfl rfl) rfl rfl (wt_none' rfl) ?_
  refine sx_rd' (rd_extract' rfl rfl) rfl rfl (wt_none' rfl) ?_
  refine sx_nil' ?_
  show TX E K10 _
  refine tx_k' hK10 ?_
  refine cx_cond_t' rfl rfl ?_
  refine cx_seq' fun K11 hK11 => ?_
  refine cx_region' ?_
  refine sx_rd' (rd_assign' rfl) rfl rfl (wt_none' rfl) ?_
  refine sx_nil' ?_
  show TX E K11 _
  refine tx_k' hK11 ?_
  refine cx_region' ?_
  refine sx_rd' (rd_field0' rfl Try.underlying27 rfl info3 rfl) rfl rfl (wt_none' rfl) ?_
  refine sx_ox' (ox_store' (i := 0) (o := 0) rfl rfl (lv_vl rfl rfl) ⟨rfl, rfl, rfl, rfl⟩ rfl info3 rfl (H' := [⟨.pointer (some q3), [(Vl (.int .i64 5)), (Vl (.int .i64 0)), (Vl (.int .i64 r15.2.2.2.1)), (Vl (.slice none 0 0)), (Vl (.slice none 0 0)), (Vl (.slice none 0 0)), (Vl (.slice none 0 0))], 27, none⟩, ⟨.pointer (some wa0), [(Vl (.int .i64 r15.1)), (Vl (.int .i64 r15.2.1)), (Sl Kf r15.2.2.1), (Vl (.int .i64 r15.2.2.2.1)), (Sl (Ki .i64) r15.2.2.2.2)], 161, none⟩, ⟨.pointer (some q2), [(Vl (.int .i64 0)), (Vl (.int .i64 0)), (Vl (.int .i64 0)), (Vl (.slice none 0 0)), (Vl (.slice none 0 0)), (Vl (.slice none 0 0)), (Vl (.slice none 0 0))], 27, none⟩]) rfl) (wt_none' rfl) fun _ => ?_
  refine sx_nil' ?_
  show TX E K3 _
  refine tx_k' hK3 ?_
  refine cx_seq' fun K12 hK12 => ?_
  refine cx_region' ?_
  refine sx_rd' (rd_move' rfl) rfl rfl (wt_none' rfl) ?_
  obtain ⟨r70, hr70, hp⟩ := bind_some hp
  refine sx_ox' (ox_callg' (ent_inv' rfl rfl (inv_ptr0 (inv92_Layout _))) (gogeom_geom0_Layout_v6_sim _ _ _ _ _ hr70 : Go.Sx.Fn Try.prog 148 [(Vl (.pointer (some wa0)))] [⟨.pointer (some wa0), [(Vl (.int .i64 r15.1)), (Vl (.int .i64 r15.2.1)), (Sl Kf r15.2.2.1), (Vl (.int .i64 r15.2.2.2.1)), (Sl (Ki .i64) r15.2.2.2.2)], 161, none⟩] (fun x : Unit => (Vl (.int .i64 r70.1))) (fun x => [⟨.pointer (some wa0), [(Vl (.int .i64 r70.1)), (Vl (.int .i64 r70.2.1)), (Sl Kf r70.2.2.1), (Vl (.int .i64 r70.2.2.2.1)), (Sl (Ki .i64) r70.2.2.2.2)], 161, none⟩])) [1] [0, 2] (by decide) (pick_cons rfl pick_nil) (pick_cons rfl (pick_cons rfl pick_nil)) (Hn := fun x : Unit => [⟨.pointer (some wa0), [(Vl (.int .i64 r70.1)), (Vl (.int .i64 r70.2.1)), (Sl Kf r70.2.2.1), (Vl (.int .i64 r70.2.2.2.1)), (Sl (Ki .i64) r70.2.2.2.2)], 161, none⟩, ⟨.pointer (some q3), [(Vl (.int .i64 5)), (Vl (.int .i64 0)), (Vl (.int .i64 r15.2.2.2.1)), (Vl (.slice none 0 0)), (Vl (.slice none 0 0)), (Vl (.slice none 0 0)), (Vl (.slice none 0 0))], 27, none⟩, ⟨.pointer (some q2), [(Vl (.int .i64 0)), (Vl (.int .i64 0)), (Vl (.int .i64 0)), (Vl (.slice none 0 0)), (Vl (.slice none 0 0)), (Vl (.slice none 0 0)), (Vl (.slice none 0 0))], 27, none⟩]) (fun _ => rfl) rfl rfl) (wt_none' rfl) fun ⟨⟩ => ?_
  refine sx_rd' (rd_move' rfl) rfl rfl (wt_none' rfl) ?_
  obtain ⟨r72, hr72, hp⟩ := bind_some hp
  refine sx_ox' (ox_callg' (ent_inv' rfl rfl (inv_ptr0 (inv92_FlatCoords _))) (gogeom_geom0_FlatCoords_v6_sim _ _ _ _ _ hr72 : Go.Sx.Fn Try.prog 147 [(Vl (.pointer (some wa0)))] [⟨.pointer (some wa0), [(Vl (.int .i64 r70.1)), (Vl (.int .i64 r70.2.1)), (Sl Kf r70.2.2.1), (Vl (.int .i64 r70.2.2.2.1)), (Sl (Ki .i64) r70.2.2.2.2)], 161, none⟩] (fun x : Unit => (Sl Kf r72.2.2.1)) (fun x => [⟨.pointer (some wa0), [(Vl (.int .i64 r72.1)), (Vl (.int .i64 r72.2.1)), (Sl Kf r72.2.2.1), (Vl (.int .i64 r72.2.2.2.1)), (Sl (Ki .i64) r72.2.2.2.2)], 161, none⟩])) [0] [1, 2] (by decide) (pick_cons rfl pick_nil) (pick_cons rfl (pick_cons rfl pick_nil)) (Hn := fun x : Unit => [⟨.pointer (some wa0), [(Vl (.int .i64 r72.1)), (Vl (.int .i64 r72.2.1)), (Sl Kf r72.2.2.1), (Vl (.int .i64 r72.2.2.2.1)), (Sl (Ki .i64) r72.2.2.2.2)], 161, none⟩, ⟨.pointer (some q3), [(Vl (.int .i64 5)), (Vl (.int .i64 0)), (Vl (.int .i64 r15.2.2.2.1)), (Vl (.slice none 0 0)), (Vl (.slice none 0 0)), (Vl (.slice none 0 0)), (Vl (.slice none 0 0))], 27, none⟩, ⟨.pointer (some q2), [(Vl (.int .i64 0)), (Vl (.int .i64 0)), (Vl (.int .i64 0)), (Vl (.slice none 0 0)), (Vl (.slice none 0 0)), (Vl (.slice none 0 0)), (Vl (.slice none 0 0))], 27, none⟩]) (fun _ => rfl) rfl rfl) (wt_none' rfl) fun ⟨⟩ => ?_
  obtain ⟨r73, hr73, hp⟩ := bind_some hp
  refine sx_ox' (ox_calln' (ent_fn' Try.func43 isn43 rfl rfl) (impl_floats_sim _ hr73 : Go.Sx.Fn Try.prog 43 [(Sl Kf r72.2.2.1)] [] (fun x : Unit => (Sl Kf r73)) (fun x => [])) (Hn := fun x : Unit => [⟨.pointer (some wa0), [(Vl (.int .i64 r72.1)), (Vl (.int .i64 r72.2.1)), (Sl Kf r72.2.2.1), (Vl (.int .i64 r72.2.2.2.1)), (Sl (Ki .i64) r72.2.2.2.2)], 161, none⟩, ⟨.pointer (some q3), [(Vl (.int .i64 5)), (Vl (.int .i64 0)), (Vl (.int .i64 r15.2.2.2.1)), (Vl (.slice none 0 0)), (Vl (.slice none 0 0)), (Vl (.slice none 0 0)), (Vl (.slice none 0 0))], 27, none⟩, ⟨.pointer (some q2), [(Vl (.int .i64 0)), (Vl (.int .i64 0)), (Vl (.int .i64 0)), (Vl (.slice none 0 0)), (Vl (.slice none 0 0)), (Vl (.slice none 0 0)), (Vl (.slice none 0 0))], 27, none⟩]) (fun _ => rfl) rfl rfl) (wt_none' rfl) fun ⟨⟩ => ?_
  refine sx_rd' (rd_move' rfl) rfl rfl (wt_none' rfl) ?_
  obtain ⟨r75, hr75, hp⟩ := bind_some hp
  refine sx_ox' (ox_callg' (ent_inv' rfl rfl (inv_ptr0 (inv92_Ends _))) (gogeom_geom2_Ends_v3_sim _ _ _ _ _ hr75 : Go.Sx.Fn Try.prog 165 [(Vl (.pointer (some wa0)))] [⟨.pointer (some wa0), [(Vl (.int .i64 r72.1)), (Vl (.int .i64 r72.2.1)), (Sl Kf r72.2.2.1), (Vl (.int .i64 r72.2.2.2.1)), (Sl (Ki .i64) r72.2.2.2.2)], 161, none⟩] (fun x : Unit => (Sl (Ki .i64) r75.2.2.2.2)) (fun x => [⟨.pointer (some wa0), [(Vl (.int .i64 r75.1)), (Vl (.int .i64 r75.2.1)), (Sl Kf r75.2.2.1), (Vl (.int .i64 r75.2.2.2.1)), (Sl (Ki .i64) r75.2.2.2.2)], 161, none⟩])) [0] [1, 2] (by decide) (pick_cons rfl pick_nil) (pick_cons rfl (pick_cons rfl pick_nil)) (Hn := fun x : Unit => [⟨.pointer (some wa0), [(Vl (.int .i64 r75.1)), (Vl (.int .i64 r75.2.1)), (Sl Kf r75.2.2.1), (Vl (.int .i64 r75.2.2.2.1)), (Sl (Ki .i64) r75.2.2.2.2)], 161, none⟩, ⟨.pointer (some q3), [(Vl (.int .i64 5)), (Vl (.int .i64 0)), (Vl (.int .i64 r15.2.2.2.1)), (Vl (.slice none 0 0)), (Vl (.slice none 0 0)), (Vl (.slice none 0 0)), (Vl (.slice none 0 0))], 27, none⟩, ⟨.pointer (some q2), [(Vl (.int .i64 0)), (Vl (.int .i64 0)), (Vl (.int .i64 0)), (Vl (.slice none 0 0)), (Vl (.slice none 0 0)), (Vl (.slice none 0 0)), (Vl (.slice none 0 0))], 27, none⟩]) (fun _ => rfl) rfl rfl) (wt_none' rfl) fun ⟨⟩ => ?_
  obtain ⟨r76, hr76, hp⟩ := bind_some hp
  rcases r76 with y1 | y1
  · dsimp only at hp
    refine sx_ox' (ox_calln' (ent_fn' Try.func84 isn84 rfl rfl) (impl_ints_sim _ hr76 : Go.Sx.Fn Try.prog 84 [(Sl (Ki .i64) r75.2.2.2.2)] [] (fun x : Unit => (Vl (.slice none 0 0))) (fun x => [])) (Hn := fun x : Unit => [⟨.pointer (some wa0), [(Vl (.int .i64 r75.1)), (Vl (.int .i64 r75.2.1)), (Sl Kf r75.2.2.1), (Vl (.int .i64 r75.2.2.2.1)), (Sl (Ki .i64) r75.2.2.2.2)], 161, none⟩, ⟨.pointer (some q3), [(Vl (.int .i64 5)), (Vl (.int .i64 0)), (Vl (.int .i64 r15.2.2.2.1)), (Vl (.slice none 0 0)), (Vl (.slice none 0 0)), (Vl (.slice none 0 0)), (Vl (.slice none 0 0))], 27, none⟩, ⟨.pointer (some q2), [(Vl (.int .i64 0)), (Vl (.int .i64 0)), (Vl (.int .i64 0)), (Vl (.slice none 0 0)), (Vl (.slice none 0 0)), (Vl (.slice none 0 0)), (Vl (.slice none 0 0))], 27, none⟩]) (fun _ => rfl) rfl rfl) (wt_none' rfl) fun ⟨⟩ => ?_
    refine sx_rd' (rd_move' rfl) rfl rfl (wt_none' rfl) ?_
    obtain ⟨r78, hr78, hp⟩ := bind_some hp
    refine sx_ox' (ox_callg' (ent_inv' rfl rfl (inv_ptr0 (inv92_Endss _))) (gogeom_geom0_Endss_v6_sim _ _ _ _ _ hr78 : Go.Sx.Fn Try.prog 146 [(Vl (.pointer (some wa0)))] [⟨.pointer (some wa0), [(Vl (.int .i64 r75.1)), (Vl (.int .i64 r75.2.1)), (Sl Kf r75.2.2.1), (Vl (.int .i64 r75.2.2.2.1)), (Sl (Ki .i64) r75.2.2.2.2)], 161, none⟩] (fun x : Unit => (Vl (.slice none 0 0))) (fun x => [⟨.pointer (some wa0), [(Vl (.int .i64 r78.1)), (Vl (.int .i64 r78.2.1)), (Sl Kf r78.2.2.1), (Vl (.int .i64 r78.2.2.2.1)), (Sl (Ki .i64) r78.2.2.2.2)], 161, none⟩])) [0] [1, 2] (by decide) (pick_cons rfl pick_nil) (pick_cons rfl (pick_cons rfl pick_nil)) (Hn := fun x : Unit => [⟨.pointer (some wa0), [(Vl (.int .i64 r78.1)), (Vl (.int .i64 r78.2.1)), (Sl Kf r78.2.2.1), (Vl (.int .i64 r78.2.2.2.1)), (Sl (Ki .i64) r78.2.2.2.2)], 161, none⟩, ⟨.pointer (some q3), [(Vl (.int .i64 5)), (Vl (.int .i64 0)), (Vl (.int .i64 r15.2.2.2.1)), (Vl (.slice none 0 0)), (Vl (.slice none 0 0)), (Vl (.slice none 0 0)), (Vl (.slice none 0 0))], 27, none⟩, ⟨.pointer (some q2), [(Vl (.int .i64 0)), (Vl (.int .i64 0)), (Vl (.int .i64 0)), (Vl (.slice none 0 0)), (Vl (.slice none 0 0)), (Vl (.slice none 0 0)), (Vl (.slice none 0 0))], 27, none⟩]) (fun _ => rfl) rfl rfl) (wt_none' rfl) fun ⟨⟩ => ?_
    obtain ⟨r79, hr79, hp⟩ := bind_some hp
    refine sx_ox' (ox_calln' (ent_fn' Try.func51 isn51 rfl rfl) (impl_intss_v2_sim hr79 : Go.Sx.Fn Try.prog 51 [(Vl (.slice none 0 0))] [] (fun x : Unit => (Vl (.slice none 0 0))) (fun x => [])) (Hn := fun x : Unit => [⟨.pointer (some wa0), [(Vl (.int .i64 r78.1)), (Vl (.int .i64 r78.2.1)), (Sl Kf r78.2.2.1), (Vl (.int .i64 r78.2.2.2.1)), (Sl (Ki .i64) r78.2.2.2.2)], 161, none⟩, ⟨.pointer (some q3), [(Vl (.int .i64 5)), (Vl (.int .i64 0)), (Vl (.int .i64 r15.2.2.2.1)), (Vl (.slice none 0 0)), (Vl (.slice none 0 0)), (Vl (.slice none 0 0)), (Vl (.slice none 0 0))], 27, none⟩, ⟨.pointer (some q2), [(Vl (.int .i64 0)), (Vl (.int .i64 0)), (Vl (.int .i64 0)), (Vl (.slice none 0 0)), (Vl (.slice none 0 0)), (Vl (.slice none 0 0)), (Vl (.slice none 0 0))], 27, none⟩]) (fun _ => rfl) rfl rfl) (wt_none' rfl) fun ⟨⟩ => ?_
    refine sx_rd' (rd_field' (off := 1) rfl Try.underlying27 rfl info3 rfl) rfl rfl (wt_none' rfl) ?_
    refine sx_ox' (ox_store' (i := 1) (o := 1) rfl rfl (lv_vl rfl rfl) ⟨rfl, rfl, rfl, rfl⟩ rfl info3 rfl (H' := [⟨.pointer (some wa0), [(Vl (.int .i64 r78.1)), (Vl (.int .i64 r78.2.1)), (Sl Kf r78.2.2.1), (Vl (.int .i64 r78.2.2.2.1)), (Sl (Ki .i64) r78.2.2.2.2)], 161, none⟩, ⟨.pointer (some q3), [(Vl (.int .i64 5)), (Vl (.int .i64 r70.1)), (Vl (.int .i64 r15.2.2.2.1)), (Vl (.slice none 0 0)), (Vl (.slice none 0 0)), (Vl (.slice none 0 0)), (Vl (.slice none 0 0))], 27, none⟩, ⟨.pointer (some q2), [(Vl (.int .i64 0)), (Vl (.int .i64 0)), (Vl (.int .i64 0)), (Vl (.slice none 0 0)), (Vl (.slice none 0 0)), (Vl (.slice none 0 0)), (Vl (.slice none 0 0))], 27, none⟩]) rfl) (wt_none' rfl) fun _ => ?_
    refine sx_rd' (rd_field' (off := 3) rfl Try.underlying27 rfl info22 rfl) rfl rfl (wt_none' rfl) ?_
    refine sx_ox' (ox_store' (i := 1) (o := 3) rfl rfl (lv_sl _ _) ⟨rfl, rfl, rfl, rfl⟩ rfl info22 rfl (H' := [⟨.pointer (some wa0), [(Vl (.int .i64 r78.1)), (Vl (.int .i64 r78.2.1)), (Sl Kf r78.2.2.1), (Vl (.int .i64 r78.2.2.2.1)), (Sl (Ki .i64) r78.2.2.2.2)], 161, none⟩, ⟨.pointer (some q3), [(Vl (.int .i64 5)), (Vl (.int .i64 r70.1)), (Vl (.int .i64 r15.2.2.2.1)), (Sl Kf r73), (Vl (.slice none 0 0)), (Vl (.slice none 0 0)), (Vl (.slice none 0 0))], 27, none⟩, ⟨.pointer (some q2), [(Vl (.int .i64 0)), (Vl (.int .i64 0)), (Vl (.int .i64 0)), (Vl (.slice none 0 0)), (Vl (.slice none 0 0)), (Vl (.slice none 0 0)), (Vl (.slice none 0 0))], 27, none⟩]) rfl) (wt_none' rfl) fun _ => ?_
    refine sx_rd' (rd_field' (off := 4) rfl Try.underlying27 rfl info23 rfl) rfl rfl (wt_none' rfl) ?_
    refine sx_ox' (ox_store' (i := 1) (o := 4) rfl rfl (lv_vl rfl rfl) ⟨rfl, rfl, rfl, rfl⟩ rfl info23 rfl (H' := [⟨.pointer (some wa0), [(Vl (.int .i64 r78.1)), (Vl (.int .i64 r78.2.1)), (Sl Kf r78.2.2.1), (Vl (.int .i64 r78.2.2.2.1)), (Sl (Ki .i64) r78.2.2.2.2)], 161, none⟩, ⟨.pointer (some q3), [(Vl (.int .i64 5)), (Vl (.int .i64 r70.1)), (Vl (.int .i64 r15.2.2.2.1)), (Sl Kf r73), (Vl (.slice none 0 0)), (Vl (.slice none 0 0)), (Vl (.slice none 0 0))], 27, none⟩, ⟨.pointer (some q2), [(Vl (.int .i64 0)), (Vl (.int .i64 0)), (Vl (.int .i64 0)), (Vl (.slice none 0 0)), (Vl (.slice none 0 0)), (Vl (.slice none 0 0)), (Vl (.slice none 0 0))], 27, none⟩]) rfl) (wt_none' rfl) fun _ => ?_
    refine sx_rd' (rd_field' (off := 5) rfl Try.underlying27 rfl info24 rfl) rfl rfl (wt_none' rfl) ?_
    refine sx_ox' (ox_store' (i := 1) (o := 5) rfl rfl (lv_vl rfl rfl) ⟨rfl, rfl, rfl, rfl⟩ rfl info24 rfl (H' := [⟨.pointer (some wa0), [(Vl (.int .i64 r78.1)), (Vl (.int .i64 r78.2.1)), (Sl Kf r78.2.2.1), (Vl (.int .i64 r78.2.2.2.1)), (Sl (Ki .i64) r78.2.2.2.2)], 161, none⟩, ⟨.pointer (some q3), [(Vl (.int .i64 5)), (Vl (.int .i64 r70.1)), (Vl (.int .i64 r15.2.2.2.1)), (Sl Kf r73), (Vl (.slice none 0 0)), (Vl (.slice none 0 0)), (Vl (.slice none 0 0))], 27, none⟩, ⟨.pointer (some q2), [(Vl (.int .i64 0)), (Vl (.int .i64 0)), (Vl (.int .i64 0)), (Vl (.slice none 0 0)), (Vl (.slice none 0 0)), (Vl (.slice none 0 0)), (Vl (.slice none 0 0))], 27, none⟩]) rfl) (wt_none' rfl) fun _ => ?_
    refine sx_nil' ?_
    show TX E K12 _
    refine tx_k' hK12 ?_
    refine cx_seq' fun K13 hK13 => ?_
    refine cx_region' ?_
    refine sx_rd' (rd_load_agg' (i := 1) (o := 0) (nn := 7) rfl ⟨rfl, rfl, rfl, rfl⟩ rfl agg27 (l' := [(Vl (.int .i64 5)), (Vl (.int .i64 r70.1)), (Vl (.int .i64 r15.2.2.2.1)), (Sl Kf r73), (Vl (.slice none 0 0)), (Vl (.slice none 0 0)), (Vl (.slice none 0 0))]) rfl) rfl rfl (wt_none' rfl) ?_
    refine sx_ox' (ox_store' (i := 2) (o := 0) rfl rfl (lv_ag _) ⟨rfl, rfl, rfl, rfl⟩ rfl info27 rfl (H' := [⟨.pointer (some wa0), [(Vl (.int .i64 r78.1)), (Vl (.int .i64 r78.2.1)), (Sl Kf r78.2.2.1), (Vl (.int .i64 r78.2.2.2.1)), (Sl (Ki .i64) r78.2.2.2.2)], 161, none⟩, ⟨.pointer (some q3), [(Vl (.int .i64 5)), (Vl (.int .i64 r70.1)), (Vl (.int .i64 r15.2.2.2.1)), (Sl Kf r73), (Vl (.slice none 0 0)), (Vl (.slice none 0 0)), (Vl (.slice none 0 0))], 27, none⟩, ⟨.pointer (some q2), [(Vl (.int .i64 5)), (Vl (.int .i64 r70.1)), (Vl (.int .i64 r15.2.2.2.1)), (Sl Kf r73), (Vl (.slice none 0 0)), (Vl (.slice none 0 0)), (Vl (.slice none 0 0))], 27, none⟩]) rfl) (wt_none' rfl) fun _ => ?_
    refine sx_nil' ?_
    show TX E K13 _
    refine tx_k' hK13 ?_
    refine cx_retc' ?_
    replace hp := Option.some.inj hp
    subst hp
    refine tx_pick' (L' := [(2, (Vl (.pointer (some q2))))]) (H' := [⟨.pointer (some wa0), [(Vl (.int .i64 r78.1)), (Vl (.int .i64 r78.2.1)), (Sl Kf r78.2.2.1), (Vl (.int .i64 r78.2.2.2.1)), (Sl (Ki .i64) r78.2.2.2.2)], 161, none⟩, ⟨.pointer (some q2), [(Vl (.int .i64 5)), (Vl (.int .i64 r70.1)), (Vl (.int .i64 r15.2.2.2.1)), (Sl Kf r73), (Vl (.slice none 0 0)), (Vl (.slice none 0 0)), (Vl (.slice none 0 0))], 27, none⟩]) [0, 2] (sub_cons rfl sub_nil) (by decide) (pick_cons rfl (pick_cons rfl pick_nil)) ?_
    exact tx_ret1' Try.results44 rfl () (rv_imp' (x := (Ag [(Vl (.int .i64 5)), (Vl (.int .i64 r70.1)), (Vl (.int .i64 r15.2.2.2.1)), (Sl Kf r73), (Vl (.slice none 0 0)), (Vl (.slice none 0 0)), (Vl (.slice none 0 0))])) (y := (Ag [(Vl (.int .i64 5)), (Vl (.int .i64 r70.1)), (Vl (.int .i64 r15.2.2.2.1)), (Sl Kf r73), (Sl (Ki .i64) []), (Vl (.slice none 0 0)), (Vl (.slice none 0 0))])) (rv_cell_agg' (i := 1) (o := 0) (nn := 7) rfl ⟨rfl, rfl, rfl, rfl⟩ rfl agg27 rfl) (imp_ag ⟨imp_refl, imp_refl, imp_refl, imp_refl, imp_nil, imp_refl, imp_refl, trivial⟩)) (List.Sublist.cons_cons _ (List.nil_sublist _))
  · dsimp only at hp
    refine sx_ox' (ox_calln' (ent_fn' Try.func84 isn84 rfl rfl) (impl_ints_sim _ hr76 : Go.Sx.Fn Try.prog 84 [(Sl (Ki .i64) r75.2.2.2.2)] [] (fun x : Unit => (Sl (Ki .i64) y1)) (fun x => [])) (Hn := fun x : Unit => [⟨.pointer (some wa0), [(Vl (.int .i64 r75.1)), (Vl (.int .i64 r75.2.1)), (Sl Kf r75.2.2.1), (Vl (.int .i64 r75.2.2.2.1)), (Sl (Ki .i64) r75.2.2.2.2)], 161, none⟩, ⟨.pointer (some q3), [(Vl (.int .i64 5)), (Vl (.int .i64 0)), (Vl (.int .i64 r15.2.2.2.1)), (Vl (.slice none 0 0)), (Vl (.slice none 0 0)), (Vl (.slice none 0 0)), (Vl (.slice none 0 0))], 27, none⟩, ⟨.pointer (some q2), [(Vl (.int .i64 0)), (Vl (.int .i64 0)), (Vl (.int .i64 0)), (Vl (.slice none 0 0)), (Vl (.slice none 0 0)), (Vl (.slice none 0 0)), (Vl (.slice none 0 0))], 27, none⟩]) (fun _ => rfl) rfl rfl) (wt_none' rfl) fun ⟨⟩ => ?_
    refine sx_rd' (rd_move' rfl) rfl rfl (wt_none' rfl) ?_
    obtain ⟨r78, hr78, hp⟩ := bind_some hp
    refine sx_ox' (ox_callg' (ent_inv' rfl rfl (inv_ptr0 (inv92_Endss _))) (gogeom_geom0_Endss_v6_sim _ _ _ _ _ hr78 : Go.Sx.Fn Try.prog 146 [(Vl (.pointer (some wa0)))] [⟨.pointer (some wa0), [(Vl (.int .i64 r75.1)), (Vl (.int .i64 r75.2.1)), (Sl Kf r75.2.2.1), (Vl (.int .i64 r75.2.2.2.1)), (Sl (Ki .i64) r75.2.2.2.2)], 161, none⟩] (fun x : Unit => (Vl (.slice none 0 0))) (fun x => [⟨.pointer (some wa0), [(Vl (.int .i64 r78.1)), (Vl (.int .i64 r78.2.1)), (Sl Kf r78.2.2.1), (Vl (.int .i64 r78.2.2.2.1)), (Sl (Ki .i64) r78.2.2.2.2)], 161, none⟩])) [0] [1, 2] (by decide) (pick_cons rfl pick_nil) (pick_cons rfl (pick_cons rfl pick_nil)) (Hn := fun x : Unit => [⟨.pointer (some wa0), [(Vl (.int .i64 r78.1)), (Vl (.int .i64 r78.2.1)), (Sl Kf r78.2.2.1), (Vl (.int .i64 r78.2.2.2.1)), (Sl (Ki .i64) r78.2.2.2.2)], 161, none⟩, ⟨.pointer (some q3), [(Vl (.int .i64 5)), (Vl (.int .i64 0)), (Vl (.int .i64 r15.2.2.2.1)), (Vl (.slice none 0 0)), (Vl (.slice none 0 0)), (Vl (.slice none 0 0)), (Vl (.slice none 0 0))], 27, none⟩, ⟨.pointer (some q2), [(Vl (.int .i64 0)), (Vl (.int .i64 0)), (Vl (.int .i64 0)), (Vl (.slice none 0 0)), (Vl (.slice none 0 0)), (Vl (.slice none 0 0)), (Vl (.slice none 0 0))], 27, none⟩]) (fun _ => rfl) rfl rfl) (wt_none' rfl) fun ⟨⟩ => ?_
    obtain ⟨r79, hr79, hp⟩ := bind_some hp
    refine sx_ox' (ox_calln' (ent_fn' Try.func51 isn51 rfl rfl) (impl_intss_v2_sim hr79 : Go.Sx.Fn Try.prog 51 [(Vl (.slice none 0 0))] [] (fun x : Unit => (Vl (.slice none 0 0))) (fun x => [])) (Hn := fun x : Unit => [⟨.pointer (some wa0), [(Vl (.int .i64 r78.1)), (Vl (.int .i64 r78.2.1)), (Sl Kf r78.2.2.1), (Vl (.int .i64 r78.2.2.2.1)), (Sl (Ki .i64) r78.2.2.2.2)], 161, none⟩, ⟨.pointer (some q3), [(Vl (.int .i64 5)), (Vl (.int .i64 0)), (Vl (.int .i64 r15.2.2.2.1)), (Vl (.slice none 0 0)), (Vl (.slice none 0 0)), (Vl (.slice none 0 0)), (Vl (.slice none 0 0))], 27, none⟩, ⟨.pointer (some q2), [(Vl (.int .i64 0)), (Vl (.int .i64 0)), (Vl (.int .i64 0)), (Vl (.slice none 0 0)), (Vl (.slice none 0 0)), (Vl (.slice none 0 0)), (Vl (.slice none 0 0))], 27, none⟩]) (fun _ => rfl) rfl rfl) (wt_none' rfl) fun ⟨⟩ => ?_
    refine sx_rd' (rd_field' (off := 1) rfl Try.underlying27 rfl info3 rfl) rfl rfl (wt_none' rfl) ?_
    refine sx_ox' (ox_store' (i := 1) (o := 1) rfl rfl (lv_vl rfl rfl) ⟨rfl, rfl, rfl, rfl⟩ rfl info3 rfl (H' := [⟨.pointer (some wa0), [(Vl (.int .i64 r78.1)), (Vl (.int .i64 r78.2.1)), (Sl Kf r78.2.2.1), (Vl (.int .i64 r78.2.2.2.1)), (Sl (Ki .i64) r78.2.2.2.2)], 161, none⟩, ⟨.pointer (some q3), [(Vl (.int .i64 5)), (Vl (.int .i64 r70.1)), (Vl (.int .i64 r15.2.2.2.1)), (Vl (.slice none 0 0)), (Vl (.slice none 0 0)), (Vl (.slice none 0 0)), (Vl (.slice none 0 0))], 27, none⟩, ⟨.pointer (some q2), [(Vl (.int .i64 0)), (Vl (.int .i64 0)), (Vl (.int .i64 0)), (Vl (.slice none 0 0)), (Vl (.slice none 0 0)), (Vl (.slice none 0 0)), (Vl (.slice none 0 0))], 27, none⟩]) rfl) (wt_none' rfl) fun _ => ?_
    refine sx_rd' (rd_field' (off := 3) rfl Try.underlying27 rfl info22 rfl) rfl rfl (wt_none' rfl) ?_
    refine sx_ox' (ox_store' (i := 1) (o := 3) rfl rfl (lv_sl _ _) ⟨rfl, rfl, rfl, rfl⟩ rfl info22 rfl (H' := [⟨.pointer (some wa0), [(Vl (.int .i64 r78.1)), (Vl (.int .i64 r78.2.1)), (Sl Kf r78.2.2.1), (Vl (.int .i64 r78.2.2.2.1)), (Sl (Ki .i64) r78.2.2.2.2)], 161, none⟩, ⟨.pointer (some q3), [(Vl (.int .i64 5)), (Vl (.int .i64 r70.1)), (Vl (.int .i64 r15.2.2.2.1)), (Sl Kf r73), (Vl (.slice none 0 0)), (Vl (.slice none 0 0)), (Vl (.slice none 0 0))], 27, none⟩, ⟨.pointer (some q2), [(Vl (.int .i64 0)), (Vl (.int .i64 0)), (Vl (.int .i64 0)), (Vl (.slice none 0 0)), (Vl (.slice none 0 0)), (Vl (.slice none 0 0)), (Vl (.slice none 0 0))], 27, none⟩]) rfl) (wt_none' rfl) fun _ => ?_
    refine sx_rd' (rd_field' (off := 4) rfl Try.underlying27 rfl info23 rfl) rfl rfl (wt_none' rfl) ?_
    refine sx_ox' (ox_store' (i := 1) (o := 4) rfl rfl (lv_sl _ _) ⟨rfl, rfl, rfl, rfl⟩ rfl info23 rfl (H' := [⟨.pointer (some wa0), [(Vl (.int .i64 r78.1)), (Vl (.int .i64 r78.2.1)), (Sl Kf r78.2.2.1), (Vl (.int .i64 r78.2.2.2.1)), (Sl (Ki .i64) r78.2.2.2.2)], 161, none⟩, ⟨.pointer (some q3), [(Vl (.int .i64 5)), (Vl (.int .i64 r70.1)), (Vl (.int .i64 r15.2.2.2.1)), (Sl Kf r73), (Sl (Ki .i64) y1), (Vl (.slice none 0 0)), (Vl (.slice none 0 0))], 27, none⟩, ⟨.pointer (some q2), [(Vl (.int .i64 0)), (Vl (.int .i64 0)), (Vl (.int .i64 0)), (Vl (.slice none 0 0)), (Vl (.slice none 0 0)), (Vl (.slice none 0 0)), (Vl (.slice none 0 0))], 27, none⟩]) rfl) (wt_none' rfl) fun _ => ?_
    refine sx_rd' (rd_field' (off := 5) rfl Try.underlying27 rfl info24 rfl) rfl rfl (wt_none' rfl) ?_
    refine sx_ox' (ox_store' (i := 1) (o := 5) rfl rfl (lv_vl rfl rfl) ⟨rfl, rfl, rfl, rfl⟩ rfl info24 rfl (H' := [⟨.pointer (some wa0), [(Vl (.int .i64 r78.1)), (Vl (.int .i64 r78.2.1)), (Sl Kf r78.2.2.1), (Vl (.int .i64 r78.2.2.2.1)), (Sl (Ki .i64) r78.2.2.2.2)], 161, none⟩, ⟨.pointer (some q3), [(Vl (.int .i64 5)), (Vl (.int .i64 r70.1)), (Vl (.int .i64 r15.2.2.2.1)), (Sl Kf r73), (Sl (Ki .i64) y1), (Vl (.slice none 0 0)), (Vl (.slice none 0 0))], 27, none⟩, ⟨.pointer (some q2), [(Vl (.int .i64 0)), (Vl (.int .i64 0)), (Vl (.int .i64 0)), (Vl (.slice none 0 0)), (Vl (.slice none 0 0)), (Vl (.slice none 0 0)), (Vl (.slice none 0 0))], 27, none⟩]) rfl) (wt_none' rfl) fun _ => ?_
    refine sx_nil' ?_
    show TX E K12 _
    refine tx_k' hK12 ?_
    refine cx_seq' fun K13 hK13 => ?_
    refine cx_region' ?_
    refine sx_rd' (rd_load_agg' (i := 1) (o := 0) (nn := 7) rfl ⟨rfl, rfl, rfl, rfl⟩ rfl agg27 (l' := [(Vl (.int .i64 5)), (Vl (.int .i64 r70.1)), (Vl (.int .i64 r15.2.2.2.1)), (Sl Kf r73), (Sl (Ki .i64) y1), (Vl (.slice none 0 0)), (Vl (.slice none 0 0))]) rfl) rfl rfl (wt_none' rfl) ?_
    refine sx_ox' (ox_store' (i := 2) (o := 0) rfl rfl (lv_ag _) ⟨rfl, rfl, rfl, rfl⟩ rfl info27 rfl (H' := [⟨.pointer (some wa0), [(Vl (.int .i64 r78.1)), (Vl (.int .i64 r78.2.1)), (Sl Kf r78.2.2.1), (Vl (.int .i64 r78.2.2.2.1)), (Sl (Ki .i64) r78.2.2.2.2)], 161, none⟩, ⟨.pointer (some q3), [(Vl (.int .i64 5)), (Vl (.int .i64 r70.1)), (Vl (.int .i64 r15.2.2.2.1)), (Sl Kf r73), (Sl (Ki .i64) y1), (Vl (.slice none 0 0)), (Vl (.slice none 0 0))], 27, none⟩, ⟨.pointer (some q2), [(Vl (.int .i64 5)), (Vl (.int .i64 r70.1)), (Vl (.int .i64 r15.2.2.2.1)), (Sl Kf r73), (Sl (Ki .i64) y1), (Vl (.slice none 0 0)), (Vl (.slice none 0 0))], 27, none⟩]) rfl) (wt_none' rfl) fun _ => ?_
    refine sx_nil' ?_
    show TX E K13 _
    refine tx_k' hK13 ?_
    refine cx_retc' ?_
    replace hp := Option.some.inj hp
    subst hp
    refine tx_pick' (L' := [(2, (Vl (.pointer (some q2))))]) (H' := [⟨.pointer (some wa0), [(Vl (.int .i64 r78.1)), (Vl (.int .i64 r78.2.1)), (Sl Kf r78.2.2.1), (Vl (.int .i64 r78.2.2.2.1)), (Sl (Ki .i64) r78.2.2.2.2)], 161, none⟩, ⟨.pointer (some q2), [(Vl (.int .i64 5)), (Vl (.int .i64 r70.1)), (Vl (.int .i64 r15.2.2.2.1)), (Sl Kf r73), (Sl (Ki .i64) y1), (Vl (.slice none 0 0)), (Vl (.slice none 0 0))], 27, none⟩]) [0, 2] (sub_cons rfl sub_nil) (by decide) (pick_cons rfl (pick_cons rfl pick_nil)) ?_
    exact tx_ret1' Try.results44 rfl () (rv_cell_agg' (i := 1) (o := 0) (nn := 7) rfl ⟨rfl, rfl, rfl, rfl⟩ rfl agg27 rfl) (List.Sublist.cons_cons _ (List.nil_sublist _))

def gogeom_SetSRID_v7 (k : Nat) (a0_0 : Int) (a0_1 : Int) (a0_2 : List Nat) (a0_3 : Int) (a0_4 : List (List Int)) (a1 : Int) : Option (Int × Int × (List Nat) × Int × (List (List Int))) :=
  (gogeom_MultiPolygon_SetSRID k a0_0 a0_1 a0_2 a0_3 a0_4 a1) >>= fun r68 =>
  some (r68.1, r68.2.1, r68.2.2.1, r68.2.2.2.1, r68.2.2.2.2)

theorem gogeom_SetSRID_v7_sim {k : Nat} {wa0 : Addr} (a0_0 : Int) (a0_1 : Int) (a0_2 : List Nat) (a0_3 : Int) (a0_4 : List (List Int)) (a1 : Int) {out : Int × Int × (List Nat) × Int × (List (List Int))} (hp : gogeom_SetSRID_v7 k a0_0 a0_1 a0_2 a0_3 a0_4 a1 = some out) : Go.Sx.Fn Try.prog 58 [(If 95 (Vl (.pointer (some wa0)))), (Vl (.int .i64 a1))] [⟨.pointer (some wa0), [(Vl (.int .i64 a0_0)), (Vl (.int .i64 a0_1)), (Sl Kf a0_2), (Vl (.int .i64 a0_3)), (Sl (Kl (Ki .i64)) a0_4)], 165, none⟩] (fun w : Unit => (Tu [(If 95 (Vl (.pointer (some wa0)))), (Vl .nilIface)])) (fun w => [⟨.pointer (some wa0), [(Vl (.int .i64 out.1)), (Vl (.int .i64 out.2.1)), (Sl Kf out.2.2.1), (Vl (.int .i64 out.2.2.2.1)), (Sl (Kl (Ki .i64)) out.2.2.2.2)], 165, none⟩]) := by
  unfold gogeom_SetSRID_v7 at hp
  refine fn_of Try.func58 rfl Try.ntmps58 rfl fun E hM => ?_
  refine cx_seq' fun K1 hK1 => ?_
  refine cx_region' ?_
  refine sx_rd' (rd_assign' rfl) rfl rfl (wt_none' rfl) ?_
  refine sx_rd' (rd_assign' rfl) rfl rfl (wt_none' rfl) ?_
  refine sx_nil' ?_
  show TX E K1 _
  refine tx_k' hK1 ?_
  refine cx_seq' fun K2 hK2 => ?_
  refine cx_region' ?_
  refine sx_rd' (rd_move' rfl) rfl rfl (wt_none' rfl) ?_
  refine sx_nil' ?_
  show TX E K2 _
  refine tx_k' hK2 ?_
  refine cx_block' ?_
  refine cx_seq' fun K3 hK3 => ?_
  refine cx_region' ?_
  refine sx_rd' (rd_assert' rfl (F := fun _ => .tuple #[.pointer none, .bool false]) as95_75_60 as_no) rfl rfl (wt_none' rfl) ?_
  refine sx_rd' (rd_extract' rfl rfl) rfl rfl (wt_none' rfl) ?_
  refine sx_rd' (rd_extract' rfl rfl) rfl rfl (wt_none' rfl) ?_
  refine sx_nil' ?_
  show TX E K3 _
  refine tx_k' hK3 ?_
  refine cx_cond_f' rfl rfl ?_
  refine cx_seq' fun K4 hK4 => ?_
  refine cx_region' ?_
  refine sx_rd' (rd_assert' rfl (F := fun _ => .tuple #[.pointer none, .bool false]) as95_75_94 as_no) rfl rfl (wt_none' rfl) ?_
  refine sx_rd' (rd_extract' rfl rfl) rfl rfl (wt_none' rfl) ?_
  refine sx_rd' (rd_extract' rfl rfl) rfl rfl (wt_none' rfl) ?_
  refine sx_nil' ?_
  show TX E K4 _
  refine tx_k' hK4 ?_
  refine cx_cond_f' rfl rfl ?_
  refine cx_seq' fun K5 hK5 => ?_
  refine cx_region' ?_
  refine sx_rd' (rd_assert' rfl (F := fun _ => .tuple #[.pointer none, .bool false]) as95_75_89 as_no) rfl rfl (wt_none' rfl) ?_
  refine sx_rd' (rd_extract' rfl rfl) rfl rfl (wt_none' rfl) ?_
  refine sx_rd' (rd_extract' rfl rfl) rfl rfl (wt_none' rfl) ?_
  refine sx_nil' ?_
  show TX E K5 _
  refine tx_k' hK5 ?_
  refine cx_cond_f' rfl rfl ?_
  refine cx_seq' fun K6 hK6 => ?_
  refine cx_region' ?_
  refine sx_rd' (rd_assert' rfl (F := fun _ => .tuple #[.pointer none, .bool false]) as95_75_87 as_no) rfl rfl (wt_none' rfl) ?_
  refine sx_rd' (rd_extract' rfl rfl) rfl rfl (wt_none' rfl) ?_
  refine sx_rd' (rd_extract' rfl rfl) rfl rfl (wt_none' rfl) ?_
  refine sx_nil' ?_
  show TX E K6 _
  refine tx_k' hK6 ?_
  refine cx_cond_f' rfl rfl ?_
  refine cx_seq' fun K7 hK7 => ?_
  refine cx_region' ?_
  refine sx_rd' (rd_assert' rfl (F := fun _ => .tuple #[.pointer none, .bool false]) as95_75_90 as_no) rfl rfl (wt_none' rfl) ?_
  refine sx_rd' (rd_extract' rfl rfl) rfl rfl (wt_none' rfl) ?_
  refine sx_rd' (rd_extract' rfl rfl) rfl rfl (wt_none' rfl) ?_
  refine sx_nil' ?_
  show TX E K7 _
  refine tx_k' hK7 ?_
  refine cx_cond_f' rfl rfl ?_
  refine cx_seq' fun K8 hK8 => ?_
  refine cx_region' ?_
  refine sx_rd' (rd_assert' rfl (F := fun _ => .tuple #[.pointer none, .bool false]) as95_75_92 as_no) rfl rfl (wt_none' rfl) ?_
  refine sx_rd' (rd_extract' rfl rfl) rfl rfl (wt_none' rfl) ?_
  refine sx_rd' (rd_extract' rfl rfl) rfl rfl (wt_none' rfl) ?_
  refine sx_nil' ?_
  show TX E K8 _
  refine tx_k' hK8 ?_
  refine cx_cond_f' rfl rfl ?_
  refine cx_seq' fun K9 hK9 => ?_
  refine cx_region' ?_
  refine sx_rd' (rd_assert' rfl (F := fun v => .tuple #[v, .bool true]) as95_75_95k as_ok) rfl rfl (wt_none' rfl) ?_
  refine sx_rd' (rd_extract' rfl rfl) rfl rfl (wt_none' rfl) ?_
  refine sx_rd' (rd_extract' rfl rfl) rfl rfl (wt_none' rfl) ?_
  refine sx_nil' ?_
  show TX E K9 _
  refine tx_k' hK9 ?_
  refine cx_cond_t' rfl rfl ?_
  refine cx_seq' fun K10 hK10 => ?_
  refine cx_region' ?_
  refine sx_rd' (rd_assign' rfl) rfl rfl (wt_none' rfl) ?_
  refine sx_nil' ?_
  show TX E K10 _
  refine tx_k' hK10 ?_
  refine cx_seq' fun K11 hK11 => ?_
  refine cx_region' ?_
  refine sx_rd' (rd_move' rfl) rfl rfl (wt_none' rfl) ?_
  refine sx_rd' (rd_move' rfl) rfl rfl (wt_none' rfl) ?_
  obtain ⟨r68, hr68, hp⟩ := bind_some hp
  refine sx_ox' (ox_callg' (ent_fn' Try.func100 isn100 rfl rfl) (gogeom_MultiPolygon_SetSRID_sim _ _ _ _ _ _ hr68 : Go.Sx.Fn Try.prog 100 [(Vl (.pointer (some wa0))), (Vl (.int .i64 a1))] [⟨.pointer (some wa0), [(Vl (.int .i64 a0_0)), (Vl (.int .i64 a0_1)), (Sl Kf a0_2), (Vl (.int .i64 a0_3)), (Sl (Kl (Ki .i64)) a0_4)], 165, none⟩] (fun x : Unit => (Vl (.pointer (some wa0)))) (fun x => [⟨.pointer (some wa0), [(Vl (.int .i64 r68.1)), (Vl (.int .i64 r68.2.1)), (Sl Kf r68.2.2.1), (Vl (.int .i64 r68.2.2.2.1)), (Sl (Kl (Ki .i64)) r68.2.2.2.2)], 165, none⟩])) [0] [] (by decide) (pick_cons rfl pick_nil) pick_nil (Hn := fun x : Unit => [⟨.pointer (some wa0), [(Vl (.int .i64 r68.1)), (Vl (.int .i64 r68.2.1)), (Sl Kf r68.2.2.1), (Vl (.int .i64 r68.2.2.2.1)), (Sl (Kl (Ki .i64)) r68.2.2.2.2)], 165, none⟩]) (fun _ => rfl) rfl rfl) (wt_none' rfl) fun ⟨⟩ => ?_
  refine sx_rd' (rd_iface' rfl ⟨_, Try.underlying95, fun _ h => (nomatch h)⟩) rfl rfl (wt_none' rfl) ?_
  refine sx_rd' (rd_assign' rfl) rfl rfl (wt_none' rfl) ?_
  refine sx_rd' (rd_assign' rfl) rfl rfl (wt_none' rfl) ?_
  refine sx_nil' ?_
  show TX E K11 _
  refine tx_k' hK11 ?_
  refine cx_retc' ?_
  replace hp := Option.some.inj hp
  subst hp
  refine tx_pick' (L' := [(4, (If 95 (Vl (.pointer (some wa0))))), (5, (Vl .nilIface))]) (H' := [⟨.pointer (some wa0), [(Vl (.int .i64 r68.1)), (Vl (.int .i64 r68.2.1)), (Sl Kf r68.2.2.1), (Vl (.int .i64 r68.2.2.2.1)), (Sl (Kl (Ki .i64)) r68.2.2.2.2)], 165, none⟩]) [0] (sub_cons rfl (sub_cons rfl sub_nil)) (by decide) (pick_cons rfl pick_nil) ?_
  exact tx_ret2' Try.results58 rfl () (rv_tmp' rfl) (rv_tmp' rfl) rfl (List.Sublist.refl _)

def gogeom_geom0_SRID_v7 (k : Nat) (a0_0 : Int) (a0_1 : Int) (a0_2 : List Nat) (a0_3 : Int) (a0_4 : List (List Int)) : Option (Int × Int × (List Nat) × Int × (List (List Int))) :=
  some (a0_0, a0_1, a0_2, a0_3, a0_4)

theorem gogeom_geom0_SRID_v7_sim {k : Nat} {wa0 : Addr} (a0_0 : Int) (a0_1 : Int) (a0_2 : List Nat) (a0_3 : Int) (a0_4 : List (List Int)) {out : Int × Int × (List Nat) × Int × (List (List Int))} (hp : gogeom_geom0_SRID_v7 k a0_0 a0_1 a0_2 a0_3 a0_4 = some out) : Go.Sx.Fn Try.prog 151 [(Vl (.pointer (some wa0)))] [⟨.pointer (some wa0), [(Vl (.int .i64 a0_0)), (Vl (.int .i64 a0_1)), (Sl Kf a0_2), (Vl (.int .i64 a0_3)), (Sl (Kl (Ki .i64)) a0_4)], 165, none⟩] (fun w : Unit => (Vl (.int .i64 out.2.2.2.1))) (fun w => [⟨.pointer (some wa0), [(Vl (.int .i64 out.1)), (Vl (.int .i64 out.2.1)), (Sl Kf out.2.2.1), (Vl (.int .i64 out.2.2.2.1)), (Sl (Kl (Ki .i64)) out.2.2.2.2)], 165, none⟩]) := by
  unfold gogeom_geom0_SRID_v7 at hp
  refine fn_of Try.func151 rfl Try.ntmps151 rfl fun E hM => ?_
  refine cx_seq' fun K1 hK1 => ?_
  refine cx_region' ?_
  refine sx_rd' (rd_assign' rfl) rfl rfl (wt_none' rfl) ?_
  refine sx_nil' ?_
  show TX E K1 _
  refine tx_k' hK1 ?_
  refine cx_seq' fun K2 hK2 => ?_
  refine cx_region' ?_
  refine sx_rd' (rd_move' rfl) rfl rfl (wt_none' rfl) ?_
  refine sx_rd' (rd_nilck' rfl) rfl rfl (wt_none' rfl) ?_
  refine sx_rd' (rd_field' (off := 3) rfl Try.underlying112 rfl info3 rfl) rfl rfl (wt_none' rfl) ?_
  refine sx_rd' (rd_load' (i := 0) (o := 3) rfl ⟨rfl, rfl, rfl, rfl⟩ rfl flat3) rfl rfl (wt_none' rfl) ?_
  refine sx_rd' (rd_assign' rfl) rfl rfl (wt_none' rfl) ?_
  refine sx_nil' ?_
  show TX E K2 _
  refine tx_k' hK2 ?_
  refine cx_retc' ?_
  replace hp := Option.some.inj hp
  subst hp
  refine tx_pick' (L' := [(2, (Vl (.int .i64 a0_3)))]) (H' := [⟨.pointer (some wa0), [(Vl (.int .i64 a0_0)), (Vl (.int .i64 a0_1)), (Sl Kf a0_2), (Vl (.int .i64 a0_3)), (Sl (Kl (Ki .i64)) a0_4)], 165, none⟩]) [0] (sub_cons rfl sub_nil) (by decide) (pick_cons rfl pick_nil) ?_
  exact tx_ret1' Try.results151 rfl () (rv_tmp' rfl) (List.Sublist.refl _)

def gogeom_geom0_Layout_v7 (k : Nat) (a0_0 : Int) (a0_1 : Int) (a0_2 : List Nat) (a0_3 : Int) (a0_4 : List (List Int)) : Option (Int × Int × (List Nat) × Int × (List (List Int))) :=
  some (a0_0, a0_1, a0_2, a0_3, a0_4)

theorem gogeom_geom0_Layout_v7_sim {k : Nat} {wa0 : Addr} (a0_0 : Int) (a0_1 : Int) (a0_2 : List Nat) (a0_3 : Int) (a0_4 : List (List Int)) {out : Int × Int × (List Nat) × Int × (List (List Int))} (hp : gogeom_geom0_Layout_v7 k a0_0 a0_1 a0_2 a0_3 a0_4 = some out) : Go.Sx.Fn Try.prog 148 [(Vl (.pointer (some wa0)))] [⟨.pointer (some wa0), [(Vl (.int .i64 a0_0)), (Vl (.int .i64 a0_1)), (Sl Kf a0_2), (Vl (.int .i64 a0_3)), (Sl (Kl (Ki .i64)) a0_4)], 165, none⟩] (fun w : Unit => (Vl (.int .i64 out.1))) (fun w => [⟨.pointer (some wa0), [(Vl (.int .i64 out.1)), (Vl (.int .i64 out.2.1)), (Sl Kf out.2.2.1), (Vl (.int .i64 out.2.2.2.1)), (Sl (Kl (Ki .i64)) out.2.2.2.2)], 165, none⟩]) := by
  unfold gogeom_geom0_Layout_v7 at hp
  refine fn_of Try.func148 rfl Try.ntmps148 rfl fun E hM => ?_
  refine cx_seq' fun K1 hK1 => ?_
  refine cx_region' ?_
  refine sx_rd' (rd_assign' rfl) rfl rfl (wt_none' rfl) ?_
  refine sx_nil' ?_
  show TX E K1 _
  refine tx_k' hK1 ?_
  refine cx_seq' fun K2 hK2 => ?_
  refine cx_region' ?_
  refine sx_rd' (rd_move' rfl) rfl rfl (wt_none' rfl) ?_
  refine sx_rd' (rd_nilck' rfl) rfl rfl (wt_none' rfl) ?_
  refine sx_rd' (rd_field0' rfl Try.underlying112 rfl info65 rfl) rfl rfl (wt_none' rfl) ?_
  refine sx_rd' (rd_load' (i := 0) (o := 0) rfl ⟨rfl, rfl, rfl, rfl⟩ rfl flat65) rfl rfl (wt_none' rfl) ?_
  refine sx_rd' (rd_assign' rfl) rfl rfl (wt_none' rfl) ?_
  refine sx_nil' ?_
  show TX E K2 _
  refine tx_k' hK2 ?_
  refine cx_retc' ?_
  replace hp := Option.some.inj hp
  subst hp
  refine tx_pick' (L' := [(2, (Vl (.int .i64 a0_0)))]) (H' := [⟨.pointer (some wa0), [(Vl (.int .i64 a0_0)), (Vl (.int .i64 a0_1)), (Sl Kf a0_2), (Vl (.int .i64 a0_3)), (Sl (Kl (Ki .i64)) a0_4)], 165, none⟩]) [0] (sub_cons rfl sub_nil) (by decide) (pick_cons rfl pick_nil) ?_
  exact tx_ret1' Try.results148 rfl () (rv_tmp' rfl) (List.Sublist.refl _)

def gogeom_geom0_FlatCoords_v7 (k : Nat) (a0_0 : Int) (a0_1 : Int) (a0_2 : List Nat) (a0_3 : Int) (a0_4 : List (List Int)) : Option (Int × Int × (List Nat) × Int × (List (List Int))) :=
  some (a0_0, a0_1, a0_2, a0_3, a0_4)

theorem gogeom_geom0_FlatCoords_v7_sim {k : Nat} {wa0 : Addr} (a0_0 : Int) (a0_1 : Int) (a0_2 : List Nat) (a0_3 : Int) (a0_4 : List (List Int)) {out : Int × Int × (List Nat) × Int × (List (List Int))} (hp : gogeom_geom0_FlatCoords_v7 k a0_0 a0_1 a0_2 a0_3 a0_4 = some out) : Go.Sx.Fn Try.prog 147 [(Vl (.pointer (some wa0)))] [⟨.pointer (some wa0), [(Vl (.int .i64 a0_0)), (Vl (.int .i64 a0_1)), (Sl Kf a0_2), (Vl (.int .i64 a0_3)), (Sl (Kl (Ki .i64)) a0_4)], 165, none⟩] (fun w : Unit => (Sl Kf out.2.2.1)) (fun w => [⟨.pointer (some wa0), [(Vl (.int .i64 out.1)), (Vl (.int .i64 out.2.1)), (Sl Kf out.2.2.1), (Vl (.int .i64 out.2.2.2.1)), (Sl (Kl (Ki .i64)) out.2.2.2.2)], 165, none⟩]) := by
  unfold gogeom_geom0_FlatCoords_v7 at hp
  refine fn_of Try.func147 rfl Try.ntmps147 rfl fun E hM => ?_
  refine cx_seq' fun K1 hK1 => ?_
  refine cx_region' ?_
  refine sx_rd' (rd_assign' rfl) rfl rfl (wt_none' rfl) ?_
  refine sx_nil' ?_
  show TX E K1 _
  refine tx_k' hK1 ?_
  refine cx_seq' fun K2 hK2 => ?_
  refine cx_region' ?_
  refine sx_rd' (rd_move' rfl) rfl rfl (wt_none' rfl) ?_
  refine sx_rd' (rd_nilck' rfl) rfl rfl (wt_none' rfl) ?_
  refine sx_rd' (rd_field' (off := 2) rfl Try.underlying112 rfl info22 rfl) rfl rfl (wt_none' rfl) ?_
  refine sx_rd' (rd_load' (i := 0) (o := 2) rfl ⟨rfl, rfl, rfl, rfl⟩ rfl flat22) rfl rfl (wt_none' rfl) ?_
  refine sx_rd' (rd_assign' rfl) rfl rfl (wt_none' rfl) ?_
  refine sx_nil' ?_
  show TX E K2 _
  refine tx_k' hK2 ?_
  refine cx_retc' ?_
  replace hp := Option.some.inj hp
  subst hp
  refine tx_pick' (L' := [(2, (Sl Kf a0_2))]) (H' := [⟨.pointer (some wa0), [(Vl (.int .i64 a0_0)), (Vl (.int .i64 a0_1)), (Sl Kf a0_2), (Vl (.int .i64 a0_3)), (Sl (Kl (Ki .i64)) a0_4)], 165, none⟩]) [0] (sub_cons rfl sub_nil) (by decide) (pick_cons rfl pick_nil) ?_
  exact tx_ret1' Try.results147 rfl () (rv_tmp' rfl) (List.Sublist.refl _)

def gogeom_geom0_Ends_v4 (k : Nat) (a0_0 : Int) (a0_1 : Int) (a0_2 : List Nat) (a0_3 : Int) (a0_4 : List (List Int)) : Option (Int × Int × (List Nat) × Int × (List (List Int))) :=
  some (a0_0, a0_1, a0_2, a0_3, a0_4)

theorem gogeom_geom0_Ends_v4_sim {k : Nat} {wa0 : Addr} (a0_0 : Int) (a0_1 : Int) (a0_2 : List Nat) (a0_3 : Int) (a0_4 : List (List Int)) {out : Int × Int × (List Nat) × Int × (List (List Int))} (hp : gogeom_geom0_Ends_v4 k a0_0 a0_1 a0_2 a0_3 a0_4 = some out) : Go.Sx.Fn Try.prog 145 [(Vl (.pointer (some wa0)))] [⟨.pointer (some wa0), [(Vl (.int .i64 a0_0)), (Vl (.int .i64 a0_1)), (Sl Kf a0_2), (Vl (.int .i64 a0_3)), (Sl (Kl (Ki .i64)) a0_4)], 165, none⟩] (fun w : Unit => (Vl (.slice none 0 0))) (fun w => [⟨.pointer (some wa0), [(Vl (.int .i64 out.1)), (Vl (.int .i64 out.2.1)), (Sl Kf out.2.2.1), (Vl (.int .i64 out.2.2.2.1)), (Sl (Kl (Ki .i64)) out.2.2.2.2)], 165, none⟩]) := by
  unfold gogeom_geom0_Ends_v4 at hp
  refine fn_of Try.func145 rfl Try.ntmps145 rfl fun E hM => ?_
  refine cx_seq' fun K1 hK1 => ?_
  refine cx_region' ?_
  refine sx_rd' (rd_assign' rfl) rfl rfl (wt_none' rfl) ?_
  refine sx_nil' ?_
  show TX E K1 _
  refine tx_k' hK1 ?_
  refine cx_seq' fun K2 hK2 => ?_
  refine cx_region' ?_
  refine sx_rd' (rd_assign' rfl) rfl rfl (wt_none' rfl) ?_
  refine sx_nil' ?_
  show TX E K2 _
  refine tx_k' hK2 ?_
  refine cx_retc' ?_
  replace hp := Option.some.inj hp
  subst hp
  refine tx_pick' (L' := [(2, (Vl (.slice none 0 0)))]) (H' := [⟨.pointer (some wa0), [(Vl (.int .i64 a0_0)), (Vl (.int .i64 a0_1)), (Sl Kf a0_2), (Vl (.int .i64 a0_3)), (Sl (Kl (Ki .i64)) a0_4)], 165, none⟩]) [0] (sub_cons rfl sub_nil) (by decide) (pick_cons rfl pick_nil) ?_
  exact tx_ret1' Try.results145 rfl () (rv_tmp' rfl) (List.Sublist.refl _)

def gogeom_geom3_Endss (k : Nat) (a0_0 : Int) (a0_1 : Int) (a0_2 : List Nat) (a0_3 : Int) (a0_4 : List (List Int)) : Option (Int × Int × (List Nat) × Int × (List (List Int))) :=
  some (a0_0, a0_1, a0_2, a0_3, a0_4)

theorem gogeom_geom3_Endss_sim {k : Nat} {wa0 : Addr} (a0_0 : Int) (a0_1 : Int) (a0_2 : List Nat) (a0_3 : Int) (a0_4 : List (List Int)) {out : Int × Int × (List Nat) × Int × (List (List Int))} (hp : gogeom_geom3_Endss k a0_0 a0_1 a0_2 a0_3 a0_4 = some out) : Go.Sx.Fn Try.prog 179 [(Vl (.pointer (some wa0)))] [⟨.pointer (some wa0), [(Vl (.int .i64 a0_0)), (Vl (.int .i64 a0_1)), (Sl Kf a0_2), (Vl (.int .i64 a0_3)), (Sl (Kl (Ki .i64)) a0_4)], 165, none⟩] (fun w : Unit => (Sl (Kl (Ki .i64)) out.2.2.2.2)) (fun w => [⟨.pointer (some wa0), [(Vl (.int .i64 out.1)), (Vl (.int .i64 out.2.1)), (Sl Kf out.2.2.1), (Vl (.int .i64 out.2.2.2.1)), (Sl (Kl (Ki .i64)) out.2.2.2.2)], 165, none⟩]) := by
  unfold gogeom_geom3_Endss at hp
  refine fn_of Try.func179 rfl Try.ntmps179 rfl fun E hM => ?_
  refine cx_seq' fun K1 hK1 => ?_
  refine cx_region' ?_
  refine sx_rd' (rd_assign' rfl) rfl rfl (wt_none' rfl) ?_
  refine sx_nil' ?_
  show TX E K1 _
  refine tx_k' hK1 ?_
  refine cx_seq' fun K2 hK2 => ?_
  refine cx_region' ?_
  refine sx_rd' (rd_move' rfl) rfl rfl (wt_none' rfl) ?_
  refine sx_rd' (rd_nilck' rfl) rfl rfl (wt_none' rfl) ?_
  refine sx_rd' (rd_field' (off := 4) rfl Try.underlying163 rfl info24 rfl) rfl rfl (wt_none' rfl) ?_
  refine sx_rd' (rd_load' (i := 0) (o := 4) rfl ⟨rfl, rfl, rfl, rfl⟩ rfl flat24) rfl rfl (wt_none' rfl) ?_
  refine sx_rd' (rd_assign' rfl) rfl rfl (wt_none' rfl) ?_
  refine sx_nil' ?_
  show TX E K2 _
  refine tx_k' hK2 ?_
  refine cx_retc' ?_
  replace hp := Option.some.inj hp
  subst hp
  refine tx_pick' (L' := [(2, (Sl (Kl (Ki .i64)) a0_4))]) (H' := [⟨.pointer (some wa0), [(Vl (.int .i64 a0_0)), (Vl (.int .i64 a0_1)), (Sl Kf a0_2), (Vl (.int .i64 a0_3)), (Sl (Kl (Ki .i64)) a0_4)], 165, none⟩]) [0] (sub_cons rfl sub_nil) (by decide) (pick_cons rfl pick_nil) ?_
  exact tx_ret1' Try.results179 rfl () (rv_tmp' rfl) (List.Sublist.refl _)

def impl_plain_v7 (k : Nat) (a0_0 : Int) (a0_1 : Int) (a0_2 : List Nat) (a0_3 : Int) (a0_4 : List (List Int)) : Option (Int × Int × (List Nat) × Int × (List (List Int)) × Int × Int × Int × (List Nat) × (List Int) × (List (List Int))) :=
  (gogeom_geom0_SRID_v7 k a0_0 a0_1 a0_2 a0_3 a0_4) >>= fun r15 =>
  (gogeom_geom0_Layout_v7 k r15.1 r15.2.1 r15.2.2.1 r15.2.2.2.1 r15.2.2.2.2) >>= fun r70 =>
  (gogeom_geom0_FlatCoords_v7 k r70.1 r70.2.1 r70.2.2.1 r70.2.2.2.1 r70.2.2.2.2) >>= fun r72 =>
  (impl_floats k r72.2.2.1) >>= fun r73 =>
  (gogeom_geom0_Ends_v4 k r72.1 r72.2.1 r72.2.2.1 r72.2.2.2.1 r72.2.2.2.2) >>= fun r75 =>
  (impl_ints_v2 k) >>= fun r76 =>
  (gogeom_geom3_Endss k r75.1 r75.2.1 r75.2.2.1 r75.2.2.2.1 r75.2.2.2.2) >>= fun r78 =>
  (impl_intss k r78.2.2.2.2) >>= fun r79 =>
  some (r78.1, r78.2.1, r78.2.2.1, r78.2.2.2.1, r78.2.2.2.2, 6, r70.1, r15.2.2.2.1, r73, r76, r79)

theorem impl_plain_v7_sim {k : Nat} {wa0 : Addr} (a0_0 : Int) (a0_1 : Int) (a0_2 : List Nat) (a0_3 : Int) (a0_4 : List (List Int)) {out : Int × Int × (List Nat) × Int × (List (List Int)) × Int × Int × Int × (List Nat) × (List Int) × (List (List Int))} (hp : impl_plain_v7 k a0_0 a0_1 a0_2 a0_3 a0_4 = some out) : Go.Sx.Fn Try.prog 44 [(If 95 (Vl (.pointer (some wa0))))] [⟨.pointer (some wa0), [(Vl (.int .i64 a0_0)), (Vl (.int .i64 a0_1)), (Sl Kf a0_2), (Vl (.int .i64 a0_3)), (Sl (Kl (Ki .i64)) a0_4)], 165, none⟩] (fun w : Unit => (Ag [(Vl (.int .i64 out.2.2.2.2.2.1)), (Vl (.int .i64 out.2.2.2.2.2.2.1)), (Vl (.int .i64 out.2.2.2.2.2.2.2.1)), (Sl Kf out.2.2.2.2.2.2.2.2.1), (Sl (Ki .i64) out.2.2.2.2.2.2.2.2.2.1), (Sl (Kl (Ki .i64)) out.2.2.2.2.2.2.2.2.2.2), (Vl (.slice none 0 0))])) (fun w => [⟨.pointer (some wa0), [(Vl (.int .i64 out.1)), (Vl (.int .i64 out.2.1)), (Sl Kf out.2.2.1), (Vl (.int .i64 out.2.2.2.1)), (Sl (Kl (Ki .i64)) out.2.2.2.2.1)], 165, none⟩]) := by
  unfold impl_plain_v7 at hp
  refine fn_of Try.func44 rfl Try.ntmps44 rfl fun E hM => ?_
  refine cx_seq' fun K1 hK1 => ?_
  refine cx_region' ?_
  refine sx_ox' (ox_alloc' info27 rfl rfl rfl rfl (l := [(Vl (.int .i64 0)), (Vl (.int .i64 0)), (Vl (.int .i64 0)), (Vl (.slice none 0 0)), (Vl (.slice none 0 0)), (Vl (.slice none 0 0)), (Vl (.slice none 0 0))]) rfl) (wt_none' rfl) fun q2 => ?_
  refine sx_nil' ?_
  show TX E K1 _
  refine tx_k' hK1 ?_
  refine cx_seq' fun K2 hK2 => ?_
  refine cx_region' ?_
  refine sx_rd' (rd_move' rfl) rfl rfl (wt_none' rfl) ?_
  obtain ⟨r15, hr15, hp⟩ := bind_some hp
  refine sx_ox' (ox_callg' (ent_inv' rfl rfl (inv_ptr0 (inv95_SRID _))) (gogeom_geom0_SRID_v7_sim _ _ _ _ _ hr15 : Go.Sx.Fn Try.prog 151 [(Vl (.pointer (some wa0)))] [⟨.pointer (some wa0), [(Vl (.int .i64 a0_0)), (Vl (.int .i64 a0_1)), (Sl Kf a0_2), (Vl (.int .i64 a0_3)), (Sl (Kl (Ki .i64)) a0_4)], 165, none⟩] (fun x : Unit => (Vl (.int .i64 r15.2.2.2.1))) (fun x => [⟨.pointer (some wa0), [(Vl (.int .i64 r15.1)), (Vl (.int .i64 r15.2.1)), (Sl Kf r15.2.2.1), (Vl (.int .i64 r15.2.2.2.1)), (Sl (Kl (Ki .i64)) r15.2.2.2.2)], 165, none⟩])) [1] [0] (by decide) (pick_cons rfl pick_nil) (pick_cons rfl pick_nil) (Hn := fun x : Unit => [⟨.pointer (some wa0), [(Vl (.int .i64 r15.1)), (Vl (.int .i64 r15.2.1)), (Sl Kf r15.2.2.1), (Vl (.int .i64 r15.2.2.2.1)), (Sl (Kl (Ki .i64)) r15.2.2.2.2)], 165, none⟩, ⟨.pointer (some q2), [(Vl (.int .i64 0)), (Vl (.int .i64 0)), (Vl (.int .i64 0)), (Vl (.slice none 0 0)), (Vl (.slice none 0 0)), (Vl (.slice none 0 0)), (Vl (.slice none 0 0))], 27, none⟩]) (fun _ => rfl) rfl rfl) (wt_none' rfl) fun ⟨⟩ => ?_
  refine sx_rd' (rd_build' (pls := [(0, 1), (1, 1), (2, 1), (3, 1), (4, 1), (5, 1), (6, 1)]) (qs := [(2, [(Vl (.int .i64 r15.2.2.2.1))])]) (r := [(Vl (.int .i64 0)), (Vl (.int .i64 0)), (Vl (.int .i64 r15.2.2.2.1)), (Vl (.slice none 0 0)), (Vl (.slice none 0 0)), (Vl (.slice none 0 0)), (Vl (.slice none 0 0))]) ⟨rfl, ⟨_, rfl, (lv_vl rfl rfl)⟩, trivial⟩ Try.underlying27 has27 places27 info27 rfl rfl rfl) rfl rfl (wt_none' rfl) ?_
  refine sx_ox' (ox_alloc' info27 rfl rfl rfl rfl (l := [(Vl (.int .i64 0)), (Vl (.int .i64 0)), (Vl (.int .i64 0)), (Vl (.slice none 0 0)), (Vl (.slice none 0 0)), (Vl (.slice none 0 0)), (Vl (.slice none 0 0))]) rfl) (wt_none' rfl) fun q3 => ?_
  refine sx_ox' (ox_store' (i := 0) (o := 0) rfl rfl (lv_ag _) ⟨rfl, rfl, rfl, rfl⟩ rfl info27 rfl (H' := [⟨.pointer (some q3), [(Vl (.int .i64 0)), (Vl (.int .i64 0)), (Vl (.int .i64 r15.2.2.2.1)), (Vl (.slice none 0 0)), (Vl (.slice none 0 0)), (Vl (.slice none 0 0)), (Vl (.slice none 0 0))], 27, none⟩, ⟨.pointer (some wa0), [(Vl (.int .i64 r15.1)), (Vl (.int .i64 r15.2.1)), (Sl Kf r15.2.2.1), (Vl (.int .i64 r15.2.2.2.1)), (Sl (Kl (Ki .i64)) r15.2.2.2.2)], 165, none⟩, ⟨.pointer (some q2), [(Vl (.int .i64 0)), (Vl (.int .i64 0)), (Vl (.int .i64 0)), (Vl (.slice none 0 0)), (Vl (.slice none 0 0)), (Vl (.slice none 0 0)), (Vl (.slice none 0 0))], 27, none⟩]) rfl) (wt_none' rfl) fun _ => ?_
  refine sx_nil' ?_
  show TX E K2 _
  refine tx_k' hK2 ?_
  refine cx_seq' fun K3 hK3 => ?_
  refine cx_seq' fun K4 hK4 => ?_
  refine cx_region' ?_
  refine sx_rd' (rd_move' rfl) rfl rfl (wt_none' rfl) ?_
  refine sx_nil' ?_
  show TX E K4 _
  refine tx_k' hK4 ?_
  refine cx_block' ?_
  refine cx_seq' fun K5 hK5 => ?_
  refine cx_region' ?_
  refine sx_rd' (rd_assert' rfl (F := fun _ => .tuple #[.pointer none, .bool false]) as95_75_60 as_no) rfl rfl (wt_none' rfl) ?_
  refine sx_rd' (rd_extract' rfl rfl) rfl rfl (wt_none' rfl) ?_
  refine sx_rd' (rd_extract' rfl rfl) rfl rfl (wt_none' rfl) ?_
  refine sx_nil' ?_
  show TX E K5 _
  refine tx_k' hK5 ?_
  refine cx_cond_f' rfl rfl ?_
  refine cx_seq' fun K6 hK6 => ?_
  refine cx_region' ?_
  refine sx_rd' (rd_assert' rfl (F := fun _ => .tuple #[.pointer none, .bool false]) as95_75_94 as_no) rfl rfl (wt_none' rfl) ?_
  refine sx_rd' (rd_extract' rfl rfl) rfl rfl (wt_none' rfl) ?_
  refine sx_rd' (rd_extract' rfl rfl) rfl rfl (wt_none' rfl) ?_
  refine sx_nil' ?_
  show TX E K6 _
  refine tx_k' hK6 ?_
  refine cx_cond_f' rfl rfl ?_
  refine cx_seq' fun K7 hK7 => ?_
  refine cx_region' ?_
  refine sx_rd' (rd_assert' rfl (F := fun _ => .tuple #[.pointer none, .bool false]) as95_75_89 as_no) rfl rfl (wt_none' rfl) ?_
  refine sx_rd' (rd_extract' rfl rfl) rfl rfl (wt_none' rfl) ?_
  refine sx_rd' (rd_extract' rfl rfl) rfl rfl (wt_none' rfl) ?_
  refine sx_nil' ?_
  show TX E K7 _
  refine tx_k' hK7 ?_
  refine cx_cond_f' rfl rfl ?_
  refine cx_seq' fun K8 hK8 => ?_
  refine cx_region' ?_
  refine sx_rd' (rd_assert' rfl (F := fun _ => .tuple #[.pointer none, .bool false]) as95_75_87 as_no) rfl rfl (wt_none' rfl) ?_
  refine sx_rd' (rd_extract' rfl rfl) rfl rfl (wt_none' rfl) ?_
  refine sx_rd' (rd_extract' rfl rfl) rfl rfl (wt_none' rfl) ?_
  refine sx_nil' ?_
  show TX E K8 _
  refine tx_k' hK8 ?_
  refine cx_cond_f' rfl rfl ?_
  refine cx_seq' fun K9 hK9 => ?_
  refine cx_region' ?_
  refine sx_rd' (rd_assert' rfl (F := fun _ => .tuple #[.pointer none, .bool false]) as95_75_90 as_no) rfl rfl (wt_none' rfl) ?_
  refine sx_rd' (rd_extract' rfl rfl) rfl rfl (wt_none' rfl) ?_
  refine sx_rd' (rd_extract' rfl rfl) rfl rfl (wt_none' rfl) ?_
  refine sx_nil' ?_
  show TX E K9 _
  refine tx_k' hK9 ?_
  refine cx_cond_f' rfl rfl ?_
  refine cx_seq' fun K10 hK10 => ?_
  refine cx_region' ?_
  refine sx_rd' (rd_assert' rfl (F := fun _ => .tuple #[.pointer none, .bool false]) as95_75_92 as_no) rfl rfl (wt_none' rfl) ?_
  refine sx_rd' (rd_extract' rfl rfl) rfl rfl (wt_none' rfl) ?_
  refine sx_rd' (rd_extract' rfl rfl) rfl rfl (wt_none' rfl) ?_
  refine sx_nil' ?_
  show TX E K10 _
  refine tx_k' hK10 ?_
  refine cx_cond_f' rfl rfl ?_
  refine cx_seq' fun K11 hK11 => ?_
  refine cx_region' ?_
  refine sx_rd' (rd_assert' rfl (F := fun v => .tuple #[v, .bool true]) as95_75_95k as_ok) rfl rfl (wt_none' rfl) ?_
  refine sx_rd' (rd_extract' rfl rfl) rfl rfl (wt_none' rfl) ?_
  refine sx_rd' (rd_extract' rfl rfl) rfl rfl (wt_none' rfl) ?_
  refine sx_nil' ?_
  show TX E K11 _
  refine tx_k' hK11 ?_
  refine cx_cond_t' rfl rfl ?_
  refine cx_seq' fun K12 hK12 => ?_
  refine cx_region' ?_
  refine sx_rd' (rd_assign' rfl) rfl rfl (wt_none' rfl) ?_
  refine sx_nil' ?_
  show TX E K12 _
  refine tx_k' hK12 ?_
  refine cx_region' ?_
  refine sx_rd' (rd_field0' rfl Try.underlying27 rfl info3 rfl) rfl rfl (wt_none' rfl) ?_
  refine sx_ox' (ox_store' (i := 0) (o := 0) rfl rfl (lv_vl rfl rfl) ⟨rfl, rfl, rfl, rfl⟩ rfl info3 rfl (H' := [⟨.pointer (some q3), [(Vl (.int .i64 6)), (Vl (.int .i64 0)), (Vl (.int .i64 r15.2.2.2.1)), (Vl (.slice none 0 0)), (Vl (.slice none 0 0)), (Vl (.slice none 0 0)), (Vl (.slice none 0 0))], 27, none⟩, ⟨.pointer (some wa0), [(Vl (.int .i64 r15.1)), (Vl (.int .i64 r15.2.1)), (Sl Kf r15.2.2.1), (Vl (.int .i64 r15.2.2.2.1)), (Sl (Kl (Ki .i64)) r15.2.2.2.2)], 165, none⟩, ⟨.pointer (some q2), [(Vl (.int .i64 0)), (Vl (.int .i64 0)), (Vl (.int .i64 0)), (Vl (.slice none 0 0)), (Vl (.slice none 0 0)), (Vl (.slice none 0 0)), (Vl (.slice none 0 0))], 27, none⟩]) rfl) (wt_none' rfl) fun _ => ?_
  refine sx_nil' ?_
  show TX E K3 _
  refine tx_k' hK3 ?_
  refine cx_seq' fun K13 hK13 => ?_
  refine cx_region' ?_
  refine sx_rd' (rd_move' rfl) rfl rfl (wt_none' rfl) ?_
  obtain ⟨r70, hr70, hp⟩ := bind_some hp
  refine sx_ox' (ox_callg' (ent_inv' rfl rfl (inv_ptr0 (inv95_Layout _))) (gogeom_geom0_Layout_v7_sim _ _ _ _ _ hr70 : Go.Sx.Fn Try.prog 148 [(Vl (.pointer (some wa0)))] [⟨.pointer (some wa0), [(Vl (.int .i64 r15.1)), (Vl (.int .i64 r15.2.1)), (Sl Kf r15.2.2.1), (Vl (.int .i64 r15.2.2.2.1)), (Sl (Kl (Ki .i64)) r15.2.2.2.2)], 165, none⟩] (fun x : Unit => (Vl (.int .i64 r70.1))) (fun x => [⟨.pointer (some wa0), [(Vl (.int .i64 r70.1)), (Vl (.int .i64 r70.2.1)), (Sl Kf r70.2.2.1), (Vl (.int .i64 r70.2.2.2.1)), (Sl (Kl (Ki .i64)) r70.2.2.2.2)], 165, none⟩])) [1] [0, 2] (by decide) (pick_cons rfl pick_nil) (pick_cons rfl (pick_cons rfl pick_nil)) (Hn := fun x : Unit => [⟨.pointer (some wa0), [(Vl (.int .i64 r70.1)), (Vl (.int .i64 r70.2.1)), (Sl Kf r70.2.2.1), (Vl (.int .i64 r70.2.2.2.1)), (Sl (Kl (Ki .i64)) r70.2.2.2.2)], 165, none⟩, ⟨.pointer (some q3), [(Vl (.int .i64 6)), (Vl (.int .i64 0)), (Vl (.int .i64 r15.2.2.2.1)), (Vl (.slice none 0 0)), (Vl (.slice none 0 0)), (Vl (.slice none 0 0)), (Vl (.slice none 0 0))], 27, none⟩, ⟨.pointer (some q2), [(Vl (.int .i64 0)), (Vl (.int .i64 0)), (Vl (.int .i64 0)), (Vl (.slice none 0 0)), (Vl (.slice none 0 0)), (Vl (.slice none 0 0)), (Vl (.slice none 0 0))], 27, none⟩]) (fun _ => rfl) rfl rfl) (wt_none' rfl) fun ⟨⟩ => ?_
  refine sx_rd' (rd_move' rfl) rfl rfl (wt_none' rfl) ?_
  obtain ⟨r72, hr72, hp⟩ := bind_some hp
  refine sx_ox' (ox_callg' (ent_inv' rfl rfl (inv_ptr0 (inv95_FlatCoords _))) (gogeom_geom0_FlatCoords_v7_sim _ _ _ _ _ hr72 : Go.Sx.Fn Try.prog 147 [(Vl (.pointer (some wa0)))] [⟨.pointer (some wa0), [(Vl (.int .i64 r70.1)), (Vl (.int .i64 r70.2.1)), (Sl Kf r70.2.2.1), (Vl (.int .i64 r70.2.2.2.1)), (Sl (Kl (Ki .i64)) r70.2.2.2.2)], 165, none⟩] (fun x : Unit => (Sl Kf r72.2.2.1)) (fun x => [⟨.pointer (some wa0), [(Vl (.int .i64 r72.1)), (Vl (.int .i64 r72.2.1)), (Sl Kf r72.2.2.1), (Vl (.int .i64 r72.2.2.2.1)), (Sl (Kl (Ki .i64)) r72.2.2.2.2)], 165, none⟩])) [0] [1, 2] (by decide) (pick_cons rfl pick_nil) (pick_cons rfl (pick_cons rfl pick_nil)) (Hn := fun x : Unit => [⟨.pointer (some wa0), [(Vl (.int .i64 r72.1)), (Vl (.int .i64 r72.2.1)), (Sl Kf r72.2.2.1), (Vl (.int .i64 r72.2.2.2.1)), (Sl (Kl (Ki .i64)) r72.2.2.2.2)], 165, none⟩, ⟨.pointer (some q3), [(Vl (.int .i64 6)), (Vl (.int .i64 0)), (Vl (.int .i64 r15.2.2.2.1)), (Vl (.slice none 0 0)), (Vl (.slice none 0 0)), (Vl (.slice none 0 0)), (Vl (.slice none 0 0))], 27, none⟩, ⟨.pointer (some q2), [(Vl (.int .i64 0)), (Vl (.int .i64 0)), (Vl (.int .i64 0)), (Vl (.slice none 0 0)), (Vl (.slice none 0 0)), (Vl (.slice none 0 0)), (Vl (.slice none 0 0))], 27, none⟩]) (fun _ => rfl) rfl rfl) (wt_none' rfl) fun ⟨⟩ => ?_
  obtain ⟨r73, hr73, hp⟩ := bind_some hp
  refine sx_ox' (ox_calln' (ent_fn' Try.func43 isn43 rfl rfl) (impl_floats_sim _ hr73 : Go.Sx.Fn Try.prog 43 [(Sl Kf r72.2.2.1)] [] (fun x : Unit => (Sl Kf r73)) (fun x => [])) (Hn := fun x : Unit => [⟨.pointer (some wa0), [(Vl (.int .i64 r72.1)), (Vl (.int .i64 r72.2.1)), (Sl Kf r72.2.2.1), (Vl (.int .i64 r72.2.2.2.1)), (Sl (Kl (Ki .i64)) r72.2.2.2.2)], 165, none⟩, ⟨.pointer (some q3), [(Vl (.int .i64 6)), (Vl (.int .i64 0)), (Vl (.int .i64 r15.2.2.2.1)), (Vl (.slice none 0 0)), (Vl (.slice none 0 0)), (Vl (.slice none 0 0)), (Vl (.slice none 0 0))], 27, none⟩, ⟨.pointer (some q2), [(Vl (.int .i64 0)), (Vl (.int .i64 0)), (Vl (.int .i64 0)), (Vl (.slice none 0 0)), (Vl (.slice none 0 0)), (Vl (.slice none 0 0)), (Vl (.slice none 0 0))], 27, none⟩]) (fun _ => rfl) rfl rfl) (wt_none' rfl) fun ⟨⟩ => ?_
  refine sx_rd' (rd_move' rfl) rfl rfl (wt_none' rfl) ?_
  obtain ⟨r75, hr75, hp⟩ := bind_some hp
  refine sx_ox' (ox_callg' (ent_inv' rfl rfl (inv_ptr0 (inv95_Ends _))) (gogeom_geom0_Ends_v4_sim _ _ _ _ _ hr75 : Go.Sx.Fn Try.prog 145 [(Vl (.pointer (some wa0)))] [⟨.pointer (some wa0), [(Vl (.int .i64 r72.1)), (Vl (.int .i64 r72.2.1)), (Sl Kf r72.2.2.1), (Vl (.int .i64 r72.2.2.2.1)), (Sl (Kl (Ki .i64)) r72.2.2.2.2)], 165, none⟩] (fun x : Unit => (Vl (.slice none 0 0))) (fun x => [⟨.pointer (some wa0), [(Vl (.int .i64 r75.1)), (Vl (.int .i64 r75.2.1)), (Sl Kf r75.2.2.1), (Vl (.int .i64 r75.2.2.2.1)), (Sl (Kl (Ki .i64)) r75.2.2.2.2)], 165, none⟩])) [0] [1, 2] (by decide) (pick_cons rfl pick_nil) (pick_cons rfl (pick_cons rfl pick_nil)) (Hn := fun x : Unit => [⟨.pointer (some wa0), [(Vl (.int .i64 r75.1)), (Vl (.int .i64 r75.2.1)), (Sl Kf r75.2.2.1), (Vl (.int .i64 r75.2.2.2.1)), (Sl (Kl (Ki .i64)) r75.2.2.2.2)], 165, none⟩, ⟨.pointer (some q3), [(Vl (.int .i64 6)), (Vl (.int .i64 0)), (Vl (.int .i64 r15.2.2.2.1)), (Vl (.slice none 0 0)), (Vl (.slice none 0 0)), (Vl (.slice none 0 0)), (Vl (.slice none 0 0))], 27, none⟩, ⟨.pointer (some q2), [(Vl (.int .i64 0)), (Vl (.int .i64 0)), (Vl (.int .i64 0)), (Vl (.slice none 0 0)), (Vl (.slice none 0 0)), (Vl (.slice none 0 0)), (Vl (.slice none 0 0))], 27, none⟩]) (fun _ => rfl) rfl rfl) (wt_none' rfl) fun ⟨⟩ => ?_
  obtain ⟨r76, hr76, hp⟩ := bind_some hp
  refine sx_ox' (ox_calln' (ent_fn' Try.func84 isn84 rfl rfl) (impl_ints_v2_sim hr76 : Go.Sx.Fn Try.prog 84 [(Vl (.slice none 0 0))] [] (fun x : Unit => (Sl (Ki .i64) r76)) (fun x => [])) (Hn := fun x : Unit => [⟨.pointer (some wa0), [(Vl (.int .i64 r75.1)), (Vl (.int .i64 r75.2.1)), (Sl Kf r75.2.2.1), (Vl (.int .i64 r75.2.2.2.1)), (Sl (Kl (Ki .i64)) r75.2.2.2.2)], 165, none⟩, ⟨.pointer (some q3), [(Vl (.int .i64 6)), (Vl (.int .i64 0)), (Vl (.int .i64 r15.2.2.2.1)), (Vl (.slice none 0 0)), (Vl (.slice none 0 0)), (Vl (.slice none 0 0)), (Vl (.slice none 0 0))], 27, none⟩, ⟨.pointer (some q2), [(Vl (.int .i64 0)), (Vl (.int .i64 0)), (Vl (.int .i64 0)), (Vl (.slice none 0 0)), (Vl (.slice none 0 0)), (Vl (.slice none 0 0)), (Vl (.slice none 0 0))], 27, none⟩]) (fun _ => rfl) rfl rfl) (wt_none' rfl) fun ⟨⟩ => ?_
  refine sx_rd' (rd_move' rfl) rfl rfl (wt_none' rfl) ?_
  obtain ⟨r78, hr78, hp⟩ := bind_some hp
  refine sx_ox' (ox_callg' (ent_inv' rfl rfl (inv_ptr0 (inv95_Endss _))) (gogeom_geom3_Endss_sim _ _ _ _ _ hr78 : Go.Sx.Fn Try.prog 179 [(Vl (.pointer (some wa0)))] [⟨.pointer (some wa0), [(Vl (.int .i64 r75.1)), (Vl (.int .i64 r75.2.1)), (Sl Kf r75.2.2.1), (Vl (.int .i64 r75.2.2.2.1)), (Sl (Kl (Ki .i64)) r75.2.2.2.2)], 165, none⟩] (fun x : Unit => (Sl (Kl (Ki .i64)) r78.2.2.2.2)) (fun x => [⟨.pointer (some wa0), [(Vl (.int .i64 r78.1)), (Vl (.int .i64 r78.2.1)), (Sl Kf r78.2.2.1), (Vl (.int .i64 r78.2.2.2.1)), (Sl (Kl (Ki .i64)) r78.2.2.2.2)], 165, none⟩])) [0] [1, 2] (by decide) (pick_cons rfl pick_nil) (pick_cons rfl (pick_cons rfl pick_nil)) (Hn := fun x : Unit => [⟨.pointer (some wa0), [(Vl (.int .i64 r78.1)), (Vl (.int .i64 r78.2.1)), (Sl Kf r78.2.2.1), (Vl (.int .i64 r78.2.2.2.1)), (Sl (Kl (Ki .i64)) r78.2.2.2.2)], 165, none⟩, ⟨.pointer (some q3), [(Vl (.int .i64 6)), (Vl (.int .i64 0)), (Vl (.int .i64 r15.2.2.2.1)), (Vl (.slice none 0 0)), (Vl (.slice none 0 0)), (Vl (.slice none 0 0)), (Vl (.slice none 0 0))], 27, none⟩, ⟨.pointer (some q2), [(Vl (.int .i64 0)), (Vl (.int .i64 0)), (Vl (.int .i64 0)), (Vl (.slice none 0 0)), (Vl (.slice none 0 0)), (Vl (.slice none 0 0)), (Vl (.slice none 0 0))], 27, none⟩]) (fun _ => rfl) rfl rfl) (wt_none' rfl) fun ⟨⟩ => ?_
  obtain ⟨r79, hr79, hp⟩ := bind_some hp
  refine sx_ox' (ox_calln' (ent_fn' Try.func51 isn51 rfl rfl) (impl_intss_sim _ hr79 : Go.Sx.Fn Try.prog 51 [(Sl (Kl (Ki .i64)) r78.2.2.2.2)] [] (fun x : Unit => (Sl (Kl (Ki .i64)) r79)) (fun x => [])) (Hn := fun x : Unit => [⟨.pointer (some wa0), [(Vl (.int .i64 r78.1)), (Vl (.int .i64 r78.2.1)), (Sl Kf r78.2.2.1), (Vl (.int .i64 r78.2.2.2.1)), (Sl (Kl (Ki .i64)) r78.2.2.2.2)], 165, none⟩, ⟨.pointer (some q3), [(Vl (.int .i64 6)), (Vl (.int .i64 0)), (Vl (.int .i64 r15.2.2.2.1)), (Vl (.slice none 0 0)), (Vl (.slice none 0 0)), (Vl (.slice none 0 0)), (Vl (.slice none 0 0))], 27, none⟩, ⟨.pointer (some q2), [(Vl (.int .i64 0)), (Vl (.int .i64 0)), (Vl (.int .i64 0)), (Vl (.slice none 0 0)), (Vl (.slice none 0 0)), (Vl (.slice none 0 0)), (Vl (.slice none 0 0))], 27, none⟩]) (fun _ => rfl) rfl rfl) (wt_none' rfl) fun ⟨⟩ => ?_
  refine sx_rd' (rd_field' (off := 1) rfl Try.underlying27 rfl info3 rfl) rfl rfl (wt_none' rfl) ?_
  refine sx_ox' (ox_store' (i := 1) (o := 1) rfl rfl (lv_vl rfl rfl) ⟨rfl, rfl, rfl, rfl⟩ rfl info3 rfl (H' := [⟨.pointer (some wa0), [(Vl (.int .i64 r78.1)), (Vl (.int .i64 r78.2.1)), (Sl Kf r78.2.2.1), (Vl (.int .i64 r78.2.2.2.1)), (Sl (Kl (Ki .i64)) r78.2.2.2.2)], 165, none⟩, ⟨.pointer (some q3), [(Vl (.int .i64 6)), (Vl (.int .i64 r70.1)), (Vl (.int .i64 r15.2.2.2.1)), (Vl (.slice none 0 0)), (Vl (.slice none 0 0)), (Vl (.slice none 0 0)), (Vl (.slice none 0 0))], 27, none⟩, ⟨.pointer (some q2), [(Vl (.int .i64 0)), (Vl (.int .i64 0)), (Vl (.int .i64 0)), (Vl (.slice none 0 0)), (Vl (.slice none 0 0)), (Vl (.slice none 0 0)), (Vl (.slice none 0 0))], 27, none⟩]) rfl) (wt_none' rfl) fun _ => ?_
  refine sx_rd' (rd_field' (off := 3) rfl Try.underlying27 rfl info22 rfl) rfl rfl (wt_none' rfl) ?_
  refine sx_ox' (ox_store' (i := 1) (o := 3) rfl rfl (lv_sl _ _) ⟨rfl, rfl, rfl, rfl⟩ rfl info22 rfl (H' := [⟨.pointer (some wa0), [(Vl (.int .i64 r78.1)), (Vl (.int .i64 r78.2.1)), (Sl Kf r78.2.2.1), (Vl (.int .i64 r78.2.2.2.1)), (Sl (Kl (Ki .i64)) r78.2.2.2.2)], 165, none⟩, ⟨.pointer (some q3), [(Vl (.int .i64 6)), (Vl (.int .i64 r70.1)), (Vl (.int .i64 r15.2.2.2.1)), (Sl Kf r73), (Vl (.slice none 0 0)), (Vl (.slice none 0 0)), (Vl (.slice none 0 0))], 27, none⟩, ⟨.pointer (some q2), [(Vl (.int .i64 0)), (Vl (.int .i64 0)), (Vl (.int .i64 0)), (Vl (.slice none 0 0)), (Vl (.slice none 0 0)), (Vl (.slice none 0 0)), (Vl (.slice none 0 0))], 27, none⟩]) rfl) (wt_none' rfl) fun _ => ?_
  refine sx_rd' (rd_field' (off := 4) rfl Try.underlying27 rfl info23 rfl) rfl rfl (wt_none' rfl) ?_
  refine sx_ox' (ox_store' (i := 1) (o := 4) rfl rfl (lv_sl _ _) ⟨rfl, rfl, rfl, rfl⟩ rfl info23 rfl (H' := [⟨.pointer (some wa0), [(Vl (.int .i64 r78.1)), (Vl (.int .i64 r78.2.1)), (Sl Kf r78.2.2.1), (Vl (.int .i64 r78.2.2.2.1)), (Sl (Kl (Ki .i64)) r78.2.2.2.2)], 165, none⟩, ⟨.pointer (some q3), [(Vl (.int .i64 6)), (Vl (.int .i64 r70.1)), (Vl (.int .i64 r15.2.2.2.1)), (Sl Kf r73), (Sl (Ki .i64) r76), (Vl (.slice none 0 0)), (Vl (.slice none 0 0))], 27, none⟩, ⟨.pointer (some q2), [(Vl (.int .i64 0)), (Vl (.int .i64 0)), (Vl (.int .i64 0)), (Vl (.slice none 0 0)), (Vl (.slice none 0 0)), (Vl (.slice none 0 0)), (Vl (.slice none 0 0))], 27, none⟩]) rfl) (wt_none' rfl) fun _ => ?_
  refine sx_rd' (rd_field' (off := 5) rfl Try.underlying27 rfl info24 rfl) rfl rfl (wt_none' rfl) ?_
  refine sx_ox' (ox_store' (i := 1) (o := 5) rfl rfl (lv_sl _ _) ⟨rfl, rfl, rfl, rfl⟩ rfl info24 rfl (H' := [⟨.pointer (some wa0), [(Vl (.int .i64 r78.1)), (Vl (.int .i64 r78.2.1)), (Sl Kf r78.2.2.1), (Vl (.int .i64 r78.2.2.2.1)), (Sl (Kl (Ki .i64)) r78.2.2.2.2)], 165, none⟩, ⟨.pointer (some q3), [(Vl (.int .i64 6)), (Vl (.int .i64 r70.1)), (Vl (.int .i64 r15.2.2.2.1)), (Sl Kf r73), (Sl (Ki .i64) r76), (Sl (Kl (Ki .i64)) r79), (Vl (.slice none 0 0))], 27, none⟩, ⟨.pointer (some q2), [(Vl (.int .i64 0)), (Vl (.int .i64 0)), (Vl (.int .i64 0)), (Vl (.slice none 0 0)), (Vl (.slice none 0 0)), (Vl (.slice none 0 0)), (Vl (.slice none 0 0))], 27, none⟩]) rfl) (wt_none' rfl) fun _ => ?_
  refine sx_nil' ?_
  show TX E K13 _
  refine tx_k' hK13 ?_
  refine cx_seq' fun K14 hK14 => ?_
  refine cx_region' ?_
  refine sx_rd' (rd_load_agg' (i := 1) (o := 0) (nn := 7) rfl ⟨rfl, rfl, rfl, rfl⟩ rfl agg27 (l' := [(Vl (.int .i64 6)), (Vl (.int .i64 r70.1)), (Vl (.int .i64 r15.2.2.2.1)), (Sl Kf r73), (Sl (Ki .i64) r76), (Sl (Kl (Ki .i64)) r79), (Vl (.slice none 0 0))]) rfl) rfl rfl (wt_none' rfl) ?_
  refine sx_ox' (ox_store' (i := 2) (o := 0) rfl rfl (lv_ag _) ⟨rfl, rfl, rfl, rfl⟩ rfl info27 rfl (H' := [⟨.pointer (some wa0), [(Vl (.int .i64 r78.1)), (Vl (.int .i64 r78.2.1)), (Sl Kf r78.2.2.1), (Vl (.int .i64 r78.2.2.2.1)), (Sl (Kl (Ki .i64)) r78.2.2.2.2)], 165, none⟩, ⟨.pointer (some q3), [(Vl (.int .i64 6)), (Vl (.int .i64 r70.1)), (Vl (.int .i64 r15.2.2.2.1)), (Sl Kf r73), (Sl (Ki .i64) r76), (Sl (Kl (Ki .i64)) r79), (Vl (.slice none 0 0))], 27, none⟩, ⟨.pointer (some q2), [(Vl (.int .i64 6)), (Vl (.int .i64 r70.1)), (Vl (.int .i64 r15.2.2.2.1)), (Sl Kf r73), (Sl (Ki .i64) r76), (Sl (Kl (Ki .i64)) r79), (Vl (.slice none 0 0))], 27, none⟩]) rfl) (wt_none' rfl) fun _ => ?_
  refine sx_nil' ?_
  show TX E K14 _
  refine tx_k' hK14 ?_
  refine cx_retc' ?_
  replace hp := Option.some.inj hp
  subst hp
  refine tx_pick' (L' := [(2, (Vl (.pointer (some q2))))]) (H' := [⟨.pointer (some wa0), [(Vl (.int .i64 r78.1)), (Vl (.int .i64 r78.2.1)), (Sl Kf r78.2.2.1), (Vl (.int .i64 r78.2.2.2.1)), (Sl (Kl (Ki .i64)) r78.2.2.2.2)], 165, none⟩, ⟨.pointer (some q2), [(Vl (.int .i64 6)), (Vl (.int .i64 r70.1)), (Vl (.int .i64 r15.2.2.2.1)), (Sl Kf r73), (Sl (Ki .i64) r76), (Sl (Kl (Ki .i64)) r79), (Vl (.slice none 0 0))], 27, none⟩]) [0, 2] (sub_cons rfl sub_nil) (by decide) (pick_cons rfl (pick_cons rfl pick_nil)) ?_
  exact tx_ret1' Try.results44 rfl () (rv_cell_agg' (i := 1) (o := 0) (nn := 7) rfl ⟨rfl, rfl, rfl, rfl⟩ rfl agg27 rfl) (List.Sublist.cons_cons _ (List.nil_sublist _))

def gogeom_SetSRID_v8 (k : Nat) (a0_0 : Int) (a0_2 : Int) (a1 : Int) : Option (Int × Int) :=
  (gogeom_GeometryCollection_SetSRID k a0_0 a0_2 a1) >>= fun r75 =>
  some (r75.1, r75.2)

theorem gogeom_SetSRID_v8_sim {k : Nat} {wa0 : Addr} (a0_0 : Int) (a0_2 : Int) (a1 : Int) {out : Int × Int} (hp : gogeom_SetSRID_v8 k a0_0 a0_2 a1 = some out) : Go.Sx.Fn Try.prog 58 [(If 81 (Vl (.pointer (some wa0)))), (Vl (.int .i64 a1))] [⟨.pointer (some wa0), [(Vl (.int .i64 a0_0)), (Vl (.slice none 0 0)), (Vl (.int .i64 a0_2))], 145, none⟩] (fun w : Unit => (Tu [(If 81 (Vl (.pointer (some wa0)))), (Vl .nilIface)])) (fun w => [⟨.pointer (some wa0), [(Vl (.int .i64 out.1)), (Vl (.slice none 0 0)), (Vl (.int .i64 out.2))], 145, none⟩]) := by
  unfold gogeom_SetSRID_v8 at hp
  refine fn_of Try.func58 rfl Try.ntmps58 rfl fun E hM => ?_
  refine cx_seq' fun K1 hK1 => ?_
  refine cx_region' ?_
  refine sx_rd' (rd_assign' rfl) rfl rfl (wt_none' rfl) ?_
  refine sx_rd' (rd_assign' rfl) rfl rfl (wt_none' rfl) ?_
  refine sx_nil' ?_
  show TX E K1 _
  refine tx_k' hK1 ?_
  refine cx_seq' fun K2 hK2 => ?_
  refine cx_region' ?_
  refine sx_rd' (rd_move' rfl) rfl rfl (wt_none' rfl) ?_
  refine sx_nil' ?_
  show TX E K2 _
  refine tx_k' hK2 ?_
  refine cx_block' ?_
  refine cx_seq' fun K3 hK3 => ?_
  refine cx_region' ?_
  refine sx_rd' (rd_assert' rfl (F := fun _ => .tuple #[.pointer none, .bool false]) as81_75_60 as_no) rfl rfl (wt_none' rfl) ?_
  refine sx_rd' (rd_extract' rfl rfl) rfl rfl (wt_none' rfl) ?_
  refine sx_rd' (rd_extract' rfl rfl) rfl rfl (wt_none' rfl) ?_
  refine sx_nil' ?_
  show TX E K3 _
  refine tx_k' hK3 ?_
  refine cx_cond_f' rfl rfl ?_
  refine cx_seq' fun K4 hK4 => ?_
  refine cx_region' ?_
  refine sx_rd' (rd_assert' rfl (F := fun _ => .tuple #[.pointer none, .bool false]) as81_75_94 as_no) rfl rfl (wt_none' rfl) ?_
  refine sx_rd' (rd_extract' rfl rfl) rfl rfl (wt_none' rfl) ?_
  refine sx_rd' (rd_extract' rfl rfl) rfl rfl (wt_none' rfl) ?_
  refine sx_nil' ?_
  show TX E K4 _
  refine tx_k' hK4 ?_
  refine cx_cond_f' rfl rfl ?_
  refine cx_seq' fun K5 hK5 => ?_
  refine cx_region' ?_
  refine sx_rd' (rd_assert' rfl (F := fun _ => .tuple #[.pointer none, .bool false]) as81_75_89 as_no) rfl rfl (wt_none' rfl) ?_
  refine sx_rd' (rd_extract' rfl rfl) rfl rfl (wt_none' rfl) ?_
  refine sx_rd' (rd_extract' rfl rfl) rfl rfl (wt_none' rfl) ?_
  refine sx_nil' ?_
  show TX E K5 _
  refine tx_k' hK5 ?_
  refine cx_cond_f' rfl rfl ?_
  refine cx_seq' fun K6 hK6 => ?_
  refine cx_region' ?_
  refine sx_rd' (rd_assert' rfl (F := fun _ => .tuple #[.pointer none, .bool false]) as81_75_87 as_no) rfl rfl (wt_none' rfl) ?_
  refine sx_rd' (rd_extract' rfl rfl) rfl rfl (wt_none' rfl) ?_
  refine sx_rd' (rd_extract' rfl rfl) rfl rfl (wt_none' rfl) ?_
  refine sx_nil' ?_
  show TX E K6 _
  refine tx_k' hK6 ?_
  refine cx_cond_f' rfl rfl ?_
  refine cx_seq' fun K7 hK7 => ?_
  refine cx_region' ?_
  refine sx_rd' (rd_assert' rfl (F := fun _ => .tuple #[.pointer none, .bool false]) as81_75_90 as_no) rfl rfl (wt_none' rfl) ?_
  refine sx_rd' (rd_extract' rfl rfl) rfl rfl (wt_none' rfl) ?_
  refine sx_rd' (rd_extract' rfl rfl) rfl rfl (wt_none' rfl) ?_
  refine sx_nil' ?_
  show TX E K7 _
  refine tx_k' hK7 ?_
  refine cx_cond_f' rfl rfl ?_
  refine cx_seq' fun K8 hK8 => ?_
  refine cx_region' ?_
  refine sx_rd' (rd_assert' rfl (F := fun _ => .tuple #[.pointer none, .bool false]) as81_75_92 as_no) rfl rfl (wt_none' rfl) ?_
  refine sx_rd' (rd_extract' rfl rfl) rfl rfl (wt_none' rfl) ?_
  refine sx_rd' (rd_extract' rfl rfl) rfl rfl (wt_none' rfl) ?_
  refine sx_nil' ?_
  show TX E K8 _
  refine tx_k' hK8 ?_
  refine cx_cond_f' rfl rfl ?_
  refine cx_seq' fun K9 hK9 => ?_
  refine cx_region' ?_
  refine sx_rd' (rd_assert' rfl (F := fun _ => .tuple #[.pointer none, .bool false]) as81_75_95 as_no) rfl rfl (wt_none' rfl) ?_
  refine sx_rd' (rd_extract' rfl rfl) rfl rfl (wt_none' rfl) ?_
  refine sx_rd' (rd_extract' rfl rfl) rfl rfl (wt_none' rfl) ?_
  refine sx_nil' ?_
  show TX E K9 _
  refine tx_k' hK9 ?_
  refine cx_cond_f' rfl rfl ?_
  refine cx_seq' fun K10 hK10 => ?_
  refine cx_region' ?_
  refine sx_rd' (rd_assert' rfl (F := fun v => .tuple #[v, .bool true]) as81_75_81k as_ok) rfl rfl (wt_none' rfl) ?_
  refine sx_rd' (rd_extract' rfl rfl) rfl rfl (wt_none' rfl) ?_
  refine sx_rd' (rd_extract' rfl rfl) rfl rfl (wt_none' rfl) ?_
  refine sx_nil' ?_
  show TX E K10 _
  refine tx_k' hK10 ?_
  refine cx_cond_t' rfl rfl ?_
  refine cx_seq' fun K11 hK11 => ?_
  refine cx_region' ?_
  refine sx_rd' (rd_assign' rfl) rfl rfl (wt_none' rfl) ?_
  refine sx_nil' ?_
  show TX E K11 _
  refine tx_k' hK11 ?_
  refine cx_seq' fun K12 hK12 => ?_
  refine cx_region' ?_
  refine sx_rd' (rd_move' rfl) rfl rfl (wt_none' rfl) ?_
  refine sx_rd' (rd_move' rfl) rfl rfl (wt_none' rfl) ?_
  obtain ⟨r75, hr75, hp⟩ := bind_some hp
  refine sx_ox' (ox_callg' (ent_fn' Try.func102 isn102 rfl rfl) (gogeom_GeometryCollection_SetSRID_sim _ _ _ hr75 : Go.Sx.Fn Try.prog 102 [(Vl (.pointer (some wa0))), (Vl (.int .i64 a1))] [⟨.pointer (some wa0), [(Vl (.int .i64 a0_0)), (Vl (.slice none 0 0)), (Vl (.int .i64 a0_2))], 145, none⟩] (fun x : Unit => (Vl (.pointer (some wa0)))) (fun x => [⟨.pointer (some wa0), [(Vl (.int .i64 r75.1)), (Vl (.slice none 0 0)), (Vl (.int .i64 r75.2))], 145, none⟩])) [0] [] (by decide) (pick_cons rfl pick_nil) pick_nil (Hn := fun x : Unit => [⟨.pointer (some wa0), [(Vl (.int .i64 r75.1)), (Vl (.slice none 0 0)), (Vl (.int .i64 r75.2))], 145, none⟩]) (fun _ => rfl) rfl rfl) (wt_none' rfl) fun ⟨⟩ => ?_
  refine sx_rd' (rd_iface' rfl ⟨_, Try.underlying81, fun _ h => (nomatch h)⟩) rfl rfl (wt_none' rfl) ?_
  refine sx_rd' (rd_assign' rfl) rfl rfl (wt_none' rfl) ?_
  refine sx_rd' (rd_assign' rfl) rfl rfl (wt_none' rfl) ?_
  refine sx_nil' ?_
  show TX E K12 _
  refine tx_k' hK12 ?_
  refine cx_retc' ?_
  replace hp := Option.some.inj hp
  subst hp
  refine tx_pick' (L' := [(4, (If 81 (Vl (.pointer (some wa0))))), (5, (Vl .nilIface))]) (H' := [⟨.pointer (some wa0), [(Vl (.int .i64 r75.1)), (Vl (.slice none 0 0)), (Vl (.int .i64 r75.2))], 145, none⟩]) [0] (sub_cons rfl (sub_cons rfl sub_nil)) (by decide) (pick_cons rfl pick_nil) ?_
  exact tx_ret2' Try.results58 rfl () (rv_tmp' rfl) (rv_tmp' rfl) rfl (List.Sublist.refl _)

def gogeom_GeometryCollection_SRID (k : Nat) (a0_0 : Int) (a0_2 : Int) : Option (Int × Int) :=
  some (a0_0, a0_2)

theorem gogeom_GeometryCollection_SRID_sim {k : Nat} {wa0 : Addr} (a0_0 : Int) (a0_2 : Int) {out : Int × Int} (hp : gogeom_GeometryCollection_SRID k a0_0 a0_2 = some out) : Go.Sx.Fn Try.prog 162 [(Vl (.pointer (some wa0)))] [⟨.pointer (some wa0), [(Vl (.int .i64 a0_0)), (Vl (.slice none 0 0)), (Vl (.int .i64 a0_2))], 145, none⟩] (fun w : Unit => (Vl (.int .i64 out.2))) (fun w => [⟨.pointer (some wa0), [(Vl (.int .i64 out.1)), (Vl (.slice none 0 0)), (Vl (.int .i64 out.2))], 145, none⟩]) := by
  unfold gogeom_GeometryCollection_SRID at hp
  refine fn_of Try.func162 rfl Try.ntmps162 rfl fun E hM => ?_
  refine cx_seq' fun K1 hK1 => ?_
  refine cx_region' ?_
  refine sx_rd' (rd_assign' rfl) rfl rfl (wt_none' rfl) ?_
  refine sx_nil' ?_
  show TX E K1 _
  refine tx_k' hK1 ?_
  refine cx_seq' fun K2 hK2 => ?_
  refine cx_region' ?_
  refine sx_rd' (rd_move' rfl) rfl rfl (wt_none' rfl) ?_
  refine sx_rd' (rd_nilck' rfl) rfl rfl (wt_none' rfl) ?_
  refine sx_rd' (rd_field' (off := 2) rfl Try.underlying145 rfl info3 rfl) rfl rfl (wt_none' rfl) ?_
  refine sx_rd' (rd_load' (i := 0) (o := 2) rfl ⟨rfl, rfl, rfl, rfl⟩ rfl flat3) rfl rfl (wt_none' rfl) ?_
  refine sx_rd' (rd_assign' rfl) rfl rfl (wt_none' rfl) ?_
  refine sx_nil' ?_
  show TX E K2 _
  refine tx_k' hK2 ?_
  refine cx_retc' ?_
  replace hp := Option.some.inj hp
  subst hp
  refine tx_pick' (L' := [(2, (Vl (.int .i64 a0_2)))]) (H' := [⟨.pointer (some wa0), [(Vl (.int .i64 a0_0)), (Vl (.slice none 0 0)), (Vl (.int .i64 a0_2))], 145, none⟩]) [0] (sub_cons rfl sub_nil) (by decide) (pick_cons rfl pick_nil) ?_
  exact tx_ret1' Try.results162 rfl () (rv_tmp' rfl) (List.Sublist.refl _)

def gogeom_DoorLayout (k : Nat) (a0_0 : Int) (a0_2 : Int) : Option (Int × Int) :=
  some (a0_0, a0_2)

theorem gogeom_DoorLayout_sim {k : Nat} {wa0 : Addr} (a0_0 : Int) (a0_2 : Int) {out : Int × Int} (hp : gogeom_DoorLayout k a0_0 a0_2 = some out) : Go.Sx.Fn Try.prog 82 [(Vl (.pointer (some wa0)))] [⟨.pointer (some wa0), [(Vl (.int .i64 a0_0)), (Vl (.slice none 0 0)), (Vl (.int .i64 a0_2))], 145, none⟩] (fun w : Unit => (Vl (.int .i64 out.1))) (fun w => [⟨.pointer (some wa0), [(Vl (.int .i64 out.1)), (Vl (.slice none 0 0)), (Vl (.int .i64 out.2))], 145, none⟩]) := by
  unfold gogeom_DoorLayout at hp
  refine fn_of Try.func82 rfl Try.ntmps82 rfl fun E hM => ?_
  refine cx_seq' fun K1 hK1 => ?_
  refine cx_region' ?_
  refine sx_rd' (rd_assign' rfl) rfl rfl (wt_none' rfl) ?_
  refine sx_nil' ?_
  show TX E K1 _
  refine tx_k' hK1 ?_
  refine cx_seq' fun K2 hK2 => ?_
  refine cx_region' ?_
  refine sx_rd' (rd_move' rfl) rfl rfl (wt_none' rfl) ?_
  refine sx_rd' (rd_nilck' rfl) rfl rfl (wt_none' rfl) ?_
  refine sx_rd' (rd_field0' rfl Try.underlying145 rfl info65 rfl) rfl rfl (wt_none' rfl) ?_
  refine sx_rd' (rd_load' (i := 0) (o := 0) rfl ⟨rfl, rfl, rfl, rfl⟩ rfl flat65) rfl rfl (wt_none' rfl) ?_
  refine sx_rd' (rd_assign' rfl) rfl rfl (wt_none' rfl) ?_
  refine sx_nil' ?_
  show TX E K2 _
  refine tx_k' hK2 ?_
  refine cx_retc' ?_
  replace hp := Option.some.inj hp
  subst hp
  refine tx_pick' (L' := [(2, (Vl (.int .i64 a0_0)))]) (H' := [⟨.pointer (some wa0), [(Vl (.int .i64 a0_0)), (Vl (.slice none 0 0)), (Vl (.int .i64 a0_2))], 145, none⟩]) [0] (sub_cons rfl sub_nil) (by decide) (pick_cons rfl pick_nil) ?_
  exact tx_ret1' Try.results82 rfl () (rv_tmp' rfl) (List.Sublist.refl _)

def gogeom_GeometryCollection_Geoms (k : Nat) (a0_0 : Int) (a0_2 : Int) : Option (Int × Int) :=
  some (a0_0, a0_2)

theorem gogeom_GeometryCollection_Geoms_sim {k : Nat} {wa0 : Addr} (a0_0 : Int) (a0_2 : Int) {out : Int × Int} (hp : gogeom_GeometryCollection_Geoms k a0_0 a0_2 = some out) : Go.Sx.Fn Try.prog 83 [(Vl (.pointer (some wa0)))] [⟨.pointer (some wa0), [(Vl (.int .i64 a0_0)), (Vl (.slice none 0 0)), (Vl (.int .i64 a0_2))], 145, none⟩] (fun w : Unit => (Vl (.slice none 0 0))) (fun w => [⟨.pointer (some wa0), [(Vl (.int .i64 out.1)), (Vl (.slice none 0 0)), (Vl (.int .i64 out.2))], 145, none⟩]) := by
  unfold gogeom_GeometryCollection_Geoms at hp
  refine fn_of Try.func83 rfl Try.ntmps83 rfl fun E hM => ?_
  refine cx_seq' fun K1 hK1 => ?_
  refine cx_region' ?_
  refine sx_rd' (rd_assign' rfl) rfl rfl (wt_none' rfl) ?_
  refine sx_nil' ?_
  show TX E K1 _
  refine tx_k' hK1 ?_
  refine cx_seq' fun K2 hK2 => ?_
  refine cx_region' ?_
  refine sx_rd' (rd_move' rfl) rfl rfl (wt_none' rfl) ?_
  refine sx_rd' (rd_nilck' rfl) rfl rfl (wt_none' rfl) ?_
  refine sx_rd' (rd_field' (off := 1) rfl Try.underlying145 rfl info116 rfl) rfl rfl (wt_none' rfl) ?_
  refine sx_rd' (rd_load' (i := 0) (o := 1) rfl ⟨rfl, rfl, rfl, rfl⟩ rfl flat116) rfl rfl (wt_none' rfl) ?_
  refine sx_rd' (rd_assign' rfl) rfl rfl (wt_none' rfl) ?_
  refine sx_nil' ?_
  show TX E K2 _
  refine tx_k' hK2 ?_
  refine cx_retc' ?_
  replace hp := Option.some.inj hp
  subst hp
  refine tx_pick' (L' := [(2, (Vl (.slice none 0 0)))]) (H' := [⟨.pointer (some wa0), [(Vl (.int .i64 a0_0)), (Vl (.slice none 0 0)), (Vl (.int .i64 a0_2))], 145, none⟩]) [0] (sub_cons rfl sub_nil) (by decide) (pick_cons rfl pick_nil) ?_
  exact tx_ret1' Try.results83 rfl () (rv_tmp' rfl) (List.Sublist.refl _)

def impl_plain_v8 (k : Nat) (a0_0 : Int) (a0_2 : Int) : Option (Int × Int × Int × Int × Int) :=
  (gogeom_GeometryCollection_SRID k a0_0 a0_2) >>= fun r15 =>
  (gogeom_DoorLayout k r15.1 r15.2) >>= fun r50 =>
  (gogeom_GeometryCollection_Geoms k r50.1 r50.2) >>= fun r54 =>
  some (r54.1, r54.2, 7, r50.1, r15.2)

theorem impl_plain_v8_sim {k : Nat} {wa0 : Addr} (a0_0 : Int) (a0_2 : Int) {out : Int × Int × Int × Int × Int} (hp : impl_plain_v8 k a0_0 a0_2 = some out) : Go.Sx.Fn Try.prog 44 [(If 81 (Vl (.pointer (some wa0))))] [⟨.pointer (some wa0), [(Vl (.int .i64 a0_0)), (Vl (.slice none 0 0)), (Vl (.int .i64 a0_2))], 145, none⟩] (fun w : Unit => (Ag [(Vl (.int .i64 out.2.2.1)), (Vl (.int .i64 out.2.2.2.1)), (Vl (.int .i64 out.2.2.2.2)), (Vl (.slice none 0 0)), (Vl (.slice none 0 0)), (Vl (.slice none 0 0)), (Vl (.slice none 0 0))])) (fun w => [⟨.pointer (some wa0), [(Vl (.int .i64 out.1)), (Vl (.slice none 0 0)), (Vl (.int .i64 out.2.1))], 145, none⟩]) := by
  unfold impl_plain_v8 at hp
  refine fn_of Try.func44 rfl Try.ntmps44 rfl fun E hM => ?_
  refine cx_seq' fun K1 hK1 => ?_
  refine cx_region' ?_
  refine sx_ox' (ox_alloc' info27 rfl rfl rfl rfl (l := [(Vl (.int .i64 0)), (Vl (.int .i64 0)), (Vl (.int .i64 0)), (Vl (.slice none 0 0)), (Vl (.slice none 0 0)), (Vl (.slice none 0 0)), (Vl (.slice none 0 0))]) rfl) (wt_none' rfl) fun q2 => ?_
  refine sx_nil' ?_
  show TX E K1 _
  refine tx_k' hK1 ?_
  refine cx_seq' fun K2 hK2 => ?_
  refine cx_region' ?_
  refine sx_rd' (rd_move' rfl) rfl rfl (wt_none' rfl) ?_
  obtain ⟨r15, hr15, hp⟩ := bind_some hp
  refine sx_ox' (ox_callg' (ent_inv' rfl rfl (inv_any0 inv81_SRID)) (gogeom_GeometryCollection_SRID_sim _ _ hr15 : Go.Sx.Fn Try.prog 162 [(Vl (.pointer (some wa0)))] [⟨.pointer (some wa0), [(Vl (.int .i64 a0_0)), (Vl (.slice none 0 0)), (Vl (.int .i64 a0_2))], 145, none⟩] (fun x : Unit => (Vl (.int .i64 r15.2))) (fun x => [⟨.pointer (some wa0), [(Vl (.int .i64 r15.1)), (Vl (.slice none 0 0)), (Vl (.int .i64 r15.2))], 145, none⟩])) [1] [0] (by decide) (pick_cons rfl pick_nil) (pick_cons rfl pick_nil) (Hn := fun x : Unit => [⟨.pointer (some wa0), [(Vl (.int .i64 r15.1)), (Vl (.slice none 0 0)), (Vl (.int .i64 r15.2))], 145, none⟩, ⟨.pointer (some q2), [(Vl (.int .i64 0)), (Vl (.int .i64 0)), (Vl (.int .i64 0)), (Vl (.slice none 0 0)), (Vl (.slice none 0 0)), (Vl (.slice none 0 0)), (Vl (.slice none 0 0))], 27, none⟩]) (fun _ => rfl) rfl rfl) (wt_none' rfl) fun ⟨⟩ => ?_
  refine sx_rd' (rd_build' (pls := [(0, 1), (1, 1), (2, 1), (3, 1), (4, 1), (5, 1), (6, 1)]) (qs := [(2, [(Vl (.int .i64 r15.2))])]) (r := [(Vl (.int .i64 0)), (Vl (.int .i64 0)), (Vl (.int .i64 r15.2)), (Vl (.slice none 0 0)), (Vl (.slice none 0 0)), (Vl (.slice none 0 0)), (Vl (.slice none 0 0))]) ⟨rfl, ⟨_, rfl, (lv_vl rfl rfl)⟩, trivial⟩ Try.underlying27 has27 places27 info27 rfl rfl rfl) rfl rfl (wt_none' rfl) ?_
  refine sx_ox' (ox_alloc' info27 rfl rfl rfl rfl (l := [(Vl (.int .i64 0)), (Vl (.int .i64 0)), (Vl (.int .i64 0)), (Vl (.slice none 0 0)), (Vl (.slice none 0 0)), (Vl (.slice none 0 0)), (Vl (.slice none 0 0))]) rfl) (wt_none' rfl) fun q3 => ?_
  refine sx_ox' (ox_store' (i := 0) (o := 0) rfl rfl (lv_ag _) ⟨rfl, rfl, rfl, rfl⟩ rfl info27 rfl (H' := [⟨.pointer (some q3), [(Vl (.int .i64 0)), (Vl (.int .i64 0)), (Vl (.int .i64 r15.2)), (Vl (.slice none 0 0)), (Vl (.slice none 0 0)), (Vl (.slice none 0 0)), (Vl (.slice none 0 0))], 27, none⟩, ⟨.pointer (some wa0), [(Vl (.int .i64 r15.1)), (Vl (.slice none 0 0)), (Vl (.int .i64 r15.2))], 145, none⟩, ⟨.pointer (some q2), [(Vl (.int .i64 0)), (Vl (.int .i64 0)), (Vl (.int .i64 0)), (Vl (.slice none 0 0)), (Vl (.slice none 0 0)), (Vl (.slice none 0 0)), (Vl (.slice none 0 0))], 27, none⟩]) rfl) (wt_none' rfl) fun _ => ?_
  refine sx_nil' ?_
  show TX E K2 _
  refine tx_k' hK2 ?_
  refine cx_seq' fun K3 hK3 => ?_
  refine cx_seq' fun K4 hK4 => ?_
  refine cx_region' ?_
  refine sx_rd' (rd_move' rfl) rfl rfl (wt_none' rfl) ?_
  refine sx_nil' ?_
  show TX E K4 _
  refine tx_k' hK4 ?_
  refine cx_block' ?_
  refine cx_seq' fun K5 hK5 => ?_
  refine cx_region' ?_
  refine sx_rd' (rd_assert' rfl (F := fun _ => .tuple #[.pointer none, .bool false]) as81_75_60 as_no) rfl rfl (wt_none' rfl) ?_
  refine sx_rd' (rd_extract' rfl rfl) rfl rfl (wt_none' rfl) ?_
  refine sx_rd' (rd_extract' rfl rfl) rfl rfl (wt_none' rfl) ?_
  refine sx_nil' ?_
  show TX E K5 _
  refine tx_k' hK5 ?_
  refine cx_cond_f' rfl rfl ?_
  refine cx_seq' fun K6 hK6 => ?_
  refine cx_region' ?_
  refine sx_rd' (rd_assert' rfl (F := fun _ => .tuple #[.pointer none, .bool false]) as81_75_94 as_no) rfl rfl (wt_none' rfl) ?_
  refine sx_rd' (rd_extract' rfl rfl) rfl rfl (wt_none' rfl) ?_
  refine sx_rd' (rd_extract' rfl rfl) rfl rfl (wt_none' rfl) ?_
  refine sx_nil' ?_
  show TX E K6 _
  refine tx_k' hK6 ?_
  refine cx_cond_f' rfl rfl ?_
  refine cx_seq' fun K7 hK7 => ?_
  refine cx_region' ?_
  refine sx_rd' (rd_assert' rfl (F := fun _ => .tuple #[.pointer none, .bool false]) as81_75_89 as_no) rfl rfl (wt_none' rfl) ?_
  refine sx_rd' (rd_extract' rfl rfl) rfl rfl (wt_none' rfl) ?_
  refine sx_rd' (rd_extract' rfl rfl) rfl rfl (wt_none' rfl) ?_
  refine sx_nil' ?_
  show TX E K7 _
  refine tx_k' hK7 ?_
  refine cx_cond_f' rfl rfl ?_
  refine cx_seq' fun K8 hK8 => ?_
  refine cx_region' ?_
  refine sx_rd' (rd_assert' rfl (F := fun _ => .tuple #[.pointer none, .bool false]) as81_75_87 as_no) rfl rfl (wt_none' rfl) ?_
  refine sx_rd' (rd_extract' rfl rfl) rfl rfl (wt_none' rfl) ?_
  refine sx_rd' (rd_extract' rfl rfl) rfl rfl (wt_none' rfl) ?_
  refine sx_nil' ?_
  show TX E K8 _
  refine tx_k' hK8 ?_
  refine cx_cond_f' rfl rfl ?_
  refine cx_seq' fun K9 hK9 => ?_
  refine cx_region' ?_
  refine sx_rd' (rd_assert' rfl (F := fun _ => .tuple #[.pointer none, .bool false]) as81_75_90 as_no) rfl rfl (wt_none' rfl) ?_
  refine sx_rd' (rd_extract' rfl rfl) rfl rfl (wt_none' rfl) ?_
  refine sx_rd' (rd_extract' rfl rfl) rfl rfl (wt_none' rfl) ?_
  refine sx_nil' ?_
  show TX E K9 _
  refine tx_k' hK9 ?_
  refine cx_cond_f' rfl rfl ?_
  refine cx_seq' fun K10 hK10 => ?_
  refine cx_region' ?_
  refine sx_rd' (rd_assert' rfl (F := fun _ => .tuple #[.pointer none, .bool false]) as81_75_92 as_no) rfl rfl (wt_none' rfl) ?_
  refine sx_rd' (rd_extract' rfl rfl) rfl rfl (wt_none' rfl) ?_
  refine sx_rd' (rd_extract' rfl rfl) rfl rfl (wt_none' rfl) ?_
  refine sx_nil' ?_
  show TX E K10 _
  refine tx_k' hK10 ?_
  refine cx_cond_f' rfl rfl ?_
  refine cx_seq' fun K11 hK11 => ?_
  refine cx_region' ?_
  refine sx_rd' (rd_assert' rfl (F := fun _ => .tuple #[.pointer none, .bool false]) as81_75_95 as_no) rfl rfl (wt_none' rfl) ?_
  refine sx_rd' (rd_extract' rfl rfl) rfl rfl (wt_none' rfl) ?_
  refine sx_rd' (rd_extract' rfl rfl) rfl rfl (wt_none' rfl) ?_
  refine sx_nil' ?_
  show TX E K11 _
  refine tx_k' hK11 ?_
  refine cx_cond_f' rfl rfl ?_
  refine cx_seq' fun K12 hK12 => ?_
  refine cx_region' ?_
  refine sx_rd' (rd_assert' rfl (F := fun v => .tuple #[v, .bool true]) as81_75_81k as_ok) rfl rfl (wt_none' rfl) ?_
  refine sx_rd' (rd_extract' rfl rfl) rfl rfl (wt_none' rfl) ?_
  refine sx_rd' (rd_extract' rfl rfl) rfl rfl (wt_none' rfl) ?_
  refine sx_nil' ?_
  show TX E K12 _
  refine tx_k' hK12 ?_
  refine cx_cond_t' rfl rfl ?_
  refine cx_seq' fun K13 hK13 => ?_
  refine cx_region' ?_
  refine sx_rd' (rd_assign' rfl) rfl rfl (wt_none' rfl) ?_
  refine sx_nil' ?_
  show TX E K13 _
  refine tx_k' hK13 ?_
  refine cx_seq' fun K14 hK14 => ?_
  refine cx_region' ?_
  refine sx_rd' (rd_move' rfl) rfl rfl (wt_none' rfl) ?_
  obtain ⟨r50, hr50, hp⟩ := bind_some hp
  refine sx_ox' (ox_callg' (ent_fn' Try.func82 isn82 rfl rfl) (gogeom_DoorLayout_sim _ _ hr50 : Go.Sx.Fn Try.prog 82 [(Vl (.pointer (some wa0)))] [⟨.pointer (some wa0), [(Vl (.int .i64 r15.1)), (Vl (.slice none 0 0)), (Vl (.int .i64 r15.2))], 145, none⟩] (fun x : Unit => (Vl (.int .i64 r50.1))) (fun x => [⟨.pointer (some wa0), [(Vl (.int .i64 r50.1)), (Vl (.slice none 0 0)), (Vl (.int .i64 r50.2))], 145, none⟩])) [1] [0, 2] (by decide) (pick_cons rfl pick_nil) (pick_cons rfl (pick_cons rfl pick_nil)) (Hn := fun x : Unit => [⟨.pointer (some wa0), [(Vl (.int .i64 r50.1)), (Vl (.slice none 0 0)), (Vl (.int .i64 r50.2))], 145, none⟩, ⟨.pointer (some q3), [(Vl (.int .i64 0)), (Vl (.int .i64 0)), (Vl (.int .i64 r15.2)), (Vl (.slice none 0 0)), (Vl (.slice none 0 0)), (Vl (.slice none 0 0)), (Vl (.slice none 0 0))], 27, none⟩, ⟨.pointer (some q2), [(Vl (.int .i64 0)), (Vl (.int .i64 0)), (Vl (.int .i64 0)), (Vl (.slice none 0 0)), (Vl (.slice none 0 0)), (Vl (.slice none 0 0)), (Vl (.slice none 0 0))], 27, none⟩]) (fun _ => rfl) rfl rfl) (wt_none' rfl) fun ⟨⟩ => ?_
  refine sx_rd' (rd_field0' rfl Try.underlying27 rfl info3 rfl) rfl rfl (wt_none' rfl) ?_
  refine sx_ox' (ox_store' (i := 1) (o := 0) rfl rfl (lv_vl rfl rfl) ⟨rfl, rfl, rfl, rfl⟩ rfl info3 rfl (H' := [⟨.pointer (some wa0), [(Vl (.int .i64 r50.1)), (Vl (.slice none 0 0)), (Vl (.int .i64 r50.2))], 145, none⟩, ⟨.pointer (some q3), [(Vl (.int .i64 7)), (Vl (.int .i64 0)), (Vl (.int .i64 r15.2)), (Vl (.slice none 0 0)), (Vl (.slice none 0 0)), (Vl (.slice none 0 0)), (Vl (.slice none 0 0))], 27, none⟩, ⟨.pointer (some q2), [(Vl (.int .i64 0)), (Vl (.int .i64 0)), (Vl (.int .i64 0)), (Vl (.slice none 0 0)), (Vl (.slice none 0 0)), (Vl (.slice none 0 0)), (Vl (.slice none 0 0))], 27, none⟩]) rfl) (wt_none' rfl) fun _ => ?_
  refine sx_rd' (rd_field' (off := 1) rfl Try.underlying27 rfl info3 rfl) rfl rfl (wt_none' rfl) ?_
  refine sx_ox' (ox_store' (i := 1) (o := 1) rfl rfl (lv_vl rfl rfl) ⟨rfl, rfl, rfl, rfl⟩ rfl info3 rfl (H' := [⟨.pointer (some wa0), [(Vl (.int .i64 r50.1)), (Vl (.slice none 0 0)), (Vl (.int .i64 r50.2))], 145, none⟩, ⟨.pointer (some q3), [(Vl (.int .i64 7)), (Vl (.int .i64 r50.1)), (Vl (.int .i64 r15.2)), (Vl (.slice none 0 0)), (Vl (.slice none 0 0)), (Vl (.slice none 0 0)), (Vl (.slice none 0 0))], 27, none⟩, ⟨.pointer (some q2), [(Vl (.int .i64 0)), (Vl (.int .i64 0)), (Vl (.int .i64 0)), (Vl (.slice none 0 0)), (Vl (.slice none 0 0)), (Vl (.slice none 0 0)), (Vl (.slice none 0 0))], 27, none⟩]) rfl) (wt_none' rfl) fun _ => ?_
  refine sx_nil' ?_
  show TX E K14 _
  refine tx_k' hK14 ?_
  refine cx_seq' fun K15 hK15 => ?_
  refine cx_seq' fun K16 hK16 => ?_
  refine cx_region' ?_
  refine sx_rd' (rd_move' rfl) rfl rfl (wt_none' rfl) ?_
  obtain ⟨r54, hr54, hp⟩ := bind_some hp
  refine sx_ox' (ox_callg' (ent_fn' Try.func83 isn83 rfl rfl) (gogeom_GeometryCollection_Geoms_sim _ _ hr54 : Go.Sx.Fn Try.prog 83 [(Vl (.pointer (some wa0)))] [⟨.pointer (some wa0), [(Vl (.int .i64 r50.1)), (Vl (.slice none 0 0)), (Vl (.int .i64 r50.2))], 145, none⟩] (fun x : Unit => (Vl (.slice none 0 0))) (fun x => [⟨.pointer (some wa0), [(Vl (.int .i64 r54.1)), (Vl (.slice none 0 0)), (Vl (.int .i64 r54.2))], 145, none⟩])) [0] [1, 2] (by decide) (pick_cons rfl pick_nil) (pick_cons rfl (pick_cons rfl pick_nil)) (Hn := fun x : Unit => [⟨.pointer (some wa0), [(Vl (.int .i64 r54.1)), (Vl (.slice none 0 0)), (Vl (.int .i64 r54.2))], 145, none⟩, ⟨.pointer (some q3), [(Vl (.int .i64 7)), (Vl (.int .i64 r50.1)), (Vl (.int .i64 r15.2)), (Vl (.slice none 0 0)), (Vl (.slice none 0 0)), (Vl (.slice none 0 0)), (Vl (.slice none 0 0))], 27, none⟩, ⟨.pointer (some q2), [(Vl (.int .i64 0)), (Vl (.int .i64 0)), (Vl (.int .i64 0)), (Vl (.slice none 0 0)), (Vl (.slice none 0 0)), (Vl (.slice none 0 0)), (Vl (.slice none 0 0))], 27, none⟩]) (fun _ => rfl) rfl rfl) (wt_none' rfl) fun ⟨⟩ => ?_
  refine sx_rd' (rd_lenv' rfl Try.underlying116) rfl rfl (wt_none' rfl) ?_
  refine sx_rd' (rd_move' rfl) rfl rfl (wt_none' rfl) ?_
  refine sx_nil' ?_
  show TX E K16 _
  refine tx_k' hK16 ?_
  refine cx_block' ?_
  refine tx_loop' ?_
  refine tx_round' ?_
  refine cx_seq' fun K17 hK17 => ?_
  refine cx_region' ?_
  refine sx_rd' (rd_bin' rfl rfl eg_int ru_lss) rfl rfl (wt_none' rfl) ?_
  refine sx_nil' ?_
  show TX E K17 _
  refine tx_k' hK17 ?_
  refine cx_seq' fun K18 hK18 => ?_
  refine cx_cond_f' rfl rfl ?_
  refine cx_exit' ?_
  show TX E K15 _
  refine tx_k' hK15 ?_
  refine cx_seq' fun K19 hK19 => ?_
  refine cx_region' ?_
  refine sx_rd' (rd_load_agg' (i := 1) (o := 0) (nn := 7) rfl ⟨rfl, rfl, rfl, rfl⟩ rfl agg27 (l' := [(Vl (.int .i64 7)), (Vl (.int .i64 r50.1)), (Vl (.int .i64 r15.2)), (Vl (.slice none 0 0)), (Vl (.slice none 0 0)), (Vl (.slice none 0 0)), (Vl (.slice none 0 0))]) rfl) rfl rfl (wt_none' rfl) ?_
  refine sx_ox' (ox_store' (i := 2) (o := 0) rfl rfl (lv_ag _) ⟨rfl, rfl, rfl, rfl⟩ rfl info27 rfl (H' := [⟨.pointer (some wa0), [(Vl (.int .i64 r54.1)), (Vl (.slice none 0 0)), (Vl (.int .i64 r54.2))], 145, none⟩, ⟨.pointer (some q3), [(Vl (.int .i64 7)), (Vl (.int .i64 r50.1)), (Vl (.int .i64 r15.2)), (Vl (.slice none 0 0)), (Vl (.slice none 0 0)), (Vl (.slice none 0 0)), (Vl (.slice none 0 0))], 27, none⟩, ⟨.pointer (some q2), [(Vl (.int .i64 7)), (Vl (.int .i64 r50.1)), (Vl (.int .i64 r15.2)), (Vl (.slice none 0 0)), (Vl (.slice none 0 0)), (Vl (.slice none 0 0)), (Vl (.slice none 0 0))], 27, none⟩]) rfl) (wt_none' rfl) fun _ => ?_
  refine sx_nil' ?_
  show TX E K19 _
  refine tx_k' hK19 ?_
  refine cx_retc' ?_
  replace hp := Option.some.inj hp
  subst hp
  refine tx_pick' (L' := [(2, (Vl (.pointer (some q2))))]) (H' := [⟨.pointer (some wa0), [(Vl (.int .i64 r54.1)), (Vl (.slice none 0 0)), (Vl (.int .i64 r54.2))], 145, none⟩, ⟨.pointer (some q2), [(Vl (.int .i64 7)), (Vl (.int .i64 r50.1)), (Vl (.int .i64 r15.2)), (Vl (.slice none 0 0)), (Vl (.slice none 0 0)), (Vl (.slice none 0 0)), (Vl (.slice none 0 0))], 27, none⟩]) [0, 2] (sub_cons rfl sub_nil) (by decide) (pick_cons rfl (pick_cons rfl pick_nil)) ?_
  exact tx_ret1' Try.results44 rfl () (rv_cell_agg' (i := 1) (o := 0) (nn := 7) rfl ⟨rfl, rfl, rfl, rfl⟩ rfl agg27 rfl) (List.Sublist.cons_cons _ (List.nil_sublist _))

def impl_SetSRID (k : Nat) (a0_0 : Int) (a0_1 : Int) (a0_2 : Int) (a0_3 : List Nat) (a0_4 : List Int) (a0_5 : List (List Int)) (a0_6 : List T27) (a1 : Int) : Option (Int × Int × Int × (List Nat) × (List Int) × (List (List Int)) × Bool) :=
  (impl_geometry k a0_0 a0_1 a0_2 a0_3 a0_4 a0_5 a0_6) >>= fun r11 =>
  match r11 with
    | (.inl y1) =>
      ((gogeom_SetSRID k y1.1 y1.2.1 y1.2.2.1 y1.2.2.2 a1) >>= fun r13 =>
      (impl_plain k r13.1 r13.2.1 r13.2.2.1 r13.2.2.2) >>= fun r20 =>
      some (r20.2.2.2.2.1, r20.2.2.2.2.2.1, r20.2.2.2.2.2.2.1, r20.2.2.2.2.2.2.2.1, r20.2.2.2.2.2.2.2.2, [], true))
    | (.inr (.inl y1)) =>
      ((gogeom_SetSRID_v2 k y1.1 y1.2.1 y1.2.2.1 y1.2.2.2 a1) >>= fun r13 =>
      (impl_plain_v2 k r13.1 r13.2.1 r13.2.2.1 r13.2.2.2) >>= fun r20 =>
      some (r20.2.2.2.2.1, r20.2.2.2.2.2.1, r20.2.2.2.2.2.2.1, r20.2.2.2.2.2.2.2.1, r20.2.2.2.2.2.2.2.2, [], true))
    | (.inr (.inr (.inl y1))) =>
      ((gogeom_SetSRID_v3 k y1.1 y1.2.1 y1.2.2.1 y1.2.2.2 a1) >>= fun r13 =>
      (impl_plain_v3 k r13.1 r13.2.1 r13.2.2.1 r13.2.2.2) >>= fun r20 =>
      some (r20.2.2.2.2.1, r20.2.2.2.2.2.1, r20.2.2.2.2.2.2.1, r20.2.2.2.2.2.2.2.1, r20.2.2.2.2.2.2.2.2, [], true))
    | (.inr (.inr (.inr (.inl y1)))) =>
      ((gogeom_SetSRID_v4 k y1.1 y1.2.1 y1.2.2.1 y1.2.2.2.1 y1.2.2.2.2 a1) >>= fun r13 =>
      (impl_plain_v4 k r13.1 r13.2.1 r13.2.2.1 r13.2.2.2.1 r13.2.2.2.2) >>= fun r20 =>
      some (r20.2.2.2.2.2.1, r20.2.2.2.2.2.2.1, r20.2.2.2.2.2.2.2.1, r20.2.2.2.2.2.2.2.2.1, r20.2.2.2.2.2.2.2.2.2, [], true))
    | (.inr (.inr (.inr (.inr (.inl y1))))) =>
      ((gogeom_SetSRID_v5 k y1.1 y1.2.1 y1.2.2.1 y1.2.2.2.1 y1.2.2.2.2 a1) >>= fun r13 =>
      (impl_plain_v5 k r13.1 r13.2.1 r13.2.2.1 r13.2.2.2.1 r13.2.2.2.2) >>= fun r20 =>
      some (r20.2.2.2.2.2.1, r20.2.2.2.2.2.2.1, r20.2.2.2.2.2.2.2.1, r20.2.2.2.2.2.2.2.2.1, r20.2.2.2.2.2.2.2.2.2, [], true))
    | (.inr (.inr (.inr (.inr (.inr (.inl y1)))))) =>
      ((gogeom_SetSRID_v6 k y1.1 y1.2.1 y1.2.2.1 y1.2.2.2.1 y1.2.2.2.2 a1) >>= fun r13 =>
      (impl_plain_v6 k r13.1 r13.2.1 r13.2.2.1 r13.2.2.2.1 r13.2.2.2.2) >>= fun r20 =>
      some (r20.2.2.2.2.2.1, r20.2.2.2.2.2.2.1, r20.2.2.2.2.2.2.2.1, r20.2.2.2.2.2.2.2.2.1, r20.2.2.2.2.2.2.2.2.2, [], true))
    | (.inr (.inr (.inr (.inr (.inr (.inr (.inl y1))))))) =>
      ((gogeom_SetSRID_v7 k y1.1 y1.2.1 y1.2.2.1 y1.2.2.2.1 y1.2.2.2.2 a1) >>= fun r13 =>
      (impl_plain_v7 k r13.1 r13.2.1 r13.2.2.1 r13.2.2.2.1 r13.2.2.2.2) >>= fun r20 =>
      some (r20.2.2.2.2.2.1, r20.2.2.2.2.2.2.1, r20.2.2.2.2.2.2.2.1, r20.2.2.2.2.2.2.2.2.1, r20.2.2.2.2.2.2.2.2.2.1, r20.2.2.2.2.2.2.2.2.2.2, true))
    | (.inr (.inr (.inr (.inr (.inr (.inr (.inr y1))))))) =>
      ((gogeom_SetSRID_v8 k y1.1 y1.2 a1) >>= fun r13 =>
      (impl_plain_v8 k r13.1 r13.2) >>= fun r20 =>
      some (r20.2.2.1, r20.2.2.2.1, r20.2.2.2.2, [], [], [], true))

theorem impl_SetSRID_sim {k : Nat}  (a0_0 : Int) (a0_1 : Int) (a0_2 : Int) (a0_3 : List Nat) (a0_4 : List Int) (a0_5 : List (List Int)) (a0_6 : List T27) (a1 : Int) {out : Int × Int × Int × (List Nat) × (List Int) × (List (List Int)) × Bool} (hp : impl_SetSRID k a0_0 a0_1 a0_2 a0_3 a0_4 a0_5 a0_6 a1 = some out) : Go.Sx.Fn Try.prog 22 [(Ag [(Vl (.int .i64 a0_0)), (Vl (.int .i64 a0_1)), (Vl (.int .i64 a0_2)), (Sl Kf a0_3), (Sl (Ki .i64) a0_4), (Sl (Kl (Ki .i64)) a0_5), (Sl KT27 a0_6)]), (Vl (.int .i64 a1))] [] (fun w : Unit => (Tu [(Ag [(Vl (.int .i64 out.1)), (Vl (.int .i64 out.2.1)), (Vl (.int .i64 out.2.2.1)), (Sl Kf out.2.2.2.1), (Sl (Ki .i64) out.2.2.2.2.1), (Sl (Kl (Ki .i64)) out.2.2.2.2.2.1), (Vl (.slice none 0 0))]), (Vl (.bool out.2.2.2.2.2.2))])) (fun w => []) := by
  unfold impl_SetSRID at hp
  refine fnD_of Try.func22 rfl Try.ntmps22 rfl fun E hM => ?_
  refine cx_seq' fun K1 hK1 => ?_
  refine cx_region' ?_
  refine sx_ox' (ox_box' rfl (lv_ag _) rfl rfl) (wt_none' rfl) fun q2 => ?_
  refine sx_ox' (ox_alloc' info27 rfl rfl rfl rfl (l := [(Vl (.int .i64 0)), (Vl (.int .i64 0)), (Vl (.int .i64 0)), (Vl (.slice none 0 0)), (Vl (.slice none 0 0)), (Vl (.slice none 0 0)), (Vl (.slice none 0 0))]) rfl) (wt_none' rfl) fun q4 => ?_
  refine sx_ox' (ox_alloc' info4 rfl rfl rfl rfl (l := [(Vl (.bool false))]) rfl) (wt_none' rfl) fun q5 => ?_
  refine sx_nil' ?_
  show TX E K1 _
  refine tx_k' hK1 ?_
  refine cx_seq' fun K2 hK2 => ?_
  refine cx_region' ?_
  refine sx_rd' (rd_mkfunc' (us := [.pointer (some q4), .pointer (some q5)]) rfl) rfl rfl (wt_none' rfl) ?_
  refine sx_ox' (ox_defer' rfl rfl) (wt_none' rfl) fun _ => ?_
  refine sx_nil' ?_
  show TX E K2 _
  refine tx_k' hK2 ?_
  refine cx_seq' fun K3 hK3 => ?_
  refine cx_region' ?_
  refine sx_rd' (rd_load_agg' (i := 2) (o := 0) (nn := 7) rfl ⟨rfl, rfl, rfl, rfl⟩ rfl agg27 (l' := [(Vl (.int .i64 a0_0)), (Vl (.int .i64 a0_1)), (Vl (.int .i64 a0_2)), (Sl Kf a0_3), (Sl (Ki .i64) a0_4), (Sl (Kl (Ki .i64)) a0_5), (Sl KT27 a0_6)]) rfl) rfl rfl (wt_none' rfl) ?_
  obtain ⟨r11, hr11, hp⟩ := bind_some hp
  rcases r11 with y1 | y1 | y1 | y1 | y1 | y1 | y1 | y1
  · dsimp only at hp
    refine sx_ox' (ox_calln' (ent_fn' Try.func52 isn52 rfl rfl) (impl_geometry_sim _ _ _ _ _ _ _ hr11 : Go.Sx.Fn Try.prog 52 [(Ag [(Vl (.int .i64 a0_0)), (Vl (.int .i64 a0_1)), (Vl (.int .i64 a0_2)), (Sl Kf a0_3), (Sl (Ki .i64) a0_4), (Sl (Kl (Ki .i64)) a0_5), (Sl KT27 a0_6)])] [] (fun x : Addr => (If 60 (Vl (.pointer (some x))))) (fun x => [⟨.pointer (some x), [(Vl (.int .i64 y1.1)), (Vl (.int .i64 y1.2.1)), (Sl Kf y1.2.2.1), (Vl (.int .i64 y1.2.2.2))], 114, none⟩])) (Hn := fun x : Addr => [⟨.pointer (some x), [(Vl (.int .i64 y1.1)), (Vl (.int .i64 y1.2.1)), (Sl Kf y1.2.2.1), (Vl (.int .i64 y1.2.2.2))], 114, none⟩, ⟨.pointer (some q5), [(Vl (.bool false))], 4, none⟩, ⟨.pointer (some q4), [(Vl (.int .i64 0)), (Vl (.int .i64 0)), (Vl (.int .i64 0)), (Vl (.slice none 0 0)), (Vl (.slice none 0 0)), (Vl (.slice none 0 0)), (Vl (.slice none 0 0))], 27, none⟩, ⟨.pointer (some q2), [(Vl (.int .i64 a0_0)), (Vl (.int .i64 a0_1)), (Vl (.int .i64 a0_2)), (Sl Kf a0_3), (Sl (Ki .i64) a0_4), (Sl (Kl (Ki .i64)) a0_5), (Sl KT27 a0_6)], 27, none⟩]) (fun _ => rfl) rfl rfl) (wt_none' rfl) fun q11 => ?_
    refine sx_rd' (rd_move' rfl) rfl rfl (wt_none' rfl) ?_
    obtain ⟨r13, hr13, hp⟩ := bind_some hp
    refine sx_ox' (ox_callg' (ent_fn' Try.func58 isn58 rfl rfl) (gogeom_SetSRID_sim _ _ _ _ _ hr13 : Go.Sx.Fn Try.prog 58 [(If 60 (Vl (.pointer (some q11)))), (Vl (.int .i64 a1))] [⟨.pointer (some q11), [(Vl (.int .i64 y1.1)), (Vl (.int .i64 y1.2.1)), (Sl Kf y1.2.2.1), (Vl (.int .i64 y1.2.2.2))], 114, none⟩] (fun x : Unit => (Tu [(If 60 (Vl (.pointer (some q11)))), (Vl .nilIface)])) (fun x => [⟨.pointer (some q11), [(Vl (.int .i64 r13.1)), (Vl (.int .i64 r13.2.1)), (Sl Kf r13.2.2.1), (Vl (.int .i64 r13.2.2.2))], 114, none⟩])) [0] [1, 2, 3] (by decide) (pick_cons rfl pick_nil) (pick_cons rfl (pick_cons rfl (pick_cons rfl pick_nil))) (Hn := fun x : Unit => [⟨.pointer (some q11), [(Vl (.int .i64 r13.1)), (Vl (.int .i64 r13.2.1)), (Sl Kf r13.2.2.1), (Vl (.int .i64 r13.2.2.2))], 114, none⟩, ⟨.pointer (some q5), [(Vl (.bool false))], 4, none⟩, ⟨.pointer (some q4), [(Vl (.int .i64 0)), (Vl (.int .i64 0)), (Vl (.int .i64 0)), (Vl (.slice none 0 0)), (Vl (.slice none 0 0)), (Vl (.slice none 0 0)), (Vl (.slice none 0 0))], 27, none⟩, ⟨.pointer (some q2), [(Vl (.int .i64 a0_0)), (Vl (.int .i64 a0_1)), (Vl (.int .i64 a0_2)), (Sl Kf a0_3), (Sl (Ki .i64) a0_4), (Sl (Kl (Ki .i64)) a0_5), (Sl KT27 a0_6)], 27, none⟩]) (fun _ => rfl) rfl rfl) (wt_none' rfl) fun ⟨⟩ => ?_
    refine sx_rd' (rd_move' rfl) rfl rfl (wt_none' rfl) ?_
    refine sx_rd' (rd_extract' rfl rfl) rfl rfl (wt_none' rfl) ?_
    refine sx_rd' (rd_extract' rfl rfl) rfl rfl (wt_none' rfl) ?_
    refine sx_rd' (rd_assign' rfl) rfl rfl (wt_none' rfl) ?_
    refine sx_rd' (rd_assign' rfl) rfl rfl (wt_none' rfl) ?_
    refine sx_nil' ?_
    show TX E K3 _
    refine tx_k' hK3 ?_
    refine cx_seq' fun K4 hK4 => ?_
    refine cx_seq' fun K5 hK5 => ?_
    refine cx_region' ?_
    refine sx_rd' (rd_move' rfl) rfl rfl (wt_none' rfl) ?_
    refine sx_rd' (rd_binf' rfl rfl (bf_vl (fun _ => by kernel_rfl) nil_neq62_nilif)) rfl rfl (wt_none' rfl) ?_
    refine sx_nil' ?_
    show TX E K5 _
    refine tx_k' hK5 ?_
    refine cx_cond_f' rfl rfl ?_
    refine cx_skip' ?_
    show TX E K4 _
    refine tx_k' hK4 ?_
    refine cx_seq' fun K6 hK6 => ?_
    refine cx_region' ?_
    refine sx_rd' (rd_move' rfl) rfl rfl (wt_none' rfl) ?_
    obtain ⟨r20, hr20, hp⟩ := bind_some hp
    refine sx_ox' (ox_callg' (ent_fn' Try.func44 isn44 rfl rfl) (impl_plain_sim _ _ _ _ hr20 : Go.Sx.Fn Try.prog 44 [(If 60 (Vl (.pointer (some q11))))] [⟨.pointer (some q11), [(Vl (.int .i64 r13.1)), (Vl (.int .i64 r13.2.1)), (Sl Kf r13.2.2.1), (Vl (.int .i64 r13.2.2.2))], 114, none⟩] (fun x : Unit => (Ag [(Vl (.int .i64 r20.2.2.2.2.1)), (Vl (.int .i64 r20.2.2.2.2.2.1)), (Vl (.int .i64 r20.2.2.2.2.2.2.1)), (Sl Kf r20.2.2.2.2.2.2.2.1), (Sl (Ki .i64) r20.2.2.2.2.2.2.2.2), (Vl (.slice none 0 0)), (Vl (.slice none 0 0))])) (fun x => [⟨.pointer (some q11), [(Vl (.int .i64 r20.1)), (Vl (.int .i64 r20.2.1)), (Sl Kf r20.2.2.1), (Vl (.int .i64 r20.2.2.2.1))], 114, none⟩])) [0] [1, 2, 3] (by decide) (pick_cons rfl pick_nil) (pick_cons rfl (pick_cons rfl (pick_cons rfl pick_nil))) (Hn := fun x : Unit => [⟨.pointer (some q11), [(Vl (.int .i64 r20.1)), (Vl (.int .i64 r20.2.1)), (Sl Kf r20.2.2.1), (Vl (.int .i64 r20.2.2.2.1))], 114, none⟩, ⟨.pointer (some q5), [(Vl (.bool false))], 4, none⟩, ⟨.pointer (some q4), [(Vl (.int .i64 0)), (Vl (.int .i64 0)), (Vl (.int .i64 0)), (Vl (.slice none 0 0)), (Vl (.slice none 0 0)), (Vl (.slice none 0 0)), (Vl (.slice none 0 0))], 27, none⟩, ⟨.pointer (some q2), [(Vl (.int .i64 a0_0)), (Vl (.int .i64 a0_1)), (Vl (.int .i64 a0_2)), (Sl Kf a0_3), (Sl (Ki .i64) a0_4), (Sl (Kl (Ki .i64)) a0_5), (Sl KT27 a0_6)], 27, none⟩]) (fun _ => rfl) rfl rfl) (wt_none' rfl) fun ⟨⟩ => ?_
    refine sx_ox' (ox_store' (i := 2) (o := 0) rfl rfl (lv_ag _) ⟨rfl, rfl, rfl, rfl⟩ rfl info27 rfl (H' := [⟨.pointer (some q11), [(Vl (.int .i64 r20.1)), (Vl (.int .i64 r20.2.1)), (Sl Kf r20.2.2.1), (Vl (.int .i64 r20.2.2.2.1))], 114, none⟩, ⟨.pointer (some q5), [(Vl (.bool false))], 4, none⟩, ⟨.pointer (some q4), [(Vl (.int .i64 r20.2.2.2.2.1)), (Vl (.int .i64 r20.2.2.2.2.2.1)), (Vl (.int .i64 r20.2.2.2.2.2.2.1)), (Sl Kf r20.2.2.2.2.2.2.2.1), (Sl (Ki .i64) r20.2.2.2.2.2.2.2.2), (Vl (.slice none 0 0)), (Vl (.slice none 0 0))], 27, none⟩, ⟨.pointer (some q2), [(Vl (.int .i64 a0_0)), (Vl (.int .i64 a0_1)), (Vl (.int .i64 a0_2)), (Sl Kf a0_3), (Sl (Ki .i64) a0_4), (Sl (Kl (Ki .i64)) a0_5), (Sl KT27 a0_6)], 27, none⟩]) rfl) (wt_none' rfl) fun _ => ?_
    refine sx_ox' (ox_store' (i := 1) (o := 0) rfl rfl (lv_vl rfl rfl) ⟨rfl, rfl, rfl, rfl⟩ rfl info4 rfl (H' := [⟨.pointer (some q11), [(Vl (.int .i64 r20.1)), (Vl (.int .i64 r20.2.1)), (Sl Kf r20.2.2.1), (Vl (.int .i64 r20.2.2.2.1))], 114, none⟩, ⟨.pointer (some q5), [(Vl (.bool true))], 4, none⟩, ⟨.pointer (some q4), [(Vl (.int .i64 r20.2.2.2.2.1)), (Vl (.int .i64 r20.2.2.2.2.2.1)), (Vl (.int .i64 r20.2.2.2.2.2.2.1)), (Sl Kf r20.2.2.2.2.2.2.2.1), (Sl (Ki .i64) r20.2.2.2.2.2.2.2.2), (Vl (.slice none 0 0)), (Vl (.slice none 0 0))], 27, none⟩, ⟨.pointer (some q2), [(Vl (.int .i64 a0_0)), (Vl (.int .i64 a0_1)), (Vl (.int .i64 a0_2)), (Sl Kf a0_3), (Sl (Ki .i64) a0_4), (Sl (Kl (Ki .i64)) a0_5), (Sl KT27 a0_6)], 27, none⟩]) rfl) (wt_none' rfl) fun _ => ?_
    refine sx_nil' ?_
    show TX E K6 _
    refine tx_k' hK6 ?_
    refine cx_retc' ?_
    replace hp := Option.some.inj hp
    subst hp
    refine tx_leave' (.inl rfl) rfl idle57 rfl Try.func57 isn57 rfl ?_
    refine tx_pick' (L' := [(4, (Vl (.pointer (some q4)))), (5, (Vl (.pointer (some q5))))]) (H' := [⟨.pointer (some q4), [(Vl (.int .i64 r20.2.2.2.2.1)), (Vl (.int .i64 r20.2.2.2.2.2.1)), (Vl (.int .i64 r20.2.2.2.2.2.2.1)), (Sl Kf r20.2.2.2.2.2.2.2.1), (Sl (Ki .i64) r20.2.2.2.2.2.2.2.2), (Vl (.slice none 0 0)), (Vl (.slice none 0 0))], 27, none⟩, ⟨.pointer (some q5), [(Vl (.bool true))], 4, none⟩]) [2, 1] (sub_cons rfl (sub_cons rfl sub_nil)) (by decide) (pick_cons rfl (pick_cons rfl pick_nil)) ?_
    exact tx_ret2' Try.results22 rfl () (rv_imp' (x := (Ag [(Vl (.int .i64 r20.2.2.2.2.1)), (Vl (.int .i64 r20.2.2.2.2.2.1)), (Vl (.int .i64 r20.2.2.2.2.2.2.1)), (Sl Kf r20.2.2.2.2.2.2.2.1), (Sl (Ki .i64) r20.2.2.2.2.2.2.2.2), (Vl (.slice none 0 0)), (Vl (.slice none 0 0))])) (y := (Ag [(Vl (.int .i64 r20.2.2.2.2.1)), (Vl (.int .i64 r20.2.2.2.2.2.1)), (Vl (.int .i64 r20.2.2.2.2.2.2.1)), (Sl Kf r20.2.2.2.2.2.2.2.1), (Sl (Ki .i64) r20.2.2.2.2.2.2.2.2), (Sl (Kl (Ki .i64)) []), (Vl (.slice none 0 0))])) (rv_cell_agg' (i := 0) (o := 0) (nn := 7) rfl ⟨rfl, rfl, rfl, rfl⟩ rfl agg27 rfl) (imp_ag ⟨imp_refl, imp_refl, imp_refl, imp_refl, imp_refl, imp_nil, imp_refl, trivial⟩)) (rv_cell' (i := 1) (o := 0) rfl ⟨rfl, rfl, rfl, rfl⟩ rfl flat4) rfl (List.nil_sublist _)
  · dsimp only at hp
    refine sx_ox' (ox_calln' (ent_fn' Try.func52 isn52 rfl rfl) (impl_geometry_sim _ _ _ _ _ _ _ hr11 : Go.Sx.Fn Try.prog 52 [(Ag [(Vl (.int .i64 a0_0)), (Vl (.int .i64 a0_1)), (Vl (.int .i64 a0_2)), (Sl Kf a0_3), (Sl (Ki .i64) a0_4), (Sl (Kl (Ki .i64)) a0_5), (Sl KT27 a0_6)])] [] (fun x : Addr => (If 94 (Vl (.pointer (some x))))) (fun x => [⟨.pointer (some x), [(Vl (.int .i64 y1.1)), (Vl (.int .i64 y1.2.1)), (Sl Kf y1.2.2.1), (Vl (.int .i64 y1.2.2.2))], 160, none⟩])) (Hn := fun x : Addr => [⟨.pointer (some x), [(Vl (.int .i64 y1.1)), (Vl (.int .i64 y1.2.1)), (Sl Kf y1.2.2.1), (Vl (.int .i64 y1.2.2.2))], 160, none⟩, ⟨.pointer (some q5), [(Vl (.bool false))], 4, none⟩, ⟨.pointer (some q4), [(Vl (.int .i64 0)), (Vl (.int .i64 0)), (Vl (.int .i64 0)), (Vl (.slice none 0 0)), (Vl (.slice none 0 0)), (Vl (.slice none 0 0)), (Vl (.slice none 0 0))], 27, none⟩, ⟨.pointer (some q2), [(Vl (.int .i64 a0_0)), (Vl (.int .i64 a0_1)), (Vl (.int .i64 a0_2)), (Sl Kf a0_3), (Sl (Ki .i64) a0_4), (Sl (Kl (Ki .i64)) a0_5), (Sl KT27 a0_6)], 27, none⟩]) (fun _ => rfl) rfl rfl) (wt_none' rfl) fun q11 => ?_
    refine sx_rd' (rd_move' rfl) rfl rfl (wt_none' rfl) ?_
    obtain ⟨r13, hr13, hp⟩ := bind_some hp
    refine sx_ox' (ox_callg' (ent_fn' Try.func58 isn58 rfl rfl) (gogeom_SetSRID_v2_sim _ _ _ _ _ hr13 : Go.Sx.Fn Try.prog 58 [(If 94 (Vl (.pointer (some q11)))), (Vl (.int .i64 a1))] [⟨.pointer (some q11), [(Vl (.int .i64 y1.1)), (Vl (.int .i64 y1.2.1)), (Sl Kf y1.2.2.1), (Vl (.int .i64 y1.2.2.2))], 160, none⟩] (fun x : Unit => (Tu [(If 94 (Vl (.pointer (some q11)))), (Vl .nilIface)])) (fun x => [⟨.pointer (some q11), [(Vl (.int .i64 r13.1)), (Vl (.int .i64 r13.2.1)), (Sl Kf r13.2.2.1), (Vl (.int .i64 r13.2.2.2))], 160, none⟩])) [0] [1, 2, 3] (by decide) (pick_cons rfl pick_nil) (pick_cons rfl (pick_cons rfl (pick_cons rfl pick_nil))) (Hn := fun x : Unit => [⟨.pointer (some q11), [(Vl (.int .i64 r13.1)), (Vl (.int .i64 r13.2.1)), (Sl Kf r13.2.2.1), (Vl (.int .i64 r13.2.2.2))], 160, none⟩, ⟨.pointer (some q5), [(Vl (.bool false))], 4, none⟩, ⟨.pointer (some q4), [(Vl (.int .i64 0)), (Vl (.int .i64 0)), (Vl (.int .i64 0)), (Vl (.slice none 0 0)), (Vl (.slice none 0 0)), (Vl (.slice none 0 0)), (Vl (.slice none 0 0))], 27, none⟩, ⟨.pointer (some q2), [(Vl (.int .i64 a0_0)), (Vl (.int .i64 a0_1)), (Vl (.int .i64 a0_2)), (Sl Kf a0_3), (Sl (Ki .i64) a0_4), (Sl (Kl (Ki .i64)) a0_5), (Sl KT27 a0_6)], 27, none⟩]) (fun _ => rfl) rfl rfl) (wt_none' rfl) fun ⟨⟩ => ?_
    refine sx_rd' (rd_move' rfl) rfl rfl (wt_none' rfl) ?_
    refine sx_rd' (rd_extract' rfl rfl) rfl rfl (wt_none' rfl) ?_
    refine sx_rd' (rd_extract' rfl rfl) rfl rfl (wt_none' rfl) ?_
    refine sx_rd' (rd_assign' rfl) rfl rfl (wt_none' rfl) ?_
    refine sx_rd' (rd_assign' rfl) rfl rfl (wt_none' rfl) ?_
    refine sx_nil' ?_
    show TX E K3 _
    refine tx_k' hK3 ?_
    refine cx_seq' fun K4 hK4 => ?_
    refine cx_seq' fun K5 hK5 => ?_
    refine cx_region' ?_
    refine sx_rd' (rd_move' rfl) rfl rfl (wt_none' rfl) ?_
    refine sx_rd' (rd_binf' rfl rfl (bf_vl (fun _ => by kernel_rfl) nil_neq62_nilif)) rfl rfl (wt_none' rfl) ?_
    refine sx_nil' ?_
    show TX E K5 _
    refine tx_k' hK5 ?_
    refine cx_cond_f' rfl rfl ?_
    refine cx_skip' ?_
    show TX E K4 _
    refine tx_k' hK4 ?_
    refine cx_seq' fun K6 hK6 => ?_
    refine cx_region' ?_
    refine sx_rd' (rd_move' rfl) rfl rfl (wt_none' rfl) ?_
    obtain ⟨r20, hr20, hp⟩ := bind_some hp
    refine sx_ox' (ox_callg' (ent_fn' Try.func44 isn44 rfl rfl) (impl_plain_v2_sim _ _ _ _ hr20 : Go.Sx.Fn Try.prog 44 [(If 94 (Vl (.pointer (some q11))))] [⟨.pointer (some q11), [(Vl (.int .i64 r13.1)), (Vl (.int .i64 r13.2.1)), (Sl Kf r13.2.2.1), (Vl (.int .i64 r13.2.2.2))], 160, none⟩] (fun x : Unit => (Ag [(Vl (.int .i64 r20.2.2.2.2.1)), (Vl (.int .i64 r20.2.2.2.2.2.1)), (Vl (.int .i64 r20.2.2.2.2.2.2.1)), (Sl Kf r20.2.2.2.2.2.2.2.1), (Sl (Ki .i64) r20.2.2.2.2.2.2.2.2), (Vl (.slice none 0 0)), (Vl (.slice none 0 0))])) (fun x => [⟨.pointer (some q11), [(Vl (.int .i64 r20.1)), (Vl (.int .i64 r20.2.1)), (Sl Kf r20.2.2.1), (Vl (.int .i64 r20.2.2.2.1))], 160, none⟩])) [0] [1, 2, 3] (by decide) (pick_cons rfl pick_nil) (pick_cons rfl (pick_cons rfl (pick_cons rfl pick_nil))) (Hn := fun x : Unit => [⟨.pointer (some q11), [(Vl (.int .i64 r20.1)), (Vl (.int .i64 r20.2.1)), (Sl Kf r20.2.2.1), (Vl (.int .i64 r20.2.2.2.1))], 160, none⟩, ⟨.pointer (some q5), [(Vl (.bool false))], 4, none⟩, ⟨.pointer (some q4), [(Vl (.int .i64 0)), (Vl (.int .i64 0)), (Vl (.int .i64 0)), (Vl (.slice none 0 0)), (Vl (.slice none 0 0)), (Vl (.slice none 0 0)), (Vl (.slice none 0 0))], 27, none⟩, ⟨.pointer (some q2), [(Vl (.int .i64 a0_0)), (Vl (.int .i64 a0_1)), (Vl (.int .i64 a0_2)), (Sl Kf a0_3), (Sl (Ki .i64) a0_4), (Sl (Kl (Ki .i64)) a0_5), (Sl KT27 a0_6)], 27, none⟩]) (fun _ => rfl) rfl rfl) (wt_none' rfl) fun ⟨⟩ => ?_
    refine sx_ox' (ox_store' (i := 2) (o := 0) rfl rfl (lv_ag _) ⟨rfl, rfl, rfl, rfl⟩ rfl info27 rfl (H' := [⟨.pointer (some q11), [(Vl (.int .i64 r20.1)), (Vl (.int .i64 r20.2.1)), (Sl Kf r20.2.2.1), (Vl (.int .i64 r20.2.2.2.1))], 160, none⟩, ⟨.pointer (some q5), [(Vl (.bool false))], 4, none⟩, ⟨.pointer (some q4), [(Vl (.int .i64 r20.2.2.2.2.1)), (Vl (.int .i64 r20.2.2.2.2.2.1)), (Vl (.int .i64 r20.2.2.2.2.2.2.1)), (Sl Kf r20.2.2.2.2.2.2.2.1), (Sl (Ki .i64) r20.2.2.2.2.2.2.2.2), (Vl (.slice none 0 0)), (Vl (.slice none 0 0))], 27, none⟩, ⟨.pointer (some q2), [(Vl (.int .i64 a0_0)), (Vl (.int .i64 a0_1)), (Vl (.int .i64 a0_2)), (Sl Kf a0_3), (Sl (Ki .i64) a0_4), (Sl (Kl (Ki .i64)) a0_5), (Sl KT27 a0_6)], 27, none⟩]) rfl) (wt_none' rfl) fun _ => ?_
    refine sx_ox' (ox_store' (i := 1) (o := 0) rfl rfl (lv_vl rfl rfl) ⟨rfl, rfl, rfl, rfl⟩ rfl info4 rfl (H' := [⟨.pointer (some q11), [(Vl (.int .i64 r20.1)), (Vl (.int .i64 r20.2.1)), (Sl Kf r20.2.2.1), (Vl (.int .i64 r20.2.2.2.1))], 160, none⟩, ⟨.pointer (some q5), [(Vl (.bool true))], 4, none⟩, ⟨.pointer (some q4), [(Vl (.int .i64 r20.2.2.2.2.1)), (Vl (.int .i64 r20.2.2.2.2.2.1)), (Vl (.int .i64 r20.2.2.2.2.2.2.1)), (Sl Kf r20.2.2.2.2.2.2.2.1), (Sl (Ki .i64) r20.2.2.2.2.2.2.2.2), (Vl (.slice none 0 0)), (Vl (.slice none 0 0))], 27, none⟩, ⟨.pointer (some q2), [(Vl (.int .i64 a0_0)), (Vl (.int .i64 a0_1)), (Vl (.int .i64 a0_2)), (Sl Kf a0_3), (Sl (Ki .i64) a0_4), (Sl (Kl (Ki .i64)) a0_5), (Sl KT27 a0_6)], 27, none⟩]) rfl) (wt_none' rfl) fun _ => ?_
    refine sx_nil' ?_
    show TX E K6 _
    refine tx_k' hK6 ?_
    refine cx_retc' ?_
    replace hp := Option.some.inj hp
    subst hp
    refine tx_leave' (.inl rfl) rfl idle57 rfl Try.func57 isn57 rfl ?_
    refine tx_pick' (L' := [(4, (Vl (.pointer (some q4)))), (5, (Vl (.pointer (some q5))))]) (H' := [⟨.pointer (some q4), [(Vl (.int .i64 r20.2.2.2.2.1)), (Vl (.int .i64 r20.2.2.2.2.2.1)), (Vl (.int .i64 r20.2.2.2.2.2.2.1)), (Sl Kf r20.2.2.2.2.2.2.2.1), (Sl (Ki .i64) r20.2.2.2.2.2.2.2.2), (Vl (.slice none 0 0)), (Vl (.slice none 0 0))], 27, none⟩, ⟨.pointer (some q5), [(Vl (.bool true))], 4, none⟩]) [2, 1] (sub_cons rfl (sub_cons rfl sub_nil)) (by decide) (pick_cons rfl (pick_cons rfl pick_nil)) ?_
    exact tx_ret2' Try.results22 rfl () (rv_imp' (x := (Ag [(Vl (.int .i64 r20.2.2.2.2.1)), (Vl (.int .i64 r20.2.2.2.2.2.1)), (Vl (.int .i64 r20.2.2.2.2.2.2.1)), (Sl Kf r20.2.2.2.2.2.2.2.1), (Sl (Ki .i64) r20.2.2.2.2.2.2.2.2), (Vl (.slice none 0 0)), (Vl (.slice none 0 0))])) (y := (Ag [(Vl (.int .i64 r20.2.2.2.2.1)), (Vl (.int .i64 r20.2.2.2.2.2.1)), (Vl (.int .i64 r20.2.2.2.2.2.2.1)), (Sl Kf r20.2.2.2.2.2.2.2.1), (Sl (Ki .i64) r20.2.2.2.2.2.2.2.2), (Sl (Kl (Ki .i64)) []), (Vl (.slice none 0 0))])) (rv_cell_agg' (i := 0) (o := 0) (nn := 7) rfl ⟨rfl, rfl, rfl, rfl⟩ rfl agg27 rfl) (imp_ag ⟨imp_refl, imp_refl, imp_refl, imp_refl, imp_refl, imp_nil, imp_refl, trivial⟩)) (rv_cell' (i := 1) (o := 0) rfl ⟨rfl, rfl, rfl, rfl⟩ rfl flat4) rfl (List.nil_sublist _)
  · dsimp only at hp
    refine sx_ox' (ox_calln' (ent_fn' Try.func52 isn52 rfl rfl) (impl_geometry_sim _ _ _ _ _ _ _ hr11 : Go.Sx.Fn Try.prog 52 [(Ag [(Vl (.int .i64 a0_0)), (Vl (.int .i64 a0_1)), (Vl (.int .i64 a0_2)), (Sl Kf a0_3), (Sl (Ki .i64) a0_4), (Sl (Kl (Ki .i64)) a0_5), (Sl KT27 a0_6)])] [] (fun x : Addr => (If 89 (Vl (.pointer (some x))))) (fun x => [⟨.pointer (some x), [(Vl (.int .i64 y1.1)), (Vl (.int .i64 y1.2.1)), (Sl Kf y1.2.2.1), (Vl (.int .i64 y1.2.2.2))], 151, none⟩])) (Hn := fun x : Addr => [⟨.pointer (some x), [(Vl (.int .i64 y1.1)), (Vl (.int .i64 y1.2.1)), (Sl Kf y1.2.2.1), (Vl (.int .i64 y1.2.2.2))], 151, none⟩, ⟨.pointer (some q5), [(Vl (.bool false))], 4, none⟩, ⟨.pointer (some q4), [(Vl (.int .i64 0)), (Vl (.int .i64 0)), (Vl (.int .i64 0)), (Vl (.slice none 0 0)), (Vl (.slice none 0 0)), (Vl (.slice none 0 0)), (Vl (.slice none 0 0))], 27, none⟩, ⟨.pointer (some q2), [(Vl (.int .i64 a0_0)), (Vl (.int .i64 a0_1)), (Vl (.int .i64 a0_2)), (Sl Kf a0_3), (Sl (Ki .i64) a0_4), (Sl (Kl (Ki .i64)) a0_5), (Sl KT27 a0_6)], 27, none⟩]) (fun _ => rfl) rfl rfl) (wt_none' rfl) fun q11 => ?_
    refine sx_rd' (rd_move' rfl) rfl rfl (wt_none' rfl) ?_
    obtain ⟨r13, hr13, hp⟩ := bind_some hp
    refine sx_ox' (ox_callg' (ent_fn' Try.func58 isn58 rfl rfl) (gogeom_SetSRID_v3_sim _ _ _ _ _ hr13 : Go.Sx.Fn Try.prog 58 [(If 89 (Vl (.pointer (some q11)))), (Vl (.int .i64 a1))] [⟨.pointer (some q11), [(Vl (.int .i64 y1.1)), (Vl (.int .i64 y1.2.1)), (Sl Kf y1.2.2.1), (Vl (.int .i64 y1.2.2.2))], 151, none⟩] (fun x : Unit => (Tu [(If 89 (Vl (.pointer (some q11)))), (Vl .nilIface)])) (fun x => [⟨.pointer (some q11), [(Vl (.int .i64 r13.1)), (Vl (.int .i64 r13.2.1)), (Sl Kf r13.2.2.1), (Vl (.int .i64 r13.2.2.2))], 151, none⟩])) [0] [1, 2, 3] (by decide) (pick_cons rfl pick_nil) (pick_cons rfl (pick_cons rfl (pick_cons rfl pick_nil))) (Hn := fun x : Unit => [⟨.pointer (some q11), [(Vl (.int .i64 r13.1)), (Vl (.int .i64 r13.2.1)), (Sl Kf r13.2.2.1), (Vl (.int .i64 r13.2.2.2))], 151, none⟩, ⟨.pointer (some q5), [(Vl (.bool false))], 4, none⟩, ⟨.pointer (some q4), [(Vl (.int .i64 0)), (Vl (.int .i64 0)), (Vl (.int .i64 0)), (Vl (.slice none 0 0)), (Vl (.slice none 0 0)), (Vl (.slice none 0 0)), (Vl (.slice none 0 0))], 27, none⟩, ⟨.pointer (some q2), [(Vl (.int .i64 a0_0)), (Vl (.int .i64 a0_1)), (Vl (.int .i64 a0_2)), (Sl Kf a0_3), (Sl (Ki .i64) a0_4), (Sl (Kl (Ki .i64)) a0_5), (Sl KT27 a0_6)], 27, none⟩]) (fun _ => rfl) rfl rfl) (wt_none' rfl) fun ⟨⟩ => ?_
    refine sx_rd' (rd_move' rfl) rfl rfl (wt_none' rfl) ?_
    refine sx_rd' (rd_extract' rfl rfl) rfl rfl (wt_none' rfl) ?_
    refine sx_rd' (rd_extract' rfl rfl) rfl rfl (wt_none' rfl) ?_
    refine sx_rd' (rd_assign' rfl) rfl rfl (wt_none' rfl) ?_
    refine sx_rd' (rd_assign' rfl) rfl rfl (wt_none' rfl) ?_
    refine sx_nil' ?_
    show TX E K3 _
    refine tx_k' hK3 ?_
    refine cx_seq' fun K4 hK4 => ?_
    refine cx_seq' fun K5 hK5 => ?_
    refine cx_region' ?_
    refine sx_rd' (rd_move' rfl) rfl rfl (wt_none' rfl) ?_
    refine sx_rd' (rd_binf' rfl rfl (bf_vl (fun _ => by kernel_rfl) nil_neq62_nilif)) rfl rfl (wt_none' rfl) ?_
    refine sx_nil' ?_
    show TX E K5 _
    refine tx_k' hK5 ?_
    refine cx_cond_f' rfl rfl ?_
    refine cx_skip' ?_
    show TX E K4 _
    refine tx_k' hK4 ?_
    refine cx_seq' fun K6 hK6 => ?_
    refine cx_region' ?_
    refine sx_rd' (rd_move' rfl) rfl rfl (wt_none' rfl) ?_
    obtain ⟨r20, hr20, hp⟩ := bind_some hp
    refine sx_ox' (ox_callg' (ent_fn' Try.func44 isn44 rfl rfl) (impl_plain_v3_sim _ _ _ _ hr20 : Go.Sx.Fn Try.prog 44 [(If 89 (Vl (.pointer (some q11))))] [⟨.pointer (some q11), [(Vl (.int .i64 r13.1)), (Vl (.int .i64 r13.2.1)), (Sl Kf r13.2.2.1), (Vl (.int .i64 r13.2.2.2))], 151, none⟩] (fun x : Unit => (Ag [(Vl (.int .i64 r20.2.2.2.2.1)), (Vl (.int .i64 r20.2.2.2.2.2.1)), (Vl (.int .i64 r20.2.2.2.2.2.2.1)), (Sl Kf r20.2.2.2.2.2.2.2.1), (Sl (Ki .i64) r20.2.2.2.2.2.2.2.2), (Vl (.slice none 0 0)), (Vl (.slice none 0 0))])) (fun x => [⟨.pointer (some q11), [(Vl (.int .i64 r20.1)), (Vl (.int .i64 r20.2.1)), (Sl Kf r20.2.2.1), (Vl (.int .i64 r20.2.2.2.1))], 151, none⟩])) [0] [1, 2, 3] (by decide) (pick_cons rfl pick_nil) (pick_cons rfl (pick_cons rfl (pick_cons rfl pick_nil))) (Hn := fun x : Unit => [⟨.pointer (some q11), [(Vl (.int .i64 r20.1)), (Vl (.int .i64 r20.2.1)), (Sl Kf r20.2.2.1), (Vl (.int .i64 r20.2.2.2.1))], 151, none⟩, ⟨.pointer (some q5), [(Vl (.bool false))], 4, none⟩, ⟨.pointer (some q4), [(Vl (.int .i64 0)), (Vl (.int .i64 0)), (Vl (.int .i64 0)), (Vl (.slice none 0 0)), (Vl (.slice none 0 0)), (Vl (.slice none 0 0)), (Vl (.slice none 0 0))], 27, none⟩, ⟨.pointer (some q2), [(Vl (.int .i64 a0_0)), (Vl (.int .i64 a0_1)), (Vl (.int .i64 a0_2)), (Sl Kf a0_3), (Sl (Ki .i64) a0_4), (Sl (Kl (Ki .i64)) a0_5), (Sl KT27 a0_6)], 27, none⟩]) (fun _ => rfl) rfl rfl) (wt_none' rfl) fun ⟨⟩ => ?_
    refine sx_ox' (ox_store' (i := 2) (o := 0) rfl rfl (lv_ag _) ⟨rfl, rfl, rfl, rfl⟩ rfl info27 rfl (H' := [⟨.pointer (some q11), [(Vl (.int .i64 r20.1)), (Vl (.int .i64 r20.2.1)), (Sl Kf r20.2.2.1), (Vl (.int .i64 r20.2.2.2.1))], 151, none⟩, ⟨.pointer (some q5), [(Vl (.bool false))], 4, none⟩, ⟨.pointer (some q4), [(Vl (.int .i64 r20.2.2.2.2.1)), (Vl (.int .i64 r20.2.2.2.2.2.1)), (Vl (.int .i64 r20.2.2.2.2.2.2.1)), (Sl Kf r20.2.2.2.2.2.2.2.1), (Sl (Ki .i64) r20.2.2.2.2.2.2.2.2), (Vl (.slice none 0 0)), (Vl (.slice none 0 0))], 27, none⟩, ⟨.pointer (some q2), [(Vl (.int .i64 a0_0)), (Vl (.int .i64 a0_1)), (Vl (.int .i64 a0_2)), (Sl Kf a0_3), (Sl (Ki .i64) a0_4), (Sl (Kl (Ki .i64)) a0_5), (Sl KT27 a0_6)], 27, none⟩]) rfl) (wt_none' rfl) fun _ => ?_
    refine sx_ox' (ox_store' (i := 1) (o := 0) rfl rfl (lv_vl rfl rfl) ⟨rfl, rfl, rfl, rfl⟩ rfl info4 rfl (H' := [⟨.pointer (some q11), [(Vl (.int .i64 r20.1)), (Vl (.int .i64 r20.2.1)), (Sl Kf r20.2.2.1), (Vl (.int .i64 r20.2.2.2.1))], 151, none⟩, ⟨.pointer (some q5), [(Vl (.bool true))], 4, none⟩, ⟨.pointer (some q4), [(Vl (.int .i64 r20.2.2.2.2.1)), (Vl (.int .i64 r20.2.2.2.2.2.1)), (Vl (.int .i64 r20.2.2.2.2.2.2.1)), (Sl Kf r20.2.2.2.2.2.2.2.1), (Sl (Ki .i64) r20.2.2.2.2.2.2.2.2), (Vl (.slice none 0 0)), (Vl (.slice none 0 0))], 27, none⟩, ⟨.pointer (some q2), [(Vl (.int .i64 a0_0)), (Vl (.int .i64 a0_1)), (Vl (.int .i64 a0_2)), (Sl Kf a0_3), (Sl (Ki .i64) a0_4), (Sl (Kl (Ki .i64)) a0_5), (Sl KT27 a0_6)], 27, none⟩]) rfl) (wt_none' rfl) fun _ => ?_
    refine sx_nil' ?_
    show TX E K6 _
    refine tx_k' hK6 ?_
    refine cx_retc' ?_
    replace hp := Option.some.inj hp
    subst hp
    refine tx_leave' (.inl rfl) rfl idle57 rfl Try.func57 isn57 rfl ?_
    refine tx_pick' (L' := [(4, (Vl (.pointer (some q4)))), (5, (Vl (.pointer (some q5))))]) (H' := [⟨.pointer (some q4), [(Vl (.int .i64 r20.2.2.2.2.1)), (Vl (.int .i64 r20.2.2.2.2.2.1)), (Vl (.int .i64 r20.2.2.2.2.2.2.1)), (Sl Kf r20.2.2.2.2.2.2.2.1), (Sl (Ki .i64) r20.2.2.2.2.2.2.2.2), (Vl (.slice none 0 0)), (Vl (.slice none 0 0))], 27, none⟩, ⟨.pointer (some q5), [(Vl (.bool true))], 4, none⟩]) [2, 1] (sub_cons rfl (sub_cons rfl sub_nil)) (by decide) (pick_cons rfl (pick_cons rfl pick_nil)) ?_
    exact tx_ret2' Try.results22 rfl () (rv_imp' (x := (Ag [(Vl (.int .i64 r20.2.2.2.2.1)), (Vl (.int .i64 r20.2.2.2.2.2.1)), (Vl (.int .i64 r20.2.2.2.2.2.2.1)), (Sl Kf r20.2.2.2.2.2.2.2.1), (Sl (Ki .i64) r20.2.2.2.2.2.2.2.2), (Vl (.slice none 0 0)), (Vl (.slice none 0 0))])) (y := (Ag [(Vl (.int .i64 r20.2.2.2.2.1)), (Vl (.int .i64 r20.2.2.2.2.2.1)), (Vl (.int .i64 r20.2.2.2.2.2.2.1)), (Sl Kf r20.2.2.2.2.2.2.2.1), (Sl (Ki .i64) r20.2.2.2.2.2.2.2.2), (Sl (Kl (Ki .i64)) []), (Vl (.slice none 0 0))])) (rv_cell_agg' (i := 0) (o := 0) (nn := 7) rfl ⟨rfl, rfl, rfl, rfl⟩ rfl agg27 rfl) (imp_ag ⟨imp_refl, imp_refl, imp_refl, imp_refl, imp_refl, imp_nil, imp_refl, trivial⟩)) (rv_cell' (i := 1) (o := 0) rfl ⟨rfl, rfl, rfl, rfl⟩ rfl flat4) rfl (List.nil_sublist _)
  · dsimp only at hp
    refine sx_ox' (ox_calln' (ent_fn' Try.func52 isn52 rfl rfl) (impl_geometry_sim _ _ _ _ _ _ _ hr11 : Go.Sx.Fn Try.prog 52 [(Ag [(Vl (.int .i64 a0_0)), (Vl (.int .i64 a0_1)), (Vl (.int .i64 a0_2)), (Sl Kf a0_3), (Sl (Ki .i64) a0_4), (Sl (Kl (Ki .i64)) a0_5), (Sl KT27 a0_6)])] [] (fun x : Addr => (If 87 (Vl (.pointer (some x))))) (fun x => [⟨.pointer (some x), [(Vl (.int .i64 y1.1)), (Vl (.int .i64 y1.2.1)), (Sl Kf y1.2.2.1), (Vl (.int .i64 y1.2.2.2.1)), (Sl (Ki .i64) y1.2.2.2.2)], 155, none⟩])) (Hn := fun x : Addr => [⟨.pointer (some x), [(Vl (.int .i64 y1.1)), (Vl (.int .i64 y1.2.1)), (Sl Kf y1.2.2.1), (Vl (.int .i64 y1.2.2.2.1)), (Sl (Ki .i64) y1.2.2.2.2)], 155, none⟩, ⟨.pointer (some q5), [(Vl (.bool false))], 4, none⟩, ⟨.pointer (some q4), [(Vl (.int .i64 0)), (Vl (.int .i64 0)), (Vl (.int .i64 0)), (Vl (.slice none 0 0)), (Vl (.slice none 0 0)), (Vl (.slice none 0 0)), (Vl (.slice none 0 0))], 27, none⟩, ⟨.pointer (some q2), [(Vl (.int .i64 a0_0)), (Vl (.int .i64 a0_1)), (Vl (.int .i64 a0_2)), (Sl Kf a0_3), (Sl (Ki .i64) a0_4), (Sl (Kl (Ki .i64)) a0_5), (Sl KT27 a0_6)], 27, none⟩]) (fun _ => rfl) rfl rfl) (wt_none' rfl) fun q11 => ?_
    refine sx_rd' (rd_move' rfl) rfl rfl (wt_none' rfl) ?_
    obtain ⟨r13, hr13, hp⟩ := bind_some hp
    refine sx_ox' (ox_callg' (ent_fn' Try.func58 isn58 rfl rfl) (gogeom_SetSRID_v4_sim _ _ _ _ _ _ hr13 : Go.Sx.Fn Try.prog 58 [(If 87 (Vl (.pointer (some q11)))), (Vl (.int .i64 a1))] [⟨.pointer (some q11), [(Vl (.int .i64 y1.1)), (Vl (.int .i64 y1.2.1)), (Sl Kf y1.2.2.1), (Vl (.int .i64 y1.2.2.2.1)), (Sl (Ki .i64) y1.2.2.2.2)], 155, none⟩] (fun x : Unit => (Tu [(If 87 (Vl (.pointer (some q11)))), (Vl .nilIface)])) (fun x => [⟨.pointer (some q11), [(Vl (.int .i64 r13.1)), (Vl (.int .i64 r13.2.1)), (Sl Kf r13.2.2.1), (Vl (.int .i64 r13.2.2.2.1)), (Sl (Ki .i64) r13.2.2.2.2)], 155, none⟩])) [0] [1, 2, 3] (by decide) (pick_cons rfl pick_nil) (pick_cons rfl (pick_cons rfl (pick_cons rfl pick_nil))) (Hn := fun x : Unit => [⟨.pointer (some q11), [(Vl (.int .i64 r13.1)), (Vl (.int .i64 r13.2.1)), (Sl Kf r13.2.2.1), (Vl (.int .i64 r13.2.2.2.1)), (Sl (Ki .i64) r13.2.2.2.2)], 155, none⟩, ⟨.pointer (some q5), [(Vl (.bool false))], 4, none⟩, ⟨.pointer (some q4), [(Vl (.int .i64 0)), (Vl (.int .i64 0)), (Vl (.int .i64 0)), (Vl (.slice none 0 0)), (Vl (.slice none 0 0)), (Vl (.slice none 0 0)), (Vl (.slice none 0 0))], 27, none⟩, ⟨.pointer (some q2), [(Vl (.int .i64 a0_0)), (Vl (.int .i64 a0_1)), (Vl (.int .i64 a0_2)), (Sl Kf a0_3), (Sl (Ki .i64) a0_4), (Sl (Kl (Ki .i64)) a0_5), (Sl KT27 a0_6)], 27, none⟩]) (fun _ => rfl) rfl rfl) (wt_none' rfl) fun ⟨⟩ => ?_
    refine sx_rd' (rd_move' rfl) rfl rfl (wt_none' rfl) ?_
    refine sx_rd' (rd_extract' rfl rfl) rfl rfl (wt_none' rfl) ?_
    refine sx_rd' (rd_extract' rfl rfl) rfl rfl (wt_none' rfl) ?_
    refine sx_rd' (rd_assign' rfl) rfl rfl (wt_none' rfl) ?_
    refine sx_rd' (rd_assign' rfl) rfl rfl (wt_none' rfl) ?_
    refine sx_nil' ?_
    show TX E K3 _
    refine tx_k' hK3 ?_
    refine cx_seq' fun K4 hK4 => ?_
    refine cx_seq' fun K5 hK5 => ?_
    refine cx_region' ?_
    refine sx_rd' (rd_move' rfl) rfl rfl (wt_none' rfl) ?_
    refine sx_rd' (rd_binf' rfl rfl (bf_vl (fun _ => by kernel_rfl) nil_neq62_nilif)) rfl rfl (wt_none' rfl) ?_
    refine sx_nil' ?_
    show TX E K5 _
    refine tx_k' hK5 ?_
    refine cx_cond_f' rfl rfl ?_
    refine cx_skip' ?_
    show TX E K4 _
    refine tx_k' hK4 ?_
    refine cx_seq' fun K6 hK6 => ?_
    refine cx_region' ?_
    refine sx_rd' (rd_move' rfl) rfl rfl (wt_none' rfl) ?_
    obtain ⟨r20, hr20, hp⟩ := bind_some hp
    refine sx_ox' (ox_callg' (ent_fn' Try.func44 isn44 rfl rfl) (impl_plain_v4_sim _ _ _ _ _ hr20 : Go.Sx.Fn Try.prog 44 [(If 87 (Vl (.pointer (some q11))))] [⟨.pointer (some q11), [(Vl (.int .i64 r13.1)), (Vl (.int .i64 r13.2.1)), (Sl Kf r13.2.2.1), (Vl (.int .i64 r13.2.2.2.1)), (Sl (Ki .i64) r13.2.2.2.2)], 155, none⟩] (fun x : Unit => (Ag [(Vl (.int .i64 r20.2.2.2.2.2.1)), (Vl (.int .i64 r20.2.2.2.2.2.2.1)), (Vl (.int .i64 r20.2.2.2.2.2.2.2.1)), (Sl Kf r20.2.2.2.2.2.2.2.2.1), (Sl (Ki .i64) r20.2.2.2.2.2.2.2.2.2), (Vl (.slice none 0 0)), (Vl (.slice none 0 0))])) (fun x => [⟨.pointer (some q11), [(Vl (.int .i64 r20.1)), (Vl (.int .i64 r20.2.1)), (Sl Kf r20.2.2.1), (Vl (.int .i64 r20.2.2.2.1)), (Sl (Ki .i64) r20.2.2.2.2.1)], 155, none⟩])) [0] [1, 2, 3] (by decide) (pick_cons rfl pick_nil) (pick_cons rfl (pick_cons rfl (pick_cons rfl pick_nil))) (Hn := fun x : Unit => [⟨.pointer (some q11), [(Vl (.int .i64 r20.1)), (Vl (.int .i64 r20.2.1)), (Sl Kf r20.2.2.1), (Vl (.int .i64 r20.2.2.2.1)), (Sl (Ki .i64) r20.2.2.2.2.1)], 155, none⟩, ⟨.pointer (some q5), [(Vl (.bool false))], 4, none⟩, ⟨.pointer (some q4), [(Vl (.int .i64 0)), (Vl (.int .i64 0)), (Vl (.int .i64 0)), (Vl (.slice none 0 0)), (Vl (.slice none 0 0)), (Vl (.slice none 0 0)), (Vl (.slice none 0 0))], 27, none⟩, ⟨.pointer (some q2), [(Vl (.int .i64 a0_0)), (Vl (.int .i64 a0_1)), (Vl (.int .i64 a0_2)), (Sl Kf a0_3), (Sl (Ki .i64) a0_4), (Sl (Kl (Ki .i64)) a0_5), (Sl KT27 a0_6)], 27, none⟩]) (fun _ => rfl) rfl rfl) (wt_none' rfl) fun ⟨⟩ => ?_
    refine sx_ox' (ox_store' (i := 2) (o := 0) rfl rfl (lv_ag _) ⟨rfl, rfl, rfl, rfl⟩ rfl info27 rfl (H' := [⟨.pointer (some q11), [(Vl (.int .i64 r20.1)), (Vl (.int .i64 r20.2.1)), (Sl Kf r20.2.2.1), (Vl (.int .i64 r20.2.2.2.1)), (Sl (Ki .i64) r20.2.2.2.2.1)], 155, none⟩, ⟨.pointer (some q5), [(Vl (.bool false))], 4, none⟩, ⟨.pointer (some q4), [(Vl (.int .i64 r20.2.2.2.2.2.1)), (Vl (.int .i64 r20.2.2.2.2.2.2.1)), (Vl (.int .i64 r20.2.2.2.2.2.2.2.1)), (Sl Kf r20.2.2.2.2.2.2.2.2.1), (Sl (Ki .i64) r20.2.2.2.2.2.2.2.2.2), (Vl (.slice none 0 0)), (Vl (.slice none 0 0))], 27, none⟩, ⟨.pointer (some q2), [(Vl (.int .i64 a0_0)), (Vl (.int .i64 a0_1)), (Vl (.int .i64 a0_2)), (Sl Kf a0_3), (Sl (Ki .i64) a0_4), (Sl (Kl (Ki .i64)) a0_5), (Sl KT27 a0_6)], 27, none⟩]) rfl) (wt_none' rfl) fun _ => ?_
    refine sx_ox' (ox_store' (i := 1) (o := 0) rfl rfl (lv_vl rfl rfl) ⟨rfl, rfl, rfl, rfl⟩ rfl info4 rfl (H' := [⟨.pointer (some q11), [(Vl (.int .i64 r20.1)), (Vl (.int .i64 r20.2.1)), (Sl Kf r20.2.2.1), (Vl (.int .i64 r20.2.2.2.1)), (Sl (Ki .i64) r20.2.2.2.2.1)], 155, none⟩, ⟨.pointer (some q5), [(Vl (.bool true))], 4, none⟩, ⟨.pointer (some q4), [(Vl (.int .i64 r20.2.2.2.2.2.1)), (Vl (.int .i64 r20.2.2.2.2.2.2.1)), (Vl (.int .i64 r20.2.2.2.2.2.2.2.1)), (Sl Kf r20.2.2.2.2.2.2.2.2.1), (Sl (Ki .i64) r20.2.2.2.2.2.2.2.2.2), (Vl (.slice none 0 0)), (Vl (.slice none 0 0))], 27, none⟩, ⟨.pointer (some q2), [(Vl (.int .i64 a0_0)), (Vl (.int .i64 a0_1)), (Vl (.int .i64 a0_2)), (Sl Kf a0_3), (Sl (Ki .i64) a0_4), (Sl (Kl (Ki .i64)) a0_5), (Sl KT27 a0_6)], 27, none⟩]) rfl) (wt_none' rfl) fun _ => ?_
    refine sx_nil' ?_
    show TX E K6 _
    refine tx_k' hK6 ?_
    refine cx_retc' ?_
    replace hp := Option.some.inj hp
    subst hp
    refine tx_leave' (.inl rfl) rfl idle57 rfl Try.func57 isn57 rfl ?_
    refine tx_pick' (L' := [(4, (Vl (.pointer (some q4)))), (5, (Vl (.pointer (some q5))))]) (H' := [⟨.pointer (some q4), [(Vl (.int .i64 r20.2.2.2.2.2.1)), (Vl (.int .i64 r20.2.2.2.2.2.2.1)), (Vl (.int .i64 r20.2.2.2.2.2.2.2.1)), (Sl Kf r20.2.2.2.2.2.2.2.2.1), (Sl (Ki .i64) r20.2.2.2.2.2.2.2.2.2), (Vl (.slice none 0 0)), (Vl (.slice none 0 0))], 27, none⟩, ⟨.pointer (some q5), [(Vl (.bool true))], 4, none⟩]) [2, 1] (sub_cons rfl (sub_cons rfl sub_nil)) (by decide) (pick_cons rfl (pick_cons rfl pick_nil)) ?_
    exact tx_ret2' Try.results22 rfl () (rv_imp' (x := (Ag [(Vl (.int .i64 r20.2.2.2.2.2.1)), (Vl (.int .i64 r20.2.2.2.2.2.2.1)), (Vl (.int .i64 r20.2.2.2.2.2.2.2.1)), (Sl Kf r20.2.2.2.2.2.2.2.2.1), (Sl (Ki .i64) r20.2.2.2.2.2.2.2.2.2), (Vl (.slice none 0 0)), (Vl (.slice none 0 0))])) (y := (Ag [(Vl (.int .i64 r20.2.2.2.2.2.1)), (Vl (.int .i64 r20.2.2.2.2.2.2.1)), (Vl (.int .i64 r20.2.2.2.2.2.2.2.1)), (Sl Kf r20.2.2.2.2.2.2.2.2.1), (Sl (Ki .i64) r20.2.2.2.2.2.2.2.2.2), (Sl (Kl (Ki .i64)) []), (Vl (.slice none 0 0))])) (rv_cell_agg' (i := 0) (o := 0) (nn := 7) rfl ⟨rfl, rfl, rfl, rfl⟩ rfl agg27 rfl) (imp_ag ⟨imp_refl, imp_refl, imp_refl, imp_refl, imp_refl, imp_nil, imp_refl, trivial⟩)) (rv_cell' (i := 1) (o := 0) rfl ⟨rfl, rfl, rfl, rfl⟩ rfl flat4) rfl (List.nil_sublist _)
  · dsimp only at hp
    refine sx_ox' (ox_calln' (ent_fn' Try.func52 isn52 rfl rfl) (impl_geometry_sim _ _ _ _ _ _ _ hr11 : Go.Sx.Fn Try.prog 52 [(Ag [(Vl (.int .i64 a0_0)), (Vl (.int .i64 a0_1)), (Vl (.int .i64 a0_2)), (Sl Kf a0_3), (Sl (Ki .i64) a0_4), (Sl (Kl (Ki .i64)) a0_5), (Sl KT27 a0_6)])] [] (fun x : Addr => (If 90 (Vl (.pointer (some x))))) (fun x => [⟨.pointer (some x), [(Vl (.int .i64 y1.1)), (Vl (.int .i64 y1.2.1)), (Sl Kf y1.2.2.1), (Vl (.int .i64 y1.2.2.2.1)), (Sl (Ki .i64) y1.2.2.2.2)], 158, none⟩])) (Hn := fun x : Addr => [⟨.pointer (some x), [(Vl (.int .i64 y1.1)), (Vl (.int .i64 y1.2.1)), (Sl Kf y1.2.2.1), (Vl (.int .i64 y1.2.2.2.1)), (Sl (Ki .i64) y1.2.2.2.2)], 158, none⟩, ⟨.pointer (some q5), [(Vl (.bool false))], 4, none⟩, ⟨.pointer (some q4), [(Vl (.int .i64 0)), (Vl (.int .i64 0)), (Vl (.int .i64 0)), (Vl (.slice none 0 0)), (Vl (.slice none 0 0)), (Vl (.slice none 0 0)), (Vl (.slice none 0 0))], 27, none⟩, ⟨.pointer (some q2), [(Vl (.int .i64 a0_0)), (Vl (.int .i64 a0_1)), (Vl (.int .i64 a0_2)), (Sl Kf a0_3), (Sl (Ki .i64) a0_4), (Sl (Kl (Ki .i64)) a0_5), (Sl KT27 a0_6)], 27, none⟩]) (fun _ => rfl) rfl rfl) (wt_none' rfl) fun q11 => ?_
    refine sx_rd' (rd_move' rfl) rfl rfl (wt_none' rfl) ?_
    obtain ⟨r13, hr13, hp⟩ := bind_some hp
    refine sx_ox' (ox_callg' (ent_fn' Try.func58 isn58 rfl rfl) (gogeom_SetSRID_v5_sim _ _ _ _ _ _ hr13 : Go.Sx.Fn Try.prog 58 [(If 90 (Vl (.pointer (some q11)))), (Vl (.int .i64 a1))] [⟨.pointer (some q11), [(Vl (.int .i64 y1.1)), (Vl (.int .i64 y1.2.1)), (Sl Kf y1.2.2.1), (Vl (.int .i64 y1.2.2.2.1)), (Sl (Ki .i64) y1.2.2.2.2)], 158, none⟩] (fun x : Unit => (Tu [(If 90 (Vl (.pointer (some q11)))), (Vl .nilIface)])) (fun x => [⟨.pointer (some q11), [(Vl (.int .i64 r13.1)), (Vl (.int .i64 r13.2.1)), (Sl Kf r13.2.2.1), (Vl (.int .i64 r13.2.2.2.1)), (Sl (Ki .i64) r13.2.2.2.2)], 158, none⟩])) [0] [1, 2, 3] (by decide) (pick_cons rfl pick_nil) (pick_cons rfl (pick_cons rfl (pick_cons rfl pick_nil))) (Hn := fun x : Unit => [⟨.pointer (some q11), [(Vl (.int .i64 r13.1)), (Vl (.int .i64 r13.2.1)), (Sl Kf r13.2.2.1), (Vl (.int .i64 r13.2.2.2.1)), (Sl (Ki .i64) r13.2.2.2.2)], 158, none⟩, ⟨.pointer (some q5), [(Vl (.bool false))], 4, none⟩, ⟨.pointer (some q4), [(Vl (.int .i64 0)), (Vl (.int .i64 0)), (Vl (.int .i64 0)), (Vl (.slice none 0 0)), (Vl (.slice none 0 0)), (Vl (.slice none 0 0)), (Vl (.slice none 0 0))], 27, none⟩, ⟨.pointer (some q2), [(Vl (.int .i64 a0_0)), (Vl (.int .i64 a0_1)), (Vl (.int .i64 a0_2)), (Sl Kf a0_3), (Sl (Ki .i64) a0_4), (Sl (Kl (Ki .i64)) a0_5), (Sl KT27 a0_6)], 27, none⟩]) (fun _ => rfl) rfl rfl) (wt_none' rfl) fun ⟨⟩ => ?_
    refine sx_rd' (rd_move' rfl) rfl rfl (wt_none' rfl) ?_
    refine sx_rd' (rd_extract' rfl rfl) rfl rfl (wt_none' rfl) ?_
    refine sx_rd' (rd_extract' rfl rfl) rfl rfl (wt_none' rfl) ?_
    refine sx_rd' (rd_assign' rfl) rfl rfl (wt_none' rfl) ?_
    refine sx_rd' (rd_assign' rfl) rfl rfl (wt_none' rfl) ?_
    refine sx_nil' ?_
    show TX E K3 _
    refine tx_k' hK3 ?_
    refine cx_seq' fun K4 hK4 => ?_
    refine cx_seq' fun K5 hK5 => ?_
    refine cx_region' ?_
    refine sx_rd' (rd_move' rfl) rfl rfl (wt_none' rfl) ?_
    refine sx_rd' (rd_binf' rfl rfl (bf_vl (fun _ => by kernel_rfl) nil_neq62_nilif)) rfl rfl (wt_none' rfl) ?_
    refine sx_nil' ?_
    show TX E K5 _
    refine tx_k' hK5 ?_
    refine cx_cond_f' rfl rfl ?_
    refine cx_skip' ?_
    show TX E K4 _
    refine tx_k' hK4 ?_
    refine cx_seq' fun K6 hK6 => ?_
    refine cx_region' ?_
    refine sx_rd' (rd_move' rfl) rfl rfl (wt_none' rfl) ?_
    obtain ⟨r20, hr20, hp⟩ := bind_some hp
    refine sx_ox' (ox_callg' (ent_fn' Try.func44 isn44 rfl rfl) (impl_plain_v5_sim _ _ _ _ _ hr20 : Go.Sx.Fn Try.prog 44 [(If 90 (Vl (.pointer (some q11))))] [⟨.pointer (some q11), [(Vl (.int .i64 r13.1)), (Vl (.int .i64 r13.2.1)), (Sl Kf r13.2.2.1), (Vl (.int .i64 r13.2.2.2.1)), (Sl (Ki .i64) r13.2.2.2.2)], 158, none⟩] (fun x : Unit => (Ag [(Vl (.int .i64 r20.2.2.2.2.2.1)), (Vl (.int .i64 r20.2.2.2.2.2.2.1)), (Vl (.int .i64 r20.2.2.2.2.2.2.2.1)), (Sl Kf r20.2.2.2.2.2.2.2.2.1), (Sl (Ki .i64) r20.2.2.2.2.2.2.2.2.2), (Vl (.slice none 0 0)), (Vl (.slice none 0 0))])) (fun x => [⟨.pointer (some q11), [(Vl (.int .i64 r20.1)), (Vl (.int .i64 r20.2.1)), (Sl Kf r20.2.2.1), (Vl (.int .i64 r20.2.2.2.1)), (Sl (Ki .i64) r20.2.2.2.2.1)], 158, none⟩])) [0] [1, 2, 3] (by decide) (pick_cons rfl pick_nil) (pick_cons rfl (pick_cons rfl (pick_cons rfl pick_nil))) (Hn := fun x : Unit => [⟨.pointer (some q11), [(Vl (.int .i64 r20.1)), (Vl (.int .i64 r20.2.1)), (Sl Kf r20.2.2.1), (Vl (.int .i64 r20.2.2.2.1)), (Sl (Ki .i64) r20.2.2.2.2.1)], 158, none⟩, ⟨.pointer (some q5), [(Vl (.bool false))], 4, none⟩, ⟨.pointer (some q4), [(Vl (.int .i64 0)), (Vl (.int .i64 0)), (Vl (.int .i64 0)), (Vl (.slice none 0 0)), (Vl (.slice none 0 0)), (Vl (.slice none 0 0)), (Vl (.slice none 0 0))], 27, none⟩, ⟨.pointer (some q2), [(Vl (.int .i64 a0_0)), (Vl (.int .i64 a0_1)), (Vl (.int .i64 a0_2)), (Sl Kf a0_3), (Sl (Ki .i64) a0_4), (Sl (Kl (Ki .i64)) a0_5), (Sl KT27 a0_6)], 27, none⟩]) (fun _ => rfl) rfl rfl) (wt_none' rfl) fun ⟨⟩ => ?_
    refine sx_ox' (ox_store' (i := 2) (o := 0) rfl rfl (lv_ag _) ⟨rfl, rfl, rfl, rfl⟩ rfl info27 rfl (H' := [⟨.pointer (some q11), [(Vl (.int .i64 r20.1)), (Vl (.int .i64 r20.2.1)), (Sl Kf r20.2.2.1), (Vl (.int .i64 r20.2.2.2.1)), (Sl (Ki .i64) r20.2.2.2.2.1)], 158, none⟩, ⟨.pointer (some q5), [(Vl (.bool false))], 4, none⟩, ⟨.pointer (some q4), [(Vl (.int .i64 r20.2.2.2.2.2.1)), (Vl (.int .i64 r20.2.2.2.2.2.2.1)), (Vl (.int .i64 r20.2.2.2.2.2.2.2.1)), (Sl Kf r20.2.2.2.2.2.2.2.2.1), (Sl (Ki .i64) r20.2.2.2.2.2.2.2.2.2), (Vl (.slice none 0 0)), (Vl (.slice none 0 0))], 27, none⟩, ⟨.pointer (some q2), [(Vl (.int .i64 a0_0)), (Vl (.int .i64 a0_1)), (Vl (.int .i64 a0_2)), (Sl Kf a0_3), (Sl (Ki .i64) a0_4), (Sl (Kl (Ki .i64)) a0_5), (Sl KT27 a0_6)], 27, none⟩]) rfl) (wt_none' rfl) fun _ => ?_
    refine sx_ox' (ox_store' (i := 1) (o := 0) rfl rfl (lv_vl rfl rfl) ⟨rfl, rfl, rfl, rfl⟩ rfl info4 rfl (H' := [⟨.pointer (some q11), [(Vl (.int .i64 r20.1)), (Vl (.int .i64 r20.2.1)), (Sl Kf r20.2.2.1), (Vl (.int .i64 r20.2.2.2.1)), (Sl (Ki .i64) r20.2.2.2.2.1)], 158, none⟩, ⟨.pointer (some q5), [(Vl (.bool true))], 4, none⟩, ⟨.pointer (some q4), [(Vl (.int .i64 r20.2.2.2.2.2.1)), (Vl (.int .i64 r20.2.2.2.2.2.2.1)), (Vl (.int .i64 r20.2.2.2.2.2.2.2.1)), (Sl Kf r20.2.2.2.2.2.2.2.2.1), (Sl (Ki .i64) r20.2.2.2.2.2.2.2.2.2), (Vl (.slice none 0 0)), (Vl (.slice none 0 0))], 27, none⟩, ⟨.pointer (some q2), [(Vl (.int .i64 a0_0)), (Vl (.int .i64 a0_1)), (Vl (.int .i64 a0_2)), (Sl Kf a0_3), (Sl (Ki .i64) a0_4), (Sl (Kl (Ki .i64)) a0_5), (Sl KT27 a0_6)], 27, none⟩]) rfl) (wt_none' rfl) fun _ => ?_
    refine sx_nil' ?_
    show TX E K6 _
    refine tx_k' hK6 ?_
    refine cx_retc' ?_
    replace hp := Option.some.inj hp
    subst hp
    refine tx_leave' (.inl rfl) rfl idle57 rfl Try.func57 isn57 rfl ?_
    refine tx_pick' (L' := [(4, (Vl (.pointer (some q4)))), (5, (Vl (.pointer (some q5))))]) (H' := [⟨.pointer (some q4), [(Vl (.int .i64 r20.2.2.2.2.2.1)), (Vl (.int .i64 r20.2.2.2.2.2.2.1)), (Vl (.int .i64 r20.2.2.2.2.2.2.2.1)), (Sl Kf r20.2.2.2.2.2.2.2.2.1), (Sl (Ki .i64) r20.2.2.2.2.2.2.2.2.2), (Vl (.slice none 0 0)), (Vl (.slice none 0 0))], 27, none⟩, ⟨.pointer (some q5), [(Vl (.bool true))], 4, none⟩]) [2, 1] (sub_cons rfl (sub_cons rfl sub_nil)) (by decide) (pick_cons rfl (pick_cons rfl pick_nil)) ?_
    exact tx_ret2' Try.results22 rfl () (rv_imp' (x := (Ag [(Vl (.int .i64 r20.2.2.2.2.2.1)), (Vl (.int .i64 r20.2.2.2.2.2.2.1)), (Vl (.int .i64 r20.2.2.2.2.2.2.2.1)), (Sl Kf r20.2.2.2.2.2.2.2.2.1), (Sl (Ki .i64) r20.2.2.2.2.2.2.2.2.2), (Vl (.slice none 0 0)), (Vl (.slice none 0 0))])) (y := (Ag [(Vl (.int .i64 r20.2.2.2.2.2.1)), (Vl (.int .i64 r20.2.2.2.2.2.2.1)), (Vl (.int .i64 r20.2.2.2.2.2.2.2.1)), (Sl Kf r20.2.2.2.2.2.2.2.2.1), (Sl (Ki .i64) r20.2.2.2.2.2.2.2.2.2), (Sl (Kl (Ki .i64)) []), (Vl (.slice none 0 0))])) (rv_cell_agg' (i := 0) (o := 0) (nn := 7) rfl ⟨rfl, rfl, rfl, rfl⟩ rfl agg27 rfl) (imp_ag ⟨imp_refl, imp_refl, imp_refl, imp_refl, imp_refl, imp_nil, imp_refl, trivial⟩)) (rv_cell' (i := 1) (o := 0) rfl ⟨rfl, rfl, rfl, rfl⟩ rfl flat4) rfl (List.nil_sublist _)
  · dsimp only at hp
    refine sx_ox' (ox_calln' (ent_fn' Try.func52 isn52 rfl rfl) (impl_geometry_sim _ _ _ _ _ _ _ hr11 : Go.Sx.Fn Try.prog 52 [(Ag [(Vl (.int .i64 a0_0)), (Vl (.int .i64 a0_1)), (Vl (.int .i64 a0_2)), (Sl Kf a0_3), (Sl (Ki .i64) a0_4), (Sl (Kl (Ki .i64)) a0_5), (Sl KT27 a0_6)])] [] (fun x : Addr => (If 92 (Vl (.pointer (some x))))) (fun x => [⟨.pointer (some x), [(Vl (.int .i64 y1.1)), (Vl (.int .i64 y1.2.1)), (Sl Kf y1.2.2.1), (Vl (.int .i64 y1.2.2.2.1)), (Sl (Ki .i64) y1.2.2.2.2)], 161, none⟩])) (Hn := fun x : Addr => [⟨.pointer (some x), [(Vl (.int .i64 y1.1)), (Vl (.int .i64 y1.2.1)), (Sl Kf y1.2.2.1), (Vl (.int .i64 y1.2.2.2.1)), (Sl (Ki .i64) y1.2.2.2.2)], 161, none⟩, ⟨.pointer (some q5), [(Vl (.bool false))], 4, none⟩, ⟨.pointer (some q4), [(Vl (.int .i64 0)), (Vl (.int .i64 0)), (Vl (.int .i64 0)), (Vl (.slice none 0 0)), (Vl (.slice none 0 0)), (Vl (.slice none 0 0)), (Vl (.slice none 0 0))], 27, none⟩, ⟨.pointer (some q2), [(Vl (.int .i64 a0_0)), (Vl (.int .i64 a0_1)), (Vl (.int .i64 a0_2)), (Sl Kf a0_3), (Sl (Ki .i64) a0_4), (Sl (Kl (Ki .i64)) a0_5), (Sl KT27 a0_6)], 27, none⟩]) (fun _ => rfl) rfl rfl) (wt_none' rfl) fun q11 => ?_
    refine sx_rd' (rd_move' rfl) rfl rfl (wt_none' rfl) ?_
    obtain ⟨r13, hr13, hp⟩ := bind_some hp
    refine sx_ox' (ox_callg' (ent_fn' Try.func58 isn58 rfl rfl) (gogeom_SetSRID_v6_sim _ _ _ _ _ _ hr13 : Go.Sx.Fn Try.prog 58 [(If 92 (Vl (.pointer (some q11)))), (Vl (.int .i64 a1))] [⟨.pointer (some q11), [(Vl (.int .i64 y1.1)), (Vl (.int .i64 y1.2.1)), (Sl Kf y1.2.2.1), (Vl (.int .i64 y1.2.2.2.1)), (Sl (Ki .i64) y1.2.2.2.2)], 161, none⟩] (fun x : Unit => (Tu [(If 92 (Vl (.pointer (some q11)))), (Vl .nilIface)])) (fun x => [⟨.pointer (some q11), [(Vl (.int .i64 r13.1)), (Vl (.int .i64 r13.2.1)), (Sl Kf r13.2.2.1), (Vl (.int .i64 r13.2.2.2.1)), (Sl (Ki .i64) r13.2.2.2.2)], 161, none⟩])) [0] [1, 2, 3] (by decide) (pick_cons rfl pick_nil) (pick_cons rfl (pick_cons rfl (pick_cons rfl pick_nil))) (Hn := fun x : Unit => [⟨.pointer (some q11), [(Vl (.int .i64 r13.1)), (Vl (.int .i64 r13.2.1)), (Sl Kf r13.2.2.1), (Vl (.int .i64 r13.2.2.2.1)), (Sl (Ki .i64) r13.2.2.2.2)], 161, none⟩, ⟨.pointer (some q5), [(Vl (.bool false))], 4, none⟩, ⟨.pointer (some q4), [(Vl (.int .i64 0)), (Vl (.int .i64 0)), (Vl (.int .i64 0)), (Vl (.slice none 0 0)), (Vl (.slice none 0 0)), (Vl (.slice none 0 0)), (Vl (.slice none 0 0))], 27, none⟩, ⟨.pointer (some q2), [(Vl (.int .i64 a0_0)), (Vl (.int .i64 a0_1)), (Vl (.int .i64 a0_2)), (Sl Kf a0_3), (Sl (Ki .i64) a0_4), (Sl (Kl (Ki .i64)) a0_5), (Sl KT27 a0_6)], 27, none⟩]) (fun _ => rfl) rfl rfl) (wt_none' rfl) fun ⟨⟩ => ?_
    refine sx_rd' (rd_move' rfl) rfl rfl (wt_none' rfl) ?_
    refine sx_rd' (rd_extract' rfl rfl) rfl rfl (wt_none' rfl) ?_
    refine sx_rd' (rd_extract' rfl rfl) rfl rfl (wt_none' rfl) ?_
    refine sx_rd' (rd_assign' rfl) rfl rfl (wt_none' rfl) ?_
    refine sx_rd' (rd_assign' rfl) rfl rfl (wt_none' rfl) ?_
    refine sx_nil' ?_
    show TX E K3 _
    refine tx_k' hK3 ?_
    refine cx_seq' fun K4 hK4 => ?_
    refine cx_seq' fun K5 hK5 => ?_
    refine cx_region' ?_
    refine sx_rd' (rd_move' rfl) rfl rfl (wt_none' rfl) ?_
    refine sx_rd' (rd_binf' rfl rfl (bf_vl (fun _ => by kernel_rfl) nil_neq62_nilif)) rfl rfl (wt_none' rfl) ?_
    refine sx_nil' ?_
    show TX E K5 _
    refine tx_k' hK5 ?_
    refine cx_cond_f' rfl rfl ?_
    refine cx_skip' ?_
    show TX E K4 _
    refine tx_k' hK4 ?_
    refine cx_seq' fun K6 hK6 => ?_
    refine cx_region' ?_
    refine sx_rd' (rd_move' rfl) rfl rfl (wt_none' rfl) ?_
    obtain ⟨r20, hr20, hp⟩ := bind_some hp
    refine sx_ox' (ox_callg' (ent_fn' Try.func44 isn44 rfl rfl) (impl_plain_v6_sim _ _ _ _ _ hr20 : Go.Sx.Fn Try.prog 44 [(If 92 (Vl (.pointer (some q11))))] [⟨.pointer (some q11), [(Vl (.int .i64 r13.1)), (Vl (.int .i64 r13.2.1)), (Sl Kf r13.2.2.1), (Vl (.int .i64 r13.2.2.2.1)), (Sl (Ki .i64) r13.2.2.2.2)], 161, none⟩] (fun x : Unit => (Ag [(Vl (.int .i64 r20.2.2.2.2.2.1)), (Vl (.int .i64 r20.2.2.2.2.2.2.1)), (Vl (.int .i64 r20.2.2.2.2.2.2.2.1)), (Sl Kf r20.2.2.2.2.2.2.2.2.1), (Sl (Ki .i64) r20.2.2.2.2.2.2.2.2.2), (Vl (.slice none 0 0)), (Vl (.slice none 0 0))])) (fun x => [⟨.pointer (some q11), [(Vl (.int .i64 r20.1)), (Vl (.int .i64 r20.2.1)), (Sl Kf r20.2.2.1), (Vl (.int .i64 r20.2.2.2.1)), (Sl (Ki .i64) r20.2.2.2.2.1)], 161, none⟩])) [0] [1, 2, 3] (by decide) (pick_cons rfl pick_nil) (pick_cons rfl (pick_cons rfl (pick_cons rfl pick_nil))) (Hn := fun x : Unit => [⟨.pointer (some q11), [(Vl (.int .i64 r20.1)), (Vl (.int .i64 r20.2.1)), (Sl Kf r20.2.2.1), (Vl (.int .i64 r20.2.2.2.1)), (Sl (Ki .i64) r20.2.2.2.2.1)], 161, none⟩, ⟨.pointer (some q5), [(Vl (.bool false))], 4, none⟩, ⟨.pointer (some q4), [(Vl (.int .i64 0)), (Vl (.int .i64 0)), (Vl (.int .i64 0)), (Vl (.slice none 0 0)), (Vl (.slice none 0 0)), (Vl (.slice none 0 0)), (Vl (.slice none 0 0))], 27, none⟩, ⟨.pointer (some q2), [(Vl (.int .i64 a0_0)), (Vl (.int .i64 a0_1)), (Vl (.int .i64 a0_2)), (Sl Kf a0_3), (Sl (Ki .i64) a0_4), (Sl (Kl (Ki .i64)) a0_5), (Sl KT27 a0_6)], 27, none⟩]) (fun _ => rfl) rfl rfl) (wt_none' rfl) fun ⟨⟩ => ?_
    refine sx_ox' (ox_store' (i := 2) (o := 0) rfl rfl (lv_ag _) ⟨rfl, rfl, rfl, rfl⟩ rfl info27 rfl (H' := [⟨.pointer (some q11), [(Vl (.int .i64 r20.1)), (Vl (.int .i64 r20.2.1)), (Sl Kf r20.2.2.1), (Vl (.int .i64 r20.2.2.2.1)), (Sl (Ki .i64) r20.2.2.2.2.1)], 161, none⟩, ⟨.pointer (some q5), [(Vl (.bool false))], 4, none⟩, ⟨.pointer (some q4), [(Vl (.int .i64 r20.2.2.2.2.2.1)), (Vl (.int .i64 r20.2.2.2.2.2.2.1)), (Vl (.int .i64 r20.2.2.2.2.2.2.2.1)), (Sl Kf r20.2.2.2.2.2.2.2.2.1), (Sl (Ki .i64) r20.2.2.2.2.2.2.2.2.2), (Vl (.slice none 0 0)), (Vl (.slice none 0 0))], 27, none⟩, ⟨.pointer (some q2), [(Vl (.int .i64 a0_0)), (Vl (.int .i64 a0_1)), (Vl (.int .i64 a0_2)), (Sl Kf a0_3), (Sl (Ki .i64) a0_4), (Sl (Kl (Ki .i64)) a0_5), (Sl KT27 a0_6)], 27, none⟩]) rfl) (wt_none' rfl) fun _ => ?_
    refine sx_ox' (ox_store' (i := 1) (o := 0) rfl rfl (lv_vl rfl rfl) ⟨rfl, rfl, rfl, rfl⟩ rfl info4 rfl (H' := [⟨.pointer (some q11), [(Vl (.int .i64 r20.1)), (Vl (.int .i64 r20.2.1)), (Sl Kf r20.2.2.1), (Vl (.int .i64 r20.2.2.2.1)), (Sl (Ki .i64) r20.2.2.2.2.1)], 161, none⟩, ⟨.pointer (some q5), [(Vl (.bool true))], 4, none⟩, ⟨.pointer (some q4), [(Vl (.int .i64 r20.2.2.2.2.2.1)), (Vl (.int .i64 r20.2.2.2.2.2.2.1)), (Vl (.int .i64 r20.2.2.2.2.2.2.2.1)), (Sl Kf r20.2.2.2.2.2.2.2.2.1), (Sl (Ki .i64) r20.2.2.2.2.2.2.2.2.2), (Vl (.slice none 0 0)), (Vl (.slice none 0 0))], 27, none⟩, ⟨.pointer (some q2), [(Vl (.int .i64 a0_0)), (Vl (.int .i64 a0_1)), (Vl (.int .i64 a0_2)), (Sl Kf a0_3), (Sl (Ki .i64) a0_4), (Sl (Kl (Ki .i64)) a0_5), (Sl KT27 a0_6)], 27, none⟩]) rfl) (wt_none' rfl) fun _ => ?_
    refine sx_nil' ?_
    show TX E K6 _
    refine tx_k' hK6 ?_
    refine cx_retc' ?_
    replace hp := Option.some.inj hp
    subst hp
    refine tx_leave' (.inl rfl) rfl idle57 rfl Try.func57 isn57 rfl ?_
    refine tx_pick' (L' := [(4, (Vl (.pointer (some q4)))), (5, (Vl (.pointer (some q5))))]) (H' := [⟨.pointer (some q4), [(Vl (.int .i64 r20.2.2.2.2.2.1)), (Vl (.int .i64 r20.2.2.2.2.2.2.1)), (Vl (.int .i64 r20.2.2.2.2.2.2.2.1)), (Sl Kf r20.2.2.2.2.2.2.2.2.1), (Sl (Ki .i64) r20.2.2.2.2.2.2.2.2.2), (Vl (.slice none 0 0)), (Vl (.slice none 0 0))], 27, none⟩, ⟨.pointer (some q5), [(Vl (.bool true))], 4, none⟩]) [2, 1] (sub_cons rfl (sub_cons rfl sub_nil)) (by decide) (pick_cons rfl (pick_cons rfl pick_nil)) ?_
    exact tx_ret2' Try.results22 rfl () (rv_imp' (x := (Ag [(Vl (.int .i64 r20.2.2.2.2.2.1)), (Vl (.int .i64 r20.2.2.2.2.2.2.1)), (Vl (.int .i64 r20.2.2.2.2.2.2.2.1)), (Sl Kf r20.2.2.2.2.2.2.2.2.1), (Sl (Ki .i64) r20.2.2.2.2.2.2.2.2.2), (Vl (.slice none 0 0)), (Vl (.slice none 0 0))])) (y := (Ag [(Vl (.int .i64 r20.2.2.2.2.2.1)), (Vl (.int .i64 r20.2.2.2.2.2.2.1)), (Vl (.int .i64 r20.2.2.2.2.2.2.2.1)), (Sl Kf r20.2.2.2.2.2.2.2.2.1), (Sl (Ki .i64) r20.2.2.2.2.2.2.2.2.2), (Sl (Kl (Ki .i64)) []), (Vl (.slice none 0 0))])) (rv_cell_agg' (i := 0) (o := 0) (nn := 7) rfl ⟨rfl, rfl, rfl, rfl⟩ rfl agg27 rfl) (imp_ag ⟨imp_refl, imp_refl, imp_refl, imp_refl, imp_refl, imp_nil, imp_refl, trivial⟩)) (rv_cell' (i := 1) (o := 0) rfl ⟨rfl, rfl, rfl, rfl⟩ rfl flat4) rfl (List.nil_sublist _)
  · dsimp only at hp
    refine sx_ox' (ox_calln' (ent_fn' Try.func52 isn52 rfl rfl) (impl_geometry_sim _ _ _ _ _ _ _ hr11 : Go.Sx.Fn Try.prog 52 [(Ag [(Vl (.int .i64 a0_0)), (Vl (.int .i64 a0_1)), (Vl (.int .i64 a0_2)), (Sl Kf a0_3), (Sl (Ki .i64) a0_4), (Sl (Kl (Ki .i64)) a0_5), (Sl KT27 a0_6)])] [] (fun x : Addr => (If 95 (Vl (.pointer (some x))))) (fun x => [⟨.pointer (some x), [(Vl (.int .i64 y1.1)), (Vl (.int .i64 y1.2.1)), (Sl Kf y1.2.2.1), (Vl (.int .i64 y1.2.2.2.1)), (Sl (Kl (Ki .i64)) y1.2.2.2.2)], 165, none⟩])) (Hn := fun x : Addr => [⟨.pointer (some x), [(Vl (.int .i64 y1.1)), (Vl (.int .i64 y1.2.1)), (Sl Kf y1.2.2.1), (Vl (.int .i64 y1.2.2.2.1)), (Sl (Kl (Ki .i64)) y1.2.2.2.2)], 165, none⟩, ⟨.pointer (some q5), [(Vl (.bool false))], 4, none⟩, ⟨.pointer (some q4), [(Vl (.int .i64 0)), (Vl (.int .i64 0)), (Vl (.int .i64 0)), (Vl (.slice none 0 0)), (Vl (.slice none 0 0)), (Vl (.slice none 0 0)), (Vl (.slice none 0 0))], 27, none⟩, ⟨.pointer (some q2), [(Vl (.int .i64 a0_0)), (Vl (.int .i64 a0_1)), (Vl (.int .i64 a0_2)), (Sl Kf a0_3), (Sl (Ki .i64) a0_4), (Sl (Kl (Ki .i64)) a0_5), (Sl KT27 a0_6)], 27, none⟩]) (fun _ => rfl) rfl rfl) (wt_none' rfl) fun q11 => ?_
    refine sx_rd' (rd_move' rfl) rfl rfl (wt_none' rfl) ?_
    obtain ⟨r13, hr13, hp⟩ := bind_some hp
    refine sx_ox' (ox_callg' (ent_fn' Try.func58 isn58 rfl rfl) (gogeom_SetSRID_v7_sim _ _ _ _ _ _ hr13 : Go.Sx.Fn Try.prog 58 [(If 95 (Vl (.pointer (some q11)))), (Vl (.int .i64 a1))] [⟨.pointer (some q11), [(Vl (.int .i64 y1.1)), (Vl (.int .i64 y1.2.1)), (Sl Kf y1.2.2.1), (Vl (.int .i64 y1.2.2.2.1)), (Sl (Kl (Ki .i64)) y1.2.2.2.2)], 165, none⟩] (fun x : Unit => (Tu [(If 95 (Vl (.pointer (some q11)))), (Vl .nilIface)])) (fun x => [⟨.pointer (some q11), [(Vl (.int .i64 r13.1)), (Vl (.int .i64 r13.2.1)), (Sl Kf r13.2.2.1), (Vl (.int .i64 r13.2.2.2.1)), (Sl (Kl (Ki .i64)) r13.2.2.2.2)], 165, none⟩])) [0] [1, 2, 3] (by decide) (pick_cons rfl pick_nil) (pick_cons rfl (pick_cons rfl (pick_cons rfl pick_nil))) (Hn := fun x : Unit => [⟨.pointer (some q11), [(Vl (.int .i64 r13.1)), (Vl (.int .i64 r13.2.1)), (Sl Kf r13.2.2.1), (Vl (.int .i64 r13.2.2.2.1)), (Sl (Kl (Ki .i64)) r13.2.2.2.2)], 165, none⟩, ⟨.pointer (some q5), [(Vl (.bool false))], 4, none⟩, ⟨.pointer (some q4), [(Vl (.int .i64 0)), (Vl (.int .i64 0)), (Vl (.int .i64 0)), (Vl (.slice none 0 0)), (Vl (.slice none 0 0)), (Vl (.slice none 0 0)), (Vl (.slice none 0 0))], 27, none⟩, ⟨.pointer (some q2), [(Vl (.int .i64 a0_0)), (Vl (.int .i64 a0_1)), (Vl (.int .i64 a0_2)), (Sl Kf a0_3), (Sl (Ki .i64) a0_4), (Sl (Kl (Ki .i64)) a0_5), (Sl KT27 a0_6)], 27, none⟩]) (fun _ => rfl) rfl rfl) (wt_none' rfl) fun ⟨⟩ => ?_
    refine sx_rd' (rd_move' rfl) rfl rfl (wt_none' rfl) ?_
    refine sx_rd' (rd_extract' rfl rfl) rfl rfl (wt_none' rfl) ?_
    refine sx_rd' (rd_extract' rfl rfl) rfl rfl (wt_none' rfl) ?_
    refine sx_rd' (rd_assign' rfl) rfl rfl (wt_none' rfl) ?_
    refine sx_rd' (rd_assign' rfl) rfl rfl (wt_none' rfl) ?_
    refine sx_nil' ?_
    show TX E K3 _
    refine tx_k' hK3 ?_
    refine cx_seq' fun K4 hK4 => ?_
    refine cx_seq' fun K5 hK5 => ?_
    refine cx_region' ?_
    refine sx_rd' (rd_move' rfl) rfl rfl (wt_none' rfl) ?_
    refine sx_rd' (rd_binf' rfl rfl (bf_vl (fun _ => by kernel_rfl) nil_neq62_nilif)) rfl rfl (wt_none' rfl) ?_
    refine sx_nil' ?_
    show TX E K5 _
    refine tx_k' hK5 ?_
    refine cx_cond_f' rfl rfl ?_
    refine cx_skip' ?_
    show TX E K4 _
    refine tx_k' hK4 ?_
    refine cx_seq' fun K6 hK6 => ?_
    refine cx_region' ?_
    refine sx_rd' (rd_move' rfl) rfl rfl (wt_none' rfl) ?_
    obtain ⟨r20, hr20, hp⟩ := bind_some hp
    refine sx_ox' (ox_callg' (ent_fn' Try.func44 isn44 rfl rfl) (impl_plain_v7_sim _ _ _ _ _ hr20 : Go.Sx.Fn Try.prog 44 [(If 95 (Vl (.pointer (some q11))))] [⟨.pointer (some q11), [(Vl (.int .i64 r13.1)), (Vl (.int .i64 r13.2.1)), (Sl Kf r13.2.2.1), (Vl (.int .i64 r13.2.2.2.1)), (Sl (Kl (Ki .i64)) r13.2.2.2.2)], 165, none⟩] (fun x : Unit => (Ag [(Vl (.int .i64 r20.2.2.2.2.2.1)), (Vl (.int .i64 r20.2.2.2.2.2.2.1)), (Vl (.int .i64 r20.2.2.2.2.2.2.2.1)), (Sl Kf r20.2.2.2.2.2.2.2.2.1), (Sl (Ki .i64) r20.2.2.2.2.2.2.2.2.2.1), (Sl (Kl (Ki .i64)) r20.2.2.2.2.2.2.2.2.2.2), (Vl (.slice none 0 0))])) (fun x => [⟨.pointer (some q11), [(Vl (.int .i64 r20.1)), (Vl (.int .i64 r20.2.1)), (Sl Kf r20.2.2.1), (Vl (.int .i64 r20.2.2.2.1)), (Sl (Kl (Ki .i64)) r20.2.2.2.2.1)], 165, none⟩])) [0] [1, 2, 3] (by decide) (pick_cons rfl pick_nil) (pick_cons rfl (pick_cons rfl (pick_cons rfl pick_nil))) (Hn := fun x : Unit => [⟨.pointer (some q11), [(Vl (.int .i64 r20.1)), (Vl (.int .i64 r20.2.1)), (Sl Kf r20.2.2.1), (Vl (.int .i64 r20.2.2.2.1)), (Sl (Kl (Ki .i64)) r20.2.2.2.2.1)], 165, none⟩, ⟨.pointer (some q5), [(Vl (.bool false))], 4, none⟩, ⟨.pointer (some q4), [(Vl (.int .i64 0)), (Vl (.int .i64 0)), (Vl (.int .i64 0)), (Vl (.slice none 0 0)), (Vl (.slice none 0 0)), (Vl (.slice none 0 0)), (Vl (.slice none 0 0))], 27, none⟩, ⟨.pointer (some q2), [(Vl (.int .i64 a0_0)), (Vl (.int .i64 a0_1)), (Vl (.int .i64 a0_2)), (Sl Kf a0_3), (Sl (Ki .i64) a0_4), (Sl (Kl (Ki .i64)) a0_5), (Sl KT27 a0_6)], 27, none⟩]) (fun _ => rfl) rfl rfl) (wt_none' rfl) fun ⟨⟩ => ?_
    refine sx_ox' (ox_store' (i := 2) (o := 0) rfl rfl (lv_ag _) ⟨rfl, rfl, rfl, rfl⟩ rfl info27 rfl (H' := [⟨.pointer (some q11), [(Vl (.int .i64 r20.1)), (Vl (.int .i64 r20.2.1)), (Sl Kf r20.2.2.1), (Vl (.int .i64 r20.2.2.2.1)), (Sl (Kl (Ki .i64)) r20.2.2.2.2.1)], 165, none⟩, ⟨.pointer (some q5), [(Vl (.bool false))], 4, none⟩, ⟨.pointer (some q4), [(Vl (.int .i64 r20.2.2.2.2.2.1)), (Vl (.int .i64 r20.2.2.2.2.2.2.1)), (Vl (.int .i64 r20.2.2.2.2.2.2.2.1)), (Sl Kf r20.2.2.2.2.2.2.2.2.1), (Sl (Ki .i64) r20.2.2.2.2.2.2.2.2.2.1), (Sl (Kl (Ki .i64)) r20.2.2.2.2.2.2.2.2.2.2), (Vl (.slice none 0 0))], 27, none⟩, ⟨.pointer (some q2), [(Vl (.int .i64 a0_0)), (Vl (.int .i64 a0_1)), (Vl (.int .i64 a0_2)), (Sl Kf a0_3), (Sl (Ki .i64) a0_4), (Sl (Kl (Ki .i64)) a0_5), (Sl KT27 a0_6)], 27, none⟩]) rfl) (wt_none' rfl) fun _ => ?_
    refine sx_ox' (ox_store' (i := 1) (o := 0) rfl rfl (lv_vl rfl rfl) ⟨rfl, rfl, rfl, rfl⟩ rfl info4 rfl (H' := [⟨.pointer (some q11), [(Vl (.int .i64 r20.1)), (Vl (.int .i64 r20.2.1)), (Sl Kf r20.2.2.1), (Vl (.int .i64 r20.2.2.2.1)), (Sl (Kl (Ki .i64)) r20.2.2.2.2.1)], 165, none⟩, ⟨.pointer (some q5), [(Vl (.bool true))], 4, none⟩, ⟨.pointer (some q4), [(Vl (.int .i64 r20.2.2.2.2.2.1)), (Vl (.int .i64 r20.2.2.2.2.2.2.1)), (Vl (.int .i64 r20.2.2.2.2.2.2.2.1)), (Sl Kf r20.2.2.2.2.2.2.2.2.1), (Sl (Ki .i64) r20.2.2.2.2.2.2.2.2.2.1), (Sl (Kl (Ki .i64)) r20.2.2.2.2.2.2.2.2.2.2), (Vl (.slice none 0 0))], 27, none⟩, ⟨.pointer (some q2), [(Vl (.int .i64 a0_0)), (Vl (.int .i64 a0_1)), (Vl (.int .i64 a0_2)), (Sl Kf a0_3), (Sl (Ki .i64) a0_4), (Sl (Kl (Ki .i64)) a0_5), (Sl KT27 a0_6)], 27, none⟩]) rfl) (wt_none' rfl) fun _ => ?_
    refine sx_nil' ?_
    show TX E K6 _
    refine tx_k' hK6 ?_
    refine cx_retc' ?_
    replace hp := Option.some.inj hp
    subst hp
    refine tx_leave' (.inl rfl) rfl idle57 rfl Try.func57 isn57 rfl ?_
    refine tx_pick' (L' := [(4, (Vl (.pointer (some q4)))), (5, (Vl (.pointer (some q5))))]) (H' := [⟨.pointer (some q4), [(Vl (.int .i64 r20.2.2.2.2.2.1)), (Vl (.int .i64 r20.2.2.2.2.2.2.1)), (Vl (.int .i64 r20.2.2.2.2.2.2.2.1)), (Sl Kf r20.2.2.2.2.2.2.2.2.1), (Sl (Ki .i64) r20.2.2.2.2.2.2.2.2.2.1), (Sl (Kl (Ki .i64)) r20.2.2.2.2.2.2.2.2.2.2), (Vl (.slice none 0 0))], 27, none⟩, ⟨.pointer (some q5), [(Vl (.bool true))], 4, none⟩]) [2, 1] (sub_cons rfl (sub_cons rfl sub_nil)) (by decide) (pick_cons rfl (pick_cons rfl pick_nil)) ?_
    exact tx_ret2' Try.results22 rfl () (rv_cell_agg' (i := 0) (o := 0) (nn := 7) rfl ⟨rfl, rfl, rfl, rfl⟩ rfl agg27 rfl) (rv_cell' (i := 1) (o := 0) rfl ⟨rfl, rfl, rfl, rfl⟩ rfl flat4) rfl (List.nil_sublist _)
  · dsimp only at hp
    refine sx_ox' (ox_calln' (ent_fn' Try.func52 isn52 rfl rfl) (impl_geometry_sim _ _ _ _ _ _ _ hr11 : Go.Sx.Fn Try.prog 52 [(Ag [(Vl (.int .i64 a0_0)), (Vl (.int .i64 a0_1)), (Vl (.int .i64 a0_2)), (Sl Kf a0_3), (Sl (Ki .i64) a0_4), (Sl (Kl (Ki .i64)) a0_5), (Sl KT27 a0_6)])] [] (fun x : Addr => (If 81 (Vl (.pointer (some x))))) (fun x => [⟨.pointer (some x), [(Vl (.int .i64 y1.1)), (Vl (.slice none 0 0)), (Vl (.int .i64 y1.2))], 145, none⟩])) (Hn := fun x : Addr => [⟨.pointer (some x), [(Vl (.int .i64 y1.1)), (Vl (.slice none 0 0)), (Vl (.int .i64 y1.2))], 145, none⟩, ⟨.pointer (some q5), [(Vl (.bool false))], 4, none⟩, ⟨.pointer (some q4), [(Vl (.int .i64 0)), (Vl (.int .i64 0)), (Vl (.int .i64 0)), (Vl (.slice none 0 0)), (Vl (.slice none 0 0)), (Vl (.slice none 0 0)), (Vl (.slice none 0 0))], 27, none⟩, ⟨.pointer (some q2), [(Vl (.int .i64 a0_0)), (Vl (.int .i64 a0_1)), (Vl (.int .i64 a0_2)), (Sl Kf a0_3), (Sl (Ki .i64) a0_4), (Sl (Kl (Ki .i64)) a0_5), (Sl KT27 a0_6)], 27, none⟩]) (fun _ => rfl) rfl rfl) (wt_none' rfl) fun q11 => ?_
    refine sx_rd' (rd_move' rfl) rfl rfl (wt_none' rfl) ?_
    obtain ⟨r13, hr13, hp⟩ := bind_some hp
    refine sx_ox' (ox_callg' (ent_fn' Try.func58 isn58 rfl rfl) (gogeom_SetSRID_v8_sim _ _ _ hr13 : Go.Sx.Fn Try.prog 58 [(If 81 (Vl (.pointer (some q11)))), (Vl (.int .i64 a1))] [⟨.pointer (some q11), [(Vl (.int .i64 y1.1)), (Vl (.slice none 0 0)), (Vl (.int .i64 y1.2))], 145, none⟩] (fun x : Unit => (Tu [(If 81 (Vl (.pointer (some q11)))), (Vl .nilIface)])) (fun x => [⟨.pointer (some q11), [(Vl (.int .i64 r13.1)), (Vl (.slice none 0 0)), (Vl (.int .i64 r13.2))], 145, none⟩])) [0] [1, 2, 3] (by decide) (pick_cons rfl pick_nil) (pick_cons rfl (pick_cons rfl (pick_cons rfl pick_nil))) (Hn := fun x : Unit => [⟨.pointer (some q11), [(Vl (.int .i64 r13.1)), (Vl (.slice none 0 0)), (Vl (.int .i64 r13.2))], 145, none⟩, ⟨.pointer (some q5), [(Vl (.bool false))], 4, none⟩, ⟨.pointer (some q4), [(Vl (.int .i64 0)), (Vl (.int .i64 0)), (Vl (.int .i64 0)), (Vl (.slice none 0 0)), (Vl (.slice none 0 0)), (Vl (.slice none 0 0)), (Vl (.slice none 0 0))], 27, none⟩, ⟨.pointer (some q2), [(Vl (.int .i64 a0_0)), (Vl (.int .i64 a0_1)), (Vl (.int .i64 a0_2)), (Sl Kf a0_3), (Sl (Ki .i64) a0_4), (Sl (Kl (Ki .i64)) a0_5), (Sl KT27 a0_6)], 27, none⟩]) (fun _ => rfl) rfl rfl) (wt_none' rfl) fun ⟨⟩ => ?_
    refine sx_rd' (rd_move' rfl) rfl rfl (wt_none' rfl) ?_
    refine sx_rd' (rd_extract' rfl rfl) rfl rfl (wt_none' rfl) ?_
    refine sx_rd' (rd_extract' rfl rfl) rfl rfl (wt_none' rfl) ?_
    refine sx_rd' (rd_assign' rfl) rfl rfl (wt_none' rfl) ?_
    refine sx_rd' (rd_assign' rfl) rfl rfl (wt_none' rfl) ?_
    refine sx_nil' ?_
    show TX E K3 _
    refine tx_k' hK3 ?_
    refine cx_seq' fun K4 hK4 => ?_
    refine cx_seq' fun K5 hK5 => ?_
    refine cx_region' ?_
    refine sx_rd' (rd_move' rfl) rfl rfl (wt_none' rfl) ?_
    refine sx_rd' (rd_binf' rfl rfl (bf_vl (fun _ => by kernel_rfl) nil_neq62_nilif)) rfl rfl (wt_none' rfl) ?_
    refine sx_nil' ?_
    show TX E K5 _
    refine tx_k' hK5 ?_
    refine cx_cond_f' rfl rfl ?_
    refine cx_skip' ?_
    show TX E K4 _
    refine tx_k' hK4 ?_
    refine cx_seq' fun K6 hK6 => ?_
    refine cx_region' ?_
    refine sx_rd' (rd_move' rfl) rfl rfl (wt_none' rfl) ?_
    obtain ⟨r20, hr20, hp⟩ := bind_some hp
    refine sx_ox' (ox_callg' (ent_fn' Try.func44 isn44 rfl rfl) (impl_plain_v8_sim _ _ hr20 : Go.Sx.Fn Try.prog 44 [(If 81 (Vl (.pointer (some q11))))] [⟨.pointer (some q11), [(Vl (.int .i64 r13.1)), (Vl (.slice none 0 0)), (Vl (.int .i64 r13.2))], 145, none⟩] (fun x : Unit => (Ag [(Vl (.int .i64 r20.2.2.1)), (Vl (.int .i64 r20.2.2.2.1)), (Vl (.int .i64 r20.2.2.2.2)), (Vl (.slice none 0 0)), (Vl (.slice none 0 0)), (Vl (.slice none 0 0)), (Vl (.slice none 0 0))])) (fun x => [⟨.pointer (some q11), [(Vl (.int .i64 r20.1)), (Vl (.slice none 0 0)), (Vl (.int .i64 r20.2.1))], 145, none⟩])) [0] [1, 2, 3] (by decide) (pick_cons rfl pick_nil) (pick_cons rfl (pick_cons rfl (pick_cons rfl pick_nil))) (Hn := fun x : Unit => [⟨.pointer (some q11), [(Vl (.int .i64 r20.1)), (Vl (.slice none 0 0)), (Vl (.int .i64 r20.2.1))], 145, none⟩, ⟨.pointer (some q5), [(Vl (.bool false))], 4, none⟩, ⟨.pointer (some q4), [(Vl (.int .i64 0)), (Vl (.int .i64 0)), (Vl (.int .i64 0)), (Vl (.slice none 0 0)), (Vl (.slice none 0 0)), (Vl (.slice none 0 0)), (Vl (.slice none 0 0))], 27, none⟩, ⟨.pointer (some q2), [(Vl (.int .i64 a0_0)), (Vl (.int .i64 a0_1)), (Vl (.int .i64 a0_2)), (Sl Kf a0_3), (Sl (Ki .i64) a0_4), (Sl (Kl (Ki .i64)) a0_5), (Sl KT27 a0_6)], 27, none⟩]) (fun _ => rfl) rfl rfl) (wt_none' rfl) fun ⟨⟩ => ?_
    refine sx_ox' (ox_store' (i := 2) (o := 0) rfl rfl (lv_ag _) ⟨rfl, rfl, rfl, rfl⟩ rfl info27 rfl (H' := [⟨.pointer (some q11), [(Vl (.int .i64 r20.1)), (Vl (.slice none 0 0)), (Vl (.int .i64 r20.2.1))], 145, none⟩, ⟨.pointer (some q5), [(Vl (.bool false))], 4, none⟩, ⟨.pointer (some q4), [(Vl (.int .i64 r20.2.2.1)), (Vl (.int .i64 r20.2.2.2.1)), (Vl (.int .i64 r20.2.2.2.2)), (Vl (.slice none 0 0)), (Vl (.slice none 0 0)), (Vl (.slice none 0 0)), (Vl (.slice none 0 0))], 27, none⟩, ⟨.pointer (some q2), [(Vl (.int .i64 a0_0)), (Vl (.int .i64 a0_1)), (Vl (.int .i64 a0_2)), (Sl Kf a0_3), (Sl (Ki .i64) a0_4), (Sl (Kl (Ki .i64)) a0_5), (Sl KT27 a0_6)], 27, none⟩]) rfl) (wt_none' rfl) fun _ => ?_
    refine sx_ox' (ox_store' (i := 1) (o := 0) rfl rfl (lv_vl rfl rfl) ⟨rfl, rfl, rfl, rfl⟩ rfl info4 rfl (H' := [⟨.pointer (some q11), [(Vl (.int .i64 r20.1)), (Vl (.slice none 0 0)), (Vl (.int .i64 r20.2.1))], 145, none⟩, ⟨.pointer (some q5), [(Vl (.bool true))], 4, none⟩, ⟨.pointer (some q4), [(Vl (.int .i64 r20.2.2.1)), (Vl (.int .i64 r20.2.2.2.1)), (Vl (.int .i64 r20.2.2.2.2)), (Vl (.slice none 0 0)), (Vl (.slice none 0 0)), (Vl (.slice none 0 0)), (Vl (.slice none 0 0))], 27, none⟩, ⟨.pointer (some q2), [(Vl (.int .i64 a0_0)), (Vl (.int .i64 a0_1)), (Vl (.int .i64 a0_2)), (Sl Kf a0_3), (Sl (Ki .i64) a0_4), (Sl (Kl (Ki .i64)) a0_5), (Sl KT27 a0_6)], 27, none⟩]) rfl) (wt_none' rfl) fun _ => ?_
    refine sx_nil' ?_
    show TX E K6 _
    refine tx_k' hK6 ?_
    refine cx_retc' ?_
    replace hp := Option.some.inj hp
    subst hp
    refine tx_leave' (.inl rfl) rfl idle57 rfl Try.func57 isn57 rfl ?_
    refine tx_pick' (L' := [(4, (Vl (.pointer (some q4)))), (5, (Vl (.pointer (some q5))))]) (H' := [⟨.pointer (some q4), [(Vl (.int .i64 r20.2.2.1)), (Vl (.int .i64 r20.2.2.2.1)), (Vl (.int .i64 r20.2.2.2.2)), (Vl (.slice none 0 0)), (Vl (.slice none 0 0)), (Vl (.slice none 0 0)), (Vl (.slice none 0 0))], 27, none⟩, ⟨.pointer (some q5), [(Vl (.bool true))], 4, none⟩]) [2, 1] (sub_cons rfl (sub_cons rfl sub_nil)) (by decide) (pick_cons rfl (pick_cons rfl pick_nil)) ?_
    exact tx_ret2' Try.results22 rfl () (rv_imp' (x := (Ag [(Vl (.int .i64 r20.2.2.1)), (Vl (.int .i64 r20.2.2.2.1)), (Vl (.int .i64 r20.2.2.2.2)), (Vl (.slice none 0 0)), (Vl (.slice none 0 0)), (Vl (.slice none 0 0)), (Vl (.slice none 0 0))])) (y := (Ag [(Vl (.int .i64 r20.2.2.1)), (Vl (.int .i64 r20.2.2.2.1)), (Vl (.int .i64 r20.2.2.2.2)), (Sl Kf []), (Sl (Ki .i64) []), (Sl (Kl (Ki .i64)) []), (Vl (.slice none 0 0))])) (rv_cell_agg' (i := 0) (o := 0) (nn := 7) rfl ⟨rfl, rfl, rfl, rfl⟩ rfl agg27 rfl) (imp_ag ⟨imp_refl, imp_refl, imp_refl, imp_nil, imp_nil, imp_nil, imp_refl, trivial⟩)) (rv_cell' (i := 1) (o := 0) rfl ⟨rfl, rfl, rfl, rfl⟩ rfl flat4) rfl (List.nil_sublist _)

def spec_SameFloats_l1s (a0 : List Nat) (a1 : List Nat) (k : Nat) (rec1 : Int → Option (Unit ⊕ Unit)) (x1 : Int) : Option (Unit ⊕ Unit) :=
  br (decide (x1 < (a0.length : Int)))
    ((idx a0 x1) >>= fun r17 =>
    (idx a1 x1) >>= fun r23 =>
    br (!decide ((fbits r17) = (fbits r23)))
      (some (.inl ()))
      (rec1 (iadd .i64 x1 1)))
    (some (.inr ()))
def spec_SameFloats_l1 (a0 : List Nat) (a1 : List Nat) : Nat → Int → Option (Unit ⊕ Unit)
  | 0, _ => none
  | k + 1, v => spec_SameFloats_l1s a0 a1 k (spec_SameFloats_l1 a0 a1 k) v
def spec_SameFloats (k : Nat) (a0 : List Nat) (a1 : List Nat) : Option (Bool) :=
  br (!decide ((a0.length : Int) = (a1.length : Int)))
    (some false)
    ((spec_SameFloats_l1 a0 a1 k 0) >>= fun y1 => match y1 with
      | (.inl v2) =>
        (some false)
      | (.inr v3) =>
        (some true))

theorem spec_SameFloats_sim {k : Nat}  (a0 : List Nat) (a1 : List Nat) {out : Bool} (hp : spec_SameFloats k a0 a1 = some out) : Go.Sx.Fn Try.prog 45 [(Sl Kf a0), (Sl Kf a1)] [] (fun w : Unit => (Vl (.bool out))) (fun w => []) := by
  unfold spec_SameFloats at hp
  refine fn_of Try.func45 rfl Try.ntmps45 rfl fun E hM => ?_
  refine cx_seq' fun K1 hK1 => ?_
  refine cx_region' ?_
  refine sx_rd' (rd_assign' rfl) rfl rfl (wt_none' rfl) ?_
  refine sx_nil' ?_
  show TX E K1 _
  refine tx_k' hK1 ?_
  refine cx_seq' fun K2 hK2 => ?_
  refine cx_seq' fun K3 hK3 => ?_
  refine cx_region' ?_
  refine sx_rd' (rd_move' rfl) rfl rfl (wt_none' rfl) ?_
  refine sx_rd' (rd_len' rfl Try.underlying22) rfl rfl (wt_none' rfl) ?_
  refine sx_rd' (rd_move' rfl) rfl rfl (wt_none' rfl) ?_
  refine sx_rd' (rd_len' rfl Try.underlying22) rfl rfl (wt_none' rfl) ?_
  refine sx_rd' (rd_bin' rfl rfl eg_int ru_neq) rfl rfl (wt_none' rfl) ?_
  refine sx_nil' ?_
  show TX E K3 _
  refine tx_k' hK3 ?_
  refine cx_cond' rfl (fun h1 => ?_) (fun h1 => ?_)
  · replace hp := (br_t h1).symm.trans hp
    refine cx_seq' fun K4 hK4 => ?_
    refine cx_region' ?_
    refine sx_rd' (rd_assign' rfl) rfl rfl (wt_none' rfl) ?_
    refine sx_nil' ?_
    show TX E K4 _
    refine tx_k' hK4 ?_
    refine cx_retc' ?_
    replace hp := Option.some.inj hp
    subst hp
    refine tx_pick' (L' := [(4, (Vl (.bool false)))]) (H' := []) [] (sub_cons rfl sub_nil) (by decide) pick_nil ?_
    exact tx_ret1' Try.results45 rfl () (rv_tmp' rfl) (List.Sublist.refl _)
  · replace hp := (br_f h1).symm.trans hp
    refine cx_skip' ?_
    show TX E K2 _
    refine tx_k' hK2 ?_
    refine cx_seq' fun K5 hK5 => ?_
    refine cx_seq' fun K6 hK6 => ?_
    refine cx_region' ?_
    refine sx_rd' (rd_move' rfl) rfl rfl (wt_none' rfl) ?_
    refine sx_rd' (rd_len' rfl Try.underlying22) rfl rfl (wt_none' rfl) ?_
    refine sx_rd' (rd_move' rfl) rfl rfl (wt_none' rfl) ?_
    refine sx_nil' ?_
    show TX E K6 _
    refine tx_k' hK6 ?_
    refine cx_block' ?_
    obtain ⟨y1, hy1, hp⟩ := bind_some hp
    refine cx_loopg' (F := spec_SameFloats_l1 a0 a1) (G := fun k R v => spec_SameFloats_l1s a0 a1 k R v) (x := 0) (gh := ()) (fun (v1 : Int) (w1 : Unit) => (⟨28, [], [(1, (Sl Kf a1)), (12, (Sl Kf a0)), (13, (Vl (.int .i64 (a0.length : Int)))), (14, (Vl (.int .i64 v1)))], []⟩ : St)) (fun (y : Unit ⊕ Unit) => match y with | (.inl v2) => Zg E Exit.ret (fun (w2 : Unit) => (⟨28, [], [(4, (Vl (.bool false)))], []⟩ : St)) | (.inr v3) => Zg E (Exit.exit 0) (fun (w3 : Unit) => (⟨28, [], [], []⟩ : St))) (fun _ => rfl) (fun _ _ => rfl) ?_ hy1 (tx_to' rfl [] (sub_cons rfl (sub_cons rfl (sub_cons rfl (sub_cons rfl sub_nil)))) (by decide) pick_nil) ?_
    · clear hp hy1
      clear y1
      intro k rec1 KY1 ih1
      rintro x1 ⟨⟩ y1 hp
      replace hp : spec_SameFloats_l1s a0 a1 k rec1 x1 = some y1 := hp
      unfold spec_SameFloats_l1s at hp
      refine cx_seq' fun K13 hK13 => ?_
      refine cx_region' ?_
      refine sx_rd' (rd_bin' rfl rfl eg_int ru_lss) rfl rfl (wt_none' rfl) ?_
      refine sx_nil' ?_
      show TX E K13 _
      refine tx_k' hK13 ?_
      refine cx_seq' fun K14 hK14 => ?_
      refine cx_cond' rfl (fun h5 => ?_) (fun h5 => ?_)
      · replace hp := (br_t h5).symm.trans hp
        refine cx_skip' ?_
        show TX E K14 _
        refine tx_k' hK14 ?_
        refine cx_seq' fun K15 hK15 => ?_
        refine cx_block' ?_
        refine cx_seq' fun K16 hK16 => ?_
        refine cx_region' ?_
        refine sx_rd' (rd_move' rfl) rfl rfl (wt_none' rfl) ?_
        obtain ⟨r17, hr17, hp⟩ := bind_some hp
        refine sx_rd' (rd_at' (K := Kf) rfl rfl hr17 Try.underlying22 info30) rfl rfl (wt_none' rfl) ?_
        refine sx_rd' (rd_load_pt' rfl rfl flat30) rfl rfl (wt_none' rfl) ?_
        refine sx_rd' (rd_assign' rfl) rfl rfl (wt_none' rfl) ?_
        refine sx_rd' (rd_assign' rfl) rfl rfl (wt_none' rfl) ?_
        refine sx_nil' ?_
        show TX E K16 _
        refine tx_k' hK16 ?_
        refine cx_seq' fun K17 hK17 => ?_
        refine cx_draw' mixed (by kernel_rfl) ?_
        refine qx_rd' (rd_move' rfl) rfl rfl (wt_none' rfl) ?_
        refine qx_rd' (rd_ext' (us := [.float .f64 r17]) rfl (ext72 ex_bits)) rfl rfl (wt_none' rfl) ?_
        refine qx_rd' (rd_move' rfl) rfl rfl (wt_none' rfl) ?_
        refine qx_rd' (rd_move' rfl) rfl rfl (wt_none' rfl) ?_
        obtain ⟨r23, hr23, hp⟩ := bind_some hp
        refine qx_rd' (rd_at' (K := Kf) rfl rfl hr23 Try.underlying22 info30) rfl rfl (wt_none' rfl) ?_
        refine qx_rd' (rd_load_pt' rfl rfl flat30) rfl rfl (wt_none' rfl) ?_
        refine qx_rd' (rd_ext' (us := [.float .f64 r23]) rfl (ext72 ex_bits)) rfl rfl (wt_none' rfl) ?_
        refine qx_rd' (rd_bin' rfl rfl eg_int ru_neq) rfl rfl (wt_none' rfl) ?_
        refine qx_nil' ?_
        show TX E K17 _
        refine tx_k' hK17 ?_
        refine cx_cond' rfl (fun h6 => ?_) (fun h6 => ?_)
        · replace hp := (br_t h6).symm.trans hp
          refine cx_seq' fun K18 hK18 => ?_
          refine cx_region' ?_
          refine sx_rd' (rd_assign' rfl) rfl rfl (wt_none' rfl) ?_
          refine sx_nil' ?_
          show TX E K18 _
          refine tx_k' hK18 ?_
          refine cx_retc' ?_
          replace hp := Option.some.inj hp
          subst hp
          show TX E (Zg E Exit.ret _ Exit.ret) _
          exact tx_zend' () rfl [] (sub_cons rfl sub_nil) (by decide) pick_nil
        · replace hp := (br_f h6).symm.trans hp
          refine cx_skip' ?_
          show TX E K15 _
          refine tx_k' hK15 ?_
          refine cx_region' ?_
          refine sx_rd' (rd_bin' rfl rfl eg_int ru_add) rfl rfl (wt_none' rfl) ?_
          refine sx_rd' (rd_move' rfl) rfl rfl (wt_none' rfl) ?_
          refine sx_nil' ?_
          show TX E (KY1 _) _
          exact tx_pick' [] (sub_cons rfl (sub_cons rfl (sub_cons rfl (sub_cons rfl sub_nil)))) (by decide) pick_nil (ih1 (iadd .i64 x1 1) () _ hp)
      · replace hp := (br_f h5).symm.trans hp
        refine cx_exit' ?_
        replace hp := Option.some.inj hp
        subst hp
        show TX E (Zg E (Exit.exit 0) _ (Exit.exit 0)) _
        exact tx_zend' () rfl [] sub_nil (by decide) pick_nil
    · rcases y1 with v2 | v3
      · dsimp only at hp
        refine zg_out fun w2 => ?_
        replace hp := Option.some.inj hp
        subst hp
        refine tx_pick' (L' := [(4, (Vl (.bool false)))]) (H' := []) [] (sub_cons rfl sub_nil) (by decide) pick_nil ?_
        exact tx_ret1' Try.results45 rfl () (rv_tmp' rfl) (List.Sublist.refl _)
      · dsimp only at hp
        refine zg_out fun w3 => ?_
        show TX E K5 _
        refine tx_k' hK5 ?_
        refine cx_seq' fun K19 hK19 => ?_
        refine cx_region' ?_
        refine sx_rd' (rd_assign' rfl) rfl rfl (wt_none' rfl) ?_
        refine sx_nil' ?_
        show TX E K19 _
        refine tx_k' hK19 ?_
        refine cx_retc' ?_
        replace hp := Option.some.inj hp
        subst hp
        refine tx_pick' (L' := [(4, (Vl (.bool true)))]) (H' := []) [] (sub_cons rfl sub_nil) (by decide) pick_nil ?_
        exact tx_ret1' Try.results45 rfl () (rv_tmp' rfl) (List.Sublist.refl _)

end Go.Proofs.Ytohopkpjccpckaa
