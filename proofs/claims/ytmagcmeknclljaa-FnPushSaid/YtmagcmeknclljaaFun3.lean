/-
  Plain functions for the Go functions that this law reaches, and that each call does what its plain function says. Printed by a program of ours.
-/
import Derived.Test.YtmagcmeknclljaaProg
import Derived.Test.YtmagcmeknclljaaSxX
import Derived.Test.YtmagcmeknclljaaFun2
namespace Go.Proofs.Ytmagcmeknclljaa
open Go.Sx
set_option linter.unusedVariables false
set_option linter.unusedSimpArgs false
set_option maxRecDepth 100000

def gogeom_geom0_Endss (k : Nat) (a0_0 a0_1 : Int) (a0_2 : List Nat) (a0_3 : Int) (a0_4 : List Int) : Option (Int × Int × (List Nat) × Int × (List Int)) :=
 some (a0_0, a0_1, a0_2, a0_3, a0_4)

theorem gogeom_geom0_Endss_sim {k : Nat} {wa0 : Addr} {wa0_2 wa0_4 : Gs} (a0_0 a0_1 : Int) (a0_2 : List Nat) (a0_3 : Int) (a0_4 : List Int) {out : Int × Int × (List Nat) × Int × (List Int)} (hp : gogeom_geom0_Endss k a0_0 a0_1 a0_2 a0_3 a0_4 = some out) : Sx.Fn Try.prog 132 [(Vp wa0)] [(Ur wa0 132 (C2 a0_0 a0_1 wa0_2 a0_3 wa0_4)), (Rg Kf 32 wa0_2 a0_2), (Rg (Ki .i64) 3 wa0_4 a0_4)] (fun w : Unit => Vn) (fun w => [(Ur wa0 132 (C2 out.1 out.2.1 wa0_2 out.2.2.2.1 wa0_4)), (Rg Kf 32 wa0_2 out.2.2.1), (Rg (Ki .i64) 3 wa0_4 out.2.2.2.2)]) := by
 unfold gogeom_geom0_Endss at hp
 refine fn_of Try.func132 rfl Try.ntmps132 rfl fun E hM => ?_
 refine cr fun K1 hK1 => ?_
 refine sa rfl ?_
 refine nk hK1 ?_
 refine cr fun K2 hK2 => ?_
 refine sa rfl ?_
 refine nk hK2 ?_
 refine cx_retc' ?_
 replace hp := sj hp
 subst hp
 refine tk (L' := [(2, Vn)]) (H' := [(Ur wa0 132 (C2 a0_0 a0_1 wa0_2 a0_3 wa0_4)), (Rg Kf 32 wa0_2 a0_2), (Rg (Ki .i64) 3 wa0_4 a0_4)]) [0, 1, 2] (uc rfl un) (p3 rfl rfl rfl) ?_
 exact tx_ret1' Try.results132 rfl () (rv_tmp' rfl) lr

def impl_intss_v2 (k : Nat)  : Option (Unit) :=
 some ()

theorem impl_intss_v2_sim {k : Nat}   {out : Unit} (hp : impl_intss_v2 k = some out) : Sx.Fn Try.prog 29 [Vn] [] (fun w : Unit => Vn) (fun w => []) := by
 unfold impl_intss_v2 at hp
 refine fn_of Try.func29 rfl Try.ntmps29 rfl fun E hM => ?_
 refine cr fun K1 hK1 => ?_
 refine sa rfl ?_
 refine nk hK1 ?_
 refine cr fun K2 hK2 => ?_
 refine sa rfl ?_
 refine nk hK2 ?_
 refine cx_seq' fun K3 hK3 => ?_
 refine cr fun K4 hK4 => ?_
 refine sm rfl ?_
 refine s0 (rd_lenv' rfl Try.underlying24) ?_
 refine sm rfl ?_
 refine nk hK4 ?_
 refine cx_block' ?_
 refine tx_loop' ?_
 refine tx_round' ?_
 refine cr fun K5 hK5 => ?_
 refine sb rfl rfl eg_int ru_lss ?_
 refine nk hK5 ?_
 refine cx_seq' fun K6 hK6 => ?_
 refine cx_cond_f' rfl rfl ?_
 refine cx_exit' ?_
 show TX E K3 _
 refine tx_k' hK3 ?_
 refine cr fun K7 hK7 => ?_
 refine sm rfl ?_
 refine sa rfl ?_
 refine nk hK7 ?_
 refine cx_retc' ?_
 replace hp := sj hp
 subst hp
 refine tk (L' := [(2, Vn)]) (H' := []) [] (uc rfl un) pn ?_
 exact tx_ret1' Try.results29 rfl () (rv_tmp' rfl) lr

def impl_plain (k : Nat) (a0_0 a0_1 : Int) (a0_2 : List Nat) (a0_3 : Int) (a0_4 : List Int) : Option (Int × Int × (List Nat) × Int × (List Int) × Int × Int × Int × (List Nat) × (List Int)) :=
 (gogeom_geom0_SRID k a0_0 a0_1 a0_2 a0_3 a0_4) >>= fun r15 =>
 (gogeom_geom0_Layout_v4 k r15.1 r15.2.1 r15.2.2.1 r15.2.2.2.1 r15.2.2.2.2) >>= fun r70 =>
 (gogeom_geom0_FlatCoords k r70.1 r70.2.1 r70.2.2.1 r70.2.2.2.1 r70.2.2.2.2) >>= fun r72 =>
 (impl_floats_v2 k r72.2.2.1) >>= fun r73 =>
 (gogeom_geom2_Ends k r72.1 r72.2.1 r73.1 r72.2.2.2.1 r72.2.2.2.2) >>= fun r75 =>
 (impl_ints_v2 k r75.2.2.2.2) >>= fun r76 =>
 (gogeom_geom0_Endss k r75.1 r75.2.1 r75.2.2.1 r75.2.2.2.1 r76.1) >>= fun r78 =>
 (impl_intss_v2 k) >>= fun r79 =>
 some (r78.1, r78.2.1, r78.2.2.1, r78.2.2.2.1, r78.2.2.2.2, 3, r70.1, r15.2.2.2.1, r73.2, r76.2)

theorem impl_plain_sim {k : Nat} {wa0 : Addr} {wa0_2 wa0_4 : Gs} (a0_0 a0_1 : Int) (a0_2 : List Nat) (a0_3 : Int) (a0_4 : List Int) {out : Int × Int × (List Nat) × Int × (List Int) × Int × Int × Int × (List Nat) × (List Int)} (hp : impl_plain k a0_0 a0_1 a0_2 a0_3 a0_4 = some out) : Sx.Fn Try.prog 34 [(If 67 (Vp wa0))] [(Ur wa0 132 (C2 a0_0 a0_1 wa0_2 a0_3 wa0_4)), (Rg Kf 32 wa0_2 a0_2), (Rg (Ki .i64) 3 wa0_4 a0_4)] (fun w : Unit => (Ag (C5 out.2.2.2.2.2.1 out.2.2.2.2.2.2.1 out.2.2.2.2.2.2.2.1 out.2.2.2.2.2.2.2.2.1 out.2.2.2.2.2.2.2.2.2))) (fun w => [(Ur wa0 132 (C2 out.1 out.2.1 wa0_2 out.2.2.2.1 wa0_4)), (Rg Kf 32 wa0_2 out.2.2.1), (Rg (Ki .i64) 3 wa0_4 out.2.2.2.2.1)]) := by
 unfold impl_plain at hp
 refine fn_of Try.func34 rfl Try.ntmps34 rfl fun E hM => ?_
 refine cr fun K1 hK1 => ?_
 refine so (ox_alloc' info27 rfl rfl rfl rfl (l := (C1 0 0 0)) rfl) fun q2 => ?_
 refine nk hK1 ?_
 refine cr fun K2 hK2 => ?_
 refine sm rfl ?_
 obtain ⟨r15, hr15, hp⟩ := bind_some hp
 refine so (ox_callg' (ent_inv' rfl rfl (inv_ptr0 (inv67_SRID _))) (gogeom_geom0_SRID_sim _ _ _ _ _ hr15 : Sx.Fn Try.prog 136 [(Vp wa0)] [(Ur wa0 132 (C2 a0_0 a0_1 wa0_2 a0_3 wa0_4)), (Rg Kf 32 wa0_2 a0_2), (Rg (Ki .i64) 3 wa0_4 a0_4)] (fun x : Unit => (Vi r15.2.2.2.1)) (fun x => [(Ur wa0 132 (C2 r15.1 r15.2.1 wa0_2 r15.2.2.2.1 wa0_4)), (Rg Kf 32 wa0_2 r15.2.2.1), (Rg (Ki .i64) 3 wa0_4 r15.2.2.2.2)])) [1, 2, 3] [0] (by decide) (p3 rfl rfl rfl) (pc rfl pn) (Hn := fun x : Unit => [(Ur wa0 132 (C2 r15.1 r15.2.1 wa0_2 r15.2.2.2.1 wa0_4)), (Rg Kf 32 wa0_2 r15.2.2.1), (Rg (Ki .i64) 3 wa0_4 r15.2.2.2.2), (Ur q2 27 (C1 0 0 0))]) (fun _ => rfl) rfl rfl) fun ⟨⟩ => ?_
 refine sv (pls := [(0, 1), (1, 1), (2, 1), (3, 1), (4, 1), (5, 1), (6, 1)]) (qs := [(2, [(Vi r15.2.2.2.1)])]) (r := (C1 0 0 r15.2.2.2.1)) ⟨rfl, ⟨_, rfl, (lv_vl rfl rfl)⟩, trivial⟩ Try.underlying27 has27 places27 info27 rfl rfl rfl ?_
 refine so (ox_alloc' info27 rfl rfl rfl rfl (l := (C1 0 0 0)) rfl) fun q3 => ?_
 refine so (ox_store' (i := 0) (o := 0) rfl rfl (lv_ag _) (ar rfl rfl rfl rfl) rfl info27 rfl (H' := [(Ur q3 27 (C1 0 0 r15.2.2.2.1)), (Ur wa0 132 (C2 r15.1 r15.2.1 wa0_2 r15.2.2.2.1 wa0_4)), (Rg Kf 32 wa0_2 r15.2.2.1), (Rg (Ki .i64) 3 wa0_4 r15.2.2.2.2), (Ur q2 27 (C1 0 0 0))]) rfl) fun _ => ?_
 refine nk hK2 ?_
 refine cx_seq' fun K3 hK3 => ?_
 refine cr fun K4 hK4 => ?_
 refine sm rfl ?_
 refine nk hK4 ?_
 refine cx_block' ?_
 refine cr fun K5 hK5 => ?_
 refine st rfl (F := fun _ => .tuple #[.pointer none, .bool false]) as67_53_72 as_no ?_
 iterate 2 refine se rfl rfl ?_
 refine nk hK5 ?_
 refine cx_cond_f' rfl rfl ?_
 refine cr fun K6 hK6 => ?_
 refine st rfl (F := fun _ => .tuple #[.pointer none, .bool false]) as67_53_75 as_no ?_
 iterate 2 refine se rfl rfl ?_
 refine nk hK6 ?_
 refine cx_cond_f' rfl rfl ?_
 refine cr fun K7 hK7 => ?_
 refine st rfl (F := fun _ => .tuple #[.pointer none, .bool false]) as67_53_69 as_no ?_
 iterate 2 refine se rfl rfl ?_
 refine nk hK7 ?_
 refine cx_cond_f' rfl rfl ?_
 refine cr fun K8 hK8 => ?_
 refine st rfl (F := fun v => .tuple #[v, .bool true]) as67_53_67k as_ok ?_
 iterate 2 refine se rfl rfl ?_
 refine nk hK8 ?_
 refine cx_cond_t' rfl rfl ?_
 refine cr fun K9 hK9 => ?_
 refine sa rfl ?_
 refine nk hK9 ?_
 refine cx_region' ?_
 refine sf rfl Try.underlying27 rfl info3 rfl ?_
 refine so (ox_store' (i := 0) (o := 0) rfl rfl (lv_vl rfl rfl) (ar rfl rfl rfl rfl) rfl info3 rfl (H' := [(Ur q3 27 (C1 3 0 r15.2.2.2.1)), (Ur wa0 132 (C2 r15.1 r15.2.1 wa0_2 r15.2.2.2.1 wa0_4)), (Rg Kf 32 wa0_2 r15.2.2.1), (Rg (Ki .i64) 3 wa0_4 r15.2.2.2.2), (Ur q2 27 (C1 0 0 0))]) rfl) fun _ => ?_
 refine nk hK3 ?_
 refine cr fun K10 hK10 => ?_
 refine sm rfl ?_
 obtain ⟨r70, hr70, hp⟩ := bind_some hp
 refine so (ox_callg' (ent_inv' rfl rfl (inv_ptr0 (inv67_Layout _))) (gogeom_geom0_Layout_v4_sim _ _ _ _ _ hr70 : Sx.Fn Try.prog 134 [(Vp wa0)] [(Ur wa0 132 (C2 r15.1 r15.2.1 wa0_2 r15.2.2.2.1 wa0_4)), (Rg Kf 32 wa0_2 r15.2.2.1), (Rg (Ki .i64) 3 wa0_4 r15.2.2.2.2)] (fun x : Unit => (Vi r70.1)) (fun x => [(Ur wa0 132 (C2 r70.1 r70.2.1 wa0_2 r70.2.2.2.1 wa0_4)), (Rg Kf 32 wa0_2 r70.2.2.1), (Rg (Ki .i64) 3 wa0_4 r70.2.2.2.2)])) [1, 2, 3] [0, 4] (by decide) (p3 rfl rfl rfl) (p2 rfl rfl) (Hn := fun x : Unit => [(Ur wa0 132 (C2 r70.1 r70.2.1 wa0_2 r70.2.2.2.1 wa0_4)), (Rg Kf 32 wa0_2 r70.2.2.1), (Rg (Ki .i64) 3 wa0_4 r70.2.2.2.2), (Ur q3 27 (C1 3 0 r15.2.2.2.1)), (Ur q2 27 (C1 0 0 0))]) (fun _ => rfl) rfl rfl) fun ⟨⟩ => ?_
 refine sm rfl ?_
 obtain ⟨r72, hr72, hp⟩ := bind_some hp
 refine so (ox_callg' (ent_inv' rfl rfl (inv_ptr0 (inv67_FlatCoords _))) (gogeom_geom0_FlatCoords_sim _ _ _ _ _ hr72 : Sx.Fn Try.prog 133 [(Vp wa0)] [(Ur wa0 132 (C2 r70.1 r70.2.1 wa0_2 r70.2.2.2.1 wa0_4)), (Rg Kf 32 wa0_2 r70.2.2.1), (Rg (Ki .i64) 3 wa0_4 r70.2.2.2.2)] (fun x : Unit => (Vw wa0_2)) (fun x => [(Ur wa0 132 (C2 r72.1 r72.2.1 wa0_2 r72.2.2.2.1 wa0_4)), (Rg Kf 32 wa0_2 r72.2.2.1), (Rg (Ki .i64) 3 wa0_4 r72.2.2.2.2)])) [0, 1, 2] [3, 4] (by decide) (p3 rfl rfl rfl) (p2 rfl rfl) (Hn := fun x : Unit => [(Ur wa0 132 (C2 r72.1 r72.2.1 wa0_2 r72.2.2.2.1 wa0_4)), (Rg Kf 32 wa0_2 r72.2.2.1), (Rg (Ki .i64) 3 wa0_4 r72.2.2.2.2), (Ur q3 27 (C1 3 0 r15.2.2.2.1)), (Ur q2 27 (C1 0 0 0))]) (fun _ => rfl) rfl rfl) fun ⟨⟩ => ?_
 obtain ⟨r73, hr73, hp⟩ := bind_some hp
 refine so (ox_callg' (ent_fn' Try.func59 isn59 rfl rfl) (impl_floats_v2_sim _ hr73 : Sx.Fn Try.prog 59 [(Vw wa0_2)] [(Rg Kf 32 wa0_2 r72.2.2.1)] (fun x : Gs => (Vw x)) (fun x => [(Rg Kf 32 wa0_2 r73.1), (Rg Kf 32 x r73.2)])) [1] [0, 2, 3, 4] (by decide) (pc rfl pn) (p4 rfl rfl rfl rfl) (Hn := fun x : Gs => [(Rg Kf 32 wa0_2 r73.1), (Rg Kf 32 x r73.2), (Ur wa0 132 (C2 r72.1 r72.2.1 wa0_2 r72.2.2.2.1 wa0_4)), (Rg (Ki .i64) 3 wa0_4 r72.2.2.2.2), (Ur q3 27 (C1 3 0 r15.2.2.2.1)), (Ur q2 27 (C1 0 0 0))]) (fun _ => rfl) rfl rfl) fun g73 => ?_
 refine sm rfl ?_
 obtain ⟨r75, hr75, hp⟩ := bind_some hp
 refine so (ox_callg' (ent_inv' rfl rfl (inv_ptr0 (inv67_Ends _))) (gogeom_geom2_Ends_sim _ _ _ _ _ hr75 : Sx.Fn Try.prog 131 [(Vp wa0)] [(Ur wa0 132 (C2 r72.1 r72.2.1 wa0_2 r72.2.2.2.1 wa0_4)), (Rg Kf 32 wa0_2 r73.1), (Rg (Ki .i64) 3 wa0_4 r72.2.2.2.2)] (fun x : Unit => (Vw wa0_4)) (fun x => [(Ur wa0 132 (C2 r75.1 r75.2.1 wa0_2 r75.2.2.2.1 wa0_4)), (Rg Kf 32 wa0_2 r75.2.2.1), (Rg (Ki .i64) 3 wa0_4 r75.2.2.2.2)])) [2, 0, 3] [1, 4, 5] (by decide) (p3 rfl rfl rfl) (p3 rfl rfl rfl) (Hn := fun x : Unit => [(Ur wa0 132 (C2 r75.1 r75.2.1 wa0_2 r75.2.2.2.1 wa0_4)), (Rg Kf 32 wa0_2 r75.2.2.1), (Rg (Ki .i64) 3 wa0_4 r75.2.2.2.2), (Rg Kf 32 g73 r73.2), (Ur q3 27 (C1 3 0 r15.2.2.2.1)), (Ur q2 27 (C1 0 0 0))]) (fun _ => rfl) rfl rfl) fun ⟨⟩ => ?_
 obtain ⟨r76, hr76, hp⟩ := bind_some hp
 refine so (ox_callg' (ent_fn' Try.func58 isn58 rfl rfl) (impl_ints_v2_sim _ hr76 : Sx.Fn Try.prog 58 [(Vw wa0_4)] [(Rg (Ki .i64) 3 wa0_4 r75.2.2.2.2)] (fun x : Gs => (Vw x)) (fun x => [(Rg (Ki .i64) 3 wa0_4 r76.1), (Rg (Ki .i64) 3 x r76.2)])) [2] [0, 1, 3, 4, 5] (by decide) (pc rfl pn) (p5 rfl rfl rfl rfl rfl) (Hn := fun x : Gs => [(Rg (Ki .i64) 3 wa0_4 r76.1), (Rg (Ki .i64) 3 x r76.2), (Ur wa0 132 (C2 r75.1 r75.2.1 wa0_2 r75.2.2.2.1 wa0_4)), (Rg Kf 32 wa0_2 r75.2.2.1), (Rg Kf 32 g73 r73.2), (Ur q3 27 (C1 3 0 r15.2.2.2.1)), (Ur q2 27 (C1 0 0 0))]) (fun _ => rfl) rfl rfl) fun g76 => ?_
 refine sm rfl ?_
 obtain ⟨r78, hr78, hp⟩ := bind_some hp
 refine so (ox_callg' (ent_inv' rfl rfl (inv_ptr0 (inv67_Endss _))) (gogeom_geom0_Endss_sim _ _ _ _ _ hr78 : Sx.Fn Try.prog 132 [(Vp wa0)] [(Ur wa0 132 (C2 r75.1 r75.2.1 wa0_2 r75.2.2.2.1 wa0_4)), (Rg Kf 32 wa0_2 r75.2.2.1), (Rg (Ki .i64) 3 wa0_4 r76.1)] (fun x : Unit => Vn) (fun x => [(Ur wa0 132 (C2 r78.1 r78.2.1 wa0_2 r78.2.2.2.1 wa0_4)), (Rg Kf 32 wa0_2 r78.2.2.1), (Rg (Ki .i64) 3 wa0_4 r78.2.2.2.2)])) [2, 3, 0] [1, 4, 5, 6] (by decide) (p3 rfl rfl rfl) (p4 rfl rfl rfl rfl) (Hn := fun x : Unit => [(Ur wa0 132 (C2 r78.1 r78.2.1 wa0_2 r78.2.2.2.1 wa0_4)), (Rg Kf 32 wa0_2 r78.2.2.1), (Rg (Ki .i64) 3 wa0_4 r78.2.2.2.2), (Rg (Ki .i64) 3 g76 r76.2), (Rg Kf 32 g73 r73.2), (Ur q3 27 (C1 3 0 r15.2.2.2.1)), (Ur q2 27 (C1 0 0 0))]) (fun _ => rfl) rfl rfl) fun ⟨⟩ => ?_
 obtain ⟨r79, hr79, hp⟩ := bind_some hp
 refine so (oz (ent_fn' Try.func29 isn29 rfl rfl) (impl_intss_v2_sim hr79)) fun ⟨⟩ => ?_
 refine sg (off := 1) rfl Try.underlying27 rfl info3 rfl ?_
 refine so (ox_store' (i := 5) (o := 1) rfl rfl (lv_vl rfl rfl) (ar rfl rfl rfl rfl) rfl info3 rfl (H' := [(Ur wa0 132 (C2 r78.1 r78.2.1 wa0_2 r78.2.2.2.1 wa0_4)), (Rg Kf 32 wa0_2 r78.2.2.1), (Rg (Ki .i64) 3 wa0_4 r78.2.2.2.2), (Rg (Ki .i64) 3 g76 r76.2), (Rg Kf 32 g73 r73.2), (Ur q3 27 (C1 3 r70.1 r15.2.2.2.1)), (Ur q2 27 (C1 0 0 0))]) rfl) fun _ => ?_
 refine sg (off := 3) rfl Try.underlying27 rfl info22 rfl ?_
 refine so (ox_store' (i := 5) (o := 3) rfl rfl (lv_vl rfl rfl) (ar rfl rfl rfl rfl) rfl info22 rfl (H' := [(Ur wa0 132 (C2 r78.1 r78.2.1 wa0_2 r78.2.2.2.1 wa0_4)), (Rg Kf 32 wa0_2 r78.2.2.1), (Rg (Ki .i64) 3 wa0_4 r78.2.2.2.2), (Rg (Ki .i64) 3 g76 r76.2), (Rg Kf 32 g73 r73.2), (Ur q3 27 (C10 3 r70.1 r15.2.2.2.1 g73)), (Ur q2 27 (C1 0 0 0))]) rfl) fun _ => ?_
 refine sg (off := 4) rfl Try.underlying27 rfl info23 rfl ?_
 refine so (ox_store' (i := 5) (o := 4) rfl rfl (lv_vl rfl rfl) (ar rfl rfl rfl rfl) rfl info23 rfl (H' := [(Ur wa0 132 (C2 r78.1 r78.2.1 wa0_2 r78.2.2.2.1 wa0_4)), (Rg Kf 32 wa0_2 r78.2.2.1), (Rg (Ki .i64) 3 wa0_4 r78.2.2.2.2), (Rg (Ki .i64) 3 g76 r76.2), (Rg Kf 32 g73 r73.2), (Ur q3 27 (C7 3 r70.1 r15.2.2.2.1 g73 g76)), (Ur q2 27 (C1 0 0 0))]) rfl) fun _ => ?_
 refine sg (off := 5) rfl Try.underlying27 rfl info24 rfl ?_
 refine so (ox_store' (i := 5) (o := 5) rfl rfl (lv_vl rfl rfl) (ar rfl rfl rfl rfl) rfl info24 rfl (H' := [(Ur wa0 132 (C2 r78.1 r78.2.1 wa0_2 r78.2.2.2.1 wa0_4)), (Rg Kf 32 wa0_2 r78.2.2.1), (Rg (Ki .i64) 3 wa0_4 r78.2.2.2.2), (Rg (Ki .i64) 3 g76 r76.2), (Rg Kf 32 g73 r73.2), (Ur q3 27 (C7 3 r70.1 r15.2.2.2.1 g73 g76)), (Ur q2 27 (C1 0 0 0))]) rfl) fun _ => ?_
 refine nk hK10 ?_
 refine cr fun K11 hK11 => ?_
 refine s0 (rd_load_agg' (i := 5) (o := 0) (nn := 7) rfl (ar rfl rfl rfl rfl) rfl agg27 (l' := (C7 3 r70.1 r15.2.2.2.1 g73 g76)) rfl) ?_
 refine so (ox_store' (i := 6) (o := 0) rfl rfl (lv_ag _) (ar rfl rfl rfl rfl) rfl info27 rfl (H' := [(Ur wa0 132 (C2 r78.1 r78.2.1 wa0_2 r78.2.2.2.1 wa0_4)), (Rg Kf 32 wa0_2 r78.2.2.1), (Rg (Ki .i64) 3 wa0_4 r78.2.2.2.2), (Rg (Ki .i64) 3 g76 r76.2), (Rg Kf 32 g73 r73.2), (Ur q3 27 (C7 3 r70.1 r15.2.2.2.1 g73 g76)), (Ur q2 27 (C7 3 r70.1 r15.2.2.2.1 g73 g76))]) rfl) fun _ => ?_
 refine nk hK11 ?_
 refine cx_retc' ?_
 replace hp := sj hp
 subst hp
 refine tx_fz' (frz_row 4 [(73, (Vw g73), (Sl Kf r73.2)), (84, (Ag (C7 3 r70.1 r15.2.2.2.1 g73 g76)), (Ag (C9 3 r70.1 r15.2.2.2.1 r73.2 g76)))] (K := Kf) (xs := r73.2) (by decide) rfl ⟨⟨rfl, frz_it⟩, ⟨rfl, fz_ag (fc f0 (fc f0 (fc f0 (fc fz0_it (fc f0 (fc f0 (fc f0 fz0_nil)))))))⟩, trivial⟩ (H' := [(Ur wa0 132 (C2 r78.1 r78.2.1 wa0_2 r78.2.2.2.1 wa0_4)), (Rg Kf 32 wa0_2 r78.2.2.1), (Rg (Ki .i64) 3 wa0_4 r78.2.2.2.2), (Rg (Ki .i64) 3 g76 r76.2), (Ur q3 27 (C9 3 r70.1 r15.2.2.2.1 r73.2 g76)), (Ur q2 27 (C9 3 r70.1 r15.2.2.2.1 r73.2 g76))]) (fk (fk (fk (fk (fh rfl rfl rfl (fl fs (fl fs (fl fs (fl frz_it (fl fs (fl fs (fl fs frzL_refl))))))) (fh rfl rfl rfl (fl fs (fl fs (fl fs (fl frz_it (fl fs (fl fs (fl fs frzL_refl))))))) frzH_refl))))))) ?_
 refine tx_fz' (frz_row 3 [(76, (Vw g76), (Sl (Ki .i64) r76.2)), (84, (Ag (C9 3 r70.1 r15.2.2.2.1 r73.2 g76)), (Ag (C5 3 r70.1 r15.2.2.2.1 r73.2 r76.2)))] (K := (Ki .i64)) (xs := r76.2) (by decide) rfl ⟨⟨rfl, frz_it⟩, ⟨rfl, fz_ag (fc f0 (fc f0 (fc f0 (fc f0 (fc fz0_it (fc f0 (fc f0 fz0_nil)))))))⟩, trivial⟩ (H' := [(Ur wa0 132 (C2 r78.1 r78.2.1 wa0_2 r78.2.2.2.1 wa0_4)), (Rg Kf 32 wa0_2 r78.2.2.1), (Rg (Ki .i64) 3 wa0_4 r78.2.2.2.2), (Ur q3 27 (C5 3 r70.1 r15.2.2.2.1 r73.2 r76.2)), (Ur q2 27 (C5 3 r70.1 r15.2.2.2.1 r73.2 r76.2))]) (fk (fk (fk (fh rfl rfl rfl (fl fs (fl fs (fl fs (fl fs (fl frz_it (fl fs (fl fs frzL_refl))))))) (fh rfl rfl rfl (fl fs (fl fs (fl fs (fl fs (fl frz_it (fl fs (fl fs frzL_refl))))))) frzH_refl)))))) ?_
 refine tk (L' := [(2, (Vp q2))]) (H' := [(Ur wa0 132 (C2 r78.1 r78.2.1 wa0_2 r78.2.2.2.1 wa0_4)), (Rg Kf 32 wa0_2 r78.2.2.1), (Rg (Ki .i64) 3 wa0_4 r78.2.2.2.2), (Ur q2 27 (C5 3 r70.1 r15.2.2.2.1 r73.2 r76.2))]) [0, 1, 2, 4] (uc rfl un) (p4 rfl rfl rfl rfl) ?_
 exact tx_ret1' Try.results34 rfl () (rv_cell_agg' (i := 3) (o := 0) (nn := 7) rfl (ar rfl rfl rfl rfl) rfl agg27 rfl) (List.Sublist.cons_cons _ (List.Sublist.cons_cons _ (List.Sublist.cons_cons _ (List.nil_sublist _))))

def gogeom_geom0_Empty (k : Nat) (a0_0 a0_1 : Int) (a0_2 : List Nat) (a0_3 : Int) : Option (Int × Int × (List Nat) × Int × Bool) :=
 some (a0_0, a0_1, a0_2, a0_3, decide ((a0_2.length : Int) = 0))

theorem gogeom_geom0_Empty_sim {k : Nat} {wa0 : Addr} (a0_0 a0_1 : Int) (a0_2 : List Nat) (a0_3 : Int) {out : Int × Int × (List Nat) × Int × Bool} (hp : gogeom_geom0_Empty k a0_0 a0_1 a0_2 a0_3 = some out) : Sx.Fn Try.prog 83 [(Vp wa0)] [(Ur wa0 135 (C3 a0_0 a0_1 a0_2 a0_3))] (fun w : Unit => (Vb out.2.2.2.2)) (fun w => [(Ur wa0 135 (C3 out.1 out.2.1 out.2.2.1 out.2.2.2.1))]) := by
 unfold gogeom_geom0_Empty at hp
 refine fn_of Try.func83 rfl Try.ntmps83 rfl fun E hM => ?_
 refine cr fun K1 hK1 => ?_
 refine sa rfl ?_
 refine nk hK1 ?_
 refine cr fun K2 hK2 => ?_
 refine sm rfl ?_
 refine sn rfl ?_
 refine sg (off := 2) rfl Try.underlying124 rfl info22 rfl ?_
 refine sl (i := 0) (o := 2) rfl (ar rfl rfl rfl rfl) rfl flat22 ?_
 refine sk rfl Try.underlying22 ?_
 refine sb rfl rfl eg_int ru_eql ?_
 refine sa rfl ?_
 refine nk hK2 ?_
 refine cx_retc' ?_
 replace hp := sj hp
 subst hp
 refine tk (L' := [(2, (Vb (decide ((a0_2.length : Int) = 0))))]) (H' := [(Ur wa0 135 (C3 a0_0 a0_1 a0_2 a0_3))]) [0] (uc rfl un) (pc rfl pn) ?_
 exact tx_ret1' Try.results83 rfl () (rv_tmp' rfl) lr

def gogeom_MultiPoint_Push_j1 (k : Nat) (a0_4 : List Int) (a0_0 a0_1 a0_3 : Int) (x1 : List Nat) (x2 x3 : Int) (x4 : List Nat) (x5 : Int) : Option ((Int × Int × (List Nat) × Int × (List Int) × Int × Int × (List Nat) × Int) ⊕ (Int × Int × (List Nat) × Int × (List Int) × Int × Int × (List Nat) × Int)) :=
 (apd 8 a0_4 ([(x1.length : Int)])) >>= fun r71 =>
 some (.inr (a0_0, a0_1, x1, a0_3, r71, x2, x3, x4, x5))
def gogeom_MultiPoint_Push (k : Nat) (a0_0 a0_1 : Int) (a0_2 : List Nat) (a0_3 : Int) (a0_4 : List Int) (a1_0 a1_1 : Int) (a1_2 : List Nat) (a1_3 : Int) : Option ((Int × Int × (List Nat) × Int × (List Int) × Int × Int × (List Nat) × Int) ⊕ (Int × Int × (List Nat) × Int × (List Int) × Int × Int × (List Nat) × Int)) :=
 br (!decide (a1_0 = a0_0))
  (some (.inl (a0_0, a0_1, a0_2, a0_3, a0_4, a1_0, a1_1, a1_2, a1_3)))
  ((gogeom_geom0_Empty k a1_0 a1_1 a1_2 a1_3) >>= fun r35 =>
  br (!r35.2.2.2.2)
   ((apd 8 a0_2 r35.2.2.1) >>= fun r50 =>
   gogeom_MultiPoint_Push_j1 k a0_4 a0_0 a0_1 a0_3 r50 r35.1 r35.2.1 r35.2.2.1 r35.2.2.2.1)
   (gogeom_MultiPoint_Push_j1 k a0_4 a0_0 a0_1 a0_3 a0_2 r35.1 r35.2.1 r35.2.2.1 r35.2.2.2.1))
def gogeom_MultiPoint_Push_r (wa0 : Addr) (wa0_2 wa0_4 : Gs) (wa1 : Addr) (a0_0 a0_1 : Int) (a0_2 : List Nat) (a0_3 : Int) (a0_4 : List Int) (a1_0 a1_1 : Int) (a1_2 : List Nat) (a1_3 : Int) (out : (Int × Int × (List Nat) × Int × (List Int) × Int × Int × (List Nat) × Int) ⊕ (Int × Int × (List Nat) × Int × (List Int) × Int × Int × (List Nat) × Int)) (w : Gs × Gs) : SV := match out with
 | (.inl y) => (If 134 (Ag (C19 y.2.2.2.2.2.1 y.1)))
 | (.inr y) => Ve
def gogeom_MultiPoint_Push_h (wa0 : Addr) (wa0_2 wa0_4 : Gs) (wa1 : Addr) (a0_0 a0_1 : Int) (a0_2 : List Nat) (a0_3 : Int) (a0_4 : List Int) (a1_0 a1_1 : Int) (a1_2 : List Nat) (a1_3 : Int) (out : (Int × Int × (List Nat) × Int × (List Int) × Int × Int × (List Nat) × Int) ⊕ (Int × Int × (List Nat) × Int × (List Int) × Int × Int × (List Nat) × Int)) (w : Gs × Gs) : List Res := match out with
 | (.inl y) => [(Ur wa0 136 (C2 y.1 y.2.1 wa0_2 y.2.2.2.1 wa0_4)), (Rg Kf 32 wa0_2 y.2.2.1), (Rg (Ki .i64) 3 wa0_4 y.2.2.2.2.1), (Ur wa1 135 (C3 y.2.2.2.2.2.1 y.2.2.2.2.2.2.1 y.2.2.2.2.2.2.2.1 y.2.2.2.2.2.2.2.2))]
 | (.inr y) => [(Ur wa0 136 (C2 y.1 y.2.1 w.1 y.2.2.2.1 w.2)), (Rg Kf 32 w.1 y.2.2.1), (Rg (Ki .i64) 3 w.2 y.2.2.2.2.1), (Ur wa1 135 (C3 y.2.2.2.2.2.1 y.2.2.2.2.2.2.1 y.2.2.2.2.2.2.2.1 y.2.2.2.2.2.2.2.2))]

theorem gogeom_MultiPoint_Push_sim {k : Nat} {wa0 : Addr} {wa0_2 wa0_4 : Gs} {wa1 : Addr} (a0_0 a0_1 : Int) (a0_2 : List Nat) (a0_3 : Int) (a0_4 : List Int) (a1_0 a1_1 : Int) (a1_2 : List Nat) (a1_3 : Int) {out : (Int × Int × (List Nat) × Int × (List Int) × Int × Int × (List Nat) × Int) ⊕ (Int × Int × (List Nat) × Int × (List Int) × Int × Int × (List Nat) × Int)} (hp : gogeom_MultiPoint_Push k a0_0 a0_1 a0_2 a0_3 a0_4 a1_0 a1_1 a1_2 a1_3 = some out) : Sx.Fn Try.prog 43 [(Vp wa0), (Vp wa1)] [(Ur wa0 136 (C2 a0_0 a0_1 wa0_2 a0_3 wa0_4)), (Rg Kf 32 wa0_2 a0_2), (Rg (Ki .i64) 3 wa0_4 a0_4), (Ur wa1 135 (C3 a1_0 a1_1 a1_2 a1_3))] (fun w => gogeom_MultiPoint_Push_r wa0 wa0_2 wa0_4 wa1 a0_0 a0_1 a0_2 a0_3 a0_4 a1_0 a1_1 a1_2 a1_3 out w) (fun w => gogeom_MultiPoint_Push_h wa0 wa0_2 wa0_4 wa1 a0_0 a0_1 a0_2 a0_3 a0_4 a1_0 a1_1 a1_2 a1_3 out w) := by
 unfold gogeom_MultiPoint_Push at hp
 refine fn_of Try.func43 rfl Try.ntmps43 rfl fun E hM => ?_
 refine cr fun K1 hK1 => ?_
 refine sa rfl ?_
 refine nk hK1 ?_
 refine cx_seq' fun K2 hK2 => ?_
 refine cx_seq' fun K3 hK3 => ?_
 refine cx_draw' mixed (by kernel_rfl) ?_
 refine qd (rd_move' rfl) ?_
 refine qd (rd_nilck' rfl) ?_
 refine qd (rd_field0' rfl Try.underlying135 rfl info124 rfl) ?_
 refine qd (rd_field0' rfl Try.underlying124 rfl info61 rfl) ?_
 refine qd (rd_load' (i := 3) (o := 0) rfl (ar rfl rfl rfl rfl) rfl flat61) ?_
 refine qd (rd_move' rfl) ?_
 refine qd (rd_nilck' rfl) ?_
 refine qd (rd_field0' rfl Try.underlying136 rfl info130 rfl) ?_
 refine qd (rd_field0' rfl Try.underlying130 rfl info126 rfl) ?_
 refine qd (rd_field0' rfl Try.underlying126 rfl info124 rfl) ?_
 refine qd (rd_field0' rfl Try.underlying124 rfl info61 rfl) ?_
 refine qd (rd_load' (i := 0) (o := 0) rfl (ar rfl rfl rfl rfl) rfl flat61) ?_
 refine qd (rd_bin' rfl rfl eg_int ru_neq) ?_
 refine qx_nil' ?_
 show TX E K3 _
 refine tx_k' hK3 ?_
 refine cx_cond' rfl (fun h1 => ?_) (fun h1 => ?_)
 ·replace hp := (br_t h1).symm.trans hp
  refine cx_seq' fun K4 hK4 => ?_
  refine cx_draw' mixed (by kernel_rfl) ?_
  refine qd (rd_move' rfl) ?_
  refine qd (rd_nilck' rfl) ?_
  refine qd (rd_field0' rfl Try.underlying135 rfl info124 rfl) ?_
  refine qd (rd_field0' rfl Try.underlying124 rfl info61 rfl) ?_
  refine qd (rd_load' (i := 3) (o := 0) rfl (ar rfl rfl rfl rfl) rfl flat61) ?_
  refine qd (rd_move' rfl) ?_
  refine qd (rd_nilck' rfl) ?_
  refine qd (rd_field0' rfl Try.underlying136 rfl info130 rfl) ?_
  refine qd (rd_field0' rfl Try.underlying130 rfl info126 rfl) ?_
  refine qd (rd_field0' rfl Try.underlying126 rfl info124 rfl) ?_
  refine qd (rd_field0' rfl Try.underlying124 rfl info61 rfl) ?_
  refine qd (rd_load' (i := 0) (o := 0) rfl (ar rfl rfl rfl rfl) rfl flat61) ?_
  refine qd (rd_build' (pls := [(0, 1), (1, 1)]) (qs := [(0, [(Vi a1_0)]), (1, [(Vi a0_0)])]) (r := (C19 a1_0 a0_0)) ⟨rfl, ⟨_, rfl, (lv_vl rfl rfl)⟩, ⟨rfl, ⟨_, rfl, (lv_vl rfl rfl)⟩, trivial⟩⟩ Try.underlying134 has134 places134 info134 rfl rfl rfl) ?_
  refine qd (rd_iface' rfl ⟨_, Try.underlying134, fun _ h => (nomatch h)⟩) ?_
  refine qd (rd_assign' rfl) ?_
  refine qx_nil' ?_
  show TX E K4 _
  refine tx_k' hK4 ?_
  refine cx_retc' ?_
  replace hp := sj hp
  subst hp
  refine tk (L' := [(4, (If 134 (Ag (C19 a1_0 a0_0))))]) (H' := [(Ur wa0 136 (C2 a0_0 a0_1 wa0_2 a0_3 wa0_4)), (Rg Kf 32 wa0_2 a0_2), (Rg (Ki .i64) 3 wa0_4 a0_4), (Ur wa1 135 (C3 a1_0 a1_1 a1_2 a1_3))]) [0, 1, 2, 3] (uc rfl un) (p4 rfl rfl rfl rfl) ?_
  exact tx_ret1' Try.results43 rfl ((none, 0, 0), (none, 0, 0)) (rv_tmp' rfl) lr
 replace hp := (br_f h1).symm.trans hp
 refine cx_skip' ?_
 show TX E K2 _
 refine tx_k' hK2 ?_
 refine cx_join' (fun (v1 : (List Nat) × Int × Int × (List Nat) × Int × Gs) => (⟨75, [], [(0, (Vp wa0))], [(Ur wa0 136 (C2 a0_0 a0_1 v1.2.2.2.2.2 a0_3 wa0_4)), (Rg Kf 32 v1.2.2.2.2.2 v1.1), (Rg (Ki .i64) 3 wa0_4 a0_4), (Ur wa1 135 (C3 v1.2.1 v1.2.2.1 v1.2.2.2.1 v1.2.2.2.2.1))]⟩ : St)) (fun (v1 : (List Nat) × Int × Int × (List Nat) × Int × Gs) => gogeom_MultiPoint_Push_j1 k a0_4 a0_0 a0_1 a0_3 v1.1 v1.2.1 v1.2.2.1 v1.2.2.2.1 v1.2.2.2.2.1 = some out) ?_ ?_
 ·rintro ⟨x1, x2, x3, x4, x5, g901⟩ hp
  replace hp : gogeom_MultiPoint_Push_j1 k a0_4 a0_0 a0_1 a0_3 x1 x2 x3 x4 x5 = some out := hp
  unfold gogeom_MultiPoint_Push_j1 at hp
  refine cx_seq' fun K7 hK7 => ?_
  refine cx_plan' [] [(15, 1), (19, 1)] [(0, 2), (1, 1), (2, 1), (3, 1), (4, 1), (5, 1), (6, 1), (7, 1), (8, 1), (9, 1), (10, 1), (11, 1), (12, 1), (13, 1), (14, 0), (15, 0), (16, 1), (17, 1), (18, 1), (19, 0)] mixed (by kernel_rfl) ?_
  refine px_rb' rfl (rb_move' rfl) rfl rfl (wt_none' rfl) ?_
  refine pd rfl (rd_move' rfl) ?_
  refine pd rfl (rd_nilck' rfl) ?_
  refine pd rfl (rd_field0' rfl Try.underlying136 rfl info130 rfl) ?_
  refine pd rfl (rd_field' (off := 4) rfl Try.underlying130 rfl info23 rfl) ?_
  refine pd rfl (rd_load' (i := 0) (o := 4) rfl (ar rfl rfl rfl rfl) rfl flat23) ?_
  refine pd rfl (rd_move' rfl) ?_
  refine pd rfl (rd_nilck' rfl) ?_
  refine pd rfl (rd_field0' rfl Try.underlying136 rfl info130 rfl) ?_
  refine pd rfl (rd_field0' rfl Try.underlying130 rfl info126 rfl) ?_
  refine pd rfl (rd_field0' rfl Try.underlying126 rfl info124 rfl) ?_
  refine pd rfl (rd_field' (off := 2) rfl Try.underlying124 rfl info22 rfl) ?_
  refine pd rfl (rd_load' (i := 0) (o := 2) rfl (ar rfl rfl rfl rfl) rfl flat22) ?_
  refine pd rfl (rd_lenr' (i := 1) rfl rfl rfl Try.underlying22) ?_
  refine px_ox' rfl (ox_rowlit' (K := (Ki .i64)) (xs := [(x1.length : Int)]) (qs := [(0, [(Vi (x1.length : Int))])]) ⟨rfl, ⟨_, rfl, (lv_vl rfl rfl)⟩, trivial⟩ Try.underlying23 info3 rfl rfl rfl rfl rfl (by kernel_rfl) rfl rfl rfl) rfl bs_nil (wt_none' rfl) fun g70 => ?_
  obtain ⟨r71, hr71, hp⟩ := bind_some hp
  refine px_ox' rfl (ox_append' (K := (Ki .i64)) (i := 3) (xs := a0_4) (ys := ([(x1.length : Int)])) rfl rfl rfl (sr_row' (j := 0) rfl rfl rfl Try.underlying23) hr71 Try.underlying23 info3 rfl rfl rfl (H' := [(Rg (Ki .i64) 3 g70 ([(x1.length : Int)])), (Ur wa0 136 (C2 a0_0 a0_1 g901 a0_3 wa0_4)), (Rg Kf 32 g901 x1), (Ur wa1 135 (C3 x2 x3 x4 x5))]) rfl) rfl bs_nil (wt_none' rfl) fun g71 => ?_
  refine pd rfl (rd_nilck' rfl) ?_
  refine pd rfl (rd_field0' rfl Try.underlying136 rfl info130 rfl) ?_
  refine pd rfl (rd_field' (off := 4) rfl Try.underlying130 rfl info23 rfl) ?_
  refine px_oxv' rfl (oxv_store (i := 2) (o := 4) rfl rfl (lv_vl rfl rfl) (ar rfl rfl rfl rfl) rfl info23 rfl (H' := [(Rg (Ki .i64) 3 g71 r71), (Rg (Ki .i64) 3 g70 ([(x1.length : Int)])), (Ur wa0 136 (C2 a0_0 a0_1 g901 a0_3 g71)), (Rg Kf 32 g901 x1), (Ur wa1 135 (C3 x2 x3 x4 x5))]) rfl) rfl rfl bo_nil (wt_none' rfl) fun _ => ?_
  refine px_nil' ?_
  show TX E K7 _
  refine tx_k' hK7 ?_
  refine cr fun K8 hK8 => ?_
  refine sa rfl ?_
  refine nk hK8 ?_
  refine cx_retc' ?_
  replace hp := sj hp
  subst hp
  refine tk (L' := [(4, Ve)]) (H' := [(Ur wa0 136 (C2 a0_0 a0_1 g901 a0_3 g71)), (Rg Kf 32 g901 x1), (Rg (Ki .i64) 3 g71 r71), (Ur wa1 135 (C3 x2 x3 x4 x5))]) [2, 3, 0, 4] (uc rfl un) (p4 rfl rfl rfl rfl) ?_
  exact tx_ret1' Try.results43 rfl (g901, g71) (rv_tmp' rfl) lr
 intro K5 hK5
 refine cr fun K6 hK6 => ?_
 refine sm rfl ?_
 refine sn rfl ?_
 refine sf rfl Try.underlying135 rfl info124 rfl ?_
 obtain ⟨r35, hr35, hp⟩ := bind_some hp
 refine so (ox_callg' (ent_fn' Try.func83 isn83 rfl rfl) (gogeom_geom0_Empty_sim _ _ _ _ hr35 : Sx.Fn Try.prog 83 [(Vp wa1)] [(Ur wa1 135 (C3 a1_0 a1_1 a1_2 a1_3))] (fun x : Unit => (Vb r35.2.2.2.2)) (fun x => [(Ur wa1 135 (C3 r35.1 r35.2.1 r35.2.2.1 r35.2.2.2.1))])) [3] [0, 1, 2] (by decide) (pc rfl pn) (p3 rfl rfl rfl) (Hn := fun x : Unit => [(Ur wa1 135 (C3 r35.1 r35.2.1 r35.2.2.1 r35.2.2.2.1)), (Ur wa0 136 (C2 a0_0 a0_1 wa0_2 a0_3 wa0_4)), (Rg Kf 32 wa0_2 a0_2), (Rg (Ki .i64) 3 wa0_4 a0_4)]) (fun _ => rfl) rfl rfl) fun ⟨⟩ => ?_
 refine s0 (rd_un' rfl ru_not) ?_
 refine nk hK6 ?_
 refine cx_cond' rfl (fun h2 => ?_) (fun h2 => ?_)
 ·replace hp := (br_t h2).symm.trans hp
  refine cx_plan' [] [(13, 1), (19, 1)] [(0, 2), (1, 1), (2, 1), (3, 1), (4, 1), (5, 1), (6, 1), (7, 1), (8, 1), (9, 1), (10, 1), (11, 1), (12, 1), (13, 0), (14, 1), (15, 1), (16, 1), (17, 1), (18, 1), (19, 0)] mixed (by kernel_rfl) ?_
  refine px_rb' rfl (rb_move' rfl) rfl rfl (wt_none' rfl) ?_
  refine pd rfl (rd_move' rfl) ?_
  refine pd rfl (rd_nilck' rfl) ?_
  refine pd rfl (rd_field0' rfl Try.underlying136 rfl info130 rfl) ?_
  refine pd rfl (rd_field0' rfl Try.underlying130 rfl info126 rfl) ?_
  refine pd rfl (rd_field0' rfl Try.underlying126 rfl info124 rfl) ?_
  refine pd rfl (rd_field' (off := 2) rfl Try.underlying124 rfl info22 rfl) ?_
  refine pd rfl (rd_load' (i := 1) (o := 2) rfl (ar rfl rfl rfl rfl) rfl flat22) ?_
  refine pd rfl (rd_move' rfl) ?_
  refine pd rfl (rd_nilck' rfl) ?_
  refine pd rfl (rd_field0' rfl Try.underlying135 rfl info124 rfl) ?_
  refine pd rfl (rd_field' (off := 2) rfl Try.underlying124 rfl info22 rfl) ?_
  refine pd rfl (rd_load' (i := 0) (o := 2) rfl (ar rfl rfl rfl rfl) rfl flat22) ?_
  obtain ⟨r50, hr50, hp⟩ := bind_some hp
  refine px_ox' rfl (ox_append' (K := Kf) (i := 2) (xs := a0_2) (ys := r35.2.2.1) rfl rfl rfl (sr_sl' rfl Try.underlying22) hr50 Try.underlying22 info32 rfl rfl rfl (H' := [(Ur wa1 135 (C3 r35.1 r35.2.1 r35.2.2.1 r35.2.2.2.1)), (Ur wa0 136 (C2 a0_0 a0_1 wa0_2 a0_3 wa0_4)), (Rg (Ki .i64) 3 wa0_4 a0_4)]) rfl) rfl bs_nil (wt_none' rfl) fun g50 => ?_
  refine pd rfl (rd_nilck' rfl) ?_
  refine pd rfl (rd_field0' rfl Try.underlying136 rfl info130 rfl) ?_
  refine pd rfl (rd_field0' rfl Try.underlying130 rfl info126 rfl) ?_
  refine pd rfl (rd_field0' rfl Try.underlying126 rfl info124 rfl) ?_
  refine pd rfl (rd_field' (off := 2) rfl Try.underlying124 rfl info22 rfl) ?_
  refine px_oxv' rfl (oxv_store (i := 2) (o := 2) rfl rfl (lv_vl rfl rfl) (ar rfl rfl rfl rfl) rfl info22 rfl (H' := [(Rg Kf 32 g50 r50), (Ur wa1 135 (C3 r35.1 r35.2.1 r35.2.2.1 r35.2.2.2.1)), (Ur wa0 136 (C2 a0_0 a0_1 g50 a0_3 wa0_4)), (Rg (Ki .i64) 3 wa0_4 a0_4)]) rfl) rfl rfl bo_nil (wt_none' rfl) fun _ => ?_
  refine px_nil' ?_
  show TX E K5 _
  exact tk [2, 0, 3, 1] (uc rfl un) (p4 rfl rfl rfl rfl) (hK5 (r50, r35.1, r35.2.1, r35.2.2.1, r35.2.2.2.1, g50) hp)
 replace hp := (br_f h2).symm.trans hp
 refine cx_skip' ?_
 show TX E K5 _
 exact tk [1, 2, 3, 0] (uc rfl un) (p4 rfl rfl rfl rfl) (hK5 (a0_2, r35.1, r35.2.1, r35.2.2.1, r35.2.2.2.1, wa0_2) hp)

def gogeom_geom0_SRID_v2 (k : Nat) (a0_0 a0_1 : Int) (a0_2 : List Nat) (a0_3 : Int) (a0_4 : List Int) : Option (Int × Int × (List Nat) × Int × (List Int)) :=
 some (a0_0, a0_1, a0_2, a0_3, a0_4)

theorem gogeom_geom0_SRID_v2_sim {k : Nat} {wa0 : Addr} {wa0_2 wa0_4 : Gs} (a0_0 a0_1 : Int) (a0_2 : List Nat) (a0_3 : Int) (a0_4 : List Int) {out : Int × Int × (List Nat) × Int × (List Int)} (hp : gogeom_geom0_SRID_v2 k a0_0 a0_1 a0_2 a0_3 a0_4 = some out) : Sx.Fn Try.prog 136 [(Vp wa0)] [(Ur wa0 136 (C2 a0_0 a0_1 wa0_2 a0_3 wa0_4)), (Rg Kf 32 wa0_2 a0_2), (Rg (Ki .i64) 3 wa0_4 a0_4)] (fun w : Unit => (Vi out.2.2.2.1)) (fun w => [(Ur wa0 136 (C2 out.1 out.2.1 wa0_2 out.2.2.2.1 wa0_4)), (Rg Kf 32 wa0_2 out.2.2.1), (Rg (Ki .i64) 3 wa0_4 out.2.2.2.2)]) := by
 unfold gogeom_geom0_SRID_v2 at hp
 refine fn_of Try.func136 rfl Try.ntmps136 rfl fun E hM => ?_
 refine cr fun K1 hK1 => ?_
 refine sa rfl ?_
 refine nk hK1 ?_
 refine cr fun K2 hK2 => ?_
 refine sm rfl ?_
 refine sn rfl ?_
 refine sg (off := 3) rfl Try.underlying124 rfl info3 rfl ?_
 refine sl (i := 0) (o := 3) rfl (ar rfl rfl rfl rfl) rfl flat3 ?_
 refine sa rfl ?_
 refine nk hK2 ?_
 refine cx_retc' ?_
 replace hp := sj hp
 subst hp
 refine tk (L' := [(2, (Vi a0_3))]) (H' := [(Ur wa0 136 (C2 a0_0 a0_1 wa0_2 a0_3 wa0_4)), (Rg Kf 32 wa0_2 a0_2), (Rg (Ki .i64) 3 wa0_4 a0_4)]) [0, 1, 2] (uc rfl un) (p3 rfl rfl rfl) ?_
 exact tx_ret1' Try.results136 rfl () (rv_tmp' rfl) lr

def gogeom_geom0_Layout_v5 (k : Nat) (a0_0 a0_1 : Int) (a0_2 : List Nat) (a0_3 : Int) (a0_4 : List Int) : Option (Int × Int × (List Nat) × Int × (List Int)) :=
 some (a0_0, a0_1, a0_2, a0_3, a0_4)

theorem gogeom_geom0_Layout_v5_sim {k : Nat} {wa0 : Addr} {wa0_2 wa0_4 : Gs} (a0_0 a0_1 : Int) (a0_2 : List Nat) (a0_3 : Int) (a0_4 : List Int) {out : Int × Int × (List Nat) × Int × (List Int)} (hp : gogeom_geom0_Layout_v5 k a0_0 a0_1 a0_2 a0_3 a0_4 = some out) : Sx.Fn Try.prog 134 [(Vp wa0)] [(Ur wa0 136 (C2 a0_0 a0_1 wa0_2 a0_3 wa0_4)), (Rg Kf 32 wa0_2 a0_2), (Rg (Ki .i64) 3 wa0_4 a0_4)] (fun w : Unit => (Vi out.1)) (fun w => [(Ur wa0 136 (C2 out.1 out.2.1 wa0_2 out.2.2.2.1 wa0_4)), (Rg Kf 32 wa0_2 out.2.2.1), (Rg (Ki .i64) 3 wa0_4 out.2.2.2.2)]) := by
 unfold gogeom_geom0_Layout_v5 at hp
 refine fn_of Try.func134 rfl Try.ntmps134 rfl fun E hM => ?_
 refine cr fun K1 hK1 => ?_
 refine sa rfl ?_
 refine nk hK1 ?_
 refine cr fun K2 hK2 => ?_
 refine sm rfl ?_
 refine sn rfl ?_
 refine sf rfl Try.underlying124 rfl info61 rfl ?_
 refine sl (i := 0) (o := 0) rfl (ar rfl rfl rfl rfl) rfl flat61 ?_
 refine sa rfl ?_
 refine nk hK2 ?_
 refine cx_retc' ?_
 replace hp := sj hp
 subst hp
 refine tk (L' := [(2, (Vi a0_0))]) (H' := [(Ur wa0 136 (C2 a0_0 a0_1 wa0_2 a0_3 wa0_4)), (Rg Kf 32 wa0_2 a0_2), (Rg (Ki .i64) 3 wa0_4 a0_4)]) [0, 1, 2] (uc rfl un) (p3 rfl rfl rfl) ?_
 exact tx_ret1' Try.results134 rfl () (rv_tmp' rfl) lr

def gogeom_geom0_FlatCoords_v2 (k : Nat) (a0_0 a0_1 : Int) (a0_2 : List Nat) (a0_3 : Int) (a0_4 : List Int) : Option (Int × Int × (List Nat) × Int × (List Int)) :=
 some (a0_0, a0_1, a0_2, a0_3, a0_4)

theorem gogeom_geom0_FlatCoords_v2_sim {k : Nat} {wa0 : Addr} {wa0_2 wa0_4 : Gs} (a0_0 a0_1 : Int) (a0_2 : List Nat) (a0_3 : Int) (a0_4 : List Int) {out : Int × Int × (List Nat) × Int × (List Int)} (hp : gogeom_geom0_FlatCoords_v2 k a0_0 a0_1 a0_2 a0_3 a0_4 = some out) : Sx.Fn Try.prog 133 [(Vp wa0)] [(Ur wa0 136 (C2 a0_0 a0_1 wa0_2 a0_3 wa0_4)), (Rg Kf 32 wa0_2 a0_2), (Rg (Ki .i64) 3 wa0_4 a0_4)] (fun w : Unit => (Vw wa0_2)) (fun w => [(Ur wa0 136 (C2 out.1 out.2.1 wa0_2 out.2.2.2.1 wa0_4)), (Rg Kf 32 wa0_2 out.2.2.1), (Rg (Ki .i64) 3 wa0_4 out.2.2.2.2)]) := by
 unfold gogeom_geom0_FlatCoords_v2 at hp
 refine fn_of Try.func133 rfl Try.ntmps133 rfl fun E hM => ?_
 refine cr fun K1 hK1 => ?_
 refine sa rfl ?_
 refine nk hK1 ?_
 refine cr fun K2 hK2 => ?_
 refine sm rfl ?_
 refine sn rfl ?_
 refine sg (off := 2) rfl Try.underlying124 rfl info22 rfl ?_
 refine sl (i := 0) (o := 2) rfl (ar rfl rfl rfl rfl) rfl flat22 ?_
 refine sa rfl ?_
 refine nk hK2 ?_
 refine cx_retc' ?_
 replace hp := sj hp
 subst hp
 refine tk (L' := [(2, (Vw wa0_2))]) (H' := [(Ur wa0 136 (C2 a0_0 a0_1 wa0_2 a0_3 wa0_4)), (Rg Kf 32 wa0_2 a0_2), (Rg (Ki .i64) 3 wa0_4 a0_4)]) [0, 1, 2] (uc rfl un) (p3 rfl rfl rfl) ?_
 exact tx_ret1' Try.results133 rfl () (rv_tmp' rfl) lr

def gogeom_geom2_Ends_v2 (k : Nat) (a0_0 a0_1 : Int) (a0_2 : List Nat) (a0_3 : Int) (a0_4 : List Int) : Option (Int × Int × (List Nat) × Int × (List Int)) :=
 some (a0_0, a0_1, a0_2, a0_3, a0_4)

theorem gogeom_geom2_Ends_v2_sim {k : Nat} {wa0 : Addr} {wa0_2 wa0_4 : Gs} (a0_0 a0_1 : Int) (a0_2 : List Nat) (a0_3 : Int) (a0_4 : List Int) {out : Int × Int × (List Nat) × Int × (List Int)} (hp : gogeom_geom2_Ends_v2 k a0_0 a0_1 a0_2 a0_3 a0_4 = some out) : Sx.Fn Try.prog 131 [(Vp wa0)] [(Ur wa0 136 (C2 a0_0 a0_1 wa0_2 a0_3 wa0_4)), (Rg Kf 32 wa0_2 a0_2), (Rg (Ki .i64) 3 wa0_4 a0_4)] (fun w : Unit => (Vw wa0_4)) (fun w => [(Ur wa0 136 (C2 out.1 out.2.1 wa0_2 out.2.2.2.1 wa0_4)), (Rg Kf 32 wa0_2 out.2.2.1), (Rg (Ki .i64) 3 wa0_4 out.2.2.2.2)]) := by
 unfold gogeom_geom2_Ends_v2 at hp
 refine fn_of Try.func131 rfl Try.ntmps131 rfl fun E hM => ?_
 refine cr fun K1 hK1 => ?_
 refine sa rfl ?_
 refine nk hK1 ?_
 refine cr fun K2 hK2 => ?_
 refine sm rfl ?_
 refine sn rfl ?_
 refine sg (off := 4) rfl Try.underlying130 rfl info23 rfl ?_
 refine sl (i := 0) (o := 4) rfl (ar rfl rfl rfl rfl) rfl flat23 ?_
 refine sa rfl ?_
 refine nk hK2 ?_
 refine cx_retc' ?_
 replace hp := sj hp
 subst hp
 refine tk (L' := [(2, (Vw wa0_4))]) (H' := [(Ur wa0 136 (C2 a0_0 a0_1 wa0_2 a0_3 wa0_4)), (Rg Kf 32 wa0_2 a0_2), (Rg (Ki .i64) 3 wa0_4 a0_4)]) [0, 1, 2] (uc rfl un) (p3 rfl rfl rfl) ?_
 exact tx_ret1' Try.results131 rfl () (rv_tmp' rfl) lr

def gogeom_geom0_Endss_v2 (k : Nat) (a0_0 a0_1 : Int) (a0_2 : List Nat) (a0_3 : Int) (a0_4 : List Int) : Option (Int × Int × (List Nat) × Int × (List Int)) :=
 some (a0_0, a0_1, a0_2, a0_3, a0_4)

theorem gogeom_geom0_Endss_v2_sim {k : Nat} {wa0 : Addr} {wa0_2 wa0_4 : Gs} (a0_0 a0_1 : Int) (a0_2 : List Nat) (a0_3 : Int) (a0_4 : List Int) {out : Int × Int × (List Nat) × Int × (List Int)} (hp : gogeom_geom0_Endss_v2 k a0_0 a0_1 a0_2 a0_3 a0_4 = some out) : Sx.Fn Try.prog 132 [(Vp wa0)] [(Ur wa0 136 (C2 a0_0 a0_1 wa0_2 a0_3 wa0_4)), (Rg Kf 32 wa0_2 a0_2), (Rg (Ki .i64) 3 wa0_4 a0_4)] (fun w : Unit => Vn) (fun w => [(Ur wa0 136 (C2 out.1 out.2.1 wa0_2 out.2.2.2.1 wa0_4)), (Rg Kf 32 wa0_2 out.2.2.1), (Rg (Ki .i64) 3 wa0_4 out.2.2.2.2)]) := by
 unfold gogeom_geom0_Endss_v2 at hp
 refine fn_of Try.func132 rfl Try.ntmps132 rfl fun E hM => ?_
 refine cr fun K1 hK1 => ?_
 refine sa rfl ?_
 refine nk hK1 ?_
 refine cr fun K2 hK2 => ?_
 refine sa rfl ?_
 refine nk hK2 ?_
 refine cx_retc' ?_
 replace hp := sj hp
 subst hp
 refine tk (L' := [(2, Vn)]) (H' := [(Ur wa0 136 (C2 a0_0 a0_1 wa0_2 a0_3 wa0_4)), (Rg Kf 32 wa0_2 a0_2), (Rg (Ki .i64) 3 wa0_4 a0_4)]) [0, 1, 2] (uc rfl un) (p3 rfl rfl rfl) ?_
 exact tx_ret1' Try.results132 rfl () (rv_tmp' rfl) lr

def impl_plain_v2 (k : Nat) (a0_0 a0_1 : Int) (a0_2 : List Nat) (a0_3 : Int) (a0_4 : List Int) : Option (Int × Int × (List Nat) × Int × (List Int) × Int × Int × Int × (List Nat) × (List Int)) :=
 (gogeom_geom0_SRID_v2 k a0_0 a0_1 a0_2 a0_3 a0_4) >>= fun r15 =>
 (gogeom_geom0_Layout_v5 k r15.1 r15.2.1 r15.2.2.1 r15.2.2.2.1 r15.2.2.2.2) >>= fun r70 =>
 (gogeom_geom0_FlatCoords_v2 k r70.1 r70.2.1 r70.2.2.1 r70.2.2.2.1 r70.2.2.2.2) >>= fun r72 =>
 (impl_floats_v2 k r72.2.2.1) >>= fun r73 =>
 (gogeom_geom2_Ends_v2 k r72.1 r72.2.1 r73.1 r72.2.2.2.1 r72.2.2.2.2) >>= fun r75 =>
 (impl_ints_v2 k r75.2.2.2.2) >>= fun r76 =>
 (gogeom_geom0_Endss_v2 k r75.1 r75.2.1 r75.2.2.1 r75.2.2.2.1 r76.1) >>= fun r78 =>
 (impl_intss_v2 k) >>= fun r79 =>
 some (r78.1, r78.2.1, r78.2.2.1, r78.2.2.2.1, r78.2.2.2.2, 4, r70.1, r15.2.2.2.1, r73.2, r76.2)

theorem impl_plain_v2_sim {k : Nat} {wa0 : Addr} {wa0_2 wa0_4 : Gs} (a0_0 a0_1 : Int) (a0_2 : List Nat) (a0_3 : Int) (a0_4 : List Int) {out : Int × Int × (List Nat) × Int × (List Int) × Int × Int × Int × (List Nat) × (List Int)} (hp : impl_plain_v2 k a0_0 a0_1 a0_2 a0_3 a0_4 = some out) : Sx.Fn Try.prog 34 [(If 70 (Vp wa0))] [(Ur wa0 136 (C2 a0_0 a0_1 wa0_2 a0_3 wa0_4)), (Rg Kf 32 wa0_2 a0_2), (Rg (Ki .i64) 3 wa0_4 a0_4)] (fun w : Unit => (Ag (C5 out.2.2.2.2.2.1 out.2.2.2.2.2.2.1 out.2.2.2.2.2.2.2.1 out.2.2.2.2.2.2.2.2.1 out.2.2.2.2.2.2.2.2.2))) (fun w => [(Ur wa0 136 (C2 out.1 out.2.1 wa0_2 out.2.2.2.1 wa0_4)), (Rg Kf 32 wa0_2 out.2.2.1), (Rg (Ki .i64) 3 wa0_4 out.2.2.2.2.1)]) := by
 unfold impl_plain_v2 at hp
 refine fn_of Try.func34 rfl Try.ntmps34 rfl fun E hM => ?_
 refine cr fun K1 hK1 => ?_
 refine so (ox_alloc' info27 rfl rfl rfl rfl (l := (C1 0 0 0)) rfl) fun q2 => ?_
 refine nk hK1 ?_
 refine cr fun K2 hK2 => ?_
 refine sm rfl ?_
 obtain ⟨r15, hr15, hp⟩ := bind_some hp
 refine so (ox_callg' (ent_inv' rfl rfl (inv_ptr0 (inv70_SRID _))) (gogeom_geom0_SRID_v2_sim _ _ _ _ _ hr15 : Sx.Fn Try.prog 136 [(Vp wa0)] [(Ur wa0 136 (C2 a0_0 a0_1 wa0_2 a0_3 wa0_4)), (Rg Kf 32 wa0_2 a0_2), (Rg (Ki .i64) 3 wa0_4 a0_4)] (fun x : Unit => (Vi r15.2.2.2.1)) (fun x => [(Ur wa0 136 (C2 r15.1 r15.2.1 wa0_2 r15.2.2.2.1 wa0_4)), (Rg Kf 32 wa0_2 r15.2.2.1), (Rg (Ki .i64) 3 wa0_4 r15.2.2.2.2)])) [1, 2, 3] [0] (by decide) (p3 rfl rfl rfl) (pc rfl pn) (Hn := fun x : Unit => [(Ur wa0 136 (C2 r15.1 r15.2.1 wa0_2 r15.2.2.2.1 wa0_4)), (Rg Kf 32 wa0_2 r15.2.2.1), (Rg (Ki .i64) 3 wa0_4 r15.2.2.2.2), (Ur q2 27 (C1 0 0 0))]) (fun _ => rfl) rfl rfl) fun ⟨⟩ => ?_
 refine sv (pls := [(0, 1), (1, 1), (2, 1), (3, 1), (4, 1), (5, 1), (6, 1)]) (qs := [(2, [(Vi r15.2.2.2.1)])]) (r := (C1 0 0 r15.2.2.2.1)) ⟨rfl, ⟨_, rfl, (lv_vl rfl rfl)⟩, trivial⟩ Try.underlying27 has27 places27 info27 rfl rfl rfl ?_
 refine so (ox_alloc' info27 rfl rfl rfl rfl (l := (C1 0 0 0)) rfl) fun q3 => ?_
 refine so (ox_store' (i := 0) (o := 0) rfl rfl (lv_ag _) (ar rfl rfl rfl rfl) rfl info27 rfl (H' := [(Ur q3 27 (C1 0 0 r15.2.2.2.1)), (Ur wa0 136 (C2 r15.1 r15.2.1 wa0_2 r15.2.2.2.1 wa0_4)), (Rg Kf 32 wa0_2 r15.2.2.1), (Rg (Ki .i64) 3 wa0_4 r15.2.2.2.2), (Ur q2 27 (C1 0 0 0))]) rfl) fun _ => ?_
 refine nk hK2 ?_
 refine cx_seq' fun K3 hK3 => ?_
 refine cr fun K4 hK4 => ?_
 refine sm rfl ?_
 refine nk hK4 ?_
 refine cx_block' ?_
 refine cr fun K5 hK5 => ?_
 refine st rfl (F := fun _ => .tuple #[.pointer none, .bool false]) as70_53_72 as_no ?_
 iterate 2 refine se rfl rfl ?_
 refine nk hK5 ?_
 refine cx_cond_f' rfl rfl ?_
 refine cr fun K6 hK6 => ?_
 refine st rfl (F := fun _ => .tuple #[.pointer none, .bool false]) as70_53_75 as_no ?_
 iterate 2 refine se rfl rfl ?_
 refine nk hK6 ?_
 refine cx_cond_f' rfl rfl ?_
 refine cr fun K7 hK7 => ?_
 refine st rfl (F := fun _ => .tuple #[.pointer none, .bool false]) as70_53_69 as_no ?_
 iterate 2 refine se rfl rfl ?_
 refine nk hK7 ?_
 refine cx_cond_f' rfl rfl ?_
 refine cr fun K8 hK8 => ?_
 refine st rfl (F := fun _ => .tuple #[.pointer none, .bool false]) as70_53_67 as_no ?_
 iterate 2 refine se rfl rfl ?_
 refine nk hK8 ?_
 refine cx_cond_f' rfl rfl ?_
 refine cr fun K9 hK9 => ?_
 refine st rfl (F := fun v => .tuple #[v, .bool true]) as70_53_70k as_ok ?_
 iterate 2 refine se rfl rfl ?_
 refine nk hK9 ?_
 refine cx_cond_t' rfl rfl ?_
 refine cr fun K10 hK10 => ?_
 refine sa rfl ?_
 refine nk hK10 ?_
 refine cx_region' ?_
 refine sf rfl Try.underlying27 rfl info3 rfl ?_
 refine so (ox_store' (i := 0) (o := 0) rfl rfl (lv_vl rfl rfl) (ar rfl rfl rfl rfl) rfl info3 rfl (H' := [(Ur q3 27 (C1 4 0 r15.2.2.2.1)), (Ur wa0 136 (C2 r15.1 r15.2.1 wa0_2 r15.2.2.2.1 wa0_4)), (Rg Kf 32 wa0_2 r15.2.2.1), (Rg (Ki .i64) 3 wa0_4 r15.2.2.2.2), (Ur q2 27 (C1 0 0 0))]) rfl) fun _ => ?_
 refine nk hK3 ?_
 refine cr fun K11 hK11 => ?_
 refine sm rfl ?_
 obtain ⟨r70, hr70, hp⟩ := bind_some hp
 refine so (ox_callg' (ent_inv' rfl rfl (inv_ptr0 (inv70_Layout _))) (gogeom_geom0_Layout_v5_sim _ _ _ _ _ hr70 : Sx.Fn Try.prog 134 [(Vp wa0)] [(Ur wa0 136 (C2 r15.1 r15.2.1 wa0_2 r15.2.2.2.1 wa0_4)), (Rg Kf 32 wa0_2 r15.2.2.1), (Rg (Ki .i64) 3 wa0_4 r15.2.2.2.2)] (fun x : Unit => (Vi r70.1)) (fun x => [(Ur wa0 136 (C2 r70.1 r70.2.1 wa0_2 r70.2.2.2.1 wa0_4)), (Rg Kf 32 wa0_2 r70.2.2.1), (Rg (Ki .i64) 3 wa0_4 r70.2.2.2.2)])) [1, 2, 3] [0, 4] (by decide) (p3 rfl rfl rfl) (p2 rfl rfl) (Hn := fun x : Unit => [(Ur wa0 136 (C2 r70.1 r70.2.1 wa0_2 r70.2.2.2.1 wa0_4)), (Rg Kf 32 wa0_2 r70.2.2.1), (Rg (Ki .i64) 3 wa0_4 r70.2.2.2.2), (Ur q3 27 (C1 4 0 r15.2.2.2.1)), (Ur q2 27 (C1 0 0 0))]) (fun _ => rfl) rfl rfl) fun ⟨⟩ => ?_
 refine sm rfl ?_
 obtain ⟨r72, hr72, hp⟩ := bind_some hp
 refine so (ox_callg' (ent_inv' rfl rfl (inv_ptr0 (inv70_FlatCoords _))) (gogeom_geom0_FlatCoords_v2_sim _ _ _ _ _ hr72 : Sx.Fn Try.prog 133 [(Vp wa0)] [(Ur wa0 136 (C2 r70.1 r70.2.1 wa0_2 r70.2.2.2.1 wa0_4)), (Rg Kf 32 wa0_2 r70.2.2.1), (Rg (Ki .i64) 3 wa0_4 r70.2.2.2.2)] (fun x : Unit => (Vw wa0_2)) (fun x => [(Ur wa0 136 (C2 r72.1 r72.2.1 wa0_2 r72.2.2.2.1 wa0_4)), (Rg Kf 32 wa0_2 r72.2.2.1), (Rg (Ki .i64) 3 wa0_4 r72.2.2.2.2)])) [0, 1, 2] [3, 4] (by decide) (p3 rfl rfl rfl) (p2 rfl rfl) (Hn := fun x : Unit => [(Ur wa0 136 (C2 r72.1 r72.2.1 wa0_2 r72.2.2.2.1 wa0_4)), (Rg Kf 32 wa0_2 r72.2.2.1), (Rg (Ki .i64) 3 wa0_4 r72.2.2.2.2), (Ur q3 27 (C1 4 0 r15.2.2.2.1)), (Ur q2 27 (C1 0 0 0))]) (fun _ => rfl) rfl rfl) fun ⟨⟩ => ?_
 obtain ⟨r73, hr73, hp⟩ := bind_some hp
 refine so (ox_callg' (ent_fn' Try.func59 isn59 rfl rfl) (impl_floats_v2_sim _ hr73 : Sx.Fn Try.prog 59 [(Vw wa0_2)] [(Rg Kf 32 wa0_2 r72.2.2.1)] (fun x : Gs => (Vw x)) (fun x => [(Rg Kf 32 wa0_2 r73.1), (Rg Kf 32 x r73.2)])) [1] [0, 2, 3, 4] (by decide) (pc rfl pn) (p4 rfl rfl rfl rfl) (Hn := fun x : Gs => [(Rg Kf 32 wa0_2 r73.1), (Rg Kf 32 x r73.2), (Ur wa0 136 (C2 r72.1 r72.2.1 wa0_2 r72.2.2.2.1 wa0_4)), (Rg (Ki .i64) 3 wa0_4 r72.2.2.2.2), (Ur q3 27 (C1 4 0 r15.2.2.2.1)), (Ur q2 27 (C1 0 0 0))]) (fun _ => rfl) rfl rfl) fun g73 => ?_
 refine sm rfl ?_
 obtain ⟨r75, hr75, hp⟩ := bind_some hp
 refine so (ox_callg' (ent_inv' rfl rfl (inv_ptr0 (inv70_Ends _))) (gogeom_geom2_Ends_v2_sim _ _ _ _ _ hr75 : Sx.Fn Try.prog 131 [(Vp wa0)] [(Ur wa0 136 (C2 r72.1 r72.2.1 wa0_2 r72.2.2.2.1 wa0_4)), (Rg Kf 32 wa0_2 r73.1), (Rg (Ki .i64) 3 wa0_4 r72.2.2.2.2)] (fun x : Unit => (Vw wa0_4)) (fun x => [(Ur wa0 136 (C2 r75.1 r75.2.1 wa0_2 r75.2.2.2.1 wa0_4)), (Rg Kf 32 wa0_2 r75.2.2.1), (Rg (Ki .i64) 3 wa0_4 r75.2.2.2.2)])) [2, 0, 3] [1, 4, 5] (by decide) (p3 rfl rfl rfl) (p3 rfl rfl rfl) (Hn := fun x : Unit => [(Ur wa0 136 (C2 r75.1 r75.2.1 wa0_2 r75.2.2.2.1 wa0_4)), (Rg Kf 32 wa0_2 r75.2.2.1), (Rg (Ki .i64) 3 wa0_4 r75.2.2.2.2), (Rg Kf 32 g73 r73.2), (Ur q3 27 (C1 4 0 r15.2.2.2.1)), (Ur q2 27 (C1 0 0 0))]) (fun _ => rfl) rfl rfl) fun ⟨⟩ => ?_
 obtain ⟨r76, hr76, hp⟩ := bind_some hp
 refine so (ox_callg' (ent_fn' Try.func58 isn58 rfl rfl) (impl_ints_v2_sim _ hr76 : Sx.Fn Try.prog 58 [(Vw wa0_4)] [(Rg (Ki .i64) 3 wa0_4 r75.2.2.2.2)] (fun x : Gs => (Vw x)) (fun x => [(Rg (Ki .i64) 3 wa0_4 r76.1), (Rg (Ki .i64) 3 x r76.2)])) [2] [0, 1, 3, 4, 5] (by decide) (pc rfl pn) (p5 rfl rfl rfl rfl rfl) (Hn := fun x : Gs => [(Rg (Ki .i64) 3 wa0_4 r76.1), (Rg (Ki .i64) 3 x r76.2), (Ur wa0 136 (C2 r75.1 r75.2.1 wa0_2 r75.2.2.2.1 wa0_4)), (Rg Kf 32 wa0_2 r75.2.2.1), (Rg Kf 32 g73 r73.2), (Ur q3 27 (C1 4 0 r15.2.2.2.1)), (Ur q2 27 (C1 0 0 0))]) (fun _ => rfl) rfl rfl) fun g76 => ?_
 refine sm rfl ?_
 obtain ⟨r78, hr78, hp⟩ := bind_some hp
 refine so (ox_callg' (ent_inv' rfl rfl (inv_ptr0 (inv70_Endss _))) (gogeom_geom0_Endss_v2_sim _ _ _ _ _ hr78 : Sx.Fn Try.prog 132 [(Vp wa0)] [(Ur wa0 136 (C2 r75.1 r75.2.1 wa0_2 r75.2.2.2.1 wa0_4)), (Rg Kf 32 wa0_2 r75.2.2.1), (Rg (Ki .i64) 3 wa0_4 r76.1)] (fun x : Unit => Vn) (fun x => [(Ur wa0 136 (C2 r78.1 r78.2.1 wa0_2 r78.2.2.2.1 wa0_4)), (Rg Kf 32 wa0_2 r78.2.2.1), (Rg (Ki .i64) 3 wa0_4 r78.2.2.2.2)])) [2, 3, 0] [1, 4, 5, 6] (by decide) (p3 rfl rfl rfl) (p4 rfl rfl rfl rfl) (Hn := fun x : Unit => [(Ur wa0 136 (C2 r78.1 r78.2.1 wa0_2 r78.2.2.2.1 wa0_4)), (Rg Kf 32 wa0_2 r78.2.2.1), (Rg (Ki .i64) 3 wa0_4 r78.2.2.2.2), (Rg (Ki .i64) 3 g76 r76.2), (Rg Kf 32 g73 r73.2), (Ur q3 27 (C1 4 0 r15.2.2.2.1)), (Ur q2 27 (C1 0 0 0))]) (fun _ => rfl) rfl rfl) fun ⟨⟩ => ?_
 obtain ⟨r79, hr79, hp⟩ := bind_some hp
 refine so (oz (ent_fn' Try.func29 isn29 rfl rfl) (impl_intss_v2_sim hr79)) fun ⟨⟩ => ?_
 refine sg (off := 1) rfl Try.underlying27 rfl info3 rfl ?_
 refine so (ox_store' (i := 5) (o := 1) rfl rfl (lv_vl rfl rfl) (ar rfl rfl rfl rfl) rfl info3 rfl (H' := [(Ur wa0 136 (C2 r78.1 r78.2.1 wa0_2 r78.2.2.2.1 wa0_4)), (Rg Kf 32 wa0_2 r78.2.2.1), (Rg (Ki .i64) 3 wa0_4 r78.2.2.2.2), (Rg (Ki .i64) 3 g76 r76.2), (Rg Kf 32 g73 r73.2), (Ur q3 27 (C1 4 r70.1 r15.2.2.2.1)), (Ur q2 27 (C1 0 0 0))]) rfl) fun _ => ?_
 refine sg (off := 3) rfl Try.underlying27 rfl info22 rfl ?_
 refine so (ox_store' (i := 5) (o := 3) rfl rfl (lv_vl rfl rfl) (ar rfl rfl rfl rfl) rfl info22 rfl (H' := [(Ur wa0 136 (C2 r78.1 r78.2.1 wa0_2 r78.2.2.2.1 wa0_4)), (Rg Kf 32 wa0_2 r78.2.2.1), (Rg (Ki .i64) 3 wa0_4 r78.2.2.2.2), (Rg (Ki .i64) 3 g76 r76.2), (Rg Kf 32 g73 r73.2), (Ur q3 27 (C10 4 r70.1 r15.2.2.2.1 g73)), (Ur q2 27 (C1 0 0 0))]) rfl) fun _ => ?_
 refine sg (off := 4) rfl Try.underlying27 rfl info23 rfl ?_
 refine so (ox_store' (i := 5) (o := 4) rfl rfl (lv_vl rfl rfl) (ar rfl rfl rfl rfl) rfl info23 rfl (H' := [(Ur wa0 136 (C2 r78.1 r78.2.1 wa0_2 r78.2.2.2.1 wa0_4)), (Rg Kf 32 wa0_2 r78.2.2.1), (Rg (Ki .i64) 3 wa0_4 r78.2.2.2.2), (Rg (Ki .i64) 3 g76 r76.2), (Rg Kf 32 g73 r73.2), (Ur q3 27 (C7 4 r70.1 r15.2.2.2.1 g73 g76)), (Ur q2 27 (C1 0 0 0))]) rfl) fun _ => ?_
 refine sg (off := 5) rfl Try.underlying27 rfl info24 rfl ?_
 refine so (ox_store' (i := 5) (o := 5) rfl rfl (lv_vl rfl rfl) (ar rfl rfl rfl rfl) rfl info24 rfl (H' := [(Ur wa0 136 (C2 r78.1 r78.2.1 wa0_2 r78.2.2.2.1 wa0_4)), (Rg Kf 32 wa0_2 r78.2.2.1), (Rg (Ki .i64) 3 wa0_4 r78.2.2.2.2), (Rg (Ki .i64) 3 g76 r76.2), (Rg Kf 32 g73 r73.2), (Ur q3 27 (C7 4 r70.1 r15.2.2.2.1 g73 g76)), (Ur q2 27 (C1 0 0 0))]) rfl) fun _ => ?_
 refine nk hK11 ?_
 refine cr fun K12 hK12 => ?_
 refine s0 (rd_load_agg' (i := 5) (o := 0) (nn := 7) rfl (ar rfl rfl rfl rfl) rfl agg27 (l' := (C7 4 r70.1 r15.2.2.2.1 g73 g76)) rfl) ?_
 refine so (ox_store' (i := 6) (o := 0) rfl rfl (lv_ag _) (ar rfl rfl rfl rfl) rfl info27 rfl (H' := [(Ur wa0 136 (C2 r78.1 r78.2.1 wa0_2 r78.2.2.2.1 wa0_4)), (Rg Kf 32 wa0_2 r78.2.2.1), (Rg (Ki .i64) 3 wa0_4 r78.2.2.2.2), (Rg (Ki .i64) 3 g76 r76.2), (Rg Kf 32 g73 r73.2), (Ur q3 27 (C7 4 r70.1 r15.2.2.2.1 g73 g76)), (Ur q2 27 (C7 4 r70.1 r15.2.2.2.1 g73 g76))]) rfl) fun _ => ?_
 refine nk hK12 ?_
 refine cx_retc' ?_
 replace hp := sj hp
 subst hp
 refine tx_fz' (frz_row 4 [(73, (Vw g73), (Sl Kf r73.2)), (84, (Ag (C7 4 r70.1 r15.2.2.2.1 g73 g76)), (Ag (C9 4 r70.1 r15.2.2.2.1 r73.2 g76)))] (K := Kf) (xs := r73.2) (by decide) rfl ⟨⟨rfl, frz_it⟩, ⟨rfl, fz_ag (fc f0 (fc f0 (fc f0 (fc fz0_it (fc f0 (fc f0 (fc f0 fz0_nil)))))))⟩, trivial⟩ (H' := [(Ur wa0 136 (C2 r78.1 r78.2.1 wa0_2 r78.2.2.2.1 wa0_4)), (Rg Kf 32 wa0_2 r78.2.2.1), (Rg (Ki .i64) 3 wa0_4 r78.2.2.2.2), (Rg (Ki .i64) 3 g76 r76.2), (Ur q3 27 (C9 4 r70.1 r15.2.2.2.1 r73.2 g76)), (Ur q2 27 (C9 4 r70.1 r15.2.2.2.1 r73.2 g76))]) (fk (fk (fk (fk (fh rfl rfl rfl (fl fs (fl fs (fl fs (fl frz_it (fl fs (fl fs (fl fs frzL_refl))))))) (fh rfl rfl rfl (fl fs (fl fs (fl fs (fl frz_it (fl fs (fl fs (fl fs frzL_refl))))))) frzH_refl))))))) ?_
 refine tx_fz' (frz_row 3 [(76, (Vw g76), (Sl (Ki .i64) r76.2)), (84, (Ag (C9 4 r70.1 r15.2.2.2.1 r73.2 g76)), (Ag (C5 4 r70.1 r15.2.2.2.1 r73.2 r76.2)))] (K := (Ki .i64)) (xs := r76.2) (by decide) rfl ⟨⟨rfl, frz_it⟩, ⟨rfl, fz_ag (fc f0 (fc f0 (fc f0 (fc f0 (fc fz0_it (fc f0 (fc f0 fz0_nil)))))))⟩, trivial⟩ (H' := [(Ur wa0 136 (C2 r78.1 r78.2.1 wa0_2 r78.2.2.2.1 wa0_4)), (Rg Kf 32 wa0_2 r78.2.2.1), (Rg (Ki .i64) 3 wa0_4 r78.2.2.2.2), (Ur q3 27 (C5 4 r70.1 r15.2.2.2.1 r73.2 r76.2)), (Ur q2 27 (C5 4 r70.1 r15.2.2.2.1 r73.2 r76.2))]) (fk (fk (fk (fh rfl rfl rfl (fl fs (fl fs (fl fs (fl fs (fl frz_it (fl fs (fl fs frzL_refl))))))) (fh rfl rfl rfl (fl fs (fl fs (fl fs (fl fs (fl frz_it (fl fs (fl fs frzL_refl))))))) frzH_refl)))))) ?_
 refine tk (L' := [(2, (Vp q2))]) (H' := [(Ur wa0 136 (C2 r78.1 r78.2.1 wa0_2 r78.2.2.2.1 wa0_4)), (Rg Kf 32 wa0_2 r78.2.2.1), (Rg (Ki .i64) 3 wa0_4 r78.2.2.2.2), (Ur q2 27 (C5 4 r70.1 r15.2.2.2.1 r73.2 r76.2))]) [0, 1, 2, 4] (uc rfl un) (p4 rfl rfl rfl rfl) ?_
 exact tx_ret1' Try.results34 rfl () (rv_cell_agg' (i := 3) (o := 0) (nn := 7) rfl (ar rfl rfl rfl rfl) rfl agg27 rfl) (List.Sublist.cons_cons _ (List.Sublist.cons_cons _ (List.Sublist.cons_cons _ (List.nil_sublist _))))

def gogeom_MultiLineString_Push (k : Nat) (a0_0 a0_1 : Int) (a0_2 : List Nat) (a0_3 : Int) (a0_4 : List Int) (a1_0 a1_1 : Int) (a1_2 : List Nat) (a1_3 : Int) : Option ((Int × Int × (List Nat) × Int × (List Int) × Int × Int × (List Nat) × Int) ⊕ (Int × Int × (List Nat) × Int × (List Int) × Int × Int × (List Nat) × Int)) :=
 br (!decide (a1_0 = a0_0))
  (some (.inl (a0_0, a0_1, a0_2, a0_3, a0_4, a1_0, a1_1, a1_2, a1_3)))
  ((apd 8 a0_2 a1_2) >>= fun r48 =>
  (apd 8 a0_4 ([(r48.length : Int)])) >>= fun r69 =>
  some (.inr (a0_0, a0_1, r48, a0_3, r69, a1_0, a1_1, a1_2, a1_3)))
def gogeom_MultiLineString_Push_r (wa0 : Addr) (wa0_2 wa0_4 : Gs) (wa1 : Addr) (a0_0 a0_1 : Int) (a0_2 : List Nat) (a0_3 : Int) (a0_4 : List Int) (a1_0 a1_1 : Int) (a1_2 : List Nat) (a1_3 : Int) (out : (Int × Int × (List Nat) × Int × (List Int) × Int × Int × (List Nat) × Int) ⊕ (Int × Int × (List Nat) × Int × (List Int) × Int × Int × (List Nat) × Int)) (w : Gs × Gs) : SV := match out with
 | (.inl y) => (If 134 (Ag (C19 y.2.2.2.2.2.1 y.1)))
 | (.inr y) => Ve
def gogeom_MultiLineString_Push_h (wa0 : Addr) (wa0_2 wa0_4 : Gs) (wa1 : Addr) (a0_0 a0_1 : Int) (a0_2 : List Nat) (a0_3 : Int) (a0_4 : List Int) (a1_0 a1_1 : Int) (a1_2 : List Nat) (a1_3 : Int) (out : (Int × Int × (List Nat) × Int × (List Int) × Int × Int × (List Nat) × Int) ⊕ (Int × Int × (List Nat) × Int × (List Int) × Int × Int × (List Nat) × Int)) (w : Gs × Gs) : List Res := match out with
 | (.inl y) => [(Ur wa0 139 (C2 y.1 y.2.1 wa0_2 y.2.2.2.1 wa0_4)), (Rg Kf 32 wa0_2 y.2.2.1), (Rg (Ki .i64) 3 wa0_4 y.2.2.2.2.1), (Ur wa1 138 (C3 y.2.2.2.2.2.1 y.2.2.2.2.2.2.1 y.2.2.2.2.2.2.2.1 y.2.2.2.2.2.2.2.2))]
 | (.inr y) => [(Ur wa0 139 (C2 y.1 y.2.1 w.1 y.2.2.2.1 w.2)), (Rg Kf 32 w.1 y.2.2.1), (Rg (Ki .i64) 3 w.2 y.2.2.2.2.1), (Ur wa1 138 (C3 y.2.2.2.2.2.1 y.2.2.2.2.2.2.1 y.2.2.2.2.2.2.2.1 y.2.2.2.2.2.2.2.2))]

theorem gogeom_MultiLineString_Push_sim {k : Nat} {wa0 : Addr} {wa0_2 wa0_4 : Gs} {wa1 : Addr} (a0_0 a0_1 : Int) (a0_2 : List Nat) (a0_3 : Int) (a0_4 : List Int) (a1_0 a1_1 : Int) (a1_2 : List Nat) (a1_3 : Int) {out : (Int × Int × (List Nat) × Int × (List Int) × Int × Int × (List Nat) × Int) ⊕ (Int × Int × (List Nat) × Int × (List Int) × Int × Int × (List Nat) × Int)} (hp : gogeom_MultiLineString_Push k a0_0 a0_1 a0_2 a0_3 a0_4 a1_0 a1_1 a1_2 a1_3 = some out) : Sx.Fn Try.prog 44 [(Vp wa0), (Vp wa1)] [(Ur wa0 139 (C2 a0_0 a0_1 wa0_2 a0_3 wa0_4)), (Rg Kf 32 wa0_2 a0_2), (Rg (Ki .i64) 3 wa0_4 a0_4), (Ur wa1 138 (C3 a1_0 a1_1 a1_2 a1_3))] (fun w => gogeom_MultiLineString_Push_r wa0 wa0_2 wa0_4 wa1 a0_0 a0_1 a0_2 a0_3 a0_4 a1_0 a1_1 a1_2 a1_3 out w) (fun w => gogeom_MultiLineString_Push_h wa0 wa0_2 wa0_4 wa1 a0_0 a0_1 a0_2 a0_3 a0_4 a1_0 a1_1 a1_2 a1_3 out w) := by
 unfold gogeom_MultiLineString_Push at hp
 refine fn_of Try.func44 rfl Try.ntmps44 rfl fun E hM => ?_
 refine cr fun K1 hK1 => ?_
 refine sa rfl ?_
 refine nk hK1 ?_
 refine cx_seq' fun K2 hK2 => ?_
 refine cx_seq' fun K3 hK3 => ?_
 refine cx_draw' mixed (by kernel_rfl) ?_
 refine qd (rd_move' rfl) ?_
 refine qd (rd_nilck' rfl) ?_
 refine qd (rd_field0' rfl Try.underlying138 rfl info126 rfl) ?_
 refine qd (rd_field0' rfl Try.underlying126 rfl info124 rfl) ?_
 refine qd (rd_field0' rfl Try.underlying124 rfl info61 rfl) ?_
 refine qd (rd_load' (i := 3) (o := 0) rfl (ar rfl rfl rfl rfl) rfl flat61) ?_
 refine qd (rd_move' rfl) ?_
 refine qd (rd_nilck' rfl) ?_
 refine qd (rd_field0' rfl Try.underlying139 rfl info130 rfl) ?_
 refine qd (rd_field0' rfl Try.underlying130 rfl info126 rfl) ?_
 refine qd (rd_field0' rfl Try.underlying126 rfl info124 rfl) ?_
 refine qd (rd_field0' rfl Try.underlying124 rfl info61 rfl) ?_
 refine qd (rd_load' (i := 0) (o := 0) rfl (ar rfl rfl rfl rfl) rfl flat61) ?_
 refine qd (rd_bin' rfl rfl eg_int ru_neq) ?_
 refine qx_nil' ?_
 show TX E K3 _
 refine tx_k' hK3 ?_
 refine cx_cond' rfl (fun h1 => ?_) (fun h1 => ?_)
 ·replace hp := (br_t h1).symm.trans hp
  refine cx_seq' fun K4 hK4 => ?_
  refine cx_draw' mixed (by kernel_rfl) ?_
  refine qd (rd_move' rfl) ?_
  refine qd (rd_nilck' rfl) ?_
  refine qd (rd_field0' rfl Try.underlying138 rfl info126 rfl) ?_
  refine qd (rd_field0' rfl Try.underlying126 rfl info124 rfl) ?_
  refine qd (rd_field0' rfl Try.underlying124 rfl info61 rfl) ?_
  refine qd (rd_load' (i := 3) (o := 0) rfl (ar rfl rfl rfl rfl) rfl flat61) ?_
  refine qd (rd_move' rfl) ?_
  refine qd (rd_nilck' rfl) ?_
  refine qd (rd_field0' rfl Try.underlying139 rfl info130 rfl) ?_
  refine qd (rd_field0' rfl Try.underlying130 rfl info126 rfl) ?_
  refine qd (rd_field0' rfl Try.underlying126 rfl info124 rfl) ?_
  refine qd (rd_field0' rfl Try.underlying124 rfl info61 rfl) ?_
  refine qd (rd_load' (i := 0) (o := 0) rfl (ar rfl rfl rfl rfl) rfl flat61) ?_
  refine qd (rd_build' (pls := [(0, 1), (1, 1)]) (qs := [(0, [(Vi a1_0)]), (1, [(Vi a0_0)])]) (r := (C19 a1_0 a0_0)) ⟨rfl, ⟨_, rfl, (lv_vl rfl rfl)⟩, ⟨rfl, ⟨_, rfl, (lv_vl rfl rfl)⟩, trivial⟩⟩ Try.underlying134 has134 places134 info134 rfl rfl rfl) ?_
  refine qd (rd_iface' rfl ⟨_, Try.underlying134, fun _ h => (nomatch h)⟩) ?_
  refine qd (rd_assign' rfl) ?_
  refine qx_nil' ?_
  show TX E K4 _
  refine tx_k' hK4 ?_
  refine cx_retc' ?_
  replace hp := sj hp
  subst hp
  refine tk (L' := [(4, (If 134 (Ag (C19 a1_0 a0_0))))]) (H' := [(Ur wa0 139 (C2 a0_0 a0_1 wa0_2 a0_3 wa0_4)), (Rg Kf 32 wa0_2 a0_2), (Rg (Ki .i64) 3 wa0_4 a0_4), (Ur wa1 138 (C3 a1_0 a1_1 a1_2 a1_3))]) [0, 1, 2, 3] (uc rfl un) (p4 rfl rfl rfl rfl) ?_
  exact tx_ret1' Try.results44 rfl ((none, 0, 0), (none, 0, 0)) (rv_tmp' rfl) lr
 replace hp := (br_f h1).symm.trans hp
 refine cx_skip' ?_
 show TX E K2 _
 refine tx_k' hK2 ?_
 refine cx_seq' fun K5 hK5 => ?_
 refine cx_plan' [] [(14, 1), (20, 1)] [(0, 2), (1, 1), (2, 1), (3, 1), (4, 1), (5, 1), (6, 1), (7, 1), (8, 1), (9, 1), (10, 1), (11, 1), (12, 1), (13, 1), (14, 0), (15, 1), (16, 1), (17, 1), (18, 1), (19, 1), (20, 0)] mixed (by kernel_rfl) ?_
 refine px_rb' rfl (rb_move' rfl) rfl rfl (wt_none' rfl) ?_
 refine pd rfl (rd_move' rfl) ?_
 refine pd rfl (rd_nilck' rfl) ?_
 refine pd rfl (rd_field0' rfl Try.underlying139 rfl info130 rfl) ?_
 refine pd rfl (rd_field0' rfl Try.underlying130 rfl info126 rfl) ?_
 refine pd rfl (rd_field0' rfl Try.underlying126 rfl info124 rfl) ?_
 refine pd rfl (rd_field' (off := 2) rfl Try.underlying124 rfl info22 rfl) ?_
 refine pd rfl (rd_load' (i := 0) (o := 2) rfl (ar rfl rfl rfl rfl) rfl flat22) ?_
 refine pd rfl (rd_move' rfl) ?_
 refine pd rfl (rd_nilck' rfl) ?_
 refine pd rfl (rd_field0' rfl Try.underlying138 rfl info126 rfl) ?_
 refine pd rfl (rd_field0' rfl Try.underlying126 rfl info124 rfl) ?_
 refine pd rfl (rd_field' (off := 2) rfl Try.underlying124 rfl info22 rfl) ?_
 refine pd rfl (rd_load' (i := 3) (o := 2) rfl (ar rfl rfl rfl rfl) rfl flat22) ?_
 obtain ⟨r48, hr48, hp⟩ := bind_some hp
 refine px_ox' rfl (ox_append' (K := Kf) (i := 1) (xs := a0_2) (ys := a1_2) rfl rfl rfl (sr_sl' rfl Try.underlying22) hr48 Try.underlying22 info32 rfl rfl rfl (H' := [(Ur wa0 139 (C2 a0_0 a0_1 wa0_2 a0_3 wa0_4)), (Rg (Ki .i64) 3 wa0_4 a0_4), (Ur wa1 138 (C3 a1_0 a1_1 a1_2 a1_3))]) rfl) rfl bs_nil (wt_none' rfl) fun g48 => ?_
 refine pd rfl (rd_nilck' rfl) ?_
 refine pd rfl (rd_field0' rfl Try.underlying139 rfl info130 rfl) ?_
 refine pd rfl (rd_field0' rfl Try.underlying130 rfl info126 rfl) ?_
 refine pd rfl (rd_field0' rfl Try.underlying126 rfl info124 rfl) ?_
 refine pd rfl (rd_field' (off := 2) rfl Try.underlying124 rfl info22 rfl) ?_
 refine px_oxv' rfl (oxv_store (i := 1) (o := 2) rfl rfl (lv_vl rfl rfl) (ar rfl rfl rfl rfl) rfl info22 rfl (H' := [(Rg Kf 32 g48 r48), (Ur wa0 139 (C2 a0_0 a0_1 g48 a0_3 wa0_4)), (Rg (Ki .i64) 3 wa0_4 a0_4), (Ur wa1 138 (C3 a1_0 a1_1 a1_2 a1_3))]) rfl) rfl rfl bo_nil (wt_none' rfl) fun _ => ?_
 refine px_nil' ?_
 show TX E K5 _
 refine tx_k' hK5 ?_
 refine cx_seq' fun K6 hK6 => ?_
 refine cx_plan' [] [(15, 1), (19, 1)] [(0, 2), (1, 1), (2, 1), (3, 1), (4, 1), (5, 1), (6, 1), (7, 1), (8, 1), (9, 1), (10, 1), (11, 1), (12, 1), (13, 1), (14, 0), (15, 0), (16, 1), (17, 1), (18, 1), (19, 0)] mixed (by kernel_rfl) ?_
 refine px_rb' rfl (rb_move' rfl) rfl rfl (wt_none' rfl) ?_
 refine pd rfl (rd_move' rfl) ?_
 refine pd rfl (rd_nilck' rfl) ?_
 refine pd rfl (rd_field0' rfl Try.underlying139 rfl info130 rfl) ?_
 refine pd rfl (rd_field' (off := 4) rfl Try.underlying130 rfl info23 rfl) ?_
 refine pd rfl (rd_load' (i := 1) (o := 4) rfl (ar rfl rfl rfl rfl) rfl flat23) ?_
 refine pd rfl (rd_move' rfl) ?_
 refine pd rfl (rd_nilck' rfl) ?_
 refine pd rfl (rd_field0' rfl Try.underlying139 rfl info130 rfl) ?_
 refine pd rfl (rd_field0' rfl Try.underlying130 rfl info126 rfl) ?_
 refine pd rfl (rd_field0' rfl Try.underlying126 rfl info124 rfl) ?_
 refine pd rfl (rd_field' (off := 2) rfl Try.underlying124 rfl info22 rfl) ?_
 refine pd rfl (rd_load' (i := 1) (o := 2) rfl (ar rfl rfl rfl rfl) rfl flat22) ?_
 refine pd rfl (rd_lenr' (i := 0) rfl rfl rfl Try.underlying22) ?_
 refine px_ox' rfl (ox_rowlit' (K := (Ki .i64)) (xs := [(r48.length : Int)]) (qs := [(0, [(Vi (r48.length : Int))])]) ⟨rfl, ⟨_, rfl, (lv_vl rfl rfl)⟩, trivial⟩ Try.underlying23 info3 rfl rfl rfl rfl rfl (by kernel_rfl) rfl rfl rfl) rfl bs_nil (wt_none' rfl) fun g68 => ?_
 obtain ⟨r69, hr69, hp⟩ := bind_some hp
 refine px_ox' rfl (ox_append' (K := (Ki .i64)) (i := 3) (xs := a0_4) (ys := ([(r48.length : Int)])) rfl rfl rfl (sr_row' (j := 0) rfl rfl rfl Try.underlying23) hr69 Try.underlying23 info3 rfl rfl rfl (H' := [(Rg (Ki .i64) 3 g68 ([(r48.length : Int)])), (Rg Kf 32 g48 r48), (Ur wa0 139 (C2 a0_0 a0_1 g48 a0_3 wa0_4)), (Ur wa1 138 (C3 a1_0 a1_1 a1_2 a1_3))]) rfl) rfl bs_nil (wt_none' rfl) fun g69 => ?_
 refine pd rfl (rd_nilck' rfl) ?_
 refine pd rfl (rd_field0' rfl Try.underlying139 rfl info130 rfl) ?_
 refine pd rfl (rd_field' (off := 4) rfl Try.underlying130 rfl info23 rfl) ?_
 refine px_oxv' rfl (oxv_store (i := 3) (o := 4) rfl rfl (lv_vl rfl rfl) (ar rfl rfl rfl rfl) rfl info23 rfl (H' := [(Rg (Ki .i64) 3 g69 r69), (Rg (Ki .i64) 3 g68 ([(r48.length : Int)])), (Rg Kf 32 g48 r48), (Ur wa0 139 (C2 a0_0 a0_1 g48 a0_3 g69)), (Ur wa1 138 (C3 a1_0 a1_1 a1_2 a1_3))]) rfl) rfl rfl bo_nil (wt_none' rfl) fun _ => ?_
 refine px_nil' ?_
 show TX E K6 _
 refine tx_k' hK6 ?_
 refine cr fun K7 hK7 => ?_
 refine sa rfl ?_
 refine nk hK7 ?_
 refine cx_retc' ?_
 replace hp := sj hp
 subst hp
 refine tk (L' := [(4, Ve)]) (H' := [(Ur wa0 139 (C2 a0_0 a0_1 g48 a0_3 g69)), (Rg Kf 32 g48 r48), (Rg (Ki .i64) 3 g69 r69), (Ur wa1 138 (C3 a1_0 a1_1 a1_2 a1_3))]) [3, 2, 0, 4] (uc rfl un) (p4 rfl rfl rfl rfl) ?_
 exact tx_ret1' Try.results44 rfl (g48, g69) (rv_tmp' rfl) lr

def gogeom_geom0_SRID_v3 (k : Nat) (a0_0 a0_1 : Int) (a0_2 : List Nat) (a0_3 : Int) (a0_4 : List Int) : Option (Int × Int × (List Nat) × Int × (List Int)) :=
 some (a0_0, a0_1, a0_2, a0_3, a0_4)

theorem gogeom_geom0_SRID_v3_sim {k : Nat} {wa0 : Addr} {wa0_2 wa0_4 : Gs} (a0_0 a0_1 : Int) (a0_2 : List Nat) (a0_3 : Int) (a0_4 : List Int) {out : Int × Int × (List Nat) × Int × (List Int)} (hp : gogeom_geom0_SRID_v3 k a0_0 a0_1 a0_2 a0_3 a0_4 = some out) : Sx.Fn Try.prog 136 [(Vp wa0)] [(Ur wa0 139 (C2 a0_0 a0_1 wa0_2 a0_3 wa0_4)), (Rg Kf 32 wa0_2 a0_2), (Rg (Ki .i64) 3 wa0_4 a0_4)] (fun w : Unit => (Vi out.2.2.2.1)) (fun w => [(Ur wa0 139 (C2 out.1 out.2.1 wa0_2 out.2.2.2.1 wa0_4)), (Rg Kf 32 wa0_2 out.2.2.1), (Rg (Ki .i64) 3 wa0_4 out.2.2.2.2)]) := by
 unfold gogeom_geom0_SRID_v3 at hp
 refine fn_of Try.func136 rfl Try.ntmps136 rfl fun E hM => ?_
 refine cr fun K1 hK1 => ?_
 refine sa rfl ?_
 refine nk hK1 ?_
 refine cr fun K2 hK2 => ?_
 refine sm rfl ?_
 refine sn rfl ?_
 refine sg (off := 3) rfl Try.underlying124 rfl info3 rfl ?_
 refine sl (i := 0) (o := 3) rfl (ar rfl rfl rfl rfl) rfl flat3 ?_
 refine sa rfl ?_
 refine nk hK2 ?_
 refine cx_retc' ?_
 replace hp := sj hp
 subst hp
 refine tk (L' := [(2, (Vi a0_3))]) (H' := [(Ur wa0 139 (C2 a0_0 a0_1 wa0_2 a0_3 wa0_4)), (Rg Kf 32 wa0_2 a0_2), (Rg (Ki .i64) 3 wa0_4 a0_4)]) [0, 1, 2] (uc rfl un) (p3 rfl rfl rfl) ?_
 exact tx_ret1' Try.results136 rfl () (rv_tmp' rfl) lr

def gogeom_geom0_Layout_v6 (k : Nat) (a0_0 a0_1 : Int) (a0_2 : List Nat) (a0_3 : Int) (a0_4 : List Int) : Option (Int × Int × (List Nat) × Int × (List Int)) :=
 some (a0_0, a0_1, a0_2, a0_3, a0_4)

theorem gogeom_geom0_Layout_v6_sim {k : Nat} {wa0 : Addr} {wa0_2 wa0_4 : Gs} (a0_0 a0_1 : Int) (a0_2 : List Nat) (a0_3 : Int) (a0_4 : List Int) {out : Int × Int × (List Nat) × Int × (List Int)} (hp : gogeom_geom0_Layout_v6 k a0_0 a0_1 a0_2 a0_3 a0_4 = some out) : Sx.Fn Try.prog 134 [(Vp wa0)] [(Ur wa0 139 (C2 a0_0 a0_1 wa0_2 a0_3 wa0_4)), (Rg Kf 32 wa0_2 a0_2), (Rg (Ki .i64) 3 wa0_4 a0_4)] (fun w : Unit => (Vi out.1)) (fun w => [(Ur wa0 139 (C2 out.1 out.2.1 wa0_2 out.2.2.2.1 wa0_4)), (Rg Kf 32 wa0_2 out.2.2.1), (Rg (Ki .i64) 3 wa0_4 out.2.2.2.2)]) := by
 unfold gogeom_geom0_Layout_v6 at hp
 refine fn_of Try.func134 rfl Try.ntmps134 rfl fun E hM => ?_
 refine cr fun K1 hK1 => ?_
 refine sa rfl ?_
 refine nk hK1 ?_
 refine cr fun K2 hK2 => ?_
 refine sm rfl ?_
 refine sn rfl ?_
 refine sf rfl Try.underlying124 rfl info61 rfl ?_
 refine sl (i := 0) (o := 0) rfl (ar rfl rfl rfl rfl) rfl flat61 ?_
 refine sa rfl ?_
 refine nk hK2 ?_
 refine cx_retc' ?_
 replace hp := sj hp
 subst hp
 refine tk (L' := [(2, (Vi a0_0))]) (H' := [(Ur wa0 139 (C2 a0_0 a0_1 wa0_2 a0_3 wa0_4)), (Rg Kf 32 wa0_2 a0_2), (Rg (Ki .i64) 3 wa0_4 a0_4)]) [0, 1, 2] (uc rfl un) (p3 rfl rfl rfl) ?_
 exact tx_ret1' Try.results134 rfl () (rv_tmp' rfl) lr

def gogeom_geom0_FlatCoords_v3 (k : Nat) (a0_0 a0_1 : Int) (a0_2 : List Nat) (a0_3 : Int) (a0_4 : List Int) : Option (Int × Int × (List Nat) × Int × (List Int)) :=
 some (a0_0, a0_1, a0_2, a0_3, a0_4)

theorem gogeom_geom0_FlatCoords_v3_sim {k : Nat} {wa0 : Addr} {wa0_2 wa0_4 : Gs} (a0_0 a0_1 : Int) (a0_2 : List Nat) (a0_3 : Int) (a0_4 : List Int) {out : Int × Int × (List Nat) × Int × (List Int)} (hp : gogeom_geom0_FlatCoords_v3 k a0_0 a0_1 a0_2 a0_3 a0_4 = some out) : Sx.Fn Try.prog 133 [(Vp wa0)] [(Ur wa0 139 (C2 a0_0 a0_1 wa0_2 a0_3 wa0_4)), (Rg Kf 32 wa0_2 a0_2), (Rg (Ki .i64) 3 wa0_4 a0_4)] (fun w : Unit => (Vw wa0_2)) (fun w => [(Ur wa0 139 (C2 out.1 out.2.1 wa0_2 out.2.2.2.1 wa0_4)), (Rg Kf 32 wa0_2 out.2.2.1), (Rg (Ki .i64) 3 wa0_4 out.2.2.2.2)]) := by
 unfold gogeom_geom0_FlatCoords_v3 at hp
 refine fn_of Try.func133 rfl Try.ntmps133 rfl fun E hM => ?_
 refine cr fun K1 hK1 => ?_
 refine sa rfl ?_
 refine nk hK1 ?_
 refine cr fun K2 hK2 => ?_
 refine sm rfl ?_
 refine sn rfl ?_
 refine sg (off := 2) rfl Try.underlying124 rfl info22 rfl ?_
 refine sl (i := 0) (o := 2) rfl (ar rfl rfl rfl rfl) rfl flat22 ?_
 refine sa rfl ?_
 refine nk hK2 ?_
 refine cx_retc' ?_
 replace hp := sj hp
 subst hp
 refine tk (L' := [(2, (Vw wa0_2))]) (H' := [(Ur wa0 139 (C2 a0_0 a0_1 wa0_2 a0_3 wa0_4)), (Rg Kf 32 wa0_2 a0_2), (Rg (Ki .i64) 3 wa0_4 a0_4)]) [0, 1, 2] (uc rfl un) (p3 rfl rfl rfl) ?_
 exact tx_ret1' Try.results133 rfl () (rv_tmp' rfl) lr

def gogeom_geom2_Ends_v3 (k : Nat) (a0_0 a0_1 : Int) (a0_2 : List Nat) (a0_3 : Int) (a0_4 : List Int) : Option (Int × Int × (List Nat) × Int × (List Int)) :=
 some (a0_0, a0_1, a0_2, a0_3, a0_4)

theorem gogeom_geom2_Ends_v3_sim {k : Nat} {wa0 : Addr} {wa0_2 wa0_4 : Gs} (a0_0 a0_1 : Int) (a0_2 : List Nat) (a0_3 : Int) (a0_4 : List Int) {out : Int × Int × (List Nat) × Int × (List Int)} (hp : gogeom_geom2_Ends_v3 k a0_0 a0_1 a0_2 a0_3 a0_4 = some out) : Sx.Fn Try.prog 131 [(Vp wa0)] [(Ur wa0 139 (C2 a0_0 a0_1 wa0_2 a0_3 wa0_4)), (Rg Kf 32 wa0_2 a0_2), (Rg (Ki .i64) 3 wa0_4 a0_4)] (fun w : Unit => (Vw wa0_4)) (fun w => [(Ur wa0 139 (C2 out.1 out.2.1 wa0_2 out.2.2.2.1 wa0_4)), (Rg Kf 32 wa0_2 out.2.2.1), (Rg (Ki .i64) 3 wa0_4 out.2.2.2.2)]) := by
 unfold gogeom_geom2_Ends_v3 at hp
 refine fn_of Try.func131 rfl Try.ntmps131 rfl fun E hM => ?_
 refine cr fun K1 hK1 => ?_
 refine sa rfl ?_
 refine nk hK1 ?_
 refine cr fun K2 hK2 => ?_
 refine sm rfl ?_
 refine sn rfl ?_
 refine sg (off := 4) rfl Try.underlying130 rfl info23 rfl ?_
 refine sl (i := 0) (o := 4) rfl (ar rfl rfl rfl rfl) rfl flat23 ?_
 refine sa rfl ?_
 refine nk hK2 ?_
 refine cx_retc' ?_
 replace hp := sj hp
 subst hp
 refine tk (L' := [(2, (Vw wa0_4))]) (H' := [(Ur wa0 139 (C2 a0_0 a0_1 wa0_2 a0_3 wa0_4)), (Rg Kf 32 wa0_2 a0_2), (Rg (Ki .i64) 3 wa0_4 a0_4)]) [0, 1, 2] (uc rfl un) (p3 rfl rfl rfl) ?_
 exact tx_ret1' Try.results131 rfl () (rv_tmp' rfl) lr

def gogeom_geom0_Endss_v3 (k : Nat) (a0_0 a0_1 : Int) (a0_2 : List Nat) (a0_3 : Int) (a0_4 : List Int) : Option (Int × Int × (List Nat) × Int × (List Int)) :=
 some (a0_0, a0_1, a0_2, a0_3, a0_4)

theorem gogeom_geom0_Endss_v3_sim {k : Nat} {wa0 : Addr} {wa0_2 wa0_4 : Gs} (a0_0 a0_1 : Int) (a0_2 : List Nat) (a0_3 : Int) (a0_4 : List Int) {out : Int × Int × (List Nat) × Int × (List Int)} (hp : gogeom_geom0_Endss_v3 k a0_0 a0_1 a0_2 a0_3 a0_4 = some out) : Sx.Fn Try.prog 132 [(Vp wa0)] [(Ur wa0 139 (C2 a0_0 a0_1 wa0_2 a0_3 wa0_4)), (Rg Kf 32 wa0_2 a0_2), (Rg (Ki .i64) 3 wa0_4 a0_4)] (fun w : Unit => Vn) (fun w => [(Ur wa0 139 (C2 out.1 out.2.1 wa0_2 out.2.2.2.1 wa0_4)), (Rg Kf 32 wa0_2 out.2.2.1), (Rg (Ki .i64) 3 wa0_4 out.2.2.2.2)]) := by
 unfold gogeom_geom0_Endss_v3 at hp
 refine fn_of Try.func132 rfl Try.ntmps132 rfl fun E hM => ?_
 refine cr fun K1 hK1 => ?_
 refine sa rfl ?_
 refine nk hK1 ?_
 refine cr fun K2 hK2 => ?_
 refine sa rfl ?_
 refine nk hK2 ?_
 refine cx_retc' ?_
 replace hp := sj hp
 subst hp
 refine tk (L' := [(2, Vn)]) (H' := [(Ur wa0 139 (C2 a0_0 a0_1 wa0_2 a0_3 wa0_4)), (Rg Kf 32 wa0_2 a0_2), (Rg (Ki .i64) 3 wa0_4 a0_4)]) [0, 1, 2] (uc rfl un) (p3 rfl rfl rfl) ?_
 exact tx_ret1' Try.results132 rfl () (rv_tmp' rfl) lr

def impl_plain_v3 (k : Nat) (a0_0 a0_1 : Int) (a0_2 : List Nat) (a0_3 : Int) (a0_4 : List Int) : Option (Int × Int × (List Nat) × Int × (List Int) × Int × Int × Int × (List Nat) × (List Int)) :=
 (gogeom_geom0_SRID_v3 k a0_0 a0_1 a0_2 a0_3 a0_4) >>= fun r15 =>
 (gogeom_geom0_Layout_v6 k r15.1 r15.2.1 r15.2.2.1 r15.2.2.2.1 r15.2.2.2.2) >>= fun r70 =>
 (gogeom_geom0_FlatCoords_v3 k r70.1 r70.2.1 r70.2.2.1 r70.2.2.2.1 r70.2.2.2.2) >>= fun r72 =>
 (impl_floats_v2 k r72.2.2.1) >>= fun r73 =>
 (gogeom_geom2_Ends_v3 k r72.1 r72.2.1 r73.1 r72.2.2.2.1 r72.2.2.2.2) >>= fun r75 =>
 (impl_ints_v2 k r75.2.2.2.2) >>= fun r76 =>
 (gogeom_geom0_Endss_v3 k r75.1 r75.2.1 r75.2.2.1 r75.2.2.2.1 r76.1) >>= fun r78 =>
 (impl_intss_v2 k) >>= fun r79 =>
 some (r78.1, r78.2.1, r78.2.2.1, r78.2.2.2.1, r78.2.2.2.2, 5, r70.1, r15.2.2.2.1, r73.2, r76.2)

theorem impl_plain_v3_sim {k : Nat} {wa0 : Addr} {wa0_2 wa0_4 : Gs} (a0_0 a0_1 : Int) (a0_2 : List Nat) (a0_3 : Int) (a0_4 : List Int) {out : Int × Int × (List Nat) × Int × (List Int) × Int × Int × Int × (List Nat) × (List Int)} (hp : impl_plain_v3 k a0_0 a0_1 a0_2 a0_3 a0_4 = some out) : Sx.Fn Try.prog 34 [(If 73 (Vp wa0))] [(Ur wa0 139 (C2 a0_0 a0_1 wa0_2 a0_3 wa0_4)), (Rg Kf 32 wa0_2 a0_2), (Rg (Ki .i64) 3 wa0_4 a0_4)] (fun w : Unit => (Ag (C5 out.2.2.2.2.2.1 out.2.2.2.2.2.2.1 out.2.2.2.2.2.2.2.1 out.2.2.2.2.2.2.2.2.1 out.2.2.2.2.2.2.2.2.2))) (fun w => [(Ur wa0 139 (C2 out.1 out.2.1 wa0_2 out.2.2.2.1 wa0_4)), (Rg Kf 32 wa0_2 out.2.2.1), (Rg (Ki .i64) 3 wa0_4 out.2.2.2.2.1)]) := by
 unfold impl_plain_v3 at hp
 refine fn_of Try.func34 rfl Try.ntmps34 rfl fun E hM => ?_
 refine cr fun K1 hK1 => ?_
 refine so (ox_alloc' info27 rfl rfl rfl rfl (l := (C1 0 0 0)) rfl) fun q2 => ?_
 refine nk hK1 ?_
 refine cr fun K2 hK2 => ?_
 refine sm rfl ?_
 obtain ⟨r15, hr15, hp⟩ := bind_some hp
 refine so (ox_callg' (ent_inv' rfl rfl (inv_ptr0 (inv73_SRID _))) (gogeom_geom0_SRID_v3_sim _ _ _ _ _ hr15 : Sx.Fn Try.prog 136 [(Vp wa0)] [(Ur wa0 139 (C2 a0_0 a0_1 wa0_2 a0_3 wa0_4)), (Rg Kf 32 wa0_2 a0_2), (Rg (Ki .i64) 3 wa0_4 a0_4)] (fun x : Unit => (Vi r15.2.2.2.1)) (fun x => [(Ur wa0 139 (C2 r15.1 r15.2.1 wa0_2 r15.2.2.2.1 wa0_4)), (Rg Kf 32 wa0_2 r15.2.2.1), (Rg (Ki .i64) 3 wa0_4 r15.2.2.2.2)])) [1, 2, 3] [0] (by decide) (p3 rfl rfl rfl) (pc rfl pn) (Hn := fun x : Unit => [(Ur wa0 139 (C2 r15.1 r15.2.1 wa0_2 r15.2.2.2.1 wa0_4)), (Rg Kf 32 wa0_2 r15.2.2.1), (Rg (Ki .i64) 3 wa0_4 r15.2.2.2.2), (Ur q2 27 (C1 0 0 0))]) (fun _ => rfl) rfl rfl) fun ⟨⟩ => ?_
 refine sv (pls := [(0, 1), (1, 1), (2, 1), (3, 1), (4, 1), (5, 1), (6, 1)]) (qs := [(2, [(Vi r15.2.2.2.1)])]) (r := (C1 0 0 r15.2.2.2.1)) ⟨rfl, ⟨_, rfl, (lv_vl rfl rfl)⟩, trivial⟩ Try.underlying27 has27 places27 info27 rfl rfl rfl ?_
 refine so (ox_alloc' info27 rfl rfl rfl rfl (l := (C1 0 0 0)) rfl) fun q3 => ?_
 refine so (ox_store' (i := 0) (o := 0) rfl rfl (lv_ag _) (ar rfl rfl rfl rfl) rfl info27 rfl (H' := [(Ur q3 27 (C1 0 0 r15.2.2.2.1)), (Ur wa0 139 (C2 r15.1 r15.2.1 wa0_2 r15.2.2.2.1 wa0_4)), (Rg Kf 32 wa0_2 r15.2.2.1), (Rg (Ki .i64) 3 wa0_4 r15.2.2.2.2), (Ur q2 27 (C1 0 0 0))]) rfl) fun _ => ?_
 refine nk hK2 ?_
 refine cx_seq' fun K3 hK3 => ?_
 refine cr fun K4 hK4 => ?_
 refine sm rfl ?_
 refine nk hK4 ?_
 refine cx_block' ?_
 refine cr fun K5 hK5 => ?_
 refine st rfl (F := fun _ => .tuple #[.pointer none, .bool false]) as73_53_72 as_no ?_
 iterate 2 refine se rfl rfl ?_
 refine nk hK5 ?_
 refine cx_cond_f' rfl rfl ?_
 refine cr fun K6 hK6 => ?_
 refine st rfl (F := fun _ => .tuple #[.pointer none, .bool false]) as73_53_75 as_no ?_
 iterate 2 refine se rfl rfl ?_
 refine nk hK6 ?_
 refine cx_cond_f' rfl rfl ?_
 refine cr fun K7 hK7 => ?_
 refine st rfl (F := fun _ => .tuple #[.pointer none, .bool false]) as73_53_69 as_no ?_
 iterate 2 refine se rfl rfl ?_
 refine nk hK7 ?_
 refine cx_cond_f' rfl rfl ?_
 refine cr fun K8 hK8 => ?_
 refine st rfl (F := fun _ => .tuple #[.pointer none, .bool false]) as73_53_67 as_no ?_
 iterate 2 refine se rfl rfl ?_
 refine nk hK8 ?_
 refine cx_cond_f' rfl rfl ?_
 refine cr fun K9 hK9 => ?_
 refine st rfl (F := fun _ => .tuple #[.pointer none, .bool false]) as73_53_70 as_no ?_
 iterate 2 refine se rfl rfl ?_
 refine nk hK9 ?_
 refine cx_cond_f' rfl rfl ?_
 refine cr fun K10 hK10 => ?_
 refine st rfl (F := fun v => .tuple #[v, .bool true]) as73_53_73k as_ok ?_
 iterate 2 refine se rfl rfl ?_
 refine nk hK10 ?_
 refine cx_cond_t' rfl rfl ?_
 refine cr fun K11 hK11 => ?_
 refine sa rfl ?_
 refine nk hK11 ?_
 refine cx_region' ?_
 refine sf rfl Try.underlying27 rfl info3 rfl ?_
 refine so (ox_store' (i := 0) (o := 0) rfl rfl (lv_vl rfl rfl) (ar rfl rfl rfl rfl) rfl info3 rfl (H' := [(Ur q3 27 (C1 5 0 r15.2.2.2.1)), (Ur wa0 139 (C2 r15.1 r15.2.1 wa0_2 r15.2.2.2.1 wa0_4)), (Rg Kf 32 wa0_2 r15.2.2.1), (Rg (Ki .i64) 3 wa0_4 r15.2.2.2.2), (Ur q2 27 (C1 0 0 0))]) rfl) fun _ => ?_
 refine nk hK3 ?_
 refine cr fun K12 hK12 => ?_
 refine sm rfl ?_
 obtain ⟨r70, hr70, hp⟩ := bind_some hp
 refine so (ox_callg' (ent_inv' rfl rfl (inv_ptr0 (inv73_Layout _))) (gogeom_geom0_Layout_v6_sim _ _ _ _ _ hr70 : Sx.Fn Try.prog 134 [(Vp wa0)] [(Ur wa0 139 (C2 r15.1 r15.2.1 wa0_2 r15.2.2.2.1 wa0_4)), (Rg Kf 32 wa0_2 r15.2.2.1), (Rg (Ki .i64) 3 wa0_4 r15.2.2.2.2)] (fun x : Unit => (Vi r70.1)) (fun x => [(Ur wa0 139 (C2 r70.1 r70.2.1 wa0_2 r70.2.2.2.1 wa0_4)), (Rg Kf 32 wa0_2 r70.2.2.1), (Rg (Ki .i64) 3 wa0_4 r70.2.2.2.2)])) [1, 2, 3] [0, 4] (by decide) (p3 rfl rfl rfl) (p2 rfl rfl) (Hn := fun x : Unit => [(Ur wa0 139 (C2 r70.1 r70.2.1 wa0_2 r70.2.2.2.1 wa0_4)), (Rg Kf 32 wa0_2 r70.2.2.1), (Rg (Ki .i64) 3 wa0_4 r70.2.2.2.2), (Ur q3 27 (C1 5 0 r15.2.2.2.1)), (Ur q2 27 (C1 0 0 0))]) (fun _ => rfl) rfl rfl) fun ⟨⟩ => ?_
 refine sm rfl ?_
 obtain ⟨r72, hr72, hp⟩ := bind_some hp
 refine so (ox_callg' (ent_inv' rfl rfl (inv_ptr0 (inv73_FlatCoords _))) (gogeom_geom0_FlatCoords_v3_sim _ _ _ _ _ hr72 : Sx.Fn Try.prog 133 [(Vp wa0)] [(Ur wa0 139 (C2 r70.1 r70.2.1 wa0_2 r70.2.2.2.1 wa0_4)), (Rg Kf 32 wa0_2 r70.2.2.1), (Rg (Ki .i64) 3 wa0_4 r70.2.2.2.2)] (fun x : Unit => (Vw wa0_2)) (fun x => [(Ur wa0 139 (C2 r72.1 r72.2.1 wa0_2 r72.2.2.2.1 wa0_4)), (Rg Kf 32 wa0_2 r72.2.2.1), (Rg (Ki .i64) 3 wa0_4 r72.2.2.2.2)])) [0, 1, 2] [3, 4] (by decide) (p3 rfl rfl rfl) (p2 rfl rfl) (Hn := fun x : Unit => [(Ur wa0 139 (C2 r72.1 r72.2.1 wa0_2 r72.2.2.2.1 wa0_4)), (Rg Kf 32 wa0_2 r72.2.2.1), (Rg (Ki .i64) 3 wa0_4 r72.2.2.2.2), (Ur q3 27 (C1 5 0 r15.2.2.2.1)), (Ur q2 27 (C1 0 0 0))]) (fun _ => rfl) rfl rfl) fun ⟨⟩ => ?_
 obtain ⟨r73, hr73, hp⟩ := bind_some hp
 refine so (ox_callg' (ent_fn' Try.func59 isn59 rfl rfl) (impl_floats_v2_sim _ hr73 : Sx.Fn Try.prog 59 [(Vw wa0_2)] [(Rg Kf 32 wa0_2 r72.2.2.1)] (fun x : Gs => (Vw x)) (fun x => [(Rg Kf 32 wa0_2 r73.1), (Rg Kf 32 x r73.2)])) [1] [0, 2, 3, 4] (by decide) (pc rfl pn) (p4 rfl rfl rfl rfl) (Hn := fun x : Gs => [(Rg Kf 32 wa0_2 r73.1), (Rg Kf 32 x r73.2), (Ur wa0 139 (C2 r72.1 r72.2.1 wa0_2 r72.2.2.2.1 wa0_4)), (Rg (Ki .i64) 3 wa0_4 r72.2.2.2.2), (Ur q3 27 (C1 5 0 r15.2.2.2.1)), (Ur q2 27 (C1 0 0 0))]) (fun _ => rfl) rfl rfl) fun g73 => ?_
 refine sm rfl ?_
 obtain ⟨r75, hr75, hp⟩ := bind_some hp
 refine so (ox_callg' (ent_inv' rfl rfl (inv_ptr0 (inv73_Ends _))) (gogeom_geom2_Ends_v3_sim _ _ _ _ _ hr75 : Sx.Fn Try.prog 131 [(Vp wa0)] [(Ur wa0 139 (C2 r72.1 r72.2.1 wa0_2 r72.2.2.2.1 wa0_4)), (Rg Kf 32 wa0_2 r73.1), (Rg (Ki .i64) 3 wa0_4 r72.2.2.2.2)] (fun x : Unit => (Vw wa0_4)) (fun x => [(Ur wa0 139 (C2 r75.1 r75.2.1 wa0_2 r75.2.2.2.1 wa0_4)), (Rg Kf 32 wa0_2 r75.2.2.1), (Rg (Ki .i64) 3 wa0_4 r75.2.2.2.2)])) [2, 0, 3] [1, 4, 5] (by decide) (p3 rfl rfl rfl) (p3 rfl rfl rfl) (Hn := fun x : Unit => [(Ur wa0 139 (C2 r75.1 r75.2.1 wa0_2 r75.2.2.2.1 wa0_4)), (Rg Kf 32 wa0_2 r75.2.2.1), (Rg (Ki .i64) 3 wa0_4 r75.2.2.2.2), (Rg Kf 32 g73 r73.2), (Ur q3 27 (C1 5 0 r15.2.2.2.1)), (Ur q2 27 (C1 0 0 0))]) (fun _ => rfl) rfl rfl) fun ⟨⟩ => ?_
 obtain ⟨r76, hr76, hp⟩ := bind_some hp
 refine so (ox_callg' (ent_fn' Try.func58 isn58 rfl rfl) (impl_ints_v2_sim _ hr76 : Sx.Fn Try.prog 58 [(Vw wa0_4)] [(Rg (Ki .i64) 3 wa0_4 r75.2.2.2.2)] (fun x : Gs => (Vw x)) (fun x => [(Rg (Ki .i64) 3 wa0_4 r76.1), (Rg (Ki .i64) 3 x r76.2)])) [2] [0, 1, 3, 4, 5] (by decide) (pc rfl pn) (p5 rfl rfl rfl rfl rfl) (Hn := fun x : Gs => [(Rg (Ki .i64) 3 wa0_4 r76.1), (Rg (Ki .i64) 3 x r76.2), (Ur wa0 139 (C2 r75.1 r75.2.1 wa0_2 r75.2.2.2.1 wa0_4)), (Rg Kf 32 wa0_2 r75.2.2.1), (Rg Kf 32 g73 r73.2), (Ur q3 27 (C1 5 0 r15.2.2.2.1)), (Ur q2 27 (C1 0 0 0))]) (fun _ => rfl) rfl rfl) fun g76 => ?_
 refine sm rfl ?_
 obtain ⟨r78, hr78, hp⟩ := bind_some hp
 refine so (ox_callg' (ent_inv' rfl rfl (inv_ptr0 (inv73_Endss _))) (gogeom_geom0_Endss_v3_sim _ _ _ _ _ hr78 : Sx.Fn Try.prog 132 [(Vp wa0)] [(Ur wa0 139 (C2 r75.1 r75.2.1 wa0_2 r75.2.2.2.1 wa0_4)), (Rg Kf 32 wa0_2 r75.2.2.1), (Rg (Ki .i64) 3 wa0_4 r76.1)] (fun x : Unit => Vn) (fun x => [(Ur wa0 139 (C2 r78.1 r78.2.1 wa0_2 r78.2.2.2.1 wa0_4)), (Rg Kf 32 wa0_2 r78.2.2.1), (Rg (Ki .i64) 3 wa0_4 r78.2.2.2.2)])) [2, 3, 0] [1, 4, 5, 6] (by decide) (p3 rfl rfl rfl) (p4 rfl rfl rfl rfl) (Hn := fun x : Unit => [(Ur wa0 139 (C2 r78.1 r78.2.1 wa0_2 r78.2.2.2.1 wa0_4)), (Rg Kf 32 wa0_2 r78.2.2.1), (Rg (Ki .i64) 3 wa0_4 r78.2.2.2.2), (Rg (Ki .i64) 3 g76 r76.2), (Rg Kf 32 g73 r73.2), (Ur q3 27 (C1 5 0 r15.2.2.2.1)), (Ur q2 27 (C1 0 0 0))]) (fun _ => rfl) rfl rfl) fun ⟨⟩ => ?_
 obtain ⟨r79, hr79, hp⟩ := bind_some hp
 refine so (oz (ent_fn' Try.func29 isn29 rfl rfl) (impl_intss_v2_sim hr79)) fun ⟨⟩ => ?_
 refine sg (off := 1) rfl Try.underlying27 rfl info3 rfl ?_
 refine so (ox_store' (i := 5) (o := 1) rfl rfl (lv_vl rfl rfl) (ar rfl rfl rfl rfl) rfl info3 rfl (H' := [(Ur wa0 139 (C2 r78.1 r78.2.1 wa0_2 r78.2.2.2.1 wa0_4)), (Rg Kf 32 wa0_2 r78.2.2.1), (Rg (Ki .i64) 3 wa0_4 r78.2.2.2.2), (Rg (Ki .i64) 3 g76 r76.2), (Rg Kf 32 g73 r73.2), (Ur q3 27 (C1 5 r70.1 r15.2.2.2.1)), (Ur q2 27 (C1 0 0 0))]) rfl) fun _ => ?_
 refine sg (off := 3) rfl Try.underlying27 rfl info22 rfl ?_
 refine so (ox_store' (i := 5) (o := 3) rfl rfl (lv_vl rfl rfl) (ar rfl rfl rfl rfl) rfl info22 rfl (H' := [(Ur wa0 139 (C2 r78.1 r78.2.1 wa0_2 r78.2.2.2.1 wa0_4)), (Rg Kf 32 wa0_2 r78.2.2.1), (Rg (Ki .i64) 3 wa0_4 r78.2.2.2.2), (Rg (Ki .i64) 3 g76 r76.2), (Rg Kf 32 g73 r73.2), (Ur q3 27 (C10 5 r70.1 r15.2.2.2.1 g73)), (Ur q2 27 (C1 0 0 0))]) rfl) fun _ => ?_
 refine sg (off := 4) rfl Try.underlying27 rfl info23 rfl ?_
 refine so (ox_store' (i := 5) (o := 4) rfl rfl (lv_vl rfl rfl) (ar rfl rfl rfl rfl) rfl info23 rfl (H' := [(Ur wa0 139 (C2 r78.1 r78.2.1 wa0_2 r78.2.2.2.1 wa0_4)), (Rg Kf 32 wa0_2 r78.2.2.1), (Rg (Ki .i64) 3 wa0_4 r78.2.2.2.2), (Rg (Ki .i64) 3 g76 r76.2), (Rg Kf 32 g73 r73.2), (Ur q3 27 (C7 5 r70.1 r15.2.2.2.1 g73 g76)), (Ur q2 27 (C1 0 0 0))]) rfl) fun _ => ?_
 refine sg (off := 5) rfl Try.underlying27 rfl info24 rfl ?_
 refine so (ox_store' (i := 5) (o := 5) rfl rfl (lv_vl rfl rfl) (ar rfl rfl rfl rfl) rfl info24 rfl (H' := [(Ur wa0 139 (C2 r78.1 r78.2.1 wa0_2 r78.2.2.2.1 wa0_4)), (Rg Kf 32 wa0_2 r78.2.2.1), (Rg (Ki .i64) 3 wa0_4 r78.2.2.2.2), (Rg (Ki .i64) 3 g76 r76.2), (Rg Kf 32 g73 r73.2), (Ur q3 27 (C7 5 r70.1 r15.2.2.2.1 g73 g76)), (Ur q2 27 (C1 0 0 0))]) rfl) fun _ => ?_
 refine nk hK12 ?_
 refine cr fun K13 hK13 => ?_
 refine s0 (rd_load_agg' (i := 5) (o := 0) (nn := 7) rfl (ar rfl rfl rfl rfl) rfl agg27 (l' := (C7 5 r70.1 r15.2.2.2.1 g73 g76)) rfl) ?_
 refine so (ox_store' (i := 6) (o := 0) rfl rfl (lv_ag _) (ar rfl rfl rfl rfl) rfl info27 rfl (H' := [(Ur wa0 139 (C2 r78.1 r78.2.1 wa0_2 r78.2.2.2.1 wa0_4)), (Rg Kf 32 wa0_2 r78.2.2.1), (Rg (Ki .i64) 3 wa0_4 r78.2.2.2.2), (Rg (Ki .i64) 3 g76 r76.2), (Rg Kf 32 g73 r73.2), (Ur q3 27 (C7 5 r70.1 r15.2.2.2.1 g73 g76)), (Ur q2 27 (C7 5 r70.1 r15.2.2.2.1 g73 g76))]) rfl) fun _ => ?_
 refine nk hK13 ?_
 refine cx_retc' ?_
 replace hp := sj hp
 subst hp
 refine tx_fz' (frz_row 4 [(73, (Vw g73), (Sl Kf r73.2)), (84, (Ag (C7 5 r70.1 r15.2.2.2.1 g73 g76)), (Ag (C9 5 r70.1 r15.2.2.2.1 r73.2 g76)))] (K := Kf) (xs := r73.2) (by decide) rfl ⟨⟨rfl, frz_it⟩, ⟨rfl, fz_ag (fc f0 (fc f0 (fc f0 (fc fz0_it (fc f0 (fc f0 (fc f0 fz0_nil)))))))⟩, trivial⟩ (H' := [(Ur wa0 139 (C2 r78.1 r78.2.1 wa0_2 r78.2.2.2.1 wa0_4)), (Rg Kf 32 wa0_2 r78.2.2.1), (Rg (Ki .i64) 3 wa0_4 r78.2.2.2.2), (Rg (Ki .i64) 3 g76 r76.2), (Ur q3 27 (C9 5 r70.1 r15.2.2.2.1 r73.2 g76)), (Ur q2 27 (C9 5 r70.1 r15.2.2.2.1 r73.2 g76))]) (fk (fk (fk (fk (fh rfl rfl rfl (fl fs (fl fs (fl fs (fl frz_it (fl fs (fl fs (fl fs frzL_refl))))))) (fh rfl rfl rfl (fl fs (fl fs (fl fs (fl frz_it (fl fs (fl fs (fl fs frzL_refl))))))) frzH_refl))))))) ?_
 refine tx_fz' (frz_row 3 [(76, (Vw g76), (Sl (Ki .i64) r76.2)), (84, (Ag (C9 5 r70.1 r15.2.2.2.1 r73.2 g76)), (Ag (C5 5 r70.1 r15.2.2.2.1 r73.2 r76.2)))] (K := (Ki .i64)) (xs := r76.2) (by decide) rfl ⟨⟨rfl, frz_it⟩, ⟨rfl, fz_ag (fc f0 (fc f0 (fc f0 (fc f0 (fc fz0_it (fc f0 (fc f0 fz0_nil)))))))⟩, trivial⟩ (H' := [(Ur wa0 139 (C2 r78.1 r78.2.1 wa0_2 r78.2.2.2.1 wa0_4)), (Rg Kf 32 wa0_2 r78.2.2.1), (Rg (Ki .i64) 3 wa0_4 r78.2.2.2.2), (Ur q3 27 (C5 5 r70.1 r15.2.2.2.1 r73.2 r76.2)), (Ur q2 27 (C5 5 r70.1 r15.2.2.2.1 r73.2 r76.2))]) (fk (fk (fk (fh rfl rfl rfl (fl fs (fl fs (fl fs (fl fs (fl frz_it (fl fs (fl fs frzL_refl))))))) (fh rfl rfl rfl (fl fs (fl fs (fl fs (fl fs (fl frz_it (fl fs (fl fs frzL_refl))))))) frzH_refl)))))) ?_
 refine tk (L' := [(2, (Vp q2))]) (H' := [(Ur wa0 139 (C2 r78.1 r78.2.1 wa0_2 r78.2.2.2.1 wa0_4)), (Rg Kf 32 wa0_2 r78.2.2.1), (Rg (Ki .i64) 3 wa0_4 r78.2.2.2.2), (Ur q2 27 (C5 5 r70.1 r15.2.2.2.1 r73.2 r76.2))]) [0, 1, 2, 4] (uc rfl un) (p4 rfl rfl rfl rfl) ?_
 exact tx_ret1' Try.results34 rfl () (rv_cell_agg' (i := 3) (o := 0) (nn := 7) rfl (ar rfl rfl rfl rfl) rfl agg27 rfl) (List.Sublist.cons_cons _ (List.Sublist.cons_cons _ (List.Sublist.cons_cons _ (List.nil_sublist _))))

def gogeom_MultiPolygon_Push_j1 (k : Nat) (a0_2 a1_2 : List Nat) (a0_4 : List (List Int)) (a0_0 a0_1 : Int) (a0_3 a1_0 : Int) (a1_1 a1_3 : Int) (a1_4 x4 : List Int) : Option ((Int × Int × (List Nat) × Int × (List (List Int)) × Int × Int × (List Nat) × Int × (List Int)) ⊕ (Int × Int × (List Nat) × Int × (List (List Int)) × Int × Int × (List Nat) × Int × (List Int))) :=
 (apd 8 a0_2 a1_2) >>= fun r104 =>
 (apd 24 a0_4 ([x4])) >>= fun r118 =>
 some (.inr (a0_0, a0_1, r104, a0_3, r118, a1_0, a1_1, a1_2, a1_3, a1_4))
def gogeom_MultiPolygon_Push_l1s (a1_4 : List Int) (a0_2 : List Nat) (k : Nat) (rec1 : ((List Int) × Int) → Option ((List Int))) (x1 : List Int) (x2 : Int) : Option ((List Int)) :=
 br (decide (x2 < (a1_4.length : Int)))
  ((idx a1_4 x2) >>= fun r80 =>
  (idx x1 x2) >>= fun r87 =>
  rec1 ((x1.set x2.toNat (iadd .i64 r80 (a0_2.length : Int))), (iadd .i64 x2 1)))
  (some x1)
def gogeom_MultiPolygon_Push_l1 (a1_4 : List Int) (a0_2 : List Nat) : Nat → ((List Int) × Int) → Option ((List Int))
 | 0, _ => none
 | k + 1, v => gogeom_MultiPolygon_Push_l1s a1_4 a0_2 k (gogeom_MultiPolygon_Push_l1 a1_4 a0_2 k) v.1 v.2
def gogeom_MultiPolygon_Push (k : Nat) (a0_0 a0_1 : Int) (a0_2 : List Nat) (a0_3 : Int) (a0_4 : List (List Int)) (a1_0 a1_1 : Int) (a1_2 : List Nat) (a1_3 : Int) (a1_4 : List Int) : Option ((Int × Int × (List Nat) × Int × (List (List Int)) × Int × Int × (List Nat) × Int × (List Int)) ⊕ (Int × Int × (List Nat) × Int × (List (List Int)) × Int × Int × (List Nat) × Int × (List Int))) :=
 br (!decide (a1_0 = a0_0))
  (some (.inl (a0_0, a0_1, a0_2, a0_3, a0_4, a1_0, a1_1, a1_2, a1_3, a1_4)))
  (br (decide (0 < (a1_4.length : Int)))
   ((mk 8 0 (a1_4.length : Int) (a1_4.length : Int)) >>= fun r61 =>
   br (decide ((a0_2.length : Int) = 0))
    (gogeom_MultiPolygon_Push_j1 k a0_2 a1_2 a0_4 a0_0 a0_1 a0_3 a1_0 a1_1 a1_3 a1_4 (cpy r61 a1_4))
    ((gogeom_MultiPolygon_Push_l1 a1_4 a0_2 k (r61, 0)) >>= fun v2 =>
    gogeom_MultiPolygon_Push_j1 k a0_2 a1_2 a0_4 a0_0 a0_1 a0_3 a1_0 a1_1 a1_3 a1_4 v2))
   (gogeom_MultiPolygon_Push_j1 k a0_2 a1_2 a0_4 a0_0 a0_1 a0_3 a1_0 a1_1 a1_3 a1_4 []))
def gogeom_MultiPolygon_Push_r (wa0 : Addr) (wa0_2 wa0_4 : Gs) (wa1 : Addr) (wa1_2 wa1_4 : Gs) (a0_0 a0_1 : Int) (a0_2 : List Nat) (a0_3 : Int) (a0_4 : List (List Int)) (a1_0 a1_1 : Int) (a1_2 : List Nat) (a1_3 : Int) (a1_4 : List Int) (out : (Int × Int × (List Nat) × Int × (List (List Int)) × Int × Int × (List Nat) × Int × (List Int)) ⊕ (Int × Int × (List Nat) × Int × (List (List Int)) × Int × Int × (List Nat) × Int × (List Int))) (w : Gs × Gs) : SV := match out with
 | (.inl y) => (If 134 (Ag (C19 y.2.2.2.2.2.1 y.1)))
 | (.inr y) => Ve
def gogeom_MultiPolygon_Push_h (wa0 : Addr) (wa0_2 wa0_4 : Gs) (wa1 : Addr) (wa1_2 wa1_4 : Gs) (a0_0 a0_1 : Int) (a0_2 : List Nat) (a0_3 : Int) (a0_4 : List (List Int)) (a1_0 a1_1 : Int) (a1_2 : List Nat) (a1_3 : Int) (a1_4 : List Int) (out : (Int × Int × (List Nat) × Int × (List (List Int)) × Int × Int × (List Nat) × Int × (List Int)) ⊕ (Int × Int × (List Nat) × Int × (List (List Int)) × Int × Int × (List Nat) × Int × (List Int))) (w : Gs × Gs) : List Res := match out with
 | (.inl y) => [(Ur wa0 143 (C2 y.1 y.2.1 wa0_2 y.2.2.2.1 wa0_4)), (Rg Kf 32 wa0_2 y.2.2.1), (Rg (Kl (Ki .i64)) 23 wa0_4 y.2.2.2.2.1), (Ur wa1 132 (C2 y.2.2.2.2.2.1 y.2.2.2.2.2.2.1 wa1_2 y.2.2.2.2.2.2.2.2.1 wa1_4)), (Rg Kf 32 wa1_2 y.2.2.2.2.2.2.2.1), (Rg (Ki .i64) 3 wa1_4 y.2.2.2.2.2.2.2.2.2)]
 | (.inr y) => [(Ur wa0 143 (C2 y.1 y.2.1 w.1 y.2.2.2.1 w.2)), (Rg Kf 32 w.1 y.2.2.1), (Rg (Kl (Ki .i64)) 23 w.2 y.2.2.2.2.1), (Ur wa1 132 (C2 y.2.2.2.2.2.1 y.2.2.2.2.2.2.1 wa1_2 y.2.2.2.2.2.2.2.2.1 wa1_4)), (Rg Kf 32 wa1_2 y.2.2.2.2.2.2.2.1), (Rg (Ki .i64) 3 wa1_4 y.2.2.2.2.2.2.2.2.2)]

theorem gogeom_MultiPolygon_Push_sim {k : Nat} {wa0 : Addr} {wa0_2 wa0_4 : Gs} {wa1 : Addr} {wa1_2 wa1_4 : Gs} (a0_0 a0_1 : Int) (a0_2 : List Nat) (a0_3 : Int) (a0_4 : List (List Int)) (a1_0 a1_1 : Int) (a1_2 : List Nat) (a1_3 : Int) (a1_4 : List Int) {out : (Int × Int × (List Nat) × Int × (List (List Int)) × Int × Int × (List Nat) × Int × (List Int)) ⊕ (Int × Int × (List Nat) × Int × (List (List Int)) × Int × Int × (List Nat) × Int × (List Int))} (hp : gogeom_MultiPolygon_Push k a0_0 a0_1 a0_2 a0_3 a0_4 a1_0 a1_1 a1_2 a1_3 a1_4 = some out) : Sx.Fn Try.prog 45 [(Vp wa0), (Vp wa1)] [(Ur wa0 143 (C2 a0_0 a0_1 wa0_2 a0_3 wa0_4)), (Rg Kf 32 wa0_2 a0_2), (Rg (Kl (Ki .i64)) 23 wa0_4 a0_4), (Ur wa1 132 (C2 a1_0 a1_1 wa1_2 a1_3 wa1_4)), (Rg Kf 32 wa1_2 a1_2), (Rg (Ki .i64) 3 wa1_4 a1_4)] (fun w => gogeom_MultiPolygon_Push_r wa0 wa0_2 wa0_4 wa1 wa1_2 wa1_4 a0_0 a0_1 a0_2 a0_3 a0_4 a1_0 a1_1 a1_2 a1_3 a1_4 out w) (fun w => gogeom_MultiPolygon_Push_h wa0 wa0_2 wa0_4 wa1 wa1_2 wa1_4 a0_0 a0_1 a0_2 a0_3 a0_4 a1_0 a1_1 a1_2 a1_3 a1_4 out w) := by
 unfold gogeom_MultiPolygon_Push at hp
 refine fn_of Try.func45 rfl Try.ntmps45 rfl fun E hM => ?_
 refine cr fun K1 hK1 => ?_
 refine sa rfl ?_
 refine nk hK1 ?_
 refine cx_seq' fun K2 hK2 => ?_
 refine cx_seq' fun K3 hK3 => ?_
 refine cx_draw' mixed (by kernel_rfl) ?_
 refine qd (rd_move' rfl) ?_
 refine qd (rd_nilck' rfl) ?_
 refine qd (rd_field0' rfl Try.underlying132 rfl info130 rfl) ?_
 refine qd (rd_field0' rfl Try.underlying130 rfl info126 rfl) ?_
 refine qd (rd_field0' rfl Try.underlying126 rfl info124 rfl) ?_
 refine qd (rd_field0' rfl Try.underlying124 rfl info61 rfl) ?_
 refine qd (rd_load' (i := 3) (o := 0) rfl (ar rfl rfl rfl rfl) rfl flat61) ?_
 refine qd (rd_move' rfl) ?_
 refine qd (rd_nilck' rfl) ?_
 refine qd (rd_field0' rfl Try.underlying143 rfl info141 rfl) ?_
 refine qd (rd_field0' rfl Try.underlying141 rfl info126 rfl) ?_
 refine qd (rd_field0' rfl Try.underlying126 rfl info124 rfl) ?_
 refine qd (rd_field0' rfl Try.underlying124 rfl info61 rfl) ?_
 refine qd (rd_load' (i := 0) (o := 0) rfl (ar rfl rfl rfl rfl) rfl flat61) ?_
 refine qd (rd_bin' rfl rfl eg_int ru_neq) ?_
 refine qx_nil' ?_
 show TX E K3 _
 refine tx_k' hK3 ?_
 refine cx_cond' rfl (fun h1 => ?_) (fun h1 => ?_)
 ·replace hp := (br_t h1).symm.trans hp
  refine cx_seq' fun K4 hK4 => ?_
  refine cx_draw' mixed (by kernel_rfl) ?_
  refine qd (rd_move' rfl) ?_
  refine qd (rd_nilck' rfl) ?_
  refine qd (rd_field0' rfl Try.underlying132 rfl info130 rfl) ?_
  refine qd (rd_field0' rfl Try.underlying130 rfl info126 rfl) ?_
  refine qd (rd_field0' rfl Try.underlying126 rfl info124 rfl) ?_
  refine qd (rd_field0' rfl Try.underlying124 rfl info61 rfl) ?_
  refine qd (rd_load' (i := 3) (o := 0) rfl (ar rfl rfl rfl rfl) rfl flat61) ?_
  refine qd (rd_move' rfl) ?_
  refine qd (rd_nilck' rfl) ?_
  refine qd (rd_field0' rfl Try.underlying143 rfl info141 rfl) ?_
  refine qd (rd_field0' rfl Try.underlying141 rfl info126 rfl) ?_
  refine qd (rd_field0' rfl Try.underlying126 rfl info124 rfl) ?_
  refine qd (rd_field0' rfl Try.underlying124 rfl info61 rfl) ?_
  refine qd (rd_load' (i := 0) (o := 0) rfl (ar rfl rfl rfl rfl) rfl flat61) ?_
  refine qd (rd_build' (pls := [(0, 1), (1, 1)]) (qs := [(0, [(Vi a1_0)]), (1, [(Vi a0_0)])]) (r := (C19 a1_0 a0_0)) ⟨rfl, ⟨_, rfl, (lv_vl rfl rfl)⟩, ⟨rfl, ⟨_, rfl, (lv_vl rfl rfl)⟩, trivial⟩⟩ Try.underlying134 has134 places134 info134 rfl rfl rfl) ?_
  refine qd (rd_iface' rfl ⟨_, Try.underlying134, fun _ h => (nomatch h)⟩) ?_
  refine qd (rd_assign' rfl) ?_
  refine qx_nil' ?_
  show TX E K4 _
  refine tx_k' hK4 ?_
  refine cx_retc' ?_
  replace hp := sj hp
  subst hp
  refine tk (L' := [(4, (If 134 (Ag (C19 a1_0 a0_0))))]) (H' := [(Ur wa0 143 (C2 a0_0 a0_1 wa0_2 a0_3 wa0_4)), (Rg Kf 32 wa0_2 a0_2), (Rg (Kl (Ki .i64)) 23 wa0_4 a0_4), (Ur wa1 132 (C2 a1_0 a1_1 wa1_2 a1_3 wa1_4)), (Rg Kf 32 wa1_2 a1_2), (Rg (Ki .i64) 3 wa1_4 a1_4)]) [0, 1, 2, 3, 4, 5] (uc rfl un) (p6 rfl rfl rfl rfl rfl rfl) ?_
  exact tx_ret1' Try.results45 rfl ((none, 0, 0), (none, 0, 0)) (rv_tmp' rfl) lr
 replace hp := (br_f h1).symm.trans hp
 refine cx_skip' ?_
 show TX E K2 _
 refine tx_k' hK2 ?_
 refine cr fun K5 hK5 => ?_
 refine sm rfl ?_
 refine sn rfl ?_
 refine sf rfl Try.underlying143 rfl info141 rfl ?_
 refine sf rfl Try.underlying141 rfl info126 rfl ?_
 refine sf rfl Try.underlying126 rfl info124 rfl ?_
 refine sg (off := 2) rfl Try.underlying124 rfl info22 rfl ?_
 refine sl (i := 0) (o := 2) rfl (ar rfl rfl rfl rfl) rfl flat22 ?_
 refine s0 (rd_lenr' (i := 1) rfl rfl rfl Try.underlying22) ?_
 refine sa rfl ?_
 refine nk hK5 ?_
 refine cr fun K6 hK6 => ?_
 refine sa rfl ?_
 refine nk hK6 ?_
 refine cx_join' (fun (v3 : (List Int) × Gs) => (⟨122, [], [(0, (Vp wa0)), (1, (Vp wa1)), (6, (Vw v3.2))], [(Ur wa0 143 (C2 a0_0 a0_1 wa0_2 a0_3 wa0_4)), (Rg Kf 32 wa0_2 a0_2), (Rg (Kl (Ki .i64)) 23 wa0_4 a0_4), (Ur wa1 132 (C2 a1_0 a1_1 wa1_2 a1_3 wa1_4)), (Rg Kf 32 wa1_2 a1_2), (Rg (Ki .i64) 3 wa1_4 a1_4), (Rg (Ki .i64) 3 v3.2 v3.1)]⟩ : St)) (fun (v3 : (List Int) × Gs) => gogeom_MultiPolygon_Push_j1 k a0_2 a1_2 a0_4 a0_0 a0_1 a0_3 a1_0 a1_1 a1_3 a1_4 v3.1 = some out) ?_ ?_
 ·rintro ⟨x4, g901⟩ hp
  replace hp : gogeom_MultiPolygon_Push_j1 k a0_2 a1_2 a0_4 a0_0 a0_1 a0_3 a1_0 a1_1 a1_3 a1_4 x4 = some out := hp
  unfold gogeom_MultiPolygon_Push_j1 at hp
  refine cx_seq' fun K24 hK24 => ?_
  refine cx_plan' [] [(15, 1), (21, 1)] [(0, 2), (1, 1), (2, 1), (3, 1), (4, 1), (5, 1), (6, 1), (7, 1), (8, 1), (9, 1), (10, 1), (11, 1), (12, 1), (13, 1), (14, 1), (15, 0), (16, 1), (17, 1), (18, 1), (19, 1), (20, 1), (21, 0)] mixed (by kernel_rfl) ?_
  refine px_rb' rfl (rb_move' rfl) rfl rfl (wt_none' rfl) ?_
  refine pd rfl (rd_move' rfl) ?_
  refine pd rfl (rd_nilck' rfl) ?_
  refine pd rfl (rd_field0' rfl Try.underlying143 rfl info141 rfl) ?_
  refine pd rfl (rd_field0' rfl Try.underlying141 rfl info126 rfl) ?_
  refine pd rfl (rd_field0' rfl Try.underlying126 rfl info124 rfl) ?_
  refine pd rfl (rd_field' (off := 2) rfl Try.underlying124 rfl info22 rfl) ?_
  refine pd rfl (rd_load' (i := 0) (o := 2) rfl (ar rfl rfl rfl rfl) rfl flat22) ?_
  refine pd rfl (rd_move' rfl) ?_
  refine pd rfl (rd_nilck' rfl) ?_
  refine pd rfl (rd_field0' rfl Try.underlying132 rfl info130 rfl) ?_
  refine pd rfl (rd_field0' rfl Try.underlying130 rfl info126 rfl) ?_
  refine pd rfl (rd_field0' rfl Try.underlying126 rfl info124 rfl) ?_
  refine pd rfl (rd_field' (off := 2) rfl Try.underlying124 rfl info22 rfl) ?_
  refine pd rfl (rd_load' (i := 3) (o := 2) rfl (ar rfl rfl rfl rfl) rfl flat22) ?_
  obtain ⟨r104, hr104, hp⟩ := bind_some hp
  refine px_ox' rfl (ox_append' (K := Kf) (i := 1) (xs := a0_2) (ys := a1_2) rfl rfl rfl (sr_row' (j := 4) rfl rfl rfl Try.underlying22) hr104 Try.underlying22 info32 rfl rfl rfl (H' := [(Ur wa0 143 (C2 a0_0 a0_1 wa0_2 a0_3 wa0_4)), (Rg (Kl (Ki .i64)) 23 wa0_4 a0_4), (Ur wa1 132 (C2 a1_0 a1_1 wa1_2 a1_3 wa1_4)), (Rg Kf 32 wa1_2 a1_2), (Rg (Ki .i64) 3 wa1_4 a1_4), (Rg (Ki .i64) 3 g901 x4)]) rfl) rfl bs_nil (wt_none' rfl) fun g104 => ?_
  refine pd rfl (rd_nilck' rfl) ?_
  refine pd rfl (rd_field0' rfl Try.underlying143 rfl info141 rfl) ?_
  refine pd rfl (rd_field0' rfl Try.underlying141 rfl info126 rfl) ?_
  refine pd rfl (rd_field0' rfl Try.underlying126 rfl info124 rfl) ?_
  refine pd rfl (rd_field' (off := 2) rfl Try.underlying124 rfl info22 rfl) ?_
  refine px_oxv' rfl (oxv_store (i := 1) (o := 2) rfl rfl (lv_vl rfl rfl) (ar rfl rfl rfl rfl) rfl info22 rfl (H' := [(Rg Kf 32 g104 r104), (Ur wa0 143 (C2 a0_0 a0_1 g104 a0_3 wa0_4)), (Rg (Kl (Ki .i64)) 23 wa0_4 a0_4), (Ur wa1 132 (C2 a1_0 a1_1 wa1_2 a1_3 wa1_4)), (Rg Kf 32 wa1_2 a1_2), (Rg (Ki .i64) 3 wa1_4 a1_4), (Rg (Ki .i64) 3 g901 x4)]) rfl) rfl rfl bo_nil (wt_none' rfl) fun _ => ?_
  refine px_nil' ?_
  show TX E K24 _
  refine tx_k' hK24 ?_
  refine cr fun K25 hK25 => ?_
  iterate 2 refine sm rfl ?_
  refine sn rfl ?_
  refine sf rfl Try.underlying143 rfl info141 rfl ?_
  refine sg (off := 4) rfl Try.underlying141 rfl info24 rfl ?_
  refine sl (i := 1) (o := 4) rfl (ar rfl rfl rfl rfl) rfl flat24 ?_
  refine sm rfl ?_
  refine tx_fz' (frz_row 6 [(6, (Vw g901), (Sl (Ki .i64) x4)), (116, (Vw g901), (Sl (Ki .i64) x4))] (K := (Ki .i64)) (xs := x4) (by decide) rfl ⟨⟨rfl, frz_it⟩, ⟨rfl, frz_it⟩, trivial⟩ (H' := [(Rg Kf 32 g104 r104), (Ur wa0 143 (C2 a0_0 a0_1 g104 a0_3 wa0_4)), (Rg (Kl (Ki .i64)) 23 wa0_4 a0_4), (Ur wa1 132 (C2 a1_0 a1_1 wa1_2 a1_3 wa1_4)), (Rg Kf 32 wa1_2 a1_2), (Rg (Ki .i64) 3 wa1_4 a1_4)]) frzH_refl) ?_
  refine so (ox_rowlit' (K := (Kl (Ki .i64))) (xs := [x4]) (qs := [(0, [(Sl (Ki .i64) x4)])]) ⟨rfl, ⟨_, rfl, (lv_sl _ _)⟩, trivial⟩ Try.underlying24 info23 rfl rfl rfl rfl rfl (by kernel_rfl) rfl rfl rfl) fun g117 => ?_
  obtain ⟨r118, hr118, hp⟩ := bind_some hp
  refine so (ox_append' (K := (Kl (Ki .i64))) (i := 3) (xs := a0_4) (ys := ([x4])) rfl rfl rfl (sr_row' (j := 0) rfl rfl rfl Try.underlying24) hr118 Try.underlying24 info23 rfl rfl rfl (H' := [(Rg (Kl (Ki .i64)) 23 g117 ([x4])), (Rg Kf 32 g104 r104), (Ur wa0 143 (C2 a0_0 a0_1 g104 a0_3 wa0_4)), (Ur wa1 132 (C2 a1_0 a1_1 wa1_2 a1_3 wa1_4)), (Rg Kf 32 wa1_2 a1_2), (Rg (Ki .i64) 3 wa1_4 a1_4)]) rfl) fun g118 => ?_
  refine sn rfl ?_
  refine sf rfl Try.underlying143 rfl info141 rfl ?_
  refine sg (off := 4) rfl Try.underlying141 rfl info24 rfl ?_
  refine so (ox_store' (i := 3) (o := 4) rfl rfl (lv_vl rfl rfl) (ar rfl rfl rfl rfl) rfl info24 rfl (H' := [(Rg (Kl (Ki .i64)) 23 g118 r118), (Rg (Kl (Ki .i64)) 23 g117 ([x4])), (Rg Kf 32 g104 r104), (Ur wa0 143 (C2 a0_0 a0_1 g104 a0_3 g118)), (Ur wa1 132 (C2 a1_0 a1_1 wa1_2 a1_3 wa1_4)), (Rg Kf 32 wa1_2 a1_2), (Rg (Ki .i64) 3 wa1_4 a1_4)]) rfl) fun _ => ?_
  refine nk hK25 ?_
  refine cr fun K26 hK26 => ?_
  refine sa rfl ?_
  refine nk hK26 ?_
  refine cx_retc' ?_
  replace hp := sj hp
  subst hp
  refine tk (L' := [(4, Ve)]) (H' := [(Ur wa0 143 (C2 a0_0 a0_1 g104 a0_3 g118)), (Rg Kf 32 g104 r104), (Rg (Kl (Ki .i64)) 23 g118 r118), (Ur wa1 132 (C2 a1_0 a1_1 wa1_2 a1_3 wa1_4)), (Rg Kf 32 wa1_2 a1_2), (Rg (Ki .i64) 3 wa1_4 a1_4)]) [3, 2, 0, 4, 5, 6] (uc rfl un) (p6 rfl rfl rfl rfl rfl rfl) ?_
  exact tx_ret1' Try.results45 rfl (g104, g118) (rv_tmp' rfl) lr
 intro K7 hK7
 refine cr fun K8 hK8 => ?_
 refine sm rfl ?_
 refine sn rfl ?_
 refine sf rfl Try.underlying132 rfl info130 rfl ?_
 refine sg (off := 4) rfl Try.underlying130 rfl info23 rfl ?_
 refine sl (i := 3) (o := 4) rfl (ar rfl rfl rfl rfl) rfl flat23 ?_
 refine s0 (rd_lenr' (i := 5) rfl rfl rfl Try.underlying23) ?_
 refine sb rfl rfl eg_int ru_gtr ?_
 refine nk hK8 ?_
 refine cx_cond' rfl (fun h2 => ?_) (fun h2 => ?_)
 ·replace hp := (br_t h2).symm.trans hp
  refine cr fun K9 hK9 => ?_
  refine sm rfl ?_
  refine sn rfl ?_
  refine sf rfl Try.underlying132 rfl info130 rfl ?_
  refine sg (off := 4) rfl Try.underlying130 rfl info23 rfl ?_
  refine sl (i := 3) (o := 4) rfl (ar rfl rfl rfl rfl) rfl flat23 ?_
  refine s0 (rd_lenr' (i := 5) rfl rfl rfl Try.underlying23) ?_
  obtain ⟨r61, hr61, hp⟩ := bind_some hp
  refine so (ox_make' (K := (Ki .i64)) rfl rfl hr61 rfl Try.underlying23 info3 rfl rfl rfl rfl rfl) fun g61 => ?_
  refine sa rfl ?_
  refine nk hK9 ?_
  refine cr fun K10 hK10 => ?_
  refine sm rfl ?_
  refine sb rfl rfl eg_int ru_eql ?_
  refine nk hK10 ?_
  refine cx_cond' rfl (fun h3 => ?_) (fun h3 => ?_)
  ·replace hp := (br_t h3).symm.trans hp
   refine cx_region' ?_
   iterate 2 refine sm rfl ?_
   refine sn rfl ?_
   refine sf rfl Try.underlying132 rfl info130 rfl ?_
   refine sg (off := 4) rfl Try.underlying130 rfl info23 rfl ?_
   refine sl (i := 4) (o := 4) rfl (ar rfl rfl rfl rfl) rfl flat23 ?_
   refine so (ox_copyc' (K := (Ki .i64)) (i := 0) rfl rfl rfl (cs_row' (j := 6) rfl rfl rfl) rfl Try.underlying23 info3 rfl rfl (H' := [(Rg (Ki .i64) 3 g61 (cpy r61 a1_4)), (Ur wa0 143 (C2 a0_0 a0_1 wa0_2 a0_3 wa0_4)), (Rg Kf 32 wa0_2 a0_2), (Rg (Kl (Ki .i64)) 23 wa0_4 a0_4), (Ur wa1 132 (C2 a1_0 a1_1 wa1_2 a1_3 wa1_4)), (Rg Kf 32 wa1_2 a1_2), (Rg (Ki .i64) 3 wa1_4 a1_4)]) rfl) fun _ => ?_
   refine sx_nil' ?_
   show TX E K7 _
   exact tk [1, 2, 3, 4, 5, 6, 0] (u3 rfl rfl rfl) (p7 rfl rfl rfl rfl rfl rfl rfl) (hK7 ((cpy r61 a1_4), g61) hp)
  replace hp := (br_f h3).symm.trans hp
  refine cr fun K11 hK11 => ?_
  refine sm rfl ?_
  refine sn rfl ?_
  refine sf rfl Try.underlying132 rfl info130 rfl ?_
  refine sg (off := 4) rfl Try.underlying130 rfl info23 rfl ?_
  refine sl (i := 4) (o := 4) rfl (ar rfl rfl rfl rfl) rfl flat23 ?_
  refine s0 (rd_lenr' (i := 6) rfl rfl rfl Try.underlying23) ?_
  refine sm rfl ?_
  refine nk hK11 ?_
  refine cx_block' ?_
  obtain ⟨v2, hy1, hp⟩ := bind_some hp
  refine cx_loopg' (F := gogeom_MultiPolygon_Push_l1 a1_4 a0_2) (G := fun k R v => gogeom_MultiPolygon_Push_l1s a1_4 a0_2 k R v.1 v.2) (x := (r61, 0)) (gh := ()) (fun (v1 : (List Int) × Int) (w1 : Unit) => (⟨122, [], [(0, (Vp wa0)), (1, (Vp wa1)), (5, (Vi (a0_2.length : Int))), (6, (Vw g61)), (75, (Vw wa1_4)), (76, (Vi (a1_4.length : Int))), (77, (Vi v1.2))], [(Ur wa0 143 (C2 a0_0 a0_1 wa0_2 a0_3 wa0_4)), (Rg Kf 32 wa0_2 a0_2), (Rg (Kl (Ki .i64)) 23 wa0_4 a0_4), (Ur wa1 132 (C2 a1_0 a1_1 wa1_2 a1_3 wa1_4)), (Rg Kf 32 wa1_2 a1_2), (Rg (Ki .i64) 3 wa1_4 a1_4), (Rg (Ki .i64) 3 g61 v1.1)]⟩ : St)) (fun (v2 : (List Int)) => Zg E (Exit.exit 0) (fun (w2 : Unit) => (⟨122, [], [(0, (Vp wa0)), (1, (Vp wa1)), (6, (Vw g61))], [(Ur wa0 143 (C2 a0_0 a0_1 wa0_2 a0_3 wa0_4)), (Rg Kf 32 wa0_2 a0_2), (Rg (Kl (Ki .i64)) 23 wa0_4 a0_4), (Ur wa1 132 (C2 a1_0 a1_1 wa1_2 a1_3 wa1_4)), (Rg Kf 32 wa1_2 a1_2), (Rg (Ki .i64) 3 wa1_4 a1_4), (Rg (Ki .i64) 3 g61 v2)]⟩ : St))) (fun _ => rfl) (fun _ _ => rfl) ?_ hy1 (tx_to' rfl [1, 2, 3, 4, 5, 6, 0] (u7 rfl rfl rfl rfl rfl rfl rfl) (by decide) (p7 rfl rfl rfl rfl rfl rfl rfl)) ?_
  ·clear hp hy1
   clear v2
   intro k rec1 KY1 ih1
   rintro ⟨x1, x2⟩ ⟨⟩ y1 hp
   replace hp : gogeom_MultiPolygon_Push_l1s a1_4 a0_2 k rec1 x1 x2 = some y1 := hp
   unfold gogeom_MultiPolygon_Push_l1s at hp
   refine cr fun K20 hK20 => ?_
   refine sb rfl rfl eg_int ru_lss ?_
   refine nk hK20 ?_
   refine cx_seq' fun K21 hK21 => ?_
   refine cx_cond' rfl (fun h6 => ?_) (fun h6 => ?_)
   ·replace hp := (br_t h6).symm.trans hp
    refine cx_skip' ?_
    show TX E K21 _
    refine tx_k' hK21 ?_
    refine cx_seq' fun K22 hK22 => ?_
    refine cx_block' ?_
    refine cr fun K23 hK23 => ?_
    refine sm rfl ?_
    obtain ⟨r80, hr80, hp⟩ := bind_some hp
    refine s0 (rd_atr' (m := 5) rfl rfl rfl rfl hr80 Try.underlying23 info3) ?_
    refine s0 (rd_loadr' rfl (m := 5) (i := x2) (j := 0) rfl rfl hr80 rfl rfl flat3) ?_
    iterate 2 refine sa rfl ?_
    refine nk hK23 ?_
    refine cx_region' ?_
    iterate 4 refine sm rfl ?_
    refine sb rfl rfl eg_int ru_add ?_
    obtain ⟨r87, hr87, hp⟩ := bind_some hp
    refine s0 (rd_atr' (m := 6) rfl rfl rfl rfl hr87 Try.underlying23 info3) ?_
    refine so (ox_storer' (m := 6) (i := x2) (j := 0) (x' := (iadd .i64 r80 (a0_2.length : Int))) rfl rfl (lv_vl rfl rfl) rfl rfl hr87 rfl rfl rfl info3 rfl (H' := [(Ur wa0 143 (C2 a0_0 a0_1 wa0_2 a0_3 wa0_4)), (Rg Kf 32 wa0_2 a0_2), (Rg (Kl (Ki .i64)) 23 wa0_4 a0_4), (Ur wa1 132 (C2 a1_0 a1_1 wa1_2 a1_3 wa1_4)), (Rg Kf 32 wa1_2 a1_2), (Rg (Ki .i64) 3 wa1_4 a1_4), (Rg (Ki .i64) 3 g61 (x1.set x2.toNat (iadd .i64 r80 (a0_2.length : Int))))]) rfl) fun _ => ?_
    refine nk hK22 ?_
    refine cx_region' ?_
    refine sb rfl rfl eg_int ru_add ?_
    refine sm rfl ?_
    refine sx_nil' ?_
    show TX E (KY1 _) _
    exact tk [0, 1, 2, 3, 4, 5, 6] (u7 rfl rfl rfl rfl rfl rfl rfl) (p7 rfl rfl rfl rfl rfl rfl rfl) (ih1 ((x1.set x2.toNat (iadd .i64 r80 (a0_2.length : Int))), (iadd .i64 x2 1)) () _ hp)
   replace hp := (br_f h6).symm.trans hp
   refine cx_exit' ?_
   replace hp := sj hp
   subst hp
   show TX E (Zg E (Exit.exit 0) _ (Exit.exit 0)) _
   exact tx_zend' () rfl [0, 1, 2, 3, 4, 5, 6] (u3 rfl rfl rfl) (by decide) (p7 rfl rfl rfl rfl rfl rfl rfl)
  refine zg_out fun w2 => ?_
  show TX E K7 _
  exact tk [0, 1, 2, 3, 4, 5, 6] (u3 rfl rfl rfl) (p7 rfl rfl rfl rfl rfl rfl rfl) (hK7 (v2, g61) hp)
 replace hp := (br_f h2).symm.trans hp
 refine cx_skip' ?_
 show TX E K7 _
 refine tx_nilrow' (Ki .i64) 3 ?_
 exact tk [1, 2, 3, 4, 5, 6, 0] (u3 rfl rfl rfl) (p7 rfl rfl rfl rfl rfl rfl rfl) (hK7 ([], (none, 0, 0)) hp)

def gogeom_geom0_SRID_v4 (k : Nat) (a0_0 a0_1 : Int) (a0_2 : List Nat) (a0_3 : Int) (a0_4 : List (List Int)) : Option (Int × Int × (List Nat) × Int × (List (List Int))) :=
 some (a0_0, a0_1, a0_2, a0_3, a0_4)

theorem gogeom_geom0_SRID_v4_sim {k : Nat} {wa0 : Addr} {wa0_2 wa0_4 : Gs} (a0_0 a0_1 : Int) (a0_2 : List Nat) (a0_3 : Int) (a0_4 : List (List Int)) {out : Int × Int × (List Nat) × Int × (List (List Int))} (hp : gogeom_geom0_SRID_v4 k a0_0 a0_1 a0_2 a0_3 a0_4 = some out) : Sx.Fn Try.prog 136 [(Vp wa0)] [(Ur wa0 143 (C2 a0_0 a0_1 wa0_2 a0_3 wa0_4)), (Rg Kf 32 wa0_2 a0_2), (Rg (Kl (Ki .i64)) 23 wa0_4 a0_4)] (fun w : Unit => (Vi out.2.2.2.1)) (fun w => [(Ur wa0 143 (C2 out.1 out.2.1 wa0_2 out.2.2.2.1 wa0_4)), (Rg Kf 32 wa0_2 out.2.2.1), (Rg (Kl (Ki .i64)) 23 wa0_4 out.2.2.2.2)]) := by
 unfold gogeom_geom0_SRID_v4 at hp
 refine fn_of Try.func136 rfl Try.ntmps136 rfl fun E hM => ?_
 refine cr fun K1 hK1 => ?_
 refine sa rfl ?_
 refine nk hK1 ?_
 refine cr fun K2 hK2 => ?_
 refine sm rfl ?_
 refine sn rfl ?_
 refine sg (off := 3) rfl Try.underlying124 rfl info3 rfl ?_
 refine sl (i := 0) (o := 3) rfl (ar rfl rfl rfl rfl) rfl flat3 ?_
 refine sa rfl ?_
 refine nk hK2 ?_
 refine cx_retc' ?_
 replace hp := sj hp
 subst hp
 refine tk (L' := [(2, (Vi a0_3))]) (H' := [(Ur wa0 143 (C2 a0_0 a0_1 wa0_2 a0_3 wa0_4)), (Rg Kf 32 wa0_2 a0_2), (Rg (Kl (Ki .i64)) 23 wa0_4 a0_4)]) [0, 1, 2] (uc rfl un) (p3 rfl rfl rfl) ?_
 exact tx_ret1' Try.results136 rfl () (rv_tmp' rfl) lr

def gogeom_geom0_Layout_v7 (k : Nat) (a0_0 a0_1 : Int) (a0_2 : List Nat) (a0_3 : Int) (a0_4 : List (List Int)) : Option (Int × Int × (List Nat) × Int × (List (List Int))) :=
 some (a0_0, a0_1, a0_2, a0_3, a0_4)

theorem gogeom_geom0_Layout_v7_sim {k : Nat} {wa0 : Addr} {wa0_2 wa0_4 : Gs} (a0_0 a0_1 : Int) (a0_2 : List Nat) (a0_3 : Int) (a0_4 : List (List Int)) {out : Int × Int × (List Nat) × Int × (List (List Int))} (hp : gogeom_geom0_Layout_v7 k a0_0 a0_1 a0_2 a0_3 a0_4 = some out) : Sx.Fn Try.prog 134 [(Vp wa0)] [(Ur wa0 143 (C2 a0_0 a0_1 wa0_2 a0_3 wa0_4)), (Rg Kf 32 wa0_2 a0_2), (Rg (Kl (Ki .i64)) 23 wa0_4 a0_4)] (fun w : Unit => (Vi out.1)) (fun w => [(Ur wa0 143 (C2 out.1 out.2.1 wa0_2 out.2.2.2.1 wa0_4)), (Rg Kf 32 wa0_2 out.2.2.1), (Rg (Kl (Ki .i64)) 23 wa0_4 out.2.2.2.2)]) := by
 unfold gogeom_geom0_Layout_v7 at hp
 refine fn_of Try.func134 rfl Try.ntmps134 rfl fun E hM => ?_
 refine cr fun K1 hK1 => ?_
 refine sa rfl ?_
 refine nk hK1 ?_
 refine cr fun K2 hK2 => ?_
 refine sm rfl ?_
 refine sn rfl ?_
 refine sf rfl Try.underlying124 rfl info61 rfl ?_
 refine sl (i := 0) (o := 0) rfl (ar rfl rfl rfl rfl) rfl flat61 ?_
 refine sa rfl ?_
 refine nk hK2 ?_
 refine cx_retc' ?_
 replace hp := sj hp
 subst hp
 refine tk (L' := [(2, (Vi a0_0))]) (H' := [(Ur wa0 143 (C2 a0_0 a0_1 wa0_2 a0_3 wa0_4)), (Rg Kf 32 wa0_2 a0_2), (Rg (Kl (Ki .i64)) 23 wa0_4 a0_4)]) [0, 1, 2] (uc rfl un) (p3 rfl rfl rfl) ?_
 exact tx_ret1' Try.results134 rfl () (rv_tmp' rfl) lr

def gogeom_geom0_FlatCoords_v4 (k : Nat) (a0_0 a0_1 : Int) (a0_2 : List Nat) (a0_3 : Int) (a0_4 : List (List Int)) : Option (Int × Int × (List Nat) × Int × (List (List Int))) :=
 some (a0_0, a0_1, a0_2, a0_3, a0_4)

theorem gogeom_geom0_FlatCoords_v4_sim {k : Nat} {wa0 : Addr} {wa0_2 wa0_4 : Gs} (a0_0 a0_1 : Int) (a0_2 : List Nat) (a0_3 : Int) (a0_4 : List (List Int)) {out : Int × Int × (List Nat) × Int × (List (List Int))} (hp : gogeom_geom0_FlatCoords_v4 k a0_0 a0_1 a0_2 a0_3 a0_4 = some out) : Sx.Fn Try.prog 133 [(Vp wa0)] [(Ur wa0 143 (C2 a0_0 a0_1 wa0_2 a0_3 wa0_4)), (Rg Kf 32 wa0_2 a0_2), (Rg (Kl (Ki .i64)) 23 wa0_4 a0_4)] (fun w : Unit => (Vw wa0_2)) (fun w => [(Ur wa0 143 (C2 out.1 out.2.1 wa0_2 out.2.2.2.1 wa0_4)), (Rg Kf 32 wa0_2 out.2.2.1), (Rg (Kl (Ki .i64)) 23 wa0_4 out.2.2.2.2)]) := by
 unfold gogeom_geom0_FlatCoords_v4 at hp
 refine fn_of Try.func133 rfl Try.ntmps133 rfl fun E hM => ?_
 refine cr fun K1 hK1 => ?_
 refine sa rfl ?_
 refine nk hK1 ?_
 refine cr fun K2 hK2 => ?_
 refine sm rfl ?_
 refine sn rfl ?_
 refine sg (off := 2) rfl Try.underlying124 rfl info22 rfl ?_
 refine sl (i := 0) (o := 2) rfl (ar rfl rfl rfl rfl) rfl flat22 ?_
 refine sa rfl ?_
 refine nk hK2 ?_
 refine cx_retc' ?_
 replace hp := sj hp
 subst hp
 refine tk (L' := [(2, (Vw wa0_2))]) (H' := [(Ur wa0 143 (C2 a0_0 a0_1 wa0_2 a0_3 wa0_4)), (Rg Kf 32 wa0_2 a0_2), (Rg (Kl (Ki .i64)) 23 wa0_4 a0_4)]) [0, 1, 2] (uc rfl un) (p3 rfl rfl rfl) ?_
 exact tx_ret1' Try.results133 rfl () (rv_tmp' rfl) lr

def gogeom_geom0_Ends (k : Nat) (a0_0 a0_1 : Int) (a0_2 : List Nat) (a0_3 : Int) (a0_4 : List (List Int)) : Option (Int × Int × (List Nat) × Int × (List (List Int))) :=
 some (a0_0, a0_1, a0_2, a0_3, a0_4)

theorem gogeom_geom0_Ends_sim {k : Nat} {wa0 : Addr} {wa0_2 wa0_4 : Gs} (a0_0 a0_1 : Int) (a0_2 : List Nat) (a0_3 : Int) (a0_4 : List (List Int)) {out : Int × Int × (List Nat) × Int × (List (List Int))} (hp : gogeom_geom0_Ends k a0_0 a0_1 a0_2 a0_3 a0_4 = some out) : Sx.Fn Try.prog 138 [(Vp wa0)] [(Ur wa0 143 (C2 a0_0 a0_1 wa0_2 a0_3 wa0_4)), (Rg Kf 32 wa0_2 a0_2), (Rg (Kl (Ki .i64)) 23 wa0_4 a0_4)] (fun w : Unit => Vn) (fun w => [(Ur wa0 143 (C2 out.1 out.2.1 wa0_2 out.2.2.2.1 wa0_4)), (Rg Kf 32 wa0_2 out.2.2.1), (Rg (Kl (Ki .i64)) 23 wa0_4 out.2.2.2.2)]) := by
 unfold gogeom_geom0_Ends at hp
 refine fn_of Try.func138 rfl Try.ntmps138 rfl fun E hM => ?_
 refine cr fun K1 hK1 => ?_
 refine sa rfl ?_
 refine nk hK1 ?_
 refine cr fun K2 hK2 => ?_
 refine sa rfl ?_
 refine nk hK2 ?_
 refine cx_retc' ?_
 replace hp := sj hp
 subst hp
 refine tk (L' := [(2, Vn)]) (H' := [(Ur wa0 143 (C2 a0_0 a0_1 wa0_2 a0_3 wa0_4)), (Rg Kf 32 wa0_2 a0_2), (Rg (Kl (Ki .i64)) 23 wa0_4 a0_4)]) [0, 1, 2] (uc rfl un) (p3 rfl rfl rfl) ?_
 exact tx_ret1' Try.results138 rfl () (rv_tmp' rfl) lr

def impl_ints_v3 (k : Nat)  : Option ((List Int)) :=
 (apd 8 [] []) >>= fun r4 =>
 some r4

theorem impl_ints_v3_sim {k : Nat}   {out : (List Int)} (hp : impl_ints_v3 k = some out) : Sx.Fn Try.prog 58 [Vn] [] (fun w : Gs => (Vw w)) (fun w => [(Rg (Ki .i64) 3 w out)]) := by
 unfold impl_ints_v3 at hp
 refine fn_of Try.func58 rfl Try.ntmps58 rfl fun E hM => ?_
 refine cr fun K1 hK1 => ?_
 refine sa rfl ?_
 refine nk hK1 ?_
 refine cr fun K2 hK2 => ?_
 refine sm rfl ?_
 refine tx_nilrow' (Ki .i64) 3 ?_
 obtain ⟨r4, hr4, hp⟩ := bind_some hp
 refine so (ox_append' (K := (Ki .i64)) (i := 0) (xs := []) (ys := []) rfl rfl rfl (sr_nil' rfl Try.underlying23) hr4 Try.underlying23 info3 rfl rfl rfl (H' := []) rfl) fun g4 => ?_
 refine sa rfl ?_
 refine nk hK2 ?_
 refine cx_retc' ?_
 replace hp := sj hp
 subst hp
 refine tk (L' := [(2, (Vw g4))]) (H' := [(Rg (Ki .i64) 3 g4 r4)]) [0] (uc rfl un) (pc rfl pn) ?_
 exact tx_ret1' Try.results58 rfl g4 (rv_tmp' rfl) lr

def gogeom_geom3_Endss (k : Nat) (a0_0 a0_1 : Int) (a0_2 : List Nat) (a0_3 : Int) (a0_4 : List (List Int)) : Option (Int × Int × (List Nat) × Int × (List (List Int))) :=
 some (a0_0, a0_1, a0_2, a0_3, a0_4)

theorem gogeom_geom3_Endss_sim {k : Nat} {wa0 : Addr} {wa0_2 wa0_4 : Gs} (a0_0 a0_1 : Int) (a0_2 : List Nat) (a0_3 : Int) (a0_4 : List (List Int)) {out : Int × Int × (List Nat) × Int × (List (List Int))} (hp : gogeom_geom3_Endss k a0_0 a0_1 a0_2 a0_3 a0_4 = some out) : Sx.Fn Try.prog 141 [(Vp wa0)] [(Ur wa0 143 (C2 a0_0 a0_1 wa0_2 a0_3 wa0_4)), (Rg Kf 32 wa0_2 a0_2), (Rg (Kl (Ki .i64)) 23 wa0_4 a0_4)] (fun w : Unit => (Vw wa0_4)) (fun w => [(Ur wa0 143 (C2 out.1 out.2.1 wa0_2 out.2.2.2.1 wa0_4)), (Rg Kf 32 wa0_2 out.2.2.1), (Rg (Kl (Ki .i64)) 23 wa0_4 out.2.2.2.2)]) := by
 unfold gogeom_geom3_Endss at hp
 refine fn_of Try.func141 rfl Try.ntmps141 rfl fun E hM => ?_
 refine cr fun K1 hK1 => ?_
 refine sa rfl ?_
 refine nk hK1 ?_
 refine cr fun K2 hK2 => ?_
 refine sm rfl ?_
 refine sn rfl ?_
 refine sg (off := 4) rfl Try.underlying141 rfl info24 rfl ?_
 refine sl (i := 0) (o := 4) rfl (ar rfl rfl rfl rfl) rfl flat24 ?_
 refine sa rfl ?_
 refine nk hK2 ?_
 refine cx_retc' ?_
 replace hp := sj hp
 subst hp
 refine tk (L' := [(2, (Vw wa0_4))]) (H' := [(Ur wa0 143 (C2 a0_0 a0_1 wa0_2 a0_3 wa0_4)), (Rg Kf 32 wa0_2 a0_2), (Rg (Kl (Ki .i64)) 23 wa0_4 a0_4)]) [0, 1, 2] (uc rfl un) (p3 rfl rfl rfl) ?_
 exact tx_ret1' Try.results141 rfl () (rv_tmp' rfl) lr

def impl_intss_v3_l1s (a0 : List (List Int)) (k : Nat) (rec1 : ((List (List Int)) × Int) → Option ((List (List Int)))) (x1 : List (List Int)) (x2 : Int) : Option ((List (List Int))) :=
 br (decide (x2 < (a0.length : Int)))
  ((idx a0 x2) >>= fun r10 =>
  (impl_ints k r10) >>= fun r14 =>
  match r14 with
   | (.inl y3) =>
    ((apd 24 x1 ([[]])) >>= fun r16 =>
    rec1 (r16, (iadd .i64 x2 1)))
   | (.inr y3) =>
    ((apd 24 x1 ([y3])) >>= fun r16 =>
    rec1 (r16, (iadd .i64 x2 1))))
  (some x1)
def impl_intss_v3_l1 (a0 : List (List Int)) : Nat → ((List (List Int)) × Int) → Option ((List (List Int)))
 | 0, _ => none
 | k + 1, v => impl_intss_v3_l1s a0 k (impl_intss_v3_l1 a0 k) v.1 v.2
def impl_intss_v3 (k : Nat) (a0 : List (List Int)) : Option ((List (List Int)) × (List (List Int))) :=
 (impl_intss_v3_l1 a0 k ([], 0)) >>= fun v2 =>
 some (a0, v2)

theorem impl_intss_v3_sim {k : Nat} {wa0 : Gs} (a0 : List (List Int)) {out : (List (List Int)) × (List (List Int))} (hp : impl_intss_v3 k a0 = some out) : Sx.Fn Try.prog 29 [(Vw wa0)] [(Rg (Kl (Ki .i64)) 23 wa0 a0)] (fun w : Gs => (Vw w)) (fun w => [(Rg (Kl (Ki .i64)) 23 wa0 out.1), (Rg (Kl (Ki .i64)) 23 w out.2)]) := by
 unfold impl_intss_v3 at hp
 refine fn_of Try.func29 rfl Try.ntmps29 rfl fun E hM => ?_
 refine cr fun K1 hK1 => ?_
 refine sa rfl ?_
 refine nk hK1 ?_
 refine cr fun K2 hK2 => ?_
 refine sa rfl ?_
 refine nk hK2 ?_
 refine cx_seq' fun K3 hK3 => ?_
 refine cr fun K4 hK4 => ?_
 refine sm rfl ?_
 refine s0 (rd_lenr' (i := 0) rfl rfl rfl Try.underlying24) ?_
 refine sm rfl ?_
 refine nk hK4 ?_
 refine cx_block' ?_
 obtain ⟨v2, hy1, hp⟩ := bind_some hp
 refine tx_nilrow' (Kl (Ki .i64)) 23 ?_
 refine cx_loopg' (F := impl_intss_v3_l1 a0) (G := fun k R v => impl_intss_v3_l1s a0 k R v.1 v.2) (x := ([], 0)) (gh := (none, 0, 0)) (fun (v1 : (List (List Int)) × Int) (w1 : Gs) => (⟨19, [], [(3, (Vw w1)), (6, (Vw wa0)), (7, (Vi (a0.length : Int))), (8, (Vi v1.2))], [(Rg (Kl (Ki .i64)) 23 w1 v1.1), (Rg (Kl (Ki .i64)) 23 wa0 a0)]⟩ : St)) (fun (v2 : (List (List Int))) => Zg E (Exit.exit 0) (fun (w2 : Gs) => (⟨19, [], [(3, (Vw w2))], [(Rg (Kl (Ki .i64)) 23 w2 v2), (Rg (Kl (Ki .i64)) 23 wa0 a0)]⟩ : St))) (fun _ => rfl) (fun _ _ => rfl) ?_ hy1 (tx_to' rfl [0, 1] (u4 rfl rfl rfl rfl) (by decide) (p2 rfl rfl)) ?_
 ·clear hp hy1
  clear v2
  intro k rec1 KY1 ih1
  rintro ⟨x1, x2⟩ g901 y5 hp
  replace hp : impl_intss_v3_l1s a0 k rec1 x1 x2 = some y5 := hp
  unfold impl_intss_v3_l1s at hp
  refine cr fun K9 hK9 => ?_
  refine sb rfl rfl eg_int ru_lss ?_
  refine nk hK9 ?_
  refine cx_seq' fun K10 hK10 => ?_
  refine cx_cond' rfl (fun h3 => ?_) (fun h3 => ?_)
  ·replace hp := (br_t h3).symm.trans hp
   refine cx_skip' ?_
   show TX E K10 _
   refine tx_k' hK10 ?_
   refine cx_seq' fun K11 hK11 => ?_
   refine cx_block' ?_
   refine cr fun K12 hK12 => ?_
   obtain ⟨r10, hr10, hp⟩ := bind_some hp
   refine s0 (rd_atr' (m := 1) rfl rfl rfl rfl hr10 Try.underlying24 info23) ?_
   refine s0 (rd_loadr' rfl (m := 1) (i := x2) (j := 0) rfl rfl hr10 rfl rfl flat23) ?_
   refine sa rfl ?_
   refine nk hK12 ?_
   refine cx_region' ?_
   iterate 2 refine sm rfl ?_
   obtain ⟨r14, hr14, hp⟩ := bind_some hp
   rcases r14 with y3 | y3
   ·dsimp only at hp
    refine so (ox_calln' (ent_fn' Try.func58 isn58 rfl rfl) (impl_ints_sim _ hr14 : Sx.Fn Try.prog 58 [(Sl (Ki .i64) r10)] [] (fun x : Gs => Vn) (fun x => [])) (Hn := fun x : Gs => [(Rg (Kl (Ki .i64)) 23 g901 x1), (Rg (Kl (Ki .i64)) 23 wa0 a0)]) (fun _ => rfl) rfl rfl) fun g14 => ?_
    refine tx_nilsl' 14 (Ki .i64) rfl rfl ?_
    refine so (ox_rowlit' (K := (Kl (Ki .i64))) (xs := [[]]) (qs := [(0, [(Sl (Ki .i64) [])])]) ⟨rfl, ⟨_, rfl, (lv_sl _ _)⟩, trivial⟩ Try.underlying24 info23 rfl rfl rfl rfl rfl (by kernel_rfl) rfl rfl rfl) fun g15 => ?_
    obtain ⟨r16, hr16, hp⟩ := bind_some hp
    refine so (ox_append' (K := (Kl (Ki .i64))) (i := 1) (xs := x1) (ys := ([[]])) rfl rfl rfl (sr_row' (j := 0) rfl rfl rfl Try.underlying24) hr16 Try.underlying24 info23 rfl rfl rfl (H' := [(Rg (Kl (Ki .i64)) 23 g15 ([[]])), (Rg (Kl (Ki .i64)) 23 wa0 a0)]) rfl) fun g16 => ?_
    refine sa rfl ?_
    refine nk hK11 ?_
    refine cx_region' ?_
    refine sb rfl rfl eg_int ru_add ?_
    refine sm rfl ?_
    refine sx_nil' ?_
    show TX E (KY1 _) _
    exact tk [0, 2] (u4 rfl rfl rfl rfl) (p2 rfl rfl) (ih1 (r16, (iadd .i64 x2 1)) g16 _ hp)
   dsimp only at hp
   refine so (ox_calln' (ent_fn' Try.func58 isn58 rfl rfl) (impl_ints_sim _ hr14 : Sx.Fn Try.prog 58 [(Sl (Ki .i64) r10)] [] (fun x : Gs => (Vw x)) (fun x => [(Rg (Ki .i64) 3 x y3)])) (Hn := fun x : Gs => [(Rg (Ki .i64) 3 x y3), (Rg (Kl (Ki .i64)) 23 g901 x1), (Rg (Kl (Ki .i64)) 23 wa0 a0)]) (fun _ => rfl) rfl rfl) fun g14 => ?_
   refine tx_fz' (frz_row 0 [(14, (Vw g14), (Sl (Ki .i64) y3))] (K := (Ki .i64)) (xs := y3) (by decide) rfl ⟨⟨rfl, frz_it⟩, trivial⟩ (H' := [(Rg (Kl (Ki .i64)) 23 g901 x1), (Rg (Kl (Ki .i64)) 23 wa0 a0)]) frzH_refl) ?_
   refine so (ox_rowlit' (K := (Kl (Ki .i64))) (xs := [y3]) (qs := [(0, [(Sl (Ki .i64) y3)])]) ⟨rfl, ⟨_, rfl, (lv_sl _ _)⟩, trivial⟩ Try.underlying24 info23 rfl rfl rfl rfl rfl (by kernel_rfl) rfl rfl rfl) fun g15 => ?_
   obtain ⟨r16, hr16, hp⟩ := bind_some hp
   refine so (ox_append' (K := (Kl (Ki .i64))) (i := 1) (xs := x1) (ys := ([y3])) rfl rfl rfl (sr_row' (j := 0) rfl rfl rfl Try.underlying24) hr16 Try.underlying24 info23 rfl rfl rfl (H' := [(Rg (Kl (Ki .i64)) 23 g15 ([y3])), (Rg (Kl (Ki .i64)) 23 wa0 a0)]) rfl) fun g16 => ?_
   refine sa rfl ?_
   refine nk hK11 ?_
   refine cx_region' ?_
   refine sb rfl rfl eg_int ru_add ?_
   refine sm rfl ?_
   refine sx_nil' ?_
   show TX E (KY1 _) _
   exact tk [0, 2] (u4 rfl rfl rfl rfl) (p2 rfl rfl) (ih1 (r16, (iadd .i64 x2 1)) g16 _ hp)
  replace hp := (br_f h3).symm.trans hp
  refine cx_exit' ?_
  replace hp := sj hp
  subst hp
  show TX E (Zg E (Exit.exit 0) _ (Exit.exit 0)) _
  exact tx_zend' g901 rfl [0, 1] (uc rfl un) (by decide) (p2 rfl rfl)
 refine zg_out fun w2 => ?_
 show TX E K3 _
 refine tx_k' hK3 ?_
 refine cr fun K13 hK13 => ?_
 refine sm rfl ?_
 refine sa rfl ?_
 refine nk hK13 ?_
 refine cx_retc' ?_
 replace hp := sj hp
 subst hp
 refine tk (L' := [(2, (Vw w2))]) (H' := [(Rg (Kl (Ki .i64)) 23 wa0 a0), (Rg (Kl (Ki .i64)) 23 w2 v2)]) [1, 0] (uc rfl un) (p2 rfl rfl) ?_
 exact tx_ret1' Try.results29 rfl w2 (rv_tmp' rfl) lr

def impl_plain_v4 (k : Nat) (a0_0 a0_1 : Int) (a0_2 : List Nat) (a0_3 : Int) (a0_4 : List (List Int)) : Option (Int × Int × (List Nat) × Int × (List (List Int)) × Int × Int × Int × (List Nat) × (List Int) × (List (List Int))) :=
 (gogeom_geom0_SRID_v4 k a0_0 a0_1 a0_2 a0_3 a0_4) >>= fun r15 =>
 (gogeom_geom0_Layout_v7 k r15.1 r15.2.1 r15.2.2.1 r15.2.2.2.1 r15.2.2.2.2) >>= fun r70 =>
 (gogeom_geom0_FlatCoords_v4 k r70.1 r70.2.1 r70.2.2.1 r70.2.2.2.1 r70.2.2.2.2) >>= fun r72 =>
 (impl_floats_v2 k r72.2.2.1) >>= fun r73 =>
 (gogeom_geom0_Ends k r72.1 r72.2.1 r73.1 r72.2.2.2.1 r72.2.2.2.2) >>= fun r75 =>
 (impl_ints_v3 k) >>= fun r76 =>
 (gogeom_geom3_Endss k r75.1 r75.2.1 r75.2.2.1 r75.2.2.2.1 r75.2.2.2.2) >>= fun r78 =>
 (impl_intss_v3 k r78.2.2.2.2) >>= fun r79 =>
 some (r78.1, r78.2.1, r78.2.2.1, r78.2.2.2.1, r79.1, 6, r70.1, r15.2.2.2.1, r73.2, r76, r79.2)

theorem impl_plain_v4_sim {k : Nat} {wa0 : Addr} {wa0_2 wa0_4 : Gs} (a0_0 a0_1 : Int) (a0_2 : List Nat) (a0_3 : Int) (a0_4 : List (List Int)) {out : Int × Int × (List Nat) × Int × (List (List Int)) × Int × Int × Int × (List Nat) × (List Int) × (List (List Int))} (hp : impl_plain_v4 k a0_0 a0_1 a0_2 a0_3 a0_4 = some out) : Sx.Fn Try.prog 34 [(If 76 (Vp wa0))] [(Ur wa0 143 (C2 a0_0 a0_1 wa0_2 a0_3 wa0_4)), (Rg Kf 32 wa0_2 a0_2), (Rg (Kl (Ki .i64)) 23 wa0_4 a0_4)] (fun w : Unit => (Ag (C8 out.2.2.2.2.2.1 out.2.2.2.2.2.2.1 out.2.2.2.2.2.2.2.1 out.2.2.2.2.2.2.2.2.1 out.2.2.2.2.2.2.2.2.2.1 out.2.2.2.2.2.2.2.2.2.2))) (fun w => [(Ur wa0 143 (C2 out.1 out.2.1 wa0_2 out.2.2.2.1 wa0_4)), (Rg Kf 32 wa0_2 out.2.2.1), (Rg (Kl (Ki .i64)) 23 wa0_4 out.2.2.2.2.1)]) := by
 unfold impl_plain_v4 at hp
 refine fn_of Try.func34 rfl Try.ntmps34 rfl fun E hM => ?_
 refine cr fun K1 hK1 => ?_
 refine so (ox_alloc' info27 rfl rfl rfl rfl (l := (C1 0 0 0)) rfl) fun q2 => ?_
 refine nk hK1 ?_
 refine cr fun K2 hK2 => ?_
 refine sm rfl ?_
 obtain ⟨r15, hr15, hp⟩ := bind_some hp
 refine so (ox_callg' (ent_inv' rfl rfl (inv_ptr0 (inv76_SRID _))) (gogeom_geom0_SRID_v4_sim _ _ _ _ _ hr15 : Sx.Fn Try.prog 136 [(Vp wa0)] [(Ur wa0 143 (C2 a0_0 a0_1 wa0_2 a0_3 wa0_4)), (Rg Kf 32 wa0_2 a0_2), (Rg (Kl (Ki .i64)) 23 wa0_4 a0_4)] (fun x : Unit => (Vi r15.2.2.2.1)) (fun x => [(Ur wa0 143 (C2 r15.1 r15.2.1 wa0_2 r15.2.2.2.1 wa0_4)), (Rg Kf 32 wa0_2 r15.2.2.1), (Rg (Kl (Ki .i64)) 23 wa0_4 r15.2.2.2.2)])) [1, 2, 3] [0] (by decide) (p3 rfl rfl rfl) (pc rfl pn) (Hn := fun x : Unit => [(Ur wa0 143 (C2 r15.1 r15.2.1 wa0_2 r15.2.2.2.1 wa0_4)), (Rg Kf 32 wa0_2 r15.2.2.1), (Rg (Kl (Ki .i64)) 23 wa0_4 r15.2.2.2.2), (Ur q2 27 (C1 0 0 0))]) (fun _ => rfl) rfl rfl) fun ⟨⟩ => ?_
 refine sv (pls := [(0, 1), (1, 1), (2, 1), (3, 1), (4, 1), (5, 1), (6, 1)]) (qs := [(2, [(Vi r15.2.2.2.1)])]) (r := (C1 0 0 r15.2.2.2.1)) ⟨rfl, ⟨_, rfl, (lv_vl rfl rfl)⟩, trivial⟩ Try.underlying27 has27 places27 info27 rfl rfl rfl ?_
 refine so (ox_alloc' info27 rfl rfl rfl rfl (l := (C1 0 0 0)) rfl) fun q3 => ?_
 refine so (ox_store' (i := 0) (o := 0) rfl rfl (lv_ag _) (ar rfl rfl rfl rfl) rfl info27 rfl (H' := [(Ur q3 27 (C1 0 0 r15.2.2.2.1)), (Ur wa0 143 (C2 r15.1 r15.2.1 wa0_2 r15.2.2.2.1 wa0_4)), (Rg Kf 32 wa0_2 r15.2.2.1), (Rg (Kl (Ki .i64)) 23 wa0_4 r15.2.2.2.2), (Ur q2 27 (C1 0 0 0))]) rfl) fun _ => ?_
 refine nk hK2 ?_
 refine cx_seq' fun K3 hK3 => ?_
 refine cr fun K4 hK4 => ?_
 refine sm rfl ?_
 refine nk hK4 ?_
 refine cx_block' ?_
 refine cr fun K5 hK5 => ?_
 refine st rfl (F := fun _ => .tuple #[.pointer none, .bool false]) as76_53_72 as_no ?_
 iterate 2 refine se rfl rfl ?_
 refine nk hK5 ?_
 refine cx_cond_f' rfl rfl ?_
 refine cr fun K6 hK6 => ?_
 refine st rfl (F := fun _ => .tuple #[.pointer none, .bool false]) as76_53_75 as_no ?_
 iterate 2 refine se rfl rfl ?_
 refine nk hK6 ?_
 refine cx_cond_f' rfl rfl ?_
 refine cr fun K7 hK7 => ?_
 refine st rfl (F := fun _ => .tuple #[.pointer none, .bool false]) as76_53_69 as_no ?_
 iterate 2 refine se rfl rfl ?_
 refine nk hK7 ?_
 refine cx_cond_f' rfl rfl ?_
 refine cr fun K8 hK8 => ?_
 refine st rfl (F := fun _ => .tuple #[.pointer none, .bool false]) as76_53_67 as_no ?_
 iterate 2 refine se rfl rfl ?_
 refine nk hK8 ?_
 refine cx_cond_f' rfl rfl ?_
 refine cr fun K9 hK9 => ?_
 refine st rfl (F := fun _ => .tuple #[.pointer none, .bool false]) as76_53_70 as_no ?_
 iterate 2 refine se rfl rfl ?_
 refine nk hK9 ?_
 refine cx_cond_f' rfl rfl ?_
 refine cr fun K10 hK10 => ?_
 refine st rfl (F := fun _ => .tuple #[.pointer none, .bool false]) as76_53_73 as_no ?_
 iterate 2 refine se rfl rfl ?_
 refine nk hK10 ?_
 refine cx_cond_f' rfl rfl ?_
 refine cr fun K11 hK11 => ?_
 refine st rfl (F := fun v => .tuple #[v, .bool true]) as76_53_76k as_ok ?_
 iterate 2 refine se rfl rfl ?_
 refine nk hK11 ?_
 refine cx_cond_t' rfl rfl ?_
 refine cr fun K12 hK12 => ?_
 refine sa rfl ?_
 refine nk hK12 ?_
 refine cx_region' ?_
 refine sf rfl Try.underlying27 rfl info3 rfl ?_
 refine so (ox_store' (i := 0) (o := 0) rfl rfl (lv_vl rfl rfl) (ar rfl rfl rfl rfl) rfl info3 rfl (H' := [(Ur q3 27 (C1 6 0 r15.2.2.2.1)), (Ur wa0 143 (C2 r15.1 r15.2.1 wa0_2 r15.2.2.2.1 wa0_4)), (Rg Kf 32 wa0_2 r15.2.2.1), (Rg (Kl (Ki .i64)) 23 wa0_4 r15.2.2.2.2), (Ur q2 27 (C1 0 0 0))]) rfl) fun _ => ?_
 refine nk hK3 ?_
 refine cr fun K13 hK13 => ?_
 refine sm rfl ?_
 obtain ⟨r70, hr70, hp⟩ := bind_some hp
 refine so (ox_callg' (ent_inv' rfl rfl (inv_ptr0 (inv76_Layout _))) (gogeom_geom0_Layout_v7_sim _ _ _ _ _ hr70 : Sx.Fn Try.prog 134 [(Vp wa0)] [(Ur wa0 143 (C2 r15.1 r15.2.1 wa0_2 r15.2.2.2.1 wa0_4)), (Rg Kf 32 wa0_2 r15.2.2.1), (Rg (Kl (Ki .i64)) 23 wa0_4 r15.2.2.2.2)] (fun x : Unit => (Vi r70.1)) (fun x => [(Ur wa0 143 (C2 r70.1 r70.2.1 wa0_2 r70.2.2.2.1 wa0_4)), (Rg Kf 32 wa0_2 r70.2.2.1), (Rg (Kl (Ki .i64)) 23 wa0_4 r70.2.2.2.2)])) [1, 2, 3] [0, 4] (by decide) (p3 rfl rfl rfl) (p2 rfl rfl) (Hn := fun x : Unit => [(Ur wa0 143 (C2 r70.1 r70.2.1 wa0_2 r70.2.2.2.1 wa0_4)), (Rg Kf 32 wa0_2 r70.2.2.1), (Rg (Kl (Ki .i64)) 23 wa0_4 r70.2.2.2.2), (Ur q3 27 (C1 6 0 r15.2.2.2.1)), (Ur q2 27 (C1 0 0 0))]) (fun _ => rfl) rfl rfl) fun ⟨⟩ => ?_
 refine sm rfl ?_
 obtain ⟨r72, hr72, hp⟩ := bind_some hp
 refine so (ox_callg' (ent_inv' rfl rfl (inv_ptr0 (inv76_FlatCoords _))) (gogeom_geom0_FlatCoords_v4_sim _ _ _ _ _ hr72 : Sx.Fn Try.prog 133 [(Vp wa0)] [(Ur wa0 143 (C2 r70.1 r70.2.1 wa0_2 r70.2.2.2.1 wa0_4)), (Rg Kf 32 wa0_2 r70.2.2.1), (Rg (Kl (Ki .i64)) 23 wa0_4 r70.2.2.2.2)] (fun x : Unit => (Vw wa0_2)) (fun x => [(Ur wa0 143 (C2 r72.1 r72.2.1 wa0_2 r72.2.2.2.1 wa0_4)), (Rg Kf 32 wa0_2 r72.2.2.1), (Rg (Kl (Ki .i64)) 23 wa0_4 r72.2.2.2.2)])) [0, 1, 2] [3, 4] (by decide) (p3 rfl rfl rfl) (p2 rfl rfl) (Hn := fun x : Unit => [(Ur wa0 143 (C2 r72.1 r72.2.1 wa0_2 r72.2.2.2.1 wa0_4)), (Rg Kf 32 wa0_2 r72.2.2.1), (Rg (Kl (Ki .i64)) 23 wa0_4 r72.2.2.2.2), (Ur q3 27 (C1 6 0 r15.2.2.2.1)), (Ur q2 27 (C1 0 0 0))]) (fun _ => rfl) rfl rfl) fun ⟨⟩ => ?_
 obtain ⟨r73, hr73, hp⟩ := bind_some hp
 refine so (ox_callg' (ent_fn' Try.func59 isn59 rfl rfl) (impl_floats_v2_sim _ hr73 : Sx.Fn Try.prog 59 [(Vw wa0_2)] [(Rg Kf 32 wa0_2 r72.2.2.1)] (fun x : Gs => (Vw x)) (fun x => [(Rg Kf 32 wa0_2 r73.1), (Rg Kf 32 x r73.2)])) [1] [0, 2, 3, 4] (by decide) (pc rfl pn) (p4 rfl rfl rfl rfl) (Hn := fun x : Gs => [(Rg Kf 32 wa0_2 r73.1), (Rg Kf 32 x r73.2), (Ur wa0 143 (C2 r72.1 r72.2.1 wa0_2 r72.2.2.2.1 wa0_4)), (Rg (Kl (Ki .i64)) 23 wa0_4 r72.2.2.2.2), (Ur q3 27 (C1 6 0 r15.2.2.2.1)), (Ur q2 27 (C1 0 0 0))]) (fun _ => rfl) rfl rfl) fun g73 => ?_
 refine sm rfl ?_
 obtain ⟨r75, hr75, hp⟩ := bind_some hp
 refine so (ox_callg' (ent_inv' rfl rfl (inv_ptr0 (inv76_Ends _))) (gogeom_geom0_Ends_sim _ _ _ _ _ hr75 : Sx.Fn Try.prog 138 [(Vp wa0)] [(Ur wa0 143 (C2 r72.1 r72.2.1 wa0_2 r72.2.2.2.1 wa0_4)), (Rg Kf 32 wa0_2 r73.1), (Rg (Kl (Ki .i64)) 23 wa0_4 r72.2.2.2.2)] (fun x : Unit => Vn) (fun x => [(Ur wa0 143 (C2 r75.1 r75.2.1 wa0_2 r75.2.2.2.1 wa0_4)), (Rg Kf 32 wa0_2 r75.2.2.1), (Rg (Kl (Ki .i64)) 23 wa0_4 r75.2.2.2.2)])) [2, 0, 3] [1, 4, 5] (by decide) (p3 rfl rfl rfl) (p3 rfl rfl rfl) (Hn := fun x : Unit => [(Ur wa0 143 (C2 r75.1 r75.2.1 wa0_2 r75.2.2.2.1 wa0_4)), (Rg Kf 32 wa0_2 r75.2.2.1), (Rg (Kl (Ki .i64)) 23 wa0_4 r75.2.2.2.2), (Rg Kf 32 g73 r73.2), (Ur q3 27 (C1 6 0 r15.2.2.2.1)), (Ur q2 27 (C1 0 0 0))]) (fun _ => rfl) rfl rfl) fun ⟨⟩ => ?_
 obtain ⟨r76, hr76, hp⟩ := bind_some hp
 refine so (ox_calln' (ent_fn' Try.func58 isn58 rfl rfl) (impl_ints_v3_sim hr76 : Sx.Fn Try.prog 58 [Vn] [] (fun x : Gs => (Vw x)) (fun x => [(Rg (Ki .i64) 3 x r76)])) (Hn := fun x : Gs => [(Rg (Ki .i64) 3 x r76), (Ur wa0 143 (C2 r75.1 r75.2.1 wa0_2 r75.2.2.2.1 wa0_4)), (Rg Kf 32 wa0_2 r75.2.2.1), (Rg (Kl (Ki .i64)) 23 wa0_4 r75.2.2.2.2), (Rg Kf 32 g73 r73.2), (Ur q3 27 (C1 6 0 r15.2.2.2.1)), (Ur q2 27 (C1 0 0 0))]) (fun _ => rfl) rfl rfl) fun g76 => ?_
 refine sm rfl ?_
 obtain ⟨r78, hr78, hp⟩ := bind_some hp
 refine so (ox_callg' (ent_inv' rfl rfl (inv_ptr0 (inv76_Endss _))) (gogeom_geom3_Endss_sim _ _ _ _ _ hr78 : Sx.Fn Try.prog 141 [(Vp wa0)] [(Ur wa0 143 (C2 r75.1 r75.2.1 wa0_2 r75.2.2.2.1 wa0_4)), (Rg Kf 32 wa0_2 r75.2.2.1), (Rg (Kl (Ki .i64)) 23 wa0_4 r75.2.2.2.2)] (fun x : Unit => (Vw wa0_4)) (fun x => [(Ur wa0 143 (C2 r78.1 r78.2.1 wa0_2 r78.2.2.2.1 wa0_4)), (Rg Kf 32 wa0_2 r78.2.2.1), (Rg (Kl (Ki .i64)) 23 wa0_4 r78.2.2.2.2)])) [1, 2, 3] [0, 4, 5, 6] (by decide) (p3 rfl rfl rfl) (p4 rfl rfl rfl rfl) (Hn := fun x : Unit => [(Ur wa0 143 (C2 r78.1 r78.2.1 wa0_2 r78.2.2.2.1 wa0_4)), (Rg Kf 32 wa0_2 r78.2.2.1), (Rg (Kl (Ki .i64)) 23 wa0_4 r78.2.2.2.2), (Rg (Ki .i64) 3 g76 r76), (Rg Kf 32 g73 r73.2), (Ur q3 27 (C1 6 0 r15.2.2.2.1)), (Ur q2 27 (C1 0 0 0))]) (fun _ => rfl) rfl rfl) fun ⟨⟩ => ?_
 obtain ⟨r79, hr79, hp⟩ := bind_some hp
 refine so (ox_callg' (ent_fn' Try.func29 isn29 rfl rfl) (impl_intss_v3_sim _ hr79 : Sx.Fn Try.prog 29 [(Vw wa0_4)] [(Rg (Kl (Ki .i64)) 23 wa0_4 r78.2.2.2.2)] (fun x : Gs => (Vw x)) (fun x => [(Rg (Kl (Ki .i64)) 23 wa0_4 r79.1), (Rg (Kl (Ki .i64)) 23 x r79.2)])) [2] [0, 1, 3, 4, 5, 6] (by decide) (pc rfl pn) (p6 rfl rfl rfl rfl rfl rfl) (Hn := fun x : Gs => [(Rg (Kl (Ki .i64)) 23 wa0_4 r79.1), (Rg (Kl (Ki .i64)) 23 x r79.2), (Ur wa0 143 (C2 r78.1 r78.2.1 wa0_2 r78.2.2.2.1 wa0_4)), (Rg Kf 32 wa0_2 r78.2.2.1), (Rg (Ki .i64) 3 g76 r76), (Rg Kf 32 g73 r73.2), (Ur q3 27 (C1 6 0 r15.2.2.2.1)), (Ur q2 27 (C1 0 0 0))]) (fun _ => rfl) rfl rfl) fun g79 => ?_
 refine sg (off := 1) rfl Try.underlying27 rfl info3 rfl ?_
 refine so (ox_store' (i := 6) (o := 1) rfl rfl (lv_vl rfl rfl) (ar rfl rfl rfl rfl) rfl info3 rfl (H' := [(Rg (Kl (Ki .i64)) 23 wa0_4 r79.1), (Rg (Kl (Ki .i64)) 23 g79 r79.2), (Ur wa0 143 (C2 r78.1 r78.2.1 wa0_2 r78.2.2.2.1 wa0_4)), (Rg Kf 32 wa0_2 r78.2.2.1), (Rg (Ki .i64) 3 g76 r76), (Rg Kf 32 g73 r73.2), (Ur q3 27 (C1 6 r70.1 r15.2.2.2.1)), (Ur q2 27 (C1 0 0 0))]) rfl) fun _ => ?_
 refine sg (off := 3) rfl Try.underlying27 rfl info22 rfl ?_
 refine so (ox_store' (i := 6) (o := 3) rfl rfl (lv_vl rfl rfl) (ar rfl rfl rfl rfl) rfl info22 rfl (H' := [(Rg (Kl (Ki .i64)) 23 wa0_4 r79.1), (Rg (Kl (Ki .i64)) 23 g79 r79.2), (Ur wa0 143 (C2 r78.1 r78.2.1 wa0_2 r78.2.2.2.1 wa0_4)), (Rg Kf 32 wa0_2 r78.2.2.1), (Rg (Ki .i64) 3 g76 r76), (Rg Kf 32 g73 r73.2), (Ur q3 27 (C10 6 r70.1 r15.2.2.2.1 g73)), (Ur q2 27 (C1 0 0 0))]) rfl) fun _ => ?_
 refine sg (off := 4) rfl Try.underlying27 rfl info23 rfl ?_
 refine so (ox_store' (i := 6) (o := 4) rfl rfl (lv_vl rfl rfl) (ar rfl rfl rfl rfl) rfl info23 rfl (H' := [(Rg (Kl (Ki .i64)) 23 wa0_4 r79.1), (Rg (Kl (Ki .i64)) 23 g79 r79.2), (Ur wa0 143 (C2 r78.1 r78.2.1 wa0_2 r78.2.2.2.1 wa0_4)), (Rg Kf 32 wa0_2 r78.2.2.1), (Rg (Ki .i64) 3 g76 r76), (Rg Kf 32 g73 r73.2), (Ur q3 27 (C7 6 r70.1 r15.2.2.2.1 g73 g76)), (Ur q2 27 (C1 0 0 0))]) rfl) fun _ => ?_
 refine sg (off := 5) rfl Try.underlying27 rfl info24 rfl ?_
 refine so (ox_store' (i := 6) (o := 5) rfl rfl (lv_vl rfl rfl) (ar rfl rfl rfl rfl) rfl info24 rfl (H' := [(Rg (Kl (Ki .i64)) 23 wa0_4 r79.1), (Rg (Kl (Ki .i64)) 23 g79 r79.2), (Ur wa0 143 (C2 r78.1 r78.2.1 wa0_2 r78.2.2.2.1 wa0_4)), (Rg Kf 32 wa0_2 r78.2.2.1), (Rg (Ki .i64) 3 g76 r76), (Rg Kf 32 g73 r73.2), (Ur q3 27 (C13 6 r70.1 r15.2.2.2.1 g73 g76 g79)), (Ur q2 27 (C1 0 0 0))]) rfl) fun _ => ?_
 refine nk hK13 ?_
 refine cr fun K14 hK14 => ?_
 refine s0 (rd_load_agg' (i := 6) (o := 0) (nn := 7) rfl (ar rfl rfl rfl rfl) rfl agg27 (l' := (C13 6 r70.1 r15.2.2.2.1 g73 g76 g79)) rfl) ?_
 refine so (ox_store' (i := 7) (o := 0) rfl rfl (lv_ag _) (ar rfl rfl rfl rfl) rfl info27 rfl (H' := [(Rg (Kl (Ki .i64)) 23 wa0_4 r79.1), (Rg (Kl (Ki .i64)) 23 g79 r79.2), (Ur wa0 143 (C2 r78.1 r78.2.1 wa0_2 r78.2.2.2.1 wa0_4)), (Rg Kf 32 wa0_2 r78.2.2.1), (Rg (Ki .i64) 3 g76 r76), (Rg Kf 32 g73 r73.2), (Ur q3 27 (C13 6 r70.1 r15.2.2.2.1 g73 g76 g79)), (Ur q2 27 (C13 6 r70.1 r15.2.2.2.1 g73 g76 g79))]) rfl) fun _ => ?_
 refine nk hK14 ?_
 refine cx_retc' ?_
 replace hp := sj hp
 subst hp
 refine tx_fz' (frz_row 5 [(73, (Vw g73), (Sl Kf r73.2)), (84, (Ag (C13 6 r70.1 r15.2.2.2.1 g73 g76 g79)), (Ag (C21 6 r70.1 r15.2.2.2.1 r73.2 g76 g79)))] (K := Kf) (xs := r73.2) (by decide) rfl ⟨⟨rfl, frz_it⟩, ⟨rfl, fz_ag (fc f0 (fc f0 (fc f0 (fc fz0_it (fc f0 (fc f0 (fc f0 fz0_nil)))))))⟩, trivial⟩ (H' := [(Rg (Kl (Ki .i64)) 23 wa0_4 r79.1), (Rg (Kl (Ki .i64)) 23 g79 r79.2), (Ur wa0 143 (C2 r78.1 r78.2.1 wa0_2 r78.2.2.2.1 wa0_4)), (Rg Kf 32 wa0_2 r78.2.2.1), (Rg (Ki .i64) 3 g76 r76), (Ur q3 27 (C21 6 r70.1 r15.2.2.2.1 r73.2 g76 g79)), (Ur q2 27 (C21 6 r70.1 r15.2.2.2.1 r73.2 g76 g79))]) (fk (fk (fk (fk (fk (fh rfl rfl rfl (fl fs (fl fs (fl fs (fl frz_it (fl fs (fl fs (fl fs frzL_refl))))))) (fh rfl rfl rfl (fl fs (fl fs (fl fs (fl frz_it (fl fs (fl fs (fl fs frzL_refl))))))) frzH_refl)))))))) ?_
 refine tx_fz' (frz_row 4 [(76, (Vw g76), (Sl (Ki .i64) r76)), (84, (Ag (C21 6 r70.1 r15.2.2.2.1 r73.2 g76 g79)), (Ag (C17 6 r70.1 r15.2.2.2.1 r73.2 r76 g79)))] (K := (Ki .i64)) (xs := r76) (by decide) rfl ⟨⟨rfl, frz_it⟩, ⟨rfl, fz_ag (fc f0 (fc f0 (fc f0 (fc f0 (fc fz0_it (fc f0 (fc f0 fz0_nil)))))))⟩, trivial⟩ (H' := [(Rg (Kl (Ki .i64)) 23 wa0_4 r79.1), (Rg (Kl (Ki .i64)) 23 g79 r79.2), (Ur wa0 143 (C2 r78.1 r78.2.1 wa0_2 r78.2.2.2.1 wa0_4)), (Rg Kf 32 wa0_2 r78.2.2.1), (Ur q3 27 (C17 6 r70.1 r15.2.2.2.1 r73.2 r76 g79)), (Ur q2 27 (C17 6 r70.1 r15.2.2.2.1 r73.2 r76 g79))]) (fk (fk (fk (fk (fh rfl rfl rfl (fl fs (fl fs (fl fs (fl fs (fl frz_it (fl fs (fl fs frzL_refl))))))) (fh rfl rfl rfl (fl fs (fl fs (fl fs (fl fs (fl frz_it (fl fs (fl fs frzL_refl))))))) frzH_refl))))))) ?_
 refine tx_fz' (frz_row 1 [(79, (Vw g79), (Sl (Kl (Ki .i64)) r79.2)), (84, (Ag (C17 6 r70.1 r15.2.2.2.1 r73.2 r76 g79)), (Ag (C8 6 r70.1 r15.2.2.2.1 r73.2 r76 r79.2)))] (K := (Kl (Ki .i64))) (xs := r79.2) (by decide) rfl ⟨⟨rfl, frz_it⟩, ⟨rfl, fz_ag (fc f0 (fc f0 (fc f0 (fc f0 (fc f0 (fc fz0_it (fc f0 fz0_nil)))))))⟩, trivial⟩ (H' := [(Rg (Kl (Ki .i64)) 23 wa0_4 r79.1), (Ur wa0 143 (C2 r78.1 r78.2.1 wa0_2 r78.2.2.2.1 wa0_4)), (Rg Kf 32 wa0_2 r78.2.2.1), (Ur q3 27 (C8 6 r70.1 r15.2.2.2.1 r73.2 r76 r79.2)), (Ur q2 27 (C8 6 r70.1 r15.2.2.2.1 r73.2 r76 r79.2))]) (fk (fk (fk (fh rfl rfl rfl (fl fs (fl fs (fl fs (fl fs (fl fs (fl frz_it (fl fs frzL_refl))))))) (fh rfl rfl rfl (fl fs (fl fs (fl fs (fl fs (fl fs (fl frz_it (fl fs frzL_refl))))))) frzH_refl)))))) ?_
 refine tk (L' := [(2, (Vp q2))]) (H' := [(Ur wa0 143 (C2 r78.1 r78.2.1 wa0_2 r78.2.2.2.1 wa0_4)), (Rg Kf 32 wa0_2 r78.2.2.1), (Rg (Kl (Ki .i64)) 23 wa0_4 r79.1), (Ur q2 27 (C8 6 r70.1 r15.2.2.2.1 r73.2 r76 r79.2))]) [1, 2, 0, 4] (uc rfl un) (p4 rfl rfl rfl rfl) ?_
 exact tx_ret1' Try.results34 rfl () (rv_cell_agg' (i := 3) (o := 0) (nn := 7) rfl (ar rfl rfl rfl rfl) rfl agg27 rfl) (List.Sublist.cons_cons _ (List.Sublist.cons_cons _ (List.Sublist.cons_cons _ (List.nil_sublist _))))

def gogeom_GeometryCollection_SRID (k : Nat) (a0_0 : Int) (a0_1 : List G53) (a0_2 : Int) : Option (Int × (List G53) × Int) :=
 some (a0_0, a0_1, a0_2)

theorem gogeom_GeometryCollection_SRID_sim {k : Nat} {wa0 : Addr} {wa0_1 : Gs} (a0_0 : Int) (a0_1 : List G53) (a0_2 : Int) {out : Int × (List G53) × Int} (hp : gogeom_GeometryCollection_SRID k a0_0 a0_1 a0_2 = some out) : Sx.Fn Try.prog 126 [(Vp wa0)] [(Ur wa0 114 (C4 a0_0 wa0_1 a0_2)), (Rg KG53 53 wa0_1 a0_1)] (fun w : Unit => (Vi out.2.2)) (fun w => [(Ur wa0 114 (C4 out.1 wa0_1 out.2.2)), (Rg KG53 53 wa0_1 out.2.1)]) := by
 unfold gogeom_GeometryCollection_SRID at hp
 refine fn_of Try.func126 rfl Try.ntmps126 rfl fun E hM => ?_
 refine cr fun K1 hK1 => ?_
 refine sa rfl ?_
 refine nk hK1 ?_
 refine cr fun K2 hK2 => ?_
 refine sm rfl ?_
 refine sn rfl ?_
 refine sg (off := 2) rfl Try.underlying114 rfl info3 rfl ?_
 refine sl (i := 0) (o := 2) rfl (ar rfl rfl rfl rfl) rfl flat3 ?_
 refine sa rfl ?_
 refine nk hK2 ?_
 refine cx_retc' ?_
 replace hp := sj hp
 subst hp
 refine tk (L' := [(2, (Vi a0_2))]) (H' := [(Ur wa0 114 (C4 a0_0 wa0_1 a0_2)), (Rg KG53 53 wa0_1 a0_1)]) [0, 1] (uc rfl un) (p2 rfl rfl) ?_
 exact tx_ret1' Try.results126 rfl () (rv_tmp' rfl) lr

def gogeom_DoorLayout (k : Nat) (a0_0 : Int) (a0_1 : List G53) (a0_2 : Int) : Option (Int × (List G53) × Int) :=
 some (a0_0, a0_1, a0_2)

theorem gogeom_DoorLayout_sim {k : Nat} {wa0 : Addr} {wa0_1 : Gs} (a0_0 : Int) (a0_1 : List G53) (a0_2 : Int) {out : Int × (List G53) × Int} (hp : gogeom_DoorLayout k a0_0 a0_1 a0_2 = some out) : Sx.Fn Try.prog 80 [(Vp wa0)] [(Ur wa0 114 (C4 a0_0 wa0_1 a0_2)), (Rg KG53 53 wa0_1 a0_1)] (fun w : Unit => (Vi out.1)) (fun w => [(Ur wa0 114 (C4 out.1 wa0_1 out.2.2)), (Rg KG53 53 wa0_1 out.2.1)]) := by
 unfold gogeom_DoorLayout at hp
 refine fn_of Try.func80 rfl Try.ntmps80 rfl fun E hM => ?_
 refine cr fun K1 hK1 => ?_
 refine sa rfl ?_
 refine nk hK1 ?_
 refine cr fun K2 hK2 => ?_
 refine sm rfl ?_
 refine sn rfl ?_
 refine sf rfl Try.underlying114 rfl info61 rfl ?_
 refine sl (i := 0) (o := 0) rfl (ar rfl rfl rfl rfl) rfl flat61 ?_
 refine sa rfl ?_
 refine nk hK2 ?_
 refine cx_retc' ?_
 replace hp := sj hp
 subst hp
 refine tk (L' := [(2, (Vi a0_0))]) (H' := [(Ur wa0 114 (C4 a0_0 wa0_1 a0_2)), (Rg KG53 53 wa0_1 a0_1)]) [0, 1] (uc rfl un) (p2 rfl rfl) ?_
 exact tx_ret1' Try.results80 rfl () (rv_tmp' rfl) lr

def gogeom_GeometryCollection_Geoms (k : Nat) (a0_0 : Int) (a0_1 : List G53) (a0_2 : Int) : Option (Int × (List G53) × Int) :=
 some (a0_0, a0_1, a0_2)

theorem gogeom_GeometryCollection_Geoms_sim {k : Nat} {wa0 : Addr} {wa0_1 : Gs} (a0_0 : Int) (a0_1 : List G53) (a0_2 : Int) {out : Int × (List G53) × Int} (hp : gogeom_GeometryCollection_Geoms k a0_0 a0_1 a0_2 = some out) : Sx.Fn Try.prog 81 [(Vp wa0)] [(Ur wa0 114 (C4 a0_0 wa0_1 a0_2)), (Rg KG53 53 wa0_1 a0_1)] (fun w : Unit => (Sl KG53 out.2.1)) (fun w => [(Ur wa0 114 (C14 out.1 out.2.1 out.2.2))]) := by
 unfold gogeom_GeometryCollection_Geoms at hp
 refine fn_of Try.func81 rfl Try.ntmps81 rfl fun E hM => ?_
 refine cr fun K1 hK1 => ?_
 refine sa rfl ?_
 refine nk hK1 ?_
 refine cr fun K2 hK2 => ?_
 refine sm rfl ?_
 refine sn rfl ?_
 refine sg (off := 1) rfl Try.underlying114 rfl info112 rfl ?_
 refine sl (i := 0) (o := 1) rfl (ar rfl rfl rfl rfl) rfl flat112 ?_
 refine sa rfl ?_
 refine nk hK2 ?_
 refine cx_retc' ?_
 replace hp := sj hp
 subst hp
 refine tx_fz' (frz_row 1 [(2, (Vw wa0_1), (Sl KG53 a0_1)), (6, (Vw wa0_1), (Sl KG53 a0_1))] (K := KG53) (xs := a0_1) (by decide) rfl ⟨⟨rfl, frz_it⟩, ⟨rfl, frz_it⟩, trivial⟩ (H' := [(Ur wa0 114 (C14 a0_0 a0_1 a0_2))]) (fh rfl rfl rfl (fl fs (fl frz_it (fl fs frzL_refl))) frzH_refl)) ?_
 refine tk (L' := [(2, (Sl KG53 a0_1))]) (H' := [(Ur wa0 114 (C14 a0_0 a0_1 a0_2))]) [0] (uc rfl un) (pc rfl pn) ?_
 exact tx_ret1' Try.results81 rfl () (rv_tmp' rfl) lr

def gogeom_geom0_SRID_v5 (k : Nat) (a0_0 a0_1 : Int) (a0_2 : List Nat) (a0_3 : Int) : Option (Int) :=
 some a0_3

theorem gogeom_geom0_SRID_v5_sim {k : Nat}  (a0_0 a0_1 : Int) (a0_2 : List Nat) (a0_3 : Int) {out : Int} (hp : gogeom_geom0_SRID_v5 k a0_0 a0_1 a0_2 a0_3 = some out) : Sx.Fn Try.prog 136 [(Pt (C3 a0_0 a0_1 a0_2 a0_3))] [] (fun w : Unit => (Vi out)) (fun w => []) := by
 unfold gogeom_geom0_SRID_v5 at hp
 refine fn_of Try.func136 rfl Try.ntmps136 rfl fun E hM => ?_
 refine cr fun K1 hK1 => ?_
 refine sa rfl ?_
 refine nk hK1 ?_
 refine cr fun K2 hK2 => ?_
 refine sm rfl ?_
 refine s0 (rd_nilck_pt' rfl) ?_
 refine s0 (rd_field_pt' (off := 3) rfl Try.underlying124 rfl info3 rfl (l' := [(Vi a0_3)]) rfl) ?_
 refine s0 (rd_load_pt' rfl rfl flat3) ?_
 refine sa rfl ?_
 refine nk hK2 ?_
 refine cx_retc' ?_
 replace hp := sj hp
 subst hp
 refine tk (L' := [(2, (Vi a0_3))]) (H' := []) [] (uc rfl un) pn ?_
 exact tx_ret1' Try.results136 rfl () (rv_tmp' rfl) lr

def gogeom_geom0_FlatCoords_v5 (k : Nat) (a0_0 a0_1 : Int) (a0_2 : List Nat) (a0_3 : Int) : Option ((List Nat)) :=
 some a0_2

theorem gogeom_geom0_FlatCoords_v5_sim {k : Nat}  (a0_0 a0_1 : Int) (a0_2 : List Nat) (a0_3 : Int) {out : (List Nat)} (hp : gogeom_geom0_FlatCoords_v5 k a0_0 a0_1 a0_2 a0_3 = some out) : Sx.Fn Try.prog 133 [(Pt (C3 a0_0 a0_1 a0_2 a0_3))] [] (fun w : Unit => (Sl Kf out)) (fun w => []) := by
 unfold gogeom_geom0_FlatCoords_v5 at hp
 refine fn_of Try.func133 rfl Try.ntmps133 rfl fun E hM => ?_
 refine cr fun K1 hK1 => ?_
 refine sa rfl ?_
 refine nk hK1 ?_
 refine cr fun K2 hK2 => ?_
 refine sm rfl ?_
 refine s0 (rd_nilck_pt' rfl) ?_
 refine s0 (rd_field_pt' (off := 2) rfl Try.underlying124 rfl info22 rfl (l' := [(Sl Kf a0_2), (Vi a0_3)]) rfl) ?_
 refine s0 (rd_load_pt' rfl rfl flat22) ?_
 refine sa rfl ?_
 refine nk hK2 ?_
 refine cx_retc' ?_
 replace hp := sj hp
 subst hp
 refine tk (L' := [(2, (Sl Kf a0_2))]) (H' := []) [] (uc rfl un) pn ?_
 exact tx_ret1' Try.results133 rfl () (rv_tmp' rfl) lr

def gogeom_geom0_Ends_v2 (k : Nat) (a0_0 a0_1 : Int) (a0_2 : List Nat) (a0_3 : Int) : Option (Unit) :=
 some ()

theorem gogeom_geom0_Ends_v2_sim {k : Nat}  (a0_0 a0_1 : Int) (a0_2 : List Nat) (a0_3 : Int) {out : Unit} (hp : gogeom_geom0_Ends_v2 k a0_0 a0_1 a0_2 a0_3 = some out) : Sx.Fn Try.prog 138 [(Pt (C3 a0_0 a0_1 a0_2 a0_3))] [] (fun w : Unit => Vn) (fun w => []) := by
 unfold gogeom_geom0_Ends_v2 at hp
 refine fn_of Try.func138 rfl Try.ntmps138 rfl fun E hM => ?_
 refine cr fun K1 hK1 => ?_
 refine sa rfl ?_
 refine nk hK1 ?_
 refine cr fun K2 hK2 => ?_
 refine sa rfl ?_
 refine nk hK2 ?_
 refine cx_retc' ?_
 replace hp := sj hp
 subst hp
 refine tk (L' := [(2, Vn)]) (H' := []) [] (uc rfl un) pn ?_
 exact tx_ret1' Try.results138 rfl () (rv_tmp' rfl) lr

def gogeom_geom0_Endss_v4 (k : Nat) (a0_0 a0_1 : Int) (a0_2 : List Nat) (a0_3 : Int) : Option (Unit) :=
 some ()

theorem gogeom_geom0_Endss_v4_sim {k : Nat}  (a0_0 a0_1 : Int) (a0_2 : List Nat) (a0_3 : Int) {out : Unit} (hp : gogeom_geom0_Endss_v4 k a0_0 a0_1 a0_2 a0_3 = some out) : Sx.Fn Try.prog 132 [(Pt (C3 a0_0 a0_1 a0_2 a0_3))] [] (fun w : Unit => Vn) (fun w => []) := by
 unfold gogeom_geom0_Endss_v4 at hp
 refine fn_of Try.func132 rfl Try.ntmps132 rfl fun E hM => ?_
 refine cr fun K1 hK1 => ?_
 refine sa rfl ?_
 refine nk hK1 ?_
 refine cr fun K2 hK2 => ?_
 refine sa rfl ?_
 refine nk hK2 ?_
 refine cx_retc' ?_
 replace hp := sj hp
 subst hp
 refine tk (L' := [(2, Vn)]) (H' := []) [] (uc rfl un) pn ?_
 exact tx_ret1' Try.results132 rfl () (rv_tmp' rfl) lr

def gogeom_geom0_SRID_v6 (k : Nat) (a0_0 a0_1 : Int) (a0_2 : List Nat) (a0_3 : Int) (a0_4 : List Int) : Option (Int) :=
 some a0_3

theorem gogeom_geom0_SRID_v6_sim {k : Nat}  (a0_0 a0_1 : Int) (a0_2 : List Nat) (a0_3 : Int) (a0_4 : List Int) {out : Int} (hp : gogeom_geom0_SRID_v6 k a0_0 a0_1 a0_2 a0_3 a0_4 = some out) : Sx.Fn Try.prog 136 [(Pt (C6 a0_0 a0_1 a0_2 a0_3 a0_4))] [] (fun w : Unit => (Vi out)) (fun w => []) := by
 unfold gogeom_geom0_SRID_v6 at hp
 refine fn_of Try.func136 rfl Try.ntmps136 rfl fun E hM => ?_
 refine cr fun K1 hK1 => ?_
 refine sa rfl ?_
 refine nk hK1 ?_
 refine cr fun K2 hK2 => ?_
 refine sm rfl ?_
 refine s0 (rd_nilck_pt' rfl) ?_
 refine s0 (rd_field_pt' (off := 3) rfl Try.underlying124 rfl info3 rfl (l' := [(Vi a0_3), (Sl (Ki .i64) a0_4)]) rfl) ?_
 refine s0 (rd_load_pt' rfl rfl flat3) ?_
 refine sa rfl ?_
 refine nk hK2 ?_
 refine cx_retc' ?_
 replace hp := sj hp
 subst hp
 refine tk (L' := [(2, (Vi a0_3))]) (H' := []) [] (uc rfl un) pn ?_
 exact tx_ret1' Try.results136 rfl () (rv_tmp' rfl) lr

def gogeom_geom0_FlatCoords_v6 (k : Nat) (a0_0 a0_1 : Int) (a0_2 : List Nat) (a0_3 : Int) (a0_4 : List Int) : Option ((List Nat)) :=
 some a0_2

theorem gogeom_geom0_FlatCoords_v6_sim {k : Nat}  (a0_0 a0_1 : Int) (a0_2 : List Nat) (a0_3 : Int) (a0_4 : List Int) {out : (List Nat)} (hp : gogeom_geom0_FlatCoords_v6 k a0_0 a0_1 a0_2 a0_3 a0_4 = some out) : Sx.Fn Try.prog 133 [(Pt (C6 a0_0 a0_1 a0_2 a0_3 a0_4))] [] (fun w : Unit => (Sl Kf out)) (fun w => []) := by
 unfold gogeom_geom0_FlatCoords_v6 at hp
 refine fn_of Try.func133 rfl Try.ntmps133 rfl fun E hM => ?_
 refine cr fun K1 hK1 => ?_
 refine sa rfl ?_
 refine nk hK1 ?_
 refine cr fun K2 hK2 => ?_
 refine sm rfl ?_
 refine s0 (rd_nilck_pt' rfl) ?_
 refine s0 (rd_field_pt' (off := 2) rfl Try.underlying124 rfl info22 rfl (l' := [(Sl Kf a0_2), (Vi a0_3), (Sl (Ki .i64) a0_4)]) rfl) ?_
 refine s0 (rd_load_pt' rfl rfl flat22) ?_
 refine sa rfl ?_
 refine nk hK2 ?_
 refine cx_retc' ?_
 replace hp := sj hp
 subst hp
 refine tk (L' := [(2, (Sl Kf a0_2))]) (H' := []) [] (uc rfl un) pn ?_
 exact tx_ret1' Try.results133 rfl () (rv_tmp' rfl) lr

def gogeom_geom2_Ends_v4 (k : Nat) (a0_0 a0_1 : Int) (a0_2 : List Nat) (a0_3 : Int) (a0_4 : List Int) : Option ((List Int)) :=
 some a0_4

theorem gogeom_geom2_Ends_v4_sim {k : Nat}  (a0_0 a0_1 : Int) (a0_2 : List Nat) (a0_3 : Int) (a0_4 : List Int) {out : (List Int)} (hp : gogeom_geom2_Ends_v4 k a0_0 a0_1 a0_2 a0_3 a0_4 = some out) : Sx.Fn Try.prog 131 [(Pt (C6 a0_0 a0_1 a0_2 a0_3 a0_4))] [] (fun w : Unit => (Sl (Ki .i64) out)) (fun w => []) := by
 unfold gogeom_geom2_Ends_v4 at hp
 refine fn_of Try.func131 rfl Try.ntmps131 rfl fun E hM => ?_
 refine cr fun K1 hK1 => ?_
 refine sa rfl ?_
 refine nk hK1 ?_
 refine cr fun K2 hK2 => ?_
 refine sm rfl ?_
 refine s0 (rd_nilck_pt' rfl) ?_
 refine s0 (rd_field_pt' (off := 4) rfl Try.underlying130 rfl info23 rfl (l' := [(Sl (Ki .i64) a0_4)]) rfl) ?_
 refine s0 (rd_load_pt' rfl rfl flat23) ?_
 refine sa rfl ?_
 refine nk hK2 ?_
 refine cx_retc' ?_
 replace hp := sj hp
 subst hp
 refine tk (L' := [(2, (Sl (Ki .i64) a0_4))]) (H' := []) [] (uc rfl un) pn ?_
 exact tx_ret1' Try.results131 rfl () (rv_tmp' rfl) lr

def gogeom_geom0_Endss_v5 (k : Nat) (a0_0 a0_1 : Int) (a0_2 : List Nat) (a0_3 : Int) (a0_4 : List Int) : Option (Unit) :=
 some ()

theorem gogeom_geom0_Endss_v5_sim {k : Nat}  (a0_0 a0_1 : Int) (a0_2 : List Nat) (a0_3 : Int) (a0_4 : List Int) {out : Unit} (hp : gogeom_geom0_Endss_v5 k a0_0 a0_1 a0_2 a0_3 a0_4 = some out) : Sx.Fn Try.prog 132 [(Pt (C6 a0_0 a0_1 a0_2 a0_3 a0_4))] [] (fun w : Unit => Vn) (fun w => []) := by
 unfold gogeom_geom0_Endss_v5 at hp
 refine fn_of Try.func132 rfl Try.ntmps132 rfl fun E hM => ?_
 refine cr fun K1 hK1 => ?_
 refine sa rfl ?_
 refine nk hK1 ?_
 refine cr fun K2 hK2 => ?_
 refine sa rfl ?_
 refine nk hK2 ?_
 refine cx_retc' ?_
 replace hp := sj hp
 subst hp
 refine tk (L' := [(2, Vn)]) (H' := []) [] (uc rfl un) pn ?_
 exact tx_ret1' Try.results132 rfl () (rv_tmp' rfl) lr

def gogeom_geom0_SRID_v7 (k : Nat) (a0_0 a0_1 : Int) (a0_2 : List Nat) (a0_3 : Int) (a0_4 : List (List Int)) : Option (Int) :=
 some a0_3

theorem gogeom_geom0_SRID_v7_sim {k : Nat}  (a0_0 a0_1 : Int) (a0_2 : List Nat) (a0_3 : Int) (a0_4 : List (List Int)) {out : Int} (hp : gogeom_geom0_SRID_v7 k a0_0 a0_1 a0_2 a0_3 a0_4 = some out) : Sx.Fn Try.prog 136 [(Pt (C11 a0_0 a0_1 a0_2 a0_3 a0_4))] [] (fun w : Unit => (Vi out)) (fun w => []) := by
 unfold gogeom_geom0_SRID_v7 at hp
 refine fn_of Try.func136 rfl Try.ntmps136 rfl fun E hM => ?_
 refine cr fun K1 hK1 => ?_
 refine sa rfl ?_
 refine nk hK1 ?_
 refine cr fun K2 hK2 => ?_
 refine sm rfl ?_
 refine s0 (rd_nilck_pt' rfl) ?_
 refine s0 (rd_field_pt' (off := 3) rfl Try.underlying124 rfl info3 rfl (l' := [(Vi a0_3), (Sl (Kl (Ki .i64)) a0_4)]) rfl) ?_
 refine s0 (rd_load_pt' rfl rfl flat3) ?_
 refine sa rfl ?_
 refine nk hK2 ?_
 refine cx_retc' ?_
 replace hp := sj hp
 subst hp
 refine tk (L' := [(2, (Vi a0_3))]) (H' := []) [] (uc rfl un) pn ?_
 exact tx_ret1' Try.results136 rfl () (rv_tmp' rfl) lr

def gogeom_geom0_FlatCoords_v7 (k : Nat) (a0_0 a0_1 : Int) (a0_2 : List Nat) (a0_3 : Int) (a0_4 : List (List Int)) : Option ((List Nat)) :=
 some a0_2

theorem gogeom_geom0_FlatCoords_v7_sim {k : Nat}  (a0_0 a0_1 : Int) (a0_2 : List Nat) (a0_3 : Int) (a0_4 : List (List Int)) {out : (List Nat)} (hp : gogeom_geom0_FlatCoords_v7 k a0_0 a0_1 a0_2 a0_3 a0_4 = some out) : Sx.Fn Try.prog 133 [(Pt (C11 a0_0 a0_1 a0_2 a0_3 a0_4))] [] (fun w : Unit => (Sl Kf out)) (fun w => []) := by
 unfold gogeom_geom0_FlatCoords_v7 at hp
 refine fn_of Try.func133 rfl Try.ntmps133 rfl fun E hM => ?_
 refine cr fun K1 hK1 => ?_
 refine sa rfl ?_
 refine nk hK1 ?_
 refine cr fun K2 hK2 => ?_
 refine sm rfl ?_
 refine s0 (rd_nilck_pt' rfl) ?_
 refine s0 (rd_field_pt' (off := 2) rfl Try.underlying124 rfl info22 rfl (l' := [(Sl Kf a0_2), (Vi a0_3), (Sl (Kl (Ki .i64)) a0_4)]) rfl) ?_
 refine s0 (rd_load_pt' rfl rfl flat22) ?_
 refine sa rfl ?_
 refine nk hK2 ?_
 refine cx_retc' ?_
 replace hp := sj hp
 subst hp
 refine tk (L' := [(2, (Sl Kf a0_2))]) (H' := []) [] (uc rfl un) pn ?_
 exact tx_ret1' Try.results133 rfl () (rv_tmp' rfl) lr

def gogeom_geom0_Ends_v3 (k : Nat) (a0_0 a0_1 : Int) (a0_2 : List Nat) (a0_3 : Int) (a0_4 : List (List Int)) : Option (Unit) :=
 some ()

theorem gogeom_geom0_Ends_v3_sim {k : Nat}  (a0_0 a0_1 : Int) (a0_2 : List Nat) (a0_3 : Int) (a0_4 : List (List Int)) {out : Unit} (hp : gogeom_geom0_Ends_v3 k a0_0 a0_1 a0_2 a0_3 a0_4 = some out) : Sx.Fn Try.prog 138 [(Pt (C11 a0_0 a0_1 a0_2 a0_3 a0_4))] [] (fun w : Unit => Vn) (fun w => []) := by
 unfold gogeom_geom0_Ends_v3 at hp
 refine fn_of Try.func138 rfl Try.ntmps138 rfl fun E hM => ?_
 refine cr fun K1 hK1 => ?_
 refine sa rfl ?_
 refine nk hK1 ?_
 refine cr fun K2 hK2 => ?_
 refine sa rfl ?_
 refine nk hK2 ?_
 refine cx_retc' ?_
 replace hp := sj hp
 subst hp
 refine tk (L' := [(2, Vn)]) (H' := []) [] (uc rfl un) pn ?_
 exact tx_ret1' Try.results138 rfl () (rv_tmp' rfl) lr

def gogeom_geom3_Endss_v2 (k : Nat) (a0_0 a0_1 : Int) (a0_2 : List Nat) (a0_3 : Int) (a0_4 : List (List Int)) : Option ((List (List Int))) :=
 some a0_4

theorem gogeom_geom3_Endss_v2_sim {k : Nat}  (a0_0 a0_1 : Int) (a0_2 : List Nat) (a0_3 : Int) (a0_4 : List (List Int)) {out : (List (List Int))} (hp : gogeom_geom3_Endss_v2 k a0_0 a0_1 a0_2 a0_3 a0_4 = some out) : Sx.Fn Try.prog 141 [(Pt (C11 a0_0 a0_1 a0_2 a0_3 a0_4))] [] (fun w : Unit => (Sl (Kl (Ki .i64)) out)) (fun w => []) := by
 unfold gogeom_geom3_Endss_v2 at hp
 refine fn_of Try.func141 rfl Try.ntmps141 rfl fun E hM => ?_
 refine cr fun K1 hK1 => ?_
 refine sa rfl ?_
 refine nk hK1 ?_
 refine cr fun K2 hK2 => ?_
 refine sm rfl ?_
 refine s0 (rd_nilck_pt' rfl) ?_
 refine s0 (rd_field_pt' (off := 4) rfl Try.underlying141 rfl info24 rfl (l' := [(Sl (Kl (Ki .i64)) a0_4)]) rfl) ?_
 refine s0 (rd_load_pt' rfl rfl flat24) ?_
 refine sa rfl ?_
 refine nk hK2 ?_
 refine cx_retc' ?_
 replace hp := sj hp
 subst hp
 refine tk (L' := [(2, (Sl (Kl (Ki .i64)) a0_4))]) (H' := []) [] (uc rfl un) pn ?_
 exact tx_ret1' Try.results141 rfl () (rv_tmp' rfl) lr

def gogeom_GeometryCollection_SRID_v2 (k : Nat) (a0_0 : Int) (a0_1 : List G53) (a0_2 : Int) : Option (Int) :=
 some a0_2

theorem gogeom_GeometryCollection_SRID_v2_sim {k : Nat}  (a0_0 : Int) (a0_1 : List G53) (a0_2 : Int) {out : Int} (hp : gogeom_GeometryCollection_SRID_v2 k a0_0 a0_1 a0_2 = some out) : Sx.Fn Try.prog 126 [(Pt (C14 a0_0 a0_1 a0_2))] [] (fun w : Unit => (Vi out)) (fun w => []) := by
 unfold gogeom_GeometryCollection_SRID_v2 at hp
 refine fn_of Try.func126 rfl Try.ntmps126 rfl fun E hM => ?_
 refine cr fun K1 hK1 => ?_
 refine sa rfl ?_
 refine nk hK1 ?_
 refine cr fun K2 hK2 => ?_
 refine sm rfl ?_
 refine s0 (rd_nilck_pt' rfl) ?_
 refine s0 (rd_field_pt' (off := 2) rfl Try.underlying114 rfl info3 rfl (l' := [(Vi a0_2)]) rfl) ?_
 refine s0 (rd_load_pt' rfl rfl flat3) ?_
 refine sa rfl ?_
 refine nk hK2 ?_
 refine cx_retc' ?_
 replace hp := sj hp
 subst hp
 refine tk (L' := [(2, (Vi a0_2))]) (H' := []) [] (uc rfl un) pn ?_
 exact tx_ret1' Try.results126 rfl () (rv_tmp' rfl) lr

def gogeom_DoorLayout_v2 (k : Nat) (a0_0 : Int) (a0_1 : List G53) (a0_2 : Int) : Option (Int) :=
 some a0_0

theorem gogeom_DoorLayout_v2_sim {k : Nat}  (a0_0 : Int) (a0_1 : List G53) (a0_2 : Int) {out : Int} (hp : gogeom_DoorLayout_v2 k a0_0 a0_1 a0_2 = some out) : Sx.Fn Try.prog 80 [(Pt (C14 a0_0 a0_1 a0_2))] [] (fun w : Unit => (Vi out)) (fun w => []) := by
 unfold gogeom_DoorLayout_v2 at hp
 refine fn_of Try.func80 rfl Try.ntmps80 rfl fun E hM => ?_
 refine cr fun K1 hK1 => ?_
 refine sa rfl ?_
 refine nk hK1 ?_
 refine cr fun K2 hK2 => ?_
 refine sm rfl ?_
 refine s0 (rd_nilck_pt' rfl) ?_
 refine s0 (rd_field_pt' (off := 0) rfl Try.underlying114 rfl info61 rfl (l' := (C14 a0_0 a0_1 a0_2)) rfl) ?_
 refine s0 (rd_load_pt' rfl rfl flat61) ?_
 refine sa rfl ?_
 refine nk hK2 ?_
 refine cx_retc' ?_
 replace hp := sj hp
 subst hp
 refine tk (L' := [(2, (Vi a0_0))]) (H' := []) [] (uc rfl un) pn ?_
 exact tx_ret1' Try.results80 rfl () (rv_tmp' rfl) lr

def gogeom_GeometryCollection_Geoms_v2 (k : Nat) (a0_0 : Int) (a0_1 : List G53) (a0_2 : Int) : Option ((List G53)) :=
 some a0_1

theorem gogeom_GeometryCollection_Geoms_v2_sim {k : Nat}  (a0_0 : Int) (a0_1 : List G53) (a0_2 : Int) {out : (List G53)} (hp : gogeom_GeometryCollection_Geoms_v2 k a0_0 a0_1 a0_2 = some out) : Sx.Fn Try.prog 81 [(Pt (C14 a0_0 a0_1 a0_2))] [] (fun w : Unit => (Sl KG53 out)) (fun w => []) := by
 unfold gogeom_GeometryCollection_Geoms_v2 at hp
 refine fn_of Try.func81 rfl Try.ntmps81 rfl fun E hM => ?_
 refine cr fun K1 hK1 => ?_
 refine sa rfl ?_
 refine nk hK1 ?_
 refine cr fun K2 hK2 => ?_
 refine sm rfl ?_
 refine s0 (rd_nilck_pt' rfl) ?_
 refine s0 (rd_field_pt' (off := 1) rfl Try.underlying114 rfl info112 rfl (l' := [(Sl KG53 a0_1), (Vi a0_2)]) rfl) ?_
 refine s0 (rd_load_pt' rfl rfl flat112) ?_
 refine sa rfl ?_
 refine nk hK2 ?_
 refine cx_retc' ?_
 replace hp := sj hp
 subst hp
 refine tk (L' := [(2, (Sl KG53 a0_1))]) (H' := []) [] (uc rfl un) pn ?_
 exact tx_ret1' Try.results81 rfl () (rv_tmp' rfl) lr

def impl_plain_v6_l1s (r54 : (List G53)) (recf : G53 → Option (Int × Int × Int × (List Nat) × (List Int) × (List (List Int)) × (List T27))) (k : Nat) (rec1 : ((List T27) × Int) → Option ((List T27))) (x7 : List T27) (x8 : Int) : Option ((List T27)) :=
 br (decide (x8 < (r54.length : Int)))
  ((idx r54 x8) >>= fun r58 =>
  (recf r58) >>= fun r63 =>
  (apd 120 x7 ([(T27.mk r63.1 r63.2.1 r63.2.2.1 r63.2.2.2.1 r63.2.2.2.2.1 r63.2.2.2.2.2.1 r63.2.2.2.2.2.2)])) >>= fun r65 =>
  rec1 (r65, (iadd .i64 x8 1)))
  (some x7)
def impl_plain_v6_l1 (r54 : (List G53)) (recf : G53 → Option (Int × Int × Int × (List Nat) × (List Int) × (List (List Int)) × (List T27))) : Nat → ((List T27) × Int) → Option ((List T27))
 | 0, _ => none
 | k + 1, v => impl_plain_v6_l1s r54 recf k (impl_plain_v6_l1 r54 recf k) v.1 v.2
def impl_plain_v6_b (recf : G53 → Option (Int × Int × Int × (List Nat) × (List Int) × (List (List Int)) × (List T27))) (k : Nat) (a0 : G53) : Option (Int × Int × Int × (List Nat) × (List Int) × (List (List Int)) × (List T27)) :=
 match a0 with
  | .c0 a0_0a a0_0b a0_0c a0_0d =>
   ((gogeom_geom0_SRID_v5 k a0_0a a0_0b a0_0c a0_0d) >>= fun r15 =>
   (gogeom_geom0_Layout k a0_0a a0_0b a0_0c a0_0d) >>= fun r70 =>
   (gogeom_geom0_FlatCoords_v5 k a0_0a a0_0b a0_0c a0_0d) >>= fun r72 =>
   (impl_floats k r72) >>= fun r73 =>
   (gogeom_geom0_Ends_v2 k a0_0a a0_0b a0_0c a0_0d) >>= fun r75 =>
   (impl_ints_v3 k) >>= fun r76 =>
   (gogeom_geom0_Endss_v4 k a0_0a a0_0b a0_0c a0_0d) >>= fun r78 =>
   (impl_intss_v2 k) >>= fun r79 =>
   some (1, r70, r15, r73, r76, [], []))
  | .c1 a0_1a a0_1b a0_1c a0_1d =>
   ((gogeom_geom0_SRID_v5 k a0_1a a0_1b a0_1c a0_1d) >>= fun r15 =>
   (gogeom_geom0_Layout k a0_1a a0_1b a0_1c a0_1d) >>= fun r70 =>
   (gogeom_geom0_FlatCoords_v5 k a0_1a a0_1b a0_1c a0_1d) >>= fun r72 =>
   (impl_floats k r72) >>= fun r73 =>
   (gogeom_geom0_Ends_v2 k a0_1a a0_1b a0_1c a0_1d) >>= fun r75 =>
   (impl_ints_v3 k) >>= fun r76 =>
   (gogeom_geom0_Endss_v4 k a0_1a a0_1b a0_1c a0_1d) >>= fun r78 =>
   (impl_intss_v2 k) >>= fun r79 =>
   some (2, r70, r15, r73, r76, [], []))
  | .c2 a0_2a a0_2b a0_2c a0_2d =>
   ((gogeom_geom0_SRID_v5 k a0_2a a0_2b a0_2c a0_2d) >>= fun r15 =>
   (gogeom_geom0_Layout k a0_2a a0_2b a0_2c a0_2d) >>= fun r70 =>
   (gogeom_geom0_FlatCoords_v5 k a0_2a a0_2b a0_2c a0_2d) >>= fun r72 =>
   (impl_floats k r72) >>= fun r73 =>
   (gogeom_geom0_Ends_v2 k a0_2a a0_2b a0_2c a0_2d) >>= fun r75 =>
   (impl_ints_v3 k) >>= fun r76 =>
   (gogeom_geom0_Endss_v4 k a0_2a a0_2b a0_2c a0_2d) >>= fun r78 =>
   (impl_intss_v2 k) >>= fun r79 =>
   some (8, r70, r15, r73, r76, [], []))
  | .c3 a0_3a a0_3b a0_3c a0_3d a0_3e =>
   ((gogeom_geom0_SRID_v6 k a0_3a a0_3b a0_3c a0_3d a0_3e) >>= fun r15 =>
   (gogeom_geom0_Layout_v2 k a0_3a a0_3b a0_3c a0_3d a0_3e) >>= fun r70 =>
   (gogeom_geom0_FlatCoords_v6 k a0_3a a0_3b a0_3c a0_3d a0_3e) >>= fun r72 =>
   (impl_floats k r72) >>= fun r73 =>
   (gogeom_geom2_Ends_v4 k a0_3a a0_3b a0_3c a0_3d a0_3e) >>= fun r75 =>
   (impl_ints k r75) >>= fun r76 =>
   match r76 with
    | (.inl y3) =>
     ((gogeom_geom0_Endss_v5 k a0_3a a0_3b a0_3c a0_3d a0_3e) >>= fun r78 =>
     (impl_intss_v2 k) >>= fun r79 =>
     some (3, r70, r15, r73, [], [], []))
    | (.inr y3) =>
     ((gogeom_geom0_Endss_v5 k a0_3a a0_3b a0_3c a0_3d a0_3e) >>= fun r78 =>
     (impl_intss_v2 k) >>= fun r79 =>
     some (3, r70, r15, r73, y3, [], [])))
  | .c4 a0_4a a0_4b a0_4c a0_4d a0_4e =>
   ((gogeom_geom0_SRID_v6 k a0_4a a0_4b a0_4c a0_4d a0_4e) >>= fun r15 =>
   (gogeom_geom0_Layout_v2 k a0_4a a0_4b a0_4c a0_4d a0_4e) >>= fun r70 =>
   (gogeom_geom0_FlatCoords_v6 k a0_4a a0_4b a0_4c a0_4d a0_4e) >>= fun r72 =>
   (impl_floats k r72) >>= fun r73 =>
   (gogeom_geom2_Ends_v4 k a0_4a a0_4b a0_4c a0_4d a0_4e) >>= fun r75 =>
   (impl_ints k r75) >>= fun r76 =>
   match r76 with
    | (.inl y3) =>
     ((gogeom_geom0_Endss_v5 k a0_4a a0_4b a0_4c a0_4d a0_4e) >>= fun r78 =>
     (impl_intss_v2 k) >>= fun r79 =>
     some (4, r70, r15, r73, [], [], []))
    | (.inr y3) =>
     ((gogeom_geom0_Endss_v5 k a0_4a a0_4b a0_4c a0_4d a0_4e) >>= fun r78 =>
     (impl_intss_v2 k) >>= fun r79 =>
     some (4, r70, r15, r73, y3, [], [])))
  | .c5 a0_5a a0_5b a0_5c a0_5d a0_5e =>
   ((gogeom_geom0_SRID_v6 k a0_5a a0_5b a0_5c a0_5d a0_5e) >>= fun r15 =>
   (gogeom_geom0_Layout_v2 k a0_5a a0_5b a0_5c a0_5d a0_5e) >>= fun r70 =>
   (gogeom_geom0_FlatCoords_v6 k a0_5a a0_5b a0_5c a0_5d a0_5e) >>= fun r72 =>
   (impl_floats k r72) >>= fun r73 =>
   (gogeom_geom2_Ends_v4 k a0_5a a0_5b a0_5c a0_5d a0_5e) >>= fun r75 =>
   (impl_ints k r75) >>= fun r76 =>
   match r76 with
    | (.inl y3) =>
     ((gogeom_geom0_Endss_v5 k a0_5a a0_5b a0_5c a0_5d a0_5e) >>= fun r78 =>
     (impl_intss_v2 k) >>= fun r79 =>
     some (5, r70, r15, r73, [], [], []))
    | (.inr y3) =>
     ((gogeom_geom0_Endss_v5 k a0_5a a0_5b a0_5c a0_5d a0_5e) >>= fun r78 =>
     (impl_intss_v2 k) >>= fun r79 =>
     some (5, r70, r15, r73, y3, [], [])))
  | .c6 a0_6a a0_6b a0_6c a0_6d a0_6e =>
   ((gogeom_geom0_SRID_v7 k a0_6a a0_6b a0_6c a0_6d a0_6e) >>= fun r15 =>
   (gogeom_geom0_Layout_v3 k a0_6a a0_6b a0_6c a0_6d a0_6e) >>= fun r70 =>
   (gogeom_geom0_FlatCoords_v7 k a0_6a a0_6b a0_6c a0_6d a0_6e) >>= fun r72 =>
   (impl_floats k r72) >>= fun r73 =>
   (gogeom_geom0_Ends_v3 k a0_6a a0_6b a0_6c a0_6d a0_6e) >>= fun r75 =>
   (impl_ints_v3 k) >>= fun r76 =>
   (gogeom_geom3_Endss_v2 k a0_6a a0_6b a0_6c a0_6d a0_6e) >>= fun r78 =>
   (impl_intss k r78) >>= fun r79 =>
   some (6, r70, r15, r73, r76, r79, []))
  | .c7 a0_7a a0_7b a0_7c =>
   ((gogeom_GeometryCollection_SRID_v2 k a0_7a a0_7b a0_7c) >>= fun r15 =>
   (gogeom_DoorLayout_v2 k a0_7a a0_7b a0_7c) >>= fun r50 =>
   (gogeom_GeometryCollection_Geoms_v2 k a0_7a a0_7b a0_7c) >>= fun r54 =>
   (impl_plain_v6_l1 r54 recf k ([], 0)) >>= fun v3 =>
   some (7, r50, r15, [], [], [], v3))
def impl_plain_v6 : Nat → G53 → Option (Int × Int × Int × (List Nat) × (List Int) × (List (List Int)) × (List T27))
 | 0 => fun _ => none
 | k + 1 => fun a0 => impl_plain_v6_b (impl_plain_v6 k) k a0

theorem impl_plain_v6_b_sim {recf : G53 → Option (Int × Int × Int × (List Nat) × (List Int) × (List (List Int)) × (List T27))} (hrec : ∀  (a0 : G53) (out : Int × Int × Int × (List Nat) × (List Int) × (List (List Int)) × (List T27)), recf a0 = some out → Sx.Fn Try.prog 34 [(SG53 a0)] [] (fun w : Unit => (Ag (C0 out.1 out.2.1 out.2.2.1 out.2.2.2.1 out.2.2.2.2.1 out.2.2.2.2.2.1 out.2.2.2.2.2.2))) (fun w => [])) {k : Nat}  (a0 : G53) {out : Int × Int × Int × (List Nat) × (List Int) × (List (List Int)) × (List T27)} (hp : impl_plain_v6_b recf k a0 = some out) : Sx.Fn Try.prog 34 [(SG53 a0)] [] (fun w : Unit => (Ag (C0 out.1 out.2.1 out.2.2.1 out.2.2.2.1 out.2.2.2.2.1 out.2.2.2.2.2.1 out.2.2.2.2.2.2))) (fun w => []) := by
 unfold impl_plain_v6_b at hp
 refine fn_of Try.func34 rfl Try.ntmps34 rfl fun E hM => ?_
 refine cr fun K1 hK1 => ?_
 refine so (ox_alloc' info27 rfl rfl rfl rfl (l := (C1 0 0 0)) rfl) fun q2 => ?_
 refine nk hK1 ?_
 refine cr fun K2 hK2 => ?_
 refine sm rfl ?_
 rcases a0 with ⟨a0_0a, a0_0b, a0_0c, a0_0d⟩ | ⟨a0_1a, a0_1b, a0_1c, a0_1d⟩ | ⟨a0_2a, a0_2b, a0_2c, a0_2d⟩ | ⟨a0_3a, a0_3b, a0_3c, a0_3d, a0_3e⟩ | ⟨a0_4a, a0_4b, a0_4c, a0_4d, a0_4e⟩ | ⟨a0_5a, a0_5b, a0_5c, a0_5d, a0_5e⟩ | ⟨a0_6a, a0_6b, a0_6c, a0_6d, a0_6e⟩ | ⟨a0_7a, a0_7b, a0_7c⟩
 ·dsimp only at hp
  refine tx_slot' 0 (y := (If 72 (Pt (C3 a0_0a a0_0b a0_0c a0_0d)))) rfl (imp_eq (SG53_c0 a0_0a a0_0b a0_0c a0_0d)) ?_
  refine tx_slot' 14 (y := (If 72 (Pt (C3 a0_0a a0_0b a0_0c a0_0d)))) rfl (imp_eq (SG53_c0 a0_0a a0_0b a0_0c a0_0d)) ?_
  obtain ⟨r15, hr15, hp⟩ := bind_some hp
  refine so (oz (ent_inv' rfl rfl (inv_pt0 inv72_SRID)) (gogeom_geom0_SRID_v5_sim _ _ _ _ hr15)) fun ⟨⟩ => ?_
  refine sv (pls := [(0, 1), (1, 1), (2, 1), (3, 1), (4, 1), (5, 1), (6, 1)]) (qs := [(2, [(Vi r15)])]) (r := (C1 0 0 r15)) ⟨rfl, ⟨_, rfl, (lv_vl rfl rfl)⟩, trivial⟩ Try.underlying27 has27 places27 info27 rfl rfl rfl ?_
  refine so (ox_alloc' info27 rfl rfl rfl rfl (l := (C1 0 0 0)) rfl) fun q3 => ?_
  refine so (ox_store' (i := 0) (o := 0) rfl rfl (lv_ag _) (ar rfl rfl rfl rfl) rfl info27 rfl (H' := [(Ur q3 27 (C1 0 0 r15)), (Ur q2 27 (C1 0 0 0))]) rfl) fun _ => ?_
  refine nk hK2 ?_
  refine cx_seq' fun K3 hK3 => ?_
  refine cr fun K4 hK4 => ?_
  refine sm rfl ?_
  refine nk hK4 ?_
  refine cx_block' ?_
  refine cr fun K5 hK5 => ?_
  refine st rfl (F := fun v => .tuple #[v, .bool true]) as72_53_72k as_ok ?_
  iterate 2 refine se rfl rfl ?_
  refine nk hK5 ?_
  refine cx_cond_t' rfl rfl ?_
  refine cr fun K6 hK6 => ?_
  refine sa rfl ?_
  refine nk hK6 ?_
  refine cx_region' ?_
  refine sf rfl Try.underlying27 rfl info3 rfl ?_
  refine so (ox_store' (i := 0) (o := 0) rfl rfl (lv_vl rfl rfl) (ar rfl rfl rfl rfl) rfl info3 rfl (H' := [(Ur q3 27 (C1 1 0 r15)), (Ur q2 27 (C1 0 0 0))]) rfl) fun _ => ?_
  refine nk hK3 ?_
  refine cr fun K7 hK7 => ?_
  refine sm rfl ?_
  obtain ⟨r70, hr70, hp⟩ := bind_some hp
  refine so (oz (ent_inv' rfl rfl (inv_pt0 inv72_Layout)) (gogeom_geom0_Layout_sim _ _ _ _ hr70)) fun ⟨⟩ => ?_
  refine sm rfl ?_
  obtain ⟨r72, hr72, hp⟩ := bind_some hp
  refine so (oz (ent_inv' rfl rfl (inv_pt0 inv72_FlatCoords)) (gogeom_geom0_FlatCoords_v5_sim _ _ _ _ hr72)) fun ⟨⟩ => ?_
  obtain ⟨r73, hr73, hp⟩ := bind_some hp
  refine so (ox_calln' (ent_fn' Try.func59 isn59 rfl rfl) (impl_floats_sim _ hr73 : Sx.Fn Try.prog 59 [(Sl Kf r72)] [] (fun x : Gs => (Vw x)) (fun x => [(Rg Kf 32 x r73)])) (Hn := fun x : Gs => [(Rg Kf 32 x r73), (Ur q3 27 (C1 1 0 r15)), (Ur q2 27 (C1 0 0 0))]) (fun _ => rfl) rfl rfl) fun g73 => ?_
  refine sm rfl ?_
  obtain ⟨r75, hr75, hp⟩ := bind_some hp
  refine so (oz (ent_inv' rfl rfl (inv_pt0 inv72_Ends)) (gogeom_geom0_Ends_v2_sim _ _ _ _ hr75)) fun ⟨⟩ => ?_
  obtain ⟨r76, hr76, hp⟩ := bind_some hp
  refine so (ox_calln' (ent_fn' Try.func58 isn58 rfl rfl) (impl_ints_v3_sim hr76 : Sx.Fn Try.prog 58 [Vn] [] (fun x : Gs => (Vw x)) (fun x => [(Rg (Ki .i64) 3 x r76)])) (Hn := fun x : Gs => [(Rg (Ki .i64) 3 x r76), (Rg Kf 32 g73 r73), (Ur q3 27 (C1 1 0 r15)), (Ur q2 27 (C1 0 0 0))]) (fun _ => rfl) rfl rfl) fun g76 => ?_
  refine sm rfl ?_
  obtain ⟨r78, hr78, hp⟩ := bind_some hp
  refine so (oz (ent_inv' rfl rfl (inv_pt0 inv72_Endss)) (gogeom_geom0_Endss_v4_sim _ _ _ _ hr78)) fun ⟨⟩ => ?_
  obtain ⟨r79, hr79, hp⟩ := bind_some hp
  refine so (oz (ent_fn' Try.func29 isn29 rfl rfl) (impl_intss_v2_sim hr79)) fun ⟨⟩ => ?_
  refine sg (off := 1) rfl Try.underlying27 rfl info3 rfl ?_
  refine so (ox_store' (i := 2) (o := 1) rfl rfl (lv_vl rfl rfl) (ar rfl rfl rfl rfl) rfl info3 rfl (H' := [(Rg (Ki .i64) 3 g76 r76), (Rg Kf 32 g73 r73), (Ur q3 27 (C1 1 r70 r15)), (Ur q2 27 (C1 0 0 0))]) rfl) fun _ => ?_
  refine sg (off := 3) rfl Try.underlying27 rfl info22 rfl ?_
  refine so (ox_store' (i := 2) (o := 3) rfl rfl (lv_vl rfl rfl) (ar rfl rfl rfl rfl) rfl info22 rfl (H' := [(Rg (Ki .i64) 3 g76 r76), (Rg Kf 32 g73 r73), (Ur q3 27 (C10 1 r70 r15 g73)), (Ur q2 27 (C1 0 0 0))]) rfl) fun _ => ?_
  refine sg (off := 4) rfl Try.underlying27 rfl info23 rfl ?_
  refine so (ox_store' (i := 2) (o := 4) rfl rfl (lv_vl rfl rfl) (ar rfl rfl rfl rfl) rfl info23 rfl (H' := [(Rg (Ki .i64) 3 g76 r76), (Rg Kf 32 g73 r73), (Ur q3 27 (C7 1 r70 r15 g73 g76)), (Ur q2 27 (C1 0 0 0))]) rfl) fun _ => ?_
  refine sg (off := 5) rfl Try.underlying27 rfl info24 rfl ?_
  refine so (ox_store' (i := 2) (o := 5) rfl rfl (lv_vl rfl rfl) (ar rfl rfl rfl rfl) rfl info24 rfl (H' := [(Rg (Ki .i64) 3 g76 r76), (Rg Kf 32 g73 r73), (Ur q3 27 (C7 1 r70 r15 g73 g76)), (Ur q2 27 (C1 0 0 0))]) rfl) fun _ => ?_
  refine nk hK7 ?_
  refine cr fun K8 hK8 => ?_
  refine s0 (rd_load_agg' (i := 2) (o := 0) (nn := 7) rfl (ar rfl rfl rfl rfl) rfl agg27 (l' := (C7 1 r70 r15 g73 g76)) rfl) ?_
  refine so (ox_store' (i := 3) (o := 0) rfl rfl (lv_ag _) (ar rfl rfl rfl rfl) rfl info27 rfl (H' := [(Rg (Ki .i64) 3 g76 r76), (Rg Kf 32 g73 r73), (Ur q3 27 (C7 1 r70 r15 g73 g76)), (Ur q2 27 (C7 1 r70 r15 g73 g76))]) rfl) fun _ => ?_
  refine nk hK8 ?_
  refine cx_retc' ?_
  replace hp := sj hp
  subst hp
  refine tx_fz' (frz_row 1 [(73, (Vw g73), (Sl Kf r73)), (84, (Ag (C7 1 r70 r15 g73 g76)), (Ag (C9 1 r70 r15 r73 g76)))] (K := Kf) (xs := r73) (by decide) rfl ⟨⟨rfl, frz_it⟩, ⟨rfl, fz_ag (fc f0 (fc f0 (fc f0 (fc fz0_it (fc f0 (fc f0 (fc f0 fz0_nil)))))))⟩, trivial⟩ (H' := [(Rg (Ki .i64) 3 g76 r76), (Ur q3 27 (C9 1 r70 r15 r73 g76)), (Ur q2 27 (C9 1 r70 r15 r73 g76))]) (fk (fh rfl rfl rfl (fl fs (fl fs (fl fs (fl frz_it (fl fs (fl fs (fl fs frzL_refl))))))) (fh rfl rfl rfl (fl fs (fl fs (fl fs (fl frz_it (fl fs (fl fs (fl fs frzL_refl))))))) frzH_refl)))) ?_
  refine tx_fz' (frz_row 0 [(76, (Vw g76), (Sl (Ki .i64) r76)), (84, (Ag (C9 1 r70 r15 r73 g76)), (Ag (C5 1 r70 r15 r73 r76)))] (K := (Ki .i64)) (xs := r76) (by decide) rfl ⟨⟨rfl, frz_it⟩, ⟨rfl, fz_ag (fc f0 (fc f0 (fc f0 (fc f0 (fc fz0_it (fc f0 (fc f0 fz0_nil)))))))⟩, trivial⟩ (H' := [(Ur q3 27 (C5 1 r70 r15 r73 r76)), (Ur q2 27 (C5 1 r70 r15 r73 r76))]) (fh rfl rfl rfl (fl fs (fl fs (fl fs (fl fs (fl frz_it (fl fs (fl fs frzL_refl))))))) (fh rfl rfl rfl (fl fs (fl fs (fl fs (fl fs (fl frz_it (fl fs (fl fs frzL_refl))))))) frzH_refl))) ?_
  refine tk (L' := [(2, (Vp q2))]) (H' := [(Ur q2 27 (C5 1 r70 r15 r73 r76))]) [1] (uc rfl un) (pc rfl pn) ?_
  exact tx_ret1' Try.results34 rfl () (rv_imp' (x := (Ag (C5 1 r70 r15 r73 r76))) (y := (Ag [(Vi 1), (Vi r70), (Vi r15), (Sl Kf r73), (Sl (Ki .i64) r76), (Sl (Kl (Ki .i64)) []), (Sl KT27 [])])) (rv_cell_agg' (i := 0) (o := 0) (nn := 7) rfl (ar rfl rfl rfl rfl) rfl agg27 rfl) (imp_ag ⟨imp_refl, imp_refl, imp_refl, imp_refl, imp_refl, imp_nil, imp_nil, trivial⟩)) (List.nil_sublist _)
 ·dsimp only at hp
  refine tx_slot' 0 (y := (If 75 (Pt (C3 a0_1a a0_1b a0_1c a0_1d)))) rfl (imp_eq (SG53_c1 a0_1a a0_1b a0_1c a0_1d)) ?_
  refine tx_slot' 14 (y := (If 75 (Pt (C3 a0_1a a0_1b a0_1c a0_1d)))) rfl (imp_eq (SG53_c1 a0_1a a0_1b a0_1c a0_1d)) ?_
  obtain ⟨r15, hr15, hp⟩ := bind_some hp
  refine so (oz (ent_inv' rfl rfl (inv_pt0 inv75_SRID)) (gogeom_geom0_SRID_v5_sim _ _ _ _ hr15)) fun ⟨⟩ => ?_
  refine sv (pls := [(0, 1), (1, 1), (2, 1), (3, 1), (4, 1), (5, 1), (6, 1)]) (qs := [(2, [(Vi r15)])]) (r := (C1 0 0 r15)) ⟨rfl, ⟨_, rfl, (lv_vl rfl rfl)⟩, trivial⟩ Try.underlying27 has27 places27 info27 rfl rfl rfl ?_
  refine so (ox_alloc' info27 rfl rfl rfl rfl (l := (C1 0 0 0)) rfl) fun q3 => ?_
  refine so (ox_store' (i := 0) (o := 0) rfl rfl (lv_ag _) (ar rfl rfl rfl rfl) rfl info27 rfl (H' := [(Ur q3 27 (C1 0 0 r15)), (Ur q2 27 (C1 0 0 0))]) rfl) fun _ => ?_
  refine nk hK2 ?_
  refine cx_seq' fun K3 hK3 => ?_
  refine cr fun K4 hK4 => ?_
  refine sm rfl ?_
  refine nk hK4 ?_
  refine cx_block' ?_
  refine cr fun K5 hK5 => ?_
  refine st rfl (F := fun _ => .tuple #[.pointer none, .bool false]) as75_53_72 as_no ?_
  iterate 2 refine se rfl rfl ?_
  refine nk hK5 ?_
  refine cx_cond_f' rfl rfl ?_
  refine cr fun K9 hK9 => ?_
  refine st rfl (F := fun v => .tuple #[v, .bool true]) as75_53_75k as_ok ?_
  iterate 2 refine se rfl rfl ?_
  refine nk hK9 ?_
  refine cx_cond_t' rfl rfl ?_
  refine cr fun K10 hK10 => ?_
  refine sa rfl ?_
  refine nk hK10 ?_
  refine cx_region' ?_
  refine sf rfl Try.underlying27 rfl info3 rfl ?_
  refine so (ox_store' (i := 0) (o := 0) rfl rfl (lv_vl rfl rfl) (ar rfl rfl rfl rfl) rfl info3 rfl (H' := [(Ur q3 27 (C1 2 0 r15)), (Ur q2 27 (C1 0 0 0))]) rfl) fun _ => ?_
  refine nk hK3 ?_
  refine cr fun K7 hK7 => ?_
  refine sm rfl ?_
  obtain ⟨r70, hr70, hp⟩ := bind_some hp
  refine so (oz (ent_inv' rfl rfl (inv_pt0 inv75_Layout)) (gogeom_geom0_Layout_sim _ _ _ _ hr70)) fun ⟨⟩ => ?_
  refine sm rfl ?_
  obtain ⟨r72, hr72, hp⟩ := bind_some hp
  refine so (oz (ent_inv' rfl rfl (inv_pt0 inv75_FlatCoords)) (gogeom_geom0_FlatCoords_v5_sim _ _ _ _ hr72)) fun ⟨⟩ => ?_
  obtain ⟨r73, hr73, hp⟩ := bind_some hp
  refine so (ox_calln' (ent_fn' Try.func59 isn59 rfl rfl) (impl_floats_sim _ hr73 : Sx.Fn Try.prog 59 [(Sl Kf r72)] [] (fun x : Gs => (Vw x)) (fun x => [(Rg Kf 32 x r73)])) (Hn := fun x : Gs => [(Rg Kf 32 x r73), (Ur q3 27 (C1 2 0 r15)), (Ur q2 27 (C1 0 0 0))]) (fun _ => rfl) rfl rfl) fun g73 => ?_
  refine sm rfl ?_
  obtain ⟨r75, hr75, hp⟩ := bind_some hp
  refine so (oz (ent_inv' rfl rfl (inv_pt0 inv75_Ends)) (gogeom_geom0_Ends_v2_sim _ _ _ _ hr75)) fun ⟨⟩ => ?_
  obtain ⟨r76, hr76, hp⟩ := bind_some hp
  refine so (ox_calln' (ent_fn' Try.func58 isn58 rfl rfl) (impl_ints_v3_sim hr76 : Sx.Fn Try.prog 58 [Vn] [] (fun x : Gs => (Vw x)) (fun x => [(Rg (Ki .i64) 3 x r76)])) (Hn := fun x : Gs => [(Rg (Ki .i64) 3 x r76), (Rg Kf 32 g73 r73), (Ur q3 27 (C1 2 0 r15)), (Ur q2 27 (C1 0 0 0))]) (fun _ => rfl) rfl rfl) fun g76 => ?_
  refine sm rfl ?_
  obtain ⟨r78, hr78, hp⟩ := bind_some hp
  refine so (oz (ent_inv' rfl rfl (inv_pt0 inv75_Endss)) (gogeom_geom0_Endss_v4_sim _ _ _ _ hr78)) fun ⟨⟩ => ?_
  obtain ⟨r79, hr79, hp⟩ := bind_some hp
  refine so (oz (ent_fn' Try.func29 isn29 rfl rfl) (impl_intss_v2_sim hr79)) fun ⟨⟩ => ?_
  refine sg (off := 1) rfl Try.underlying27 rfl info3 rfl ?_
  refine so (ox_store' (i := 2) (o := 1) rfl rfl (lv_vl rfl rfl) (ar rfl rfl rfl rfl) rfl info3 rfl (H' := [(Rg (Ki .i64) 3 g76 r76), (Rg Kf 32 g73 r73), (Ur q3 27 (C1 2 r70 r15)), (Ur q2 27 (C1 0 0 0))]) rfl) fun _ => ?_
  refine sg (off := 3) rfl Try.underlying27 rfl info22 rfl ?_
  refine so (ox_store' (i := 2) (o := 3) rfl rfl (lv_vl rfl rfl) (ar rfl rfl rfl rfl) rfl info22 rfl (H' := [(Rg (Ki .i64) 3 g76 r76), (Rg Kf 32 g73 r73), (Ur q3 27 (C10 2 r70 r15 g73)), (Ur q2 27 (C1 0 0 0))]) rfl) fun _ => ?_
  refine sg (off := 4) rfl Try.underlying27 rfl info23 rfl ?_
  refine so (ox_store' (i := 2) (o := 4) rfl rfl (lv_vl rfl rfl) (ar rfl rfl rfl rfl) rfl info23 rfl (H' := [(Rg (Ki .i64) 3 g76 r76), (Rg Kf 32 g73 r73), (Ur q3 27 (C7 2 r70 r15 g73 g76)), (Ur q2 27 (C1 0 0 0))]) rfl) fun _ => ?_
  refine sg (off := 5) rfl Try.underlying27 rfl info24 rfl ?_
  refine so (ox_store' (i := 2) (o := 5) rfl rfl (lv_vl rfl rfl) (ar rfl rfl rfl rfl) rfl info24 rfl (H' := [(Rg (Ki .i64) 3 g76 r76), (Rg Kf 32 g73 r73), (Ur q3 27 (C7 2 r70 r15 g73 g76)), (Ur q2 27 (C1 0 0 0))]) rfl) fun _ => ?_
  refine nk hK7 ?_
  refine cr fun K8 hK8 => ?_
  refine s0 (rd_load_agg' (i := 2) (o := 0) (nn := 7) rfl (ar rfl rfl rfl rfl) rfl agg27 (l' := (C7 2 r70 r15 g73 g76)) rfl) ?_
  refine so (ox_store' (i := 3) (o := 0) rfl rfl (lv_ag _) (ar rfl rfl rfl rfl) rfl info27 rfl (H' := [(Rg (Ki .i64) 3 g76 r76), (Rg Kf 32 g73 r73), (Ur q3 27 (C7 2 r70 r15 g73 g76)), (Ur q2 27 (C7 2 r70 r15 g73 g76))]) rfl) fun _ => ?_
  refine nk hK8 ?_
  refine cx_retc' ?_
  replace hp := sj hp
  subst hp
  refine tx_fz' (frz_row 1 [(73, (Vw g73), (Sl Kf r73)), (84, (Ag (C7 2 r70 r15 g73 g76)), (Ag (C9 2 r70 r15 r73 g76)))] (K := Kf) (xs := r73) (by decide) rfl ⟨⟨rfl, frz_it⟩, ⟨rfl, fz_ag (fc f0 (fc f0 (fc f0 (fc fz0_it (fc f0 (fc f0 (fc f0 fz0_nil)))))))⟩, trivial⟩ (H' := [(Rg (Ki .i64) 3 g76 r76), (Ur q3 27 (C9 2 r70 r15 r73 g76)), (Ur q2 27 (C9 2 r70 r15 r73 g76))]) (fk (fh rfl rfl rfl (fl fs (fl fs (fl fs (fl frz_it (fl fs (fl fs (fl fs frzL_refl))))))) (fh rfl rfl rfl (fl fs (fl fs (fl fs (fl frz_it (fl fs (fl fs (fl fs frzL_refl))))))) frzH_refl)))) ?_
  refine tx_fz' (frz_row 0 [(76, (Vw g76), (Sl (Ki .i64) r76)), (84, (Ag (C9 2 r70 r15 r73 g76)), (Ag (C5 2 r70 r15 r73 r76)))] (K := (Ki .i64)) (xs := r76) (by decide) rfl ⟨⟨rfl, frz_it⟩, ⟨rfl, fz_ag (fc f0 (fc f0 (fc f0 (fc f0 (fc fz0_it (fc f0 (fc f0 fz0_nil)))))))⟩, trivial⟩ (H' := [(Ur q3 27 (C5 2 r70 r15 r73 r76)), (Ur q2 27 (C5 2 r70 r15 r73 r76))]) (fh rfl rfl rfl (fl fs (fl fs (fl fs (fl fs (fl frz_it (fl fs (fl fs frzL_refl))))))) (fh rfl rfl rfl (fl fs (fl fs (fl fs (fl fs (fl frz_it (fl fs (fl fs frzL_refl))))))) frzH_refl))) ?_
  refine tk (L' := [(2, (Vp q2))]) (H' := [(Ur q2 27 (C5 2 r70 r15 r73 r76))]) [1] (uc rfl un) (pc rfl pn) ?_
  exact tx_ret1' Try.results34 rfl () (rv_imp' (x := (Ag (C5 2 r70 r15 r73 r76))) (y := (Ag [(Vi 2), (Vi r70), (Vi r15), (Sl Kf r73), (Sl (Ki .i64) r76), (Sl (Kl (Ki .i64)) []), (Sl KT27 [])])) (rv_cell_agg' (i := 0) (o := 0) (nn := 7) rfl (ar rfl rfl rfl rfl) rfl agg27 rfl) (imp_ag ⟨imp_refl, imp_refl, imp_refl, imp_refl, imp_refl, imp_nil, imp_nil, trivial⟩)) (List.nil_sublist _)
 ·dsimp only at hp
  refine tx_slot' 0 (y := (If 69 (Pt (C3 a0_2a a0_2b a0_2c a0_2d)))) rfl (imp_eq (SG53_c2 a0_2a a0_2b a0_2c a0_2d)) ?_
  refine tx_slot' 14 (y := (If 69 (Pt (C3 a0_2a a0_2b a0_2c a0_2d)))) rfl (imp_eq (SG53_c2 a0_2a a0_2b a0_2c a0_2d)) ?_
  obtain ⟨r15, hr15, hp⟩ := bind_some hp
  refine so (oz (ent_inv' rfl rfl (inv_pt0 inv69_SRID)) (gogeom_geom0_SRID_v5_sim _ _ _ _ hr15)) fun ⟨⟩ => ?_
  refine sv (pls := [(0, 1), (1, 1), (2, 1), (3, 1), (4, 1), (5, 1), (6, 1)]) (qs := [(2, [(Vi r15)])]) (r := (C1 0 0 r15)) ⟨rfl, ⟨_, rfl, (lv_vl rfl rfl)⟩, trivial⟩ Try.underlying27 has27 places27 info27 rfl rfl rfl ?_
  refine so (ox_alloc' info27 rfl rfl rfl rfl (l := (C1 0 0 0)) rfl) fun q3 => ?_
  refine so (ox_store' (i := 0) (o := 0) rfl rfl (lv_ag _) (ar rfl rfl rfl rfl) rfl info27 rfl (H' := [(Ur q3 27 (C1 0 0 r15)), (Ur q2 27 (C1 0 0 0))]) rfl) fun _ => ?_
  refine nk hK2 ?_
  refine cx_seq' fun K3 hK3 => ?_
  refine cr fun K4 hK4 => ?_
  refine sm rfl ?_
  refine nk hK4 ?_
  refine cx_block' ?_
  refine cr fun K5 hK5 => ?_
  refine st rfl (F := fun _ => .tuple #[.pointer none, .bool false]) as69_53_72 as_no ?_
  iterate 2 refine se rfl rfl ?_
  refine nk hK5 ?_
  refine cx_cond_f' rfl rfl ?_
  refine cr fun K9 hK9 => ?_
  refine st rfl (F := fun _ => .tuple #[.pointer none, .bool false]) as69_53_75 as_no ?_
  iterate 2 refine se rfl rfl ?_
  refine nk hK9 ?_
  refine cx_cond_f' rfl rfl ?_
  refine cr fun K11 hK11 => ?_
  refine st rfl (F := fun v => .tuple #[v, .bool true]) as69_53_69k as_ok ?_
  iterate 2 refine se rfl rfl ?_
  refine nk hK11 ?_
  refine cx_cond_t' rfl rfl ?_
  refine cr fun K12 hK12 => ?_
  refine sa rfl ?_
  refine nk hK12 ?_
  refine cx_region' ?_
  refine sf rfl Try.underlying27 rfl info3 rfl ?_
  refine so (ox_store' (i := 0) (o := 0) rfl rfl (lv_vl rfl rfl) (ar rfl rfl rfl rfl) rfl info3 rfl (H' := [(Ur q3 27 (C1 8 0 r15)), (Ur q2 27 (C1 0 0 0))]) rfl) fun _ => ?_
  refine nk hK3 ?_
  refine cr fun K7 hK7 => ?_
  refine sm rfl ?_
  obtain ⟨r70, hr70, hp⟩ := bind_some hp
  refine so (oz (ent_inv' rfl rfl (inv_pt0 inv69_Layout)) (gogeom_geom0_Layout_sim _ _ _ _ hr70)) fun ⟨⟩ => ?_
  refine sm rfl ?_
  obtain ⟨r72, hr72, hp⟩ := bind_some hp
  refine so (oz (ent_inv' rfl rfl (inv_pt0 inv69_FlatCoords)) (gogeom_geom0_FlatCoords_v5_sim _ _ _ _ hr72)) fun ⟨⟩ => ?_
  obtain ⟨r73, hr73, hp⟩ := bind_some hp
  refine so (ox_calln' (ent_fn' Try.func59 isn59 rfl rfl) (impl_floats_sim _ hr73 : Sx.Fn Try.prog 59 [(Sl Kf r72)] [] (fun x : Gs => (Vw x)) (fun x => [(Rg Kf 32 x r73)])) (Hn := fun x : Gs => [(Rg Kf 32 x r73), (Ur q3 27 (C1 8 0 r15)), (Ur q2 27 (C1 0 0 0))]) (fun _ => rfl) rfl rfl) fun g73 => ?_
  refine sm rfl ?_
  obtain ⟨r75, hr75, hp⟩ := bind_some hp
  refine so (oz (ent_inv' rfl rfl (inv_pt0 inv69_Ends)) (gogeom_geom0_Ends_v2_sim _ _ _ _ hr75)) fun ⟨⟩ => ?_
  obtain ⟨r76, hr76, hp⟩ := bind_some hp
  refine so (ox_calln' (ent_fn' Try.func58 isn58 rfl rfl) (impl_ints_v3_sim hr76 : Sx.Fn Try.prog 58 [Vn] [] (fun x : Gs => (Vw x)) (fun x => [(Rg (Ki .i64) 3 x r76)])) (Hn := fun x : Gs => [(Rg (Ki .i64) 3 x r76), (Rg Kf 32 g73 r73), (Ur q3 27 (C1 8 0 r15)), (Ur q2 27 (C1 0 0 0))]) (fun _ => rfl) rfl rfl) fun g76 => ?_
  refine sm rfl ?_
  obtain ⟨r78, hr78, hp⟩ := bind_some hp
  refine so (oz (ent_inv' rfl rfl (inv_pt0 inv69_Endss)) (gogeom_geom0_Endss_v4_sim _ _ _ _ hr78)) fun ⟨⟩ => ?_
  obtain ⟨r79, hr79, hp⟩ := bind_some hp
  refine so (oz (ent_fn' Try.func29 isn29 rfl rfl) (impl_intss_v2_sim hr79)) fun ⟨⟩ => ?_
  refine sg (off := 1) rfl Try.underlying27 rfl info3 rfl ?_
  refine so (ox_store' (i := 2) (o := 1) rfl rfl (lv_vl rfl rfl) (ar rfl rfl rfl rfl) rfl info3 rfl (H' := [(Rg (Ki .i64) 3 g76 r76), (Rg Kf 32 g73 r73), (Ur q3 27 (C1 8 r70 r15)), (Ur q2 27 (C1 0 0 0))]) rfl) fun _ => ?_
  refine sg (off := 3) rfl Try.underlying27 rfl info22 rfl ?_
  refine so (ox_store' (i := 2) (o := 3) rfl rfl (lv_vl rfl rfl) (ar rfl rfl rfl rfl) rfl info22 rfl (H' := [(Rg (Ki .i64) 3 g76 r76), (Rg Kf 32 g73 r73), (Ur q3 27 (C10 8 r70 r15 g73)), (Ur q2 27 (C1 0 0 0))]) rfl) fun _ => ?_
  refine sg (off := 4) rfl Try.underlying27 rfl info23 rfl ?_
  refine so (ox_store' (i := 2) (o := 4) rfl rfl (lv_vl rfl rfl) (ar rfl rfl rfl rfl) rfl info23 rfl (H' := [(Rg (Ki .i64) 3 g76 r76), (Rg Kf 32 g73 r73), (Ur q3 27 (C7 8 r70 r15 g73 g76)), (Ur q2 27 (C1 0 0 0))]) rfl) fun _ => ?_
  refine sg (off := 5) rfl Try.underlying27 rfl info24 rfl ?_
  refine so (ox_store' (i := 2) (o := 5) rfl rfl (lv_vl rfl rfl) (ar rfl rfl rfl rfl) rfl info24 rfl (H' := [(Rg (Ki .i64) 3 g76 r76), (Rg Kf 32 g73 r73), (Ur q3 27 (C7 8 r70 r15 g73 g76)), (Ur q2 27 (C1 0 0 0))]) rfl) fun _ => ?_
  refine nk hK7 ?_
  refine cr fun K8 hK8 => ?_
  refine s0 (rd_load_agg' (i := 2) (o := 0) (nn := 7) rfl (ar rfl rfl rfl rfl) rfl agg27 (l' := (C7 8 r70 r15 g73 g76)) rfl) ?_
  refine so (ox_store' (i := 3) (o := 0) rfl rfl (lv_ag _) (ar rfl rfl rfl rfl) rfl info27 rfl (H' := [(Rg (Ki .i64) 3 g76 r76), (Rg Kf 32 g73 r73), (Ur q3 27 (C7 8 r70 r15 g73 g76)), (Ur q2 27 (C7 8 r70 r15 g73 g76))]) rfl) fun _ => ?_
  refine nk hK8 ?_
  refine cx_retc' ?_
  replace hp := sj hp
  subst hp
  refine tx_fz' (frz_row 1 [(73, (Vw g73), (Sl Kf r73)), (84, (Ag (C7 8 r70 r15 g73 g76)), (Ag (C9 8 r70 r15 r73 g76)))] (K := Kf) (xs := r73) (by decide) rfl ⟨⟨rfl, frz_it⟩, ⟨rfl, fz_ag (fc f0 (fc f0 (fc f0 (fc fz0_it (fc f0 (fc f0 (fc f0 fz0_nil)))))))⟩, trivial⟩ (H' := [(Rg (Ki .i64) 3 g76 r76), (Ur q3 27 (C9 8 r70 r15 r73 g76)), (Ur q2 27 (C9 8 r70 r15 r73 g76))]) (fk (fh rfl rfl rfl (fl fs (fl fs (fl fs (fl frz_it (fl fs (fl fs (fl fs frzL_refl))))))) (fh rfl rfl rfl (fl fs (fl fs (fl fs (fl frz_it (fl fs (fl fs (fl fs frzL_refl))))))) frzH_refl)))) ?_
  refine tx_fz' (frz_row 0 [(76, (Vw g76), (Sl (Ki .i64) r76)), (84, (Ag (C9 8 r70 r15 r73 g76)), (Ag (C5 8 r70 r15 r73 r76)))] (K := (Ki .i64)) (xs := r76) (by decide) rfl ⟨⟨rfl, frz_it⟩, ⟨rfl, fz_ag (fc f0 (fc f0 (fc f0 (fc f0 (fc fz0_it (fc f0 (fc f0 fz0_nil)))))))⟩, trivial⟩ (H' := [(Ur q3 27 (C5 8 r70 r15 r73 r76)), (Ur q2 27 (C5 8 r70 r15 r73 r76))]) (fh rfl rfl rfl (fl fs (fl fs (fl fs (fl fs (fl frz_it (fl fs (fl fs frzL_refl))))))) (fh rfl rfl rfl (fl fs (fl fs (fl fs (fl fs (fl frz_it (fl fs (fl fs frzL_refl))))))) frzH_refl))) ?_
  refine tk (L' := [(2, (Vp q2))]) (H' := [(Ur q2 27 (C5 8 r70 r15 r73 r76))]) [1] (uc rfl un) (pc rfl pn) ?_
  exact tx_ret1' Try.results34 rfl () (rv_imp' (x := (Ag (C5 8 r70 r15 r73 r76))) (y := (Ag [(Vi 8), (Vi r70), (Vi r15), (Sl Kf r73), (Sl (Ki .i64) r76), (Sl (Kl (Ki .i64)) []), (Sl KT27 [])])) (rv_cell_agg' (i := 0) (o := 0) (nn := 7) rfl (ar rfl rfl rfl rfl) rfl agg27 rfl) (imp_ag ⟨imp_refl, imp_refl, imp_refl, imp_refl, imp_refl, imp_nil, imp_nil, trivial⟩)) (List.nil_sublist _)
 ·dsimp only at hp
  refine tx_slot' 0 (y := (If 67 (Pt (C6 a0_3a a0_3b a0_3c a0_3d a0_3e)))) rfl (imp_eq (SG53_c3 a0_3a a0_3b a0_3c a0_3d a0_3e)) ?_
  refine tx_slot' 14 (y := (If 67 (Pt (C6 a0_3a a0_3b a0_3c a0_3d a0_3e)))) rfl (imp_eq (SG53_c3 a0_3a a0_3b a0_3c a0_3d a0_3e)) ?_
  obtain ⟨r15, hr15, hp⟩ := bind_some hp
  refine so (oz (ent_inv' rfl rfl (inv_pt0 inv67_SRID)) (gogeom_geom0_SRID_v6_sim _ _ _ _ _ hr15)) fun ⟨⟩ => ?_
  refine sv (pls := [(0, 1), (1, 1), (2, 1), (3, 1), (4, 1), (5, 1), (6, 1)]) (qs := [(2, [(Vi r15)])]) (r := (C1 0 0 r15)) ⟨rfl, ⟨_, rfl, (lv_vl rfl rfl)⟩, trivial⟩ Try.underlying27 has27 places27 info27 rfl rfl rfl ?_
  refine so (ox_alloc' info27 rfl rfl rfl rfl (l := (C1 0 0 0)) rfl) fun q3 => ?_
  refine so (ox_store' (i := 0) (o := 0) rfl rfl (lv_ag _) (ar rfl rfl rfl rfl) rfl info27 rfl (H' := [(Ur q3 27 (C1 0 0 r15)), (Ur q2 27 (C1 0 0 0))]) rfl) fun _ => ?_
  refine nk hK2 ?_
  refine cx_seq' fun K3 hK3 => ?_
  refine cr fun K4 hK4 => ?_
  refine sm rfl ?_
  refine nk hK4 ?_
  refine cx_block' ?_
  refine cr fun K5 hK5 => ?_
  refine st rfl (F := fun _ => .tuple #[.pointer none, .bool false]) as67_53_72 as_no ?_
  iterate 2 refine se rfl rfl ?_
  refine nk hK5 ?_
  refine cx_cond_f' rfl rfl ?_
  refine cr fun K9 hK9 => ?_
  refine st rfl (F := fun _ => .tuple #[.pointer none, .bool false]) as67_53_75 as_no ?_
  iterate 2 refine se rfl rfl ?_
  refine nk hK9 ?_
  refine cx_cond_f' rfl rfl ?_
  refine cr fun K11 hK11 => ?_
  refine st rfl (F := fun _ => .tuple #[.pointer none, .bool false]) as67_53_69 as_no ?_
  iterate 2 refine se rfl rfl ?_
  refine nk hK11 ?_
  refine cx_cond_f' rfl rfl ?_
  refine cr fun K13 hK13 => ?_
  refine st rfl (F := fun v => .tuple #[v, .bool true]) as67_53_67k as_ok ?_
  iterate 2 refine se rfl rfl ?_
  refine nk hK13 ?_
  refine cx_cond_t' rfl rfl ?_
  refine cr fun K14 hK14 => ?_
  refine sa rfl ?_
  refine nk hK14 ?_
  refine cx_region' ?_
  refine sf rfl Try.underlying27 rfl info3 rfl ?_
  refine so (ox_store' (i := 0) (o := 0) rfl rfl (lv_vl rfl rfl) (ar rfl rfl rfl rfl) rfl info3 rfl (H' := [(Ur q3 27 (C1 3 0 r15)), (Ur q2 27 (C1 0 0 0))]) rfl) fun _ => ?_
  refine nk hK3 ?_
  refine cr fun K7 hK7 => ?_
  refine sm rfl ?_
  obtain ⟨r70, hr70, hp⟩ := bind_some hp
  refine so (oz (ent_inv' rfl rfl (inv_pt0 inv67_Layout)) (gogeom_geom0_Layout_v2_sim _ _ _ _ _ hr70)) fun ⟨⟩ => ?_
  refine sm rfl ?_
  obtain ⟨r72, hr72, hp⟩ := bind_some hp
  refine so (oz (ent_inv' rfl rfl (inv_pt0 inv67_FlatCoords)) (gogeom_geom0_FlatCoords_v6_sim _ _ _ _ _ hr72)) fun ⟨⟩ => ?_
  obtain ⟨r73, hr73, hp⟩ := bind_some hp
  refine so (ox_calln' (ent_fn' Try.func59 isn59 rfl rfl) (impl_floats_sim _ hr73 : Sx.Fn Try.prog 59 [(Sl Kf r72)] [] (fun x : Gs => (Vw x)) (fun x => [(Rg Kf 32 x r73)])) (Hn := fun x : Gs => [(Rg Kf 32 x r73), (Ur q3 27 (C1 3 0 r15)), (Ur q2 27 (C1 0 0 0))]) (fun _ => rfl) rfl rfl) fun g73 => ?_
  refine sm rfl ?_
  obtain ⟨r75, hr75, hp⟩ := bind_some hp
  refine so (oz (ent_inv' rfl rfl (inv_pt0 inv67_Ends)) (gogeom_geom2_Ends_v4_sim _ _ _ _ _ hr75)) fun ⟨⟩ => ?_
  obtain ⟨r76, hr76, hp⟩ := bind_some hp
  rcases r76 with y3 | y3
  ·dsimp only at hp
   refine so (ox_calln' (ent_fn' Try.func58 isn58 rfl rfl) (impl_ints_sim _ hr76 : Sx.Fn Try.prog 58 [(Sl (Ki .i64) r75)] [] (fun x : Gs => Vn) (fun x => [])) (Hn := fun x : Gs => [(Rg Kf 32 g73 r73), (Ur q3 27 (C1 3 0 r15)), (Ur q2 27 (C1 0 0 0))]) (fun _ => rfl) rfl rfl) fun g76 => ?_
   refine sm rfl ?_
   obtain ⟨r78, hr78, hp⟩ := bind_some hp
   refine so (oz (ent_inv' rfl rfl (inv_pt0 inv67_Endss)) (gogeom_geom0_Endss_v5_sim _ _ _ _ _ hr78)) fun ⟨⟩ => ?_
   obtain ⟨r79, hr79, hp⟩ := bind_some hp
   refine so (oz (ent_fn' Try.func29 isn29 rfl rfl) (impl_intss_v2_sim hr79)) fun ⟨⟩ => ?_
   refine sg (off := 1) rfl Try.underlying27 rfl info3 rfl ?_
   refine so (ox_store' (i := 1) (o := 1) rfl rfl (lv_vl rfl rfl) (ar rfl rfl rfl rfl) rfl info3 rfl (H' := [(Rg Kf 32 g73 r73), (Ur q3 27 (C1 3 r70 r15)), (Ur q2 27 (C1 0 0 0))]) rfl) fun _ => ?_
   refine sg (off := 3) rfl Try.underlying27 rfl info22 rfl ?_
   refine so (ox_store' (i := 1) (o := 3) rfl rfl (lv_vl rfl rfl) (ar rfl rfl rfl rfl) rfl info22 rfl (H' := [(Rg Kf 32 g73 r73), (Ur q3 27 (C10 3 r70 r15 g73)), (Ur q2 27 (C1 0 0 0))]) rfl) fun _ => ?_
   refine sg (off := 4) rfl Try.underlying27 rfl info23 rfl ?_
   refine so (ox_store' (i := 1) (o := 4) rfl rfl (lv_vl rfl rfl) (ar rfl rfl rfl rfl) rfl info23 rfl (H' := [(Rg Kf 32 g73 r73), (Ur q3 27 (C10 3 r70 r15 g73)), (Ur q2 27 (C1 0 0 0))]) rfl) fun _ => ?_
   refine sg (off := 5) rfl Try.underlying27 rfl info24 rfl ?_
   refine so (ox_store' (i := 1) (o := 5) rfl rfl (lv_vl rfl rfl) (ar rfl rfl rfl rfl) rfl info24 rfl (H' := [(Rg Kf 32 g73 r73), (Ur q3 27 (C10 3 r70 r15 g73)), (Ur q2 27 (C1 0 0 0))]) rfl) fun _ => ?_
   refine nk hK7 ?_
   refine cr fun K8 hK8 => ?_
   refine s0 (rd_load_agg' (i := 1) (o := 0) (nn := 7) rfl (ar rfl rfl rfl rfl) rfl agg27 (l' := (C10 3 r70 r15 g73)) rfl) ?_
   refine so (ox_store' (i := 2) (o := 0) rfl rfl (lv_ag _) (ar rfl rfl rfl rfl) rfl info27 rfl (H' := [(Rg Kf 32 g73 r73), (Ur q3 27 (C10 3 r70 r15 g73)), (Ur q2 27 (C10 3 r70 r15 g73))]) rfl) fun _ => ?_
   refine nk hK8 ?_
   refine cx_retc' ?_
   replace hp := sj hp
   subst hp
   refine tx_fz' (frz_row 0 [(73, (Vw g73), (Sl Kf r73)), (84, (Ag (C10 3 r70 r15 g73)), (Ag (C15 3 r70 r15 r73)))] (K := Kf) (xs := r73) (by decide) rfl ⟨⟨rfl, frz_it⟩, ⟨rfl, fz_ag (fc f0 (fc f0 (fc f0 (fc fz0_it (fc f0 (fc f0 (fc f0 fz0_nil)))))))⟩, trivial⟩ (H' := [(Ur q3 27 (C15 3 r70 r15 r73)), (Ur q2 27 (C15 3 r70 r15 r73))]) (fh rfl rfl rfl (fl fs (fl fs (fl fs (fl frz_it (fl fs (fl fs (fl fs frzL_refl))))))) (fh rfl rfl rfl (fl fs (fl fs (fl fs (fl frz_it (fl fs (fl fs (fl fs frzL_refl))))))) frzH_refl))) ?_
   refine tk (L' := [(2, (Vp q2))]) (H' := [(Ur q2 27 (C15 3 r70 r15 r73))]) [1] (uc rfl un) (pc rfl pn) ?_
   exact tx_ret1' Try.results34 rfl () (rv_imp' (x := (Ag (C15 3 r70 r15 r73))) (y := (Ag [(Vi 3), (Vi r70), (Vi r15), (Sl Kf r73), (Sl (Ki .i64) []), (Sl (Kl (Ki .i64)) []), (Sl KT27 [])])) (rv_cell_agg' (i := 0) (o := 0) (nn := 7) rfl (ar rfl rfl rfl rfl) rfl agg27 rfl) (imp_ag ⟨imp_refl, imp_refl, imp_refl, imp_refl, imp_nil, imp_nil, imp_nil, trivial⟩)) (List.nil_sublist _)
  dsimp only at hp
  refine so (ox_calln' (ent_fn' Try.func58 isn58 rfl rfl) (impl_ints_sim _ hr76 : Sx.Fn Try.prog 58 [(Sl (Ki .i64) r75)] [] (fun x : Gs => (Vw x)) (fun x => [(Rg (Ki .i64) 3 x y3)])) (Hn := fun x : Gs => [(Rg (Ki .i64) 3 x y3), (Rg Kf 32 g73 r73), (Ur q3 27 (C1 3 0 r15)), (Ur q2 27 (C1 0 0 0))]) (fun _ => rfl) rfl rfl) fun g76 => ?_
  refine sm rfl ?_
  obtain ⟨r78, hr78, hp⟩ := bind_some hp
  refine so (oz (ent_inv' rfl rfl (inv_pt0 inv67_Endss)) (gogeom_geom0_Endss_v5_sim _ _ _ _ _ hr78)) fun ⟨⟩ => ?_
  obtain ⟨r79, hr79, hp⟩ := bind_some hp
  refine so (oz (ent_fn' Try.func29 isn29 rfl rfl) (impl_intss_v2_sim hr79)) fun ⟨⟩ => ?_
  refine sg (off := 1) rfl Try.underlying27 rfl info3 rfl ?_
  refine so (ox_store' (i := 2) (o := 1) rfl rfl (lv_vl rfl rfl) (ar rfl rfl rfl rfl) rfl info3 rfl (H' := [(Rg (Ki .i64) 3 g76 y3), (Rg Kf 32 g73 r73), (Ur q3 27 (C1 3 r70 r15)), (Ur q2 27 (C1 0 0 0))]) rfl) fun _ => ?_
  refine sg (off := 3) rfl Try.underlying27 rfl info22 rfl ?_
  refine so (ox_store' (i := 2) (o := 3) rfl rfl (lv_vl rfl rfl) (ar rfl rfl rfl rfl) rfl info22 rfl (H' := [(Rg (Ki .i64) 3 g76 y3), (Rg Kf 32 g73 r73), (Ur q3 27 (C10 3 r70 r15 g73)), (Ur q2 27 (C1 0 0 0))]) rfl) fun _ => ?_
  refine sg (off := 4) rfl Try.underlying27 rfl info23 rfl ?_
  refine so (ox_store' (i := 2) (o := 4) rfl rfl (lv_vl rfl rfl) (ar rfl rfl rfl rfl) rfl info23 rfl (H' := [(Rg (Ki .i64) 3 g76 y3), (Rg Kf 32 g73 r73), (Ur q3 27 (C7 3 r70 r15 g73 g76)), (Ur q2 27 (C1 0 0 0))]) rfl) fun _ => ?_
  refine sg (off := 5) rfl Try.underlying27 rfl info24 rfl ?_
  refine so (ox_store' (i := 2) (o := 5) rfl rfl (lv_vl rfl rfl) (ar rfl rfl rfl rfl) rfl info24 rfl (H' := [(Rg (Ki .i64) 3 g76 y3), (Rg Kf 32 g73 r73), (Ur q3 27 (C7 3 r70 r15 g73 g76)), (Ur q2 27 (C1 0 0 0))]) rfl) fun _ => ?_
  refine nk hK7 ?_
  refine cr fun K8 hK8 => ?_
  refine s0 (rd_load_agg' (i := 2) (o := 0) (nn := 7) rfl (ar rfl rfl rfl rfl) rfl agg27 (l' := (C7 3 r70 r15 g73 g76)) rfl) ?_
  refine so (ox_store' (i := 3) (o := 0) rfl rfl (lv_ag _) (ar rfl rfl rfl rfl) rfl info27 rfl (H' := [(Rg (Ki .i64) 3 g76 y3), (Rg Kf 32 g73 r73), (Ur q3 27 (C7 3 r70 r15 g73 g76)), (Ur q2 27 (C7 3 r70 r15 g73 g76))]) rfl) fun _ => ?_
  refine nk hK8 ?_
  refine cx_retc' ?_
  replace hp := sj hp
  subst hp
  refine tx_fz' (frz_row 1 [(73, (Vw g73), (Sl Kf r73)), (84, (Ag (C7 3 r70 r15 g73 g76)), (Ag (C9 3 r70 r15 r73 g76)))] (K := Kf) (xs := r73) (by decide) rfl ⟨⟨rfl, frz_it⟩, ⟨rfl, fz_ag (fc f0 (fc f0 (fc f0 (fc fz0_it (fc f0 (fc f0 (fc f0 fz0_nil)))))))⟩, trivial⟩ (H' := [(Rg (Ki .i64) 3 g76 y3), (Ur q3 27 (C9 3 r70 r15 r73 g76)), (Ur q2 27 (C9 3 r70 r15 r73 g76))]) (fk (fh rfl rfl rfl (fl fs (fl fs (fl fs (fl frz_it (fl fs (fl fs (fl fs frzL_refl))))))) (fh rfl rfl rfl (fl fs (fl fs (fl fs (fl frz_it (fl fs (fl fs (fl fs frzL_refl))))))) frzH_refl)))) ?_
  refine tx_fz' (frz_row 0 [(76, (Vw g76), (Sl (Ki .i64) y3)), (84, (Ag (C9 3 r70 r15 r73 g76)), (Ag (C5 3 r70 r15 r73 y3)))] (K := (Ki .i64)) (xs := y3) (by decide) rfl ⟨⟨rfl, frz_it⟩, ⟨rfl, fz_ag (fc f0 (fc f0 (fc f0 (fc f0 (fc fz0_it (fc f0 (fc f0 fz0_nil)))))))⟩, trivial⟩ (H' := [(Ur q3 27 (C5 3 r70 r15 r73 y3)), (Ur q2 27 (C5 3 r70 r15 r73 y3))]) (fh rfl rfl rfl (fl fs (fl fs (fl fs (fl fs (fl frz_it (fl fs (fl fs frzL_refl))))))) (fh rfl rfl rfl (fl fs (fl fs (fl fs (fl fs (fl frz_it (fl fs (fl fs frzL_refl))))))) frzH_refl))) ?_
  refine tk (L' := [(2, (Vp q2))]) (H' := [(Ur q2 27 (C5 3 r70 r15 r73 y3))]) [1] (uc rfl un) (pc rfl pn) ?_
  exact tx_ret1' Try.results34 rfl () (rv_imp' (x := (Ag (C5 3 r70 r15 r73 y3))) (y := (Ag [(Vi 3), (Vi r70), (Vi r15), (Sl Kf r73), (Sl (Ki .i64) y3), (Sl (Kl (Ki .i64)) []), (Sl KT27 [])])) (rv_cell_agg' (i := 0) (o := 0) (nn := 7) rfl (ar rfl rfl rfl rfl) rfl agg27 rfl) (imp_ag ⟨imp_refl, imp_refl, imp_refl, imp_refl, imp_refl, imp_nil, imp_nil, trivial⟩)) (List.nil_sublist _)
 ·dsimp only at hp
  refine tx_slot' 0 (y := (If 70 (Pt (C6 a0_4a a0_4b a0_4c a0_4d a0_4e)))) rfl (imp_eq (SG53_c4 a0_4a a0_4b a0_4c a0_4d a0_4e)) ?_
  refine tx_slot' 14 (y := (If 70 (Pt (C6 a0_4a a0_4b a0_4c a0_4d a0_4e)))) rfl (imp_eq (SG53_c4 a0_4a a0_4b a0_4c a0_4d a0_4e)) ?_
  obtain ⟨r15, hr15, hp⟩ := bind_some hp
  refine so (oz (ent_inv' rfl rfl (inv_pt0 inv70_SRID)) (gogeom_geom0_SRID_v6_sim _ _ _ _ _ hr15)) fun ⟨⟩ => ?_
  refine sv (pls := [(0, 1), (1, 1), (2, 1), (3, 1), (4, 1), (5, 1), (6, 1)]) (qs := [(2, [(Vi r15)])]) (r := (C1 0 0 r15)) ⟨rfl, ⟨_, rfl, (lv_vl rfl rfl)⟩, trivial⟩ Try.underlying27 has27 places27 info27 rfl rfl rfl ?_
  refine so (ox_alloc' info27 rfl rfl rfl rfl (l := (C1 0 0 0)) rfl) fun q3 => ?_
  refine so (ox_store' (i := 0) (o := 0) rfl rfl (lv_ag _) (ar rfl rfl rfl rfl) rfl info27 rfl (H' := [(Ur q3 27 (C1 0 0 r15)), (Ur q2 27 (C1 0 0 0))]) rfl) fun _ => ?_
  refine nk hK2 ?_
  refine cx_seq' fun K3 hK3 => ?_
  refine cr fun K4 hK4 => ?_
  refine sm rfl ?_
  refine nk hK4 ?_
  refine cx_block' ?_
  refine cr fun K5 hK5 => ?_
  refine st rfl (F := fun _ => .tuple #[.pointer none, .bool false]) as70_53_72 as_no ?_
  iterate 2 refine se rfl rfl ?_
  refine nk hK5 ?_
  refine cx_cond_f' rfl rfl ?_
  refine cr fun K9 hK9 => ?_
  refine st rfl (F := fun _ => .tuple #[.pointer none, .bool false]) as70_53_75 as_no ?_
  iterate 2 refine se rfl rfl ?_
  refine nk hK9 ?_
  refine cx_cond_f' rfl rfl ?_
  refine cr fun K11 hK11 => ?_
  refine st rfl (F := fun _ => .tuple #[.pointer none, .bool false]) as70_53_69 as_no ?_
  iterate 2 refine se rfl rfl ?_
  refine nk hK11 ?_
  refine cx_cond_f' rfl rfl ?_
  refine cr fun K13 hK13 => ?_
  refine st rfl (F := fun _ => .tuple #[.pointer none, .bool false]) as70_53_67 as_no ?_
  iterate 2 refine se rfl rfl ?_
  refine nk hK13 ?_
  refine cx_cond_f' rfl rfl ?_
  refine cr fun K15 hK15 => ?_
  refine st rfl (F := fun v => .tuple #[v, .bool true]) as70_53_70k as_ok ?_
  iterate 2 refine se rfl rfl ?_
  refine nk hK15 ?_
  refine cx_cond_t' rfl rfl ?_
  refine cr fun K16 hK16 => ?_
  refine sa rfl ?_
  refine nk hK16 ?_
  refine cx_region' ?_
  refine sf rfl Try.underlying27 rfl info3 rfl ?_
  refine so (ox_store' (i := 0) (o := 0) rfl rfl (lv_vl rfl rfl) (ar rfl rfl rfl rfl) rfl info3 rfl (H' := [(Ur q3 27 (C1 4 0 r15)), (Ur q2 27 (C1 0 0 0))]) rfl) fun _ => ?_
  refine nk hK3 ?_
  refine cr fun K7 hK7 => ?_
  refine sm rfl ?_
  obtain ⟨r70, hr70, hp⟩ := bind_some hp
  refine so (oz (ent_inv' rfl rfl (inv_pt0 inv70_Layout)) (gogeom_geom0_Layout_v2_sim _ _ _ _ _ hr70)) fun ⟨⟩ => ?_
  refine sm rfl ?_
  obtain ⟨r72, hr72, hp⟩ := bind_some hp
  refine so (oz (ent_inv' rfl rfl (inv_pt0 inv70_FlatCoords)) (gogeom_geom0_FlatCoords_v6_sim _ _ _ _ _ hr72)) fun ⟨⟩ => ?_
  obtain ⟨r73, hr73, hp⟩ := bind_some hp
  refine so (ox_calln' (ent_fn' Try.func59 isn59 rfl rfl) (impl_floats_sim _ hr73 : Sx.Fn Try.prog 59 [(Sl Kf r72)] [] (fun x : Gs => (Vw x)) (fun x => [(Rg Kf 32 x r73)])) (Hn := fun x : Gs => [(Rg Kf 32 x r73), (Ur q3 27 (C1 4 0 r15)), (Ur q2 27 (C1 0 0 0))]) (fun _ => rfl) rfl rfl) fun g73 => ?_
  refine sm rfl ?_
  obtain ⟨r75, hr75, hp⟩ := bind_some hp
  refine so (oz (ent_inv' rfl rfl (inv_pt0 inv70_Ends)) (gogeom_geom2_Ends_v4_sim _ _ _ _ _ hr75)) fun ⟨⟩ => ?_
  obtain ⟨r76, hr76, hp⟩ := bind_some hp
  rcases r76 with y3 | y3
  ·dsimp only at hp
   refine so (ox_calln' (ent_fn' Try.func58 isn58 rfl rfl) (impl_ints_sim _ hr76 : Sx.Fn Try.prog 58 [(Sl (Ki .i64) r75)] [] (fun x : Gs => Vn) (fun x => [])) (Hn := fun x : Gs => [(Rg Kf 32 g73 r73), (Ur q3 27 (C1 4 0 r15)), (Ur q2 27 (C1 0 0 0))]) (fun _ => rfl) rfl rfl) fun g76 => ?_
   refine sm rfl ?_
   obtain ⟨r78, hr78, hp⟩ := bind_some hp
   refine so (oz (ent_inv' rfl rfl (inv_pt0 inv70_Endss)) (gogeom_geom0_Endss_v5_sim _ _ _ _ _ hr78)) fun ⟨⟩ => ?_
   obtain ⟨r79, hr79, hp⟩ := bind_some hp
   refine so (oz (ent_fn' Try.func29 isn29 rfl rfl) (impl_intss_v2_sim hr79)) fun ⟨⟩ => ?_
   refine sg (off := 1) rfl Try.underlying27 rfl info3 rfl ?_
   refine so (ox_store' (i := 1) (o := 1) rfl rfl (lv_vl rfl rfl) (ar rfl rfl rfl rfl) rfl info3 rfl (H' := [(Rg Kf 32 g73 r73), (Ur q3 27 (C1 4 r70 r15)), (Ur q2 27 (C1 0 0 0))]) rfl) fun _ => ?_
   refine sg (off := 3) rfl Try.underlying27 rfl info22 rfl ?_
   refine so (ox_store' (i := 1) (o := 3) rfl rfl (lv_vl rfl rfl) (ar rfl rfl rfl rfl) rfl info22 rfl (H' := [(Rg Kf 32 g73 r73), (Ur q3 27 (C10 4 r70 r15 g73)), (Ur q2 27 (C1 0 0 0))]) rfl) fun _ => ?_
   refine sg (off := 4) rfl Try.underlying27 rfl info23 rfl ?_
   refine so (ox_store' (i := 1) (o := 4) rfl rfl (lv_vl rfl rfl) (ar rfl rfl rfl rfl) rfl info23 rfl (H' := [(Rg Kf 32 g73 r73), (Ur q3 27 (C10 4 r70 r15 g73)), (Ur q2 27 (C1 0 0 0))]) rfl) fun _ => ?_
   refine sg (off := 5) rfl Try.underlying27 rfl info24 rfl ?_
   refine so (ox_store' (i := 1) (o := 5) rfl rfl (lv_vl rfl rfl) (ar rfl rfl rfl rfl) rfl info24 rfl (H' := [(Rg Kf 32 g73 r73), (Ur q3 27 (C10 4 r70 r15 g73)), (Ur q2 27 (C1 0 0 0))]) rfl) fun _ => ?_
   refine nk hK7 ?_
   refine cr fun K8 hK8 => ?_
   refine s0 (rd_load_agg' (i := 1) (o := 0) (nn := 7) rfl (ar rfl rfl rfl rfl) rfl agg27 (l' := (C10 4 r70 r15 g73)) rfl) ?_
   refine so (ox_store' (i := 2) (o := 0) rfl rfl (lv_ag _) (ar rfl rfl rfl rfl) rfl info27 rfl (H' := [(Rg Kf 32 g73 r73), (Ur q3 27 (C10 4 r70 r15 g73)), (Ur q2 27 (C10 4 r70 r15 g73))]) rfl) fun _ => ?_
   refine nk hK8 ?_
   refine cx_retc' ?_
   replace hp := sj hp
   subst hp
   refine tx_fz' (frz_row 0 [(73, (Vw g73), (Sl Kf r73)), (84, (Ag (C10 4 r70 r15 g73)), (Ag (C15 4 r70 r15 r73)))] (K := Kf) (xs := r73) (by decide) rfl ⟨⟨rfl, frz_it⟩, ⟨rfl, fz_ag (fc f0 (fc f0 (fc f0 (fc fz0_it (fc f0 (fc f0 (fc f0 fz0_nil)))))))⟩, trivial⟩ (H' := [(Ur q3 27 (C15 4 r70 r15 r73)), (Ur q2 27 (C15 4 r70 r15 r73))]) (fh rfl rfl rfl (fl fs (fl fs (fl fs (fl frz_it (fl fs (fl fs (fl fs frzL_refl))))))) (fh rfl rfl rfl (fl fs (fl fs (fl fs (fl frz_it (fl fs (fl fs (fl fs frzL_refl))))))) frzH_refl))) ?_
   refine tk (L' := [(2, (Vp q2))]) (H' := [(Ur q2 27 (C15 4 r70 r15 r73))]) [1] (uc rfl un) (pc rfl pn) ?_
   exact tx_ret1' Try.results34 rfl () (rv_imp' (x := (Ag (C15 4 r70 r15 r73))) (y := (Ag [(Vi 4), (Vi r70), (Vi r15), (Sl Kf r73), (Sl (Ki .i64) []), (Sl (Kl (Ki .i64)) []), (Sl KT27 [])])) (rv_cell_agg' (i := 0) (o := 0) (nn := 7) rfl (ar rfl rfl rfl rfl) rfl agg27 rfl) (imp_ag ⟨imp_refl, imp_refl, imp_refl, imp_refl, imp_nil, imp_nil, imp_nil, trivial⟩)) (List.nil_sublist _)
  dsimp only at hp
  refine so (ox_calln' (ent_fn' Try.func58 isn58 rfl rfl) (impl_ints_sim _ hr76 : Sx.Fn Try.prog 58 [(Sl (Ki .i64) r75)] [] (fun x : Gs => (Vw x)) (fun x => [(Rg (Ki .i64) 3 x y3)])) (Hn := fun x : Gs => [(Rg (Ki .i64) 3 x y3), (Rg Kf 32 g73 r73), (Ur q3 27 (C1 4 0 r15)), (Ur q2 27 (C1 0 0 0))]) (fun _ => rfl) rfl rfl) fun g76 => ?_
  refine sm rfl ?_
  obtain ⟨r78, hr78, hp⟩ := bind_some hp
  refine so (oz (ent_inv' rfl rfl (inv_pt0 inv70_Endss)) (gogeom_geom0_Endss_v5_sim _ _ _ _ _ hr78)) fun ⟨⟩ => ?_
  obtain ⟨r79, hr79, hp⟩ := bind_some hp
  refine so (oz (ent_fn' Try.func29 isn29 rfl rfl) (impl_intss_v2_sim hr79)) fun ⟨⟩ => ?_
  refine sg (off := 1) rfl Try.underlying27 rfl info3 rfl ?_
  refine so (ox_store' (i := 2) (o := 1) rfl rfl (lv_vl rfl rfl) (ar rfl rfl rfl rfl) rfl info3 rfl (H' := [(Rg (Ki .i64) 3 g76 y3), (Rg Kf 32 g73 r73), (Ur q3 27 (C1 4 r70 r15)), (Ur q2 27 (C1 0 0 0))]) rfl) fun _ => ?_
  refine sg (off := 3) rfl Try.underlying27 rfl info22 rfl ?_
  refine so (ox_store' (i := 2) (o := 3) rfl rfl (lv_vl rfl rfl) (ar rfl rfl rfl rfl) rfl info22 rfl (H' := [(Rg (Ki .i64) 3 g76 y3), (Rg Kf 32 g73 r73), (Ur q3 27 (C10 4 r70 r15 g73)), (Ur q2 27 (C1 0 0 0))]) rfl) fun _ => ?_
  refine sg (off := 4) rfl Try.underlying27 rfl info23 rfl ?_
  refine so (ox_store' (i := 2) (o := 4) rfl rfl (lv_vl rfl rfl) (ar rfl rfl rfl rfl) rfl info23 rfl (H' := [(Rg (Ki .i64) 3 g76 y3), (Rg Kf 32 g73 r73), (Ur q3 27 (C7 4 r70 r15 g73 g76)), (Ur q2 27 (C1 0 0 0))]) rfl) fun _ => ?_
  refine sg (off := 5) rfl Try.underlying27 rfl info24 rfl ?_
  refine so (ox_store' (i := 2) (o := 5) rfl rfl (lv_vl rfl rfl) (ar rfl rfl rfl rfl) rfl info24 rfl (H' := [(Rg (Ki .i64) 3 g76 y3), (Rg Kf 32 g73 r73), (Ur q3 27 (C7 4 r70 r15 g73 g76)), (Ur q2 27 (C1 0 0 0))]) rfl) fun _ => ?_
  refine nk hK7 ?_
  refine cr fun K8 hK8 => ?_
  refine s0 (rd_load_agg' (i := 2) (o := 0) (nn := 7) rfl (ar rfl rfl rfl rfl) rfl agg27 (l' := (C7 4 r70 r15 g73 g76)) rfl) ?_
  refine so (ox_store' (i := 3) (o := 0) rfl rfl (lv_ag _) (ar rfl rfl rfl rfl) rfl info27 rfl (H' := [(Rg (Ki .i64) 3 g76 y3), (Rg Kf 32 g73 r73), (Ur q3 27 (C7 4 r70 r15 g73 g76)), (Ur q2 27 (C7 4 r70 r15 g73 g76))]) rfl) fun _ => ?_
  refine nk hK8 ?_
  refine cx_retc' ?_
  replace hp := sj hp
  subst hp
  refine tx_fz' (frz_row 1 [(73, (Vw g73), (Sl Kf r73)), (84, (Ag (C7 4 r70 r15 g73 g76)), (Ag (C9 4 r70 r15 r73 g76)))] (K := Kf) (xs := r73) (by decide) rfl ⟨⟨rfl, frz_it⟩, ⟨rfl, fz_ag (fc f0 (fc f0 (fc f0 (fc fz0_it (fc f0 (fc f0 (fc f0 fz0_nil)))))))⟩, trivial⟩ (H' := [(Rg (Ki .i64) 3 g76 y3), (Ur q3 27 (C9 4 r70 r15 r73 g76)), (Ur q2 27 (C9 4 r70 r15 r73 g76))]) (fk (fh rfl rfl rfl (fl fs (fl fs (fl fs (fl frz_it (fl fs (fl fs (fl fs frzL_refl))))))) (fh rfl rfl rfl (fl fs (fl fs (fl fs (fl frz_it (fl fs (fl fs (fl fs frzL_refl))))))) frzH_refl)))) ?_
  refine tx_fz' (frz_row 0 [(76, (Vw g76), (Sl (Ki .i64) y3)), (84, (Ag (C9 4 r70 r15 r73 g76)), (Ag (C5 4 r70 r15 r73 y3)))] (K := (Ki .i64)) (xs := y3) (by decide) rfl ⟨⟨rfl, frz_it⟩, ⟨rfl, fz_ag (fc f0 (fc f0 (fc f0 (fc f0 (fc fz0_it (fc f0 (fc f0 fz0_nil)))))))⟩, trivial⟩ (H' := [(Ur q3 27 (C5 4 r70 r15 r73 y3)), (Ur q2 27 (C5 4 r70 r15 r73 y3))]) (fh rfl rfl rfl (fl fs (fl fs (fl fs (fl fs (fl frz_it (fl fs (fl fs frzL_refl))))))) (fh rfl rfl rfl (fl fs (fl fs (fl fs (fl fs (fl frz_it (fl fs (fl fs frzL_refl))))))) frzH_refl))) ?_
  refine tk (L' := [(2, (Vp q2))]) (H' := [(Ur q2 27 (C5 4 r70 r15 r73 y3))]) [1] (uc rfl un) (pc rfl pn) ?_
  exact tx_ret1' Try.results34 rfl () (rv_imp' (x := (Ag (C5 4 r70 r15 r73 y3))) (y := (Ag [(Vi 4), (Vi r70), (Vi r15), (Sl Kf r73), (Sl (Ki .i64) y3), (Sl (Kl (Ki .i64)) []), (Sl KT27 [])])) (rv_cell_agg' (i := 0) (o := 0) (nn := 7) rfl (ar rfl rfl rfl rfl) rfl agg27 rfl) (imp_ag ⟨imp_refl, imp_refl, imp_refl, imp_refl, imp_refl, imp_nil, imp_nil, trivial⟩)) (List.nil_sublist _)
 ·dsimp only at hp
  refine tx_slot' 0 (y := (If 73 (Pt (C6 a0_5a a0_5b a0_5c a0_5d a0_5e)))) rfl (imp_eq (SG53_c5 a0_5a a0_5b a0_5c a0_5d a0_5e)) ?_
  refine tx_slot' 14 (y := (If 73 (Pt (C6 a0_5a a0_5b a0_5c a0_5d a0_5e)))) rfl (imp_eq (SG53_c5 a0_5a a0_5b a0_5c a0_5d a0_5e)) ?_
  obtain ⟨r15, hr15, hp⟩ := bind_some hp
  refine so (oz (ent_inv' rfl rfl (inv_pt0 inv73_SRID)) (gogeom_geom0_SRID_v6_sim _ _ _ _ _ hr15)) fun ⟨⟩ => ?_
  refine sv (pls := [(0, 1), (1, 1), (2, 1), (3, 1), (4, 1), (5, 1), (6, 1)]) (qs := [(2, [(Vi r15)])]) (r := (C1 0 0 r15)) ⟨rfl, ⟨_, rfl, (lv_vl rfl rfl)⟩, trivial⟩ Try.underlying27 has27 places27 info27 rfl rfl rfl ?_
  refine so (ox_alloc' info27 rfl rfl rfl rfl (l := (C1 0 0 0)) rfl) fun q3 => ?_
  refine so (ox_store' (i := 0) (o := 0) rfl rfl (lv_ag _) (ar rfl rfl rfl rfl) rfl info27 rfl (H' := [(Ur q3 27 (C1 0 0 r15)), (Ur q2 27 (C1 0 0 0))]) rfl) fun _ => ?_
  refine nk hK2 ?_
  refine cx_seq' fun K3 hK3 => ?_
  refine cr fun K4 hK4 => ?_
  refine sm rfl ?_
  refine nk hK4 ?_
  refine cx_block' ?_
  refine cr fun K5 hK5 => ?_
  refine st rfl (F := fun _ => .tuple #[.pointer none, .bool false]) as73_53_72 as_no ?_
  iterate 2 refine se rfl rfl ?_
  refine nk hK5 ?_
  refine cx_cond_f' rfl rfl ?_
  refine cr fun K9 hK9 => ?_
  refine st rfl (F := fun _ => .tuple #[.pointer none, .bool false]) as73_53_75 as_no ?_
  iterate 2 refine se rfl rfl ?_
  refine nk hK9 ?_
  refine cx_cond_f' rfl rfl ?_
  refine cr fun K11 hK11 => ?_
  refine st rfl (F := fun _ => .tuple #[.pointer none, .bool false]) as73_53_69 as_no ?_
  iterate 2 refine se rfl rfl ?_
  refine nk hK11 ?_
  refine cx_cond_f' rfl rfl ?_
  refine cr fun K13 hK13 => ?_
  refine st rfl (F := fun _ => .tuple #[.pointer none, .bool false]) as73_53_67 as_no ?_
  iterate 2 refine se rfl rfl ?_
  refine nk hK13 ?_
  refine cx_cond_f' rfl rfl ?_
  refine cr fun K15 hK15 => ?_
  refine st rfl (F := fun _ => .tuple #[.pointer none, .bool false]) as73_53_70 as_no ?_
  iterate 2 refine se rfl rfl ?_
  refine nk hK15 ?_
  refine cx_cond_f' rfl rfl ?_
  refine cr fun K17 hK17 => ?_
  refine st rfl (F := fun v => .tuple #[v, .bool true]) as73_53_73k as_ok ?_
  iterate 2 refine se rfl rfl ?_
  refine nk hK17 ?_
  refine cx_cond_t' rfl rfl ?_
  refine cr fun K18 hK18 => ?_
  refine sa rfl ?_
  refine nk hK18 ?_
  refine cx_region' ?_
  refine sf rfl Try.underlying27 rfl info3 rfl ?_
  refine so (ox_store' (i := 0) (o := 0) rfl rfl (lv_vl rfl rfl) (ar rfl rfl rfl rfl) rfl info3 rfl (H' := [(Ur q3 27 (C1 5 0 r15)), (Ur q2 27 (C1 0 0 0))]) rfl) fun _ => ?_
  refine nk hK3 ?_
  refine cr fun K7 hK7 => ?_
  refine sm rfl ?_
  obtain ⟨r70, hr70, hp⟩ := bind_some hp
  refine so (oz (ent_inv' rfl rfl (inv_pt0 inv73_Layout)) (gogeom_geom0_Layout_v2_sim _ _ _ _ _ hr70)) fun ⟨⟩ => ?_
  refine sm rfl ?_
  obtain ⟨r72, hr72, hp⟩ := bind_some hp
  refine so (oz (ent_inv' rfl rfl (inv_pt0 inv73_FlatCoords)) (gogeom_geom0_FlatCoords_v6_sim _ _ _ _ _ hr72)) fun ⟨⟩ => ?_
  obtain ⟨r73, hr73, hp⟩ := bind_some hp
  refine so (ox_calln' (ent_fn' Try.func59 isn59 rfl rfl) (impl_floats_sim _ hr73 : Sx.Fn Try.prog 59 [(Sl Kf r72)] [] (fun x : Gs => (Vw x)) (fun x => [(Rg Kf 32 x r73)])) (Hn := fun x : Gs => [(Rg Kf 32 x r73), (Ur q3 27 (C1 5 0 r15)), (Ur q2 27 (C1 0 0 0))]) (fun _ => rfl) rfl rfl) fun g73 => ?_
  refine sm rfl ?_
  obtain ⟨r75, hr75, hp⟩ := bind_some hp
  refine so (oz (ent_inv' rfl rfl (inv_pt0 inv73_Ends)) (gogeom_geom2_Ends_v4_sim _ _ _ _ _ hr75)) fun ⟨⟩ => ?_
  obtain ⟨r76, hr76, hp⟩ := bind_some hp
  rcases r76 with y3 | y3
  ·dsimp only at hp
   refine so (ox_calln' (ent_fn' Try.func58 isn58 rfl rfl) (impl_ints_sim _ hr76 : Sx.Fn Try.prog 58 [(Sl (Ki .i64) r75)] [] (fun x : Gs => Vn) (fun x => [])) (Hn := fun x : Gs => [(Rg Kf 32 g73 r73), (Ur q3 27 (C1 5 0 r15)), (Ur q2 27 (C1 0 0 0))]) (fun _ => rfl) rfl rfl) fun g76 => ?_
   refine sm rfl ?_
   obtain ⟨r78, hr78, hp⟩ := bind_some hp
   refine so (oz (ent_inv' rfl rfl (inv_pt0 inv73_Endss)) (gogeom_geom0_Endss_v5_sim _ _ _ _ _ hr78)) fun ⟨⟩ => ?_
   obtain ⟨r79, hr79, hp⟩ := bind_some hp
   refine so (oz (ent_fn' Try.func29 isn29 rfl rfl) (impl_intss_v2_sim hr79)) fun ⟨⟩ => ?_
   refine sg (off := 1) rfl Try.underlying27 rfl info3 rfl ?_
   refine so (ox_store' (i := 1) (o := 1) rfl rfl (lv_vl rfl rfl) (ar rfl rfl rfl rfl) rfl info3 rfl (H' := [(Rg Kf 32 g73 r73), (Ur q3 27 (C1 5 r70 r15)), (Ur q2 27 (C1 0 0 0))]) rfl) fun _ => ?_
   refine sg (off := 3) rfl Try.underlying27 rfl info22 rfl ?_
   refine so (ox_store' (i := 1) (o := 3) rfl rfl (lv_vl rfl rfl) (ar rfl rfl rfl rfl) rfl info22 rfl (H' := [(Rg Kf 32 g73 r73), (Ur q3 27 (C10 5 r70 r15 g73)), (Ur q2 27 (C1 0 0 0))]) rfl) fun _ => ?_
   refine sg (off := 4) rfl Try.underlying27 rfl info23 rfl ?_
   refine so (ox_store' (i := 1) (o := 4) rfl rfl (lv_vl rfl rfl) (ar rfl rfl rfl rfl) rfl info23 rfl (H' := [(Rg Kf 32 g73 r73), (Ur q3 27 (C10 5 r70 r15 g73)), (Ur q2 27 (C1 0 0 0))]) rfl) fun _ => ?_
   refine sg (off := 5) rfl Try.underlying27 rfl info24 rfl ?_
   refine so (ox_store' (i := 1) (o := 5) rfl rfl (lv_vl rfl rfl) (ar rfl rfl rfl rfl) rfl info24 rfl (H' := [(Rg Kf 32 g73 r73), (Ur q3 27 (C10 5 r70 r15 g73)), (Ur q2 27 (C1 0 0 0))]) rfl) fun _ => ?_
   refine nk hK7 ?_
   refine cr fun K8 hK8 => ?_
   refine s0 (rd_load_agg' (i := 1) (o := 0) (nn := 7) rfl (ar rfl rfl rfl rfl) rfl agg27 (l' := (C10 5 r70 r15 g73)) rfl) ?_
   refine so (ox_store' (i := 2) (o := 0) rfl rfl (lv_ag _) (ar rfl rfl rfl rfl) rfl info27 rfl (H' := [(Rg Kf 32 g73 r73), (Ur q3 27 (C10 5 r70 r15 g73)), (Ur q2 27 (C10 5 r70 r15 g73))]) rfl) fun _ => ?_
   refine nk hK8 ?_
   refine cx_retc' ?_
   replace hp := sj hp
   subst hp
   refine tx_fz' (frz_row 0 [(73, (Vw g73), (Sl Kf r73)), (84, (Ag (C10 5 r70 r15 g73)), (Ag (C15 5 r70 r15 r73)))] (K := Kf) (xs := r73) (by decide) rfl ⟨⟨rfl, frz_it⟩, ⟨rfl, fz_ag (fc f0 (fc f0 (fc f0 (fc fz0_it (fc f0 (fc f0 (fc f0 fz0_nil)))))))⟩, trivial⟩ (H' := [(Ur q3 27 (C15 5 r70 r15 r73)), (Ur q2 27 (C15 5 r70 r15 r73))]) (fh rfl rfl rfl (fl fs (fl fs (fl fs (fl frz_it (fl fs (fl fs (fl fs frzL_refl))))))) (fh rfl rfl rfl (fl fs (fl fs (fl fs (fl frz_it (fl fs (fl fs (fl fs frzL_refl))))))) frzH_refl))) ?_
   refine tk (L' := [(2, (Vp q2))]) (H' := [(Ur q2 27 (C15 5 r70 r15 r73))]) [1] (uc rfl un) (pc rfl pn) ?_
   exact tx_ret1' Try.results34 rfl () (rv_imp' (x := (Ag (C15 5 r70 r15 r73))) (y := (Ag [(Vi 5), (Vi r70), (Vi r15), (Sl Kf r73), (Sl (Ki .i64) []), (Sl (Kl (Ki .i64)) []), (Sl KT27 [])])) (rv_cell_agg' (i := 0) (o := 0) (nn := 7) rfl (ar rfl rfl rfl rfl) rfl agg27 rfl) (imp_ag ⟨imp_refl, imp_refl, imp_refl, imp_refl, imp_nil, imp_nil, imp_nil, trivial⟩)) (List.nil_sublist _)
  dsimp only at hp
  refine so (ox_calln' (ent_fn' Try.func58 isn58 rfl rfl) (impl_ints_sim _ hr76 : Sx.Fn Try.prog 58 [(Sl (Ki .i64) r75)] [] (fun x : Gs => (Vw x)) (fun x => [(Rg (Ki .i64) 3 x y3)])) (Hn := fun x : Gs => [(Rg (Ki .i64) 3 x y3), (Rg Kf 32 g73 r73), (Ur q3 27 (C1 5 0 r15)), (Ur q2 27 (C1 0 0 0))]) (fun _ => rfl) rfl rfl) fun g76 => ?_
  refine sm rfl ?_
  obtain ⟨r78, hr78, hp⟩ := bind_some hp
  refine so (oz (ent_inv' rfl rfl (inv_pt0 inv73_Endss)) (gogeom_geom0_Endss_v5_sim _ _ _ _ _ hr78)) fun ⟨⟩ => ?_
  obtain ⟨r79, hr79, hp⟩ := bind_some hp
  refine so (oz (ent_fn' Try.func29 isn29 rfl rfl) (impl_intss_v2_sim hr79)) fun ⟨⟩ => ?_
  refine sg (off := 1) rfl Try.underlying27 rfl info3 rfl ?_
  refine so (ox_store' (i := 2) (o := 1) rfl rfl (lv_vl rfl rfl) (ar rfl rfl rfl rfl) rfl info3 rfl (H' := [(Rg (Ki .i64) 3 g76 y3), (Rg Kf 32 g73 r73), (Ur q3 27 (C1 5 r70 r15)), (Ur q2 27 (C1 0 0 0))]) rfl) fun _ => ?_
  refine sg (off := 3) rfl Try.underlying27 rfl info22 rfl ?_
  refine so (ox_store' (i := 2) (o := 3) rfl rfl (lv_vl rfl rfl) (ar rfl rfl rfl rfl) rfl info22 rfl (H' := [(Rg (Ki .i64) 3 g76 y3), (Rg Kf 32 g73 r73), (Ur q3 27 (C10 5 r70 r15 g73)), (Ur q2 27 (C1 0 0 0))]) rfl) fun _ => ?_
  refine sg (off := 4) rfl Try.underlying27 rfl info23 rfl ?_
  refine so (ox_store' (i := 2) (o := 4) rfl rfl (lv_vl rfl rfl) (ar rfl rfl rfl rfl) rfl info23 rfl (H' := [(Rg (Ki .i64) 3 g76 y3), (Rg Kf 32 g73 r73), (Ur q3 27 (C7 5 r70 r15 g73 g76)), (Ur q2 27 (C1 0 0 0))]) rfl) fun _ => ?_
  refine sg (off := 5) rfl Try.underlying27 rfl info24 rfl ?_
  refine so (ox_store' (i := 2) (o := 5) rfl rfl (lv_vl rfl rfl) (ar rfl rfl rfl rfl) rfl info24 rfl (H' := [(Rg (Ki .i64) 3 g76 y3), (Rg Kf 32 g73 r73), (Ur q3 27 (C7 5 r70 r15 g73 g76)), (Ur q2 27 (C1 0 0 0))]) rfl) fun _ => ?_
  refine nk hK7 ?_
  refine cr fun K8 hK8 => ?_
  refine s0 (rd_load_agg' (i := 2) (o := 0) (nn := 7) rfl (ar rfl rfl rfl rfl) rfl agg27 (l' := (C7 5 r70 r15 g73 g76)) rfl) ?_
  refine so (ox_store' (i := 3) (o := 0) rfl rfl (lv_ag _) (ar rfl rfl rfl rfl) rfl info27 rfl (H' := [(Rg (Ki .i64) 3 g76 y3), (Rg Kf 32 g73 r73), (Ur q3 27 (C7 5 r70 r15 g73 g76)), (Ur q2 27 (C7 5 r70 r15 g73 g76))]) rfl) fun _ => ?_
  refine nk hK8 ?_
  refine cx_retc' ?_
  replace hp := sj hp
  subst hp
  refine tx_fz' (frz_row 1 [(73, (Vw g73), (Sl Kf r73)), (84, (Ag (C7 5 r70 r15 g73 g76)), (Ag (C9 5 r70 r15 r73 g76)))] (K := Kf) (xs := r73) (by decide) rfl ⟨⟨rfl, frz_it⟩, ⟨rfl, fz_ag (fc f0 (fc f0 (fc f0 (fc fz0_it (fc f0 (fc f0 (fc f0 fz0_nil)))))))⟩, trivial⟩ (H' := [(Rg (Ki .i64) 3 g76 y3), (Ur q3 27 (C9 5 r70 r15 r73 g76)), (Ur q2 27 (C9 5 r70 r15 r73 g76))]) (fk (fh rfl rfl rfl (fl fs (fl fs (fl fs (fl frz_it (fl fs (fl fs (fl fs frzL_refl))))))) (fh rfl rfl rfl (fl fs (fl fs (fl fs (fl frz_it (fl fs (fl fs (fl fs frzL_refl))))))) frzH_refl)))) ?_
  refine tx_fz' (frz_row 0 [(76, (Vw g76), (Sl (Ki .i64) y3)), (84, (Ag (C9 5 r70 r15 r73 g76)), (Ag (C5 5 r70 r15 r73 y3)))] (K := (Ki .i64)) (xs := y3) (by decide) rfl ⟨⟨rfl, frz_it⟩, ⟨rfl, fz_ag (fc f0 (fc f0 (fc f0 (fc f0 (fc fz0_it (fc f0 (fc f0 fz0_nil)))))))⟩, trivial⟩ (H' := [(Ur q3 27 (C5 5 r70 r15 r73 y3)), (Ur q2 27 (C5 5 r70 r15 r73 y3))]) (fh rfl rfl rfl (fl fs (fl fs (fl fs (fl fs (fl frz_it (fl fs (fl fs frzL_refl))))))) (fh rfl rfl rfl (fl fs (fl fs (fl fs (fl fs (fl frz_it (fl fs (fl fs frzL_refl))))))) frzH_refl))) ?_
  refine tk (L' := [(2, (Vp q2))]) (H' := [(Ur q2 27 (C5 5 r70 r15 r73 y3))]) [1] (uc rfl un) (pc rfl pn) ?_
  exact tx_ret1' Try.results34 rfl () (rv_imp' (x := (Ag (C5 5 r70 r15 r73 y3))) (y := (Ag [(Vi 5), (Vi r70), (Vi r15), (Sl Kf r73), (Sl (Ki .i64) y3), (Sl (Kl (Ki .i64)) []), (Sl KT27 [])])) (rv_cell_agg' (i := 0) (o := 0) (nn := 7) rfl (ar rfl rfl rfl rfl) rfl agg27 rfl) (imp_ag ⟨imp_refl, imp_refl, imp_refl, imp_refl, imp_refl, imp_nil, imp_nil, trivial⟩)) (List.nil_sublist _)
 ·dsimp only at hp
  refine tx_slot' 0 (y := (If 76 (Pt (C11 a0_6a a0_6b a0_6c a0_6d a0_6e)))) rfl (imp_eq (SG53_c6 a0_6a a0_6b a0_6c a0_6d a0_6e)) ?_
  refine tx_slot' 14 (y := (If 76 (Pt (C11 a0_6a a0_6b a0_6c a0_6d a0_6e)))) rfl (imp_eq (SG53_c6 a0_6a a0_6b a0_6c a0_6d a0_6e)) ?_
  obtain ⟨r15, hr15, hp⟩ := bind_some hp
  refine so (oz (ent_inv' rfl rfl (inv_pt0 inv76_SRID)) (gogeom_geom0_SRID_v7_sim _ _ _ _ _ hr15)) fun ⟨⟩ => ?_
  refine sv (pls := [(0, 1), (1, 1), (2, 1), (3, 1), (4, 1), (5, 1), (6, 1)]) (qs := [(2, [(Vi r15)])]) (r := (C1 0 0 r15)) ⟨rfl, ⟨_, rfl, (lv_vl rfl rfl)⟩, trivial⟩ Try.underlying27 has27 places27 info27 rfl rfl rfl ?_
  refine so (ox_alloc' info27 rfl rfl rfl rfl (l := (C1 0 0 0)) rfl) fun q3 => ?_
  refine so (ox_store' (i := 0) (o := 0) rfl rfl (lv_ag _) (ar rfl rfl rfl rfl) rfl info27 rfl (H' := [(Ur q3 27 (C1 0 0 r15)), (Ur q2 27 (C1 0 0 0))]) rfl) fun _ => ?_
  refine nk hK2 ?_
  refine cx_seq' fun K3 hK3 => ?_
  refine cr fun K4 hK4 => ?_
  refine sm rfl ?_
  refine nk hK4 ?_
  refine cx_block' ?_
  refine cr fun K5 hK5 => ?_
  refine st rfl (F := fun _ => .tuple #[.pointer none, .bool false]) as76_53_72 as_no ?_
  iterate 2 refine se rfl rfl ?_
  refine nk hK5 ?_
  refine cx_cond_f' rfl rfl ?_
  refine cr fun K9 hK9 => ?_
  refine st rfl (F := fun _ => .tuple #[.pointer none, .bool false]) as76_53_75 as_no ?_
  iterate 2 refine se rfl rfl ?_
  refine nk hK9 ?_
  refine cx_cond_f' rfl rfl ?_
  refine cr fun K11 hK11 => ?_
  refine st rfl (F := fun _ => .tuple #[.pointer none, .bool false]) as76_53_69 as_no ?_
  iterate 2 refine se rfl rfl ?_
  refine nk hK11 ?_
  refine cx_cond_f' rfl rfl ?_
  refine cr fun K13 hK13 => ?_
  refine st rfl (F := fun _ => .tuple #[.pointer none, .bool false]) as76_53_67 as_no ?_
  iterate 2 refine se rfl rfl ?_
  refine nk hK13 ?_
  refine cx_cond_f' rfl rfl ?_
  refine cr fun K15 hK15 => ?_
  refine st rfl (F := fun _ => .tuple #[.pointer none, .bool false]) as76_53_70 as_no ?_
  iterate 2 refine se rfl rfl ?_
  refine nk hK15 ?_
  refine cx_cond_f' rfl rfl ?_
  refine cr fun K17 hK17 => ?_
  refine st rfl (F := fun _ => .tuple #[.pointer none, .bool false]) as76_53_73 as_no ?_
  iterate 2 refine se rfl rfl ?_
  refine nk hK17 ?_
  refine cx_cond_f' rfl rfl ?_
  refine cr fun K19 hK19 => ?_
  refine st rfl (F := fun v => .tuple #[v, .bool true]) as76_53_76k as_ok ?_
  iterate 2 refine se rfl rfl ?_
  refine nk hK19 ?_
  refine cx_cond_t' rfl rfl ?_
  refine cr fun K20 hK20 => ?_
  refine sa rfl ?_
  refine nk hK20 ?_
  refine cx_region' ?_
  refine sf rfl Try.underlying27 rfl info3 rfl ?_
  refine so (ox_store' (i := 0) (o := 0) rfl rfl (lv_vl rfl rfl) (ar rfl rfl rfl rfl) rfl info3 rfl (H' := [(Ur q3 27 (C1 6 0 r15)), (Ur q2 27 (C1 0 0 0))]) rfl) fun _ => ?_
  refine nk hK3 ?_
  refine cr fun K7 hK7 => ?_
  refine sm rfl ?_
  obtain ⟨r70, hr70, hp⟩ := bind_some hp
  refine so (oz (ent_inv' rfl rfl (inv_pt0 inv76_Layout)) (gogeom_geom0_Layout_v3_sim _ _ _ _ _ hr70)) fun ⟨⟩ => ?_
  refine sm rfl ?_
  obtain ⟨r72, hr72, hp⟩ := bind_some hp
  refine so (oz (ent_inv' rfl rfl (inv_pt0 inv76_FlatCoords)) (gogeom_geom0_FlatCoords_v7_sim _ _ _ _ _ hr72)) fun ⟨⟩ => ?_
  obtain ⟨r73, hr73, hp⟩ := bind_some hp
  refine so (ox_calln' (ent_fn' Try.func59 isn59 rfl rfl) (impl_floats_sim _ hr73 : Sx.Fn Try.prog 59 [(Sl Kf r72)] [] (fun x : Gs => (Vw x)) (fun x => [(Rg Kf 32 x r73)])) (Hn := fun x : Gs => [(Rg Kf 32 x r73), (Ur q3 27 (C1 6 0 r15)), (Ur q2 27 (C1 0 0 0))]) (fun _ => rfl) rfl rfl) fun g73 => ?_
  refine sm rfl ?_
  obtain ⟨r75, hr75, hp⟩ := bind_some hp
  refine so (oz (ent_inv' rfl rfl (inv_pt0 inv76_Ends)) (gogeom_geom0_Ends_v3_sim _ _ _ _ _ hr75)) fun ⟨⟩ => ?_
  obtain ⟨r76, hr76, hp⟩ := bind_some hp
  refine so (ox_calln' (ent_fn' Try.func58 isn58 rfl rfl) (impl_ints_v3_sim hr76 : Sx.Fn Try.prog 58 [Vn] [] (fun x : Gs => (Vw x)) (fun x => [(Rg (Ki .i64) 3 x r76)])) (Hn := fun x : Gs => [(Rg (Ki .i64) 3 x r76), (Rg Kf 32 g73 r73), (Ur q3 27 (C1 6 0 r15)), (Ur q2 27 (C1 0 0 0))]) (fun _ => rfl) rfl rfl) fun g76 => ?_
  refine sm rfl ?_
  obtain ⟨r78, hr78, hp⟩ := bind_some hp
  refine so (oz (ent_inv' rfl rfl (inv_pt0 inv76_Endss)) (gogeom_geom3_Endss_v2_sim _ _ _ _ _ hr78)) fun ⟨⟩ => ?_
  obtain ⟨r79, hr79, hp⟩ := bind_some hp
  refine so (ox_calln' (ent_fn' Try.func29 isn29 rfl rfl) (impl_intss_sim _ hr79 : Sx.Fn Try.prog 29 [(Sl (Kl (Ki .i64)) r78)] [] (fun x : Gs => (Vw x)) (fun x => [(Rg (Kl (Ki .i64)) 23 x r79)])) (Hn := fun x : Gs => [(Rg (Kl (Ki .i64)) 23 x r79), (Rg (Ki .i64) 3 g76 r76), (Rg Kf 32 g73 r73), (Ur q3 27 (C1 6 0 r15)), (Ur q2 27 (C1 0 0 0))]) (fun _ => rfl) rfl rfl) fun g79 => ?_
  refine sg (off := 1) rfl Try.underlying27 rfl info3 rfl ?_
  refine so (ox_store' (i := 3) (o := 1) rfl rfl (lv_vl rfl rfl) (ar rfl rfl rfl rfl) rfl info3 rfl (H' := [(Rg (Kl (Ki .i64)) 23 g79 r79), (Rg (Ki .i64) 3 g76 r76), (Rg Kf 32 g73 r73), (Ur q3 27 (C1 6 r70 r15)), (Ur q2 27 (C1 0 0 0))]) rfl) fun _ => ?_
  refine sg (off := 3) rfl Try.underlying27 rfl info22 rfl ?_
  refine so (ox_store' (i := 3) (o := 3) rfl rfl (lv_vl rfl rfl) (ar rfl rfl rfl rfl) rfl info22 rfl (H' := [(Rg (Kl (Ki .i64)) 23 g79 r79), (Rg (Ki .i64) 3 g76 r76), (Rg Kf 32 g73 r73), (Ur q3 27 (C10 6 r70 r15 g73)), (Ur q2 27 (C1 0 0 0))]) rfl) fun _ => ?_
  refine sg (off := 4) rfl Try.underlying27 rfl info23 rfl ?_
  refine so (ox_store' (i := 3) (o := 4) rfl rfl (lv_vl rfl rfl) (ar rfl rfl rfl rfl) rfl info23 rfl (H' := [(Rg (Kl (Ki .i64)) 23 g79 r79), (Rg (Ki .i64) 3 g76 r76), (Rg Kf 32 g73 r73), (Ur q3 27 (C7 6 r70 r15 g73 g76)), (Ur q2 27 (C1 0 0 0))]) rfl) fun _ => ?_
  refine sg (off := 5) rfl Try.underlying27 rfl info24 rfl ?_
  refine so (ox_store' (i := 3) (o := 5) rfl rfl (lv_vl rfl rfl) (ar rfl rfl rfl rfl) rfl info24 rfl (H' := [(Rg (Kl (Ki .i64)) 23 g79 r79), (Rg (Ki .i64) 3 g76 r76), (Rg Kf 32 g73 r73), (Ur q3 27 (C13 6 r70 r15 g73 g76 g79)), (Ur q2 27 (C1 0 0 0))]) rfl) fun _ => ?_
  refine nk hK7 ?_
  refine cr fun K8 hK8 => ?_
  refine s0 (rd_load_agg' (i := 3) (o := 0) (nn := 7) rfl (ar rfl rfl rfl rfl) rfl agg27 (l' := (C13 6 r70 r15 g73 g76 g79)) rfl) ?_
  refine so (ox_store' (i := 4) (o := 0) rfl rfl (lv_ag _) (ar rfl rfl rfl rfl) rfl info27 rfl (H' := [(Rg (Kl (Ki .i64)) 23 g79 r79), (Rg (Ki .i64) 3 g76 r76), (Rg Kf 32 g73 r73), (Ur q3 27 (C13 6 r70 r15 g73 g76 g79)), (Ur q2 27 (C13 6 r70 r15 g73 g76 g79))]) rfl) fun _ => ?_
  refine nk hK8 ?_
  refine cx_retc' ?_
  replace hp := sj hp
  subst hp
  refine tx_fz' (frz_row 2 [(73, (Vw g73), (Sl Kf r73)), (84, (Ag (C13 6 r70 r15 g73 g76 g79)), (Ag (C21 6 r70 r15 r73 g76 g79)))] (K := Kf) (xs := r73) (by decide) rfl ⟨⟨rfl, frz_it⟩, ⟨rfl, fz_ag (fc f0 (fc f0 (fc f0 (fc fz0_it (fc f0 (fc f0 (fc f0 fz0_nil)))))))⟩, trivial⟩ (H' := [(Rg (Kl (Ki .i64)) 23 g79 r79), (Rg (Ki .i64) 3 g76 r76), (Ur q3 27 (C21 6 r70 r15 r73 g76 g79)), (Ur q2 27 (C21 6 r70 r15 r73 g76 g79))]) (fk (fk (fh rfl rfl rfl (fl fs (fl fs (fl fs (fl frz_it (fl fs (fl fs (fl fs frzL_refl))))))) (fh rfl rfl rfl (fl fs (fl fs (fl fs (fl frz_it (fl fs (fl fs (fl fs frzL_refl))))))) frzH_refl))))) ?_
  refine tx_fz' (frz_row 1 [(76, (Vw g76), (Sl (Ki .i64) r76)), (84, (Ag (C21 6 r70 r15 r73 g76 g79)), (Ag (C17 6 r70 r15 r73 r76 g79)))] (K := (Ki .i64)) (xs := r76) (by decide) rfl ⟨⟨rfl, frz_it⟩, ⟨rfl, fz_ag (fc f0 (fc f0 (fc f0 (fc f0 (fc fz0_it (fc f0 (fc f0 fz0_nil)))))))⟩, trivial⟩ (H' := [(Rg (Kl (Ki .i64)) 23 g79 r79), (Ur q3 27 (C17 6 r70 r15 r73 r76 g79)), (Ur q2 27 (C17 6 r70 r15 r73 r76 g79))]) (fk (fh rfl rfl rfl (fl fs (fl fs (fl fs (fl fs (fl frz_it (fl fs (fl fs frzL_refl))))))) (fh rfl rfl rfl (fl fs (fl fs (fl fs (fl fs (fl frz_it (fl fs (fl fs frzL_refl))))))) frzH_refl)))) ?_
  refine tx_fz' (frz_row 0 [(79, (Vw g79), (Sl (Kl (Ki .i64)) r79)), (84, (Ag (C17 6 r70 r15 r73 r76 g79)), (Ag (C8 6 r70 r15 r73 r76 r79)))] (K := (Kl (Ki .i64))) (xs := r79) (by decide) rfl ⟨⟨rfl, frz_it⟩, ⟨rfl, fz_ag (fc f0 (fc f0 (fc f0 (fc f0 (fc f0 (fc fz0_it (fc f0 fz0_nil)))))))⟩, trivial⟩ (H' := [(Ur q3 27 (C8 6 r70 r15 r73 r76 r79)), (Ur q2 27 (C8 6 r70 r15 r73 r76 r79))]) (fh rfl rfl rfl (fl fs (fl fs (fl fs (fl fs (fl fs (fl frz_it (fl fs frzL_refl))))))) (fh rfl rfl rfl (fl fs (fl fs (fl fs (fl fs (fl fs (fl frz_it (fl fs frzL_refl))))))) frzH_refl))) ?_
  refine tk (L' := [(2, (Vp q2))]) (H' := [(Ur q2 27 (C8 6 r70 r15 r73 r76 r79))]) [1] (uc rfl un) (pc rfl pn) ?_
  exact tx_ret1' Try.results34 rfl () (rv_imp' (x := (Ag (C8 6 r70 r15 r73 r76 r79))) (y := (Ag [(Vi 6), (Vi r70), (Vi r15), (Sl Kf r73), (Sl (Ki .i64) r76), (Sl (Kl (Ki .i64)) r79), (Sl KT27 [])])) (rv_cell_agg' (i := 0) (o := 0) (nn := 7) rfl (ar rfl rfl rfl rfl) rfl agg27 rfl) (imp_ag ⟨imp_refl, imp_refl, imp_refl, imp_refl, imp_refl, imp_refl, imp_nil, trivial⟩)) (List.nil_sublist _)
 dsimp only at hp
 refine tx_slot' 0 (y := (If 57 (Pt (C14 a0_7a a0_7b a0_7c)))) rfl (imp_eq (SG53_c7 a0_7a a0_7b a0_7c)) ?_
 refine tx_slot' 14 (y := (If 57 (Pt (C14 a0_7a a0_7b a0_7c)))) rfl (imp_eq (SG53_c7 a0_7a a0_7b a0_7c)) ?_
 obtain ⟨r15, hr15, hp⟩ := bind_some hp
 refine so (oz (ent_inv' rfl rfl (inv_any0 inv57_SRID)) (gogeom_GeometryCollection_SRID_v2_sim _ _ _ hr15)) fun ⟨⟩ => ?_
 refine sv (pls := [(0, 1), (1, 1), (2, 1), (3, 1), (4, 1), (5, 1), (6, 1)]) (qs := [(2, [(Vi r15)])]) (r := (C1 0 0 r15)) ⟨rfl, ⟨_, rfl, (lv_vl rfl rfl)⟩, trivial⟩ Try.underlying27 has27 places27 info27 rfl rfl rfl ?_
 refine so (ox_alloc' info27 rfl rfl rfl rfl (l := (C1 0 0 0)) rfl) fun q3 => ?_
 refine so (ox_store' (i := 0) (o := 0) rfl rfl (lv_ag _) (ar rfl rfl rfl rfl) rfl info27 rfl (H' := [(Ur q3 27 (C1 0 0 r15)), (Ur q2 27 (C1 0 0 0))]) rfl) fun _ => ?_
 refine nk hK2 ?_
 refine cx_seq' fun K3 hK3 => ?_
 refine cr fun K4 hK4 => ?_
 refine sm rfl ?_
 refine nk hK4 ?_
 refine cx_block' ?_
 refine cr fun K5 hK5 => ?_
 refine st rfl (F := fun _ => .tuple #[.pointer none, .bool false]) as57_53_72 as_no ?_
 iterate 2 refine se rfl rfl ?_
 refine nk hK5 ?_
 refine cx_cond_f' rfl rfl ?_
 refine cr fun K9 hK9 => ?_
 refine st rfl (F := fun _ => .tuple #[.pointer none, .bool false]) as57_53_75 as_no ?_
 iterate 2 refine se rfl rfl ?_
 refine nk hK9 ?_
 refine cx_cond_f' rfl rfl ?_
 refine cr fun K11 hK11 => ?_
 refine st rfl (F := fun _ => .tuple #[.pointer none, .bool false]) as57_53_69 as_no ?_
 iterate 2 refine se rfl rfl ?_
 refine nk hK11 ?_
 refine cx_cond_f' rfl rfl ?_
 refine cr fun K13 hK13 => ?_
 refine st rfl (F := fun _ => .tuple #[.pointer none, .bool false]) as57_53_67 as_no ?_
 iterate 2 refine se rfl rfl ?_
 refine nk hK13 ?_
 refine cx_cond_f' rfl rfl ?_
 refine cr fun K15 hK15 => ?_
 refine st rfl (F := fun _ => .tuple #[.pointer none, .bool false]) as57_53_70 as_no ?_
 iterate 2 refine se rfl rfl ?_
 refine nk hK15 ?_
 refine cx_cond_f' rfl rfl ?_
 refine cr fun K17 hK17 => ?_
 refine st rfl (F := fun _ => .tuple #[.pointer none, .bool false]) as57_53_73 as_no ?_
 iterate 2 refine se rfl rfl ?_
 refine nk hK17 ?_
 refine cx_cond_f' rfl rfl ?_
 refine cr fun K19 hK19 => ?_
 refine st rfl (F := fun _ => .tuple #[.pointer none, .bool false]) as57_53_76 as_no ?_
 iterate 2 refine se rfl rfl ?_
 refine nk hK19 ?_
 refine cx_cond_f' rfl rfl ?_
 refine cr fun K21 hK21 => ?_
 refine st rfl (F := fun v => .tuple #[v, .bool true]) as57_53_57k as_ok ?_
 iterate 2 refine se rfl rfl ?_
 refine nk hK21 ?_
 refine cx_cond_t' rfl rfl ?_
 refine cr fun K22 hK22 => ?_
 refine sa rfl ?_
 refine nk hK22 ?_
 refine cr fun K23 hK23 => ?_
 refine sm rfl ?_
 obtain ⟨r50, hr50, hp⟩ := bind_some hp
 refine so (oz (ent_fn' Try.func80 isn80 rfl rfl) (gogeom_DoorLayout_v2_sim _ _ _ hr50)) fun ⟨⟩ => ?_
 refine sf rfl Try.underlying27 rfl info3 rfl ?_
 refine so (ox_store' (i := 0) (o := 0) rfl rfl (lv_vl rfl rfl) (ar rfl rfl rfl rfl) rfl info3 rfl (H' := [(Ur q3 27 (C1 7 0 r15)), (Ur q2 27 (C1 0 0 0))]) rfl) fun _ => ?_
 refine sg (off := 1) rfl Try.underlying27 rfl info3 rfl ?_
 refine so (ox_store' (i := 0) (o := 1) rfl rfl (lv_vl rfl rfl) (ar rfl rfl rfl rfl) rfl info3 rfl (H' := [(Ur q3 27 (C1 7 r50 r15)), (Ur q2 27 (C1 0 0 0))]) rfl) fun _ => ?_
 refine nk hK23 ?_
 refine cx_seq' fun K24 hK24 => ?_
 refine cr fun K25 hK25 => ?_
 refine sm rfl ?_
 obtain ⟨r54, hr54, hp⟩ := bind_some hp
 refine so (oz (ent_fn' Try.func81 isn81 rfl rfl) (gogeom_GeometryCollection_Geoms_v2_sim _ _ _ hr54)) fun ⟨⟩ => ?_
 refine sk rfl Try.underlying112 ?_
 refine sm rfl ?_
 refine nk hK25 ?_
 refine cx_block' ?_
 obtain ⟨v3, hy1, hp⟩ := bind_some hp
 refine tx_nilrow' KT27 27 ?_
 refine cx_loopg' (F := impl_plain_v6_l1 r54 recf) (G := fun k R v => impl_plain_v6_l1s r54 recf k R v.1 v.2) (x := ([], 0)) (gh := (none, 0, 0)) (fun (v2 : (List T27) × Int) (w2 : Gs) => (⟨85, [], [(2, (Vp q2)), (3, (Vp q3)), (54, (Sl KG53 r54)), (55, (Vi (r54.length : Int))), (56, (Vi v2.2))], [(Ur q2 27 (C1 0 0 0)), (Ur q3 27 (C20 7 r50 r15 w2)), (Rg KT27 27 w2 v2.1)]⟩ : St)) (fun (v3 : (List T27)) => Zg E (Exit.exit 1) (fun (w3 : Gs) => (⟨85, [], [(2, (Vp q2)), (3, (Vp q3))], [(Ur q2 27 (C1 0 0 0)), (Ur q3 27 (C20 7 r50 r15 w3)), (Rg KT27 27 w3 v3)]⟩ : St))) (fun _ => rfl) (fun _ _ => rfl) ?_ hy1 (tx_to' rfl [2, 1, 0] (u5 rfl rfl rfl rfl rfl) (by decide) (p3 rfl rfl rfl)) ?_
 ·clear hp hy1
  clear v3
  intro k rec1 KY1 ih1
  rintro ⟨x7, x8⟩ g901 y6 hp
  replace hp : impl_plain_v6_l1s r54 recf k rec1 x7 x8 = some y6 := hp
  unfold impl_plain_v6_l1s at hp
  refine cr fun K31 hK31 => ?_
  refine sb rfl rfl eg_int ru_lss ?_
  refine nk hK31 ?_
  refine cx_seq' fun K32 hK32 => ?_
  refine cx_cond' rfl (fun h3 => ?_) (fun h3 => ?_)
  ·replace hp := (br_t h3).symm.trans hp
   refine cx_skip' ?_
   show TX E K32 _
   refine tx_k' hK32 ?_
   refine cx_seq' fun K33 hK33 => ?_
   refine cx_block' ?_
   refine cr fun K34 hK34 => ?_
   obtain ⟨r58, hr58, hp⟩ := bind_some hp
   refine s0 (rd_at' (K := KG53) rfl rfl hr58 Try.underlying112 info53) ?_
   refine s0 (rd_load_pt' rfl rfl flat53) ?_
   refine sa rfl ?_
   refine nk hK34 ?_
   refine cx_plan' [] [(5, 1), (7, 1)] [(0, 1), (1, 1), (2, 1), (3, 0), (4, 0), (5, 0), (6, 1), (7, 0)] mixed (by kernel_rfl) ?_
   refine pd rfl (rd_field' (off := 6) rfl Try.underlying27 rfl info25 rfl) ?_
   refine pd rfl (rd_load' (i := 1) (o := 6) rfl (ar rfl rfl rfl rfl) rfl flat25) ?_
   refine pd rfl (rd_move' rfl) ?_
   obtain ⟨r63, hr63, hp⟩ := bind_some hp
   refine px_ox' rfl (oz (ent_fn' Try.func34 isn34 rfl rfl) (hrec _ _ hr63)) rfl bs_nil (wt_none' rfl) fun ⟨⟩ => ?_
   refine px_ox' rfl (ox_rowlit' (K := KT27) (xs := [(T27.mk r63.1 r63.2.1 r63.2.2.1 r63.2.2.2.1 r63.2.2.2.2.1 r63.2.2.2.2.2.1 r63.2.2.2.2.2.2)]) (qs := [(0, (C0 r63.1 r63.2.1 r63.2.2.1 r63.2.2.2.1 r63.2.2.2.2.1 r63.2.2.2.2.2.1 r63.2.2.2.2.2.2))]) ⟨rfl, ⟨_, rfl, (lv_ag _)⟩, trivial⟩ Try.underlying25 info27 rfl rfl rfl rfl rfl (by simp only [List.flatMap_cons, List.flatMap_nil, KT27_enc, List.append_nil]; kernel_rfl) rfl rfl rfl) rfl bs_nil (wt_none' rfl) fun g64 => ?_
   obtain ⟨r65, hr65, hp⟩ := bind_some hp
   refine px_ox' rfl (ox_append' (K := KT27) (i := 3) (xs := x7) (ys := ([(T27.mk r63.1 r63.2.1 r63.2.2.1 r63.2.2.2.1 r63.2.2.2.2.1 r63.2.2.2.2.2.1 r63.2.2.2.2.2.2)])) rfl rfl rfl (sr_row' (j := 0) rfl rfl rfl Try.underlying25) hr65 Try.underlying25 info27 rfl rfl rfl (H' := [(Rg KT27 27 g64 ([(T27.mk r63.1 r63.2.1 r63.2.2.1 r63.2.2.2.1 r63.2.2.2.2.1 r63.2.2.2.2.2.1 r63.2.2.2.2.2.2)])), (Ur q2 27 (C1 0 0 0)), (Ur q3 27 (C20 7 r50 r15 g901))]) rfl) rfl bs_nil (wt_none' rfl) fun g65 => ?_
   refine pd rfl (rd_field' (off := 6) rfl Try.underlying27 rfl info25 rfl) ?_
   refine px_oxv' rfl (oxv_store (i := 3) (o := 6) rfl rfl (lv_vl rfl rfl) (ar rfl rfl rfl rfl) rfl info25 rfl (H' := [(Rg KT27 27 g65 r65), (Rg KT27 27 g64 ([(T27.mk r63.1 r63.2.1 r63.2.2.1 r63.2.2.2.1 r63.2.2.2.2.1 r63.2.2.2.2.2.1 r63.2.2.2.2.2.2)])), (Ur q2 27 (C1 0 0 0)), (Ur q3 27 (C20 7 r50 r15 g65))]) rfl) rfl rfl bo_nil (wt_none' rfl) fun _ => ?_
   refine px_nil' ?_
   show TX E K33 _
   refine tx_k' hK33 ?_
   refine cx_region' ?_
   refine sb rfl rfl eg_int ru_add ?_
   refine sm rfl ?_
   refine sx_nil' ?_
   show TX E (KY1 _) _
   exact tk [2, 3, 0] (u5 rfl rfl rfl rfl rfl) (p3 rfl rfl rfl) (ih1 (r65, (iadd .i64 x8 1)) g65 _ hp)
  replace hp := (br_f h3).symm.trans hp
  refine cx_exit' ?_
  replace hp := sj hp
  subst hp
  show TX E (Zg E (Exit.exit 1) _ (Exit.exit 1)) _
  exact tx_zend' g901 rfl [0, 1, 2] (u2 rfl rfl) (by decide) (p3 rfl rfl rfl)
 refine zg_out fun w3 => ?_
 show TX E K24 _
 refine tx_k' hK24 ?_
 refine cr fun K30 hK30 => ?_
 refine s0 (rd_load_agg' (i := 1) (o := 0) (nn := 7) rfl (ar rfl rfl rfl rfl) rfl agg27 (l' := (C20 7 r50 r15 w3)) rfl) ?_
 refine so (ox_store' (i := 0) (o := 0) rfl rfl (lv_ag _) (ar rfl rfl rfl rfl) rfl info27 rfl (H' := [(Ur q2 27 (C20 7 r50 r15 w3)), (Ur q3 27 (C20 7 r50 r15 w3)), (Rg KT27 27 w3 v3)]) rfl) fun _ => ?_
 refine nk hK30 ?_
 refine cx_retc' ?_
 replace hp := sj hp
 subst hp
 refine tx_fz' (frz_row 2 [(68, (Ag (C20 7 r50 r15 w3)), (Ag (C18 7 r50 r15 v3)))] (K := KT27) (xs := v3) (by decide) rfl ⟨⟨rfl, fz_ag (fc f0 (fc f0 (fc f0 (fc f0 (fc f0 (fc f0 (fc fz0_it fz0_nil)))))))⟩, trivial⟩ (H' := [(Ur q2 27 (C18 7 r50 r15 v3)), (Ur q3 27 (C18 7 r50 r15 v3))]) (fh rfl rfl rfl (fl fs (fl fs (fl fs (fl fs (fl fs (fl fs (fl frz_it frzL_refl))))))) (fh rfl rfl rfl (fl fs (fl fs (fl fs (fl fs (fl fs (fl fs (fl frz_it frzL_refl))))))) frzH_refl))) ?_
 refine tk (L' := [(2, (Vp q2))]) (H' := [(Ur q2 27 (C18 7 r50 r15 v3))]) [0] (uc rfl un) (pc rfl pn) ?_
 exact tx_ret1' Try.results34 rfl () (rv_imp' (x := (Ag (C18 7 r50 r15 v3))) (y := (Ag [(Vi 7), (Vi r50), (Vi r15), (Sl Kf []), (Sl (Ki .i64) []), (Sl (Kl (Ki .i64)) []), (Sl KT27 v3)])) (rv_cell_agg' (i := 0) (o := 0) (nn := 7) rfl (ar rfl rfl rfl rfl) rfl agg27 rfl) (imp_ag ⟨imp_refl, imp_refl, imp_refl, imp_nil, imp_nil, imp_nil, imp_refl, trivial⟩)) (List.nil_sublist _)
theorem impl_plain_v6_simA : ∀ (k : Nat)  (a0 : G53) (out : Int × Int × Int × (List Nat) × (List Int) × (List (List Int)) × (List T27)), impl_plain_v6 k a0 = some out → Sx.Fn Try.prog 34 [(SG53 a0)] [] (fun w : Unit => (Ag (C0 out.1 out.2.1 out.2.2.1 out.2.2.2.1 out.2.2.2.2.1 out.2.2.2.2.2.1 out.2.2.2.2.2.2))) (fun w => []) := by
 intro k
 induction k with
 | zero => intro a0 out hp; cases hp
 | succ k ih => intro a0 out hp; exact impl_plain_v6_b_sim ih a0 hp
theorem impl_plain_v6_sim {k : Nat}  (a0 : G53) {out : Int × Int × Int × (List Nat) × (List Int) × (List (List Int)) × (List T27)} (hp : impl_plain_v6 k a0 = some out) : Sx.Fn Try.prog 34 [(SG53 a0)] [] (fun w : Unit => (Ag (C0 out.1 out.2.1 out.2.2.1 out.2.2.2.1 out.2.2.2.2.1 out.2.2.2.2.2.1 out.2.2.2.2.2.2))) (fun w => []) := impl_plain_v6_simA k a0 out hp

def impl_plain_v5_l1s (r54 : Int × (List G53) × Int) (k : Nat) (rec1 : ((List T27) × Int) → Option ((List T27))) (x1 : List T27) (x2 : Int) : Option ((List T27)) :=
 br (decide (x2 < (r54.2.1.length : Int)))
  ((idx r54.2.1 x2) >>= fun r58 =>
  (impl_plain_v6 k r58) >>= fun r63 =>
  (apd 120 x1 ([(T27.mk r63.1 r63.2.1 r63.2.2.1 r63.2.2.2.1 r63.2.2.2.2.1 r63.2.2.2.2.2.1 r63.2.2.2.2.2.2)])) >>= fun r65 =>
  rec1 (r65, (iadd .i64 x2 1)))
  (some x1)
def impl_plain_v5_l1 (r54 : Int × (List G53) × Int) : Nat → ((List T27) × Int) → Option ((List T27))
 | 0, _ => none
 | k + 1, v => impl_plain_v5_l1s r54 k (impl_plain_v5_l1 r54 k) v.1 v.2
def impl_plain_v5 (k : Nat) (a0_0 : Int) (a0_1 : List G53) (a0_2 : Int) : Option (Int × (List G53) × Int × Int × Int × Int × (List T27)) :=
 (gogeom_GeometryCollection_SRID k a0_0 a0_1 a0_2) >>= fun r15 =>
 (gogeom_DoorLayout k r15.1 r15.2.1 r15.2.2) >>= fun r50 =>
 (gogeom_GeometryCollection_Geoms k r50.1 r50.2.1 r50.2.2) >>= fun r54 =>
 (impl_plain_v5_l1 r54 k ([], 0)) >>= fun v2 =>
 some (r54.1, r54.2.1, r54.2.2, 7, r50.1, r15.2.2, v2)

theorem impl_plain_v5_sim {k : Nat} {wa0 : Addr} {wa0_1 : Gs} (a0_0 : Int) (a0_1 : List G53) (a0_2 : Int) {out : Int × (List G53) × Int × Int × Int × Int × (List T27)} (hp : impl_plain_v5 k a0_0 a0_1 a0_2 = some out) : Sx.Fn Try.prog 34 [(If 57 (Vp wa0))] [(Ur wa0 114 (C4 a0_0 wa0_1 a0_2)), (Rg KG53 53 wa0_1 a0_1)] (fun w : Unit => (Ag (C18 out.2.2.2.1 out.2.2.2.2.1 out.2.2.2.2.2.1 out.2.2.2.2.2.2))) (fun w => [(Ur wa0 114 (C14 out.1 out.2.1 out.2.2.1))]) := by
 unfold impl_plain_v5 at hp
 refine fn_of Try.func34 rfl Try.ntmps34 rfl fun E hM => ?_
 refine cr fun K1 hK1 => ?_
 refine so (ox_alloc' info27 rfl rfl rfl rfl (l := (C1 0 0 0)) rfl) fun q2 => ?_
 refine nk hK1 ?_
 refine cr fun K2 hK2 => ?_
 refine sm rfl ?_
 obtain ⟨r15, hr15, hp⟩ := bind_some hp
 refine so (ox_callg' (ent_inv' rfl rfl (inv_any0 inv57_SRID)) (gogeom_GeometryCollection_SRID_sim _ _ _ hr15 : Sx.Fn Try.prog 126 [(Vp wa0)] [(Ur wa0 114 (C4 a0_0 wa0_1 a0_2)), (Rg KG53 53 wa0_1 a0_1)] (fun x : Unit => (Vi r15.2.2)) (fun x => [(Ur wa0 114 (C4 r15.1 wa0_1 r15.2.2)), (Rg KG53 53 wa0_1 r15.2.1)])) [1, 2] [0] (by decide) (p2 rfl rfl) (pc rfl pn) (Hn := fun x : Unit => [(Ur wa0 114 (C4 r15.1 wa0_1 r15.2.2)), (Rg KG53 53 wa0_1 r15.2.1), (Ur q2 27 (C1 0 0 0))]) (fun _ => rfl) rfl rfl) fun ⟨⟩ => ?_
 refine sv (pls := [(0, 1), (1, 1), (2, 1), (3, 1), (4, 1), (5, 1), (6, 1)]) (qs := [(2, [(Vi r15.2.2)])]) (r := (C1 0 0 r15.2.2)) ⟨rfl, ⟨_, rfl, (lv_vl rfl rfl)⟩, trivial⟩ Try.underlying27 has27 places27 info27 rfl rfl rfl ?_
 refine so (ox_alloc' info27 rfl rfl rfl rfl (l := (C1 0 0 0)) rfl) fun q3 => ?_
 refine so (ox_store' (i := 0) (o := 0) rfl rfl (lv_ag _) (ar rfl rfl rfl rfl) rfl info27 rfl (H' := [(Ur q3 27 (C1 0 0 r15.2.2)), (Ur wa0 114 (C4 r15.1 wa0_1 r15.2.2)), (Rg KG53 53 wa0_1 r15.2.1), (Ur q2 27 (C1 0 0 0))]) rfl) fun _ => ?_
 refine nk hK2 ?_
 refine cx_seq' fun K3 hK3 => ?_
 refine cr fun K4 hK4 => ?_
 refine sm rfl ?_
 refine nk hK4 ?_
 refine cx_block' ?_
 refine cr fun K5 hK5 => ?_
 refine st rfl (F := fun _ => .tuple #[.pointer none, .bool false]) as57_53_72 as_no ?_
 iterate 2 refine se rfl rfl ?_
 refine nk hK5 ?_
 refine cx_cond_f' rfl rfl ?_
 refine cr fun K6 hK6 => ?_
 refine st rfl (F := fun _ => .tuple #[.pointer none, .bool false]) as57_53_75 as_no ?_
 iterate 2 refine se rfl rfl ?_
 refine nk hK6 ?_
 refine cx_cond_f' rfl rfl ?_
 refine cr fun K7 hK7 => ?_
 refine st rfl (F := fun _ => .tuple #[.pointer none, .bool false]) as57_53_69 as_no ?_
 iterate 2 refine se rfl rfl ?_
 refine nk hK7 ?_
 refine cx_cond_f' rfl rfl ?_
 refine cr fun K8 hK8 => ?_
 refine st rfl (F := fun _ => .tuple #[.pointer none, .bool false]) as57_53_67 as_no ?_
 iterate 2 refine se rfl rfl ?_
 refine nk hK8 ?_
 refine cx_cond_f' rfl rfl ?_
 refine cr fun K9 hK9 => ?_
 refine st rfl (F := fun _ => .tuple #[.pointer none, .bool false]) as57_53_70 as_no ?_
 iterate 2 refine se rfl rfl ?_
 refine nk hK9 ?_
 refine cx_cond_f' rfl rfl ?_
 refine cr fun K10 hK10 => ?_
 refine st rfl (F := fun _ => .tuple #[.pointer none, .bool false]) as57_53_73 as_no ?_
 iterate 2 refine se rfl rfl ?_
 refine nk hK10 ?_
 refine cx_cond_f' rfl rfl ?_
 refine cr fun K11 hK11 => ?_
 refine st rfl (F := fun _ => .tuple #[.pointer none, .bool false]) as57_53_76 as_no ?_
 iterate 2 refine se rfl rfl ?_
 refine nk hK11 ?_
 refine cx_cond_f' rfl rfl ?_
 refine cr fun K12 hK12 => ?_
 refine st rfl (F := fun v => .tuple #[v, .bool true]) as57_53_57k as_ok ?_
 iterate 2 refine se rfl rfl ?_
 refine nk hK12 ?_
 refine cx_cond_t' rfl rfl ?_
 refine cr fun K13 hK13 => ?_
 refine sa rfl ?_
 refine nk hK13 ?_
 refine cr fun K14 hK14 => ?_
 refine sm rfl ?_
 obtain ⟨r50, hr50, hp⟩ := bind_some hp
 refine so (ox_callg' (ent_fn' Try.func80 isn80 rfl rfl) (gogeom_DoorLayout_sim _ _ _ hr50 : Sx.Fn Try.prog 80 [(Vp wa0)] [(Ur wa0 114 (C4 r15.1 wa0_1 r15.2.2)), (Rg KG53 53 wa0_1 r15.2.1)] (fun x : Unit => (Vi r50.1)) (fun x => [(Ur wa0 114 (C4 r50.1 wa0_1 r50.2.2)), (Rg KG53 53 wa0_1 r50.2.1)])) [1, 2] [0, 3] (by decide) (p2 rfl rfl) (p2 rfl rfl) (Hn := fun x : Unit => [(Ur wa0 114 (C4 r50.1 wa0_1 r50.2.2)), (Rg KG53 53 wa0_1 r50.2.1), (Ur q3 27 (C1 0 0 r15.2.2)), (Ur q2 27 (C1 0 0 0))]) (fun _ => rfl) rfl rfl) fun ⟨⟩ => ?_
 refine sf rfl Try.underlying27 rfl info3 rfl ?_
 refine so (ox_store' (i := 2) (o := 0) rfl rfl (lv_vl rfl rfl) (ar rfl rfl rfl rfl) rfl info3 rfl (H' := [(Ur wa0 114 (C4 r50.1 wa0_1 r50.2.2)), (Rg KG53 53 wa0_1 r50.2.1), (Ur q3 27 (C1 7 0 r15.2.2)), (Ur q2 27 (C1 0 0 0))]) rfl) fun _ => ?_
 refine sg (off := 1) rfl Try.underlying27 rfl info3 rfl ?_
 refine so (ox_store' (i := 2) (o := 1) rfl rfl (lv_vl rfl rfl) (ar rfl rfl rfl rfl) rfl info3 rfl (H' := [(Ur wa0 114 (C4 r50.1 wa0_1 r50.2.2)), (Rg KG53 53 wa0_1 r50.2.1), (Ur q3 27 (C1 7 r50.1 r15.2.2)), (Ur q2 27 (C1 0 0 0))]) rfl) fun _ => ?_
 refine nk hK14 ?_
 refine cx_seq' fun K15 hK15 => ?_
 refine cr fun K16 hK16 => ?_
 refine sm rfl ?_
 obtain ⟨r54, hr54, hp⟩ := bind_some hp
 refine so (ox_callg' (ent_fn' Try.func81 isn81 rfl rfl) (gogeom_GeometryCollection_Geoms_sim _ _ _ hr54 : Sx.Fn Try.prog 81 [(Vp wa0)] [(Ur wa0 114 (C4 r50.1 wa0_1 r50.2.2)), (Rg KG53 53 wa0_1 r50.2.1)] (fun x : Unit => (Sl KG53 r54.2.1)) (fun x => [(Ur wa0 114 (C14 r54.1 r54.2.1 r54.2.2))])) [0, 1] [2, 3] (by decide) (p2 rfl rfl) (p2 rfl rfl) (Hn := fun x : Unit => [(Ur wa0 114 (C14 r54.1 r54.2.1 r54.2.2)), (Ur q3 27 (C1 7 r50.1 r15.2.2)), (Ur q2 27 (C1 0 0 0))]) (fun _ => rfl) rfl rfl) fun ⟨⟩ => ?_
 refine sk rfl Try.underlying112 ?_
 refine sm rfl ?_
 refine nk hK16 ?_
 refine cx_block' ?_
 obtain ⟨v2, hy1, hp⟩ := bind_some hp
 refine tx_nilrow' KT27 27 ?_
 refine cx_loopg' (F := impl_plain_v5_l1 r54) (G := fun k R v => impl_plain_v5_l1s r54 k R v.1 v.2) (x := ([], 0)) (gh := (none, 0, 0)) (fun (v1 : (List T27) × Int) (w1 : Gs) => (⟨85, [], [(2, (Vp q2)), (3, (Vp q3)), (54, (Sl KG53 r54.2.1)), (55, (Vi (r54.2.1.length : Int))), (56, (Vi v1.2))], [(Ur q2 27 (C1 0 0 0)), (Ur q3 27 (C20 7 r50.1 r15.2.2 w1)), (Rg KT27 27 w1 v1.1), (Ur wa0 114 (C14 r54.1 r54.2.1 r54.2.2))]⟩ : St)) (fun (v2 : (List T27)) => Zg E (Exit.exit 1) (fun (w2 : Gs) => (⟨85, [], [(2, (Vp q2)), (3, (Vp q3))], [(Ur q2 27 (C1 0 0 0)), (Ur q3 27 (C20 7 r50.1 r15.2.2 w2)), (Rg KT27 27 w2 v2), (Ur wa0 114 (C14 r54.1 r54.2.1 r54.2.2))]⟩ : St))) (fun _ => rfl) (fun _ _ => rfl) ?_ hy1 (tx_to' rfl [3, 2, 0, 1] (u5 rfl rfl rfl rfl rfl) (by decide) (p4 rfl rfl rfl rfl)) ?_
 ·clear hp hy1
  clear v2
  intro k rec1 KY1 ih1
  rintro ⟨x1, x2⟩ g901 y1 hp
  replace hp : impl_plain_v5_l1s r54 k rec1 x1 x2 = some y1 := hp
  unfold impl_plain_v5_l1s at hp
  refine cr fun K21 hK21 => ?_
  refine sb rfl rfl eg_int ru_lss ?_
  refine nk hK21 ?_
  refine cx_seq' fun K22 hK22 => ?_
  refine cx_cond' rfl (fun h3 => ?_) (fun h3 => ?_)
  ·replace hp := (br_t h3).symm.trans hp
   refine cx_skip' ?_
   show TX E K22 _
   refine tx_k' hK22 ?_
   refine cx_seq' fun K23 hK23 => ?_
   refine cx_block' ?_
   refine cr fun K24 hK24 => ?_
   obtain ⟨r58, hr58, hp⟩ := bind_some hp
   refine s0 (rd_at' (K := KG53) rfl rfl hr58 Try.underlying112 info53) ?_
   refine s0 (rd_load_pt' rfl rfl flat53) ?_
   refine sa rfl ?_
   refine nk hK24 ?_
   refine cx_plan' [] [(5, 1), (7, 1)] [(0, 1), (1, 1), (2, 1), (3, 0), (4, 0), (5, 0), (6, 1), (7, 0)] mixed (by kernel_rfl) ?_
   refine pd rfl (rd_field' (off := 6) rfl Try.underlying27 rfl info25 rfl) ?_
   refine pd rfl (rd_load' (i := 1) (o := 6) rfl (ar rfl rfl rfl rfl) rfl flat25) ?_
   refine pd rfl (rd_move' rfl) ?_
   obtain ⟨r63, hr63, hp⟩ := bind_some hp
   refine px_ox' rfl (oz (ent_fn' Try.func34 isn34 rfl rfl) (impl_plain_v6_sim _ hr63)) rfl bs_nil (wt_none' rfl) fun ⟨⟩ => ?_
   refine px_ox' rfl (ox_rowlit' (K := KT27) (xs := [(T27.mk r63.1 r63.2.1 r63.2.2.1 r63.2.2.2.1 r63.2.2.2.2.1 r63.2.2.2.2.2.1 r63.2.2.2.2.2.2)]) (qs := [(0, (C0 r63.1 r63.2.1 r63.2.2.1 r63.2.2.2.1 r63.2.2.2.2.1 r63.2.2.2.2.2.1 r63.2.2.2.2.2.2))]) ⟨rfl, ⟨_, rfl, (lv_ag _)⟩, trivial⟩ Try.underlying25 info27 rfl rfl rfl rfl rfl (by simp only [List.flatMap_cons, List.flatMap_nil, KT27_enc, List.append_nil]; kernel_rfl) rfl rfl rfl) rfl bs_nil (wt_none' rfl) fun g64 => ?_
   obtain ⟨r65, hr65, hp⟩ := bind_some hp
   refine px_ox' rfl (ox_append' (K := KT27) (i := 3) (xs := x1) (ys := ([(T27.mk r63.1 r63.2.1 r63.2.2.1 r63.2.2.2.1 r63.2.2.2.2.1 r63.2.2.2.2.2.1 r63.2.2.2.2.2.2)])) rfl rfl rfl (sr_row' (j := 0) rfl rfl rfl Try.underlying25) hr65 Try.underlying25 info27 rfl rfl rfl (H' := [(Rg KT27 27 g64 ([(T27.mk r63.1 r63.2.1 r63.2.2.1 r63.2.2.2.1 r63.2.2.2.2.1 r63.2.2.2.2.2.1 r63.2.2.2.2.2.2)])), (Ur q2 27 (C1 0 0 0)), (Ur q3 27 (C20 7 r50.1 r15.2.2 g901)), (Ur wa0 114 (C14 r54.1 r54.2.1 r54.2.2))]) rfl) rfl bs_nil (wt_none' rfl) fun g65 => ?_
   refine pd rfl (rd_field' (off := 6) rfl Try.underlying27 rfl info25 rfl) ?_
   refine px_oxv' rfl (oxv_store (i := 3) (o := 6) rfl rfl (lv_vl rfl rfl) (ar rfl rfl rfl rfl) rfl info25 rfl (H' := [(Rg KT27 27 g65 r65), (Rg KT27 27 g64 ([(T27.mk r63.1 r63.2.1 r63.2.2.1 r63.2.2.2.1 r63.2.2.2.2.1 r63.2.2.2.2.2.1 r63.2.2.2.2.2.2)])), (Ur q2 27 (C1 0 0 0)), (Ur q3 27 (C20 7 r50.1 r15.2.2 g65)), (Ur wa0 114 (C14 r54.1 r54.2.1 r54.2.2))]) rfl) rfl rfl bo_nil (wt_none' rfl) fun _ => ?_
   refine px_nil' ?_
   show TX E K23 _
   refine tx_k' hK23 ?_
   refine cx_region' ?_
   refine sb rfl rfl eg_int ru_add ?_
   refine sm rfl ?_
   refine sx_nil' ?_
   show TX E (KY1 _) _
   exact tk [2, 3, 0, 4] (u5 rfl rfl rfl rfl rfl) (p4 rfl rfl rfl rfl) (ih1 (r65, (iadd .i64 x2 1)) g65 _ hp)
  replace hp := (br_f h3).symm.trans hp
  refine cx_exit' ?_
  replace hp := sj hp
  subst hp
  show TX E (Zg E (Exit.exit 1) _ (Exit.exit 1)) _
  exact tx_zend' g901 rfl [0, 1, 2, 3] (u2 rfl rfl) (by decide) (p4 rfl rfl rfl rfl)
 refine zg_out fun w2 => ?_
 show TX E K15 _
 refine tx_k' hK15 ?_
 refine cr fun K25 hK25 => ?_
 refine s0 (rd_load_agg' (i := 1) (o := 0) (nn := 7) rfl (ar rfl rfl rfl rfl) rfl agg27 (l' := (C20 7 r50.1 r15.2.2 w2)) rfl) ?_
 refine so (ox_store' (i := 0) (o := 0) rfl rfl (lv_ag _) (ar rfl rfl rfl rfl) rfl info27 rfl (H' := [(Ur q2 27 (C20 7 r50.1 r15.2.2 w2)), (Ur q3 27 (C20 7 r50.1 r15.2.2 w2)), (Rg KT27 27 w2 v2), (Ur wa0 114 (C14 r54.1 r54.2.1 r54.2.2))]) rfl) fun _ => ?_
 refine nk hK25 ?_
 refine cx_retc' ?_
 replace hp := sj hp
 subst hp
 refine tx_fz' (frz_row 2 [(68, (Ag (C20 7 r50.1 r15.2.2 w2)), (Ag (C18 7 r50.1 r15.2.2 v2)))] (K := KT27) (xs := v2) (by decide) rfl ⟨⟨rfl, fz_ag (fc f0 (fc f0 (fc f0 (fc f0 (fc f0 (fc f0 (fc fz0_it fz0_nil)))))))⟩, trivial⟩ (H' := [(Ur q2 27 (C18 7 r50.1 r15.2.2 v2)), (Ur q3 27 (C18 7 r50.1 r15.2.2 v2)), (Ur wa0 114 (C14 r54.1 r54.2.1 r54.2.2))]) (fh rfl rfl rfl (fl fs (fl fs (fl fs (fl fs (fl fs (fl fs (fl frz_it frzL_refl))))))) (fh rfl rfl rfl (fl fs (fl fs (fl fs (fl fs (fl fs (fl fs (fl frz_it frzL_refl))))))) (fk frzH_refl)))) ?_
 refine tk (L' := [(2, (Vp q2))]) (H' := [(Ur wa0 114 (C14 r54.1 r54.2.1 r54.2.2)), (Ur q2 27 (C18 7 r50.1 r15.2.2 v2))]) [2, 0] (uc rfl un) (p2 rfl rfl) ?_
 exact tx_ret1' Try.results34 rfl () (rv_cell_agg' (i := 1) (o := 0) (nn := 7) rfl (ar rfl rfl rfl rfl) rfl agg27 rfl) (List.Sublist.cons_cons _ (List.nil_sublist _))

end Go.Proofs.Ytmagcmeknclljaa
