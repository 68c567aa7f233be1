/-
  Plain functions for the Go functions that this law reaches, and that each call does what its plain function says. Printed by a program of ours.
-/
import Derived.Test.YtmagcmeknclljaaProg
import Derived.Test.YtmagcmeknclljaaSxX
import Derived.Test.YtmagcmeknclljaaFun3
namespace Go.Proofs.Ytmagcmeknclljaa
open Go.Sx
set_option linter.unusedVariables false
set_option linter.unusedSimpArgs false
set_option maxRecDepth 100000

def impl_Push_j1a (k : Nat) (x1 x2 x3 : Int) (x4 : List Nat) (x5 : Int) (x6 : List Int) : Option (Int × Int × Int × (List Nat) × (List Int) × (List (List Int)) × (List T27) × Bool) :=
 some (0, 0, 0, [], [], [], [], false)
def impl_Push_j1b (k : Nat) (x7 x8 : Int) (x9 : List Nat) (x10 : Int) (x11 : List Int) : Option (Int × Int × Int × (List Nat) × (List Int) × (List (List Int)) × (List T27) × Bool) :=
 (impl_plain k x7 x8 x9 x10 x11) >>= fun r63 =>
 some (r63.2.2.2.2.2.1, r63.2.2.2.2.2.2.1, r63.2.2.2.2.2.2.2.1, r63.2.2.2.2.2.2.2.2.1, r63.2.2.2.2.2.2.2.2.2, [], [], true)
def impl_Push_j2a (k : Nat) (x12 x13 x14 : Int) (x15 : List Nat) (x16 : Int) (x17 : List Int) : Option (Int × Int × Int × (List Nat) × (List Int) × (List (List Int)) × (List T27) × Bool) :=
 some (0, 0, 0, [], [], [], [], false)
def impl_Push_j2b (k : Nat) (x18 x19 : Int) (x20 : List Nat) (x21 : Int) (x22 : List Int) : Option (Int × Int × Int × (List Nat) × (List Int) × (List (List Int)) × (List T27) × Bool) :=
 (impl_plain_v2 k x18 x19 x20 x21 x22) >>= fun r63 =>
 some (r63.2.2.2.2.2.1, r63.2.2.2.2.2.2.1, r63.2.2.2.2.2.2.2.1, r63.2.2.2.2.2.2.2.2.1, r63.2.2.2.2.2.2.2.2.2, [], [], true)
def impl_Push_j3a (k : Nat) (x23 x24 x25 : Int) (x26 : List Nat) (x27 : Int) (x28 : List Int) : Option (Int × Int × Int × (List Nat) × (List Int) × (List (List Int)) × (List T27) × Bool) :=
 some (0, 0, 0, [], [], [], [], false)
def impl_Push_j3b (k : Nat) (x29 x30 : Int) (x31 : List Nat) (x32 : Int) (x33 : List Int) : Option (Int × Int × Int × (List Nat) × (List Int) × (List (List Int)) × (List T27) × Bool) :=
 (impl_plain_v3 k x29 x30 x31 x32 x33) >>= fun r63 =>
 some (r63.2.2.2.2.2.1, r63.2.2.2.2.2.2.1, r63.2.2.2.2.2.2.2.1, r63.2.2.2.2.2.2.2.2.1, r63.2.2.2.2.2.2.2.2.2, [], [], true)
def impl_Push_j4a (k : Nat) (x34 x35 x36 : Int) (x37 : List Nat) (x38 : Int) (x39 : List (List Int)) : Option (Int × Int × Int × (List Nat) × (List Int) × (List (List Int)) × (List T27) × Bool) :=
 some (0, 0, 0, [], [], [], [], false)
def impl_Push_j4b (k : Nat) (x40 x41 : Int) (x42 : List Nat) (x43 : Int) (x44 : List (List Int)) : Option (Int × Int × Int × (List Nat) × (List Int) × (List (List Int)) × (List T27) × Bool) :=
 (impl_plain_v4 k x40 x41 x42 x43 x44) >>= fun r63 =>
 some (r63.2.2.2.2.2.1, r63.2.2.2.2.2.2.1, r63.2.2.2.2.2.2.2.1, r63.2.2.2.2.2.2.2.2.1, r63.2.2.2.2.2.2.2.2.2.1, r63.2.2.2.2.2.2.2.2.2.2, [], true)
def impl_Push_j5a (k : Nat) (x45 : Int) (x46 : List G53) (x47 : Int) : Option (Int × Int × Int × (List Nat) × (List Int) × (List (List Int)) × (List T27) × Bool) :=
 (impl_plain_v5 k x45 x46 x47) >>= fun r63 =>
 some (r63.2.2.2.1, r63.2.2.2.2.1, r63.2.2.2.2.2.1, [], [], [], r63.2.2.2.2.2.2, true)
def impl_Push_j5b (k : Nat) (x48 x49 : Int) (x50 : List G53) (x51 : Int) : Option (Int × Int × Int × (List Nat) × (List Int) × (List (List Int)) × (List T27) × Bool) :=
 some (0, 0, 0, [], [], [], [], false)
def impl_Push (k : Nat) (a0_0 a0_1 a0_2 : Int) (a0_3 : List Nat) (a0_4 : List Int) (a0_5 : List (List Int)) (a0_6 : List T27) (a1_0 a1_1 a1_2 : Int) (a1_3 : List Nat) (a1_4 : List Int) (a1_5 : List (List Int)) (a1_6 : List T27) : Option (Int × Int × Int × (List Nat) × (List Int) × (List (List Int)) × (List T27) × Bool) :=
 (impl_geometry k a0_0 a0_1 a0_2 a0_3 a0_4 a0_5 a0_6) >>= fun r16 =>
 match r16 with
  | (.inl y1) =>
   (some (0, 0, 0, [], [], [], [], false))
  | (.inr (.inl y1)) =>
   (some (0, 0, 0, [], [], [], [], false))
  | (.inr (.inr (.inl y1))) =>
   (some (0, 0, 0, [], [], [], [], false))
  | (.inr (.inr (.inr (.inl y1)))) =>
   ((impl_geometry k a1_0 a1_1 a1_2 a1_3 a1_4 a1_5 a1_6) >>= fun r24 =>
   match r24 with
    | (.inl y8) =>
     (none)
    | (.inr (.inl y8)) =>
     (none)
    | (.inr (.inr (.inl y8))) =>
     ((gogeom_Polygon_Push k y1.1 y1.2.1 y1.2.2.1 y1.2.2.2.1 y1.2.2.2.2 y8.1 y8.2.1 y8.2.2.1 y8.2.2.2) >>= fun r26 =>
     match r26 with
      | (.inl y12) =>
       (impl_Push_j1a k y12.2.2.2.2.2.1 y12.1 y12.2.1 y12.2.2.1 y12.2.2.2.1 y12.2.2.2.2.1)
      | (.inr y12) =>
       (impl_Push_j1b k y12.1 y12.2.1 y12.2.2.1 y12.2.2.2.1 y12.2.2.2.2.1))
    | (.inr (.inr (.inr (.inl y8)))) =>
     (none)
    | (.inr (.inr (.inr (.inr (.inl y8))))) =>
     (none)
    | (.inr (.inr (.inr (.inr (.inr (.inl y8)))))) =>
     (none)
    | (.inr (.inr (.inr (.inr (.inr (.inr (.inl y8))))))) =>
     (none)
    | (.inr (.inr (.inr (.inr (.inr (.inr (.inr y8))))))) =>
     (none))
  | (.inr (.inr (.inr (.inr (.inl y1))))) =>
   ((impl_geometry k a1_0 a1_1 a1_2 a1_3 a1_4 a1_5 a1_6) >>= fun r32 =>
   match r32 with
    | (.inl y32) =>
     ((gogeom_MultiPoint_Push k y1.1 y1.2.1 y1.2.2.1 y1.2.2.2.1 y1.2.2.2.2 y32.1 y32.2.1 y32.2.2.1 y32.2.2.2) >>= fun r34 =>
     match r34 with
      | (.inl y34) =>
       (impl_Push_j2a k y34.2.2.2.2.2.1 y34.1 y34.2.1 y34.2.2.1 y34.2.2.2.1 y34.2.2.2.2.1)
      | (.inr y34) =>
       (impl_Push_j2b k y34.1 y34.2.1 y34.2.2.1 y34.2.2.2.1 y34.2.2.2.2.1))
    | (.inr (.inl y32)) =>
     (none)
    | (.inr (.inr (.inl y32))) =>
     (none)
    | (.inr (.inr (.inr (.inl y32)))) =>
     (none)
    | (.inr (.inr (.inr (.inr (.inl y32))))) =>
     (none)
    | (.inr (.inr (.inr (.inr (.inr (.inl y32)))))) =>
     (none)
    | (.inr (.inr (.inr (.inr (.inr (.inr (.inl y32))))))) =>
     (none)
    | (.inr (.inr (.inr (.inr (.inr (.inr (.inr y32))))))) =>
     (none))
  | (.inr (.inr (.inr (.inr (.inr (.inl y1)))))) =>
   ((impl_geometry k a1_0 a1_1 a1_2 a1_3 a1_4 a1_5 a1_6) >>= fun r40 =>
   match r40 with
    | (.inl y56) =>
     (none)
    | (.inr (.inl y56)) =>
     ((gogeom_MultiLineString_Push k y1.1 y1.2.1 y1.2.2.1 y1.2.2.2.1 y1.2.2.2.2 y56.1 y56.2.1 y56.2.2.1 y56.2.2.2) >>= fun r42 =>
     match r42 with
      | (.inl y59) =>
       (impl_Push_j3a k y59.2.2.2.2.2.1 y59.1 y59.2.1 y59.2.2.1 y59.2.2.2.1 y59.2.2.2.2.1)
      | (.inr y59) =>
       (impl_Push_j3b k y59.1 y59.2.1 y59.2.2.1 y59.2.2.2.1 y59.2.2.2.2.1))
    | (.inr (.inr (.inl y56))) =>
     (none)
    | (.inr (.inr (.inr (.inl y56)))) =>
     (none)
    | (.inr (.inr (.inr (.inr (.inl y56))))) =>
     (none)
    | (.inr (.inr (.inr (.inr (.inr (.inl y56)))))) =>
     (none)
    | (.inr (.inr (.inr (.inr (.inr (.inr (.inl y56))))))) =>
     (none)
    | (.inr (.inr (.inr (.inr (.inr (.inr (.inr y56))))))) =>
     (none))
  | (.inr (.inr (.inr (.inr (.inr (.inr (.inl y1))))))) =>
   ((impl_geometry k a1_0 a1_1 a1_2 a1_3 a1_4 a1_5 a1_6) >>= fun r48 =>
   match r48 with
    | (.inl y80) =>
     (none)
    | (.inr (.inl y80)) =>
     (none)
    | (.inr (.inr (.inl y80))) =>
     (none)
    | (.inr (.inr (.inr (.inl y80)))) =>
     ((gogeom_MultiPolygon_Push k y1.1 y1.2.1 y1.2.2.1 y1.2.2.2.1 y1.2.2.2.2 y80.1 y80.2.1 y80.2.2.1 y80.2.2.2.1 y80.2.2.2.2) >>= fun r50 =>
     match r50 with
      | (.inl y87) =>
       (impl_Push_j4a k y87.2.2.2.2.2.1 y87.1 y87.2.1 y87.2.2.1 y87.2.2.2.1 y87.2.2.2.2.1)
      | (.inr y87) =>
       (impl_Push_j4b k y87.1 y87.2.1 y87.2.2.1 y87.2.2.2.1 y87.2.2.2.2.1))
    | (.inr (.inr (.inr (.inr (.inl y80))))) =>
     (none)
    | (.inr (.inr (.inr (.inr (.inr (.inl y80)))))) =>
     (none)
    | (.inr (.inr (.inr (.inr (.inr (.inr (.inl y80))))))) =>
     (none)
    | (.inr (.inr (.inr (.inr (.inr (.inr (.inr y80))))))) =>
     (none))
  | (.inr (.inr (.inr (.inr (.inr (.inr (.inr y1))))))) =>
   ((impl_geometry k a1_0 a1_1 a1_2 a1_3 a1_4 a1_5 a1_6) >>= fun r56 =>
   match r56 with
    | (.inl y103) =>
     ((gogeom_GeometryCollection_Push_v2 k y1.1 y1.2.1 y1.2.2 ([(G53.c0 y103.1 y103.2.1 y103.2.2.1 y103.2.2.2)])) >>= fun r58 =>
     match r58 with
      | (.inl y105) =>
       (impl_Push_j5a k y105.1 y105.2.1 y105.2.2)
      | (.inr y105) =>
       (impl_Push_j5b k y105.2.2.2 y105.1 y105.2.1 y105.2.2.1))
    | (.inr (.inl y103)) =>
     ((gogeom_GeometryCollection_Push_v2 k y1.1 y1.2.1 y1.2.2 ([(G53.c1 y103.1 y103.2.1 y103.2.2.1 y103.2.2.2)])) >>= fun r58 =>
     match r58 with
      | (.inl y105) =>
       (impl_Push_j5a k y105.1 y105.2.1 y105.2.2)
      | (.inr y105) =>
       (impl_Push_j5b k y105.2.2.2 y105.1 y105.2.1 y105.2.2.1))
    | (.inr (.inr (.inl y103))) =>
     ((gogeom_GeometryCollection_Push_v2 k y1.1 y1.2.1 y1.2.2 ([(G53.c2 y103.1 y103.2.1 y103.2.2.1 y103.2.2.2)])) >>= fun r58 =>
     match r58 with
      | (.inl y105) =>
       (impl_Push_j5a k y105.1 y105.2.1 y105.2.2)
      | (.inr y105) =>
       (impl_Push_j5b k y105.2.2.2 y105.1 y105.2.1 y105.2.2.1))
    | (.inr (.inr (.inr (.inl y103)))) =>
     ((gogeom_GeometryCollection_Push_v2 k y1.1 y1.2.1 y1.2.2 ([(G53.c3 y103.1 y103.2.1 y103.2.2.1 y103.2.2.2.1 y103.2.2.2.2)])) >>= fun r58 =>
     match r58 with
      | (.inl y105) =>
       (impl_Push_j5a k y105.1 y105.2.1 y105.2.2)
      | (.inr y105) =>
       (impl_Push_j5b k y105.2.2.2 y105.1 y105.2.1 y105.2.2.1))
    | (.inr (.inr (.inr (.inr (.inl y103))))) =>
     ((gogeom_GeometryCollection_Push_v2 k y1.1 y1.2.1 y1.2.2 ([(G53.c4 y103.1 y103.2.1 y103.2.2.1 y103.2.2.2.1 y103.2.2.2.2)])) >>= fun r58 =>
     match r58 with
      | (.inl y105) =>
       (impl_Push_j5a k y105.1 y105.2.1 y105.2.2)
      | (.inr y105) =>
       (impl_Push_j5b k y105.2.2.2 y105.1 y105.2.1 y105.2.2.1))
    | (.inr (.inr (.inr (.inr (.inr (.inl y103)))))) =>
     ((gogeom_GeometryCollection_Push_v2 k y1.1 y1.2.1 y1.2.2 ([(G53.c5 y103.1 y103.2.1 y103.2.2.1 y103.2.2.2.1 y103.2.2.2.2)])) >>= fun r58 =>
     match r58 with
      | (.inl y105) =>
       (impl_Push_j5a k y105.1 y105.2.1 y105.2.2)
      | (.inr y105) =>
       (impl_Push_j5b k y105.2.2.2 y105.1 y105.2.1 y105.2.2.1))
    | (.inr (.inr (.inr (.inr (.inr (.inr (.inl y103))))))) =>
     ((gogeom_GeometryCollection_Push_v2 k y1.1 y1.2.1 y1.2.2 ([(G53.c6 y103.1 y103.2.1 y103.2.2.1 y103.2.2.2.1 y103.2.2.2.2)])) >>= fun r58 =>
     match r58 with
      | (.inl y105) =>
       (impl_Push_j5a k y105.1 y105.2.1 y105.2.2)
      | (.inr y105) =>
       (impl_Push_j5b k y105.2.2.2 y105.1 y105.2.1 y105.2.2.1))
    | (.inr (.inr (.inr (.inr (.inr (.inr (.inr y103))))))) =>
     ((gogeom_GeometryCollection_Push_v2 k y1.1 y1.2.1 y1.2.2 ([(G53.c7 y103.1 y103.2.1 y103.2.2)])) >>= fun r58 =>
     match r58 with
      | (.inl y105) =>
       (impl_Push_j5a k y105.1 y105.2.1 y105.2.2)
      | (.inr y105) =>
       (impl_Push_j5b k y105.2.2.2 y105.1 y105.2.1 y105.2.2.1)))

theorem impl_Push_sim {k : Nat}  (a0_0 a0_1 a0_2 : Int) (a0_3 : List Nat) (a0_4 : List Int) (a0_5 : List (List Int)) (a0_6 : List T27) (a1_0 a1_1 a1_2 : Int) (a1_3 : List Nat) (a1_4 : List Int) (a1_5 : List (List Int)) (a1_6 : List T27) {out : Int × Int × Int × (List Nat) × (List Int) × (List (List Int)) × (List T27) × Bool} (hp : impl_Push k a0_0 a0_1 a0_2 a0_3 a0_4 a0_5 a0_6 a1_0 a1_1 a1_2 a1_3 a1_4 a1_5 a1_6 = some out) : Sx.Fn Try.prog 19 [(Ag (C0 a0_0 a0_1 a0_2 a0_3 a0_4 a0_5 a0_6)), (Ag (C0 a1_0 a1_1 a1_2 a1_3 a1_4 a1_5 a1_6))] [] (fun w : Unit => (Tu [(Ag (C0 out.1 out.2.1 out.2.2.1 out.2.2.2.1 out.2.2.2.2.1 out.2.2.2.2.2.1 out.2.2.2.2.2.2.1)), (Vb out.2.2.2.2.2.2.2)])) (fun w => []) := by
 unfold impl_Push at hp
 refine fnD_of Try.func19 rfl Try.ntmps19 rfl fun E hM => ?_
 refine cr fun K1 hK1 => ?_
 refine so (ox_box' rfl (lv_ag _) rfl rfl) fun q2 => ?_
 refine so (ox_box' rfl (lv_ag _) rfl rfl) fun q3 => ?_
 refine so (ox_alloc' info27 rfl rfl rfl rfl (l := (C1 0 0 0)) rfl) fun q4 => ?_
 refine so (ox_alloc' info4 rfl rfl rfl rfl (l := [(Vb false)]) rfl) fun q5 => ?_
 refine nk hK1 ?_
 refine cr fun K2 hK2 => ?_
 refine s0 (rd_mkfunc' (us := [.pointer (some q4), .pointer (some q5)]) rfl) ?_
 refine so (ox_defer' rfl rfl) fun _ => ?_
 refine nk hK2 ?_
 refine cr fun K3 hK3 => ?_
 refine sa rfl ?_
 refine nk hK3 ?_
 refine cr fun K4 hK4 => ?_
 refine s0 (rd_load_agg' (i := 3) (o := 0) (nn := 7) rfl (ar rfl rfl rfl rfl) rfl agg27 (l' := (C0 a0_0 a0_1 a0_2 a0_3 a0_4 a0_5 a0_6)) rfl) ?_
 obtain ⟨r16, hr16, hp⟩ := bind_some hp
 rcases r16 with y1 | y1 | y1 | y1 | y1 | y1 | y1 | y1
 ·dsimp only at hp
  refine so (ox_calln' (ent_fn' Try.func30 isn30 rfl rfl) (impl_geometry_sim _ _ _ _ _ _ _ hr16 : Sx.Fn Try.prog 30 [(Ag (C0 a0_0 a0_1 a0_2 a0_3 a0_4 a0_5 a0_6))] [] (fun x : Addr × Gs × Gs => (If 72 (Vp x.1))) (fun x => [(Ur x.1 135 (C3 y1.1 y1.2.1 y1.2.2.1 y1.2.2.2))])) (Hn := fun x : Addr × Gs × Gs => [(Ur x.1 135 (C3 y1.1 y1.2.1 y1.2.2.1 y1.2.2.2)), (Ur q5 4 [(Vb false)]), (Ur q4 27 (C1 0 0 0)), (Ur q3 27 (C0 a1_0 a1_1 a1_2 a1_3 a1_4 a1_5 a1_6)), (Ur q2 27 (C0 a0_0 a0_1 a0_2 a0_3 a0_4 a0_5 a0_6))]) (fun _ => rfl) rfl rfl) fun ⟨q16, g16, gz1⟩ => ?_
  refine sa rfl ?_
  refine nk hK4 ?_
  refine cx_seq' fun K5 hK5 => ?_
  refine cr fun K6 hK6 => ?_
  refine sm rfl ?_
  refine nk hK6 ?_
  refine cx_block' ?_
  refine cr fun K7 hK7 => ?_
  refine st rfl (F := fun _ => .tuple #[.pointer none, .bool false]) as72_53_67 as_no ?_
  iterate 2 refine se rfl rfl ?_
  refine nk hK7 ?_
  refine cx_cond_f' rfl rfl ?_
  refine cr fun K8 hK8 => ?_
  refine st rfl (F := fun _ => .tuple #[.pointer none, .bool false]) as72_53_70 as_no ?_
  iterate 2 refine se rfl rfl ?_
  refine nk hK8 ?_
  refine cx_cond_f' rfl rfl ?_
  refine cr fun K9 hK9 => ?_
  refine st rfl (F := fun _ => .tuple #[.pointer none, .bool false]) as72_53_73 as_no ?_
  iterate 2 refine se rfl rfl ?_
  refine nk hK9 ?_
  refine cx_cond_f' rfl rfl ?_
  refine cr fun K10 hK10 => ?_
  refine st rfl (F := fun _ => .tuple #[.pointer none, .bool false]) as72_53_76 as_no ?_
  iterate 2 refine se rfl rfl ?_
  refine nk hK10 ?_
  refine cx_cond_f' rfl rfl ?_
  refine cr fun K11 hK11 => ?_
  refine st rfl (F := fun _ => .tuple #[.pointer none, .bool false]) as72_53_57 as_no ?_
  iterate 2 refine se rfl rfl ?_
  refine nk hK11 ?_
  refine cx_cond_f' rfl rfl ?_
  refine cr fun K12 hK12 => ?_
  refine sa rfl ?_
  refine nk hK12 ?_
  refine cr fun K13 hK13 => ?_
  refine sv (pls := [(0, 1), (1, 1), (2, 1), (3, 1), (4, 1), (5, 1), (6, 1)]) (qs := []) (r := (C1 0 0 0)) trivial Try.underlying27 has27 places27 info27 rfl rfl rfl ?_
  refine so (ox_store' (i := 2) (o := 0) rfl rfl (lv_ag _) (ar rfl rfl rfl rfl) rfl info27 rfl (H' := [(Ur q16 135 (C3 y1.1 y1.2.1 y1.2.2.1 y1.2.2.2)), (Ur q5 4 [(Vb false)]), (Ur q4 27 (C1 0 0 0)), (Ur q3 27 (C0 a1_0 a1_1 a1_2 a1_3 a1_4 a1_5 a1_6)), (Ur q2 27 (C0 a0_0 a0_1 a0_2 a0_3 a0_4 a0_5 a0_6))]) rfl) fun _ => ?_
  refine so (ox_store' (i := 1) (o := 0) rfl rfl (lv_vl rfl rfl) (ar rfl rfl rfl rfl) rfl info4 rfl (H' := [(Ur q16 135 (C3 y1.1 y1.2.1 y1.2.2.1 y1.2.2.2)), (Ur q5 4 [(Vb false)]), (Ur q4 27 (C1 0 0 0)), (Ur q3 27 (C0 a1_0 a1_1 a1_2 a1_3 a1_4 a1_5 a1_6)), (Ur q2 27 (C0 a0_0 a0_1 a0_2 a0_3 a0_4 a0_5 a0_6))]) rfl) fun _ => ?_
  refine nk hK13 ?_
  refine cx_retc' ?_
  replace hp := sj hp
  subst hp
  refine tx_leave' (.inl rfl) rfl idle41 rfl Try.func41 isn41 rfl ?_
  refine tk (L' := [(4, (Vp q4)), (5, (Vp q5))]) (H' := [(Ur q4 27 (C1 0 0 0)), (Ur q5 4 [(Vb false)])]) [2, 1] (u2 rfl rfl) (p2 rfl rfl) ?_
  exact tx_ret2' Try.results19 rfl () (rv_imp' (x := (Ag (C1 0 0 0))) (y := (Ag [(Vi 0), (Vi 0), (Vi 0), (Sl Kf []), (Sl (Ki .i64) []), (Sl (Kl (Ki .i64)) []), (Sl KT27 [])])) (rv_cell_agg' (i := 0) (o := 0) (nn := 7) rfl (ar rfl rfl rfl rfl) rfl agg27 rfl) (imp_ag ⟨imp_refl, imp_refl, imp_refl, imp_nil, imp_nil, imp_nil, imp_nil, trivial⟩)) (rv_cell' (i := 1) (o := 0) rfl (ar rfl rfl rfl rfl) rfl flat4) rfl (List.nil_sublist _)
 ·dsimp only at hp
  refine so (ox_calln' (ent_fn' Try.func30 isn30 rfl rfl) (impl_geometry_sim _ _ _ _ _ _ _ hr16 : Sx.Fn Try.prog 30 [(Ag (C0 a0_0 a0_1 a0_2 a0_3 a0_4 a0_5 a0_6))] [] (fun x : Addr × Gs × Gs => (If 75 (Vp x.1))) (fun x => [(Ur x.1 138 (C3 y1.1 y1.2.1 y1.2.2.1 y1.2.2.2))])) (Hn := fun x : Addr × Gs × Gs => [(Ur x.1 138 (C3 y1.1 y1.2.1 y1.2.2.1 y1.2.2.2)), (Ur q5 4 [(Vb false)]), (Ur q4 27 (C1 0 0 0)), (Ur q3 27 (C0 a1_0 a1_1 a1_2 a1_3 a1_4 a1_5 a1_6)), (Ur q2 27 (C0 a0_0 a0_1 a0_2 a0_3 a0_4 a0_5 a0_6))]) (fun _ => rfl) rfl rfl) fun ⟨q16, g16, gz1⟩ => ?_
  refine sa rfl ?_
  refine nk hK4 ?_
  refine cx_seq' fun K5 hK5 => ?_
  refine cr fun K6 hK6 => ?_
  refine sm rfl ?_
  refine nk hK6 ?_
  refine cx_block' ?_
  refine cr fun K7 hK7 => ?_
  refine st rfl (F := fun _ => .tuple #[.pointer none, .bool false]) as75_53_67 as_no ?_
  iterate 2 refine se rfl rfl ?_
  refine nk hK7 ?_
  refine cx_cond_f' rfl rfl ?_
  refine cr fun K8 hK8 => ?_
  refine st rfl (F := fun _ => .tuple #[.pointer none, .bool false]) as75_53_70 as_no ?_
  iterate 2 refine se rfl rfl ?_
  refine nk hK8 ?_
  refine cx_cond_f' rfl rfl ?_
  refine cr fun K9 hK9 => ?_
  refine st rfl (F := fun _ => .tuple #[.pointer none, .bool false]) as75_53_73 as_no ?_
  iterate 2 refine se rfl rfl ?_
  refine nk hK9 ?_
  refine cx_cond_f' rfl rfl ?_
  refine cr fun K10 hK10 => ?_
  refine st rfl (F := fun _ => .tuple #[.pointer none, .bool false]) as75_53_76 as_no ?_
  iterate 2 refine se rfl rfl ?_
  refine nk hK10 ?_
  refine cx_cond_f' rfl rfl ?_
  refine cr fun K11 hK11 => ?_
  refine st rfl (F := fun _ => .tuple #[.pointer none, .bool false]) as75_53_57 as_no ?_
  iterate 2 refine se rfl rfl ?_
  refine nk hK11 ?_
  refine cx_cond_f' rfl rfl ?_
  refine cr fun K12 hK12 => ?_
  refine sa rfl ?_
  refine nk hK12 ?_
  refine cr fun K13 hK13 => ?_
  refine sv (pls := [(0, 1), (1, 1), (2, 1), (3, 1), (4, 1), (5, 1), (6, 1)]) (qs := []) (r := (C1 0 0 0)) trivial Try.underlying27 has27 places27 info27 rfl rfl rfl ?_
  refine so (ox_store' (i := 2) (o := 0) rfl rfl (lv_ag _) (ar rfl rfl rfl rfl) rfl info27 rfl (H' := [(Ur q16 138 (C3 y1.1 y1.2.1 y1.2.2.1 y1.2.2.2)), (Ur q5 4 [(Vb false)]), (Ur q4 27 (C1 0 0 0)), (Ur q3 27 (C0 a1_0 a1_1 a1_2 a1_3 a1_4 a1_5 a1_6)), (Ur q2 27 (C0 a0_0 a0_1 a0_2 a0_3 a0_4 a0_5 a0_6))]) rfl) fun _ => ?_
  refine so (ox_store' (i := 1) (o := 0) rfl rfl (lv_vl rfl rfl) (ar rfl rfl rfl rfl) rfl info4 rfl (H' := [(Ur q16 138 (C3 y1.1 y1.2.1 y1.2.2.1 y1.2.2.2)), (Ur q5 4 [(Vb false)]), (Ur q4 27 (C1 0 0 0)), (Ur q3 27 (C0 a1_0 a1_1 a1_2 a1_3 a1_4 a1_5 a1_6)), (Ur q2 27 (C0 a0_0 a0_1 a0_2 a0_3 a0_4 a0_5 a0_6))]) rfl) fun _ => ?_
  refine nk hK13 ?_
  refine cx_retc' ?_
  replace hp := sj hp
  subst hp
  refine tx_leave' (.inl rfl) rfl idle41 rfl Try.func41 isn41 rfl ?_
  refine tk (L' := [(4, (Vp q4)), (5, (Vp q5))]) (H' := [(Ur q4 27 (C1 0 0 0)), (Ur q5 4 [(Vb false)])]) [2, 1] (u2 rfl rfl) (p2 rfl rfl) ?_
  exact tx_ret2' Try.results19 rfl () (rv_imp' (x := (Ag (C1 0 0 0))) (y := (Ag [(Vi 0), (Vi 0), (Vi 0), (Sl Kf []), (Sl (Ki .i64) []), (Sl (Kl (Ki .i64)) []), (Sl KT27 [])])) (rv_cell_agg' (i := 0) (o := 0) (nn := 7) rfl (ar rfl rfl rfl rfl) rfl agg27 rfl) (imp_ag ⟨imp_refl, imp_refl, imp_refl, imp_nil, imp_nil, imp_nil, imp_nil, trivial⟩)) (rv_cell' (i := 1) (o := 0) rfl (ar rfl rfl rfl rfl) rfl flat4) rfl (List.nil_sublist _)
 ·dsimp only at hp
  refine so (ox_calln' (ent_fn' Try.func30 isn30 rfl rfl) (impl_geometry_sim _ _ _ _ _ _ _ hr16 : Sx.Fn Try.prog 30 [(Ag (C0 a0_0 a0_1 a0_2 a0_3 a0_4 a0_5 a0_6))] [] (fun x : Addr × Gs × Gs => (If 69 (Vp x.1))) (fun x => [(Ur x.1 128 (C3 y1.1 y1.2.1 y1.2.2.1 y1.2.2.2))])) (Hn := fun x : Addr × Gs × Gs => [(Ur x.1 128 (C3 y1.1 y1.2.1 y1.2.2.1 y1.2.2.2)), (Ur q5 4 [(Vb false)]), (Ur q4 27 (C1 0 0 0)), (Ur q3 27 (C0 a1_0 a1_1 a1_2 a1_3 a1_4 a1_5 a1_6)), (Ur q2 27 (C0 a0_0 a0_1 a0_2 a0_3 a0_4 a0_5 a0_6))]) (fun _ => rfl) rfl rfl) fun ⟨q16, g16, gz1⟩ => ?_
  refine sa rfl ?_
  refine nk hK4 ?_
  refine cx_seq' fun K5 hK5 => ?_
  refine cr fun K6 hK6 => ?_
  refine sm rfl ?_
  refine nk hK6 ?_
  refine cx_block' ?_
  refine cr fun K7 hK7 => ?_
  refine st rfl (F := fun _ => .tuple #[.pointer none, .bool false]) as69_53_67 as_no ?_
  iterate 2 refine se rfl rfl ?_
  refine nk hK7 ?_
  refine cx_cond_f' rfl rfl ?_
  refine cr fun K8 hK8 => ?_
  refine st rfl (F := fun _ => .tuple #[.pointer none, .bool false]) as69_53_70 as_no ?_
  iterate 2 refine se rfl rfl ?_
  refine nk hK8 ?_
  refine cx_cond_f' rfl rfl ?_
  refine cr fun K9 hK9 => ?_
  refine st rfl (F := fun _ => .tuple #[.pointer none, .bool false]) as69_53_73 as_no ?_
  iterate 2 refine se rfl rfl ?_
  refine nk hK9 ?_
  refine cx_cond_f' rfl rfl ?_
  refine cr fun K10 hK10 => ?_
  refine st rfl (F := fun _ => .tuple #[.pointer none, .bool false]) as69_53_76 as_no ?_
  iterate 2 refine se rfl rfl ?_
  refine nk hK10 ?_
  refine cx_cond_f' rfl rfl ?_
  refine cr fun K11 hK11 => ?_
  refine st rfl (F := fun _ => .tuple #[.pointer none, .bool false]) as69_53_57 as_no ?_
  iterate 2 refine se rfl rfl ?_
  refine nk hK11 ?_
  refine cx_cond_f' rfl rfl ?_
  refine cr fun K12 hK12 => ?_
  refine sa rfl ?_
  refine nk hK12 ?_
  refine cr fun K13 hK13 => ?_
  refine sv (pls := [(0, 1), (1, 1), (2, 1), (3, 1), (4, 1), (5, 1), (6, 1)]) (qs := []) (r := (C1 0 0 0)) trivial Try.underlying27 has27 places27 info27 rfl rfl rfl ?_
  refine so (ox_store' (i := 2) (o := 0) rfl rfl (lv_ag _) (ar rfl rfl rfl rfl) rfl info27 rfl (H' := [(Ur q16 128 (C3 y1.1 y1.2.1 y1.2.2.1 y1.2.2.2)), (Ur q5 4 [(Vb false)]), (Ur q4 27 (C1 0 0 0)), (Ur q3 27 (C0 a1_0 a1_1 a1_2 a1_3 a1_4 a1_5 a1_6)), (Ur q2 27 (C0 a0_0 a0_1 a0_2 a0_3 a0_4 a0_5 a0_6))]) rfl) fun _ => ?_
  refine so (ox_store' (i := 1) (o := 0) rfl rfl (lv_vl rfl rfl) (ar rfl rfl rfl rfl) rfl info4 rfl (H' := [(Ur q16 128 (C3 y1.1 y1.2.1 y1.2.2.1 y1.2.2.2)), (Ur q5 4 [(Vb false)]), (Ur q4 27 (C1 0 0 0)), (Ur q3 27 (C0 a1_0 a1_1 a1_2 a1_3 a1_4 a1_5 a1_6)), (Ur q2 27 (C0 a0_0 a0_1 a0_2 a0_3 a0_4 a0_5 a0_6))]) rfl) fun _ => ?_
  refine nk hK13 ?_
  refine cx_retc' ?_
  replace hp := sj hp
  subst hp
  refine tx_leave' (.inl rfl) rfl idle41 rfl Try.func41 isn41 rfl ?_
  refine tk (L' := [(4, (Vp q4)), (5, (Vp q5))]) (H' := [(Ur q4 27 (C1 0 0 0)), (Ur q5 4 [(Vb false)])]) [2, 1] (u2 rfl rfl) (p2 rfl rfl) ?_
  exact tx_ret2' Try.results19 rfl () (rv_imp' (x := (Ag (C1 0 0 0))) (y := (Ag [(Vi 0), (Vi 0), (Vi 0), (Sl Kf []), (Sl (Ki .i64) []), (Sl (Kl (Ki .i64)) []), (Sl KT27 [])])) (rv_cell_agg' (i := 0) (o := 0) (nn := 7) rfl (ar rfl rfl rfl rfl) rfl agg27 rfl) (imp_ag ⟨imp_refl, imp_refl, imp_refl, imp_nil, imp_nil, imp_nil, imp_nil, trivial⟩)) (rv_cell' (i := 1) (o := 0) rfl (ar rfl rfl rfl rfl) rfl flat4) rfl (List.nil_sublist _)
 ·dsimp only at hp
  refine so (ox_calln' (ent_fn' Try.func30 isn30 rfl rfl) (impl_geometry_sim _ _ _ _ _ _ _ hr16 : Sx.Fn Try.prog 30 [(Ag (C0 a0_0 a0_1 a0_2 a0_3 a0_4 a0_5 a0_6))] [] (fun x : Addr × Gs × Gs => (If 67 (Vp x.1))) (fun x => [(Ur x.1 132 (C2 y1.1 y1.2.1 x.2.1 y1.2.2.2.1 x.2.2)), (Rg Kf 32 x.2.1 y1.2.2.1), (Rg (Ki .i64) 3 x.2.2 y1.2.2.2.2)])) (Hn := fun x : Addr × Gs × Gs => [(Ur x.1 132 (C2 y1.1 y1.2.1 x.2.1 y1.2.2.2.1 x.2.2)), (Rg Kf 32 x.2.1 y1.2.2.1), (Rg (Ki .i64) 3 x.2.2 y1.2.2.2.2), (Ur q5 4 [(Vb false)]), (Ur q4 27 (C1 0 0 0)), (Ur q3 27 (C0 a1_0 a1_1 a1_2 a1_3 a1_4 a1_5 a1_6)), (Ur q2 27 (C0 a0_0 a0_1 a0_2 a0_3 a0_4 a0_5 a0_6))]) (fun _ => rfl) rfl rfl) fun ⟨q16, g16, gz1⟩ => ?_
  refine sa rfl ?_
  refine nk hK4 ?_
  refine cx_join' (fun (v : (Int × Int × Int × (List Nat) × Int × (List Int)) ⊕ (Int × Int × (List Nat) × Int × (List Int) × Gs × Gs)) => match v with | (.inl v1) => (⟨64, [⟨.fn (.func 41) ⟨[.pointer (some q4), .pointer (some q5)]⟩, #[]⟩], [(4, (Vp q4)), (5, (Vp q5)), (6, (If 134 (Ag (C19 v1.1 v1.2.1)))), (7, (If 67 (Vp q16)))], [(Ur q4 27 (C1 0 0 0)), (Ur q5 4 [(Vb false)]), (Ur q16 132 (C2 v1.2.1 v1.2.2.1 g16 v1.2.2.2.2.1 gz1)), (Rg Kf 32 g16 v1.2.2.2.1), (Rg (Ki .i64) 3 gz1 v1.2.2.2.2.2)]⟩ : St) | (.inr v2) => (⟨64, [⟨.fn (.func 41) ⟨[.pointer (some q4), .pointer (some q5)]⟩, #[]⟩], [(4, (Vp q4)), (5, (Vp q5)), (6, Ve), (7, (If 67 (Vp q16)))], [(Ur q4 27 (C1 0 0 0)), (Ur q5 4 [(Vb false)]), (Ur q16 132 (C2 v2.1 v2.2.1 v2.2.2.2.2.2.1 v2.2.2.2.1 v2.2.2.2.2.2.2)), (Rg Kf 32 v2.2.2.2.2.2.1 v2.2.2.1), (Rg (Ki .i64) 3 v2.2.2.2.2.2.2 v2.2.2.2.2.1)]⟩ : St)) (fun (v : (Int × Int × Int × (List Nat) × Int × (List Int)) ⊕ (Int × Int × (List Nat) × Int × (List Int) × Gs × Gs)) => match v with | (.inl v1) => (impl_Push_j1a k v1.1 v1.2.1 v1.2.2.1 v1.2.2.2.1 v1.2.2.2.2.1 v1.2.2.2.2.2 = some out) | (.inr v2) => (impl_Push_j1b k v2.1 v2.2.1 v2.2.2.1 v2.2.2.2.1 v2.2.2.2.2.1 = some out)) ?_ ?_
  ·rintro (⟨x1, x2, x3, x4, x5, x6⟩ | ⟨x7, x8, x9, x10, x11, g901, g902⟩) hp
   ·replace hp : impl_Push_j1a k x1 x2 x3 x4 x5 x6 = some out := hp
    unfold impl_Push_j1a at hp
    refine cx_seq' fun K15 hK15 => ?_
    refine cr fun K16 hK16 => ?_
    refine sm rfl ?_
    refine s0 (rd_binf' rfl rfl (bf_if (fun _ _ => by kernel_rfl) nil_neq59_if134)) ?_
    refine nk hK16 ?_
    refine cx_cond_t' rfl rfl ?_
    refine cr fun K17 hK17 => ?_
    refine sv (pls := [(0, 1), (1, 1), (2, 1), (3, 1), (4, 1), (5, 1), (6, 1)]) (qs := []) (r := (C1 0 0 0)) trivial Try.underlying27 has27 places27 info27 rfl rfl rfl ?_
    refine so (ox_store' (i := 0) (o := 0) rfl rfl (lv_ag _) (ar rfl rfl rfl rfl) rfl info27 rfl (H' := [(Ur q4 27 (C1 0 0 0)), (Ur q5 4 [(Vb false)]), (Ur q16 132 (C2 x2 x3 g16 x5 gz1)), (Rg Kf 32 g16 x4), (Rg (Ki .i64) 3 gz1 x6)]) rfl) fun _ => ?_
    refine so (ox_store' (i := 1) (o := 0) rfl rfl (lv_vl rfl rfl) (ar rfl rfl rfl rfl) rfl info4 rfl (H' := [(Ur q4 27 (C1 0 0 0)), (Ur q5 4 [(Vb false)]), (Ur q16 132 (C2 x2 x3 g16 x5 gz1)), (Rg Kf 32 g16 x4), (Rg (Ki .i64) 3 gz1 x6)]) rfl) fun _ => ?_
    refine nk hK17 ?_
    refine cx_retc' ?_
    replace hp := sj hp
    subst hp
    refine tx_leave' (.inl rfl) rfl idle41 rfl Try.func41 isn41 rfl ?_
    refine tk (L' := [(4, (Vp q4)), (5, (Vp q5))]) (H' := [(Ur q4 27 (C1 0 0 0)), (Ur q5 4 [(Vb false)])]) [0, 1] (u2 rfl rfl) (p2 rfl rfl) ?_
    exact tx_ret2' Try.results19 rfl () (rv_imp' (x := (Ag (C1 0 0 0))) (y := (Ag [(Vi 0), (Vi 0), (Vi 0), (Sl Kf []), (Sl (Ki .i64) []), (Sl (Kl (Ki .i64)) []), (Sl KT27 [])])) (rv_cell_agg' (i := 0) (o := 0) (nn := 7) rfl (ar rfl rfl rfl rfl) rfl agg27 rfl) (imp_ag ⟨imp_refl, imp_refl, imp_refl, imp_nil, imp_nil, imp_nil, imp_nil, trivial⟩)) (rv_cell' (i := 1) (o := 0) rfl (ar rfl rfl rfl rfl) rfl flat4) rfl (List.nil_sublist _)
   replace hp : impl_Push_j1b k x7 x8 x9 x10 x11 = some out := hp
   unfold impl_Push_j1b at hp
   refine cx_seq' fun K15 hK15 => ?_
   refine cr fun K16 hK16 => ?_
   refine sm rfl ?_
   refine s0 (rd_binf' rfl rfl (bf_vl (fun _ => by kernel_rfl) nil_neq59_nilif)) ?_
   refine nk hK16 ?_
   refine cx_cond_f' rfl rfl ?_
   refine cx_skip' ?_
   show TX E K15 _
   refine tx_k' hK15 ?_
   refine cr fun K18 hK18 => ?_
   refine sm rfl ?_
   obtain ⟨r63, hr63, hp⟩ := bind_some hp
   refine so (ox_callg' (ent_fn' Try.func34 isn34 rfl rfl) (impl_plain_sim _ _ _ _ _ hr63 : Sx.Fn Try.prog 34 [(If 67 (Vp q16))] [(Ur q16 132 (C2 x7 x8 g901 x10 g902)), (Rg Kf 32 g901 x9), (Rg (Ki .i64) 3 g902 x11)] (fun x : Unit => (Ag (C5 r63.2.2.2.2.2.1 r63.2.2.2.2.2.2.1 r63.2.2.2.2.2.2.2.1 r63.2.2.2.2.2.2.2.2.1 r63.2.2.2.2.2.2.2.2.2))) (fun x => [(Ur q16 132 (C2 r63.1 r63.2.1 g901 r63.2.2.2.1 g902)), (Rg Kf 32 g901 r63.2.2.1), (Rg (Ki .i64) 3 g902 r63.2.2.2.2.1)])) [2, 3, 4] [0, 1] (by decide) (p3 rfl rfl rfl) (p2 rfl rfl) (Hn := fun x : Unit => [(Ur q16 132 (C2 r63.1 r63.2.1 g901 r63.2.2.2.1 g902)), (Rg Kf 32 g901 r63.2.2.1), (Rg (Ki .i64) 3 g902 r63.2.2.2.2.1), (Ur q4 27 (C1 0 0 0)), (Ur q5 4 [(Vb false)])]) (fun _ => rfl) rfl rfl) fun ⟨⟩ => ?_
   refine so (ox_store' (i := 3) (o := 0) rfl rfl (lv_ag _) (ar rfl rfl rfl rfl) rfl info27 rfl (H' := [(Ur q16 132 (C2 r63.1 r63.2.1 g901 r63.2.2.2.1 g902)), (Rg Kf 32 g901 r63.2.2.1), (Rg (Ki .i64) 3 g902 r63.2.2.2.2.1), (Ur q4 27 (C5 r63.2.2.2.2.2.1 r63.2.2.2.2.2.2.1 r63.2.2.2.2.2.2.2.1 r63.2.2.2.2.2.2.2.2.1 r63.2.2.2.2.2.2.2.2.2)), (Ur q5 4 [(Vb false)])]) rfl) fun _ => ?_
   refine so (ox_store' (i := 4) (o := 0) rfl rfl (lv_vl rfl rfl) (ar rfl rfl rfl rfl) rfl info4 rfl (H' := [(Ur q16 132 (C2 r63.1 r63.2.1 g901 r63.2.2.2.1 g902)), (Rg Kf 32 g901 r63.2.2.1), (Rg (Ki .i64) 3 g902 r63.2.2.2.2.1), (Ur q4 27 (C5 r63.2.2.2.2.2.1 r63.2.2.2.2.2.2.1 r63.2.2.2.2.2.2.2.1 r63.2.2.2.2.2.2.2.2.1 r63.2.2.2.2.2.2.2.2.2)), (Ur q5 4 [(Vb true)])]) rfl) fun _ => ?_
   refine nk hK18 ?_
   refine cx_retc' ?_
   replace hp := sj hp
   subst hp
   refine tx_leave' (.inl rfl) rfl idle41 rfl Try.func41 isn41 rfl ?_
   refine tk (L' := [(4, (Vp q4)), (5, (Vp q5))]) (H' := [(Ur q4 27 (C5 r63.2.2.2.2.2.1 r63.2.2.2.2.2.2.1 r63.2.2.2.2.2.2.2.1 r63.2.2.2.2.2.2.2.2.1 r63.2.2.2.2.2.2.2.2.2)), (Ur q5 4 [(Vb true)])]) [3, 4] (u2 rfl rfl) (p2 rfl rfl) ?_
   exact tx_ret2' Try.results19 rfl () (rv_imp' (x := (Ag (C5 r63.2.2.2.2.2.1 r63.2.2.2.2.2.2.1 r63.2.2.2.2.2.2.2.1 r63.2.2.2.2.2.2.2.2.1 r63.2.2.2.2.2.2.2.2.2))) (y := (Ag [(Vi r63.2.2.2.2.2.1), (Vi r63.2.2.2.2.2.2.1), (Vi r63.2.2.2.2.2.2.2.1), (Sl Kf r63.2.2.2.2.2.2.2.2.1), (Sl (Ki .i64) r63.2.2.2.2.2.2.2.2.2), (Sl (Kl (Ki .i64)) []), (Sl KT27 [])])) (rv_cell_agg' (i := 0) (o := 0) (nn := 7) rfl (ar rfl rfl rfl rfl) rfl agg27 rfl) (imp_ag ⟨imp_refl, imp_refl, imp_refl, imp_refl, imp_refl, imp_nil, imp_nil, trivial⟩)) (rv_cell' (i := 1) (o := 0) rfl (ar rfl rfl rfl rfl) rfl flat4) rfl (List.nil_sublist _)
  intro K5 hK5
  refine cr fun K6 hK6 => ?_
  refine sm rfl ?_
  refine nk hK6 ?_
  refine cx_block' ?_
  refine cr fun K7 hK7 => ?_
  refine st rfl (F := fun v => .tuple #[v, .bool true]) as67_53_67k as_ok ?_
  iterate 2 refine se rfl rfl ?_
  refine nk hK7 ?_
  refine cx_cond_t' rfl rfl ?_
  refine cr fun K14 hK14 => ?_
  refine sa rfl ?_
  refine nk hK14 ?_
  refine cx_region' ?_
  refine sm rfl ?_
  refine s0 (rd_load_agg' (i := 5) (o := 0) (nn := 7) rfl (ar rfl rfl rfl rfl) rfl agg27 (l' := (C0 a1_0 a1_1 a1_2 a1_3 a1_4 a1_5 a1_6)) rfl) ?_
  obtain ⟨r24, hr24, hp⟩ := bind_some hp
  rcases r24 with y8 | y8 | y8 | y8 | y8 | y8 | y8 | y8
  ·dsimp only at hp
   cases hp
  ·dsimp only at hp
   cases hp
  ·dsimp only at hp
   refine so (ox_calln' (ent_fn' Try.func30 isn30 rfl rfl) (impl_geometry_sim _ _ _ _ _ _ _ hr24 : Sx.Fn Try.prog 30 [(Ag (C0 a1_0 a1_1 a1_2 a1_3 a1_4 a1_5 a1_6))] [] (fun x : Addr × Gs × Gs => (If 69 (Vp x.1))) (fun x => [(Ur x.1 128 (C3 y8.1 y8.2.1 y8.2.2.1 y8.2.2.2))])) (Hn := fun x : Addr × Gs × Gs => [(Ur x.1 128 (C3 y8.1 y8.2.1 y8.2.2.1 y8.2.2.2)), (Ur q16 132 (C2 y1.1 y1.2.1 g16 y1.2.2.2.1 gz1)), (Rg Kf 32 g16 y1.2.2.1), (Rg (Ki .i64) 3 gz1 y1.2.2.2.2), (Ur q5 4 [(Vb false)]), (Ur q4 27 (C1 0 0 0)), (Ur q3 27 (C0 a1_0 a1_1 a1_2 a1_3 a1_4 a1_5 a1_6)), (Ur q2 27 (C0 a0_0 a0_1 a0_2 a0_3 a0_4 a0_5 a0_6))]) (fun _ => rfl) rfl rfl) fun ⟨q24, g24, gz2⟩ => ?_
   refine st rfl (F := fun v => v) as69_53_69 as_id ?_
   obtain ⟨r26, hr26, hp⟩ := bind_some hp
   rcases r26 with y12 | y12
   ·dsimp only at hp
    refine so (ox_callg' (ent_fn' Try.func42 isn42 rfl rfl) (gogeom_Polygon_Push_sim _ _ _ _ _ _ _ _ _ hr26 : Sx.Fn Try.prog 42 [(Vp q16), (Vp q24)] [(Ur q16 132 (C2 y1.1 y1.2.1 g16 y1.2.2.2.1 gz1)), (Rg Kf 32 g16 y1.2.2.1), (Rg (Ki .i64) 3 gz1 y1.2.2.2.2), (Ur q24 128 (C3 y8.1 y8.2.1 y8.2.2.1 y8.2.2.2))] (fun x : Gs × Gs => (If 134 (Ag (C19 y12.2.2.2.2.2.1 y12.1)))) (fun x => [(Ur q16 132 (C2 y12.1 y12.2.1 g16 y12.2.2.2.1 gz1)), (Rg Kf 32 g16 y12.2.2.1), (Rg (Ki .i64) 3 gz1 y12.2.2.2.2.1), (Ur q24 128 (C3 y12.2.2.2.2.2.1 y12.2.2.2.2.2.2.1 y12.2.2.2.2.2.2.2.1 y12.2.2.2.2.2.2.2.2))])) [1, 2, 3, 0] [4, 5, 6, 7] (by decide) (p4 rfl rfl rfl rfl) (p4 rfl rfl rfl rfl) (Hn := fun x : Gs × Gs => [(Ur q16 132 (C2 y12.1 y12.2.1 g16 y12.2.2.2.1 gz1)), (Rg Kf 32 g16 y12.2.2.1), (Rg (Ki .i64) 3 gz1 y12.2.2.2.2.1), (Ur q24 128 (C3 y12.2.2.2.2.2.1 y12.2.2.2.2.2.2.1 y12.2.2.2.2.2.2.2.1 y12.2.2.2.2.2.2.2.2)), (Ur q5 4 [(Vb false)]), (Ur q4 27 (C1 0 0 0)), (Ur q3 27 (C0 a1_0 a1_1 a1_2 a1_3 a1_4 a1_5 a1_6)), (Ur q2 27 (C0 a0_0 a0_1 a0_2 a0_3 a0_4 a0_5 a0_6))]) (fun _ => rfl) rfl rfl) fun ⟨g26, gz3⟩ => ?_
    refine sa rfl ?_
    refine sx_nil' ?_
    show TX E K5 _
    exact tk [5, 4, 0, 1, 2] (u4 rfl rfl rfl rfl) (p5 rfl rfl rfl rfl rfl) (hK5 (.inl (y12.2.2.2.2.2.1, y12.1, y12.2.1, y12.2.2.1, y12.2.2.2.1, y12.2.2.2.2.1)) hp)
   dsimp only at hp
   refine so (ox_callg' (ent_fn' Try.func42 isn42 rfl rfl) (gogeom_Polygon_Push_sim _ _ _ _ _ _ _ _ _ hr26 : Sx.Fn Try.prog 42 [(Vp q16), (Vp q24)] [(Ur q16 132 (C2 y1.1 y1.2.1 g16 y1.2.2.2.1 gz1)), (Rg Kf 32 g16 y1.2.2.1), (Rg (Ki .i64) 3 gz1 y1.2.2.2.2), (Ur q24 128 (C3 y8.1 y8.2.1 y8.2.2.1 y8.2.2.2))] (fun x : Gs × Gs => Ve) (fun x => [(Ur q16 132 (C2 y12.1 y12.2.1 x.1 y12.2.2.2.1 x.2)), (Rg Kf 32 x.1 y12.2.2.1), (Rg (Ki .i64) 3 x.2 y12.2.2.2.2.1), (Ur q24 128 (C3 y12.2.2.2.2.2.1 y12.2.2.2.2.2.2.1 y12.2.2.2.2.2.2.2.1 y12.2.2.2.2.2.2.2.2))])) [1, 2, 3, 0] [4, 5, 6, 7] (by decide) (p4 rfl rfl rfl rfl) (p4 rfl rfl rfl rfl) (Hn := fun x : Gs × Gs => [(Ur q16 132 (C2 y12.1 y12.2.1 x.1 y12.2.2.2.1 x.2)), (Rg Kf 32 x.1 y12.2.2.1), (Rg (Ki .i64) 3 x.2 y12.2.2.2.2.1), (Ur q24 128 (C3 y12.2.2.2.2.2.1 y12.2.2.2.2.2.2.1 y12.2.2.2.2.2.2.2.1 y12.2.2.2.2.2.2.2.2)), (Ur q5 4 [(Vb false)]), (Ur q4 27 (C1 0 0 0)), (Ur q3 27 (C0 a1_0 a1_1 a1_2 a1_3 a1_4 a1_5 a1_6)), (Ur q2 27 (C0 a0_0 a0_1 a0_2 a0_3 a0_4 a0_5 a0_6))]) (fun _ => rfl) rfl rfl) fun ⟨g26, gz3⟩ => ?_
   refine sa rfl ?_
   refine sx_nil' ?_
   show TX E K5 _
   exact tk [5, 4, 0, 1, 2] (u4 rfl rfl rfl rfl) (p5 rfl rfl rfl rfl rfl) (hK5 (.inr (y12.1, y12.2.1, y12.2.2.1, y12.2.2.2.1, y12.2.2.2.2.1, g26, gz3)) hp)
  ·dsimp only at hp
   cases hp
  ·dsimp only at hp
   cases hp
  ·dsimp only at hp
   cases hp
  ·dsimp only at hp
   cases hp
  dsimp only at hp
  cases hp
 ·dsimp only at hp
  refine so (ox_calln' (ent_fn' Try.func30 isn30 rfl rfl) (impl_geometry_sim _ _ _ _ _ _ _ hr16 : Sx.Fn Try.prog 30 [(Ag (C0 a0_0 a0_1 a0_2 a0_3 a0_4 a0_5 a0_6))] [] (fun x : Addr × Gs × Gs => (If 70 (Vp x.1))) (fun x => [(Ur x.1 136 (C2 y1.1 y1.2.1 x.2.1 y1.2.2.2.1 x.2.2)), (Rg Kf 32 x.2.1 y1.2.2.1), (Rg (Ki .i64) 3 x.2.2 y1.2.2.2.2)])) (Hn := fun x : Addr × Gs × Gs => [(Ur x.1 136 (C2 y1.1 y1.2.1 x.2.1 y1.2.2.2.1 x.2.2)), (Rg Kf 32 x.2.1 y1.2.2.1), (Rg (Ki .i64) 3 x.2.2 y1.2.2.2.2), (Ur q5 4 [(Vb false)]), (Ur q4 27 (C1 0 0 0)), (Ur q3 27 (C0 a1_0 a1_1 a1_2 a1_3 a1_4 a1_5 a1_6)), (Ur q2 27 (C0 a0_0 a0_1 a0_2 a0_3 a0_4 a0_5 a0_6))]) (fun _ => rfl) rfl rfl) fun ⟨q16, g16, gz1⟩ => ?_
  refine sa rfl ?_
  refine nk hK4 ?_
  refine cx_join' (fun (v : (Int × Int × Int × (List Nat) × Int × (List Int)) ⊕ (Int × Int × (List Nat) × Int × (List Int) × Gs × Gs)) => match v with | (.inl v3) => (⟨64, [⟨.fn (.func 41) ⟨[.pointer (some q4), .pointer (some q5)]⟩, #[]⟩], [(4, (Vp q4)), (5, (Vp q5)), (6, (If 134 (Ag (C19 v3.1 v3.2.1)))), (7, (If 70 (Vp q16)))], [(Ur q4 27 (C1 0 0 0)), (Ur q5 4 [(Vb false)]), (Ur q16 136 (C2 v3.2.1 v3.2.2.1 g16 v3.2.2.2.2.1 gz1)), (Rg Kf 32 g16 v3.2.2.2.1), (Rg (Ki .i64) 3 gz1 v3.2.2.2.2.2)]⟩ : St) | (.inr v4) => (⟨64, [⟨.fn (.func 41) ⟨[.pointer (some q4), .pointer (some q5)]⟩, #[]⟩], [(4, (Vp q4)), (5, (Vp q5)), (6, Ve), (7, (If 70 (Vp q16)))], [(Ur q4 27 (C1 0 0 0)), (Ur q5 4 [(Vb false)]), (Ur q16 136 (C2 v4.1 v4.2.1 v4.2.2.2.2.2.1 v4.2.2.2.1 v4.2.2.2.2.2.2)), (Rg Kf 32 v4.2.2.2.2.2.1 v4.2.2.1), (Rg (Ki .i64) 3 v4.2.2.2.2.2.2 v4.2.2.2.2.1)]⟩ : St)) (fun (v : (Int × Int × Int × (List Nat) × Int × (List Int)) ⊕ (Int × Int × (List Nat) × Int × (List Int) × Gs × Gs)) => match v with | (.inl v3) => (impl_Push_j2a k v3.1 v3.2.1 v3.2.2.1 v3.2.2.2.1 v3.2.2.2.2.1 v3.2.2.2.2.2 = some out) | (.inr v4) => (impl_Push_j2b k v4.1 v4.2.1 v4.2.2.1 v4.2.2.2.1 v4.2.2.2.2.1 = some out)) ?_ ?_
  ·rintro (⟨x12, x13, x14, x15, x16, x17⟩ | ⟨x18, x19, x20, x21, x22, g903, g904⟩) hp
   ·replace hp : impl_Push_j2a k x12 x13 x14 x15 x16 x17 = some out := hp
    unfold impl_Push_j2a at hp
    refine cx_seq' fun K15 hK15 => ?_
    refine cr fun K16 hK16 => ?_
    refine sm rfl ?_
    refine s0 (rd_binf' rfl rfl (bf_if (fun _ _ => by kernel_rfl) nil_neq59_if134)) ?_
    refine nk hK16 ?_
    refine cx_cond_t' rfl rfl ?_
    refine cr fun K17 hK17 => ?_
    refine sv (pls := [(0, 1), (1, 1), (2, 1), (3, 1), (4, 1), (5, 1), (6, 1)]) (qs := []) (r := (C1 0 0 0)) trivial Try.underlying27 has27 places27 info27 rfl rfl rfl ?_
    refine so (ox_store' (i := 0) (o := 0) rfl rfl (lv_ag _) (ar rfl rfl rfl rfl) rfl info27 rfl (H' := [(Ur q4 27 (C1 0 0 0)), (Ur q5 4 [(Vb false)]), (Ur q16 136 (C2 x13 x14 g16 x16 gz1)), (Rg Kf 32 g16 x15), (Rg (Ki .i64) 3 gz1 x17)]) rfl) fun _ => ?_
    refine so (ox_store' (i := 1) (o := 0) rfl rfl (lv_vl rfl rfl) (ar rfl rfl rfl rfl) rfl info4 rfl (H' := [(Ur q4 27 (C1 0 0 0)), (Ur q5 4 [(Vb false)]), (Ur q16 136 (C2 x13 x14 g16 x16 gz1)), (Rg Kf 32 g16 x15), (Rg (Ki .i64) 3 gz1 x17)]) rfl) fun _ => ?_
    refine nk hK17 ?_
    refine cx_retc' ?_
    replace hp := sj hp
    subst hp
    refine tx_leave' (.inl rfl) rfl idle41 rfl Try.func41 isn41 rfl ?_
    refine tk (L' := [(4, (Vp q4)), (5, (Vp q5))]) (H' := [(Ur q4 27 (C1 0 0 0)), (Ur q5 4 [(Vb false)])]) [0, 1] (u2 rfl rfl) (p2 rfl rfl) ?_
    exact tx_ret2' Try.results19 rfl () (rv_imp' (x := (Ag (C1 0 0 0))) (y := (Ag [(Vi 0), (Vi 0), (Vi 0), (Sl Kf []), (Sl (Ki .i64) []), (Sl (Kl (Ki .i64)) []), (Sl KT27 [])])) (rv_cell_agg' (i := 0) (o := 0) (nn := 7) rfl (ar rfl rfl rfl rfl) rfl agg27 rfl) (imp_ag ⟨imp_refl, imp_refl, imp_refl, imp_nil, imp_nil, imp_nil, imp_nil, trivial⟩)) (rv_cell' (i := 1) (o := 0) rfl (ar rfl rfl rfl rfl) rfl flat4) rfl (List.nil_sublist _)
   replace hp : impl_Push_j2b k x18 x19 x20 x21 x22 = some out := hp
   unfold impl_Push_j2b at hp
   refine cx_seq' fun K15 hK15 => ?_
   refine cr fun K16 hK16 => ?_
   refine sm rfl ?_
   refine s0 (rd_binf' rfl rfl (bf_vl (fun _ => by kernel_rfl) nil_neq59_nilif)) ?_
   refine nk hK16 ?_
   refine cx_cond_f' rfl rfl ?_
   refine cx_skip' ?_
   show TX E K15 _
   refine tx_k' hK15 ?_
   refine cr fun K18 hK18 => ?_
   refine sm rfl ?_
   obtain ⟨r63, hr63, hp⟩ := bind_some hp
   refine so (ox_callg' (ent_fn' Try.func34 isn34 rfl rfl) (impl_plain_v2_sim _ _ _ _ _ hr63 : Sx.Fn Try.prog 34 [(If 70 (Vp q16))] [(Ur q16 136 (C2 x18 x19 g903 x21 g904)), (Rg Kf 32 g903 x20), (Rg (Ki .i64) 3 g904 x22)] (fun x : Unit => (Ag (C5 r63.2.2.2.2.2.1 r63.2.2.2.2.2.2.1 r63.2.2.2.2.2.2.2.1 r63.2.2.2.2.2.2.2.2.1 r63.2.2.2.2.2.2.2.2.2))) (fun x => [(Ur q16 136 (C2 r63.1 r63.2.1 g903 r63.2.2.2.1 g904)), (Rg Kf 32 g903 r63.2.2.1), (Rg (Ki .i64) 3 g904 r63.2.2.2.2.1)])) [2, 3, 4] [0, 1] (by decide) (p3 rfl rfl rfl) (p2 rfl rfl) (Hn := fun x : Unit => [(Ur q16 136 (C2 r63.1 r63.2.1 g903 r63.2.2.2.1 g904)), (Rg Kf 32 g903 r63.2.2.1), (Rg (Ki .i64) 3 g904 r63.2.2.2.2.1), (Ur q4 27 (C1 0 0 0)), (Ur q5 4 [(Vb false)])]) (fun _ => rfl) rfl rfl) fun ⟨⟩ => ?_
   refine so (ox_store' (i := 3) (o := 0) rfl rfl (lv_ag _) (ar rfl rfl rfl rfl) rfl info27 rfl (H' := [(Ur q16 136 (C2 r63.1 r63.2.1 g903 r63.2.2.2.1 g904)), (Rg Kf 32 g903 r63.2.2.1), (Rg (Ki .i64) 3 g904 r63.2.2.2.2.1), (Ur q4 27 (C5 r63.2.2.2.2.2.1 r63.2.2.2.2.2.2.1 r63.2.2.2.2.2.2.2.1 r63.2.2.2.2.2.2.2.2.1 r63.2.2.2.2.2.2.2.2.2)), (Ur q5 4 [(Vb false)])]) rfl) fun _ => ?_
   refine so (ox_store' (i := 4) (o := 0) rfl rfl (lv_vl rfl rfl) (ar rfl rfl rfl rfl) rfl info4 rfl (H' := [(Ur q16 136 (C2 r63.1 r63.2.1 g903 r63.2.2.2.1 g904)), (Rg Kf 32 g903 r63.2.2.1), (Rg (Ki .i64) 3 g904 r63.2.2.2.2.1), (Ur q4 27 (C5 r63.2.2.2.2.2.1 r63.2.2.2.2.2.2.1 r63.2.2.2.2.2.2.2.1 r63.2.2.2.2.2.2.2.2.1 r63.2.2.2.2.2.2.2.2.2)), (Ur q5 4 [(Vb true)])]) rfl) fun _ => ?_
   refine nk hK18 ?_
   refine cx_retc' ?_
   replace hp := sj hp
   subst hp
   refine tx_leave' (.inl rfl) rfl idle41 rfl Try.func41 isn41 rfl ?_
   refine tk (L' := [(4, (Vp q4)), (5, (Vp q5))]) (H' := [(Ur q4 27 (C5 r63.2.2.2.2.2.1 r63.2.2.2.2.2.2.1 r63.2.2.2.2.2.2.2.1 r63.2.2.2.2.2.2.2.2.1 r63.2.2.2.2.2.2.2.2.2)), (Ur q5 4 [(Vb true)])]) [3, 4] (u2 rfl rfl) (p2 rfl rfl) ?_
   exact tx_ret2' Try.results19 rfl () (rv_imp' (x := (Ag (C5 r63.2.2.2.2.2.1 r63.2.2.2.2.2.2.1 r63.2.2.2.2.2.2.2.1 r63.2.2.2.2.2.2.2.2.1 r63.2.2.2.2.2.2.2.2.2))) (y := (Ag [(Vi r63.2.2.2.2.2.1), (Vi r63.2.2.2.2.2.2.1), (Vi r63.2.2.2.2.2.2.2.1), (Sl Kf r63.2.2.2.2.2.2.2.2.1), (Sl (Ki .i64) r63.2.2.2.2.2.2.2.2.2), (Sl (Kl (Ki .i64)) []), (Sl KT27 [])])) (rv_cell_agg' (i := 0) (o := 0) (nn := 7) rfl (ar rfl rfl rfl rfl) rfl agg27 rfl) (imp_ag ⟨imp_refl, imp_refl, imp_refl, imp_refl, imp_refl, imp_nil, imp_nil, trivial⟩)) (rv_cell' (i := 1) (o := 0) rfl (ar rfl rfl rfl rfl) rfl flat4) rfl (List.nil_sublist _)
  intro K5 hK5
  refine cr fun K6 hK6 => ?_
  refine sm rfl ?_
  refine nk hK6 ?_
  refine cx_block' ?_
  refine cr fun K7 hK7 => ?_
  refine st rfl (F := fun _ => .tuple #[.pointer none, .bool false]) as70_53_67 as_no ?_
  iterate 2 refine se rfl rfl ?_
  refine nk hK7 ?_
  refine cx_cond_f' rfl rfl ?_
  refine cr fun K8 hK8 => ?_
  refine st rfl (F := fun v => .tuple #[v, .bool true]) as70_53_70k as_ok ?_
  iterate 2 refine se rfl rfl ?_
  refine nk hK8 ?_
  refine cx_cond_t' rfl rfl ?_
  refine cr fun K19 hK19 => ?_
  refine sa rfl ?_
  refine nk hK19 ?_
  refine cx_region' ?_
  refine sm rfl ?_
  refine s0 (rd_load_agg' (i := 5) (o := 0) (nn := 7) rfl (ar rfl rfl rfl rfl) rfl agg27 (l' := (C0 a1_0 a1_1 a1_2 a1_3 a1_4 a1_5 a1_6)) rfl) ?_
  obtain ⟨r32, hr32, hp⟩ := bind_some hp
  rcases r32 with y32 | y32 | y32 | y32 | y32 | y32 | y32 | y32
  ·dsimp only at hp
   refine so (ox_calln' (ent_fn' Try.func30 isn30 rfl rfl) (impl_geometry_sim _ _ _ _ _ _ _ hr32 : Sx.Fn Try.prog 30 [(Ag (C0 a1_0 a1_1 a1_2 a1_3 a1_4 a1_5 a1_6))] [] (fun x : Addr × Gs × Gs => (If 72 (Vp x.1))) (fun x => [(Ur x.1 135 (C3 y32.1 y32.2.1 y32.2.2.1 y32.2.2.2))])) (Hn := fun x : Addr × Gs × Gs => [(Ur x.1 135 (C3 y32.1 y32.2.1 y32.2.2.1 y32.2.2.2)), (Ur q16 136 (C2 y1.1 y1.2.1 g16 y1.2.2.2.1 gz1)), (Rg Kf 32 g16 y1.2.2.1), (Rg (Ki .i64) 3 gz1 y1.2.2.2.2), (Ur q5 4 [(Vb false)]), (Ur q4 27 (C1 0 0 0)), (Ur q3 27 (C0 a1_0 a1_1 a1_2 a1_3 a1_4 a1_5 a1_6)), (Ur q2 27 (C0 a0_0 a0_1 a0_2 a0_3 a0_4 a0_5 a0_6))]) (fun _ => rfl) rfl rfl) fun ⟨q32, g32, gz4⟩ => ?_
   refine st rfl (F := fun v => v) as72_53_72 as_id ?_
   obtain ⟨r34, hr34, hp⟩ := bind_some hp
   rcases r34 with y34 | y34
   ·dsimp only at hp
    refine so (ox_callg' (ent_fn' Try.func43 isn43 rfl rfl) (gogeom_MultiPoint_Push_sim _ _ _ _ _ _ _ _ _ hr34 : Sx.Fn Try.prog 43 [(Vp q16), (Vp q32)] [(Ur q16 136 (C2 y1.1 y1.2.1 g16 y1.2.2.2.1 gz1)), (Rg Kf 32 g16 y1.2.2.1), (Rg (Ki .i64) 3 gz1 y1.2.2.2.2), (Ur q32 135 (C3 y32.1 y32.2.1 y32.2.2.1 y32.2.2.2))] (fun x : Gs × Gs => (If 134 (Ag (C19 y34.2.2.2.2.2.1 y34.1)))) (fun x => [(Ur q16 136 (C2 y34.1 y34.2.1 g16 y34.2.2.2.1 gz1)), (Rg Kf 32 g16 y34.2.2.1), (Rg (Ki .i64) 3 gz1 y34.2.2.2.2.1), (Ur q32 135 (C3 y34.2.2.2.2.2.1 y34.2.2.2.2.2.2.1 y34.2.2.2.2.2.2.2.1 y34.2.2.2.2.2.2.2.2))])) [1, 2, 3, 0] [4, 5, 6, 7] (by decide) (p4 rfl rfl rfl rfl) (p4 rfl rfl rfl rfl) (Hn := fun x : Gs × Gs => [(Ur q16 136 (C2 y34.1 y34.2.1 g16 y34.2.2.2.1 gz1)), (Rg Kf 32 g16 y34.2.2.1), (Rg (Ki .i64) 3 gz1 y34.2.2.2.2.1), (Ur q32 135 (C3 y34.2.2.2.2.2.1 y34.2.2.2.2.2.2.1 y34.2.2.2.2.2.2.2.1 y34.2.2.2.2.2.2.2.2)), (Ur q5 4 [(Vb false)]), (Ur q4 27 (C1 0 0 0)), (Ur q3 27 (C0 a1_0 a1_1 a1_2 a1_3 a1_4 a1_5 a1_6)), (Ur q2 27 (C0 a0_0 a0_1 a0_2 a0_3 a0_4 a0_5 a0_6))]) (fun _ => rfl) rfl rfl) fun ⟨g34, gz5⟩ => ?_
    refine sa rfl ?_
    refine sx_nil' ?_
    show TX E K5 _
    exact tk [5, 4, 0, 1, 2] (u4 rfl rfl rfl rfl) (p5 rfl rfl rfl rfl rfl) (hK5 (.inl (y34.2.2.2.2.2.1, y34.1, y34.2.1, y34.2.2.1, y34.2.2.2.1, y34.2.2.2.2.1)) hp)
   dsimp only at hp
   refine so (ox_callg' (ent_fn' Try.func43 isn43 rfl rfl) (gogeom_MultiPoint_Push_sim _ _ _ _ _ _ _ _ _ hr34 : Sx.Fn Try.prog 43 [(Vp q16), (Vp q32)] [(Ur q16 136 (C2 y1.1 y1.2.1 g16 y1.2.2.2.1 gz1)), (Rg Kf 32 g16 y1.2.2.1), (Rg (Ki .i64) 3 gz1 y1.2.2.2.2), (Ur q32 135 (C3 y32.1 y32.2.1 y32.2.2.1 y32.2.2.2))] (fun x : Gs × Gs => Ve) (fun x => [(Ur q16 136 (C2 y34.1 y34.2.1 x.1 y34.2.2.2.1 x.2)), (Rg Kf 32 x.1 y34.2.2.1), (Rg (Ki .i64) 3 x.2 y34.2.2.2.2.1), (Ur q32 135 (C3 y34.2.2.2.2.2.1 y34.2.2.2.2.2.2.1 y34.2.2.2.2.2.2.2.1 y34.2.2.2.2.2.2.2.2))])) [1, 2, 3, 0] [4, 5, 6, 7] (by decide) (p4 rfl rfl rfl rfl) (p4 rfl rfl rfl rfl) (Hn := fun x : Gs × Gs => [(Ur q16 136 (C2 y34.1 y34.2.1 x.1 y34.2.2.2.1 x.2)), (Rg Kf 32 x.1 y34.2.2.1), (Rg (Ki .i64) 3 x.2 y34.2.2.2.2.1), (Ur q32 135 (C3 y34.2.2.2.2.2.1 y34.2.2.2.2.2.2.1 y34.2.2.2.2.2.2.2.1 y34.2.2.2.2.2.2.2.2)), (Ur q5 4 [(Vb false)]), (Ur q4 27 (C1 0 0 0)), (Ur q3 27 (C0 a1_0 a1_1 a1_2 a1_3 a1_4 a1_5 a1_6)), (Ur q2 27 (C0 a0_0 a0_1 a0_2 a0_3 a0_4 a0_5 a0_6))]) (fun _ => rfl) rfl rfl) fun ⟨g34, gz5⟩ => ?_
   refine sa rfl ?_
   refine sx_nil' ?_
   show TX E K5 _
   exact tk [5, 4, 0, 1, 2] (u4 rfl rfl rfl rfl) (p5 rfl rfl rfl rfl rfl) (hK5 (.inr (y34.1, y34.2.1, y34.2.2.1, y34.2.2.2.1, y34.2.2.2.2.1, g34, gz5)) hp)
  ·dsimp only at hp
   cases hp
  ·dsimp only at hp
   cases hp
  ·dsimp only at hp
   cases hp
  ·dsimp only at hp
   cases hp
  ·dsimp only at hp
   cases hp
  ·dsimp only at hp
   cases hp
  dsimp only at hp
  cases hp
 ·dsimp only at hp
  refine so (ox_calln' (ent_fn' Try.func30 isn30 rfl rfl) (impl_geometry_sim _ _ _ _ _ _ _ hr16 : Sx.Fn Try.prog 30 [(Ag (C0 a0_0 a0_1 a0_2 a0_3 a0_4 a0_5 a0_6))] [] (fun x : Addr × Gs × Gs => (If 73 (Vp x.1))) (fun x => [(Ur x.1 139 (C2 y1.1 y1.2.1 x.2.1 y1.2.2.2.1 x.2.2)), (Rg Kf 32 x.2.1 y1.2.2.1), (Rg (Ki .i64) 3 x.2.2 y1.2.2.2.2)])) (Hn := fun x : Addr × Gs × Gs => [(Ur x.1 139 (C2 y1.1 y1.2.1 x.2.1 y1.2.2.2.1 x.2.2)), (Rg Kf 32 x.2.1 y1.2.2.1), (Rg (Ki .i64) 3 x.2.2 y1.2.2.2.2), (Ur q5 4 [(Vb false)]), (Ur q4 27 (C1 0 0 0)), (Ur q3 27 (C0 a1_0 a1_1 a1_2 a1_3 a1_4 a1_5 a1_6)), (Ur q2 27 (C0 a0_0 a0_1 a0_2 a0_3 a0_4 a0_5 a0_6))]) (fun _ => rfl) rfl rfl) fun ⟨q16, g16, gz1⟩ => ?_
  refine sa rfl ?_
  refine nk hK4 ?_
  refine cx_join' (fun (v : (Int × Int × Int × (List Nat) × Int × (List Int)) ⊕ (Int × Int × (List Nat) × Int × (List Int) × Gs × Gs)) => match v with | (.inl v5) => (⟨64, [⟨.fn (.func 41) ⟨[.pointer (some q4), .pointer (some q5)]⟩, #[]⟩], [(4, (Vp q4)), (5, (Vp q5)), (6, (If 134 (Ag (C19 v5.1 v5.2.1)))), (7, (If 73 (Vp q16)))], [(Ur q4 27 (C1 0 0 0)), (Ur q5 4 [(Vb false)]), (Ur q16 139 (C2 v5.2.1 v5.2.2.1 g16 v5.2.2.2.2.1 gz1)), (Rg Kf 32 g16 v5.2.2.2.1), (Rg (Ki .i64) 3 gz1 v5.2.2.2.2.2)]⟩ : St) | (.inr v6) => (⟨64, [⟨.fn (.func 41) ⟨[.pointer (some q4), .pointer (some q5)]⟩, #[]⟩], [(4, (Vp q4)), (5, (Vp q5)), (6, Ve), (7, (If 73 (Vp q16)))], [(Ur q4 27 (C1 0 0 0)), (Ur q5 4 [(Vb false)]), (Ur q16 139 (C2 v6.1 v6.2.1 v6.2.2.2.2.2.1 v6.2.2.2.1 v6.2.2.2.2.2.2)), (Rg Kf 32 v6.2.2.2.2.2.1 v6.2.2.1), (Rg (Ki .i64) 3 v6.2.2.2.2.2.2 v6.2.2.2.2.1)]⟩ : St)) (fun (v : (Int × Int × Int × (List Nat) × Int × (List Int)) ⊕ (Int × Int × (List Nat) × Int × (List Int) × Gs × Gs)) => match v with | (.inl v5) => (impl_Push_j3a k v5.1 v5.2.1 v5.2.2.1 v5.2.2.2.1 v5.2.2.2.2.1 v5.2.2.2.2.2 = some out) | (.inr v6) => (impl_Push_j3b k v6.1 v6.2.1 v6.2.2.1 v6.2.2.2.1 v6.2.2.2.2.1 = some out)) ?_ ?_
  ·rintro (⟨x23, x24, x25, x26, x27, x28⟩ | ⟨x29, x30, x31, x32, x33, g905, g906⟩) hp
   ·replace hp : impl_Push_j3a k x23 x24 x25 x26 x27 x28 = some out := hp
    unfold impl_Push_j3a at hp
    refine cx_seq' fun K15 hK15 => ?_
    refine cr fun K16 hK16 => ?_
    refine sm rfl ?_
    refine s0 (rd_binf' rfl rfl (bf_if (fun _ _ => by kernel_rfl) nil_neq59_if134)) ?_
    refine nk hK16 ?_
    refine cx_cond_t' rfl rfl ?_
    refine cr fun K17 hK17 => ?_
    refine sv (pls := [(0, 1), (1, 1), (2, 1), (3, 1), (4, 1), (5, 1), (6, 1)]) (qs := []) (r := (C1 0 0 0)) trivial Try.underlying27 has27 places27 info27 rfl rfl rfl ?_
    refine so (ox_store' (i := 0) (o := 0) rfl rfl (lv_ag _) (ar rfl rfl rfl rfl) rfl info27 rfl (H' := [(Ur q4 27 (C1 0 0 0)), (Ur q5 4 [(Vb false)]), (Ur q16 139 (C2 x24 x25 g16 x27 gz1)), (Rg Kf 32 g16 x26), (Rg (Ki .i64) 3 gz1 x28)]) rfl) fun _ => ?_
    refine so (ox_store' (i := 1) (o := 0) rfl rfl (lv_vl rfl rfl) (ar rfl rfl rfl rfl) rfl info4 rfl (H' := [(Ur q4 27 (C1 0 0 0)), (Ur q5 4 [(Vb false)]), (Ur q16 139 (C2 x24 x25 g16 x27 gz1)), (Rg Kf 32 g16 x26), (Rg (Ki .i64) 3 gz1 x28)]) rfl) fun _ => ?_
    refine nk hK17 ?_
    refine cx_retc' ?_
    replace hp := sj hp
    subst hp
    refine tx_leave' (.inl rfl) rfl idle41 rfl Try.func41 isn41 rfl ?_
    refine tk (L' := [(4, (Vp q4)), (5, (Vp q5))]) (H' := [(Ur q4 27 (C1 0 0 0)), (Ur q5 4 [(Vb false)])]) [0, 1] (u2 rfl rfl) (p2 rfl rfl) ?_
    exact tx_ret2' Try.results19 rfl () (rv_imp' (x := (Ag (C1 0 0 0))) (y := (Ag [(Vi 0), (Vi 0), (Vi 0), (Sl Kf []), (Sl (Ki .i64) []), (Sl (Kl (Ki .i64)) []), (Sl KT27 [])])) (rv_cell_agg' (i := 0) (o := 0) (nn := 7) rfl (ar rfl rfl rfl rfl) rfl agg27 rfl) (imp_ag ⟨imp_refl, imp_refl, imp_refl, imp_nil, imp_nil, imp_nil, imp_nil, trivial⟩)) (rv_cell' (i := 1) (o := 0) rfl (ar rfl rfl rfl rfl) rfl flat4) rfl (List.nil_sublist _)
   replace hp : impl_Push_j3b k x29 x30 x31 x32 x33 = some out := hp
   unfold impl_Push_j3b at hp
   refine cx_seq' fun K15 hK15 => ?_
   refine cr fun K16 hK16 => ?_
   refine sm rfl ?_
   refine s0 (rd_binf' rfl rfl (bf_vl (fun _ => by kernel_rfl) nil_neq59_nilif)) ?_
   refine nk hK16 ?_
   refine cx_cond_f' rfl rfl ?_
   refine cx_skip' ?_
   show TX E K15 _
   refine tx_k' hK15 ?_
   refine cr fun K18 hK18 => ?_
   refine sm rfl ?_
   obtain ⟨r63, hr63, hp⟩ := bind_some hp
   refine so (ox_callg' (ent_fn' Try.func34 isn34 rfl rfl) (impl_plain_v3_sim _ _ _ _ _ hr63 : Sx.Fn Try.prog 34 [(If 73 (Vp q16))] [(Ur q16 139 (C2 x29 x30 g905 x32 g906)), (Rg Kf 32 g905 x31), (Rg (Ki .i64) 3 g906 x33)] (fun x : Unit => (Ag (C5 r63.2.2.2.2.2.1 r63.2.2.2.2.2.2.1 r63.2.2.2.2.2.2.2.1 r63.2.2.2.2.2.2.2.2.1 r63.2.2.2.2.2.2.2.2.2))) (fun x => [(Ur q16 139 (C2 r63.1 r63.2.1 g905 r63.2.2.2.1 g906)), (Rg Kf 32 g905 r63.2.2.1), (Rg (Ki .i64) 3 g906 r63.2.2.2.2.1)])) [2, 3, 4] [0, 1] (by decide) (p3 rfl rfl rfl) (p2 rfl rfl) (Hn := fun x : Unit => [(Ur q16 139 (C2 r63.1 r63.2.1 g905 r63.2.2.2.1 g906)), (Rg Kf 32 g905 r63.2.2.1), (Rg (Ki .i64) 3 g906 r63.2.2.2.2.1), (Ur q4 27 (C1 0 0 0)), (Ur q5 4 [(Vb false)])]) (fun _ => rfl) rfl rfl) fun ⟨⟩ => ?_
   refine so (ox_store' (i := 3) (o := 0) rfl rfl (lv_ag _) (ar rfl rfl rfl rfl) rfl info27 rfl (H' := [(Ur q16 139 (C2 r63.1 r63.2.1 g905 r63.2.2.2.1 g906)), (Rg Kf 32 g905 r63.2.2.1), (Rg (Ki .i64) 3 g906 r63.2.2.2.2.1), (Ur q4 27 (C5 r63.2.2.2.2.2.1 r63.2.2.2.2.2.2.1 r63.2.2.2.2.2.2.2.1 r63.2.2.2.2.2.2.2.2.1 r63.2.2.2.2.2.2.2.2.2)), (Ur q5 4 [(Vb false)])]) rfl) fun _ => ?_
   refine so (ox_store' (i := 4) (o := 0) rfl rfl (lv_vl rfl rfl) (ar rfl rfl rfl rfl) rfl info4 rfl (H' := [(Ur q16 139 (C2 r63.1 r63.2.1 g905 r63.2.2.2.1 g906)), (Rg Kf 32 g905 r63.2.2.1), (Rg (Ki .i64) 3 g906 r63.2.2.2.2.1), (Ur q4 27 (C5 r63.2.2.2.2.2.1 r63.2.2.2.2.2.2.1 r63.2.2.2.2.2.2.2.1 r63.2.2.2.2.2.2.2.2.1 r63.2.2.2.2.2.2.2.2.2)), (Ur q5 4 [(Vb true)])]) rfl) fun _ => ?_
   refine nk hK18 ?_
   refine cx_retc' ?_
   replace hp := sj hp
   subst hp
   refine tx_leave' (.inl rfl) rfl idle41 rfl Try.func41 isn41 rfl ?_
   refine tk (L' := [(4, (Vp q4)), (5, (Vp q5))]) (H' := [(Ur q4 27 (C5 r63.2.2.2.2.2.1 r63.2.2.2.2.2.2.1 r63.2.2.2.2.2.2.2.1 r63.2.2.2.2.2.2.2.2.1 r63.2.2.2.2.2.2.2.2.2)), (Ur q5 4 [(Vb true)])]) [3, 4] (u2 rfl rfl) (p2 rfl rfl) ?_
   exact tx_ret2' Try.results19 rfl () (rv_imp' (x := (Ag (C5 r63.2.2.2.2.2.1 r63.2.2.2.2.2.2.1 r63.2.2.2.2.2.2.2.1 r63.2.2.2.2.2.2.2.2.1 r63.2.2.2.2.2.2.2.2.2))) (y := (Ag [(Vi r63.2.2.2.2.2.1), (Vi r63.2.2.2.2.2.2.1), (Vi r63.2.2.2.2.2.2.2.1), (Sl Kf r63.2.2.2.2.2.2.2.2.1), (Sl (Ki .i64) r63.2.2.2.2.2.2.2.2.2), (Sl (Kl (Ki .i64)) []), (Sl KT27 [])])) (rv_cell_agg' (i := 0) (o := 0) (nn := 7) rfl (ar rfl rfl rfl rfl) rfl agg27 rfl) (imp_ag ⟨imp_refl, imp_refl, imp_refl, imp_refl, imp_refl, imp_nil, imp_nil, trivial⟩)) (rv_cell' (i := 1) (o := 0) rfl (ar rfl rfl rfl rfl) rfl flat4) rfl (List.nil_sublist _)
  intro K5 hK5
  refine cr fun K6 hK6 => ?_
  refine sm rfl ?_
  refine nk hK6 ?_
  refine cx_block' ?_
  refine cr fun K7 hK7 => ?_
  refine st rfl (F := fun _ => .tuple #[.pointer none, .bool false]) as73_53_67 as_no ?_
  iterate 2 refine se rfl rfl ?_
  refine nk hK7 ?_
  refine cx_cond_f' rfl rfl ?_
  refine cr fun K8 hK8 => ?_
  refine st rfl (F := fun _ => .tuple #[.pointer none, .bool false]) as73_53_70 as_no ?_
  iterate 2 refine se rfl rfl ?_
  refine nk hK8 ?_
  refine cx_cond_f' rfl rfl ?_
  refine cr fun K9 hK9 => ?_
  refine st rfl (F := fun v => .tuple #[v, .bool true]) as73_53_73k as_ok ?_
  iterate 2 refine se rfl rfl ?_
  refine nk hK9 ?_
  refine cx_cond_t' rfl rfl ?_
  refine cr fun K20 hK20 => ?_
  refine sa rfl ?_
  refine nk hK20 ?_
  refine cx_region' ?_
  refine sm rfl ?_
  refine s0 (rd_load_agg' (i := 5) (o := 0) (nn := 7) rfl (ar rfl rfl rfl rfl) rfl agg27 (l' := (C0 a1_0 a1_1 a1_2 a1_3 a1_4 a1_5 a1_6)) rfl) ?_
  obtain ⟨r40, hr40, hp⟩ := bind_some hp
  rcases r40 with y56 | y56 | y56 | y56 | y56 | y56 | y56 | y56
  ·dsimp only at hp
   cases hp
  ·dsimp only at hp
   refine so (ox_calln' (ent_fn' Try.func30 isn30 rfl rfl) (impl_geometry_sim _ _ _ _ _ _ _ hr40 : Sx.Fn Try.prog 30 [(Ag (C0 a1_0 a1_1 a1_2 a1_3 a1_4 a1_5 a1_6))] [] (fun x : Addr × Gs × Gs => (If 75 (Vp x.1))) (fun x => [(Ur x.1 138 (C3 y56.1 y56.2.1 y56.2.2.1 y56.2.2.2))])) (Hn := fun x : Addr × Gs × Gs => [(Ur x.1 138 (C3 y56.1 y56.2.1 y56.2.2.1 y56.2.2.2)), (Ur q16 139 (C2 y1.1 y1.2.1 g16 y1.2.2.2.1 gz1)), (Rg Kf 32 g16 y1.2.2.1), (Rg (Ki .i64) 3 gz1 y1.2.2.2.2), (Ur q5 4 [(Vb false)]), (Ur q4 27 (C1 0 0 0)), (Ur q3 27 (C0 a1_0 a1_1 a1_2 a1_3 a1_4 a1_5 a1_6)), (Ur q2 27 (C0 a0_0 a0_1 a0_2 a0_3 a0_4 a0_5 a0_6))]) (fun _ => rfl) rfl rfl) fun ⟨q40, g40, gz6⟩ => ?_
   refine st rfl (F := fun v => v) as75_53_75 as_id ?_
   obtain ⟨r42, hr42, hp⟩ := bind_some hp
   rcases r42 with y59 | y59
   ·dsimp only at hp
    refine so (ox_callg' (ent_fn' Try.func44 isn44 rfl rfl) (gogeom_MultiLineString_Push_sim _ _ _ _ _ _ _ _ _ hr42 : Sx.Fn Try.prog 44 [(Vp q16), (Vp q40)] [(Ur q16 139 (C2 y1.1 y1.2.1 g16 y1.2.2.2.1 gz1)), (Rg Kf 32 g16 y1.2.2.1), (Rg (Ki .i64) 3 gz1 y1.2.2.2.2), (Ur q40 138 (C3 y56.1 y56.2.1 y56.2.2.1 y56.2.2.2))] (fun x : Gs × Gs => (If 134 (Ag (C19 y59.2.2.2.2.2.1 y59.1)))) (fun x => [(Ur q16 139 (C2 y59.1 y59.2.1 g16 y59.2.2.2.1 gz1)), (Rg Kf 32 g16 y59.2.2.1), (Rg (Ki .i64) 3 gz1 y59.2.2.2.2.1), (Ur q40 138 (C3 y59.2.2.2.2.2.1 y59.2.2.2.2.2.2.1 y59.2.2.2.2.2.2.2.1 y59.2.2.2.2.2.2.2.2))])) [1, 2, 3, 0] [4, 5, 6, 7] (by decide) (p4 rfl rfl rfl rfl) (p4 rfl rfl rfl rfl) (Hn := fun x : Gs × Gs => [(Ur q16 139 (C2 y59.1 y59.2.1 g16 y59.2.2.2.1 gz1)), (Rg Kf 32 g16 y59.2.2.1), (Rg (Ki .i64) 3 gz1 y59.2.2.2.2.1), (Ur q40 138 (C3 y59.2.2.2.2.2.1 y59.2.2.2.2.2.2.1 y59.2.2.2.2.2.2.2.1 y59.2.2.2.2.2.2.2.2)), (Ur q5 4 [(Vb false)]), (Ur q4 27 (C1 0 0 0)), (Ur q3 27 (C0 a1_0 a1_1 a1_2 a1_3 a1_4 a1_5 a1_6)), (Ur q2 27 (C0 a0_0 a0_1 a0_2 a0_3 a0_4 a0_5 a0_6))]) (fun _ => rfl) rfl rfl) fun ⟨g42, gz7⟩ => ?_
    refine sa rfl ?_
    refine sx_nil' ?_
    show TX E K5 _
    exact tk [5, 4, 0, 1, 2] (u4 rfl rfl rfl rfl) (p5 rfl rfl rfl rfl rfl) (hK5 (.inl (y59.2.2.2.2.2.1, y59.1, y59.2.1, y59.2.2.1, y59.2.2.2.1, y59.2.2.2.2.1)) hp)
   dsimp only at hp
   refine so (ox_callg' (ent_fn' Try.func44 isn44 rfl rfl) (gogeom_MultiLineString_Push_sim _ _ _ _ _ _ _ _ _ hr42 : Sx.Fn Try.prog 44 [(Vp q16), (Vp q40)] [(Ur q16 139 (C2 y1.1 y1.2.1 g16 y1.2.2.2.1 gz1)), (Rg Kf 32 g16 y1.2.2.1), (Rg (Ki .i64) 3 gz1 y1.2.2.2.2), (Ur q40 138 (C3 y56.1 y56.2.1 y56.2.2.1 y56.2.2.2))] (fun x : Gs × Gs => Ve) (fun x => [(Ur q16 139 (C2 y59.1 y59.2.1 x.1 y59.2.2.2.1 x.2)), (Rg Kf 32 x.1 y59.2.2.1), (Rg (Ki .i64) 3 x.2 y59.2.2.2.2.1), (Ur q40 138 (C3 y59.2.2.2.2.2.1 y59.2.2.2.2.2.2.1 y59.2.2.2.2.2.2.2.1 y59.2.2.2.2.2.2.2.2))])) [1, 2, 3, 0] [4, 5, 6, 7] (by decide) (p4 rfl rfl rfl rfl) (p4 rfl rfl rfl rfl) (Hn := fun x : Gs × Gs => [(Ur q16 139 (C2 y59.1 y59.2.1 x.1 y59.2.2.2.1 x.2)), (Rg Kf 32 x.1 y59.2.2.1), (Rg (Ki .i64) 3 x.2 y59.2.2.2.2.1), (Ur q40 138 (C3 y59.2.2.2.2.2.1 y59.2.2.2.2.2.2.1 y59.2.2.2.2.2.2.2.1 y59.2.2.2.2.2.2.2.2)), (Ur q5 4 [(Vb false)]), (Ur q4 27 (C1 0 0 0)), (Ur q3 27 (C0 a1_0 a1_1 a1_2 a1_3 a1_4 a1_5 a1_6)), (Ur q2 27 (C0 a0_0 a0_1 a0_2 a0_3 a0_4 a0_5 a0_6))]) (fun _ => rfl) rfl rfl) fun ⟨g42, gz7⟩ => ?_
   refine sa rfl ?_
   refine sx_nil' ?_
   show TX E K5 _
   exact tk [5, 4, 0, 1, 2] (u4 rfl rfl rfl rfl) (p5 rfl rfl rfl rfl rfl) (hK5 (.inr (y59.1, y59.2.1, y59.2.2.1, y59.2.2.2.1, y59.2.2.2.2.1, g42, gz7)) hp)
  ·dsimp only at hp
   cases hp
  ·dsimp only at hp
   cases hp
  ·dsimp only at hp
   cases hp
  ·dsimp only at hp
   cases hp
  ·dsimp only at hp
   cases hp
  dsimp only at hp
  cases hp
 ·dsimp only at hp
  refine so (ox_calln' (ent_fn' Try.func30 isn30 rfl rfl) (impl_geometry_sim _ _ _ _ _ _ _ hr16 : Sx.Fn Try.prog 30 [(Ag (C0 a0_0 a0_1 a0_2 a0_3 a0_4 a0_5 a0_6))] [] (fun x : Addr × Gs × Gs => (If 76 (Vp x.1))) (fun x => [(Ur x.1 143 (C2 y1.1 y1.2.1 x.2.1 y1.2.2.2.1 x.2.2)), (Rg Kf 32 x.2.1 y1.2.2.1), (Rg (Kl (Ki .i64)) 23 x.2.2 y1.2.2.2.2)])) (Hn := fun x : Addr × Gs × Gs => [(Ur x.1 143 (C2 y1.1 y1.2.1 x.2.1 y1.2.2.2.1 x.2.2)), (Rg Kf 32 x.2.1 y1.2.2.1), (Rg (Kl (Ki .i64)) 23 x.2.2 y1.2.2.2.2), (Ur q5 4 [(Vb false)]), (Ur q4 27 (C1 0 0 0)), (Ur q3 27 (C0 a1_0 a1_1 a1_2 a1_3 a1_4 a1_5 a1_6)), (Ur q2 27 (C0 a0_0 a0_1 a0_2 a0_3 a0_4 a0_5 a0_6))]) (fun _ => rfl) rfl rfl) fun ⟨q16, g16, gz1⟩ => ?_
  refine sa rfl ?_
  refine nk hK4 ?_
  refine cx_join' (fun (v : (Int × Int × Int × (List Nat) × Int × (List (List Int))) ⊕ (Int × Int × (List Nat) × Int × (List (List Int)) × Gs × Gs)) => match v with | (.inl v7) => (⟨64, [⟨.fn (.func 41) ⟨[.pointer (some q4), .pointer (some q5)]⟩, #[]⟩], [(4, (Vp q4)), (5, (Vp q5)), (6, (If 134 (Ag (C19 v7.1 v7.2.1)))), (7, (If 76 (Vp q16)))], [(Ur q4 27 (C1 0 0 0)), (Ur q5 4 [(Vb false)]), (Ur q16 143 (C2 v7.2.1 v7.2.2.1 g16 v7.2.2.2.2.1 gz1)), (Rg Kf 32 g16 v7.2.2.2.1), (Rg (Kl (Ki .i64)) 23 gz1 v7.2.2.2.2.2)]⟩ : St) | (.inr v8) => (⟨64, [⟨.fn (.func 41) ⟨[.pointer (some q4), .pointer (some q5)]⟩, #[]⟩], [(4, (Vp q4)), (5, (Vp q5)), (6, Ve), (7, (If 76 (Vp q16)))], [(Ur q4 27 (C1 0 0 0)), (Ur q5 4 [(Vb false)]), (Ur q16 143 (C2 v8.1 v8.2.1 v8.2.2.2.2.2.1 v8.2.2.2.1 v8.2.2.2.2.2.2)), (Rg Kf 32 v8.2.2.2.2.2.1 v8.2.2.1), (Rg (Kl (Ki .i64)) 23 v8.2.2.2.2.2.2 v8.2.2.2.2.1)]⟩ : St)) (fun (v : (Int × Int × Int × (List Nat) × Int × (List (List Int))) ⊕ (Int × Int × (List Nat) × Int × (List (List Int)) × Gs × Gs)) => match v with | (.inl v7) => (impl_Push_j4a k v7.1 v7.2.1 v7.2.2.1 v7.2.2.2.1 v7.2.2.2.2.1 v7.2.2.2.2.2 = some out) | (.inr v8) => (impl_Push_j4b k v8.1 v8.2.1 v8.2.2.1 v8.2.2.2.1 v8.2.2.2.2.1 = some out)) ?_ ?_
  ·rintro (⟨x34, x35, x36, x37, x38, x39⟩ | ⟨x40, x41, x42, x43, x44, g907, g908⟩) hp
   ·replace hp : impl_Push_j4a k x34 x35 x36 x37 x38 x39 = some out := hp
    unfold impl_Push_j4a at hp
    refine cx_seq' fun K15 hK15 => ?_
    refine cr fun K16 hK16 => ?_
    refine sm rfl ?_
    refine s0 (rd_binf' rfl rfl (bf_if (fun _ _ => by kernel_rfl) nil_neq59_if134)) ?_
    refine nk hK16 ?_
    refine cx_cond_t' rfl rfl ?_
    refine cr fun K17 hK17 => ?_
    refine sv (pls := [(0, 1), (1, 1), (2, 1), (3, 1), (4, 1), (5, 1), (6, 1)]) (qs := []) (r := (C1 0 0 0)) trivial Try.underlying27 has27 places27 info27 rfl rfl rfl ?_
    refine so (ox_store' (i := 0) (o := 0) rfl rfl (lv_ag _) (ar rfl rfl rfl rfl) rfl info27 rfl (H' := [(Ur q4 27 (C1 0 0 0)), (Ur q5 4 [(Vb false)]), (Ur q16 143 (C2 x35 x36 g16 x38 gz1)), (Rg Kf 32 g16 x37), (Rg (Kl (Ki .i64)) 23 gz1 x39)]) rfl) fun _ => ?_
    refine so (ox_store' (i := 1) (o := 0) rfl rfl (lv_vl rfl rfl) (ar rfl rfl rfl rfl) rfl info4 rfl (H' := [(Ur q4 27 (C1 0 0 0)), (Ur q5 4 [(Vb false)]), (Ur q16 143 (C2 x35 x36 g16 x38 gz1)), (Rg Kf 32 g16 x37), (Rg (Kl (Ki .i64)) 23 gz1 x39)]) rfl) fun _ => ?_
    refine nk hK17 ?_
    refine cx_retc' ?_
    replace hp := sj hp
    subst hp
    refine tx_leave' (.inl rfl) rfl idle41 rfl Try.func41 isn41 rfl ?_
    refine tk (L' := [(4, (Vp q4)), (5, (Vp q5))]) (H' := [(Ur q4 27 (C1 0 0 0)), (Ur q5 4 [(Vb false)])]) [0, 1] (u2 rfl rfl) (p2 rfl rfl) ?_
    exact tx_ret2' Try.results19 rfl () (rv_imp' (x := (Ag (C1 0 0 0))) (y := (Ag [(Vi 0), (Vi 0), (Vi 0), (Sl Kf []), (Sl (Ki .i64) []), (Sl (Kl (Ki .i64)) []), (Sl KT27 [])])) (rv_cell_agg' (i := 0) (o := 0) (nn := 7) rfl (ar rfl rfl rfl rfl) rfl agg27 rfl) (imp_ag ⟨imp_refl, imp_refl, imp_refl, imp_nil, imp_nil, imp_nil, imp_nil, trivial⟩)) (rv_cell' (i := 1) (o := 0) rfl (ar rfl rfl rfl rfl) rfl flat4) rfl (List.nil_sublist _)
   replace hp : impl_Push_j4b k x40 x41 x42 x43 x44 = some out := hp
   unfold impl_Push_j4b at hp
   refine cx_seq' fun K15 hK15 => ?_
   refine cr fun K16 hK16 => ?_
   refine sm rfl ?_
   refine s0 (rd_binf' rfl rfl (bf_vl (fun _ => by kernel_rfl) nil_neq59_nilif)) ?_
   refine nk hK16 ?_
   refine cx_cond_f' rfl rfl ?_
   refine cx_skip' ?_
   show TX E K15 _
   refine tx_k' hK15 ?_
   refine cr fun K18 hK18 => ?_
   refine sm rfl ?_
   obtain ⟨r63, hr63, hp⟩ := bind_some hp
   refine so (ox_callg' (ent_fn' Try.func34 isn34 rfl rfl) (impl_plain_v4_sim _ _ _ _ _ hr63 : Sx.Fn Try.prog 34 [(If 76 (Vp q16))] [(Ur q16 143 (C2 x40 x41 g907 x43 g908)), (Rg Kf 32 g907 x42), (Rg (Kl (Ki .i64)) 23 g908 x44)] (fun x : Unit => (Ag (C8 r63.2.2.2.2.2.1 r63.2.2.2.2.2.2.1 r63.2.2.2.2.2.2.2.1 r63.2.2.2.2.2.2.2.2.1 r63.2.2.2.2.2.2.2.2.2.1 r63.2.2.2.2.2.2.2.2.2.2))) (fun x => [(Ur q16 143 (C2 r63.1 r63.2.1 g907 r63.2.2.2.1 g908)), (Rg Kf 32 g907 r63.2.2.1), (Rg (Kl (Ki .i64)) 23 g908 r63.2.2.2.2.1)])) [2, 3, 4] [0, 1] (by decide) (p3 rfl rfl rfl) (p2 rfl rfl) (Hn := fun x : Unit => [(Ur q16 143 (C2 r63.1 r63.2.1 g907 r63.2.2.2.1 g908)), (Rg Kf 32 g907 r63.2.2.1), (Rg (Kl (Ki .i64)) 23 g908 r63.2.2.2.2.1), (Ur q4 27 (C1 0 0 0)), (Ur q5 4 [(Vb false)])]) (fun _ => rfl) rfl rfl) fun ⟨⟩ => ?_
   refine so (ox_store' (i := 3) (o := 0) rfl rfl (lv_ag _) (ar rfl rfl rfl rfl) rfl info27 rfl (H' := [(Ur q16 143 (C2 r63.1 r63.2.1 g907 r63.2.2.2.1 g908)), (Rg Kf 32 g907 r63.2.2.1), (Rg (Kl (Ki .i64)) 23 g908 r63.2.2.2.2.1), (Ur q4 27 (C8 r63.2.2.2.2.2.1 r63.2.2.2.2.2.2.1 r63.2.2.2.2.2.2.2.1 r63.2.2.2.2.2.2.2.2.1 r63.2.2.2.2.2.2.2.2.2.1 r63.2.2.2.2.2.2.2.2.2.2)), (Ur q5 4 [(Vb false)])]) rfl) fun _ => ?_
   refine so (ox_store' (i := 4) (o := 0) rfl rfl (lv_vl rfl rfl) (ar rfl rfl rfl rfl) rfl info4 rfl (H' := [(Ur q16 143 (C2 r63.1 r63.2.1 g907 r63.2.2.2.1 g908)), (Rg Kf 32 g907 r63.2.2.1), (Rg (Kl (Ki .i64)) 23 g908 r63.2.2.2.2.1), (Ur q4 27 (C8 r63.2.2.2.2.2.1 r63.2.2.2.2.2.2.1 r63.2.2.2.2.2.2.2.1 r63.2.2.2.2.2.2.2.2.1 r63.2.2.2.2.2.2.2.2.2.1 r63.2.2.2.2.2.2.2.2.2.2)), (Ur q5 4 [(Vb true)])]) rfl) fun _ => ?_
   refine nk hK18 ?_
   refine cx_retc' ?_
   replace hp := sj hp
   subst hp
   refine tx_leave' (.inl rfl) rfl idle41 rfl Try.func41 isn41 rfl ?_
   refine tk (L' := [(4, (Vp q4)), (5, (Vp q5))]) (H' := [(Ur q4 27 (C8 r63.2.2.2.2.2.1 r63.2.2.2.2.2.2.1 r63.2.2.2.2.2.2.2.1 r63.2.2.2.2.2.2.2.2.1 r63.2.2.2.2.2.2.2.2.2.1 r63.2.2.2.2.2.2.2.2.2.2)), (Ur q5 4 [(Vb true)])]) [3, 4] (u2 rfl rfl) (p2 rfl rfl) ?_
   exact tx_ret2' Try.results19 rfl () (rv_imp' (x := (Ag (C8 r63.2.2.2.2.2.1 r63.2.2.2.2.2.2.1 r63.2.2.2.2.2.2.2.1 r63.2.2.2.2.2.2.2.2.1 r63.2.2.2.2.2.2.2.2.2.1 r63.2.2.2.2.2.2.2.2.2.2))) (y := (Ag [(Vi r63.2.2.2.2.2.1), (Vi r63.2.2.2.2.2.2.1), (Vi r63.2.2.2.2.2.2.2.1), (Sl Kf r63.2.2.2.2.2.2.2.2.1), (Sl (Ki .i64) r63.2.2.2.2.2.2.2.2.2.1), (Sl (Kl (Ki .i64)) r63.2.2.2.2.2.2.2.2.2.2), (Sl KT27 [])])) (rv_cell_agg' (i := 0) (o := 0) (nn := 7) rfl (ar rfl rfl rfl rfl) rfl agg27 rfl) (imp_ag ⟨imp_refl, imp_refl, imp_refl, imp_refl, imp_refl, imp_refl, imp_nil, trivial⟩)) (rv_cell' (i := 1) (o := 0) rfl (ar rfl rfl rfl rfl) rfl flat4) rfl (List.nil_sublist _)
  intro K5 hK5
  refine cr fun K6 hK6 => ?_
  refine sm rfl ?_
  refine nk hK6 ?_
  refine cx_block' ?_
  refine cr fun K7 hK7 => ?_
  refine st rfl (F := fun _ => .tuple #[.pointer none, .bool false]) as76_53_67 as_no ?_
  iterate 2 refine se rfl rfl ?_
  refine nk hK7 ?_
  refine cx_cond_f' rfl rfl ?_
  refine cr fun K8 hK8 => ?_
  refine st rfl (F := fun _ => .tuple #[.pointer none, .bool false]) as76_53_70 as_no ?_
  iterate 2 refine se rfl rfl ?_
  refine nk hK8 ?_
  refine cx_cond_f' rfl rfl ?_
  refine cr fun K9 hK9 => ?_
  refine st rfl (F := fun _ => .tuple #[.pointer none, .bool false]) as76_53_73 as_no ?_
  iterate 2 refine se rfl rfl ?_
  refine nk hK9 ?_
  refine cx_cond_f' rfl rfl ?_
  refine cr fun K10 hK10 => ?_
  refine st rfl (F := fun v => .tuple #[v, .bool true]) as76_53_76k as_ok ?_
  iterate 2 refine se rfl rfl ?_
  refine nk hK10 ?_
  refine cx_cond_t' rfl rfl ?_
  refine cr fun K21 hK21 => ?_
  refine sa rfl ?_
  refine nk hK21 ?_
  refine cx_region' ?_
  refine sm rfl ?_
  refine s0 (rd_load_agg' (i := 5) (o := 0) (nn := 7) rfl (ar rfl rfl rfl rfl) rfl agg27 (l' := (C0 a1_0 a1_1 a1_2 a1_3 a1_4 a1_5 a1_6)) rfl) ?_
  obtain ⟨r48, hr48, hp⟩ := bind_some hp
  rcases r48 with y80 | y80 | y80 | y80 | y80 | y80 | y80 | y80
  ·dsimp only at hp
   cases hp
  ·dsimp only at hp
   cases hp
  ·dsimp only at hp
   cases hp
  ·dsimp only at hp
   refine so (ox_calln' (ent_fn' Try.func30 isn30 rfl rfl) (impl_geometry_sim _ _ _ _ _ _ _ hr48 : Sx.Fn Try.prog 30 [(Ag (C0 a1_0 a1_1 a1_2 a1_3 a1_4 a1_5 a1_6))] [] (fun x : Addr × Gs × Gs => (If 67 (Vp x.1))) (fun x => [(Ur x.1 132 (C2 y80.1 y80.2.1 x.2.1 y80.2.2.2.1 x.2.2)), (Rg Kf 32 x.2.1 y80.2.2.1), (Rg (Ki .i64) 3 x.2.2 y80.2.2.2.2)])) (Hn := fun x : Addr × Gs × Gs => [(Ur x.1 132 (C2 y80.1 y80.2.1 x.2.1 y80.2.2.2.1 x.2.2)), (Rg Kf 32 x.2.1 y80.2.2.1), (Rg (Ki .i64) 3 x.2.2 y80.2.2.2.2), (Ur q16 143 (C2 y1.1 y1.2.1 g16 y1.2.2.2.1 gz1)), (Rg Kf 32 g16 y1.2.2.1), (Rg (Kl (Ki .i64)) 23 gz1 y1.2.2.2.2), (Ur q5 4 [(Vb false)]), (Ur q4 27 (C1 0 0 0)), (Ur q3 27 (C0 a1_0 a1_1 a1_2 a1_3 a1_4 a1_5 a1_6)), (Ur q2 27 (C0 a0_0 a0_1 a0_2 a0_3 a0_4 a0_5 a0_6))]) (fun _ => rfl) rfl rfl) fun ⟨q48, g48, gz8⟩ => ?_
   refine st rfl (F := fun v => v) as67_53_67 as_id ?_
   obtain ⟨r50, hr50, hp⟩ := bind_some hp
   rcases r50 with y87 | y87
   ·dsimp only at hp
    refine so (ox_callg' (ent_fn' Try.func45 isn45 rfl rfl) (gogeom_MultiPolygon_Push_sim _ _ _ _ _ _ _ _ _ _ hr50 : Sx.Fn Try.prog 45 [(Vp q16), (Vp q48)] [(Ur q16 143 (C2 y1.1 y1.2.1 g16 y1.2.2.2.1 gz1)), (Rg Kf 32 g16 y1.2.2.1), (Rg (Kl (Ki .i64)) 23 gz1 y1.2.2.2.2), (Ur q48 132 (C2 y80.1 y80.2.1 g48 y80.2.2.2.1 gz8)), (Rg Kf 32 g48 y80.2.2.1), (Rg (Ki .i64) 3 gz8 y80.2.2.2.2)] (fun x : Gs × Gs => (If 134 (Ag (C19 y87.2.2.2.2.2.1 y87.1)))) (fun x => [(Ur q16 143 (C2 y87.1 y87.2.1 g16 y87.2.2.2.1 gz1)), (Rg Kf 32 g16 y87.2.2.1), (Rg (Kl (Ki .i64)) 23 gz1 y87.2.2.2.2.1), (Ur q48 132 (C2 y87.2.2.2.2.2.1 y87.2.2.2.2.2.2.1 g48 y87.2.2.2.2.2.2.2.2.1 gz8)), (Rg Kf 32 g48 y87.2.2.2.2.2.2.2.1), (Rg (Ki .i64) 3 gz8 y87.2.2.2.2.2.2.2.2.2)])) [3, 4, 5, 0, 1, 2] [6, 7, 8, 9] (by decide) (p6 rfl rfl rfl rfl rfl rfl) (p4 rfl rfl rfl rfl) (Hn := fun x : Gs × Gs => [(Ur q16 143 (C2 y87.1 y87.2.1 g16 y87.2.2.2.1 gz1)), (Rg Kf 32 g16 y87.2.2.1), (Rg (Kl (Ki .i64)) 23 gz1 y87.2.2.2.2.1), (Ur q48 132 (C2 y87.2.2.2.2.2.1 y87.2.2.2.2.2.2.1 g48 y87.2.2.2.2.2.2.2.2.1 gz8)), (Rg Kf 32 g48 y87.2.2.2.2.2.2.2.1), (Rg (Ki .i64) 3 gz8 y87.2.2.2.2.2.2.2.2.2), (Ur q5 4 [(Vb false)]), (Ur q4 27 (C1 0 0 0)), (Ur q3 27 (C0 a1_0 a1_1 a1_2 a1_3 a1_4 a1_5 a1_6)), (Ur q2 27 (C0 a0_0 a0_1 a0_2 a0_3 a0_4 a0_5 a0_6))]) (fun _ => rfl) rfl rfl) fun ⟨g50, gz9⟩ => ?_
    refine sa rfl ?_
    refine sx_nil' ?_
    show TX E K5 _
    exact tk [7, 6, 0, 1, 2] (u4 rfl rfl rfl rfl) (p5 rfl rfl rfl rfl rfl) (hK5 (.inl (y87.2.2.2.2.2.1, y87.1, y87.2.1, y87.2.2.1, y87.2.2.2.1, y87.2.2.2.2.1)) hp)
   dsimp only at hp
   refine so (ox_callg' (ent_fn' Try.func45 isn45 rfl rfl) (gogeom_MultiPolygon_Push_sim _ _ _ _ _ _ _ _ _ _ hr50 : Sx.Fn Try.prog 45 [(Vp q16), (Vp q48)] [(Ur q16 143 (C2 y1.1 y1.2.1 g16 y1.2.2.2.1 gz1)), (Rg Kf 32 g16 y1.2.2.1), (Rg (Kl (Ki .i64)) 23 gz1 y1.2.2.2.2), (Ur q48 132 (C2 y80.1 y80.2.1 g48 y80.2.2.2.1 gz8)), (Rg Kf 32 g48 y80.2.2.1), (Rg (Ki .i64) 3 gz8 y80.2.2.2.2)] (fun x : Gs × Gs => Ve) (fun x => [(Ur q16 143 (C2 y87.1 y87.2.1 x.1 y87.2.2.2.1 x.2)), (Rg Kf 32 x.1 y87.2.2.1), (Rg (Kl (Ki .i64)) 23 x.2 y87.2.2.2.2.1), (Ur q48 132 (C2 y87.2.2.2.2.2.1 y87.2.2.2.2.2.2.1 g48 y87.2.2.2.2.2.2.2.2.1 gz8)), (Rg Kf 32 g48 y87.2.2.2.2.2.2.2.1), (Rg (Ki .i64) 3 gz8 y87.2.2.2.2.2.2.2.2.2)])) [3, 4, 5, 0, 1, 2] [6, 7, 8, 9] (by decide) (p6 rfl rfl rfl rfl rfl rfl) (p4 rfl rfl rfl rfl) (Hn := fun x : Gs × Gs => [(Ur q16 143 (C2 y87.1 y87.2.1 x.1 y87.2.2.2.1 x.2)), (Rg Kf 32 x.1 y87.2.2.1), (Rg (Kl (Ki .i64)) 23 x.2 y87.2.2.2.2.1), (Ur q48 132 (C2 y87.2.2.2.2.2.1 y87.2.2.2.2.2.2.1 g48 y87.2.2.2.2.2.2.2.2.1 gz8)), (Rg Kf 32 g48 y87.2.2.2.2.2.2.2.1), (Rg (Ki .i64) 3 gz8 y87.2.2.2.2.2.2.2.2.2), (Ur q5 4 [(Vb false)]), (Ur q4 27 (C1 0 0 0)), (Ur q3 27 (C0 a1_0 a1_1 a1_2 a1_3 a1_4 a1_5 a1_6)), (Ur q2 27 (C0 a0_0 a0_1 a0_2 a0_3 a0_4 a0_5 a0_6))]) (fun _ => rfl) rfl rfl) fun ⟨g50, gz9⟩ => ?_
   refine sa rfl ?_
   refine sx_nil' ?_
   show TX E K5 _
   exact tk [7, 6, 0, 1, 2] (u4 rfl rfl rfl rfl) (p5 rfl rfl rfl rfl rfl) (hK5 (.inr (y87.1, y87.2.1, y87.2.2.1, y87.2.2.2.1, y87.2.2.2.2.1, g50, gz9)) hp)
  ·dsimp only at hp
   cases hp
  ·dsimp only at hp
   cases hp
  ·dsimp only at hp
   cases hp
  dsimp only at hp
  cases hp
 dsimp only at hp
 refine so (ox_calln' (ent_fn' Try.func30 isn30 rfl rfl) (impl_geometry_sim _ _ _ _ _ _ _ hr16 : Sx.Fn Try.prog 30 [(Ag (C0 a0_0 a0_1 a0_2 a0_3 a0_4 a0_5 a0_6))] [] (fun x : Addr × Gs × Gs => (If 57 (Vp x.1))) (fun x => [(Ur x.1 114 (C4 y1.1 x.2.1 y1.2.2)), (Rg KG53 53 x.2.1 y1.2.1)])) (Hn := fun x : Addr × Gs × Gs => [(Ur x.1 114 (C4 y1.1 x.2.1 y1.2.2)), (Rg KG53 53 x.2.1 y1.2.1), (Ur q5 4 [(Vb false)]), (Ur q4 27 (C1 0 0 0)), (Ur q3 27 (C0 a1_0 a1_1 a1_2 a1_3 a1_4 a1_5 a1_6)), (Ur q2 27 (C0 a0_0 a0_1 a0_2 a0_3 a0_4 a0_5 a0_6))]) (fun _ => rfl) rfl rfl) fun ⟨q16, g16, gz1⟩ => ?_
 refine sa rfl ?_
 refine nk hK4 ?_
 refine cx_join' (fun (v : (Int × (List G53) × Int × Gs) ⊕ (Int × Int × (List G53) × Int)) => match v with | (.inl v9) => (⟨64, [⟨.fn (.func 41) ⟨[.pointer (some q4), .pointer (some q5)]⟩, #[]⟩], [(4, (Vp q4)), (5, (Vp q5)), (6, Ve), (7, (If 57 (Vp q16)))], [(Ur q4 27 (C1 0 0 0)), (Ur q5 4 [(Vb false)]), (Ur q16 114 (C4 v9.1 v9.2.2.2 v9.2.2.1)), (Rg KG53 53 v9.2.2.2 v9.2.1)]⟩ : St) | (.inr v10) => (⟨64, [⟨.fn (.func 41) ⟨[.pointer (some q4), .pointer (some q5)]⟩, #[]⟩], [(4, (Vp q4)), (5, (Vp q5)), (6, (If 134 (Ag (C19 v10.1 v10.2.1)))), (7, (If 57 (Vp q16)))], [(Ur q4 27 (C1 0 0 0)), (Ur q5 4 [(Vb false)]), (Ur q16 114 (C4 v10.2.1 g16 v10.2.2.2)), (Rg KG53 53 g16 v10.2.2.1)]⟩ : St)) (fun (v : (Int × (List G53) × Int × Gs) ⊕ (Int × Int × (List G53) × Int)) => match v with | (.inl v9) => (impl_Push_j5a k v9.1 v9.2.1 v9.2.2.1 = some out) | (.inr v10) => (impl_Push_j5b k v10.1 v10.2.1 v10.2.2.1 v10.2.2.2 = some out)) ?_ ?_
 ·rintro (⟨x45, x46, x47, g909⟩ | ⟨x48, x49, x50, x51⟩) hp
  ·replace hp : impl_Push_j5a k x45 x46 x47 = some out := hp
   unfold impl_Push_j5a at hp
   refine cx_seq' fun K15 hK15 => ?_
   refine cr fun K16 hK16 => ?_
   refine sm rfl ?_
   refine s0 (rd_binf' rfl rfl (bf_vl (fun _ => by kernel_rfl) nil_neq59_nilif)) ?_
   refine nk hK16 ?_
   refine cx_cond_f' rfl rfl ?_
   refine cx_skip' ?_
   show TX E K15 _
   refine tx_k' hK15 ?_
   refine cr fun K18 hK18 => ?_
   refine sm rfl ?_
   obtain ⟨r63, hr63, hp⟩ := bind_some hp
   refine so (ox_callg' (ent_fn' Try.func34 isn34 rfl rfl) (impl_plain_v5_sim _ _ _ hr63 : Sx.Fn Try.prog 34 [(If 57 (Vp q16))] [(Ur q16 114 (C4 x45 g909 x47)), (Rg KG53 53 g909 x46)] (fun x : Unit => (Ag (C18 r63.2.2.2.1 r63.2.2.2.2.1 r63.2.2.2.2.2.1 r63.2.2.2.2.2.2))) (fun x => [(Ur q16 114 (C14 r63.1 r63.2.1 r63.2.2.1))])) [2, 3] [0, 1] (by decide) (p2 rfl rfl) (p2 rfl rfl) (Hn := fun x : Unit => [(Ur q16 114 (C14 r63.1 r63.2.1 r63.2.2.1)), (Ur q4 27 (C1 0 0 0)), (Ur q5 4 [(Vb false)])]) (fun _ => rfl) rfl rfl) fun ⟨⟩ => ?_
   refine so (ox_store' (i := 1) (o := 0) rfl rfl (lv_ag _) (ar rfl rfl rfl rfl) rfl info27 rfl (H' := [(Ur q16 114 (C14 r63.1 r63.2.1 r63.2.2.1)), (Ur q4 27 (C18 r63.2.2.2.1 r63.2.2.2.2.1 r63.2.2.2.2.2.1 r63.2.2.2.2.2.2)), (Ur q5 4 [(Vb false)])]) rfl) fun _ => ?_
   refine so (ox_store' (i := 2) (o := 0) rfl rfl (lv_vl rfl rfl) (ar rfl rfl rfl rfl) rfl info4 rfl (H' := [(Ur q16 114 (C14 r63.1 r63.2.1 r63.2.2.1)), (Ur q4 27 (C18 r63.2.2.2.1 r63.2.2.2.2.1 r63.2.2.2.2.2.1 r63.2.2.2.2.2.2)), (Ur q5 4 [(Vb true)])]) rfl) fun _ => ?_
   refine nk hK18 ?_
   refine cx_retc' ?_
   replace hp := sj hp
   subst hp
   refine tx_leave' (.inl rfl) rfl idle41 rfl Try.func41 isn41 rfl ?_
   refine tk (L' := [(4, (Vp q4)), (5, (Vp q5))]) (H' := [(Ur q4 27 (C18 r63.2.2.2.1 r63.2.2.2.2.1 r63.2.2.2.2.2.1 r63.2.2.2.2.2.2)), (Ur q5 4 [(Vb true)])]) [1, 2] (u2 rfl rfl) (p2 rfl rfl) ?_
   exact tx_ret2' Try.results19 rfl () (rv_imp' (x := (Ag (C18 r63.2.2.2.1 r63.2.2.2.2.1 r63.2.2.2.2.2.1 r63.2.2.2.2.2.2))) (y := (Ag [(Vi r63.2.2.2.1), (Vi r63.2.2.2.2.1), (Vi r63.2.2.2.2.2.1), (Sl Kf []), (Sl (Ki .i64) []), (Sl (Kl (Ki .i64)) []), (Sl KT27 r63.2.2.2.2.2.2)])) (rv_cell_agg' (i := 0) (o := 0) (nn := 7) rfl (ar rfl rfl rfl rfl) rfl agg27 rfl) (imp_ag ⟨imp_refl, imp_refl, imp_refl, imp_nil, imp_nil, imp_nil, imp_refl, trivial⟩)) (rv_cell' (i := 1) (o := 0) rfl (ar rfl rfl rfl rfl) rfl flat4) rfl (List.nil_sublist _)
  replace hp : impl_Push_j5b k x48 x49 x50 x51 = some out := hp
  unfold impl_Push_j5b at hp
  refine cx_seq' fun K15 hK15 => ?_
  refine cr fun K16 hK16 => ?_
  refine sm rfl ?_
  refine s0 (rd_binf' rfl rfl (bf_if (fun _ _ => by kernel_rfl) nil_neq59_if134)) ?_
  refine nk hK16 ?_
  refine cx_cond_t' rfl rfl ?_
  refine cr fun K17 hK17 => ?_
  refine sv (pls := [(0, 1), (1, 1), (2, 1), (3, 1), (4, 1), (5, 1), (6, 1)]) (qs := []) (r := (C1 0 0 0)) trivial Try.underlying27 has27 places27 info27 rfl rfl rfl ?_
  refine so (ox_store' (i := 0) (o := 0) rfl rfl (lv_ag _) (ar rfl rfl rfl rfl) rfl info27 rfl (H' := [(Ur q4 27 (C1 0 0 0)), (Ur q5 4 [(Vb false)]), (Ur q16 114 (C4 x49 g16 x51)), (Rg KG53 53 g16 x50)]) rfl) fun _ => ?_
  refine so (ox_store' (i := 1) (o := 0) rfl rfl (lv_vl rfl rfl) (ar rfl rfl rfl rfl) rfl info4 rfl (H' := [(Ur q4 27 (C1 0 0 0)), (Ur q5 4 [(Vb false)]), (Ur q16 114 (C4 x49 g16 x51)), (Rg KG53 53 g16 x50)]) rfl) fun _ => ?_
  refine nk hK17 ?_
  refine cx_retc' ?_
  replace hp := sj hp
  subst hp
  refine tx_leave' (.inl rfl) rfl idle41 rfl Try.func41 isn41 rfl ?_
  refine tk (L' := [(4, (Vp q4)), (5, (Vp q5))]) (H' := [(Ur q4 27 (C1 0 0 0)), (Ur q5 4 [(Vb false)])]) [0, 1] (u2 rfl rfl) (p2 rfl rfl) ?_
  exact tx_ret2' Try.results19 rfl () (rv_imp' (x := (Ag (C1 0 0 0))) (y := (Ag [(Vi 0), (Vi 0), (Vi 0), (Sl Kf []), (Sl (Ki .i64) []), (Sl (Kl (Ki .i64)) []), (Sl KT27 [])])) (rv_cell_agg' (i := 0) (o := 0) (nn := 7) rfl (ar rfl rfl rfl rfl) rfl agg27 rfl) (imp_ag ⟨imp_refl, imp_refl, imp_refl, imp_nil, imp_nil, imp_nil, imp_nil, trivial⟩)) (rv_cell' (i := 1) (o := 0) rfl (ar rfl rfl rfl rfl) rfl flat4) rfl (List.nil_sublist _)
 intro K5 hK5
 refine cr fun K6 hK6 => ?_
 refine sm rfl ?_
 refine nk hK6 ?_
 refine cx_block' ?_
 refine cr fun K7 hK7 => ?_
 refine st rfl (F := fun _ => .tuple #[.pointer none, .bool false]) as57_53_67 as_no ?_
 iterate 2 refine se rfl rfl ?_
 refine nk hK7 ?_
 refine cx_cond_f' rfl rfl ?_
 refine cr fun K8 hK8 => ?_
 refine st rfl (F := fun _ => .tuple #[.pointer none, .bool false]) as57_53_70 as_no ?_
 iterate 2 refine se rfl rfl ?_
 refine nk hK8 ?_
 refine cx_cond_f' rfl rfl ?_
 refine cr fun K9 hK9 => ?_
 refine st rfl (F := fun _ => .tuple #[.pointer none, .bool false]) as57_53_73 as_no ?_
 iterate 2 refine se rfl rfl ?_
 refine nk hK9 ?_
 refine cx_cond_f' rfl rfl ?_
 refine cr fun K10 hK10 => ?_
 refine st rfl (F := fun _ => .tuple #[.pointer none, .bool false]) as57_53_76 as_no ?_
 iterate 2 refine se rfl rfl ?_
 refine nk hK10 ?_
 refine cx_cond_f' rfl rfl ?_
 refine cr fun K11 hK11 => ?_
 refine st rfl (F := fun v => .tuple #[v, .bool true]) as57_53_57k as_ok ?_
 iterate 2 refine se rfl rfl ?_
 refine nk hK11 ?_
 refine cx_cond_t' rfl rfl ?_
 refine cr fun K22 hK22 => ?_
 refine sa rfl ?_
 refine nk hK22 ?_
 refine cx_region' ?_
 refine sm rfl ?_
 refine s0 (rd_load_agg' (i := 4) (o := 0) (nn := 7) rfl (ar rfl rfl rfl rfl) rfl agg27 (l' := (C0 a1_0 a1_1 a1_2 a1_3 a1_4 a1_5 a1_6)) rfl) ?_
 obtain ⟨r56, hr56, hp⟩ := bind_some hp
 rcases r56 with y103 | y103 | y103 | y103 | y103 | y103 | y103 | y103
 ·dsimp only at hp
  refine so (ox_calln' (ent_fn' Try.func30 isn30 rfl rfl) (impl_geometry_sim _ _ _ _ _ _ _ hr56 : Sx.Fn Try.prog 30 [(Ag (C0 a1_0 a1_1 a1_2 a1_3 a1_4 a1_5 a1_6))] [] (fun x : Addr × Gs × Gs => (If 72 (Vp x.1))) (fun x => [(Ur x.1 135 (C3 y103.1 y103.2.1 y103.2.2.1 y103.2.2.2))])) (Hn := fun x : Addr × Gs × Gs => [(Ur x.1 135 (C3 y103.1 y103.2.1 y103.2.2.1 y103.2.2.2)), (Ur q16 114 (C4 y1.1 g16 y1.2.2)), (Rg KG53 53 g16 y1.2.1), (Ur q5 4 [(Vb false)]), (Ur q4 27 (C1 0 0 0)), (Ur q3 27 (C0 a1_0 a1_1 a1_2 a1_3 a1_4 a1_5 a1_6)), (Ur q2 27 (C0 a0_0 a0_1 a0_2 a0_3 a0_4 a0_5 a0_6))]) (fun _ => rfl) rfl rfl) fun ⟨q56, g56, gz10⟩ => ?_
  refine tx_fz' (frz_var 0 [(56, (If 72 (Vp q56)), (If 72 (Pt (C3 y103.1 y103.2.1 y103.2.2.1 y103.2.2.2))))] rfl ⟨⟨rfl, frz_if⟩, trivial⟩ (H' := [(Ur q16 114 (C4 y1.1 g16 y1.2.2)), (Rg KG53 53 g16 y1.2.1), (Ur q5 4 [(Vb false)]), (Ur q4 27 (C1 0 0 0)), (Ur q3 27 (C0 a1_0 a1_1 a1_2 a1_3 a1_4 a1_5 a1_6)), (Ur q2 27 (C0 a0_0 a0_1 a0_2 a0_3 a0_4 a0_5 a0_6))]) frzH_refl) ?_
  refine tx_slot' 56 (y := (SG53 (G53.c0 y103.1 y103.2.1 y103.2.2.1 y103.2.2.2))) rfl (imp_eq (SG53_c0 y103.1 y103.2.1 y103.2.2.1 y103.2.2.2).symm) ?_
  refine so (ox_rowlit' (K := KG53) (xs := [(G53.c0 y103.1 y103.2.1 y103.2.2.1 y103.2.2.2)]) (qs := [(0, [(SG53 (G53.c0 y103.1 y103.2.1 y103.2.2.1 y103.2.2.2))])]) ⟨rfl, ⟨_, rfl, (SG53_lv (G53.c0 y103.1 y103.2.1 y103.2.2.1 y103.2.2.2))⟩, trivial⟩ Try.underlying112 info53 rfl rfl rfl rfl rfl (by kernel_rfl) rfl rfl rfl) fun g57 => ?_
  refine tx_fz' (frz_row 0 [(57, (Vw g57), (Sl KG53 ([(G53.c0 y103.1 y103.2.1 y103.2.2.1 y103.2.2.2)])))] (K := KG53) (xs := [(G53.c0 y103.1 y103.2.1 y103.2.2.1 y103.2.2.2)]) (by decide) rfl ⟨⟨rfl, frz_it⟩, trivial⟩ (H' := [(Ur q16 114 (C4 y1.1 g16 y1.2.2)), (Rg KG53 53 g16 y1.2.1), (Ur q5 4 [(Vb false)]), (Ur q4 27 (C1 0 0 0)), (Ur q3 27 (C0 a1_0 a1_1 a1_2 a1_3 a1_4 a1_5 a1_6)), (Ur q2 27 (C0 a0_0 a0_1 a0_2 a0_3 a0_4 a0_5 a0_6))]) frzH_refl) ?_
  obtain ⟨r58, hr58, hp⟩ := bind_some hp
  rcases r58 with y105 | y105
  ·dsimp only at hp
   refine so (ox_callg' (ent_fn' Try.func46 isn46 rfl rfl) (gogeom_GeometryCollection_Push_v2_sim _ _ _ _ hr58 : Sx.Fn Try.prog 46 [(Vp q16), (Sl KG53 ([(G53.c0 y103.1 y103.2.1 y103.2.2.1 y103.2.2.2)]))] [(Ur q16 114 (C4 y1.1 g16 y1.2.2)), (Rg KG53 53 g16 y1.2.1)] (fun x : Gs => Ve) (fun x => [(Ur q16 114 (C4 y105.1 x y105.2.2)), (Rg KG53 53 x y105.2.1)])) [0, 1] [2, 3, 4, 5] (by decide) (p2 rfl rfl) (p4 rfl rfl rfl rfl) (Hn := fun x : Gs => [(Ur q16 114 (C4 y105.1 x y105.2.2)), (Rg KG53 53 x y105.2.1), (Ur q5 4 [(Vb false)]), (Ur q4 27 (C1 0 0 0)), (Ur q3 27 (C0 a1_0 a1_1 a1_2 a1_3 a1_4 a1_5 a1_6)), (Ur q2 27 (C0 a0_0 a0_1 a0_2 a0_3 a0_4 a0_5 a0_6))]) (fun _ => rfl) rfl rfl) fun g58 => ?_
   refine sa rfl ?_
   refine sx_nil' ?_
   show TX E K5 _
   exact tk [3, 2, 0, 1] (u4 rfl rfl rfl rfl) (p4 rfl rfl rfl rfl) (hK5 (.inl (y105.1, y105.2.1, y105.2.2, g58)) hp)
  dsimp only at hp
  refine so (ox_callg' (ent_fn' Try.func46 isn46 rfl rfl) (gogeom_GeometryCollection_Push_v2_sim _ _ _ _ hr58 : Sx.Fn Try.prog 46 [(Vp q16), (Sl KG53 ([(G53.c0 y103.1 y103.2.1 y103.2.2.1 y103.2.2.2)]))] [(Ur q16 114 (C4 y1.1 g16 y1.2.2)), (Rg KG53 53 g16 y1.2.1)] (fun x : Gs => (If 134 (Ag (C19 y105.2.2.2 y105.1)))) (fun x => [(Ur q16 114 (C4 y105.1 g16 y105.2.2.1)), (Rg KG53 53 g16 y105.2.1)])) [0, 1] [2, 3, 4, 5] (by decide) (p2 rfl rfl) (p4 rfl rfl rfl rfl) (Hn := fun x : Gs => [(Ur q16 114 (C4 y105.1 g16 y105.2.2.1)), (Rg KG53 53 g16 y105.2.1), (Ur q5 4 [(Vb false)]), (Ur q4 27 (C1 0 0 0)), (Ur q3 27 (C0 a1_0 a1_1 a1_2 a1_3 a1_4 a1_5 a1_6)), (Ur q2 27 (C0 a0_0 a0_1 a0_2 a0_3 a0_4 a0_5 a0_6))]) (fun _ => rfl) rfl rfl) fun g58 => ?_
  refine sa rfl ?_
  refine sx_nil' ?_
  show TX E K5 _
  exact tk [3, 2, 0, 1] (u4 rfl rfl rfl rfl) (p4 rfl rfl rfl rfl) (hK5 (.inr (y105.2.2.2, y105.1, y105.2.1, y105.2.2.1)) hp)
 ·dsimp only at hp
  refine so (ox_calln' (ent_fn' Try.func30 isn30 rfl rfl) (impl_geometry_sim _ _ _ _ _ _ _ hr56 : Sx.Fn Try.prog 30 [(Ag (C0 a1_0 a1_1 a1_2 a1_3 a1_4 a1_5 a1_6))] [] (fun x : Addr × Gs × Gs => (If 75 (Vp x.1))) (fun x => [(Ur x.1 138 (C3 y103.1 y103.2.1 y103.2.2.1 y103.2.2.2))])) (Hn := fun x : Addr × Gs × Gs => [(Ur x.1 138 (C3 y103.1 y103.2.1 y103.2.2.1 y103.2.2.2)), (Ur q16 114 (C4 y1.1 g16 y1.2.2)), (Rg KG53 53 g16 y1.2.1), (Ur q5 4 [(Vb false)]), (Ur q4 27 (C1 0 0 0)), (Ur q3 27 (C0 a1_0 a1_1 a1_2 a1_3 a1_4 a1_5 a1_6)), (Ur q2 27 (C0 a0_0 a0_1 a0_2 a0_3 a0_4 a0_5 a0_6))]) (fun _ => rfl) rfl rfl) fun ⟨q56, g56, gz10⟩ => ?_
  refine tx_fz' (frz_var 0 [(56, (If 75 (Vp q56)), (If 75 (Pt (C3 y103.1 y103.2.1 y103.2.2.1 y103.2.2.2))))] rfl ⟨⟨rfl, frz_if⟩, trivial⟩ (H' := [(Ur q16 114 (C4 y1.1 g16 y1.2.2)), (Rg KG53 53 g16 y1.2.1), (Ur q5 4 [(Vb false)]), (Ur q4 27 (C1 0 0 0)), (Ur q3 27 (C0 a1_0 a1_1 a1_2 a1_3 a1_4 a1_5 a1_6)), (Ur q2 27 (C0 a0_0 a0_1 a0_2 a0_3 a0_4 a0_5 a0_6))]) frzH_refl) ?_
  refine tx_slot' 56 (y := (SG53 (G53.c1 y103.1 y103.2.1 y103.2.2.1 y103.2.2.2))) rfl (imp_eq (SG53_c1 y103.1 y103.2.1 y103.2.2.1 y103.2.2.2).symm) ?_
  refine so (ox_rowlit' (K := KG53) (xs := [(G53.c1 y103.1 y103.2.1 y103.2.2.1 y103.2.2.2)]) (qs := [(0, [(SG53 (G53.c1 y103.1 y103.2.1 y103.2.2.1 y103.2.2.2))])]) ⟨rfl, ⟨_, rfl, (SG53_lv (G53.c1 y103.1 y103.2.1 y103.2.2.1 y103.2.2.2))⟩, trivial⟩ Try.underlying112 info53 rfl rfl rfl rfl rfl (by kernel_rfl) rfl rfl rfl) fun g57 => ?_
  refine tx_fz' (frz_row 0 [(57, (Vw g57), (Sl KG53 ([(G53.c1 y103.1 y103.2.1 y103.2.2.1 y103.2.2.2)])))] (K := KG53) (xs := [(G53.c1 y103.1 y103.2.1 y103.2.2.1 y103.2.2.2)]) (by decide) rfl ⟨⟨rfl, frz_it⟩, trivial⟩ (H' := [(Ur q16 114 (C4 y1.1 g16 y1.2.2)), (Rg KG53 53 g16 y1.2.1), (Ur q5 4 [(Vb false)]), (Ur q4 27 (C1 0 0 0)), (Ur q3 27 (C0 a1_0 a1_1 a1_2 a1_3 a1_4 a1_5 a1_6)), (Ur q2 27 (C0 a0_0 a0_1 a0_2 a0_3 a0_4 a0_5 a0_6))]) frzH_refl) ?_
  obtain ⟨r58, hr58, hp⟩ := bind_some hp
  rcases r58 with y105 | y105
  ·dsimp only at hp
   refine so (ox_callg' (ent_fn' Try.func46 isn46 rfl rfl) (gogeom_GeometryCollection_Push_v2_sim _ _ _ _ hr58 : Sx.Fn Try.prog 46 [(Vp q16), (Sl KG53 ([(G53.c1 y103.1 y103.2.1 y103.2.2.1 y103.2.2.2)]))] [(Ur q16 114 (C4 y1.1 g16 y1.2.2)), (Rg KG53 53 g16 y1.2.1)] (fun x : Gs => Ve) (fun x => [(Ur q16 114 (C4 y105.1 x y105.2.2)), (Rg KG53 53 x y105.2.1)])) [0, 1] [2, 3, 4, 5] (by decide) (p2 rfl rfl) (p4 rfl rfl rfl rfl) (Hn := fun x : Gs => [(Ur q16 114 (C4 y105.1 x y105.2.2)), (Rg KG53 53 x y105.2.1), (Ur q5 4 [(Vb false)]), (Ur q4 27 (C1 0 0 0)), (Ur q3 27 (C0 a1_0 a1_1 a1_2 a1_3 a1_4 a1_5 a1_6)), (Ur q2 27 (C0 a0_0 a0_1 a0_2 a0_3 a0_4 a0_5 a0_6))]) (fun _ => rfl) rfl rfl) fun g58 => ?_
   refine sa rfl ?_
   refine sx_nil' ?_
   show TX E K5 _
   exact tk [3, 2, 0, 1] (u4 rfl rfl rfl rfl) (p4 rfl rfl rfl rfl) (hK5 (.inl (y105.1, y105.2.1, y105.2.2, g58)) hp)
  dsimp only at hp
  refine so (ox_callg' (ent_fn' Try.func46 isn46 rfl rfl) (gogeom_GeometryCollection_Push_v2_sim _ _ _ _ hr58 : Sx.Fn Try.prog 46 [(Vp q16), (Sl KG53 ([(G53.c1 y103.1 y103.2.1 y103.2.2.1 y103.2.2.2)]))] [(Ur q16 114 (C4 y1.1 g16 y1.2.2)), (Rg KG53 53 g16 y1.2.1)] (fun x : Gs => (If 134 (Ag (C19 y105.2.2.2 y105.1)))) (fun x => [(Ur q16 114 (C4 y105.1 g16 y105.2.2.1)), (Rg KG53 53 g16 y105.2.1)])) [0, 1] [2, 3, 4, 5] (by decide) (p2 rfl rfl) (p4 rfl rfl rfl rfl) (Hn := fun x : Gs => [(Ur q16 114 (C4 y105.1 g16 y105.2.2.1)), (Rg KG53 53 g16 y105.2.1), (Ur q5 4 [(Vb false)]), (Ur q4 27 (C1 0 0 0)), (Ur q3 27 (C0 a1_0 a1_1 a1_2 a1_3 a1_4 a1_5 a1_6)), (Ur q2 27 (C0 a0_0 a0_1 a0_2 a0_3 a0_4 a0_5 a0_6))]) (fun _ => rfl) rfl rfl) fun g58 => ?_
  refine sa rfl ?_
  refine sx_nil' ?_
  show TX E K5 _
  exact tk [3, 2, 0, 1] (u4 rfl rfl rfl rfl) (p4 rfl rfl rfl rfl) (hK5 (.inr (y105.2.2.2, y105.1, y105.2.1, y105.2.2.1)) hp)
 ·dsimp only at hp
  refine so (ox_calln' (ent_fn' Try.func30 isn30 rfl rfl) (impl_geometry_sim _ _ _ _ _ _ _ hr56 : Sx.Fn Try.prog 30 [(Ag (C0 a1_0 a1_1 a1_2 a1_3 a1_4 a1_5 a1_6))] [] (fun x : Addr × Gs × Gs => (If 69 (Vp x.1))) (fun x => [(Ur x.1 128 (C3 y103.1 y103.2.1 y103.2.2.1 y103.2.2.2))])) (Hn := fun x : Addr × Gs × Gs => [(Ur x.1 128 (C3 y103.1 y103.2.1 y103.2.2.1 y103.2.2.2)), (Ur q16 114 (C4 y1.1 g16 y1.2.2)), (Rg KG53 53 g16 y1.2.1), (Ur q5 4 [(Vb false)]), (Ur q4 27 (C1 0 0 0)), (Ur q3 27 (C0 a1_0 a1_1 a1_2 a1_3 a1_4 a1_5 a1_6)), (Ur q2 27 (C0 a0_0 a0_1 a0_2 a0_3 a0_4 a0_5 a0_6))]) (fun _ => rfl) rfl rfl) fun ⟨q56, g56, gz10⟩ => ?_
  refine tx_fz' (frz_var 0 [(56, (If 69 (Vp q56)), (If 69 (Pt (C3 y103.1 y103.2.1 y103.2.2.1 y103.2.2.2))))] rfl ⟨⟨rfl, frz_if⟩, trivial⟩ (H' := [(Ur q16 114 (C4 y1.1 g16 y1.2.2)), (Rg KG53 53 g16 y1.2.1), (Ur q5 4 [(Vb false)]), (Ur q4 27 (C1 0 0 0)), (Ur q3 27 (C0 a1_0 a1_1 a1_2 a1_3 a1_4 a1_5 a1_6)), (Ur q2 27 (C0 a0_0 a0_1 a0_2 a0_3 a0_4 a0_5 a0_6))]) frzH_refl) ?_
  refine tx_slot' 56 (y := (SG53 (G53.c2 y103.1 y103.2.1 y103.2.2.1 y103.2.2.2))) rfl (imp_eq (SG53_c2 y103.1 y103.2.1 y103.2.2.1 y103.2.2.2).symm) ?_
  refine so (ox_rowlit' (K := KG53) (xs := [(G53.c2 y103.1 y103.2.1 y103.2.2.1 y103.2.2.2)]) (qs := [(0, [(SG53 (G53.c2 y103.1 y103.2.1 y103.2.2.1 y103.2.2.2))])]) ⟨rfl, ⟨_, rfl, (SG53_lv (G53.c2 y103.1 y103.2.1 y103.2.2.1 y103.2.2.2))⟩, trivial⟩ Try.underlying112 info53 rfl rfl rfl rfl rfl (by kernel_rfl) rfl rfl rfl) fun g57 => ?_
  refine tx_fz' (frz_row 0 [(57, (Vw g57), (Sl KG53 ([(G53.c2 y103.1 y103.2.1 y103.2.2.1 y103.2.2.2)])))] (K := KG53) (xs := [(G53.c2 y103.1 y103.2.1 y103.2.2.1 y103.2.2.2)]) (by decide) rfl ⟨⟨rfl, frz_it⟩, trivial⟩ (H' := [(Ur q16 114 (C4 y1.1 g16 y1.2.2)), (Rg KG53 53 g16 y1.2.1), (Ur q5 4 [(Vb false)]), (Ur q4 27 (C1 0 0 0)), (Ur q3 27 (C0 a1_0 a1_1 a1_2 a1_3 a1_4 a1_5 a1_6)), (Ur q2 27 (C0 a0_0 a0_1 a0_2 a0_3 a0_4 a0_5 a0_6))]) frzH_refl) ?_
  obtain ⟨r58, hr58, hp⟩ := bind_some hp
  rcases r58 with y105 | y105
  ·dsimp only at hp
   refine so (ox_callg' (ent_fn' Try.func46 isn46 rfl rfl) (gogeom_GeometryCollection_Push_v2_sim _ _ _ _ hr58 : Sx.Fn Try.prog 46 [(Vp q16), (Sl KG53 ([(G53.c2 y103.1 y103.2.1 y103.2.2.1 y103.2.2.2)]))] [(Ur q16 114 (C4 y1.1 g16 y1.2.2)), (Rg KG53 53 g16 y1.2.1)] (fun x : Gs => Ve) (fun x => [(Ur q16 114 (C4 y105.1 x y105.2.2)), (Rg KG53 53 x y105.2.1)])) [0, 1] [2, 3, 4, 5] (by decide) (p2 rfl rfl) (p4 rfl rfl rfl rfl) (Hn := fun x : Gs => [(Ur q16 114 (C4 y105.1 x y105.2.2)), (Rg KG53 53 x y105.2.1), (Ur q5 4 [(Vb false)]), (Ur q4 27 (C1 0 0 0)), (Ur q3 27 (C0 a1_0 a1_1 a1_2 a1_3 a1_4 a1_5 a1_6)), (Ur q2 27 (C0 a0_0 a0_1 a0_2 a0_3 a0_4 a0_5 a0_6))]) (fun _ => rfl) rfl rfl) fun g58 => ?_
   refine sa rfl ?_
   refine sx_nil' ?_
   show TX E K5 _
   exact tk [3, 2, 0, 1] (u4 rfl rfl rfl rfl) (p4 rfl rfl rfl rfl) (hK5 (.inl (y105.1, y105.2.1, y105.2.2, g58)) hp)
  dsimp only at hp
  refine so (ox_callg' (ent_fn' Try.func46 isn46 rfl rfl) (gogeom_GeometryCollection_Push_v2_sim _ _ _ _ hr58 : Sx.Fn Try.prog 46 [(Vp q16), (Sl KG53 ([(G53.c2 y103.1 y103.2.1 y103.2.2.1 y103.2.2.2)]))] [(Ur q16 114 (C4 y1.1 g16 y1.2.2)), (Rg KG53 53 g16 y1.2.1)] (fun x : Gs => (If 134 (Ag (C19 y105.2.2.2 y105.1)))) (fun x => [(Ur q16 114 (C4 y105.1 g16 y105.2.2.1)), (Rg KG53 53 g16 y105.2.1)])) [0, 1] [2, 3, 4, 5] (by decide) (p2 rfl rfl) (p4 rfl rfl rfl rfl) (Hn := fun x : Gs => [(Ur q16 114 (C4 y105.1 g16 y105.2.2.1)), (Rg KG53 53 g16 y105.2.1), (Ur q5 4 [(Vb false)]), (Ur q4 27 (C1 0 0 0)), (Ur q3 27 (C0 a1_0 a1_1 a1_2 a1_3 a1_4 a1_5 a1_6)), (Ur q2 27 (C0 a0_0 a0_1 a0_2 a0_3 a0_4 a0_5 a0_6))]) (fun _ => rfl) rfl rfl) fun g58 => ?_
  refine sa rfl ?_
  refine sx_nil' ?_
  show TX E K5 _
  exact tk [3, 2, 0, 1] (u4 rfl rfl rfl rfl) (p4 rfl rfl rfl rfl) (hK5 (.inr (y105.2.2.2, y105.1, y105.2.1, y105.2.2.1)) hp)
 ·dsimp only at hp
  refine so (ox_calln' (ent_fn' Try.func30 isn30 rfl rfl) (impl_geometry_sim _ _ _ _ _ _ _ hr56 : Sx.Fn Try.prog 30 [(Ag (C0 a1_0 a1_1 a1_2 a1_3 a1_4 a1_5 a1_6))] [] (fun x : Addr × Gs × Gs => (If 67 (Vp x.1))) (fun x => [(Ur x.1 132 (C2 y103.1 y103.2.1 x.2.1 y103.2.2.2.1 x.2.2)), (Rg Kf 32 x.2.1 y103.2.2.1), (Rg (Ki .i64) 3 x.2.2 y103.2.2.2.2)])) (Hn := fun x : Addr × Gs × Gs => [(Ur x.1 132 (C2 y103.1 y103.2.1 x.2.1 y103.2.2.2.1 x.2.2)), (Rg Kf 32 x.2.1 y103.2.2.1), (Rg (Ki .i64) 3 x.2.2 y103.2.2.2.2), (Ur q16 114 (C4 y1.1 g16 y1.2.2)), (Rg KG53 53 g16 y1.2.1), (Ur q5 4 [(Vb false)]), (Ur q4 27 (C1 0 0 0)), (Ur q3 27 (C0 a1_0 a1_1 a1_2 a1_3 a1_4 a1_5 a1_6)), (Ur q2 27 (C0 a0_0 a0_1 a0_2 a0_3 a0_4 a0_5 a0_6))]) (fun _ => rfl) rfl rfl) fun ⟨q56, g56, gz10⟩ => ?_
  refine tx_fz' (frz_row 1 [] (K := Kf) (xs := y103.2.2.1) (by decide) rfl trivial (H' := [(Ur q56 132 [(Vi y103.1), (Vi y103.2.1), (Sl Kf y103.2.2.1), (Vi y103.2.2.2.1), (Vw gz10)]), (Rg (Ki .i64) 3 gz10 y103.2.2.2.2), (Ur q16 114 (C4 y1.1 g16 y1.2.2)), (Rg KG53 53 g16 y1.2.1), (Ur q5 4 [(Vb false)]), (Ur q4 27 (C1 0 0 0)), (Ur q3 27 (C0 a1_0 a1_1 a1_2 a1_3 a1_4 a1_5 a1_6)), (Ur q2 27 (C0 a0_0 a0_1 a0_2 a0_3 a0_4 a0_5 a0_6))]) (fh rfl rfl rfl (fl fs (fl fs (fl frz_it (fl fs (fl fs frzL_refl))))) (fk (fk (fk (fk (fk (fk (fk frzH_refl))))))))) ?_
  refine tx_fz' (frz_row 1 [] (K := (Ki .i64)) (xs := y103.2.2.2.2) (by decide) rfl trivial (H' := [(Ur q56 132 (C6 y103.1 y103.2.1 y103.2.2.1 y103.2.2.2.1 y103.2.2.2.2)), (Ur q16 114 (C4 y1.1 g16 y1.2.2)), (Rg KG53 53 g16 y1.2.1), (Ur q5 4 [(Vb false)]), (Ur q4 27 (C1 0 0 0)), (Ur q3 27 (C0 a1_0 a1_1 a1_2 a1_3 a1_4 a1_5 a1_6)), (Ur q2 27 (C0 a0_0 a0_1 a0_2 a0_3 a0_4 a0_5 a0_6))]) (fh rfl rfl rfl (fl fs (fl fs (fl fs (fl fs (fl frz_it frzL_refl))))) (fk (fk (fk (fk (fk (fk frzH_refl)))))))) ?_
  refine tx_fz' (frz_var 0 [(56, (If 67 (Vp q56)), (If 67 (Pt (C6 y103.1 y103.2.1 y103.2.2.1 y103.2.2.2.1 y103.2.2.2.2))))] rfl ⟨⟨rfl, frz_if⟩, trivial⟩ (H' := [(Ur q16 114 (C4 y1.1 g16 y1.2.2)), (Rg KG53 53 g16 y1.2.1), (Ur q5 4 [(Vb false)]), (Ur q4 27 (C1 0 0 0)), (Ur q3 27 (C0 a1_0 a1_1 a1_2 a1_3 a1_4 a1_5 a1_6)), (Ur q2 27 (C0 a0_0 a0_1 a0_2 a0_3 a0_4 a0_5 a0_6))]) frzH_refl) ?_
  refine tx_slot' 56 (y := (SG53 (G53.c3 y103.1 y103.2.1 y103.2.2.1 y103.2.2.2.1 y103.2.2.2.2))) rfl (imp_eq (SG53_c3 y103.1 y103.2.1 y103.2.2.1 y103.2.2.2.1 y103.2.2.2.2).symm) ?_
  refine so (ox_rowlit' (K := KG53) (xs := [(G53.c3 y103.1 y103.2.1 y103.2.2.1 y103.2.2.2.1 y103.2.2.2.2)]) (qs := [(0, [(SG53 (G53.c3 y103.1 y103.2.1 y103.2.2.1 y103.2.2.2.1 y103.2.2.2.2))])]) ⟨rfl, ⟨_, rfl, (SG53_lv (G53.c3 y103.1 y103.2.1 y103.2.2.1 y103.2.2.2.1 y103.2.2.2.2))⟩, trivial⟩ Try.underlying112 info53 rfl rfl rfl rfl rfl (by kernel_rfl) rfl rfl rfl) fun g57 => ?_
  refine tx_fz' (frz_row 0 [(57, (Vw g57), (Sl KG53 ([(G53.c3 y103.1 y103.2.1 y103.2.2.1 y103.2.2.2.1 y103.2.2.2.2)])))] (K := KG53) (xs := [(G53.c3 y103.1 y103.2.1 y103.2.2.1 y103.2.2.2.1 y103.2.2.2.2)]) (by decide) rfl ⟨⟨rfl, frz_it⟩, trivial⟩ (H' := [(Ur q16 114 (C4 y1.1 g16 y1.2.2)), (Rg KG53 53 g16 y1.2.1), (Ur q5 4 [(Vb false)]), (Ur q4 27 (C1 0 0 0)), (Ur q3 27 (C0 a1_0 a1_1 a1_2 a1_3 a1_4 a1_5 a1_6)), (Ur q2 27 (C0 a0_0 a0_1 a0_2 a0_3 a0_4 a0_5 a0_6))]) frzH_refl) ?_
  obtain ⟨r58, hr58, hp⟩ := bind_some hp
  rcases r58 with y105 | y105
  ·dsimp only at hp
   refine so (ox_callg' (ent_fn' Try.func46 isn46 rfl rfl) (gogeom_GeometryCollection_Push_v2_sim _ _ _ _ hr58 : Sx.Fn Try.prog 46 [(Vp q16), (Sl KG53 ([(G53.c3 y103.1 y103.2.1 y103.2.2.1 y103.2.2.2.1 y103.2.2.2.2)]))] [(Ur q16 114 (C4 y1.1 g16 y1.2.2)), (Rg KG53 53 g16 y1.2.1)] (fun x : Gs => Ve) (fun x => [(Ur q16 114 (C4 y105.1 x y105.2.2)), (Rg KG53 53 x y105.2.1)])) [0, 1] [2, 3, 4, 5] (by decide) (p2 rfl rfl) (p4 rfl rfl rfl rfl) (Hn := fun x : Gs => [(Ur q16 114 (C4 y105.1 x y105.2.2)), (Rg KG53 53 x y105.2.1), (Ur q5 4 [(Vb false)]), (Ur q4 27 (C1 0 0 0)), (Ur q3 27 (C0 a1_0 a1_1 a1_2 a1_3 a1_4 a1_5 a1_6)), (Ur q2 27 (C0 a0_0 a0_1 a0_2 a0_3 a0_4 a0_5 a0_6))]) (fun _ => rfl) rfl rfl) fun g58 => ?_
   refine sa rfl ?_
   refine sx_nil' ?_
   show TX E K5 _
   exact tk [3, 2, 0, 1] (u4 rfl rfl rfl rfl) (p4 rfl rfl rfl rfl) (hK5 (.inl (y105.1, y105.2.1, y105.2.2, g58)) hp)
  dsimp only at hp
  refine so (ox_callg' (ent_fn' Try.func46 isn46 rfl rfl) (gogeom_GeometryCollection_Push_v2_sim _ _ _ _ hr58 : Sx.Fn Try.prog 46 [(Vp q16), (Sl KG53 ([(G53.c3 y103.1 y103.2.1 y103.2.2.1 y103.2.2.2.1 y103.2.2.2.2)]))] [(Ur q16 114 (C4 y1.1 g16 y1.2.2)), (Rg KG53 53 g16 y1.2.1)] (fun x : Gs => (If 134 (Ag (C19 y105.2.2.2 y105.1)))) (fun x => [(Ur q16 114 (C4 y105.1 g16 y105.2.2.1)), (Rg KG53 53 g16 y105.2.1)])) [0, 1] [2, 3, 4, 5] (by decide) (p2 rfl rfl) (p4 rfl rfl rfl rfl) (Hn := fun x : Gs => [(Ur q16 114 (C4 y105.1 g16 y105.2.2.1)), (Rg KG53 53 g16 y105.2.1), (Ur q5 4 [(Vb false)]), (Ur q4 27 (C1 0 0 0)), (Ur q3 27 (C0 a1_0 a1_1 a1_2 a1_3 a1_4 a1_5 a1_6)), (Ur q2 27 (C0 a0_0 a0_1 a0_2 a0_3 a0_4 a0_5 a0_6))]) (fun _ => rfl) rfl rfl) fun g58 => ?_
  refine sa rfl ?_
  refine sx_nil' ?_
  show TX E K5 _
  exact tk [3, 2, 0, 1] (u4 rfl rfl rfl rfl) (p4 rfl rfl rfl rfl) (hK5 (.inr (y105.2.2.2, y105.1, y105.2.1, y105.2.2.1)) hp)
 ·dsimp only at hp
  refine so (ox_calln' (ent_fn' Try.func30 isn30 rfl rfl) (impl_geometry_sim _ _ _ _ _ _ _ hr56 : Sx.Fn Try.prog 30 [(Ag (C0 a1_0 a1_1 a1_2 a1_3 a1_4 a1_5 a1_6))] [] (fun x : Addr × Gs × Gs => (If 70 (Vp x.1))) (fun x => [(Ur x.1 136 (C2 y103.1 y103.2.1 x.2.1 y103.2.2.2.1 x.2.2)), (Rg Kf 32 x.2.1 y103.2.2.1), (Rg (Ki .i64) 3 x.2.2 y103.2.2.2.2)])) (Hn := fun x : Addr × Gs × Gs => [(Ur x.1 136 (C2 y103.1 y103.2.1 x.2.1 y103.2.2.2.1 x.2.2)), (Rg Kf 32 x.2.1 y103.2.2.1), (Rg (Ki .i64) 3 x.2.2 y103.2.2.2.2), (Ur q16 114 (C4 y1.1 g16 y1.2.2)), (Rg KG53 53 g16 y1.2.1), (Ur q5 4 [(Vb false)]), (Ur q4 27 (C1 0 0 0)), (Ur q3 27 (C0 a1_0 a1_1 a1_2 a1_3 a1_4 a1_5 a1_6)), (Ur q2 27 (C0 a0_0 a0_1 a0_2 a0_3 a0_4 a0_5 a0_6))]) (fun _ => rfl) rfl rfl) fun ⟨q56, g56, gz10⟩ => ?_
  refine tx_fz' (frz_row 1 [] (K := Kf) (xs := y103.2.2.1) (by decide) rfl trivial (H' := [(Ur q56 136 [(Vi y103.1), (Vi y103.2.1), (Sl Kf y103.2.2.1), (Vi y103.2.2.2.1), (Vw gz10)]), (Rg (Ki .i64) 3 gz10 y103.2.2.2.2), (Ur q16 114 (C4 y1.1 g16 y1.2.2)), (Rg KG53 53 g16 y1.2.1), (Ur q5 4 [(Vb false)]), (Ur q4 27 (C1 0 0 0)), (Ur q3 27 (C0 a1_0 a1_1 a1_2 a1_3 a1_4 a1_5 a1_6)), (Ur q2 27 (C0 a0_0 a0_1 a0_2 a0_3 a0_4 a0_5 a0_6))]) (fh rfl rfl rfl (fl fs (fl fs (fl frz_it (fl fs (fl fs frzL_refl))))) (fk (fk (fk (fk (fk (fk (fk frzH_refl))))))))) ?_
  refine tx_fz' (frz_row 1 [] (K := (Ki .i64)) (xs := y103.2.2.2.2) (by decide) rfl trivial (H' := [(Ur q56 136 (C6 y103.1 y103.2.1 y103.2.2.1 y103.2.2.2.1 y103.2.2.2.2)), (Ur q16 114 (C4 y1.1 g16 y1.2.2)), (Rg KG53 53 g16 y1.2.1), (Ur q5 4 [(Vb false)]), (Ur q4 27 (C1 0 0 0)), (Ur q3 27 (C0 a1_0 a1_1 a1_2 a1_3 a1_4 a1_5 a1_6)), (Ur q2 27 (C0 a0_0 a0_1 a0_2 a0_3 a0_4 a0_5 a0_6))]) (fh rfl rfl rfl (fl fs (fl fs (fl fs (fl fs (fl frz_it frzL_refl))))) (fk (fk (fk (fk (fk (fk frzH_refl)))))))) ?_
  refine tx_fz' (frz_var 0 [(56, (If 70 (Vp q56)), (If 70 (Pt (C6 y103.1 y103.2.1 y103.2.2.1 y103.2.2.2.1 y103.2.2.2.2))))] rfl ⟨⟨rfl, frz_if⟩, trivial⟩ (H' := [(Ur q16 114 (C4 y1.1 g16 y1.2.2)), (Rg KG53 53 g16 y1.2.1), (Ur q5 4 [(Vb false)]), (Ur q4 27 (C1 0 0 0)), (Ur q3 27 (C0 a1_0 a1_1 a1_2 a1_3 a1_4 a1_5 a1_6)), (Ur q2 27 (C0 a0_0 a0_1 a0_2 a0_3 a0_4 a0_5 a0_6))]) frzH_refl) ?_
  refine tx_slot' 56 (y := (SG53 (G53.c4 y103.1 y103.2.1 y103.2.2.1 y103.2.2.2.1 y103.2.2.2.2))) rfl (imp_eq (SG53_c4 y103.1 y103.2.1 y103.2.2.1 y103.2.2.2.1 y103.2.2.2.2).symm) ?_
  refine so (ox_rowlit' (K := KG53) (xs := [(G53.c4 y103.1 y103.2.1 y103.2.2.1 y103.2.2.2.1 y103.2.2.2.2)]) (qs := [(0, [(SG53 (G53.c4 y103.1 y103.2.1 y103.2.2.1 y103.2.2.2.1 y103.2.2.2.2))])]) ⟨rfl, ⟨_, rfl, (SG53_lv (G53.c4 y103.1 y103.2.1 y103.2.2.1 y103.2.2.2.1 y103.2.2.2.2))⟩, trivial⟩ Try.underlying112 info53 rfl rfl rfl rfl rfl (by kernel_rfl) rfl rfl rfl) fun g57 => ?_
  refine tx_fz' (frz_row 0 [(57, (Vw g57), (Sl KG53 ([(G53.c4 y103.1 y103.2.1 y103.2.2.1 y103.2.2.2.1 y103.2.2.2.2)])))] (K := KG53) (xs := [(G53.c4 y103.1 y103.2.1 y103.2.2.1 y103.2.2.2.1 y103.2.2.2.2)]) (by decide) rfl ⟨⟨rfl, frz_it⟩, trivial⟩ (H' := [(Ur q16 114 (C4 y1.1 g16 y1.2.2)), (Rg KG53 53 g16 y1.2.1), (Ur q5 4 [(Vb false)]), (Ur q4 27 (C1 0 0 0)), (Ur q3 27 (C0 a1_0 a1_1 a1_2 a1_3 a1_4 a1_5 a1_6)), (Ur q2 27 (C0 a0_0 a0_1 a0_2 a0_3 a0_4 a0_5 a0_6))]) frzH_refl) ?_
  obtain ⟨r58, hr58, hp⟩ := bind_some hp
  rcases r58 with y105 | y105
  ·dsimp only at hp
   refine so (ox_callg' (ent_fn' Try.func46 isn46 rfl rfl) (gogeom_GeometryCollection_Push_v2_sim _ _ _ _ hr58 : Sx.Fn Try.prog 46 [(Vp q16), (Sl KG53 ([(G53.c4 y103.1 y103.2.1 y103.2.2.1 y103.2.2.2.1 y103.2.2.2.2)]))] [(Ur q16 114 (C4 y1.1 g16 y1.2.2)), (Rg KG53 53 g16 y1.2.1)] (fun x : Gs => Ve) (fun x => [(Ur q16 114 (C4 y105.1 x y105.2.2)), (Rg KG53 53 x y105.2.1)])) [0, 1] [2, 3, 4, 5] (by decide) (p2 rfl rfl) (p4 rfl rfl rfl rfl) (Hn := fun x : Gs => [(Ur q16 114 (C4 y105.1 x y105.2.2)), (Rg KG53 53 x y105.2.1), (Ur q5 4 [(Vb false)]), (Ur q4 27 (C1 0 0 0)), (Ur q3 27 (C0 a1_0 a1_1 a1_2 a1_3 a1_4 a1_5 a1_6)), (Ur q2 27 (C0 a0_0 a0_1 a0_2 a0_3 a0_4 a0_5 a0_6))]) (fun _ => rfl) rfl rfl) fun g58 => ?_
   refine sa rfl ?_
   refine sx_nil' ?_
   show TX E K5 _
   exact tk [3, 2, 0, 1] (u4 rfl rfl rfl rfl) (p4 rfl rfl rfl rfl) (hK5 (.inl (y105.1, y105.2.1, y105.2.2, g58)) hp)
  dsimp only at hp
  refine so (ox_callg' (ent_fn' Try.func46 isn46 rfl rfl) (gogeom_GeometryCollection_Push_v2_sim _ _ _ _ hr58 : Sx.Fn Try.prog 46 [(Vp q16), (Sl KG53 ([(G53.c4 y103.1 y103.2.1 y103.2.2.1 y103.2.2.2.1 y103.2.2.2.2)]))] [(Ur q16 114 (C4 y1.1 g16 y1.2.2)), (Rg KG53 53 g16 y1.2.1)] (fun x : Gs => (If 134 (Ag (C19 y105.2.2.2 y105.1)))) (fun x => [(Ur q16 114 (C4 y105.1 g16 y105.2.2.1)), (Rg KG53 53 g16 y105.2.1)])) [0, 1] [2, 3, 4, 5] (by decide) (p2 rfl rfl) (p4 rfl rfl rfl rfl) (Hn := fun x : Gs => [(Ur q16 114 (C4 y105.1 g16 y105.2.2.1)), (Rg KG53 53 g16 y105.2.1), (Ur q5 4 [(Vb false)]), (Ur q4 27 (C1 0 0 0)), (Ur q3 27 (C0 a1_0 a1_1 a1_2 a1_3 a1_4 a1_5 a1_6)), (Ur q2 27 (C0 a0_0 a0_1 a0_2 a0_3 a0_4 a0_5 a0_6))]) (fun _ => rfl) rfl rfl) fun g58 => ?_
  refine sa rfl ?_
  refine sx_nil' ?_
  show TX E K5 _
  exact tk [3, 2, 0, 1] (u4 rfl rfl rfl rfl) (p4 rfl rfl rfl rfl) (hK5 (.inr (y105.2.2.2, y105.1, y105.2.1, y105.2.2.1)) hp)
 ·dsimp only at hp
  refine so (ox_calln' (ent_fn' Try.func30 isn30 rfl rfl) (impl_geometry_sim _ _ _ _ _ _ _ hr56 : Sx.Fn Try.prog 30 [(Ag (C0 a1_0 a1_1 a1_2 a1_3 a1_4 a1_5 a1_6))] [] (fun x : Addr × Gs × Gs => (If 73 (Vp x.1))) (fun x => [(Ur x.1 139 (C2 y103.1 y103.2.1 x.2.1 y103.2.2.2.1 x.2.2)), (Rg Kf 32 x.2.1 y103.2.2.1), (Rg (Ki .i64) 3 x.2.2 y103.2.2.2.2)])) (Hn := fun x : Addr × Gs × Gs => [(Ur x.1 139 (C2 y103.1 y103.2.1 x.2.1 y103.2.2.2.1 x.2.2)), (Rg Kf 32 x.2.1 y103.2.2.1), (Rg (Ki .i64) 3 x.2.2 y103.2.2.2.2), (Ur q16 114 (C4 y1.1 g16 y1.2.2)), (Rg KG53 53 g16 y1.2.1), (Ur q5 4 [(Vb false)]), (Ur q4 27 (C1 0 0 0)), (Ur q3 27 (C0 a1_0 a1_1 a1_2 a1_3 a1_4 a1_5 a1_6)), (Ur q2 27 (C0 a0_0 a0_1 a0_2 a0_3 a0_4 a0_5 a0_6))]) (fun _ => rfl) rfl rfl) fun ⟨q56, g56, gz10⟩ => ?_
  refine tx_fz' (frz_row 1 [] (K := Kf) (xs := y103.2.2.1) (by decide) rfl trivial (H' := [(Ur q56 139 [(Vi y103.1), (Vi y103.2.1), (Sl Kf y103.2.2.1), (Vi y103.2.2.2.1), (Vw gz10)]), (Rg (Ki .i64) 3 gz10 y103.2.2.2.2), (Ur q16 114 (C4 y1.1 g16 y1.2.2)), (Rg KG53 53 g16 y1.2.1), (Ur q5 4 [(Vb false)]), (Ur q4 27 (C1 0 0 0)), (Ur q3 27 (C0 a1_0 a1_1 a1_2 a1_3 a1_4 a1_5 a1_6)), (Ur q2 27 (C0 a0_0 a0_1 a0_2 a0_3 a0_4 a0_5 a0_6))]) (fh rfl rfl rfl (fl fs (fl fs (fl frz_it (fl fs (fl fs frzL_refl))))) (fk (fk (fk (fk (fk (fk (fk frzH_refl))))))))) ?_
  refine tx_fz' (frz_row 1 [] (K := (Ki .i64)) (xs := y103.2.2.2.2) (by decide) rfl trivial (H' := [(Ur q56 139 (C6 y103.1 y103.2.1 y103.2.2.1 y103.2.2.2.1 y103.2.2.2.2)), (Ur q16 114 (C4 y1.1 g16 y1.2.2)), (Rg KG53 53 g16 y1.2.1), (Ur q5 4 [(Vb false)]), (Ur q4 27 (C1 0 0 0)), (Ur q3 27 (C0 a1_0 a1_1 a1_2 a1_3 a1_4 a1_5 a1_6)), (Ur q2 27 (C0 a0_0 a0_1 a0_2 a0_3 a0_4 a0_5 a0_6))]) (fh rfl rfl rfl (fl fs (fl fs (fl fs (fl fs (fl frz_it frzL_refl))))) (fk (fk (fk (fk (fk (fk frzH_refl)))))))) ?_
  refine tx_fz' (frz_var 0 [(56, (If 73 (Vp q56)), (If 73 (Pt (C6 y103.1 y103.2.1 y103.2.2.1 y103.2.2.2.1 y103.2.2.2.2))))] rfl ⟨⟨rfl, frz_if⟩, trivial⟩ (H' := [(Ur q16 114 (C4 y1.1 g16 y1.2.2)), (Rg KG53 53 g16 y1.2.1), (Ur q5 4 [(Vb false)]), (Ur q4 27 (C1 0 0 0)), (Ur q3 27 (C0 a1_0 a1_1 a1_2 a1_3 a1_4 a1_5 a1_6)), (Ur q2 27 (C0 a0_0 a0_1 a0_2 a0_3 a0_4 a0_5 a0_6))]) frzH_refl) ?_
  refine tx_slot' 56 (y := (SG53 (G53.c5 y103.1 y103.2.1 y103.2.2.1 y103.2.2.2.1 y103.2.2.2.2))) rfl (imp_eq (SG53_c5 y103.1 y103.2.1 y103.2.2.1 y103.2.2.2.1 y103.2.2.2.2).symm) ?_
  refine so (ox_rowlit' (K := KG53) (xs := [(G53.c5 y103.1 y103.2.1 y103.2.2.1 y103.2.2.2.1 y103.2.2.2.2)]) (qs := [(0, [(SG53 (G53.c5 y103.1 y103.2.1 y103.2.2.1 y103.2.2.2.1 y103.2.2.2.2))])]) ⟨rfl, ⟨_, rfl, (SG53_lv (G53.c5 y103.1 y103.2.1 y103.2.2.1 y103.2.2.2.1 y103.2.2.2.2))⟩, trivial⟩ Try.underlying112 info53 rfl rfl rfl rfl rfl (by kernel_rfl) rfl rfl rfl) fun g57 => ?_
  refine tx_fz' (frz_row 0 [(57, (Vw g57), (Sl KG53 ([(G53.c5 y103.1 y103.2.1 y103.2.2.1 y103.2.2.2.1 y103.2.2.2.2)])))] (K := KG53) (xs := [(G53.c5 y103.1 y103.2.1 y103.2.2.1 y103.2.2.2.1 y103.2.2.2.2)]) (by decide) rfl ⟨⟨rfl, frz_it⟩, trivial⟩ (H' := [(Ur q16 114 (C4 y1.1 g16 y1.2.2)), (Rg KG53 53 g16 y1.2.1), (Ur q5 4 [(Vb false)]), (Ur q4 27 (C1 0 0 0)), (Ur q3 27 (C0 a1_0 a1_1 a1_2 a1_3 a1_4 a1_5 a1_6)), (Ur q2 27 (C0 a0_0 a0_1 a0_2 a0_3 a0_4 a0_5 a0_6))]) frzH_refl) ?_
  obtain ⟨r58, hr58, hp⟩ := bind_some hp
  rcases r58 with y105 | y105
  ·dsimp only at hp
   refine so (ox_callg' (ent_fn' Try.func46 isn46 rfl rfl) (gogeom_GeometryCollection_Push_v2_sim _ _ _ _ hr58 : Sx.Fn Try.prog 46 [(Vp q16), (Sl KG53 ([(G53.c5 y103.1 y103.2.1 y103.2.2.1 y103.2.2.2.1 y103.2.2.2.2)]))] [(Ur q16 114 (C4 y1.1 g16 y1.2.2)), (Rg KG53 53 g16 y1.2.1)] (fun x : Gs => Ve) (fun x => [(Ur q16 114 (C4 y105.1 x y105.2.2)), (Rg KG53 53 x y105.2.1)])) [0, 1] [2, 3, 4, 5] (by decide) (p2 rfl rfl) (p4 rfl rfl rfl rfl) (Hn := fun x : Gs => [(Ur q16 114 (C4 y105.1 x y105.2.2)), (Rg KG53 53 x y105.2.1), (Ur q5 4 [(Vb false)]), (Ur q4 27 (C1 0 0 0)), (Ur q3 27 (C0 a1_0 a1_1 a1_2 a1_3 a1_4 a1_5 a1_6)), (Ur q2 27 (C0 a0_0 a0_1 a0_2 a0_3 a0_4 a0_5 a0_6))]) (fun _ => rfl) rfl rfl) fun g58 => ?_
   refine sa rfl ?_
   refine sx_nil' ?_
   show TX E K5 _
   exact tk [3, 2, 0, 1] (u4 rfl rfl rfl rfl) (p4 rfl rfl rfl rfl) (hK5 (.inl (y105.1, y105.2.1, y105.2.2, g58)) hp)
  dsimp only at hp
  refine so (ox_callg' (ent_fn' Try.func46 isn46 rfl rfl) (gogeom_GeometryCollection_Push_v2_sim _ _ _ _ hr58 : Sx.Fn Try.prog 46 [(Vp q16), (Sl KG53 ([(G53.c5 y103.1 y103.2.1 y103.2.2.1 y103.2.2.2.1 y103.2.2.2.2)]))] [(Ur q16 114 (C4 y1.1 g16 y1.2.2)), (Rg KG53 53 g16 y1.2.1)] (fun x : Gs => (If 134 (Ag (C19 y105.2.2.2 y105.1)))) (fun x => [(Ur q16 114 (C4 y105.1 g16 y105.2.2.1)), (Rg KG53 53 g16 y105.2.1)])) [0, 1] [2, 3, 4, 5] (by decide) (p2 rfl rfl) (p4 rfl rfl rfl rfl) (Hn := fun x : Gs => [(Ur q16 114 (C4 y105.1 g16 y105.2.2.1)), (Rg KG53 53 g16 y105.2.1), (Ur q5 4 [(Vb false)]), (Ur q4 27 (C1 0 0 0)), (Ur q3 27 (C0 a1_0 a1_1 a1_2 a1_3 a1_4 a1_5 a1_6)), (Ur q2 27 (C0 a0_0 a0_1 a0_2 a0_3 a0_4 a0_5 a0_6))]) (fun _ => rfl) rfl rfl) fun g58 => ?_
  refine sa rfl ?_
  refine sx_nil' ?_
  show TX E K5 _
  exact tk [3, 2, 0, 1] (u4 rfl rfl rfl rfl) (p4 rfl rfl rfl rfl) (hK5 (.inr (y105.2.2.2, y105.1, y105.2.1, y105.2.2.1)) hp)
 ·dsimp only at hp
  refine so (ox_calln' (ent_fn' Try.func30 isn30 rfl rfl) (impl_geometry_sim _ _ _ _ _ _ _ hr56 : Sx.Fn Try.prog 30 [(Ag (C0 a1_0 a1_1 a1_2 a1_3 a1_4 a1_5 a1_6))] [] (fun x : Addr × Gs × Gs => (If 76 (Vp x.1))) (fun x => [(Ur x.1 143 (C2 y103.1 y103.2.1 x.2.1 y103.2.2.2.1 x.2.2)), (Rg Kf 32 x.2.1 y103.2.2.1), (Rg (Kl (Ki .i64)) 23 x.2.2 y103.2.2.2.2)])) (Hn := fun x : Addr × Gs × Gs => [(Ur x.1 143 (C2 y103.1 y103.2.1 x.2.1 y103.2.2.2.1 x.2.2)), (Rg Kf 32 x.2.1 y103.2.2.1), (Rg (Kl (Ki .i64)) 23 x.2.2 y103.2.2.2.2), (Ur q16 114 (C4 y1.1 g16 y1.2.2)), (Rg KG53 53 g16 y1.2.1), (Ur q5 4 [(Vb false)]), (Ur q4 27 (C1 0 0 0)), (Ur q3 27 (C0 a1_0 a1_1 a1_2 a1_3 a1_4 a1_5 a1_6)), (Ur q2 27 (C0 a0_0 a0_1 a0_2 a0_3 a0_4 a0_5 a0_6))]) (fun _ => rfl) rfl rfl) fun ⟨q56, g56, gz10⟩ => ?_
  refine tx_fz' (frz_row 1 [] (K := Kf) (xs := y103.2.2.1) (by decide) rfl trivial (H' := [(Ur q56 143 [(Vi y103.1), (Vi y103.2.1), (Sl Kf y103.2.2.1), (Vi y103.2.2.2.1), (Vw gz10)]), (Rg (Kl (Ki .i64)) 23 gz10 y103.2.2.2.2), (Ur q16 114 (C4 y1.1 g16 y1.2.2)), (Rg KG53 53 g16 y1.2.1), (Ur q5 4 [(Vb false)]), (Ur q4 27 (C1 0 0 0)), (Ur q3 27 (C0 a1_0 a1_1 a1_2 a1_3 a1_4 a1_5 a1_6)), (Ur q2 27 (C0 a0_0 a0_1 a0_2 a0_3 a0_4 a0_5 a0_6))]) (fh rfl rfl rfl (fl fs (fl fs (fl frz_it (fl fs (fl fs frzL_refl))))) (fk (fk (fk (fk (fk (fk (fk frzH_refl))))))))) ?_
  refine tx_fz' (frz_row 1 [] (K := (Kl (Ki .i64))) (xs := y103.2.2.2.2) (by decide) rfl trivial (H' := [(Ur q56 143 (C11 y103.1 y103.2.1 y103.2.2.1 y103.2.2.2.1 y103.2.2.2.2)), (Ur q16 114 (C4 y1.1 g16 y1.2.2)), (Rg KG53 53 g16 y1.2.1), (Ur q5 4 [(Vb false)]), (Ur q4 27 (C1 0 0 0)), (Ur q3 27 (C0 a1_0 a1_1 a1_2 a1_3 a1_4 a1_5 a1_6)), (Ur q2 27 (C0 a0_0 a0_1 a0_2 a0_3 a0_4 a0_5 a0_6))]) (fh rfl rfl rfl (fl fs (fl fs (fl fs (fl fs (fl frz_it frzL_refl))))) (fk (fk (fk (fk (fk (fk frzH_refl)))))))) ?_
  refine tx_fz' (frz_var 0 [(56, (If 76 (Vp q56)), (If 76 (Pt (C11 y103.1 y103.2.1 y103.2.2.1 y103.2.2.2.1 y103.2.2.2.2))))] rfl ⟨⟨rfl, frz_if⟩, trivial⟩ (H' := [(Ur q16 114 (C4 y1.1 g16 y1.2.2)), (Rg KG53 53 g16 y1.2.1), (Ur q5 4 [(Vb false)]), (Ur q4 27 (C1 0 0 0)), (Ur q3 27 (C0 a1_0 a1_1 a1_2 a1_3 a1_4 a1_5 a1_6)), (Ur q2 27 (C0 a0_0 a0_1 a0_2 a0_3 a0_4 a0_5 a0_6))]) frzH_refl) ?_
  refine tx_slot' 56 (y := (SG53 (G53.c6 y103.1 y103.2.1 y103.2.2.1 y103.2.2.2.1 y103.2.2.2.2))) rfl (imp_eq (SG53_c6 y103.1 y103.2.1 y103.2.2.1 y103.2.2.2.1 y103.2.2.2.2).symm) ?_
  refine so (ox_rowlit' (K := KG53) (xs := [(G53.c6 y103.1 y103.2.1 y103.2.2.1 y103.2.2.2.1 y103.2.2.2.2)]) (qs := [(0, [(SG53 (G53.c6 y103.1 y103.2.1 y103.2.2.1 y103.2.2.2.1 y103.2.2.2.2))])]) ⟨rfl, ⟨_, rfl, (SG53_lv (G53.c6 y103.1 y103.2.1 y103.2.2.1 y103.2.2.2.1 y103.2.2.2.2))⟩, trivial⟩ Try.underlying112 info53 rfl rfl rfl rfl rfl (by kernel_rfl) rfl rfl rfl) fun g57 => ?_
  refine tx_fz' (frz_row 0 [(57, (Vw g57), (Sl KG53 ([(G53.c6 y103.1 y103.2.1 y103.2.2.1 y103.2.2.2.1 y103.2.2.2.2)])))] (K := KG53) (xs := [(G53.c6 y103.1 y103.2.1 y103.2.2.1 y103.2.2.2.1 y103.2.2.2.2)]) (by decide) rfl ⟨⟨rfl, frz_it⟩, trivial⟩ (H' := [(Ur q16 114 (C4 y1.1 g16 y1.2.2)), (Rg KG53 53 g16 y1.2.1), (Ur q5 4 [(Vb false)]), (Ur q4 27 (C1 0 0 0)), (Ur q3 27 (C0 a1_0 a1_1 a1_2 a1_3 a1_4 a1_5 a1_6)), (Ur q2 27 (C0 a0_0 a0_1 a0_2 a0_3 a0_4 a0_5 a0_6))]) frzH_refl) ?_
  obtain ⟨r58, hr58, hp⟩ := bind_some hp
  rcases r58 with y105 | y105
  ·dsimp only at hp
   refine so (ox_callg' (ent_fn' Try.func46 isn46 rfl rfl) (gogeom_GeometryCollection_Push_v2_sim _ _ _ _ hr58 : Sx.Fn Try.prog 46 [(Vp q16), (Sl KG53 ([(G53.c6 y103.1 y103.2.1 y103.2.2.1 y103.2.2.2.1 y103.2.2.2.2)]))] [(Ur q16 114 (C4 y1.1 g16 y1.2.2)), (Rg KG53 53 g16 y1.2.1)] (fun x : Gs => Ve) (fun x => [(Ur q16 114 (C4 y105.1 x y105.2.2)), (Rg KG53 53 x y105.2.1)])) [0, 1] [2, 3, 4, 5] (by decide) (p2 rfl rfl) (p4 rfl rfl rfl rfl) (Hn := fun x : Gs => [(Ur q16 114 (C4 y105.1 x y105.2.2)), (Rg KG53 53 x y105.2.1), (Ur q5 4 [(Vb false)]), (Ur q4 27 (C1 0 0 0)), (Ur q3 27 (C0 a1_0 a1_1 a1_2 a1_3 a1_4 a1_5 a1_6)), (Ur q2 27 (C0 a0_0 a0_1 a0_2 a0_3 a0_4 a0_5 a0_6))]) (fun _ => rfl) rfl rfl) fun g58 => ?_
   refine sa rfl ?_
   refine sx_nil' ?_
   show TX E K5 _
   exact tk [3, 2, 0, 1] (u4 rfl rfl rfl rfl) (p4 rfl rfl rfl rfl) (hK5 (.inl (y105.1, y105.2.1, y105.2.2, g58)) hp)
  dsimp only at hp
  refine so (ox_callg' (ent_fn' Try.func46 isn46 rfl rfl) (gogeom_GeometryCollection_Push_v2_sim _ _ _ _ hr58 : Sx.Fn Try.prog 46 [(Vp q16), (Sl KG53 ([(G53.c6 y103.1 y103.2.1 y103.2.2.1 y103.2.2.2.1 y103.2.2.2.2)]))] [(Ur q16 114 (C4 y1.1 g16 y1.2.2)), (Rg KG53 53 g16 y1.2.1)] (fun x : Gs => (If 134 (Ag (C19 y105.2.2.2 y105.1)))) (fun x => [(Ur q16 114 (C4 y105.1 g16 y105.2.2.1)), (Rg KG53 53 g16 y105.2.1)])) [0, 1] [2, 3, 4, 5] (by decide) (p2 rfl rfl) (p4 rfl rfl rfl rfl) (Hn := fun x : Gs => [(Ur q16 114 (C4 y105.1 g16 y105.2.2.1)), (Rg KG53 53 g16 y105.2.1), (Ur q5 4 [(Vb false)]), (Ur q4 27 (C1 0 0 0)), (Ur q3 27 (C0 a1_0 a1_1 a1_2 a1_3 a1_4 a1_5 a1_6)), (Ur q2 27 (C0 a0_0 a0_1 a0_2 a0_3 a0_4 a0_5 a0_6))]) (fun _ => rfl) rfl rfl) fun g58 => ?_
  refine sa rfl ?_
  refine sx_nil' ?_
  show TX E K5 _
  exact tk [3, 2, 0, 1] (u4 rfl rfl rfl rfl) (p4 rfl rfl rfl rfl) (hK5 (.inr (y105.2.2.2, y105.1, y105.2.1, y105.2.2.1)) hp)
 dsimp only at hp
 refine so (ox_calln' (ent_fn' Try.func30 isn30 rfl rfl) (impl_geometry_sim _ _ _ _ _ _ _ hr56 : Sx.Fn Try.prog 30 [(Ag (C0 a1_0 a1_1 a1_2 a1_3 a1_4 a1_5 a1_6))] [] (fun x : Addr × Gs × Gs => (If 57 (Vp x.1))) (fun x => [(Ur x.1 114 (C4 y103.1 x.2.1 y103.2.2)), (Rg KG53 53 x.2.1 y103.2.1)])) (Hn := fun x : Addr × Gs × Gs => [(Ur x.1 114 (C4 y103.1 x.2.1 y103.2.2)), (Rg KG53 53 x.2.1 y103.2.1), (Ur q16 114 (C4 y1.1 g16 y1.2.2)), (Rg KG53 53 g16 y1.2.1), (Ur q5 4 [(Vb false)]), (Ur q4 27 (C1 0 0 0)), (Ur q3 27 (C0 a1_0 a1_1 a1_2 a1_3 a1_4 a1_5 a1_6)), (Ur q2 27 (C0 a0_0 a0_1 a0_2 a0_3 a0_4 a0_5 a0_6))]) (fun _ => rfl) rfl rfl) fun ⟨q56, g56, gz10⟩ => ?_
 refine tx_fz' (frz_row 1 [] (K := KG53) (xs := y103.2.1) (by decide) rfl trivial (H' := [(Ur q56 114 (C14 y103.1 y103.2.1 y103.2.2)), (Ur q16 114 (C4 y1.1 g16 y1.2.2)), (Rg KG53 53 g16 y1.2.1), (Ur q5 4 [(Vb false)]), (Ur q4 27 (C1 0 0 0)), (Ur q3 27 (C0 a1_0 a1_1 a1_2 a1_3 a1_4 a1_5 a1_6)), (Ur q2 27 (C0 a0_0 a0_1 a0_2 a0_3 a0_4 a0_5 a0_6))]) (fh rfl rfl rfl (fl fs (fl frz_it (fl fs frzL_refl))) (fk (fk (fk (fk (fk (fk frzH_refl)))))))) ?_
 refine tx_fz' (frz_var 0 [(56, (If 57 (Vp q56)), (If 57 (Pt (C14 y103.1 y103.2.1 y103.2.2))))] rfl ⟨⟨rfl, frz_if⟩, trivial⟩ (H' := [(Ur q16 114 (C4 y1.1 g16 y1.2.2)), (Rg KG53 53 g16 y1.2.1), (Ur q5 4 [(Vb false)]), (Ur q4 27 (C1 0 0 0)), (Ur q3 27 (C0 a1_0 a1_1 a1_2 a1_3 a1_4 a1_5 a1_6)), (Ur q2 27 (C0 a0_0 a0_1 a0_2 a0_3 a0_4 a0_5 a0_6))]) frzH_refl) ?_
 refine tx_slot' 56 (y := (SG53 (G53.c7 y103.1 y103.2.1 y103.2.2))) rfl (imp_eq (SG53_c7 y103.1 y103.2.1 y103.2.2).symm) ?_
 refine so (ox_rowlit' (K := KG53) (xs := [(G53.c7 y103.1 y103.2.1 y103.2.2)]) (qs := [(0, [(SG53 (G53.c7 y103.1 y103.2.1 y103.2.2))])]) ⟨rfl, ⟨_, rfl, (SG53_lv (G53.c7 y103.1 y103.2.1 y103.2.2))⟩, trivial⟩ Try.underlying112 info53 rfl rfl rfl rfl rfl (by kernel_rfl) rfl rfl rfl) fun g57 => ?_
 refine tx_fz' (frz_row 0 [(57, (Vw g57), (Sl KG53 ([(G53.c7 y103.1 y103.2.1 y103.2.2)])))] (K := KG53) (xs := [(G53.c7 y103.1 y103.2.1 y103.2.2)]) (by decide) rfl ⟨⟨rfl, frz_it⟩, trivial⟩ (H' := [(Ur q16 114 (C4 y1.1 g16 y1.2.2)), (Rg KG53 53 g16 y1.2.1), (Ur q5 4 [(Vb false)]), (Ur q4 27 (C1 0 0 0)), (Ur q3 27 (C0 a1_0 a1_1 a1_2 a1_3 a1_4 a1_5 a1_6)), (Ur q2 27 (C0 a0_0 a0_1 a0_2 a0_3 a0_4 a0_5 a0_6))]) frzH_refl) ?_
 obtain ⟨r58, hr58, hp⟩ := bind_some hp
 rcases r58 with y105 | y105
 ·dsimp only at hp
  refine so (ox_callg' (ent_fn' Try.func46 isn46 rfl rfl) (gogeom_GeometryCollection_Push_v2_sim _ _ _ _ hr58 : Sx.Fn Try.prog 46 [(Vp q16), (Sl KG53 ([(G53.c7 y103.1 y103.2.1 y103.2.2)]))] [(Ur q16 114 (C4 y1.1 g16 y1.2.2)), (Rg KG53 53 g16 y1.2.1)] (fun x : Gs => Ve) (fun x => [(Ur q16 114 (C4 y105.1 x y105.2.2)), (Rg KG53 53 x y105.2.1)])) [0, 1] [2, 3, 4, 5] (by decide) (p2 rfl rfl) (p4 rfl rfl rfl rfl) (Hn := fun x : Gs => [(Ur q16 114 (C4 y105.1 x y105.2.2)), (Rg KG53 53 x y105.2.1), (Ur q5 4 [(Vb false)]), (Ur q4 27 (C1 0 0 0)), (Ur q3 27 (C0 a1_0 a1_1 a1_2 a1_3 a1_4 a1_5 a1_6)), (Ur q2 27 (C0 a0_0 a0_1 a0_2 a0_3 a0_4 a0_5 a0_6))]) (fun _ => rfl) rfl rfl) fun g58 => ?_
  refine sa rfl ?_
  refine sx_nil' ?_
  show TX E K5 _
  exact tk [3, 2, 0, 1] (u4 rfl rfl rfl rfl) (p4 rfl rfl rfl rfl) (hK5 (.inl (y105.1, y105.2.1, y105.2.2, g58)) hp)
 dsimp only at hp
 refine so (ox_callg' (ent_fn' Try.func46 isn46 rfl rfl) (gogeom_GeometryCollection_Push_v2_sim _ _ _ _ hr58 : Sx.Fn Try.prog 46 [(Vp q16), (Sl KG53 ([(G53.c7 y103.1 y103.2.1 y103.2.2)]))] [(Ur q16 114 (C4 y1.1 g16 y1.2.2)), (Rg KG53 53 g16 y1.2.1)] (fun x : Gs => (If 134 (Ag (C19 y105.2.2.2 y105.1)))) (fun x => [(Ur q16 114 (C4 y105.1 g16 y105.2.2.1)), (Rg KG53 53 g16 y105.2.1)])) [0, 1] [2, 3, 4, 5] (by decide) (p2 rfl rfl) (p4 rfl rfl rfl rfl) (Hn := fun x : Gs => [(Ur q16 114 (C4 y105.1 g16 y105.2.2.1)), (Rg KG53 53 g16 y105.2.1), (Ur q5 4 [(Vb false)]), (Ur q4 27 (C1 0 0 0)), (Ur q3 27 (C0 a1_0 a1_1 a1_2 a1_3 a1_4 a1_5 a1_6)), (Ur q2 27 (C0 a0_0 a0_1 a0_2 a0_3 a0_4 a0_5 a0_6))]) (fun _ => rfl) rfl rfl) fun g58 => ?_
 refine sa rfl ?_
 refine sx_nil' ?_
 show TX E K5 _
 exact tk [3, 2, 0, 1] (u4 rfl rfl rfl rfl) (p4 rfl rfl rfl rfl) (hK5 (.inr (y105.2.2.2, y105.1, y105.2.1, y105.2.2.1)) hp)

def spec_SameFloats_l1s (a0 a1 : List Nat) (k : Nat) (rec1 : Int → Option (Unit ⊕ Unit)) (x1 : Int) : Option (Unit ⊕ Unit) :=
 br (decide (x1 < (a0.length : Int)))
  ((idx a0 x1) >>= fun r17 =>
  (idx a1 x1) >>= fun r23 =>
  br (!decide ((fbits r17) = (fbits r23)))
   (some (.inl ()))
   (rec1 (iadd .i64 x1 1)))
  (some (.inr ()))
def spec_SameFloats_l1 (a0 a1 : List Nat) : Nat → Int → Option (Unit ⊕ Unit)
 | 0, _ => none
 | k + 1, v => spec_SameFloats_l1s a0 a1 k (spec_SameFloats_l1 a0 a1 k) v
def spec_SameFloats (k : Nat) (a0 a1 : List Nat) : Option (Bool) :=
 br (!decide ((a0.length : Int) = (a1.length : Int)))
  (some false)
  ((spec_SameFloats_l1 a0 a1 k 0) >>= fun y1 => match y1 with
   | (.inl v2) =>
    (some false)
   | (.inr v3) =>
    (some true))

theorem spec_SameFloats_sim {k : Nat}  (a0 a1 : List Nat) {out : Bool} (hp : spec_SameFloats k a0 a1 = some out) : Sx.Fn Try.prog 35 [(Sl Kf a0), (Sl Kf a1)] [] (fun w : Unit => (Vb out)) (fun w => []) := by
 unfold spec_SameFloats at hp
 refine fn_of Try.func35 rfl Try.ntmps35 rfl fun E hM => ?_
 refine cr fun K1 hK1 => ?_
 refine sa rfl ?_
 refine nk hK1 ?_
 refine cx_seq' fun K2 hK2 => ?_
 refine cr fun K3 hK3 => ?_
 refine sm rfl ?_
 refine sk rfl Try.underlying22 ?_
 refine sm rfl ?_
 refine sk rfl Try.underlying22 ?_
 refine sb rfl rfl eg_int ru_neq ?_
 refine nk hK3 ?_
 refine cx_cond' rfl (fun h1 => ?_) (fun h1 => ?_)
 ·replace hp := (br_t h1).symm.trans hp
  refine cr fun K4 hK4 => ?_
  refine sa rfl ?_
  refine nk hK4 ?_
  refine cx_retc' ?_
  replace hp := sj hp
  subst hp
  refine tk (L' := [(4, (Vb false))]) (H' := []) [] (uc rfl un) pn ?_
  exact tx_ret1' Try.results35 rfl () (rv_tmp' rfl) lr
 replace hp := (br_f h1).symm.trans hp
 refine cx_skip' ?_
 show TX E K2 _
 refine tx_k' hK2 ?_
 refine cx_seq' fun K5 hK5 => ?_
 refine cr fun K6 hK6 => ?_
 refine sm rfl ?_
 refine sk rfl Try.underlying22 ?_
 refine sm rfl ?_
 refine nk hK6 ?_
 refine cx_block' ?_
 obtain ⟨y1, hy1, hp⟩ := bind_some hp
 refine cx_loopg' (F := spec_SameFloats_l1 a0 a1) (G := fun k R v => spec_SameFloats_l1s a0 a1 k R v) (x := 0) (gh := ()) (fun (v1 : Int) (w1 : Unit) => (⟨28, [], [(1, (Sl Kf a1)), (12, (Sl Kf a0)), (13, (Vi (a0.length : Int))), (14, (Vi v1))], []⟩ : St)) (fun (y : Unit ⊕ Unit) => match y with | (.inl v2) => Zg E Exit.ret (fun (w2 : Unit) => (⟨28, [], [(4, (Vb false))], []⟩ : St)) | (.inr v3) => Zg E (Exit.exit 0) (fun (w3 : Unit) => (⟨28, [], [], []⟩ : St))) (fun _ => rfl) (fun _ _ => rfl) ?_ hy1 (tx_to' rfl [] (u4 rfl rfl rfl rfl) (by decide) pn) ?_
 ·clear hp hy1
  clear y1
  intro k rec1 KY1 ih1
  rintro x1 ⟨⟩ y1 hp
  replace hp : spec_SameFloats_l1s a0 a1 k rec1 x1 = some y1 := hp
  unfold spec_SameFloats_l1s at hp
  refine cr fun K13 hK13 => ?_
  refine sb rfl rfl eg_int ru_lss ?_
  refine nk hK13 ?_
  refine cx_seq' fun K14 hK14 => ?_
  refine cx_cond' rfl (fun h5 => ?_) (fun h5 => ?_)
  ·replace hp := (br_t h5).symm.trans hp
   refine cx_skip' ?_
   show TX E K14 _
   refine tx_k' hK14 ?_
   refine cx_seq' fun K15 hK15 => ?_
   refine cx_block' ?_
   refine cr fun K16 hK16 => ?_
   refine sm rfl ?_
   obtain ⟨r17, hr17, hp⟩ := bind_some hp
   refine s0 (rd_at' (K := Kf) rfl rfl hr17 Try.underlying22 info32) ?_
   refine s0 (rd_load_pt' rfl rfl flat32) ?_
   iterate 2 refine sa rfl ?_
   refine nk hK16 ?_
   refine cx_seq' fun K17 hK17 => ?_
   refine cx_draw' mixed (by kernel_rfl) ?_
   refine qd (rd_move' rfl) ?_
   refine qd (rd_ext' (us := [.float .f64 r17]) rfl (ext82 ex_bits)) ?_
   iterate 2 refine qd (rd_move' rfl) ?_
   obtain ⟨r23, hr23, hp⟩ := bind_some hp
   refine qd (rd_at' (K := Kf) rfl rfl hr23 Try.underlying22 info32) ?_
   refine qd (rd_load_pt' rfl rfl flat32) ?_
   refine qd (rd_ext' (us := [.float .f64 r23]) rfl (ext82 ex_bits)) ?_
   refine qd (rd_bin' rfl rfl eg_int ru_neq) ?_
   refine qx_nil' ?_
   show TX E K17 _
   refine tx_k' hK17 ?_
   refine cx_cond' rfl (fun h6 => ?_) (fun h6 => ?_)
   ·replace hp := (br_t h6).symm.trans hp
    refine cr fun K18 hK18 => ?_
    refine sa rfl ?_
    refine nk hK18 ?_
    refine cx_retc' ?_
    replace hp := sj hp
    subst hp
    show TX E (Zg E Exit.ret _ Exit.ret) _
    exact tx_zend' () rfl [] (uc rfl un) (by decide) pn
   replace hp := (br_f h6).symm.trans hp
   refine cx_skip' ?_
   show TX E K15 _
   refine tx_k' hK15 ?_
   refine cx_region' ?_
   refine sb rfl rfl eg_int ru_add ?_
   refine sm rfl ?_
   refine sx_nil' ?_
   show TX E (KY1 _) _
   exact tk [] (u4 rfl rfl rfl rfl) pn (ih1 (iadd .i64 x1 1) () _ hp)
  replace hp := (br_f h5).symm.trans hp
  refine cx_exit' ?_
  replace hp := sj hp
  subst hp
  show TX E (Zg E (Exit.exit 0) _ (Exit.exit 0)) _
  exact tx_zend' () rfl [] un (by decide) pn
 rcases y1 with v2 | v3
 ·dsimp only at hp
  refine zg_out fun w2 => ?_
  replace hp := sj hp
  subst hp
  refine tk (L' := [(4, (Vb false))]) (H' := []) [] (uc rfl un) pn ?_
  exact tx_ret1' Try.results35 rfl () (rv_tmp' rfl) lr
 dsimp only at hp
 refine zg_out fun w3 => ?_
 show TX E K5 _
 refine tx_k' hK5 ?_
 refine cr fun K19 hK19 => ?_
 refine sa rfl ?_
 refine nk hK19 ?_
 refine cx_retc' ?_
 replace hp := sj hp
 subst hp
 refine tk (L' := [(4, (Vb true))]) (H' := []) [] (uc rfl un) pn ?_
 exact tx_ret1' Try.results35 rfl () (rv_tmp' rfl) lr

def spec_sameInts_l1s (a0 a1 : List Int) (k : Nat) (rec1 : Int → Option (Unit ⊕ Unit)) (x1 : Int) : Option (Unit ⊕ Unit) :=
 br (decide (x1 < (a0.length : Int)))
  ((idx a0 x1) >>= fun r17 =>
  (idx a1 x1) >>= fun r22 =>
  br (!decide (r17 = r22))
   (some (.inl ()))
   (rec1 (iadd .i64 x1 1)))
  (some (.inr ()))
def spec_sameInts_l1 (a0 a1 : List Int) : Nat → Int → Option (Unit ⊕ Unit)
 | 0, _ => none
 | k + 1, v => spec_sameInts_l1s a0 a1 k (spec_sameInts_l1 a0 a1 k) v
def spec_sameInts (k : Nat) (a0 a1 : List Int) : Option (Bool) :=
 br (!decide ((a0.length : Int) = (a1.length : Int)))
  (some false)
  ((spec_sameInts_l1 a0 a1 k 0) >>= fun y1 => match y1 with
   | (.inl v2) =>
    (some false)
   | (.inr v3) =>
    (some true))

theorem spec_sameInts_sim {k : Nat}  (a0 a1 : List Int) {out : Bool} (hp : spec_sameInts k a0 a1 = some out) : Sx.Fn Try.prog 36 [(Sl (Ki .i64) a0), (Sl (Ki .i64) a1)] [] (fun w : Unit => (Vb out)) (fun w => []) := by
 unfold spec_sameInts at hp
 refine fn_of Try.func36 rfl Try.ntmps36 rfl fun E hM => ?_
 refine cr fun K1 hK1 => ?_
 refine sa rfl ?_
 refine nk hK1 ?_
 refine cx_seq' fun K2 hK2 => ?_
 refine cr fun K3 hK3 => ?_
 refine sm rfl ?_
 refine sk rfl Try.underlying23 ?_
 refine sm rfl ?_
 refine sk rfl Try.underlying23 ?_
 refine sb rfl rfl eg_int ru_neq ?_
 refine nk hK3 ?_
 refine cx_cond' rfl (fun h1 => ?_) (fun h1 => ?_)
 ·replace hp := (br_t h1).symm.trans hp
  refine cr fun K4 hK4 => ?_
  refine sa rfl ?_
  refine nk hK4 ?_
  refine cx_retc' ?_
  replace hp := sj hp
  subst hp
  refine tk (L' := [(4, (Vb false))]) (H' := []) [] (uc rfl un) pn ?_
  exact tx_ret1' Try.results36 rfl () (rv_tmp' rfl) lr
 replace hp := (br_f h1).symm.trans hp
 refine cx_skip' ?_
 show TX E K2 _
 refine tx_k' hK2 ?_
 refine cx_seq' fun K5 hK5 => ?_
 refine cr fun K6 hK6 => ?_
 refine sm rfl ?_
 refine sk rfl Try.underlying23 ?_
 refine sm rfl ?_
 refine nk hK6 ?_
 refine cx_block' ?_
 obtain ⟨y1, hy1, hp⟩ := bind_some hp
 refine cx_loopg' (F := spec_sameInts_l1 a0 a1) (G := fun k R v => spec_sameInts_l1s a0 a1 k R v) (x := 0) (gh := ()) (fun (v1 : Int) (w1 : Unit) => (⟨26, [], [(1, (Sl (Ki .i64) a1)), (12, (Sl (Ki .i64) a0)), (13, (Vi (a0.length : Int))), (14, (Vi v1))], []⟩ : St)) (fun (y : Unit ⊕ Unit) => match y with | (.inl v2) => Zg E Exit.ret (fun (w2 : Unit) => (⟨26, [], [(4, (Vb false))], []⟩ : St)) | (.inr v3) => Zg E (Exit.exit 0) (fun (w3 : Unit) => (⟨26, [], [], []⟩ : St))) (fun _ => rfl) (fun _ _ => rfl) ?_ hy1 (tx_to' rfl [] (u4 rfl rfl rfl rfl) (by decide) pn) ?_
 ·clear hp hy1
  clear y1
  intro k rec1 KY1 ih1
  rintro x1 ⟨⟩ y1 hp
  replace hp : spec_sameInts_l1s a0 a1 k rec1 x1 = some y1 := hp
  unfold spec_sameInts_l1s at hp
  refine cr fun K13 hK13 => ?_
  refine sb rfl rfl eg_int ru_lss ?_
  refine nk hK13 ?_
  refine cx_seq' fun K14 hK14 => ?_
  refine cx_cond' rfl (fun h5 => ?_) (fun h5 => ?_)
  ·replace hp := (br_t h5).symm.trans hp
   refine cx_skip' ?_
   show TX E K14 _
   refine tx_k' hK14 ?_
   refine cx_seq' fun K15 hK15 => ?_
   refine cx_block' ?_
   refine cr fun K16 hK16 => ?_
   refine sm rfl ?_
   obtain ⟨r17, hr17, hp⟩ := bind_some hp
   refine s0 (rd_at' (K := (Ki .i64)) rfl rfl hr17 Try.underlying23 info3) ?_
   refine s0 (rd_load_pt' rfl rfl flat3) ?_
   iterate 2 refine sa rfl ?_
   refine nk hK16 ?_
   refine cr fun K17 hK17 => ?_
   iterate 3 refine sm rfl ?_
   obtain ⟨r22, hr22, hp⟩ := bind_some hp
   refine s0 (rd_at' (K := (Ki .i64)) rfl rfl hr22 Try.underlying23 info3) ?_
   refine s0 (rd_load_pt' rfl rfl flat3) ?_
   refine sb rfl rfl eg_int ru_neq ?_
   refine nk hK17 ?_
   refine cx_cond' rfl (fun h6 => ?_) (fun h6 => ?_)
   ·replace hp := (br_t h6).symm.trans hp
    refine cr fun K18 hK18 => ?_
    refine sa rfl ?_
    refine nk hK18 ?_
    refine cx_retc' ?_
    replace hp := sj hp
    subst hp
    show TX E (Zg E Exit.ret _ Exit.ret) _
    exact tx_zend' () rfl [] (uc rfl un) (by decide) pn
   replace hp := (br_f h6).symm.trans hp
   refine cx_skip' ?_
   show TX E K15 _
   refine tx_k' hK15 ?_
   refine cx_region' ?_
   refine sb rfl rfl eg_int ru_add ?_
   refine sm rfl ?_
   refine sx_nil' ?_
   show TX E (KY1 _) _
   exact tk [] (u4 rfl rfl rfl rfl) pn (ih1 (iadd .i64 x1 1) () _ hp)
  replace hp := (br_f h5).symm.trans hp
  refine cx_exit' ?_
  replace hp := sj hp
  subst hp
  show TX E (Zg E (Exit.exit 0) _ (Exit.exit 0)) _
  exact tx_zend' () rfl [] un (by decide) pn
 rcases y1 with v2 | v3
 ·dsimp only at hp
  refine zg_out fun w2 => ?_
  replace hp := sj hp
  subst hp
  refine tk (L' := [(4, (Vb false))]) (H' := []) [] (uc rfl un) pn ?_
  exact tx_ret1' Try.results36 rfl () (rv_tmp' rfl) lr
 dsimp only at hp
 refine zg_out fun w3 => ?_
 show TX E K5 _
 refine tx_k' hK5 ?_
 refine cr fun K19 hK19 => ?_
 refine sa rfl ?_
 refine nk hK19 ?_
 refine cx_retc' ?_
 replace hp := sj hp
 subst hp
 refine tk (L' := [(4, (Vb true))]) (H' := []) [] (uc rfl un) pn ?_
 exact tx_ret1' Try.results36 rfl () (rv_tmp' rfl) lr

def spec_SameGeom_l1s (a0_5 a1_5 : List (List Int)) (k : Nat) (rec1 : Int → Option (Unit ⊕ Unit)) (x7 : Int) : Option (Unit ⊕ Unit) :=
 br (decide (x7 < (a0_5.length : Int)))
  ((idx a0_5 x7) >>= fun r68 =>
  (idx a1_5 x7) >>= fun r74 =>
  (spec_sameInts k r68 r74) >>= fun r76 =>
  br (!r76)
   (some (.inl ()))
   (rec1 (iadd .i64 x7 1)))
  (some (.inr ()))
def spec_SameGeom_l1 (a0_5 a1_5 : List (List Int)) : Nat → Int → Option (Unit ⊕ Unit)
 | 0, _ => none
 | k + 1, v => spec_SameGeom_l1s a0_5 a1_5 k (spec_SameGeom_l1 a0_5 a1_5 k) v
def spec_SameGeom_l2s (a0_6 a1_6 : List T27) (recf : Int → Int → Int → (List Nat) → (List Int) → (List (List Int)) → (List T27) → Int → Int → Int → (List Nat) → (List Int) → (List (List Int)) → (List T27) → Option (Bool)) (k : Nat) (rec2 : Int → Option (Unit ⊕ Unit)) (x9 : Int) : Option (Unit ⊕ Unit) :=
 br (decide (x9 < (a0_6.length : Int)))
  ((idx a0_6 x9) >>= fun r85 =>
  (idx a1_6 x9) >>= fun r91 =>
  (recf r85.f0 r85.f1 r85.f2 r85.f3 r85.f4 r85.f5 r85.f6 r91.f0 r91.f1 r91.f2 r91.f3 r91.f4 r91.f5 r91.f6) >>= fun r93 =>
  br (!r93)
   (some (.inl ()))
   (rec2 (iadd .i64 x9 1)))
  (some (.inr ()))
def spec_SameGeom_l2 (a0_6 a1_6 : List T27) (recf : Int → Int → Int → (List Nat) → (List Int) → (List (List Int)) → (List T27) → Int → Int → Int → (List Nat) → (List Int) → (List (List Int)) → (List T27) → Option (Bool)) : Nat → Int → Option (Unit ⊕ Unit)
 | 0, _ => none
 | k + 1, v => spec_SameGeom_l2s a0_6 a1_6 recf k (spec_SameGeom_l2 a0_6 a1_6 recf k) v
def spec_SameGeom_j6 (k : Nat) (a0_5 a1_5 : List (List Int)) (a0_6 a1_6 : List T27) (recf : Int → Int → Int → (List Nat) → (List Int) → (List (List Int)) → (List T27) → Int → Int → Int → (List Nat) → (List Int) → (List (List Int)) → (List T27) → Option (Bool)) (x6 : Bool) : Option (Bool) :=
 br x6
  (some false)
  ((spec_SameGeom_l1 a0_5 a1_5 k 0) >>= fun y1 => match y1 with
   | (.inl v8) =>
    (some false)
   | (.inr v9) =>
    ((spec_SameGeom_l2 a0_6 a1_6 recf k 0) >>= fun y2 => match y2 with
     | (.inl v12) =>
      (some false)
     | (.inr v13) =>
      (some true)))
def spec_SameGeom_j5 (k : Nat) (a0_5 a1_5 : List (List Int)) (a0_6 a1_6 : List T27) (recf : Int → Int → Int → (List Nat) → (List Int) → (List (List Int)) → (List T27) → Int → Int → Int → (List Nat) → (List Int) → (List (List Int)) → (List T27) → Option (Bool)) (x5 : Bool) : Option (Bool) :=
 br x5
  (spec_SameGeom_j6 k a0_5 a1_5 a0_6 a1_6 recf true)
  (spec_SameGeom_j6 k a0_5 a1_5 a0_6 a1_6 recf (!decide ((a0_6.length : Int) = (a1_6.length : Int))))
def spec_SameGeom_j4 (k : Nat) (a0_5 a1_5 : List (List Int)) (a0_6 a1_6 : List T27) (recf : Int → Int → Int → (List Nat) → (List Int) → (List (List Int)) → (List T27) → Int → Int → Int → (List Nat) → (List Int) → (List (List Int)) → (List T27) → Option (Bool)) (x4 : Bool) : Option (Bool) :=
 br x4
  (spec_SameGeom_j5 k a0_5 a1_5 a0_6 a1_6 recf true)
  (spec_SameGeom_j5 k a0_5 a1_5 a0_6 a1_6 recf (!decide ((a0_5.length : Int) = (a1_5.length : Int))))
def spec_SameGeom_j3 (k : Nat) (a0_5 a1_5 : List (List Int)) (a0_6 a1_6 : List T27) (recf : Int → Int → Int → (List Nat) → (List Int) → (List (List Int)) → (List T27) → Int → Int → Int → (List Nat) → (List Int) → (List (List Int)) → (List T27) → Option (Bool)) (a0_4 a1_4 : List Int) (x3 : Bool) : Option (Bool) :=
 br x3
  (spec_SameGeom_j4 k a0_5 a1_5 a0_6 a1_6 recf true)
  ((spec_sameInts k a0_4 a1_4) >>= fun r41 =>
  spec_SameGeom_j4 k a0_5 a1_5 a0_6 a1_6 recf (!r41))
def spec_SameGeom_j2 (k : Nat) (a0_5 a1_5 : List (List Int)) (a0_6 a1_6 : List T27) (recf : Int → Int → Int → (List Nat) → (List Int) → (List (List Int)) → (List T27) → Int → Int → Int → (List Nat) → (List Int) → (List (List Int)) → (List T27) → Option (Bool)) (a0_4 a1_4 : List Int) (a0_3 a1_3 : List Nat) (x2 : Bool) : Option (Bool) :=
 br x2
  (spec_SameGeom_j3 k a0_5 a1_5 a0_6 a1_6 recf a0_4 a1_4 true)
  ((spec_SameFloats k a0_3 a1_3) >>= fun r33 =>
  spec_SameGeom_j3 k a0_5 a1_5 a0_6 a1_6 recf a0_4 a1_4 (!r33))
def spec_SameGeom_j1 (k : Nat) (a0_5 a1_5 : List (List Int)) (a0_6 a1_6 : List T27) (recf : Int → Int → Int → (List Nat) → (List Int) → (List (List Int)) → (List T27) → Int → Int → Int → (List Nat) → (List Int) → (List (List Int)) → (List T27) → Option (Bool)) (a0_4 a1_4 : List Int) (a0_3 a1_3 : List Nat) (a0_2 a1_2 : Int) (x1 : Bool) : Option (Bool) :=
 br x1
  (spec_SameGeom_j2 k a0_5 a1_5 a0_6 a1_6 recf a0_4 a1_4 a0_3 a1_3 true)
  (spec_SameGeom_j2 k a0_5 a1_5 a0_6 a1_6 recf a0_4 a1_4 a0_3 a1_3 (!decide (a0_2 = a1_2)))
def spec_SameGeom_b (recf : Int → Int → Int → (List Nat) → (List Int) → (List (List Int)) → (List T27) → Int → Int → Int → (List Nat) → (List Int) → (List (List Int)) → (List T27) → Option (Bool)) (k : Nat) (a0_0 a0_1 a0_2 : Int) (a0_3 : List Nat) (a0_4 : List Int) (a0_5 : List (List Int)) (a0_6 : List T27) (a1_0 a1_1 a1_2 : Int) (a1_3 : List Nat) (a1_4 : List Int) (a1_5 : List (List Int)) (a1_6 : List T27) : Option (Bool) :=
 br (!decide (a0_0 = a1_0))
  (spec_SameGeom_j1 k a0_5 a1_5 a0_6 a1_6 recf a0_4 a1_4 a0_3 a1_3 a0_2 a1_2 true)
  (spec_SameGeom_j1 k a0_5 a1_5 a0_6 a1_6 recf a0_4 a1_4 a0_3 a1_3 a0_2 a1_2 (!decide (a0_1 = a1_1)))
def spec_SameGeom : Nat → Int → Int → Int → (List Nat) → (List Int) → (List (List Int)) → (List T27) → Int → Int → Int → (List Nat) → (List Int) → (List (List Int)) → (List T27) → Option (Bool)
 | 0 => fun _ _ _ _ _ _ _ _ _ _ _ _ _ _ => none
 | k + 1 => fun a0_0 a0_1 a0_2 a0_3 a0_4 a0_5 a0_6 a1_0 a1_1 a1_2 a1_3 a1_4 a1_5 a1_6 => spec_SameGeom_b (spec_SameGeom k) k a0_0 a0_1 a0_2 a0_3 a0_4 a0_5 a0_6 a1_0 a1_1 a1_2 a1_3 a1_4 a1_5 a1_6

theorem spec_SameGeom_b_sim {recf : Int → Int → Int → (List Nat) → (List Int) → (List (List Int)) → (List T27) → Int → Int → Int → (List Nat) → (List Int) → (List (List Int)) → (List T27) → Option (Bool)} (hrec : ∀  (a0_0 a0_1 a0_2 : Int) (a0_3 : List Nat) (a0_4 : List Int) (a0_5 : List (List Int)) (a0_6 : List T27) (a1_0 a1_1 a1_2 : Int) (a1_3 : List Nat) (a1_4 : List Int) (a1_5 : List (List Int)) (a1_6 : List T27) (out : Bool), recf a0_0 a0_1 a0_2 a0_3 a0_4 a0_5 a0_6 a1_0 a1_1 a1_2 a1_3 a1_4 a1_5 a1_6 = some out → Sx.Fn Try.prog 13 [(Ag (C0 a0_0 a0_1 a0_2 a0_3 a0_4 a0_5 a0_6)), (Ag (C0 a1_0 a1_1 a1_2 a1_3 a1_4 a1_5 a1_6))] [] (fun w : Unit => (Vb out)) (fun w => [])) {k : Nat}  (a0_0 a0_1 a0_2 : Int) (a0_3 : List Nat) (a0_4 : List Int) (a0_5 : List (List Int)) (a0_6 : List T27) (a1_0 a1_1 a1_2 : Int) (a1_3 : List Nat) (a1_4 : List Int) (a1_5 : List (List Int)) (a1_6 : List T27) {out : Bool} (hp : spec_SameGeom_b recf k a0_0 a0_1 a0_2 a0_3 a0_4 a0_5 a0_6 a1_0 a1_1 a1_2 a1_3 a1_4 a1_5 a1_6 = some out) : Sx.Fn Try.prog 13 [(Ag (C0 a0_0 a0_1 a0_2 a0_3 a0_4 a0_5 a0_6)), (Ag (C0 a1_0 a1_1 a1_2 a1_3 a1_4 a1_5 a1_6))] [] (fun w : Unit => (Vb out)) (fun w => []) := by
 unfold spec_SameGeom_b at hp
 refine fn_of Try.func13 rfl Try.ntmps13 rfl fun E hM => ?_
 refine cr fun K1 hK1 => ?_
 refine so (ox_box' rfl (lv_ag _) rfl rfl) fun q2 => ?_
 refine so (ox_box' rfl (lv_ag _) rfl rfl) fun q3 => ?_
 refine sa rfl ?_
 refine nk hK1 ?_
 refine cx_seq' fun K2 hK2 => ?_
 refine cr fun K3 hK3 => ?_
 refine sf rfl Try.underlying27 rfl info3 rfl ?_
 refine sl (i := 1) (o := 0) rfl (ar rfl rfl rfl rfl) rfl flat3 ?_
 refine sf rfl Try.underlying27 rfl info3 rfl ?_
 refine sl (i := 0) (o := 0) rfl (ar rfl rfl rfl rfl) rfl flat3 ?_
 refine sb rfl rfl eg_int ru_neq ?_
 refine sm rfl ?_
 refine sx_cutn' 6 (fun (v1 : Bool) => (⟨96, [], [(2, (Vp q2)), (3, (Vp q3)), (20, (Vb v1))], [(Ur q2 27 (C0 a0_0 a0_1 a0_2 a0_3 a0_4 a0_5 a0_6)), (Ur q3 27 (C0 a1_0 a1_1 a1_2 a1_3 a1_4 a1_5 a1_6))]⟩ : St)) (fun (v1 : Bool) => spec_SameGeom_j1 k a0_5 a1_5 a0_6 a1_6 recf a0_4 a1_4 a0_3 a1_3 a0_2 a1_2 v1 = some out) ?_ ?_
 ·rintro x1 hp
  replace hp : spec_SameGeom_j1 k a0_5 a1_5 a0_6 a1_6 recf a0_4 a1_4 a0_3 a1_3 a0_2 a1_2 x1 = some out := hp
  unfold spec_SameGeom_j1 at hp
  refine sm rfl ?_
  refine sx_cutn' 6 (fun (v2 : Bool) => (⟨96, [], [(2, (Vp q2)), (3, (Vp q3)), (27, (Vb v2))], [(Ur q2 27 (C0 a0_0 a0_1 a0_2 a0_3 a0_4 a0_5 a0_6)), (Ur q3 27 (C0 a1_0 a1_1 a1_2 a1_3 a1_4 a1_5 a1_6))]⟩ : St)) (fun (v2 : Bool) => spec_SameGeom_j2 k a0_5 a1_5 a0_6 a1_6 recf a0_4 a1_4 a0_3 a1_3 v2 = some out) ?_ ?_
  ·rintro x2 hp
   replace hp : spec_SameGeom_j2 k a0_5 a1_5 a0_6 a1_6 recf a0_4 a1_4 a0_3 a1_3 x2 = some out := hp
   unfold spec_SameGeom_j2 at hp
   refine sm rfl ?_
   refine sx_cutn' 7 (fun (v3 : Bool) => (⟨96, [], [(2, (Vp q2)), (3, (Vp q3)), (35, (Vb v3))], [(Ur q2 27 (C0 a0_0 a0_1 a0_2 a0_3 a0_4 a0_5 a0_6)), (Ur q3 27 (C0 a1_0 a1_1 a1_2 a1_3 a1_4 a1_5 a1_6))]⟩ : St)) (fun (v3 : Bool) => spec_SameGeom_j3 k a0_5 a1_5 a0_6 a1_6 recf a0_4 a1_4 v3 = some out) ?_ ?_
   ·rintro x3 hp
    replace hp : spec_SameGeom_j3 k a0_5 a1_5 a0_6 a1_6 recf a0_4 a1_4 x3 = some out := hp
    unfold spec_SameGeom_j3 at hp
    refine sm rfl ?_
    refine sx_cutn' 7 (fun (v4 : Bool) => (⟨96, [], [(2, (Vp q2)), (3, (Vp q3)), (43, (Vb v4))], [(Ur q2 27 (C0 a0_0 a0_1 a0_2 a0_3 a0_4 a0_5 a0_6)), (Ur q3 27 (C0 a1_0 a1_1 a1_2 a1_3 a1_4 a1_5 a1_6))]⟩ : St)) (fun (v4 : Bool) => spec_SameGeom_j4 k a0_5 a1_5 a0_6 a1_6 recf v4 = some out) ?_ ?_
    ·rintro x4 hp
     replace hp : spec_SameGeom_j4 k a0_5 a1_5 a0_6 a1_6 recf x4 = some out := hp
     unfold spec_SameGeom_j4 at hp
     refine sm rfl ?_
     refine sx_cutn' 8 (fun (v5 : Bool) => (⟨96, [], [(2, (Vp q2)), (3, (Vp q3)), (52, (Vb v5))], [(Ur q2 27 (C0 a0_0 a0_1 a0_2 a0_3 a0_4 a0_5 a0_6)), (Ur q3 27 (C0 a1_0 a1_1 a1_2 a1_3 a1_4 a1_5 a1_6))]⟩ : St)) (fun (v5 : Bool) => spec_SameGeom_j5 k a0_5 a1_5 a0_6 a1_6 recf v5 = some out) ?_ ?_
     ·rintro x5 hp
      replace hp : spec_SameGeom_j5 k a0_5 a1_5 a0_6 a1_6 recf x5 = some out := hp
      unfold spec_SameGeom_j5 at hp
      refine sm rfl ?_
      refine sx_cutn' 8 (fun (v6 : Bool) => (⟨96, [], [(2, (Vp q2)), (3, (Vp q3)), (61, (Vb v6))], [(Ur q2 27 (C0 a0_0 a0_1 a0_2 a0_3 a0_4 a0_5 a0_6)), (Ur q3 27 (C0 a1_0 a1_1 a1_2 a1_3 a1_4 a1_5 a1_6))]⟩ : St)) (fun (v6 : Bool) => spec_SameGeom_j6 k a0_5 a1_5 a0_6 a1_6 recf v6 = some out) ?_ ?_
      ·rintro x6 hp
       replace hp : spec_SameGeom_j6 k a0_5 a1_5 a0_6 a1_6 recf x6 = some out := hp
       unfold spec_SameGeom_j6 at hp
       refine nk hK3 ?_
       refine cx_cond' rfl (fun h7 => ?_) (fun h7 => ?_)
       ·replace hp := (br_t h7).symm.trans hp
        refine cr fun K10 hK10 => ?_
        refine sa rfl ?_
        refine nk hK10 ?_
        refine cx_retc' ?_
        replace hp := sj hp
        subst hp
        refine tk (L' := [(4, (Vb false))]) (H' := []) [] (uc rfl un) pn ?_
        exact tx_ret1' Try.results13 rfl () (rv_tmp' rfl) lr
       replace hp := (br_f h7).symm.trans hp
       refine cx_skip' ?_
       show TX E K2 _
       refine tx_k' hK2 ?_
       refine cx_seq' fun K11 hK11 => ?_
       refine cr fun K12 hK12 => ?_
       refine sg (off := 5) rfl Try.underlying27 rfl info24 rfl ?_
       refine sl (i := 0) (o := 5) rfl (ar rfl rfl rfl rfl) rfl flat24 ?_
       refine sk rfl Try.underlying24 ?_
       refine sm rfl ?_
       refine nk hK12 ?_
       refine cx_block' ?_
       obtain ⟨y1, hy1, hp⟩ := bind_some hp
       refine cx_loopg' (F := spec_SameGeom_l1 a0_5 a1_5) (G := fun k R v => spec_SameGeom_l1s a0_5 a1_5 k R v) (x := 0) (gh := ()) (fun (v7 : Int) (w7 : Unit) => (⟨96, [], [(2, (Vp q2)), (3, (Vp q3)), (63, (Sl (Kl (Ki .i64)) a0_5)), (64, (Vi (a0_5.length : Int))), (65, (Vi v7))], [(Ur q2 27 (C0 a0_0 a0_1 a0_2 a0_3 a0_4 a0_5 a0_6)), (Ur q3 27 (C0 a1_0 a1_1 a1_2 a1_3 a1_4 a1_5 a1_6))]⟩ : St)) (fun (y : Unit ⊕ Unit) => match y with | (.inl v8) => Zg E Exit.ret (fun (w8 : Unit) => (⟨96, [], [(4, (Vb false))], []⟩ : St)) | (.inr v9) => Zg E (Exit.exit 0) (fun (w9 : Unit) => (⟨96, [], [(2, (Vp q2)), (3, (Vp q3))], [(Ur q2 27 (C0 a0_0 a0_1 a0_2 a0_3 a0_4 a0_5 a0_6)), (Ur q3 27 (C0 a1_0 a1_1 a1_2 a1_3 a1_4 a1_5 a1_6))]⟩ : St))) (fun _ => rfl) (fun _ _ => rfl) ?_ hy1 (tx_to' rfl [0, 1] (u5 rfl rfl rfl rfl rfl) (by decide) (p2 rfl rfl)) ?_
       ·clear hp hy1
        clear y1
        intro k rec1 KY1 ih1
        rintro x7 ⟨⟩ y1 hp
        replace hp : spec_SameGeom_l1s a0_5 a1_5 k rec1 x7 = some y1 := hp
        unfold spec_SameGeom_l1s at hp
        refine cr fun K19 hK19 => ?_
        refine sb rfl rfl eg_int ru_lss ?_
        refine nk hK19 ?_
        refine cx_seq' fun K20 hK20 => ?_
        refine cx_cond' rfl (fun h11 => ?_) (fun h11 => ?_)
        ·replace hp := (br_t h11).symm.trans hp
         refine cx_skip' ?_
         show TX E K20 _
         refine tx_k' hK20 ?_
         refine cx_seq' fun K21 hK21 => ?_
         refine cx_block' ?_
         refine cr fun K22 hK22 => ?_
         refine sm rfl ?_
         obtain ⟨r68, hr68, hp⟩ := bind_some hp
         refine s0 (rd_at' (K := (Kl (Ki .i64))) rfl rfl hr68 Try.underlying24 info23) ?_
         refine s0 (rd_load_pt' rfl rfl flat23) ?_
         iterate 2 refine sa rfl ?_
         refine nk hK22 ?_
         refine cr fun K23 hK23 => ?_
         refine sm rfl ?_
         refine sg (off := 5) rfl Try.underlying27 rfl info24 rfl ?_
         refine sl (i := 1) (o := 5) rfl (ar rfl rfl rfl rfl) rfl flat24 ?_
         refine sm rfl ?_
         obtain ⟨r74, hr74, hp⟩ := bind_some hp
         refine s0 (rd_at' (K := (Kl (Ki .i64))) rfl rfl hr74 Try.underlying24 info23) ?_
         refine s0 (rd_load_pt' rfl rfl flat23) ?_
         obtain ⟨r76, hr76, hp⟩ := bind_some hp
         refine so (oz (ent_fn' Try.func36 isn36 rfl rfl) (spec_sameInts_sim _ _ hr76)) fun ⟨⟩ => ?_
         refine s0 (rd_un' rfl ru_not) ?_
         refine nk hK23 ?_
         refine cx_cond' rfl (fun h12 => ?_) (fun h12 => ?_)
         ·replace hp := (br_t h12).symm.trans hp
          refine cr fun K24 hK24 => ?_
          refine sa rfl ?_
          refine nk hK24 ?_
          refine cx_retc' ?_
          replace hp := sj hp
          subst hp
          show TX E (Zg E Exit.ret _ Exit.ret) _
          exact tx_zend' () rfl [] (uc rfl un) (by decide) pn
         replace hp := (br_f h12).symm.trans hp
         refine cx_skip' ?_
         show TX E K21 _
         refine tx_k' hK21 ?_
         refine cx_region' ?_
         refine sb rfl rfl eg_int ru_add ?_
         refine sm rfl ?_
         refine sx_nil' ?_
         show TX E (KY1 _) _
         exact tk [0, 1] (u5 rfl rfl rfl rfl rfl) (p2 rfl rfl) (ih1 (iadd .i64 x7 1) () _ hp)
        replace hp := (br_f h11).symm.trans hp
        refine cx_exit' ?_
        replace hp := sj hp
        subst hp
        show TX E (Zg E (Exit.exit 0) _ (Exit.exit 0)) _
        exact tx_zend' () rfl [0, 1] (u2 rfl rfl) (by decide) (p2 rfl rfl)
       rcases y1 with v8 | v9
       ·dsimp only at hp
        refine zg_out fun w8 => ?_
        replace hp := sj hp
        subst hp
        refine tk (L' := [(4, (Vb false))]) (H' := []) [] (uc rfl un) pn ?_
        exact tx_ret1' Try.results13 rfl () (rv_tmp' rfl) lr
       dsimp only at hp
       refine zg_out fun w9 => ?_
       show TX E K11 _
       refine tx_k' hK11 ?_
       refine cx_seq' fun K25 hK25 => ?_
       refine cr fun K26 hK26 => ?_
       refine sg (off := 6) rfl Try.underlying27 rfl info25 rfl ?_
       refine sl (i := 0) (o := 6) rfl (ar rfl rfl rfl rfl) rfl flat25 ?_
       refine sk rfl Try.underlying25 ?_
       refine sm rfl ?_
       refine nk hK26 ?_
       refine cx_block' ?_
       obtain ⟨y2, hy2, hp⟩ := bind_some hp
       refine cx_loopg' (F := spec_SameGeom_l2 a0_6 a1_6 recf) (G := fun k R v => spec_SameGeom_l2s a0_6 a1_6 recf k R v) (x := 0) (gh := ()) (fun (v11 : Int) (w11 : Unit) => (⟨96, [], [(3, (Vp q3)), (80, (Sl KT27 a0_6)), (81, (Vi (a0_6.length : Int))), (82, (Vi v11))], [(Ur q3 27 (C0 a1_0 a1_1 a1_2 a1_3 a1_4 a1_5 a1_6))]⟩ : St)) (fun (y : Unit ⊕ Unit) => match y with | (.inl v12) => Zg E Exit.ret (fun (w12 : Unit) => (⟨96, [], [(4, (Vb false))], []⟩ : St)) | (.inr v13) => Zg E (Exit.exit 2) (fun (w13 : Unit) => (⟨96, [], [], []⟩ : St))) (fun _ => rfl) (fun _ _ => rfl) ?_ hy2 (tx_to' rfl [1] (u4 rfl rfl rfl rfl) (by decide) (pc rfl pn)) ?_
       ·clear hp hy2
        clear y2
        intro k rec2 KY2 ih2
        rintro x9 ⟨⟩ y2 hp
        replace hp : spec_SameGeom_l2s a0_6 a1_6 recf k rec2 x9 = some y2 := hp
        unfold spec_SameGeom_l2s at hp
        refine cr fun K34 hK34 => ?_
        refine sb rfl rfl eg_int ru_lss ?_
        refine nk hK34 ?_
        refine cx_seq' fun K35 hK35 => ?_
        refine cx_cond' rfl (fun h16 => ?_) (fun h16 => ?_)
        ·replace hp := (br_t h16).symm.trans hp
         refine cx_skip' ?_
         show TX E K35 _
         refine tx_k' hK35 ?_
         refine cx_seq' fun K36 hK36 => ?_
         refine cx_block' ?_
         refine cr fun K37 hK37 => ?_
         refine sm rfl ?_
         obtain ⟨r85, hr85, hp⟩ := bind_some hp
         refine s0 (rd_eq' (congrArg Pt (KT27_enc r85)) (rd_at' (K := KT27) rfl rfl hr85 Try.underlying25 info27)) ?_
         refine s0 (rd_load_pt_agg' (nn := 7) rfl rfl agg27 (l' := (C0 r85.f0 r85.f1 r85.f2 r85.f3 r85.f4 r85.f5 r85.f6)) rfl) ?_
         refine so (ox_alloc' info27 rfl rfl rfl rfl (l := (C1 0 0 0)) rfl) fun q8 => ?_
         refine sa rfl ?_
         refine so (ox_store' (i := 0) (o := 0) rfl rfl (lv_ag _) (ar rfl rfl rfl rfl) rfl info27 rfl (H' := [(Ur q8 27 (C0 r85.f0 r85.f1 r85.f2 r85.f3 r85.f4 r85.f5 r85.f6)), (Ur q3 27 (C0 a1_0 a1_1 a1_2 a1_3 a1_4 a1_5 a1_6))]) rfl) fun _ => ?_
         refine nk hK37 ?_
         refine cx_seq' fun K38 hK38 => ?_
         refine cx_plan' [] [] [(0, 1), (1, 1), (2, 1), (3, 1), (4, 1), (5, 1), (6, 0), (7, 1)] mixed (by kernel_rfl) ?_
         refine pd rfl (rd_load_agg' (i := 0) (o := 0) (nn := 7) rfl (ar rfl rfl rfl rfl) rfl agg27 (l' := (C0 r85.f0 r85.f1 r85.f2 r85.f3 r85.f4 r85.f5 r85.f6)) rfl) ?_
         refine pd rfl (rd_field' (off := 6) rfl Try.underlying27 rfl info25 rfl) ?_
         refine pd rfl (rd_load' (i := 1) (o := 6) rfl (ar rfl rfl rfl rfl) rfl flat25) ?_
         refine pd rfl (rd_move' rfl) ?_
         obtain ⟨r91, hr91, hp⟩ := bind_some hp
         refine pd rfl (rd_eq' (congrArg Pt (KT27_enc r91)) (rd_at' (K := KT27) rfl rfl hr91 Try.underlying25 info27)) ?_
         refine pd rfl (rd_load_pt_agg' (nn := 7) rfl rfl agg27 (l' := (C0 r91.f0 r91.f1 r91.f2 r91.f3 r91.f4 r91.f5 r91.f6)) rfl) ?_
         obtain ⟨r93, hr93, hp⟩ := bind_some hp
         refine px_ox' rfl (oz (ent_fn' Try.func13 isn13 rfl rfl) (hrec _ _ _ _ _ _ _ _ _ _ _ _ _ _ _ hr93)) rfl bs_nil (wt_none' rfl) fun ⟨⟩ => ?_
         refine pd rfl (rd_un' rfl ru_not) ?_
         refine px_nil' ?_
         show TX E K38 _
         refine tx_k' hK38 ?_
         refine cx_cond' rfl (fun h17 => ?_) (fun h17 => ?_)
         ·replace hp := (br_t h17).symm.trans hp
          refine cr fun K39 hK39 => ?_
          refine sa rfl ?_
          refine nk hK39 ?_
          refine cx_retc' ?_
          replace hp := sj hp
          subst hp
          show TX E (Zg E Exit.ret _ Exit.ret) _
          exact tx_zend' () rfl [] (uc rfl un) (by decide) pn
         replace hp := (br_f h17).symm.trans hp
         refine cx_skip' ?_
         show TX E K36 _
         refine tx_k' hK36 ?_
         refine cx_region' ?_
         refine sb rfl rfl eg_int ru_add ?_
         refine sm rfl ?_
         refine sx_nil' ?_
         show TX E (KY2 _) _
         exact tk [1] (u4 rfl rfl rfl rfl) (pc rfl pn) (ih2 (iadd .i64 x9 1) () _ hp)
        replace hp := (br_f h16).symm.trans hp
        refine cx_exit' ?_
        replace hp := sj hp
        subst hp
        show TX E (Zg E (Exit.exit 2) _ (Exit.exit 2)) _
        exact tx_zend' () rfl [] un (by decide) pn
       rcases y2 with v12 | v13
       ·dsimp only at hp
        refine zg_out fun w12 => ?_
        replace hp := sj hp
        subst hp
        refine tk (L' := [(4, (Vb false))]) (H' := []) [] (uc rfl un) pn ?_
        exact tx_ret1' Try.results13 rfl () (rv_tmp' rfl) lr
       dsimp only at hp
       refine zg_out fun w13 => ?_
       show TX E K25 _
       refine tx_k' hK25 ?_
       refine cr fun K32 hK32 => ?_
       refine sa rfl ?_
       refine nk hK32 ?_
       refine cx_retc' ?_
       replace hp := sj hp
       subst hp
       refine tk (L' := [(4, (Vb true))]) (H' := []) [] (uc rfl un) pn ?_
       exact tx_ret1' Try.results13 rfl () (rv_tmp' rfl) lr
      intro K9 hK9
      rcases br_cases hp with ⟨h6, hp⟩ | ⟨h6, hp⟩
      ·refine sx_skip' rfl rfl (wt_is' (wt_guard' rfl rfl rfl) (beq_tf h6)) ?_
       iterate 6 refine sx_skip' rfl rfl (wt_is' (wt_guard' rfl rfl rfl) (beq_tf h6)) ?_
       refine s0 (rd_pick_true' rfl h6 rfl) ?_
       refine sx_nil' ?_
       show TX E K9 _
       exact tk [0, 1] (u3 rfl rfl rfl) (p2 rfl rfl) (hK9 true hp)
      refine sx_rd' (rd_field' (off := 6) rfl Try.underlying27 rfl info25 rfl) rfl rfl (wt_is' (wt_guard' rfl rfl rfl) (beq_ff h6)) ?_
      refine sx_rd' (rd_load' (i := 0) (o := 6) rfl (ar rfl rfl rfl rfl) rfl flat25) rfl rfl (wt_is' (wt_guard' rfl rfl rfl) (beq_ff h6)) ?_
      refine sx_rd' (rd_len' rfl Try.underlying25) rfl rfl (wt_is' (wt_guard' rfl rfl rfl) (beq_ff h6)) ?_
      refine sx_rd' (rd_field' (off := 6) rfl Try.underlying27 rfl info25 rfl) rfl rfl (wt_is' (wt_guard' rfl rfl rfl) (beq_ff h6)) ?_
      refine sx_rd' (rd_load' (i := 1) (o := 6) rfl (ar rfl rfl rfl rfl) rfl flat25) rfl rfl (wt_is' (wt_guard' rfl rfl rfl) (beq_ff h6)) ?_
      refine sx_rd' (rd_len' rfl Try.underlying25) rfl rfl (wt_is' (wt_guard' rfl rfl rfl) (beq_ff h6)) ?_
      refine sx_rd' (rd_bin' rfl rfl eg_int ru_neq) rfl rfl (wt_is' (wt_guard' rfl rfl rfl) (beq_ff h6)) ?_
      refine s0 (rd_pick_false' rfl h6 rfl) ?_
      refine sx_nil' ?_
      show TX E K9 _
      exact tk [0, 1] (u3 rfl rfl rfl) (p2 rfl rfl) (hK9 (!decide ((a0_6.length : Int) = (a1_6.length : Int))) hp)
     intro K8 hK8
     rcases br_cases hp with ⟨h5, hp⟩ | ⟨h5, hp⟩
     ·refine sx_skip' rfl rfl (wt_is' (wt_guard' rfl rfl rfl) (beq_tf h5)) ?_
      iterate 6 refine sx_skip' rfl rfl (wt_is' (wt_guard' rfl rfl rfl) (beq_tf h5)) ?_
      refine s0 (rd_pick_true' rfl h5 rfl) ?_
      refine sx_nil' ?_
      show TX E K8 _
      exact tk [0, 1] (u3 rfl rfl rfl) (p2 rfl rfl) (hK8 true hp)
     refine sx_rd' (rd_field' (off := 5) rfl Try.underlying27 rfl info24 rfl) rfl rfl (wt_is' (wt_guard' rfl rfl rfl) (beq_ff h5)) ?_
     refine sx_rd' (rd_load' (i := 0) (o := 5) rfl (ar rfl rfl rfl rfl) rfl flat24) rfl rfl (wt_is' (wt_guard' rfl rfl rfl) (beq_ff h5)) ?_
     refine sx_rd' (rd_len' rfl Try.underlying24) rfl rfl (wt_is' (wt_guard' rfl rfl rfl) (beq_ff h5)) ?_
     refine sx_rd' (rd_field' (off := 5) rfl Try.underlying27 rfl info24 rfl) rfl rfl (wt_is' (wt_guard' rfl rfl rfl) (beq_ff h5)) ?_
     refine sx_rd' (rd_load' (i := 1) (o := 5) rfl (ar rfl rfl rfl rfl) rfl flat24) rfl rfl (wt_is' (wt_guard' rfl rfl rfl) (beq_ff h5)) ?_
     refine sx_rd' (rd_len' rfl Try.underlying24) rfl rfl (wt_is' (wt_guard' rfl rfl rfl) (beq_ff h5)) ?_
     refine sx_rd' (rd_bin' rfl rfl eg_int ru_neq) rfl rfl (wt_is' (wt_guard' rfl rfl rfl) (beq_ff h5)) ?_
     refine s0 (rd_pick_false' rfl h5 rfl) ?_
     refine sx_nil' ?_
     show TX E K8 _
     exact tk [0, 1] (u3 rfl rfl rfl) (p2 rfl rfl) (hK8 (!decide ((a0_5.length : Int) = (a1_5.length : Int))) hp)
    intro K7 hK7
    rcases br_cases hp with ⟨h4, hp⟩ | ⟨h4, hp⟩
    ·refine sx_skip' rfl rfl (wt_is' (wt_guard' rfl rfl rfl) (beq_tf h4)) ?_
     iterate 5 refine sx_skip' rfl rfl (wt_is' (wt_guard' rfl rfl rfl) (beq_tf h4)) ?_
     refine s0 (rd_pick_true' rfl h4 rfl) ?_
     refine sx_nil' ?_
     show TX E K7 _
     exact tk [0, 1] (u3 rfl rfl rfl) (p2 rfl rfl) (hK7 true hp)
    refine sx_rd' (rd_field' (off := 4) rfl Try.underlying27 rfl info23 rfl) rfl rfl (wt_is' (wt_guard' rfl rfl rfl) (beq_ff h4)) ?_
    refine sx_rd' (rd_load' (i := 0) (o := 4) rfl (ar rfl rfl rfl rfl) rfl flat23) rfl rfl (wt_is' (wt_guard' rfl rfl rfl) (beq_ff h4)) ?_
    refine sx_rd' (rd_field' (off := 4) rfl Try.underlying27 rfl info23 rfl) rfl rfl (wt_is' (wt_guard' rfl rfl rfl) (beq_ff h4)) ?_
    refine sx_rd' (rd_load' (i := 1) (o := 4) rfl (ar rfl rfl rfl rfl) rfl flat23) rfl rfl (wt_is' (wt_guard' rfl rfl rfl) (beq_ff h4)) ?_
    obtain ⟨r41, hr41, hp⟩ := bind_some hp
    refine sx_ox' (oz (ent_fn' Try.func36 isn36 rfl rfl) (spec_sameInts_sim _ _ hr41)) (wt_is' (wt_guard' rfl rfl rfl) (beq_ff h4)) fun ⟨⟩ => ?_
    refine sx_rd' (rd_un' rfl ru_not) rfl rfl (wt_is' (wt_guard' rfl rfl rfl) (beq_ff h4)) ?_
    refine s0 (rd_pick_false' rfl h4 rfl) ?_
    refine sx_nil' ?_
    show TX E K7 _
    exact tk [0, 1] (u3 rfl rfl rfl) (p2 rfl rfl) (hK7 (!r41) hp)
   intro K6 hK6
   rcases br_cases hp with ⟨h3, hp⟩ | ⟨h3, hp⟩
   ·refine sx_skip' rfl rfl (wt_is' (wt_guard' rfl rfl rfl) (beq_tf h3)) ?_
    iterate 5 refine sx_skip' rfl rfl (wt_is' (wt_guard' rfl rfl rfl) (beq_tf h3)) ?_
    refine s0 (rd_pick_true' rfl h3 rfl) ?_
    refine sx_nil' ?_
    show TX E K6 _
    exact tk [0, 1] (u3 rfl rfl rfl) (p2 rfl rfl) (hK6 true hp)
   refine sx_rd' (rd_field' (off := 3) rfl Try.underlying27 rfl info22 rfl) rfl rfl (wt_is' (wt_guard' rfl rfl rfl) (beq_ff h3)) ?_
   refine sx_rd' (rd_load' (i := 0) (o := 3) rfl (ar rfl rfl rfl rfl) rfl flat22) rfl rfl (wt_is' (wt_guard' rfl rfl rfl) (beq_ff h3)) ?_
   refine sx_rd' (rd_field' (off := 3) rfl Try.underlying27 rfl info22 rfl) rfl rfl (wt_is' (wt_guard' rfl rfl rfl) (beq_ff h3)) ?_
   refine sx_rd' (rd_load' (i := 1) (o := 3) rfl (ar rfl rfl rfl rfl) rfl flat22) rfl rfl (wt_is' (wt_guard' rfl rfl rfl) (beq_ff h3)) ?_
   obtain ⟨r33, hr33, hp⟩ := bind_some hp
   refine sx_ox' (oz (ent_fn' Try.func35 isn35 rfl rfl) (spec_SameFloats_sim _ _ hr33)) (wt_is' (wt_guard' rfl rfl rfl) (beq_ff h3)) fun ⟨⟩ => ?_
   refine sx_rd' (rd_un' rfl ru_not) rfl rfl (wt_is' (wt_guard' rfl rfl rfl) (beq_ff h3)) ?_
   refine s0 (rd_pick_false' rfl h3 rfl) ?_
   refine sx_nil' ?_
   show TX E K6 _
   exact tk [0, 1] (u3 rfl rfl rfl) (p2 rfl rfl) (hK6 (!r33) hp)
  intro K5 hK5
  rcases br_cases hp with ⟨h2, hp⟩ | ⟨h2, hp⟩
  ·refine sx_skip' rfl rfl (wt_is' (wt_guard' rfl rfl rfl) (beq_tf h2)) ?_
   iterate 4 refine sx_skip' rfl rfl (wt_is' (wt_guard' rfl rfl rfl) (beq_tf h2)) ?_
   refine s0 (rd_pick_true' rfl h2 rfl) ?_
   refine sx_nil' ?_
   show TX E K5 _
   exact tk [0, 1] (u3 rfl rfl rfl) (p2 rfl rfl) (hK5 true hp)
  refine sx_rd' (rd_field' (off := 2) rfl Try.underlying27 rfl info3 rfl) rfl rfl (wt_is' (wt_guard' rfl rfl rfl) (beq_ff h2)) ?_
  refine sx_rd' (rd_load' (i := 0) (o := 2) rfl (ar rfl rfl rfl rfl) rfl flat3) rfl rfl (wt_is' (wt_guard' rfl rfl rfl) (beq_ff h2)) ?_
  refine sx_rd' (rd_field' (off := 2) rfl Try.underlying27 rfl info3 rfl) rfl rfl (wt_is' (wt_guard' rfl rfl rfl) (beq_ff h2)) ?_
  refine sx_rd' (rd_load' (i := 1) (o := 2) rfl (ar rfl rfl rfl rfl) rfl flat3) rfl rfl (wt_is' (wt_guard' rfl rfl rfl) (beq_ff h2)) ?_
  refine sx_rd' (rd_bin' rfl rfl eg_int ru_neq) rfl rfl (wt_is' (wt_guard' rfl rfl rfl) (beq_ff h2)) ?_
  refine s0 (rd_pick_false' rfl h2 rfl) ?_
  refine sx_nil' ?_
  show TX E K5 _
  exact tk [0, 1] (u3 rfl rfl rfl) (p2 rfl rfl) (hK5 (!decide (a0_2 = a1_2)) hp)
 intro K4 hK4
 rcases br_cases hp with ⟨h1, hp⟩ | ⟨h1, hp⟩
 ·refine sx_skip' rfl rfl (wt_is' (wt_guard' rfl rfl rfl) (beq_tf h1)) ?_
  iterate 4 refine sx_skip' rfl rfl (wt_is' (wt_guard' rfl rfl rfl) (beq_tf h1)) ?_
  refine s0 (rd_pick_true' rfl h1 rfl) ?_
  refine sx_nil' ?_
  show TX E K4 _
  exact tk [1, 0] (u3 rfl rfl rfl) (p2 rfl rfl) (hK4 true hp)
 refine sx_rd' (rd_field' (off := 1) rfl Try.underlying27 rfl info3 rfl) rfl rfl (wt_is' (wt_guard' rfl rfl rfl) (beq_ff h1)) ?_
 refine sx_rd' (rd_load' (i := 1) (o := 1) rfl (ar rfl rfl rfl rfl) rfl flat3) rfl rfl (wt_is' (wt_guard' rfl rfl rfl) (beq_ff h1)) ?_
 refine sx_rd' (rd_field' (off := 1) rfl Try.underlying27 rfl info3 rfl) rfl rfl (wt_is' (wt_guard' rfl rfl rfl) (beq_ff h1)) ?_
 refine sx_rd' (rd_load' (i := 0) (o := 1) rfl (ar rfl rfl rfl rfl) rfl flat3) rfl rfl (wt_is' (wt_guard' rfl rfl rfl) (beq_ff h1)) ?_
 refine sx_rd' (rd_bin' rfl rfl eg_int ru_neq) rfl rfl (wt_is' (wt_guard' rfl rfl rfl) (beq_ff h1)) ?_
 refine s0 (rd_pick_false' rfl h1 rfl) ?_
 refine sx_nil' ?_
 show TX E K4 _
 exact tk [1, 0] (u3 rfl rfl rfl) (p2 rfl rfl) (hK4 (!decide (a0_1 = a1_1)) hp)
theorem spec_SameGeom_simA : ∀ (k : Nat)  (a0_0 a0_1 a0_2 : Int) (a0_3 : List Nat) (a0_4 : List Int) (a0_5 : List (List Int)) (a0_6 : List T27) (a1_0 a1_1 a1_2 : Int) (a1_3 : List Nat) (a1_4 : List Int) (a1_5 : List (List Int)) (a1_6 : List T27) (out : Bool), spec_SameGeom k a0_0 a0_1 a0_2 a0_3 a0_4 a0_5 a0_6 a1_0 a1_1 a1_2 a1_3 a1_4 a1_5 a1_6 = some out → Sx.Fn Try.prog 13 [(Ag (C0 a0_0 a0_1 a0_2 a0_3 a0_4 a0_5 a0_6)), (Ag (C0 a1_0 a1_1 a1_2 a1_3 a1_4 a1_5 a1_6))] [] (fun w : Unit => (Vb out)) (fun w => []) := by
 intro k
 induction k with
 | zero => intro a0_0 a0_1 a0_2 a0_3 a0_4 a0_5 a0_6 a1_0 a1_1 a1_2 a1_3 a1_4 a1_5 a1_6 out hp; cases hp
 | succ k ih => intro a0_0 a0_1 a0_2 a0_3 a0_4 a0_5 a0_6 a1_0 a1_1 a1_2 a1_3 a1_4 a1_5 a1_6 out hp; exact spec_SameGeom_b_sim ih a0_0 a0_1 a0_2 a0_3 a0_4 a0_5 a0_6 a1_0 a1_1 a1_2 a1_3 a1_4 a1_5 a1_6 hp
theorem spec_SameGeom_sim {k : Nat}  (a0_0 a0_1 a0_2 : Int) (a0_3 : List Nat) (a0_4 : List Int) (a0_5 : List (List Int)) (a0_6 : List T27) (a1_0 a1_1 a1_2 : Int) (a1_3 : List Nat) (a1_4 : List Int) (a1_5 : List (List Int)) (a1_6 : List T27) {out : Bool} (hp : spec_SameGeom k a0_0 a0_1 a0_2 a0_3 a0_4 a0_5 a0_6 a1_0 a1_1 a1_2 a1_3 a1_4 a1_5 a1_6 = some out) : Sx.Fn Try.prog 13 [(Ag (C0 a0_0 a0_1 a0_2 a0_3 a0_4 a0_5 a0_6)), (Ag (C0 a1_0 a1_1 a1_2 a1_3 a1_4 a1_5 a1_6))] [] (fun w : Unit => (Vb out)) (fun w => []) := spec_SameGeom_simA k a0_0 a0_1 a0_2 a0_3 a0_4 a0_5 a0_6 a1_0 a1_1 a1_2 a1_3 a1_4 a1_5 a1_6 out hp

def laws_FnPush_j8 (k : Nat) (x14 : Bool) : Option (Bool) :=
 some x14
def laws_FnPush_j7 (k : Nat) (x13 : Bool) : Option (Bool) :=
 laws_FnPush_j8 k x13
def laws_FnPush_j6 (k : Nat) (r74 : Int × Int × Int × (List Nat) × (List Int) × (List (List Int)) × (List T27) × Bool) (x5 x6 a0_2 : Int) (x7 : List Nat) (x8 : List Int) (x9 : List (List Int)) (x10 : List T27) (x12 : Bool) : Option (Bool) :=
 br x12
  (br (!r74.2.2.2.2.2.2.2)
   (laws_FnPush_j7 k true)
   ((spec_SameGeom k r74.1 r74.2.1 r74.2.2.1 r74.2.2.2.1 r74.2.2.2.2.1 r74.2.2.2.2.2.1 r74.2.2.2.2.2.2.1 x5 x6 a0_2 x7 x8 x9 x10) >>= fun r96 =>
   laws_FnPush_j7 k r96))
  (laws_FnPush_j8 k false)
def laws_FnPush_j5 (k : Nat) (a0_0 a0_1 a0_2 : Int) (a0_3 : List Nat) (a0_4 : List Int) (a0_5 : List (List Int)) (a0_6 : List T27) (a1_0 a1_1 a1_2 : Int) (a1_3 : List Nat) (a1_4 : List Int) (a1_5 : List (List Int)) (a1_6 : List T27) (x5 x6 : Int) (x7 : List Nat) (x8 : List Int) (x9 : List (List Int)) (x10 : List T27) (x11 : Bool) : Option (Bool) :=
 (impl_Push k a0_0 a0_1 a0_2 a0_3 a0_4 a0_5 a0_6 a1_0 a1_1 a1_2 a1_3 a1_4 a1_5 a1_6) >>= fun r74 =>
 (impl_Push k 3 1 0 [] [] [] [] 8 1 0 ([4607182418800017408, 4611686018427387904]) [] [] []) >>= fun r81 =>
 br r81.2.2.2.2.2.2.2
  (laws_FnPush_j6 k r74 x5 x6 a0_2 x7 x8 x9 x10 (r74.2.2.2.2.2.2.2 == x11))
  (laws_FnPush_j6 k r74 x5 x6 a0_2 x7 x8 x9 x10 false)
def laws_FnPush_j4 (k : Nat) (a0_6 : List T27) (a1_0 a1_1 a1_2 : Int) (a1_3 : List Nat) (a1_4 : List Int) (a1_5 : List (List Int)) (a1_6 : List T27) (a0_0 a0_1 a0_2 : Int) (a0_3 : List Nat) (a0_4 : List Int) (a0_5 : List (List Int)) (x4 : Bool) : Option (Bool) :=
 (apd 120 [] a0_6) >>= fun r53 =>
 (apd 120 r53 ([(T27.mk a1_0 a1_1 a1_2 a1_3 a1_4 a1_5 a1_6)])) >>= fun r56 =>
 laws_FnPush_j5 k a0_0 a0_1 a0_2 a0_3 a0_4 a0_5 a0_6 a1_0 a1_1 a1_2 a1_3 a1_4 a1_5 a1_6 a0_0 a0_1 a0_3 a0_4 a0_5 r56 x4
def laws_FnPush_j3 (k : Nat) (a1_0 a1_1 a1_2 : Int) (a1_3 : List Nat) (a1_4 : List Int) (a1_5 : List (List Int)) (a1_6 : List T27) (a0_0 a0_1 : Int) (a0_6 : List T27) (a0_2 : Int) (a0_3 : List Nat) (a0_4 : List Int) (a0_5 : List (List Int)) (x3 : Bool) : Option (Bool) :=
 br x3
  (some true)
  ((spec_LayoutOf k a1_0 a1_1 a1_2 a1_3 a1_4 a1_5 a1_6) >>= fun r37 =>
  br (decide (a0_0 = 7))
   (br (decide (r37 = a0_1))
    (laws_FnPush_j4 k a0_6 a1_0 a1_1 a1_2 a1_3 a1_4 a1_5 a1_6 a0_0 a0_1 a0_2 a0_3 a0_4 a0_5 true)
    (laws_FnPush_j4 k a0_6 a1_0 a1_1 a1_2 a1_3 a1_4 a1_5 a1_6 a0_0 a0_1 a0_2 a0_3 a0_4 a0_5 (decide (a0_1 = 0))))
   ((spec_Parts k a0_0 a0_1 a0_2 a0_3 a0_4 a0_5 a0_6) >>= fun r63 =>
   (apd 120 r63 ([(T27.mk a1_0 a1_1 a1_2 a1_3 a1_4 a1_5 a1_6)])) >>= fun r66 =>
   (spec_OfParts k a0_0 a0_1 r66) >>= fun r67 =>
   laws_FnPush_j5 k a0_0 a0_1 a0_2 a0_3 a0_4 a0_5 a0_6 a1_0 a1_1 a1_2 a1_3 a1_4 a1_5 a1_6 r67.1 r67.2.1 r67.2.2.2.1 r67.2.2.2.2.1 r67.2.2.2.2.2 [] (decide (r37 = a0_1))))
def laws_FnPush_j2 (k : Nat) (a1_0 a1_1 a1_2 : Int) (a1_3 : List Nat) (a1_4 : List Int) (a1_5 : List (List Int)) (a1_6 : List T27) (a0_0 a0_1 : Int) (a0_6 : List T27) (a0_2 : Int) (a0_3 : List Nat) (a0_4 : List Int) (a0_5 : List (List Int)) (x2 : Bool) : Option (Bool) :=
 br x2
  (laws_FnPush_j3 k a1_0 a1_1 a1_2 a1_3 a1_4 a1_5 a1_6 a0_0 a0_1 a0_6 a0_2 a0_3 a0_4 a0_5 true)
  ((laws_gPartOf k a0_0 a0_1 a0_2 a0_3 a0_4 a0_5 a0_6 a1_0 a1_1 a1_2 a1_3 a1_4 a1_5 a1_6) >>= fun r32 =>
  laws_FnPush_j3 k a1_0 a1_1 a1_2 a1_3 a1_4 a1_5 a1_6 a0_0 a0_1 a0_6 a0_2 a0_3 a0_4 a0_5 (!r32))
def laws_FnPush_j1 (k : Nat) (a0_0 a0_1 a0_2 : Int) (a0_3 : List Nat) (a0_4 : List Int) (a0_5 : List (List Int)) (a0_6 : List T27) (a1_0 a1_1 a1_2 : Int) (a1_3 : List Nat) (a1_4 : List Int) (a1_5 : List (List Int)) (a1_6 : List T27) (x1 : Bool) : Option (Bool) :=
 br x1
  (some true)
  ((laws_gGood k ([(T27.mk a0_0 a0_1 a0_2 a0_3 a0_4 a0_5 a0_6), (T27.mk a1_0 a1_1 a1_2 a1_3 a1_4 a1_5 a1_6)])) >>= fun r22 =>
  br (!r22)
   (laws_FnPush_j2 k a1_0 a1_1 a1_2 a1_3 a1_4 a1_5 a1_6 a0_0 a0_1 a0_6 a0_2 a0_3 a0_4 a0_5 true)
   ((laws_gHasParts k a0_0 a0_1 a0_2 a0_3 a0_4 a0_5 a0_6) >>= fun r26 =>
   laws_FnPush_j2 k a1_0 a1_1 a1_2 a1_3 a1_4 a1_5 a1_6 a0_0 a0_1 a0_6 a0_2 a0_3 a0_4 a0_5 (!r26)))
def laws_FnPush (k : Nat) (a0_0 a0_1 a0_2 : Int) (a0_3 : List Nat) (a0_4 : List Int) (a0_5 : List (List Int)) (a0_6 : List T27) (a1_0 a1_1 a1_2 : Int) (a1_3 : List Nat) (a1_4 : List Int) (a1_5 : List (List Int)) (a1_6 : List T27) : Option (Bool) :=
 (laws_zzFits2 k a0_0 a0_1 a0_2 a0_3 a0_4 a0_5 a0_6) >>= fun r12 =>
 br (!r12)
  (laws_FnPush_j1 k a0_0 a0_1 a0_2 a0_3 a0_4 a0_5 a0_6 a1_0 a1_1 a1_2 a1_3 a1_4 a1_5 a1_6 true)
  ((laws_zzFits2 k a1_0 a1_1 a1_2 a1_3 a1_4 a1_5 a1_6) >>= fun r16 =>
  laws_FnPush_j1 k a0_0 a0_1 a0_2 a0_3 a0_4 a0_5 a0_6 a1_0 a1_1 a1_2 a1_3 a1_4 a1_5 a1_6 (!r16))

theorem laws_FnPush_sim {k : Nat}  (a0_0 a0_1 a0_2 : Int) (a0_3 : List Nat) (a0_4 : List Int) (a0_5 : List (List Int)) (a0_6 : List T27) (a1_0 a1_1 a1_2 : Int) (a1_3 : List Nat) (a1_4 : List Int) (a1_5 : List (List Int)) (a1_6 : List T27) {out : Bool} (hp : laws_FnPush k a0_0 a0_1 a0_2 a0_3 a0_4 a0_5 a0_6 a1_0 a1_1 a1_2 a1_3 a1_4 a1_5 a1_6 = some out) : Sx.Fn Try.prog 5 [(Ag (C0 a0_0 a0_1 a0_2 a0_3 a0_4 a0_5 a0_6)), (Ag (C0 a1_0 a1_1 a1_2 a1_3 a1_4 a1_5 a1_6))] [] (fun w : Unit => (Vb out)) (fun w => []) := by
 unfold laws_FnPush at hp
 refine fn_of Try.func5 rfl Try.ntmps5 rfl fun E hM => ?_
 refine cr fun K1 hK1 => ?_
 refine so (ox_box' rfl (lv_ag _) rfl rfl) fun q2 => ?_
 refine so (ox_box' rfl (lv_ag _) rfl rfl) fun q3 => ?_
 refine sa rfl ?_
 refine nk hK1 ?_
 refine cx_seq' fun K2 hK2 => ?_
 refine cr fun K3 hK3 => ?_
 refine s0 (rd_load_agg' (i := 1) (o := 0) (nn := 7) rfl (ar rfl rfl rfl rfl) rfl agg27 (l' := (C0 a0_0 a0_1 a0_2 a0_3 a0_4 a0_5 a0_6)) rfl) ?_
 obtain ⟨r12, hr12, hp⟩ := bind_some hp
 refine so (oz (ent_fn' Try.func7 isn7 rfl rfl) (laws_zzFits2_sim _ _ _ _ _ _ _ hr12)) fun ⟨⟩ => ?_
 refine s0 (rd_un' rfl ru_not) ?_
 refine sm rfl ?_
 refine sx_cutn' 4 (fun (v1 : Bool) => (⟨99, [], [(2, (Vp q2)), (3, (Vp q3)), (18, (Vb v1))], [(Ur q2 27 (C0 a0_0 a0_1 a0_2 a0_3 a0_4 a0_5 a0_6)), (Ur q3 27 (C0 a1_0 a1_1 a1_2 a1_3 a1_4 a1_5 a1_6))]⟩ : St)) (fun (v1 : Bool) => laws_FnPush_j1 k a0_0 a0_1 a0_2 a0_3 a0_4 a0_5 a0_6 a1_0 a1_1 a1_2 a1_3 a1_4 a1_5 a1_6 v1 = some out) ?_ ?_
 ·rintro x1 hp
  replace hp : laws_FnPush_j1 k a0_0 a0_1 a0_2 a0_3 a0_4 a0_5 a0_6 a1_0 a1_1 a1_2 a1_3 a1_4 a1_5 a1_6 x1 = some out := hp
  unfold laws_FnPush_j1 at hp
  refine nk hK3 ?_
  refine cx_cond' rfl (fun h2 => ?_) (fun h2 => ?_)
  ·replace hp := (br_t h2).symm.trans hp
   refine cr fun K5 hK5 => ?_
   refine sa rfl ?_
   refine nk hK5 ?_
   refine cx_retc' ?_
   replace hp := sj hp
   subst hp
   refine tk (L' := [(4, (Vb true))]) (H' := []) [] (uc rfl un) pn ?_
   exact tx_ret1' Try.results5 rfl () (rv_tmp' rfl) lr
  replace hp := (br_f h2).symm.trans hp
  refine cx_skip' ?_
  show TX E K2 _
  refine tx_k' hK2 ?_
  refine cx_seq' fun K6 hK6 => ?_
  refine cr fun K7 hK7 => ?_
  refine s0 (rd_load_agg' (i := 0) (o := 0) (nn := 7) rfl (ar rfl rfl rfl rfl) rfl agg27 (l' := (C0 a0_0 a0_1 a0_2 a0_3 a0_4 a0_5 a0_6)) rfl) ?_
  refine s0 (rd_load_agg' (i := 1) (o := 0) (nn := 7) rfl (ar rfl rfl rfl rfl) rfl agg27 (l' := (C0 a1_0 a1_1 a1_2 a1_3 a1_4 a1_5 a1_6)) rfl) ?_
  refine so (ox_rowlit' (K := KT27) (xs := [(T27.mk a0_0 a0_1 a0_2 a0_3 a0_4 a0_5 a0_6), (T27.mk a1_0 a1_1 a1_2 a1_3 a1_4 a1_5 a1_6)]) (qs := [(0, (C0 a0_0 a0_1 a0_2 a0_3 a0_4 a0_5 a0_6)), (1, (C0 a1_0 a1_1 a1_2 a1_3 a1_4 a1_5 a1_6))]) ⟨rfl, ⟨_, rfl, (lv_ag _)⟩, ⟨rfl, ⟨_, rfl, (lv_ag _)⟩, trivial⟩⟩ Try.underlying25 info27 rfl rfl rfl rfl rfl (by simp only [List.flatMap_cons, List.flatMap_nil, KT27_enc, List.append_nil]; kernel_rfl) rfl rfl rfl) fun g21 => ?_
  obtain ⟨r22, hr22, hp⟩ := bind_some hp
  refine so (ox_brw' (frz_row 0 [(21, (Vw g21), (Sl KT27 ([(T27.mk a0_0 a0_1 a0_2 a0_3 a0_4 a0_5 a0_6), (T27.mk a1_0 a1_1 a1_2 a1_3 a1_4 a1_5 a1_6)])))] (K := KT27) (xs := [(T27.mk a0_0 a0_1 a0_2 a0_3 a0_4 a0_5 a0_6), (T27.mk a1_0 a1_1 a1_2 a1_3 a1_4 a1_5 a1_6)]) (by decide) rfl ⟨⟨rfl, frz_it⟩, trivial⟩ (H' := [(Ur q2 27 (C0 a0_0 a0_1 a0_2 a0_3 a0_4 a0_5 a0_6)), (Ur q3 27 (C0 a1_0 a1_1 a1_2 a1_3 a1_4 a1_5 a1_6))]) frzH_refl) (ent_fn' Try.func8 isn8 rfl rfl) (laws_gGood_sim _ hr22 : Sx.Fn Try.prog 8 [(Sl KT27 ([(T27.mk a0_0 a0_1 a0_2 a0_3 a0_4 a0_5 a0_6), (T27.mk a1_0 a1_1 a1_2 a1_3 a1_4 a1_5 a1_6)]))] [] (fun x : Unit => (Vb r22)) (fun x => [])) pu_vl rfl rfl) fun ⟨⟩ => ?_
  refine s0 (rd_un' rfl ru_not) ?_
  refine sm rfl ?_
  refine sx_cutn' 4 (fun (v2 : Bool) => (⟨99, [], [(2, (Vp q2)), (3, (Vp q3)), (28, (Vb v2))], [(Ur q2 27 (C0 a0_0 a0_1 a0_2 a0_3 a0_4 a0_5 a0_6)), (Ur q3 27 (C0 a1_0 a1_1 a1_2 a1_3 a1_4 a1_5 a1_6))]⟩ : St)) (fun (v2 : Bool) => laws_FnPush_j2 k a1_0 a1_1 a1_2 a1_3 a1_4 a1_5 a1_6 a0_0 a0_1 a0_6 a0_2 a0_3 a0_4 a0_5 v2 = some out) ?_ ?_
  ·rintro x2 hp
   replace hp : laws_FnPush_j2 k a1_0 a1_1 a1_2 a1_3 a1_4 a1_5 a1_6 a0_0 a0_1 a0_6 a0_2 a0_3 a0_4 a0_5 x2 = some out := hp
   unfold laws_FnPush_j2 at hp
   refine sm rfl ?_
   refine sx_cutn' 5 (fun (v3 : Bool) => (⟨99, [], [(2, (Vp q2)), (3, (Vp q3)), (34, (Vb v3))], [(Ur q2 27 (C0 a0_0 a0_1 a0_2 a0_3 a0_4 a0_5 a0_6)), (Ur q3 27 (C0 a1_0 a1_1 a1_2 a1_3 a1_4 a1_5 a1_6))]⟩ : St)) (fun (v3 : Bool) => laws_FnPush_j3 k a1_0 a1_1 a1_2 a1_3 a1_4 a1_5 a1_6 a0_0 a0_1 a0_6 a0_2 a0_3 a0_4 a0_5 v3 = some out) ?_ ?_
   ·rintro x3 hp
    replace hp : laws_FnPush_j3 k a1_0 a1_1 a1_2 a1_3 a1_4 a1_5 a1_6 a0_0 a0_1 a0_6 a0_2 a0_3 a0_4 a0_5 x3 = some out := hp
    unfold laws_FnPush_j3 at hp
    refine nk hK7 ?_
    refine cx_cond' rfl (fun h5 => ?_) (fun h5 => ?_)
    ·replace hp := (br_t h5).symm.trans hp
     refine cr fun K10 hK10 => ?_
     refine sa rfl ?_
     refine nk hK10 ?_
     refine cx_retc' ?_
     replace hp := sj hp
     subst hp
     refine tk (L' := [(4, (Vb true))]) (H' := []) [] (uc rfl un) pn ?_
     exact tx_ret1' Try.results5 rfl () (rv_tmp' rfl) lr
    replace hp := (br_f h5).symm.trans hp
    refine cx_skip' ?_
    show TX E K6 _
    refine tx_k' hK6 ?_
    refine cr fun K11 hK11 => ?_
    refine s0 (rd_load_agg' (i := 0) (o := 0) (nn := 7) rfl (ar rfl rfl rfl rfl) rfl agg27 (l' := (C0 a0_0 a0_1 a0_2 a0_3 a0_4 a0_5 a0_6)) rfl) ?_
    refine so (ox_alloc' info27 rfl rfl rfl rfl (l := (C1 0 0 0)) rfl) fun q5 => ?_
    refine so (ox_store' (i := 0) (o := 0) rfl rfl (lv_ag _) (ar rfl rfl rfl rfl) rfl info27 rfl (H' := [(Ur q5 27 (C0 a0_0 a0_1 a0_2 a0_3 a0_4 a0_5 a0_6)), (Ur q2 27 (C0 a0_0 a0_1 a0_2 a0_3 a0_4 a0_5 a0_6)), (Ur q3 27 (C0 a1_0 a1_1 a1_2 a1_3 a1_4 a1_5 a1_6))]) rfl) fun _ => ?_
    refine nk hK11 ?_
    refine cx_seq' fun K12 hK12 => ?_
    refine cx_plan' [] [] [(0, 1), (2, 1), (3, 1), (1, 0), (4, 1), (5, 1)] mixed (by kernel_rfl) ?_
    refine pd rfl (rd_load_agg' (i := 2) (o := 0) (nn := 7) rfl (ar rfl rfl rfl rfl) rfl agg27 (l' := (C0 a1_0 a1_1 a1_2 a1_3 a1_4 a1_5 a1_6)) rfl) ?_
    refine pd rfl (rd_field' (off := 1) rfl Try.underlying27 rfl info3 rfl) ?_
    refine pd rfl (rd_load' (i := 1) (o := 1) rfl (ar rfl rfl rfl rfl) rfl flat3) ?_
    obtain ⟨r37, hr37, hp⟩ := bind_some hp
    refine px_ox' rfl (oz (ent_fn' Try.func16 isn16 rfl rfl) (spec_LayoutOf_sim _ _ _ _ _ _ _ hr37)) rfl bs_nil (wt_none' rfl) fun ⟨⟩ => ?_
    refine pd rfl (rd_bin' rfl rfl eg_int ru_eql) ?_
    refine pd rfl (rd_assign' rfl) ?_
    refine px_nil' ?_
    show TX E K12 _
    refine tx_k' hK12 ?_
    refine cx_join' (fun (v19 : Int × Int × (List Nat) × (List Int) × (List (List Int)) × (List T27) × Bool × Gs) => (⟨99, [], [(2, (Vp q2)), (3, (Vp q3)), (5, (Vp q5)), (6, (Vb v19.2.2.2.2.2.2.1))], [(Ur q2 27 (C0 a0_0 a0_1 a0_2 a0_3 a0_4 a0_5 a0_6)), (Ur q3 27 (C0 a1_0 a1_1 a1_2 a1_3 a1_4 a1_5 a1_6)), (Ur q5 27 (C16 v19.1 v19.2.1 a0_2 v19.2.2.1 v19.2.2.2.1 v19.2.2.2.2.1 v19.2.2.2.2.2.2.2)), (Rg KT27 27 v19.2.2.2.2.2.2.2 v19.2.2.2.2.2.1)]⟩ : St)) (fun (v19 : Int × Int × (List Nat) × (List Int) × (List (List Int)) × (List T27) × Bool × Gs) => laws_FnPush_j5 k a0_0 a0_1 a0_2 a0_3 a0_4 a0_5 a0_6 a1_0 a1_1 a1_2 a1_3 a1_4 a1_5 a1_6 v19.1 v19.2.1 v19.2.2.1 v19.2.2.2.1 v19.2.2.2.2.1 v19.2.2.2.2.2.1 v19.2.2.2.2.2.2.1 = some out) ?_ ?_
    ·rintro ⟨x5, x6, x7, x8, x9, x10, x11, g9016⟩ hp
     replace hp : laws_FnPush_j5 k a0_0 a0_1 a0_2 a0_3 a0_4 a0_5 a0_6 a1_0 a1_1 a1_2 a1_3 a1_4 a1_5 a1_6 x5 x6 x7 x8 x9 x10 x11 = some out := hp
     unfold laws_FnPush_j5 at hp
     refine cr fun K18 hK18 => ?_
     refine s0 (rd_load_agg' (i := 0) (o := 0) (nn := 7) rfl (ar rfl rfl rfl rfl) rfl agg27 (l' := (C0 a0_0 a0_1 a0_2 a0_3 a0_4 a0_5 a0_6)) rfl) ?_
     refine s0 (rd_load_agg' (i := 1) (o := 0) (nn := 7) rfl (ar rfl rfl rfl rfl) rfl agg27 (l' := (C0 a1_0 a1_1 a1_2 a1_3 a1_4 a1_5 a1_6)) rfl) ?_
     obtain ⟨r74, hr74, hp⟩ := bind_some hp
     refine so (oz (ent_fn' Try.func19 isn19 rfl rfl) (impl_Push_sim _ _ _ _ _ _ _ _ _ _ _ _ _ _ hr74)) fun ⟨⟩ => ?_
     refine sm rfl ?_
     iterate 2 refine se rfl rfl ?_
     refine so (ox_alloc' info27 rfl rfl rfl rfl (l := (C1 0 0 0)) rfl) fun q7 => ?_
     refine so (ox_store' (i := 0) (o := 0) rfl rfl (lv_ag _) (ar rfl rfl rfl rfl) rfl info27 rfl (H' := [(Ur q7 27 (C0 r74.1 r74.2.1 r74.2.2.1 r74.2.2.2.1 r74.2.2.2.2.1 r74.2.2.2.2.2.1 r74.2.2.2.2.2.2.1)), (Ur q2 27 (C0 a0_0 a0_1 a0_2 a0_3 a0_4 a0_5 a0_6)), (Ur q3 27 (C0 a1_0 a1_1 a1_2 a1_3 a1_4 a1_5 a1_6)), (Ur q5 27 (C16 x5 x6 a0_2 x7 x8 x9 g9016)), (Rg KT27 27 g9016 x10)]) rfl) fun _ => ?_
     refine sa rfl ?_
     refine nk hK18 ?_
     refine cr fun K19 hK19 => ?_
     refine sv (pls := [(0, 1), (1, 1), (2, 1), (3, 1), (4, 1), (5, 1), (6, 1)]) (qs := [(0, [(Vi 3)]), (1, [(Vi 1)])]) (r := (C1 3 1 0)) ⟨rfl, ⟨_, rfl, (lv_vl rfl rfl)⟩, ⟨rfl, ⟨_, rfl, (lv_vl rfl rfl)⟩, trivial⟩⟩ Try.underlying27 has27 places27 info27 rfl rfl rfl ?_
     refine so (ox_rowlit' (K := Kf) (xs := [4607182418800017408, 4611686018427387904]) (qs := [(0, [(Vg 4607182418800017408)]), (1, [(Vg 4611686018427387904)])]) ⟨rfl, ⟨_, rfl, (lv_vl rfl rfl)⟩, ⟨rfl, ⟨_, rfl, (lv_vl rfl rfl)⟩, trivial⟩⟩ Try.underlying22 info32 rfl rfl rfl rfl rfl (by kernel_rfl) rfl rfl rfl) fun g79 => ?_
     refine sv (pls := [(0, 1), (1, 1), (2, 1), (3, 1), (4, 1), (5, 1), (6, 1)]) (qs := [(0, [(Vi 8)]), (1, [(Vi 1)]), (3, [(Vw g79)])]) (r := (C10 8 1 0 g79)) ⟨rfl, ⟨_, rfl, (lv_vl rfl rfl)⟩, ⟨rfl, ⟨_, rfl, (lv_vl rfl rfl)⟩, ⟨rfl, ⟨_, rfl, (lv_vl rfl rfl)⟩, trivial⟩⟩⟩ Try.underlying27 has27 places27 info27 rfl rfl rfl ?_
     refine tx_slot' 78 (y := (Ag [(Vi 3), (Vi 1), (Vi 0), (Sl Kf []), (Sl (Ki .i64) []), (Sl (Kl (Ki .i64)) []), (Sl KT27 [])])) rfl (imp_ag ⟨imp_refl, imp_refl, imp_refl, imp_nil, imp_nil, imp_nil, imp_nil, trivial⟩) ?_
     refine tx_fz' (frz_row 0 [(79, (Vw g79), (Sl Kf ([4607182418800017408, 4611686018427387904]))), (80, (Ag (C10 8 1 0 g79)), (Ag (C15 8 1 0 ([4607182418800017408, 4611686018427387904]))))] (K := Kf) (xs := [4607182418800017408, 4611686018427387904]) (by decide) rfl ⟨⟨rfl, frz_it⟩, ⟨rfl, fz_ag (fc f0 (fc f0 (fc f0 (fc fz0_it (fc f0 (fc f0 (fc f0 fz0_nil)))))))⟩, trivial⟩ (H' := [(Ur q7 27 (C0 r74.1 r74.2.1 r74.2.2.1 r74.2.2.2.1 r74.2.2.2.2.1 r74.2.2.2.2.2.1 r74.2.2.2.2.2.2.1)), (Ur q2 27 (C0 a0_0 a0_1 a0_2 a0_3 a0_4 a0_5 a0_6)), (Ur q3 27 (C0 a1_0 a1_1 a1_2 a1_3 a1_4 a1_5 a1_6)), (Ur q5 27 (C16 x5 x6 a0_2 x7 x8 x9 g9016)), (Rg KT27 27 g9016 x10)]) frzH_refl) ?_
     refine tx_slot' 80 (y := (Ag [(Vi 8), (Vi 1), (Vi 0), (Sl Kf ([4607182418800017408, 4611686018427387904])), (Sl (Ki .i64) []), (Sl (Kl (Ki .i64)) []), (Sl KT27 [])])) rfl (imp_ag ⟨imp_refl, imp_refl, imp_refl, imp_refl, imp_nil, imp_nil, imp_nil, trivial⟩) ?_
     obtain ⟨r81, hr81, hp⟩ := bind_some hp
     refine so (oz (ent_fn' Try.func19 isn19 rfl rfl) (impl_Push_sim _ _ _ _ _ _ _ _ _ _ _ _ _ _ hr81)) fun ⟨⟩ => ?_
     refine sm rfl ?_
     iterate 2 refine se rfl rfl ?_
     refine so (ox_alloc' info27 rfl rfl rfl rfl (l := (C1 0 0 0)) rfl) fun q9 => ?_
     refine so (ox_store' (i := 0) (o := 0) rfl rfl (lv_ag _) (ar rfl rfl rfl rfl) rfl info27 rfl (H' := [(Ur q9 27 (C0 r81.1 r81.2.1 r81.2.2.1 r81.2.2.2.1 r81.2.2.2.2.1 r81.2.2.2.2.2.1 r81.2.2.2.2.2.2.1)), (Ur q7 27 (C0 r74.1 r74.2.1 r74.2.2.1 r74.2.2.2.1 r74.2.2.2.2.1 r74.2.2.2.2.2.1 r74.2.2.2.2.2.2.1)), (Ur q2 27 (C0 a0_0 a0_1 a0_2 a0_3 a0_4 a0_5 a0_6)), (Ur q3 27 (C0 a1_0 a1_1 a1_2 a1_3 a1_4 a1_5 a1_6)), (Ur q5 27 (C16 x5 x6 a0_2 x7 x8 x9 g9016)), (Rg KT27 27 g9016 x10)]) rfl) fun _ => ?_
     refine sa rfl ?_
     refine nk hK19 ?_
     refine cr fun K20 hK20 => ?_
     iterate 2 refine sm rfl ?_
     refine sx_cutn' 4 (fun (v20 : Bool) => (⟨99, [], [(5, (Vp q5)), (7, (Vp q7)), (8, (Vb r74.2.2.2.2.2.2.2)), (89, (Vb v20))], [(Ur q5 27 (C16 x5 x6 a0_2 x7 x8 x9 g9016)), (Rg KT27 27 g9016 x10), (Ur q7 27 (C0 r74.1 r74.2.1 r74.2.2.1 r74.2.2.2.1 r74.2.2.2.2.1 r74.2.2.2.2.2.1 r74.2.2.2.2.2.2.1))]⟩ : St)) (fun (v20 : Bool) => laws_FnPush_j6 k r74 x5 x6 a0_2 x7 x8 x9 x10 v20 = some out) ?_ ?_
     ·rintro x12 hp
      replace hp : laws_FnPush_j6 k r74 x5 x6 a0_2 x7 x8 x9 x10 x12 = some out := hp
      unfold laws_FnPush_j6 at hp
      refine sm rfl ?_
      refine sx_cutn' 8 (fun (v22 : Bool) => (⟨99, [], [(98, (Vb v22))], []⟩ : St)) (fun (v22 : Bool) => laws_FnPush_j8 k v22 = some out) ?_ ?_
      ·rintro x14 hp
       replace hp : laws_FnPush_j8 k x14 = some out := hp
       unfold laws_FnPush_j8 at hp
       refine sa rfl ?_
       refine nk hK20 ?_
       refine cx_retc' ?_
       replace hp := sj hp
       subst hp
       refine tk (L' := [(4, (Vb x14))]) (H' := []) [] (uc rfl un) pn ?_
       exact tx_ret1' Try.results5 rfl () (rv_tmp' rfl) lr
      intro K23 hK23
      rcases br_cases hp with ⟨h9, hp⟩ | ⟨h9, hp⟩
      ·refine sx_rd' (rd_move' rfl) rfl rfl (wt_is' (wt_guard' rfl rfl rfl) (beq_tt h9)) ?_
       refine sx_rd' (rd_un' rfl ru_not) rfl rfl (wt_is' (wt_guard' rfl rfl rfl) (beq_tt h9)) ?_
       refine sx_rd' (rd_move' rfl) rfl rfl (wt_is' (wt_guard' rfl rfl rfl) (beq_tt h9)) ?_
       refine sx_cutn' 5 (fun (v21 : Bool) => (⟨99, [], [(98, (Vb v21))], []⟩ : St)) (fun (v21 : Bool) => laws_FnPush_j7 k v21 = some out) ?_ ?_
       ·rintro x13 hp
        replace hp : laws_FnPush_j7 k x13 = some out := hp
        unfold laws_FnPush_j7 at hp
        refine sx_nil' ?_
        show TX E K23 _
        exact tk [] (uc rfl un) pn (hK23 x13 hp)
       intro K22 hK22
       rcases br_cases hp with ⟨h10, hp⟩ | ⟨h10, hp⟩
       ·refine sx_skip' rfl rfl (wt_is' (wt_guard' rfl rfl rfl) (beq_tf h10)) ?_
        iterate 2 refine sx_skip' rfl rfl (wt_is' (wt_guard' rfl rfl rfl) (beq_tf h10)) ?_
        refine sx_rd' (rd_pick_true' rfl h10 rfl) rfl rfl (wt_is' (wt_guard' rfl rfl rfl) (beq_tt h9)) ?_
        refine s0 (rd_pick_true' rfl h9 rfl) ?_
        refine sx_nil' ?_
        show TX E K22 _
        exact tk [] (uc rfl un) pn (hK22 true hp)
       refine sx_rd' (rd_load_agg' (i := 2) (o := 0) (nn := 7) rfl (ar rfl rfl rfl rfl) rfl agg27 (l' := (C0 r74.1 r74.2.1 r74.2.2.1 r74.2.2.2.1 r74.2.2.2.2.1 r74.2.2.2.2.2.1 r74.2.2.2.2.2.2.1)) rfl) rfl rfl (wt_is' (wt_guard' rfl rfl rfl) (beq_ff h10)) ?_
       refine sx_rd' (rd_load_agg' (i := 0) (o := 0) (nn := 7) rfl (ar rfl rfl rfl rfl) rfl agg27 (l' := (C16 x5 x6 a0_2 x7 x8 x9 g9016)) rfl) rfl rfl (wt_is' (wt_guard' rfl rfl rfl) (beq_ff h10)) ?_
       obtain ⟨r96, hr96, hp⟩ := bind_some hp
       refine sx_ox' (ox_brw' (frz_row 1 [(95, (Ag (C16 x5 x6 a0_2 x7 x8 x9 g9016)), (Ag (C0 x5 x6 a0_2 x7 x8 x9 x10)))] (K := KT27) (xs := x10) (by decide) rfl ⟨⟨rfl, fz_ag (fc f0 (fc f0 (fc f0 (fc f0 (fc f0 (fc f0 (fc fz0_it fz0_nil)))))))⟩, trivial⟩ (H' := [(Ur q5 27 (C0 x5 x6 a0_2 x7 x8 x9 x10)), (Ur q7 27 (C0 r74.1 r74.2.1 r74.2.2.1 r74.2.2.2.1 r74.2.2.2.2.1 r74.2.2.2.2.2.1 r74.2.2.2.2.2.2.1))]) (fh rfl rfl rfl (fl fs (fl fs (fl fs (fl fs (fl fs (fl fs (fl frz_it frzL_refl))))))) (fk frzH_refl))) (ent_fn' Try.func13 isn13 rfl rfl) (spec_SameGeom_sim _ _ _ _ _ _ _ _ _ _ _ _ _ _ hr96 : Sx.Fn Try.prog 13 [(Ag (C0 r74.1 r74.2.1 r74.2.2.1 r74.2.2.2.1 r74.2.2.2.2.1 r74.2.2.2.2.2.1 r74.2.2.2.2.2.2.1)), (Ag (C0 x5 x6 a0_2 x7 x8 x9 x10))] [] (fun x : Unit => (Vb r96)) (fun x => [])) pu_vl rfl rfl) (wt_is' (wt_guard' rfl rfl rfl) (beq_ff h10)) fun ⟨⟩ => ?_
       refine sx_rd' (rd_pick_false' rfl h10 rfl) rfl rfl (wt_is' (wt_guard' rfl rfl rfl) (beq_tt h9)) ?_
       refine s0 (rd_pick_true' rfl h9 rfl) ?_
       refine sx_nil' ?_
       show TX E K22 _
       exact tk [] (uc rfl un) pn (hK22 r96 hp)
      iterate 3 refine sx_skip' rfl rfl (wt_is' (wt_guard' rfl rfl rfl) (beq_ft h9)) ?_
      iterate 3 refine sx_skip' rfl rfl (wt_undef' rfl rfl rfl) ?_
      refine sx_skip' rfl rfl (wt_is' (wt_guard' rfl rfl rfl) (beq_ft h9)) ?_
      refine s0 (rd_pick_false' rfl h9 rfl) ?_
      refine sx_nil' ?_
      show TX E K23 _
      exact tk [] (uc rfl un) pn (hK23 false hp)
     intro K21 hK21
     rcases br_cases hp with ⟨h8, hp⟩ | ⟨h8, hp⟩
     ·refine sx_rd' (rd_move' rfl) rfl rfl (wt_is' (wt_guard' rfl rfl rfl) (beq_tt h8)) ?_
      refine sx_rd' (rd_move' rfl) rfl rfl (wt_is' (wt_guard' rfl rfl rfl) (beq_tt h8)) ?_
      refine sx_rd' (rd_bin' rfl rfl eg_bool (ru_beq Try.underlying4)) rfl rfl (wt_is' (wt_guard' rfl rfl rfl) (beq_tt h8)) ?_
      refine s0 (rd_pick_true' rfl h8 rfl) ?_
      refine sx_nil' ?_
      show TX E K21 _
      exact tk [4, 5, 1] (u4 rfl rfl rfl rfl) (p3 rfl rfl rfl) (hK21 (r74.2.2.2.2.2.2.2 == x11) hp)
     iterate 3 refine sx_skip' rfl rfl (wt_is' (wt_guard' rfl rfl rfl) (beq_ft h8)) ?_
     refine s0 (rd_pick_false' rfl h8 rfl) ?_
     refine sx_nil' ?_
     show TX E K21 _
     exact tk [4, 5, 1] (u4 rfl rfl rfl rfl) (p3 rfl rfl rfl) (hK21 false hp)
    intro K13 hK13
    refine cr fun K14 hK14 => ?_
    refine sf rfl Try.underlying27 rfl info3 rfl ?_
    refine sl (i := 1) (o := 0) rfl (ar rfl rfl rfl rfl) rfl flat3 ?_
    refine sb rfl rfl eg_int ru_eql ?_
    refine nk hK14 ?_
    refine cx_cond' rfl (fun h6 => ?_) (fun h6 => ?_)
    ·replace hp := (br_t h6).symm.trans hp
     refine cr fun K15 hK15 => ?_
     iterate 2 refine sm rfl ?_
     refine sx_cutn' 4 (fun (v4 : Bool) => (⟨99, [], [(2, (Vp q2)), (3, (Vp q3)), (5, (Vp q5)), (49, (Vb v4))], [(Ur q2 27 (C0 a0_0 a0_1 a0_2 a0_3 a0_4 a0_5 a0_6)), (Ur q3 27 (C0 a1_0 a1_1 a1_2 a1_3 a1_4 a1_5 a1_6)), (Ur q5 27 (C0 a0_0 a0_1 a0_2 a0_3 a0_4 a0_5 a0_6))]⟩ : St)) (fun (v4 : Bool) => laws_FnPush_j4 k a0_6 a1_0 a1_1 a1_2 a1_3 a1_4 a1_5 a1_6 a0_0 a0_1 a0_2 a0_3 a0_4 a0_5 v4 = some out) ?_ ?_
     ·rintro x4 hp
      replace hp : laws_FnPush_j4 k a0_6 a1_0 a1_1 a1_2 a1_3 a1_4 a1_5 a1_6 a0_0 a0_1 a0_2 a0_3 a0_4 a0_5 x4 = some out := hp
      unfold laws_FnPush_j4 at hp
      refine sa rfl ?_
      refine nk hK15 ?_
      refine cx_plana' [q3.block] [(3, 1), (6, 1), (8, 1)] [(1, 1), (2, 1), (4, 2)] 6 #[false, true, true, false, true, false, false, false, false] mixed (by kernel_rfl) ?_
      refine pd rfl (rd_field' (off := 6) rfl Try.underlying27 rfl info25 rfl) ?_
      refine pd rfl (rd_load' (i := 0) (o := 6) rfl (ar rfl rfl rfl rfl) rfl flat25) ?_
      refine px_rb' rfl (rb_load_agg' (i := 1) (o := 0) (nn := 7) rfl (ar rfl rfl rfl rfl) rfl agg27 (l' := (C0 a1_0 a1_1 a1_2 a1_3 a1_4 a1_5 a1_6)) rfl (by simp)) rfl rfl (wt_none' rfl) ?_
      refine px_nil' ?_
      show AX E _ _ _ _ _ _ _ _
      obtain ⟨r53, hr53, hp⟩ := bind_some hp
      obtain ⟨r56, hr56, hp⟩ := bind_some hp
      refine ax_node (f' := 0) #[true, true, true, true, true, true, true, true, true] (fun (v12 : Gs) => (⟨99, [], [(2, (Vp q2)), (3, (Vp q3)), (5, (Vp q5)), (6, (Vb x4))], [(Ur q2 27 (C0 a0_0 a0_1 a0_2 a0_3 a0_4 a0_5 a0_6)), (Ur q3 27 (C0 a1_0 a1_1 a1_2 a1_3 a1_4 a1_5 a1_6)), (Ur q5 27 (C16 a0_0 a0_1 a0_2 a0_3 a0_4 a0_5 v12)), (Rg KT27 27 v12 r56)]⟩ : St)) ?_ ?_
      ·rintro g9010
       refine ax_nil (by kernel_rfl) ?_
       show TX E K13 _
       exact tk [0, 1, 2, 3] (u4 rfl rfl rfl rfl) (p4 rfl rfl rfl rfl) (hK13 (a0_0, a0_1, a0_3, a0_4, a0_5, r56, x4, g9010) hp)
      intro hN9
      refine ax_node (f' := 1) #[true, true, true, true, true, true, true, true, false] (fun (v11 : Gs) => (⟨99, [], [(2, (Vp q2)), (3, (Vp q3)), (5, (Vp q5)), (6, (Vb x4)), (56, (Vw v11)), (57, (Vp ((q5).add 6)))], [(Ur q2 27 (C0 a0_0 a0_1 a0_2 a0_3 a0_4 a0_5 a0_6)), (Ur q3 27 (C0 a1_0 a1_1 a1_2 a1_3 a1_4 a1_5 a1_6)), (Ur q5 27 (C0 a0_0 a0_1 a0_2 a0_3 a0_4 a0_5 a0_6)), (Rg KT27 27 v11 r56)]⟩ : St)) ?_ ?_
      ·rintro g909
       refine ax_all (i := 8) (is := []) (by kernel_rfl) (all_cons ?_ all_nil)
       ·refine nx_oxv (last := #[true, true, true, true, true, true, true, true, true]) rfl (oxv_store (i := 2) (o := 6) rfl rfl (lv_vl rfl rfl) (ar rfl rfl rfl rfl) rfl info25 rfl (H' := [(Ur q2 27 (C0 a0_0 a0_1 a0_2 a0_3 a0_4 a0_5 a0_6)), (Ur q3 27 (C0 a1_0 a1_1 a1_2 a1_3 a1_4 a1_5 a1_6)), (Ur q5 27 (C16 a0_0 a0_1 a0_2 a0_3 a0_4 a0_5 g909)), (Rg KT27 27 g909 r56)]) rfl) rfl rfl (bo_cons (m := 1) (by decide) rfl rfl bo_nil) (wt_none' rfl) rfl fun _ => ?_
        exact tk [0, 1, 2, 3] (u4 rfl rfl rfl rfl) (p4 rfl rfl rfl rfl) (hN9 g909)
      intro hN8
      refine ax_node (f' := 2) #[true, true, true, true, true, true, true, false, false] (fun (v10 : Gs) => (⟨99, [], [(2, (Vp q2)), (3, (Vp q3)), (5, (Vp q5)), (6, (Vb x4)), (56, (Vw v10))], [(Ur q2 27 (C0 a0_0 a0_1 a0_2 a0_3 a0_4 a0_5 a0_6)), (Ur q3 27 (C0 a1_0 a1_1 a1_2 a1_3 a1_4 a1_5 a1_6)), (Ur q5 27 (C0 a0_0 a0_1 a0_2 a0_3 a0_4 a0_5 a0_6)), (Rg KT27 27 v10 r56)]⟩ : St)) ?_ ?_
      ·rintro g908
       refine ax_rd (ix := 7) (last := #[true, true, true, true, true, true, true, true, false]) (by kernel_rfl) rfl (rd_field' (off := 6) rfl Try.underlying27 rfl info25 rfl) rfl rfl (wt_none' rfl) rfl ?_
       exact tk [0, 1, 2, 3] (u6 rfl rfl rfl rfl rfl rfl) (p4 rfl rfl rfl rfl) (hN8 g908)
      intro hN7
      refine ax_node (f' := 3) #[true, true, true, true, true, true, false, false, false] (fun (v9 : Gs × Gs) => (⟨99, [], [(2, (Vp q2)), (3, (Vp q3)), (5, (Vp q5)), (6, (Vb x4)), (53, (Vw v9.1)), (55, (Vw v9.2))], [(Ur q2 27 (C0 a0_0 a0_1 a0_2 a0_3 a0_4 a0_5 a0_6)), (Ur q3 27 (C0 a1_0 a1_1 a1_2 a1_3 a1_4 a1_5 a1_6)), (Ur q5 27 (C0 a0_0 a0_1 a0_2 a0_3 a0_4 a0_5 a0_6)), (Rg KT27 27 v9.1 r53), (Rg KT27 27 v9.2 ([(T27.mk a1_0 a1_1 a1_2 a1_3 a1_4 a1_5 a1_6)]))]⟩ : St)) ?_ ?_
      ·rintro ⟨g906, g907⟩
       refine ax_all (i := 6) (is := []) (by kernel_rfl) (all_cons ?_ all_nil)
       ·refine nx_ox (last := #[true, true, true, true, true, true, true, false, false]) rfl (ox_append' (K := KT27) (i := 3) (xs := r53) (ys := ([(T27.mk a1_0 a1_1 a1_2 a1_3 a1_4 a1_5 a1_6)])) rfl rfl rfl (sr_row' (j := 4) rfl rfl rfl Try.underlying25) hr56 Try.underlying25 info27 rfl rfl rfl (H' := [(Ur q2 27 (C0 a0_0 a0_1 a0_2 a0_3 a0_4 a0_5 a0_6)), (Ur q3 27 (C0 a1_0 a1_1 a1_2 a1_3 a1_4 a1_5 a1_6)), (Ur q5 27 (C0 a0_0 a0_1 a0_2 a0_3 a0_4 a0_5 a0_6)), (Rg KT27 27 g907 ([(T27.mk a1_0 a1_1 a1_2 a1_3 a1_4 a1_5 a1_6)]))]) rfl) rfl (bs_cons (m := 1) rfl rfl rfl bs_nil) (wt_none' rfl) rfl fun g56 => ?_
        exact tk [1, 2, 3, 0] (u5 rfl rfl rfl rfl rfl) (p4 rfl rfl rfl rfl) (hN7 g56)
      intro hN6
      refine ax_node (f' := 4) #[true, true, true, true, true, false, false, false, false] (fun (v7 : Gs) => (⟨99, [], [(2, (Vp q2)), (3, (Vp q3)), (5, (Vp q5)), (6, (Vb x4)), (53, (Vw v7)), (54, (Ag (C0 a1_0 a1_1 a1_2 a1_3 a1_4 a1_5 a1_6)))], [(Ur q2 27 (C0 a0_0 a0_1 a0_2 a0_3 a0_4 a0_5 a0_6)), (Ur q3 27 (C0 a1_0 a1_1 a1_2 a1_3 a1_4 a1_5 a1_6)), (Ur q5 27 (C0 a0_0 a0_1 a0_2 a0_3 a0_4 a0_5 a0_6)), (Rg KT27 27 v7 r53)]⟩ : St)) ?_ ?_
      ·rintro g903
       refine ax_all (i := 5) (is := []) (by kernel_rfl) (all_cons ?_ all_nil)
       ·refine nx_ox (last := #[true, true, true, true, true, true, false, false, false]) rfl (ox_rowlit' (K := KT27) (xs := [(T27.mk a1_0 a1_1 a1_2 a1_3 a1_4 a1_5 a1_6)]) (qs := [(0, (C0 a1_0 a1_1 a1_2 a1_3 a1_4 a1_5 a1_6))]) ⟨rfl, ⟨_, rfl, (lv_ag _)⟩, trivial⟩ Try.underlying25 info27 rfl rfl rfl rfl rfl (by simp only [List.flatMap_cons, List.flatMap_nil, KT27_enc, List.append_nil]; kernel_rfl) rfl rfl rfl) rfl (bs_cons (m := 1) rfl rfl rfl bs_nil) (wt_none' rfl) rfl fun g55 => ?_
        exact tk [1, 2, 3, 4, 0] (u6 rfl rfl rfl rfl rfl rfl) (p5 rfl rfl rfl rfl rfl) (hN6 (g903, g55))
      intro hN4
      refine ax_node (f' := 4) #[true, true, true, false, true, true, false, false, false] (fun (v8 : Gs × Gs) => (⟨99, [], [(2, (Vp q2)), (3, (Vp q3)), (5, (Vp q5)), (6, (Vb x4)), (50, (Vw v8.1)), (52, (Sl KT27 a0_6)), (55, (Vw v8.2))], [(Ur q2 27 (C0 a0_0 a0_1 a0_2 a0_3 a0_4 a0_5 a0_6)), (Ur q3 27 (C0 a1_0 a1_1 a1_2 a1_3 a1_4 a1_5 a1_6)), (Ur q5 27 (C0 a0_0 a0_1 a0_2 a0_3 a0_4 a0_5 a0_6)), (Rg KT27 27 v8.1 []), (Rg KT27 27 v8.2 ([(T27.mk a1_0 a1_1 a1_2 a1_3 a1_4 a1_5 a1_6)]))]⟩ : St)) ?_ ?_
      ·rintro ⟨g904, g905⟩
       refine ax_all (i := 3) (is := []) (by kernel_rfl) (all_cons ?_ all_nil)
       ·refine nx_ox (last := #[true, true, true, true, true, true, false, false, false]) rfl (ox_append' (K := KT27) (i := 3) (xs := []) (ys := a0_6) rfl rfl rfl (sr_sl' rfl Try.underlying25) hr53 Try.underlying25 info27 rfl rfl rfl (H' := [(Ur q2 27 (C0 a0_0 a0_1 a0_2 a0_3 a0_4 a0_5 a0_6)), (Ur q3 27 (C0 a1_0 a1_1 a1_2 a1_3 a1_4 a1_5 a1_6)), (Ur q5 27 (C0 a0_0 a0_1 a0_2 a0_3 a0_4 a0_5 a0_6)), (Rg KT27 27 g905 ([(T27.mk a1_0 a1_1 a1_2 a1_3 a1_4 a1_5 a1_6)]))]) rfl) rfl (bs_cons (m := 1) rfl rfl rfl bs_nil) (wt_none' rfl) rfl fun g53 => ?_
        exact tk [1, 2, 3, 0, 4] (u6 rfl rfl rfl rfl rfl rfl) (p5 rfl rfl rfl rfl rfl) (hN6 (g53, g905))
      intro hN5
      refine ax_node (f' := 5) #[true, true, true, false, true, false, false, false, false] (fun (v5 : Gs) => (⟨99, [], [(2, (Vp q2)), (3, (Vp q3)), (5, (Vp q5)), (6, (Vb x4)), (50, (Vw v5)), (52, (Sl KT27 a0_6)), (54, (Ag (C0 a1_0 a1_1 a1_2 a1_3 a1_4 a1_5 a1_6)))], [(Ur q2 27 (C0 a0_0 a0_1 a0_2 a0_3 a0_4 a0_5 a0_6)), (Ur q3 27 (C0 a1_0 a1_1 a1_2 a1_3 a1_4 a1_5 a1_6)), (Ur q5 27 (C0 a0_0 a0_1 a0_2 a0_3 a0_4 a0_5 a0_6)), (Rg KT27 27 v5 [])]⟩ : St)) ?_ ?_
      ·rintro g901
       refine ax_all (i := 3) (is := [5]) (by kernel_rfl) (all_cons ?_ (all_cons ?_ all_nil))
       ·refine nx_ox (last := #[true, true, true, true, true, false, false, false, false]) rfl (ox_append' (K := KT27) (i := 3) (xs := []) (ys := a0_6) rfl rfl rfl (sr_sl' rfl Try.underlying25) hr53 Try.underlying25 info27 rfl rfl rfl (H' := [(Ur q2 27 (C0 a0_0 a0_1 a0_2 a0_3 a0_4 a0_5 a0_6)), (Ur q3 27 (C0 a1_0 a1_1 a1_2 a1_3 a1_4 a1_5 a1_6)), (Ur q5 27 (C0 a0_0 a0_1 a0_2 a0_3 a0_4 a0_5 a0_6))]) rfl) rfl (bs_cons (m := 1) rfl rfl rfl bs_nil) (wt_none' rfl) rfl fun g53 => ?_
        exact tk [1, 2, 3, 0] (u6 rfl rfl rfl rfl rfl rfl) (p4 rfl rfl rfl rfl) (hN4 g53)
       refine nx_ox (last := #[true, true, true, false, true, true, false, false, false]) rfl (ox_rowlit' (K := KT27) (xs := [(T27.mk a1_0 a1_1 a1_2 a1_3 a1_4 a1_5 a1_6)]) (qs := [(0, (C0 a1_0 a1_1 a1_2 a1_3 a1_4 a1_5 a1_6))]) ⟨rfl, ⟨_, rfl, (lv_ag _)⟩, trivial⟩ Try.underlying25 info27 rfl rfl rfl rfl rfl (by simp only [List.flatMap_cons, List.flatMap_nil, KT27_enc, List.append_nil]; kernel_rfl) rfl rfl rfl) rfl (bs_cons (m := 1) rfl rfl rfl bs_nil) (wt_none' rfl) rfl fun g55 => ?_
       exact tk [1, 2, 3, 4, 0] (u7 rfl rfl rfl rfl rfl rfl rfl) (p5 rfl rfl rfl rfl rfl) (hN5 (g901, g55))
      intro hN2
      refine ax_node (f' := 5) #[false, true, true, false, true, true, false, false, false] (fun (v6 : Gs) => (⟨99, [], [(2, (Vp q2)), (3, (Vp q3)), (5, (Vp q5)), (6, (Vb x4)), (52, (Sl KT27 a0_6)), (55, (Vw v6))], [(Ur q2 27 (C0 a0_0 a0_1 a0_2 a0_3 a0_4 a0_5 a0_6)), (Ur q3 27 (C0 a1_0 a1_1 a1_2 a1_3 a1_4 a1_5 a1_6)), (Ur q5 27 (C0 a0_0 a0_1 a0_2 a0_3 a0_4 a0_5 a0_6)), (Rg KT27 27 v6 ([(T27.mk a1_0 a1_1 a1_2 a1_3 a1_4 a1_5 a1_6)]))]⟩ : St)) ?_ ?_
      ·rintro g902
       refine ax_all (i := 0) (is := []) (by kernel_rfl) (all_cons ?_ all_nil)
       ·refine nx_ox (last := #[true, true, true, false, true, true, false, false, false]) rfl (ox_rowlit' (K := KT27) (xs := []) (qs := []) trivial Try.underlying25 info27 rfl rfl rfl rfl rfl (by simp only [List.flatMap_cons, List.flatMap_nil, KT27_enc, List.append_nil]; kernel_rfl) rfl rfl rfl) rfl (bs_cons (m := 1) rfl rfl rfl bs_nil) (wt_none' rfl) rfl fun g50 => ?_
        exact tk [1, 2, 3, 0, 4] (u7 rfl rfl rfl rfl rfl rfl rfl) (p5 rfl rfl rfl rfl rfl) (hN5 (g50, g902))
      intro hN3
      refine ax_all (i := 0) (is := [5]) (by kernel_rfl) (all_cons ?_ (all_cons ?_ all_nil))
      ·refine nx_ox (last := #[true, true, true, false, true, false, false, false, false]) rfl (ox_rowlit' (K := KT27) (xs := []) (qs := []) trivial Try.underlying25 info27 rfl rfl rfl rfl rfl (by simp only [List.flatMap_cons, List.flatMap_nil, KT27_enc, List.append_nil]; kernel_rfl) rfl rfl rfl) rfl (bs_cons (m := 1) rfl rfl rfl bs_nil) (wt_none' rfl) rfl fun g50 => ?_
       exact tk [1, 2, 3, 0] (u7 rfl rfl rfl rfl rfl rfl rfl) (p4 rfl rfl rfl rfl) (hN2 g50)
      refine nx_ox (last := #[false, true, true, false, true, true, false, false, false]) rfl (ox_rowlit' (K := KT27) (xs := [(T27.mk a1_0 a1_1 a1_2 a1_3 a1_4 a1_5 a1_6)]) (qs := [(0, (C0 a1_0 a1_1 a1_2 a1_3 a1_4 a1_5 a1_6))]) ⟨rfl, ⟨_, rfl, (lv_ag _)⟩, trivial⟩ Try.underlying25 info27 rfl rfl rfl rfl rfl (by simp only [List.flatMap_cons, List.flatMap_nil, KT27_enc, List.append_nil]; kernel_rfl) rfl rfl rfl) rfl (bs_cons (m := 1) rfl rfl rfl bs_nil) (wt_none' rfl) rfl fun g55 => ?_
      exact tk [1, 2, 3, 0] (u6 rfl rfl rfl rfl rfl rfl) (p4 rfl rfl rfl rfl) (hN3 g55)
     intro K16 hK16
     rcases br_cases hp with ⟨h7, hp⟩ | ⟨h7, hp⟩
     ·refine sx_skip' rfl rfl (wt_is' (wt_guard' rfl rfl rfl) (beq_tf h7)) ?_
      iterate 2 refine sx_skip' rfl rfl (wt_is' (wt_guard' rfl rfl rfl) (beq_tf h7)) ?_
      refine s0 (rd_pick_true' rfl h7 rfl) ?_
      refine sx_nil' ?_
      show TX E K16 _
      exact tk [1, 2, 0] (u4 rfl rfl rfl rfl) (p3 rfl rfl rfl) (hK16 true hp)
     refine sx_rd' (rd_field' (off := 1) rfl Try.underlying27 rfl info3 rfl) rfl rfl (wt_is' (wt_guard' rfl rfl rfl) (beq_ff h7)) ?_
     refine sx_rd' (rd_load' (i := 1) (o := 1) rfl (ar rfl rfl rfl rfl) rfl flat3) rfl rfl (wt_is' (wt_guard' rfl rfl rfl) (beq_ff h7)) ?_
     refine sx_rd' (rd_bin' rfl rfl eg_int ru_eql) rfl rfl (wt_is' (wt_guard' rfl rfl rfl) (beq_ff h7)) ?_
     refine s0 (rd_pick_false' rfl h7 rfl) ?_
     refine sx_nil' ?_
     show TX E K16 _
     exact tk [1, 2, 0] (u4 rfl rfl rfl rfl) (p3 rfl rfl rfl) (hK16 (decide (a0_1 = 0)) hp)
    replace hp := (br_f h6).symm.trans hp
    refine cx_seq' fun K17 hK17 => ?_
    refine cx_plana' [q2.block] [(8, 1), (10, 1)] [(0, 2), (1, 2), (2, 2), (3, 2), (4, 1), (6, 1)] 5 #[true, true, true, true, true, false, true, false, false, false, false] mixed (by kernel_rfl) ?_
    refine px_rb' rfl (rb_field0' rfl Try.underlying27 rfl info3 rfl) rfl rfl (wt_none' rfl) ?_
    refine px_rb' rfl (rb_load' (i := 1) (o := 0) rfl (ar rfl rfl rfl rfl) rfl flat3 (by simp)) rfl rfl (wt_none' rfl) ?_
    refine px_rb' rfl (rb_field' (off := 1) rfl Try.underlying27 rfl info3 rfl) rfl rfl (wt_none' rfl) ?_
    refine px_rb' rfl (rb_load' (i := 1) (o := 1) rfl (ar rfl rfl rfl rfl) rfl flat3 (by simp)) rfl rfl (wt_none' rfl) ?_
    refine pd rfl (rd_load_agg' (i := 1) (o := 0) (nn := 7) rfl (ar rfl rfl rfl rfl) rfl agg27 (l' := (C0 a0_0 a0_1 a0_2 a0_3 a0_4 a0_5 a0_6)) rfl) ?_
    refine pd rfl (rd_load_agg' (i := 2) (o := 0) (nn := 7) rfl (ar rfl rfl rfl rfl) rfl agg27 (l' := (C0 a1_0 a1_1 a1_2 a1_3 a1_4 a1_5 a1_6)) rfl) ?_
    refine px_nil' ?_
    show AX E _ _ _ _ _ _ _ _
    obtain ⟨r63, hr63, hp⟩ := bind_some hp
    obtain ⟨r66, hr66, hp⟩ := bind_some hp
    obtain ⟨r67, hr67, hp⟩ := bind_some hp
    refine ax_node (f' := 0) #[true, true, true, true, true, true, true, true, true, true, true] (fun (v18 : Unit) => (⟨99, [], [(2, (Vp q2)), (3, (Vp q3)), (5, (Vp q5)), (6, (Vb (decide (r37 = a0_1)))), (38, (Vp ((q2).add 1))), (41, (Vp q2))], [(Ur q2 27 (C0 a0_0 a0_1 a0_2 a0_3 a0_4 a0_5 a0_6)), (Ur q3 27 (C0 a1_0 a1_1 a1_2 a1_3 a1_4 a1_5 a1_6)), (Ur q5 27 (C8 r67.1 r67.2.1 r67.2.2.1 r67.2.2.2.1 r67.2.2.2.2.1 r67.2.2.2.2.2))]⟩ : St)) ?_ ?_
    ·rintro ⟨⟩
     refine ax_nil (by kernel_rfl) ?_
     show TX E K17 _
     refine tx_k' hK17 ?_
     refine cx_region' ?_
     refine sg (off := 2) rfl Try.underlying27 rfl info3 rfl ?_
     refine sl (i := 0) (o := 2) rfl (ar rfl rfl rfl rfl) rfl flat3 ?_
     refine sg (off := 2) rfl Try.underlying27 rfl info3 rfl ?_
     refine so (ox_store' (i := 2) (o := 2) rfl rfl (lv_vl rfl rfl) (ar rfl rfl rfl rfl) rfl info3 rfl (H' := [(Ur q2 27 (C0 a0_0 a0_1 a0_2 a0_3 a0_4 a0_5 a0_6)), (Ur q3 27 (C0 a1_0 a1_1 a1_2 a1_3 a1_4 a1_5 a1_6)), (Ur q5 27 (C8 r67.1 r67.2.1 a0_2 r67.2.2.2.1 r67.2.2.2.2.1 r67.2.2.2.2.2))]) rfl) fun _ => ?_
     refine sx_nil' ?_
     show TX E K13 _
     refine tx_nilrow' KT27 27 ?_
     exact tk [1, 2, 3, 0] (u4 rfl rfl rfl rfl) (p4 rfl rfl rfl rfl) (hK13 (r67.1, r67.2.1, r67.2.2.2.1, r67.2.2.2.2.1, r67.2.2.2.2.2, [], (decide (r37 = a0_1)), (none, 0, 0)) hp)
    intro hN16
    refine ax_node (f' := 1) #[true, true, true, true, true, true, true, true, true, true, false] (fun (v17 : Unit) => (⟨99, [], [(2, (Vp q2)), (3, (Vp q3)), (5, (Vp q5)), (6, (Vb (decide (r37 = a0_1)))), (38, (Vp ((q2).add 1))), (41, (Vp q2)), (67, (Ag (C8 r67.1 r67.2.1 r67.2.2.1 r67.2.2.2.1 r67.2.2.2.2.1 r67.2.2.2.2.2)))], [(Ur q2 27 (C0 a0_0 a0_1 a0_2 a0_3 a0_4 a0_5 a0_6)), (Ur q3 27 (C0 a1_0 a1_1 a1_2 a1_3 a1_4 a1_5 a1_6)), (Ur q5 27 (C0 a0_0 a0_1 a0_2 a0_3 a0_4 a0_5 a0_6))]⟩ : St)) ?_ ?_
    ·rintro ⟨⟩
     refine ax_all (i := 10) (is := []) (by kernel_rfl) (all_cons ?_ all_nil)
     ·refine nx_oxv (last := #[true, true, true, true, true, true, true, true, true, true, true]) rfl (oxv_store (i := 2) (o := 0) rfl rfl (lv_ag _) (ar rfl rfl rfl rfl) rfl info27 rfl (H' := [(Ur q2 27 (C0 a0_0 a0_1 a0_2 a0_3 a0_4 a0_5 a0_6)), (Ur q3 27 (C0 a1_0 a1_1 a1_2 a1_3 a1_4 a1_5 a1_6)), (Ur q5 27 (C8 r67.1 r67.2.1 r67.2.2.1 r67.2.2.2.1 r67.2.2.2.2.1 r67.2.2.2.2.2))]) rfl) rfl rfl (bo_cons (m := 0) (by decide) rfl rfl bo_nil) (wt_none' rfl) rfl fun _ => ?_
      exact tk [0, 1, 2] (u6 rfl rfl rfl rfl rfl rfl) (p3 rfl rfl rfl) (hN16 ())
    intro hN15
    refine ax_node (f' := 2) #[true, true, true, true, true, true, true, true, true, false, false] (fun (v16 : Gs) => (⟨99, [], [(2, (Vp q2)), (3, (Vp q3)), (5, (Vp q5)), (6, (Vb (decide (r37 = a0_1)))), (38, (Vp ((q2).add 1))), (41, (Vp q2)), (59, (Vi a0_0)), (61, (Vi a0_1)), (66, (Vw v16))], [(Ur q2 27 (C0 a0_0 a0_1 a0_2 a0_3 a0_4 a0_5 a0_6)), (Ur q3 27 (C0 a1_0 a1_1 a1_2 a1_3 a1_4 a1_5 a1_6)), (Ur q5 27 (C0 a0_0 a0_1 a0_2 a0_3 a0_4 a0_5 a0_6)), (Rg KT27 27 v16 r66)]⟩ : St)) ?_ ?_
    ·rintro g9015
     refine ax_all (i := 9) (is := []) (by kernel_rfl) (all_cons ?_ all_nil)
     ·refine tx_fz' (frz_row 3 [(66, (Vw g9015), (Sl KT27 r66))] (K := KT27) (xs := r66) (by decide) rfl ⟨⟨rfl, frz_it⟩, trivial⟩ (H' := [(Ur q2 27 (C0 a0_0 a0_1 a0_2 a0_3 a0_4 a0_5 a0_6)), (Ur q3 27 (C0 a1_0 a1_1 a1_2 a1_3 a1_4 a1_5 a1_6)), (Ur q5 27 (C0 a0_0 a0_1 a0_2 a0_3 a0_4 a0_5 a0_6))]) frzH_refl) ?_
      refine nx_ox (last := #[true, true, true, true, true, true, true, true, true, true, false]) rfl (oz (ent_fn' Try.func17 isn17 rfl rfl) (spec_OfParts_sim _ _ _ hr67)) rfl (bs_cons (m := 0) rfl rfl rfl bs_nil) (wt_none' rfl) rfl fun ⟨⟩ => ?_
      exact tk [0, 1, 2] (u7 rfl rfl rfl rfl rfl rfl rfl) (p3 rfl rfl rfl) (hN15 ())
    intro hN14
    refine ax_node (f' := 3) #[true, true, true, true, true, true, true, true, false, false, false] (fun (v15 : Gs × Gs) => (⟨99, [], [(2, (Vp q2)), (3, (Vp q3)), (5, (Vp q5)), (6, (Vb (decide (r37 = a0_1)))), (38, (Vp ((q2).add 1))), (41, (Vp q2)), (59, (Vi a0_0)), (61, (Vi a0_1)), (63, (Vw v15.1)), (65, (Vw v15.2))], [(Ur q2 27 (C0 a0_0 a0_1 a0_2 a0_3 a0_4 a0_5 a0_6)), (Ur q3 27 (C0 a1_0 a1_1 a1_2 a1_3 a1_4 a1_5 a1_6)), (Ur q5 27 (C0 a0_0 a0_1 a0_2 a0_3 a0_4 a0_5 a0_6)), (Rg KT27 27 v15.1 r63), (Rg KT27 27 v15.2 ([(T27.mk a1_0 a1_1 a1_2 a1_3 a1_4 a1_5 a1_6)]))]⟩ : St)) ?_ ?_
    ·rintro ⟨g9013, g9014⟩
     refine ax_all (i := 8) (is := []) (by kernel_rfl) (all_cons ?_ all_nil)
     ·refine nx_ox (last := #[true, true, true, true, true, true, true, true, true, false, false]) rfl (ox_append' (K := KT27) (i := 3) (xs := r63) (ys := ([(T27.mk a1_0 a1_1 a1_2 a1_3 a1_4 a1_5 a1_6)])) rfl rfl rfl (sr_row' (j := 4) rfl rfl rfl Try.underlying25) hr66 Try.underlying25 info27 rfl rfl rfl (H' := [(Ur q2 27 (C0 a0_0 a0_1 a0_2 a0_3 a0_4 a0_5 a0_6)), (Ur q3 27 (C0 a1_0 a1_1 a1_2 a1_3 a1_4 a1_5 a1_6)), (Ur q5 27 (C0 a0_0 a0_1 a0_2 a0_3 a0_4 a0_5 a0_6)), (Rg KT27 27 g9014 ([(T27.mk a1_0 a1_1 a1_2 a1_3 a1_4 a1_5 a1_6)]))]) rfl) rfl (bs_cons (m := 0) rfl rfl rfl bs_nil) (wt_none' rfl) rfl fun g66 => ?_
      exact tk [1, 2, 3, 0] (u9 rfl rfl rfl rfl rfl rfl rfl rfl rfl) (p4 rfl rfl rfl rfl) (hN14 g66)
    intro hN13
    refine ax_node (f' := 4) #[true, true, true, true, true, true, true, false, false, false, false] (fun (v13 : Gs) => (⟨99, [], [(2, (Vp q2)), (3, (Vp q3)), (5, (Vp q5)), (6, (Vb (decide (r37 = a0_1)))), (38, (Vp ((q2).add 1))), (41, (Vp q2)), (59, (Vi a0_0)), (61, (Vi a0_1)), (63, (Vw v13)), (64, (Ag (C0 a1_0 a1_1 a1_2 a1_3 a1_4 a1_5 a1_6)))], [(Ur q2 27 (C0 a0_0 a0_1 a0_2 a0_3 a0_4 a0_5 a0_6)), (Ur q3 27 (C0 a1_0 a1_1 a1_2 a1_3 a1_4 a1_5 a1_6)), (Ur q5 27 (C0 a0_0 a0_1 a0_2 a0_3 a0_4 a0_5 a0_6)), (Rg KT27 27 v13 r63)]⟩ : St)) ?_ ?_
    ·rintro g9011
     refine ax_all (i := 7) (is := []) (by kernel_rfl) (all_cons ?_ all_nil)
     ·refine nx_ox (last := #[true, true, true, true, true, true, true, true, false, false, false]) rfl (ox_rowlit' (K := KT27) (xs := [(T27.mk a1_0 a1_1 a1_2 a1_3 a1_4 a1_5 a1_6)]) (qs := [(0, (C0 a1_0 a1_1 a1_2 a1_3 a1_4 a1_5 a1_6))]) ⟨rfl, ⟨_, rfl, (lv_ag _)⟩, trivial⟩ Try.underlying25 info27 rfl rfl rfl rfl rfl (by simp only [List.flatMap_cons, List.flatMap_nil, KT27_enc, List.append_nil]; kernel_rfl) rfl rfl rfl) rfl (bs_cons (m := 0) rfl rfl rfl bs_nil) (wt_none' rfl) rfl fun g65 => ?_
      exact tk [1, 2, 3, 4, 0] (u10 rfl rfl rfl rfl rfl rfl rfl rfl rfl rfl) (p5 rfl rfl rfl rfl rfl) (hN13 (g9011, g65))
    intro hN11
    refine ax_node (f' := 4) #[true, true, true, true, true, false, true, true, false, false, false] (fun (v14 : Gs) => (⟨99, [], [(2, (Vp q2)), (3, (Vp q3)), (5, (Vp q5)), (6, (Vb (decide (r37 = a0_1)))), (38, (Vp ((q2).add 1))), (41, (Vp q2)), (59, (Vi a0_0)), (61, (Vi a0_1)), (62, (Ag (C0 a0_0 a0_1 a0_2 a0_3 a0_4 a0_5 a0_6))), (65, (Vw v14))], [(Ur q2 27 (C0 a0_0 a0_1 a0_2 a0_3 a0_4 a0_5 a0_6)), (Ur q3 27 (C0 a1_0 a1_1 a1_2 a1_3 a1_4 a1_5 a1_6)), (Ur q5 27 (C0 a0_0 a0_1 a0_2 a0_3 a0_4 a0_5 a0_6)), (Rg KT27 27 v14 ([(T27.mk a1_0 a1_1 a1_2 a1_3 a1_4 a1_5 a1_6)]))]⟩ : St)) ?_ ?_
    ·rintro g9012
     refine ax_all (i := 5) (is := []) (by kernel_rfl) (all_cons ?_ all_nil)
     ·refine nx_ox (last := #[true, true, true, true, true, true, true, true, false, false, false]) rfl (ox_calln' (ent_fn' Try.func18 isn18 rfl rfl) (spec_Parts_sim _ _ _ _ _ _ _ hr63 : Sx.Fn Try.prog 18 [(Ag (C0 a0_0 a0_1 a0_2 a0_3 a0_4 a0_5 a0_6))] [] (fun x : Gs => (Vw x)) (fun x => [(Rg KT27 27 x r63)])) (Hn := fun x : Gs => [(Rg KT27 27 x r63), (Ur q2 27 (C0 a0_0 a0_1 a0_2 a0_3 a0_4 a0_5 a0_6)), (Ur q3 27 (C0 a1_0 a1_1 a1_2 a1_3 a1_4 a1_5 a1_6)), (Ur q5 27 (C0 a0_0 a0_1 a0_2 a0_3 a0_4 a0_5 a0_6)), (Rg KT27 27 g9012 ([(T27.mk a1_0 a1_1 a1_2 a1_3 a1_4 a1_5 a1_6)]))]) (fun _ => rfl) rfl rfl) rfl (bs_cons (m := 0) rfl rfl rfl bs_nil) (wt_none' rfl) rfl fun g63 => ?_
      exact tk [1, 2, 3, 0, 4] (u10 rfl rfl rfl rfl rfl rfl rfl rfl rfl rfl) (p5 rfl rfl rfl rfl rfl) (hN13 (g63, g9012))
    intro hN12
    refine ax_all (i := 5) (is := [7]) (by kernel_rfl) (all_cons ?_ (all_cons ?_ all_nil))
    ·refine nx_ox (last := #[true, true, true, true, true, true, true, false, false, false, false]) rfl (ox_calln' (ent_fn' Try.func18 isn18 rfl rfl) (spec_Parts_sim _ _ _ _ _ _ _ hr63 : Sx.Fn Try.prog 18 [(Ag (C0 a0_0 a0_1 a0_2 a0_3 a0_4 a0_5 a0_6))] [] (fun x : Gs => (Vw x)) (fun x => [(Rg KT27 27 x r63)])) (Hn := fun x : Gs => [(Rg KT27 27 x r63), (Ur q5 27 (C0 a0_0 a0_1 a0_2 a0_3 a0_4 a0_5 a0_6)), (Ur q2 27 (C0 a0_0 a0_1 a0_2 a0_3 a0_4 a0_5 a0_6)), (Ur q3 27 (C0 a1_0 a1_1 a1_2 a1_3 a1_4 a1_5 a1_6))]) (fun _ => rfl) rfl rfl) rfl (bs_cons (m := 1) rfl rfl rfl bs_nil) (wt_none' rfl) rfl fun g63 => ?_
     exact tk [2, 3, 1, 0] (u10 rfl rfl rfl rfl rfl rfl rfl rfl rfl rfl) (p4 rfl rfl rfl rfl) (hN11 g63)
    refine nx_ox (last := #[true, true, true, true, true, false, true, true, false, false, false]) rfl (ox_rowlit' (K := KT27) (xs := [(T27.mk a1_0 a1_1 a1_2 a1_3 a1_4 a1_5 a1_6)]) (qs := [(0, (C0 a1_0 a1_1 a1_2 a1_3 a1_4 a1_5 a1_6))]) ⟨rfl, ⟨_, rfl, (lv_ag _)⟩, trivial⟩ Try.underlying25 info27 rfl rfl rfl rfl rfl (by simp only [List.flatMap_cons, List.flatMap_nil, KT27_enc, List.append_nil]; kernel_rfl) rfl rfl rfl) rfl (bs_cons (m := 1) rfl rfl rfl bs_nil) (wt_none' rfl) rfl fun g65 => ?_
    exact tk [2, 3, 1, 0] (u10 rfl rfl rfl rfl rfl rfl rfl rfl rfl rfl) (p4 rfl rfl rfl rfl) (hN12 g65)
   intro K9 hK9
   rcases br_cases hp with ⟨h4, hp⟩ | ⟨h4, hp⟩
   ·refine sx_skip' rfl rfl (wt_is' (wt_guard' rfl rfl rfl) (beq_tf h4)) ?_
    iterate 3 refine sx_skip' rfl rfl (wt_is' (wt_guard' rfl rfl rfl) (beq_tf h4)) ?_
    refine s0 (rd_pick_true' rfl h4 rfl) ?_
    refine sx_nil' ?_
    show TX E K9 _
    exact tk [0, 1] (u3 rfl rfl rfl) (p2 rfl rfl) (hK9 true hp)
   refine sx_rd' (rd_load_agg' (i := 0) (o := 0) (nn := 7) rfl (ar rfl rfl rfl rfl) rfl agg27 (l' := (C0 a0_0 a0_1 a0_2 a0_3 a0_4 a0_5 a0_6)) rfl) rfl rfl (wt_is' (wt_guard' rfl rfl rfl) (beq_ff h4)) ?_
   refine sx_rd' (rd_load_agg' (i := 1) (o := 0) (nn := 7) rfl (ar rfl rfl rfl rfl) rfl agg27 (l' := (C0 a1_0 a1_1 a1_2 a1_3 a1_4 a1_5 a1_6)) rfl) rfl rfl (wt_is' (wt_guard' rfl rfl rfl) (beq_ff h4)) ?_
   obtain ⟨r32, hr32, hp⟩ := bind_some hp
   refine sx_ox' (oz (ent_fn' Try.func15 isn15 rfl rfl) (laws_gPartOf_sim _ _ _ _ _ _ _ _ _ _ _ _ _ _ hr32)) (wt_is' (wt_guard' rfl rfl rfl) (beq_ff h4)) fun ⟨⟩ => ?_
   refine sx_rd' (rd_un' rfl ru_not) rfl rfl (wt_is' (wt_guard' rfl rfl rfl) (beq_ff h4)) ?_
   refine s0 (rd_pick_false' rfl h4 rfl) ?_
   refine sx_nil' ?_
   show TX E K9 _
   exact tk [0, 1] (u3 rfl rfl rfl) (p2 rfl rfl) (hK9 (!r32) hp)
  intro K8 hK8
  rcases br_cases hp with ⟨h3, hp⟩ | ⟨h3, hp⟩
  ·refine sx_skip' rfl rfl (wt_is' (wt_guard' rfl rfl rfl) (beq_tf h3)) ?_
   iterate 2 refine sx_skip' rfl rfl (wt_is' (wt_guard' rfl rfl rfl) (beq_tf h3)) ?_
   refine s0 (rd_pick_true' rfl h3 rfl) ?_
   refine sx_nil' ?_
   show TX E K8 _
   exact tk [1, 2] (u3 rfl rfl rfl) (p2 rfl rfl) (hK8 true hp)
  refine sx_rd' (rd_load_agg' (i := 1) (o := 0) (nn := 7) rfl (ar rfl rfl rfl rfl) rfl agg27 (l' := (C0 a0_0 a0_1 a0_2 a0_3 a0_4 a0_5 a0_6)) rfl) rfl rfl (wt_is' (wt_guard' rfl rfl rfl) (beq_ff h3)) ?_
  obtain ⟨r26, hr26, hp⟩ := bind_some hp
  refine sx_ox' (oz (ent_fn' Try.func14 isn14 rfl rfl) (laws_gHasParts_sim _ _ _ _ _ _ _ hr26)) (wt_is' (wt_guard' rfl rfl rfl) (beq_ff h3)) fun ⟨⟩ => ?_
  refine sx_rd' (rd_un' rfl ru_not) rfl rfl (wt_is' (wt_guard' rfl rfl rfl) (beq_ff h3)) ?_
  refine s0 (rd_pick_false' rfl h3 rfl) ?_
  refine sx_nil' ?_
  show TX E K8 _
  exact tk [1, 2] (u3 rfl rfl rfl) (p2 rfl rfl) (hK8 (!r26) hp)
 intro K4 hK4
 rcases br_cases hp with ⟨h1, hp⟩ | ⟨h1, hp⟩
 ·refine sx_skip' rfl rfl (wt_is' (wt_guard' rfl rfl rfl) (beq_tf h1)) ?_
  iterate 2 refine sx_skip' rfl rfl (wt_is' (wt_guard' rfl rfl rfl) (beq_tf h1)) ?_
  refine s0 (rd_pick_true' rfl h1 rfl) ?_
  refine sx_nil' ?_
  show TX E K4 _
  exact tk [1, 0] (u3 rfl rfl rfl) (p2 rfl rfl) (hK4 true hp)
 refine sx_rd' (rd_load_agg' (i := 0) (o := 0) (nn := 7) rfl (ar rfl rfl rfl rfl) rfl agg27 (l' := (C0 a1_0 a1_1 a1_2 a1_3 a1_4 a1_5 a1_6)) rfl) rfl rfl (wt_is' (wt_guard' rfl rfl rfl) (beq_ff h1)) ?_
 obtain ⟨r16, hr16, hp⟩ := bind_some hp
 refine sx_ox' (oz (ent_fn' Try.func7 isn7 rfl rfl) (laws_zzFits2_sim _ _ _ _ _ _ _ hr16)) (wt_is' (wt_guard' rfl rfl rfl) (beq_ff h1)) fun ⟨⟩ => ?_
 refine sx_rd' (rd_un' rfl ru_not) rfl rfl (wt_is' (wt_guard' rfl rfl rfl) (beq_ff h1)) ?_
 refine s0 (rd_pick_false' rfl h1 rfl) ?_
 refine sx_nil' ?_
 show TX E K4 _
 exact tk [1, 0] (u3 rfl rfl rfl) (p2 rfl rfl) (hK4 (!r16) hp)

end Go.Proofs.Ytmagcmeknclljaa
