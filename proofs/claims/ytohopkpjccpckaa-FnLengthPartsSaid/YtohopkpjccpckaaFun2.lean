/-
  Plain functions for the Go functions that this law reaches, and that each call does what its plain function says. Printed by a program of ours.
-/
import Derived.Test.YtohopkpjccpckaaProg
import Derived.Test.YtohopkpjccpckaaSxZ
import Derived.Test.YtohopkpjccpckaaFun1
namespace Go.Proofs.Ytohopkpjccpckaa
open Go.Sx
set_option linter.unusedVariables false
set_option maxRecDepth 100000

def impl_ints (k : Nat) (a0 : List Int) : Option (Unit ⊕ (List Int)) :=
  br a0.isEmpty
    (some (.inl ()))
    ((apd 8 [] a0) >>= fun r4 =>
    some (.inr r4))
def impl_ints_r  (a0 : List Int) (out : Unit ⊕ (List Int)) (w : Unit) : SV := match out with
  | (.inl y) => (Vl (.slice none 0 0))
  | (.inr y) => (Sl (Ki .i64) y)
def impl_ints_h  (a0 : List Int) (out : Unit ⊕ (List Int)) (w : Unit) : List Res := match out with
  | (.inl y) => []
  | (.inr y) => []

theorem impl_ints_sim {k : Nat}  (a0 : List Int) {out : Unit ⊕ (List Int)} (hp : impl_ints k a0 = some out) : Go.Sx.Fn Try.prog 84 [(Sl (Ki .i64) a0)] [] (fun w => impl_ints_r a0 out w) (fun w => impl_ints_h a0 out w) := by
  unfold impl_ints at hp
  refine fn_of Try.func84 rfl Try.ntmps84 rfl fun E hM => ?_
  refine cx_seq' fun K1 hK1 => ?_
  refine cx_region' ?_
  refine sx_rd' (rd_assign' rfl) rfl rfl (wt_none' rfl) ?_
  refine sx_nil' ?_
  show TX E K1 _
  refine tx_k' hK1 ?_
  refine cx_seq' fun K2 hK2 => ?_
  refine cx_region' ?_
  refine sx_rd' (rd_move' rfl) rfl rfl (wt_none' rfl) ?_
  rcases br_cases hp with ⟨h1, hp⟩ | ⟨h1, hp⟩
  · refine sx_rd' (rd_append0' (K := (Ki .i64)) (xs := a0) rfl rfl h1 Try.underlying23 Try.underlying23 info3) rfl rfl (wt_none' rfl) ?_
    refine sx_rd' (rd_assign' rfl) rfl rfl (wt_none' rfl) ?_
    refine sx_nil' ?_
    show TX E K2 _
    refine tx_k' hK2 ?_
    refine cx_retc' ?_
    replace hp := Option.some.inj hp
    subst hp
    refine tx_pick' (L' := [(2, (Vl (.slice none 0 0)))]) (H' := []) [] (sub_cons rfl sub_nil) (by decide) pick_nil ?_
    exact tx_ret1' Try.results84 rfl () (rv_tmp' rfl) (List.Sublist.refl _)
  · refine tx_nilrow' (Ki .i64) 3 ?_
    obtain ⟨r4, hr4, hp⟩ := bind_some hp
    refine sx_ox' (ox_append' (K := (Ki .i64)) (i := 0) (xs := []) (ys := a0) rfl rfl rfl (sr_sl' rfl Try.underlying23) hr4 Try.underlying23 info3 rfl rfl rfl (H' := []) rfl) (wt_none' rfl) fun g4 => ?_
    refine sx_rd' (rd_assign' rfl) rfl rfl (wt_none' rfl) ?_
    refine sx_nil' ?_
    show TX E K2 _
    refine tx_k' hK2 ?_
    refine cx_retc' ?_
    replace hp := Option.some.inj hp
    subst hp
    refine tx_fz' (frz_row 0 [(2, (Vl (Vs g4)), (Sl (Ki .i64) r4)), (4, (Vl (Vs g4)), (Sl (Ki .i64) r4))] (K := (Ki .i64)) (xs := r4) (by decide) rfl ⟨⟨rfl, frz_it⟩, ⟨rfl, frz_it⟩, trivial⟩ (H' := []) frzH_refl) ?_
    refine tx_pick' (L' := [(2, (Sl (Ki .i64) r4))]) (H' := []) [] (sub_cons rfl sub_nil) (by decide) pick_nil ?_
    exact tx_ret1' Try.results84 rfl () (rv_tmp' rfl) (List.Sublist.refl _)

def gogeom_NewPolygonFlat (k : Nat) (a0 : Int) (a1 : List Nat) : Option (Int × Int × (List Nat) × Int) :=
  (gogeom_Layout_Stride k a0) >>= fun r18 =>
  some (a0, r18, a1, 0)

theorem gogeom_NewPolygonFlat_sim {k : Nat}  (a0 : Int) (a1 : List Nat) {out : Int × Int × (List Nat) × Int} (hp : gogeom_NewPolygonFlat k a0 a1 = some out) : Go.Sx.Fn Try.prog 92 [(Vl (.int .i64 a0)), (Sl Kf a1), (Vl (.slice none 0 0))] [] (fun w : Addr => (Vl (.pointer (some w)))) (fun w => [⟨.pointer (some w), [(Vl (.int .i64 out.1)), (Vl (.int .i64 out.2.1)), (Sl Kf out.2.2.1), (Vl (.int .i64 out.2.2.2)), (Vl (.slice none 0 0))], 155, none⟩]) := by
  unfold gogeom_NewPolygonFlat at hp
  refine fn_of Try.func92 rfl Try.ntmps92 rfl fun E hM => ?_
  refine cx_seq' fun K1 hK1 => ?_
  refine cx_region' ?_
  refine sx_rd' (rd_assign' rfl) rfl rfl (wt_none' rfl) ?_
  refine sx_nil' ?_
  show TX E K1 _
  refine tx_k' hK1 ?_
  refine cx_seq' fun K2 hK2 => ?_
  refine cx_region' ?_
  refine sx_ox' (ox_alloc' info155 rfl rfl rfl rfl (l := [(Vl (.int .i64 0)), (Vl (.int .i64 0)), (Vl (.slice none 0 0)), (Vl (.int .i64 0)), (Vl (.slice none 0 0))]) rfl) (wt_none' rfl) fun q8 => ?_
  refine sx_rd' (rd_assign' rfl) rfl rfl (wt_none' rfl) ?_
  refine sx_nil' ?_
  show TX E K2 _
  refine tx_k' hK2 ?_
  refine cx_seq' fun K3 hK3 => ?_
  refine cx_region' ?_
  refine sx_rd' (rd_move' rfl) rfl rfl (wt_none' rfl) ?_
  refine sx_rd' (rd_move' rfl) rfl rfl (wt_none' rfl) ?_
  refine sx_rd' (rd_nilck' rfl) rfl rfl (wt_none' rfl) ?_
  refine sx_rd' (rd_field0' rfl Try.underlying155 rfl info153 rfl) rfl rfl (wt_none' rfl) ?_
  refine sx_rd' (rd_field0' rfl Try.underlying153 rfl info149 rfl) rfl rfl (wt_none' rfl) ?_
  refine sx_rd' (rd_field0' rfl Try.underlying149 rfl info112 rfl) rfl rfl (wt_none' rfl) ?_
  refine sx_rd' (rd_field0' rfl Try.underlying112 rfl info65 rfl) rfl rfl (wt_none' rfl) ?_
  refine sx_ox' (ox_store' (i := 0) (o := 0) rfl rfl (lv_vl rfl rfl) ⟨rfl, rfl, rfl, rfl⟩ rfl info65 rfl (H' := [⟨.pointer (some q8), [(Vl (.int .i64 a0)), (Vl (.int .i64 0)), (Vl (.slice none 0 0)), (Vl (.int .i64 0)), (Vl (.slice none 0 0))], 155, none⟩]) rfl) (wt_none' rfl) fun _ => ?_
  refine sx_nil' ?_
  show TX E K3 _
  refine tx_k' hK3 ?_
  refine cx_seq' fun K4 hK4 => ?_
  refine cx_region' ?_
  refine sx_rd' (rd_move' rfl) rfl rfl (wt_none' rfl) ?_
  refine sx_rd' (rd_move' rfl) rfl rfl (wt_none' rfl) ?_
  obtain ⟨r18, hr18, hp⟩ := bind_some hp
  refine sx_ox' (ox_calln' (ent_fn' Try.func80 isn80 rfl rfl) (gogeom_Layout_Stride_sim _ hr18 : Go.Sx.Fn Try.prog 80 [(Vl (.int .i64 a0))] [] (fun x : Unit => (Vl (.int .i64 r18))) (fun x => [])) (Hn := fun x : Unit => [⟨.pointer (some q8), [(Vl (.int .i64 a0)), (Vl (.int .i64 0)), (Vl (.slice none 0 0)), (Vl (.int .i64 0)), (Vl (.slice none 0 0))], 155, none⟩]) (fun _ => rfl) rfl rfl) (wt_none' rfl) fun ⟨⟩ => ?_
  refine sx_rd' (rd_nilck' rfl) rfl rfl (wt_none' rfl) ?_
  refine sx_rd' (rd_field0' rfl Try.underlying155 rfl info153 rfl) rfl rfl (wt_none' rfl) ?_
  refine sx_rd' (rd_field0' rfl Try.underlying153 rfl info149 rfl) rfl rfl (wt_none' rfl) ?_
  refine sx_rd' (rd_field0' rfl Try.underlying149 rfl info112 rfl) rfl rfl (wt_none' rfl) ?_
  refine sx_rd' (rd_field' (off := 1) rfl Try.underlying112 rfl info3 rfl) rfl rfl (wt_none' rfl) ?_
  refine sx_ox' (ox_store' (i := 0) (o := 1) rfl rfl (lv_vl rfl rfl) ⟨rfl, rfl, rfl, rfl⟩ rfl info3 rfl (H' := [⟨.pointer (some q8), [(Vl (.int .i64 a0)), (Vl (.int .i64 r18)), (Vl (.slice none 0 0)), (Vl (.int .i64 0)), (Vl (.slice none 0 0))], 155, none⟩]) rfl) (wt_none' rfl) fun _ => ?_
  refine sx_nil' ?_
  show TX E K4 _
  refine tx_k' hK4 ?_
  refine cx_seq' fun K5 hK5 => ?_
  refine cx_region' ?_
  refine sx_rd' (rd_move' rfl) rfl rfl (wt_none' rfl) ?_
  refine sx_rd' (rd_move' rfl) rfl rfl (wt_none' rfl) ?_
  refine sx_rd' (rd_nilck' rfl) rfl rfl (wt_none' rfl) ?_
  refine sx_rd' (rd_field0' rfl Try.underlying155 rfl info153 rfl) rfl rfl (wt_none' rfl) ?_
  refine sx_rd' (rd_field0' rfl Try.underlying153 rfl info149 rfl) rfl rfl (wt_none' rfl) ?_
  refine sx_rd' (rd_field0' rfl Try.underlying149 rfl info112 rfl) rfl rfl (wt_none' rfl) ?_
  refine sx_rd' (rd_field' (off := 2) rfl Try.underlying112 rfl info22 rfl) rfl rfl (wt_none' rfl) ?_
  refine sx_ox' (ox_store' (i := 0) (o := 2) rfl rfl (lv_sl _ _) ⟨rfl, rfl, rfl, rfl⟩ rfl info22 rfl (H' := [⟨.pointer (some q8), [(Vl (.int .i64 a0)), (Vl (.int .i64 r18)), (Sl Kf a1), (Vl (.int .i64 0)), (Vl (.slice none 0 0))], 155, none⟩]) rfl) (wt_none' rfl) fun _ => ?_
  refine sx_nil' ?_
  show TX E K5 _
  refine tx_k' hK5 ?_
  refine cx_seq' fun K6 hK6 => ?_
  refine cx_region' ?_
  refine sx_rd' (rd_move' rfl) rfl rfl (wt_none' rfl) ?_
  refine sx_rd' (rd_move' rfl) rfl rfl (wt_none' rfl) ?_
  refine sx_rd' (rd_nilck' rfl) rfl rfl (wt_none' rfl) ?_
  refine sx_rd' (rd_field0' rfl Try.underlying155 rfl info153 rfl) rfl rfl (wt_none' rfl) ?_
  refine sx_rd' (rd_field' (off := 4) rfl Try.underlying153 rfl info23 rfl) rfl rfl (wt_none' rfl) ?_
  refine sx_ox' (ox_store' (i := 0) (o := 4) rfl rfl (lv_vl rfl rfl) ⟨rfl, rfl, rfl, rfl⟩ rfl info23 rfl (H' := [⟨.pointer (some q8), [(Vl (.int .i64 a0)), (Vl (.int .i64 r18)), (Sl Kf a1), (Vl (.int .i64 0)), (Vl (.slice none 0 0))], 155, none⟩]) rfl) (wt_none' rfl) fun _ => ?_
  refine sx_nil' ?_
  show TX E K6 _
  refine tx_k' hK6 ?_
  refine cx_seq' fun K7 hK7 => ?_
  refine cx_region' ?_
  refine sx_rd' (rd_move' rfl) rfl rfl (wt_none' rfl) ?_
  refine sx_rd' (rd_assign' rfl) rfl rfl (wt_none' rfl) ?_
  refine sx_nil' ?_
  show TX E K7 _
  refine tx_k' hK7 ?_
  refine cx_retc' ?_
  replace hp := Option.some.inj hp
  subst hp
  refine tx_pick' (L' := [(6, (Vl (.pointer (some q8))))]) (H' := [⟨.pointer (some q8), [(Vl (.int .i64 a0)), (Vl (.int .i64 r18)), (Sl Kf a1), (Vl (.int .i64 0)), (Vl (.slice none 0 0))], 155, none⟩]) [0] (sub_cons rfl sub_nil) (by decide) (pick_cons rfl pick_nil) ?_
  exact tx_ret1' Try.results92 rfl q8 (rv_tmp' rfl) (List.Sublist.refl _)

def gogeom_Polygon_SetSRID (k : Nat) (a0_0 : Int) (a0_1 : Int) (a0_2 : List Nat) (a0_3 : Int) (a1 : Int) : Option (Int × Int × (List Nat) × Int) :=
  some (a0_0, a0_1, a0_2, a1)

theorem gogeom_Polygon_SetSRID_sim {k : Nat} {wa0 : Addr} (a0_0 : Int) (a0_1 : Int) (a0_2 : List Nat) (a0_3 : Int) (a1 : Int) {out : Int × Int × (List Nat) × Int} (hp : gogeom_Polygon_SetSRID k a0_0 a0_1 a0_2 a0_3 a1 = some out) : Go.Sx.Fn Try.prog 93 [(Vl (.pointer (some wa0))), (Vl (.int .i64 a1))] [⟨.pointer (some wa0), [(Vl (.int .i64 a0_0)), (Vl (.int .i64 a0_1)), (Sl Kf a0_2), (Vl (.int .i64 a0_3)), (Vl (.slice none 0 0))], 155, none⟩] (fun w : Unit => (Vl (.pointer (some wa0)))) (fun w => [⟨.pointer (some wa0), [(Vl (.int .i64 out.1)), (Vl (.int .i64 out.2.1)), (Sl Kf out.2.2.1), (Vl (.int .i64 out.2.2.2)), (Vl (.slice none 0 0))], 155, none⟩]) := by
  unfold gogeom_Polygon_SetSRID at hp
  refine fn_of Try.func93 rfl Try.ntmps93 rfl fun E hM => ?_
  refine cx_seq' fun K1 hK1 => ?_
  refine cx_region' ?_
  refine sx_rd' (rd_assign' rfl) rfl rfl (wt_none' rfl) ?_
  refine sx_nil' ?_
  show TX E K1 _
  refine tx_k' hK1 ?_
  refine cx_seq' fun K2 hK2 => ?_
  refine cx_region' ?_
  refine sx_rd' (rd_move' rfl) rfl rfl (wt_none' rfl) ?_
  refine sx_rd' (rd_move' rfl) rfl rfl (wt_none' rfl) ?_
  refine sx_rd' (rd_nilck' rfl) rfl rfl (wt_none' rfl) ?_
  refine sx_rd' (rd_field0' rfl Try.underlying155 rfl info153 rfl) rfl rfl (wt_none' rfl) ?_
  refine sx_rd' (rd_field0' rfl Try.underlying153 rfl info149 rfl) rfl rfl (wt_none' rfl) ?_
  refine sx_rd' (rd_field0' rfl Try.underlying149 rfl info112 rfl) rfl rfl (wt_none' rfl) ?_
  refine sx_rd' (rd_field' (off := 3) rfl Try.underlying112 rfl info3 rfl) rfl rfl (wt_none' rfl) ?_
  refine sx_ox' (ox_store' (i := 0) (o := 3) rfl rfl (lv_vl rfl rfl) ⟨rfl, rfl, rfl, rfl⟩ rfl info3 rfl (H' := [⟨.pointer (some wa0), [(Vl (.int .i64 a0_0)), (Vl (.int .i64 a0_1)), (Sl Kf a0_2), (Vl (.int .i64 a1)), (Vl (.slice none 0 0))], 155, none⟩]) rfl) (wt_none' rfl) fun _ => ?_
  refine sx_nil' ?_
  show TX E K2 _
  refine tx_k' hK2 ?_
  refine cx_seq' fun K3 hK3 => ?_
  refine cx_region' ?_
  refine sx_rd' (rd_move' rfl) rfl rfl (wt_none' rfl) ?_
  refine sx_rd' (rd_assign' rfl) rfl rfl (wt_none' rfl) ?_
  refine sx_nil' ?_
  show TX E K3 _
  refine tx_k' hK3 ?_
  refine cx_retc' ?_
  replace hp := Option.some.inj hp
  subst hp
  refine tx_pick' (L' := [(4, (Vl (.pointer (some wa0))))]) (H' := [⟨.pointer (some wa0), [(Vl (.int .i64 a0_0)), (Vl (.int .i64 a0_1)), (Sl Kf a0_2), (Vl (.int .i64 a1)), (Vl (.slice none 0 0))], 155, none⟩]) [0] (sub_cons rfl sub_nil) (by decide) (pick_cons rfl pick_nil) ?_
  exact tx_ret1' Try.results93 rfl () (rv_tmp' rfl) (List.Sublist.refl _)

def gogeom_NewPolygonFlat_v2 (k : Nat) (a0 : Int) (a1 : List Nat) (a2 : List Int) : Option (Int × Int × (List Nat) × Int × (List Int)) :=
  (gogeom_Layout_Stride k a0) >>= fun r18 =>
  some (a0, r18, a1, 0, a2)

theorem gogeom_NewPolygonFlat_v2_sim {k : Nat}  (a0 : Int) (a1 : List Nat) (a2 : List Int) {out : Int × Int × (List Nat) × Int × (List Int)} (hp : gogeom_NewPolygonFlat_v2 k a0 a1 a2 = some out) : Go.Sx.Fn Try.prog 92 [(Vl (.int .i64 a0)), (Sl Kf a1), (Sl (Ki .i64) a2)] [] (fun w : Addr => (Vl (.pointer (some w)))) (fun w => [⟨.pointer (some w), [(Vl (.int .i64 out.1)), (Vl (.int .i64 out.2.1)), (Sl Kf out.2.2.1), (Vl (.int .i64 out.2.2.2.1)), (Sl (Ki .i64) out.2.2.2.2)], 155, none⟩]) := by
  unfold gogeom_NewPolygonFlat_v2 at hp
  refine fn_of Try.func92 rfl Try.ntmps92 rfl fun E hM => ?_
  refine cx_seq' fun K1 hK1 => ?_
  refine cx_region' ?_
  refine sx_rd' (rd_assign' rfl) rfl rfl (wt_none' rfl) ?_
  refine sx_nil' ?_
  show TX E K1 _
  refine tx_k' hK1 ?_
  refine cx_seq' fun K2 hK2 => ?_
  refine cx_region' ?_
  refine sx_ox' (ox_alloc' info155 rfl rfl rfl rfl (l := [(Vl (.int .i64 0)), (Vl (.int .i64 0)), (Vl (.slice none 0 0)), (Vl (.int .i64 0)), (Vl (.slice none 0 0))]) rfl) (wt_none' rfl) fun q8 => ?_
  refine sx_rd' (rd_assign' rfl) rfl rfl (wt_none' rfl) ?_
  refine sx_nil' ?_
  show TX E K2 _
  refine tx_k' hK2 ?_
  refine cx_seq' fun K3 hK3 => ?_
  refine cx_region' ?_
  refine sx_rd' (rd_move' rfl) rfl rfl (wt_none' rfl) ?_
  refine sx_rd' (rd_move' rfl) rfl rfl (wt_none' rfl) ?_
  refine sx_rd' (rd_nilck' rfl) rfl rfl (wt_none' rfl) ?_
  refine sx_rd' (rd_field0' rfl Try.underlying155 rfl info153 rfl) rfl rfl (wt_none' rfl) ?_
  refine sx_rd' (rd_field0' rfl Try.underlying153 rfl info149 rfl) rfl rfl (wt_none' rfl) ?_
  refine sx_rd' (rd_field0' rfl Try.underlying149 rfl info112 rfl) rfl rfl (wt_none' rfl) ?_
  refine sx_rd' (rd_field0' rfl Try.underlying112 rfl info65 rfl) rfl rfl (wt_none' rfl) ?_
  refine sx_ox' (ox_store' (i := 0) (o := 0) rfl rfl (lv_vl rfl rfl) ⟨rfl, rfl, rfl, rfl⟩ rfl info65 rfl (H' := [⟨.pointer (some q8), [(Vl (.int .i64 a0)), (Vl (.int .i64 0)), (Vl (.slice none 0 0)), (Vl (.int .i64 0)), (Vl (.slice none 0 0))], 155, none⟩]) rfl) (wt_none' rfl) fun _ => ?_
  refine sx_nil' ?_
  show TX E K3 _
  refine tx_k' hK3 ?_
  refine cx_seq' fun K4 hK4 => ?_
  refine cx_region' ?_
  refine sx_rd' (rd_move' rfl) rfl rfl (wt_none' rfl) ?_
  refine sx_rd' (rd_move' rfl) rfl rfl (wt_none' rfl) ?_
  obtain ⟨r18, hr18, hp⟩ := bind_some hp
  refine sx_ox' (ox_calln' (ent_fn' Try.func80 isn80 rfl rfl) (gogeom_Layout_Stride_sim _ hr18 : Go.Sx.Fn Try.prog 80 [(Vl (.int .i64 a0))] [] (fun x : Unit => (Vl (.int .i64 r18))) (fun x => [])) (Hn := fun x : Unit => [⟨.pointer (some q8), [(Vl (.int .i64 a0)), (Vl (.int .i64 0)), (Vl (.slice none 0 0)), (Vl (.int .i64 0)), (Vl (.slice none 0 0))], 155, none⟩]) (fun _ => rfl) rfl rfl) (wt_none' rfl) fun ⟨⟩ => ?_
  refine sx_rd' (rd_nilck' rfl) rfl rfl (wt_none' rfl) ?_
  refine sx_rd' (rd_field0' rfl Try.underlying155 rfl info153 rfl) rfl rfl (wt_none' rfl) ?_
  refine sx_rd' (rd_field0' rfl Try.underlying153 rfl info149 rfl) rfl rfl (wt_none' rfl) ?_
  refine sx_rd' (rd_field0' rfl Try.underlying149 rfl info112 rfl) rfl rfl (wt_none' rfl) ?_
  refine sx_rd' (rd_field' (off := 1) rfl Try.underlying112 rfl info3 rfl) rfl rfl (wt_none' rfl) ?_
  refine sx_ox' (ox_store' (i := 0) (o := 1) rfl rfl (lv_vl rfl rfl) ⟨rfl, rfl, rfl, rfl⟩ rfl info3 rfl (H' := [⟨.pointer (some q8), [(Vl (.int .i64 a0)), (Vl (.int .i64 r18)), (Vl (.slice none 0 0)), (Vl (.int .i64 0)), (Vl (.slice none 0 0))], 155, none⟩]) rfl) (wt_none' rfl) fun _ => ?_
  refine sx_nil' ?_
  show TX E K4 _
  refine tx_k' hK4 ?_
  refine cx_seq' fun K5 hK5 => ?_
  refine cx_region' ?_
  refine sx_rd' (rd_move' rfl) rfl rfl (wt_none' rfl) ?_
  refine sx_rd' (rd_move' rfl) rfl rfl (wt_none' rfl) ?_
  refine sx_rd' (rd_nilck' rfl) rfl rfl (wt_none' rfl) ?_
  refine sx_rd' (rd_field0' rfl Try.underlying155 rfl info153 rfl) rfl rfl (wt_none' rfl) ?_
  refine sx_rd' (rd_field0' rfl Try.underlying153 rfl info149 rfl) rfl rfl (wt_none' rfl) ?_
  refine sx_rd' (rd_field0' rfl Try.underlying149 rfl info112 rfl) rfl rfl (wt_none' rfl) ?_
  refine sx_rd' (rd_field' (off := 2) rfl Try.underlying112 rfl info22 rfl) rfl rfl (wt_none' rfl) ?_
  refine sx_ox' (ox_store' (i := 0) (o := 2) rfl rfl (lv_sl _ _) ⟨rfl, rfl, rfl, rfl⟩ rfl info22 rfl (H' := [⟨.pointer (some q8), [(Vl (.int .i64 a0)), (Vl (.int .i64 r18)), (Sl Kf a1), (Vl (.int .i64 0)), (Vl (.slice none 0 0))], 155, none⟩]) rfl) (wt_none' rfl) fun _ => ?_
  refine sx_nil' ?_
  show TX E K5 _
  refine tx_k' hK5 ?_
  refine cx_seq' fun K6 hK6 => ?_
  refine cx_region' ?_
  refine sx_rd' (rd_move' rfl) rfl rfl (wt_none' rfl) ?_
  refine sx_rd' (rd_move' rfl) rfl rfl (wt_none' rfl) ?_
  refine sx_rd' (rd_nilck' rfl) rfl rfl (wt_none' rfl) ?_
  refine sx_rd' (rd_field0' rfl Try.underlying155 rfl info153 rfl) rfl rfl (wt_none' rfl) ?_
  refine sx_rd' (rd_field' (off := 4) rfl Try.underlying153 rfl info23 rfl) rfl rfl (wt_none' rfl) ?_
  refine sx_ox' (ox_store' (i := 0) (o := 4) rfl rfl (lv_sl _ _) ⟨rfl, rfl, rfl, rfl⟩ rfl info23 rfl (H' := [⟨.pointer (some q8), [(Vl (.int .i64 a0)), (Vl (.int .i64 r18)), (Sl Kf a1), (Vl (.int .i64 0)), (Sl (Ki .i64) a2)], 155, none⟩]) rfl) (wt_none' rfl) fun _ => ?_
  refine sx_nil' ?_
  show TX E K6 _
  refine tx_k' hK6 ?_
  refine cx_seq' fun K7 hK7 => ?_
  refine cx_region' ?_
  refine sx_rd' (rd_move' rfl) rfl rfl (wt_none' rfl) ?_
  refine sx_rd' (rd_assign' rfl) rfl rfl (wt_none' rfl) ?_
  refine sx_nil' ?_
  show TX E K7 _
  refine tx_k' hK7 ?_
  refine cx_retc' ?_
  replace hp := Option.some.inj hp
  subst hp
  refine tx_pick' (L' := [(6, (Vl (.pointer (some q8))))]) (H' := [⟨.pointer (some q8), [(Vl (.int .i64 a0)), (Vl (.int .i64 r18)), (Sl Kf a1), (Vl (.int .i64 0)), (Sl (Ki .i64) a2)], 155, none⟩]) [0] (sub_cons rfl sub_nil) (by decide) (pick_cons rfl pick_nil) ?_
  exact tx_ret1' Try.results92 rfl q8 (rv_tmp' rfl) (List.Sublist.refl _)

def gogeom_Polygon_SetSRID_v2 (k : Nat) (a0_0 : Int) (a0_1 : Int) (a0_2 : List Nat) (a0_3 : Int) (a0_4 : List Int) (a1 : Int) : Option (Int × Int × (List Nat) × Int × (List Int)) :=
  some (a0_0, a0_1, a0_2, a1, a0_4)

theorem gogeom_Polygon_SetSRID_v2_sim {k : Nat} {wa0 : Addr} (a0_0 : Int) (a0_1 : Int) (a0_2 : List Nat) (a0_3 : Int) (a0_4 : List Int) (a1 : Int) {out : Int × Int × (List Nat) × Int × (List Int)} (hp : gogeom_Polygon_SetSRID_v2 k a0_0 a0_1 a0_2 a0_3 a0_4 a1 = some out) : Go.Sx.Fn Try.prog 93 [(Vl (.pointer (some wa0))), (Vl (.int .i64 a1))] [⟨.pointer (some wa0), [(Vl (.int .i64 a0_0)), (Vl (.int .i64 a0_1)), (Sl Kf a0_2), (Vl (.int .i64 a0_3)), (Sl (Ki .i64) a0_4)], 155, none⟩] (fun w : Unit => (Vl (.pointer (some wa0)))) (fun w => [⟨.pointer (some wa0), [(Vl (.int .i64 out.1)), (Vl (.int .i64 out.2.1)), (Sl Kf out.2.2.1), (Vl (.int .i64 out.2.2.2.1)), (Sl (Ki .i64) out.2.2.2.2)], 155, none⟩]) := by
  unfold gogeom_Polygon_SetSRID_v2 at hp
  refine fn_of Try.func93 rfl Try.ntmps93 rfl fun E hM => ?_
  refine cx_seq' fun K1 hK1 => ?_
  refine cx_region' ?_
  refine sx_rd' (rd_assign' rfl) rfl rfl (wt_none' rfl) ?_
  refine sx_nil' ?_
  show TX E K1 _
  refine tx_k' hK1 ?_
  refine cx_seq' fun K2 hK2 => ?_
  refine cx_region' ?_
  refine sx_rd' (rd_move' rfl) rfl rfl (wt_none' rfl) ?_
  refine sx_rd' (rd_move' rfl) rfl rfl (wt_none' rfl) ?_
  refine sx_rd' (rd_nilck' rfl) rfl rfl (wt_none' rfl) ?_
  refine sx_rd' (rd_field0' rfl Try.underlying155 rfl info153 rfl) rfl rfl (wt_none' rfl) ?_
  refine sx_rd' (rd_field0' rfl Try.underlying153 rfl info149 rfl) rfl rfl (wt_none' rfl) ?_
  refine sx_rd' (rd_field0' rfl Try.underlying149 rfl info112 rfl) rfl rfl (wt_none' rfl) ?_
  refine sx_rd' (rd_field' (off := 3) rfl Try.underlying112 rfl info3 rfl) rfl rfl (wt_none' rfl) ?_
  refine sx_ox' (ox_store' (i := 0) (o := 3) rfl rfl (lv_vl rfl rfl) ⟨rfl, rfl, rfl, rfl⟩ rfl info3 rfl (H' := [⟨.pointer (some wa0), [(Vl (.int .i64 a0_0)), (Vl (.int .i64 a0_1)), (Sl Kf a0_2), (Vl (.int .i64 a1)), (Sl (Ki .i64) a0_4)], 155, none⟩]) rfl) (wt_none' rfl) fun _ => ?_
  refine sx_nil' ?_
  show TX E K2 _
  refine tx_k' hK2 ?_
  refine cx_seq' fun K3 hK3 => ?_
  refine cx_region' ?_
  refine sx_rd' (rd_move' rfl) rfl rfl (wt_none' rfl) ?_
  refine sx_rd' (rd_assign' rfl) rfl rfl (wt_none' rfl) ?_
  refine sx_nil' ?_
  show TX E K3 _
  refine tx_k' hK3 ?_
  refine cx_retc' ?_
  replace hp := Option.some.inj hp
  subst hp
  refine tx_pick' (L' := [(4, (Vl (.pointer (some wa0))))]) (H' := [⟨.pointer (some wa0), [(Vl (.int .i64 a0_0)), (Vl (.int .i64 a0_1)), (Sl Kf a0_2), (Vl (.int .i64 a1)), (Sl (Ki .i64) a0_4)], 155, none⟩]) [0] (sub_cons rfl sub_nil) (by decide) (pick_cons rfl pick_nil) ?_
  exact tx_ret1' Try.results93 rfl () (rv_tmp' rfl) (List.Sublist.refl _)

def gogeom_NewMultiPointFlatOptionWithEnds (k : Nat)  : Option (Unit) :=
  some ()

theorem gogeom_NewMultiPointFlatOptionWithEnds_sim {k : Nat}   {out : Unit} (hp : gogeom_NewMultiPointFlatOptionWithEnds k = some out) : Go.Sx.Fn Try.prog 95 [(Vl (.slice none 0 0))] [] (fun w : Addr => (Vl (.func (.func 115) #[] ⟨[.pointer (some w)]⟩))) (fun w => [⟨.pointer (some w), [(Vl (.slice none 0 0))], 23, none⟩]) := by
  unfold gogeom_NewMultiPointFlatOptionWithEnds at hp
  refine fn_of Try.func95 rfl Try.ntmps95 rfl fun E hM => ?_
  refine cx_seq' fun K1 hK1 => ?_
  refine cx_region' ?_
  refine sx_ox' (ox_box' rfl (lv_vl rfl rfl) rfl rfl) (wt_none' rfl) fun q1 => ?_
  refine sx_rd' (rd_assign' rfl) rfl rfl (wt_none' rfl) ?_
  refine sx_nil' ?_
  show TX E K1 _
  refine tx_k' hK1 ?_
  refine cx_seq' fun K2 hK2 => ?_
  refine cx_region' ?_
  refine sx_rd' (rd_mkfunc' (us := [.pointer (some q1)]) rfl) rfl rfl (wt_none' rfl) ?_
  refine sx_rd' (rd_assign' rfl) rfl rfl (wt_none' rfl) ?_
  refine sx_nil' ?_
  show TX E K2 _
  refine tx_k' hK2 ?_
  refine cx_retc' ?_
  replace hp := Option.some.inj hp
  subst hp
  refine tx_pick' (L' := [(2, (Vl (.func (.func 115) #[] ⟨[.pointer (some q1)]⟩)))]) (H' := [⟨.pointer (some q1), [(Vl (.slice none 0 0))], 23, none⟩]) [0] (sub_cons rfl sub_nil) (by decide) (pick_cons rfl pick_nil) ?_
  exact tx_ret1' Try.results95 rfl q1 (rv_tmp' rfl) (List.Sublist.refl _)

def gogeom_NewMultiPointFlatOptionWithEnds_1 (k : Nat) (a0_0 : Int) (a0_1 : Int) (a0_2 : List Nat) (a0_3 : Int) : Option (Int × Int × (List Nat) × Int) :=
  some (a0_0, a0_1, a0_2, a0_3)

theorem gogeom_NewMultiPointFlatOptionWithEnds_1_sim {k : Nat} {wa0 : Addr} {wa1 : Addr} (a0_0 : Int) (a0_1 : Int) (a0_2 : List Nat) (a0_3 : Int) {out : Int × Int × (List Nat) × Int} (hp : gogeom_NewMultiPointFlatOptionWithEnds_1 k a0_0 a0_1 a0_2 a0_3 = some out) : Go.Sx.Fn Try.prog 115 [(Vl (.pointer (some wa0))), (Vl (.pointer (some wa1)))] [⟨.pointer (some wa0), [(Vl (.int .i64 a0_0)), (Vl (.int .i64 a0_1)), (Sl Kf a0_2), (Vl (.int .i64 a0_3)), (Vl (.slice none 0 0))], 158, none⟩, ⟨.pointer (some wa1), [(Vl (.slice none 0 0))], 23, none⟩] (fun w : Unit => (Vl (.tuple #[]))) (fun w => [⟨.pointer (some wa0), [(Vl (.int .i64 out.1)), (Vl (.int .i64 out.2.1)), (Sl Kf out.2.2.1), (Vl (.int .i64 out.2.2.2)), (Vl (.slice none 0 0))], 158, none⟩, ⟨.pointer (some wa1), [(Vl (.slice none 0 0))], 23, none⟩]) := by
  unfold gogeom_NewMultiPointFlatOptionWithEnds_1 at hp
  refine fn_of Try.func115 rfl Try.ntmps115 rfl fun E hM => ?_
  refine cx_region' ?_
  refine sx_rd' (rd_move' rfl) rfl rfl (wt_none' rfl) ?_
  refine sx_rd' (rd_load' (i := 1) (o := 0) rfl ⟨rfl, rfl, rfl, rfl⟩ rfl flat23) rfl rfl (wt_none' rfl) ?_
  refine sx_rd' (rd_nilck' rfl) rfl rfl (wt_none' rfl) ?_
  refine sx_rd' (rd_field0' rfl Try.underlying158 rfl info153 rfl) rfl rfl (wt_none' rfl) ?_
  refine sx_rd' (rd_field' (off := 4) rfl Try.underlying153 rfl info23 rfl) rfl rfl (wt_none' rfl) ?_
  refine sx_ox' (ox_store' (i := 0) (o := 4) rfl rfl (lv_vl rfl rfl) ⟨rfl, rfl, rfl, rfl⟩ rfl info23 rfl (H' := [⟨.pointer (some wa0), [(Vl (.int .i64 a0_0)), (Vl (.int .i64 a0_1)), (Sl Kf a0_2), (Vl (.int .i64 a0_3)), (Vl (.slice none 0 0))], 158, none⟩, ⟨.pointer (some wa1), [(Vl (.slice none 0 0))], 23, none⟩]) rfl) (wt_none' rfl) fun _ => ?_
  refine sx_nil' ?_
  replace hp := Option.some.inj hp
  subst hp
  refine tx_pick' (L' := []) (H' := [⟨.pointer (some wa0), [(Vl (.int .i64 a0_0)), (Vl (.int .i64 a0_1)), (Sl Kf a0_2), (Vl (.int .i64 a0_3)), (Vl (.slice none 0 0))], 158, none⟩, ⟨.pointer (some wa1), [(Vl (.slice none 0 0))], 23, none⟩]) [0, 1] sub_nil (by decide) (pick_cons rfl (pick_cons rfl pick_nil)) ?_
  exact tx_end0' Try.results115 rfl () rfl (List.Sublist.refl _)

def gogeom_NewMultiPointFlat_j2 (k : Nat) (r901 : Int × Int × (List Nat) × Int) (x5 : List Int) : Option (Int × Int × (List Nat) × Int × (List Int)) :=
  some (r901.1, r901.2.1, r901.2.2.1, r901.2.2.2, x5)
def gogeom_NewMultiPointFlat_l1s (x1 : Int) (r901 : Int × Int × (List Nat) × Int) (k : Nat) (rec1 : ((List Int) × Int) → Option ((List Int))) (x2 : List Int) (x3 : Int) : Option ((List Int)) :=
  br (decide (x3 < x1))
    ((idx x2 x3) >>= fun r106 =>
    rec1 ((x2.set x3.toNat (imul .i64 (iadd .i64 x3 1) r901.2.1)), (iadd .i64 x3 1)))
    (some x2)
def gogeom_NewMultiPointFlat_l1 (x1 : Int) (r901 : Int × Int × (List Nat) × Int) : Nat → ((List Int) × Int) → Option ((List Int))
  | 0, _ => none
  | k + 1, v => gogeom_NewMultiPointFlat_l1s x1 r901 k (gogeom_NewMultiPointFlat_l1 x1 r901 k) v.1 v.2
def gogeom_NewMultiPointFlat_j1 (k : Nat) (r901 : Int × Int × (List Nat) × Int) (x1 : Int) : Option (Int × Int × (List Nat) × Int × (List Int)) :=
  (mk 8 0 x1 x1) >>= fun r82 =>
  (gogeom_NewMultiPointFlat_l1 x1 r901 k (r82, 0)) >>= fun v3 =>
  gogeom_NewMultiPointFlat_j2 k r901 v3
def gogeom_NewMultiPointFlat (k : Nat) (a0 : Int) (a1 : List Nat) : Option (Int × Int × (List Nat) × Int × (List Int)) :=
  (gogeom_Layout_Stride k a0) >>= fun r22 =>
  (gogeom_NewMultiPointFlatOptionWithEnds_1 k a0 r22 a1 0) >>= fun r901 =>
  br (decide (0 < (r901.2.2.1.length : Int)))
    (br (decide (0 < r901.2.1))
      ((iquo .i64 (a1.length : Int) r901.2.1) >>= fun r79 =>
      gogeom_NewMultiPointFlat_j1 k r901 r79)
      (gogeom_NewMultiPointFlat_j1 k r901 0))
    (gogeom_NewMultiPointFlat_j2 k r901 [])

theorem gogeom_NewMultiPointFlat_sim {k : Nat} {wa2 : Addr} {wa2_0_0 : Addr} (a0 : Int) (a1 : List Nat) {out : Int × Int × (List Nat) × Int × (List Int)} (hp : gogeom_NewMultiPointFlat k a0 a1 = some out) : Go.Sx.Fn Try.prog 94 [(Vl (.int .i64 a0)), (Sl Kf a1), (Vl (.slice (some wa2) 1 1))] [⟨.slice (some wa2) 1 1, [(Vl (.func (.func 115) #[] ⟨[.pointer (some wa2_0_0)]⟩))], 133, some 1⟩, ⟨.pointer (some wa2_0_0), [(Vl (.slice none 0 0))], 23, none⟩] (fun w : Addr × Gs => (Vl (.pointer (some w.1)))) (fun w => [⟨.pointer (some wa2_0_0), [(Vl (.slice none 0 0))], 23, none⟩, ⟨.pointer (some w.1), [(Vl (.int .i64 out.1)), (Vl (.int .i64 out.2.1)), (Sl Kf out.2.2.1), (Vl (.int .i64 out.2.2.2.1)), (Vl (Vs w.2))], 158, none⟩, (Rw (Ki .i64) 3 (Vs w.2) out.2.2.2.2)]) := by
  unfold gogeom_NewMultiPointFlat at hp
  refine fn_of Try.func94 rfl Try.ntmps94 rfl fun E hM => ?_
  refine cx_seq' fun K1 hK1 => ?_
  refine cx_region' ?_
  refine sx_rd' (rd_assign' rfl) rfl rfl (wt_none' rfl) ?_
  refine sx_nil' ?_
  show TX E K1 _
  refine tx_k' hK1 ?_
  refine cx_seq' fun K2 hK2 => ?_
  refine cx_region' ?_
  refine sx_ox' (ox_alloc' info158 rfl rfl rfl rfl (l := [(Vl (.int .i64 0)), (Vl (.int .i64 0)), (Vl (.slice none 0 0)), (Vl (.int .i64 0)), (Vl (.slice none 0 0))]) rfl) (wt_none' rfl) fun q12 => ?_
  refine sx_rd' (rd_assign' rfl) rfl rfl (wt_none' rfl) ?_
  refine sx_nil' ?_
  show TX E K2 _
  refine tx_k' hK2 ?_
  refine cx_seq' fun K3 hK3 => ?_
  refine cx_region' ?_
  refine sx_rd' (rd_move' rfl) rfl rfl (wt_none' rfl) ?_
  refine sx_rd' (rd_move' rfl) rfl rfl (wt_none' rfl) ?_
  refine sx_rd' (rd_nilck' rfl) rfl rfl (wt_none' rfl) ?_
  refine sx_rd' (rd_field0' rfl Try.underlying158 rfl info153 rfl) rfl rfl (wt_none' rfl) ?_
  refine sx_rd' (rd_field0' rfl Try.underlying153 rfl info149 rfl) rfl rfl (wt_none' rfl) ?_
  refine sx_rd' (rd_field0' rfl Try.underlying149 rfl info112 rfl) rfl rfl (wt_none' rfl) ?_
  refine sx_rd' (rd_field0' rfl Try.underlying112 rfl info65 rfl) rfl rfl (wt_none' rfl) ?_
  refine sx_ox' (ox_store' (i := 0) (o := 0) rfl rfl (lv_vl rfl rfl) ⟨rfl, rfl, rfl, rfl⟩ rfl info65 rfl (H' := [⟨.pointer (some q12), [(Vl (.int .i64 a0)), (Vl (.int .i64 0)), (Vl (.slice none 0 0)), (Vl (.int .i64 0)), (Vl (.slice none 0 0))], 158, none⟩, ⟨.slice (some wa2) 1 1, [(Vl (.func (.func 115) #[] ⟨[.pointer (some wa2_0_0)]⟩))], 133, some 1⟩, ⟨.pointer (some wa2_0_0), [(Vl (.slice none 0 0))], 23, none⟩]) rfl) (wt_none' rfl) fun _ => ?_
  refine sx_nil' ?_
  show TX E K3 _
  refine tx_k' hK3 ?_
  refine cx_seq' fun K4 hK4 => ?_
  refine cx_region' ?_
  refine sx_rd' (rd_move' rfl) rfl rfl (wt_none' rfl) ?_
  refine sx_rd' (rd_move' rfl) rfl rfl (wt_none' rfl) ?_
  obtain ⟨r22, hr22, hp⟩ := bind_some hp
  refine sx_ox' (ox_calln' (ent_fn' Try.func80 isn80 rfl rfl) (gogeom_Layout_Stride_sim _ hr22 : Go.Sx.Fn Try.prog 80 [(Vl (.int .i64 a0))] [] (fun x : Unit => (Vl (.int .i64 r22))) (fun x => [])) (Hn := fun x : Unit => [⟨.pointer (some q12), [(Vl (.int .i64 a0)), (Vl (.int .i64 0)), (Vl (.slice none 0 0)), (Vl (.int .i64 0)), (Vl (.slice none 0 0))], 158, none⟩, ⟨.slice (some wa2) 1 1, [(Vl (.func (.func 115) #[] ⟨[.pointer (some wa2_0_0)]⟩))], 133, some 1⟩, ⟨.pointer (some wa2_0_0), [(Vl (.slice none 0 0))], 23, none⟩]) (fun _ => rfl) rfl rfl) (wt_none' rfl) fun ⟨⟩ => ?_
  refine sx_rd' (rd_nilck' rfl) rfl rfl (wt_none' rfl) ?_
  refine sx_rd' (rd_field0' rfl Try.underlying158 rfl info153 rfl) rfl rfl (wt_none' rfl) ?_
  refine sx_rd' (rd_field0' rfl Try.underlying153 rfl info149 rfl) rfl rfl (wt_none' rfl) ?_
  refine sx_rd' (rd_field0' rfl Try.underlying149 rfl info112 rfl) rfl rfl (wt_none' rfl) ?_
  refine sx_rd' (rd_field' (off := 1) rfl Try.underlying112 rfl info3 rfl) rfl rfl (wt_none' rfl) ?_
  refine sx_ox' (ox_store' (i := 0) (o := 1) rfl rfl (lv_vl rfl rfl) ⟨rfl, rfl, rfl, rfl⟩ rfl info3 rfl (H' := [⟨.pointer (some q12), [(Vl (.int .i64 a0)), (Vl (.int .i64 r22)), (Vl (.slice none 0 0)), (Vl (.int .i64 0)), (Vl (.slice none 0 0))], 158, none⟩, ⟨.slice (some wa2) 1 1, [(Vl (.func (.func 115) #[] ⟨[.pointer (some wa2_0_0)]⟩))], 133, some 1⟩, ⟨.pointer (some wa2_0_0), [(Vl (.slice none 0 0))], 23, none⟩]) rfl) (wt_none' rfl) fun _ => ?_
  refine sx_nil' ?_
  show TX E K4 _
  refine tx_k' hK4 ?_
  refine cx_seq' fun K5 hK5 => ?_
  refine cx_region' ?_
  refine sx_rd' (rd_move' rfl) rfl rfl (wt_none' rfl) ?_
  refine sx_rd' (rd_move' rfl) rfl rfl (wt_none' rfl) ?_
  refine sx_rd' (rd_nilck' rfl) rfl rfl (wt_none' rfl) ?_
  refine sx_rd' (rd_field0' rfl Try.underlying158 rfl info153 rfl) rfl rfl (wt_none' rfl) ?_
  refine sx_rd' (rd_field0' rfl Try.underlying153 rfl info149 rfl) rfl rfl (wt_none' rfl) ?_
  refine sx_rd' (rd_field0' rfl Try.underlying149 rfl info112 rfl) rfl rfl (wt_none' rfl) ?_
  refine sx_rd' (rd_field' (off := 2) rfl Try.underlying112 rfl info22 rfl) rfl rfl (wt_none' rfl) ?_
  refine sx_ox' (ox_store' (i := 0) (o := 2) rfl rfl (lv_sl _ _) ⟨rfl, rfl, rfl, rfl⟩ rfl info22 rfl (H' := [⟨.pointer (some q12), [(Vl (.int .i64 a0)), (Vl (.int .i64 r22)), (Sl Kf a1), (Vl (.int .i64 0)), (Vl (.slice none 0 0))], 158, none⟩, ⟨.slice (some wa2) 1 1, [(Vl (.func (.func 115) #[] ⟨[.pointer (some wa2_0_0)]⟩))], 133, some 1⟩, ⟨.pointer (some wa2_0_0), [(Vl (.slice none 0 0))], 23, none⟩]) rfl) (wt_none' rfl) fun _ => ?_
  refine sx_nil' ?_
  show TX E K5 _
  refine tx_k' hK5 ?_
  refine cx_seq' fun K6 hK6 => ?_
  refine cx_seq' fun K7 hK7 => ?_
  refine cx_region' ?_
  refine sx_rd' (rd_move' rfl) rfl rfl (wt_none' rfl) ?_
  refine sx_rd' (rd_lenv' rfl Try.underlying177) rfl rfl (wt_none' rfl) ?_
  refine sx_rd' (rd_move' rfl) rfl rfl (wt_none' rfl) ?_
  refine sx_nil' ?_
  show TX E K7 _
  refine tx_k' hK7 ?_
  refine cx_block' ?_
  refine tx_loop' ?_
  refine tx_round' ?_
  refine cx_seq' fun K8 hK8 => ?_
  refine cx_region' ?_
  refine sx_rd' (rd_bin' rfl rfl eg_int ru_lss) rfl rfl (wt_none' rfl) ?_
  refine sx_nil' ?_
  show TX E K8 _
  refine tx_k' hK8 ?_
  refine cx_seq' fun K9 hK9 => ?_
  refine cx_cond_t' rfl rfl ?_
  refine cx_skip' ?_
  show TX E K9 _
  refine tx_k' hK9 ?_
  refine cx_seq' fun K10 hK10 => ?_
  refine cx_block' ?_
  refine cx_seq' fun K11 hK11 => ?_
  refine cx_region' ?_
  refine sx_rd' (rd_atv' rfl rfl (by decide) (by decide) Try.underlying177 info133) rfl rfl (wt_none' rfl) ?_
  refine sx_rd' (rd_load_row' (i := 1) (o := 0) rfl ⟨rfl, rfl, rfl⟩ rfl flat133) rfl rfl (wt_none' rfl) ?_
  refine sx_rd' (rd_assign' rfl) rfl rfl (wt_none' rfl) ?_
  refine sx_nil' ?_
  show TX E K11 _
  refine tx_k' hK11 ?_
  refine cx_region' ?_
  refine sx_rd' (rd_move' rfl) rfl rfl (wt_none' rfl) ?_
  refine sx_rd' (rd_move' rfl) rfl rfl (wt_none' rfl) ?_
  obtain ⟨r901, hr901, hp⟩ := bind_some hp
  refine sx_ox' (ox_callg' (ent_clo' (us := [.pointer (some wa2_0_0)]) rfl Try.func115 isn115 rfl rfl) (gogeom_NewMultiPointFlatOptionWithEnds_1_sim _ _ _ _ hr901 : Go.Sx.Fn Try.prog 115 [(Vl (.pointer (some q12))), (Vl (.pointer (some wa2_0_0)))] [⟨.pointer (some q12), [(Vl (.int .i64 a0)), (Vl (.int .i64 r22)), (Sl Kf a1), (Vl (.int .i64 0)), (Vl (.slice none 0 0))], 158, none⟩, ⟨.pointer (some wa2_0_0), [(Vl (.slice none 0 0))], 23, none⟩] (fun x : Unit => (Vl (.tuple #[]))) (fun x => [⟨.pointer (some q12), [(Vl (.int .i64 r901.1)), (Vl (.int .i64 r901.2.1)), (Sl Kf r901.2.2.1), (Vl (.int .i64 r901.2.2.2)), (Vl (.slice none 0 0))], 158, none⟩, ⟨.pointer (some wa2_0_0), [(Vl (.slice none 0 0))], 23, none⟩])) [0, 2] [1] (by decide) (pick_cons rfl (pick_cons rfl pick_nil)) (pick_cons rfl pick_nil) (Hn := fun x : Unit => [⟨.pointer (some q12), [(Vl (.int .i64 r901.1)), (Vl (.int .i64 r901.2.1)), (Sl Kf r901.2.2.1), (Vl (.int .i64 r901.2.2.2)), (Vl (.slice none 0 0))], 158, none⟩, ⟨.pointer (some wa2_0_0), [(Vl (.slice none 0 0))], 23, none⟩, ⟨.slice (some wa2) 1 1, [(Vl (.func (.func 115) #[] ⟨[.pointer (some wa2_0_0)]⟩))], 133, some 1⟩]) (fun _ => rfl) rfl rfl) (wt_none' rfl) fun ⟨⟩ => ?_
  refine sx_nil' ?_
  show TX E K10 _
  refine tx_k' hK10 ?_
  refine cx_region' ?_
  refine sx_rd' (rd_bin' rfl rfl eg_int (ru_addc (c := 1) (by decide))) rfl rfl (wt_none' rfl) ?_
  refine sx_rd' (rd_move' rfl) rfl rfl (wt_none' rfl) ?_
  refine sx_nil' ?_
  show TX E (LoopIn _ _ _) _
  refine tx_round' ?_
  refine cx_seq' fun K12 hK12 => ?_
  refine cx_region' ?_
  refine sx_rd' (rd_bin' rfl rfl eg_int ru_lss) rfl rfl (wt_none' rfl) ?_
  refine sx_nil' ?_
  show TX E K12 _
  refine tx_k' hK12 ?_
  refine cx_seq' fun K13 hK13 => ?_
  refine cx_cond_f' rfl rfl ?_
  refine cx_exit' ?_
  show TX E K6 _
  refine tx_k' hK6 ?_
  refine cx_join' (fun (v4 : (List Int) × Gs) => (⟨109, [], [(7, (Vl (.pointer (some q12))))], [⟨.pointer (some q12), [(Vl (.int .i64 r901.1)), (Vl (.int .i64 r901.2.1)), (Sl Kf r901.2.2.1), (Vl (.int .i64 r901.2.2.2)), (Vl (Vs v4.2))], 158, none⟩, (Rw (Ki .i64) 3 (Vs v4.2) v4.1), ⟨.pointer (some wa2_0_0), [(Vl (.slice none 0 0))], 23, none⟩]⟩ : St)) (fun (v4 : (List Int) × Gs) => gogeom_NewMultiPointFlat_j2 k r901 v4.1 = some out) ?_ ?_
  · rintro ⟨x5, g901⟩ hp
    replace hp : gogeom_NewMultiPointFlat_j2 k r901 x5 = some out := hp
    unfold gogeom_NewMultiPointFlat_j2 at hp
    refine cx_seq' fun K29 hK29 => ?_
    refine cx_region' ?_
    refine sx_rd' (rd_move' rfl) rfl rfl (wt_none' rfl) ?_
    refine sx_rd' (rd_assign' rfl) rfl rfl (wt_none' rfl) ?_
    refine sx_nil' ?_
    show TX E K29 _
    refine tx_k' hK29 ?_
    refine cx_retc' ?_
    replace hp := Option.some.inj hp
    subst hp
    refine tx_pick' (L' := [(6, (Vl (.pointer (some q12))))]) (H' := [⟨.pointer (some wa2_0_0), [(Vl (.slice none 0 0))], 23, none⟩, ⟨.pointer (some q12), [(Vl (.int .i64 r901.1)), (Vl (.int .i64 r901.2.1)), (Sl Kf r901.2.2.1), (Vl (.int .i64 r901.2.2.2)), (Vl (Vs g901))], 158, none⟩, (Rw (Ki .i64) 3 (Vs g901) x5)]) [2, 0, 1] (sub_cons rfl sub_nil) (by decide) (pick_cons rfl (pick_cons rfl (pick_cons rfl pick_nil))) ?_
    exact tx_ret1' Try.results94 rfl (q12, g901) (rv_tmp' rfl) (List.Sublist.refl _)
  · intro K14 hK14
    refine cx_seq' fun K15 hK15 => ?_
    refine cx_region' ?_
    refine sx_rd' (rd_move' rfl) rfl rfl (wt_none' rfl) ?_
    refine sx_rd' (rd_nilck' rfl) rfl rfl (wt_none' rfl) ?_
    refine sx_rd' (rd_field0' rfl Try.underlying158 rfl info153 rfl) rfl rfl (wt_none' rfl) ?_
    refine sx_rd' (rd_field' (off := 4) rfl Try.underlying153 rfl info23 rfl) rfl rfl (wt_none' rfl) ?_
    refine sx_rd' (rd_load' (i := 0) (o := 4) rfl ⟨rfl, rfl, rfl, rfl⟩ rfl flat23) rfl rfl (wt_none' rfl) ?_
    refine sx_rd' (rd_binf' rfl rfl (bf_vl (fun _ => by kernel_rfl) nil_eql23_nilsl)) rfl rfl (wt_none' rfl) ?_
    refine sx_rd' (rd_move' rfl) rfl rfl (wt_none' rfl) ?_
    refine sx_rd' (rd_move' rfl) rfl rfl (wt_is' (wt_guard' rfl rfl rfl) (beq_tt rfl)) ?_
    refine sx_rd' (rd_nilck' rfl) rfl rfl (wt_is' (wt_guard' rfl rfl rfl) (beq_tt rfl)) ?_
    refine sx_rd' (rd_field0' rfl Try.underlying158 rfl info153 rfl) rfl rfl (wt_is' (wt_guard' rfl rfl rfl) (beq_tt rfl)) ?_
    refine sx_rd' (rd_field0' rfl Try.underlying153 rfl info149 rfl) rfl rfl (wt_is' (wt_guard' rfl rfl rfl) (beq_tt rfl)) ?_
    refine sx_rd' (rd_field0' rfl Try.underlying149 rfl info112 rfl) rfl rfl (wt_is' (wt_guard' rfl rfl rfl) (beq_tt rfl)) ?_
    refine sx_rd' (rd_field' (off := 2) rfl Try.underlying112 rfl info22 rfl) rfl rfl (wt_is' (wt_guard' rfl rfl rfl) (beq_tt rfl)) ?_
    refine sx_rd' (rd_load' (i := 0) (o := 2) rfl ⟨rfl, rfl, rfl, rfl⟩ rfl flat22) rfl rfl (wt_is' (wt_guard' rfl rfl rfl) (beq_tt rfl)) ?_
    refine sx_rd' (rd_len' rfl Try.underlying22) rfl rfl (wt_is' (wt_guard' rfl rfl rfl) (beq_tt rfl)) ?_
    refine sx_rd' (rd_bin' rfl rfl eg_int ru_gtr) rfl rfl (wt_is' (wt_guard' rfl rfl rfl) (beq_tt rfl)) ?_
    refine sx_rd' (rd_pick_true' rfl rfl rfl) rfl rfl (wt_none' rfl) ?_
    refine sx_nil' ?_
    show TX E K15 _
    refine tx_k' hK15 ?_
    refine cx_cond' rfl (fun h1 => ?_) (fun h1 => ?_)
    · replace hp := (br_t h1).symm.trans hp
      refine cx_seq' fun K16 hK16 => ?_
      refine cx_region' ?_
      refine sx_rd' (rd_assign' rfl) rfl rfl (wt_none' rfl) ?_
      refine sx_nil' ?_
      show TX E K16 _
      refine tx_k' hK16 ?_
      refine cx_join' (fun (v1 : Int) => (⟨109, [], [(7, (Vl (.pointer (some q12)))), (10, (Vl (.int .i64 v1)))], [⟨.pointer (some q12), [(Vl (.int .i64 r901.1)), (Vl (.int .i64 r901.2.1)), (Sl Kf r901.2.2.1), (Vl (.int .i64 r901.2.2.2)), (Vl (.slice none 0 0))], 158, none⟩, ⟨.pointer (some wa2_0_0), [(Vl (.slice none 0 0))], 23, none⟩]⟩ : St)) (fun (v1 : Int) => gogeom_NewMultiPointFlat_j1 k r901 v1 = some out) ?_ ?_
      · rintro x1 hp
        replace hp : gogeom_NewMultiPointFlat_j1 k r901 x1 = some out := hp
        unfold gogeom_NewMultiPointFlat_j1 at hp
        refine cx_seq' fun K19 hK19 => ?_
        refine cx_region' ?_
        refine sx_rd' (rd_move' rfl) rfl rfl (wt_none' rfl) ?_
        refine sx_rd' (rd_move' rfl) rfl rfl (wt_none' rfl) ?_
        obtain ⟨r82, hr82, hp⟩ := bind_some hp
        refine sx_ox' (ox_make' (K := (Ki .i64)) rfl rfl hr82 rfl Try.underlying23 info3 rfl rfl rfl rfl rfl) (wt_none' rfl) fun g82 => ?_
        refine sx_rd' (rd_nilck' rfl) rfl rfl (wt_none' rfl) ?_
        refine sx_rd' (rd_field0' rfl Try.underlying158 rfl info153 rfl) rfl rfl (wt_none' rfl) ?_
        refine sx_rd' (rd_field' (off := 4) rfl Try.underlying153 rfl info23 rfl) rfl rfl (wt_none' rfl) ?_
        refine sx_ox' (ox_store' (i := 1) (o := 4) rfl rfl (lv_vl rfl rfl) ⟨rfl, rfl, rfl, rfl⟩ rfl info23 rfl (H' := [(Rw (Ki .i64) 3 (Vs g82) r82), ⟨.pointer (some q12), [(Vl (.int .i64 r901.1)), (Vl (.int .i64 r901.2.1)), (Sl Kf r901.2.2.1), (Vl (.int .i64 r901.2.2.2)), (Vl (Vs g82))], 158, none⟩, ⟨.pointer (some wa2_0_0), [(Vl (.slice none 0 0))], 23, none⟩]) rfl) (wt_none' rfl) fun _ => ?_
        refine sx_nil' ?_
        show TX E K19 _
        refine tx_k' hK19 ?_
        refine cx_seq' fun K20 hK20 => ?_
        refine cx_region' ?_
        refine sx_rd' (rd_move' rfl) rfl rfl (wt_none' rfl) ?_
        refine sx_rd' (rd_move' rfl) rfl rfl (wt_none' rfl) ?_
        refine sx_nil' ?_
        show TX E K20 _
        refine tx_k' hK20 ?_
        refine cx_block' ?_
        obtain ⟨v3, hy1, hp⟩ := bind_some hp
        refine cx_loopg' (F := gogeom_NewMultiPointFlat_l1 x1 r901) (G := fun k R v => gogeom_NewMultiPointFlat_l1s x1 r901 k R v.1 v.2) (x := (r82, 0)) (gh := ()) (fun (v2 : (List Int) × Int) (w2 : Unit) => (⟨109, [], [(7, (Vl (.pointer (some q12)))), (86, (Vl (.int .i64 x1))), (87, (Vl (.int .i64 v2.2)))], [⟨.pointer (some q12), [(Vl (.int .i64 r901.1)), (Vl (.int .i64 r901.2.1)), (Sl Kf r901.2.2.1), (Vl (.int .i64 r901.2.2.2)), (Vl (Vs g82))], 158, none⟩, (Rw (Ki .i64) 3 (Vs g82) v2.1), ⟨.pointer (some wa2_0_0), [(Vl (.slice none 0 0))], 23, none⟩]⟩ : St)) (fun (v3 : (List Int)) => Zg E (Exit.exit 2) (fun (w3 : Unit) => (⟨109, [], [(7, (Vl (.pointer (some q12))))], [⟨.pointer (some q12), [(Vl (.int .i64 r901.1)), (Vl (.int .i64 r901.2.1)), (Sl Kf r901.2.2.1), (Vl (.int .i64 r901.2.2.2)), (Vl (Vs g82))], 158, none⟩, (Rw (Ki .i64) 3 (Vs g82) v3), ⟨.pointer (some wa2_0_0), [(Vl (.slice none 0 0))], 23, none⟩]⟩ : St))) (fun _ => rfl) (fun _ _ => rfl) ?_ hy1 (tx_to' rfl [1, 0, 2] (sub_cons rfl (sub_cons rfl (sub_cons rfl sub_nil))) (by decide) (pick_cons rfl (pick_cons rfl (pick_cons rfl pick_nil)))) ?_
        · clear hp hy1
          clear v3
          intro k rec1 KY1 ih1
          rintro ⟨x2, x3⟩ ⟨⟩ y1 hp
          replace hp : gogeom_NewMultiPointFlat_l1s x1 r901 k rec1 x2 x3 = some y1 := hp
          unfold gogeom_NewMultiPointFlat_l1s at hp
          refine cx_seq' fun K25 hK25 => ?_
          refine cx_region' ?_
          refine sx_rd' (rd_bin' rfl rfl eg_int ru_lss) rfl rfl (wt_none' rfl) ?_
          refine sx_nil' ?_
          show TX E K25 _
          refine tx_k' hK25 ?_
          refine cx_seq' fun K26 hK26 => ?_
          refine cx_cond' rfl (fun h5 => ?_) (fun h5 => ?_)
          · replace hp := (br_t h5).symm.trans hp
            refine cx_skip' ?_
            show TX E K26 _
            refine tx_k' hK26 ?_
            refine cx_seq' fun K27 hK27 => ?_
            refine cx_block' ?_
            refine cx_seq' fun K28 hK28 => ?_
            refine cx_region' ?_
            refine sx_rd' (rd_move' rfl) rfl rfl (wt_none' rfl) ?_
            refine sx_rd' (rd_assign' rfl) rfl rfl (wt_none' rfl) ?_
            refine sx_nil' ?_
            show TX E K28 _
            refine tx_k' hK28 ?_
            refine cx_plan' [] [(17, 1)] [(0, 1), (1, 1), (2, 1), (3, 1), (4, 1), (5, 1), (6, 1), (7, 1), (8, 1), (9, 1), (10, 1), (11, 1), (12, 1), (13, 1), (14, 1), (15, 1), (16, 1), (17, 0)] mixed (by kernel_rfl) ?_
            refine px_rd' rfl (rd_move' rfl) rfl rfl (wt_none' rfl) ?_
            refine px_rd' rfl (rd_nilck' rfl) rfl rfl (wt_none' rfl) ?_
            refine px_rd' rfl (rd_field0' rfl Try.underlying158 rfl info153 rfl) rfl rfl (wt_none' rfl) ?_
            refine px_rd' rfl (rd_field' (off := 4) rfl Try.underlying153 rfl info23 rfl) rfl rfl (wt_none' rfl) ?_
            refine px_rd' rfl (rd_load' (i := 0) (o := 4) rfl ⟨rfl, rfl, rfl, rfl⟩ rfl flat23) rfl rfl (wt_none' rfl) ?_
            refine px_rd' rfl (rd_move' rfl) rfl rfl (wt_none' rfl) ?_
            refine px_rd' rfl (rd_move' rfl) rfl rfl (wt_none' rfl) ?_
            refine px_rd' rfl (rd_bin' rfl rfl eg_int ru_add) rfl rfl (wt_none' rfl) ?_
            refine px_rd' rfl (rd_move' rfl) rfl rfl (wt_none' rfl) ?_
            refine px_rd' rfl (rd_nilck' rfl) rfl rfl (wt_none' rfl) ?_
            refine px_rd' rfl (rd_field0' rfl Try.underlying158 rfl info153 rfl) rfl rfl (wt_none' rfl) ?_
            refine px_rd' rfl (rd_field0' rfl Try.underlying153 rfl info149 rfl) rfl rfl (wt_none' rfl) ?_
            refine px_rd' rfl (rd_field0' rfl Try.underlying149 rfl info112 rfl) rfl rfl (wt_none' rfl) ?_
            refine px_rd' rfl (rd_field' (off := 1) rfl Try.underlying112 rfl info3 rfl) rfl rfl (wt_none' rfl) ?_
            refine px_rd' rfl (rd_load' (i := 0) (o := 1) rfl ⟨rfl, rfl, rfl, rfl⟩ rfl flat3) rfl rfl (wt_none' rfl) ?_
            refine px_rd' rfl (rd_bin' rfl rfl eg_int ru_mul) rfl rfl (wt_none' rfl) ?_
            obtain ⟨r106, hr106, hp⟩ := bind_some hp
            refine px_rd' rfl (rd_atr' (m := 1) rfl rfl rfl rfl hr106 Try.underlying23 info3) rfl rfl (wt_none' rfl) ?_
            refine px_ox' rfl (ox_storer' (m := 1) (i := x3) (j := 0) (x' := (imul .i64 (iadd .i64 x3 1) r901.2.1)) rfl rfl (lv_vl rfl rfl) rfl rfl hr106 rfl rfl rfl info3 rfl (H' := [⟨.pointer (some q12), [(Vl (.int .i64 r901.1)), (Vl (.int .i64 r901.2.1)), (Sl Kf r901.2.2.1), (Vl (.int .i64 r901.2.2.2)), (Vl (Vs g82))], 158, none⟩, (Rw (Ki .i64) 3 (Vs g82) (x2.set x3.toNat (imul .i64 (iadd .i64 x3 1) r901.2.1))), ⟨.pointer (some wa2_0_0), [(Vl (.slice none 0 0))], 23, none⟩]) rfl) rfl bs_nil (wt_none' rfl) fun _ => ?_
            refine px_nil' ?_
            show TX E K27 _
            refine tx_k' hK27 ?_
            refine cx_region' ?_
            refine sx_rd' (rd_bin' rfl rfl eg_int ru_add) rfl rfl (wt_none' rfl) ?_
            refine sx_rd' (rd_move' rfl) rfl rfl (wt_none' rfl) ?_
            refine sx_nil' ?_
            show TX E (KY1 _) _
            exact tx_pick' [0, 1, 2] (sub_cons rfl (sub_cons rfl (sub_cons rfl sub_nil))) (by decide) (pick_cons rfl (pick_cons rfl (pick_cons rfl pick_nil))) (ih1 ((x2.set x3.toNat (imul .i64 (iadd .i64 x3 1) r901.2.1)), (iadd .i64 x3 1)) () _ hp)
          · replace hp := (br_f h5).symm.trans hp
            refine cx_exit' ?_
            replace hp := Option.some.inj hp
            subst hp
            show TX E (Zg E (Exit.exit 2) _ (Exit.exit 2)) _
            exact tx_zend' () rfl [0, 1, 2] (sub_cons rfl sub_nil) (by decide) (pick_cons rfl (pick_cons rfl (pick_cons rfl pick_nil)))
        · refine zg_out fun w3 => ?_
          show TX E K14 _
          exact tx_pick' [0, 1, 2] (sub_cons rfl sub_nil) (by decide) (pick_cons rfl (pick_cons rfl (pick_cons rfl pick_nil))) (hK14 (v3, g82) hp)
      · intro K17 hK17
        refine cx_seq' fun K18 hK18 => ?_
        refine cx_region' ?_
        refine sx_rd' (rd_move' rfl) rfl rfl (wt_none' rfl) ?_
        refine sx_rd' (rd_nilck' rfl) rfl rfl (wt_none' rfl) ?_
        refine sx_rd' (rd_field0' rfl Try.underlying158 rfl info153 rfl) rfl rfl (wt_none' rfl) ?_
        refine sx_rd' (rd_field0' rfl Try.underlying153 rfl info149 rfl) rfl rfl (wt_none' rfl) ?_
        refine sx_rd' (rd_field0' rfl Try.underlying149 rfl info112 rfl) rfl rfl (wt_none' rfl) ?_
        refine sx_rd' (rd_field' (off := 1) rfl Try.underlying112 rfl info3 rfl) rfl rfl (wt_none' rfl) ?_
        refine sx_rd' (rd_load' (i := 0) (o := 1) rfl ⟨rfl, rfl, rfl, rfl⟩ rfl flat3) rfl rfl (wt_none' rfl) ?_
        refine sx_rd' (rd_bin' rfl rfl eg_int ru_gtr) rfl rfl (wt_none' rfl) ?_
        refine sx_nil' ?_
        show TX E K18 _
        refine tx_k' hK18 ?_
        refine cx_cond' rfl (fun h2 => ?_) (fun h2 => ?_)
        · replace hp := (br_t h2).symm.trans hp
          refine cx_region' ?_
          refine sx_rd' (rd_move' rfl) rfl rfl (wt_none' rfl) ?_
          refine sx_rd' (rd_len' rfl Try.underlying22) rfl rfl (wt_none' rfl) ?_
          refine sx_rd' (rd_move' rfl) rfl rfl (wt_none' rfl) ?_
          refine sx_rd' (rd_nilck' rfl) rfl rfl (wt_none' rfl) ?_
          refine sx_rd' (rd_field0' rfl Try.underlying158 rfl info153 rfl) rfl rfl (wt_none' rfl) ?_
          refine sx_rd' (rd_field0' rfl Try.underlying153 rfl info149 rfl) rfl rfl (wt_none' rfl) ?_
          refine sx_rd' (rd_field0' rfl Try.underlying149 rfl info112 rfl) rfl rfl (wt_none' rfl) ?_
          refine sx_rd' (rd_field' (off := 1) rfl Try.underlying112 rfl info3 rfl) rfl rfl (wt_none' rfl) ?_
          refine sx_rd' (rd_load' (i := 0) (o := 1) rfl ⟨rfl, rfl, rfl, rfl⟩ rfl flat3) rfl rfl (wt_none' rfl) ?_
          obtain ⟨r79, hr79, hp⟩ := bind_some hp
          refine sx_rd' (rd_bin' rfl rfl eg_int (ru_quo hr79)) rfl rfl (wt_none' rfl) ?_
          refine sx_rd' (rd_assign' rfl) rfl rfl (wt_none' rfl) ?_
          refine sx_nil' ?_
          show TX E K17 _
          exact tx_pick' [0, 1] (sub_cons rfl (sub_cons rfl sub_nil)) (by decide) (pick_cons rfl (pick_cons rfl pick_nil)) (hK17 r79 hp)
        · replace hp := (br_f h2).symm.trans hp
          refine cx_skip' ?_
          show TX E K17 _
          exact tx_pick' [0, 1] (sub_cons rfl (sub_cons rfl sub_nil)) (by decide) (pick_cons rfl (pick_cons rfl pick_nil)) (hK17 0 hp)
    · replace hp := (br_f h1).symm.trans hp
      refine cx_skip' ?_
      show TX E K14 _
      refine tx_nilrow' (Ki .i64) 3 ?_
      exact tx_pick' [1, 0, 2] (sub_cons rfl sub_nil) (by decide) (pick_cons rfl (pick_cons rfl (pick_cons rfl pick_nil))) (hK14 ([], (none, 0, 0)) hp)

def gogeom_MultiPoint_SetSRID (k : Nat) (a0_0 : Int) (a0_1 : Int) (a0_2 : List Nat) (a0_3 : Int) (a0_4 : List Int) (a1 : Int) : Option (Int × Int × (List Nat) × Int × (List Int)) :=
  some (a0_0, a0_1, a0_2, a1, a0_4)

theorem gogeom_MultiPoint_SetSRID_sim {k : Nat} {wa0 : Addr} {wa0_4 : Gs} (a0_0 : Int) (a0_1 : Int) (a0_2 : List Nat) (a0_3 : Int) (a0_4 : List Int) (a1 : Int) {out : Int × Int × (List Nat) × Int × (List Int)} (hp : gogeom_MultiPoint_SetSRID k a0_0 a0_1 a0_2 a0_3 a0_4 a1 = some out) : Go.Sx.Fn Try.prog 96 [(Vl (.pointer (some wa0))), (Vl (.int .i64 a1))] [⟨.pointer (some wa0), [(Vl (.int .i64 a0_0)), (Vl (.int .i64 a0_1)), (Sl Kf a0_2), (Vl (.int .i64 a0_3)), (Vl (Vs wa0_4))], 158, none⟩, (Rw (Ki .i64) 3 (Vs wa0_4) a0_4)] (fun w : Unit => (Vl (.pointer (some wa0)))) (fun w => [⟨.pointer (some wa0), [(Vl (.int .i64 out.1)), (Vl (.int .i64 out.2.1)), (Sl Kf out.2.2.1), (Vl (.int .i64 out.2.2.2.1)), (Vl (Vs wa0_4))], 158, none⟩, (Rw (Ki .i64) 3 (Vs wa0_4) out.2.2.2.2)]) := by
  unfold gogeom_MultiPoint_SetSRID at hp
  refine fn_of Try.func96 rfl Try.ntmps96 rfl fun E hM => ?_
  refine cx_seq' fun K1 hK1 => ?_
  refine cx_region' ?_
  refine sx_rd' (rd_assign' rfl) rfl rfl (wt_none' rfl) ?_
  refine sx_nil' ?_
  show TX E K1 _
  refine tx_k' hK1 ?_
  refine cx_seq' fun K2 hK2 => ?_
  refine cx_region' ?_
  refine sx_rd' (rd_move' rfl) rfl rfl (wt_none' rfl) ?_
  refine sx_rd' (rd_move' rfl) rfl rfl (wt_none' rfl) ?_
  refine sx_rd' (rd_nilck' rfl) rfl rfl (wt_none' rfl) ?_
  refine sx_rd' (rd_field0' rfl Try.underlying158 rfl info153 rfl) rfl rfl (wt_none' rfl) ?_
  refine sx_rd' (rd_field0' rfl Try.underlying153 rfl info149 rfl) rfl rfl (wt_none' rfl) ?_
  refine sx_rd' (rd_field0' rfl Try.underlying149 rfl info112 rfl) rfl rfl (wt_none' rfl) ?_
  refine sx_rd' (rd_field' (off := 3) rfl Try.underlying112 rfl info3 rfl) rfl rfl (wt_none' rfl) ?_
  refine sx_ox' (ox_store' (i := 0) (o := 3) rfl rfl (lv_vl rfl rfl) ⟨rfl, rfl, rfl, rfl⟩ rfl info3 rfl (H' := [⟨.pointer (some wa0), [(Vl (.int .i64 a0_0)), (Vl (.int .i64 a0_1)), (Sl Kf a0_2), (Vl (.int .i64 a1)), (Vl (Vs wa0_4))], 158, none⟩, (Rw (Ki .i64) 3 (Vs wa0_4) a0_4)]) rfl) (wt_none' rfl) fun _ => ?_
  refine sx_nil' ?_
  show TX E K2 _
  refine tx_k' hK2 ?_
  refine cx_seq' fun K3 hK3 => ?_
  refine cx_region' ?_
  refine sx_rd' (rd_move' rfl) rfl rfl (wt_none' rfl) ?_
  refine sx_rd' (rd_assign' rfl) rfl rfl (wt_none' rfl) ?_
  refine sx_nil' ?_
  show TX E K3 _
  refine tx_k' hK3 ?_
  refine cx_retc' ?_
  replace hp := Option.some.inj hp
  subst hp
  refine tx_pick' (L' := [(4, (Vl (.pointer (some wa0))))]) (H' := [⟨.pointer (some wa0), [(Vl (.int .i64 a0_0)), (Vl (.int .i64 a0_1)), (Sl Kf a0_2), (Vl (.int .i64 a1)), (Vl (Vs wa0_4))], 158, none⟩, (Rw (Ki .i64) 3 (Vs wa0_4) a0_4)]) [0, 1] (sub_cons rfl sub_nil) (by decide) (pick_cons rfl (pick_cons rfl pick_nil)) ?_
  exact tx_ret1' Try.results96 rfl () (rv_tmp' rfl) (List.Sublist.refl _)

def gogeom_NewMultiPointFlatOptionWithEnds_v2 (k : Nat) (a0 : List Int) : Option ((List Int)) :=
  some a0

theorem gogeom_NewMultiPointFlatOptionWithEnds_v2_sim {k : Nat}  (a0 : List Int) {out : (List Int)} (hp : gogeom_NewMultiPointFlatOptionWithEnds_v2 k a0 = some out) : Go.Sx.Fn Try.prog 95 [(Sl (Ki .i64) a0)] [] (fun w : Addr => (Vl (.func (.func 115) #[] ⟨[.pointer (some w)]⟩))) (fun w => [⟨.pointer (some w), [(Sl (Ki .i64) out)], 23, none⟩]) := by
  unfold gogeom_NewMultiPointFlatOptionWithEnds_v2 at hp
  refine fn_of Try.func95 rfl Try.ntmps95 rfl fun E hM => ?_
  refine cx_seq' fun K1 hK1 => ?_
  refine cx_region' ?_
  refine sx_ox' (ox_box' rfl (lv_sl _ _) rfl rfl) (wt_none' rfl) fun q1 => ?_
  refine sx_rd' (rd_assign' rfl) rfl rfl (wt_none' rfl) ?_
  refine sx_nil' ?_
  show TX E K1 _
  refine tx_k' hK1 ?_
  refine cx_seq' fun K2 hK2 => ?_
  refine cx_region' ?_
  refine sx_rd' (rd_mkfunc' (us := [.pointer (some q1)]) rfl) rfl rfl (wt_none' rfl) ?_
  refine sx_rd' (rd_assign' rfl) rfl rfl (wt_none' rfl) ?_
  refine sx_nil' ?_
  show TX E K2 _
  refine tx_k' hK2 ?_
  refine cx_retc' ?_
  replace hp := Option.some.inj hp
  subst hp
  refine tx_pick' (L' := [(2, (Vl (.func (.func 115) #[] ⟨[.pointer (some q1)]⟩)))]) (H' := [⟨.pointer (some q1), [(Sl (Ki .i64) a0)], 23, none⟩]) [0] (sub_cons rfl sub_nil) (by decide) (pick_cons rfl pick_nil) ?_
  exact tx_ret1' Try.results95 rfl q1 (rv_tmp' rfl) (List.Sublist.refl _)

def gogeom_NewMultiPointFlatOptionWithEnds_1_v2 (k : Nat) (a0_0 : Int) (a0_1 : Int) (a0_2 : List Nat) (a0_3 : Int) (a1_0 : List Int) : Option (Int × Int × (List Nat) × Int × (List Int)) :=
  some (a0_0, a0_1, a0_2, a0_3, a1_0)

theorem gogeom_NewMultiPointFlatOptionWithEnds_1_v2_sim {k : Nat} {wa0 : Addr} {wa1 : Addr} (a0_0 : Int) (a0_1 : Int) (a0_2 : List Nat) (a0_3 : Int) (a1_0 : List Int) {out : Int × Int × (List Nat) × Int × (List Int)} (hp : gogeom_NewMultiPointFlatOptionWithEnds_1_v2 k a0_0 a0_1 a0_2 a0_3 a1_0 = some out) : Go.Sx.Fn Try.prog 115 [(Vl (.pointer (some wa0))), (Vl (.pointer (some wa1)))] [⟨.pointer (some wa0), [(Vl (.int .i64 a0_0)), (Vl (.int .i64 a0_1)), (Sl Kf a0_2), (Vl (.int .i64 a0_3)), (Vl (.slice none 0 0))], 158, none⟩, ⟨.pointer (some wa1), [(Sl (Ki .i64) a1_0)], 23, none⟩] (fun w : Unit => (Vl (.tuple #[]))) (fun w => [⟨.pointer (some wa0), [(Vl (.int .i64 out.1)), (Vl (.int .i64 out.2.1)), (Sl Kf out.2.2.1), (Vl (.int .i64 out.2.2.2.1)), (Sl (Ki .i64) out.2.2.2.2)], 158, none⟩, ⟨.pointer (some wa1), [(Sl (Ki .i64) out.2.2.2.2)], 23, none⟩]) := by
  unfold gogeom_NewMultiPointFlatOptionWithEnds_1_v2 at hp
  refine fn_of Try.func115 rfl Try.ntmps115 rfl fun E hM => ?_
  refine cx_region' ?_
  refine sx_rd' (rd_move' rfl) rfl rfl (wt_none' rfl) ?_
  refine sx_rd' (rd_load' (i := 1) (o := 0) rfl ⟨rfl, rfl, rfl, rfl⟩ rfl flat23) rfl rfl (wt_none' rfl) ?_
  refine sx_rd' (rd_nilck' rfl) rfl rfl (wt_none' rfl) ?_
  refine sx_rd' (rd_field0' rfl Try.underlying158 rfl info153 rfl) rfl rfl (wt_none' rfl) ?_
  refine sx_rd' (rd_field' (off := 4) rfl Try.underlying153 rfl info23 rfl) rfl rfl (wt_none' rfl) ?_
  refine sx_ox' (ox_store' (i := 0) (o := 4) rfl rfl (lv_sl _ _) ⟨rfl, rfl, rfl, rfl⟩ rfl info23 rfl (H' := [⟨.pointer (some wa0), [(Vl (.int .i64 a0_0)), (Vl (.int .i64 a0_1)), (Sl Kf a0_2), (Vl (.int .i64 a0_3)), (Sl (Ki .i64) a1_0)], 158, none⟩, ⟨.pointer (some wa1), [(Sl (Ki .i64) a1_0)], 23, none⟩]) rfl) (wt_none' rfl) fun _ => ?_
  refine sx_nil' ?_
  replace hp := Option.some.inj hp
  subst hp
  refine tx_pick' (L' := []) (H' := [⟨.pointer (some wa0), [(Vl (.int .i64 a0_0)), (Vl (.int .i64 a0_1)), (Sl Kf a0_2), (Vl (.int .i64 a0_3)), (Sl (Ki .i64) a1_0)], 158, none⟩, ⟨.pointer (some wa1), [(Sl (Ki .i64) a1_0)], 23, none⟩]) [0, 1] sub_nil (by decide) (pick_cons rfl (pick_cons rfl pick_nil)) ?_
  exact tx_end0' Try.results115 rfl () rfl (List.Sublist.refl _)

def gogeom_NewMultiPointFlat_v2 (k : Nat) (a0 : Int) (a1 : List Nat) (a2_0_0_0 : List Int) : Option ((List Int) × Int × Int × (List Nat) × Int) :=
  (gogeom_Layout_Stride k a0) >>= fun r22 =>
  (gogeom_NewMultiPointFlatOptionWithEnds_1_v2 k a0 r22 a1 0 a2_0_0_0) >>= fun r901 =>
  (some1 r901.2.2.2.2) >>= fun z1 =>
  some (r901.2.2.2.2, r901.1, r901.2.1, r901.2.2.1, r901.2.2.2.1)

theorem gogeom_NewMultiPointFlat_v2_sim {k : Nat} {wa2 : Addr} {wa2_0_0 : Addr} (a0 : Int) (a1 : List Nat) (a2_0_0_0 : List Int) {out : (List Int) × Int × Int × (List Nat) × Int} (hp : gogeom_NewMultiPointFlat_v2 k a0 a1 a2_0_0_0 = some out) : Go.Sx.Fn Try.prog 94 [(Vl (.int .i64 a0)), (Sl Kf a1), (Vl (.slice (some wa2) 1 1))] [⟨.slice (some wa2) 1 1, [(Vl (.func (.func 115) #[] ⟨[.pointer (some wa2_0_0)]⟩))], 133, some 1⟩, ⟨.pointer (some wa2_0_0), [(Sl (Ki .i64) a2_0_0_0)], 23, none⟩] (fun w : Addr => (Vl (.pointer (some w)))) (fun w => [⟨.pointer (some wa2_0_0), [(Sl (Ki .i64) out.1)], 23, none⟩, ⟨.pointer (some w), [(Vl (.int .i64 out.2.1)), (Vl (.int .i64 out.2.2.1)), (Sl Kf out.2.2.2.1), (Vl (.int .i64 out.2.2.2.2)), (Sl (Ki .i64) out.1)], 158, none⟩]) := by
  unfold gogeom_NewMultiPointFlat_v2 at hp
  refine fn_of Try.func94 rfl Try.ntmps94 rfl fun E hM => ?_
  refine cx_seq' fun K1 hK1 => ?_
  refine cx_region' ?_
  refine sx_rd' (rd_assign' rfl) rfl rfl (wt_none' rfl) ?_
  refine sx_nil' ?_
  show TX E K1 _
  refine tx_k' hK1 ?_
  refine cx_seq' fun K2 hK2 => ?_
  refine cx_region' ?_
  refine sx_ox' (ox_alloc' info158 rfl rfl rfl rfl (l := [(Vl (.int .i64 0)), (Vl (.int .i64 0)), (Vl (.slice none 0 0)), (Vl (.int .i64 0)), (Vl (.slice none 0 0))]) rfl) (wt_none' rfl) fun q12 => ?_
  refine sx_rd' (rd_assign' rfl) rfl rfl (wt_none' rfl) ?_
  refine sx_nil' ?_
  show TX E K2 _
  refine tx_k' hK2 ?_
  refine cx_seq' fun K3 hK3 => ?_
  refine cx_region' ?_
  refine sx_rd' (rd_move' rfl) rfl rfl (wt_none' rfl) ?_
  refine sx_rd' (rd_move' rfl) rfl rfl (wt_none' rfl) ?_
  refine sx_rd' (rd_nilck' rfl) rfl rfl (wt_none' rfl) ?_
  refine sx_rd' (rd_field0' rfl Try.underlying158 rfl info153 rfl) rfl rfl (wt_none' rfl) ?_
  refine sx_rd' (rd_field0' rfl Try.underlying153 rfl info149 rfl) rfl rfl (wt_none' rfl) ?_
  refine sx_rd' (rd_field0' rfl Try.underlying149 rfl info112 rfl) rfl rfl (wt_none' rfl) ?_
  refine sx_rd' (rd_field0' rfl Try.underlying112 rfl info65 rfl) rfl rfl (wt_none' rfl) ?_
  refine sx_ox' (ox_store' (i := 0) (o := 0) rfl rfl (lv_vl rfl rfl) ⟨rfl, rfl, rfl, rfl⟩ rfl info65 rfl (H' := [⟨.pointer (some q12), [(Vl (.int .i64 a0)), (Vl (.int .i64 0)), (Vl (.slice none 0 0)), (Vl (.int .i64 0)), (Vl (.slice none 0 0))], 158, none⟩, ⟨.slice (some wa2) 1 1, [(Vl (.func (.func 115) #[] ⟨[.pointer (some wa2_0_0)]⟩))], 133, some 1⟩, ⟨.pointer (some wa2_0_0), [(Sl (Ki .i64) a2_0_0_0)], 23, none⟩]) rfl) (wt_none' rfl) fun _ => ?_
  refine sx_nil' ?_
  show TX E K3 _
  refine tx_k' hK3 ?_
  refine cx_seq' fun K4 hK4 => ?_
  refine cx_region' ?_
  refine sx_rd' (rd_move' rfl) rfl rfl (wt_none' rfl) ?_
  refine sx_rd' (rd_move' rfl) rfl rfl (wt_none' rfl) ?_
  obtain ⟨r22, hr22, hp⟩ := bind_some hp
  refine sx_ox' (ox_calln' (ent_fn' Try.func80 isn80 rfl rfl) (gogeom_Layout_Stride_sim _ hr22 : Go.Sx.Fn Try.prog 80 [(Vl (.int .i64 a0))] [] (fun x : Unit => (Vl (.int .i64 r22))) (fun x => [])) (Hn := fun x : Unit => [⟨.pointer (some q12), [(Vl (.int .i64 a0)), (Vl (.int .i64 0)), (Vl (.slice none 0 0)), (Vl (.int .i64 0)), (Vl (.slice none 0 0))], 158, none⟩, ⟨.slice (some wa2) 1 1, [(Vl (.func (.func 115) #[] ⟨[.pointer (some wa2_0_0)]⟩))], 133, some 1⟩, ⟨.pointer (some wa2_0_0), [(Sl (Ki .i64) a2_0_0_0)], 23, none⟩]) (fun _ => rfl) rfl rfl) (wt_none' rfl) fun ⟨⟩ => ?_
  refine sx_rd' (rd_nilck' rfl) rfl rfl (wt_none' rfl) ?_
  refine sx_rd' (rd_field0' rfl Try.underlying158 rfl info153 rfl) rfl rfl (wt_none' rfl) ?_
  refine sx_rd' (rd_field0' rfl Try.underlying153 rfl info149 rfl) rfl rfl (wt_none' rfl) ?_
  refine sx_rd' (rd_field0' rfl Try.underlying149 rfl info112 rfl) rfl rfl (wt_none' rfl) ?_
  refine sx_rd' (rd_field' (off := 1) rfl Try.underlying112 rfl info3 rfl) rfl rfl (wt_none' rfl) ?_
  refine sx_ox' (ox_store' (i := 0) (o := 1) rfl rfl (lv_vl rfl rfl) ⟨rfl, rfl, rfl, rfl⟩ rfl info3 rfl (H' := [⟨.pointer (some q12), [(Vl (.int .i64 a0)), (Vl (.int .i64 r22)), (Vl (.slice none 0 0)), (Vl (.int .i64 0)), (Vl (.slice none 0 0))], 158, none⟩, ⟨.slice (some wa2) 1 1, [(Vl (.func (.func 115) #[] ⟨[.pointer (some wa2_0_0)]⟩))], 133, some 1⟩, ⟨.pointer (some wa2_0_0), [(Sl (Ki .i64) a2_0_0_0)], 23, none⟩]) rfl) (wt_none' rfl) fun _ => ?_
  refine sx_nil' ?_
  show TX E K4 _
  refine tx_k' hK4 ?_
  refine cx_seq' fun K5 hK5 => ?_
  refine cx_region' ?_
  refine sx_rd' (rd_move' rfl) rfl rfl (wt_none' rfl) ?_
  refine sx_rd' (rd_move' rfl) rfl rfl (wt_none' rfl) ?_
  refine sx_rd' (rd_nilck' rfl) rfl rfl (wt_none' rfl) ?_
  refine sx_rd' (rd_field0' rfl Try.underlying158 rfl info153 rfl) rfl rfl (wt_none' rfl) ?_
  refine sx_rd' (rd_field0' rfl Try.underlying153 rfl info149 rfl) rfl rfl (wt_none' rfl) ?_
  refine sx_rd' (rd_field0' rfl Try.underlying149 rfl info112 rfl) rfl rfl (wt_none' rfl) ?_
  refine sx_rd' (rd_field' (off := 2) rfl Try.underlying112 rfl info22 rfl) rfl rfl (wt_none' rfl) ?_
  refine sx_ox' (ox_store' (i := 0) (o := 2) rfl rfl (lv_sl _ _) ⟨rfl, rfl, rfl, rfl⟩ rfl info22 rfl (H' := [⟨.pointer (some q12), [(Vl (.int .i64 a0)), (Vl (.int .i64 r22)), (Sl Kf a1), (Vl (.int .i64 0)), (Vl (.slice none 0 0))], 158, none⟩, ⟨.slice (some wa2) 1 1, [(Vl (.func (.func 115) #[] ⟨[.pointer (some wa2_0_0)]⟩))], 133, some 1⟩, ⟨.pointer (some wa2_0_0), [(Sl (Ki .i64) a2_0_0_0)], 23, none⟩]) rfl) (wt_none' rfl) fun _ => ?_
  refine sx_nil' ?_
  show TX E K5 _
  refine tx_k' hK5 ?_
  refine cx_seq' fun K6 hK6 => ?_
  refine cx_seq' fun K7 hK7 => ?_
  refine cx_region' ?_
  refine sx_rd' (rd_move' rfl) rfl rfl (wt_none' rfl) ?_
  refine sx_rd' (rd_lenv' rfl Try.underlying177) rfl rfl (wt_none' rfl) ?_
  refine sx_rd' (rd_move' rfl) rfl rfl (wt_none' rfl) ?_
  refine sx_nil' ?_
  show TX E K7 _
  refine tx_k' hK7 ?_
  refine cx_block' ?_
  refine tx_loop' ?_
  refine tx_round' ?_
  refine cx_seq' fun K8 hK8 => ?_
  refine cx_region' ?_
  refine sx_rd' (rd_bin' rfl rfl eg_int ru_lss) rfl rfl (wt_none' rfl) ?_
  refine sx_nil' ?_
  show TX E K8 _
  refine tx_k' hK8 ?_
  refine cx_seq' fun K9 hK9 => ?_
  refine cx_cond_t' rfl rfl ?_
  refine cx_skip' ?_
  show TX E K9 _
  refine tx_k' hK9 ?_
  refine cx_seq' fun K10 hK10 => ?_
  refine cx_block' ?_
  refine cx_seq' fun K11 hK11 => ?_
  refine cx_region' ?_
  refine sx_rd' (rd_atv' rfl rfl (by decide) (by decide) Try.underlying177 info133) rfl rfl (wt_none' rfl) ?_
  refine sx_rd' (rd_load_row' (i := 1) (o := 0) rfl ⟨rfl, rfl, rfl⟩ rfl flat133) rfl rfl (wt_none' rfl) ?_
  refine sx_rd' (rd_assign' rfl) rfl rfl (wt_none' rfl) ?_
  refine sx_nil' ?_
  show TX E K11 _
  refine tx_k' hK11 ?_
  refine cx_region' ?_
  refine sx_rd' (rd_move' rfl) rfl rfl (wt_none' rfl) ?_
  refine sx_rd' (rd_move' rfl) rfl rfl (wt_none' rfl) ?_
  obtain ⟨r901, hr901, hp⟩ := bind_some hp
  refine sx_ox' (ox_callg' (ent_clo' (us := [.pointer (some wa2_0_0)]) rfl Try.func115 isn115 rfl rfl) (gogeom_NewMultiPointFlatOptionWithEnds_1_v2_sim _ _ _ _ _ hr901 : Go.Sx.Fn Try.prog 115 [(Vl (.pointer (some q12))), (Vl (.pointer (some wa2_0_0)))] [⟨.pointer (some q12), [(Vl (.int .i64 a0)), (Vl (.int .i64 r22)), (Sl Kf a1), (Vl (.int .i64 0)), (Vl (.slice none 0 0))], 158, none⟩, ⟨.pointer (some wa2_0_0), [(Sl (Ki .i64) a2_0_0_0)], 23, none⟩] (fun x : Unit => (Vl (.tuple #[]))) (fun x => [⟨.pointer (some q12), [(Vl (.int .i64 r901.1)), (Vl (.int .i64 r901.2.1)), (Sl Kf r901.2.2.1), (Vl (.int .i64 r901.2.2.2.1)), (Sl (Ki .i64) r901.2.2.2.2)], 158, none⟩, ⟨.pointer (some wa2_0_0), [(Sl (Ki .i64) r901.2.2.2.2)], 23, none⟩])) [0, 2] [1] (by decide) (pick_cons rfl (pick_cons rfl pick_nil)) (pick_cons rfl pick_nil) (Hn := fun x : Unit => [⟨.pointer (some q12), [(Vl (.int .i64 r901.1)), (Vl (.int .i64 r901.2.1)), (Sl Kf r901.2.2.1), (Vl (.int .i64 r901.2.2.2.1)), (Sl (Ki .i64) r901.2.2.2.2)], 158, none⟩, ⟨.pointer (some wa2_0_0), [(Sl (Ki .i64) r901.2.2.2.2)], 23, none⟩, ⟨.slice (some wa2) 1 1, [(Vl (.func (.func 115) #[] ⟨[.pointer (some wa2_0_0)]⟩))], 133, some 1⟩]) (fun _ => rfl) rfl rfl) (wt_none' rfl) fun ⟨⟩ => ?_
  refine sx_nil' ?_
  show TX E K10 _
  refine tx_k' hK10 ?_
  refine cx_region' ?_
  refine sx_rd' (rd_bin' rfl rfl eg_int (ru_addc (c := 1) (by decide))) rfl rfl (wt_none' rfl) ?_
  refine sx_rd' (rd_move' rfl) rfl rfl (wt_none' rfl) ?_
  refine sx_nil' ?_
  show TX E (LoopIn _ _ _) _
  refine tx_round' ?_
  refine cx_seq' fun K12 hK12 => ?_
  refine cx_region' ?_
  refine sx_rd' (rd_bin' rfl rfl eg_int ru_lss) rfl rfl (wt_none' rfl) ?_
  refine sx_nil' ?_
  show TX E K12 _
  refine tx_k' hK12 ?_
  refine cx_seq' fun K13 hK13 => ?_
  refine cx_cond_f' rfl rfl ?_
  refine cx_exit' ?_
  show TX E K6 _
  refine tx_k' hK6 ?_
  refine cx_seq' fun K14 hK14 => ?_
  refine cx_seq' fun K15 hK15 => ?_
  refine cx_region' ?_
  refine sx_rd' (rd_move' rfl) rfl rfl (wt_none' rfl) ?_
  refine sx_rd' (rd_nilck' rfl) rfl rfl (wt_none' rfl) ?_
  refine sx_rd' (rd_field0' rfl Try.underlying158 rfl info153 rfl) rfl rfl (wt_none' rfl) ?_
  refine sx_rd' (rd_field' (off := 4) rfl Try.underlying153 rfl info23 rfl) rfl rfl (wt_none' rfl) ?_
  refine sx_rd' (rd_load' (i := 0) (o := 4) rfl ⟨rfl, rfl, rfl, rfl⟩ rfl flat23) rfl rfl (wt_none' rfl) ?_
  obtain ⟨z1, hz1, hp⟩ := bind_some hp
  refine sx_rd' (rd_binf' rfl rfl (bf_sl hz1 (fun _ _ _ _ => by kernel_rfl) nil_eql23_sl)) rfl rfl (wt_none' rfl) ?_
  refine sx_rd' (rd_move' rfl) rfl rfl (wt_none' rfl) ?_
  refine sx_skip' rfl rfl (wt_is' (wt_guard' rfl rfl rfl) (beq_ft rfl)) ?_
  refine sx_skip' rfl rfl (wt_is' (wt_guard' rfl rfl rfl) (beq_ft rfl)) ?_
  refine sx_skip' rfl rfl (wt_is' (wt_guard' rfl rfl rfl) (beq_ft rfl)) ?_
  refine sx_skip' rfl rfl (wt_is' (wt_guard' rfl rfl rfl) (beq_ft rfl)) ?_
  refine sx_skip' rfl rfl (wt_is' (wt_guard' rfl rfl rfl) (beq_ft rfl)) ?_
  refine sx_skip' rfl rfl (wt_is' (wt_guard' rfl rfl rfl) (beq_ft rfl)) ?_
  refine sx_skip' rfl rfl (wt_is' (wt_guard' rfl rfl rfl) (beq_ft rfl)) ?_
  refine sx_skip' rfl rfl (wt_is' (wt_guard' rfl rfl rfl) (beq_ft rfl)) ?_
  refine sx_skip' rfl rfl (wt_is' (wt_guard' rfl rfl rfl) (beq_ft rfl)) ?_
  refine sx_rd' (rd_pick_false' rfl rfl rfl) rfl rfl (wt_none' rfl) ?_
  refine sx_nil' ?_
  show TX E K15 _
  refine tx_k' hK15 ?_
  refine cx_cond_f' rfl rfl ?_
  refine cx_skip' ?_
  show TX E K14 _
  refine tx_k' hK14 ?_
  refine cx_seq' fun K16 hK16 => ?_
  refine cx_region' ?_
  refine sx_rd' (rd_move' rfl) rfl rfl (wt_none' rfl) ?_
  refine sx_rd' (rd_assign' rfl) rfl rfl (wt_none' rfl) ?_
  refine sx_nil' ?_
  show TX E K16 _
  refine tx_k' hK16 ?_
  refine cx_retc' ?_
  replace hp := Option.some.inj hp
  subst hp
  refine tx_pick' (L' := [(6, (Vl (.pointer (some q12))))]) (H' := [⟨.pointer (some wa2_0_0), [(Sl (Ki .i64) r901.2.2.2.2)], 23, none⟩, ⟨.pointer (some q12), [(Vl (.int .i64 r901.1)), (Vl (.int .i64 r901.2.1)), (Sl Kf r901.2.2.1), (Vl (.int .i64 r901.2.2.2.1)), (Sl (Ki .i64) r901.2.2.2.2)], 158, none⟩]) [1, 0] (sub_cons rfl sub_nil) (by decide) (pick_cons rfl (pick_cons rfl pick_nil)) ?_
  exact tx_ret1' Try.results94 rfl q12 (rv_tmp' rfl) (List.Sublist.refl _)

def gogeom_MultiPoint_SetSRID_v2 (k : Nat) (a0_0 : Int) (a0_1 : Int) (a0_2 : List Nat) (a0_3 : Int) (a0_4 : List Int) (a1 : Int) : Option (Int × Int × (List Nat) × Int × (List Int)) :=
  some (a0_0, a0_1, a0_2, a1, a0_4)

theorem gogeom_MultiPoint_SetSRID_v2_sim {k : Nat} {wa0 : Addr} (a0_0 : Int) (a0_1 : Int) (a0_2 : List Nat) (a0_3 : Int) (a0_4 : List Int) (a1 : Int) {out : Int × Int × (List Nat) × Int × (List Int)} (hp : gogeom_MultiPoint_SetSRID_v2 k a0_0 a0_1 a0_2 a0_3 a0_4 a1 = some out) : Go.Sx.Fn Try.prog 96 [(Vl (.pointer (some wa0))), (Vl (.int .i64 a1))] [⟨.pointer (some wa0), [(Vl (.int .i64 a0_0)), (Vl (.int .i64 a0_1)), (Sl Kf a0_2), (Vl (.int .i64 a0_3)), (Sl (Ki .i64) a0_4)], 158, none⟩] (fun w : Unit => (Vl (.pointer (some wa0)))) (fun w => [⟨.pointer (some wa0), [(Vl (.int .i64 out.1)), (Vl (.int .i64 out.2.1)), (Sl Kf out.2.2.1), (Vl (.int .i64 out.2.2.2.1)), (Sl (Ki .i64) out.2.2.2.2)], 158, none⟩]) := by
  unfold gogeom_MultiPoint_SetSRID_v2 at hp
  refine fn_of Try.func96 rfl Try.ntmps96 rfl fun E hM => ?_
  refine cx_seq' fun K1 hK1 => ?_
  refine cx_region' ?_
  refine sx_rd' (rd_assign' rfl) rfl rfl (wt_none' rfl) ?_
  refine sx_nil' ?_
  show TX E K1 _
  refine tx_k' hK1 ?_
  refine cx_seq' fun K2 hK2 => ?_
  refine cx_region' ?_
  refine sx_rd' (rd_move' rfl) rfl rfl (wt_none' rfl) ?_
  refine sx_rd' (rd_move' rfl) rfl rfl (wt_none' rfl) ?_
  refine sx_rd' (rd_nilck' rfl) rfl rfl (wt_none' rfl) ?_
  refine sx_rd' (rd_field0' rfl Try.underlying158 rfl info153 rfl) rfl rfl (wt_none' rfl) ?_
  refine sx_rd' (rd_field0' rfl Try.underlying153 rfl info149 rfl) rfl rfl (wt_none' rfl) ?_
  refine sx_rd' (rd_field0' rfl Try.underlying149 rfl info112 rfl) rfl rfl (wt_none' rfl) ?_
  refine sx_rd' (rd_field' (off := 3) rfl Try.underlying112 rfl info3 rfl) rfl rfl (wt_none' rfl) ?_
  refine sx_ox' (ox_store' (i := 0) (o := 3) rfl rfl (lv_vl rfl rfl) ⟨rfl, rfl, rfl, rfl⟩ rfl info3 rfl (H' := [⟨.pointer (some wa0), [(Vl (.int .i64 a0_0)), (Vl (.int .i64 a0_1)), (Sl Kf a0_2), (Vl (.int .i64 a1)), (Sl (Ki .i64) a0_4)], 158, none⟩]) rfl) (wt_none' rfl) fun _ => ?_
  refine sx_nil' ?_
  show TX E K2 _
  refine tx_k' hK2 ?_
  refine cx_seq' fun K3 hK3 => ?_
  refine cx_region' ?_
  refine sx_rd' (rd_move' rfl) rfl rfl (wt_none' rfl) ?_
  refine sx_rd' (rd_assign' rfl) rfl rfl (wt_none' rfl) ?_
  refine sx_nil' ?_
  show TX E K3 _
  refine tx_k' hK3 ?_
  refine cx_retc' ?_
  replace hp := Option.some.inj hp
  subst hp
  refine tx_pick' (L' := [(4, (Vl (.pointer (some wa0))))]) (H' := [⟨.pointer (some wa0), [(Vl (.int .i64 a0_0)), (Vl (.int .i64 a0_1)), (Sl Kf a0_2), (Vl (.int .i64 a1)), (Sl (Ki .i64) a0_4)], 158, none⟩]) [0] (sub_cons rfl sub_nil) (by decide) (pick_cons rfl pick_nil) ?_
  exact tx_ret1' Try.results96 rfl () (rv_tmp' rfl) (List.Sublist.refl _)

def gogeom_NewMultiLineStringFlat (k : Nat) (a0 : Int) (a1 : List Nat) : Option (Int × Int × (List Nat) × Int) :=
  (gogeom_Layout_Stride k a0) >>= fun r18 =>
  some (a0, r18, a1, 0)

theorem gogeom_NewMultiLineStringFlat_sim {k : Nat}  (a0 : Int) (a1 : List Nat) {out : Int × Int × (List Nat) × Int} (hp : gogeom_NewMultiLineStringFlat k a0 a1 = some out) : Go.Sx.Fn Try.prog 97 [(Vl (.int .i64 a0)), (Sl Kf a1), (Vl (.slice none 0 0))] [] (fun w : Addr => (Vl (.pointer (some w)))) (fun w => [⟨.pointer (some w), [(Vl (.int .i64 out.1)), (Vl (.int .i64 out.2.1)), (Sl Kf out.2.2.1), (Vl (.int .i64 out.2.2.2)), (Vl (.slice none 0 0))], 161, none⟩]) := by
  unfold gogeom_NewMultiLineStringFlat at hp
  refine fn_of Try.func97 rfl Try.ntmps97 rfl fun E hM => ?_
  refine cx_seq' fun K1 hK1 => ?_
  refine cx_region' ?_
  refine sx_rd' (rd_assign' rfl) rfl rfl (wt_none' rfl) ?_
  refine sx_nil' ?_
  show TX E K1 _
  refine tx_k' hK1 ?_
  refine cx_seq' fun K2 hK2 => ?_
  refine cx_region' ?_
  refine sx_ox' (ox_alloc' info161 rfl rfl rfl rfl (l := [(Vl (.int .i64 0)), (Vl (.int .i64 0)), (Vl (.slice none 0 0)), (Vl (.int .i64 0)), (Vl (.slice none 0 0))]) rfl) (wt_none' rfl) fun q8 => ?_
  refine sx_rd' (rd_assign' rfl) rfl rfl (wt_none' rfl) ?_
  refine sx_nil' ?_
  show TX E K2 _
  refine tx_k' hK2 ?_
  refine cx_seq' fun K3 hK3 => ?_
  refine cx_region' ?_
  refine sx_rd' (rd_move' rfl) rfl rfl (wt_none' rfl) ?_
  refine sx_rd' (rd_move' rfl) rfl rfl (wt_none' rfl) ?_
  refine sx_rd' (rd_nilck' rfl) rfl rfl (wt_none' rfl) ?_
  refine sx_rd' (rd_field0' rfl Try.underlying161 rfl info153 rfl) rfl rfl (wt_none' rfl) ?_
  refine sx_rd' (rd_field0' rfl Try.underlying153 rfl info149 rfl) rfl rfl (wt_none' rfl) ?_
  refine sx_rd' (rd_field0' rfl Try.underlying149 rfl info112 rfl) rfl rfl (wt_none' rfl) ?_
  refine sx_rd' (rd_field0' rfl Try.underlying112 rfl info65 rfl) rfl rfl (wt_none' rfl) ?_
  refine sx_ox' (ox_store' (i := 0) (o := 0) rfl rfl (lv_vl rfl rfl) ⟨rfl, rfl, rfl, rfl⟩ rfl info65 rfl (H' := [⟨.pointer (some q8), [(Vl (.int .i64 a0)), (Vl (.int .i64 0)), (Vl (.slice none 0 0)), (Vl (.int .i64 0)), (Vl (.slice none 0 0))], 161, none⟩]) rfl) (wt_none' rfl) fun _ => ?_
  refine sx_nil' ?_
  show TX E K3 _
  refine tx_k' hK3 ?_
  refine cx_seq' fun K4 hK4 => ?_
  refine cx_region' ?_
  refine sx_rd' (rd_move' rfl) rfl rfl (wt_none' rfl) ?_
  refine sx_rd' (rd_move' rfl) rfl rfl (wt_none' rfl) ?_
  obtain ⟨r18, hr18, hp⟩ := bind_some hp
  refine sx_ox' (ox_calln' (ent_fn' Try.func80 isn80 rfl rfl) (gogeom_Layout_Stride_sim _ hr18 : Go.Sx.Fn Try.prog 80 [(Vl (.int .i64 a0))] [] (fun x : Unit => (Vl (.int .i64 r18))) (fun x => [])) (Hn := fun x : Unit => [⟨.pointer (some q8), [(Vl (.int .i64 a0)), (Vl (.int .i64 0)), (Vl (.slice none 0 0)), (Vl (.int .i64 0)), (Vl (.slice none 0 0))], 161, none⟩]) (fun _ => rfl) rfl rfl) (wt_none' rfl) fun ⟨⟩ => ?_
  refine sx_rd' (rd_nilck' rfl) rfl rfl (wt_none' rfl) ?_
  refine sx_rd' (rd_field0' rfl Try.underlying161 rfl info153 rfl) rfl rfl (wt_none' rfl) ?_
  refine sx_rd' (rd_field0' rfl Try.underlying153 rfl info149 rfl) rfl rfl (wt_none' rfl) ?_
  refine sx_rd' (rd_field0' rfl Try.underlying149 rfl info112 rfl) rfl rfl (wt_none' rfl) ?_
  refine sx_rd' (rd_field' (off := 1) rfl Try.underlying112 rfl info3 rfl) rfl rfl (wt_none' rfl) ?_
  refine sx_ox' (ox_store' (i := 0) (o := 1) rfl rfl (lv_vl rfl rfl) ⟨rfl, rfl, rfl, rfl⟩ rfl info3 rfl (H' := [⟨.pointer (some q8), [(Vl (.int .i64 a0)), (Vl (.int .i64 r18)), (Vl (.slice none 0 0)), (Vl (.int .i64 0)), (Vl (.slice none 0 0))], 161, none⟩]) rfl) (wt_none' rfl) fun _ => ?_
  refine sx_nil' ?_
  show TX E K4 _
  refine tx_k' hK4 ?_
  refine cx_seq' fun K5 hK5 => ?_
  refine cx_region' ?_
  refine sx_rd' (rd_move' rfl) rfl rfl (wt_none' rfl) ?_
  refine sx_rd' (rd_move' rfl) rfl rfl (wt_none' rfl) ?_
  refine sx_rd' (rd_nilck' rfl) rfl rfl (wt_none' rfl) ?_
  refine sx_rd' (rd_field0' rfl Try.underlying161 rfl info153 rfl) rfl rfl (wt_none' rfl) ?_
  refine sx_rd' (rd_field0' rfl Try.underlying153 rfl info149 rfl) rfl rfl (wt_none' rfl) ?_
  refine sx_rd' (rd_field0' rfl Try.underlying149 rfl info112 rfl) rfl rfl (wt_none' rfl) ?_
  refine sx_rd' (rd_field' (off := 2) rfl Try.underlying112 rfl info22 rfl) rfl rfl (wt_none' rfl) ?_
  refine sx_ox' (ox_store' (i := 0) (o := 2) rfl rfl (lv_sl _ _) ⟨rfl, rfl, rfl, rfl⟩ rfl info22 rfl (H' := [⟨.pointer (some q8), [(Vl (.int .i64 a0)), (Vl (.int .i64 r18)), (Sl Kf a1), (Vl (.int .i64 0)), (Vl (.slice none 0 0))], 161, none⟩]) rfl) (wt_none' rfl) fun _ => ?_
  refine sx_nil' ?_
  show TX E K5 _
  refine tx_k' hK5 ?_
  refine cx_seq' fun K6 hK6 => ?_
  refine cx_region' ?_
  refine sx_rd' (rd_move' rfl) rfl rfl (wt_none' rfl) ?_
  refine sx_rd' (rd_move' rfl) rfl rfl (wt_none' rfl) ?_
  refine sx_rd' (rd_nilck' rfl) rfl rfl (wt_none' rfl) ?_
  refine sx_rd' (rd_field0' rfl Try.underlying161 rfl info153 rfl) rfl rfl (wt_none' rfl) ?_
  refine sx_rd' (rd_field' (off := 4) rfl Try.underlying153 rfl info23 rfl) rfl rfl (wt_none' rfl) ?_
  refine sx_ox' (ox_store' (i := 0) (o := 4) rfl rfl (lv_vl rfl rfl) ⟨rfl, rfl, rfl, rfl⟩ rfl info23 rfl (H' := [⟨.pointer (some q8), [(Vl (.int .i64 a0)), (Vl (.int .i64 r18)), (Sl Kf a1), (Vl (.int .i64 0)), (Vl (.slice none 0 0))], 161, none⟩]) rfl) (wt_none' rfl) fun _ => ?_
  refine sx_nil' ?_
  show TX E K6 _
  refine tx_k' hK6 ?_
  refine cx_seq' fun K7 hK7 => ?_
  refine cx_region' ?_
  refine sx_rd' (rd_move' rfl) rfl rfl (wt_none' rfl) ?_
  refine sx_rd' (rd_assign' rfl) rfl rfl (wt_none' rfl) ?_
  refine sx_nil' ?_
  show TX E K7 _
  refine tx_k' hK7 ?_
  refine cx_retc' ?_
  replace hp := Option.some.inj hp
  subst hp
  refine tx_pick' (L' := [(6, (Vl (.pointer (some q8))))]) (H' := [⟨.pointer (some q8), [(Vl (.int .i64 a0)), (Vl (.int .i64 r18)), (Sl Kf a1), (Vl (.int .i64 0)), (Vl (.slice none 0 0))], 161, none⟩]) [0] (sub_cons rfl sub_nil) (by decide) (pick_cons rfl pick_nil) ?_
  exact tx_ret1' Try.results97 rfl q8 (rv_tmp' rfl) (List.Sublist.refl _)

def gogeom_MultiLineString_SetSRID (k : Nat) (a0_0 : Int) (a0_1 : Int) (a0_2 : List Nat) (a0_3 : Int) (a1 : Int) : Option (Int × Int × (List Nat) × Int) :=
  some (a0_0, a0_1, a0_2, a1)

theorem gogeom_MultiLineString_SetSRID_sim {k : Nat} {wa0 : Addr} (a0_0 : Int) (a0_1 : Int) (a0_2 : List Nat) (a0_3 : Int) (a1 : Int) {out : Int × Int × (List Nat) × Int} (hp : gogeom_MultiLineString_SetSRID k a0_0 a0_1 a0_2 a0_3 a1 = some out) : Go.Sx.Fn Try.prog 98 [(Vl (.pointer (some wa0))), (Vl (.int .i64 a1))] [⟨.pointer (some wa0), [(Vl (.int .i64 a0_0)), (Vl (.int .i64 a0_1)), (Sl Kf a0_2), (Vl (.int .i64 a0_3)), (Vl (.slice none 0 0))], 161, none⟩] (fun w : Unit => (Vl (.pointer (some wa0)))) (fun w => [⟨.pointer (some wa0), [(Vl (.int .i64 out.1)), (Vl (.int .i64 out.2.1)), (Sl Kf out.2.2.1), (Vl (.int .i64 out.2.2.2)), (Vl (.slice none 0 0))], 161, none⟩]) := by
  unfold gogeom_MultiLineString_SetSRID at hp
  refine fn_of Try.func98 rfl Try.ntmps98 rfl fun E hM => ?_
  refine cx_seq' fun K1 hK1 => ?_
  refine cx_region' ?_
  refine sx_rd' (rd_assign' rfl) rfl rfl (wt_none' rfl) ?_
  refine sx_nil' ?_
  show TX E K1 _
  refine tx_k' hK1 ?_
  refine cx_seq' fun K2 hK2 => ?_
  refine cx_region' ?_
  refine sx_rd' (rd_move' rfl) rfl rfl (wt_none' rfl) ?_
  refine sx_rd' (rd_move' rfl) rfl rfl (wt_none' rfl) ?_
  refine sx_rd' (rd_nilck' rfl) rfl rfl (wt_none' rfl) ?_
  refine sx_rd' (rd_field0' rfl Try.underlying161 rfl info153 rfl) rfl rfl (wt_none' rfl) ?_
  refine sx_rd' (rd_field0' rfl Try.underlying153 rfl info149 rfl) rfl rfl (wt_none' rfl) ?_
  refine sx_rd' (rd_field0' rfl Try.underlying149 rfl info112 rfl) rfl rfl (wt_none' rfl) ?_
  refine sx_rd' (rd_field' (off := 3) rfl Try.underlying112 rfl info3 rfl) rfl rfl (wt_none' rfl) ?_
  refine sx_ox' (ox_store' (i := 0) (o := 3) rfl rfl (lv_vl rfl rfl) ⟨rfl, rfl, rfl, rfl⟩ rfl info3 rfl (H' := [⟨.pointer (some wa0), [(Vl (.int .i64 a0_0)), (Vl (.int .i64 a0_1)), (Sl Kf a0_2), (Vl (.int .i64 a1)), (Vl (.slice none 0 0))], 161, none⟩]) rfl) (wt_none' rfl) fun _ => ?_
  refine sx_nil' ?_
  show TX E K2 _
  refine tx_k' hK2 ?_
  refine cx_seq' fun K3 hK3 => ?_
  refine cx_region' ?_
  refine sx_rd' (rd_move' rfl) rfl rfl (wt_none' rfl) ?_
  refine sx_rd' (rd_assign' rfl) rfl rfl (wt_none' rfl) ?_
  refine sx_nil' ?_
  show TX E K3 _
  refine tx_k' hK3 ?_
  refine cx_retc' ?_
  replace hp := Option.some.inj hp
  subst hp
  refine tx_pick' (L' := [(4, (Vl (.pointer (some wa0))))]) (H' := [⟨.pointer (some wa0), [(Vl (.int .i64 a0_0)), (Vl (.int .i64 a0_1)), (Sl Kf a0_2), (Vl (.int .i64 a1)), (Vl (.slice none 0 0))], 161, none⟩]) [0] (sub_cons rfl sub_nil) (by decide) (pick_cons rfl pick_nil) ?_
  exact tx_ret1' Try.results98 rfl () (rv_tmp' rfl) (List.Sublist.refl _)

def gogeom_NewMultiLineStringFlat_v2 (k : Nat) (a0 : Int) (a1 : List Nat) (a2 : List Int) : Option (Int × Int × (List Nat) × Int × (List Int)) :=
  (gogeom_Layout_Stride k a0) >>= fun r18 =>
  some (a0, r18, a1, 0, a2)

theorem gogeom_NewMultiLineStringFlat_v2_sim {k : Nat}  (a0 : Int) (a1 : List Nat) (a2 : List Int) {out : Int × Int × (List Nat) × Int × (List Int)} (hp : gogeom_NewMultiLineStringFlat_v2 k a0 a1 a2 = some out) : Go.Sx.Fn Try.prog 97 [(Vl (.int .i64 a0)), (Sl Kf a1), (Sl (Ki .i64) a2)] [] (fun w : Addr => (Vl (.pointer (some w)))) (fun w => [⟨.pointer (some w), [(Vl (.int .i64 out.1)), (Vl (.int .i64 out.2.1)), (Sl Kf out.2.2.1), (Vl (.int .i64 out.2.2.2.1)), (Sl (Ki .i64) out.2.2.2.2)], 161, none⟩]) := by
  unfold gogeom_NewMultiLineStringFlat_v2 at hp
  refine fn_of Try.func97 rfl Try.ntmps97 rfl fun E hM => ?_
  refine cx_seq' fun K1 hK1 => ?_
  refine cx_region' ?_
  refine sx_rd' (rd_assign' rfl) rfl rfl (wt_none' rfl) ?_
  refine sx_nil' ?_
  show TX E K1 _
  refine tx_k' hK1 ?_
  refine cx_seq' fun K2 hK2 => ?_
  refine cx_region' ?_
  refine sx_ox' (ox_alloc' info161 rfl rfl rfl rfl (l := [(Vl (.int .i64 0)), (Vl (.int .i64 0)), (Vl (.slice none 0 0)), (Vl (.int .i64 0)), (Vl (.slice none 0 0))]) rfl) (wt_none' rfl) fun q8 => ?_
  refine sx_rd' (rd_assign' rfl) rfl rfl (wt_none' rfl) ?_
  refine sx_nil' ?_
  show TX E K2 _
  refine tx_k' hK2 ?_
  refine cx_seq' fun K3 hK3 => ?_
  refine cx_region' ?_
  refine sx_rd' (rd_move' rfl) rfl rfl (wt_none' rfl) ?_
  refine sx_rd' (rd_move' rfl) rfl rfl (wt_none' rfl) ?_
  refine sx_rd' (rd_nilck' rfl) rfl rfl (wt_none' rfl) ?_
  refine sx_rd' (rd_field0' rfl Try.underlying161 rfl info153 rfl) rfl rfl (wt_none' rfl) ?_
  refine sx_rd' (rd_field0' rfl Try.underlying153 rfl info149 rfl) rfl rfl (wt_none' rfl) ?_
  refine sx_rd' (rd_field0' rfl Try.underlying149 rfl info112 rfl) rfl rfl (wt_none' rfl) ?_
  refine sx_rd' (rd_field0' rfl Try.underlying112 rfl info65 rfl) rfl rfl (wt_none' rfl) ?_
  refine sx_ox' (ox_store' (i := 0) (o := 0) rfl rfl (lv_vl rfl rfl) ⟨rfl, rfl, rfl, rfl⟩ rfl info65 rfl (H' := [⟨.pointer (some q8), [(Vl (.int .i64 a0)), (Vl (.int .i64 0)), (Vl (.slice none 0 0)), (Vl (.int .i64 0)), (Vl (.slice none 0 0))], 161, none⟩]) rfl) (wt_none' rfl) fun _ => ?_
  refine sx_nil' ?_
  show TX E K3 _
  refine tx_k' hK3 ?_
  refine cx_seq' fun K4 hK4 => ?_
  refine cx_region' ?_
  refine sx_rd' (rd_move' rfl) rfl rfl (wt_none' rfl) ?_
  refine sx_rd' (rd_move' rfl) rfl rfl (wt_none' rfl) ?_
  obtain ⟨r18, hr18, hp⟩ := bind_some hp
  refine sx_ox' (ox_calln' (ent_fn' Try.func80 isn80 rfl rfl) (gogeom_Layout_Stride_sim _ hr18 : Go.Sx.Fn Try.prog 80 [(Vl (.int .i64 a0))] [] (fun x : Unit => (Vl (.int .i64 r18))) (fun x => [])) (Hn := fun x : Unit => [⟨.pointer (some q8), [(Vl (.int .i64 a0)), (Vl (.int .i64 0)), (Vl (.slice none 0 0)), (Vl (.int .i64 0)), (Vl (.slice none 0 0))], 161, none⟩]) (fun _ => rfl) rfl rfl) (wt_none' rfl) fun ⟨⟩ => ?_
  refine sx_rd' (rd_nilck' rfl) rfl rfl (wt_none' rfl) ?_
  refine sx_rd' (rd_field0' rfl Try.underlying161 rfl info153 rfl) rfl rfl (wt_none' rfl) ?_
  refine sx_rd' (rd_field0' rfl Try.underlying153 rfl info149 rfl) rfl rfl (wt_none' rfl) ?_
  refine sx_rd' (rd_field0' rfl Try.underlying149 rfl info112 rfl) rfl rfl (wt_none' rfl) ?_
  refine sx_rd' (rd_field' (off := 1) rfl Try.underlying112 rfl info3 rfl) rfl rfl (wt_none' rfl) ?_
  refine sx_ox' (ox_store' (i := 0) (o := 1) rfl rfl (lv_vl rfl rfl) ⟨rfl, rfl, rfl, rfl⟩ rfl info3 rfl (H' := [⟨.pointer (some q8), [(Vl (.int .i64 a0)), (Vl (.int .i64 r18)), (Vl (.slice none 0 0)), (Vl (.int .i64 0)), (Vl (.slice none 0 0))], 161, none⟩]) rfl) (wt_none' rfl) fun _ => ?_
  refine sx_nil' ?_
  show TX E K4 _
  refine tx_k' hK4 ?_
  refine cx_seq' fun K5 hK5 => ?_
  refine cx_region' ?_
  refine sx_rd' (rd_move' rfl) rfl rfl (wt_none' rfl) ?_
  refine sx_rd' (rd_move' rfl) rfl rfl (wt_none' rfl) ?_
  refine sx_rd' (rd_nilck' rfl) rfl rfl (wt_none' rfl) ?_
  refine sx_rd' (rd_field0' rfl Try.underlying161 rfl info153 rfl) rfl rfl (wt_none' rfl) ?_
  refine sx_rd' (rd_field0' rfl Try.underlying153 rfl info149 rfl) rfl rfl (wt_none' rfl) ?_
  refine sx_rd' (rd_field0' rfl Try.underlying149 rfl info112 rfl) rfl rfl (wt_none' rfl) ?_
  refine sx_rd' (rd_field' (off := 2) rfl Try.underlying112 rfl info22 rfl) rfl rfl (wt_none' rfl) ?_
  refine sx_ox' (ox_store' (i := 0) (o := 2) rfl rfl (lv_sl _ _) ⟨rfl, rfl, rfl, rfl⟩ rfl info22 rfl (H' := [⟨.pointer (some q8), [(Vl (.int .i64 a0)), (Vl (.int .i64 r18)), (Sl Kf a1), (Vl (.int .i64 0)), (Vl (.slice none 0 0))], 161, none⟩]) rfl) (wt_none' rfl) fun _ => ?_
  refine sx_nil' ?_
  show TX E K5 _
  refine tx_k' hK5 ?_
  refine cx_seq' fun K6 hK6 => ?_
  refine cx_region' ?_
  refine sx_rd' (rd_move' rfl) rfl rfl (wt_none' rfl) ?_
  refine sx_rd' (rd_move' rfl) rfl rfl (wt_none' rfl) ?_
  refine sx_rd' (rd_nilck' rfl) rfl rfl (wt_none' rfl) ?_
  refine sx_rd' (rd_field0' rfl Try.underlying161 rfl info153 rfl) rfl rfl (wt_none' rfl) ?_
  refine sx_rd' (rd_field' (off := 4) rfl Try.underlying153 rfl info23 rfl) rfl rfl (wt_none' rfl) ?_
  refine sx_ox' (ox_store' (i := 0) (o := 4) rfl rfl (lv_sl _ _) ⟨rfl, rfl, rfl, rfl⟩ rfl info23 rfl (H' := [⟨.pointer (some q8), [(Vl (.int .i64 a0)), (Vl (.int .i64 r18)), (Sl Kf a1), (Vl (.int .i64 0)), (Sl (Ki .i64) a2)], 161, none⟩]) rfl) (wt_none' rfl) fun _ => ?_
  refine sx_nil' ?_
  show TX E K6 _
  refine tx_k' hK6 ?_
  refine cx_seq' fun K7 hK7 => ?_
  refine cx_region' ?_
  refine sx_rd' (rd_move' rfl) rfl rfl (wt_none' rfl) ?_
  refine sx_rd' (rd_assign' rfl) rfl rfl (wt_none' rfl) ?_
  refine sx_nil' ?_
  show TX E K7 _
  refine tx_k' hK7 ?_
  refine cx_retc' ?_
  replace hp := Option.some.inj hp
  subst hp
  refine tx_pick' (L' := [(6, (Vl (.pointer (some q8))))]) (H' := [⟨.pointer (some q8), [(Vl (.int .i64 a0)), (Vl (.int .i64 r18)), (Sl Kf a1), (Vl (.int .i64 0)), (Sl (Ki .i64) a2)], 161, none⟩]) [0] (sub_cons rfl sub_nil) (by decide) (pick_cons rfl pick_nil) ?_
  exact tx_ret1' Try.results97 rfl q8 (rv_tmp' rfl) (List.Sublist.refl _)

def gogeom_MultiLineString_SetSRID_v2 (k : Nat) (a0_0 : Int) (a0_1 : Int) (a0_2 : List Nat) (a0_3 : Int) (a0_4 : List Int) (a1 : Int) : Option (Int × Int × (List Nat) × Int × (List Int)) :=
  some (a0_0, a0_1, a0_2, a1, a0_4)

theorem gogeom_MultiLineString_SetSRID_v2_sim {k : Nat} {wa0 : Addr} (a0_0 : Int) (a0_1 : Int) (a0_2 : List Nat) (a0_3 : Int) (a0_4 : List Int) (a1 : Int) {out : Int × Int × (List Nat) × Int × (List Int)} (hp : gogeom_MultiLineString_SetSRID_v2 k a0_0 a0_1 a0_2 a0_3 a0_4 a1 = some out) : Go.Sx.Fn Try.prog 98 [(Vl (.pointer (some wa0))), (Vl (.int .i64 a1))] [⟨.pointer (some wa0), [(Vl (.int .i64 a0_0)), (Vl (.int .i64 a0_1)), (Sl Kf a0_2), (Vl (.int .i64 a0_3)), (Sl (Ki .i64) a0_4)], 161, none⟩] (fun w : Unit => (Vl (.pointer (some wa0)))) (fun w => [⟨.pointer (some wa0), [(Vl (.int .i64 out.1)), (Vl (.int .i64 out.2.1)), (Sl Kf out.2.2.1), (Vl (.int .i64 out.2.2.2.1)), (Sl (Ki .i64) out.2.2.2.2)], 161, none⟩]) := by
  unfold gogeom_MultiLineString_SetSRID_v2 at hp
  refine fn_of Try.func98 rfl Try.ntmps98 rfl fun E hM => ?_
  refine cx_seq' fun K1 hK1 => ?_
  refine cx_region' ?_
  refine sx_rd' (rd_assign' rfl) rfl rfl (wt_none' rfl) ?_
  refine sx_nil' ?_
  show TX E K1 _
  refine tx_k' hK1 ?_
  refine cx_seq' fun K2 hK2 => ?_
  refine cx_region' ?_
  refine sx_rd' (rd_move' rfl) rfl rfl (wt_none' rfl) ?_
  refine sx_rd' (rd_move' rfl) rfl rfl (wt_none' rfl) ?_
  refine sx_rd' (rd_nilck' rfl) rfl rfl (wt_none' rfl) ?_
  refine sx_rd' (rd_field0' rfl Try.underlying161 rfl info153 rfl) rfl rfl (wt_none' rfl) ?_
  refine sx_rd' (rd_field0' rfl Try.underlying153 rfl info149 rfl) rfl rfl (wt_none' rfl) ?_
  refine sx_rd' (rd_field0' rfl Try.underlying149 rfl info112 rfl) rfl rfl (wt_none' rfl) ?_
  refine sx_rd' (rd_field' (off := 3) rfl Try.underlying112 rfl info3 rfl) rfl rfl (wt_none' rfl) ?_
  refine sx_ox' (ox_store' (i := 0) (o := 3) rfl rfl (lv_vl rfl rfl) ⟨rfl, rfl, rfl, rfl⟩ rfl info3 rfl (H' := [⟨.pointer (some wa0), [(Vl (.int .i64 a0_0)), (Vl (.int .i64 a0_1)), (Sl Kf a0_2), (Vl (.int .i64 a1)), (Sl (Ki .i64) a0_4)], 161, none⟩]) rfl) (wt_none' rfl) fun _ => ?_
  refine sx_nil' ?_
  show TX E K2 _
  refine tx_k' hK2 ?_
  refine cx_seq' fun K3 hK3 => ?_
  refine cx_region' ?_
  refine sx_rd' (rd_move' rfl) rfl rfl (wt_none' rfl) ?_
  refine sx_rd' (rd_assign' rfl) rfl rfl (wt_none' rfl) ?_
  refine sx_nil' ?_
  show TX E K3 _
  refine tx_k' hK3 ?_
  refine cx_retc' ?_
  replace hp := Option.some.inj hp
  subst hp
  refine tx_pick' (L' := [(4, (Vl (.pointer (some wa0))))]) (H' := [⟨.pointer (some wa0), [(Vl (.int .i64 a0_0)), (Vl (.int .i64 a0_1)), (Sl Kf a0_2), (Vl (.int .i64 a1)), (Sl (Ki .i64) a0_4)], 161, none⟩]) [0] (sub_cons rfl sub_nil) (by decide) (pick_cons rfl pick_nil) ?_
  exact tx_ret1' Try.results98 rfl () (rv_tmp' rfl) (List.Sublist.refl _)

def impl_intss_l1s (a0 : List (List Int)) (k : Nat) (rec1 : ((List (List Int)) × Int) → Option ((List (List Int)))) (x1 : List (List Int)) (x2 : Int) : Option ((List (List Int))) :=
  br (decide (x2 < (a0.length : Int)))
    ((idx a0 x2) >>= fun r10 =>
    (impl_ints k r10) >>= fun r14 =>
    match r14 with
      | (.inl y2) =>
        ((apd 24 x1 ([[]])) >>= fun r16 =>
        rec1 (r16, (iadd .i64 x2 1)))
      | (.inr y2) =>
        ((apd 24 x1 ([y2])) >>= fun r16 =>
        rec1 (r16, (iadd .i64 x2 1))))
    (some x1)
def impl_intss_l1 (a0 : List (List Int)) : Nat → ((List (List Int)) × Int) → Option ((List (List Int)))
  | 0, _ => none
  | k + 1, v => impl_intss_l1s a0 k (impl_intss_l1 a0 k) v.1 v.2
def impl_intss (k : Nat) (a0 : List (List Int)) : Option ((List (List Int))) :=
  (impl_intss_l1 a0 k ([], 0)) >>= fun v2 =>
  some v2

theorem impl_intss_sim {k : Nat}  (a0 : List (List Int)) {out : (List (List Int))} (hp : impl_intss k a0 = some out) : Go.Sx.Fn Try.prog 51 [(Sl (Kl (Ki .i64)) a0)] [] (fun w : Unit => (Sl (Kl (Ki .i64)) out)) (fun w => []) := by
  unfold impl_intss at hp
  refine fn_of Try.func51 rfl Try.ntmps51 rfl fun E hM => ?_
  refine cx_seq' fun K1 hK1 => ?_
  refine cx_region' ?_
  refine sx_rd' (rd_assign' rfl) rfl rfl (wt_none' rfl) ?_
  refine sx_nil' ?_
  show TX E K1 _
  refine tx_k' hK1 ?_
  refine cx_seq' fun K2 hK2 => ?_
  refine cx_region' ?_
  refine sx_rd' (rd_assign' rfl) rfl rfl (wt_none' rfl) ?_
  refine sx_nil' ?_
  show TX E K2 _
  refine tx_k' hK2 ?_
  refine cx_seq' fun K3 hK3 => ?_
  refine cx_seq' fun K4 hK4 => ?_
  refine cx_region' ?_
  refine sx_rd' (rd_move' rfl) rfl rfl (wt_none' rfl) ?_
  refine sx_rd' (rd_len' rfl Try.underlying24) rfl rfl (wt_none' rfl) ?_
  refine sx_rd' (rd_move' rfl) rfl rfl (wt_none' rfl) ?_
  refine sx_nil' ?_
  show TX E K4 _
  refine tx_k' hK4 ?_
  refine cx_block' ?_
  obtain ⟨v2, hy1, hp⟩ := bind_some hp
  refine tx_nilrow' (Kl (Ki .i64)) 23 ?_
  refine cx_loopg' (F := impl_intss_l1 a0) (G := fun k R v => impl_intss_l1s a0 k R v.1 v.2) (x := ([], 0)) (gh := (none, 0, 0)) (fun (v1 : (List (List Int)) × Int) (w1 : Gs) => (⟨19, [], [(3, (Vl (Vs w1))), (6, (Sl (Kl (Ki .i64)) a0)), (7, (Vl (.int .i64 (a0.length : Int)))), (8, (Vl (.int .i64 v1.2)))], [(Rw (Kl (Ki .i64)) 23 (Vs w1) v1.1)]⟩ : St)) (fun (v2 : (List (List Int))) => Zg E (Exit.exit 0) (fun (w2 : Gs) => (⟨19, [], [(3, (Vl (Vs w2)))], [(Rw (Kl (Ki .i64)) 23 (Vs w2) v2)]⟩ : St))) (fun _ => rfl) (fun _ _ => rfl) ?_ hy1 (tx_to' rfl [0] (sub_cons rfl (sub_cons rfl (sub_cons rfl (sub_cons rfl sub_nil)))) (by decide) (pick_cons rfl pick_nil)) ?_
  · clear hp hy1
    clear v2
    intro k rec1 KY1 ih1
    rintro ⟨x1, x2⟩ g901 y3 hp
    replace hp : impl_intss_l1s a0 k rec1 x1 x2 = some y3 := hp
    unfold impl_intss_l1s at hp
    refine cx_seq' fun K9 hK9 => ?_
    refine cx_region' ?_
    refine sx_rd' (rd_bin' rfl rfl eg_int ru_lss) rfl rfl (wt_none' rfl) ?_
    refine sx_nil' ?_
    show TX E K9 _
    refine tx_k' hK9 ?_
    refine cx_seq' fun K10 hK10 => ?_
    refine cx_cond' rfl (fun h3 => ?_) (fun h3 => ?_)
    · replace hp := (br_t h3).symm.trans hp
      refine cx_skip' ?_
      show TX E K10 _
      refine tx_k' hK10 ?_
      refine cx_seq' fun K11 hK11 => ?_
      refine cx_block' ?_
      refine cx_seq' fun K12 hK12 => ?_
      refine cx_region' ?_
      obtain ⟨r10, hr10, hp⟩ := bind_some hp
      refine sx_rd' (rd_at' (K := (Kl (Ki .i64))) rfl rfl hr10 Try.underlying24 info23) rfl rfl (wt_none' rfl) ?_
      refine sx_rd' (rd_load_pt' rfl rfl flat23) rfl rfl (wt_none' rfl) ?_
      refine sx_rd' (rd_assign' rfl) rfl rfl (wt_none' rfl) ?_
      refine sx_nil' ?_
      show TX E K12 _
      refine tx_k' hK12 ?_
      refine cx_region' ?_
      refine sx_rd' (rd_move' rfl) rfl rfl (wt_none' rfl) ?_
      refine sx_rd' (rd_move' rfl) rfl rfl (wt_none' rfl) ?_
      obtain ⟨r14, hr14, hp⟩ := bind_some hp
      rcases r14 with y2 | y2
      · dsimp only at hp
        refine sx_ox' (ox_calln' (ent_fn' Try.func84 isn84 rfl rfl) (impl_ints_sim _ hr14 : Go.Sx.Fn Try.prog 84 [(Sl (Ki .i64) r10)] [] (fun x : Unit => (Vl (.slice none 0 0))) (fun x => [])) (Hn := fun x : Unit => [(Rw (Kl (Ki .i64)) 23 (Vs g901) x1)]) (fun _ => rfl) rfl rfl) (wt_none' rfl) fun ⟨⟩ => ?_
        refine tx_nilsl' 14 (Ki .i64) rfl rfl ?_
        refine sx_ox' (ox_rowlit' (K := (Kl (Ki .i64))) (xs := [[]]) (qs := [(0, [(Sl (Ki .i64) [])])]) ⟨rfl, ⟨_, rfl, (lv_sl _ _)⟩, trivial⟩ Try.underlying24 info23 rfl rfl rfl rfl rfl (by kernel_rfl) rfl rfl rfl) (wt_none' rfl) fun g15 => ?_
        obtain ⟨r16, hr16, hp⟩ := bind_some hp
        refine sx_ox' (ox_append' (K := (Kl (Ki .i64))) (i := 1) (xs := x1) (ys := ([[]])) rfl rfl rfl (sr_row' (j := 0) rfl rfl rfl Try.underlying24) hr16 Try.underlying24 info23 rfl rfl rfl (H' := [(Rw (Kl (Ki .i64)) 23 (Vs g15) ([[]]))]) rfl) (wt_none' rfl) fun g16 => ?_
        refine sx_rd' (rd_assign' rfl) rfl rfl (wt_none' rfl) ?_
        refine sx_nil' ?_
        show TX E K11 _
        refine tx_k' hK11 ?_
        refine cx_region' ?_
        refine sx_rd' (rd_bin' rfl rfl eg_int ru_add) rfl rfl (wt_none' rfl) ?_
        refine sx_rd' (rd_move' rfl) rfl rfl (wt_none' rfl) ?_
        refine sx_nil' ?_
        show TX E (KY1 _) _
        exact tx_pick' [0] (sub_cons rfl (sub_cons rfl (sub_cons rfl (sub_cons rfl sub_nil)))) (by decide) (pick_cons rfl pick_nil) (ih1 (r16, (iadd .i64 x2 1)) g16 _ hp)
      · dsimp only at hp
        refine sx_ox' (ox_calln' (ent_fn' Try.func84 isn84 rfl rfl) (impl_ints_sim _ hr14 : Go.Sx.Fn Try.prog 84 [(Sl (Ki .i64) r10)] [] (fun x : Unit => (Sl (Ki .i64) y2)) (fun x => [])) (Hn := fun x : Unit => [(Rw (Kl (Ki .i64)) 23 (Vs g901) x1)]) (fun _ => rfl) rfl rfl) (wt_none' rfl) fun ⟨⟩ => ?_
        refine sx_ox' (ox_rowlit' (K := (Kl (Ki .i64))) (xs := [y2]) (qs := [(0, [(Sl (Ki .i64) y2)])]) ⟨rfl, ⟨_, rfl, (lv_sl _ _)⟩, trivial⟩ Try.underlying24 info23 rfl rfl rfl rfl rfl (by kernel_rfl) rfl rfl rfl) (wt_none' rfl) fun g15 => ?_
        obtain ⟨r16, hr16, hp⟩ := bind_some hp
        refine sx_ox' (ox_append' (K := (Kl (Ki .i64))) (i := 1) (xs := x1) (ys := ([y2])) rfl rfl rfl (sr_row' (j := 0) rfl rfl rfl Try.underlying24) hr16 Try.underlying24 info23 rfl rfl rfl (H' := [(Rw (Kl (Ki .i64)) 23 (Vs g15) ([y2]))]) rfl) (wt_none' rfl) fun g16 => ?_
        refine sx_rd' (rd_assign' rfl) rfl rfl (wt_none' rfl) ?_
        refine sx_nil' ?_
        show TX E K11 _
        refine tx_k' hK11 ?_
        refine cx_region' ?_
        refine sx_rd' (rd_bin' rfl rfl eg_int ru_add) rfl rfl (wt_none' rfl) ?_
        refine sx_rd' (rd_move' rfl) rfl rfl (wt_none' rfl) ?_
        refine sx_nil' ?_
        show TX E (KY1 _) _
        exact tx_pick' [0] (sub_cons rfl (sub_cons rfl (sub_cons rfl (sub_cons rfl sub_nil)))) (by decide) (pick_cons rfl pick_nil) (ih1 (r16, (iadd .i64 x2 1)) g16 _ hp)
    · replace hp := (br_f h3).symm.trans hp
      refine cx_exit' ?_
      replace hp := Option.some.inj hp
      subst hp
      show TX E (Zg E (Exit.exit 0) _ (Exit.exit 0)) _
      exact tx_zend' g901 rfl [0] (sub_cons rfl sub_nil) (by decide) (pick_cons rfl pick_nil)
  · refine zg_out fun w2 => ?_
    show TX E K3 _
    refine tx_k' hK3 ?_
    refine cx_seq' fun K13 hK13 => ?_
    refine cx_region' ?_
    refine sx_rd' (rd_move' rfl) rfl rfl (wt_none' rfl) ?_
    refine sx_rd' (rd_assign' rfl) rfl rfl (wt_none' rfl) ?_
    refine sx_nil' ?_
    show TX E K13 _
    refine tx_k' hK13 ?_
    refine cx_retc' ?_
    replace hp := Option.some.inj hp
    subst hp
    refine tx_fz' (frz_row 0 [(3, (Vl (Vs w2)), (Sl (Kl (Ki .i64)) v2)), (18, (Vl (Vs w2)), (Sl (Kl (Ki .i64)) v2)), (2, (Vl (Vs w2)), (Sl (Kl (Ki .i64)) v2))] (K := (Kl (Ki .i64))) (xs := v2) (by decide) rfl ⟨⟨rfl, frz_it⟩, ⟨rfl, frz_it⟩, ⟨rfl, frz_it⟩, trivial⟩ (H' := []) frzH_refl) ?_
    refine tx_pick' (L' := [(2, (Sl (Kl (Ki .i64)) v2))]) (H' := []) [] (sub_cons rfl sub_nil) (by decide) pick_nil ?_
    exact tx_ret1' Try.results51 rfl () (rv_tmp' rfl) (List.Sublist.refl _)

def gogeom_NewMultiPolygonFlat (k : Nat) (a0 : Int) (a1 : List Nat) (a2 : List (List Int)) : Option (Int × Int × (List Nat) × Int × (List (List Int))) :=
  (gogeom_Layout_Stride k a0) >>= fun r18 =>
  some (a0, r18, a1, 0, a2)

theorem gogeom_NewMultiPolygonFlat_sim {k : Nat}  (a0 : Int) (a1 : List Nat) (a2 : List (List Int)) {out : Int × Int × (List Nat) × Int × (List (List Int))} (hp : gogeom_NewMultiPolygonFlat k a0 a1 a2 = some out) : Go.Sx.Fn Try.prog 99 [(Vl (.int .i64 a0)), (Sl Kf a1), (Sl (Kl (Ki .i64)) a2)] [] (fun w : Addr => (Vl (.pointer (some w)))) (fun w => [⟨.pointer (some w), [(Vl (.int .i64 out.1)), (Vl (.int .i64 out.2.1)), (Sl Kf out.2.2.1), (Vl (.int .i64 out.2.2.2.1)), (Sl (Kl (Ki .i64)) out.2.2.2.2)], 165, none⟩]) := by
  unfold gogeom_NewMultiPolygonFlat at hp
  refine fn_of Try.func99 rfl Try.ntmps99 rfl fun E hM => ?_
  refine cx_seq' fun K1 hK1 => ?_
  refine cx_region' ?_
  refine sx_rd' (rd_assign' rfl) rfl rfl (wt_none' rfl) ?_
  refine sx_nil' ?_
  show TX E K1 _
  refine tx_k' hK1 ?_
  refine cx_seq' fun K2 hK2 => ?_
  refine cx_region' ?_
  refine sx_ox' (ox_alloc' info165 rfl rfl rfl rfl (l := [(Vl (.int .i64 0)), (Vl (.int .i64 0)), (Vl (.slice none 0 0)), (Vl (.int .i64 0)), (Vl (.slice none 0 0))]) rfl) (wt_none' rfl) fun q8 => ?_
  refine sx_rd' (rd_assign' rfl) rfl rfl (wt_none' rfl) ?_
  refine sx_nil' ?_
  show TX E K2 _
  refine tx_k' hK2 ?_
  refine cx_seq' fun K3 hK3 => ?_
  refine cx_region' ?_
  refine sx_rd' (rd_move' rfl) rfl rfl (wt_none' rfl) ?_
  refine sx_rd' (rd_move' rfl) rfl rfl (wt_none' rfl) ?_
  refine sx_rd' (rd_nilck' rfl) rfl rfl (wt_none' rfl) ?_
  refine sx_rd' (rd_field0' rfl Try.underlying165 rfl info163 rfl) rfl rfl (wt_none' rfl) ?_
  refine sx_rd' (rd_field0' rfl Try.underlying163 rfl info149 rfl) rfl rfl (wt_none' rfl) ?_
  refine sx_rd' (rd_field0' rfl Try.underlying149 rfl info112 rfl) rfl rfl (wt_none' rfl) ?_
  refine sx_rd' (rd_field0' rfl Try.underlying112 rfl info65 rfl) rfl rfl (wt_none' rfl) ?_
  refine sx_ox' (ox_store' (i := 0) (o := 0) rfl rfl (lv_vl rfl rfl) ⟨rfl, rfl, rfl, rfl⟩ rfl info65 rfl (H' := [⟨.pointer (some q8), [(Vl (.int .i64 a0)), (Vl (.int .i64 0)), (Vl (.slice none 0 0)), (Vl (.int .i64 0)), (Vl (.slice none 0 0))], 165, none⟩]) rfl) (wt_none' rfl) fun _ => ?_
  refine sx_nil' ?_
  show TX E K3 _
  refine tx_k' hK3 ?_
  refine cx_seq' fun K4 hK4 => ?_
  refine cx_region' ?_
  refine sx_rd' (rd_move' rfl) rfl rfl (wt_none' rfl) ?_
  refine sx_rd' (rd_move' rfl) rfl rfl (wt_none' rfl) ?_
  obtain ⟨r18, hr18, hp⟩ := bind_some hp
  refine sx_ox' (ox_calln' (ent_fn' Try.func80 isn80 rfl rfl) (gogeom_Layout_Stride_sim _ hr18 : Go.Sx.Fn Try.prog 80 [(Vl (.int .i64 a0))] [] (fun x : Unit => (Vl (.int .i64 r18))) (fun x => [])) (Hn := fun x : Unit => [⟨.pointer (some q8), [(Vl (.int .i64 a0)), (Vl (.int .i64 0)), (Vl (.slice none 0 0)), (Vl (.int .i64 0)), (Vl (.slice none 0 0))], 165, none⟩]) (fun _ => rfl) rfl rfl) (wt_none' rfl) fun ⟨⟩ => ?_
  refine sx_rd' (rd_nilck' rfl) rfl rfl (wt_none' rfl) ?_
  refine sx_rd' (rd_field0' rfl Try.underlying165 rfl info163 rfl) rfl rfl (wt_none' rfl) ?_
  refine sx_rd' (rd_field0' rfl Try.underlying163 rfl info149 rfl) rfl rfl (wt_none' rfl) ?_
  refine sx_rd' (rd_field0' rfl Try.underlying149 rfl info112 rfl) rfl rfl (wt_none' rfl) ?_
  refine sx_rd' (rd_field' (off := 1) rfl Try.underlying112 rfl info3 rfl) rfl rfl (wt_none' rfl) ?_
  refine sx_ox' (ox_store' (i := 0) (o := 1) rfl rfl (lv_vl rfl rfl) ⟨rfl, rfl, rfl, rfl⟩ rfl info3 rfl (H' := [⟨.pointer (some q8), [(Vl (.int .i64 a0)), (Vl (.int .i64 r18)), (Vl (.slice none 0 0)), (Vl (.int .i64 0)), (Vl (.slice none 0 0))], 165, none⟩]) rfl) (wt_none' rfl) fun _ => ?_
  refine sx_nil' ?_
  show TX E K4 _
  refine tx_k' hK4 ?_
  refine cx_seq' fun K5 hK5 => ?_
  refine cx_region' ?_
  refine sx_rd' (rd_move' rfl) rfl rfl (wt_none' rfl) ?_
  refine sx_rd' (rd_move' rfl) rfl rfl (wt_none' rfl) ?_
  refine sx_rd' (rd_nilck' rfl) rfl rfl (wt_none' rfl) ?_
  refine sx_rd' (rd_field0' rfl Try.underlying165 rfl info163 rfl) rfl rfl (wt_none' rfl) ?_
  refine sx_rd' (rd_field0' rfl Try.underlying163 rfl info149 rfl) rfl rfl (wt_none' rfl) ?_
  refine sx_rd' (rd_field0' rfl Try.underlying149 rfl info112 rfl) rfl rfl (wt_none' rfl) ?_
  refine sx_rd' (rd_field' (off := 2) rfl Try.underlying112 rfl info22 rfl) rfl rfl (wt_none' rfl) ?_
  refine sx_ox' (ox_store' (i := 0) (o := 2) rfl rfl (lv_sl _ _) ⟨rfl, rfl, rfl, rfl⟩ rfl info22 rfl (H' := [⟨.pointer (some q8), [(Vl (.int .i64 a0)), (Vl (.int .i64 r18)), (Sl Kf a1), (Vl (.int .i64 0)), (Vl (.slice none 0 0))], 165, none⟩]) rfl) (wt_none' rfl) fun _ => ?_
  refine sx_nil' ?_
  show TX E K5 _
  refine tx_k' hK5 ?_
  refine cx_seq' fun K6 hK6 => ?_
  refine cx_region' ?_
  refine sx_rd' (rd_move' rfl) rfl rfl (wt_none' rfl) ?_
  refine sx_rd' (rd_move' rfl) rfl rfl (wt_none' rfl) ?_
  refine sx_rd' (rd_nilck' rfl) rfl rfl (wt_none' rfl) ?_
  refine sx_rd' (rd_field0' rfl Try.underlying165 rfl info163 rfl) rfl rfl (wt_none' rfl) ?_
  refine sx_rd' (rd_field' (off := 4) rfl Try.underlying163 rfl info24 rfl) rfl rfl (wt_none' rfl) ?_
  refine sx_ox' (ox_store' (i := 0) (o := 4) rfl rfl (lv_sl _ _) ⟨rfl, rfl, rfl, rfl⟩ rfl info24 rfl (H' := [⟨.pointer (some q8), [(Vl (.int .i64 a0)), (Vl (.int .i64 r18)), (Sl Kf a1), (Vl (.int .i64 0)), (Sl (Kl (Ki .i64)) a2)], 165, none⟩]) rfl) (wt_none' rfl) fun _ => ?_
  refine sx_nil' ?_
  show TX E K6 _
  refine tx_k' hK6 ?_
  refine cx_seq' fun K7 hK7 => ?_
  refine cx_region' ?_
  refine sx_rd' (rd_move' rfl) rfl rfl (wt_none' rfl) ?_
  refine sx_rd' (rd_assign' rfl) rfl rfl (wt_none' rfl) ?_
  refine sx_nil' ?_
  show TX E K7 _
  refine tx_k' hK7 ?_
  refine cx_retc' ?_
  replace hp := Option.some.inj hp
  subst hp
  refine tx_pick' (L' := [(6, (Vl (.pointer (some q8))))]) (H' := [⟨.pointer (some q8), [(Vl (.int .i64 a0)), (Vl (.int .i64 r18)), (Sl Kf a1), (Vl (.int .i64 0)), (Sl (Kl (Ki .i64)) a2)], 165, none⟩]) [0] (sub_cons rfl sub_nil) (by decide) (pick_cons rfl pick_nil) ?_
  exact tx_ret1' Try.results99 rfl q8 (rv_tmp' rfl) (List.Sublist.refl _)

def gogeom_MultiPolygon_SetSRID (k : Nat) (a0_0 : Int) (a0_1 : Int) (a0_2 : List Nat) (a0_3 : Int) (a0_4 : List (List Int)) (a1 : Int) : Option (Int × Int × (List Nat) × Int × (List (List Int))) :=
  some (a0_0, a0_1, a0_2, a1, a0_4)

theorem gogeom_MultiPolygon_SetSRID_sim {k : Nat} {wa0 : Addr} (a0_0 : Int) (a0_1 : Int) (a0_2 : List Nat) (a0_3 : Int) (a0_4 : List (List Int)) (a1 : Int) {out : Int × Int × (List Nat) × Int × (List (List Int))} (hp : gogeom_MultiPolygon_SetSRID k a0_0 a0_1 a0_2 a0_3 a0_4 a1 = some out) : Go.Sx.Fn Try.prog 100 [(Vl (.pointer (some wa0))), (Vl (.int .i64 a1))] [⟨.pointer (some wa0), [(Vl (.int .i64 a0_0)), (Vl (.int .i64 a0_1)), (Sl Kf a0_2), (Vl (.int .i64 a0_3)), (Sl (Kl (Ki .i64)) a0_4)], 165, none⟩] (fun w : Unit => (Vl (.pointer (some wa0)))) (fun w => [⟨.pointer (some wa0), [(Vl (.int .i64 out.1)), (Vl (.int .i64 out.2.1)), (Sl Kf out.2.2.1), (Vl (.int .i64 out.2.2.2.1)), (Sl (Kl (Ki .i64)) out.2.2.2.2)], 165, none⟩]) := by
  unfold gogeom_MultiPolygon_SetSRID at hp
  refine fn_of Try.func100 rfl Try.ntmps100 rfl fun E hM => ?_
  refine cx_seq' fun K1 hK1 => ?_
  refine cx_region' ?_
  refine sx_rd' (rd_assign' rfl) rfl rfl (wt_none' rfl) ?_
  refine sx_nil' ?_
  show TX E K1 _
  refine tx_k' hK1 ?_
  refine cx_seq' fun K2 hK2 => ?_
  refine cx_region' ?_
  refine sx_rd' (rd_move' rfl) rfl rfl (wt_none' rfl) ?_
  refine sx_rd' (rd_move' rfl) rfl rfl (wt_none' rfl) ?_
  refine sx_rd' (rd_nilck' rfl) rfl rfl (wt_none' rfl) ?_
  refine sx_rd' (rd_field0' rfl Try.underlying165 rfl info163 rfl) rfl rfl (wt_none' rfl) ?_
  refine sx_rd' (rd_field0' rfl Try.underlying163 rfl info149 rfl) rfl rfl (wt_none' rfl) ?_
  refine sx_rd' (rd_field0' rfl Try.underlying149 rfl info112 rfl) rfl rfl (wt_none' rfl) ?_
  refine sx_rd' (rd_field' (off := 3) rfl Try.underlying112 rfl info3 rfl) rfl rfl (wt_none' rfl) ?_
  refine sx_ox' (ox_store' (i := 0) (o := 3) rfl rfl (lv_vl rfl rfl) ⟨rfl, rfl, rfl, rfl⟩ rfl info3 rfl (H' := [⟨.pointer (some wa0), [(Vl (.int .i64 a0_0)), (Vl (.int .i64 a0_1)), (Sl Kf a0_2), (Vl (.int .i64 a1)), (Sl (Kl (Ki .i64)) a0_4)], 165, none⟩]) rfl) (wt_none' rfl) fun _ => ?_
  refine sx_nil' ?_
  show TX E K2 _
  refine tx_k' hK2 ?_
  refine cx_seq' fun K3 hK3 => ?_
  refine cx_region' ?_
  refine sx_rd' (rd_move' rfl) rfl rfl (wt_none' rfl) ?_
  refine sx_rd' (rd_assign' rfl) rfl rfl (wt_none' rfl) ?_
  refine sx_nil' ?_
  show TX E K3 _
  refine tx_k' hK3 ?_
  refine cx_retc' ?_
  replace hp := Option.some.inj hp
  subst hp
  refine tx_pick' (L' := [(4, (Vl (.pointer (some wa0))))]) (H' := [⟨.pointer (some wa0), [(Vl (.int .i64 a0_0)), (Vl (.int .i64 a0_1)), (Sl Kf a0_2), (Vl (.int .i64 a1)), (Sl (Kl (Ki .i64)) a0_4)], 165, none⟩]) [0] (sub_cons rfl sub_nil) (by decide) (pick_cons rfl pick_nil) ?_
  exact tx_ret1' Try.results100 rfl () (rv_tmp' rfl) (List.Sublist.refl _)

def gogeom_NewGeometryCollection (k : Nat)  : Option (Int) :=
  some 0

theorem gogeom_NewGeometryCollection_sim {k : Nat}   {out : Int} (hp : gogeom_NewGeometryCollection k = some out) : Go.Sx.Fn Try.prog 101 [] [] (fun w : Addr => (Vl (.pointer (some w)))) (fun w => [⟨.pointer (some w), [(Vl (.int .i64 out)), (Vl (.slice none 0 0)), (Vl (.int .i64 out))], 145, none⟩]) := by
  unfold gogeom_NewGeometryCollection at hp
  refine fn_of Try.func101 rfl Try.ntmps101 rfl fun E hM => ?_
  refine cx_seq' fun K1 hK1 => ?_
  refine cx_region' ?_
  refine sx_rd' (rd_assign' rfl) rfl rfl (wt_none' rfl) ?_
  refine sx_nil' ?_
  show TX E K1 _
  refine tx_k' hK1 ?_
  refine cx_seq' fun K2 hK2 => ?_
  refine cx_region' ?_
  refine sx_rd' (rd_build' (pls := [(0, 1), (1, 1), (2, 1)]) (qs := []) (r := [(Vl (.int .i64 0)), (Vl (.slice none 0 0)), (Vl (.int .i64 0))]) trivial Try.underlying145 has145 places145 info145 rfl rfl rfl) rfl rfl (wt_none' rfl) ?_
  refine sx_ox' (ox_box' rfl (lv_ag _) rfl rfl) (wt_none' rfl) fun q2 => ?_
  refine sx_rd' (rd_assign' rfl) rfl rfl (wt_none' rfl) ?_
  refine sx_nil' ?_
  show TX E K2 _
  refine tx_k' hK2 ?_
  refine cx_retc' ?_
  replace hp := Option.some.inj hp
  subst hp
  refine tx_pick' (L' := [(0, (Vl (.pointer (some q2))))]) (H' := [⟨.pointer (some q2), [(Vl (.int .i64 0)), (Vl (.slice none 0 0)), (Vl (.int .i64 0))], 145, none⟩]) [0] (sub_cons rfl sub_nil) (by decide) (pick_cons rfl pick_nil) ?_
  exact tx_ret1' Try.results101 rfl q2 (rv_tmp' rfl) (List.Sublist.refl _)

def gogeom_GeometryCollection_SetSRID (k : Nat) (a0_0 : Int) (a0_2 : Int) (a1 : Int) : Option (Int × Int) :=
  some (a0_0, a1)

theorem gogeom_GeometryCollection_SetSRID_sim {k : Nat} {wa0 : Addr} (a0_0 : Int) (a0_2 : Int) (a1 : Int) {out : Int × Int} (hp : gogeom_GeometryCollection_SetSRID k a0_0 a0_2 a1 = some out) : Go.Sx.Fn Try.prog 102 [(Vl (.pointer (some wa0))), (Vl (.int .i64 a1))] [⟨.pointer (some wa0), [(Vl (.int .i64 a0_0)), (Vl (.slice none 0 0)), (Vl (.int .i64 a0_2))], 145, none⟩] (fun w : Unit => (Vl (.pointer (some wa0)))) (fun w => [⟨.pointer (some wa0), [(Vl (.int .i64 out.1)), (Vl (.slice none 0 0)), (Vl (.int .i64 out.2))], 145, none⟩]) := by
  unfold gogeom_GeometryCollection_SetSRID at hp
  refine fn_of Try.func102 rfl Try.ntmps102 rfl fun E hM => ?_
  refine cx_seq' fun K1 hK1 => ?_
  refine cx_region' ?_
  refine sx_rd' (rd_assign' rfl) rfl rfl (wt_none' rfl) ?_
  refine sx_nil' ?_
  show TX E K1 _
  refine tx_k' hK1 ?_
  refine cx_seq' fun K2 hK2 => ?_
  refine cx_region' ?_
  refine sx_rd' (rd_move' rfl) rfl rfl (wt_none' rfl) ?_
  refine sx_rd' (rd_move' rfl) rfl rfl (wt_none' rfl) ?_
  refine sx_rd' (rd_nilck' rfl) rfl rfl (wt_none' rfl) ?_
  refine sx_rd' (rd_field' (off := 2) rfl Try.underlying145 rfl info3 rfl) rfl rfl (wt_none' rfl) ?_
  refine sx_ox' (ox_store' (i := 0) (o := 2) rfl rfl (lv_vl rfl rfl) ⟨rfl, rfl, rfl, rfl⟩ rfl info3 rfl (H' := [⟨.pointer (some wa0), [(Vl (.int .i64 a0_0)), (Vl (.slice none 0 0)), (Vl (.int .i64 a1))], 145, none⟩]) rfl) (wt_none' rfl) fun _ => ?_
  refine sx_nil' ?_
  show TX E K2 _
  refine tx_k' hK2 ?_
  refine cx_seq' fun K3 hK3 => ?_
  refine cx_region' ?_
  refine sx_rd' (rd_move' rfl) rfl rfl (wt_none' rfl) ?_
  refine sx_rd' (rd_assign' rfl) rfl rfl (wt_none' rfl) ?_
  refine sx_nil' ?_
  show TX E K3 _
  refine tx_k' hK3 ?_
  refine cx_retc' ?_
  replace hp := Option.some.inj hp
  subst hp
  refine tx_pick' (L' := [(4, (Vl (.pointer (some wa0))))]) (H' := [⟨.pointer (some wa0), [(Vl (.int .i64 a0_0)), (Vl (.slice none 0 0)), (Vl (.int .i64 a1))], 145, none⟩]) [0] (sub_cons rfl sub_nil) (by decide) (pick_cons rfl pick_nil) ?_
  exact tx_ret1' Try.results102 rfl () (rv_tmp' rfl) (List.Sublist.refl _)

def gogeom_GeometryCollection_CheckLayout_j1 (k : Nat) (a0_0 : Int) (a0_2 : Int) : Option (Int × Int) :=
  some (a0_0, a0_2)
def gogeom_GeometryCollection_CheckLayout (k : Nat) (a0_0 : Int) (a0_2 : Int) (a1 : Int) : Option (Int × Int) :=
  br (!decide (a1 = 0))
    (gogeom_GeometryCollection_CheckLayout_j1 k a0_0 a0_2)
    (gogeom_GeometryCollection_CheckLayout_j1 k a0_0 a0_2)

theorem gogeom_GeometryCollection_CheckLayout_sim {k : Nat} {wa0 : Addr} (a0_0 : Int) (a0_2 : Int) (a1 : Int) {out : Int × Int} (hp : gogeom_GeometryCollection_CheckLayout k a0_0 a0_2 a1 = some out) : Go.Sx.Fn Try.prog 105 [(Vl (.pointer (some wa0))), (Vl (.int .i64 a1))] [⟨.pointer (some wa0), [(Vl (.int .i64 a0_0)), (Vl (.slice none 0 0)), (Vl (.int .i64 a0_2))], 145, none⟩] (fun w : Unit => (Vl .nilIface)) (fun w => [⟨.pointer (some wa0), [(Vl (.int .i64 out.1)), (Vl (.slice none 0 0)), (Vl (.int .i64 out.2))], 145, none⟩]) := by
  unfold gogeom_GeometryCollection_CheckLayout at hp
  refine fn_of Try.func105 rfl Try.ntmps105 rfl fun E hM => ?_
  refine cx_seq' fun K1 hK1 => ?_
  refine cx_region' ?_
  refine sx_rd' (rd_assign' rfl) rfl rfl (wt_none' rfl) ?_
  refine sx_nil' ?_
  show TX E K1 _
  refine tx_k' hK1 ?_
  refine cx_join' (fun (v1 : Unit) => (⟨29, [], [], [⟨.pointer (some wa0), [(Vl (.int .i64 a0_0)), (Vl (.slice none 0 0)), (Vl (.int .i64 a0_2))], 145, none⟩]⟩ : St)) (fun (v1 : Unit) => gogeom_GeometryCollection_CheckLayout_j1 k a0_0 a0_2 = some out) ?_ ?_
  · rintro ⟨⟩ hp
    replace hp : gogeom_GeometryCollection_CheckLayout_j1 k a0_0 a0_2 = some out := hp
    unfold gogeom_GeometryCollection_CheckLayout_j1 at hp
    refine cx_seq' fun K7 hK7 => ?_
    refine cx_region' ?_
    refine sx_rd' (rd_assign' rfl) rfl rfl (wt_none' rfl) ?_
    refine sx_nil' ?_
    show TX E K7 _
    refine tx_k' hK7 ?_
    refine cx_retc' ?_
    replace hp := Option.some.inj hp
    subst hp
    refine tx_pick' (L' := [(4, (Vl .nilIface))]) (H' := [⟨.pointer (some wa0), [(Vl (.int .i64 a0_0)), (Vl (.slice none 0 0)), (Vl (.int .i64 a0_2))], 145, none⟩]) [0] (sub_cons rfl sub_nil) (by decide) (pick_cons rfl pick_nil) ?_
    exact tx_ret1' Try.results105 rfl () (rv_tmp' rfl) (List.Sublist.refl _)
  · intro K2 hK2
    refine cx_seq' fun K3 hK3 => ?_
    refine cx_region' ?_
    refine sx_rd' (rd_move' rfl) rfl rfl (wt_none' rfl) ?_
    refine sx_rd' (rd_bin' rfl rfl eg_int ru_neq) rfl rfl (wt_none' rfl) ?_
    refine sx_nil' ?_
    show TX E K3 _
    refine tx_k' hK3 ?_
    refine cx_cond' rfl (fun h1 => ?_) (fun h1 => ?_)
    · replace hp := (br_t h1).symm.trans hp
      refine cx_seq' fun K4 hK4 => ?_
      refine cx_region' ?_
      refine sx_rd' (rd_move' rfl) rfl rfl (wt_none' rfl) ?_
      refine sx_rd' (rd_nilck' rfl) rfl rfl (wt_none' rfl) ?_
      refine sx_rd' (rd_field' (off := 1) rfl Try.underlying145 rfl info116 rfl) rfl rfl (wt_none' rfl) ?_
      refine sx_rd' (rd_load' (i := 0) (o := 1) rfl ⟨rfl, rfl, rfl, rfl⟩ rfl flat116) rfl rfl (wt_none' rfl) ?_
      refine sx_rd' (rd_lenv' rfl Try.underlying116) rfl rfl (wt_none' rfl) ?_
      refine sx_rd' (rd_move' rfl) rfl rfl (wt_none' rfl) ?_
      refine sx_nil' ?_
      show TX E K4 _
      refine tx_k' hK4 ?_
      refine cx_block' ?_
      refine tx_loop' ?_
      refine tx_round' ?_
      refine cx_seq' fun K5 hK5 => ?_
      refine cx_region' ?_
      refine sx_rd' (rd_bin' rfl rfl eg_int ru_lss) rfl rfl (wt_none' rfl) ?_
      refine sx_nil' ?_
      show TX E K5 _
      refine tx_k' hK5 ?_
      refine cx_seq' fun K6 hK6 => ?_
      refine cx_cond_f' rfl rfl ?_
      refine cx_exit' ?_
      show TX E K2 _
      exact tx_pick' [0] sub_nil (by decide) (pick_cons rfl pick_nil) (hK2 () hp)
    · replace hp := (br_f h1).symm.trans hp
      refine cx_skip' ?_
      show TX E K2 _
      exact tx_pick' [0] sub_nil (by decide) (pick_cons rfl pick_nil) (hK2 () hp)

def gogeom_GeometryCollection_SetLayout (k : Nat) (a0_0 : Int) (a0_2 : Int) (a1 : Int) : Option (Int × Int) :=
  (gogeom_GeometryCollection_CheckLayout k a0_0 a0_2 a1) >>= fun r8 =>
  some (a1, r8.2)

theorem gogeom_GeometryCollection_SetLayout_sim {k : Nat} {wa0 : Addr} (a0_0 : Int) (a0_2 : Int) (a1 : Int) {out : Int × Int} (hp : gogeom_GeometryCollection_SetLayout k a0_0 a0_2 a1 = some out) : Go.Sx.Fn Try.prog 56 [(Vl (.pointer (some wa0))), (Vl (.int .i64 a1))] [⟨.pointer (some wa0), [(Vl (.int .i64 a0_0)), (Vl (.slice none 0 0)), (Vl (.int .i64 a0_2))], 145, none⟩] (fun w : Unit => (Vl .nilIface)) (fun w => [⟨.pointer (some wa0), [(Vl (.int .i64 out.1)), (Vl (.slice none 0 0)), (Vl (.int .i64 out.2))], 145, none⟩]) := by
  unfold gogeom_GeometryCollection_SetLayout at hp
  refine fn_of Try.func56 rfl Try.ntmps56 rfl fun E hM => ?_
  refine cx_seq' fun K1 hK1 => ?_
  refine cx_region' ?_
  refine sx_rd' (rd_assign' rfl) rfl rfl (wt_none' rfl) ?_
  refine sx_nil' ?_
  show TX E K1 _
  refine tx_k' hK1 ?_
  refine cx_seq' fun K2 hK2 => ?_
  refine cx_seq' fun K3 hK3 => ?_
  refine cx_region' ?_
  refine sx_rd' (rd_move' rfl) rfl rfl (wt_none' rfl) ?_
  refine sx_rd' (rd_move' rfl) rfl rfl (wt_none' rfl) ?_
  obtain ⟨r8, hr8, hp⟩ := bind_some hp
  refine sx_ox' (ox_callg' (ent_fn' Try.func105 isn105 rfl rfl) (gogeom_GeometryCollection_CheckLayout_sim _ _ _ hr8 : Go.Sx.Fn Try.prog 105 [(Vl (.pointer (some wa0))), (Vl (.int .i64 a1))] [⟨.pointer (some wa0), [(Vl (.int .i64 a0_0)), (Vl (.slice none 0 0)), (Vl (.int .i64 a0_2))], 145, none⟩] (fun x : Unit => (Vl .nilIface)) (fun x => [⟨.pointer (some wa0), [(Vl (.int .i64 r8.1)), (Vl (.slice none 0 0)), (Vl (.int .i64 r8.2))], 145, none⟩])) [0] [] (by decide) (pick_cons rfl pick_nil) pick_nil (Hn := fun x : Unit => [⟨.pointer (some wa0), [(Vl (.int .i64 r8.1)), (Vl (.slice none 0 0)), (Vl (.int .i64 r8.2))], 145, none⟩]) (fun _ => rfl) rfl rfl) (wt_none' rfl) fun ⟨⟩ => ?_
  refine sx_rd' (rd_assign' rfl) rfl rfl (wt_none' rfl) ?_
  refine sx_nil' ?_
  show TX E K3 _
  refine tx_k' hK3 ?_
  refine cx_seq' fun K4 hK4 => ?_
  refine cx_region' ?_
  refine sx_rd' (rd_move' rfl) rfl rfl (wt_none' rfl) ?_
  refine sx_rd' (rd_binf' rfl rfl (bf_vl (fun _ => by kernel_rfl) nil_neq62_nilif)) rfl rfl (wt_none' rfl) ?_
  refine sx_nil' ?_
  show TX E K4 _
  refine tx_k' hK4 ?_
  refine cx_cond_f' rfl rfl ?_
  refine cx_skip' ?_
  show TX E K2 _
  refine tx_k' hK2 ?_
  refine cx_seq' fun K5 hK5 => ?_
  refine cx_region' ?_
  refine sx_rd' (rd_move' rfl) rfl rfl (wt_none' rfl) ?_
  refine sx_rd' (rd_move' rfl) rfl rfl (wt_none' rfl) ?_
  refine sx_rd' (rd_nilck' rfl) rfl rfl (wt_none' rfl) ?_
  refine sx_rd' (rd_field0' rfl Try.underlying145 rfl info65 rfl) rfl rfl (wt_none' rfl) ?_
  refine sx_ox' (ox_store' (i := 0) (o := 0) rfl rfl (lv_vl rfl rfl) ⟨rfl, rfl, rfl, rfl⟩ rfl info65 rfl (H' := [⟨.pointer (some wa0), [(Vl (.int .i64 a1)), (Vl (.slice none 0 0)), (Vl (.int .i64 r8.2))], 145, none⟩]) rfl) (wt_none' rfl) fun _ => ?_
  refine sx_nil' ?_
  show TX E K5 _
  refine tx_k' hK5 ?_
  refine cx_seq' fun K6 hK6 => ?_
  refine cx_region' ?_
  refine sx_rd' (rd_assign' rfl) rfl rfl (wt_none' rfl) ?_
  refine sx_nil' ?_
  show TX E K6 _
  refine tx_k' hK6 ?_
  refine cx_retc' ?_
  replace hp := Option.some.inj hp
  subst hp
  refine tx_pick' (L' := [(4, (Vl .nilIface))]) (H' := [⟨.pointer (some wa0), [(Vl (.int .i64 a1)), (Vl (.slice none 0 0)), (Vl (.int .i64 r8.2))], 145, none⟩]) [0] (sub_cons rfl sub_nil) (by decide) (pick_cons rfl pick_nil) ?_
  exact tx_ret1' Try.results56 rfl () (rv_tmp' rfl) (List.Sublist.refl _)

def gogeom_GeometryCollection_MustSetLayout (k : Nat) (a0_0 : Int) (a0_2 : Int) (a1 : Int) : Option (Int × Int) :=
  (gogeom_GeometryCollection_SetLayout k a0_0 a0_2 a1) >>= fun r8 =>
  some (r8.1, r8.2)

theorem gogeom_GeometryCollection_MustSetLayout_sim {k : Nat} {wa0 : Addr} (a0_0 : Int) (a0_2 : Int) (a1 : Int) {out : Int × Int} (hp : gogeom_GeometryCollection_MustSetLayout k a0_0 a0_2 a1 = some out) : Go.Sx.Fn Try.prog 104 [(Vl (.pointer (some wa0))), (Vl (.int .i64 a1))] [⟨.pointer (some wa0), [(Vl (.int .i64 a0_0)), (Vl (.slice none 0 0)), (Vl (.int .i64 a0_2))], 145, none⟩] (fun w : Unit => (Vl (.pointer (some wa0)))) (fun w => [⟨.pointer (some wa0), [(Vl (.int .i64 out.1)), (Vl (.slice none 0 0)), (Vl (.int .i64 out.2))], 145, none⟩]) := by
  unfold gogeom_GeometryCollection_MustSetLayout at hp
  refine fn_of Try.func104 rfl Try.ntmps104 rfl fun E hM => ?_
  refine cx_seq' fun K1 hK1 => ?_
  refine cx_region' ?_
  refine sx_rd' (rd_assign' rfl) rfl rfl (wt_none' rfl) ?_
  refine sx_nil' ?_
  show TX E K1 _
  refine tx_k' hK1 ?_
  refine cx_seq' fun K2 hK2 => ?_
  refine cx_seq' fun K3 hK3 => ?_
  refine cx_region' ?_
  refine sx_rd' (rd_move' rfl) rfl rfl (wt_none' rfl) ?_
  refine sx_rd' (rd_move' rfl) rfl rfl (wt_none' rfl) ?_
  obtain ⟨r8, hr8, hp⟩ := bind_some hp
  refine sx_ox' (ox_callg' (ent_fn' Try.func56 isn56 rfl rfl) (gogeom_GeometryCollection_SetLayout_sim _ _ _ hr8 : Go.Sx.Fn Try.prog 56 [(Vl (.pointer (some wa0))), (Vl (.int .i64 a1))] [⟨.pointer (some wa0), [(Vl (.int .i64 a0_0)), (Vl (.slice none 0 0)), (Vl (.int .i64 a0_2))], 145, none⟩] (fun x : Unit => (Vl .nilIface)) (fun x => [⟨.pointer (some wa0), [(Vl (.int .i64 r8.1)), (Vl (.slice none 0 0)), (Vl (.int .i64 r8.2))], 145, none⟩])) [0] [] (by decide) (pick_cons rfl pick_nil) pick_nil (Hn := fun x : Unit => [⟨.pointer (some wa0), [(Vl (.int .i64 r8.1)), (Vl (.slice none 0 0)), (Vl (.int .i64 r8.2))], 145, none⟩]) (fun _ => rfl) rfl rfl) (wt_none' rfl) fun ⟨⟩ => ?_
  refine sx_rd' (rd_assign' rfl) rfl rfl (wt_none' rfl) ?_
  refine sx_nil' ?_
  show TX E K3 _
  refine tx_k' hK3 ?_
  refine cx_seq' fun K4 hK4 => ?_
  refine cx_region' ?_
  refine sx_rd' (rd_move' rfl) rfl rfl (wt_none' rfl) ?_
  refine sx_rd' (rd_binf' rfl rfl (bf_vl (fun _ => by kernel_rfl) nil_neq62_nilif)) rfl rfl (wt_none' rfl) ?_
  refine sx_nil' ?_
  show TX E K4 _
  refine tx_k' hK4 ?_
  refine cx_cond_f' rfl rfl ?_
  refine cx_skip' ?_
  show TX E K2 _
  refine tx_k' hK2 ?_
  refine cx_seq' fun K5 hK5 => ?_
  refine cx_region' ?_
  refine sx_rd' (rd_move' rfl) rfl rfl (wt_none' rfl) ?_
  refine sx_rd' (rd_assign' rfl) rfl rfl (wt_none' rfl) ?_
  refine sx_nil' ?_
  show TX E K5 _
  refine tx_k' hK5 ?_
  refine cx_retc' ?_
  replace hp := Option.some.inj hp
  subst hp
  refine tx_pick' (L' := [(4, (Vl (.pointer (some wa0))))]) (H' := [⟨.pointer (some wa0), [(Vl (.int .i64 r8.1)), (Vl (.slice none 0 0)), (Vl (.int .i64 r8.2))], 145, none⟩]) [0] (sub_cons rfl sub_nil) (by decide) (pick_cons rfl pick_nil) ?_
  exact tx_ret1' Try.results104 rfl () (rv_tmp' rfl) (List.Sublist.refl _)

def impl_geometry_b (recf : Int → Int → Int → (List Nat) → (List Int) → (List (List Int)) → (List T27) → Option ((Int × Int × (List Nat) × Int) ⊕ ((Int × Int × (List Nat) × Int) ⊕ ((Int × Int × (List Nat) × Int) ⊕ ((Int × Int × (List Nat) × Int × (List Int)) ⊕ ((Int × Int × (List Nat) × Int × (List Int)) ⊕ ((Int × Int × (List Nat) × Int × (List Int)) ⊕ ((Int × Int × (List Nat) × Int × (List (List Int))) ⊕ (Int × Int))))))))) (k : Nat) (a0_0 : Int) (a0_1 : Int) (a0_2 : Int) (a0_3 : List Nat) (a0_4 : List Int) (a0_5 : List (List Int)) (a0_6 : List T27) : Option ((Int × Int × (List Nat) × Int) ⊕ ((Int × Int × (List Nat) × Int) ⊕ ((Int × Int × (List Nat) × Int) ⊕ ((Int × Int × (List Nat) × Int × (List Int)) ⊕ ((Int × Int × (List Nat) × Int × (List Int)) ⊕ ((Int × Int × (List Nat) × Int × (List Int)) ⊕ ((Int × Int × (List Nat) × Int × (List (List Int))) ⊕ (Int × Int)))))))) :=
  (impl_floats k a0_3) >>= fun r12 =>
  br (decide (a0_0 = 1))
    ((gogeom_NewPointFlat k a0_1 r12) >>= fun r19 =>
    (gogeom_Point_SetSRID k r19.1 r19.2.1 r19.2.2.1 r19.2.2.2 a0_2) >>= fun r22 =>
    some (.inl (r22.1, r22.2.1, r22.2.2.1, r22.2.2.2)))
    (br (decide (a0_0 = 2))
      ((gogeom_NewLineStringFlat k a0_1 r12) >>= fun r28 =>
      (gogeom_LineString_SetSRID k r28.1 r28.2.1 r28.2.2.1 r28.2.2.2 a0_2) >>= fun r31 =>
      some (.inr (.inl (r31.1, r31.2.1, r31.2.2.1, r31.2.2.2))))
      (br (decide (a0_0 = 8))
        ((gogeom_NewLinearRingFlat k a0_1 r12) >>= fun r37 =>
        (gogeom_LinearRing_SetSRID k r37.1 r37.2.1 r37.2.2.1 r37.2.2.2 a0_2) >>= fun r40 =>
        some (.inr (.inr (.inl (r40.1, r40.2.1, r40.2.2.1, r40.2.2.2)))))
        (br (decide (a0_0 = 3))
          ((impl_ints k a0_4) >>= fun r48 =>
          match r48 with
            | (.inl y4) =>
              ((gogeom_NewPolygonFlat k a0_1 r12) >>= fun r49 =>
              (gogeom_Polygon_SetSRID k r49.1 r49.2.1 r49.2.2.1 r49.2.2.2 a0_2) >>= fun r52 =>
              some (.inr (.inr (.inr (.inl (r52.1, r52.2.1, r52.2.2.1, r52.2.2.2, []))))))
            | (.inr y4) =>
              ((gogeom_NewPolygonFlat_v2 k a0_1 r12 y4) >>= fun r49 =>
              (gogeom_Polygon_SetSRID_v2 k r49.1 r49.2.1 r49.2.2.1 r49.2.2.2.1 r49.2.2.2.2 a0_2) >>= fun r52 =>
              some (.inr (.inr (.inr (.inl (r52.1, r52.2.1, r52.2.2.1, r52.2.2.2.1, r52.2.2.2.2)))))))
          (br (decide (a0_0 = 4))
            ((impl_ints k a0_4) >>= fun r60 =>
            match r60 with
              | (.inl y6) =>
                ((gogeom_NewMultiPointFlatOptionWithEnds k) >>= fun r61 =>
                (gogeom_NewMultiPointFlat k a0_1 r12) >>= fun r63 =>
                (gogeom_MultiPoint_SetSRID k r63.1 r63.2.1 r63.2.2.1 r63.2.2.2.1 r63.2.2.2.2 a0_2) >>= fun r66 =>
                some (.inr (.inr (.inr (.inr (.inl (r66.1, r66.2.1, r66.2.2.1, r66.2.2.2.1, r66.2.2.2.2)))))))
              | (.inr y6) =>
                ((gogeom_NewMultiPointFlatOptionWithEnds_v2 k y6) >>= fun r61 =>
                (gogeom_NewMultiPointFlat_v2 k a0_1 r12 r61) >>= fun r63 =>
                (gogeom_MultiPoint_SetSRID_v2 k r63.2.1 r63.2.2.1 r63.2.2.2.1 r63.2.2.2.2 r63.1 a0_2) >>= fun r66 =>
                some (.inr (.inr (.inr (.inr (.inl (r66.1, r66.2.1, r66.2.2.1, r66.2.2.2.1, r66.2.2.2.2))))))))
            (br (decide (a0_0 = 5))
              ((impl_ints k a0_4) >>= fun r74 =>
              match r74 with
                | (.inl y10) =>
                  ((gogeom_NewMultiLineStringFlat k a0_1 r12) >>= fun r75 =>
                  (gogeom_MultiLineString_SetSRID k r75.1 r75.2.1 r75.2.2.1 r75.2.2.2 a0_2) >>= fun r78 =>
                  some (.inr (.inr (.inr (.inr (.inr (.inl (r78.1, r78.2.1, r78.2.2.1, r78.2.2.2, []))))))))
                | (.inr y10) =>
                  ((gogeom_NewMultiLineStringFlat_v2 k a0_1 r12 y10) >>= fun r75 =>
                  (gogeom_MultiLineString_SetSRID_v2 k r75.1 r75.2.1 r75.2.2.1 r75.2.2.2.1 r75.2.2.2.2 a0_2) >>= fun r78 =>
                  some (.inr (.inr (.inr (.inr (.inr (.inl (r78.1, r78.2.1, r78.2.2.1, r78.2.2.2.1, r78.2.2.2.2)))))))))
              (br (decide (a0_0 = 6))
                ((impl_intss k a0_5) >>= fun r86 =>
                (gogeom_NewMultiPolygonFlat k a0_1 r12 r86) >>= fun r87 =>
                (gogeom_MultiPolygon_SetSRID k r87.1 r87.2.1 r87.2.2.1 r87.2.2.2.1 r87.2.2.2.2 a0_2) >>= fun r90 =>
                some (.inr (.inr (.inr (.inr (.inr (.inr (.inl (r90.1, r90.2.1, r90.2.2.1, r90.2.2.2.1, r90.2.2.2.2)))))))))
                (br (decide (a0_0 = 7))
                  ((gogeom_NewGeometryCollection k) >>= fun r94 =>
                  (gogeom_GeometryCollection_SetSRID k r94 r94 a0_2) >>= fun r97 =>
                  br (decide (0 < (a0_6.length : Int)))
                    (none)
                    ((gogeom_GeometryCollection_MustSetLayout k r97.1 r97.2 a0_1) >>= fun r113 =>
                    some (.inr (.inr (.inr (.inr (.inr (.inr (.inr (r113.1, r113.2))))))))))
                  (none))))))))
def impl_geometry : Nat → Int → Int → Int → (List Nat) → (List Int) → (List (List Int)) → (List T27) → Option ((Int × Int × (List Nat) × Int) ⊕ ((Int × Int × (List Nat) × Int) ⊕ ((Int × Int × (List Nat) × Int) ⊕ ((Int × Int × (List Nat) × Int × (List Int)) ⊕ ((Int × Int × (List Nat) × Int × (List Int)) ⊕ ((Int × Int × (List Nat) × Int × (List Int)) ⊕ ((Int × Int × (List Nat) × Int × (List (List Int))) ⊕ (Int × Int))))))))
  | 0 => fun _ _ _ _ _ _ _ => none
  | k + 1 => fun a0_0 a0_1 a0_2 a0_3 a0_4 a0_5 a0_6 => impl_geometry_b (impl_geometry k) k a0_0 a0_1 a0_2 a0_3 a0_4 a0_5 a0_6
def impl_geometry_r  (a0_0 : Int) (a0_1 : Int) (a0_2 : Int) (a0_3 : List Nat) (a0_4 : List Int) (a0_5 : List (List Int)) (a0_6 : List T27) (out : (Int × Int × (List Nat) × Int) ⊕ ((Int × Int × (List Nat) × Int) ⊕ ((Int × Int × (List Nat) × Int) ⊕ ((Int × Int × (List Nat) × Int × (List Int)) ⊕ ((Int × Int × (List Nat) × Int × (List Int)) ⊕ ((Int × Int × (List Nat) × Int × (List Int)) ⊕ ((Int × Int × (List Nat) × Int × (List (List Int))) ⊕ (Int × Int)))))))) (w : Addr) : SV := match out with
  | (.inl y) => (If 60 (Vl (.pointer (some w))))
  | (.inr (.inl y)) => (If 94 (Vl (.pointer (some w))))
  | (.inr (.inr (.inl y))) => (If 89 (Vl (.pointer (some w))))
  | (.inr (.inr (.inr (.inl y)))) => (If 87 (Vl (.pointer (some w))))
  | (.inr (.inr (.inr (.inr (.inl y))))) => (If 90 (Vl (.pointer (some w))))
  | (.inr (.inr (.inr (.inr (.inr (.inl y)))))) => (If 92 (Vl (.pointer (some w))))
  | (.inr (.inr (.inr (.inr (.inr (.inr (.inl y))))))) => (If 95 (Vl (.pointer (some w))))
  | (.inr (.inr (.inr (.inr (.inr (.inr (.inr y))))))) => (If 81 (Vl (.pointer (some w))))
def impl_geometry_h  (a0_0 : Int) (a0_1 : Int) (a0_2 : Int) (a0_3 : List Nat) (a0_4 : List Int) (a0_5 : List (List Int)) (a0_6 : List T27) (out : (Int × Int × (List Nat) × Int) ⊕ ((Int × Int × (List Nat) × Int) ⊕ ((Int × Int × (List Nat) × Int) ⊕ ((Int × Int × (List Nat) × Int × (List Int)) ⊕ ((Int × Int × (List Nat) × Int × (List Int)) ⊕ ((Int × Int × (List Nat) × Int × (List Int)) ⊕ ((Int × Int × (List Nat) × Int × (List (List Int))) ⊕ (Int × Int)))))))) (w : Addr) : List Res := match out with
  | (.inl y) => [⟨.pointer (some w), [(Vl (.int .i64 y.1)), (Vl (.int .i64 y.2.1)), (Sl Kf y.2.2.1), (Vl (.int .i64 y.2.2.2))], 114, none⟩]
  | (.inr (.inl y)) => [⟨.pointer (some w), [(Vl (.int .i64 y.1)), (Vl (.int .i64 y.2.1)), (Sl Kf y.2.2.1), (Vl (.int .i64 y.2.2.2))], 160, none⟩]
  | (.inr (.inr (.inl y))) => [⟨.pointer (some w), [(Vl (.int .i64 y.1)), (Vl (.int .i64 y.2.1)), (Sl Kf y.2.2.1), (Vl (.int .i64 y.2.2.2))], 151, none⟩]
  | (.inr (.inr (.inr (.inl y)))) => [⟨.pointer (some w), [(Vl (.int .i64 y.1)), (Vl (.int .i64 y.2.1)), (Sl Kf y.2.2.1), (Vl (.int .i64 y.2.2.2.1)), (Sl (Ki .i64) y.2.2.2.2)], 155, none⟩]
  | (.inr (.inr (.inr (.inr (.inl y))))) => [⟨.pointer (some w), [(Vl (.int .i64 y.1)), (Vl (.int .i64 y.2.1)), (Sl Kf y.2.2.1), (Vl (.int .i64 y.2.2.2.1)), (Sl (Ki .i64) y.2.2.2.2)], 158, none⟩]
  | (.inr (.inr (.inr (.inr (.inr (.inl y)))))) => [⟨.pointer (some w), [(Vl (.int .i64 y.1)), (Vl (.int .i64 y.2.1)), (Sl Kf y.2.2.1), (Vl (.int .i64 y.2.2.2.1)), (Sl (Ki .i64) y.2.2.2.2)], 161, none⟩]
  | (.inr (.inr (.inr (.inr (.inr (.inr (.inl y))))))) => [⟨.pointer (some w), [(Vl (.int .i64 y.1)), (Vl (.int .i64 y.2.1)), (Sl Kf y.2.2.1), (Vl (.int .i64 y.2.2.2.1)), (Sl (Kl (Ki .i64)) y.2.2.2.2)], 165, none⟩]
  | (.inr (.inr (.inr (.inr (.inr (.inr (.inr y))))))) => [⟨.pointer (some w), [(Vl (.int .i64 y.1)), (Vl (.slice none 0 0)), (Vl (.int .i64 y.2))], 145, none⟩]

theorem impl_geometry_b_sim {recf : Int → Int → Int → (List Nat) → (List Int) → (List (List Int)) → (List T27) → Option ((Int × Int × (List Nat) × Int) ⊕ ((Int × Int × (List Nat) × Int) ⊕ ((Int × Int × (List Nat) × Int) ⊕ ((Int × Int × (List Nat) × Int × (List Int)) ⊕ ((Int × Int × (List Nat) × Int × (List Int)) ⊕ ((Int × Int × (List Nat) × Int × (List Int)) ⊕ ((Int × Int × (List Nat) × Int × (List (List Int))) ⊕ (Int × Int))))))))} (hrec : ∀  (a0_0 : Int) (a0_1 : Int) (a0_2 : Int) (a0_3 : List Nat) (a0_4 : List Int) (a0_5 : List (List Int)) (a0_6 : List T27) (out : (Int × Int × (List Nat) × Int) ⊕ ((Int × Int × (List Nat) × Int) ⊕ ((Int × Int × (List Nat) × Int) ⊕ ((Int × Int × (List Nat) × Int × (List Int)) ⊕ ((Int × Int × (List Nat) × Int × (List Int)) ⊕ ((Int × Int × (List Nat) × Int × (List Int)) ⊕ ((Int × Int × (List Nat) × Int × (List (List Int))) ⊕ (Int × Int)))))))), recf a0_0 a0_1 a0_2 a0_3 a0_4 a0_5 a0_6 = some out → Go.Sx.Fn Try.prog 52 [(Ag [(Vl (.int .i64 a0_0)), (Vl (.int .i64 a0_1)), (Vl (.int .i64 a0_2)), (Sl Kf a0_3), (Sl (Ki .i64) a0_4), (Sl (Kl (Ki .i64)) a0_5), (Sl KT27 a0_6)])] [] (fun w => impl_geometry_r a0_0 a0_1 a0_2 a0_3 a0_4 a0_5 a0_6 out w) (fun w => impl_geometry_h a0_0 a0_1 a0_2 a0_3 a0_4 a0_5 a0_6 out w)) {k : Nat}  (a0_0 : Int) (a0_1 : Int) (a0_2 : Int) (a0_3 : List Nat) (a0_4 : List Int) (a0_5 : List (List Int)) (a0_6 : List T27) {out : (Int × Int × (List Nat) × Int) ⊕ ((Int × Int × (List Nat) × Int) ⊕ ((Int × Int × (List Nat) × Int) ⊕ ((Int × Int × (List Nat) × Int × (List Int)) ⊕ ((Int × Int × (List Nat) × Int × (List Int)) ⊕ ((Int × Int × (List Nat) × Int × (List Int)) ⊕ ((Int × Int × (List Nat) × Int × (List (List Int))) ⊕ (Int × Int)))))))} (hp : impl_geometry_b recf k a0_0 a0_1 a0_2 a0_3 a0_4 a0_5 a0_6 = some out) : Go.Sx.Fn Try.prog 52 [(Ag [(Vl (.int .i64 a0_0)), (Vl (.int .i64 a0_1)), (Vl (.int .i64 a0_2)), (Sl Kf a0_3), (Sl (Ki .i64) a0_4), (Sl (Kl (Ki .i64)) a0_5), (Sl KT27 a0_6)])] [] (fun w => impl_geometry_r a0_0 a0_1 a0_2 a0_3 a0_4 a0_5 a0_6 out w) (fun w => impl_geometry_h a0_0 a0_1 a0_2 a0_3 a0_4 a0_5 a0_6 out w) := by
  unfold impl_geometry_b at hp
  refine fn_of Try.func52 rfl Try.ntmps52 rfl fun E hM => ?_
  refine cx_seq' fun K1 hK1 => ?_
  refine cx_region' ?_
  refine sx_ox' (ox_box' rfl (lv_ag _) rfl rfl) (wt_none' rfl) fun q1 => ?_
  refine sx_rd' (rd_assign' rfl) rfl rfl (wt_none' rfl) ?_
  refine sx_nil' ?_
  show TX E K1 _
  refine tx_k' hK1 ?_
  refine cx_seq' fun K2 hK2 => ?_
  refine cx_plan' [] [] [(0, 1), (1, 1), (2, 1), (3, 1), (4, 0), (5, 1), (6, 1)] mixed (by kernel_rfl) ?_
  refine px_rd' rfl (rd_field' (off := 1) rfl Try.underlying27 rfl info3 rfl) rfl rfl (wt_none' rfl) ?_
  refine px_rd' rfl (rd_load' (i := 0) (o := 1) rfl ⟨rfl, rfl, rfl, rfl⟩ rfl flat3) rfl rfl (wt_none' rfl) ?_
  refine px_rd' rfl (rd_field' (off := 3) rfl Try.underlying27 rfl info22 rfl) rfl rfl (wt_none' rfl) ?_
  refine px_rd' rfl (rd_load' (i := 0) (o := 3) rfl ⟨rfl, rfl, rfl, rfl⟩ rfl flat22) rfl rfl (wt_none' rfl) ?_
  obtain ⟨r12, hr12, hp⟩ := bind_some hp
  refine px_ox' rfl (ox_calln' (ent_fn' Try.func43 isn43 rfl rfl) (impl_floats_sim _ hr12 : Go.Sx.Fn Try.prog 43 [(Sl Kf a0_3)] [] (fun x : Unit => (Sl Kf r12)) (fun x => [])) (Hn := fun x : Unit => [⟨.pointer (some q1), [(Vl (.int .i64 a0_0)), (Vl (.int .i64 a0_1)), (Vl (.int .i64 a0_2)), (Sl Kf a0_3), (Sl (Ki .i64) a0_4), (Sl (Kl (Ki .i64)) a0_5), (Sl KT27 a0_6)], 27, none⟩]) (fun _ => rfl) rfl rfl) rfl bs_nil (wt_none' rfl) fun ⟨⟩ => ?_
  refine px_rd' rfl (rd_assign' rfl) rfl rfl (wt_none' rfl) ?_
  refine px_rd' rfl (rd_assign' rfl) rfl rfl (wt_none' rfl) ?_
  refine px_nil' ?_
  show TX E K2 _
  refine tx_k' hK2 ?_
  refine cx_seq' fun K3 hK3 => ?_
  refine cx_seq' fun K4 hK4 => ?_
  refine cx_region' ?_
  refine sx_rd' (rd_field0' rfl Try.underlying27 rfl info3 rfl) rfl rfl (wt_none' rfl) ?_
  refine sx_rd' (rd_load' (i := 0) (o := 0) rfl ⟨rfl, rfl, rfl, rfl⟩ rfl flat3) rfl rfl (wt_none' rfl) ?_
  refine sx_nil' ?_
  show TX E K4 _
  refine tx_k' hK4 ?_
  refine cx_block' ?_
  refine cx_seq' fun K5 hK5 => ?_
  refine cx_region' ?_
  refine sx_rd' (rd_bin' rfl rfl eg_int ru_eql) rfl rfl (wt_none' rfl) ?_
  refine sx_rd' (rd_assign' rfl) rfl rfl (wt_none' rfl) ?_
  refine sx_nil' ?_
  show TX E K5 _
  refine tx_k' hK5 ?_
  refine cx_cond' rfl (fun h1 => ?_) (fun h1 => ?_)
  · replace hp := (br_t h1).symm.trans hp
    refine cx_seq' fun K6 hK6 => ?_
    refine cx_plan' [] [(5, 1)] [(0, 1), (1, 1), (3, 1), (4, 1), (2, 0), (5, 0), (6, 1), (7, 1)] mixed (by kernel_rfl) ?_
    refine px_rd' rfl (rd_move' rfl) rfl rfl (wt_none' rfl) ?_
    refine px_rd' rfl (rd_move' rfl) rfl rfl (wt_none' rfl) ?_
    refine px_rd' rfl (rd_field' (off := 2) rfl Try.underlying27 rfl info3 rfl) rfl rfl (wt_none' rfl) ?_
    refine px_rd' rfl (rd_load' (i := 0) (o := 2) rfl ⟨rfl, rfl, rfl, rfl⟩ rfl flat3) rfl rfl (wt_none' rfl) ?_
    obtain ⟨r19, hr19, hp⟩ := bind_some hp
    refine px_ox' rfl (ox_calln' (ent_fn' Try.func79 isn79 rfl rfl) (gogeom_NewPointFlat_sim _ _ hr19 : Go.Sx.Fn Try.prog 79 [(Vl (.int .i64 a0_1)), (Sl Kf r12)] [] (fun x : Addr => (Vl (.pointer (some x)))) (fun x => [⟨.pointer (some x), [(Vl (.int .i64 r19.1)), (Vl (.int .i64 r19.2.1)), (Sl Kf r19.2.2.1), (Vl (.int .i64 r19.2.2.2))], 114, none⟩])) (Hn := fun x : Addr => [⟨.pointer (some x), [(Vl (.int .i64 r19.1)), (Vl (.int .i64 r19.2.1)), (Sl Kf r19.2.2.1), (Vl (.int .i64 r19.2.2.2))], 114, none⟩, ⟨.pointer (some q1), [(Vl (.int .i64 a0_0)), (Vl (.int .i64 a0_1)), (Vl (.int .i64 a0_2)), (Sl Kf a0_3), (Sl (Ki .i64) a0_4), (Sl (Kl (Ki .i64)) a0_5), (Sl KT27 a0_6)], 27, none⟩]) (fun _ => rfl) rfl rfl) rfl bs_nil (wt_none' rfl) fun q19 => ?_
    obtain ⟨r22, hr22, hp⟩ := bind_some hp
    refine px_oxb' (is := [0]) rfl (oxb_callg (ent_fn' Try.func87 isn87 rfl rfl) (gogeom_Point_SetSRID_sim _ _ _ _ _ hr22 : Go.Sx.Fn Try.prog 87 [(Vl (.pointer (some q19))), (Vl (.int .i64 a0_2))] [⟨.pointer (some q19), [(Vl (.int .i64 r19.1)), (Vl (.int .i64 r19.2.1)), (Sl Kf r19.2.2.1), (Vl (.int .i64 r19.2.2.2))], 114, none⟩] (fun x : Unit => (Vl (.pointer (some q19)))) (fun x => [⟨.pointer (some q19), [(Vl (.int .i64 r22.1)), (Vl (.int .i64 r22.2.1)), (Sl Kf r22.2.2.1), (Vl (.int .i64 r22.2.2.2))], 114, none⟩])) [0] [1] (by decide) (pick_cons rfl pick_nil) (pick_cons rfl pick_nil) (Hn := fun x : Unit => [⟨.pointer (some q19), [(Vl (.int .i64 r22.1)), (Vl (.int .i64 r22.2.1)), (Sl Kf r22.2.2.1), (Vl (.int .i64 r22.2.2.2))], 114, none⟩, ⟨.pointer (some q1), [(Vl (.int .i64 a0_0)), (Vl (.int .i64 a0_1)), (Vl (.int .i64 a0_2)), (Sl Kf a0_3), (Sl (Ki .i64) a0_4), (Sl (Kl (Ki .i64)) a0_5), (Sl KT27 a0_6)], 27, none⟩]) (fun _ => rfl) rfl rfl) (pick_cons rfl pick_nil) rfl bl_nil (wt_none' rfl) fun ⟨⟩ => ?_
    refine px_rd' rfl (rd_iface' rfl ⟨_, Try.underlying60, fun _ h => (nomatch h)⟩) rfl rfl (wt_none' rfl) ?_
    refine px_rd' rfl (rd_assign' rfl) rfl rfl (wt_none' rfl) ?_
    refine px_nil' ?_
    show TX E K6 _
    refine tx_k' hK6 ?_
    refine cx_retc' ?_
    replace hp := Option.some.inj hp
    subst hp
    refine tx_pick' (L' := [(2, (If 60 (Vl (.pointer (some q19)))))]) (H' := [⟨.pointer (some q19), [(Vl (.int .i64 r22.1)), (Vl (.int .i64 r22.2.1)), (Sl Kf r22.2.2.1), (Vl (.int .i64 r22.2.2.2))], 114, none⟩]) [0] (sub_cons rfl sub_nil) (by decide) (pick_cons rfl pick_nil) ?_
    exact tx_ret1' Try.results52 rfl q19 (rv_tmp' rfl) (List.Sublist.refl _)
  · replace hp := (br_f h1).symm.trans hp
    refine cx_seq' fun K7 hK7 => ?_
    refine cx_region' ?_
    refine sx_rd' (rd_bin' rfl rfl eg_int ru_eql) rfl rfl (wt_none' rfl) ?_
    refine sx_rd' (rd_assign' rfl) rfl rfl (wt_none' rfl) ?_
    refine sx_nil' ?_
    show TX E K7 _
    refine tx_k' hK7 ?_
    refine cx_cond' rfl (fun h2 => ?_) (fun h2 => ?_)
    · replace hp := (br_t h2).symm.trans hp
      refine cx_seq' fun K8 hK8 => ?_
      refine cx_plan' [] [(5, 1)] [(0, 1), (1, 1), (3, 1), (4, 1), (2, 0), (5, 0), (6, 1), (7, 1)] mixed (by kernel_rfl) ?_
      refine px_rd' rfl (rd_move' rfl) rfl rfl (wt_none' rfl) ?_
      refine px_rd' rfl (rd_move' rfl) rfl rfl (wt_none' rfl) ?_
      refine px_rd' rfl (rd_field' (off := 2) rfl Try.underlying27 rfl info3 rfl) rfl rfl (wt_none' rfl) ?_
      refine px_rd' rfl (rd_load' (i := 0) (o := 2) rfl ⟨rfl, rfl, rfl, rfl⟩ rfl flat3) rfl rfl (wt_none' rfl) ?_
      obtain ⟨r28, hr28, hp⟩ := bind_some hp
      refine px_ox' rfl (ox_calln' (ent_fn' Try.func88 isn88 rfl rfl) (gogeom_NewLineStringFlat_sim _ _ hr28 : Go.Sx.Fn Try.prog 88 [(Vl (.int .i64 a0_1)), (Sl Kf r12)] [] (fun x : Addr => (Vl (.pointer (some x)))) (fun x => [⟨.pointer (some x), [(Vl (.int .i64 r28.1)), (Vl (.int .i64 r28.2.1)), (Sl Kf r28.2.2.1), (Vl (.int .i64 r28.2.2.2))], 160, none⟩])) (Hn := fun x : Addr => [⟨.pointer (some x), [(Vl (.int .i64 r28.1)), (Vl (.int .i64 r28.2.1)), (Sl Kf r28.2.2.1), (Vl (.int .i64 r28.2.2.2))], 160, none⟩, ⟨.pointer (some q1), [(Vl (.int .i64 a0_0)), (Vl (.int .i64 a0_1)), (Vl (.int .i64 a0_2)), (Sl Kf a0_3), (Sl (Ki .i64) a0_4), (Sl (Kl (Ki .i64)) a0_5), (Sl KT27 a0_6)], 27, none⟩]) (fun _ => rfl) rfl rfl) rfl bs_nil (wt_none' rfl) fun q28 => ?_
      obtain ⟨r31, hr31, hp⟩ := bind_some hp
      refine px_oxb' (is := [0]) rfl (oxb_callg (ent_fn' Try.func89 isn89 rfl rfl) (gogeom_LineString_SetSRID_sim _ _ _ _ _ hr31 : Go.Sx.Fn Try.prog 89 [(Vl (.pointer (some q28))), (Vl (.int .i64 a0_2))] [⟨.pointer (some q28), [(Vl (.int .i64 r28.1)), (Vl (.int .i64 r28.2.1)), (Sl Kf r28.2.2.1), (Vl (.int .i64 r28.2.2.2))], 160, none⟩] (fun x : Unit => (Vl (.pointer (some q28)))) (fun x => [⟨.pointer (some q28), [(Vl (.int .i64 r31.1)), (Vl (.int .i64 r31.2.1)), (Sl Kf r31.2.2.1), (Vl (.int .i64 r31.2.2.2))], 160, none⟩])) [0] [1] (by decide) (pick_cons rfl pick_nil) (pick_cons rfl pick_nil) (Hn := fun x : Unit => [⟨.pointer (some q28), [(Vl (.int .i64 r31.1)), (Vl (.int .i64 r31.2.1)), (Sl Kf r31.2.2.1), (Vl (.int .i64 r31.2.2.2))], 160, none⟩, ⟨.pointer (some q1), [(Vl (.int .i64 a0_0)), (Vl (.int .i64 a0_1)), (Vl (.int .i64 a0_2)), (Sl Kf a0_3), (Sl (Ki .i64) a0_4), (Sl (Kl (Ki .i64)) a0_5), (Sl KT27 a0_6)], 27, none⟩]) (fun _ => rfl) rfl rfl) (pick_cons rfl pick_nil) rfl bl_nil (wt_none' rfl) fun ⟨⟩ => ?_
      refine px_rd' rfl (rd_iface' rfl ⟨_, Try.underlying94, fun _ h => (nomatch h)⟩) rfl rfl (wt_none' rfl) ?_
      refine px_rd' rfl (rd_assign' rfl) rfl rfl (wt_none' rfl) ?_
      refine px_nil' ?_
      show TX E K8 _
      refine tx_k' hK8 ?_
      refine cx_retc' ?_
      replace hp := Option.some.inj hp
      subst hp
      refine tx_pick' (L' := [(2, (If 94 (Vl (.pointer (some q28)))))]) (H' := [⟨.pointer (some q28), [(Vl (.int .i64 r31.1)), (Vl (.int .i64 r31.2.1)), (Sl Kf r31.2.2.1), (Vl (.int .i64 r31.2.2.2))], 160, none⟩]) [0] (sub_cons rfl sub_nil) (by decide) (pick_cons rfl pick_nil) ?_
      exact tx_ret1' Try.results52 rfl q28 (rv_tmp' rfl) (List.Sublist.refl _)
    · replace hp := (br_f h2).symm.trans hp
      refine cx_seq' fun K9 hK9 => ?_
      refine cx_region' ?_
      refine sx_rd' (rd_bin' rfl rfl eg_int ru_eql) rfl rfl (wt_none' rfl) ?_
      refine sx_rd' (rd_assign' rfl) rfl rfl (wt_none' rfl) ?_
      refine sx_nil' ?_
      show TX E K9 _
      refine tx_k' hK9 ?_
      refine cx_cond' rfl (fun h3 => ?_) (fun h3 => ?_)
      · replace hp := (br_t h3).symm.trans hp
        refine cx_seq' fun K10 hK10 => ?_
        refine cx_plan' [] [(5, 1)] [(0, 1), (1, 1), (3, 1), (4, 1), (2, 0), (5, 0), (6, 1), (7, 1)] mixed (by kernel_rfl) ?_
        refine px_rd' rfl (rd_move' rfl) rfl rfl (wt_none' rfl) ?_
        refine px_rd' rfl (rd_move' rfl) rfl rfl (wt_none' rfl) ?_
        refine px_rd' rfl (rd_field' (off := 2) rfl Try.underlying27 rfl info3 rfl) rfl rfl (wt_none' rfl) ?_
        refine px_rd' rfl (rd_load' (i := 0) (o := 2) rfl ⟨rfl, rfl, rfl, rfl⟩ rfl flat3) rfl rfl (wt_none' rfl) ?_
        obtain ⟨r37, hr37, hp⟩ := bind_some hp
        refine px_ox' rfl (ox_calln' (ent_fn' Try.func90 isn90 rfl rfl) (gogeom_NewLinearRingFlat_sim _ _ hr37 : Go.Sx.Fn Try.prog 90 [(Vl (.int .i64 a0_1)), (Sl Kf r12)] [] (fun x : Addr => (Vl (.pointer (some x)))) (fun x => [⟨.pointer (some x), [(Vl (.int .i64 r37.1)), (Vl (.int .i64 r37.2.1)), (Sl Kf r37.2.2.1), (Vl (.int .i64 r37.2.2.2))], 151, none⟩])) (Hn := fun x : Addr => [⟨.pointer (some x), [(Vl (.int .i64 r37.1)), (Vl (.int .i64 r37.2.1)), (Sl Kf r37.2.2.1), (Vl (.int .i64 r37.2.2.2))], 151, none⟩, ⟨.pointer (some q1), [(Vl (.int .i64 a0_0)), (Vl (.int .i64 a0_1)), (Vl (.int .i64 a0_2)), (Sl Kf a0_3), (Sl (Ki .i64) a0_4), (Sl (Kl (Ki .i64)) a0_5), (Sl KT27 a0_6)], 27, none⟩]) (fun _ => rfl) rfl rfl) rfl bs_nil (wt_none' rfl) fun q37 => ?_
        obtain ⟨r40, hr40, hp⟩ := bind_some hp
        refine px_oxb' (is := [0]) rfl (oxb_callg (ent_fn' Try.func91 isn91 rfl rfl) (gogeom_LinearRing_SetSRID_sim _ _ _ _ _ hr40 : Go.Sx.Fn Try.prog 91 [(Vl (.pointer (some q37))), (Vl (.int .i64 a0_2))] [⟨.pointer (some q37), [(Vl (.int .i64 r37.1)), (Vl (.int .i64 r37.2.1)), (Sl Kf r37.2.2.1), (Vl (.int .i64 r37.2.2.2))], 151, none⟩] (fun x : Unit => (Vl (.pointer (some q37)))) (fun x => [⟨.pointer (some q37), [(Vl (.int .i64 r40.1)), (Vl (.int .i64 r40.2.1)), (Sl Kf r40.2.2.1), (Vl (.int .i64 r40.2.2.2))], 151, none⟩])) [0] [1] (by decide) (pick_cons rfl pick_nil) (pick_cons rfl pick_nil) (Hn := fun x : Unit => [⟨.pointer (some q37), [(Vl (.int .i64 r40.1)), (Vl (.int .i64 r40.2.1)), (Sl Kf r40.2.2.1), (Vl (.int .i64 r40.2.2.2))], 151, none⟩, ⟨.pointer (some q1), [(Vl (.int .i64 a0_0)), (Vl (.int .i64 a0_1)), (Vl (.int .i64 a0_2)), (Sl Kf a0_3), (Sl (Ki .i64) a0_4), (Sl (Kl (Ki .i64)) a0_5), (Sl KT27 a0_6)], 27, none⟩]) (fun _ => rfl) rfl rfl) (pick_cons rfl pick_nil) rfl bl_nil (wt_none' rfl) fun ⟨⟩ => ?_
        refine px_rd' rfl (rd_iface' rfl ⟨_, Try.underlying89, fun _ h => (nomatch h)⟩) rfl rfl (wt_none' rfl) ?_
        refine px_rd' rfl (rd_assign' rfl) rfl rfl (wt_none' rfl) ?_
        refine px_nil' ?_
        show TX E K10 _
        refine tx_k' hK10 ?_
        refine cx_retc' ?_
        replace hp := Option.some.inj hp
        subst hp
        refine tx_pick' (L' := [(2, (If 89 (Vl (.pointer (some q37)))))]) (H' := [⟨.pointer (some q37), [(Vl (.int .i64 r40.1)), (Vl (.int .i64 r40.2.1)), (Sl Kf r40.2.2.1), (Vl (.int .i64 r40.2.2.2))], 151, none⟩]) [0] (sub_cons rfl sub_nil) (by decide) (pick_cons rfl pick_nil) ?_
        exact tx_ret1' Try.results52 rfl q37 (rv_tmp' rfl) (List.Sublist.refl _)
      · replace hp := (br_f h3).symm.trans hp
        refine cx_seq' fun K11 hK11 => ?_
        refine cx_region' ?_
        refine sx_rd' (rd_bin' rfl rfl eg_int ru_eql) rfl rfl (wt_none' rfl) ?_
        refine sx_rd' (rd_assign' rfl) rfl rfl (wt_none' rfl) ?_
        refine sx_nil' ?_
        show TX E K11 _
        refine tx_k' hK11 ?_
        refine cx_cond' rfl (fun h4 => ?_) (fun h4 => ?_)
        · replace hp := (br_t h4).symm.trans hp
          refine cx_seq' fun K12 hK12 => ?_
          refine cx_plan' [] [(8, 1)] [(0, 1), (1, 1), (2, 1), (3, 1), (6, 1), (7, 1), (4, 0), (5, 0), (8, 0), (9, 1), (10, 1)] mixed (by kernel_rfl) ?_
          refine px_rd' rfl (rd_move' rfl) rfl rfl (wt_none' rfl) ?_
          refine px_rd' rfl (rd_move' rfl) rfl rfl (wt_none' rfl) ?_
          refine px_rd' rfl (rd_field' (off := 4) rfl Try.underlying27 rfl info23 rfl) rfl rfl (wt_none' rfl) ?_
          refine px_rd' rfl (rd_load' (i := 0) (o := 4) rfl ⟨rfl, rfl, rfl, rfl⟩ rfl flat23) rfl rfl (wt_none' rfl) ?_
          refine px_rd' rfl (rd_field' (off := 2) rfl Try.underlying27 rfl info3 rfl) rfl rfl (wt_none' rfl) ?_
          refine px_rd' rfl (rd_load' (i := 0) (o := 2) rfl ⟨rfl, rfl, rfl, rfl⟩ rfl flat3) rfl rfl (wt_none' rfl) ?_
          obtain ⟨r48, hr48, hp⟩ := bind_some hp
          rcases r48 with y4 | y4
          · dsimp only at hp
            refine px_ox' rfl (ox_calln' (ent_fn' Try.func84 isn84 rfl rfl) (impl_ints_sim _ hr48 : Go.Sx.Fn Try.prog 84 [(Sl (Ki .i64) a0_4)] [] (fun x : Unit => (Vl (.slice none 0 0))) (fun x => [])) (Hn := fun x : Unit => [⟨.pointer (some q1), [(Vl (.int .i64 a0_0)), (Vl (.int .i64 a0_1)), (Vl (.int .i64 a0_2)), (Sl Kf a0_3), (Sl (Ki .i64) a0_4), (Sl (Kl (Ki .i64)) a0_5), (Sl KT27 a0_6)], 27, none⟩]) (fun _ => rfl) rfl rfl) rfl bs_nil (wt_none' rfl) fun ⟨⟩ => ?_
            obtain ⟨r49, hr49, hp⟩ := bind_some hp
            refine px_ox' rfl (ox_calln' (ent_fn' Try.func92 isn92 rfl rfl) (gogeom_NewPolygonFlat_sim _ _ hr49 : Go.Sx.Fn Try.prog 92 [(Vl (.int .i64 a0_1)), (Sl Kf r12), (Vl (.slice none 0 0))] [] (fun x : Addr => (Vl (.pointer (some x)))) (fun x => [⟨.pointer (some x), [(Vl (.int .i64 r49.1)), (Vl (.int .i64 r49.2.1)), (Sl Kf r49.2.2.1), (Vl (.int .i64 r49.2.2.2)), (Vl (.slice none 0 0))], 155, none⟩])) (Hn := fun x : Addr => [⟨.pointer (some x), [(Vl (.int .i64 r49.1)), (Vl (.int .i64 r49.2.1)), (Sl Kf r49.2.2.1), (Vl (.int .i64 r49.2.2.2)), (Vl (.slice none 0 0))], 155, none⟩, ⟨.pointer (some q1), [(Vl (.int .i64 a0_0)), (Vl (.int .i64 a0_1)), (Vl (.int .i64 a0_2)), (Sl Kf a0_3), (Sl (Ki .i64) a0_4), (Sl (Kl (Ki .i64)) a0_5), (Sl KT27 a0_6)], 27, none⟩]) (fun _ => rfl) rfl rfl) rfl bs_nil (wt_none' rfl) fun q49 => ?_
            obtain ⟨r52, hr52, hp⟩ := bind_some hp
            refine px_oxb' (is := [0]) rfl (oxb_callg (ent_fn' Try.func93 isn93 rfl rfl) (gogeom_Polygon_SetSRID_sim _ _ _ _ _ hr52 : Go.Sx.Fn Try.prog 93 [(Vl (.pointer (some q49))), (Vl (.int .i64 a0_2))] [⟨.pointer (some q49), [(Vl (.int .i64 r49.1)), (Vl (.int .i64 r49.2.1)), (Sl Kf r49.2.2.1), (Vl (.int .i64 r49.2.2.2)), (Vl (.slice none 0 0))], 155, none⟩] (fun x : Unit => (Vl (.pointer (some q49)))) (fun x => [⟨.pointer (some q49), [(Vl (.int .i64 r52.1)), (Vl (.int .i64 r52.2.1)), (Sl Kf r52.2.2.1), (Vl (.int .i64 r52.2.2.2)), (Vl (.slice none 0 0))], 155, none⟩])) [0] [1] (by decide) (pick_cons rfl pick_nil) (pick_cons rfl pick_nil) (Hn := fun x : Unit => [⟨.pointer (some q49), [(Vl (.int .i64 r52.1)), (Vl (.int .i64 r52.2.1)), (Sl Kf r52.2.2.1), (Vl (.int .i64 r52.2.2.2)), (Vl (.slice none 0 0))], 155, none⟩, ⟨.pointer (some q1), [(Vl (.int .i64 a0_0)), (Vl (.int .i64 a0_1)), (Vl (.int .i64 a0_2)), (Sl Kf a0_3), (Sl (Ki .i64) a0_4), (Sl (Kl (Ki .i64)) a0_5), (Sl KT27 a0_6)], 27, none⟩]) (fun _ => rfl) rfl rfl) (pick_cons rfl pick_nil) rfl bl_nil (wt_none' rfl) fun ⟨⟩ => ?_
            refine px_rd' rfl (rd_iface' rfl ⟨_, Try.underlying87, fun _ h => (nomatch h)⟩) rfl rfl (wt_none' rfl) ?_
            refine px_rd' rfl (rd_assign' rfl) rfl rfl (wt_none' rfl) ?_
            refine px_nil' ?_
            show TX E K12 _
            refine tx_k' hK12 ?_
            refine cx_retc' ?_
            replace hp := Option.some.inj hp
            subst hp
            refine tx_cell' 0 4 (y := (Sl (Ki .i64) [])) rfl rfl imp_nil (H' := [⟨.pointer (some q49), [(Vl (.int .i64 r52.1)), (Vl (.int .i64 r52.2.1)), (Sl Kf r52.2.2.1), (Vl (.int .i64 r52.2.2.2)), (Sl (Ki .i64) [])], 155, none⟩, ⟨.pointer (some q1), [(Vl (.int .i64 a0_0)), (Vl (.int .i64 a0_1)), (Vl (.int .i64 a0_2)), (Sl Kf a0_3), (Sl (Ki .i64) a0_4), (Sl (Kl (Ki .i64)) a0_5), (Sl KT27 a0_6)], 27, none⟩]) rfl ?_
            refine tx_pick' (L' := [(2, (If 87 (Vl (.pointer (some q49)))))]) (H' := [⟨.pointer (some q49), [(Vl (.int .i64 r52.1)), (Vl (.int .i64 r52.2.1)), (Sl Kf r52.2.2.1), (Vl (.int .i64 r52.2.2.2)), (Sl (Ki .i64) [])], 155, none⟩]) [0] (sub_cons rfl sub_nil) (by decide) (pick_cons rfl pick_nil) ?_
            exact tx_ret1' Try.results52 rfl q49 (rv_tmp' rfl) (List.Sublist.refl _)
          · dsimp only at hp
            refine px_ox' rfl (ox_calln' (ent_fn' Try.func84 isn84 rfl rfl) (impl_ints_sim _ hr48 : Go.Sx.Fn Try.prog 84 [(Sl (Ki .i64) a0_4)] [] (fun x : Unit => (Sl (Ki .i64) y4)) (fun x => [])) (Hn := fun x : Unit => [⟨.pointer (some q1), [(Vl (.int .i64 a0_0)), (Vl (.int .i64 a0_1)), (Vl (.int .i64 a0_2)), (Sl Kf a0_3), (Sl (Ki .i64) a0_4), (Sl (Kl (Ki .i64)) a0_5), (Sl KT27 a0_6)], 27, none⟩]) (fun _ => rfl) rfl rfl) rfl bs_nil (wt_none' rfl) fun ⟨⟩ => ?_
            obtain ⟨r49, hr49, hp⟩ := bind_some hp
            refine px_ox' rfl (ox_calln' (ent_fn' Try.func92 isn92 rfl rfl) (gogeom_NewPolygonFlat_v2_sim _ _ _ hr49 : Go.Sx.Fn Try.prog 92 [(Vl (.int .i64 a0_1)), (Sl Kf r12), (Sl (Ki .i64) y4)] [] (fun x : Addr => (Vl (.pointer (some x)))) (fun x => [⟨.pointer (some x), [(Vl (.int .i64 r49.1)), (Vl (.int .i64 r49.2.1)), (Sl Kf r49.2.2.1), (Vl (.int .i64 r49.2.2.2.1)), (Sl (Ki .i64) r49.2.2.2.2)], 155, none⟩])) (Hn := fun x : Addr => [⟨.pointer (some x), [(Vl (.int .i64 r49.1)), (Vl (.int .i64 r49.2.1)), (Sl Kf r49.2.2.1), (Vl (.int .i64 r49.2.2.2.1)), (Sl (Ki .i64) r49.2.2.2.2)], 155, none⟩, ⟨.pointer (some q1), [(Vl (.int .i64 a0_0)), (Vl (.int .i64 a0_1)), (Vl (.int .i64 a0_2)), (Sl Kf a0_3), (Sl (Ki .i64) a0_4), (Sl (Kl (Ki .i64)) a0_5), (Sl KT27 a0_6)], 27, none⟩]) (fun _ => rfl) rfl rfl) rfl bs_nil (wt_none' rfl) fun q49 => ?_
            obtain ⟨r52, hr52, hp⟩ := bind_some hp
            refine px_oxb' (is := [0]) rfl (oxb_callg (ent_fn' Try.func93 isn93 rfl rfl) (gogeom_Polygon_SetSRID_v2_sim _ _ _ _ _ _ hr52 : Go.Sx.Fn Try.prog 93 [(Vl (.pointer (some q49))), (Vl (.int .i64 a0_2))] [⟨.pointer (some q49), [(Vl (.int .i64 r49.1)), (Vl (.int .i64 r49.2.1)), (Sl Kf r49.2.2.1), (Vl (.int .i64 r49.2.2.2.1)), (Sl (Ki .i64) r49.2.2.2.2)], 155, none⟩] (fun x : Unit => (Vl (.pointer (some q49)))) (fun x => [⟨.pointer (some q49), [(Vl (.int .i64 r52.1)), (Vl (.int .i64 r52.2.1)), (Sl Kf r52.2.2.1), (Vl (.int .i64 r52.2.2.2.1)), (Sl (Ki .i64) r52.2.2.2.2)], 155, none⟩])) [0] [1] (by decide) (pick_cons rfl pick_nil) (pick_cons rfl pick_nil) (Hn := fun x : Unit => [⟨.pointer (some q49), [(Vl (.int .i64 r52.1)), (Vl (.int .i64 r52.2.1)), (Sl Kf r52.2.2.1), (Vl (.int .i64 r52.2.2.2.1)), (Sl (Ki .i64) r52.2.2.2.2)], 155, none⟩, ⟨.pointer (some q1), [(Vl (.int .i64 a0_0)), (Vl (.int .i64 a0_1)), (Vl (.int .i64 a0_2)), (Sl Kf a0_3), (Sl (Ki .i64) a0_4), (Sl (Kl (Ki .i64)) a0_5), (Sl KT27 a0_6)], 27, none⟩]) (fun _ => rfl) rfl rfl) (pick_cons rfl pick_nil) rfl bl_nil (wt_none' rfl) fun ⟨⟩ => ?_
            refine px_rd' rfl (rd_iface' rfl ⟨_, Try.underlying87, fun _ h => (nomatch h)⟩) rfl rfl (wt_none' rfl) ?_
            refine px_rd' rfl (rd_assign' rfl) rfl rfl (wt_none' rfl) ?_
            refine px_nil' ?_
            show TX E K12 _
            refine tx_k' hK12 ?_
            refine cx_retc' ?_
            replace hp := Option.some.inj hp
            subst hp
            refine tx_pick' (L' := [(2, (If 87 (Vl (.pointer (some q49)))))]) (H' := [⟨.pointer (some q49), [(Vl (.int .i64 r52.1)), (Vl (.int .i64 r52.2.1)), (Sl Kf r52.2.2.1), (Vl (.int .i64 r52.2.2.2.1)), (Sl (Ki .i64) r52.2.2.2.2)], 155, none⟩]) [0] (sub_cons rfl sub_nil) (by decide) (pick_cons rfl pick_nil) ?_
            exact tx_ret1' Try.results52 rfl q49 (rv_tmp' rfl) (List.Sublist.refl _)
        · replace hp := (br_f h4).symm.trans hp
          refine cx_seq' fun K13 hK13 => ?_
          refine cx_region' ?_
          refine sx_rd' (rd_bin' rfl rfl eg_int ru_eql) rfl rfl (wt_none' rfl) ?_
          refine sx_rd' (rd_assign' rfl) rfl rfl (wt_none' rfl) ?_
          refine sx_nil' ?_
          show TX E K13 _
          refine tx_k' hK13 ?_
          refine cx_cond' rfl (fun h5 => ?_) (fun h5 => ?_)
          · replace hp := (br_t h5).symm.trans hp
            refine cx_seq' fun K14 hK14 => ?_
            refine cx_plan' [q1.block] [(7, 1), (10, 1)] [(0, 1), (1, 1), (2, 1), (3, 1), (8, 2), (9, 2), (4, 0), (5, 0), (6, 0), (7, 0), (10, 0), (11, 1), (12, 1)] mixed (by kernel_rfl) ?_
            refine px_rd' rfl (rd_move' rfl) rfl rfl (wt_none' rfl) ?_
            refine px_rd' rfl (rd_move' rfl) rfl rfl (wt_none' rfl) ?_
            refine px_rd' rfl (rd_field' (off := 4) rfl Try.underlying27 rfl info23 rfl) rfl rfl (wt_none' rfl) ?_
            refine px_rd' rfl (rd_load' (i := 0) (o := 4) rfl ⟨rfl, rfl, rfl, rfl⟩ rfl flat23) rfl rfl (wt_none' rfl) ?_
            refine px_rb' rfl (rb_field' (off := 2) rfl Try.underlying27 rfl info3 rfl) rfl rfl (wt_none' rfl) ?_
            refine px_rb' rfl (rb_load' (i := 0) (o := 2) rfl ⟨rfl, rfl, rfl, rfl⟩ rfl flat3 (by simp)) rfl rfl (wt_none' rfl) ?_
            obtain ⟨r60, hr60, hp⟩ := bind_some hp
            rcases r60 with y6 | y6
            · dsimp only at hp
              refine px_ox' rfl (ox_calln' (ent_fn' Try.func84 isn84 rfl rfl) (impl_ints_sim _ hr60 : Go.Sx.Fn Try.prog 84 [(Sl (Ki .i64) a0_4)] [] (fun x : Unit => (Vl (.slice none 0 0))) (fun x => [])) (Hn := fun x : Unit => [⟨.pointer (some q1), [(Vl (.int .i64 a0_0)), (Vl (.int .i64 a0_1)), (Vl (.int .i64 a0_2)), (Sl Kf a0_3), (Sl (Ki .i64) a0_4), (Sl (Kl (Ki .i64)) a0_5), (Sl KT27 a0_6)], 27, none⟩]) (fun _ => rfl) rfl rfl) rfl (bs_cons (m := 0) rfl rfl rfl bs_nil) (wt_none' rfl) fun ⟨⟩ => ?_
              obtain ⟨r61, hr61, hp⟩ := bind_some hp
              refine px_ox' rfl (ox_calln' (ent_fn' Try.func95 isn95 rfl rfl) (gogeom_NewMultiPointFlatOptionWithEnds_sim hr61 : Go.Sx.Fn Try.prog 95 [(Vl (.slice none 0 0))] [] (fun x : Addr => (Vl (.func (.func 115) #[] ⟨[.pointer (some x)]⟩))) (fun x => [⟨.pointer (some x), [(Vl (.slice none 0 0))], 23, none⟩])) (Hn := fun x : Addr => [⟨.pointer (some x), [(Vl (.slice none 0 0))], 23, none⟩, ⟨.pointer (some q1), [(Vl (.int .i64 a0_0)), (Vl (.int .i64 a0_1)), (Vl (.int .i64 a0_2)), (Sl Kf a0_3), (Sl (Ki .i64) a0_4), (Sl (Kl (Ki .i64)) a0_5), (Sl KT27 a0_6)], 27, none⟩]) (fun _ => rfl) rfl rfl) rfl (bs_cons (m := 0) rfl rfl rfl bs_nil) (wt_none' rfl) fun q61 => ?_
              refine px_ox' rfl (ox_srow' (es := 1) (r := [(Vl (.func (.func 115) #[] ⟨[.pointer (some q61)]⟩))]) (qs := [(0, [(Vl (.func (.func 115) #[] ⟨[.pointer (some q61)]⟩))])]) ⟨rfl, ⟨_, rfl, (lv_vl rfl rfl)⟩, trivial⟩ Try.underlying177 info133 rfl rfl rfl rfl rfl rfl rfl rfl rfl) rfl (bs_cons (m := 1) rfl rfl rfl bs_nil) (wt_none' rfl) fun q62 => ?_
              obtain ⟨r63, hr63, hp⟩ := bind_some hp
              refine px_oxb' (is := [0, 1]) rfl (oxb_callg (ent_fn' Try.func94 isn94 rfl rfl) (gogeom_NewMultiPointFlat_sim _ _ hr63 : Go.Sx.Fn Try.prog 94 [(Vl (.int .i64 a0_1)), (Sl Kf r12), (Vl (.slice (some q62) 1 1))] [⟨.slice (some q62) 1 1, [(Vl (.func (.func 115) #[] ⟨[.pointer (some q61)]⟩))], 133, some 1⟩, ⟨.pointer (some q61), [(Vl (.slice none 0 0))], 23, none⟩] (fun x : Addr × Gs => (Vl (.pointer (some x.1)))) (fun x => [⟨.pointer (some q61), [(Vl (.slice none 0 0))], 23, none⟩, ⟨.pointer (some x.1), [(Vl (.int .i64 r63.1)), (Vl (.int .i64 r63.2.1)), (Sl Kf r63.2.2.1), (Vl (.int .i64 r63.2.2.2.1)), (Vl (Vs x.2))], 158, none⟩, (Rw (Ki .i64) 3 (Vs x.2) r63.2.2.2.2)])) [0, 1] [2] (by decide) (pick_cons rfl (pick_cons rfl pick_nil)) (pick_cons rfl pick_nil) (Hn := fun x : Addr × Gs => [⟨.pointer (some q61), [(Vl (.slice none 0 0))], 23, none⟩, ⟨.pointer (some x.1), [(Vl (.int .i64 r63.1)), (Vl (.int .i64 r63.2.1)), (Sl Kf r63.2.2.1), (Vl (.int .i64 r63.2.2.2.1)), (Vl (Vs x.2))], 158, none⟩, (Rw (Ki .i64) 3 (Vs x.2) r63.2.2.2.2), ⟨.pointer (some q1), [(Vl (.int .i64 a0_0)), (Vl (.int .i64 a0_1)), (Vl (.int .i64 a0_2)), (Sl Kf a0_3), (Sl (Ki .i64) a0_4), (Sl (Kl (Ki .i64)) a0_5), (Sl KT27 a0_6)], 27, none⟩]) (fun _ => rfl) rfl rfl) (pick_cons rfl (pick_cons rfl pick_nil)) rfl (bl_cons (m := 2) (by decide) rfl rfl bl_nil) (wt_none' rfl) fun ⟨q63, g63⟩ => ?_
              obtain ⟨r66, hr66, hp⟩ := bind_some hp
              refine px_oxb' (is := [1, 2]) rfl (oxb_callg (ent_fn' Try.func96 isn96 rfl rfl) (gogeom_MultiPoint_SetSRID_sim _ _ _ _ _ _ hr66 : Go.Sx.Fn Try.prog 96 [(Vl (.pointer (some q63))), (Vl (.int .i64 a0_2))] [⟨.pointer (some q63), [(Vl (.int .i64 r63.1)), (Vl (.int .i64 r63.2.1)), (Sl Kf r63.2.2.1), (Vl (.int .i64 r63.2.2.2.1)), (Vl (Vs g63))], 158, none⟩, (Rw (Ki .i64) 3 (Vs g63) r63.2.2.2.2)] (fun x : Unit => (Vl (.pointer (some q63)))) (fun x => [⟨.pointer (some q63), [(Vl (.int .i64 r66.1)), (Vl (.int .i64 r66.2.1)), (Sl Kf r66.2.2.1), (Vl (.int .i64 r66.2.2.2.1)), (Vl (Vs g63))], 158, none⟩, (Rw (Ki .i64) 3 (Vs g63) r66.2.2.2.2)])) [1, 2] [0, 3] (by decide) (pick_cons rfl (pick_cons rfl pick_nil)) (pick_cons rfl (pick_cons rfl pick_nil)) (Hn := fun x : Unit => [⟨.pointer (some q63), [(Vl (.int .i64 r66.1)), (Vl (.int .i64 r66.2.1)), (Sl Kf r66.2.2.1), (Vl (.int .i64 r66.2.2.2.1)), (Vl (Vs g63))], 158, none⟩, (Rw (Ki .i64) 3 (Vs g63) r66.2.2.2.2), ⟨.pointer (some q61), [(Vl (.slice none 0 0))], 23, none⟩, ⟨.pointer (some q1), [(Vl (.int .i64 a0_0)), (Vl (.int .i64 a0_1)), (Vl (.int .i64 a0_2)), (Sl Kf a0_3), (Sl (Ki .i64) a0_4), (Sl (Kl (Ki .i64)) a0_5), (Sl KT27 a0_6)], 27, none⟩]) (fun _ => rfl) rfl rfl) (pick_cons rfl (pick_cons rfl pick_nil)) rfl (bl_cons (m := 3) (by decide) rfl rfl bl_nil) (wt_none' rfl) fun ⟨⟩ => ?_
              refine px_rd' rfl (rd_iface' rfl ⟨_, Try.underlying90, fun _ h => (nomatch h)⟩) rfl rfl (wt_none' rfl) ?_
              refine px_rd' rfl (rd_assign' rfl) rfl rfl (wt_none' rfl) ?_
              refine px_nil' ?_
              show TX E K14 _
              refine tx_k' hK14 ?_
              refine cx_retc' ?_
              refine tx_fz' (frz_row 1 [] (K := (Ki .i64)) (xs := r66.2.2.2.2) (by decide) rfl trivial (H' := [⟨.pointer (some q63), [(Vl (.int .i64 r66.1)), (Vl (.int .i64 r66.2.1)), (Sl Kf r66.2.2.1), (Vl (.int .i64 r66.2.2.2.1)), (Sl (Ki .i64) r66.2.2.2.2)], 158, none⟩, ⟨.pointer (some q61), [(Vl (.slice none 0 0))], 23, none⟩, ⟨.pointer (some q1), [(Vl (.int .i64 a0_0)), (Vl (.int .i64 a0_1)), (Vl (.int .i64 a0_2)), (Sl Kf a0_3), (Sl (Ki .i64) a0_4), (Sl (Kl (Ki .i64)) a0_5), (Sl KT27 a0_6)], 27, none⟩]) (frzH_cons rfl rfl rfl (frzL_cons frz_same (frzL_cons frz_same (frzL_cons frz_same (frzL_cons frz_same (frzL_cons frz_it frzL_refl))))) (frzH_cons rfl rfl rfl frzL_refl (frzH_cons rfl rfl rfl frzL_refl frzH_refl)))) ?_
              replace hp := Option.some.inj hp
              subst hp
              refine tx_pick' (L' := [(2, (If 90 (Vl (.pointer (some q63)))))]) (H' := [⟨.pointer (some q63), [(Vl (.int .i64 r66.1)), (Vl (.int .i64 r66.2.1)), (Sl Kf r66.2.2.1), (Vl (.int .i64 r66.2.2.2.1)), (Sl (Ki .i64) r66.2.2.2.2)], 158, none⟩]) [0] (sub_cons rfl sub_nil) (by decide) (pick_cons rfl pick_nil) ?_
              exact tx_ret1' Try.results52 rfl q63 (rv_tmp' rfl) (List.Sublist.refl _)
            · dsimp only at hp
              refine px_ox' rfl (ox_calln' (ent_fn' Try.func84 isn84 rfl rfl) (impl_ints_sim _ hr60 : Go.Sx.Fn Try.prog 84 [(Sl (Ki .i64) a0_4)] [] (fun x : Unit => (Sl (Ki .i64) y6)) (fun x => [])) (Hn := fun x : Unit => [⟨.pointer (some q1), [(Vl (.int .i64 a0_0)), (Vl (.int .i64 a0_1)), (Vl (.int .i64 a0_2)), (Sl Kf a0_3), (Sl (Ki .i64) a0_4), (Sl (Kl (Ki .i64)) a0_5), (Sl KT27 a0_6)], 27, none⟩]) (fun _ => rfl) rfl rfl) rfl (bs_cons (m := 0) rfl rfl rfl bs_nil) (wt_none' rfl) fun ⟨⟩ => ?_
              obtain ⟨r61, hr61, hp⟩ := bind_some hp
              refine px_ox' rfl (ox_calln' (ent_fn' Try.func95 isn95 rfl rfl) (gogeom_NewMultiPointFlatOptionWithEnds_v2_sim _ hr61 : Go.Sx.Fn Try.prog 95 [(Sl (Ki .i64) y6)] [] (fun x : Addr => (Vl (.func (.func 115) #[] ⟨[.pointer (some x)]⟩))) (fun x => [⟨.pointer (some x), [(Sl (Ki .i64) r61)], 23, none⟩])) (Hn := fun x : Addr => [⟨.pointer (some x), [(Sl (Ki .i64) r61)], 23, none⟩, ⟨.pointer (some q1), [(Vl (.int .i64 a0_0)), (Vl (.int .i64 a0_1)), (Vl (.int .i64 a0_2)), (Sl Kf a0_3), (Sl (Ki .i64) a0_4), (Sl (Kl (Ki .i64)) a0_5), (Sl KT27 a0_6)], 27, none⟩]) (fun _ => rfl) rfl rfl) rfl (bs_cons (m := 0) rfl rfl rfl bs_nil) (wt_none' rfl) fun q61 => ?_
              refine px_ox' rfl (ox_srow' (es := 1) (r := [(Vl (.func (.func 115) #[] ⟨[.pointer (some q61)]⟩))]) (qs := [(0, [(Vl (.func (.func 115) #[] ⟨[.pointer (some q61)]⟩))])]) ⟨rfl, ⟨_, rfl, (lv_vl rfl rfl)⟩, trivial⟩ Try.underlying177 info133 rfl rfl rfl rfl rfl rfl rfl rfl rfl) rfl (bs_cons (m := 1) rfl rfl rfl bs_nil) (wt_none' rfl) fun q62 => ?_
              obtain ⟨r63, hr63, hp⟩ := bind_some hp
              refine px_oxb' (is := [0, 1]) rfl (oxb_callg (ent_fn' Try.func94 isn94 rfl rfl) (gogeom_NewMultiPointFlat_v2_sim _ _ _ hr63 : Go.Sx.Fn Try.prog 94 [(Vl (.int .i64 a0_1)), (Sl Kf r12), (Vl (.slice (some q62) 1 1))] [⟨.slice (some q62) 1 1, [(Vl (.func (.func 115) #[] ⟨[.pointer (some q61)]⟩))], 133, some 1⟩, ⟨.pointer (some q61), [(Sl (Ki .i64) r61)], 23, none⟩] (fun x : Addr => (Vl (.pointer (some x)))) (fun x => [⟨.pointer (some q61), [(Sl (Ki .i64) r63.1)], 23, none⟩, ⟨.pointer (some x), [(Vl (.int .i64 r63.2.1)), (Vl (.int .i64 r63.2.2.1)), (Sl Kf r63.2.2.2.1), (Vl (.int .i64 r63.2.2.2.2)), (Sl (Ki .i64) r63.1)], 158, none⟩])) [0, 1] [2] (by decide) (pick_cons rfl (pick_cons rfl pick_nil)) (pick_cons rfl pick_nil) (Hn := fun x : Addr => [⟨.pointer (some q61), [(Sl (Ki .i64) r63.1)], 23, none⟩, ⟨.pointer (some x), [(Vl (.int .i64 r63.2.1)), (Vl (.int .i64 r63.2.2.1)), (Sl Kf r63.2.2.2.1), (Vl (.int .i64 r63.2.2.2.2)), (Sl (Ki .i64) r63.1)], 158, none⟩, ⟨.pointer (some q1), [(Vl (.int .i64 a0_0)), (Vl (.int .i64 a0_1)), (Vl (.int .i64 a0_2)), (Sl Kf a0_3), (Sl (Ki .i64) a0_4), (Sl (Kl (Ki .i64)) a0_5), (Sl KT27 a0_6)], 27, none⟩]) (fun _ => rfl) rfl rfl) (pick_cons rfl (pick_cons rfl pick_nil)) rfl (bl_cons (m := 2) (by decide) rfl rfl bl_nil) (wt_none' rfl) fun q63 => ?_
              obtain ⟨r66, hr66, hp⟩ := bind_some hp
              refine px_oxb' (is := [1]) rfl (oxb_callg (ent_fn' Try.func96 isn96 rfl rfl) (gogeom_MultiPoint_SetSRID_v2_sim _ _ _ _ _ _ hr66 : Go.Sx.Fn Try.prog 96 [(Vl (.pointer (some q63))), (Vl (.int .i64 a0_2))] [⟨.pointer (some q63), [(Vl (.int .i64 r63.2.1)), (Vl (.int .i64 r63.2.2.1)), (Sl Kf r63.2.2.2.1), (Vl (.int .i64 r63.2.2.2.2)), (Sl (Ki .i64) r63.1)], 158, none⟩] (fun x : Unit => (Vl (.pointer (some q63)))) (fun x => [⟨.pointer (some q63), [(Vl (.int .i64 r66.1)), (Vl (.int .i64 r66.2.1)), (Sl Kf r66.2.2.1), (Vl (.int .i64 r66.2.2.2.1)), (Sl (Ki .i64) r66.2.2.2.2)], 158, none⟩])) [1] [0, 2] (by decide) (pick_cons rfl pick_nil) (pick_cons rfl (pick_cons rfl pick_nil)) (Hn := fun x : Unit => [⟨.pointer (some q63), [(Vl (.int .i64 r66.1)), (Vl (.int .i64 r66.2.1)), (Sl Kf r66.2.2.1), (Vl (.int .i64 r66.2.2.2.1)), (Sl (Ki .i64) r66.2.2.2.2)], 158, none⟩, ⟨.pointer (some q61), [(Sl (Ki .i64) r63.1)], 23, none⟩, ⟨.pointer (some q1), [(Vl (.int .i64 a0_0)), (Vl (.int .i64 a0_1)), (Vl (.int .i64 a0_2)), (Sl Kf a0_3), (Sl (Ki .i64) a0_4), (Sl (Kl (Ki .i64)) a0_5), (Sl KT27 a0_6)], 27, none⟩]) (fun _ => rfl) rfl rfl) (pick_cons rfl pick_nil) rfl (bl_cons (m := 2) (by decide) rfl rfl bl_nil) (wt_none' rfl) fun ⟨⟩ => ?_
              refine px_rd' rfl (rd_iface' rfl ⟨_, Try.underlying90, fun _ h => (nomatch h)⟩) rfl rfl (wt_none' rfl) ?_
              refine px_rd' rfl (rd_assign' rfl) rfl rfl (wt_none' rfl) ?_
              refine px_nil' ?_
              show TX E K14 _
              refine tx_k' hK14 ?_
              refine cx_retc' ?_
              replace hp := Option.some.inj hp
              subst hp
              refine tx_pick' (L' := [(2, (If 90 (Vl (.pointer (some q63)))))]) (H' := [⟨.pointer (some q63), [(Vl (.int .i64 r66.1)), (Vl (.int .i64 r66.2.1)), (Sl Kf r66.2.2.1), (Vl (.int .i64 r66.2.2.2.1)), (Sl (Ki .i64) r66.2.2.2.2)], 158, none⟩]) [0] (sub_cons rfl sub_nil) (by decide) (pick_cons rfl pick_nil) ?_
              exact tx_ret1' Try.results52 rfl q63 (rv_tmp' rfl) (List.Sublist.refl _)
          · replace hp := (br_f h5).symm.trans hp
            refine cx_seq' fun K15 hK15 => ?_
            refine cx_region' ?_
            refine sx_rd' (rd_bin' rfl rfl eg_int ru_eql) rfl rfl (wt_none' rfl) ?_
            refine sx_rd' (rd_assign' rfl) rfl rfl (wt_none' rfl) ?_
            refine sx_nil' ?_
            show TX E K15 _
            refine tx_k' hK15 ?_
            refine cx_cond' rfl (fun h6 => ?_) (fun h6 => ?_)
            · replace hp := (br_t h6).symm.trans hp
              refine cx_seq' fun K16 hK16 => ?_
              refine cx_plan' [] [(8, 1)] [(0, 1), (1, 1), (2, 1), (3, 1), (6, 1), (7, 1), (4, 0), (5, 0), (8, 0), (9, 1), (10, 1)] mixed (by kernel_rfl) ?_
              refine px_rd' rfl (rd_move' rfl) rfl rfl (wt_none' rfl) ?_
              refine px_rd' rfl (rd_move' rfl) rfl rfl (wt_none' rfl) ?_
              refine px_rd' rfl (rd_field' (off := 4) rfl Try.underlying27 rfl info23 rfl) rfl rfl (wt_none' rfl) ?_
              refine px_rd' rfl (rd_load' (i := 0) (o := 4) rfl ⟨rfl, rfl, rfl, rfl⟩ rfl flat23) rfl rfl (wt_none' rfl) ?_
              refine px_rd' rfl (rd_field' (off := 2) rfl Try.underlying27 rfl info3 rfl) rfl rfl (wt_none' rfl) ?_
              refine px_rd' rfl (rd_load' (i := 0) (o := 2) rfl ⟨rfl, rfl, rfl, rfl⟩ rfl flat3) rfl rfl (wt_none' rfl) ?_
              obtain ⟨r74, hr74, hp⟩ := bind_some hp
              rcases r74 with y10 | y10
              · dsimp only at hp
                refine px_ox' rfl (ox_calln' (ent_fn' Try.func84 isn84 rfl rfl) (impl_ints_sim _ hr74 : Go.Sx.Fn Try.prog 84 [(Sl (Ki .i64) a0_4)] [] (fun x : Unit => (Vl (.slice none 0 0))) (fun x => [])) (Hn := fun x : Unit => [⟨.pointer (some q1), [(Vl (.int .i64 a0_0)), (Vl (.int .i64 a0_1)), (Vl (.int .i64 a0_2)), (Sl Kf a0_3), (Sl (Ki .i64) a0_4), (Sl (Kl (Ki .i64)) a0_5), (Sl KT27 a0_6)], 27, none⟩]) (fun _ => rfl) rfl rfl) rfl bs_nil (wt_none' rfl) fun ⟨⟩ => ?_
                obtain ⟨r75, hr75, hp⟩ := bind_some hp
                refine px_ox' rfl (ox_calln' (ent_fn' Try.func97 isn97 rfl rfl) (gogeom_NewMultiLineStringFlat_sim _ _ hr75 : Go.Sx.Fn Try.prog 97 [(Vl (.int .i64 a0_1)), (Sl Kf r12), (Vl (.slice none 0 0))] [] (fun x : Addr => (Vl (.pointer (some x)))) (fun x => [⟨.pointer (some x), [(Vl (.int .i64 r75.1)), (Vl (.int .i64 r75.2.1)), (Sl Kf r75.2.2.1), (Vl (.int .i64 r75.2.2.2)), (Vl (.slice none 0 0))], 161, none⟩])) (Hn := fun x : Addr => [⟨.pointer (some x), [(Vl (.int .i64 r75.1)), (Vl (.int .i64 r75.2.1)), (Sl Kf r75.2.2.1), (Vl (.int .i64 r75.2.2.2)), (Vl (.slice none 0 0))], 161, none⟩, ⟨.pointer (some q1), [(Vl (.int .i64 a0_0)), (Vl (.int .i64 a0_1)), (Vl (.int .i64 a0_2)), (Sl Kf a0_3), (Sl (Ki .i64) a0_4), (Sl (Kl (Ki .i64)) a0_5), (Sl KT27 a0_6)], 27, none⟩]) (fun _ => rfl) rfl rfl) rfl bs_nil (wt_none' rfl) fun q75 => ?_
                obtain ⟨r78, hr78, hp⟩ := bind_some hp
                refine px_oxb' (is := [0]) rfl (oxb_callg (ent_fn' Try.func98 isn98 rfl rfl) (gogeom_MultiLineString_SetSRID_sim _ _ _ _ _ hr78 : Go.Sx.Fn Try.prog 98 [(Vl (.pointer (some q75))), (Vl (.int .i64 a0_2))] [⟨.pointer (some q75), [(Vl (.int .i64 r75.1)), (Vl (.int .i64 r75.2.1)), (Sl Kf r75.2.2.1), (Vl (.int .i64 r75.2.2.2)), (Vl (.slice none 0 0))], 161, none⟩] (fun x : Unit => (Vl (.pointer (some q75)))) (fun x => [⟨.pointer (some q75), [(Vl (.int .i64 r78.1)), (Vl (.int .i64 r78.2.1)), (Sl Kf r78.2.2.1), (Vl (.int .i64 r78.2.2.2)), (Vl (.slice none 0 0))], 161, none⟩])) [0] [1] (by decide) (pick_cons rfl pick_nil) (pick_cons rfl pick_nil) (Hn := fun x : Unit => [⟨.pointer (some q75), [(Vl (.int .i64 r78.1)), (Vl (.int .i64 r78.2.1)), (Sl Kf r78.2.2.1), (Vl (.int .i64 r78.2.2.2)), (Vl (.slice none 0 0))], 161, none⟩, ⟨.pointer (some q1), [(Vl (.int .i64 a0_0)), (Vl (.int .i64 a0_1)), (Vl (.int .i64 a0_2)), (Sl Kf a0_3), (Sl (Ki .i64) a0_4), (Sl (Kl (Ki .i64)) a0_5), (Sl KT27 a0_6)], 27, none⟩]) (fun _ => rfl) rfl rfl) (pick_cons rfl pick_nil) rfl bl_nil (wt_none' rfl) fun ⟨⟩ => ?_
                refine px_rd' rfl (rd_iface' rfl ⟨_, Try.underlying92, fun _ h => (nomatch h)⟩) rfl rfl (wt_none' rfl) ?_
                refine px_rd' rfl (rd_assign' rfl) rfl rfl (wt_none' rfl) ?_
                refine px_nil' ?_
                show TX E K16 _
                refine tx_k' hK16 ?_
                refine cx_retc' ?_
                replace hp := Option.some.inj hp
                subst hp
                refine tx_cell' 0 4 (y := (Sl (Ki .i64) [])) rfl rfl imp_nil (H' := [⟨.pointer (some q75), [(Vl (.int .i64 r78.1)), (Vl (.int .i64 r78.2.1)), (Sl Kf r78.2.2.1), (Vl (.int .i64 r78.2.2.2)), (Sl (Ki .i64) [])], 161, none⟩, ⟨.pointer (some q1), [(Vl (.int .i64 a0_0)), (Vl (.int .i64 a0_1)), (Vl (.int .i64 a0_2)), (Sl Kf a0_3), (Sl (Ki .i64) a0_4), (Sl (Kl (Ki .i64)) a0_5), (Sl KT27 a0_6)], 27, none⟩]) rfl ?_
                refine tx_pick' (L' := [(2, (If 92 (Vl (.pointer (some q75)))))]) (H' := [⟨.pointer (some q75), [(Vl (.int .i64 r78.1)), (Vl (.int .i64 r78.2.1)), (Sl Kf r78.2.2.1), (Vl (.int .i64 r78.2.2.2)), (Sl (Ki .i64) [])], 161, none⟩]) [0] (sub_cons rfl sub_nil) (by decide) (pick_cons rfl pick_nil) ?_
                exact tx_ret1' Try.results52 rfl q75 (rv_tmp' rfl) (List.Sublist.refl _)
              · dsimp only at hp
                refine px_ox' rfl (ox_calln' (ent_fn' Try.func84 isn84 rfl rfl) (impl_ints_sim _ hr74 : Go.Sx.Fn Try.prog 84 [(Sl (Ki .i64) a0_4)] [] (fun x : Unit => (Sl (Ki .i64) y10)) (fun x => [])) (Hn := fun x : Unit => [⟨.pointer (some q1), [(Vl (.int .i64 a0_0)), (Vl (.int .i64 a0_1)), (Vl (.int .i64 a0_2)), (Sl Kf a0_3), (Sl (Ki .i64) a0_4), (Sl (Kl (Ki .i64)) a0_5), (Sl KT27 a0_6)], 27, none⟩]) (fun _ => rfl) rfl rfl) rfl bs_nil (wt_none' rfl) fun ⟨⟩ => ?_
                obtain ⟨r75, hr75, hp⟩ := bind_some hp
                refine px_ox' rfl (ox_calln' (ent_fn' Try.func97 isn97 rfl rfl) (gogeom_NewMultiLineStringFlat_v2_sim _ _ _ hr75 : Go.Sx.Fn Try.prog 97 [(Vl (.int .i64 a0_1)), (Sl Kf r12), (Sl (Ki .i64) y10)] [] (fun x : Addr => (Vl (.pointer (some x)))) (fun x => [⟨.pointer (some x), [(Vl (.int .i64 r75.1)), (Vl (.int .i64 r75.2.1)), (Sl Kf r75.2.2.1), (Vl (.int .i64 r75.2.2.2.1)), (Sl (Ki .i64) r75.2.2.2.2)], 161, none⟩])) (Hn := fun x : Addr => [⟨.pointer (some x), [(Vl (.int .i64 r75.1)), (Vl (.int .i64 r75.2.1)), (Sl Kf r75.2.2.1), (Vl (.int .i64 r75.2.2.2.1)), (Sl (Ki .i64) r75.2.2.2.2)], 161, none⟩, ⟨.pointer (some q1), [(Vl (.int .i64 a0_0)), (Vl (.int .i64 a0_1)), (Vl (.int .i64 a0_2)), (Sl Kf a0_3), (Sl (Ki .i64) a0_4), (Sl (Kl (Ki .i64)) a0_5), (Sl KT27 a0_6)], 27, none⟩]) (fun _ => rfl) rfl rfl) rfl bs_nil (wt_none' rfl) fun q75 => ?_
                obtain ⟨r78, hr78, hp⟩ := bind_some hp
                refine px_oxb' (is := [0]) rfl (oxb_callg (ent_fn' Try.func98 isn98 rfl rfl) (gogeom_MultiLineString_SetSRID_v2_sim _ _ _ _ _ _ hr78 : Go.Sx.Fn Try.prog 98 [(Vl (.pointer (some q75))), (Vl (.int .i64 a0_2))] [⟨.pointer (some q75), [(Vl (.int .i64 r75.1)), (Vl (.int .i64 r75.2.1)), (Sl Kf r75.2.2.1), (Vl (.int .i64 r75.2.2.2.1)), (Sl (Ki .i64) r75.2.2.2.2)], 161, none⟩] (fun x : Unit => (Vl (.pointer (some q75)))) (fun x => [⟨.pointer (some q75), [(Vl (.int .i64 r78.1)), (Vl (.int .i64 r78.2.1)), (Sl Kf r78.2.2.1), (Vl (.int .i64 r78.2.2.2.1)), (Sl (Ki .i64) r78.2.2.2.2)], 161, none⟩])) [0] [1] (by decide) (pick_cons rfl pick_nil) (pick_cons rfl pick_nil) (Hn := fun x : Unit => [⟨.pointer (some q75), [(Vl (.int .i64 r78.1)), (Vl (.int .i64 r78.2.1)), (Sl Kf r78.2.2.1), (Vl (.int .i64 r78.2.2.2.1)), (Sl (Ki .i64) r78.2.2.2.2)], 161, none⟩, ⟨.pointer (some q1), [(Vl (.int .i64 a0_0)), (Vl (.int .i64 a0_1)), (Vl (.int .i64 a0_2)), (Sl Kf a0_3), (Sl (Ki .i64) a0_4), (Sl (Kl (Ki .i64)) a0_5), (Sl KT27 a0_6)], 27, none⟩]) (fun _ => rfl) rfl rfl) (pick_cons rfl pick_nil) rfl bl_nil (wt_none' rfl) fun ⟨⟩ => ?_
                refine px_rd' rfl (rd_iface' rfl ⟨_, Try.underlying92, fun _ h => (nomatch h)⟩) rfl rfl (wt_none' rfl) ?_
                refine px_rd' rfl (rd_assign' rfl) rfl rfl (wt_none' rfl) ?_
                refine px_nil' ?_
                show TX E K16 _
                refine tx_k' hK16 ?_
                refine cx_retc' ?_
                replace hp := Option.some.inj hp
                subst hp
                refine tx_pick' (L' := [(2, (If 92 (Vl (.pointer (some q75)))))]) (H' := [⟨.pointer (some q75), [(Vl (.int .i64 r78.1)), (Vl (.int .i64 r78.2.1)), (Sl Kf r78.2.2.1), (Vl (.int .i64 r78.2.2.2.1)), (Sl (Ki .i64) r78.2.2.2.2)], 161, none⟩]) [0] (sub_cons rfl sub_nil) (by decide) (pick_cons rfl pick_nil) ?_
                exact tx_ret1' Try.results52 rfl q75 (rv_tmp' rfl) (List.Sublist.refl _)
            · replace hp := (br_f h6).symm.trans hp
              refine cx_seq' fun K17 hK17 => ?_
              refine cx_region' ?_
              refine sx_rd' (rd_bin' rfl rfl eg_int ru_eql) rfl rfl (wt_none' rfl) ?_
              refine sx_rd' (rd_assign' rfl) rfl rfl (wt_none' rfl) ?_
              refine sx_nil' ?_
              show TX E K17 _
              refine tx_k' hK17 ?_
              refine cx_cond' rfl (fun h7 => ?_) (fun h7 => ?_)
              · replace hp := (br_t h7).symm.trans hp
                refine cx_seq' fun K18 hK18 => ?_
                refine cx_plan' [] [(8, 1)] [(0, 1), (1, 1), (2, 1), (3, 1), (6, 1), (7, 1), (4, 0), (5, 0), (8, 0), (9, 1), (10, 1)] mixed (by kernel_rfl) ?_
                refine px_rd' rfl (rd_move' rfl) rfl rfl (wt_none' rfl) ?_
                refine px_rd' rfl (rd_move' rfl) rfl rfl (wt_none' rfl) ?_
                refine px_rd' rfl (rd_field' (off := 5) rfl Try.underlying27 rfl info24 rfl) rfl rfl (wt_none' rfl) ?_
                refine px_rd' rfl (rd_load' (i := 0) (o := 5) rfl ⟨rfl, rfl, rfl, rfl⟩ rfl flat24) rfl rfl (wt_none' rfl) ?_
                refine px_rd' rfl (rd_field' (off := 2) rfl Try.underlying27 rfl info3 rfl) rfl rfl (wt_none' rfl) ?_
                refine px_rd' rfl (rd_load' (i := 0) (o := 2) rfl ⟨rfl, rfl, rfl, rfl⟩ rfl flat3) rfl rfl (wt_none' rfl) ?_
                obtain ⟨r86, hr86, hp⟩ := bind_some hp
                refine px_ox' rfl (ox_calln' (ent_fn' Try.func51 isn51 rfl rfl) (impl_intss_sim _ hr86 : Go.Sx.Fn Try.prog 51 [(Sl (Kl (Ki .i64)) a0_5)] [] (fun x : Unit => (Sl (Kl (Ki .i64)) r86)) (fun x => [])) (Hn := fun x : Unit => [⟨.pointer (some q1), [(Vl (.int .i64 a0_0)), (Vl (.int .i64 a0_1)), (Vl (.int .i64 a0_2)), (Sl Kf a0_3), (Sl (Ki .i64) a0_4), (Sl (Kl (Ki .i64)) a0_5), (Sl KT27 a0_6)], 27, none⟩]) (fun _ => rfl) rfl rfl) rfl bs_nil (wt_none' rfl) fun ⟨⟩ => ?_
                obtain ⟨r87, hr87, hp⟩ := bind_some hp
                refine px_ox' rfl (ox_calln' (ent_fn' Try.func99 isn99 rfl rfl) (gogeom_NewMultiPolygonFlat_sim _ _ _ hr87 : Go.Sx.Fn Try.prog 99 [(Vl (.int .i64 a0_1)), (Sl Kf r12), (Sl (Kl (Ki .i64)) r86)] [] (fun x : Addr => (Vl (.pointer (some x)))) (fun x => [⟨.pointer (some x), [(Vl (.int .i64 r87.1)), (Vl (.int .i64 r87.2.1)), (Sl Kf r87.2.2.1), (Vl (.int .i64 r87.2.2.2.1)), (Sl (Kl (Ki .i64)) r87.2.2.2.2)], 165, none⟩])) (Hn := fun x : Addr => [⟨.pointer (some x), [(Vl (.int .i64 r87.1)), (Vl (.int .i64 r87.2.1)), (Sl Kf r87.2.2.1), (Vl (.int .i64 r87.2.2.2.1)), (Sl (Kl (Ki .i64)) r87.2.2.2.2)], 165, none⟩, ⟨.pointer (some q1), [(Vl (.int .i64 a0_0)), (Vl (.int .i64 a0_1)), (Vl (.int .i64 a0_2)), (Sl Kf a0_3), (Sl (Ki .i64) a0_4), (Sl (Kl (Ki .i64)) a0_5), (Sl KT27 a0_6)], 27, none⟩]) (fun _ => rfl) rfl rfl) rfl bs_nil (wt_none' rfl) fun q87 => ?_
                obtain ⟨r90, hr90, hp⟩ := bind_some hp
                refine px_oxb' (is := [0]) rfl (oxb_callg (ent_fn' Try.func100 isn100 rfl rfl) (gogeom_MultiPolygon_SetSRID_sim _ _ _ _ _ _ hr90 : Go.Sx.Fn Try.prog 100 [(Vl (.pointer (some q87))), (Vl (.int .i64 a0_2))] [⟨.pointer (some q87), [(Vl (.int .i64 r87.1)), (Vl (.int .i64 r87.2.1)), (Sl Kf r87.2.2.1), (Vl (.int .i64 r87.2.2.2.1)), (Sl (Kl (Ki .i64)) r87.2.2.2.2)], 165, none⟩] (fun x : Unit => (Vl (.pointer (some q87)))) (fun x => [⟨.pointer (some q87), [(Vl (.int .i64 r90.1)), (Vl (.int .i64 r90.2.1)), (Sl Kf r90.2.2.1), (Vl (.int .i64 r90.2.2.2.1)), (Sl (Kl (Ki .i64)) r90.2.2.2.2)], 165, none⟩])) [0] [1] (by decide) (pick_cons rfl pick_nil) (pick_cons rfl pick_nil) (Hn := fun x : Unit => [⟨.pointer (some q87), [(Vl (.int .i64 r90.1)), (Vl (.int .i64 r90.2.1)), (Sl Kf r90.2.2.1), (Vl (.int .i64 r90.2.2.2.1)), (Sl (Kl (Ki .i64)) r90.2.2.2.2)], 165, none⟩, ⟨.pointer (some q1), [(Vl (.int .i64 a0_0)), (Vl (.int .i64 a0_1)), (Vl (.int .i64 a0_2)), (Sl Kf a0_3), (Sl (Ki .i64) a0_4), (Sl (Kl (Ki .i64)) a0_5), (Sl KT27 a0_6)], 27, none⟩]) (fun _ => rfl) rfl rfl) (pick_cons rfl pick_nil) rfl bl_nil (wt_none' rfl) fun ⟨⟩ => ?_
                refine px_rd' rfl (rd_iface' rfl ⟨_, Try.underlying95, fun _ h => (nomatch h)⟩) rfl rfl (wt_none' rfl) ?_
                refine px_rd' rfl (rd_assign' rfl) rfl rfl (wt_none' rfl) ?_
                refine px_nil' ?_
                show TX E K18 _
                refine tx_k' hK18 ?_
                refine cx_retc' ?_
                replace hp := Option.some.inj hp
                subst hp
                refine tx_pick' (L' := [(2, (If 95 (Vl (.pointer (some q87)))))]) (H' := [⟨.pointer (some q87), [(Vl (.int .i64 r90.1)), (Vl (.int .i64 r90.2.1)), (Sl Kf r90.2.2.1), (Vl (.int .i64 r90.2.2.2.1)), (Sl (Kl (Ki .i64)) r90.2.2.2.2)], 165, none⟩]) [0] (sub_cons rfl sub_nil) (by decide) (pick_cons rfl pick_nil) ?_
                exact tx_ret1' Try.results52 rfl q87 (rv_tmp' rfl) (List.Sublist.refl _)
              · replace hp := (br_f h7).symm.trans hp
                refine cx_seq' fun K19 hK19 => ?_
                refine cx_region' ?_
                refine sx_rd' (rd_bin' rfl rfl eg_int ru_eql) rfl rfl (wt_none' rfl) ?_
                refine sx_rd' (rd_assign' rfl) rfl rfl (wt_none' rfl) ?_
                refine sx_nil' ?_
                show TX E K19 _
                refine tx_k' hK19 ?_
                refine cx_cond' rfl (fun h8 => ?_) (fun h8 => ?_)
                · replace hp := (br_t h8).symm.trans hp
                  refine cx_seq' fun K20 hK20 => ?_
                  refine cx_plan' [] [(3, 1)] [(1, 1), (2, 1), (0, 0), (3, 0), (4, 1)] mixed (by kernel_rfl) ?_
                  refine px_rd' rfl (rd_field' (off := 2) rfl Try.underlying27 rfl info3 rfl) rfl rfl (wt_none' rfl) ?_
                  refine px_rd' rfl (rd_load' (i := 0) (o := 2) rfl ⟨rfl, rfl, rfl, rfl⟩ rfl flat3) rfl rfl (wt_none' rfl) ?_
                  obtain ⟨r94, hr94, hp⟩ := bind_some hp
                  refine px_ox' rfl (ox_calln' (ent_fn' Try.func101 isn101 rfl rfl) (gogeom_NewGeometryCollection_sim hr94 : Go.Sx.Fn Try.prog 101 [] [] (fun x : Addr => (Vl (.pointer (some x)))) (fun x => [⟨.pointer (some x), [(Vl (.int .i64 r94)), (Vl (.slice none 0 0)), (Vl (.int .i64 r94))], 145, none⟩])) (Hn := fun x : Addr => [⟨.pointer (some x), [(Vl (.int .i64 r94)), (Vl (.slice none 0 0)), (Vl (.int .i64 r94))], 145, none⟩, ⟨.pointer (some q1), [(Vl (.int .i64 a0_0)), (Vl (.int .i64 a0_1)), (Vl (.int .i64 a0_2)), (Sl Kf a0_3), (Sl (Ki .i64) a0_4), (Sl (Kl (Ki .i64)) a0_5), (Sl KT27 a0_6)], 27, none⟩]) (fun _ => rfl) rfl rfl) rfl bs_nil (wt_none' rfl) fun q94 => ?_
                  obtain ⟨r97, hr97, hp⟩ := bind_some hp
                  refine px_oxb' (is := [0]) rfl (oxb_callg (ent_fn' Try.func102 isn102 rfl rfl) (gogeom_GeometryCollection_SetSRID_sim _ _ _ hr97 : Go.Sx.Fn Try.prog 102 [(Vl (.pointer (some q94))), (Vl (.int .i64 a0_2))] [⟨.pointer (some q94), [(Vl (.int .i64 r94)), (Vl (.slice none 0 0)), (Vl (.int .i64 r94))], 145, none⟩] (fun x : Unit => (Vl (.pointer (some q94)))) (fun x => [⟨.pointer (some q94), [(Vl (.int .i64 r97.1)), (Vl (.slice none 0 0)), (Vl (.int .i64 r97.2))], 145, none⟩])) [0] [1] (by decide) (pick_cons rfl pick_nil) (pick_cons rfl pick_nil) (Hn := fun x : Unit => [⟨.pointer (some q94), [(Vl (.int .i64 r97.1)), (Vl (.slice none 0 0)), (Vl (.int .i64 r97.2))], 145, none⟩, ⟨.pointer (some q1), [(Vl (.int .i64 a0_0)), (Vl (.int .i64 a0_1)), (Vl (.int .i64 a0_2)), (Sl Kf a0_3), (Sl (Ki .i64) a0_4), (Sl (Kl (Ki .i64)) a0_5), (Sl KT27 a0_6)], 27, none⟩]) (fun _ => rfl) rfl rfl) (pick_cons rfl pick_nil) rfl bl_nil (wt_none' rfl) fun ⟨⟩ => ?_
                  refine px_rd' rfl (rd_assign' rfl) rfl rfl (wt_none' rfl) ?_
                  refine px_nil' ?_
                  show TX E K20 _
                  refine tx_k' hK20 ?_
                  refine cx_seq' fun K21 hK21 => ?_
                  refine cx_seq' fun K22 hK22 => ?_
                  refine cx_region' ?_
                  refine sx_rd' (rd_field' (off := 6) rfl Try.underlying27 rfl info25 rfl) rfl rfl (wt_none' rfl) ?_
                  refine sx_rd' (rd_load' (i := 1) (o := 6) rfl ⟨rfl, rfl, rfl, rfl⟩ rfl flat25) rfl rfl (wt_none' rfl) ?_
                  refine sx_rd' (rd_len' rfl Try.underlying25) rfl rfl (wt_none' rfl) ?_
                  refine sx_rd' (rd_move' rfl) rfl rfl (wt_none' rfl) ?_
                  refine sx_nil' ?_
                  show TX E K22 _
                  refine tx_k' hK22 ?_
                  refine cx_block' ?_
                  refine tx_loop' ?_
                  refine tx_round' ?_
                  refine cx_seq' fun K23 hK23 => ?_
                  refine cx_region' ?_
                  refine sx_rd' (rd_bin' rfl rfl eg_int ru_lss) rfl rfl (wt_none' rfl) ?_
                  refine sx_nil' ?_
                  show TX E K23 _
                  refine tx_k' hK23 ?_
                  refine cx_seq' fun K24 hK24 => ?_
                  refine cx_cond' rfl (fun h9 => ?_) (fun h9 => ?_)
                  · replace hp := (br_t h9).symm.trans hp
                    cases hp
                  · replace hp := (br_f h9).symm.trans hp
                    refine cx_exit' ?_
                    show TX E K21 _
                    refine tx_k' hK21 ?_
                    refine cx_seq' fun K27 hK27 => ?_
                    refine cx_region' ?_
                    refine sx_rd' (rd_move' rfl) rfl rfl (wt_none' rfl) ?_
                    refine sx_rd' (rd_move' rfl) rfl rfl (wt_none' rfl) ?_
                    obtain ⟨r113, hr113, hp⟩ := bind_some hp
                    refine sx_ox' (ox_callg' (ent_fn' Try.func104 isn104 rfl rfl) (gogeom_GeometryCollection_MustSetLayout_sim _ _ _ hr113 : Go.Sx.Fn Try.prog 104 [(Vl (.pointer (some q94))), (Vl (.int .i64 a0_1))] [⟨.pointer (some q94), [(Vl (.int .i64 r97.1)), (Vl (.slice none 0 0)), (Vl (.int .i64 r97.2))], 145, none⟩] (fun x : Unit => (Vl (.pointer (some q94)))) (fun x => [⟨.pointer (some q94), [(Vl (.int .i64 r113.1)), (Vl (.slice none 0 0)), (Vl (.int .i64 r113.2))], 145, none⟩])) [0] [1] (by decide) (pick_cons rfl pick_nil) (pick_cons rfl pick_nil) (Hn := fun x : Unit => [⟨.pointer (some q94), [(Vl (.int .i64 r113.1)), (Vl (.slice none 0 0)), (Vl (.int .i64 r113.2))], 145, none⟩, ⟨.pointer (some q1), [(Vl (.int .i64 a0_0)), (Vl (.int .i64 a0_1)), (Vl (.int .i64 a0_2)), (Sl Kf a0_3), (Sl (Ki .i64) a0_4), (Sl (Kl (Ki .i64)) a0_5), (Sl KT27 a0_6)], 27, none⟩]) (fun _ => rfl) rfl rfl) (wt_none' rfl) fun ⟨⟩ => ?_
                    refine sx_rd' (rd_iface' rfl ⟨_, Try.underlying81, fun _ h => (nomatch h)⟩) rfl rfl (wt_none' rfl) ?_
                    refine sx_rd' (rd_assign' rfl) rfl rfl (wt_none' rfl) ?_
                    refine sx_nil' ?_
                    show TX E K27 _
                    refine tx_k' hK27 ?_
                    refine cx_retc' ?_
                    replace hp := Option.some.inj hp
                    subst hp
                    refine tx_pick' (L' := [(2, (If 81 (Vl (.pointer (some q94)))))]) (H' := [⟨.pointer (some q94), [(Vl (.int .i64 r113.1)), (Vl (.slice none 0 0)), (Vl (.int .i64 r113.2))], 145, none⟩]) [0] (sub_cons rfl sub_nil) (by decide) (pick_cons rfl pick_nil) ?_
                    exact tx_ret1' Try.results52 rfl q94 (rv_tmp' rfl) (List.Sublist.refl _)
                · replace hp := (br_f h8).symm.trans hp
                  refine cx_skip' ?_
                  show TX E K3 _
                  refine tx_k' hK3 ?_
                  refine cx_region' ?_
                  refine sx_rd' (rd_iface' rfl ⟨_, Try.underlying9, fun _ h => (nomatch h)⟩) rfl rfl (wt_none' rfl) ?_
                  cases hp
theorem impl_geometry_simA : ∀ (k : Nat)  (a0_0 : Int) (a0_1 : Int) (a0_2 : Int) (a0_3 : List Nat) (a0_4 : List Int) (a0_5 : List (List Int)) (a0_6 : List T27) (out : (Int × Int × (List Nat) × Int) ⊕ ((Int × Int × (List Nat) × Int) ⊕ ((Int × Int × (List Nat) × Int) ⊕ ((Int × Int × (List Nat) × Int × (List Int)) ⊕ ((Int × Int × (List Nat) × Int × (List Int)) ⊕ ((Int × Int × (List Nat) × Int × (List Int)) ⊕ ((Int × Int × (List Nat) × Int × (List (List Int))) ⊕ (Int × Int)))))))), impl_geometry k a0_0 a0_1 a0_2 a0_3 a0_4 a0_5 a0_6 = some out → Go.Sx.Fn Try.prog 52 [(Ag [(Vl (.int .i64 a0_0)), (Vl (.int .i64 a0_1)), (Vl (.int .i64 a0_2)), (Sl Kf a0_3), (Sl (Ki .i64) a0_4), (Sl (Kl (Ki .i64)) a0_5), (Sl KT27 a0_6)])] [] (fun w => impl_geometry_r a0_0 a0_1 a0_2 a0_3 a0_4 a0_5 a0_6 out w) (fun w => impl_geometry_h a0_0 a0_1 a0_2 a0_3 a0_4 a0_5 a0_6 out w) := by
  intro k
  induction k with
  | zero => intro a0_0 a0_1 a0_2 a0_3 a0_4 a0_5 a0_6 out hp; cases hp
  | succ k ih => intro a0_0 a0_1 a0_2 a0_3 a0_4 a0_5 a0_6 out hp; exact impl_geometry_b_sim ih a0_0 a0_1 a0_2 a0_3 a0_4 a0_5 a0_6 hp
theorem impl_geometry_sim {k : Nat}  (a0_0 : Int) (a0_1 : Int) (a0_2 : Int) (a0_3 : List Nat) (a0_4 : List Int) (a0_5 : List (List Int)) (a0_6 : List T27) {out : (Int × Int × (List Nat) × Int) ⊕ ((Int × Int × (List Nat) × Int) ⊕ ((Int × Int × (List Nat) × Int) ⊕ ((Int × Int × (List Nat) × Int × (List Int)) ⊕ ((Int × Int × (List Nat) × Int × (List Int)) ⊕ ((Int × Int × (List Nat) × Int × (List Int)) ⊕ ((Int × Int × (List Nat) × Int × (List (List Int))) ⊕ (Int × Int)))))))} (hp : impl_geometry k a0_0 a0_1 a0_2 a0_3 a0_4 a0_5 a0_6 = some out) : Go.Sx.Fn Try.prog 52 [(Ag [(Vl (.int .i64 a0_0)), (Vl (.int .i64 a0_1)), (Vl (.int .i64 a0_2)), (Sl Kf a0_3), (Sl (Ki .i64) a0_4), (Sl (Kl (Ki .i64)) a0_5), (Sl KT27 a0_6)])] [] (fun w => impl_geometry_r a0_0 a0_1 a0_2 a0_3 a0_4 a0_5 a0_6 out w) (fun w => impl_geometry_h a0_0 a0_1 a0_2 a0_3 a0_4 a0_5 a0_6 out w) := impl_geometry_simA k a0_0 a0_1 a0_2 a0_3 a0_4 a0_5 a0_6 out hp

def gogeom_Point_Length (k : Nat) (a0_0 : Int) (a0_1 : Int) (a0_2 : List Nat) (a0_3 : Int) : Option (Int × Int × (List Nat) × Int × Nat) :=
  some (a0_0, a0_1, a0_2, a0_3, 0)

theorem gogeom_Point_Length_sim {k : Nat} {wa0 : Addr} (a0_0 : Int) (a0_1 : Int) (a0_2 : List Nat) (a0_3 : Int) {out : Int × Int × (List Nat) × Int × Nat} (hp : gogeom_Point_Length k a0_0 a0_1 a0_2 a0_3 = some out) : Go.Sx.Fn Try.prog 149 [(Vl (.pointer (some wa0)))] [⟨.pointer (some wa0), [(Vl (.int .i64 a0_0)), (Vl (.int .i64 a0_1)), (Sl Kf a0_2), (Vl (.int .i64 a0_3))], 114, none⟩] (fun w : Unit => (Vl (.float .f64 out.2.2.2.2))) (fun w => [⟨.pointer (some wa0), [(Vl (.int .i64 out.1)), (Vl (.int .i64 out.2.1)), (Sl Kf out.2.2.1), (Vl (.int .i64 out.2.2.2.1))], 114, none⟩]) := by
  unfold gogeom_Point_Length at hp
  refine fn_of Try.func149 rfl Try.ntmps149 rfl fun E hM => ?_
  refine cx_seq' fun K1 hK1 => ?_
  refine cx_region' ?_
  refine sx_rd' (rd_assign' rfl) rfl rfl (wt_none' rfl) ?_
  refine sx_nil' ?_
  show TX E K1 _
  refine tx_k' hK1 ?_
  refine cx_seq' fun K2 hK2 => ?_
  refine cx_region' ?_
  refine sx_rd' (rd_assign' rfl) rfl rfl (wt_none' rfl) ?_
  refine sx_nil' ?_
  show TX E K2 _
  refine tx_k' hK2 ?_
  refine cx_retc' ?_
  replace hp := Option.some.inj hp
  subst hp
  refine tx_pick' (L' := [(2, (Vl (.float .f64 0)))]) (H' := [⟨.pointer (some wa0), [(Vl (.int .i64 a0_0)), (Vl (.int .i64 a0_1)), (Sl Kf a0_2), (Vl (.int .i64 a0_3))], 114, none⟩]) [0] (sub_cons rfl sub_nil) (by decide) (pick_cons rfl pick_nil) ?_
  exact tx_ret1' Try.results149 rfl () (rv_tmp' rfl) (List.Sublist.refl _)

def math_Sqrt (k : Nat) (a0 : Nat) : Option (Nat) :=
  (some (gsqrt a0)) >>= fun r4 =>
  some r4

theorem math_Sqrt_sim {k : Nat}  (a0 : Nat) {out : Nat} (hp : math_Sqrt k a0 = some out) : Go.Sx.Fn Try.prog 171 [(Vl (.float .f64 a0))] [] (fun w : Unit => (Fl out)) (fun w => []) := by
  unfold math_Sqrt at hp
  refine fn_of Try.func171 rfl Try.ntmps171 rfl fun E hM => ?_
  refine cx_seq' fun K1 hK1 => ?_
  refine cx_region' ?_
  refine sx_rd' (rd_assign' rfl) rfl rfl (wt_none' rfl) ?_
  refine sx_nil' ?_
  show TX E K1 _
  refine tx_k' hK1 ?_
  refine cx_seq' fun K2 hK2 => ?_
  refine cx_region' ?_
  refine sx_rd' (rd_move' rfl) rfl rfl (wt_none' rfl) ?_
  obtain ⟨r4, hr4, hp⟩ := bind_some hp
  refine sx_ox' (ox_extf' rfl (fl_v rfl) Try.func172 (extf172 (Option.some.inj hr4)) rfl rfl) (wt_none' rfl) fun _ => ?_
  refine sx_rd' (rd_assign' rfl) rfl rfl (wt_none' rfl) ?_
  refine sx_nil' ?_
  show TX E K2 _
  refine tx_k' hK2 ?_
  refine cx_retc' ?_
  replace hp := Option.some.inj hp
  subst hp
  refine tx_pick' (L' := [(2, (Fl r4))]) (H' := []) [] (sub_cons rfl sub_nil) (by decide) pick_nil ?_
  exact tx_ret1' Try.results171 rfl () (rv_tmp' rfl) (List.Sublist.refl _)

def gogeom_length1_l1s (a2 : Int) (a0 : List Nat) (a3 : Int) (k : Nat) (rec1 : (Nat × Int) → Option (Nat)) (x1 : Nat) (x2 : Int) : Option (Nat) :=
  br (decide (x2 < a2))
    ((idx a0 x2) >>= fun r24 =>
    (idx a0 (isub .i64 x2 a3)) >>= fun r30 =>
    (fsub r24 r30) >>= fun r32 =>
    (idx a0 (iadd .i64 x2 1)) >>= fun r36 =>
    (idx a0 (isub .i64 (iadd .i64 x2 1) a3)) >>= fun r43 =>
    (fsub r36 r43) >>= fun r45 =>
    (some (gmul r32 r32)) >>= fun r49 =>
    (some (gmul r45 r45)) >>= fun r52 =>
    (some (gadd r49 r52)) >>= fun r53 =>
    (num r53) >>= fun u2 =>
    (math_Sqrt k r53) >>= fun r54 =>
    (some (gadd x1 r54)) >>= fun r55 =>
    rec1 (r55, (iadd .i64 x2 a3)))
    (some x1)
def gogeom_length1_l1 (a2 : Int) (a0 : List Nat) (a3 : Int) : Nat → (Nat × Int) → Option (Nat)
  | 0, _ => none
  | k + 1, v => gogeom_length1_l1s a2 a0 a3 k (gogeom_length1_l1 a2 a0 a3 k) v.1 v.2
def gogeom_length1 (k : Nat) (a0 : List Nat) (a1 : Int) (a2 : Int) (a3 : Int) : Option (Nat) :=
  (gogeom_length1_l1 a2 a0 a3 k (0, (iadd .i64 a1 a3))) >>= fun v2 =>
  some v2

theorem gogeom_length1_sim {k : Nat}  (a0 : List Nat) (a1 : Int) (a2 : Int) (a3 : Int) {out : Nat} (hp : gogeom_length1 k a0 a1 a2 a3 = some out) : Go.Sx.Fn Try.prog 170 [(Sl Kf a0), (Vl (.int .i64 a1)), (Vl (.int .i64 a2)), (Vl (.int .i64 a3))] [] (fun w : Unit => (Fl out)) (fun w => []) := by
  unfold gogeom_length1 at hp
  refine fn_of Try.func170 rfl Try.ntmps170 rfl fun E hM => ?_
  refine cx_seq' fun K1 hK1 => ?_
  refine cx_region' ?_
  refine sx_rd' (rd_assign' rfl) rfl rfl (wt_none' rfl) ?_
  refine sx_nil' ?_
  show TX E K1 _
  refine tx_k' hK1 ?_
  refine cx_seq' fun K2 hK2 => ?_
  refine cx_region' ?_
  refine sx_rd' (rd_assign' rfl) rfl rfl (wt_none' rfl) ?_
  refine sx_nil' ?_
  show TX E K2 _
  refine tx_k' hK2 ?_
  refine cx_seq' fun K3 hK3 => ?_
  refine cx_seq' fun K4 hK4 => ?_
  refine cx_region' ?_
  refine sx_rd' (rd_move' rfl) rfl rfl (wt_none' rfl) ?_
  refine sx_rd' (rd_move' rfl) rfl rfl (wt_none' rfl) ?_
  refine sx_rd' (rd_bin' rfl rfl eg_int ru_add) rfl rfl (wt_none' rfl) ?_
  refine sx_rd' (rd_assign' rfl) rfl rfl (wt_none' rfl) ?_
  refine sx_nil' ?_
  show TX E K4 _
  refine tx_k' hK4 ?_
  refine cx_block' ?_
  obtain ⟨v2, hy1, hp⟩ := bind_some hp
  refine tx_slot' 9 (y := (Fl 0)) rfl imp_vf ?_
  refine cx_loopg' (F := gogeom_length1_l1 a2 a0 a3) (G := fun k R v => gogeom_length1_l1s a2 a0 a3 k R v.1 v.2) (x := (0, (iadd .i64 a1 a3))) (gh := ()) (fun (v1 : Nat × Int) (w1 : Unit) => (⟨57, [], [(0, (Sl Kf a0)), (2, (Vl (.int .i64 a2))), (3, (Vl (.int .i64 a3))), (9, (Fl v1.1)), (10, (Vl (.int .i64 v1.2)))], []⟩ : St)) (fun (v2 : Nat) => Zg E (Exit.exit 0) (fun (w2 : Unit) => (⟨57, [], [(9, (Fl v2))], []⟩ : St))) (fun _ => rfl) (fun _ _ => rfl) ?_ hy1 (tx_to' rfl [] (sub_cons rfl (sub_cons rfl (sub_cons rfl (sub_cons rfl (sub_cons rfl sub_nil))))) (by decide) pick_nil) ?_
  · clear hp hy1
    clear v2
    intro k rec1 KY1 ih1
    rintro ⟨x1, x2⟩ ⟨⟩ y1 hp
    replace hp : gogeom_length1_l1s a2 a0 a3 k rec1 x1 x2 = some y1 := hp
    unfold gogeom_length1_l1s at hp
    refine cx_seq' fun K10 hK10 => ?_
    refine cx_seq' fun K11 hK11 => ?_
    refine cx_region' ?_
    refine sx_rd' (rd_move' rfl) rfl rfl (wt_none' rfl) ?_
    refine sx_rd' (rd_move' rfl) rfl rfl (wt_none' rfl) ?_
    refine sx_rd' (rd_bin' rfl rfl eg_int ru_lss) rfl rfl (wt_none' rfl) ?_
    refine sx_nil' ?_
    show TX E K11 _
    refine tx_k' hK11 ?_
    refine cx_cond' rfl (fun h3 => ?_) (fun h3 => ?_)
    · replace hp := (br_t h3).symm.trans hp
      refine cx_skip' ?_
      show TX E K10 _
      refine tx_k' hK10 ?_
      refine cx_seq' fun K12 hK12 => ?_
      refine cx_block' ?_
      refine cx_seq' fun K13 hK13 => ?_
      refine cx_draw' mixed (by kernel_rfl) ?_
      refine qx_rd' (rd_move' rfl) rfl rfl (wt_none' rfl) ?_
      refine qx_rd' (rd_move' rfl) rfl rfl (wt_none' rfl) ?_
      obtain ⟨r24, hr24, hp⟩ := bind_some hp
      refine qx_rd' (rd_at' (K := Kf) rfl rfl hr24 Try.underlying22 info30) rfl rfl (wt_none' rfl) ?_
      refine qx_rd' (rd_load_pt' rfl rfl flat30) rfl rfl (wt_none' rfl) ?_
      refine qx_rd' (rd_move' rfl) rfl rfl (wt_none' rfl) ?_
      refine qx_rd' (rd_move' rfl) rfl rfl (wt_none' rfl) ?_
      refine qx_rd' (rd_move' rfl) rfl rfl (wt_none' rfl) ?_
      refine qx_rd' (rd_bin' rfl rfl eg_int ru_sub) rfl rfl (wt_none' rfl) ?_
      obtain ⟨r30, hr30, hp⟩ := bind_some hp
      refine qx_rd' (rd_at' (K := Kf) rfl rfl hr30 Try.underlying22 info30) rfl rfl (wt_none' rfl) ?_
      refine qx_rd' (rd_load_pt' rfl rfl flat30) rfl rfl (wt_none' rfl) ?_
      obtain ⟨r32, hr32, hp⟩ := bind_some hp
      refine qx_rd' (rd_bin' rfl rfl eg_flt (ru_fsub hr32)) rfl rfl (wt_none' rfl) ?_
      refine qx_rd' (rd_assign' rfl) rfl rfl (wt_none' rfl) ?_
      refine qx_nil' ?_
      show TX E K13 _
      refine tx_k' hK13 ?_
      refine cx_seq' fun K14 hK14 => ?_
      refine cx_draw' mixed (by kernel_rfl) ?_
      refine qx_rd' (rd_move' rfl) rfl rfl (wt_none' rfl) ?_
      refine qx_rd' (rd_move' rfl) rfl rfl (wt_none' rfl) ?_
      refine qx_rd' (rd_bin' rfl rfl eg_int ru_add) rfl rfl (wt_none' rfl) ?_
      obtain ⟨r36, hr36, hp⟩ := bind_some hp
      refine qx_rd' (rd_at' (K := Kf) rfl rfl hr36 Try.underlying22 info30) rfl rfl (wt_none' rfl) ?_
      refine qx_rd' (rd_load_pt' rfl rfl flat30) rfl rfl (wt_none' rfl) ?_
      refine qx_rd' (rd_move' rfl) rfl rfl (wt_none' rfl) ?_
      refine qx_rd' (rd_move' rfl) rfl rfl (wt_none' rfl) ?_
      refine qx_rd' (rd_bin' rfl rfl eg_int ru_add) rfl rfl (wt_none' rfl) ?_
      refine qx_rd' (rd_move' rfl) rfl rfl (wt_none' rfl) ?_
      refine qx_rd' (rd_bin' rfl rfl eg_int ru_sub) rfl rfl (wt_none' rfl) ?_
      obtain ⟨r43, hr43, hp⟩ := bind_some hp
      refine qx_rd' (rd_at' (K := Kf) rfl rfl hr43 Try.underlying22 info30) rfl rfl (wt_none' rfl) ?_
      refine qx_rd' (rd_load_pt' rfl rfl flat30) rfl rfl (wt_none' rfl) ?_
      obtain ⟨r45, hr45, hp⟩ := bind_some hp
      refine qx_rd' (rd_bin' rfl rfl eg_flt (ru_fsub hr45)) rfl rfl (wt_none' rfl) ?_
      refine qx_rd' (rd_assign' rfl) rfl rfl (wt_none' rfl) ?_
      refine qx_nil' ?_
      show TX E K14 _
      refine tx_k' hK14 ?_
      refine cx_region' ?_
      refine sx_rd' (rd_move' rfl) rfl rfl (wt_none' rfl) ?_
      refine sx_rd' (rd_move' rfl) rfl rfl (wt_none' rfl) ?_
      refine sx_rd' (rd_move' rfl) rfl rfl (wt_none' rfl) ?_
      obtain ⟨r49, hr49, hp⟩ := bind_some hp
      refine sx_ox' (ox_fop' (.inr (.inr (.inl rfl))) (fl_v rfl) (fl_v rfl) (Option.some.inj hr49) rfl rfl) (wt_none' rfl) fun _ => ?_
      refine sx_rd' (rd_move' rfl) rfl rfl (wt_none' rfl) ?_
      refine sx_rd' (rd_move' rfl) rfl rfl (wt_none' rfl) ?_
      obtain ⟨r52, hr52, hp⟩ := bind_some hp
      refine sx_ox' (ox_fop' (.inr (.inr (.inl rfl))) (fl_v rfl) (fl_v rfl) (Option.some.inj hr52) rfl rfl) (wt_none' rfl) fun _ => ?_
      obtain ⟨r53, hr53, hp⟩ := bind_some hp
      refine sx_ox' (ox_fop' (.inl rfl) (fl_f rfl) (fl_f rfl) (Option.some.inj hr53) rfl rfl) (wt_none' rfl) fun _ => ?_
      obtain ⟨u2, hu2, hp⟩ := bind_some hp
      refine tx_slot' 53 (y := (Vl (.float .f64 r53))) rfl (imp_num (num_some hu2).2) ?_
      obtain ⟨r54, hr54, hp⟩ := bind_some hp
      refine sx_ox' (ox_calln' (ent_fn' Try.func171 isn171 rfl rfl) (math_Sqrt_sim _ hr54 : Go.Sx.Fn Try.prog 171 [(Vl (.float .f64 r53))] [] (fun x : Unit => (Fl r54)) (fun x => [])) (Hn := fun x : Unit => []) (fun _ => rfl) rfl rfl) (wt_none' rfl) fun ⟨⟩ => ?_
      obtain ⟨r55, hr55, hp⟩ := bind_some hp
      refine sx_ox' (ox_fop' (.inl rfl) (fl_f rfl) (fl_f rfl) (Option.some.inj hr55) rfl rfl) (wt_none' rfl) fun _ => ?_
      refine sx_rd' (rd_assign' rfl) rfl rfl (wt_none' rfl) ?_
      refine sx_nil' ?_
      show TX E K12 _
      refine tx_k' hK12 ?_
      refine cx_region' ?_
      refine sx_rd' (rd_move' rfl) rfl rfl (wt_none' rfl) ?_
      refine sx_rd' (rd_move' rfl) rfl rfl (wt_none' rfl) ?_
      refine sx_rd' (rd_bin' rfl rfl eg_int ru_add) rfl rfl (wt_none' rfl) ?_
      refine sx_rd' (rd_assign' rfl) rfl rfl (wt_none' rfl) ?_
      refine sx_nil' ?_
      show TX E (KY1 _) _
      exact tx_pick' [] (sub_cons rfl (sub_cons rfl (sub_cons rfl (sub_cons rfl (sub_cons rfl sub_nil))))) (by decide) pick_nil (ih1 (r55, (iadd .i64 x2 a3)) () _ hp)
    · replace hp := (br_f h3).symm.trans hp
      refine cx_exit' ?_
      replace hp := Option.some.inj hp
      subst hp
      show TX E (Zg E (Exit.exit 0) _ (Exit.exit 0)) _
      exact tx_zend' () rfl [] (sub_cons rfl sub_nil) (by decide) pick_nil
  · refine zg_out fun w2 => ?_
    show TX E K3 _
    refine tx_k' hK3 ?_
    refine cx_seq' fun K15 hK15 => ?_
    refine cx_region' ?_
    refine sx_rd' (rd_move' rfl) rfl rfl (wt_none' rfl) ?_
    refine sx_rd' (rd_assign' rfl) rfl rfl (wt_none' rfl) ?_
    refine sx_nil' ?_
    show TX E K15 _
    refine tx_k' hK15 ?_
    refine cx_retc' ?_
    replace hp := Option.some.inj hp
    subst hp
    refine tx_pick' (L' := [(8, (Fl v2))]) (H' := []) [] (sub_cons rfl sub_nil) (by decide) pick_nil ?_
    exact tx_ret1' Try.results170 rfl () (rv_tmp' rfl) (List.Sublist.refl _)

def gogeom_LineString_Length (k : Nat) (a0_0 : Int) (a0_1 : Int) (a0_2 : List Nat) (a0_3 : Int) : Option (Int × Int × (List Nat) × Int × Nat) :=
  (gogeom_length1 k a0_2 0 (a0_2.length : Int) a0_1) >>= fun r22 =>
  some (a0_0, a0_1, a0_2, a0_3, r22)

theorem gogeom_LineString_Length_sim {k : Nat} {wa0 : Addr} (a0_0 : Int) (a0_1 : Int) (a0_2 : List Nat) (a0_3 : Int) {out : Int × Int × (List Nat) × Int × Nat} (hp : gogeom_LineString_Length k a0_0 a0_1 a0_2 a0_3 = some out) : Go.Sx.Fn Try.prog 178 [(Vl (.pointer (some wa0)))] [⟨.pointer (some wa0), [(Vl (.int .i64 a0_0)), (Vl (.int .i64 a0_1)), (Sl Kf a0_2), (Vl (.int .i64 a0_3))], 160, none⟩] (fun w : Unit => (Fl out.2.2.2.2)) (fun w => [⟨.pointer (some wa0), [(Vl (.int .i64 out.1)), (Vl (.int .i64 out.2.1)), (Sl Kf out.2.2.1), (Vl (.int .i64 out.2.2.2.1))], 160, none⟩]) := by
  unfold gogeom_LineString_Length at hp
  refine fn_of Try.func178 rfl Try.ntmps178 rfl fun E hM => ?_
  refine cx_seq' fun K1 hK1 => ?_
  refine cx_region' ?_
  refine sx_rd' (rd_assign' rfl) rfl rfl (wt_none' rfl) ?_
  refine sx_nil' ?_
  show TX E K1 _
  refine tx_k' hK1 ?_
  refine cx_seq' fun K2 hK2 => ?_
  refine cx_plan' [] [] [(0, 1), (1, 1), (2, 1), (3, 1), (4, 1), (5, 1), (6, 1), (7, 1), (8, 1), (9, 1), (10, 1), (11, 1), (12, 1), (13, 1), (14, 1), (15, 1), (16, 1), (17, 1), (18, 1), (19, 0), (20, 1)] mixed (by kernel_rfl) ?_
  refine px_rd' rfl (rd_move' rfl) rfl rfl (wt_none' rfl) ?_
  refine px_rd' rfl (rd_nilck' rfl) rfl rfl (wt_none' rfl) ?_
  refine px_rd' rfl (rd_field0' rfl Try.underlying160 rfl info149 rfl) rfl rfl (wt_none' rfl) ?_
  refine px_rd' rfl (rd_field0' rfl Try.underlying149 rfl info112 rfl) rfl rfl (wt_none' rfl) ?_
  refine px_rd' rfl (rd_field' (off := 2) rfl Try.underlying112 rfl info22 rfl) rfl rfl (wt_none' rfl) ?_
  refine px_rd' rfl (rd_load' (i := 0) (o := 2) rfl ⟨rfl, rfl, rfl, rfl⟩ rfl flat22) rfl rfl (wt_none' rfl) ?_
  refine px_rd' rfl (rd_move' rfl) rfl rfl (wt_none' rfl) ?_
  refine px_rd' rfl (rd_nilck' rfl) rfl rfl (wt_none' rfl) ?_
  refine px_rd' rfl (rd_field0' rfl Try.underlying160 rfl info149 rfl) rfl rfl (wt_none' rfl) ?_
  refine px_rd' rfl (rd_field0' rfl Try.underlying149 rfl info112 rfl) rfl rfl (wt_none' rfl) ?_
  refine px_rd' rfl (rd_field' (off := 2) rfl Try.underlying112 rfl info22 rfl) rfl rfl (wt_none' rfl) ?_
  refine px_rd' rfl (rd_load' (i := 0) (o := 2) rfl ⟨rfl, rfl, rfl, rfl⟩ rfl flat22) rfl rfl (wt_none' rfl) ?_
  refine px_rd' rfl (rd_len' rfl Try.underlying22) rfl rfl (wt_none' rfl) ?_
  refine px_rd' rfl (rd_move' rfl) rfl rfl (wt_none' rfl) ?_
  refine px_rd' rfl (rd_nilck' rfl) rfl rfl (wt_none' rfl) ?_
  refine px_rd' rfl (rd_field0' rfl Try.underlying160 rfl info149 rfl) rfl rfl (wt_none' rfl) ?_
  refine px_rd' rfl (rd_field0' rfl Try.underlying149 rfl info112 rfl) rfl rfl (wt_none' rfl) ?_
  refine px_rd' rfl (rd_field' (off := 1) rfl Try.underlying112 rfl info3 rfl) rfl rfl (wt_none' rfl) ?_
  refine px_rd' rfl (rd_load' (i := 0) (o := 1) rfl ⟨rfl, rfl, rfl, rfl⟩ rfl flat3) rfl rfl (wt_none' rfl) ?_
  obtain ⟨r22, hr22, hp⟩ := bind_some hp
  refine px_ox' rfl (ox_calln' (ent_fn' Try.func170 isn170 rfl rfl) (gogeom_length1_sim _ _ _ _ hr22 : Go.Sx.Fn Try.prog 170 [(Sl Kf a0_2), (Vl (.int .i64 0)), (Vl (.int .i64 (a0_2.length : Int))), (Vl (.int .i64 a0_1))] [] (fun x : Unit => (Fl r22)) (fun x => [])) (Hn := fun x : Unit => [⟨.pointer (some wa0), [(Vl (.int .i64 a0_0)), (Vl (.int .i64 a0_1)), (Sl Kf a0_2), (Vl (.int .i64 a0_3))], 160, none⟩]) (fun _ => rfl) rfl rfl) rfl bs_nil (wt_none' rfl) fun ⟨⟩ => ?_
  refine px_rd' rfl (rd_assign' rfl) rfl rfl (wt_none' rfl) ?_
  refine px_nil' ?_
  show TX E K2 _
  refine tx_k' hK2 ?_
  refine cx_retc' ?_
  replace hp := Option.some.inj hp
  subst hp
  refine tx_pick' (L' := [(2, (Fl r22))]) (H' := [⟨.pointer (some wa0), [(Vl (.int .i64 a0_0)), (Vl (.int .i64 a0_1)), (Sl Kf a0_2), (Vl (.int .i64 a0_3))], 160, none⟩]) [0] (sub_cons rfl sub_nil) (by decide) (pick_cons rfl pick_nil) ?_
  exact tx_ret1' Try.results178 rfl () (rv_tmp' rfl) (List.Sublist.refl _)

def gogeom_LinearRing_Length (k : Nat) (a0_0 : Int) (a0_1 : Int) (a0_2 : List Nat) (a0_3 : Int) : Option (Int × Int × (List Nat) × Int × Nat) :=
  (gogeom_length1 k a0_2 0 (a0_2.length : Int) a0_1) >>= fun r22 =>
  some (a0_0, a0_1, a0_2, a0_3, r22)

theorem gogeom_LinearRing_Length_sim {k : Nat} {wa0 : Addr} (a0_0 : Int) (a0_1 : Int) (a0_2 : List Nat) (a0_3 : Int) {out : Int × Int × (List Nat) × Int × Nat} (hp : gogeom_LinearRing_Length k a0_0 a0_1 a0_2 a0_3 = some out) : Go.Sx.Fn Try.prog 173 [(Vl (.pointer (some wa0)))] [⟨.pointer (some wa0), [(Vl (.int .i64 a0_0)), (Vl (.int .i64 a0_1)), (Sl Kf a0_2), (Vl (.int .i64 a0_3))], 151, none⟩] (fun w : Unit => (Fl out.2.2.2.2)) (fun w => [⟨.pointer (some wa0), [(Vl (.int .i64 out.1)), (Vl (.int .i64 out.2.1)), (Sl Kf out.2.2.1), (Vl (.int .i64 out.2.2.2.1))], 151, none⟩]) := by
  unfold gogeom_LinearRing_Length at hp
  refine fn_of Try.func173 rfl Try.ntmps173 rfl fun E hM => ?_
  refine cx_seq' fun K1 hK1 => ?_
  refine cx_region' ?_
  refine sx_rd' (rd_assign' rfl) rfl rfl (wt_none' rfl) ?_
  refine sx_nil' ?_
  show TX E K1 _
  refine tx_k' hK1 ?_
  refine cx_seq' fun K2 hK2 => ?_
  refine cx_plan' [] [] [(0, 1), (1, 1), (2, 1), (3, 1), (4, 1), (5, 1), (6, 1), (7, 1), (8, 1), (9, 1), (10, 1), (11, 1), (12, 1), (13, 1), (14, 1), (15, 1), (16, 1), (17, 1), (18, 1), (19, 0), (20, 1)] mixed (by kernel_rfl) ?_
  refine px_rd' rfl (rd_move' rfl) rfl rfl (wt_none' rfl) ?_
  refine px_rd' rfl (rd_nilck' rfl) rfl rfl (wt_none' rfl) ?_
  refine px_rd' rfl (rd_field0' rfl Try.underlying151 rfl info149 rfl) rfl rfl (wt_none' rfl) ?_
  refine px_rd' rfl (rd_field0' rfl Try.underlying149 rfl info112 rfl) rfl rfl (wt_none' rfl) ?_
  refine px_rd' rfl (rd_field' (off := 2) rfl Try.underlying112 rfl info22 rfl) rfl rfl (wt_none' rfl) ?_
  refine px_rd' rfl (rd_load' (i := 0) (o := 2) rfl ⟨rfl, rfl, rfl, rfl⟩ rfl flat22) rfl rfl (wt_none' rfl) ?_
  refine px_rd' rfl (rd_move' rfl) rfl rfl (wt_none' rfl) ?_
  refine px_rd' rfl (rd_nilck' rfl) rfl rfl (wt_none' rfl) ?_
  refine px_rd' rfl (rd_field0' rfl Try.underlying151 rfl info149 rfl) rfl rfl (wt_none' rfl) ?_
  refine px_rd' rfl (rd_field0' rfl Try.underlying149 rfl info112 rfl) rfl rfl (wt_none' rfl) ?_
  refine px_rd' rfl (rd_field' (off := 2) rfl Try.underlying112 rfl info22 rfl) rfl rfl (wt_none' rfl) ?_
  refine px_rd' rfl (rd_load' (i := 0) (o := 2) rfl ⟨rfl, rfl, rfl, rfl⟩ rfl flat22) rfl rfl (wt_none' rfl) ?_
  refine px_rd' rfl (rd_len' rfl Try.underlying22) rfl rfl (wt_none' rfl) ?_
  refine px_rd' rfl (rd_move' rfl) rfl rfl (wt_none' rfl) ?_
  refine px_rd' rfl (rd_nilck' rfl) rfl rfl (wt_none' rfl) ?_
  refine px_rd' rfl (rd_field0' rfl Try.underlying151 rfl info149 rfl) rfl rfl (wt_none' rfl) ?_
  refine px_rd' rfl (rd_field0' rfl Try.underlying149 rfl info112 rfl) rfl rfl (wt_none' rfl) ?_
  refine px_rd' rfl (rd_field' (off := 1) rfl Try.underlying112 rfl info3 rfl) rfl rfl (wt_none' rfl) ?_
  refine px_rd' rfl (rd_load' (i := 0) (o := 1) rfl ⟨rfl, rfl, rfl, rfl⟩ rfl flat3) rfl rfl (wt_none' rfl) ?_
  obtain ⟨r22, hr22, hp⟩ := bind_some hp
  refine px_ox' rfl (ox_calln' (ent_fn' Try.func170 isn170 rfl rfl) (gogeom_length1_sim _ _ _ _ hr22 : Go.Sx.Fn Try.prog 170 [(Sl Kf a0_2), (Vl (.int .i64 0)), (Vl (.int .i64 (a0_2.length : Int))), (Vl (.int .i64 a0_1))] [] (fun x : Unit => (Fl r22)) (fun x => [])) (Hn := fun x : Unit => [⟨.pointer (some wa0), [(Vl (.int .i64 a0_0)), (Vl (.int .i64 a0_1)), (Sl Kf a0_2), (Vl (.int .i64 a0_3))], 151, none⟩]) (fun _ => rfl) rfl rfl) rfl bs_nil (wt_none' rfl) fun ⟨⟩ => ?_
  refine px_rd' rfl (rd_assign' rfl) rfl rfl (wt_none' rfl) ?_
  refine px_nil' ?_
  show TX E K2 _
  refine tx_k' hK2 ?_
  refine cx_retc' ?_
  replace hp := Option.some.inj hp
  subst hp
  refine tx_pick' (L' := [(2, (Fl r22))]) (H' := [⟨.pointer (some wa0), [(Vl (.int .i64 a0_0)), (Vl (.int .i64 a0_1)), (Sl Kf a0_2), (Vl (.int .i64 a0_3))], 151, none⟩]) [0] (sub_cons rfl sub_nil) (by decide) (pick_cons rfl pick_nil) ?_
  exact tx_ret1' Try.results173 rfl () (rv_tmp' rfl) (List.Sublist.refl _)

def gogeom_length2_l1s (a2 : List Int) (a0 : List Nat) (a3 : Int) (k : Nat) (rec1 : (Int × Nat × Int) → Option (Nat)) (x1 : Int) (x2 : Nat) (x3 : Int) : Option (Nat) :=
  br (decide (x3 < (a2.length : Int)))
    ((idx a2 x3) >>= fun r16 =>
    (gogeom_length1 k a0 x1 r16 a3) >>= fun r23 =>
    (some (gadd x2 r23)) >>= fun r24 =>
    rec1 (r16, r24, (iadd .i64 x3 1)))
    (some x2)
def gogeom_length2_l1 (a2 : List Int) (a0 : List Nat) (a3 : Int) : Nat → (Int × Nat × Int) → Option (Nat)
  | 0, _ => none
  | k + 1, v => gogeom_length2_l1s a2 a0 a3 k (gogeom_length2_l1 a2 a0 a3 k) v.1 v.2.1 v.2.2
def gogeom_length2 (k : Nat) (a0 : List Nat) (a1 : Int) (a2 : List Int) (a3 : Int) : Option (Nat) :=
  (gogeom_length2_l1 a2 a0 a3 k (a1, 0, 0)) >>= fun v2 =>
  some v2

theorem gogeom_length2_sim {k : Nat}  (a0 : List Nat) (a1 : Int) (a2 : List Int) (a3 : Int) {out : Nat} (hp : gogeom_length2 k a0 a1 a2 a3 = some out) : Go.Sx.Fn Try.prog 169 [(Sl Kf a0), (Vl (.int .i64 a1)), (Sl (Ki .i64) a2), (Vl (.int .i64 a3))] [] (fun w : Unit => (Fl out)) (fun w => []) := by
  unfold gogeom_length2 at hp
  refine fn_of Try.func169 rfl Try.ntmps169 rfl fun E hM => ?_
  refine cx_seq' fun K1 hK1 => ?_
  refine cx_region' ?_
  refine sx_rd' (rd_assign' rfl) rfl rfl (wt_none' rfl) ?_
  refine sx_nil' ?_
  show TX E K1 _
  refine tx_k' hK1 ?_
  refine cx_seq' fun K2 hK2 => ?_
  refine cx_region' ?_
  refine sx_rd' (rd_assign' rfl) rfl rfl (wt_none' rfl) ?_
  refine sx_nil' ?_
  show TX E K2 _
  refine tx_k' hK2 ?_
  refine cx_seq' fun K3 hK3 => ?_
  refine cx_seq' fun K4 hK4 => ?_
  refine cx_region' ?_
  refine sx_rd' (rd_move' rfl) rfl rfl (wt_none' rfl) ?_
  refine sx_rd' (rd_len' rfl Try.underlying23) rfl rfl (wt_none' rfl) ?_
  refine sx_rd' (rd_move' rfl) rfl rfl (wt_none' rfl) ?_
  refine sx_nil' ?_
  show TX E K4 _
  refine tx_k' hK4 ?_
  refine cx_block' ?_
  obtain ⟨v2, hy1, hp⟩ := bind_some hp
  refine tx_slot' 9 (y := (Fl 0)) rfl imp_vf ?_
  refine cx_loopg' (F := gogeom_length2_l1 a2 a0 a3) (G := fun k R v => gogeom_length2_l1s a2 a0 a3 k R v.1 v.2.1 v.2.2) (x := (a1, 0, 0)) (gh := ()) (fun (v1 : Int × Nat × Int) (w1 : Unit) => (⟨28, [], [(0, (Sl Kf a0)), (1, (Vl (.int .i64 v1.1))), (3, (Vl (.int .i64 a3))), (9, (Fl v1.2.1)), (12, (Sl (Ki .i64) a2)), (13, (Vl (.int .i64 (a2.length : Int)))), (14, (Vl (.int .i64 v1.2.2)))], []⟩ : St)) (fun (v2 : Nat) => Zg E (Exit.exit 0) (fun (w2 : Unit) => (⟨28, [], [(9, (Fl v2))], []⟩ : St))) (fun _ => rfl) (fun _ _ => rfl) ?_ hy1 (tx_to' rfl [] (sub_cons rfl (sub_cons rfl (sub_cons rfl (sub_cons rfl (sub_cons rfl (sub_cons rfl (sub_cons rfl sub_nil))))))) (by decide) pick_nil) ?_
  · clear hp hy1
    clear v2
    intro k rec1 KY1 ih1
    rintro ⟨x1, x2, x3⟩ ⟨⟩ y1 hp
    replace hp : gogeom_length2_l1s a2 a0 a3 k rec1 x1 x2 x3 = some y1 := hp
    unfold gogeom_length2_l1s at hp
    refine cx_seq' fun K10 hK10 => ?_
    refine cx_region' ?_
    refine sx_rd' (rd_bin' rfl rfl eg_int ru_lss) rfl rfl (wt_none' rfl) ?_
    refine sx_nil' ?_
    show TX E K10 _
    refine tx_k' hK10 ?_
    refine cx_seq' fun K11 hK11 => ?_
    refine cx_cond' rfl (fun h3 => ?_) (fun h3 => ?_)
    · replace hp := (br_t h3).symm.trans hp
      refine cx_skip' ?_
      show TX E K11 _
      refine tx_k' hK11 ?_
      refine cx_seq' fun K12 hK12 => ?_
      refine cx_block' ?_
      refine cx_seq' fun K13 hK13 => ?_
      refine cx_region' ?_
      obtain ⟨r16, hr16, hp⟩ := bind_some hp
      refine sx_rd' (rd_at' (K := (Ki .i64)) rfl rfl hr16 Try.underlying23 info3) rfl rfl (wt_none' rfl) ?_
      refine sx_rd' (rd_load_pt' rfl rfl flat3) rfl rfl (wt_none' rfl) ?_
      refine sx_rd' (rd_assign' rfl) rfl rfl (wt_none' rfl) ?_
      refine sx_nil' ?_
      show TX E K13 _
      refine tx_k' hK13 ?_
      refine cx_seq' fun K14 hK14 => ?_
      refine cx_region' ?_
      refine sx_rd' (rd_move' rfl) rfl rfl (wt_none' rfl) ?_
      refine sx_rd' (rd_move' rfl) rfl rfl (wt_none' rfl) ?_
      refine sx_rd' (rd_move' rfl) rfl rfl (wt_none' rfl) ?_
      refine sx_rd' (rd_move' rfl) rfl rfl (wt_none' rfl) ?_
      refine sx_rd' (rd_move' rfl) rfl rfl (wt_none' rfl) ?_
      obtain ⟨r23, hr23, hp⟩ := bind_some hp
      refine sx_ox' (ox_calln' (ent_fn' Try.func170 isn170 rfl rfl) (gogeom_length1_sim _ _ _ _ hr23 : Go.Sx.Fn Try.prog 170 [(Sl Kf a0), (Vl (.int .i64 x1)), (Vl (.int .i64 r16)), (Vl (.int .i64 a3))] [] (fun x : Unit => (Fl r23)) (fun x => [])) (Hn := fun x : Unit => []) (fun _ => rfl) rfl rfl) (wt_none' rfl) fun ⟨⟩ => ?_
      obtain ⟨r24, hr24, hp⟩ := bind_some hp
      refine sx_ox' (ox_fop' (.inl rfl) (fl_f rfl) (fl_f rfl) (Option.some.inj hr24) rfl rfl) (wt_none' rfl) fun _ => ?_
      refine sx_rd' (rd_assign' rfl) rfl rfl (wt_none' rfl) ?_
      refine sx_nil' ?_
      show TX E K14 _
      refine tx_k' hK14 ?_
      refine cx_region' ?_
      refine sx_rd' (rd_move' rfl) rfl rfl (wt_none' rfl) ?_
      refine sx_rd' (rd_assign' rfl) rfl rfl (wt_none' rfl) ?_
      refine sx_nil' ?_
      show TX E K12 _
      refine tx_k' hK12 ?_
      refine cx_region' ?_
      refine sx_rd' (rd_bin' rfl rfl eg_int ru_add) rfl rfl (wt_none' rfl) ?_
      refine sx_rd' (rd_move' rfl) rfl rfl (wt_none' rfl) ?_
      refine sx_nil' ?_
      show TX E (KY1 _) _
      exact tx_pick' [] (sub_cons rfl (sub_cons rfl (sub_cons rfl (sub_cons rfl (sub_cons rfl (sub_cons rfl (sub_cons rfl sub_nil))))))) (by decide) pick_nil (ih1 (r16, r24, (iadd .i64 x3 1)) () _ hp)
    · replace hp := (br_f h3).symm.trans hp
      refine cx_exit' ?_
      replace hp := Option.some.inj hp
      subst hp
      show TX E (Zg E (Exit.exit 0) _ (Exit.exit 0)) _
      exact tx_zend' () rfl [] (sub_cons rfl sub_nil) (by decide) pick_nil
  · refine zg_out fun w2 => ?_
    show TX E K3 _
    refine tx_k' hK3 ?_
    refine cx_seq' fun K15 hK15 => ?_
    refine cx_region' ?_
    refine sx_rd' (rd_move' rfl) rfl rfl (wt_none' rfl) ?_
    refine sx_rd' (rd_assign' rfl) rfl rfl (wt_none' rfl) ?_
    refine sx_nil' ?_
    show TX E K15 _
    refine tx_k' hK15 ?_
    refine cx_retc' ?_
    replace hp := Option.some.inj hp
    subst hp
    refine tx_pick' (L' := [(8, (Fl v2))]) (H' := []) [] (sub_cons rfl sub_nil) (by decide) pick_nil ?_
    exact tx_ret1' Try.results169 rfl () (rv_tmp' rfl) (List.Sublist.refl _)

def gogeom_Polygon_Length (k : Nat) (a0_0 : Int) (a0_1 : Int) (a0_2 : List Nat) (a0_3 : Int) (a0_4 : List Int) : Option (Int × Int × (List Nat) × Int × (List Int) × Nat) :=
  (gogeom_length2 k a0_2 0 a0_4 a0_1) >>= fun r22 =>
  some (a0_0, a0_1, a0_2, a0_3, a0_4, r22)

theorem gogeom_Polygon_Length_sim {k : Nat} {wa0 : Addr} (a0_0 : Int) (a0_1 : Int) (a0_2 : List Nat) (a0_3 : Int) (a0_4 : List Int) {out : Int × Int × (List Nat) × Int × (List Int) × Nat} (hp : gogeom_Polygon_Length k a0_0 a0_1 a0_2 a0_3 a0_4 = some out) : Go.Sx.Fn Try.prog 166 [(Vl (.pointer (some wa0)))] [⟨.pointer (some wa0), [(Vl (.int .i64 a0_0)), (Vl (.int .i64 a0_1)), (Sl Kf a0_2), (Vl (.int .i64 a0_3)), (Sl (Ki .i64) a0_4)], 155, none⟩] (fun w : Unit => (Fl out.2.2.2.2.2)) (fun w => [⟨.pointer (some wa0), [(Vl (.int .i64 out.1)), (Vl (.int .i64 out.2.1)), (Sl Kf out.2.2.1), (Vl (.int .i64 out.2.2.2.1)), (Sl (Ki .i64) out.2.2.2.2.1)], 155, none⟩]) := by
  unfold gogeom_Polygon_Length at hp
  refine fn_of Try.func166 rfl Try.ntmps166 rfl fun E hM => ?_
  refine cx_seq' fun K1 hK1 => ?_
  refine cx_region' ?_
  refine sx_rd' (rd_assign' rfl) rfl rfl (wt_none' rfl) ?_
  refine sx_nil' ?_
  show TX E K1 _
  refine tx_k' hK1 ?_
  refine cx_seq' fun K2 hK2 => ?_
  refine cx_plan' [] [] [(0, 1), (1, 1), (2, 1), (3, 1), (4, 1), (5, 1), (6, 1), (7, 1), (8, 1), (9, 1), (10, 1), (11, 1), (12, 1), (13, 1), (14, 1), (15, 1), (16, 1), (17, 1), (18, 1), (19, 0), (20, 1)] mixed (by kernel_rfl) ?_
  refine px_rd' rfl (rd_move' rfl) rfl rfl (wt_none' rfl) ?_
  refine px_rd' rfl (rd_nilck' rfl) rfl rfl (wt_none' rfl) ?_
  refine px_rd' rfl (rd_field0' rfl Try.underlying155 rfl info153 rfl) rfl rfl (wt_none' rfl) ?_
  refine px_rd' rfl (rd_field0' rfl Try.underlying153 rfl info149 rfl) rfl rfl (wt_none' rfl) ?_
  refine px_rd' rfl (rd_field0' rfl Try.underlying149 rfl info112 rfl) rfl rfl (wt_none' rfl) ?_
  refine px_rd' rfl (rd_field' (off := 2) rfl Try.underlying112 rfl info22 rfl) rfl rfl (wt_none' rfl) ?_
  refine px_rd' rfl (rd_load' (i := 0) (o := 2) rfl ⟨rfl, rfl, rfl, rfl⟩ rfl flat22) rfl rfl (wt_none' rfl) ?_
  refine px_rd' rfl (rd_move' rfl) rfl rfl (wt_none' rfl) ?_
  refine px_rd' rfl (rd_nilck' rfl) rfl rfl (wt_none' rfl) ?_
  refine px_rd' rfl (rd_field0' rfl Try.underlying155 rfl info153 rfl) rfl rfl (wt_none' rfl) ?_
  refine px_rd' rfl (rd_field' (off := 4) rfl Try.underlying153 rfl info23 rfl) rfl rfl (wt_none' rfl) ?_
  refine px_rd' rfl (rd_load' (i := 0) (o := 4) rfl ⟨rfl, rfl, rfl, rfl⟩ rfl flat23) rfl rfl (wt_none' rfl) ?_
  refine px_rd' rfl (rd_move' rfl) rfl rfl (wt_none' rfl) ?_
  refine px_rd' rfl (rd_nilck' rfl) rfl rfl (wt_none' rfl) ?_
  refine px_rd' rfl (rd_field0' rfl Try.underlying155 rfl info153 rfl) rfl rfl (wt_none' rfl) ?_
  refine px_rd' rfl (rd_field0' rfl Try.underlying153 rfl info149 rfl) rfl rfl (wt_none' rfl) ?_
  refine px_rd' rfl (rd_field0' rfl Try.underlying149 rfl info112 rfl) rfl rfl (wt_none' rfl) ?_
  refine px_rd' rfl (rd_field' (off := 1) rfl Try.underlying112 rfl info3 rfl) rfl rfl (wt_none' rfl) ?_
  refine px_rd' rfl (rd_load' (i := 0) (o := 1) rfl ⟨rfl, rfl, rfl, rfl⟩ rfl flat3) rfl rfl (wt_none' rfl) ?_
  obtain ⟨r22, hr22, hp⟩ := bind_some hp
  refine px_ox' rfl (ox_calln' (ent_fn' Try.func169 isn169 rfl rfl) (gogeom_length2_sim _ _ _ _ hr22 : Go.Sx.Fn Try.prog 169 [(Sl Kf a0_2), (Vl (.int .i64 0)), (Sl (Ki .i64) a0_4), (Vl (.int .i64 a0_1))] [] (fun x : Unit => (Fl r22)) (fun x => [])) (Hn := fun x : Unit => [⟨.pointer (some wa0), [(Vl (.int .i64 a0_0)), (Vl (.int .i64 a0_1)), (Sl Kf a0_2), (Vl (.int .i64 a0_3)), (Sl (Ki .i64) a0_4)], 155, none⟩]) (fun _ => rfl) rfl rfl) rfl bs_nil (wt_none' rfl) fun ⟨⟩ => ?_
  refine px_rd' rfl (rd_assign' rfl) rfl rfl (wt_none' rfl) ?_
  refine px_nil' ?_
  show TX E K2 _
  refine tx_k' hK2 ?_
  refine cx_retc' ?_
  replace hp := Option.some.inj hp
  subst hp
  refine tx_pick' (L' := [(2, (Fl r22))]) (H' := [⟨.pointer (some wa0), [(Vl (.int .i64 a0_0)), (Vl (.int .i64 a0_1)), (Sl Kf a0_2), (Vl (.int .i64 a0_3)), (Sl (Ki .i64) a0_4)], 155, none⟩]) [0] (sub_cons rfl sub_nil) (by decide) (pick_cons rfl pick_nil) ?_
  exact tx_ret1' Try.results166 rfl () (rv_tmp' rfl) (List.Sublist.refl _)

def gogeom_MultiPoint_Length (k : Nat) (a0_0 : Int) (a0_1 : Int) (a0_2 : List Nat) (a0_3 : Int) (a0_4 : List Int) : Option (Int × Int × (List Nat) × Int × (List Int) × Nat) :=
  some (a0_0, a0_1, a0_2, a0_3, a0_4, 0)

theorem gogeom_MultiPoint_Length_sim {k : Nat} {wa0 : Addr} (a0_0 : Int) (a0_1 : Int) (a0_2 : List Nat) (a0_3 : Int) (a0_4 : List Int) {out : Int × Int × (List Nat) × Int × (List Int) × Nat} (hp : gogeom_MultiPoint_Length k a0_0 a0_1 a0_2 a0_3 a0_4 = some out) : Go.Sx.Fn Try.prog 175 [(Vl (.pointer (some wa0)))] [⟨.pointer (some wa0), [(Vl (.int .i64 a0_0)), (Vl (.int .i64 a0_1)), (Sl Kf a0_2), (Vl (.int .i64 a0_3)), (Sl (Ki .i64) a0_4)], 158, none⟩] (fun w : Unit => (Vl (.float .f64 out.2.2.2.2.2))) (fun w => [⟨.pointer (some wa0), [(Vl (.int .i64 out.1)), (Vl (.int .i64 out.2.1)), (Sl Kf out.2.2.1), (Vl (.int .i64 out.2.2.2.1)), (Sl (Ki .i64) out.2.2.2.2.1)], 158, none⟩]) := by
  unfold gogeom_MultiPoint_Length at hp
  refine fn_of Try.func175 rfl Try.ntmps175 rfl fun E hM => ?_
  refine cx_seq' fun K1 hK1 => ?_
  refine cx_region' ?_
  refine sx_rd' (rd_assign' rfl) rfl rfl (wt_none' rfl) ?_
  refine sx_nil' ?_
  show TX E K1 _
  refine tx_k' hK1 ?_
  refine cx_seq' fun K2 hK2 => ?_
  refine cx_region' ?_
  refine sx_rd' (rd_assign' rfl) rfl rfl (wt_none' rfl) ?_
  refine sx_nil' ?_
  show TX E K2 _
  refine tx_k' hK2 ?_
  refine cx_retc' ?_
  replace hp := Option.some.inj hp
  subst hp
  refine tx_pick' (L' := [(2, (Vl (.float .f64 0)))]) (H' := [⟨.pointer (some wa0), [(Vl (.int .i64 a0_0)), (Vl (.int .i64 a0_1)), (Sl Kf a0_2), (Vl (.int .i64 a0_3)), (Sl (Ki .i64) a0_4)], 158, none⟩]) [0] (sub_cons rfl sub_nil) (by decide) (pick_cons rfl pick_nil) ?_
  exact tx_ret1' Try.results175 rfl () (rv_tmp' rfl) (List.Sublist.refl _)

def gogeom_MultiLineString_Length (k : Nat) (a0_0 : Int) (a0_1 : Int) (a0_2 : List Nat) (a0_3 : Int) (a0_4 : List Int) : Option (Int × Int × (List Nat) × Int × (List Int) × Nat) :=
  (gogeom_length2 k a0_2 0 a0_4 a0_1) >>= fun r22 =>
  some (a0_0, a0_1, a0_2, a0_3, a0_4, r22)

theorem gogeom_MultiLineString_Length_sim {k : Nat} {wa0 : Addr} (a0_0 : Int) (a0_1 : Int) (a0_2 : List Nat) (a0_3 : Int) (a0_4 : List Int) {out : Int × Int × (List Nat) × Int × (List Int) × Nat} (hp : gogeom_MultiLineString_Length k a0_0 a0_1 a0_2 a0_3 a0_4 = some out) : Go.Sx.Fn Try.prog 177 [(Vl (.pointer (some wa0)))] [⟨.pointer (some wa0), [(Vl (.int .i64 a0_0)), (Vl (.int .i64 a0_1)), (Sl Kf a0_2), (Vl (.int .i64 a0_3)), (Sl (Ki .i64) a0_4)], 161, none⟩] (fun w : Unit => (Fl out.2.2.2.2.2)) (fun w => [⟨.pointer (some wa0), [(Vl (.int .i64 out.1)), (Vl (.int .i64 out.2.1)), (Sl Kf out.2.2.1), (Vl (.int .i64 out.2.2.2.1)), (Sl (Ki .i64) out.2.2.2.2.1)], 161, none⟩]) := by
  unfold gogeom_MultiLineString_Length at hp
  refine fn_of Try.func177 rfl Try.ntmps177 rfl fun E hM => ?_
  refine cx_seq' fun K1 hK1 => ?_
  refine cx_region' ?_
  refine sx_rd' (rd_assign' rfl) rfl rfl (wt_none' rfl) ?_
  refine sx_nil' ?_
  show TX E K1 _
  refine tx_k' hK1 ?_
  refine cx_seq' fun K2 hK2 => ?_
  refine cx_plan' [] [] [(0, 1), (1, 1), (2, 1), (3, 1), (4, 1), (5, 1), (6, 1), (7, 1), (8, 1), (9, 1), (10, 1), (11, 1), (12, 1), (13, 1), (14, 1), (15, 1), (16, 1), (17, 1), (18, 1), (19, 0), (20, 1)] mixed (by kernel_rfl) ?_
  refine px_rd' rfl (rd_move' rfl) rfl rfl (wt_none' rfl) ?_
  refine px_rd' rfl (rd_nilck' rfl) rfl rfl (wt_none' rfl) ?_
  refine px_rd' rfl (rd_field0' rfl Try.underlying161 rfl info153 rfl) rfl rfl (wt_none' rfl) ?_
  refine px_rd' rfl (rd_field0' rfl Try.underlying153 rfl info149 rfl) rfl rfl (wt_none' rfl) ?_
  refine px_rd' rfl (rd_field0' rfl Try.underlying149 rfl info112 rfl) rfl rfl (wt_none' rfl) ?_
  refine px_rd' rfl (rd_field' (off := 2) rfl Try.underlying112 rfl info22 rfl) rfl rfl (wt_none' rfl) ?_
  refine px_rd' rfl (rd_load' (i := 0) (o := 2) rfl ⟨rfl, rfl, rfl, rfl⟩ rfl flat22) rfl rfl (wt_none' rfl) ?_
  refine px_rd' rfl (rd_move' rfl) rfl rfl (wt_none' rfl) ?_
  refine px_rd' rfl (rd_nilck' rfl) rfl rfl (wt_none' rfl) ?_
  refine px_rd' rfl (rd_field0' rfl Try.underlying161 rfl info153 rfl) rfl rfl (wt_none' rfl) ?_
  refine px_rd' rfl (rd_field' (off := 4) rfl Try.underlying153 rfl info23 rfl) rfl rfl (wt_none' rfl) ?_
  refine px_rd' rfl (rd_load' (i := 0) (o := 4) rfl ⟨rfl, rfl, rfl, rfl⟩ rfl flat23) rfl rfl (wt_none' rfl) ?_
  refine px_rd' rfl (rd_move' rfl) rfl rfl (wt_none' rfl) ?_
  refine px_rd' rfl (rd_nilck' rfl) rfl rfl (wt_none' rfl) ?_
  refine px_rd' rfl (rd_field0' rfl Try.underlying161 rfl info153 rfl) rfl rfl (wt_none' rfl) ?_
  refine px_rd' rfl (rd_field0' rfl Try.underlying153 rfl info149 rfl) rfl rfl (wt_none' rfl) ?_
  refine px_rd' rfl (rd_field0' rfl Try.underlying149 rfl info112 rfl) rfl rfl (wt_none' rfl) ?_
  refine px_rd' rfl (rd_field' (off := 1) rfl Try.underlying112 rfl info3 rfl) rfl rfl (wt_none' rfl) ?_
  refine px_rd' rfl (rd_load' (i := 0) (o := 1) rfl ⟨rfl, rfl, rfl, rfl⟩ rfl flat3) rfl rfl (wt_none' rfl) ?_
  obtain ⟨r22, hr22, hp⟩ := bind_some hp
  refine px_ox' rfl (ox_calln' (ent_fn' Try.func169 isn169 rfl rfl) (gogeom_length2_sim _ _ _ _ hr22 : Go.Sx.Fn Try.prog 169 [(Sl Kf a0_2), (Vl (.int .i64 0)), (Sl (Ki .i64) a0_4), (Vl (.int .i64 a0_1))] [] (fun x : Unit => (Fl r22)) (fun x => [])) (Hn := fun x : Unit => [⟨.pointer (some wa0), [(Vl (.int .i64 a0_0)), (Vl (.int .i64 a0_1)), (Sl Kf a0_2), (Vl (.int .i64 a0_3)), (Sl (Ki .i64) a0_4)], 161, none⟩]) (fun _ => rfl) rfl rfl) rfl bs_nil (wt_none' rfl) fun ⟨⟩ => ?_
  refine px_rd' rfl (rd_assign' rfl) rfl rfl (wt_none' rfl) ?_
  refine px_nil' ?_
  show TX E K2 _
  refine tx_k' hK2 ?_
  refine cx_retc' ?_
  replace hp := Option.some.inj hp
  subst hp
  refine tx_pick' (L' := [(2, (Fl r22))]) (H' := [⟨.pointer (some wa0), [(Vl (.int .i64 a0_0)), (Vl (.int .i64 a0_1)), (Sl Kf a0_2), (Vl (.int .i64 a0_3)), (Sl (Ki .i64) a0_4)], 161, none⟩]) [0] (sub_cons rfl sub_nil) (by decide) (pick_cons rfl pick_nil) ?_
  exact tx_ret1' Try.results177 rfl () (rv_tmp' rfl) (List.Sublist.refl _)

def gogeom_length3_l1s (a2 : List (List Int)) (a0 : List Nat) (a3 : Int) (k : Nat) (rec1 : (Int × Nat × Int) → Option (Nat)) (x1 : Int) (x2 : Nat) (x3 : Int) : Option (Nat) :=
  br (decide (x3 < (a2.length : Int)))
    ((idx a2 x3) >>= fun r16 =>
    (gogeom_length2 k a0 x1 r16 a3) >>= fun r23 =>
    (some (gadd x2 r23)) >>= fun r24 =>
    (idx r16 (isub .i64 (r16.length : Int) 1)) >>= fun r29 =>
    rec1 (r29, r24, (iadd .i64 x3 1)))
    (some x2)
def gogeom_length3_l1 (a2 : List (List Int)) (a0 : List Nat) (a3 : Int) : Nat → (Int × Nat × Int) → Option (Nat)
  | 0, _ => none
  | k + 1, v => gogeom_length3_l1s a2 a0 a3 k (gogeom_length3_l1 a2 a0 a3 k) v.1 v.2.1 v.2.2
def gogeom_length3 (k : Nat) (a0 : List Nat) (a1 : Int) (a2 : List (List Int)) (a3 : Int) : Option (Nat) :=
  (gogeom_length3_l1 a2 a0 a3 k (a1, 0, 0)) >>= fun v2 =>
  some v2

theorem gogeom_length3_sim {k : Nat}  (a0 : List Nat) (a1 : Int) (a2 : List (List Int)) (a3 : Int) {out : Nat} (hp : gogeom_length3 k a0 a1 a2 a3 = some out) : Go.Sx.Fn Try.prog 182 [(Sl Kf a0), (Vl (.int .i64 a1)), (Sl (Kl (Ki .i64)) a2), (Vl (.int .i64 a3))] [] (fun w : Unit => (Fl out)) (fun w => []) := by
  unfold gogeom_length3 at hp
  refine fn_of Try.func182 rfl Try.ntmps182 rfl fun E hM => ?_
  refine cx_seq' fun K1 hK1 => ?_
  refine cx_region' ?_
  refine sx_rd' (rd_assign' rfl) rfl rfl (wt_none' rfl) ?_
  refine sx_nil' ?_
  show TX E K1 _
  refine tx_k' hK1 ?_
  refine cx_seq' fun K2 hK2 => ?_
  refine cx_region' ?_
  refine sx_rd' (rd_assign' rfl) rfl rfl (wt_none' rfl) ?_
  refine sx_nil' ?_
  show TX E K2 _
  refine tx_k' hK2 ?_
  refine cx_seq' fun K3 hK3 => ?_
  refine cx_seq' fun K4 hK4 => ?_
  refine cx_region' ?_
  refine sx_rd' (rd_move' rfl) rfl rfl (wt_none' rfl) ?_
  refine sx_rd' (rd_len' rfl Try.underlying24) rfl rfl (wt_none' rfl) ?_
  refine sx_rd' (rd_move' rfl) rfl rfl (wt_none' rfl) ?_
  refine sx_nil' ?_
  show TX E K4 _
  refine tx_k' hK4 ?_
  refine cx_block' ?_
  obtain ⟨v2, hy1, hp⟩ := bind_some hp
  refine tx_slot' 9 (y := (Fl 0)) rfl imp_vf ?_
  refine cx_loopg' (F := gogeom_length3_l1 a2 a0 a3) (G := fun k R v => gogeom_length3_l1s a2 a0 a3 k R v.1 v.2.1 v.2.2) (x := (a1, 0, 0)) (gh := ()) (fun (v1 : Int × Nat × Int) (w1 : Unit) => (⟨33, [], [(0, (Sl Kf a0)), (1, (Vl (.int .i64 v1.1))), (3, (Vl (.int .i64 a3))), (9, (Fl v1.2.1)), (12, (Sl (Kl (Ki .i64)) a2)), (13, (Vl (.int .i64 (a2.length : Int)))), (14, (Vl (.int .i64 v1.2.2)))], []⟩ : St)) (fun (v2 : Nat) => Zg E (Exit.exit 0) (fun (w2 : Unit) => (⟨33, [], [(9, (Fl v2))], []⟩ : St))) (fun _ => rfl) (fun _ _ => rfl) ?_ hy1 (tx_to' rfl [] (sub_cons rfl (sub_cons rfl (sub_cons rfl (sub_cons rfl (sub_cons rfl (sub_cons rfl (sub_cons rfl sub_nil))))))) (by decide) pick_nil) ?_
  · clear hp hy1
    clear v2
    intro k rec1 KY1 ih1
    rintro ⟨x1, x2, x3⟩ ⟨⟩ y1 hp
    replace hp : gogeom_length3_l1s a2 a0 a3 k rec1 x1 x2 x3 = some y1 := hp
    unfold gogeom_length3_l1s at hp
    refine cx_seq' fun K10 hK10 => ?_
    refine cx_region' ?_
    refine sx_rd' (rd_bin' rfl rfl eg_int ru_lss) rfl rfl (wt_none' rfl) ?_
    refine sx_nil' ?_
    show TX E K10 _
    refine tx_k' hK10 ?_
    refine cx_seq' fun K11 hK11 => ?_
    refine cx_cond' rfl (fun h3 => ?_) (fun h3 => ?_)
    · replace hp := (br_t h3).symm.trans hp
      refine cx_skip' ?_
      show TX E K11 _
      refine tx_k' hK11 ?_
      refine cx_seq' fun K12 hK12 => ?_
      refine cx_block' ?_
      refine cx_seq' fun K13 hK13 => ?_
      refine cx_region' ?_
      obtain ⟨r16, hr16, hp⟩ := bind_some hp
      refine sx_rd' (rd_at' (K := (Kl (Ki .i64))) rfl rfl hr16 Try.underlying24 info23) rfl rfl (wt_none' rfl) ?_
      refine sx_rd' (rd_load_pt' rfl rfl flat23) rfl rfl (wt_none' rfl) ?_
      refine sx_rd' (rd_assign' rfl) rfl rfl (wt_none' rfl) ?_
      refine sx_nil' ?_
      show TX E K13 _
      refine tx_k' hK13 ?_
      refine cx_seq' fun K14 hK14 => ?_
      refine cx_region' ?_
      refine sx_rd' (rd_move' rfl) rfl rfl (wt_none' rfl) ?_
      refine sx_rd' (rd_move' rfl) rfl rfl (wt_none' rfl) ?_
      refine sx_rd' (rd_move' rfl) rfl rfl (wt_none' rfl) ?_
      refine sx_rd' (rd_move' rfl) rfl rfl (wt_none' rfl) ?_
      refine sx_rd' (rd_move' rfl) rfl rfl (wt_none' rfl) ?_
      obtain ⟨r23, hr23, hp⟩ := bind_some hp
      refine sx_ox' (ox_calln' (ent_fn' Try.func169 isn169 rfl rfl) (gogeom_length2_sim _ _ _ _ hr23 : Go.Sx.Fn Try.prog 169 [(Sl Kf a0), (Vl (.int .i64 x1)), (Sl (Ki .i64) r16), (Vl (.int .i64 a3))] [] (fun x : Unit => (Fl r23)) (fun x => [])) (Hn := fun x : Unit => []) (fun _ => rfl) rfl rfl) (wt_none' rfl) fun ⟨⟩ => ?_
      obtain ⟨r24, hr24, hp⟩ := bind_some hp
      refine sx_ox' (ox_fop' (.inl rfl) (fl_f rfl) (fl_f rfl) (Option.some.inj hr24) rfl rfl) (wt_none' rfl) fun _ => ?_
      refine sx_rd' (rd_assign' rfl) rfl rfl (wt_none' rfl) ?_
      refine sx_nil' ?_
      show TX E K14 _
      refine tx_k' hK14 ?_
      refine cx_region' ?_
      refine sx_rd' (rd_move' rfl) rfl rfl (wt_none' rfl) ?_
      refine sx_rd' (rd_move' rfl) rfl rfl (wt_none' rfl) ?_
      refine sx_rd' (rd_len' rfl Try.underlying23) rfl rfl (wt_none' rfl) ?_
      refine sx_rd' (rd_bin' rfl rfl eg_int ru_sub) rfl rfl (wt_none' rfl) ?_
      obtain ⟨r29, hr29, hp⟩ := bind_some hp
      refine sx_rd' (rd_at' (K := (Ki .i64)) rfl rfl hr29 Try.underlying23 info3) rfl rfl (wt_none' rfl) ?_
      refine sx_rd' (rd_load_pt' rfl rfl flat3) rfl rfl (wt_none' rfl) ?_
      refine sx_rd' (rd_assign' rfl) rfl rfl (wt_none' rfl) ?_
      refine sx_nil' ?_
      show TX E K12 _
      refine tx_k' hK12 ?_
      refine cx_region' ?_
      refine sx_rd' (rd_bin' rfl rfl eg_int ru_add) rfl rfl (wt_none' rfl) ?_
      refine sx_rd' (rd_move' rfl) rfl rfl (wt_none' rfl) ?_
      refine sx_nil' ?_
      show TX E (KY1 _) _
      exact tx_pick' [] (sub_cons rfl (sub_cons rfl (sub_cons rfl (sub_cons rfl (sub_cons rfl (sub_cons rfl (sub_cons rfl sub_nil))))))) (by decide) pick_nil (ih1 (r29, r24, (iadd .i64 x3 1)) () _ hp)
    · replace hp := (br_f h3).symm.trans hp
      refine cx_exit' ?_
      replace hp := Option.some.inj hp
      subst hp
      show TX E (Zg E (Exit.exit 0) _ (Exit.exit 0)) _
      exact tx_zend' () rfl [] (sub_cons rfl sub_nil) (by decide) pick_nil
  · refine zg_out fun w2 => ?_
    show TX E K3 _
    refine tx_k' hK3 ?_
    refine cx_seq' fun K15 hK15 => ?_
    refine cx_region' ?_
    refine sx_rd' (rd_move' rfl) rfl rfl (wt_none' rfl) ?_
    refine sx_rd' (rd_assign' rfl) rfl rfl (wt_none' rfl) ?_
    refine sx_nil' ?_
    show TX E K15 _
    refine tx_k' hK15 ?_
    refine cx_retc' ?_
    replace hp := Option.some.inj hp
    subst hp
    refine tx_pick' (L' := [(8, (Fl v2))]) (H' := []) [] (sub_cons rfl sub_nil) (by decide) pick_nil ?_
    exact tx_ret1' Try.results182 rfl () (rv_tmp' rfl) (List.Sublist.refl _)

def gogeom_MultiPolygon_Length (k : Nat) (a0_0 : Int) (a0_1 : Int) (a0_2 : List Nat) (a0_3 : Int) (a0_4 : List (List Int)) : Option (Int × Int × (List Nat) × Int × (List (List Int)) × Nat) :=
  (gogeom_length3 k a0_2 0 a0_4 a0_1) >>= fun r22 =>
  some (a0_0, a0_1, a0_2, a0_3, a0_4, r22)

theorem gogeom_MultiPolygon_Length_sim {k : Nat} {wa0 : Addr} (a0_0 : Int) (a0_1 : Int) (a0_2 : List Nat) (a0_3 : Int) (a0_4 : List (List Int)) {out : Int × Int × (List Nat) × Int × (List (List Int)) × Nat} (hp : gogeom_MultiPolygon_Length k a0_0 a0_1 a0_2 a0_3 a0_4 = some out) : Go.Sx.Fn Try.prog 180 [(Vl (.pointer (some wa0)))] [⟨.pointer (some wa0), [(Vl (.int .i64 a0_0)), (Vl (.int .i64 a0_1)), (Sl Kf a0_2), (Vl (.int .i64 a0_3)), (Sl (Kl (Ki .i64)) a0_4)], 165, none⟩] (fun w : Unit => (Fl out.2.2.2.2.2)) (fun w => [⟨.pointer (some wa0), [(Vl (.int .i64 out.1)), (Vl (.int .i64 out.2.1)), (Sl Kf out.2.2.1), (Vl (.int .i64 out.2.2.2.1)), (Sl (Kl (Ki .i64)) out.2.2.2.2.1)], 165, none⟩]) := by
  unfold gogeom_MultiPolygon_Length at hp
  refine fn_of Try.func180 rfl Try.ntmps180 rfl fun E hM => ?_
  refine cx_seq' fun K1 hK1 => ?_
  refine cx_region' ?_
  refine sx_rd' (rd_assign' rfl) rfl rfl (wt_none' rfl) ?_
  refine sx_nil' ?_
  show TX E K1 _
  refine tx_k' hK1 ?_
  refine cx_seq' fun K2 hK2 => ?_
  refine cx_plan' [] [] [(0, 1), (1, 1), (2, 1), (3, 1), (4, 1), (5, 1), (6, 1), (7, 1), (8, 1), (9, 1), (10, 1), (11, 1), (12, 1), (13, 1), (14, 1), (15, 1), (16, 1), (17, 1), (18, 1), (19, 0), (20, 1)] mixed (by kernel_rfl) ?_
  refine px_rd' rfl (rd_move' rfl) rfl rfl (wt_none' rfl) ?_
  refine px_rd' rfl (rd_nilck' rfl) rfl rfl (wt_none' rfl) ?_
  refine px_rd' rfl (rd_field0' rfl Try.underlying165 rfl info163 rfl) rfl rfl (wt_none' rfl) ?_
  refine px_rd' rfl (rd_field0' rfl Try.underlying163 rfl info149 rfl) rfl rfl (wt_none' rfl) ?_
  refine px_rd' rfl (rd_field0' rfl Try.underlying149 rfl info112 rfl) rfl rfl (wt_none' rfl) ?_
  refine px_rd' rfl (rd_field' (off := 2) rfl Try.underlying112 rfl info22 rfl) rfl rfl (wt_none' rfl) ?_
  refine px_rd' rfl (rd_load' (i := 0) (o := 2) rfl ⟨rfl, rfl, rfl, rfl⟩ rfl flat22) rfl rfl (wt_none' rfl) ?_
  refine px_rd' rfl (rd_move' rfl) rfl rfl (wt_none' rfl) ?_
  refine px_rd' rfl (rd_nilck' rfl) rfl rfl (wt_none' rfl) ?_
  refine px_rd' rfl (rd_field0' rfl Try.underlying165 rfl info163 rfl) rfl rfl (wt_none' rfl) ?_
  refine px_rd' rfl (rd_field' (off := 4) rfl Try.underlying163 rfl info24 rfl) rfl rfl (wt_none' rfl) ?_
  refine px_rd' rfl (rd_load' (i := 0) (o := 4) rfl ⟨rfl, rfl, rfl, rfl⟩ rfl flat24) rfl rfl (wt_none' rfl) ?_
  refine px_rd' rfl (rd_move' rfl) rfl rfl (wt_none' rfl) ?_
  refine px_rd' rfl (rd_nilck' rfl) rfl rfl (wt_none' rfl) ?_
  refine px_rd' rfl (rd_field0' rfl Try.underlying165 rfl info163 rfl) rfl rfl (wt_none' rfl) ?_
  refine px_rd' rfl (rd_field0' rfl Try.underlying163 rfl info149 rfl) rfl rfl (wt_none' rfl) ?_
  refine px_rd' rfl (rd_field0' rfl Try.underlying149 rfl info112 rfl) rfl rfl (wt_none' rfl) ?_
  refine px_rd' rfl (rd_field' (off := 1) rfl Try.underlying112 rfl info3 rfl) rfl rfl (wt_none' rfl) ?_
  refine px_rd' rfl (rd_load' (i := 0) (o := 1) rfl ⟨rfl, rfl, rfl, rfl⟩ rfl flat3) rfl rfl (wt_none' rfl) ?_
  obtain ⟨r22, hr22, hp⟩ := bind_some hp
  refine px_ox' rfl (ox_calln' (ent_fn' Try.func182 isn182 rfl rfl) (gogeom_length3_sim _ _ _ _ hr22 : Go.Sx.Fn Try.prog 182 [(Sl Kf a0_2), (Vl (.int .i64 0)), (Sl (Kl (Ki .i64)) a0_4), (Vl (.int .i64 a0_1))] [] (fun x : Unit => (Fl r22)) (fun x => [])) (Hn := fun x : Unit => [⟨.pointer (some wa0), [(Vl (.int .i64 a0_0)), (Vl (.int .i64 a0_1)), (Sl Kf a0_2), (Vl (.int .i64 a0_3)), (Sl (Kl (Ki .i64)) a0_4)], 165, none⟩]) (fun _ => rfl) rfl rfl) rfl bs_nil (wt_none' rfl) fun ⟨⟩ => ?_
  refine px_rd' rfl (rd_assign' rfl) rfl rfl (wt_none' rfl) ?_
  refine px_nil' ?_
  show TX E K2 _
  refine tx_k' hK2 ?_
  refine cx_retc' ?_
  replace hp := Option.some.inj hp
  subst hp
  refine tx_pick' (L' := [(2, (Fl r22))]) (H' := [⟨.pointer (some wa0), [(Vl (.int .i64 a0_0)), (Vl (.int .i64 a0_1)), (Sl Kf a0_2), (Vl (.int .i64 a0_3)), (Sl (Kl (Ki .i64)) a0_4)], 165, none⟩]) [0] (sub_cons rfl sub_nil) (by decide) (pick_cons rfl pick_nil) ?_
  exact tx_ret1' Try.results180 rfl () (rv_tmp' rfl) (List.Sublist.refl _)

end Go.Proofs.Ytohopkpjccpckaa
