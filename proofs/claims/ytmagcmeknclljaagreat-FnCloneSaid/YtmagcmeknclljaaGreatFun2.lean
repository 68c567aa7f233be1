/-
  Plain functions for the Go functions that this law reaches, and that each call does what its plain function says. Printed by a program of ours.
-/
import Derived.Test.YtmagcmeknclljaaGreatProg
import Derived.Test.YtmagcmeknclljaaGreatSxX
import Derived.Test.YtmagcmeknclljaaGreatFun1
namespace Go.Proofs.YtmagcmeknclljaaGreat
open Go.Sx
set_option linter.unusedVariables false
set_option maxRecDepth 100000

def impl_intss_l1s (a0 : List (List Int)) (k : Nat) (rec1 : ((List (List Int)) × Int) → Option ((List (List Int)))) (x1 : List (List Int)) (x2 : Int) : Option ((List (List Int))) :=
 br (decide (x2 < (a0.length : Int)))
  ((idx a0 x2) >>= fun r10 =>
  (impl_ints k r10) >>= fun r14 =>
  match r14 with
   | (.inl y2) =>
    ((apd 24 x1 ([[]])) >>= fun r16 =>
    rec1 (r16, (iadd .i64 x2 1)))
   | (.inr y2) =>
    ((apd 24 x1 ([y2])) >>= fun r16 =>
    rec1 (r16, (iadd .i64 x2 1))))
  (some x1)
def impl_intss_l1 (a0 : List (List Int)) : Nat → ((List (List Int)) × Int) → Option ((List (List Int)))
 | 0, _ => none
 | k + 1, v => impl_intss_l1s a0 k (impl_intss_l1 a0 k) v.1 v.2
def impl_intss (k : Nat) (a0 : List (List Int)) : Option ((List (List Int))) :=
 (impl_intss_l1 a0 k ([], 0)) >>= fun v2 =>
 some v2

theorem impl_intss_sim {k : Nat}  (a0 : List (List Int)) {out : (List (List Int))} (hp : impl_intss k a0 = some out) : Sx.Fn Tryz.prog 40 [(Sl (Kl (Ki .i64)) a0)] [] (fun w : Unit => (Sl (Kl (Ki .i64)) out)) (fun w => []) := by
 unfold impl_intss at hp
 refine fn_of Tryz.func40 rfl Tryz.ntmps40 rfl fun E hM => ?_
 refine cr fun K1 hK1 => ?_
 refine s0 (rd_assign' rfl) ?_
 refine nk hK1 ?_
 refine cr fun K2 hK2 => ?_
 refine s0 (rd_assign' rfl) ?_
 refine nk hK2 ?_
 refine cx_seq' fun K3 hK3 => ?_
 refine cr fun K4 hK4 => ?_
 refine s0 (rd_move' rfl) ?_
 refine s0 (rd_len' rfl Tryz.underlying24) ?_
 refine s0 (rd_move' rfl) ?_
 refine nk hK4 ?_
 refine cx_block' ?_
 obtain ⟨v2, hy1, hp⟩ := bind_some hp
 refine tx_nilrow' (Kl (Ki .i64)) 23 ?_
 refine cx_loopg' (F := impl_intss_l1 a0) (G := fun k R v => impl_intss_l1s a0 k R v.1 v.2) (x := ([], 0)) (gh := (none, 0, 0)) (fun (v1 : (List (List Int)) × Int) (w1 : Gs) => (⟨19, [], [(3, (Vl (Vs w1))), (6, (Sl (Kl (Ki .i64)) a0)), (7, (Vi (a0.length : Int))), (8, (Vi v1.2))], [(Rw (Kl (Ki .i64)) 23 (Vs w1) v1.1)]⟩ : St)) (fun (v2 : (List (List Int))) => Zg E (Exit.exit 0) (fun (w2 : Gs) => (⟨19, [], [(3, (Vl (Vs w2)))], [(Rw (Kl (Ki .i64)) 23 (Vs w2) v2)]⟩ : St))) (fun _ => rfl) (fun _ _ => rfl) ?_ hy1 (tx_to' rfl [0] (sub_cons rfl (sub_cons rfl (sub_cons rfl (sub_cons rfl sub_nil)))) (by decide) (pick_cons rfl pick_nil)) ?_
 ·clear hp hy1
  clear v2
  intro k rec1 KY1 ih1
  rintro ⟨x1, x2⟩ g901 y3 hp
  replace hp : impl_intss_l1s a0 k rec1 x1 x2 = some y3 := hp
  unfold impl_intss_l1s at hp
  refine cr fun K9 hK9 => ?_
  refine s0 (rd_bin' rfl rfl eg_int ru_lss) ?_
  refine nk hK9 ?_
  refine cx_seq' fun K10 hK10 => ?_
  refine cx_cond' rfl (fun h3 => ?_) (fun h3 => ?_)
  ·replace hp := (br_t h3).symm.trans hp
   refine cx_skip' ?_
   show TX E K10 _
   refine tx_k' hK10 ?_
   refine cx_seq' fun K11 hK11 => ?_
   refine cx_block' ?_
   refine cr fun K12 hK12 => ?_
   obtain ⟨r10, hr10, hp⟩ := bind_some hp
   refine s0 (rd_at' (K := (Kl (Ki .i64))) rfl rfl hr10 Tryz.underlying24 info23) ?_
   refine s0 (rd_load_pt' rfl rfl flat23) ?_
   refine s0 (rd_assign' rfl) ?_
   refine nk hK12 ?_
   refine cx_region' ?_
   refine s0 (rd_move' rfl) ?_
   refine s0 (rd_move' rfl) ?_
   obtain ⟨r14, hr14, hp⟩ := bind_some hp
   rcases r14 with y2 | y2
   ·dsimp only at hp
    refine sx_ox' (ox_calln' (ent_fn' Tryz.func32 isn32 rfl rfl) (impl_ints_sim _ hr14 : Sx.Fn Tryz.prog 32 [(Sl (Ki .i64) r10)] [] (fun x : Unit => Vn) (fun x => [])) (Hn := fun x : Unit => [(Rw (Kl (Ki .i64)) 23 (Vs g901) x1)]) (fun _ => rfl) rfl rfl) (wt_none' rfl) fun ⟨⟩ => ?_
    refine tx_nilsl' 14 (Ki .i64) rfl rfl ?_
    refine sx_ox' (ox_rowlit' (K := (Kl (Ki .i64))) (xs := [[]]) (qs := [(0, [(Sl (Ki .i64) [])])]) ⟨rfl, ⟨_, rfl, (lv_sl _ _)⟩, trivial⟩ Tryz.underlying24 info23 rfl rfl rfl rfl rfl (by kernel_rfl) rfl rfl rfl) (wt_none' rfl) fun g15 => ?_
    obtain ⟨r16, hr16, hp⟩ := bind_some hp
    refine sx_ox' (ox_append' (K := (Kl (Ki .i64))) (i := 1) (xs := x1) (ys := ([[]])) rfl rfl rfl (sr_row' (j := 0) rfl rfl rfl Tryz.underlying24) hr16 Tryz.underlying24 info23 rfl rfl rfl (H' := [(Rw (Kl (Ki .i64)) 23 (Vs g15) ([[]]))]) rfl) (wt_none' rfl) fun g16 => ?_
    refine s0 (rd_assign' rfl) ?_
    refine nk hK11 ?_
    refine cx_region' ?_
    refine s0 (rd_bin' rfl rfl eg_int ru_add) ?_
    refine s0 (rd_move' rfl) ?_
    refine sx_nil' ?_
    show TX E (KY1 _) _
    exact tx_pick' [0] (sub_cons rfl (sub_cons rfl (sub_cons rfl (sub_cons rfl sub_nil)))) (by decide) (pick_cons rfl pick_nil) (ih1 (r16, (iadd .i64 x2 1)) g16 _ hp)
   dsimp only at hp
   refine sx_ox' (ox_calln' (ent_fn' Tryz.func32 isn32 rfl rfl) (impl_ints_sim _ hr14 : Sx.Fn Tryz.prog 32 [(Sl (Ki .i64) r10)] [] (fun x : Unit => (Sl (Ki .i64) y2)) (fun x => [])) (Hn := fun x : Unit => [(Rw (Kl (Ki .i64)) 23 (Vs g901) x1)]) (fun _ => rfl) rfl rfl) (wt_none' rfl) fun ⟨⟩ => ?_
   refine sx_ox' (ox_rowlit' (K := (Kl (Ki .i64))) (xs := [y2]) (qs := [(0, [(Sl (Ki .i64) y2)])]) ⟨rfl, ⟨_, rfl, (lv_sl _ _)⟩, trivial⟩ Tryz.underlying24 info23 rfl rfl rfl rfl rfl (by kernel_rfl) rfl rfl rfl) (wt_none' rfl) fun g15 => ?_
   obtain ⟨r16, hr16, hp⟩ := bind_some hp
   refine sx_ox' (ox_append' (K := (Kl (Ki .i64))) (i := 1) (xs := x1) (ys := ([y2])) rfl rfl rfl (sr_row' (j := 0) rfl rfl rfl Tryz.underlying24) hr16 Tryz.underlying24 info23 rfl rfl rfl (H' := [(Rw (Kl (Ki .i64)) 23 (Vs g15) ([y2]))]) rfl) (wt_none' rfl) fun g16 => ?_
   refine s0 (rd_assign' rfl) ?_
   refine nk hK11 ?_
   refine cx_region' ?_
   refine s0 (rd_bin' rfl rfl eg_int ru_add) ?_
   refine s0 (rd_move' rfl) ?_
   refine sx_nil' ?_
   show TX E (KY1 _) _
   exact tx_pick' [0] (sub_cons rfl (sub_cons rfl (sub_cons rfl (sub_cons rfl sub_nil)))) (by decide) (pick_cons rfl pick_nil) (ih1 (r16, (iadd .i64 x2 1)) g16 _ hp)
  replace hp := (br_f h3).symm.trans hp
  refine cx_exit' ?_
  replace hp := Option.some.inj hp
  subst hp
  show TX E (Zg E (Exit.exit 0) _ (Exit.exit 0)) _
  exact tx_zend' g901 rfl [0] (sub_cons rfl sub_nil) (by decide) (pick_cons rfl pick_nil)
 refine zg_out fun w2 => ?_
 show TX E K3 _
 refine tx_k' hK3 ?_
 refine cr fun K13 hK13 => ?_
 refine s0 (rd_move' rfl) ?_
 refine s0 (rd_assign' rfl) ?_
 refine nk hK13 ?_
 refine cx_retc' ?_
 replace hp := Option.some.inj hp
 subst hp
 refine tx_fz' (frz_row 0 [(3, (Vl (Vs w2)), (Sl (Kl (Ki .i64)) v2)), (18, (Vl (Vs w2)), (Sl (Kl (Ki .i64)) v2)), (2, (Vl (Vs w2)), (Sl (Kl (Ki .i64)) v2))] (K := (Kl (Ki .i64))) (xs := v2) (by decide) rfl ⟨⟨rfl, frz_it⟩, ⟨rfl, frz_it⟩, ⟨rfl, frz_it⟩, trivial⟩ (H' := []) frzH_refl) ?_
 refine tx_pick' (L' := [(2, (Sl (Kl (Ki .i64)) v2))]) (H' := []) [] (sub_cons rfl sub_nil) (by decide) pick_nil ?_
 exact tx_ret1' Tryz.results40 rfl () (rv_tmp' rfl) (List.Sublist.refl _)

def gogeom_NewMultiPolygonFlat (k : Nat) (a0 : Int) (a1 : List Nat) (a2 : List (List Int)) : Option (Int × Int × (List Nat) × Int × (List (List Int))) :=
 (gogeom_Layout_Stride k a0) >>= fun r18 =>
 some (a0, r18, a1, 0, a2)

theorem gogeom_NewMultiPolygonFlat_sim {k : Nat}  (a0 : Int) (a1 : List Nat) (a2 : List (List Int)) {out : Int × Int × (List Nat) × Int × (List (List Int))} (hp : gogeom_NewMultiPolygonFlat k a0 a1 a2 = some out) : Sx.Fn Tryz.prog 39 [(Vi a0), (Sl Kf a1), (Sl (Kl (Ki .i64)) a2)] [] (fun w : Addr => (Vp w)) (fun w => [⟨.pointer (some w), [(Vi out.1), (Vi out.2.1), (Sl Kf out.2.2.1), (Vi out.2.2.2.1), (Sl (Kl (Ki .i64)) out.2.2.2.2)], 122, none⟩]) := by
 unfold gogeom_NewMultiPolygonFlat at hp
 refine fn_of Tryz.func39 rfl Tryz.ntmps39 rfl fun E hM => ?_
 refine cr fun K1 hK1 => ?_
 refine s0 (rd_assign' rfl) ?_
 refine nk hK1 ?_
 refine cr fun K2 hK2 => ?_
 refine sx_ox' (ox_alloc' info122 rfl rfl rfl rfl (l := [(Vi 0), (Vi 0), Vn, (Vi 0), Vn]) rfl) (wt_none' rfl) fun q8 => ?_
 refine s0 (rd_assign' rfl) ?_
 refine nk hK2 ?_
 refine cr fun K3 hK3 => ?_
 refine s0 (rd_move' rfl) ?_
 refine s0 (rd_move' rfl) ?_
 refine s0 (rd_nilck' rfl) ?_
 refine s0 (rd_field0' rfl Tryz.underlying122 rfl info120 rfl) ?_
 refine s0 (rd_field0' rfl Tryz.underlying120 rfl info108 rfl) ?_
 refine s0 (rd_field0' rfl Tryz.underlying108 rfl info105 rfl) ?_
 refine s0 (rd_field0' rfl Tryz.underlying105 rfl info54 rfl) ?_
 refine sx_ox' (ox_store' (i := 0) (o := 0) rfl rfl (lv_vl rfl rfl) ⟨rfl, rfl, rfl, rfl⟩ rfl info54 rfl (H' := [⟨.pointer (some q8), [(Vi a0), (Vi 0), Vn, (Vi 0), Vn], 122, none⟩]) rfl) (wt_none' rfl) fun _ => ?_
 refine nk hK3 ?_
 refine cr fun K4 hK4 => ?_
 refine s0 (rd_move' rfl) ?_
 refine s0 (rd_move' rfl) ?_
 obtain ⟨r18, hr18, hp⟩ := bind_some hp
 refine sx_ox' (ox_calln' (ent_fn' Tryz.func61 isn61 rfl rfl) (gogeom_Layout_Stride_sim _ hr18 : Sx.Fn Tryz.prog 61 [(Vi a0)] [] (fun x : Unit => (Vi r18)) (fun x => [])) (Hn := fun x : Unit => [⟨.pointer (some q8), [(Vi a0), (Vi 0), Vn, (Vi 0), Vn], 122, none⟩]) (fun _ => rfl) rfl rfl) (wt_none' rfl) fun ⟨⟩ => ?_
 refine s0 (rd_nilck' rfl) ?_
 refine s0 (rd_field0' rfl Tryz.underlying122 rfl info120 rfl) ?_
 refine s0 (rd_field0' rfl Tryz.underlying120 rfl info108 rfl) ?_
 refine s0 (rd_field0' rfl Tryz.underlying108 rfl info105 rfl) ?_
 refine s0 (rd_field' (off := 1) rfl Tryz.underlying105 rfl info3 rfl) ?_
 refine sx_ox' (ox_store' (i := 0) (o := 1) rfl rfl (lv_vl rfl rfl) ⟨rfl, rfl, rfl, rfl⟩ rfl info3 rfl (H' := [⟨.pointer (some q8), [(Vi a0), (Vi r18), Vn, (Vi 0), Vn], 122, none⟩]) rfl) (wt_none' rfl) fun _ => ?_
 refine nk hK4 ?_
 refine cr fun K5 hK5 => ?_
 refine s0 (rd_move' rfl) ?_
 refine s0 (rd_move' rfl) ?_
 refine s0 (rd_nilck' rfl) ?_
 refine s0 (rd_field0' rfl Tryz.underlying122 rfl info120 rfl) ?_
 refine s0 (rd_field0' rfl Tryz.underlying120 rfl info108 rfl) ?_
 refine s0 (rd_field0' rfl Tryz.underlying108 rfl info105 rfl) ?_
 refine s0 (rd_field' (off := 2) rfl Tryz.underlying105 rfl info22 rfl) ?_
 refine sx_ox' (ox_store' (i := 0) (o := 2) rfl rfl (lv_sl _ _) ⟨rfl, rfl, rfl, rfl⟩ rfl info22 rfl (H' := [⟨.pointer (some q8), [(Vi a0), (Vi r18), (Sl Kf a1), (Vi 0), Vn], 122, none⟩]) rfl) (wt_none' rfl) fun _ => ?_
 refine nk hK5 ?_
 refine cr fun K6 hK6 => ?_
 refine s0 (rd_move' rfl) ?_
 refine s0 (rd_move' rfl) ?_
 refine s0 (rd_nilck' rfl) ?_
 refine s0 (rd_field0' rfl Tryz.underlying122 rfl info120 rfl) ?_
 refine s0 (rd_field' (off := 4) rfl Tryz.underlying120 rfl info24 rfl) ?_
 refine sx_ox' (ox_store' (i := 0) (o := 4) rfl rfl (lv_sl _ _) ⟨rfl, rfl, rfl, rfl⟩ rfl info24 rfl (H' := [⟨.pointer (some q8), [(Vi a0), (Vi r18), (Sl Kf a1), (Vi 0), (Sl (Kl (Ki .i64)) a2)], 122, none⟩]) rfl) (wt_none' rfl) fun _ => ?_
 refine nk hK6 ?_
 refine cr fun K7 hK7 => ?_
 refine s0 (rd_move' rfl) ?_
 refine s0 (rd_assign' rfl) ?_
 refine nk hK7 ?_
 refine cx_retc' ?_
 replace hp := Option.some.inj hp
 subst hp
 refine tx_pick' (L' := [(6, (Vp q8))]) (H' := [⟨.pointer (some q8), [(Vi a0), (Vi r18), (Sl Kf a1), (Vi 0), (Sl (Kl (Ki .i64)) a2)], 122, none⟩]) [0] (sub_cons rfl sub_nil) (by decide) (pick_cons rfl pick_nil) ?_
 exact tx_ret1' Tryz.results39 rfl q8 (rv_tmp' rfl) (List.Sublist.refl _)

def gogeom_MultiPolygon_SetSRID (k : Nat) (a0_0 : Int) (a0_1 : Int) (a0_2 : List Nat) (a0_3 : Int) (a0_4 : List (List Int)) (a1 : Int) : Option (Int × Int × (List Nat) × Int × (List (List Int))) :=
 some (a0_0, a0_1, a0_2, a1, a0_4)

theorem gogeom_MultiPolygon_SetSRID_sim {k : Nat} {wa0 : Addr} (a0_0 : Int) (a0_1 : Int) (a0_2 : List Nat) (a0_3 : Int) (a0_4 : List (List Int)) (a1 : Int) {out : Int × Int × (List Nat) × Int × (List (List Int))} (hp : gogeom_MultiPolygon_SetSRID k a0_0 a0_1 a0_2 a0_3 a0_4 a1 = some out) : Sx.Fn Tryz.prog 41 [(Vp wa0), (Vi a1)] [⟨.pointer (some wa0), [(Vi a0_0), (Vi a0_1), (Sl Kf a0_2), (Vi a0_3), (Sl (Kl (Ki .i64)) a0_4)], 122, none⟩] (fun w : Unit => (Vp wa0)) (fun w => [⟨.pointer (some wa0), [(Vi out.1), (Vi out.2.1), (Sl Kf out.2.2.1), (Vi out.2.2.2.1), (Sl (Kl (Ki .i64)) out.2.2.2.2)], 122, none⟩]) := by
 unfold gogeom_MultiPolygon_SetSRID at hp
 refine fn_of Tryz.func41 rfl Tryz.ntmps41 rfl fun E hM => ?_
 refine cr fun K1 hK1 => ?_
 refine s0 (rd_assign' rfl) ?_
 refine nk hK1 ?_
 refine cr fun K2 hK2 => ?_
 refine s0 (rd_move' rfl) ?_
 refine s0 (rd_move' rfl) ?_
 refine s0 (rd_nilck' rfl) ?_
 refine s0 (rd_field0' rfl Tryz.underlying122 rfl info120 rfl) ?_
 refine s0 (rd_field0' rfl Tryz.underlying120 rfl info108 rfl) ?_
 refine s0 (rd_field0' rfl Tryz.underlying108 rfl info105 rfl) ?_
 refine s0 (rd_field' (off := 3) rfl Tryz.underlying105 rfl info3 rfl) ?_
 refine sx_ox' (ox_store' (i := 0) (o := 3) rfl rfl (lv_vl rfl rfl) ⟨rfl, rfl, rfl, rfl⟩ rfl info3 rfl (H' := [⟨.pointer (some wa0), [(Vi a0_0), (Vi a0_1), (Sl Kf a0_2), (Vi a1), (Sl (Kl (Ki .i64)) a0_4)], 122, none⟩]) rfl) (wt_none' rfl) fun _ => ?_
 refine nk hK2 ?_
 refine cr fun K3 hK3 => ?_
 refine s0 (rd_move' rfl) ?_
 refine s0 (rd_assign' rfl) ?_
 refine nk hK3 ?_
 refine cx_retc' ?_
 replace hp := Option.some.inj hp
 subst hp
 refine tx_pick' (L' := [(4, (Vp wa0))]) (H' := [⟨.pointer (some wa0), [(Vi a0_0), (Vi a0_1), (Sl Kf a0_2), (Vi a1), (Sl (Kl (Ki .i64)) a0_4)], 122, none⟩]) [0] (sub_cons rfl sub_nil) (by decide) (pick_cons rfl pick_nil) ?_
 exact tx_ret1' Tryz.results41 rfl () (rv_tmp' rfl) (List.Sublist.refl _)

def gogeom_NewGeometryCollection (k : Nat)  : Option (Int) :=
 some 0

theorem gogeom_NewGeometryCollection_sim {k : Nat}   {out : Int} (hp : gogeom_NewGeometryCollection k = some out) : Sx.Fn Tryz.prog 42 [] [] (fun w : Addr => (Vp w)) (fun w => [⟨.pointer (some w), [(Vi out), Vn, (Vi out)], 124, none⟩]) := by
 unfold gogeom_NewGeometryCollection at hp
 refine fn_of Tryz.func42 rfl Tryz.ntmps42 rfl fun E hM => ?_
 refine cr fun K1 hK1 => ?_
 refine s0 (rd_assign' rfl) ?_
 refine nk hK1 ?_
 refine cr fun K2 hK2 => ?_
 refine s0 (rd_build' (pls := [(0, 1), (1, 1), (2, 1)]) (qs := []) (r := [(Vi 0), Vn, (Vi 0)]) trivial Tryz.underlying124 has124 places124 info124 rfl rfl rfl) ?_
 refine sx_ox' (ox_box' rfl (lv_ag _) rfl rfl) (wt_none' rfl) fun q2 => ?_
 refine s0 (rd_assign' rfl) ?_
 refine nk hK2 ?_
 refine cx_retc' ?_
 replace hp := Option.some.inj hp
 subst hp
 refine tx_pick' (L' := [(0, (Vp q2))]) (H' := [⟨.pointer (some q2), [(Vi 0), Vn, (Vi 0)], 124, none⟩]) [0] (sub_cons rfl sub_nil) (by decide) (pick_cons rfl pick_nil) ?_
 exact tx_ret1' Tryz.results42 rfl q2 (rv_tmp' rfl) (List.Sublist.refl _)

def gogeom_GeometryCollection_SetSRID (k : Nat) (a0_0 : Int) (a0_2 : Int) (a1 : Int) : Option (Int × Int) :=
 some (a0_0, a1)

theorem gogeom_GeometryCollection_SetSRID_sim {k : Nat} {wa0 : Addr} (a0_0 : Int) (a0_2 : Int) (a1 : Int) {out : Int × Int} (hp : gogeom_GeometryCollection_SetSRID k a0_0 a0_2 a1 = some out) : Sx.Fn Tryz.prog 43 [(Vp wa0), (Vi a1)] [⟨.pointer (some wa0), [(Vi a0_0), Vn, (Vi a0_2)], 124, none⟩] (fun w : Unit => (Vp wa0)) (fun w => [⟨.pointer (some wa0), [(Vi out.1), Vn, (Vi out.2)], 124, none⟩]) := by
 unfold gogeom_GeometryCollection_SetSRID at hp
 refine fn_of Tryz.func43 rfl Tryz.ntmps43 rfl fun E hM => ?_
 refine cr fun K1 hK1 => ?_
 refine s0 (rd_assign' rfl) ?_
 refine nk hK1 ?_
 refine cr fun K2 hK2 => ?_
 refine s0 (rd_move' rfl) ?_
 refine s0 (rd_move' rfl) ?_
 refine s0 (rd_nilck' rfl) ?_
 refine s0 (rd_field' (off := 2) rfl Tryz.underlying124 rfl info3 rfl) ?_
 refine sx_ox' (ox_store' (i := 0) (o := 2) rfl rfl (lv_vl rfl rfl) ⟨rfl, rfl, rfl, rfl⟩ rfl info3 rfl (H' := [⟨.pointer (some wa0), [(Vi a0_0), Vn, (Vi a1)], 124, none⟩]) rfl) (wt_none' rfl) fun _ => ?_
 refine nk hK2 ?_
 refine cr fun K3 hK3 => ?_
 refine s0 (rd_move' rfl) ?_
 refine s0 (rd_assign' rfl) ?_
 refine nk hK3 ?_
 refine cx_retc' ?_
 replace hp := Option.some.inj hp
 subst hp
 refine tx_pick' (L' := [(4, (Vp wa0))]) (H' := [⟨.pointer (some wa0), [(Vi a0_0), Vn, (Vi a1)], 124, none⟩]) [0] (sub_cons rfl sub_nil) (by decide) (pick_cons rfl pick_nil) ?_
 exact tx_ret1' Tryz.results43 rfl () (rv_tmp' rfl) (List.Sublist.refl _)

def gogeom_GeometryCollection_CheckLayout_j1 (k : Nat) (a0_0 : Int) (a0_2 : Int) : Option (Int × Int) :=
 some (a0_0, a0_2)
def gogeom_GeometryCollection_CheckLayout (k : Nat) (a0_0 : Int) (a0_2 : Int) (a1 : Int) : Option (Int × Int) :=
 br (!decide (a1 = 0))
  (gogeom_GeometryCollection_CheckLayout_j1 k a0_0 a0_2)
  (gogeom_GeometryCollection_CheckLayout_j1 k a0_0 a0_2)

theorem gogeom_GeometryCollection_CheckLayout_sim {k : Nat} {wa0 : Addr} (a0_0 : Int) (a0_2 : Int) (a1 : Int) {out : Int × Int} (hp : gogeom_GeometryCollection_CheckLayout k a0_0 a0_2 a1 = some out) : Sx.Fn Tryz.prog 73 [(Vp wa0), (Vi a1)] [⟨.pointer (some wa0), [(Vi a0_0), Vn, (Vi a0_2)], 124, none⟩] (fun w : Unit => Ve) (fun w => [⟨.pointer (some wa0), [(Vi out.1), Vn, (Vi out.2)], 124, none⟩]) := by
 unfold gogeom_GeometryCollection_CheckLayout at hp
 refine fn_of Tryz.func73 rfl Tryz.ntmps73 rfl fun E hM => ?_
 refine cr fun K1 hK1 => ?_
 refine s0 (rd_assign' rfl) ?_
 refine nk hK1 ?_
 refine cx_join' (fun (v1 : Unit) => (⟨29, [], [], [⟨.pointer (some wa0), [(Vi a0_0), Vn, (Vi a0_2)], 124, none⟩]⟩ : St)) (fun (v1 : Unit) => gogeom_GeometryCollection_CheckLayout_j1 k a0_0 a0_2 = some out) ?_ ?_
 ·rintro ⟨⟩ hp
  replace hp : gogeom_GeometryCollection_CheckLayout_j1 k a0_0 a0_2 = some out := hp
  unfold gogeom_GeometryCollection_CheckLayout_j1 at hp
  refine cr fun K7 hK7 => ?_
  refine s0 (rd_assign' rfl) ?_
  refine nk hK7 ?_
  refine cx_retc' ?_
  replace hp := Option.some.inj hp
  subst hp
  refine tx_pick' (L' := [(4, Ve)]) (H' := [⟨.pointer (some wa0), [(Vi a0_0), Vn, (Vi a0_2)], 124, none⟩]) [0] (sub_cons rfl sub_nil) (by decide) (pick_cons rfl pick_nil) ?_
  exact tx_ret1' Tryz.results73 rfl () (rv_tmp' rfl) (List.Sublist.refl _)
 intro K2 hK2
 refine cr fun K3 hK3 => ?_
 refine s0 (rd_move' rfl) ?_
 refine s0 (rd_bin' rfl rfl eg_int ru_neq) ?_
 refine nk hK3 ?_
 refine cx_cond' rfl (fun h1 => ?_) (fun h1 => ?_)
 ·replace hp := (br_t h1).symm.trans hp
  refine cr fun K4 hK4 => ?_
  refine s0 (rd_move' rfl) ?_
  refine s0 (rd_nilck' rfl) ?_
  refine s0 (rd_field' (off := 1) rfl Tryz.underlying124 rfl info82 rfl) ?_
  refine s0 (rd_load' (i := 0) (o := 1) rfl ⟨rfl, rfl, rfl, rfl⟩ rfl flat82) ?_
  refine s0 (rd_lenv' rfl Tryz.underlying82) ?_
  refine s0 (rd_move' rfl) ?_
  refine nk hK4 ?_
  refine cx_block' ?_
  refine tx_loop' ?_
  refine tx_round' ?_
  refine cr fun K5 hK5 => ?_
  refine s0 (rd_bin' rfl rfl eg_int ru_lss) ?_
  refine nk hK5 ?_
  refine cx_seq' fun K6 hK6 => ?_
  refine cx_cond_f' rfl rfl ?_
  refine cx_exit' ?_
  show TX E K2 _
  exact tx_pick' [0] sub_nil (by decide) (pick_cons rfl pick_nil) (hK2 () hp)
 replace hp := (br_f h1).symm.trans hp
 refine cx_skip' ?_
 show TX E K2 _
 exact tx_pick' [0] sub_nil (by decide) (pick_cons rfl pick_nil) (hK2 () hp)

def gogeom_GeometryCollection_SetLayout (k : Nat) (a0_0 : Int) (a0_2 : Int) (a1 : Int) : Option (Int × Int) :=
 (gogeom_GeometryCollection_CheckLayout k a0_0 a0_2 a1) >>= fun r8 =>
 some (a1, r8.2)

theorem gogeom_GeometryCollection_SetLayout_sim {k : Nat} {wa0 : Addr} (a0_0 : Int) (a0_2 : Int) (a1 : Int) {out : Int × Int} (hp : gogeom_GeometryCollection_SetLayout k a0_0 a0_2 a1 = some out) : Sx.Fn Tryz.prog 64 [(Vp wa0), (Vi a1)] [⟨.pointer (some wa0), [(Vi a0_0), Vn, (Vi a0_2)], 124, none⟩] (fun w : Unit => Ve) (fun w => [⟨.pointer (some wa0), [(Vi out.1), Vn, (Vi out.2)], 124, none⟩]) := by
 unfold gogeom_GeometryCollection_SetLayout at hp
 refine fn_of Tryz.func64 rfl Tryz.ntmps64 rfl fun E hM => ?_
 refine cr fun K1 hK1 => ?_
 refine s0 (rd_assign' rfl) ?_
 refine nk hK1 ?_
 refine cx_seq' fun K2 hK2 => ?_
 refine cr fun K3 hK3 => ?_
 refine s0 (rd_move' rfl) ?_
 refine s0 (rd_move' rfl) ?_
 obtain ⟨r8, hr8, hp⟩ := bind_some hp
 refine sx_ox' (ox_callg' (ent_fn' Tryz.func73 isn73 rfl rfl) (gogeom_GeometryCollection_CheckLayout_sim _ _ _ hr8 : Sx.Fn Tryz.prog 73 [(Vp wa0), (Vi a1)] [⟨.pointer (some wa0), [(Vi a0_0), Vn, (Vi a0_2)], 124, none⟩] (fun x : Unit => Ve) (fun x => [⟨.pointer (some wa0), [(Vi r8.1), Vn, (Vi r8.2)], 124, none⟩])) [0] [] (by decide) (pick_cons rfl pick_nil) pick_nil (Hn := fun x : Unit => [⟨.pointer (some wa0), [(Vi r8.1), Vn, (Vi r8.2)], 124, none⟩]) (fun _ => rfl) rfl rfl) (wt_none' rfl) fun ⟨⟩ => ?_
 refine s0 (rd_assign' rfl) ?_
 refine nk hK3 ?_
 refine cr fun K4 hK4 => ?_
 refine s0 (rd_move' rfl) ?_
 refine s0 (rd_binf' rfl rfl (bf_vl (fun _ => by kernel_rfl) nil_neq126_nilif)) ?_
 refine nk hK4 ?_
 refine cx_cond_f' rfl rfl ?_
 refine cx_skip' ?_
 show TX E K2 _
 refine tx_k' hK2 ?_
 refine cr fun K5 hK5 => ?_
 refine s0 (rd_move' rfl) ?_
 refine s0 (rd_move' rfl) ?_
 refine s0 (rd_nilck' rfl) ?_
 refine s0 (rd_field0' rfl Tryz.underlying124 rfl info54 rfl) ?_
 refine sx_ox' (ox_store' (i := 0) (o := 0) rfl rfl (lv_vl rfl rfl) ⟨rfl, rfl, rfl, rfl⟩ rfl info54 rfl (H' := [⟨.pointer (some wa0), [(Vi a1), Vn, (Vi r8.2)], 124, none⟩]) rfl) (wt_none' rfl) fun _ => ?_
 refine nk hK5 ?_
 refine cr fun K6 hK6 => ?_
 refine s0 (rd_assign' rfl) ?_
 refine nk hK6 ?_
 refine cx_retc' ?_
 replace hp := Option.some.inj hp
 subst hp
 refine tx_pick' (L' := [(4, Ve)]) (H' := [⟨.pointer (some wa0), [(Vi a1), Vn, (Vi r8.2)], 124, none⟩]) [0] (sub_cons rfl sub_nil) (by decide) (pick_cons rfl pick_nil) ?_
 exact tx_ret1' Tryz.results64 rfl () (rv_tmp' rfl) (List.Sublist.refl _)

def gogeom_GeometryCollection_MustSetLayout (k : Nat) (a0_0 : Int) (a0_2 : Int) (a1 : Int) : Option (Int × Int) :=
 (gogeom_GeometryCollection_SetLayout k a0_0 a0_2 a1) >>= fun r8 =>
 some (r8.1, r8.2)

theorem gogeom_GeometryCollection_MustSetLayout_sim {k : Nat} {wa0 : Addr} (a0_0 : Int) (a0_2 : Int) (a1 : Int) {out : Int × Int} (hp : gogeom_GeometryCollection_MustSetLayout k a0_0 a0_2 a1 = some out) : Sx.Fn Tryz.prog 45 [(Vp wa0), (Vi a1)] [⟨.pointer (some wa0), [(Vi a0_0), Vn, (Vi a0_2)], 124, none⟩] (fun w : Unit => (Vp wa0)) (fun w => [⟨.pointer (some wa0), [(Vi out.1), Vn, (Vi out.2)], 124, none⟩]) := by
 unfold gogeom_GeometryCollection_MustSetLayout at hp
 refine fn_of Tryz.func45 rfl Tryz.ntmps45 rfl fun E hM => ?_
 refine cr fun K1 hK1 => ?_
 refine s0 (rd_assign' rfl) ?_
 refine nk hK1 ?_
 refine cx_seq' fun K2 hK2 => ?_
 refine cr fun K3 hK3 => ?_
 refine s0 (rd_move' rfl) ?_
 refine s0 (rd_move' rfl) ?_
 obtain ⟨r8, hr8, hp⟩ := bind_some hp
 refine sx_ox' (ox_callg' (ent_fn' Tryz.func64 isn64 rfl rfl) (gogeom_GeometryCollection_SetLayout_sim _ _ _ hr8 : Sx.Fn Tryz.prog 64 [(Vp wa0), (Vi a1)] [⟨.pointer (some wa0), [(Vi a0_0), Vn, (Vi a0_2)], 124, none⟩] (fun x : Unit => Ve) (fun x => [⟨.pointer (some wa0), [(Vi r8.1), Vn, (Vi r8.2)], 124, none⟩])) [0] [] (by decide) (pick_cons rfl pick_nil) pick_nil (Hn := fun x : Unit => [⟨.pointer (some wa0), [(Vi r8.1), Vn, (Vi r8.2)], 124, none⟩]) (fun _ => rfl) rfl rfl) (wt_none' rfl) fun ⟨⟩ => ?_
 refine s0 (rd_assign' rfl) ?_
 refine nk hK3 ?_
 refine cr fun K4 hK4 => ?_
 refine s0 (rd_move' rfl) ?_
 refine s0 (rd_binf' rfl rfl (bf_vl (fun _ => by kernel_rfl) nil_neq126_nilif)) ?_
 refine nk hK4 ?_
 refine cx_cond_f' rfl rfl ?_
 refine cx_skip' ?_
 show TX E K2 _
 refine tx_k' hK2 ?_
 refine cr fun K5 hK5 => ?_
 refine s0 (rd_move' rfl) ?_
 refine s0 (rd_assign' rfl) ?_
 refine nk hK5 ?_
 refine cx_retc' ?_
 replace hp := Option.some.inj hp
 subst hp
 refine tx_pick' (L' := [(4, (Vp wa0))]) (H' := [⟨.pointer (some wa0), [(Vi r8.1), Vn, (Vi r8.2)], 124, none⟩]) [0] (sub_cons rfl sub_nil) (by decide) (pick_cons rfl pick_nil) ?_
 exact tx_ret1' Tryz.results45 rfl () (rv_tmp' rfl) (List.Sublist.refl _)

def impl_geometry_b (recf : Int → Int → Int → (List Nat) → (List Int) → (List (List Int)) → (List T27) → Option ((Int × Int × (List Nat) × Int) ⊕ ((Int × Int × (List Nat) × Int) ⊕ ((Int × Int × (List Nat) × Int) ⊕ ((Int × Int × (List Nat) × Int × (List Int)) ⊕ ((Int × Int × (List Nat) × Int × (List Int)) ⊕ ((Int × Int × (List Nat) × Int × (List Int)) ⊕ ((Int × Int × (List Nat) × Int × (List (List Int))) ⊕ (Int × Int))))))))) (k : Nat) (a0_0 : Int) (a0_1 : Int) (a0_2 : Int) (a0_3 : List Nat) (a0_4 : List Int) (a0_5 : List (List Int)) (a0_6 : List T27) : Option ((Int × Int × (List Nat) × Int) ⊕ ((Int × Int × (List Nat) × Int) ⊕ ((Int × Int × (List Nat) × Int) ⊕ ((Int × Int × (List Nat) × Int × (List Int)) ⊕ ((Int × Int × (List Nat) × Int × (List Int)) ⊕ ((Int × Int × (List Nat) × Int × (List Int)) ⊕ ((Int × Int × (List Nat) × Int × (List (List Int))) ⊕ (Int × Int)))))))) :=
 (impl_floats k a0_3) >>= fun r12 =>
 br (decide (a0_0 = 1))
  ((gogeom_NewPointFlat k a0_1 r12) >>= fun r19 =>
  (gogeom_Point_SetSRID k r19.1 r19.2.1 r19.2.2.1 r19.2.2.2 a0_2) >>= fun r22 =>
  some (.inl (r22.1, r22.2.1, r22.2.2.1, r22.2.2.2)))
  (br (decide (a0_0 = 2))
   ((gogeom_NewLineStringFlat k a0_1 r12) >>= fun r28 =>
   (gogeom_LineString_SetSRID k r28.1 r28.2.1 r28.2.2.1 r28.2.2.2 a0_2) >>= fun r31 =>
   some (.inr (.inl (r31.1, r31.2.1, r31.2.2.1, r31.2.2.2))))
   (br (decide (a0_0 = 8))
    ((gogeom_NewLinearRingFlat k a0_1 r12) >>= fun r37 =>
    (gogeom_LinearRing_SetSRID k r37.1 r37.2.1 r37.2.2.1 r37.2.2.2 a0_2) >>= fun r40 =>
    some (.inr (.inr (.inl (r40.1, r40.2.1, r40.2.2.1, r40.2.2.2)))))
    (br (decide (a0_0 = 3))
     ((impl_ints k a0_4) >>= fun r48 =>
     match r48 with
      | (.inl y4) =>
       ((gogeom_NewPolygonFlat k a0_1 r12) >>= fun r49 =>
       (gogeom_Polygon_SetSRID k r49.1 r49.2.1 r49.2.2.1 r49.2.2.2 a0_2) >>= fun r52 =>
       some (.inr (.inr (.inr (.inl (r52.1, r52.2.1, r52.2.2.1, r52.2.2.2, []))))))
      | (.inr y4) =>
       ((gogeom_NewPolygonFlat_v2 k a0_1 r12 y4) >>= fun r49 =>
       (gogeom_Polygon_SetSRID_v2 k r49.1 r49.2.1 r49.2.2.1 r49.2.2.2.1 r49.2.2.2.2 a0_2) >>= fun r52 =>
       some (.inr (.inr (.inr (.inl (r52.1, r52.2.1, r52.2.2.1, r52.2.2.2.1, r52.2.2.2.2)))))))
     (br (decide (a0_0 = 4))
      ((impl_ints k a0_4) >>= fun r60 =>
      match r60 with
       | (.inl y6) =>
        ((gogeom_NewMultiPointFlatOptionWithEnds k) >>= fun r61 =>
        (gogeom_NewMultiPointFlat k a0_1 r12) >>= fun r63 =>
        (gogeom_MultiPoint_SetSRID k r63.1 r63.2.1 r63.2.2.1 r63.2.2.2.1 r63.2.2.2.2 a0_2) >>= fun r66 =>
        some (.inr (.inr (.inr (.inr (.inl (r66.1, r66.2.1, r66.2.2.1, r66.2.2.2.1, r66.2.2.2.2)))))))
       | (.inr y6) =>
        ((gogeom_NewMultiPointFlatOptionWithEnds_v2 k y6) >>= fun r61 =>
        (gogeom_NewMultiPointFlat_v2 k a0_1 r12 r61) >>= fun r63 =>
        (gogeom_MultiPoint_SetSRID_v2 k r63.2.1 r63.2.2.1 r63.2.2.2.1 r63.2.2.2.2 r63.1 a0_2) >>= fun r66 =>
        some (.inr (.inr (.inr (.inr (.inl (r66.1, r66.2.1, r66.2.2.1, r66.2.2.2.1, r66.2.2.2.2))))))))
      (br (decide (a0_0 = 5))
       ((impl_ints k a0_4) >>= fun r74 =>
       match r74 with
        | (.inl y10) =>
         ((gogeom_NewMultiLineStringFlat k a0_1 r12) >>= fun r75 =>
         (gogeom_MultiLineString_SetSRID k r75.1 r75.2.1 r75.2.2.1 r75.2.2.2 a0_2) >>= fun r78 =>
         some (.inr (.inr (.inr (.inr (.inr (.inl (r78.1, r78.2.1, r78.2.2.1, r78.2.2.2, []))))))))
        | (.inr y10) =>
         ((gogeom_NewMultiLineStringFlat_v2 k a0_1 r12 y10) >>= fun r75 =>
         (gogeom_MultiLineString_SetSRID_v2 k r75.1 r75.2.1 r75.2.2.1 r75.2.2.2.1 r75.2.2.2.2 a0_2) >>= fun r78 =>
         some (.inr (.inr (.inr (.inr (.inr (.inl (r78.1, r78.2.1, r78.2.2.1, r78.2.2.2.1, r78.2.2.2.2)))))))))
       (br (decide (a0_0 = 6))
        ((impl_intss k a0_5) >>= fun r86 =>
        (gogeom_NewMultiPolygonFlat k a0_1 r12 r86) >>= fun r87 =>
        (gogeom_MultiPolygon_SetSRID k r87.1 r87.2.1 r87.2.2.1 r87.2.2.2.1 r87.2.2.2.2 a0_2) >>= fun r90 =>
        some (.inr (.inr (.inr (.inr (.inr (.inr (.inl (r90.1, r90.2.1, r90.2.2.1, r90.2.2.2.1, r90.2.2.2.2)))))))))
        (br (decide (a0_0 = 7))
         ((gogeom_NewGeometryCollection k) >>= fun r94 =>
         (gogeom_GeometryCollection_SetSRID k r94 r94 a0_2) >>= fun r97 =>
         br (decide (0 < (a0_6.length : Int)))
          (none)
          ((gogeom_GeometryCollection_MustSetLayout k r97.1 r97.2 a0_1) >>= fun r113 =>
          some (.inr (.inr (.inr (.inr (.inr (.inr (.inr (r113.1, r113.2))))))))))
         (none))))))))
def impl_geometry : Nat → Int → Int → Int → (List Nat) → (List Int) → (List (List Int)) → (List T27) → Option ((Int × Int × (List Nat) × Int) ⊕ ((Int × Int × (List Nat) × Int) ⊕ ((Int × Int × (List Nat) × Int) ⊕ ((Int × Int × (List Nat) × Int × (List Int)) ⊕ ((Int × Int × (List Nat) × Int × (List Int)) ⊕ ((Int × Int × (List Nat) × Int × (List Int)) ⊕ ((Int × Int × (List Nat) × Int × (List (List Int))) ⊕ (Int × Int))))))))
 | 0 => fun _ _ _ _ _ _ _ => none
 | k + 1 => fun a0_0 a0_1 a0_2 a0_3 a0_4 a0_5 a0_6 => impl_geometry_b (impl_geometry k) k a0_0 a0_1 a0_2 a0_3 a0_4 a0_5 a0_6
def impl_geometry_r  (a0_0 : Int) (a0_1 : Int) (a0_2 : Int) (a0_3 : List Nat) (a0_4 : List Int) (a0_5 : List (List Int)) (a0_6 : List T27) (out : (Int × Int × (List Nat) × Int) ⊕ ((Int × Int × (List Nat) × Int) ⊕ ((Int × Int × (List Nat) × Int) ⊕ ((Int × Int × (List Nat) × Int × (List Int)) ⊕ ((Int × Int × (List Nat) × Int × (List Int)) ⊕ ((Int × Int × (List Nat) × Int × (List Int)) ⊕ ((Int × Int × (List Nat) × Int × (List (List Int))) ⊕ (Int × Int)))))))) (w : Addr) : SV := match out with
 | (.inl y) => (If 37 (Vp w))
 | (.inr (.inl y)) => (If 40 (Vp w))
 | (.inr (.inr (.inl y))) => (If 42 (Vp w))
 | (.inr (.inr (.inr (.inl y)))) => (If 44 (Vp w))
 | (.inr (.inr (.inr (.inr (.inl y))))) => (If 46 (Vp w))
 | (.inr (.inr (.inr (.inr (.inr (.inl y)))))) => (If 48 (Vp w))
 | (.inr (.inr (.inr (.inr (.inr (.inr (.inl y))))))) => (If 50 (Vp w))
 | (.inr (.inr (.inr (.inr (.inr (.inr (.inr y))))))) => (If 75 (Vp w))
def impl_geometry_h  (a0_0 : Int) (a0_1 : Int) (a0_2 : Int) (a0_3 : List Nat) (a0_4 : List Int) (a0_5 : List (List Int)) (a0_6 : List T27) (out : (Int × Int × (List Nat) × Int) ⊕ ((Int × Int × (List Nat) × Int) ⊕ ((Int × Int × (List Nat) × Int) ⊕ ((Int × Int × (List Nat) × Int × (List Int)) ⊕ ((Int × Int × (List Nat) × Int × (List Int)) ⊕ ((Int × Int × (List Nat) × Int × (List Int)) ⊕ ((Int × Int × (List Nat) × Int × (List (List Int))) ⊕ (Int × Int)))))))) (w : Addr) : List Res := match out with
 | (.inl y) => [⟨.pointer (some w), [(Vi y.1), (Vi y.2.1), (Sl Kf y.2.2.1), (Vi y.2.2.2)], 107, none⟩]
 | (.inr (.inl y)) => [⟨.pointer (some w), [(Vi y.1), (Vi y.2.1), (Sl Kf y.2.2.1), (Vi y.2.2.2)], 110, none⟩]
 | (.inr (.inr (.inl y))) => [⟨.pointer (some w), [(Vi y.1), (Vi y.2.1), (Sl Kf y.2.2.1), (Vi y.2.2.2)], 111, none⟩]
 | (.inr (.inr (.inr (.inl y)))) => [⟨.pointer (some w), [(Vi y.1), (Vi y.2.1), (Sl Kf y.2.2.1), (Vi y.2.2.2.1), (Sl (Ki .i64) y.2.2.2.2)], 115, none⟩]
 | (.inr (.inr (.inr (.inr (.inl y))))) => [⟨.pointer (some w), [(Vi y.1), (Vi y.2.1), (Sl Kf y.2.2.1), (Vi y.2.2.2.1), (Sl (Ki .i64) y.2.2.2.2)], 117, none⟩]
 | (.inr (.inr (.inr (.inr (.inr (.inl y)))))) => [⟨.pointer (some w), [(Vi y.1), (Vi y.2.1), (Sl Kf y.2.2.1), (Vi y.2.2.2.1), (Sl (Ki .i64) y.2.2.2.2)], 118, none⟩]
 | (.inr (.inr (.inr (.inr (.inr (.inr (.inl y))))))) => [⟨.pointer (some w), [(Vi y.1), (Vi y.2.1), (Sl Kf y.2.2.1), (Vi y.2.2.2.1), (Sl (Kl (Ki .i64)) y.2.2.2.2)], 122, none⟩]
 | (.inr (.inr (.inr (.inr (.inr (.inr (.inr y))))))) => [⟨.pointer (some w), [(Vi y.1), Vn, (Vi y.2)], 124, none⟩]

theorem impl_geometry_b_sim {recf : Int → Int → Int → (List Nat) → (List Int) → (List (List Int)) → (List T27) → Option ((Int × Int × (List Nat) × Int) ⊕ ((Int × Int × (List Nat) × Int) ⊕ ((Int × Int × (List Nat) × Int) ⊕ ((Int × Int × (List Nat) × Int × (List Int)) ⊕ ((Int × Int × (List Nat) × Int × (List Int)) ⊕ ((Int × Int × (List Nat) × Int × (List Int)) ⊕ ((Int × Int × (List Nat) × Int × (List (List Int))) ⊕ (Int × Int))))))))} (hrec : ∀  (a0_0 : Int) (a0_1 : Int) (a0_2 : Int) (a0_3 : List Nat) (a0_4 : List Int) (a0_5 : List (List Int)) (a0_6 : List T27) (out : (Int × Int × (List Nat) × Int) ⊕ ((Int × Int × (List Nat) × Int) ⊕ ((Int × Int × (List Nat) × Int) ⊕ ((Int × Int × (List Nat) × Int × (List Int)) ⊕ ((Int × Int × (List Nat) × Int × (List Int)) ⊕ ((Int × Int × (List Nat) × Int × (List Int)) ⊕ ((Int × Int × (List Nat) × Int × (List (List Int))) ⊕ (Int × Int)))))))), recf a0_0 a0_1 a0_2 a0_3 a0_4 a0_5 a0_6 = some out → Sx.Fn Tryz.prog 11 [(Ag [(Vi a0_0), (Vi a0_1), (Vi a0_2), (Sl Kf a0_3), (Sl (Ki .i64) a0_4), (Sl (Kl (Ki .i64)) a0_5), (Sl KT27 a0_6)])] [] (fun w => impl_geometry_r a0_0 a0_1 a0_2 a0_3 a0_4 a0_5 a0_6 out w) (fun w => impl_geometry_h a0_0 a0_1 a0_2 a0_3 a0_4 a0_5 a0_6 out w)) {k : Nat}  (a0_0 : Int) (a0_1 : Int) (a0_2 : Int) (a0_3 : List Nat) (a0_4 : List Int) (a0_5 : List (List Int)) (a0_6 : List T27) {out : (Int × Int × (List Nat) × Int) ⊕ ((Int × Int × (List Nat) × Int) ⊕ ((Int × Int × (List Nat) × Int) ⊕ ((Int × Int × (List Nat) × Int × (List Int)) ⊕ ((Int × Int × (List Nat) × Int × (List Int)) ⊕ ((Int × Int × (List Nat) × Int × (List Int)) ⊕ ((Int × Int × (List Nat) × Int × (List (List Int))) ⊕ (Int × Int)))))))} (hp : impl_geometry_b recf k a0_0 a0_1 a0_2 a0_3 a0_4 a0_5 a0_6 = some out) : Sx.Fn Tryz.prog 11 [(Ag [(Vi a0_0), (Vi a0_1), (Vi a0_2), (Sl Kf a0_3), (Sl (Ki .i64) a0_4), (Sl (Kl (Ki .i64)) a0_5), (Sl KT27 a0_6)])] [] (fun w => impl_geometry_r a0_0 a0_1 a0_2 a0_3 a0_4 a0_5 a0_6 out w) (fun w => impl_geometry_h a0_0 a0_1 a0_2 a0_3 a0_4 a0_5 a0_6 out w) := by
 unfold impl_geometry_b at hp
 refine fn_of Tryz.func11 rfl Tryz.ntmps11 rfl fun E hM => ?_
 refine cr fun K1 hK1 => ?_
 refine sx_ox' (ox_box' rfl (lv_ag _) rfl rfl) (wt_none' rfl) fun q1 => ?_
 refine s0 (rd_assign' rfl) ?_
 refine nk hK1 ?_
 refine cx_seq' fun K2 hK2 => ?_
 refine cx_plan' [] [] [(0, 1), (1, 1), (2, 1), (3, 1), (4, 0), (5, 1), (6, 1)] mixed (by kernel_rfl) ?_
 refine px_rd' rfl (rd_field' (off := 1) rfl Tryz.underlying27 rfl info3 rfl) rfl rfl (wt_none' rfl) ?_
 refine px_rd' rfl (rd_load' (i := 0) (o := 1) rfl ⟨rfl, rfl, rfl, rfl⟩ rfl flat3) rfl rfl (wt_none' rfl) ?_
 refine px_rd' rfl (rd_field' (off := 3) rfl Tryz.underlying27 rfl info22 rfl) rfl rfl (wt_none' rfl) ?_
 refine px_rd' rfl (rd_load' (i := 0) (o := 3) rfl ⟨rfl, rfl, rfl, rfl⟩ rfl flat22) rfl rfl (wt_none' rfl) ?_
 obtain ⟨r12, hr12, hp⟩ := bind_some hp
 refine px_ox' rfl (ox_calln' (ent_fn' Tryz.func24 isn24 rfl rfl) (impl_floats_sim _ hr12 : Sx.Fn Tryz.prog 24 [(Sl Kf a0_3)] [] (fun x : Unit => (Sl Kf r12)) (fun x => [])) (Hn := fun x : Unit => [⟨.pointer (some q1), [(Vi a0_0), (Vi a0_1), (Vi a0_2), (Sl Kf a0_3), (Sl (Ki .i64) a0_4), (Sl (Kl (Ki .i64)) a0_5), (Sl KT27 a0_6)], 27, none⟩]) (fun _ => rfl) rfl rfl) rfl bs_nil (wt_none' rfl) fun ⟨⟩ => ?_
 refine px_rd' rfl (rd_assign' rfl) rfl rfl (wt_none' rfl) ?_
 refine px_rd' rfl (rd_assign' rfl) rfl rfl (wt_none' rfl) ?_
 refine px_nil' ?_
 show TX E K2 _
 refine tx_k' hK2 ?_
 refine cx_seq' fun K3 hK3 => ?_
 refine cr fun K4 hK4 => ?_
 refine s0 (rd_field0' rfl Tryz.underlying27 rfl info3 rfl) ?_
 refine s0 (rd_load' (i := 0) (o := 0) rfl ⟨rfl, rfl, rfl, rfl⟩ rfl flat3) ?_
 refine nk hK4 ?_
 refine cx_block' ?_
 refine cr fun K5 hK5 => ?_
 refine s0 (rd_bin' rfl rfl eg_int ru_eql) ?_
 refine s0 (rd_assign' rfl) ?_
 refine nk hK5 ?_
 refine cx_cond' rfl (fun h1 => ?_) (fun h1 => ?_)
 ·replace hp := (br_t h1).symm.trans hp
  refine cx_seq' fun K6 hK6 => ?_
  refine cx_plan' [] [(5, 1)] [(0, 1), (1, 1), (3, 1), (4, 1), (2, 0), (5, 0), (6, 1), (7, 1)] mixed (by kernel_rfl) ?_
  refine px_rd' rfl (rd_move' rfl) rfl rfl (wt_none' rfl) ?_
  refine px_rd' rfl (rd_move' rfl) rfl rfl (wt_none' rfl) ?_
  refine px_rd' rfl (rd_field' (off := 2) rfl Tryz.underlying27 rfl info3 rfl) rfl rfl (wt_none' rfl) ?_
  refine px_rd' rfl (rd_load' (i := 0) (o := 2) rfl ⟨rfl, rfl, rfl, rfl⟩ rfl flat3) rfl rfl (wt_none' rfl) ?_
  obtain ⟨r19, hr19, hp⟩ := bind_some hp
  refine px_ox' rfl (ox_calln' (ent_fn' Tryz.func25 isn25 rfl rfl) (gogeom_NewPointFlat_sim _ _ hr19 : Sx.Fn Tryz.prog 25 [(Vi a0_1), (Sl Kf r12)] [] (fun x : Addr => (Vp x)) (fun x => [⟨.pointer (some x), [(Vi r19.1), (Vi r19.2.1), (Sl Kf r19.2.2.1), (Vi r19.2.2.2)], 107, none⟩])) (Hn := fun x : Addr => [⟨.pointer (some x), [(Vi r19.1), (Vi r19.2.1), (Sl Kf r19.2.2.1), (Vi r19.2.2.2)], 107, none⟩, ⟨.pointer (some q1), [(Vi a0_0), (Vi a0_1), (Vi a0_2), (Sl Kf a0_3), (Sl (Ki .i64) a0_4), (Sl (Kl (Ki .i64)) a0_5), (Sl KT27 a0_6)], 27, none⟩]) (fun _ => rfl) rfl rfl) rfl bs_nil (wt_none' rfl) fun q19 => ?_
  obtain ⟨r22, hr22, hp⟩ := bind_some hp
  refine px_oxb' (is := [0]) rfl (oxb_callg (ent_fn' Tryz.func26 isn26 rfl rfl) (gogeom_Point_SetSRID_sim _ _ _ _ _ hr22 : Sx.Fn Tryz.prog 26 [(Vp q19), (Vi a0_2)] [⟨.pointer (some q19), [(Vi r19.1), (Vi r19.2.1), (Sl Kf r19.2.2.1), (Vi r19.2.2.2)], 107, none⟩] (fun x : Unit => (Vp q19)) (fun x => [⟨.pointer (some q19), [(Vi r22.1), (Vi r22.2.1), (Sl Kf r22.2.2.1), (Vi r22.2.2.2)], 107, none⟩])) [0] [1] (by decide) (pick_cons rfl pick_nil) (pick_cons rfl pick_nil) (Hn := fun x : Unit => [⟨.pointer (some q19), [(Vi r22.1), (Vi r22.2.1), (Sl Kf r22.2.2.1), (Vi r22.2.2.2)], 107, none⟩, ⟨.pointer (some q1), [(Vi a0_0), (Vi a0_1), (Vi a0_2), (Sl Kf a0_3), (Sl (Ki .i64) a0_4), (Sl (Kl (Ki .i64)) a0_5), (Sl KT27 a0_6)], 27, none⟩]) (fun _ => rfl) rfl rfl) (pick_cons rfl pick_nil) rfl bl_nil (wt_none' rfl) fun ⟨⟩ => ?_
  refine px_rd' rfl (rd_iface' rfl ⟨_, Tryz.underlying37, fun _ h => (nomatch h)⟩) rfl rfl (wt_none' rfl) ?_
  refine px_rd' rfl (rd_assign' rfl) rfl rfl (wt_none' rfl) ?_
  refine px_nil' ?_
  show TX E K6 _
  refine tx_k' hK6 ?_
  refine cx_retc' ?_
  replace hp := Option.some.inj hp
  subst hp
  refine tx_pick' (L' := [(2, (If 37 (Vp q19)))]) (H' := [⟨.pointer (some q19), [(Vi r22.1), (Vi r22.2.1), (Sl Kf r22.2.2.1), (Vi r22.2.2.2)], 107, none⟩]) [0] (sub_cons rfl sub_nil) (by decide) (pick_cons rfl pick_nil) ?_
  exact tx_ret1' Tryz.results11 rfl q19 (rv_tmp' rfl) (List.Sublist.refl _)
 replace hp := (br_f h1).symm.trans hp
 refine cr fun K7 hK7 => ?_
 refine s0 (rd_bin' rfl rfl eg_int ru_eql) ?_
 refine s0 (rd_assign' rfl) ?_
 refine nk hK7 ?_
 refine cx_cond' rfl (fun h2 => ?_) (fun h2 => ?_)
 ·replace hp := (br_t h2).symm.trans hp
  refine cx_seq' fun K8 hK8 => ?_
  refine cx_plan' [] [(5, 1)] [(0, 1), (1, 1), (3, 1), (4, 1), (2, 0), (5, 0), (6, 1), (7, 1)] mixed (by kernel_rfl) ?_
  refine px_rd' rfl (rd_move' rfl) rfl rfl (wt_none' rfl) ?_
  refine px_rd' rfl (rd_move' rfl) rfl rfl (wt_none' rfl) ?_
  refine px_rd' rfl (rd_field' (off := 2) rfl Tryz.underlying27 rfl info3 rfl) rfl rfl (wt_none' rfl) ?_
  refine px_rd' rfl (rd_load' (i := 0) (o := 2) rfl ⟨rfl, rfl, rfl, rfl⟩ rfl flat3) rfl rfl (wt_none' rfl) ?_
  obtain ⟨r28, hr28, hp⟩ := bind_some hp
  refine px_ox' rfl (ox_calln' (ent_fn' Tryz.func27 isn27 rfl rfl) (gogeom_NewLineStringFlat_sim _ _ hr28 : Sx.Fn Tryz.prog 27 [(Vi a0_1), (Sl Kf r12)] [] (fun x : Addr => (Vp x)) (fun x => [⟨.pointer (some x), [(Vi r28.1), (Vi r28.2.1), (Sl Kf r28.2.2.1), (Vi r28.2.2.2)], 110, none⟩])) (Hn := fun x : Addr => [⟨.pointer (some x), [(Vi r28.1), (Vi r28.2.1), (Sl Kf r28.2.2.1), (Vi r28.2.2.2)], 110, none⟩, ⟨.pointer (some q1), [(Vi a0_0), (Vi a0_1), (Vi a0_2), (Sl Kf a0_3), (Sl (Ki .i64) a0_4), (Sl (Kl (Ki .i64)) a0_5), (Sl KT27 a0_6)], 27, none⟩]) (fun _ => rfl) rfl rfl) rfl bs_nil (wt_none' rfl) fun q28 => ?_
  obtain ⟨r31, hr31, hp⟩ := bind_some hp
  refine px_oxb' (is := [0]) rfl (oxb_callg (ent_fn' Tryz.func28 isn28 rfl rfl) (gogeom_LineString_SetSRID_sim _ _ _ _ _ hr31 : Sx.Fn Tryz.prog 28 [(Vp q28), (Vi a0_2)] [⟨.pointer (some q28), [(Vi r28.1), (Vi r28.2.1), (Sl Kf r28.2.2.1), (Vi r28.2.2.2)], 110, none⟩] (fun x : Unit => (Vp q28)) (fun x => [⟨.pointer (some q28), [(Vi r31.1), (Vi r31.2.1), (Sl Kf r31.2.2.1), (Vi r31.2.2.2)], 110, none⟩])) [0] [1] (by decide) (pick_cons rfl pick_nil) (pick_cons rfl pick_nil) (Hn := fun x : Unit => [⟨.pointer (some q28), [(Vi r31.1), (Vi r31.2.1), (Sl Kf r31.2.2.1), (Vi r31.2.2.2)], 110, none⟩, ⟨.pointer (some q1), [(Vi a0_0), (Vi a0_1), (Vi a0_2), (Sl Kf a0_3), (Sl (Ki .i64) a0_4), (Sl (Kl (Ki .i64)) a0_5), (Sl KT27 a0_6)], 27, none⟩]) (fun _ => rfl) rfl rfl) (pick_cons rfl pick_nil) rfl bl_nil (wt_none' rfl) fun ⟨⟩ => ?_
  refine px_rd' rfl (rd_iface' rfl ⟨_, Tryz.underlying40, fun _ h => (nomatch h)⟩) rfl rfl (wt_none' rfl) ?_
  refine px_rd' rfl (rd_assign' rfl) rfl rfl (wt_none' rfl) ?_
  refine px_nil' ?_
  show TX E K8 _
  refine tx_k' hK8 ?_
  refine cx_retc' ?_
  replace hp := Option.some.inj hp
  subst hp
  refine tx_pick' (L' := [(2, (If 40 (Vp q28)))]) (H' := [⟨.pointer (some q28), [(Vi r31.1), (Vi r31.2.1), (Sl Kf r31.2.2.1), (Vi r31.2.2.2)], 110, none⟩]) [0] (sub_cons rfl sub_nil) (by decide) (pick_cons rfl pick_nil) ?_
  exact tx_ret1' Tryz.results11 rfl q28 (rv_tmp' rfl) (List.Sublist.refl _)
 replace hp := (br_f h2).symm.trans hp
 refine cr fun K9 hK9 => ?_
 refine s0 (rd_bin' rfl rfl eg_int ru_eql) ?_
 refine s0 (rd_assign' rfl) ?_
 refine nk hK9 ?_
 refine cx_cond' rfl (fun h3 => ?_) (fun h3 => ?_)
 ·replace hp := (br_t h3).symm.trans hp
  refine cx_seq' fun K10 hK10 => ?_
  refine cx_plan' [] [(5, 1)] [(0, 1), (1, 1), (3, 1), (4, 1), (2, 0), (5, 0), (6, 1), (7, 1)] mixed (by kernel_rfl) ?_
  refine px_rd' rfl (rd_move' rfl) rfl rfl (wt_none' rfl) ?_
  refine px_rd' rfl (rd_move' rfl) rfl rfl (wt_none' rfl) ?_
  refine px_rd' rfl (rd_field' (off := 2) rfl Tryz.underlying27 rfl info3 rfl) rfl rfl (wt_none' rfl) ?_
  refine px_rd' rfl (rd_load' (i := 0) (o := 2) rfl ⟨rfl, rfl, rfl, rfl⟩ rfl flat3) rfl rfl (wt_none' rfl) ?_
  obtain ⟨r37, hr37, hp⟩ := bind_some hp
  refine px_ox' rfl (ox_calln' (ent_fn' Tryz.func29 isn29 rfl rfl) (gogeom_NewLinearRingFlat_sim _ _ hr37 : Sx.Fn Tryz.prog 29 [(Vi a0_1), (Sl Kf r12)] [] (fun x : Addr => (Vp x)) (fun x => [⟨.pointer (some x), [(Vi r37.1), (Vi r37.2.1), (Sl Kf r37.2.2.1), (Vi r37.2.2.2)], 111, none⟩])) (Hn := fun x : Addr => [⟨.pointer (some x), [(Vi r37.1), (Vi r37.2.1), (Sl Kf r37.2.2.1), (Vi r37.2.2.2)], 111, none⟩, ⟨.pointer (some q1), [(Vi a0_0), (Vi a0_1), (Vi a0_2), (Sl Kf a0_3), (Sl (Ki .i64) a0_4), (Sl (Kl (Ki .i64)) a0_5), (Sl KT27 a0_6)], 27, none⟩]) (fun _ => rfl) rfl rfl) rfl bs_nil (wt_none' rfl) fun q37 => ?_
  obtain ⟨r40, hr40, hp⟩ := bind_some hp
  refine px_oxb' (is := [0]) rfl (oxb_callg (ent_fn' Tryz.func30 isn30 rfl rfl) (gogeom_LinearRing_SetSRID_sim _ _ _ _ _ hr40 : Sx.Fn Tryz.prog 30 [(Vp q37), (Vi a0_2)] [⟨.pointer (some q37), [(Vi r37.1), (Vi r37.2.1), (Sl Kf r37.2.2.1), (Vi r37.2.2.2)], 111, none⟩] (fun x : Unit => (Vp q37)) (fun x => [⟨.pointer (some q37), [(Vi r40.1), (Vi r40.2.1), (Sl Kf r40.2.2.1), (Vi r40.2.2.2)], 111, none⟩])) [0] [1] (by decide) (pick_cons rfl pick_nil) (pick_cons rfl pick_nil) (Hn := fun x : Unit => [⟨.pointer (some q37), [(Vi r40.1), (Vi r40.2.1), (Sl Kf r40.2.2.1), (Vi r40.2.2.2)], 111, none⟩, ⟨.pointer (some q1), [(Vi a0_0), (Vi a0_1), (Vi a0_2), (Sl Kf a0_3), (Sl (Ki .i64) a0_4), (Sl (Kl (Ki .i64)) a0_5), (Sl KT27 a0_6)], 27, none⟩]) (fun _ => rfl) rfl rfl) (pick_cons rfl pick_nil) rfl bl_nil (wt_none' rfl) fun ⟨⟩ => ?_
  refine px_rd' rfl (rd_iface' rfl ⟨_, Tryz.underlying42, fun _ h => (nomatch h)⟩) rfl rfl (wt_none' rfl) ?_
  refine px_rd' rfl (rd_assign' rfl) rfl rfl (wt_none' rfl) ?_
  refine px_nil' ?_
  show TX E K10 _
  refine tx_k' hK10 ?_
  refine cx_retc' ?_
  replace hp := Option.some.inj hp
  subst hp
  refine tx_pick' (L' := [(2, (If 42 (Vp q37)))]) (H' := [⟨.pointer (some q37), [(Vi r40.1), (Vi r40.2.1), (Sl Kf r40.2.2.1), (Vi r40.2.2.2)], 111, none⟩]) [0] (sub_cons rfl sub_nil) (by decide) (pick_cons rfl pick_nil) ?_
  exact tx_ret1' Tryz.results11 rfl q37 (rv_tmp' rfl) (List.Sublist.refl _)
 replace hp := (br_f h3).symm.trans hp
 refine cr fun K11 hK11 => ?_
 refine s0 (rd_bin' rfl rfl eg_int ru_eql) ?_
 refine s0 (rd_assign' rfl) ?_
 refine nk hK11 ?_
 refine cx_cond' rfl (fun h4 => ?_) (fun h4 => ?_)
 ·replace hp := (br_t h4).symm.trans hp
  refine cx_seq' fun K12 hK12 => ?_
  refine cx_plan' [] [(8, 1)] [(0, 1), (1, 1), (2, 1), (3, 1), (6, 1), (7, 1), (4, 0), (5, 0), (8, 0), (9, 1), (10, 1)] mixed (by kernel_rfl) ?_
  refine px_rd' rfl (rd_move' rfl) rfl rfl (wt_none' rfl) ?_
  refine px_rd' rfl (rd_move' rfl) rfl rfl (wt_none' rfl) ?_
  refine px_rd' rfl (rd_field' (off := 4) rfl Tryz.underlying27 rfl info23 rfl) rfl rfl (wt_none' rfl) ?_
  refine px_rd' rfl (rd_load' (i := 0) (o := 4) rfl ⟨rfl, rfl, rfl, rfl⟩ rfl flat23) rfl rfl (wt_none' rfl) ?_
  refine px_rd' rfl (rd_field' (off := 2) rfl Tryz.underlying27 rfl info3 rfl) rfl rfl (wt_none' rfl) ?_
  refine px_rd' rfl (rd_load' (i := 0) (o := 2) rfl ⟨rfl, rfl, rfl, rfl⟩ rfl flat3) rfl rfl (wt_none' rfl) ?_
  obtain ⟨r48, hr48, hp⟩ := bind_some hp
  rcases r48 with y4 | y4
  ·dsimp only at hp
   refine px_ox' rfl (ox_calln' (ent_fn' Tryz.func32 isn32 rfl rfl) (impl_ints_sim _ hr48 : Sx.Fn Tryz.prog 32 [(Sl (Ki .i64) a0_4)] [] (fun x : Unit => Vn) (fun x => [])) (Hn := fun x : Unit => [⟨.pointer (some q1), [(Vi a0_0), (Vi a0_1), (Vi a0_2), (Sl Kf a0_3), (Sl (Ki .i64) a0_4), (Sl (Kl (Ki .i64)) a0_5), (Sl KT27 a0_6)], 27, none⟩]) (fun _ => rfl) rfl rfl) rfl bs_nil (wt_none' rfl) fun ⟨⟩ => ?_
   obtain ⟨r49, hr49, hp⟩ := bind_some hp
   refine px_ox' rfl (ox_calln' (ent_fn' Tryz.func31 isn31 rfl rfl) (gogeom_NewPolygonFlat_sim _ _ hr49 : Sx.Fn Tryz.prog 31 [(Vi a0_1), (Sl Kf r12), Vn] [] (fun x : Addr => (Vp x)) (fun x => [⟨.pointer (some x), [(Vi r49.1), (Vi r49.2.1), (Sl Kf r49.2.2.1), (Vi r49.2.2.2), Vn], 115, none⟩])) (Hn := fun x : Addr => [⟨.pointer (some x), [(Vi r49.1), (Vi r49.2.1), (Sl Kf r49.2.2.1), (Vi r49.2.2.2), Vn], 115, none⟩, ⟨.pointer (some q1), [(Vi a0_0), (Vi a0_1), (Vi a0_2), (Sl Kf a0_3), (Sl (Ki .i64) a0_4), (Sl (Kl (Ki .i64)) a0_5), (Sl KT27 a0_6)], 27, none⟩]) (fun _ => rfl) rfl rfl) rfl bs_nil (wt_none' rfl) fun q49 => ?_
   obtain ⟨r52, hr52, hp⟩ := bind_some hp
   refine px_oxb' (is := [0]) rfl (oxb_callg (ent_fn' Tryz.func33 isn33 rfl rfl) (gogeom_Polygon_SetSRID_sim _ _ _ _ _ hr52 : Sx.Fn Tryz.prog 33 [(Vp q49), (Vi a0_2)] [⟨.pointer (some q49), [(Vi r49.1), (Vi r49.2.1), (Sl Kf r49.2.2.1), (Vi r49.2.2.2), Vn], 115, none⟩] (fun x : Unit => (Vp q49)) (fun x => [⟨.pointer (some q49), [(Vi r52.1), (Vi r52.2.1), (Sl Kf r52.2.2.1), (Vi r52.2.2.2), Vn], 115, none⟩])) [0] [1] (by decide) (pick_cons rfl pick_nil) (pick_cons rfl pick_nil) (Hn := fun x : Unit => [⟨.pointer (some q49), [(Vi r52.1), (Vi r52.2.1), (Sl Kf r52.2.2.1), (Vi r52.2.2.2), Vn], 115, none⟩, ⟨.pointer (some q1), [(Vi a0_0), (Vi a0_1), (Vi a0_2), (Sl Kf a0_3), (Sl (Ki .i64) a0_4), (Sl (Kl (Ki .i64)) a0_5), (Sl KT27 a0_6)], 27, none⟩]) (fun _ => rfl) rfl rfl) (pick_cons rfl pick_nil) rfl bl_nil (wt_none' rfl) fun ⟨⟩ => ?_
   refine px_rd' rfl (rd_iface' rfl ⟨_, Tryz.underlying44, fun _ h => (nomatch h)⟩) rfl rfl (wt_none' rfl) ?_
   refine px_rd' rfl (rd_assign' rfl) rfl rfl (wt_none' rfl) ?_
   refine px_nil' ?_
   show TX E K12 _
   refine tx_k' hK12 ?_
   refine cx_retc' ?_
   replace hp := Option.some.inj hp
   subst hp
   refine tx_cell' 0 4 (y := (Sl (Ki .i64) [])) rfl rfl imp_nil (H' := [⟨.pointer (some q49), [(Vi r52.1), (Vi r52.2.1), (Sl Kf r52.2.2.1), (Vi r52.2.2.2), (Sl (Ki .i64) [])], 115, none⟩, ⟨.pointer (some q1), [(Vi a0_0), (Vi a0_1), (Vi a0_2), (Sl Kf a0_3), (Sl (Ki .i64) a0_4), (Sl (Kl (Ki .i64)) a0_5), (Sl KT27 a0_6)], 27, none⟩]) rfl ?_
   refine tx_pick' (L' := [(2, (If 44 (Vp q49)))]) (H' := [⟨.pointer (some q49), [(Vi r52.1), (Vi r52.2.1), (Sl Kf r52.2.2.1), (Vi r52.2.2.2), (Sl (Ki .i64) [])], 115, none⟩]) [0] (sub_cons rfl sub_nil) (by decide) (pick_cons rfl pick_nil) ?_
   exact tx_ret1' Tryz.results11 rfl q49 (rv_tmp' rfl) (List.Sublist.refl _)
  dsimp only at hp
  refine px_ox' rfl (ox_calln' (ent_fn' Tryz.func32 isn32 rfl rfl) (impl_ints_sim _ hr48 : Sx.Fn Tryz.prog 32 [(Sl (Ki .i64) a0_4)] [] (fun x : Unit => (Sl (Ki .i64) y4)) (fun x => [])) (Hn := fun x : Unit => [⟨.pointer (some q1), [(Vi a0_0), (Vi a0_1), (Vi a0_2), (Sl Kf a0_3), (Sl (Ki .i64) a0_4), (Sl (Kl (Ki .i64)) a0_5), (Sl KT27 a0_6)], 27, none⟩]) (fun _ => rfl) rfl rfl) rfl bs_nil (wt_none' rfl) fun ⟨⟩ => ?_
  obtain ⟨r49, hr49, hp⟩ := bind_some hp
  refine px_ox' rfl (ox_calln' (ent_fn' Tryz.func31 isn31 rfl rfl) (gogeom_NewPolygonFlat_v2_sim _ _ _ hr49 : Sx.Fn Tryz.prog 31 [(Vi a0_1), (Sl Kf r12), (Sl (Ki .i64) y4)] [] (fun x : Addr => (Vp x)) (fun x => [⟨.pointer (some x), [(Vi r49.1), (Vi r49.2.1), (Sl Kf r49.2.2.1), (Vi r49.2.2.2.1), (Sl (Ki .i64) r49.2.2.2.2)], 115, none⟩])) (Hn := fun x : Addr => [⟨.pointer (some x), [(Vi r49.1), (Vi r49.2.1), (Sl Kf r49.2.2.1), (Vi r49.2.2.2.1), (Sl (Ki .i64) r49.2.2.2.2)], 115, none⟩, ⟨.pointer (some q1), [(Vi a0_0), (Vi a0_1), (Vi a0_2), (Sl Kf a0_3), (Sl (Ki .i64) a0_4), (Sl (Kl (Ki .i64)) a0_5), (Sl KT27 a0_6)], 27, none⟩]) (fun _ => rfl) rfl rfl) rfl bs_nil (wt_none' rfl) fun q49 => ?_
  obtain ⟨r52, hr52, hp⟩ := bind_some hp
  refine px_oxb' (is := [0]) rfl (oxb_callg (ent_fn' Tryz.func33 isn33 rfl rfl) (gogeom_Polygon_SetSRID_v2_sim _ _ _ _ _ _ hr52 : Sx.Fn Tryz.prog 33 [(Vp q49), (Vi a0_2)] [⟨.pointer (some q49), [(Vi r49.1), (Vi r49.2.1), (Sl Kf r49.2.2.1), (Vi r49.2.2.2.1), (Sl (Ki .i64) r49.2.2.2.2)], 115, none⟩] (fun x : Unit => (Vp q49)) (fun x => [⟨.pointer (some q49), [(Vi r52.1), (Vi r52.2.1), (Sl Kf r52.2.2.1), (Vi r52.2.2.2.1), (Sl (Ki .i64) r52.2.2.2.2)], 115, none⟩])) [0] [1] (by decide) (pick_cons rfl pick_nil) (pick_cons rfl pick_nil) (Hn := fun x : Unit => [⟨.pointer (some q49), [(Vi r52.1), (Vi r52.2.1), (Sl Kf r52.2.2.1), (Vi r52.2.2.2.1), (Sl (Ki .i64) r52.2.2.2.2)], 115, none⟩, ⟨.pointer (some q1), [(Vi a0_0), (Vi a0_1), (Vi a0_2), (Sl Kf a0_3), (Sl (Ki .i64) a0_4), (Sl (Kl (Ki .i64)) a0_5), (Sl KT27 a0_6)], 27, none⟩]) (fun _ => rfl) rfl rfl) (pick_cons rfl pick_nil) rfl bl_nil (wt_none' rfl) fun ⟨⟩ => ?_
  refine px_rd' rfl (rd_iface' rfl ⟨_, Tryz.underlying44, fun _ h => (nomatch h)⟩) rfl rfl (wt_none' rfl) ?_
  refine px_rd' rfl (rd_assign' rfl) rfl rfl (wt_none' rfl) ?_
  refine px_nil' ?_
  show TX E K12 _
  refine tx_k' hK12 ?_
  refine cx_retc' ?_
  replace hp := Option.some.inj hp
  subst hp
  refine tx_pick' (L' := [(2, (If 44 (Vp q49)))]) (H' := [⟨.pointer (some q49), [(Vi r52.1), (Vi r52.2.1), (Sl Kf r52.2.2.1), (Vi r52.2.2.2.1), (Sl (Ki .i64) r52.2.2.2.2)], 115, none⟩]) [0] (sub_cons rfl sub_nil) (by decide) (pick_cons rfl pick_nil) ?_
  exact tx_ret1' Tryz.results11 rfl q49 (rv_tmp' rfl) (List.Sublist.refl _)
 replace hp := (br_f h4).symm.trans hp
 refine cr fun K13 hK13 => ?_
 refine s0 (rd_bin' rfl rfl eg_int ru_eql) ?_
 refine s0 (rd_assign' rfl) ?_
 refine nk hK13 ?_
 refine cx_cond' rfl (fun h5 => ?_) (fun h5 => ?_)
 ·replace hp := (br_t h5).symm.trans hp
  refine cx_seq' fun K14 hK14 => ?_
  refine cx_plan' [q1.block] [(7, 1), (10, 1)] [(0, 1), (1, 1), (2, 1), (3, 1), (8, 2), (9, 2), (4, 0), (5, 0), (6, 0), (7, 0), (10, 0), (11, 1), (12, 1)] mixed (by kernel_rfl) ?_
  refine px_rd' rfl (rd_move' rfl) rfl rfl (wt_none' rfl) ?_
  refine px_rd' rfl (rd_move' rfl) rfl rfl (wt_none' rfl) ?_
  refine px_rd' rfl (rd_field' (off := 4) rfl Tryz.underlying27 rfl info23 rfl) rfl rfl (wt_none' rfl) ?_
  refine px_rd' rfl (rd_load' (i := 0) (o := 4) rfl ⟨rfl, rfl, rfl, rfl⟩ rfl flat23) rfl rfl (wt_none' rfl) ?_
  refine px_rb' rfl (rb_field' (off := 2) rfl Tryz.underlying27 rfl info3 rfl) rfl rfl (wt_none' rfl) ?_
  refine px_rb' rfl (rb_load' (i := 0) (o := 2) rfl ⟨rfl, rfl, rfl, rfl⟩ rfl flat3 (by simp)) rfl rfl (wt_none' rfl) ?_
  obtain ⟨r60, hr60, hp⟩ := bind_some hp
  rcases r60 with y6 | y6
  ·dsimp only at hp
   refine px_ox' rfl (ox_calln' (ent_fn' Tryz.func32 isn32 rfl rfl) (impl_ints_sim _ hr60 : Sx.Fn Tryz.prog 32 [(Sl (Ki .i64) a0_4)] [] (fun x : Unit => Vn) (fun x => [])) (Hn := fun x : Unit => [⟨.pointer (some q1), [(Vi a0_0), (Vi a0_1), (Vi a0_2), (Sl Kf a0_3), (Sl (Ki .i64) a0_4), (Sl (Kl (Ki .i64)) a0_5), (Sl KT27 a0_6)], 27, none⟩]) (fun _ => rfl) rfl rfl) rfl (bs_cons (m := 0) rfl rfl rfl bs_nil) (wt_none' rfl) fun ⟨⟩ => ?_
   obtain ⟨r61, hr61, hp⟩ := bind_some hp
   refine px_ox' rfl (ox_calln' (ent_fn' Tryz.func35 isn35 rfl rfl) (gogeom_NewMultiPointFlatOptionWithEnds_sim hr61 : Sx.Fn Tryz.prog 35 [Vn] [] (fun x : Addr => (Vl (.func (.func 62) #[] ⟨[.pointer (some x)]⟩))) (fun x => [⟨.pointer (some x), [Vn], 23, none⟩])) (Hn := fun x : Addr => [⟨.pointer (some x), [Vn], 23, none⟩, ⟨.pointer (some q1), [(Vi a0_0), (Vi a0_1), (Vi a0_2), (Sl Kf a0_3), (Sl (Ki .i64) a0_4), (Sl (Kl (Ki .i64)) a0_5), (Sl KT27 a0_6)], 27, none⟩]) (fun _ => rfl) rfl rfl) rfl (bs_cons (m := 0) rfl rfl rfl bs_nil) (wt_none' rfl) fun q61 => ?_
   refine px_ox' rfl (ox_srow' (es := 1) (r := [(Vl (.func (.func 62) #[] ⟨[.pointer (some q61)]⟩))]) (qs := [(0, [(Vl (.func (.func 62) #[] ⟨[.pointer (some q61)]⟩))])]) ⟨rfl, ⟨_, rfl, (lv_vl rfl rfl)⟩, trivial⟩ Tryz.underlying116 info67 rfl rfl rfl rfl rfl rfl rfl rfl rfl) rfl (bs_cons (m := 1) rfl rfl rfl bs_nil) (wt_none' rfl) fun q62 => ?_
   obtain ⟨r63, hr63, hp⟩ := bind_some hp
   refine px_oxb' (is := [0, 1]) rfl (oxb_callg (ent_fn' Tryz.func34 isn34 rfl rfl) (gogeom_NewMultiPointFlat_sim _ _ hr63 : Sx.Fn Tryz.prog 34 [(Vi a0_1), (Sl Kf r12), (Vl (.slice (some q62) 1 1))] [⟨.slice (some q62) 1 1, [(Vl (.func (.func 62) #[] ⟨[.pointer (some q61)]⟩))], 67, some 1⟩, ⟨.pointer (some q61), [Vn], 23, none⟩] (fun x : Addr × Gs => (Vp x.1)) (fun x => [⟨.pointer (some q61), [Vn], 23, none⟩, ⟨.pointer (some x.1), [(Vi r63.1), (Vi r63.2.1), (Sl Kf r63.2.2.1), (Vi r63.2.2.2.1), (Vl (Vs x.2))], 117, none⟩, (Rw (Ki .i64) 3 (Vs x.2) r63.2.2.2.2)])) [0, 1] [2] (by decide) (pick_cons rfl (pick_cons rfl pick_nil)) (pick_cons rfl pick_nil) (Hn := fun x : Addr × Gs => [⟨.pointer (some q61), [Vn], 23, none⟩, ⟨.pointer (some x.1), [(Vi r63.1), (Vi r63.2.1), (Sl Kf r63.2.2.1), (Vi r63.2.2.2.1), (Vl (Vs x.2))], 117, none⟩, (Rw (Ki .i64) 3 (Vs x.2) r63.2.2.2.2), ⟨.pointer (some q1), [(Vi a0_0), (Vi a0_1), (Vi a0_2), (Sl Kf a0_3), (Sl (Ki .i64) a0_4), (Sl (Kl (Ki .i64)) a0_5), (Sl KT27 a0_6)], 27, none⟩]) (fun _ => rfl) rfl rfl) (pick_cons rfl (pick_cons rfl pick_nil)) rfl (bl_cons (m := 2) (by decide) rfl rfl bl_nil) (wt_none' rfl) fun ⟨q63, g63⟩ => ?_
   obtain ⟨r66, hr66, hp⟩ := bind_some hp
   refine px_oxb' (is := [1, 2]) rfl (oxb_callg (ent_fn' Tryz.func36 isn36 rfl rfl) (gogeom_MultiPoint_SetSRID_sim _ _ _ _ _ _ hr66 : Sx.Fn Tryz.prog 36 [(Vp q63), (Vi a0_2)] [⟨.pointer (some q63), [(Vi r63.1), (Vi r63.2.1), (Sl Kf r63.2.2.1), (Vi r63.2.2.2.1), (Vl (Vs g63))], 117, none⟩, (Rw (Ki .i64) 3 (Vs g63) r63.2.2.2.2)] (fun x : Unit => (Vp q63)) (fun x => [⟨.pointer (some q63), [(Vi r66.1), (Vi r66.2.1), (Sl Kf r66.2.2.1), (Vi r66.2.2.2.1), (Vl (Vs g63))], 117, none⟩, (Rw (Ki .i64) 3 (Vs g63) r66.2.2.2.2)])) [1, 2] [0, 3] (by decide) (pick_cons rfl (pick_cons rfl pick_nil)) (pick_cons rfl (pick_cons rfl pick_nil)) (Hn := fun x : Unit => [⟨.pointer (some q63), [(Vi r66.1), (Vi r66.2.1), (Sl Kf r66.2.2.1), (Vi r66.2.2.2.1), (Vl (Vs g63))], 117, none⟩, (Rw (Ki .i64) 3 (Vs g63) r66.2.2.2.2), ⟨.pointer (some q61), [Vn], 23, none⟩, ⟨.pointer (some q1), [(Vi a0_0), (Vi a0_1), (Vi a0_2), (Sl Kf a0_3), (Sl (Ki .i64) a0_4), (Sl (Kl (Ki .i64)) a0_5), (Sl KT27 a0_6)], 27, none⟩]) (fun _ => rfl) rfl rfl) (pick_cons rfl (pick_cons rfl pick_nil)) rfl (bl_cons (m := 3) (by decide) rfl rfl bl_nil) (wt_none' rfl) fun ⟨⟩ => ?_
   refine px_rd' rfl (rd_iface' rfl ⟨_, Tryz.underlying46, fun _ h => (nomatch h)⟩) rfl rfl (wt_none' rfl) ?_
   refine px_rd' rfl (rd_assign' rfl) rfl rfl (wt_none' rfl) ?_
   refine px_nil' ?_
   show TX E K14 _
   refine tx_k' hK14 ?_
   refine cx_retc' ?_
   refine tx_fz' (frz_row 1 [] (K := (Ki .i64)) (xs := r66.2.2.2.2) (by decide) rfl trivial (H' := [⟨.pointer (some q63), [(Vi r66.1), (Vi r66.2.1), (Sl Kf r66.2.2.1), (Vi r66.2.2.2.1), (Sl (Ki .i64) r66.2.2.2.2)], 117, none⟩, ⟨.pointer (some q61), [Vn], 23, none⟩, ⟨.pointer (some q1), [(Vi a0_0), (Vi a0_1), (Vi a0_2), (Sl Kf a0_3), (Sl (Ki .i64) a0_4), (Sl (Kl (Ki .i64)) a0_5), (Sl KT27 a0_6)], 27, none⟩]) (frzH_cons rfl rfl rfl (frzL_cons frz_same (frzL_cons frz_same (frzL_cons frz_same (frzL_cons frz_same (frzL_cons frz_it frzL_refl))))) (frzH_cons rfl rfl rfl frzL_refl (frzH_cons rfl rfl rfl frzL_refl frzH_refl)))) ?_
   replace hp := Option.some.inj hp
   subst hp
   refine tx_pick' (L' := [(2, (If 46 (Vp q63)))]) (H' := [⟨.pointer (some q63), [(Vi r66.1), (Vi r66.2.1), (Sl Kf r66.2.2.1), (Vi r66.2.2.2.1), (Sl (Ki .i64) r66.2.2.2.2)], 117, none⟩]) [0] (sub_cons rfl sub_nil) (by decide) (pick_cons rfl pick_nil) ?_
   exact tx_ret1' Tryz.results11 rfl q63 (rv_tmp' rfl) (List.Sublist.refl _)
  dsimp only at hp
  refine px_ox' rfl (ox_calln' (ent_fn' Tryz.func32 isn32 rfl rfl) (impl_ints_sim _ hr60 : Sx.Fn Tryz.prog 32 [(Sl (Ki .i64) a0_4)] [] (fun x : Unit => (Sl (Ki .i64) y6)) (fun x => [])) (Hn := fun x : Unit => [⟨.pointer (some q1), [(Vi a0_0), (Vi a0_1), (Vi a0_2), (Sl Kf a0_3), (Sl (Ki .i64) a0_4), (Sl (Kl (Ki .i64)) a0_5), (Sl KT27 a0_6)], 27, none⟩]) (fun _ => rfl) rfl rfl) rfl (bs_cons (m := 0) rfl rfl rfl bs_nil) (wt_none' rfl) fun ⟨⟩ => ?_
  obtain ⟨r61, hr61, hp⟩ := bind_some hp
  refine px_ox' rfl (ox_calln' (ent_fn' Tryz.func35 isn35 rfl rfl) (gogeom_NewMultiPointFlatOptionWithEnds_v2_sim _ hr61 : Sx.Fn Tryz.prog 35 [(Sl (Ki .i64) y6)] [] (fun x : Addr => (Vl (.func (.func 62) #[] ⟨[.pointer (some x)]⟩))) (fun x => [⟨.pointer (some x), [(Sl (Ki .i64) r61)], 23, none⟩])) (Hn := fun x : Addr => [⟨.pointer (some x), [(Sl (Ki .i64) r61)], 23, none⟩, ⟨.pointer (some q1), [(Vi a0_0), (Vi a0_1), (Vi a0_2), (Sl Kf a0_3), (Sl (Ki .i64) a0_4), (Sl (Kl (Ki .i64)) a0_5), (Sl KT27 a0_6)], 27, none⟩]) (fun _ => rfl) rfl rfl) rfl (bs_cons (m := 0) rfl rfl rfl bs_nil) (wt_none' rfl) fun q61 => ?_
  refine px_ox' rfl (ox_srow' (es := 1) (r := [(Vl (.func (.func 62) #[] ⟨[.pointer (some q61)]⟩))]) (qs := [(0, [(Vl (.func (.func 62) #[] ⟨[.pointer (some q61)]⟩))])]) ⟨rfl, ⟨_, rfl, (lv_vl rfl rfl)⟩, trivial⟩ Tryz.underlying116 info67 rfl rfl rfl rfl rfl rfl rfl rfl rfl) rfl (bs_cons (m := 1) rfl rfl rfl bs_nil) (wt_none' rfl) fun q62 => ?_
  obtain ⟨r63, hr63, hp⟩ := bind_some hp
  refine px_oxb' (is := [0, 1]) rfl (oxb_callg (ent_fn' Tryz.func34 isn34 rfl rfl) (gogeom_NewMultiPointFlat_v2_sim _ _ _ hr63 : Sx.Fn Tryz.prog 34 [(Vi a0_1), (Sl Kf r12), (Vl (.slice (some q62) 1 1))] [⟨.slice (some q62) 1 1, [(Vl (.func (.func 62) #[] ⟨[.pointer (some q61)]⟩))], 67, some 1⟩, ⟨.pointer (some q61), [(Sl (Ki .i64) r61)], 23, none⟩] (fun x : Addr => (Vp x)) (fun x => [⟨.pointer (some q61), [(Sl (Ki .i64) r63.1)], 23, none⟩, ⟨.pointer (some x), [(Vi r63.2.1), (Vi r63.2.2.1), (Sl Kf r63.2.2.2.1), (Vi r63.2.2.2.2), (Sl (Ki .i64) r63.1)], 117, none⟩])) [0, 1] [2] (by decide) (pick_cons rfl (pick_cons rfl pick_nil)) (pick_cons rfl pick_nil) (Hn := fun x : Addr => [⟨.pointer (some q61), [(Sl (Ki .i64) r63.1)], 23, none⟩, ⟨.pointer (some x), [(Vi r63.2.1), (Vi r63.2.2.1), (Sl Kf r63.2.2.2.1), (Vi r63.2.2.2.2), (Sl (Ki .i64) r63.1)], 117, none⟩, ⟨.pointer (some q1), [(Vi a0_0), (Vi a0_1), (Vi a0_2), (Sl Kf a0_3), (Sl (Ki .i64) a0_4), (Sl (Kl (Ki .i64)) a0_5), (Sl KT27 a0_6)], 27, none⟩]) (fun _ => rfl) rfl rfl) (pick_cons rfl (pick_cons rfl pick_nil)) rfl (bl_cons (m := 2) (by decide) rfl rfl bl_nil) (wt_none' rfl) fun q63 => ?_
  obtain ⟨r66, hr66, hp⟩ := bind_some hp
  refine px_oxb' (is := [1]) rfl (oxb_callg (ent_fn' Tryz.func36 isn36 rfl rfl) (gogeom_MultiPoint_SetSRID_v2_sim _ _ _ _ _ _ hr66 : Sx.Fn Tryz.prog 36 [(Vp q63), (Vi a0_2)] [⟨.pointer (some q63), [(Vi r63.2.1), (Vi r63.2.2.1), (Sl Kf r63.2.2.2.1), (Vi r63.2.2.2.2), (Sl (Ki .i64) r63.1)], 117, none⟩] (fun x : Unit => (Vp q63)) (fun x => [⟨.pointer (some q63), [(Vi r66.1), (Vi r66.2.1), (Sl Kf r66.2.2.1), (Vi r66.2.2.2.1), (Sl (Ki .i64) r66.2.2.2.2)], 117, none⟩])) [1] [0, 2] (by decide) (pick_cons rfl pick_nil) (pick_cons rfl (pick_cons rfl pick_nil)) (Hn := fun x : Unit => [⟨.pointer (some q63), [(Vi r66.1), (Vi r66.2.1), (Sl Kf r66.2.2.1), (Vi r66.2.2.2.1), (Sl (Ki .i64) r66.2.2.2.2)], 117, none⟩, ⟨.pointer (some q61), [(Sl (Ki .i64) r63.1)], 23, none⟩, ⟨.pointer (some q1), [(Vi a0_0), (Vi a0_1), (Vi a0_2), (Sl Kf a0_3), (Sl (Ki .i64) a0_4), (Sl (Kl (Ki .i64)) a0_5), (Sl KT27 a0_6)], 27, none⟩]) (fun _ => rfl) rfl rfl) (pick_cons rfl pick_nil) rfl (bl_cons (m := 2) (by decide) rfl rfl bl_nil) (wt_none' rfl) fun ⟨⟩ => ?_
  refine px_rd' rfl (rd_iface' rfl ⟨_, Tryz.underlying46, fun _ h => (nomatch h)⟩) rfl rfl (wt_none' rfl) ?_
  refine px_rd' rfl (rd_assign' rfl) rfl rfl (wt_none' rfl) ?_
  refine px_nil' ?_
  show TX E K14 _
  refine tx_k' hK14 ?_
  refine cx_retc' ?_
  replace hp := Option.some.inj hp
  subst hp
  refine tx_pick' (L' := [(2, (If 46 (Vp q63)))]) (H' := [⟨.pointer (some q63), [(Vi r66.1), (Vi r66.2.1), (Sl Kf r66.2.2.1), (Vi r66.2.2.2.1), (Sl (Ki .i64) r66.2.2.2.2)], 117, none⟩]) [0] (sub_cons rfl sub_nil) (by decide) (pick_cons rfl pick_nil) ?_
  exact tx_ret1' Tryz.results11 rfl q63 (rv_tmp' rfl) (List.Sublist.refl _)
 replace hp := (br_f h5).symm.trans hp
 refine cr fun K15 hK15 => ?_
 refine s0 (rd_bin' rfl rfl eg_int ru_eql) ?_
 refine s0 (rd_assign' rfl) ?_
 refine nk hK15 ?_
 refine cx_cond' rfl (fun h6 => ?_) (fun h6 => ?_)
 ·replace hp := (br_t h6).symm.trans hp
  refine cx_seq' fun K16 hK16 => ?_
  refine cx_plan' [] [(8, 1)] [(0, 1), (1, 1), (2, 1), (3, 1), (6, 1), (7, 1), (4, 0), (5, 0), (8, 0), (9, 1), (10, 1)] mixed (by kernel_rfl) ?_
  refine px_rd' rfl (rd_move' rfl) rfl rfl (wt_none' rfl) ?_
  refine px_rd' rfl (rd_move' rfl) rfl rfl (wt_none' rfl) ?_
  refine px_rd' rfl (rd_field' (off := 4) rfl Tryz.underlying27 rfl info23 rfl) rfl rfl (wt_none' rfl) ?_
  refine px_rd' rfl (rd_load' (i := 0) (o := 4) rfl ⟨rfl, rfl, rfl, rfl⟩ rfl flat23) rfl rfl (wt_none' rfl) ?_
  refine px_rd' rfl (rd_field' (off := 2) rfl Tryz.underlying27 rfl info3 rfl) rfl rfl (wt_none' rfl) ?_
  refine px_rd' rfl (rd_load' (i := 0) (o := 2) rfl ⟨rfl, rfl, rfl, rfl⟩ rfl flat3) rfl rfl (wt_none' rfl) ?_
  obtain ⟨r74, hr74, hp⟩ := bind_some hp
  rcases r74 with y10 | y10
  ·dsimp only at hp
   refine px_ox' rfl (ox_calln' (ent_fn' Tryz.func32 isn32 rfl rfl) (impl_ints_sim _ hr74 : Sx.Fn Tryz.prog 32 [(Sl (Ki .i64) a0_4)] [] (fun x : Unit => Vn) (fun x => [])) (Hn := fun x : Unit => [⟨.pointer (some q1), [(Vi a0_0), (Vi a0_1), (Vi a0_2), (Sl Kf a0_3), (Sl (Ki .i64) a0_4), (Sl (Kl (Ki .i64)) a0_5), (Sl KT27 a0_6)], 27, none⟩]) (fun _ => rfl) rfl rfl) rfl bs_nil (wt_none' rfl) fun ⟨⟩ => ?_
   obtain ⟨r75, hr75, hp⟩ := bind_some hp
   refine px_ox' rfl (ox_calln' (ent_fn' Tryz.func37 isn37 rfl rfl) (gogeom_NewMultiLineStringFlat_sim _ _ hr75 : Sx.Fn Tryz.prog 37 [(Vi a0_1), (Sl Kf r12), Vn] [] (fun x : Addr => (Vp x)) (fun x => [⟨.pointer (some x), [(Vi r75.1), (Vi r75.2.1), (Sl Kf r75.2.2.1), (Vi r75.2.2.2), Vn], 118, none⟩])) (Hn := fun x : Addr => [⟨.pointer (some x), [(Vi r75.1), (Vi r75.2.1), (Sl Kf r75.2.2.1), (Vi r75.2.2.2), Vn], 118, none⟩, ⟨.pointer (some q1), [(Vi a0_0), (Vi a0_1), (Vi a0_2), (Sl Kf a0_3), (Sl (Ki .i64) a0_4), (Sl (Kl (Ki .i64)) a0_5), (Sl KT27 a0_6)], 27, none⟩]) (fun _ => rfl) rfl rfl) rfl bs_nil (wt_none' rfl) fun q75 => ?_
   obtain ⟨r78, hr78, hp⟩ := bind_some hp
   refine px_oxb' (is := [0]) rfl (oxb_callg (ent_fn' Tryz.func38 isn38 rfl rfl) (gogeom_MultiLineString_SetSRID_sim _ _ _ _ _ hr78 : Sx.Fn Tryz.prog 38 [(Vp q75), (Vi a0_2)] [⟨.pointer (some q75), [(Vi r75.1), (Vi r75.2.1), (Sl Kf r75.2.2.1), (Vi r75.2.2.2), Vn], 118, none⟩] (fun x : Unit => (Vp q75)) (fun x => [⟨.pointer (some q75), [(Vi r78.1), (Vi r78.2.1), (Sl Kf r78.2.2.1), (Vi r78.2.2.2), Vn], 118, none⟩])) [0] [1] (by decide) (pick_cons rfl pick_nil) (pick_cons rfl pick_nil) (Hn := fun x : Unit => [⟨.pointer (some q75), [(Vi r78.1), (Vi r78.2.1), (Sl Kf r78.2.2.1), (Vi r78.2.2.2), Vn], 118, none⟩, ⟨.pointer (some q1), [(Vi a0_0), (Vi a0_1), (Vi a0_2), (Sl Kf a0_3), (Sl (Ki .i64) a0_4), (Sl (Kl (Ki .i64)) a0_5), (Sl KT27 a0_6)], 27, none⟩]) (fun _ => rfl) rfl rfl) (pick_cons rfl pick_nil) rfl bl_nil (wt_none' rfl) fun ⟨⟩ => ?_
   refine px_rd' rfl (rd_iface' rfl ⟨_, Tryz.underlying48, fun _ h => (nomatch h)⟩) rfl rfl (wt_none' rfl) ?_
   refine px_rd' rfl (rd_assign' rfl) rfl rfl (wt_none' rfl) ?_
   refine px_nil' ?_
   show TX E K16 _
   refine tx_k' hK16 ?_
   refine cx_retc' ?_
   replace hp := Option.some.inj hp
   subst hp
   refine tx_cell' 0 4 (y := (Sl (Ki .i64) [])) rfl rfl imp_nil (H' := [⟨.pointer (some q75), [(Vi r78.1), (Vi r78.2.1), (Sl Kf r78.2.2.1), (Vi r78.2.2.2), (Sl (Ki .i64) [])], 118, none⟩, ⟨.pointer (some q1), [(Vi a0_0), (Vi a0_1), (Vi a0_2), (Sl Kf a0_3), (Sl (Ki .i64) a0_4), (Sl (Kl (Ki .i64)) a0_5), (Sl KT27 a0_6)], 27, none⟩]) rfl ?_
   refine tx_pick' (L' := [(2, (If 48 (Vp q75)))]) (H' := [⟨.pointer (some q75), [(Vi r78.1), (Vi r78.2.1), (Sl Kf r78.2.2.1), (Vi r78.2.2.2), (Sl (Ki .i64) [])], 118, none⟩]) [0] (sub_cons rfl sub_nil) (by decide) (pick_cons rfl pick_nil) ?_
   exact tx_ret1' Tryz.results11 rfl q75 (rv_tmp' rfl) (List.Sublist.refl _)
  dsimp only at hp
  refine px_ox' rfl (ox_calln' (ent_fn' Tryz.func32 isn32 rfl rfl) (impl_ints_sim _ hr74 : Sx.Fn Tryz.prog 32 [(Sl (Ki .i64) a0_4)] [] (fun x : Unit => (Sl (Ki .i64) y10)) (fun x => [])) (Hn := fun x : Unit => [⟨.pointer (some q1), [(Vi a0_0), (Vi a0_1), (Vi a0_2), (Sl Kf a0_3), (Sl (Ki .i64) a0_4), (Sl (Kl (Ki .i64)) a0_5), (Sl KT27 a0_6)], 27, none⟩]) (fun _ => rfl) rfl rfl) rfl bs_nil (wt_none' rfl) fun ⟨⟩ => ?_
  obtain ⟨r75, hr75, hp⟩ := bind_some hp
  refine px_ox' rfl (ox_calln' (ent_fn' Tryz.func37 isn37 rfl rfl) (gogeom_NewMultiLineStringFlat_v2_sim _ _ _ hr75 : Sx.Fn Tryz.prog 37 [(Vi a0_1), (Sl Kf r12), (Sl (Ki .i64) y10)] [] (fun x : Addr => (Vp x)) (fun x => [⟨.pointer (some x), [(Vi r75.1), (Vi r75.2.1), (Sl Kf r75.2.2.1), (Vi r75.2.2.2.1), (Sl (Ki .i64) r75.2.2.2.2)], 118, none⟩])) (Hn := fun x : Addr => [⟨.pointer (some x), [(Vi r75.1), (Vi r75.2.1), (Sl Kf r75.2.2.1), (Vi r75.2.2.2.1), (Sl (Ki .i64) r75.2.2.2.2)], 118, none⟩, ⟨.pointer (some q1), [(Vi a0_0), (Vi a0_1), (Vi a0_2), (Sl Kf a0_3), (Sl (Ki .i64) a0_4), (Sl (Kl (Ki .i64)) a0_5), (Sl KT27 a0_6)], 27, none⟩]) (fun _ => rfl) rfl rfl) rfl bs_nil (wt_none' rfl) fun q75 => ?_
  obtain ⟨r78, hr78, hp⟩ := bind_some hp
  refine px_oxb' (is := [0]) rfl (oxb_callg (ent_fn' Tryz.func38 isn38 rfl rfl) (gogeom_MultiLineString_SetSRID_v2_sim _ _ _ _ _ _ hr78 : Sx.Fn Tryz.prog 38 [(Vp q75), (Vi a0_2)] [⟨.pointer (some q75), [(Vi r75.1), (Vi r75.2.1), (Sl Kf r75.2.2.1), (Vi r75.2.2.2.1), (Sl (Ki .i64) r75.2.2.2.2)], 118, none⟩] (fun x : Unit => (Vp q75)) (fun x => [⟨.pointer (some q75), [(Vi r78.1), (Vi r78.2.1), (Sl Kf r78.2.2.1), (Vi r78.2.2.2.1), (Sl (Ki .i64) r78.2.2.2.2)], 118, none⟩])) [0] [1] (by decide) (pick_cons rfl pick_nil) (pick_cons rfl pick_nil) (Hn := fun x : Unit => [⟨.pointer (some q75), [(Vi r78.1), (Vi r78.2.1), (Sl Kf r78.2.2.1), (Vi r78.2.2.2.1), (Sl (Ki .i64) r78.2.2.2.2)], 118, none⟩, ⟨.pointer (some q1), [(Vi a0_0), (Vi a0_1), (Vi a0_2), (Sl Kf a0_3), (Sl (Ki .i64) a0_4), (Sl (Kl (Ki .i64)) a0_5), (Sl KT27 a0_6)], 27, none⟩]) (fun _ => rfl) rfl rfl) (pick_cons rfl pick_nil) rfl bl_nil (wt_none' rfl) fun ⟨⟩ => ?_
  refine px_rd' rfl (rd_iface' rfl ⟨_, Tryz.underlying48, fun _ h => (nomatch h)⟩) rfl rfl (wt_none' rfl) ?_
  refine px_rd' rfl (rd_assign' rfl) rfl rfl (wt_none' rfl) ?_
  refine px_nil' ?_
  show TX E K16 _
  refine tx_k' hK16 ?_
  refine cx_retc' ?_
  replace hp := Option.some.inj hp
  subst hp
  refine tx_pick' (L' := [(2, (If 48 (Vp q75)))]) (H' := [⟨.pointer (some q75), [(Vi r78.1), (Vi r78.2.1), (Sl Kf r78.2.2.1), (Vi r78.2.2.2.1), (Sl (Ki .i64) r78.2.2.2.2)], 118, none⟩]) [0] (sub_cons rfl sub_nil) (by decide) (pick_cons rfl pick_nil) ?_
  exact tx_ret1' Tryz.results11 rfl q75 (rv_tmp' rfl) (List.Sublist.refl _)
 replace hp := (br_f h6).symm.trans hp
 refine cr fun K17 hK17 => ?_
 refine s0 (rd_bin' rfl rfl eg_int ru_eql) ?_
 refine s0 (rd_assign' rfl) ?_
 refine nk hK17 ?_
 refine cx_cond' rfl (fun h7 => ?_) (fun h7 => ?_)
 ·replace hp := (br_t h7).symm.trans hp
  refine cx_seq' fun K18 hK18 => ?_
  refine cx_plan' [] [(8, 1)] [(0, 1), (1, 1), (2, 1), (3, 1), (6, 1), (7, 1), (4, 0), (5, 0), (8, 0), (9, 1), (10, 1)] mixed (by kernel_rfl) ?_
  refine px_rd' rfl (rd_move' rfl) rfl rfl (wt_none' rfl) ?_
  refine px_rd' rfl (rd_move' rfl) rfl rfl (wt_none' rfl) ?_
  refine px_rd' rfl (rd_field' (off := 5) rfl Tryz.underlying27 rfl info24 rfl) rfl rfl (wt_none' rfl) ?_
  refine px_rd' rfl (rd_load' (i := 0) (o := 5) rfl ⟨rfl, rfl, rfl, rfl⟩ rfl flat24) rfl rfl (wt_none' rfl) ?_
  refine px_rd' rfl (rd_field' (off := 2) rfl Tryz.underlying27 rfl info3 rfl) rfl rfl (wt_none' rfl) ?_
  refine px_rd' rfl (rd_load' (i := 0) (o := 2) rfl ⟨rfl, rfl, rfl, rfl⟩ rfl flat3) rfl rfl (wt_none' rfl) ?_
  obtain ⟨r86, hr86, hp⟩ := bind_some hp
  refine px_ox' rfl (ox_calln' (ent_fn' Tryz.func40 isn40 rfl rfl) (impl_intss_sim _ hr86 : Sx.Fn Tryz.prog 40 [(Sl (Kl (Ki .i64)) a0_5)] [] (fun x : Unit => (Sl (Kl (Ki .i64)) r86)) (fun x => [])) (Hn := fun x : Unit => [⟨.pointer (some q1), [(Vi a0_0), (Vi a0_1), (Vi a0_2), (Sl Kf a0_3), (Sl (Ki .i64) a0_4), (Sl (Kl (Ki .i64)) a0_5), (Sl KT27 a0_6)], 27, none⟩]) (fun _ => rfl) rfl rfl) rfl bs_nil (wt_none' rfl) fun ⟨⟩ => ?_
  obtain ⟨r87, hr87, hp⟩ := bind_some hp
  refine px_ox' rfl (ox_calln' (ent_fn' Tryz.func39 isn39 rfl rfl) (gogeom_NewMultiPolygonFlat_sim _ _ _ hr87 : Sx.Fn Tryz.prog 39 [(Vi a0_1), (Sl Kf r12), (Sl (Kl (Ki .i64)) r86)] [] (fun x : Addr => (Vp x)) (fun x => [⟨.pointer (some x), [(Vi r87.1), (Vi r87.2.1), (Sl Kf r87.2.2.1), (Vi r87.2.2.2.1), (Sl (Kl (Ki .i64)) r87.2.2.2.2)], 122, none⟩])) (Hn := fun x : Addr => [⟨.pointer (some x), [(Vi r87.1), (Vi r87.2.1), (Sl Kf r87.2.2.1), (Vi r87.2.2.2.1), (Sl (Kl (Ki .i64)) r87.2.2.2.2)], 122, none⟩, ⟨.pointer (some q1), [(Vi a0_0), (Vi a0_1), (Vi a0_2), (Sl Kf a0_3), (Sl (Ki .i64) a0_4), (Sl (Kl (Ki .i64)) a0_5), (Sl KT27 a0_6)], 27, none⟩]) (fun _ => rfl) rfl rfl) rfl bs_nil (wt_none' rfl) fun q87 => ?_
  obtain ⟨r90, hr90, hp⟩ := bind_some hp
  refine px_oxb' (is := [0]) rfl (oxb_callg (ent_fn' Tryz.func41 isn41 rfl rfl) (gogeom_MultiPolygon_SetSRID_sim _ _ _ _ _ _ hr90 : Sx.Fn Tryz.prog 41 [(Vp q87), (Vi a0_2)] [⟨.pointer (some q87), [(Vi r87.1), (Vi r87.2.1), (Sl Kf r87.2.2.1), (Vi r87.2.2.2.1), (Sl (Kl (Ki .i64)) r87.2.2.2.2)], 122, none⟩] (fun x : Unit => (Vp q87)) (fun x => [⟨.pointer (some q87), [(Vi r90.1), (Vi r90.2.1), (Sl Kf r90.2.2.1), (Vi r90.2.2.2.1), (Sl (Kl (Ki .i64)) r90.2.2.2.2)], 122, none⟩])) [0] [1] (by decide) (pick_cons rfl pick_nil) (pick_cons rfl pick_nil) (Hn := fun x : Unit => [⟨.pointer (some q87), [(Vi r90.1), (Vi r90.2.1), (Sl Kf r90.2.2.1), (Vi r90.2.2.2.1), (Sl (Kl (Ki .i64)) r90.2.2.2.2)], 122, none⟩, ⟨.pointer (some q1), [(Vi a0_0), (Vi a0_1), (Vi a0_2), (Sl Kf a0_3), (Sl (Ki .i64) a0_4), (Sl (Kl (Ki .i64)) a0_5), (Sl KT27 a0_6)], 27, none⟩]) (fun _ => rfl) rfl rfl) (pick_cons rfl pick_nil) rfl bl_nil (wt_none' rfl) fun ⟨⟩ => ?_
  refine px_rd' rfl (rd_iface' rfl ⟨_, Tryz.underlying50, fun _ h => (nomatch h)⟩) rfl rfl (wt_none' rfl) ?_
  refine px_rd' rfl (rd_assign' rfl) rfl rfl (wt_none' rfl) ?_
  refine px_nil' ?_
  show TX E K18 _
  refine tx_k' hK18 ?_
  refine cx_retc' ?_
  replace hp := Option.some.inj hp
  subst hp
  refine tx_pick' (L' := [(2, (If 50 (Vp q87)))]) (H' := [⟨.pointer (some q87), [(Vi r90.1), (Vi r90.2.1), (Sl Kf r90.2.2.1), (Vi r90.2.2.2.1), (Sl (Kl (Ki .i64)) r90.2.2.2.2)], 122, none⟩]) [0] (sub_cons rfl sub_nil) (by decide) (pick_cons rfl pick_nil) ?_
  exact tx_ret1' Tryz.results11 rfl q87 (rv_tmp' rfl) (List.Sublist.refl _)
 replace hp := (br_f h7).symm.trans hp
 refine cr fun K19 hK19 => ?_
 refine s0 (rd_bin' rfl rfl eg_int ru_eql) ?_
 refine s0 (rd_assign' rfl) ?_
 refine nk hK19 ?_
 refine cx_cond' rfl (fun h8 => ?_) (fun h8 => ?_)
 ·replace hp := (br_t h8).symm.trans hp
  refine cx_seq' fun K20 hK20 => ?_
  refine cx_plan' [] [(3, 1)] [(1, 1), (2, 1), (0, 0), (3, 0), (4, 1)] mixed (by kernel_rfl) ?_
  refine px_rd' rfl (rd_field' (off := 2) rfl Tryz.underlying27 rfl info3 rfl) rfl rfl (wt_none' rfl) ?_
  refine px_rd' rfl (rd_load' (i := 0) (o := 2) rfl ⟨rfl, rfl, rfl, rfl⟩ rfl flat3) rfl rfl (wt_none' rfl) ?_
  obtain ⟨r94, hr94, hp⟩ := bind_some hp
  refine px_ox' rfl (ox_calln' (ent_fn' Tryz.func42 isn42 rfl rfl) (gogeom_NewGeometryCollection_sim hr94 : Sx.Fn Tryz.prog 42 [] [] (fun x : Addr => (Vp x)) (fun x => [⟨.pointer (some x), [(Vi r94), Vn, (Vi r94)], 124, none⟩])) (Hn := fun x : Addr => [⟨.pointer (some x), [(Vi r94), Vn, (Vi r94)], 124, none⟩, ⟨.pointer (some q1), [(Vi a0_0), (Vi a0_1), (Vi a0_2), (Sl Kf a0_3), (Sl (Ki .i64) a0_4), (Sl (Kl (Ki .i64)) a0_5), (Sl KT27 a0_6)], 27, none⟩]) (fun _ => rfl) rfl rfl) rfl bs_nil (wt_none' rfl) fun q94 => ?_
  obtain ⟨r97, hr97, hp⟩ := bind_some hp
  refine px_oxb' (is := [0]) rfl (oxb_callg (ent_fn' Tryz.func43 isn43 rfl rfl) (gogeom_GeometryCollection_SetSRID_sim _ _ _ hr97 : Sx.Fn Tryz.prog 43 [(Vp q94), (Vi a0_2)] [⟨.pointer (some q94), [(Vi r94), Vn, (Vi r94)], 124, none⟩] (fun x : Unit => (Vp q94)) (fun x => [⟨.pointer (some q94), [(Vi r97.1), Vn, (Vi r97.2)], 124, none⟩])) [0] [1] (by decide) (pick_cons rfl pick_nil) (pick_cons rfl pick_nil) (Hn := fun x : Unit => [⟨.pointer (some q94), [(Vi r97.1), Vn, (Vi r97.2)], 124, none⟩, ⟨.pointer (some q1), [(Vi a0_0), (Vi a0_1), (Vi a0_2), (Sl Kf a0_3), (Sl (Ki .i64) a0_4), (Sl (Kl (Ki .i64)) a0_5), (Sl KT27 a0_6)], 27, none⟩]) (fun _ => rfl) rfl rfl) (pick_cons rfl pick_nil) rfl bl_nil (wt_none' rfl) fun ⟨⟩ => ?_
  refine px_rd' rfl (rd_assign' rfl) rfl rfl (wt_none' rfl) ?_
  refine px_nil' ?_
  show TX E K20 _
  refine tx_k' hK20 ?_
  refine cx_seq' fun K21 hK21 => ?_
  refine cr fun K22 hK22 => ?_
  refine s0 (rd_field' (off := 6) rfl Tryz.underlying27 rfl info25 rfl) ?_
  refine s0 (rd_load' (i := 1) (o := 6) rfl ⟨rfl, rfl, rfl, rfl⟩ rfl flat25) ?_
  refine s0 (rd_len' rfl Tryz.underlying25) ?_
  refine s0 (rd_move' rfl) ?_
  refine nk hK22 ?_
  refine cx_block' ?_
  refine tx_loop' ?_
  refine tx_round' ?_
  refine cr fun K23 hK23 => ?_
  refine s0 (rd_bin' rfl rfl eg_int ru_lss) ?_
  refine nk hK23 ?_
  refine cx_seq' fun K24 hK24 => ?_
  refine cx_cond' rfl (fun h9 => ?_) (fun h9 => ?_)
  ·replace hp := (br_t h9).symm.trans hp
   cases hp
  replace hp := (br_f h9).symm.trans hp
  refine cx_exit' ?_
  show TX E K21 _
  refine tx_k' hK21 ?_
  refine cr fun K27 hK27 => ?_
  refine s0 (rd_move' rfl) ?_
  refine s0 (rd_move' rfl) ?_
  obtain ⟨r113, hr113, hp⟩ := bind_some hp
  refine sx_ox' (ox_callg' (ent_fn' Tryz.func45 isn45 rfl rfl) (gogeom_GeometryCollection_MustSetLayout_sim _ _ _ hr113 : Sx.Fn Tryz.prog 45 [(Vp q94), (Vi a0_1)] [⟨.pointer (some q94), [(Vi r97.1), Vn, (Vi r97.2)], 124, none⟩] (fun x : Unit => (Vp q94)) (fun x => [⟨.pointer (some q94), [(Vi r113.1), Vn, (Vi r113.2)], 124, none⟩])) [0] [1] (by decide) (pick_cons rfl pick_nil) (pick_cons rfl pick_nil) (Hn := fun x : Unit => [⟨.pointer (some q94), [(Vi r113.1), Vn, (Vi r113.2)], 124, none⟩, ⟨.pointer (some q1), [(Vi a0_0), (Vi a0_1), (Vi a0_2), (Sl Kf a0_3), (Sl (Ki .i64) a0_4), (Sl (Kl (Ki .i64)) a0_5), (Sl KT27 a0_6)], 27, none⟩]) (fun _ => rfl) rfl rfl) (wt_none' rfl) fun ⟨⟩ => ?_
  refine s0 (rd_iface' rfl ⟨_, Tryz.underlying75, fun _ h => (nomatch h)⟩) ?_
  refine s0 (rd_assign' rfl) ?_
  refine nk hK27 ?_
  refine cx_retc' ?_
  replace hp := Option.some.inj hp
  subst hp
  refine tx_pick' (L' := [(2, (If 75 (Vp q94)))]) (H' := [⟨.pointer (some q94), [(Vi r113.1), Vn, (Vi r113.2)], 124, none⟩]) [0] (sub_cons rfl sub_nil) (by decide) (pick_cons rfl pick_nil) ?_
  exact tx_ret1' Tryz.results11 rfl q94 (rv_tmp' rfl) (List.Sublist.refl _)
 replace hp := (br_f h8).symm.trans hp
 refine cx_skip' ?_
 show TX E K3 _
 refine tx_k' hK3 ?_
 refine cx_region' ?_
 refine s0 (rd_iface' rfl ⟨_, Tryz.underlying9, fun _ h => (nomatch h)⟩) ?_
 cases hp
theorem impl_geometry_simA : ∀ (k : Nat)  (a0_0 : Int) (a0_1 : Int) (a0_2 : Int) (a0_3 : List Nat) (a0_4 : List Int) (a0_5 : List (List Int)) (a0_6 : List T27) (out : (Int × Int × (List Nat) × Int) ⊕ ((Int × Int × (List Nat) × Int) ⊕ ((Int × Int × (List Nat) × Int) ⊕ ((Int × Int × (List Nat) × Int × (List Int)) ⊕ ((Int × Int × (List Nat) × Int × (List Int)) ⊕ ((Int × Int × (List Nat) × Int × (List Int)) ⊕ ((Int × Int × (List Nat) × Int × (List (List Int))) ⊕ (Int × Int)))))))), impl_geometry k a0_0 a0_1 a0_2 a0_3 a0_4 a0_5 a0_6 = some out → Sx.Fn Tryz.prog 11 [(Ag [(Vi a0_0), (Vi a0_1), (Vi a0_2), (Sl Kf a0_3), (Sl (Ki .i64) a0_4), (Sl (Kl (Ki .i64)) a0_5), (Sl KT27 a0_6)])] [] (fun w => impl_geometry_r a0_0 a0_1 a0_2 a0_3 a0_4 a0_5 a0_6 out w) (fun w => impl_geometry_h a0_0 a0_1 a0_2 a0_3 a0_4 a0_5 a0_6 out w) := by
 intro k
 induction k with
 | zero => intro a0_0 a0_1 a0_2 a0_3 a0_4 a0_5 a0_6 out hp; cases hp
 | succ k ih => intro a0_0 a0_1 a0_2 a0_3 a0_4 a0_5 a0_6 out hp; exact impl_geometry_b_sim ih a0_0 a0_1 a0_2 a0_3 a0_4 a0_5 a0_6 hp
theorem impl_geometry_sim {k : Nat}  (a0_0 : Int) (a0_1 : Int) (a0_2 : Int) (a0_3 : List Nat) (a0_4 : List Int) (a0_5 : List (List Int)) (a0_6 : List T27) {out : (Int × Int × (List Nat) × Int) ⊕ ((Int × Int × (List Nat) × Int) ⊕ ((Int × Int × (List Nat) × Int) ⊕ ((Int × Int × (List Nat) × Int × (List Int)) ⊕ ((Int × Int × (List Nat) × Int × (List Int)) ⊕ ((Int × Int × (List Nat) × Int × (List Int)) ⊕ ((Int × Int × (List Nat) × Int × (List (List Int))) ⊕ (Int × Int)))))))} (hp : impl_geometry k a0_0 a0_1 a0_2 a0_3 a0_4 a0_5 a0_6 = some out) : Sx.Fn Tryz.prog 11 [(Ag [(Vi a0_0), (Vi a0_1), (Vi a0_2), (Sl Kf a0_3), (Sl (Ki .i64) a0_4), (Sl (Kl (Ki .i64)) a0_5), (Sl KT27 a0_6)])] [] (fun w => impl_geometry_r a0_0 a0_1 a0_2 a0_3 a0_4 a0_5 a0_6 out w) (fun w => impl_geometry_h a0_0 a0_1 a0_2 a0_3 a0_4 a0_5 a0_6 out w) := impl_geometry_simA k a0_0 a0_1 a0_2 a0_3 a0_4 a0_5 a0_6 out hp

def gogeom_deriveDeepCopy_11_j1 (k : Nat) (a1_0 : Int) (a1_1 : Int) (a1_3 : Int) (a1_2 : List Nat) (x1 : List Nat) : Option (Int × Int × (List Nat) × Int × (List Nat)) :=
 some (a1_0, a1_1, x1, a1_3, a1_2)
def gogeom_deriveDeepCopy_11 (k : Nat) (a0_0 : Int) (a0_1 : Int) (a0_3 : Int) (a1_0 : Int) (a1_1 : Int) (a1_2 : List Nat) (a1_3 : Int) : Option (Int × Int × (List Nat) × Int × (List Nat)) :=
 (mk 8 0 (a1_2.length : Int) (a1_2.length : Int)) >>= fun r105 =>
 gogeom_deriveDeepCopy_11_j1 k a1_0 a1_1 a1_3 a1_2 (cpy r105 a1_2)

theorem gogeom_deriveDeepCopy_11_sim {k : Nat} {wa0 : Addr} {wa1 : Addr} (a0_0 : Int) (a0_1 : Int) (a0_3 : Int) (a1_0 : Int) (a1_1 : Int) (a1_2 : List Nat) (a1_3 : Int) {out : Int × Int × (List Nat) × Int × (List Nat)} (hp : gogeom_deriveDeepCopy_11 k a0_0 a0_1 a0_3 a1_0 a1_1 a1_2 a1_3 = some out) : Sx.Fn Tryz.prog 74 [(Vp wa0), (Vp wa1)] [⟨.pointer (some wa0), [(Vi a0_0), (Vi a0_1), Vn, (Vi a0_3)], 105, none⟩, ⟨.pointer (some wa1), [(Vi a1_0), (Vi a1_1), (Sl Kf a1_2), (Vi a1_3)], 107, none⟩] (fun w : Gs => (Vl (.tuple #[]))) (fun w => [⟨.pointer (some wa0), [(Vi out.1), (Vi out.2.1), (Vl (Vs w)), (Vi out.2.2.2.1)], 105, none⟩, (Rw Kf 95 (Vs w) out.2.2.1), ⟨.pointer (some wa1), [(Vi out.1), (Vi out.2.1), (Sl Kf out.2.2.2.2), (Vi out.2.2.2.1)], 107, none⟩]) := by
 unfold gogeom_deriveDeepCopy_11 at hp
 refine fn_of Tryz.func74 rfl Tryz.ntmps74 rfl fun E hM => ?_
 refine cr fun K1 hK1 => ?_
 refine s0 (rd_move' rfl) ?_
 refine s0 (rd_move' rfl) ?_
 refine s0 (rd_nilck' rfl) ?_
 refine s0 (rd_field0' rfl Tryz.underlying105 rfl info54 rfl) ?_
 refine s0 (rd_load' (i := 1) (o := 0) rfl ⟨rfl, rfl, rfl, rfl⟩ rfl flat54) ?_
 refine s0 (rd_nilck' rfl) ?_
 refine s0 (rd_field0' rfl Tryz.underlying105 rfl info54 rfl) ?_
 refine sx_ox' (ox_store' (i := 0) (o := 0) rfl rfl (lv_vl rfl rfl) ⟨rfl, rfl, rfl, rfl⟩ rfl info54 rfl (H' := [⟨.pointer (some wa0), [(Vi a1_0), (Vi a0_1), Vn, (Vi a0_3)], 105, none⟩, ⟨.pointer (some wa1), [(Vi a1_0), (Vi a1_1), (Sl Kf a1_2), (Vi a1_3)], 107, none⟩]) rfl) (wt_none' rfl) fun _ => ?_
 refine nk hK1 ?_
 refine cr fun K2 hK2 => ?_
 refine s0 (rd_move' rfl) ?_
 refine s0 (rd_move' rfl) ?_
 refine s0 (rd_nilck' rfl) ?_
 refine s0 (rd_field' (off := 1) rfl Tryz.underlying105 rfl info3 rfl) ?_
 refine s0 (rd_load' (i := 1) (o := 1) rfl ⟨rfl, rfl, rfl, rfl⟩ rfl flat3) ?_
 refine s0 (rd_nilck' rfl) ?_
 refine s0 (rd_field' (off := 1) rfl Tryz.underlying105 rfl info3 rfl) ?_
 refine sx_ox' (ox_store' (i := 0) (o := 1) rfl rfl (lv_vl rfl rfl) ⟨rfl, rfl, rfl, rfl⟩ rfl info3 rfl (H' := [⟨.pointer (some wa0), [(Vi a1_0), (Vi a1_1), Vn, (Vi a0_3)], 105, none⟩, ⟨.pointer (some wa1), [(Vi a1_0), (Vi a1_1), (Sl Kf a1_2), (Vi a1_3)], 107, none⟩]) rfl) (wt_none' rfl) fun _ => ?_
 refine nk hK2 ?_
 refine cx_join' (fun (v1 : (List Nat) × Gs) => (⟨124, [], [(0, (Vp wa0)), (1, (Vp wa1))], [⟨.pointer (some wa0), [(Vi a1_0), (Vi a1_1), (Vl (Vs v1.2)), (Vi a0_3)], 105, none⟩, (Rw Kf 95 (Vs v1.2) v1.1), ⟨.pointer (some wa1), [(Vi a1_0), (Vi a1_1), (Sl Kf a1_2), (Vi a1_3)], 107, none⟩]⟩ : St)) (fun (v1 : (List Nat) × Gs) => gogeom_deriveDeepCopy_11_j1 k a1_0 a1_1 a1_3 a1_2 v1.1 = some out) ?_ ?_
 ·rintro ⟨x1, g901⟩ hp
  replace hp : gogeom_deriveDeepCopy_11_j1 k a1_0 a1_1 a1_3 a1_2 x1 = some out := hp
  unfold gogeom_deriveDeepCopy_11_j1 at hp
  refine cx_region' ?_
  refine s0 (rd_move' rfl) ?_
  refine s0 (rd_move' rfl) ?_
  refine s0 (rd_nilck' rfl) ?_
  refine s0 (rd_field' (off := 3) rfl Tryz.underlying105 rfl info3 rfl) ?_
  refine s0 (rd_load' (i := 2) (o := 3) rfl ⟨rfl, rfl, rfl, rfl⟩ rfl flat3) ?_
  refine s0 (rd_nilck' rfl) ?_
  refine s0 (rd_field' (off := 3) rfl Tryz.underlying105 rfl info3 rfl) ?_
  refine sx_ox' (ox_store' (i := 0) (o := 3) rfl rfl (lv_vl rfl rfl) ⟨rfl, rfl, rfl, rfl⟩ rfl info3 rfl (H' := [⟨.pointer (some wa0), [(Vi a1_0), (Vi a1_1), (Vl (Vs g901)), (Vi a1_3)], 105, none⟩, (Rw Kf 95 (Vs g901) x1), ⟨.pointer (some wa1), [(Vi a1_0), (Vi a1_1), (Sl Kf a1_2), (Vi a1_3)], 107, none⟩]) rfl) (wt_none' rfl) fun _ => ?_
  refine sx_nil' ?_
  replace hp := Option.some.inj hp
  subst hp
  refine tx_pick' (L' := []) (H' := [⟨.pointer (some wa0), [(Vi a1_0), (Vi a1_1), (Vl (Vs g901)), (Vi a1_3)], 105, none⟩, (Rw Kf 95 (Vs g901) x1), ⟨.pointer (some wa1), [(Vi a1_0), (Vi a1_1), (Sl Kf a1_2), (Vi a1_3)], 107, none⟩]) [0, 1, 2] sub_nil (by decide) (pick_cons rfl (pick_cons rfl (pick_cons rfl pick_nil))) ?_
  exact tx_end0' Tryz.results74 rfl g901 rfl (List.Sublist.refl _)
 intro K3 hK3
 refine cr fun K4 hK4 => ?_
 refine s0 (rd_move' rfl) ?_
 refine s0 (rd_nilck' rfl) ?_
 refine s0 (rd_field' (off := 2) rfl Tryz.underlying105 rfl info22 rfl) ?_
 refine s0 (rd_load' (i := 1) (o := 2) rfl ⟨rfl, rfl, rfl, rfl⟩ rfl flat22) ?_
 refine s0 (rd_nilany' rfl rfl (fun _ _ _ => by kernel_rfl) (fun _ _ _ _ => by kernel_rfl) nil_eql22_none nil_eql22_sl) ?_
 refine nk hK4 ?_
 refine tx_anybool' 22 rfl fun b1 hb1 => ?_
 refine cx_cond' rfl (fun h1 => ?_) (fun h1 => ?_)
 ·replace hp : gogeom_deriveDeepCopy_11_j1 k a1_0 a1_1 a1_3 a1_2 [] = some out := by
   rw [hb1 h1] at hp
   first | exact hp | (rw [hb1 h1]; exact hp)
  refine cx_region' ?_
  refine s0 (rd_move' rfl) ?_
  refine s0 (rd_nilck' rfl) ?_
  refine s0 (rd_field' (off := 2) rfl Tryz.underlying105 rfl info22 rfl) ?_
  refine tx_nilrow' Kf 95 ?_
  refine sx_ox' (ox_store' (i := 1) (o := 2) rfl rfl (lv_vl rfl rfl) ⟨rfl, rfl, rfl, rfl⟩ rfl info22 rfl (H' := [(Rw Kf 95 (Vs (none, 0, 0)) []), ⟨.pointer (some wa0), [(Vi a1_0), (Vi a1_1), (Vl (Vs (none, 0, 0))), (Vi a0_3)], 105, none⟩, ⟨.pointer (some wa1), [(Vi a1_0), (Vi a1_1), (Sl Kf a1_2), (Vi a1_3)], 107, none⟩]) rfl) (wt_none' rfl) fun _ => ?_
  refine sx_nil' ?_
  show TX E K3 _
  exact tx_pick' [1, 0, 2] (sub_cons rfl (sub_cons rfl sub_nil)) (by decide) (pick_cons rfl (pick_cons rfl (pick_cons rfl pick_nil))) (hK3 ([], (none, 0, 0)) hp)
 clear h1
 refine cx_seq' fun K5 hK5 => ?_
 refine cr fun K6 hK6 => ?_
 refine s0 (rd_move' rfl) ?_
 refine s0 (rd_nilck' rfl) ?_
 refine s0 (rd_field' (off := 2) rfl Tryz.underlying105 rfl info22 rfl) ?_
 refine s0 (rd_load' (i := 0) (o := 2) rfl ⟨rfl, rfl, rfl, rfl⟩ rfl flat22) ?_
 refine s0 (rd_binf' rfl rfl (bf_vl (fun _ => by kernel_rfl) nil_neq22_nilsl)) ?_
 refine nk hK6 ?_
 refine cx_cond_f' rfl rfl ?_
 refine cx_region' ?_
 refine s0 (rd_move' rfl) ?_
 refine s0 (rd_move' rfl) ?_
 refine s0 (rd_nilck' rfl) ?_
 refine s0 (rd_field' (off := 2) rfl Tryz.underlying105 rfl info22 rfl) ?_
 refine s0 (rd_load' (i := 1) (o := 2) rfl ⟨rfl, rfl, rfl, rfl⟩ rfl flat22) ?_
 refine s0 (rd_len' rfl Tryz.underlying22) ?_
 obtain ⟨r105, hr105, hp⟩ := bind_some hp
 refine sx_ox' (ox_make' (K := Kf) rfl rfl hr105 rfl Tryz.underlying22 info95 rfl rfl rfl rfl rfl) (wt_none' rfl) fun g105 => ?_
 refine s0 (rd_nilck' rfl) ?_
 refine s0 (rd_field' (off := 2) rfl Tryz.underlying105 rfl info22 rfl) ?_
 refine sx_ox' (ox_store' (i := 1) (o := 2) rfl rfl (lv_vl rfl rfl) ⟨rfl, rfl, rfl, rfl⟩ rfl info22 rfl (H' := [(Rw Kf 95 (Vs g105) r105), ⟨.pointer (some wa0), [(Vi a1_0), (Vi a1_1), (Vl (Vs g105)), (Vi a0_3)], 105, none⟩, ⟨.pointer (some wa1), [(Vi a1_0), (Vi a1_1), (Sl Kf a1_2), (Vi a1_3)], 107, none⟩]) rfl) (wt_none' rfl) fun _ => ?_
 refine nk hK5 ?_
 refine cx_plan' [] [(8, 1)] [(0, 1), (1, 1), (2, 1), (3, 1), (4, 1), (5, 1), (6, 1), (7, 1), (8, 0)] mixed (by kernel_rfl) ?_
 refine px_rd' rfl (rd_move' rfl) rfl rfl (wt_none' rfl) ?_
 refine px_rd' rfl (rd_nilck' rfl) rfl rfl (wt_none' rfl) ?_
 refine px_rd' rfl (rd_field' (off := 2) rfl Tryz.underlying105 rfl info22 rfl) rfl rfl (wt_none' rfl) ?_
 refine px_rd' rfl (rd_load' (i := 1) (o := 2) rfl ⟨rfl, rfl, rfl, rfl⟩ rfl flat22) rfl rfl (wt_none' rfl) ?_
 refine px_rd' rfl (rd_move' rfl) rfl rfl (wt_none' rfl) ?_
 refine px_rd' rfl (rd_nilck' rfl) rfl rfl (wt_none' rfl) ?_
 refine px_rd' rfl (rd_field' (off := 2) rfl Tryz.underlying105 rfl info22 rfl) rfl rfl (wt_none' rfl) ?_
 refine px_rd' rfl (rd_load' (i := 2) (o := 2) rfl ⟨rfl, rfl, rfl, rfl⟩ rfl flat22) rfl rfl (wt_none' rfl) ?_
 refine px_ox' rfl (ox_copy' (i := 0) rfl rfl rfl rfl rfl Tryz.underlying22 info95 rfl rfl (H' := [(Rw Kf 95 (Vs g105) (cpy r105 a1_2)), ⟨.pointer (some wa0), [(Vi a1_0), (Vi a1_1), (Vl (Vs g105)), (Vi a0_3)], 105, none⟩, ⟨.pointer (some wa1), [(Vi a1_0), (Vi a1_1), (Sl Kf a1_2), (Vi a1_3)], 107, none⟩]) rfl) rfl bs_nil (wt_none' rfl) fun _ => ?_
 refine px_nil' ?_
 show TX E K3 _
 exact tx_pick' [1, 0, 2] (sub_cons rfl (sub_cons rfl sub_nil)) (by decide) (pick_cons rfl (pick_cons rfl (pick_cons rfl pick_nil))) (hK3 ((cpy r105 a1_2), g105) hp)

def gogeom_deriveDeepCopy_6 (k : Nat) (a0_0 : Int) (a0_1 : Int) (a0_3 : Int) (a1_0 : Int) (a1_1 : Int) (a1_2 : List Nat) (a1_3 : Int) : Option (Int × Int × (List Nat) × Int × (List Nat)) :=
 (gogeom_deriveDeepCopy_11 k 0 0 0 a1_0 a1_1 a1_2 a1_3) >>= fun r10 =>
 some (r10.1, r10.2.1, r10.2.2.1, r10.2.2.2.1, r10.2.2.2.2)

theorem gogeom_deriveDeepCopy_6_sim {k : Nat} {wa0 : Addr} {wa1 : Addr} (a0_0 : Int) (a0_1 : Int) (a0_3 : Int) (a1_0 : Int) (a1_1 : Int) (a1_2 : List Nat) (a1_3 : Int) {out : Int × Int × (List Nat) × Int × (List Nat)} (hp : gogeom_deriveDeepCopy_6 k a0_0 a0_1 a0_3 a1_0 a1_1 a1_2 a1_3 = some out) : Sx.Fn Tryz.prog 65 [(Vp wa0), (Vp wa1)] [⟨.pointer (some wa0), [(Vi a0_0), (Vi a0_1), Vn, (Vi a0_3)], 107, none⟩, ⟨.pointer (some wa1), [(Vi a1_0), (Vi a1_1), (Sl Kf a1_2), (Vi a1_3)], 107, none⟩] (fun w : Gs => (Vl (.tuple #[]))) (fun w => [⟨.pointer (some wa0), [(Vi out.1), (Vi out.2.1), (Vl (Vs w)), (Vi out.2.2.2.1)], 107, none⟩, (Rw Kf 95 (Vs w) out.2.2.1), ⟨.pointer (some wa1), [(Vi out.1), (Vi out.2.1), (Sl Kf out.2.2.2.2), (Vi out.2.2.2.1)], 107, none⟩]) := by
 unfold gogeom_deriveDeepCopy_6 at hp
 refine fn_of Tryz.func65 rfl Tryz.ntmps65 rfl fun E hM => ?_
 refine cr fun K1 hK1 => ?_
 refine sx_ox' (ox_alloc' info105 rfl rfl rfl rfl (l := [(Vi 0), (Vi 0), Vn, (Vi 0)]) rfl) (wt_none' rfl) fun q5 => ?_
 refine s0 (rd_assign' rfl) ?_
 refine nk hK1 ?_
 refine cr fun K2 hK2 => ?_
 refine s0 (rd_move' rfl) ?_
 refine s0 (rd_move' rfl) ?_
 refine s0 (rd_nilck' rfl) ?_
 refine s0 (rd_field0' rfl Tryz.underlying107 rfl info105 rfl) ?_
 obtain ⟨r10, hr10, hp⟩ := bind_some hp
 refine sx_ox' (ox_callg' (ent_fn' Tryz.func74 isn74 rfl rfl) (gogeom_deriveDeepCopy_11_sim _ _ _ _ _ _ _ hr10 : Sx.Fn Tryz.prog 74 [(Vp q5), (Vp wa1)] [⟨.pointer (some q5), [(Vi 0), (Vi 0), Vn, (Vi 0)], 105, none⟩, ⟨.pointer (some wa1), [(Vi a1_0), (Vi a1_1), (Sl Kf a1_2), (Vi a1_3)], 107, none⟩] (fun x : Gs => (Vl (.tuple #[]))) (fun x => [⟨.pointer (some q5), [(Vi r10.1), (Vi r10.2.1), (Vl (Vs x)), (Vi r10.2.2.2.1)], 105, none⟩, (Rw Kf 95 (Vs x) r10.2.2.1), ⟨.pointer (some wa1), [(Vi r10.1), (Vi r10.2.1), (Sl Kf r10.2.2.2.2), (Vi r10.2.2.2.1)], 107, none⟩])) [0, 2] [1] (by decide) (pick_cons rfl (pick_cons rfl pick_nil)) (pick_cons rfl pick_nil) (Hn := fun x : Gs => [⟨.pointer (some q5), [(Vi r10.1), (Vi r10.2.1), (Vl (Vs x)), (Vi r10.2.2.2.1)], 105, none⟩, (Rw Kf 95 (Vs x) r10.2.2.1), ⟨.pointer (some wa1), [(Vi r10.1), (Vi r10.2.1), (Sl Kf r10.2.2.2.2), (Vi r10.2.2.2.1)], 107, none⟩, ⟨.pointer (some wa0), [(Vi a0_0), (Vi a0_1), Vn, (Vi a0_3)], 107, none⟩]) (fun _ => rfl) rfl rfl) (wt_none' rfl) fun g10 => ?_
 refine nk hK2 ?_
 refine cx_region' ?_
 refine s0 (rd_move' rfl) ?_
 refine s0 (rd_move' rfl) ?_
 refine s0 (rd_nilck' rfl) ?_
 refine s0 (rd_load_agg' (i := 0) (o := 0) (nn := 4) rfl ⟨rfl, rfl, rfl, rfl⟩ rfl agg105 (l' := [(Vi r10.1), (Vi r10.2.1), (Vl (Vs g10)), (Vi r10.2.2.2.1)]) rfl) ?_
 refine s0 (rd_nilck' rfl) ?_
 refine s0 (rd_field0' rfl Tryz.underlying107 rfl info105 rfl) ?_
 refine sx_ox' (ox_store' (i := 3) (o := 0) rfl rfl (lv_ag _) ⟨rfl, rfl, rfl, rfl⟩ rfl info105 rfl (H' := [⟨.pointer (some q5), [(Vi r10.1), (Vi r10.2.1), (Vl (Vs g10)), (Vi r10.2.2.2.1)], 105, none⟩, (Rw Kf 95 (Vs g10) r10.2.2.1), ⟨.pointer (some wa1), [(Vi r10.1), (Vi r10.2.1), (Sl Kf r10.2.2.2.2), (Vi r10.2.2.2.1)], 107, none⟩, ⟨.pointer (some wa0), [(Vi r10.1), (Vi r10.2.1), (Vl (Vs g10)), (Vi r10.2.2.2.1)], 107, none⟩]) rfl) (wt_none' rfl) fun _ => ?_
 refine sx_nil' ?_
 replace hp := Option.some.inj hp
 subst hp
 refine tx_pick' (L' := []) (H' := [⟨.pointer (some wa0), [(Vi r10.1), (Vi r10.2.1), (Vl (Vs g10)), (Vi r10.2.2.2.1)], 107, none⟩, (Rw Kf 95 (Vs g10) r10.2.2.1), ⟨.pointer (some wa1), [(Vi r10.1), (Vi r10.2.1), (Sl Kf r10.2.2.2.2), (Vi r10.2.2.2.1)], 107, none⟩]) [3, 1, 2] sub_nil (by decide) (pick_cons rfl (pick_cons rfl (pick_cons rfl pick_nil))) ?_
 exact tx_end0' Tryz.results65 rfl g10 rfl (List.Sublist.refl _)

def gogeom_deriveClonePoint (k : Nat) (a0_0 : Int) (a0_1 : Int) (a0_2 : List Nat) (a0_3 : Int) : Option (Int × Int × (List Nat) × Int × (List Nat)) :=
 (gogeom_deriveDeepCopy_6 k 0 0 0 a0_0 a0_1 a0_2 a0_3) >>= fun r9 =>
 some (r9.1, r9.2.1, r9.2.2.2.2, r9.2.2.2.1, r9.2.2.1)

theorem gogeom_deriveClonePoint_sim {k : Nat} {wa0 : Addr} (a0_0 : Int) (a0_1 : Int) (a0_2 : List Nat) (a0_3 : Int) {out : Int × Int × (List Nat) × Int × (List Nat)} (hp : gogeom_deriveClonePoint k a0_0 a0_1 a0_2 a0_3 = some out) : Sx.Fn Tryz.prog 48 [(Vp wa0)] [⟨.pointer (some wa0), [(Vi a0_0), (Vi a0_1), (Sl Kf a0_2), (Vi a0_3)], 107, none⟩] (fun w : Addr × Gs => (Vp w.1)) (fun w => [⟨.pointer (some wa0), [(Vi out.1), (Vi out.2.1), (Sl Kf out.2.2.1), (Vi out.2.2.2.1)], 107, none⟩, ⟨.pointer (some w.1), [(Vi out.1), (Vi out.2.1), (Vl (Vs w.2)), (Vi out.2.2.2.1)], 107, none⟩, (Rw Kf 95 (Vs w.2) out.2.2.2.2)]) := by
 unfold gogeom_deriveClonePoint at hp
 refine fn_of Tryz.func48 rfl Tryz.ntmps48 rfl fun E hM => ?_
 refine cr fun K1 hK1 => ?_
 refine s0 (rd_assign' rfl) ?_
 refine nk hK1 ?_
 refine cx_seq' fun K2 hK2 => ?_
 refine cr fun K3 hK3 => ?_
 refine s0 (rd_move' rfl) ?_
 refine s0 (rd_binf' rfl rfl (bf_vl (fun _ => by kernel_rfl) (nil_eql37_ptr _))) ?_
 refine nk hK3 ?_
 refine cx_cond_f' rfl rfl ?_
 refine cx_skip' ?_
 show TX E K2 _
 refine tx_k' hK2 ?_
 refine cr fun K4 hK4 => ?_
 refine sx_ox' (ox_alloc' info107 rfl rfl rfl rfl (l := [(Vi 0), (Vi 0), Vn, (Vi 0)]) rfl) (wt_none' rfl) fun q6 => ?_
 refine s0 (rd_assign' rfl) ?_
 refine nk hK4 ?_
 refine cr fun K5 hK5 => ?_
 refine s0 (rd_move' rfl) ?_
 refine s0 (rd_move' rfl) ?_
 obtain ⟨r9, hr9, hp⟩ := bind_some hp
 refine sx_ox' (ox_callg' (ent_fn' Tryz.func65 isn65 rfl rfl) (gogeom_deriveDeepCopy_6_sim _ _ _ _ _ _ _ hr9 : Sx.Fn Tryz.prog 65 [(Vp q6), (Vp wa0)] [⟨.pointer (some q6), [(Vi 0), (Vi 0), Vn, (Vi 0)], 107, none⟩, ⟨.pointer (some wa0), [(Vi a0_0), (Vi a0_1), (Sl Kf a0_2), (Vi a0_3)], 107, none⟩] (fun x : Gs => (Vl (.tuple #[]))) (fun x => [⟨.pointer (some q6), [(Vi r9.1), (Vi r9.2.1), (Vl (Vs x)), (Vi r9.2.2.2.1)], 107, none⟩, (Rw Kf 95 (Vs x) r9.2.2.1), ⟨.pointer (some wa0), [(Vi r9.1), (Vi r9.2.1), (Sl Kf r9.2.2.2.2), (Vi r9.2.2.2.1)], 107, none⟩])) [0, 1] [] (by decide) (pick_cons rfl (pick_cons rfl pick_nil)) pick_nil (Hn := fun x : Gs => [⟨.pointer (some q6), [(Vi r9.1), (Vi r9.2.1), (Vl (Vs x)), (Vi r9.2.2.2.1)], 107, none⟩, (Rw Kf 95 (Vs x) r9.2.2.1), ⟨.pointer (some wa0), [(Vi r9.1), (Vi r9.2.1), (Sl Kf r9.2.2.2.2), (Vi r9.2.2.2.1)], 107, none⟩]) (fun _ => rfl) rfl rfl) (wt_none' rfl) fun g9 => ?_
 refine nk hK5 ?_
 refine cr fun K6 hK6 => ?_
 refine s0 (rd_move' rfl) ?_
 refine s0 (rd_assign' rfl) ?_
 refine nk hK6 ?_
 refine cx_retc' ?_
 replace hp := Option.some.inj hp
 subst hp
 refine tx_pick' (L' := [(2, (Vp q6))]) (H' := [⟨.pointer (some wa0), [(Vi r9.1), (Vi r9.2.1), (Sl Kf r9.2.2.2.2), (Vi r9.2.2.2.1)], 107, none⟩, ⟨.pointer (some q6), [(Vi r9.1), (Vi r9.2.1), (Vl (Vs g9)), (Vi r9.2.2.2.1)], 107, none⟩, (Rw Kf 95 (Vs g9) r9.2.2.1)]) [2, 0, 1] (sub_cons rfl sub_nil) (by decide) (pick_cons rfl (pick_cons rfl (pick_cons rfl pick_nil))) ?_
 exact tx_ret1' Tryz.results48 rfl (q6, g9) (rv_tmp' rfl) (List.Sublist.refl _)

def gogeom_Point_Clone (k : Nat) (a0_0 : Int) (a0_1 : Int) (a0_2 : List Nat) (a0_3 : Int) : Option (Int × Int × (List Nat) × Int × (List Nat)) :=
 (gogeom_deriveClonePoint k a0_0 a0_1 a0_2 a0_3) >>= fun r4 =>
 some (r4.1, r4.2.1, r4.2.2.1, r4.2.2.2.1, r4.2.2.2.2)

theorem gogeom_Point_Clone_sim {k : Nat} {wa0 : Addr} (a0_0 : Int) (a0_1 : Int) (a0_2 : List Nat) (a0_3 : Int) {out : Int × Int × (List Nat) × Int × (List Nat)} (hp : gogeom_Point_Clone k a0_0 a0_1 a0_2 a0_3 = some out) : Sx.Fn Tryz.prog 13 [(Vp wa0)] [⟨.pointer (some wa0), [(Vi a0_0), (Vi a0_1), (Sl Kf a0_2), (Vi a0_3)], 107, none⟩] (fun w : Addr × Gs => (Vp w.1)) (fun w => [⟨.pointer (some wa0), [(Vi out.1), (Vi out.2.1), (Sl Kf out.2.2.1), (Vi out.2.2.2.1)], 107, none⟩, ⟨.pointer (some w.1), [(Vi out.1), (Vi out.2.1), (Vl (Vs w.2)), (Vi out.2.2.2.1)], 107, none⟩, (Rw Kf 95 (Vs w.2) out.2.2.2.2)]) := by
 unfold gogeom_Point_Clone at hp
 refine fn_of Tryz.func13 rfl Tryz.ntmps13 rfl fun E hM => ?_
 refine cr fun K1 hK1 => ?_
 refine s0 (rd_assign' rfl) ?_
 refine nk hK1 ?_
 refine cr fun K2 hK2 => ?_
 refine s0 (rd_move' rfl) ?_
 obtain ⟨r4, hr4, hp⟩ := bind_some hp
 refine sx_ox' (ox_callg' (ent_fn' Tryz.func48 isn48 rfl rfl) (gogeom_deriveClonePoint_sim _ _ _ _ hr4 : Sx.Fn Tryz.prog 48 [(Vp wa0)] [⟨.pointer (some wa0), [(Vi a0_0), (Vi a0_1), (Sl Kf a0_2), (Vi a0_3)], 107, none⟩] (fun x : Addr × Gs => (Vp x.1)) (fun x => [⟨.pointer (some wa0), [(Vi r4.1), (Vi r4.2.1), (Sl Kf r4.2.2.1), (Vi r4.2.2.2.1)], 107, none⟩, ⟨.pointer (some x.1), [(Vi r4.1), (Vi r4.2.1), (Vl (Vs x.2)), (Vi r4.2.2.2.1)], 107, none⟩, (Rw Kf 95 (Vs x.2) r4.2.2.2.2)])) [0] [] (by decide) (pick_cons rfl pick_nil) pick_nil (Hn := fun x : Addr × Gs => [⟨.pointer (some wa0), [(Vi r4.1), (Vi r4.2.1), (Sl Kf r4.2.2.1), (Vi r4.2.2.2.1)], 107, none⟩, ⟨.pointer (some x.1), [(Vi r4.1), (Vi r4.2.1), (Vl (Vs x.2)), (Vi r4.2.2.2.1)], 107, none⟩, (Rw Kf 95 (Vs x.2) r4.2.2.2.2)]) (fun _ => rfl) rfl rfl) (wt_none' rfl) fun ⟨q4, g4⟩ => ?_
 refine s0 (rd_assign' rfl) ?_
 refine nk hK2 ?_
 refine cx_retc' ?_
 replace hp := Option.some.inj hp
 subst hp
 refine tx_pick' (L' := [(2, (Vp q4))]) (H' := [⟨.pointer (some wa0), [(Vi r4.1), (Vi r4.2.1), (Sl Kf r4.2.2.1), (Vi r4.2.2.2.1)], 107, none⟩, ⟨.pointer (some q4), [(Vi r4.1), (Vi r4.2.1), (Vl (Vs g4)), (Vi r4.2.2.2.1)], 107, none⟩, (Rw Kf 95 (Vs g4) r4.2.2.2.2)]) [0, 1, 2] (sub_cons rfl sub_nil) (by decide) (pick_cons rfl (pick_cons rfl (pick_cons rfl pick_nil))) ?_
 exact tx_ret1' Tryz.results13 rfl (q4, g4) (rv_tmp' rfl) (List.Sublist.refl _)

def gogeom_geom0_SRID (k : Nat) (a0_0 : Int) (a0_1 : Int) (a0_2 : List Nat) (a0_3 : Int) : Option (Int × Int × (List Nat) × Int) :=
 some (a0_0, a0_1, a0_2, a0_3)

theorem gogeom_geom0_SRID_sim {k : Nat} {wa0 : Addr} {wa0_2 : Gs} (a0_0 : Int) (a0_1 : Int) (a0_2 : List Nat) (a0_3 : Int) {out : Int × Int × (List Nat) × Int} (hp : gogeom_geom0_SRID k a0_0 a0_1 a0_2 a0_3 = some out) : Sx.Fn Tryz.prog 101 [(Vp wa0)] [⟨.pointer (some wa0), [(Vi a0_0), (Vi a0_1), (Vl (Vs wa0_2)), (Vi a0_3)], 107, none⟩, (Rw Kf 95 (Vs wa0_2) a0_2)] (fun w : Unit => (Vi out.2.2.2)) (fun w => [⟨.pointer (some wa0), [(Vi out.1), (Vi out.2.1), (Vl (Vs wa0_2)), (Vi out.2.2.2)], 107, none⟩, (Rw Kf 95 (Vs wa0_2) out.2.2.1)]) := by
 unfold gogeom_geom0_SRID at hp
 refine fn_of Tryz.func101 rfl Tryz.ntmps101 rfl fun E hM => ?_
 refine cr fun K1 hK1 => ?_
 refine s0 (rd_assign' rfl) ?_
 refine nk hK1 ?_
 refine cr fun K2 hK2 => ?_
 refine s0 (rd_move' rfl) ?_
 refine s0 (rd_nilck' rfl) ?_
 refine s0 (rd_field' (off := 3) rfl Tryz.underlying105 rfl info3 rfl) ?_
 refine s0 (rd_load' (i := 0) (o := 3) rfl ⟨rfl, rfl, rfl, rfl⟩ rfl flat3) ?_
 refine s0 (rd_assign' rfl) ?_
 refine nk hK2 ?_
 refine cx_retc' ?_
 replace hp := Option.some.inj hp
 subst hp
 refine tx_pick' (L' := [(2, (Vi a0_3))]) (H' := [⟨.pointer (some wa0), [(Vi a0_0), (Vi a0_1), (Vl (Vs wa0_2)), (Vi a0_3)], 107, none⟩, (Rw Kf 95 (Vs wa0_2) a0_2)]) [0, 1] (sub_cons rfl sub_nil) (by decide) (pick_cons rfl (pick_cons rfl pick_nil)) ?_
 exact tx_ret1' Tryz.results101 rfl () (rv_tmp' rfl) (List.Sublist.refl _)

def gogeom_geom0_Layout (k : Nat) (a0_0 : Int) (a0_1 : Int) (a0_2 : List Nat) (a0_3 : Int) : Option (Int × Int × (List Nat) × Int) :=
 some (a0_0, a0_1, a0_2, a0_3)

theorem gogeom_geom0_Layout_sim {k : Nat} {wa0 : Addr} {wa0_2 : Gs} (a0_0 : Int) (a0_1 : Int) (a0_2 : List Nat) (a0_3 : Int) {out : Int × Int × (List Nat) × Int} (hp : gogeom_geom0_Layout k a0_0 a0_1 a0_2 a0_3 = some out) : Sx.Fn Tryz.prog 100 [(Vp wa0)] [⟨.pointer (some wa0), [(Vi a0_0), (Vi a0_1), (Vl (Vs wa0_2)), (Vi a0_3)], 107, none⟩, (Rw Kf 95 (Vs wa0_2) a0_2)] (fun w : Unit => (Vi out.1)) (fun w => [⟨.pointer (some wa0), [(Vi out.1), (Vi out.2.1), (Vl (Vs wa0_2)), (Vi out.2.2.2)], 107, none⟩, (Rw Kf 95 (Vs wa0_2) out.2.2.1)]) := by
 unfold gogeom_geom0_Layout at hp
 refine fn_of Tryz.func100 rfl Tryz.ntmps100 rfl fun E hM => ?_
 refine cr fun K1 hK1 => ?_
 refine s0 (rd_assign' rfl) ?_
 refine nk hK1 ?_
 refine cr fun K2 hK2 => ?_
 refine s0 (rd_move' rfl) ?_
 refine s0 (rd_nilck' rfl) ?_
 refine s0 (rd_field0' rfl Tryz.underlying105 rfl info54 rfl) ?_
 refine s0 (rd_load' (i := 0) (o := 0) rfl ⟨rfl, rfl, rfl, rfl⟩ rfl flat54) ?_
 refine s0 (rd_assign' rfl) ?_
 refine nk hK2 ?_
 refine cx_retc' ?_
 replace hp := Option.some.inj hp
 subst hp
 refine tx_pick' (L' := [(2, (Vi a0_0))]) (H' := [⟨.pointer (some wa0), [(Vi a0_0), (Vi a0_1), (Vl (Vs wa0_2)), (Vi a0_3)], 107, none⟩, (Rw Kf 95 (Vs wa0_2) a0_2)]) [0, 1] (sub_cons rfl sub_nil) (by decide) (pick_cons rfl (pick_cons rfl pick_nil)) ?_
 exact tx_ret1' Tryz.results100 rfl () (rv_tmp' rfl) (List.Sublist.refl _)

def gogeom_geom0_FlatCoords (k : Nat) (a0_0 : Int) (a0_1 : Int) (a0_2 : List Nat) (a0_3 : Int) : Option (Int × Int × (List Nat) × Int) :=
 some (a0_0, a0_1, a0_2, a0_3)

theorem gogeom_geom0_FlatCoords_sim {k : Nat} {wa0 : Addr} {wa0_2 : Gs} (a0_0 : Int) (a0_1 : Int) (a0_2 : List Nat) (a0_3 : Int) {out : Int × Int × (List Nat) × Int} (hp : gogeom_geom0_FlatCoords k a0_0 a0_1 a0_2 a0_3 = some out) : Sx.Fn Tryz.prog 99 [(Vp wa0)] [⟨.pointer (some wa0), [(Vi a0_0), (Vi a0_1), (Vl (Vs wa0_2)), (Vi a0_3)], 107, none⟩, (Rw Kf 95 (Vs wa0_2) a0_2)] (fun w : Unit => (Sl Kf out.2.2.1)) (fun w => [⟨.pointer (some wa0), [(Vi out.1), (Vi out.2.1), (Sl Kf out.2.2.1), (Vi out.2.2.2)], 107, none⟩]) := by
 unfold gogeom_geom0_FlatCoords at hp
 refine fn_of Tryz.func99 rfl Tryz.ntmps99 rfl fun E hM => ?_
 refine cr fun K1 hK1 => ?_
 refine s0 (rd_assign' rfl) ?_
 refine nk hK1 ?_
 refine cr fun K2 hK2 => ?_
 refine s0 (rd_move' rfl) ?_
 refine s0 (rd_nilck' rfl) ?_
 refine s0 (rd_field' (off := 2) rfl Tryz.underlying105 rfl info22 rfl) ?_
 refine s0 (rd_load' (i := 0) (o := 2) rfl ⟨rfl, rfl, rfl, rfl⟩ rfl flat22) ?_
 refine s0 (rd_assign' rfl) ?_
 refine nk hK2 ?_
 refine cx_retc' ?_
 replace hp := Option.some.inj hp
 subst hp
 refine tx_fz' (frz_row 1 [(2, (Vl (Vs wa0_2)), (Sl Kf a0_2)), (6, (Vl (Vs wa0_2)), (Sl Kf a0_2))] (K := Kf) (xs := a0_2) (by decide) rfl ⟨⟨rfl, frz_it⟩, ⟨rfl, frz_it⟩, trivial⟩ (H' := [⟨.pointer (some wa0), [(Vi a0_0), (Vi a0_1), (Sl Kf a0_2), (Vi a0_3)], 107, none⟩]) (frzH_cons rfl rfl rfl (frzL_cons frz_same (frzL_cons frz_same (frzL_cons frz_it (frzL_cons frz_same frzL_refl)))) frzH_refl)) ?_
 refine tx_pick' (L' := [(2, (Sl Kf a0_2))]) (H' := [⟨.pointer (some wa0), [(Vi a0_0), (Vi a0_1), (Sl Kf a0_2), (Vi a0_3)], 107, none⟩]) [0] (sub_cons rfl sub_nil) (by decide) (pick_cons rfl pick_nil) ?_
 exact tx_ret1' Tryz.results99 rfl () (rv_tmp' rfl) (List.Sublist.refl _)

def gogeom_geom0_Ends (k : Nat) (a0_0 : Int) (a0_1 : Int) (a0_2 : List Nat) (a0_3 : Int) : Option (Int × Int × (List Nat) × Int) :=
 some (a0_0, a0_1, a0_2, a0_3)

theorem gogeom_geom0_Ends_sim {k : Nat} {wa0 : Addr} (a0_0 : Int) (a0_1 : Int) (a0_2 : List Nat) (a0_3 : Int) {out : Int × Int × (List Nat) × Int} (hp : gogeom_geom0_Ends k a0_0 a0_1 a0_2 a0_3 = some out) : Sx.Fn Tryz.prog 97 [(Vp wa0)] [⟨.pointer (some wa0), [(Vi a0_0), (Vi a0_1), (Sl Kf a0_2), (Vi a0_3)], 107, none⟩] (fun w : Unit => Vn) (fun w => [⟨.pointer (some wa0), [(Vi out.1), (Vi out.2.1), (Sl Kf out.2.2.1), (Vi out.2.2.2)], 107, none⟩]) := by
 unfold gogeom_geom0_Ends at hp
 refine fn_of Tryz.func97 rfl Tryz.ntmps97 rfl fun E hM => ?_
 refine cr fun K1 hK1 => ?_
 refine s0 (rd_assign' rfl) ?_
 refine nk hK1 ?_
 refine cr fun K2 hK2 => ?_
 refine s0 (rd_assign' rfl) ?_
 refine nk hK2 ?_
 refine cx_retc' ?_
 replace hp := Option.some.inj hp
 subst hp
 refine tx_pick' (L' := [(2, Vn)]) (H' := [⟨.pointer (some wa0), [(Vi a0_0), (Vi a0_1), (Sl Kf a0_2), (Vi a0_3)], 107, none⟩]) [0] (sub_cons rfl sub_nil) (by decide) (pick_cons rfl pick_nil) ?_
 exact tx_ret1' Tryz.results97 rfl () (rv_tmp' rfl) (List.Sublist.refl _)

def impl_ints_v2 (k : Nat)  : Option ((List Int)) :=
 (apd 8 [] []) >>= fun r4 =>
 some r4

theorem impl_ints_v2_sim {k : Nat}   {out : (List Int)} (hp : impl_ints_v2 k = some out) : Sx.Fn Tryz.prog 32 [Vn] [] (fun w : Unit => (Sl (Ki .i64) out)) (fun w => []) := by
 unfold impl_ints_v2 at hp
 refine fn_of Tryz.func32 rfl Tryz.ntmps32 rfl fun E hM => ?_
 refine cr fun K1 hK1 => ?_
 refine s0 (rd_assign' rfl) ?_
 refine nk hK1 ?_
 refine cr fun K2 hK2 => ?_
 refine s0 (rd_move' rfl) ?_
 refine tx_nilrow' (Ki .i64) 3 ?_
 obtain ⟨r4, hr4, hp⟩ := bind_some hp
 refine sx_ox' (ox_append' (K := (Ki .i64)) (i := 0) (xs := []) (ys := []) rfl rfl rfl (sr_nil' rfl Tryz.underlying23) hr4 Tryz.underlying23 info3 rfl rfl rfl (H' := []) rfl) (wt_none' rfl) fun g4 => ?_
 refine s0 (rd_assign' rfl) ?_
 refine nk hK2 ?_
 refine cx_retc' ?_
 replace hp := Option.some.inj hp
 subst hp
 refine tx_fz' (frz_row 0 [(2, (Vl (Vs g4)), (Sl (Ki .i64) r4)), (4, (Vl (Vs g4)), (Sl (Ki .i64) r4))] (K := (Ki .i64)) (xs := r4) (by decide) rfl ⟨⟨rfl, frz_it⟩, ⟨rfl, frz_it⟩, trivial⟩ (H' := []) frzH_refl) ?_
 refine tx_pick' (L' := [(2, (Sl (Ki .i64) r4))]) (H' := []) [] (sub_cons rfl sub_nil) (by decide) pick_nil ?_
 exact tx_ret1' Tryz.results32 rfl () (rv_tmp' rfl) (List.Sublist.refl _)

def gogeom_geom0_Endss (k : Nat) (a0_0 : Int) (a0_1 : Int) (a0_2 : List Nat) (a0_3 : Int) : Option (Int × Int × (List Nat) × Int) :=
 some (a0_0, a0_1, a0_2, a0_3)

theorem gogeom_geom0_Endss_sim {k : Nat} {wa0 : Addr} (a0_0 : Int) (a0_1 : Int) (a0_2 : List Nat) (a0_3 : Int) {out : Int × Int × (List Nat) × Int} (hp : gogeom_geom0_Endss k a0_0 a0_1 a0_2 a0_3 = some out) : Sx.Fn Tryz.prog 98 [(Vp wa0)] [⟨.pointer (some wa0), [(Vi a0_0), (Vi a0_1), (Sl Kf a0_2), (Vi a0_3)], 107, none⟩] (fun w : Unit => Vn) (fun w => [⟨.pointer (some wa0), [(Vi out.1), (Vi out.2.1), (Sl Kf out.2.2.1), (Vi out.2.2.2)], 107, none⟩]) := by
 unfold gogeom_geom0_Endss at hp
 refine fn_of Tryz.func98 rfl Tryz.ntmps98 rfl fun E hM => ?_
 refine cr fun K1 hK1 => ?_
 refine s0 (rd_assign' rfl) ?_
 refine nk hK1 ?_
 refine cr fun K2 hK2 => ?_
 refine s0 (rd_assign' rfl) ?_
 refine nk hK2 ?_
 refine cx_retc' ?_
 replace hp := Option.some.inj hp
 subst hp
 refine tx_pick' (L' := [(2, Vn)]) (H' := [⟨.pointer (some wa0), [(Vi a0_0), (Vi a0_1), (Sl Kf a0_2), (Vi a0_3)], 107, none⟩]) [0] (sub_cons rfl sub_nil) (by decide) (pick_cons rfl pick_nil) ?_
 exact tx_ret1' Tryz.results98 rfl () (rv_tmp' rfl) (List.Sublist.refl _)

def impl_intss_v2 (k : Nat)  : Option (Unit) :=
 some ()

theorem impl_intss_v2_sim {k : Nat}   {out : Unit} (hp : impl_intss_v2 k = some out) : Sx.Fn Tryz.prog 40 [Vn] [] (fun w : Unit => Vn) (fun w => []) := by
 unfold impl_intss_v2 at hp
 refine fn_of Tryz.func40 rfl Tryz.ntmps40 rfl fun E hM => ?_
 refine cr fun K1 hK1 => ?_
 refine s0 (rd_assign' rfl) ?_
 refine nk hK1 ?_
 refine cr fun K2 hK2 => ?_
 refine s0 (rd_assign' rfl) ?_
 refine nk hK2 ?_
 refine cx_seq' fun K3 hK3 => ?_
 refine cr fun K4 hK4 => ?_
 refine s0 (rd_move' rfl) ?_
 refine s0 (rd_lenv' rfl Tryz.underlying24) ?_
 refine s0 (rd_move' rfl) ?_
 refine nk hK4 ?_
 refine cx_block' ?_
 refine tx_loop' ?_
 refine tx_round' ?_
 refine cr fun K5 hK5 => ?_
 refine s0 (rd_bin' rfl rfl eg_int ru_lss) ?_
 refine nk hK5 ?_
 refine cx_seq' fun K6 hK6 => ?_
 refine cx_cond_f' rfl rfl ?_
 refine cx_exit' ?_
 show TX E K3 _
 refine tx_k' hK3 ?_
 refine cr fun K7 hK7 => ?_
 refine s0 (rd_move' rfl) ?_
 refine s0 (rd_assign' rfl) ?_
 refine nk hK7 ?_
 refine cx_retc' ?_
 replace hp := Option.some.inj hp
 subst hp
 refine tx_pick' (L' := [(2, Vn)]) (H' := []) [] (sub_cons rfl sub_nil) (by decide) pick_nil ?_
 exact tx_ret1' Tryz.results40 rfl () (rv_tmp' rfl) (List.Sublist.refl _)

def impl_plain (k : Nat) (a0_0 : Int) (a0_1 : Int) (a0_2 : List Nat) (a0_3 : Int) : Option (Int × Int × (List Nat) × Int × Int × Int × Int × (List Nat) × (List Int)) :=
 (gogeom_geom0_SRID k a0_0 a0_1 a0_2 a0_3) >>= fun r15 =>
 (gogeom_geom0_Layout k r15.1 r15.2.1 r15.2.2.1 r15.2.2.2) >>= fun r70 =>
 (gogeom_geom0_FlatCoords k r70.1 r70.2.1 r70.2.2.1 r70.2.2.2) >>= fun r72 =>
 (impl_floats k r72.2.2.1) >>= fun r73 =>
 (gogeom_geom0_Ends k r72.1 r72.2.1 r72.2.2.1 r72.2.2.2) >>= fun r75 =>
 (impl_ints_v2 k) >>= fun r76 =>
 (gogeom_geom0_Endss k r75.1 r75.2.1 r75.2.2.1 r75.2.2.2) >>= fun r78 =>
 (impl_intss_v2 k) >>= fun r79 =>
 some (r78.1, r78.2.1, r78.2.2.1, r78.2.2.2, 1, r70.1, r15.2.2.2, r73, r76)

theorem impl_plain_sim {k : Nat} {wa0 : Addr} {wa0_2 : Gs} (a0_0 : Int) (a0_1 : Int) (a0_2 : List Nat) (a0_3 : Int) {out : Int × Int × (List Nat) × Int × Int × Int × Int × (List Nat) × (List Int)} (hp : impl_plain k a0_0 a0_1 a0_2 a0_3 = some out) : Sx.Fn Tryz.prog 12 [(If 37 (Vp wa0))] [⟨.pointer (some wa0), [(Vi a0_0), (Vi a0_1), (Vl (Vs wa0_2)), (Vi a0_3)], 107, none⟩, (Rw Kf 95 (Vs wa0_2) a0_2)] (fun w : Unit => (Ag [(Vi out.2.2.2.2.1), (Vi out.2.2.2.2.2.1), (Vi out.2.2.2.2.2.2.1), (Sl Kf out.2.2.2.2.2.2.2.1), (Sl (Ki .i64) out.2.2.2.2.2.2.2.2), Vn, Vn])) (fun w => [⟨.pointer (some wa0), [(Vi out.1), (Vi out.2.1), (Sl Kf out.2.2.1), (Vi out.2.2.2.1)], 107, none⟩]) := by
 unfold impl_plain at hp
 refine fn_of Tryz.func12 rfl Tryz.ntmps12 rfl fun E hM => ?_
 refine cr fun K1 hK1 => ?_
 refine sx_ox' (ox_alloc' info27 rfl rfl rfl rfl (l := [(Vi 0), (Vi 0), (Vi 0), Vn, Vn, Vn, Vn]) rfl) (wt_none' rfl) fun q2 => ?_
 refine nk hK1 ?_
 refine cr fun K2 hK2 => ?_
 refine s0 (rd_move' rfl) ?_
 obtain ⟨r15, hr15, hp⟩ := bind_some hp
 refine sx_ox' (ox_callg' (ent_inv' rfl rfl (inv_ptr0 (inv37_SRID _))) (gogeom_geom0_SRID_sim _ _ _ _ hr15 : Sx.Fn Tryz.prog 101 [(Vp wa0)] [⟨.pointer (some wa0), [(Vi a0_0), (Vi a0_1), (Vl (Vs wa0_2)), (Vi a0_3)], 107, none⟩, (Rw Kf 95 (Vs wa0_2) a0_2)] (fun x : Unit => (Vi r15.2.2.2)) (fun x => [⟨.pointer (some wa0), [(Vi r15.1), (Vi r15.2.1), (Vl (Vs wa0_2)), (Vi r15.2.2.2)], 107, none⟩, (Rw Kf 95 (Vs wa0_2) r15.2.2.1)])) [1, 2] [0] (by decide) (pick_cons rfl (pick_cons rfl pick_nil)) (pick_cons rfl pick_nil) (Hn := fun x : Unit => [⟨.pointer (some wa0), [(Vi r15.1), (Vi r15.2.1), (Vl (Vs wa0_2)), (Vi r15.2.2.2)], 107, none⟩, (Rw Kf 95 (Vs wa0_2) r15.2.2.1), ⟨.pointer (some q2), [(Vi 0), (Vi 0), (Vi 0), Vn, Vn, Vn, Vn], 27, none⟩]) (fun _ => rfl) rfl rfl) (wt_none' rfl) fun ⟨⟩ => ?_
 refine s0 (rd_build' (pls := [(0, 1), (1, 1), (2, 1), (3, 1), (4, 1), (5, 1), (6, 1)]) (qs := [(2, [(Vi r15.2.2.2)])]) (r := [(Vi 0), (Vi 0), (Vi r15.2.2.2), Vn, Vn, Vn, Vn]) ⟨rfl, ⟨_, rfl, (lv_vl rfl rfl)⟩, trivial⟩ Tryz.underlying27 has27 places27 info27 rfl rfl rfl) ?_
 refine sx_ox' (ox_alloc' info27 rfl rfl rfl rfl (l := [(Vi 0), (Vi 0), (Vi 0), Vn, Vn, Vn, Vn]) rfl) (wt_none' rfl) fun q3 => ?_
 refine sx_ox' (ox_store' (i := 0) (o := 0) rfl rfl (lv_ag _) ⟨rfl, rfl, rfl, rfl⟩ rfl info27 rfl (H' := [⟨.pointer (some q3), [(Vi 0), (Vi 0), (Vi r15.2.2.2), Vn, Vn, Vn, Vn], 27, none⟩, ⟨.pointer (some wa0), [(Vi r15.1), (Vi r15.2.1), (Vl (Vs wa0_2)), (Vi r15.2.2.2)], 107, none⟩, (Rw Kf 95 (Vs wa0_2) r15.2.2.1), ⟨.pointer (some q2), [(Vi 0), (Vi 0), (Vi 0), Vn, Vn, Vn, Vn], 27, none⟩]) rfl) (wt_none' rfl) fun _ => ?_
 refine nk hK2 ?_
 refine cx_seq' fun K3 hK3 => ?_
 refine cr fun K4 hK4 => ?_
 refine s0 (rd_move' rfl) ?_
 refine nk hK4 ?_
 refine cx_block' ?_
 refine cr fun K5 hK5 => ?_
 refine s0 (rd_assert' rfl (F := fun v => .tuple #[v, .bool true]) as37_35_37k as_ok) ?_
 refine s0 (rd_extract' rfl rfl) ?_
 refine s0 (rd_extract' rfl rfl) ?_
 refine nk hK5 ?_
 refine cx_cond_t' rfl rfl ?_
 refine cr fun K6 hK6 => ?_
 refine s0 (rd_assign' rfl) ?_
 refine nk hK6 ?_
 refine cx_region' ?_
 refine s0 (rd_field0' rfl Tryz.underlying27 rfl info3 rfl) ?_
 refine sx_ox' (ox_store' (i := 0) (o := 0) rfl rfl (lv_vl rfl rfl) ⟨rfl, rfl, rfl, rfl⟩ rfl info3 rfl (H' := [⟨.pointer (some q3), [(Vi 1), (Vi 0), (Vi r15.2.2.2), Vn, Vn, Vn, Vn], 27, none⟩, ⟨.pointer (some wa0), [(Vi r15.1), (Vi r15.2.1), (Vl (Vs wa0_2)), (Vi r15.2.2.2)], 107, none⟩, (Rw Kf 95 (Vs wa0_2) r15.2.2.1), ⟨.pointer (some q2), [(Vi 0), (Vi 0), (Vi 0), Vn, Vn, Vn, Vn], 27, none⟩]) rfl) (wt_none' rfl) fun _ => ?_
 refine nk hK3 ?_
 refine cr fun K7 hK7 => ?_
 refine s0 (rd_move' rfl) ?_
 obtain ⟨r70, hr70, hp⟩ := bind_some hp
 refine sx_ox' (ox_callg' (ent_inv' rfl rfl (inv_ptr0 (inv37_Layout _))) (gogeom_geom0_Layout_sim _ _ _ _ hr70 : Sx.Fn Tryz.prog 100 [(Vp wa0)] [⟨.pointer (some wa0), [(Vi r15.1), (Vi r15.2.1), (Vl (Vs wa0_2)), (Vi r15.2.2.2)], 107, none⟩, (Rw Kf 95 (Vs wa0_2) r15.2.2.1)] (fun x : Unit => (Vi r70.1)) (fun x => [⟨.pointer (some wa0), [(Vi r70.1), (Vi r70.2.1), (Vl (Vs wa0_2)), (Vi r70.2.2.2)], 107, none⟩, (Rw Kf 95 (Vs wa0_2) r70.2.2.1)])) [1, 2] [0, 3] (by decide) (pick_cons rfl (pick_cons rfl pick_nil)) (pick_cons rfl (pick_cons rfl pick_nil)) (Hn := fun x : Unit => [⟨.pointer (some wa0), [(Vi r70.1), (Vi r70.2.1), (Vl (Vs wa0_2)), (Vi r70.2.2.2)], 107, none⟩, (Rw Kf 95 (Vs wa0_2) r70.2.2.1), ⟨.pointer (some q3), [(Vi 1), (Vi 0), (Vi r15.2.2.2), Vn, Vn, Vn, Vn], 27, none⟩, ⟨.pointer (some q2), [(Vi 0), (Vi 0), (Vi 0), Vn, Vn, Vn, Vn], 27, none⟩]) (fun _ => rfl) rfl rfl) (wt_none' rfl) fun ⟨⟩ => ?_
 refine s0 (rd_move' rfl) ?_
 obtain ⟨r72, hr72, hp⟩ := bind_some hp
 refine sx_ox' (ox_callg' (ent_inv' rfl rfl (inv_ptr0 (inv37_FlatCoords _))) (gogeom_geom0_FlatCoords_sim _ _ _ _ hr72 : Sx.Fn Tryz.prog 99 [(Vp wa0)] [⟨.pointer (some wa0), [(Vi r70.1), (Vi r70.2.1), (Vl (Vs wa0_2)), (Vi r70.2.2.2)], 107, none⟩, (Rw Kf 95 (Vs wa0_2) r70.2.2.1)] (fun x : Unit => (Sl Kf r72.2.2.1)) (fun x => [⟨.pointer (some wa0), [(Vi r72.1), (Vi r72.2.1), (Sl Kf r72.2.2.1), (Vi r72.2.2.2)], 107, none⟩])) [0, 1] [2, 3] (by decide) (pick_cons rfl (pick_cons rfl pick_nil)) (pick_cons rfl (pick_cons rfl pick_nil)) (Hn := fun x : Unit => [⟨.pointer (some wa0), [(Vi r72.1), (Vi r72.2.1), (Sl Kf r72.2.2.1), (Vi r72.2.2.2)], 107, none⟩, ⟨.pointer (some q3), [(Vi 1), (Vi 0), (Vi r15.2.2.2), Vn, Vn, Vn, Vn], 27, none⟩, ⟨.pointer (some q2), [(Vi 0), (Vi 0), (Vi 0), Vn, Vn, Vn, Vn], 27, none⟩]) (fun _ => rfl) rfl rfl) (wt_none' rfl) fun ⟨⟩ => ?_
 obtain ⟨r73, hr73, hp⟩ := bind_some hp
 refine sx_ox' (ox_calln' (ent_fn' Tryz.func24 isn24 rfl rfl) (impl_floats_sim _ hr73 : Sx.Fn Tryz.prog 24 [(Sl Kf r72.2.2.1)] [] (fun x : Unit => (Sl Kf r73)) (fun x => [])) (Hn := fun x : Unit => [⟨.pointer (some wa0), [(Vi r72.1), (Vi r72.2.1), (Sl Kf r72.2.2.1), (Vi r72.2.2.2)], 107, none⟩, ⟨.pointer (some q3), [(Vi 1), (Vi 0), (Vi r15.2.2.2), Vn, Vn, Vn, Vn], 27, none⟩, ⟨.pointer (some q2), [(Vi 0), (Vi 0), (Vi 0), Vn, Vn, Vn, Vn], 27, none⟩]) (fun _ => rfl) rfl rfl) (wt_none' rfl) fun ⟨⟩ => ?_
 refine s0 (rd_move' rfl) ?_
 obtain ⟨r75, hr75, hp⟩ := bind_some hp
 refine sx_ox' (ox_callg' (ent_inv' rfl rfl (inv_ptr0 (inv37_Ends _))) (gogeom_geom0_Ends_sim _ _ _ _ hr75 : Sx.Fn Tryz.prog 97 [(Vp wa0)] [⟨.pointer (some wa0), [(Vi r72.1), (Vi r72.2.1), (Sl Kf r72.2.2.1), (Vi r72.2.2.2)], 107, none⟩] (fun x : Unit => Vn) (fun x => [⟨.pointer (some wa0), [(Vi r75.1), (Vi r75.2.1), (Sl Kf r75.2.2.1), (Vi r75.2.2.2)], 107, none⟩])) [0] [1, 2] (by decide) (pick_cons rfl pick_nil) (pick_cons rfl (pick_cons rfl pick_nil)) (Hn := fun x : Unit => [⟨.pointer (some wa0), [(Vi r75.1), (Vi r75.2.1), (Sl Kf r75.2.2.1), (Vi r75.2.2.2)], 107, none⟩, ⟨.pointer (some q3), [(Vi 1), (Vi 0), (Vi r15.2.2.2), Vn, Vn, Vn, Vn], 27, none⟩, ⟨.pointer (some q2), [(Vi 0), (Vi 0), (Vi 0), Vn, Vn, Vn, Vn], 27, none⟩]) (fun _ => rfl) rfl rfl) (wt_none' rfl) fun ⟨⟩ => ?_
 obtain ⟨r76, hr76, hp⟩ := bind_some hp
 refine sx_ox' (ox_calln' (ent_fn' Tryz.func32 isn32 rfl rfl) (impl_ints_v2_sim hr76 : Sx.Fn Tryz.prog 32 [Vn] [] (fun x : Unit => (Sl (Ki .i64) r76)) (fun x => [])) (Hn := fun x : Unit => [⟨.pointer (some wa0), [(Vi r75.1), (Vi r75.2.1), (Sl Kf r75.2.2.1), (Vi r75.2.2.2)], 107, none⟩, ⟨.pointer (some q3), [(Vi 1), (Vi 0), (Vi r15.2.2.2), Vn, Vn, Vn, Vn], 27, none⟩, ⟨.pointer (some q2), [(Vi 0), (Vi 0), (Vi 0), Vn, Vn, Vn, Vn], 27, none⟩]) (fun _ => rfl) rfl rfl) (wt_none' rfl) fun ⟨⟩ => ?_
 refine s0 (rd_move' rfl) ?_
 obtain ⟨r78, hr78, hp⟩ := bind_some hp
 refine sx_ox' (ox_callg' (ent_inv' rfl rfl (inv_ptr0 (inv37_Endss _))) (gogeom_geom0_Endss_sim _ _ _ _ hr78 : Sx.Fn Tryz.prog 98 [(Vp wa0)] [⟨.pointer (some wa0), [(Vi r75.1), (Vi r75.2.1), (Sl Kf r75.2.2.1), (Vi r75.2.2.2)], 107, none⟩] (fun x : Unit => Vn) (fun x => [⟨.pointer (some wa0), [(Vi r78.1), (Vi r78.2.1), (Sl Kf r78.2.2.1), (Vi r78.2.2.2)], 107, none⟩])) [0] [1, 2] (by decide) (pick_cons rfl pick_nil) (pick_cons rfl (pick_cons rfl pick_nil)) (Hn := fun x : Unit => [⟨.pointer (some wa0), [(Vi r78.1), (Vi r78.2.1), (Sl Kf r78.2.2.1), (Vi r78.2.2.2)], 107, none⟩, ⟨.pointer (some q3), [(Vi 1), (Vi 0), (Vi r15.2.2.2), Vn, Vn, Vn, Vn], 27, none⟩, ⟨.pointer (some q2), [(Vi 0), (Vi 0), (Vi 0), Vn, Vn, Vn, Vn], 27, none⟩]) (fun _ => rfl) rfl rfl) (wt_none' rfl) fun ⟨⟩ => ?_
 obtain ⟨r79, hr79, hp⟩ := bind_some hp
 refine sx_ox' (ox_calln' (ent_fn' Tryz.func40 isn40 rfl rfl) (impl_intss_v2_sim hr79 : Sx.Fn Tryz.prog 40 [Vn] [] (fun x : Unit => Vn) (fun x => [])) (Hn := fun x : Unit => [⟨.pointer (some wa0), [(Vi r78.1), (Vi r78.2.1), (Sl Kf r78.2.2.1), (Vi r78.2.2.2)], 107, none⟩, ⟨.pointer (some q3), [(Vi 1), (Vi 0), (Vi r15.2.2.2), Vn, Vn, Vn, Vn], 27, none⟩, ⟨.pointer (some q2), [(Vi 0), (Vi 0), (Vi 0), Vn, Vn, Vn, Vn], 27, none⟩]) (fun _ => rfl) rfl rfl) (wt_none' rfl) fun ⟨⟩ => ?_
 refine s0 (rd_field' (off := 1) rfl Tryz.underlying27 rfl info3 rfl) ?_
 refine sx_ox' (ox_store' (i := 1) (o := 1) rfl rfl (lv_vl rfl rfl) ⟨rfl, rfl, rfl, rfl⟩ rfl info3 rfl (H' := [⟨.pointer (some wa0), [(Vi r78.1), (Vi r78.2.1), (Sl Kf r78.2.2.1), (Vi r78.2.2.2)], 107, none⟩, ⟨.pointer (some q3), [(Vi 1), (Vi r70.1), (Vi r15.2.2.2), Vn, Vn, Vn, Vn], 27, none⟩, ⟨.pointer (some q2), [(Vi 0), (Vi 0), (Vi 0), Vn, Vn, Vn, Vn], 27, none⟩]) rfl) (wt_none' rfl) fun _ => ?_
 refine s0 (rd_field' (off := 3) rfl Tryz.underlying27 rfl info22 rfl) ?_
 refine sx_ox' (ox_store' (i := 1) (o := 3) rfl rfl (lv_sl _ _) ⟨rfl, rfl, rfl, rfl⟩ rfl info22 rfl (H' := [⟨.pointer (some wa0), [(Vi r78.1), (Vi r78.2.1), (Sl Kf r78.2.2.1), (Vi r78.2.2.2)], 107, none⟩, ⟨.pointer (some q3), [(Vi 1), (Vi r70.1), (Vi r15.2.2.2), (Sl Kf r73), Vn, Vn, Vn], 27, none⟩, ⟨.pointer (some q2), [(Vi 0), (Vi 0), (Vi 0), Vn, Vn, Vn, Vn], 27, none⟩]) rfl) (wt_none' rfl) fun _ => ?_
 refine s0 (rd_field' (off := 4) rfl Tryz.underlying27 rfl info23 rfl) ?_
 refine sx_ox' (ox_store' (i := 1) (o := 4) rfl rfl (lv_sl _ _) ⟨rfl, rfl, rfl, rfl⟩ rfl info23 rfl (H' := [⟨.pointer (some wa0), [(Vi r78.1), (Vi r78.2.1), (Sl Kf r78.2.2.1), (Vi r78.2.2.2)], 107, none⟩, ⟨.pointer (some q3), [(Vi 1), (Vi r70.1), (Vi r15.2.2.2), (Sl Kf r73), (Sl (Ki .i64) r76), Vn, Vn], 27, none⟩, ⟨.pointer (some q2), [(Vi 0), (Vi 0), (Vi 0), Vn, Vn, Vn, Vn], 27, none⟩]) rfl) (wt_none' rfl) fun _ => ?_
 refine s0 (rd_field' (off := 5) rfl Tryz.underlying27 rfl info24 rfl) ?_
 refine sx_ox' (ox_store' (i := 1) (o := 5) rfl rfl (lv_vl rfl rfl) ⟨rfl, rfl, rfl, rfl⟩ rfl info24 rfl (H' := [⟨.pointer (some wa0), [(Vi r78.1), (Vi r78.2.1), (Sl Kf r78.2.2.1), (Vi r78.2.2.2)], 107, none⟩, ⟨.pointer (some q3), [(Vi 1), (Vi r70.1), (Vi r15.2.2.2), (Sl Kf r73), (Sl (Ki .i64) r76), Vn, Vn], 27, none⟩, ⟨.pointer (some q2), [(Vi 0), (Vi 0), (Vi 0), Vn, Vn, Vn, Vn], 27, none⟩]) rfl) (wt_none' rfl) fun _ => ?_
 refine nk hK7 ?_
 refine cr fun K8 hK8 => ?_
 refine s0 (rd_load_agg' (i := 1) (o := 0) (nn := 7) rfl ⟨rfl, rfl, rfl, rfl⟩ rfl agg27 (l' := [(Vi 1), (Vi r70.1), (Vi r15.2.2.2), (Sl Kf r73), (Sl (Ki .i64) r76), Vn, Vn]) rfl) ?_
 refine sx_ox' (ox_store' (i := 2) (o := 0) rfl rfl (lv_ag _) ⟨rfl, rfl, rfl, rfl⟩ rfl info27 rfl (H' := [⟨.pointer (some wa0), [(Vi r78.1), (Vi r78.2.1), (Sl Kf r78.2.2.1), (Vi r78.2.2.2)], 107, none⟩, ⟨.pointer (some q3), [(Vi 1), (Vi r70.1), (Vi r15.2.2.2), (Sl Kf r73), (Sl (Ki .i64) r76), Vn, Vn], 27, none⟩, ⟨.pointer (some q2), [(Vi 1), (Vi r70.1), (Vi r15.2.2.2), (Sl Kf r73), (Sl (Ki .i64) r76), Vn, Vn], 27, none⟩]) rfl) (wt_none' rfl) fun _ => ?_
 refine nk hK8 ?_
 refine cx_retc' ?_
 replace hp := Option.some.inj hp
 subst hp
 refine tx_pick' (L' := [(2, (Vp q2))]) (H' := [⟨.pointer (some wa0), [(Vi r78.1), (Vi r78.2.1), (Sl Kf r78.2.2.1), (Vi r78.2.2.2)], 107, none⟩, ⟨.pointer (some q2), [(Vi 1), (Vi r70.1), (Vi r15.2.2.2), (Sl Kf r73), (Sl (Ki .i64) r76), Vn, Vn], 27, none⟩]) [0, 2] (sub_cons rfl sub_nil) (by decide) (pick_cons rfl (pick_cons rfl pick_nil)) ?_
 exact tx_ret1' Tryz.results12 rfl () (rv_cell_agg' (i := 1) (o := 0) (nn := 7) rfl ⟨rfl, rfl, rfl, rfl⟩ rfl agg27 rfl) (List.Sublist.cons_cons _ (List.nil_sublist _))

def gogeom_deriveDeepCopy_11_v2_j1 (k : Nat) (a1_0 : Int) (a1_1 : Int) (a1_3 : Int) (a1_2 : List Nat) (x1 : List Nat) : Option (Int × Int × (List Nat) × Int × (List Nat)) :=
 some (a1_0, a1_1, x1, a1_3, a1_2)
def gogeom_deriveDeepCopy_11_v2 (k : Nat) (a0_0 : Int) (a0_1 : Int) (a0_3 : Int) (a1_0 : Int) (a1_1 : Int) (a1_2 : List Nat) (a1_3 : Int) : Option (Int × Int × (List Nat) × Int × (List Nat)) :=
 (mk 8 0 (a1_2.length : Int) (a1_2.length : Int)) >>= fun r105 =>
 gogeom_deriveDeepCopy_11_v2_j1 k a1_0 a1_1 a1_3 a1_2 (cpy r105 a1_2)

theorem gogeom_deriveDeepCopy_11_v2_sim {k : Nat} {wa0 : Addr} {wa1 : Addr} (a0_0 : Int) (a0_1 : Int) (a0_3 : Int) (a1_0 : Int) (a1_1 : Int) (a1_2 : List Nat) (a1_3 : Int) {out : Int × Int × (List Nat) × Int × (List Nat)} (hp : gogeom_deriveDeepCopy_11_v2 k a0_0 a0_1 a0_3 a1_0 a1_1 a1_2 a1_3 = some out) : Sx.Fn Tryz.prog 74 [(Vp wa0), (Vp wa1)] [⟨.pointer (some wa0), [(Vi a0_0), (Vi a0_1), Vn, (Vi a0_3)], 105, none⟩, ⟨.pointer (some wa1), [(Vi a1_0), (Vi a1_1), (Sl Kf a1_2), (Vi a1_3)], 110, none⟩] (fun w : Gs => (Vl (.tuple #[]))) (fun w => [⟨.pointer (some wa0), [(Vi out.1), (Vi out.2.1), (Vl (Vs w)), (Vi out.2.2.2.1)], 105, none⟩, (Rw Kf 95 (Vs w) out.2.2.1), ⟨.pointer (some wa1), [(Vi out.1), (Vi out.2.1), (Sl Kf out.2.2.2.2), (Vi out.2.2.2.1)], 110, none⟩]) := by
 unfold gogeom_deriveDeepCopy_11_v2 at hp
 refine fn_of Tryz.func74 rfl Tryz.ntmps74 rfl fun E hM => ?_
 refine cr fun K1 hK1 => ?_
 refine s0 (rd_move' rfl) ?_
 refine s0 (rd_move' rfl) ?_
 refine s0 (rd_nilck' rfl) ?_
 refine s0 (rd_field0' rfl Tryz.underlying105 rfl info54 rfl) ?_
 refine s0 (rd_load' (i := 1) (o := 0) rfl ⟨rfl, rfl, rfl, rfl⟩ rfl flat54) ?_
 refine s0 (rd_nilck' rfl) ?_
 refine s0 (rd_field0' rfl Tryz.underlying105 rfl info54 rfl) ?_
 refine sx_ox' (ox_store' (i := 0) (o := 0) rfl rfl (lv_vl rfl rfl) ⟨rfl, rfl, rfl, rfl⟩ rfl info54 rfl (H' := [⟨.pointer (some wa0), [(Vi a1_0), (Vi a0_1), Vn, (Vi a0_3)], 105, none⟩, ⟨.pointer (some wa1), [(Vi a1_0), (Vi a1_1), (Sl Kf a1_2), (Vi a1_3)], 110, none⟩]) rfl) (wt_none' rfl) fun _ => ?_
 refine nk hK1 ?_
 refine cr fun K2 hK2 => ?_
 refine s0 (rd_move' rfl) ?_
 refine s0 (rd_move' rfl) ?_
 refine s0 (rd_nilck' rfl) ?_
 refine s0 (rd_field' (off := 1) rfl Tryz.underlying105 rfl info3 rfl) ?_
 refine s0 (rd_load' (i := 1) (o := 1) rfl ⟨rfl, rfl, rfl, rfl⟩ rfl flat3) ?_
 refine s0 (rd_nilck' rfl) ?_
 refine s0 (rd_field' (off := 1) rfl Tryz.underlying105 rfl info3 rfl) ?_
 refine sx_ox' (ox_store' (i := 0) (o := 1) rfl rfl (lv_vl rfl rfl) ⟨rfl, rfl, rfl, rfl⟩ rfl info3 rfl (H' := [⟨.pointer (some wa0), [(Vi a1_0), (Vi a1_1), Vn, (Vi a0_3)], 105, none⟩, ⟨.pointer (some wa1), [(Vi a1_0), (Vi a1_1), (Sl Kf a1_2), (Vi a1_3)], 110, none⟩]) rfl) (wt_none' rfl) fun _ => ?_
 refine nk hK2 ?_
 refine cx_join' (fun (v1 : (List Nat) × Gs) => (⟨124, [], [(0, (Vp wa0)), (1, (Vp wa1))], [⟨.pointer (some wa0), [(Vi a1_0), (Vi a1_1), (Vl (Vs v1.2)), (Vi a0_3)], 105, none⟩, (Rw Kf 95 (Vs v1.2) v1.1), ⟨.pointer (some wa1), [(Vi a1_0), (Vi a1_1), (Sl Kf a1_2), (Vi a1_3)], 110, none⟩]⟩ : St)) (fun (v1 : (List Nat) × Gs) => gogeom_deriveDeepCopy_11_v2_j1 k a1_0 a1_1 a1_3 a1_2 v1.1 = some out) ?_ ?_
 ·rintro ⟨x1, g901⟩ hp
  replace hp : gogeom_deriveDeepCopy_11_v2_j1 k a1_0 a1_1 a1_3 a1_2 x1 = some out := hp
  unfold gogeom_deriveDeepCopy_11_v2_j1 at hp
  refine cx_region' ?_
  refine s0 (rd_move' rfl) ?_
  refine s0 (rd_move' rfl) ?_
  refine s0 (rd_nilck' rfl) ?_
  refine s0 (rd_field' (off := 3) rfl Tryz.underlying105 rfl info3 rfl) ?_
  refine s0 (rd_load' (i := 2) (o := 3) rfl ⟨rfl, rfl, rfl, rfl⟩ rfl flat3) ?_
  refine s0 (rd_nilck' rfl) ?_
  refine s0 (rd_field' (off := 3) rfl Tryz.underlying105 rfl info3 rfl) ?_
  refine sx_ox' (ox_store' (i := 0) (o := 3) rfl rfl (lv_vl rfl rfl) ⟨rfl, rfl, rfl, rfl⟩ rfl info3 rfl (H' := [⟨.pointer (some wa0), [(Vi a1_0), (Vi a1_1), (Vl (Vs g901)), (Vi a1_3)], 105, none⟩, (Rw Kf 95 (Vs g901) x1), ⟨.pointer (some wa1), [(Vi a1_0), (Vi a1_1), (Sl Kf a1_2), (Vi a1_3)], 110, none⟩]) rfl) (wt_none' rfl) fun _ => ?_
  refine sx_nil' ?_
  replace hp := Option.some.inj hp
  subst hp
  refine tx_pick' (L' := []) (H' := [⟨.pointer (some wa0), [(Vi a1_0), (Vi a1_1), (Vl (Vs g901)), (Vi a1_3)], 105, none⟩, (Rw Kf 95 (Vs g901) x1), ⟨.pointer (some wa1), [(Vi a1_0), (Vi a1_1), (Sl Kf a1_2), (Vi a1_3)], 110, none⟩]) [0, 1, 2] sub_nil (by decide) (pick_cons rfl (pick_cons rfl (pick_cons rfl pick_nil))) ?_
  exact tx_end0' Tryz.results74 rfl g901 rfl (List.Sublist.refl _)
 intro K3 hK3
 refine cr fun K4 hK4 => ?_
 refine s0 (rd_move' rfl) ?_
 refine s0 (rd_nilck' rfl) ?_
 refine s0 (rd_field' (off := 2) rfl Tryz.underlying105 rfl info22 rfl) ?_
 refine s0 (rd_load' (i := 1) (o := 2) rfl ⟨rfl, rfl, rfl, rfl⟩ rfl flat22) ?_
 refine s0 (rd_nilany' rfl rfl (fun _ _ _ => by kernel_rfl) (fun _ _ _ _ => by kernel_rfl) nil_eql22_none nil_eql22_sl) ?_
 refine nk hK4 ?_
 refine tx_anybool' 22 rfl fun b1 hb1 => ?_
 refine cx_cond' rfl (fun h1 => ?_) (fun h1 => ?_)
 ·replace hp : gogeom_deriveDeepCopy_11_v2_j1 k a1_0 a1_1 a1_3 a1_2 [] = some out := by
   rw [hb1 h1] at hp
   first | exact hp | (rw [hb1 h1]; exact hp)
  refine cx_region' ?_
  refine s0 (rd_move' rfl) ?_
  refine s0 (rd_nilck' rfl) ?_
  refine s0 (rd_field' (off := 2) rfl Tryz.underlying105 rfl info22 rfl) ?_
  refine tx_nilrow' Kf 95 ?_
  refine sx_ox' (ox_store' (i := 1) (o := 2) rfl rfl (lv_vl rfl rfl) ⟨rfl, rfl, rfl, rfl⟩ rfl info22 rfl (H' := [(Rw Kf 95 (Vs (none, 0, 0)) []), ⟨.pointer (some wa0), [(Vi a1_0), (Vi a1_1), (Vl (Vs (none, 0, 0))), (Vi a0_3)], 105, none⟩, ⟨.pointer (some wa1), [(Vi a1_0), (Vi a1_1), (Sl Kf a1_2), (Vi a1_3)], 110, none⟩]) rfl) (wt_none' rfl) fun _ => ?_
  refine sx_nil' ?_
  show TX E K3 _
  exact tx_pick' [1, 0, 2] (sub_cons rfl (sub_cons rfl sub_nil)) (by decide) (pick_cons rfl (pick_cons rfl (pick_cons rfl pick_nil))) (hK3 ([], (none, 0, 0)) hp)
 clear h1
 refine cx_seq' fun K5 hK5 => ?_
 refine cr fun K6 hK6 => ?_
 refine s0 (rd_move' rfl) ?_
 refine s0 (rd_nilck' rfl) ?_
 refine s0 (rd_field' (off := 2) rfl Tryz.underlying105 rfl info22 rfl) ?_
 refine s0 (rd_load' (i := 0) (o := 2) rfl ⟨rfl, rfl, rfl, rfl⟩ rfl flat22) ?_
 refine s0 (rd_binf' rfl rfl (bf_vl (fun _ => by kernel_rfl) nil_neq22_nilsl)) ?_
 refine nk hK6 ?_
 refine cx_cond_f' rfl rfl ?_
 refine cx_region' ?_
 refine s0 (rd_move' rfl) ?_
 refine s0 (rd_move' rfl) ?_
 refine s0 (rd_nilck' rfl) ?_
 refine s0 (rd_field' (off := 2) rfl Tryz.underlying105 rfl info22 rfl) ?_
 refine s0 (rd_load' (i := 1) (o := 2) rfl ⟨rfl, rfl, rfl, rfl⟩ rfl flat22) ?_
 refine s0 (rd_len' rfl Tryz.underlying22) ?_
 obtain ⟨r105, hr105, hp⟩ := bind_some hp
 refine sx_ox' (ox_make' (K := Kf) rfl rfl hr105 rfl Tryz.underlying22 info95 rfl rfl rfl rfl rfl) (wt_none' rfl) fun g105 => ?_
 refine s0 (rd_nilck' rfl) ?_
 refine s0 (rd_field' (off := 2) rfl Tryz.underlying105 rfl info22 rfl) ?_
 refine sx_ox' (ox_store' (i := 1) (o := 2) rfl rfl (lv_vl rfl rfl) ⟨rfl, rfl, rfl, rfl⟩ rfl info22 rfl (H' := [(Rw Kf 95 (Vs g105) r105), ⟨.pointer (some wa0), [(Vi a1_0), (Vi a1_1), (Vl (Vs g105)), (Vi a0_3)], 105, none⟩, ⟨.pointer (some wa1), [(Vi a1_0), (Vi a1_1), (Sl Kf a1_2), (Vi a1_3)], 110, none⟩]) rfl) (wt_none' rfl) fun _ => ?_
 refine nk hK5 ?_
 refine cx_plan' [] [(8, 1)] [(0, 1), (1, 1), (2, 1), (3, 1), (4, 1), (5, 1), (6, 1), (7, 1), (8, 0)] mixed (by kernel_rfl) ?_
 refine px_rd' rfl (rd_move' rfl) rfl rfl (wt_none' rfl) ?_
 refine px_rd' rfl (rd_nilck' rfl) rfl rfl (wt_none' rfl) ?_
 refine px_rd' rfl (rd_field' (off := 2) rfl Tryz.underlying105 rfl info22 rfl) rfl rfl (wt_none' rfl) ?_
 refine px_rd' rfl (rd_load' (i := 1) (o := 2) rfl ⟨rfl, rfl, rfl, rfl⟩ rfl flat22) rfl rfl (wt_none' rfl) ?_
 refine px_rd' rfl (rd_move' rfl) rfl rfl (wt_none' rfl) ?_
 refine px_rd' rfl (rd_nilck' rfl) rfl rfl (wt_none' rfl) ?_
 refine px_rd' rfl (rd_field' (off := 2) rfl Tryz.underlying105 rfl info22 rfl) rfl rfl (wt_none' rfl) ?_
 refine px_rd' rfl (rd_load' (i := 2) (o := 2) rfl ⟨rfl, rfl, rfl, rfl⟩ rfl flat22) rfl rfl (wt_none' rfl) ?_
 refine px_ox' rfl (ox_copy' (i := 0) rfl rfl rfl rfl rfl Tryz.underlying22 info95 rfl rfl (H' := [(Rw Kf 95 (Vs g105) (cpy r105 a1_2)), ⟨.pointer (some wa0), [(Vi a1_0), (Vi a1_1), (Vl (Vs g105)), (Vi a0_3)], 105, none⟩, ⟨.pointer (some wa1), [(Vi a1_0), (Vi a1_1), (Sl Kf a1_2), (Vi a1_3)], 110, none⟩]) rfl) rfl bs_nil (wt_none' rfl) fun _ => ?_
 refine px_nil' ?_
 show TX E K3 _
 exact tx_pick' [1, 0, 2] (sub_cons rfl (sub_cons rfl sub_nil)) (by decide) (pick_cons rfl (pick_cons rfl (pick_cons rfl pick_nil))) (hK3 ((cpy r105 a1_2), g105) hp)

def gogeom_deriveDeepCopy_8 (k : Nat) (a0_0 : Int) (a0_1 : Int) (a0_3 : Int) (a1_0 : Int) (a1_1 : Int) (a1_2 : List Nat) (a1_3 : Int) : Option (Int × Int × (List Nat) × Int × (List Nat)) :=
 (gogeom_deriveDeepCopy_11_v2 k 0 0 0 a1_0 a1_1 a1_2 a1_3) >>= fun r10 =>
 some (r10.1, r10.2.1, r10.2.2.1, r10.2.2.2.1, r10.2.2.2.2)

theorem gogeom_deriveDeepCopy_8_sim {k : Nat} {wa0 : Addr} {wa1 : Addr} (a0_0 : Int) (a0_1 : Int) (a0_3 : Int) (a1_0 : Int) (a1_1 : Int) (a1_2 : List Nat) (a1_3 : Int) {out : Int × Int × (List Nat) × Int × (List Nat)} (hp : gogeom_deriveDeepCopy_8 k a0_0 a0_1 a0_3 a1_0 a1_1 a1_2 a1_3 = some out) : Sx.Fn Tryz.prog 75 [(Vp wa0), (Vp wa1)] [⟨.pointer (some wa0), [(Vi a0_0), (Vi a0_1), Vn, (Vi a0_3)], 108, none⟩, ⟨.pointer (some wa1), [(Vi a1_0), (Vi a1_1), (Sl Kf a1_2), (Vi a1_3)], 110, none⟩] (fun w : Gs => (Vl (.tuple #[]))) (fun w => [⟨.pointer (some wa0), [(Vi out.1), (Vi out.2.1), (Vl (Vs w)), (Vi out.2.2.2.1)], 108, none⟩, (Rw Kf 95 (Vs w) out.2.2.1), ⟨.pointer (some wa1), [(Vi out.1), (Vi out.2.1), (Sl Kf out.2.2.2.2), (Vi out.2.2.2.1)], 110, none⟩]) := by
 unfold gogeom_deriveDeepCopy_8 at hp
 refine fn_of Tryz.func75 rfl Tryz.ntmps75 rfl fun E hM => ?_
 refine cr fun K1 hK1 => ?_
 refine sx_ox' (ox_alloc' info105 rfl rfl rfl rfl (l := [(Vi 0), (Vi 0), Vn, (Vi 0)]) rfl) (wt_none' rfl) fun q5 => ?_
 refine s0 (rd_assign' rfl) ?_
 refine nk hK1 ?_
 refine cr fun K2 hK2 => ?_
 refine s0 (rd_move' rfl) ?_
 refine s0 (rd_move' rfl) ?_
 refine s0 (rd_nilck' rfl) ?_
 refine s0 (rd_field0' rfl Tryz.underlying108 rfl info105 rfl) ?_
 obtain ⟨r10, hr10, hp⟩ := bind_some hp
 refine sx_ox' (ox_callg' (ent_fn' Tryz.func74 isn74 rfl rfl) (gogeom_deriveDeepCopy_11_v2_sim _ _ _ _ _ _ _ hr10 : Sx.Fn Tryz.prog 74 [(Vp q5), (Vp wa1)] [⟨.pointer (some q5), [(Vi 0), (Vi 0), Vn, (Vi 0)], 105, none⟩, ⟨.pointer (some wa1), [(Vi a1_0), (Vi a1_1), (Sl Kf a1_2), (Vi a1_3)], 110, none⟩] (fun x : Gs => (Vl (.tuple #[]))) (fun x => [⟨.pointer (some q5), [(Vi r10.1), (Vi r10.2.1), (Vl (Vs x)), (Vi r10.2.2.2.1)], 105, none⟩, (Rw Kf 95 (Vs x) r10.2.2.1), ⟨.pointer (some wa1), [(Vi r10.1), (Vi r10.2.1), (Sl Kf r10.2.2.2.2), (Vi r10.2.2.2.1)], 110, none⟩])) [0, 2] [1] (by decide) (pick_cons rfl (pick_cons rfl pick_nil)) (pick_cons rfl pick_nil) (Hn := fun x : Gs => [⟨.pointer (some q5), [(Vi r10.1), (Vi r10.2.1), (Vl (Vs x)), (Vi r10.2.2.2.1)], 105, none⟩, (Rw Kf 95 (Vs x) r10.2.2.1), ⟨.pointer (some wa1), [(Vi r10.1), (Vi r10.2.1), (Sl Kf r10.2.2.2.2), (Vi r10.2.2.2.1)], 110, none⟩, ⟨.pointer (some wa0), [(Vi a0_0), (Vi a0_1), Vn, (Vi a0_3)], 108, none⟩]) (fun _ => rfl) rfl rfl) (wt_none' rfl) fun g10 => ?_
 refine nk hK2 ?_
 refine cx_region' ?_
 refine s0 (rd_move' rfl) ?_
 refine s0 (rd_move' rfl) ?_
 refine s0 (rd_nilck' rfl) ?_
 refine s0 (rd_load_agg' (i := 0) (o := 0) (nn := 4) rfl ⟨rfl, rfl, rfl, rfl⟩ rfl agg105 (l' := [(Vi r10.1), (Vi r10.2.1), (Vl (Vs g10)), (Vi r10.2.2.2.1)]) rfl) ?_
 refine s0 (rd_nilck' rfl) ?_
 refine s0 (rd_field0' rfl Tryz.underlying108 rfl info105 rfl) ?_
 refine sx_ox' (ox_store' (i := 3) (o := 0) rfl rfl (lv_ag _) ⟨rfl, rfl, rfl, rfl⟩ rfl info105 rfl (H' := [⟨.pointer (some q5), [(Vi r10.1), (Vi r10.2.1), (Vl (Vs g10)), (Vi r10.2.2.2.1)], 105, none⟩, (Rw Kf 95 (Vs g10) r10.2.2.1), ⟨.pointer (some wa1), [(Vi r10.1), (Vi r10.2.1), (Sl Kf r10.2.2.2.2), (Vi r10.2.2.2.1)], 110, none⟩, ⟨.pointer (some wa0), [(Vi r10.1), (Vi r10.2.1), (Vl (Vs g10)), (Vi r10.2.2.2.1)], 108, none⟩]) rfl) (wt_none' rfl) fun _ => ?_
 refine sx_nil' ?_
 replace hp := Option.some.inj hp
 subst hp
 refine tx_pick' (L' := []) (H' := [⟨.pointer (some wa0), [(Vi r10.1), (Vi r10.2.1), (Vl (Vs g10)), (Vi r10.2.2.2.1)], 108, none⟩, (Rw Kf 95 (Vs g10) r10.2.2.1), ⟨.pointer (some wa1), [(Vi r10.1), (Vi r10.2.1), (Sl Kf r10.2.2.2.2), (Vi r10.2.2.2.1)], 110, none⟩]) [3, 1, 2] sub_nil (by decide) (pick_cons rfl (pick_cons rfl (pick_cons rfl pick_nil))) ?_
 exact tx_end0' Tryz.results75 rfl g10 rfl (List.Sublist.refl _)

def gogeom_deriveDeepCopy_2 (k : Nat) (a0_0 : Int) (a0_1 : Int) (a0_3 : Int) (a1_0 : Int) (a1_1 : Int) (a1_2 : List Nat) (a1_3 : Int) : Option (Int × Int × (List Nat) × Int × (List Nat)) :=
 (gogeom_deriveDeepCopy_8 k 0 0 0 a1_0 a1_1 a1_2 a1_3) >>= fun r10 =>
 some (r10.1, r10.2.1, r10.2.2.1, r10.2.2.2.1, r10.2.2.2.2)

theorem gogeom_deriveDeepCopy_2_sim {k : Nat} {wa0 : Addr} {wa1 : Addr} (a0_0 : Int) (a0_1 : Int) (a0_3 : Int) (a1_0 : Int) (a1_1 : Int) (a1_2 : List Nat) (a1_3 : Int) {out : Int × Int × (List Nat) × Int × (List Nat)} (hp : gogeom_deriveDeepCopy_2 k a0_0 a0_1 a0_3 a1_0 a1_1 a1_2 a1_3 = some out) : Sx.Fn Tryz.prog 66 [(Vp wa0), (Vp wa1)] [⟨.pointer (some wa0), [(Vi a0_0), (Vi a0_1), Vn, (Vi a0_3)], 110, none⟩, ⟨.pointer (some wa1), [(Vi a1_0), (Vi a1_1), (Sl Kf a1_2), (Vi a1_3)], 110, none⟩] (fun w : Gs => (Vl (.tuple #[]))) (fun w => [⟨.pointer (some wa0), [(Vi out.1), (Vi out.2.1), (Vl (Vs w)), (Vi out.2.2.2.1)], 110, none⟩, (Rw Kf 95 (Vs w) out.2.2.1), ⟨.pointer (some wa1), [(Vi out.1), (Vi out.2.1), (Sl Kf out.2.2.2.2), (Vi out.2.2.2.1)], 110, none⟩]) := by
 unfold gogeom_deriveDeepCopy_2 at hp
 refine fn_of Tryz.func66 rfl Tryz.ntmps66 rfl fun E hM => ?_
 refine cr fun K1 hK1 => ?_
 refine sx_ox' (ox_alloc' info108 rfl rfl rfl rfl (l := [(Vi 0), (Vi 0), Vn, (Vi 0)]) rfl) (wt_none' rfl) fun q5 => ?_
 refine s0 (rd_assign' rfl) ?_
 refine nk hK1 ?_
 refine cr fun K2 hK2 => ?_
 refine s0 (rd_move' rfl) ?_
 refine s0 (rd_move' rfl) ?_
 refine s0 (rd_nilck' rfl) ?_
 refine s0 (rd_field0' rfl Tryz.underlying110 rfl info108 rfl) ?_
 obtain ⟨r10, hr10, hp⟩ := bind_some hp
 refine sx_ox' (ox_callg' (ent_fn' Tryz.func75 isn75 rfl rfl) (gogeom_deriveDeepCopy_8_sim _ _ _ _ _ _ _ hr10 : Sx.Fn Tryz.prog 75 [(Vp q5), (Vp wa1)] [⟨.pointer (some q5), [(Vi 0), (Vi 0), Vn, (Vi 0)], 108, none⟩, ⟨.pointer (some wa1), [(Vi a1_0), (Vi a1_1), (Sl Kf a1_2), (Vi a1_3)], 110, none⟩] (fun x : Gs => (Vl (.tuple #[]))) (fun x => [⟨.pointer (some q5), [(Vi r10.1), (Vi r10.2.1), (Vl (Vs x)), (Vi r10.2.2.2.1)], 108, none⟩, (Rw Kf 95 (Vs x) r10.2.2.1), ⟨.pointer (some wa1), [(Vi r10.1), (Vi r10.2.1), (Sl Kf r10.2.2.2.2), (Vi r10.2.2.2.1)], 110, none⟩])) [0, 2] [1] (by decide) (pick_cons rfl (pick_cons rfl pick_nil)) (pick_cons rfl pick_nil) (Hn := fun x : Gs => [⟨.pointer (some q5), [(Vi r10.1), (Vi r10.2.1), (Vl (Vs x)), (Vi r10.2.2.2.1)], 108, none⟩, (Rw Kf 95 (Vs x) r10.2.2.1), ⟨.pointer (some wa1), [(Vi r10.1), (Vi r10.2.1), (Sl Kf r10.2.2.2.2), (Vi r10.2.2.2.1)], 110, none⟩, ⟨.pointer (some wa0), [(Vi a0_0), (Vi a0_1), Vn, (Vi a0_3)], 110, none⟩]) (fun _ => rfl) rfl rfl) (wt_none' rfl) fun g10 => ?_
 refine nk hK2 ?_
 refine cx_region' ?_
 refine s0 (rd_move' rfl) ?_
 refine s0 (rd_move' rfl) ?_
 refine s0 (rd_nilck' rfl) ?_
 refine s0 (rd_load_agg' (i := 0) (o := 0) (nn := 4) rfl ⟨rfl, rfl, rfl, rfl⟩ rfl agg108 (l' := [(Vi r10.1), (Vi r10.2.1), (Vl (Vs g10)), (Vi r10.2.2.2.1)]) rfl) ?_
 refine s0 (rd_nilck' rfl) ?_
 refine s0 (rd_field0' rfl Tryz.underlying110 rfl info108 rfl) ?_
 refine sx_ox' (ox_store' (i := 3) (o := 0) rfl rfl (lv_ag _) ⟨rfl, rfl, rfl, rfl⟩ rfl info108 rfl (H' := [⟨.pointer (some q5), [(Vi r10.1), (Vi r10.2.1), (Vl (Vs g10)), (Vi r10.2.2.2.1)], 108, none⟩, (Rw Kf 95 (Vs g10) r10.2.2.1), ⟨.pointer (some wa1), [(Vi r10.1), (Vi r10.2.1), (Sl Kf r10.2.2.2.2), (Vi r10.2.2.2.1)], 110, none⟩, ⟨.pointer (some wa0), [(Vi r10.1), (Vi r10.2.1), (Vl (Vs g10)), (Vi r10.2.2.2.1)], 110, none⟩]) rfl) (wt_none' rfl) fun _ => ?_
 refine sx_nil' ?_
 replace hp := Option.some.inj hp
 subst hp
 refine tx_pick' (L' := []) (H' := [⟨.pointer (some wa0), [(Vi r10.1), (Vi r10.2.1), (Vl (Vs g10)), (Vi r10.2.2.2.1)], 110, none⟩, (Rw Kf 95 (Vs g10) r10.2.2.1), ⟨.pointer (some wa1), [(Vi r10.1), (Vi r10.2.1), (Sl Kf r10.2.2.2.2), (Vi r10.2.2.2.1)], 110, none⟩]) [3, 1, 2] sub_nil (by decide) (pick_cons rfl (pick_cons rfl (pick_cons rfl pick_nil))) ?_
 exact tx_end0' Tryz.results66 rfl g10 rfl (List.Sublist.refl _)

def gogeom_deriveCloneLineString (k : Nat) (a0_0 : Int) (a0_1 : Int) (a0_2 : List Nat) (a0_3 : Int) : Option (Int × Int × (List Nat) × Int × (List Nat)) :=
 (gogeom_deriveDeepCopy_2 k 0 0 0 a0_0 a0_1 a0_2 a0_3) >>= fun r9 =>
 some (r9.1, r9.2.1, r9.2.2.2.2, r9.2.2.2.1, r9.2.2.1)

theorem gogeom_deriveCloneLineString_sim {k : Nat} {wa0 : Addr} (a0_0 : Int) (a0_1 : Int) (a0_2 : List Nat) (a0_3 : Int) {out : Int × Int × (List Nat) × Int × (List Nat)} (hp : gogeom_deriveCloneLineString k a0_0 a0_1 a0_2 a0_3 = some out) : Sx.Fn Tryz.prog 49 [(Vp wa0)] [⟨.pointer (some wa0), [(Vi a0_0), (Vi a0_1), (Sl Kf a0_2), (Vi a0_3)], 110, none⟩] (fun w : Addr × Gs => (Vp w.1)) (fun w => [⟨.pointer (some wa0), [(Vi out.1), (Vi out.2.1), (Sl Kf out.2.2.1), (Vi out.2.2.2.1)], 110, none⟩, ⟨.pointer (some w.1), [(Vi out.1), (Vi out.2.1), (Vl (Vs w.2)), (Vi out.2.2.2.1)], 110, none⟩, (Rw Kf 95 (Vs w.2) out.2.2.2.2)]) := by
 unfold gogeom_deriveCloneLineString at hp
 refine fn_of Tryz.func49 rfl Tryz.ntmps49 rfl fun E hM => ?_
 refine cr fun K1 hK1 => ?_
 refine s0 (rd_assign' rfl) ?_
 refine nk hK1 ?_
 refine cx_seq' fun K2 hK2 => ?_
 refine cr fun K3 hK3 => ?_
 refine s0 (rd_move' rfl) ?_
 refine s0 (rd_binf' rfl rfl (bf_vl (fun _ => by kernel_rfl) (nil_eql40_ptr _))) ?_
 refine nk hK3 ?_
 refine cx_cond_f' rfl rfl ?_
 refine cx_skip' ?_
 show TX E K2 _
 refine tx_k' hK2 ?_
 refine cr fun K4 hK4 => ?_
 refine sx_ox' (ox_alloc' info110 rfl rfl rfl rfl (l := [(Vi 0), (Vi 0), Vn, (Vi 0)]) rfl) (wt_none' rfl) fun q6 => ?_
 refine s0 (rd_assign' rfl) ?_
 refine nk hK4 ?_
 refine cr fun K5 hK5 => ?_
 refine s0 (rd_move' rfl) ?_
 refine s0 (rd_move' rfl) ?_
 obtain ⟨r9, hr9, hp⟩ := bind_some hp
 refine sx_ox' (ox_callg' (ent_fn' Tryz.func66 isn66 rfl rfl) (gogeom_deriveDeepCopy_2_sim _ _ _ _ _ _ _ hr9 : Sx.Fn Tryz.prog 66 [(Vp q6), (Vp wa0)] [⟨.pointer (some q6), [(Vi 0), (Vi 0), Vn, (Vi 0)], 110, none⟩, ⟨.pointer (some wa0), [(Vi a0_0), (Vi a0_1), (Sl Kf a0_2), (Vi a0_3)], 110, none⟩] (fun x : Gs => (Vl (.tuple #[]))) (fun x => [⟨.pointer (some q6), [(Vi r9.1), (Vi r9.2.1), (Vl (Vs x)), (Vi r9.2.2.2.1)], 110, none⟩, (Rw Kf 95 (Vs x) r9.2.2.1), ⟨.pointer (some wa0), [(Vi r9.1), (Vi r9.2.1), (Sl Kf r9.2.2.2.2), (Vi r9.2.2.2.1)], 110, none⟩])) [0, 1] [] (by decide) (pick_cons rfl (pick_cons rfl pick_nil)) pick_nil (Hn := fun x : Gs => [⟨.pointer (some q6), [(Vi r9.1), (Vi r9.2.1), (Vl (Vs x)), (Vi r9.2.2.2.1)], 110, none⟩, (Rw Kf 95 (Vs x) r9.2.2.1), ⟨.pointer (some wa0), [(Vi r9.1), (Vi r9.2.1), (Sl Kf r9.2.2.2.2), (Vi r9.2.2.2.1)], 110, none⟩]) (fun _ => rfl) rfl rfl) (wt_none' rfl) fun g9 => ?_
 refine nk hK5 ?_
 refine cr fun K6 hK6 => ?_
 refine s0 (rd_move' rfl) ?_
 refine s0 (rd_assign' rfl) ?_
 refine nk hK6 ?_
 refine cx_retc' ?_
 replace hp := Option.some.inj hp
 subst hp
 refine tx_pick' (L' := [(2, (Vp q6))]) (H' := [⟨.pointer (some wa0), [(Vi r9.1), (Vi r9.2.1), (Sl Kf r9.2.2.2.2), (Vi r9.2.2.2.1)], 110, none⟩, ⟨.pointer (some q6), [(Vi r9.1), (Vi r9.2.1), (Vl (Vs g9)), (Vi r9.2.2.2.1)], 110, none⟩, (Rw Kf 95 (Vs g9) r9.2.2.1)]) [2, 0, 1] (sub_cons rfl sub_nil) (by decide) (pick_cons rfl (pick_cons rfl (pick_cons rfl pick_nil))) ?_
 exact tx_ret1' Tryz.results49 rfl (q6, g9) (rv_tmp' rfl) (List.Sublist.refl _)

def gogeom_LineString_Clone (k : Nat) (a0_0 : Int) (a0_1 : Int) (a0_2 : List Nat) (a0_3 : Int) : Option (Int × Int × (List Nat) × Int × (List Nat)) :=
 (gogeom_deriveCloneLineString k a0_0 a0_1 a0_2 a0_3) >>= fun r4 =>
 some (r4.1, r4.2.1, r4.2.2.1, r4.2.2.2.1, r4.2.2.2.2)

theorem gogeom_LineString_Clone_sim {k : Nat} {wa0 : Addr} (a0_0 : Int) (a0_1 : Int) (a0_2 : List Nat) (a0_3 : Int) {out : Int × Int × (List Nat) × Int × (List Nat)} (hp : gogeom_LineString_Clone k a0_0 a0_1 a0_2 a0_3 = some out) : Sx.Fn Tryz.prog 14 [(Vp wa0)] [⟨.pointer (some wa0), [(Vi a0_0), (Vi a0_1), (Sl Kf a0_2), (Vi a0_3)], 110, none⟩] (fun w : Addr × Gs => (Vp w.1)) (fun w => [⟨.pointer (some wa0), [(Vi out.1), (Vi out.2.1), (Sl Kf out.2.2.1), (Vi out.2.2.2.1)], 110, none⟩, ⟨.pointer (some w.1), [(Vi out.1), (Vi out.2.1), (Vl (Vs w.2)), (Vi out.2.2.2.1)], 110, none⟩, (Rw Kf 95 (Vs w.2) out.2.2.2.2)]) := by
 unfold gogeom_LineString_Clone at hp
 refine fn_of Tryz.func14 rfl Tryz.ntmps14 rfl fun E hM => ?_
 refine cr fun K1 hK1 => ?_
 refine s0 (rd_assign' rfl) ?_
 refine nk hK1 ?_
 refine cr fun K2 hK2 => ?_
 refine s0 (rd_move' rfl) ?_
 obtain ⟨r4, hr4, hp⟩ := bind_some hp
 refine sx_ox' (ox_callg' (ent_fn' Tryz.func49 isn49 rfl rfl) (gogeom_deriveCloneLineString_sim _ _ _ _ hr4 : Sx.Fn Tryz.prog 49 [(Vp wa0)] [⟨.pointer (some wa0), [(Vi a0_0), (Vi a0_1), (Sl Kf a0_2), (Vi a0_3)], 110, none⟩] (fun x : Addr × Gs => (Vp x.1)) (fun x => [⟨.pointer (some wa0), [(Vi r4.1), (Vi r4.2.1), (Sl Kf r4.2.2.1), (Vi r4.2.2.2.1)], 110, none⟩, ⟨.pointer (some x.1), [(Vi r4.1), (Vi r4.2.1), (Vl (Vs x.2)), (Vi r4.2.2.2.1)], 110, none⟩, (Rw Kf 95 (Vs x.2) r4.2.2.2.2)])) [0] [] (by decide) (pick_cons rfl pick_nil) pick_nil (Hn := fun x : Addr × Gs => [⟨.pointer (some wa0), [(Vi r4.1), (Vi r4.2.1), (Sl Kf r4.2.2.1), (Vi r4.2.2.2.1)], 110, none⟩, ⟨.pointer (some x.1), [(Vi r4.1), (Vi r4.2.1), (Vl (Vs x.2)), (Vi r4.2.2.2.1)], 110, none⟩, (Rw Kf 95 (Vs x.2) r4.2.2.2.2)]) (fun _ => rfl) rfl rfl) (wt_none' rfl) fun ⟨q4, g4⟩ => ?_
 refine s0 (rd_assign' rfl) ?_
 refine nk hK2 ?_
 refine cx_retc' ?_
 replace hp := Option.some.inj hp
 subst hp
 refine tx_pick' (L' := [(2, (Vp q4))]) (H' := [⟨.pointer (some wa0), [(Vi r4.1), (Vi r4.2.1), (Sl Kf r4.2.2.1), (Vi r4.2.2.2.1)], 110, none⟩, ⟨.pointer (some q4), [(Vi r4.1), (Vi r4.2.1), (Vl (Vs g4)), (Vi r4.2.2.2.1)], 110, none⟩, (Rw Kf 95 (Vs g4) r4.2.2.2.2)]) [0, 1, 2] (sub_cons rfl sub_nil) (by decide) (pick_cons rfl (pick_cons rfl (pick_cons rfl pick_nil))) ?_
 exact tx_ret1' Tryz.results14 rfl (q4, g4) (rv_tmp' rfl) (List.Sublist.refl _)

def gogeom_geom0_SRID_v2 (k : Nat) (a0_0 : Int) (a0_1 : Int) (a0_2 : List Nat) (a0_3 : Int) : Option (Int × Int × (List Nat) × Int) :=
 some (a0_0, a0_1, a0_2, a0_3)

theorem gogeom_geom0_SRID_v2_sim {k : Nat} {wa0 : Addr} {wa0_2 : Gs} (a0_0 : Int) (a0_1 : Int) (a0_2 : List Nat) (a0_3 : Int) {out : Int × Int × (List Nat) × Int} (hp : gogeom_geom0_SRID_v2 k a0_0 a0_1 a0_2 a0_3 = some out) : Sx.Fn Tryz.prog 101 [(Vp wa0)] [⟨.pointer (some wa0), [(Vi a0_0), (Vi a0_1), (Vl (Vs wa0_2)), (Vi a0_3)], 110, none⟩, (Rw Kf 95 (Vs wa0_2) a0_2)] (fun w : Unit => (Vi out.2.2.2)) (fun w => [⟨.pointer (some wa0), [(Vi out.1), (Vi out.2.1), (Vl (Vs wa0_2)), (Vi out.2.2.2)], 110, none⟩, (Rw Kf 95 (Vs wa0_2) out.2.2.1)]) := by
 unfold gogeom_geom0_SRID_v2 at hp
 refine fn_of Tryz.func101 rfl Tryz.ntmps101 rfl fun E hM => ?_
 refine cr fun K1 hK1 => ?_
 refine s0 (rd_assign' rfl) ?_
 refine nk hK1 ?_
 refine cr fun K2 hK2 => ?_
 refine s0 (rd_move' rfl) ?_
 refine s0 (rd_nilck' rfl) ?_
 refine s0 (rd_field' (off := 3) rfl Tryz.underlying105 rfl info3 rfl) ?_
 refine s0 (rd_load' (i := 0) (o := 3) rfl ⟨rfl, rfl, rfl, rfl⟩ rfl flat3) ?_
 refine s0 (rd_assign' rfl) ?_
 refine nk hK2 ?_
 refine cx_retc' ?_
 replace hp := Option.some.inj hp
 subst hp
 refine tx_pick' (L' := [(2, (Vi a0_3))]) (H' := [⟨.pointer (some wa0), [(Vi a0_0), (Vi a0_1), (Vl (Vs wa0_2)), (Vi a0_3)], 110, none⟩, (Rw Kf 95 (Vs wa0_2) a0_2)]) [0, 1] (sub_cons rfl sub_nil) (by decide) (pick_cons rfl (pick_cons rfl pick_nil)) ?_
 exact tx_ret1' Tryz.results101 rfl () (rv_tmp' rfl) (List.Sublist.refl _)

def gogeom_geom0_Layout_v2 (k : Nat) (a0_0 : Int) (a0_1 : Int) (a0_2 : List Nat) (a0_3 : Int) : Option (Int × Int × (List Nat) × Int) :=
 some (a0_0, a0_1, a0_2, a0_3)

theorem gogeom_geom0_Layout_v2_sim {k : Nat} {wa0 : Addr} {wa0_2 : Gs} (a0_0 : Int) (a0_1 : Int) (a0_2 : List Nat) (a0_3 : Int) {out : Int × Int × (List Nat) × Int} (hp : gogeom_geom0_Layout_v2 k a0_0 a0_1 a0_2 a0_3 = some out) : Sx.Fn Tryz.prog 100 [(Vp wa0)] [⟨.pointer (some wa0), [(Vi a0_0), (Vi a0_1), (Vl (Vs wa0_2)), (Vi a0_3)], 110, none⟩, (Rw Kf 95 (Vs wa0_2) a0_2)] (fun w : Unit => (Vi out.1)) (fun w => [⟨.pointer (some wa0), [(Vi out.1), (Vi out.2.1), (Vl (Vs wa0_2)), (Vi out.2.2.2)], 110, none⟩, (Rw Kf 95 (Vs wa0_2) out.2.2.1)]) := by
 unfold gogeom_geom0_Layout_v2 at hp
 refine fn_of Tryz.func100 rfl Tryz.ntmps100 rfl fun E hM => ?_
 refine cr fun K1 hK1 => ?_
 refine s0 (rd_assign' rfl) ?_
 refine nk hK1 ?_
 refine cr fun K2 hK2 => ?_
 refine s0 (rd_move' rfl) ?_
 refine s0 (rd_nilck' rfl) ?_
 refine s0 (rd_field0' rfl Tryz.underlying105 rfl info54 rfl) ?_
 refine s0 (rd_load' (i := 0) (o := 0) rfl ⟨rfl, rfl, rfl, rfl⟩ rfl flat54) ?_
 refine s0 (rd_assign' rfl) ?_
 refine nk hK2 ?_
 refine cx_retc' ?_
 replace hp := Option.some.inj hp
 subst hp
 refine tx_pick' (L' := [(2, (Vi a0_0))]) (H' := [⟨.pointer (some wa0), [(Vi a0_0), (Vi a0_1), (Vl (Vs wa0_2)), (Vi a0_3)], 110, none⟩, (Rw Kf 95 (Vs wa0_2) a0_2)]) [0, 1] (sub_cons rfl sub_nil) (by decide) (pick_cons rfl (pick_cons rfl pick_nil)) ?_
 exact tx_ret1' Tryz.results100 rfl () (rv_tmp' rfl) (List.Sublist.refl _)

def gogeom_geom0_FlatCoords_v2 (k : Nat) (a0_0 : Int) (a0_1 : Int) (a0_2 : List Nat) (a0_3 : Int) : Option (Int × Int × (List Nat) × Int) :=
 some (a0_0, a0_1, a0_2, a0_3)

theorem gogeom_geom0_FlatCoords_v2_sim {k : Nat} {wa0 : Addr} {wa0_2 : Gs} (a0_0 : Int) (a0_1 : Int) (a0_2 : List Nat) (a0_3 : Int) {out : Int × Int × (List Nat) × Int} (hp : gogeom_geom0_FlatCoords_v2 k a0_0 a0_1 a0_2 a0_3 = some out) : Sx.Fn Tryz.prog 99 [(Vp wa0)] [⟨.pointer (some wa0), [(Vi a0_0), (Vi a0_1), (Vl (Vs wa0_2)), (Vi a0_3)], 110, none⟩, (Rw Kf 95 (Vs wa0_2) a0_2)] (fun w : Unit => (Sl Kf out.2.2.1)) (fun w => [⟨.pointer (some wa0), [(Vi out.1), (Vi out.2.1), (Sl Kf out.2.2.1), (Vi out.2.2.2)], 110, none⟩]) := by
 unfold gogeom_geom0_FlatCoords_v2 at hp
 refine fn_of Tryz.func99 rfl Tryz.ntmps99 rfl fun E hM => ?_
 refine cr fun K1 hK1 => ?_
 refine s0 (rd_assign' rfl) ?_
 refine nk hK1 ?_
 refine cr fun K2 hK2 => ?_
 refine s0 (rd_move' rfl) ?_
 refine s0 (rd_nilck' rfl) ?_
 refine s0 (rd_field' (off := 2) rfl Tryz.underlying105 rfl info22 rfl) ?_
 refine s0 (rd_load' (i := 0) (o := 2) rfl ⟨rfl, rfl, rfl, rfl⟩ rfl flat22) ?_
 refine s0 (rd_assign' rfl) ?_
 refine nk hK2 ?_
 refine cx_retc' ?_
 replace hp := Option.some.inj hp
 subst hp
 refine tx_fz' (frz_row 1 [(2, (Vl (Vs wa0_2)), (Sl Kf a0_2)), (6, (Vl (Vs wa0_2)), (Sl Kf a0_2))] (K := Kf) (xs := a0_2) (by decide) rfl ⟨⟨rfl, frz_it⟩, ⟨rfl, frz_it⟩, trivial⟩ (H' := [⟨.pointer (some wa0), [(Vi a0_0), (Vi a0_1), (Sl Kf a0_2), (Vi a0_3)], 110, none⟩]) (frzH_cons rfl rfl rfl (frzL_cons frz_same (frzL_cons frz_same (frzL_cons frz_it (frzL_cons frz_same frzL_refl)))) frzH_refl)) ?_
 refine tx_pick' (L' := [(2, (Sl Kf a0_2))]) (H' := [⟨.pointer (some wa0), [(Vi a0_0), (Vi a0_1), (Sl Kf a0_2), (Vi a0_3)], 110, none⟩]) [0] (sub_cons rfl sub_nil) (by decide) (pick_cons rfl pick_nil) ?_
 exact tx_ret1' Tryz.results99 rfl () (rv_tmp' rfl) (List.Sublist.refl _)

def gogeom_geom0_Ends_v2 (k : Nat) (a0_0 : Int) (a0_1 : Int) (a0_2 : List Nat) (a0_3 : Int) : Option (Int × Int × (List Nat) × Int) :=
 some (a0_0, a0_1, a0_2, a0_3)

theorem gogeom_geom0_Ends_v2_sim {k : Nat} {wa0 : Addr} (a0_0 : Int) (a0_1 : Int) (a0_2 : List Nat) (a0_3 : Int) {out : Int × Int × (List Nat) × Int} (hp : gogeom_geom0_Ends_v2 k a0_0 a0_1 a0_2 a0_3 = some out) : Sx.Fn Tryz.prog 97 [(Vp wa0)] [⟨.pointer (some wa0), [(Vi a0_0), (Vi a0_1), (Sl Kf a0_2), (Vi a0_3)], 110, none⟩] (fun w : Unit => Vn) (fun w => [⟨.pointer (some wa0), [(Vi out.1), (Vi out.2.1), (Sl Kf out.2.2.1), (Vi out.2.2.2)], 110, none⟩]) := by
 unfold gogeom_geom0_Ends_v2 at hp
 refine fn_of Tryz.func97 rfl Tryz.ntmps97 rfl fun E hM => ?_
 refine cr fun K1 hK1 => ?_
 refine s0 (rd_assign' rfl) ?_
 refine nk hK1 ?_
 refine cr fun K2 hK2 => ?_
 refine s0 (rd_assign' rfl) ?_
 refine nk hK2 ?_
 refine cx_retc' ?_
 replace hp := Option.some.inj hp
 subst hp
 refine tx_pick' (L' := [(2, Vn)]) (H' := [⟨.pointer (some wa0), [(Vi a0_0), (Vi a0_1), (Sl Kf a0_2), (Vi a0_3)], 110, none⟩]) [0] (sub_cons rfl sub_nil) (by decide) (pick_cons rfl pick_nil) ?_
 exact tx_ret1' Tryz.results97 rfl () (rv_tmp' rfl) (List.Sublist.refl _)

def gogeom_geom0_Endss_v2 (k : Nat) (a0_0 : Int) (a0_1 : Int) (a0_2 : List Nat) (a0_3 : Int) : Option (Int × Int × (List Nat) × Int) :=
 some (a0_0, a0_1, a0_2, a0_3)

theorem gogeom_geom0_Endss_v2_sim {k : Nat} {wa0 : Addr} (a0_0 : Int) (a0_1 : Int) (a0_2 : List Nat) (a0_3 : Int) {out : Int × Int × (List Nat) × Int} (hp : gogeom_geom0_Endss_v2 k a0_0 a0_1 a0_2 a0_3 = some out) : Sx.Fn Tryz.prog 98 [(Vp wa0)] [⟨.pointer (some wa0), [(Vi a0_0), (Vi a0_1), (Sl Kf a0_2), (Vi a0_3)], 110, none⟩] (fun w : Unit => Vn) (fun w => [⟨.pointer (some wa0), [(Vi out.1), (Vi out.2.1), (Sl Kf out.2.2.1), (Vi out.2.2.2)], 110, none⟩]) := by
 unfold gogeom_geom0_Endss_v2 at hp
 refine fn_of Tryz.func98 rfl Tryz.ntmps98 rfl fun E hM => ?_
 refine cr fun K1 hK1 => ?_
 refine s0 (rd_assign' rfl) ?_
 refine nk hK1 ?_
 refine cr fun K2 hK2 => ?_
 refine s0 (rd_assign' rfl) ?_
 refine nk hK2 ?_
 refine cx_retc' ?_
 replace hp := Option.some.inj hp
 subst hp
 refine tx_pick' (L' := [(2, Vn)]) (H' := [⟨.pointer (some wa0), [(Vi a0_0), (Vi a0_1), (Sl Kf a0_2), (Vi a0_3)], 110, none⟩]) [0] (sub_cons rfl sub_nil) (by decide) (pick_cons rfl pick_nil) ?_
 exact tx_ret1' Tryz.results98 rfl () (rv_tmp' rfl) (List.Sublist.refl _)

def impl_plain_v2 (k : Nat) (a0_0 : Int) (a0_1 : Int) (a0_2 : List Nat) (a0_3 : Int) : Option (Int × Int × (List Nat) × Int × Int × Int × Int × (List Nat) × (List Int)) :=
 (gogeom_geom0_SRID_v2 k a0_0 a0_1 a0_2 a0_3) >>= fun r15 =>
 (gogeom_geom0_Layout_v2 k r15.1 r15.2.1 r15.2.2.1 r15.2.2.2) >>= fun r70 =>
 (gogeom_geom0_FlatCoords_v2 k r70.1 r70.2.1 r70.2.2.1 r70.2.2.2) >>= fun r72 =>
 (impl_floats k r72.2.2.1) >>= fun r73 =>
 (gogeom_geom0_Ends_v2 k r72.1 r72.2.1 r72.2.2.1 r72.2.2.2) >>= fun r75 =>
 (impl_ints_v2 k) >>= fun r76 =>
 (gogeom_geom0_Endss_v2 k r75.1 r75.2.1 r75.2.2.1 r75.2.2.2) >>= fun r78 =>
 (impl_intss_v2 k) >>= fun r79 =>
 some (r78.1, r78.2.1, r78.2.2.1, r78.2.2.2, 2, r70.1, r15.2.2.2, r73, r76)

theorem impl_plain_v2_sim {k : Nat} {wa0 : Addr} {wa0_2 : Gs} (a0_0 : Int) (a0_1 : Int) (a0_2 : List Nat) (a0_3 : Int) {out : Int × Int × (List Nat) × Int × Int × Int × Int × (List Nat) × (List Int)} (hp : impl_plain_v2 k a0_0 a0_1 a0_2 a0_3 = some out) : Sx.Fn Tryz.prog 12 [(If 40 (Vp wa0))] [⟨.pointer (some wa0), [(Vi a0_0), (Vi a0_1), (Vl (Vs wa0_2)), (Vi a0_3)], 110, none⟩, (Rw Kf 95 (Vs wa0_2) a0_2)] (fun w : Unit => (Ag [(Vi out.2.2.2.2.1), (Vi out.2.2.2.2.2.1), (Vi out.2.2.2.2.2.2.1), (Sl Kf out.2.2.2.2.2.2.2.1), (Sl (Ki .i64) out.2.2.2.2.2.2.2.2), Vn, Vn])) (fun w => [⟨.pointer (some wa0), [(Vi out.1), (Vi out.2.1), (Sl Kf out.2.2.1), (Vi out.2.2.2.1)], 110, none⟩]) := by
 unfold impl_plain_v2 at hp
 refine fn_of Tryz.func12 rfl Tryz.ntmps12 rfl fun E hM => ?_
 refine cr fun K1 hK1 => ?_
 refine sx_ox' (ox_alloc' info27 rfl rfl rfl rfl (l := [(Vi 0), (Vi 0), (Vi 0), Vn, Vn, Vn, Vn]) rfl) (wt_none' rfl) fun q2 => ?_
 refine nk hK1 ?_
 refine cr fun K2 hK2 => ?_
 refine s0 (rd_move' rfl) ?_
 obtain ⟨r15, hr15, hp⟩ := bind_some hp
 refine sx_ox' (ox_callg' (ent_inv' rfl rfl (inv_ptr0 (inv40_SRID _))) (gogeom_geom0_SRID_v2_sim _ _ _ _ hr15 : Sx.Fn Tryz.prog 101 [(Vp wa0)] [⟨.pointer (some wa0), [(Vi a0_0), (Vi a0_1), (Vl (Vs wa0_2)), (Vi a0_3)], 110, none⟩, (Rw Kf 95 (Vs wa0_2) a0_2)] (fun x : Unit => (Vi r15.2.2.2)) (fun x => [⟨.pointer (some wa0), [(Vi r15.1), (Vi r15.2.1), (Vl (Vs wa0_2)), (Vi r15.2.2.2)], 110, none⟩, (Rw Kf 95 (Vs wa0_2) r15.2.2.1)])) [1, 2] [0] (by decide) (pick_cons rfl (pick_cons rfl pick_nil)) (pick_cons rfl pick_nil) (Hn := fun x : Unit => [⟨.pointer (some wa0), [(Vi r15.1), (Vi r15.2.1), (Vl (Vs wa0_2)), (Vi r15.2.2.2)], 110, none⟩, (Rw Kf 95 (Vs wa0_2) r15.2.2.1), ⟨.pointer (some q2), [(Vi 0), (Vi 0), (Vi 0), Vn, Vn, Vn, Vn], 27, none⟩]) (fun _ => rfl) rfl rfl) (wt_none' rfl) fun ⟨⟩ => ?_
 refine s0 (rd_build' (pls := [(0, 1), (1, 1), (2, 1), (3, 1), (4, 1), (5, 1), (6, 1)]) (qs := [(2, [(Vi r15.2.2.2)])]) (r := [(Vi 0), (Vi 0), (Vi r15.2.2.2), Vn, Vn, Vn, Vn]) ⟨rfl, ⟨_, rfl, (lv_vl rfl rfl)⟩, trivial⟩ Tryz.underlying27 has27 places27 info27 rfl rfl rfl) ?_
 refine sx_ox' (ox_alloc' info27 rfl rfl rfl rfl (l := [(Vi 0), (Vi 0), (Vi 0), Vn, Vn, Vn, Vn]) rfl) (wt_none' rfl) fun q3 => ?_
 refine sx_ox' (ox_store' (i := 0) (o := 0) rfl rfl (lv_ag _) ⟨rfl, rfl, rfl, rfl⟩ rfl info27 rfl (H' := [⟨.pointer (some q3), [(Vi 0), (Vi 0), (Vi r15.2.2.2), Vn, Vn, Vn, Vn], 27, none⟩, ⟨.pointer (some wa0), [(Vi r15.1), (Vi r15.2.1), (Vl (Vs wa0_2)), (Vi r15.2.2.2)], 110, none⟩, (Rw Kf 95 (Vs wa0_2) r15.2.2.1), ⟨.pointer (some q2), [(Vi 0), (Vi 0), (Vi 0), Vn, Vn, Vn, Vn], 27, none⟩]) rfl) (wt_none' rfl) fun _ => ?_
 refine nk hK2 ?_
 refine cx_seq' fun K3 hK3 => ?_
 refine cr fun K4 hK4 => ?_
 refine s0 (rd_move' rfl) ?_
 refine nk hK4 ?_
 refine cx_block' ?_
 refine cr fun K5 hK5 => ?_
 refine s0 (rd_assert' rfl (F := fun _ => .tuple #[.pointer none, .bool false]) as40_35_37 as_no) ?_
 refine s0 (rd_extract' rfl rfl) ?_
 refine s0 (rd_extract' rfl rfl) ?_
 refine nk hK5 ?_
 refine cx_cond_f' rfl rfl ?_
 refine cr fun K6 hK6 => ?_
 refine s0 (rd_assert' rfl (F := fun v => .tuple #[v, .bool true]) as40_35_40k as_ok) ?_
 refine s0 (rd_extract' rfl rfl) ?_
 refine s0 (rd_extract' rfl rfl) ?_
 refine nk hK6 ?_
 refine cx_cond_t' rfl rfl ?_
 refine cr fun K7 hK7 => ?_
 refine s0 (rd_assign' rfl) ?_
 refine nk hK7 ?_
 refine cx_region' ?_
 refine s0 (rd_field0' rfl Tryz.underlying27 rfl info3 rfl) ?_
 refine sx_ox' (ox_store' (i := 0) (o := 0) rfl rfl (lv_vl rfl rfl) ⟨rfl, rfl, rfl, rfl⟩ rfl info3 rfl (H' := [⟨.pointer (some q3), [(Vi 2), (Vi 0), (Vi r15.2.2.2), Vn, Vn, Vn, Vn], 27, none⟩, ⟨.pointer (some wa0), [(Vi r15.1), (Vi r15.2.1), (Vl (Vs wa0_2)), (Vi r15.2.2.2)], 110, none⟩, (Rw Kf 95 (Vs wa0_2) r15.2.2.1), ⟨.pointer (some q2), [(Vi 0), (Vi 0), (Vi 0), Vn, Vn, Vn, Vn], 27, none⟩]) rfl) (wt_none' rfl) fun _ => ?_
 refine nk hK3 ?_
 refine cr fun K8 hK8 => ?_
 refine s0 (rd_move' rfl) ?_
 obtain ⟨r70, hr70, hp⟩ := bind_some hp
 refine sx_ox' (ox_callg' (ent_inv' rfl rfl (inv_ptr0 (inv40_Layout _))) (gogeom_geom0_Layout_v2_sim _ _ _ _ hr70 : Sx.Fn Tryz.prog 100 [(Vp wa0)] [⟨.pointer (some wa0), [(Vi r15.1), (Vi r15.2.1), (Vl (Vs wa0_2)), (Vi r15.2.2.2)], 110, none⟩, (Rw Kf 95 (Vs wa0_2) r15.2.2.1)] (fun x : Unit => (Vi r70.1)) (fun x => [⟨.pointer (some wa0), [(Vi r70.1), (Vi r70.2.1), (Vl (Vs wa0_2)), (Vi r70.2.2.2)], 110, none⟩, (Rw Kf 95 (Vs wa0_2) r70.2.2.1)])) [1, 2] [0, 3] (by decide) (pick_cons rfl (pick_cons rfl pick_nil)) (pick_cons rfl (pick_cons rfl pick_nil)) (Hn := fun x : Unit => [⟨.pointer (some wa0), [(Vi r70.1), (Vi r70.2.1), (Vl (Vs wa0_2)), (Vi r70.2.2.2)], 110, none⟩, (Rw Kf 95 (Vs wa0_2) r70.2.2.1), ⟨.pointer (some q3), [(Vi 2), (Vi 0), (Vi r15.2.2.2), Vn, Vn, Vn, Vn], 27, none⟩, ⟨.pointer (some q2), [(Vi 0), (Vi 0), (Vi 0), Vn, Vn, Vn, Vn], 27, none⟩]) (fun _ => rfl) rfl rfl) (wt_none' rfl) fun ⟨⟩ => ?_
 refine s0 (rd_move' rfl) ?_
 obtain ⟨r72, hr72, hp⟩ := bind_some hp
 refine sx_ox' (ox_callg' (ent_inv' rfl rfl (inv_ptr0 (inv40_FlatCoords _))) (gogeom_geom0_FlatCoords_v2_sim _ _ _ _ hr72 : Sx.Fn Tryz.prog 99 [(Vp wa0)] [⟨.pointer (some wa0), [(Vi r70.1), (Vi r70.2.1), (Vl (Vs wa0_2)), (Vi r70.2.2.2)], 110, none⟩, (Rw Kf 95 (Vs wa0_2) r70.2.2.1)] (fun x : Unit => (Sl Kf r72.2.2.1)) (fun x => [⟨.pointer (some wa0), [(Vi r72.1), (Vi r72.2.1), (Sl Kf r72.2.2.1), (Vi r72.2.2.2)], 110, none⟩])) [0, 1] [2, 3] (by decide) (pick_cons rfl (pick_cons rfl pick_nil)) (pick_cons rfl (pick_cons rfl pick_nil)) (Hn := fun x : Unit => [⟨.pointer (some wa0), [(Vi r72.1), (Vi r72.2.1), (Sl Kf r72.2.2.1), (Vi r72.2.2.2)], 110, none⟩, ⟨.pointer (some q3), [(Vi 2), (Vi 0), (Vi r15.2.2.2), Vn, Vn, Vn, Vn], 27, none⟩, ⟨.pointer (some q2), [(Vi 0), (Vi 0), (Vi 0), Vn, Vn, Vn, Vn], 27, none⟩]) (fun _ => rfl) rfl rfl) (wt_none' rfl) fun ⟨⟩ => ?_
 obtain ⟨r73, hr73, hp⟩ := bind_some hp
 refine sx_ox' (ox_calln' (ent_fn' Tryz.func24 isn24 rfl rfl) (impl_floats_sim _ hr73 : Sx.Fn Tryz.prog 24 [(Sl Kf r72.2.2.1)] [] (fun x : Unit => (Sl Kf r73)) (fun x => [])) (Hn := fun x : Unit => [⟨.pointer (some wa0), [(Vi r72.1), (Vi r72.2.1), (Sl Kf r72.2.2.1), (Vi r72.2.2.2)], 110, none⟩, ⟨.pointer (some q3), [(Vi 2), (Vi 0), (Vi r15.2.2.2), Vn, Vn, Vn, Vn], 27, none⟩, ⟨.pointer (some q2), [(Vi 0), (Vi 0), (Vi 0), Vn, Vn, Vn, Vn], 27, none⟩]) (fun _ => rfl) rfl rfl) (wt_none' rfl) fun ⟨⟩ => ?_
 refine s0 (rd_move' rfl) ?_
 obtain ⟨r75, hr75, hp⟩ := bind_some hp
 refine sx_ox' (ox_callg' (ent_inv' rfl rfl (inv_ptr0 (inv40_Ends _))) (gogeom_geom0_Ends_v2_sim _ _ _ _ hr75 : Sx.Fn Tryz.prog 97 [(Vp wa0)] [⟨.pointer (some wa0), [(Vi r72.1), (Vi r72.2.1), (Sl Kf r72.2.2.1), (Vi r72.2.2.2)], 110, none⟩] (fun x : Unit => Vn) (fun x => [⟨.pointer (some wa0), [(Vi r75.1), (Vi r75.2.1), (Sl Kf r75.2.2.1), (Vi r75.2.2.2)], 110, none⟩])) [0] [1, 2] (by decide) (pick_cons rfl pick_nil) (pick_cons rfl (pick_cons rfl pick_nil)) (Hn := fun x : Unit => [⟨.pointer (some wa0), [(Vi r75.1), (Vi r75.2.1), (Sl Kf r75.2.2.1), (Vi r75.2.2.2)], 110, none⟩, ⟨.pointer (some q3), [(Vi 2), (Vi 0), (Vi r15.2.2.2), Vn, Vn, Vn, Vn], 27, none⟩, ⟨.pointer (some q2), [(Vi 0), (Vi 0), (Vi 0), Vn, Vn, Vn, Vn], 27, none⟩]) (fun _ => rfl) rfl rfl) (wt_none' rfl) fun ⟨⟩ => ?_
 obtain ⟨r76, hr76, hp⟩ := bind_some hp
 refine sx_ox' (ox_calln' (ent_fn' Tryz.func32 isn32 rfl rfl) (impl_ints_v2_sim hr76 : Sx.Fn Tryz.prog 32 [Vn] [] (fun x : Unit => (Sl (Ki .i64) r76)) (fun x => [])) (Hn := fun x : Unit => [⟨.pointer (some wa0), [(Vi r75.1), (Vi r75.2.1), (Sl Kf r75.2.2.1), (Vi r75.2.2.2)], 110, none⟩, ⟨.pointer (some q3), [(Vi 2), (Vi 0), (Vi r15.2.2.2), Vn, Vn, Vn, Vn], 27, none⟩, ⟨.pointer (some q2), [(Vi 0), (Vi 0), (Vi 0), Vn, Vn, Vn, Vn], 27, none⟩]) (fun _ => rfl) rfl rfl) (wt_none' rfl) fun ⟨⟩ => ?_
 refine s0 (rd_move' rfl) ?_
 obtain ⟨r78, hr78, hp⟩ := bind_some hp
 refine sx_ox' (ox_callg' (ent_inv' rfl rfl (inv_ptr0 (inv40_Endss _))) (gogeom_geom0_Endss_v2_sim _ _ _ _ hr78 : Sx.Fn Tryz.prog 98 [(Vp wa0)] [⟨.pointer (some wa0), [(Vi r75.1), (Vi r75.2.1), (Sl Kf r75.2.2.1), (Vi r75.2.2.2)], 110, none⟩] (fun x : Unit => Vn) (fun x => [⟨.pointer (some wa0), [(Vi r78.1), (Vi r78.2.1), (Sl Kf r78.2.2.1), (Vi r78.2.2.2)], 110, none⟩])) [0] [1, 2] (by decide) (pick_cons rfl pick_nil) (pick_cons rfl (pick_cons rfl pick_nil)) (Hn := fun x : Unit => [⟨.pointer (some wa0), [(Vi r78.1), (Vi r78.2.1), (Sl Kf r78.2.2.1), (Vi r78.2.2.2)], 110, none⟩, ⟨.pointer (some q3), [(Vi 2), (Vi 0), (Vi r15.2.2.2), Vn, Vn, Vn, Vn], 27, none⟩, ⟨.pointer (some q2), [(Vi 0), (Vi 0), (Vi 0), Vn, Vn, Vn, Vn], 27, none⟩]) (fun _ => rfl) rfl rfl) (wt_none' rfl) fun ⟨⟩ => ?_
 obtain ⟨r79, hr79, hp⟩ := bind_some hp
 refine sx_ox' (ox_calln' (ent_fn' Tryz.func40 isn40 rfl rfl) (impl_intss_v2_sim hr79 : Sx.Fn Tryz.prog 40 [Vn] [] (fun x : Unit => Vn) (fun x => [])) (Hn := fun x : Unit => [⟨.pointer (some wa0), [(Vi r78.1), (Vi r78.2.1), (Sl Kf r78.2.2.1), (Vi r78.2.2.2)], 110, none⟩, ⟨.pointer (some q3), [(Vi 2), (Vi 0), (Vi r15.2.2.2), Vn, Vn, Vn, Vn], 27, none⟩, ⟨.pointer (some q2), [(Vi 0), (Vi 0), (Vi 0), Vn, Vn, Vn, Vn], 27, none⟩]) (fun _ => rfl) rfl rfl) (wt_none' rfl) fun ⟨⟩ => ?_
 refine s0 (rd_field' (off := 1) rfl Tryz.underlying27 rfl info3 rfl) ?_
 refine sx_ox' (ox_store' (i := 1) (o := 1) rfl rfl (lv_vl rfl rfl) ⟨rfl, rfl, rfl, rfl⟩ rfl info3 rfl (H' := [⟨.pointer (some wa0), [(Vi r78.1), (Vi r78.2.1), (Sl Kf r78.2.2.1), (Vi r78.2.2.2)], 110, none⟩, ⟨.pointer (some q3), [(Vi 2), (Vi r70.1), (Vi r15.2.2.2), Vn, Vn, Vn, Vn], 27, none⟩, ⟨.pointer (some q2), [(Vi 0), (Vi 0), (Vi 0), Vn, Vn, Vn, Vn], 27, none⟩]) rfl) (wt_none' rfl) fun _ => ?_
 refine s0 (rd_field' (off := 3) rfl Tryz.underlying27 rfl info22 rfl) ?_
 refine sx_ox' (ox_store' (i := 1) (o := 3) rfl rfl (lv_sl _ _) ⟨rfl, rfl, rfl, rfl⟩ rfl info22 rfl (H' := [⟨.pointer (some wa0), [(Vi r78.1), (Vi r78.2.1), (Sl Kf r78.2.2.1), (Vi r78.2.2.2)], 110, none⟩, ⟨.pointer (some q3), [(Vi 2), (Vi r70.1), (Vi r15.2.2.2), (Sl Kf r73), Vn, Vn, Vn], 27, none⟩, ⟨.pointer (some q2), [(Vi 0), (Vi 0), (Vi 0), Vn, Vn, Vn, Vn], 27, none⟩]) rfl) (wt_none' rfl) fun _ => ?_
 refine s0 (rd_field' (off := 4) rfl Tryz.underlying27 rfl info23 rfl) ?_
 refine sx_ox' (ox_store' (i := 1) (o := 4) rfl rfl (lv_sl _ _) ⟨rfl, rfl, rfl, rfl⟩ rfl info23 rfl (H' := [⟨.pointer (some wa0), [(Vi r78.1), (Vi r78.2.1), (Sl Kf r78.2.2.1), (Vi r78.2.2.2)], 110, none⟩, ⟨.pointer (some q3), [(Vi 2), (Vi r70.1), (Vi r15.2.2.2), (Sl Kf r73), (Sl (Ki .i64) r76), Vn, Vn], 27, none⟩, ⟨.pointer (some q2), [(Vi 0), (Vi 0), (Vi 0), Vn, Vn, Vn, Vn], 27, none⟩]) rfl) (wt_none' rfl) fun _ => ?_
 refine s0 (rd_field' (off := 5) rfl Tryz.underlying27 rfl info24 rfl) ?_
 refine sx_ox' (ox_store' (i := 1) (o := 5) rfl rfl (lv_vl rfl rfl) ⟨rfl, rfl, rfl, rfl⟩ rfl info24 rfl (H' := [⟨.pointer (some wa0), [(Vi r78.1), (Vi r78.2.1), (Sl Kf r78.2.2.1), (Vi r78.2.2.2)], 110, none⟩, ⟨.pointer (some q3), [(Vi 2), (Vi r70.1), (Vi r15.2.2.2), (Sl Kf r73), (Sl (Ki .i64) r76), Vn, Vn], 27, none⟩, ⟨.pointer (some q2), [(Vi 0), (Vi 0), (Vi 0), Vn, Vn, Vn, Vn], 27, none⟩]) rfl) (wt_none' rfl) fun _ => ?_
 refine nk hK8 ?_
 refine cr fun K9 hK9 => ?_
 refine s0 (rd_load_agg' (i := 1) (o := 0) (nn := 7) rfl ⟨rfl, rfl, rfl, rfl⟩ rfl agg27 (l' := [(Vi 2), (Vi r70.1), (Vi r15.2.2.2), (Sl Kf r73), (Sl (Ki .i64) r76), Vn, Vn]) rfl) ?_
 refine sx_ox' (ox_store' (i := 2) (o := 0) rfl rfl (lv_ag _) ⟨rfl, rfl, rfl, rfl⟩ rfl info27 rfl (H' := [⟨.pointer (some wa0), [(Vi r78.1), (Vi r78.2.1), (Sl Kf r78.2.2.1), (Vi r78.2.2.2)], 110, none⟩, ⟨.pointer (some q3), [(Vi 2), (Vi r70.1), (Vi r15.2.2.2), (Sl Kf r73), (Sl (Ki .i64) r76), Vn, Vn], 27, none⟩, ⟨.pointer (some q2), [(Vi 2), (Vi r70.1), (Vi r15.2.2.2), (Sl Kf r73), (Sl (Ki .i64) r76), Vn, Vn], 27, none⟩]) rfl) (wt_none' rfl) fun _ => ?_
 refine nk hK9 ?_
 refine cx_retc' ?_
 replace hp := Option.some.inj hp
 subst hp
 refine tx_pick' (L' := [(2, (Vp q2))]) (H' := [⟨.pointer (some wa0), [(Vi r78.1), (Vi r78.2.1), (Sl Kf r78.2.2.1), (Vi r78.2.2.2)], 110, none⟩, ⟨.pointer (some q2), [(Vi 2), (Vi r70.1), (Vi r15.2.2.2), (Sl Kf r73), (Sl (Ki .i64) r76), Vn, Vn], 27, none⟩]) [0, 2] (sub_cons rfl sub_nil) (by decide) (pick_cons rfl (pick_cons rfl pick_nil)) ?_
 exact tx_ret1' Tryz.results12 rfl () (rv_cell_agg' (i := 1) (o := 0) (nn := 7) rfl ⟨rfl, rfl, rfl, rfl⟩ rfl agg27 rfl) (List.Sublist.cons_cons _ (List.nil_sublist _))

def gogeom_deriveDeepCopy_11_v3_j1 (k : Nat) (a1_0 : Int) (a1_1 : Int) (a1_3 : Int) (a1_2 : List Nat) (x1 : List Nat) : Option (Int × Int × (List Nat) × Int × (List Nat)) :=
 some (a1_0, a1_1, x1, a1_3, a1_2)
def gogeom_deriveDeepCopy_11_v3 (k : Nat) (a0_0 : Int) (a0_1 : Int) (a0_3 : Int) (a1_0 : Int) (a1_1 : Int) (a1_2 : List Nat) (a1_3 : Int) : Option (Int × Int × (List Nat) × Int × (List Nat)) :=
 (mk 8 0 (a1_2.length : Int) (a1_2.length : Int)) >>= fun r105 =>
 gogeom_deriveDeepCopy_11_v3_j1 k a1_0 a1_1 a1_3 a1_2 (cpy r105 a1_2)

theorem gogeom_deriveDeepCopy_11_v3_sim {k : Nat} {wa0 : Addr} {wa1 : Addr} (a0_0 : Int) (a0_1 : Int) (a0_3 : Int) (a1_0 : Int) (a1_1 : Int) (a1_2 : List Nat) (a1_3 : Int) {out : Int × Int × (List Nat) × Int × (List Nat)} (hp : gogeom_deriveDeepCopy_11_v3 k a0_0 a0_1 a0_3 a1_0 a1_1 a1_2 a1_3 = some out) : Sx.Fn Tryz.prog 74 [(Vp wa0), (Vp wa1)] [⟨.pointer (some wa0), [(Vi a0_0), (Vi a0_1), Vn, (Vi a0_3)], 105, none⟩, ⟨.pointer (some wa1), [(Vi a1_0), (Vi a1_1), (Sl Kf a1_2), (Vi a1_3)], 111, none⟩] (fun w : Gs => (Vl (.tuple #[]))) (fun w => [⟨.pointer (some wa0), [(Vi out.1), (Vi out.2.1), (Vl (Vs w)), (Vi out.2.2.2.1)], 105, none⟩, (Rw Kf 95 (Vs w) out.2.2.1), ⟨.pointer (some wa1), [(Vi out.1), (Vi out.2.1), (Sl Kf out.2.2.2.2), (Vi out.2.2.2.1)], 111, none⟩]) := by
 unfold gogeom_deriveDeepCopy_11_v3 at hp
 refine fn_of Tryz.func74 rfl Tryz.ntmps74 rfl fun E hM => ?_
 refine cr fun K1 hK1 => ?_
 refine s0 (rd_move' rfl) ?_
 refine s0 (rd_move' rfl) ?_
 refine s0 (rd_nilck' rfl) ?_
 refine s0 (rd_field0' rfl Tryz.underlying105 rfl info54 rfl) ?_
 refine s0 (rd_load' (i := 1) (o := 0) rfl ⟨rfl, rfl, rfl, rfl⟩ rfl flat54) ?_
 refine s0 (rd_nilck' rfl) ?_
 refine s0 (rd_field0' rfl Tryz.underlying105 rfl info54 rfl) ?_
 refine sx_ox' (ox_store' (i := 0) (o := 0) rfl rfl (lv_vl rfl rfl) ⟨rfl, rfl, rfl, rfl⟩ rfl info54 rfl (H' := [⟨.pointer (some wa0), [(Vi a1_0), (Vi a0_1), Vn, (Vi a0_3)], 105, none⟩, ⟨.pointer (some wa1), [(Vi a1_0), (Vi a1_1), (Sl Kf a1_2), (Vi a1_3)], 111, none⟩]) rfl) (wt_none' rfl) fun _ => ?_
 refine nk hK1 ?_
 refine cr fun K2 hK2 => ?_
 refine s0 (rd_move' rfl) ?_
 refine s0 (rd_move' rfl) ?_
 refine s0 (rd_nilck' rfl) ?_
 refine s0 (rd_field' (off := 1) rfl Tryz.underlying105 rfl info3 rfl) ?_
 refine s0 (rd_load' (i := 1) (o := 1) rfl ⟨rfl, rfl, rfl, rfl⟩ rfl flat3) ?_
 refine s0 (rd_nilck' rfl) ?_
 refine s0 (rd_field' (off := 1) rfl Tryz.underlying105 rfl info3 rfl) ?_
 refine sx_ox' (ox_store' (i := 0) (o := 1) rfl rfl (lv_vl rfl rfl) ⟨rfl, rfl, rfl, rfl⟩ rfl info3 rfl (H' := [⟨.pointer (some wa0), [(Vi a1_0), (Vi a1_1), Vn, (Vi a0_3)], 105, none⟩, ⟨.pointer (some wa1), [(Vi a1_0), (Vi a1_1), (Sl Kf a1_2), (Vi a1_3)], 111, none⟩]) rfl) (wt_none' rfl) fun _ => ?_
 refine nk hK2 ?_
 refine cx_join' (fun (v1 : (List Nat) × Gs) => (⟨124, [], [(0, (Vp wa0)), (1, (Vp wa1))], [⟨.pointer (some wa0), [(Vi a1_0), (Vi a1_1), (Vl (Vs v1.2)), (Vi a0_3)], 105, none⟩, (Rw Kf 95 (Vs v1.2) v1.1), ⟨.pointer (some wa1), [(Vi a1_0), (Vi a1_1), (Sl Kf a1_2), (Vi a1_3)], 111, none⟩]⟩ : St)) (fun (v1 : (List Nat) × Gs) => gogeom_deriveDeepCopy_11_v3_j1 k a1_0 a1_1 a1_3 a1_2 v1.1 = some out) ?_ ?_
 ·rintro ⟨x1, g901⟩ hp
  replace hp : gogeom_deriveDeepCopy_11_v3_j1 k a1_0 a1_1 a1_3 a1_2 x1 = some out := hp
  unfold gogeom_deriveDeepCopy_11_v3_j1 at hp
  refine cx_region' ?_
  refine s0 (rd_move' rfl) ?_
  refine s0 (rd_move' rfl) ?_
  refine s0 (rd_nilck' rfl) ?_
  refine s0 (rd_field' (off := 3) rfl Tryz.underlying105 rfl info3 rfl) ?_
  refine s0 (rd_load' (i := 2) (o := 3) rfl ⟨rfl, rfl, rfl, rfl⟩ rfl flat3) ?_
  refine s0 (rd_nilck' rfl) ?_
  refine s0 (rd_field' (off := 3) rfl Tryz.underlying105 rfl info3 rfl) ?_
  refine sx_ox' (ox_store' (i := 0) (o := 3) rfl rfl (lv_vl rfl rfl) ⟨rfl, rfl, rfl, rfl⟩ rfl info3 rfl (H' := [⟨.pointer (some wa0), [(Vi a1_0), (Vi a1_1), (Vl (Vs g901)), (Vi a1_3)], 105, none⟩, (Rw Kf 95 (Vs g901) x1), ⟨.pointer (some wa1), [(Vi a1_0), (Vi a1_1), (Sl Kf a1_2), (Vi a1_3)], 111, none⟩]) rfl) (wt_none' rfl) fun _ => ?_
  refine sx_nil' ?_
  replace hp := Option.some.inj hp
  subst hp
  refine tx_pick' (L' := []) (H' := [⟨.pointer (some wa0), [(Vi a1_0), (Vi a1_1), (Vl (Vs g901)), (Vi a1_3)], 105, none⟩, (Rw Kf 95 (Vs g901) x1), ⟨.pointer (some wa1), [(Vi a1_0), (Vi a1_1), (Sl Kf a1_2), (Vi a1_3)], 111, none⟩]) [0, 1, 2] sub_nil (by decide) (pick_cons rfl (pick_cons rfl (pick_cons rfl pick_nil))) ?_
  exact tx_end0' Tryz.results74 rfl g901 rfl (List.Sublist.refl _)
 intro K3 hK3
 refine cr fun K4 hK4 => ?_
 refine s0 (rd_move' rfl) ?_
 refine s0 (rd_nilck' rfl) ?_
 refine s0 (rd_field' (off := 2) rfl Tryz.underlying105 rfl info22 rfl) ?_
 refine s0 (rd_load' (i := 1) (o := 2) rfl ⟨rfl, rfl, rfl, rfl⟩ rfl flat22) ?_
 refine s0 (rd_nilany' rfl rfl (fun _ _ _ => by kernel_rfl) (fun _ _ _ _ => by kernel_rfl) nil_eql22_none nil_eql22_sl) ?_
 refine nk hK4 ?_
 refine tx_anybool' 22 rfl fun b1 hb1 => ?_
 refine cx_cond' rfl (fun h1 => ?_) (fun h1 => ?_)
 ·replace hp : gogeom_deriveDeepCopy_11_v3_j1 k a1_0 a1_1 a1_3 a1_2 [] = some out := by
   rw [hb1 h1] at hp
   first | exact hp | (rw [hb1 h1]; exact hp)
  refine cx_region' ?_
  refine s0 (rd_move' rfl) ?_
  refine s0 (rd_nilck' rfl) ?_
  refine s0 (rd_field' (off := 2) rfl Tryz.underlying105 rfl info22 rfl) ?_
  refine tx_nilrow' Kf 95 ?_
  refine sx_ox' (ox_store' (i := 1) (o := 2) rfl rfl (lv_vl rfl rfl) ⟨rfl, rfl, rfl, rfl⟩ rfl info22 rfl (H' := [(Rw Kf 95 (Vs (none, 0, 0)) []), ⟨.pointer (some wa0), [(Vi a1_0), (Vi a1_1), (Vl (Vs (none, 0, 0))), (Vi a0_3)], 105, none⟩, ⟨.pointer (some wa1), [(Vi a1_0), (Vi a1_1), (Sl Kf a1_2), (Vi a1_3)], 111, none⟩]) rfl) (wt_none' rfl) fun _ => ?_
  refine sx_nil' ?_
  show TX E K3 _
  exact tx_pick' [1, 0, 2] (sub_cons rfl (sub_cons rfl sub_nil)) (by decide) (pick_cons rfl (pick_cons rfl (pick_cons rfl pick_nil))) (hK3 ([], (none, 0, 0)) hp)
 clear h1
 refine cx_seq' fun K5 hK5 => ?_
 refine cr fun K6 hK6 => ?_
 refine s0 (rd_move' rfl) ?_
 refine s0 (rd_nilck' rfl) ?_
 refine s0 (rd_field' (off := 2) rfl Tryz.underlying105 rfl info22 rfl) ?_
 refine s0 (rd_load' (i := 0) (o := 2) rfl ⟨rfl, rfl, rfl, rfl⟩ rfl flat22) ?_
 refine s0 (rd_binf' rfl rfl (bf_vl (fun _ => by kernel_rfl) nil_neq22_nilsl)) ?_
 refine nk hK6 ?_
 refine cx_cond_f' rfl rfl ?_
 refine cx_region' ?_
 refine s0 (rd_move' rfl) ?_
 refine s0 (rd_move' rfl) ?_
 refine s0 (rd_nilck' rfl) ?_
 refine s0 (rd_field' (off := 2) rfl Tryz.underlying105 rfl info22 rfl) ?_
 refine s0 (rd_load' (i := 1) (o := 2) rfl ⟨rfl, rfl, rfl, rfl⟩ rfl flat22) ?_
 refine s0 (rd_len' rfl Tryz.underlying22) ?_
 obtain ⟨r105, hr105, hp⟩ := bind_some hp
 refine sx_ox' (ox_make' (K := Kf) rfl rfl hr105 rfl Tryz.underlying22 info95 rfl rfl rfl rfl rfl) (wt_none' rfl) fun g105 => ?_
 refine s0 (rd_nilck' rfl) ?_
 refine s0 (rd_field' (off := 2) rfl Tryz.underlying105 rfl info22 rfl) ?_
 refine sx_ox' (ox_store' (i := 1) (o := 2) rfl rfl (lv_vl rfl rfl) ⟨rfl, rfl, rfl, rfl⟩ rfl info22 rfl (H' := [(Rw Kf 95 (Vs g105) r105), ⟨.pointer (some wa0), [(Vi a1_0), (Vi a1_1), (Vl (Vs g105)), (Vi a0_3)], 105, none⟩, ⟨.pointer (some wa1), [(Vi a1_0), (Vi a1_1), (Sl Kf a1_2), (Vi a1_3)], 111, none⟩]) rfl) (wt_none' rfl) fun _ => ?_
 refine nk hK5 ?_
 refine cx_plan' [] [(8, 1)] [(0, 1), (1, 1), (2, 1), (3, 1), (4, 1), (5, 1), (6, 1), (7, 1), (8, 0)] mixed (by kernel_rfl) ?_
 refine px_rd' rfl (rd_move' rfl) rfl rfl (wt_none' rfl) ?_
 refine px_rd' rfl (rd_nilck' rfl) rfl rfl (wt_none' rfl) ?_
 refine px_rd' rfl (rd_field' (off := 2) rfl Tryz.underlying105 rfl info22 rfl) rfl rfl (wt_none' rfl) ?_
 refine px_rd' rfl (rd_load' (i := 1) (o := 2) rfl ⟨rfl, rfl, rfl, rfl⟩ rfl flat22) rfl rfl (wt_none' rfl) ?_
 refine px_rd' rfl (rd_move' rfl) rfl rfl (wt_none' rfl) ?_
 refine px_rd' rfl (rd_nilck' rfl) rfl rfl (wt_none' rfl) ?_
 refine px_rd' rfl (rd_field' (off := 2) rfl Tryz.underlying105 rfl info22 rfl) rfl rfl (wt_none' rfl) ?_
 refine px_rd' rfl (rd_load' (i := 2) (o := 2) rfl ⟨rfl, rfl, rfl, rfl⟩ rfl flat22) rfl rfl (wt_none' rfl) ?_
 refine px_ox' rfl (ox_copy' (i := 0) rfl rfl rfl rfl rfl Tryz.underlying22 info95 rfl rfl (H' := [(Rw Kf 95 (Vs g105) (cpy r105 a1_2)), ⟨.pointer (some wa0), [(Vi a1_0), (Vi a1_1), (Vl (Vs g105)), (Vi a0_3)], 105, none⟩, ⟨.pointer (some wa1), [(Vi a1_0), (Vi a1_1), (Sl Kf a1_2), (Vi a1_3)], 111, none⟩]) rfl) rfl bs_nil (wt_none' rfl) fun _ => ?_
 refine px_nil' ?_
 show TX E K3 _
 exact tx_pick' [1, 0, 2] (sub_cons rfl (sub_cons rfl sub_nil)) (by decide) (pick_cons rfl (pick_cons rfl (pick_cons rfl pick_nil))) (hK3 ((cpy r105 a1_2), g105) hp)

def gogeom_deriveDeepCopy_8_v2 (k : Nat) (a0_0 : Int) (a0_1 : Int) (a0_3 : Int) (a1_0 : Int) (a1_1 : Int) (a1_2 : List Nat) (a1_3 : Int) : Option (Int × Int × (List Nat) × Int × (List Nat)) :=
 (gogeom_deriveDeepCopy_11_v3 k 0 0 0 a1_0 a1_1 a1_2 a1_3) >>= fun r10 =>
 some (r10.1, r10.2.1, r10.2.2.1, r10.2.2.2.1, r10.2.2.2.2)

theorem gogeom_deriveDeepCopy_8_v2_sim {k : Nat} {wa0 : Addr} {wa1 : Addr} (a0_0 : Int) (a0_1 : Int) (a0_3 : Int) (a1_0 : Int) (a1_1 : Int) (a1_2 : List Nat) (a1_3 : Int) {out : Int × Int × (List Nat) × Int × (List Nat)} (hp : gogeom_deriveDeepCopy_8_v2 k a0_0 a0_1 a0_3 a1_0 a1_1 a1_2 a1_3 = some out) : Sx.Fn Tryz.prog 75 [(Vp wa0), (Vp wa1)] [⟨.pointer (some wa0), [(Vi a0_0), (Vi a0_1), Vn, (Vi a0_3)], 108, none⟩, ⟨.pointer (some wa1), [(Vi a1_0), (Vi a1_1), (Sl Kf a1_2), (Vi a1_3)], 111, none⟩] (fun w : Gs => (Vl (.tuple #[]))) (fun w => [⟨.pointer (some wa0), [(Vi out.1), (Vi out.2.1), (Vl (Vs w)), (Vi out.2.2.2.1)], 108, none⟩, (Rw Kf 95 (Vs w) out.2.2.1), ⟨.pointer (some wa1), [(Vi out.1), (Vi out.2.1), (Sl Kf out.2.2.2.2), (Vi out.2.2.2.1)], 111, none⟩]) := by
 unfold gogeom_deriveDeepCopy_8_v2 at hp
 refine fn_of Tryz.func75 rfl Tryz.ntmps75 rfl fun E hM => ?_
 refine cr fun K1 hK1 => ?_
 refine sx_ox' (ox_alloc' info105 rfl rfl rfl rfl (l := [(Vi 0), (Vi 0), Vn, (Vi 0)]) rfl) (wt_none' rfl) fun q5 => ?_
 refine s0 (rd_assign' rfl) ?_
 refine nk hK1 ?_
 refine cr fun K2 hK2 => ?_
 refine s0 (rd_move' rfl) ?_
 refine s0 (rd_move' rfl) ?_
 refine s0 (rd_nilck' rfl) ?_
 refine s0 (rd_field0' rfl Tryz.underlying108 rfl info105 rfl) ?_
 obtain ⟨r10, hr10, hp⟩ := bind_some hp
 refine sx_ox' (ox_callg' (ent_fn' Tryz.func74 isn74 rfl rfl) (gogeom_deriveDeepCopy_11_v3_sim _ _ _ _ _ _ _ hr10 : Sx.Fn Tryz.prog 74 [(Vp q5), (Vp wa1)] [⟨.pointer (some q5), [(Vi 0), (Vi 0), Vn, (Vi 0)], 105, none⟩, ⟨.pointer (some wa1), [(Vi a1_0), (Vi a1_1), (Sl Kf a1_2), (Vi a1_3)], 111, none⟩] (fun x : Gs => (Vl (.tuple #[]))) (fun x => [⟨.pointer (some q5), [(Vi r10.1), (Vi r10.2.1), (Vl (Vs x)), (Vi r10.2.2.2.1)], 105, none⟩, (Rw Kf 95 (Vs x) r10.2.2.1), ⟨.pointer (some wa1), [(Vi r10.1), (Vi r10.2.1), (Sl Kf r10.2.2.2.2), (Vi r10.2.2.2.1)], 111, none⟩])) [0, 2] [1] (by decide) (pick_cons rfl (pick_cons rfl pick_nil)) (pick_cons rfl pick_nil) (Hn := fun x : Gs => [⟨.pointer (some q5), [(Vi r10.1), (Vi r10.2.1), (Vl (Vs x)), (Vi r10.2.2.2.1)], 105, none⟩, (Rw Kf 95 (Vs x) r10.2.2.1), ⟨.pointer (some wa1), [(Vi r10.1), (Vi r10.2.1), (Sl Kf r10.2.2.2.2), (Vi r10.2.2.2.1)], 111, none⟩, ⟨.pointer (some wa0), [(Vi a0_0), (Vi a0_1), Vn, (Vi a0_3)], 108, none⟩]) (fun _ => rfl) rfl rfl) (wt_none' rfl) fun g10 => ?_
 refine nk hK2 ?_
 refine cx_region' ?_
 refine s0 (rd_move' rfl) ?_
 refine s0 (rd_move' rfl) ?_
 refine s0 (rd_nilck' rfl) ?_
 refine s0 (rd_load_agg' (i := 0) (o := 0) (nn := 4) rfl ⟨rfl, rfl, rfl, rfl⟩ rfl agg105 (l' := [(Vi r10.1), (Vi r10.2.1), (Vl (Vs g10)), (Vi r10.2.2.2.1)]) rfl) ?_
 refine s0 (rd_nilck' rfl) ?_
 refine s0 (rd_field0' rfl Tryz.underlying108 rfl info105 rfl) ?_
 refine sx_ox' (ox_store' (i := 3) (o := 0) rfl rfl (lv_ag _) ⟨rfl, rfl, rfl, rfl⟩ rfl info105 rfl (H' := [⟨.pointer (some q5), [(Vi r10.1), (Vi r10.2.1), (Vl (Vs g10)), (Vi r10.2.2.2.1)], 105, none⟩, (Rw Kf 95 (Vs g10) r10.2.2.1), ⟨.pointer (some wa1), [(Vi r10.1), (Vi r10.2.1), (Sl Kf r10.2.2.2.2), (Vi r10.2.2.2.1)], 111, none⟩, ⟨.pointer (some wa0), [(Vi r10.1), (Vi r10.2.1), (Vl (Vs g10)), (Vi r10.2.2.2.1)], 108, none⟩]) rfl) (wt_none' rfl) fun _ => ?_
 refine sx_nil' ?_
 replace hp := Option.some.inj hp
 subst hp
 refine tx_pick' (L' := []) (H' := [⟨.pointer (some wa0), [(Vi r10.1), (Vi r10.2.1), (Vl (Vs g10)), (Vi r10.2.2.2.1)], 108, none⟩, (Rw Kf 95 (Vs g10) r10.2.2.1), ⟨.pointer (some wa1), [(Vi r10.1), (Vi r10.2.1), (Sl Kf r10.2.2.2.2), (Vi r10.2.2.2.1)], 111, none⟩]) [3, 1, 2] sub_nil (by decide) (pick_cons rfl (pick_cons rfl (pick_cons rfl pick_nil))) ?_
 exact tx_end0' Tryz.results75 rfl g10 rfl (List.Sublist.refl _)

def gogeom_deriveDeepCopy_1 (k : Nat) (a0_0 : Int) (a0_1 : Int) (a0_3 : Int) (a1_0 : Int) (a1_1 : Int) (a1_2 : List Nat) (a1_3 : Int) : Option (Int × Int × (List Nat) × Int × (List Nat)) :=
 (gogeom_deriveDeepCopy_8_v2 k 0 0 0 a1_0 a1_1 a1_2 a1_3) >>= fun r10 =>
 some (r10.1, r10.2.1, r10.2.2.1, r10.2.2.2.1, r10.2.2.2.2)

theorem gogeom_deriveDeepCopy_1_sim {k : Nat} {wa0 : Addr} {wa1 : Addr} (a0_0 : Int) (a0_1 : Int) (a0_3 : Int) (a1_0 : Int) (a1_1 : Int) (a1_2 : List Nat) (a1_3 : Int) {out : Int × Int × (List Nat) × Int × (List Nat)} (hp : gogeom_deriveDeepCopy_1 k a0_0 a0_1 a0_3 a1_0 a1_1 a1_2 a1_3 = some out) : Sx.Fn Tryz.prog 67 [(Vp wa0), (Vp wa1)] [⟨.pointer (some wa0), [(Vi a0_0), (Vi a0_1), Vn, (Vi a0_3)], 111, none⟩, ⟨.pointer (some wa1), [(Vi a1_0), (Vi a1_1), (Sl Kf a1_2), (Vi a1_3)], 111, none⟩] (fun w : Gs => (Vl (.tuple #[]))) (fun w => [⟨.pointer (some wa0), [(Vi out.1), (Vi out.2.1), (Vl (Vs w)), (Vi out.2.2.2.1)], 111, none⟩, (Rw Kf 95 (Vs w) out.2.2.1), ⟨.pointer (some wa1), [(Vi out.1), (Vi out.2.1), (Sl Kf out.2.2.2.2), (Vi out.2.2.2.1)], 111, none⟩]) := by
 unfold gogeom_deriveDeepCopy_1 at hp
 refine fn_of Tryz.func67 rfl Tryz.ntmps67 rfl fun E hM => ?_
 refine cr fun K1 hK1 => ?_
 refine sx_ox' (ox_alloc' info108 rfl rfl rfl rfl (l := [(Vi 0), (Vi 0), Vn, (Vi 0)]) rfl) (wt_none' rfl) fun q5 => ?_
 refine s0 (rd_assign' rfl) ?_
 refine nk hK1 ?_
 refine cr fun K2 hK2 => ?_
 refine s0 (rd_move' rfl) ?_
 refine s0 (rd_move' rfl) ?_
 refine s0 (rd_nilck' rfl) ?_
 refine s0 (rd_field0' rfl Tryz.underlying111 rfl info108 rfl) ?_
 obtain ⟨r10, hr10, hp⟩ := bind_some hp
 refine sx_ox' (ox_callg' (ent_fn' Tryz.func75 isn75 rfl rfl) (gogeom_deriveDeepCopy_8_v2_sim _ _ _ _ _ _ _ hr10 : Sx.Fn Tryz.prog 75 [(Vp q5), (Vp wa1)] [⟨.pointer (some q5), [(Vi 0), (Vi 0), Vn, (Vi 0)], 108, none⟩, ⟨.pointer (some wa1), [(Vi a1_0), (Vi a1_1), (Sl Kf a1_2), (Vi a1_3)], 111, none⟩] (fun x : Gs => (Vl (.tuple #[]))) (fun x => [⟨.pointer (some q5), [(Vi r10.1), (Vi r10.2.1), (Vl (Vs x)), (Vi r10.2.2.2.1)], 108, none⟩, (Rw Kf 95 (Vs x) r10.2.2.1), ⟨.pointer (some wa1), [(Vi r10.1), (Vi r10.2.1), (Sl Kf r10.2.2.2.2), (Vi r10.2.2.2.1)], 111, none⟩])) [0, 2] [1] (by decide) (pick_cons rfl (pick_cons rfl pick_nil)) (pick_cons rfl pick_nil) (Hn := fun x : Gs => [⟨.pointer (some q5), [(Vi r10.1), (Vi r10.2.1), (Vl (Vs x)), (Vi r10.2.2.2.1)], 108, none⟩, (Rw Kf 95 (Vs x) r10.2.2.1), ⟨.pointer (some wa1), [(Vi r10.1), (Vi r10.2.1), (Sl Kf r10.2.2.2.2), (Vi r10.2.2.2.1)], 111, none⟩, ⟨.pointer (some wa0), [(Vi a0_0), (Vi a0_1), Vn, (Vi a0_3)], 111, none⟩]) (fun _ => rfl) rfl rfl) (wt_none' rfl) fun g10 => ?_
 refine nk hK2 ?_
 refine cx_region' ?_
 refine s0 (rd_move' rfl) ?_
 refine s0 (rd_move' rfl) ?_
 refine s0 (rd_nilck' rfl) ?_
 refine s0 (rd_load_agg' (i := 0) (o := 0) (nn := 4) rfl ⟨rfl, rfl, rfl, rfl⟩ rfl agg108 (l' := [(Vi r10.1), (Vi r10.2.1), (Vl (Vs g10)), (Vi r10.2.2.2.1)]) rfl) ?_
 refine s0 (rd_nilck' rfl) ?_
 refine s0 (rd_field0' rfl Tryz.underlying111 rfl info108 rfl) ?_
 refine sx_ox' (ox_store' (i := 3) (o := 0) rfl rfl (lv_ag _) ⟨rfl, rfl, rfl, rfl⟩ rfl info108 rfl (H' := [⟨.pointer (some q5), [(Vi r10.1), (Vi r10.2.1), (Vl (Vs g10)), (Vi r10.2.2.2.1)], 108, none⟩, (Rw Kf 95 (Vs g10) r10.2.2.1), ⟨.pointer (some wa1), [(Vi r10.1), (Vi r10.2.1), (Sl Kf r10.2.2.2.2), (Vi r10.2.2.2.1)], 111, none⟩, ⟨.pointer (some wa0), [(Vi r10.1), (Vi r10.2.1), (Vl (Vs g10)), (Vi r10.2.2.2.1)], 111, none⟩]) rfl) (wt_none' rfl) fun _ => ?_
 refine sx_nil' ?_
 replace hp := Option.some.inj hp
 subst hp
 refine tx_pick' (L' := []) (H' := [⟨.pointer (some wa0), [(Vi r10.1), (Vi r10.2.1), (Vl (Vs g10)), (Vi r10.2.2.2.1)], 111, none⟩, (Rw Kf 95 (Vs g10) r10.2.2.1), ⟨.pointer (some wa1), [(Vi r10.1), (Vi r10.2.1), (Sl Kf r10.2.2.2.2), (Vi r10.2.2.2.1)], 111, none⟩]) [3, 1, 2] sub_nil (by decide) (pick_cons rfl (pick_cons rfl (pick_cons rfl pick_nil))) ?_
 exact tx_end0' Tryz.results67 rfl g10 rfl (List.Sublist.refl _)

def gogeom_deriveCloneLinearRing (k : Nat) (a0_0 : Int) (a0_1 : Int) (a0_2 : List Nat) (a0_3 : Int) : Option (Int × Int × (List Nat) × Int × (List Nat)) :=
 (gogeom_deriveDeepCopy_1 k 0 0 0 a0_0 a0_1 a0_2 a0_3) >>= fun r9 =>
 some (r9.1, r9.2.1, r9.2.2.2.2, r9.2.2.2.1, r9.2.2.1)

theorem gogeom_deriveCloneLinearRing_sim {k : Nat} {wa0 : Addr} (a0_0 : Int) (a0_1 : Int) (a0_2 : List Nat) (a0_3 : Int) {out : Int × Int × (List Nat) × Int × (List Nat)} (hp : gogeom_deriveCloneLinearRing k a0_0 a0_1 a0_2 a0_3 = some out) : Sx.Fn Tryz.prog 50 [(Vp wa0)] [⟨.pointer (some wa0), [(Vi a0_0), (Vi a0_1), (Sl Kf a0_2), (Vi a0_3)], 111, none⟩] (fun w : Addr × Gs => (Vp w.1)) (fun w => [⟨.pointer (some wa0), [(Vi out.1), (Vi out.2.1), (Sl Kf out.2.2.1), (Vi out.2.2.2.1)], 111, none⟩, ⟨.pointer (some w.1), [(Vi out.1), (Vi out.2.1), (Vl (Vs w.2)), (Vi out.2.2.2.1)], 111, none⟩, (Rw Kf 95 (Vs w.2) out.2.2.2.2)]) := by
 unfold gogeom_deriveCloneLinearRing at hp
 refine fn_of Tryz.func50 rfl Tryz.ntmps50 rfl fun E hM => ?_
 refine cr fun K1 hK1 => ?_
 refine s0 (rd_assign' rfl) ?_
 refine nk hK1 ?_
 refine cx_seq' fun K2 hK2 => ?_
 refine cr fun K3 hK3 => ?_
 refine s0 (rd_move' rfl) ?_
 refine s0 (rd_binf' rfl rfl (bf_vl (fun _ => by kernel_rfl) (nil_eql42_ptr _))) ?_
 refine nk hK3 ?_
 refine cx_cond_f' rfl rfl ?_
 refine cx_skip' ?_
 show TX E K2 _
 refine tx_k' hK2 ?_
 refine cr fun K4 hK4 => ?_
 refine sx_ox' (ox_alloc' info111 rfl rfl rfl rfl (l := [(Vi 0), (Vi 0), Vn, (Vi 0)]) rfl) (wt_none' rfl) fun q6 => ?_
 refine s0 (rd_assign' rfl) ?_
 refine nk hK4 ?_
 refine cr fun K5 hK5 => ?_
 refine s0 (rd_move' rfl) ?_
 refine s0 (rd_move' rfl) ?_
 obtain ⟨r9, hr9, hp⟩ := bind_some hp
 refine sx_ox' (ox_callg' (ent_fn' Tryz.func67 isn67 rfl rfl) (gogeom_deriveDeepCopy_1_sim _ _ _ _ _ _ _ hr9 : Sx.Fn Tryz.prog 67 [(Vp q6), (Vp wa0)] [⟨.pointer (some q6), [(Vi 0), (Vi 0), Vn, (Vi 0)], 111, none⟩, ⟨.pointer (some wa0), [(Vi a0_0), (Vi a0_1), (Sl Kf a0_2), (Vi a0_3)], 111, none⟩] (fun x : Gs => (Vl (.tuple #[]))) (fun x => [⟨.pointer (some q6), [(Vi r9.1), (Vi r9.2.1), (Vl (Vs x)), (Vi r9.2.2.2.1)], 111, none⟩, (Rw Kf 95 (Vs x) r9.2.2.1), ⟨.pointer (some wa0), [(Vi r9.1), (Vi r9.2.1), (Sl Kf r9.2.2.2.2), (Vi r9.2.2.2.1)], 111, none⟩])) [0, 1] [] (by decide) (pick_cons rfl (pick_cons rfl pick_nil)) pick_nil (Hn := fun x : Gs => [⟨.pointer (some q6), [(Vi r9.1), (Vi r9.2.1), (Vl (Vs x)), (Vi r9.2.2.2.1)], 111, none⟩, (Rw Kf 95 (Vs x) r9.2.2.1), ⟨.pointer (some wa0), [(Vi r9.1), (Vi r9.2.1), (Sl Kf r9.2.2.2.2), (Vi r9.2.2.2.1)], 111, none⟩]) (fun _ => rfl) rfl rfl) (wt_none' rfl) fun g9 => ?_
 refine nk hK5 ?_
 refine cr fun K6 hK6 => ?_
 refine s0 (rd_move' rfl) ?_
 refine s0 (rd_assign' rfl) ?_
 refine nk hK6 ?_
 refine cx_retc' ?_
 replace hp := Option.some.inj hp
 subst hp
 refine tx_pick' (L' := [(2, (Vp q6))]) (H' := [⟨.pointer (some wa0), [(Vi r9.1), (Vi r9.2.1), (Sl Kf r9.2.2.2.2), (Vi r9.2.2.2.1)], 111, none⟩, ⟨.pointer (some q6), [(Vi r9.1), (Vi r9.2.1), (Vl (Vs g9)), (Vi r9.2.2.2.1)], 111, none⟩, (Rw Kf 95 (Vs g9) r9.2.2.1)]) [2, 0, 1] (sub_cons rfl sub_nil) (by decide) (pick_cons rfl (pick_cons rfl (pick_cons rfl pick_nil))) ?_
 exact tx_ret1' Tryz.results50 rfl (q6, g9) (rv_tmp' rfl) (List.Sublist.refl _)

def gogeom_LinearRing_Clone (k : Nat) (a0_0 : Int) (a0_1 : Int) (a0_2 : List Nat) (a0_3 : Int) : Option (Int × Int × (List Nat) × Int × (List Nat)) :=
 (gogeom_deriveCloneLinearRing k a0_0 a0_1 a0_2 a0_3) >>= fun r4 =>
 some (r4.1, r4.2.1, r4.2.2.1, r4.2.2.2.1, r4.2.2.2.2)

theorem gogeom_LinearRing_Clone_sim {k : Nat} {wa0 : Addr} (a0_0 : Int) (a0_1 : Int) (a0_2 : List Nat) (a0_3 : Int) {out : Int × Int × (List Nat) × Int × (List Nat)} (hp : gogeom_LinearRing_Clone k a0_0 a0_1 a0_2 a0_3 = some out) : Sx.Fn Tryz.prog 15 [(Vp wa0)] [⟨.pointer (some wa0), [(Vi a0_0), (Vi a0_1), (Sl Kf a0_2), (Vi a0_3)], 111, none⟩] (fun w : Addr × Gs => (Vp w.1)) (fun w => [⟨.pointer (some wa0), [(Vi out.1), (Vi out.2.1), (Sl Kf out.2.2.1), (Vi out.2.2.2.1)], 111, none⟩, ⟨.pointer (some w.1), [(Vi out.1), (Vi out.2.1), (Vl (Vs w.2)), (Vi out.2.2.2.1)], 111, none⟩, (Rw Kf 95 (Vs w.2) out.2.2.2.2)]) := by
 unfold gogeom_LinearRing_Clone at hp
 refine fn_of Tryz.func15 rfl Tryz.ntmps15 rfl fun E hM => ?_
 refine cr fun K1 hK1 => ?_
 refine s0 (rd_assign' rfl) ?_
 refine nk hK1 ?_
 refine cr fun K2 hK2 => ?_
 refine s0 (rd_move' rfl) ?_
 obtain ⟨r4, hr4, hp⟩ := bind_some hp
 refine sx_ox' (ox_callg' (ent_fn' Tryz.func50 isn50 rfl rfl) (gogeom_deriveCloneLinearRing_sim _ _ _ _ hr4 : Sx.Fn Tryz.prog 50 [(Vp wa0)] [⟨.pointer (some wa0), [(Vi a0_0), (Vi a0_1), (Sl Kf a0_2), (Vi a0_3)], 111, none⟩] (fun x : Addr × Gs => (Vp x.1)) (fun x => [⟨.pointer (some wa0), [(Vi r4.1), (Vi r4.2.1), (Sl Kf r4.2.2.1), (Vi r4.2.2.2.1)], 111, none⟩, ⟨.pointer (some x.1), [(Vi r4.1), (Vi r4.2.1), (Vl (Vs x.2)), (Vi r4.2.2.2.1)], 111, none⟩, (Rw Kf 95 (Vs x.2) r4.2.2.2.2)])) [0] [] (by decide) (pick_cons rfl pick_nil) pick_nil (Hn := fun x : Addr × Gs => [⟨.pointer (some wa0), [(Vi r4.1), (Vi r4.2.1), (Sl Kf r4.2.2.1), (Vi r4.2.2.2.1)], 111, none⟩, ⟨.pointer (some x.1), [(Vi r4.1), (Vi r4.2.1), (Vl (Vs x.2)), (Vi r4.2.2.2.1)], 111, none⟩, (Rw Kf 95 (Vs x.2) r4.2.2.2.2)]) (fun _ => rfl) rfl rfl) (wt_none' rfl) fun ⟨q4, g4⟩ => ?_
 refine s0 (rd_assign' rfl) ?_
 refine nk hK2 ?_
 refine cx_retc' ?_
 replace hp := Option.some.inj hp
 subst hp
 refine tx_pick' (L' := [(2, (Vp q4))]) (H' := [⟨.pointer (some wa0), [(Vi r4.1), (Vi r4.2.1), (Sl Kf r4.2.2.1), (Vi r4.2.2.2.1)], 111, none⟩, ⟨.pointer (some q4), [(Vi r4.1), (Vi r4.2.1), (Vl (Vs g4)), (Vi r4.2.2.2.1)], 111, none⟩, (Rw Kf 95 (Vs g4) r4.2.2.2.2)]) [0, 1, 2] (sub_cons rfl sub_nil) (by decide) (pick_cons rfl (pick_cons rfl (pick_cons rfl pick_nil))) ?_
 exact tx_ret1' Tryz.results15 rfl (q4, g4) (rv_tmp' rfl) (List.Sublist.refl _)

def gogeom_geom0_SRID_v3 (k : Nat) (a0_0 : Int) (a0_1 : Int) (a0_2 : List Nat) (a0_3 : Int) : Option (Int × Int × (List Nat) × Int) :=
 some (a0_0, a0_1, a0_2, a0_3)

theorem gogeom_geom0_SRID_v3_sim {k : Nat} {wa0 : Addr} {wa0_2 : Gs} (a0_0 : Int) (a0_1 : Int) (a0_2 : List Nat) (a0_3 : Int) {out : Int × Int × (List Nat) × Int} (hp : gogeom_geom0_SRID_v3 k a0_0 a0_1 a0_2 a0_3 = some out) : Sx.Fn Tryz.prog 101 [(Vp wa0)] [⟨.pointer (some wa0), [(Vi a0_0), (Vi a0_1), (Vl (Vs wa0_2)), (Vi a0_3)], 111, none⟩, (Rw Kf 95 (Vs wa0_2) a0_2)] (fun w : Unit => (Vi out.2.2.2)) (fun w => [⟨.pointer (some wa0), [(Vi out.1), (Vi out.2.1), (Vl (Vs wa0_2)), (Vi out.2.2.2)], 111, none⟩, (Rw Kf 95 (Vs wa0_2) out.2.2.1)]) := by
 unfold gogeom_geom0_SRID_v3 at hp
 refine fn_of Tryz.func101 rfl Tryz.ntmps101 rfl fun E hM => ?_
 refine cr fun K1 hK1 => ?_
 refine s0 (rd_assign' rfl) ?_
 refine nk hK1 ?_
 refine cr fun K2 hK2 => ?_
 refine s0 (rd_move' rfl) ?_
 refine s0 (rd_nilck' rfl) ?_
 refine s0 (rd_field' (off := 3) rfl Tryz.underlying105 rfl info3 rfl) ?_
 refine s0 (rd_load' (i := 0) (o := 3) rfl ⟨rfl, rfl, rfl, rfl⟩ rfl flat3) ?_
 refine s0 (rd_assign' rfl) ?_
 refine nk hK2 ?_
 refine cx_retc' ?_
 replace hp := Option.some.inj hp
 subst hp
 refine tx_pick' (L' := [(2, (Vi a0_3))]) (H' := [⟨.pointer (some wa0), [(Vi a0_0), (Vi a0_1), (Vl (Vs wa0_2)), (Vi a0_3)], 111, none⟩, (Rw Kf 95 (Vs wa0_2) a0_2)]) [0, 1] (sub_cons rfl sub_nil) (by decide) (pick_cons rfl (pick_cons rfl pick_nil)) ?_
 exact tx_ret1' Tryz.results101 rfl () (rv_tmp' rfl) (List.Sublist.refl _)

def gogeom_geom0_Layout_v3 (k : Nat) (a0_0 : Int) (a0_1 : Int) (a0_2 : List Nat) (a0_3 : Int) : Option (Int × Int × (List Nat) × Int) :=
 some (a0_0, a0_1, a0_2, a0_3)

theorem gogeom_geom0_Layout_v3_sim {k : Nat} {wa0 : Addr} {wa0_2 : Gs} (a0_0 : Int) (a0_1 : Int) (a0_2 : List Nat) (a0_3 : Int) {out : Int × Int × (List Nat) × Int} (hp : gogeom_geom0_Layout_v3 k a0_0 a0_1 a0_2 a0_3 = some out) : Sx.Fn Tryz.prog 100 [(Vp wa0)] [⟨.pointer (some wa0), [(Vi a0_0), (Vi a0_1), (Vl (Vs wa0_2)), (Vi a0_3)], 111, none⟩, (Rw Kf 95 (Vs wa0_2) a0_2)] (fun w : Unit => (Vi out.1)) (fun w => [⟨.pointer (some wa0), [(Vi out.1), (Vi out.2.1), (Vl (Vs wa0_2)), (Vi out.2.2.2)], 111, none⟩, (Rw Kf 95 (Vs wa0_2) out.2.2.1)]) := by
 unfold gogeom_geom0_Layout_v3 at hp
 refine fn_of Tryz.func100 rfl Tryz.ntmps100 rfl fun E hM => ?_
 refine cr fun K1 hK1 => ?_
 refine s0 (rd_assign' rfl) ?_
 refine nk hK1 ?_
 refine cr fun K2 hK2 => ?_
 refine s0 (rd_move' rfl) ?_
 refine s0 (rd_nilck' rfl) ?_
 refine s0 (rd_field0' rfl Tryz.underlying105 rfl info54 rfl) ?_
 refine s0 (rd_load' (i := 0) (o := 0) rfl ⟨rfl, rfl, rfl, rfl⟩ rfl flat54) ?_
 refine s0 (rd_assign' rfl) ?_
 refine nk hK2 ?_
 refine cx_retc' ?_
 replace hp := Option.some.inj hp
 subst hp
 refine tx_pick' (L' := [(2, (Vi a0_0))]) (H' := [⟨.pointer (some wa0), [(Vi a0_0), (Vi a0_1), (Vl (Vs wa0_2)), (Vi a0_3)], 111, none⟩, (Rw Kf 95 (Vs wa0_2) a0_2)]) [0, 1] (sub_cons rfl sub_nil) (by decide) (pick_cons rfl (pick_cons rfl pick_nil)) ?_
 exact tx_ret1' Tryz.results100 rfl () (rv_tmp' rfl) (List.Sublist.refl _)

def gogeom_geom0_FlatCoords_v3 (k : Nat) (a0_0 : Int) (a0_1 : Int) (a0_2 : List Nat) (a0_3 : Int) : Option (Int × Int × (List Nat) × Int) :=
 some (a0_0, a0_1, a0_2, a0_3)

theorem gogeom_geom0_FlatCoords_v3_sim {k : Nat} {wa0 : Addr} {wa0_2 : Gs} (a0_0 : Int) (a0_1 : Int) (a0_2 : List Nat) (a0_3 : Int) {out : Int × Int × (List Nat) × Int} (hp : gogeom_geom0_FlatCoords_v3 k a0_0 a0_1 a0_2 a0_3 = some out) : Sx.Fn Tryz.prog 99 [(Vp wa0)] [⟨.pointer (some wa0), [(Vi a0_0), (Vi a0_1), (Vl (Vs wa0_2)), (Vi a0_3)], 111, none⟩, (Rw Kf 95 (Vs wa0_2) a0_2)] (fun w : Unit => (Sl Kf out.2.2.1)) (fun w => [⟨.pointer (some wa0), [(Vi out.1), (Vi out.2.1), (Sl Kf out.2.2.1), (Vi out.2.2.2)], 111, none⟩]) := by
 unfold gogeom_geom0_FlatCoords_v3 at hp
 refine fn_of Tryz.func99 rfl Tryz.ntmps99 rfl fun E hM => ?_
 refine cr fun K1 hK1 => ?_
 refine s0 (rd_assign' rfl) ?_
 refine nk hK1 ?_
 refine cr fun K2 hK2 => ?_
 refine s0 (rd_move' rfl) ?_
 refine s0 (rd_nilck' rfl) ?_
 refine s0 (rd_field' (off := 2) rfl Tryz.underlying105 rfl info22 rfl) ?_
 refine s0 (rd_load' (i := 0) (o := 2) rfl ⟨rfl, rfl, rfl, rfl⟩ rfl flat22) ?_
 refine s0 (rd_assign' rfl) ?_
 refine nk hK2 ?_
 refine cx_retc' ?_
 replace hp := Option.some.inj hp
 subst hp
 refine tx_fz' (frz_row 1 [(2, (Vl (Vs wa0_2)), (Sl Kf a0_2)), (6, (Vl (Vs wa0_2)), (Sl Kf a0_2))] (K := Kf) (xs := a0_2) (by decide) rfl ⟨⟨rfl, frz_it⟩, ⟨rfl, frz_it⟩, trivial⟩ (H' := [⟨.pointer (some wa0), [(Vi a0_0), (Vi a0_1), (Sl Kf a0_2), (Vi a0_3)], 111, none⟩]) (frzH_cons rfl rfl rfl (frzL_cons frz_same (frzL_cons frz_same (frzL_cons frz_it (frzL_cons frz_same frzL_refl)))) frzH_refl)) ?_
 refine tx_pick' (L' := [(2, (Sl Kf a0_2))]) (H' := [⟨.pointer (some wa0), [(Vi a0_0), (Vi a0_1), (Sl Kf a0_2), (Vi a0_3)], 111, none⟩]) [0] (sub_cons rfl sub_nil) (by decide) (pick_cons rfl pick_nil) ?_
 exact tx_ret1' Tryz.results99 rfl () (rv_tmp' rfl) (List.Sublist.refl _)

def gogeom_geom0_Ends_v3 (k : Nat) (a0_0 : Int) (a0_1 : Int) (a0_2 : List Nat) (a0_3 : Int) : Option (Int × Int × (List Nat) × Int) :=
 some (a0_0, a0_1, a0_2, a0_3)

theorem gogeom_geom0_Ends_v3_sim {k : Nat} {wa0 : Addr} (a0_0 : Int) (a0_1 : Int) (a0_2 : List Nat) (a0_3 : Int) {out : Int × Int × (List Nat) × Int} (hp : gogeom_geom0_Ends_v3 k a0_0 a0_1 a0_2 a0_3 = some out) : Sx.Fn Tryz.prog 97 [(Vp wa0)] [⟨.pointer (some wa0), [(Vi a0_0), (Vi a0_1), (Sl Kf a0_2), (Vi a0_3)], 111, none⟩] (fun w : Unit => Vn) (fun w => [⟨.pointer (some wa0), [(Vi out.1), (Vi out.2.1), (Sl Kf out.2.2.1), (Vi out.2.2.2)], 111, none⟩]) := by
 unfold gogeom_geom0_Ends_v3 at hp
 refine fn_of Tryz.func97 rfl Tryz.ntmps97 rfl fun E hM => ?_
 refine cr fun K1 hK1 => ?_
 refine s0 (rd_assign' rfl) ?_
 refine nk hK1 ?_
 refine cr fun K2 hK2 => ?_
 refine s0 (rd_assign' rfl) ?_
 refine nk hK2 ?_
 refine cx_retc' ?_
 replace hp := Option.some.inj hp
 subst hp
 refine tx_pick' (L' := [(2, Vn)]) (H' := [⟨.pointer (some wa0), [(Vi a0_0), (Vi a0_1), (Sl Kf a0_2), (Vi a0_3)], 111, none⟩]) [0] (sub_cons rfl sub_nil) (by decide) (pick_cons rfl pick_nil) ?_
 exact tx_ret1' Tryz.results97 rfl () (rv_tmp' rfl) (List.Sublist.refl _)

def gogeom_geom0_Endss_v3 (k : Nat) (a0_0 : Int) (a0_1 : Int) (a0_2 : List Nat) (a0_3 : Int) : Option (Int × Int × (List Nat) × Int) :=
 some (a0_0, a0_1, a0_2, a0_3)

theorem gogeom_geom0_Endss_v3_sim {k : Nat} {wa0 : Addr} (a0_0 : Int) (a0_1 : Int) (a0_2 : List Nat) (a0_3 : Int) {out : Int × Int × (List Nat) × Int} (hp : gogeom_geom0_Endss_v3 k a0_0 a0_1 a0_2 a0_3 = some out) : Sx.Fn Tryz.prog 98 [(Vp wa0)] [⟨.pointer (some wa0), [(Vi a0_0), (Vi a0_1), (Sl Kf a0_2), (Vi a0_3)], 111, none⟩] (fun w : Unit => Vn) (fun w => [⟨.pointer (some wa0), [(Vi out.1), (Vi out.2.1), (Sl Kf out.2.2.1), (Vi out.2.2.2)], 111, none⟩]) := by
 unfold gogeom_geom0_Endss_v3 at hp
 refine fn_of Tryz.func98 rfl Tryz.ntmps98 rfl fun E hM => ?_
 refine cr fun K1 hK1 => ?_
 refine s0 (rd_assign' rfl) ?_
 refine nk hK1 ?_
 refine cr fun K2 hK2 => ?_
 refine s0 (rd_assign' rfl) ?_
 refine nk hK2 ?_
 refine cx_retc' ?_
 replace hp := Option.some.inj hp
 subst hp
 refine tx_pick' (L' := [(2, Vn)]) (H' := [⟨.pointer (some wa0), [(Vi a0_0), (Vi a0_1), (Sl Kf a0_2), (Vi a0_3)], 111, none⟩]) [0] (sub_cons rfl sub_nil) (by decide) (pick_cons rfl pick_nil) ?_
 exact tx_ret1' Tryz.results98 rfl () (rv_tmp' rfl) (List.Sublist.refl _)

def impl_plain_v3 (k : Nat) (a0_0 : Int) (a0_1 : Int) (a0_2 : List Nat) (a0_3 : Int) : Option (Int × Int × (List Nat) × Int × Int × Int × Int × (List Nat) × (List Int)) :=
 (gogeom_geom0_SRID_v3 k a0_0 a0_1 a0_2 a0_3) >>= fun r15 =>
 (gogeom_geom0_Layout_v3 k r15.1 r15.2.1 r15.2.2.1 r15.2.2.2) >>= fun r70 =>
 (gogeom_geom0_FlatCoords_v3 k r70.1 r70.2.1 r70.2.2.1 r70.2.2.2) >>= fun r72 =>
 (impl_floats k r72.2.2.1) >>= fun r73 =>
 (gogeom_geom0_Ends_v3 k r72.1 r72.2.1 r72.2.2.1 r72.2.2.2) >>= fun r75 =>
 (impl_ints_v2 k) >>= fun r76 =>
 (gogeom_geom0_Endss_v3 k r75.1 r75.2.1 r75.2.2.1 r75.2.2.2) >>= fun r78 =>
 (impl_intss_v2 k) >>= fun r79 =>
 some (r78.1, r78.2.1, r78.2.2.1, r78.2.2.2, 8, r70.1, r15.2.2.2, r73, r76)

theorem impl_plain_v3_sim {k : Nat} {wa0 : Addr} {wa0_2 : Gs} (a0_0 : Int) (a0_1 : Int) (a0_2 : List Nat) (a0_3 : Int) {out : Int × Int × (List Nat) × Int × Int × Int × Int × (List Nat) × (List Int)} (hp : impl_plain_v3 k a0_0 a0_1 a0_2 a0_3 = some out) : Sx.Fn Tryz.prog 12 [(If 42 (Vp wa0))] [⟨.pointer (some wa0), [(Vi a0_0), (Vi a0_1), (Vl (Vs wa0_2)), (Vi a0_3)], 111, none⟩, (Rw Kf 95 (Vs wa0_2) a0_2)] (fun w : Unit => (Ag [(Vi out.2.2.2.2.1), (Vi out.2.2.2.2.2.1), (Vi out.2.2.2.2.2.2.1), (Sl Kf out.2.2.2.2.2.2.2.1), (Sl (Ki .i64) out.2.2.2.2.2.2.2.2), Vn, Vn])) (fun w => [⟨.pointer (some wa0), [(Vi out.1), (Vi out.2.1), (Sl Kf out.2.2.1), (Vi out.2.2.2.1)], 111, none⟩]) := by
 unfold impl_plain_v3 at hp
 refine fn_of Tryz.func12 rfl Tryz.ntmps12 rfl fun E hM => ?_
 refine cr fun K1 hK1 => ?_
 refine sx_ox' (ox_alloc' info27 rfl rfl rfl rfl (l := [(Vi 0), (Vi 0), (Vi 0), Vn, Vn, Vn, Vn]) rfl) (wt_none' rfl) fun q2 => ?_
 refine nk hK1 ?_
 refine cr fun K2 hK2 => ?_
 refine s0 (rd_move' rfl) ?_
 obtain ⟨r15, hr15, hp⟩ := bind_some hp
 refine sx_ox' (ox_callg' (ent_inv' rfl rfl (inv_ptr0 (inv42_SRID _))) (gogeom_geom0_SRID_v3_sim _ _ _ _ hr15 : Sx.Fn Tryz.prog 101 [(Vp wa0)] [⟨.pointer (some wa0), [(Vi a0_0), (Vi a0_1), (Vl (Vs wa0_2)), (Vi a0_3)], 111, none⟩, (Rw Kf 95 (Vs wa0_2) a0_2)] (fun x : Unit => (Vi r15.2.2.2)) (fun x => [⟨.pointer (some wa0), [(Vi r15.1), (Vi r15.2.1), (Vl (Vs wa0_2)), (Vi r15.2.2.2)], 111, none⟩, (Rw Kf 95 (Vs wa0_2) r15.2.2.1)])) [1, 2] [0] (by decide) (pick_cons rfl (pick_cons rfl pick_nil)) (pick_cons rfl pick_nil) (Hn := fun x : Unit => [⟨.pointer (some wa0), [(Vi r15.1), (Vi r15.2.1), (Vl (Vs wa0_2)), (Vi r15.2.2.2)], 111, none⟩, (Rw Kf 95 (Vs wa0_2) r15.2.2.1), ⟨.pointer (some q2), [(Vi 0), (Vi 0), (Vi 0), Vn, Vn, Vn, Vn], 27, none⟩]) (fun _ => rfl) rfl rfl) (wt_none' rfl) fun ⟨⟩ => ?_
 refine s0 (rd_build' (pls := [(0, 1), (1, 1), (2, 1), (3, 1), (4, 1), (5, 1), (6, 1)]) (qs := [(2, [(Vi r15.2.2.2)])]) (r := [(Vi 0), (Vi 0), (Vi r15.2.2.2), Vn, Vn, Vn, Vn]) ⟨rfl, ⟨_, rfl, (lv_vl rfl rfl)⟩, trivial⟩ Tryz.underlying27 has27 places27 info27 rfl rfl rfl) ?_
 refine sx_ox' (ox_alloc' info27 rfl rfl rfl rfl (l := [(Vi 0), (Vi 0), (Vi 0), Vn, Vn, Vn, Vn]) rfl) (wt_none' rfl) fun q3 => ?_
 refine sx_ox' (ox_store' (i := 0) (o := 0) rfl rfl (lv_ag _) ⟨rfl, rfl, rfl, rfl⟩ rfl info27 rfl (H' := [⟨.pointer (some q3), [(Vi 0), (Vi 0), (Vi r15.2.2.2), Vn, Vn, Vn, Vn], 27, none⟩, ⟨.pointer (some wa0), [(Vi r15.1), (Vi r15.2.1), (Vl (Vs wa0_2)), (Vi r15.2.2.2)], 111, none⟩, (Rw Kf 95 (Vs wa0_2) r15.2.2.1), ⟨.pointer (some q2), [(Vi 0), (Vi 0), (Vi 0), Vn, Vn, Vn, Vn], 27, none⟩]) rfl) (wt_none' rfl) fun _ => ?_
 refine nk hK2 ?_
 refine cx_seq' fun K3 hK3 => ?_
 refine cr fun K4 hK4 => ?_
 refine s0 (rd_move' rfl) ?_
 refine nk hK4 ?_
 refine cx_block' ?_
 refine cr fun K5 hK5 => ?_
 refine s0 (rd_assert' rfl (F := fun _ => .tuple #[.pointer none, .bool false]) as42_35_37 as_no) ?_
 refine s0 (rd_extract' rfl rfl) ?_
 refine s0 (rd_extract' rfl rfl) ?_
 refine nk hK5 ?_
 refine cx_cond_f' rfl rfl ?_
 refine cr fun K6 hK6 => ?_
 refine s0 (rd_assert' rfl (F := fun _ => .tuple #[.pointer none, .bool false]) as42_35_40 as_no) ?_
 refine s0 (rd_extract' rfl rfl) ?_
 refine s0 (rd_extract' rfl rfl) ?_
 refine nk hK6 ?_
 refine cx_cond_f' rfl rfl ?_
 refine cr fun K7 hK7 => ?_
 refine s0 (rd_assert' rfl (F := fun v => .tuple #[v, .bool true]) as42_35_42k as_ok) ?_
 refine s0 (rd_extract' rfl rfl) ?_
 refine s0 (rd_extract' rfl rfl) ?_
 refine nk hK7 ?_
 refine cx_cond_t' rfl rfl ?_
 refine cr fun K8 hK8 => ?_
 refine s0 (rd_assign' rfl) ?_
 refine nk hK8 ?_
 refine cx_region' ?_
 refine s0 (rd_field0' rfl Tryz.underlying27 rfl info3 rfl) ?_
 refine sx_ox' (ox_store' (i := 0) (o := 0) rfl rfl (lv_vl rfl rfl) ⟨rfl, rfl, rfl, rfl⟩ rfl info3 rfl (H' := [⟨.pointer (some q3), [(Vi 8), (Vi 0), (Vi r15.2.2.2), Vn, Vn, Vn, Vn], 27, none⟩, ⟨.pointer (some wa0), [(Vi r15.1), (Vi r15.2.1), (Vl (Vs wa0_2)), (Vi r15.2.2.2)], 111, none⟩, (Rw Kf 95 (Vs wa0_2) r15.2.2.1), ⟨.pointer (some q2), [(Vi 0), (Vi 0), (Vi 0), Vn, Vn, Vn, Vn], 27, none⟩]) rfl) (wt_none' rfl) fun _ => ?_
 refine nk hK3 ?_
 refine cr fun K9 hK9 => ?_
 refine s0 (rd_move' rfl) ?_
 obtain ⟨r70, hr70, hp⟩ := bind_some hp
 refine sx_ox' (ox_callg' (ent_inv' rfl rfl (inv_ptr0 (inv42_Layout _))) (gogeom_geom0_Layout_v3_sim _ _ _ _ hr70 : Sx.Fn Tryz.prog 100 [(Vp wa0)] [⟨.pointer (some wa0), [(Vi r15.1), (Vi r15.2.1), (Vl (Vs wa0_2)), (Vi r15.2.2.2)], 111, none⟩, (Rw Kf 95 (Vs wa0_2) r15.2.2.1)] (fun x : Unit => (Vi r70.1)) (fun x => [⟨.pointer (some wa0), [(Vi r70.1), (Vi r70.2.1), (Vl (Vs wa0_2)), (Vi r70.2.2.2)], 111, none⟩, (Rw Kf 95 (Vs wa0_2) r70.2.2.1)])) [1, 2] [0, 3] (by decide) (pick_cons rfl (pick_cons rfl pick_nil)) (pick_cons rfl (pick_cons rfl pick_nil)) (Hn := fun x : Unit => [⟨.pointer (some wa0), [(Vi r70.1), (Vi r70.2.1), (Vl (Vs wa0_2)), (Vi r70.2.2.2)], 111, none⟩, (Rw Kf 95 (Vs wa0_2) r70.2.2.1), ⟨.pointer (some q3), [(Vi 8), (Vi 0), (Vi r15.2.2.2), Vn, Vn, Vn, Vn], 27, none⟩, ⟨.pointer (some q2), [(Vi 0), (Vi 0), (Vi 0), Vn, Vn, Vn, Vn], 27, none⟩]) (fun _ => rfl) rfl rfl) (wt_none' rfl) fun ⟨⟩ => ?_
 refine s0 (rd_move' rfl) ?_
 obtain ⟨r72, hr72, hp⟩ := bind_some hp
 refine sx_ox' (ox_callg' (ent_inv' rfl rfl (inv_ptr0 (inv42_FlatCoords _))) (gogeom_geom0_FlatCoords_v3_sim _ _ _ _ hr72 : Sx.Fn Tryz.prog 99 [(Vp wa0)] [⟨.pointer (some wa0), [(Vi r70.1), (Vi r70.2.1), (Vl (Vs wa0_2)), (Vi r70.2.2.2)], 111, none⟩, (Rw Kf 95 (Vs wa0_2) r70.2.2.1)] (fun x : Unit => (Sl Kf r72.2.2.1)) (fun x => [⟨.pointer (some wa0), [(Vi r72.1), (Vi r72.2.1), (Sl Kf r72.2.2.1), (Vi r72.2.2.2)], 111, none⟩])) [0, 1] [2, 3] (by decide) (pick_cons rfl (pick_cons rfl pick_nil)) (pick_cons rfl (pick_cons rfl pick_nil)) (Hn := fun x : Unit => [⟨.pointer (some wa0), [(Vi r72.1), (Vi r72.2.1), (Sl Kf r72.2.2.1), (Vi r72.2.2.2)], 111, none⟩, ⟨.pointer (some q3), [(Vi 8), (Vi 0), (Vi r15.2.2.2), Vn, Vn, Vn, Vn], 27, none⟩, ⟨.pointer (some q2), [(Vi 0), (Vi 0), (Vi 0), Vn, Vn, Vn, Vn], 27, none⟩]) (fun _ => rfl) rfl rfl) (wt_none' rfl) fun ⟨⟩ => ?_
 obtain ⟨r73, hr73, hp⟩ := bind_some hp
 refine sx_ox' (ox_calln' (ent_fn' Tryz.func24 isn24 rfl rfl) (impl_floats_sim _ hr73 : Sx.Fn Tryz.prog 24 [(Sl Kf r72.2.2.1)] [] (fun x : Unit => (Sl Kf r73)) (fun x => [])) (Hn := fun x : Unit => [⟨.pointer (some wa0), [(Vi r72.1), (Vi r72.2.1), (Sl Kf r72.2.2.1), (Vi r72.2.2.2)], 111, none⟩, ⟨.pointer (some q3), [(Vi 8), (Vi 0), (Vi r15.2.2.2), Vn, Vn, Vn, Vn], 27, none⟩, ⟨.pointer (some q2), [(Vi 0), (Vi 0), (Vi 0), Vn, Vn, Vn, Vn], 27, none⟩]) (fun _ => rfl) rfl rfl) (wt_none' rfl) fun ⟨⟩ => ?_
 refine s0 (rd_move' rfl) ?_
 obtain ⟨r75, hr75, hp⟩ := bind_some hp
 refine sx_ox' (ox_callg' (ent_inv' rfl rfl (inv_ptr0 (inv42_Ends _))) (gogeom_geom0_Ends_v3_sim _ _ _ _ hr75 : Sx.Fn Tryz.prog 97 [(Vp wa0)] [⟨.pointer (some wa0), [(Vi r72.1), (Vi r72.2.1), (Sl Kf r72.2.2.1), (Vi r72.2.2.2)], 111, none⟩] (fun x : Unit => Vn) (fun x => [⟨.pointer (some wa0), [(Vi r75.1), (Vi r75.2.1), (Sl Kf r75.2.2.1), (Vi r75.2.2.2)], 111, none⟩])) [0] [1, 2] (by decide) (pick_cons rfl pick_nil) (pick_cons rfl (pick_cons rfl pick_nil)) (Hn := fun x : Unit => [⟨.pointer (some wa0), [(Vi r75.1), (Vi r75.2.1), (Sl Kf r75.2.2.1), (Vi r75.2.2.2)], 111, none⟩, ⟨.pointer (some q3), [(Vi 8), (Vi 0), (Vi r15.2.2.2), Vn, Vn, Vn, Vn], 27, none⟩, ⟨.pointer (some q2), [(Vi 0), (Vi 0), (Vi 0), Vn, Vn, Vn, Vn], 27, none⟩]) (fun _ => rfl) rfl rfl) (wt_none' rfl) fun ⟨⟩ => ?_
 obtain ⟨r76, hr76, hp⟩ := bind_some hp
 refine sx_ox' (ox_calln' (ent_fn' Tryz.func32 isn32 rfl rfl) (impl_ints_v2_sim hr76 : Sx.Fn Tryz.prog 32 [Vn] [] (fun x : Unit => (Sl (Ki .i64) r76)) (fun x => [])) (Hn := fun x : Unit => [⟨.pointer (some wa0), [(Vi r75.1), (Vi r75.2.1), (Sl Kf r75.2.2.1), (Vi r75.2.2.2)], 111, none⟩, ⟨.pointer (some q3), [(Vi 8), (Vi 0), (Vi r15.2.2.2), Vn, Vn, Vn, Vn], 27, none⟩, ⟨.pointer (some q2), [(Vi 0), (Vi 0), (Vi 0), Vn, Vn, Vn, Vn], 27, none⟩]) (fun _ => rfl) rfl rfl) (wt_none' rfl) fun ⟨⟩ => ?_
 refine s0 (rd_move' rfl) ?_
 obtain ⟨r78, hr78, hp⟩ := bind_some hp
 refine sx_ox' (ox_callg' (ent_inv' rfl rfl (inv_ptr0 (inv42_Endss _))) (gogeom_geom0_Endss_v3_sim _ _ _ _ hr78 : Sx.Fn Tryz.prog 98 [(Vp wa0)] [⟨.pointer (some wa0), [(Vi r75.1), (Vi r75.2.1), (Sl Kf r75.2.2.1), (Vi r75.2.2.2)], 111, none⟩] (fun x : Unit => Vn) (fun x => [⟨.pointer (some wa0), [(Vi r78.1), (Vi r78.2.1), (Sl Kf r78.2.2.1), (Vi r78.2.2.2)], 111, none⟩])) [0] [1, 2] (by decide) (pick_cons rfl pick_nil) (pick_cons rfl (pick_cons rfl pick_nil)) (Hn := fun x : Unit => [⟨.pointer (some wa0), [(Vi r78.1), (Vi r78.2.1), (Sl Kf r78.2.2.1), (Vi r78.2.2.2)], 111, none⟩, ⟨.pointer (some q3), [(Vi 8), (Vi 0), (Vi r15.2.2.2), Vn, Vn, Vn, Vn], 27, none⟩, ⟨.pointer (some q2), [(Vi 0), (Vi 0), (Vi 0), Vn, Vn, Vn, Vn], 27, none⟩]) (fun _ => rfl) rfl rfl) (wt_none' rfl) fun ⟨⟩ => ?_
 obtain ⟨r79, hr79, hp⟩ := bind_some hp
 refine sx_ox' (ox_calln' (ent_fn' Tryz.func40 isn40 rfl rfl) (impl_intss_v2_sim hr79 : Sx.Fn Tryz.prog 40 [Vn] [] (fun x : Unit => Vn) (fun x => [])) (Hn := fun x : Unit => [⟨.pointer (some wa0), [(Vi r78.1), (Vi r78.2.1), (Sl Kf r78.2.2.1), (Vi r78.2.2.2)], 111, none⟩, ⟨.pointer (some q3), [(Vi 8), (Vi 0), (Vi r15.2.2.2), Vn, Vn, Vn, Vn], 27, none⟩, ⟨.pointer (some q2), [(Vi 0), (Vi 0), (Vi 0), Vn, Vn, Vn, Vn], 27, none⟩]) (fun _ => rfl) rfl rfl) (wt_none' rfl) fun ⟨⟩ => ?_
 refine s0 (rd_field' (off := 1) rfl Tryz.underlying27 rfl info3 rfl) ?_
 refine sx_ox' (ox_store' (i := 1) (o := 1) rfl rfl (lv_vl rfl rfl) ⟨rfl, rfl, rfl, rfl⟩ rfl info3 rfl (H' := [⟨.pointer (some wa0), [(Vi r78.1), (Vi r78.2.1), (Sl Kf r78.2.2.1), (Vi r78.2.2.2)], 111, none⟩, ⟨.pointer (some q3), [(Vi 8), (Vi r70.1), (Vi r15.2.2.2), Vn, Vn, Vn, Vn], 27, none⟩, ⟨.pointer (some q2), [(Vi 0), (Vi 0), (Vi 0), Vn, Vn, Vn, Vn], 27, none⟩]) rfl) (wt_none' rfl) fun _ => ?_
 refine s0 (rd_field' (off := 3) rfl Tryz.underlying27 rfl info22 rfl) ?_
 refine sx_ox' (ox_store' (i := 1) (o := 3) rfl rfl (lv_sl _ _) ⟨rfl, rfl, rfl, rfl⟩ rfl info22 rfl (H' := [⟨.pointer (some wa0), [(Vi r78.1), (Vi r78.2.1), (Sl Kf r78.2.2.1), (Vi r78.2.2.2)], 111, none⟩, ⟨.pointer (some q3), [(Vi 8), (Vi r70.1), (Vi r15.2.2.2), (Sl Kf r73), Vn, Vn, Vn], 27, none⟩, ⟨.pointer (some q2), [(Vi 0), (Vi 0), (Vi 0), Vn, Vn, Vn, Vn], 27, none⟩]) rfl) (wt_none' rfl) fun _ => ?_
 refine s0 (rd_field' (off := 4) rfl Tryz.underlying27 rfl info23 rfl) ?_
 refine sx_ox' (ox_store' (i := 1) (o := 4) rfl rfl (lv_sl _ _) ⟨rfl, rfl, rfl, rfl⟩ rfl info23 rfl (H' := [⟨.pointer (some wa0), [(Vi r78.1), (Vi r78.2.1), (Sl Kf r78.2.2.1), (Vi r78.2.2.2)], 111, none⟩, ⟨.pointer (some q3), [(Vi 8), (Vi r70.1), (Vi r15.2.2.2), (Sl Kf r73), (Sl (Ki .i64) r76), Vn, Vn], 27, none⟩, ⟨.pointer (some q2), [(Vi 0), (Vi 0), (Vi 0), Vn, Vn, Vn, Vn], 27, none⟩]) rfl) (wt_none' rfl) fun _ => ?_
 refine s0 (rd_field' (off := 5) rfl Tryz.underlying27 rfl info24 rfl) ?_
 refine sx_ox' (ox_store' (i := 1) (o := 5) rfl rfl (lv_vl rfl rfl) ⟨rfl, rfl, rfl, rfl⟩ rfl info24 rfl (H' := [⟨.pointer (some wa0), [(Vi r78.1), (Vi r78.2.1), (Sl Kf r78.2.2.1), (Vi r78.2.2.2)], 111, none⟩, ⟨.pointer (some q3), [(Vi 8), (Vi r70.1), (Vi r15.2.2.2), (Sl Kf r73), (Sl (Ki .i64) r76), Vn, Vn], 27, none⟩, ⟨.pointer (some q2), [(Vi 0), (Vi 0), (Vi 0), Vn, Vn, Vn, Vn], 27, none⟩]) rfl) (wt_none' rfl) fun _ => ?_
 refine nk hK9 ?_
 refine cr fun K10 hK10 => ?_
 refine s0 (rd_load_agg' (i := 1) (o := 0) (nn := 7) rfl ⟨rfl, rfl, rfl, rfl⟩ rfl agg27 (l' := [(Vi 8), (Vi r70.1), (Vi r15.2.2.2), (Sl Kf r73), (Sl (Ki .i64) r76), Vn, Vn]) rfl) ?_
 refine sx_ox' (ox_store' (i := 2) (o := 0) rfl rfl (lv_ag _) ⟨rfl, rfl, rfl, rfl⟩ rfl info27 rfl (H' := [⟨.pointer (some wa0), [(Vi r78.1), (Vi r78.2.1), (Sl Kf r78.2.2.1), (Vi r78.2.2.2)], 111, none⟩, ⟨.pointer (some q3), [(Vi 8), (Vi r70.1), (Vi r15.2.2.2), (Sl Kf r73), (Sl (Ki .i64) r76), Vn, Vn], 27, none⟩, ⟨.pointer (some q2), [(Vi 8), (Vi r70.1), (Vi r15.2.2.2), (Sl Kf r73), (Sl (Ki .i64) r76), Vn, Vn], 27, none⟩]) rfl) (wt_none' rfl) fun _ => ?_
 refine nk hK10 ?_
 refine cx_retc' ?_
 replace hp := Option.some.inj hp
 subst hp
 refine tx_pick' (L' := [(2, (Vp q2))]) (H' := [⟨.pointer (some wa0), [(Vi r78.1), (Vi r78.2.1), (Sl Kf r78.2.2.1), (Vi r78.2.2.2)], 111, none⟩, ⟨.pointer (some q2), [(Vi 8), (Vi r70.1), (Vi r15.2.2.2), (Sl Kf r73), (Sl (Ki .i64) r76), Vn, Vn], 27, none⟩]) [0, 2] (sub_cons rfl sub_nil) (by decide) (pick_cons rfl (pick_cons rfl pick_nil)) ?_
 exact tx_ret1' Tryz.results12 rfl () (rv_cell_agg' (i := 1) (o := 0) (nn := 7) rfl ⟨rfl, rfl, rfl, rfl⟩ rfl agg27 rfl) (List.Sublist.cons_cons _ (List.nil_sublist _))

def gogeom_deriveDeepCopy_11_v4_j1 (k : Nat) (a1_0 : Int) (a1_1 : Int) (a1_3 : Int) (a1_2 : List Nat) (a1_4 : List Int) (x1 : List Nat) : Option (Int × Int × (List Nat) × Int × (List Nat) × (List Int)) :=
 some (a1_0, a1_1, x1, a1_3, a1_2, a1_4)
def gogeom_deriveDeepCopy_11_v4 (k : Nat) (a0_0 : Int) (a0_1 : Int) (a0_3 : Int) (a1_0 : Int) (a1_1 : Int) (a1_2 : List Nat) (a1_3 : Int) (a1_4 : List Int) : Option (Int × Int × (List Nat) × Int × (List Nat) × (List Int)) :=
 (mk 8 0 (a1_2.length : Int) (a1_2.length : Int)) >>= fun r105 =>
 gogeom_deriveDeepCopy_11_v4_j1 k a1_0 a1_1 a1_3 a1_2 a1_4 (cpy r105 a1_2)

theorem gogeom_deriveDeepCopy_11_v4_sim {k : Nat} {wa0 : Addr} {wa1 : Addr} (a0_0 : Int) (a0_1 : Int) (a0_3 : Int) (a1_0 : Int) (a1_1 : Int) (a1_2 : List Nat) (a1_3 : Int) (a1_4 : List Int) {out : Int × Int × (List Nat) × Int × (List Nat) × (List Int)} (hp : gogeom_deriveDeepCopy_11_v4 k a0_0 a0_1 a0_3 a1_0 a1_1 a1_2 a1_3 a1_4 = some out) : Sx.Fn Tryz.prog 74 [(Vp wa0), (Vp wa1)] [⟨.pointer (some wa0), [(Vi a0_0), (Vi a0_1), Vn, (Vi a0_3)], 105, none⟩, ⟨.pointer (some wa1), [(Vi a1_0), (Vi a1_1), (Sl Kf a1_2), (Vi a1_3), (Sl (Ki .i64) a1_4)], 115, none⟩] (fun w : Gs => (Vl (.tuple #[]))) (fun w => [⟨.pointer (some wa0), [(Vi out.1), (Vi out.2.1), (Vl (Vs w)), (Vi out.2.2.2.1)], 105, none⟩, (Rw Kf 95 (Vs w) out.2.2.1), ⟨.pointer (some wa1), [(Vi out.1), (Vi out.2.1), (Sl Kf out.2.2.2.2.1), (Vi out.2.2.2.1), (Sl (Ki .i64) out.2.2.2.2.2)], 115, none⟩]) := by
 unfold gogeom_deriveDeepCopy_11_v4 at hp
 refine fn_of Tryz.func74 rfl Tryz.ntmps74 rfl fun E hM => ?_
 refine cr fun K1 hK1 => ?_
 refine s0 (rd_move' rfl) ?_
 refine s0 (rd_move' rfl) ?_
 refine s0 (rd_nilck' rfl) ?_
 refine s0 (rd_field0' rfl Tryz.underlying105 rfl info54 rfl) ?_
 refine s0 (rd_load' (i := 1) (o := 0) rfl ⟨rfl, rfl, rfl, rfl⟩ rfl flat54) ?_
 refine s0 (rd_nilck' rfl) ?_
 refine s0 (rd_field0' rfl Tryz.underlying105 rfl info54 rfl) ?_
 refine sx_ox' (ox_store' (i := 0) (o := 0) rfl rfl (lv_vl rfl rfl) ⟨rfl, rfl, rfl, rfl⟩ rfl info54 rfl (H' := [⟨.pointer (some wa0), [(Vi a1_0), (Vi a0_1), Vn, (Vi a0_3)], 105, none⟩, ⟨.pointer (some wa1), [(Vi a1_0), (Vi a1_1), (Sl Kf a1_2), (Vi a1_3), (Sl (Ki .i64) a1_4)], 115, none⟩]) rfl) (wt_none' rfl) fun _ => ?_
 refine nk hK1 ?_
 refine cr fun K2 hK2 => ?_
 refine s0 (rd_move' rfl) ?_
 refine s0 (rd_move' rfl) ?_
 refine s0 (rd_nilck' rfl) ?_
 refine s0 (rd_field' (off := 1) rfl Tryz.underlying105 rfl info3 rfl) ?_
 refine s0 (rd_load' (i := 1) (o := 1) rfl ⟨rfl, rfl, rfl, rfl⟩ rfl flat3) ?_
 refine s0 (rd_nilck' rfl) ?_
 refine s0 (rd_field' (off := 1) rfl Tryz.underlying105 rfl info3 rfl) ?_
 refine sx_ox' (ox_store' (i := 0) (o := 1) rfl rfl (lv_vl rfl rfl) ⟨rfl, rfl, rfl, rfl⟩ rfl info3 rfl (H' := [⟨.pointer (some wa0), [(Vi a1_0), (Vi a1_1), Vn, (Vi a0_3)], 105, none⟩, ⟨.pointer (some wa1), [(Vi a1_0), (Vi a1_1), (Sl Kf a1_2), (Vi a1_3), (Sl (Ki .i64) a1_4)], 115, none⟩]) rfl) (wt_none' rfl) fun _ => ?_
 refine nk hK2 ?_
 refine cx_join' (fun (v1 : (List Nat) × Gs) => (⟨124, [], [(0, (Vp wa0)), (1, (Vp wa1))], [⟨.pointer (some wa0), [(Vi a1_0), (Vi a1_1), (Vl (Vs v1.2)), (Vi a0_3)], 105, none⟩, (Rw Kf 95 (Vs v1.2) v1.1), ⟨.pointer (some wa1), [(Vi a1_0), (Vi a1_1), (Sl Kf a1_2), (Vi a1_3), (Sl (Ki .i64) a1_4)], 115, none⟩]⟩ : St)) (fun (v1 : (List Nat) × Gs) => gogeom_deriveDeepCopy_11_v4_j1 k a1_0 a1_1 a1_3 a1_2 a1_4 v1.1 = some out) ?_ ?_
 ·rintro ⟨x1, g901⟩ hp
  replace hp : gogeom_deriveDeepCopy_11_v4_j1 k a1_0 a1_1 a1_3 a1_2 a1_4 x1 = some out := hp
  unfold gogeom_deriveDeepCopy_11_v4_j1 at hp
  refine cx_region' ?_
  refine s0 (rd_move' rfl) ?_
  refine s0 (rd_move' rfl) ?_
  refine s0 (rd_nilck' rfl) ?_
  refine s0 (rd_field' (off := 3) rfl Tryz.underlying105 rfl info3 rfl) ?_
  refine s0 (rd_load' (i := 2) (o := 3) rfl ⟨rfl, rfl, rfl, rfl⟩ rfl flat3) ?_
  refine s0 (rd_nilck' rfl) ?_
  refine s0 (rd_field' (off := 3) rfl Tryz.underlying105 rfl info3 rfl) ?_
  refine sx_ox' (ox_store' (i := 0) (o := 3) rfl rfl (lv_vl rfl rfl) ⟨rfl, rfl, rfl, rfl⟩ rfl info3 rfl (H' := [⟨.pointer (some wa0), [(Vi a1_0), (Vi a1_1), (Vl (Vs g901)), (Vi a1_3)], 105, none⟩, (Rw Kf 95 (Vs g901) x1), ⟨.pointer (some wa1), [(Vi a1_0), (Vi a1_1), (Sl Kf a1_2), (Vi a1_3), (Sl (Ki .i64) a1_4)], 115, none⟩]) rfl) (wt_none' rfl) fun _ => ?_
  refine sx_nil' ?_
  replace hp := Option.some.inj hp
  subst hp
  refine tx_pick' (L' := []) (H' := [⟨.pointer (some wa0), [(Vi a1_0), (Vi a1_1), (Vl (Vs g901)), (Vi a1_3)], 105, none⟩, (Rw Kf 95 (Vs g901) x1), ⟨.pointer (some wa1), [(Vi a1_0), (Vi a1_1), (Sl Kf a1_2), (Vi a1_3), (Sl (Ki .i64) a1_4)], 115, none⟩]) [0, 1, 2] sub_nil (by decide) (pick_cons rfl (pick_cons rfl (pick_cons rfl pick_nil))) ?_
  exact tx_end0' Tryz.results74 rfl g901 rfl (List.Sublist.refl _)
 intro K3 hK3
 refine cr fun K4 hK4 => ?_
 refine s0 (rd_move' rfl) ?_
 refine s0 (rd_nilck' rfl) ?_
 refine s0 (rd_field' (off := 2) rfl Tryz.underlying105 rfl info22 rfl) ?_
 refine s0 (rd_load' (i := 1) (o := 2) rfl ⟨rfl, rfl, rfl, rfl⟩ rfl flat22) ?_
 refine s0 (rd_nilany' rfl rfl (fun _ _ _ => by kernel_rfl) (fun _ _ _ _ => by kernel_rfl) nil_eql22_none nil_eql22_sl) ?_
 refine nk hK4 ?_
 refine tx_anybool' 22 rfl fun b1 hb1 => ?_
 refine cx_cond' rfl (fun h1 => ?_) (fun h1 => ?_)
 ·replace hp : gogeom_deriveDeepCopy_11_v4_j1 k a1_0 a1_1 a1_3 a1_2 a1_4 [] = some out := by
   rw [hb1 h1] at hp
   first | exact hp | (rw [hb1 h1]; exact hp)
  refine cx_region' ?_
  refine s0 (rd_move' rfl) ?_
  refine s0 (rd_nilck' rfl) ?_
  refine s0 (rd_field' (off := 2) rfl Tryz.underlying105 rfl info22 rfl) ?_
  refine tx_nilrow' Kf 95 ?_
  refine sx_ox' (ox_store' (i := 1) (o := 2) rfl rfl (lv_vl rfl rfl) ⟨rfl, rfl, rfl, rfl⟩ rfl info22 rfl (H' := [(Rw Kf 95 (Vs (none, 0, 0)) []), ⟨.pointer (some wa0), [(Vi a1_0), (Vi a1_1), (Vl (Vs (none, 0, 0))), (Vi a0_3)], 105, none⟩, ⟨.pointer (some wa1), [(Vi a1_0), (Vi a1_1), (Sl Kf a1_2), (Vi a1_3), (Sl (Ki .i64) a1_4)], 115, none⟩]) rfl) (wt_none' rfl) fun _ => ?_
  refine sx_nil' ?_
  show TX E K3 _
  exact tx_pick' [1, 0, 2] (sub_cons rfl (sub_cons rfl sub_nil)) (by decide) (pick_cons rfl (pick_cons rfl (pick_cons rfl pick_nil))) (hK3 ([], (none, 0, 0)) hp)
 clear h1
 refine cx_seq' fun K5 hK5 => ?_
 refine cr fun K6 hK6 => ?_
 refine s0 (rd_move' rfl) ?_
 refine s0 (rd_nilck' rfl) ?_
 refine s0 (rd_field' (off := 2) rfl Tryz.underlying105 rfl info22 rfl) ?_
 refine s0 (rd_load' (i := 0) (o := 2) rfl ⟨rfl, rfl, rfl, rfl⟩ rfl flat22) ?_
 refine s0 (rd_binf' rfl rfl (bf_vl (fun _ => by kernel_rfl) nil_neq22_nilsl)) ?_
 refine nk hK6 ?_
 refine cx_cond_f' rfl rfl ?_
 refine cx_region' ?_
 refine s0 (rd_move' rfl) ?_
 refine s0 (rd_move' rfl) ?_
 refine s0 (rd_nilck' rfl) ?_
 refine s0 (rd_field' (off := 2) rfl Tryz.underlying105 rfl info22 rfl) ?_
 refine s0 (rd_load' (i := 1) (o := 2) rfl ⟨rfl, rfl, rfl, rfl⟩ rfl flat22) ?_
 refine s0 (rd_len' rfl Tryz.underlying22) ?_
 obtain ⟨r105, hr105, hp⟩ := bind_some hp
 refine sx_ox' (ox_make' (K := Kf) rfl rfl hr105 rfl Tryz.underlying22 info95 rfl rfl rfl rfl rfl) (wt_none' rfl) fun g105 => ?_
 refine s0 (rd_nilck' rfl) ?_
 refine s0 (rd_field' (off := 2) rfl Tryz.underlying105 rfl info22 rfl) ?_
 refine sx_ox' (ox_store' (i := 1) (o := 2) rfl rfl (lv_vl rfl rfl) ⟨rfl, rfl, rfl, rfl⟩ rfl info22 rfl (H' := [(Rw Kf 95 (Vs g105) r105), ⟨.pointer (some wa0), [(Vi a1_0), (Vi a1_1), (Vl (Vs g105)), (Vi a0_3)], 105, none⟩, ⟨.pointer (some wa1), [(Vi a1_0), (Vi a1_1), (Sl Kf a1_2), (Vi a1_3), (Sl (Ki .i64) a1_4)], 115, none⟩]) rfl) (wt_none' rfl) fun _ => ?_
 refine nk hK5 ?_
 refine cx_plan' [] [(8, 1)] [(0, 1), (1, 1), (2, 1), (3, 1), (4, 1), (5, 1), (6, 1), (7, 1), (8, 0)] mixed (by kernel_rfl) ?_
 refine px_rd' rfl (rd_move' rfl) rfl rfl (wt_none' rfl) ?_
 refine px_rd' rfl (rd_nilck' rfl) rfl rfl (wt_none' rfl) ?_
 refine px_rd' rfl (rd_field' (off := 2) rfl Tryz.underlying105 rfl info22 rfl) rfl rfl (wt_none' rfl) ?_
 refine px_rd' rfl (rd_load' (i := 1) (o := 2) rfl ⟨rfl, rfl, rfl, rfl⟩ rfl flat22) rfl rfl (wt_none' rfl) ?_
 refine px_rd' rfl (rd_move' rfl) rfl rfl (wt_none' rfl) ?_
 refine px_rd' rfl (rd_nilck' rfl) rfl rfl (wt_none' rfl) ?_
 refine px_rd' rfl (rd_field' (off := 2) rfl Tryz.underlying105 rfl info22 rfl) rfl rfl (wt_none' rfl) ?_
 refine px_rd' rfl (rd_load' (i := 2) (o := 2) rfl ⟨rfl, rfl, rfl, rfl⟩ rfl flat22) rfl rfl (wt_none' rfl) ?_
 refine px_ox' rfl (ox_copy' (i := 0) rfl rfl rfl rfl rfl Tryz.underlying22 info95 rfl rfl (H' := [(Rw Kf 95 (Vs g105) (cpy r105 a1_2)), ⟨.pointer (some wa0), [(Vi a1_0), (Vi a1_1), (Vl (Vs g105)), (Vi a0_3)], 105, none⟩, ⟨.pointer (some wa1), [(Vi a1_0), (Vi a1_1), (Sl Kf a1_2), (Vi a1_3), (Sl (Ki .i64) a1_4)], 115, none⟩]) rfl) rfl bs_nil (wt_none' rfl) fun _ => ?_
 refine px_nil' ?_
 show TX E K3 _
 exact tx_pick' [1, 0, 2] (sub_cons rfl (sub_cons rfl sub_nil)) (by decide) (pick_cons rfl (pick_cons rfl (pick_cons rfl pick_nil))) (hK3 ((cpy r105 a1_2), g105) hp)

def gogeom_deriveDeepCopy_8_v3 (k : Nat) (a0_0 : Int) (a0_1 : Int) (a0_3 : Int) (a1_0 : Int) (a1_1 : Int) (a1_2 : List Nat) (a1_3 : Int) (a1_4 : List Int) : Option (Int × Int × (List Nat) × Int × (List Nat) × (List Int)) :=
 (gogeom_deriveDeepCopy_11_v4 k 0 0 0 a1_0 a1_1 a1_2 a1_3 a1_4) >>= fun r10 =>
 some (r10.1, r10.2.1, r10.2.2.1, r10.2.2.2.1, r10.2.2.2.2.1, r10.2.2.2.2.2)

theorem gogeom_deriveDeepCopy_8_v3_sim {k : Nat} {wa0 : Addr} {wa1 : Addr} (a0_0 : Int) (a0_1 : Int) (a0_3 : Int) (a1_0 : Int) (a1_1 : Int) (a1_2 : List Nat) (a1_3 : Int) (a1_4 : List Int) {out : Int × Int × (List Nat) × Int × (List Nat) × (List Int)} (hp : gogeom_deriveDeepCopy_8_v3 k a0_0 a0_1 a0_3 a1_0 a1_1 a1_2 a1_3 a1_4 = some out) : Sx.Fn Tryz.prog 75 [(Vp wa0), (Vp wa1)] [⟨.pointer (some wa0), [(Vi a0_0), (Vi a0_1), Vn, (Vi a0_3)], 108, none⟩, ⟨.pointer (some wa1), [(Vi a1_0), (Vi a1_1), (Sl Kf a1_2), (Vi a1_3), (Sl (Ki .i64) a1_4)], 115, none⟩] (fun w : Gs => (Vl (.tuple #[]))) (fun w => [⟨.pointer (some wa0), [(Vi out.1), (Vi out.2.1), (Vl (Vs w)), (Vi out.2.2.2.1)], 108, none⟩, (Rw Kf 95 (Vs w) out.2.2.1), ⟨.pointer (some wa1), [(Vi out.1), (Vi out.2.1), (Sl Kf out.2.2.2.2.1), (Vi out.2.2.2.1), (Sl (Ki .i64) out.2.2.2.2.2)], 115, none⟩]) := by
 unfold gogeom_deriveDeepCopy_8_v3 at hp
 refine fn_of Tryz.func75 rfl Tryz.ntmps75 rfl fun E hM => ?_
 refine cr fun K1 hK1 => ?_
 refine sx_ox' (ox_alloc' info105 rfl rfl rfl rfl (l := [(Vi 0), (Vi 0), Vn, (Vi 0)]) rfl) (wt_none' rfl) fun q5 => ?_
 refine s0 (rd_assign' rfl) ?_
 refine nk hK1 ?_
 refine cr fun K2 hK2 => ?_
 refine s0 (rd_move' rfl) ?_
 refine s0 (rd_move' rfl) ?_
 refine s0 (rd_nilck' rfl) ?_
 refine s0 (rd_field0' rfl Tryz.underlying108 rfl info105 rfl) ?_
 obtain ⟨r10, hr10, hp⟩ := bind_some hp
 refine sx_ox' (ox_callg' (ent_fn' Tryz.func74 isn74 rfl rfl) (gogeom_deriveDeepCopy_11_v4_sim _ _ _ _ _ _ _ _ hr10 : Sx.Fn Tryz.prog 74 [(Vp q5), (Vp wa1)] [⟨.pointer (some q5), [(Vi 0), (Vi 0), Vn, (Vi 0)], 105, none⟩, ⟨.pointer (some wa1), [(Vi a1_0), (Vi a1_1), (Sl Kf a1_2), (Vi a1_3), (Sl (Ki .i64) a1_4)], 115, none⟩] (fun x : Gs => (Vl (.tuple #[]))) (fun x => [⟨.pointer (some q5), [(Vi r10.1), (Vi r10.2.1), (Vl (Vs x)), (Vi r10.2.2.2.1)], 105, none⟩, (Rw Kf 95 (Vs x) r10.2.2.1), ⟨.pointer (some wa1), [(Vi r10.1), (Vi r10.2.1), (Sl Kf r10.2.2.2.2.1), (Vi r10.2.2.2.1), (Sl (Ki .i64) r10.2.2.2.2.2)], 115, none⟩])) [0, 2] [1] (by decide) (pick_cons rfl (pick_cons rfl pick_nil)) (pick_cons rfl pick_nil) (Hn := fun x : Gs => [⟨.pointer (some q5), [(Vi r10.1), (Vi r10.2.1), (Vl (Vs x)), (Vi r10.2.2.2.1)], 105, none⟩, (Rw Kf 95 (Vs x) r10.2.2.1), ⟨.pointer (some wa1), [(Vi r10.1), (Vi r10.2.1), (Sl Kf r10.2.2.2.2.1), (Vi r10.2.2.2.1), (Sl (Ki .i64) r10.2.2.2.2.2)], 115, none⟩, ⟨.pointer (some wa0), [(Vi a0_0), (Vi a0_1), Vn, (Vi a0_3)], 108, none⟩]) (fun _ => rfl) rfl rfl) (wt_none' rfl) fun g10 => ?_
 refine nk hK2 ?_
 refine cx_region' ?_
 refine s0 (rd_move' rfl) ?_
 refine s0 (rd_move' rfl) ?_
 refine s0 (rd_nilck' rfl) ?_
 refine s0 (rd_load_agg' (i := 0) (o := 0) (nn := 4) rfl ⟨rfl, rfl, rfl, rfl⟩ rfl agg105 (l' := [(Vi r10.1), (Vi r10.2.1), (Vl (Vs g10)), (Vi r10.2.2.2.1)]) rfl) ?_
 refine s0 (rd_nilck' rfl) ?_
 refine s0 (rd_field0' rfl Tryz.underlying108 rfl info105 rfl) ?_
 refine sx_ox' (ox_store' (i := 3) (o := 0) rfl rfl (lv_ag _) ⟨rfl, rfl, rfl, rfl⟩ rfl info105 rfl (H' := [⟨.pointer (some q5), [(Vi r10.1), (Vi r10.2.1), (Vl (Vs g10)), (Vi r10.2.2.2.1)], 105, none⟩, (Rw Kf 95 (Vs g10) r10.2.2.1), ⟨.pointer (some wa1), [(Vi r10.1), (Vi r10.2.1), (Sl Kf r10.2.2.2.2.1), (Vi r10.2.2.2.1), (Sl (Ki .i64) r10.2.2.2.2.2)], 115, none⟩, ⟨.pointer (some wa0), [(Vi r10.1), (Vi r10.2.1), (Vl (Vs g10)), (Vi r10.2.2.2.1)], 108, none⟩]) rfl) (wt_none' rfl) fun _ => ?_
 refine sx_nil' ?_
 replace hp := Option.some.inj hp
 subst hp
 refine tx_pick' (L' := []) (H' := [⟨.pointer (some wa0), [(Vi r10.1), (Vi r10.2.1), (Vl (Vs g10)), (Vi r10.2.2.2.1)], 108, none⟩, (Rw Kf 95 (Vs g10) r10.2.2.1), ⟨.pointer (some wa1), [(Vi r10.1), (Vi r10.2.1), (Sl Kf r10.2.2.2.2.1), (Vi r10.2.2.2.1), (Sl (Ki .i64) r10.2.2.2.2.2)], 115, none⟩]) [3, 1, 2] sub_nil (by decide) (pick_cons rfl (pick_cons rfl (pick_cons rfl pick_nil))) ?_
 exact tx_end0' Tryz.results75 rfl g10 rfl (List.Sublist.refl _)

def gogeom_deriveDeepCopy_9 (k : Nat) (a0_0 : Int) (a0_1 : Int) (a0_3 : Int) (a1_0 : Int) (a1_1 : Int) (a1_2 : List Nat) (a1_3 : Int) (a1_4 : List Int) : Option (Int × Int × (List Nat) × Int × (List Int) × (List Nat) × (List Int)) :=
 (gogeom_deriveDeepCopy_8_v3 k 0 0 0 a1_0 a1_1 a1_2 a1_3 a1_4) >>= fun r10 =>
 (mk 8 0 (r10.2.2.2.2.2.length : Int) (r10.2.2.2.2.2.length : Int)) >>= fun r104 =>
 some (r10.1, r10.2.1, r10.2.2.1, r10.2.2.2.1, cpy r104 r10.2.2.2.2.2, r10.2.2.2.2.1, r10.2.2.2.2.2)

theorem gogeom_deriveDeepCopy_9_sim {k : Nat} {wa0 : Addr} {wa1 : Addr} (a0_0 : Int) (a0_1 : Int) (a0_3 : Int) (a1_0 : Int) (a1_1 : Int) (a1_2 : List Nat) (a1_3 : Int) (a1_4 : List Int) {out : Int × Int × (List Nat) × Int × (List Int) × (List Nat) × (List Int)} (hp : gogeom_deriveDeepCopy_9 k a0_0 a0_1 a0_3 a1_0 a1_1 a1_2 a1_3 a1_4 = some out) : Sx.Fn Tryz.prog 76 [(Vp wa0), (Vp wa1)] [⟨.pointer (some wa0), [(Vi a0_0), (Vi a0_1), Vn, (Vi a0_3), Vn], 113, none⟩, ⟨.pointer (some wa1), [(Vi a1_0), (Vi a1_1), (Sl Kf a1_2), (Vi a1_3), (Sl (Ki .i64) a1_4)], 115, none⟩] (fun w : Gs × Gs => (Vl (.tuple #[]))) (fun w => [⟨.pointer (some wa0), [(Vi out.1), (Vi out.2.1), (Vl (Vs w.1)), (Vi out.2.2.2.1), (Vl (Vs w.2))], 113, none⟩, (Rw Kf 95 (Vs w.1) out.2.2.1), (Rw (Ki .i64) 3 (Vs w.2) out.2.2.2.2.1), ⟨.pointer (some wa1), [(Vi out.1), (Vi out.2.1), (Sl Kf out.2.2.2.2.2.1), (Vi out.2.2.2.1), (Sl (Ki .i64) out.2.2.2.2.2.2)], 115, none⟩]) := by
 unfold gogeom_deriveDeepCopy_9 at hp
 refine fn_of Tryz.func76 rfl Tryz.ntmps76 rfl fun E hM => ?_
 refine cx_seq' fun K1 hK1 => ?_
 refine cr fun K2 hK2 => ?_
 refine sx_ox' (ox_alloc' info108 rfl rfl rfl rfl (l := [(Vi 0), (Vi 0), Vn, (Vi 0)]) rfl) (wt_none' rfl) fun q5 => ?_
 refine s0 (rd_assign' rfl) ?_
 refine nk hK2 ?_
 refine cr fun K3 hK3 => ?_
 refine s0 (rd_move' rfl) ?_
 refine s0 (rd_move' rfl) ?_
 refine s0 (rd_nilck' rfl) ?_
 refine s0 (rd_field0' rfl Tryz.underlying113 rfl info108 rfl) ?_
 obtain ⟨r10, hr10, hp⟩ := bind_some hp
 refine sx_ox' (ox_callg' (ent_fn' Tryz.func75 isn75 rfl rfl) (gogeom_deriveDeepCopy_8_v3_sim _ _ _ _ _ _ _ _ hr10 : Sx.Fn Tryz.prog 75 [(Vp q5), (Vp wa1)] [⟨.pointer (some q5), [(Vi 0), (Vi 0), Vn, (Vi 0)], 108, none⟩, ⟨.pointer (some wa1), [(Vi a1_0), (Vi a1_1), (Sl Kf a1_2), (Vi a1_3), (Sl (Ki .i64) a1_4)], 115, none⟩] (fun x : Gs => (Vl (.tuple #[]))) (fun x => [⟨.pointer (some q5), [(Vi r10.1), (Vi r10.2.1), (Vl (Vs x)), (Vi r10.2.2.2.1)], 108, none⟩, (Rw Kf 95 (Vs x) r10.2.2.1), ⟨.pointer (some wa1), [(Vi r10.1), (Vi r10.2.1), (Sl Kf r10.2.2.2.2.1), (Vi r10.2.2.2.1), (Sl (Ki .i64) r10.2.2.2.2.2)], 115, none⟩])) [0, 2] [1] (by decide) (pick_cons rfl (pick_cons rfl pick_nil)) (pick_cons rfl pick_nil) (Hn := fun x : Gs => [⟨.pointer (some q5), [(Vi r10.1), (Vi r10.2.1), (Vl (Vs x)), (Vi r10.2.2.2.1)], 108, none⟩, (Rw Kf 95 (Vs x) r10.2.2.1), ⟨.pointer (some wa1), [(Vi r10.1), (Vi r10.2.1), (Sl Kf r10.2.2.2.2.1), (Vi r10.2.2.2.1), (Sl (Ki .i64) r10.2.2.2.2.2)], 115, none⟩, ⟨.pointer (some wa0), [(Vi a0_0), (Vi a0_1), Vn, (Vi a0_3), Vn], 113, none⟩]) (fun _ => rfl) rfl rfl) (wt_none' rfl) fun g10 => ?_
 refine nk hK3 ?_
 refine cx_region' ?_
 refine s0 (rd_move' rfl) ?_
 refine s0 (rd_move' rfl) ?_
 refine s0 (rd_nilck' rfl) ?_
 refine s0 (rd_load_agg' (i := 0) (o := 0) (nn := 4) rfl ⟨rfl, rfl, rfl, rfl⟩ rfl agg108 (l' := [(Vi r10.1), (Vi r10.2.1), (Vl (Vs g10)), (Vi r10.2.2.2.1)]) rfl) ?_
 refine s0 (rd_nilck' rfl) ?_
 refine s0 (rd_field0' rfl Tryz.underlying113 rfl info108 rfl) ?_
 refine sx_ox' (ox_store' (i := 3) (o := 0) rfl rfl (lv_ag _) ⟨rfl, rfl, rfl, rfl⟩ rfl info108 rfl (H' := [⟨.pointer (some q5), [(Vi r10.1), (Vi r10.2.1), (Vl (Vs g10)), (Vi r10.2.2.2.1)], 108, none⟩, (Rw Kf 95 (Vs g10) r10.2.2.1), ⟨.pointer (some wa1), [(Vi r10.1), (Vi r10.2.1), (Sl Kf r10.2.2.2.2.1), (Vi r10.2.2.2.1), (Sl (Ki .i64) r10.2.2.2.2.2)], 115, none⟩, ⟨.pointer (some wa0), [(Vi r10.1), (Vi r10.2.1), (Vl (Vs g10)), (Vi r10.2.2.2.1), Vn], 113, none⟩]) rfl) (wt_none' rfl) fun _ => ?_
 refine nk hK1 ?_
 refine cr fun K4 hK4 => ?_
 refine s0 (rd_move' rfl) ?_
 refine s0 (rd_nilck' rfl) ?_
 refine s0 (rd_field' (off := 4) rfl Tryz.underlying113 rfl info23 rfl) ?_
 refine s0 (rd_load' (i := 2) (o := 4) rfl ⟨rfl, rfl, rfl, rfl⟩ rfl flat23) ?_
 refine s0 (rd_nilany' rfl rfl (fun _ _ _ => by kernel_rfl) (fun _ _ _ _ => by kernel_rfl) nil_eql23_none nil_eql23_sl) ?_
 refine nk hK4 ?_
 refine tx_anybool' 21 rfl fun b1 hb1 => ?_
 refine cx_cond' rfl (fun h1 => ?_) (fun h1 => ?_)
 ·replace hp : some (r10.1, r10.2.1, r10.2.2.1, r10.2.2.2.1, [], r10.2.2.2.2.1, r10.2.2.2.2.2) = some out := by
   rw [hb1 h1] at hp
   first | exact hp | (rw [hb1 h1]; exact hp)
  refine cx_region' ?_
  refine s0 (rd_move' rfl) ?_
  refine s0 (rd_nilck' rfl) ?_
  refine s0 (rd_field' (off := 4) rfl Tryz.underlying113 rfl info23 rfl) ?_
  refine tx_nilrow' (Ki .i64) 3 ?_
  refine sx_ox' (ox_store' (i := 4) (o := 4) rfl rfl (lv_vl rfl rfl) ⟨rfl, rfl, rfl, rfl⟩ rfl info23 rfl (H' := [(Rw (Ki .i64) 3 (Vs (none, 0, 0)) []), ⟨.pointer (some q5), [(Vi r10.1), (Vi r10.2.1), (Vl (Vs g10)), (Vi r10.2.2.2.1)], 108, none⟩, (Rw Kf 95 (Vs g10) r10.2.2.1), ⟨.pointer (some wa1), [(Vi r10.1), (Vi r10.2.1), (Sl Kf r10.2.2.2.2.1), (Vi r10.2.2.2.1), (Sl (Ki .i64) r10.2.2.2.2.2)], 115, none⟩, ⟨.pointer (some wa0), [(Vi r10.1), (Vi r10.2.1), (Vl (Vs g10)), (Vi r10.2.2.2.1), (Vl (Vs (none, 0, 0)))], 113, none⟩]) rfl) (wt_none' rfl) fun _ => ?_
  refine sx_nil' ?_
  replace hp := Option.some.inj hp
  subst hp
  refine tx_pick' (L' := []) (H' := [⟨.pointer (some wa0), [(Vi r10.1), (Vi r10.2.1), (Vl (Vs g10)), (Vi r10.2.2.2.1), (Vl (Vs (none, 0, 0)))], 113, none⟩, (Rw Kf 95 (Vs g10) r10.2.2.1), (Rw (Ki .i64) 3 (Vs (none, 0, 0)) []), ⟨.pointer (some wa1), [(Vi r10.1), (Vi r10.2.1), (Sl Kf r10.2.2.2.2.1), (Vi r10.2.2.2.1), (Sl (Ki .i64) r10.2.2.2.2.2)], 115, none⟩]) [4, 2, 0, 3] sub_nil (by decide) (pick_cons rfl (pick_cons rfl (pick_cons rfl (pick_cons rfl pick_nil)))) ?_
  exact tx_end0' Tryz.results76 rfl (g10, (none, 0, 0)) rfl (List.Sublist.refl _)
 clear h1
 refine cx_seq' fun K5 hK5 => ?_
 refine cr fun K6 hK6 => ?_
 refine s0 (rd_move' rfl) ?_
 refine s0 (rd_nilck' rfl) ?_
 refine s0 (rd_field' (off := 4) rfl Tryz.underlying113 rfl info23 rfl) ?_
 refine s0 (rd_load' (i := 3) (o := 4) rfl ⟨rfl, rfl, rfl, rfl⟩ rfl flat23) ?_
 refine s0 (rd_binf' rfl rfl (bf_vl (fun _ => by kernel_rfl) nil_neq23_nilsl)) ?_
 refine nk hK6 ?_
 refine cx_cond_f' rfl rfl ?_
 refine cx_region' ?_
 refine s0 (rd_move' rfl) ?_
 refine s0 (rd_move' rfl) ?_
 refine s0 (rd_nilck' rfl) ?_
 refine s0 (rd_field' (off := 4) rfl Tryz.underlying113 rfl info23 rfl) ?_
 refine s0 (rd_load' (i := 2) (o := 4) rfl ⟨rfl, rfl, rfl, rfl⟩ rfl flat23) ?_
 refine s0 (rd_len' rfl Tryz.underlying23) ?_
 obtain ⟨r104, hr104, hp⟩ := bind_some hp
 refine sx_ox' (ox_make' (K := (Ki .i64)) rfl rfl hr104 rfl Tryz.underlying23 info3 rfl rfl rfl rfl rfl) (wt_none' rfl) fun g104 => ?_
 refine s0 (rd_nilck' rfl) ?_
 refine s0 (rd_field' (off := 4) rfl Tryz.underlying113 rfl info23 rfl) ?_
 refine sx_ox' (ox_store' (i := 4) (o := 4) rfl rfl (lv_vl rfl rfl) ⟨rfl, rfl, rfl, rfl⟩ rfl info23 rfl (H' := [(Rw (Ki .i64) 3 (Vs g104) r104), ⟨.pointer (some q5), [(Vi r10.1), (Vi r10.2.1), (Vl (Vs g10)), (Vi r10.2.2.2.1)], 108, none⟩, (Rw Kf 95 (Vs g10) r10.2.2.1), ⟨.pointer (some wa1), [(Vi r10.1), (Vi r10.2.1), (Sl Kf r10.2.2.2.2.1), (Vi r10.2.2.2.1), (Sl (Ki .i64) r10.2.2.2.2.2)], 115, none⟩, ⟨.pointer (some wa0), [(Vi r10.1), (Vi r10.2.1), (Vl (Vs g10)), (Vi r10.2.2.2.1), (Vl (Vs g104))], 113, none⟩]) rfl) (wt_none' rfl) fun _ => ?_
 refine nk hK5 ?_
 refine cx_plan' [] [(8, 1)] [(0, 1), (1, 1), (2, 1), (3, 1), (4, 1), (5, 1), (6, 1), (7, 1), (8, 0)] mixed (by kernel_rfl) ?_
 refine px_rd' rfl (rd_move' rfl) rfl rfl (wt_none' rfl) ?_
 refine px_rd' rfl (rd_nilck' rfl) rfl rfl (wt_none' rfl) ?_
 refine px_rd' rfl (rd_field' (off := 4) rfl Tryz.underlying113 rfl info23 rfl) rfl rfl (wt_none' rfl) ?_
 refine px_rd' rfl (rd_load' (i := 4) (o := 4) rfl ⟨rfl, rfl, rfl, rfl⟩ rfl flat23) rfl rfl (wt_none' rfl) ?_
 refine px_rd' rfl (rd_move' rfl) rfl rfl (wt_none' rfl) ?_
 refine px_rd' rfl (rd_nilck' rfl) rfl rfl (wt_none' rfl) ?_
 refine px_rd' rfl (rd_field' (off := 4) rfl Tryz.underlying113 rfl info23 rfl) rfl rfl (wt_none' rfl) ?_
 refine px_rd' rfl (rd_load' (i := 3) (o := 4) rfl ⟨rfl, rfl, rfl, rfl⟩ rfl flat23) rfl rfl (wt_none' rfl) ?_
 refine px_ox' rfl (ox_copy' (i := 0) rfl rfl rfl rfl rfl Tryz.underlying23 info3 rfl rfl (H' := [(Rw (Ki .i64) 3 (Vs g104) (cpy r104 r10.2.2.2.2.2)), ⟨.pointer (some q5), [(Vi r10.1), (Vi r10.2.1), (Vl (Vs g10)), (Vi r10.2.2.2.1)], 108, none⟩, (Rw Kf 95 (Vs g10) r10.2.2.1), ⟨.pointer (some wa1), [(Vi r10.1), (Vi r10.2.1), (Sl Kf r10.2.2.2.2.1), (Vi r10.2.2.2.1), (Sl (Ki .i64) r10.2.2.2.2.2)], 115, none⟩, ⟨.pointer (some wa0), [(Vi r10.1), (Vi r10.2.1), (Vl (Vs g10)), (Vi r10.2.2.2.1), (Vl (Vs g104))], 113, none⟩]) rfl) rfl bs_nil (wt_none' rfl) fun _ => ?_
 refine px_nil' ?_
 replace hp := Option.some.inj hp
 subst hp
 refine tx_pick' (L' := []) (H' := [⟨.pointer (some wa0), [(Vi r10.1), (Vi r10.2.1), (Vl (Vs g10)), (Vi r10.2.2.2.1), (Vl (Vs g104))], 113, none⟩, (Rw Kf 95 (Vs g10) r10.2.2.1), (Rw (Ki .i64) 3 (Vs g104) (cpy r104 r10.2.2.2.2.2)), ⟨.pointer (some wa1), [(Vi r10.1), (Vi r10.2.1), (Sl Kf r10.2.2.2.2.1), (Vi r10.2.2.2.1), (Sl (Ki .i64) r10.2.2.2.2.2)], 115, none⟩]) [4, 2, 0, 3] sub_nil (by decide) (pick_cons rfl (pick_cons rfl (pick_cons rfl (pick_cons rfl pick_nil)))) ?_
 exact tx_end0' Tryz.results76 rfl (g10, g104) rfl (List.Sublist.refl _)

def gogeom_deriveDeepCopy_7 (k : Nat) (a0_0 : Int) (a0_1 : Int) (a0_3 : Int) (a1_0 : Int) (a1_1 : Int) (a1_2 : List Nat) (a1_3 : Int) (a1_4 : List Int) : Option (Int × Int × (List Nat) × Int × (List Int) × (List Nat) × (List Int)) :=
 (gogeom_deriveDeepCopy_9 k 0 0 0 a1_0 a1_1 a1_2 a1_3 a1_4) >>= fun r10 =>
 some (r10.1, r10.2.1, r10.2.2.1, r10.2.2.2.1, r10.2.2.2.2.1, r10.2.2.2.2.2.1, r10.2.2.2.2.2.2)

theorem gogeom_deriveDeepCopy_7_sim {k : Nat} {wa0 : Addr} {wa1 : Addr} (a0_0 : Int) (a0_1 : Int) (a0_3 : Int) (a1_0 : Int) (a1_1 : Int) (a1_2 : List Nat) (a1_3 : Int) (a1_4 : List Int) {out : Int × Int × (List Nat) × Int × (List Int) × (List Nat) × (List Int)} (hp : gogeom_deriveDeepCopy_7 k a0_0 a0_1 a0_3 a1_0 a1_1 a1_2 a1_3 a1_4 = some out) : Sx.Fn Tryz.prog 68 [(Vp wa0), (Vp wa1)] [⟨.pointer (some wa0), [(Vi a0_0), (Vi a0_1), Vn, (Vi a0_3), Vn], 115, none⟩, ⟨.pointer (some wa1), [(Vi a1_0), (Vi a1_1), (Sl Kf a1_2), (Vi a1_3), (Sl (Ki .i64) a1_4)], 115, none⟩] (fun w : Gs × Gs => (Vl (.tuple #[]))) (fun w => [⟨.pointer (some wa0), [(Vi out.1), (Vi out.2.1), (Vl (Vs w.1)), (Vi out.2.2.2.1), (Vl (Vs w.2))], 115, none⟩, (Rw Kf 95 (Vs w.1) out.2.2.1), (Rw (Ki .i64) 3 (Vs w.2) out.2.2.2.2.1), ⟨.pointer (some wa1), [(Vi out.1), (Vi out.2.1), (Sl Kf out.2.2.2.2.2.1), (Vi out.2.2.2.1), (Sl (Ki .i64) out.2.2.2.2.2.2)], 115, none⟩]) := by
 unfold gogeom_deriveDeepCopy_7 at hp
 refine fn_of Tryz.func68 rfl Tryz.ntmps68 rfl fun E hM => ?_
 refine cr fun K1 hK1 => ?_
 refine sx_ox' (ox_alloc' info113 rfl rfl rfl rfl (l := [(Vi 0), (Vi 0), Vn, (Vi 0), Vn]) rfl) (wt_none' rfl) fun q5 => ?_
 refine s0 (rd_assign' rfl) ?_
 refine nk hK1 ?_
 refine cr fun K2 hK2 => ?_
 refine s0 (rd_move' rfl) ?_
 refine s0 (rd_move' rfl) ?_
 refine s0 (rd_nilck' rfl) ?_
 refine s0 (rd_field0' rfl Tryz.underlying115 rfl info113 rfl) ?_
 obtain ⟨r10, hr10, hp⟩ := bind_some hp
 refine sx_ox' (ox_callg' (ent_fn' Tryz.func76 isn76 rfl rfl) (gogeom_deriveDeepCopy_9_sim _ _ _ _ _ _ _ _ hr10 : Sx.Fn Tryz.prog 76 [(Vp q5), (Vp wa1)] [⟨.pointer (some q5), [(Vi 0), (Vi 0), Vn, (Vi 0), Vn], 113, none⟩, ⟨.pointer (some wa1), [(Vi a1_0), (Vi a1_1), (Sl Kf a1_2), (Vi a1_3), (Sl (Ki .i64) a1_4)], 115, none⟩] (fun x : Gs × Gs => (Vl (.tuple #[]))) (fun x => [⟨.pointer (some q5), [(Vi r10.1), (Vi r10.2.1), (Vl (Vs x.1)), (Vi r10.2.2.2.1), (Vl (Vs x.2))], 113, none⟩, (Rw Kf 95 (Vs x.1) r10.2.2.1), (Rw (Ki .i64) 3 (Vs x.2) r10.2.2.2.2.1), ⟨.pointer (some wa1), [(Vi r10.1), (Vi r10.2.1), (Sl Kf r10.2.2.2.2.2.1), (Vi r10.2.2.2.1), (Sl (Ki .i64) r10.2.2.2.2.2.2)], 115, none⟩])) [0, 2] [1] (by decide) (pick_cons rfl (pick_cons rfl pick_nil)) (pick_cons rfl pick_nil) (Hn := fun x : Gs × Gs => [⟨.pointer (some q5), [(Vi r10.1), (Vi r10.2.1), (Vl (Vs x.1)), (Vi r10.2.2.2.1), (Vl (Vs x.2))], 113, none⟩, (Rw Kf 95 (Vs x.1) r10.2.2.1), (Rw (Ki .i64) 3 (Vs x.2) r10.2.2.2.2.1), ⟨.pointer (some wa1), [(Vi r10.1), (Vi r10.2.1), (Sl Kf r10.2.2.2.2.2.1), (Vi r10.2.2.2.1), (Sl (Ki .i64) r10.2.2.2.2.2.2)], 115, none⟩, ⟨.pointer (some wa0), [(Vi a0_0), (Vi a0_1), Vn, (Vi a0_3), Vn], 115, none⟩]) (fun _ => rfl) rfl rfl) (wt_none' rfl) fun ⟨g10, gz1⟩ => ?_
 refine nk hK2 ?_
 refine cx_region' ?_
 refine s0 (rd_move' rfl) ?_
 refine s0 (rd_move' rfl) ?_
 refine s0 (rd_nilck' rfl) ?_
 refine s0 (rd_load_agg' (i := 0) (o := 0) (nn := 5) rfl ⟨rfl, rfl, rfl, rfl⟩ rfl agg113 (l' := [(Vi r10.1), (Vi r10.2.1), (Vl (Vs g10)), (Vi r10.2.2.2.1), (Vl (Vs gz1))]) rfl) ?_
 refine s0 (rd_nilck' rfl) ?_
 refine s0 (rd_field0' rfl Tryz.underlying115 rfl info113 rfl) ?_
 refine sx_ox' (ox_store' (i := 4) (o := 0) rfl rfl (lv_ag _) ⟨rfl, rfl, rfl, rfl⟩ rfl info113 rfl (H' := [⟨.pointer (some q5), [(Vi r10.1), (Vi r10.2.1), (Vl (Vs g10)), (Vi r10.2.2.2.1), (Vl (Vs gz1))], 113, none⟩, (Rw Kf 95 (Vs g10) r10.2.2.1), (Rw (Ki .i64) 3 (Vs gz1) r10.2.2.2.2.1), ⟨.pointer (some wa1), [(Vi r10.1), (Vi r10.2.1), (Sl Kf r10.2.2.2.2.2.1), (Vi r10.2.2.2.1), (Sl (Ki .i64) r10.2.2.2.2.2.2)], 115, none⟩, ⟨.pointer (some wa0), [(Vi r10.1), (Vi r10.2.1), (Vl (Vs g10)), (Vi r10.2.2.2.1), (Vl (Vs gz1))], 115, none⟩]) rfl) (wt_none' rfl) fun _ => ?_
 refine sx_nil' ?_
 replace hp := Option.some.inj hp
 subst hp
 refine tx_pick' (L' := []) (H' := [⟨.pointer (some wa0), [(Vi r10.1), (Vi r10.2.1), (Vl (Vs g10)), (Vi r10.2.2.2.1), (Vl (Vs gz1))], 115, none⟩, (Rw Kf 95 (Vs g10) r10.2.2.1), (Rw (Ki .i64) 3 (Vs gz1) r10.2.2.2.2.1), ⟨.pointer (some wa1), [(Vi r10.1), (Vi r10.2.1), (Sl Kf r10.2.2.2.2.2.1), (Vi r10.2.2.2.1), (Sl (Ki .i64) r10.2.2.2.2.2.2)], 115, none⟩]) [4, 1, 2, 3] sub_nil (by decide) (pick_cons rfl (pick_cons rfl (pick_cons rfl (pick_cons rfl pick_nil)))) ?_
 exact tx_end0' Tryz.results68 rfl (g10, gz1) rfl (List.Sublist.refl _)

def gogeom_deriveClonePolygon (k : Nat) (a0_0 : Int) (a0_1 : Int) (a0_2 : List Nat) (a0_3 : Int) (a0_4 : List Int) : Option (Int × Int × (List Nat) × Int × (List Int) × (List Nat) × (List Int)) :=
 (gogeom_deriveDeepCopy_7 k 0 0 0 a0_0 a0_1 a0_2 a0_3 a0_4) >>= fun r9 =>
 some (r9.1, r9.2.1, r9.2.2.2.2.2.1, r9.2.2.2.1, r9.2.2.2.2.2.2, r9.2.2.1, r9.2.2.2.2.1)

theorem gogeom_deriveClonePolygon_sim {k : Nat} {wa0 : Addr} (a0_0 : Int) (a0_1 : Int) (a0_2 : List Nat) (a0_3 : Int) (a0_4 : List Int) {out : Int × Int × (List Nat) × Int × (List Int) × (List Nat) × (List Int)} (hp : gogeom_deriveClonePolygon k a0_0 a0_1 a0_2 a0_3 a0_4 = some out) : Sx.Fn Tryz.prog 51 [(Vp wa0)] [⟨.pointer (some wa0), [(Vi a0_0), (Vi a0_1), (Sl Kf a0_2), (Vi a0_3), (Sl (Ki .i64) a0_4)], 115, none⟩] (fun w : Addr × Gs × Gs => (Vp w.1)) (fun w => [⟨.pointer (some wa0), [(Vi out.1), (Vi out.2.1), (Sl Kf out.2.2.1), (Vi out.2.2.2.1), (Sl (Ki .i64) out.2.2.2.2.1)], 115, none⟩, ⟨.pointer (some w.1), [(Vi out.1), (Vi out.2.1), (Vl (Vs w.2.1)), (Vi out.2.2.2.1), (Vl (Vs w.2.2))], 115, none⟩, (Rw Kf 95 (Vs w.2.1) out.2.2.2.2.2.1), (Rw (Ki .i64) 3 (Vs w.2.2) out.2.2.2.2.2.2)]) := by
 unfold gogeom_deriveClonePolygon at hp
 refine fn_of Tryz.func51 rfl Tryz.ntmps51 rfl fun E hM => ?_
 refine cr fun K1 hK1 => ?_
 refine s0 (rd_assign' rfl) ?_
 refine nk hK1 ?_
 refine cx_seq' fun K2 hK2 => ?_
 refine cr fun K3 hK3 => ?_
 refine s0 (rd_move' rfl) ?_
 refine s0 (rd_binf' rfl rfl (bf_vl (fun _ => by kernel_rfl) (nil_eql44_ptr _))) ?_
 refine nk hK3 ?_
 refine cx_cond_f' rfl rfl ?_
 refine cx_skip' ?_
 show TX E K2 _
 refine tx_k' hK2 ?_
 refine cr fun K4 hK4 => ?_
 refine sx_ox' (ox_alloc' info115 rfl rfl rfl rfl (l := [(Vi 0), (Vi 0), Vn, (Vi 0), Vn]) rfl) (wt_none' rfl) fun q6 => ?_
 refine s0 (rd_assign' rfl) ?_
 refine nk hK4 ?_
 refine cr fun K5 hK5 => ?_
 refine s0 (rd_move' rfl) ?_
 refine s0 (rd_move' rfl) ?_
 obtain ⟨r9, hr9, hp⟩ := bind_some hp
 refine sx_ox' (ox_callg' (ent_fn' Tryz.func68 isn68 rfl rfl) (gogeom_deriveDeepCopy_7_sim _ _ _ _ _ _ _ _ hr9 : Sx.Fn Tryz.prog 68 [(Vp q6), (Vp wa0)] [⟨.pointer (some q6), [(Vi 0), (Vi 0), Vn, (Vi 0), Vn], 115, none⟩, ⟨.pointer (some wa0), [(Vi a0_0), (Vi a0_1), (Sl Kf a0_2), (Vi a0_3), (Sl (Ki .i64) a0_4)], 115, none⟩] (fun x : Gs × Gs => (Vl (.tuple #[]))) (fun x => [⟨.pointer (some q6), [(Vi r9.1), (Vi r9.2.1), (Vl (Vs x.1)), (Vi r9.2.2.2.1), (Vl (Vs x.2))], 115, none⟩, (Rw Kf 95 (Vs x.1) r9.2.2.1), (Rw (Ki .i64) 3 (Vs x.2) r9.2.2.2.2.1), ⟨.pointer (some wa0), [(Vi r9.1), (Vi r9.2.1), (Sl Kf r9.2.2.2.2.2.1), (Vi r9.2.2.2.1), (Sl (Ki .i64) r9.2.2.2.2.2.2)], 115, none⟩])) [0, 1] [] (by decide) (pick_cons rfl (pick_cons rfl pick_nil)) pick_nil (Hn := fun x : Gs × Gs => [⟨.pointer (some q6), [(Vi r9.1), (Vi r9.2.1), (Vl (Vs x.1)), (Vi r9.2.2.2.1), (Vl (Vs x.2))], 115, none⟩, (Rw Kf 95 (Vs x.1) r9.2.2.1), (Rw (Ki .i64) 3 (Vs x.2) r9.2.2.2.2.1), ⟨.pointer (some wa0), [(Vi r9.1), (Vi r9.2.1), (Sl Kf r9.2.2.2.2.2.1), (Vi r9.2.2.2.1), (Sl (Ki .i64) r9.2.2.2.2.2.2)], 115, none⟩]) (fun _ => rfl) rfl rfl) (wt_none' rfl) fun ⟨g9, gz1⟩ => ?_
 refine nk hK5 ?_
 refine cr fun K6 hK6 => ?_
 refine s0 (rd_move' rfl) ?_
 refine s0 (rd_assign' rfl) ?_
 refine nk hK6 ?_
 refine cx_retc' ?_
 replace hp := Option.some.inj hp
 subst hp
 refine tx_pick' (L' := [(2, (Vp q6))]) (H' := [⟨.pointer (some wa0), [(Vi r9.1), (Vi r9.2.1), (Sl Kf r9.2.2.2.2.2.1), (Vi r9.2.2.2.1), (Sl (Ki .i64) r9.2.2.2.2.2.2)], 115, none⟩, ⟨.pointer (some q6), [(Vi r9.1), (Vi r9.2.1), (Vl (Vs g9)), (Vi r9.2.2.2.1), (Vl (Vs gz1))], 115, none⟩, (Rw Kf 95 (Vs g9) r9.2.2.1), (Rw (Ki .i64) 3 (Vs gz1) r9.2.2.2.2.1)]) [3, 0, 1, 2] (sub_cons rfl sub_nil) (by decide) (pick_cons rfl (pick_cons rfl (pick_cons rfl (pick_cons rfl pick_nil)))) ?_
 exact tx_ret1' Tryz.results51 rfl (q6, g9, gz1) (rv_tmp' rfl) (List.Sublist.refl _)

def gogeom_Polygon_Clone (k : Nat) (a0_0 : Int) (a0_1 : Int) (a0_2 : List Nat) (a0_3 : Int) (a0_4 : List Int) : Option (Int × Int × (List Nat) × Int × (List Int) × (List Nat) × (List Int)) :=
 (gogeom_deriveClonePolygon k a0_0 a0_1 a0_2 a0_3 a0_4) >>= fun r4 =>
 some (r4.1, r4.2.1, r4.2.2.1, r4.2.2.2.1, r4.2.2.2.2.1, r4.2.2.2.2.2.1, r4.2.2.2.2.2.2)

theorem gogeom_Polygon_Clone_sim {k : Nat} {wa0 : Addr} (a0_0 : Int) (a0_1 : Int) (a0_2 : List Nat) (a0_3 : Int) (a0_4 : List Int) {out : Int × Int × (List Nat) × Int × (List Int) × (List Nat) × (List Int)} (hp : gogeom_Polygon_Clone k a0_0 a0_1 a0_2 a0_3 a0_4 = some out) : Sx.Fn Tryz.prog 16 [(Vp wa0)] [⟨.pointer (some wa0), [(Vi a0_0), (Vi a0_1), (Sl Kf a0_2), (Vi a0_3), (Sl (Ki .i64) a0_4)], 115, none⟩] (fun w : Addr × Gs × Gs => (Vp w.1)) (fun w => [⟨.pointer (some wa0), [(Vi out.1), (Vi out.2.1), (Sl Kf out.2.2.1), (Vi out.2.2.2.1), (Sl (Ki .i64) out.2.2.2.2.1)], 115, none⟩, ⟨.pointer (some w.1), [(Vi out.1), (Vi out.2.1), (Vl (Vs w.2.1)), (Vi out.2.2.2.1), (Vl (Vs w.2.2))], 115, none⟩, (Rw Kf 95 (Vs w.2.1) out.2.2.2.2.2.1), (Rw (Ki .i64) 3 (Vs w.2.2) out.2.2.2.2.2.2)]) := by
 unfold gogeom_Polygon_Clone at hp
 refine fn_of Tryz.func16 rfl Tryz.ntmps16 rfl fun E hM => ?_
 refine cr fun K1 hK1 => ?_
 refine s0 (rd_assign' rfl) ?_
 refine nk hK1 ?_
 refine cr fun K2 hK2 => ?_
 refine s0 (rd_move' rfl) ?_
 obtain ⟨r4, hr4, hp⟩ := bind_some hp
 refine sx_ox' (ox_callg' (ent_fn' Tryz.func51 isn51 rfl rfl) (gogeom_deriveClonePolygon_sim _ _ _ _ _ hr4 : Sx.Fn Tryz.prog 51 [(Vp wa0)] [⟨.pointer (some wa0), [(Vi a0_0), (Vi a0_1), (Sl Kf a0_2), (Vi a0_3), (Sl (Ki .i64) a0_4)], 115, none⟩] (fun x : Addr × Gs × Gs => (Vp x.1)) (fun x => [⟨.pointer (some wa0), [(Vi r4.1), (Vi r4.2.1), (Sl Kf r4.2.2.1), (Vi r4.2.2.2.1), (Sl (Ki .i64) r4.2.2.2.2.1)], 115, none⟩, ⟨.pointer (some x.1), [(Vi r4.1), (Vi r4.2.1), (Vl (Vs x.2.1)), (Vi r4.2.2.2.1), (Vl (Vs x.2.2))], 115, none⟩, (Rw Kf 95 (Vs x.2.1) r4.2.2.2.2.2.1), (Rw (Ki .i64) 3 (Vs x.2.2) r4.2.2.2.2.2.2)])) [0] [] (by decide) (pick_cons rfl pick_nil) pick_nil (Hn := fun x : Addr × Gs × Gs => [⟨.pointer (some wa0), [(Vi r4.1), (Vi r4.2.1), (Sl Kf r4.2.2.1), (Vi r4.2.2.2.1), (Sl (Ki .i64) r4.2.2.2.2.1)], 115, none⟩, ⟨.pointer (some x.1), [(Vi r4.1), (Vi r4.2.1), (Vl (Vs x.2.1)), (Vi r4.2.2.2.1), (Vl (Vs x.2.2))], 115, none⟩, (Rw Kf 95 (Vs x.2.1) r4.2.2.2.2.2.1), (Rw (Ki .i64) 3 (Vs x.2.2) r4.2.2.2.2.2.2)]) (fun _ => rfl) rfl rfl) (wt_none' rfl) fun ⟨q4, g4, gz1⟩ => ?_
 refine s0 (rd_assign' rfl) ?_
 refine nk hK2 ?_
 refine cx_retc' ?_
 replace hp := Option.some.inj hp
 subst hp
 refine tx_pick' (L' := [(2, (Vp q4))]) (H' := [⟨.pointer (some wa0), [(Vi r4.1), (Vi r4.2.1), (Sl Kf r4.2.2.1), (Vi r4.2.2.2.1), (Sl (Ki .i64) r4.2.2.2.2.1)], 115, none⟩, ⟨.pointer (some q4), [(Vi r4.1), (Vi r4.2.1), (Vl (Vs g4)), (Vi r4.2.2.2.1), (Vl (Vs gz1))], 115, none⟩, (Rw Kf 95 (Vs g4) r4.2.2.2.2.2.1), (Rw (Ki .i64) 3 (Vs gz1) r4.2.2.2.2.2.2)]) [0, 1, 2, 3] (sub_cons rfl sub_nil) (by decide) (pick_cons rfl (pick_cons rfl (pick_cons rfl (pick_cons rfl pick_nil)))) ?_
 exact tx_ret1' Tryz.results16 rfl (q4, g4, gz1) (rv_tmp' rfl) (List.Sublist.refl _)

def gogeom_geom0_SRID_v4 (k : Nat) (a0_0 : Int) (a0_1 : Int) (a0_2 : List Nat) (a0_3 : Int) (a0_4 : List Int) : Option (Int × Int × (List Nat) × Int × (List Int)) :=
 some (a0_0, a0_1, a0_2, a0_3, a0_4)

theorem gogeom_geom0_SRID_v4_sim {k : Nat} {wa0 : Addr} {wa0_2 : Gs} {wa0_4 : Gs} (a0_0 : Int) (a0_1 : Int) (a0_2 : List Nat) (a0_3 : Int) (a0_4 : List Int) {out : Int × Int × (List Nat) × Int × (List Int)} (hp : gogeom_geom0_SRID_v4 k a0_0 a0_1 a0_2 a0_3 a0_4 = some out) : Sx.Fn Tryz.prog 101 [(Vp wa0)] [⟨.pointer (some wa0), [(Vi a0_0), (Vi a0_1), (Vl (Vs wa0_2)), (Vi a0_3), (Vl (Vs wa0_4))], 115, none⟩, (Rw Kf 95 (Vs wa0_2) a0_2), (Rw (Ki .i64) 3 (Vs wa0_4) a0_4)] (fun w : Unit => (Vi out.2.2.2.1)) (fun w => [⟨.pointer (some wa0), [(Vi out.1), (Vi out.2.1), (Vl (Vs wa0_2)), (Vi out.2.2.2.1), (Vl (Vs wa0_4))], 115, none⟩, (Rw Kf 95 (Vs wa0_2) out.2.2.1), (Rw (Ki .i64) 3 (Vs wa0_4) out.2.2.2.2)]) := by
 unfold gogeom_geom0_SRID_v4 at hp
 refine fn_of Tryz.func101 rfl Tryz.ntmps101 rfl fun E hM => ?_
 refine cr fun K1 hK1 => ?_
 refine s0 (rd_assign' rfl) ?_
 refine nk hK1 ?_
 refine cr fun K2 hK2 => ?_
 refine s0 (rd_move' rfl) ?_
 refine s0 (rd_nilck' rfl) ?_
 refine s0 (rd_field' (off := 3) rfl Tryz.underlying105 rfl info3 rfl) ?_
 refine s0 (rd_load' (i := 0) (o := 3) rfl ⟨rfl, rfl, rfl, rfl⟩ rfl flat3) ?_
 refine s0 (rd_assign' rfl) ?_
 refine nk hK2 ?_
 refine cx_retc' ?_
 replace hp := Option.some.inj hp
 subst hp
 refine tx_pick' (L' := [(2, (Vi a0_3))]) (H' := [⟨.pointer (some wa0), [(Vi a0_0), (Vi a0_1), (Vl (Vs wa0_2)), (Vi a0_3), (Vl (Vs wa0_4))], 115, none⟩, (Rw Kf 95 (Vs wa0_2) a0_2), (Rw (Ki .i64) 3 (Vs wa0_4) a0_4)]) [0, 1, 2] (sub_cons rfl sub_nil) (by decide) (pick_cons rfl (pick_cons rfl (pick_cons rfl pick_nil))) ?_
 exact tx_ret1' Tryz.results101 rfl () (rv_tmp' rfl) (List.Sublist.refl _)

def gogeom_geom0_Layout_v4 (k : Nat) (a0_0 : Int) (a0_1 : Int) (a0_2 : List Nat) (a0_3 : Int) (a0_4 : List Int) : Option (Int × Int × (List Nat) × Int × (List Int)) :=
 some (a0_0, a0_1, a0_2, a0_3, a0_4)

theorem gogeom_geom0_Layout_v4_sim {k : Nat} {wa0 : Addr} {wa0_2 : Gs} {wa0_4 : Gs} (a0_0 : Int) (a0_1 : Int) (a0_2 : List Nat) (a0_3 : Int) (a0_4 : List Int) {out : Int × Int × (List Nat) × Int × (List Int)} (hp : gogeom_geom0_Layout_v4 k a0_0 a0_1 a0_2 a0_3 a0_4 = some out) : Sx.Fn Tryz.prog 100 [(Vp wa0)] [⟨.pointer (some wa0), [(Vi a0_0), (Vi a0_1), (Vl (Vs wa0_2)), (Vi a0_3), (Vl (Vs wa0_4))], 115, none⟩, (Rw Kf 95 (Vs wa0_2) a0_2), (Rw (Ki .i64) 3 (Vs wa0_4) a0_4)] (fun w : Unit => (Vi out.1)) (fun w => [⟨.pointer (some wa0), [(Vi out.1), (Vi out.2.1), (Vl (Vs wa0_2)), (Vi out.2.2.2.1), (Vl (Vs wa0_4))], 115, none⟩, (Rw Kf 95 (Vs wa0_2) out.2.2.1), (Rw (Ki .i64) 3 (Vs wa0_4) out.2.2.2.2)]) := by
 unfold gogeom_geom0_Layout_v4 at hp
 refine fn_of Tryz.func100 rfl Tryz.ntmps100 rfl fun E hM => ?_
 refine cr fun K1 hK1 => ?_
 refine s0 (rd_assign' rfl) ?_
 refine nk hK1 ?_
 refine cr fun K2 hK2 => ?_
 refine s0 (rd_move' rfl) ?_
 refine s0 (rd_nilck' rfl) ?_
 refine s0 (rd_field0' rfl Tryz.underlying105 rfl info54 rfl) ?_
 refine s0 (rd_load' (i := 0) (o := 0) rfl ⟨rfl, rfl, rfl, rfl⟩ rfl flat54) ?_
 refine s0 (rd_assign' rfl) ?_
 refine nk hK2 ?_
 refine cx_retc' ?_
 replace hp := Option.some.inj hp
 subst hp
 refine tx_pick' (L' := [(2, (Vi a0_0))]) (H' := [⟨.pointer (some wa0), [(Vi a0_0), (Vi a0_1), (Vl (Vs wa0_2)), (Vi a0_3), (Vl (Vs wa0_4))], 115, none⟩, (Rw Kf 95 (Vs wa0_2) a0_2), (Rw (Ki .i64) 3 (Vs wa0_4) a0_4)]) [0, 1, 2] (sub_cons rfl sub_nil) (by decide) (pick_cons rfl (pick_cons rfl (pick_cons rfl pick_nil))) ?_
 exact tx_ret1' Tryz.results100 rfl () (rv_tmp' rfl) (List.Sublist.refl _)

def gogeom_geom0_FlatCoords_v4 (k : Nat) (a0_0 : Int) (a0_1 : Int) (a0_2 : List Nat) (a0_3 : Int) (a0_4 : List Int) : Option (Int × Int × (List Nat) × Int × (List Int)) :=
 some (a0_0, a0_1, a0_2, a0_3, a0_4)

theorem gogeom_geom0_FlatCoords_v4_sim {k : Nat} {wa0 : Addr} {wa0_2 : Gs} {wa0_4 : Gs} (a0_0 : Int) (a0_1 : Int) (a0_2 : List Nat) (a0_3 : Int) (a0_4 : List Int) {out : Int × Int × (List Nat) × Int × (List Int)} (hp : gogeom_geom0_FlatCoords_v4 k a0_0 a0_1 a0_2 a0_3 a0_4 = some out) : Sx.Fn Tryz.prog 99 [(Vp wa0)] [⟨.pointer (some wa0), [(Vi a0_0), (Vi a0_1), (Vl (Vs wa0_2)), (Vi a0_3), (Vl (Vs wa0_4))], 115, none⟩, (Rw Kf 95 (Vs wa0_2) a0_2), (Rw (Ki .i64) 3 (Vs wa0_4) a0_4)] (fun w : Unit => (Sl Kf out.2.2.1)) (fun w => [⟨.pointer (some wa0), [(Vi out.1), (Vi out.2.1), (Sl Kf out.2.2.1), (Vi out.2.2.2.1), (Vl (Vs wa0_4))], 115, none⟩, (Rw (Ki .i64) 3 (Vs wa0_4) out.2.2.2.2)]) := by
 unfold gogeom_geom0_FlatCoords_v4 at hp
 refine fn_of Tryz.func99 rfl Tryz.ntmps99 rfl fun E hM => ?_
 refine cr fun K1 hK1 => ?_
 refine s0 (rd_assign' rfl) ?_
 refine nk hK1 ?_
 refine cr fun K2 hK2 => ?_
 refine s0 (rd_move' rfl) ?_
 refine s0 (rd_nilck' rfl) ?_
 refine s0 (rd_field' (off := 2) rfl Tryz.underlying105 rfl info22 rfl) ?_
 refine s0 (rd_load' (i := 0) (o := 2) rfl ⟨rfl, rfl, rfl, rfl⟩ rfl flat22) ?_
 refine s0 (rd_assign' rfl) ?_
 refine nk hK2 ?_
 refine cx_retc' ?_
 replace hp := Option.some.inj hp
 subst hp
 refine tx_fz' (frz_row 1 [(2, (Vl (Vs wa0_2)), (Sl Kf a0_2)), (6, (Vl (Vs wa0_2)), (Sl Kf a0_2))] (K := Kf) (xs := a0_2) (by decide) rfl ⟨⟨rfl, frz_it⟩, ⟨rfl, frz_it⟩, trivial⟩ (H' := [⟨.pointer (some wa0), [(Vi a0_0), (Vi a0_1), (Sl Kf a0_2), (Vi a0_3), (Vl (Vs wa0_4))], 115, none⟩, (Rw (Ki .i64) 3 (Vs wa0_4) a0_4)]) (frzH_cons rfl rfl rfl (frzL_cons frz_same (frzL_cons frz_same (frzL_cons frz_it (frzL_cons frz_same (frzL_cons frz_same frzL_refl))))) (frzH_cons rfl rfl rfl frzL_refl frzH_refl))) ?_
 refine tx_pick' (L' := [(2, (Sl Kf a0_2))]) (H' := [⟨.pointer (some wa0), [(Vi a0_0), (Vi a0_1), (Sl Kf a0_2), (Vi a0_3), (Vl (Vs wa0_4))], 115, none⟩, (Rw (Ki .i64) 3 (Vs wa0_4) a0_4)]) [0, 1] (sub_cons rfl sub_nil) (by decide) (pick_cons rfl (pick_cons rfl pick_nil)) ?_
 exact tx_ret1' Tryz.results99 rfl () (rv_tmp' rfl) (List.Sublist.refl _)

def gogeom_geom2_Ends (k : Nat) (a0_0 : Int) (a0_1 : Int) (a0_2 : List Nat) (a0_3 : Int) (a0_4 : List Int) : Option (Int × Int × (List Nat) × Int × (List Int)) :=
 some (a0_0, a0_1, a0_2, a0_3, a0_4)

theorem gogeom_geom2_Ends_sim {k : Nat} {wa0 : Addr} {wa0_4 : Gs} (a0_0 : Int) (a0_1 : Int) (a0_2 : List Nat) (a0_3 : Int) (a0_4 : List Int) {out : Int × Int × (List Nat) × Int × (List Int)} (hp : gogeom_geom2_Ends k a0_0 a0_1 a0_2 a0_3 a0_4 = some out) : Sx.Fn Tryz.prog 104 [(Vp wa0)] [⟨.pointer (some wa0), [(Vi a0_0), (Vi a0_1), (Sl Kf a0_2), (Vi a0_3), (Vl (Vs wa0_4))], 115, none⟩, (Rw (Ki .i64) 3 (Vs wa0_4) a0_4)] (fun w : Unit => (Sl (Ki .i64) out.2.2.2.2)) (fun w => [⟨.pointer (some wa0), [(Vi out.1), (Vi out.2.1), (Sl Kf out.2.2.1), (Vi out.2.2.2.1), (Sl (Ki .i64) out.2.2.2.2)], 115, none⟩]) := by
 unfold gogeom_geom2_Ends at hp
 refine fn_of Tryz.func104 rfl Tryz.ntmps104 rfl fun E hM => ?_
 refine cr fun K1 hK1 => ?_
 refine s0 (rd_assign' rfl) ?_
 refine nk hK1 ?_
 refine cr fun K2 hK2 => ?_
 refine s0 (rd_move' rfl) ?_
 refine s0 (rd_nilck' rfl) ?_
 refine s0 (rd_field' (off := 4) rfl Tryz.underlying113 rfl info23 rfl) ?_
 refine s0 (rd_load' (i := 0) (o := 4) rfl ⟨rfl, rfl, rfl, rfl⟩ rfl flat23) ?_
 refine s0 (rd_assign' rfl) ?_
 refine nk hK2 ?_
 refine cx_retc' ?_
 replace hp := Option.some.inj hp
 subst hp
 refine tx_fz' (frz_row 1 [(2, (Vl (Vs wa0_4)), (Sl (Ki .i64) a0_4)), (6, (Vl (Vs wa0_4)), (Sl (Ki .i64) a0_4))] (K := (Ki .i64)) (xs := a0_4) (by decide) rfl ⟨⟨rfl, frz_it⟩, ⟨rfl, frz_it⟩, trivial⟩ (H' := [⟨.pointer (some wa0), [(Vi a0_0), (Vi a0_1), (Sl Kf a0_2), (Vi a0_3), (Sl (Ki .i64) a0_4)], 115, none⟩]) (frzH_cons rfl rfl rfl (frzL_cons frz_same (frzL_cons frz_same (frzL_cons frz_same (frzL_cons frz_same (frzL_cons frz_it frzL_refl))))) frzH_refl)) ?_
 refine tx_pick' (L' := [(2, (Sl (Ki .i64) a0_4))]) (H' := [⟨.pointer (some wa0), [(Vi a0_0), (Vi a0_1), (Sl Kf a0_2), (Vi a0_3), (Sl (Ki .i64) a0_4)], 115, none⟩]) [0] (sub_cons rfl sub_nil) (by decide) (pick_cons rfl pick_nil) ?_
 exact tx_ret1' Tryz.results104 rfl () (rv_tmp' rfl) (List.Sublist.refl _)

def gogeom_geom0_Endss_v4 (k : Nat) (a0_0 : Int) (a0_1 : Int) (a0_2 : List Nat) (a0_3 : Int) (a0_4 : List Int) : Option (Int × Int × (List Nat) × Int × (List Int)) :=
 some (a0_0, a0_1, a0_2, a0_3, a0_4)

theorem gogeom_geom0_Endss_v4_sim {k : Nat} {wa0 : Addr} (a0_0 : Int) (a0_1 : Int) (a0_2 : List Nat) (a0_3 : Int) (a0_4 : List Int) {out : Int × Int × (List Nat) × Int × (List Int)} (hp : gogeom_geom0_Endss_v4 k a0_0 a0_1 a0_2 a0_3 a0_4 = some out) : Sx.Fn Tryz.prog 98 [(Vp wa0)] [⟨.pointer (some wa0), [(Vi a0_0), (Vi a0_1), (Sl Kf a0_2), (Vi a0_3), (Sl (Ki .i64) a0_4)], 115, none⟩] (fun w : Unit => Vn) (fun w => [⟨.pointer (some wa0), [(Vi out.1), (Vi out.2.1), (Sl Kf out.2.2.1), (Vi out.2.2.2.1), (Sl (Ki .i64) out.2.2.2.2)], 115, none⟩]) := by
 unfold gogeom_geom0_Endss_v4 at hp
 refine fn_of Tryz.func98 rfl Tryz.ntmps98 rfl fun E hM => ?_
 refine cr fun K1 hK1 => ?_
 refine s0 (rd_assign' rfl) ?_
 refine nk hK1 ?_
 refine cr fun K2 hK2 => ?_
 refine s0 (rd_assign' rfl) ?_
 refine nk hK2 ?_
 refine cx_retc' ?_
 replace hp := Option.some.inj hp
 subst hp
 refine tx_pick' (L' := [(2, Vn)]) (H' := [⟨.pointer (some wa0), [(Vi a0_0), (Vi a0_1), (Sl Kf a0_2), (Vi a0_3), (Sl (Ki .i64) a0_4)], 115, none⟩]) [0] (sub_cons rfl sub_nil) (by decide) (pick_cons rfl pick_nil) ?_
 exact tx_ret1' Tryz.results98 rfl () (rv_tmp' rfl) (List.Sublist.refl _)

end Go.Proofs.YtmagcmeknclljaaGreat
