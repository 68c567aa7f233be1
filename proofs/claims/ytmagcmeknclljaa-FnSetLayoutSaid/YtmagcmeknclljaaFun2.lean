/-
  Plain functions for the Go functions that this law reaches, and that each call does what its plain function says. Printed by a program of ours.
-/
import Derived.Test.YtmagcmeknclljaaProg
import Derived.Test.YtmagcmeknclljaaSxX
import Derived.Test.YtmagcmeknclljaaFun1
namespace Go.Proofs.Ytmagcmeknclljaa
open Go.Sx
set_option linter.unusedVariables false
set_option maxRecDepth 100000

def impl_intss_l1s (a0 : List (List Int)) (k : Nat) (rec1 : ((List (List Int)) × Int) → Option ((List (List Int)))) (x1 : List (List Int)) (x2 : Int) : Option ((List (List Int))) :=
 br (decide (x2 < (a0.length : Int)))
  ((idx a0 x2) >>= fun r10 =>
  (impl_ints k r10) >>= fun r14 =>
  match r14 with
   | (.inl y2) =>
    ((apd 24 x1 ([[]])) >>= fun r16 =>
    rec1 (r16, (iadd .i64 x2 1)))
   | (.inr y2) =>
    ((apd 24 x1 ([y2])) >>= fun r16 =>
    rec1 (r16, (iadd .i64 x2 1))))
  (some x1)
def impl_intss_l1 (a0 : List (List Int)) : Nat → ((List (List Int)) × Int) → Option ((List (List Int)))
 | 0, _ => none
 | k + 1, v => impl_intss_l1s a0 k (impl_intss_l1 a0 k) v.1 v.2
def impl_intss (k : Nat) (a0 : List (List Int)) : Option ((List (List Int))) :=
 (impl_intss_l1 a0 k ([], 0)) >>= fun v2 =>
 some v2

theorem impl_intss_sim {k : Nat}  (a0 : List (List Int)) {out : (List (List Int))} (hp : impl_intss k a0 = some out) : Sx.Fn Try.prog 29 [(Sl (Kl (Ki .i64)) a0)] [] (fun w : Unit => (Sl (Kl (Ki .i64)) out)) (fun w => []) := by
 unfold impl_intss at hp
 refine fn_of Try.func29 rfl Try.ntmps29 rfl fun E hM => ?_
 refine cr fun K1 hK1 => ?_
 refine s0 (rd_assign' rfl) ?_
 refine nk hK1 ?_
 refine cr fun K2 hK2 => ?_
 refine s0 (rd_assign' rfl) ?_
 refine nk hK2 ?_
 refine cx_seq' fun K3 hK3 => ?_
 refine cr fun K4 hK4 => ?_
 refine s0 (rd_move' rfl) ?_
 refine s0 (rd_len' rfl Try.underlying24) ?_
 refine s0 (rd_move' rfl) ?_
 refine nk hK4 ?_
 refine cx_block' ?_
 obtain ⟨v2, hy1, hp⟩ := bind_some hp
 refine tx_nilrow' (Kl (Ki .i64)) 23 ?_
 refine cx_loopg' (F := impl_intss_l1 a0) (G := fun k R v => impl_intss_l1s a0 k R v.1 v.2) (x := ([], 0)) (gh := (none, 0, 0)) (fun (v1 : (List (List Int)) × Int) (w1 : Gs) => (⟨19, [], [(3, (Vl (Vs w1))), (6, (Sl (Kl (Ki .i64)) a0)), (7, (Vi (a0.length : Int))), (8, (Vi v1.2))], [(Rw (Kl (Ki .i64)) 23 (Vs w1) v1.1)]⟩ : St)) (fun (v2 : (List (List Int))) => Zg E (Exit.exit 0) (fun (w2 : Gs) => (⟨19, [], [(3, (Vl (Vs w2)))], [(Rw (Kl (Ki .i64)) 23 (Vs w2) v2)]⟩ : St))) (fun _ => rfl) (fun _ _ => rfl) ?_ hy1 (tx_to' rfl [0] (sub_cons rfl (sub_cons rfl (sub_cons rfl (sub_cons rfl sub_nil)))) (by decide) (pick_cons rfl pick_nil)) ?_
 ·clear hp hy1
  clear v2
  intro k rec1 KY1 ih1
  rintro ⟨x1, x2⟩ g901 y3 hp
  replace hp : impl_intss_l1s a0 k rec1 x1 x2 = some y3 := hp
  unfold impl_intss_l1s at hp
  refine cr fun K9 hK9 => ?_
  refine s0 (rd_bin' rfl rfl eg_int ru_lss) ?_
  refine nk hK9 ?_
  refine cx_seq' fun K10 hK10 => ?_
  refine cx_cond' rfl (fun h3 => ?_) (fun h3 => ?_)
  ·replace hp := (br_t h3).symm.trans hp
   refine cx_skip' ?_
   show TX E K10 _
   refine tx_k' hK10 ?_
   refine cx_seq' fun K11 hK11 => ?_
   refine cx_block' ?_
   refine cr fun K12 hK12 => ?_
   obtain ⟨r10, hr10, hp⟩ := bind_some hp
   refine s0 (rd_at' (K := (Kl (Ki .i64))) rfl rfl hr10 Try.underlying24 info23) ?_
   refine s0 (rd_load_pt' rfl rfl flat23) ?_
   refine s0 (rd_assign' rfl) ?_
   refine nk hK12 ?_
   refine cx_region' ?_
   refine s0 (rd_move' rfl) ?_
   refine s0 (rd_move' rfl) ?_
   obtain ⟨r14, hr14, hp⟩ := bind_some hp
   rcases r14 with y2 | y2
   ·dsimp only at hp
    refine sx_ox' (ox_calln' (ent_fn' Try.func58 isn58 rfl rfl) (impl_ints_sim _ hr14 : Sx.Fn Try.prog 58 [(Sl (Ki .i64) r10)] [] (fun x : Unit => Vn) (fun x => [])) (Hn := fun x : Unit => [(Rw (Kl (Ki .i64)) 23 (Vs g901) x1)]) (fun _ => rfl) rfl rfl) (wt_none' rfl) fun ⟨⟩ => ?_
    refine tx_nilsl' 14 (Ki .i64) rfl rfl ?_
    refine sx_ox' (ox_rowlit' (K := (Kl (Ki .i64))) (xs := [[]]) (qs := [(0, [(Sl (Ki .i64) [])])]) ⟨rfl, ⟨_, rfl, (lv_sl _ _)⟩, trivial⟩ Try.underlying24 info23 rfl rfl rfl rfl rfl (by kernel_rfl) rfl rfl rfl) (wt_none' rfl) fun g15 => ?_
    obtain ⟨r16, hr16, hp⟩ := bind_some hp
    refine sx_ox' (ox_append' (K := (Kl (Ki .i64))) (i := 1) (xs := x1) (ys := ([[]])) rfl rfl rfl (sr_row' (j := 0) rfl rfl rfl Try.underlying24) hr16 Try.underlying24 info23 rfl rfl rfl (H' := [(Rw (Kl (Ki .i64)) 23 (Vs g15) ([[]]))]) rfl) (wt_none' rfl) fun g16 => ?_
    refine s0 (rd_assign' rfl) ?_
    refine nk hK11 ?_
    refine cx_region' ?_
    refine s0 (rd_bin' rfl rfl eg_int ru_add) ?_
    refine s0 (rd_move' rfl) ?_
    refine sx_nil' ?_
    show TX E (KY1 _) _
    exact tx_pick' [0] (sub_cons rfl (sub_cons rfl (sub_cons rfl (sub_cons rfl sub_nil)))) (by decide) (pick_cons rfl pick_nil) (ih1 (r16, (iadd .i64 x2 1)) g16 _ hp)
   dsimp only at hp
   refine sx_ox' (ox_calln' (ent_fn' Try.func58 isn58 rfl rfl) (impl_ints_sim _ hr14 : Sx.Fn Try.prog 58 [(Sl (Ki .i64) r10)] [] (fun x : Unit => (Sl (Ki .i64) y2)) (fun x => [])) (Hn := fun x : Unit => [(Rw (Kl (Ki .i64)) 23 (Vs g901) x1)]) (fun _ => rfl) rfl rfl) (wt_none' rfl) fun ⟨⟩ => ?_
   refine sx_ox' (ox_rowlit' (K := (Kl (Ki .i64))) (xs := [y2]) (qs := [(0, [(Sl (Ki .i64) y2)])]) ⟨rfl, ⟨_, rfl, (lv_sl _ _)⟩, trivial⟩ Try.underlying24 info23 rfl rfl rfl rfl rfl (by kernel_rfl) rfl rfl rfl) (wt_none' rfl) fun g15 => ?_
   obtain ⟨r16, hr16, hp⟩ := bind_some hp
   refine sx_ox' (ox_append' (K := (Kl (Ki .i64))) (i := 1) (xs := x1) (ys := ([y2])) rfl rfl rfl (sr_row' (j := 0) rfl rfl rfl Try.underlying24) hr16 Try.underlying24 info23 rfl rfl rfl (H' := [(Rw (Kl (Ki .i64)) 23 (Vs g15) ([y2]))]) rfl) (wt_none' rfl) fun g16 => ?_
   refine s0 (rd_assign' rfl) ?_
   refine nk hK11 ?_
   refine cx_region' ?_
   refine s0 (rd_bin' rfl rfl eg_int ru_add) ?_
   refine s0 (rd_move' rfl) ?_
   refine sx_nil' ?_
   show TX E (KY1 _) _
   exact tx_pick' [0] (sub_cons rfl (sub_cons rfl (sub_cons rfl (sub_cons rfl sub_nil)))) (by decide) (pick_cons rfl pick_nil) (ih1 (r16, (iadd .i64 x2 1)) g16 _ hp)
  replace hp := (br_f h3).symm.trans hp
  refine cx_exit' ?_
  replace hp := Option.some.inj hp
  subst hp
  show TX E (Zg E (Exit.exit 0) _ (Exit.exit 0)) _
  exact tx_zend' g901 rfl [0] (sub_cons rfl sub_nil) (by decide) (pick_cons rfl pick_nil)
 refine zg_out fun w2 => ?_
 show TX E K3 _
 refine tx_k' hK3 ?_
 refine cr fun K13 hK13 => ?_
 refine s0 (rd_move' rfl) ?_
 refine s0 (rd_assign' rfl) ?_
 refine nk hK13 ?_
 refine cx_retc' ?_
 replace hp := Option.some.inj hp
 subst hp
 refine tx_fz' (frz_row 0 [(3, (Vl (Vs w2)), (Sl (Kl (Ki .i64)) v2)), (18, (Vl (Vs w2)), (Sl (Kl (Ki .i64)) v2)), (2, (Vl (Vs w2)), (Sl (Kl (Ki .i64)) v2))] (K := (Kl (Ki .i64))) (xs := v2) (by decide) rfl ⟨⟨rfl, frz_it⟩, ⟨rfl, frz_it⟩, ⟨rfl, frz_it⟩, trivial⟩ (H' := []) frzH_refl) ?_
 refine tx_pick' (L' := [(2, (Sl (Kl (Ki .i64)) v2))]) (H' := []) [] (sub_cons rfl sub_nil) (by decide) pick_nil ?_
 exact tx_ret1' Try.results29 rfl () (rv_tmp' rfl) (List.Sublist.refl _)

def gogeom_NewMultiPolygonFlat (k : Nat) (a0 : Int) (a1 : List Nat) (a2 : List (List Int)) : Option (Int × Int × (List Nat) × Int × (List (List Int))) :=
 (gogeom_Layout_Stride k a0) >>= fun r18 =>
 some (a0, r18, a1, 0, a2)

theorem gogeom_NewMultiPolygonFlat_sim {k : Nat}  (a0 : Int) (a1 : List Nat) (a2 : List (List Int)) {out : Int × Int × (List Nat) × Int × (List (List Int))} (hp : gogeom_NewMultiPolygonFlat k a0 a1 a2 = some out) : Sx.Fn Try.prog 73 [(Vi a0), (Sl Kf a1), (Sl (Kl (Ki .i64)) a2)] [] (fun w : Addr => (Vp w)) (fun w => [⟨.pointer (some w), [(Vi out.1), (Vi out.2.1), (Sl Kf out.2.2.1), (Vi out.2.2.2.1), (Sl (Kl (Ki .i64)) out.2.2.2.2)], 143, none⟩]) := by
 unfold gogeom_NewMultiPolygonFlat at hp
 refine fn_of Try.func73 rfl Try.ntmps73 rfl fun E hM => ?_
 refine cr fun K1 hK1 => ?_
 refine s0 (rd_assign' rfl) ?_
 refine nk hK1 ?_
 refine cr fun K2 hK2 => ?_
 refine sx_ox' (ox_alloc' info143 rfl rfl rfl rfl (l := [(Vi 0), (Vi 0), Vn, (Vi 0), Vn]) rfl) (wt_none' rfl) fun q8 => ?_
 refine s0 (rd_assign' rfl) ?_
 refine nk hK2 ?_
 refine cr fun K3 hK3 => ?_
 refine s0 (rd_move' rfl) ?_
 refine s0 (rd_move' rfl) ?_
 refine s0 (rd_nilck' rfl) ?_
 refine s0 (rd_field0' rfl Try.underlying143 rfl info141 rfl) ?_
 refine s0 (rd_field0' rfl Try.underlying141 rfl info126 rfl) ?_
 refine s0 (rd_field0' rfl Try.underlying126 rfl info124 rfl) ?_
 refine s0 (rd_field0' rfl Try.underlying124 rfl info61 rfl) ?_
 refine sx_ox' (ox_store' (i := 0) (o := 0) rfl rfl (lv_vl rfl rfl) ⟨rfl, rfl, rfl, rfl⟩ rfl info61 rfl (H' := [⟨.pointer (some q8), [(Vi a0), (Vi 0), Vn, (Vi 0), Vn], 143, none⟩]) rfl) (wt_none' rfl) fun _ => ?_
 refine nk hK3 ?_
 refine cr fun K4 hK4 => ?_
 refine s0 (rd_move' rfl) ?_
 refine s0 (rd_move' rfl) ?_
 obtain ⟨r18, hr18, hp⟩ := bind_some hp
 refine sx_ox' (ox_calln' (ent_fn' Try.func89 isn89 rfl rfl) (gogeom_Layout_Stride_sim _ hr18 : Sx.Fn Try.prog 89 [(Vi a0)] [] (fun x : Unit => (Vi r18)) (fun x => [])) (Hn := fun x : Unit => [⟨.pointer (some q8), [(Vi a0), (Vi 0), Vn, (Vi 0), Vn], 143, none⟩]) (fun _ => rfl) rfl rfl) (wt_none' rfl) fun ⟨⟩ => ?_
 refine s0 (rd_nilck' rfl) ?_
 refine s0 (rd_field0' rfl Try.underlying143 rfl info141 rfl) ?_
 refine s0 (rd_field0' rfl Try.underlying141 rfl info126 rfl) ?_
 refine s0 (rd_field0' rfl Try.underlying126 rfl info124 rfl) ?_
 refine s0 (rd_field' (off := 1) rfl Try.underlying124 rfl info3 rfl) ?_
 refine sx_ox' (ox_store' (i := 0) (o := 1) rfl rfl (lv_vl rfl rfl) ⟨rfl, rfl, rfl, rfl⟩ rfl info3 rfl (H' := [⟨.pointer (some q8), [(Vi a0), (Vi r18), Vn, (Vi 0), Vn], 143, none⟩]) rfl) (wt_none' rfl) fun _ => ?_
 refine nk hK4 ?_
 refine cr fun K5 hK5 => ?_
 refine s0 (rd_move' rfl) ?_
 refine s0 (rd_move' rfl) ?_
 refine s0 (rd_nilck' rfl) ?_
 refine s0 (rd_field0' rfl Try.underlying143 rfl info141 rfl) ?_
 refine s0 (rd_field0' rfl Try.underlying141 rfl info126 rfl) ?_
 refine s0 (rd_field0' rfl Try.underlying126 rfl info124 rfl) ?_
 refine s0 (rd_field' (off := 2) rfl Try.underlying124 rfl info22 rfl) ?_
 refine sx_ox' (ox_store' (i := 0) (o := 2) rfl rfl (lv_sl _ _) ⟨rfl, rfl, rfl, rfl⟩ rfl info22 rfl (H' := [⟨.pointer (some q8), [(Vi a0), (Vi r18), (Sl Kf a1), (Vi 0), Vn], 143, none⟩]) rfl) (wt_none' rfl) fun _ => ?_
 refine nk hK5 ?_
 refine cr fun K6 hK6 => ?_
 refine s0 (rd_move' rfl) ?_
 refine s0 (rd_move' rfl) ?_
 refine s0 (rd_nilck' rfl) ?_
 refine s0 (rd_field0' rfl Try.underlying143 rfl info141 rfl) ?_
 refine s0 (rd_field' (off := 4) rfl Try.underlying141 rfl info24 rfl) ?_
 refine sx_ox' (ox_store' (i := 0) (o := 4) rfl rfl (lv_sl _ _) ⟨rfl, rfl, rfl, rfl⟩ rfl info24 rfl (H' := [⟨.pointer (some q8), [(Vi a0), (Vi r18), (Sl Kf a1), (Vi 0), (Sl (Kl (Ki .i64)) a2)], 143, none⟩]) rfl) (wt_none' rfl) fun _ => ?_
 refine nk hK6 ?_
 refine cr fun K7 hK7 => ?_
 refine s0 (rd_move' rfl) ?_
 refine s0 (rd_assign' rfl) ?_
 refine nk hK7 ?_
 refine cx_retc' ?_
 replace hp := Option.some.inj hp
 subst hp
 refine tx_pick' (L' := [(6, (Vp q8))]) (H' := [⟨.pointer (some q8), [(Vi a0), (Vi r18), (Sl Kf a1), (Vi 0), (Sl (Kl (Ki .i64)) a2)], 143, none⟩]) [0] (sub_cons rfl sub_nil) (by decide) (pick_cons rfl pick_nil) ?_
 exact tx_ret1' Try.results73 rfl q8 (rv_tmp' rfl) (List.Sublist.refl _)

def gogeom_MultiPolygon_SetSRID (k : Nat) (a0_0 : Int) (a0_1 : Int) (a0_2 : List Nat) (a0_3 : Int) (a0_4 : List (List Int)) (a1 : Int) : Option (Int × Int × (List Nat) × Int × (List (List Int))) :=
 some (a0_0, a0_1, a0_2, a1, a0_4)

theorem gogeom_MultiPolygon_SetSRID_sim {k : Nat} {wa0 : Addr} (a0_0 : Int) (a0_1 : Int) (a0_2 : List Nat) (a0_3 : Int) (a0_4 : List (List Int)) (a1 : Int) {out : Int × Int × (List Nat) × Int × (List (List Int))} (hp : gogeom_MultiPolygon_SetSRID k a0_0 a0_1 a0_2 a0_3 a0_4 a1 = some out) : Sx.Fn Try.prog 74 [(Vp wa0), (Vi a1)] [⟨.pointer (some wa0), [(Vi a0_0), (Vi a0_1), (Sl Kf a0_2), (Vi a0_3), (Sl (Kl (Ki .i64)) a0_4)], 143, none⟩] (fun w : Unit => (Vp wa0)) (fun w => [⟨.pointer (some wa0), [(Vi out.1), (Vi out.2.1), (Sl Kf out.2.2.1), (Vi out.2.2.2.1), (Sl (Kl (Ki .i64)) out.2.2.2.2)], 143, none⟩]) := by
 unfold gogeom_MultiPolygon_SetSRID at hp
 refine fn_of Try.func74 rfl Try.ntmps74 rfl fun E hM => ?_
 refine cr fun K1 hK1 => ?_
 refine s0 (rd_assign' rfl) ?_
 refine nk hK1 ?_
 refine cr fun K2 hK2 => ?_
 refine s0 (rd_move' rfl) ?_
 refine s0 (rd_move' rfl) ?_
 refine s0 (rd_nilck' rfl) ?_
 refine s0 (rd_field0' rfl Try.underlying143 rfl info141 rfl) ?_
 refine s0 (rd_field0' rfl Try.underlying141 rfl info126 rfl) ?_
 refine s0 (rd_field0' rfl Try.underlying126 rfl info124 rfl) ?_
 refine s0 (rd_field' (off := 3) rfl Try.underlying124 rfl info3 rfl) ?_
 refine sx_ox' (ox_store' (i := 0) (o := 3) rfl rfl (lv_vl rfl rfl) ⟨rfl, rfl, rfl, rfl⟩ rfl info3 rfl (H' := [⟨.pointer (some wa0), [(Vi a0_0), (Vi a0_1), (Sl Kf a0_2), (Vi a1), (Sl (Kl (Ki .i64)) a0_4)], 143, none⟩]) rfl) (wt_none' rfl) fun _ => ?_
 refine nk hK2 ?_
 refine cr fun K3 hK3 => ?_
 refine s0 (rd_move' rfl) ?_
 refine s0 (rd_assign' rfl) ?_
 refine nk hK3 ?_
 refine cx_retc' ?_
 replace hp := Option.some.inj hp
 subst hp
 refine tx_pick' (L' := [(4, (Vp wa0))]) (H' := [⟨.pointer (some wa0), [(Vi a0_0), (Vi a0_1), (Sl Kf a0_2), (Vi a1), (Sl (Kl (Ki .i64)) a0_4)], 143, none⟩]) [0] (sub_cons rfl sub_nil) (by decide) (pick_cons rfl pick_nil) ?_
 exact tx_ret1' Try.results74 rfl () (rv_tmp' rfl) (List.Sublist.refl _)

def gogeom_NewGeometryCollection (k : Nat)  : Option (Int) :=
 some 0

theorem gogeom_NewGeometryCollection_sim {k : Nat}   {out : Int} (hp : gogeom_NewGeometryCollection k = some out) : Sx.Fn Try.prog 75 [] [] (fun w : Addr => (Vp w)) (fun w => [⟨.pointer (some w), [(Vi out), Vn, (Vi out)], 114, none⟩]) := by
 unfold gogeom_NewGeometryCollection at hp
 refine fn_of Try.func75 rfl Try.ntmps75 rfl fun E hM => ?_
 refine cr fun K1 hK1 => ?_
 refine s0 (rd_assign' rfl) ?_
 refine nk hK1 ?_
 refine cr fun K2 hK2 => ?_
 refine s0 (rd_build' (pls := [(0, 1), (1, 1), (2, 1)]) (qs := []) (r := [(Vi 0), Vn, (Vi 0)]) trivial Try.underlying114 has114 places114 info114 rfl rfl rfl) ?_
 refine sx_ox' (ox_box' rfl (lv_ag _) rfl rfl) (wt_none' rfl) fun q2 => ?_
 refine s0 (rd_assign' rfl) ?_
 refine nk hK2 ?_
 refine cx_retc' ?_
 replace hp := Option.some.inj hp
 subst hp
 refine tx_pick' (L' := [(0, (Vp q2))]) (H' := [⟨.pointer (some q2), [(Vi 0), Vn, (Vi 0)], 114, none⟩]) [0] (sub_cons rfl sub_nil) (by decide) (pick_cons rfl pick_nil) ?_
 exact tx_ret1' Try.results75 rfl q2 (rv_tmp' rfl) (List.Sublist.refl _)

def gogeom_GeometryCollection_SetSRID (k : Nat) (a0_0 : Int) (a0_2 : Int) (a1 : Int) : Option (Int × Int) :=
 some (a0_0, a1)

theorem gogeom_GeometryCollection_SetSRID_sim {k : Nat} {wa0 : Addr} (a0_0 : Int) (a0_2 : Int) (a1 : Int) {out : Int × Int} (hp : gogeom_GeometryCollection_SetSRID k a0_0 a0_2 a1 = some out) : Sx.Fn Try.prog 76 [(Vp wa0), (Vi a1)] [⟨.pointer (some wa0), [(Vi a0_0), Vn, (Vi a0_2)], 114, none⟩] (fun w : Unit => (Vp wa0)) (fun w => [⟨.pointer (some wa0), [(Vi out.1), Vn, (Vi out.2)], 114, none⟩]) := by
 unfold gogeom_GeometryCollection_SetSRID at hp
 refine fn_of Try.func76 rfl Try.ntmps76 rfl fun E hM => ?_
 refine cr fun K1 hK1 => ?_
 refine s0 (rd_assign' rfl) ?_
 refine nk hK1 ?_
 refine cr fun K2 hK2 => ?_
 refine s0 (rd_move' rfl) ?_
 refine s0 (rd_move' rfl) ?_
 refine s0 (rd_nilck' rfl) ?_
 refine s0 (rd_field' (off := 2) rfl Try.underlying114 rfl info3 rfl) ?_
 refine sx_ox' (ox_store' (i := 0) (o := 2) rfl rfl (lv_vl rfl rfl) ⟨rfl, rfl, rfl, rfl⟩ rfl info3 rfl (H' := [⟨.pointer (some wa0), [(Vi a0_0), Vn, (Vi a1)], 114, none⟩]) rfl) (wt_none' rfl) fun _ => ?_
 refine nk hK2 ?_
 refine cr fun K3 hK3 => ?_
 refine s0 (rd_move' rfl) ?_
 refine s0 (rd_assign' rfl) ?_
 refine nk hK3 ?_
 refine cx_retc' ?_
 replace hp := Option.some.inj hp
 subst hp
 refine tx_pick' (L' := [(4, (Vp wa0))]) (H' := [⟨.pointer (some wa0), [(Vi a0_0), Vn, (Vi a1)], 114, none⟩]) [0] (sub_cons rfl sub_nil) (by decide) (pick_cons rfl pick_nil) ?_
 exact tx_ret1' Try.results76 rfl () (rv_tmp' rfl) (List.Sublist.refl _)

def gogeom_GeometryCollection_CheckLayout_j1 (k : Nat) (a0_0 : Int) (a0_2 : Int) : Option (Int × Int) :=
 some (a0_0, a0_2)
def gogeom_GeometryCollection_CheckLayout (k : Nat) (a0_0 : Int) (a0_2 : Int) (a1 : Int) : Option (Int × Int) :=
 br (!decide (a1 = 0))
  (gogeom_GeometryCollection_CheckLayout_j1 k a0_0 a0_2)
  (gogeom_GeometryCollection_CheckLayout_j1 k a0_0 a0_2)

theorem gogeom_GeometryCollection_CheckLayout_sim {k : Nat} {wa0 : Addr} (a0_0 : Int) (a0_2 : Int) (a1 : Int) {out : Int × Int} (hp : gogeom_GeometryCollection_CheckLayout k a0_0 a0_2 a1 = some out) : Sx.Fn Try.prog 79 [(Vp wa0), (Vi a1)] [⟨.pointer (some wa0), [(Vi a0_0), Vn, (Vi a0_2)], 114, none⟩] (fun w : Unit => Ve) (fun w => [⟨.pointer (some wa0), [(Vi out.1), Vn, (Vi out.2)], 114, none⟩]) := by
 unfold gogeom_GeometryCollection_CheckLayout at hp
 refine fn_of Try.func79 rfl Try.ntmps79 rfl fun E hM => ?_
 refine cr fun K1 hK1 => ?_
 refine s0 (rd_assign' rfl) ?_
 refine nk hK1 ?_
 refine cx_join' (fun (v1 : Unit) => (⟨29, [], [], [⟨.pointer (some wa0), [(Vi a0_0), Vn, (Vi a0_2)], 114, none⟩]⟩ : St)) (fun (v1 : Unit) => gogeom_GeometryCollection_CheckLayout_j1 k a0_0 a0_2 = some out) ?_ ?_
 ·rintro ⟨⟩ hp
  replace hp : gogeom_GeometryCollection_CheckLayout_j1 k a0_0 a0_2 = some out := hp
  unfold gogeom_GeometryCollection_CheckLayout_j1 at hp
  refine cr fun K7 hK7 => ?_
  refine s0 (rd_assign' rfl) ?_
  refine nk hK7 ?_
  refine cx_retc' ?_
  replace hp := Option.some.inj hp
  subst hp
  refine tx_pick' (L' := [(4, Ve)]) (H' := [⟨.pointer (some wa0), [(Vi a0_0), Vn, (Vi a0_2)], 114, none⟩]) [0] (sub_cons rfl sub_nil) (by decide) (pick_cons rfl pick_nil) ?_
  exact tx_ret1' Try.results79 rfl () (rv_tmp' rfl) (List.Sublist.refl _)
 intro K2 hK2
 refine cr fun K3 hK3 => ?_
 refine s0 (rd_move' rfl) ?_
 refine s0 (rd_bin' rfl rfl eg_int ru_neq) ?_
 refine nk hK3 ?_
 refine cx_cond' rfl (fun h1 => ?_) (fun h1 => ?_)
 ·replace hp := (br_t h1).symm.trans hp
  refine cr fun K4 hK4 => ?_
  refine s0 (rd_move' rfl) ?_
  refine s0 (rd_nilck' rfl) ?_
  refine s0 (rd_field' (off := 1) rfl Try.underlying114 rfl info112 rfl) ?_
  refine s0 (rd_load' (i := 0) (o := 1) rfl ⟨rfl, rfl, rfl, rfl⟩ rfl flat112) ?_
  refine s0 (rd_lenv' rfl Try.underlying112) ?_
  refine s0 (rd_move' rfl) ?_
  refine nk hK4 ?_
  refine cx_block' ?_
  refine tx_loop' ?_
  refine tx_round' ?_
  refine cr fun K5 hK5 => ?_
  refine s0 (rd_bin' rfl rfl eg_int ru_lss) ?_
  refine nk hK5 ?_
  refine cx_seq' fun K6 hK6 => ?_
  refine cx_cond_f' rfl rfl ?_
  refine cx_exit' ?_
  show TX E K2 _
  exact tx_pick' [0] sub_nil (by decide) (pick_cons rfl pick_nil) (hK2 () hp)
 replace hp := (br_f h1).symm.trans hp
 refine cx_skip' ?_
 show TX E K2 _
 exact tx_pick' [0] sub_nil (by decide) (pick_cons rfl pick_nil) (hK2 () hp)

def gogeom_GeometryCollection_SetLayout (k : Nat) (a0_0 : Int) (a0_2 : Int) (a1 : Int) : Option (Int × Int) :=
 (gogeom_GeometryCollection_CheckLayout k a0_0 a0_2 a1) >>= fun r8 =>
 some (a1, r8.2)

theorem gogeom_GeometryCollection_SetLayout_sim {k : Nat} {wa0 : Addr} (a0_0 : Int) (a0_2 : Int) (a1 : Int) {out : Int × Int} (hp : gogeom_GeometryCollection_SetLayout k a0_0 a0_2 a1 = some out) : Sx.Fn Try.prog 33 [(Vp wa0), (Vi a1)] [⟨.pointer (some wa0), [(Vi a0_0), Vn, (Vi a0_2)], 114, none⟩] (fun w : Unit => Ve) (fun w => [⟨.pointer (some wa0), [(Vi out.1), Vn, (Vi out.2)], 114, none⟩]) := by
 unfold gogeom_GeometryCollection_SetLayout at hp
 refine fn_of Try.func33 rfl Try.ntmps33 rfl fun E hM => ?_
 refine cr fun K1 hK1 => ?_
 refine s0 (rd_assign' rfl) ?_
 refine nk hK1 ?_
 refine cx_seq' fun K2 hK2 => ?_
 refine cr fun K3 hK3 => ?_
 refine s0 (rd_move' rfl) ?_
 refine s0 (rd_move' rfl) ?_
 obtain ⟨r8, hr8, hp⟩ := bind_some hp
 refine sx_ox' (ox_callg' (ent_fn' Try.func79 isn79 rfl rfl) (gogeom_GeometryCollection_CheckLayout_sim _ _ _ hr8 : Sx.Fn Try.prog 79 [(Vp wa0), (Vi a1)] [⟨.pointer (some wa0), [(Vi a0_0), Vn, (Vi a0_2)], 114, none⟩] (fun x : Unit => Ve) (fun x => [⟨.pointer (some wa0), [(Vi r8.1), Vn, (Vi r8.2)], 114, none⟩])) [0] [] (by decide) (pick_cons rfl pick_nil) pick_nil (Hn := fun x : Unit => [⟨.pointer (some wa0), [(Vi r8.1), Vn, (Vi r8.2)], 114, none⟩]) (fun _ => rfl) rfl rfl) (wt_none' rfl) fun ⟨⟩ => ?_
 refine s0 (rd_assign' rfl) ?_
 refine nk hK3 ?_
 refine cr fun K4 hK4 => ?_
 refine s0 (rd_move' rfl) ?_
 refine s0 (rd_binf' rfl rfl (bf_vl (fun _ => by kernel_rfl) nil_neq59_nilif)) ?_
 refine nk hK4 ?_
 refine cx_cond_f' rfl rfl ?_
 refine cx_skip' ?_
 show TX E K2 _
 refine tx_k' hK2 ?_
 refine cr fun K5 hK5 => ?_
 refine s0 (rd_move' rfl) ?_
 refine s0 (rd_move' rfl) ?_
 refine s0 (rd_nilck' rfl) ?_
 refine s0 (rd_field0' rfl Try.underlying114 rfl info61 rfl) ?_
 refine sx_ox' (ox_store' (i := 0) (o := 0) rfl rfl (lv_vl rfl rfl) ⟨rfl, rfl, rfl, rfl⟩ rfl info61 rfl (H' := [⟨.pointer (some wa0), [(Vi a1), Vn, (Vi r8.2)], 114, none⟩]) rfl) (wt_none' rfl) fun _ => ?_
 refine nk hK5 ?_
 refine cr fun K6 hK6 => ?_
 refine s0 (rd_assign' rfl) ?_
 refine nk hK6 ?_
 refine cx_retc' ?_
 replace hp := Option.some.inj hp
 subst hp
 refine tx_pick' (L' := [(4, Ve)]) (H' := [⟨.pointer (some wa0), [(Vi a1), Vn, (Vi r8.2)], 114, none⟩]) [0] (sub_cons rfl sub_nil) (by decide) (pick_cons rfl pick_nil) ?_
 exact tx_ret1' Try.results33 rfl () (rv_tmp' rfl) (List.Sublist.refl _)

def gogeom_GeometryCollection_MustSetLayout (k : Nat) (a0_0 : Int) (a0_2 : Int) (a1 : Int) : Option (Int × Int) :=
 (gogeom_GeometryCollection_SetLayout k a0_0 a0_2 a1) >>= fun r8 =>
 some (r8.1, r8.2)

theorem gogeom_GeometryCollection_MustSetLayout_sim {k : Nat} {wa0 : Addr} (a0_0 : Int) (a0_2 : Int) (a1 : Int) {out : Int × Int} (hp : gogeom_GeometryCollection_MustSetLayout k a0_0 a0_2 a1 = some out) : Sx.Fn Try.prog 78 [(Vp wa0), (Vi a1)] [⟨.pointer (some wa0), [(Vi a0_0), Vn, (Vi a0_2)], 114, none⟩] (fun w : Unit => (Vp wa0)) (fun w => [⟨.pointer (some wa0), [(Vi out.1), Vn, (Vi out.2)], 114, none⟩]) := by
 unfold gogeom_GeometryCollection_MustSetLayout at hp
 refine fn_of Try.func78 rfl Try.ntmps78 rfl fun E hM => ?_
 refine cr fun K1 hK1 => ?_
 refine s0 (rd_assign' rfl) ?_
 refine nk hK1 ?_
 refine cx_seq' fun K2 hK2 => ?_
 refine cr fun K3 hK3 => ?_
 refine s0 (rd_move' rfl) ?_
 refine s0 (rd_move' rfl) ?_
 obtain ⟨r8, hr8, hp⟩ := bind_some hp
 refine sx_ox' (ox_callg' (ent_fn' Try.func33 isn33 rfl rfl) (gogeom_GeometryCollection_SetLayout_sim _ _ _ hr8 : Sx.Fn Try.prog 33 [(Vp wa0), (Vi a1)] [⟨.pointer (some wa0), [(Vi a0_0), Vn, (Vi a0_2)], 114, none⟩] (fun x : Unit => Ve) (fun x => [⟨.pointer (some wa0), [(Vi r8.1), Vn, (Vi r8.2)], 114, none⟩])) [0] [] (by decide) (pick_cons rfl pick_nil) pick_nil (Hn := fun x : Unit => [⟨.pointer (some wa0), [(Vi r8.1), Vn, (Vi r8.2)], 114, none⟩]) (fun _ => rfl) rfl rfl) (wt_none' rfl) fun ⟨⟩ => ?_
 refine s0 (rd_assign' rfl) ?_
 refine nk hK3 ?_
 refine cr fun K4 hK4 => ?_
 refine s0 (rd_move' rfl) ?_
 refine s0 (rd_binf' rfl rfl (bf_vl (fun _ => by kernel_rfl) nil_neq59_nilif)) ?_
 refine nk hK4 ?_
 refine cx_cond_f' rfl rfl ?_
 refine cx_skip' ?_
 show TX E K2 _
 refine tx_k' hK2 ?_
 refine cr fun K5 hK5 => ?_
 refine s0 (rd_move' rfl) ?_
 refine s0 (rd_assign' rfl) ?_
 refine nk hK5 ?_
 refine cx_retc' ?_
 replace hp := Option.some.inj hp
 subst hp
 refine tx_pick' (L' := [(4, (Vp wa0))]) (H' := [⟨.pointer (some wa0), [(Vi r8.1), Vn, (Vi r8.2)], 114, none⟩]) [0] (sub_cons rfl sub_nil) (by decide) (pick_cons rfl pick_nil) ?_
 exact tx_ret1' Try.results78 rfl () (rv_tmp' rfl) (List.Sublist.refl _)

def gogeom_geom0_Layout (k : Nat) (a0_0 : Int) (a0_1 : Int) (a0_2 : List Nat) (a0_3 : Int) : Option (Int) :=
 some a0_0

theorem gogeom_geom0_Layout_sim {k : Nat}  (a0_0 : Int) (a0_1 : Int) (a0_2 : List Nat) (a0_3 : Int) {out : Int} (hp : gogeom_geom0_Layout k a0_0 a0_1 a0_2 a0_3 = some out) : Sx.Fn Try.prog 134 [(Pt [(Vi a0_0), (Vi a0_1), (Sl Kf a0_2), (Vi a0_3)])] [] (fun w : Unit => (Vi out)) (fun w => []) := by
 unfold gogeom_geom0_Layout at hp
 refine fn_of Try.func134 rfl Try.ntmps134 rfl fun E hM => ?_
 refine cr fun K1 hK1 => ?_
 refine s0 (rd_assign' rfl) ?_
 refine nk hK1 ?_
 refine cr fun K2 hK2 => ?_
 refine s0 (rd_move' rfl) ?_
 refine s0 (rd_nilck_pt' rfl) ?_
 refine s0 (rd_field_pt' (off := 0) rfl Try.underlying124 rfl info61 rfl (l' := [(Vi a0_0), (Vi a0_1), (Sl Kf a0_2), (Vi a0_3)]) rfl) ?_
 refine s0 (rd_load_pt' rfl rfl flat61) ?_
 refine s0 (rd_assign' rfl) ?_
 refine nk hK2 ?_
 refine cx_retc' ?_
 replace hp := Option.some.inj hp
 subst hp
 refine tx_pick' (L' := [(2, (Vi a0_0))]) (H' := []) [] (sub_cons rfl sub_nil) (by decide) pick_nil ?_
 exact tx_ret1' Try.results134 rfl () (rv_tmp' rfl) (List.Sublist.refl _)

def gogeom_geom0_Layout_v2 (k : Nat) (a0_0 : Int) (a0_1 : Int) (a0_2 : List Nat) (a0_3 : Int) (a0_4 : List Int) : Option (Int) :=
 some a0_0

theorem gogeom_geom0_Layout_v2_sim {k : Nat}  (a0_0 : Int) (a0_1 : Int) (a0_2 : List Nat) (a0_3 : Int) (a0_4 : List Int) {out : Int} (hp : gogeom_geom0_Layout_v2 k a0_0 a0_1 a0_2 a0_3 a0_4 = some out) : Sx.Fn Try.prog 134 [(Pt [(Vi a0_0), (Vi a0_1), (Sl Kf a0_2), (Vi a0_3), (Sl (Ki .i64) a0_4)])] [] (fun w : Unit => (Vi out)) (fun w => []) := by
 unfold gogeom_geom0_Layout_v2 at hp
 refine fn_of Try.func134 rfl Try.ntmps134 rfl fun E hM => ?_
 refine cr fun K1 hK1 => ?_
 refine s0 (rd_assign' rfl) ?_
 refine nk hK1 ?_
 refine cr fun K2 hK2 => ?_
 refine s0 (rd_move' rfl) ?_
 refine s0 (rd_nilck_pt' rfl) ?_
 refine s0 (rd_field_pt' (off := 0) rfl Try.underlying124 rfl info61 rfl (l' := [(Vi a0_0), (Vi a0_1), (Sl Kf a0_2), (Vi a0_3), (Sl (Ki .i64) a0_4)]) rfl) ?_
 refine s0 (rd_load_pt' rfl rfl flat61) ?_
 refine s0 (rd_assign' rfl) ?_
 refine nk hK2 ?_
 refine cx_retc' ?_
 replace hp := Option.some.inj hp
 subst hp
 refine tx_pick' (L' := [(2, (Vi a0_0))]) (H' := []) [] (sub_cons rfl sub_nil) (by decide) pick_nil ?_
 exact tx_ret1' Try.results134 rfl () (rv_tmp' rfl) (List.Sublist.refl _)

def gogeom_geom0_Layout_v3 (k : Nat) (a0_0 : Int) (a0_1 : Int) (a0_2 : List Nat) (a0_3 : Int) (a0_4 : List (List Int)) : Option (Int) :=
 some a0_0

theorem gogeom_geom0_Layout_v3_sim {k : Nat}  (a0_0 : Int) (a0_1 : Int) (a0_2 : List Nat) (a0_3 : Int) (a0_4 : List (List Int)) {out : Int} (hp : gogeom_geom0_Layout_v3 k a0_0 a0_1 a0_2 a0_3 a0_4 = some out) : Sx.Fn Try.prog 134 [(Pt [(Vi a0_0), (Vi a0_1), (Sl Kf a0_2), (Vi a0_3), (Sl (Kl (Ki .i64)) a0_4)])] [] (fun w : Unit => (Vi out)) (fun w => []) := by
 unfold gogeom_geom0_Layout_v3 at hp
 refine fn_of Try.func134 rfl Try.ntmps134 rfl fun E hM => ?_
 refine cr fun K1 hK1 => ?_
 refine s0 (rd_assign' rfl) ?_
 refine nk hK1 ?_
 refine cr fun K2 hK2 => ?_
 refine s0 (rd_move' rfl) ?_
 refine s0 (rd_nilck_pt' rfl) ?_
 refine s0 (rd_field_pt' (off := 0) rfl Try.underlying124 rfl info61 rfl (l' := [(Vi a0_0), (Vi a0_1), (Sl Kf a0_2), (Vi a0_3), (Sl (Kl (Ki .i64)) a0_4)]) rfl) ?_
 refine s0 (rd_load_pt' rfl rfl flat61) ?_
 refine s0 (rd_assign' rfl) ?_
 refine nk hK2 ?_
 refine cx_retc' ?_
 replace hp := Option.some.inj hp
 subst hp
 refine tx_pick' (L' := [(2, (Vi a0_0))]) (H' := []) [] (sub_cons rfl sub_nil) (by decide) pick_nil ?_
 exact tx_ret1' Try.results134 rfl () (rv_tmp' rfl) (List.Sublist.refl _)

def gogeom_GeometryCollection_Layout_j2 (k : Nat) (rec1 : (Int × Int) → Option (Int)) (x4 : Int) (x2 : Int) : Option (Int) :=
 rec1 (x2, (iadd .i64 x4 1))
def gogeom_GeometryCollection_Layout_l1s (a0_1 : List G53) (recf : Int → (List G53) → Int → Option (Int)) (k : Nat) (rec1 : (Int × Int) → Option (Int)) (x3 : Int) (x4 : Int) : Option (Int) :=
 br (decide (x4 < (a0_1.length : Int)))
  ((idx a0_1 x4) >>= fun r23 =>
  match r23 with
   | .c0 r23_0a r23_0b r23_0c r23_0d =>
    ((gogeom_geom0_Layout k r23_0a r23_0b r23_0c r23_0d) >>= fun r26 =>
    br (decide (r26 = 2))
     (br (decide (x3 = 3))
      (gogeom_GeometryCollection_Layout_j2 k rec1 x4 4)
      (br (decide (x3 < r26))
       (gogeom_GeometryCollection_Layout_j2 k rec1 x4 r26)
       (gogeom_GeometryCollection_Layout_j2 k rec1 x4 x3)))
     (br (decide (r26 = 3))
      (br (decide (x3 = 2))
       (gogeom_GeometryCollection_Layout_j2 k rec1 x4 4)
       (br (decide (x3 < r26))
        (gogeom_GeometryCollection_Layout_j2 k rec1 x4 r26)
        (gogeom_GeometryCollection_Layout_j2 k rec1 x4 x3)))
      (br (decide (x3 < r26))
       (gogeom_GeometryCollection_Layout_j2 k rec1 x4 r26)
       (gogeom_GeometryCollection_Layout_j2 k rec1 x4 x3))))
   | .c1 r23_1a r23_1b r23_1c r23_1d =>
    ((gogeom_geom0_Layout k r23_1a r23_1b r23_1c r23_1d) >>= fun r26 =>
    br (decide (r26 = 2))
     (br (decide (x3 = 3))
      (gogeom_GeometryCollection_Layout_j2 k rec1 x4 4)
      (br (decide (x3 < r26))
       (gogeom_GeometryCollection_Layout_j2 k rec1 x4 r26)
       (gogeom_GeometryCollection_Layout_j2 k rec1 x4 x3)))
     (br (decide (r26 = 3))
      (br (decide (x3 = 2))
       (gogeom_GeometryCollection_Layout_j2 k rec1 x4 4)
       (br (decide (x3 < r26))
        (gogeom_GeometryCollection_Layout_j2 k rec1 x4 r26)
        (gogeom_GeometryCollection_Layout_j2 k rec1 x4 x3)))
      (br (decide (x3 < r26))
       (gogeom_GeometryCollection_Layout_j2 k rec1 x4 r26)
       (gogeom_GeometryCollection_Layout_j2 k rec1 x4 x3))))
   | .c2 r23_2a r23_2b r23_2c r23_2d =>
    ((gogeom_geom0_Layout k r23_2a r23_2b r23_2c r23_2d) >>= fun r26 =>
    br (decide (r26 = 2))
     (br (decide (x3 = 3))
      (gogeom_GeometryCollection_Layout_j2 k rec1 x4 4)
      (br (decide (x3 < r26))
       (gogeom_GeometryCollection_Layout_j2 k rec1 x4 r26)
       (gogeom_GeometryCollection_Layout_j2 k rec1 x4 x3)))
     (br (decide (r26 = 3))
      (br (decide (x3 = 2))
       (gogeom_GeometryCollection_Layout_j2 k rec1 x4 4)
       (br (decide (x3 < r26))
        (gogeom_GeometryCollection_Layout_j2 k rec1 x4 r26)
        (gogeom_GeometryCollection_Layout_j2 k rec1 x4 x3)))
      (br (decide (x3 < r26))
       (gogeom_GeometryCollection_Layout_j2 k rec1 x4 r26)
       (gogeom_GeometryCollection_Layout_j2 k rec1 x4 x3))))
   | .c3 r23_3a r23_3b r23_3c r23_3d r23_3e =>
    ((gogeom_geom0_Layout_v2 k r23_3a r23_3b r23_3c r23_3d r23_3e) >>= fun r26 =>
    br (decide (r26 = 2))
     (br (decide (x3 = 3))
      (gogeom_GeometryCollection_Layout_j2 k rec1 x4 4)
      (br (decide (x3 < r26))
       (gogeom_GeometryCollection_Layout_j2 k rec1 x4 r26)
       (gogeom_GeometryCollection_Layout_j2 k rec1 x4 x3)))
     (br (decide (r26 = 3))
      (br (decide (x3 = 2))
       (gogeom_GeometryCollection_Layout_j2 k rec1 x4 4)
       (br (decide (x3 < r26))
        (gogeom_GeometryCollection_Layout_j2 k rec1 x4 r26)
        (gogeom_GeometryCollection_Layout_j2 k rec1 x4 x3)))
      (br (decide (x3 < r26))
       (gogeom_GeometryCollection_Layout_j2 k rec1 x4 r26)
       (gogeom_GeometryCollection_Layout_j2 k rec1 x4 x3))))
   | .c4 r23_4a r23_4b r23_4c r23_4d r23_4e =>
    ((gogeom_geom0_Layout_v2 k r23_4a r23_4b r23_4c r23_4d r23_4e) >>= fun r26 =>
    br (decide (r26 = 2))
     (br (decide (x3 = 3))
      (gogeom_GeometryCollection_Layout_j2 k rec1 x4 4)
      (br (decide (x3 < r26))
       (gogeom_GeometryCollection_Layout_j2 k rec1 x4 r26)
       (gogeom_GeometryCollection_Layout_j2 k rec1 x4 x3)))
     (br (decide (r26 = 3))
      (br (decide (x3 = 2))
       (gogeom_GeometryCollection_Layout_j2 k rec1 x4 4)
       (br (decide (x3 < r26))
        (gogeom_GeometryCollection_Layout_j2 k rec1 x4 r26)
        (gogeom_GeometryCollection_Layout_j2 k rec1 x4 x3)))
      (br (decide (x3 < r26))
       (gogeom_GeometryCollection_Layout_j2 k rec1 x4 r26)
       (gogeom_GeometryCollection_Layout_j2 k rec1 x4 x3))))
   | .c5 r23_5a r23_5b r23_5c r23_5d r23_5e =>
    ((gogeom_geom0_Layout_v2 k r23_5a r23_5b r23_5c r23_5d r23_5e) >>= fun r26 =>
    br (decide (r26 = 2))
     (br (decide (x3 = 3))
      (gogeom_GeometryCollection_Layout_j2 k rec1 x4 4)
      (br (decide (x3 < r26))
       (gogeom_GeometryCollection_Layout_j2 k rec1 x4 r26)
       (gogeom_GeometryCollection_Layout_j2 k rec1 x4 x3)))
     (br (decide (r26 = 3))
      (br (decide (x3 = 2))
       (gogeom_GeometryCollection_Layout_j2 k rec1 x4 4)
       (br (decide (x3 < r26))
        (gogeom_GeometryCollection_Layout_j2 k rec1 x4 r26)
        (gogeom_GeometryCollection_Layout_j2 k rec1 x4 x3)))
      (br (decide (x3 < r26))
       (gogeom_GeometryCollection_Layout_j2 k rec1 x4 r26)
       (gogeom_GeometryCollection_Layout_j2 k rec1 x4 x3))))
   | .c6 r23_6a r23_6b r23_6c r23_6d r23_6e =>
    ((gogeom_geom0_Layout_v3 k r23_6a r23_6b r23_6c r23_6d r23_6e) >>= fun r26 =>
    br (decide (r26 = 2))
     (br (decide (x3 = 3))
      (gogeom_GeometryCollection_Layout_j2 k rec1 x4 4)
      (br (decide (x3 < r26))
       (gogeom_GeometryCollection_Layout_j2 k rec1 x4 r26)
       (gogeom_GeometryCollection_Layout_j2 k rec1 x4 x3)))
     (br (decide (r26 = 3))
      (br (decide (x3 = 2))
       (gogeom_GeometryCollection_Layout_j2 k rec1 x4 4)
       (br (decide (x3 < r26))
        (gogeom_GeometryCollection_Layout_j2 k rec1 x4 r26)
        (gogeom_GeometryCollection_Layout_j2 k rec1 x4 x3)))
      (br (decide (x3 < r26))
       (gogeom_GeometryCollection_Layout_j2 k rec1 x4 r26)
       (gogeom_GeometryCollection_Layout_j2 k rec1 x4 x3))))
   | .c7 r23_7a r23_7b r23_7c =>
    ((recf r23_7a r23_7b r23_7c) >>= fun r26 =>
    br (decide (r26 = 2))
     (br (decide (x3 = 3))
      (gogeom_GeometryCollection_Layout_j2 k rec1 x4 4)
      (br (decide (x3 < r26))
       (gogeom_GeometryCollection_Layout_j2 k rec1 x4 r26)
       (gogeom_GeometryCollection_Layout_j2 k rec1 x4 x3)))
     (br (decide (r26 = 3))
      (br (decide (x3 = 2))
       (gogeom_GeometryCollection_Layout_j2 k rec1 x4 4)
       (br (decide (x3 < r26))
        (gogeom_GeometryCollection_Layout_j2 k rec1 x4 r26)
        (gogeom_GeometryCollection_Layout_j2 k rec1 x4 x3)))
      (br (decide (x3 < r26))
       (gogeom_GeometryCollection_Layout_j2 k rec1 x4 r26)
       (gogeom_GeometryCollection_Layout_j2 k rec1 x4 x3)))))
  (some x3)
def gogeom_GeometryCollection_Layout_l1 (a0_1 : List G53) (recf : Int → (List G53) → Int → Option (Int)) : Nat → (Int × Int) → Option (Int)
 | 0, _ => none
 | k + 1, v => gogeom_GeometryCollection_Layout_l1s a0_1 recf k (gogeom_GeometryCollection_Layout_l1 a0_1 recf k) v.1 v.2
def gogeom_GeometryCollection_Layout_b (recf : Int → (List G53) → Int → Option (Int)) (k : Nat) (a0_0 : Int) (a0_1 : List G53) (a0_2 : Int) : Option (Int) :=
 br (!decide (a0_0 = 0))
  (some a0_0)
  ((gogeom_GeometryCollection_Layout_l1 a0_1 recf k (0, 0)) >>= fun v4 =>
  some v4)
def gogeom_GeometryCollection_Layout : Nat → Int → (List G53) → Int → Option (Int)
 | 0 => fun _ _ _ => none
 | k + 1 => fun a0_0 a0_1 a0_2 => gogeom_GeometryCollection_Layout_b (gogeom_GeometryCollection_Layout k) k a0_0 a0_1 a0_2

theorem gogeom_GeometryCollection_Layout_b_sim {recf : Int → (List G53) → Int → Option (Int)} (hrec : ∀  (a0_0 : Int) (a0_1 : List G53) (a0_2 : Int) (out : Int), recf a0_0 a0_1 a0_2 = some out → Sx.Fn Try.prog 125 [(Pt [(Vi a0_0), (Sl KG53 a0_1), (Vi a0_2)])] [] (fun w : Unit => (Vi out)) (fun w => [])) {k : Nat}  (a0_0 : Int) (a0_1 : List G53) (a0_2 : Int) {out : Int} (hp : gogeom_GeometryCollection_Layout_b recf k a0_0 a0_1 a0_2 = some out) : Sx.Fn Try.prog 125 [(Pt [(Vi a0_0), (Sl KG53 a0_1), (Vi a0_2)])] [] (fun w : Unit => (Vi out)) (fun w => []) := by
 unfold gogeom_GeometryCollection_Layout_b at hp
 refine fn_of Try.func125 rfl Try.ntmps125 rfl fun E hM => ?_
 refine cr fun K1 hK1 => ?_
 refine s0 (rd_assign' rfl) ?_
 refine nk hK1 ?_
 refine cx_seq' fun K2 hK2 => ?_
 refine cr fun K3 hK3 => ?_
 refine s0 (rd_move' rfl) ?_
 refine s0 (rd_nilck_pt' rfl) ?_
 refine s0 (rd_field_pt' (off := 0) rfl Try.underlying114 rfl info61 rfl (l' := [(Vi a0_0), (Sl KG53 a0_1), (Vi a0_2)]) rfl) ?_
 refine s0 (rd_load_pt' rfl rfl flat61) ?_
 refine s0 (rd_bin' rfl rfl eg_int ru_neq) ?_
 refine nk hK3 ?_
 refine cx_cond' rfl (fun h1 => ?_) (fun h1 => ?_)
 ·replace hp := (br_t h1).symm.trans hp
  refine cr fun K4 hK4 => ?_
  refine s0 (rd_move' rfl) ?_
  refine s0 (rd_nilck_pt' rfl) ?_
  refine s0 (rd_field_pt' (off := 0) rfl Try.underlying114 rfl info61 rfl (l' := [(Vi a0_0), (Sl KG53 a0_1), (Vi a0_2)]) rfl) ?_
  refine s0 (rd_load_pt' rfl rfl flat61) ?_
  refine s0 (rd_assign' rfl) ?_
  refine nk hK4 ?_
  refine cx_retc' ?_
  replace hp := Option.some.inj hp
  subst hp
  refine tx_pick' (L' := [(2, (Vi a0_0))]) (H' := []) [] (sub_cons rfl sub_nil) (by decide) pick_nil ?_
  exact tx_ret1' Try.results125 rfl () (rv_tmp' rfl) (List.Sublist.refl _)
 replace hp := (br_f h1).symm.trans hp
 refine cx_skip' ?_
 show TX E K2 _
 refine tx_k' hK2 ?_
 refine cr fun K5 hK5 => ?_
 refine s0 (rd_assign' rfl) ?_
 refine nk hK5 ?_
 refine cx_seq' fun K6 hK6 => ?_
 refine cr fun K7 hK7 => ?_
 refine s0 (rd_move' rfl) ?_
 refine s0 (rd_nilck_pt' rfl) ?_
 refine s0 (rd_field_pt' (off := 1) rfl Try.underlying114 rfl info112 rfl (l' := [(Sl KG53 a0_1), (Vi a0_2)]) rfl) ?_
 refine s0 (rd_load_pt' rfl rfl flat112) ?_
 refine s0 (rd_len' rfl Try.underlying112) ?_
 refine s0 (rd_move' rfl) ?_
 refine nk hK7 ?_
 refine cx_block' ?_
 obtain ⟨v4, hy1, hp⟩ := bind_some hp
 refine cx_loopg' (F := gogeom_GeometryCollection_Layout_l1 a0_1 recf) (G := fun k R v => gogeom_GeometryCollection_Layout_l1s a0_1 recf k R v.1 v.2) (x := (0, 0)) (gh := ()) (fun (v2 : Int × Int) (w2 : Unit) => (⟨50, [], [(3, (Vi v2.1)), (19, (Sl KG53 a0_1)), (20, (Vi (a0_1.length : Int))), (21, (Vi v2.2))], []⟩ : St)) (fun (v4 : Int) => Zg E (Exit.exit 0) (fun (w4 : Unit) => (⟨50, [], [(3, (Vi v4))], []⟩ : St))) (fun _ => rfl) (fun _ _ => rfl) ?_ hy1 (tx_to' rfl [] (sub_cons rfl (sub_cons rfl (sub_cons rfl (sub_cons rfl sub_nil)))) (by decide) pick_nil) ?_
 ·clear hp hy1
  clear v4
  intro k rec1 KY1 ih1
  rintro ⟨x3, x4⟩ ⟨⟩ y1 hp
  replace hp : gogeom_GeometryCollection_Layout_l1s a0_1 recf k rec1 x3 x4 = some y1 := hp
  unfold gogeom_GeometryCollection_Layout_l1s at hp
  refine cr fun K21 hK21 => ?_
  refine s0 (rd_bin' rfl rfl eg_int ru_lss) ?_
  refine nk hK21 ?_
  refine cx_seq' fun K22 hK22 => ?_
  refine cx_cond' rfl (fun h9 => ?_) (fun h9 => ?_)
  ·replace hp := (br_t h9).symm.trans hp
   refine cx_skip' ?_
   show TX E K22 _
   refine tx_k' hK22 ?_
   refine cx_join' (fun (v3 : Int) => (⟨50, [], [(3, (Vi v3)), (19, (Sl KG53 a0_1)), (20, (Vi (a0_1.length : Int))), (21, (Vi x4))], []⟩ : St)) (fun (v3 : Int) => gogeom_GeometryCollection_Layout_j2 k rec1 x4 v3 = some y1) ?_ ?_
   ·rintro x2 hp
    replace hp : gogeom_GeometryCollection_Layout_j2 k rec1 x4 x2 = some y1 := hp
    unfold gogeom_GeometryCollection_Layout_j2 at hp
    refine cx_region' ?_
    refine s0 (rd_bin' rfl rfl eg_int ru_add) ?_
    refine s0 (rd_move' rfl) ?_
    refine sx_nil' ?_
    show TX E (KY1 _) _
    exact tx_pick' [] (sub_cons rfl (sub_cons rfl (sub_cons rfl (sub_cons rfl sub_nil)))) (by decide) pick_nil (ih1 (x2, (iadd .i64 x4 1)) () _ hp)
   intro K23 hK23
   refine cx_block' ?_
   refine cr fun K24 hK24 => ?_
   obtain ⟨r23, hr23, hp⟩ := bind_some hp
   refine s0 (rd_at' (K := KG53) rfl rfl hr23 Try.underlying112 info53) ?_
   refine s0 (rd_load_pt' rfl rfl flat53) ?_
   refine s0 (rd_assign' rfl) ?_
   refine nk hK24 ?_
   refine cr fun K25 hK25 => ?_
   refine s0 (rd_move' rfl) ?_
   rcases r23 with ⟨r23_0a, r23_0b, r23_0c, r23_0d⟩ | ⟨r23_1a, r23_1b, r23_1c, r23_1d⟩ | ⟨r23_2a, r23_2b, r23_2c, r23_2d⟩ | ⟨r23_3a, r23_3b, r23_3c, r23_3d, r23_3e⟩ | ⟨r23_4a, r23_4b, r23_4c, r23_4d, r23_4e⟩ | ⟨r23_5a, r23_5b, r23_5c, r23_5d, r23_5e⟩ | ⟨r23_6a, r23_6b, r23_6c, r23_6d, r23_6e⟩ | ⟨r23_7a, r23_7b, r23_7c⟩
   ·dsimp only at hp
    refine tx_slot' 24 (y := (If 72 (Pt [(Vi r23_0a), (Vi r23_0b), (Sl Kf r23_0c), (Vi r23_0d)]))) rfl (imp_eq (SG53_c0 r23_0a r23_0b r23_0c r23_0d)) ?_
    refine tx_slot' 5 (y := (If 72 (Pt [(Vi r23_0a), (Vi r23_0b), (Sl Kf r23_0c), (Vi r23_0d)]))) rfl (imp_eq (SG53_c0 r23_0a r23_0b r23_0c r23_0d)) ?_
    refine tx_slot' 25 (y := (If 72 (Pt [(Vi r23_0a), (Vi r23_0b), (Sl Kf r23_0c), (Vi r23_0d)]))) rfl (imp_eq (SG53_c0 r23_0a r23_0b r23_0c r23_0d)) ?_
    obtain ⟨r26, hr26, hp⟩ := bind_some hp
    refine sx_ox' (ox_calln' (ent_inv' rfl rfl (inv_pt0 inv72_Layout)) (gogeom_geom0_Layout_sim _ _ _ _ hr26 : Sx.Fn Try.prog 134 [(Pt [(Vi r23_0a), (Vi r23_0b), (Sl Kf r23_0c), (Vi r23_0d)])] [] (fun x : Unit => (Vi r26)) (fun x => [])) (Hn := fun x : Unit => []) (fun _ => rfl) rfl rfl) (wt_none' rfl) fun ⟨⟩ => ?_
    refine s0 (rd_assign' rfl) ?_
    refine nk hK25 ?_
    refine cr fun K26 hK26 => ?_
    refine s0 (rd_move' rfl) ?_
    refine nk hK26 ?_
    refine cx_block' ?_
    refine cr fun K27 hK27 => ?_
    refine s0 (rd_bin' rfl rfl eg_int ru_eql) ?_
    refine s0 (rd_assign' rfl) ?_
    refine nk hK27 ?_
    refine cx_cond' rfl (fun h10 => ?_) (fun h10 => ?_)
    ·replace hp := (br_t h10).symm.trans hp
     refine cr fun K28 hK28 => ?_
     refine s0 (rd_move' rfl) ?_
     refine s0 (rd_bin' rfl rfl eg_int ru_eql) ?_
     refine nk hK28 ?_
     refine cx_cond' rfl (fun h15 => ?_) (fun h15 => ?_)
     ·replace hp := (br_t h15).symm.trans hp
      refine cx_region' ?_
      refine s0 (rd_assign' rfl) ?_
      refine sx_nil' ?_
      show TX E K23 _
      exact tx_pick' [] (sub_cons rfl (sub_cons rfl (sub_cons rfl (sub_cons rfl sub_nil)))) (by decide) pick_nil (hK23 4 hp)
     replace hp := (br_f h15).symm.trans hp
     refine cr fun K29 hK29 => ?_
     refine s0 (rd_move' rfl) ?_
     refine s0 (rd_move' rfl) ?_
     refine s0 (rd_bin' rfl rfl eg_int ru_gtr) ?_
     refine nk hK29 ?_
     refine cx_cond' rfl (fun h11 => ?_) (fun h11 => ?_)
     ·replace hp := (br_t h11).symm.trans hp
      refine cx_region' ?_
      refine s0 (rd_move' rfl) ?_
      refine s0 (rd_assign' rfl) ?_
      refine sx_nil' ?_
      show TX E K23 _
      exact tx_pick' [] (sub_cons rfl (sub_cons rfl (sub_cons rfl (sub_cons rfl sub_nil)))) (by decide) pick_nil (hK23 r26 hp)
     replace hp := (br_f h11).symm.trans hp
     refine cx_skip' ?_
     show TX E K23 _
     exact tx_pick' [] (sub_cons rfl (sub_cons rfl (sub_cons rfl (sub_cons rfl sub_nil)))) (by decide) pick_nil (hK23 x3 hp)
    replace hp := (br_f h10).symm.trans hp
    refine cr fun K30 hK30 => ?_
    refine s0 (rd_bin' rfl rfl eg_int ru_eql) ?_
    refine s0 (rd_assign' rfl) ?_
    refine nk hK30 ?_
    refine cx_cond' rfl (fun h12 => ?_) (fun h12 => ?_)
    ·replace hp := (br_t h12).symm.trans hp
     refine cr fun K31 hK31 => ?_
     refine s0 (rd_move' rfl) ?_
     refine s0 (rd_bin' rfl rfl eg_int ru_eql) ?_
     refine nk hK31 ?_
     refine cx_cond' rfl (fun h16 => ?_) (fun h16 => ?_)
     ·replace hp := (br_t h16).symm.trans hp
      refine cx_region' ?_
      refine s0 (rd_assign' rfl) ?_
      refine sx_nil' ?_
      show TX E K23 _
      exact tx_pick' [] (sub_cons rfl (sub_cons rfl (sub_cons rfl (sub_cons rfl sub_nil)))) (by decide) pick_nil (hK23 4 hp)
     replace hp := (br_f h16).symm.trans hp
     refine cr fun K32 hK32 => ?_
     refine s0 (rd_move' rfl) ?_
     refine s0 (rd_move' rfl) ?_
     refine s0 (rd_bin' rfl rfl eg_int ru_gtr) ?_
     refine nk hK32 ?_
     refine cx_cond' rfl (fun h13 => ?_) (fun h13 => ?_)
     ·replace hp := (br_t h13).symm.trans hp
      refine cx_region' ?_
      refine s0 (rd_move' rfl) ?_
      refine s0 (rd_assign' rfl) ?_
      refine sx_nil' ?_
      show TX E K23 _
      exact tx_pick' [] (sub_cons rfl (sub_cons rfl (sub_cons rfl (sub_cons rfl sub_nil)))) (by decide) pick_nil (hK23 r26 hp)
     replace hp := (br_f h13).symm.trans hp
     refine cx_skip' ?_
     show TX E K23 _
     exact tx_pick' [] (sub_cons rfl (sub_cons rfl (sub_cons rfl (sub_cons rfl sub_nil)))) (by decide) pick_nil (hK23 x3 hp)
    replace hp := (br_f h12).symm.trans hp
    refine cr fun K33 hK33 => ?_
    refine s0 (rd_move' rfl) ?_
    refine s0 (rd_move' rfl) ?_
    refine s0 (rd_bin' rfl rfl eg_int ru_gtr) ?_
    refine nk hK33 ?_
    refine cx_cond' rfl (fun h14 => ?_) (fun h14 => ?_)
    ·replace hp := (br_t h14).symm.trans hp
     refine cx_region' ?_
     refine s0 (rd_move' rfl) ?_
     refine s0 (rd_assign' rfl) ?_
     refine sx_nil' ?_
     show TX E K23 _
     exact tx_pick' [] (sub_cons rfl (sub_cons rfl (sub_cons rfl (sub_cons rfl sub_nil)))) (by decide) pick_nil (hK23 r26 hp)
    replace hp := (br_f h14).symm.trans hp
    refine cx_skip' ?_
    show TX E K23 _
    exact tx_pick' [] (sub_cons rfl (sub_cons rfl (sub_cons rfl (sub_cons rfl sub_nil)))) (by decide) pick_nil (hK23 x3 hp)
   ·dsimp only at hp
    refine tx_slot' 24 (y := (If 75 (Pt [(Vi r23_1a), (Vi r23_1b), (Sl Kf r23_1c), (Vi r23_1d)]))) rfl (imp_eq (SG53_c1 r23_1a r23_1b r23_1c r23_1d)) ?_
    refine tx_slot' 5 (y := (If 75 (Pt [(Vi r23_1a), (Vi r23_1b), (Sl Kf r23_1c), (Vi r23_1d)]))) rfl (imp_eq (SG53_c1 r23_1a r23_1b r23_1c r23_1d)) ?_
    refine tx_slot' 25 (y := (If 75 (Pt [(Vi r23_1a), (Vi r23_1b), (Sl Kf r23_1c), (Vi r23_1d)]))) rfl (imp_eq (SG53_c1 r23_1a r23_1b r23_1c r23_1d)) ?_
    obtain ⟨r26, hr26, hp⟩ := bind_some hp
    refine sx_ox' (ox_calln' (ent_inv' rfl rfl (inv_pt0 inv75_Layout)) (gogeom_geom0_Layout_sim _ _ _ _ hr26 : Sx.Fn Try.prog 134 [(Pt [(Vi r23_1a), (Vi r23_1b), (Sl Kf r23_1c), (Vi r23_1d)])] [] (fun x : Unit => (Vi r26)) (fun x => [])) (Hn := fun x : Unit => []) (fun _ => rfl) rfl rfl) (wt_none' rfl) fun ⟨⟩ => ?_
    refine s0 (rd_assign' rfl) ?_
    refine nk hK25 ?_
    refine cr fun K26 hK26 => ?_
    refine s0 (rd_move' rfl) ?_
    refine nk hK26 ?_
    refine cx_block' ?_
    refine cr fun K27 hK27 => ?_
    refine s0 (rd_bin' rfl rfl eg_int ru_eql) ?_
    refine s0 (rd_assign' rfl) ?_
    refine nk hK27 ?_
    refine cx_cond' rfl (fun h10 => ?_) (fun h10 => ?_)
    ·replace hp := (br_t h10).symm.trans hp
     refine cr fun K28 hK28 => ?_
     refine s0 (rd_move' rfl) ?_
     refine s0 (rd_bin' rfl rfl eg_int ru_eql) ?_
     refine nk hK28 ?_
     refine cx_cond' rfl (fun h15 => ?_) (fun h15 => ?_)
     ·replace hp := (br_t h15).symm.trans hp
      refine cx_region' ?_
      refine s0 (rd_assign' rfl) ?_
      refine sx_nil' ?_
      show TX E K23 _
      exact tx_pick' [] (sub_cons rfl (sub_cons rfl (sub_cons rfl (sub_cons rfl sub_nil)))) (by decide) pick_nil (hK23 4 hp)
     replace hp := (br_f h15).symm.trans hp
     refine cr fun K29 hK29 => ?_
     refine s0 (rd_move' rfl) ?_
     refine s0 (rd_move' rfl) ?_
     refine s0 (rd_bin' rfl rfl eg_int ru_gtr) ?_
     refine nk hK29 ?_
     refine cx_cond' rfl (fun h11 => ?_) (fun h11 => ?_)
     ·replace hp := (br_t h11).symm.trans hp
      refine cx_region' ?_
      refine s0 (rd_move' rfl) ?_
      refine s0 (rd_assign' rfl) ?_
      refine sx_nil' ?_
      show TX E K23 _
      exact tx_pick' [] (sub_cons rfl (sub_cons rfl (sub_cons rfl (sub_cons rfl sub_nil)))) (by decide) pick_nil (hK23 r26 hp)
     replace hp := (br_f h11).symm.trans hp
     refine cx_skip' ?_
     show TX E K23 _
     exact tx_pick' [] (sub_cons rfl (sub_cons rfl (sub_cons rfl (sub_cons rfl sub_nil)))) (by decide) pick_nil (hK23 x3 hp)
    replace hp := (br_f h10).symm.trans hp
    refine cr fun K30 hK30 => ?_
    refine s0 (rd_bin' rfl rfl eg_int ru_eql) ?_
    refine s0 (rd_assign' rfl) ?_
    refine nk hK30 ?_
    refine cx_cond' rfl (fun h12 => ?_) (fun h12 => ?_)
    ·replace hp := (br_t h12).symm.trans hp
     refine cr fun K31 hK31 => ?_
     refine s0 (rd_move' rfl) ?_
     refine s0 (rd_bin' rfl rfl eg_int ru_eql) ?_
     refine nk hK31 ?_
     refine cx_cond' rfl (fun h16 => ?_) (fun h16 => ?_)
     ·replace hp := (br_t h16).symm.trans hp
      refine cx_region' ?_
      refine s0 (rd_assign' rfl) ?_
      refine sx_nil' ?_
      show TX E K23 _
      exact tx_pick' [] (sub_cons rfl (sub_cons rfl (sub_cons rfl (sub_cons rfl sub_nil)))) (by decide) pick_nil (hK23 4 hp)
     replace hp := (br_f h16).symm.trans hp
     refine cr fun K32 hK32 => ?_
     refine s0 (rd_move' rfl) ?_
     refine s0 (rd_move' rfl) ?_
     refine s0 (rd_bin' rfl rfl eg_int ru_gtr) ?_
     refine nk hK32 ?_
     refine cx_cond' rfl (fun h13 => ?_) (fun h13 => ?_)
     ·replace hp := (br_t h13).symm.trans hp
      refine cx_region' ?_
      refine s0 (rd_move' rfl) ?_
      refine s0 (rd_assign' rfl) ?_
      refine sx_nil' ?_
      show TX E K23 _
      exact tx_pick' [] (sub_cons rfl (sub_cons rfl (sub_cons rfl (sub_cons rfl sub_nil)))) (by decide) pick_nil (hK23 r26 hp)
     replace hp := (br_f h13).symm.trans hp
     refine cx_skip' ?_
     show TX E K23 _
     exact tx_pick' [] (sub_cons rfl (sub_cons rfl (sub_cons rfl (sub_cons rfl sub_nil)))) (by decide) pick_nil (hK23 x3 hp)
    replace hp := (br_f h12).symm.trans hp
    refine cr fun K33 hK33 => ?_
    refine s0 (rd_move' rfl) ?_
    refine s0 (rd_move' rfl) ?_
    refine s0 (rd_bin' rfl rfl eg_int ru_gtr) ?_
    refine nk hK33 ?_
    refine cx_cond' rfl (fun h14 => ?_) (fun h14 => ?_)
    ·replace hp := (br_t h14).symm.trans hp
     refine cx_region' ?_
     refine s0 (rd_move' rfl) ?_
     refine s0 (rd_assign' rfl) ?_
     refine sx_nil' ?_
     show TX E K23 _
     exact tx_pick' [] (sub_cons rfl (sub_cons rfl (sub_cons rfl (sub_cons rfl sub_nil)))) (by decide) pick_nil (hK23 r26 hp)
    replace hp := (br_f h14).symm.trans hp
    refine cx_skip' ?_
    show TX E K23 _
    exact tx_pick' [] (sub_cons rfl (sub_cons rfl (sub_cons rfl (sub_cons rfl sub_nil)))) (by decide) pick_nil (hK23 x3 hp)
   ·dsimp only at hp
    refine tx_slot' 24 (y := (If 69 (Pt [(Vi r23_2a), (Vi r23_2b), (Sl Kf r23_2c), (Vi r23_2d)]))) rfl (imp_eq (SG53_c2 r23_2a r23_2b r23_2c r23_2d)) ?_
    refine tx_slot' 5 (y := (If 69 (Pt [(Vi r23_2a), (Vi r23_2b), (Sl Kf r23_2c), (Vi r23_2d)]))) rfl (imp_eq (SG53_c2 r23_2a r23_2b r23_2c r23_2d)) ?_
    refine tx_slot' 25 (y := (If 69 (Pt [(Vi r23_2a), (Vi r23_2b), (Sl Kf r23_2c), (Vi r23_2d)]))) rfl (imp_eq (SG53_c2 r23_2a r23_2b r23_2c r23_2d)) ?_
    obtain ⟨r26, hr26, hp⟩ := bind_some hp
    refine sx_ox' (ox_calln' (ent_inv' rfl rfl (inv_pt0 inv69_Layout)) (gogeom_geom0_Layout_sim _ _ _ _ hr26 : Sx.Fn Try.prog 134 [(Pt [(Vi r23_2a), (Vi r23_2b), (Sl Kf r23_2c), (Vi r23_2d)])] [] (fun x : Unit => (Vi r26)) (fun x => [])) (Hn := fun x : Unit => []) (fun _ => rfl) rfl rfl) (wt_none' rfl) fun ⟨⟩ => ?_
    refine s0 (rd_assign' rfl) ?_
    refine nk hK25 ?_
    refine cr fun K26 hK26 => ?_
    refine s0 (rd_move' rfl) ?_
    refine nk hK26 ?_
    refine cx_block' ?_
    refine cr fun K27 hK27 => ?_
    refine s0 (rd_bin' rfl rfl eg_int ru_eql) ?_
    refine s0 (rd_assign' rfl) ?_
    refine nk hK27 ?_
    refine cx_cond' rfl (fun h10 => ?_) (fun h10 => ?_)
    ·replace hp := (br_t h10).symm.trans hp
     refine cr fun K28 hK28 => ?_
     refine s0 (rd_move' rfl) ?_
     refine s0 (rd_bin' rfl rfl eg_int ru_eql) ?_
     refine nk hK28 ?_
     refine cx_cond' rfl (fun h15 => ?_) (fun h15 => ?_)
     ·replace hp := (br_t h15).symm.trans hp
      refine cx_region' ?_
      refine s0 (rd_assign' rfl) ?_
      refine sx_nil' ?_
      show TX E K23 _
      exact tx_pick' [] (sub_cons rfl (sub_cons rfl (sub_cons rfl (sub_cons rfl sub_nil)))) (by decide) pick_nil (hK23 4 hp)
     replace hp := (br_f h15).symm.trans hp
     refine cr fun K29 hK29 => ?_
     refine s0 (rd_move' rfl) ?_
     refine s0 (rd_move' rfl) ?_
     refine s0 (rd_bin' rfl rfl eg_int ru_gtr) ?_
     refine nk hK29 ?_
     refine cx_cond' rfl (fun h11 => ?_) (fun h11 => ?_)
     ·replace hp := (br_t h11).symm.trans hp
      refine cx_region' ?_
      refine s0 (rd_move' rfl) ?_
      refine s0 (rd_assign' rfl) ?_
      refine sx_nil' ?_
      show TX E K23 _
      exact tx_pick' [] (sub_cons rfl (sub_cons rfl (sub_cons rfl (sub_cons rfl sub_nil)))) (by decide) pick_nil (hK23 r26 hp)
     replace hp := (br_f h11).symm.trans hp
     refine cx_skip' ?_
     show TX E K23 _
     exact tx_pick' [] (sub_cons rfl (sub_cons rfl (sub_cons rfl (sub_cons rfl sub_nil)))) (by decide) pick_nil (hK23 x3 hp)
    replace hp := (br_f h10).symm.trans hp
    refine cr fun K30 hK30 => ?_
    refine s0 (rd_bin' rfl rfl eg_int ru_eql) ?_
    refine s0 (rd_assign' rfl) ?_
    refine nk hK30 ?_
    refine cx_cond' rfl (fun h12 => ?_) (fun h12 => ?_)
    ·replace hp := (br_t h12).symm.trans hp
     refine cr fun K31 hK31 => ?_
     refine s0 (rd_move' rfl) ?_
     refine s0 (rd_bin' rfl rfl eg_int ru_eql) ?_
     refine nk hK31 ?_
     refine cx_cond' rfl (fun h16 => ?_) (fun h16 => ?_)
     ·replace hp := (br_t h16).symm.trans hp
      refine cx_region' ?_
      refine s0 (rd_assign' rfl) ?_
      refine sx_nil' ?_
      show TX E K23 _
      exact tx_pick' [] (sub_cons rfl (sub_cons rfl (sub_cons rfl (sub_cons rfl sub_nil)))) (by decide) pick_nil (hK23 4 hp)
     replace hp := (br_f h16).symm.trans hp
     refine cr fun K32 hK32 => ?_
     refine s0 (rd_move' rfl) ?_
     refine s0 (rd_move' rfl) ?_
     refine s0 (rd_bin' rfl rfl eg_int ru_gtr) ?_
     refine nk hK32 ?_
     refine cx_cond' rfl (fun h13 => ?_) (fun h13 => ?_)
     ·replace hp := (br_t h13).symm.trans hp
      refine cx_region' ?_
      refine s0 (rd_move' rfl) ?_
      refine s0 (rd_assign' rfl) ?_
      refine sx_nil' ?_
      show TX E K23 _
      exact tx_pick' [] (sub_cons rfl (sub_cons rfl (sub_cons rfl (sub_cons rfl sub_nil)))) (by decide) pick_nil (hK23 r26 hp)
     replace hp := (br_f h13).symm.trans hp
     refine cx_skip' ?_
     show TX E K23 _
     exact tx_pick' [] (sub_cons rfl (sub_cons rfl (sub_cons rfl (sub_cons rfl sub_nil)))) (by decide) pick_nil (hK23 x3 hp)
    replace hp := (br_f h12).symm.trans hp
    refine cr fun K33 hK33 => ?_
    refine s0 (rd_move' rfl) ?_
    refine s0 (rd_move' rfl) ?_
    refine s0 (rd_bin' rfl rfl eg_int ru_gtr) ?_
    refine nk hK33 ?_
    refine cx_cond' rfl (fun h14 => ?_) (fun h14 => ?_)
    ·replace hp := (br_t h14).symm.trans hp
     refine cx_region' ?_
     refine s0 (rd_move' rfl) ?_
     refine s0 (rd_assign' rfl) ?_
     refine sx_nil' ?_
     show TX E K23 _
     exact tx_pick' [] (sub_cons rfl (sub_cons rfl (sub_cons rfl (sub_cons rfl sub_nil)))) (by decide) pick_nil (hK23 r26 hp)
    replace hp := (br_f h14).symm.trans hp
    refine cx_skip' ?_
    show TX E K23 _
    exact tx_pick' [] (sub_cons rfl (sub_cons rfl (sub_cons rfl (sub_cons rfl sub_nil)))) (by decide) pick_nil (hK23 x3 hp)
   ·dsimp only at hp
    refine tx_slot' 24 (y := (If 67 (Pt [(Vi r23_3a), (Vi r23_3b), (Sl Kf r23_3c), (Vi r23_3d), (Sl (Ki .i64) r23_3e)]))) rfl (imp_eq (SG53_c3 r23_3a r23_3b r23_3c r23_3d r23_3e)) ?_
    refine tx_slot' 5 (y := (If 67 (Pt [(Vi r23_3a), (Vi r23_3b), (Sl Kf r23_3c), (Vi r23_3d), (Sl (Ki .i64) r23_3e)]))) rfl (imp_eq (SG53_c3 r23_3a r23_3b r23_3c r23_3d r23_3e)) ?_
    refine tx_slot' 25 (y := (If 67 (Pt [(Vi r23_3a), (Vi r23_3b), (Sl Kf r23_3c), (Vi r23_3d), (Sl (Ki .i64) r23_3e)]))) rfl (imp_eq (SG53_c3 r23_3a r23_3b r23_3c r23_3d r23_3e)) ?_
    obtain ⟨r26, hr26, hp⟩ := bind_some hp
    refine sx_ox' (ox_calln' (ent_inv' rfl rfl (inv_pt0 inv67_Layout)) (gogeom_geom0_Layout_v2_sim _ _ _ _ _ hr26 : Sx.Fn Try.prog 134 [(Pt [(Vi r23_3a), (Vi r23_3b), (Sl Kf r23_3c), (Vi r23_3d), (Sl (Ki .i64) r23_3e)])] [] (fun x : Unit => (Vi r26)) (fun x => [])) (Hn := fun x : Unit => []) (fun _ => rfl) rfl rfl) (wt_none' rfl) fun ⟨⟩ => ?_
    refine s0 (rd_assign' rfl) ?_
    refine nk hK25 ?_
    refine cr fun K26 hK26 => ?_
    refine s0 (rd_move' rfl) ?_
    refine nk hK26 ?_
    refine cx_block' ?_
    refine cr fun K27 hK27 => ?_
    refine s0 (rd_bin' rfl rfl eg_int ru_eql) ?_
    refine s0 (rd_assign' rfl) ?_
    refine nk hK27 ?_
    refine cx_cond' rfl (fun h10 => ?_) (fun h10 => ?_)
    ·replace hp := (br_t h10).symm.trans hp
     refine cr fun K28 hK28 => ?_
     refine s0 (rd_move' rfl) ?_
     refine s0 (rd_bin' rfl rfl eg_int ru_eql) ?_
     refine nk hK28 ?_
     refine cx_cond' rfl (fun h15 => ?_) (fun h15 => ?_)
     ·replace hp := (br_t h15).symm.trans hp
      refine cx_region' ?_
      refine s0 (rd_assign' rfl) ?_
      refine sx_nil' ?_
      show TX E K23 _
      exact tx_pick' [] (sub_cons rfl (sub_cons rfl (sub_cons rfl (sub_cons rfl sub_nil)))) (by decide) pick_nil (hK23 4 hp)
     replace hp := (br_f h15).symm.trans hp
     refine cr fun K29 hK29 => ?_
     refine s0 (rd_move' rfl) ?_
     refine s0 (rd_move' rfl) ?_
     refine s0 (rd_bin' rfl rfl eg_int ru_gtr) ?_
     refine nk hK29 ?_
     refine cx_cond' rfl (fun h11 => ?_) (fun h11 => ?_)
     ·replace hp := (br_t h11).symm.trans hp
      refine cx_region' ?_
      refine s0 (rd_move' rfl) ?_
      refine s0 (rd_assign' rfl) ?_
      refine sx_nil' ?_
      show TX E K23 _
      exact tx_pick' [] (sub_cons rfl (sub_cons rfl (sub_cons rfl (sub_cons rfl sub_nil)))) (by decide) pick_nil (hK23 r26 hp)
     replace hp := (br_f h11).symm.trans hp
     refine cx_skip' ?_
     show TX E K23 _
     exact tx_pick' [] (sub_cons rfl (sub_cons rfl (sub_cons rfl (sub_cons rfl sub_nil)))) (by decide) pick_nil (hK23 x3 hp)
    replace hp := (br_f h10).symm.trans hp
    refine cr fun K30 hK30 => ?_
    refine s0 (rd_bin' rfl rfl eg_int ru_eql) ?_
    refine s0 (rd_assign' rfl) ?_
    refine nk hK30 ?_
    refine cx_cond' rfl (fun h12 => ?_) (fun h12 => ?_)
    ·replace hp := (br_t h12).symm.trans hp
     refine cr fun K31 hK31 => ?_
     refine s0 (rd_move' rfl) ?_
     refine s0 (rd_bin' rfl rfl eg_int ru_eql) ?_
     refine nk hK31 ?_
     refine cx_cond' rfl (fun h16 => ?_) (fun h16 => ?_)
     ·replace hp := (br_t h16).symm.trans hp
      refine cx_region' ?_
      refine s0 (rd_assign' rfl) ?_
      refine sx_nil' ?_
      show TX E K23 _
      exact tx_pick' [] (sub_cons rfl (sub_cons rfl (sub_cons rfl (sub_cons rfl sub_nil)))) (by decide) pick_nil (hK23 4 hp)
     replace hp := (br_f h16).symm.trans hp
     refine cr fun K32 hK32 => ?_
     refine s0 (rd_move' rfl) ?_
     refine s0 (rd_move' rfl) ?_
     refine s0 (rd_bin' rfl rfl eg_int ru_gtr) ?_
     refine nk hK32 ?_
     refine cx_cond' rfl (fun h13 => ?_) (fun h13 => ?_)
     ·replace hp := (br_t h13).symm.trans hp
      refine cx_region' ?_
      refine s0 (rd_move' rfl) ?_
      refine s0 (rd_assign' rfl) ?_
      refine sx_nil' ?_
      show TX E K23 _
      exact tx_pick' [] (sub_cons rfl (sub_cons rfl (sub_cons rfl (sub_cons rfl sub_nil)))) (by decide) pick_nil (hK23 r26 hp)
     replace hp := (br_f h13).symm.trans hp
     refine cx_skip' ?_
     show TX E K23 _
     exact tx_pick' [] (sub_cons rfl (sub_cons rfl (sub_cons rfl (sub_cons rfl sub_nil)))) (by decide) pick_nil (hK23 x3 hp)
    replace hp := (br_f h12).symm.trans hp
    refine cr fun K33 hK33 => ?_
    refine s0 (rd_move' rfl) ?_
    refine s0 (rd_move' rfl) ?_
    refine s0 (rd_bin' rfl rfl eg_int ru_gtr) ?_
    refine nk hK33 ?_
    refine cx_cond' rfl (fun h14 => ?_) (fun h14 => ?_)
    ·replace hp := (br_t h14).symm.trans hp
     refine cx_region' ?_
     refine s0 (rd_move' rfl) ?_
     refine s0 (rd_assign' rfl) ?_
     refine sx_nil' ?_
     show TX E K23 _
     exact tx_pick' [] (sub_cons rfl (sub_cons rfl (sub_cons rfl (sub_cons rfl sub_nil)))) (by decide) pick_nil (hK23 r26 hp)
    replace hp := (br_f h14).symm.trans hp
    refine cx_skip' ?_
    show TX E K23 _
    exact tx_pick' [] (sub_cons rfl (sub_cons rfl (sub_cons rfl (sub_cons rfl sub_nil)))) (by decide) pick_nil (hK23 x3 hp)
   ·dsimp only at hp
    refine tx_slot' 24 (y := (If 70 (Pt [(Vi r23_4a), (Vi r23_4b), (Sl Kf r23_4c), (Vi r23_4d), (Sl (Ki .i64) r23_4e)]))) rfl (imp_eq (SG53_c4 r23_4a r23_4b r23_4c r23_4d r23_4e)) ?_
    refine tx_slot' 5 (y := (If 70 (Pt [(Vi r23_4a), (Vi r23_4b), (Sl Kf r23_4c), (Vi r23_4d), (Sl (Ki .i64) r23_4e)]))) rfl (imp_eq (SG53_c4 r23_4a r23_4b r23_4c r23_4d r23_4e)) ?_
    refine tx_slot' 25 (y := (If 70 (Pt [(Vi r23_4a), (Vi r23_4b), (Sl Kf r23_4c), (Vi r23_4d), (Sl (Ki .i64) r23_4e)]))) rfl (imp_eq (SG53_c4 r23_4a r23_4b r23_4c r23_4d r23_4e)) ?_
    obtain ⟨r26, hr26, hp⟩ := bind_some hp
    refine sx_ox' (ox_calln' (ent_inv' rfl rfl (inv_pt0 inv70_Layout)) (gogeom_geom0_Layout_v2_sim _ _ _ _ _ hr26 : Sx.Fn Try.prog 134 [(Pt [(Vi r23_4a), (Vi r23_4b), (Sl Kf r23_4c), (Vi r23_4d), (Sl (Ki .i64) r23_4e)])] [] (fun x : Unit => (Vi r26)) (fun x => [])) (Hn := fun x : Unit => []) (fun _ => rfl) rfl rfl) (wt_none' rfl) fun ⟨⟩ => ?_
    refine s0 (rd_assign' rfl) ?_
    refine nk hK25 ?_
    refine cr fun K26 hK26 => ?_
    refine s0 (rd_move' rfl) ?_
    refine nk hK26 ?_
    refine cx_block' ?_
    refine cr fun K27 hK27 => ?_
    refine s0 (rd_bin' rfl rfl eg_int ru_eql) ?_
    refine s0 (rd_assign' rfl) ?_
    refine nk hK27 ?_
    refine cx_cond' rfl (fun h10 => ?_) (fun h10 => ?_)
    ·replace hp := (br_t h10).symm.trans hp
     refine cr fun K28 hK28 => ?_
     refine s0 (rd_move' rfl) ?_
     refine s0 (rd_bin' rfl rfl eg_int ru_eql) ?_
     refine nk hK28 ?_
     refine cx_cond' rfl (fun h15 => ?_) (fun h15 => ?_)
     ·replace hp := (br_t h15).symm.trans hp
      refine cx_region' ?_
      refine s0 (rd_assign' rfl) ?_
      refine sx_nil' ?_
      show TX E K23 _
      exact tx_pick' [] (sub_cons rfl (sub_cons rfl (sub_cons rfl (sub_cons rfl sub_nil)))) (by decide) pick_nil (hK23 4 hp)
     replace hp := (br_f h15).symm.trans hp
     refine cr fun K29 hK29 => ?_
     refine s0 (rd_move' rfl) ?_
     refine s0 (rd_move' rfl) ?_
     refine s0 (rd_bin' rfl rfl eg_int ru_gtr) ?_
     refine nk hK29 ?_
     refine cx_cond' rfl (fun h11 => ?_) (fun h11 => ?_)
     ·replace hp := (br_t h11).symm.trans hp
      refine cx_region' ?_
      refine s0 (rd_move' rfl) ?_
      refine s0 (rd_assign' rfl) ?_
      refine sx_nil' ?_
      show TX E K23 _
      exact tx_pick' [] (sub_cons rfl (sub_cons rfl (sub_cons rfl (sub_cons rfl sub_nil)))) (by decide) pick_nil (hK23 r26 hp)
     replace hp := (br_f h11).symm.trans hp
     refine cx_skip' ?_
     show TX E K23 _
     exact tx_pick' [] (sub_cons rfl (sub_cons rfl (sub_cons rfl (sub_cons rfl sub_nil)))) (by decide) pick_nil (hK23 x3 hp)
    replace hp := (br_f h10).symm.trans hp
    refine cr fun K30 hK30 => ?_
    refine s0 (rd_bin' rfl rfl eg_int ru_eql) ?_
    refine s0 (rd_assign' rfl) ?_
    refine nk hK30 ?_
    refine cx_cond' rfl (fun h12 => ?_) (fun h12 => ?_)
    ·replace hp := (br_t h12).symm.trans hp
     refine cr fun K31 hK31 => ?_
     refine s0 (rd_move' rfl) ?_
     refine s0 (rd_bin' rfl rfl eg_int ru_eql) ?_
     refine nk hK31 ?_
     refine cx_cond' rfl (fun h16 => ?_) (fun h16 => ?_)
     ·replace hp := (br_t h16).symm.trans hp
      refine cx_region' ?_
      refine s0 (rd_assign' rfl) ?_
      refine sx_nil' ?_
      show TX E K23 _
      exact tx_pick' [] (sub_cons rfl (sub_cons rfl (sub_cons rfl (sub_cons rfl sub_nil)))) (by decide) pick_nil (hK23 4 hp)
     replace hp := (br_f h16).symm.trans hp
     refine cr fun K32 hK32 => ?_
     refine s0 (rd_move' rfl) ?_
     refine s0 (rd_move' rfl) ?_
     refine s0 (rd_bin' rfl rfl eg_int ru_gtr) ?_
     refine nk hK32 ?_
     refine cx_cond' rfl (fun h13 => ?_) (fun h13 => ?_)
     ·replace hp := (br_t h13).symm.trans hp
      refine cx_region' ?_
      refine s0 (rd_move' rfl) ?_
      refine s0 (rd_assign' rfl) ?_
      refine sx_nil' ?_
      show TX E K23 _
      exact tx_pick' [] (sub_cons rfl (sub_cons rfl (sub_cons rfl (sub_cons rfl sub_nil)))) (by decide) pick_nil (hK23 r26 hp)
     replace hp := (br_f h13).symm.trans hp
     refine cx_skip' ?_
     show TX E K23 _
     exact tx_pick' [] (sub_cons rfl (sub_cons rfl (sub_cons rfl (sub_cons rfl sub_nil)))) (by decide) pick_nil (hK23 x3 hp)
    replace hp := (br_f h12).symm.trans hp
    refine cr fun K33 hK33 => ?_
    refine s0 (rd_move' rfl) ?_
    refine s0 (rd_move' rfl) ?_
    refine s0 (rd_bin' rfl rfl eg_int ru_gtr) ?_
    refine nk hK33 ?_
    refine cx_cond' rfl (fun h14 => ?_) (fun h14 => ?_)
    ·replace hp := (br_t h14).symm.trans hp
     refine cx_region' ?_
     refine s0 (rd_move' rfl) ?_
     refine s0 (rd_assign' rfl) ?_
     refine sx_nil' ?_
     show TX E K23 _
     exact tx_pick' [] (sub_cons rfl (sub_cons rfl (sub_cons rfl (sub_cons rfl sub_nil)))) (by decide) pick_nil (hK23 r26 hp)
    replace hp := (br_f h14).symm.trans hp
    refine cx_skip' ?_
    show TX E K23 _
    exact tx_pick' [] (sub_cons rfl (sub_cons rfl (sub_cons rfl (sub_cons rfl sub_nil)))) (by decide) pick_nil (hK23 x3 hp)
   ·dsimp only at hp
    refine tx_slot' 24 (y := (If 73 (Pt [(Vi r23_5a), (Vi r23_5b), (Sl Kf r23_5c), (Vi r23_5d), (Sl (Ki .i64) r23_5e)]))) rfl (imp_eq (SG53_c5 r23_5a r23_5b r23_5c r23_5d r23_5e)) ?_
    refine tx_slot' 5 (y := (If 73 (Pt [(Vi r23_5a), (Vi r23_5b), (Sl Kf r23_5c), (Vi r23_5d), (Sl (Ki .i64) r23_5e)]))) rfl (imp_eq (SG53_c5 r23_5a r23_5b r23_5c r23_5d r23_5e)) ?_
    refine tx_slot' 25 (y := (If 73 (Pt [(Vi r23_5a), (Vi r23_5b), (Sl Kf r23_5c), (Vi r23_5d), (Sl (Ki .i64) r23_5e)]))) rfl (imp_eq (SG53_c5 r23_5a r23_5b r23_5c r23_5d r23_5e)) ?_
    obtain ⟨r26, hr26, hp⟩ := bind_some hp
    refine sx_ox' (ox_calln' (ent_inv' rfl rfl (inv_pt0 inv73_Layout)) (gogeom_geom0_Layout_v2_sim _ _ _ _ _ hr26 : Sx.Fn Try.prog 134 [(Pt [(Vi r23_5a), (Vi r23_5b), (Sl Kf r23_5c), (Vi r23_5d), (Sl (Ki .i64) r23_5e)])] [] (fun x : Unit => (Vi r26)) (fun x => [])) (Hn := fun x : Unit => []) (fun _ => rfl) rfl rfl) (wt_none' rfl) fun ⟨⟩ => ?_
    refine s0 (rd_assign' rfl) ?_
    refine nk hK25 ?_
    refine cr fun K26 hK26 => ?_
    refine s0 (rd_move' rfl) ?_
    refine nk hK26 ?_
    refine cx_block' ?_
    refine cr fun K27 hK27 => ?_
    refine s0 (rd_bin' rfl rfl eg_int ru_eql) ?_
    refine s0 (rd_assign' rfl) ?_
    refine nk hK27 ?_
    refine cx_cond' rfl (fun h10 => ?_) (fun h10 => ?_)
    ·replace hp := (br_t h10).symm.trans hp
     refine cr fun K28 hK28 => ?_
     refine s0 (rd_move' rfl) ?_
     refine s0 (rd_bin' rfl rfl eg_int ru_eql) ?_
     refine nk hK28 ?_
     refine cx_cond' rfl (fun h15 => ?_) (fun h15 => ?_)
     ·replace hp := (br_t h15).symm.trans hp
      refine cx_region' ?_
      refine s0 (rd_assign' rfl) ?_
      refine sx_nil' ?_
      show TX E K23 _
      exact tx_pick' [] (sub_cons rfl (sub_cons rfl (sub_cons rfl (sub_cons rfl sub_nil)))) (by decide) pick_nil (hK23 4 hp)
     replace hp := (br_f h15).symm.trans hp
     refine cr fun K29 hK29 => ?_
     refine s0 (rd_move' rfl) ?_
     refine s0 (rd_move' rfl) ?_
     refine s0 (rd_bin' rfl rfl eg_int ru_gtr) ?_
     refine nk hK29 ?_
     refine cx_cond' rfl (fun h11 => ?_) (fun h11 => ?_)
     ·replace hp := (br_t h11).symm.trans hp
      refine cx_region' ?_
      refine s0 (rd_move' rfl) ?_
      refine s0 (rd_assign' rfl) ?_
      refine sx_nil' ?_
      show TX E K23 _
      exact tx_pick' [] (sub_cons rfl (sub_cons rfl (sub_cons rfl (sub_cons rfl sub_nil)))) (by decide) pick_nil (hK23 r26 hp)
     replace hp := (br_f h11).symm.trans hp
     refine cx_skip' ?_
     show TX E K23 _
     exact tx_pick' [] (sub_cons rfl (sub_cons rfl (sub_cons rfl (sub_cons rfl sub_nil)))) (by decide) pick_nil (hK23 x3 hp)
    replace hp := (br_f h10).symm.trans hp
    refine cr fun K30 hK30 => ?_
    refine s0 (rd_bin' rfl rfl eg_int ru_eql) ?_
    refine s0 (rd_assign' rfl) ?_
    refine nk hK30 ?_
    refine cx_cond' rfl (fun h12 => ?_) (fun h12 => ?_)
    ·replace hp := (br_t h12).symm.trans hp
     refine cr fun K31 hK31 => ?_
     refine s0 (rd_move' rfl) ?_
     refine s0 (rd_bin' rfl rfl eg_int ru_eql) ?_
     refine nk hK31 ?_
     refine cx_cond' rfl (fun h16 => ?_) (fun h16 => ?_)
     ·replace hp := (br_t h16).symm.trans hp
      refine cx_region' ?_
      refine s0 (rd_assign' rfl) ?_
      refine sx_nil' ?_
      show TX E K23 _
      exact tx_pick' [] (sub_cons rfl (sub_cons rfl (sub_cons rfl (sub_cons rfl sub_nil)))) (by decide) pick_nil (hK23 4 hp)
     replace hp := (br_f h16).symm.trans hp
     refine cr fun K32 hK32 => ?_
     refine s0 (rd_move' rfl) ?_
     refine s0 (rd_move' rfl) ?_
     refine s0 (rd_bin' rfl rfl eg_int ru_gtr) ?_
     refine nk hK32 ?_
     refine cx_cond' rfl (fun h13 => ?_) (fun h13 => ?_)
     ·replace hp := (br_t h13).symm.trans hp
      refine cx_region' ?_
      refine s0 (rd_move' rfl) ?_
      refine s0 (rd_assign' rfl) ?_
      refine sx_nil' ?_
      show TX E K23 _
      exact tx_pick' [] (sub_cons rfl (sub_cons rfl (sub_cons rfl (sub_cons rfl sub_nil)))) (by decide) pick_nil (hK23 r26 hp)
     replace hp := (br_f h13).symm.trans hp
     refine cx_skip' ?_
     show TX E K23 _
     exact tx_pick' [] (sub_cons rfl (sub_cons rfl (sub_cons rfl (sub_cons rfl sub_nil)))) (by decide) pick_nil (hK23 x3 hp)
    replace hp := (br_f h12).symm.trans hp
    refine cr fun K33 hK33 => ?_
    refine s0 (rd_move' rfl) ?_
    refine s0 (rd_move' rfl) ?_
    refine s0 (rd_bin' rfl rfl eg_int ru_gtr) ?_
    refine nk hK33 ?_
    refine cx_cond' rfl (fun h14 => ?_) (fun h14 => ?_)
    ·replace hp := (br_t h14).symm.trans hp
     refine cx_region' ?_
     refine s0 (rd_move' rfl) ?_
     refine s0 (rd_assign' rfl) ?_
     refine sx_nil' ?_
     show TX E K23 _
     exact tx_pick' [] (sub_cons rfl (sub_cons rfl (sub_cons rfl (sub_cons rfl sub_nil)))) (by decide) pick_nil (hK23 r26 hp)
    replace hp := (br_f h14).symm.trans hp
    refine cx_skip' ?_
    show TX E K23 _
    exact tx_pick' [] (sub_cons rfl (sub_cons rfl (sub_cons rfl (sub_cons rfl sub_nil)))) (by decide) pick_nil (hK23 x3 hp)
   ·dsimp only at hp
    refine tx_slot' 24 (y := (If 76 (Pt [(Vi r23_6a), (Vi r23_6b), (Sl Kf r23_6c), (Vi r23_6d), (Sl (Kl (Ki .i64)) r23_6e)]))) rfl (imp_eq (SG53_c6 r23_6a r23_6b r23_6c r23_6d r23_6e)) ?_
    refine tx_slot' 5 (y := (If 76 (Pt [(Vi r23_6a), (Vi r23_6b), (Sl Kf r23_6c), (Vi r23_6d), (Sl (Kl (Ki .i64)) r23_6e)]))) rfl (imp_eq (SG53_c6 r23_6a r23_6b r23_6c r23_6d r23_6e)) ?_
    refine tx_slot' 25 (y := (If 76 (Pt [(Vi r23_6a), (Vi r23_6b), (Sl Kf r23_6c), (Vi r23_6d), (Sl (Kl (Ki .i64)) r23_6e)]))) rfl (imp_eq (SG53_c6 r23_6a r23_6b r23_6c r23_6d r23_6e)) ?_
    obtain ⟨r26, hr26, hp⟩ := bind_some hp
    refine sx_ox' (ox_calln' (ent_inv' rfl rfl (inv_pt0 inv76_Layout)) (gogeom_geom0_Layout_v3_sim _ _ _ _ _ hr26 : Sx.Fn Try.prog 134 [(Pt [(Vi r23_6a), (Vi r23_6b), (Sl Kf r23_6c), (Vi r23_6d), (Sl (Kl (Ki .i64)) r23_6e)])] [] (fun x : Unit => (Vi r26)) (fun x => [])) (Hn := fun x : Unit => []) (fun _ => rfl) rfl rfl) (wt_none' rfl) fun ⟨⟩ => ?_
    refine s0 (rd_assign' rfl) ?_
    refine nk hK25 ?_
    refine cr fun K26 hK26 => ?_
    refine s0 (rd_move' rfl) ?_
    refine nk hK26 ?_
    refine cx_block' ?_
    refine cr fun K27 hK27 => ?_
    refine s0 (rd_bin' rfl rfl eg_int ru_eql) ?_
    refine s0 (rd_assign' rfl) ?_
    refine nk hK27 ?_
    refine cx_cond' rfl (fun h10 => ?_) (fun h10 => ?_)
    ·replace hp := (br_t h10).symm.trans hp
     refine cr fun K28 hK28 => ?_
     refine s0 (rd_move' rfl) ?_
     refine s0 (rd_bin' rfl rfl eg_int ru_eql) ?_
     refine nk hK28 ?_
     refine cx_cond' rfl (fun h15 => ?_) (fun h15 => ?_)
     ·replace hp := (br_t h15).symm.trans hp
      refine cx_region' ?_
      refine s0 (rd_assign' rfl) ?_
      refine sx_nil' ?_
      show TX E K23 _
      exact tx_pick' [] (sub_cons rfl (sub_cons rfl (sub_cons rfl (sub_cons rfl sub_nil)))) (by decide) pick_nil (hK23 4 hp)
     replace hp := (br_f h15).symm.trans hp
     refine cr fun K29 hK29 => ?_
     refine s0 (rd_move' rfl) ?_
     refine s0 (rd_move' rfl) ?_
     refine s0 (rd_bin' rfl rfl eg_int ru_gtr) ?_
     refine nk hK29 ?_
     refine cx_cond' rfl (fun h11 => ?_) (fun h11 => ?_)
     ·replace hp := (br_t h11).symm.trans hp
      refine cx_region' ?_
      refine s0 (rd_move' rfl) ?_
      refine s0 (rd_assign' rfl) ?_
      refine sx_nil' ?_
      show TX E K23 _
      exact tx_pick' [] (sub_cons rfl (sub_cons rfl (sub_cons rfl (sub_cons rfl sub_nil)))) (by decide) pick_nil (hK23 r26 hp)
     replace hp := (br_f h11).symm.trans hp
     refine cx_skip' ?_
     show TX E K23 _
     exact tx_pick' [] (sub_cons rfl (sub_cons rfl (sub_cons rfl (sub_cons rfl sub_nil)))) (by decide) pick_nil (hK23 x3 hp)
    replace hp := (br_f h10).symm.trans hp
    refine cr fun K30 hK30 => ?_
    refine s0 (rd_bin' rfl rfl eg_int ru_eql) ?_
    refine s0 (rd_assign' rfl) ?_
    refine nk hK30 ?_
    refine cx_cond' rfl (fun h12 => ?_) (fun h12 => ?_)
    ·replace hp := (br_t h12).symm.trans hp
     refine cr fun K31 hK31 => ?_
     refine s0 (rd_move' rfl) ?_
     refine s0 (rd_bin' rfl rfl eg_int ru_eql) ?_
     refine nk hK31 ?_
     refine cx_cond' rfl (fun h16 => ?_) (fun h16 => ?_)
     ·replace hp := (br_t h16).symm.trans hp
      refine cx_region' ?_
      refine s0 (rd_assign' rfl) ?_
      refine sx_nil' ?_
      show TX E K23 _
      exact tx_pick' [] (sub_cons rfl (sub_cons rfl (sub_cons rfl (sub_cons rfl sub_nil)))) (by decide) pick_nil (hK23 4 hp)
     replace hp := (br_f h16).symm.trans hp
     refine cr fun K32 hK32 => ?_
     refine s0 (rd_move' rfl) ?_
     refine s0 (rd_move' rfl) ?_
     refine s0 (rd_bin' rfl rfl eg_int ru_gtr) ?_
     refine nk hK32 ?_
     refine cx_cond' rfl (fun h13 => ?_) (fun h13 => ?_)
     ·replace hp := (br_t h13).symm.trans hp
      refine cx_region' ?_
      refine s0 (rd_move' rfl) ?_
      refine s0 (rd_assign' rfl) ?_
      refine sx_nil' ?_
      show TX E K23 _
      exact tx_pick' [] (sub_cons rfl (sub_cons rfl (sub_cons rfl (sub_cons rfl sub_nil)))) (by decide) pick_nil (hK23 r26 hp)
     replace hp := (br_f h13).symm.trans hp
     refine cx_skip' ?_
     show TX E K23 _
     exact tx_pick' [] (sub_cons rfl (sub_cons rfl (sub_cons rfl (sub_cons rfl sub_nil)))) (by decide) pick_nil (hK23 x3 hp)
    replace hp := (br_f h12).symm.trans hp
    refine cr fun K33 hK33 => ?_
    refine s0 (rd_move' rfl) ?_
    refine s0 (rd_move' rfl) ?_
    refine s0 (rd_bin' rfl rfl eg_int ru_gtr) ?_
    refine nk hK33 ?_
    refine cx_cond' rfl (fun h14 => ?_) (fun h14 => ?_)
    ·replace hp := (br_t h14).symm.trans hp
     refine cx_region' ?_
     refine s0 (rd_move' rfl) ?_
     refine s0 (rd_assign' rfl) ?_
     refine sx_nil' ?_
     show TX E K23 _
     exact tx_pick' [] (sub_cons rfl (sub_cons rfl (sub_cons rfl (sub_cons rfl sub_nil)))) (by decide) pick_nil (hK23 r26 hp)
    replace hp := (br_f h14).symm.trans hp
    refine cx_skip' ?_
    show TX E K23 _
    exact tx_pick' [] (sub_cons rfl (sub_cons rfl (sub_cons rfl (sub_cons rfl sub_nil)))) (by decide) pick_nil (hK23 x3 hp)
   dsimp only at hp
   refine tx_slot' 24 (y := (If 57 (Pt [(Vi r23_7a), (Sl KG53 r23_7b), (Vi r23_7c)]))) rfl (imp_eq (SG53_c7 r23_7a r23_7b r23_7c)) ?_
   refine tx_slot' 5 (y := (If 57 (Pt [(Vi r23_7a), (Sl KG53 r23_7b), (Vi r23_7c)]))) rfl (imp_eq (SG53_c7 r23_7a r23_7b r23_7c)) ?_
   refine tx_slot' 25 (y := (If 57 (Pt [(Vi r23_7a), (Sl KG53 r23_7b), (Vi r23_7c)]))) rfl (imp_eq (SG53_c7 r23_7a r23_7b r23_7c)) ?_
   obtain ⟨r26, hr26, hp⟩ := bind_some hp
   refine sx_ox' (ox_calln' (ent_inv' rfl rfl (inv_any0 inv57_Layout)) (hrec _ _ _ _ hr26 : Sx.Fn Try.prog 125 [(Pt [(Vi r23_7a), (Sl KG53 r23_7b), (Vi r23_7c)])] [] (fun x : Unit => (Vi r26)) (fun x => [])) (Hn := fun x : Unit => []) (fun _ => rfl) rfl rfl) (wt_none' rfl) fun ⟨⟩ => ?_
   refine s0 (rd_assign' rfl) ?_
   refine nk hK25 ?_
   refine cr fun K26 hK26 => ?_
   refine s0 (rd_move' rfl) ?_
   refine nk hK26 ?_
   refine cx_block' ?_
   refine cr fun K27 hK27 => ?_
   refine s0 (rd_bin' rfl rfl eg_int ru_eql) ?_
   refine s0 (rd_assign' rfl) ?_
   refine nk hK27 ?_
   refine cx_cond' rfl (fun h10 => ?_) (fun h10 => ?_)
   ·replace hp := (br_t h10).symm.trans hp
    refine cr fun K28 hK28 => ?_
    refine s0 (rd_move' rfl) ?_
    refine s0 (rd_bin' rfl rfl eg_int ru_eql) ?_
    refine nk hK28 ?_
    refine cx_cond' rfl (fun h15 => ?_) (fun h15 => ?_)
    ·replace hp := (br_t h15).symm.trans hp
     refine cx_region' ?_
     refine s0 (rd_assign' rfl) ?_
     refine sx_nil' ?_
     show TX E K23 _
     exact tx_pick' [] (sub_cons rfl (sub_cons rfl (sub_cons rfl (sub_cons rfl sub_nil)))) (by decide) pick_nil (hK23 4 hp)
    replace hp := (br_f h15).symm.trans hp
    refine cr fun K29 hK29 => ?_
    refine s0 (rd_move' rfl) ?_
    refine s0 (rd_move' rfl) ?_
    refine s0 (rd_bin' rfl rfl eg_int ru_gtr) ?_
    refine nk hK29 ?_
    refine cx_cond' rfl (fun h11 => ?_) (fun h11 => ?_)
    ·replace hp := (br_t h11).symm.trans hp
     refine cx_region' ?_
     refine s0 (rd_move' rfl) ?_
     refine s0 (rd_assign' rfl) ?_
     refine sx_nil' ?_
     show TX E K23 _
     exact tx_pick' [] (sub_cons rfl (sub_cons rfl (sub_cons rfl (sub_cons rfl sub_nil)))) (by decide) pick_nil (hK23 r26 hp)
    replace hp := (br_f h11).symm.trans hp
    refine cx_skip' ?_
    show TX E K23 _
    exact tx_pick' [] (sub_cons rfl (sub_cons rfl (sub_cons rfl (sub_cons rfl sub_nil)))) (by decide) pick_nil (hK23 x3 hp)
   replace hp := (br_f h10).symm.trans hp
   refine cr fun K30 hK30 => ?_
   refine s0 (rd_bin' rfl rfl eg_int ru_eql) ?_
   refine s0 (rd_assign' rfl) ?_
   refine nk hK30 ?_
   refine cx_cond' rfl (fun h12 => ?_) (fun h12 => ?_)
   ·replace hp := (br_t h12).symm.trans hp
    refine cr fun K31 hK31 => ?_
    refine s0 (rd_move' rfl) ?_
    refine s0 (rd_bin' rfl rfl eg_int ru_eql) ?_
    refine nk hK31 ?_
    refine cx_cond' rfl (fun h16 => ?_) (fun h16 => ?_)
    ·replace hp := (br_t h16).symm.trans hp
     refine cx_region' ?_
     refine s0 (rd_assign' rfl) ?_
     refine sx_nil' ?_
     show TX E K23 _
     exact tx_pick' [] (sub_cons rfl (sub_cons rfl (sub_cons rfl (sub_cons rfl sub_nil)))) (by decide) pick_nil (hK23 4 hp)
    replace hp := (br_f h16).symm.trans hp
    refine cr fun K32 hK32 => ?_
    refine s0 (rd_move' rfl) ?_
    refine s0 (rd_move' rfl) ?_
    refine s0 (rd_bin' rfl rfl eg_int ru_gtr) ?_
    refine nk hK32 ?_
    refine cx_cond' rfl (fun h13 => ?_) (fun h13 => ?_)
    ·replace hp := (br_t h13).symm.trans hp
     refine cx_region' ?_
     refine s0 (rd_move' rfl) ?_
     refine s0 (rd_assign' rfl) ?_
     refine sx_nil' ?_
     show TX E K23 _
     exact tx_pick' [] (sub_cons rfl (sub_cons rfl (sub_cons rfl (sub_cons rfl sub_nil)))) (by decide) pick_nil (hK23 r26 hp)
    replace hp := (br_f h13).symm.trans hp
    refine cx_skip' ?_
    show TX E K23 _
    exact tx_pick' [] (sub_cons rfl (sub_cons rfl (sub_cons rfl (sub_cons rfl sub_nil)))) (by decide) pick_nil (hK23 x3 hp)
   replace hp := (br_f h12).symm.trans hp
   refine cr fun K33 hK33 => ?_
   refine s0 (rd_move' rfl) ?_
   refine s0 (rd_move' rfl) ?_
   refine s0 (rd_bin' rfl rfl eg_int ru_gtr) ?_
   refine nk hK33 ?_
   refine cx_cond' rfl (fun h14 => ?_) (fun h14 => ?_)
   ·replace hp := (br_t h14).symm.trans hp
    refine cx_region' ?_
    refine s0 (rd_move' rfl) ?_
    refine s0 (rd_assign' rfl) ?_
    refine sx_nil' ?_
    show TX E K23 _
    exact tx_pick' [] (sub_cons rfl (sub_cons rfl (sub_cons rfl (sub_cons rfl sub_nil)))) (by decide) pick_nil (hK23 r26 hp)
   replace hp := (br_f h14).symm.trans hp
   refine cx_skip' ?_
   show TX E K23 _
   exact tx_pick' [] (sub_cons rfl (sub_cons rfl (sub_cons rfl (sub_cons rfl sub_nil)))) (by decide) pick_nil (hK23 x3 hp)
  replace hp := (br_f h9).symm.trans hp
  refine cx_exit' ?_
  replace hp := Option.some.inj hp
  subst hp
  show TX E (Zg E (Exit.exit 0) _ (Exit.exit 0)) _
  exact tx_zend' () rfl [] (sub_cons rfl sub_nil) (by decide) pick_nil
 refine zg_out fun w4 => ?_
 show TX E K6 _
 refine tx_k' hK6 ?_
 refine cr fun K34 hK34 => ?_
 refine s0 (rd_move' rfl) ?_
 refine s0 (rd_assign' rfl) ?_
 refine nk hK34 ?_
 refine cx_retc' ?_
 replace hp := Option.some.inj hp
 subst hp
 refine tx_pick' (L' := [(2, (Vi v4))]) (H' := []) [] (sub_cons rfl sub_nil) (by decide) pick_nil ?_
 exact tx_ret1' Try.results125 rfl () (rv_tmp' rfl) (List.Sublist.refl _)
theorem gogeom_GeometryCollection_Layout_simA : ∀ (k : Nat)  (a0_0 : Int) (a0_1 : List G53) (a0_2 : Int) (out : Int), gogeom_GeometryCollection_Layout k a0_0 a0_1 a0_2 = some out → Sx.Fn Try.prog 125 [(Pt [(Vi a0_0), (Sl KG53 a0_1), (Vi a0_2)])] [] (fun w : Unit => (Vi out)) (fun w => []) := by
 intro k
 induction k with
 | zero => intro a0_0 a0_1 a0_2 out hp; cases hp
 | succ k ih => intro a0_0 a0_1 a0_2 out hp; exact gogeom_GeometryCollection_Layout_b_sim ih a0_0 a0_1 a0_2 hp
theorem gogeom_GeometryCollection_Layout_sim {k : Nat}  (a0_0 : Int) (a0_1 : List G53) (a0_2 : Int) {out : Int} (hp : gogeom_GeometryCollection_Layout k a0_0 a0_1 a0_2 = some out) : Sx.Fn Try.prog 125 [(Pt [(Vi a0_0), (Sl KG53 a0_1), (Vi a0_2)])] [] (fun w : Unit => (Vi out)) (fun w => []) := gogeom_GeometryCollection_Layout_simA k a0_0 a0_1 a0_2 out hp

def gogeom_GeometryCollection_Push_j1 (k : Nat) (a1 : List G53) (a0_0 : Int) (a0_2 : Int) : Option ((Int × (List G53) × Int) ⊕ (Int × Int × Int)) :=
 (apd 16 [] a1) >>= fun r41 =>
 some (.inl (a0_0, r41, a0_2))
def gogeom_GeometryCollection_Push_l1s (a1 : List G53) (a0_0 : Int) (k : Nat) (rec1 : Int → Option (Int ⊕ Unit)) (x1 : Int) : Option (Int ⊕ Unit) :=
 br (decide (x1 < (a1.length : Int)))
  ((idx a1 x1) >>= fun r17 =>
  match r17 with
   | .c0 r17_0a r17_0b r17_0c r17_0d =>
    ((gogeom_geom0_Layout k r17_0a r17_0b r17_0c r17_0d) >>= fun r20 =>
    br (!decide (r20 = a0_0))
     (some (.inl r20))
     (rec1 (iadd .i64 x1 1)))
   | .c1 r17_1a r17_1b r17_1c r17_1d =>
    ((gogeom_geom0_Layout k r17_1a r17_1b r17_1c r17_1d) >>= fun r20 =>
    br (!decide (r20 = a0_0))
     (some (.inl r20))
     (rec1 (iadd .i64 x1 1)))
   | .c2 r17_2a r17_2b r17_2c r17_2d =>
    ((gogeom_geom0_Layout k r17_2a r17_2b r17_2c r17_2d) >>= fun r20 =>
    br (!decide (r20 = a0_0))
     (some (.inl r20))
     (rec1 (iadd .i64 x1 1)))
   | .c3 r17_3a r17_3b r17_3c r17_3d r17_3e =>
    ((gogeom_geom0_Layout_v2 k r17_3a r17_3b r17_3c r17_3d r17_3e) >>= fun r20 =>
    br (!decide (r20 = a0_0))
     (some (.inl r20))
     (rec1 (iadd .i64 x1 1)))
   | .c4 r17_4a r17_4b r17_4c r17_4d r17_4e =>
    ((gogeom_geom0_Layout_v2 k r17_4a r17_4b r17_4c r17_4d r17_4e) >>= fun r20 =>
    br (!decide (r20 = a0_0))
     (some (.inl r20))
     (rec1 (iadd .i64 x1 1)))
   | .c5 r17_5a r17_5b r17_5c r17_5d r17_5e =>
    ((gogeom_geom0_Layout_v2 k r17_5a r17_5b r17_5c r17_5d r17_5e) >>= fun r20 =>
    br (!decide (r20 = a0_0))
     (some (.inl r20))
     (rec1 (iadd .i64 x1 1)))
   | .c6 r17_6a r17_6b r17_6c r17_6d r17_6e =>
    ((gogeom_geom0_Layout_v3 k r17_6a r17_6b r17_6c r17_6d r17_6e) >>= fun r20 =>
    br (!decide (r20 = a0_0))
     (some (.inl r20))
     (rec1 (iadd .i64 x1 1)))
   | .c7 r17_7a r17_7b r17_7c =>
    ((gogeom_GeometryCollection_Layout k r17_7a r17_7b r17_7c) >>= fun r20 =>
    br (!decide (r20 = a0_0))
     (some (.inl r20))
     (rec1 (iadd .i64 x1 1))))
  (some (.inr ()))
def gogeom_GeometryCollection_Push_l1 (a1 : List G53) (a0_0 : Int) : Nat → Int → Option (Int ⊕ Unit)
 | 0, _ => none
 | k + 1, v => gogeom_GeometryCollection_Push_l1s a1 a0_0 k (gogeom_GeometryCollection_Push_l1 a1 a0_0 k) v
def gogeom_GeometryCollection_Push (k : Nat) (a0_0 : Int) (a0_2 : Int) (a1 : List G53) : Option ((Int × (List G53) × Int) ⊕ (Int × Int × Int)) :=
 br (!decide (a0_0 = 0))
  ((gogeom_GeometryCollection_Push_l1 a1 a0_0 k 0) >>= fun y1 => match y1 with
   | (.inl v2) =>
    (some (.inr (a0_0, a0_2, v2)))
   | (.inr v3) =>
    (gogeom_GeometryCollection_Push_j1 k a1 a0_0 a0_2))
  (gogeom_GeometryCollection_Push_j1 k a1 a0_0 a0_2)
def gogeom_GeometryCollection_Push_r (wa0 : Addr) (a0_0 : Int) (a0_2 : Int) (a1 : List G53) (out : (Int × (List G53) × Int) ⊕ (Int × Int × Int)) (w : Gs) : SV := match out with
 | (.inl y) => Ve
 | (.inr y) => (If 134 (Ag [(Vi y.2.2), (Vi y.1)]))
def gogeom_GeometryCollection_Push_h (wa0 : Addr) (a0_0 : Int) (a0_2 : Int) (a1 : List G53) (out : (Int × (List G53) × Int) ⊕ (Int × Int × Int)) (w : Gs) : List Res := match out with
 | (.inl y) => [⟨.pointer (some wa0), [(Vi y.1), (Vl (Vs w)), (Vi y.2.2)], 114, none⟩, (Rw KG53 53 (Vs w) y.2.1)]
 | (.inr y) => [⟨.pointer (some wa0), [(Vi y.1), Vn, (Vi y.2.1)], 114, none⟩]

def gogeom_GeometryCollection_MustPush (k : Nat) (a0_0 : Int) (a0_2 : Int) (a1 : List G53) : Option (Int × (List G53) × Int) :=
 (gogeom_GeometryCollection_Push k a0_0 a0_2 a1) >>= fun r8 =>
 match r8 with
  | (.inl y1) =>
   (some (y1.1, y1.2.1, y1.2.2))
  | (.inr y1) =>
   (none)

def gogeom_GeometryCollection_Push_v2_j1 (k : Nat) (a0_1 : List G53) (a1 : List G53) (a0_0 : Int) (a0_2 : Int) : Option ((Int × (List G53) × Int) ⊕ (Int × (List G53) × Int × Int)) :=
 (apd 16 a0_1 a1) >>= fun r41 =>
 some (.inl (a0_0, r41, a0_2))
def gogeom_GeometryCollection_Push_v2_l1s (a1 : List G53) (a0_0 : Int) (k : Nat) (rec1 : Int → Option (Int ⊕ Unit)) (x1 : Int) : Option (Int ⊕ Unit) :=
 br (decide (x1 < (a1.length : Int)))
  ((idx a1 x1) >>= fun r17 =>
  match r17 with
   | .c0 r17_0a r17_0b r17_0c r17_0d =>
    ((gogeom_geom0_Layout k r17_0a r17_0b r17_0c r17_0d) >>= fun r20 =>
    br (!decide (r20 = a0_0))
     (some (.inl r20))
     (rec1 (iadd .i64 x1 1)))
   | .c1 r17_1a r17_1b r17_1c r17_1d =>
    ((gogeom_geom0_Layout k r17_1a r17_1b r17_1c r17_1d) >>= fun r20 =>
    br (!decide (r20 = a0_0))
     (some (.inl r20))
     (rec1 (iadd .i64 x1 1)))
   | .c2 r17_2a r17_2b r17_2c r17_2d =>
    ((gogeom_geom0_Layout k r17_2a r17_2b r17_2c r17_2d) >>= fun r20 =>
    br (!decide (r20 = a0_0))
     (some (.inl r20))
     (rec1 (iadd .i64 x1 1)))
   | .c3 r17_3a r17_3b r17_3c r17_3d r17_3e =>
    ((gogeom_geom0_Layout_v2 k r17_3a r17_3b r17_3c r17_3d r17_3e) >>= fun r20 =>
    br (!decide (r20 = a0_0))
     (some (.inl r20))
     (rec1 (iadd .i64 x1 1)))
   | .c4 r17_4a r17_4b r17_4c r17_4d r17_4e =>
    ((gogeom_geom0_Layout_v2 k r17_4a r17_4b r17_4c r17_4d r17_4e) >>= fun r20 =>
    br (!decide (r20 = a0_0))
     (some (.inl r20))
     (rec1 (iadd .i64 x1 1)))
   | .c5 r17_5a r17_5b r17_5c r17_5d r17_5e =>
    ((gogeom_geom0_Layout_v2 k r17_5a r17_5b r17_5c r17_5d r17_5e) >>= fun r20 =>
    br (!decide (r20 = a0_0))
     (some (.inl r20))
     (rec1 (iadd .i64 x1 1)))
   | .c6 r17_6a r17_6b r17_6c r17_6d r17_6e =>
    ((gogeom_geom0_Layout_v3 k r17_6a r17_6b r17_6c r17_6d r17_6e) >>= fun r20 =>
    br (!decide (r20 = a0_0))
     (some (.inl r20))
     (rec1 (iadd .i64 x1 1)))
   | .c7 r17_7a r17_7b r17_7c =>
    ((gogeom_GeometryCollection_Layout k r17_7a r17_7b r17_7c) >>= fun r20 =>
    br (!decide (r20 = a0_0))
     (some (.inl r20))
     (rec1 (iadd .i64 x1 1))))
  (some (.inr ()))
def gogeom_GeometryCollection_Push_v2_l1 (a1 : List G53) (a0_0 : Int) : Nat → Int → Option (Int ⊕ Unit)
 | 0, _ => none
 | k + 1, v => gogeom_GeometryCollection_Push_v2_l1s a1 a0_0 k (gogeom_GeometryCollection_Push_v2_l1 a1 a0_0 k) v
def gogeom_GeometryCollection_Push_v2 (k : Nat) (a0_0 : Int) (a0_1 : List G53) (a0_2 : Int) (a1 : List G53) : Option ((Int × (List G53) × Int) ⊕ (Int × (List G53) × Int × Int)) :=
 br (!decide (a0_0 = 0))
  ((gogeom_GeometryCollection_Push_v2_l1 a1 a0_0 k 0) >>= fun y1 => match y1 with
   | (.inl v2) =>
    (some (.inr (a0_0, a0_1, a0_2, v2)))
   | (.inr v3) =>
    (gogeom_GeometryCollection_Push_v2_j1 k a0_1 a1 a0_0 a0_2))
  (gogeom_GeometryCollection_Push_v2_j1 k a0_1 a1 a0_0 a0_2)
def gogeom_GeometryCollection_Push_v2_r (wa0 : Addr) (wa0_1 : Gs) (a0_0 : Int) (a0_1 : List G53) (a0_2 : Int) (a1 : List G53) (out : (Int × (List G53) × Int) ⊕ (Int × (List G53) × Int × Int)) (w : Gs) : SV := match out with
 | (.inl y) => Ve
 | (.inr y) => (If 134 (Ag [(Vi y.2.2.2), (Vi y.1)]))
def gogeom_GeometryCollection_Push_v2_h (wa0 : Addr) (wa0_1 : Gs) (a0_0 : Int) (a0_1 : List G53) (a0_2 : Int) (a1 : List G53) (out : (Int × (List G53) × Int) ⊕ (Int × (List G53) × Int × Int)) (w : Gs) : List Res := match out with
 | (.inl y) => [⟨.pointer (some wa0), [(Vi y.1), (Vl (Vs w)), (Vi y.2.2)], 114, none⟩, (Rw KG53 53 (Vs w) y.2.1)]
 | (.inr y) => [⟨.pointer (some wa0), [(Vi y.1), (Vl (Vs wa0_1)), (Vi y.2.2.1)], 114, none⟩, (Rw KG53 53 (Vs wa0_1) y.2.1)]

theorem gogeom_GeometryCollection_Push_v2_sim {k : Nat} {wa0 : Addr} {wa0_1 : Gs} (a0_0 : Int) (a0_1 : List G53) (a0_2 : Int) (a1 : List G53) {out : (Int × (List G53) × Int) ⊕ (Int × (List G53) × Int × Int)} (hp : gogeom_GeometryCollection_Push_v2 k a0_0 a0_1 a0_2 a1 = some out) : Sx.Fn Try.prog 46 [(Vp wa0), (Sl KG53 a1)] [⟨.pointer (some wa0), [(Vi a0_0), (Vl (Vs wa0_1)), (Vi a0_2)], 114, none⟩, (Rw KG53 53 (Vs wa0_1) a0_1)] (fun w => gogeom_GeometryCollection_Push_v2_r wa0 wa0_1 a0_0 a0_1 a0_2 a1 out w) (fun w => gogeom_GeometryCollection_Push_v2_h wa0 wa0_1 a0_0 a0_1 a0_2 a1 out w) := by
 unfold gogeom_GeometryCollection_Push_v2 at hp
 refine fn_of Try.func46 rfl Try.ntmps46 rfl fun E hM => ?_
 refine cr fun K1 hK1 => ?_
 refine s0 (rd_assign' rfl) ?_
 refine nk hK1 ?_
 refine cx_join' (fun (v4 : Unit) => (⟨44, [], [(0, (Vp wa0)), (1, (Sl KG53 a1))], [⟨.pointer (some wa0), [(Vi a0_0), (Vl (Vs wa0_1)), (Vi a0_2)], 114, none⟩, (Rw KG53 53 (Vs wa0_1) a0_1)]⟩ : St)) (fun (v4 : Unit) => gogeom_GeometryCollection_Push_v2_j1 k a0_1 a1 a0_0 a0_2 = some out) ?_ ?_
 ·rintro ⟨⟩ hp
  replace hp : gogeom_GeometryCollection_Push_v2_j1 k a0_1 a1 a0_0 a0_2 = some out := hp
  unfold gogeom_GeometryCollection_Push_v2_j1 at hp
  refine cr fun K19 hK19 => ?_
  refine s0 (rd_move' rfl) ?_
  refine s0 (rd_move' rfl) ?_
  refine s0 (rd_nilck' rfl) ?_
  refine s0 (rd_field' (off := 1) rfl Try.underlying114 rfl info112 rfl) ?_
  refine s0 (rd_load' (i := 0) (o := 1) rfl ⟨rfl, rfl, rfl, rfl⟩ rfl flat112) ?_
  refine s0 (rd_move' rfl) ?_
  obtain ⟨r41, hr41, hp⟩ := bind_some hp
  refine sx_ox' (ox_append' (K := KG53) (i := 1) (xs := a0_1) (ys := a1) rfl rfl rfl (sr_sl' rfl Try.underlying112) hr41 Try.underlying112 info53 rfl rfl rfl (H' := [⟨.pointer (some wa0), [(Vi a0_0), (Vl (Vs wa0_1)), (Vi a0_2)], 114, none⟩]) rfl) (wt_none' rfl) fun g41 => ?_
  refine s0 (rd_nilck' rfl) ?_
  refine s0 (rd_field' (off := 1) rfl Try.underlying114 rfl info112 rfl) ?_
  refine sx_ox' (ox_store' (i := 1) (o := 1) rfl rfl (lv_vl rfl rfl) ⟨rfl, rfl, rfl, rfl⟩ rfl info112 rfl (H' := [(Rw KG53 53 (Vs g41) r41), ⟨.pointer (some wa0), [(Vi a0_0), (Vl (Vs g41)), (Vi a0_2)], 114, none⟩]) rfl) (wt_none' rfl) fun _ => ?_
  refine nk hK19 ?_
  refine cr fun K20 hK20 => ?_
  refine s0 (rd_assign' rfl) ?_
  refine nk hK20 ?_
  refine cx_retc' ?_
  replace hp := Option.some.inj hp
  subst hp
  refine tx_pick' (L' := [(4, Ve)]) (H' := [⟨.pointer (some wa0), [(Vi a0_0), (Vl (Vs g41)), (Vi a0_2)], 114, none⟩, (Rw KG53 53 (Vs g41) r41)]) [1, 0] (sub_cons rfl sub_nil) (by decide) (pick_cons rfl (pick_cons rfl pick_nil)) ?_
  exact tx_ret1' Try.results46 rfl g41 (rv_tmp' rfl) (List.Sublist.refl _)
 intro K2 hK2
 refine cr fun K3 hK3 => ?_
 refine s0 (rd_move' rfl) ?_
 refine s0 (rd_nilck' rfl) ?_
 refine s0 (rd_field0' rfl Try.underlying114 rfl info61 rfl) ?_
 refine s0 (rd_load' (i := 0) (o := 0) rfl ⟨rfl, rfl, rfl, rfl⟩ rfl flat61) ?_
 refine s0 (rd_bin' rfl rfl eg_int ru_neq) ?_
 refine nk hK3 ?_
 refine cx_cond' rfl (fun h1 => ?_) (fun h1 => ?_)
 ·replace hp := (br_t h1).symm.trans hp
  refine cr fun K4 hK4 => ?_
  refine s0 (rd_move' rfl) ?_
  refine s0 (rd_len' rfl Try.underlying112) ?_
  refine s0 (rd_move' rfl) ?_
  refine nk hK4 ?_
  refine cx_block' ?_
  obtain ⟨y1, hy1, hp⟩ := bind_some hp
  refine cx_loopg' (F := gogeom_GeometryCollection_Push_v2_l1 a1 a0_0) (G := fun k R v => gogeom_GeometryCollection_Push_v2_l1s a1 a0_0 k R v) (x := 0) (gh := ()) (fun (v1 : Int) (w1 : Unit) => (⟨44, [], [(0, (Vp wa0)), (1, (Sl KG53 a1)), (13, (Sl KG53 a1)), (14, (Vi (a1.length : Int))), (15, (Vi v1))], [⟨.pointer (some wa0), [(Vi a0_0), (Vl (Vs wa0_1)), (Vi a0_2)], 114, none⟩, (Rw KG53 53 (Vs wa0_1) a0_1)]⟩ : St)) (fun (y : Int ⊕ Unit) => match y with | (.inl v2) => Zg E Exit.ret (fun (w2 : Unit) => (⟨44, [], [(4, (If 134 (Ag [(Vi v2), (Vi a0_0)])))], [⟨.pointer (some wa0), [(Vi a0_0), (Vl (Vs wa0_1)), (Vi a0_2)], 114, none⟩, (Rw KG53 53 (Vs wa0_1) a0_1)]⟩ : St)) | (.inr v3) => Zg E (Exit.exit 0) (fun (w3 : Unit) => (⟨44, [], [(0, (Vp wa0)), (1, (Sl KG53 a1))], [⟨.pointer (some wa0), [(Vi a0_0), (Vl (Vs wa0_1)), (Vi a0_2)], 114, none⟩, (Rw KG53 53 (Vs wa0_1) a0_1)]⟩ : St))) (fun _ => rfl) (fun _ _ => rfl) ?_ hy1 (tx_to' rfl [0, 1] (sub_cons rfl (sub_cons rfl (sub_cons rfl (sub_cons rfl (sub_cons rfl sub_nil))))) (by decide) (pick_cons rfl (pick_cons rfl pick_nil))) ?_
  ·clear hp hy1
   clear y1
   intro k rec1 KY1 ih1
   rintro x1 ⟨⟩ y1 hp
   replace hp : gogeom_GeometryCollection_Push_v2_l1s a1 a0_0 k rec1 x1 = some y1 := hp
   unfold gogeom_GeometryCollection_Push_v2_l1s at hp
   refine cr fun K12 hK12 => ?_
   refine s0 (rd_bin' rfl rfl eg_int ru_lss) ?_
   refine nk hK12 ?_
   refine cx_seq' fun K13 hK13 => ?_
   refine cx_cond' rfl (fun h5 => ?_) (fun h5 => ?_)
   ·replace hp := (br_t h5).symm.trans hp
    refine cx_skip' ?_
    show TX E K13 _
    refine tx_k' hK13 ?_
    refine cx_seq' fun K14 hK14 => ?_
    refine cx_block' ?_
    refine cr fun K15 hK15 => ?_
    obtain ⟨r17, hr17, hp⟩ := bind_some hp
    refine s0 (rd_at' (K := KG53) rfl rfl hr17 Try.underlying112 info53) ?_
    refine s0 (rd_load_pt' rfl rfl flat53) ?_
    refine s0 (rd_assign' rfl) ?_
    refine nk hK15 ?_
    refine cr fun K16 hK16 => ?_
    refine s0 (rd_move' rfl) ?_
    rcases r17 with ⟨r17_0a, r17_0b, r17_0c, r17_0d⟩ | ⟨r17_1a, r17_1b, r17_1c, r17_1d⟩ | ⟨r17_2a, r17_2b, r17_2c, r17_2d⟩ | ⟨r17_3a, r17_3b, r17_3c, r17_3d, r17_3e⟩ | ⟨r17_4a, r17_4b, r17_4c, r17_4d, r17_4e⟩ | ⟨r17_5a, r17_5b, r17_5c, r17_5d, r17_5e⟩ | ⟨r17_6a, r17_6b, r17_6c, r17_6d, r17_6e⟩ | ⟨r17_7a, r17_7b, r17_7c⟩
    ·dsimp only at hp
     refine tx_slot' 18 (y := (If 72 (Pt [(Vi r17_0a), (Vi r17_0b), (Sl Kf r17_0c), (Vi r17_0d)]))) rfl (imp_eq (SG53_c0 r17_0a r17_0b r17_0c r17_0d)) ?_
     refine tx_slot' 6 (y := (If 72 (Pt [(Vi r17_0a), (Vi r17_0b), (Sl Kf r17_0c), (Vi r17_0d)]))) rfl (imp_eq (SG53_c0 r17_0a r17_0b r17_0c r17_0d)) ?_
     refine tx_slot' 19 (y := (If 72 (Pt [(Vi r17_0a), (Vi r17_0b), (Sl Kf r17_0c), (Vi r17_0d)]))) rfl (imp_eq (SG53_c0 r17_0a r17_0b r17_0c r17_0d)) ?_
     obtain ⟨r20, hr20, hp⟩ := bind_some hp
     refine sx_ox' (ox_calln' (ent_inv' rfl rfl (inv_pt0 inv72_Layout)) (gogeom_geom0_Layout_sim _ _ _ _ hr20 : Sx.Fn Try.prog 134 [(Pt [(Vi r17_0a), (Vi r17_0b), (Sl Kf r17_0c), (Vi r17_0d)])] [] (fun x : Unit => (Vi r20)) (fun x => [])) (Hn := fun x : Unit => [⟨.pointer (some wa0), [(Vi a0_0), (Vl (Vs wa0_1)), (Vi a0_2)], 114, none⟩, (Rw KG53 53 (Vs wa0_1) a0_1)]) (fun _ => rfl) rfl rfl) (wt_none' rfl) fun ⟨⟩ => ?_
     refine s0 (rd_assign' rfl) ?_
     refine nk hK16 ?_
     refine cr fun K17 hK17 => ?_
     refine s0 (rd_move' rfl) ?_
     refine s0 (rd_move' rfl) ?_
     refine s0 (rd_nilck' rfl) ?_
     refine s0 (rd_field0' rfl Try.underlying114 rfl info61 rfl) ?_
     refine s0 (rd_load' (i := 0) (o := 0) rfl ⟨rfl, rfl, rfl, rfl⟩ rfl flat61) ?_
     refine s0 (rd_bin' rfl rfl eg_int ru_neq) ?_
     refine nk hK17 ?_
     refine cx_cond' rfl (fun h6 => ?_) (fun h6 => ?_)
     ·replace hp := (br_t h6).symm.trans hp
      refine cr fun K18 hK18 => ?_
      refine s0 (rd_move' rfl) ?_
      refine s0 (rd_move' rfl) ?_
      refine s0 (rd_nilck' rfl) ?_
      refine s0 (rd_field0' rfl Try.underlying114 rfl info61 rfl) ?_
      refine s0 (rd_load' (i := 0) (o := 0) rfl ⟨rfl, rfl, rfl, rfl⟩ rfl flat61) ?_
      refine s0 (rd_build' (pls := [(0, 1), (1, 1)]) (qs := [(0, [(Vi r20)]), (1, [(Vi a0_0)])]) (r := [(Vi r20), (Vi a0_0)]) ⟨rfl, ⟨_, rfl, (lv_vl rfl rfl)⟩, ⟨rfl, ⟨_, rfl, (lv_vl rfl rfl)⟩, trivial⟩⟩ Try.underlying134 has134 places134 info134 rfl rfl rfl) ?_
      refine s0 (rd_iface' rfl ⟨_, Try.underlying134, fun _ h => (nomatch h)⟩) ?_
      refine s0 (rd_assign' rfl) ?_
      refine nk hK18 ?_
      refine cx_retc' ?_
      replace hp := Option.some.inj hp
      subst hp
      show TX E (Zg E Exit.ret _ Exit.ret) _
      exact tx_zend' () rfl [0, 1] (sub_cons rfl sub_nil) (by decide) (pick_cons rfl (pick_cons rfl pick_nil))
     replace hp := (br_f h6).symm.trans hp
     refine cx_skip' ?_
     show TX E K14 _
     refine tx_k' hK14 ?_
     refine cx_region' ?_
     refine s0 (rd_bin' rfl rfl eg_int ru_add) ?_
     refine s0 (rd_move' rfl) ?_
     refine sx_nil' ?_
     show TX E (KY1 _) _
     exact tx_pick' [0, 1] (sub_cons rfl (sub_cons rfl (sub_cons rfl (sub_cons rfl (sub_cons rfl sub_nil))))) (by decide) (pick_cons rfl (pick_cons rfl pick_nil)) (ih1 (iadd .i64 x1 1) () _ hp)
    ·dsimp only at hp
     refine tx_slot' 18 (y := (If 75 (Pt [(Vi r17_1a), (Vi r17_1b), (Sl Kf r17_1c), (Vi r17_1d)]))) rfl (imp_eq (SG53_c1 r17_1a r17_1b r17_1c r17_1d)) ?_
     refine tx_slot' 6 (y := (If 75 (Pt [(Vi r17_1a), (Vi r17_1b), (Sl Kf r17_1c), (Vi r17_1d)]))) rfl (imp_eq (SG53_c1 r17_1a r17_1b r17_1c r17_1d)) ?_
     refine tx_slot' 19 (y := (If 75 (Pt [(Vi r17_1a), (Vi r17_1b), (Sl Kf r17_1c), (Vi r17_1d)]))) rfl (imp_eq (SG53_c1 r17_1a r17_1b r17_1c r17_1d)) ?_
     obtain ⟨r20, hr20, hp⟩ := bind_some hp
     refine sx_ox' (ox_calln' (ent_inv' rfl rfl (inv_pt0 inv75_Layout)) (gogeom_geom0_Layout_sim _ _ _ _ hr20 : Sx.Fn Try.prog 134 [(Pt [(Vi r17_1a), (Vi r17_1b), (Sl Kf r17_1c), (Vi r17_1d)])] [] (fun x : Unit => (Vi r20)) (fun x => [])) (Hn := fun x : Unit => [⟨.pointer (some wa0), [(Vi a0_0), (Vl (Vs wa0_1)), (Vi a0_2)], 114, none⟩, (Rw KG53 53 (Vs wa0_1) a0_1)]) (fun _ => rfl) rfl rfl) (wt_none' rfl) fun ⟨⟩ => ?_
     refine s0 (rd_assign' rfl) ?_
     refine nk hK16 ?_
     refine cr fun K17 hK17 => ?_
     refine s0 (rd_move' rfl) ?_
     refine s0 (rd_move' rfl) ?_
     refine s0 (rd_nilck' rfl) ?_
     refine s0 (rd_field0' rfl Try.underlying114 rfl info61 rfl) ?_
     refine s0 (rd_load' (i := 0) (o := 0) rfl ⟨rfl, rfl, rfl, rfl⟩ rfl flat61) ?_
     refine s0 (rd_bin' rfl rfl eg_int ru_neq) ?_
     refine nk hK17 ?_
     refine cx_cond' rfl (fun h6 => ?_) (fun h6 => ?_)
     ·replace hp := (br_t h6).symm.trans hp
      refine cr fun K18 hK18 => ?_
      refine s0 (rd_move' rfl) ?_
      refine s0 (rd_move' rfl) ?_
      refine s0 (rd_nilck' rfl) ?_
      refine s0 (rd_field0' rfl Try.underlying114 rfl info61 rfl) ?_
      refine s0 (rd_load' (i := 0) (o := 0) rfl ⟨rfl, rfl, rfl, rfl⟩ rfl flat61) ?_
      refine s0 (rd_build' (pls := [(0, 1), (1, 1)]) (qs := [(0, [(Vi r20)]), (1, [(Vi a0_0)])]) (r := [(Vi r20), (Vi a0_0)]) ⟨rfl, ⟨_, rfl, (lv_vl rfl rfl)⟩, ⟨rfl, ⟨_, rfl, (lv_vl rfl rfl)⟩, trivial⟩⟩ Try.underlying134 has134 places134 info134 rfl rfl rfl) ?_
      refine s0 (rd_iface' rfl ⟨_, Try.underlying134, fun _ h => (nomatch h)⟩) ?_
      refine s0 (rd_assign' rfl) ?_
      refine nk hK18 ?_
      refine cx_retc' ?_
      replace hp := Option.some.inj hp
      subst hp
      show TX E (Zg E Exit.ret _ Exit.ret) _
      exact tx_zend' () rfl [0, 1] (sub_cons rfl sub_nil) (by decide) (pick_cons rfl (pick_cons rfl pick_nil))
     replace hp := (br_f h6).symm.trans hp
     refine cx_skip' ?_
     show TX E K14 _
     refine tx_k' hK14 ?_
     refine cx_region' ?_
     refine s0 (rd_bin' rfl rfl eg_int ru_add) ?_
     refine s0 (rd_move' rfl) ?_
     refine sx_nil' ?_
     show TX E (KY1 _) _
     exact tx_pick' [0, 1] (sub_cons rfl (sub_cons rfl (sub_cons rfl (sub_cons rfl (sub_cons rfl sub_nil))))) (by decide) (pick_cons rfl (pick_cons rfl pick_nil)) (ih1 (iadd .i64 x1 1) () _ hp)
    ·dsimp only at hp
     refine tx_slot' 18 (y := (If 69 (Pt [(Vi r17_2a), (Vi r17_2b), (Sl Kf r17_2c), (Vi r17_2d)]))) rfl (imp_eq (SG53_c2 r17_2a r17_2b r17_2c r17_2d)) ?_
     refine tx_slot' 6 (y := (If 69 (Pt [(Vi r17_2a), (Vi r17_2b), (Sl Kf r17_2c), (Vi r17_2d)]))) rfl (imp_eq (SG53_c2 r17_2a r17_2b r17_2c r17_2d)) ?_
     refine tx_slot' 19 (y := (If 69 (Pt [(Vi r17_2a), (Vi r17_2b), (Sl Kf r17_2c), (Vi r17_2d)]))) rfl (imp_eq (SG53_c2 r17_2a r17_2b r17_2c r17_2d)) ?_
     obtain ⟨r20, hr20, hp⟩ := bind_some hp
     refine sx_ox' (ox_calln' (ent_inv' rfl rfl (inv_pt0 inv69_Layout)) (gogeom_geom0_Layout_sim _ _ _ _ hr20 : Sx.Fn Try.prog 134 [(Pt [(Vi r17_2a), (Vi r17_2b), (Sl Kf r17_2c), (Vi r17_2d)])] [] (fun x : Unit => (Vi r20)) (fun x => [])) (Hn := fun x : Unit => [⟨.pointer (some wa0), [(Vi a0_0), (Vl (Vs wa0_1)), (Vi a0_2)], 114, none⟩, (Rw KG53 53 (Vs wa0_1) a0_1)]) (fun _ => rfl) rfl rfl) (wt_none' rfl) fun ⟨⟩ => ?_
     refine s0 (rd_assign' rfl) ?_
     refine nk hK16 ?_
     refine cr fun K17 hK17 => ?_
     refine s0 (rd_move' rfl) ?_
     refine s0 (rd_move' rfl) ?_
     refine s0 (rd_nilck' rfl) ?_
     refine s0 (rd_field0' rfl Try.underlying114 rfl info61 rfl) ?_
     refine s0 (rd_load' (i := 0) (o := 0) rfl ⟨rfl, rfl, rfl, rfl⟩ rfl flat61) ?_
     refine s0 (rd_bin' rfl rfl eg_int ru_neq) ?_
     refine nk hK17 ?_
     refine cx_cond' rfl (fun h6 => ?_) (fun h6 => ?_)
     ·replace hp := (br_t h6).symm.trans hp
      refine cr fun K18 hK18 => ?_
      refine s0 (rd_move' rfl) ?_
      refine s0 (rd_move' rfl) ?_
      refine s0 (rd_nilck' rfl) ?_
      refine s0 (rd_field0' rfl Try.underlying114 rfl info61 rfl) ?_
      refine s0 (rd_load' (i := 0) (o := 0) rfl ⟨rfl, rfl, rfl, rfl⟩ rfl flat61) ?_
      refine s0 (rd_build' (pls := [(0, 1), (1, 1)]) (qs := [(0, [(Vi r20)]), (1, [(Vi a0_0)])]) (r := [(Vi r20), (Vi a0_0)]) ⟨rfl, ⟨_, rfl, (lv_vl rfl rfl)⟩, ⟨rfl, ⟨_, rfl, (lv_vl rfl rfl)⟩, trivial⟩⟩ Try.underlying134 has134 places134 info134 rfl rfl rfl) ?_
      refine s0 (rd_iface' rfl ⟨_, Try.underlying134, fun _ h => (nomatch h)⟩) ?_
      refine s0 (rd_assign' rfl) ?_
      refine nk hK18 ?_
      refine cx_retc' ?_
      replace hp := Option.some.inj hp
      subst hp
      show TX E (Zg E Exit.ret _ Exit.ret) _
      exact tx_zend' () rfl [0, 1] (sub_cons rfl sub_nil) (by decide) (pick_cons rfl (pick_cons rfl pick_nil))
     replace hp := (br_f h6).symm.trans hp
     refine cx_skip' ?_
     show TX E K14 _
     refine tx_k' hK14 ?_
     refine cx_region' ?_
     refine s0 (rd_bin' rfl rfl eg_int ru_add) ?_
     refine s0 (rd_move' rfl) ?_
     refine sx_nil' ?_
     show TX E (KY1 _) _
     exact tx_pick' [0, 1] (sub_cons rfl (sub_cons rfl (sub_cons rfl (sub_cons rfl (sub_cons rfl sub_nil))))) (by decide) (pick_cons rfl (pick_cons rfl pick_nil)) (ih1 (iadd .i64 x1 1) () _ hp)
    ·dsimp only at hp
     refine tx_slot' 18 (y := (If 67 (Pt [(Vi r17_3a), (Vi r17_3b), (Sl Kf r17_3c), (Vi r17_3d), (Sl (Ki .i64) r17_3e)]))) rfl (imp_eq (SG53_c3 r17_3a r17_3b r17_3c r17_3d r17_3e)) ?_
     refine tx_slot' 6 (y := (If 67 (Pt [(Vi r17_3a), (Vi r17_3b), (Sl Kf r17_3c), (Vi r17_3d), (Sl (Ki .i64) r17_3e)]))) rfl (imp_eq (SG53_c3 r17_3a r17_3b r17_3c r17_3d r17_3e)) ?_
     refine tx_slot' 19 (y := (If 67 (Pt [(Vi r17_3a), (Vi r17_3b), (Sl Kf r17_3c), (Vi r17_3d), (Sl (Ki .i64) r17_3e)]))) rfl (imp_eq (SG53_c3 r17_3a r17_3b r17_3c r17_3d r17_3e)) ?_
     obtain ⟨r20, hr20, hp⟩ := bind_some hp
     refine sx_ox' (ox_calln' (ent_inv' rfl rfl (inv_pt0 inv67_Layout)) (gogeom_geom0_Layout_v2_sim _ _ _ _ _ hr20 : Sx.Fn Try.prog 134 [(Pt [(Vi r17_3a), (Vi r17_3b), (Sl Kf r17_3c), (Vi r17_3d), (Sl (Ki .i64) r17_3e)])] [] (fun x : Unit => (Vi r20)) (fun x => [])) (Hn := fun x : Unit => [⟨.pointer (some wa0), [(Vi a0_0), (Vl (Vs wa0_1)), (Vi a0_2)], 114, none⟩, (Rw KG53 53 (Vs wa0_1) a0_1)]) (fun _ => rfl) rfl rfl) (wt_none' rfl) fun ⟨⟩ => ?_
     refine s0 (rd_assign' rfl) ?_
     refine nk hK16 ?_
     refine cr fun K17 hK17 => ?_
     refine s0 (rd_move' rfl) ?_
     refine s0 (rd_move' rfl) ?_
     refine s0 (rd_nilck' rfl) ?_
     refine s0 (rd_field0' rfl Try.underlying114 rfl info61 rfl) ?_
     refine s0 (rd_load' (i := 0) (o := 0) rfl ⟨rfl, rfl, rfl, rfl⟩ rfl flat61) ?_
     refine s0 (rd_bin' rfl rfl eg_int ru_neq) ?_
     refine nk hK17 ?_
     refine cx_cond' rfl (fun h6 => ?_) (fun h6 => ?_)
     ·replace hp := (br_t h6).symm.trans hp
      refine cr fun K18 hK18 => ?_
      refine s0 (rd_move' rfl) ?_
      refine s0 (rd_move' rfl) ?_
      refine s0 (rd_nilck' rfl) ?_
      refine s0 (rd_field0' rfl Try.underlying114 rfl info61 rfl) ?_
      refine s0 (rd_load' (i := 0) (o := 0) rfl ⟨rfl, rfl, rfl, rfl⟩ rfl flat61) ?_
      refine s0 (rd_build' (pls := [(0, 1), (1, 1)]) (qs := [(0, [(Vi r20)]), (1, [(Vi a0_0)])]) (r := [(Vi r20), (Vi a0_0)]) ⟨rfl, ⟨_, rfl, (lv_vl rfl rfl)⟩, ⟨rfl, ⟨_, rfl, (lv_vl rfl rfl)⟩, trivial⟩⟩ Try.underlying134 has134 places134 info134 rfl rfl rfl) ?_
      refine s0 (rd_iface' rfl ⟨_, Try.underlying134, fun _ h => (nomatch h)⟩) ?_
      refine s0 (rd_assign' rfl) ?_
      refine nk hK18 ?_
      refine cx_retc' ?_
      replace hp := Option.some.inj hp
      subst hp
      show TX E (Zg E Exit.ret _ Exit.ret) _
      exact tx_zend' () rfl [0, 1] (sub_cons rfl sub_nil) (by decide) (pick_cons rfl (pick_cons rfl pick_nil))
     replace hp := (br_f h6).symm.trans hp
     refine cx_skip' ?_
     show TX E K14 _
     refine tx_k' hK14 ?_
     refine cx_region' ?_
     refine s0 (rd_bin' rfl rfl eg_int ru_add) ?_
     refine s0 (rd_move' rfl) ?_
     refine sx_nil' ?_
     show TX E (KY1 _) _
     exact tx_pick' [0, 1] (sub_cons rfl (sub_cons rfl (sub_cons rfl (sub_cons rfl (sub_cons rfl sub_nil))))) (by decide) (pick_cons rfl (pick_cons rfl pick_nil)) (ih1 (iadd .i64 x1 1) () _ hp)
    ·dsimp only at hp
     refine tx_slot' 18 (y := (If 70 (Pt [(Vi r17_4a), (Vi r17_4b), (Sl Kf r17_4c), (Vi r17_4d), (Sl (Ki .i64) r17_4e)]))) rfl (imp_eq (SG53_c4 r17_4a r17_4b r17_4c r17_4d r17_4e)) ?_
     refine tx_slot' 6 (y := (If 70 (Pt [(Vi r17_4a), (Vi r17_4b), (Sl Kf r17_4c), (Vi r17_4d), (Sl (Ki .i64) r17_4e)]))) rfl (imp_eq (SG53_c4 r17_4a r17_4b r17_4c r17_4d r17_4e)) ?_
     refine tx_slot' 19 (y := (If 70 (Pt [(Vi r17_4a), (Vi r17_4b), (Sl Kf r17_4c), (Vi r17_4d), (Sl (Ki .i64) r17_4e)]))) rfl (imp_eq (SG53_c4 r17_4a r17_4b r17_4c r17_4d r17_4e)) ?_
     obtain ⟨r20, hr20, hp⟩ := bind_some hp
     refine sx_ox' (ox_calln' (ent_inv' rfl rfl (inv_pt0 inv70_Layout)) (gogeom_geom0_Layout_v2_sim _ _ _ _ _ hr20 : Sx.Fn Try.prog 134 [(Pt [(Vi r17_4a), (Vi r17_4b), (Sl Kf r17_4c), (Vi r17_4d), (Sl (Ki .i64) r17_4e)])] [] (fun x : Unit => (Vi r20)) (fun x => [])) (Hn := fun x : Unit => [⟨.pointer (some wa0), [(Vi a0_0), (Vl (Vs wa0_1)), (Vi a0_2)], 114, none⟩, (Rw KG53 53 (Vs wa0_1) a0_1)]) (fun _ => rfl) rfl rfl) (wt_none' rfl) fun ⟨⟩ => ?_
     refine s0 (rd_assign' rfl) ?_
     refine nk hK16 ?_
     refine cr fun K17 hK17 => ?_
     refine s0 (rd_move' rfl) ?_
     refine s0 (rd_move' rfl) ?_
     refine s0 (rd_nilck' rfl) ?_
     refine s0 (rd_field0' rfl Try.underlying114 rfl info61 rfl) ?_
     refine s0 (rd_load' (i := 0) (o := 0) rfl ⟨rfl, rfl, rfl, rfl⟩ rfl flat61) ?_
     refine s0 (rd_bin' rfl rfl eg_int ru_neq) ?_
     refine nk hK17 ?_
     refine cx_cond' rfl (fun h6 => ?_) (fun h6 => ?_)
     ·replace hp := (br_t h6).symm.trans hp
      refine cr fun K18 hK18 => ?_
      refine s0 (rd_move' rfl) ?_
      refine s0 (rd_move' rfl) ?_
      refine s0 (rd_nilck' rfl) ?_
      refine s0 (rd_field0' rfl Try.underlying114 rfl info61 rfl) ?_
      refine s0 (rd_load' (i := 0) (o := 0) rfl ⟨rfl, rfl, rfl, rfl⟩ rfl flat61) ?_
      refine s0 (rd_build' (pls := [(0, 1), (1, 1)]) (qs := [(0, [(Vi r20)]), (1, [(Vi a0_0)])]) (r := [(Vi r20), (Vi a0_0)]) ⟨rfl, ⟨_, rfl, (lv_vl rfl rfl)⟩, ⟨rfl, ⟨_, rfl, (lv_vl rfl rfl)⟩, trivial⟩⟩ Try.underlying134 has134 places134 info134 rfl rfl rfl) ?_
      refine s0 (rd_iface' rfl ⟨_, Try.underlying134, fun _ h => (nomatch h)⟩) ?_
      refine s0 (rd_assign' rfl) ?_
      refine nk hK18 ?_
      refine cx_retc' ?_
      replace hp := Option.some.inj hp
      subst hp
      show TX E (Zg E Exit.ret _ Exit.ret) _
      exact tx_zend' () rfl [0, 1] (sub_cons rfl sub_nil) (by decide) (pick_cons rfl (pick_cons rfl pick_nil))
     replace hp := (br_f h6).symm.trans hp
     refine cx_skip' ?_
     show TX E K14 _
     refine tx_k' hK14 ?_
     refine cx_region' ?_
     refine s0 (rd_bin' rfl rfl eg_int ru_add) ?_
     refine s0 (rd_move' rfl) ?_
     refine sx_nil' ?_
     show TX E (KY1 _) _
     exact tx_pick' [0, 1] (sub_cons rfl (sub_cons rfl (sub_cons rfl (sub_cons rfl (sub_cons rfl sub_nil))))) (by decide) (pick_cons rfl (pick_cons rfl pick_nil)) (ih1 (iadd .i64 x1 1) () _ hp)
    ·dsimp only at hp
     refine tx_slot' 18 (y := (If 73 (Pt [(Vi r17_5a), (Vi r17_5b), (Sl Kf r17_5c), (Vi r17_5d), (Sl (Ki .i64) r17_5e)]))) rfl (imp_eq (SG53_c5 r17_5a r17_5b r17_5c r17_5d r17_5e)) ?_
     refine tx_slot' 6 (y := (If 73 (Pt [(Vi r17_5a), (Vi r17_5b), (Sl Kf r17_5c), (Vi r17_5d), (Sl (Ki .i64) r17_5e)]))) rfl (imp_eq (SG53_c5 r17_5a r17_5b r17_5c r17_5d r17_5e)) ?_
     refine tx_slot' 19 (y := (If 73 (Pt [(Vi r17_5a), (Vi r17_5b), (Sl Kf r17_5c), (Vi r17_5d), (Sl (Ki .i64) r17_5e)]))) rfl (imp_eq (SG53_c5 r17_5a r17_5b r17_5c r17_5d r17_5e)) ?_
     obtain ⟨r20, hr20, hp⟩ := bind_some hp
     refine sx_ox' (ox_calln' (ent_inv' rfl rfl (inv_pt0 inv73_Layout)) (gogeom_geom0_Layout_v2_sim _ _ _ _ _ hr20 : Sx.Fn Try.prog 134 [(Pt [(Vi r17_5a), (Vi r17_5b), (Sl Kf r17_5c), (Vi r17_5d), (Sl (Ki .i64) r17_5e)])] [] (fun x : Unit => (Vi r20)) (fun x => [])) (Hn := fun x : Unit => [⟨.pointer (some wa0), [(Vi a0_0), (Vl (Vs wa0_1)), (Vi a0_2)], 114, none⟩, (Rw KG53 53 (Vs wa0_1) a0_1)]) (fun _ => rfl) rfl rfl) (wt_none' rfl) fun ⟨⟩ => ?_
     refine s0 (rd_assign' rfl) ?_
     refine nk hK16 ?_
     refine cr fun K17 hK17 => ?_
     refine s0 (rd_move' rfl) ?_
     refine s0 (rd_move' rfl) ?_
     refine s0 (rd_nilck' rfl) ?_
     refine s0 (rd_field0' rfl Try.underlying114 rfl info61 rfl) ?_
     refine s0 (rd_load' (i := 0) (o := 0) rfl ⟨rfl, rfl, rfl, rfl⟩ rfl flat61) ?_
     refine s0 (rd_bin' rfl rfl eg_int ru_neq) ?_
     refine nk hK17 ?_
     refine cx_cond' rfl (fun h6 => ?_) (fun h6 => ?_)
     ·replace hp := (br_t h6).symm.trans hp
      refine cr fun K18 hK18 => ?_
      refine s0 (rd_move' rfl) ?_
      refine s0 (rd_move' rfl) ?_
      refine s0 (rd_nilck' rfl) ?_
      refine s0 (rd_field0' rfl Try.underlying114 rfl info61 rfl) ?_
      refine s0 (rd_load' (i := 0) (o := 0) rfl ⟨rfl, rfl, rfl, rfl⟩ rfl flat61) ?_
      refine s0 (rd_build' (pls := [(0, 1), (1, 1)]) (qs := [(0, [(Vi r20)]), (1, [(Vi a0_0)])]) (r := [(Vi r20), (Vi a0_0)]) ⟨rfl, ⟨_, rfl, (lv_vl rfl rfl)⟩, ⟨rfl, ⟨_, rfl, (lv_vl rfl rfl)⟩, trivial⟩⟩ Try.underlying134 has134 places134 info134 rfl rfl rfl) ?_
      refine s0 (rd_iface' rfl ⟨_, Try.underlying134, fun _ h => (nomatch h)⟩) ?_
      refine s0 (rd_assign' rfl) ?_
      refine nk hK18 ?_
      refine cx_retc' ?_
      replace hp := Option.some.inj hp
      subst hp
      show TX E (Zg E Exit.ret _ Exit.ret) _
      exact tx_zend' () rfl [0, 1] (sub_cons rfl sub_nil) (by decide) (pick_cons rfl (pick_cons rfl pick_nil))
     replace hp := (br_f h6).symm.trans hp
     refine cx_skip' ?_
     show TX E K14 _
     refine tx_k' hK14 ?_
     refine cx_region' ?_
     refine s0 (rd_bin' rfl rfl eg_int ru_add) ?_
     refine s0 (rd_move' rfl) ?_
     refine sx_nil' ?_
     show TX E (KY1 _) _
     exact tx_pick' [0, 1] (sub_cons rfl (sub_cons rfl (sub_cons rfl (sub_cons rfl (sub_cons rfl sub_nil))))) (by decide) (pick_cons rfl (pick_cons rfl pick_nil)) (ih1 (iadd .i64 x1 1) () _ hp)
    ·dsimp only at hp
     refine tx_slot' 18 (y := (If 76 (Pt [(Vi r17_6a), (Vi r17_6b), (Sl Kf r17_6c), (Vi r17_6d), (Sl (Kl (Ki .i64)) r17_6e)]))) rfl (imp_eq (SG53_c6 r17_6a r17_6b r17_6c r17_6d r17_6e)) ?_
     refine tx_slot' 6 (y := (If 76 (Pt [(Vi r17_6a), (Vi r17_6b), (Sl Kf r17_6c), (Vi r17_6d), (Sl (Kl (Ki .i64)) r17_6e)]))) rfl (imp_eq (SG53_c6 r17_6a r17_6b r17_6c r17_6d r17_6e)) ?_
     refine tx_slot' 19 (y := (If 76 (Pt [(Vi r17_6a), (Vi r17_6b), (Sl Kf r17_6c), (Vi r17_6d), (Sl (Kl (Ki .i64)) r17_6e)]))) rfl (imp_eq (SG53_c6 r17_6a r17_6b r17_6c r17_6d r17_6e)) ?_
     obtain ⟨r20, hr20, hp⟩ := bind_some hp
     refine sx_ox' (ox_calln' (ent_inv' rfl rfl (inv_pt0 inv76_Layout)) (gogeom_geom0_Layout_v3_sim _ _ _ _ _ hr20 : Sx.Fn Try.prog 134 [(Pt [(Vi r17_6a), (Vi r17_6b), (Sl Kf r17_6c), (Vi r17_6d), (Sl (Kl (Ki .i64)) r17_6e)])] [] (fun x : Unit => (Vi r20)) (fun x => [])) (Hn := fun x : Unit => [⟨.pointer (some wa0), [(Vi a0_0), (Vl (Vs wa0_1)), (Vi a0_2)], 114, none⟩, (Rw KG53 53 (Vs wa0_1) a0_1)]) (fun _ => rfl) rfl rfl) (wt_none' rfl) fun ⟨⟩ => ?_
     refine s0 (rd_assign' rfl) ?_
     refine nk hK16 ?_
     refine cr fun K17 hK17 => ?_
     refine s0 (rd_move' rfl) ?_
     refine s0 (rd_move' rfl) ?_
     refine s0 (rd_nilck' rfl) ?_
     refine s0 (rd_field0' rfl Try.underlying114 rfl info61 rfl) ?_
     refine s0 (rd_load' (i := 0) (o := 0) rfl ⟨rfl, rfl, rfl, rfl⟩ rfl flat61) ?_
     refine s0 (rd_bin' rfl rfl eg_int ru_neq) ?_
     refine nk hK17 ?_
     refine cx_cond' rfl (fun h6 => ?_) (fun h6 => ?_)
     ·replace hp := (br_t h6).symm.trans hp
      refine cr fun K18 hK18 => ?_
      refine s0 (rd_move' rfl) ?_
      refine s0 (rd_move' rfl) ?_
      refine s0 (rd_nilck' rfl) ?_
      refine s0 (rd_field0' rfl Try.underlying114 rfl info61 rfl) ?_
      refine s0 (rd_load' (i := 0) (o := 0) rfl ⟨rfl, rfl, rfl, rfl⟩ rfl flat61) ?_
      refine s0 (rd_build' (pls := [(0, 1), (1, 1)]) (qs := [(0, [(Vi r20)]), (1, [(Vi a0_0)])]) (r := [(Vi r20), (Vi a0_0)]) ⟨rfl, ⟨_, rfl, (lv_vl rfl rfl)⟩, ⟨rfl, ⟨_, rfl, (lv_vl rfl rfl)⟩, trivial⟩⟩ Try.underlying134 has134 places134 info134 rfl rfl rfl) ?_
      refine s0 (rd_iface' rfl ⟨_, Try.underlying134, fun _ h => (nomatch h)⟩) ?_
      refine s0 (rd_assign' rfl) ?_
      refine nk hK18 ?_
      refine cx_retc' ?_
      replace hp := Option.some.inj hp
      subst hp
      show TX E (Zg E Exit.ret _ Exit.ret) _
      exact tx_zend' () rfl [0, 1] (sub_cons rfl sub_nil) (by decide) (pick_cons rfl (pick_cons rfl pick_nil))
     replace hp := (br_f h6).symm.trans hp
     refine cx_skip' ?_
     show TX E K14 _
     refine tx_k' hK14 ?_
     refine cx_region' ?_
     refine s0 (rd_bin' rfl rfl eg_int ru_add) ?_
     refine s0 (rd_move' rfl) ?_
     refine sx_nil' ?_
     show TX E (KY1 _) _
     exact tx_pick' [0, 1] (sub_cons rfl (sub_cons rfl (sub_cons rfl (sub_cons rfl (sub_cons rfl sub_nil))))) (by decide) (pick_cons rfl (pick_cons rfl pick_nil)) (ih1 (iadd .i64 x1 1) () _ hp)
    dsimp only at hp
    refine tx_slot' 18 (y := (If 57 (Pt [(Vi r17_7a), (Sl KG53 r17_7b), (Vi r17_7c)]))) rfl (imp_eq (SG53_c7 r17_7a r17_7b r17_7c)) ?_
    refine tx_slot' 6 (y := (If 57 (Pt [(Vi r17_7a), (Sl KG53 r17_7b), (Vi r17_7c)]))) rfl (imp_eq (SG53_c7 r17_7a r17_7b r17_7c)) ?_
    refine tx_slot' 19 (y := (If 57 (Pt [(Vi r17_7a), (Sl KG53 r17_7b), (Vi r17_7c)]))) rfl (imp_eq (SG53_c7 r17_7a r17_7b r17_7c)) ?_
    obtain ⟨r20, hr20, hp⟩ := bind_some hp
    refine sx_ox' (ox_calln' (ent_inv' rfl rfl (inv_any0 inv57_Layout)) (gogeom_GeometryCollection_Layout_sim _ _ _ hr20 : Sx.Fn Try.prog 125 [(Pt [(Vi r17_7a), (Sl KG53 r17_7b), (Vi r17_7c)])] [] (fun x : Unit => (Vi r20)) (fun x => [])) (Hn := fun x : Unit => [⟨.pointer (some wa0), [(Vi a0_0), (Vl (Vs wa0_1)), (Vi a0_2)], 114, none⟩, (Rw KG53 53 (Vs wa0_1) a0_1)]) (fun _ => rfl) rfl rfl) (wt_none' rfl) fun ⟨⟩ => ?_
    refine s0 (rd_assign' rfl) ?_
    refine nk hK16 ?_
    refine cr fun K17 hK17 => ?_
    refine s0 (rd_move' rfl) ?_
    refine s0 (rd_move' rfl) ?_
    refine s0 (rd_nilck' rfl) ?_
    refine s0 (rd_field0' rfl Try.underlying114 rfl info61 rfl) ?_
    refine s0 (rd_load' (i := 0) (o := 0) rfl ⟨rfl, rfl, rfl, rfl⟩ rfl flat61) ?_
    refine s0 (rd_bin' rfl rfl eg_int ru_neq) ?_
    refine nk hK17 ?_
    refine cx_cond' rfl (fun h6 => ?_) (fun h6 => ?_)
    ·replace hp := (br_t h6).symm.trans hp
     refine cr fun K18 hK18 => ?_
     refine s0 (rd_move' rfl) ?_
     refine s0 (rd_move' rfl) ?_
     refine s0 (rd_nilck' rfl) ?_
     refine s0 (rd_field0' rfl Try.underlying114 rfl info61 rfl) ?_
     refine s0 (rd_load' (i := 0) (o := 0) rfl ⟨rfl, rfl, rfl, rfl⟩ rfl flat61) ?_
     refine s0 (rd_build' (pls := [(0, 1), (1, 1)]) (qs := [(0, [(Vi r20)]), (1, [(Vi a0_0)])]) (r := [(Vi r20), (Vi a0_0)]) ⟨rfl, ⟨_, rfl, (lv_vl rfl rfl)⟩, ⟨rfl, ⟨_, rfl, (lv_vl rfl rfl)⟩, trivial⟩⟩ Try.underlying134 has134 places134 info134 rfl rfl rfl) ?_
     refine s0 (rd_iface' rfl ⟨_, Try.underlying134, fun _ h => (nomatch h)⟩) ?_
     refine s0 (rd_assign' rfl) ?_
     refine nk hK18 ?_
     refine cx_retc' ?_
     replace hp := Option.some.inj hp
     subst hp
     show TX E (Zg E Exit.ret _ Exit.ret) _
     exact tx_zend' () rfl [0, 1] (sub_cons rfl sub_nil) (by decide) (pick_cons rfl (pick_cons rfl pick_nil))
    replace hp := (br_f h6).symm.trans hp
    refine cx_skip' ?_
    show TX E K14 _
    refine tx_k' hK14 ?_
    refine cx_region' ?_
    refine s0 (rd_bin' rfl rfl eg_int ru_add) ?_
    refine s0 (rd_move' rfl) ?_
    refine sx_nil' ?_
    show TX E (KY1 _) _
    exact tx_pick' [0, 1] (sub_cons rfl (sub_cons rfl (sub_cons rfl (sub_cons rfl (sub_cons rfl sub_nil))))) (by decide) (pick_cons rfl (pick_cons rfl pick_nil)) (ih1 (iadd .i64 x1 1) () _ hp)
   replace hp := (br_f h5).symm.trans hp
   refine cx_exit' ?_
   replace hp := Option.some.inj hp
   subst hp
   show TX E (Zg E (Exit.exit 0) _ (Exit.exit 0)) _
   exact tx_zend' () rfl [0, 1] (sub_cons rfl (sub_cons rfl sub_nil)) (by decide) (pick_cons rfl (pick_cons rfl pick_nil))
  rcases y1 with v2 | v3
  ·dsimp only at hp
   refine zg_out fun w2 => ?_
   replace hp := Option.some.inj hp
   subst hp
   refine tx_pick' (L' := [(4, (If 134 (Ag [(Vi v2), (Vi a0_0)])))]) (H' := [⟨.pointer (some wa0), [(Vi a0_0), (Vl (Vs wa0_1)), (Vi a0_2)], 114, none⟩, (Rw KG53 53 (Vs wa0_1) a0_1)]) [0, 1] (sub_cons rfl sub_nil) (by decide) (pick_cons rfl (pick_cons rfl pick_nil)) ?_
   exact tx_ret1' Try.results46 rfl (none, 0, 0) (rv_tmp' rfl) (List.Sublist.refl _)
  dsimp only at hp
  refine zg_out fun w3 => ?_
  show TX E K2 _
  exact tx_pick' [0, 1] (sub_cons rfl (sub_cons rfl sub_nil)) (by decide) (pick_cons rfl (pick_cons rfl pick_nil)) (hK2 () hp)
 replace hp := (br_f h1).symm.trans hp
 refine cx_skip' ?_
 show TX E K2 _
 exact tx_pick' [0, 1] (sub_cons rfl (sub_cons rfl sub_nil)) (by decide) (pick_cons rfl (pick_cons rfl pick_nil)) (hK2 () hp)

def gogeom_GeometryCollection_MustPush_v2 (k : Nat) (a0_0 : Int) (a0_1 : List G53) (a0_2 : Int) (a1 : List G53) : Option (Int × (List G53) × Int) :=
 (gogeom_GeometryCollection_Push_v2 k a0_0 a0_1 a0_2 a1) >>= fun r8 =>
 match r8 with
  | (.inl y1) =>
   (some (y1.1, y1.2.1, y1.2.2))
  | (.inr y1) =>
   (none)

theorem gogeom_GeometryCollection_MustPush_v2_sim {k : Nat} {wa0 : Addr} {wa0_1 : Gs} (a0_0 : Int) (a0_1 : List G53) (a0_2 : Int) (a1 : List G53) {out : Int × (List G53) × Int} (hp : gogeom_GeometryCollection_MustPush_v2 k a0_0 a0_1 a0_2 a1 = some out) : Sx.Fn Try.prog 77 [(Vp wa0), (Sl KG53 a1)] [⟨.pointer (some wa0), [(Vi a0_0), (Vl (Vs wa0_1)), (Vi a0_2)], 114, none⟩, (Rw KG53 53 (Vs wa0_1) a0_1)] (fun w : Gs => (Vp wa0)) (fun w => [⟨.pointer (some wa0), [(Vi out.1), (Vl (Vs w)), (Vi out.2.2)], 114, none⟩, (Rw KG53 53 (Vs w) out.2.1)]) := by
 unfold gogeom_GeometryCollection_MustPush_v2 at hp
 refine fn_of Try.func77 rfl Try.ntmps77 rfl fun E hM => ?_
 refine cr fun K1 hK1 => ?_
 refine s0 (rd_assign' rfl) ?_
 refine nk hK1 ?_
 refine cx_seq' fun K2 hK2 => ?_
 refine cr fun K3 hK3 => ?_
 refine s0 (rd_move' rfl) ?_
 refine s0 (rd_move' rfl) ?_
 obtain ⟨r8, hr8, hp⟩ := bind_some hp
 rcases r8 with y1 | y1
 ·dsimp only at hp
  refine sx_ox' (ox_callg' (ent_fn' Try.func46 isn46 rfl rfl) (gogeom_GeometryCollection_Push_v2_sim _ _ _ _ hr8 : Sx.Fn Try.prog 46 [(Vp wa0), (Sl KG53 a1)] [⟨.pointer (some wa0), [(Vi a0_0), (Vl (Vs wa0_1)), (Vi a0_2)], 114, none⟩, (Rw KG53 53 (Vs wa0_1) a0_1)] (fun x : Gs => Ve) (fun x => [⟨.pointer (some wa0), [(Vi y1.1), (Vl (Vs x)), (Vi y1.2.2)], 114, none⟩, (Rw KG53 53 (Vs x) y1.2.1)])) [0, 1] [] (by decide) (pick_cons rfl (pick_cons rfl pick_nil)) pick_nil (Hn := fun x : Gs => [⟨.pointer (some wa0), [(Vi y1.1), (Vl (Vs x)), (Vi y1.2.2)], 114, none⟩, (Rw KG53 53 (Vs x) y1.2.1)]) (fun _ => rfl) rfl rfl) (wt_none' rfl) fun g8 => ?_
  refine s0 (rd_assign' rfl) ?_
  refine nk hK3 ?_
  refine cr fun K4 hK4 => ?_
  refine s0 (rd_move' rfl) ?_
  refine s0 (rd_binf' rfl rfl (bf_vl (fun _ => by kernel_rfl) nil_neq59_nilif)) ?_
  refine nk hK4 ?_
  refine cx_cond_f' rfl rfl ?_
  refine cx_skip' ?_
  show TX E K2 _
  refine tx_k' hK2 ?_
  refine cr fun K5 hK5 => ?_
  refine s0 (rd_move' rfl) ?_
  refine s0 (rd_assign' rfl) ?_
  refine nk hK5 ?_
  refine cx_retc' ?_
  replace hp := Option.some.inj hp
  subst hp
  refine tx_pick' (L' := [(4, (Vp wa0))]) (H' := [⟨.pointer (some wa0), [(Vi y1.1), (Vl (Vs g8)), (Vi y1.2.2)], 114, none⟩, (Rw KG53 53 (Vs g8) y1.2.1)]) [0, 1] (sub_cons rfl sub_nil) (by decide) (pick_cons rfl (pick_cons rfl pick_nil)) ?_
  exact tx_ret1' Try.results77 rfl g8 (rv_tmp' rfl) (List.Sublist.refl _)
 dsimp only at hp
 refine sx_ox' (ox_callg' (ent_fn' Try.func46 isn46 rfl rfl) (gogeom_GeometryCollection_Push_v2_sim _ _ _ _ hr8 : Sx.Fn Try.prog 46 [(Vp wa0), (Sl KG53 a1)] [⟨.pointer (some wa0), [(Vi a0_0), (Vl (Vs wa0_1)), (Vi a0_2)], 114, none⟩, (Rw KG53 53 (Vs wa0_1) a0_1)] (fun x : Gs => (If 134 (Ag [(Vi y1.2.2.2), (Vi y1.1)]))) (fun x => [⟨.pointer (some wa0), [(Vi y1.1), (Vl (Vs wa0_1)), (Vi y1.2.2.1)], 114, none⟩, (Rw KG53 53 (Vs wa0_1) y1.2.1)])) [0, 1] [] (by decide) (pick_cons rfl (pick_cons rfl pick_nil)) pick_nil (Hn := fun x : Gs => [⟨.pointer (some wa0), [(Vi y1.1), (Vl (Vs wa0_1)), (Vi y1.2.2.1)], 114, none⟩, (Rw KG53 53 (Vs wa0_1) y1.2.1)]) (fun _ => rfl) rfl rfl) (wt_none' rfl) fun g8 => ?_
 refine s0 (rd_assign' rfl) ?_
 refine nk hK3 ?_
 refine cr fun K4 hK4 => ?_
 refine s0 (rd_move' rfl) ?_
 refine s0 (rd_binf' rfl rfl (bf_if (fun _ _ => by kernel_rfl) nil_neq59_if134)) ?_
 refine nk hK4 ?_
 refine cx_cond_t' rfl rfl ?_
 refine cx_region' ?_
 refine s0 (rd_move' rfl) ?_
 cases hp

def gogeom_GeometryCollection_CheckLayout_v2_j1 (k : Nat) (a0_0 : Int) (a0_1 : List G53) (a0_2 : Int) : Option ((Int × (List G53) × Int) ⊕ (Int × (List G53) × Int × Int × Int)) :=
 some (.inl (a0_0, a0_1, a0_2))
def gogeom_GeometryCollection_CheckLayout_v2_l1s (a0_1 : List G53) (a1 : Int) (k : Nat) (rec1 : Int → Option (Int ⊕ Unit)) (x1 : Int) : Option (Int ⊕ Unit) :=
 br (decide (x1 < (a0_1.length : Int)))
  ((idx a0_1 x1) >>= fun r17 =>
  match r17 with
   | .c0 r17_0a r17_0b r17_0c r17_0d =>
    ((gogeom_geom0_Layout k r17_0a r17_0b r17_0c r17_0d) >>= fun r20 =>
    br (!decide (r20 = a1))
     (some (.inl r20))
     (rec1 (iadd .i64 x1 1)))
   | .c1 r17_1a r17_1b r17_1c r17_1d =>
    ((gogeom_geom0_Layout k r17_1a r17_1b r17_1c r17_1d) >>= fun r20 =>
    br (!decide (r20 = a1))
     (some (.inl r20))
     (rec1 (iadd .i64 x1 1)))
   | .c2 r17_2a r17_2b r17_2c r17_2d =>
    ((gogeom_geom0_Layout k r17_2a r17_2b r17_2c r17_2d) >>= fun r20 =>
    br (!decide (r20 = a1))
     (some (.inl r20))
     (rec1 (iadd .i64 x1 1)))
   | .c3 r17_3a r17_3b r17_3c r17_3d r17_3e =>
    ((gogeom_geom0_Layout_v2 k r17_3a r17_3b r17_3c r17_3d r17_3e) >>= fun r20 =>
    br (!decide (r20 = a1))
     (some (.inl r20))
     (rec1 (iadd .i64 x1 1)))
   | .c4 r17_4a r17_4b r17_4c r17_4d r17_4e =>
    ((gogeom_geom0_Layout_v2 k r17_4a r17_4b r17_4c r17_4d r17_4e) >>= fun r20 =>
    br (!decide (r20 = a1))
     (some (.inl r20))
     (rec1 (iadd .i64 x1 1)))
   | .c5 r17_5a r17_5b r17_5c r17_5d r17_5e =>
    ((gogeom_geom0_Layout_v2 k r17_5a r17_5b r17_5c r17_5d r17_5e) >>= fun r20 =>
    br (!decide (r20 = a1))
     (some (.inl r20))
     (rec1 (iadd .i64 x1 1)))
   | .c6 r17_6a r17_6b r17_6c r17_6d r17_6e =>
    ((gogeom_geom0_Layout_v3 k r17_6a r17_6b r17_6c r17_6d r17_6e) >>= fun r20 =>
    br (!decide (r20 = a1))
     (some (.inl r20))
     (rec1 (iadd .i64 x1 1)))
   | .c7 r17_7a r17_7b r17_7c =>
    ((gogeom_GeometryCollection_Layout k r17_7a r17_7b r17_7c) >>= fun r20 =>
    br (!decide (r20 = a1))
     (some (.inl r20))
     (rec1 (iadd .i64 x1 1))))
  (some (.inr ()))
def gogeom_GeometryCollection_CheckLayout_v2_l1 (a0_1 : List G53) (a1 : Int) : Nat → Int → Option (Int ⊕ Unit)
 | 0, _ => none
 | k + 1, v => gogeom_GeometryCollection_CheckLayout_v2_l1s a0_1 a1 k (gogeom_GeometryCollection_CheckLayout_v2_l1 a0_1 a1 k) v
def gogeom_GeometryCollection_CheckLayout_v2 (k : Nat) (a0_0 : Int) (a0_1 : List G53) (a0_2 : Int) (a1 : Int) : Option ((Int × (List G53) × Int) ⊕ (Int × (List G53) × Int × Int × Int)) :=
 br (!decide (a1 = 0))
  ((gogeom_GeometryCollection_CheckLayout_v2_l1 a0_1 a1 k 0) >>= fun y1 => match y1 with
   | (.inl v2) =>
    (some (.inr (a0_0, a0_1, a0_2, a1, v2)))
   | (.inr v3) =>
    (gogeom_GeometryCollection_CheckLayout_v2_j1 k a0_0 a0_1 a0_2))
  (gogeom_GeometryCollection_CheckLayout_v2_j1 k a0_0 a0_1 a0_2)
def gogeom_GeometryCollection_CheckLayout_v2_r (wa0 : Addr) (wa0_1 : Gs) (a0_0 : Int) (a0_1 : List G53) (a0_2 : Int) (a1 : Int) (out : (Int × (List G53) × Int) ⊕ (Int × (List G53) × Int × Int × Int)) (w : Unit) : SV := match out with
 | (.inl y) => Ve
 | (.inr y) => (If 134 (Ag [(Vi y.2.2.2.1), (Vi y.2.2.2.2)]))
def gogeom_GeometryCollection_CheckLayout_v2_h (wa0 : Addr) (wa0_1 : Gs) (a0_0 : Int) (a0_1 : List G53) (a0_2 : Int) (a1 : Int) (out : (Int × (List G53) × Int) ⊕ (Int × (List G53) × Int × Int × Int)) (w : Unit) : List Res := match out with
 | (.inl y) => [⟨.pointer (some wa0), [(Vi y.1), (Vl (Vs wa0_1)), (Vi y.2.2)], 114, none⟩, (Rw KG53 53 (Vs wa0_1) y.2.1)]
 | (.inr y) => [⟨.pointer (some wa0), [(Vi y.1), (Vl (Vs wa0_1)), (Vi y.2.2.1)], 114, none⟩, (Rw KG53 53 (Vs wa0_1) y.2.1)]

theorem gogeom_GeometryCollection_CheckLayout_v2_sim {k : Nat} {wa0 : Addr} {wa0_1 : Gs} (a0_0 : Int) (a0_1 : List G53) (a0_2 : Int) (a1 : Int) {out : (Int × (List G53) × Int) ⊕ (Int × (List G53) × Int × Int × Int)} (hp : gogeom_GeometryCollection_CheckLayout_v2 k a0_0 a0_1 a0_2 a1 = some out) : Sx.Fn Try.prog 79 [(Vp wa0), (Vi a1)] [⟨.pointer (some wa0), [(Vi a0_0), (Vl (Vs wa0_1)), (Vi a0_2)], 114, none⟩, (Rw KG53 53 (Vs wa0_1) a0_1)] (fun w => gogeom_GeometryCollection_CheckLayout_v2_r wa0 wa0_1 a0_0 a0_1 a0_2 a1 out w) (fun w => gogeom_GeometryCollection_CheckLayout_v2_h wa0 wa0_1 a0_0 a0_1 a0_2 a1 out w) := by
 unfold gogeom_GeometryCollection_CheckLayout_v2 at hp
 refine fn_of Try.func79 rfl Try.ntmps79 rfl fun E hM => ?_
 refine cr fun K1 hK1 => ?_
 refine s0 (rd_assign' rfl) ?_
 refine nk hK1 ?_
 refine cx_join' (fun (v4 : Unit) => (⟨29, [], [], [⟨.pointer (some wa0), [(Vi a0_0), (Vl (Vs wa0_1)), (Vi a0_2)], 114, none⟩, (Rw KG53 53 (Vs wa0_1) a0_1)]⟩ : St)) (fun (v4 : Unit) => gogeom_GeometryCollection_CheckLayout_v2_j1 k a0_0 a0_1 a0_2 = some out) ?_ ?_
 ·rintro ⟨⟩ hp
  replace hp : gogeom_GeometryCollection_CheckLayout_v2_j1 k a0_0 a0_1 a0_2 = some out := hp
  unfold gogeom_GeometryCollection_CheckLayout_v2_j1 at hp
  refine cr fun K19 hK19 => ?_
  refine s0 (rd_assign' rfl) ?_
  refine nk hK19 ?_
  refine cx_retc' ?_
  replace hp := Option.some.inj hp
  subst hp
  refine tx_pick' (L' := [(4, Ve)]) (H' := [⟨.pointer (some wa0), [(Vi a0_0), (Vl (Vs wa0_1)), (Vi a0_2)], 114, none⟩, (Rw KG53 53 (Vs wa0_1) a0_1)]) [0, 1] (sub_cons rfl sub_nil) (by decide) (pick_cons rfl (pick_cons rfl pick_nil)) ?_
  exact tx_ret1' Try.results79 rfl () (rv_tmp' rfl) (List.Sublist.refl _)
 intro K2 hK2
 refine cr fun K3 hK3 => ?_
 refine s0 (rd_move' rfl) ?_
 refine s0 (rd_bin' rfl rfl eg_int ru_neq) ?_
 refine nk hK3 ?_
 refine cx_cond' rfl (fun h1 => ?_) (fun h1 => ?_)
 ·replace hp := (br_t h1).symm.trans hp
  refine cr fun K4 hK4 => ?_
  refine s0 (rd_move' rfl) ?_
  refine s0 (rd_nilck' rfl) ?_
  refine s0 (rd_field' (off := 1) rfl Try.underlying114 rfl info112 rfl) ?_
  refine s0 (rd_load' (i := 0) (o := 1) rfl ⟨rfl, rfl, rfl, rfl⟩ rfl flat112) ?_
  refine s0 (rd_lenr' (i := 1) rfl rfl rfl Try.underlying112) ?_
  refine s0 (rd_move' rfl) ?_
  refine nk hK4 ?_
  refine cx_block' ?_
  obtain ⟨y1, hy1, hp⟩ := bind_some hp
  refine cx_loopg' (F := gogeom_GeometryCollection_CheckLayout_v2_l1 a0_1 a1) (G := fun k R v => gogeom_GeometryCollection_CheckLayout_v2_l1s a0_1 a1 k R v) (x := 0) (gh := ()) (fun (v1 : Int) (w1 : Unit) => (⟨29, [], [(1, (Vi a1)), (13, (Vl (Vs wa0_1))), (14, (Vi (a0_1.length : Int))), (15, (Vi v1))], [(Rw KG53 53 (Vs wa0_1) a0_1), ⟨.pointer (some wa0), [(Vi a0_0), (Vl (Vs wa0_1)), (Vi a0_2)], 114, none⟩]⟩ : St)) (fun (y : Int ⊕ Unit) => match y with | (.inl v2) => Zg E Exit.ret (fun (w2 : Unit) => (⟨29, [], [(4, (If 134 (Ag [(Vi a1), (Vi v2)])))], [⟨.pointer (some wa0), [(Vi a0_0), (Vl (Vs wa0_1)), (Vi a0_2)], 114, none⟩, (Rw KG53 53 (Vs wa0_1) a0_1)]⟩ : St)) | (.inr v3) => Zg E (Exit.exit 0) (fun (w3 : Unit) => (⟨29, [], [], [⟨.pointer (some wa0), [(Vi a0_0), (Vl (Vs wa0_1)), (Vi a0_2)], 114, none⟩, (Rw KG53 53 (Vs wa0_1) a0_1)]⟩ : St))) (fun _ => rfl) (fun _ _ => rfl) ?_ hy1 (tx_to' rfl [1, 0] (sub_cons rfl (sub_cons rfl (sub_cons rfl (sub_cons rfl sub_nil)))) (by decide) (pick_cons rfl (pick_cons rfl pick_nil))) ?_
  ·clear hp hy1
   clear y1
   intro k rec1 KY1 ih1
   rintro x1 ⟨⟩ y1 hp
   replace hp : gogeom_GeometryCollection_CheckLayout_v2_l1s a0_1 a1 k rec1 x1 = some y1 := hp
   unfold gogeom_GeometryCollection_CheckLayout_v2_l1s at hp
   refine cr fun K12 hK12 => ?_
   refine s0 (rd_bin' rfl rfl eg_int ru_lss) ?_
   refine nk hK12 ?_
   refine cx_seq' fun K13 hK13 => ?_
   refine cx_cond' rfl (fun h5 => ?_) (fun h5 => ?_)
   ·replace hp := (br_t h5).symm.trans hp
    refine cx_skip' ?_
    show TX E K13 _
    refine tx_k' hK13 ?_
    refine cx_seq' fun K14 hK14 => ?_
    refine cx_block' ?_
    refine cr fun K15 hK15 => ?_
    obtain ⟨r17, hr17, hp⟩ := bind_some hp
    refine s0 (rd_atr' (m := 0) rfl rfl rfl rfl hr17 Try.underlying112 info53) ?_
    refine s0 (rd_loadr' rfl (m := 0) (i := x1) (j := 0) rfl rfl hr17 rfl rfl flat53) ?_
    refine s0 (rd_assign' rfl) ?_
    refine nk hK15 ?_
    refine cr fun K16 hK16 => ?_
    refine s0 (rd_move' rfl) ?_
    rcases r17 with ⟨r17_0a, r17_0b, r17_0c, r17_0d⟩ | ⟨r17_1a, r17_1b, r17_1c, r17_1d⟩ | ⟨r17_2a, r17_2b, r17_2c, r17_2d⟩ | ⟨r17_3a, r17_3b, r17_3c, r17_3d, r17_3e⟩ | ⟨r17_4a, r17_4b, r17_4c, r17_4d, r17_4e⟩ | ⟨r17_5a, r17_5b, r17_5c, r17_5d, r17_5e⟩ | ⟨r17_6a, r17_6b, r17_6c, r17_6d, r17_6e⟩ | ⟨r17_7a, r17_7b, r17_7c⟩
    ·dsimp only at hp
     refine tx_slot' 18 (y := (If 72 (Pt [(Vi r17_0a), (Vi r17_0b), (Sl Kf r17_0c), (Vi r17_0d)]))) rfl (imp_eq (SG53_c0 r17_0a r17_0b r17_0c r17_0d)) ?_
     refine tx_slot' 6 (y := (If 72 (Pt [(Vi r17_0a), (Vi r17_0b), (Sl Kf r17_0c), (Vi r17_0d)]))) rfl (imp_eq (SG53_c0 r17_0a r17_0b r17_0c r17_0d)) ?_
     refine tx_slot' 19 (y := (If 72 (Pt [(Vi r17_0a), (Vi r17_0b), (Sl Kf r17_0c), (Vi r17_0d)]))) rfl (imp_eq (SG53_c0 r17_0a r17_0b r17_0c r17_0d)) ?_
     obtain ⟨r20, hr20, hp⟩ := bind_some hp
     refine sx_ox' (ox_calln' (ent_inv' rfl rfl (inv_pt0 inv72_Layout)) (gogeom_geom0_Layout_sim _ _ _ _ hr20 : Sx.Fn Try.prog 134 [(Pt [(Vi r17_0a), (Vi r17_0b), (Sl Kf r17_0c), (Vi r17_0d)])] [] (fun x : Unit => (Vi r20)) (fun x => [])) (Hn := fun x : Unit => [(Rw KG53 53 (Vs wa0_1) a0_1), ⟨.pointer (some wa0), [(Vi a0_0), (Vl (Vs wa0_1)), (Vi a0_2)], 114, none⟩]) (fun _ => rfl) rfl rfl) (wt_none' rfl) fun ⟨⟩ => ?_
     refine s0 (rd_assign' rfl) ?_
     refine nk hK16 ?_
     refine cr fun K17 hK17 => ?_
     refine s0 (rd_move' rfl) ?_
     refine s0 (rd_move' rfl) ?_
     refine s0 (rd_bin' rfl rfl eg_int ru_neq) ?_
     refine nk hK17 ?_
     refine cx_cond' rfl (fun h6 => ?_) (fun h6 => ?_)
     ·replace hp := (br_t h6).symm.trans hp
      refine cr fun K18 hK18 => ?_
      refine s0 (rd_move' rfl) ?_
      refine s0 (rd_move' rfl) ?_
      refine s0 (rd_build' (pls := [(0, 1), (1, 1)]) (qs := [(0, [(Vi a1)]), (1, [(Vi r20)])]) (r := [(Vi a1), (Vi r20)]) ⟨rfl, ⟨_, rfl, (lv_vl rfl rfl)⟩, ⟨rfl, ⟨_, rfl, (lv_vl rfl rfl)⟩, trivial⟩⟩ Try.underlying134 has134 places134 info134 rfl rfl rfl) ?_
      refine s0 (rd_iface' rfl ⟨_, Try.underlying134, fun _ h => (nomatch h)⟩) ?_
      refine s0 (rd_assign' rfl) ?_
      refine nk hK18 ?_
      refine cx_retc' ?_
      replace hp := Option.some.inj hp
      subst hp
      show TX E (Zg E Exit.ret _ Exit.ret) _
      exact tx_zend' () rfl [1, 0] (sub_cons rfl sub_nil) (by decide) (pick_cons rfl (pick_cons rfl pick_nil))
     replace hp := (br_f h6).symm.trans hp
     refine cx_skip' ?_
     show TX E K14 _
     refine tx_k' hK14 ?_
     refine cx_region' ?_
     refine s0 (rd_bin' rfl rfl eg_int ru_add) ?_
     refine s0 (rd_move' rfl) ?_
     refine sx_nil' ?_
     show TX E (KY1 _) _
     exact tx_pick' [0, 1] (sub_cons rfl (sub_cons rfl (sub_cons rfl (sub_cons rfl sub_nil)))) (by decide) (pick_cons rfl (pick_cons rfl pick_nil)) (ih1 (iadd .i64 x1 1) () _ hp)
    ·dsimp only at hp
     refine tx_slot' 18 (y := (If 75 (Pt [(Vi r17_1a), (Vi r17_1b), (Sl Kf r17_1c), (Vi r17_1d)]))) rfl (imp_eq (SG53_c1 r17_1a r17_1b r17_1c r17_1d)) ?_
     refine tx_slot' 6 (y := (If 75 (Pt [(Vi r17_1a), (Vi r17_1b), (Sl Kf r17_1c), (Vi r17_1d)]))) rfl (imp_eq (SG53_c1 r17_1a r17_1b r17_1c r17_1d)) ?_
     refine tx_slot' 19 (y := (If 75 (Pt [(Vi r17_1a), (Vi r17_1b), (Sl Kf r17_1c), (Vi r17_1d)]))) rfl (imp_eq (SG53_c1 r17_1a r17_1b r17_1c r17_1d)) ?_
     obtain ⟨r20, hr20, hp⟩ := bind_some hp
     refine sx_ox' (ox_calln' (ent_inv' rfl rfl (inv_pt0 inv75_Layout)) (gogeom_geom0_Layout_sim _ _ _ _ hr20 : Sx.Fn Try.prog 134 [(Pt [(Vi r17_1a), (Vi r17_1b), (Sl Kf r17_1c), (Vi r17_1d)])] [] (fun x : Unit => (Vi r20)) (fun x => [])) (Hn := fun x : Unit => [(Rw KG53 53 (Vs wa0_1) a0_1), ⟨.pointer (some wa0), [(Vi a0_0), (Vl (Vs wa0_1)), (Vi a0_2)], 114, none⟩]) (fun _ => rfl) rfl rfl) (wt_none' rfl) fun ⟨⟩ => ?_
     refine s0 (rd_assign' rfl) ?_
     refine nk hK16 ?_
     refine cr fun K17 hK17 => ?_
     refine s0 (rd_move' rfl) ?_
     refine s0 (rd_move' rfl) ?_
     refine s0 (rd_bin' rfl rfl eg_int ru_neq) ?_
     refine nk hK17 ?_
     refine cx_cond' rfl (fun h6 => ?_) (fun h6 => ?_)
     ·replace hp := (br_t h6).symm.trans hp
      refine cr fun K18 hK18 => ?_
      refine s0 (rd_move' rfl) ?_
      refine s0 (rd_move' rfl) ?_
      refine s0 (rd_build' (pls := [(0, 1), (1, 1)]) (qs := [(0, [(Vi a1)]), (1, [(Vi r20)])]) (r := [(Vi a1), (Vi r20)]) ⟨rfl, ⟨_, rfl, (lv_vl rfl rfl)⟩, ⟨rfl, ⟨_, rfl, (lv_vl rfl rfl)⟩, trivial⟩⟩ Try.underlying134 has134 places134 info134 rfl rfl rfl) ?_
      refine s0 (rd_iface' rfl ⟨_, Try.underlying134, fun _ h => (nomatch h)⟩) ?_
      refine s0 (rd_assign' rfl) ?_
      refine nk hK18 ?_
      refine cx_retc' ?_
      replace hp := Option.some.inj hp
      subst hp
      show TX E (Zg E Exit.ret _ Exit.ret) _
      exact tx_zend' () rfl [1, 0] (sub_cons rfl sub_nil) (by decide) (pick_cons rfl (pick_cons rfl pick_nil))
     replace hp := (br_f h6).symm.trans hp
     refine cx_skip' ?_
     show TX E K14 _
     refine tx_k' hK14 ?_
     refine cx_region' ?_
     refine s0 (rd_bin' rfl rfl eg_int ru_add) ?_
     refine s0 (rd_move' rfl) ?_
     refine sx_nil' ?_
     show TX E (KY1 _) _
     exact tx_pick' [0, 1] (sub_cons rfl (sub_cons rfl (sub_cons rfl (sub_cons rfl sub_nil)))) (by decide) (pick_cons rfl (pick_cons rfl pick_nil)) (ih1 (iadd .i64 x1 1) () _ hp)
    ·dsimp only at hp
     refine tx_slot' 18 (y := (If 69 (Pt [(Vi r17_2a), (Vi r17_2b), (Sl Kf r17_2c), (Vi r17_2d)]))) rfl (imp_eq (SG53_c2 r17_2a r17_2b r17_2c r17_2d)) ?_
     refine tx_slot' 6 (y := (If 69 (Pt [(Vi r17_2a), (Vi r17_2b), (Sl Kf r17_2c), (Vi r17_2d)]))) rfl (imp_eq (SG53_c2 r17_2a r17_2b r17_2c r17_2d)) ?_
     refine tx_slot' 19 (y := (If 69 (Pt [(Vi r17_2a), (Vi r17_2b), (Sl Kf r17_2c), (Vi r17_2d)]))) rfl (imp_eq (SG53_c2 r17_2a r17_2b r17_2c r17_2d)) ?_
     obtain ⟨r20, hr20, hp⟩ := bind_some hp
     refine sx_ox' (ox_calln' (ent_inv' rfl rfl (inv_pt0 inv69_Layout)) (gogeom_geom0_Layout_sim _ _ _ _ hr20 : Sx.Fn Try.prog 134 [(Pt [(Vi r17_2a), (Vi r17_2b), (Sl Kf r17_2c), (Vi r17_2d)])] [] (fun x : Unit => (Vi r20)) (fun x => [])) (Hn := fun x : Unit => [(Rw KG53 53 (Vs wa0_1) a0_1), ⟨.pointer (some wa0), [(Vi a0_0), (Vl (Vs wa0_1)), (Vi a0_2)], 114, none⟩]) (fun _ => rfl) rfl rfl) (wt_none' rfl) fun ⟨⟩ => ?_
     refine s0 (rd_assign' rfl) ?_
     refine nk hK16 ?_
     refine cr fun K17 hK17 => ?_
     refine s0 (rd_move' rfl) ?_
     refine s0 (rd_move' rfl) ?_
     refine s0 (rd_bin' rfl rfl eg_int ru_neq) ?_
     refine nk hK17 ?_
     refine cx_cond' rfl (fun h6 => ?_) (fun h6 => ?_)
     ·replace hp := (br_t h6).symm.trans hp
      refine cr fun K18 hK18 => ?_
      refine s0 (rd_move' rfl) ?_
      refine s0 (rd_move' rfl) ?_
      refine s0 (rd_build' (pls := [(0, 1), (1, 1)]) (qs := [(0, [(Vi a1)]), (1, [(Vi r20)])]) (r := [(Vi a1), (Vi r20)]) ⟨rfl, ⟨_, rfl, (lv_vl rfl rfl)⟩, ⟨rfl, ⟨_, rfl, (lv_vl rfl rfl)⟩, trivial⟩⟩ Try.underlying134 has134 places134 info134 rfl rfl rfl) ?_
      refine s0 (rd_iface' rfl ⟨_, Try.underlying134, fun _ h => (nomatch h)⟩) ?_
      refine s0 (rd_assign' rfl) ?_
      refine nk hK18 ?_
      refine cx_retc' ?_
      replace hp := Option.some.inj hp
      subst hp
      show TX E (Zg E Exit.ret _ Exit.ret) _
      exact tx_zend' () rfl [1, 0] (sub_cons rfl sub_nil) (by decide) (pick_cons rfl (pick_cons rfl pick_nil))
     replace hp := (br_f h6).symm.trans hp
     refine cx_skip' ?_
     show TX E K14 _
     refine tx_k' hK14 ?_
     refine cx_region' ?_
     refine s0 (rd_bin' rfl rfl eg_int ru_add) ?_
     refine s0 (rd_move' rfl) ?_
     refine sx_nil' ?_
     show TX E (KY1 _) _
     exact tx_pick' [0, 1] (sub_cons rfl (sub_cons rfl (sub_cons rfl (sub_cons rfl sub_nil)))) (by decide) (pick_cons rfl (pick_cons rfl pick_nil)) (ih1 (iadd .i64 x1 1) () _ hp)
    ·dsimp only at hp
     refine tx_slot' 18 (y := (If 67 (Pt [(Vi r17_3a), (Vi r17_3b), (Sl Kf r17_3c), (Vi r17_3d), (Sl (Ki .i64) r17_3e)]))) rfl (imp_eq (SG53_c3 r17_3a r17_3b r17_3c r17_3d r17_3e)) ?_
     refine tx_slot' 6 (y := (If 67 (Pt [(Vi r17_3a), (Vi r17_3b), (Sl Kf r17_3c), (Vi r17_3d), (Sl (Ki .i64) r17_3e)]))) rfl (imp_eq (SG53_c3 r17_3a r17_3b r17_3c r17_3d r17_3e)) ?_
     refine tx_slot' 19 (y := (If 67 (Pt [(Vi r17_3a), (Vi r17_3b), (Sl Kf r17_3c), (Vi r17_3d), (Sl (Ki .i64) r17_3e)]))) rfl (imp_eq (SG53_c3 r17_3a r17_3b r17_3c r17_3d r17_3e)) ?_
     obtain ⟨r20, hr20, hp⟩ := bind_some hp
     refine sx_ox' (ox_calln' (ent_inv' rfl rfl (inv_pt0 inv67_Layout)) (gogeom_geom0_Layout_v2_sim _ _ _ _ _ hr20 : Sx.Fn Try.prog 134 [(Pt [(Vi r17_3a), (Vi r17_3b), (Sl Kf r17_3c), (Vi r17_3d), (Sl (Ki .i64) r17_3e)])] [] (fun x : Unit => (Vi r20)) (fun x => [])) (Hn := fun x : Unit => [(Rw KG53 53 (Vs wa0_1) a0_1), ⟨.pointer (some wa0), [(Vi a0_0), (Vl (Vs wa0_1)), (Vi a0_2)], 114, none⟩]) (fun _ => rfl) rfl rfl) (wt_none' rfl) fun ⟨⟩ => ?_
     refine s0 (rd_assign' rfl) ?_
     refine nk hK16 ?_
     refine cr fun K17 hK17 => ?_
     refine s0 (rd_move' rfl) ?_
     refine s0 (rd_move' rfl) ?_
     refine s0 (rd_bin' rfl rfl eg_int ru_neq) ?_
     refine nk hK17 ?_
     refine cx_cond' rfl (fun h6 => ?_) (fun h6 => ?_)
     ·replace hp := (br_t h6).symm.trans hp
      refine cr fun K18 hK18 => ?_
      refine s0 (rd_move' rfl) ?_
      refine s0 (rd_move' rfl) ?_
      refine s0 (rd_build' (pls := [(0, 1), (1, 1)]) (qs := [(0, [(Vi a1)]), (1, [(Vi r20)])]) (r := [(Vi a1), (Vi r20)]) ⟨rfl, ⟨_, rfl, (lv_vl rfl rfl)⟩, ⟨rfl, ⟨_, rfl, (lv_vl rfl rfl)⟩, trivial⟩⟩ Try.underlying134 has134 places134 info134 rfl rfl rfl) ?_
      refine s0 (rd_iface' rfl ⟨_, Try.underlying134, fun _ h => (nomatch h)⟩) ?_
      refine s0 (rd_assign' rfl) ?_
      refine nk hK18 ?_
      refine cx_retc' ?_
      replace hp := Option.some.inj hp
      subst hp
      show TX E (Zg E Exit.ret _ Exit.ret) _
      exact tx_zend' () rfl [1, 0] (sub_cons rfl sub_nil) (by decide) (pick_cons rfl (pick_cons rfl pick_nil))
     replace hp := (br_f h6).symm.trans hp
     refine cx_skip' ?_
     show TX E K14 _
     refine tx_k' hK14 ?_
     refine cx_region' ?_
     refine s0 (rd_bin' rfl rfl eg_int ru_add) ?_
     refine s0 (rd_move' rfl) ?_
     refine sx_nil' ?_
     show TX E (KY1 _) _
     exact tx_pick' [0, 1] (sub_cons rfl (sub_cons rfl (sub_cons rfl (sub_cons rfl sub_nil)))) (by decide) (pick_cons rfl (pick_cons rfl pick_nil)) (ih1 (iadd .i64 x1 1) () _ hp)
    ·dsimp only at hp
     refine tx_slot' 18 (y := (If 70 (Pt [(Vi r17_4a), (Vi r17_4b), (Sl Kf r17_4c), (Vi r17_4d), (Sl (Ki .i64) r17_4e)]))) rfl (imp_eq (SG53_c4 r17_4a r17_4b r17_4c r17_4d r17_4e)) ?_
     refine tx_slot' 6 (y := (If 70 (Pt [(Vi r17_4a), (Vi r17_4b), (Sl Kf r17_4c), (Vi r17_4d), (Sl (Ki .i64) r17_4e)]))) rfl (imp_eq (SG53_c4 r17_4a r17_4b r17_4c r17_4d r17_4e)) ?_
     refine tx_slot' 19 (y := (If 70 (Pt [(Vi r17_4a), (Vi r17_4b), (Sl Kf r17_4c), (Vi r17_4d), (Sl (Ki .i64) r17_4e)]))) rfl (imp_eq (SG53_c4 r17_4a r17_4b r17_4c r17_4d r17_4e)) ?_
     obtain ⟨r20, hr20, hp⟩ := bind_some hp
     refine sx_ox' (ox_calln' (ent_inv' rfl rfl (inv_pt0 inv70_Layout)) (gogeom_geom0_Layout_v2_sim _ _ _ _ _ hr20 : Sx.Fn Try.prog 134 [(Pt [(Vi r17_4a), (Vi r17_4b), (Sl Kf r17_4c), (Vi r17_4d), (Sl (Ki .i64) r17_4e)])] [] (fun x : Unit => (Vi r20)) (fun x => [])) (Hn := fun x : Unit => [(Rw KG53 53 (Vs wa0_1) a0_1), ⟨.pointer (some wa0), [(Vi a0_0), (Vl (Vs wa0_1)), (Vi a0_2)], 114, none⟩]) (fun _ => rfl) rfl rfl) (wt_none' rfl) fun ⟨⟩ => ?_
     refine s0 (rd_assign' rfl) ?_
     refine nk hK16 ?_
     refine cr fun K17 hK17 => ?_
     refine s0 (rd_move' rfl) ?_
     refine s0 (rd_move' rfl) ?_
     refine s0 (rd_bin' rfl rfl eg_int ru_neq) ?_
     refine nk hK17 ?_
     refine cx_cond' rfl (fun h6 => ?_) (fun h6 => ?_)
     ·replace hp := (br_t h6).symm.trans hp
      refine cr fun K18 hK18 => ?_
      refine s0 (rd_move' rfl) ?_
      refine s0 (rd_move' rfl) ?_
      refine s0 (rd_build' (pls := [(0, 1), (1, 1)]) (qs := [(0, [(Vi a1)]), (1, [(Vi r20)])]) (r := [(Vi a1), (Vi r20)]) ⟨rfl, ⟨_, rfl, (lv_vl rfl rfl)⟩, ⟨rfl, ⟨_, rfl, (lv_vl rfl rfl)⟩, trivial⟩⟩ Try.underlying134 has134 places134 info134 rfl rfl rfl) ?_
      refine s0 (rd_iface' rfl ⟨_, Try.underlying134, fun _ h => (nomatch h)⟩) ?_
      refine s0 (rd_assign' rfl) ?_
      refine nk hK18 ?_
      refine cx_retc' ?_
      replace hp := Option.some.inj hp
      subst hp
      show TX E (Zg E Exit.ret _ Exit.ret) _
      exact tx_zend' () rfl [1, 0] (sub_cons rfl sub_nil) (by decide) (pick_cons rfl (pick_cons rfl pick_nil))
     replace hp := (br_f h6).symm.trans hp
     refine cx_skip' ?_
     show TX E K14 _
     refine tx_k' hK14 ?_
     refine cx_region' ?_
     refine s0 (rd_bin' rfl rfl eg_int ru_add) ?_
     refine s0 (rd_move' rfl) ?_
     refine sx_nil' ?_
     show TX E (KY1 _) _
     exact tx_pick' [0, 1] (sub_cons rfl (sub_cons rfl (sub_cons rfl (sub_cons rfl sub_nil)))) (by decide) (pick_cons rfl (pick_cons rfl pick_nil)) (ih1 (iadd .i64 x1 1) () _ hp)
    ·dsimp only at hp
     refine tx_slot' 18 (y := (If 73 (Pt [(Vi r17_5a), (Vi r17_5b), (Sl Kf r17_5c), (Vi r17_5d), (Sl (Ki .i64) r17_5e)]))) rfl (imp_eq (SG53_c5 r17_5a r17_5b r17_5c r17_5d r17_5e)) ?_
     refine tx_slot' 6 (y := (If 73 (Pt [(Vi r17_5a), (Vi r17_5b), (Sl Kf r17_5c), (Vi r17_5d), (Sl (Ki .i64) r17_5e)]))) rfl (imp_eq (SG53_c5 r17_5a r17_5b r17_5c r17_5d r17_5e)) ?_
     refine tx_slot' 19 (y := (If 73 (Pt [(Vi r17_5a), (Vi r17_5b), (Sl Kf r17_5c), (Vi r17_5d), (Sl (Ki .i64) r17_5e)]))) rfl (imp_eq (SG53_c5 r17_5a r17_5b r17_5c r17_5d r17_5e)) ?_
     obtain ⟨r20, hr20, hp⟩ := bind_some hp
     refine sx_ox' (ox_calln' (ent_inv' rfl rfl (inv_pt0 inv73_Layout)) (gogeom_geom0_Layout_v2_sim _ _ _ _ _ hr20 : Sx.Fn Try.prog 134 [(Pt [(Vi r17_5a), (Vi r17_5b), (Sl Kf r17_5c), (Vi r17_5d), (Sl (Ki .i64) r17_5e)])] [] (fun x : Unit => (Vi r20)) (fun x => [])) (Hn := fun x : Unit => [(Rw KG53 53 (Vs wa0_1) a0_1), ⟨.pointer (some wa0), [(Vi a0_0), (Vl (Vs wa0_1)), (Vi a0_2)], 114, none⟩]) (fun _ => rfl) rfl rfl) (wt_none' rfl) fun ⟨⟩ => ?_
     refine s0 (rd_assign' rfl) ?_
     refine nk hK16 ?_
     refine cr fun K17 hK17 => ?_
     refine s0 (rd_move' rfl) ?_
     refine s0 (rd_move' rfl) ?_
     refine s0 (rd_bin' rfl rfl eg_int ru_neq) ?_
     refine nk hK17 ?_
     refine cx_cond' rfl (fun h6 => ?_) (fun h6 => ?_)
     ·replace hp := (br_t h6).symm.trans hp
      refine cr fun K18 hK18 => ?_
      refine s0 (rd_move' rfl) ?_
      refine s0 (rd_move' rfl) ?_
      refine s0 (rd_build' (pls := [(0, 1), (1, 1)]) (qs := [(0, [(Vi a1)]), (1, [(Vi r20)])]) (r := [(Vi a1), (Vi r20)]) ⟨rfl, ⟨_, rfl, (lv_vl rfl rfl)⟩, ⟨rfl, ⟨_, rfl, (lv_vl rfl rfl)⟩, trivial⟩⟩ Try.underlying134 has134 places134 info134 rfl rfl rfl) ?_
      refine s0 (rd_iface' rfl ⟨_, Try.underlying134, fun _ h => (nomatch h)⟩) ?_
      refine s0 (rd_assign' rfl) ?_
      refine nk hK18 ?_
      refine cx_retc' ?_
      replace hp := Option.some.inj hp
      subst hp
      show TX E (Zg E Exit.ret _ Exit.ret) _
      exact tx_zend' () rfl [1, 0] (sub_cons rfl sub_nil) (by decide) (pick_cons rfl (pick_cons rfl pick_nil))
     replace hp := (br_f h6).symm.trans hp
     refine cx_skip' ?_
     show TX E K14 _
     refine tx_k' hK14 ?_
     refine cx_region' ?_
     refine s0 (rd_bin' rfl rfl eg_int ru_add) ?_
     refine s0 (rd_move' rfl) ?_
     refine sx_nil' ?_
     show TX E (KY1 _) _
     exact tx_pick' [0, 1] (sub_cons rfl (sub_cons rfl (sub_cons rfl (sub_cons rfl sub_nil)))) (by decide) (pick_cons rfl (pick_cons rfl pick_nil)) (ih1 (iadd .i64 x1 1) () _ hp)
    ·dsimp only at hp
     refine tx_slot' 18 (y := (If 76 (Pt [(Vi r17_6a), (Vi r17_6b), (Sl Kf r17_6c), (Vi r17_6d), (Sl (Kl (Ki .i64)) r17_6e)]))) rfl (imp_eq (SG53_c6 r17_6a r17_6b r17_6c r17_6d r17_6e)) ?_
     refine tx_slot' 6 (y := (If 76 (Pt [(Vi r17_6a), (Vi r17_6b), (Sl Kf r17_6c), (Vi r17_6d), (Sl (Kl (Ki .i64)) r17_6e)]))) rfl (imp_eq (SG53_c6 r17_6a r17_6b r17_6c r17_6d r17_6e)) ?_
     refine tx_slot' 19 (y := (If 76 (Pt [(Vi r17_6a), (Vi r17_6b), (Sl Kf r17_6c), (Vi r17_6d), (Sl (Kl (Ki .i64)) r17_6e)]))) rfl (imp_eq (SG53_c6 r17_6a r17_6b r17_6c r17_6d r17_6e)) ?_
     obtain ⟨r20, hr20, hp⟩ := bind_some hp
     refine sx_ox' (ox_calln' (ent_inv' rfl rfl (inv_pt0 inv76_Layout)) (gogeom_geom0_Layout_v3_sim _ _ _ _ _ hr20 : Sx.Fn Try.prog 134 [(Pt [(Vi r17_6a), (Vi r17_6b), (Sl Kf r17_6c), (Vi r17_6d), (Sl (Kl (Ki .i64)) r17_6e)])] [] (fun x : Unit => (Vi r20)) (fun x => [])) (Hn := fun x : Unit => [(Rw KG53 53 (Vs wa0_1) a0_1), ⟨.pointer (some wa0), [(Vi a0_0), (Vl (Vs wa0_1)), (Vi a0_2)], 114, none⟩]) (fun _ => rfl) rfl rfl) (wt_none' rfl) fun ⟨⟩ => ?_
     refine s0 (rd_assign' rfl) ?_
     refine nk hK16 ?_
     refine cr fun K17 hK17 => ?_
     refine s0 (rd_move' rfl) ?_
     refine s0 (rd_move' rfl) ?_
     refine s0 (rd_bin' rfl rfl eg_int ru_neq) ?_
     refine nk hK17 ?_
     refine cx_cond' rfl (fun h6 => ?_) (fun h6 => ?_)
     ·replace hp := (br_t h6).symm.trans hp
      refine cr fun K18 hK18 => ?_
      refine s0 (rd_move' rfl) ?_
      refine s0 (rd_move' rfl) ?_
      refine s0 (rd_build' (pls := [(0, 1), (1, 1)]) (qs := [(0, [(Vi a1)]), (1, [(Vi r20)])]) (r := [(Vi a1), (Vi r20)]) ⟨rfl, ⟨_, rfl, (lv_vl rfl rfl)⟩, ⟨rfl, ⟨_, rfl, (lv_vl rfl rfl)⟩, trivial⟩⟩ Try.underlying134 has134 places134 info134 rfl rfl rfl) ?_
      refine s0 (rd_iface' rfl ⟨_, Try.underlying134, fun _ h => (nomatch h)⟩) ?_
      refine s0 (rd_assign' rfl) ?_
      refine nk hK18 ?_
      refine cx_retc' ?_
      replace hp := Option.some.inj hp
      subst hp
      show TX E (Zg E Exit.ret _ Exit.ret) _
      exact tx_zend' () rfl [1, 0] (sub_cons rfl sub_nil) (by decide) (pick_cons rfl (pick_cons rfl pick_nil))
     replace hp := (br_f h6).symm.trans hp
     refine cx_skip' ?_
     show TX E K14 _
     refine tx_k' hK14 ?_
     refine cx_region' ?_
     refine s0 (rd_bin' rfl rfl eg_int ru_add) ?_
     refine s0 (rd_move' rfl) ?_
     refine sx_nil' ?_
     show TX E (KY1 _) _
     exact tx_pick' [0, 1] (sub_cons rfl (sub_cons rfl (sub_cons rfl (sub_cons rfl sub_nil)))) (by decide) (pick_cons rfl (pick_cons rfl pick_nil)) (ih1 (iadd .i64 x1 1) () _ hp)
    dsimp only at hp
    refine tx_slot' 18 (y := (If 57 (Pt [(Vi r17_7a), (Sl KG53 r17_7b), (Vi r17_7c)]))) rfl (imp_eq (SG53_c7 r17_7a r17_7b r17_7c)) ?_
    refine tx_slot' 6 (y := (If 57 (Pt [(Vi r17_7a), (Sl KG53 r17_7b), (Vi r17_7c)]))) rfl (imp_eq (SG53_c7 r17_7a r17_7b r17_7c)) ?_
    refine tx_slot' 19 (y := (If 57 (Pt [(Vi r17_7a), (Sl KG53 r17_7b), (Vi r17_7c)]))) rfl (imp_eq (SG53_c7 r17_7a r17_7b r17_7c)) ?_
    obtain ⟨r20, hr20, hp⟩ := bind_some hp
    refine sx_ox' (ox_calln' (ent_inv' rfl rfl (inv_any0 inv57_Layout)) (gogeom_GeometryCollection_Layout_sim _ _ _ hr20 : Sx.Fn Try.prog 125 [(Pt [(Vi r17_7a), (Sl KG53 r17_7b), (Vi r17_7c)])] [] (fun x : Unit => (Vi r20)) (fun x => [])) (Hn := fun x : Unit => [(Rw KG53 53 (Vs wa0_1) a0_1), ⟨.pointer (some wa0), [(Vi a0_0), (Vl (Vs wa0_1)), (Vi a0_2)], 114, none⟩]) (fun _ => rfl) rfl rfl) (wt_none' rfl) fun ⟨⟩ => ?_
    refine s0 (rd_assign' rfl) ?_
    refine nk hK16 ?_
    refine cr fun K17 hK17 => ?_
    refine s0 (rd_move' rfl) ?_
    refine s0 (rd_move' rfl) ?_
    refine s0 (rd_bin' rfl rfl eg_int ru_neq) ?_
    refine nk hK17 ?_
    refine cx_cond' rfl (fun h6 => ?_) (fun h6 => ?_)
    ·replace hp := (br_t h6).symm.trans hp
     refine cr fun K18 hK18 => ?_
     refine s0 (rd_move' rfl) ?_
     refine s0 (rd_move' rfl) ?_
     refine s0 (rd_build' (pls := [(0, 1), (1, 1)]) (qs := [(0, [(Vi a1)]), (1, [(Vi r20)])]) (r := [(Vi a1), (Vi r20)]) ⟨rfl, ⟨_, rfl, (lv_vl rfl rfl)⟩, ⟨rfl, ⟨_, rfl, (lv_vl rfl rfl)⟩, trivial⟩⟩ Try.underlying134 has134 places134 info134 rfl rfl rfl) ?_
     refine s0 (rd_iface' rfl ⟨_, Try.underlying134, fun _ h => (nomatch h)⟩) ?_
     refine s0 (rd_assign' rfl) ?_
     refine nk hK18 ?_
     refine cx_retc' ?_
     replace hp := Option.some.inj hp
     subst hp
     show TX E (Zg E Exit.ret _ Exit.ret) _
     exact tx_zend' () rfl [1, 0] (sub_cons rfl sub_nil) (by decide) (pick_cons rfl (pick_cons rfl pick_nil))
    replace hp := (br_f h6).symm.trans hp
    refine cx_skip' ?_
    show TX E K14 _
    refine tx_k' hK14 ?_
    refine cx_region' ?_
    refine s0 (rd_bin' rfl rfl eg_int ru_add) ?_
    refine s0 (rd_move' rfl) ?_
    refine sx_nil' ?_
    show TX E (KY1 _) _
    exact tx_pick' [0, 1] (sub_cons rfl (sub_cons rfl (sub_cons rfl (sub_cons rfl sub_nil)))) (by decide) (pick_cons rfl (pick_cons rfl pick_nil)) (ih1 (iadd .i64 x1 1) () _ hp)
   replace hp := (br_f h5).symm.trans hp
   refine cx_exit' ?_
   replace hp := Option.some.inj hp
   subst hp
   show TX E (Zg E (Exit.exit 0) _ (Exit.exit 0)) _
   exact tx_zend' () rfl [1, 0] sub_nil (by decide) (pick_cons rfl (pick_cons rfl pick_nil))
  rcases y1 with v2 | v3
  ·dsimp only at hp
   refine zg_out fun w2 => ?_
   replace hp := Option.some.inj hp
   subst hp
   refine tx_pick' (L' := [(4, (If 134 (Ag [(Vi a1), (Vi v2)])))]) (H' := [⟨.pointer (some wa0), [(Vi a0_0), (Vl (Vs wa0_1)), (Vi a0_2)], 114, none⟩, (Rw KG53 53 (Vs wa0_1) a0_1)]) [0, 1] (sub_cons rfl sub_nil) (by decide) (pick_cons rfl (pick_cons rfl pick_nil)) ?_
   exact tx_ret1' Try.results79 rfl () (rv_tmp' rfl) (List.Sublist.refl _)
  dsimp only at hp
  refine zg_out fun w3 => ?_
  show TX E K2 _
  exact tx_pick' [0, 1] sub_nil (by decide) (pick_cons rfl (pick_cons rfl pick_nil)) (hK2 () hp)
 replace hp := (br_f h1).symm.trans hp
 refine cx_skip' ?_
 show TX E K2 _
 exact tx_pick' [0, 1] sub_nil (by decide) (pick_cons rfl (pick_cons rfl pick_nil)) (hK2 () hp)

def gogeom_GeometryCollection_SetLayout_v2 (k : Nat) (a0_0 : Int) (a0_1 : List G53) (a0_2 : Int) (a1 : Int) : Option ((Int × (List G53) × Int) ⊕ (Int × (List G53) × Int × Int × Int)) :=
 (gogeom_GeometryCollection_CheckLayout_v2 k a0_0 a0_1 a0_2 a1) >>= fun r8 =>
 match r8 with
  | (.inl y1) =>
   (some (.inl (a1, y1.2.1, y1.2.2)))
  | (.inr y1) =>
   (some (.inr (y1.1, y1.2.1, y1.2.2.1, y1.2.2.2.1, y1.2.2.2.2)))
def gogeom_GeometryCollection_SetLayout_v2_r (wa0 : Addr) (wa0_1 : Gs) (a0_0 : Int) (a0_1 : List G53) (a0_2 : Int) (a1 : Int) (out : (Int × (List G53) × Int) ⊕ (Int × (List G53) × Int × Int × Int)) (w : Unit) : SV := match out with
 | (.inl y) => Ve
 | (.inr y) => (If 134 (Ag [(Vi y.2.2.2.1), (Vi y.2.2.2.2)]))
def gogeom_GeometryCollection_SetLayout_v2_h (wa0 : Addr) (wa0_1 : Gs) (a0_0 : Int) (a0_1 : List G53) (a0_2 : Int) (a1 : Int) (out : (Int × (List G53) × Int) ⊕ (Int × (List G53) × Int × Int × Int)) (w : Unit) : List Res := match out with
 | (.inl y) => [⟨.pointer (some wa0), [(Vi y.1), (Vl (Vs wa0_1)), (Vi y.2.2)], 114, none⟩, (Rw KG53 53 (Vs wa0_1) y.2.1)]
 | (.inr y) => [⟨.pointer (some wa0), [(Vi y.1), (Vl (Vs wa0_1)), (Vi y.2.2.1)], 114, none⟩, (Rw KG53 53 (Vs wa0_1) y.2.1)]

theorem gogeom_GeometryCollection_SetLayout_v2_sim {k : Nat} {wa0 : Addr} {wa0_1 : Gs} (a0_0 : Int) (a0_1 : List G53) (a0_2 : Int) (a1 : Int) {out : (Int × (List G53) × Int) ⊕ (Int × (List G53) × Int × Int × Int)} (hp : gogeom_GeometryCollection_SetLayout_v2 k a0_0 a0_1 a0_2 a1 = some out) : Sx.Fn Try.prog 33 [(Vp wa0), (Vi a1)] [⟨.pointer (some wa0), [(Vi a0_0), (Vl (Vs wa0_1)), (Vi a0_2)], 114, none⟩, (Rw KG53 53 (Vs wa0_1) a0_1)] (fun w => gogeom_GeometryCollection_SetLayout_v2_r wa0 wa0_1 a0_0 a0_1 a0_2 a1 out w) (fun w => gogeom_GeometryCollection_SetLayout_v2_h wa0 wa0_1 a0_0 a0_1 a0_2 a1 out w) := by
 unfold gogeom_GeometryCollection_SetLayout_v2 at hp
 refine fn_of Try.func33 rfl Try.ntmps33 rfl fun E hM => ?_
 refine cr fun K1 hK1 => ?_
 refine s0 (rd_assign' rfl) ?_
 refine nk hK1 ?_
 refine cx_seq' fun K2 hK2 => ?_
 refine cr fun K3 hK3 => ?_
 refine s0 (rd_move' rfl) ?_
 refine s0 (rd_move' rfl) ?_
 obtain ⟨r8, hr8, hp⟩ := bind_some hp
 rcases r8 with y1 | y1
 ·dsimp only at hp
  refine sx_ox' (ox_callg' (ent_fn' Try.func79 isn79 rfl rfl) (gogeom_GeometryCollection_CheckLayout_v2_sim _ _ _ _ hr8 : Sx.Fn Try.prog 79 [(Vp wa0), (Vi a1)] [⟨.pointer (some wa0), [(Vi a0_0), (Vl (Vs wa0_1)), (Vi a0_2)], 114, none⟩, (Rw KG53 53 (Vs wa0_1) a0_1)] (fun x : Unit => Ve) (fun x => [⟨.pointer (some wa0), [(Vi y1.1), (Vl (Vs wa0_1)), (Vi y1.2.2)], 114, none⟩, (Rw KG53 53 (Vs wa0_1) y1.2.1)])) [0, 1] [] (by decide) (pick_cons rfl (pick_cons rfl pick_nil)) pick_nil (Hn := fun x : Unit => [⟨.pointer (some wa0), [(Vi y1.1), (Vl (Vs wa0_1)), (Vi y1.2.2)], 114, none⟩, (Rw KG53 53 (Vs wa0_1) y1.2.1)]) (fun _ => rfl) rfl rfl) (wt_none' rfl) fun ⟨⟩ => ?_
  refine s0 (rd_assign' rfl) ?_
  refine nk hK3 ?_
  refine cr fun K4 hK4 => ?_
  refine s0 (rd_move' rfl) ?_
  refine s0 (rd_binf' rfl rfl (bf_vl (fun _ => by kernel_rfl) nil_neq59_nilif)) ?_
  refine nk hK4 ?_
  refine cx_cond_f' rfl rfl ?_
  refine cx_skip' ?_
  show TX E K2 _
  refine tx_k' hK2 ?_
  refine cr fun K5 hK5 => ?_
  refine s0 (rd_move' rfl) ?_
  refine s0 (rd_move' rfl) ?_
  refine s0 (rd_nilck' rfl) ?_
  refine s0 (rd_field0' rfl Try.underlying114 rfl info61 rfl) ?_
  refine sx_ox' (ox_store' (i := 0) (o := 0) rfl rfl (lv_vl rfl rfl) ⟨rfl, rfl, rfl, rfl⟩ rfl info61 rfl (H' := [⟨.pointer (some wa0), [(Vi a1), (Vl (Vs wa0_1)), (Vi y1.2.2)], 114, none⟩, (Rw KG53 53 (Vs wa0_1) y1.2.1)]) rfl) (wt_none' rfl) fun _ => ?_
  refine nk hK5 ?_
  refine cr fun K6 hK6 => ?_
  refine s0 (rd_assign' rfl) ?_
  refine nk hK6 ?_
  refine cx_retc' ?_
  replace hp := Option.some.inj hp
  subst hp
  refine tx_pick' (L' := [(4, Ve)]) (H' := [⟨.pointer (some wa0), [(Vi a1), (Vl (Vs wa0_1)), (Vi y1.2.2)], 114, none⟩, (Rw KG53 53 (Vs wa0_1) y1.2.1)]) [0, 1] (sub_cons rfl sub_nil) (by decide) (pick_cons rfl (pick_cons rfl pick_nil)) ?_
  exact tx_ret1' Try.results33 rfl () (rv_tmp' rfl) (List.Sublist.refl _)
 dsimp only at hp
 refine sx_ox' (ox_callg' (ent_fn' Try.func79 isn79 rfl rfl) (gogeom_GeometryCollection_CheckLayout_v2_sim _ _ _ _ hr8 : Sx.Fn Try.prog 79 [(Vp wa0), (Vi a1)] [⟨.pointer (some wa0), [(Vi a0_0), (Vl (Vs wa0_1)), (Vi a0_2)], 114, none⟩, (Rw KG53 53 (Vs wa0_1) a0_1)] (fun x : Unit => (If 134 (Ag [(Vi y1.2.2.2.1), (Vi y1.2.2.2.2)]))) (fun x => [⟨.pointer (some wa0), [(Vi y1.1), (Vl (Vs wa0_1)), (Vi y1.2.2.1)], 114, none⟩, (Rw KG53 53 (Vs wa0_1) y1.2.1)])) [0, 1] [] (by decide) (pick_cons rfl (pick_cons rfl pick_nil)) pick_nil (Hn := fun x : Unit => [⟨.pointer (some wa0), [(Vi y1.1), (Vl (Vs wa0_1)), (Vi y1.2.2.1)], 114, none⟩, (Rw KG53 53 (Vs wa0_1) y1.2.1)]) (fun _ => rfl) rfl rfl) (wt_none' rfl) fun ⟨⟩ => ?_
 refine s0 (rd_assign' rfl) ?_
 refine nk hK3 ?_
 refine cr fun K4 hK4 => ?_
 refine s0 (rd_move' rfl) ?_
 refine s0 (rd_binf' rfl rfl (bf_if (fun _ _ => by kernel_rfl) nil_neq59_if134)) ?_
 refine nk hK4 ?_
 refine cx_cond_t' rfl rfl ?_
 refine cr fun K7 hK7 => ?_
 refine s0 (rd_move' rfl) ?_
 refine s0 (rd_assign' rfl) ?_
 refine nk hK7 ?_
 refine cx_retc' ?_
 replace hp := Option.some.inj hp
 subst hp
 refine tx_pick' (L' := [(4, (If 134 (Ag [(Vi y1.2.2.2.1), (Vi y1.2.2.2.2)])))]) (H' := [⟨.pointer (some wa0), [(Vi y1.1), (Vl (Vs wa0_1)), (Vi y1.2.2.1)], 114, none⟩, (Rw KG53 53 (Vs wa0_1) y1.2.1)]) [0, 1] (sub_cons rfl sub_nil) (by decide) (pick_cons rfl (pick_cons rfl pick_nil)) ?_
 exact tx_ret1' Try.results33 rfl () (rv_tmp' rfl) (List.Sublist.refl _)

def gogeom_GeometryCollection_MustSetLayout_v2 (k : Nat) (a0_0 : Int) (a0_1 : List G53) (a0_2 : Int) (a1 : Int) : Option (Int × (List G53) × Int) :=
 (gogeom_GeometryCollection_SetLayout_v2 k a0_0 a0_1 a0_2 a1) >>= fun r8 =>
 match r8 with
  | (.inl y1) =>
   (some (y1.1, y1.2.1, y1.2.2))
  | (.inr y1) =>
   (none)

theorem gogeom_GeometryCollection_MustSetLayout_v2_sim {k : Nat} {wa0 : Addr} {wa0_1 : Gs} (a0_0 : Int) (a0_1 : List G53) (a0_2 : Int) (a1 : Int) {out : Int × (List G53) × Int} (hp : gogeom_GeometryCollection_MustSetLayout_v2 k a0_0 a0_1 a0_2 a1 = some out) : Sx.Fn Try.prog 78 [(Vp wa0), (Vi a1)] [⟨.pointer (some wa0), [(Vi a0_0), (Vl (Vs wa0_1)), (Vi a0_2)], 114, none⟩, (Rw KG53 53 (Vs wa0_1) a0_1)] (fun w : Unit => (Vp wa0)) (fun w => [⟨.pointer (some wa0), [(Vi out.1), (Vl (Vs wa0_1)), (Vi out.2.2)], 114, none⟩, (Rw KG53 53 (Vs wa0_1) out.2.1)]) := by
 unfold gogeom_GeometryCollection_MustSetLayout_v2 at hp
 refine fn_of Try.func78 rfl Try.ntmps78 rfl fun E hM => ?_
 refine cr fun K1 hK1 => ?_
 refine s0 (rd_assign' rfl) ?_
 refine nk hK1 ?_
 refine cx_seq' fun K2 hK2 => ?_
 refine cr fun K3 hK3 => ?_
 refine s0 (rd_move' rfl) ?_
 refine s0 (rd_move' rfl) ?_
 obtain ⟨r8, hr8, hp⟩ := bind_some hp
 rcases r8 with y1 | y1
 ·dsimp only at hp
  refine sx_ox' (ox_callg' (ent_fn' Try.func33 isn33 rfl rfl) (gogeom_GeometryCollection_SetLayout_v2_sim _ _ _ _ hr8 : Sx.Fn Try.prog 33 [(Vp wa0), (Vi a1)] [⟨.pointer (some wa0), [(Vi a0_0), (Vl (Vs wa0_1)), (Vi a0_2)], 114, none⟩, (Rw KG53 53 (Vs wa0_1) a0_1)] (fun x : Unit => Ve) (fun x => [⟨.pointer (some wa0), [(Vi y1.1), (Vl (Vs wa0_1)), (Vi y1.2.2)], 114, none⟩, (Rw KG53 53 (Vs wa0_1) y1.2.1)])) [0, 1] [] (by decide) (pick_cons rfl (pick_cons rfl pick_nil)) pick_nil (Hn := fun x : Unit => [⟨.pointer (some wa0), [(Vi y1.1), (Vl (Vs wa0_1)), (Vi y1.2.2)], 114, none⟩, (Rw KG53 53 (Vs wa0_1) y1.2.1)]) (fun _ => rfl) rfl rfl) (wt_none' rfl) fun ⟨⟩ => ?_
  refine s0 (rd_assign' rfl) ?_
  refine nk hK3 ?_
  refine cr fun K4 hK4 => ?_
  refine s0 (rd_move' rfl) ?_
  refine s0 (rd_binf' rfl rfl (bf_vl (fun _ => by kernel_rfl) nil_neq59_nilif)) ?_
  refine nk hK4 ?_
  refine cx_cond_f' rfl rfl ?_
  refine cx_skip' ?_
  show TX E K2 _
  refine tx_k' hK2 ?_
  refine cr fun K5 hK5 => ?_
  refine s0 (rd_move' rfl) ?_
  refine s0 (rd_assign' rfl) ?_
  refine nk hK5 ?_
  refine cx_retc' ?_
  replace hp := Option.some.inj hp
  subst hp
  refine tx_pick' (L' := [(4, (Vp wa0))]) (H' := [⟨.pointer (some wa0), [(Vi y1.1), (Vl (Vs wa0_1)), (Vi y1.2.2)], 114, none⟩, (Rw KG53 53 (Vs wa0_1) y1.2.1)]) [0, 1] (sub_cons rfl sub_nil) (by decide) (pick_cons rfl (pick_cons rfl pick_nil)) ?_
  exact tx_ret1' Try.results78 rfl () (rv_tmp' rfl) (List.Sublist.refl _)
 dsimp only at hp
 refine sx_ox' (ox_callg' (ent_fn' Try.func33 isn33 rfl rfl) (gogeom_GeometryCollection_SetLayout_v2_sim _ _ _ _ hr8 : Sx.Fn Try.prog 33 [(Vp wa0), (Vi a1)] [⟨.pointer (some wa0), [(Vi a0_0), (Vl (Vs wa0_1)), (Vi a0_2)], 114, none⟩, (Rw KG53 53 (Vs wa0_1) a0_1)] (fun x : Unit => (If 134 (Ag [(Vi y1.2.2.2.1), (Vi y1.2.2.2.2)]))) (fun x => [⟨.pointer (some wa0), [(Vi y1.1), (Vl (Vs wa0_1)), (Vi y1.2.2.1)], 114, none⟩, (Rw KG53 53 (Vs wa0_1) y1.2.1)])) [0, 1] [] (by decide) (pick_cons rfl (pick_cons rfl pick_nil)) pick_nil (Hn := fun x : Unit => [⟨.pointer (some wa0), [(Vi y1.1), (Vl (Vs wa0_1)), (Vi y1.2.2.1)], 114, none⟩, (Rw KG53 53 (Vs wa0_1) y1.2.1)]) (fun _ => rfl) rfl rfl) (wt_none' rfl) fun ⟨⟩ => ?_
 refine s0 (rd_assign' rfl) ?_
 refine nk hK3 ?_
 refine cr fun K4 hK4 => ?_
 refine s0 (rd_move' rfl) ?_
 refine s0 (rd_binf' rfl rfl (bf_if (fun _ _ => by kernel_rfl) nil_neq59_if134)) ?_
 refine nk hK4 ?_
 refine cx_cond_t' rfl rfl ?_
 refine cx_region' ?_
 refine s0 (rd_move' rfl) ?_
 cases hp

end Go.Proofs.Ytmagcmeknclljaa
