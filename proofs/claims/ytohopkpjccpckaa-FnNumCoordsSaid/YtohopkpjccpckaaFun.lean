/-
  Plain functions for the Go functions that this law reaches, and that each call does what its plain function says. Printed by a program of ours.
-/
import Derived.Test.YtohopkpjccpckaaProg
import Derived.Test.YtohopkpjccpckaaSxZ
import Derived.Test.YtohopkpjccpckaaFun1
namespace Go.Proofs.Ytohopkpjccpckaa
open Go.Sx
set_option linter.unusedVariables false
set_option maxRecDepth 100000

def impl_intss_l1s (a0 : List (List Int)) (k : Nat) (rec1 : ((List (List Int)) × Int) → Option ((List (List Int)))) (x1 : List (List Int)) (x2 : Int) : Option ((List (List Int))) :=
  br (decide (x2 < (a0.length : Int)))
    ((idx a0 x2) >>= fun r10 =>
    (impl_ints k r10) >>= fun r14 =>
    (apd 24 x1 ([r14])) >>= fun r16 =>
    rec1 (r16, (iadd .i64 x2 1)))
    (some x1)
def impl_intss_l1 (a0 : List (List Int)) : Nat → ((List (List Int)) × Int) → Option ((List (List Int)))
  | 0, _ => none
  | k + 1, v => impl_intss_l1s a0 k (impl_intss_l1 a0 k) v.1 v.2
def impl_intss (k : Nat) (a0 : List (List Int)) : Option ((List (List Int))) :=
  (impl_intss_l1 a0 k ([], 0)) >>= fun v2 =>
  some v2

theorem impl_intss_sim {k : Nat}  (a0 : List (List Int)) {out : (List (List Int))} (hp : impl_intss k a0 = some out) : Go.Sx.Fn Try.prog 51 [(Sl (Kl (Ki .i64)) a0)] [] (fun w : Unit => (Sl (Kl (Ki .i64)) out)) (fun w => []) := by
  unfold impl_intss at hp
  refine fn_of Try.func51 rfl Try.ntmps51 rfl fun E hM => ?_
  refine cx_seq' fun K1 hK1 => ?_
  refine cx_region' ?_
  refine sx_rd' (rd_assign' rfl) rfl rfl (wt_none' rfl) ?_
  refine sx_nil' ?_
  show TX E K1 _
  refine tx_k' hK1 ?_
  refine cx_seq' fun K2 hK2 => ?_
  refine cx_region' ?_
  refine sx_rd' (rd_assign' rfl) rfl rfl (wt_none' rfl) ?_
  refine sx_nil' ?_
  show TX E K2 _
  refine tx_k' hK2 ?_
  refine cx_seq' fun K3 hK3 => ?_
  refine cx_seq' fun K4 hK4 => ?_
  refine cx_region' ?_
  refine sx_rd' (rd_move' rfl) rfl rfl (wt_none' rfl) ?_
  refine sx_rd' (rd_len' rfl Try.underlying24) rfl rfl (wt_none' rfl) ?_
  refine sx_rd' (rd_move' rfl) rfl rfl (wt_none' rfl) ?_
  refine sx_nil' ?_
  show TX E K4 _
  refine tx_k' hK4 ?_
  refine cx_block' ?_
  obtain ⟨v2, hy1, hp⟩ := bind_some hp
  refine tx_nilrow' (Kl (Ki .i64)) 23 ?_
  refine cx_loopg' (F := impl_intss_l1 a0) (G := fun k R v => impl_intss_l1s a0 k R v.1 v.2) (x := ([], 0)) (gh := (none, 0, 0)) (fun (v1 : (List (List Int)) × Int) (w1 : Gs) => (⟨19, [], [(3, (Vl (Vs w1))), (6, (Sl (Kl (Ki .i64)) a0)), (7, (Vl (.int .i64 (a0.length : Int)))), (8, (Vl (.int .i64 v1.2)))], [(Rw (Kl (Ki .i64)) 23 (Vs w1) v1.1)]⟩ : St)) (fun (v2 : (List (List Int))) => Zg E (Exit.exit 0) (fun (w2 : Gs) => (⟨19, [], [(3, (Vl (Vs w2)))], [(Rw (Kl (Ki .i64)) 23 (Vs w2) v2)]⟩ : St))) (fun _ => rfl) (fun _ _ => rfl) ?_ hy1 (tx_to' rfl [0] (sub_cons rfl (sub_cons rfl (sub_cons rfl (sub_cons rfl sub_nil)))) (by decide) (pick_cons rfl pick_nil)) ?_
  · clear hp hy1
    clear v2
    intro k rec1 KY1 ih1
    rintro ⟨x1, x2⟩ g901 y1 hp
    replace hp : impl_intss_l1s a0 k rec1 x1 x2 = some y1 := hp
    unfold impl_intss_l1s at hp
    refine cx_seq' fun K9 hK9 => ?_
    refine cx_region' ?_
    refine sx_rd' (rd_bin' rfl rfl eg_int ru_lss) rfl rfl (wt_none' rfl) ?_
    refine sx_nil' ?_
    show TX E K9 _
    refine tx_k' hK9 ?_
    refine cx_seq' fun K10 hK10 => ?_
    refine cx_cond' rfl (fun h3 => ?_) (fun h3 => ?_)
    · replace hp := (br_t h3).symm.trans hp
      refine cx_skip' ?_
      show TX E K10 _
      refine tx_k' hK10 ?_
      refine cx_seq' fun K11 hK11 => ?_
      refine cx_block' ?_
      refine cx_seq' fun K12 hK12 => ?_
      refine cx_region' ?_
      obtain ⟨r10, hr10, hp⟩ := bind_some hp
      refine sx_rd' (rd_at' (K := (Kl (Ki .i64))) rfl rfl hr10 Try.underlying24 info23) rfl rfl (wt_none' rfl) ?_
      refine sx_rd' (rd_load_pt' rfl rfl flat23) rfl rfl (wt_none' rfl) ?_
      refine sx_rd' (rd_assign' rfl) rfl rfl (wt_none' rfl) ?_
      refine sx_nil' ?_
      show TX E K12 _
      refine tx_k' hK12 ?_
      refine cx_region' ?_
      refine sx_rd' (rd_move' rfl) rfl rfl (wt_none' rfl) ?_
      refine sx_rd' (rd_move' rfl) rfl rfl (wt_none' rfl) ?_
      obtain ⟨r14, hr14, hp⟩ := bind_some hp
      refine sx_ox' (ox_calln' (ent_fn' Try.func84 isn84 rfl rfl) (impl_ints_sim _ hr14 : Go.Sx.Fn Try.prog 84 [(Sl (Ki .i64) r10)] [] (fun x : Unit => (Sl (Ki .i64) r14)) (fun x => [])) (Hn := fun x : Unit => [(Rw (Kl (Ki .i64)) 23 (Vs g901) x1)]) (fun _ => rfl) rfl rfl) (wt_none' rfl) fun ⟨⟩ => ?_
      refine sx_ox' (ox_rowlit' (K := (Kl (Ki .i64))) (xs := [r14]) (qs := [(0, [(Sl (Ki .i64) r14)])]) ⟨rfl, ⟨_, rfl, (lv_sl _ _)⟩, trivial⟩ Try.underlying24 info23 rfl rfl rfl rfl rfl (by kernel_rfl) rfl rfl rfl) (wt_none' rfl) fun g15 => ?_
      obtain ⟨r16, hr16, hp⟩ := bind_some hp
      refine sx_ox' (ox_append' (K := (Kl (Ki .i64))) (i := 1) (xs := x1) (ys := ([r14])) rfl rfl rfl (sr_row' (j := 0) rfl rfl rfl Try.underlying24) hr16 Try.underlying24 info23 rfl rfl rfl (H' := [(Rw (Kl (Ki .i64)) 23 (Vs g15) ([r14]))]) rfl) (wt_none' rfl) fun g16 => ?_
      refine sx_rd' (rd_assign' rfl) rfl rfl (wt_none' rfl) ?_
      refine sx_nil' ?_
      show TX E K11 _
      refine tx_k' hK11 ?_
      refine cx_region' ?_
      refine sx_rd' (rd_bin' rfl rfl eg_int ru_add) rfl rfl (wt_none' rfl) ?_
      refine sx_rd' (rd_move' rfl) rfl rfl (wt_none' rfl) ?_
      refine sx_nil' ?_
      show TX E (KY1 _) _
      exact tx_pick' [0] (sub_cons rfl (sub_cons rfl (sub_cons rfl (sub_cons rfl sub_nil)))) (by decide) (pick_cons rfl pick_nil) (ih1 (r16, (iadd .i64 x2 1)) g16 _ hp)
    · replace hp := (br_f h3).symm.trans hp
      refine cx_exit' ?_
      replace hp := Option.some.inj hp
      subst hp
      show TX E (Zg E (Exit.exit 0) _ (Exit.exit 0)) _
      exact tx_zend' g901 rfl [0] (sub_cons rfl sub_nil) (by decide) (pick_cons rfl pick_nil)
  · refine zg_out fun w2 => ?_
    show TX E K3 _
    refine tx_k' hK3 ?_
    refine cx_seq' fun K13 hK13 => ?_
    refine cx_region' ?_
    refine sx_rd' (rd_move' rfl) rfl rfl (wt_none' rfl) ?_
    refine sx_rd' (rd_assign' rfl) rfl rfl (wt_none' rfl) ?_
    refine sx_nil' ?_
    show TX E K13 _
    refine tx_k' hK13 ?_
    refine cx_retc' ?_
    replace hp := Option.some.inj hp
    subst hp
    refine tx_fz' (frz_row 0 [(3, (Vl (Vs w2)), (Sl (Kl (Ki .i64)) v2)), (18, (Vl (Vs w2)), (Sl (Kl (Ki .i64)) v2)), (2, (Vl (Vs w2)), (Sl (Kl (Ki .i64)) v2))] (K := (Kl (Ki .i64))) (xs := v2) (by decide) rfl ⟨⟨rfl, frz_it⟩, ⟨rfl, frz_it⟩, ⟨rfl, frz_it⟩, trivial⟩ (H' := []) frzH_refl) ?_
    refine tx_pick' (L' := [(2, (Sl (Kl (Ki .i64)) v2))]) (H' := []) [] (sub_cons rfl sub_nil) (by decide) pick_nil ?_
    exact tx_ret1' Try.results51 rfl () (rv_tmp' rfl) (List.Sublist.refl _)

def gogeom_NewMultiPolygonFlat (k : Nat) (a0 : Int) (a1 : List Nat) (a2 : List (List Int)) : Option (Int × Int × (List Nat) × Int × (List (List Int))) :=
  (gogeom_Layout_Stride k a0) >>= fun r18 =>
  some (a0, r18, a1, 0, a2)

theorem gogeom_NewMultiPolygonFlat_sim {k : Nat}  (a0 : Int) (a1 : List Nat) (a2 : List (List Int)) {out : Int × Int × (List Nat) × Int × (List (List Int))} (hp : gogeom_NewMultiPolygonFlat k a0 a1 a2 = some out) : Go.Sx.Fn Try.prog 99 [(Vl (.int .i64 a0)), (Sl Kf a1), (Sl (Kl (Ki .i64)) a2)] [] (fun w : Addr => (Vl (.pointer (some w)))) (fun w => [⟨.pointer (some w), [(Vl (.int .i64 out.1)), (Vl (.int .i64 out.2.1)), (Sl Kf out.2.2.1), (Vl (.int .i64 out.2.2.2.1)), (Sl (Kl (Ki .i64)) out.2.2.2.2)], 165, none⟩]) := by
  unfold gogeom_NewMultiPolygonFlat at hp
  refine fn_of Try.func99 rfl Try.ntmps99 rfl fun E hM => ?_
  refine cx_seq' fun K1 hK1 => ?_
  refine cx_region' ?_
  refine sx_rd' (rd_assign' rfl) rfl rfl (wt_none' rfl) ?_
  refine sx_nil' ?_
  show TX E K1 _
  refine tx_k' hK1 ?_
  refine cx_seq' fun K2 hK2 => ?_
  refine cx_region' ?_
  refine sx_ox' (ox_alloc' info165 rfl rfl rfl rfl (l := [(Vl (.int .i64 0)), (Vl (.int .i64 0)), (Vl (.slice none 0 0)), (Vl (.int .i64 0)), (Vl (.slice none 0 0))]) rfl) (wt_none' rfl) fun q8 => ?_
  refine sx_rd' (rd_assign' rfl) rfl rfl (wt_none' rfl) ?_
  refine sx_nil' ?_
  show TX E K2 _
  refine tx_k' hK2 ?_
  refine cx_seq' fun K3 hK3 => ?_
  refine cx_region' ?_
  refine sx_rd' (rd_move' rfl) rfl rfl (wt_none' rfl) ?_
  refine sx_rd' (rd_move' rfl) rfl rfl (wt_none' rfl) ?_
  refine sx_rd' (rd_nilck' rfl) rfl rfl (wt_none' rfl) ?_
  refine sx_rd' (rd_field0' rfl Try.underlying165 rfl info163 rfl) rfl rfl (wt_none' rfl) ?_
  refine sx_rd' (rd_field0' rfl Try.underlying163 rfl info149 rfl) rfl rfl (wt_none' rfl) ?_
  refine sx_rd' (rd_field0' rfl Try.underlying149 rfl info112 rfl) rfl rfl (wt_none' rfl) ?_
  refine sx_rd' (rd_field0' rfl Try.underlying112 rfl info65 rfl) rfl rfl (wt_none' rfl) ?_
  refine sx_ox' (ox_store' (i := 0) (o := 0) rfl rfl (lv_vl rfl rfl) ⟨rfl, rfl, rfl, rfl⟩ rfl info65 rfl (H' := [⟨.pointer (some q8), [(Vl (.int .i64 a0)), (Vl (.int .i64 0)), (Vl (.slice none 0 0)), (Vl (.int .i64 0)), (Vl (.slice none 0 0))], 165, none⟩]) rfl) (wt_none' rfl) fun _ => ?_
  refine sx_nil' ?_
  show TX E K3 _
  refine tx_k' hK3 ?_
  refine cx_seq' fun K4 hK4 => ?_
  refine cx_region' ?_
  refine sx_rd' (rd_move' rfl) rfl rfl (wt_none' rfl) ?_
  refine sx_rd' (rd_move' rfl) rfl rfl (wt_none' rfl) ?_
  obtain ⟨r18, hr18, hp⟩ := bind_some hp
  refine sx_ox' (ox_calln' (ent_fn' Try.func80 isn80 rfl rfl) (gogeom_Layout_Stride_sim _ hr18 : Go.Sx.Fn Try.prog 80 [(Vl (.int .i64 a0))] [] (fun x : Unit => (Vl (.int .i64 r18))) (fun x => [])) (Hn := fun x : Unit => [⟨.pointer (some q8), [(Vl (.int .i64 a0)), (Vl (.int .i64 0)), (Vl (.slice none 0 0)), (Vl (.int .i64 0)), (Vl (.slice none 0 0))], 165, none⟩]) (fun _ => rfl) rfl rfl) (wt_none' rfl) fun ⟨⟩ => ?_
  refine sx_rd' (rd_nilck' rfl) rfl rfl (wt_none' rfl) ?_
  refine sx_rd' (rd_field0' rfl Try.underlying165 rfl info163 rfl) rfl rfl (wt_none' rfl) ?_
  refine sx_rd' (rd_field0' rfl Try.underlying163 rfl info149 rfl) rfl rfl (wt_none' rfl) ?_
  refine sx_rd' (rd_field0' rfl Try.underlying149 rfl info112 rfl) rfl rfl (wt_none' rfl) ?_
  refine sx_rd' (rd_field' (off := 1) rfl Try.underlying112 rfl info3 rfl) rfl rfl (wt_none' rfl) ?_
  refine sx_ox' (ox_store' (i := 0) (o := 1) rfl rfl (lv_vl rfl rfl) ⟨rfl, rfl, rfl, rfl⟩ rfl info3 rfl (H' := [⟨.pointer (some q8), [(Vl (.int .i64 a0)), (Vl (.int .i64 r18)), (Vl (.slice none 0 0)), (Vl (.int .i64 0)), (Vl (.slice none 0 0))], 165, none⟩]) rfl) (wt_none' rfl) fun _ => ?_
  refine sx_nil' ?_
  show TX E K4 _
  refine tx_k' hK4 ?_
  refine cx_seq' fun K5 hK5 => ?_
  refine cx_region' ?_
  refine sx_rd' (rd_move' rfl) rfl rfl (wt_none' rfl) ?_
  refine sx_rd' (rd_move' rfl) rfl rfl (wt_none' rfl) ?_
  refine sx_rd' (rd_nilck' rfl) rfl rfl (wt_none' rfl) ?_
  refine sx_rd' (rd_field0' rfl Try.underlying165 rfl info163 rfl) rfl rfl (wt_none' rfl) ?_
  refine sx_rd' (rd_field0' rfl Try.underlying163 rfl info149 rfl) rfl rfl (wt_none' rfl) ?_
  refine sx_rd' (rd_field0' rfl Try.underlying149 rfl info112 rfl) rfl rfl (wt_none' rfl) ?_
  refine sx_rd' (rd_field' (off := 2) rfl Try.underlying112 rfl info22 rfl) rfl rfl (wt_none' rfl) ?_
  refine sx_ox' (ox_store' (i := 0) (o := 2) rfl rfl (lv_sl _ _) ⟨rfl, rfl, rfl, rfl⟩ rfl info22 rfl (H' := [⟨.pointer (some q8), [(Vl (.int .i64 a0)), (Vl (.int .i64 r18)), (Sl Kf a1), (Vl (.int .i64 0)), (Vl (.slice none 0 0))], 165, none⟩]) rfl) (wt_none' rfl) fun _ => ?_
  refine sx_nil' ?_
  show TX E K5 _
  refine tx_k' hK5 ?_
  refine cx_seq' fun K6 hK6 => ?_
  refine cx_region' ?_
  refine sx_rd' (rd_move' rfl) rfl rfl (wt_none' rfl) ?_
  refine sx_rd' (rd_move' rfl) rfl rfl (wt_none' rfl) ?_
  refine sx_rd' (rd_nilck' rfl) rfl rfl (wt_none' rfl) ?_
  refine sx_rd' (rd_field0' rfl Try.underlying165 rfl info163 rfl) rfl rfl (wt_none' rfl) ?_
  refine sx_rd' (rd_field' (off := 4) rfl Try.underlying163 rfl info24 rfl) rfl rfl (wt_none' rfl) ?_
  refine sx_ox' (ox_store' (i := 0) (o := 4) rfl rfl (lv_sl _ _) ⟨rfl, rfl, rfl, rfl⟩ rfl info24 rfl (H' := [⟨.pointer (some q8), [(Vl (.int .i64 a0)), (Vl (.int .i64 r18)), (Sl Kf a1), (Vl (.int .i64 0)), (Sl (Kl (Ki .i64)) a2)], 165, none⟩]) rfl) (wt_none' rfl) fun _ => ?_
  refine sx_nil' ?_
  show TX E K6 _
  refine tx_k' hK6 ?_
  refine cx_seq' fun K7 hK7 => ?_
  refine cx_region' ?_
  refine sx_rd' (rd_move' rfl) rfl rfl (wt_none' rfl) ?_
  refine sx_rd' (rd_assign' rfl) rfl rfl (wt_none' rfl) ?_
  refine sx_nil' ?_
  show TX E K7 _
  refine tx_k' hK7 ?_
  refine cx_retc' ?_
  replace hp := Option.some.inj hp
  subst hp
  refine tx_pick' (L' := [(6, (Vl (.pointer (some q8))))]) (H' := [⟨.pointer (some q8), [(Vl (.int .i64 a0)), (Vl (.int .i64 r18)), (Sl Kf a1), (Vl (.int .i64 0)), (Sl (Kl (Ki .i64)) a2)], 165, none⟩]) [0] (sub_cons rfl sub_nil) (by decide) (pick_cons rfl pick_nil) ?_
  exact tx_ret1' Try.results99 rfl q8 (rv_tmp' rfl) (List.Sublist.refl _)

def gogeom_MultiPolygon_SetSRID (k : Nat) (a0_0 : Int) (a0_1 : Int) (a0_2 : List Nat) (a0_3 : Int) (a0_4 : List (List Int)) (a1 : Int) : Option (Int × Int × (List Nat) × Int × (List (List Int))) :=
  some (a0_0, a0_1, a0_2, a1, a0_4)

theorem gogeom_MultiPolygon_SetSRID_sim {k : Nat} {wa0 : Addr} (a0_0 : Int) (a0_1 : Int) (a0_2 : List Nat) (a0_3 : Int) (a0_4 : List (List Int)) (a1 : Int) {out : Int × Int × (List Nat) × Int × (List (List Int))} (hp : gogeom_MultiPolygon_SetSRID k a0_0 a0_1 a0_2 a0_3 a0_4 a1 = some out) : Go.Sx.Fn Try.prog 100 [(Vl (.pointer (some wa0))), (Vl (.int .i64 a1))] [⟨.pointer (some wa0), [(Vl (.int .i64 a0_0)), (Vl (.int .i64 a0_1)), (Sl Kf a0_2), (Vl (.int .i64 a0_3)), (Sl (Kl (Ki .i64)) a0_4)], 165, none⟩] (fun w : Unit => (Vl (.pointer (some wa0)))) (fun w => [⟨.pointer (some wa0), [(Vl (.int .i64 out.1)), (Vl (.int .i64 out.2.1)), (Sl Kf out.2.2.1), (Vl (.int .i64 out.2.2.2.1)), (Sl (Kl (Ki .i64)) out.2.2.2.2)], 165, none⟩]) := by
  unfold gogeom_MultiPolygon_SetSRID at hp
  refine fn_of Try.func100 rfl Try.ntmps100 rfl fun E hM => ?_
  refine cx_seq' fun K1 hK1 => ?_
  refine cx_region' ?_
  refine sx_rd' (rd_assign' rfl) rfl rfl (wt_none' rfl) ?_
  refine sx_nil' ?_
  show TX E K1 _
  refine tx_k' hK1 ?_
  refine cx_seq' fun K2 hK2 => ?_
  refine cx_region' ?_
  refine sx_rd' (rd_move' rfl) rfl rfl (wt_none' rfl) ?_
  refine sx_rd' (rd_move' rfl) rfl rfl (wt_none' rfl) ?_
  refine sx_rd' (rd_nilck' rfl) rfl rfl (wt_none' rfl) ?_
  refine sx_rd' (rd_field0' rfl Try.underlying165 rfl info163 rfl) rfl rfl (wt_none' rfl) ?_
  refine sx_rd' (rd_field0' rfl Try.underlying163 rfl info149 rfl) rfl rfl (wt_none' rfl) ?_
  refine sx_rd' (rd_field0' rfl Try.underlying149 rfl info112 rfl) rfl rfl (wt_none' rfl) ?_
  refine sx_rd' (rd_field' (off := 3) rfl Try.underlying112 rfl info3 rfl) rfl rfl (wt_none' rfl) ?_
  refine sx_ox' (ox_store' (i := 0) (o := 3) rfl rfl (lv_vl rfl rfl) ⟨rfl, rfl, rfl, rfl⟩ rfl info3 rfl (H' := [⟨.pointer (some wa0), [(Vl (.int .i64 a0_0)), (Vl (.int .i64 a0_1)), (Sl Kf a0_2), (Vl (.int .i64 a1)), (Sl (Kl (Ki .i64)) a0_4)], 165, none⟩]) rfl) (wt_none' rfl) fun _ => ?_
  refine sx_nil' ?_
  show TX E K2 _
  refine tx_k' hK2 ?_
  refine cx_seq' fun K3 hK3 => ?_
  refine cx_region' ?_
  refine sx_rd' (rd_move' rfl) rfl rfl (wt_none' rfl) ?_
  refine sx_rd' (rd_assign' rfl) rfl rfl (wt_none' rfl) ?_
  refine sx_nil' ?_
  show TX E K3 _
  refine tx_k' hK3 ?_
  refine cx_retc' ?_
  replace hp := Option.some.inj hp
  subst hp
  refine tx_pick' (L' := [(4, (Vl (.pointer (some wa0))))]) (H' := [⟨.pointer (some wa0), [(Vl (.int .i64 a0_0)), (Vl (.int .i64 a0_1)), (Sl Kf a0_2), (Vl (.int .i64 a1)), (Sl (Kl (Ki .i64)) a0_4)], 165, none⟩]) [0] (sub_cons rfl sub_nil) (by decide) (pick_cons rfl pick_nil) ?_
  exact tx_ret1' Try.results100 rfl () (rv_tmp' rfl) (List.Sublist.refl _)

def gogeom_NewGeometryCollection (k : Nat)  : Option (Int) :=
  some 0

theorem gogeom_NewGeometryCollection_sim {k : Nat}   {out : Int} (hp : gogeom_NewGeometryCollection k = some out) : Go.Sx.Fn Try.prog 101 [] [] (fun w : Addr => (Vl (.pointer (some w)))) (fun w => [⟨.pointer (some w), [(Vl (.int .i64 out)), (Vl (.slice none 0 0)), (Vl (.int .i64 out))], 145, none⟩]) := by
  unfold gogeom_NewGeometryCollection at hp
  refine fn_of Try.func101 rfl Try.ntmps101 rfl fun E hM => ?_
  refine cx_seq' fun K1 hK1 => ?_
  refine cx_region' ?_
  refine sx_rd' (rd_assign' rfl) rfl rfl (wt_none' rfl) ?_
  refine sx_nil' ?_
  show TX E K1 _
  refine tx_k' hK1 ?_
  refine cx_seq' fun K2 hK2 => ?_
  refine cx_region' ?_
  refine sx_rd' (rd_build' (pls := [(0, 1), (1, 1), (2, 1)]) (qs := []) (r := [(Vl (.int .i64 0)), (Vl (.slice none 0 0)), (Vl (.int .i64 0))]) trivial Try.underlying145 has145 places145 info145 rfl rfl rfl) rfl rfl (wt_none' rfl) ?_
  refine sx_ox' (ox_box' rfl (lv_ag _) rfl rfl) (wt_none' rfl) fun q2 => ?_
  refine sx_rd' (rd_assign' rfl) rfl rfl (wt_none' rfl) ?_
  refine sx_nil' ?_
  show TX E K2 _
  refine tx_k' hK2 ?_
  refine cx_retc' ?_
  replace hp := Option.some.inj hp
  subst hp
  refine tx_pick' (L' := [(0, (Vl (.pointer (some q2))))]) (H' := [⟨.pointer (some q2), [(Vl (.int .i64 0)), (Vl (.slice none 0 0)), (Vl (.int .i64 0))], 145, none⟩]) [0] (sub_cons rfl sub_nil) (by decide) (pick_cons rfl pick_nil) ?_
  exact tx_ret1' Try.results101 rfl q2 (rv_tmp' rfl) (List.Sublist.refl _)

def gogeom_GeometryCollection_SetSRID (k : Nat) (a0_0 : Int) (a0_2 : Int) (a1 : Int) : Option (Int × Int) :=
  some (a0_0, a1)

theorem gogeom_GeometryCollection_SetSRID_sim {k : Nat} {wa0 : Addr} (a0_0 : Int) (a0_2 : Int) (a1 : Int) {out : Int × Int} (hp : gogeom_GeometryCollection_SetSRID k a0_0 a0_2 a1 = some out) : Go.Sx.Fn Try.prog 102 [(Vl (.pointer (some wa0))), (Vl (.int .i64 a1))] [⟨.pointer (some wa0), [(Vl (.int .i64 a0_0)), (Vl (.slice none 0 0)), (Vl (.int .i64 a0_2))], 145, none⟩] (fun w : Unit => (Vl (.pointer (some wa0)))) (fun w => [⟨.pointer (some wa0), [(Vl (.int .i64 out.1)), (Vl (.slice none 0 0)), (Vl (.int .i64 out.2))], 145, none⟩]) := by
  unfold gogeom_GeometryCollection_SetSRID at hp
  refine fn_of Try.func102 rfl Try.ntmps102 rfl fun E hM => ?_
  refine cx_seq' fun K1 hK1 => ?_
  refine cx_region' ?_
  refine sx_rd' (rd_assign' rfl) rfl rfl (wt_none' rfl) ?_
  refine sx_nil' ?_
  show TX E K1 _
  refine tx_k' hK1 ?_
  refine cx_seq' fun K2 hK2 => ?_
  refine cx_region' ?_
  refine sx_rd' (rd_move' rfl) rfl rfl (wt_none' rfl) ?_
  refine sx_rd' (rd_move' rfl) rfl rfl (wt_none' rfl) ?_
  refine sx_rd' (rd_nilck' rfl) rfl rfl (wt_none' rfl) ?_
  refine sx_rd' (rd_field' (off := 2) rfl Try.underlying145 rfl info3 rfl) rfl rfl (wt_none' rfl) ?_
  refine sx_ox' (ox_store' (i := 0) (o := 2) rfl rfl (lv_vl rfl rfl) ⟨rfl, rfl, rfl, rfl⟩ rfl info3 rfl (H' := [⟨.pointer (some wa0), [(Vl (.int .i64 a0_0)), (Vl (.slice none 0 0)), (Vl (.int .i64 a1))], 145, none⟩]) rfl) (wt_none' rfl) fun _ => ?_
  refine sx_nil' ?_
  show TX E K2 _
  refine tx_k' hK2 ?_
  refine cx_seq' fun K3 hK3 => ?_
  refine cx_region' ?_
  refine sx_rd' (rd_move' rfl) rfl rfl (wt_none' rfl) ?_
  refine sx_rd' (rd_assign' rfl) rfl rfl (wt_none' rfl) ?_
  refine sx_nil' ?_
  show TX E K3 _
  refine tx_k' hK3 ?_
  refine cx_retc' ?_
  replace hp := Option.some.inj hp
  subst hp
  refine tx_pick' (L' := [(4, (Vl (.pointer (some wa0))))]) (H' := [⟨.pointer (some wa0), [(Vl (.int .i64 a0_0)), (Vl (.slice none 0 0)), (Vl (.int .i64 a1))], 145, none⟩]) [0] (sub_cons rfl sub_nil) (by decide) (pick_cons rfl pick_nil) ?_
  exact tx_ret1' Try.results102 rfl () (rv_tmp' rfl) (List.Sublist.refl _)

def gogeom_GeometryCollection_CheckLayout_j1 (k : Nat) (a0_0 : Int) (a0_2 : Int) : Option (Int × Int) :=
  some (a0_0, a0_2)
def gogeom_GeometryCollection_CheckLayout (k : Nat) (a0_0 : Int) (a0_2 : Int) (a1 : Int) : Option (Int × Int) :=
  br (!decide (a1 = 0))
    (gogeom_GeometryCollection_CheckLayout_j1 k a0_0 a0_2)
    (gogeom_GeometryCollection_CheckLayout_j1 k a0_0 a0_2)

theorem gogeom_GeometryCollection_CheckLayout_sim {k : Nat} {wa0 : Addr} (a0_0 : Int) (a0_2 : Int) (a1 : Int) {out : Int × Int} (hp : gogeom_GeometryCollection_CheckLayout k a0_0 a0_2 a1 = some out) : Go.Sx.Fn Try.prog 105 [(Vl (.pointer (some wa0))), (Vl (.int .i64 a1))] [⟨.pointer (some wa0), [(Vl (.int .i64 a0_0)), (Vl (.slice none 0 0)), (Vl (.int .i64 a0_2))], 145, none⟩] (fun w : Unit => (Vl .nilIface)) (fun w => [⟨.pointer (some wa0), [(Vl (.int .i64 out.1)), (Vl (.slice none 0 0)), (Vl (.int .i64 out.2))], 145, none⟩]) := by
  unfold gogeom_GeometryCollection_CheckLayout at hp
  refine fn_of Try.func105 rfl Try.ntmps105 rfl fun E hM => ?_
  refine cx_seq' fun K1 hK1 => ?_
  refine cx_region' ?_
  refine sx_rd' (rd_assign' rfl) rfl rfl (wt_none' rfl) ?_
  refine sx_nil' ?_
  show TX E K1 _
  refine tx_k' hK1 ?_
  refine cx_join' (fun (v1 : Unit) => (⟨29, [], [], [⟨.pointer (some wa0), [(Vl (.int .i64 a0_0)), (Vl (.slice none 0 0)), (Vl (.int .i64 a0_2))], 145, none⟩]⟩ : St)) (fun (v1 : Unit) => gogeom_GeometryCollection_CheckLayout_j1 k a0_0 a0_2 = some out) ?_ ?_
  · rintro ⟨⟩ hp
    replace hp : gogeom_GeometryCollection_CheckLayout_j1 k a0_0 a0_2 = some out := hp
    unfold gogeom_GeometryCollection_CheckLayout_j1 at hp
    refine cx_seq' fun K7 hK7 => ?_
    refine cx_region' ?_
    refine sx_rd' (rd_assign' rfl) rfl rfl (wt_none' rfl) ?_
    refine sx_nil' ?_
    show TX E K7 _
    refine tx_k' hK7 ?_
    refine cx_retc' ?_
    replace hp := Option.some.inj hp
    subst hp
    refine tx_pick' (L' := [(4, (Vl .nilIface))]) (H' := [⟨.pointer (some wa0), [(Vl (.int .i64 a0_0)), (Vl (.slice none 0 0)), (Vl (.int .i64 a0_2))], 145, none⟩]) [0] (sub_cons rfl sub_nil) (by decide) (pick_cons rfl pick_nil) ?_
    exact tx_ret1' Try.results105 rfl () (rv_tmp' rfl) (List.Sublist.refl _)
  · intro K2 hK2
    refine cx_seq' fun K3 hK3 => ?_
    refine cx_region' ?_
    refine sx_rd' (rd_move' rfl) rfl rfl (wt_none' rfl) ?_
    refine sx_rd' (rd_bin' rfl rfl eg_int ru_neq) rfl rfl (wt_none' rfl) ?_
    refine sx_nil' ?_
    show TX E K3 _
    refine tx_k' hK3 ?_
    refine cx_cond' rfl (fun h1 => ?_) (fun h1 => ?_)
    · replace hp := (br_t h1).symm.trans hp
      refine cx_seq' fun K4 hK4 => ?_
      refine cx_region' ?_
      refine sx_rd' (rd_move' rfl) rfl rfl (wt_none' rfl) ?_
      refine sx_rd' (rd_nilck' rfl) rfl rfl (wt_none' rfl) ?_
      refine sx_rd' (rd_field' (off := 1) rfl Try.underlying145 rfl info116 rfl) rfl rfl (wt_none' rfl) ?_
      refine sx_rd' (rd_load' (i := 0) (o := 1) rfl ⟨rfl, rfl, rfl, rfl⟩ rfl flat116) rfl rfl (wt_none' rfl) ?_
      refine sx_rd' (rd_lenv' rfl Try.underlying116) rfl rfl (wt_none' rfl) ?_
      refine sx_rd' (rd_move' rfl) rfl rfl (wt_none' rfl) ?_
      refine sx_nil' ?_
      show TX E K4 _
      refine tx_k' hK4 ?_
      refine cx_block' ?_
      refine tx_loop' ?_
      refine tx_round' ?_
      refine cx_seq' fun K5 hK5 => ?_
      refine cx_region' ?_
      refine sx_rd' (rd_bin' rfl rfl eg_int ru_lss) rfl rfl (wt_none' rfl) ?_
      refine sx_nil' ?_
      show TX E K5 _
      refine tx_k' hK5 ?_
      refine cx_seq' fun K6 hK6 => ?_
      refine cx_cond_f' rfl rfl ?_
      refine cx_exit' ?_
      show TX E K2 _
      exact tx_pick' [0] sub_nil (by decide) (pick_cons rfl pick_nil) (hK2 () hp)
    · replace hp := (br_f h1).symm.trans hp
      refine cx_skip' ?_
      show TX E K2 _
      exact tx_pick' [0] sub_nil (by decide) (pick_cons rfl pick_nil) (hK2 () hp)

def gogeom_GeometryCollection_SetLayout (k : Nat) (a0_0 : Int) (a0_2 : Int) (a1 : Int) : Option (Int × Int) :=
  (gogeom_GeometryCollection_CheckLayout k a0_0 a0_2 a1) >>= fun r8 =>
  some (a1, r8.2)

theorem gogeom_GeometryCollection_SetLayout_sim {k : Nat} {wa0 : Addr} (a0_0 : Int) (a0_2 : Int) (a1 : Int) {out : Int × Int} (hp : gogeom_GeometryCollection_SetLayout k a0_0 a0_2 a1 = some out) : Go.Sx.Fn Try.prog 56 [(Vl (.pointer (some wa0))), (Vl (.int .i64 a1))] [⟨.pointer (some wa0), [(Vl (.int .i64 a0_0)), (Vl (.slice none 0 0)), (Vl (.int .i64 a0_2))], 145, none⟩] (fun w : Unit => (Vl .nilIface)) (fun w => [⟨.pointer (some wa0), [(Vl (.int .i64 out.1)), (Vl (.slice none 0 0)), (Vl (.int .i64 out.2))], 145, none⟩]) := by
  unfold gogeom_GeometryCollection_SetLayout at hp
  refine fn_of Try.func56 rfl Try.ntmps56 rfl fun E hM => ?_
  refine cx_seq' fun K1 hK1 => ?_
  refine cx_region' ?_
  refine sx_rd' (rd_assign' rfl) rfl rfl (wt_none' rfl) ?_
  refine sx_nil' ?_
  show TX E K1 _
  refine tx_k' hK1 ?_
  refine cx_seq' fun K2 hK2 => ?_
  refine cx_seq' fun K3 hK3 => ?_
  refine cx_region' ?_
  refine sx_rd' (rd_move' rfl) rfl rfl (wt_none' rfl) ?_
  refine sx_rd' (rd_move' rfl) rfl rfl (wt_none' rfl) ?_
  obtain ⟨r8, hr8, hp⟩ := bind_some hp
  refine sx_ox' (ox_callg' (ent_fn' Try.func105 isn105 rfl rfl) (gogeom_GeometryCollection_CheckLayout_sim _ _ _ hr8 : Go.Sx.Fn Try.prog 105 [(Vl (.pointer (some wa0))), (Vl (.int .i64 a1))] [⟨.pointer (some wa0), [(Vl (.int .i64 a0_0)), (Vl (.slice none 0 0)), (Vl (.int .i64 a0_2))], 145, none⟩] (fun x : Unit => (Vl .nilIface)) (fun x => [⟨.pointer (some wa0), [(Vl (.int .i64 r8.1)), (Vl (.slice none 0 0)), (Vl (.int .i64 r8.2))], 145, none⟩])) [0] [] (by decide) (pick_cons rfl pick_nil) pick_nil (Hn := fun x : Unit => [⟨.pointer (some wa0), [(Vl (.int .i64 r8.1)), (Vl (.slice none 0 0)), (Vl (.int .i64 r8.2))], 145, none⟩]) (fun _ => rfl) rfl rfl) (wt_none' rfl) fun ⟨⟩ => ?_
  refine sx_rd' (rd_assign' rfl) rfl rfl (wt_none' rfl) ?_
  refine sx_nil' ?_
  show TX E K3 _
  refine tx_k' hK3 ?_
  refine cx_seq' fun K4 hK4 => ?_
  refine cx_region' ?_
  refine sx_rd' (rd_move' rfl) rfl rfl (wt_none' rfl) ?_
  refine sx_rd' (rd_binf' rfl rfl (bf_vl (fun _ => by kernel_rfl) nil_neq62_nilif)) rfl rfl (wt_none' rfl) ?_
  refine sx_nil' ?_
  show TX E K4 _
  refine tx_k' hK4 ?_
  refine cx_cond_f' rfl rfl ?_
  refine cx_skip' ?_
  show TX E K2 _
  refine tx_k' hK2 ?_
  refine cx_seq' fun K5 hK5 => ?_
  refine cx_region' ?_
  refine sx_rd' (rd_move' rfl) rfl rfl (wt_none' rfl) ?_
  refine sx_rd' (rd_move' rfl) rfl rfl (wt_none' rfl) ?_
  refine sx_rd' (rd_nilck' rfl) rfl rfl (wt_none' rfl) ?_
  refine sx_rd' (rd_field0' rfl Try.underlying145 rfl info65 rfl) rfl rfl (wt_none' rfl) ?_
  refine sx_ox' (ox_store' (i := 0) (o := 0) rfl rfl (lv_vl rfl rfl) ⟨rfl, rfl, rfl, rfl⟩ rfl info65 rfl (H' := [⟨.pointer (some wa0), [(Vl (.int .i64 a1)), (Vl (.slice none 0 0)), (Vl (.int .i64 r8.2))], 145, none⟩]) rfl) (wt_none' rfl) fun _ => ?_
  refine sx_nil' ?_
  show TX E K5 _
  refine tx_k' hK5 ?_
  refine cx_seq' fun K6 hK6 => ?_
  refine cx_region' ?_
  refine sx_rd' (rd_assign' rfl) rfl rfl (wt_none' rfl) ?_
  refine sx_nil' ?_
  show TX E K6 _
  refine tx_k' hK6 ?_
  refine cx_retc' ?_
  replace hp := Option.some.inj hp
  subst hp
  refine tx_pick' (L' := [(4, (Vl .nilIface))]) (H' := [⟨.pointer (some wa0), [(Vl (.int .i64 a1)), (Vl (.slice none 0 0)), (Vl (.int .i64 r8.2))], 145, none⟩]) [0] (sub_cons rfl sub_nil) (by decide) (pick_cons rfl pick_nil) ?_
  exact tx_ret1' Try.results56 rfl () (rv_tmp' rfl) (List.Sublist.refl _)

def gogeom_GeometryCollection_MustSetLayout (k : Nat) (a0_0 : Int) (a0_2 : Int) (a1 : Int) : Option (Int × Int) :=
  (gogeom_GeometryCollection_SetLayout k a0_0 a0_2 a1) >>= fun r8 =>
  some (r8.1, r8.2)

theorem gogeom_GeometryCollection_MustSetLayout_sim {k : Nat} {wa0 : Addr} (a0_0 : Int) (a0_2 : Int) (a1 : Int) {out : Int × Int} (hp : gogeom_GeometryCollection_MustSetLayout k a0_0 a0_2 a1 = some out) : Go.Sx.Fn Try.prog 104 [(Vl (.pointer (some wa0))), (Vl (.int .i64 a1))] [⟨.pointer (some wa0), [(Vl (.int .i64 a0_0)), (Vl (.slice none 0 0)), (Vl (.int .i64 a0_2))], 145, none⟩] (fun w : Unit => (Vl (.pointer (some wa0)))) (fun w => [⟨.pointer (some wa0), [(Vl (.int .i64 out.1)), (Vl (.slice none 0 0)), (Vl (.int .i64 out.2))], 145, none⟩]) := by
  unfold gogeom_GeometryCollection_MustSetLayout at hp
  refine fn_of Try.func104 rfl Try.ntmps104 rfl fun E hM => ?_
  refine cx_seq' fun K1 hK1 => ?_
  refine cx_region' ?_
  refine sx_rd' (rd_assign' rfl) rfl rfl (wt_none' rfl) ?_
  refine sx_nil' ?_
  show TX E K1 _
  refine tx_k' hK1 ?_
  refine cx_seq' fun K2 hK2 => ?_
  refine cx_seq' fun K3 hK3 => ?_
  refine cx_region' ?_
  refine sx_rd' (rd_move' rfl) rfl rfl (wt_none' rfl) ?_
  refine sx_rd' (rd_move' rfl) rfl rfl (wt_none' rfl) ?_
  obtain ⟨r8, hr8, hp⟩ := bind_some hp
  refine sx_ox' (ox_callg' (ent_fn' Try.func56 isn56 rfl rfl) (gogeom_GeometryCollection_SetLayout_sim _ _ _ hr8 : Go.Sx.Fn Try.prog 56 [(Vl (.pointer (some wa0))), (Vl (.int .i64 a1))] [⟨.pointer (some wa0), [(Vl (.int .i64 a0_0)), (Vl (.slice none 0 0)), (Vl (.int .i64 a0_2))], 145, none⟩] (fun x : Unit => (Vl .nilIface)) (fun x => [⟨.pointer (some wa0), [(Vl (.int .i64 r8.1)), (Vl (.slice none 0 0)), (Vl (.int .i64 r8.2))], 145, none⟩])) [0] [] (by decide) (pick_cons rfl pick_nil) pick_nil (Hn := fun x : Unit => [⟨.pointer (some wa0), [(Vl (.int .i64 r8.1)), (Vl (.slice none 0 0)), (Vl (.int .i64 r8.2))], 145, none⟩]) (fun _ => rfl) rfl rfl) (wt_none' rfl) fun ⟨⟩ => ?_
  refine sx_rd' (rd_assign' rfl) rfl rfl (wt_none' rfl) ?_
  refine sx_nil' ?_
  show TX E K3 _
  refine tx_k' hK3 ?_
  refine cx_seq' fun K4 hK4 => ?_
  refine cx_region' ?_
  refine sx_rd' (rd_move' rfl) rfl rfl (wt_none' rfl) ?_
  refine sx_rd' (rd_binf' rfl rfl (bf_vl (fun _ => by kernel_rfl) nil_neq62_nilif)) rfl rfl (wt_none' rfl) ?_
  refine sx_nil' ?_
  show TX E K4 _
  refine tx_k' hK4 ?_
  refine cx_cond_f' rfl rfl ?_
  refine cx_skip' ?_
  show TX E K2 _
  refine tx_k' hK2 ?_
  refine cx_seq' fun K5 hK5 => ?_
  refine cx_region' ?_
  refine sx_rd' (rd_move' rfl) rfl rfl (wt_none' rfl) ?_
  refine sx_rd' (rd_assign' rfl) rfl rfl (wt_none' rfl) ?_
  refine sx_nil' ?_
  show TX E K5 _
  refine tx_k' hK5 ?_
  refine cx_retc' ?_
  replace hp := Option.some.inj hp
  subst hp
  refine tx_pick' (L' := [(4, (Vl (.pointer (some wa0))))]) (H' := [⟨.pointer (some wa0), [(Vl (.int .i64 r8.1)), (Vl (.slice none 0 0)), (Vl (.int .i64 r8.2))], 145, none⟩]) [0] (sub_cons rfl sub_nil) (by decide) (pick_cons rfl pick_nil) ?_
  exact tx_ret1' Try.results104 rfl () (rv_tmp' rfl) (List.Sublist.refl _)

def impl_geometry_b (recf : Int → Int → Int → (List Nat) → (List Int) → (List (List Int)) → (List T27) → Option ((Int × Int × (List Nat) × Int) ⊕ ((Int × Int × (List Nat) × Int) ⊕ ((Int × Int × (List Nat) × Int) ⊕ ((Int × Int × (List Nat) × Int × (List Int)) ⊕ ((Int × Int × (List Nat) × Int × (List Int)) ⊕ ((Int × Int × (List Nat) × Int × (List Int)) ⊕ ((Int × Int × (List Nat) × Int × (List (List Int))) ⊕ (Int × Int))))))))) (k : Nat) (a0_0 : Int) (a0_1 : Int) (a0_2 : Int) (a0_3 : List Nat) (a0_4 : List Int) (a0_5 : List (List Int)) (a0_6 : List T27) : Option ((Int × Int × (List Nat) × Int) ⊕ ((Int × Int × (List Nat) × Int) ⊕ ((Int × Int × (List Nat) × Int) ⊕ ((Int × Int × (List Nat) × Int × (List Int)) ⊕ ((Int × Int × (List Nat) × Int × (List Int)) ⊕ ((Int × Int × (List Nat) × Int × (List Int)) ⊕ ((Int × Int × (List Nat) × Int × (List (List Int))) ⊕ (Int × Int)))))))) :=
  (impl_floats k a0_3) >>= fun r12 =>
  br (decide (a0_0 = 1))
    ((gogeom_NewPointFlat k a0_1 r12) >>= fun r19 =>
    (gogeom_Point_SetSRID k r19.1 r19.2.1 r19.2.2.1 r19.2.2.2 a0_2) >>= fun r22 =>
    some (.inl (r22.1, r22.2.1, r22.2.2.1, r22.2.2.2)))
    (br (decide (a0_0 = 2))
      ((gogeom_NewLineStringFlat k a0_1 r12) >>= fun r28 =>
      (gogeom_LineString_SetSRID k r28.1 r28.2.1 r28.2.2.1 r28.2.2.2 a0_2) >>= fun r31 =>
      some (.inr (.inl (r31.1, r31.2.1, r31.2.2.1, r31.2.2.2))))
      (br (decide (a0_0 = 8))
        ((gogeom_NewLinearRingFlat k a0_1 r12) >>= fun r37 =>
        (gogeom_LinearRing_SetSRID k r37.1 r37.2.1 r37.2.2.1 r37.2.2.2 a0_2) >>= fun r40 =>
        some (.inr (.inr (.inl (r40.1, r40.2.1, r40.2.2.1, r40.2.2.2)))))
        (br (decide (a0_0 = 3))
          ((impl_ints k a0_4) >>= fun r48 =>
          (gogeom_NewPolygonFlat k a0_1 r12 r48) >>= fun r49 =>
          (gogeom_Polygon_SetSRID k r49.1 r49.2.1 r49.2.2.1 r49.2.2.2.1 r49.2.2.2.2 a0_2) >>= fun r52 =>
          some (.inr (.inr (.inr (.inl (r52.1, r52.2.1, r52.2.2.1, r52.2.2.2.1, r52.2.2.2.2))))))
          (br (decide (a0_0 = 4))
            ((impl_ints k a0_4) >>= fun r60 =>
            (gogeom_NewMultiPointFlatOptionWithEnds k r60) >>= fun r61 =>
            (gogeom_NewMultiPointFlat k a0_1 r12 r61) >>= fun r63 =>
            (gogeom_MultiPoint_SetSRID k r63.2.1 r63.2.2.1 r63.2.2.2.1 r63.2.2.2.2 r63.1 a0_2) >>= fun r66 =>
            some (.inr (.inr (.inr (.inr (.inl (r66.1, r66.2.1, r66.2.2.1, r66.2.2.2.1, r66.2.2.2.2)))))))
            (br (decide (a0_0 = 5))
              ((impl_ints k a0_4) >>= fun r74 =>
              (gogeom_NewMultiLineStringFlat k a0_1 r12 r74) >>= fun r75 =>
              (gogeom_MultiLineString_SetSRID k r75.1 r75.2.1 r75.2.2.1 r75.2.2.2.1 r75.2.2.2.2 a0_2) >>= fun r78 =>
              some (.inr (.inr (.inr (.inr (.inr (.inl (r78.1, r78.2.1, r78.2.2.1, r78.2.2.2.1, r78.2.2.2.2))))))))
              (br (decide (a0_0 = 6))
                ((impl_intss k a0_5) >>= fun r86 =>
                (gogeom_NewMultiPolygonFlat k a0_1 r12 r86) >>= fun r87 =>
                (gogeom_MultiPolygon_SetSRID k r87.1 r87.2.1 r87.2.2.1 r87.2.2.2.1 r87.2.2.2.2 a0_2) >>= fun r90 =>
                some (.inr (.inr (.inr (.inr (.inr (.inr (.inl (r90.1, r90.2.1, r90.2.2.1, r90.2.2.2.1, r90.2.2.2.2)))))))))
                (br (decide (a0_0 = 7))
                  ((gogeom_NewGeometryCollection k) >>= fun r94 =>
                  (gogeom_GeometryCollection_SetSRID k r94 r94 a0_2) >>= fun r97 =>
                  br (decide (0 < (a0_6.length : Int)))
                    (none)
                    ((gogeom_GeometryCollection_MustSetLayout k r97.1 r97.2 a0_1) >>= fun r113 =>
                    some (.inr (.inr (.inr (.inr (.inr (.inr (.inr (r113.1, r113.2))))))))))
                  (none))))))))
def impl_geometry : Nat → Int → Int → Int → (List Nat) → (List Int) → (List (List Int)) → (List T27) → Option ((Int × Int × (List Nat) × Int) ⊕ ((Int × Int × (List Nat) × Int) ⊕ ((Int × Int × (List Nat) × Int) ⊕ ((Int × Int × (List Nat) × Int × (List Int)) ⊕ ((Int × Int × (List Nat) × Int × (List Int)) ⊕ ((Int × Int × (List Nat) × Int × (List Int)) ⊕ ((Int × Int × (List Nat) × Int × (List (List Int))) ⊕ (Int × Int))))))))
  | 0 => fun _ _ _ _ _ _ _ => none
  | k + 1 => fun a0_0 a0_1 a0_2 a0_3 a0_4 a0_5 a0_6 => impl_geometry_b (impl_geometry k) k a0_0 a0_1 a0_2 a0_3 a0_4 a0_5 a0_6
def impl_geometry_r  (a0_0 : Int) (a0_1 : Int) (a0_2 : Int) (a0_3 : List Nat) (a0_4 : List Int) (a0_5 : List (List Int)) (a0_6 : List T27) (out : (Int × Int × (List Nat) × Int) ⊕ ((Int × Int × (List Nat) × Int) ⊕ ((Int × Int × (List Nat) × Int) ⊕ ((Int × Int × (List Nat) × Int × (List Int)) ⊕ ((Int × Int × (List Nat) × Int × (List Int)) ⊕ ((Int × Int × (List Nat) × Int × (List Int)) ⊕ ((Int × Int × (List Nat) × Int × (List (List Int))) ⊕ (Int × Int)))))))) (w : Addr) : SV := match out with
  | (.inl y) => (If 60 (Vl (.pointer (some w))))
  | (.inr (.inl y)) => (If 94 (Vl (.pointer (some w))))
  | (.inr (.inr (.inl y))) => (If 89 (Vl (.pointer (some w))))
  | (.inr (.inr (.inr (.inl y)))) => (If 87 (Vl (.pointer (some w))))
  | (.inr (.inr (.inr (.inr (.inl y))))) => (If 90 (Vl (.pointer (some w))))
  | (.inr (.inr (.inr (.inr (.inr (.inl y)))))) => (If 92 (Vl (.pointer (some w))))
  | (.inr (.inr (.inr (.inr (.inr (.inr (.inl y))))))) => (If 95 (Vl (.pointer (some w))))
  | (.inr (.inr (.inr (.inr (.inr (.inr (.inr y))))))) => (If 81 (Vl (.pointer (some w))))
def impl_geometry_h  (a0_0 : Int) (a0_1 : Int) (a0_2 : Int) (a0_3 : List Nat) (a0_4 : List Int) (a0_5 : List (List Int)) (a0_6 : List T27) (out : (Int × Int × (List Nat) × Int) ⊕ ((Int × Int × (List Nat) × Int) ⊕ ((Int × Int × (List Nat) × Int) ⊕ ((Int × Int × (List Nat) × Int × (List Int)) ⊕ ((Int × Int × (List Nat) × Int × (List Int)) ⊕ ((Int × Int × (List Nat) × Int × (List Int)) ⊕ ((Int × Int × (List Nat) × Int × (List (List Int))) ⊕ (Int × Int)))))))) (w : Addr) : List Res := match out with
  | (.inl y) => [⟨.pointer (some w), [(Vl (.int .i64 y.1)), (Vl (.int .i64 y.2.1)), (Sl Kf y.2.2.1), (Vl (.int .i64 y.2.2.2))], 114, none⟩]
  | (.inr (.inl y)) => [⟨.pointer (some w), [(Vl (.int .i64 y.1)), (Vl (.int .i64 y.2.1)), (Sl Kf y.2.2.1), (Vl (.int .i64 y.2.2.2))], 160, none⟩]
  | (.inr (.inr (.inl y))) => [⟨.pointer (some w), [(Vl (.int .i64 y.1)), (Vl (.int .i64 y.2.1)), (Sl Kf y.2.2.1), (Vl (.int .i64 y.2.2.2))], 151, none⟩]
  | (.inr (.inr (.inr (.inl y)))) => [⟨.pointer (some w), [(Vl (.int .i64 y.1)), (Vl (.int .i64 y.2.1)), (Sl Kf y.2.2.1), (Vl (.int .i64 y.2.2.2.1)), (Sl (Ki .i64) y.2.2.2.2)], 155, none⟩]
  | (.inr (.inr (.inr (.inr (.inl y))))) => [⟨.pointer (some w), [(Vl (.int .i64 y.1)), (Vl (.int .i64 y.2.1)), (Sl Kf y.2.2.1), (Vl (.int .i64 y.2.2.2.1)), (Sl (Ki .i64) y.2.2.2.2)], 158, none⟩]
  | (.inr (.inr (.inr (.inr (.inr (.inl y)))))) => [⟨.pointer (some w), [(Vl (.int .i64 y.1)), (Vl (.int .i64 y.2.1)), (Sl Kf y.2.2.1), (Vl (.int .i64 y.2.2.2.1)), (Sl (Ki .i64) y.2.2.2.2)], 161, none⟩]
  | (.inr (.inr (.inr (.inr (.inr (.inr (.inl y))))))) => [⟨.pointer (some w), [(Vl (.int .i64 y.1)), (Vl (.int .i64 y.2.1)), (Sl Kf y.2.2.1), (Vl (.int .i64 y.2.2.2.1)), (Sl (Kl (Ki .i64)) y.2.2.2.2)], 165, none⟩]
  | (.inr (.inr (.inr (.inr (.inr (.inr (.inr y))))))) => [⟨.pointer (some w), [(Vl (.int .i64 y.1)), (Vl (.slice none 0 0)), (Vl (.int .i64 y.2))], 145, none⟩]

theorem impl_geometry_b_sim {recf : Int → Int → Int → (List Nat) → (List Int) → (List (List Int)) → (List T27) → Option ((Int × Int × (List Nat) × Int) ⊕ ((Int × Int × (List Nat) × Int) ⊕ ((Int × Int × (List Nat) × Int) ⊕ ((Int × Int × (List Nat) × Int × (List Int)) ⊕ ((Int × Int × (List Nat) × Int × (List Int)) ⊕ ((Int × Int × (List Nat) × Int × (List Int)) ⊕ ((Int × Int × (List Nat) × Int × (List (List Int))) ⊕ (Int × Int))))))))} (hrec : ∀  (a0_0 : Int) (a0_1 : Int) (a0_2 : Int) (a0_3 : List Nat) (a0_4 : List Int) (a0_5 : List (List Int)) (a0_6 : List T27) (out : (Int × Int × (List Nat) × Int) ⊕ ((Int × Int × (List Nat) × Int) ⊕ ((Int × Int × (List Nat) × Int) ⊕ ((Int × Int × (List Nat) × Int × (List Int)) ⊕ ((Int × Int × (List Nat) × Int × (List Int)) ⊕ ((Int × Int × (List Nat) × Int × (List Int)) ⊕ ((Int × Int × (List Nat) × Int × (List (List Int))) ⊕ (Int × Int)))))))), recf a0_0 a0_1 a0_2 a0_3 a0_4 a0_5 a0_6 = some out → Go.Sx.Fn Try.prog 52 [(Ag [(Vl (.int .i64 a0_0)), (Vl (.int .i64 a0_1)), (Vl (.int .i64 a0_2)), (Sl Kf a0_3), (Sl (Ki .i64) a0_4), (Sl (Kl (Ki .i64)) a0_5), (Sl KT27 a0_6)])] [] (fun w => impl_geometry_r a0_0 a0_1 a0_2 a0_3 a0_4 a0_5 a0_6 out w) (fun w => impl_geometry_h a0_0 a0_1 a0_2 a0_3 a0_4 a0_5 a0_6 out w)) {k : Nat}  (a0_0 : Int) (a0_1 : Int) (a0_2 : Int) (a0_3 : List Nat) (a0_4 : List Int) (a0_5 : List (List Int)) (a0_6 : List T27) {out : (Int × Int × (List Nat) × Int) ⊕ ((Int × Int × (List Nat) × Int) ⊕ ((Int × Int × (List Nat) × Int) ⊕ ((Int × Int × (List Nat) × Int × (List Int)) ⊕ ((Int × Int × (List Nat) × Int × (List Int)) ⊕ ((Int × Int × (List Nat) × Int × (List Int)) ⊕ ((Int × Int × (List Nat) × Int × (List (List Int))) ⊕ (Int × Int)))))))} (hp : impl_geometry_b recf k a0_0 a0_1 a0_2 a0_3 a0_4 a0_5 a0_6 = some out) : Go.Sx.Fn Try.prog 52 [(Ag [(Vl (.int .i64 a0_0)), (Vl (.int .i64 a0_1)), (Vl (.int .i64 a0_2)), (Sl Kf a0_3), (Sl (Ki .i64) a0_4), (Sl (Kl (Ki .i64)) a0_5), (Sl KT27 a0_6)])] [] (fun w => impl_geometry_r a0_0 a0_1 a0_2 a0_3 a0_4 a0_5 a0_6 out w) (fun w => impl_geometry_h a0_0 a0_1 a0_2 a0_3 a0_4 a0_5 a0_6 out w) := by
  unfold impl_geometry_b at hp
  refine fn_of Try.func52 rfl Try.ntmps52 rfl fun E hM => ?_
  refine cx_seq' fun K1 hK1 => ?_
  refine cx_region' ?_
  refine sx_ox' (ox_box' rfl (lv_ag _) rfl rfl) (wt_none' rfl) fun q1 => ?_
  refine sx_rd' (rd_assign' rfl) rfl rfl (wt_none' rfl) ?_
  refine sx_nil' ?_
  show TX E K1 _
  refine tx_k' hK1 ?_
  refine cx_seq' fun K2 hK2 => ?_
  refine cx_plan' [] [] [(0, 1), (1, 1), (2, 1), (3, 1), (4, 0), (5, 1), (6, 1)] mixed (by kernel_rfl) ?_
  refine px_rd' rfl (rd_field' (off := 1) rfl Try.underlying27 rfl info3 rfl) rfl rfl (wt_none' rfl) ?_
  refine px_rd' rfl (rd_load' (i := 0) (o := 1) rfl ⟨rfl, rfl, rfl, rfl⟩ rfl flat3) rfl rfl (wt_none' rfl) ?_
  refine px_rd' rfl (rd_field' (off := 3) rfl Try.underlying27 rfl info22 rfl) rfl rfl (wt_none' rfl) ?_
  refine px_rd' rfl (rd_load' (i := 0) (o := 3) rfl ⟨rfl, rfl, rfl, rfl⟩ rfl flat22) rfl rfl (wt_none' rfl) ?_
  obtain ⟨r12, hr12, hp⟩ := bind_some hp
  refine px_ox' rfl (ox_calln' (ent_fn' Try.func43 isn43 rfl rfl) (impl_floats_sim _ hr12 : Go.Sx.Fn Try.prog 43 [(Sl Kf a0_3)] [] (fun x : Unit => (Sl Kf r12)) (fun x => [])) (Hn := fun x : Unit => [⟨.pointer (some q1), [(Vl (.int .i64 a0_0)), (Vl (.int .i64 a0_1)), (Vl (.int .i64 a0_2)), (Sl Kf a0_3), (Sl (Ki .i64) a0_4), (Sl (Kl (Ki .i64)) a0_5), (Sl KT27 a0_6)], 27, none⟩]) (fun _ => rfl) rfl rfl) rfl bs_nil (wt_none' rfl) fun ⟨⟩ => ?_
  refine px_rd' rfl (rd_assign' rfl) rfl rfl (wt_none' rfl) ?_
  refine px_rd' rfl (rd_assign' rfl) rfl rfl (wt_none' rfl) ?_
  refine px_nil' ?_
  show TX E K2 _
  refine tx_k' hK2 ?_
  refine cx_seq' fun K3 hK3 => ?_
  refine cx_seq' fun K4 hK4 => ?_
  refine cx_region' ?_
  refine sx_rd' (rd_field0' rfl Try.underlying27 rfl info3 rfl) rfl rfl (wt_none' rfl) ?_
  refine sx_rd' (rd_load' (i := 0) (o := 0) rfl ⟨rfl, rfl, rfl, rfl⟩ rfl flat3) rfl rfl (wt_none' rfl) ?_
  refine sx_nil' ?_
  show TX E K4 _
  refine tx_k' hK4 ?_
  refine cx_block' ?_
  refine cx_seq' fun K5 hK5 => ?_
  refine cx_region' ?_
  refine sx_rd' (rd_bin' rfl rfl eg_int ru_eql) rfl rfl (wt_none' rfl) ?_
  refine sx_rd' (rd_assign' rfl) rfl rfl (wt_none' rfl) ?_
  refine sx_nil' ?_
  show TX E K5 _
  refine tx_k' hK5 ?_
  refine cx_cond' rfl (fun h1 => ?_) (fun h1 => ?_)
  · replace hp := (br_t h1).symm.trans hp
    refine cx_seq' fun K6 hK6 => ?_
    refine cx_plan' [] [(5, 2)] [(0, 1), (1, 1), (3, 1), (4, 1), (2, 0), (5, 0), (6, 1), (7, 1)] mixed (by kernel_rfl) ?_
    refine px_rd' rfl (rd_move' rfl) rfl rfl (wt_none' rfl) ?_
    refine px_rd' rfl (rd_move' rfl) rfl rfl (wt_none' rfl) ?_
    refine px_rd' rfl (rd_field' (off := 2) rfl Try.underlying27 rfl info3 rfl) rfl rfl (wt_none' rfl) ?_
    refine px_rd' rfl (rd_load' (i := 0) (o := 2) rfl ⟨rfl, rfl, rfl, rfl⟩ rfl flat3) rfl rfl (wt_none' rfl) ?_
    obtain ⟨r19, hr19, hp⟩ := bind_some hp
    refine px_ox' rfl (ox_calln' (ent_fn' Try.func79 isn79 rfl rfl) (gogeom_NewPointFlat_sim _ _ hr19 : Go.Sx.Fn Try.prog 79 [(Vl (.int .i64 a0_1)), (Sl Kf r12)] [] (fun x : Addr => (Vl (.pointer (some x)))) (fun x => [⟨.pointer (some x), [(Vl (.int .i64 r19.1)), (Vl (.int .i64 r19.2.1)), (Sl Kf r19.2.2.1), (Vl (.int .i64 r19.2.2.2))], 114, none⟩])) (Hn := fun x : Addr => [⟨.pointer (some x), [(Vl (.int .i64 r19.1)), (Vl (.int .i64 r19.2.1)), (Sl Kf r19.2.2.1), (Vl (.int .i64 r19.2.2.2))], 114, none⟩, ⟨.pointer (some q1), [(Vl (.int .i64 a0_0)), (Vl (.int .i64 a0_1)), (Vl (.int .i64 a0_2)), (Sl Kf a0_3), (Sl (Ki .i64) a0_4), (Sl (Kl (Ki .i64)) a0_5), (Sl KT27 a0_6)], 27, none⟩]) (fun _ => rfl) rfl rfl) rfl bs_nil (wt_none' rfl) fun q19 => ?_
    obtain ⟨r22, hr22, hp⟩ := bind_some hp
    refine px_ox' rfl (ox_callg' (ent_fn' Try.func87 isn87 rfl rfl) (gogeom_Point_SetSRID_sim _ _ _ _ _ hr22 : Go.Sx.Fn Try.prog 87 [(Vl (.pointer (some q19))), (Vl (.int .i64 a0_2))] [⟨.pointer (some q19), [(Vl (.int .i64 r19.1)), (Vl (.int .i64 r19.2.1)), (Sl Kf r19.2.2.1), (Vl (.int .i64 r19.2.2.2))], 114, none⟩] (fun x : Unit => (Vl (.pointer (some q19)))) (fun x => [⟨.pointer (some q19), [(Vl (.int .i64 r22.1)), (Vl (.int .i64 r22.2.1)), (Sl Kf r22.2.2.1), (Vl (.int .i64 r22.2.2.2))], 114, none⟩])) [0] [1] (by decide) (pick_cons rfl pick_nil) (pick_cons rfl pick_nil) (Hn := fun x : Unit => [⟨.pointer (some q19), [(Vl (.int .i64 r22.1)), (Vl (.int .i64 r22.2.1)), (Sl Kf r22.2.2.1), (Vl (.int .i64 r22.2.2.2))], 114, none⟩, ⟨.pointer (some q1), [(Vl (.int .i64 a0_0)), (Vl (.int .i64 a0_1)), (Vl (.int .i64 a0_2)), (Sl Kf a0_3), (Sl (Ki .i64) a0_4), (Sl (Kl (Ki .i64)) a0_5), (Sl KT27 a0_6)], 27, none⟩]) (fun _ => rfl) rfl rfl) rfl bs_nil (wt_none' rfl) fun ⟨⟩ => ?_
    refine px_rd' rfl (rd_iface' rfl ⟨_, Try.underlying60, fun _ h => (nomatch h)⟩) rfl rfl (wt_none' rfl) ?_
    refine px_rd' rfl (rd_assign' rfl) rfl rfl (wt_none' rfl) ?_
    refine px_nil' ?_
    show TX E K6 _
    refine tx_k' hK6 ?_
    refine cx_retc' ?_
    replace hp := Option.some.inj hp
    subst hp
    refine tx_pick' (L' := [(2, (If 60 (Vl (.pointer (some q19)))))]) (H' := [⟨.pointer (some q19), [(Vl (.int .i64 r22.1)), (Vl (.int .i64 r22.2.1)), (Sl Kf r22.2.2.1), (Vl (.int .i64 r22.2.2.2))], 114, none⟩]) [0] (sub_cons rfl sub_nil) (by decide) (pick_cons rfl pick_nil) ?_
    exact tx_ret1' Try.results52 rfl q19 (rv_tmp' rfl) (List.Sublist.refl _)
  · replace hp := (br_f h1).symm.trans hp
    refine cx_seq' fun K7 hK7 => ?_
    refine cx_region' ?_
    refine sx_rd' (rd_bin' rfl rfl eg_int ru_eql) rfl rfl (wt_none' rfl) ?_
    refine sx_rd' (rd_assign' rfl) rfl rfl (wt_none' rfl) ?_
    refine sx_nil' ?_
    show TX E K7 _
    refine tx_k' hK7 ?_
    refine cx_cond' rfl (fun h2 => ?_) (fun h2 => ?_)
    · replace hp := (br_t h2).symm.trans hp
      refine cx_seq' fun K8 hK8 => ?_
      refine cx_plan' [] [(5, 2)] [(0, 1), (1, 1), (3, 1), (4, 1), (2, 0), (5, 0), (6, 1), (7, 1)] mixed (by kernel_rfl) ?_
      refine px_rd' rfl (rd_move' rfl) rfl rfl (wt_none' rfl) ?_
      refine px_rd' rfl (rd_move' rfl) rfl rfl (wt_none' rfl) ?_
      refine px_rd' rfl (rd_field' (off := 2) rfl Try.underlying27 rfl info3 rfl) rfl rfl (wt_none' rfl) ?_
      refine px_rd' rfl (rd_load' (i := 0) (o := 2) rfl ⟨rfl, rfl, rfl, rfl⟩ rfl flat3) rfl rfl (wt_none' rfl) ?_
      obtain ⟨r28, hr28, hp⟩ := bind_some hp
      refine px_ox' rfl (ox_calln' (ent_fn' Try.func88 isn88 rfl rfl) (gogeom_NewLineStringFlat_sim _ _ hr28 : Go.Sx.Fn Try.prog 88 [(Vl (.int .i64 a0_1)), (Sl Kf r12)] [] (fun x : Addr => (Vl (.pointer (some x)))) (fun x => [⟨.pointer (some x), [(Vl (.int .i64 r28.1)), (Vl (.int .i64 r28.2.1)), (Sl Kf r28.2.2.1), (Vl (.int .i64 r28.2.2.2))], 160, none⟩])) (Hn := fun x : Addr => [⟨.pointer (some x), [(Vl (.int .i64 r28.1)), (Vl (.int .i64 r28.2.1)), (Sl Kf r28.2.2.1), (Vl (.int .i64 r28.2.2.2))], 160, none⟩, ⟨.pointer (some q1), [(Vl (.int .i64 a0_0)), (Vl (.int .i64 a0_1)), (Vl (.int .i64 a0_2)), (Sl Kf a0_3), (Sl (Ki .i64) a0_4), (Sl (Kl (Ki .i64)) a0_5), (Sl KT27 a0_6)], 27, none⟩]) (fun _ => rfl) rfl rfl) rfl bs_nil (wt_none' rfl) fun q28 => ?_
      obtain ⟨r31, hr31, hp⟩ := bind_some hp
      refine px_ox' rfl (ox_callg' (ent_fn' Try.func89 isn89 rfl rfl) (gogeom_LineString_SetSRID_sim _ _ _ _ _ hr31 : Go.Sx.Fn Try.prog 89 [(Vl (.pointer (some q28))), (Vl (.int .i64 a0_2))] [⟨.pointer (some q28), [(Vl (.int .i64 r28.1)), (Vl (.int .i64 r28.2.1)), (Sl Kf r28.2.2.1), (Vl (.int .i64 r28.2.2.2))], 160, none⟩] (fun x : Unit => (Vl (.pointer (some q28)))) (fun x => [⟨.pointer (some q28), [(Vl (.int .i64 r31.1)), (Vl (.int .i64 r31.2.1)), (Sl Kf r31.2.2.1), (Vl (.int .i64 r31.2.2.2))], 160, none⟩])) [0] [1] (by decide) (pick_cons rfl pick_nil) (pick_cons rfl pick_nil) (Hn := fun x : Unit => [⟨.pointer (some q28), [(Vl (.int .i64 r31.1)), (Vl (.int .i64 r31.2.1)), (Sl Kf r31.2.2.1), (Vl (.int .i64 r31.2.2.2))], 160, none⟩, ⟨.pointer (some q1), [(Vl (.int .i64 a0_0)), (Vl (.int .i64 a0_1)), (Vl (.int .i64 a0_2)), (Sl Kf a0_3), (Sl (Ki .i64) a0_4), (Sl (Kl (Ki .i64)) a0_5), (Sl KT27 a0_6)], 27, none⟩]) (fun _ => rfl) rfl rfl) rfl bs_nil (wt_none' rfl) fun ⟨⟩ => ?_
      refine px_rd' rfl (rd_iface' rfl ⟨_, Try.underlying94, fun _ h => (nomatch h)⟩) rfl rfl (wt_none' rfl) ?_
      refine px_rd' rfl (rd_assign' rfl) rfl rfl (wt_none' rfl) ?_
      refine px_nil' ?_
      show TX E K8 _
      refine tx_k' hK8 ?_
      refine cx_retc' ?_
      replace hp := Option.some.inj hp
      subst hp
      refine tx_pick' (L' := [(2, (If 94 (Vl (.pointer (some q28)))))]) (H' := [⟨.pointer (some q28), [(Vl (.int .i64 r31.1)), (Vl (.int .i64 r31.2.1)), (Sl Kf r31.2.2.1), (Vl (.int .i64 r31.2.2.2))], 160, none⟩]) [0] (sub_cons rfl sub_nil) (by decide) (pick_cons rfl pick_nil) ?_
      exact tx_ret1' Try.results52 rfl q28 (rv_tmp' rfl) (List.Sublist.refl _)
    · replace hp := (br_f h2).symm.trans hp
      refine cx_seq' fun K9 hK9 => ?_
      refine cx_region' ?_
      refine sx_rd' (rd_bin' rfl rfl eg_int ru_eql) rfl rfl (wt_none' rfl) ?_
      refine sx_rd' (rd_assign' rfl) rfl rfl (wt_none' rfl) ?_
      refine sx_nil' ?_
      show TX E K9 _
      refine tx_k' hK9 ?_
      refine cx_cond' rfl (fun h3 => ?_) (fun h3 => ?_)
      · replace hp := (br_t h3).symm.trans hp
        refine cx_seq' fun K10 hK10 => ?_
        refine cx_plan' [] [(5, 2)] [(0, 1), (1, 1), (3, 1), (4, 1), (2, 0), (5, 0), (6, 1), (7, 1)] mixed (by kernel_rfl) ?_
        refine px_rd' rfl (rd_move' rfl) rfl rfl (wt_none' rfl) ?_
        refine px_rd' rfl (rd_move' rfl) rfl rfl (wt_none' rfl) ?_
        refine px_rd' rfl (rd_field' (off := 2) rfl Try.underlying27 rfl info3 rfl) rfl rfl (wt_none' rfl) ?_
        refine px_rd' rfl (rd_load' (i := 0) (o := 2) rfl ⟨rfl, rfl, rfl, rfl⟩ rfl flat3) rfl rfl (wt_none' rfl) ?_
        obtain ⟨r37, hr37, hp⟩ := bind_some hp
        refine px_ox' rfl (ox_calln' (ent_fn' Try.func90 isn90 rfl rfl) (gogeom_NewLinearRingFlat_sim _ _ hr37 : Go.Sx.Fn Try.prog 90 [(Vl (.int .i64 a0_1)), (Sl Kf r12)] [] (fun x : Addr => (Vl (.pointer (some x)))) (fun x => [⟨.pointer (some x), [(Vl (.int .i64 r37.1)), (Vl (.int .i64 r37.2.1)), (Sl Kf r37.2.2.1), (Vl (.int .i64 r37.2.2.2))], 151, none⟩])) (Hn := fun x : Addr => [⟨.pointer (some x), [(Vl (.int .i64 r37.1)), (Vl (.int .i64 r37.2.1)), (Sl Kf r37.2.2.1), (Vl (.int .i64 r37.2.2.2))], 151, none⟩, ⟨.pointer (some q1), [(Vl (.int .i64 a0_0)), (Vl (.int .i64 a0_1)), (Vl (.int .i64 a0_2)), (Sl Kf a0_3), (Sl (Ki .i64) a0_4), (Sl (Kl (Ki .i64)) a0_5), (Sl KT27 a0_6)], 27, none⟩]) (fun _ => rfl) rfl rfl) rfl bs_nil (wt_none' rfl) fun q37 => ?_
        obtain ⟨r40, hr40, hp⟩ := bind_some hp
        refine px_ox' rfl (ox_callg' (ent_fn' Try.func91 isn91 rfl rfl) (gogeom_LinearRing_SetSRID_sim _ _ _ _ _ hr40 : Go.Sx.Fn Try.prog 91 [(Vl (.pointer (some q37))), (Vl (.int .i64 a0_2))] [⟨.pointer (some q37), [(Vl (.int .i64 r37.1)), (Vl (.int .i64 r37.2.1)), (Sl Kf r37.2.2.1), (Vl (.int .i64 r37.2.2.2))], 151, none⟩] (fun x : Unit => (Vl (.pointer (some q37)))) (fun x => [⟨.pointer (some q37), [(Vl (.int .i64 r40.1)), (Vl (.int .i64 r40.2.1)), (Sl Kf r40.2.2.1), (Vl (.int .i64 r40.2.2.2))], 151, none⟩])) [0] [1] (by decide) (pick_cons rfl pick_nil) (pick_cons rfl pick_nil) (Hn := fun x : Unit => [⟨.pointer (some q37), [(Vl (.int .i64 r40.1)), (Vl (.int .i64 r40.2.1)), (Sl Kf r40.2.2.1), (Vl (.int .i64 r40.2.2.2))], 151, none⟩, ⟨.pointer (some q1), [(Vl (.int .i64 a0_0)), (Vl (.int .i64 a0_1)), (Vl (.int .i64 a0_2)), (Sl Kf a0_3), (Sl (Ki .i64) a0_4), (Sl (Kl (Ki .i64)) a0_5), (Sl KT27 a0_6)], 27, none⟩]) (fun _ => rfl) rfl rfl) rfl bs_nil (wt_none' rfl) fun ⟨⟩ => ?_
        refine px_rd' rfl (rd_iface' rfl ⟨_, Try.underlying89, fun _ h => (nomatch h)⟩) rfl rfl (wt_none' rfl) ?_
        refine px_rd' rfl (rd_assign' rfl) rfl rfl (wt_none' rfl) ?_
        refine px_nil' ?_
        show TX E K10 _
        refine tx_k' hK10 ?_
        refine cx_retc' ?_
        replace hp := Option.some.inj hp
        subst hp
        refine tx_pick' (L' := [(2, (If 89 (Vl (.pointer (some q37)))))]) (H' := [⟨.pointer (some q37), [(Vl (.int .i64 r40.1)), (Vl (.int .i64 r40.2.1)), (Sl Kf r40.2.2.1), (Vl (.int .i64 r40.2.2.2))], 151, none⟩]) [0] (sub_cons rfl sub_nil) (by decide) (pick_cons rfl pick_nil) ?_
        exact tx_ret1' Try.results52 rfl q37 (rv_tmp' rfl) (List.Sublist.refl _)
      · replace hp := (br_f h3).symm.trans hp
        refine cx_seq' fun K11 hK11 => ?_
        refine cx_region' ?_
        refine sx_rd' (rd_bin' rfl rfl eg_int ru_eql) rfl rfl (wt_none' rfl) ?_
        refine sx_rd' (rd_assign' rfl) rfl rfl (wt_none' rfl) ?_
        refine sx_nil' ?_
        show TX E K11 _
        refine tx_k' hK11 ?_
        refine cx_cond' rfl (fun h4 => ?_) (fun h4 => ?_)
        · replace hp := (br_t h4).symm.trans hp
          refine cx_seq' fun K12 hK12 => ?_
          refine cx_plan' [] [(8, 2)] [(0, 1), (1, 1), (2, 1), (3, 1), (6, 1), (7, 1), (4, 0), (5, 0), (8, 0), (9, 1), (10, 1)] mixed (by kernel_rfl) ?_
          refine px_rd' rfl (rd_move' rfl) rfl rfl (wt_none' rfl) ?_
          refine px_rd' rfl (rd_move' rfl) rfl rfl (wt_none' rfl) ?_
          refine px_rd' rfl (rd_field' (off := 4) rfl Try.underlying27 rfl info23 rfl) rfl rfl (wt_none' rfl) ?_
          refine px_rd' rfl (rd_load' (i := 0) (o := 4) rfl ⟨rfl, rfl, rfl, rfl⟩ rfl flat23) rfl rfl (wt_none' rfl) ?_
          refine px_rd' rfl (rd_field' (off := 2) rfl Try.underlying27 rfl info3 rfl) rfl rfl (wt_none' rfl) ?_
          refine px_rd' rfl (rd_load' (i := 0) (o := 2) rfl ⟨rfl, rfl, rfl, rfl⟩ rfl flat3) rfl rfl (wt_none' rfl) ?_
          obtain ⟨r48, hr48, hp⟩ := bind_some hp
          refine px_ox' rfl (ox_calln' (ent_fn' Try.func84 isn84 rfl rfl) (impl_ints_sim _ hr48 : Go.Sx.Fn Try.prog 84 [(Sl (Ki .i64) a0_4)] [] (fun x : Unit => (Sl (Ki .i64) r48)) (fun x => [])) (Hn := fun x : Unit => [⟨.pointer (some q1), [(Vl (.int .i64 a0_0)), (Vl (.int .i64 a0_1)), (Vl (.int .i64 a0_2)), (Sl Kf a0_3), (Sl (Ki .i64) a0_4), (Sl (Kl (Ki .i64)) a0_5), (Sl KT27 a0_6)], 27, none⟩]) (fun _ => rfl) rfl rfl) rfl bs_nil (wt_none' rfl) fun ⟨⟩ => ?_
          obtain ⟨r49, hr49, hp⟩ := bind_some hp
          refine px_ox' rfl (ox_calln' (ent_fn' Try.func92 isn92 rfl rfl) (gogeom_NewPolygonFlat_sim _ _ _ hr49 : Go.Sx.Fn Try.prog 92 [(Vl (.int .i64 a0_1)), (Sl Kf r12), (Sl (Ki .i64) r48)] [] (fun x : Addr => (Vl (.pointer (some x)))) (fun x => [⟨.pointer (some x), [(Vl (.int .i64 r49.1)), (Vl (.int .i64 r49.2.1)), (Sl Kf r49.2.2.1), (Vl (.int .i64 r49.2.2.2.1)), (Sl (Ki .i64) r49.2.2.2.2)], 155, none⟩])) (Hn := fun x : Addr => [⟨.pointer (some x), [(Vl (.int .i64 r49.1)), (Vl (.int .i64 r49.2.1)), (Sl Kf r49.2.2.1), (Vl (.int .i64 r49.2.2.2.1)), (Sl (Ki .i64) r49.2.2.2.2)], 155, none⟩, ⟨.pointer (some q1), [(Vl (.int .i64 a0_0)), (Vl (.int .i64 a0_1)), (Vl (.int .i64 a0_2)), (Sl Kf a0_3), (Sl (Ki .i64) a0_4), (Sl (Kl (Ki .i64)) a0_5), (Sl KT27 a0_6)], 27, none⟩]) (fun _ => rfl) rfl rfl) rfl bs_nil (wt_none' rfl) fun q49 => ?_
          obtain ⟨r52, hr52, hp⟩ := bind_some hp
          refine px_ox' rfl (ox_callg' (ent_fn' Try.func93 isn93 rfl rfl) (gogeom_Polygon_SetSRID_sim _ _ _ _ _ _ hr52 : Go.Sx.Fn Try.prog 93 [(Vl (.pointer (some q49))), (Vl (.int .i64 a0_2))] [⟨.pointer (some q49), [(Vl (.int .i64 r49.1)), (Vl (.int .i64 r49.2.1)), (Sl Kf r49.2.2.1), (Vl (.int .i64 r49.2.2.2.1)), (Sl (Ki .i64) r49.2.2.2.2)], 155, none⟩] (fun x : Unit => (Vl (.pointer (some q49)))) (fun x => [⟨.pointer (some q49), [(Vl (.int .i64 r52.1)), (Vl (.int .i64 r52.2.1)), (Sl Kf r52.2.2.1), (Vl (.int .i64 r52.2.2.2.1)), (Sl (Ki .i64) r52.2.2.2.2)], 155, none⟩])) [0] [1] (by decide) (pick_cons rfl pick_nil) (pick_cons rfl pick_nil) (Hn := fun x : Unit => [⟨.pointer (some q49), [(Vl (.int .i64 r52.1)), (Vl (.int .i64 r52.2.1)), (Sl Kf r52.2.2.1), (Vl (.int .i64 r52.2.2.2.1)), (Sl (Ki .i64) r52.2.2.2.2)], 155, none⟩, ⟨.pointer (some q1), [(Vl (.int .i64 a0_0)), (Vl (.int .i64 a0_1)), (Vl (.int .i64 a0_2)), (Sl Kf a0_3), (Sl (Ki .i64) a0_4), (Sl (Kl (Ki .i64)) a0_5), (Sl KT27 a0_6)], 27, none⟩]) (fun _ => rfl) rfl rfl) rfl bs_nil (wt_none' rfl) fun ⟨⟩ => ?_
          refine px_rd' rfl (rd_iface' rfl ⟨_, Try.underlying87, fun _ h => (nomatch h)⟩) rfl rfl (wt_none' rfl) ?_
          refine px_rd' rfl (rd_assign' rfl) rfl rfl (wt_none' rfl) ?_
          refine px_nil' ?_
          show TX E K12 _
          refine tx_k' hK12 ?_
          refine cx_retc' ?_
          replace hp := Option.some.inj hp
          subst hp
          refine tx_pick' (L' := [(2, (If 87 (Vl (.pointer (some q49)))))]) (H' := [⟨.pointer (some q49), [(Vl (.int .i64 r52.1)), (Vl (.int .i64 r52.2.1)), (Sl Kf r52.2.2.1), (Vl (.int .i64 r52.2.2.2.1)), (Sl (Ki .i64) r52.2.2.2.2)], 155, none⟩]) [0] (sub_cons rfl sub_nil) (by decide) (pick_cons rfl pick_nil) ?_
          exact tx_ret1' Try.results52 rfl q49 (rv_tmp' rfl) (List.Sublist.refl _)
        · replace hp := (br_f h4).symm.trans hp
          refine cx_seq' fun K13 hK13 => ?_
          refine cx_region' ?_
          refine sx_rd' (rd_bin' rfl rfl eg_int ru_eql) rfl rfl (wt_none' rfl) ?_
          refine sx_rd' (rd_assign' rfl) rfl rfl (wt_none' rfl) ?_
          refine sx_nil' ?_
          show TX E K13 _
          refine tx_k' hK13 ?_
          refine cx_cond' rfl (fun h5 => ?_) (fun h5 => ?_)
          · replace hp := (br_t h5).symm.trans hp
            refine cx_seq' fun K14 hK14 => ?_
            refine cx_plana' [] [(7, 2), (10, 2)] [(0, 1), (1, 1), (2, 1), (3, 1)] 9 #[true, true, true, true, false, false, false, false, false, false, false, false, false] mixed (by kernel_rfl) ?_
            refine px_rd' rfl (rd_move' rfl) rfl rfl (wt_none' rfl) ?_
            refine px_rd' rfl (rd_move' rfl) rfl rfl (wt_none' rfl) ?_
            refine px_rd' rfl (rd_field' (off := 4) rfl Try.underlying27 rfl info23 rfl) rfl rfl (wt_none' rfl) ?_
            refine px_rd' rfl (rd_load' (i := 0) (o := 4) rfl ⟨rfl, rfl, rfl, rfl⟩ rfl flat23) rfl rfl (wt_none' rfl) ?_
            refine px_nil' ?_
            show AX E _ _ _ _ _ _ _ _
            obtain ⟨r60, hr60, hp⟩ := bind_some hp
            obtain ⟨r61, hr61, hp⟩ := bind_some hp
            obtain ⟨r63, hr63, hp⟩ := bind_some hp
            obtain ⟨r66, hr66, hp⟩ := bind_some hp
            refine ax_node (f' := 0) #[true, true, true, true, true, true, true, true, true, true, true, true, true] (fun (v17 : Addr) => (⟨116, [], [(2, (If 90 (Vl (.pointer (some v17)))))], [⟨.pointer (some v17), [(Vl (.int .i64 r66.1)), (Vl (.int .i64 r66.2.1)), (Sl Kf r66.2.2.1), (Vl (.int .i64 r66.2.2.2.1)), (Sl (Ki .i64) r66.2.2.2.2)], 158, none⟩]⟩ : St)) ?_ ?_
            · rintro q9024
              refine ax_nil (by kernel_rfl) ?_
              show TX E K14 _
              refine tx_k' hK14 ?_
              refine cx_retc' ?_
              replace hp := Option.some.inj hp
              subst hp
              refine tx_pick' (L' := [(2, (If 90 (Vl (.pointer (some q9024)))))]) (H' := [⟨.pointer (some q9024), [(Vl (.int .i64 r66.1)), (Vl (.int .i64 r66.2.1)), (Sl Kf r66.2.2.1), (Vl (.int .i64 r66.2.2.2.1)), (Sl (Ki .i64) r66.2.2.2.2)], 158, none⟩]) [0] (sub_cons rfl sub_nil) (by decide) (pick_cons rfl pick_nil) ?_
              exact tx_ret1' Try.results52 rfl q9024 (rv_tmp' rfl) (List.Sublist.refl _)
            intro hN18
            refine ax_node (f' := 1) #[true, true, true, true, true, true, true, true, true, true, true, true, false] (fun (v16 : Addr) => (⟨116, [], [(67, (If 90 (Vl (.pointer (some v16)))))], [⟨.pointer (some v16), [(Vl (.int .i64 r66.1)), (Vl (.int .i64 r66.2.1)), (Sl Kf r66.2.2.1), (Vl (.int .i64 r66.2.2.2.1)), (Sl (Ki .i64) r66.2.2.2.2)], 158, none⟩]⟩ : St)) ?_ ?_
            · rintro q9023
              refine ax_rd (ix := 12) (last := #[true, true, true, true, true, true, true, true, true, true, true, true, true]) (by kernel_rfl) rfl (rd_assign' rfl) rfl rfl (wt_none' rfl) rfl ?_
              exact tx_pick' [0] (sub_cons rfl sub_nil) (by decide) (pick_cons rfl pick_nil) (hN18 q9023)
            intro hN17
            refine ax_node (f' := 2) #[true, true, true, true, true, true, true, true, true, true, true, false, false] (fun (v15 : Addr) => (⟨116, [], [(66, (Vl (.pointer (some v15))))], [⟨.pointer (some v15), [(Vl (.int .i64 r66.1)), (Vl (.int .i64 r66.2.1)), (Sl Kf r66.2.2.1), (Vl (.int .i64 r66.2.2.2.1)), (Sl (Ki .i64) r66.2.2.2.2)], 158, none⟩]⟩ : St)) ?_ ?_
            · rintro q9022
              refine ax_rd (ix := 11) (last := #[true, true, true, true, true, true, true, true, true, true, true, true, false]) (by kernel_rfl) rfl (rd_iface' rfl ⟨_, Try.underlying90, fun _ h => (nomatch h)⟩) rfl rfl (wt_none' rfl) rfl ?_
              exact tx_pick' [0] (sub_cons rfl sub_nil) (by decide) (pick_cons rfl pick_nil) (hN17 q9022)
            intro hN16
            refine ax_node (f' := 3) #[true, true, true, true, true, true, true, true, true, true, false, false, false] (fun (v14 : Addr) => (⟨116, [], [(63, (Vl (.pointer (some v14)))), (65, (Vl (.int .i64 a0_2)))], [⟨.pointer (some v14), [(Vl (.int .i64 r63.2.1)), (Vl (.int .i64 r63.2.2.1)), (Sl Kf r63.2.2.2.1), (Vl (.int .i64 r63.2.2.2.2)), (Sl (Ki .i64) r63.1)], 158, none⟩]⟩ : St)) ?_ ?_
            · rintro q9021
              refine ax_all (i := 10) (is := []) (by kernel_rfl) (all_cons ?_ all_nil)
              · refine nx_ox (last := #[true, true, true, true, true, true, true, true, true, true, true, false, false]) rfl (ox_callg' (ent_fn' Try.func96 isn96 rfl rfl) (gogeom_MultiPoint_SetSRID_sim _ _ _ _ _ _ hr66 : Go.Sx.Fn Try.prog 96 [(Vl (.pointer (some q9021))), (Vl (.int .i64 a0_2))] [⟨.pointer (some q9021), [(Vl (.int .i64 r63.2.1)), (Vl (.int .i64 r63.2.2.1)), (Sl Kf r63.2.2.2.1), (Vl (.int .i64 r63.2.2.2.2)), (Sl (Ki .i64) r63.1)], 158, none⟩] (fun x : Unit => (Vl (.pointer (some q9021)))) (fun x => [⟨.pointer (some q9021), [(Vl (.int .i64 r66.1)), (Vl (.int .i64 r66.2.1)), (Sl Kf r66.2.2.1), (Vl (.int .i64 r66.2.2.2.1)), (Sl (Ki .i64) r66.2.2.2.2)], 158, none⟩])) [0] [] (by decide) (pick_cons rfl pick_nil) pick_nil (Hn := fun x : Unit => [⟨.pointer (some q9021), [(Vl (.int .i64 r66.1)), (Vl (.int .i64 r66.2.1)), (Sl Kf r66.2.2.1), (Vl (.int .i64 r66.2.2.2.1)), (Sl (Ki .i64) r66.2.2.2.2)], 158, none⟩]) (fun _ => rfl) rfl rfl) rfl bs_nil (wt_none' rfl) rfl fun ⟨⟩ => ?_
                exact tx_pick' [0] (sub_cons rfl sub_nil) (by decide) (pick_cons rfl pick_nil) (hN16 q9021)
            intro hN15
            refine ax_node (f' := 4) #[true, true, true, true, true, true, true, true, true, false, false, false, false] (fun (v12 : Addr × Addr) => (⟨116, [], [(63, (Vl (.pointer (some v12.1)))), (64, (Vl (.pointer (some ((v12.2).add 2)))))], [⟨.pointer (some v12.1), [(Vl (.int .i64 r63.2.1)), (Vl (.int .i64 r63.2.2.1)), (Sl Kf r63.2.2.2.1), (Vl (.int .i64 r63.2.2.2.2)), (Sl (Ki .i64) r63.1)], 158, none⟩, ⟨.pointer (some v12.2), [(Vl (.int .i64 a0_0)), (Vl (.int .i64 a0_1)), (Vl (.int .i64 a0_2)), (Sl Kf a0_3), (Sl (Ki .i64) a0_4), (Sl (Kl (Ki .i64)) a0_5), (Sl KT27 a0_6)], 27, none⟩]⟩ : St)) ?_ ?_
            · rintro ⟨q9017, q9018⟩
              refine ax_rd (ix := 9) (last := #[true, true, true, true, true, true, true, true, true, true, false, false, false]) (by kernel_rfl) rfl (rd_load' (i := 1) (o := 2) rfl ⟨rfl, rfl, rfl, rfl⟩ rfl flat3) rfl rfl (wt_none' rfl) rfl ?_
              exact tx_pick' [0] (sub_cons rfl (sub_cons rfl sub_nil)) (by decide) (pick_cons rfl pick_nil) (hN15 q9017)
            intro hN13
            refine ax_node (f' := 4) #[true, true, true, true, true, true, true, false, true, true, false, false, false] (fun (v13 : Addr × Addr) => (⟨116, [], [(56, (Vl (.int .i64 a0_1))), (57, (Sl Kf r12)), (62, (Vl (.slice (some v13.1) 1 1))), (65, (Vl (.int .i64 a0_2)))], [⟨.slice (some v13.1) 1 1, [(Vl (.func (.func 115) #[] ⟨[.pointer (some v13.2)]⟩))], 133, some 1⟩, ⟨.pointer (some v13.2), [(Sl (Ki .i64) r61)], 23, none⟩]⟩ : St)) ?_ ?_
            · rintro ⟨q9019, q9020⟩
              refine ax_all (i := 7) (is := []) (by kernel_rfl) (all_cons ?_ all_nil)
              · refine nx_ox (last := #[true, true, true, true, true, true, true, true, true, true, false, false, false]) rfl (ox_callg' (ent_fn' Try.func94 isn94 rfl rfl) (gogeom_NewMultiPointFlat_sim _ _ _ hr63 : Go.Sx.Fn Try.prog 94 [(Vl (.int .i64 a0_1)), (Sl Kf r12), (Vl (.slice (some q9019) 1 1))] [⟨.slice (some q9019) 1 1, [(Vl (.func (.func 115) #[] ⟨[.pointer (some q9020)]⟩))], 133, some 1⟩, ⟨.pointer (some q9020), [(Sl (Ki .i64) r61)], 23, none⟩] (fun x : Addr => (Vl (.pointer (some x)))) (fun x => [⟨.pointer (some q9020), [(Sl (Ki .i64) r63.1)], 23, none⟩, ⟨.pointer (some x), [(Vl (.int .i64 r63.2.1)), (Vl (.int .i64 r63.2.2.1)), (Sl Kf r63.2.2.2.1), (Vl (.int .i64 r63.2.2.2.2)), (Sl (Ki .i64) r63.1)], 158, none⟩])) [0, 1] [] (by decide) (pick_cons rfl (pick_cons rfl pick_nil)) pick_nil (Hn := fun x : Addr => [⟨.pointer (some q9020), [(Sl (Ki .i64) r63.1)], 23, none⟩, ⟨.pointer (some x), [(Vl (.int .i64 r63.2.1)), (Vl (.int .i64 r63.2.2.1)), (Sl Kf r63.2.2.2.1), (Vl (.int .i64 r63.2.2.2.2)), (Sl (Ki .i64) r63.1)], 158, none⟩]) (fun _ => rfl) rfl rfl) rfl bs_nil (wt_none' rfl) rfl fun q63 => ?_
                exact tx_pick' [1] (sub_cons rfl (sub_cons rfl sub_nil)) (by decide) (pick_cons rfl pick_nil) (hN15 q63)
            intro hN14
            refine ax_node (f' := 5) #[true, true, true, true, true, true, true, true, false, false, false, false, false] (fun (v9 : Addr × Addr) => (⟨116, [], [(1, (Vl (.pointer (some v9.1)))), (63, (Vl (.pointer (some v9.2))))], [⟨.pointer (some v9.1), [(Vl (.int .i64 a0_0)), (Vl (.int .i64 a0_1)), (Vl (.int .i64 a0_2)), (Sl Kf a0_3), (Sl (Ki .i64) a0_4), (Sl (Kl (Ki .i64)) a0_5), (Sl KT27 a0_6)], 27, none⟩, ⟨.pointer (some v9.2), [(Vl (.int .i64 r63.2.1)), (Vl (.int .i64 r63.2.2.1)), (Sl Kf r63.2.2.2.1), (Vl (.int .i64 r63.2.2.2.2)), (Sl (Ki .i64) r63.1)], 158, none⟩]⟩ : St)) ?_ ?_
            · rintro ⟨q9011, q9012⟩
              refine ax_rd (ix := 8) (last := #[true, true, true, true, true, true, true, true, true, false, false, false, false]) (by kernel_rfl) rfl (rd_field' (off := 2) rfl Try.underlying27 rfl info3 rfl) rfl rfl (wt_none' rfl) rfl ?_
              exact tx_pick' [1, 0] (sub_cons rfl (sub_cons rfl sub_nil)) (by decide) (pick_cons rfl (pick_cons rfl pick_nil)) (hN13 (q9012, q9011))
            intro hN10
            refine ax_node (f' := 5) #[true, true, true, true, true, true, true, false, true, false, false, false, false] (fun (v10 : Addr × Addr × Addr) => (⟨116, [], [(56, (Vl (.int .i64 a0_1))), (57, (Sl Kf r12)), (62, (Vl (.slice (some v10.1) 1 1))), (64, (Vl (.pointer (some ((v10.2.2).add 2)))))], [⟨.slice (some v10.1) 1 1, [(Vl (.func (.func 115) #[] ⟨[.pointer (some v10.2.1)]⟩))], 133, some 1⟩, ⟨.pointer (some v10.2.1), [(Sl (Ki .i64) r61)], 23, none⟩, ⟨.pointer (some v10.2.2), [(Vl (.int .i64 a0_0)), (Vl (.int .i64 a0_1)), (Vl (.int .i64 a0_2)), (Sl Kf a0_3), (Sl (Ki .i64) a0_4), (Sl (Kl (Ki .i64)) a0_5), (Sl KT27 a0_6)], 27, none⟩]⟩ : St)) ?_ ?_
            · rintro ⟨q9013, q9014, q9015⟩
              refine ax_all (i := 7) (is := [9]) (by kernel_rfl) (all_cons ?_ (all_cons ?_ all_nil))
              · refine nx_ox (last := #[true, true, true, true, true, true, true, true, true, false, false, false, false]) rfl (ox_callg' (ent_fn' Try.func94 isn94 rfl rfl) (gogeom_NewMultiPointFlat_sim _ _ _ hr63 : Go.Sx.Fn Try.prog 94 [(Vl (.int .i64 a0_1)), (Sl Kf r12), (Vl (.slice (some q9013) 1 1))] [⟨.slice (some q9013) 1 1, [(Vl (.func (.func 115) #[] ⟨[.pointer (some q9014)]⟩))], 133, some 1⟩, ⟨.pointer (some q9014), [(Sl (Ki .i64) r61)], 23, none⟩] (fun x : Addr => (Vl (.pointer (some x)))) (fun x => [⟨.pointer (some q9014), [(Sl (Ki .i64) r63.1)], 23, none⟩, ⟨.pointer (some x), [(Vl (.int .i64 r63.2.1)), (Vl (.int .i64 r63.2.2.1)), (Sl Kf r63.2.2.2.1), (Vl (.int .i64 r63.2.2.2.2)), (Sl (Ki .i64) r63.1)], 158, none⟩])) [0, 1] [2] (by decide) (pick_cons rfl (pick_cons rfl pick_nil)) (pick_cons rfl pick_nil) (Hn := fun x : Addr => [⟨.pointer (some q9014), [(Sl (Ki .i64) r63.1)], 23, none⟩, ⟨.pointer (some x), [(Vl (.int .i64 r63.2.1)), (Vl (.int .i64 r63.2.2.1)), (Sl Kf r63.2.2.2.1), (Vl (.int .i64 r63.2.2.2.2)), (Sl (Ki .i64) r63.1)], 158, none⟩, ⟨.pointer (some q9015), [(Vl (.int .i64 a0_0)), (Vl (.int .i64 a0_1)), (Vl (.int .i64 a0_2)), (Sl Kf a0_3), (Sl (Ki .i64) a0_4), (Sl (Kl (Ki .i64)) a0_5), (Sl KT27 a0_6)], 27, none⟩]) (fun _ => rfl) rfl rfl) rfl bs_nil (wt_none' rfl) rfl fun q63 => ?_
                exact tx_pick' [1, 2] (sub_cons rfl (sub_cons rfl sub_nil)) (by decide) (pick_cons rfl (pick_cons rfl pick_nil)) (hN13 (q63, q9015))
              · refine nx_rd (last := #[true, true, true, true, true, true, true, false, true, true, false, false, false]) rfl (rd_load' (i := 2) (o := 2) rfl ⟨rfl, rfl, rfl, rfl⟩ rfl flat3) rfl rfl (wt_none' rfl) rfl ?_
                exact tx_pick' [0, 1] (sub_cons rfl (sub_cons rfl (sub_cons rfl (sub_cons rfl sub_nil)))) (by decide) (pick_cons rfl (pick_cons rfl pick_nil)) (hN14 (q9013, q9014))
            intro hN11
            refine ax_node (f' := 5) #[true, true, true, true, true, true, false, false, true, true, false, false, false] (fun (v11 : Addr) => (⟨116, [], [(56, (Vl (.int .i64 a0_1))), (57, (Sl Kf r12)), (61, (Vl (.func (.func 115) #[] ⟨[.pointer (some v11)]⟩))), (65, (Vl (.int .i64 a0_2)))], [⟨.pointer (some v11), [(Sl (Ki .i64) r61)], 23, none⟩]⟩ : St)) ?_ ?_
            · rintro q9016
              refine ax_all (i := 6) (is := []) (by kernel_rfl) (all_cons ?_ all_nil)
              · refine nx_ox (last := #[true, true, true, true, true, true, true, false, true, true, false, false, false]) rfl (ox_srow' (es := 1) (r := [(Vl (.func (.func 115) #[] ⟨[.pointer (some q9016)]⟩))]) (qs := [(0, [(Vl (.func (.func 115) #[] ⟨[.pointer (some q9016)]⟩))])]) ⟨rfl, ⟨_, rfl, (lv_vl rfl rfl)⟩, trivial⟩ Try.underlying177 info133 rfl rfl rfl rfl rfl rfl rfl rfl rfl) rfl bs_nil (wt_none' rfl) rfl fun q62 => ?_
                exact tx_pick' [0, 1] (sub_cons rfl (sub_cons rfl (sub_cons rfl (sub_cons rfl sub_nil)))) (by decide) (pick_cons rfl (pick_cons rfl pick_nil)) (hN14 (q62, q9016))
            intro hN12
            refine ax_node (f' := 6) #[true, true, true, true, true, true, true, false, false, false, false, false, false] (fun (v6 : Addr × Addr × Addr) => (⟨116, [], [(1, (Vl (.pointer (some v6.1)))), (56, (Vl (.int .i64 a0_1))), (57, (Sl Kf r12)), (62, (Vl (.slice (some v6.2.1) 1 1)))], [⟨.pointer (some v6.1), [(Vl (.int .i64 a0_0)), (Vl (.int .i64 a0_1)), (Vl (.int .i64 a0_2)), (Sl Kf a0_3), (Sl (Ki .i64) a0_4), (Sl (Kl (Ki .i64)) a0_5), (Sl KT27 a0_6)], 27, none⟩, ⟨.slice (some v6.2.1) 1 1, [(Vl (.func (.func 115) #[] ⟨[.pointer (some v6.2.2)]⟩))], 133, some 1⟩, ⟨.pointer (some v6.2.2), [(Sl (Ki .i64) r61)], 23, none⟩]⟩ : St)) ?_ ?_
            · rintro ⟨q906, q907, q908⟩
              refine ax_all (i := 7) (is := [8]) (by kernel_rfl) (all_cons ?_ (all_cons ?_ all_nil))
              · refine nx_ox (last := #[true, true, true, true, true, true, true, true, false, false, false, false, false]) rfl (ox_callg' (ent_fn' Try.func94 isn94 rfl rfl) (gogeom_NewMultiPointFlat_sim _ _ _ hr63 : Go.Sx.Fn Try.prog 94 [(Vl (.int .i64 a0_1)), (Sl Kf r12), (Vl (.slice (some q907) 1 1))] [⟨.slice (some q907) 1 1, [(Vl (.func (.func 115) #[] ⟨[.pointer (some q908)]⟩))], 133, some 1⟩, ⟨.pointer (some q908), [(Sl (Ki .i64) r61)], 23, none⟩] (fun x : Addr => (Vl (.pointer (some x)))) (fun x => [⟨.pointer (some q908), [(Sl (Ki .i64) r63.1)], 23, none⟩, ⟨.pointer (some x), [(Vl (.int .i64 r63.2.1)), (Vl (.int .i64 r63.2.2.1)), (Sl Kf r63.2.2.2.1), (Vl (.int .i64 r63.2.2.2.2)), (Sl (Ki .i64) r63.1)], 158, none⟩])) [1, 2] [0] (by decide) (pick_cons rfl (pick_cons rfl pick_nil)) (pick_cons rfl pick_nil) (Hn := fun x : Addr => [⟨.pointer (some q908), [(Sl (Ki .i64) r63.1)], 23, none⟩, ⟨.pointer (some x), [(Vl (.int .i64 r63.2.1)), (Vl (.int .i64 r63.2.2.1)), (Sl Kf r63.2.2.2.1), (Vl (.int .i64 r63.2.2.2.2)), (Sl (Ki .i64) r63.1)], 158, none⟩, ⟨.pointer (some q906), [(Vl (.int .i64 a0_0)), (Vl (.int .i64 a0_1)), (Vl (.int .i64 a0_2)), (Sl Kf a0_3), (Sl (Ki .i64) a0_4), (Sl (Kl (Ki .i64)) a0_5), (Sl KT27 a0_6)], 27, none⟩]) (fun _ => rfl) rfl rfl) rfl bs_nil (wt_none' rfl) rfl fun q63 => ?_
                exact tx_pick' [2, 1] (sub_cons rfl (sub_cons rfl sub_nil)) (by decide) (pick_cons rfl (pick_cons rfl pick_nil)) (hN10 (q906, q63))
              · refine nx_rd (last := #[true, true, true, true, true, true, true, false, true, false, false, false, false]) rfl (rd_field' (off := 2) rfl Try.underlying27 rfl info3 rfl) rfl rfl (wt_none' rfl) rfl ?_
                exact tx_pick' [1, 2, 0] (sub_cons rfl (sub_cons rfl (sub_cons rfl (sub_cons rfl sub_nil)))) (by decide) (pick_cons rfl (pick_cons rfl (pick_cons rfl pick_nil))) (hN11 (q907, q908, q906))
            intro hN7
            refine ax_node (f' := 6) #[true, true, true, true, true, true, false, false, true, false, false, false, false] (fun (v7 : Addr × Addr) => (⟨116, [], [(56, (Vl (.int .i64 a0_1))), (57, (Sl Kf r12)), (61, (Vl (.func (.func 115) #[] ⟨[.pointer (some v7.1)]⟩))), (64, (Vl (.pointer (some ((v7.2).add 2)))))], [⟨.pointer (some v7.1), [(Sl (Ki .i64) r61)], 23, none⟩, ⟨.pointer (some v7.2), [(Vl (.int .i64 a0_0)), (Vl (.int .i64 a0_1)), (Vl (.int .i64 a0_2)), (Sl Kf a0_3), (Sl (Ki .i64) a0_4), (Sl (Kl (Ki .i64)) a0_5), (Sl KT27 a0_6)], 27, none⟩]⟩ : St)) ?_ ?_
            · rintro ⟨q909, q9010⟩
              refine ax_all (i := 6) (is := [9]) (by kernel_rfl) (all_cons ?_ (all_cons ?_ all_nil))
              · refine nx_ox (last := #[true, true, true, true, true, true, true, false, true, false, false, false, false]) rfl (ox_srow' (es := 1) (r := [(Vl (.func (.func 115) #[] ⟨[.pointer (some q909)]⟩))]) (qs := [(0, [(Vl (.func (.func 115) #[] ⟨[.pointer (some q909)]⟩))])]) ⟨rfl, ⟨_, rfl, (lv_vl rfl rfl)⟩, trivial⟩ Try.underlying177 info133 rfl rfl rfl rfl rfl rfl rfl rfl rfl) rfl bs_nil (wt_none' rfl) rfl fun q62 => ?_
                exact tx_pick' [0, 1, 2] (sub_cons rfl (sub_cons rfl (sub_cons rfl (sub_cons rfl sub_nil)))) (by decide) (pick_cons rfl (pick_cons rfl (pick_cons rfl pick_nil))) (hN11 (q62, q909, q9010))
              · refine nx_rd (last := #[true, true, true, true, true, true, false, false, true, true, false, false, false]) rfl (rd_load' (i := 1) (o := 2) rfl ⟨rfl, rfl, rfl, rfl⟩ rfl flat3) rfl rfl (wt_none' rfl) rfl ?_
                exact tx_pick' [0] (sub_cons rfl (sub_cons rfl (sub_cons rfl (sub_cons rfl sub_nil)))) (by decide) (pick_cons rfl pick_nil) (hN12 q909)
            intro hN8
            refine ax_node (f' := 6) #[true, true, true, true, true, false, false, false, true, true, false, false, false] (fun (v8 : Unit) => (⟨116, [], [(56, (Vl (.int .i64 a0_1))), (57, (Sl Kf r12)), (60, (Sl (Ki .i64) r60)), (65, (Vl (.int .i64 a0_2)))], []⟩ : St)) ?_ ?_
            · rintro ⟨⟩
              refine ax_all (i := 5) (is := []) (by kernel_rfl) (all_cons ?_ all_nil)
              · refine nx_ox (last := #[true, true, true, true, true, true, false, false, true, true, false, false, false]) rfl (ox_calln' (ent_fn' Try.func95 isn95 rfl rfl) (gogeom_NewMultiPointFlatOptionWithEnds_sim _ hr61 : Go.Sx.Fn Try.prog 95 [(Sl (Ki .i64) r60)] [] (fun x : Addr => (Vl (.func (.func 115) #[] ⟨[.pointer (some x)]⟩))) (fun x => [⟨.pointer (some x), [(Sl (Ki .i64) r61)], 23, none⟩])) (Hn := fun x : Addr => [⟨.pointer (some x), [(Sl (Ki .i64) r61)], 23, none⟩]) (fun _ => rfl) rfl rfl) rfl bs_nil (wt_none' rfl) rfl fun q61 => ?_
                exact tx_pick' [0] (sub_cons rfl (sub_cons rfl (sub_cons rfl (sub_cons rfl sub_nil)))) (by decide) (pick_cons rfl pick_nil) (hN12 q61)
            intro hN9
            refine ax_node (f' := 7) #[true, true, true, true, true, true, false, false, false, false, false, false, false] (fun (v3 : Addr × Addr) => (⟨116, [], [(1, (Vl (.pointer (some v3.1)))), (56, (Vl (.int .i64 a0_1))), (57, (Sl Kf r12)), (61, (Vl (.func (.func 115) #[] ⟨[.pointer (some v3.2)]⟩)))], [⟨.pointer (some v3.1), [(Vl (.int .i64 a0_0)), (Vl (.int .i64 a0_1)), (Vl (.int .i64 a0_2)), (Sl Kf a0_3), (Sl (Ki .i64) a0_4), (Sl (Kl (Ki .i64)) a0_5), (Sl KT27 a0_6)], 27, none⟩, ⟨.pointer (some v3.2), [(Sl (Ki .i64) r61)], 23, none⟩]⟩ : St)) ?_ ?_
            · rintro ⟨q903, q904⟩
              refine ax_all (i := 6) (is := [8]) (by kernel_rfl) (all_cons ?_ (all_cons ?_ all_nil))
              · refine nx_ox (last := #[true, true, true, true, true, true, true, false, false, false, false, false, false]) rfl (ox_srow' (es := 1) (r := [(Vl (.func (.func 115) #[] ⟨[.pointer (some q904)]⟩))]) (qs := [(0, [(Vl (.func (.func 115) #[] ⟨[.pointer (some q904)]⟩))])]) ⟨rfl, ⟨_, rfl, (lv_vl rfl rfl)⟩, trivial⟩ Try.underlying177 info133 rfl rfl rfl rfl rfl rfl rfl rfl rfl) rfl bs_nil (wt_none' rfl) rfl fun q62 => ?_
                exact tx_pick' [1, 0, 2] (sub_cons rfl (sub_cons rfl (sub_cons rfl (sub_cons rfl sub_nil)))) (by decide) (pick_cons rfl (pick_cons rfl (pick_cons rfl pick_nil))) (hN7 (q903, q62, q904))
              · refine nx_rd (last := #[true, true, true, true, true, true, false, false, true, false, false, false, false]) rfl (rd_field' (off := 2) rfl Try.underlying27 rfl info3 rfl) rfl rfl (wt_none' rfl) rfl ?_
                exact tx_pick' [1, 0] (sub_cons rfl (sub_cons rfl (sub_cons rfl (sub_cons rfl sub_nil)))) (by decide) (pick_cons rfl (pick_cons rfl pick_nil)) (hN8 (q904, q903))
            intro hN4
            refine ax_node (f' := 7) #[true, true, true, true, true, false, false, false, true, false, false, false, false] (fun (v4 : Addr) => (⟨116, [], [(56, (Vl (.int .i64 a0_1))), (57, (Sl Kf r12)), (60, (Sl (Ki .i64) r60)), (64, (Vl (.pointer (some ((v4).add 2)))))], [⟨.pointer (some v4), [(Vl (.int .i64 a0_0)), (Vl (.int .i64 a0_1)), (Vl (.int .i64 a0_2)), (Sl Kf a0_3), (Sl (Ki .i64) a0_4), (Sl (Kl (Ki .i64)) a0_5), (Sl KT27 a0_6)], 27, none⟩]⟩ : St)) ?_ ?_
            · rintro q905
              refine ax_all (i := 5) (is := [9]) (by kernel_rfl) (all_cons ?_ (all_cons ?_ all_nil))
              · refine nx_ox (last := #[true, true, true, true, true, true, false, false, true, false, false, false, false]) rfl (ox_calln' (ent_fn' Try.func95 isn95 rfl rfl) (gogeom_NewMultiPointFlatOptionWithEnds_sim _ hr61 : Go.Sx.Fn Try.prog 95 [(Sl (Ki .i64) r60)] [] (fun x : Addr => (Vl (.func (.func 115) #[] ⟨[.pointer (some x)]⟩))) (fun x => [⟨.pointer (some x), [(Sl (Ki .i64) r61)], 23, none⟩])) (Hn := fun x : Addr => [⟨.pointer (some x), [(Sl (Ki .i64) r61)], 23, none⟩, ⟨.pointer (some q905), [(Vl (.int .i64 a0_0)), (Vl (.int .i64 a0_1)), (Vl (.int .i64 a0_2)), (Sl Kf a0_3), (Sl (Ki .i64) a0_4), (Sl (Kl (Ki .i64)) a0_5), (Sl KT27 a0_6)], 27, none⟩]) (fun _ => rfl) rfl rfl) rfl bs_nil (wt_none' rfl) rfl fun q61 => ?_
                exact tx_pick' [0, 1] (sub_cons rfl (sub_cons rfl (sub_cons rfl (sub_cons rfl sub_nil)))) (by decide) (pick_cons rfl (pick_cons rfl pick_nil)) (hN8 (q61, q905))
              · refine nx_rd (last := #[true, true, true, true, true, false, false, false, true, true, false, false, false]) rfl (rd_load' (i := 0) (o := 2) rfl ⟨rfl, rfl, rfl, rfl⟩ rfl flat3) rfl rfl (wt_none' rfl) rfl ?_
                exact tx_pick' [] (sub_cons rfl (sub_cons rfl (sub_cons rfl (sub_cons rfl sub_nil)))) (by decide) pick_nil (hN9 ())
            intro hN5
            refine ax_node (f' := 7) #[true, true, true, true, false, false, false, false, true, true, false, false, false] (fun (v5 : Unit) => (⟨116, [], [(56, (Vl (.int .i64 a0_1))), (57, (Sl Kf r12)), (59, (Sl (Ki .i64) a0_4)), (65, (Vl (.int .i64 a0_2)))], []⟩ : St)) ?_ ?_
            · rintro ⟨⟩
              refine ax_all (i := 4) (is := []) (by kernel_rfl) (all_cons ?_ all_nil)
              · refine nx_ox (last := #[true, true, true, true, true, false, false, false, true, true, false, false, false]) rfl (ox_calln' (ent_fn' Try.func84 isn84 rfl rfl) (impl_ints_sim _ hr60 : Go.Sx.Fn Try.prog 84 [(Sl (Ki .i64) a0_4)] [] (fun x : Unit => (Sl (Ki .i64) r60)) (fun x => [])) (Hn := fun x : Unit => []) (fun _ => rfl) rfl rfl) rfl bs_nil (wt_none' rfl) rfl fun ⟨⟩ => ?_
                exact tx_pick' [] (sub_cons rfl (sub_cons rfl (sub_cons rfl (sub_cons rfl sub_nil)))) (by decide) pick_nil (hN9 ())
            intro hN6
            refine ax_node (f' := 8) #[true, true, true, true, true, false, false, false, false, false, false, false, false] (fun (v1 : Addr) => (⟨116, [], [(1, (Vl (.pointer (some v1)))), (56, (Vl (.int .i64 a0_1))), (57, (Sl Kf r12)), (60, (Sl (Ki .i64) r60))], [⟨.pointer (some v1), [(Vl (.int .i64 a0_0)), (Vl (.int .i64 a0_1)), (Vl (.int .i64 a0_2)), (Sl Kf a0_3), (Sl (Ki .i64) a0_4), (Sl (Kl (Ki .i64)) a0_5), (Sl KT27 a0_6)], 27, none⟩]⟩ : St)) ?_ ?_
            · rintro q901
              refine ax_all (i := 5) (is := [8]) (by kernel_rfl) (all_cons ?_ (all_cons ?_ all_nil))
              · refine nx_ox (last := #[true, true, true, true, true, true, false, false, false, false, false, false, false]) rfl (ox_calln' (ent_fn' Try.func95 isn95 rfl rfl) (gogeom_NewMultiPointFlatOptionWithEnds_sim _ hr61 : Go.Sx.Fn Try.prog 95 [(Sl (Ki .i64) r60)] [] (fun x : Addr => (Vl (.func (.func 115) #[] ⟨[.pointer (some x)]⟩))) (fun x => [⟨.pointer (some x), [(Sl (Ki .i64) r61)], 23, none⟩])) (Hn := fun x : Addr => [⟨.pointer (some x), [(Sl (Ki .i64) r61)], 23, none⟩, ⟨.pointer (some q901), [(Vl (.int .i64 a0_0)), (Vl (.int .i64 a0_1)), (Vl (.int .i64 a0_2)), (Sl Kf a0_3), (Sl (Ki .i64) a0_4), (Sl (Kl (Ki .i64)) a0_5), (Sl KT27 a0_6)], 27, none⟩]) (fun _ => rfl) rfl rfl) rfl bs_nil (wt_none' rfl) rfl fun q61 => ?_
                exact tx_pick' [1, 0] (sub_cons rfl (sub_cons rfl (sub_cons rfl (sub_cons rfl sub_nil)))) (by decide) (pick_cons rfl (pick_cons rfl pick_nil)) (hN4 (q901, q61))
              · refine nx_rd (last := #[true, true, true, true, true, false, false, false, true, false, false, false, false]) rfl (rd_field' (off := 2) rfl Try.underlying27 rfl info3 rfl) rfl rfl (wt_none' rfl) rfl ?_
                exact tx_pick' [0] (sub_cons rfl (sub_cons rfl (sub_cons rfl (sub_cons rfl sub_nil)))) (by decide) (pick_cons rfl pick_nil) (hN5 q901)
            intro hN2
            refine ax_node (f' := 8) #[true, true, true, true, false, false, false, false, true, false, false, false, false] (fun (v2 : Addr) => (⟨116, [], [(56, (Vl (.int .i64 a0_1))), (57, (Sl Kf r12)), (59, (Sl (Ki .i64) a0_4)), (64, (Vl (.pointer (some ((v2).add 2)))))], [⟨.pointer (some v2), [(Vl (.int .i64 a0_0)), (Vl (.int .i64 a0_1)), (Vl (.int .i64 a0_2)), (Sl Kf a0_3), (Sl (Ki .i64) a0_4), (Sl (Kl (Ki .i64)) a0_5), (Sl KT27 a0_6)], 27, none⟩]⟩ : St)) ?_ ?_
            · rintro q902
              refine ax_all (i := 4) (is := [9]) (by kernel_rfl) (all_cons ?_ (all_cons ?_ all_nil))
              · refine nx_ox (last := #[true, true, true, true, true, false, false, false, true, false, false, false, false]) rfl (ox_calln' (ent_fn' Try.func84 isn84 rfl rfl) (impl_ints_sim _ hr60 : Go.Sx.Fn Try.prog 84 [(Sl (Ki .i64) a0_4)] [] (fun x : Unit => (Sl (Ki .i64) r60)) (fun x => [])) (Hn := fun x : Unit => [⟨.pointer (some q902), [(Vl (.int .i64 a0_0)), (Vl (.int .i64 a0_1)), (Vl (.int .i64 a0_2)), (Sl Kf a0_3), (Sl (Ki .i64) a0_4), (Sl (Kl (Ki .i64)) a0_5), (Sl KT27 a0_6)], 27, none⟩]) (fun _ => rfl) rfl rfl) rfl bs_nil (wt_none' rfl) rfl fun ⟨⟩ => ?_
                exact tx_pick' [0] (sub_cons rfl (sub_cons rfl (sub_cons rfl (sub_cons rfl sub_nil)))) (by decide) (pick_cons rfl pick_nil) (hN5 q902)
              · refine nx_rd (last := #[true, true, true, true, false, false, false, false, true, true, false, false, false]) rfl (rd_load' (i := 0) (o := 2) rfl ⟨rfl, rfl, rfl, rfl⟩ rfl flat3) rfl rfl (wt_none' rfl) rfl ?_
                exact tx_pick' [] (sub_cons rfl (sub_cons rfl (sub_cons rfl (sub_cons rfl sub_nil)))) (by decide) pick_nil (hN6 ())
            intro hN3
            refine ax_all (i := 4) (is := [8]) (by kernel_rfl) (all_cons ?_ (all_cons ?_ all_nil))
            · refine nx_ox (last := #[true, true, true, true, true, false, false, false, false, false, false, false, false]) rfl (ox_calln' (ent_fn' Try.func84 isn84 rfl rfl) (impl_ints_sim _ hr60 : Go.Sx.Fn Try.prog 84 [(Sl (Ki .i64) a0_4)] [] (fun x : Unit => (Sl (Ki .i64) r60)) (fun x => [])) (Hn := fun x : Unit => [⟨.pointer (some q1), [(Vl (.int .i64 a0_0)), (Vl (.int .i64 a0_1)), (Vl (.int .i64 a0_2)), (Sl Kf a0_3), (Sl (Ki .i64) a0_4), (Sl (Kl (Ki .i64)) a0_5), (Sl KT27 a0_6)], 27, none⟩]) (fun _ => rfl) rfl rfl) rfl bs_nil (wt_none' rfl) rfl fun ⟨⟩ => ?_
              exact tx_pick' [0] (sub_cons rfl (sub_cons rfl (sub_cons rfl (sub_cons rfl sub_nil)))) (by decide) (pick_cons rfl pick_nil) (hN2 q1)
            · refine nx_rd (last := #[true, true, true, true, false, false, false, false, true, false, false, false, false]) rfl (rd_field' (off := 2) rfl Try.underlying27 rfl info3 rfl) rfl rfl (wt_none' rfl) rfl ?_
              exact tx_pick' [0] (sub_cons rfl (sub_cons rfl (sub_cons rfl (sub_cons rfl sub_nil)))) (by decide) (pick_cons rfl pick_nil) (hN3 q1)
          · replace hp := (br_f h5).symm.trans hp
            refine cx_seq' fun K15 hK15 => ?_
            refine cx_region' ?_
            refine sx_rd' (rd_bin' rfl rfl eg_int ru_eql) rfl rfl (wt_none' rfl) ?_
            refine sx_rd' (rd_assign' rfl) rfl rfl (wt_none' rfl) ?_
            refine sx_nil' ?_
            show TX E K15 _
            refine tx_k' hK15 ?_
            refine cx_cond' rfl (fun h6 => ?_) (fun h6 => ?_)
            · replace hp := (br_t h6).symm.trans hp
              refine cx_seq' fun K16 hK16 => ?_
              refine cx_plan' [] [(8, 2)] [(0, 1), (1, 1), (2, 1), (3, 1), (6, 1), (7, 1), (4, 0), (5, 0), (8, 0), (9, 1), (10, 1)] mixed (by kernel_rfl) ?_
              refine px_rd' rfl (rd_move' rfl) rfl rfl (wt_none' rfl) ?_
              refine px_rd' rfl (rd_move' rfl) rfl rfl (wt_none' rfl) ?_
              refine px_rd' rfl (rd_field' (off := 4) rfl Try.underlying27 rfl info23 rfl) rfl rfl (wt_none' rfl) ?_
              refine px_rd' rfl (rd_load' (i := 0) (o := 4) rfl ⟨rfl, rfl, rfl, rfl⟩ rfl flat23) rfl rfl (wt_none' rfl) ?_
              refine px_rd' rfl (rd_field' (off := 2) rfl Try.underlying27 rfl info3 rfl) rfl rfl (wt_none' rfl) ?_
              refine px_rd' rfl (rd_load' (i := 0) (o := 2) rfl ⟨rfl, rfl, rfl, rfl⟩ rfl flat3) rfl rfl (wt_none' rfl) ?_
              obtain ⟨r74, hr74, hp⟩ := bind_some hp
              refine px_ox' rfl (ox_calln' (ent_fn' Try.func84 isn84 rfl rfl) (impl_ints_sim _ hr74 : Go.Sx.Fn Try.prog 84 [(Sl (Ki .i64) a0_4)] [] (fun x : Unit => (Sl (Ki .i64) r74)) (fun x => [])) (Hn := fun x : Unit => [⟨.pointer (some q1), [(Vl (.int .i64 a0_0)), (Vl (.int .i64 a0_1)), (Vl (.int .i64 a0_2)), (Sl Kf a0_3), (Sl (Ki .i64) a0_4), (Sl (Kl (Ki .i64)) a0_5), (Sl KT27 a0_6)], 27, none⟩]) (fun _ => rfl) rfl rfl) rfl bs_nil (wt_none' rfl) fun ⟨⟩ => ?_
              obtain ⟨r75, hr75, hp⟩ := bind_some hp
              refine px_ox' rfl (ox_calln' (ent_fn' Try.func97 isn97 rfl rfl) (gogeom_NewMultiLineStringFlat_sim _ _ _ hr75 : Go.Sx.Fn Try.prog 97 [(Vl (.int .i64 a0_1)), (Sl Kf r12), (Sl (Ki .i64) r74)] [] (fun x : Addr => (Vl (.pointer (some x)))) (fun x => [⟨.pointer (some x), [(Vl (.int .i64 r75.1)), (Vl (.int .i64 r75.2.1)), (Sl Kf r75.2.2.1), (Vl (.int .i64 r75.2.2.2.1)), (Sl (Ki .i64) r75.2.2.2.2)], 161, none⟩])) (Hn := fun x : Addr => [⟨.pointer (some x), [(Vl (.int .i64 r75.1)), (Vl (.int .i64 r75.2.1)), (Sl Kf r75.2.2.1), (Vl (.int .i64 r75.2.2.2.1)), (Sl (Ki .i64) r75.2.2.2.2)], 161, none⟩, ⟨.pointer (some q1), [(Vl (.int .i64 a0_0)), (Vl (.int .i64 a0_1)), (Vl (.int .i64 a0_2)), (Sl Kf a0_3), (Sl (Ki .i64) a0_4), (Sl (Kl (Ki .i64)) a0_5), (Sl KT27 a0_6)], 27, none⟩]) (fun _ => rfl) rfl rfl) rfl bs_nil (wt_none' rfl) fun q75 => ?_
              obtain ⟨r78, hr78, hp⟩ := bind_some hp
              refine px_ox' rfl (ox_callg' (ent_fn' Try.func98 isn98 rfl rfl) (gogeom_MultiLineString_SetSRID_sim _ _ _ _ _ _ hr78 : Go.Sx.Fn Try.prog 98 [(Vl (.pointer (some q75))), (Vl (.int .i64 a0_2))] [⟨.pointer (some q75), [(Vl (.int .i64 r75.1)), (Vl (.int .i64 r75.2.1)), (Sl Kf r75.2.2.1), (Vl (.int .i64 r75.2.2.2.1)), (Sl (Ki .i64) r75.2.2.2.2)], 161, none⟩] (fun x : Unit => (Vl (.pointer (some q75)))) (fun x => [⟨.pointer (some q75), [(Vl (.int .i64 r78.1)), (Vl (.int .i64 r78.2.1)), (Sl Kf r78.2.2.1), (Vl (.int .i64 r78.2.2.2.1)), (Sl (Ki .i64) r78.2.2.2.2)], 161, none⟩])) [0] [1] (by decide) (pick_cons rfl pick_nil) (pick_cons rfl pick_nil) (Hn := fun x : Unit => [⟨.pointer (some q75), [(Vl (.int .i64 r78.1)), (Vl (.int .i64 r78.2.1)), (Sl Kf r78.2.2.1), (Vl (.int .i64 r78.2.2.2.1)), (Sl (Ki .i64) r78.2.2.2.2)], 161, none⟩, ⟨.pointer (some q1), [(Vl (.int .i64 a0_0)), (Vl (.int .i64 a0_1)), (Vl (.int .i64 a0_2)), (Sl Kf a0_3), (Sl (Ki .i64) a0_4), (Sl (Kl (Ki .i64)) a0_5), (Sl KT27 a0_6)], 27, none⟩]) (fun _ => rfl) rfl rfl) rfl bs_nil (wt_none' rfl) fun ⟨⟩ => ?_
              refine px_rd' rfl (rd_iface' rfl ⟨_, Try.underlying92, fun _ h => (nomatch h)⟩) rfl rfl (wt_none' rfl) ?_
              refine px_rd' rfl (rd_assign' rfl) rfl rfl (wt_none' rfl) ?_
              refine px_nil' ?_
              show TX E K16 _
              refine tx_k' hK16 ?_
              refine cx_retc' ?_
              replace hp := Option.some.inj hp
              subst hp
              refine tx_pick' (L' := [(2, (If 92 (Vl (.pointer (some q75)))))]) (H' := [⟨.pointer (some q75), [(Vl (.int .i64 r78.1)), (Vl (.int .i64 r78.2.1)), (Sl Kf r78.2.2.1), (Vl (.int .i64 r78.2.2.2.1)), (Sl (Ki .i64) r78.2.2.2.2)], 161, none⟩]) [0] (sub_cons rfl sub_nil) (by decide) (pick_cons rfl pick_nil) ?_
              exact tx_ret1' Try.results52 rfl q75 (rv_tmp' rfl) (List.Sublist.refl _)
            · replace hp := (br_f h6).symm.trans hp
              refine cx_seq' fun K17 hK17 => ?_
              refine cx_region' ?_
              refine sx_rd' (rd_bin' rfl rfl eg_int ru_eql) rfl rfl (wt_none' rfl) ?_
              refine sx_rd' (rd_assign' rfl) rfl rfl (wt_none' rfl) ?_
              refine sx_nil' ?_
              show TX E K17 _
              refine tx_k' hK17 ?_
              refine cx_cond' rfl (fun h7 => ?_) (fun h7 => ?_)
              · replace hp := (br_t h7).symm.trans hp
                refine cx_seq' fun K18 hK18 => ?_
                refine cx_plan' [] [(8, 2)] [(0, 1), (1, 1), (2, 1), (3, 1), (6, 1), (7, 1), (4, 0), (5, 0), (8, 0), (9, 1), (10, 1)] mixed (by kernel_rfl) ?_
                refine px_rd' rfl (rd_move' rfl) rfl rfl (wt_none' rfl) ?_
                refine px_rd' rfl (rd_move' rfl) rfl rfl (wt_none' rfl) ?_
                refine px_rd' rfl (rd_field' (off := 5) rfl Try.underlying27 rfl info24 rfl) rfl rfl (wt_none' rfl) ?_
                refine px_rd' rfl (rd_load' (i := 0) (o := 5) rfl ⟨rfl, rfl, rfl, rfl⟩ rfl flat24) rfl rfl (wt_none' rfl) ?_
                refine px_rd' rfl (rd_field' (off := 2) rfl Try.underlying27 rfl info3 rfl) rfl rfl (wt_none' rfl) ?_
                refine px_rd' rfl (rd_load' (i := 0) (o := 2) rfl ⟨rfl, rfl, rfl, rfl⟩ rfl flat3) rfl rfl (wt_none' rfl) ?_
                obtain ⟨r86, hr86, hp⟩ := bind_some hp
                refine px_ox' rfl (ox_calln' (ent_fn' Try.func51 isn51 rfl rfl) (impl_intss_sim _ hr86 : Go.Sx.Fn Try.prog 51 [(Sl (Kl (Ki .i64)) a0_5)] [] (fun x : Unit => (Sl (Kl (Ki .i64)) r86)) (fun x => [])) (Hn := fun x : Unit => [⟨.pointer (some q1), [(Vl (.int .i64 a0_0)), (Vl (.int .i64 a0_1)), (Vl (.int .i64 a0_2)), (Sl Kf a0_3), (Sl (Ki .i64) a0_4), (Sl (Kl (Ki .i64)) a0_5), (Sl KT27 a0_6)], 27, none⟩]) (fun _ => rfl) rfl rfl) rfl bs_nil (wt_none' rfl) fun ⟨⟩ => ?_
                obtain ⟨r87, hr87, hp⟩ := bind_some hp
                refine px_ox' rfl (ox_calln' (ent_fn' Try.func99 isn99 rfl rfl) (gogeom_NewMultiPolygonFlat_sim _ _ _ hr87 : Go.Sx.Fn Try.prog 99 [(Vl (.int .i64 a0_1)), (Sl Kf r12), (Sl (Kl (Ki .i64)) r86)] [] (fun x : Addr => (Vl (.pointer (some x)))) (fun x => [⟨.pointer (some x), [(Vl (.int .i64 r87.1)), (Vl (.int .i64 r87.2.1)), (Sl Kf r87.2.2.1), (Vl (.int .i64 r87.2.2.2.1)), (Sl (Kl (Ki .i64)) r87.2.2.2.2)], 165, none⟩])) (Hn := fun x : Addr => [⟨.pointer (some x), [(Vl (.int .i64 r87.1)), (Vl (.int .i64 r87.2.1)), (Sl Kf r87.2.2.1), (Vl (.int .i64 r87.2.2.2.1)), (Sl (Kl (Ki .i64)) r87.2.2.2.2)], 165, none⟩, ⟨.pointer (some q1), [(Vl (.int .i64 a0_0)), (Vl (.int .i64 a0_1)), (Vl (.int .i64 a0_2)), (Sl Kf a0_3), (Sl (Ki .i64) a0_4), (Sl (Kl (Ki .i64)) a0_5), (Sl KT27 a0_6)], 27, none⟩]) (fun _ => rfl) rfl rfl) rfl bs_nil (wt_none' rfl) fun q87 => ?_
                obtain ⟨r90, hr90, hp⟩ := bind_some hp
                refine px_ox' rfl (ox_callg' (ent_fn' Try.func100 isn100 rfl rfl) (gogeom_MultiPolygon_SetSRID_sim _ _ _ _ _ _ hr90 : Go.Sx.Fn Try.prog 100 [(Vl (.pointer (some q87))), (Vl (.int .i64 a0_2))] [⟨.pointer (some q87), [(Vl (.int .i64 r87.1)), (Vl (.int .i64 r87.2.1)), (Sl Kf r87.2.2.1), (Vl (.int .i64 r87.2.2.2.1)), (Sl (Kl (Ki .i64)) r87.2.2.2.2)], 165, none⟩] (fun x : Unit => (Vl (.pointer (some q87)))) (fun x => [⟨.pointer (some q87), [(Vl (.int .i64 r90.1)), (Vl (.int .i64 r90.2.1)), (Sl Kf r90.2.2.1), (Vl (.int .i64 r90.2.2.2.1)), (Sl (Kl (Ki .i64)) r90.2.2.2.2)], 165, none⟩])) [0] [1] (by decide) (pick_cons rfl pick_nil) (pick_cons rfl pick_nil) (Hn := fun x : Unit => [⟨.pointer (some q87), [(Vl (.int .i64 r90.1)), (Vl (.int .i64 r90.2.1)), (Sl Kf r90.2.2.1), (Vl (.int .i64 r90.2.2.2.1)), (Sl (Kl (Ki .i64)) r90.2.2.2.2)], 165, none⟩, ⟨.pointer (some q1), [(Vl (.int .i64 a0_0)), (Vl (.int .i64 a0_1)), (Vl (.int .i64 a0_2)), (Sl Kf a0_3), (Sl (Ki .i64) a0_4), (Sl (Kl (Ki .i64)) a0_5), (Sl KT27 a0_6)], 27, none⟩]) (fun _ => rfl) rfl rfl) rfl bs_nil (wt_none' rfl) fun ⟨⟩ => ?_
                refine px_rd' rfl (rd_iface' rfl ⟨_, Try.underlying95, fun _ h => (nomatch h)⟩) rfl rfl (wt_none' rfl) ?_
                refine px_rd' rfl (rd_assign' rfl) rfl rfl (wt_none' rfl) ?_
                refine px_nil' ?_
                show TX E K18 _
                refine tx_k' hK18 ?_
                refine cx_retc' ?_
                replace hp := Option.some.inj hp
                subst hp
                refine tx_pick' (L' := [(2, (If 95 (Vl (.pointer (some q87)))))]) (H' := [⟨.pointer (some q87), [(Vl (.int .i64 r90.1)), (Vl (.int .i64 r90.2.1)), (Sl Kf r90.2.2.1), (Vl (.int .i64 r90.2.2.2.1)), (Sl (Kl (Ki .i64)) r90.2.2.2.2)], 165, none⟩]) [0] (sub_cons rfl sub_nil) (by decide) (pick_cons rfl pick_nil) ?_
                exact tx_ret1' Try.results52 rfl q87 (rv_tmp' rfl) (List.Sublist.refl _)
              · replace hp := (br_f h7).symm.trans hp
                refine cx_seq' fun K19 hK19 => ?_
                refine cx_region' ?_
                refine sx_rd' (rd_bin' rfl rfl eg_int ru_eql) rfl rfl (wt_none' rfl) ?_
                refine sx_rd' (rd_assign' rfl) rfl rfl (wt_none' rfl) ?_
                refine sx_nil' ?_
                show TX E K19 _
                refine tx_k' hK19 ?_
                refine cx_cond' rfl (fun h8 => ?_) (fun h8 => ?_)
                · replace hp := (br_t h8).symm.trans hp
                  refine cx_seq' fun K20 hK20 => ?_
                  refine cx_plan' [] [(3, 2)] [(1, 1), (2, 1), (0, 0), (3, 0), (4, 1)] mixed (by kernel_rfl) ?_
                  refine px_rd' rfl (rd_field' (off := 2) rfl Try.underlying27 rfl info3 rfl) rfl rfl (wt_none' rfl) ?_
                  refine px_rd' rfl (rd_load' (i := 0) (o := 2) rfl ⟨rfl, rfl, rfl, rfl⟩ rfl flat3) rfl rfl (wt_none' rfl) ?_
                  obtain ⟨r94, hr94, hp⟩ := bind_some hp
                  refine px_ox' rfl (ox_calln' (ent_fn' Try.func101 isn101 rfl rfl) (gogeom_NewGeometryCollection_sim hr94 : Go.Sx.Fn Try.prog 101 [] [] (fun x : Addr => (Vl (.pointer (some x)))) (fun x => [⟨.pointer (some x), [(Vl (.int .i64 r94)), (Vl (.slice none 0 0)), (Vl (.int .i64 r94))], 145, none⟩])) (Hn := fun x : Addr => [⟨.pointer (some x), [(Vl (.int .i64 r94)), (Vl (.slice none 0 0)), (Vl (.int .i64 r94))], 145, none⟩, ⟨.pointer (some q1), [(Vl (.int .i64 a0_0)), (Vl (.int .i64 a0_1)), (Vl (.int .i64 a0_2)), (Sl Kf a0_3), (Sl (Ki .i64) a0_4), (Sl (Kl (Ki .i64)) a0_5), (Sl KT27 a0_6)], 27, none⟩]) (fun _ => rfl) rfl rfl) rfl bs_nil (wt_none' rfl) fun q94 => ?_
                  obtain ⟨r97, hr97, hp⟩ := bind_some hp
                  refine px_ox' rfl (ox_callg' (ent_fn' Try.func102 isn102 rfl rfl) (gogeom_GeometryCollection_SetSRID_sim _ _ _ hr97 : Go.Sx.Fn Try.prog 102 [(Vl (.pointer (some q94))), (Vl (.int .i64 a0_2))] [⟨.pointer (some q94), [(Vl (.int .i64 r94)), (Vl (.slice none 0 0)), (Vl (.int .i64 r94))], 145, none⟩] (fun x : Unit => (Vl (.pointer (some q94)))) (fun x => [⟨.pointer (some q94), [(Vl (.int .i64 r97.1)), (Vl (.slice none 0 0)), (Vl (.int .i64 r97.2))], 145, none⟩])) [0] [1] (by decide) (pick_cons rfl pick_nil) (pick_cons rfl pick_nil) (Hn := fun x : Unit => [⟨.pointer (some q94), [(Vl (.int .i64 r97.1)), (Vl (.slice none 0 0)), (Vl (.int .i64 r97.2))], 145, none⟩, ⟨.pointer (some q1), [(Vl (.int .i64 a0_0)), (Vl (.int .i64 a0_1)), (Vl (.int .i64 a0_2)), (Sl Kf a0_3), (Sl (Ki .i64) a0_4), (Sl (Kl (Ki .i64)) a0_5), (Sl KT27 a0_6)], 27, none⟩]) (fun _ => rfl) rfl rfl) rfl bs_nil (wt_none' rfl) fun ⟨⟩ => ?_
                  refine px_rd' rfl (rd_assign' rfl) rfl rfl (wt_none' rfl) ?_
                  refine px_nil' ?_
                  show TX E K20 _
                  refine tx_k' hK20 ?_
                  refine cx_seq' fun K21 hK21 => ?_
                  refine cx_seq' fun K22 hK22 => ?_
                  refine cx_region' ?_
                  refine sx_rd' (rd_field' (off := 6) rfl Try.underlying27 rfl info25 rfl) rfl rfl (wt_none' rfl) ?_
                  refine sx_rd' (rd_load' (i := 1) (o := 6) rfl ⟨rfl, rfl, rfl, rfl⟩ rfl flat25) rfl rfl (wt_none' rfl) ?_
                  refine sx_rd' (rd_len' rfl Try.underlying25) rfl rfl (wt_none' rfl) ?_
                  refine sx_rd' (rd_move' rfl) rfl rfl (wt_none' rfl) ?_
                  refine sx_nil' ?_
                  show TX E K22 _
                  refine tx_k' hK22 ?_
                  refine cx_block' ?_
                  refine tx_loop' ?_
                  refine tx_round' ?_
                  refine cx_seq' fun K23 hK23 => ?_
                  refine cx_region' ?_
                  refine sx_rd' (rd_bin' rfl rfl eg_int ru_lss) rfl rfl (wt_none' rfl) ?_
                  refine sx_nil' ?_
                  show TX E K23 _
                  refine tx_k' hK23 ?_
                  refine cx_seq' fun K24 hK24 => ?_
                  refine cx_cond' rfl (fun h9 => ?_) (fun h9 => ?_)
                  · replace hp := (br_t h9).symm.trans hp
                    cases hp
                  · replace hp := (br_f h9).symm.trans hp
                    refine cx_exit' ?_
                    show TX E K21 _
                    refine tx_k' hK21 ?_
                    refine cx_seq' fun K27 hK27 => ?_
                    refine cx_region' ?_
                    refine sx_rd' (rd_move' rfl) rfl rfl (wt_none' rfl) ?_
                    refine sx_rd' (rd_move' rfl) rfl rfl (wt_none' rfl) ?_
                    obtain ⟨r113, hr113, hp⟩ := bind_some hp
                    refine sx_ox' (ox_callg' (ent_fn' Try.func104 isn104 rfl rfl) (gogeom_GeometryCollection_MustSetLayout_sim _ _ _ hr113 : Go.Sx.Fn Try.prog 104 [(Vl (.pointer (some q94))), (Vl (.int .i64 a0_1))] [⟨.pointer (some q94), [(Vl (.int .i64 r97.1)), (Vl (.slice none 0 0)), (Vl (.int .i64 r97.2))], 145, none⟩] (fun x : Unit => (Vl (.pointer (some q94)))) (fun x => [⟨.pointer (some q94), [(Vl (.int .i64 r113.1)), (Vl (.slice none 0 0)), (Vl (.int .i64 r113.2))], 145, none⟩])) [0] [1] (by decide) (pick_cons rfl pick_nil) (pick_cons rfl pick_nil) (Hn := fun x : Unit => [⟨.pointer (some q94), [(Vl (.int .i64 r113.1)), (Vl (.slice none 0 0)), (Vl (.int .i64 r113.2))], 145, none⟩, ⟨.pointer (some q1), [(Vl (.int .i64 a0_0)), (Vl (.int .i64 a0_1)), (Vl (.int .i64 a0_2)), (Sl Kf a0_3), (Sl (Ki .i64) a0_4), (Sl (Kl (Ki .i64)) a0_5), (Sl KT27 a0_6)], 27, none⟩]) (fun _ => rfl) rfl rfl) (wt_none' rfl) fun ⟨⟩ => ?_
                    refine sx_rd' (rd_iface' rfl ⟨_, Try.underlying81, fun _ h => (nomatch h)⟩) rfl rfl (wt_none' rfl) ?_
                    refine sx_rd' (rd_assign' rfl) rfl rfl (wt_none' rfl) ?_
                    refine sx_nil' ?_
                    show TX E K27 _
                    refine tx_k' hK27 ?_
                    refine cx_retc' ?_
                    replace hp := Option.some.inj hp
                    subst hp
                    refine tx_pick' (L' := [(2, (If 81 (Vl (.pointer (some q94)))))]) (H' := [⟨.pointer (some q94), [(Vl (.int .i64 r113.1)), (Vl (.slice none 0 0)), (Vl (.int .i64 r113.2))], 145, none⟩]) [0] (sub_cons rfl sub_nil) (by decide) (pick_cons rfl pick_nil) ?_
                    exact tx_ret1' Try.results52 rfl q94 (rv_tmp' rfl) (List.Sublist.refl _)
                · replace hp := (br_f h8).symm.trans hp
                  refine cx_skip' ?_
                  show TX E K3 _
                  refine tx_k' hK3 ?_
                  refine cx_region' ?_
                  refine sx_rd' (rd_iface' rfl ⟨_, Try.underlying9, fun _ h => (nomatch h)⟩) rfl rfl (wt_none' rfl) ?_
                  cases hp
theorem impl_geometry_simA : ∀ (k : Nat)  (a0_0 : Int) (a0_1 : Int) (a0_2 : Int) (a0_3 : List Nat) (a0_4 : List Int) (a0_5 : List (List Int)) (a0_6 : List T27) (out : (Int × Int × (List Nat) × Int) ⊕ ((Int × Int × (List Nat) × Int) ⊕ ((Int × Int × (List Nat) × Int) ⊕ ((Int × Int × (List Nat) × Int × (List Int)) ⊕ ((Int × Int × (List Nat) × Int × (List Int)) ⊕ ((Int × Int × (List Nat) × Int × (List Int)) ⊕ ((Int × Int × (List Nat) × Int × (List (List Int))) ⊕ (Int × Int)))))))), impl_geometry k a0_0 a0_1 a0_2 a0_3 a0_4 a0_5 a0_6 = some out → Go.Sx.Fn Try.prog 52 [(Ag [(Vl (.int .i64 a0_0)), (Vl (.int .i64 a0_1)), (Vl (.int .i64 a0_2)), (Sl Kf a0_3), (Sl (Ki .i64) a0_4), (Sl (Kl (Ki .i64)) a0_5), (Sl KT27 a0_6)])] [] (fun w => impl_geometry_r a0_0 a0_1 a0_2 a0_3 a0_4 a0_5 a0_6 out w) (fun w => impl_geometry_h a0_0 a0_1 a0_2 a0_3 a0_4 a0_5 a0_6 out w) := by
  intro k
  induction k with
  | zero => intro a0_0 a0_1 a0_2 a0_3 a0_4 a0_5 a0_6 out hp; cases hp
  | succ k ih => intro a0_0 a0_1 a0_2 a0_3 a0_4 a0_5 a0_6 out hp; exact impl_geometry_b_sim ih a0_0 a0_1 a0_2 a0_3 a0_4 a0_5 a0_6 hp
theorem impl_geometry_sim {k : Nat}  (a0_0 : Int) (a0_1 : Int) (a0_2 : Int) (a0_3 : List Nat) (a0_4 : List Int) (a0_5 : List (List Int)) (a0_6 : List T27) {out : (Int × Int × (List Nat) × Int) ⊕ ((Int × Int × (List Nat) × Int) ⊕ ((Int × Int × (List Nat) × Int) ⊕ ((Int × Int × (List Nat) × Int × (List Int)) ⊕ ((Int × Int × (List Nat) × Int × (List Int)) ⊕ ((Int × Int × (List Nat) × Int × (List Int)) ⊕ ((Int × Int × (List Nat) × Int × (List (List Int))) ⊕ (Int × Int)))))))} (hp : impl_geometry k a0_0 a0_1 a0_2 a0_3 a0_4 a0_5 a0_6 = some out) : Go.Sx.Fn Try.prog 52 [(Ag [(Vl (.int .i64 a0_0)), (Vl (.int .i64 a0_1)), (Vl (.int .i64 a0_2)), (Sl Kf a0_3), (Sl (Ki .i64) a0_4), (Sl (Kl (Ki .i64)) a0_5), (Sl KT27 a0_6)])] [] (fun w => impl_geometry_r a0_0 a0_1 a0_2 a0_3 a0_4 a0_5 a0_6 out w) (fun w => impl_geometry_h a0_0 a0_1 a0_2 a0_3 a0_4 a0_5 a0_6 out w) := impl_geometry_simA k a0_0 a0_1 a0_2 a0_3 a0_4 a0_5 a0_6 out hp

def gogeom_geom0_NumCoords (k : Nat) (a0_0 : Int) (a0_1 : Int) (a0_2 : List Nat) (a0_3 : Int) : Option (Int × Int × (List Nat) × Int × Int) :=
  some (a0_0, a0_1, a0_2, a0_3, 1)

theorem gogeom_geom0_NumCoords_sim {k : Nat} {wa0 : Addr} (a0_0 : Int) (a0_1 : Int) (a0_2 : List Nat) (a0_3 : Int) {out : Int × Int × (List Nat) × Int × Int} (hp : gogeom_geom0_NumCoords k a0_0 a0_1 a0_2 a0_3 = some out) : Go.Sx.Fn Try.prog 150 [(Vl (.pointer (some wa0)))] [⟨.pointer (some wa0), [(Vl (.int .i64 a0_0)), (Vl (.int .i64 a0_1)), (Sl Kf a0_2), (Vl (.int .i64 a0_3))], 114, none⟩] (fun w : Unit => (Vl (.int .i64 out.2.2.2.2))) (fun w => [⟨.pointer (some wa0), [(Vl (.int .i64 out.1)), (Vl (.int .i64 out.2.1)), (Sl Kf out.2.2.1), (Vl (.int .i64 out.2.2.2.1))], 114, none⟩]) := by
  unfold gogeom_geom0_NumCoords at hp
  refine fn_of Try.func150 rfl Try.ntmps150 rfl fun E hM => ?_
  refine cx_seq' fun K1 hK1 => ?_
  refine cx_region' ?_
  refine sx_rd' (rd_assign' rfl) rfl rfl (wt_none' rfl) ?_
  refine sx_nil' ?_
  show TX E K1 _
  refine tx_k' hK1 ?_
  refine cx_seq' fun K2 hK2 => ?_
  refine cx_region' ?_
  refine sx_rd' (rd_assign' rfl) rfl rfl (wt_none' rfl) ?_
  refine sx_nil' ?_
  show TX E K2 _
  refine tx_k' hK2 ?_
  refine cx_retc' ?_
  replace hp := Option.some.inj hp
  subst hp
  refine tx_pick' (L' := [(2, (Vl (.int .i64 1)))]) (H' := [⟨.pointer (some wa0), [(Vl (.int .i64 a0_0)), (Vl (.int .i64 a0_1)), (Sl Kf a0_2), (Vl (.int .i64 a0_3))], 114, none⟩]) [0] (sub_cons rfl sub_nil) (by decide) (pick_cons rfl pick_nil) ?_
  exact tx_ret1' Try.results150 rfl () (rv_tmp' rfl) (List.Sublist.refl _)

def gogeom_geom1_NumCoords (k : Nat) (a0_0 : Int) (a0_1 : Int) (a0_2 : List Nat) (a0_3 : Int) : Option (Int × Int × (List Nat) × Int × Int) :=
  (iquo .i64 (a0_2.length : Int) a0_1) >>= fun r14 =>
  some (a0_0, a0_1, a0_2, a0_3, r14)

theorem gogeom_geom1_NumCoords_sim {k : Nat} {wa0 : Addr} (a0_0 : Int) (a0_1 : Int) (a0_2 : List Nat) (a0_3 : Int) {out : Int × Int × (List Nat) × Int × Int} (hp : gogeom_geom1_NumCoords k a0_0 a0_1 a0_2 a0_3 = some out) : Go.Sx.Fn Try.prog 167 [(Vl (.pointer (some wa0)))] [⟨.pointer (some wa0), [(Vl (.int .i64 a0_0)), (Vl (.int .i64 a0_1)), (Sl Kf a0_2), (Vl (.int .i64 a0_3))], 160, none⟩] (fun w : Unit => (Vl (.int .i64 out.2.2.2.2))) (fun w => [⟨.pointer (some wa0), [(Vl (.int .i64 out.1)), (Vl (.int .i64 out.2.1)), (Sl Kf out.2.2.1), (Vl (.int .i64 out.2.2.2.1))], 160, none⟩]) := by
  unfold gogeom_geom1_NumCoords at hp
  refine fn_of Try.func167 rfl Try.ntmps167 rfl fun E hM => ?_
  refine cx_seq' fun K1 hK1 => ?_
  refine cx_region' ?_
  refine sx_rd' (rd_assign' rfl) rfl rfl (wt_none' rfl) ?_
  refine sx_nil' ?_
  show TX E K1 _
  refine tx_k' hK1 ?_
  refine cx_seq' fun K2 hK2 => ?_
  refine cx_draw' mixed (by kernel_rfl) ?_
  refine qx_rd' (rd_move' rfl) rfl rfl (wt_none' rfl) ?_
  refine qx_rd' (rd_nilck' rfl) rfl rfl (wt_none' rfl) ?_
  refine qx_rd' (rd_field0' rfl Try.underlying149 rfl info112 rfl) rfl rfl (wt_none' rfl) ?_
  refine qx_rd' (rd_field' (off := 2) rfl Try.underlying112 rfl info22 rfl) rfl rfl (wt_none' rfl) ?_
  refine qx_rd' (rd_load' (i := 0) (o := 2) rfl ⟨rfl, rfl, rfl, rfl⟩ rfl flat22) rfl rfl (wt_none' rfl) ?_
  refine qx_rd' (rd_len' rfl Try.underlying22) rfl rfl (wt_none' rfl) ?_
  refine qx_rd' (rd_move' rfl) rfl rfl (wt_none' rfl) ?_
  refine qx_rd' (rd_nilck' rfl) rfl rfl (wt_none' rfl) ?_
  refine qx_rd' (rd_field0' rfl Try.underlying149 rfl info112 rfl) rfl rfl (wt_none' rfl) ?_
  refine qx_rd' (rd_field' (off := 1) rfl Try.underlying112 rfl info3 rfl) rfl rfl (wt_none' rfl) ?_
  refine qx_rd' (rd_load' (i := 0) (o := 1) rfl ⟨rfl, rfl, rfl, rfl⟩ rfl flat3) rfl rfl (wt_none' rfl) ?_
  obtain ⟨r14, hr14, hp⟩ := bind_some hp
  refine qx_rd' (rd_bin' rfl rfl eg_int (ru_quo hr14)) rfl rfl (wt_none' rfl) ?_
  refine qx_rd' (rd_assign' rfl) rfl rfl (wt_none' rfl) ?_
  refine qx_nil' ?_
  show TX E K2 _
  refine tx_k' hK2 ?_
  refine cx_retc' ?_
  replace hp := Option.some.inj hp
  subst hp
  refine tx_pick' (L' := [(2, (Vl (.int .i64 r14)))]) (H' := [⟨.pointer (some wa0), [(Vl (.int .i64 a0_0)), (Vl (.int .i64 a0_1)), (Sl Kf a0_2), (Vl (.int .i64 a0_3))], 160, none⟩]) [0] (sub_cons rfl sub_nil) (by decide) (pick_cons rfl pick_nil) ?_
  exact tx_ret1' Try.results167 rfl () (rv_tmp' rfl) (List.Sublist.refl _)

def gogeom_geom1_NumCoords_v2 (k : Nat) (a0_0 : Int) (a0_1 : Int) (a0_2 : List Nat) (a0_3 : Int) : Option (Int × Int × (List Nat) × Int × Int) :=
  (iquo .i64 (a0_2.length : Int) a0_1) >>= fun r14 =>
  some (a0_0, a0_1, a0_2, a0_3, r14)

theorem gogeom_geom1_NumCoords_v2_sim {k : Nat} {wa0 : Addr} (a0_0 : Int) (a0_1 : Int) (a0_2 : List Nat) (a0_3 : Int) {out : Int × Int × (List Nat) × Int × Int} (hp : gogeom_geom1_NumCoords_v2 k a0_0 a0_1 a0_2 a0_3 = some out) : Go.Sx.Fn Try.prog 167 [(Vl (.pointer (some wa0)))] [⟨.pointer (some wa0), [(Vl (.int .i64 a0_0)), (Vl (.int .i64 a0_1)), (Sl Kf a0_2), (Vl (.int .i64 a0_3))], 151, none⟩] (fun w : Unit => (Vl (.int .i64 out.2.2.2.2))) (fun w => [⟨.pointer (some wa0), [(Vl (.int .i64 out.1)), (Vl (.int .i64 out.2.1)), (Sl Kf out.2.2.1), (Vl (.int .i64 out.2.2.2.1))], 151, none⟩]) := by
  unfold gogeom_geom1_NumCoords_v2 at hp
  refine fn_of Try.func167 rfl Try.ntmps167 rfl fun E hM => ?_
  refine cx_seq' fun K1 hK1 => ?_
  refine cx_region' ?_
  refine sx_rd' (rd_assign' rfl) rfl rfl (wt_none' rfl) ?_
  refine sx_nil' ?_
  show TX E K1 _
  refine tx_k' hK1 ?_
  refine cx_seq' fun K2 hK2 => ?_
  refine cx_draw' mixed (by kernel_rfl) ?_
  refine qx_rd' (rd_move' rfl) rfl rfl (wt_none' rfl) ?_
  refine qx_rd' (rd_nilck' rfl) rfl rfl (wt_none' rfl) ?_
  refine qx_rd' (rd_field0' rfl Try.underlying149 rfl info112 rfl) rfl rfl (wt_none' rfl) ?_
  refine qx_rd' (rd_field' (off := 2) rfl Try.underlying112 rfl info22 rfl) rfl rfl (wt_none' rfl) ?_
  refine qx_rd' (rd_load' (i := 0) (o := 2) rfl ⟨rfl, rfl, rfl, rfl⟩ rfl flat22) rfl rfl (wt_none' rfl) ?_
  refine qx_rd' (rd_len' rfl Try.underlying22) rfl rfl (wt_none' rfl) ?_
  refine qx_rd' (rd_move' rfl) rfl rfl (wt_none' rfl) ?_
  refine qx_rd' (rd_nilck' rfl) rfl rfl (wt_none' rfl) ?_
  refine qx_rd' (rd_field0' rfl Try.underlying149 rfl info112 rfl) rfl rfl (wt_none' rfl) ?_
  refine qx_rd' (rd_field' (off := 1) rfl Try.underlying112 rfl info3 rfl) rfl rfl (wt_none' rfl) ?_
  refine qx_rd' (rd_load' (i := 0) (o := 1) rfl ⟨rfl, rfl, rfl, rfl⟩ rfl flat3) rfl rfl (wt_none' rfl) ?_
  obtain ⟨r14, hr14, hp⟩ := bind_some hp
  refine qx_rd' (rd_bin' rfl rfl eg_int (ru_quo hr14)) rfl rfl (wt_none' rfl) ?_
  refine qx_rd' (rd_assign' rfl) rfl rfl (wt_none' rfl) ?_
  refine qx_nil' ?_
  show TX E K2 _
  refine tx_k' hK2 ?_
  refine cx_retc' ?_
  replace hp := Option.some.inj hp
  subst hp
  refine tx_pick' (L' := [(2, (Vl (.int .i64 r14)))]) (H' := [⟨.pointer (some wa0), [(Vl (.int .i64 a0_0)), (Vl (.int .i64 a0_1)), (Sl Kf a0_2), (Vl (.int .i64 a0_3))], 151, none⟩]) [0] (sub_cons rfl sub_nil) (by decide) (pick_cons rfl pick_nil) ?_
  exact tx_ret1' Try.results167 rfl () (rv_tmp' rfl) (List.Sublist.refl _)

def gogeom_geom1_NumCoords_v3 (k : Nat) (a0_0 : Int) (a0_1 : Int) (a0_2 : List Nat) (a0_3 : Int) (a0_4 : List Int) : Option (Int × Int × (List Nat) × Int × (List Int) × Int) :=
  (iquo .i64 (a0_2.length : Int) a0_1) >>= fun r14 =>
  some (a0_0, a0_1, a0_2, a0_3, a0_4, r14)

theorem gogeom_geom1_NumCoords_v3_sim {k : Nat} {wa0 : Addr} (a0_0 : Int) (a0_1 : Int) (a0_2 : List Nat) (a0_3 : Int) (a0_4 : List Int) {out : Int × Int × (List Nat) × Int × (List Int) × Int} (hp : gogeom_geom1_NumCoords_v3 k a0_0 a0_1 a0_2 a0_3 a0_4 = some out) : Go.Sx.Fn Try.prog 167 [(Vl (.pointer (some wa0)))] [⟨.pointer (some wa0), [(Vl (.int .i64 a0_0)), (Vl (.int .i64 a0_1)), (Sl Kf a0_2), (Vl (.int .i64 a0_3)), (Sl (Ki .i64) a0_4)], 155, none⟩] (fun w : Unit => (Vl (.int .i64 out.2.2.2.2.2))) (fun w => [⟨.pointer (some wa0), [(Vl (.int .i64 out.1)), (Vl (.int .i64 out.2.1)), (Sl Kf out.2.2.1), (Vl (.int .i64 out.2.2.2.1)), (Sl (Ki .i64) out.2.2.2.2.1)], 155, none⟩]) := by
  unfold gogeom_geom1_NumCoords_v3 at hp
  refine fn_of Try.func167 rfl Try.ntmps167 rfl fun E hM => ?_
  refine cx_seq' fun K1 hK1 => ?_
  refine cx_region' ?_
  refine sx_rd' (rd_assign' rfl) rfl rfl (wt_none' rfl) ?_
  refine sx_nil' ?_
  show TX E K1 _
  refine tx_k' hK1 ?_
  refine cx_seq' fun K2 hK2 => ?_
  refine cx_draw' mixed (by kernel_rfl) ?_
  refine qx_rd' (rd_move' rfl) rfl rfl (wt_none' rfl) ?_
  refine qx_rd' (rd_nilck' rfl) rfl rfl (wt_none' rfl) ?_
  refine qx_rd' (rd_field0' rfl Try.underlying149 rfl info112 rfl) rfl rfl (wt_none' rfl) ?_
  refine qx_rd' (rd_field' (off := 2) rfl Try.underlying112 rfl info22 rfl) rfl rfl (wt_none' rfl) ?_
  refine qx_rd' (rd_load' (i := 0) (o := 2) rfl ⟨rfl, rfl, rfl, rfl⟩ rfl flat22) rfl rfl (wt_none' rfl) ?_
  refine qx_rd' (rd_len' rfl Try.underlying22) rfl rfl (wt_none' rfl) ?_
  refine qx_rd' (rd_move' rfl) rfl rfl (wt_none' rfl) ?_
  refine qx_rd' (rd_nilck' rfl) rfl rfl (wt_none' rfl) ?_
  refine qx_rd' (rd_field0' rfl Try.underlying149 rfl info112 rfl) rfl rfl (wt_none' rfl) ?_
  refine qx_rd' (rd_field' (off := 1) rfl Try.underlying112 rfl info3 rfl) rfl rfl (wt_none' rfl) ?_
  refine qx_rd' (rd_load' (i := 0) (o := 1) rfl ⟨rfl, rfl, rfl, rfl⟩ rfl flat3) rfl rfl (wt_none' rfl) ?_
  obtain ⟨r14, hr14, hp⟩ := bind_some hp
  refine qx_rd' (rd_bin' rfl rfl eg_int (ru_quo hr14)) rfl rfl (wt_none' rfl) ?_
  refine qx_rd' (rd_assign' rfl) rfl rfl (wt_none' rfl) ?_
  refine qx_nil' ?_
  show TX E K2 _
  refine tx_k' hK2 ?_
  refine cx_retc' ?_
  replace hp := Option.some.inj hp
  subst hp
  refine tx_pick' (L' := [(2, (Vl (.int .i64 r14)))]) (H' := [⟨.pointer (some wa0), [(Vl (.int .i64 a0_0)), (Vl (.int .i64 a0_1)), (Sl Kf a0_2), (Vl (.int .i64 a0_3)), (Sl (Ki .i64) a0_4)], 155, none⟩]) [0] (sub_cons rfl sub_nil) (by decide) (pick_cons rfl pick_nil) ?_
  exact tx_ret1' Try.results167 rfl () (rv_tmp' rfl) (List.Sublist.refl _)

def gogeom_MultiPoint_NumCoords (k : Nat) (a0_0 : Int) (a0_1 : Int) (a0_2 : List Nat) (a0_3 : Int) (a0_4 : List Int) : Option (Int × Int × (List Nat) × Int × (List Int) × Int) :=
  some (a0_0, a0_1, a0_2, a0_3, a0_4, (a0_4.length : Int))

theorem gogeom_MultiPoint_NumCoords_sim {k : Nat} {wa0 : Addr} (a0_0 : Int) (a0_1 : Int) (a0_2 : List Nat) (a0_3 : Int) (a0_4 : List Int) {out : Int × Int × (List Nat) × Int × (List Int) × Int} (hp : gogeom_MultiPoint_NumCoords k a0_0 a0_1 a0_2 a0_3 a0_4 = some out) : Go.Sx.Fn Try.prog 176 [(Vl (.pointer (some wa0)))] [⟨.pointer (some wa0), [(Vl (.int .i64 a0_0)), (Vl (.int .i64 a0_1)), (Sl Kf a0_2), (Vl (.int .i64 a0_3)), (Sl (Ki .i64) a0_4)], 158, none⟩] (fun w : Unit => (Vl (.int .i64 out.2.2.2.2.2))) (fun w => [⟨.pointer (some wa0), [(Vl (.int .i64 out.1)), (Vl (.int .i64 out.2.1)), (Sl Kf out.2.2.1), (Vl (.int .i64 out.2.2.2.1)), (Sl (Ki .i64) out.2.2.2.2.1)], 158, none⟩]) := by
  unfold gogeom_MultiPoint_NumCoords at hp
  refine fn_of Try.func176 rfl Try.ntmps176 rfl fun E hM => ?_
  refine cx_seq' fun K1 hK1 => ?_
  refine cx_region' ?_
  refine sx_rd' (rd_assign' rfl) rfl rfl (wt_none' rfl) ?_
  refine sx_nil' ?_
  show TX E K1 _
  refine tx_k' hK1 ?_
  refine cx_seq' fun K2 hK2 => ?_
  refine cx_region' ?_
  refine sx_rd' (rd_move' rfl) rfl rfl (wt_none' rfl) ?_
  refine sx_rd' (rd_nilck' rfl) rfl rfl (wt_none' rfl) ?_
  refine sx_rd' (rd_field0' rfl Try.underlying158 rfl info153 rfl) rfl rfl (wt_none' rfl) ?_
  refine sx_rd' (rd_field' (off := 4) rfl Try.underlying153 rfl info23 rfl) rfl rfl (wt_none' rfl) ?_
  refine sx_rd' (rd_load' (i := 0) (o := 4) rfl ⟨rfl, rfl, rfl, rfl⟩ rfl flat23) rfl rfl (wt_none' rfl) ?_
  refine sx_rd' (rd_len' rfl Try.underlying23) rfl rfl (wt_none' rfl) ?_
  refine sx_rd' (rd_assign' rfl) rfl rfl (wt_none' rfl) ?_
  refine sx_nil' ?_
  show TX E K2 _
  refine tx_k' hK2 ?_
  refine cx_retc' ?_
  replace hp := Option.some.inj hp
  subst hp
  refine tx_pick' (L' := [(2, (Vl (.int .i64 (a0_4.length : Int))))]) (H' := [⟨.pointer (some wa0), [(Vl (.int .i64 a0_0)), (Vl (.int .i64 a0_1)), (Sl Kf a0_2), (Vl (.int .i64 a0_3)), (Sl (Ki .i64) a0_4)], 158, none⟩]) [0] (sub_cons rfl sub_nil) (by decide) (pick_cons rfl pick_nil) ?_
  exact tx_ret1' Try.results176 rfl () (rv_tmp' rfl) (List.Sublist.refl _)

def gogeom_geom1_NumCoords_v4 (k : Nat) (a0_0 : Int) (a0_1 : Int) (a0_2 : List Nat) (a0_3 : Int) (a0_4 : List Int) : Option (Int × Int × (List Nat) × Int × (List Int) × Int) :=
  (iquo .i64 (a0_2.length : Int) a0_1) >>= fun r14 =>
  some (a0_0, a0_1, a0_2, a0_3, a0_4, r14)

theorem gogeom_geom1_NumCoords_v4_sim {k : Nat} {wa0 : Addr} (a0_0 : Int) (a0_1 : Int) (a0_2 : List Nat) (a0_3 : Int) (a0_4 : List Int) {out : Int × Int × (List Nat) × Int × (List Int) × Int} (hp : gogeom_geom1_NumCoords_v4 k a0_0 a0_1 a0_2 a0_3 a0_4 = some out) : Go.Sx.Fn Try.prog 167 [(Vl (.pointer (some wa0)))] [⟨.pointer (some wa0), [(Vl (.int .i64 a0_0)), (Vl (.int .i64 a0_1)), (Sl Kf a0_2), (Vl (.int .i64 a0_3)), (Sl (Ki .i64) a0_4)], 161, none⟩] (fun w : Unit => (Vl (.int .i64 out.2.2.2.2.2))) (fun w => [⟨.pointer (some wa0), [(Vl (.int .i64 out.1)), (Vl (.int .i64 out.2.1)), (Sl Kf out.2.2.1), (Vl (.int .i64 out.2.2.2.1)), (Sl (Ki .i64) out.2.2.2.2.1)], 161, none⟩]) := by
  unfold gogeom_geom1_NumCoords_v4 at hp
  refine fn_of Try.func167 rfl Try.ntmps167 rfl fun E hM => ?_
  refine cx_seq' fun K1 hK1 => ?_
  refine cx_region' ?_
  refine sx_rd' (rd_assign' rfl) rfl rfl (wt_none' rfl) ?_
  refine sx_nil' ?_
  show TX E K1 _
  refine tx_k' hK1 ?_
  refine cx_seq' fun K2 hK2 => ?_
  refine cx_draw' mixed (by kernel_rfl) ?_
  refine qx_rd' (rd_move' rfl) rfl rfl (wt_none' rfl) ?_
  refine qx_rd' (rd_nilck' rfl) rfl rfl (wt_none' rfl) ?_
  refine qx_rd' (rd_field0' rfl Try.underlying149 rfl info112 rfl) rfl rfl (wt_none' rfl) ?_
  refine qx_rd' (rd_field' (off := 2) rfl Try.underlying112 rfl info22 rfl) rfl rfl (wt_none' rfl) ?_
  refine qx_rd' (rd_load' (i := 0) (o := 2) rfl ⟨rfl, rfl, rfl, rfl⟩ rfl flat22) rfl rfl (wt_none' rfl) ?_
  refine qx_rd' (rd_len' rfl Try.underlying22) rfl rfl (wt_none' rfl) ?_
  refine qx_rd' (rd_move' rfl) rfl rfl (wt_none' rfl) ?_
  refine qx_rd' (rd_nilck' rfl) rfl rfl (wt_none' rfl) ?_
  refine qx_rd' (rd_field0' rfl Try.underlying149 rfl info112 rfl) rfl rfl (wt_none' rfl) ?_
  refine qx_rd' (rd_field' (off := 1) rfl Try.underlying112 rfl info3 rfl) rfl rfl (wt_none' rfl) ?_
  refine qx_rd' (rd_load' (i := 0) (o := 1) rfl ⟨rfl, rfl, rfl, rfl⟩ rfl flat3) rfl rfl (wt_none' rfl) ?_
  obtain ⟨r14, hr14, hp⟩ := bind_some hp
  refine qx_rd' (rd_bin' rfl rfl eg_int (ru_quo hr14)) rfl rfl (wt_none' rfl) ?_
  refine qx_rd' (rd_assign' rfl) rfl rfl (wt_none' rfl) ?_
  refine qx_nil' ?_
  show TX E K2 _
  refine tx_k' hK2 ?_
  refine cx_retc' ?_
  replace hp := Option.some.inj hp
  subst hp
  refine tx_pick' (L' := [(2, (Vl (.int .i64 r14)))]) (H' := [⟨.pointer (some wa0), [(Vl (.int .i64 a0_0)), (Vl (.int .i64 a0_1)), (Sl Kf a0_2), (Vl (.int .i64 a0_3)), (Sl (Ki .i64) a0_4)], 161, none⟩]) [0] (sub_cons rfl sub_nil) (by decide) (pick_cons rfl pick_nil) ?_
  exact tx_ret1' Try.results167 rfl () (rv_tmp' rfl) (List.Sublist.refl _)

def gogeom_geom1_NumCoords_v5 (k : Nat) (a0_0 : Int) (a0_1 : Int) (a0_2 : List Nat) (a0_3 : Int) (a0_4 : List (List Int)) : Option (Int × Int × (List Nat) × Int × (List (List Int)) × Int) :=
  (iquo .i64 (a0_2.length : Int) a0_1) >>= fun r14 =>
  some (a0_0, a0_1, a0_2, a0_3, a0_4, r14)

theorem gogeom_geom1_NumCoords_v5_sim {k : Nat} {wa0 : Addr} (a0_0 : Int) (a0_1 : Int) (a0_2 : List Nat) (a0_3 : Int) (a0_4 : List (List Int)) {out : Int × Int × (List Nat) × Int × (List (List Int)) × Int} (hp : gogeom_geom1_NumCoords_v5 k a0_0 a0_1 a0_2 a0_3 a0_4 = some out) : Go.Sx.Fn Try.prog 167 [(Vl (.pointer (some wa0)))] [⟨.pointer (some wa0), [(Vl (.int .i64 a0_0)), (Vl (.int .i64 a0_1)), (Sl Kf a0_2), (Vl (.int .i64 a0_3)), (Sl (Kl (Ki .i64)) a0_4)], 165, none⟩] (fun w : Unit => (Vl (.int .i64 out.2.2.2.2.2))) (fun w => [⟨.pointer (some wa0), [(Vl (.int .i64 out.1)), (Vl (.int .i64 out.2.1)), (Sl Kf out.2.2.1), (Vl (.int .i64 out.2.2.2.1)), (Sl (Kl (Ki .i64)) out.2.2.2.2.1)], 165, none⟩]) := by
  unfold gogeom_geom1_NumCoords_v5 at hp
  refine fn_of Try.func167 rfl Try.ntmps167 rfl fun E hM => ?_
  refine cx_seq' fun K1 hK1 => ?_
  refine cx_region' ?_
  refine sx_rd' (rd_assign' rfl) rfl rfl (wt_none' rfl) ?_
  refine sx_nil' ?_
  show TX E K1 _
  refine tx_k' hK1 ?_
  refine cx_seq' fun K2 hK2 => ?_
  refine cx_draw' mixed (by kernel_rfl) ?_
  refine qx_rd' (rd_move' rfl) rfl rfl (wt_none' rfl) ?_
  refine qx_rd' (rd_nilck' rfl) rfl rfl (wt_none' rfl) ?_
  refine qx_rd' (rd_field0' rfl Try.underlying149 rfl info112 rfl) rfl rfl (wt_none' rfl) ?_
  refine qx_rd' (rd_field' (off := 2) rfl Try.underlying112 rfl info22 rfl) rfl rfl (wt_none' rfl) ?_
  refine qx_rd' (rd_load' (i := 0) (o := 2) rfl ⟨rfl, rfl, rfl, rfl⟩ rfl flat22) rfl rfl (wt_none' rfl) ?_
  refine qx_rd' (rd_len' rfl Try.underlying22) rfl rfl (wt_none' rfl) ?_
  refine qx_rd' (rd_move' rfl) rfl rfl (wt_none' rfl) ?_
  refine qx_rd' (rd_nilck' rfl) rfl rfl (wt_none' rfl) ?_
  refine qx_rd' (rd_field0' rfl Try.underlying149 rfl info112 rfl) rfl rfl (wt_none' rfl) ?_
  refine qx_rd' (rd_field' (off := 1) rfl Try.underlying112 rfl info3 rfl) rfl rfl (wt_none' rfl) ?_
  refine qx_rd' (rd_load' (i := 0) (o := 1) rfl ⟨rfl, rfl, rfl, rfl⟩ rfl flat3) rfl rfl (wt_none' rfl) ?_
  obtain ⟨r14, hr14, hp⟩ := bind_some hp
  refine qx_rd' (rd_bin' rfl rfl eg_int (ru_quo hr14)) rfl rfl (wt_none' rfl) ?_
  refine qx_rd' (rd_assign' rfl) rfl rfl (wt_none' rfl) ?_
  refine qx_nil' ?_
  show TX E K2 _
  refine tx_k' hK2 ?_
  refine cx_retc' ?_
  replace hp := Option.some.inj hp
  subst hp
  refine tx_pick' (L' := [(2, (Vl (.int .i64 r14)))]) (H' := [⟨.pointer (some wa0), [(Vl (.int .i64 a0_0)), (Vl (.int .i64 a0_1)), (Sl Kf a0_2), (Vl (.int .i64 a0_3)), (Sl (Kl (Ki .i64)) a0_4)], 165, none⟩]) [0] (sub_cons rfl sub_nil) (by decide) (pick_cons rfl pick_nil) ?_
  exact tx_ret1' Try.results167 rfl () (rv_tmp' rfl) (List.Sublist.refl _)

def impl_NumCoords (k : Nat) (a0_0 : Int) (a0_1 : Int) (a0_2 : Int) (a0_3 : List Nat) (a0_4 : List Int) (a0_5 : List (List Int)) (a0_6 : List T27) : Option (Int × Bool) :=
  (impl_geometry k a0_0 a0_1 a0_2 a0_3 a0_4 a0_5 a0_6) >>= fun r9 =>
  match r9 with
    | (.inl y1) =>
      ((gogeom_geom0_NumCoords k y1.1 y1.2.1 y1.2.2.1 y1.2.2.2) >>= fun r16 =>
      some (r16.2.2.2.2, true))
    | (.inr (.inl y1)) =>
      ((gogeom_geom1_NumCoords k y1.1 y1.2.1 y1.2.2.1 y1.2.2.2) >>= fun r16 =>
      some (r16.2.2.2.2, true))
    | (.inr (.inr (.inl y1))) =>
      ((gogeom_geom1_NumCoords_v2 k y1.1 y1.2.1 y1.2.2.1 y1.2.2.2) >>= fun r16 =>
      some (r16.2.2.2.2, true))
    | (.inr (.inr (.inr (.inl y1)))) =>
      ((gogeom_geom1_NumCoords_v3 k y1.1 y1.2.1 y1.2.2.1 y1.2.2.2.1 y1.2.2.2.2) >>= fun r16 =>
      some (r16.2.2.2.2.2, true))
    | (.inr (.inr (.inr (.inr (.inl y1))))) =>
      ((gogeom_MultiPoint_NumCoords k y1.1 y1.2.1 y1.2.2.1 y1.2.2.2.1 y1.2.2.2.2) >>= fun r16 =>
      some (r16.2.2.2.2.2, true))
    | (.inr (.inr (.inr (.inr (.inr (.inl y1)))))) =>
      ((gogeom_geom1_NumCoords_v4 k y1.1 y1.2.1 y1.2.2.1 y1.2.2.2.1 y1.2.2.2.2) >>= fun r16 =>
      some (r16.2.2.2.2.2, true))
    | (.inr (.inr (.inr (.inr (.inr (.inr (.inl y1))))))) =>
      ((gogeom_geom1_NumCoords_v5 k y1.1 y1.2.1 y1.2.2.1 y1.2.2.2.1 y1.2.2.2.2) >>= fun r16 =>
      some (r16.2.2.2.2.2, true))
    | (.inr (.inr (.inr (.inr (.inr (.inr (.inr y1))))))) =>
      (some (0, false))

theorem impl_NumCoords_sim {k : Nat}  (a0_0 : Int) (a0_1 : Int) (a0_2 : Int) (a0_3 : List Nat) (a0_4 : List Int) (a0_5 : List (List Int)) (a0_6 : List T27) {out : Int × Bool} (hp : impl_NumCoords k a0_0 a0_1 a0_2 a0_3 a0_4 a0_5 a0_6 = some out) : Go.Sx.Fn Try.prog 19 [(Ag [(Vl (.int .i64 a0_0)), (Vl (.int .i64 a0_1)), (Vl (.int .i64 a0_2)), (Sl Kf a0_3), (Sl (Ki .i64) a0_4), (Sl (Kl (Ki .i64)) a0_5), (Sl KT27 a0_6)])] [] (fun w : Unit => (Tu [(Vl (.int .i64 out.1)), (Vl (.bool out.2))])) (fun w => []) := by
  unfold impl_NumCoords at hp
  refine fnD_of Try.func19 rfl Try.ntmps19 rfl fun E hM => ?_
  refine cx_seq' fun K1 hK1 => ?_
  refine cx_region' ?_
  refine sx_ox' (ox_box' rfl (lv_ag _) rfl rfl) (wt_none' rfl) fun q1 => ?_
  refine sx_ox' (ox_alloc' info3 rfl rfl rfl rfl (l := [(Vl (.int .i64 0))]) rfl) (wt_none' rfl) fun q2 => ?_
  refine sx_ox' (ox_alloc' info4 rfl rfl rfl rfl (l := [(Vl (.bool false))]) rfl) (wt_none' rfl) fun q3 => ?_
  refine sx_nil' ?_
  show TX E K1 _
  refine tx_k' hK1 ?_
  refine cx_seq' fun K2 hK2 => ?_
  refine cx_region' ?_
  refine sx_rd' (rd_mkfunc' (us := [.pointer (some q2), .pointer (some q3)]) rfl) rfl rfl (wt_none' rfl) ?_
  refine sx_ox' (ox_defer' rfl rfl) (wt_none' rfl) fun _ => ?_
  refine sx_nil' ?_
  show TX E K2 _
  refine tx_k' hK2 ?_
  refine cx_seq' fun K3 hK3 => ?_
  refine cx_region' ?_
  refine sx_rd' (rd_load_agg' (i := 2) (o := 0) (nn := 7) rfl ⟨rfl, rfl, rfl, rfl⟩ rfl agg27 (l' := [(Vl (.int .i64 a0_0)), (Vl (.int .i64 a0_1)), (Vl (.int .i64 a0_2)), (Sl Kf a0_3), (Sl (Ki .i64) a0_4), (Sl (Kl (Ki .i64)) a0_5), (Sl KT27 a0_6)]) rfl) rfl rfl (wt_none' rfl) ?_
  obtain ⟨r9, hr9, hp⟩ := bind_some hp
  rcases r9 with y1 | y1 | y1 | y1 | y1 | y1 | y1 | y1
  · dsimp only at hp
    refine sx_ox' (ox_calln' (ent_fn' Try.func52 isn52 rfl rfl) (impl_geometry_sim _ _ _ _ _ _ _ hr9 : Go.Sx.Fn Try.prog 52 [(Ag [(Vl (.int .i64 a0_0)), (Vl (.int .i64 a0_1)), (Vl (.int .i64 a0_2)), (Sl Kf a0_3), (Sl (Ki .i64) a0_4), (Sl (Kl (Ki .i64)) a0_5), (Sl KT27 a0_6)])] [] (fun x : Addr => (If 60 (Vl (.pointer (some x))))) (fun x => [⟨.pointer (some x), [(Vl (.int .i64 y1.1)), (Vl (.int .i64 y1.2.1)), (Sl Kf y1.2.2.1), (Vl (.int .i64 y1.2.2.2))], 114, none⟩])) (Hn := fun x : Addr => [⟨.pointer (some x), [(Vl (.int .i64 y1.1)), (Vl (.int .i64 y1.2.1)), (Sl Kf y1.2.2.1), (Vl (.int .i64 y1.2.2.2))], 114, none⟩, ⟨.pointer (some q3), [(Vl (.bool false))], 4, none⟩, ⟨.pointer (some q2), [(Vl (.int .i64 0))], 3, none⟩, ⟨.pointer (some q1), [(Vl (.int .i64 a0_0)), (Vl (.int .i64 a0_1)), (Vl (.int .i64 a0_2)), (Sl Kf a0_3), (Sl (Ki .i64) a0_4), (Sl (Kl (Ki .i64)) a0_5), (Sl KT27 a0_6)], 27, none⟩]) (fun _ => rfl) rfl rfl) (wt_none' rfl) fun q9 => ?_
    refine sx_rd' (rd_assert' rfl (F := fun v => .tuple #[.iface 60 v, .bool true]) as60_75_78k as_ifok) rfl rfl (wt_none' rfl) ?_
    refine sx_rd' (rd_move' rfl) rfl rfl (wt_none' rfl) ?_
    refine sx_rd' (rd_extract' rfl rfl) rfl rfl (wt_none' rfl) ?_
    refine sx_rd' (rd_extract' rfl rfl) rfl rfl (wt_none' rfl) ?_
    refine sx_rd' (rd_assign' rfl) rfl rfl (wt_none' rfl) ?_
    refine sx_rd' (rd_assign' rfl) rfl rfl (wt_none' rfl) ?_
    refine sx_nil' ?_
    show TX E K3 _
    refine tx_k' hK3 ?_
    refine cx_seq' fun K4 hK4 => ?_
    refine cx_seq' fun K5 hK5 => ?_
    refine cx_region' ?_
    refine sx_rd' (rd_move' rfl) rfl rfl (wt_none' rfl) ?_
    refine sx_rd' (rd_un' rfl ru_not) rfl rfl (wt_none' rfl) ?_
    refine sx_nil' ?_
    show TX E K5 _
    refine tx_k' hK5 ?_
    refine cx_cond_f' rfl rfl ?_
    refine cx_skip' ?_
    show TX E K4 _
    refine tx_k' hK4 ?_
    refine cx_seq' fun K6 hK6 => ?_
    refine cx_region' ?_
    refine sx_rd' (rd_move' rfl) rfl rfl (wt_none' rfl) ?_
    obtain ⟨r16, hr16, hp⟩ := bind_some hp
    refine sx_ox' (ox_callg' (ent_inv' rfl rfl (inv_ptr0 (inv60_NumCoords _))) (gogeom_geom0_NumCoords_sim _ _ _ _ hr16 : Go.Sx.Fn Try.prog 150 [(Vl (.pointer (some q9)))] [⟨.pointer (some q9), [(Vl (.int .i64 y1.1)), (Vl (.int .i64 y1.2.1)), (Sl Kf y1.2.2.1), (Vl (.int .i64 y1.2.2.2))], 114, none⟩] (fun x : Unit => (Vl (.int .i64 r16.2.2.2.2))) (fun x => [⟨.pointer (some q9), [(Vl (.int .i64 r16.1)), (Vl (.int .i64 r16.2.1)), (Sl Kf r16.2.2.1), (Vl (.int .i64 r16.2.2.2.1))], 114, none⟩])) [0] [1, 2, 3] (by decide) (pick_cons rfl pick_nil) (pick_cons rfl (pick_cons rfl (pick_cons rfl pick_nil))) (Hn := fun x : Unit => [⟨.pointer (some q9), [(Vl (.int .i64 r16.1)), (Vl (.int .i64 r16.2.1)), (Sl Kf r16.2.2.1), (Vl (.int .i64 r16.2.2.2.1))], 114, none⟩, ⟨.pointer (some q3), [(Vl (.bool false))], 4, none⟩, ⟨.pointer (some q2), [(Vl (.int .i64 0))], 3, none⟩, ⟨.pointer (some q1), [(Vl (.int .i64 a0_0)), (Vl (.int .i64 a0_1)), (Vl (.int .i64 a0_2)), (Sl Kf a0_3), (Sl (Ki .i64) a0_4), (Sl (Kl (Ki .i64)) a0_5), (Sl KT27 a0_6)], 27, none⟩]) (fun _ => rfl) rfl rfl) (wt_none' rfl) fun ⟨⟩ => ?_
    refine sx_ox' (ox_store' (i := 2) (o := 0) rfl rfl (lv_vl rfl rfl) ⟨rfl, rfl, rfl, rfl⟩ rfl info3 rfl (H' := [⟨.pointer (some q9), [(Vl (.int .i64 r16.1)), (Vl (.int .i64 r16.2.1)), (Sl Kf r16.2.2.1), (Vl (.int .i64 r16.2.2.2.1))], 114, none⟩, ⟨.pointer (some q3), [(Vl (.bool false))], 4, none⟩, ⟨.pointer (some q2), [(Vl (.int .i64 r16.2.2.2.2))], 3, none⟩, ⟨.pointer (some q1), [(Vl (.int .i64 a0_0)), (Vl (.int .i64 a0_1)), (Vl (.int .i64 a0_2)), (Sl Kf a0_3), (Sl (Ki .i64) a0_4), (Sl (Kl (Ki .i64)) a0_5), (Sl KT27 a0_6)], 27, none⟩]) rfl) (wt_none' rfl) fun _ => ?_
    refine sx_ox' (ox_store' (i := 1) (o := 0) rfl rfl (lv_vl rfl rfl) ⟨rfl, rfl, rfl, rfl⟩ rfl info4 rfl (H' := [⟨.pointer (some q9), [(Vl (.int .i64 r16.1)), (Vl (.int .i64 r16.2.1)), (Sl Kf r16.2.2.1), (Vl (.int .i64 r16.2.2.2.1))], 114, none⟩, ⟨.pointer (some q3), [(Vl (.bool true))], 4, none⟩, ⟨.pointer (some q2), [(Vl (.int .i64 r16.2.2.2.2))], 3, none⟩, ⟨.pointer (some q1), [(Vl (.int .i64 a0_0)), (Vl (.int .i64 a0_1)), (Vl (.int .i64 a0_2)), (Sl Kf a0_3), (Sl (Ki .i64) a0_4), (Sl (Kl (Ki .i64)) a0_5), (Sl KT27 a0_6)], 27, none⟩]) rfl) (wt_none' rfl) fun _ => ?_
    refine sx_nil' ?_
    show TX E K6 _
    refine tx_k' hK6 ?_
    refine cx_retc' ?_
    replace hp := Option.some.inj hp
    subst hp
    refine tx_leave' (.inl rfl) rfl idle54 rfl Try.func54 isn54 rfl ?_
    refine tx_pick' (L' := [(2, (Vl (.pointer (some q2)))), (3, (Vl (.pointer (some q3))))]) (H' := [⟨.pointer (some q2), [(Vl (.int .i64 r16.2.2.2.2))], 3, none⟩, ⟨.pointer (some q3), [(Vl (.bool true))], 4, none⟩]) [2, 1] (sub_cons rfl (sub_cons rfl sub_nil)) (by decide) (pick_cons rfl (pick_cons rfl pick_nil)) ?_
    exact tx_ret2' Try.results19 rfl () (rv_cell' (i := 0) (o := 0) rfl ⟨rfl, rfl, rfl, rfl⟩ rfl flat3) (rv_cell' (i := 1) (o := 0) rfl ⟨rfl, rfl, rfl, rfl⟩ rfl flat4) rfl (List.nil_sublist _)
  · dsimp only at hp
    refine sx_ox' (ox_calln' (ent_fn' Try.func52 isn52 rfl rfl) (impl_geometry_sim _ _ _ _ _ _ _ hr9 : Go.Sx.Fn Try.prog 52 [(Ag [(Vl (.int .i64 a0_0)), (Vl (.int .i64 a0_1)), (Vl (.int .i64 a0_2)), (Sl Kf a0_3), (Sl (Ki .i64) a0_4), (Sl (Kl (Ki .i64)) a0_5), (Sl KT27 a0_6)])] [] (fun x : Addr => (If 94 (Vl (.pointer (some x))))) (fun x => [⟨.pointer (some x), [(Vl (.int .i64 y1.1)), (Vl (.int .i64 y1.2.1)), (Sl Kf y1.2.2.1), (Vl (.int .i64 y1.2.2.2))], 160, none⟩])) (Hn := fun x : Addr => [⟨.pointer (some x), [(Vl (.int .i64 y1.1)), (Vl (.int .i64 y1.2.1)), (Sl Kf y1.2.2.1), (Vl (.int .i64 y1.2.2.2))], 160, none⟩, ⟨.pointer (some q3), [(Vl (.bool false))], 4, none⟩, ⟨.pointer (some q2), [(Vl (.int .i64 0))], 3, none⟩, ⟨.pointer (some q1), [(Vl (.int .i64 a0_0)), (Vl (.int .i64 a0_1)), (Vl (.int .i64 a0_2)), (Sl Kf a0_3), (Sl (Ki .i64) a0_4), (Sl (Kl (Ki .i64)) a0_5), (Sl KT27 a0_6)], 27, none⟩]) (fun _ => rfl) rfl rfl) (wt_none' rfl) fun q9 => ?_
    refine sx_rd' (rd_assert' rfl (F := fun v => .tuple #[.iface 94 v, .bool true]) as94_75_78k as_ifok) rfl rfl (wt_none' rfl) ?_
    refine sx_rd' (rd_move' rfl) rfl rfl (wt_none' rfl) ?_
    refine sx_rd' (rd_extract' rfl rfl) rfl rfl (wt_none' rfl) ?_
    refine sx_rd' (rd_extract' rfl rfl) rfl rfl (wt_none' rfl) ?_
    refine sx_rd' (rd_assign' rfl) rfl rfl (wt_none' rfl) ?_
    refine sx_rd' (rd_assign' rfl) rfl rfl (wt_none' rfl) ?_
    refine sx_nil' ?_
    show TX E K3 _
    refine tx_k' hK3 ?_
    refine cx_seq' fun K4 hK4 => ?_
    refine cx_seq' fun K5 hK5 => ?_
    refine cx_region' ?_
    refine sx_rd' (rd_move' rfl) rfl rfl (wt_none' rfl) ?_
    refine sx_rd' (rd_un' rfl ru_not) rfl rfl (wt_none' rfl) ?_
    refine sx_nil' ?_
    show TX E K5 _
    refine tx_k' hK5 ?_
    refine cx_cond_f' rfl rfl ?_
    refine cx_skip' ?_
    show TX E K4 _
    refine tx_k' hK4 ?_
    refine cx_seq' fun K6 hK6 => ?_
    refine cx_region' ?_
    refine sx_rd' (rd_move' rfl) rfl rfl (wt_none' rfl) ?_
    obtain ⟨r16, hr16, hp⟩ := bind_some hp
    refine sx_ox' (ox_callg' (ent_inv' rfl rfl (inv_ptr0 (inv94_NumCoords _))) (gogeom_geom1_NumCoords_sim _ _ _ _ hr16 : Go.Sx.Fn Try.prog 167 [(Vl (.pointer (some q9)))] [⟨.pointer (some q9), [(Vl (.int .i64 y1.1)), (Vl (.int .i64 y1.2.1)), (Sl Kf y1.2.2.1), (Vl (.int .i64 y1.2.2.2))], 160, none⟩] (fun x : Unit => (Vl (.int .i64 r16.2.2.2.2))) (fun x => [⟨.pointer (some q9), [(Vl (.int .i64 r16.1)), (Vl (.int .i64 r16.2.1)), (Sl Kf r16.2.2.1), (Vl (.int .i64 r16.2.2.2.1))], 160, none⟩])) [0] [1, 2, 3] (by decide) (pick_cons rfl pick_nil) (pick_cons rfl (pick_cons rfl (pick_cons rfl pick_nil))) (Hn := fun x : Unit => [⟨.pointer (some q9), [(Vl (.int .i64 r16.1)), (Vl (.int .i64 r16.2.1)), (Sl Kf r16.2.2.1), (Vl (.int .i64 r16.2.2.2.1))], 160, none⟩, ⟨.pointer (some q3), [(Vl (.bool false))], 4, none⟩, ⟨.pointer (some q2), [(Vl (.int .i64 0))], 3, none⟩, ⟨.pointer (some q1), [(Vl (.int .i64 a0_0)), (Vl (.int .i64 a0_1)), (Vl (.int .i64 a0_2)), (Sl Kf a0_3), (Sl (Ki .i64) a0_4), (Sl (Kl (Ki .i64)) a0_5), (Sl KT27 a0_6)], 27, none⟩]) (fun _ => rfl) rfl rfl) (wt_none' rfl) fun ⟨⟩ => ?_
    refine sx_ox' (ox_store' (i := 2) (o := 0) rfl rfl (lv_vl rfl rfl) ⟨rfl, rfl, rfl, rfl⟩ rfl info3 rfl (H' := [⟨.pointer (some q9), [(Vl (.int .i64 r16.1)), (Vl (.int .i64 r16.2.1)), (Sl Kf r16.2.2.1), (Vl (.int .i64 r16.2.2.2.1))], 160, none⟩, ⟨.pointer (some q3), [(Vl (.bool false))], 4, none⟩, ⟨.pointer (some q2), [(Vl (.int .i64 r16.2.2.2.2))], 3, none⟩, ⟨.pointer (some q1), [(Vl (.int .i64 a0_0)), (Vl (.int .i64 a0_1)), (Vl (.int .i64 a0_2)), (Sl Kf a0_3), (Sl (Ki .i64) a0_4), (Sl (Kl (Ki .i64)) a0_5), (Sl KT27 a0_6)], 27, none⟩]) rfl) (wt_none' rfl) fun _ => ?_
    refine sx_ox' (ox_store' (i := 1) (o := 0) rfl rfl (lv_vl rfl rfl) ⟨rfl, rfl, rfl, rfl⟩ rfl info4 rfl (H' := [⟨.pointer (some q9), [(Vl (.int .i64 r16.1)), (Vl (.int .i64 r16.2.1)), (Sl Kf r16.2.2.1), (Vl (.int .i64 r16.2.2.2.1))], 160, none⟩, ⟨.pointer (some q3), [(Vl (.bool true))], 4, none⟩, ⟨.pointer (some q2), [(Vl (.int .i64 r16.2.2.2.2))], 3, none⟩, ⟨.pointer (some q1), [(Vl (.int .i64 a0_0)), (Vl (.int .i64 a0_1)), (Vl (.int .i64 a0_2)), (Sl Kf a0_3), (Sl (Ki .i64) a0_4), (Sl (Kl (Ki .i64)) a0_5), (Sl KT27 a0_6)], 27, none⟩]) rfl) (wt_none' rfl) fun _ => ?_
    refine sx_nil' ?_
    show TX E K6 _
    refine tx_k' hK6 ?_
    refine cx_retc' ?_
    replace hp := Option.some.inj hp
    subst hp
    refine tx_leave' (.inl rfl) rfl idle54 rfl Try.func54 isn54 rfl ?_
    refine tx_pick' (L' := [(2, (Vl (.pointer (some q2)))), (3, (Vl (.pointer (some q3))))]) (H' := [⟨.pointer (some q2), [(Vl (.int .i64 r16.2.2.2.2))], 3, none⟩, ⟨.pointer (some q3), [(Vl (.bool true))], 4, none⟩]) [2, 1] (sub_cons rfl (sub_cons rfl sub_nil)) (by decide) (pick_cons rfl (pick_cons rfl pick_nil)) ?_
    exact tx_ret2' Try.results19 rfl () (rv_cell' (i := 0) (o := 0) rfl ⟨rfl, rfl, rfl, rfl⟩ rfl flat3) (rv_cell' (i := 1) (o := 0) rfl ⟨rfl, rfl, rfl, rfl⟩ rfl flat4) rfl (List.nil_sublist _)
  · dsimp only at hp
    refine sx_ox' (ox_calln' (ent_fn' Try.func52 isn52 rfl rfl) (impl_geometry_sim _ _ _ _ _ _ _ hr9 : Go.Sx.Fn Try.prog 52 [(Ag [(Vl (.int .i64 a0_0)), (Vl (.int .i64 a0_1)), (Vl (.int .i64 a0_2)), (Sl Kf a0_3), (Sl (Ki .i64) a0_4), (Sl (Kl (Ki .i64)) a0_5), (Sl KT27 a0_6)])] [] (fun x : Addr => (If 89 (Vl (.pointer (some x))))) (fun x => [⟨.pointer (some x), [(Vl (.int .i64 y1.1)), (Vl (.int .i64 y1.2.1)), (Sl Kf y1.2.2.1), (Vl (.int .i64 y1.2.2.2))], 151, none⟩])) (Hn := fun x : Addr => [⟨.pointer (some x), [(Vl (.int .i64 y1.1)), (Vl (.int .i64 y1.2.1)), (Sl Kf y1.2.2.1), (Vl (.int .i64 y1.2.2.2))], 151, none⟩, ⟨.pointer (some q3), [(Vl (.bool false))], 4, none⟩, ⟨.pointer (some q2), [(Vl (.int .i64 0))], 3, none⟩, ⟨.pointer (some q1), [(Vl (.int .i64 a0_0)), (Vl (.int .i64 a0_1)), (Vl (.int .i64 a0_2)), (Sl Kf a0_3), (Sl (Ki .i64) a0_4), (Sl (Kl (Ki .i64)) a0_5), (Sl KT27 a0_6)], 27, none⟩]) (fun _ => rfl) rfl rfl) (wt_none' rfl) fun q9 => ?_
    refine sx_rd' (rd_assert' rfl (F := fun v => .tuple #[.iface 89 v, .bool true]) as89_75_78k as_ifok) rfl rfl (wt_none' rfl) ?_
    refine sx_rd' (rd_move' rfl) rfl rfl (wt_none' rfl) ?_
    refine sx_rd' (rd_extract' rfl rfl) rfl rfl (wt_none' rfl) ?_
    refine sx_rd' (rd_extract' rfl rfl) rfl rfl (wt_none' rfl) ?_
    refine sx_rd' (rd_assign' rfl) rfl rfl (wt_none' rfl) ?_
    refine sx_rd' (rd_assign' rfl) rfl rfl (wt_none' rfl) ?_
    refine sx_nil' ?_
    show TX E K3 _
    refine tx_k' hK3 ?_
    refine cx_seq' fun K4 hK4 => ?_
    refine cx_seq' fun K5 hK5 => ?_
    refine cx_region' ?_
    refine sx_rd' (rd_move' rfl) rfl rfl (wt_none' rfl) ?_
    refine sx_rd' (rd_un' rfl ru_not) rfl rfl (wt_none' rfl) ?_
    refine sx_nil' ?_
    show TX E K5 _
    refine tx_k' hK5 ?_
    refine cx_cond_f' rfl rfl ?_
    refine cx_skip' ?_
    show TX E K4 _
    refine tx_k' hK4 ?_
    refine cx_seq' fun K6 hK6 => ?_
    refine cx_region' ?_
    refine sx_rd' (rd_move' rfl) rfl rfl (wt_none' rfl) ?_
    obtain ⟨r16, hr16, hp⟩ := bind_some hp
    refine sx_ox' (ox_callg' (ent_inv' rfl rfl (inv_ptr0 (inv89_NumCoords _))) (gogeom_geom1_NumCoords_v2_sim _ _ _ _ hr16 : Go.Sx.Fn Try.prog 167 [(Vl (.pointer (some q9)))] [⟨.pointer (some q9), [(Vl (.int .i64 y1.1)), (Vl (.int .i64 y1.2.1)), (Sl Kf y1.2.2.1), (Vl (.int .i64 y1.2.2.2))], 151, none⟩] (fun x : Unit => (Vl (.int .i64 r16.2.2.2.2))) (fun x => [⟨.pointer (some q9), [(Vl (.int .i64 r16.1)), (Vl (.int .i64 r16.2.1)), (Sl Kf r16.2.2.1), (Vl (.int .i64 r16.2.2.2.1))], 151, none⟩])) [0] [1, 2, 3] (by decide) (pick_cons rfl pick_nil) (pick_cons rfl (pick_cons rfl (pick_cons rfl pick_nil))) (Hn := fun x : Unit => [⟨.pointer (some q9), [(Vl (.int .i64 r16.1)), (Vl (.int .i64 r16.2.1)), (Sl Kf r16.2.2.1), (Vl (.int .i64 r16.2.2.2.1))], 151, none⟩, ⟨.pointer (some q3), [(Vl (.bool false))], 4, none⟩, ⟨.pointer (some q2), [(Vl (.int .i64 0))], 3, none⟩, ⟨.pointer (some q1), [(Vl (.int .i64 a0_0)), (Vl (.int .i64 a0_1)), (Vl (.int .i64 a0_2)), (Sl Kf a0_3), (Sl (Ki .i64) a0_4), (Sl (Kl (Ki .i64)) a0_5), (Sl KT27 a0_6)], 27, none⟩]) (fun _ => rfl) rfl rfl) (wt_none' rfl) fun ⟨⟩ => ?_
    refine sx_ox' (ox_store' (i := 2) (o := 0) rfl rfl (lv_vl rfl rfl) ⟨rfl, rfl, rfl, rfl⟩ rfl info3 rfl (H' := [⟨.pointer (some q9), [(Vl (.int .i64 r16.1)), (Vl (.int .i64 r16.2.1)), (Sl Kf r16.2.2.1), (Vl (.int .i64 r16.2.2.2.1))], 151, none⟩, ⟨.pointer (some q3), [(Vl (.bool false))], 4, none⟩, ⟨.pointer (some q2), [(Vl (.int .i64 r16.2.2.2.2))], 3, none⟩, ⟨.pointer (some q1), [(Vl (.int .i64 a0_0)), (Vl (.int .i64 a0_1)), (Vl (.int .i64 a0_2)), (Sl Kf a0_3), (Sl (Ki .i64) a0_4), (Sl (Kl (Ki .i64)) a0_5), (Sl KT27 a0_6)], 27, none⟩]) rfl) (wt_none' rfl) fun _ => ?_
    refine sx_ox' (ox_store' (i := 1) (o := 0) rfl rfl (lv_vl rfl rfl) ⟨rfl, rfl, rfl, rfl⟩ rfl info4 rfl (H' := [⟨.pointer (some q9), [(Vl (.int .i64 r16.1)), (Vl (.int .i64 r16.2.1)), (Sl Kf r16.2.2.1), (Vl (.int .i64 r16.2.2.2.1))], 151, none⟩, ⟨.pointer (some q3), [(Vl (.bool true))], 4, none⟩, ⟨.pointer (some q2), [(Vl (.int .i64 r16.2.2.2.2))], 3, none⟩, ⟨.pointer (some q1), [(Vl (.int .i64 a0_0)), (Vl (.int .i64 a0_1)), (Vl (.int .i64 a0_2)), (Sl Kf a0_3), (Sl (Ki .i64) a0_4), (Sl (Kl (Ki .i64)) a0_5), (Sl KT27 a0_6)], 27, none⟩]) rfl) (wt_none' rfl) fun _ => ?_
    refine sx_nil' ?_
    show TX E K6 _
    refine tx_k' hK6 ?_
    refine cx_retc' ?_
    replace hp := Option.some.inj hp
    subst hp
    refine tx_leave' (.inl rfl) rfl idle54 rfl Try.func54 isn54 rfl ?_
    refine tx_pick' (L' := [(2, (Vl (.pointer (some q2)))), (3, (Vl (.pointer (some q3))))]) (H' := [⟨.pointer (some q2), [(Vl (.int .i64 r16.2.2.2.2))], 3, none⟩, ⟨.pointer (some q3), [(Vl (.bool true))], 4, none⟩]) [2, 1] (sub_cons rfl (sub_cons rfl sub_nil)) (by decide) (pick_cons rfl (pick_cons rfl pick_nil)) ?_
    exact tx_ret2' Try.results19 rfl () (rv_cell' (i := 0) (o := 0) rfl ⟨rfl, rfl, rfl, rfl⟩ rfl flat3) (rv_cell' (i := 1) (o := 0) rfl ⟨rfl, rfl, rfl, rfl⟩ rfl flat4) rfl (List.nil_sublist _)
  · dsimp only at hp
    refine sx_ox' (ox_calln' (ent_fn' Try.func52 isn52 rfl rfl) (impl_geometry_sim _ _ _ _ _ _ _ hr9 : Go.Sx.Fn Try.prog 52 [(Ag [(Vl (.int .i64 a0_0)), (Vl (.int .i64 a0_1)), (Vl (.int .i64 a0_2)), (Sl Kf a0_3), (Sl (Ki .i64) a0_4), (Sl (Kl (Ki .i64)) a0_5), (Sl KT27 a0_6)])] [] (fun x : Addr => (If 87 (Vl (.pointer (some x))))) (fun x => [⟨.pointer (some x), [(Vl (.int .i64 y1.1)), (Vl (.int .i64 y1.2.1)), (Sl Kf y1.2.2.1), (Vl (.int .i64 y1.2.2.2.1)), (Sl (Ki .i64) y1.2.2.2.2)], 155, none⟩])) (Hn := fun x : Addr => [⟨.pointer (some x), [(Vl (.int .i64 y1.1)), (Vl (.int .i64 y1.2.1)), (Sl Kf y1.2.2.1), (Vl (.int .i64 y1.2.2.2.1)), (Sl (Ki .i64) y1.2.2.2.2)], 155, none⟩, ⟨.pointer (some q3), [(Vl (.bool false))], 4, none⟩, ⟨.pointer (some q2), [(Vl (.int .i64 0))], 3, none⟩, ⟨.pointer (some q1), [(Vl (.int .i64 a0_0)), (Vl (.int .i64 a0_1)), (Vl (.int .i64 a0_2)), (Sl Kf a0_3), (Sl (Ki .i64) a0_4), (Sl (Kl (Ki .i64)) a0_5), (Sl KT27 a0_6)], 27, none⟩]) (fun _ => rfl) rfl rfl) (wt_none' rfl) fun q9 => ?_
    refine sx_rd' (rd_assert' rfl (F := fun v => .tuple #[.iface 87 v, .bool true]) as87_75_78k as_ifok) rfl rfl (wt_none' rfl) ?_
    refine sx_rd' (rd_move' rfl) rfl rfl (wt_none' rfl) ?_
    refine sx_rd' (rd_extract' rfl rfl) rfl rfl (wt_none' rfl) ?_
    refine sx_rd' (rd_extract' rfl rfl) rfl rfl (wt_none' rfl) ?_
    refine sx_rd' (rd_assign' rfl) rfl rfl (wt_none' rfl) ?_
    refine sx_rd' (rd_assign' rfl) rfl rfl (wt_none' rfl) ?_
    refine sx_nil' ?_
    show TX E K3 _
    refine tx_k' hK3 ?_
    refine cx_seq' fun K4 hK4 => ?_
    refine cx_seq' fun K5 hK5 => ?_
    refine cx_region' ?_
    refine sx_rd' (rd_move' rfl) rfl rfl (wt_none' rfl) ?_
    refine sx_rd' (rd_un' rfl ru_not) rfl rfl (wt_none' rfl) ?_
    refine sx_nil' ?_
    show TX E K5 _
    refine tx_k' hK5 ?_
    refine cx_cond_f' rfl rfl ?_
    refine cx_skip' ?_
    show TX E K4 _
    refine tx_k' hK4 ?_
    refine cx_seq' fun K6 hK6 => ?_
    refine cx_region' ?_
    refine sx_rd' (rd_move' rfl) rfl rfl (wt_none' rfl) ?_
    obtain ⟨r16, hr16, hp⟩ := bind_some hp
    refine sx_ox' (ox_callg' (ent_inv' rfl rfl (inv_ptr0 (inv87_NumCoords _))) (gogeom_geom1_NumCoords_v3_sim _ _ _ _ _ hr16 : Go.Sx.Fn Try.prog 167 [(Vl (.pointer (some q9)))] [⟨.pointer (some q9), [(Vl (.int .i64 y1.1)), (Vl (.int .i64 y1.2.1)), (Sl Kf y1.2.2.1), (Vl (.int .i64 y1.2.2.2.1)), (Sl (Ki .i64) y1.2.2.2.2)], 155, none⟩] (fun x : Unit => (Vl (.int .i64 r16.2.2.2.2.2))) (fun x => [⟨.pointer (some q9), [(Vl (.int .i64 r16.1)), (Vl (.int .i64 r16.2.1)), (Sl Kf r16.2.2.1), (Vl (.int .i64 r16.2.2.2.1)), (Sl (Ki .i64) r16.2.2.2.2.1)], 155, none⟩])) [0] [1, 2, 3] (by decide) (pick_cons rfl pick_nil) (pick_cons rfl (pick_cons rfl (pick_cons rfl pick_nil))) (Hn := fun x : Unit => [⟨.pointer (some q9), [(Vl (.int .i64 r16.1)), (Vl (.int .i64 r16.2.1)), (Sl Kf r16.2.2.1), (Vl (.int .i64 r16.2.2.2.1)), (Sl (Ki .i64) r16.2.2.2.2.1)], 155, none⟩, ⟨.pointer (some q3), [(Vl (.bool false))], 4, none⟩, ⟨.pointer (some q2), [(Vl (.int .i64 0))], 3, none⟩, ⟨.pointer (some q1), [(Vl (.int .i64 a0_0)), (Vl (.int .i64 a0_1)), (Vl (.int .i64 a0_2)), (Sl Kf a0_3), (Sl (Ki .i64) a0_4), (Sl (Kl (Ki .i64)) a0_5), (Sl KT27 a0_6)], 27, none⟩]) (fun _ => rfl) rfl rfl) (wt_none' rfl) fun ⟨⟩ => ?_
    refine sx_ox' (ox_store' (i := 2) (o := 0) rfl rfl (lv_vl rfl rfl) ⟨rfl, rfl, rfl, rfl⟩ rfl info3 rfl (H' := [⟨.pointer (some q9), [(Vl (.int .i64 r16.1)), (Vl (.int .i64 r16.2.1)), (Sl Kf r16.2.2.1), (Vl (.int .i64 r16.2.2.2.1)), (Sl (Ki .i64) r16.2.2.2.2.1)], 155, none⟩, ⟨.pointer (some q3), [(Vl (.bool false))], 4, none⟩, ⟨.pointer (some q2), [(Vl (.int .i64 r16.2.2.2.2.2))], 3, none⟩, ⟨.pointer (some q1), [(Vl (.int .i64 a0_0)), (Vl (.int .i64 a0_1)), (Vl (.int .i64 a0_2)), (Sl Kf a0_3), (Sl (Ki .i64) a0_4), (Sl (Kl (Ki .i64)) a0_5), (Sl KT27 a0_6)], 27, none⟩]) rfl) (wt_none' rfl) fun _ => ?_
    refine sx_ox' (ox_store' (i := 1) (o := 0) rfl rfl (lv_vl rfl rfl) ⟨rfl, rfl, rfl, rfl⟩ rfl info4 rfl (H' := [⟨.pointer (some q9), [(Vl (.int .i64 r16.1)), (Vl (.int .i64 r16.2.1)), (Sl Kf r16.2.2.1), (Vl (.int .i64 r16.2.2.2.1)), (Sl (Ki .i64) r16.2.2.2.2.1)], 155, none⟩, ⟨.pointer (some q3), [(Vl (.bool true))], 4, none⟩, ⟨.pointer (some q2), [(Vl (.int .i64 r16.2.2.2.2.2))], 3, none⟩, ⟨.pointer (some q1), [(Vl (.int .i64 a0_0)), (Vl (.int .i64 a0_1)), (Vl (.int .i64 a0_2)), (Sl Kf a0_3), (Sl (Ki .i64) a0_4), (Sl (Kl (Ki .i64)) a0_5), (Sl KT27 a0_6)], 27, none⟩]) rfl) (wt_none' rfl) fun _ => ?_
    refine sx_nil' ?_
    show TX E K6 _
    refine tx_k' hK6 ?_
    refine cx_retc' ?_
    replace hp := Option.some.inj hp
    subst hp
    refine tx_leave' (.inl rfl) rfl idle54 rfl Try.func54 isn54 rfl ?_
    refine tx_pick' (L' := [(2, (Vl (.pointer (some q2)))), (3, (Vl (.pointer (some q3))))]) (H' := [⟨.pointer (some q2), [(Vl (.int .i64 r16.2.2.2.2.2))], 3, none⟩, ⟨.pointer (some q3), [(Vl (.bool true))], 4, none⟩]) [2, 1] (sub_cons rfl (sub_cons rfl sub_nil)) (by decide) (pick_cons rfl (pick_cons rfl pick_nil)) ?_
    exact tx_ret2' Try.results19 rfl () (rv_cell' (i := 0) (o := 0) rfl ⟨rfl, rfl, rfl, rfl⟩ rfl flat3) (rv_cell' (i := 1) (o := 0) rfl ⟨rfl, rfl, rfl, rfl⟩ rfl flat4) rfl (List.nil_sublist _)
  · dsimp only at hp
    refine sx_ox' (ox_calln' (ent_fn' Try.func52 isn52 rfl rfl) (impl_geometry_sim _ _ _ _ _ _ _ hr9 : Go.Sx.Fn Try.prog 52 [(Ag [(Vl (.int .i64 a0_0)), (Vl (.int .i64 a0_1)), (Vl (.int .i64 a0_2)), (Sl Kf a0_3), (Sl (Ki .i64) a0_4), (Sl (Kl (Ki .i64)) a0_5), (Sl KT27 a0_6)])] [] (fun x : Addr => (If 90 (Vl (.pointer (some x))))) (fun x => [⟨.pointer (some x), [(Vl (.int .i64 y1.1)), (Vl (.int .i64 y1.2.1)), (Sl Kf y1.2.2.1), (Vl (.int .i64 y1.2.2.2.1)), (Sl (Ki .i64) y1.2.2.2.2)], 158, none⟩])) (Hn := fun x : Addr => [⟨.pointer (some x), [(Vl (.int .i64 y1.1)), (Vl (.int .i64 y1.2.1)), (Sl Kf y1.2.2.1), (Vl (.int .i64 y1.2.2.2.1)), (Sl (Ki .i64) y1.2.2.2.2)], 158, none⟩, ⟨.pointer (some q3), [(Vl (.bool false))], 4, none⟩, ⟨.pointer (some q2), [(Vl (.int .i64 0))], 3, none⟩, ⟨.pointer (some q1), [(Vl (.int .i64 a0_0)), (Vl (.int .i64 a0_1)), (Vl (.int .i64 a0_2)), (Sl Kf a0_3), (Sl (Ki .i64) a0_4), (Sl (Kl (Ki .i64)) a0_5), (Sl KT27 a0_6)], 27, none⟩]) (fun _ => rfl) rfl rfl) (wt_none' rfl) fun q9 => ?_
    refine sx_rd' (rd_assert' rfl (F := fun v => .tuple #[.iface 90 v, .bool true]) as90_75_78k as_ifok) rfl rfl (wt_none' rfl) ?_
    refine sx_rd' (rd_move' rfl) rfl rfl (wt_none' rfl) ?_
    refine sx_rd' (rd_extract' rfl rfl) rfl rfl (wt_none' rfl) ?_
    refine sx_rd' (rd_extract' rfl rfl) rfl rfl (wt_none' rfl) ?_
    refine sx_rd' (rd_assign' rfl) rfl rfl (wt_none' rfl) ?_
    refine sx_rd' (rd_assign' rfl) rfl rfl (wt_none' rfl) ?_
    refine sx_nil' ?_
    show TX E K3 _
    refine tx_k' hK3 ?_
    refine cx_seq' fun K4 hK4 => ?_
    refine cx_seq' fun K5 hK5 => ?_
    refine cx_region' ?_
    refine sx_rd' (rd_move' rfl) rfl rfl (wt_none' rfl) ?_
    refine sx_rd' (rd_un' rfl ru_not) rfl rfl (wt_none' rfl) ?_
    refine sx_nil' ?_
    show TX E K5 _
    refine tx_k' hK5 ?_
    refine cx_cond_f' rfl rfl ?_
    refine cx_skip' ?_
    show TX E K4 _
    refine tx_k' hK4 ?_
    refine cx_seq' fun K6 hK6 => ?_
    refine cx_region' ?_
    refine sx_rd' (rd_move' rfl) rfl rfl (wt_none' rfl) ?_
    obtain ⟨r16, hr16, hp⟩ := bind_some hp
    refine sx_ox' (ox_callg' (ent_inv' rfl rfl (inv_any0 inv90_NumCoords)) (gogeom_MultiPoint_NumCoords_sim _ _ _ _ _ hr16 : Go.Sx.Fn Try.prog 176 [(Vl (.pointer (some q9)))] [⟨.pointer (some q9), [(Vl (.int .i64 y1.1)), (Vl (.int .i64 y1.2.1)), (Sl Kf y1.2.2.1), (Vl (.int .i64 y1.2.2.2.1)), (Sl (Ki .i64) y1.2.2.2.2)], 158, none⟩] (fun x : Unit => (Vl (.int .i64 r16.2.2.2.2.2))) (fun x => [⟨.pointer (some q9), [(Vl (.int .i64 r16.1)), (Vl (.int .i64 r16.2.1)), (Sl Kf r16.2.2.1), (Vl (.int .i64 r16.2.2.2.1)), (Sl (Ki .i64) r16.2.2.2.2.1)], 158, none⟩])) [0] [1, 2, 3] (by decide) (pick_cons rfl pick_nil) (pick_cons rfl (pick_cons rfl (pick_cons rfl pick_nil))) (Hn := fun x : Unit => [⟨.pointer (some q9), [(Vl (.int .i64 r16.1)), (Vl (.int .i64 r16.2.1)), (Sl Kf r16.2.2.1), (Vl (.int .i64 r16.2.2.2.1)), (Sl (Ki .i64) r16.2.2.2.2.1)], 158, none⟩, ⟨.pointer (some q3), [(Vl (.bool false))], 4, none⟩, ⟨.pointer (some q2), [(Vl (.int .i64 0))], 3, none⟩, ⟨.pointer (some q1), [(Vl (.int .i64 a0_0)), (Vl (.int .i64 a0_1)), (Vl (.int .i64 a0_2)), (Sl Kf a0_3), (Sl (Ki .i64) a0_4), (Sl (Kl (Ki .i64)) a0_5), (Sl KT27 a0_6)], 27, none⟩]) (fun _ => rfl) rfl rfl) (wt_none' rfl) fun ⟨⟩ => ?_
    refine sx_ox' (ox_store' (i := 2) (o := 0) rfl rfl (lv_vl rfl rfl) ⟨rfl, rfl, rfl, rfl⟩ rfl info3 rfl (H' := [⟨.pointer (some q9), [(Vl (.int .i64 r16.1)), (Vl (.int .i64 r16.2.1)), (Sl Kf r16.2.2.1), (Vl (.int .i64 r16.2.2.2.1)), (Sl (Ki .i64) r16.2.2.2.2.1)], 158, none⟩, ⟨.pointer (some q3), [(Vl (.bool false))], 4, none⟩, ⟨.pointer (some q2), [(Vl (.int .i64 r16.2.2.2.2.2))], 3, none⟩, ⟨.pointer (some q1), [(Vl (.int .i64 a0_0)), (Vl (.int .i64 a0_1)), (Vl (.int .i64 a0_2)), (Sl Kf a0_3), (Sl (Ki .i64) a0_4), (Sl (Kl (Ki .i64)) a0_5), (Sl KT27 a0_6)], 27, none⟩]) rfl) (wt_none' rfl) fun _ => ?_
    refine sx_ox' (ox_store' (i := 1) (o := 0) rfl rfl (lv_vl rfl rfl) ⟨rfl, rfl, rfl, rfl⟩ rfl info4 rfl (H' := [⟨.pointer (some q9), [(Vl (.int .i64 r16.1)), (Vl (.int .i64 r16.2.1)), (Sl Kf r16.2.2.1), (Vl (.int .i64 r16.2.2.2.1)), (Sl (Ki .i64) r16.2.2.2.2.1)], 158, none⟩, ⟨.pointer (some q3), [(Vl (.bool true))], 4, none⟩, ⟨.pointer (some q2), [(Vl (.int .i64 r16.2.2.2.2.2))], 3, none⟩, ⟨.pointer (some q1), [(Vl (.int .i64 a0_0)), (Vl (.int .i64 a0_1)), (Vl (.int .i64 a0_2)), (Sl Kf a0_3), (Sl (Ki .i64) a0_4), (Sl (Kl (Ki .i64)) a0_5), (Sl KT27 a0_6)], 27, none⟩]) rfl) (wt_none' rfl) fun _ => ?_
    refine sx_nil' ?_
    show TX E K6 _
    refine tx_k' hK6 ?_
    refine cx_retc' ?_
    replace hp := Option.some.inj hp
    subst hp
    refine tx_leave' (.inl rfl) rfl idle54 rfl Try.func54 isn54 rfl ?_
    refine tx_pick' (L' := [(2, (Vl (.pointer (some q2)))), (3, (Vl (.pointer (some q3))))]) (H' := [⟨.pointer (some q2), [(Vl (.int .i64 r16.2.2.2.2.2))], 3, none⟩, ⟨.pointer (some q3), [(Vl (.bool true))], 4, none⟩]) [2, 1] (sub_cons rfl (sub_cons rfl sub_nil)) (by decide) (pick_cons rfl (pick_cons rfl pick_nil)) ?_
    exact tx_ret2' Try.results19 rfl () (rv_cell' (i := 0) (o := 0) rfl ⟨rfl, rfl, rfl, rfl⟩ rfl flat3) (rv_cell' (i := 1) (o := 0) rfl ⟨rfl, rfl, rfl, rfl⟩ rfl flat4) rfl (List.nil_sublist _)
  · dsimp only at hp
    refine sx_ox' (ox_calln' (ent_fn' Try.func52 isn52 rfl rfl) (impl_geometry_sim _ _ _ _ _ _ _ hr9 : Go.Sx.Fn Try.prog 52 [(Ag [(Vl (.int .i64 a0_0)), (Vl (.int .i64 a0_1)), (Vl (.int .i64 a0_2)), (Sl Kf a0_3), (Sl (Ki .i64) a0_4), (Sl (Kl (Ki .i64)) a0_5), (Sl KT27 a0_6)])] [] (fun x : Addr => (If 92 (Vl (.pointer (some x))))) (fun x => [⟨.pointer (some x), [(Vl (.int .i64 y1.1)), (Vl (.int .i64 y1.2.1)), (Sl Kf y1.2.2.1), (Vl (.int .i64 y1.2.2.2.1)), (Sl (Ki .i64) y1.2.2.2.2)], 161, none⟩])) (Hn := fun x : Addr => [⟨.pointer (some x), [(Vl (.int .i64 y1.1)), (Vl (.int .i64 y1.2.1)), (Sl Kf y1.2.2.1), (Vl (.int .i64 y1.2.2.2.1)), (Sl (Ki .i64) y1.2.2.2.2)], 161, none⟩, ⟨.pointer (some q3), [(Vl (.bool false))], 4, none⟩, ⟨.pointer (some q2), [(Vl (.int .i64 0))], 3, none⟩, ⟨.pointer (some q1), [(Vl (.int .i64 a0_0)), (Vl (.int .i64 a0_1)), (Vl (.int .i64 a0_2)), (Sl Kf a0_3), (Sl (Ki .i64) a0_4), (Sl (Kl (Ki .i64)) a0_5), (Sl KT27 a0_6)], 27, none⟩]) (fun _ => rfl) rfl rfl) (wt_none' rfl) fun q9 => ?_
    refine sx_rd' (rd_assert' rfl (F := fun v => .tuple #[.iface 92 v, .bool true]) as92_75_78k as_ifok) rfl rfl (wt_none' rfl) ?_
    refine sx_rd' (rd_move' rfl) rfl rfl (wt_none' rfl) ?_
    refine sx_rd' (rd_extract' rfl rfl) rfl rfl (wt_none' rfl) ?_
    refine sx_rd' (rd_extract' rfl rfl) rfl rfl (wt_none' rfl) ?_
    refine sx_rd' (rd_assign' rfl) rfl rfl (wt_none' rfl) ?_
    refine sx_rd' (rd_assign' rfl) rfl rfl (wt_none' rfl) ?_
    refine sx_nil' ?_
    show TX E K3 _
    refine tx_k' hK3 ?_
    refine cx_seq' fun K4 hK4 => ?_
    refine cx_seq' fun K5 hK5 => ?_
    refine cx_region' ?_
    refine sx_rd' (rd_move' rfl) rfl rfl (wt_none' rfl) ?_
    refine sx_rd' (rd_un' rfl ru_not) rfl rfl (wt_none' rfl) ?_
    refine sx_nil' ?_
    show TX E K5 _
    refine tx_k' hK5 ?_
    refine cx_cond_f' rfl rfl ?_
    refine cx_skip' ?_
    show TX E K4 _
    refine tx_k' hK4 ?_
    refine cx_seq' fun K6 hK6 => ?_
    refine cx_region' ?_
    refine sx_rd' (rd_move' rfl) rfl rfl (wt_none' rfl) ?_
    obtain ⟨r16, hr16, hp⟩ := bind_some hp
    refine sx_ox' (ox_callg' (ent_inv' rfl rfl (inv_ptr0 (inv92_NumCoords _))) (gogeom_geom1_NumCoords_v4_sim _ _ _ _ _ hr16 : Go.Sx.Fn Try.prog 167 [(Vl (.pointer (some q9)))] [⟨.pointer (some q9), [(Vl (.int .i64 y1.1)), (Vl (.int .i64 y1.2.1)), (Sl Kf y1.2.2.1), (Vl (.int .i64 y1.2.2.2.1)), (Sl (Ki .i64) y1.2.2.2.2)], 161, none⟩] (fun x : Unit => (Vl (.int .i64 r16.2.2.2.2.2))) (fun x => [⟨.pointer (some q9), [(Vl (.int .i64 r16.1)), (Vl (.int .i64 r16.2.1)), (Sl Kf r16.2.2.1), (Vl (.int .i64 r16.2.2.2.1)), (Sl (Ki .i64) r16.2.2.2.2.1)], 161, none⟩])) [0] [1, 2, 3] (by decide) (pick_cons rfl pick_nil) (pick_cons rfl (pick_cons rfl (pick_cons rfl pick_nil))) (Hn := fun x : Unit => [⟨.pointer (some q9), [(Vl (.int .i64 r16.1)), (Vl (.int .i64 r16.2.1)), (Sl Kf r16.2.2.1), (Vl (.int .i64 r16.2.2.2.1)), (Sl (Ki .i64) r16.2.2.2.2.1)], 161, none⟩, ⟨.pointer (some q3), [(Vl (.bool false))], 4, none⟩, ⟨.pointer (some q2), [(Vl (.int .i64 0))], 3, none⟩, ⟨.pointer (some q1), [(Vl (.int .i64 a0_0)), (Vl (.int .i64 a0_1)), (Vl (.int .i64 a0_2)), (Sl Kf a0_3), (Sl (Ki .i64) a0_4), (Sl (Kl (Ki .i64)) a0_5), (Sl KT27 a0_6)], 27, none⟩]) (fun _ => rfl) rfl rfl) (wt_none' rfl) fun ⟨⟩ => ?_
    refine sx_ox' (ox_store' (i := 2) (o := 0) rfl rfl (lv_vl rfl rfl) ⟨rfl, rfl, rfl, rfl⟩ rfl info3 rfl (H' := [⟨.pointer (some q9), [(Vl (.int .i64 r16.1)), (Vl (.int .i64 r16.2.1)), (Sl Kf r16.2.2.1), (Vl (.int .i64 r16.2.2.2.1)), (Sl (Ki .i64) r16.2.2.2.2.1)], 161, none⟩, ⟨.pointer (some q3), [(Vl (.bool false))], 4, none⟩, ⟨.pointer (some q2), [(Vl (.int .i64 r16.2.2.2.2.2))], 3, none⟩, ⟨.pointer (some q1), [(Vl (.int .i64 a0_0)), (Vl (.int .i64 a0_1)), (Vl (.int .i64 a0_2)), (Sl Kf a0_3), (Sl (Ki .i64) a0_4), (Sl (Kl (Ki .i64)) a0_5), (Sl KT27 a0_6)], 27, none⟩]) rfl) (wt_none' rfl) fun _ => ?_
    refine sx_ox' (ox_store' (i := 1) (o := 0) rfl rfl (lv_vl rfl rfl) ⟨rfl, rfl, rfl, rfl⟩ rfl info4 rfl (H' := [⟨.pointer (some q9), [(Vl (.int .i64 r16.1)), (Vl (.int .i64 r16.2.1)), (Sl Kf r16.2.2.1), (Vl (.int .i64 r16.2.2.2.1)), (Sl (Ki .i64) r16.2.2.2.2.1)], 161, none⟩, ⟨.pointer (some q3), [(Vl (.bool true))], 4, none⟩, ⟨.pointer (some q2), [(Vl (.int .i64 r16.2.2.2.2.2))], 3, none⟩, ⟨.pointer (some q1), [(Vl (.int .i64 a0_0)), (Vl (.int .i64 a0_1)), (Vl (.int .i64 a0_2)), (Sl Kf a0_3), (Sl (Ki .i64) a0_4), (Sl (Kl (Ki .i64)) a0_5), (Sl KT27 a0_6)], 27, none⟩]) rfl) (wt_none' rfl) fun _ => ?_
    refine sx_nil' ?_
    show TX E K6 _
    refine tx_k' hK6 ?_
    refine cx_retc' ?_
    replace hp := Option.some.inj hp
    subst hp
    refine tx_leave' (.inl rfl) rfl idle54 rfl Try.func54 isn54 rfl ?_
    refine tx_pick' (L' := [(2, (Vl (.pointer (some q2)))), (3, (Vl (.pointer (some q3))))]) (H' := [⟨.pointer (some q2), [(Vl (.int .i64 r16.2.2.2.2.2))], 3, none⟩, ⟨.pointer (some q3), [(Vl (.bool true))], 4, none⟩]) [2, 1] (sub_cons rfl (sub_cons rfl sub_nil)) (by decide) (pick_cons rfl (pick_cons rfl pick_nil)) ?_
    exact tx_ret2' Try.results19 rfl () (rv_cell' (i := 0) (o := 0) rfl ⟨rfl, rfl, rfl, rfl⟩ rfl flat3) (rv_cell' (i := 1) (o := 0) rfl ⟨rfl, rfl, rfl, rfl⟩ rfl flat4) rfl (List.nil_sublist _)
  · dsimp only at hp
    refine sx_ox' (ox_calln' (ent_fn' Try.func52 isn52 rfl rfl) (impl_geometry_sim _ _ _ _ _ _ _ hr9 : Go.Sx.Fn Try.prog 52 [(Ag [(Vl (.int .i64 a0_0)), (Vl (.int .i64 a0_1)), (Vl (.int .i64 a0_2)), (Sl Kf a0_3), (Sl (Ki .i64) a0_4), (Sl (Kl (Ki .i64)) a0_5), (Sl KT27 a0_6)])] [] (fun x : Addr => (If 95 (Vl (.pointer (some x))))) (fun x => [⟨.pointer (some x), [(Vl (.int .i64 y1.1)), (Vl (.int .i64 y1.2.1)), (Sl Kf y1.2.2.1), (Vl (.int .i64 y1.2.2.2.1)), (Sl (Kl (Ki .i64)) y1.2.2.2.2)], 165, none⟩])) (Hn := fun x : Addr => [⟨.pointer (some x), [(Vl (.int .i64 y1.1)), (Vl (.int .i64 y1.2.1)), (Sl Kf y1.2.2.1), (Vl (.int .i64 y1.2.2.2.1)), (Sl (Kl (Ki .i64)) y1.2.2.2.2)], 165, none⟩, ⟨.pointer (some q3), [(Vl (.bool false))], 4, none⟩, ⟨.pointer (some q2), [(Vl (.int .i64 0))], 3, none⟩, ⟨.pointer (some q1), [(Vl (.int .i64 a0_0)), (Vl (.int .i64 a0_1)), (Vl (.int .i64 a0_2)), (Sl Kf a0_3), (Sl (Ki .i64) a0_4), (Sl (Kl (Ki .i64)) a0_5), (Sl KT27 a0_6)], 27, none⟩]) (fun _ => rfl) rfl rfl) (wt_none' rfl) fun q9 => ?_
    refine sx_rd' (rd_assert' rfl (F := fun v => .tuple #[.iface 95 v, .bool true]) as95_75_78k as_ifok) rfl rfl (wt_none' rfl) ?_
    refine sx_rd' (rd_move' rfl) rfl rfl (wt_none' rfl) ?_
    refine sx_rd' (rd_extract' rfl rfl) rfl rfl (wt_none' rfl) ?_
    refine sx_rd' (rd_extract' rfl rfl) rfl rfl (wt_none' rfl) ?_
    refine sx_rd' (rd_assign' rfl) rfl rfl (wt_none' rfl) ?_
    refine sx_rd' (rd_assign' rfl) rfl rfl (wt_none' rfl) ?_
    refine sx_nil' ?_
    show TX E K3 _
    refine tx_k' hK3 ?_
    refine cx_seq' fun K4 hK4 => ?_
    refine cx_seq' fun K5 hK5 => ?_
    refine cx_region' ?_
    refine sx_rd' (rd_move' rfl) rfl rfl (wt_none' rfl) ?_
    refine sx_rd' (rd_un' rfl ru_not) rfl rfl (wt_none' rfl) ?_
    refine sx_nil' ?_
    show TX E K5 _
    refine tx_k' hK5 ?_
    refine cx_cond_f' rfl rfl ?_
    refine cx_skip' ?_
    show TX E K4 _
    refine tx_k' hK4 ?_
    refine cx_seq' fun K6 hK6 => ?_
    refine cx_region' ?_
    refine sx_rd' (rd_move' rfl) rfl rfl (wt_none' rfl) ?_
    obtain ⟨r16, hr16, hp⟩ := bind_some hp
    refine sx_ox' (ox_callg' (ent_inv' rfl rfl (inv_ptr0 (inv95_NumCoords _))) (gogeom_geom1_NumCoords_v5_sim _ _ _ _ _ hr16 : Go.Sx.Fn Try.prog 167 [(Vl (.pointer (some q9)))] [⟨.pointer (some q9), [(Vl (.int .i64 y1.1)), (Vl (.int .i64 y1.2.1)), (Sl Kf y1.2.2.1), (Vl (.int .i64 y1.2.2.2.1)), (Sl (Kl (Ki .i64)) y1.2.2.2.2)], 165, none⟩] (fun x : Unit => (Vl (.int .i64 r16.2.2.2.2.2))) (fun x => [⟨.pointer (some q9), [(Vl (.int .i64 r16.1)), (Vl (.int .i64 r16.2.1)), (Sl Kf r16.2.2.1), (Vl (.int .i64 r16.2.2.2.1)), (Sl (Kl (Ki .i64)) r16.2.2.2.2.1)], 165, none⟩])) [0] [1, 2, 3] (by decide) (pick_cons rfl pick_nil) (pick_cons rfl (pick_cons rfl (pick_cons rfl pick_nil))) (Hn := fun x : Unit => [⟨.pointer (some q9), [(Vl (.int .i64 r16.1)), (Vl (.int .i64 r16.2.1)), (Sl Kf r16.2.2.1), (Vl (.int .i64 r16.2.2.2.1)), (Sl (Kl (Ki .i64)) r16.2.2.2.2.1)], 165, none⟩, ⟨.pointer (some q3), [(Vl (.bool false))], 4, none⟩, ⟨.pointer (some q2), [(Vl (.int .i64 0))], 3, none⟩, ⟨.pointer (some q1), [(Vl (.int .i64 a0_0)), (Vl (.int .i64 a0_1)), (Vl (.int .i64 a0_2)), (Sl Kf a0_3), (Sl (Ki .i64) a0_4), (Sl (Kl (Ki .i64)) a0_5), (Sl KT27 a0_6)], 27, none⟩]) (fun _ => rfl) rfl rfl) (wt_none' rfl) fun ⟨⟩ => ?_
    refine sx_ox' (ox_store' (i := 2) (o := 0) rfl rfl (lv_vl rfl rfl) ⟨rfl, rfl, rfl, rfl⟩ rfl info3 rfl (H' := [⟨.pointer (some q9), [(Vl (.int .i64 r16.1)), (Vl (.int .i64 r16.2.1)), (Sl Kf r16.2.2.1), (Vl (.int .i64 r16.2.2.2.1)), (Sl (Kl (Ki .i64)) r16.2.2.2.2.1)], 165, none⟩, ⟨.pointer (some q3), [(Vl (.bool false))], 4, none⟩, ⟨.pointer (some q2), [(Vl (.int .i64 r16.2.2.2.2.2))], 3, none⟩, ⟨.pointer (some q1), [(Vl (.int .i64 a0_0)), (Vl (.int .i64 a0_1)), (Vl (.int .i64 a0_2)), (Sl Kf a0_3), (Sl (Ki .i64) a0_4), (Sl (Kl (Ki .i64)) a0_5), (Sl KT27 a0_6)], 27, none⟩]) rfl) (wt_none' rfl) fun _ => ?_
    refine sx_ox' (ox_store' (i := 1) (o := 0) rfl rfl (lv_vl rfl rfl) ⟨rfl, rfl, rfl, rfl⟩ rfl info4 rfl (H' := [⟨.pointer (some q9), [(Vl (.int .i64 r16.1)), (Vl (.int .i64 r16.2.1)), (Sl Kf r16.2.2.1), (Vl (.int .i64 r16.2.2.2.1)), (Sl (Kl (Ki .i64)) r16.2.2.2.2.1)], 165, none⟩, ⟨.pointer (some q3), [(Vl (.bool true))], 4, none⟩, ⟨.pointer (some q2), [(Vl (.int .i64 r16.2.2.2.2.2))], 3, none⟩, ⟨.pointer (some q1), [(Vl (.int .i64 a0_0)), (Vl (.int .i64 a0_1)), (Vl (.int .i64 a0_2)), (Sl Kf a0_3), (Sl (Ki .i64) a0_4), (Sl (Kl (Ki .i64)) a0_5), (Sl KT27 a0_6)], 27, none⟩]) rfl) (wt_none' rfl) fun _ => ?_
    refine sx_nil' ?_
    show TX E K6 _
    refine tx_k' hK6 ?_
    refine cx_retc' ?_
    replace hp := Option.some.inj hp
    subst hp
    refine tx_leave' (.inl rfl) rfl idle54 rfl Try.func54 isn54 rfl ?_
    refine tx_pick' (L' := [(2, (Vl (.pointer (some q2)))), (3, (Vl (.pointer (some q3))))]) (H' := [⟨.pointer (some q2), [(Vl (.int .i64 r16.2.2.2.2.2))], 3, none⟩, ⟨.pointer (some q3), [(Vl (.bool true))], 4, none⟩]) [2, 1] (sub_cons rfl (sub_cons rfl sub_nil)) (by decide) (pick_cons rfl (pick_cons rfl pick_nil)) ?_
    exact tx_ret2' Try.results19 rfl () (rv_cell' (i := 0) (o := 0) rfl ⟨rfl, rfl, rfl, rfl⟩ rfl flat3) (rv_cell' (i := 1) (o := 0) rfl ⟨rfl, rfl, rfl, rfl⟩ rfl flat4) rfl (List.nil_sublist _)
  · dsimp only at hp
    refine sx_ox' (ox_calln' (ent_fn' Try.func52 isn52 rfl rfl) (impl_geometry_sim _ _ _ _ _ _ _ hr9 : Go.Sx.Fn Try.prog 52 [(Ag [(Vl (.int .i64 a0_0)), (Vl (.int .i64 a0_1)), (Vl (.int .i64 a0_2)), (Sl Kf a0_3), (Sl (Ki .i64) a0_4), (Sl (Kl (Ki .i64)) a0_5), (Sl KT27 a0_6)])] [] (fun x : Addr => (If 81 (Vl (.pointer (some x))))) (fun x => [⟨.pointer (some x), [(Vl (.int .i64 y1.1)), (Vl (.slice none 0 0)), (Vl (.int .i64 y1.2))], 145, none⟩])) (Hn := fun x : Addr => [⟨.pointer (some x), [(Vl (.int .i64 y1.1)), (Vl (.slice none 0 0)), (Vl (.int .i64 y1.2))], 145, none⟩, ⟨.pointer (some q3), [(Vl (.bool false))], 4, none⟩, ⟨.pointer (some q2), [(Vl (.int .i64 0))], 3, none⟩, ⟨.pointer (some q1), [(Vl (.int .i64 a0_0)), (Vl (.int .i64 a0_1)), (Vl (.int .i64 a0_2)), (Sl Kf a0_3), (Sl (Ki .i64) a0_4), (Sl (Kl (Ki .i64)) a0_5), (Sl KT27 a0_6)], 27, none⟩]) (fun _ => rfl) rfl rfl) (wt_none' rfl) fun q9 => ?_
    refine sx_rd' (rd_assert' rfl (F := fun _ => .tuple #[.nilIface, .bool false]) as81_75_78 as_no) rfl rfl (wt_none' rfl) ?_
    refine sx_rd' (rd_move' rfl) rfl rfl (wt_none' rfl) ?_
    refine sx_rd' (rd_extract' rfl rfl) rfl rfl (wt_none' rfl) ?_
    refine sx_rd' (rd_extract' rfl rfl) rfl rfl (wt_none' rfl) ?_
    refine sx_rd' (rd_assign' rfl) rfl rfl (wt_none' rfl) ?_
    refine sx_rd' (rd_assign' rfl) rfl rfl (wt_none' rfl) ?_
    refine sx_nil' ?_
    show TX E K3 _
    refine tx_k' hK3 ?_
    refine cx_seq' fun K4 hK4 => ?_
    refine cx_seq' fun K5 hK5 => ?_
    refine cx_region' ?_
    refine sx_rd' (rd_move' rfl) rfl rfl (wt_none' rfl) ?_
    refine sx_rd' (rd_un' rfl ru_not) rfl rfl (wt_none' rfl) ?_
    refine sx_nil' ?_
    show TX E K5 _
    refine tx_k' hK5 ?_
    refine cx_cond_t' rfl rfl ?_
    refine cx_seq' fun K7 hK7 => ?_
    refine cx_region' ?_
    refine sx_ox' (ox_store' (i := 2) (o := 0) rfl rfl (lv_vl rfl rfl) ⟨rfl, rfl, rfl, rfl⟩ rfl info3 rfl (H' := [⟨.pointer (some q9), [(Vl (.int .i64 y1.1)), (Vl (.slice none 0 0)), (Vl (.int .i64 y1.2))], 145, none⟩, ⟨.pointer (some q3), [(Vl (.bool false))], 4, none⟩, ⟨.pointer (some q2), [(Vl (.int .i64 0))], 3, none⟩, ⟨.pointer (some q1), [(Vl (.int .i64 a0_0)), (Vl (.int .i64 a0_1)), (Vl (.int .i64 a0_2)), (Sl Kf a0_3), (Sl (Ki .i64) a0_4), (Sl (Kl (Ki .i64)) a0_5), (Sl KT27 a0_6)], 27, none⟩]) rfl) (wt_none' rfl) fun _ => ?_
    refine sx_ox' (ox_store' (i := 1) (o := 0) rfl rfl (lv_vl rfl rfl) ⟨rfl, rfl, rfl, rfl⟩ rfl info4 rfl (H' := [⟨.pointer (some q9), [(Vl (.int .i64 y1.1)), (Vl (.slice none 0 0)), (Vl (.int .i64 y1.2))], 145, none⟩, ⟨.pointer (some q3), [(Vl (.bool false))], 4, none⟩, ⟨.pointer (some q2), [(Vl (.int .i64 0))], 3, none⟩, ⟨.pointer (some q1), [(Vl (.int .i64 a0_0)), (Vl (.int .i64 a0_1)), (Vl (.int .i64 a0_2)), (Sl Kf a0_3), (Sl (Ki .i64) a0_4), (Sl (Kl (Ki .i64)) a0_5), (Sl KT27 a0_6)], 27, none⟩]) rfl) (wt_none' rfl) fun _ => ?_
    refine sx_nil' ?_
    show TX E K7 _
    refine tx_k' hK7 ?_
    refine cx_retc' ?_
    replace hp := Option.some.inj hp
    subst hp
    refine tx_leave' (.inl rfl) rfl idle54 rfl Try.func54 isn54 rfl ?_
    refine tx_pick' (L' := [(2, (Vl (.pointer (some q2)))), (3, (Vl (.pointer (some q3))))]) (H' := [⟨.pointer (some q2), [(Vl (.int .i64 0))], 3, none⟩, ⟨.pointer (some q3), [(Vl (.bool false))], 4, none⟩]) [2, 1] (sub_cons rfl (sub_cons rfl sub_nil)) (by decide) (pick_cons rfl (pick_cons rfl pick_nil)) ?_
    exact tx_ret2' Try.results19 rfl () (rv_cell' (i := 0) (o := 0) rfl ⟨rfl, rfl, rfl, rfl⟩ rfl flat3) (rv_cell' (i := 1) (o := 0) rfl ⟨rfl, rfl, rfl, rfl⟩ rfl flat4) rfl (List.nil_sublist _)

def laws_FnNumCoords_j3 (k : Nat) (x3 : Bool) : Option (Bool) :=
  some x3
def laws_FnNumCoords_j2 (k : Nat) (a0_0 : Int) (a0_1 : Int) (a0_2 : Int) (a0_3 : List Nat) (a0_4 : List Int) (a0_5 : List (List Int)) (a0_6 : List T27) (x2 : Bool) : Option (Bool) :=
  br x2
    (some true)
    ((impl_NumCoords k a0_0 a0_1 a0_2 a0_3 a0_4 a0_5 a0_6) >>= fun r23 =>
    br r23.2
      ((spec_Stride k a0_1) >>= fun r34 =>
      (iquo .i64 (a0_3.length : Int) r34) >>= fun r35 =>
      laws_FnNumCoords_j3 k (decide (r23.1 = r35)))
      (laws_FnNumCoords_j3 k false))
def laws_FnNumCoords_j1 (k : Nat) (a0_0 : Int) (a0_1 : Int) (a0_2 : Int) (a0_3 : List Nat) (a0_4 : List Int) (a0_5 : List (List Int)) (a0_6 : List T27) (x1 : Bool) : Option (Bool) :=
  br x1
    (laws_FnNumCoords_j2 k a0_0 a0_1 a0_2 a0_3 a0_4 a0_5 a0_6 true)
    (laws_FnNumCoords_j2 k a0_0 a0_1 a0_2 a0_3 a0_4 a0_5 a0_6 (decide (a0_0 = 4)))
def laws_FnNumCoords (k : Nat) (a0_0 : Int) (a0_1 : Int) (a0_2 : Int) (a0_3 : List Nat) (a0_4 : List Int) (a0_5 : List (List Int)) (a0_6 : List T27) : Option (Bool) :=
  (laws_zzFits2 k a0_0 a0_1 a0_2 a0_3 a0_4 a0_5 a0_6) >>= fun r6 =>
  br (!r6)
    (some true)
    ((laws_gPlain k a0_0 a0_1 a0_2 a0_3 a0_4 a0_5 a0_6) >>= fun r9 =>
    br (!r9)
      (laws_FnNumCoords_j1 k a0_0 a0_1 a0_2 a0_3 a0_4 a0_5 a0_6 true)
      (laws_FnNumCoords_j1 k a0_0 a0_1 a0_2 a0_3 a0_4 a0_5 a0_6 (decide (a0_0 = 1))))

theorem laws_FnNumCoords_sim {k : Nat}  (a0_0 : Int) (a0_1 : Int) (a0_2 : Int) (a0_3 : List Nat) (a0_4 : List Int) (a0_5 : List (List Int)) (a0_6 : List T27) {out : Bool} (hp : laws_FnNumCoords k a0_0 a0_1 a0_2 a0_3 a0_4 a0_5 a0_6 = some out) : Go.Sx.Fn Try.prog 5 [(Ag [(Vl (.int .i64 a0_0)), (Vl (.int .i64 a0_1)), (Vl (.int .i64 a0_2)), (Sl Kf a0_3), (Sl (Ki .i64) a0_4), (Sl (Kl (Ki .i64)) a0_5), (Sl KT27 a0_6)])] [] (fun w : Unit => (Vl (.bool out))) (fun w => []) := by
  unfold laws_FnNumCoords at hp
  refine fn_of Try.func5 rfl Try.ntmps5 rfl fun E hM => ?_
  refine cx_seq' fun K1 hK1 => ?_
  refine cx_region' ?_
  refine sx_ox' (ox_box' rfl (lv_ag _) rfl rfl) (wt_none' rfl) fun q1 => ?_
  refine sx_rd' (rd_assign' rfl) rfl rfl (wt_none' rfl) ?_
  refine sx_nil' ?_
  show TX E K1 _
  refine tx_k' hK1 ?_
  refine cx_seq' fun K2 hK2 => ?_
  refine cx_seq' fun K3 hK3 => ?_
  refine cx_region' ?_
  refine sx_rd' (rd_load_agg' (i := 0) (o := 0) (nn := 7) rfl ⟨rfl, rfl, rfl, rfl⟩ rfl agg27 (l' := [(Vl (.int .i64 a0_0)), (Vl (.int .i64 a0_1)), (Vl (.int .i64 a0_2)), (Sl Kf a0_3), (Sl (Ki .i64) a0_4), (Sl (Kl (Ki .i64)) a0_5), (Sl KT27 a0_6)]) rfl) rfl rfl (wt_none' rfl) ?_
  obtain ⟨r6, hr6, hp⟩ := bind_some hp
  refine sx_ox' (ox_calln' (ent_fn' Try.func14 isn14 rfl rfl) (laws_zzFits2_sim _ _ _ _ _ _ _ hr6 : Go.Sx.Fn Try.prog 14 [(Ag [(Vl (.int .i64 a0_0)), (Vl (.int .i64 a0_1)), (Vl (.int .i64 a0_2)), (Sl Kf a0_3), (Sl (Ki .i64) a0_4), (Sl (Kl (Ki .i64)) a0_5), (Sl KT27 a0_6)])] [] (fun x : Unit => (Vl (.bool r6))) (fun x => [])) (Hn := fun x : Unit => [⟨.pointer (some q1), [(Vl (.int .i64 a0_0)), (Vl (.int .i64 a0_1)), (Vl (.int .i64 a0_2)), (Sl Kf a0_3), (Sl (Ki .i64) a0_4), (Sl (Kl (Ki .i64)) a0_5), (Sl KT27 a0_6)], 27, none⟩]) (fun _ => rfl) rfl rfl) (wt_none' rfl) fun ⟨⟩ => ?_
  refine sx_rd' (rd_un' rfl ru_not) rfl rfl (wt_none' rfl) ?_
  refine sx_nil' ?_
  show TX E K3 _
  refine tx_k' hK3 ?_
  refine cx_cond' rfl (fun h1 => ?_) (fun h1 => ?_)
  · replace hp := (br_t h1).symm.trans hp
    refine cx_seq' fun K4 hK4 => ?_
    refine cx_region' ?_
    refine sx_rd' (rd_assign' rfl) rfl rfl (wt_none' rfl) ?_
    refine sx_nil' ?_
    show TX E K4 _
    refine tx_k' hK4 ?_
    refine cx_retc' ?_
    replace hp := Option.some.inj hp
    subst hp
    refine tx_pick' (L' := [(2, (Vl (.bool true)))]) (H' := []) [] (sub_cons rfl sub_nil) (by decide) pick_nil ?_
    exact tx_ret1' Try.results5 rfl () (rv_tmp' rfl) (List.Sublist.refl _)
  · replace hp := (br_f h1).symm.trans hp
    refine cx_skip' ?_
    show TX E K2 _
    refine tx_k' hK2 ?_
    refine cx_seq' fun K5 hK5 => ?_
    refine cx_seq' fun K6 hK6 => ?_
    refine cx_region' ?_
    refine sx_rd' (rd_load_agg' (i := 0) (o := 0) (nn := 7) rfl ⟨rfl, rfl, rfl, rfl⟩ rfl agg27 (l' := [(Vl (.int .i64 a0_0)), (Vl (.int .i64 a0_1)), (Vl (.int .i64 a0_2)), (Sl Kf a0_3), (Sl (Ki .i64) a0_4), (Sl (Kl (Ki .i64)) a0_5), (Sl KT27 a0_6)]) rfl) rfl rfl (wt_none' rfl) ?_
    obtain ⟨r9, hr9, hp⟩ := bind_some hp
    refine sx_ox' (ox_calln' (ent_fn' Try.func18 isn18 rfl rfl) (laws_gPlain_sim _ _ _ _ _ _ _ hr9 : Go.Sx.Fn Try.prog 18 [(Ag [(Vl (.int .i64 a0_0)), (Vl (.int .i64 a0_1)), (Vl (.int .i64 a0_2)), (Sl Kf a0_3), (Sl (Ki .i64) a0_4), (Sl (Kl (Ki .i64)) a0_5), (Sl KT27 a0_6)])] [] (fun x : Unit => (Vl (.bool r9))) (fun x => [])) (Hn := fun x : Unit => [⟨.pointer (some q1), [(Vl (.int .i64 a0_0)), (Vl (.int .i64 a0_1)), (Vl (.int .i64 a0_2)), (Sl Kf a0_3), (Sl (Ki .i64) a0_4), (Sl (Kl (Ki .i64)) a0_5), (Sl KT27 a0_6)], 27, none⟩]) (fun _ => rfl) rfl rfl) (wt_none' rfl) fun ⟨⟩ => ?_
    refine sx_rd' (rd_un' rfl ru_not) rfl rfl (wt_none' rfl) ?_
    refine sx_rd' (rd_move' rfl) rfl rfl (wt_none' rfl) ?_
    refine sx_cutn' 4 (fun (v1 : Bool) => (⟨38, [], [(1, (Vl (.pointer (some q1)))), (15, (Vl (.bool v1)))], [⟨.pointer (some q1), [(Vl (.int .i64 a0_0)), (Vl (.int .i64 a0_1)), (Vl (.int .i64 a0_2)), (Sl Kf a0_3), (Sl (Ki .i64) a0_4), (Sl (Kl (Ki .i64)) a0_5), (Sl KT27 a0_6)], 27, none⟩]⟩ : St)) (fun (v1 : Bool) => laws_FnNumCoords_j1 k a0_0 a0_1 a0_2 a0_3 a0_4 a0_5 a0_6 v1 = some out) ?_ ?_
    · rintro x1 hp
      replace hp : laws_FnNumCoords_j1 k a0_0 a0_1 a0_2 a0_3 a0_4 a0_5 a0_6 x1 = some out := hp
      unfold laws_FnNumCoords_j1 at hp
      refine sx_rd' (rd_move' rfl) rfl rfl (wt_none' rfl) ?_
      refine sx_cutn' 4 (fun (v2 : Bool) => (⟨38, [], [(1, (Vl (.pointer (some q1)))), (20, (Vl (.bool v2)))], [⟨.pointer (some q1), [(Vl (.int .i64 a0_0)), (Vl (.int .i64 a0_1)), (Vl (.int .i64 a0_2)), (Sl Kf a0_3), (Sl (Ki .i64) a0_4), (Sl (Kl (Ki .i64)) a0_5), (Sl KT27 a0_6)], 27, none⟩]⟩ : St)) (fun (v2 : Bool) => laws_FnNumCoords_j2 k a0_0 a0_1 a0_2 a0_3 a0_4 a0_5 a0_6 v2 = some out) ?_ ?_
      · rintro x2 hp
        replace hp : laws_FnNumCoords_j2 k a0_0 a0_1 a0_2 a0_3 a0_4 a0_5 a0_6 x2 = some out := hp
        unfold laws_FnNumCoords_j2 at hp
        refine sx_nil' ?_
        show TX E K6 _
        refine tx_k' hK6 ?_
        refine cx_cond' rfl (fun h4 => ?_) (fun h4 => ?_)
        · replace hp := (br_t h4).symm.trans hp
          refine cx_seq' fun K9 hK9 => ?_
          refine cx_region' ?_
          refine sx_rd' (rd_assign' rfl) rfl rfl (wt_none' rfl) ?_
          refine sx_nil' ?_
          show TX E K9 _
          refine tx_k' hK9 ?_
          refine cx_retc' ?_
          replace hp := Option.some.inj hp
          subst hp
          refine tx_pick' (L' := [(2, (Vl (.bool true)))]) (H' := []) [] (sub_cons rfl sub_nil) (by decide) pick_nil ?_
          exact tx_ret1' Try.results5 rfl () (rv_tmp' rfl) (List.Sublist.refl _)
        · replace hp := (br_f h4).symm.trans hp
          refine cx_skip' ?_
          show TX E K5 _
          refine tx_k' hK5 ?_
          refine cx_seq' fun K10 hK10 => ?_
          refine cx_region' ?_
          refine sx_rd' (rd_load_agg' (i := 0) (o := 0) (nn := 7) rfl ⟨rfl, rfl, rfl, rfl⟩ rfl agg27 (l' := [(Vl (.int .i64 a0_0)), (Vl (.int .i64 a0_1)), (Vl (.int .i64 a0_2)), (Sl Kf a0_3), (Sl (Ki .i64) a0_4), (Sl (Kl (Ki .i64)) a0_5), (Sl KT27 a0_6)]) rfl) rfl rfl (wt_none' rfl) ?_
          obtain ⟨r23, hr23, hp⟩ := bind_some hp
          refine sx_ox' (ox_calln' (ent_fn' Try.func19 isn19 rfl rfl) (impl_NumCoords_sim _ _ _ _ _ _ _ hr23 : Go.Sx.Fn Try.prog 19 [(Ag [(Vl (.int .i64 a0_0)), (Vl (.int .i64 a0_1)), (Vl (.int .i64 a0_2)), (Sl Kf a0_3), (Sl (Ki .i64) a0_4), (Sl (Kl (Ki .i64)) a0_5), (Sl KT27 a0_6)])] [] (fun x : Unit => (Tu [(Vl (.int .i64 r23.1)), (Vl (.bool r23.2))])) (fun x => [])) (Hn := fun x : Unit => [⟨.pointer (some q1), [(Vl (.int .i64 a0_0)), (Vl (.int .i64 a0_1)), (Vl (.int .i64 a0_2)), (Sl Kf a0_3), (Sl (Ki .i64) a0_4), (Sl (Kl (Ki .i64)) a0_5), (Sl KT27 a0_6)], 27, none⟩]) (fun _ => rfl) rfl rfl) (wt_none' rfl) fun ⟨⟩ => ?_
          refine sx_rd' (rd_move' rfl) rfl rfl (wt_none' rfl) ?_
          refine sx_rd' (rd_extract' rfl rfl) rfl rfl (wt_none' rfl) ?_
          refine sx_rd' (rd_extract' rfl rfl) rfl rfl (wt_none' rfl) ?_
          refine sx_rd' (rd_assign' rfl) rfl rfl (wt_none' rfl) ?_
          refine sx_rd' (rd_assign' rfl) rfl rfl (wt_none' rfl) ?_
          refine sx_nil' ?_
          show TX E K10 _
          refine tx_k' hK10 ?_
          refine cx_seq' fun K11 hK11 => ?_
          refine cx_plan' [] [] [(0, 1), (1, 1), (2, 1), (3, 1), (4, 1), (5, 1), (6, 1), (7, 1), (8, 0), (9, 1), (10, 1), (11, 1), (12, 1)] mixed (by kernel_rfl) ?_
          refine px_rd' rfl (rd_move' rfl) rfl rfl (wt_none' rfl) ?_
          refine px_rd' rfl (rd_move' rfl) rfl rfl (wt_none' rfl) ?_
          refine px_cutn' 10 (fun (v3 : Bool) => (⟨38, [], [(37, (Vl (.bool v3)))], []⟩ : St)) (fun (v3 : Bool) => laws_FnNumCoords_j3 k v3 = some out) ?_ ?_
          · rintro x3 hp
            replace hp : laws_FnNumCoords_j3 k x3 = some out := hp
            unfold laws_FnNumCoords_j3 at hp
            refine px_rd' rfl (rd_assign' rfl) rfl rfl (wt_none' rfl) ?_
            refine px_nil' ?_
            show TX E K11 _
            refine tx_k' hK11 ?_
            refine cx_retc' ?_
            replace hp := Option.some.inj hp
            subst hp
            refine tx_pick' (L' := [(2, (Vl (.bool x3)))]) (H' := []) [] (sub_cons rfl sub_nil) (by decide) pick_nil ?_
            exact tx_ret1' Try.results5 rfl () (rv_tmp' rfl) (List.Sublist.refl _)
          · intro K12 hK12
            rcases br_cases hp with ⟨h5, hp⟩ | ⟨h5, hp⟩
            · refine px_rd' rfl (rd_move' rfl) rfl rfl (wt_is' (wt_guard' rfl rfl rfl) (beq_tt h5)) ?_
              refine px_rd' rfl (rd_field' (off := 3) rfl Try.underlying27 rfl info22 rfl) rfl rfl (wt_is' (wt_guard' rfl rfl rfl) (beq_tt h5)) ?_
              refine px_rd' rfl (rd_load' (i := 0) (o := 3) rfl ⟨rfl, rfl, rfl, rfl⟩ rfl flat22) rfl rfl (wt_is' (wt_guard' rfl rfl rfl) (beq_tt h5)) ?_
              refine px_rd' rfl (rd_len' rfl Try.underlying22) rfl rfl (wt_is' (wt_guard' rfl rfl rfl) (beq_tt h5)) ?_
              refine px_rd' rfl (rd_field' (off := 1) rfl Try.underlying27 rfl info3 rfl) rfl rfl (wt_is' (wt_guard' rfl rfl rfl) (beq_tt h5)) ?_
              refine px_rd' rfl (rd_load' (i := 0) (o := 1) rfl ⟨rfl, rfl, rfl, rfl⟩ rfl flat3) rfl rfl (wt_is' (wt_guard' rfl rfl rfl) (beq_tt h5)) ?_
              obtain ⟨r34, hr34, hp⟩ := bind_some hp
              refine px_ox' rfl (ox_calln' (ent_fn' Try.func12 isn12 rfl rfl) (spec_Stride_sim _ hr34 : Go.Sx.Fn Try.prog 12 [(Vl (.int .i64 a0_1))] [] (fun x : Unit => (Vl (.int .i64 r34))) (fun x => [])) (Hn := fun x : Unit => [⟨.pointer (some q1), [(Vl (.int .i64 a0_0)), (Vl (.int .i64 a0_1)), (Vl (.int .i64 a0_2)), (Sl Kf a0_3), (Sl (Ki .i64) a0_4), (Sl (Kl (Ki .i64)) a0_5), (Sl KT27 a0_6)], 27, none⟩]) (fun _ => rfl) rfl rfl) rfl bs_nil (wt_is' (wt_guard' rfl rfl rfl) (beq_tt h5)) fun ⟨⟩ => ?_
              obtain ⟨r35, hr35, hp⟩ := bind_some hp
              refine px_rd' rfl (rd_bin' rfl rfl eg_int (ru_quo hr35)) rfl rfl (wt_is' (wt_guard' rfl rfl rfl) (beq_tt h5)) ?_
              refine px_rd' rfl (rd_bin' rfl rfl eg_int ru_eql) rfl rfl (wt_is' (wt_guard' rfl rfl rfl) (beq_tt h5)) ?_
              refine px_rd' rfl (rd_pick_true' rfl h5 rfl) rfl rfl (wt_none' rfl) ?_
              refine px_nil' ?_
              show TX E K12 _
              exact tx_pick' [] (sub_cons rfl sub_nil) (by decide) pick_nil (hK12 (decide (r23.1 = r35)) hp)
            · refine px_skip' rfl rfl rfl (wt_is' (wt_guard' rfl rfl rfl) (beq_ft h5)) ?_
              refine px_skip' rfl rfl rfl (wt_is' (wt_guard' rfl rfl rfl) (beq_ft h5)) ?_
              refine px_skip' rfl rfl rfl (wt_is' (wt_guard' rfl rfl rfl) (beq_ft h5)) ?_
              refine px_skip' rfl rfl rfl (wt_is' (wt_guard' rfl rfl rfl) (beq_ft h5)) ?_
              refine px_skip' rfl rfl rfl (wt_is' (wt_guard' rfl rfl rfl) (beq_ft h5)) ?_
              refine px_skip' rfl rfl rfl (wt_is' (wt_guard' rfl rfl rfl) (beq_ft h5)) ?_
              refine px_oskip' rfl rfl rfl (wt_is' (wt_guard' rfl rfl rfl) (beq_ft h5)) ?_
              refine px_skip' rfl rfl rfl (wt_is' (wt_guard' rfl rfl rfl) (beq_ft h5)) ?_
              refine px_skip' rfl rfl rfl (wt_is' (wt_guard' rfl rfl rfl) (beq_ft h5)) ?_
              refine px_rd' rfl (rd_pick_false' rfl h5 rfl) rfl rfl (wt_none' rfl) ?_
              refine px_nil' ?_
              show TX E K12 _
              exact tx_pick' [] (sub_cons rfl sub_nil) (by decide) pick_nil (hK12 false hp)
      · intro K8 hK8
        rcases br_cases hp with ⟨h3, hp⟩ | ⟨h3, hp⟩
        · refine sx_skip' rfl rfl (wt_is' (wt_guard' rfl rfl rfl) (beq_tf h3)) ?_
          refine sx_skip' rfl rfl (wt_is' (wt_guard' rfl rfl rfl) (beq_tf h3)) ?_
          refine sx_skip' rfl rfl (wt_is' (wt_guard' rfl rfl rfl) (beq_tf h3)) ?_
          refine sx_rd' (rd_pick_true' rfl h3 rfl) rfl rfl (wt_none' rfl) ?_
          refine sx_nil' ?_
          show TX E K8 _
          exact tx_pick' [0] (sub_cons rfl (sub_cons rfl sub_nil)) (by decide) (pick_cons rfl pick_nil) (hK8 true hp)
        · refine sx_rd' (rd_field0' rfl Try.underlying27 rfl info3 rfl) rfl rfl (wt_is' (wt_guard' rfl rfl rfl) (beq_ff h3)) ?_
          refine sx_rd' (rd_load' (i := 0) (o := 0) rfl ⟨rfl, rfl, rfl, rfl⟩ rfl flat3) rfl rfl (wt_is' (wt_guard' rfl rfl rfl) (beq_ff h3)) ?_
          refine sx_rd' (rd_bin' rfl rfl eg_int ru_eql) rfl rfl (wt_is' (wt_guard' rfl rfl rfl) (beq_ff h3)) ?_
          refine sx_rd' (rd_pick_false' rfl h3 rfl) rfl rfl (wt_none' rfl) ?_
          refine sx_nil' ?_
          show TX E K8 _
          exact tx_pick' [0] (sub_cons rfl (sub_cons rfl sub_nil)) (by decide) (pick_cons rfl pick_nil) (hK8 (decide (a0_0 = 4)) hp)
    · intro K7 hK7
      rcases br_cases hp with ⟨h2, hp⟩ | ⟨h2, hp⟩
      · refine sx_skip' rfl rfl (wt_is' (wt_guard' rfl rfl rfl) (beq_tf h2)) ?_
        refine sx_skip' rfl rfl (wt_is' (wt_guard' rfl rfl rfl) (beq_tf h2)) ?_
        refine sx_skip' rfl rfl (wt_is' (wt_guard' rfl rfl rfl) (beq_tf h2)) ?_
        refine sx_rd' (rd_pick_true' rfl h2 rfl) rfl rfl (wt_none' rfl) ?_
        refine sx_nil' ?_
        show TX E K7 _
        exact tx_pick' [0] (sub_cons rfl (sub_cons rfl sub_nil)) (by decide) (pick_cons rfl pick_nil) (hK7 true hp)
      · refine sx_rd' (rd_field0' rfl Try.underlying27 rfl info3 rfl) rfl rfl (wt_is' (wt_guard' rfl rfl rfl) (beq_ff h2)) ?_
        refine sx_rd' (rd_load' (i := 0) (o := 0) rfl ⟨rfl, rfl, rfl, rfl⟩ rfl flat3) rfl rfl (wt_is' (wt_guard' rfl rfl rfl) (beq_ff h2)) ?_
        refine sx_rd' (rd_bin' rfl rfl eg_int ru_eql) rfl rfl (wt_is' (wt_guard' rfl rfl rfl) (beq_ff h2)) ?_
        refine sx_rd' (rd_pick_false' rfl h2 rfl) rfl rfl (wt_none' rfl) ?_
        refine sx_nil' ?_
        show TX E K7 _
        exact tx_pick' [0] (sub_cons rfl (sub_cons rfl sub_nil)) (by decide) (pick_cons rfl pick_nil) (hK7 (decide (a0_0 = 1)) hp)

end Go.Proofs.Ytohopkpjccpckaa
